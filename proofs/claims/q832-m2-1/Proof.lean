import JvmDerived
import JvmDerived.Pilot.@@N@@Statement
import JvmDerived.Pilot.@@N@@Code
set_option linter.unusedVariables false
set_option linter.unusedSimpArgs false
/- laws to paste: Road.backV, Road.codOf, shr0, chr8_lo8 (cut by pick.py; bodies as the Statement names them) -/
namespace Jvm.Pilot.@@N@@
namespace StrChars
open Jvm Sem ClassFile Op Lib Jvm.Stand Jvm.Free.XT Jvm.Free.ALB Jvm.Free.JM Jvm.Free
open Jvm.Lib.Cold (StaticIs)
/-- a char array whose places are chars -/
def Ch (a : Addr) (A : Cell) (U : State) : Prop := Arr .char a A U ∧ Typed .char A
theorem Ch.mv {a : Addr} {A : Cell} {U U' : State} (h : Ch a A U) (hal : U.vm.Alike U'.vm) (hh : U'.heap = U.heap) : Ch a A U' := ⟨h.1.mv hal hh, h.2⟩
theorem Ch.keep {a : Addr} {A : Cell} {U U' : State} (h : Ch a A U) (hal : U.vm.Alike U'.vm) (hk : U'.heap[a]? = some A) : Ch a A U' := ⟨h.1.keep hal hk, h.2⟩
/-- what place i of a char[]'s cell holds -/
def cv (A : Cell) (i : Nat) : Int32 := match A.slots[i]? with | some (.int x) => x | _ => 0
theorem Ch.get {a : Addr} {A : Cell} {U : State} (h : Ch a A U) {i : Nat} (hi : i < A.slots.size) : A.slots[i]? = some (.int (cv A i)) := by
  have e := Array.getElem?_eq_getElem hi
  have f := h.2 i _ e
  unfold cv; rw [e]
  generalize A.slots[i] = v at f
  cases v <;> simp [fits] at f ⊢
/-- the byte that i2b leaves of a char -/
def lo8 (x : Int32) : Int32 := x.toInt8.toInt32
theorem fits_lo8 (y : Int32) : fits .byte (.int (lo8 y)) = true := by
  have h1 := y.toInt8.le_toInt
  have h2 := y.toInt8.toInt_lt
  simp only [lo8, fits, Bool.and_eq_true, decide_eq_true_eq, Int32.le_iff_toInt_le, Int8.toInt_toInt32, show (-128 : Int32).toInt = -128 from by decide, show (127 : Int32).toInt = 127 from by decide]
  omega
/-- A' is A but that each place j of lo .. hi - 1 holds f j -/
def Laid (A A' : Cell) (lo hi : Nat) (f : Nat → Value) : Prop := A'.cls = A.cls ∧ A'.vm = A.vm ∧ A'.slots.size = A.slots.size ∧ ∀ i, A'.slots[i]? = if lo ≤ i ∧ i < hi then some (f i) else A.slots[i]?
theorem Laid.zero (A : Cell) (lo : Nat) (f : Nat → Value) : Laid A A lo (lo + 0) f := ⟨rfl, rfl, rfl, fun i => by rw [if_neg (by omega)]⟩
theorem Laid.step {A Ak : Cell} {lo k : Nat} {f : Nat → Value} {v : Value} (h : Laid A Ak lo k f) (hlo : lo ≤ k) (hk : k < Ak.slots.size) (hv : v = f k) : Laid A (Ak.setSlot k v) lo (k + 1) f := by
  refine ⟨h.1, h.2.1, by simpa [Cell.setSlot] using h.2.2.1, fun i => ?_⟩
  by_cases e : k = i
  · subst e; rw [Cell.slots_setSlot_self v hk, if_pos (by omega), hv]
  · rw [Cell.slots_setSlot_ne v e, h.2.2.2 i]
    by_cases q : lo ≤ i ∧ i < k
    · rw [if_pos q, if_pos (by omega)]
    · rw [if_neg q, if_neg (by omega)]
def U16 : String := "java/lang/StringUTF16"
namespace Cmp5
def yN : MethodName := ⟨"java/lang/StringUTF16", "compress", "([CI[BII)I"⟩
abbrev yB : ByteArray := jdk_52_method_21_code
theorem d0 : decode yB 0 = .ok (.iconst 0, 1) := by decide +kernel
theorem d1 : decode yB 1 = .ok (.istore 5, 2) := by decide +kernel
theorem d3 : decode yB 3 = .ok (.iload 5, 2) := by decide +kernel
theorem d5 : decode yB 5 = .ok (.iload 4, 2) := by decide +kernel
theorem d7 : decode yB 7 = .ok (.if_icmp (.ge) 37, 3) := by decide +kernel
theorem d10 : decode yB 10 = .ok (.aload_n 0, 1) := by decide +kernel
theorem d11 : decode yB 11 = .ok (.iload_n 1, 1) := by decide +kernel
theorem d12 : decode yB 12 = .ok (.caload, 1) := by decide +kernel
theorem d13 : decode yB 13 = .ok (.istore 6, 2) := by decide +kernel
theorem d15 : decode yB 15 = .ok (.iload 6, 2) := by decide +kernel
theorem d17 : decode yB 17 = .ok (.sipush 255, 3) := by decide +kernel
theorem d20 : decode yB 20 = .ok (.if_icmp (.le) 6, 3) := by decide +kernel
theorem d26 : decode yB 26 = .ok (.aload_n 2, 1) := by decide +kernel
theorem d27 : decode yB 27 = .ok (.iload_n 3, 1) := by decide +kernel
theorem d28 : decode yB 28 = .ok (.iload 6, 2) := by decide +kernel
theorem d30 : decode yB 30 = .ok (.i2b, 1) := by decide +kernel
theorem d31 : decode yB 31 = .ok (.bastore, 1) := by decide +kernel
theorem d32 : decode yB 32 = .ok (.iinc 1 1, 3) := by decide +kernel
theorem d35 : decode yB 35 = .ok (.iinc 3 1, 3) := by decide +kernel
theorem d38 : decode yB 38 = .ok (.iinc 5 1, 3) := by decide +kernel
theorem d41 : decode yB 41 = .ok (.goto (-38), 3) := by decide +kernel
theorem d44 : decode yB 44 = .ok (.iload 4, 2) := by decide +kernel
theorem d46 : decode yB 46 = .ok (.ireturn, 1) := by decide +kernel
def site : List Cond := []
def tab : Cond := tabOf yN yB 7 (some .int) site
def P (b : Addr) (A : Cell) (d : Addr) (B : Cell) (o q len : Nat) (args : Array Value) (s : State) : Prop := args = #[.ref b, .int (Int32.ofNat o), .ref d, .int (Int32.ofNat q), .int (Int32.ofNat len)] ∧ Ch b A s ∧ Arr .byte d B s ∧ b ≠ d ∧ o + len ≤ A.slots.size ∧ q + len ≤ B.slots.size ∧ ∀ i, i < len → ¬ 255 < cv A (o + i)
def E (b : Addr) (A : Cell) (d : Addr) (B : Cell) (o q len : Nat) (r : Option Value) (s u : State) : Prop := r = some (.int (Int32.ofNat len)) ∧ ∃ B', Put d B' s u ∧ Laid B B' q (q + len) (fun j => Value.int (lo8 (cv A (o + (j - q)))))
/-- no char of the range above 255: len; the places written hold each char's low byte -/
theorem law (l : Launch) (b : Addr) (A : Cell) (d : Addr) (B : Cell) (o q len : Nat) : Law l yN 5 5 0 0 yB 7 (some .int) site (P b A d B o q len) (E b A d B o q len) (copyLocs d q len) 0 0 := by
  refine Law.of_walk (plainFor_of_name (by decide +kernel)) (by decide +kernel) (by decide +kernel) (by decide) (fun _ _ h => by rw [h.1]; rfl) (fun _ U U' hal hh h => ⟨h.1, h.2.1.mv hal hh, h.2.2.1.mv hal hh, h.2.2.2⟩) (fun r U U' V V' h1 hal h2 h => ⟨h.1, h.2.elim fun B' q => ⟨B', q.1.mv h1 h2, q.2⟩⟩) ?_
  intro p e s m args below meth c s₁ X0 hexec hbytes hml hret hlk hnm hown hh0 W hP
  obtain ⟨rfl, hA, hB, hne, l1, l2, hp⟩ := hP
  have c1 : Steps p.tables e below (s₁.setTop (entryFrame m #[.ref b, .int (Int32.ofNat o), .ref d, .int (Int32.ofNat q), .int (Int32.ofNat len)] 7)) (s₁.setTop (mkF m 0 #[.val (.ref b), .val (.int (Int32.ofNat o)), .val (.ref d), .val (.int (Int32.ofNat q)), .val (.int (Int32.ofNat len)), .unset, .unset] [])) := entry rfl
  have hA0 := hA.1.mv X0.warmed.alike hh0
  have hB0 := hB.mv X0.warmed.alike hh0
  have a31 := hA.1.2.2.2
  have c2 : Steps p.tables e below (s₁.setTop (entryFrame m #[.ref b, .int (Int32.ofNat o), .ref d, .int (Int32.ofNat q), .int (Int32.ofNat len)] 7)) (s₁.setTop (mkF m 3 #[.val (.ref b), .val (.int (Int32.ofNat o)), .val (.ref d), .val (.int (Int32.ofNat q)), .val (.int (Int32.ofNat len)), .val (.int 0), .unset] [])) := c1.trans (by
    refine iconstV X0.here hexec rfl 0 (hb hbytes d0) (by decide) ?_
    refine XS.istore X0.here hexec rfl (hb hbytes d1) rfl rfl ?_
    exact Steps.refl _)
  have loop : ∀ (r i : Nat), i + r = len → ∀ (z : Slot), (z = .unset ∨ ∃ w, z = .val w ∧ w.category = 1) → ∀ (Tl : State) (Bk : Cell), Stand p l e { frames := 0, locals := 0, cells := 0, slots := 0 } s m #[.ref b, .int (Int32.ofNat o), .ref d, .int (Int32.ofNat q), .int (Int32.ofNat len)] below meth c Tl ([] ++ copyLocs d q i) 0 0 → Put d Bk s₁ Tl → Laid B Bk q (q + i) (fun j => Value.int (lo8 (cv A (o + (j - q))))) →
      Steps p.tables e below (s₁.setTop (entryFrame m #[.ref b, .int (Int32.ofNat o), .ref d, .int (Int32.ofNat q), .int (Int32.ofNat len)] 7)) (Tl.setTop (mkF m 3 #[.val (.ref b), .val (.int (Int32.ofNat (o + i))), .val (.ref d), .val (.int (Int32.ofNat (q + i))), .val (.int (Int32.ofNat len)), .val (.int (Int32.ofNat i)), z] [])) → ∃ (T' : State) (B' : Cell) (z' : Slot), Stand p l e { frames := 0, locals := 0, cells := 0, slots := 0 } s m #[.ref b, .int (Int32.ofNat o), .ref d, .int (Int32.ofNat q), .int (Int32.ofNat len)] below meth c T' ([] ++ copyLocs d q len) 0 0 ∧ Put d B' s₁ T' ∧ Laid B B' q (q + len) (fun j => Value.int (lo8 (cv A (o + (j - q))))) ∧
      Steps p.tables e below (s₁.setTop (entryFrame m #[.ref b, .int (Int32.ofNat o), .ref d, .int (Int32.ofNat q), .int (Int32.ofNat len)] 7)) (T'.setTop (mkF m 3 #[.val (.ref b), .val (.int (Int32.ofNat (o + len))), .val (.ref d), .val (.int (Int32.ofNat (q + len))), .val (.int (Int32.ofNat len)), .val (.int (Int32.ofNat len)), z'] [])) := by
    intro r
    induction r with
    | zero =>
      intro i hi z hz Tl Bk Xl pl fl cl
      have hil : i = len := by omega
      rw [hil] at Xl fl cl
      exact ⟨Tl, Bk, z, Xl, pl, fl, cl⟩
    | succ r ih =>
      intro i hi z hz Tl Bk Xl pl fl cl
      have all := X0.warmed.alike.symm.trans Xl.warmed.alike
      have hAl := hA0.keep all (pl.other hne hA0.1)
      have hBk := hB0.like all pl.1 fl.1 fl.2.1 fl.2.2.1
      have hlt : q + i < Bk.slots.size := by rw [fl.2.2.1]; omega
      have c3 : Steps p.tables e below (s₁.setTop (entryFrame m #[.ref b, .int (Int32.ofNat o), .ref d, .int (Int32.ofNat q), .int (Int32.ofNat len)] 7)) (Tl.setTop (mkF m 12 #[.val (.ref b), .val (.int (Int32.ofNat (o + i))), .val (.ref d), .val (.int (Int32.ofNat (q + i))), .val (.int (Int32.ofNat len)), .val (.int (Int32.ofNat i)), z] [.int (Int32.ofNat (o + i)), .ref b])) := cl.trans (by
        refine XS.iload Xl.here hexec rfl (hb hbytes d3) rfl ?_
        refine XS.iload Xl.here hexec rfl (hb hbytes d5) rfl ?_
        refine XS.icmpNo Xl.here hexec rfl (hb hbytes d7) rfl (ii_ge_f (lt32 (by omega) (by omega))) ?_
        refine XS.aloadN Xl.here hexec rfl (hb hbytes d10) rfl rfl ?_
        refine XS.iloadN Xl.here hexec rfl (hb hbytes d11) rfl ?_
        exact Steps.refl _)
      have c4 : Steps p.tables e below (s₁.setTop (entryFrame m #[.ref b, .int (Int32.ofNat o), .ref d, .int (Int32.ofNat q), .int (Int32.ofNat len)] 7)) (Tl.setTop (mkF m 13 #[.val (.ref b), .val (.int (Int32.ofNat (o + i))), .val (.ref d), .val (.int (Int32.ofNat (q + i))), .val (.int (Int32.ofNat len)), .val (.int (Int32.ofNat i)), z] [.int (cv A (o + i))])) := c3.trans (by
        refine Xl.aget hexec hAl rfl (hA.get (i := o + i) (by omega)) rfl rfl (hb hbytes d12) ?_
        exact Steps.refl _)
      have c5 : Steps p.tables e below (s₁.setTop (entryFrame m #[.ref b, .int (Int32.ofNat o), .ref d, .int (Int32.ofNat q), .int (Int32.ofNat len)] 7)) (Tl.setTop (mkF m 15 #[.val (.ref b), .val (.int (Int32.ofNat (o + i))), .val (.ref d), .val (.int (Int32.ofNat (q + i))), .val (.int (Int32.ofNat len)), .val (.int (Int32.ofNat i)), .val (.int (cv A (o + i)))] [])) := c4.trans (by
        refine XS.istoreS Xl.here hexec rfl (hb hbytes d13) rfl rfl hz ?_
        exact Steps.refl _)
      have c6 : Steps p.tables e below (s₁.setTop (entryFrame m #[.ref b, .int (Int32.ofNat o), .ref d, .int (Int32.ofNat q), .int (Int32.ofNat len)] 7)) (Tl.setTop (mkF m 31 #[.val (.ref b), .val (.int (Int32.ofNat (o + i))), .val (.ref d), .val (.int (Int32.ofNat (q + i))), .val (.int (Int32.ofNat len)), .val (.int (Int32.ofNat i)), .val (.int (cv A (o + i)))] [.int (lo8 (cv A (o + i))), .int (Int32.ofNat (q + i)), .ref d])) := c5.trans (by
        refine XS.iload Xl.here hexec rfl (hb hbytes d15) rfl ?_
        refine sipushV Xl.here hexec rfl 255 (hb hbytes d17) (by decide) ?_
        refine XS.icmpYes Xl.here hexec rfl (pc0 := 20) rfl (hb hbytes d20) rfl (ii_le_t (hp i (by omega))) (by decide) rfl ?_
        refine XS.aloadN Xl.here hexec rfl (hb hbytes d26) rfl rfl ?_
        refine XS.iloadN Xl.here hexec rfl (hb hbytes d27) rfl ?_
        refine XS.iload Xl.here hexec rfl (hb hbytes d28) rfl ?_
        refine i2b Xl.here hexec rfl (hb hbytes d30) rfl ?_
        exact Steps.refl _)
      obtain ⟨T7, X7, p7, st7⟩ := Xl.aput hexec hBk rfl hlt rfl (fits_lo8 (cv A (o + i))) (g := (mkF m 31 #[.val (.ref b), .val (.int (Int32.ofNat (o + i))), .val (.ref d), .val (.int (Int32.ofNat (q + i))), .val (.int (Int32.ofNat len)), .val (.int (Int32.ofNat i)), .val (.int (cv A (o + i)))] [.int (lo8 (cv A (o + i))), .int (Int32.ofNat (q + i)), .ref d])) rfl (rest := []) rfl (hb hbytes d31)
      have c8 : Steps p.tables e below (s₁.setTop (entryFrame m #[.ref b, .int (Int32.ofNat o), .ref d, .int (Int32.ofNat q), .int (Int32.ofNat len)] 7)) (T7.setTop (mkF m 32 #[.val (.ref b), .val (.int (Int32.ofNat (o + i))), .val (.ref d), .val (.int (Int32.ofNat (q + i))), .val (.int (Int32.ofNat len)), .val (.int (Int32.ofNat i)), .val (.int (cv A (o + i)))] [])) := c6.trans (st7 _ (Steps.refl _))
      have c9 : Steps p.tables e below (s₁.setTop (entryFrame m #[.ref b, .int (Int32.ofNat o), .ref d, .int (Int32.ofNat q), .int (Int32.ofNat len)] 7)) (T7.setTop (mkF m 3 #[.val (.ref b), .val (.int (Int32.ofNat (o + i) + 1)), .val (.ref d), .val (.int (Int32.ofNat (q + i) + 1)), .val (.int (Int32.ofNat len)), .val (.int (Int32.ofNat i + 1)), .val (.int (cv A (o + i)))] [])) := c8.trans (by
        refine iincV X7.here hexec rfl 1 (hb hbytes d32) (by decide) rfl rfl ?_
        refine iincV X7.here hexec rfl 1 (hb hbytes d35) (by decide) rfl rfl ?_
        refine iincV X7.here hexec rfl 1 (hb hbytes d38) (by decide) rfl rfl ?_
        refine XS.goto X7.here hexec rfl (pc0 := 41) rfl (hb hbytes d41) (by decide) rfl ?_
        exact Steps.refl _)
      have c10 : Steps p.tables e below (s₁.setTop (entryFrame m #[.ref b, .int (Int32.ofNat o), .ref d, .int (Int32.ofNat q), .int (Int32.ofNat len)] 7)) (T7.setTop (mkF m 3 #[.val (.ref b), .val (.int (Int32.ofNat (o + (i + 1)))), .val (.ref d), .val (.int (Int32.ofNat (q + (i + 1)))), .val (.int (Int32.ofNat len)), .val (.int (Int32.ofNat (i + 1))), .val (.int (cv A (o + i)))] [])) := by
        have := c9
        rw [succ32, succ32, succ32] at this
        exact this
      exact ih (i + 1) (by omega) _ (Or.inr ⟨_, rfl, rfl⟩) T7 _ (by rw [copyLocs_step, ← List.append_assoc]; exact X7) (pl.trans p7) (fl.step (by omega) hlt (by simp)) c10
  obtain ⟨T9, B9, z9, X9, p9, f9, g9⟩ := loop len 0 (by omega) .unset (Or.inl rfl) s₁ B (by simpa [copyLocs] using X0) ⟨hB0.1, fun _ _ => rfl, rfl⟩ (Laid.zero _ _ _) c2
  have c11 : Steps p.tables e below (s₁.setTop (entryFrame m #[.ref b, .int (Int32.ofNat o), .ref d, .int (Int32.ofNat q), .int (Int32.ofNat len)] 7)) (T9.setTop (mkF m 46 #[.val (.ref b), .val (.int (Int32.ofNat (o + len))), .val (.ref d), .val (.int (Int32.ofNat (q + len))), .val (.int (Int32.ofNat len)), .val (.int (Int32.ofNat len)), z9] [.int (Int32.ofNat len)])) := g9.trans (by
    refine XS.iload X9.here hexec rfl (hb hbytes d3) rfl ?_
    refine XS.iload X9.here hexec rfl (hb hbytes d5) rfl ?_
    refine XS.icmpYes X9.here hexec rfl (pc0 := 7) rfl (hb hbytes d7) rfl (ii_ge_t (nlt32 (by omega) (Nat.le_refl _))) (by decide) rfl ?_
    refine XS.iload X9.here hexec rfl (hb hbytes d44) rfl ?_
    exact Steps.refl _)
  exact ⟨T9, some (.int (Int32.ofNat len)), _, _, _, X9, by simp, rfl, rfl, (fun h => by cases h), ⟨rfl, B9, p9.from hh0, f9⟩, fun fs hl => c11.trans (X9.ireturnOut hexec hret rfl (Or.inl rfl) (hb hbytes d46) hl)⟩
end Cmp5
namespace Cmp3
def yN : MethodName := ⟨"java/lang/StringUTF16", "compress", "([CII)[B"⟩
abbrev yB : ByteArray := jdk_52_method_16_code
theorem d0 : decode yB 0 = .ok (.iload_n 2, 1) := by decide +kernel
theorem d1 : decode yB 1 = .ok (.newarray .byte, 2) := by decide +kernel
theorem d3 : decode yB 3 = .ok (.astore_n 3, 1) := by decide +kernel
theorem d4 : decode yB 4 = .ok (.aload_n 0, 1) := by decide +kernel
theorem d5 : decode yB 5 = .ok (.iload_n 1, 1) := by decide +kernel
theorem d6 : decode yB 6 = .ok (.aload_n 3, 1) := by decide +kernel
theorem d7 : decode yB 7 = .ok (.iconst 0, 1) := by decide +kernel
theorem d8 : decode yB 8 = .ok (.iload_n 2, 1) := by decide +kernel
theorem d9 : decode yB 9 = .ok (.invokestatic 115, 3) := by decide +kernel
theorem d12 : decode yB 12 = .ok (.istore 4, 2) := by decide +kernel
theorem d14 : decode yB 14 = .ok (.iload 4, 2) := by decide +kernel
theorem d16 : decode yB 16 = .ok (.iload_n 2, 1) := by decide +kernel
theorem d17 : decode yB 17 = .ok (.if_icmp (.eq) 40, 3) := by decide +kernel
theorem d57 : decode yB 57 = .ok (.aload_n 3, 1) := by decide +kernel
theorem d58 : decode yB 58 = .ok (.areturn, 1) := by decide +kernel
def site : List Cond := [.arrayClass .byte, Cmp5.tab] ++ staticW U16 115 Cmp5.yN
def tab : Cond := tabOf yN yB 6 (some (.array .byte)) site
def P (b : Addr) (A : Cell) (o len : Nat) (args : Array Value) (s : State) : Prop := args = #[.ref b, .int (Int32.ofNat o), .int (Int32.ofNat len)] ∧ Ch b A s ∧ o + len ≤ A.slots.size ∧ len ≤ 536870912 ∧ ∀ i, i < len → ¬ 255 < cv A (o + i)
def E (b : Addr) (A : Cell) (o len : Nat) (r : Option Value) (s u : State) : Prop := NewArr .byte "[B" len (fun j => .int (lo8 (cv A (o + j)))) r s u ∧ u.heap.size = s.heap.size + 1
/-- no char of the range above 255: a new byte[] of their low bytes -/
theorem law (l : Launch) (b : Addr) (A : Cell) (o len : Nat) : Law l yN 3 3 1 18 yB 6 (some (.array .byte)) site (P b A o len) (E b A o len) [] 1 len := by
  refine Law.of_walk (plainFor_of_name (by decide +kernel)) (by decide +kernel) (by decide +kernel) (by decide) (fun _ _ h => by rw [h.1]; rfl) (fun _ U U' hal hh h => ⟨h.1, h.2.1.mv hal hh, h.2.2⟩) (fun r U U' V V' h1 hal h2 h => ⟨NewArr.mv r U U' V V' h1 hal h2 h.1, by rw [h1, h2]; exact h.2⟩) ?_
  intro p e s m args below meth c s₁ X0 hexec hbytes hml hret hlk hnm hown hh0 W hP
  obtain ⟨rfl, hA, l1, l2, hp⟩ := hP
  have a31 := hA.1.2.2.2
  have c1 : Steps p.tables e below (s₁.setTop (entryFrame m #[.ref b, .int (Int32.ofNat o), .int (Int32.ofNat len)] 6)) (s₁.setTop (mkF m 0 #[.val (.ref b), .val (.int (Int32.ofNat o)), .val (.int (Int32.ofNat len)), .unset, .unset, .unset] [])) := entry rfl
  have c2 : Steps p.tables e below (s₁.setTop (entryFrame m #[.ref b, .int (Int32.ofNat o), .int (Int32.ofNat len)] 6)) (s₁.setTop (mkF m 1 #[.val (.ref b), .val (.int (Int32.ofNat o)), .val (.int (Int32.ofNat len)), .unset, .unset, .unset] [.int (Int32.ofNat len)])) := c1.trans (by
    refine XS.iloadN X0.here hexec rfl (hb hbytes d0) rfl ?_
    exact Steps.refl _)
  obtain ⟨T3, B3, X3, ba3, bs3, bv3, bh3, bf3, st3⟩ := X0.anew hexec (atype := .byte) (wk W (.arrayClass .byte)) rfl (by show len * 1 ≤ _; omega) (by omega) (g := (mkF m 1 #[.val (.ref b), .val (.int (Int32.ofNat o)), .val (.int (Int32.ofNat len)), .unset, .unset, .unset] [.int (Int32.ofNat len)])) rfl (hb hbytes d1) (rest := []) rfl (Nat.le_refl _) (by show 0 + len ≤ len; omega)
  rw [hh0] at ba3 st3
  have kp3 : XT.Kept s T3 := (XT.Kept.of_eq hh0).push bh3
  have hA3 := hA.keep X3.warmed.alike (kp3 _ _ hA.1.1)
  have hne : b ≠ s.heap.size := hA.1.ne
  have c4 : Steps p.tables e below (s₁.setTop (entryFrame m #[.ref b, .int (Int32.ofNat o), .int (Int32.ofNat len)] 6)) (T3.setTop (mkF m 3 #[.val (.ref b), .val (.int (Int32.ofNat o)), .val (.int (Int32.ofNat len)), .unset, .unset, .unset] [.ref s.heap.size])) := c2.trans (st3 _ (Steps.refl _))
  have c5 : Steps p.tables e below (s₁.setTop (entryFrame m #[.ref b, .int (Int32.ofNat o), .int (Int32.ofNat len)] 6)) (T3.setTop (mkF m 9 #[.val (.ref b), .val (.int (Int32.ofNat o)), .val (.int (Int32.ofNat len)), .val (.ref s.heap.size), .unset, .unset] [.int (Int32.ofNat len), .int 0, .ref s.heap.size, .int (Int32.ofNat o), .ref b])) := c4.trans (by
    refine XS.astoreN X3.here hexec rfl (hb hbytes d3) rfl rfl rfl ?_
    refine XS.aloadN X3.here hexec rfl (hb hbytes d4) rfl rfl ?_
    refine XS.iloadN X3.here hexec rfl (hb hbytes d5) rfl ?_
    refine XS.aloadN X3.here hexec rfl (hb hbytes d6) rfl rfl ?_
    refine iconstV X3.here hexec rfl 0 (hb hbytes d7) (by decide) ?_
    refine XS.iloadN X3.here hexec rfl (hb hbytes d8) rfl ?_
    exact Steps.refl _)
  obtain ⟨v6, T6, X6, E6, g6⟩ := X3.callS hexec (Cmp5.law l b A s.heap.size B3 o 0 len) hown (wks W (staticW U16 115 Cmp5.yN)) (wk W Cmp5.tab) (W := 0) (Nat.le_of_ble_eq_true rfl) (Nat.le_of_ble_eq_true rfl) (Nat.le_refl _) (by show 0 + len + 0 ≤ len; omega) (g := (mkF m 9 #[.val (.ref b), .val (.int (Int32.ofNat o)), .val (.int (Int32.ofNat len)), .val (.ref s.heap.size), .unset, .unset] [.int (Int32.ofNat len), .int (Int32.ofNat 0), .ref s.heap.size, .int (Int32.ofNat o), .ref b])) rfl (by rw [hml]; rfl) c5 (argsL := [.ref b, .int (Int32.ofNat o), .ref s.heap.size, .int (Int32.ofNat 0), .int (Int32.ofNat len)]) (rest := []) rfl rfl (by show 2 * 0 + 0 ≤ _; decide) (hb hbytes d9) (⟨rfl, hA3, ba3, hne, l1, by rw [bs3]; simp, hp⟩)
  obtain ⟨rfl, B6, p6, f6⟩ := E6
  have c7 : Steps p.tables e below (s₁.setTop (entryFrame m #[.ref b, .int (Int32.ofNat o), .int (Int32.ofNat len)] 6)) (T6.setTop (mkF m 12 #[.val (.ref b), .val (.int (Int32.ofNat o)), .val (.int (Int32.ofNat len)), .val (.ref s.heap.size), .unset, .unset] [.int (Int32.ofNat len)])) := g6
  have c8 : Steps p.tables e below (s₁.setTop (entryFrame m #[.ref b, .int (Int32.ofNat o), .int (Int32.ofNat len)] 6)) (T6.setTop (mkF m 58 #[.val (.ref b), .val (.int (Int32.ofNat o)), .val (.int (Int32.ofNat len)), .val (.ref s.heap.size), .val (.int (Int32.ofNat len)), .unset] [.ref s.heap.size])) := c7.trans (by
    refine XS.istore X6.here hexec rfl (hb hbytes d12) rfl rfl ?_
    refine XS.iload X6.here hexec rfl (hb hbytes d14) rfl ?_
    refine XS.iloadN X6.here hexec rfl (hb hbytes d16) rfl ?_
    refine XS.icmpYes X6.here hexec rfl (pc0 := 17) rfl (hb hbytes d17) rfl (ii_eq_t rfl) (by decide) rfl ?_
    refine XS.aloadN X6.here hexec rfl (hb hbytes d57) rfl rfl ?_
    exact Steps.refl _)
  have X8 := X6.wide (L' := []) (cells' := 1) (slots' := len) (fun x hx hlt => by
    simp only [List.nil_append, copyLocs, List.mem_map, List.mem_range] at hx
    obtain ⟨i, -, rfl⟩ := hx
    exact absurd hlt (Nat.lt_irrefl _)) (Nat.le_refl _) (by omega)
  exact ⟨T6, some (.ref s.heap.size), _, _, _, X8, rfl, rfl, rfl, (fun h => by cases h), ⟨⟨rfl, B6, ba3.like (X3.warmed.alike.symm.trans X6.warmed.alike) p6.1 f6.1 f6.2.1 f6.2.2.1, f6.2.1.trans bv3, by rw [X6.warmed.alike.findClass, f6.1]; exact bf3, by rw [f6.2.2.1, bs3]; simp, fun j hj => by rw [f6.2.2.2 j, if_pos (by omega)]; rfl, kp3.put p6 (Nat.le_refl _)⟩, by rw [p6.2.2, bh3, hh0]; simp⟩, fun fs hl => c8.trans (X8.areturnOut hexec rfl hret rfl (hb hbytes d58) hl)⟩
end Cmp3
namespace CodL
def yN : MethodName := ⟨"java/lang/StringUTF16", "coderFromArrayLen", "([BI)B"⟩
abbrev yB : ByteArray := jdk_52_method_15_code
theorem d0 : decode yB 0 = .ok (.iload_n 1, 1) := by decide +kernel
theorem d1 : decode yB 1 = .ok (.aload_n 0, 1) := by decide +kernel
theorem d2 : decode yB 2 = .ok (.arraylength, 1) := by decide +kernel
theorem d3 : decode yB 3 = .ok (.isub, 1) := by decide +kernel
theorem d4 : decode yB 4 = .ok (.bipush 31, 2) := by decide +kernel
theorem d6 : decode yB 6 = .ok (.iushr, 1) := by decide +kernel
theorem d7 : decode yB 7 = .ok (.i2b, 1) := by decide +kernel
theorem d8 : decode yB 8 = .ok (.ireturn, 1) := by decide +kernel
def site : List Cond := []
def tab : Cond := tabOf yN yB 2 (some .byte) site
def P (d : Addr) (B : Cell) (args : Array Value) (s : State) : Prop := args = #[.ref d, .int (Int32.ofNat B.slots.size)] ∧ Arr .byte d B s
def E (r : Option Value) (s u : State) : Prop := XT.PureE (some (.int 0)) r s u
/-- an array as long as the number of chars: LATIN1 -/
theorem law (l : Launch) (d : Addr) (B : Cell) : Law l yN 2 2 0 0 yB 2 (some .byte) site (P d B) E [] 0 0 := by
  refine Law.of_walk (plainFor_of_name (by decide +kernel)) (by decide +kernel) (by decide +kernel) (by decide) (fun _ _ h => by rw [h.1]; rfl) (fun _ U U' hal hh h => ⟨h.1, h.2.mv hal hh⟩) (fun r U U' V V' h1 hal h2 h => XT.PureE.mv r U U' V V' h1 hal h2 h) ?_
  intro p e s m args below meth c s₁ X0 hexec hbytes hml hret hlk hnm hown hh0 W hP
  obtain ⟨rfl, hB⟩ := hP
  have hB0 := hB.mv X0.warmed.alike hh0
  have c1 : Steps p.tables e below (s₁.setTop (entryFrame m #[.ref d, .int (Int32.ofNat B.slots.size)] 2)) (s₁.setTop (mkF m 0 #[.val (.ref d), .val (.int (Int32.ofNat B.slots.size))] [])) := entry rfl
  have c2 : Steps p.tables e below (s₁.setTop (entryFrame m #[.ref d, .int (Int32.ofNat B.slots.size)] 2)) (s₁.setTop (mkF m 2 #[.val (.ref d), .val (.int (Int32.ofNat B.slots.size))] [.ref d, .int (Int32.ofNat B.slots.size)])) := c1.trans (by
    refine XS.iloadN X0.here hexec rfl (hb hbytes d0) rfl ?_
    refine XS.aloadN X0.here hexec rfl (hb hbytes d1) rfl rfl ?_
    exact Steps.refl _)
  have c3 : Steps p.tables e below (s₁.setTop (entryFrame m #[.ref d, .int (Int32.ofNat B.slots.size)] 2)) (s₁.setTop (mkF m 8 #[.val (.ref d), .val (.int (Int32.ofNat B.slots.size))] [.int (lo8 (ushr (Int32.ofNat B.slots.size - Int32.ofNat B.slots.size) 31))])) := c2.trans (by
    refine X0.alen hexec hB0 rfl rfl (hb hbytes d2) ?_
    refine XS.isub X0.here hexec rfl (hb hbytes d3) rfl ?_
    refine bipushV X0.here hexec rfl 31 (hb hbytes d4) (by decide) ?_
    refine iushr X0.here hexec rfl (hb hbytes d6) rfl ?_
    refine i2b X0.here hexec rfl (hb hbytes d7) rfl ?_
    exact Steps.refl _)
  have e0 : lo8 (ushr (Int32.ofNat B.slots.size - Int32.ofNat B.slots.size) 31) = 0 := by rw [Int32.sub_self]; decide
  rw [e0] at c3
  exact ⟨s₁, some (.int 0), _, _, _, X0, rfl, rfl, rfl, (fun h => by cases h), ⟨rfl, hh0⟩, fun fs hl => c3.trans (X0.ireturnOut hexec hret rfl (Or.inr (Or.inr (Or.inl rfl))) (hb hbytes d8) hl)⟩
end CodL
/-- the String at a is Latin-1 over a new byte[] (the heap's one new cell): the low bytes of the len chars of A from o on; every cell but a is kept -/
def Got (a : Addr) (D : Cell) (fV fC : Field) (A : Cell) (o len : Nat) (r : Option Value) (s u : State) : Prop := r = none ∧ ∃ D' V : Cell, Blank "java/lang/String" a D' u ∧ Same D D' [fV.slot, fC.slot] ∧ D'.slots[fV.slot]? = some (.ref s.heap.size) ∧ D'.slots[fC.slot]? = some (.int 0) ∧ Arr .byte s.heap.size V u ∧ V.vm = .none ∧ u.vm.findClass "[B" = some V.cls ∧ V.slots.size = len ∧ (∀ j, j < len → V.slots[j]? = some (.int (lo8 (cv A (o + j))))) ∧ (∀ (y : Addr) (c : Cell), y ≠ a → s.heap[y]? = some c → u.heap[y]? = some c) ∧ u.heap.size = s.heap.size + 1
theorem Got.mv {a : Addr} {D A : Cell} {fV fC : Field} {o len : Nat} : ∀ r (U U' V V' : State), U'.heap = U.heap → V.vm.Alike V'.vm → V'.heap = V.heap → Got a D fV fC A o len r U V → Got a D fV fC A o len r U' V' :=
  fun r U U' V V' h1 hal h2 ⟨e0, D', X, a1, a2, a3, a4, a5, a6, a7, a8, a9, a10, a11⟩ => ⟨e0, D', X, a1.mv hal h2, a2, by rw [h1]; exact a3, a4, by rw [h1]; exact a5.mv hal h2, a6, by rw [hal.findClass]; exact a7, a8, a9, by rw [h1, h2]; exact a10, by rw [h1, h2]; exact a11⟩
namespace New4
def yN : MethodName := ⟨"java/lang/String", "<init>", "([CIILjava/lang/Void;)V"⟩
abbrev yB : ByteArray := jdk_42_method_149_code
theorem d0 : decode yB 0 = .ok (.aload_n 0, 1) := by decide +kernel
theorem d1 : decode yB 1 = .ok (.invokespecial 1, 3) := by decide +kernel
theorem d4 : decode yB 4 = .ok (.iload_n 3, 1) := by decide +kernel
theorem d5 : decode yB 5 = .ok (.ifCond (.ne) 22, 3) := by decide +kernel
theorem d27 : decode yB 27 = .ok (.getstatic 38, 3) := by decide +kernel
theorem d30 : decode yB 30 = .ok (.ifCond (.eq) 28, 3) := by decide +kernel
theorem d33 : decode yB 33 = .ok (.aload_n 1, 1) := by decide +kernel
theorem d34 : decode yB 34 = .ok (.iload_n 2, 1) := by decide +kernel
theorem d35 : decode yB 35 = .ok (.iload_n 3, 1) := by decide +kernel
theorem d36 : decode yB 36 = .ok (.invokestatic 177, 3) := by decide +kernel
theorem d39 : decode yB 39 = .ok (.astore 5, 2) := by decide +kernel
theorem d41 : decode yB 41 = .ok (.aload_n 0, 1) := by decide +kernel
theorem d42 : decode yB 42 = .ok (.aload 5, 2) := by decide +kernel
theorem d44 : decode yB 44 = .ok (.iload_n 3, 1) := by decide +kernel
theorem d45 : decode yB 45 = .ok (.invokestatic 47, 3) := by decide +kernel
theorem d48 : decode yB 48 = .ok (.putfield 15, 3) := by decide +kernel
theorem d51 : decode yB 51 = .ok (.aload_n 0, 1) := by decide +kernel
theorem d52 : decode yB 52 = .ok (.aload 5, 2) := by decide +kernel
theorem d54 : decode yB 54 = .ok (.putfield 9, 3) := by decide +kernel
theorem d57 : decode yB 57 = .ok (.return_, 1) := by decide +kernel
def site : List Cond := [.fieldLink "java/lang/String" 38 "java/lang/String" "COMPACT_STRINGS" "Z", Cmp3.tab, CodL.tab, .laysFinal "java/lang/String" "java/lang/String" "value" "[B", .fieldLink "java/lang/String" 9 "java/lang/String" "value" "[B", .laysFinal "java/lang/String" "java/lang/String" "coder" "B", .fieldLink "java/lang/String" 15 "java/lang/String" "coder" "B"] ++ objW "java/lang/String" 1 ++ staticW "java/lang/String" 177 Cmp3.yN ++ staticW "java/lang/String" 47 CodL.yN
def tab : Cond := tabOf yN yB 6 none site
def P (a : Addr) (D : Cell) (fV fC : Field) (b : Addr) (A : Cell) (z : Int32) (o len : Nat) (args : Array Value) (s : State) : Prop := args = #[.ref a, .ref b, .int (Int32.ofNat o), .int (Int32.ofNat len), .null] ∧ Blank "java/lang/String" a D s ∧ Found "java/lang/String" "value" "[B" fV s ∧ Found "java/lang/String" "coder" "B" fC s ∧ Ch b A s ∧ StaticIs s "java/lang/String" "COMPACT_STRINGS" "Z" (.int z) ∧ ¬ z = 0 ∧ 0 < len ∧ o + len ≤ A.slots.size ∧ len ≤ 536870912 ∧ ∀ i, i < len → ¬ 255 < cv A (o + i)
def E (a : Addr) (D : Cell) (fV fC : Field) (A : Cell) (o len : Nat) (r : Option Value) (s u : State) : Prop := Got a D fV fC A o len r s u
/-- len > 0, no char of the range above 255: a Latin-1 String of their low bytes -/
theorem law (l : Launch) (a : Addr) (D : Cell) (fV fC : Field) (b : Addr) (A : Cell) (z : Int32) (o len : Nat) : Law l yN 5 4 2 35 yB 6 none site (P a D fV fC b A z o len) (E a D fV fC A o len) [⟨a, fC.slot⟩, ⟨a, fV.slot⟩] 1 len := by
  refine Law.of_walk (plainFor_of_name (by decide +kernel)) (by decide +kernel) (by decide +kernel) (by decide) (fun _ _ h => by rw [h.1]; rfl) (fun _ U U' hal hh h => ⟨h.1, h.2.1.mv hal hh, h.2.2.1.al hal, h.2.2.2.1.al hal, h.2.2.2.2.1.mv hal hh, h.2.2.2.2.2.1.there hal hh, h.2.2.2.2.2.2⟩) (fun r U U' V V' h1 hal h2 h => Got.mv r U U' V V' h1 hal h2 h) ?_
  intro p e s m args below meth c s₁ X0 hexec hbytes hml hret hlk hnm hown hh0 W hP
  obtain ⟨rfl, hB, f1, f2, hA, s1, hz, l0, l1, l2, hp⟩ := hP
  have a31 := hA.1.2.2.2
  have c1 : Steps p.tables e below (s₁.setTop (entryFrame m #[.ref a, .ref b, .int (Int32.ofNat o), .int (Int32.ofNat len), .null] 6)) (s₁.setTop (mkF m 0 #[.val (.ref a), .val (.ref b), .val (.int (Int32.ofNat o)), .val (.int (Int32.ofNat len)), .val .null, .unset] [])) := entry rfl
  have c2 : Steps p.tables e below (s₁.setTop (entryFrame m #[.ref a, .ref b, .int (Int32.ofNat o), .int (Int32.ofNat len), .null] 6)) (s₁.setTop (mkF m 1 #[.val (.ref a), .val (.ref b), .val (.int (Int32.ofNat o)), .val (.int (Int32.ofNat len)), .val .null, .unset] [.ref a])) := c1.trans (by
    refine XS.aloadN X0.here hexec rfl (hb hbytes d0) rfl rfl ?_
    exact Steps.refl _)
  obtain ⟨T3, X3, q3, st3⟩ := X0.oinit hexec hown (wks W (objW "java/lang/String" 1)) (g := (mkF m 1 #[.val (.ref a), .val (.ref b), .val (.int (Int32.ofNat o)), .val (.int (Int32.ofNat len)), .val .null, .unset] [.ref a])) rfl (by rw [hml]; rfl) (rest := []) rfl (hb hbytes d1) (W := 0) (by show 2 * 0 + 0 ≤ _; decide) (Nat.le_of_ble_eq_true rfl) (Nat.le_of_ble_eq_true rfl)
  have hh3 := q3.trans hh0
  have c4 : Steps p.tables e below (s₁.setTop (entryFrame m #[.ref a, .ref b, .int (Int32.ofNat o), .int (Int32.ofNat len), .null] 6)) (T3.setTop (mkF m 27 #[.val (.ref a), .val (.ref b), .val (.int (Int32.ofNat o)), .val (.int (Int32.ofNat len)), .val .null, .unset] [])) := (c2.trans (st3 _ (Steps.refl _))).trans (by
    refine XS.iloadN X3.here hexec rfl (hb hbytes d4) rfl ?_
    refine XS.ifYes X3.here hexec rfl (pc0 := 5) rfl (hb hbytes d5) rfl (i0_ne_t (nz32 (by omega) l0)) (by decide) rfl ?_
    exact Steps.refl _)
  obtain ⟨T5, X5, q5, st5⟩ := X3.sget hexec hown (wk W (.fieldLink "java/lang/String" 38 "java/lang/String" "COMPACT_STRINGS" "Z")) s1 (fun _ _ h => by rw [hh3]; exact h) (g := (mkF m 27 #[.val (.ref a), .val (.ref b), .val (.int (Int32.ofNat o)), .val (.int (Int32.ofNat len)), .val .null, .unset] [])) rfl (hb hbytes d27)
  have hh5 := q5.trans hh3
  have c6 : Steps p.tables e below (s₁.setTop (entryFrame m #[.ref a, .ref b, .int (Int32.ofNat o), .int (Int32.ofNat len), .null] 6)) (T5.setTop (mkF m 30 #[.val (.ref a), .val (.ref b), .val (.int (Int32.ofNat o)), .val (.int (Int32.ofNat len)), .val .null, .unset] [.int z])) := c4.trans (st5 _ (Steps.refl _))
  have c7 : Steps p.tables e below (s₁.setTop (entryFrame m #[.ref a, .ref b, .int (Int32.ofNat o), .int (Int32.ofNat len), .null] 6)) (T5.setTop (mkF m 36 #[.val (.ref a), .val (.ref b), .val (.int (Int32.ofNat o)), .val (.int (Int32.ofNat len)), .val .null, .unset] [.int (Int32.ofNat len), .int (Int32.ofNat o), .ref b])) := c6.trans (by
    refine XS.ifNo X5.here hexec rfl (hb hbytes d30) rfl (i0_eq_f hz) ?_
    refine XS.aloadN X5.here hexec rfl (hb hbytes d33) rfl rfl ?_
    refine XS.iloadN X5.here hexec rfl (hb hbytes d34) rfl ?_
    refine XS.iloadN X5.here hexec rfl (hb hbytes d35) rfl ?_
    exact Steps.refl _)
  obtain ⟨v8, T8, X8, E8, g8⟩ := X5.callS hexec (Cmp3.law l b A o len) hown (wks W (staticW "java/lang/String" 177 Cmp3.yN)) (wk W Cmp3.tab) (W := 0) (Nat.le_of_ble_eq_true rfl) (Nat.le_of_ble_eq_true rfl) (Nat.le_refl _) (by show 0 + len ≤ len; omega) (g := (mkF m 36 #[.val (.ref a), .val (.ref b), .val (.int (Int32.ofNat o)), .val (.int (Int32.ofNat len)), .val .null, .unset] [.int (Int32.ofNat len), .int (Int32.ofNat o), .ref b])) rfl (by rw [hml]; rfl) c7 (argsL := [.ref b, .int (Int32.ofNat o), .int (Int32.ofNat len)]) (rest := []) rfl rfl (by show 2 * 0 + 0 ≤ _; decide) (hb hbytes d36) (⟨rfl, hA.mv X5.warmed.alike hh5, l1, l2, hp⟩)
  obtain ⟨e8, z8⟩ := E8
  obtain ⟨rfl, N, n1, n2, n3, n4, n5, n6⟩ := NewArr.mv _ T5 s _ _ hh5.symm (Vm.Alike.refl _) rfl e8
  rw [hh5] at z8
  have hB1 := hB.keep X8.warmed.alike (n6 _ _ hB.1)
  have hne : s.heap.size ≠ a := (Nat.ne_of_lt (Array.getElem?_eq_some_iff.mp hB.1).1).symm
  have c9 : Steps p.tables e below (s₁.setTop (entryFrame m #[.ref a, .ref b, .int (Int32.ofNat o), .int (Int32.ofNat len), .null] 6)) (T8.setTop (mkF m 39 #[.val (.ref a), .val (.ref b), .val (.int (Int32.ofNat o)), .val (.int (Int32.ofNat len)), .val .null, .unset] [.ref s.heap.size])) := g8
  have c10 : Steps p.tables e below (s₁.setTop (entryFrame m #[.ref a, .ref b, .int (Int32.ofNat o), .int (Int32.ofNat len), .null] 6)) (T8.setTop (mkF m 45 #[.val (.ref a), .val (.ref b), .val (.int (Int32.ofNat o)), .val (.int (Int32.ofNat len)), .val .null, .val (.ref s.heap.size)] [.int (Int32.ofNat N.slots.size), .ref s.heap.size, .ref a])) := by
    have hc : Steps p.tables e below (s₁.setTop (entryFrame m #[.ref a, .ref b, .int (Int32.ofNat o), .int (Int32.ofNat len), .null] 6)) (T8.setTop (mkF m 45 #[.val (.ref a), .val (.ref b), .val (.int (Int32.ofNat o)), .val (.int (Int32.ofNat len)), .val .null, .val (.ref s.heap.size)] [.int (Int32.ofNat len), .ref s.heap.size, .ref a])) := c9.trans (by
      refine XS.astore X8.here hexec rfl (hb hbytes d39) rfl rfl rfl ?_
      refine XS.aloadN X8.here hexec rfl (hb hbytes d41) rfl rfl ?_
      refine XS.aload X8.here hexec rfl (hb hbytes d42) rfl rfl ?_
      refine XS.iloadN X8.here hexec rfl (hb hbytes d44) rfl ?_
      exact Steps.refl _)
    rw [n4]; exact hc
  obtain ⟨v11, T11, X11, E11, g11⟩ := X8.callS hexec (CodL.law l s.heap.size N) hown (wks W (staticW "java/lang/String" 47 CodL.yN)) (wk W CodL.tab) (W := 1) (Nat.le_of_ble_eq_true rfl) (Nat.le_of_ble_eq_true rfl) (Nat.le_refl _) (by show 0 + len + 0 ≤ len; omega) (g := (mkF m 45 #[.val (.ref a), .val (.ref b), .val (.int (Int32.ofNat o)), .val (.int (Int32.ofNat len)), .val .null, .val (.ref s.heap.size)] [.int (Int32.ofNat N.slots.size), .ref s.heap.size, .ref a])) rfl (by rw [hml]; rfl) c10 (argsL := [.ref s.heap.size, .int (Int32.ofNat N.slots.size)]) (rest := [.ref a]) rfl rfl (by show 2 * 0 + (1 + 0) ≤ _; decide) (hb hbytes d45) (⟨rfl, n1⟩)
  obtain ⟨rfl, q11⟩ := E11
  have hB11 := hB1.mv (X8.warmed.alike.symm.trans X11.warmed.alike) q11
  have c12 : Steps p.tables e below (s₁.setTop (entryFrame m #[.ref a, .ref b, .int (Int32.ofNat o), .int (Int32.ofNat len), .null] 6)) (T11.setTop (mkF m 48 #[.val (.ref a), .val (.ref b), .val (.int (Int32.ofNat o)), .val (.int (Int32.ofNat len)), .val .null, .val (.ref s.heap.size)] [.int 0, .ref a])) := g11
  obtain ⟨T13, X13, p13, bl13, sl13, st13⟩ := X11.finit hexec hown (wk W (.fieldLink "java/lang/String" 15 "java/lang/String" "coder" "B")) (Or.inr ⟨_, (wk W (.laysFinal "java/lang/String" "java/lang/String" "coder" "B"))⟩) (Or.inl ⟨rfl, hnm⟩) f2 (Or.inl rfl) hB11 (t := .byte) (by decide +kernel) rfl (g := (mkF m 48 #[.val (.ref a), .val (.ref b), .val (.int (Int32.ofNat o)), .val (.int (Int32.ofNat len)), .val .null, .val (.ref s.heap.size)] [.int 0, .ref a])) rfl (rest := []) rfl (hb hbytes d48)
  have c14 : Steps p.tables e below (s₁.setTop (entryFrame m #[.ref a, .ref b, .int (Int32.ofNat o), .int (Int32.ofNat len), .null] 6)) (T13.setTop (mkF m 54 #[.val (.ref a), .val (.ref b), .val (.int (Int32.ofNat o)), .val (.int (Int32.ofNat len)), .val .null, .val (.ref s.heap.size)] [.ref s.heap.size, .ref a])) := (c12.trans (st13 _ (Steps.refl _))).trans (by
    refine XS.aloadN X13.here hexec rfl (hb hbytes d51) rfl rfl ?_
    refine XS.aload X13.here hexec rfl (hb hbytes d52) rfl rfl ?_
    exact Steps.refl _)
  obtain ⟨T15, X15, p15, bl15, sl15, st15⟩ := X13.finit hexec hown (wk W (.fieldLink "java/lang/String" 9 "java/lang/String" "value" "[B")) (Or.inr ⟨_, (wk W (.laysFinal "java/lang/String" "java/lang/String" "value" "[B"))⟩) (Or.inl ⟨rfl, hnm⟩) f1 (Or.inl rfl) bl13 (t := (.array .byte)) (by decide +kernel) rfl (g := (mkF m 54 #[.val (.ref a), .val (.ref b), .val (.int (Int32.ofNat o)), .val (.int (Int32.ofNat len)), .val .null, .val (.ref s.heap.size)] [.ref s.heap.size, .ref a])) rfl (rest := []) rfl (hb hbytes d54)
  have c16 : Steps p.tables e below (s₁.setTop (entryFrame m #[.ref a, .ref b, .int (Int32.ofNat o), .int (Int32.ofNat len), .null] 6)) (T15.setTop (mkF m 57 #[.val (.ref a), .val (.ref b), .val (.int (Int32.ofNat o)), .val (.int (Int32.ofNat len)), .val .null, .val (.ref s.heap.size)] [])) := c14.trans (st15 _ (Steps.refl _))
  have ap := apart (Or.inr ⟨_, (wk W (.laysFinal "java/lang/String" "java/lang/String" "value" "[B"))⟩) (Or.inr ⟨_, (wk W (.laysFinal "java/lang/String" "java/lang/String" "coder" "B"))⟩) f1 f2 (t₁ := .array .byte) (t₂ := .byte) (by decide +kernel) (by decide +kernel) (by decide)
  have al := X8.warmed.alike.symm.trans X15.warmed.alike
  have n7 : T11.heap[s.heap.size]? = some N := by rw [q11]; exact n1.1
  exact ⟨T15, none, _, _, _, X15, by simp, rfl, by omega, (fun _ => rfl), ⟨rfl, _, N, bl15, ((Same.refl D _).set _ (by simp)).set _ (by simp), sl15, (Cell.slots_setSlot_ne _ ap).trans sl13, n1.keep al (p15.other hne (p13.other hne n7)), n2, by rw [al.findClass]; exact n3, n4, n5, fun y c h1 h2 => p15.other h1 (p13.other h1 (by rw [q11]; exact n6 y c h2)), by rw [p15.2.2, p13.2.2, q11]; exact z8⟩, fun fs hl => c16.trans (X15.returnOut hexec hret (hb hbytes d57) hl)⟩
end New4
namespace New1
def yN : MethodName := ⟨"java/lang/String", "<init>", "([C)V"⟩
abbrev yB : ByteArray := jdk_42_method_3_code
theorem d0 : decode yB 0 = .ok (.aload_n 0, 1) := by decide +kernel
theorem d1 : decode yB 1 = .ok (.aload_n 1, 1) := by decide +kernel
theorem d2 : decode yB 2 = .ok (.iconst 0, 1) := by decide +kernel
theorem d3 : decode yB 3 = .ok (.aload_n 1, 1) := by decide +kernel
theorem d4 : decode yB 4 = .ok (.arraylength, 1) := by decide +kernel
theorem d5 : decode yB 5 = .ok (.aconst_null, 1) := by decide +kernel
theorem d6 : decode yB 6 = .ok (.invokespecial 27, 3) := by decide +kernel
theorem d9 : decode yB 9 = .ok (.return_, 1) := by decide +kernel
def site : List Cond := [New4.tab] ++ initW "java/lang/String" 27 New4.yN
def tab : Cond := tabOf yN yB 2 none site
def P (a : Addr) (D : Cell) (fV fC : Field) (b : Addr) (A : Cell) (z : Int32) (args : Array Value) (s : State) : Prop := args = #[.ref a, .ref b] ∧ Blank "java/lang/String" a D s ∧ Found "java/lang/String" "value" "[B" fV s ∧ Found "java/lang/String" "coder" "B" fC s ∧ Ch b A s ∧ StaticIs s "java/lang/String" "COMPACT_STRINGS" "Z" (.int z) ∧ ¬ z = 0 ∧ 0 < A.slots.size ∧ A.slots.size ≤ 536870912 ∧ ∀ i, i < A.slots.size → ¬ 255 < cv A i
def E (a : Addr) (D : Cell) (fV fC : Field) (A : Cell) (r : Option Value) (s u : State) : Prop := Got a D fV fC A 0 A.slots.size r s u
/-- new String(chars), not empty, no char above 255: a Latin-1 String of their low bytes -/
theorem law (l : Launch) (a : Addr) (D : Cell) (fV fC : Field) (b : Addr) (A : Cell) (z : Int32) : Law l yN 2 1 3 52 yB 2 none site (P a D fV fC b A z) (E a D fV fC A) [⟨a, fC.slot⟩, ⟨a, fV.slot⟩] 1 A.slots.size := by
  refine Law.of_walk (plainFor_of_name (by decide +kernel)) (by decide +kernel) (by decide +kernel) (by decide) (fun _ _ h => by rw [h.1]; rfl) (fun _ U U' hal hh h => ⟨h.1, h.2.1.mv hal hh, h.2.2.1.al hal, h.2.2.2.1.al hal, h.2.2.2.2.1.mv hal hh, h.2.2.2.2.2.1.there hal hh, h.2.2.2.2.2.2⟩) (fun r U U' V V' h1 hal h2 h => Got.mv r U U' V V' h1 hal h2 h) ?_
  intro p e s m args below meth c s₁ X0 hexec hbytes hml hret hlk hnm hown hh0 W hP
  obtain ⟨rfl, hB, f1, f2, hA, s1, hz, l0, l2, hp⟩ := hP
  have c1 : Steps p.tables e below (s₁.setTop (entryFrame m #[.ref a, .ref b] 2)) (s₁.setTop (mkF m 0 #[.val (.ref a), .val (.ref b)] [])) := entry rfl
  have c2 : Steps p.tables e below (s₁.setTop (entryFrame m #[.ref a, .ref b] 2)) (s₁.setTop (mkF m 6 #[.val (.ref a), .val (.ref b)] [.null, .int (Int32.ofNat A.slots.size), .int 0, .ref b, .ref a])) := c1.trans (by
    refine XS.aloadN X0.here hexec rfl (hb hbytes d0) rfl rfl ?_
    refine XS.aloadN X0.here hexec rfl (hb hbytes d1) rfl rfl ?_
    refine iconstV X0.here hexec rfl 0 (hb hbytes d2) (by decide) ?_
    refine XS.aloadN X0.here hexec rfl (hb hbytes d3) rfl rfl ?_
    refine X0.alen hexec (hA.1.mv X0.warmed.alike hh0) rfl rfl (hb hbytes d4) ?_
    refine XS.aconstNull X0.here hexec rfl (hb hbytes d5) ?_
    exact Steps.refl _)
  obtain ⟨v3, T3, X3, E3, g3⟩ := X0.callN hexec (New4.law l a D fV fC b A z 0 A.slots.size) rfl hown (wks W (initW "java/lang/String" 27 New4.yN)) (W New4.tab (by simp only [site, List.mem_cons, List.mem_append, true_or, or_true])) (W := 0) (Nat.le_of_ble_eq_true rfl) (Nat.le_of_ble_eq_true rfl) (Nat.le_refl _) (by show 0 + A.slots.size ≤ A.slots.size; omega) (g := (mkF m 6 #[.val (.ref a), .val (.ref b)] [.null, .int (Int32.ofNat A.slots.size), .int (Int32.ofNat 0), .ref b, .ref a])) rfl (by rw [hml]; rfl) c2 (argsL := [.ref b, .int (Int32.ofNat 0), .int (Int32.ofNat A.slots.size), .null]) (rest := []) rfl rfl (by show 2 * 0 + 0 ≤ _; decide) (hb hbytes d6) (⟨rfl, hB.mv X0.warmed.alike hh0, f1.al X0.warmed.alike, f2.al X0.warmed.alike, hA.mv X0.warmed.alike hh0, s1.there X0.warmed.alike hh0, hz, l0, by omega, l2, fun i hi => by rw [Nat.zero_add]; exact hp i hi⟩)
  have e0 := Got.mv _ s₁ s _ _ hh0.symm (Vm.Alike.refl _) rfl E3
  obtain rfl := e0.1
  have c4 : Steps p.tables e below (s₁.setTop (entryFrame m #[.ref a, .ref b] 2)) (T3.setTop (mkF m 9 #[.val (.ref a), .val (.ref b)] [])) := g3
  exact ⟨T3, none, _, _, _, X3, by simp, rfl, by omega, (fun _ => rfl), e0, fun fs hl => c4.trans (X3.returnOut hexec hret (hb hbytes d9) hl)⟩
theorem pays {l : Launch} {R : Room} {p : Program} {e : Env} {below : List Frame} {s : State} {sargs : Array Value} {len W : Nat} (a : Addr) (D : Cell) (fV fC : Field) (b : Addr) (A : Cell) (z : Int32) (htab : tab.before sargs s = true) (hfr : 4 ≤ R.frames) (hlo : W + 65 ≤ R.locals) :
    Back l R p e below s sargs yN len W (fun A₁ a₁ => A₁.cells + 1 ≤ R.cells ∧ A₁.slots + A.slots.size ≤ R.slots ∧ P a D fV fC b A z a₁ A₁.U) (fun A₁ _ v₁ B₁ => E a D fV fC A v₁ A₁.U B₁.U ∧ B₁.locs = A₁.locs ++ [⟨a, fC.slot⟩, ⟨a, fV.slot⟩] ∧ B₁.cells = A₁.cells + 1 ∧ B₁.slots = A₁.slots + A.slots.size) :=
  (law l a D fV fC b A z).pays htab hfr (by omega)
end New1
/-- the byte, read back as charAt reads it, is the char -/
theorem lo8_mask {x : Int32} (h0 : ¬ x < 0) (h1 : ¬ 255 < x) : lo8 x &&& 255 = x := by
  have t : ∀ k : Fin 256, lo8 (Int32.ofNat k.val) &&& 255 = Int32.ofNat k.val := by decide +kernel
  rw [Int32.lt_iff_toInt_lt] at h0 h1
  have e0 : (0 : Int32).toInt = 0 := rfl
  have e1 : (255 : Int32).toInt = 255 := rfl
  obtain ⟨k, hk⟩ : ∃ k : Nat, x.toInt = k := ⟨x.toInt.toNat, by omega⟩
  have hx : x = Int32.ofNat k := Int32.toInt_inj.mp (by rw [hk, Int32.toInt_ofNat_small (by omega)])
  rw [hx]
  exact t ⟨k, by omega⟩
end StrChars
namespace StrChars.Road
open Jvm Sem ClassFile Op Lib Jvm.Stand Jvm.Free Jvm.Free.XT
open Jvm.Lib.Cold (StaticIs)
abbrev ST : String := "java/lang/String"
/-- every table word that New1's law asks, flat -/
abbrev words : List Jvm.Cond := [.code New1.yN New1.yB 2 none, .initialized ST, .methodLink ST 27 New4.yN, .instanceMethod New4.yN,
  .code New4.yN New4.yB 6 none, .fieldLink ST 38 ST "COMPACT_STRINGS" "Z", .laysFinal ST ST "value" "[B", .fieldLink ST 9 ST "value" "[B", .laysFinal ST ST "coder" "B", .fieldLink ST 15 ST "coder" "B",
  .methodLink ST 1 Lib.objectInit, .instanceMethod Lib.objectInit, .code Lib.objectInit ⟨#[0xb1]⟩ 1 none, .methodLink ST 177 Cmp3.yN, .static Cmp3.yN, .methodLink ST 47 CodL.yN, .static CodL.yN,
  .code Cmp3.yN Cmp3.yB 6 (some (.array .byte)), .initialized U16, .arrayClass .byte, .methodLink U16 115 Cmp5.yN, .static Cmp5.yN, .code Cmp5.yN Cmp5.yB 7 (some .int), .code CodL.yN CodL.yB 2 (some .byte)]
theorem tab_of {a : Array Value} {s : State} (h : ∀ w ∈ words, w.before a s = true) : New1.tab.before a s = true := by
  have h5 : Cmp5.tab.before a s = true := unparts (wk h (.code Cmp5.yN Cmp5.yB 7 (some .int))) (wks h (.initialized Cmp5.yN.cls :: Cmp5.site))
  have hc : CodL.tab.before a s = true := unparts (wk h (.code CodL.yN CodL.yB 2 (some .byte))) (wks h (.initialized CodL.yN.cls :: CodL.site))
  have q5 : ∀ w ∈ Cmp5.tab :: words, w.before a s = true := fun w hw => (List.mem_cons.mp hw).elim (fun e => e ▸ h5) (h w)
  have h3 : Cmp3.tab.before a s = true := unparts (wk q5 (.code Cmp3.yN Cmp3.yB 6 (some (.array .byte)))) (wks q5 (.initialized Cmp3.yN.cls :: Cmp3.site))
  have q3 : ∀ w ∈ Cmp3.tab :: CodL.tab :: words, w.before a s = true := fun w hw => (List.mem_cons.mp hw).elim (fun e => e ▸ h3) fun hw => (List.mem_cons.mp hw).elim (fun e => e ▸ hc) (h w)
  have h4 : New4.tab.before a s = true := unparts (wk q3 (.code New4.yN New4.yB 6 none)) (wks q3 (.initialized New4.yN.cls :: New4.site))
  have q4 : ∀ w ∈ New4.tab :: words, w.before a s = true := fun w hw => (List.mem_cons.mp hw).elim (fun e => e ▸ h4) (h w)
  exact unparts (wk q4 (.code New1.yN New1.yB 2 none)) (wks q4 (.initialized New1.yN.cls :: New1.site))
/-- the words ride from the start Z to the walk's own state -/
theorem moved {Z s : State} {a0 args : Array Value} (hZ : Z.Warmed39 s.vm) (hw : ∀ d ∈ words, d.before a0 Z = true) : ∀ d ∈ words, d.before args s = true := fun d hd => by
  have q := hw d hd
  have t : ∀ d ∈ words, d = .arrayClass .byte ∨ (d.onTables && d.keepsFace) = true := by decide +kernel
  rcases t d hd with rfl | t
  · exact RoadKit.mvA hZ q
  · exact RoadKit.mv hZ q t
/-- WHAT COMES BACK, over the tables of the start Z: h the heap at the call, h' behind it -/
def Q (Z : State) (x : Addr) (A : Cell) (h : Heap) (v : Option Value) (h' : Heap) (L : List Loc) : Prop := v = none ∧ (∀ y ∈ L, y.base = x) ∧ RoadKit.Keep h h' [x] ∧ h'.size = h.size + 1 ∧ RoadKit.Exa Z h' x ST ∧ RoadKit.Fld Z h' x ST "value" "[B" (.ref h.size) ∧ RoadKit.Fld Z h' x ST "coder" "B" (.int 0) ∧
  (∃ V : Cell, RoadKit.Arr Z h' h.size V .byte ∧ V.vm = .none ∧ Z.vm.findClass "[B" = some V.cls ∧ V.slots.size = A.slots.size ∧ ∀ j, j < A.slots.size → V.slots[j]? = some (.int (lo8 (cv A j)))) ∧
  ∀ (O n d : String) (w : Value), RoadKit.Fld Z h x O n d w → RoadKit.slotOf Z O n d ≠ RoadKit.slotOf Z ST "value" "[B" → RoadKit.slotOf Z O n d ≠ RoadKit.slotOf Z ST "coder" "B" → RoadKit.Fld Z h' x O n d w
/-- **new String(chars) AT A CALL, IN THE ROAD'S FORM**: for specialBack behind newO: x the fresh String, b the char[] with the cell A -/
theorem back {p : Program} {l : Launch} {e : Env} {R : Room} {s : State} {args : Array Value} {below : List Frame} {len W : Nat} {Z : State} {a0 : Array Value} {h : Heap} (hZ : Z.Warmed39 s.vm) (hw : ∀ d ∈ words, d.before a0 Z = true) {kI : Nat} (wi : (Jvm.Cond.instantiable ST kI).before a0 Z = true)
    {x b : Addr} {A : Cell} {z : Int32} {v0 c0 : Value} (E : RoadKit.Exa Z h x ST) (V : RoadKit.Fld Z h x ST "value" "[B" v0) (C : RoadKit.Fld Z h x ST "coder" "B" c0) (K : RoadKit.Arr Z h b A .char) (hty : Typed .char A) (S : RoadKit.Sta Z h ST "COMPACT_STRINGS" "Z" (.int z)) (hz : ¬ z = 0)
    (l0 : 0 < A.slots.size) (l2 : A.slots.size ≤ 536870912) (hp : ∀ i, i < A.slots.size → ¬ 255 < cv A i) (hfr : 4 ≤ R.frames) (hlo : W + 65 ≤ R.locals) :
    Back l R p e below s args New1.yN len W (fun P a => a = #[.ref x, .ref b] ∧ P.U.heap = h ∧ P.cells + 1 ≤ R.cells ∧ P.slots + A.slots.size ≤ R.slots)
      (fun P _ v B => ∃ L, Q Z x A h v B.U.heap L ∧ B.locs = P.locs ++ L ∧ B.cells = P.cells + 1 ∧ B.slots = P.slots + A.slots.size) := by
  intro m meth c P g ig mk a X hg hsize hdg hW hn hp'
  obtain ⟨rfl, rfl, r1, r2⟩ := hp'
  have al : Z.vm.Alike P.U.vm := hZ.alike.trans X.warmed.alike
  obtain ⟨D, cfV, kV, iV, fV, hD, gV, stV, knV, obV, asV, slV⟩ := id V
  obtain ⟨D', cfC, kC, iC, fC, hD', gC, stC, -, -, asC, slC⟩ := id C
  cases hD.symm.trans hD'
  obtain ⟨D2, kD, e1, e2, e3, e4, e5⟩ := id E
  cases hD.symm.trans e1
  obtain ⟨c2, k2, i1, i2, i3, -⟩ := Cond.instantiable_spec wi
  cases e2.symm.trans i1
  cases e3.symm.trans i2
  obtain ⟨kU, u1, u2⟩ := al.2.2 _ _ e3
  have hB : Blank ST x D P.U := ⟨hD, ⟨knV, fun q hq => by rw [hq] at obV; cases obV⟩, by rw [al.findClass]; exact e2, kU, u1, by rw [u2]; exact i3, by rw [u2]; exact e5 i3⟩
  have F1 : Found ST "value" "[B" fV P.U := ⟨SBG.found_only al ⟨cfV, kV, iV, gV⟩, stV⟩
  have F2 : Found ST "coder" "B" fC P.U := ⟨SBG.found_only al ⟨cfC, kC, iC, gC⟩, stC⟩
  have hA : Ch b A P.U := ⟨⟨K.1, State.isArrayOf_alike al K.2.1, K.2.2, by omega⟩, hty⟩
  have hS : StaticIs P.U ST "COMPACT_STRINGS" "Z" (.int z) := by
    obtain ⟨cfS, iS, kS, fS, st, cS, t1, t2, t3, t4, t5, t6, t7⟩ := S
    exact StaticIs.there (s := { Z with heap := P.U.heap }) ⟨cfS, iS, kS, fS, st, cS, t1, t2, t3, t4, t5, (fun q => by rw [q] at t6; cases t6), t7⟩ al rfl
  obtain ⟨v, B, X', ⟨⟨hv, E', V', q1, q2, q3, q4, q5, q6, q7, q8, q9, q10, q11⟩, hl, hc, hs⟩, st⟩ := New1.pays x D fV fC b A z (tab_of (moved hZ hw)) hfr hlo m meth c P g ig mk _ X hg hsize hdg hW hn ⟨r1, r2, rfl, hB, F1, F2, hA, hS, hz, l0, l2, hp⟩
  have al' : Z.vm.Alike B.U.vm := hZ.alike.trans X'.warmed.alike
  have hsz : E'.slots.size = D.slots.size := by
    obtain ⟨-, -, -, kB, w1, w2, w3⟩ := q1
    obtain ⟨kB', y1, y2⟩ := al'.2.2 _ _ e3
    rw [q2.2.1] at w1
    cases w1.symm.trans y1
    rw [w3, e5 i3, y2]
  refine ⟨v, B, X', ⟨_, ⟨hv, ?_, ⟨by omega, fun y cy hy hn' => q10 y cy (by simpa using hn') hy, fun y cy hy => ?_⟩, q11, ⟨E', _, q1.1, by rw [q2.2.1]; exact e2, by rw [q2.2.1]; exact e3, by rw [q2.1]; exact obV, fun _ => by rw [hsz]; exact e5 i3⟩,
    ⟨E', cfV, kV, iV, fV, q1.1, gV, stV, by rw [q2.1]; exact knV, by rw [q2.1]; exact obV, by rw [q2.2.1]; exact asV, q3⟩, ⟨E', cfC, kC, iC, fC, q1.1, gC, stC, by rw [q2.1]; exact knV, by rw [q2.1]; exact obV, by rw [q2.2.1]; exact asC, q4⟩,
    ⟨V', ⟨q5.1, State.isArrayOf_alike al'.symm q5.2.1, q5.2.2.1⟩, q6, by rw [← al'.findClass]; exact q7, q8, fun j hj => by have := q9 j hj; rwa [Nat.zero_add] at this⟩, fun O n d w F n1 n2 => ?_⟩, hl, hc, hs⟩, st⟩
  · intro y hy
    simp only [List.mem_cons, List.not_mem_nil, or_false] at hy
    rcases hy with rfl | rfl <;> rfl
  · by_cases q : y = x
    · subst q
      cases hD.symm.trans hy
      exact ⟨E', q1.1, q2.2.1, q2.1, hsz⟩
    · exact ⟨cy, q10 y cy q hy, rfl, rfl, rfl⟩
  · obtain ⟨D3, cf, k, i, f, g1, g2, g3, g4, g5, g6, g7⟩ := F
    cases hD.symm.trans g1
    simp only [RoadKit.slotOf, g2, gV, gC, Option.map_some, Option.getD_some] at n1 n2
    exact ⟨E', cf, k, i, f, q1.1, g2, g3, by rw [q2.1]; exact g4, by rw [q2.1]; exact g5, by rw [q2.2.1]; exact g6, by rw [q2.2.2 f.slot (by simp [n1, n2])]; exact g7⟩
end StrChars.Road
namespace StrChars.Road
open Jvm Sem ClassFile Op Lib Jvm.Stand Jvm.Free Jvm.Free.XT
/-- WHAT COMES BACK, the byte[] as a list of values -/
def QA (Z : State) (x : Addr) (zn : Int32) (cs : List Int32) (h : Heap) (v : Option Value) (h' : Heap) (L : List Loc) : Prop := v = none ∧ (∀ y ∈ L, y.base = x) ∧ RoadKit.Keep h h' [x] ∧ h'.size = h.size + 1 ∧ RoadKit.Exa Z h' x ST ∧ RoadKit.Fld Z h' x ST "value" "[B" (.ref h.size) ∧ RoadKit.Fld Z h' x ST "coder" "B" (.int 0) ∧
  (∃ kb, Z.vm.findClass "[B" = some kb ∧ RoadKit.Arv Z h' h.size kb .byte zn (cs.map fun c => .int (lo8 c)) (.int 0)) ∧
  ∀ (O n d : String) (w : Value), RoadKit.Fld Z h x O n d w → RoadKit.slotOf Z O n d ≠ RoadKit.slotOf Z ST "value" "[B" → RoadKit.slotOf Z O n d ≠ RoadKit.slotOf Z ST "coder" "B" → RoadKit.Fld Z h' x O n d w
/-- **new String(chars) AT A CALL, THE ARRAYS AS LISTS**: the char[] at b holds cs, not empty, no char above 255 -/
theorem backArv {p : Program} {l : Launch} {e : Env} {R : Room} {s : State} {args : Array Value} {below : List Frame} {len W : Nat} {Z : State} {a0 : Array Value} {h : Heap} (hZ : Z.Warmed39 s.vm) (hw : ∀ d ∈ words, d.before a0 Z = true) {kI : Nat} (wi : (Jvm.Cond.instantiable ST kI).before a0 Z = true)
    {x b : Addr} {k : ClassId} {zn z : Int32} {cs : List Int32} {dv v0 c0 : Value} (E : RoadKit.Exa Z h x ST) (V : RoadKit.Fld Z h x ST "value" "[B" v0) (C : RoadKit.Fld Z h x ST "coder" "B" c0) (K : RoadKit.Arv Z h b k .char zn (cs.map Value.int) dv) (S : RoadKit.Sta Z h ST "COMPACT_STRINGS" "Z" (.int z)) (hz : ¬ z = 0)
    (hlen : zn.toNatClampNeg = cs.length) (h0 : 0 < cs.length) (hbig : cs.length ≤ 536870912) (hall : ∀ c ∈ cs, ¬ 255 < c) (hfr : 4 ≤ R.frames) (hlo : W + 65 ≤ R.locals) :
    Back l R p e below s args New1.yN len W (fun P a => a = #[.ref x, .ref b] ∧ P.U.heap = h ∧ P.cells + 1 ≤ R.cells ∧ P.slots + cs.length ≤ R.slots)
      (fun P _ v B => ∃ L, QA Z x zn cs h v B.U.heap L ∧ B.locs = P.locs ++ L ∧ B.cells = P.cells + 1 ∧ B.slots = P.slots + cs.length) := by
  obtain ⟨A, K1, K2, K3, K4, K5, K6⟩ := K
  have e : A.slots.size = cs.length := K3.trans hlen
  have hat : ∀ (i : Nat) (hi : i < cs.length), A.slots[i]? = some (.int cs[i]) := fun i hi => by rw [K5 i (by omega)]; simp [List.getD_eq_getElem?_getD, hi]
  have hcv : ∀ (i : Nat) (hi : i < cs.length), cv A i = cs[i] := fun i hi => by unfold cv; rw [hat i hi]
  have hty : Typed .char A := fun i v hv => by
    have hi : i < A.slots.size := (Array.getElem?_eq_some_iff.mp hv).1
    have q := K5 i hi
    rw [hv] at q
    rw [Option.some.inj q]
    exact K6 i hi
  refine Back.mono (back hZ hw wi E V C K1 hty S hz (by omega) (by omega) (fun i hi => by rw [hcv i (by omega)]; exact hall _ (List.getElem_mem _)) hfr hlo) (fun P a hp => ⟨hp.1, hp.2.1, hp.2.2.1, by rw [e]; exact hp.2.2.2⟩) (fun P a v B hp hq => ?_)
  obtain ⟨L, ⟨q1, q2, q3, q4, q5, q6, q7, ⟨V', v1, v2, v3, v4, v5⟩, q9⟩, hl, hc, hs⟩ := hq
  refine ⟨L, ⟨q1, q2, q3, q4, q5, q6, q7, ⟨V'.cls, v3, V', v1, rfl, by rw [v4, e, hlen], K4, fun i hi => ?_, fun i hi => ?_⟩, q9⟩, hl, hc, by rw [hs, e]⟩
  · have hi' : i < cs.length := by omega
    rw [v5 i (by omega), hcv i hi']; simp [List.getD_eq_getElem?_getD, hi']
  · have hi' : i < cs.length := by omega
    simp only [List.getD_eq_getElem?_getD, List.getElem?_map, List.getElem?_eq_getElem hi', Option.map_some, Option.getD_some]
    exact fits_lo8 _
end StrChars.Road
namespace StrChars.Road
open Jvm Sem ClassFile Op Lib Jvm.Stand Jvm.Free Jvm.Free.XT
/-- WHAT COMES BACK, in the writer's own shape -/
def QV (Z : State) (x : Addr) (N : Int32) (bs : List Int32) (h : Heap) (n0 : Nat) (v : Option Value) (h' : Heap) (L : List Loc) : Prop := v = none ∧ RoadKit.Fr n0 L ∧ RoadKit.Keep h h' [x] ∧ RoadKit.Exa Z h' x ST ∧ RoadKit.Fld Z h' x ST "coder" "B" (.int 0) ∧
  ∃ (t : Addr) (kb : ClassId), n0 ≤ t ∧ h.size ≤ t ∧ ¬ t = x ∧ RoadKit.Fld Z h' x ST "value" "[B" (.ref t) ∧ RoadKit.Arv Z h' t kb .byte N (bs.map Value.int) (.int 0)
/-- **new String(chars) AT A CALL, FOR THE WRITER**: a char[] of n known ints, each 0 to 255 -/
theorem backV {p : Program} {l : Launch} {e : Env} {R : Room} {s : State} {args : Array Value} {below : List Frame} {len W : Nat} {Z : State} {a0 : Array Value} {h : Heap} (hZ : Z.Warmed39 s.vm) (hw : ∀ d ∈ words, d.before a0 Z = true) {kI : Nat} (wi : (Jvm.Cond.instantiable ST kI).before a0 Z = true)
    {x b : Addr} {kC : ClassId} {cs bs : List Int32} {d v0 c0 : Value} {z N : Int32} {n n0 : Nat} (hx0 : n0 ≤ x) (hh0 : n0 ≤ h.size) (E : RoadKit.Exa Z h x ST) (V : RoadKit.Fld Z h x ST "value" "[B" v0) (C : RoadKit.Fld Z h x ST "coder" "B" c0) (K : RoadKit.Arv Z h b kC .char N (cs.map Value.int) d) (S : RoadKit.Sta Z h ST "COMPACT_STRINGS" "Z" (.int z)) (hz : ¬ z = 0)
    (hn : cs.length = n) (hN : N = Int32.ofNat n) (l0 : 0 < n) (l2 : n ≤ 4000) (hp : ∀ c ∈ cs, ¬ c < 0 ∧ ¬ (255 : Int32) < c) (hb : bs = cs.map (fun c => c.toInt8.toInt32)) (hfr : 4 ≤ R.frames) (hlo : W + 65 ≤ R.locals) :
    Back l R p e below s args (⟨"java/lang/String", "<init>", "([C)V"⟩ : MethodName) len W (fun P a => a = #[.ref x, .ref b] ∧ P.U.heap = h ∧ P.cells + 1 ≤ R.cells ∧ P.slots + n ≤ R.slots)
      (fun P _ v B => ∃ L, QV Z x N bs h n0 v B.U.heap L ∧ B.locs = P.locs ++ L ∧ B.cells = P.cells + 1 ∧ B.slots = P.slots + n) := by
  subst hn hN hb
  refine Back.mono (backArv hZ hw wi E V C K S hz (n32 (by omega)) l0 (by omega) (fun c hc => (hp c hc).2) hfr hlo) (fun P a hp => hp) (fun P a v B hp hq => ?_)
  obtain ⟨L, ⟨q1, q2, q3, q4, q5, q6, q7, ⟨kb, v1, v2⟩, q9⟩, hl, hc, hs⟩ := hq
  exact ⟨L, ⟨q1, fun y hy => by rw [q2 y hy]; exact hx0, q3, q5, q7, h.size, kb, hh0, Nat.le_refl _, Nat.ne_of_gt E.lt, q6, by rw [List.map_map]; exact v2⟩, hl, hc, hs⟩
end StrChars.Road
namespace StrChars
open Jvm Sem ClassFile Op Lib Jvm.Stand Jvm.Free.XT Jvm.Free.ALB Jvm.Free.JM Jvm.Free
open Jvm.Lib.Cold (StaticIs)
def hi8 (x : Int32) : Int32 := lo8 (x >>> ((8 : Int32) &&& 31))
theorem shr0 (c : Int32) : c >>> ((0 : Int32) &&& 31) = c := by
  have e : ((0 : Int32) &&& 31) = 0 := by decide
  rw [e]
  apply Int32.toBitVec_inj.mp
  rw [Int32.toBitVec_shiftRight]
  have e1 : ((0 : Int32).toBitVec.smod 32) = 0#32 := by decide
  rw [e1, BitVec.sshiftRight_eq']
  exact BitVec.sshiftRight_zero
end StrChars
namespace StrChars
open Jvm Sem ClassFile Op Lib Jvm.Stand Jvm.Free.XT Jvm.Free.ALB Jvm.Free.JM Jvm.Free
open Jvm.Lib.Cold (StaticIs)
/-- charAt's cast of a byte read back -/
def chr8 (u : Int32) : Int32 := (u &&& 255).toUInt32.toUInt16.toUInt32.toInt32
theorem chr8_lo8 {c : Int32} (h0 : ¬ c < 0) (h1 : ¬ 255 < c) : chr8 (lo8 c) = c := by
  have t : ∀ k : Fin 256, (Int32.ofNat k.val).toUInt32.toUInt16.toUInt32.toInt32 = Int32.ofNat k.val := by decide +kernel
  unfold chr8
  rw [lo8_mask h0 h1]
  rw [Int32.lt_iff_toInt_lt] at h0 h1
  have e0 : (0 : Int32).toInt = 0 := rfl
  have e1 : (255 : Int32).toInt = 255 := rfl
  obtain ⟨k, hk⟩ : ∃ k : Nat, c.toInt = k := ⟨c.toInt.toNat, by omega⟩
  have hx : c = Int32.ofNat k := Int32.toInt_inj.mp (by rw [hk, Int32.toInt_ofNat_small (by omega)])
  rw [hx]
  exact t ⟨k, by omega⟩
end StrChars
namespace StrChars.Road
open Jvm Sem ClassFile Op Lib Jvm.Stand Jvm.Free Jvm.Free.XT
open Jvm.Lib.Cold (StaticIs)
/-- the bytes of the chars cs, low before high -/
def wideBytes : List Int32 → List Value
  | [] => []
  | c :: cs => .int (lo8 c) :: .int (hi8 c) :: wideBytes cs
/-- an array of N2 bytes vs codes the chars cs by the coder cd -/
def CodA (cs : List Int32) (cd N2 : Int32) (vs : List Value) : Prop := (cd = 0 ∧ N2 = Int32.ofNat cs.length ∧ vs = (cs.map fun c => Value.int (lo8 c)) ∧ ∀ c ∈ cs, ¬ 255 < c) ∨ (cd = 1 ∧ N2 = Int32.ofNat (2 * cs.length) ∧ vs = wideBytes cs ∧ ∃ c ∈ cs, 255 < c)
end StrChars.Road
namespace StrChars.Road
open Jvm Sem ClassFile Op Lib Jvm.Stand Jvm.Free Jvm.Free.XT
open Jvm.Lib.Cold (StaticIs)
/-- what backV says of its String, as the contracts of this text ask it: cs's low bytes, coder 0 -/
theorem codOf {cs : List Int32} {n : Nat} (hn : cs.length = n) (hb : ∀ c ∈ cs, ¬ 255 < c) : CodA cs 0 (Int32.ofNat n) ((cs.map lo8).map Value.int) := Or.inl ⟨rfl, by rw [hn], by simp [List.map_map, Function.comp_def], hb⟩
end StrChars.Road
end Jvm.Pilot.@@N@@
namespace Jvm.Pilot.@@N@@
open Jvm Jvm.ClassFile Sem Op Lib Jvm.Free Jvm.Stand Jvm.LawKit Jvm.RoadKit Bundle Jvm.Pilot.@@N@@.Jvm.D
namespace Own
open Jvm Jvm.ClassFile Sem Op Lib Jvm.Free Jvm.Stand Jvm.LawKit Jvm.RoadKit Bundle
/-- the run goes on from A to an end of which Q holds -/
def Goes (tb : Tables) (e : Env) (below : List Frame) (Q : Outcome → State → Prop) (A : State) : Prop := ∃ s₂ o, Steps tb e below A s₂ ∧ s₂.status = .running ∧ Ended s₂ below o ∧ Q o s₂
theorem Goes.via {tb : Tables} {e : Env} {below : List Frame} {Q : Outcome → State → Prop} {A B : State} (h : ∀ t, Steps tb e below B t → Steps tb e below A t) (g : Goes tb e below Q B) : Goes tb e below Q A := by
  obtain ⟨s₂, o, h1, h2⟩ := g
  exact ⟨s₂, o, h _ h1, h2⟩
theorem Goes.aft {tb : Tables} {e : Env} {below : List Frame} {Q : Outcome → State → Prop} {A B : State} (h : Steps tb e below A B) (g : Goes tb e below Q B) : Goes tb e below Q A := by
  obtain ⟨s₂, o, h1, h2⟩ := g
  exact ⟨s₂, o, h.trans h1, h2⟩
/-- what may be written: made since the law began (n0), booked for no literal; of SA0 (handed in) or made since this method began (k) -/
def Sfs (Z : State) (EL : List (String × Nat)) (vm : Vm) (h : Heap) (n0 k : Nat) (SA0 SA : List Addr) : Prop := ∀ x ∈ SA, Safe Z EL vm h x ∧ x < h.size ∧ n0 ≤ x ∧ (x ∈ SA0 ∨ k ≤ x)
/-- where a walk stands, all in one -/
def Wd (p : Program) (l : Launch) (e : Env) (R : Room) (s : State) (m : MethodId) (args : Array Value) (below : List Frame) (meth : Method) (c : Code)
    (Z : State) (a0 : Array Value) (EL : List (String × Nat)) (own : String) (n0 : Nat) (SA0 SA : List Addr) (T : State) (h : Heap) (cells slots : Nat) : Prop :=
  ∃ (vm0 : Vm) (locs : List Loc) (k0 : Nat), Stand p l e R (s.setVm vm0) m args below meth c T locs cells slots ∧ T.heap = h ∧ s.Since vm0 k0 ∧ k0 ≤ h.size ∧ Z.Warmed39 vm0 ∧ vm0.findClass own = some m.cls ∧
    CHr Z EL s.vm s.heap vm0 h ∧ Fr n0 locs ∧ Old Z n0 h ∧ Keep s.heap h SA0 ∧ Sfs Z EL vm0 h n0 s.heap.size SA0 SA ∧ EW Z a0 EL ∧ p.tables.exec = Jvm.exec
section Wide
variable {p : Program} {l : Launch} {e : Env} {R : Room} {s : State} {m : MethodId} {args : Array Value} {below : List Frame} {meth : Method} {c : Code}
variable {Z : State} {a0 : Array Value} {EL : List (String × Nat)} {own : String} {n0 : Nat} {SA0 SA : List Addr} {T : State} {h h' : Heap} {cells slots : Nat} {Q : Outcome → State → Prop} {pc : Nat} {Ls : Array Slot} {st : List Value} {vm0 vm1 : Vm} {a : Addr} {sl : Nat} {v : Value}
theorem Wd.exec (X : Wd p l e R s m args below meth c Z a0 EL own n0 SA0 SA T h cells slots) : p.tables.exec = Jvm.exec := by
  obtain ⟨_, _, _, -, -, -, -, -, -, -, -, -, -, -, -, q⟩ := X; exact q
theorem Wd.here (X : Wd p l e R s m args below meth c Z a0 EL own n0 SA0 SA T h cells slots) : At T m c below := by
  obtain ⟨_, _, _, Y, -⟩ := X; exact Y.here
theorem Wd.old (X : Wd p l e R s m args below meth c Z a0 EL own n0 SA0 SA T h cells slots) : Old Z n0 h := by
  obtain ⟨_, _, _, -, -, -, -, -, -, -, -, q, -⟩ := X; exact q
theorem Wd.kept (X : Wd p l e R s m args below meth c Z a0 EL own n0 SA0 SA T h cells slots) : Keep s.heap h SA0 := by
  obtain ⟨_, _, _, -, -, -, -, -, -, -, -, -, q, -⟩ := X; exact q
theorem Wd.al (X : Wd p l e R s m args below meth c Z a0 EL own n0 SA0 SA T h cells slots) : Z.vm.Alike T.vm := by
  obtain ⟨_, _, _, Y, -, -, -, hZ, -⟩ := X; exact (wtrans (s := s.setVm _) hZ Y.warmed).alike
theorem Wd.n0h (X : Wd p l e R s m args below meth c Z a0 EL own n0 SA0 SA T h cells slots) : n0 ≤ h.size := by
  obtain ⟨q1, q2, -⟩ := X.old; rw [← q1]; exact q2
theorem Wd.saf (X : Wd p l e R s m args below meth c Z a0 EL own n0 SA0 SA T h cells slots) {x : Addr} (q : x ∈ SA) : n0 ≤ x ∧ x < h.size := by
  obtain ⟨_, _, _, -, -, -, -, -, -, -, -, -, -, S, -⟩ := X; exact ⟨(S x q).2.2.1, (S x q).2.1⟩
theorem Sfs.go {k : Nat} (S : Sfs Z EL vm0 h n0 k SA0 SA) (A : CHr Z EL vm0 h vm1 h') : Sfs Z EL vm1 h' n0 k SA0 SA := fun x hx =>
  ⟨A.safe (S x hx).2.1 (S x hx).1, Nat.lt_of_lt_of_le (S x hx).2.1 A.2.1, (S x hx).2.2⟩
/-- fewer may be written -/
theorem Wd.less {SA' : List Addr} (X : Wd p l e R s m args below meth c Z a0 EL own n0 SA0 SA T h cells slots) (q : ∀ x ∈ SA', x ∈ SA) : Wd p l e R s m args below meth c Z a0 EL own n0 SA0 SA' T h cells slots := by
  obtain ⟨vm0, locs, k0, r1, r2, r3, r4, r5, r6, r7, r8, r9, r10, r11, r12, r13⟩ := X
  exact ⟨vm0, locs, k0, r1, r2, r3, r4, r5, r6, r7, r8, r9, r10, fun x hx => r11 x (q x hx), r12, r13⟩
theorem Wd.mono {cells' slots' : Nat} (X : Wd p l e R s m args below meth c Z a0 EL own n0 SA0 SA T h cells slots) (h1 : cells ≤ cells') (h2 : slots ≤ slots') : Wd p l e R s m args below meth c Z a0 EL own n0 SA0 SA T h cells' slots' := by
  obtain ⟨vm0, locs, k0, r1, r⟩ := X
  exact ⟨vm0, locs, k0, r1.mono h1 h2, r⟩
/-- new C -/
theorem Wd.new (X : Wd p l e R s m args below meth c Z a0 EL own n0 SA0 SA T h cells slots) {index n : Nat} {C : String} (w : (Cond.classLink own index C).before a0 Z = true) (wi : (Cond.instantiable C n).before a0 Z = true) (wz : (Cond.initialized C).before a0 Z = true)
    (hd : decode c.code pc = .ok (.new index, 3)) (hc : cells + 1 ≤ R.cells) (hl : slots + n ≤ R.slots)
    (k : ∀ (T' : State) (h' : Heap) (b : Addr), b = h.size → Wd p l e R s m args below meth c Z a0 EL own n0 SA0 (b :: SA) T' h' (cells + 1) (slots + n) → Ext h h' → Exa Z h' b C → (∀ {O nm d : String} {ty : FieldType}, Laid Z a0 C O nm d → parseFieldDescriptor d = some ty → Fld Z h' b O nm d (defaultValue ty)) →
      (∃ cell : Cell, h'[b]? = some cell ∧ cell.vm = .none ∧ cell.monitor = {}) → Goes p.tables e below Q (T'.setTop (mkF m (pc + 3) Ls (.ref b :: st)))) : Goes p.tables e below Q (T.setTop (mkF m pc Ls st)) := by
  obtain ⟨vm0, locs, k0, Y, eT, hS, hk, hZ, hown, hC, N, O, K, S, hEL, hx⟩ := X
  obtain ⟨T', h', Y', e', E, A, D, U, st'⟩ := newO Y hx hZ hown w wi wz eT (g := mkF m pc Ls st) rfl hd hc hl
  have A' := CHr.ext E hC.1
  refine Goes.via st' (k T' h' _ rfl ⟨vm0, locs, k0, Y', e', hS, Nat.le_trans hk E.1, hZ, hown, hC.trans A', N, O.ext E, K.ext E, fun x q => ?_, hEL, hx⟩ E A D U)
  rcases List.mem_cons.mp q with rfl | q
  · exact ⟨(Safe.new (Nat.le_refl _)).ext E hC.1, A.lt, by rw [← O.1]; exact O.2.1, Or.inr K.1⟩
  · exact S.go A' x q
/-- newarray of a primitive kind, its length known -/
theorem Wd.newarr (X : Wd p l e R s m args below meth c Z a0 EL own n0 SA0 SA T h cells slots) {aty : ArrayType} (w : (Cond.arrayClass (newarray.typeOf aty)).before a0 Z = true) {n : Int32} (hd : decode c.code pc = .ok (.newarray aty, 2)) (hn : ¬ n < 0) (cap : Nat) (hcap : n.toNatClampNeg ≤ cap) (hb : cap * 8 ≤ 536870912) (hc : cells + 1 ≤ R.cells) (hl : slots + cap ≤ R.slots)
    (k : ∀ (T' : State) (h' : Heap) (b : Addr) (kb : ClassId), b = h.size → Wd p l e R s m args below meth c Z a0 EL own n0 SA0 (b :: SA) T' h' (cells + 1) (slots + cap) → Ext h h' → Arv Z h' b kb (newarray.typeOf aty) n [] (defaultValue (newarray.typeOf aty)) → Goes p.tables e below Q (T'.setTop (mkF m (pc + 2) Ls (.ref b :: st)))) : Goes p.tables e below Q (T.setTop (mkF m pc Ls (.int n :: st))) := by
  obtain ⟨vm0, locs, k0, Y, eT, hS, hk, hZ, hown, hC, N, O, K, S, hEL, hx⟩ := X
  obtain ⟨T', h', kb, Y', e', E, A, st'⟩ := newP Y hx hZ w eT (g := mkF m pc Ls (.int n :: st)) rfl hd rfl hn hcap hb hc hl
  have A' := CHr.ext E hC.1
  refine Goes.via st' (k T' h' _ kb rfl ⟨vm0, locs, k0, Y', e', hS, Nat.le_trans hk E.1, hZ, hown, hC.trans A', N, O.ext E, K.ext E, fun x q => ?_, hEL, hx⟩ E (Arv.new A hn))
  rcases List.mem_cons.mp q with rfl | q
  · exact ⟨(Safe.new (Nat.le_refl _)).ext E hC.1, A.lt, by rw [← O.1]; exact O.2.1, Or.inr K.1⟩
  · exact S.go A' x q
theorem wrN (hC : CHr Z EL s.vm s.heap vm0 h) (O : Old Z n0 h) (K : Keep s.heap h SA0) (S : Sfs Z EL vm0 h n0 s.heap.size SA0 SA) (q : a ∈ SA) (W : Wr h h' a sl v) :
    CHr Z EL s.vm s.heap vm0 h' ∧ Old Z n0 h' ∧ Keep s.heap h' SA0 ∧ Sfs Z EL vm0 h' n0 s.heap.size SA0 SA ∧ n0 ≤ a ∧ h.size ≤ h'.size := by
  obtain ⟨q1, -, q3, q4⟩ := S a q
  have A := CHr.wr W q1 hC.1
  exact ⟨hC.trans A, O.wr W q3, K.wr W q4, S.go A, q3, A.2.1⟩
/-- putfield -/
theorem Wd.putf (X : Wd p l e R s m args below meth c Z a0 EL own n0 SA0 SA T h cells slots) {R0 O n d C : String} {index kk : Nat} {ty : FieldType} (w : (Cond.fieldLink own index R0 n d).before a0 Z = true) (via : Via Z R0 O n d) {v old : Value} (F : Fld Z h a O n d old) (E : Exa Z h a C)
    (L : (Cond.lays C O n d).before a0 Z = true ∨ ((Cond.laysFinal C O n d).before a0 Z = true ∧ own = O ∧ meth.name = "<init>")) (wi : (Cond.instantiable C kk).before a0 Z = true) (hty : parseFieldDescriptor d = some ty) (hn : narrow ty v = v) (hf : fits ty v = true) (hd : decode c.code pc = .ok (.putfield index, 3)) (q : a ∈ SA)
    (k : ∀ (T' : State) (h' : Heap), Wd p l e R s m args below meth c Z a0 EL own n0 SA0 SA T' h' cells slots → Wr h h' a (Jvm.RoadKit.slotOf Z O n d) v → Goes p.tables e below Q (T'.setTop (mkF m (pc + 3) Ls st))) : Goes p.tables e below Q (T.setTop (mkF m pc Ls (v :: .ref a :: st))) := by
  obtain ⟨vm0, locs, k0, Y, eT, hS, hk, hZ, hown, hC, N, O', K, S, hEL, hx⟩ := X
  obtain ⟨T', h', Y', e', W, st'⟩ := putF Y hx hZ hown (host := "") (Or.inl w) via eT F E L wi hty hn hf (g := mkF m pc Ls (v :: .ref a :: st)) rfl rfl hd
  obtain ⟨q1, q2, q3, q4, q5, q6⟩ := wrN hC O' K S q W
  exact Goes.via st' (k T' h' ⟨vm0, _, k0, Y', e', hS, Nat.le_trans hk q6, hZ, hown, q1, Fr.snoc Y' N q5, q2, q3, q4, hEL, hx⟩ W)
/-- getfield -/
theorem Wd.getf (X : Wd p l e R s m args below meth c Z a0 EL own n0 SA0 SA T h cells slots) {R0 O n d : String} {index : Nat} (w : (Cond.fieldLink own index R0 n d).before a0 Z = true) (via : Via Z R0 O n d) {v : Value} (F : Fld Z h a O n d v) (hd : decode c.code pc = .ok (.getfield index, 3))
    (k : ∀ T' : State, Wd p l e R s m args below meth c Z a0 EL own n0 SA0 SA T' h cells slots → Goes p.tables e below Q (T'.setTop (mkF m (pc + 3) Ls (v :: st)))) : Goes p.tables e below Q (T.setTop (mkF m pc Ls (.ref a :: st))) := by
  obtain ⟨vm0, locs, k0, Y, eT, r2, r3, r4, r5, r⟩ := X
  obtain ⟨T', Y', e', st'⟩ := getF Y r.2.2.2.2.2.2 r4 r5 (host := "") (Or.inl w) via eT F (g := mkF m pc Ls (.ref a :: st)) rfl rfl hd
  exact Goes.via st' (k T' ⟨vm0, locs, k0, Y', e', r2, r3, r4, r5, r⟩)
/-- getstatic -/
theorem Wd.gets (X : Wd p l e R s m args below meth c Z a0 EL own n0 SA0 SA T h cells slots) {R0 O n d : String} {index : Nat} (w : (Cond.fieldLink own index R0 n d).before a0 Z = true) (via : Via Z R0 O n d) {v : Value} (F : Sta Z h O n d v) (hd : decode c.code pc = .ok (.getstatic index, 3))
    (k : ∀ T' : State, Wd p l e R s m args below meth c Z a0 EL own n0 SA0 SA T' h cells slots → Goes p.tables e below Q (T'.setTop (mkF m (pc + 3) Ls (v :: st)))) : Goes p.tables e below Q (T.setTop (mkF m pc Ls st)) := by
  obtain ⟨vm0, locs, k0, Y, eT, r2, r3, r4, r5, r⟩ := X
  obtain ⟨T', Y', e', st'⟩ := getS (host := "") Y r.2.2.2.2.2.2 r4 r5 w via eT F (g := mkF m pc Ls st) rfl hd
  exact Goes.via st' (k T' ⟨vm0, locs, k0, Y', e', r2, r3, r4, r5, r⟩)
/-- Object.<init> -/
theorem Wd.inito (X : Wd p l e R s m args below meth c Z a0 EL own n0 SA0 SA T h cells slots) {idx : Nat} (w1 : (Cond.methodLink own idx Lib.objectInit).before a0 Z = true) (w2 : (Cond.instanceMethod Lib.objectInit).before a0 Z = true) (w3 : (Cond.code Lib.objectInit ⟨#[0xb1]⟩ 1 none).before a0 Z = true)
    (hd : decode c.code pc = .ok (.invokespecial idx, 3)) (hsize : Ls.size = c.maxLocals) (hf : 1 ≤ R.frames) (W : Nat) (hW : (st.map fun v => v.category).sum ≤ W) (hl : W + 12 ≤ R.locals)
    (k : ∀ T' : State, Wd p l e R s m args below meth c Z a0 EL own n0 SA0 SA T' h cells slots → Goes p.tables e below Q (T'.setTop (mkF m (pc + 3) Ls st))) : Goes p.tables e below Q (T.setTop (mkF m pc Ls (.ref a :: st))) := by
  obtain ⟨vm0, locs, k0, Y, eT, r2, r3, r4, r5, r⟩ := X
  obtain ⟨T', Y', e', st'⟩ := initO Y r.2.2.2.2.2.2 r4 r5 w1 w2 w3 eT (g := mkF m pc Ls (.ref a :: st)) rfl hsize rfl hd hf (W := W) (by show 2 * 0 + _ ≤ _; omega) hl
  exact Goes.via st' (k T' ⟨vm0, locs, k0, Y', e', r2, r3, r4, r5, r⟩)
/-- castore -/
theorem Wd.castore (X : Wd p l e R s m args below meth c Z a0 EL own n0 SA0 SA T h cells slots) {kb : ClassId} {n j x : Int32} {vs : List Value} {dv : Value} (V : Arv Z h a kb .char n vs dv) (hj : ¬ j < 0 ∧ j < n) (i : Nat) (hji : j.toNatClampNeg = i) (hi : i < vs.length) (q : a ∈ SA) (hd : decode c.code pc = .ok (.castore, 1))
    (k : ∀ (T' : State) (h' : Heap), Wd p l e R s m args below meth c Z a0 EL own n0 SA0 SA T' h' cells slots → Wr h h' a j.toNatClampNeg (.int (nar .char x)) → Arv Z h' a kb .char n (vs.set i (.int (nar .char x))) dv → Goes p.tables e below Q (T'.setTop (mkF m (pc + 1) Ls st))) : Goes p.tables e below Q (T.setTop (mkF m pc Ls (.int x :: .int j :: .ref a :: st))) := by
  obtain ⟨vm0, locs, k0, Y, eT, hS, hk, hZ, hown, hC, N, O', K, S, hEL, hx⟩ := X
  obtain ⟨cl, A, v1, v2, v3, v4, v5⟩ := V
  obtain ⟨T', h', Y', e', W, st'⟩ := stC Y hx hZ eT A (inb_of v2 hj) (g := mkF m pc Ls (.int x :: .int j :: .ref a :: st)) rfl rfl hd
  obtain ⟨q1, q2, q3, q4, q5, q6⟩ := wrN hC O' K S q W
  exact Goes.via st' (k T' h' ⟨vm0, _, k0, Y', e', hS, Nat.le_trans hk q6, hZ, hown, q1, Fr.snoc Y' N q5, q2, q3, q4, hEL, hx⟩ W (Arv.set A v1 v2 v3 v4 v5 (fits_nar_char _) W i hji hi))
/-- bastore into a byte[] -/
theorem Wd.bastore (X : Wd p l e R s m args below meth c Z a0 EL own n0 SA0 SA T h cells slots) {kb : ClassId} {n j x : Int32} {vs : List Value} {dv : Value} (V : Arv Z h a kb .byte n vs dv) (hj : ¬ j < 0 ∧ j < n) (i : Nat) (hji : j.toNatClampNeg = i) (hi : i < vs.length) (q : a ∈ SA) (hd : decode c.code pc = .ok (.bastore, 1))
    (k : ∀ (T' : State) (h' : Heap), Wd p l e R s m args below meth c Z a0 EL own n0 SA0 SA T' h' cells slots → Wr h h' a j.toNatClampNeg (.int (nar .byte x)) → Arv Z h' a kb .byte n (vs.set i (.int (nar .byte x))) dv → Goes p.tables e below Q (T'.setTop (mkF m (pc + 1) Ls st))) : Goes p.tables e below Q (T.setTop (mkF m pc Ls (.int x :: .int j :: .ref a :: st))) := by
  obtain ⟨vm0, locs, k0, Y, eT, hS, hk, hZ, hown, hC, N, O', K, S, hEL, hx⟩ := X
  obtain ⟨cl, A, v1, v2, v3, v4, v5⟩ := V
  obtain ⟨T', h', Y', e', W, st'⟩ := stB Y hx hZ eT A (inb_of v2 hj) (g := mkF m pc Ls (.int x :: .int j :: .ref a :: st)) rfl rfl hd
  obtain ⟨q1, q2, q3, q4, q5, q6⟩ := wrN hC O' K S q W
  exact Goes.via st' (k T' h' ⟨vm0, _, k0, Y', e', hS, Nat.le_trans hk q6, hZ, hown, q1, Fr.snoc Y' N q5, q2, q3, q4, hEL, hx⟩ W (Arv.set A v1 v2 v3 v4 v5 (fits_nar_byte _) W i hji hi))
/-- caload -/
theorem Wd.caload (X : Wd p l e R s m args below meth c Z a0 EL own n0 SA0 SA T h cells slots) {kb : ClassId} {n j : Int32} {vs : List Value} {dv v : Value} (V : Arv Z h a kb .char n vs dv) (hj : ¬ j < 0 ∧ j < n) (hv : vs.getD j.toNatClampNeg dv = v) (hd : decode c.code pc = .ok (.caload, 1))
    (g : Goes p.tables e below Q (T.setTop (mkF m (pc + 1) Ls (v :: st)))) : Goes p.tables e below Q (T.setTop (mkF m pc Ls (.int j :: .ref a :: st))) := by
  obtain ⟨vm0, locs, k0, Y, eT, r2, r3, r4, r5, r⟩ := X
  obtain ⟨cl, A, v1, v2, v3, v4, v5⟩ := V
  exact Goes.via (fun t => Y.caload r.2.2.2.2.2.2 (by rw [eT]; exact A.1) (State.isArrayOf_alike r4.alike A.2.1) A.2.2 (inb_of v2 hj) (v4.at (inb_of v2 hj) hv) (g := mkF m pc Ls (.int j :: .ref a :: st)) rfl rfl hd t) g
/-- arraylength -/
theorem Wd.alen (X : Wd p l e R s m args below meth c Z a0 EL own n0 SA0 SA T h cells slots) {kb : ClassId} {n : Int32} {vs : List Value} {dv : Value} {ty : FieldType} (V : Arv Z h a kb ty n vs dv) (hd : decode c.code pc = .ok (.arraylength, 1))
    (g : Goes p.tables e below Q (T.setTop (mkF m (pc + 1) Ls (.int n :: st)))) : Goes p.tables e below Q (T.setTop (mkF m pc Ls (.ref a :: st))) := by
  obtain ⟨vm0, locs, k0, Y, eT, r2, r3, r4, r5, r⟩ := X
  obtain ⟨cl, A, v1, v2, v3, v4, v5⟩ := V
  rw [← len_of v2 v3] at g
  exact Goes.via (fun t => Y.arraylength r.2.2.2.2.2.2 (by rw [eT]; exact A.1) (State.isArrayOf_alike r4.alike A.2.1) (g := mkF m pc Ls (.ref a :: st)) rfl rfl hd t) g
/-- ldc of a String constant of EL, read -/
theorem Wd.ldcS (X : Wd p l e R s m args below meth c Z a0 EL own n0 SA0 SA T h cells slots) {index : Nat} {text : String} (w : (Cond.stringLink own index text).before a0 Z = true) (wS : ∀ a ∈ Bundle.stringAtoms, a.before a0 Z = true) (hmem : (own, index) ∈ EL) {vs : List Value} {z : Int32}
    (ht : (∀ c ∈ text.toList, c.toNat < 256) ∧ text.toList.map (fun c => Value.int (Jvm.Lit.byteI c.toNat.toUInt16)) = vs) (hz : ¬ z < 0) (hl : z.toNatClampNeg = vs.length) (hd : decode c.code pc = .ok (.ldc index, 2)) (n : Nat) (hn : 4 * text.toList.length ≤ n) (hbig : n ≤ 536870912) (hc : cells + 2 ≤ R.cells) (hl' : slots + (n + 4) ≤ R.slots)
    (k : ∀ (T' : State) (h' : Heap) (a b : Addr) (kb : ClassId), Wd p l e R s m args below meth c Z a0 EL own n0 SA0 SA T' h' (cells + 2) (slots + (n + 4)) → Ext h h' → Exa Z h' a "java/lang/String" → Fld Z h' a "java/lang/String" "coder" "B" (.int 0) → Fld Z h' a "java/lang/String" "value" "[B" (.ref b) → Arv Z h' b kb .byte z vs (.int 0) → (∀ x ∈ SA, x ≠ a ∧ x ≠ b) →
      Goes p.tables e below Q (T'.setTop (mkF m (pc + 2) Ls (.ref a :: st)))) : Goes p.tables e below Q (T.setTop (mkF m pc Ls st)) := by
  obtain ⟨vm0, locs, k0, Y, eT, hS, hk, hZ, hown, hC, N, O, K, S, hEL, hx⟩ := X
  obtain ⟨a, T', h', k1, b, kb, Y', e', E, hS', hk', hZ', hown', A1, A2, A3, A4, -, -, A5, -, A6, st'⟩ := ldcCH Y hx hZ hown w wS eT hS hk hEL hmem hC.1 ht hz hl (g := mkF m pc Ls st) rfl hd hn hbig hc hl'
  have S' := S.go A5
  exact Goes.via st' (k T' h' a b kb ⟨T'.vm, locs, k1, Y', e', hS', hk', hZ', hown', hC.trans A5, N, O.ext E, K.ext E, S', hEL, hx⟩ E A1 A2 A3 A4 fun x q => A6 x (S' x q).1)
/-- ldc of any String constant, not read -/
theorem Wd.ldcO (X : Wd p l e R s m args below meth c Z a0 EL own n0 SA0 SA T h cells slots) {index : Nat} {text : String} (w : (Cond.stringLink own index text).before a0 Z = true) (wS : ∀ a ∈ Bundle.stringAtoms, a.before a0 Z = true)
    (hd : decode c.code pc = .ok (.ldc index, 2)) (n : Nat) (hn : 4 * text.toList.length ≤ n) (hbig : n ≤ 536870912) (hc : cells + 2 ≤ R.cells) (hl' : slots + (n + 4) ≤ R.slots)
    (k : ∀ (T' : State) (h' : Heap) (a : Addr), Wd p l e R s m args below meth c Z a0 EL own n0 SA0 SA T' h' (cells + 2) (slots + (n + 4)) → Ext h h' →
      Goes p.tables e below Q (T'.setTop (mkF m (pc + 2) Ls (.ref a :: st)))) : Goes p.tables e below Q (T.setTop (mkF m pc Ls st)) := by
  obtain ⟨vm0, locs, k0, Y, eT, hS, hk, hZ, hown, hC, N, O, K, S, hEL, hx⟩ := X
  obtain ⟨a, T', h', k1, Y', e', E, hS', hk', hZ', hown', A5, -, st'⟩ := ldcOH Y hx hZ hown w wS eT hS hk hEL hC.1 (g := mkF m pc Ls st) rfl hd hn hbig hc hl'
  exact Goes.via st' (k T' h' a ⟨T'.vm, locs, k1, Y', e', hS', hk', hZ', hown', hC.trans A5, N, O.ext E, K.ext E, S.go A5, hEL, hx⟩ E)
/-- ldc of an int -/
theorem Wd.ldcI (X : Wd p l e R s m args below meth c Z a0 EL own n0 SA0 SA T h cells slots) {index : Nat} {v : Int32} (w : (Cond.constant own index v).before a0 Z = true) (hd : decode c.code pc = .ok (.ldc index, 2))
    (g : Goes p.tables e below Q (T.setTop (mkF m (pc + 2) Ls (.int v :: st)))) : Goes p.tables e below Q (T.setTop (mkF m pc Ls st)) := by
  obtain ⟨vm0, locs, k0, Y, eT, r2, r3, r4, r5, r⟩ := X
  exact Goes.via (fun t => Y.ldcInt r.2.2.2.2.2.2 r5 (mvT (s := s.setVm vm0) r4 w) (g := mkF m pc Ls st) rfl hd t) g
end Wide
end Own
namespace Own
open Jvm Jvm.ClassFile Sem Op Lib Jvm.Free Jvm.Stand Jvm.LawKit Jvm.RoadKit Bundle
/-- a method's contract: handed as' in the heap h0, it may write SA0 and what it makes; at its end Q0 holds -/
def Ct (l : Launch) (Z : State) (EL : List (String × Nat)) (ws : List Jvm.Cond) (y : MethodName) (bytes : ByteArray) (maxL : Nat) (ret : Option FieldType) (rm : Room) (as' : Array Value) (h0 : Heap) (n0 : Nat) (SA0 : List Addr) (Q0 : Option Value → Heap → Prop) : Prop :=
  MetFree l y (head1 (Jvm.Cond.code y bytes maxL ret :: ws) rm) (fun a U => a = as' ∧ Z.Warmed39 U.vm ∧ U.heap = h0 ∧ CHv Z EL U.vm h0 ∧ Old Z n0 h0 ∧ ∀ x ∈ SA0, Safe Z EL U.vm h0 x ∧ x < h0.size ∧ n0 ≤ x) (fun _ _ _ _ _ => True)
    (fun _ U o U' => ∃ v L, o = .returned v ∧ (Q0 v U'.heap ∧ Fr n0 L ∧ Old Z n0 U'.heap ∧ Keep h0 U'.heap SA0) ∧ CHr Z EL U.vm U.heap U'.vm U'.heap ∧ ReturnedEndW U o U' L rm.cells rm.slots)
/-- what an end must bring -/
def Endq (Z : State) (EL : List (String × Nat)) (s : State) (n0 : Nat) (SA0 : List Addr) (rm : Room) (Q0 : Option Value → Heap → Prop) (o : Outcome) (U' : State) : Prop :=
  ∃ v L, o = .returned v ∧ (Q0 v U'.heap ∧ Fr n0 L ∧ Old Z n0 U'.heap ∧ Keep s.heap U'.heap SA0) ∧ CHr Z EL s.vm s.heap U'.vm U'.heap ∧ ReturnedEndW s o U' L rm.cells rm.slots
section Wide
variable {p : Program} {l : Launch} {e : Env} {R : Room} {s : State} {m : MethodId} {args : Array Value} {below : List Frame} {meth : Method} {c : Code}
variable {Z : State} {a0 : Array Value} {EL : List (String × Nat)} {own : String} {n0 : Nat} {SA0 SA SA' : List Addr} {T : State} {h h' h0 : Heap} {cells slots : Nat} {Q : Outcome → State → Prop} {pc : Nat} {Ls : Array Slot} {st : List Value} {vm0 vm1 : Vm} {a : Addr} {sl : Nat} {v : Value}
variable {ws : List Jvm.Cond} {y z : MethodName} {bytes : ByteArray} {maxL : Nat} {ret : Option FieldType} {rm : Room} {as' : Array Value} {Q0 : Option Value → Heap → Prop}
theorem Ct.enter (pn : plainFor y = true) (hEL : EW Z a0 EL)
    (body : ∀ (p : Program) (e : Env) (s : State) (m : MethodId) (below : List Frame) (meth : Method) (c : Code) (T : State), c.code = bytes → c.maxLocals = maxL → meth.sig.returnType = ret → meth.locks = false → meth.name = y.name → s.heap = h0 → Wd p l e rm s m as' below meth c Z a0 EL y.cls n0 SA0 SA0 T h0 0 0 →
      Goes p.tables e below (Endq Z EL s n0 SA0 rm Q0) (T.setTop (entryFrame m as' maxL))) : Ct l Z EL ws y bytes maxL ret rm as' h0 n0 SA0 Q0 := by
  refine MetFree.of_bodySF pn hisR ?_
  intro p e s m args below meth c s₁ Bd hml0 hP hK
  obtain ⟨rfl, hZ, rfl, H, O, S⟩ := hP
  have Y : Stand p l e rm s m args below meth c s₁ [] 0 0 := Stand.of_body Bd
  have e0 : s₁.heap = s.heap := by rw [Bd.state]; rfl
  obtain ⟨s₂, o, h1, h2, h3, v, L, h4, h5, h6, h7⟩ := body p e s m below meth c s₁ Bd.bytes hml0 Bd.returns (BodyLoose.notSynchronized Bd) (name_of_methodNamed Bd.named Bd.method).1 rfl
    ⟨s.vm, [], 0, Y, e0, (State.WarmedH.refl s).since _, Nat.zero_le _, hZ, findClass_of_methodNamed Bd.named, CHr.refl H, Fr.nil _, O, Keep.refl _ _, fun x q => ⟨(S x q).1, (S x q).2.1, (S x q).2.2, Or.inl q⟩, hEL, Bd.exec⟩
  exact ⟨s₂, o, h1, h2, h3, v, L, h4, h5, h6, h7⟩
theorem Ct.back {len W : Nat} (ct : Ct l Z EL [] y bytes maxL ret rm as' h n0 SA0 Q0) (hZ : Z.Warmed39 vm0) (wc : (Jvm.Cond.code y bytes maxL ret).before a0 Z = true) (wz : (Jvm.Cond.initialized y.cls).before a0 Z = true) (hf : rm.frames + 1 ≤ R.frames) (hl : W + (maxL + 11) + rm.locals ≤ R.locals) (hEL : EW Z a0 EL) (H : CHv Z EL vm0 h) (O : Old Z n0 h)
    (S : ∀ x ∈ SA0, Safe Z EL vm0 h x ∧ x < h.size ∧ n0 ≤ x) :
    BackS l R p e below (s.setVm vm0) args y len W (fun A a => a = as' ∧ A.U.heap = h ∧ A.cells + rm.cells ≤ R.cells ∧ A.slots + rm.slots ≤ R.slots)
      (fun A _ v B => ∃ L, (Q0 v B.U.heap ∧ Fr n0 L ∧ Old Z n0 B.U.heap ∧ Keep h B.U.heap SA0) ∧ B.locs = A.locs ++ L ∧ B.cells = A.cells + rm.cells ∧ B.slots = A.slots + rm.slots ∧ CHr Z EL vm0 h B.U.vm B.U.heap) :=
  BackS.of_freeW (bytes := bytes) (maxL := maxL) (ret := ret) (E := fun _ first o t L k n => k = rm.cells ∧ n = rm.slots ∧ (∃ v, o = .returned v ∧ (Q0 v t.heap ∧ Fr n0 L ∧ Old Z n0 t.heap ∧ Keep h t.heap SA0)) ∧ CHr Z EL first.vm first.heap t.vm t.heap) ct hf hl
    (fun m meth c A a Y hp => have hU : Z.Warmed39 A.U.vm := wtrans (s := s.setVm vm0) hZ Y.warmed
      ⟨by show (Jvm.Cond.and _ .tt).before a A.U = true; rw [Cond.before_and, mv hU wc]; rfl, mv hU wc, mv hU wz, hp.2.2.1, hp.2.2.2⟩)
    (fun m meth c A a g mk Y hp => ⟨hp.1, wtrans (s := s.setVm vm0) hZ Y.warmed, hp.2.1, (CHv.at Y hZ hEL H).1, O, fun x q => ⟨(CHv.at Y hZ hEL H).safe (S x q).2.1 (S x q).1, (S x q).2⟩⟩) (fun _ _ _ _ _ _ _ _ _ => trivial)
    (fun _ _ _ _ ⟨v, L, h1, h2, h3, h4⟩ => ⟨L, _, _, h4, rfl, rfl, ⟨v, h1, h2⟩, h3⟩)
    (fun m meth c A a g mk v t L k n Y hp _ _ ⟨e1, e2, ⟨v', e3, e4⟩, e5⟩ => by
      cases e3; subst e1 e2
      refine ⟨L, e4, rfl, rfl, rfl, (CHv.at Y hZ hEL H).trans ?_⟩
      rw [← hp.2.1]; exact e5)
/-- what stands behind a call by its contract -/
theorem callN {T' : State} {L : List Loc} {k0 cells' slots' : Nat} (hS : s.Since vm0 k0) (hk : k0 ≤ h.size) (hZ : Z.Warmed39 vm0) (hown : vm0.findClass own = some m.cls) (hC : CHr Z EL s.vm s.heap vm0 h) {locs : List Loc} (N : Fr n0 locs) (K : Keep s.heap h SA0) (S : Sfs Z EL vm0 h n0 s.heap.size SA0 SA) (hEL : EW Z a0 EL) (hx : p.tables.exec = Jvm.exec)
    (Y : Stand p l e R ((s.setVm vm0).setVm T'.vm) m args below meth c T' (locs ++ L) cells' slots') (h2 : (s.setVm vm0).Since T'.vm T'.heap.size) (hg : h.size ≤ T'.heap.size) (hL : Fr n0 L) (O' : Old Z n0 T'.heap) (K' : Keep h T'.heap SA') (hsub : ∀ x ∈ SA', x ∈ SA) (A : CHr Z EL vm0 h T'.vm T'.heap) :
    Wd p l e R s m args below meth c Z a0 EL own n0 SA0 SA T' T'.heap cells' slots' := by
  obtain ⟨r1, r2, r3, r4⟩ := rebS (own := own) hS hk Y h2 hg hZ hown
  exact ⟨T'.vm, _, _, r1, rfl, r2, Nat.le_refl _, r3, r4, hC.trans A, N.app hL, O', K.trans K' (fun x q => (S x (hsub x q)).2.2.2), S.go A, hEL, hx⟩
/-- invokestatic by its contract -/
theorem Wd.calls (X : Wd p l e R s m args below meth c Z a0 EL own n0 SA0 SA T h cells slots) (argsL rest : List Value) {idx : Nat} (ct : Ct l Z EL [] y bytes maxL ret rm argsL.toArray h n0 SA' Q0) (w1 : (Jvm.Cond.methodLink own idx y).before a0 Z = true) (w2 : (Jvm.Cond.static y).before a0 Z = true) (w3 : (Jvm.Cond.initialized y.cls).before a0 Z = true) (w4 : (Jvm.Cond.code y bytes maxL ret).before a0 Z = true)
    (hy : y.cls ≠ "java/lang/invoke/MethodHandle" ∧ y.cls ≠ "java/lang/invoke/VarHandle") (hsub : ∀ x ∈ SA', x ∈ SA) (hf : rm.frames + 1 ≤ R.frames) (W : Nat) (hl : W + (maxL + 11) + rm.locals ≤ R.locals) (hcl : cells + rm.cells ≤ R.cells) (hsl : slots + rm.slots ≤ R.slots)
    (hlen : ∀ sig, parseMethodDescriptor y.desc = some sig → argsL.length = sig.parameters.length) (hst : st = argsL.reverse ++ rest) (hW : (rest.map fun v => v.category).sum ≤ W) (hsize : Ls.size = c.maxLocals) (hd : decode c.code pc = .ok (.invokestatic idx, 3))
    (k : ∀ (T' : State) (h' : Heap) (v : Option Value), Wd p l e R s m args below meth c Z a0 EL own n0 SA0 SA T' h' (cells + rm.cells) (slots + rm.slots) → Keep h h' SA' → Q0 v h' → Goes p.tables e below Q (T'.setTop (mkF m (pc + 3) Ls (v.toList ++ rest)))) : Goes p.tables e below Q (T.setTop (mkF m pc Ls st)) := by
  obtain ⟨vm0, locs, k0, Y, eT, hS, hk, hZ, hown, hC, N, O, K, S, hEL, hx⟩ := X
  obtain ⟨v, vm1, ⟨T', L', c', s'⟩, -, Y', h2, hg, ⟨L, ⟨q0, q1, q2, q3⟩, rfl, rfl, rfl, A⟩, st'⟩ := callSS Y hx hown (mvT hZ w1) (mvT hZ w2) (mvT hZ w3) (mvT hZ w4) hy (ct.back (a0 := a0) (W := W) (len := 3) hZ w4 w3 hf hl hEL hC.1 O fun x q => ⟨(S x (hsub x q)).1, (S x (hsub x q)).2.1, (S x (hsub x q)).2.2.1⟩)
    (g := mkF m pc Ls st) rfl hsize (argsL := argsL) (rest := rest) hlen hst (by show 2 * 0 + _ ≤ _; omega) hd (fun _ _ => ⟨rfl, eT, hcl, hsl⟩)
  exact Goes.aft st' (k T' T'.heap v (callN hS hk hZ hown hC N K S hEL hx Y' h2 (by rw [← eT]; exact hg) q1 q2 q3 hsub A) q3 q0)
/-- invokespecial of a constructor by its contract -/
theorem Wd.callc (X : Wd p l e R s m args below meth c Z a0 EL own n0 SA0 SA T h cells slots) (argsL rest : List Value) {idx : Nat} (ct : Ct l Z EL [] y bytes maxL none rm (.ref a :: argsL).toArray h n0 SA' Q0) (hy1 : y.name = "<init>") (w1 : (Jvm.Cond.methodLink own idx y).before a0 Z = true) (w2 : (Jvm.Cond.instanceMethod y).before a0 Z = true) (w3 : (Jvm.Cond.initialized y.cls).before a0 Z = true) (w4 : (Jvm.Cond.code y bytes maxL none).before a0 Z = true)
    (hy : y.cls ≠ "java/lang/invoke/MethodHandle" ∧ y.cls ≠ "java/lang/invoke/VarHandle") (hsub : ∀ x ∈ SA', x ∈ SA) (hf : rm.frames + 1 ≤ R.frames) (W : Nat) (hl : W + (maxL + 11) + rm.locals ≤ R.locals) (hcl : cells + rm.cells ≤ R.cells) (hsl : slots + rm.slots ≤ R.slots)
    (hlen : ∀ sig, parseMethodDescriptor y.desc = some sig → argsL.length = sig.parameters.length) (hst : st = argsL.reverse ++ .ref a :: rest) (hW : (rest.map fun v => v.category).sum ≤ W) (hsize : Ls.size = c.maxLocals) (hd : decode c.code pc = .ok (.invokespecial idx, 3))
    (k : ∀ (T' : State) (h' : Heap) (v : Option Value), Wd p l e R s m args below meth c Z a0 EL own n0 SA0 SA T' h' (cells + rm.cells) (slots + rm.slots) → Keep h h' SA' → Q0 v h' → Goes p.tables e below Q (T'.setTop (mkF m (pc + 3) Ls (v.toList ++ rest)))) : Goes p.tables e below Q (T.setTop (mkF m pc Ls st)) := by
  obtain ⟨vm0, locs, k0, Y, eT, hS, hk, hZ, hown, hC, N, O, K, S, hEL, hx⟩ := X
  obtain ⟨v, vm1, ⟨T', L', c', s'⟩, -, Y', h2, hg, ⟨L, ⟨q0, q1, q2, q3⟩, rfl, rfl, rfl, A⟩, st'⟩ := Y.specialBackS hx hy1 hown (mvT hZ w1) (mvT hZ w2) (mvT hZ w4) hy (ct.back (a0 := a0) (W := W) (len := 3) hZ w4 w3 hf hl hEL hC.1 O fun x q => ⟨(S x (hsub x q)).1, (S x (hsub x q)).2.1, (S x (hsub x q)).2.2.1⟩)
    (g := mkF m pc Ls st) rfl hsize (Steps.refl _) (a := a) (argsL := argsL) (rest := rest) hlen hst (by show 2 * 0 + _ ≤ _; omega) hd (fun _ _ => ⟨rfl, eT, hcl, hsl⟩)
  exact Goes.aft st' (k T' T'.heap v (callN hS hk hZ hown hC N K S hEL hx Y' h2 (by rw [← eT]; exact hg) q1 q2 q3 hsub A) q3 q0)
/-- invokevirtual by its contract: resolved y, selected z on an object that is exactly a C -/
theorem Wd.callv (X : Wd p l e R s m args below meth c Z a0 EL own n0 SA0 SA T h cells slots) (argsL rest : List Value) {idx : Nat} {C : String} (ct : Ct l Z EL [] y bytes maxL ret rm (.ref a :: argsL).toArray h n0 SA' Q0) (E : Exa Z h a C) (w1 : (Jvm.Cond.methodLink own idx y).before a0 Z = true) (w2 : (Jvm.Cond.declares y).before a0 Z = true) (w3 : (Jvm.Cond.selects C y y).before a0 Z = true) (w4 : (Jvm.Cond.instanceMethod y).before a0 Z = true)
    (w5 : (Jvm.Cond.initialized y.cls).before a0 Z = true) (w6 : (Jvm.Cond.code y bytes maxL ret).before a0 Z = true)
    (hy : y.cls ≠ "java/lang/invoke/MethodHandle" ∧ y.cls ≠ "java/lang/invoke/VarHandle") (hsub : ∀ x ∈ SA', x ∈ SA) (hf : rm.frames + 1 ≤ R.frames) (W : Nat) (hl : W + (maxL + 11) + rm.locals ≤ R.locals) (hcl : cells + rm.cells ≤ R.cells) (hsl : slots + rm.slots ≤ R.slots)
    (hlen : ∀ sig, parseMethodDescriptor y.desc = some sig → argsL.length = sig.parameters.length) (hst : st = argsL.reverse ++ .ref a :: rest) (hW : (rest.map fun v => v.category).sum ≤ W) (hsize : Ls.size = c.maxLocals) (hd : decode c.code pc = .ok (.invokevirtual idx, 3))
    (k : ∀ (T' : State) (h' : Heap) (v : Option Value), Wd p l e R s m args below meth c Z a0 EL own n0 SA0 SA T' h' (cells + rm.cells) (slots + rm.slots) → Keep h h' SA' → Q0 v h' → Goes p.tables e below Q (T'.setTop (mkF m (pc + 3) Ls (v.toList ++ rest)))) : Goes p.tables e below Q (T.setTop (mkF m pc Ls st)) := by
  obtain ⟨vm0, locs, k0, Y, eT, hS, hk, hZ, hown, hC, N, O, K, S, hEL, hx⟩ := X
  obtain ⟨cB, kB, u1, -, u3⟩ := isOf (s := s.setVm vm0) hZ eT E
  obtain ⟨v, vm1, ⟨T', L', c', s'⟩, -, Y', h2, hg, ⟨L, ⟨q0, q1, q2, q3⟩, rfl, rfl, rfl, A⟩, st'⟩ := Y.virtualBackS hx hown (mvT hZ w1) (mvT hZ w2) (notFace_of_selects (args := #[]) (mvT hZ w3)) (mvT hZ w3) (mvT hZ w4) hy (ct.back (a0 := a0) (W := W) (len := 3) hZ w6 w5 hf hl hEL hC.1 O fun x q => ⟨(S x (hsub x q)).1, (S x (hsub x q)).2.1, (S x (hsub x q)).2.2.1⟩)
    u1 u3 (g := mkF m pc Ls st) rfl hsize (Steps.refl _) (argsL := argsL) (rest := rest) hlen hst (by show 2 * 0 + _ ≤ _; omega) hd (fun _ _ => ⟨rfl, eT, hcl, hsl⟩)
  exact Goes.aft st' (k T' T'.heap v (callN hS hk hZ hown hC N K S hEL hx Y' h2 (by rw [← eT]; exact hg) q1 q2 q3 hsub A) q3 q0)
/-- what stands behind a call by a law of the narrow kind (nothing interned), that wrote ws -/
theorem backN {T' : State} {L : List Loc} {k0 cells' slots' : Nat} (hS : s.Since vm0 k0) (hk : k0 ≤ h.size) (hZ : Z.Warmed39 vm0) (hown : vm0.findClass own = some m.cls) (hC : CHr Z EL s.vm s.heap vm0 h) {locs : List Loc} (N : Fr n0 locs) (O : Old Z n0 h) (K : Keep s.heap h SA0) (S : Sfs Z EL vm0 h n0 s.heap.size SA0 SA) (hEL : EW Z a0 EL) (hx : p.tables.exec = Jvm.exec)
    (Y : Stand p l e R (s.setVm vm0) m args below meth c T' (locs ++ L) cells' slots') (hL : Fr n0 L) (K' : Keep h T'.heap SA') (hsub : ∀ x ∈ SA', x ∈ SA) :
    Wd p l e R s m args below meth c Z a0 EL own n0 SA0 SA T' T'.heap cells' slots' := by
  have A := CHr.keep K' (fun x q => (S x (hsub x q)).1) hC.1
  exact ⟨vm0, _, k0, Y, rfl, hS, Nat.le_trans hk K'.1, hZ, hown, hC.trans A, N.app hL, O.keep K' (fun x q => (S x (hsub x q)).2.2.1), K.trans K' (fun x q => (S x (hsub x q)).2.2.2), S.go A, hEL, hx⟩
/-- the ends -/
theorem Wd.leave (X : Wd p l e R s m args below meth c Z a0 EL own n0 SA0 SA T h cells slots) (hv : meth.sig.returnType = none → ∀ w, v = w → False) (hlk : meth.locks = false) (hcl : cells ≤ R.cells) (hsl : slots ≤ R.slots) (q : Q0 (some v) h)
    (st' : ∀ fs, (∀ (f : JFrame) (acts : List Action), f.method = m → f.locked = none → f.entered = [] → (doReturn e (T.setTop f) acts (some v)).1 = T.setFrames fs) → ∀ (vm0 : Vm) (locs : List Loc), Stand p l e R (s.setVm vm0) m args below meth c T locs cells slots → Steps p.tables e below (T.setTop (mkF m pc Ls st)) (T.setFrames fs)) :
    Goes p.tables e below (Endq Z EL s n0 SA0 R Q0) (T.setTop (mkF m pc Ls st)) := by
  have X0 := X
  obtain ⟨vm0, locs, k0, Y, eT, hS, hk, hZ, hown, hC, N, O, K, S, hEL, hx⟩ := X
  obtain ⟨fs, hr, hrun, hended, hE⟩ := (Y.mono hcl hsl).leaveW hS (by rw [eT]; exact hk) (v := some v) (fun q => (hv q v rfl).elim) hlk
  refine ⟨_, _, st' fs hr vm0 locs Y, hrun, hended, _, _, rfl, ⟨?_, N, ?_, ?_⟩, ?_, hE⟩
  · show Q0 (some v) T.heap; rw [eT]; exact q
  · show Old Z n0 T.heap; rw [eT]; exact O
  · show Keep s.heap T.heap SA0; rw [eT]; exact K
  · show CHr Z EL s.vm s.heap T.vm T.heap; rw [eT]; exact hC.trans (CHv.at Y hZ hEL hC.1)
theorem Wd.retn (X : Wd p l e R s m args below meth c Z a0 EL own n0 SA0 SA T h cells slots) (hret : meth.sig.returnType = none) (hlk : meth.locks = false) (hd : decode c.code pc = .ok (.return_, 1)) (hcl : cells ≤ R.cells) (hsl : slots ≤ R.slots) (q : Q0 none h) :
    Goes p.tables e below (Endq Z EL s n0 SA0 R Q0) (T.setTop (mkF m pc Ls [])) := by
  obtain ⟨vm0, locs, k0, Y, eT, hS, hk, hZ, hown, hC, N, O, K, S, hEL, hx⟩ := X
  obtain ⟨fs, hr, hrun, hended, hE⟩ := (Y.mono hcl hsl).leaveW hS (by rw [eT]; exact hk) (v := none) (fun _ => rfl) hlk
  refine ⟨_, _, Y.returnOut hx hret hd hr, hrun, hended, _, _, rfl, ⟨?_, N, ?_, ?_⟩, ?_, hE⟩
  · show Q0 none T.heap; rw [eT]; exact q
  · show Old Z n0 T.heap; rw [eT]; exact O
  · show Keep s.heap T.heap SA0; rw [eT]; exact K
  · show CHr Z EL s.vm s.heap T.vm T.heap; rw [eT]; exact hC.trans (CHv.at Y hZ hEL hC.1)
/-- ireturn of a boolean, byte, char or short -/
theorem Wd.reti (X : Wd p l e R s m args below meth c Z a0 EL own n0 SA0 SA T h cells slots) {t : FieldType} {x : Int32} (hret : meth.sig.returnType = some t) (ht : t = .boolean ∨ t = .byte ∨ t = .char ∨ t = .short) (hlk : meth.locks = false) (hd : decode c.code pc = .ok (.ireturn, 1)) (hcl : cells ≤ R.cells) (hsl : slots ≤ R.slots) (q : Q0 (some (.int (nar t x))) h) :
    Goes p.tables e below (Endq Z EL s n0 SA0 R Q0) (T.setTop (mkF m pc Ls (.int x :: st))) :=
  X.leave (fun q => by rw [hret] at q; cases q) hlk hcl hsl q (fun fs hr vm0 locs Y => retN Y X.exec hret ht hd hr)
/-- ireturn of an int -/
theorem Wd.retI (X : Wd p l e R s m args below meth c Z a0 EL own n0 SA0 SA T h cells slots) {x : Int32} (hret : meth.sig.returnType = some .int) (hlk : meth.locks = false) (hd : decode c.code pc = .ok (.ireturn, 1)) (hcl : cells ≤ R.cells) (hsl : slots ≤ R.slots) (q : Q0 (some (.int x)) h) :
    Goes p.tables e below (Endq Z EL s n0 SA0 R Q0) (T.setTop (mkF m pc Ls (.int x :: st))) :=
  X.leave (fun q => by rw [hret] at q; cases q) hlk hcl hsl q (fun fs hr vm0 locs Y => retOut Y X.exec hret rfl (Or.inl ⟨rfl, Or.inl rfl, _, rfl⟩) hd hr)
/-- areturn -/
theorem Wd.retA (X : Wd p l e R s m args below meth c Z a0 EL own n0 SA0 SA T h cells slots) {t : FieldType} {x : Value} (hret : meth.sig.returnType = some t) (ht : t.isReference = true) (hx : x.isRef = true) (hlk : meth.locks = false) (hd : decode c.code pc = .ok (.areturn, 1)) (hcl : cells ≤ R.cells) (hsl : slots ≤ R.slots) (q : Q0 (some x) h) :
    Goes p.tables e below (Endq Z EL s n0 SA0 R Q0) (T.setTop (mkF m pc Ls (x :: st))) :=
  X.leave (fun q => by rw [hret] at q; cases q) hlk hcl hsl q (fun fs hr vm0 locs Y => retOut Y X.exec hret (by cases t <;> cases x <;> first | rfl | cases ht | cases hx) (Or.inr (Or.inr (Or.inr (Or.inr ⟨rfl, ht, hx⟩)))) hd hr)
end Wide
end Own
namespace Own
open Jvm Jvm.ClassFile Sem Op Lib Jvm.Free Jvm.Stand Jvm.LawKit Jvm.RoadKit Bundle
/-- as Ct, and it hands out F: cells that it made and that may be written -/
def CtF (l : Launch) (Z : State) (EL : List (String × Nat)) (ws : List Jvm.Cond) (y : MethodName) (bytes : ByteArray) (maxL : Nat) (ret : Option FieldType) (rm : Room) (as' : Array Value) (h0 : Heap) (n0 : Nat) (SA0 : List Addr) (Q0 : Option Value → Heap → List Addr → Prop) : Prop :=
  MetFree l y (head1 (Jvm.Cond.code y bytes maxL ret :: ws) rm) (fun a U => a = as' ∧ Z.Warmed39 U.vm ∧ U.heap = h0 ∧ CHv Z EL U.vm h0 ∧ Old Z n0 h0 ∧ ∀ x ∈ SA0, Safe Z EL U.vm h0 x ∧ x < h0.size ∧ n0 ≤ x) (fun _ _ _ _ _ => True)
    (fun _ U o U' => ∃ v L, o = .returned v ∧ (∃ F, Q0 v U'.heap F ∧ (Fr n0 L ∧ Old Z n0 U'.heap ∧ Keep h0 U'.heap SA0) ∧ ∀ x ∈ F, Safe Z EL U'.vm U'.heap x ∧ x < U'.heap.size ∧ n0 ≤ x ∧ h0.size ≤ x) ∧ CHr Z EL U.vm U.heap U'.vm U'.heap ∧ ReturnedEndW U o U' L rm.cells rm.slots)
def EndqF (Z : State) (EL : List (String × Nat)) (s : State) (n0 : Nat) (SA0 : List Addr) (rm : Room) (Q0 : Option Value → Heap → List Addr → Prop) (o : Outcome) (U' : State) : Prop :=
  ∃ v L, o = .returned v ∧ (∃ F, Q0 v U'.heap F ∧ (Fr n0 L ∧ Old Z n0 U'.heap ∧ Keep s.heap U'.heap SA0) ∧ ∀ x ∈ F, Safe Z EL U'.vm U'.heap x ∧ x < U'.heap.size ∧ n0 ≤ x ∧ s.heap.size ≤ x) ∧ CHr Z EL s.vm s.heap U'.vm U'.heap ∧ ReturnedEndW s o U' L rm.cells rm.slots
section Wide
variable {p : Program} {l : Launch} {e : Env} {R : Room} {s : State} {m : MethodId} {args : Array Value} {below : List Frame} {meth : Method} {c : Code}
variable {Z : State} {a0 : Array Value} {EL : List (String × Nat)} {own : String} {n0 : Nat} {SA0 SA SA' : List Addr} {T : State} {h h' h0 : Heap} {cells slots : Nat} {Q : Outcome → State → Prop} {pc : Nat} {Ls : Array Slot} {st : List Value} {vm0 vm1 : Vm} {a : Addr} {sl : Nat} {v : Value}
variable {ws : List Jvm.Cond} {y z : MethodName} {bytes : ByteArray} {maxL : Nat} {ret : Option FieldType} {rm : Room} {as' : Array Value} {Q0 : Option Value → Heap → List Addr → Prop} {Q1 : Option Value → Heap → Prop}
theorem CtF.enter (pn : plainFor y = true) (hEL : EW Z a0 EL)
    (body : ∀ (p : Program) (e : Env) (s : State) (m : MethodId) (below : List Frame) (meth : Method) (c : Code) (T : State), c.code = bytes → c.maxLocals = maxL → meth.sig.returnType = ret → meth.locks = false → meth.name = y.name → s.heap = h0 → Wd p l e rm s m as' below meth c Z a0 EL y.cls n0 SA0 SA0 T h0 0 0 →
      Goes p.tables e below (EndqF Z EL s n0 SA0 rm Q0) (T.setTop (entryFrame m as' maxL))) : CtF l Z EL ws y bytes maxL ret rm as' h0 n0 SA0 Q0 := by
  refine MetFree.of_bodySF pn hisR ?_
  intro p e s m args below meth c s₁ Bd hml0 hP hK
  obtain ⟨rfl, hZ, rfl, H, O, S⟩ := hP
  have Y : Stand p l e rm s m args below meth c s₁ [] 0 0 := Stand.of_body Bd
  have e0 : s₁.heap = s.heap := by rw [Bd.state]; rfl
  obtain ⟨s₂, o, h1, h2, h3, v, L, h4, h5, h6, h7⟩ := body p e s m below meth c s₁ Bd.bytes hml0 Bd.returns (BodyLoose.notSynchronized Bd) (name_of_methodNamed Bd.named Bd.method).1 rfl
    ⟨s.vm, [], 0, Y, e0, (State.WarmedH.refl s).since _, Nat.zero_le _, hZ, findClass_of_methodNamed Bd.named, CHr.refl H, Fr.nil _, O, Keep.refl _ _, fun x q => ⟨(S x q).1, (S x q).2.1, (S x q).2.2, Or.inl q⟩, hEL, Bd.exec⟩
  exact ⟨s₂, o, h1, h2, h3, v, L, h4, h5, h6, h7⟩
/-- a contract that hands out nothing, as one that hands out the empty list -/
theorem Ct.toF (ct : Ct l Z EL ws y bytes maxL ret rm as' h0 n0 SA0 Q1) : CtF l Z EL ws y bytes maxL ret rm as' h0 n0 SA0 (fun v h F => F = [] ∧ Q1 v h) := fun p e h1 h2 h3 s m args below h4 h5 h6 h7 => by
  obtain ⟨n, o, g1, g2, g3, v, L, g4, ⟨q1, q2, q3, q4⟩, g5, g6⟩ := ct p e h1 h2 h3 s m args below h4 h5 h6 h7
  exact ⟨n, o, g1, g2, g3, v, L, g4, ⟨[], ⟨rfl, q1⟩, ⟨q2, q3, q4⟩, fun _ q => nomatch q⟩, g5, g6⟩
theorem CtF.back {len W : Nat} (ct : CtF l Z EL [] y bytes maxL ret rm as' h n0 SA0 Q0) (hZ : Z.Warmed39 vm0) (wc : (Jvm.Cond.code y bytes maxL ret).before a0 Z = true) (wz : (Jvm.Cond.initialized y.cls).before a0 Z = true) (hf : rm.frames + 1 ≤ R.frames) (hl : W + (maxL + 11) + rm.locals ≤ R.locals) (hEL : EW Z a0 EL) (H : CHv Z EL vm0 h) (O : Old Z n0 h)
    (S : ∀ x ∈ SA0, Safe Z EL vm0 h x ∧ x < h.size ∧ n0 ≤ x) :
    BackS l R p e below (s.setVm vm0) args y len W (fun A a => a = as' ∧ A.U.heap = h ∧ A.cells + rm.cells ≤ R.cells ∧ A.slots + rm.slots ≤ R.slots)
      (fun A _ v B => ∃ L, (∃ F, Q0 v B.U.heap F ∧ (Fr n0 L ∧ Old Z n0 B.U.heap ∧ Keep h B.U.heap SA0) ∧ ∀ x ∈ F, Safe Z EL B.U.vm B.U.heap x ∧ x < B.U.heap.size ∧ n0 ≤ x ∧ h.size ≤ x) ∧ B.locs = A.locs ++ L ∧ B.cells = A.cells + rm.cells ∧ B.slots = A.slots + rm.slots ∧ CHr Z EL vm0 h B.U.vm B.U.heap) :=
  BackS.of_freeW (bytes := bytes) (maxL := maxL) (ret := ret) (E := fun _ first o t L k n => k = rm.cells ∧ n = rm.slots ∧ (∃ v, o = .returned v ∧ (∃ F, Q0 v t.heap F ∧ (Fr n0 L ∧ Old Z n0 t.heap ∧ Keep h t.heap SA0) ∧ ∀ x ∈ F, Safe Z EL t.vm t.heap x ∧ x < t.heap.size ∧ n0 ≤ x ∧ h.size ≤ x)) ∧ CHr Z EL first.vm first.heap t.vm t.heap) ct hf hl
    (fun m meth c A a Y hp => have hU : Z.Warmed39 A.U.vm := wtrans (s := s.setVm vm0) hZ Y.warmed
      ⟨by show (Jvm.Cond.and _ .tt).before a A.U = true; rw [Cond.before_and, mv hU wc]; rfl, mv hU wc, mv hU wz, hp.2.2.1, hp.2.2.2⟩)
    (fun m meth c A a g mk Y hp => ⟨hp.1, wtrans (s := s.setVm vm0) hZ Y.warmed, hp.2.1, (CHv.at Y hZ hEL H).1, O, fun x q => ⟨(CHv.at Y hZ hEL H).safe (S x q).2.1 (S x q).1, (S x q).2⟩⟩) (fun _ _ _ _ _ _ _ _ _ => trivial)
    (fun _ _ _ _ ⟨v, L, h1, h2, h3, h4⟩ => ⟨L, _, _, h4, rfl, rfl, ⟨v, h1, h2⟩, h3⟩)
    (fun m meth c A a g mk v t L k n Y hp _ _ ⟨e1, e2, ⟨v', e3, e4⟩, e5⟩ => by
      cases e3; subst e1 e2
      refine ⟨L, e4, rfl, rfl, rfl, (CHv.at Y hZ hEL H).trans ?_⟩
      rw [← hp.2.1]; exact e5)
/-- what stands behind a call by such a contract -/
theorem callNF {T' : State} {L : List Loc} {F : List Addr} {k0 cells' slots' : Nat} (hS : s.Since vm0 k0) (hk : k0 ≤ h.size) (hZ : Z.Warmed39 vm0) (hown : vm0.findClass own = some m.cls) (hC : CHr Z EL s.vm s.heap vm0 h) {locs : List Loc} (N : Fr n0 locs) (K : Keep s.heap h SA0) (S : Sfs Z EL vm0 h n0 s.heap.size SA0 SA) (hEL : EW Z a0 EL) (hx : p.tables.exec = Jvm.exec)
    (Y : Stand p l e R ((s.setVm vm0).setVm T'.vm) m args below meth c T' (locs ++ L) cells' slots') (h2 : (s.setVm vm0).Since T'.vm T'.heap.size) (hg : h.size ≤ T'.heap.size) (hL : Fr n0 L) (O' : Old Z n0 T'.heap) (K' : Keep h T'.heap SA') (hsub : ∀ x ∈ SA', x ∈ SA) (A : CHr Z EL vm0 h T'.vm T'.heap)
    (hF : ∀ x ∈ F, Safe Z EL T'.vm T'.heap x ∧ x < T'.heap.size ∧ n0 ≤ x ∧ h.size ≤ x) :
    Wd p l e R s m args below meth c Z a0 EL own n0 SA0 (F ++ SA) T' T'.heap cells' slots' := by
  obtain ⟨r1, r2, r3, r4⟩ := rebS (own := own) hS hk Y h2 hg hZ hown
  refine ⟨T'.vm, _, _, r1, rfl, r2, Nat.le_refl _, r3, r4, hC.trans A, N.app hL, O', K.trans K' (fun x q => (S x (hsub x q)).2.2.2), fun x q => ?_, hEL, hx⟩
  rcases List.mem_append.mp q with q | q
  · exact ⟨(hF x q).1, (hF x q).2.1, (hF x q).2.2.1, Or.inr (Nat.le_trans K.1 (hF x q).2.2.2)⟩
  · exact S.go A x q
theorem Wd.callsF (X : Wd p l e R s m args below meth c Z a0 EL own n0 SA0 SA T h cells slots) (argsL rest : List Value) {idx : Nat} (ct : CtF l Z EL [] y bytes maxL ret rm argsL.toArray h n0 SA' Q0) (w1 : (Jvm.Cond.methodLink own idx y).before a0 Z = true) (w2 : (Jvm.Cond.static y).before a0 Z = true) (w3 : (Jvm.Cond.initialized y.cls).before a0 Z = true) (w4 : (Jvm.Cond.code y bytes maxL ret).before a0 Z = true)
    (hy : y.cls ≠ "java/lang/invoke/MethodHandle" ∧ y.cls ≠ "java/lang/invoke/VarHandle") (hsub : ∀ x ∈ SA', x ∈ SA) (hf : rm.frames + 1 ≤ R.frames) (W : Nat) (hl : W + (maxL + 11) + rm.locals ≤ R.locals) (hcl : cells + rm.cells ≤ R.cells) (hsl : slots + rm.slots ≤ R.slots)
    (hlen : ∀ sig, parseMethodDescriptor y.desc = some sig → argsL.length = sig.parameters.length) (hst : st = argsL.reverse ++ rest) (hW : (rest.map fun v => v.category).sum ≤ W) (hsize : Ls.size = c.maxLocals) (hd : decode c.code pc = .ok (.invokestatic idx, 3))
    (k : ∀ (T' : State) (h' : Heap) (v : Option Value) (F : List Addr), Wd p l e R s m args below meth c Z a0 EL own n0 SA0 (F ++ SA) T' h' (cells + rm.cells) (slots + rm.slots) → Keep h h' SA' → (∀ x ∈ F, h.size ≤ x) → Q0 v h' F → Goes p.tables e below Q (T'.setTop (mkF m (pc + 3) Ls (v.toList ++ rest)))) : Goes p.tables e below Q (T.setTop (mkF m pc Ls st)) := by
  obtain ⟨vm0, locs, k0, Y, eT, hS, hk, hZ, hown, hC, N, O, K, S, hEL, hx⟩ := X
  obtain ⟨v, vm1, ⟨T', L', c', s'⟩, -, Y', h2, hg, ⟨L, ⟨F, q0, ⟨q1, q2, q3⟩, hF⟩, rfl, rfl, rfl, A⟩, st'⟩ := callSS Y hx hown (mvT hZ w1) (mvT hZ w2) (mvT hZ w3) (mvT hZ w4) hy (ct.back (a0 := a0) (W := W) (len := 3) hZ w4 w3 hf hl hEL hC.1 O fun x q => ⟨(S x (hsub x q)).1, (S x (hsub x q)).2.1, (S x (hsub x q)).2.2.1⟩)
    (g := mkF m pc Ls st) rfl hsize (argsL := argsL) (rest := rest) hlen hst (by show 2 * 0 + _ ≤ _; omega) hd (fun _ _ => ⟨rfl, eT, hcl, hsl⟩)
  exact Goes.aft st' (k T' T'.heap v F (callNF hS hk hZ hown hC N K S hEL hx Y' h2 (by rw [← eT]; exact hg) q1 q2 q3 hsub A hF) q3 (fun x q => (hF x q).2.2.2) q0)
theorem Wd.callcF (X : Wd p l e R s m args below meth c Z a0 EL own n0 SA0 SA T h cells slots) (argsL rest : List Value) {idx : Nat} (ct : CtF l Z EL [] y bytes maxL none rm (.ref a :: argsL).toArray h n0 SA' Q0) (hy1 : y.name = "<init>") (w1 : (Jvm.Cond.methodLink own idx y).before a0 Z = true) (w2 : (Jvm.Cond.instanceMethod y).before a0 Z = true) (w3 : (Jvm.Cond.initialized y.cls).before a0 Z = true) (w4 : (Jvm.Cond.code y bytes maxL none).before a0 Z = true)
    (hy : y.cls ≠ "java/lang/invoke/MethodHandle" ∧ y.cls ≠ "java/lang/invoke/VarHandle") (hsub : ∀ x ∈ SA', x ∈ SA) (hf : rm.frames + 1 ≤ R.frames) (W : Nat) (hl : W + (maxL + 11) + rm.locals ≤ R.locals) (hcl : cells + rm.cells ≤ R.cells) (hsl : slots + rm.slots ≤ R.slots)
    (hlen : ∀ sig, parseMethodDescriptor y.desc = some sig → argsL.length = sig.parameters.length) (hst : st = argsL.reverse ++ .ref a :: rest) (hW : (rest.map fun v => v.category).sum ≤ W) (hsize : Ls.size = c.maxLocals) (hd : decode c.code pc = .ok (.invokespecial idx, 3))
    (k : ∀ (T' : State) (h' : Heap) (v : Option Value) (F : List Addr), Wd p l e R s m args below meth c Z a0 EL own n0 SA0 (F ++ SA) T' h' (cells + rm.cells) (slots + rm.slots) → Keep h h' SA' → (∀ x ∈ F, h.size ≤ x) → Q0 v h' F → Goes p.tables e below Q (T'.setTop (mkF m (pc + 3) Ls (v.toList ++ rest)))) : Goes p.tables e below Q (T.setTop (mkF m pc Ls st)) := by
  obtain ⟨vm0, locs, k0, Y, eT, hS, hk, hZ, hown, hC, N, O, K, S, hEL, hx⟩ := X
  obtain ⟨v, vm1, ⟨T', L', c', s'⟩, -, Y', h2, hg, ⟨L, ⟨F, q0, ⟨q1, q2, q3⟩, hF⟩, rfl, rfl, rfl, A⟩, st'⟩ := Y.specialBackS hx hy1 hown (mvT hZ w1) (mvT hZ w2) (mvT hZ w4) hy (ct.back (a0 := a0) (W := W) (len := 3) hZ w4 w3 hf hl hEL hC.1 O fun x q => ⟨(S x (hsub x q)).1, (S x (hsub x q)).2.1, (S x (hsub x q)).2.2.1⟩)
    (g := mkF m pc Ls st) rfl hsize (Steps.refl _) (a := a) (argsL := argsL) (rest := rest) hlen hst (by show 2 * 0 + _ ≤ _; omega) hd (fun _ _ => ⟨rfl, eT, hcl, hsl⟩)
  exact Goes.aft st' (k T' T'.heap v F (callNF hS hk hZ hown hC N K S hEL hx Y' h2 (by rw [← eT]; exact hg) q1 q2 q3 hsub A hF) q3 (fun x q => (hF x q).2.2.2) q0)
theorem Wd.callvF (X : Wd p l e R s m args below meth c Z a0 EL own n0 SA0 SA T h cells slots) (argsL rest : List Value) {idx : Nat} {C : String} (ct : CtF l Z EL [] z bytes maxL ret rm (.ref a :: argsL).toArray h n0 SA' Q0) (E : Exa Z h a C) (w1 : (Jvm.Cond.methodLink own idx y).before a0 Z = true) (w2 : (Jvm.Cond.declares y).before a0 Z = true) (w3 : (Jvm.Cond.selects C y z).before a0 Z = true) (w4 : (Jvm.Cond.instanceMethod z).before a0 Z = true)
    (hnf : NotFace Z y) (w5 : (Jvm.Cond.initialized z.cls).before a0 Z = true) (w6 : (Jvm.Cond.code z bytes maxL ret).before a0 Z = true)
    (hy : y.cls ≠ "java/lang/invoke/MethodHandle" ∧ y.cls ≠ "java/lang/invoke/VarHandle") (hsub : ∀ x ∈ SA', x ∈ SA) (hf : rm.frames + 1 ≤ R.frames) (W : Nat) (hl : W + (maxL + 11) + rm.locals ≤ R.locals) (hcl : cells + rm.cells ≤ R.cells) (hsl : slots + rm.slots ≤ R.slots)
    (hlen : ∀ sig, parseMethodDescriptor y.desc = some sig → argsL.length = sig.parameters.length) (hst : st = argsL.reverse ++ .ref a :: rest) (hW : (rest.map fun v => v.category).sum ≤ W) (hsize : Ls.size = c.maxLocals) (hd : decode c.code pc = .ok (.invokevirtual idx, 3))
    (k : ∀ (T' : State) (h' : Heap) (v : Option Value) (F : List Addr), Wd p l e R s m args below meth c Z a0 EL own n0 SA0 (F ++ SA) T' h' (cells + rm.cells) (slots + rm.slots) → Keep h h' SA' → (∀ x ∈ F, h.size ≤ x) → Q0 v h' F → Goes p.tables e below Q (T'.setTop (mkF m (pc + 3) Ls (v.toList ++ rest)))) : Goes p.tables e below Q (T.setTop (mkF m pc Ls st)) := by
  obtain ⟨vm0, locs, k0, Y, eT, hS, hk, hZ, hown, hC, N, O, K, S, hEL, hx⟩ := X
  obtain ⟨cB, kB, u1, -, u3⟩ := isOf (s := s.setVm vm0) hZ eT E
  have hnf' : NotFace (s.setVm vm0) y := fun r0 h0 => by
    have h0' : Z.methodNamed? y = some r0 := by
      have q : (Z.setVm vm0).methodNamed? y = Z.methodNamed? y := State.methodNamed?_setVm hZ.alike y
      have q' : (Z.setVm vm0).methodNamed? y = (s.setVm vm0).methodNamed? y := rfl
      rw [← q, q']; exact h0
    obtain ⟨k, hk1, hk2⟩ := hnf r0 h0'
    obtain ⟨k', g1, g2⟩ := hZ.alike.2.2 _ _ hk1
    exact ⟨k', g1, by rw [g2]; exact hk2⟩
  obtain ⟨v, vm1, ⟨T', L', c', s'⟩, -, Y', h2, hg, ⟨L, ⟨F, q0, ⟨q1, q2, q3⟩, hF⟩, rfl, rfl, rfl, A⟩, st'⟩ := Y.virtualBackS hx hown (mvT hZ w1) (mvT hZ w2) hnf' (mvT hZ w3) (mvT hZ w4) hy (ct.back (a0 := a0) (W := W) (len := 3) hZ w6 w5 hf hl hEL hC.1 O fun x q => ⟨(S x (hsub x q)).1, (S x (hsub x q)).2.1, (S x (hsub x q)).2.2.1⟩)
    u1 u3 (g := mkF m pc Ls st) rfl hsize (Steps.refl _) (argsL := argsL) (rest := rest) hlen hst (by show 2 * 0 + _ ≤ _; omega) hd (fun _ _ => ⟨rfl, eT, hcl, hsl⟩)
  exact Goes.aft st' (k T' T'.heap v F (callNF hS hk hZ hown hC N K S hEL hx Y' h2 (by rw [← eT]; exact hg) q1 q2 q3 hsub A hF) q3 (fun x q => (hF x q).2.2.2) q0)
theorem decOf {y : MethodName} {bytes : ByteArray} {maxL : Nat} {ret : Option FieldType} (w1 : (Jvm.Cond.instanceMethod y).before a0 Z = true) (w2 : (Jvm.Cond.code y bytes maxL ret).before a0 Z = true) : (Jvm.Cond.declares y).before a0 Z = true := by
  obtain ⟨mk, methM, hnamed, hmethM, hst, -⟩ := Cond.instanceMethod_spec w1
  obtain ⟨m2, cM, q1, -, -, -, -, -, -, hsig⟩ := Cond.code_spec hnamed w2
  cases hmethM.symm.trans q1
  simp [Cond.before, Cond.holds, Cond.value, hnamed, hmethM, hst, hsig]
theorem nfOf {y y' z' : MethodName} {C : String} (ws : (Jvm.Cond.selects C y' z').before a0 Z = true) (e : z'.cls = y.cls) : NotFace Z y := fun r0 h0 => by
  obtain ⟨c2, r2, m2, -, -, q3, -, kP, hkP, hkPi⟩ := Cond.selects_spec ws
  have hc := findClass_of_methodNamed h0
  have hc' := findClass_of_methodNamed q3
  rw [e] at hc'
  have : m2.cls = r0.cls := Option.some.inj (hc'.symm.trans hc)
  exact ⟨kP, by rw [← this]; exact hkP, hkPi⟩
/-- that a class declares y itself and is no interface: what a lookup through it finds -/
theorem smOf {y y' z' : MethodName} {C : String} (w : (Jvm.Cond.instanceMethod y).before a0 Z = true) (ws : (Jvm.Cond.selects C y' z').before a0 Z = true) (e : z'.cls = y.cls) (hy : y.cls ≠ "java/lang/invoke/MethodHandle" ∧ y.cls ≠ "java/lang/invoke/VarHandle") : (Jvm.Cond.sameMethod y.cls y.cls y.name y.desc).before a0 Z = true := by
  obtain ⟨mk, methM, hnamed, hmethM, -, -⟩ := Cond.instanceMethod_spec w
  obtain ⟨c2, r2, m2, -, -, q3, -, kP, hkP, hkPi⟩ := Cond.selects_spec ws
  have hc := findClass_of_methodNamed hnamed
  have hc' := findClass_of_methodNamed q3
  rw [e] at hc'
  have e1 := Option.some.inj (hc.symm.trans hc')
  rw [← e1] at hkP
  have hf := State.methodFound?_of_named hnamed hy
  have hn2 : Z.methodNamed? ⟨y.cls, y.name, y.desc⟩ = some mk := hnamed
  simp [Cond.before, Cond.holds, Cond.value, hc, hf, hn2, hkP, hkPi]
/-- invokespecial of a superclass's method -/
theorem Wd.callu (X : Wd p l e R s m args below meth c Z a0 EL own n0 SA0 SA T h cells slots) (argsL rest : List Value) {idx : Nat} {C : String} (ct : CtF l Z EL [] y bytes maxL ret rm (.ref a :: argsL).toArray h n0 SA' Q0) (E : Exa Z h a C) (w1 : (Jvm.Cond.methodLink own idx y).before a0 Z = true) (w2 : (Jvm.Cond.sameMethod y.cls y.cls y.name y.desc).before a0 Z = true) (w3 : (Jvm.Cond.instanceMethod y).before a0 Z = true) (w4 : (Jvm.Cond.superclass own y.cls).before a0 Z = true) (hn : y.name ≠ "<init>")
    (w5 : (Jvm.Cond.initialized y.cls).before a0 Z = true) (w6 : (Jvm.Cond.code y bytes maxL ret).before a0 Z = true) (hsub : ∀ x ∈ SA', x ∈ SA) (hf : rm.frames + 1 ≤ R.frames) (W : Nat) (hl : W + (maxL + 11) + rm.locals ≤ R.locals) (hcl : cells + rm.cells ≤ R.cells) (hsl : slots + rm.slots ≤ R.slots)
    (hlen : ∀ sig, parseMethodDescriptor y.desc = some sig → argsL.length = sig.parameters.length) (hst : st = argsL.reverse ++ .ref a :: rest) (hW : (rest.map fun v => v.category).sum ≤ W) (hsize : Ls.size = c.maxLocals) (hd : decode c.code pc = .ok (.invokespecial idx, 3))
    (k : ∀ (T' : State) (h' : Heap) (v : Option Value) (F : List Addr), Wd p l e R s m args below meth c Z a0 EL own n0 SA0 (F ++ SA) T' h' (cells + rm.cells) (slots + rm.slots) → Keep h h' SA' → (∀ x ∈ F, h.size ≤ x) → Q0 v h' F → Goes p.tables e below Q (T'.setTop (mkF m (pc + 3) Ls (v.toList ++ rest)))) : Goes p.tables e below Q (T.setTop (mkF m pc Ls st)) := by
  obtain ⟨vm0, locs, k0, Y, eT, hS, hk, hZ, hown, hC, N, O, K, S, hEL, hx⟩ := X
  obtain ⟨v, vm1, ⟨T', L', c', s'⟩, -, Y', h2, hg, ⟨L, ⟨F, q0, ⟨q1, q2, q3⟩, hF⟩, rfl, rfl, rfl, A⟩, st'⟩ := superBackS Y hx hZ hown w1 w2 w3 w4 hn (ct.back (a0 := a0) (W := W) (len := 3) hZ w6 w5 hf hl hEL hC.1 O fun x q => ⟨(S x (hsub x q)).1, (S x (hsub x q)).2.1, (S x (hsub x q)).2.2.1⟩)
    eT (Ins.self E) (g := mkF m pc Ls st) rfl hsize w6 (argsL := argsL) (rest := rest) hlen hst (by show 2 * 0 + _ ≤ _; omega) hd (fun _ _ => ⟨rfl, eT, hcl, hsl⟩)
  exact Goes.aft st' (k T' T'.heap v F (callNF hS hk hZ hown hC N K S hEL hx Y' h2 (by rw [← eT]; exact hg) q1 q2 q3 hsub A hF) q3 (fun x q => (hF x q).2.2.2) q0)
/-- the ends -/
theorem Wd.leaveF (X : Wd p l e R s m args below meth c Z a0 EL own n0 SA0 SA T h cells slots) (F : List Addr) (hF : ∀ x ∈ F, x ∈ SA ∧ s.heap.size ≤ x) {w : Option Value} (hv : meth.sig.returnType = none → w = none) (hlk : meth.locks = false) (hcl : cells ≤ R.cells) (hsl : slots ≤ R.slots) (q : Q0 w h F)
    (st' : ∀ fs, (∀ (f : JFrame) (acts : List Action), f.method = m → f.locked = none → f.entered = [] → (doReturn e (T.setTop f) acts w).1 = T.setFrames fs) → ∀ (vm0 : Vm) (locs : List Loc), Stand p l e R (s.setVm vm0) m args below meth c T locs cells slots → Steps p.tables e below (T.setTop (mkF m pc Ls st)) (T.setFrames fs)) :
    Goes p.tables e below (EndqF Z EL s n0 SA0 R Q0) (T.setTop (mkF m pc Ls st)) := by
  obtain ⟨vm0, locs, k0, Y, eT, hS, hk, hZ, hown, hC, N, O, K, S, hEL, hx⟩ := X
  obtain ⟨fs, hr, hrun, hended, hE⟩ := (Y.mono hcl hsl).leaveW hS (by rw [eT]; exact hk) (v := w) hv hlk
  have A := CHv.at Y hZ hEL hC.1
  refine ⟨_, _, st' fs hr vm0 locs Y, hrun, hended, _, _, rfl, ⟨F, ?_, ⟨N, ?_, ?_⟩, fun x hx => ?_⟩, ?_, hE⟩
  · show Q0 w T.heap F; rw [eT]; exact q
  · show Old Z n0 T.heap; rw [eT]; exact O
  · show Keep s.heap T.heap SA0; rw [eT]; exact K
  · obtain ⟨g1, g2⟩ := hF x hx
    show Safe Z EL T.vm T.heap x ∧ x < T.heap.size ∧ n0 ≤ x ∧ s.heap.size ≤ x
    rw [eT]; exact ⟨A.safe (S x g1).2.1 (S x g1).1, (S x g1).2.1, (S x g1).2.2.1, g2⟩
  · show CHr Z EL s.vm s.heap T.vm T.heap; rw [eT]; exact hC.trans A
theorem Wd.retnF (X : Wd p l e R s m args below meth c Z a0 EL own n0 SA0 SA T h cells slots) (F : List Addr) (hF : ∀ x ∈ F, x ∈ SA ∧ s.heap.size ≤ x) (hret : meth.sig.returnType = none) (hlk : meth.locks = false) (hd : decode c.code pc = .ok (.return_, 1)) (hcl : cells ≤ R.cells) (hsl : slots ≤ R.slots) (q : Q0 none h F) :
    Goes p.tables e below (EndqF Z EL s n0 SA0 R Q0) (T.setTop (mkF m pc Ls [])) :=
  X.leaveF F hF (fun _ => rfl) hlk hcl hsl q (fun fs hr vm0 locs Y => Y.returnOut X.exec hret hd hr)
theorem Wd.retAF (X : Wd p l e R s m args below meth c Z a0 EL own n0 SA0 SA T h cells slots) (F : List Addr) (hF : ∀ x ∈ F, x ∈ SA ∧ s.heap.size ≤ x) {t : FieldType} {x : Value} (hret : meth.sig.returnType = some t) (ht : t.isReference = true) (hx : x.isRef = true) (hlk : meth.locks = false) (hd : decode c.code pc = .ok (.areturn, 1)) (hcl : cells ≤ R.cells) (hsl : slots ≤ R.slots) (q : Q0 (some x) h F) :
    Goes p.tables e below (EndqF Z EL s n0 SA0 R Q0) (T.setTop (mkF m pc Ls (x :: st))) :=
  X.leaveF F hF (fun q => by rw [hret] at q; cases q) hlk hcl hsl q (fun fs hr vm0 locs Y => retOut Y X.exec hret (by cases t <;> cases x <;> first | rfl | cases ht | cases hx) (Or.inr (Or.inr (Or.inr (Or.inr ⟨rfl, ht, hx⟩)))) hd hr)
/-- baload of a byte[] -/
theorem Wd.baload (X : Wd p l e R s m args below meth c Z a0 EL own n0 SA0 SA T h cells slots) {kb : ClassId} {n j : Int32} {vs : List Value} {dv v : Value} (V : Arv Z h a kb .byte n vs dv) (hj : ¬ j < 0 ∧ j < n) (hv : vs.getD j.toNatClampNeg dv = v) (hd : decode c.code pc = .ok (.baload, 1))
    (g : Goes p.tables e below Q (T.setTop (mkF m (pc + 1) Ls (v :: st)))) : Goes p.tables e below Q (T.setTop (mkF m pc Ls (.int j :: .ref a :: st))) := by
  obtain ⟨vm0, locs, k0, Y, eT, r2, r3, r4, r5, r⟩ := X
  obtain ⟨cl, A, v1, v2, v3, v4, v5⟩ := V
  exact Goes.via (fun t => Y.baloadBytes r.2.2.2.2.2.2 (by rw [eT]; exact A.1) (State.isArrayOf_alike r4.alike A.2.1) A.2.2 (inb_of v2 hj) (v4.at (inb_of v2 hj) hv) (g := mkF m pc Ls (.int j :: .ref a :: st)) rfl rfl hd t) g
/-- System.arraycopy of bytes -/
theorem Wd.acopy (X : Wd p l e R s m args below meth c Z a0 EL own n0 SA0 SA T h cells slots) {idx : Nat} {b : Addr} {k1 k2 : ClassId} {z1 z2 sp dp nn : Int32} {vs vd us : List Value} {d1 d2 : Value} (w1 : (Jvm.Cond.methodLink own idx Jvm.Stand.acN).before a0 Z = true) (w2 : (Jvm.Cond.native Jvm.Stand.acN).before a0 Z = true) (w3 : (Jvm.Cond.static Jvm.Stand.acN).before a0 Z = true) (w4 : (Jvm.Cond.initialized "java/lang/System").before a0 Z = true)
    (A : Arv Z h a k1 .byte z1 vs d1) (B : Arv Z h b k2 .byte z2 vd d2) (h1 : ¬ sp < 0) (h2 : ¬ dp < 0) (h3 : ¬ nn < 0) (h4 : sp.toNatClampNeg + nn.toNatClampNeg ≤ z1.toNatClampNeg) (h5 : dp.toNatClampNeg + nn.toNatClampNeg ≤ z2.toNatClampNeg)
    (hus : us = (List.range nn.toNatClampNeg).map fun i => vs.getD (sp.toNatClampNeg + i) d1) (hl : dp.toNatClampNeg + nn.toNatClampNeg ≤ vd.length) (q : b ∈ SA) (hsize : Ls.size = c.maxLocals) (hd : decode c.code pc = .ok (.invokestatic idx, 3)) (hf : 1 ≤ R.frames) (W : Nat) (hW : (st.map fun v => v.category).sum ≤ W) (hlo : W + 18 ≤ R.locals)
    (k : ∀ (T' : State) (h' : Heap), Wd p l e R s m args below meth c Z a0 EL own n0 SA0 SA T' h' cells slots → Keep h h' [b] → Arv Z h' b k2 .byte z2 (vd.take dp.toNatClampNeg ++ us ++ vd.drop (dp.toNatClampNeg + nn.toNatClampNeg)) d2 → Goes p.tables e below Q (T'.setTop (mkF m (pc + 3) Ls st))) : Goes p.tables e below Q (T.setTop (mkF m pc Ls (.int nn :: .int dp :: .ref b :: .int sp :: .ref a :: st))) := by
  have hsa := X.saf q
  obtain ⟨vm0, locs, k0, Y, eT, hS, hk, hZ, hown, hC, N, O, K, S, hEL, hx⟩ := X
  obtain ⟨T', h', L, Y', e', N', K', B', st'⟩ := cpA Y hx hZ hown w1 w2 w3 w4 eT A B (Or.inl ⟨rfl, rfl⟩) h1 h2 h3 h4 h5 hus hl N hsa.1 (g := mkF m pc Ls (.int nn :: .int dp :: .ref b :: .int sp :: .ref a :: st)) rfl hsize rfl hd hf (W := W) (by show 2 * 0 + _ ≤ _; omega) (by show W + (7 + 11) ≤ _; omega)
  have hq : ∀ x ∈ [b], x ∈ SA := fun x hx => by cases List.mem_singleton.mp hx; exact q
  have A' := CHr.keep K' (fun x q => (S x (hq x q)).1) hC.1
  exact Goes.via st' (k T' h' ⟨vm0, L, k0, Y', e', hS, Nat.le_trans hk K'.1, hZ, hown, hC.trans A', N', O.keep K' (fun x q => (S x (hq x q)).2.2.1), K.trans K' (fun x q => (S x (hq x q)).2.2.2), S.go A', hEL, hx⟩ K' B')
end Wide
end Own
namespace Own
open Jvm Jvm.ClassFile Sem Op Lib Jvm.Free Jvm.Stand Jvm.LawKit Jvm.RoadKit Bundle
section Wide
variable {p : Program} {l : Launch} {e : Env} {R : Room} {s : State} {m : MethodId} {args : Array Value} {below : List Frame} {meth : Method} {c : Code}
variable {Z : State} {a0 : Array Value} {EL : List (String × Nat)} {own : String} {n0 : Nat} {SA0 SA : List Addr} {T : State} {h : Heap} {cells slots : Nat} {Q : Outcome → State → Prop} {pc : Nat} {Ls : Array Slot} {st : List Value}
theorem Wd.iloadN (X : Wd p l e R s m args below meth c Z a0 EL own n0 SA0 SA T h cells slots) {k : Fin 4} {x : Int32} (hd : decode c.code pc = .ok (.iload_n k, 1)) (hl : Ls[k.val]? = some (.val (.int x))) (g : Goes p.tables e below Q (T.setTop (mkF m (pc + 1) Ls (.int x :: st)))) : Goes p.tables e below Q (T.setTop (mkF m pc Ls st)) := by
  exact Goes.via (fun t k => XS.iloadN X.here X.exec rfl hd hl k) g
theorem Wd.iload (X : Wd p l e R s m args below meth c Z a0 EL own n0 SA0 SA T h cells slots) {k : Nat} {x : Int32} (hd : decode c.code pc = .ok (.iload k, 2)) (hl : Ls[k]? = some (.val (.int x))) (g : Goes p.tables e below Q (T.setTop (mkF m (pc + 2) Ls (.int x :: st)))) : Goes p.tables e below Q (T.setTop (mkF m pc Ls st)) := by
  exact Goes.via (fun t k => XS.iload X.here X.exec rfl hd hl k) g
theorem Wd.aloadN (X : Wd p l e R s m args below meth c Z a0 EL own n0 SA0 SA T h cells slots) {k : Fin 4} {x : Value} (hd : decode c.code pc = .ok (.aload_n k, 1)) (hl : Ls[k.val]? = some (.val x)) (hv : x.isRef = true) (g : Goes p.tables e below Q (T.setTop (mkF m (pc + 1) Ls (x :: st)))) : Goes p.tables e below Q (T.setTop (mkF m pc Ls st)) := by
  exact Goes.via (fun t k => XS.aloadN X.here X.exec rfl hd hl hv k) g
theorem Wd.aload (X : Wd p l e R s m args below meth c Z a0 EL own n0 SA0 SA T h cells slots) {k : Nat} {x : Value} (hd : decode c.code pc = .ok (.aload k, 2)) (hl : Ls[k]? = some (.val x)) (hv : x.isRef = true) (g : Goes p.tables e below Q (T.setTop (mkF m (pc + 2) Ls (x :: st)))) : Goes p.tables e below Q (T.setTop (mkF m pc Ls st)) := by
  exact Goes.via (fun t k => XS.aload X.here X.exec rfl hd hl hv k) g
theorem Wd.iconst (X : Wd p l e R s m args below meth c Z a0 EL own n0 SA0 SA T h cells slots) {i : Int} {x : Int32} (hd : decode c.code pc = .ok (.iconst i, 1)) (hv : Int32.ofInt i = x) (g : Goes p.tables e below Q (T.setTop (mkF m (pc + 1) Ls (.int x :: st)))) : Goes p.tables e below Q (T.setTop (mkF m pc Ls st)) := by
  subst hv
  exact Goes.via (fun t k => XS.iconst X.here X.exec rfl hd k) g
theorem Wd.bipush (X : Wd p l e R s m args below meth c Z a0 EL own n0 SA0 SA T h cells slots) {i : Int} {x : Int32} (hd : decode c.code pc = .ok (.bipush i, 2)) (hv : (Int8.ofInt i).toInt32 = x) (g : Goes p.tables e below Q (T.setTop (mkF m (pc + 2) Ls (.int x :: st)))) : Goes p.tables e below Q (T.setTop (mkF m pc Ls st)) := by
  subst hv
  exact Goes.via (fun t k => XS.bipush X.here X.exec rfl hd k) g
theorem Wd.sipush (X : Wd p l e R s m args below meth c Z a0 EL own n0 SA0 SA T h cells slots) {i : Int} {x : Int32} (hd : decode c.code pc = .ok (.sipush i, 3)) (hv : (Int16.ofInt i).toInt32 = x) (g : Goes p.tables e below Q (T.setTop (mkF m (pc + 3) Ls (.int x :: st)))) : Goes p.tables e below Q (T.setTop (mkF m pc Ls st)) := by
  subst hv
  exact Goes.via (fun t k => XS.sipush X.here X.exec rfl hd k) g
theorem Wd.anull (X : Wd p l e R s m args below meth c Z a0 EL own n0 SA0 SA T h cells slots)  (hd : decode c.code pc = .ok (.aconst_null, 1))  (g : Goes p.tables e below Q (T.setTop (mkF m (pc + 1) Ls (.null :: st)))) : Goes p.tables e below Q (T.setTop (mkF m pc Ls st)) := by
  exact Goes.via (fun t k => XS.aconstNull X.here X.exec rfl hd k) g
theorem Wd.istoreN (X : Wd p l e R s m args below meth c Z a0 EL own n0 SA0 SA T h cells slots) {k : Fin 4} {x : Int32} (l' : Array Slot) (hd : decode c.code pc = .ok (.istore_n k, 1)) (hl : storeLocals Ls k.val (.int x) = some l') (g : Goes p.tables e below Q (T.setTop (mkF m (pc + 1) l' st))) : Goes p.tables e below Q (T.setTop (mkF m pc Ls (.int x :: st))) := by
  exact Goes.via (fun t k => XS.istoreN X.here X.exec rfl hd rfl hl k) g
theorem Wd.istore (X : Wd p l e R s m args below meth c Z a0 EL own n0 SA0 SA T h cells slots) {k : Nat} {x : Int32} (l' : Array Slot) (hd : decode c.code pc = .ok (.istore k, 2)) (hl : storeLocals Ls k (.int x) = some l') (g : Goes p.tables e below Q (T.setTop (mkF m (pc + 2) l' st))) : Goes p.tables e below Q (T.setTop (mkF m pc Ls (.int x :: st))) := by
  exact Goes.via (fun t k => XS.istore X.here X.exec rfl hd rfl hl k) g
theorem Wd.astoreN (X : Wd p l e R s m args below meth c Z a0 EL own n0 SA0 SA T h cells slots) {k : Fin 4} {x : Value} (l' : Array Slot) (hd : decode c.code pc = .ok (.astore_n k, 1)) (hv : x.isRef = true) (hl : storeLocals Ls k.val x = some l') (g : Goes p.tables e below Q (T.setTop (mkF m (pc + 1) l' st))) : Goes p.tables e below Q (T.setTop (mkF m pc Ls (x :: st))) := by
  exact Goes.via (fun t k => XS.astoreN X.here X.exec rfl hd rfl hv hl k) g
theorem Wd.astore (X : Wd p l e R s m args below meth c Z a0 EL own n0 SA0 SA T h cells slots) {k : Nat} {x : Value} (l' : Array Slot) (hd : decode c.code pc = .ok (.astore k, 2)) (hv : x.isRef = true) (hl : storeLocals Ls k x = some l') (g : Goes p.tables e below Q (T.setTop (mkF m (pc + 2) l' st))) : Goes p.tables e below Q (T.setTop (mkF m pc Ls (x :: st))) := by
  exact Goes.via (fun t k => XS.astore X.here X.exec rfl hd rfl hv hl k) g
theorem Wd.iadd (X : Wd p l e R s m args below meth c Z a0 EL own n0 SA0 SA T h cells slots) {x y : Int32} (hd : decode c.code pc = .ok (.iadd, 1))  (g : Goes p.tables e below Q (T.setTop (mkF m (pc + 1) Ls (.int (x + y) :: st)))) : Goes p.tables e below Q (T.setTop (mkF m pc Ls (.int y :: .int x :: st))) := by
  exact Goes.via (fun t k => XS.iadd X.here X.exec rfl hd rfl k) g
theorem Wd.isub (X : Wd p l e R s m args below meth c Z a0 EL own n0 SA0 SA T h cells slots) {x y : Int32} (hd : decode c.code pc = .ok (.isub, 1))  (g : Goes p.tables e below Q (T.setTop (mkF m (pc + 1) Ls (.int (x - y) :: st)))) : Goes p.tables e below Q (T.setTop (mkF m pc Ls (.int y :: .int x :: st))) := by
  exact Goes.via (fun t k => XS.isub X.here X.exec rfl hd rfl k) g
theorem Wd.iand (X : Wd p l e R s m args below meth c Z a0 EL own n0 SA0 SA T h cells slots) {x y : Int32} (hd : decode c.code pc = .ok (.iand, 1))  (g : Goes p.tables e below Q (T.setTop (mkF m (pc + 1) Ls (.int (x &&& y) :: st)))) : Goes p.tables e below Q (T.setTop (mkF m pc Ls (.int y :: .int x :: st))) := by
  exact Goes.via (fun t k => XS.iand X.here X.exec rfl hd rfl k) g
theorem Wd.imul (X : Wd p l e R s m args below meth c Z a0 EL own n0 SA0 SA T h cells slots) {x y : Int32} (hd : decode c.code pc = .ok (.imul, 1))  (g : Goes p.tables e below Q (T.setTop (mkF m (pc + 1) Ls (.int (x * y) :: st)))) : Goes p.tables e below Q (T.setTop (mkF m pc Ls (.int y :: .int x :: st))) := by
  exact Goes.via (fun t k => XS.imul X.here X.exec rfl hd rfl k) g
theorem Wd.ior (X : Wd p l e R s m args below meth c Z a0 EL own n0 SA0 SA T h cells slots) {x y : Int32} (hd : decode c.code pc = .ok (.ior, 1))  (g : Goes p.tables e below Q (T.setTop (mkF m (pc + 1) Ls (.int (x ||| y) :: st)))) : Goes p.tables e below Q (T.setTop (mkF m pc Ls (.int y :: .int x :: st))) := by
  exact Goes.via (fun t k => XT.ior X.here X.exec rfl hd rfl k) g
theorem Wd.ixor (X : Wd p l e R s m args below meth c Z a0 EL own n0 SA0 SA T h cells slots) {x y : Int32} (hd : decode c.code pc = .ok (.ixor, 1))  (g : Goes p.tables e below Q (T.setTop (mkF m (pc + 1) Ls (.int (x ^^^ y) :: st)))) : Goes p.tables e below Q (T.setTop (mkF m pc Ls (.int y :: .int x :: st))) := by
  exact Goes.via (fun t k => XT.ixor X.here X.exec rfl hd rfl k) g
theorem Wd.ishl (X : Wd p l e R s m args below meth c Z a0 EL own n0 SA0 SA T h cells slots) {x y : Int32} (hd : decode c.code pc = .ok (.ishl, 1))  (g : Goes p.tables e below Q (T.setTop (mkF m (pc + 1) Ls (.int (x <<< (y &&& 31)) :: st)))) : Goes p.tables e below Q (T.setTop (mkF m pc Ls (.int y :: .int x :: st))) := by
  exact Goes.via (fun t k => XT.ishl X.here X.exec rfl hd rfl k) g
theorem Wd.ishr (X : Wd p l e R s m args below meth c Z a0 EL own n0 SA0 SA T h cells slots) {x y : Int32} (hd : decode c.code pc = .ok (.ishr, 1))  (g : Goes p.tables e below Q (T.setTop (mkF m (pc + 1) Ls (.int (x >>> (y &&& 31)) :: st)))) : Goes p.tables e below Q (T.setTop (mkF m pc Ls (.int y :: .int x :: st))) := by
  exact Goes.via (fun t k => XT.ishr X.here X.exec rfl hd rfl k) g
theorem Wd.iushr (X : Wd p l e R s m args below meth c Z a0 EL own n0 SA0 SA T h cells slots) {x y : Int32} (hd : decode c.code pc = .ok (.iushr, 1))  (g : Goes p.tables e below Q (T.setTop (mkF m (pc + 1) Ls (.int (XT.ushr x y) :: st)))) : Goes p.tables e below Q (T.setTop (mkF m pc Ls (.int y :: .int x :: st))) := by
  exact Goes.via (fun t k => XT.iushr X.here X.exec rfl hd rfl k) g
theorem Wd.irem (X : Wd p l e R s m args below meth c Z a0 EL own n0 SA0 SA T h cells slots) {x y : Int32} (hd : decode c.code pc = .ok (.irem, 1)) (hy : y ≠ 0) (g : Goes p.tables e below Q (T.setTop (mkF m (pc + 1) Ls (.int (x % y) :: st)))) : Goes p.tables e below Q (T.setTop (mkF m pc Ls (.int y :: .int x :: st))) := by
  have hx := X.exec
  obtain ⟨vm0, locs, k0, Y, -⟩ := X
  exact Goes.via (fun t k => iremM Y hx (g := mkF m pc Ls (.int y :: .int x :: st)) rfl hd rfl hy k) g
theorem Wd.i2c (X : Wd p l e R s m args below meth c Z a0 EL own n0 SA0 SA T h cells slots) {x : Int32} (hd : decode c.code pc = .ok (.i2c, 1))  (g : Goes p.tables e below Q (T.setTop (mkF m (pc + 1) Ls (.int (x.toUInt32.toUInt16.toUInt32.toInt32) :: st)))) : Goes p.tables e below Q (T.setTop (mkF m pc Ls (.int x :: st))) := by
  exact Goes.via (fun t k => XT.i2c X.here X.exec rfl hd rfl k) g
theorem Wd.i2b (X : Wd p l e R s m args below meth c Z a0 EL own n0 SA0 SA T h cells slots) {x : Int32} (hd : decode c.code pc = .ok (.i2b, 1))  (g : Goes p.tables e below Q (T.setTop (mkF m (pc + 1) Ls (.int (x.toInt8.toInt32) :: st)))) : Goes p.tables e below Q (T.setTop (mkF m pc Ls (.int x :: st))) := by
  exact Goes.via (fun t k => XT.i2b X.here X.exec rfl hd rfl k) g
theorem Wd.dup (X : Wd p l e R s m args below meth c Z a0 EL own n0 SA0 SA T h cells slots) {x : Value} (hd : decode c.code pc = .ok (.dup, 1)) (hv : x.category = 1) (g : Goes p.tables e below Q (T.setTop (mkF m (pc + 1) Ls (x :: x :: st)))) : Goes p.tables e below Q (T.setTop (mkF m pc Ls (x :: st))) := by
  exact Goes.via (fun t k => XS.dup X.here X.exec rfl hd rfl hv k) g
theorem Wd.pop (X : Wd p l e R s m args below meth c Z a0 EL own n0 SA0 SA T h cells slots) {x : Value} (hd : decode c.code pc = .ok (.pop, 1)) (hv : x.category = 1) (g : Goes p.tables e below Q (T.setTop (mkF m (pc + 1) Ls st))) : Goes p.tables e below Q (T.setTop (mkF m pc Ls (x :: st))) := by
  exact Goes.via (fun t k => XT.pop X.here X.exec rfl hd rfl hv k) g
theorem Wd.iinc (X : Wd p l e R s m args below meth c Z a0 EL own n0 SA0 SA T h cells slots) {k : Nat} {cst : Int} {x : Int32} (l' : Array Slot) (hd : decode c.code pc = .ok (.iinc k cst, 3)) (hl : Ls[k]? = some (.val (.int x))) (hl' : storeLocals Ls k (.int (x + Int32.ofInt cst)) = some l') (g : Goes p.tables e below Q (T.setTop (mkF m (pc + 3) l' st))) : Goes p.tables e below Q (T.setTop (mkF m pc Ls st)) := by
  exact Goes.via (fun t k => XS.iinc X.here X.exec rfl hd hl hl' k) g
theorem Wd.goto (X : Wd p l e R s m args below meth c Z a0 EL own n0 SA0 SA T h cells slots) {o : Int} (pc' : Nat) (hd : decode c.code pc = .ok (.goto o, 3)) (hp : 0 ≤ (pc : Int) + o ∧ ((pc : Int) + o).toNat = pc') (g : Goes p.tables e below Q (T.setTop (mkF m pc' Ls st))) : Goes p.tables e below Q (T.setTop (mkF m pc Ls st)) :=
  Goes.via (fun t k => XS.goto X.here X.exec rfl rfl hd hp.1 hp.2 k) g
theorem Wd.if_eq (X : Wd p l e R s m args below meth c Z a0 EL own n0 SA0 SA T h cells slots) {x : Int32} {o : Int} (pc' : Nat) (hd : decode c.code pc = .ok (.ifCond .eq o, 3)) (hp : 0 ≤ (pc : Int) + o ∧ ((pc : Int) + o).toNat = pc') (kt : x = 0 → Goes p.tables e below Q (T.setTop (mkF m pc' Ls st))) (kf : ¬ x = 0 → Goes p.tables e below Q (T.setTop (mkF m (pc + 3) Ls st))) : Goes p.tables e below Q (T.setTop (mkF m pc Ls (.int x :: st))) := by
  by_cases hq : x = 0
  · exact Goes.via (fun t k => XS.ifYes X.here X.exec rfl rfl hd rfl (XT.i0_eq_t hq) hp.1 hp.2 k) (kt hq)
  · exact Goes.via (fun t k => XS.ifNo X.here X.exec rfl hd rfl (XT.i0_eq_f hq) k) (kf hq)
theorem Wd.icmp_eq (X : Wd p l e R s m args below meth c Z a0 EL own n0 SA0 SA T h cells slots) {x y : Int32} {o : Int} (pc' : Nat) (hd : decode c.code pc = .ok (.if_icmp .eq o, 3)) (hp : 0 ≤ (pc : Int) + o ∧ ((pc : Int) + o).toNat = pc') (kt : x = y → Goes p.tables e below Q (T.setTop (mkF m pc' Ls st))) (kf : ¬ x = y → Goes p.tables e below Q (T.setTop (mkF m (pc + 3) Ls st))) : Goes p.tables e below Q (T.setTop (mkF m pc Ls (.int y :: .int x :: st))) := by
  by_cases hq : x = y
  · exact Goes.via (fun t k => XS.icmpYes X.here X.exec rfl rfl hd rfl (XT.ii_eq_t hq) hp.1 hp.2 k) (kt hq)
  · exact Goes.via (fun t k => XS.icmpNo X.here X.exec rfl hd rfl (XT.ii_eq_f hq) k) (kf hq)
theorem Wd.if_ne (X : Wd p l e R s m args below meth c Z a0 EL own n0 SA0 SA T h cells slots) {x : Int32} {o : Int} (pc' : Nat) (hd : decode c.code pc = .ok (.ifCond .ne o, 3)) (hp : 0 ≤ (pc : Int) + o ∧ ((pc : Int) + o).toNat = pc') (kt : ¬ x = 0 → Goes p.tables e below Q (T.setTop (mkF m pc' Ls st))) (kf : x = 0 → Goes p.tables e below Q (T.setTop (mkF m (pc + 3) Ls st))) : Goes p.tables e below Q (T.setTop (mkF m pc Ls (.int x :: st))) := by
  by_cases hq : x = 0
  · exact Goes.via (fun t k => XS.ifNo X.here X.exec rfl hd rfl (XT.i0_ne_f hq) k) (kf hq)
  · exact Goes.via (fun t k => XS.ifYes X.here X.exec rfl rfl hd rfl (XT.i0_ne_t hq) hp.1 hp.2 k) (kt hq)
theorem Wd.icmp_ne (X : Wd p l e R s m args below meth c Z a0 EL own n0 SA0 SA T h cells slots) {x y : Int32} {o : Int} (pc' : Nat) (hd : decode c.code pc = .ok (.if_icmp .ne o, 3)) (hp : 0 ≤ (pc : Int) + o ∧ ((pc : Int) + o).toNat = pc') (kt : ¬ x = y → Goes p.tables e below Q (T.setTop (mkF m pc' Ls st))) (kf : x = y → Goes p.tables e below Q (T.setTop (mkF m (pc + 3) Ls st))) : Goes p.tables e below Q (T.setTop (mkF m pc Ls (.int y :: .int x :: st))) := by
  by_cases hq : x = y
  · exact Goes.via (fun t k => XS.icmpNo X.here X.exec rfl hd rfl (XT.ii_ne_f hq) k) (kf hq)
  · exact Goes.via (fun t k => XS.icmpYes X.here X.exec rfl rfl hd rfl (XT.ii_ne_t hq) hp.1 hp.2 k) (kt hq)
theorem Wd.if_lt (X : Wd p l e R s m args below meth c Z a0 EL own n0 SA0 SA T h cells slots) {x : Int32} {o : Int} (pc' : Nat) (hd : decode c.code pc = .ok (.ifCond .lt o, 3)) (hp : 0 ≤ (pc : Int) + o ∧ ((pc : Int) + o).toNat = pc') (kt : x < 0 → Goes p.tables e below Q (T.setTop (mkF m pc' Ls st))) (kf : ¬ x < 0 → Goes p.tables e below Q (T.setTop (mkF m (pc + 3) Ls st))) : Goes p.tables e below Q (T.setTop (mkF m pc Ls (.int x :: st))) := by
  by_cases hq : x < 0
  · exact Goes.via (fun t k => XS.ifYes X.here X.exec rfl rfl hd rfl (XT.i0_lt_t hq) hp.1 hp.2 k) (kt hq)
  · exact Goes.via (fun t k => XS.ifNo X.here X.exec rfl hd rfl (XT.i0_lt_f hq) k) (kf hq)
theorem Wd.icmp_lt (X : Wd p l e R s m args below meth c Z a0 EL own n0 SA0 SA T h cells slots) {x y : Int32} {o : Int} (pc' : Nat) (hd : decode c.code pc = .ok (.if_icmp .lt o, 3)) (hp : 0 ≤ (pc : Int) + o ∧ ((pc : Int) + o).toNat = pc') (kt : x < y → Goes p.tables e below Q (T.setTop (mkF m pc' Ls st))) (kf : ¬ x < y → Goes p.tables e below Q (T.setTop (mkF m (pc + 3) Ls st))) : Goes p.tables e below Q (T.setTop (mkF m pc Ls (.int y :: .int x :: st))) := by
  by_cases hq : x < y
  · exact Goes.via (fun t k => XS.icmpYes X.here X.exec rfl rfl hd rfl (XT.ii_lt_t hq) hp.1 hp.2 k) (kt hq)
  · exact Goes.via (fun t k => XS.icmpNo X.here X.exec rfl hd rfl (XT.ii_lt_f hq) k) (kf hq)
theorem Wd.if_ge (X : Wd p l e R s m args below meth c Z a0 EL own n0 SA0 SA T h cells slots) {x : Int32} {o : Int} (pc' : Nat) (hd : decode c.code pc = .ok (.ifCond .ge o, 3)) (hp : 0 ≤ (pc : Int) + o ∧ ((pc : Int) + o).toNat = pc') (kt : ¬ x < 0 → Goes p.tables e below Q (T.setTop (mkF m pc' Ls st))) (kf : x < 0 → Goes p.tables e below Q (T.setTop (mkF m (pc + 3) Ls st))) : Goes p.tables e below Q (T.setTop (mkF m pc Ls (.int x :: st))) := by
  by_cases hq : x < 0
  · exact Goes.via (fun t k => XS.ifNo X.here X.exec rfl hd rfl (XT.i0_ge_f hq) k) (kf hq)
  · exact Goes.via (fun t k => XS.ifYes X.here X.exec rfl rfl hd rfl (XT.i0_ge_t hq) hp.1 hp.2 k) (kt hq)
theorem Wd.icmp_ge (X : Wd p l e R s m args below meth c Z a0 EL own n0 SA0 SA T h cells slots) {x y : Int32} {o : Int} (pc' : Nat) (hd : decode c.code pc = .ok (.if_icmp .ge o, 3)) (hp : 0 ≤ (pc : Int) + o ∧ ((pc : Int) + o).toNat = pc') (kt : ¬ x < y → Goes p.tables e below Q (T.setTop (mkF m pc' Ls st))) (kf : x < y → Goes p.tables e below Q (T.setTop (mkF m (pc + 3) Ls st))) : Goes p.tables e below Q (T.setTop (mkF m pc Ls (.int y :: .int x :: st))) := by
  by_cases hq : x < y
  · exact Goes.via (fun t k => XS.icmpNo X.here X.exec rfl hd rfl (XT.ii_ge_f hq) k) (kf hq)
  · exact Goes.via (fun t k => XS.icmpYes X.here X.exec rfl rfl hd rfl (XT.ii_ge_t hq) hp.1 hp.2 k) (kt hq)
theorem Wd.if_gt (X : Wd p l e R s m args below meth c Z a0 EL own n0 SA0 SA T h cells slots) {x : Int32} {o : Int} (pc' : Nat) (hd : decode c.code pc = .ok (.ifCond .gt o, 3)) (hp : 0 ≤ (pc : Int) + o ∧ ((pc : Int) + o).toNat = pc') (kt : 0 < x → Goes p.tables e below Q (T.setTop (mkF m pc' Ls st))) (kf : ¬ 0 < x → Goes p.tables e below Q (T.setTop (mkF m (pc + 3) Ls st))) : Goes p.tables e below Q (T.setTop (mkF m pc Ls (.int x :: st))) := by
  by_cases hq : 0 < x
  · exact Goes.via (fun t k => XS.ifYes X.here X.exec rfl rfl hd rfl (XT.i0_gt_t hq) hp.1 hp.2 k) (kt hq)
  · exact Goes.via (fun t k => XS.ifNo X.here X.exec rfl hd rfl (XT.i0_gt_f hq) k) (kf hq)
theorem Wd.icmp_gt (X : Wd p l e R s m args below meth c Z a0 EL own n0 SA0 SA T h cells slots) {x y : Int32} {o : Int} (pc' : Nat) (hd : decode c.code pc = .ok (.if_icmp .gt o, 3)) (hp : 0 ≤ (pc : Int) + o ∧ ((pc : Int) + o).toNat = pc') (kt : y < x → Goes p.tables e below Q (T.setTop (mkF m pc' Ls st))) (kf : ¬ y < x → Goes p.tables e below Q (T.setTop (mkF m (pc + 3) Ls st))) : Goes p.tables e below Q (T.setTop (mkF m pc Ls (.int y :: .int x :: st))) := by
  by_cases hq : y < x
  · exact Goes.via (fun t k => XS.icmpYes X.here X.exec rfl rfl hd rfl (XT.ii_gt_t hq) hp.1 hp.2 k) (kt hq)
  · exact Goes.via (fun t k => XS.icmpNo X.here X.exec rfl hd rfl (XT.ii_gt_f hq) k) (kf hq)
theorem Wd.if_le (X : Wd p l e R s m args below meth c Z a0 EL own n0 SA0 SA T h cells slots) {x : Int32} {o : Int} (pc' : Nat) (hd : decode c.code pc = .ok (.ifCond .le o, 3)) (hp : 0 ≤ (pc : Int) + o ∧ ((pc : Int) + o).toNat = pc') (kt : ¬ 0 < x → Goes p.tables e below Q (T.setTop (mkF m pc' Ls st))) (kf : 0 < x → Goes p.tables e below Q (T.setTop (mkF m (pc + 3) Ls st))) : Goes p.tables e below Q (T.setTop (mkF m pc Ls (.int x :: st))) := by
  by_cases hq : 0 < x
  · exact Goes.via (fun t k => XS.ifNo X.here X.exec rfl hd rfl (XT.i0_le_f hq) k) (kf hq)
  · exact Goes.via (fun t k => XS.ifYes X.here X.exec rfl rfl hd rfl (XT.i0_le_t hq) hp.1 hp.2 k) (kt hq)
theorem Wd.icmp_le (X : Wd p l e R s m args below meth c Z a0 EL own n0 SA0 SA T h cells slots) {x y : Int32} {o : Int} (pc' : Nat) (hd : decode c.code pc = .ok (.if_icmp .le o, 3)) (hp : 0 ≤ (pc : Int) + o ∧ ((pc : Int) + o).toNat = pc') (kt : ¬ y < x → Goes p.tables e below Q (T.setTop (mkF m pc' Ls st))) (kf : y < x → Goes p.tables e below Q (T.setTop (mkF m (pc + 3) Ls st))) : Goes p.tables e below Q (T.setTop (mkF m pc Ls (.int y :: .int x :: st))) := by
  by_cases hq : y < x
  · exact Goes.via (fun t k => XS.icmpNo X.here X.exec rfl hd rfl (XT.ii_le_f hq) k) (kf hq)
  · exact Goes.via (fun t k => XS.icmpYes X.here X.exec rfl rfl hd rfl (XT.ii_le_t hq) hp.1 hp.2 k) (kt hq)
theorem Wd.ifnullR (X : Wd p l e R s m args below meth c Z a0 EL own n0 SA0 SA T h cells slots) {b : Addr} {o : Int} (hd : decode c.code pc = .ok (.ifnull o, 3)) (g : Goes p.tables e below Q (T.setTop (mkF m (pc + 3) Ls st))) : Goes p.tables e below Q (T.setTop (mkF m pc Ls (.ref b :: st))) :=
  Goes.via (fun t k => XS.ifnullNo X.here X.exec rfl hd rfl k) g
theorem Wd.ifnullN (X : Wd p l e R s m args below meth c Z a0 EL own n0 SA0 SA T h cells slots) {o : Int} (pc' : Nat) (hd : decode c.code pc = .ok (.ifnull o, 3)) (hp : 0 ≤ (pc : Int) + o ∧ ((pc : Int) + o).toNat = pc') (g : Goes p.tables e below Q (T.setTop (mkF m pc' Ls st))) : Goes p.tables e below Q (T.setTop (mkF m pc Ls (.null :: st))) :=
  Goes.via (fun t k => XS.ifnullYes X.here X.exec rfl rfl hd rfl hp.1 hp.2 k) g
theorem Wd.ifnonnullR (X : Wd p l e R s m args below meth c Z a0 EL own n0 SA0 SA T h cells slots) {b : Addr} {o : Int} (pc' : Nat) (hd : decode c.code pc = .ok (.ifnonnull o, 3)) (hp : 0 ≤ (pc : Int) + o ∧ ((pc : Int) + o).toNat = pc') (g : Goes p.tables e below Q (T.setTop (mkF m pc' Ls st))) : Goes p.tables e below Q (T.setTop (mkF m pc Ls (.ref b :: st))) :=
  Goes.via (fun t k => XT.ifnonnullYes X.here X.exec rfl rfl hd rfl hp.1 hp.2 k) g
theorem Wd.ifnonnullN (X : Wd p l e R s m args below meth c Z a0 EL own n0 SA0 SA T h cells slots) {o : Int} (hd : decode c.code pc = .ok (.ifnonnull o, 3)) (g : Goes p.tables e below Q (T.setTop (mkF m (pc + 3) Ls st))) : Goes p.tables e below Q (T.setTop (mkF m pc Ls (.null :: st))) :=
  Goes.via (fun t k => XT.ifnonnullNo X.here X.exec rfl hd rfl k) g
theorem Wd.acmp_eq (X : Wd p l e R s m args below meth c Z a0 EL own n0 SA0 SA T h cells slots) {x y : Value} {o : Int} (pc' : Nat) (hd : decode c.code pc = .ok (.if_acmp .eq o, 3)) (hp : 0 ≤ (pc : Int) + o ∧ ((pc : Int) + o).toNat = pc') (hx : x.isRef = true) (hy : y.isRef = true) (kt : x = y → Goes p.tables e below Q (T.setTop (mkF m pc' Ls st))) (kf : ¬ x = y → Goes p.tables e below Q (T.setTop (mkF m (pc + 3) Ls st))) : Goes p.tables e below Q (T.setTop (mkF m pc Ls (y :: x :: st))) := by
  by_cases hq : x = y
  · exact Goes.via (fun t k => XT.acmpYes X.here X.exec rfl rfl hd rfl hx hy (XT.aa_eq_t hq) hp.1 hp.2 k) (kt hq)
  · exact Goes.via (fun t k => XT.acmpNo X.here X.exec rfl hd rfl hx hy (XT.aa_eq_f hq) k) (kf hq)
theorem Wd.acmp_ne (X : Wd p l e R s m args below meth c Z a0 EL own n0 SA0 SA T h cells slots) {x y : Value} {o : Int} (pc' : Nat) (hd : decode c.code pc = .ok (.if_acmp .ne o, 3)) (hp : 0 ≤ (pc : Int) + o ∧ ((pc : Int) + o).toNat = pc') (hx : x.isRef = true) (hy : y.isRef = true) (kt : ¬ x = y → Goes p.tables e below Q (T.setTop (mkF m pc' Ls st))) (kf : x = y → Goes p.tables e below Q (T.setTop (mkF m (pc + 3) Ls st))) : Goes p.tables e below Q (T.setTop (mkF m pc Ls (y :: x :: st))) := by
  by_cases hq : x = y
  · exact Goes.via (fun t k => XT.acmpNo X.here X.exec rfl hd rfl hx hy (XT.aa_ne_f hq) k) (kf hq)
  · exact Goes.via (fun t k => XT.acmpYes X.here X.exec rfl rfl hd rfl hx hy (XT.aa_ne_t hq) hp.1 hp.2 k) (kt hq)
end Wide
end Own
namespace Own
open Jvm Jvm.ClassFile Sem Op Lib Jvm.Free Jvm.Stand Jvm.LawKit Jvm.RoadKit Bundle
section Facts
variable {Z : State} {h h' : Heap} {a b t x y : Addr} {cs : List Int32} {C : String} {a0 : Array Value} {k k' : ClassId} {ty ty' : FieldType} {n n' : Int32} {vs vs' : List Value} {dv dv' v : Value} {sl : Nat} {ws : List Addr}
theorem arvTy (A : Arv Z h a k ty n vs dv) (B : Arv Z h b k' ty' n' vs' dv') (q : ty ≠ ty') : a ≠ b := fun e => by
  subst e
  obtain ⟨c1, ⟨h1, ⟨-, k1, h2, m1, h3⟩, -⟩, -⟩ := A
  obtain ⟨c2, ⟨g1, ⟨-, k2, g2, m2, g3⟩, -⟩, -⟩ := B
  cases h1.symm.trans g1
  cases h2.symm.trans g2
  rw [h3] at g3
  cases g3
  exact q rfl
theorem narR {t : FieldType} {v : Value} (hv : v.isRef = true) (ht : t.isReference = true := by rfl) : narrow t v = v := by cases t <;> cases v <;> first | rfl | (cases hv; done) | (cases ht; done)
theorem fitR {t : FieldType} {v : Value} (hv : v.isRef = true) (ht : t.isReference = true := by rfl) : fits t v = true := by cases t <;> cases v <;> first | rfl | (cases hv; done) | (cases ht; done)
/-- a is a Latin-1 String that spells cs; its bytes lie at t -/
def OStr (Z : State) (h : Heap) (a t : Addr) (cs : List Int32) : Prop := Exa Z h a "java/lang/String" ∧ (∀ c ∈ cs, ¬ c < 0 ∧ ¬ (255 : Int32) < c) ∧ cs.length ≤ 4000 ∧
  ∃ kb : ClassId, Fld Z h a "java/lang/String" "value" "[B" (.ref t) ∧ Fld Z h a "java/lang/String" "coder" "B" (.int (0 : Int32)) ∧ Arv Z h t kb .byte (Int32.ofNat cs.length) ((cs.map StrChars.lo8).map Value.int) (.int 0)
theorem up16 {cs : List Int32} (hp : ∀ c ∈ cs, ¬ c < 0 ∧ ¬ (255 : Int32) < c) : ∀ c ∈ cs, ¬ c < 0 ∧ ¬ (65535 : Int32) < c := fun c q => ⟨(hp c q).1, fun z => (hp c q).2 (Int32.lt_trans (by decide) z)⟩
theorem OStr.lt (F : OStr Z h a t cs) : a < h.size := F.1.lt
theorem OStr.ltb (F : OStr Z h a t cs) : t < h.size := by obtain ⟨-, -, -, _, -, -, A⟩ := F; exact A.lt
theorem OStr.ext (F : OStr Z h a t cs) (E : Ext h h') : OStr Z h' a t cs := by
  obtain ⟨h1, h2, h3, kb, h4, h5, h6⟩ := F
  exact ⟨h1.ext E, h2, h3, kb, h4.ext E, h5.ext E, h6.ext E⟩
theorem OStr.wr (F : OStr Z h a t cs) (W : Wr h h' x sl v) (q1 : a ≠ x) (q2 : t ≠ x) : OStr Z h' a t cs := by
  obtain ⟨h1, h2, h3, kb, h4, h5, h6⟩ := F
  exact ⟨h1.wr W, h2, h3, kb, h4.other W (Or.inl q1), h5.other W (Or.inl q1), h6.other W q2⟩
theorem OStr.keep (F : OStr Z h a t cs) (K : Keep h h' ws) (q1 : a ∉ ws) (q2 : t ∉ ws) : OStr Z h' a t cs := by
  obtain ⟨h1, h2, h3, kb, h4, h5, h6⟩ := F
  exact ⟨h1.keep K, h2, h3, kb, h4.keep K q1, h5.keep K q1, h6.keep K q2⟩
theorem OStr.neT {kk : Nat} (F : OStr Z h a t cs) (E : Exa Z h x C) (w : (Jvm.Cond.instantiable C kk).before a0 Z = true) : t ≠ x := by
  obtain ⟨-, -, -, kb, -, -, h6⟩ := F
  exact (E.neArv h6 w).symm
theorem OStr.neTA (F : OStr Z h a t cs) (A : Arv Z h x k ty n vs dv) (q : FieldType.byte ≠ ty) : t ≠ x := by
  obtain ⟨-, -, -, kb, -, -, h6⟩ := F
  exact arvTy h6 A q
theorem OStr.mk {kb : ClassId} (E : Exa Z h a "java/lang/String") (V : Fld Z h a "java/lang/String" "value" "[B" (.ref t)) (C : Fld Z h a "java/lang/String" "coder" "B" (.int (0 : Int32))) (A : Arv Z h t kb .byte (Int32.ofNat cs.length) ((cs.map StrChars.lo8).map Value.int) (.int 0)) (hp : ∀ c ∈ cs, ¬ c < 0 ∧ ¬ (255 : Int32) < c) (l2 : cs.length ≤ 4000) : OStr Z h a t cs :=
  ⟨E, hp, l2, kb, V, C, A⟩
end Facts
section Wide
variable {p : Program} {l : Launch} {e : Env} {R : Room} {s : State} {m : MethodId} {args : Array Value} {below : List Frame} {meth : Method} {c : Code}
variable {Z : State} {a0 : Array Value} {EL : List (String × Nat)} {own : String} {n0 : Nat} {SA0 SA : List Addr} {T : State} {h h' : Heap} {cells slots : Nat} {Q : Outcome → State → Prop} {pc : Nat} {Ls : Array Slot} {st : List Value} {vm0 vm1 : Vm} {a b : Addr} {sl : Nat} {v : Value}
abbrev sI1 : MethodName := ⟨"java/lang/String", "<init>", "([C)V"⟩
theorem pdI1 : parseMethodDescriptor "([C)V" = some ⟨[.array .char], none⟩ := by decide +kernel
/-- new String(char[]), one to 4000 chars, each 0 to 255 -/
theorem Wd.newStr (X : Wd p l e R s m args below meth c Z a0 EL own n0 SA0 SA T h cells slots) {idx : Nat} {kC : ClassId} {cs : List Int32} {d v0 c0 : Value} {z N : Int32} (n : Nat) (w1 : (Jvm.Cond.methodLink own idx sI1).before a0 Z = true) (w2 : (Jvm.Cond.instanceMethod sI1).before a0 Z = true)
    (hws : ∀ d ∈ StrChars.Road.words, d.before a0 Z = true) (wi : (Jvm.Cond.instantiable "java/lang/String" 4).before a0 Z = true) (E : Exa Z h a "java/lang/String") (V : Fld Z h a "java/lang/String" "value" "[B" v0) (C : Fld Z h a "java/lang/String" "coder" "B" c0) (K : Arv Z h b kC .char N (cs.map Value.int) d)
    (S0 : Sta Z Z.heap "java/lang/String" "COMPACT_STRINGS" "Z" (.int z)) (hz : ¬ z = 0) (hn : cs.length = n) (hN : N = Int32.ofNat n) (l0 : 0 < n) (l2 : n ≤ 4000) (hp : ∀ c ∈ cs, ¬ c < 0 ∧ ¬ (255 : Int32) < c) (q : a ∈ SA) (hfr : 4 ≤ R.frames) (W : Nat) (hW : (st.map fun v => v.category).sum ≤ W) (hlo : W + 65 ≤ R.locals)
    (hcl : cells + 1 ≤ R.cells) (hsl : slots + n ≤ R.slots) (hsize : Ls.size = c.maxLocals) (hd : decode c.code pc = .ok (.invokespecial idx, 3))
    (k : ∀ (T' : State) (h' : Heap) (t : Addr), Wd p l e R s m args below meth c Z a0 EL own n0 SA0 SA T' h' (cells + 1) (slots + n) → Keep h h' [a] → h.size ≤ t → OStr Z h' a t cs → Goes p.tables e below Q (T'.setTop (mkF m (pc + 3) Ls st))) : Goes p.tables e below Q (T.setTop (mkF m pc Ls (.ref b :: .ref a :: st))) := by
  have hn0 := X.n0h
  have hsa := X.saf q
  obtain ⟨vm0, locs, k0, Y, eT, hS, hk, hZ, hown, hC, N', O, K', S, hEL, hx⟩ := X
  obtain ⟨_, vm1, ⟨T', L', c', s'⟩, -, Y', ⟨L, ⟨rfl, hL, Kp, E', C', t, kb, -, g2, -, V', A'⟩, rfl, rfl, rfl⟩, st'⟩ := Y.specialBack hx (y := sI1) rfl hown (mvT hZ w1) (mvT hZ w2) (mvT hZ (hws _ (List.mem_cons_self ..))) (by decide)
    (StrChars.Road.backV (W := W) (n0 := n0) hZ hws wi hsa.1 hn0 E V C K (Sta.ext O.2 S0) hz hn hN l0 l2 hp rfl hfr hlo) (g := mkF m pc Ls (.ref b :: .ref a :: st)) rfl hsize (Steps.refl _) (a := a) (argsL := [.ref b]) (rest := st) (lenOf pdI1 rfl) rfl (by show 2 * 0 + _ ≤ _; omega) hd (fun _ _ => ⟨rfl, eT, hcl, hsl⟩)
  subst hn hN
  exact Goes.aft st' (k T' T'.heap t (backN hS hk hZ hown hC N' O K' S hEL hx Y' hL Kp (fun x hx => by cases List.mem_singleton.mp hx; exact q)) Kp g2 (OStr.mk E' V' C' A' hp l2))
end Wide
end Own
namespace Own
open Jvm Jvm.ClassFile Sem Op Lib Jvm.Free Jvm.Stand Jvm.LawKit Jvm.RoadKit Bundle
/-- (char) x -/
def i2c (x : Int32) : Int32 := x.toUInt32.toUInt16.toUInt32.toInt32
/-- (char) (x & 255) -/
def c8 (x : Int32) : Int32 := (x &&& (255 : Int32)).toUInt32.toUInt16.toUInt32.toInt32
theorem nar_i2c (x : Int32) : nar .char (i2c x) = i2c x := by
  have q := XT.narrow_c x
  simp only [nar, i2c, UInt32.toUInt32_toInt32, UInt16.toUInt16_toUInt32]
theorem nar_lo8 (x : Int32) : nar .byte (StrChars.lo8 x) = StrChars.lo8 x := by
  show (x.toInt8.toInt32).toInt8.toInt32 = x.toInt8.toInt32
  rw [Int8.toInt8_toInt32]
theorem nar_c8 (x : Int32) : nar .char (c8 x) = c8 x := nar_i2c (x &&& 255)
theorem i2c_nat (x : Int32) : (i2c x).toBitVec.toNat = x.toBitVec.toNat % 65536 := by
  show (x.toUInt32.toUInt16.toUInt32).toNat = _
  simp
  rfl
theorem nat_rng {x : Int32} {n : Nat} (h : x.toBitVec.toNat ≤ n) (hn : n < 2 ^ 31) : x.toInt = x.toBitVec.toNat := by
  show x.toBitVec.toInt = _
  rw [BitVec.toInt_eq_toNat_cond]; split <;> omega
theorem i2c_int (x : Int32) : (i2c x).toInt = ((x.toBitVec.toNat % 65536 : Nat) : Int) := by
  rw [nat_rng (n := 65535) (by rw [i2c_nat]; omega) (by decide), i2c_nat]
theorem i2c_rng (x : Int32) : ¬ i2c x < 0 ∧ ¬ (65535 : Int32) < i2c x := by
  simp only [Int32.lt_iff_toInt_lt, i2c_int, show (0 : Int32).toInt = 0 from rfl, show (65535 : Int32).toInt = 65535 from rfl]
  omega
theorem and_nat (x y : Int32) : (x &&& y).toBitVec.toNat = x.toBitVec.toNat &&& y.toBitVec.toNat := by
  rw [Int32.toBitVec_and, BitVec.toNat_and]
theorem c8_int (x : Int32) : (c8 x).toInt = ((x.toBitVec.toNat % 256 : Nat) : Int) := by
  show (i2c (x &&& 255)).toInt = _
  rw [i2c_int, and_nat, show (255 : Int32).toBitVec.toNat = 2 ^ 8 - 1 from rfl, Nat.and_two_pow_sub_one_eq_mod]
  have : x.toBitVec.toNat % 2 ^ 8 < 256 := Nat.mod_lt _ (by decide)
  rw [Nat.mod_eq_of_lt (a := x.toBitVec.toNat % 2 ^ 8) (by omega)]
theorem c8_rng (x : Int32) : ¬ c8 x < 0 ∧ ¬ (255 : Int32) < c8 x := by
  simp only [Int32.lt_iff_toInt_lt, c8_int, show (0 : Int32).toInt = 0 from rfl, show (255 : Int32).toInt = 255 from rfl]
  omega
theorem hp0 {P : Int32 → Prop} : ∀ c ∈ ([] : List Int32), P c := fun _ q => nomatch q
theorem hpS {P : Int32 → Prop} {x : Int32} {L : List Int32} (q : P x) (r : ∀ c ∈ L, P c) : ∀ c ∈ x :: L, P c := fun c z => (List.mem_cons.mp z).elim (fun u => u ▸ q) (r c)
end Own
end Jvm.Pilot.@@N@@
namespace Jvm.Pilot.@@N@@
open Jvm Jvm.ClassFile Sem Op Lib Jvm.Free Jvm.Stand Jvm.LawKit Jvm.RoadKit Bundle Jvm.Pilot.@@N@@.Jvm.D
open Own
theorem hEL_of {Z : State} {a0 : Array Value} (hw : ∀ d ∈ tables_1, d.before a0 Z = true) : EW Z a0 consts_1 := (EW.cons (hw _ (List.mem_of_getElem? (i := 171) rfl)) (by decide) (EW.cons (hw _ (List.mem_of_getElem? (i := 21) rfl)) (by decide) (EW.cons (hw _ (List.mem_of_getElem? (i := 84) rfl)) (by decide) EW.nil)))
theorem hwsV : ∀ d ∈ StrChars.Road.words, d ∈ tables_1 := by decide +kernel
theorem hwS : ∀ d ∈ Bundle.stringAtoms, d ∈ tables_1 := by decide +kernel
def Rb (x : Int32) : Prop := ¬ x < 0 ∧ ¬ (255 : Int32) < x
theorem i2c_id {x : Int32} (h : Rb x) : i2c x = x := by
  apply Int32.toInt_inj.mp
  rw [i2c_int]
  obtain ⟨h1, h2⟩ := h
  simp only [Int32.lt_iff_toInt_lt, show (0 : Int32).toInt = 0 from rfl, show (255 : Int32).toInt = 255 from rfl] at h1 h2
  have e : x.toInt = x.toBitVec.toInt := rfl
  rw [BitVec.toInt_eq_toNat_cond] at e
  have := x.toBitVec.isLt
  split at e <;> omega
theorem nar_id {x : Int32} (h : Rb x) : nar .char x = x := i2c_id h
theorem ret_lo {x : Int32} (h : Rb x) : some (Value.int (nar .char (StrChars.chr8 (StrChars.lo8 x)))) = some (.int x) := by rw [StrChars.chr8_lo8 h.1 h.2, nar_id h]
theorem ret_ch {x : Int32} (h : Rb x) : some (Value.int (nar .char x)) = some (.int x) := by rw [nar_id h]
theorem lo10 {x : Int32} (h : Rb x) (q : StrChars.lo8 x = 10) : x = 10 := by
  have e := StrChars.chr8_lo8 h.1 h.2
  rw [q] at e; rw [← e]; decide
theorem rem6 (y : Int32) : (y &&& 7) % 6 = 0 ∨ (y &&& 7) % 6 = 1 ∨ (y &&& 7) % 6 = 2 ∨ (y &&& 7) % 6 = 3 ∨ (y &&& 7) % 6 = 4 ∨ (y &&& 7) % 6 = 5 := by
  have q := and_nat y 7
  rw [show (7 : Int32).toBitVec.toNat = 2 ^ 3 - 1 from rfl, Nat.and_two_pow_sub_one_eq_mod] at q
  have h : y.toBitVec.toNat % 2 ^ 3 < 8 := Nat.mod_lt _ (by decide)
  have hk : ∀ k : Fin 8, y.toBitVec.toNat % 2 ^ 3 = k.val → y &&& 7 = Int32.ofNat k.val := fun k e => Int32.toBitVec_inj.mp (BitVec.eq_of_toNat_eq (by
    rw [q, e]
    have t : ∀ k : Fin 8, k.val = (Int32.ofNat k.val).toBitVec.toNat := by decide
    exact t k))
  have t : ∀ k : Fin 8, (Int32.ofNat k.val) % 6 = 0 ∨ (Int32.ofNat k.val) % 6 = 1 ∨ (Int32.ofNat k.val) % 6 = 2 ∨ (Int32.ofNat k.val) % 6 = 3 ∨ (Int32.ofNat k.val) % 6 = 4 ∨ (Int32.ofNat k.val) % 6 = 5 := by decide
  rw [hk ⟨_, h⟩ rfl]
  exact t ⟨_, h⟩
theorem o32i {a : Nat} (h : a < 2 ^ 31) : (Int32.ofNat a).toInt = a := Int32.toInt_ofNat_of_lt h
theorem o32lt {a b : Nat} (ha : a < 2 ^ 31) (hb : b < 2 ^ 31) : Int32.ofNat a < Int32.ofNat b ↔ a < b := by rw [Int32.lt_iff_toInt_lt, o32i ha, o32i hb]; omega
theorem o32neg {a : Nat} (ha : a < 2 ^ 31) : ¬ Int32.ofNat a < 0 := by rw [Int32.lt_iff_toInt_lt, o32i ha, show (0 : Int32).toInt = 0 from rfl]; omega
theorem o32pos {a : Nat} (ha : a < 2 ^ 31) : 0 < Int32.ofNat a ↔ 0 < a := by rw [Int32.lt_iff_toInt_lt, o32i ha, show (0 : Int32).toInt = 0 from rfl]; omega
theorem o32eq {a b : Nat} (ha : a < 2 ^ 31) (hb : b < 2 ^ 31) : Int32.ofNat a = Int32.ofNat b ↔ a = b := ⟨fun h => by have q := congrArg Int32.toInt h; rw [o32i ha, o32i hb] at q; omega, fun h => by rw [h]⟩
theorem o32z {a : Nat} (ha : a < 2 ^ 31) : Int32.ofNat a = 0 ↔ a = 0 := o32eq (b := 0) ha (by decide)
theorem o32tn {a : Nat} (h : a < 2 ^ 31) : (Int32.ofNat a).toNatClampNeg = a := by rw [Int32.toNatClampNeg, o32i h]; rfl
def wsP (x : Int32) : Prop := x = 32 ∨ (¬ x < 9 ∧ ¬ (13 : Int32) < x) ∨ (¬ x < 28 ∧ ¬ (31 : Int32) < x)
instance : DecidablePred wsP := fun x => by unfold wsP; infer_instance
def ixN : List Int32 → Nat
  | [] => 0
  | c :: cs => if c = 10 then 0 else ixN cs + 1
def nwN : List Int32 → Nat
  | [] => 0
  | c :: cs => if wsP c then nwN cs + 1 else 0
def lwN : List Int32 → Nat
  | [] => 0
  | c :: cs => if lwN cs = 0 then (if wsP c then 0 else 1) else lwN cs + 1
def idx (cs : List Int32) : Int32 := if ixN cs < cs.length then Int32.ofNat (ixN cs) else -1
def Sp (cs : List Int32) : List Int32 := (cs.drop (nwN cs)).take (lwN cs - nwN cs)
def FL (cs : List Int32) : List Int32 := Sp (cs.take (ixN cs))
theorem ix_le : ∀ cs : List Int32, ixN cs ≤ cs.length
  | [] => Nat.le_refl _
  | c :: cs => by have := ix_le cs; unfold ixN; split <;> simp <;> omega
theorem nw_le : ∀ cs : List Int32, nwN cs ≤ cs.length
  | [] => Nat.le_refl _
  | c :: cs => by have := nw_le cs; unfold nwN; split <;> simp <;> omega
theorem lw_le : ∀ cs : List Int32, lwN cs ≤ cs.length
  | [] => Nat.le_refl _
  | c :: cs => by have := lw_le cs; unfold lwN; split <;> (try split) <;> simp <;> omega
theorem nw_lt : ∀ cs : List Int32, nwN cs < cs.length → nwN cs < lwN cs
  | [], h => nomatch h
  | c :: cs, h => by
    have ih := nw_lt cs
    unfold nwN at h ⊢; unfold lwN
    by_cases q : wsP c
    · simp only [q, if_true, List.length_cons] at h ⊢
      have := ih (by omega)
      rw [if_neg (by omega)]; omega
    · simp only [q, if_false]
      split <;> simp
theorem idx_at {cs : List Int32} {k : Nat} (e : ixN cs = k) (h : k < cs.length) : idx cs = Int32.ofNat k := by subst e; exact if_pos h
theorem idx_no {cs : List Int32} (e : ixN cs = cs.length) : idx cs = -1 := if_neg (by omega)
theorem idx_ge {cs : List Int32} (h : ¬ idx cs < 0) : ixN cs < cs.length ∧ idx cs = Int32.ofNat (ixN cs) := by
  by_cases q : ixN cs < cs.length
  · exact ⟨q, if_pos q⟩
  · exact absurd (by rw [idx, if_neg q]; decide) h
theorem idx_lt {cs : List Int32} (hl : cs.length ≤ 4000) (h : idx cs < 0) : ixN cs = cs.length := by
  by_cases q : ixN cs < cs.length
  · rw [idx, if_pos q] at h; exact absurd h (o32neg (by omega))
  · have := ix_le cs; omega
theorem sp_nil {cs : List Int32} (h : nwN cs = cs.length) : Sp cs = [] := by rw [Sp, h]; simp
theorem sp_all {cs : List Int32} (h : nwN cs = 0) (h2 : lwN cs = cs.length) : Sp cs = cs := by rw [Sp, h, h2]; simp
theorem sp_len {cs : List Int32} : (Sp cs).length = lwN cs - nwN cs := by have := lw_le cs; simp [Sp]; omega
theorem sp_mem {cs : List Int32} {x : Int32} (h : x ∈ Sp cs) : x ∈ cs := List.mem_of_mem_drop (List.mem_of_mem_take h)
theorem slice {cs : List Int32} {LO K : Nat} (h : LO + K ≤ cs.length) : ((((cs.drop LO).take K).map StrChars.lo8).map Value.int) = (List.range K).map fun i => ((cs.map StrChars.lo8).map Value.int).getD (LO + i) (.int 0) := by
  apply List.ext_getElem
  · simp; omega
  · intro i h1 h2
    simp at h1
    have : LO + i < cs.length := by omega
    simp [List.getD_eq_getElem?_getD, List.getElem?_eq_getElem, this]
theorem at_lo {cs : List Int32} {i : Nat} (h : i < cs.length) : ((cs.map StrChars.lo8).map Value.int).getD i (.int 0) = .int (StrChars.lo8 (cs.getD i 0)) := by
  simp [List.getD_eq_getElem?_getD, List.getElem?_eq_getElem, h]
theorem getD_mem {cs : List Int32} {i : Nat} (h : i < cs.length) : cs.getD i 0 ∈ cs := by
  simp [List.getD_eq_getElem?_getD, List.getElem?_eq_getElem, h]
theorem cut0 {us : List Value} {n : Nat} : (List.replicate n (Value.int 0)).take (0 : Int32).toNatClampNeg ++ us ++ (List.replicate n (Value.int 0)).drop ((0 : Int32).toNatClampNeg + n) = us := by
  rw [show (0 : Int32).toNatClampNeg = 0 from rfl]; simp
theorem min32 {N LO K : Nat} (h : LO + K ≤ N) (hN : N ≤ 4000) : (if Int32.ofNat K < Int32.ofNat N - Int32.ofNat LO then Int32.ofNat K else Int32.ofNat N - Int32.ofNat LO) = Int32.ofNat K := by
  rw [← Int32.ofNat_sub _ _ (by omega)]
  split
  · rfl
  · rename_i q; rw [o32lt (by omega) (by omega)] at q; rw [o32eq (by omega) (by omega)]; omega
open Jvm.Free.Str (pinA)
theorem ws_tab : ∀ k : Fin 256, ((pinA.getD k.val 0) &&& 28672 = 16384) ↔ wsP (Int32.ofNat k.val) := by decide +kernel
theorem rb_nat {x : Int32} (h : Rb x) : ∃ k : Fin 256, x = Int32.ofNat k.val := by
  obtain ⟨h1, h2⟩ := h
  rw [Int32.lt_iff_toInt_lt, show (0 : Int32).toInt = 0 from rfl] at h1
  rw [Int32.lt_iff_toInt_lt, show (255 : Int32).toInt = 255 from rfl] at h2
  refine ⟨⟨x.toInt.toNat, by omega⟩, Int32.toInt_inj.mp ?_⟩
  rw [o32i (by show x.toInt.toNat < _; omega)]; show x.toInt = (x.toInt.toNat : Int); omega
/-- the table A of CharacterDataLatin1 -/
def TabW (Z : State) (aA : Addr) (cA : Cell) : Prop := Arr Z Z.heap aA cA .int ∧ cA.slots.size = 256 ∧ ∀ k, k < 256 → cA.slots[k]? = some (.int (pinA.getD k 0))
theorem Wd.ialoadT {p : Program} {l : Launch} {e : Env} {R : Room} {s : State} {m : MethodId} {args : Array Value} {below : List Frame} {meth : Method} {c : Code} {Z : State} {a0 : Array Value} {EL : List (String × Nat)} {own : String} {n0 : Nat} {SA0 SA : List Addr} {T : State} {h : Heap} {cells slots : Nat} {Q : Outcome → State → Prop} {pc : Nat} {Ls : Array Slot} {st : List Value} {a : Addr} {cl : Cell} {j : Int32} {v : Value}
    (X : Wd p l e R s m args below meth c Z a0 EL own n0 SA0 SA T h cells slots) (A : Arr Z h a cl .int) (hj : ¬ (j < 0 ∨ cl.slots.size ≤ j.toNatClampNeg)) (hv : cl.slots[j.toNatClampNeg]? = some v) (hd : decode c.code pc = .ok (.iaload, 1))
    (g : Goes p.tables e below Q (T.setTop (mkF m (pc + 1) Ls (v :: st)))) : Goes p.tables e below Q (T.setTop (mkF m pc Ls (.int j :: .ref a :: st))) := by
  obtain ⟨vm0, locs, k0, Y, eT, r2, r3, r4, r5, r⟩ := X
  exact Goes.via (fun t => Y.iaload r.2.2.2.2.2.2 (by rw [eT]; exact A.1) (State.isArrayOf_alike r4.alike A.2.1) A.2.2 hj hv (g := mkF m pc Ls (.int j :: .ref a :: st)) rfl rfl hd t) g
theorem d34_0 : decode jdk_41_method_11_code 0 = .ok (.iload_n 0, 1) := by decide +kernel
theorem d34_1 : decode jdk_41_method_11_code 1 = .ok (.ifCond .lt 8, 3) := by decide +kernel
theorem d34_4 : decode jdk_41_method_11_code 4 = .ok (.iload_n 0, 1) := by decide +kernel
theorem d34_5 : decode jdk_41_method_11_code 5 = .ok (.iload_n 1, 1) := by decide +kernel
theorem d34_6 : decode jdk_41_method_11_code 6 = .ok (.if_icmp .lt 10, 3) := by decide +kernel
theorem d34_9 : decode jdk_41_method_11_code 9 = .ok (.aload_n 2, 1) := by decide +kernel
theorem d34_10 : decode jdk_41_method_11_code 10 = .ok (.iload_n 0, 1) := by decide +kernel
theorem d34_11 : decode jdk_41_method_11_code 11 = .ok (.iload_n 1, 1) := by decide +kernel
theorem d34_12 : decode jdk_41_method_11_code 12 = .ok (.invokestatic 95, 3) := by decide +kernel
theorem d34_15 : decode jdk_41_method_11_code 15 = .ok (.athrow, 1) := by decide +kernel
theorem d34_16 : decode jdk_41_method_11_code 16 = .ok (.iload_n 0, 1) := by decide +kernel
theorem d34_17 : decode jdk_41_method_11_code 17 = .ok (.ireturn, 1) := by decide +kernel
theorem pn_0 : plainName "jdk/internal/util/Preconditions" = true := by first | (simp [plainName, overriddenIn]; done) | decide +kernel
set_option maxRecDepth 65536 in
set_option maxHeartbeats 40000000 in
theorem ctPre (l : Launch) (Z : State) (a0 : Array Value) (hw : ∀ d ∈ tables_1, d.before a0 Z = true) (hEL : EW Z a0 consts_1) (z0 : Int32) (S0 : Sta Z Z.heap "java/lang/String" "COMPACT_STRINGS" "Z" (.int z0)) (hz0 : ¬ z0 = 0) (fm : Value) (hfm : fm.isRef = true) (SF : Sta Z Z.heap "jdk/internal/util/Preconditions" "SIOOBE_FORMATTER" "Ljava/util/function/BiFunction;" fm) (i n : Int32) (h0 : Heap) (n0 : Nat) (hi0 : ¬ i < 0) (hin : i < n) :
    Ct l Z consts_1 [] (⟨"jdk/internal/util/Preconditions", "checkIndex", "(IILjava/util/function/BiFunction;)I"⟩ : MethodName) jdk_41_method_11_code 3 (some .int) ({ frames := 0, cells := 0, slots := 0, locals := 0 } : Room) #[(.int i), (.int n), fm] h0 n0 [] (fun v _ => v = some (.int i)) := by
  have w : ∀ {d : Jvm.Cond} (i : Nat), tables_1[i]? = some d → d.before a0 Z = true := fun i q => hw _ (List.mem_of_getElem? q)
  refine Ct.enter (plainFor_of_name pn_0) hEL ?_
  intro p e sS m below meth c T0 hby hml0 hret hlk hnm hs0 X0
  have hml : c.maxLocals = 3 := hml0
  have D : ∀ {pc : Nat} {r : Except DecodeError (Instr × Nat)}, decode jdk_41_method_11_code pc = r → decode c.code pc = r := fun q => hb hby q
  rw [show entryFrame m #[(.int i), (.int n), fm] 3 = mkF m 0 #[.val (.int i), .val (.int n), .val fm] [] from by cases fm <;> first | rfl | (simp [Value.isRef] at hfm; done)]
  refine X0.iloadN (x := i) (D d34_0) rfl ?_
  refine X0.if_lt 9 (D d34_1) ⟨by decide, by decide⟩ (fun hc => (hi0 hc).elim) (fun hn1 => ?_)
  refine X0.iloadN (x := i) (D d34_4) rfl ?_
  refine X0.iloadN (x := n) (D d34_5) rfl ?_
  refine X0.icmp_lt 16 (D d34_6) ⟨by decide, by decide⟩ (fun hn2 => ?_) (fun hc => (hc hin).elim)
  refine X0.iloadN (x := i) (D d34_16) rfl ?_
  exact X0.retI hret hlk (D d34_17) (by decide) (by decide) (rfl)
theorem d33_0 : decode jdk_42_method_155_code 0 = .ok (.iload_n 0, 1) := by decide +kernel
theorem d33_1 : decode jdk_42_method_155_code 1 = .ok (.iload_n 1, 1) := by decide +kernel
theorem d33_2 : decode jdk_42_method_155_code 2 = .ok (.getstatic 1053, 3) := by decide +kernel
theorem d33_5 : decode jdk_42_method_155_code 5 = .ok (.invokestatic 1059, 3) := by decide +kernel
theorem d33_8 : decode jdk_42_method_155_code 8 = .ok (.pop, 1) := by decide +kernel
theorem d33_9 : decode jdk_42_method_155_code 9 = .ok (.return_, 1) := by decide +kernel
theorem pn_1 : plainName "java/lang/String" = true := by first | (simp [plainName, overriddenIn]; done) | decide +kernel
theorem pd_0 : parseMethodDescriptor "(IILjava/util/function/BiFunction;)I" = some ⟨[.int, .int, (.object "java/util/function/BiFunction")], (some .int)⟩ := by decide +kernel
set_option maxRecDepth 65536 in
set_option maxHeartbeats 40000000 in
theorem ctSci (l : Launch) (Z : State) (a0 : Array Value) (hw : ∀ d ∈ tables_1, d.before a0 Z = true) (hEL : EW Z a0 consts_1) (z0 : Int32) (S0 : Sta Z Z.heap "java/lang/String" "COMPACT_STRINGS" "Z" (.int z0)) (hz0 : ¬ z0 = 0) (fm : Value) (hfm : fm.isRef = true) (SF : Sta Z Z.heap "jdk/internal/util/Preconditions" "SIOOBE_FORMATTER" "Ljava/util/function/BiFunction;" fm) (i n : Int32) (h0 : Heap) (n0 : Nat) (hi0 : ¬ i < 0) (hin : i < n) :
    Ct l Z consts_1 [] (⟨"java/lang/String", "checkIndex", "(II)V"⟩ : MethodName) jdk_42_method_155_code 2 none ({ frames := 1, cells := 0, slots := 0, locals := 14 } : Room) #[(.int i), (.int n)] h0 n0 [] (fun v _ => v = none) := by
  have w : ∀ {d : Jvm.Cond} (i : Nat), tables_1[i]? = some d → d.before a0 Z = true := fun i q => hw _ (List.mem_of_getElem? q)
  refine Ct.enter (plainFor_of_name pn_1) hEL ?_
  intro p e sS m below meth c T0 hby hml0 hret hlk hnm hs0 X0
  have hml : c.maxLocals = 2 := hml0
  have D : ∀ {pc : Nat} {r : Except DecodeError (Instr × Nat)}, decode jdk_42_method_155_code pc = r → decode c.code pc = r := fun q => hb hby q
  rw [show entryFrame m #[(.int i), (.int n)] 2 = mkF m 0 #[.val (.int i), .val (.int n)] [] from by first | (simp [entryFrame, mkF, argsToLocals, Value.category]; done) | rfl]
  refine X0.iloadN (x := i) (D d33_0) rfl ?_
  refine X0.iloadN (x := n) (D d33_1) rfl ?_
  refine X0.gets (w 107 rfl) Via.refl (Sta.ext X0.old.2 SF) (D d33_2) ?_
  intro T3 X4
  show Goes p.tables e below _ (T3.setTop (mkF m 5 #[.val (.int i), .val (.int n)] [fm, (.int n), (.int i)]))
  refine X4.calls [(.int i), (.int n), fm] [] (ctPre l Z a0 hw hEL z0 S0 hz0 fm hfm SF i n _ _ hi0 hin) (w 148 rfl) (w 149 rfl) (w 108 rfl) (w 150 rfl) (by decide) (fun _ q => nomatch q) (by decide) 0 (by decide) (by decide) (by decide) (lenOf pd_0 rfl) rfl (Nat.le_of_ble_eq_true rfl) (by rw [hml]; rfl) (D d33_5) ?_
  rintro T5 h6 _ X8 K9 rfl
  show Goes p.tables e below _ (T5.setTop (mkF m 8 #[.val (.int i), .val (.int n)] [(.int i)]))
  refine X8.pop (D d33_8) rfl ?_
  exact X8.retn hret hlk (D d33_9) (by decide) (by decide) (rfl)
theorem d24_0 : decode jdk_41_method_12_code 0 = .ok (.iload_n 0, 1) := by decide +kernel
theorem d24_1 : decode jdk_41_method_12_code 1 = .ok (.ifCond .lt 13, 3) := by decide +kernel
theorem d24_4 : decode jdk_41_method_12_code 4 = .ok (.iload_n 0, 1) := by decide +kernel
theorem d24_5 : decode jdk_41_method_12_code 5 = .ok (.iload_n 1, 1) := by decide +kernel
theorem d24_6 : decode jdk_41_method_12_code 6 = .ok (.if_icmp .gt 8, 3) := by decide +kernel
theorem d24_9 : decode jdk_41_method_12_code 9 = .ok (.iload_n 1, 1) := by decide +kernel
theorem d24_10 : decode jdk_41_method_12_code 10 = .ok (.iload_n 2, 1) := by decide +kernel
theorem d24_11 : decode jdk_41_method_12_code 11 = .ok (.if_icmp .le 11, 3) := by decide +kernel
theorem d24_14 : decode jdk_41_method_12_code 14 = .ok (.aload_n 3, 1) := by decide +kernel
theorem d24_15 : decode jdk_41_method_12_code 15 = .ok (.iload_n 0, 1) := by decide +kernel
theorem d24_16 : decode jdk_41_method_12_code 16 = .ok (.iload_n 1, 1) := by decide +kernel
theorem d24_17 : decode jdk_41_method_12_code 17 = .ok (.iload_n 2, 1) := by decide +kernel
theorem d24_18 : decode jdk_41_method_12_code 18 = .ok (.invokestatic 99, 3) := by decide +kernel
theorem d24_21 : decode jdk_41_method_12_code 21 = .ok (.athrow, 1) := by decide +kernel
theorem d24_22 : decode jdk_41_method_12_code 22 = .ok (.iload_n 0, 1) := by decide +kernel
theorem d24_23 : decode jdk_41_method_12_code 23 = .ok (.ireturn, 1) := by decide +kernel
set_option maxRecDepth 65536 in
set_option maxHeartbeats 40000000 in
theorem ctPft (l : Launch) (Z : State) (a0 : Array Value) (hw : ∀ d ∈ tables_1, d.before a0 Z = true) (hEL : EW Z a0 consts_1) (z0 : Int32) (S0 : Sta Z Z.heap "java/lang/String" "COMPACT_STRINGS" "Z" (.int z0)) (hz0 : ¬ z0 = 0) (fm : Value) (hfm : fm.isRef = true) (SF : Sta Z Z.heap "jdk/internal/util/Preconditions" "SIOOBE_FORMATTER" "Ljava/util/function/BiFunction;" fm) (i j n : Int32) (h0 : Heap) (n0 : Nat) (h1 : ¬ i < 0) (h2 : ¬ j < i) (h3 : ¬ n < j) :
    Ct l Z consts_1 [] (⟨"jdk/internal/util/Preconditions", "checkFromToIndex", "(IIILjava/util/function/BiFunction;)I"⟩ : MethodName) jdk_41_method_12_code 4 (some .int) ({ frames := 0, cells := 0, slots := 0, locals := 0 } : Room) #[(.int i), (.int j), (.int n), fm] h0 n0 [] (fun v _ => v = some (.int i)) := by
  have w : ∀ {d : Jvm.Cond} (i : Nat), tables_1[i]? = some d → d.before a0 Z = true := fun i q => hw _ (List.mem_of_getElem? q)
  refine Ct.enter (plainFor_of_name pn_0) hEL ?_
  intro p e sS m below meth c T0 hby hml0 hret hlk hnm hs0 X0
  have hml : c.maxLocals = 4 := hml0
  have D : ∀ {pc : Nat} {r : Except DecodeError (Instr × Nat)}, decode jdk_41_method_12_code pc = r → decode c.code pc = r := fun q => hb hby q
  rw [show entryFrame m #[(.int i), (.int j), (.int n), fm] 4 = mkF m 0 #[.val (.int i), .val (.int j), .val (.int n), .val fm] [] from by cases fm <;> first | rfl | (simp [Value.isRef] at hfm; done)]
  refine X0.iloadN (x := i) (D d24_0) rfl ?_
  refine X0.if_lt 14 (D d24_1) ⟨by decide, by decide⟩ (fun hc => (h1 hc).elim) (fun hn10 => ?_)
  refine X0.iloadN (x := i) (D d24_4) rfl ?_
  refine X0.iloadN (x := j) (D d24_5) rfl ?_
  refine X0.icmp_gt 14 (D d24_6) ⟨by decide, by decide⟩ (fun hc => (h2 hc).elim) (fun hn11 => ?_)
  refine X0.iloadN (x := j) (D d24_9) rfl ?_
  refine X0.iloadN (x := n) (D d24_10) rfl ?_
  refine X0.icmp_le 22 (D d24_11) ⟨by decide, by decide⟩ (fun hn12 => ?_) (fun hc => (h3 hc).elim)
  refine X0.iloadN (x := i) (D d24_22) rfl ?_
  exact X0.retI hret hlk (D d24_23) (by decide) (by decide) (rfl)
theorem d23_0 : decode jdk_42_method_158_code 0 = .ok (.iload_n 0, 1) := by decide +kernel
theorem d23_1 : decode jdk_42_method_158_code 1 = .ok (.iload_n 1, 1) := by decide +kernel
theorem d23_2 : decode jdk_42_method_158_code 2 = .ok (.iload_n 2, 1) := by decide +kernel
theorem d23_3 : decode jdk_42_method_158_code 3 = .ok (.getstatic 1053, 3) := by decide +kernel
theorem d23_6 : decode jdk_42_method_158_code 6 = .ok (.invokestatic 1062, 3) := by decide +kernel
theorem d23_9 : decode jdk_42_method_158_code 9 = .ok (.pop, 1) := by decide +kernel
theorem d23_10 : decode jdk_42_method_158_code 10 = .ok (.return_, 1) := by decide +kernel
theorem pd_1 : parseMethodDescriptor "(IIILjava/util/function/BiFunction;)I" = some ⟨[.int, .int, .int, (.object "java/util/function/BiFunction")], (some .int)⟩ := by decide +kernel
set_option maxRecDepth 65536 in
set_option maxHeartbeats 40000000 in
theorem ctCbe (l : Launch) (Z : State) (a0 : Array Value) (hw : ∀ d ∈ tables_1, d.before a0 Z = true) (hEL : EW Z a0 consts_1) (z0 : Int32) (S0 : Sta Z Z.heap "java/lang/String" "COMPACT_STRINGS" "Z" (.int z0)) (hz0 : ¬ z0 = 0) (fm : Value) (hfm : fm.isRef = true) (SF : Sta Z Z.heap "jdk/internal/util/Preconditions" "SIOOBE_FORMATTER" "Ljava/util/function/BiFunction;" fm) (i j n : Int32) (h0 : Heap) (n0 : Nat) (h1 : ¬ i < 0) (h2 : ¬ j < i) (h3 : ¬ n < j) :
    Ct l Z consts_1 [] (⟨"java/lang/String", "checkBoundsBeginEnd", "(III)V"⟩ : MethodName) jdk_42_method_158_code 3 none ({ frames := 1, cells := 0, slots := 0, locals := 15 } : Room) #[(.int i), (.int j), (.int n)] h0 n0 [] (fun v _ => v = none) := by
  have w : ∀ {d : Jvm.Cond} (i : Nat), tables_1[i]? = some d → d.before a0 Z = true := fun i q => hw _ (List.mem_of_getElem? q)
  refine Ct.enter (plainFor_of_name pn_1) hEL ?_
  intro p e sS m below meth c T0 hby hml0 hret hlk hnm hs0 X0
  have hml : c.maxLocals = 3 := hml0
  have D : ∀ {pc : Nat} {r : Except DecodeError (Instr × Nat)}, decode jdk_42_method_158_code pc = r → decode c.code pc = r := fun q => hb hby q
  rw [show entryFrame m #[(.int i), (.int j), (.int n)] 3 = mkF m 0 #[.val (.int i), .val (.int j), .val (.int n)] [] from by first | (simp [entryFrame, mkF, argsToLocals, Value.category]; done) | rfl]
  refine X0.iloadN (x := i) (D d23_0) rfl ?_
  refine X0.iloadN (x := j) (D d23_1) rfl ?_
  refine X0.iloadN (x := n) (D d23_2) rfl ?_
  refine X0.gets (w 107 rfl) Via.refl (Sta.ext X0.old.2 SF) (D d23_3) ?_
  intro T13 X14
  show Goes p.tables e below _ (T13.setTop (mkF m 6 #[.val (.int i), .val (.int j), .val (.int n)] [fm, (.int n), (.int j), (.int i)]))
  refine X14.calls [(.int i), (.int j), (.int n), fm] [] (ctPft l Z a0 hw hEL z0 S0 hz0 fm hfm SF i j n _ _ h1 h2 h3) (w 109 rfl) (w 110 rfl) (w 108 rfl) (w 111 rfl) (by decide) (fun _ q => nomatch q) (by decide) 0 (by decide) (by decide) (by decide) (lenOf pd_1 rfl) rfl (Nat.le_of_ble_eq_true rfl) (by rw [hml]; rfl) (D d23_6) ?_
  rintro T15 h16 _ X18 K19 rfl
  show Goes p.tables e below _ (T15.setTop (mkF m 9 #[.val (.int i), .val (.int j), .val (.int n)] [(.int i)]))
  refine X18.pop (D d23_9) rfl ?_
  exact X18.retn hret hlk (D d23_10) (by decide) (by decide) (rfl)
theorem d10_0 : decode jdk_42_method_152_code 0 = .ok (.getstatic 38, 3) := by decide +kernel
theorem d10_3 : decode jdk_42_method_152_code 3 = .ok (.ifCond .eq 10, 3) := by decide +kernel
theorem d10_6 : decode jdk_42_method_152_code 6 = .ok (.aload_n 0, 1) := by decide +kernel
theorem d10_7 : decode jdk_42_method_152_code 7 = .ok (.getfield 15, 3) := by decide +kernel
theorem d10_10 : decode jdk_42_method_152_code 10 = .ok (.goto 4, 3) := by decide +kernel
theorem d10_13 : decode jdk_42_method_152_code 13 = .ok (.iconst 1, 1) := by decide +kernel
theorem d10_14 : decode jdk_42_method_152_code 14 = .ok (.ireturn, 1) := by decide +kernel
set_option maxRecDepth 65536 in
set_option maxHeartbeats 40000000 in
theorem ctCdr (l : Launch) (Z : State) (a0 : Array Value) (hw : ∀ d ∈ tables_1, d.before a0 Z = true) (hEL : EW Z a0 consts_1) (z0 : Int32) (S0 : Sta Z Z.heap "java/lang/String" "COMPACT_STRINGS" "Z" (.int z0)) (hz0 : ¬ z0 = 0) (s : Addr) (h0 : Heap) (n0 : Nat) (F0 : Fld Z h0 s "java/lang/String" "coder" "B" (.int (0 : Int32))) :
    Ct l Z consts_1 [] (⟨"java/lang/String", "coder", "()B"⟩ : MethodName) jdk_42_method_152_code 1 (some .byte) ({ frames := 0, cells := 0, slots := 0, locals := 0 } : Room) #[(.ref s)] h0 n0 [] (fun v _ => v = some (.int (0 : Int32))) := by
  have w : ∀ {d : Jvm.Cond} (i : Nat), tables_1[i]? = some d → d.before a0 Z = true := fun i q => hw _ (List.mem_of_getElem? q)
  refine Ct.enter (plainFor_of_name pn_1) hEL ?_
  intro p e sS m below meth c T0 hby hml0 hret hlk hnm hs0 X0
  have hml : c.maxLocals = 1 := hml0
  have D : ∀ {pc : Nat} {r : Except DecodeError (Instr × Nat)}, decode jdk_42_method_152_code pc = r → decode c.code pc = r := fun q => hb hby q
  rw [show entryFrame m #[(.ref s)] 1 = mkF m 0 #[.val (.ref s)] [] from by first | (simp [entryFrame, mkF, argsToLocals, Value.category]; done) | rfl]
  refine X0.gets (w 48 rfl) Via.refl (Sta.ext X0.old.2 S0) (D d10_0) ?_
  intro T20 X21
  show Goes p.tables e below _ (T20.setTop (mkF m 3 #[.val (.ref s)] [(.int z0)]))
  refine X21.if_eq 13 (D d10_3) ⟨by decide, by decide⟩ (fun hc => (hz0 hc).elim) (fun hn22 => ?_)
  refine X21.aloadN (x := (.ref s)) (D d10_6) rfl rfl ?_
  refine X21.getf (w 28 rfl) Via.refl F0 (D d10_7) ?_
  intro T23 X24
  show Goes p.tables e below _ (T23.setTop (mkF m 10 #[.val (.ref s)] [(.int (0 : Int32))]))
  refine X24.goto 14 (D d10_10) ⟨by decide, by decide⟩ ?_
  exact X24.reti hret (by simp) hlk (D d10_14) (by decide) (by decide) (rfl)
theorem d8_0 : decode jdk_42_method_154_code 0 = .ok (.getstatic 38, 3) := by decide +kernel
theorem d8_3 : decode jdk_42_method_154_code 3 = .ok (.ifCond .eq 14, 3) := by decide +kernel
theorem d8_6 : decode jdk_42_method_154_code 6 = .ok (.aload_n 0, 1) := by decide +kernel
theorem d8_7 : decode jdk_42_method_154_code 7 = .ok (.getfield 15, 3) := by decide +kernel
theorem d8_10 : decode jdk_42_method_154_code 10 = .ok (.ifCond .ne 7, 3) := by decide +kernel
theorem d8_13 : decode jdk_42_method_154_code 13 = .ok (.iconst 1, 1) := by decide +kernel
theorem d8_14 : decode jdk_42_method_154_code 14 = .ok (.goto 4, 3) := by decide +kernel
theorem d8_17 : decode jdk_42_method_154_code 17 = .ok (.iconst 0, 1) := by decide +kernel
theorem d8_18 : decode jdk_42_method_154_code 18 = .ok (.ireturn, 1) := by decide +kernel
set_option maxRecDepth 65536 in
set_option maxHeartbeats 40000000 in
theorem ctIsL (l : Launch) (Z : State) (a0 : Array Value) (hw : ∀ d ∈ tables_1, d.before a0 Z = true) (hEL : EW Z a0 consts_1) (z0 : Int32) (S0 : Sta Z Z.heap "java/lang/String" "COMPACT_STRINGS" "Z" (.int z0)) (hz0 : ¬ z0 = 0) (s : Addr) (h0 : Heap) (n0 : Nat) (F0 : Fld Z h0 s "java/lang/String" "coder" "B" (.int (0 : Int32))) :
    Ct l Z consts_1 [] (⟨"java/lang/String", "isLatin1", "()Z"⟩ : MethodName) jdk_42_method_154_code 1 (some .boolean) ({ frames := 0, cells := 0, slots := 0, locals := 0 } : Room) #[(.ref s)] h0 n0 [] (fun v _ => v = some (.int (1 : Int32))) := by
  have w : ∀ {d : Jvm.Cond} (i : Nat), tables_1[i]? = some d → d.before a0 Z = true := fun i q => hw _ (List.mem_of_getElem? q)
  refine Ct.enter (plainFor_of_name pn_1) hEL ?_
  intro p e sS m below meth c T0 hby hml0 hret hlk hnm hs0 X0
  have hml : c.maxLocals = 1 := hml0
  have D : ∀ {pc : Nat} {r : Except DecodeError (Instr × Nat)}, decode jdk_42_method_154_code pc = r → decode c.code pc = r := fun q => hb hby q
  rw [show entryFrame m #[(.ref s)] 1 = mkF m 0 #[.val (.ref s)] [] from by first | (simp [entryFrame, mkF, argsToLocals, Value.category]; done) | rfl]
  refine X0.gets (w 48 rfl) Via.refl (Sta.ext X0.old.2 S0) (D d8_0) ?_
  intro T25 X26
  show Goes p.tables e below _ (T25.setTop (mkF m 3 #[.val (.ref s)] [(.int z0)]))
  refine X26.if_eq 17 (D d8_3) ⟨by decide, by decide⟩ (fun hc => (hz0 hc).elim) (fun hn27 => ?_)
  refine X26.aloadN (x := (.ref s)) (D d8_6) rfl rfl ?_
  refine X26.getf (w 28 rfl) Via.refl F0 (D d8_7) ?_
  intro T28 X29
  show Goes p.tables e below _ (T28.setTop (mkF m 10 #[.val (.ref s)] [(.int (0 : Int32))]))
  refine X29.if_ne 17 (D d8_10) ⟨by decide, by decide⟩ (fun hc30 => absurd hc30 (by decide)) (fun hc30 => ?_)
  refine X29.iconst (x := (1 : Int32)) (D d8_13) rfl ?_
  refine X29.goto 18 (D d8_14) ⟨by decide, by decide⟩ ?_
  exact X29.reti hret (by simp) hlk (D d8_18) (by decide) (by decide) (rfl)
theorem d9_0 : decode jdk_42_method_54_code 0 = .ok (.aload_n 0, 1) := by decide +kernel
theorem d9_1 : decode jdk_42_method_54_code 1 = .ok (.getfield 9, 3) := by decide +kernel
theorem d9_4 : decode jdk_42_method_54_code 4 = .ok (.arraylength, 1) := by decide +kernel
theorem d9_5 : decode jdk_42_method_54_code 5 = .ok (.aload_n 0, 1) := by decide +kernel
theorem d9_6 : decode jdk_42_method_54_code 6 = .ok (.invokevirtual 335, 3) := by decide +kernel
theorem d9_9 : decode jdk_42_method_54_code 9 = .ok (.ishr, 1) := by decide +kernel
theorem d9_10 : decode jdk_42_method_54_code 10 = .ok (.ireturn, 1) := by decide +kernel
theorem pd_2 : parseMethodDescriptor "()B" = some ⟨[], (some .byte)⟩ := by decide +kernel
set_option maxRecDepth 65536 in
set_option maxHeartbeats 40000000 in
theorem ctLen (l : Launch) (Z : State) (a0 : Array Value) (hw : ∀ d ∈ tables_1, d.before a0 Z = true) (hEL : EW Z a0 consts_1) (z0 : Int32) (S0 : Sta Z Z.heap "java/lang/String" "COMPACT_STRINGS" "Z" (.int z0)) (hz0 : ¬ z0 = 0) (s t : Addr) (cs : List Int32) (h0 : Heap) (n0 : Nat) (OS : OStr Z h0 s t cs) :
    Ct l Z consts_1 [] (⟨"java/lang/String", "length", "()I"⟩ : MethodName) jdk_42_method_54_code 1 (some .int) ({ frames := 1, cells := 0, slots := 0, locals := 13 } : Room) #[(.ref s)] h0 n0 [] (fun v _ => v = some (.int (Int32.ofNat cs.length))) := by
  have w : ∀ {d : Jvm.Cond} (i : Nat), tables_1[i]? = some d → d.before a0 Z = true := fun i q => hw _ (List.mem_of_getElem? q)
  refine Ct.enter (plainFor_of_name pn_1) hEL ?_
  intro p e sS m below meth c T0 hby hml0 hret hlk hnm hs0 X0
  have hml : c.maxLocals = 1 := hml0
  have D : ∀ {pc : Nat} {r : Except DecodeError (Instr × Nat)}, decode jdk_42_method_54_code pc = r → decode c.code pc = r := fun q => hb hby q
  rw [show entryFrame m #[(.ref s)] 1 = mkF m 0 #[.val (.ref s)] [] from by first | (simp [entryFrame, mkF, argsToLocals, Value.category]; done) | rfl]
  obtain ⟨F31, hp32, hl33, kb34, F35, F36, F37⟩ := id OS
  refine X0.aloadN (x := (.ref s)) (D d9_0) rfl rfl ?_
  refine X0.getf (w 27 rfl) Via.refl F35 (D d9_1) ?_
  intro T38 X39
  show Goes p.tables e below _ (T38.setTop (mkF m 4 #[.val (.ref s)] [(.ref t)]))
  refine X39.alen F37 (D d9_4) ?_
  refine X39.aloadN (x := (.ref s)) (D d9_5) rfl rfl ?_
  refine X39.callv (y := (⟨"java/lang/String", "coder", "()B"⟩ : MethodName)) (a := s) (C := "java/lang/String") [] [(.int (Int32.ofNat cs.length))] (ctCdr l Z a0 hw hEL z0 S0 hz0 s _ _ F36) F31 (w 54 rfl) (w 55 rfl) (w 57 rfl) (w 56 rfl) (w 7 rfl) (w 58 rfl) (by decide) (fun _ q => nomatch q) (by decide) 1 (by decide) (by decide) (by decide) (lenOf pd_2 rfl) rfl (Nat.le_of_ble_eq_true rfl) (by rw [hml]; rfl) (D d9_6) ?_
  rintro T40 h41 _ X43 K44 rfl
  have F45 := F31.keep K44
  have F46 := F35.keep K44 nin0
  have F47 := F36.keep K44 nin0
  have F48 := F37.keep K44 nin0
  show Goes p.tables e below _ (T40.setTop (mkF m 9 #[.val (.ref s)] [(.int (0 : Int32)), (.int (Int32.ofNat cs.length))]))
  refine X43.ishr (D d9_9) ?_
  exact X43.retI hret hlk (D d9_10) (by decide) (by decide) (congrArg (fun z => some (Value.int z)) (StrChars.shr0 _))
theorem d37_0 : decode jdk_65_method_131_code 0 = .ok (.iload_n 1, 1) := by decide +kernel
theorem d37_1 : decode jdk_65_method_131_code 1 = .ok (.iload_n 0, 1) := by decide +kernel
theorem d37_2 : decode jdk_65_method_131_code 2 = .ok (.if_icmp .ge 35, 3) := by decide +kernel
theorem d37_5 : decode jdk_65_method_131_code 5 = .ok (.new 43, 3) := by decide +kernel
theorem d37_8 : decode jdk_65_method_131_code 8 = .ok (.dup, 1) := by decide +kernel
theorem d37_9 : decode jdk_65_method_131_code 9 = .ok (.new 45, 3) := by decide +kernel
theorem d37_12 : decode jdk_65_method_131_code 12 = .ok (.dup, 1) := by decide +kernel
theorem d37_13 : decode jdk_65_method_131_code 13 = .ok (.invokespecial 47, 3) := by decide +kernel
theorem d37_16 : decode jdk_65_method_131_code 16 = .ok (.iload_n 0, 1) := by decide +kernel
theorem d37_17 : decode jdk_65_method_131_code 17 = .ok (.invokevirtual 54, 3) := by decide +kernel
theorem d37_20 : decode jdk_65_method_131_code 20 = .ok (.ldc_w 337, 3) := by decide +kernel
theorem d37_23 : decode jdk_65_method_131_code 23 = .ok (.invokevirtual 50, 3) := by decide +kernel
theorem d37_26 : decode jdk_65_method_131_code 26 = .ok (.iload_n 1, 1) := by decide +kernel
theorem d37_27 : decode jdk_65_method_131_code 27 = .ok (.invokevirtual 54, 3) := by decide +kernel
theorem d37_30 : decode jdk_65_method_131_code 30 = .ok (.invokevirtual 61, 3) := by decide +kernel
theorem d37_33 : decode jdk_65_method_131_code 33 = .ok (.invokespecial 65, 3) := by decide +kernel
theorem d37_36 : decode jdk_65_method_131_code 36 = .ok (.athrow, 1) := by decide +kernel
theorem d37_37 : decode jdk_65_method_131_code 37 = .ok (.return_, 1) := by decide +kernel
theorem pn_2 : plainName "java/util/Arrays" = true := by first | (simp [plainName, overriddenIn]; done) | decide +kernel
set_option maxRecDepth 65536 in
set_option maxHeartbeats 40000000 in
theorem ctChk (l : Launch) (Z : State) (a0 : Array Value) (hw : ∀ d ∈ tables_1, d.before a0 Z = true) (hEL : EW Z a0 consts_1) (z0 : Int32) (S0 : Sta Z Z.heap "java/lang/String" "COMPACT_STRINGS" "Z" (.int z0)) (hz0 : ¬ z0 = 0) (i j : Int32) (h0 : Heap) (n0 : Nat) (h1 : ¬ j < i) :
    Ct l Z consts_1 [] (⟨"java/util/Arrays", "checkLength", "(II)V"⟩ : MethodName) jdk_65_method_131_code 2 none ({ frames := 0, cells := 0, slots := 0, locals := 0 } : Room) #[(.int i), (.int j)] h0 n0 [] (fun v _ => v = none) := by
  have w : ∀ {d : Jvm.Cond} (i : Nat), tables_1[i]? = some d → d.before a0 Z = true := fun i q => hw _ (List.mem_of_getElem? q)
  refine Ct.enter (plainFor_of_name pn_2) hEL ?_
  intro p e sS m below meth c T0 hby hml0 hret hlk hnm hs0 X0
  have hml : c.maxLocals = 2 := hml0
  have D : ∀ {pc : Nat} {r : Except DecodeError (Instr × Nat)}, decode jdk_65_method_131_code pc = r → decode c.code pc = r := fun q => hb hby q
  rw [show entryFrame m #[(.int i), (.int j)] 2 = mkF m 0 #[.val (.int i), .val (.int j)] [] from by first | (simp [entryFrame, mkF, argsToLocals, Value.category]; done) | rfl]
  refine X0.iloadN (x := j) (D d37_0) rfl ?_
  refine X0.iloadN (x := i) (D d37_1) rfl ?_
  refine X0.icmp_ge 37 (D d37_2) ⟨by decide, by decide⟩ (fun hn49 => ?_) (fun hc => (h1 hc).elim)
  exact X0.retn hret hlk (D d37_37) (by decide) (by decide) (rfl)
theorem d14_0 : decode jdk_29_method_69_code 0 = .ok (.iload_n 0, 1) := by decide +kernel
theorem d14_1 : decode jdk_29_method_69_code 1 = .ok (.iload_n 1, 1) := by decide +kernel
theorem d14_2 : decode jdk_29_method_69_code 2 = .ok (.if_icmp .gt 7, 3) := by decide +kernel
theorem d14_5 : decode jdk_29_method_69_code 5 = .ok (.iload_n 0, 1) := by decide +kernel
theorem d14_6 : decode jdk_29_method_69_code 6 = .ok (.goto 4, 3) := by decide +kernel
theorem d14_9 : decode jdk_29_method_69_code 9 = .ok (.iload_n 1, 1) := by decide +kernel
theorem d14_10 : decode jdk_29_method_69_code 10 = .ok (.ireturn, 1) := by decide +kernel
set_option maxRecDepth 65536 in
set_option maxHeartbeats 40000000 in
theorem ctMin (l : Launch) (Z : State) (a0 : Array Value) (hw : ∀ d ∈ tables_1, d.before a0 Z = true) (hEL : EW Z a0 consts_1) (z0 : Int32) (S0 : Sta Z Z.heap "java/lang/String" "COMPACT_STRINGS" "Z" (.int z0)) (hz0 : ¬ z0 = 0) (i j : Int32) (h0 : Heap) (n0 : Nat)  :
    Ct l Z consts_1 [] (⟨"java/lang/Math", "min", "(II)I"⟩ : MethodName) jdk_29_method_69_code 2 (some .int) ({ frames := 0, cells := 0, slots := 0, locals := 0 } : Room) #[(.int i), (.int j)] h0 n0 [] (fun v _ => v = some (.int (if j < i then j else i))) := by
  have w : ∀ {d : Jvm.Cond} (i : Nat), tables_1[i]? = some d → d.before a0 Z = true := fun i q => hw _ (List.mem_of_getElem? q)
  refine Ct.enter (Jvm.Free.JP.mathPlain rfl (by decide)) hEL ?_
  intro p e sS m below meth c T0 hby hml0 hret hlk hnm hs0 X0
  have hml : c.maxLocals = 2 := hml0
  have D : ∀ {pc : Nat} {r : Except DecodeError (Instr × Nat)}, decode jdk_29_method_69_code pc = r → decode c.code pc = r := fun q => hb hby q
  rw [show entryFrame m #[(.int i), (.int j)] 2 = mkF m 0 #[.val (.int i), .val (.int j)] [] from by first | (simp [entryFrame, mkF, argsToLocals, Value.category]; done) | rfl]
  refine X0.iloadN (x := i) (D d14_0) rfl ?_
  refine X0.iloadN (x := j) (D d14_1) rfl ?_
  refine X0.icmp_gt 9 (D d14_2) ⟨by decide, by decide⟩ (fun hc50 => ?_) (fun hc50 => ?_)
  · show Goes p.tables e below _ (T0.setTop (mkF m 9 #[.val (.int i), .val (.int j)] []))
    refine X0.iloadN (x := j) (D d14_9) rfl ?_
    exact X0.retI hret hlk (D d14_10) (by decide) (by decide) (by rw [if_pos hc50])
  · show Goes p.tables e below _ (T0.setTop (mkF m 5 #[.val (.int i), .val (.int j)] []))
    refine X0.iloadN (x := i) (D d14_5) rfl ?_
    refine X0.goto 10 (D d14_6) ⟨by decide, by decide⟩ ?_
    exact X0.retI hret hlk (D d14_10) (by decide) (by decide) (by rw [if_neg hc50])
theorem d13_0 : decode jdk_29_method_65_code 0 = .ok (.iload_n 0, 1) := by decide +kernel
theorem d13_1 : decode jdk_29_method_65_code 1 = .ok (.iload_n 1, 1) := by decide +kernel
theorem d13_2 : decode jdk_29_method_65_code 2 = .ok (.if_icmp .lt 7, 3) := by decide +kernel
theorem d13_5 : decode jdk_29_method_65_code 5 = .ok (.iload_n 0, 1) := by decide +kernel
theorem d13_6 : decode jdk_29_method_65_code 6 = .ok (.goto 4, 3) := by decide +kernel
theorem d13_9 : decode jdk_29_method_65_code 9 = .ok (.iload_n 1, 1) := by decide +kernel
theorem d13_10 : decode jdk_29_method_65_code 10 = .ok (.ireturn, 1) := by decide +kernel
set_option maxRecDepth 65536 in
set_option maxHeartbeats 40000000 in
theorem ctMax (l : Launch) (Z : State) (a0 : Array Value) (hw : ∀ d ∈ tables_1, d.before a0 Z = true) (hEL : EW Z a0 consts_1) (z0 : Int32) (S0 : Sta Z Z.heap "java/lang/String" "COMPACT_STRINGS" "Z" (.int z0)) (hz0 : ¬ z0 = 0)  (h0 : Heap) (n0 : Nat)  :
    Ct l Z consts_1 [] (⟨"java/lang/Math", "max", "(II)I"⟩ : MethodName) jdk_29_method_65_code 2 (some .int) ({ frames := 0, cells := 0, slots := 0, locals := 0 } : Room) #[(.int (0 : Int32)), (.int (0 : Int32))] h0 n0 [] (fun v _ => v = some (.int (0 : Int32))) := by
  have w : ∀ {d : Jvm.Cond} (i : Nat), tables_1[i]? = some d → d.before a0 Z = true := fun i q => hw _ (List.mem_of_getElem? q)
  refine Ct.enter (Jvm.Free.JP.mathPlain rfl (by decide)) hEL ?_
  intro p e sS m below meth c T0 hby hml0 hret hlk hnm hs0 X0
  have hml : c.maxLocals = 2 := hml0
  have D : ∀ {pc : Nat} {r : Except DecodeError (Instr × Nat)}, decode jdk_29_method_65_code pc = r → decode c.code pc = r := fun q => hb hby q
  rw [show entryFrame m #[(.int (0 : Int32)), (.int (0 : Int32))] 2 = mkF m 0 #[.val (.int (0 : Int32)), .val (.int (0 : Int32))] [] from by first | (simp [entryFrame, mkF, argsToLocals, Value.category]; done) | rfl]
  refine X0.iloadN (x := (0 : Int32)) (D d13_0) rfl ?_
  refine X0.iloadN (x := (0 : Int32)) (D d13_1) rfl ?_
  refine X0.icmp_lt 9 (D d13_2) ⟨by decide, by decide⟩ (fun hc51 => absurd hc51 (by decide)) (fun hc51 => ?_)
  refine X0.iloadN (x := (0 : Int32)) (D d13_5) rfl ?_
  refine X0.goto 10 (D d13_6) ⟨by decide, by decide⟩ ?_
  exact X0.retI hret hlk (D d13_10) (by decide) (by decide) (rfl)
theorem d12_0 : decode jdk_43_method_4_code 0 = .ok (.iload_n 0, 1) := by decide +kernel
theorem d12_1 : decode jdk_43_method_4_code 1 = .ok (.ifCond .lt 14, 3) := by decide +kernel
theorem d12_4 : decode jdk_43_method_4_code 4 = .ok (.iload_n 0, 1) := by decide +kernel
theorem d12_5 : decode jdk_43_method_4_code 5 = .ok (.sipush 255, 3) := by decide +kernel
theorem d12_8 : decode jdk_43_method_4_code 8 = .ok (.if_icmp .gt 7, 3) := by decide +kernel
theorem d12_11 : decode jdk_43_method_4_code 11 = .ok (.iconst 1, 1) := by decide +kernel
theorem d12_12 : decode jdk_43_method_4_code 12 = .ok (.goto 4, 3) := by decide +kernel
theorem d12_15 : decode jdk_43_method_4_code 15 = .ok (.iconst 0, 1) := by decide +kernel
theorem d12_16 : decode jdk_43_method_4_code 16 = .ok (.ireturn, 1) := by decide +kernel
theorem pn_3 : plainName "java/lang/StringLatin1" = true := by first | (simp [plainName, overriddenIn]; done) | decide +kernel
set_option maxRecDepth 65536 in
set_option maxHeartbeats 40000000 in
theorem ctCE (l : Launch) (Z : State) (a0 : Array Value) (hw : ∀ d ∈ tables_1, d.before a0 Z = true) (hEL : EW Z a0 consts_1) (z0 : Int32) (S0 : Sta Z Z.heap "java/lang/String" "COMPACT_STRINGS" "Z" (.int z0)) (hz0 : ¬ z0 = 0)  (h0 : Heap) (n0 : Nat)  :
    Ct l Z consts_1 [] (⟨"java/lang/StringLatin1", "canEncode", "(I)Z"⟩ : MethodName) jdk_43_method_4_code 1 (some .boolean) ({ frames := 0, cells := 0, slots := 0, locals := 0 } : Room) #[(.int (10 : Int32))] h0 n0 [] (fun v _ => v = some (.int (1 : Int32))) := by
  have w : ∀ {d : Jvm.Cond} (i : Nat), tables_1[i]? = some d → d.before a0 Z = true := fun i q => hw _ (List.mem_of_getElem? q)
  refine Ct.enter (plainFor_of_name pn_3) hEL ?_
  intro p e sS m below meth c T0 hby hml0 hret hlk hnm hs0 X0
  have hml : c.maxLocals = 1 := hml0
  have D : ∀ {pc : Nat} {r : Except DecodeError (Instr × Nat)}, decode jdk_43_method_4_code pc = r → decode c.code pc = r := fun q => hb hby q
  rw [show entryFrame m #[(.int (10 : Int32))] 1 = mkF m 0 #[.val (.int (10 : Int32))] [] from by first | (simp [entryFrame, mkF, argsToLocals, Value.category]; done) | rfl]
  refine X0.iloadN (x := (10 : Int32)) (D d12_0) rfl ?_
  refine X0.if_lt 15 (D d12_1) ⟨by decide, by decide⟩ (fun hc52 => absurd hc52 (by decide)) (fun hc52 => ?_)
  refine X0.iloadN (x := (10 : Int32)) (D d12_4) rfl ?_
  refine X0.sipush (x := (255 : Int32)) (D d12_5) rfl ?_
  refine X0.icmp_gt 15 (D d12_8) ⟨by decide, by decide⟩ (fun hc53 => absurd hc53 (by decide)) (fun hc53 => ?_)
  refine X0.iconst (x := (1 : Int32)) (D d12_11) rfl ?_
  refine X0.goto 16 (D d12_12) ⟨by decide, by decide⟩ ?_
  exact X0.reti hret (by simp) hlk (D d12_16) (by decide) (by decide) (rfl)
theorem d36_0 : decode jdk_65_method_133_code 0 = .ok (.iload_n 1, 1) := by decide +kernel
theorem d36_1 : decode jdk_65_method_133_code 1 = .ok (.iload_n 2, 1) := by decide +kernel
theorem d36_2 : decode jdk_65_method_133_code 2 = .ok (.invokestatic 343, 3) := by decide +kernel
theorem d36_5 : decode jdk_65_method_133_code 5 = .ok (.iload_n 2, 1) := by decide +kernel
theorem d36_6 : decode jdk_65_method_133_code 6 = .ok (.iload_n 1, 1) := by decide +kernel
theorem d36_7 : decode jdk_65_method_133_code 7 = .ok (.isub, 1) := by decide +kernel
theorem d36_8 : decode jdk_65_method_133_code 8 = .ok (.istore_n 3, 1) := by decide +kernel
theorem d36_9 : decode jdk_65_method_133_code 9 = .ok (.iload_n 3, 1) := by decide +kernel
theorem d36_10 : decode jdk_65_method_133_code 10 = .ok (.newarray .byte, 2) := by decide +kernel
theorem d36_12 : decode jdk_65_method_133_code 12 = .ok (.astore 4, 2) := by decide +kernel
theorem d36_14 : decode jdk_65_method_133_code 14 = .ok (.aload_n 0, 1) := by decide +kernel
theorem d36_15 : decode jdk_65_method_133_code 15 = .ok (.iload_n 1, 1) := by decide +kernel
theorem d36_16 : decode jdk_65_method_133_code 16 = .ok (.aload 4, 2) := by decide +kernel
theorem d36_18 : decode jdk_65_method_133_code 18 = .ok (.iconst 0, 1) := by decide +kernel
theorem d36_19 : decode jdk_65_method_133_code 19 = .ok (.aload_n 0, 1) := by decide +kernel
theorem d36_20 : decode jdk_65_method_133_code 20 = .ok (.arraylength, 1) := by decide +kernel
theorem d36_21 : decode jdk_65_method_133_code 21 = .ok (.iload_n 1, 1) := by decide +kernel
theorem d36_22 : decode jdk_65_method_133_code 22 = .ok (.isub, 1) := by decide +kernel
theorem d36_23 : decode jdk_65_method_133_code 23 = .ok (.iload_n 3, 1) := by decide +kernel
theorem d36_24 : decode jdk_65_method_133_code 24 = .ok (.invokestatic 304, 3) := by decide +kernel
theorem d36_27 : decode jdk_65_method_133_code 27 = .ok (.invokestatic 150, 3) := by decide +kernel
theorem d36_30 : decode jdk_65_method_133_code 30 = .ok (.aload 4, 2) := by decide +kernel
theorem d36_32 : decode jdk_65_method_133_code 32 = .ok (.areturn, 1) := by decide +kernel
theorem pd_3 : parseMethodDescriptor "(II)V" = some ⟨[.int, .int], none⟩ := by decide +kernel
theorem pd_4 : parseMethodDescriptor "(II)I" = some ⟨[.int, .int], (some .int)⟩ := by decide +kernel
set_option maxRecDepth 65536 in
set_option maxHeartbeats 40000000 in
theorem ctRB (l : Launch) (Z : State) (a0 : Array Value) (hw : ∀ d ∈ tables_1, d.before a0 Z = true) (hEL : EW Z a0 consts_1) (z0 : Int32) (S0 : Sta Z Z.heap "java/lang/String" "COMPACT_STRINGS" "Z" (.int z0)) (hz0 : ¬ z0 = 0) (t : Addr) (kt : ClassId) (vs xs : List Value) (LO K N : Nat) (h0 : Heap) (n0 : Nat) (AT : Arv Z h0 t kt .byte (Int32.ofNat N) vs (.int 0)) (hxs : xs = (List.range K).map fun i => vs.getD (LO + i) (.int 0)) (hK : LO + K ≤ N) (hN : N ≤ 4000) (hK8 : K ≤ 8) :
    Ct l Z consts_1 [] (⟨"java/util/Arrays", "copyOfRangeByte", "([BII)[B"⟩ : MethodName) jdk_65_method_133_code 5 (some (.array .byte)) ({ frames := 1, cells := 1, slots := 8, locals := 18 } : Room) #[(.ref t), (.int (Int32.ofNat LO)), (.int (Int32.ofNat (LO + K)))] h0 n0 [] (fun v h => ∃ (r : Addr) (kr : ClassId), v = some (.ref r) ∧ Arv Z h r kr .byte (Int32.ofNat K) xs (.int 0)) := by
  have w : ∀ {d : Jvm.Cond} (i : Nat), tables_1[i]? = some d → d.before a0 Z = true := fun i q => hw _ (List.mem_of_getElem? q)
  refine Ct.enter (plainFor_of_name pn_2) hEL ?_
  intro p e sS m below meth c T0 hby hml0 hret hlk hnm hs0 X0
  have hml : c.maxLocals = 5 := hml0
  have D : ∀ {pc : Nat} {r : Except DecodeError (Instr × Nat)}, decode jdk_65_method_133_code pc = r → decode c.code pc = r := fun q => hb hby q
  rw [show entryFrame m #[(.ref t), (.int (Int32.ofNat LO)), (.int (Int32.ofNat (LO + K)))] 5 = mkF m 0 #[.val (.ref t), .val (.int (Int32.ofNat LO)), .val (.int (Int32.ofNat (LO + K))), .unset, .unset] [] from by first | (simp [entryFrame, mkF, argsToLocals, Value.category]; done) | rfl]
  refine X0.iloadN (x := (Int32.ofNat LO)) (D d36_0) rfl ?_
  refine X0.iloadN (x := (Int32.ofNat (LO + K))) (D d36_1) rfl ?_
  refine X0.calls [(.int (Int32.ofNat LO)), (.int (Int32.ofNat (LO + K)))] [] (ctChk l Z a0 hw hEL z0 S0 hz0 (Int32.ofNat LO) (Int32.ofNat (LO + K)) _ _ (fun q => by rw [o32lt (by omega) (by omega)] at q; omega)) (w 159 rfl) (w 160 rfl) (w 154 rfl) (w 161 rfl) (by decide) (fun _ q => nomatch q) (by decide) 0 (by decide) (by decide) (by decide) (lenOf pd_3 rfl) rfl (Nat.le_of_ble_eq_true rfl) (by rw [hml]; rfl) (D d36_2) ?_
  rintro T54 h55 _ X57 K58 rfl
  have F59 := AT.keep K58 nin0
  show Goes p.tables e below _ (T54.setTop (mkF m 5 #[.val (.ref t), .val (.int (Int32.ofNat LO)), .val (.int (Int32.ofNat (LO + K))), .unset, .unset] []))
  refine X57.iloadN (x := (Int32.ofNat (LO + K))) (D d36_5) rfl ?_
  refine X57.iloadN (x := (Int32.ofNat LO)) (D d36_6) rfl ?_
  refine X57.isub (D d36_7) ?_
  show Goes p.tables e below _ (T54.setTop (mkF m 8 #[.val (.ref t), .val (.int (Int32.ofNat LO)), .val (.int (Int32.ofNat (LO + K))), .unset, .unset] [(.int ((Int32.ofNat (LO + K)) - (Int32.ofNat LO)))]))
  rw [show Int32.ofNat (LO + K) - Int32.ofNat LO = Int32.ofNat K from by rw [← Int32.ofNat_sub _ _ (by omega)]; congr 1; omega]
  show Goes p.tables e below _ (T54.setTop (mkF m 8 #[.val (.ref t), .val (.int (Int32.ofNat LO)), .val (.int (Int32.ofNat (LO + K))), .unset, .unset] [(.int (Int32.ofNat K))]))
  refine X57.istoreN #[.val (.ref t), .val (.int (Int32.ofNat LO)), .val (.int (Int32.ofNat (LO + K))), .val (.int (Int32.ofNat K)), .unset] (D d36_8) rfl ?_
  refine X57.iloadN (x := (Int32.ofNat K)) (D d36_9) rfl ?_
  show Goes p.tables e below _ (T54.setTop (mkF m 10 #[.val (.ref t), .val (.int (Int32.ofNat LO)), .val (.int (Int32.ofNat (LO + K))), .val (.int (Int32.ofNat K)), .unset] [(.int (Int32.ofNat K))]))
  refine X57.newarr (w 22 rfl) (n := Int32.ofNat K) (D d36_10) (o32neg (by omega)) 8 (by rw [o32tn (by omega)]; exact hK8) (by decide) (by decide) (by decide) ?_
  intro T60 h61 b62 kb63 g64 X65 E66 A67
  have F68 := F59.ext E66
  have lt69 : t < b62 := by rw [g64]; exact F59.lt
  have F70 : Arv Z h61 b62 kb63 .byte (Int32.ofNat K) (List.replicate K (.int 0)) (.int 0) := A67.pad (pad_rep [] (.int 0) K)
  show Goes p.tables e below _ (T60.setTop (mkF m 12 #[.val (.ref t), .val (.int (Int32.ofNat LO)), .val (.int (Int32.ofNat (LO + K))), .val (.int (Int32.ofNat K)), .unset] [(.ref b62)]))
  refine X65.astore #[.val (.ref t), .val (.int (Int32.ofNat LO)), .val (.int (Int32.ofNat (LO + K))), .val (.int (Int32.ofNat K)), .val (.ref b62)] (D d36_12) rfl rfl ?_
  refine X65.aloadN (x := (.ref t)) (D d36_14) rfl rfl ?_
  refine X65.iloadN (x := (Int32.ofNat LO)) (D d36_15) rfl ?_
  refine X65.aload (x := (.ref b62)) (D d36_16) rfl rfl ?_
  refine X65.iconst (x := (0 : Int32)) (D d36_18) rfl ?_
  refine X65.aloadN (x := (.ref t)) (D d36_19) rfl rfl ?_
  refine X65.alen F68 (D d36_20) ?_
  refine X65.iloadN (x := (Int32.ofNat LO)) (D d36_21) rfl ?_
  refine X65.isub (D d36_22) ?_
  refine X65.iloadN (x := (Int32.ofNat K)) (D d36_23) rfl ?_
  refine X65.calls [(.int ((Int32.ofNat N) - (Int32.ofNat LO))), (.int (Int32.ofNat K))] [(.int (0 : Int32)), (.ref b62), (.int (Int32.ofNat LO)), (.ref t)] (ctMin l Z a0 hw hEL z0 S0 hz0 (Int32.ofNat N - Int32.ofNat LO) (Int32.ofNat K) _ _) (w 162 rfl) (w 71 rfl) (w 68 rfl) (w 72 rfl) (by decide) (fun _ q => nomatch q) (by decide) 4 (by decide) (by decide) (by decide) (lenOf pd_4 rfl) rfl (Nat.le_of_ble_eq_true rfl) (by rw [hml]; rfl) (D d36_24) ?_
  rintro T71 h72 _ X74 K75 rfl
  have F76 := F68.keep K75 nin0
  have F77 := F70.keep K75 nin0
  show Goes p.tables e below _ (T71.setTop (mkF m 27 #[.val (.ref t), .val (.int (Int32.ofNat LO)), .val (.int (Int32.ofNat (LO + K))), .val (.int (Int32.ofNat K)), .val (.ref b62)] [(.int (if Int32.ofNat K < Int32.ofNat N - Int32.ofNat LO then Int32.ofNat K else Int32.ofNat N - Int32.ofNat LO)), (.int (0 : Int32)), (.ref b62), (.int (Int32.ofNat LO)), (.ref t)]))
  rw [min32 hK hN]
  show Goes p.tables e below _ (T71.setTop (mkF m 27 #[.val (.ref t), .val (.int (Int32.ofNat LO)), .val (.int (Int32.ofNat (LO + K))), .val (.int (Int32.ofNat K)), .val (.ref b62)] [(.int (Int32.ofNat K)), (.int (0 : Int32)), (.ref b62), (.int (Int32.ofNat LO)), (.ref t)]))
  refine X74.acopy (us := xs) (w 163 rfl) (w 166 rfl) (w 164 rfl) (w 165 rfl) F76 F77 (o32neg (by omega)) (by decide) (o32neg (by omega)) (by rw [o32tn (by omega), o32tn (by omega), o32tn (by omega)]; exact hK) (by rw [o32tn (by omega), show (0 : Int32).toNatClampNeg = 0 from rfl]; omega) (by rw [o32tn (by omega), o32tn (by omega)]; exact hxs) (by rw [o32tn (by omega), show (0 : Int32).toNatClampNeg = 0 from rfl]; simp) (by simp) (by rw [hml]; rfl) (D d36_27) (by decide) 0 (Nat.le_of_ble_eq_true rfl) (by decide) ?_
  intro T78 h79 X80 K81 B82
  rw [o32tn (by omega), cut0] at B82
  show Goes p.tables e below _ (T78.setTop (mkF m 30 #[.val (.ref t), .val (.int (Int32.ofNat LO)), .val (.int (Int32.ofNat (LO + K))), .val (.int (Int32.ofNat K)), .val (.ref b62)] []))
  refine X80.aload (x := (.ref b62)) (D d36_30) rfl rfl ?_
  exact X80.retA hret rfl rfl hlk (D d36_32) (by decide) (by decide) (⟨_, _, rfl, B82⟩)
theorem d35_0 : decode jdk_65_method_132_code 0 = .ok (.iload_n 1, 1) := by decide +kernel
theorem d35_1 : decode jdk_65_method_132_code 1 = .ok (.ifCond .ne 9, 3) := by decide +kernel
theorem d35_4 : decode jdk_65_method_132_code 4 = .ok (.iload_n 2, 1) := by decide +kernel
theorem d35_5 : decode jdk_65_method_132_code 5 = .ok (.aload_n 0, 1) := by decide +kernel
theorem d35_6 : decode jdk_65_method_132_code 6 = .ok (.arraylength, 1) := by decide +kernel
theorem d35_7 : decode jdk_65_method_132_code 7 = .ok (.if_icmp .eq 10, 3) := by decide +kernel
theorem d35_10 : decode jdk_65_method_132_code 10 = .ok (.aload_n 0, 1) := by decide +kernel
theorem d35_11 : decode jdk_65_method_132_code 11 = .ok (.iload_n 1, 1) := by decide +kernel
theorem d35_12 : decode jdk_65_method_132_code 12 = .ok (.iload_n 2, 1) := by decide +kernel
theorem d35_13 : decode jdk_65_method_132_code 13 = .ok (.invokestatic 339, 3) := by decide +kernel
theorem d35_16 : decode jdk_65_method_132_code 16 = .ok (.areturn, 1) := by decide +kernel
theorem d35_17 : decode jdk_65_method_132_code 17 = .ok (.aload_n 0, 1) := by decide +kernel
theorem d35_18 : decode jdk_65_method_132_code 18 = .ok (.invokevirtual 310, 3) := by decide +kernel
theorem d35_21 : decode jdk_65_method_132_code 21 = .ok (.checkcast 311, 3) := by decide +kernel
theorem d35_24 : decode jdk_65_method_132_code 24 = .ok (.areturn, 1) := by decide +kernel
theorem pd_5 : parseMethodDescriptor "([BII)[B" = some ⟨[(.array .byte), .int, .int], (some (.array .byte))⟩ := by decide +kernel
set_option maxRecDepth 65536 in
set_option maxHeartbeats 40000000 in
theorem ctCR (l : Launch) (Z : State) (a0 : Array Value) (hw : ∀ d ∈ tables_1, d.before a0 Z = true) (hEL : EW Z a0 consts_1) (z0 : Int32) (S0 : Sta Z Z.heap "java/lang/String" "COMPACT_STRINGS" "Z" (.int z0)) (hz0 : ¬ z0 = 0) (t : Addr) (kt : ClassId) (vs xs : List Value) (LO K N : Nat) (h0 : Heap) (n0 : Nat) (AT : Arv Z h0 t kt .byte (Int32.ofNat N) vs (.int 0)) (hxs : xs = (List.range K).map fun i => vs.getD (LO + i) (.int 0)) (hK : LO + K ≤ N) (hN : N ≤ 4000) (hK8 : K ≤ 8) (hne : ¬ (LO = 0 ∧ K = N)) :
    Ct l Z consts_1 [] (⟨"java/util/Arrays", "copyOfRange", "([BII)[B"⟩ : MethodName) jdk_65_method_132_code 3 (some (.array .byte)) ({ frames := 2, cells := 1, slots := 8, locals := 34 } : Room) #[(.ref t), (.int (Int32.ofNat LO)), (.int (Int32.ofNat (LO + K)))] h0 n0 [] (fun v h => ∃ (r : Addr) (kr : ClassId), v = some (.ref r) ∧ Arv Z h r kr .byte (Int32.ofNat K) xs (.int 0)) := by
  have w : ∀ {d : Jvm.Cond} (i : Nat), tables_1[i]? = some d → d.before a0 Z = true := fun i q => hw _ (List.mem_of_getElem? q)
  refine Ct.enter (plainFor_of_name pn_2) hEL ?_
  intro p e sS m below meth c T0 hby hml0 hret hlk hnm hs0 X0
  have hml : c.maxLocals = 3 := hml0
  have D : ∀ {pc : Nat} {r : Except DecodeError (Instr × Nat)}, decode jdk_65_method_132_code pc = r → decode c.code pc = r := fun q => hb hby q
  rw [show entryFrame m #[(.ref t), (.int (Int32.ofNat LO)), (.int (Int32.ofNat (LO + K)))] 3 = mkF m 0 #[.val (.ref t), .val (.int (Int32.ofNat LO)), .val (.int (Int32.ofNat (LO + K)))] [] from by first | (simp [entryFrame, mkF, argsToLocals, Value.category]; done) | rfl]
  refine X0.iloadN (x := (Int32.ofNat LO)) (D d35_0) rfl ?_
  refine X0.if_ne 10 (D d35_1) ⟨by decide, by decide⟩ (fun hc83 => ?_) (fun hc83 => ?_)
  · show Goes p.tables e below _ (T0.setTop (mkF m 10 #[.val (.ref t), .val (.int (Int32.ofNat LO)), .val (.int (Int32.ofNat (LO + K)))] []))
    refine X0.aloadN (x := (.ref t)) (D d35_10) rfl rfl ?_
    refine X0.iloadN (x := (Int32.ofNat LO)) (D d35_11) rfl ?_
    refine X0.iloadN (x := (Int32.ofNat (LO + K))) (D d35_12) rfl ?_
    refine X0.calls [(.ref t), (.int (Int32.ofNat LO)), (.int (Int32.ofNat (LO + K)))] [] (ctRB l Z a0 hw hEL z0 S0 hz0 t kt vs xs LO K N _ _ AT hxs hK hN hK8) (w 156 rfl) (w 157 rfl) (w 154 rfl) (w 158 rfl) (by decide) (fun _ q => nomatch q) (by decide) 0 (by decide) (by decide) (by decide) (lenOf pd_5 rfl) rfl (Nat.le_of_ble_eq_true rfl) (by rw [hml]; rfl) (D d35_13) ?_
    rintro T85 h86 _ X88 K89 ⟨r, kr, rfl, A9⟩
    have F90 := AT.keep K89 nin0
    show Goes p.tables e below _ (T85.setTop (mkF m 16 #[.val (.ref t), .val (.int (Int32.ofNat LO)), .val (.int (Int32.ofNat (LO + K)))] [(.ref r)]))
    exact X88.retA hret rfl rfl hlk (D d35_16) (by decide) (by decide) (⟨r, kr, rfl, A9⟩)
  · show Goes p.tables e below _ (T0.setTop (mkF m 4 #[.val (.ref t), .val (.int (Int32.ofNat LO)), .val (.int (Int32.ofNat (LO + K)))] []))
    refine X0.iloadN (x := (Int32.ofNat (LO + K))) (D d35_4) rfl ?_
    refine X0.aloadN (x := (.ref t)) (D d35_5) rfl rfl ?_
    refine X0.alen AT (D d35_6) ?_
    refine X0.icmp_eq 17 (D d35_7) ⟨by decide, by decide⟩ (fun hc => (hne ⟨(o32z (by omega)).mp hc83, by have q := (o32eq (by omega) (by omega)).mp hc; have q2 := (o32z (by omega)).mp hc83; omega⟩).elim) (fun hn84 => ?_)
    refine X0.aloadN (x := (.ref t)) (D d35_10) rfl rfl ?_
    refine X0.iloadN (x := (Int32.ofNat LO)) (D d35_11) rfl ?_
    refine X0.iloadN (x := (Int32.ofNat (LO + K))) (D d35_12) rfl ?_
    refine X0.calls [(.ref t), (.int (Int32.ofNat LO)), (.int (Int32.ofNat (LO + K)))] [] (ctRB l Z a0 hw hEL z0 S0 hz0 t kt vs xs LO K N _ _ AT hxs hK hN hK8) (w 156 rfl) (w 157 rfl) (w 154 rfl) (w 158 rfl) (by decide) (fun _ q => nomatch q) (by decide) 0 (by decide) (by decide) (by decide) (lenOf pd_5 rfl) rfl (Nat.le_of_ble_eq_true rfl) (by rw [hml]; rfl) (D d35_13) ?_
    rintro T91 h92 _ X94 K95 ⟨r, kr, rfl, A9⟩
    have F96 := AT.keep K95 nin0
    show Goes p.tables e below _ (T91.setTop (mkF m 16 #[.val (.ref t), .val (.int (Int32.ofNat LO)), .val (.int (Int32.ofNat (LO + K)))] [(.ref r)]))
    exact X94.retA hret rfl rfl hlk (D d35_16) (by decide) (by decide) (⟨r, kr, rfl, A9⟩)
theorem d38_0 : decode jdk_42_method_151_code 0 = .ok (.aload_n 0, 1) := by decide +kernel
theorem d38_1 : decode jdk_42_method_151_code 1 = .ok (.invokespecial 1, 3) := by decide +kernel
theorem d38_4 : decode jdk_42_method_151_code 4 = .ok (.aload_n 0, 1) := by decide +kernel
theorem d38_5 : decode jdk_42_method_151_code 5 = .ok (.aload_n 1, 1) := by decide +kernel
theorem d38_6 : decode jdk_42_method_151_code 6 = .ok (.putfield 9, 3) := by decide +kernel
theorem d38_9 : decode jdk_42_method_151_code 9 = .ok (.aload_n 0, 1) := by decide +kernel
theorem d38_10 : decode jdk_42_method_151_code 10 = .ok (.iload_n 2, 1) := by decide +kernel
theorem d38_11 : decode jdk_42_method_151_code 11 = .ok (.putfield 15, 3) := by decide +kernel
theorem d38_14 : decode jdk_42_method_151_code 14 = .ok (.return_, 1) := by decide +kernel
set_option maxRecDepth 65536 in
set_option maxHeartbeats 40000000 in
theorem ctBB (l : Launch) (Z : State) (a0 : Array Value) (hw : ∀ d ∈ tables_1, d.before a0 Z = true) (hEL : EW Z a0 consts_1) (z0 : Int32) (S0 : Sta Z Z.heap "java/lang/String" "COMPACT_STRINGS" "Z" (.int z0)) (hz0 : ¬ z0 = 0) (a b : Addr) (h0 : Heap) (n0 : Nat) (E0 : Exa Z h0 a "java/lang/String") (F0 : Fld Z h0 a "java/lang/String" "value" "[B" .null) (F1 : Fld Z h0 a "java/lang/String" "coder" "B" (.int (0 : Int32))) :
    Ct l Z consts_1 [] (⟨"java/lang/String", "<init>", "([BB)V"⟩ : MethodName) jdk_42_method_151_code 3 none ({ frames := 1, cells := 0, slots := 0, locals := 12 } : Room) #[(.ref a), (.ref b), (.int (0 : Int32))] h0 n0 [a] (fun v h => v = none ∧ Exa Z h a "java/lang/String" ∧ Fld Z h a "java/lang/String" "value" "[B" (.ref b) ∧ Fld Z h a "java/lang/String" "coder" "B" (.int (0 : Int32))) := by
  have w : ∀ {d : Jvm.Cond} (i : Nat), tables_1[i]? = some d → d.before a0 Z = true := fun i q => hw _ (List.mem_of_getElem? q)
  refine Ct.enter (plainFor_of_name pn_1) hEL ?_
  intro p e sS m below meth c T0 hby hml0 hret hlk hnm hs0 X0
  have hml : c.maxLocals = 3 := hml0
  have D : ∀ {pc : Nat} {r : Except DecodeError (Instr × Nat)}, decode jdk_42_method_151_code pc = r → decode c.code pc = r := fun q => hb hby q
  rw [show entryFrame m #[(.ref a), (.ref b), (.int (0 : Int32))] 3 = mkF m 0 #[.val (.ref a), .val (.ref b), .val (.int (0 : Int32))] [] from by first | (simp [entryFrame, mkF, argsToLocals, Value.category]; done) | rfl]
  refine X0.aloadN (x := (.ref a)) (D d38_0) rfl rfl ?_
  refine X0.inito (w 18 rfl) (w 19 rfl) (w 20 rfl) (D d38_1) (by rw [hml]; rfl) (by decide) 0 (Nat.le_of_ble_eq_true rfl) (by decide) ?_
  intro T97 X98
  show Goes p.tables e below _ (T97.setTop (mkF m 4 #[.val (.ref a), .val (.ref b), .val (.int (0 : Int32))] []))
  refine X98.aloadN (x := (.ref a)) (D d38_4) rfl rfl ?_
  refine X98.aloadN (x := (.ref b)) (D d38_5) rfl rfl ?_
  refine X98.putf (w 27 rfl) Via.refl F0 E0 (Or.inr ⟨(w 23 rfl), rfl, hnm⟩) (w 6 rfl) (ty := (.array .byte)) (by decide) rfl rfl (D d38_6) (by simp) ?_
  intro T99 h100 X101 W102
  have F103 := F0.same W102
  have F104 := E0.wr W102
  have F105 := F1.other W102 (Or.inr (slot_ne (t := .byte) (t' := (.array .byte)) (Or.inr (w 24 rfl)) (Or.inr (w 23 rfl)) (by decide) (by decide) (by decide)))
  show Goes p.tables e below _ (T99.setTop (mkF m 9 #[.val (.ref a), .val (.ref b), .val (.int (0 : Int32))] []))
  refine X101.aloadN (x := (.ref a)) (D d38_9) rfl rfl ?_
  refine X101.iloadN (x := (0 : Int32)) (D d38_10) rfl ?_
  refine X101.putf (w 28 rfl) Via.refl F105 F104 (Or.inr ⟨(w 24 rfl), rfl, hnm⟩) (w 6 rfl) (ty := .byte) (by decide) rfl rfl (D d38_11) (by simp) ?_
  intro T106 h107 X108 W109
  have F110 := F105.same W109
  have F111 := F104.wr W109
  have F112 := F103.other W109 (Or.inr (slot_ne (t := (.array .byte)) (t' := .byte) (Or.inr (w 23 rfl)) (Or.inr (w 24 rfl)) (by decide) (by decide) (by decide)))
  show Goes p.tables e below _ (T106.setTop (mkF m 14 #[.val (.ref a), .val (.ref b), .val (.int (0 : Int32))] []))
  exact X108.retn hret hlk (D d38_14) (by decide) (by decide) (⟨rfl, F111, F112, F110⟩)
theorem d25_0 : decode jdk_43_method_47_code 0 = .ok (.iload_n 2, 1) := by decide +kernel
theorem d25_1 : decode jdk_43_method_47_code 1 = .ok (.ifCond .ne 6, 3) := by decide +kernel
theorem d25_4 : decode jdk_43_method_47_code 4 = .ok (.ldc 151, 2) := by decide +kernel
theorem d25_6 : decode jdk_43_method_47_code 6 = .ok (.areturn, 1) := by decide +kernel
theorem d25_7 : decode jdk_43_method_47_code 7 = .ok (.new 1, 3) := by decide +kernel
theorem d25_10 : decode jdk_43_method_47_code 10 = .ok (.dup, 1) := by decide +kernel
theorem d25_11 : decode jdk_43_method_47_code 11 = .ok (.aload_n 0, 1) := by decide +kernel
theorem d25_12 : decode jdk_43_method_47_code 12 = .ok (.iload_n 1, 1) := by decide +kernel
theorem d25_13 : decode jdk_43_method_47_code 13 = .ok (.iload_n 1, 1) := by decide +kernel
theorem d25_14 : decode jdk_43_method_47_code 14 = .ok (.iload_n 2, 1) := by decide +kernel
theorem d25_15 : decode jdk_43_method_47_code 15 = .ok (.iadd, 1) := by decide +kernel
theorem d25_16 : decode jdk_43_method_47_code 16 = .ok (.invokestatic 232, 3) := by decide +kernel
theorem d25_19 : decode jdk_43_method_47_code 19 = .ok (.iconst 0, 1) := by decide +kernel
theorem d25_20 : decode jdk_43_method_47_code 20 = .ok (.invokespecial 112, 3) := by decide +kernel
theorem d25_23 : decode jdk_43_method_47_code 23 = .ok (.areturn, 1) := by decide +kernel
theorem pd_6 : parseMethodDescriptor "([BB)V" = some ⟨[(.array .byte), .byte], none⟩ := by decide +kernel
set_option maxRecDepth 65536 in
set_option maxHeartbeats 40000000 in
theorem ctNS (l : Launch) (Z : State) (a0 : Array Value) (hw : ∀ d ∈ tables_1, d.before a0 Z = true) (hEL : EW Z a0 consts_1) (z0 : Int32) (S0 : Sta Z Z.heap "java/lang/String" "COMPACT_STRINGS" "Z" (.int z0)) (hz0 : ¬ z0 = 0) (t : Addr) (kt : ClassId) (vs : List Value) (ds : List Int32) (LO K N : Nat) (h0 : Heap) (n0 : Nat) (AT : Arv Z h0 t kt .byte (Int32.ofNat N) vs (.int 0)) (hxs : ((ds.map StrChars.lo8).map Value.int) = (List.range K).map fun i => vs.getD (LO + i) (.int 0)) (hK : LO + K ≤ N) (hN : N ≤ 4000) (hK8 : K ≤ 8) (hne : ¬ (LO = 0 ∧ K = N)) (h0K : 0 < K) (hlen : ds.length = K) (hp : ∀ c ∈ ds, ¬ c < 0 ∧ ¬ (255 : Int32) < c) :
    Ct l Z consts_1 [] (⟨"java/lang/StringLatin1", "newString", "([BII)Ljava/lang/String;"⟩ : MethodName) jdk_43_method_47_code 3 (some (.object "java/lang/String")) ({ frames := 3, cells := 2, slots := 12, locals := 50 } : Room) #[(.ref t), (.int (Int32.ofNat LO)), (.int (Int32.ofNat K))] h0 n0 [] (fun v h => ∃ s t : Addr, v = some (.ref s) ∧ OStr Z h s t ds) := by
  have w : ∀ {d : Jvm.Cond} (i : Nat), tables_1[i]? = some d → d.before a0 Z = true := fun i q => hw _ (List.mem_of_getElem? q)
  refine Ct.enter (plainFor_of_name pn_3) hEL ?_
  intro p e sS m below meth c T0 hby hml0 hret hlk hnm hs0 X0
  have hml : c.maxLocals = 3 := hml0
  have D : ∀ {pc : Nat} {r : Except DecodeError (Instr × Nat)}, decode jdk_43_method_47_code pc = r → decode c.code pc = r := fun q => hb hby q
  rw [show entryFrame m #[(.ref t), (.int (Int32.ofNat LO)), (.int (Int32.ofNat K))] 3 = mkF m 0 #[.val (.ref t), .val (.int (Int32.ofNat LO)), .val (.int (Int32.ofNat K))] [] from by first | (simp [entryFrame, mkF, argsToLocals, Value.category]; done) | rfl]
  refine X0.iloadN (x := (Int32.ofNat K)) (D d25_0) rfl ?_
  refine X0.if_ne 7 (D d25_1) ⟨by decide, by decide⟩ (fun hn113 => ?_) (fun hc => ((Nat.ne_of_gt h0K) ((o32z (by omega)).mp hc)).elim)
  refine X0.new (w 151 rfl) (w 6 rfl) (w 7 rfl) (D d25_7) (by decide) (by decide) ?_
  intro T114 h115 b116 g117 X118 E119 A120 D121 U122
  have F123 := AT.ext E119
  have lt124 : t < b116 := by rw [g117]; exact AT.lt
  have F125 : Fld Z h115 b116 "java/lang/String" "value" "[B" .null := D121 (Or.inr (w 23 rfl)) (ty := (.array .byte)) (by decide)
  have F126 : Fld Z h115 b116 "java/lang/String" "coder" "B" (.int (0 : Int32)) := D121 (Or.inr (w 24 rfl)) (ty := .byte) (by decide)
  show Goes p.tables e below _ (T114.setTop (mkF m 10 #[.val (.ref t), .val (.int (Int32.ofNat LO)), .val (.int (Int32.ofNat K))] [(.ref b116)]))
  refine X118.dup (D d25_10) rfl ?_
  refine X118.aloadN (x := (.ref t)) (D d25_11) rfl rfl ?_
  refine X118.iloadN (x := (Int32.ofNat LO)) (D d25_12) rfl ?_
  refine X118.iloadN (x := (Int32.ofNat LO)) (D d25_13) rfl ?_
  refine X118.iloadN (x := (Int32.ofNat K)) (D d25_14) rfl ?_
  refine X118.iadd (D d25_15) ?_
  show Goes p.tables e below _ (T114.setTop (mkF m 16 #[.val (.ref t), .val (.int (Int32.ofNat LO)), .val (.int (Int32.ofNat K))] [(.int ((Int32.ofNat LO) + (Int32.ofNat K))), (.int (Int32.ofNat LO)), (.ref t), (.ref b116), (.ref b116)]))
  rw [← Int32.ofNat_add]
  show Goes p.tables e below _ (T114.setTop (mkF m 16 #[.val (.ref t), .val (.int (Int32.ofNat LO)), .val (.int (Int32.ofNat K))] [(.int (Int32.ofNat (LO + K))), (.int (Int32.ofNat LO)), (.ref t), (.ref b116), (.ref b116)]))
  refine X118.calls [(.ref t), (.int (Int32.ofNat LO)), (.int (Int32.ofNat (LO + K)))] [(.ref b116), (.ref b116)] (ctCR l Z a0 hw hEL z0 S0 hz0 t kt vs _ LO K N _ _ F123 hxs hK hN hK8 hne) (w 152 rfl) (w 153 rfl) (w 154 rfl) (w 155 rfl) (by decide) (fun _ q => nomatch q) (by decide) 2 (by decide) (by decide) (by decide) (lenOf pd_5 rfl) rfl (Nat.le_of_ble_eq_true rfl) (by rw [hml]; rfl) (D d25_16) ?_
  rintro T127 h128 _ X130 K131 ⟨r, kr, rfl, A9⟩
  have F132 := F123.keep K131 nin0
  have F133 := A120.keep K131
  have F134 := F125.keep K131 nin0
  have F135 := F126.keep K131 nin0
  show Goes p.tables e below _ (T127.setTop (mkF m 19 #[.val (.ref t), .val (.int (Int32.ofNat LO)), .val (.int (Int32.ofNat K))] [(.ref r), (.ref b116), (.ref b116)]))
  refine X130.iconst (x := (0 : Int32)) (D d25_19) rfl ?_
  refine X130.callc (a := b116) [(.ref r), (.int (0 : Int32))] [(.ref b116)] (ctBB l Z a0 hw hEL z0 S0 hz0 b116 r _ _ F133 F134 F135) rfl (w 167 rfl) (w 168 rfl) (w 7 rfl) (w 169 rfl) (by decide) (by simp) (by decide) 1 (by decide) (by decide) (by decide) (lenOf pd_6 rfl) rfl (Nat.le_of_ble_eq_true rfl) (by rw [hml]; rfl) (D d25_20) ?_
  rintro T136 h137 _ X139 K140 ⟨rfl, G1, G2, G3⟩
  have F141 := F132.keep K140 (ninS (Nat.ne_of_lt lt124) nin0)
  have F142 := F133.keep K140
  have F143 := A9.keep K140 (ninS (Exa.neArv F133 A9 (w 6 rfl)).symm nin0)
  show Goes p.tables e below _ (T136.setTop (mkF m 23 #[.val (.ref t), .val (.int (Int32.ofNat LO)), .val (.int (Int32.ofNat K))] [(.ref b116)]))
  exact X139.retA hret rfl rfl hlk (D d25_23) (by decide) (by decide) (⟨_, r, rfl, OStr.mk G1 G2 G3 (by rw [hlen]; exact F143) hp (by omega)⟩)
set_option maxRecDepth 65536 in
set_option maxHeartbeats 40000000 in
theorem ctNS0 (l : Launch) (Z : State) (a0 : Array Value) (hw : ∀ d ∈ tables_1, d.before a0 Z = true) (hEL : EW Z a0 consts_1) (z0 : Int32) (S0 : Sta Z Z.heap "java/lang/String" "COMPACT_STRINGS" "Z" (.int z0)) (hz0 : ¬ z0 = 0) (t : Addr) (i : Int32) (h0 : Heap) (n0 : Nat)  :
    Ct l Z consts_1 [] (⟨"java/lang/StringLatin1", "newString", "([BII)Ljava/lang/String;"⟩ : MethodName) jdk_43_method_47_code 3 (some (.object "java/lang/String")) ({ frames := 0, cells := 2, slots := 4, locals := 0 } : Room) #[(.ref t), (.int i), (.int (0 : Int32))] h0 n0 [] (fun v h => ∃ s t : Addr, v = some (.ref s) ∧ OStr Z h s t []) := by
  have w : ∀ {d : Jvm.Cond} (i : Nat), tables_1[i]? = some d → d.before a0 Z = true := fun i q => hw _ (List.mem_of_getElem? q)
  refine Ct.enter (plainFor_of_name pn_3) hEL ?_
  intro p e sS m below meth c T0 hby hml0 hret hlk hnm hs0 X0
  have hml : c.maxLocals = 3 := hml0
  have D : ∀ {pc : Nat} {r : Except DecodeError (Instr × Nat)}, decode jdk_43_method_47_code pc = r → decode c.code pc = r := fun q => hb hby q
  rw [show entryFrame m #[(.ref t), (.int i), (.int (0 : Int32))] 3 = mkF m 0 #[.val (.ref t), .val (.int i), .val (.int (0 : Int32))] [] from by first | (simp [entryFrame, mkF, argsToLocals, Value.category]; done) | rfl]
  refine X0.iloadN (x := (0 : Int32)) (D d25_0) rfl ?_
  refine X0.if_ne 7 (D d25_1) ⟨by decide, by decide⟩ (fun hc144 => absurd hc144 (by decide)) (fun hc144 => ?_)
  refine X0.ldcS (w 84 rfl) (fun d q => hw d (hwS d q)) (by decide) (vs := []) (z := (0 : Int32)) ⟨by decide, by decide⟩ (by decide) rfl (D d25_4) 0 (by decide) (by decide) (by decide) (by decide) ?_
  intro T145 h146 a147 b148 kb149 X150 E151 F152 F153 F154 F155 ne156
  show Goes p.tables e below _ (T145.setTop (mkF m 6 #[.val (.ref t), .val (.int i), .val (.int (0 : Int32))] [(.ref a147)]))
  have O157 : OStr Z h146 a147 b148 [] := OStr.mk (cs := []) F152 F154 F153 F155 hp0 (by decide)
  exact X150.retA hret rfl rfl hlk (D d25_6) (by decide) (by decide) (⟨_, _, rfl, O157⟩)
theorem d22_0 : decode jdk_42_method_92_code 0 = .ok (.aload_n 0, 1) := by decide +kernel
theorem d22_1 : decode jdk_42_method_92_code 1 = .ok (.invokevirtual 505, 3) := by decide +kernel
theorem d22_4 : decode jdk_42_method_92_code 4 = .ok (.istore_n 3, 1) := by decide +kernel
theorem d22_5 : decode jdk_42_method_92_code 5 = .ok (.iload_n 1, 1) := by decide +kernel
theorem d22_6 : decode jdk_42_method_92_code 6 = .ok (.iload_n 2, 1) := by decide +kernel
theorem d22_7 : decode jdk_42_method_92_code 7 = .ok (.iload_n 3, 1) := by decide +kernel
theorem d22_8 : decode jdk_42_method_92_code 8 = .ok (.invokestatic 521, 3) := by decide +kernel
theorem d22_11 : decode jdk_42_method_92_code 11 = .ok (.iload_n 1, 1) := by decide +kernel
theorem d22_12 : decode jdk_42_method_92_code 12 = .ok (.ifCond .ne 10, 3) := by decide +kernel
theorem d22_15 : decode jdk_42_method_92_code 15 = .ok (.iload_n 2, 1) := by decide +kernel
theorem d22_16 : decode jdk_42_method_92_code 16 = .ok (.iload_n 3, 1) := by decide +kernel
theorem d22_17 : decode jdk_42_method_92_code 17 = .ok (.if_icmp .ne 5, 3) := by decide +kernel
theorem d22_20 : decode jdk_42_method_92_code 20 = .ok (.aload_n 0, 1) := by decide +kernel
theorem d22_21 : decode jdk_42_method_92_code 21 = .ok (.areturn, 1) := by decide +kernel
theorem d22_22 : decode jdk_42_method_92_code 22 = .ok (.iload_n 2, 1) := by decide +kernel
theorem d22_23 : decode jdk_42_method_92_code 23 = .ok (.iload_n 1, 1) := by decide +kernel
theorem d22_24 : decode jdk_42_method_92_code 24 = .ok (.isub, 1) := by decide +kernel
theorem d22_25 : decode jdk_42_method_92_code 25 = .ok (.istore 4, 2) := by decide +kernel
theorem d22_27 : decode jdk_42_method_92_code 27 = .ok (.aload_n 0, 1) := by decide +kernel
theorem d22_28 : decode jdk_42_method_92_code 28 = .ok (.invokevirtual 492, 3) := by decide +kernel
theorem d22_31 : decode jdk_42_method_92_code 31 = .ok (.ifCond .eq 16, 3) := by decide +kernel
theorem d22_34 : decode jdk_42_method_92_code 34 = .ok (.aload_n 0, 1) := by decide +kernel
theorem d22_35 : decode jdk_42_method_92_code 35 = .ok (.getfield 9, 3) := by decide +kernel
theorem d22_38 : decode jdk_42_method_92_code 38 = .ok (.iload_n 1, 1) := by decide +kernel
theorem d22_39 : decode jdk_42_method_92_code 39 = .ok (.iload 4, 2) := by decide +kernel
theorem d22_41 : decode jdk_42_method_92_code 41 = .ok (.invokestatic 685, 3) := by decide +kernel
theorem d22_44 : decode jdk_42_method_92_code 44 = .ok (.goto 13, 3) := by decide +kernel
theorem d22_47 : decode jdk_42_method_92_code 47 = .ok (.aload_n 0, 1) := by decide +kernel
theorem d22_48 : decode jdk_42_method_92_code 48 = .ok (.getfield 9, 3) := by decide +kernel
theorem d22_51 : decode jdk_42_method_92_code 51 = .ok (.iload_n 1, 1) := by decide +kernel
theorem d22_52 : decode jdk_42_method_92_code 52 = .ok (.iload 4, 2) := by decide +kernel
theorem d22_54 : decode jdk_42_method_92_code 54 = .ok (.invokestatic 689, 3) := by decide +kernel
theorem d22_57 : decode jdk_42_method_92_code 57 = .ok (.areturn, 1) := by decide +kernel
theorem pd_7 : parseMethodDescriptor "()I" = some ⟨[], (some .int)⟩ := by decide +kernel
theorem pd_8 : parseMethodDescriptor "(III)V" = some ⟨[.int, .int, .int], none⟩ := by decide +kernel
theorem pd_9 : parseMethodDescriptor "()Z" = some ⟨[], (some .boolean)⟩ := by decide +kernel
theorem pd_10 : parseMethodDescriptor "([BII)Ljava/lang/String;" = some ⟨[(.array .byte), .int, .int], (some (.object "java/lang/String"))⟩ := by decide +kernel
set_option maxRecDepth 65536 in
set_option maxHeartbeats 40000000 in
theorem ctSub (l : Launch) (Z : State) (a0 : Array Value) (hw : ∀ d ∈ tables_1, d.before a0 Z = true) (hEL : EW Z a0 consts_1) (z0 : Int32) (S0 : Sta Z Z.heap "java/lang/String" "COMPACT_STRINGS" "Z" (.int z0)) (hz0 : ¬ z0 = 0) (fm : Value) (hfm : fm.isRef = true) (SF : Sta Z Z.heap "jdk/internal/util/Preconditions" "SIOOBE_FORMATTER" "Ljava/util/function/BiFunction;" fm) (s t : Addr) (cs : List Int32) (I : Nat) (h0 : Heap) (n0 : Nat) (OS : OStr Z h0 s t cs) (hl : cs.length ≤ 5) (h0I : 0 < I) (h1 : I < cs.length) :
    Ct l Z consts_1 [] (⟨"java/lang/String", "substring", "(II)Ljava/lang/String;"⟩ : MethodName) jdk_42_method_92_code 5 (some (.object "java/lang/String")) ({ frames := 4, cells := 2, slots := 12, locals := 64 } : Room) #[(.ref s), (.int (0 : Int32)), (.int (Int32.ofNat I))] h0 n0 [] (fun v h => ∃ s t : Addr, v = some (.ref s) ∧ OStr Z h s t (cs.take I)) := by
  have w : ∀ {d : Jvm.Cond} (i : Nat), tables_1[i]? = some d → d.before a0 Z = true := fun i q => hw _ (List.mem_of_getElem? q)
  refine Ct.enter (plainFor_of_name pn_1) hEL ?_
  intro p e sS m below meth c T0 hby hml0 hret hlk hnm hs0 X0
  have hml : c.maxLocals = 5 := hml0
  have D : ∀ {pc : Nat} {r : Except DecodeError (Instr × Nat)}, decode jdk_42_method_92_code pc = r → decode c.code pc = r := fun q => hb hby q
  rw [show entryFrame m #[(.ref s), (.int (0 : Int32)), (.int (Int32.ofNat I))] 5 = mkF m 0 #[.val (.ref s), .val (.int (0 : Int32)), .val (.int (Int32.ofNat I)), .unset, .unset] [] from by first | (simp [entryFrame, mkF, argsToLocals, Value.category]; done) | rfl]
  refine X0.aloadN (x := (.ref s)) (D d22_0) rfl rfl ?_
  refine X0.callv (y := (⟨"java/lang/String", "length", "()I"⟩ : MethodName)) (a := s) (C := "java/lang/String") [] [] (ctLen l Z a0 hw hEL z0 S0 hz0 s t cs _ _ OS) OS.1 (w 49 rfl) (w 50 rfl) (w 52 rfl) (w 51 rfl) (w 7 rfl) (w 53 rfl) (by decide) (fun _ q => nomatch q) (by decide) 0 (by decide) (by decide) (by decide) (lenOf pd_7 rfl) rfl (Nat.le_of_ble_eq_true rfl) (by rw [hml]; rfl) (D d22_1) ?_
  rintro T158 h159 _ X161 K162 rfl
  have F163 := OS.keep K162 nin0 nin0
  show Goes p.tables e below _ (T158.setTop (mkF m 4 #[.val (.ref s), .val (.int (0 : Int32)), .val (.int (Int32.ofNat I)), .unset, .unset] [(.int (Int32.ofNat cs.length))]))
  refine X161.istoreN #[.val (.ref s), .val (.int (0 : Int32)), .val (.int (Int32.ofNat I)), .val (.int (Int32.ofNat cs.length)), .unset] (D d22_4) rfl ?_
  refine X161.iloadN (x := (0 : Int32)) (D d22_5) rfl ?_
  refine X161.iloadN (x := (Int32.ofNat I)) (D d22_6) rfl ?_
  refine X161.iloadN (x := (Int32.ofNat cs.length)) (D d22_7) rfl ?_
  refine X161.calls [(.int (0 : Int32)), (.int (Int32.ofNat I)), (.int (Int32.ofNat cs.length))] [] (ctCbe l Z a0 hw hEL z0 S0 hz0 fm hfm SF (0 : Int32) (Int32.ofNat I) (Int32.ofNat cs.length) _ _ (by decide) (o32neg (by omega)) (fun q => by have q2 := (o32lt (a := cs.length) (b := I) (by omega) (by omega)).mp q; omega)) (w 104 rfl) (w 105 rfl) (w 7 rfl) (w 106 rfl) (by decide) (fun _ q => nomatch q) (by decide) 0 (by decide) (by decide) (by decide) (lenOf pd_8 rfl) rfl (Nat.le_of_ble_eq_true rfl) (by rw [hml]; rfl) (D d22_8) ?_
  rintro T164 h165 _ X167 K168 rfl
  have F169 := F163.keep K168 nin0 nin0
  show Goes p.tables e below _ (T164.setTop (mkF m 11 #[.val (.ref s), .val (.int (0 : Int32)), .val (.int (Int32.ofNat I)), .val (.int (Int32.ofNat cs.length)), .unset] []))
  refine X167.iloadN (x := (0 : Int32)) (D d22_11) rfl ?_
  refine X167.if_ne 22 (D d22_12) ⟨by decide, by decide⟩ (fun hc170 => absurd hc170 (by decide)) (fun hc170 => ?_)
  refine X167.iloadN (x := (Int32.ofNat I)) (D d22_15) rfl ?_
  refine X167.iloadN (x := (Int32.ofNat cs.length)) (D d22_16) rfl ?_
  refine X167.icmp_ne 22 (D d22_17) ⟨by decide, by decide⟩ (fun hn171 => ?_) (fun hc => ((show ¬ I = cs.length from by omega) ((o32eq (a := I) (by omega) (by omega)).mp hc)).elim)
  refine X167.iloadN (x := (Int32.ofNat I)) (D d22_22) rfl ?_
  refine X167.iloadN (x := (0 : Int32)) (D d22_23) rfl ?_
  refine X167.isub (D d22_24) ?_
  show Goes p.tables e below _ (T164.setTop (mkF m 25 #[.val (.ref s), .val (.int (0 : Int32)), .val (.int (Int32.ofNat I)), .val (.int (Int32.ofNat cs.length)), .unset] [(.int ((Int32.ofNat I) - (0 : Int32)))]))
  rw [show Int32.ofNat I - (0 : Int32) = Int32.ofNat I from by simp]
  show Goes p.tables e below _ (T164.setTop (mkF m 25 #[.val (.ref s), .val (.int (0 : Int32)), .val (.int (Int32.ofNat I)), .val (.int (Int32.ofNat cs.length)), .unset] [(.int (Int32.ofNat I))]))
  refine X167.istore #[.val (.ref s), .val (.int (0 : Int32)), .val (.int (Int32.ofNat I)), .val (.int (Int32.ofNat cs.length)), .val (.int (Int32.ofNat I))] (D d22_25) rfl ?_
  refine X167.aloadN (x := (.ref s)) (D d22_27) rfl rfl ?_
  obtain ⟨F172, hp173, hl174, kb175, F176, F177, F178⟩ := id F169
  refine X167.callv (y := (⟨"java/lang/String", "isLatin1", "()Z"⟩ : MethodName)) (a := s) (C := "java/lang/String") [] [] (ctIsL l Z a0 hw hEL z0 S0 hz0 s _ _ F177) F172 (w 43 rfl) (w 44 rfl) (w 46 rfl) (w 45 rfl) (w 7 rfl) (w 47 rfl) (by decide) (fun _ q => nomatch q) (by decide) 0 (by decide) (by decide) (by decide) (lenOf pd_9 rfl) rfl (Nat.le_of_ble_eq_true rfl) (by rw [hml]; rfl) (D d22_28) ?_
  rintro T179 h180 _ X182 K183 rfl
  have F184 := F169.keep K183 nin0 nin0
  have F185 := F172.keep K183
  have F186 := F176.keep K183 nin0
  have F187 := F177.keep K183 nin0
  have F188 := F178.keep K183 nin0
  show Goes p.tables e below _ (T179.setTop (mkF m 31 #[.val (.ref s), .val (.int (0 : Int32)), .val (.int (Int32.ofNat I)), .val (.int (Int32.ofNat cs.length)), .val (.int (Int32.ofNat I))] [(.int (1 : Int32))]))
  refine X182.if_eq 47 (D d22_31) ⟨by decide, by decide⟩ (fun hc189 => absurd hc189 (by decide)) (fun hc189 => ?_)
  refine X182.aloadN (x := (.ref s)) (D d22_34) rfl rfl ?_
  refine X182.getf (w 27 rfl) Via.refl F186 (D d22_35) ?_
  intro T190 X191
  show Goes p.tables e below _ (T190.setTop (mkF m 38 #[.val (.ref s), .val (.int (0 : Int32)), .val (.int (Int32.ofNat I)), .val (.int (Int32.ofNat cs.length)), .val (.int (Int32.ofNat I))] [(.ref t)]))
  refine X191.iloadN (x := (0 : Int32)) (D d22_38) rfl ?_
  refine X191.iload (x := (Int32.ofNat I)) (D d22_39) rfl ?_
  refine X191.calls [(.ref t), (.int (0 : Int32)), (.int (Int32.ofNat I))] [] (ctNS l Z a0 hw hEL z0 S0 hz0 t _ _ (cs.take I) 0 I cs.length _ _ F188 (slice (LO := 0) (by omega)) (by omega) (by omega) (by omega) (by omega) h0I (by simp; omega) (fun c q => hp173 c (List.mem_of_mem_take q))) (w 112 rfl) (w 113 rfl) (w 61 rfl) (w 114 rfl) (by decide) (fun _ q => nomatch q) (by decide) 0 (by decide) (by decide) (by decide) (lenOf pd_10 rfl) rfl (Nat.le_of_ble_eq_true rfl) (by rw [hml]; rfl) (D d22_41) ?_
  rintro T192 h193 _ X195 K196 ⟨r, tr, rfl, O9⟩
  have F197 := F184.keep K196 nin0 nin0
  have F198 := F185.keep K196
  have F199 := F186.keep K196 nin0
  have F200 := F187.keep K196 nin0
  have F201 := F188.keep K196 nin0
  show Goes p.tables e below _ (T192.setTop (mkF m 44 #[.val (.ref s), .val (.int (0 : Int32)), .val (.int (Int32.ofNat I)), .val (.int (Int32.ofNat cs.length)), .val (.int (Int32.ofNat I))] [(.ref r)]))
  refine X195.goto 57 (D d22_44) ⟨by decide, by decide⟩ ?_
  exact X195.retA hret rfl rfl hlk (D d22_57) (by decide) (by decide) (⟨r, tr, rfl, O9⟩)
set_option maxRecDepth 65536 in
set_option maxHeartbeats 40000000 in
theorem ctSub0 (l : Launch) (Z : State) (a0 : Array Value) (hw : ∀ d ∈ tables_1, d.before a0 Z = true) (hEL : EW Z a0 consts_1) (z0 : Int32) (S0 : Sta Z Z.heap "java/lang/String" "COMPACT_STRINGS" "Z" (.int z0)) (hz0 : ¬ z0 = 0) (fm : Value) (hfm : fm.isRef = true) (SF : Sta Z Z.heap "jdk/internal/util/Preconditions" "SIOOBE_FORMATTER" "Ljava/util/function/BiFunction;" fm) (s t : Addr) (cs : List Int32) (h0 : Heap) (n0 : Nat) (OS : OStr Z h0 s t cs) (hl : cs.length ≤ 5) (h1 : 0 < cs.length) :
    Ct l Z consts_1 [] (⟨"java/lang/String", "substring", "(II)Ljava/lang/String;"⟩ : MethodName) jdk_42_method_92_code 5 (some (.object "java/lang/String")) ({ frames := 2, cells := 2, slots := 4, locals := 29 } : Room) #[(.ref s), (.int (0 : Int32)), (.int (0 : Int32))] h0 n0 [] (fun v h => ∃ s t : Addr, v = some (.ref s) ∧ OStr Z h s t []) := by
  have w : ∀ {d : Jvm.Cond} (i : Nat), tables_1[i]? = some d → d.before a0 Z = true := fun i q => hw _ (List.mem_of_getElem? q)
  refine Ct.enter (plainFor_of_name pn_1) hEL ?_
  intro p e sS m below meth c T0 hby hml0 hret hlk hnm hs0 X0
  have hml : c.maxLocals = 5 := hml0
  have D : ∀ {pc : Nat} {r : Except DecodeError (Instr × Nat)}, decode jdk_42_method_92_code pc = r → decode c.code pc = r := fun q => hb hby q
  rw [show entryFrame m #[(.ref s), (.int (0 : Int32)), (.int (0 : Int32))] 5 = mkF m 0 #[.val (.ref s), .val (.int (0 : Int32)), .val (.int (0 : Int32)), .unset, .unset] [] from by first | (simp [entryFrame, mkF, argsToLocals, Value.category]; done) | rfl]
  refine X0.aloadN (x := (.ref s)) (D d22_0) rfl rfl ?_
  refine X0.callv (y := (⟨"java/lang/String", "length", "()I"⟩ : MethodName)) (a := s) (C := "java/lang/String") [] [] (ctLen l Z a0 hw hEL z0 S0 hz0 s t cs _ _ OS) OS.1 (w 49 rfl) (w 50 rfl) (w 52 rfl) (w 51 rfl) (w 7 rfl) (w 53 rfl) (by decide) (fun _ q => nomatch q) (by decide) 0 (by decide) (by decide) (by decide) (lenOf pd_7 rfl) rfl (Nat.le_of_ble_eq_true rfl) (by rw [hml]; rfl) (D d22_1) ?_
  rintro T202 h203 _ X205 K206 rfl
  have F207 := OS.keep K206 nin0 nin0
  show Goes p.tables e below _ (T202.setTop (mkF m 4 #[.val (.ref s), .val (.int (0 : Int32)), .val (.int (0 : Int32)), .unset, .unset] [(.int (Int32.ofNat cs.length))]))
  refine X205.istoreN #[.val (.ref s), .val (.int (0 : Int32)), .val (.int (0 : Int32)), .val (.int (Int32.ofNat cs.length)), .unset] (D d22_4) rfl ?_
  refine X205.iloadN (x := (0 : Int32)) (D d22_5) rfl ?_
  refine X205.iloadN (x := (0 : Int32)) (D d22_6) rfl ?_
  refine X205.iloadN (x := (Int32.ofNat cs.length)) (D d22_7) rfl ?_
  refine X205.calls [(.int (0 : Int32)), (.int (0 : Int32)), (.int (Int32.ofNat cs.length))] [] (ctCbe l Z a0 hw hEL z0 S0 hz0 fm hfm SF (0 : Int32) (0 : Int32) (Int32.ofNat cs.length) _ _ (by decide) (by decide) (fun q => by have q2 := (o32lt (a := cs.length) (b := 0) (by omega) (by omega)).mp q; omega)) (w 104 rfl) (w 105 rfl) (w 7 rfl) (w 106 rfl) (by decide) (fun _ q => nomatch q) (by decide) 0 (by decide) (by decide) (by decide) (lenOf pd_8 rfl) rfl (Nat.le_of_ble_eq_true rfl) (by rw [hml]; rfl) (D d22_8) ?_
  rintro T208 h209 _ X211 K212 rfl
  have F213 := F207.keep K212 nin0 nin0
  show Goes p.tables e below _ (T208.setTop (mkF m 11 #[.val (.ref s), .val (.int (0 : Int32)), .val (.int (0 : Int32)), .val (.int (Int32.ofNat cs.length)), .unset] []))
  refine X211.iloadN (x := (0 : Int32)) (D d22_11) rfl ?_
  refine X211.if_ne 22 (D d22_12) ⟨by decide, by decide⟩ (fun hc214 => absurd hc214 (by decide)) (fun hc214 => ?_)
  refine X211.iloadN (x := (0 : Int32)) (D d22_15) rfl ?_
  refine X211.iloadN (x := (Int32.ofNat cs.length)) (D d22_16) rfl ?_
  refine X211.icmp_ne 22 (D d22_17) ⟨by decide, by decide⟩ (fun hn215 => ?_) (fun hc => ((show ¬ 0 = cs.length from by omega) ((o32eq (a := 0) (by omega) (by omega)).mp hc)).elim)
  refine X211.iloadN (x := (0 : Int32)) (D d22_22) rfl ?_
  refine X211.iloadN (x := (0 : Int32)) (D d22_23) rfl ?_
  refine X211.isub (D d22_24) ?_
  show Goes p.tables e below _ (T208.setTop (mkF m 25 #[.val (.ref s), .val (.int (0 : Int32)), .val (.int (0 : Int32)), .val (.int (Int32.ofNat cs.length)), .unset] [(.int (0 : Int32))]))
  refine X211.istore #[.val (.ref s), .val (.int (0 : Int32)), .val (.int (0 : Int32)), .val (.int (Int32.ofNat cs.length)), .val (.int (0 : Int32))] (D d22_25) rfl ?_
  refine X211.aloadN (x := (.ref s)) (D d22_27) rfl rfl ?_
  obtain ⟨F216, hp217, hl218, kb219, F220, F221, F222⟩ := id F213
  refine X211.callv (y := (⟨"java/lang/String", "isLatin1", "()Z"⟩ : MethodName)) (a := s) (C := "java/lang/String") [] [] (ctIsL l Z a0 hw hEL z0 S0 hz0 s _ _ F221) F216 (w 43 rfl) (w 44 rfl) (w 46 rfl) (w 45 rfl) (w 7 rfl) (w 47 rfl) (by decide) (fun _ q => nomatch q) (by decide) 0 (by decide) (by decide) (by decide) (lenOf pd_9 rfl) rfl (Nat.le_of_ble_eq_true rfl) (by rw [hml]; rfl) (D d22_28) ?_
  rintro T223 h224 _ X226 K227 rfl
  have F228 := F213.keep K227 nin0 nin0
  have F229 := F216.keep K227
  have F230 := F220.keep K227 nin0
  have F231 := F221.keep K227 nin0
  have F232 := F222.keep K227 nin0
  show Goes p.tables e below _ (T223.setTop (mkF m 31 #[.val (.ref s), .val (.int (0 : Int32)), .val (.int (0 : Int32)), .val (.int (Int32.ofNat cs.length)), .val (.int (0 : Int32))] [(.int (1 : Int32))]))
  refine X226.if_eq 47 (D d22_31) ⟨by decide, by decide⟩ (fun hc233 => absurd hc233 (by decide)) (fun hc233 => ?_)
  refine X226.aloadN (x := (.ref s)) (D d22_34) rfl rfl ?_
  refine X226.getf (w 27 rfl) Via.refl F230 (D d22_35) ?_
  intro T234 X235
  show Goes p.tables e below _ (T234.setTop (mkF m 38 #[.val (.ref s), .val (.int (0 : Int32)), .val (.int (0 : Int32)), .val (.int (Int32.ofNat cs.length)), .val (.int (0 : Int32))] [(.ref t)]))
  refine X235.iloadN (x := (0 : Int32)) (D d22_38) rfl ?_
  refine X235.iload (x := (0 : Int32)) (D d22_39) rfl ?_
  refine X235.calls [(.ref t), (.int (0 : Int32)), (.int (0 : Int32))] [] (ctNS0 l Z a0 hw hEL z0 S0 hz0 t (0 : Int32) _ _) (w 112 rfl) (w 113 rfl) (w 61 rfl) (w 114 rfl) (by decide) (fun _ q => nomatch q) (by decide) 0 (by decide) (by decide) (by decide) (lenOf pd_10 rfl) rfl (Nat.le_of_ble_eq_true rfl) (by rw [hml]; rfl) (D d22_41) ?_
  rintro T236 h237 _ X239 K240 ⟨r, tr, rfl, O9⟩
  have F241 := F228.keep K240 nin0 nin0
  have F242 := F229.keep K240
  have F243 := F230.keep K240 nin0
  have F244 := F231.keep K240 nin0
  have F245 := F232.keep K240 nin0
  show Goes p.tables e below _ (T236.setTop (mkF m 44 #[.val (.ref s), .val (.int (0 : Int32)), .val (.int (0 : Int32)), .val (.int (Int32.ofNat cs.length)), .val (.int (0 : Int32))] [(.ref r)]))
  refine X239.goto 57 (D d22_44) ⟨by decide, by decide⟩ ?_
  exact X239.retA hret rfl rfl hlk (D d22_57) (by decide) (by decide) (⟨r, tr, rfl, O9⟩)
theorem d21_0 : decode jdk_43_method_23_code 0 = .ok (.iload_n 1, 1) := by decide +kernel
theorem d21_1 : decode jdk_43_method_23_code 1 = .ok (.i2b, 1) := by decide +kernel
theorem d21_2 : decode jdk_43_method_23_code 2 = .ok (.istore 4, 2) := by decide +kernel
theorem d21_4 : decode jdk_43_method_23_code 4 = .ok (.iload_n 2, 1) := by decide +kernel
theorem d21_5 : decode jdk_43_method_23_code 5 = .ok (.istore 5, 2) := by decide +kernel
theorem d21_7 : decode jdk_43_method_23_code 7 = .ok (.iload 5, 2) := by decide +kernel
theorem d21_9 : decode jdk_43_method_23_code 9 = .ok (.iload_n 3, 1) := by decide +kernel
theorem d21_10 : decode jdk_43_method_23_code 10 = .ok (.if_icmp .ge 21, 3) := by decide +kernel
theorem d21_13 : decode jdk_43_method_23_code 13 = .ok (.aload_n 0, 1) := by decide +kernel
theorem d21_14 : decode jdk_43_method_23_code 14 = .ok (.iload 5, 2) := by decide +kernel
theorem d21_16 : decode jdk_43_method_23_code 16 = .ok (.baload, 1) := by decide +kernel
theorem d21_17 : decode jdk_43_method_23_code 17 = .ok (.iload 4, 2) := by decide +kernel
theorem d21_19 : decode jdk_43_method_23_code 19 = .ok (.if_icmp .ne 6, 3) := by decide +kernel
theorem d21_22 : decode jdk_43_method_23_code 22 = .ok (.iload 5, 2) := by decide +kernel
theorem d21_24 : decode jdk_43_method_23_code 24 = .ok (.ireturn, 1) := by decide +kernel
theorem d21_25 : decode jdk_43_method_23_code 25 = .ok (.iinc 5 1, 3) := by decide +kernel
theorem d21_28 : decode jdk_43_method_23_code 28 = .ok (.goto (-21), 3) := by decide +kernel
theorem d21_31 : decode jdk_43_method_23_code 31 = .ok (.iconst (-1), 1) := by decide +kernel
theorem d21_32 : decode jdk_43_method_23_code 32 = .ok (.ireturn, 1) := by decide +kernel
set_option maxRecDepth 65536 in
set_option maxHeartbeats 40000000 in
theorem ctIOC_1 (l : Launch) (Z : State) (a0 : Array Value) (hw : ∀ d ∈ tables_1, d.before a0 Z = true) (hEL : EW Z a0 consts_1) (z0 : Int32) (S0 : Sta Z Z.heap "java/lang/String" "COMPACT_STRINGS" "Z" (.int z0)) (hz0 : ¬ z0 = 0) (t : Addr) (kt : ClassId) (c0 : Int32) (h0 : Heap) (n0 : Nat) (AT : Arv Z h0 t kt .byte (Int32.ofNat [c0].length) (([c0].map StrChars.lo8).map Value.int) (.int 0)) (r0 : Rb c0) :
    Ct l Z consts_1 [] (⟨"java/lang/StringLatin1", "indexOfChar", "([BIII)I"⟩ : MethodName) jdk_43_method_23_code 6 (some .int) ({ frames := 0, cells := 0, slots := 0, locals := 0 } : Room) #[(.ref t), (.int (10 : Int32)), (.int (0 : Int32)), (.int (1 : Int32))] h0 n0 [] (fun v _ => v = some (.int (idx [c0]))) := by
  have w : ∀ {d : Jvm.Cond} (i : Nat), tables_1[i]? = some d → d.before a0 Z = true := fun i q => hw _ (List.mem_of_getElem? q)
  refine Ct.enter (plainFor_of_name pn_3) hEL ?_
  intro p e sS m below meth c T0 hby hml0 hret hlk hnm hs0 X0
  have hml : c.maxLocals = 6 := hml0
  have D : ∀ {pc : Nat} {r : Except DecodeError (Instr × Nat)}, decode jdk_43_method_23_code pc = r → decode c.code pc = r := fun q => hb hby q
  rw [show entryFrame m #[(.ref t), (.int (10 : Int32)), (.int (0 : Int32)), (.int (1 : Int32))] 6 = mkF m 0 #[.val (.ref t), .val (.int (10 : Int32)), .val (.int (0 : Int32)), .val (.int (1 : Int32)), .unset, .unset] [] from by first | (simp [entryFrame, mkF, argsToLocals, Value.category]; done) | rfl]
  have A2 : Arv Z h0 t kt .byte (1 : Int32) [(.int (StrChars.lo8 c0))] (.int 0) := AT
  refine X0.iloadN (x := (10 : Int32)) (D d21_0) rfl ?_
  refine X0.i2b (D d21_1) ?_
  show Goes p.tables e below _ (T0.setTop (mkF m 2 #[.val (.ref t), .val (.int (10 : Int32)), .val (.int (0 : Int32)), .val (.int (1 : Int32)), .unset, .unset] [(.int (10 : Int32))]))
  refine X0.istore #[.val (.ref t), .val (.int (10 : Int32)), .val (.int (0 : Int32)), .val (.int (1 : Int32)), .val (.int (10 : Int32)), .unset] (D d21_2) rfl ?_
  refine X0.iloadN (x := (0 : Int32)) (D d21_4) rfl ?_
  refine X0.istore #[.val (.ref t), .val (.int (10 : Int32)), .val (.int (0 : Int32)), .val (.int (1 : Int32)), .val (.int (10 : Int32)), .val (.int (0 : Int32))] (D d21_5) rfl ?_
  refine X0.iload (x := (0 : Int32)) (D d21_7) rfl ?_
  refine X0.iloadN (x := (1 : Int32)) (D d21_9) rfl ?_
  refine X0.icmp_ge 31 (D d21_10) ⟨by decide, by decide⟩ (fun hc246 => absurd hc246 (by decide)) (fun hc246 => ?_)
  refine X0.aloadN (x := (.ref t)) (D d21_13) rfl rfl ?_
  refine X0.iload (x := (0 : Int32)) (D d21_14) rfl ?_
  show Goes p.tables e below _ (T0.setTop (mkF m 16 #[.val (.ref t), .val (.int (10 : Int32)), .val (.int (0 : Int32)), .val (.int (1 : Int32)), .val (.int (10 : Int32)), .val (.int (0 : Int32))] [(.int (0 : Int32)), (.ref t)]))
  refine X0.baload (v := (.int (StrChars.lo8 c0))) A2 ⟨by decide, by decide⟩ rfl (D d21_16) ?_
  show Goes p.tables e below _ (T0.setTop (mkF m 17 #[.val (.ref t), .val (.int (10 : Int32)), .val (.int (0 : Int32)), .val (.int (1 : Int32)), .val (.int (10 : Int32)), .val (.int (0 : Int32))] [(.int (StrChars.lo8 c0))]))
  refine X0.iload (x := (10 : Int32)) (D d21_17) rfl ?_
  refine X0.icmp_ne 25 (D d21_19) ⟨by decide, by decide⟩ (fun hc247 => ?_) (fun hc247 => ?_)
  · show Goes p.tables e below _ (T0.setTop (mkF m 25 #[.val (.ref t), .val (.int (10 : Int32)), .val (.int (0 : Int32)), .val (.int (1 : Int32)), .val (.int (10 : Int32)), .val (.int (0 : Int32))] []))
    have hk0 : ¬ c0 = 10 := fun q => hc247 (by rw [q]; decide)
    refine X0.iinc #[.val (.ref t), .val (.int (10 : Int32)), .val (.int (0 : Int32)), .val (.int (1 : Int32)), .val (.int (10 : Int32)), .val (.int (1 : Int32))] (D d21_25) rfl rfl ?_
    refine X0.goto 7 (D d21_28) ⟨by decide, by decide⟩ ?_
    refine X0.iload (x := (1 : Int32)) (D d21_7) rfl ?_
    refine X0.iloadN (x := (1 : Int32)) (D d21_9) rfl ?_
    refine X0.icmp_ge 31 (D d21_10) ⟨by decide, by decide⟩ (fun hc248 => ?_) (fun hc248 => absurd hc248 (by decide))
    refine X0.iconst (x := (-1 : Int32)) (D d21_31) rfl ?_
    exact X0.retI hret hlk (D d21_32) (by decide) (by decide) (congrArg (fun z => some (Value.int z)) (idx_no (by simp [ixN, hk0])).symm)
  · show Goes p.tables e below _ (T0.setTop (mkF m 22 #[.val (.ref t), .val (.int (10 : Int32)), .val (.int (0 : Int32)), .val (.int (1 : Int32)), .val (.int (10 : Int32)), .val (.int (0 : Int32))] []))
    have hk0 := lo10 r0 hc247
    refine X0.iload (x := (0 : Int32)) (D d21_22) rfl ?_
    exact X0.retI hret hlk (D d21_24) (by decide) (by decide) (congrArg (fun z => some (Value.int z)) (idx_at (k := 0) (by simp [ixN, hk0]) (Nat.le_of_ble_eq_true rfl)).symm)
set_option maxRecDepth 65536 in
set_option maxHeartbeats 40000000 in
theorem ctIOC_2 (l : Launch) (Z : State) (a0 : Array Value) (hw : ∀ d ∈ tables_1, d.before a0 Z = true) (hEL : EW Z a0 consts_1) (z0 : Int32) (S0 : Sta Z Z.heap "java/lang/String" "COMPACT_STRINGS" "Z" (.int z0)) (hz0 : ¬ z0 = 0) (t : Addr) (kt : ClassId) (c0 c1 : Int32) (h0 : Heap) (n0 : Nat) (AT : Arv Z h0 t kt .byte (Int32.ofNat [c0, c1].length) (([c0, c1].map StrChars.lo8).map Value.int) (.int 0)) (r0 : Rb c0) (r1 : Rb c1) :
    Ct l Z consts_1 [] (⟨"java/lang/StringLatin1", "indexOfChar", "([BIII)I"⟩ : MethodName) jdk_43_method_23_code 6 (some .int) ({ frames := 0, cells := 0, slots := 0, locals := 0 } : Room) #[(.ref t), (.int (10 : Int32)), (.int (0 : Int32)), (.int (2 : Int32))] h0 n0 [] (fun v _ => v = some (.int (idx [c0, c1]))) := by
  have w : ∀ {d : Jvm.Cond} (i : Nat), tables_1[i]? = some d → d.before a0 Z = true := fun i q => hw _ (List.mem_of_getElem? q)
  refine Ct.enter (plainFor_of_name pn_3) hEL ?_
  intro p e sS m below meth c T0 hby hml0 hret hlk hnm hs0 X0
  have hml : c.maxLocals = 6 := hml0
  have D : ∀ {pc : Nat} {r : Except DecodeError (Instr × Nat)}, decode jdk_43_method_23_code pc = r → decode c.code pc = r := fun q => hb hby q
  rw [show entryFrame m #[(.ref t), (.int (10 : Int32)), (.int (0 : Int32)), (.int (2 : Int32))] 6 = mkF m 0 #[.val (.ref t), .val (.int (10 : Int32)), .val (.int (0 : Int32)), .val (.int (2 : Int32)), .unset, .unset] [] from by first | (simp [entryFrame, mkF, argsToLocals, Value.category]; done) | rfl]
  have A2 : Arv Z h0 t kt .byte (2 : Int32) [(.int (StrChars.lo8 c0)), (.int (StrChars.lo8 c1))] (.int 0) := AT
  refine X0.iloadN (x := (10 : Int32)) (D d21_0) rfl ?_
  refine X0.i2b (D d21_1) ?_
  show Goes p.tables e below _ (T0.setTop (mkF m 2 #[.val (.ref t), .val (.int (10 : Int32)), .val (.int (0 : Int32)), .val (.int (2 : Int32)), .unset, .unset] [(.int (10 : Int32))]))
  refine X0.istore #[.val (.ref t), .val (.int (10 : Int32)), .val (.int (0 : Int32)), .val (.int (2 : Int32)), .val (.int (10 : Int32)), .unset] (D d21_2) rfl ?_
  refine X0.iloadN (x := (0 : Int32)) (D d21_4) rfl ?_
  refine X0.istore #[.val (.ref t), .val (.int (10 : Int32)), .val (.int (0 : Int32)), .val (.int (2 : Int32)), .val (.int (10 : Int32)), .val (.int (0 : Int32))] (D d21_5) rfl ?_
  refine X0.iload (x := (0 : Int32)) (D d21_7) rfl ?_
  refine X0.iloadN (x := (2 : Int32)) (D d21_9) rfl ?_
  refine X0.icmp_ge 31 (D d21_10) ⟨by decide, by decide⟩ (fun hc249 => absurd hc249 (by decide)) (fun hc249 => ?_)
  refine X0.aloadN (x := (.ref t)) (D d21_13) rfl rfl ?_
  refine X0.iload (x := (0 : Int32)) (D d21_14) rfl ?_
  show Goes p.tables e below _ (T0.setTop (mkF m 16 #[.val (.ref t), .val (.int (10 : Int32)), .val (.int (0 : Int32)), .val (.int (2 : Int32)), .val (.int (10 : Int32)), .val (.int (0 : Int32))] [(.int (0 : Int32)), (.ref t)]))
  refine X0.baload (v := (.int (StrChars.lo8 c0))) A2 ⟨by decide, by decide⟩ rfl (D d21_16) ?_
  show Goes p.tables e below _ (T0.setTop (mkF m 17 #[.val (.ref t), .val (.int (10 : Int32)), .val (.int (0 : Int32)), .val (.int (2 : Int32)), .val (.int (10 : Int32)), .val (.int (0 : Int32))] [(.int (StrChars.lo8 c0))]))
  refine X0.iload (x := (10 : Int32)) (D d21_17) rfl ?_
  refine X0.icmp_ne 25 (D d21_19) ⟨by decide, by decide⟩ (fun hc250 => ?_) (fun hc250 => ?_)
  · show Goes p.tables e below _ (T0.setTop (mkF m 25 #[.val (.ref t), .val (.int (10 : Int32)), .val (.int (0 : Int32)), .val (.int (2 : Int32)), .val (.int (10 : Int32)), .val (.int (0 : Int32))] []))
    have hk0 : ¬ c0 = 10 := fun q => hc250 (by rw [q]; decide)
    refine X0.iinc #[.val (.ref t), .val (.int (10 : Int32)), .val (.int (0 : Int32)), .val (.int (2 : Int32)), .val (.int (10 : Int32)), .val (.int (1 : Int32))] (D d21_25) rfl rfl ?_
    refine X0.goto 7 (D d21_28) ⟨by decide, by decide⟩ ?_
    refine X0.iload (x := (1 : Int32)) (D d21_7) rfl ?_
    refine X0.iloadN (x := (2 : Int32)) (D d21_9) rfl ?_
    refine X0.icmp_ge 31 (D d21_10) ⟨by decide, by decide⟩ (fun hc251 => absurd hc251 (by decide)) (fun hc251 => ?_)
    refine X0.aloadN (x := (.ref t)) (D d21_13) rfl rfl ?_
    refine X0.iload (x := (1 : Int32)) (D d21_14) rfl ?_
    show Goes p.tables e below _ (T0.setTop (mkF m 16 #[.val (.ref t), .val (.int (10 : Int32)), .val (.int (0 : Int32)), .val (.int (2 : Int32)), .val (.int (10 : Int32)), .val (.int (1 : Int32))] [(.int (1 : Int32)), (.ref t)]))
    refine X0.baload (v := (.int (StrChars.lo8 c1))) A2 ⟨by decide, by decide⟩ rfl (D d21_16) ?_
    show Goes p.tables e below _ (T0.setTop (mkF m 17 #[.val (.ref t), .val (.int (10 : Int32)), .val (.int (0 : Int32)), .val (.int (2 : Int32)), .val (.int (10 : Int32)), .val (.int (1 : Int32))] [(.int (StrChars.lo8 c1))]))
    refine X0.iload (x := (10 : Int32)) (D d21_17) rfl ?_
    refine X0.icmp_ne 25 (D d21_19) ⟨by decide, by decide⟩ (fun hc252 => ?_) (fun hc252 => ?_)
    · show Goes p.tables e below _ (T0.setTop (mkF m 25 #[.val (.ref t), .val (.int (10 : Int32)), .val (.int (0 : Int32)), .val (.int (2 : Int32)), .val (.int (10 : Int32)), .val (.int (1 : Int32))] []))
      have hk1 : ¬ c1 = 10 := fun q => hc252 (by rw [q]; decide)
      refine X0.iinc #[.val (.ref t), .val (.int (10 : Int32)), .val (.int (0 : Int32)), .val (.int (2 : Int32)), .val (.int (10 : Int32)), .val (.int (2 : Int32))] (D d21_25) rfl rfl ?_
      refine X0.goto 7 (D d21_28) ⟨by decide, by decide⟩ ?_
      refine X0.iload (x := (2 : Int32)) (D d21_7) rfl ?_
      refine X0.iloadN (x := (2 : Int32)) (D d21_9) rfl ?_
      refine X0.icmp_ge 31 (D d21_10) ⟨by decide, by decide⟩ (fun hc253 => ?_) (fun hc253 => absurd hc253 (by decide))
      refine X0.iconst (x := (-1 : Int32)) (D d21_31) rfl ?_
      exact X0.retI hret hlk (D d21_32) (by decide) (by decide) (congrArg (fun z => some (Value.int z)) (idx_no (by simp [ixN, hk0, hk1])).symm)
    · show Goes p.tables e below _ (T0.setTop (mkF m 22 #[.val (.ref t), .val (.int (10 : Int32)), .val (.int (0 : Int32)), .val (.int (2 : Int32)), .val (.int (10 : Int32)), .val (.int (1 : Int32))] []))
      have hk1 := lo10 r1 hc252
      refine X0.iload (x := (1 : Int32)) (D d21_22) rfl ?_
      exact X0.retI hret hlk (D d21_24) (by decide) (by decide) (congrArg (fun z => some (Value.int z)) (idx_at (k := 1) (by simp [ixN, hk0, hk1]) (Nat.le_of_ble_eq_true rfl)).symm)
  · show Goes p.tables e below _ (T0.setTop (mkF m 22 #[.val (.ref t), .val (.int (10 : Int32)), .val (.int (0 : Int32)), .val (.int (2 : Int32)), .val (.int (10 : Int32)), .val (.int (0 : Int32))] []))
    have hk0 := lo10 r0 hc250
    refine X0.iload (x := (0 : Int32)) (D d21_22) rfl ?_
    exact X0.retI hret hlk (D d21_24) (by decide) (by decide) (congrArg (fun z => some (Value.int z)) (idx_at (k := 0) (by simp [ixN, hk0]) (Nat.le_of_ble_eq_true rfl)).symm)
set_option maxRecDepth 65536 in
set_option maxHeartbeats 40000000 in
theorem ctIOC_3 (l : Launch) (Z : State) (a0 : Array Value) (hw : ∀ d ∈ tables_1, d.before a0 Z = true) (hEL : EW Z a0 consts_1) (z0 : Int32) (S0 : Sta Z Z.heap "java/lang/String" "COMPACT_STRINGS" "Z" (.int z0)) (hz0 : ¬ z0 = 0) (t : Addr) (kt : ClassId) (c0 c1 c2 : Int32) (h0 : Heap) (n0 : Nat) (AT : Arv Z h0 t kt .byte (Int32.ofNat [c0, c1, c2].length) (([c0, c1, c2].map StrChars.lo8).map Value.int) (.int 0)) (r0 : Rb c0) (r1 : Rb c1) (r2 : Rb c2) :
    Ct l Z consts_1 [] (⟨"java/lang/StringLatin1", "indexOfChar", "([BIII)I"⟩ : MethodName) jdk_43_method_23_code 6 (some .int) ({ frames := 0, cells := 0, slots := 0, locals := 0 } : Room) #[(.ref t), (.int (10 : Int32)), (.int (0 : Int32)), (.int (3 : Int32))] h0 n0 [] (fun v _ => v = some (.int (idx [c0, c1, c2]))) := by
  have w : ∀ {d : Jvm.Cond} (i : Nat), tables_1[i]? = some d → d.before a0 Z = true := fun i q => hw _ (List.mem_of_getElem? q)
  refine Ct.enter (plainFor_of_name pn_3) hEL ?_
  intro p e sS m below meth c T0 hby hml0 hret hlk hnm hs0 X0
  have hml : c.maxLocals = 6 := hml0
  have D : ∀ {pc : Nat} {r : Except DecodeError (Instr × Nat)}, decode jdk_43_method_23_code pc = r → decode c.code pc = r := fun q => hb hby q
  rw [show entryFrame m #[(.ref t), (.int (10 : Int32)), (.int (0 : Int32)), (.int (3 : Int32))] 6 = mkF m 0 #[.val (.ref t), .val (.int (10 : Int32)), .val (.int (0 : Int32)), .val (.int (3 : Int32)), .unset, .unset] [] from by first | (simp [entryFrame, mkF, argsToLocals, Value.category]; done) | rfl]
  have A2 : Arv Z h0 t kt .byte (3 : Int32) [(.int (StrChars.lo8 c0)), (.int (StrChars.lo8 c1)), (.int (StrChars.lo8 c2))] (.int 0) := AT
  refine X0.iloadN (x := (10 : Int32)) (D d21_0) rfl ?_
  refine X0.i2b (D d21_1) ?_
  show Goes p.tables e below _ (T0.setTop (mkF m 2 #[.val (.ref t), .val (.int (10 : Int32)), .val (.int (0 : Int32)), .val (.int (3 : Int32)), .unset, .unset] [(.int (10 : Int32))]))
  refine X0.istore #[.val (.ref t), .val (.int (10 : Int32)), .val (.int (0 : Int32)), .val (.int (3 : Int32)), .val (.int (10 : Int32)), .unset] (D d21_2) rfl ?_
  refine X0.iloadN (x := (0 : Int32)) (D d21_4) rfl ?_
  refine X0.istore #[.val (.ref t), .val (.int (10 : Int32)), .val (.int (0 : Int32)), .val (.int (3 : Int32)), .val (.int (10 : Int32)), .val (.int (0 : Int32))] (D d21_5) rfl ?_
  refine X0.iload (x := (0 : Int32)) (D d21_7) rfl ?_
  refine X0.iloadN (x := (3 : Int32)) (D d21_9) rfl ?_
  refine X0.icmp_ge 31 (D d21_10) ⟨by decide, by decide⟩ (fun hc254 => absurd hc254 (by decide)) (fun hc254 => ?_)
  refine X0.aloadN (x := (.ref t)) (D d21_13) rfl rfl ?_
  refine X0.iload (x := (0 : Int32)) (D d21_14) rfl ?_
  show Goes p.tables e below _ (T0.setTop (mkF m 16 #[.val (.ref t), .val (.int (10 : Int32)), .val (.int (0 : Int32)), .val (.int (3 : Int32)), .val (.int (10 : Int32)), .val (.int (0 : Int32))] [(.int (0 : Int32)), (.ref t)]))
  refine X0.baload (v := (.int (StrChars.lo8 c0))) A2 ⟨by decide, by decide⟩ rfl (D d21_16) ?_
  show Goes p.tables e below _ (T0.setTop (mkF m 17 #[.val (.ref t), .val (.int (10 : Int32)), .val (.int (0 : Int32)), .val (.int (3 : Int32)), .val (.int (10 : Int32)), .val (.int (0 : Int32))] [(.int (StrChars.lo8 c0))]))
  refine X0.iload (x := (10 : Int32)) (D d21_17) rfl ?_
  refine X0.icmp_ne 25 (D d21_19) ⟨by decide, by decide⟩ (fun hc255 => ?_) (fun hc255 => ?_)
  · show Goes p.tables e below _ (T0.setTop (mkF m 25 #[.val (.ref t), .val (.int (10 : Int32)), .val (.int (0 : Int32)), .val (.int (3 : Int32)), .val (.int (10 : Int32)), .val (.int (0 : Int32))] []))
    have hk0 : ¬ c0 = 10 := fun q => hc255 (by rw [q]; decide)
    refine X0.iinc #[.val (.ref t), .val (.int (10 : Int32)), .val (.int (0 : Int32)), .val (.int (3 : Int32)), .val (.int (10 : Int32)), .val (.int (1 : Int32))] (D d21_25) rfl rfl ?_
    refine X0.goto 7 (D d21_28) ⟨by decide, by decide⟩ ?_
    refine X0.iload (x := (1 : Int32)) (D d21_7) rfl ?_
    refine X0.iloadN (x := (3 : Int32)) (D d21_9) rfl ?_
    refine X0.icmp_ge 31 (D d21_10) ⟨by decide, by decide⟩ (fun hc256 => absurd hc256 (by decide)) (fun hc256 => ?_)
    refine X0.aloadN (x := (.ref t)) (D d21_13) rfl rfl ?_
    refine X0.iload (x := (1 : Int32)) (D d21_14) rfl ?_
    show Goes p.tables e below _ (T0.setTop (mkF m 16 #[.val (.ref t), .val (.int (10 : Int32)), .val (.int (0 : Int32)), .val (.int (3 : Int32)), .val (.int (10 : Int32)), .val (.int (1 : Int32))] [(.int (1 : Int32)), (.ref t)]))
    refine X0.baload (v := (.int (StrChars.lo8 c1))) A2 ⟨by decide, by decide⟩ rfl (D d21_16) ?_
    show Goes p.tables e below _ (T0.setTop (mkF m 17 #[.val (.ref t), .val (.int (10 : Int32)), .val (.int (0 : Int32)), .val (.int (3 : Int32)), .val (.int (10 : Int32)), .val (.int (1 : Int32))] [(.int (StrChars.lo8 c1))]))
    refine X0.iload (x := (10 : Int32)) (D d21_17) rfl ?_
    refine X0.icmp_ne 25 (D d21_19) ⟨by decide, by decide⟩ (fun hc257 => ?_) (fun hc257 => ?_)
    · show Goes p.tables e below _ (T0.setTop (mkF m 25 #[.val (.ref t), .val (.int (10 : Int32)), .val (.int (0 : Int32)), .val (.int (3 : Int32)), .val (.int (10 : Int32)), .val (.int (1 : Int32))] []))
      have hk1 : ¬ c1 = 10 := fun q => hc257 (by rw [q]; decide)
      refine X0.iinc #[.val (.ref t), .val (.int (10 : Int32)), .val (.int (0 : Int32)), .val (.int (3 : Int32)), .val (.int (10 : Int32)), .val (.int (2 : Int32))] (D d21_25) rfl rfl ?_
      refine X0.goto 7 (D d21_28) ⟨by decide, by decide⟩ ?_
      refine X0.iload (x := (2 : Int32)) (D d21_7) rfl ?_
      refine X0.iloadN (x := (3 : Int32)) (D d21_9) rfl ?_
      refine X0.icmp_ge 31 (D d21_10) ⟨by decide, by decide⟩ (fun hc258 => absurd hc258 (by decide)) (fun hc258 => ?_)
      refine X0.aloadN (x := (.ref t)) (D d21_13) rfl rfl ?_
      refine X0.iload (x := (2 : Int32)) (D d21_14) rfl ?_
      show Goes p.tables e below _ (T0.setTop (mkF m 16 #[.val (.ref t), .val (.int (10 : Int32)), .val (.int (0 : Int32)), .val (.int (3 : Int32)), .val (.int (10 : Int32)), .val (.int (2 : Int32))] [(.int (2 : Int32)), (.ref t)]))
      refine X0.baload (v := (.int (StrChars.lo8 c2))) A2 ⟨by decide, by decide⟩ rfl (D d21_16) ?_
      show Goes p.tables e below _ (T0.setTop (mkF m 17 #[.val (.ref t), .val (.int (10 : Int32)), .val (.int (0 : Int32)), .val (.int (3 : Int32)), .val (.int (10 : Int32)), .val (.int (2 : Int32))] [(.int (StrChars.lo8 c2))]))
      refine X0.iload (x := (10 : Int32)) (D d21_17) rfl ?_
      refine X0.icmp_ne 25 (D d21_19) ⟨by decide, by decide⟩ (fun hc259 => ?_) (fun hc259 => ?_)
      · show Goes p.tables e below _ (T0.setTop (mkF m 25 #[.val (.ref t), .val (.int (10 : Int32)), .val (.int (0 : Int32)), .val (.int (3 : Int32)), .val (.int (10 : Int32)), .val (.int (2 : Int32))] []))
        have hk2 : ¬ c2 = 10 := fun q => hc259 (by rw [q]; decide)
        refine X0.iinc #[.val (.ref t), .val (.int (10 : Int32)), .val (.int (0 : Int32)), .val (.int (3 : Int32)), .val (.int (10 : Int32)), .val (.int (3 : Int32))] (D d21_25) rfl rfl ?_
        refine X0.goto 7 (D d21_28) ⟨by decide, by decide⟩ ?_
        refine X0.iload (x := (3 : Int32)) (D d21_7) rfl ?_
        refine X0.iloadN (x := (3 : Int32)) (D d21_9) rfl ?_
        refine X0.icmp_ge 31 (D d21_10) ⟨by decide, by decide⟩ (fun hc260 => ?_) (fun hc260 => absurd hc260 (by decide))
        refine X0.iconst (x := (-1 : Int32)) (D d21_31) rfl ?_
        exact X0.retI hret hlk (D d21_32) (by decide) (by decide) (congrArg (fun z => some (Value.int z)) (idx_no (by simp [ixN, hk0, hk1, hk2])).symm)
      · show Goes p.tables e below _ (T0.setTop (mkF m 22 #[.val (.ref t), .val (.int (10 : Int32)), .val (.int (0 : Int32)), .val (.int (3 : Int32)), .val (.int (10 : Int32)), .val (.int (2 : Int32))] []))
        have hk2 := lo10 r2 hc259
        refine X0.iload (x := (2 : Int32)) (D d21_22) rfl ?_
        exact X0.retI hret hlk (D d21_24) (by decide) (by decide) (congrArg (fun z => some (Value.int z)) (idx_at (k := 2) (by simp [ixN, hk0, hk1, hk2]) (Nat.le_of_ble_eq_true rfl)).symm)
    · show Goes p.tables e below _ (T0.setTop (mkF m 22 #[.val (.ref t), .val (.int (10 : Int32)), .val (.int (0 : Int32)), .val (.int (3 : Int32)), .val (.int (10 : Int32)), .val (.int (1 : Int32))] []))
      have hk1 := lo10 r1 hc257
      refine X0.iload (x := (1 : Int32)) (D d21_22) rfl ?_
      exact X0.retI hret hlk (D d21_24) (by decide) (by decide) (congrArg (fun z => some (Value.int z)) (idx_at (k := 1) (by simp [ixN, hk0, hk1]) (Nat.le_of_ble_eq_true rfl)).symm)
  · show Goes p.tables e below _ (T0.setTop (mkF m 22 #[.val (.ref t), .val (.int (10 : Int32)), .val (.int (0 : Int32)), .val (.int (3 : Int32)), .val (.int (10 : Int32)), .val (.int (0 : Int32))] []))
    have hk0 := lo10 r0 hc255
    refine X0.iload (x := (0 : Int32)) (D d21_22) rfl ?_
    exact X0.retI hret hlk (D d21_24) (by decide) (by decide) (congrArg (fun z => some (Value.int z)) (idx_at (k := 0) (by simp [ixN, hk0]) (Nat.le_of_ble_eq_true rfl)).symm)
set_option maxRecDepth 65536 in
set_option maxHeartbeats 40000000 in
theorem ctIOC_4 (l : Launch) (Z : State) (a0 : Array Value) (hw : ∀ d ∈ tables_1, d.before a0 Z = true) (hEL : EW Z a0 consts_1) (z0 : Int32) (S0 : Sta Z Z.heap "java/lang/String" "COMPACT_STRINGS" "Z" (.int z0)) (hz0 : ¬ z0 = 0) (t : Addr) (kt : ClassId) (c0 c1 c2 c3 : Int32) (h0 : Heap) (n0 : Nat) (AT : Arv Z h0 t kt .byte (Int32.ofNat [c0, c1, c2, c3].length) (([c0, c1, c2, c3].map StrChars.lo8).map Value.int) (.int 0)) (r0 : Rb c0) (r1 : Rb c1) (r2 : Rb c2) (r3 : Rb c3) :
    Ct l Z consts_1 [] (⟨"java/lang/StringLatin1", "indexOfChar", "([BIII)I"⟩ : MethodName) jdk_43_method_23_code 6 (some .int) ({ frames := 0, cells := 0, slots := 0, locals := 0 } : Room) #[(.ref t), (.int (10 : Int32)), (.int (0 : Int32)), (.int (4 : Int32))] h0 n0 [] (fun v _ => v = some (.int (idx [c0, c1, c2, c3]))) := by
  have w : ∀ {d : Jvm.Cond} (i : Nat), tables_1[i]? = some d → d.before a0 Z = true := fun i q => hw _ (List.mem_of_getElem? q)
  refine Ct.enter (plainFor_of_name pn_3) hEL ?_
  intro p e sS m below meth c T0 hby hml0 hret hlk hnm hs0 X0
  have hml : c.maxLocals = 6 := hml0
  have D : ∀ {pc : Nat} {r : Except DecodeError (Instr × Nat)}, decode jdk_43_method_23_code pc = r → decode c.code pc = r := fun q => hb hby q
  rw [show entryFrame m #[(.ref t), (.int (10 : Int32)), (.int (0 : Int32)), (.int (4 : Int32))] 6 = mkF m 0 #[.val (.ref t), .val (.int (10 : Int32)), .val (.int (0 : Int32)), .val (.int (4 : Int32)), .unset, .unset] [] from by first | (simp [entryFrame, mkF, argsToLocals, Value.category]; done) | rfl]
  have A2 : Arv Z h0 t kt .byte (4 : Int32) [(.int (StrChars.lo8 c0)), (.int (StrChars.lo8 c1)), (.int (StrChars.lo8 c2)), (.int (StrChars.lo8 c3))] (.int 0) := AT
  refine X0.iloadN (x := (10 : Int32)) (D d21_0) rfl ?_
  refine X0.i2b (D d21_1) ?_
  show Goes p.tables e below _ (T0.setTop (mkF m 2 #[.val (.ref t), .val (.int (10 : Int32)), .val (.int (0 : Int32)), .val (.int (4 : Int32)), .unset, .unset] [(.int (10 : Int32))]))
  refine X0.istore #[.val (.ref t), .val (.int (10 : Int32)), .val (.int (0 : Int32)), .val (.int (4 : Int32)), .val (.int (10 : Int32)), .unset] (D d21_2) rfl ?_
  refine X0.iloadN (x := (0 : Int32)) (D d21_4) rfl ?_
  refine X0.istore #[.val (.ref t), .val (.int (10 : Int32)), .val (.int (0 : Int32)), .val (.int (4 : Int32)), .val (.int (10 : Int32)), .val (.int (0 : Int32))] (D d21_5) rfl ?_
  refine X0.iload (x := (0 : Int32)) (D d21_7) rfl ?_
  refine X0.iloadN (x := (4 : Int32)) (D d21_9) rfl ?_
  refine X0.icmp_ge 31 (D d21_10) ⟨by decide, by decide⟩ (fun hc261 => absurd hc261 (by decide)) (fun hc261 => ?_)
  refine X0.aloadN (x := (.ref t)) (D d21_13) rfl rfl ?_
  refine X0.iload (x := (0 : Int32)) (D d21_14) rfl ?_
  show Goes p.tables e below _ (T0.setTop (mkF m 16 #[.val (.ref t), .val (.int (10 : Int32)), .val (.int (0 : Int32)), .val (.int (4 : Int32)), .val (.int (10 : Int32)), .val (.int (0 : Int32))] [(.int (0 : Int32)), (.ref t)]))
  refine X0.baload (v := (.int (StrChars.lo8 c0))) A2 ⟨by decide, by decide⟩ rfl (D d21_16) ?_
  show Goes p.tables e below _ (T0.setTop (mkF m 17 #[.val (.ref t), .val (.int (10 : Int32)), .val (.int (0 : Int32)), .val (.int (4 : Int32)), .val (.int (10 : Int32)), .val (.int (0 : Int32))] [(.int (StrChars.lo8 c0))]))
  refine X0.iload (x := (10 : Int32)) (D d21_17) rfl ?_
  refine X0.icmp_ne 25 (D d21_19) ⟨by decide, by decide⟩ (fun hc262 => ?_) (fun hc262 => ?_)
  · show Goes p.tables e below _ (T0.setTop (mkF m 25 #[.val (.ref t), .val (.int (10 : Int32)), .val (.int (0 : Int32)), .val (.int (4 : Int32)), .val (.int (10 : Int32)), .val (.int (0 : Int32))] []))
    have hk0 : ¬ c0 = 10 := fun q => hc262 (by rw [q]; decide)
    refine X0.iinc #[.val (.ref t), .val (.int (10 : Int32)), .val (.int (0 : Int32)), .val (.int (4 : Int32)), .val (.int (10 : Int32)), .val (.int (1 : Int32))] (D d21_25) rfl rfl ?_
    refine X0.goto 7 (D d21_28) ⟨by decide, by decide⟩ ?_
    refine X0.iload (x := (1 : Int32)) (D d21_7) rfl ?_
    refine X0.iloadN (x := (4 : Int32)) (D d21_9) rfl ?_
    refine X0.icmp_ge 31 (D d21_10) ⟨by decide, by decide⟩ (fun hc263 => absurd hc263 (by decide)) (fun hc263 => ?_)
    refine X0.aloadN (x := (.ref t)) (D d21_13) rfl rfl ?_
    refine X0.iload (x := (1 : Int32)) (D d21_14) rfl ?_
    show Goes p.tables e below _ (T0.setTop (mkF m 16 #[.val (.ref t), .val (.int (10 : Int32)), .val (.int (0 : Int32)), .val (.int (4 : Int32)), .val (.int (10 : Int32)), .val (.int (1 : Int32))] [(.int (1 : Int32)), (.ref t)]))
    refine X0.baload (v := (.int (StrChars.lo8 c1))) A2 ⟨by decide, by decide⟩ rfl (D d21_16) ?_
    show Goes p.tables e below _ (T0.setTop (mkF m 17 #[.val (.ref t), .val (.int (10 : Int32)), .val (.int (0 : Int32)), .val (.int (4 : Int32)), .val (.int (10 : Int32)), .val (.int (1 : Int32))] [(.int (StrChars.lo8 c1))]))
    refine X0.iload (x := (10 : Int32)) (D d21_17) rfl ?_
    refine X0.icmp_ne 25 (D d21_19) ⟨by decide, by decide⟩ (fun hc264 => ?_) (fun hc264 => ?_)
    · show Goes p.tables e below _ (T0.setTop (mkF m 25 #[.val (.ref t), .val (.int (10 : Int32)), .val (.int (0 : Int32)), .val (.int (4 : Int32)), .val (.int (10 : Int32)), .val (.int (1 : Int32))] []))
      have hk1 : ¬ c1 = 10 := fun q => hc264 (by rw [q]; decide)
      refine X0.iinc #[.val (.ref t), .val (.int (10 : Int32)), .val (.int (0 : Int32)), .val (.int (4 : Int32)), .val (.int (10 : Int32)), .val (.int (2 : Int32))] (D d21_25) rfl rfl ?_
      refine X0.goto 7 (D d21_28) ⟨by decide, by decide⟩ ?_
      refine X0.iload (x := (2 : Int32)) (D d21_7) rfl ?_
      refine X0.iloadN (x := (4 : Int32)) (D d21_9) rfl ?_
      refine X0.icmp_ge 31 (D d21_10) ⟨by decide, by decide⟩ (fun hc265 => absurd hc265 (by decide)) (fun hc265 => ?_)
      refine X0.aloadN (x := (.ref t)) (D d21_13) rfl rfl ?_
      refine X0.iload (x := (2 : Int32)) (D d21_14) rfl ?_
      show Goes p.tables e below _ (T0.setTop (mkF m 16 #[.val (.ref t), .val (.int (10 : Int32)), .val (.int (0 : Int32)), .val (.int (4 : Int32)), .val (.int (10 : Int32)), .val (.int (2 : Int32))] [(.int (2 : Int32)), (.ref t)]))
      refine X0.baload (v := (.int (StrChars.lo8 c2))) A2 ⟨by decide, by decide⟩ rfl (D d21_16) ?_
      show Goes p.tables e below _ (T0.setTop (mkF m 17 #[.val (.ref t), .val (.int (10 : Int32)), .val (.int (0 : Int32)), .val (.int (4 : Int32)), .val (.int (10 : Int32)), .val (.int (2 : Int32))] [(.int (StrChars.lo8 c2))]))
      refine X0.iload (x := (10 : Int32)) (D d21_17) rfl ?_
      refine X0.icmp_ne 25 (D d21_19) ⟨by decide, by decide⟩ (fun hc266 => ?_) (fun hc266 => ?_)
      · show Goes p.tables e below _ (T0.setTop (mkF m 25 #[.val (.ref t), .val (.int (10 : Int32)), .val (.int (0 : Int32)), .val (.int (4 : Int32)), .val (.int (10 : Int32)), .val (.int (2 : Int32))] []))
        have hk2 : ¬ c2 = 10 := fun q => hc266 (by rw [q]; decide)
        refine X0.iinc #[.val (.ref t), .val (.int (10 : Int32)), .val (.int (0 : Int32)), .val (.int (4 : Int32)), .val (.int (10 : Int32)), .val (.int (3 : Int32))] (D d21_25) rfl rfl ?_
        refine X0.goto 7 (D d21_28) ⟨by decide, by decide⟩ ?_
        refine X0.iload (x := (3 : Int32)) (D d21_7) rfl ?_
        refine X0.iloadN (x := (4 : Int32)) (D d21_9) rfl ?_
        refine X0.icmp_ge 31 (D d21_10) ⟨by decide, by decide⟩ (fun hc267 => absurd hc267 (by decide)) (fun hc267 => ?_)
        refine X0.aloadN (x := (.ref t)) (D d21_13) rfl rfl ?_
        refine X0.iload (x := (3 : Int32)) (D d21_14) rfl ?_
        show Goes p.tables e below _ (T0.setTop (mkF m 16 #[.val (.ref t), .val (.int (10 : Int32)), .val (.int (0 : Int32)), .val (.int (4 : Int32)), .val (.int (10 : Int32)), .val (.int (3 : Int32))] [(.int (3 : Int32)), (.ref t)]))
        refine X0.baload (v := (.int (StrChars.lo8 c3))) A2 ⟨by decide, by decide⟩ rfl (D d21_16) ?_
        show Goes p.tables e below _ (T0.setTop (mkF m 17 #[.val (.ref t), .val (.int (10 : Int32)), .val (.int (0 : Int32)), .val (.int (4 : Int32)), .val (.int (10 : Int32)), .val (.int (3 : Int32))] [(.int (StrChars.lo8 c3))]))
        refine X0.iload (x := (10 : Int32)) (D d21_17) rfl ?_
        refine X0.icmp_ne 25 (D d21_19) ⟨by decide, by decide⟩ (fun hc268 => ?_) (fun hc268 => ?_)
        · show Goes p.tables e below _ (T0.setTop (mkF m 25 #[.val (.ref t), .val (.int (10 : Int32)), .val (.int (0 : Int32)), .val (.int (4 : Int32)), .val (.int (10 : Int32)), .val (.int (3 : Int32))] []))
          have hk3 : ¬ c3 = 10 := fun q => hc268 (by rw [q]; decide)
          refine X0.iinc #[.val (.ref t), .val (.int (10 : Int32)), .val (.int (0 : Int32)), .val (.int (4 : Int32)), .val (.int (10 : Int32)), .val (.int (4 : Int32))] (D d21_25) rfl rfl ?_
          refine X0.goto 7 (D d21_28) ⟨by decide, by decide⟩ ?_
          refine X0.iload (x := (4 : Int32)) (D d21_7) rfl ?_
          refine X0.iloadN (x := (4 : Int32)) (D d21_9) rfl ?_
          refine X0.icmp_ge 31 (D d21_10) ⟨by decide, by decide⟩ (fun hc269 => ?_) (fun hc269 => absurd hc269 (by decide))
          refine X0.iconst (x := (-1 : Int32)) (D d21_31) rfl ?_
          exact X0.retI hret hlk (D d21_32) (by decide) (by decide) (congrArg (fun z => some (Value.int z)) (idx_no (by simp [ixN, hk0, hk1, hk2, hk3])).symm)
        · show Goes p.tables e below _ (T0.setTop (mkF m 22 #[.val (.ref t), .val (.int (10 : Int32)), .val (.int (0 : Int32)), .val (.int (4 : Int32)), .val (.int (10 : Int32)), .val (.int (3 : Int32))] []))
          have hk3 := lo10 r3 hc268
          refine X0.iload (x := (3 : Int32)) (D d21_22) rfl ?_
          exact X0.retI hret hlk (D d21_24) (by decide) (by decide) (congrArg (fun z => some (Value.int z)) (idx_at (k := 3) (by simp [ixN, hk0, hk1, hk2, hk3]) (Nat.le_of_ble_eq_true rfl)).symm)
      · show Goes p.tables e below _ (T0.setTop (mkF m 22 #[.val (.ref t), .val (.int (10 : Int32)), .val (.int (0 : Int32)), .val (.int (4 : Int32)), .val (.int (10 : Int32)), .val (.int (2 : Int32))] []))
        have hk2 := lo10 r2 hc266
        refine X0.iload (x := (2 : Int32)) (D d21_22) rfl ?_
        exact X0.retI hret hlk (D d21_24) (by decide) (by decide) (congrArg (fun z => some (Value.int z)) (idx_at (k := 2) (by simp [ixN, hk0, hk1, hk2]) (Nat.le_of_ble_eq_true rfl)).symm)
    · show Goes p.tables e below _ (T0.setTop (mkF m 22 #[.val (.ref t), .val (.int (10 : Int32)), .val (.int (0 : Int32)), .val (.int (4 : Int32)), .val (.int (10 : Int32)), .val (.int (1 : Int32))] []))
      have hk1 := lo10 r1 hc264
      refine X0.iload (x := (1 : Int32)) (D d21_22) rfl ?_
      exact X0.retI hret hlk (D d21_24) (by decide) (by decide) (congrArg (fun z => some (Value.int z)) (idx_at (k := 1) (by simp [ixN, hk0, hk1]) (Nat.le_of_ble_eq_true rfl)).symm)
  · show Goes p.tables e below _ (T0.setTop (mkF m 22 #[.val (.ref t), .val (.int (10 : Int32)), .val (.int (0 : Int32)), .val (.int (4 : Int32)), .val (.int (10 : Int32)), .val (.int (0 : Int32))] []))
    have hk0 := lo10 r0 hc262
    refine X0.iload (x := (0 : Int32)) (D d21_22) rfl ?_
    exact X0.retI hret hlk (D d21_24) (by decide) (by decide) (congrArg (fun z => some (Value.int z)) (idx_at (k := 0) (by simp [ixN, hk0]) (Nat.le_of_ble_eq_true rfl)).symm)
set_option maxRecDepth 65536 in
set_option maxHeartbeats 40000000 in
theorem ctIOC_5 (l : Launch) (Z : State) (a0 : Array Value) (hw : ∀ d ∈ tables_1, d.before a0 Z = true) (hEL : EW Z a0 consts_1) (z0 : Int32) (S0 : Sta Z Z.heap "java/lang/String" "COMPACT_STRINGS" "Z" (.int z0)) (hz0 : ¬ z0 = 0) (t : Addr) (kt : ClassId) (c0 c1 c2 c3 c4 : Int32) (h0 : Heap) (n0 : Nat) (AT : Arv Z h0 t kt .byte (Int32.ofNat [c0, c1, c2, c3, c4].length) (([c0, c1, c2, c3, c4].map StrChars.lo8).map Value.int) (.int 0)) (r0 : Rb c0) (r1 : Rb c1) (r2 : Rb c2) (r3 : Rb c3) (r4 : Rb c4) :
    Ct l Z consts_1 [] (⟨"java/lang/StringLatin1", "indexOfChar", "([BIII)I"⟩ : MethodName) jdk_43_method_23_code 6 (some .int) ({ frames := 0, cells := 0, slots := 0, locals := 0 } : Room) #[(.ref t), (.int (10 : Int32)), (.int (0 : Int32)), (.int (5 : Int32))] h0 n0 [] (fun v _ => v = some (.int (idx [c0, c1, c2, c3, c4]))) := by
  have w : ∀ {d : Jvm.Cond} (i : Nat), tables_1[i]? = some d → d.before a0 Z = true := fun i q => hw _ (List.mem_of_getElem? q)
  refine Ct.enter (plainFor_of_name pn_3) hEL ?_
  intro p e sS m below meth c T0 hby hml0 hret hlk hnm hs0 X0
  have hml : c.maxLocals = 6 := hml0
  have D : ∀ {pc : Nat} {r : Except DecodeError (Instr × Nat)}, decode jdk_43_method_23_code pc = r → decode c.code pc = r := fun q => hb hby q
  rw [show entryFrame m #[(.ref t), (.int (10 : Int32)), (.int (0 : Int32)), (.int (5 : Int32))] 6 = mkF m 0 #[.val (.ref t), .val (.int (10 : Int32)), .val (.int (0 : Int32)), .val (.int (5 : Int32)), .unset, .unset] [] from by first | (simp [entryFrame, mkF, argsToLocals, Value.category]; done) | rfl]
  have A2 : Arv Z h0 t kt .byte (5 : Int32) [(.int (StrChars.lo8 c0)), (.int (StrChars.lo8 c1)), (.int (StrChars.lo8 c2)), (.int (StrChars.lo8 c3)), (.int (StrChars.lo8 c4))] (.int 0) := AT
  refine X0.iloadN (x := (10 : Int32)) (D d21_0) rfl ?_
  refine X0.i2b (D d21_1) ?_
  show Goes p.tables e below _ (T0.setTop (mkF m 2 #[.val (.ref t), .val (.int (10 : Int32)), .val (.int (0 : Int32)), .val (.int (5 : Int32)), .unset, .unset] [(.int (10 : Int32))]))
  refine X0.istore #[.val (.ref t), .val (.int (10 : Int32)), .val (.int (0 : Int32)), .val (.int (5 : Int32)), .val (.int (10 : Int32)), .unset] (D d21_2) rfl ?_
  refine X0.iloadN (x := (0 : Int32)) (D d21_4) rfl ?_
  refine X0.istore #[.val (.ref t), .val (.int (10 : Int32)), .val (.int (0 : Int32)), .val (.int (5 : Int32)), .val (.int (10 : Int32)), .val (.int (0 : Int32))] (D d21_5) rfl ?_
  refine X0.iload (x := (0 : Int32)) (D d21_7) rfl ?_
  refine X0.iloadN (x := (5 : Int32)) (D d21_9) rfl ?_
  refine X0.icmp_ge 31 (D d21_10) ⟨by decide, by decide⟩ (fun hc270 => absurd hc270 (by decide)) (fun hc270 => ?_)
  refine X0.aloadN (x := (.ref t)) (D d21_13) rfl rfl ?_
  refine X0.iload (x := (0 : Int32)) (D d21_14) rfl ?_
  show Goes p.tables e below _ (T0.setTop (mkF m 16 #[.val (.ref t), .val (.int (10 : Int32)), .val (.int (0 : Int32)), .val (.int (5 : Int32)), .val (.int (10 : Int32)), .val (.int (0 : Int32))] [(.int (0 : Int32)), (.ref t)]))
  refine X0.baload (v := (.int (StrChars.lo8 c0))) A2 ⟨by decide, by decide⟩ rfl (D d21_16) ?_
  show Goes p.tables e below _ (T0.setTop (mkF m 17 #[.val (.ref t), .val (.int (10 : Int32)), .val (.int (0 : Int32)), .val (.int (5 : Int32)), .val (.int (10 : Int32)), .val (.int (0 : Int32))] [(.int (StrChars.lo8 c0))]))
  refine X0.iload (x := (10 : Int32)) (D d21_17) rfl ?_
  refine X0.icmp_ne 25 (D d21_19) ⟨by decide, by decide⟩ (fun hc271 => ?_) (fun hc271 => ?_)
  · show Goes p.tables e below _ (T0.setTop (mkF m 25 #[.val (.ref t), .val (.int (10 : Int32)), .val (.int (0 : Int32)), .val (.int (5 : Int32)), .val (.int (10 : Int32)), .val (.int (0 : Int32))] []))
    have hk0 : ¬ c0 = 10 := fun q => hc271 (by rw [q]; decide)
    refine X0.iinc #[.val (.ref t), .val (.int (10 : Int32)), .val (.int (0 : Int32)), .val (.int (5 : Int32)), .val (.int (10 : Int32)), .val (.int (1 : Int32))] (D d21_25) rfl rfl ?_
    refine X0.goto 7 (D d21_28) ⟨by decide, by decide⟩ ?_
    refine X0.iload (x := (1 : Int32)) (D d21_7) rfl ?_
    refine X0.iloadN (x := (5 : Int32)) (D d21_9) rfl ?_
    refine X0.icmp_ge 31 (D d21_10) ⟨by decide, by decide⟩ (fun hc272 => absurd hc272 (by decide)) (fun hc272 => ?_)
    refine X0.aloadN (x := (.ref t)) (D d21_13) rfl rfl ?_
    refine X0.iload (x := (1 : Int32)) (D d21_14) rfl ?_
    show Goes p.tables e below _ (T0.setTop (mkF m 16 #[.val (.ref t), .val (.int (10 : Int32)), .val (.int (0 : Int32)), .val (.int (5 : Int32)), .val (.int (10 : Int32)), .val (.int (1 : Int32))] [(.int (1 : Int32)), (.ref t)]))
    refine X0.baload (v := (.int (StrChars.lo8 c1))) A2 ⟨by decide, by decide⟩ rfl (D d21_16) ?_
    show Goes p.tables e below _ (T0.setTop (mkF m 17 #[.val (.ref t), .val (.int (10 : Int32)), .val (.int (0 : Int32)), .val (.int (5 : Int32)), .val (.int (10 : Int32)), .val (.int (1 : Int32))] [(.int (StrChars.lo8 c1))]))
    refine X0.iload (x := (10 : Int32)) (D d21_17) rfl ?_
    refine X0.icmp_ne 25 (D d21_19) ⟨by decide, by decide⟩ (fun hc273 => ?_) (fun hc273 => ?_)
    · show Goes p.tables e below _ (T0.setTop (mkF m 25 #[.val (.ref t), .val (.int (10 : Int32)), .val (.int (0 : Int32)), .val (.int (5 : Int32)), .val (.int (10 : Int32)), .val (.int (1 : Int32))] []))
      have hk1 : ¬ c1 = 10 := fun q => hc273 (by rw [q]; decide)
      refine X0.iinc #[.val (.ref t), .val (.int (10 : Int32)), .val (.int (0 : Int32)), .val (.int (5 : Int32)), .val (.int (10 : Int32)), .val (.int (2 : Int32))] (D d21_25) rfl rfl ?_
      refine X0.goto 7 (D d21_28) ⟨by decide, by decide⟩ ?_
      refine X0.iload (x := (2 : Int32)) (D d21_7) rfl ?_
      refine X0.iloadN (x := (5 : Int32)) (D d21_9) rfl ?_
      refine X0.icmp_ge 31 (D d21_10) ⟨by decide, by decide⟩ (fun hc274 => absurd hc274 (by decide)) (fun hc274 => ?_)
      refine X0.aloadN (x := (.ref t)) (D d21_13) rfl rfl ?_
      refine X0.iload (x := (2 : Int32)) (D d21_14) rfl ?_
      show Goes p.tables e below _ (T0.setTop (mkF m 16 #[.val (.ref t), .val (.int (10 : Int32)), .val (.int (0 : Int32)), .val (.int (5 : Int32)), .val (.int (10 : Int32)), .val (.int (2 : Int32))] [(.int (2 : Int32)), (.ref t)]))
      refine X0.baload (v := (.int (StrChars.lo8 c2))) A2 ⟨by decide, by decide⟩ rfl (D d21_16) ?_
      show Goes p.tables e below _ (T0.setTop (mkF m 17 #[.val (.ref t), .val (.int (10 : Int32)), .val (.int (0 : Int32)), .val (.int (5 : Int32)), .val (.int (10 : Int32)), .val (.int (2 : Int32))] [(.int (StrChars.lo8 c2))]))
      refine X0.iload (x := (10 : Int32)) (D d21_17) rfl ?_
      refine X0.icmp_ne 25 (D d21_19) ⟨by decide, by decide⟩ (fun hc275 => ?_) (fun hc275 => ?_)
      · show Goes p.tables e below _ (T0.setTop (mkF m 25 #[.val (.ref t), .val (.int (10 : Int32)), .val (.int (0 : Int32)), .val (.int (5 : Int32)), .val (.int (10 : Int32)), .val (.int (2 : Int32))] []))
        have hk2 : ¬ c2 = 10 := fun q => hc275 (by rw [q]; decide)
        refine X0.iinc #[.val (.ref t), .val (.int (10 : Int32)), .val (.int (0 : Int32)), .val (.int (5 : Int32)), .val (.int (10 : Int32)), .val (.int (3 : Int32))] (D d21_25) rfl rfl ?_
        refine X0.goto 7 (D d21_28) ⟨by decide, by decide⟩ ?_
        refine X0.iload (x := (3 : Int32)) (D d21_7) rfl ?_
        refine X0.iloadN (x := (5 : Int32)) (D d21_9) rfl ?_
        refine X0.icmp_ge 31 (D d21_10) ⟨by decide, by decide⟩ (fun hc276 => absurd hc276 (by decide)) (fun hc276 => ?_)
        refine X0.aloadN (x := (.ref t)) (D d21_13) rfl rfl ?_
        refine X0.iload (x := (3 : Int32)) (D d21_14) rfl ?_
        show Goes p.tables e below _ (T0.setTop (mkF m 16 #[.val (.ref t), .val (.int (10 : Int32)), .val (.int (0 : Int32)), .val (.int (5 : Int32)), .val (.int (10 : Int32)), .val (.int (3 : Int32))] [(.int (3 : Int32)), (.ref t)]))
        refine X0.baload (v := (.int (StrChars.lo8 c3))) A2 ⟨by decide, by decide⟩ rfl (D d21_16) ?_
        show Goes p.tables e below _ (T0.setTop (mkF m 17 #[.val (.ref t), .val (.int (10 : Int32)), .val (.int (0 : Int32)), .val (.int (5 : Int32)), .val (.int (10 : Int32)), .val (.int (3 : Int32))] [(.int (StrChars.lo8 c3))]))
        refine X0.iload (x := (10 : Int32)) (D d21_17) rfl ?_
        refine X0.icmp_ne 25 (D d21_19) ⟨by decide, by decide⟩ (fun hc277 => ?_) (fun hc277 => ?_)
        · show Goes p.tables e below _ (T0.setTop (mkF m 25 #[.val (.ref t), .val (.int (10 : Int32)), .val (.int (0 : Int32)), .val (.int (5 : Int32)), .val (.int (10 : Int32)), .val (.int (3 : Int32))] []))
          have hk3 : ¬ c3 = 10 := fun q => hc277 (by rw [q]; decide)
          refine X0.iinc #[.val (.ref t), .val (.int (10 : Int32)), .val (.int (0 : Int32)), .val (.int (5 : Int32)), .val (.int (10 : Int32)), .val (.int (4 : Int32))] (D d21_25) rfl rfl ?_
          refine X0.goto 7 (D d21_28) ⟨by decide, by decide⟩ ?_
          refine X0.iload (x := (4 : Int32)) (D d21_7) rfl ?_
          refine X0.iloadN (x := (5 : Int32)) (D d21_9) rfl ?_
          refine X0.icmp_ge 31 (D d21_10) ⟨by decide, by decide⟩ (fun hc278 => absurd hc278 (by decide)) (fun hc278 => ?_)
          refine X0.aloadN (x := (.ref t)) (D d21_13) rfl rfl ?_
          refine X0.iload (x := (4 : Int32)) (D d21_14) rfl ?_
          show Goes p.tables e below _ (T0.setTop (mkF m 16 #[.val (.ref t), .val (.int (10 : Int32)), .val (.int (0 : Int32)), .val (.int (5 : Int32)), .val (.int (10 : Int32)), .val (.int (4 : Int32))] [(.int (4 : Int32)), (.ref t)]))
          refine X0.baload (v := (.int (StrChars.lo8 c4))) A2 ⟨by decide, by decide⟩ rfl (D d21_16) ?_
          show Goes p.tables e below _ (T0.setTop (mkF m 17 #[.val (.ref t), .val (.int (10 : Int32)), .val (.int (0 : Int32)), .val (.int (5 : Int32)), .val (.int (10 : Int32)), .val (.int (4 : Int32))] [(.int (StrChars.lo8 c4))]))
          refine X0.iload (x := (10 : Int32)) (D d21_17) rfl ?_
          refine X0.icmp_ne 25 (D d21_19) ⟨by decide, by decide⟩ (fun hc279 => ?_) (fun hc279 => ?_)
          · show Goes p.tables e below _ (T0.setTop (mkF m 25 #[.val (.ref t), .val (.int (10 : Int32)), .val (.int (0 : Int32)), .val (.int (5 : Int32)), .val (.int (10 : Int32)), .val (.int (4 : Int32))] []))
            have hk4 : ¬ c4 = 10 := fun q => hc279 (by rw [q]; decide)
            refine X0.iinc #[.val (.ref t), .val (.int (10 : Int32)), .val (.int (0 : Int32)), .val (.int (5 : Int32)), .val (.int (10 : Int32)), .val (.int (5 : Int32))] (D d21_25) rfl rfl ?_
            refine X0.goto 7 (D d21_28) ⟨by decide, by decide⟩ ?_
            refine X0.iload (x := (5 : Int32)) (D d21_7) rfl ?_
            refine X0.iloadN (x := (5 : Int32)) (D d21_9) rfl ?_
            refine X0.icmp_ge 31 (D d21_10) ⟨by decide, by decide⟩ (fun hc280 => ?_) (fun hc280 => absurd hc280 (by decide))
            refine X0.iconst (x := (-1 : Int32)) (D d21_31) rfl ?_
            exact X0.retI hret hlk (D d21_32) (by decide) (by decide) (congrArg (fun z => some (Value.int z)) (idx_no (by simp [ixN, hk0, hk1, hk2, hk3, hk4])).symm)
          · show Goes p.tables e below _ (T0.setTop (mkF m 22 #[.val (.ref t), .val (.int (10 : Int32)), .val (.int (0 : Int32)), .val (.int (5 : Int32)), .val (.int (10 : Int32)), .val (.int (4 : Int32))] []))
            have hk4 := lo10 r4 hc279
            refine X0.iload (x := (4 : Int32)) (D d21_22) rfl ?_
            exact X0.retI hret hlk (D d21_24) (by decide) (by decide) (congrArg (fun z => some (Value.int z)) (idx_at (k := 4) (by simp [ixN, hk0, hk1, hk2, hk3, hk4]) (Nat.le_of_ble_eq_true rfl)).symm)
        · show Goes p.tables e below _ (T0.setTop (mkF m 22 #[.val (.ref t), .val (.int (10 : Int32)), .val (.int (0 : Int32)), .val (.int (5 : Int32)), .val (.int (10 : Int32)), .val (.int (3 : Int32))] []))
          have hk3 := lo10 r3 hc277
          refine X0.iload (x := (3 : Int32)) (D d21_22) rfl ?_
          exact X0.retI hret hlk (D d21_24) (by decide) (by decide) (congrArg (fun z => some (Value.int z)) (idx_at (k := 3) (by simp [ixN, hk0, hk1, hk2, hk3]) (Nat.le_of_ble_eq_true rfl)).symm)
      · show Goes p.tables e below _ (T0.setTop (mkF m 22 #[.val (.ref t), .val (.int (10 : Int32)), .val (.int (0 : Int32)), .val (.int (5 : Int32)), .val (.int (10 : Int32)), .val (.int (2 : Int32))] []))
        have hk2 := lo10 r2 hc275
        refine X0.iload (x := (2 : Int32)) (D d21_22) rfl ?_
        exact X0.retI hret hlk (D d21_24) (by decide) (by decide) (congrArg (fun z => some (Value.int z)) (idx_at (k := 2) (by simp [ixN, hk0, hk1, hk2]) (Nat.le_of_ble_eq_true rfl)).symm)
    · show Goes p.tables e below _ (T0.setTop (mkF m 22 #[.val (.ref t), .val (.int (10 : Int32)), .val (.int (0 : Int32)), .val (.int (5 : Int32)), .val (.int (10 : Int32)), .val (.int (1 : Int32))] []))
      have hk1 := lo10 r1 hc273
      refine X0.iload (x := (1 : Int32)) (D d21_22) rfl ?_
      exact X0.retI hret hlk (D d21_24) (by decide) (by decide) (congrArg (fun z => some (Value.int z)) (idx_at (k := 1) (by simp [ixN, hk0, hk1]) (Nat.le_of_ble_eq_true rfl)).symm)
  · show Goes p.tables e below _ (T0.setTop (mkF m 22 #[.val (.ref t), .val (.int (10 : Int32)), .val (.int (0 : Int32)), .val (.int (5 : Int32)), .val (.int (10 : Int32)), .val (.int (0 : Int32))] []))
    have hk0 := lo10 r0 hc271
    refine X0.iload (x := (0 : Int32)) (D d21_22) rfl ?_
    exact X0.retI hret hlk (D d21_24) (by decide) (by decide) (congrArg (fun z => some (Value.int z)) (idx_at (k := 0) (by simp [ixN, hk0]) (Nat.le_of_ble_eq_true rfl)).symm)
theorem ctIOC (l : Launch) (Z : State) (a0 : Array Value) (hw : ∀ d ∈ tables_1, d.before a0 Z = true) (hEL : EW Z a0 consts_1) (z0 : Int32) (S0 : Sta Z Z.heap "java/lang/String" "COMPACT_STRINGS" "Z" (.int z0)) (hz0 : ¬ z0 = 0)  (t : Addr) (kt : ClassId) (cs : List Int32) (h0 : Heap) (n0 : Nat) (AT : Arv Z h0 t kt .byte (Int32.ofNat cs.length) ((cs.map StrChars.lo8).map Value.int) (.int 0)) (hp : ∀ c ∈ cs, Rb c) (hl : cs.length ≤ 5) (h1 : 0 < cs.length) :
    Ct l Z consts_1 [] (⟨"java/lang/StringLatin1", "indexOfChar", "([BIII)I"⟩ : MethodName) jdk_43_method_23_code 6 (some .int) ({ frames := 0, cells := 0, slots := 0, locals := 0 } : Room) #[(.ref t), (.int (10 : Int32)), (.int (0 : Int32)), (.int (Int32.ofNat cs.length))] h0 n0 [] (fun v _ => v = some (.int (idx cs))) := by
  match cs, AT, hp, hl, h1 with
  | [c0], AT, hp, _, _ => exact ctIOC_1 l Z a0 hw hEL z0 S0 hz0  t kt c0 h0 n0 AT (hp c0 (by simp))
  | [c0, c1], AT, hp, _, _ => exact ctIOC_2 l Z a0 hw hEL z0 S0 hz0  t kt c0 c1 h0 n0 AT (hp c0 (by simp)) (hp c1 (by simp))
  | [c0, c1, c2], AT, hp, _, _ => exact ctIOC_3 l Z a0 hw hEL z0 S0 hz0  t kt c0 c1 c2 h0 n0 AT (hp c0 (by simp)) (hp c1 (by simp)) (hp c2 (by simp))
  | [c0, c1, c2, c3], AT, hp, _, _ => exact ctIOC_4 l Z a0 hw hEL z0 S0 hz0  t kt c0 c1 c2 c3 h0 n0 AT (hp c0 (by simp)) (hp c1 (by simp)) (hp c2 (by simp)) (hp c3 (by simp))
  | [c0, c1, c2, c3, c4], AT, hp, _, _ => exact ctIOC_5 l Z a0 hw hEL z0 S0 hz0  t kt c0 c1 c2 c3 c4 h0 n0 AT (hp c0 (by simp)) (hp c1 (by simp)) (hp c2 (by simp)) (hp c3 (by simp)) (hp c4 (by simp))
  | [], _, _, _, h => simp at h
  | _ :: _ :: _ :: _ :: _ :: _ :: _, _, _, hl, _ => simp at hl
theorem d11_0 : decode jdk_43_method_22_code 0 = .ok (.iload_n 1, 1) := by decide +kernel
theorem d11_1 : decode jdk_43_method_22_code 1 = .ok (.invokestatic 88, 3) := by decide +kernel
theorem d11_4 : decode jdk_43_method_22_code 4 = .ok (.ifCond .ne 5, 3) := by decide +kernel
theorem d11_7 : decode jdk_43_method_22_code 7 = .ok (.iconst (-1), 1) := by decide +kernel
theorem d11_8 : decode jdk_43_method_22_code 8 = .ok (.ireturn, 1) := by decide +kernel
theorem d11_9 : decode jdk_43_method_22_code 9 = .ok (.iload_n 2, 1) := by decide +kernel
theorem d11_10 : decode jdk_43_method_22_code 10 = .ok (.iconst 0, 1) := by decide +kernel
theorem d11_11 : decode jdk_43_method_22_code 11 = .ok (.invokestatic 92, 3) := by decide +kernel
theorem d11_14 : decode jdk_43_method_22_code 14 = .ok (.istore_n 2, 1) := by decide +kernel
theorem d11_15 : decode jdk_43_method_22_code 15 = .ok (.iload_n 3, 1) := by decide +kernel
theorem d11_16 : decode jdk_43_method_22_code 16 = .ok (.aload_n 0, 1) := by decide +kernel
theorem d11_17 : decode jdk_43_method_22_code 17 = .ok (.arraylength, 1) := by decide +kernel
theorem d11_18 : decode jdk_43_method_22_code 18 = .ok (.invokestatic 38, 3) := by decide +kernel
theorem d11_21 : decode jdk_43_method_22_code 21 = .ok (.istore_n 3, 1) := by decide +kernel
theorem d11_22 : decode jdk_43_method_22_code 22 = .ok (.iload_n 2, 1) := by decide +kernel
theorem d11_23 : decode jdk_43_method_22_code 23 = .ok (.iload_n 3, 1) := by decide +kernel
theorem d11_24 : decode jdk_43_method_22_code 24 = .ok (.if_icmp .lt 5, 3) := by decide +kernel
theorem d11_27 : decode jdk_43_method_22_code 27 = .ok (.iconst (-1), 1) := by decide +kernel
theorem d11_28 : decode jdk_43_method_22_code 28 = .ok (.ireturn, 1) := by decide +kernel
theorem d11_29 : decode jdk_43_method_22_code 29 = .ok (.aload_n 0, 1) := by decide +kernel
theorem d11_30 : decode jdk_43_method_22_code 30 = .ok (.iload_n 1, 1) := by decide +kernel
theorem d11_31 : decode jdk_43_method_22_code 31 = .ok (.iload_n 2, 1) := by decide +kernel
theorem d11_32 : decode jdk_43_method_22_code 32 = .ok (.iload_n 3, 1) := by decide +kernel
theorem d11_33 : decode jdk_43_method_22_code 33 = .ok (.invokestatic 95, 3) := by decide +kernel
theorem d11_36 : decode jdk_43_method_22_code 36 = .ok (.ireturn, 1) := by decide +kernel
theorem pd_11 : parseMethodDescriptor "(I)Z" = some ⟨[.int], (some .boolean)⟩ := by decide +kernel
theorem pd_12 : parseMethodDescriptor "([BIII)I" = some ⟨[(.array .byte), .int, .int, .int], (some .int)⟩ := by decide +kernel
set_option maxRecDepth 65536 in
set_option maxHeartbeats 40000000 in
theorem ctIX (l : Launch) (Z : State) (a0 : Array Value) (hw : ∀ d ∈ tables_1, d.before a0 Z = true) (hEL : EW Z a0 consts_1) (z0 : Int32) (S0 : Sta Z Z.heap "java/lang/String" "COMPACT_STRINGS" "Z" (.int z0)) (hz0 : ¬ z0 = 0) (t : Addr) (kt : ClassId) (cs : List Int32) (h0 : Heap) (n0 : Nat) (AT : Arv Z h0 t kt .byte (Int32.ofNat cs.length) ((cs.map StrChars.lo8).map Value.int) (.int 0)) (hp : ∀ c ∈ cs, Rb c) (hl : cs.length ≤ 5) :
    Ct l Z consts_1 [] (⟨"java/lang/StringLatin1", "indexOf", "([BIII)I"⟩ : MethodName) jdk_43_method_22_code 4 (some .int) ({ frames := 1, cells := 0, slots := 0, locals := 17 } : Room) #[(.ref t), (.int (10 : Int32)), (.int (0 : Int32)), (.int (Int32.ofNat cs.length))] h0 n0 [] (fun v _ => v = some (.int (idx cs))) := by
  have w : ∀ {d : Jvm.Cond} (i : Nat), tables_1[i]? = some d → d.before a0 Z = true := fun i q => hw _ (List.mem_of_getElem? q)
  refine Ct.enter (plainFor_of_name pn_3) hEL ?_
  intro p e sS m below meth c T0 hby hml0 hret hlk hnm hs0 X0
  have hml : c.maxLocals = 4 := hml0
  have D : ∀ {pc : Nat} {r : Except DecodeError (Instr × Nat)}, decode jdk_43_method_22_code pc = r → decode c.code pc = r := fun q => hb hby q
  rw [show entryFrame m #[(.ref t), (.int (10 : Int32)), (.int (0 : Int32)), (.int (Int32.ofNat cs.length))] 4 = mkF m 0 #[.val (.ref t), .val (.int (10 : Int32)), .val (.int (0 : Int32)), .val (.int (Int32.ofNat cs.length))] [] from by first | (simp [entryFrame, mkF, argsToLocals, Value.category]; done) | rfl]
  refine X0.iloadN (x := (10 : Int32)) (D d11_0) rfl ?_
  refine X0.calls [(.int (10 : Int32))] [] (ctCE l Z a0 hw hEL z0 S0 hz0 _ _) (w 63 rfl) (w 64 rfl) (w 61 rfl) (w 65 rfl) (by decide) (fun _ q => nomatch q) (by decide) 0 (by decide) (by decide) (by decide) (lenOf pd_11 rfl) rfl (Nat.le_of_ble_eq_true rfl) (by rw [hml]; rfl) (D d11_1) ?_
  rintro T281 h282 _ X284 K285 rfl
  have F286 := AT.keep K285 nin0
  show Goes p.tables e below _ (T281.setTop (mkF m 4 #[.val (.ref t), .val (.int (10 : Int32)), .val (.int (0 : Int32)), .val (.int (Int32.ofNat cs.length))] [(.int (1 : Int32))]))
  refine X284.if_ne 9 (D d11_4) ⟨by decide, by decide⟩ (fun hc287 => ?_) (fun hc287 => absurd hc287 (by decide))
  refine X284.iloadN (x := (0 : Int32)) (D d11_9) rfl ?_
  refine X284.iconst (x := (0 : Int32)) (D d11_10) rfl ?_
  refine X284.calls [(.int (0 : Int32)), (.int (0 : Int32))] [] (ctMax l Z a0 hw hEL z0 S0 hz0 _ _) (w 66 rfl) (w 67 rfl) (w 68 rfl) (w 69 rfl) (by decide) (fun _ q => nomatch q) (by decide) 0 (by decide) (by decide) (by decide) (lenOf pd_4 rfl) rfl (Nat.le_of_ble_eq_true rfl) (by rw [hml]; rfl) (D d11_11) ?_
  rintro T288 h289 _ X291 K292 rfl
  have F293 := F286.keep K292 nin0
  show Goes p.tables e below _ (T288.setTop (mkF m 14 #[.val (.ref t), .val (.int (10 : Int32)), .val (.int (0 : Int32)), .val (.int (Int32.ofNat cs.length))] [(.int (0 : Int32))]))
  refine X291.istoreN #[.val (.ref t), .val (.int (10 : Int32)), .val (.int (0 : Int32)), .val (.int (Int32.ofNat cs.length))] (D d11_14) rfl ?_
  refine X291.iloadN (x := (Int32.ofNat cs.length)) (D d11_15) rfl ?_
  refine X291.aloadN (x := (.ref t)) (D d11_16) rfl rfl ?_
  refine X291.alen F293 (D d11_17) ?_
  refine X291.calls [(.int (Int32.ofNat cs.length)), (.int (Int32.ofNat cs.length))] [] (ctMin l Z a0 hw hEL z0 S0 hz0 (Int32.ofNat cs.length) (Int32.ofNat cs.length) _ _) (w 70 rfl) (w 71 rfl) (w 68 rfl) (w 72 rfl) (by decide) (fun _ q => nomatch q) (by decide) 0 (by decide) (by decide) (by decide) (lenOf pd_4 rfl) rfl (Nat.le_of_ble_eq_true rfl) (by rw [hml]; rfl) (D d11_18) ?_
  rintro T294 h295 _ X297 K298 rfl
  have F299 := F293.keep K298 nin0
  show Goes p.tables e below _ (T294.setTop (mkF m 21 #[.val (.ref t), .val (.int (10 : Int32)), .val (.int (0 : Int32)), .val (.int (Int32.ofNat cs.length))] [(.int (if (Int32.ofNat cs.length) < (Int32.ofNat cs.length) then (Int32.ofNat cs.length) else (Int32.ofNat cs.length)))]))
  rw [ite_self]
  show Goes p.tables e below _ (T294.setTop (mkF m 21 #[.val (.ref t), .val (.int (10 : Int32)), .val (.int (0 : Int32)), .val (.int (Int32.ofNat cs.length))] [(.int (Int32.ofNat cs.length))]))
  refine X297.istoreN #[.val (.ref t), .val (.int (10 : Int32)), .val (.int (0 : Int32)), .val (.int (Int32.ofNat cs.length))] (D d11_21) rfl ?_
  refine X297.iloadN (x := (0 : Int32)) (D d11_22) rfl ?_
  refine X297.iloadN (x := (Int32.ofNat cs.length)) (D d11_23) rfl ?_
  refine X297.icmp_lt 29 (D d11_24) ⟨by decide, by decide⟩ (fun hc300 => ?_) (fun hc300 => ?_)
  · show Goes p.tables e below _ (T294.setTop (mkF m 29 #[.val (.ref t), .val (.int (10 : Int32)), .val (.int (0 : Int32)), .val (.int (Int32.ofNat cs.length))] []))
    refine X297.aloadN (x := (.ref t)) (D d11_29) rfl rfl ?_
    refine X297.iloadN (x := (10 : Int32)) (D d11_30) rfl ?_
    refine X297.iloadN (x := (0 : Int32)) (D d11_31) rfl ?_
    refine X297.iloadN (x := (Int32.ofNat cs.length)) (D d11_32) rfl ?_
    refine X297.calls [(.ref t), (.int (10 : Int32)), (.int (0 : Int32)), (.int (Int32.ofNat cs.length))] [] (ctIOC l Z a0 hw hEL z0 S0 hz0 t kt cs _ _ F299 hp hl ((o32pos (by omega)).mp hc300)) (w 96 rfl) (w 97 rfl) (w 61 rfl) (w 98 rfl) (by decide) (fun _ q => nomatch q) (by decide) 0 (by decide) (by decide) (by decide) (lenOf pd_12 rfl) rfl (Nat.le_of_ble_eq_true rfl) (by rw [hml]; rfl) (D d11_33) ?_
    rintro T301 h302 _ X304 K305 rfl
    have F306 := F299.keep K305 nin0
    show Goes p.tables e below _ (T301.setTop (mkF m 36 #[.val (.ref t), .val (.int (10 : Int32)), .val (.int (0 : Int32)), .val (.int (Int32.ofNat cs.length))] [(.int (idx cs))]))
    exact X304.retI hret hlk (D d11_36) (by decide) (by decide) (rfl)
  · show Goes p.tables e below _ (T294.setTop (mkF m 27 #[.val (.ref t), .val (.int (10 : Int32)), .val (.int (0 : Int32)), .val (.int (Int32.ofNat cs.length))] []))
    refine X297.iconst (x := (-1 : Int32)) (D d11_27) rfl ?_
    have hz : cs.length = 0 := by have q := mt (o32pos (a := cs.length) (by omega)).mpr hc300; omega
    exact X297.retI hret hlk (D d11_28) (by decide) (by decide) (congrArg (fun z => some (Value.int z)) (idx_no (by have q := ix_le cs; omega)).symm)
theorem d7_0 : decode jdk_42_method_80_code 0 = .ok (.aload_n 0, 1) := by decide +kernel
theorem d7_1 : decode jdk_42_method_80_code 1 = .ok (.invokevirtual 492, 3) := by decide +kernel
theorem d7_4 : decode jdk_42_method_80_code 4 = .ok (.ifCond .eq 19, 3) := by decide +kernel
theorem d7_7 : decode jdk_42_method_80_code 7 = .ok (.aload_n 0, 1) := by decide +kernel
theorem d7_8 : decode jdk_42_method_80_code 8 = .ok (.getfield 9, 3) := by decide +kernel
theorem d7_11 : decode jdk_42_method_80_code 11 = .ok (.iload_n 1, 1) := by decide +kernel
theorem d7_12 : decode jdk_42_method_80_code 12 = .ok (.iload_n 2, 1) := by decide +kernel
theorem d7_13 : decode jdk_42_method_80_code 13 = .ok (.aload_n 0, 1) := by decide +kernel
theorem d7_14 : decode jdk_42_method_80_code 14 = .ok (.invokevirtual 505, 3) := by decide +kernel
theorem d7_17 : decode jdk_42_method_80_code 17 = .ok (.invokestatic 637, 3) := by decide +kernel
theorem d7_20 : decode jdk_42_method_80_code 20 = .ok (.goto 16, 3) := by decide +kernel
theorem d7_23 : decode jdk_42_method_80_code 23 = .ok (.aload_n 0, 1) := by decide +kernel
theorem d7_24 : decode jdk_42_method_80_code 24 = .ok (.getfield 9, 3) := by decide +kernel
theorem d7_27 : decode jdk_42_method_80_code 27 = .ok (.iload_n 1, 1) := by decide +kernel
theorem d7_28 : decode jdk_42_method_80_code 28 = .ok (.iload_n 2, 1) := by decide +kernel
theorem d7_29 : decode jdk_42_method_80_code 29 = .ok (.aload_n 0, 1) := by decide +kernel
theorem d7_30 : decode jdk_42_method_80_code 30 = .ok (.invokevirtual 505, 3) := by decide +kernel
theorem d7_33 : decode jdk_42_method_80_code 33 = .ok (.invokestatic 640, 3) := by decide +kernel
theorem d7_36 : decode jdk_42_method_80_code 36 = .ok (.ireturn, 1) := by decide +kernel
set_option maxRecDepth 65536 in
set_option maxHeartbeats 40000000 in
theorem ctI2 (l : Launch) (Z : State) (a0 : Array Value) (hw : ∀ d ∈ tables_1, d.before a0 Z = true) (hEL : EW Z a0 consts_1) (z0 : Int32) (S0 : Sta Z Z.heap "java/lang/String" "COMPACT_STRINGS" "Z" (.int z0)) (hz0 : ¬ z0 = 0) (s t : Addr) (cs : List Int32) (h0 : Heap) (n0 : Nat) (OS : OStr Z h0 s t cs) (hl : cs.length ≤ 5) :
    Ct l Z consts_1 [] (⟨"java/lang/String", "indexOf", "(II)I"⟩ : MethodName) jdk_42_method_80_code 3 (some .int) ({ frames := 2, cells := 0, slots := 0, locals := 32 } : Room) #[(.ref s), (.int (10 : Int32)), (.int (0 : Int32))] h0 n0 [] (fun v _ => v = some (.int (idx cs))) := by
  have w : ∀ {d : Jvm.Cond} (i : Nat), tables_1[i]? = some d → d.before a0 Z = true := fun i q => hw _ (List.mem_of_getElem? q)
  refine Ct.enter (plainFor_of_name pn_1) hEL ?_
  intro p e sS m below meth c T0 hby hml0 hret hlk hnm hs0 X0
  have hml : c.maxLocals = 3 := hml0
  have D : ∀ {pc : Nat} {r : Except DecodeError (Instr × Nat)}, decode jdk_42_method_80_code pc = r → decode c.code pc = r := fun q => hb hby q
  rw [show entryFrame m #[(.ref s), (.int (10 : Int32)), (.int (0 : Int32))] 3 = mkF m 0 #[.val (.ref s), .val (.int (10 : Int32)), .val (.int (0 : Int32))] [] from by first | (simp [entryFrame, mkF, argsToLocals, Value.category]; done) | rfl]
  obtain ⟨F307, hp308, hl309, kb310, F311, F312, F313⟩ := id OS
  refine X0.aloadN (x := (.ref s)) (D d7_0) rfl rfl ?_
  refine X0.callv (y := (⟨"java/lang/String", "isLatin1", "()Z"⟩ : MethodName)) (a := s) (C := "java/lang/String") [] [] (ctIsL l Z a0 hw hEL z0 S0 hz0 s _ _ F312) F307 (w 43 rfl) (w 44 rfl) (w 46 rfl) (w 45 rfl) (w 7 rfl) (w 47 rfl) (by decide) (fun _ q => nomatch q) (by decide) 0 (by decide) (by decide) (by decide) (lenOf pd_9 rfl) rfl (Nat.le_of_ble_eq_true rfl) (by rw [hml]; rfl) (D d7_1) ?_
  rintro T314 h315 _ X317 K318 rfl
  have F319 := OS.keep K318 nin0 nin0
  have F320 := F307.keep K318
  have F321 := F311.keep K318 nin0
  have F322 := F312.keep K318 nin0
  have F323 := F313.keep K318 nin0
  show Goes p.tables e below _ (T314.setTop (mkF m 4 #[.val (.ref s), .val (.int (10 : Int32)), .val (.int (0 : Int32))] [(.int (1 : Int32))]))
  refine X317.if_eq 23 (D d7_4) ⟨by decide, by decide⟩ (fun hc324 => absurd hc324 (by decide)) (fun hc324 => ?_)
  refine X317.aloadN (x := (.ref s)) (D d7_7) rfl rfl ?_
  refine X317.getf (w 27 rfl) Via.refl F321 (D d7_8) ?_
  intro T325 X326
  show Goes p.tables e below _ (T325.setTop (mkF m 11 #[.val (.ref s), .val (.int (10 : Int32)), .val (.int (0 : Int32))] [(.ref t)]))
  refine X326.iloadN (x := (10 : Int32)) (D d7_11) rfl ?_
  refine X326.iloadN (x := (0 : Int32)) (D d7_12) rfl ?_
  refine X326.aloadN (x := (.ref s)) (D d7_13) rfl rfl ?_
  refine X326.callv (y := (⟨"java/lang/String", "length", "()I"⟩ : MethodName)) (a := s) (C := "java/lang/String") [] [(.int (0 : Int32)), (.int (10 : Int32)), (.ref t)] (ctLen l Z a0 hw hEL z0 S0 hz0 s t cs _ _ F319) F320 (w 49 rfl) (w 50 rfl) (w 52 rfl) (w 51 rfl) (w 7 rfl) (w 53 rfl) (by decide) (fun _ q => nomatch q) (by decide) 3 (by decide) (by decide) (by decide) (lenOf pd_7 rfl) rfl (Nat.le_of_ble_eq_true rfl) (by rw [hml]; rfl) (D d7_14) ?_
  rintro T327 h328 _ X330 K331 rfl
  have F332 := F319.keep K331 nin0 nin0
  have F333 := F320.keep K331
  have F334 := F321.keep K331 nin0
  have F335 := F322.keep K331 nin0
  have F336 := F323.keep K331 nin0
  show Goes p.tables e below _ (T327.setTop (mkF m 17 #[.val (.ref s), .val (.int (10 : Int32)), .val (.int (0 : Int32))] [(.int (Int32.ofNat cs.length)), (.int (0 : Int32)), (.int (10 : Int32)), (.ref t)]))
  refine X330.calls [(.ref t), (.int (10 : Int32)), (.int (0 : Int32)), (.int (Int32.ofNat cs.length))] [] (ctIX l Z a0 hw hEL z0 S0 hz0 t _ cs _ _ F336 hp308 hl) (w 59 rfl) (w 60 rfl) (w 61 rfl) (w 62 rfl) (by decide) (fun _ q => nomatch q) (by decide) 0 (by decide) (by decide) (by decide) (lenOf pd_12 rfl) rfl (Nat.le_of_ble_eq_true rfl) (by rw [hml]; rfl) (D d7_17) ?_
  rintro T337 h338 _ X340 K341 rfl
  have F342 := F332.keep K341 nin0 nin0
  have F343 := F333.keep K341
  have F344 := F334.keep K341 nin0
  have F345 := F335.keep K341 nin0
  have F346 := F336.keep K341 nin0
  show Goes p.tables e below _ (T337.setTop (mkF m 20 #[.val (.ref s), .val (.int (10 : Int32)), .val (.int (0 : Int32))] [(.int (idx cs))]))
  refine X340.goto 36 (D d7_20) ⟨by decide, by decide⟩ ?_
  exact X340.retI hret hlk (D d7_36) (by decide) (by decide) (rfl)
theorem d6_0 : decode jdk_42_method_79_code 0 = .ok (.aload_n 0, 1) := by decide +kernel
theorem d6_1 : decode jdk_42_method_79_code 1 = .ok (.iload_n 1, 1) := by decide +kernel
theorem d6_2 : decode jdk_42_method_79_code 2 = .ok (.iconst 0, 1) := by decide +kernel
theorem d6_3 : decode jdk_42_method_79_code 3 = .ok (.invokevirtual 633, 3) := by decide +kernel
theorem d6_6 : decode jdk_42_method_79_code 6 = .ok (.ireturn, 1) := by decide +kernel
set_option maxRecDepth 65536 in
set_option maxHeartbeats 40000000 in
theorem ctI1 (l : Launch) (Z : State) (a0 : Array Value) (hw : ∀ d ∈ tables_1, d.before a0 Z = true) (hEL : EW Z a0 consts_1) (z0 : Int32) (S0 : Sta Z Z.heap "java/lang/String" "COMPACT_STRINGS" "Z" (.int z0)) (hz0 : ¬ z0 = 0) (s t : Addr) (cs : List Int32) (h0 : Heap) (n0 : Nat) (OS : OStr Z h0 s t cs) (hl : cs.length ≤ 5) :
    Ct l Z consts_1 [] (⟨"java/lang/String", "indexOf", "(I)I"⟩ : MethodName) jdk_42_method_79_code 2 (some .int) ({ frames := 3, cells := 0, slots := 0, locals := 46 } : Room) #[(.ref s), (.int (10 : Int32))] h0 n0 [] (fun v _ => v = some (.int (idx cs))) := by
  have w : ∀ {d : Jvm.Cond} (i : Nat), tables_1[i]? = some d → d.before a0 Z = true := fun i q => hw _ (List.mem_of_getElem? q)
  refine Ct.enter (plainFor_of_name pn_1) hEL ?_
  intro p e sS m below meth c T0 hby hml0 hret hlk hnm hs0 X0
  have hml : c.maxLocals = 2 := hml0
  have D : ∀ {pc : Nat} {r : Except DecodeError (Instr × Nat)}, decode jdk_42_method_79_code pc = r → decode c.code pc = r := fun q => hb hby q
  rw [show entryFrame m #[(.ref s), (.int (10 : Int32))] 2 = mkF m 0 #[.val (.ref s), .val (.int (10 : Int32))] [] from by first | (simp [entryFrame, mkF, argsToLocals, Value.category]; done) | rfl]
  refine X0.aloadN (x := (.ref s)) (D d6_0) rfl rfl ?_
  refine X0.iloadN (x := (10 : Int32)) (D d6_1) rfl ?_
  refine X0.iconst (x := (0 : Int32)) (D d6_2) rfl ?_
  refine X0.callv (y := (⟨"java/lang/String", "indexOf", "(II)I"⟩ : MethodName)) (a := s) (C := "java/lang/String") [(.int (10 : Int32)), (.int (0 : Int32))] [] (ctI2 l Z a0 hw hEL z0 S0 hz0 s t cs _ _ OS hl) OS.1 (w 38 rfl) (w 39 rfl) (w 41 rfl) (w 40 rfl) (w 7 rfl) (w 42 rfl) (by decide) (fun _ q => nomatch q) (by decide) 0 (by decide) (by decide) (by decide) (lenOf pd_4 rfl) rfl (Nat.le_of_ble_eq_true rfl) (by rw [hml]; rfl) (D d6_3) ?_
  rintro T347 h348 _ X350 K351 rfl
  have F352 := OS.keep K351 nin0 nin0
  show Goes p.tables e below _ (T347.setTop (mkF m 6 #[.val (.ref s), .val (.int (10 : Int32))] [(.int (idx cs))]))
  exact X350.retI hret hlk (D d6_6) (by decide) (by decide) (rfl)
theorem d27_0 : decode jdk_43_method_44_code 0 = .ok (.aload_n 0, 1) := by decide +kernel
theorem d27_1 : decode jdk_43_method_44_code 1 = .ok (.iload_n 1, 1) := by decide +kernel
theorem d27_2 : decode jdk_43_method_44_code 2 = .ok (.baload, 1) := by decide +kernel
theorem d27_3 : decode jdk_43_method_44_code 3 = .ok (.sipush 255, 3) := by decide +kernel
theorem d27_6 : decode jdk_43_method_44_code 6 = .ok (.iand, 1) := by decide +kernel
theorem d27_7 : decode jdk_43_method_44_code 7 = .ok (.i2c, 1) := by decide +kernel
theorem d27_8 : decode jdk_43_method_44_code 8 = .ok (.ireturn, 1) := by decide +kernel
set_option maxRecDepth 65536 in
set_option maxHeartbeats 40000000 in
theorem ctGC (l : Launch) (Z : State) (a0 : Array Value) (hw : ∀ d ∈ tables_1, d.before a0 Z = true) (hEL : EW Z a0 consts_1) (z0 : Int32) (S0 : Sta Z Z.heap "java/lang/String" "COMPACT_STRINGS" "Z" (.int z0)) (hz0 : ¬ z0 = 0) (t : Addr) (kt : ClassId) (cs : List Int32) (i : Nat) (h0 : Heap) (n0 : Nat) (AT : Arv Z h0 t kt .byte (Int32.ofNat cs.length) ((cs.map StrChars.lo8).map Value.int) (.int 0)) (hp : ∀ c ∈ cs, Rb c) (hl : cs.length ≤ 4000) (hi : i < cs.length) :
    Ct l Z consts_1 [] (⟨"java/lang/StringLatin1", "getChar", "([BI)C"⟩ : MethodName) jdk_43_method_44_code 2 (some .char) ({ frames := 0, cells := 0, slots := 0, locals := 0 } : Room) #[(.ref t), (.int (Int32.ofNat i))] h0 n0 [] (fun v _ => v = some (.int (cs.getD i 0))) := by
  have w : ∀ {d : Jvm.Cond} (i : Nat), tables_1[i]? = some d → d.before a0 Z = true := fun i q => hw _ (List.mem_of_getElem? q)
  refine Ct.enter (plainFor_of_name pn_3) hEL ?_
  intro p e sS m below meth c T0 hby hml0 hret hlk hnm hs0 X0
  have hml : c.maxLocals = 2 := hml0
  have D : ∀ {pc : Nat} {r : Except DecodeError (Instr × Nat)}, decode jdk_43_method_44_code pc = r → decode c.code pc = r := fun q => hb hby q
  rw [show entryFrame m #[(.ref t), (.int (Int32.ofNat i))] 2 = mkF m 0 #[.val (.ref t), .val (.int (Int32.ofNat i))] [] from by first | (simp [entryFrame, mkF, argsToLocals, Value.category]; done) | rfl]
  refine X0.aloadN (x := (.ref t)) (D d27_0) rfl rfl ?_
  refine X0.iloadN (x := (Int32.ofNat i)) (D d27_1) rfl ?_
  show Goes p.tables e below _ (T0.setTop (mkF m 2 #[.val (.ref t), .val (.int (Int32.ofNat i))] [(.int (Int32.ofNat i)), (.ref t)]))
  refine X0.baload (v := (.int (StrChars.lo8 (cs.getD i 0)))) AT ⟨o32neg (by omega), (o32lt (by omega) (by omega)).mpr hi⟩ (by rw [o32tn (by omega)]; exact at_lo hi) (D d27_2) ?_
  show Goes p.tables e below _ (T0.setTop (mkF m 3 #[.val (.ref t), .val (.int (Int32.ofNat i))] [(.int (StrChars.lo8 (cs.getD i 0)))]))
  refine X0.sipush (x := (255 : Int32)) (D d27_3) rfl ?_
  refine X0.iand (D d27_6) ?_
  refine X0.i2c (D d27_7) ?_
  exact X0.reti hret (by simp) hlk (D d27_8) (by decide) (by decide) (ret_lo (hp _ (getD_mem hi)))
theorem d32_0 : decode jdk_43_method_2_code 0 = .ok (.iload_n 1, 1) := by decide +kernel
theorem d32_1 : decode jdk_43_method_2_code 1 = .ok (.aload_n 0, 1) := by decide +kernel
theorem d32_2 : decode jdk_43_method_2_code 2 = .ok (.arraylength, 1) := by decide +kernel
theorem d32_3 : decode jdk_43_method_2_code 3 = .ok (.invokestatic 9, 3) := by decide +kernel
theorem d32_6 : decode jdk_43_method_2_code 6 = .ok (.aload_n 0, 1) := by decide +kernel
theorem d32_7 : decode jdk_43_method_2_code 7 = .ok (.iload_n 1, 1) := by decide +kernel
theorem d32_8 : decode jdk_43_method_2_code 8 = .ok (.baload, 1) := by decide +kernel
theorem d32_9 : decode jdk_43_method_2_code 9 = .ok (.sipush 255, 3) := by decide +kernel
theorem d32_12 : decode jdk_43_method_2_code 12 = .ok (.iand, 1) := by decide +kernel
theorem d32_13 : decode jdk_43_method_2_code 13 = .ok (.i2c, 1) := by decide +kernel
theorem d32_14 : decode jdk_43_method_2_code 14 = .ok (.ireturn, 1) := by decide +kernel
set_option maxRecDepth 65536 in
set_option maxHeartbeats 40000000 in
theorem ctLA (l : Launch) (Z : State) (a0 : Array Value) (hw : ∀ d ∈ tables_1, d.before a0 Z = true) (hEL : EW Z a0 consts_1) (z0 : Int32) (S0 : Sta Z Z.heap "java/lang/String" "COMPACT_STRINGS" "Z" (.int z0)) (hz0 : ¬ z0 = 0) (fm : Value) (hfm : fm.isRef = true) (SF : Sta Z Z.heap "jdk/internal/util/Preconditions" "SIOOBE_FORMATTER" "Ljava/util/function/BiFunction;" fm) (t : Addr) (kt : ClassId) (cs : List Int32) (i : Nat) (h0 : Heap) (n0 : Nat) (AT : Arv Z h0 t kt .byte (Int32.ofNat cs.length) ((cs.map StrChars.lo8).map Value.int) (.int 0)) (hp : ∀ c ∈ cs, Rb c) (hl : cs.length ≤ 4000) (hi : i < cs.length) :
    Ct l Z consts_1 [] (⟨"java/lang/StringLatin1", "charAt", "([BI)C"⟩ : MethodName) jdk_43_method_2_code 2 (some .char) ({ frames := 2, cells := 0, slots := 0, locals := 27 } : Room) #[(.ref t), (.int (Int32.ofNat i))] h0 n0 [] (fun v _ => v = some (.int (cs.getD i 0))) := by
  have w : ∀ {d : Jvm.Cond} (i : Nat), tables_1[i]? = some d → d.before a0 Z = true := fun i q => hw _ (List.mem_of_getElem? q)
  refine Ct.enter (plainFor_of_name pn_3) hEL ?_
  intro p e sS m below meth c T0 hby hml0 hret hlk hnm hs0 X0
  have hml : c.maxLocals = 2 := hml0
  have D : ∀ {pc : Nat} {r : Except DecodeError (Instr × Nat)}, decode jdk_43_method_2_code pc = r → decode c.code pc = r := fun q => hb hby q
  rw [show entryFrame m #[(.ref t), (.int (Int32.ofNat i))] 2 = mkF m 0 #[.val (.ref t), .val (.int (Int32.ofNat i))] [] from by first | (simp [entryFrame, mkF, argsToLocals, Value.category]; done) | rfl]
  refine X0.iloadN (x := (Int32.ofNat i)) (D d32_0) rfl ?_
  refine X0.aloadN (x := (.ref t)) (D d32_1) rfl rfl ?_
  refine X0.alen AT (D d32_2) ?_
  refine X0.calls [(.int (Int32.ofNat i)), (.int (Int32.ofNat cs.length))] [] (ctSci l Z a0 hw hEL z0 S0 hz0 fm hfm SF (Int32.ofNat i) (Int32.ofNat cs.length) _ _ (o32neg (by omega)) ((o32lt (by omega) (by omega)).mpr hi)) (w 145 rfl) (w 146 rfl) (w 7 rfl) (w 147 rfl) (by decide) (fun _ q => nomatch q) (by decide) 0 (by decide) (by decide) (by decide) (lenOf pd_3 rfl) rfl (Nat.le_of_ble_eq_true rfl) (by rw [hml]; rfl) (D d32_3) ?_
  rintro T353 h354 _ X356 K357 rfl
  have F358 := AT.keep K357 nin0
  show Goes p.tables e below _ (T353.setTop (mkF m 6 #[.val (.ref t), .val (.int (Int32.ofNat i))] []))
  refine X356.aloadN (x := (.ref t)) (D d32_6) rfl rfl ?_
  refine X356.iloadN (x := (Int32.ofNat i)) (D d32_7) rfl ?_
  show Goes p.tables e below _ (T353.setTop (mkF m 8 #[.val (.ref t), .val (.int (Int32.ofNat i))] [(.int (Int32.ofNat i)), (.ref t)]))
  refine X356.baload (v := (.int (StrChars.lo8 (cs.getD i 0)))) F358 ⟨o32neg (by omega), (o32lt (by omega) (by omega)).mpr hi⟩ (by rw [o32tn (by omega)]; exact at_lo hi) (D d32_8) ?_
  show Goes p.tables e below _ (T353.setTop (mkF m 9 #[.val (.ref t), .val (.int (Int32.ofNat i))] [(.int (StrChars.lo8 (cs.getD i 0)))]))
  refine X356.sipush (x := (255 : Int32)) (D d32_9) rfl ?_
  refine X356.iand (D d32_12) ?_
  refine X356.i2c (D d32_13) ?_
  exact X356.reti hret (by simp) hlk (D d32_14) (by decide) (by decide) (ret_lo (hp _ (getD_mem hi)))
theorem d29_0 : decode jdk_116_method_1_code 0 = .ok (.iload_n 1, 1) := by decide +kernel
theorem d29_1 : decode jdk_116_method_1_code 1 = .ok (.i2c, 1) := by decide +kernel
theorem d29_2 : decode jdk_116_method_1_code 2 = .ok (.istore_n 2, 1) := by decide +kernel
theorem d29_3 : decode jdk_116_method_1_code 3 = .ok (.getstatic 1, 3) := by decide +kernel
theorem d29_6 : decode jdk_116_method_1_code 6 = .ok (.iload_n 2, 1) := by decide +kernel
theorem d29_7 : decode jdk_116_method_1_code 7 = .ok (.iaload, 1) := by decide +kernel
theorem d29_8 : decode jdk_116_method_1_code 8 = .ok (.istore_n 3, 1) := by decide +kernel
theorem d29_9 : decode jdk_116_method_1_code 9 = .ok (.iload_n 3, 1) := by decide +kernel
theorem d29_10 : decode jdk_116_method_1_code 10 = .ok (.ireturn, 1) := by decide +kernel
theorem pn_4 : plainName "java/lang/CharacterDataLatin1" = true := by first | (simp [plainName, overriddenIn]; done) | decide +kernel
set_option maxRecDepth 65536 in
set_option maxHeartbeats 40000000 in
theorem ctGP (l : Launch) (Z : State) (a0 : Array Value) (hw : ∀ d ∈ tables_1, d.before a0 Z = true) (hEL : EW Z a0 consts_1) (z0 : Int32) (S0 : Sta Z Z.heap "java/lang/String" "COMPACT_STRINGS" "Z" (.int z0)) (hz0 : ¬ z0 = 0) (ci aA : Addr) (cA : Cell) (SI : Sta Z Z.heap "java/lang/CharacterDataLatin1" "instance" "Ljava/lang/CharacterDataLatin1;" (.ref ci)) (IC : Exa Z Z.heap ci "java/lang/CharacterDataLatin1") (ST : Sta Z Z.heap "java/lang/CharacterDataLatin1" "A" "[I" (.ref aA)) (TA : TabW Z aA cA) (k : Fin 256) (h0 : Heap) (n0 : Nat)  :
    Ct l Z consts_1 [] (⟨"java/lang/CharacterDataLatin1", "getProperties", "(I)I"⟩ : MethodName) jdk_116_method_1_code 4 (some .int) ({ frames := 0, cells := 0, slots := 0, locals := 0 } : Room) #[(.ref ci), (.int (Int32.ofNat k.val))] h0 n0 [] (fun v _ => v = some (.int (pinA.getD k.val 0))) := by
  have w : ∀ {d : Jvm.Cond} (i : Nat), tables_1[i]? = some d → d.before a0 Z = true := fun i q => hw _ (List.mem_of_getElem? q)
  refine Ct.enter (plainFor_of_name pn_4) hEL ?_
  intro p e sS m below meth c T0 hby hml0 hret hlk hnm hs0 X0
  have hml : c.maxLocals = 4 := hml0
  have D : ∀ {pc : Nat} {r : Except DecodeError (Instr × Nat)}, decode jdk_116_method_1_code pc = r → decode c.code pc = r := fun q => hb hby q
  rw [show entryFrame m #[(.ref ci), (.int (Int32.ofNat k.val))] 4 = mkF m 0 #[.val (.ref ci), .val (.int (Int32.ofNat k.val)), .unset, .unset] [] from by first | (simp [entryFrame, mkF, argsToLocals, Value.category]; done) | rfl]
  refine X0.iloadN (x := (Int32.ofNat k.val)) (D d29_0) rfl ?_
  refine X0.i2c (D d29_1) ?_
  show Goes p.tables e below _ (T0.setTop (mkF m 2 #[.val (.ref ci), .val (.int (Int32.ofNat k.val)), .unset, .unset] [(.int (i2c (Int32.ofNat k.val)))]))
  rw [(show ∀ k : Fin 256, i2c (Int32.ofNat k.val) = Int32.ofNat k.val from by decide +kernel) k]
  show Goes p.tables e below _ (T0.setTop (mkF m 2 #[.val (.ref ci), .val (.int (Int32.ofNat k.val)), .unset, .unset] [(.int (Int32.ofNat k.val))]))
  refine X0.istoreN #[.val (.ref ci), .val (.int (Int32.ofNat k.val)), .val (.int (Int32.ofNat k.val)), .unset] (D d29_2) rfl ?_
  refine X0.gets (w 133 rfl) Via.refl (Sta.ext X0.old.2 ST) (D d29_3) ?_
  intro T359 X360
  show Goes p.tables e below _ (T359.setTop (mkF m 6 #[.val (.ref ci), .val (.int (Int32.ofNat k.val)), .val (.int (Int32.ofNat k.val)), .unset] [(.ref aA)]))
  refine X360.iloadN (x := (Int32.ofNat k.val)) (D d29_6) rfl ?_
  refine Wd.ialoadT (v := (.int (pinA.getD k.val 0))) X360 (TA.1.ext X360.old.2) (by rw [o32tn (by omega), TA.2.1]; exact fun q => q.elim (o32neg (by omega)) (by omega)) (by rw [o32tn (by omega)]; exact TA.2.2 _ k.isLt) (D d29_7) ?_
  show Goes p.tables e below _ (T359.setTop (mkF m 8 #[.val (.ref ci), .val (.int (Int32.ofNat k.val)), .val (.int (Int32.ofNat k.val)), .unset] [(.int (pinA.getD k.val 0))]))
  refine X360.istoreN #[.val (.ref ci), .val (.int (Int32.ofNat k.val)), .val (.int (Int32.ofNat k.val)), .val (.int (pinA.getD k.val 0))] (D d29_8) rfl ?_
  refine X360.iloadN (x := (pinA.getD k.val 0)) (D d29_9) rfl ?_
  exact X360.retI hret hlk (D d29_10) (by decide) (by decide) (rfl)
theorem d28_0 : decode jdk_116_method_26_code 0 = .ok (.aload_n 0, 1) := by decide +kernel
theorem d28_1 : decode jdk_116_method_26_code 1 = .ok (.iload_n 1, 1) := by decide +kernel
theorem d28_2 : decode jdk_116_method_26_code 2 = .ok (.invokevirtual 15, 3) := by decide +kernel
theorem d28_5 : decode jdk_116_method_26_code 5 = .ok (.istore_n 2, 1) := by decide +kernel
theorem d28_6 : decode jdk_116_method_26_code 6 = .ok (.iload_n 2, 1) := by decide +kernel
theorem d28_7 : decode jdk_116_method_26_code 7 = .ok (.sipush 28672, 3) := by decide +kernel
theorem d28_10 : decode jdk_116_method_26_code 10 = .ok (.iand, 1) := by decide +kernel
theorem d28_11 : decode jdk_116_method_26_code 11 = .ok (.sipush 16384, 3) := by decide +kernel
theorem d28_14 : decode jdk_116_method_26_code 14 = .ok (.if_icmp .ne 7, 3) := by decide +kernel
theorem d28_17 : decode jdk_116_method_26_code 17 = .ok (.iconst 1, 1) := by decide +kernel
theorem d28_18 : decode jdk_116_method_26_code 18 = .ok (.goto 4, 3) := by decide +kernel
theorem d28_21 : decode jdk_116_method_26_code 21 = .ok (.iconst 0, 1) := by decide +kernel
theorem d28_22 : decode jdk_116_method_26_code 22 = .ok (.ireturn, 1) := by decide +kernel
theorem pd_13 : parseMethodDescriptor "(I)I" = some ⟨[.int], (some .int)⟩ := by decide +kernel
set_option maxRecDepth 65536 in
set_option maxHeartbeats 40000000 in
theorem ctIW0 (l : Launch) (Z : State) (a0 : Array Value) (hw : ∀ d ∈ tables_1, d.before a0 Z = true) (hEL : EW Z a0 consts_1) (z0 : Int32) (S0 : Sta Z Z.heap "java/lang/String" "COMPACT_STRINGS" "Z" (.int z0)) (hz0 : ¬ z0 = 0) (ci aA : Addr) (cA : Cell) (SI : Sta Z Z.heap "java/lang/CharacterDataLatin1" "instance" "Ljava/lang/CharacterDataLatin1;" (.ref ci)) (IC : Exa Z Z.heap ci "java/lang/CharacterDataLatin1") (ST : Sta Z Z.heap "java/lang/CharacterDataLatin1" "A" "[I" (.ref aA)) (TA : TabW Z aA cA) (k : Fin 256) (h0 : Heap) (n0 : Nat)  :
    Ct l Z consts_1 [] (⟨"java/lang/CharacterDataLatin1", "isWhitespace", "(I)Z"⟩ : MethodName) jdk_116_method_26_code 3 (some .boolean) ({ frames := 1, cells := 0, slots := 0, locals := 15 } : Room) #[(.ref ci), (.int (Int32.ofNat k.val))] h0 n0 [] (fun v _ => (v = some (.int 1) ∧ wsP (Int32.ofNat k.val)) ∨ (v = some (.int 0) ∧ ¬ wsP (Int32.ofNat k.val))) := by
  have w : ∀ {d : Jvm.Cond} (i : Nat), tables_1[i]? = some d → d.before a0 Z = true := fun i q => hw _ (List.mem_of_getElem? q)
  refine Ct.enter (plainFor_of_name pn_4) hEL ?_
  intro p e sS m below meth c T0 hby hml0 hret hlk hnm hs0 X0
  have hml : c.maxLocals = 3 := hml0
  have D : ∀ {pc : Nat} {r : Except DecodeError (Instr × Nat)}, decode jdk_116_method_26_code pc = r → decode c.code pc = r := fun q => hb hby q
  rw [show entryFrame m #[(.ref ci), (.int (Int32.ofNat k.val))] 3 = mkF m 0 #[.val (.ref ci), .val (.int (Int32.ofNat k.val)), .unset] [] from by first | (simp [entryFrame, mkF, argsToLocals, Value.category]; done) | rfl]
  have E_ci := IC.ext X0.old.2
  refine X0.aloadN (x := (.ref ci)) (D d28_0) rfl rfl ?_
  refine X0.iloadN (x := (Int32.ofNat k.val)) (D d28_1) rfl ?_
  refine X0.callv (y := (⟨"java/lang/CharacterDataLatin1", "getProperties", "(I)I"⟩ : MethodName)) (a := ci) (C := "java/lang/CharacterDataLatin1") [(.int (Int32.ofNat k.val))] [] (ctGP l Z a0 hw hEL z0 S0 hz0 ci aA cA SI IC ST TA k _ _) E_ci (w 128 rfl) (w 129 rfl) (w 131 rfl) (w 130 rfl) (w 122 rfl) (w 132 rfl) (by decide) (fun _ q => nomatch q) (by decide) 0 (by decide) (by decide) (by decide) (lenOf pd_13 rfl) rfl (Nat.le_of_ble_eq_true rfl) (by rw [hml]; rfl) (D d28_2) ?_
  rintro T361 h362 _ X364 K365 rfl
  have F366 := E_ci.keep K365
  show Goes p.tables e below _ (T361.setTop (mkF m 5 #[.val (.ref ci), .val (.int (Int32.ofNat k.val)), .unset] [(.int (pinA.getD k.val 0))]))
  refine X364.istoreN #[.val (.ref ci), .val (.int (Int32.ofNat k.val)), .val (.int (pinA.getD k.val 0))] (D d28_5) rfl ?_
  refine X364.iloadN (x := (pinA.getD k.val 0)) (D d28_6) rfl ?_
  refine X364.sipush (x := (28672 : Int32)) (D d28_7) rfl ?_
  refine X364.iand (D d28_10) ?_
  refine X364.sipush (x := (16384 : Int32)) (D d28_11) rfl ?_
  refine X364.icmp_ne 21 (D d28_14) ⟨by decide, by decide⟩ (fun hc367 => ?_) (fun hc367 => ?_)
  · show Goes p.tables e below _ (T361.setTop (mkF m 21 #[.val (.ref ci), .val (.int (Int32.ofNat k.val)), .val (.int (pinA.getD k.val 0))] []))
    refine X364.iconst (x := (0 : Int32)) (D d28_21) rfl ?_
    exact X364.reti hret (by simp) hlk (D d28_22) (by decide) (by decide) (Or.inr ⟨rfl, fun q => hc367 ((ws_tab k).mpr q)⟩)
  · show Goes p.tables e below _ (T361.setTop (mkF m 17 #[.val (.ref ci), .val (.int (Int32.ofNat k.val)), .val (.int (pinA.getD k.val 0))] []))
    refine X364.iconst (x := (1 : Int32)) (D d28_17) rfl ?_
    refine X364.goto 22 (D d28_18) ⟨by decide, by decide⟩ ?_
    exact X364.reti hret (by simp) hlk (D d28_22) (by decide) (by decide) (Or.inl ⟨rfl, (ws_tab k).mp hc367⟩)
theorem ctIW (l : Launch) (Z : State) (a0 : Array Value) (hw : ∀ d ∈ tables_1, d.before a0 Z = true) (hEL : EW Z a0 consts_1) (z0 : Int32) (S0 : Sta Z Z.heap "java/lang/String" "COMPACT_STRINGS" "Z" (.int z0)) (hz0 : ¬ z0 = 0) (ci aA : Addr) (cA : Cell) (SI : Sta Z Z.heap "java/lang/CharacterDataLatin1" "instance" "Ljava/lang/CharacterDataLatin1;" (.ref ci)) (IC : Exa Z Z.heap ci "java/lang/CharacterDataLatin1") (ST : Sta Z Z.heap "java/lang/CharacterDataLatin1" "A" "[I" (.ref aA)) (TA : TabW Z aA cA) (x : Int32) (hx : Rb x) (h0 : Heap) (n0 : Nat) :
    Ct l Z consts_1 [] (⟨"java/lang/CharacterDataLatin1", "isWhitespace", "(I)Z"⟩ : MethodName) jdk_116_method_26_code 3 (some .boolean) ({ frames := 1, cells := 0, slots := 0, locals := 15 } : Room) #[(.ref ci), (.int x)] h0 n0 [] (fun v _ => (v = some (.int 1) ∧ wsP x) ∨ (v = some (.int 0) ∧ ¬ wsP x)) := by
  obtain ⟨k, rfl⟩ := rb_nat hx
  exact ctIW0 l Z a0 hw hEL z0 S0 hz0 ci aA cA SI IC ST TA k h0 n0
theorem d17_0 : decode jdk_43_method_37_code 0 = .ok (.aload_n 0, 1) := by decide +kernel
theorem d17_1 : decode jdk_43_method_37_code 1 = .ok (.arraylength, 1) := by decide +kernel
theorem d17_2 : decode jdk_43_method_37_code 2 = .ok (.istore_n 1, 1) := by decide +kernel
theorem d17_3 : decode jdk_43_method_37_code 3 = .ok (.iconst 0, 1) := by decide +kernel
theorem d17_4 : decode jdk_43_method_37_code 4 = .ok (.istore_n 2, 1) := by decide +kernel
theorem d17_5 : decode jdk_43_method_37_code 5 = .ok (.iload_n 2, 1) := by decide +kernel
theorem d17_6 : decode jdk_43_method_37_code 6 = .ok (.iload_n 1, 1) := by decide +kernel
theorem d17_7 : decode jdk_43_method_37_code 7 = .ok (.if_icmp .ge 40, 3) := by decide +kernel
theorem d17_10 : decode jdk_43_method_37_code 10 = .ok (.aload_n 0, 1) := by decide +kernel
theorem d17_11 : decode jdk_43_method_37_code 11 = .ok (.iload_n 2, 1) := by decide +kernel
theorem d17_12 : decode jdk_43_method_37_code 12 = .ok (.invokestatic 50, 3) := by decide +kernel
theorem d17_15 : decode jdk_43_method_37_code 15 = .ok (.istore_n 3, 1) := by decide +kernel
theorem d17_16 : decode jdk_43_method_37_code 16 = .ok (.iload_n 3, 1) := by decide +kernel
theorem d17_17 : decode jdk_43_method_37_code 17 = .ok (.bipush 32, 2) := by decide +kernel
theorem d17_19 : decode jdk_43_method_37_code 19 = .ok (.if_icmp .eq 22, 3) := by decide +kernel
theorem d17_22 : decode jdk_43_method_37_code 22 = .ok (.iload_n 3, 1) := by decide +kernel
theorem d17_23 : decode jdk_43_method_37_code 23 = .ok (.bipush 9, 2) := by decide +kernel
theorem d17_25 : decode jdk_43_method_37_code 25 = .ok (.if_icmp .eq 16, 3) := by decide +kernel
theorem d17_28 : decode jdk_43_method_37_code 28 = .ok (.getstatic 66, 3) := by decide +kernel
theorem d17_31 : decode jdk_43_method_37_code 31 = .ok (.iload_n 3, 1) := by decide +kernel
theorem d17_32 : decode jdk_43_method_37_code 32 = .ok (.invokevirtual 211, 3) := by decide +kernel
theorem d17_35 : decode jdk_43_method_37_code 35 = .ok (.ifCond .ne 6, 3) := by decide +kernel
theorem d17_38 : decode jdk_43_method_37_code 38 = .ok (.goto 9, 3) := by decide +kernel
theorem d17_41 : decode jdk_43_method_37_code 41 = .ok (.iinc 2 1, 3) := by decide +kernel
theorem d17_44 : decode jdk_43_method_37_code 44 = .ok (.goto (-39), 3) := by decide +kernel
theorem d17_47 : decode jdk_43_method_37_code 47 = .ok (.iload_n 2, 1) := by decide +kernel
theorem d17_48 : decode jdk_43_method_37_code 48 = .ok (.ireturn, 1) := by decide +kernel
set_option maxRecDepth 65536 in
set_option maxHeartbeats 40000000 in
theorem ctNW_0 (l : Launch) (Z : State) (a0 : Array Value) (hw : ∀ d ∈ tables_1, d.before a0 Z = true) (hEL : EW Z a0 consts_1) (z0 : Int32) (S0 : Sta Z Z.heap "java/lang/String" "COMPACT_STRINGS" "Z" (.int z0)) (hz0 : ¬ z0 = 0) (ci aA : Addr) (cA : Cell) (SI : Sta Z Z.heap "java/lang/CharacterDataLatin1" "instance" "Ljava/lang/CharacterDataLatin1;" (.ref ci)) (IC : Exa Z Z.heap ci "java/lang/CharacterDataLatin1") (ST : Sta Z Z.heap "java/lang/CharacterDataLatin1" "A" "[I" (.ref aA)) (TA : TabW Z aA cA) (t : Addr) (kt : ClassId)  (h0 : Heap) (n0 : Nat) (AT : Arv Z h0 t kt .byte (Int32.ofNat ([] : List Int32).length) ((([] : List Int32).map StrChars.lo8).map Value.int) (.int 0))  :
    Ct l Z consts_1 [] (⟨"java/lang/StringLatin1", "indexOfNonWhitespace", "([B)I"⟩ : MethodName) jdk_43_method_37_code 4 (some .int) ({ frames := 3, cells := 0, slots := 0, locals := 60 } : Room) #[(.ref t)] h0 n0 [] (fun v _ => v = some (.int (Int32.ofNat (nwN ([] : List Int32))))) := by
  have w : ∀ {d : Jvm.Cond} (i : Nat), tables_1[i]? = some d → d.before a0 Z = true := fun i q => hw _ (List.mem_of_getElem? q)
  refine Ct.enter (plainFor_of_name pn_3) hEL ?_
  intro p e sS m below meth c T0 hby hml0 hret hlk hnm hs0 X0
  have hml : c.maxLocals = 4 := hml0
  have D : ∀ {pc : Nat} {r : Except DecodeError (Instr × Nat)}, decode jdk_43_method_37_code pc = r → decode c.code pc = r := fun q => hb hby q
  rw [show entryFrame m #[(.ref t)] 4 = mkF m 0 #[.val (.ref t), .unset, .unset, .unset] [] from by first | (simp [entryFrame, mkF, argsToLocals, Value.category]; done) | rfl]
  have E_ci := IC.ext X0.old.2
  have A2 : Arv Z h0 t kt .byte (0 : Int32) [] (.int 0) := AT
  refine X0.aloadN (x := (.ref t)) (D d17_0) rfl rfl ?_
  refine X0.alen A2 (D d17_1) ?_
  refine X0.istoreN #[.val (.ref t), .val (.int (0 : Int32)), .unset, .unset] (D d17_2) rfl ?_
  refine X0.iconst (x := (0 : Int32)) (D d17_3) rfl ?_
  refine X0.istoreN #[.val (.ref t), .val (.int (0 : Int32)), .val (.int (0 : Int32)), .unset] (D d17_4) rfl ?_
  refine X0.iloadN (x := (0 : Int32)) (D d17_5) rfl ?_
  refine X0.iloadN (x := (0 : Int32)) (D d17_6) rfl ?_
  refine X0.icmp_ge 47 (D d17_7) ⟨by decide, by decide⟩ (fun hc368 => ?_) (fun hc368 => absurd hc368 (by decide))
  refine X0.iloadN (x := (0 : Int32)) (D d17_47) rfl ?_
  exact X0.retI hret hlk (D d17_48) (by decide) (by decide) (rfl)
theorem pd_14 : parseMethodDescriptor "([BI)C" = some ⟨[(.array .byte), .int], (some .char)⟩ := by decide +kernel
set_option maxRecDepth 65536 in
set_option maxHeartbeats 40000000 in
theorem ctNW_1 (l : Launch) (Z : State) (a0 : Array Value) (hw : ∀ d ∈ tables_1, d.before a0 Z = true) (hEL : EW Z a0 consts_1) (z0 : Int32) (S0 : Sta Z Z.heap "java/lang/String" "COMPACT_STRINGS" "Z" (.int z0)) (hz0 : ¬ z0 = 0) (ci aA : Addr) (cA : Cell) (SI : Sta Z Z.heap "java/lang/CharacterDataLatin1" "instance" "Ljava/lang/CharacterDataLatin1;" (.ref ci)) (IC : Exa Z Z.heap ci "java/lang/CharacterDataLatin1") (ST : Sta Z Z.heap "java/lang/CharacterDataLatin1" "A" "[I" (.ref aA)) (TA : TabW Z aA cA) (t : Addr) (kt : ClassId) (c0 : Int32) (h0 : Heap) (n0 : Nat) (AT : Arv Z h0 t kt .byte (Int32.ofNat [c0].length) (([c0].map StrChars.lo8).map Value.int) (.int 0)) (r0 : Rb c0) :
    Ct l Z consts_1 [] (⟨"java/lang/StringLatin1", "indexOfNonWhitespace", "([B)I"⟩ : MethodName) jdk_43_method_37_code 4 (some .int) ({ frames := 3, cells := 0, slots := 0, locals := 60 } : Room) #[(.ref t)] h0 n0 [] (fun v _ => v = some (.int (Int32.ofNat (nwN [c0])))) := by
  have w : ∀ {d : Jvm.Cond} (i : Nat), tables_1[i]? = some d → d.before a0 Z = true := fun i q => hw _ (List.mem_of_getElem? q)
  refine Ct.enter (plainFor_of_name pn_3) hEL ?_
  intro p e sS m below meth c T0 hby hml0 hret hlk hnm hs0 X0
  have hml : c.maxLocals = 4 := hml0
  have D : ∀ {pc : Nat} {r : Except DecodeError (Instr × Nat)}, decode jdk_43_method_37_code pc = r → decode c.code pc = r := fun q => hb hby q
  rw [show entryFrame m #[(.ref t)] 4 = mkF m 0 #[.val (.ref t), .unset, .unset, .unset] [] from by first | (simp [entryFrame, mkF, argsToLocals, Value.category]; done) | rfl]
  have E_ci := IC.ext X0.old.2
  have A2 : Arv Z h0 t kt .byte (1 : Int32) [(.int (StrChars.lo8 c0))] (.int 0) := AT
  refine X0.aloadN (x := (.ref t)) (D d17_0) rfl rfl ?_
  refine X0.alen A2 (D d17_1) ?_
  refine X0.istoreN #[.val (.ref t), .val (.int (1 : Int32)), .unset, .unset] (D d17_2) rfl ?_
  refine X0.iconst (x := (0 : Int32)) (D d17_3) rfl ?_
  refine X0.istoreN #[.val (.ref t), .val (.int (1 : Int32)), .val (.int (0 : Int32)), .unset] (D d17_4) rfl ?_
  refine X0.iloadN (x := (0 : Int32)) (D d17_5) rfl ?_
  refine X0.iloadN (x := (1 : Int32)) (D d17_6) rfl ?_
  refine X0.icmp_ge 47 (D d17_7) ⟨by decide, by decide⟩ (fun hc369 => absurd hc369 (by decide)) (fun hc369 => ?_)
  refine X0.aloadN (x := (.ref t)) (D d17_10) rfl rfl ?_
  refine X0.iloadN (x := (0 : Int32)) (D d17_11) rfl ?_
  show Goes p.tables e below _ (T0.setTop (mkF m 12 #[.val (.ref t), .val (.int (1 : Int32)), .val (.int (0 : Int32)), .unset] [(.int (0 : Int32)), (.ref t)]))
  suffices adv0 : ∀ (T370 : State) (h371 : Heap), Wd p l e ({ frames := 3, cells := 0, slots := 0, locals := 60 } : Room) sS m #[(.ref t)] below meth c Z a0 consts_1 ((⟨"java/lang/StringLatin1", "indexOfNonWhitespace", "([B)I"⟩ : MethodName)).cls n0 [] [] T370 h371 0 0 → Arv Z h371 t kt .byte (1 : Int32) [(.int (StrChars.lo8 c0))] (.int 0) → Exa Z h371 ci "java/lang/CharacterDataLatin1" → (wsP c0) → Goes p.tables e below (Endq Z consts_1 sS n0 [] ({ frames := 3, cells := 0, slots := 0, locals := 60 } : Room) (fun v _ => v = some (.int (Int32.ofNat (nwN [c0]))))) (T370.setTop (mkF m 41 #[.val (.ref t), .val (.int (1 : Int32)), .val (.int (0 : Int32)), .val (.int c0)] [])) by
    refine X0.calls [(.ref t), (.int (0 : Int32))] [] (ctGC l Z a0 hw hEL z0 S0 hz0 t kt [c0] 0 _ _ A2 (hpS r0 hp0) (Nat.le_of_ble_eq_true rfl) (Nat.le_of_ble_eq_true rfl)) (w 118 rfl) (w 119 rfl) (w 61 rfl) (w 120 rfl) (by decide) (fun _ q => nomatch q) (by decide) 0 (by decide) (by decide) (by decide) (lenOf pd_14 rfl) rfl (Nat.le_of_ble_eq_true rfl) (by rw [hml]; rfl) (D d17_12) ?_
    rintro T375 h376 _ X378 K379 rfl
    have F380 := E_ci.keep K379
    have F381 := A2.keep K379 nin0
    show Goes p.tables e below _ (T375.setTop (mkF m 15 #[.val (.ref t), .val (.int (1 : Int32)), .val (.int (0 : Int32)), .unset] [(.int c0)]))
    refine X378.istoreN #[.val (.ref t), .val (.int (1 : Int32)), .val (.int (0 : Int32)), .val (.int c0)] (D d17_15) rfl ?_
    refine X378.iloadN (x := c0) (D d17_16) rfl ?_
    refine X378.bipush (x := (32 : Int32)) (D d17_17) rfl ?_
    refine X378.icmp_eq 41 (D d17_19) ⟨by decide, by decide⟩ (fun hc382 => ?_) (fun hc382 => ?_)
    · show Goes p.tables e below _ (T375.setTop (mkF m 41 #[.val (.ref t), .val (.int (1 : Int32)), .val (.int (0 : Int32)), .val (.int c0)] []))
      show Goes p.tables e below _ (T375.setTop (mkF m 41 #[.val (.ref t), .val (.int (1 : Int32)), .val (.int (0 : Int32)), .val (.int c0)] []))
      exact adv0 _ _  X378 F381 F380 (Or.inl hc382)
    · show Goes p.tables e below _ (T375.setTop (mkF m 22 #[.val (.ref t), .val (.int (1 : Int32)), .val (.int (0 : Int32)), .val (.int c0)] []))
      refine X378.iloadN (x := c0) (D d17_22) rfl ?_
      refine X378.bipush (x := (9 : Int32)) (D d17_23) rfl ?_
      refine X378.icmp_eq 41 (D d17_25) ⟨by decide, by decide⟩ (fun hc383 => ?_) (fun hc383 => ?_)
      · show Goes p.tables e below _ (T375.setTop (mkF m 41 #[.val (.ref t), .val (.int (1 : Int32)), .val (.int (0 : Int32)), .val (.int c0)] []))
        show Goes p.tables e below _ (T375.setTop (mkF m 41 #[.val (.ref t), .val (.int (1 : Int32)), .val (.int (0 : Int32)), .val (.int c0)] []))
        exact adv0 _ _  X378 F381 F380 (by rw [hc383]; decide)
      · show Goes p.tables e below _ (T375.setTop (mkF m 28 #[.val (.ref t), .val (.int (1 : Int32)), .val (.int (0 : Int32)), .val (.int c0)] []))
        refine X378.gets (w 121 rfl) Via.refl (Sta.ext X378.old.2 SI) (D d17_28) ?_
        intro T384 X385
        show Goes p.tables e below _ (T384.setTop (mkF m 31 #[.val (.ref t), .val (.int (1 : Int32)), .val (.int (0 : Int32)), .val (.int c0)] [(.ref ci)]))
        refine X385.iloadN (x := c0) (D d17_31) rfl ?_
        refine X385.callv (y := (⟨"java/lang/CharacterDataLatin1", "isWhitespace", "(I)Z"⟩ : MethodName)) (a := ci) (C := "java/lang/CharacterDataLatin1") [(.int c0)] [] (ctIW l Z a0 hw hEL z0 S0 hz0 ci aA cA SI IC ST TA c0 r0 _ _) F380 (w 123 rfl) (w 124 rfl) (w 126 rfl) (w 125 rfl) (w 122 rfl) (w 127 rfl) (by decide) (fun _ q => nomatch q) (by decide) 0 (by decide) (by decide) (by decide) (lenOf pd_11 rfl) rfl (Nat.le_of_ble_eq_true rfl) (by rw [hml]; rfl) (D d17_32) ?_
        rintro T387 h388 _ X390 K391 (⟨rfl, hc386⟩ | ⟨rfl, hc386⟩)
        · have F392 := F380.keep K391
          have F393 := F381.keep K391 nin0
          show Goes p.tables e below _ (T387.setTop (mkF m 35 #[.val (.ref t), .val (.int (1 : Int32)), .val (.int (0 : Int32)), .val (.int c0)] [(.int (1 : Int32))]))
          refine X390.if_ne 41 (D d17_35) ⟨by decide, by decide⟩ (fun hc394 => ?_) (fun hc394 => absurd hc394 (by decide))
          show Goes p.tables e below _ (T387.setTop (mkF m 41 #[.val (.ref t), .val (.int (1 : Int32)), .val (.int (0 : Int32)), .val (.int c0)] []))
          exact adv0 _ _  X390 F393 F392 hc386
        · have F392 := F380.keep K391
          have F393 := F381.keep K391 nin0
          show Goes p.tables e below _ (T387.setTop (mkF m 35 #[.val (.ref t), .val (.int (1 : Int32)), .val (.int (0 : Int32)), .val (.int c0)] [(.int (0 : Int32))]))
          refine X390.if_ne 41 (D d17_35) ⟨by decide, by decide⟩ (fun hc395 => absurd hc395 (by decide)) (fun hc395 => ?_)
          refine X390.goto 47 (D d17_38) ⟨by decide, by decide⟩ ?_
          refine X390.iloadN (x := (0 : Int32)) (D d17_47) rfl ?_
          exact X390.retI hret hlk (D d17_48) (by decide) (by decide) (congrArg (fun z => some (Value.int (Int32.ofNat z))) (show 0 = nwN [c0] from by simp [nwN, hc386]))
  intro T370 h371  X372 F373 F374 hw0
  refine X372.iinc #[.val (.ref t), .val (.int (1 : Int32)), .val (.int (1 : Int32)), .val (.int c0)] (D d17_41) rfl rfl ?_
  refine X372.goto 5 (D d17_44) ⟨by decide, by decide⟩ ?_
  refine X372.iloadN (x := (1 : Int32)) (D d17_5) rfl ?_
  refine X372.iloadN (x := (1 : Int32)) (D d17_6) rfl ?_
  refine X372.icmp_ge 47 (D d17_7) ⟨by decide, by decide⟩ (fun hc396 => ?_) (fun hc396 => absurd hc396 (by decide))
  refine X372.iloadN (x := (1 : Int32)) (D d17_47) rfl ?_
  exact X372.retI hret hlk (D d17_48) (by decide) (by decide) (congrArg (fun z => some (Value.int (Int32.ofNat z))) (show 1 = nwN [c0] from by simp [nwN, hw0]))
theorem d30_0 : decode jdk_43_method_38_code 0 = .ok (.aload_n 0, 1) := by decide +kernel
theorem d30_1 : decode jdk_43_method_38_code 1 = .ok (.arraylength, 1) := by decide +kernel
theorem d30_2 : decode jdk_43_method_38_code 2 = .ok (.istore_n 1, 1) := by decide +kernel
theorem d30_3 : decode jdk_43_method_38_code 3 = .ok (.iload_n 1, 1) := by decide +kernel
theorem d30_4 : decode jdk_43_method_38_code 4 = .ok (.istore_n 2, 1) := by decide +kernel
theorem d30_5 : decode jdk_43_method_38_code 5 = .ok (.iconst 0, 1) := by decide +kernel
theorem d30_6 : decode jdk_43_method_38_code 6 = .ok (.iload_n 2, 1) := by decide +kernel
theorem d30_7 : decode jdk_43_method_38_code 7 = .ok (.if_icmp .ge 42, 3) := by decide +kernel
theorem d30_10 : decode jdk_43_method_38_code 10 = .ok (.aload_n 0, 1) := by decide +kernel
theorem d30_11 : decode jdk_43_method_38_code 11 = .ok (.iload_n 2, 1) := by decide +kernel
theorem d30_12 : decode jdk_43_method_38_code 12 = .ok (.iconst 1, 1) := by decide +kernel
theorem d30_13 : decode jdk_43_method_38_code 13 = .ok (.isub, 1) := by decide +kernel
theorem d30_14 : decode jdk_43_method_38_code 14 = .ok (.invokestatic 50, 3) := by decide +kernel
theorem d30_17 : decode jdk_43_method_38_code 17 = .ok (.istore_n 3, 1) := by decide +kernel
theorem d30_18 : decode jdk_43_method_38_code 18 = .ok (.iload_n 3, 1) := by decide +kernel
theorem d30_19 : decode jdk_43_method_38_code 19 = .ok (.bipush 32, 2) := by decide +kernel
theorem d30_21 : decode jdk_43_method_38_code 21 = .ok (.if_icmp .eq 22, 3) := by decide +kernel
theorem d30_24 : decode jdk_43_method_38_code 24 = .ok (.iload_n 3, 1) := by decide +kernel
theorem d30_25 : decode jdk_43_method_38_code 25 = .ok (.bipush 9, 2) := by decide +kernel
theorem d30_27 : decode jdk_43_method_38_code 27 = .ok (.if_icmp .eq 16, 3) := by decide +kernel
theorem d30_30 : decode jdk_43_method_38_code 30 = .ok (.getstatic 66, 3) := by decide +kernel
theorem d30_33 : decode jdk_43_method_38_code 33 = .ok (.iload_n 3, 1) := by decide +kernel
theorem d30_34 : decode jdk_43_method_38_code 34 = .ok (.invokevirtual 211, 3) := by decide +kernel
theorem d30_37 : decode jdk_43_method_38_code 37 = .ok (.ifCond .ne 6, 3) := by decide +kernel
theorem d30_40 : decode jdk_43_method_38_code 40 = .ok (.goto 9, 3) := by decide +kernel
theorem d30_43 : decode jdk_43_method_38_code 43 = .ok (.iinc 2 (-1), 3) := by decide +kernel
theorem d30_46 : decode jdk_43_method_38_code 46 = .ok (.goto (-41), 3) := by decide +kernel
theorem d30_49 : decode jdk_43_method_38_code 49 = .ok (.iload_n 2, 1) := by decide +kernel
theorem d30_50 : decode jdk_43_method_38_code 50 = .ok (.ireturn, 1) := by decide +kernel
set_option maxRecDepth 65536 in
set_option maxHeartbeats 40000000 in
theorem ctLW_1 (l : Launch) (Z : State) (a0 : Array Value) (hw : ∀ d ∈ tables_1, d.before a0 Z = true) (hEL : EW Z a0 consts_1) (z0 : Int32) (S0 : Sta Z Z.heap "java/lang/String" "COMPACT_STRINGS" "Z" (.int z0)) (hz0 : ¬ z0 = 0) (ci aA : Addr) (cA : Cell) (SI : Sta Z Z.heap "java/lang/CharacterDataLatin1" "instance" "Ljava/lang/CharacterDataLatin1;" (.ref ci)) (IC : Exa Z Z.heap ci "java/lang/CharacterDataLatin1") (ST : Sta Z Z.heap "java/lang/CharacterDataLatin1" "A" "[I" (.ref aA)) (TA : TabW Z aA cA) (t : Addr) (kt : ClassId) (c0 : Int32) (h0 : Heap) (n0 : Nat) (AT : Arv Z h0 t kt .byte (Int32.ofNat [c0].length) (([c0].map StrChars.lo8).map Value.int) (.int 0)) (r0 : Rb c0) :
    Ct l Z consts_1 [] (⟨"java/lang/StringLatin1", "lastIndexOfNonWhitespace", "([B)I"⟩ : MethodName) jdk_43_method_38_code 4 (some .int) ({ frames := 3, cells := 0, slots := 0, locals := 60 } : Room) #[(.ref t)] h0 n0 [] (fun v _ => v = some (.int (Int32.ofNat (lwN [c0])))) := by
  have w : ∀ {d : Jvm.Cond} (i : Nat), tables_1[i]? = some d → d.before a0 Z = true := fun i q => hw _ (List.mem_of_getElem? q)
  refine Ct.enter (plainFor_of_name pn_3) hEL ?_
  intro p e sS m below meth c T0 hby hml0 hret hlk hnm hs0 X0
  have hml : c.maxLocals = 4 := hml0
  have D : ∀ {pc : Nat} {r : Except DecodeError (Instr × Nat)}, decode jdk_43_method_38_code pc = r → decode c.code pc = r := fun q => hb hby q
  rw [show entryFrame m #[(.ref t)] 4 = mkF m 0 #[.val (.ref t), .unset, .unset, .unset] [] from by first | (simp [entryFrame, mkF, argsToLocals, Value.category]; done) | rfl]
  have E_ci := IC.ext X0.old.2
  have A2 : Arv Z h0 t kt .byte (1 : Int32) [(.int (StrChars.lo8 c0))] (.int 0) := AT
  refine X0.aloadN (x := (.ref t)) (D d30_0) rfl rfl ?_
  refine X0.alen A2 (D d30_1) ?_
  refine X0.istoreN #[.val (.ref t), .val (.int (1 : Int32)), .unset, .unset] (D d30_2) rfl ?_
  refine X0.iloadN (x := (1 : Int32)) (D d30_3) rfl ?_
  refine X0.istoreN #[.val (.ref t), .val (.int (1 : Int32)), .val (.int (1 : Int32)), .unset] (D d30_4) rfl ?_
  refine X0.iconst (x := (0 : Int32)) (D d30_5) rfl ?_
  refine X0.iloadN (x := (1 : Int32)) (D d30_6) rfl ?_
  refine X0.icmp_ge 49 (D d30_7) ⟨by decide, by decide⟩ (fun hc397 => absurd hc397 (by decide)) (fun hc397 => ?_)
  refine X0.aloadN (x := (.ref t)) (D d30_10) rfl rfl ?_
  refine X0.iloadN (x := (1 : Int32)) (D d30_11) rfl ?_
  refine X0.iconst (x := (1 : Int32)) (D d30_12) rfl ?_
  refine X0.isub (D d30_13) ?_
  show Goes p.tables e below _ (T0.setTop (mkF m 14 #[.val (.ref t), .val (.int (1 : Int32)), .val (.int (1 : Int32)), .unset] [(.int (0 : Int32)), (.ref t)]))
  show Goes p.tables e below _ (T0.setTop (mkF m 14 #[.val (.ref t), .val (.int (1 : Int32)), .val (.int (1 : Int32)), .unset] [(.int (0 : Int32)), (.ref t)]))
  suffices adv0 : ∀ (T398 : State) (h399 : Heap), Wd p l e ({ frames := 3, cells := 0, slots := 0, locals := 60 } : Room) sS m #[(.ref t)] below meth c Z a0 consts_1 ((⟨"java/lang/StringLatin1", "lastIndexOfNonWhitespace", "([B)I"⟩ : MethodName)).cls n0 [] [] T398 h399 0 0 → Arv Z h399 t kt .byte (1 : Int32) [(.int (StrChars.lo8 c0))] (.int 0) → Exa Z h399 ci "java/lang/CharacterDataLatin1" → (wsP c0) → Goes p.tables e below (Endq Z consts_1 sS n0 [] ({ frames := 3, cells := 0, slots := 0, locals := 60 } : Room) (fun v _ => v = some (.int (Int32.ofNat (lwN [c0]))))) (T398.setTop (mkF m 43 #[.val (.ref t), .val (.int (1 : Int32)), .val (.int (1 : Int32)), .val (.int c0)] [])) by
    refine X0.calls [(.ref t), (.int (0 : Int32))] [] (ctGC l Z a0 hw hEL z0 S0 hz0 t kt [c0] 0 _ _ A2 (hpS r0 hp0) (Nat.le_of_ble_eq_true rfl) (Nat.le_of_ble_eq_true rfl)) (w 118 rfl) (w 119 rfl) (w 61 rfl) (w 120 rfl) (by decide) (fun _ q => nomatch q) (by decide) 0 (by decide) (by decide) (by decide) (lenOf pd_14 rfl) rfl (Nat.le_of_ble_eq_true rfl) (by rw [hml]; rfl) (D d30_14) ?_
    rintro T403 h404 _ X406 K407 rfl
    have F408 := E_ci.keep K407
    have F409 := A2.keep K407 nin0
    show Goes p.tables e below _ (T403.setTop (mkF m 17 #[.val (.ref t), .val (.int (1 : Int32)), .val (.int (1 : Int32)), .unset] [(.int c0)]))
    refine X406.istoreN #[.val (.ref t), .val (.int (1 : Int32)), .val (.int (1 : Int32)), .val (.int c0)] (D d30_17) rfl ?_
    refine X406.iloadN (x := c0) (D d30_18) rfl ?_
    refine X406.bipush (x := (32 : Int32)) (D d30_19) rfl ?_
    refine X406.icmp_eq 43 (D d30_21) ⟨by decide, by decide⟩ (fun hc410 => ?_) (fun hc410 => ?_)
    · show Goes p.tables e below _ (T403.setTop (mkF m 43 #[.val (.ref t), .val (.int (1 : Int32)), .val (.int (1 : Int32)), .val (.int c0)] []))
      show Goes p.tables e below _ (T403.setTop (mkF m 43 #[.val (.ref t), .val (.int (1 : Int32)), .val (.int (1 : Int32)), .val (.int c0)] []))
      exact adv0 _ _  X406 F409 F408 (Or.inl hc410)
    · show Goes p.tables e below _ (T403.setTop (mkF m 24 #[.val (.ref t), .val (.int (1 : Int32)), .val (.int (1 : Int32)), .val (.int c0)] []))
      refine X406.iloadN (x := c0) (D d30_24) rfl ?_
      refine X406.bipush (x := (9 : Int32)) (D d30_25) rfl ?_
      refine X406.icmp_eq 43 (D d30_27) ⟨by decide, by decide⟩ (fun hc411 => ?_) (fun hc411 => ?_)
      · show Goes p.tables e below _ (T403.setTop (mkF m 43 #[.val (.ref t), .val (.int (1 : Int32)), .val (.int (1 : Int32)), .val (.int c0)] []))
        show Goes p.tables e below _ (T403.setTop (mkF m 43 #[.val (.ref t), .val (.int (1 : Int32)), .val (.int (1 : Int32)), .val (.int c0)] []))
        exact adv0 _ _  X406 F409 F408 (by rw [hc411]; decide)
      · show Goes p.tables e below _ (T403.setTop (mkF m 30 #[.val (.ref t), .val (.int (1 : Int32)), .val (.int (1 : Int32)), .val (.int c0)] []))
        refine X406.gets (w 121 rfl) Via.refl (Sta.ext X406.old.2 SI) (D d30_30) ?_
        intro T412 X413
        show Goes p.tables e below _ (T412.setTop (mkF m 33 #[.val (.ref t), .val (.int (1 : Int32)), .val (.int (1 : Int32)), .val (.int c0)] [(.ref ci)]))
        refine X413.iloadN (x := c0) (D d30_33) rfl ?_
        refine X413.callv (y := (⟨"java/lang/CharacterDataLatin1", "isWhitespace", "(I)Z"⟩ : MethodName)) (a := ci) (C := "java/lang/CharacterDataLatin1") [(.int c0)] [] (ctIW l Z a0 hw hEL z0 S0 hz0 ci aA cA SI IC ST TA c0 r0 _ _) F408 (w 123 rfl) (w 124 rfl) (w 126 rfl) (w 125 rfl) (w 122 rfl) (w 127 rfl) (by decide) (fun _ q => nomatch q) (by decide) 0 (by decide) (by decide) (by decide) (lenOf pd_11 rfl) rfl (Nat.le_of_ble_eq_true rfl) (by rw [hml]; rfl) (D d30_34) ?_
        rintro T415 h416 _ X418 K419 (⟨rfl, hc414⟩ | ⟨rfl, hc414⟩)
        · have F420 := F408.keep K419
          have F421 := F409.keep K419 nin0
          show Goes p.tables e below _ (T415.setTop (mkF m 37 #[.val (.ref t), .val (.int (1 : Int32)), .val (.int (1 : Int32)), .val (.int c0)] [(.int (1 : Int32))]))
          refine X418.if_ne 43 (D d30_37) ⟨by decide, by decide⟩ (fun hc422 => ?_) (fun hc422 => absurd hc422 (by decide))
          show Goes p.tables e below _ (T415.setTop (mkF m 43 #[.val (.ref t), .val (.int (1 : Int32)), .val (.int (1 : Int32)), .val (.int c0)] []))
          exact adv0 _ _  X418 F421 F420 hc414
        · have F420 := F408.keep K419
          have F421 := F409.keep K419 nin0
          show Goes p.tables e below _ (T415.setTop (mkF m 37 #[.val (.ref t), .val (.int (1 : Int32)), .val (.int (1 : Int32)), .val (.int c0)] [(.int (0 : Int32))]))
          refine X418.if_ne 43 (D d30_37) ⟨by decide, by decide⟩ (fun hc423 => absurd hc423 (by decide)) (fun hc423 => ?_)
          refine X418.goto 49 (D d30_40) ⟨by decide, by decide⟩ ?_
          refine X418.iloadN (x := (1 : Int32)) (D d30_49) rfl ?_
          exact X418.retI hret hlk (D d30_50) (by decide) (by decide) (congrArg (fun z => some (Value.int (Int32.ofNat z))) (show 1 = lwN [c0] from by simp [lwN, hc414]))
  intro T398 h399  X400 F401 F402 hw0
  refine X400.iinc #[.val (.ref t), .val (.int (1 : Int32)), .val (.int (0 : Int32)), .val (.int c0)] (D d30_43) rfl rfl ?_
  refine X400.goto 5 (D d30_46) ⟨by decide, by decide⟩ ?_
  refine X400.iconst (x := (0 : Int32)) (D d30_5) rfl ?_
  refine X400.iloadN (x := (0 : Int32)) (D d30_6) rfl ?_
  refine X400.icmp_ge 49 (D d30_7) ⟨by decide, by decide⟩ (fun hc424 => ?_) (fun hc424 => absurd hc424 (by decide))
  refine X400.iloadN (x := (0 : Int32)) (D d30_49) rfl ?_
  exact X400.retI hret hlk (D d30_50) (by decide) (by decide) (congrArg (fun z => some (Value.int (Int32.ofNat z))) (show 0 = lwN [c0] from by simp [lwN, hw0]))
set_option maxRecDepth 65536 in
set_option maxHeartbeats 40000000 in
theorem ctNW_2 (l : Launch) (Z : State) (a0 : Array Value) (hw : ∀ d ∈ tables_1, d.before a0 Z = true) (hEL : EW Z a0 consts_1) (z0 : Int32) (S0 : Sta Z Z.heap "java/lang/String" "COMPACT_STRINGS" "Z" (.int z0)) (hz0 : ¬ z0 = 0) (ci aA : Addr) (cA : Cell) (SI : Sta Z Z.heap "java/lang/CharacterDataLatin1" "instance" "Ljava/lang/CharacterDataLatin1;" (.ref ci)) (IC : Exa Z Z.heap ci "java/lang/CharacterDataLatin1") (ST : Sta Z Z.heap "java/lang/CharacterDataLatin1" "A" "[I" (.ref aA)) (TA : TabW Z aA cA) (t : Addr) (kt : ClassId) (c0 c1 : Int32) (h0 : Heap) (n0 : Nat) (AT : Arv Z h0 t kt .byte (Int32.ofNat [c0, c1].length) (([c0, c1].map StrChars.lo8).map Value.int) (.int 0)) (r0 : Rb c0) (r1 : Rb c1) :
    Ct l Z consts_1 [] (⟨"java/lang/StringLatin1", "indexOfNonWhitespace", "([B)I"⟩ : MethodName) jdk_43_method_37_code 4 (some .int) ({ frames := 3, cells := 0, slots := 0, locals := 60 } : Room) #[(.ref t)] h0 n0 [] (fun v _ => v = some (.int (Int32.ofNat (nwN [c0, c1])))) := by
  have w : ∀ {d : Jvm.Cond} (i : Nat), tables_1[i]? = some d → d.before a0 Z = true := fun i q => hw _ (List.mem_of_getElem? q)
  refine Ct.enter (plainFor_of_name pn_3) hEL ?_
  intro p e sS m below meth c T0 hby hml0 hret hlk hnm hs0 X0
  have hml : c.maxLocals = 4 := hml0
  have D : ∀ {pc : Nat} {r : Except DecodeError (Instr × Nat)}, decode jdk_43_method_37_code pc = r → decode c.code pc = r := fun q => hb hby q
  rw [show entryFrame m #[(.ref t)] 4 = mkF m 0 #[.val (.ref t), .unset, .unset, .unset] [] from by first | (simp [entryFrame, mkF, argsToLocals, Value.category]; done) | rfl]
  have E_ci := IC.ext X0.old.2
  have A2 : Arv Z h0 t kt .byte (2 : Int32) [(.int (StrChars.lo8 c0)), (.int (StrChars.lo8 c1))] (.int 0) := AT
  refine X0.aloadN (x := (.ref t)) (D d17_0) rfl rfl ?_
  refine X0.alen A2 (D d17_1) ?_
  refine X0.istoreN #[.val (.ref t), .val (.int (2 : Int32)), .unset, .unset] (D d17_2) rfl ?_
  refine X0.iconst (x := (0 : Int32)) (D d17_3) rfl ?_
  refine X0.istoreN #[.val (.ref t), .val (.int (2 : Int32)), .val (.int (0 : Int32)), .unset] (D d17_4) rfl ?_
  refine X0.iloadN (x := (0 : Int32)) (D d17_5) rfl ?_
  refine X0.iloadN (x := (2 : Int32)) (D d17_6) rfl ?_
  refine X0.icmp_ge 47 (D d17_7) ⟨by decide, by decide⟩ (fun hc425 => absurd hc425 (by decide)) (fun hc425 => ?_)
  refine X0.aloadN (x := (.ref t)) (D d17_10) rfl rfl ?_
  refine X0.iloadN (x := (0 : Int32)) (D d17_11) rfl ?_
  show Goes p.tables e below _ (T0.setTop (mkF m 12 #[.val (.ref t), .val (.int (2 : Int32)), .val (.int (0 : Int32)), .unset] [(.int (0 : Int32)), (.ref t)]))
  suffices adv0 : ∀ (T426 : State) (h427 : Heap), Wd p l e ({ frames := 3, cells := 0, slots := 0, locals := 60 } : Room) sS m #[(.ref t)] below meth c Z a0 consts_1 ((⟨"java/lang/StringLatin1", "indexOfNonWhitespace", "([B)I"⟩ : MethodName)).cls n0 [] [] T426 h427 0 0 → Arv Z h427 t kt .byte (2 : Int32) [(.int (StrChars.lo8 c0)), (.int (StrChars.lo8 c1))] (.int 0) → Exa Z h427 ci "java/lang/CharacterDataLatin1" → (wsP c0) → Goes p.tables e below (Endq Z consts_1 sS n0 [] ({ frames := 3, cells := 0, slots := 0, locals := 60 } : Room) (fun v _ => v = some (.int (Int32.ofNat (nwN [c0, c1]))))) (T426.setTop (mkF m 41 #[.val (.ref t), .val (.int (2 : Int32)), .val (.int (0 : Int32)), .val (.int c0)] [])) by
    refine X0.calls [(.ref t), (.int (0 : Int32))] [] (ctGC l Z a0 hw hEL z0 S0 hz0 t kt [c0, c1] 0 _ _ A2 (hpS r0 (hpS r1 hp0)) (Nat.le_of_ble_eq_true rfl) (Nat.le_of_ble_eq_true rfl)) (w 118 rfl) (w 119 rfl) (w 61 rfl) (w 120 rfl) (by decide) (fun _ q => nomatch q) (by decide) 0 (by decide) (by decide) (by decide) (lenOf pd_14 rfl) rfl (Nat.le_of_ble_eq_true rfl) (by rw [hml]; rfl) (D d17_12) ?_
    rintro T431 h432 _ X434 K435 rfl
    have F436 := E_ci.keep K435
    have F437 := A2.keep K435 nin0
    show Goes p.tables e below _ (T431.setTop (mkF m 15 #[.val (.ref t), .val (.int (2 : Int32)), .val (.int (0 : Int32)), .unset] [(.int c0)]))
    refine X434.istoreN #[.val (.ref t), .val (.int (2 : Int32)), .val (.int (0 : Int32)), .val (.int c0)] (D d17_15) rfl ?_
    refine X434.iloadN (x := c0) (D d17_16) rfl ?_
    refine X434.bipush (x := (32 : Int32)) (D d17_17) rfl ?_
    refine X434.icmp_eq 41 (D d17_19) ⟨by decide, by decide⟩ (fun hc438 => ?_) (fun hc438 => ?_)
    · show Goes p.tables e below _ (T431.setTop (mkF m 41 #[.val (.ref t), .val (.int (2 : Int32)), .val (.int (0 : Int32)), .val (.int c0)] []))
      show Goes p.tables e below _ (T431.setTop (mkF m 41 #[.val (.ref t), .val (.int (2 : Int32)), .val (.int (0 : Int32)), .val (.int c0)] []))
      exact adv0 _ _  X434 F437 F436 (Or.inl hc438)
    · show Goes p.tables e below _ (T431.setTop (mkF m 22 #[.val (.ref t), .val (.int (2 : Int32)), .val (.int (0 : Int32)), .val (.int c0)] []))
      refine X434.iloadN (x := c0) (D d17_22) rfl ?_
      refine X434.bipush (x := (9 : Int32)) (D d17_23) rfl ?_
      refine X434.icmp_eq 41 (D d17_25) ⟨by decide, by decide⟩ (fun hc439 => ?_) (fun hc439 => ?_)
      · show Goes p.tables e below _ (T431.setTop (mkF m 41 #[.val (.ref t), .val (.int (2 : Int32)), .val (.int (0 : Int32)), .val (.int c0)] []))
        show Goes p.tables e below _ (T431.setTop (mkF m 41 #[.val (.ref t), .val (.int (2 : Int32)), .val (.int (0 : Int32)), .val (.int c0)] []))
        exact adv0 _ _  X434 F437 F436 (by rw [hc439]; decide)
      · show Goes p.tables e below _ (T431.setTop (mkF m 28 #[.val (.ref t), .val (.int (2 : Int32)), .val (.int (0 : Int32)), .val (.int c0)] []))
        refine X434.gets (w 121 rfl) Via.refl (Sta.ext X434.old.2 SI) (D d17_28) ?_
        intro T440 X441
        show Goes p.tables e below _ (T440.setTop (mkF m 31 #[.val (.ref t), .val (.int (2 : Int32)), .val (.int (0 : Int32)), .val (.int c0)] [(.ref ci)]))
        refine X441.iloadN (x := c0) (D d17_31) rfl ?_
        refine X441.callv (y := (⟨"java/lang/CharacterDataLatin1", "isWhitespace", "(I)Z"⟩ : MethodName)) (a := ci) (C := "java/lang/CharacterDataLatin1") [(.int c0)] [] (ctIW l Z a0 hw hEL z0 S0 hz0 ci aA cA SI IC ST TA c0 r0 _ _) F436 (w 123 rfl) (w 124 rfl) (w 126 rfl) (w 125 rfl) (w 122 rfl) (w 127 rfl) (by decide) (fun _ q => nomatch q) (by decide) 0 (by decide) (by decide) (by decide) (lenOf pd_11 rfl) rfl (Nat.le_of_ble_eq_true rfl) (by rw [hml]; rfl) (D d17_32) ?_
        rintro T443 h444 _ X446 K447 (⟨rfl, hc442⟩ | ⟨rfl, hc442⟩)
        · have F448 := F436.keep K447
          have F449 := F437.keep K447 nin0
          show Goes p.tables e below _ (T443.setTop (mkF m 35 #[.val (.ref t), .val (.int (2 : Int32)), .val (.int (0 : Int32)), .val (.int c0)] [(.int (1 : Int32))]))
          refine X446.if_ne 41 (D d17_35) ⟨by decide, by decide⟩ (fun hc450 => ?_) (fun hc450 => absurd hc450 (by decide))
          show Goes p.tables e below _ (T443.setTop (mkF m 41 #[.val (.ref t), .val (.int (2 : Int32)), .val (.int (0 : Int32)), .val (.int c0)] []))
          exact adv0 _ _  X446 F449 F448 hc442
        · have F448 := F436.keep K447
          have F449 := F437.keep K447 nin0
          show Goes p.tables e below _ (T443.setTop (mkF m 35 #[.val (.ref t), .val (.int (2 : Int32)), .val (.int (0 : Int32)), .val (.int c0)] [(.int (0 : Int32))]))
          refine X446.if_ne 41 (D d17_35) ⟨by decide, by decide⟩ (fun hc451 => absurd hc451 (by decide)) (fun hc451 => ?_)
          refine X446.goto 47 (D d17_38) ⟨by decide, by decide⟩ ?_
          refine X446.iloadN (x := (0 : Int32)) (D d17_47) rfl ?_
          exact X446.retI hret hlk (D d17_48) (by decide) (by decide) (congrArg (fun z => some (Value.int (Int32.ofNat z))) (show 0 = nwN [c0, c1] from by simp [nwN, hc442]))
  intro T426 h427  X428 F429 F430 hw0
  refine X428.iinc #[.val (.ref t), .val (.int (2 : Int32)), .val (.int (1 : Int32)), .val (.int c0)] (D d17_41) rfl rfl ?_
  refine X428.goto 5 (D d17_44) ⟨by decide, by decide⟩ ?_
  refine X428.iloadN (x := (1 : Int32)) (D d17_5) rfl ?_
  refine X428.iloadN (x := (2 : Int32)) (D d17_6) rfl ?_
  refine X428.icmp_ge 47 (D d17_7) ⟨by decide, by decide⟩ (fun hc452 => absurd hc452 (by decide)) (fun hc452 => ?_)
  refine X428.aloadN (x := (.ref t)) (D d17_10) rfl rfl ?_
  refine X428.iloadN (x := (1 : Int32)) (D d17_11) rfl ?_
  show Goes p.tables e below _ (T426.setTop (mkF m 12 #[.val (.ref t), .val (.int (2 : Int32)), .val (.int (1 : Int32)), .val (.int c0)] [(.int (1 : Int32)), (.ref t)]))
  suffices adv1 : ∀ (T453 : State) (h454 : Heap), Wd p l e ({ frames := 3, cells := 0, slots := 0, locals := 60 } : Room) sS m #[(.ref t)] below meth c Z a0 consts_1 ((⟨"java/lang/StringLatin1", "indexOfNonWhitespace", "([B)I"⟩ : MethodName)).cls n0 [] [] T453 h454 0 0 → Arv Z h454 t kt .byte (2 : Int32) [(.int (StrChars.lo8 c0)), (.int (StrChars.lo8 c1))] (.int 0) → Exa Z h454 ci "java/lang/CharacterDataLatin1" → (wsP c1) → Goes p.tables e below (Endq Z consts_1 sS n0 [] ({ frames := 3, cells := 0, slots := 0, locals := 60 } : Room) (fun v _ => v = some (.int (Int32.ofNat (nwN [c0, c1]))))) (T453.setTop (mkF m 41 #[.val (.ref t), .val (.int (2 : Int32)), .val (.int (1 : Int32)), .val (.int c1)] [])) by
    refine X428.calls [(.ref t), (.int (1 : Int32))] [] (ctGC l Z a0 hw hEL z0 S0 hz0 t kt [c0, c1] 1 _ _ F429 (hpS r0 (hpS r1 hp0)) (Nat.le_of_ble_eq_true rfl) (Nat.le_of_ble_eq_true rfl)) (w 118 rfl) (w 119 rfl) (w 61 rfl) (w 120 rfl) (by decide) (fun _ q => nomatch q) (by decide) 0 (by decide) (by decide) (by decide) (lenOf pd_14 rfl) rfl (Nat.le_of_ble_eq_true rfl) (by rw [hml]; rfl) (D d17_12) ?_
    rintro T458 h459 _ X461 K462 rfl
    have F463 := F429.keep K462 nin0
    have F464 := F430.keep K462
    show Goes p.tables e below _ (T458.setTop (mkF m 15 #[.val (.ref t), .val (.int (2 : Int32)), .val (.int (1 : Int32)), .val (.int c0)] [(.int c1)]))
    refine X461.istoreN #[.val (.ref t), .val (.int (2 : Int32)), .val (.int (1 : Int32)), .val (.int c1)] (D d17_15) rfl ?_
    refine X461.iloadN (x := c1) (D d17_16) rfl ?_
    refine X461.bipush (x := (32 : Int32)) (D d17_17) rfl ?_
    refine X461.icmp_eq 41 (D d17_19) ⟨by decide, by decide⟩ (fun hc465 => ?_) (fun hc465 => ?_)
    · show Goes p.tables e below _ (T458.setTop (mkF m 41 #[.val (.ref t), .val (.int (2 : Int32)), .val (.int (1 : Int32)), .val (.int c1)] []))
      show Goes p.tables e below _ (T458.setTop (mkF m 41 #[.val (.ref t), .val (.int (2 : Int32)), .val (.int (1 : Int32)), .val (.int c1)] []))
      exact adv1 _ _  X461 F463 F464 (Or.inl hc465)
    · show Goes p.tables e below _ (T458.setTop (mkF m 22 #[.val (.ref t), .val (.int (2 : Int32)), .val (.int (1 : Int32)), .val (.int c1)] []))
      refine X461.iloadN (x := c1) (D d17_22) rfl ?_
      refine X461.bipush (x := (9 : Int32)) (D d17_23) rfl ?_
      refine X461.icmp_eq 41 (D d17_25) ⟨by decide, by decide⟩ (fun hc466 => ?_) (fun hc466 => ?_)
      · show Goes p.tables e below _ (T458.setTop (mkF m 41 #[.val (.ref t), .val (.int (2 : Int32)), .val (.int (1 : Int32)), .val (.int c1)] []))
        show Goes p.tables e below _ (T458.setTop (mkF m 41 #[.val (.ref t), .val (.int (2 : Int32)), .val (.int (1 : Int32)), .val (.int c1)] []))
        exact adv1 _ _  X461 F463 F464 (by rw [hc466]; decide)
      · show Goes p.tables e below _ (T458.setTop (mkF m 28 #[.val (.ref t), .val (.int (2 : Int32)), .val (.int (1 : Int32)), .val (.int c1)] []))
        refine X461.gets (w 121 rfl) Via.refl (Sta.ext X461.old.2 SI) (D d17_28) ?_
        intro T467 X468
        show Goes p.tables e below _ (T467.setTop (mkF m 31 #[.val (.ref t), .val (.int (2 : Int32)), .val (.int (1 : Int32)), .val (.int c1)] [(.ref ci)]))
        refine X468.iloadN (x := c1) (D d17_31) rfl ?_
        refine X468.callv (y := (⟨"java/lang/CharacterDataLatin1", "isWhitespace", "(I)Z"⟩ : MethodName)) (a := ci) (C := "java/lang/CharacterDataLatin1") [(.int c1)] [] (ctIW l Z a0 hw hEL z0 S0 hz0 ci aA cA SI IC ST TA c1 r1 _ _) F464 (w 123 rfl) (w 124 rfl) (w 126 rfl) (w 125 rfl) (w 122 rfl) (w 127 rfl) (by decide) (fun _ q => nomatch q) (by decide) 0 (by decide) (by decide) (by decide) (lenOf pd_11 rfl) rfl (Nat.le_of_ble_eq_true rfl) (by rw [hml]; rfl) (D d17_32) ?_
        rintro T470 h471 _ X473 K474 (⟨rfl, hc469⟩ | ⟨rfl, hc469⟩)
        · have F475 := F463.keep K474 nin0
          have F476 := F464.keep K474
          show Goes p.tables e below _ (T470.setTop (mkF m 35 #[.val (.ref t), .val (.int (2 : Int32)), .val (.int (1 : Int32)), .val (.int c1)] [(.int (1 : Int32))]))
          refine X473.if_ne 41 (D d17_35) ⟨by decide, by decide⟩ (fun hc477 => ?_) (fun hc477 => absurd hc477 (by decide))
          show Goes p.tables e below _ (T470.setTop (mkF m 41 #[.val (.ref t), .val (.int (2 : Int32)), .val (.int (1 : Int32)), .val (.int c1)] []))
          exact adv1 _ _  X473 F475 F476 hc469
        · have F475 := F463.keep K474 nin0
          have F476 := F464.keep K474
          show Goes p.tables e below _ (T470.setTop (mkF m 35 #[.val (.ref t), .val (.int (2 : Int32)), .val (.int (1 : Int32)), .val (.int c1)] [(.int (0 : Int32))]))
          refine X473.if_ne 41 (D d17_35) ⟨by decide, by decide⟩ (fun hc478 => absurd hc478 (by decide)) (fun hc478 => ?_)
          refine X473.goto 47 (D d17_38) ⟨by decide, by decide⟩ ?_
          refine X473.iloadN (x := (1 : Int32)) (D d17_47) rfl ?_
          exact X473.retI hret hlk (D d17_48) (by decide) (by decide) (congrArg (fun z => some (Value.int (Int32.ofNat z))) (show 1 = nwN [c0, c1] from by simp [nwN, hw0, hc469]))
  intro T453 h454  X455 F456 F457 hw1
  refine X455.iinc #[.val (.ref t), .val (.int (2 : Int32)), .val (.int (2 : Int32)), .val (.int c1)] (D d17_41) rfl rfl ?_
  refine X455.goto 5 (D d17_44) ⟨by decide, by decide⟩ ?_
  refine X455.iloadN (x := (2 : Int32)) (D d17_5) rfl ?_
  refine X455.iloadN (x := (2 : Int32)) (D d17_6) rfl ?_
  refine X455.icmp_ge 47 (D d17_7) ⟨by decide, by decide⟩ (fun hc479 => ?_) (fun hc479 => absurd hc479 (by decide))
  refine X455.iloadN (x := (2 : Int32)) (D d17_47) rfl ?_
  exact X455.retI hret hlk (D d17_48) (by decide) (by decide) (congrArg (fun z => some (Value.int (Int32.ofNat z))) (show 2 = nwN [c0, c1] from by simp [nwN, hw0, hw1]))
set_option maxRecDepth 65536 in
set_option maxHeartbeats 40000000 in
theorem ctLW_2 (l : Launch) (Z : State) (a0 : Array Value) (hw : ∀ d ∈ tables_1, d.before a0 Z = true) (hEL : EW Z a0 consts_1) (z0 : Int32) (S0 : Sta Z Z.heap "java/lang/String" "COMPACT_STRINGS" "Z" (.int z0)) (hz0 : ¬ z0 = 0) (ci aA : Addr) (cA : Cell) (SI : Sta Z Z.heap "java/lang/CharacterDataLatin1" "instance" "Ljava/lang/CharacterDataLatin1;" (.ref ci)) (IC : Exa Z Z.heap ci "java/lang/CharacterDataLatin1") (ST : Sta Z Z.heap "java/lang/CharacterDataLatin1" "A" "[I" (.ref aA)) (TA : TabW Z aA cA) (t : Addr) (kt : ClassId) (c0 c1 : Int32) (h0 : Heap) (n0 : Nat) (AT : Arv Z h0 t kt .byte (Int32.ofNat [c0, c1].length) (([c0, c1].map StrChars.lo8).map Value.int) (.int 0)) (r0 : Rb c0) (r1 : Rb c1) :
    Ct l Z consts_1 [] (⟨"java/lang/StringLatin1", "lastIndexOfNonWhitespace", "([B)I"⟩ : MethodName) jdk_43_method_38_code 4 (some .int) ({ frames := 3, cells := 0, slots := 0, locals := 60 } : Room) #[(.ref t)] h0 n0 [] (fun v _ => v = some (.int (Int32.ofNat (lwN [c0, c1])))) := by
  have w : ∀ {d : Jvm.Cond} (i : Nat), tables_1[i]? = some d → d.before a0 Z = true := fun i q => hw _ (List.mem_of_getElem? q)
  refine Ct.enter (plainFor_of_name pn_3) hEL ?_
  intro p e sS m below meth c T0 hby hml0 hret hlk hnm hs0 X0
  have hml : c.maxLocals = 4 := hml0
  have D : ∀ {pc : Nat} {r : Except DecodeError (Instr × Nat)}, decode jdk_43_method_38_code pc = r → decode c.code pc = r := fun q => hb hby q
  rw [show entryFrame m #[(.ref t)] 4 = mkF m 0 #[.val (.ref t), .unset, .unset, .unset] [] from by first | (simp [entryFrame, mkF, argsToLocals, Value.category]; done) | rfl]
  have E_ci := IC.ext X0.old.2
  have A2 : Arv Z h0 t kt .byte (2 : Int32) [(.int (StrChars.lo8 c0)), (.int (StrChars.lo8 c1))] (.int 0) := AT
  refine X0.aloadN (x := (.ref t)) (D d30_0) rfl rfl ?_
  refine X0.alen A2 (D d30_1) ?_
  refine X0.istoreN #[.val (.ref t), .val (.int (2 : Int32)), .unset, .unset] (D d30_2) rfl ?_
  refine X0.iloadN (x := (2 : Int32)) (D d30_3) rfl ?_
  refine X0.istoreN #[.val (.ref t), .val (.int (2 : Int32)), .val (.int (2 : Int32)), .unset] (D d30_4) rfl ?_
  refine X0.iconst (x := (0 : Int32)) (D d30_5) rfl ?_
  refine X0.iloadN (x := (2 : Int32)) (D d30_6) rfl ?_
  refine X0.icmp_ge 49 (D d30_7) ⟨by decide, by decide⟩ (fun hc480 => absurd hc480 (by decide)) (fun hc480 => ?_)
  refine X0.aloadN (x := (.ref t)) (D d30_10) rfl rfl ?_
  refine X0.iloadN (x := (2 : Int32)) (D d30_11) rfl ?_
  refine X0.iconst (x := (1 : Int32)) (D d30_12) rfl ?_
  refine X0.isub (D d30_13) ?_
  show Goes p.tables e below _ (T0.setTop (mkF m 14 #[.val (.ref t), .val (.int (2 : Int32)), .val (.int (2 : Int32)), .unset] [(.int (1 : Int32)), (.ref t)]))
  show Goes p.tables e below _ (T0.setTop (mkF m 14 #[.val (.ref t), .val (.int (2 : Int32)), .val (.int (2 : Int32)), .unset] [(.int (1 : Int32)), (.ref t)]))
  suffices adv0 : ∀ (T481 : State) (h482 : Heap), Wd p l e ({ frames := 3, cells := 0, slots := 0, locals := 60 } : Room) sS m #[(.ref t)] below meth c Z a0 consts_1 ((⟨"java/lang/StringLatin1", "lastIndexOfNonWhitespace", "([B)I"⟩ : MethodName)).cls n0 [] [] T481 h482 0 0 → Arv Z h482 t kt .byte (2 : Int32) [(.int (StrChars.lo8 c0)), (.int (StrChars.lo8 c1))] (.int 0) → Exa Z h482 ci "java/lang/CharacterDataLatin1" → (wsP c1) → Goes p.tables e below (Endq Z consts_1 sS n0 [] ({ frames := 3, cells := 0, slots := 0, locals := 60 } : Room) (fun v _ => v = some (.int (Int32.ofNat (lwN [c0, c1]))))) (T481.setTop (mkF m 43 #[.val (.ref t), .val (.int (2 : Int32)), .val (.int (2 : Int32)), .val (.int c1)] [])) by
    refine X0.calls [(.ref t), (.int (1 : Int32))] [] (ctGC l Z a0 hw hEL z0 S0 hz0 t kt [c0, c1] 1 _ _ A2 (hpS r0 (hpS r1 hp0)) (Nat.le_of_ble_eq_true rfl) (Nat.le_of_ble_eq_true rfl)) (w 118 rfl) (w 119 rfl) (w 61 rfl) (w 120 rfl) (by decide) (fun _ q => nomatch q) (by decide) 0 (by decide) (by decide) (by decide) (lenOf pd_14 rfl) rfl (Nat.le_of_ble_eq_true rfl) (by rw [hml]; rfl) (D d30_14) ?_
    rintro T486 h487 _ X489 K490 rfl
    have F491 := E_ci.keep K490
    have F492 := A2.keep K490 nin0
    show Goes p.tables e below _ (T486.setTop (mkF m 17 #[.val (.ref t), .val (.int (2 : Int32)), .val (.int (2 : Int32)), .unset] [(.int c1)]))
    refine X489.istoreN #[.val (.ref t), .val (.int (2 : Int32)), .val (.int (2 : Int32)), .val (.int c1)] (D d30_17) rfl ?_
    refine X489.iloadN (x := c1) (D d30_18) rfl ?_
    refine X489.bipush (x := (32 : Int32)) (D d30_19) rfl ?_
    refine X489.icmp_eq 43 (D d30_21) ⟨by decide, by decide⟩ (fun hc493 => ?_) (fun hc493 => ?_)
    · show Goes p.tables e below _ (T486.setTop (mkF m 43 #[.val (.ref t), .val (.int (2 : Int32)), .val (.int (2 : Int32)), .val (.int c1)] []))
      show Goes p.tables e below _ (T486.setTop (mkF m 43 #[.val (.ref t), .val (.int (2 : Int32)), .val (.int (2 : Int32)), .val (.int c1)] []))
      exact adv0 _ _  X489 F492 F491 (Or.inl hc493)
    · show Goes p.tables e below _ (T486.setTop (mkF m 24 #[.val (.ref t), .val (.int (2 : Int32)), .val (.int (2 : Int32)), .val (.int c1)] []))
      refine X489.iloadN (x := c1) (D d30_24) rfl ?_
      refine X489.bipush (x := (9 : Int32)) (D d30_25) rfl ?_
      refine X489.icmp_eq 43 (D d30_27) ⟨by decide, by decide⟩ (fun hc494 => ?_) (fun hc494 => ?_)
      · show Goes p.tables e below _ (T486.setTop (mkF m 43 #[.val (.ref t), .val (.int (2 : Int32)), .val (.int (2 : Int32)), .val (.int c1)] []))
        show Goes p.tables e below _ (T486.setTop (mkF m 43 #[.val (.ref t), .val (.int (2 : Int32)), .val (.int (2 : Int32)), .val (.int c1)] []))
        exact adv0 _ _  X489 F492 F491 (by rw [hc494]; decide)
      · show Goes p.tables e below _ (T486.setTop (mkF m 30 #[.val (.ref t), .val (.int (2 : Int32)), .val (.int (2 : Int32)), .val (.int c1)] []))
        refine X489.gets (w 121 rfl) Via.refl (Sta.ext X489.old.2 SI) (D d30_30) ?_
        intro T495 X496
        show Goes p.tables e below _ (T495.setTop (mkF m 33 #[.val (.ref t), .val (.int (2 : Int32)), .val (.int (2 : Int32)), .val (.int c1)] [(.ref ci)]))
        refine X496.iloadN (x := c1) (D d30_33) rfl ?_
        refine X496.callv (y := (⟨"java/lang/CharacterDataLatin1", "isWhitespace", "(I)Z"⟩ : MethodName)) (a := ci) (C := "java/lang/CharacterDataLatin1") [(.int c1)] [] (ctIW l Z a0 hw hEL z0 S0 hz0 ci aA cA SI IC ST TA c1 r1 _ _) F491 (w 123 rfl) (w 124 rfl) (w 126 rfl) (w 125 rfl) (w 122 rfl) (w 127 rfl) (by decide) (fun _ q => nomatch q) (by decide) 0 (by decide) (by decide) (by decide) (lenOf pd_11 rfl) rfl (Nat.le_of_ble_eq_true rfl) (by rw [hml]; rfl) (D d30_34) ?_
        rintro T498 h499 _ X501 K502 (⟨rfl, hc497⟩ | ⟨rfl, hc497⟩)
        · have F503 := F491.keep K502
          have F504 := F492.keep K502 nin0
          show Goes p.tables e below _ (T498.setTop (mkF m 37 #[.val (.ref t), .val (.int (2 : Int32)), .val (.int (2 : Int32)), .val (.int c1)] [(.int (1 : Int32))]))
          refine X501.if_ne 43 (D d30_37) ⟨by decide, by decide⟩ (fun hc505 => ?_) (fun hc505 => absurd hc505 (by decide))
          show Goes p.tables e below _ (T498.setTop (mkF m 43 #[.val (.ref t), .val (.int (2 : Int32)), .val (.int (2 : Int32)), .val (.int c1)] []))
          exact adv0 _ _  X501 F504 F503 hc497
        · have F503 := F491.keep K502
          have F504 := F492.keep K502 nin0
          show Goes p.tables e below _ (T498.setTop (mkF m 37 #[.val (.ref t), .val (.int (2 : Int32)), .val (.int (2 : Int32)), .val (.int c1)] [(.int (0 : Int32))]))
          refine X501.if_ne 43 (D d30_37) ⟨by decide, by decide⟩ (fun hc506 => absurd hc506 (by decide)) (fun hc506 => ?_)
          refine X501.goto 49 (D d30_40) ⟨by decide, by decide⟩ ?_
          refine X501.iloadN (x := (2 : Int32)) (D d30_49) rfl ?_
          exact X501.retI hret hlk (D d30_50) (by decide) (by decide) (congrArg (fun z => some (Value.int (Int32.ofNat z))) (show 2 = lwN [c0, c1] from by simp [lwN, hc497]))
  intro T481 h482  X483 F484 F485 hw1
  refine X483.iinc #[.val (.ref t), .val (.int (2 : Int32)), .val (.int (1 : Int32)), .val (.int c1)] (D d30_43) rfl rfl ?_
  refine X483.goto 5 (D d30_46) ⟨by decide, by decide⟩ ?_
  refine X483.iconst (x := (0 : Int32)) (D d30_5) rfl ?_
  refine X483.iloadN (x := (1 : Int32)) (D d30_6) rfl ?_
  refine X483.icmp_ge 49 (D d30_7) ⟨by decide, by decide⟩ (fun hc507 => absurd hc507 (by decide)) (fun hc507 => ?_)
  refine X483.aloadN (x := (.ref t)) (D d30_10) rfl rfl ?_
  refine X483.iloadN (x := (1 : Int32)) (D d30_11) rfl ?_
  refine X483.iconst (x := (1 : Int32)) (D d30_12) rfl ?_
  refine X483.isub (D d30_13) ?_
  show Goes p.tables e below _ (T481.setTop (mkF m 14 #[.val (.ref t), .val (.int (2 : Int32)), .val (.int (1 : Int32)), .val (.int c1)] [(.int (0 : Int32)), (.ref t)]))
  show Goes p.tables e below _ (T481.setTop (mkF m 14 #[.val (.ref t), .val (.int (2 : Int32)), .val (.int (1 : Int32)), .val (.int c1)] [(.int (0 : Int32)), (.ref t)]))
  suffices adv1 : ∀ (T508 : State) (h509 : Heap), Wd p l e ({ frames := 3, cells := 0, slots := 0, locals := 60 } : Room) sS m #[(.ref t)] below meth c Z a0 consts_1 ((⟨"java/lang/StringLatin1", "lastIndexOfNonWhitespace", "([B)I"⟩ : MethodName)).cls n0 [] [] T508 h509 0 0 → Arv Z h509 t kt .byte (2 : Int32) [(.int (StrChars.lo8 c0)), (.int (StrChars.lo8 c1))] (.int 0) → Exa Z h509 ci "java/lang/CharacterDataLatin1" → (wsP c0) → Goes p.tables e below (Endq Z consts_1 sS n0 [] ({ frames := 3, cells := 0, slots := 0, locals := 60 } : Room) (fun v _ => v = some (.int (Int32.ofNat (lwN [c0, c1]))))) (T508.setTop (mkF m 43 #[.val (.ref t), .val (.int (2 : Int32)), .val (.int (1 : Int32)), .val (.int c0)] [])) by
    refine X483.calls [(.ref t), (.int (0 : Int32))] [] (ctGC l Z a0 hw hEL z0 S0 hz0 t kt [c0, c1] 0 _ _ F484 (hpS r0 (hpS r1 hp0)) (Nat.le_of_ble_eq_true rfl) (Nat.le_of_ble_eq_true rfl)) (w 118 rfl) (w 119 rfl) (w 61 rfl) (w 120 rfl) (by decide) (fun _ q => nomatch q) (by decide) 0 (by decide) (by decide) (by decide) (lenOf pd_14 rfl) rfl (Nat.le_of_ble_eq_true rfl) (by rw [hml]; rfl) (D d30_14) ?_
    rintro T513 h514 _ X516 K517 rfl
    have F518 := F484.keep K517 nin0
    have F519 := F485.keep K517
    show Goes p.tables e below _ (T513.setTop (mkF m 17 #[.val (.ref t), .val (.int (2 : Int32)), .val (.int (1 : Int32)), .val (.int c1)] [(.int c0)]))
    refine X516.istoreN #[.val (.ref t), .val (.int (2 : Int32)), .val (.int (1 : Int32)), .val (.int c0)] (D d30_17) rfl ?_
    refine X516.iloadN (x := c0) (D d30_18) rfl ?_
    refine X516.bipush (x := (32 : Int32)) (D d30_19) rfl ?_
    refine X516.icmp_eq 43 (D d30_21) ⟨by decide, by decide⟩ (fun hc520 => ?_) (fun hc520 => ?_)
    · show Goes p.tables e below _ (T513.setTop (mkF m 43 #[.val (.ref t), .val (.int (2 : Int32)), .val (.int (1 : Int32)), .val (.int c0)] []))
      show Goes p.tables e below _ (T513.setTop (mkF m 43 #[.val (.ref t), .val (.int (2 : Int32)), .val (.int (1 : Int32)), .val (.int c0)] []))
      exact adv1 _ _  X516 F518 F519 (Or.inl hc520)
    · show Goes p.tables e below _ (T513.setTop (mkF m 24 #[.val (.ref t), .val (.int (2 : Int32)), .val (.int (1 : Int32)), .val (.int c0)] []))
      refine X516.iloadN (x := c0) (D d30_24) rfl ?_
      refine X516.bipush (x := (9 : Int32)) (D d30_25) rfl ?_
      refine X516.icmp_eq 43 (D d30_27) ⟨by decide, by decide⟩ (fun hc521 => ?_) (fun hc521 => ?_)
      · show Goes p.tables e below _ (T513.setTop (mkF m 43 #[.val (.ref t), .val (.int (2 : Int32)), .val (.int (1 : Int32)), .val (.int c0)] []))
        show Goes p.tables e below _ (T513.setTop (mkF m 43 #[.val (.ref t), .val (.int (2 : Int32)), .val (.int (1 : Int32)), .val (.int c0)] []))
        exact adv1 _ _  X516 F518 F519 (by rw [hc521]; decide)
      · show Goes p.tables e below _ (T513.setTop (mkF m 30 #[.val (.ref t), .val (.int (2 : Int32)), .val (.int (1 : Int32)), .val (.int c0)] []))
        refine X516.gets (w 121 rfl) Via.refl (Sta.ext X516.old.2 SI) (D d30_30) ?_
        intro T522 X523
        show Goes p.tables e below _ (T522.setTop (mkF m 33 #[.val (.ref t), .val (.int (2 : Int32)), .val (.int (1 : Int32)), .val (.int c0)] [(.ref ci)]))
        refine X523.iloadN (x := c0) (D d30_33) rfl ?_
        refine X523.callv (y := (⟨"java/lang/CharacterDataLatin1", "isWhitespace", "(I)Z"⟩ : MethodName)) (a := ci) (C := "java/lang/CharacterDataLatin1") [(.int c0)] [] (ctIW l Z a0 hw hEL z0 S0 hz0 ci aA cA SI IC ST TA c0 r0 _ _) F519 (w 123 rfl) (w 124 rfl) (w 126 rfl) (w 125 rfl) (w 122 rfl) (w 127 rfl) (by decide) (fun _ q => nomatch q) (by decide) 0 (by decide) (by decide) (by decide) (lenOf pd_11 rfl) rfl (Nat.le_of_ble_eq_true rfl) (by rw [hml]; rfl) (D d30_34) ?_
        rintro T525 h526 _ X528 K529 (⟨rfl, hc524⟩ | ⟨rfl, hc524⟩)
        · have F530 := F518.keep K529 nin0
          have F531 := F519.keep K529
          show Goes p.tables e below _ (T525.setTop (mkF m 37 #[.val (.ref t), .val (.int (2 : Int32)), .val (.int (1 : Int32)), .val (.int c0)] [(.int (1 : Int32))]))
          refine X528.if_ne 43 (D d30_37) ⟨by decide, by decide⟩ (fun hc532 => ?_) (fun hc532 => absurd hc532 (by decide))
          show Goes p.tables e below _ (T525.setTop (mkF m 43 #[.val (.ref t), .val (.int (2 : Int32)), .val (.int (1 : Int32)), .val (.int c0)] []))
          exact adv1 _ _  X528 F530 F531 hc524
        · have F530 := F518.keep K529 nin0
          have F531 := F519.keep K529
          show Goes p.tables e below _ (T525.setTop (mkF m 37 #[.val (.ref t), .val (.int (2 : Int32)), .val (.int (1 : Int32)), .val (.int c0)] [(.int (0 : Int32))]))
          refine X528.if_ne 43 (D d30_37) ⟨by decide, by decide⟩ (fun hc533 => absurd hc533 (by decide)) (fun hc533 => ?_)
          refine X528.goto 49 (D d30_40) ⟨by decide, by decide⟩ ?_
          refine X528.iloadN (x := (1 : Int32)) (D d30_49) rfl ?_
          exact X528.retI hret hlk (D d30_50) (by decide) (by decide) (congrArg (fun z => some (Value.int (Int32.ofNat z))) (show 1 = lwN [c0, c1] from by simp [lwN, hw1, hc524]))
  intro T508 h509  X510 F511 F512 hw0
  refine X510.iinc #[.val (.ref t), .val (.int (2 : Int32)), .val (.int (0 : Int32)), .val (.int c0)] (D d30_43) rfl rfl ?_
  refine X510.goto 5 (D d30_46) ⟨by decide, by decide⟩ ?_
  refine X510.iconst (x := (0 : Int32)) (D d30_5) rfl ?_
  refine X510.iloadN (x := (0 : Int32)) (D d30_6) rfl ?_
  refine X510.icmp_ge 49 (D d30_7) ⟨by decide, by decide⟩ (fun hc534 => ?_) (fun hc534 => absurd hc534 (by decide))
  refine X510.iloadN (x := (0 : Int32)) (D d30_49) rfl ?_
  exact X510.retI hret hlk (D d30_50) (by decide) (by decide) (congrArg (fun z => some (Value.int (Int32.ofNat z))) (show 0 = lwN [c0, c1] from by simp [lwN, hw1, hw0]))
set_option maxRecDepth 65536 in
set_option maxHeartbeats 40000000 in
theorem ctNW_3 (l : Launch) (Z : State) (a0 : Array Value) (hw : ∀ d ∈ tables_1, d.before a0 Z = true) (hEL : EW Z a0 consts_1) (z0 : Int32) (S0 : Sta Z Z.heap "java/lang/String" "COMPACT_STRINGS" "Z" (.int z0)) (hz0 : ¬ z0 = 0) (ci aA : Addr) (cA : Cell) (SI : Sta Z Z.heap "java/lang/CharacterDataLatin1" "instance" "Ljava/lang/CharacterDataLatin1;" (.ref ci)) (IC : Exa Z Z.heap ci "java/lang/CharacterDataLatin1") (ST : Sta Z Z.heap "java/lang/CharacterDataLatin1" "A" "[I" (.ref aA)) (TA : TabW Z aA cA) (t : Addr) (kt : ClassId) (c0 c1 c2 : Int32) (h0 : Heap) (n0 : Nat) (AT : Arv Z h0 t kt .byte (Int32.ofNat [c0, c1, c2].length) (([c0, c1, c2].map StrChars.lo8).map Value.int) (.int 0)) (r0 : Rb c0) (r1 : Rb c1) (r2 : Rb c2) :
    Ct l Z consts_1 [] (⟨"java/lang/StringLatin1", "indexOfNonWhitespace", "([B)I"⟩ : MethodName) jdk_43_method_37_code 4 (some .int) ({ frames := 3, cells := 0, slots := 0, locals := 60 } : Room) #[(.ref t)] h0 n0 [] (fun v _ => v = some (.int (Int32.ofNat (nwN [c0, c1, c2])))) := by
  have w : ∀ {d : Jvm.Cond} (i : Nat), tables_1[i]? = some d → d.before a0 Z = true := fun i q => hw _ (List.mem_of_getElem? q)
  refine Ct.enter (plainFor_of_name pn_3) hEL ?_
  intro p e sS m below meth c T0 hby hml0 hret hlk hnm hs0 X0
  have hml : c.maxLocals = 4 := hml0
  have D : ∀ {pc : Nat} {r : Except DecodeError (Instr × Nat)}, decode jdk_43_method_37_code pc = r → decode c.code pc = r := fun q => hb hby q
  rw [show entryFrame m #[(.ref t)] 4 = mkF m 0 #[.val (.ref t), .unset, .unset, .unset] [] from by first | (simp [entryFrame, mkF, argsToLocals, Value.category]; done) | rfl]
  have E_ci := IC.ext X0.old.2
  have A2 : Arv Z h0 t kt .byte (3 : Int32) [(.int (StrChars.lo8 c0)), (.int (StrChars.lo8 c1)), (.int (StrChars.lo8 c2))] (.int 0) := AT
  refine X0.aloadN (x := (.ref t)) (D d17_0) rfl rfl ?_
  refine X0.alen A2 (D d17_1) ?_
  refine X0.istoreN #[.val (.ref t), .val (.int (3 : Int32)), .unset, .unset] (D d17_2) rfl ?_
  refine X0.iconst (x := (0 : Int32)) (D d17_3) rfl ?_
  refine X0.istoreN #[.val (.ref t), .val (.int (3 : Int32)), .val (.int (0 : Int32)), .unset] (D d17_4) rfl ?_
  refine X0.iloadN (x := (0 : Int32)) (D d17_5) rfl ?_
  refine X0.iloadN (x := (3 : Int32)) (D d17_6) rfl ?_
  refine X0.icmp_ge 47 (D d17_7) ⟨by decide, by decide⟩ (fun hc535 => absurd hc535 (by decide)) (fun hc535 => ?_)
  refine X0.aloadN (x := (.ref t)) (D d17_10) rfl rfl ?_
  refine X0.iloadN (x := (0 : Int32)) (D d17_11) rfl ?_
  show Goes p.tables e below _ (T0.setTop (mkF m 12 #[.val (.ref t), .val (.int (3 : Int32)), .val (.int (0 : Int32)), .unset] [(.int (0 : Int32)), (.ref t)]))
  suffices adv0 : ∀ (T536 : State) (h537 : Heap), Wd p l e ({ frames := 3, cells := 0, slots := 0, locals := 60 } : Room) sS m #[(.ref t)] below meth c Z a0 consts_1 ((⟨"java/lang/StringLatin1", "indexOfNonWhitespace", "([B)I"⟩ : MethodName)).cls n0 [] [] T536 h537 0 0 → Arv Z h537 t kt .byte (3 : Int32) [(.int (StrChars.lo8 c0)), (.int (StrChars.lo8 c1)), (.int (StrChars.lo8 c2))] (.int 0) → Exa Z h537 ci "java/lang/CharacterDataLatin1" → (wsP c0) → Goes p.tables e below (Endq Z consts_1 sS n0 [] ({ frames := 3, cells := 0, slots := 0, locals := 60 } : Room) (fun v _ => v = some (.int (Int32.ofNat (nwN [c0, c1, c2]))))) (T536.setTop (mkF m 41 #[.val (.ref t), .val (.int (3 : Int32)), .val (.int (0 : Int32)), .val (.int c0)] [])) by
    refine X0.calls [(.ref t), (.int (0 : Int32))] [] (ctGC l Z a0 hw hEL z0 S0 hz0 t kt [c0, c1, c2] 0 _ _ A2 (hpS r0 (hpS r1 (hpS r2 hp0))) (Nat.le_of_ble_eq_true rfl) (Nat.le_of_ble_eq_true rfl)) (w 118 rfl) (w 119 rfl) (w 61 rfl) (w 120 rfl) (by decide) (fun _ q => nomatch q) (by decide) 0 (by decide) (by decide) (by decide) (lenOf pd_14 rfl) rfl (Nat.le_of_ble_eq_true rfl) (by rw [hml]; rfl) (D d17_12) ?_
    rintro T541 h542 _ X544 K545 rfl
    have F546 := E_ci.keep K545
    have F547 := A2.keep K545 nin0
    show Goes p.tables e below _ (T541.setTop (mkF m 15 #[.val (.ref t), .val (.int (3 : Int32)), .val (.int (0 : Int32)), .unset] [(.int c0)]))
    refine X544.istoreN #[.val (.ref t), .val (.int (3 : Int32)), .val (.int (0 : Int32)), .val (.int c0)] (D d17_15) rfl ?_
    refine X544.iloadN (x := c0) (D d17_16) rfl ?_
    refine X544.bipush (x := (32 : Int32)) (D d17_17) rfl ?_
    refine X544.icmp_eq 41 (D d17_19) ⟨by decide, by decide⟩ (fun hc548 => ?_) (fun hc548 => ?_)
    · show Goes p.tables e below _ (T541.setTop (mkF m 41 #[.val (.ref t), .val (.int (3 : Int32)), .val (.int (0 : Int32)), .val (.int c0)] []))
      show Goes p.tables e below _ (T541.setTop (mkF m 41 #[.val (.ref t), .val (.int (3 : Int32)), .val (.int (0 : Int32)), .val (.int c0)] []))
      exact adv0 _ _  X544 F547 F546 (Or.inl hc548)
    · show Goes p.tables e below _ (T541.setTop (mkF m 22 #[.val (.ref t), .val (.int (3 : Int32)), .val (.int (0 : Int32)), .val (.int c0)] []))
      refine X544.iloadN (x := c0) (D d17_22) rfl ?_
      refine X544.bipush (x := (9 : Int32)) (D d17_23) rfl ?_
      refine X544.icmp_eq 41 (D d17_25) ⟨by decide, by decide⟩ (fun hc549 => ?_) (fun hc549 => ?_)
      · show Goes p.tables e below _ (T541.setTop (mkF m 41 #[.val (.ref t), .val (.int (3 : Int32)), .val (.int (0 : Int32)), .val (.int c0)] []))
        show Goes p.tables e below _ (T541.setTop (mkF m 41 #[.val (.ref t), .val (.int (3 : Int32)), .val (.int (0 : Int32)), .val (.int c0)] []))
        exact adv0 _ _  X544 F547 F546 (by rw [hc549]; decide)
      · show Goes p.tables e below _ (T541.setTop (mkF m 28 #[.val (.ref t), .val (.int (3 : Int32)), .val (.int (0 : Int32)), .val (.int c0)] []))
        refine X544.gets (w 121 rfl) Via.refl (Sta.ext X544.old.2 SI) (D d17_28) ?_
        intro T550 X551
        show Goes p.tables e below _ (T550.setTop (mkF m 31 #[.val (.ref t), .val (.int (3 : Int32)), .val (.int (0 : Int32)), .val (.int c0)] [(.ref ci)]))
        refine X551.iloadN (x := c0) (D d17_31) rfl ?_
        refine X551.callv (y := (⟨"java/lang/CharacterDataLatin1", "isWhitespace", "(I)Z"⟩ : MethodName)) (a := ci) (C := "java/lang/CharacterDataLatin1") [(.int c0)] [] (ctIW l Z a0 hw hEL z0 S0 hz0 ci aA cA SI IC ST TA c0 r0 _ _) F546 (w 123 rfl) (w 124 rfl) (w 126 rfl) (w 125 rfl) (w 122 rfl) (w 127 rfl) (by decide) (fun _ q => nomatch q) (by decide) 0 (by decide) (by decide) (by decide) (lenOf pd_11 rfl) rfl (Nat.le_of_ble_eq_true rfl) (by rw [hml]; rfl) (D d17_32) ?_
        rintro T553 h554 _ X556 K557 (⟨rfl, hc552⟩ | ⟨rfl, hc552⟩)
        · have F558 := F546.keep K557
          have F559 := F547.keep K557 nin0
          show Goes p.tables e below _ (T553.setTop (mkF m 35 #[.val (.ref t), .val (.int (3 : Int32)), .val (.int (0 : Int32)), .val (.int c0)] [(.int (1 : Int32))]))
          refine X556.if_ne 41 (D d17_35) ⟨by decide, by decide⟩ (fun hc560 => ?_) (fun hc560 => absurd hc560 (by decide))
          show Goes p.tables e below _ (T553.setTop (mkF m 41 #[.val (.ref t), .val (.int (3 : Int32)), .val (.int (0 : Int32)), .val (.int c0)] []))
          exact adv0 _ _  X556 F559 F558 hc552
        · have F558 := F546.keep K557
          have F559 := F547.keep K557 nin0
          show Goes p.tables e below _ (T553.setTop (mkF m 35 #[.val (.ref t), .val (.int (3 : Int32)), .val (.int (0 : Int32)), .val (.int c0)] [(.int (0 : Int32))]))
          refine X556.if_ne 41 (D d17_35) ⟨by decide, by decide⟩ (fun hc561 => absurd hc561 (by decide)) (fun hc561 => ?_)
          refine X556.goto 47 (D d17_38) ⟨by decide, by decide⟩ ?_
          refine X556.iloadN (x := (0 : Int32)) (D d17_47) rfl ?_
          exact X556.retI hret hlk (D d17_48) (by decide) (by decide) (congrArg (fun z => some (Value.int (Int32.ofNat z))) (show 0 = nwN [c0, c1, c2] from by simp [nwN, hc552]))
  intro T536 h537  X538 F539 F540 hw0
  refine X538.iinc #[.val (.ref t), .val (.int (3 : Int32)), .val (.int (1 : Int32)), .val (.int c0)] (D d17_41) rfl rfl ?_
  refine X538.goto 5 (D d17_44) ⟨by decide, by decide⟩ ?_
  refine X538.iloadN (x := (1 : Int32)) (D d17_5) rfl ?_
  refine X538.iloadN (x := (3 : Int32)) (D d17_6) rfl ?_
  refine X538.icmp_ge 47 (D d17_7) ⟨by decide, by decide⟩ (fun hc562 => absurd hc562 (by decide)) (fun hc562 => ?_)
  refine X538.aloadN (x := (.ref t)) (D d17_10) rfl rfl ?_
  refine X538.iloadN (x := (1 : Int32)) (D d17_11) rfl ?_
  show Goes p.tables e below _ (T536.setTop (mkF m 12 #[.val (.ref t), .val (.int (3 : Int32)), .val (.int (1 : Int32)), .val (.int c0)] [(.int (1 : Int32)), (.ref t)]))
  suffices adv1 : ∀ (T563 : State) (h564 : Heap), Wd p l e ({ frames := 3, cells := 0, slots := 0, locals := 60 } : Room) sS m #[(.ref t)] below meth c Z a0 consts_1 ((⟨"java/lang/StringLatin1", "indexOfNonWhitespace", "([B)I"⟩ : MethodName)).cls n0 [] [] T563 h564 0 0 → Arv Z h564 t kt .byte (3 : Int32) [(.int (StrChars.lo8 c0)), (.int (StrChars.lo8 c1)), (.int (StrChars.lo8 c2))] (.int 0) → Exa Z h564 ci "java/lang/CharacterDataLatin1" → (wsP c1) → Goes p.tables e below (Endq Z consts_1 sS n0 [] ({ frames := 3, cells := 0, slots := 0, locals := 60 } : Room) (fun v _ => v = some (.int (Int32.ofNat (nwN [c0, c1, c2]))))) (T563.setTop (mkF m 41 #[.val (.ref t), .val (.int (3 : Int32)), .val (.int (1 : Int32)), .val (.int c1)] [])) by
    refine X538.calls [(.ref t), (.int (1 : Int32))] [] (ctGC l Z a0 hw hEL z0 S0 hz0 t kt [c0, c1, c2] 1 _ _ F539 (hpS r0 (hpS r1 (hpS r2 hp0))) (Nat.le_of_ble_eq_true rfl) (Nat.le_of_ble_eq_true rfl)) (w 118 rfl) (w 119 rfl) (w 61 rfl) (w 120 rfl) (by decide) (fun _ q => nomatch q) (by decide) 0 (by decide) (by decide) (by decide) (lenOf pd_14 rfl) rfl (Nat.le_of_ble_eq_true rfl) (by rw [hml]; rfl) (D d17_12) ?_
    rintro T568 h569 _ X571 K572 rfl
    have F573 := F539.keep K572 nin0
    have F574 := F540.keep K572
    show Goes p.tables e below _ (T568.setTop (mkF m 15 #[.val (.ref t), .val (.int (3 : Int32)), .val (.int (1 : Int32)), .val (.int c0)] [(.int c1)]))
    refine X571.istoreN #[.val (.ref t), .val (.int (3 : Int32)), .val (.int (1 : Int32)), .val (.int c1)] (D d17_15) rfl ?_
    refine X571.iloadN (x := c1) (D d17_16) rfl ?_
    refine X571.bipush (x := (32 : Int32)) (D d17_17) rfl ?_
    refine X571.icmp_eq 41 (D d17_19) ⟨by decide, by decide⟩ (fun hc575 => ?_) (fun hc575 => ?_)
    · show Goes p.tables e below _ (T568.setTop (mkF m 41 #[.val (.ref t), .val (.int (3 : Int32)), .val (.int (1 : Int32)), .val (.int c1)] []))
      show Goes p.tables e below _ (T568.setTop (mkF m 41 #[.val (.ref t), .val (.int (3 : Int32)), .val (.int (1 : Int32)), .val (.int c1)] []))
      exact adv1 _ _  X571 F573 F574 (Or.inl hc575)
    · show Goes p.tables e below _ (T568.setTop (mkF m 22 #[.val (.ref t), .val (.int (3 : Int32)), .val (.int (1 : Int32)), .val (.int c1)] []))
      refine X571.iloadN (x := c1) (D d17_22) rfl ?_
      refine X571.bipush (x := (9 : Int32)) (D d17_23) rfl ?_
      refine X571.icmp_eq 41 (D d17_25) ⟨by decide, by decide⟩ (fun hc576 => ?_) (fun hc576 => ?_)
      · show Goes p.tables e below _ (T568.setTop (mkF m 41 #[.val (.ref t), .val (.int (3 : Int32)), .val (.int (1 : Int32)), .val (.int c1)] []))
        show Goes p.tables e below _ (T568.setTop (mkF m 41 #[.val (.ref t), .val (.int (3 : Int32)), .val (.int (1 : Int32)), .val (.int c1)] []))
        exact adv1 _ _  X571 F573 F574 (by rw [hc576]; decide)
      · show Goes p.tables e below _ (T568.setTop (mkF m 28 #[.val (.ref t), .val (.int (3 : Int32)), .val (.int (1 : Int32)), .val (.int c1)] []))
        refine X571.gets (w 121 rfl) Via.refl (Sta.ext X571.old.2 SI) (D d17_28) ?_
        intro T577 X578
        show Goes p.tables e below _ (T577.setTop (mkF m 31 #[.val (.ref t), .val (.int (3 : Int32)), .val (.int (1 : Int32)), .val (.int c1)] [(.ref ci)]))
        refine X578.iloadN (x := c1) (D d17_31) rfl ?_
        refine X578.callv (y := (⟨"java/lang/CharacterDataLatin1", "isWhitespace", "(I)Z"⟩ : MethodName)) (a := ci) (C := "java/lang/CharacterDataLatin1") [(.int c1)] [] (ctIW l Z a0 hw hEL z0 S0 hz0 ci aA cA SI IC ST TA c1 r1 _ _) F574 (w 123 rfl) (w 124 rfl) (w 126 rfl) (w 125 rfl) (w 122 rfl) (w 127 rfl) (by decide) (fun _ q => nomatch q) (by decide) 0 (by decide) (by decide) (by decide) (lenOf pd_11 rfl) rfl (Nat.le_of_ble_eq_true rfl) (by rw [hml]; rfl) (D d17_32) ?_
        rintro T580 h581 _ X583 K584 (⟨rfl, hc579⟩ | ⟨rfl, hc579⟩)
        · have F585 := F573.keep K584 nin0
          have F586 := F574.keep K584
          show Goes p.tables e below _ (T580.setTop (mkF m 35 #[.val (.ref t), .val (.int (3 : Int32)), .val (.int (1 : Int32)), .val (.int c1)] [(.int (1 : Int32))]))
          refine X583.if_ne 41 (D d17_35) ⟨by decide, by decide⟩ (fun hc587 => ?_) (fun hc587 => absurd hc587 (by decide))
          show Goes p.tables e below _ (T580.setTop (mkF m 41 #[.val (.ref t), .val (.int (3 : Int32)), .val (.int (1 : Int32)), .val (.int c1)] []))
          exact adv1 _ _  X583 F585 F586 hc579
        · have F585 := F573.keep K584 nin0
          have F586 := F574.keep K584
          show Goes p.tables e below _ (T580.setTop (mkF m 35 #[.val (.ref t), .val (.int (3 : Int32)), .val (.int (1 : Int32)), .val (.int c1)] [(.int (0 : Int32))]))
          refine X583.if_ne 41 (D d17_35) ⟨by decide, by decide⟩ (fun hc588 => absurd hc588 (by decide)) (fun hc588 => ?_)
          refine X583.goto 47 (D d17_38) ⟨by decide, by decide⟩ ?_
          refine X583.iloadN (x := (1 : Int32)) (D d17_47) rfl ?_
          exact X583.retI hret hlk (D d17_48) (by decide) (by decide) (congrArg (fun z => some (Value.int (Int32.ofNat z))) (show 1 = nwN [c0, c1, c2] from by simp [nwN, hw0, hc579]))
  intro T563 h564  X565 F566 F567 hw1
  refine X565.iinc #[.val (.ref t), .val (.int (3 : Int32)), .val (.int (2 : Int32)), .val (.int c1)] (D d17_41) rfl rfl ?_
  refine X565.goto 5 (D d17_44) ⟨by decide, by decide⟩ ?_
  refine X565.iloadN (x := (2 : Int32)) (D d17_5) rfl ?_
  refine X565.iloadN (x := (3 : Int32)) (D d17_6) rfl ?_
  refine X565.icmp_ge 47 (D d17_7) ⟨by decide, by decide⟩ (fun hc589 => absurd hc589 (by decide)) (fun hc589 => ?_)
  refine X565.aloadN (x := (.ref t)) (D d17_10) rfl rfl ?_
  refine X565.iloadN (x := (2 : Int32)) (D d17_11) rfl ?_
  show Goes p.tables e below _ (T563.setTop (mkF m 12 #[.val (.ref t), .val (.int (3 : Int32)), .val (.int (2 : Int32)), .val (.int c1)] [(.int (2 : Int32)), (.ref t)]))
  suffices adv2 : ∀ (T590 : State) (h591 : Heap), Wd p l e ({ frames := 3, cells := 0, slots := 0, locals := 60 } : Room) sS m #[(.ref t)] below meth c Z a0 consts_1 ((⟨"java/lang/StringLatin1", "indexOfNonWhitespace", "([B)I"⟩ : MethodName)).cls n0 [] [] T590 h591 0 0 → Arv Z h591 t kt .byte (3 : Int32) [(.int (StrChars.lo8 c0)), (.int (StrChars.lo8 c1)), (.int (StrChars.lo8 c2))] (.int 0) → Exa Z h591 ci "java/lang/CharacterDataLatin1" → (wsP c2) → Goes p.tables e below (Endq Z consts_1 sS n0 [] ({ frames := 3, cells := 0, slots := 0, locals := 60 } : Room) (fun v _ => v = some (.int (Int32.ofNat (nwN [c0, c1, c2]))))) (T590.setTop (mkF m 41 #[.val (.ref t), .val (.int (3 : Int32)), .val (.int (2 : Int32)), .val (.int c2)] [])) by
    refine X565.calls [(.ref t), (.int (2 : Int32))] [] (ctGC l Z a0 hw hEL z0 S0 hz0 t kt [c0, c1, c2] 2 _ _ F566 (hpS r0 (hpS r1 (hpS r2 hp0))) (Nat.le_of_ble_eq_true rfl) (Nat.le_of_ble_eq_true rfl)) (w 118 rfl) (w 119 rfl) (w 61 rfl) (w 120 rfl) (by decide) (fun _ q => nomatch q) (by decide) 0 (by decide) (by decide) (by decide) (lenOf pd_14 rfl) rfl (Nat.le_of_ble_eq_true rfl) (by rw [hml]; rfl) (D d17_12) ?_
    rintro T595 h596 _ X598 K599 rfl
    have F600 := F566.keep K599 nin0
    have F601 := F567.keep K599
    show Goes p.tables e below _ (T595.setTop (mkF m 15 #[.val (.ref t), .val (.int (3 : Int32)), .val (.int (2 : Int32)), .val (.int c1)] [(.int c2)]))
    refine X598.istoreN #[.val (.ref t), .val (.int (3 : Int32)), .val (.int (2 : Int32)), .val (.int c2)] (D d17_15) rfl ?_
    refine X598.iloadN (x := c2) (D d17_16) rfl ?_
    refine X598.bipush (x := (32 : Int32)) (D d17_17) rfl ?_
    refine X598.icmp_eq 41 (D d17_19) ⟨by decide, by decide⟩ (fun hc602 => ?_) (fun hc602 => ?_)
    · show Goes p.tables e below _ (T595.setTop (mkF m 41 #[.val (.ref t), .val (.int (3 : Int32)), .val (.int (2 : Int32)), .val (.int c2)] []))
      show Goes p.tables e below _ (T595.setTop (mkF m 41 #[.val (.ref t), .val (.int (3 : Int32)), .val (.int (2 : Int32)), .val (.int c2)] []))
      exact adv2 _ _  X598 F600 F601 (Or.inl hc602)
    · show Goes p.tables e below _ (T595.setTop (mkF m 22 #[.val (.ref t), .val (.int (3 : Int32)), .val (.int (2 : Int32)), .val (.int c2)] []))
      refine X598.iloadN (x := c2) (D d17_22) rfl ?_
      refine X598.bipush (x := (9 : Int32)) (D d17_23) rfl ?_
      refine X598.icmp_eq 41 (D d17_25) ⟨by decide, by decide⟩ (fun hc603 => ?_) (fun hc603 => ?_)
      · show Goes p.tables e below _ (T595.setTop (mkF m 41 #[.val (.ref t), .val (.int (3 : Int32)), .val (.int (2 : Int32)), .val (.int c2)] []))
        show Goes p.tables e below _ (T595.setTop (mkF m 41 #[.val (.ref t), .val (.int (3 : Int32)), .val (.int (2 : Int32)), .val (.int c2)] []))
        exact adv2 _ _  X598 F600 F601 (by rw [hc603]; decide)
      · show Goes p.tables e below _ (T595.setTop (mkF m 28 #[.val (.ref t), .val (.int (3 : Int32)), .val (.int (2 : Int32)), .val (.int c2)] []))
        refine X598.gets (w 121 rfl) Via.refl (Sta.ext X598.old.2 SI) (D d17_28) ?_
        intro T604 X605
        show Goes p.tables e below _ (T604.setTop (mkF m 31 #[.val (.ref t), .val (.int (3 : Int32)), .val (.int (2 : Int32)), .val (.int c2)] [(.ref ci)]))
        refine X605.iloadN (x := c2) (D d17_31) rfl ?_
        refine X605.callv (y := (⟨"java/lang/CharacterDataLatin1", "isWhitespace", "(I)Z"⟩ : MethodName)) (a := ci) (C := "java/lang/CharacterDataLatin1") [(.int c2)] [] (ctIW l Z a0 hw hEL z0 S0 hz0 ci aA cA SI IC ST TA c2 r2 _ _) F601 (w 123 rfl) (w 124 rfl) (w 126 rfl) (w 125 rfl) (w 122 rfl) (w 127 rfl) (by decide) (fun _ q => nomatch q) (by decide) 0 (by decide) (by decide) (by decide) (lenOf pd_11 rfl) rfl (Nat.le_of_ble_eq_true rfl) (by rw [hml]; rfl) (D d17_32) ?_
        rintro T607 h608 _ X610 K611 (⟨rfl, hc606⟩ | ⟨rfl, hc606⟩)
        · have F612 := F600.keep K611 nin0
          have F613 := F601.keep K611
          show Goes p.tables e below _ (T607.setTop (mkF m 35 #[.val (.ref t), .val (.int (3 : Int32)), .val (.int (2 : Int32)), .val (.int c2)] [(.int (1 : Int32))]))
          refine X610.if_ne 41 (D d17_35) ⟨by decide, by decide⟩ (fun hc614 => ?_) (fun hc614 => absurd hc614 (by decide))
          show Goes p.tables e below _ (T607.setTop (mkF m 41 #[.val (.ref t), .val (.int (3 : Int32)), .val (.int (2 : Int32)), .val (.int c2)] []))
          exact adv2 _ _  X610 F612 F613 hc606
        · have F612 := F600.keep K611 nin0
          have F613 := F601.keep K611
          show Goes p.tables e below _ (T607.setTop (mkF m 35 #[.val (.ref t), .val (.int (3 : Int32)), .val (.int (2 : Int32)), .val (.int c2)] [(.int (0 : Int32))]))
          refine X610.if_ne 41 (D d17_35) ⟨by decide, by decide⟩ (fun hc615 => absurd hc615 (by decide)) (fun hc615 => ?_)
          refine X610.goto 47 (D d17_38) ⟨by decide, by decide⟩ ?_
          refine X610.iloadN (x := (2 : Int32)) (D d17_47) rfl ?_
          exact X610.retI hret hlk (D d17_48) (by decide) (by decide) (congrArg (fun z => some (Value.int (Int32.ofNat z))) (show 2 = nwN [c0, c1, c2] from by simp [nwN, hw0, hw1, hc606]))
  intro T590 h591  X592 F593 F594 hw2
  refine X592.iinc #[.val (.ref t), .val (.int (3 : Int32)), .val (.int (3 : Int32)), .val (.int c2)] (D d17_41) rfl rfl ?_
  refine X592.goto 5 (D d17_44) ⟨by decide, by decide⟩ ?_
  refine X592.iloadN (x := (3 : Int32)) (D d17_5) rfl ?_
  refine X592.iloadN (x := (3 : Int32)) (D d17_6) rfl ?_
  refine X592.icmp_ge 47 (D d17_7) ⟨by decide, by decide⟩ (fun hc616 => ?_) (fun hc616 => absurd hc616 (by decide))
  refine X592.iloadN (x := (3 : Int32)) (D d17_47) rfl ?_
  exact X592.retI hret hlk (D d17_48) (by decide) (by decide) (congrArg (fun z => some (Value.int (Int32.ofNat z))) (show 3 = nwN [c0, c1, c2] from by simp [nwN, hw0, hw1, hw2]))
set_option maxRecDepth 65536 in
set_option maxHeartbeats 40000000 in
theorem ctLW_3 (l : Launch) (Z : State) (a0 : Array Value) (hw : ∀ d ∈ tables_1, d.before a0 Z = true) (hEL : EW Z a0 consts_1) (z0 : Int32) (S0 : Sta Z Z.heap "java/lang/String" "COMPACT_STRINGS" "Z" (.int z0)) (hz0 : ¬ z0 = 0) (ci aA : Addr) (cA : Cell) (SI : Sta Z Z.heap "java/lang/CharacterDataLatin1" "instance" "Ljava/lang/CharacterDataLatin1;" (.ref ci)) (IC : Exa Z Z.heap ci "java/lang/CharacterDataLatin1") (ST : Sta Z Z.heap "java/lang/CharacterDataLatin1" "A" "[I" (.ref aA)) (TA : TabW Z aA cA) (t : Addr) (kt : ClassId) (c0 c1 c2 : Int32) (h0 : Heap) (n0 : Nat) (AT : Arv Z h0 t kt .byte (Int32.ofNat [c0, c1, c2].length) (([c0, c1, c2].map StrChars.lo8).map Value.int) (.int 0)) (r0 : Rb c0) (r1 : Rb c1) (r2 : Rb c2) :
    Ct l Z consts_1 [] (⟨"java/lang/StringLatin1", "lastIndexOfNonWhitespace", "([B)I"⟩ : MethodName) jdk_43_method_38_code 4 (some .int) ({ frames := 3, cells := 0, slots := 0, locals := 60 } : Room) #[(.ref t)] h0 n0 [] (fun v _ => v = some (.int (Int32.ofNat (lwN [c0, c1, c2])))) := by
  have w : ∀ {d : Jvm.Cond} (i : Nat), tables_1[i]? = some d → d.before a0 Z = true := fun i q => hw _ (List.mem_of_getElem? q)
  refine Ct.enter (plainFor_of_name pn_3) hEL ?_
  intro p e sS m below meth c T0 hby hml0 hret hlk hnm hs0 X0
  have hml : c.maxLocals = 4 := hml0
  have D : ∀ {pc : Nat} {r : Except DecodeError (Instr × Nat)}, decode jdk_43_method_38_code pc = r → decode c.code pc = r := fun q => hb hby q
  rw [show entryFrame m #[(.ref t)] 4 = mkF m 0 #[.val (.ref t), .unset, .unset, .unset] [] from by first | (simp [entryFrame, mkF, argsToLocals, Value.category]; done) | rfl]
  have E_ci := IC.ext X0.old.2
  have A2 : Arv Z h0 t kt .byte (3 : Int32) [(.int (StrChars.lo8 c0)), (.int (StrChars.lo8 c1)), (.int (StrChars.lo8 c2))] (.int 0) := AT
  refine X0.aloadN (x := (.ref t)) (D d30_0) rfl rfl ?_
  refine X0.alen A2 (D d30_1) ?_
  refine X0.istoreN #[.val (.ref t), .val (.int (3 : Int32)), .unset, .unset] (D d30_2) rfl ?_
  refine X0.iloadN (x := (3 : Int32)) (D d30_3) rfl ?_
  refine X0.istoreN #[.val (.ref t), .val (.int (3 : Int32)), .val (.int (3 : Int32)), .unset] (D d30_4) rfl ?_
  refine X0.iconst (x := (0 : Int32)) (D d30_5) rfl ?_
  refine X0.iloadN (x := (3 : Int32)) (D d30_6) rfl ?_
  refine X0.icmp_ge 49 (D d30_7) ⟨by decide, by decide⟩ (fun hc617 => absurd hc617 (by decide)) (fun hc617 => ?_)
  refine X0.aloadN (x := (.ref t)) (D d30_10) rfl rfl ?_
  refine X0.iloadN (x := (3 : Int32)) (D d30_11) rfl ?_
  refine X0.iconst (x := (1 : Int32)) (D d30_12) rfl ?_
  refine X0.isub (D d30_13) ?_
  show Goes p.tables e below _ (T0.setTop (mkF m 14 #[.val (.ref t), .val (.int (3 : Int32)), .val (.int (3 : Int32)), .unset] [(.int (2 : Int32)), (.ref t)]))
  show Goes p.tables e below _ (T0.setTop (mkF m 14 #[.val (.ref t), .val (.int (3 : Int32)), .val (.int (3 : Int32)), .unset] [(.int (2 : Int32)), (.ref t)]))
  suffices adv0 : ∀ (T618 : State) (h619 : Heap), Wd p l e ({ frames := 3, cells := 0, slots := 0, locals := 60 } : Room) sS m #[(.ref t)] below meth c Z a0 consts_1 ((⟨"java/lang/StringLatin1", "lastIndexOfNonWhitespace", "([B)I"⟩ : MethodName)).cls n0 [] [] T618 h619 0 0 → Arv Z h619 t kt .byte (3 : Int32) [(.int (StrChars.lo8 c0)), (.int (StrChars.lo8 c1)), (.int (StrChars.lo8 c2))] (.int 0) → Exa Z h619 ci "java/lang/CharacterDataLatin1" → (wsP c2) → Goes p.tables e below (Endq Z consts_1 sS n0 [] ({ frames := 3, cells := 0, slots := 0, locals := 60 } : Room) (fun v _ => v = some (.int (Int32.ofNat (lwN [c0, c1, c2]))))) (T618.setTop (mkF m 43 #[.val (.ref t), .val (.int (3 : Int32)), .val (.int (3 : Int32)), .val (.int c2)] [])) by
    refine X0.calls [(.ref t), (.int (2 : Int32))] [] (ctGC l Z a0 hw hEL z0 S0 hz0 t kt [c0, c1, c2] 2 _ _ A2 (hpS r0 (hpS r1 (hpS r2 hp0))) (Nat.le_of_ble_eq_true rfl) (Nat.le_of_ble_eq_true rfl)) (w 118 rfl) (w 119 rfl) (w 61 rfl) (w 120 rfl) (by decide) (fun _ q => nomatch q) (by decide) 0 (by decide) (by decide) (by decide) (lenOf pd_14 rfl) rfl (Nat.le_of_ble_eq_true rfl) (by rw [hml]; rfl) (D d30_14) ?_
    rintro T623 h624 _ X626 K627 rfl
    have F628 := E_ci.keep K627
    have F629 := A2.keep K627 nin0
    show Goes p.tables e below _ (T623.setTop (mkF m 17 #[.val (.ref t), .val (.int (3 : Int32)), .val (.int (3 : Int32)), .unset] [(.int c2)]))
    refine X626.istoreN #[.val (.ref t), .val (.int (3 : Int32)), .val (.int (3 : Int32)), .val (.int c2)] (D d30_17) rfl ?_
    refine X626.iloadN (x := c2) (D d30_18) rfl ?_
    refine X626.bipush (x := (32 : Int32)) (D d30_19) rfl ?_
    refine X626.icmp_eq 43 (D d30_21) ⟨by decide, by decide⟩ (fun hc630 => ?_) (fun hc630 => ?_)
    · show Goes p.tables e below _ (T623.setTop (mkF m 43 #[.val (.ref t), .val (.int (3 : Int32)), .val (.int (3 : Int32)), .val (.int c2)] []))
      show Goes p.tables e below _ (T623.setTop (mkF m 43 #[.val (.ref t), .val (.int (3 : Int32)), .val (.int (3 : Int32)), .val (.int c2)] []))
      exact adv0 _ _  X626 F629 F628 (Or.inl hc630)
    · show Goes p.tables e below _ (T623.setTop (mkF m 24 #[.val (.ref t), .val (.int (3 : Int32)), .val (.int (3 : Int32)), .val (.int c2)] []))
      refine X626.iloadN (x := c2) (D d30_24) rfl ?_
      refine X626.bipush (x := (9 : Int32)) (D d30_25) rfl ?_
      refine X626.icmp_eq 43 (D d30_27) ⟨by decide, by decide⟩ (fun hc631 => ?_) (fun hc631 => ?_)
      · show Goes p.tables e below _ (T623.setTop (mkF m 43 #[.val (.ref t), .val (.int (3 : Int32)), .val (.int (3 : Int32)), .val (.int c2)] []))
        show Goes p.tables e below _ (T623.setTop (mkF m 43 #[.val (.ref t), .val (.int (3 : Int32)), .val (.int (3 : Int32)), .val (.int c2)] []))
        exact adv0 _ _  X626 F629 F628 (by rw [hc631]; decide)
      · show Goes p.tables e below _ (T623.setTop (mkF m 30 #[.val (.ref t), .val (.int (3 : Int32)), .val (.int (3 : Int32)), .val (.int c2)] []))
        refine X626.gets (w 121 rfl) Via.refl (Sta.ext X626.old.2 SI) (D d30_30) ?_
        intro T632 X633
        show Goes p.tables e below _ (T632.setTop (mkF m 33 #[.val (.ref t), .val (.int (3 : Int32)), .val (.int (3 : Int32)), .val (.int c2)] [(.ref ci)]))
        refine X633.iloadN (x := c2) (D d30_33) rfl ?_
        refine X633.callv (y := (⟨"java/lang/CharacterDataLatin1", "isWhitespace", "(I)Z"⟩ : MethodName)) (a := ci) (C := "java/lang/CharacterDataLatin1") [(.int c2)] [] (ctIW l Z a0 hw hEL z0 S0 hz0 ci aA cA SI IC ST TA c2 r2 _ _) F628 (w 123 rfl) (w 124 rfl) (w 126 rfl) (w 125 rfl) (w 122 rfl) (w 127 rfl) (by decide) (fun _ q => nomatch q) (by decide) 0 (by decide) (by decide) (by decide) (lenOf pd_11 rfl) rfl (Nat.le_of_ble_eq_true rfl) (by rw [hml]; rfl) (D d30_34) ?_
        rintro T635 h636 _ X638 K639 (⟨rfl, hc634⟩ | ⟨rfl, hc634⟩)
        · have F640 := F628.keep K639
          have F641 := F629.keep K639 nin0
          show Goes p.tables e below _ (T635.setTop (mkF m 37 #[.val (.ref t), .val (.int (3 : Int32)), .val (.int (3 : Int32)), .val (.int c2)] [(.int (1 : Int32))]))
          refine X638.if_ne 43 (D d30_37) ⟨by decide, by decide⟩ (fun hc642 => ?_) (fun hc642 => absurd hc642 (by decide))
          show Goes p.tables e below _ (T635.setTop (mkF m 43 #[.val (.ref t), .val (.int (3 : Int32)), .val (.int (3 : Int32)), .val (.int c2)] []))
          exact adv0 _ _  X638 F641 F640 hc634
        · have F640 := F628.keep K639
          have F641 := F629.keep K639 nin0
          show Goes p.tables e below _ (T635.setTop (mkF m 37 #[.val (.ref t), .val (.int (3 : Int32)), .val (.int (3 : Int32)), .val (.int c2)] [(.int (0 : Int32))]))
          refine X638.if_ne 43 (D d30_37) ⟨by decide, by decide⟩ (fun hc643 => absurd hc643 (by decide)) (fun hc643 => ?_)
          refine X638.goto 49 (D d30_40) ⟨by decide, by decide⟩ ?_
          refine X638.iloadN (x := (3 : Int32)) (D d30_49) rfl ?_
          exact X638.retI hret hlk (D d30_50) (by decide) (by decide) (congrArg (fun z => some (Value.int (Int32.ofNat z))) (show 3 = lwN [c0, c1, c2] from by simp [lwN, hc634]))
  intro T618 h619  X620 F621 F622 hw2
  refine X620.iinc #[.val (.ref t), .val (.int (3 : Int32)), .val (.int (2 : Int32)), .val (.int c2)] (D d30_43) rfl rfl ?_
  refine X620.goto 5 (D d30_46) ⟨by decide, by decide⟩ ?_
  refine X620.iconst (x := (0 : Int32)) (D d30_5) rfl ?_
  refine X620.iloadN (x := (2 : Int32)) (D d30_6) rfl ?_
  refine X620.icmp_ge 49 (D d30_7) ⟨by decide, by decide⟩ (fun hc644 => absurd hc644 (by decide)) (fun hc644 => ?_)
  refine X620.aloadN (x := (.ref t)) (D d30_10) rfl rfl ?_
  refine X620.iloadN (x := (2 : Int32)) (D d30_11) rfl ?_
  refine X620.iconst (x := (1 : Int32)) (D d30_12) rfl ?_
  refine X620.isub (D d30_13) ?_
  show Goes p.tables e below _ (T618.setTop (mkF m 14 #[.val (.ref t), .val (.int (3 : Int32)), .val (.int (2 : Int32)), .val (.int c2)] [(.int (1 : Int32)), (.ref t)]))
  show Goes p.tables e below _ (T618.setTop (mkF m 14 #[.val (.ref t), .val (.int (3 : Int32)), .val (.int (2 : Int32)), .val (.int c2)] [(.int (1 : Int32)), (.ref t)]))
  suffices adv1 : ∀ (T645 : State) (h646 : Heap), Wd p l e ({ frames := 3, cells := 0, slots := 0, locals := 60 } : Room) sS m #[(.ref t)] below meth c Z a0 consts_1 ((⟨"java/lang/StringLatin1", "lastIndexOfNonWhitespace", "([B)I"⟩ : MethodName)).cls n0 [] [] T645 h646 0 0 → Arv Z h646 t kt .byte (3 : Int32) [(.int (StrChars.lo8 c0)), (.int (StrChars.lo8 c1)), (.int (StrChars.lo8 c2))] (.int 0) → Exa Z h646 ci "java/lang/CharacterDataLatin1" → (wsP c1) → Goes p.tables e below (Endq Z consts_1 sS n0 [] ({ frames := 3, cells := 0, slots := 0, locals := 60 } : Room) (fun v _ => v = some (.int (Int32.ofNat (lwN [c0, c1, c2]))))) (T645.setTop (mkF m 43 #[.val (.ref t), .val (.int (3 : Int32)), .val (.int (2 : Int32)), .val (.int c1)] [])) by
    refine X620.calls [(.ref t), (.int (1 : Int32))] [] (ctGC l Z a0 hw hEL z0 S0 hz0 t kt [c0, c1, c2] 1 _ _ F621 (hpS r0 (hpS r1 (hpS r2 hp0))) (Nat.le_of_ble_eq_true rfl) (Nat.le_of_ble_eq_true rfl)) (w 118 rfl) (w 119 rfl) (w 61 rfl) (w 120 rfl) (by decide) (fun _ q => nomatch q) (by decide) 0 (by decide) (by decide) (by decide) (lenOf pd_14 rfl) rfl (Nat.le_of_ble_eq_true rfl) (by rw [hml]; rfl) (D d30_14) ?_
    rintro T650 h651 _ X653 K654 rfl
    have F655 := F621.keep K654 nin0
    have F656 := F622.keep K654
    show Goes p.tables e below _ (T650.setTop (mkF m 17 #[.val (.ref t), .val (.int (3 : Int32)), .val (.int (2 : Int32)), .val (.int c2)] [(.int c1)]))
    refine X653.istoreN #[.val (.ref t), .val (.int (3 : Int32)), .val (.int (2 : Int32)), .val (.int c1)] (D d30_17) rfl ?_
    refine X653.iloadN (x := c1) (D d30_18) rfl ?_
    refine X653.bipush (x := (32 : Int32)) (D d30_19) rfl ?_
    refine X653.icmp_eq 43 (D d30_21) ⟨by decide, by decide⟩ (fun hc657 => ?_) (fun hc657 => ?_)
    · show Goes p.tables e below _ (T650.setTop (mkF m 43 #[.val (.ref t), .val (.int (3 : Int32)), .val (.int (2 : Int32)), .val (.int c1)] []))
      show Goes p.tables e below _ (T650.setTop (mkF m 43 #[.val (.ref t), .val (.int (3 : Int32)), .val (.int (2 : Int32)), .val (.int c1)] []))
      exact adv1 _ _  X653 F655 F656 (Or.inl hc657)
    · show Goes p.tables e below _ (T650.setTop (mkF m 24 #[.val (.ref t), .val (.int (3 : Int32)), .val (.int (2 : Int32)), .val (.int c1)] []))
      refine X653.iloadN (x := c1) (D d30_24) rfl ?_
      refine X653.bipush (x := (9 : Int32)) (D d30_25) rfl ?_
      refine X653.icmp_eq 43 (D d30_27) ⟨by decide, by decide⟩ (fun hc658 => ?_) (fun hc658 => ?_)
      · show Goes p.tables e below _ (T650.setTop (mkF m 43 #[.val (.ref t), .val (.int (3 : Int32)), .val (.int (2 : Int32)), .val (.int c1)] []))
        show Goes p.tables e below _ (T650.setTop (mkF m 43 #[.val (.ref t), .val (.int (3 : Int32)), .val (.int (2 : Int32)), .val (.int c1)] []))
        exact adv1 _ _  X653 F655 F656 (by rw [hc658]; decide)
      · show Goes p.tables e below _ (T650.setTop (mkF m 30 #[.val (.ref t), .val (.int (3 : Int32)), .val (.int (2 : Int32)), .val (.int c1)] []))
        refine X653.gets (w 121 rfl) Via.refl (Sta.ext X653.old.2 SI) (D d30_30) ?_
        intro T659 X660
        show Goes p.tables e below _ (T659.setTop (mkF m 33 #[.val (.ref t), .val (.int (3 : Int32)), .val (.int (2 : Int32)), .val (.int c1)] [(.ref ci)]))
        refine X660.iloadN (x := c1) (D d30_33) rfl ?_
        refine X660.callv (y := (⟨"java/lang/CharacterDataLatin1", "isWhitespace", "(I)Z"⟩ : MethodName)) (a := ci) (C := "java/lang/CharacterDataLatin1") [(.int c1)] [] (ctIW l Z a0 hw hEL z0 S0 hz0 ci aA cA SI IC ST TA c1 r1 _ _) F656 (w 123 rfl) (w 124 rfl) (w 126 rfl) (w 125 rfl) (w 122 rfl) (w 127 rfl) (by decide) (fun _ q => nomatch q) (by decide) 0 (by decide) (by decide) (by decide) (lenOf pd_11 rfl) rfl (Nat.le_of_ble_eq_true rfl) (by rw [hml]; rfl) (D d30_34) ?_
        rintro T662 h663 _ X665 K666 (⟨rfl, hc661⟩ | ⟨rfl, hc661⟩)
        · have F667 := F655.keep K666 nin0
          have F668 := F656.keep K666
          show Goes p.tables e below _ (T662.setTop (mkF m 37 #[.val (.ref t), .val (.int (3 : Int32)), .val (.int (2 : Int32)), .val (.int c1)] [(.int (1 : Int32))]))
          refine X665.if_ne 43 (D d30_37) ⟨by decide, by decide⟩ (fun hc669 => ?_) (fun hc669 => absurd hc669 (by decide))
          show Goes p.tables e below _ (T662.setTop (mkF m 43 #[.val (.ref t), .val (.int (3 : Int32)), .val (.int (2 : Int32)), .val (.int c1)] []))
          exact adv1 _ _  X665 F667 F668 hc661
        · have F667 := F655.keep K666 nin0
          have F668 := F656.keep K666
          show Goes p.tables e below _ (T662.setTop (mkF m 37 #[.val (.ref t), .val (.int (3 : Int32)), .val (.int (2 : Int32)), .val (.int c1)] [(.int (0 : Int32))]))
          refine X665.if_ne 43 (D d30_37) ⟨by decide, by decide⟩ (fun hc670 => absurd hc670 (by decide)) (fun hc670 => ?_)
          refine X665.goto 49 (D d30_40) ⟨by decide, by decide⟩ ?_
          refine X665.iloadN (x := (2 : Int32)) (D d30_49) rfl ?_
          exact X665.retI hret hlk (D d30_50) (by decide) (by decide) (congrArg (fun z => some (Value.int (Int32.ofNat z))) (show 2 = lwN [c0, c1, c2] from by simp [lwN, hw2, hc661]))
  intro T645 h646  X647 F648 F649 hw1
  refine X647.iinc #[.val (.ref t), .val (.int (3 : Int32)), .val (.int (1 : Int32)), .val (.int c1)] (D d30_43) rfl rfl ?_
  refine X647.goto 5 (D d30_46) ⟨by decide, by decide⟩ ?_
  refine X647.iconst (x := (0 : Int32)) (D d30_5) rfl ?_
  refine X647.iloadN (x := (1 : Int32)) (D d30_6) rfl ?_
  refine X647.icmp_ge 49 (D d30_7) ⟨by decide, by decide⟩ (fun hc671 => absurd hc671 (by decide)) (fun hc671 => ?_)
  refine X647.aloadN (x := (.ref t)) (D d30_10) rfl rfl ?_
  refine X647.iloadN (x := (1 : Int32)) (D d30_11) rfl ?_
  refine X647.iconst (x := (1 : Int32)) (D d30_12) rfl ?_
  refine X647.isub (D d30_13) ?_
  show Goes p.tables e below _ (T645.setTop (mkF m 14 #[.val (.ref t), .val (.int (3 : Int32)), .val (.int (1 : Int32)), .val (.int c1)] [(.int (0 : Int32)), (.ref t)]))
  show Goes p.tables e below _ (T645.setTop (mkF m 14 #[.val (.ref t), .val (.int (3 : Int32)), .val (.int (1 : Int32)), .val (.int c1)] [(.int (0 : Int32)), (.ref t)]))
  suffices adv2 : ∀ (T672 : State) (h673 : Heap), Wd p l e ({ frames := 3, cells := 0, slots := 0, locals := 60 } : Room) sS m #[(.ref t)] below meth c Z a0 consts_1 ((⟨"java/lang/StringLatin1", "lastIndexOfNonWhitespace", "([B)I"⟩ : MethodName)).cls n0 [] [] T672 h673 0 0 → Arv Z h673 t kt .byte (3 : Int32) [(.int (StrChars.lo8 c0)), (.int (StrChars.lo8 c1)), (.int (StrChars.lo8 c2))] (.int 0) → Exa Z h673 ci "java/lang/CharacterDataLatin1" → (wsP c0) → Goes p.tables e below (Endq Z consts_1 sS n0 [] ({ frames := 3, cells := 0, slots := 0, locals := 60 } : Room) (fun v _ => v = some (.int (Int32.ofNat (lwN [c0, c1, c2]))))) (T672.setTop (mkF m 43 #[.val (.ref t), .val (.int (3 : Int32)), .val (.int (1 : Int32)), .val (.int c0)] [])) by
    refine X647.calls [(.ref t), (.int (0 : Int32))] [] (ctGC l Z a0 hw hEL z0 S0 hz0 t kt [c0, c1, c2] 0 _ _ F648 (hpS r0 (hpS r1 (hpS r2 hp0))) (Nat.le_of_ble_eq_true rfl) (Nat.le_of_ble_eq_true rfl)) (w 118 rfl) (w 119 rfl) (w 61 rfl) (w 120 rfl) (by decide) (fun _ q => nomatch q) (by decide) 0 (by decide) (by decide) (by decide) (lenOf pd_14 rfl) rfl (Nat.le_of_ble_eq_true rfl) (by rw [hml]; rfl) (D d30_14) ?_
    rintro T677 h678 _ X680 K681 rfl
    have F682 := F648.keep K681 nin0
    have F683 := F649.keep K681
    show Goes p.tables e below _ (T677.setTop (mkF m 17 #[.val (.ref t), .val (.int (3 : Int32)), .val (.int (1 : Int32)), .val (.int c1)] [(.int c0)]))
    refine X680.istoreN #[.val (.ref t), .val (.int (3 : Int32)), .val (.int (1 : Int32)), .val (.int c0)] (D d30_17) rfl ?_
    refine X680.iloadN (x := c0) (D d30_18) rfl ?_
    refine X680.bipush (x := (32 : Int32)) (D d30_19) rfl ?_
    refine X680.icmp_eq 43 (D d30_21) ⟨by decide, by decide⟩ (fun hc684 => ?_) (fun hc684 => ?_)
    · show Goes p.tables e below _ (T677.setTop (mkF m 43 #[.val (.ref t), .val (.int (3 : Int32)), .val (.int (1 : Int32)), .val (.int c0)] []))
      show Goes p.tables e below _ (T677.setTop (mkF m 43 #[.val (.ref t), .val (.int (3 : Int32)), .val (.int (1 : Int32)), .val (.int c0)] []))
      exact adv2 _ _  X680 F682 F683 (Or.inl hc684)
    · show Goes p.tables e below _ (T677.setTop (mkF m 24 #[.val (.ref t), .val (.int (3 : Int32)), .val (.int (1 : Int32)), .val (.int c0)] []))
      refine X680.iloadN (x := c0) (D d30_24) rfl ?_
      refine X680.bipush (x := (9 : Int32)) (D d30_25) rfl ?_
      refine X680.icmp_eq 43 (D d30_27) ⟨by decide, by decide⟩ (fun hc685 => ?_) (fun hc685 => ?_)
      · show Goes p.tables e below _ (T677.setTop (mkF m 43 #[.val (.ref t), .val (.int (3 : Int32)), .val (.int (1 : Int32)), .val (.int c0)] []))
        show Goes p.tables e below _ (T677.setTop (mkF m 43 #[.val (.ref t), .val (.int (3 : Int32)), .val (.int (1 : Int32)), .val (.int c0)] []))
        exact adv2 _ _  X680 F682 F683 (by rw [hc685]; decide)
      · show Goes p.tables e below _ (T677.setTop (mkF m 30 #[.val (.ref t), .val (.int (3 : Int32)), .val (.int (1 : Int32)), .val (.int c0)] []))
        refine X680.gets (w 121 rfl) Via.refl (Sta.ext X680.old.2 SI) (D d30_30) ?_
        intro T686 X687
        show Goes p.tables e below _ (T686.setTop (mkF m 33 #[.val (.ref t), .val (.int (3 : Int32)), .val (.int (1 : Int32)), .val (.int c0)] [(.ref ci)]))
        refine X687.iloadN (x := c0) (D d30_33) rfl ?_
        refine X687.callv (y := (⟨"java/lang/CharacterDataLatin1", "isWhitespace", "(I)Z"⟩ : MethodName)) (a := ci) (C := "java/lang/CharacterDataLatin1") [(.int c0)] [] (ctIW l Z a0 hw hEL z0 S0 hz0 ci aA cA SI IC ST TA c0 r0 _ _) F683 (w 123 rfl) (w 124 rfl) (w 126 rfl) (w 125 rfl) (w 122 rfl) (w 127 rfl) (by decide) (fun _ q => nomatch q) (by decide) 0 (by decide) (by decide) (by decide) (lenOf pd_11 rfl) rfl (Nat.le_of_ble_eq_true rfl) (by rw [hml]; rfl) (D d30_34) ?_
        rintro T689 h690 _ X692 K693 (⟨rfl, hc688⟩ | ⟨rfl, hc688⟩)
        · have F694 := F682.keep K693 nin0
          have F695 := F683.keep K693
          show Goes p.tables e below _ (T689.setTop (mkF m 37 #[.val (.ref t), .val (.int (3 : Int32)), .val (.int (1 : Int32)), .val (.int c0)] [(.int (1 : Int32))]))
          refine X692.if_ne 43 (D d30_37) ⟨by decide, by decide⟩ (fun hc696 => ?_) (fun hc696 => absurd hc696 (by decide))
          show Goes p.tables e below _ (T689.setTop (mkF m 43 #[.val (.ref t), .val (.int (3 : Int32)), .val (.int (1 : Int32)), .val (.int c0)] []))
          exact adv2 _ _  X692 F694 F695 hc688
        · have F694 := F682.keep K693 nin0
          have F695 := F683.keep K693
          show Goes p.tables e below _ (T689.setTop (mkF m 37 #[.val (.ref t), .val (.int (3 : Int32)), .val (.int (1 : Int32)), .val (.int c0)] [(.int (0 : Int32))]))
          refine X692.if_ne 43 (D d30_37) ⟨by decide, by decide⟩ (fun hc697 => absurd hc697 (by decide)) (fun hc697 => ?_)
          refine X692.goto 49 (D d30_40) ⟨by decide, by decide⟩ ?_
          refine X692.iloadN (x := (1 : Int32)) (D d30_49) rfl ?_
          exact X692.retI hret hlk (D d30_50) (by decide) (by decide) (congrArg (fun z => some (Value.int (Int32.ofNat z))) (show 1 = lwN [c0, c1, c2] from by simp [lwN, hw2, hw1, hc688]))
  intro T672 h673  X674 F675 F676 hw0
  refine X674.iinc #[.val (.ref t), .val (.int (3 : Int32)), .val (.int (0 : Int32)), .val (.int c0)] (D d30_43) rfl rfl ?_
  refine X674.goto 5 (D d30_46) ⟨by decide, by decide⟩ ?_
  refine X674.iconst (x := (0 : Int32)) (D d30_5) rfl ?_
  refine X674.iloadN (x := (0 : Int32)) (D d30_6) rfl ?_
  refine X674.icmp_ge 49 (D d30_7) ⟨by decide, by decide⟩ (fun hc698 => ?_) (fun hc698 => absurd hc698 (by decide))
  refine X674.iloadN (x := (0 : Int32)) (D d30_49) rfl ?_
  exact X674.retI hret hlk (D d30_50) (by decide) (by decide) (congrArg (fun z => some (Value.int (Int32.ofNat z))) (show 0 = lwN [c0, c1, c2] from by simp [lwN, hw2, hw1, hw0]))
set_option maxRecDepth 65536 in
set_option maxHeartbeats 40000000 in
theorem ctNW_4 (l : Launch) (Z : State) (a0 : Array Value) (hw : ∀ d ∈ tables_1, d.before a0 Z = true) (hEL : EW Z a0 consts_1) (z0 : Int32) (S0 : Sta Z Z.heap "java/lang/String" "COMPACT_STRINGS" "Z" (.int z0)) (hz0 : ¬ z0 = 0) (ci aA : Addr) (cA : Cell) (SI : Sta Z Z.heap "java/lang/CharacterDataLatin1" "instance" "Ljava/lang/CharacterDataLatin1;" (.ref ci)) (IC : Exa Z Z.heap ci "java/lang/CharacterDataLatin1") (ST : Sta Z Z.heap "java/lang/CharacterDataLatin1" "A" "[I" (.ref aA)) (TA : TabW Z aA cA) (t : Addr) (kt : ClassId) (c0 c1 c2 c3 : Int32) (h0 : Heap) (n0 : Nat) (AT : Arv Z h0 t kt .byte (Int32.ofNat [c0, c1, c2, c3].length) (([c0, c1, c2, c3].map StrChars.lo8).map Value.int) (.int 0)) (r0 : Rb c0) (r1 : Rb c1) (r2 : Rb c2) (r3 : Rb c3) :
    Ct l Z consts_1 [] (⟨"java/lang/StringLatin1", "indexOfNonWhitespace", "([B)I"⟩ : MethodName) jdk_43_method_37_code 4 (some .int) ({ frames := 3, cells := 0, slots := 0, locals := 60 } : Room) #[(.ref t)] h0 n0 [] (fun v _ => v = some (.int (Int32.ofNat (nwN [c0, c1, c2, c3])))) := by
  have w : ∀ {d : Jvm.Cond} (i : Nat), tables_1[i]? = some d → d.before a0 Z = true := fun i q => hw _ (List.mem_of_getElem? q)
  refine Ct.enter (plainFor_of_name pn_3) hEL ?_
  intro p e sS m below meth c T0 hby hml0 hret hlk hnm hs0 X0
  have hml : c.maxLocals = 4 := hml0
  have D : ∀ {pc : Nat} {r : Except DecodeError (Instr × Nat)}, decode jdk_43_method_37_code pc = r → decode c.code pc = r := fun q => hb hby q
  rw [show entryFrame m #[(.ref t)] 4 = mkF m 0 #[.val (.ref t), .unset, .unset, .unset] [] from by first | (simp [entryFrame, mkF, argsToLocals, Value.category]; done) | rfl]
  have E_ci := IC.ext X0.old.2
  have A2 : Arv Z h0 t kt .byte (4 : Int32) [(.int (StrChars.lo8 c0)), (.int (StrChars.lo8 c1)), (.int (StrChars.lo8 c2)), (.int (StrChars.lo8 c3))] (.int 0) := AT
  refine X0.aloadN (x := (.ref t)) (D d17_0) rfl rfl ?_
  refine X0.alen A2 (D d17_1) ?_
  refine X0.istoreN #[.val (.ref t), .val (.int (4 : Int32)), .unset, .unset] (D d17_2) rfl ?_
  refine X0.iconst (x := (0 : Int32)) (D d17_3) rfl ?_
  refine X0.istoreN #[.val (.ref t), .val (.int (4 : Int32)), .val (.int (0 : Int32)), .unset] (D d17_4) rfl ?_
  refine X0.iloadN (x := (0 : Int32)) (D d17_5) rfl ?_
  refine X0.iloadN (x := (4 : Int32)) (D d17_6) rfl ?_
  refine X0.icmp_ge 47 (D d17_7) ⟨by decide, by decide⟩ (fun hc699 => absurd hc699 (by decide)) (fun hc699 => ?_)
  refine X0.aloadN (x := (.ref t)) (D d17_10) rfl rfl ?_
  refine X0.iloadN (x := (0 : Int32)) (D d17_11) rfl ?_
  show Goes p.tables e below _ (T0.setTop (mkF m 12 #[.val (.ref t), .val (.int (4 : Int32)), .val (.int (0 : Int32)), .unset] [(.int (0 : Int32)), (.ref t)]))
  suffices adv0 : ∀ (T700 : State) (h701 : Heap), Wd p l e ({ frames := 3, cells := 0, slots := 0, locals := 60 } : Room) sS m #[(.ref t)] below meth c Z a0 consts_1 ((⟨"java/lang/StringLatin1", "indexOfNonWhitespace", "([B)I"⟩ : MethodName)).cls n0 [] [] T700 h701 0 0 → Arv Z h701 t kt .byte (4 : Int32) [(.int (StrChars.lo8 c0)), (.int (StrChars.lo8 c1)), (.int (StrChars.lo8 c2)), (.int (StrChars.lo8 c3))] (.int 0) → Exa Z h701 ci "java/lang/CharacterDataLatin1" → (wsP c0) → Goes p.tables e below (Endq Z consts_1 sS n0 [] ({ frames := 3, cells := 0, slots := 0, locals := 60 } : Room) (fun v _ => v = some (.int (Int32.ofNat (nwN [c0, c1, c2, c3]))))) (T700.setTop (mkF m 41 #[.val (.ref t), .val (.int (4 : Int32)), .val (.int (0 : Int32)), .val (.int c0)] [])) by
    refine X0.calls [(.ref t), (.int (0 : Int32))] [] (ctGC l Z a0 hw hEL z0 S0 hz0 t kt [c0, c1, c2, c3] 0 _ _ A2 (hpS r0 (hpS r1 (hpS r2 (hpS r3 hp0)))) (Nat.le_of_ble_eq_true rfl) (Nat.le_of_ble_eq_true rfl)) (w 118 rfl) (w 119 rfl) (w 61 rfl) (w 120 rfl) (by decide) (fun _ q => nomatch q) (by decide) 0 (by decide) (by decide) (by decide) (lenOf pd_14 rfl) rfl (Nat.le_of_ble_eq_true rfl) (by rw [hml]; rfl) (D d17_12) ?_
    rintro T705 h706 _ X708 K709 rfl
    have F710 := E_ci.keep K709
    have F711 := A2.keep K709 nin0
    show Goes p.tables e below _ (T705.setTop (mkF m 15 #[.val (.ref t), .val (.int (4 : Int32)), .val (.int (0 : Int32)), .unset] [(.int c0)]))
    refine X708.istoreN #[.val (.ref t), .val (.int (4 : Int32)), .val (.int (0 : Int32)), .val (.int c0)] (D d17_15) rfl ?_
    refine X708.iloadN (x := c0) (D d17_16) rfl ?_
    refine X708.bipush (x := (32 : Int32)) (D d17_17) rfl ?_
    refine X708.icmp_eq 41 (D d17_19) ⟨by decide, by decide⟩ (fun hc712 => ?_) (fun hc712 => ?_)
    · show Goes p.tables e below _ (T705.setTop (mkF m 41 #[.val (.ref t), .val (.int (4 : Int32)), .val (.int (0 : Int32)), .val (.int c0)] []))
      show Goes p.tables e below _ (T705.setTop (mkF m 41 #[.val (.ref t), .val (.int (4 : Int32)), .val (.int (0 : Int32)), .val (.int c0)] []))
      exact adv0 _ _  X708 F711 F710 (Or.inl hc712)
    · show Goes p.tables e below _ (T705.setTop (mkF m 22 #[.val (.ref t), .val (.int (4 : Int32)), .val (.int (0 : Int32)), .val (.int c0)] []))
      refine X708.iloadN (x := c0) (D d17_22) rfl ?_
      refine X708.bipush (x := (9 : Int32)) (D d17_23) rfl ?_
      refine X708.icmp_eq 41 (D d17_25) ⟨by decide, by decide⟩ (fun hc713 => ?_) (fun hc713 => ?_)
      · show Goes p.tables e below _ (T705.setTop (mkF m 41 #[.val (.ref t), .val (.int (4 : Int32)), .val (.int (0 : Int32)), .val (.int c0)] []))
        show Goes p.tables e below _ (T705.setTop (mkF m 41 #[.val (.ref t), .val (.int (4 : Int32)), .val (.int (0 : Int32)), .val (.int c0)] []))
        exact adv0 _ _  X708 F711 F710 (by rw [hc713]; decide)
      · show Goes p.tables e below _ (T705.setTop (mkF m 28 #[.val (.ref t), .val (.int (4 : Int32)), .val (.int (0 : Int32)), .val (.int c0)] []))
        refine X708.gets (w 121 rfl) Via.refl (Sta.ext X708.old.2 SI) (D d17_28) ?_
        intro T714 X715
        show Goes p.tables e below _ (T714.setTop (mkF m 31 #[.val (.ref t), .val (.int (4 : Int32)), .val (.int (0 : Int32)), .val (.int c0)] [(.ref ci)]))
        refine X715.iloadN (x := c0) (D d17_31) rfl ?_
        refine X715.callv (y := (⟨"java/lang/CharacterDataLatin1", "isWhitespace", "(I)Z"⟩ : MethodName)) (a := ci) (C := "java/lang/CharacterDataLatin1") [(.int c0)] [] (ctIW l Z a0 hw hEL z0 S0 hz0 ci aA cA SI IC ST TA c0 r0 _ _) F710 (w 123 rfl) (w 124 rfl) (w 126 rfl) (w 125 rfl) (w 122 rfl) (w 127 rfl) (by decide) (fun _ q => nomatch q) (by decide) 0 (by decide) (by decide) (by decide) (lenOf pd_11 rfl) rfl (Nat.le_of_ble_eq_true rfl) (by rw [hml]; rfl) (D d17_32) ?_
        rintro T717 h718 _ X720 K721 (⟨rfl, hc716⟩ | ⟨rfl, hc716⟩)
        · have F722 := F710.keep K721
          have F723 := F711.keep K721 nin0
          show Goes p.tables e below _ (T717.setTop (mkF m 35 #[.val (.ref t), .val (.int (4 : Int32)), .val (.int (0 : Int32)), .val (.int c0)] [(.int (1 : Int32))]))
          refine X720.if_ne 41 (D d17_35) ⟨by decide, by decide⟩ (fun hc724 => ?_) (fun hc724 => absurd hc724 (by decide))
          show Goes p.tables e below _ (T717.setTop (mkF m 41 #[.val (.ref t), .val (.int (4 : Int32)), .val (.int (0 : Int32)), .val (.int c0)] []))
          exact adv0 _ _  X720 F723 F722 hc716
        · have F722 := F710.keep K721
          have F723 := F711.keep K721 nin0
          show Goes p.tables e below _ (T717.setTop (mkF m 35 #[.val (.ref t), .val (.int (4 : Int32)), .val (.int (0 : Int32)), .val (.int c0)] [(.int (0 : Int32))]))
          refine X720.if_ne 41 (D d17_35) ⟨by decide, by decide⟩ (fun hc725 => absurd hc725 (by decide)) (fun hc725 => ?_)
          refine X720.goto 47 (D d17_38) ⟨by decide, by decide⟩ ?_
          refine X720.iloadN (x := (0 : Int32)) (D d17_47) rfl ?_
          exact X720.retI hret hlk (D d17_48) (by decide) (by decide) (congrArg (fun z => some (Value.int (Int32.ofNat z))) (show 0 = nwN [c0, c1, c2, c3] from by simp [nwN, hc716]))
  intro T700 h701  X702 F703 F704 hw0
  refine X702.iinc #[.val (.ref t), .val (.int (4 : Int32)), .val (.int (1 : Int32)), .val (.int c0)] (D d17_41) rfl rfl ?_
  refine X702.goto 5 (D d17_44) ⟨by decide, by decide⟩ ?_
  refine X702.iloadN (x := (1 : Int32)) (D d17_5) rfl ?_
  refine X702.iloadN (x := (4 : Int32)) (D d17_6) rfl ?_
  refine X702.icmp_ge 47 (D d17_7) ⟨by decide, by decide⟩ (fun hc726 => absurd hc726 (by decide)) (fun hc726 => ?_)
  refine X702.aloadN (x := (.ref t)) (D d17_10) rfl rfl ?_
  refine X702.iloadN (x := (1 : Int32)) (D d17_11) rfl ?_
  show Goes p.tables e below _ (T700.setTop (mkF m 12 #[.val (.ref t), .val (.int (4 : Int32)), .val (.int (1 : Int32)), .val (.int c0)] [(.int (1 : Int32)), (.ref t)]))
  suffices adv1 : ∀ (T727 : State) (h728 : Heap), Wd p l e ({ frames := 3, cells := 0, slots := 0, locals := 60 } : Room) sS m #[(.ref t)] below meth c Z a0 consts_1 ((⟨"java/lang/StringLatin1", "indexOfNonWhitespace", "([B)I"⟩ : MethodName)).cls n0 [] [] T727 h728 0 0 → Arv Z h728 t kt .byte (4 : Int32) [(.int (StrChars.lo8 c0)), (.int (StrChars.lo8 c1)), (.int (StrChars.lo8 c2)), (.int (StrChars.lo8 c3))] (.int 0) → Exa Z h728 ci "java/lang/CharacterDataLatin1" → (wsP c1) → Goes p.tables e below (Endq Z consts_1 sS n0 [] ({ frames := 3, cells := 0, slots := 0, locals := 60 } : Room) (fun v _ => v = some (.int (Int32.ofNat (nwN [c0, c1, c2, c3]))))) (T727.setTop (mkF m 41 #[.val (.ref t), .val (.int (4 : Int32)), .val (.int (1 : Int32)), .val (.int c1)] [])) by
    refine X702.calls [(.ref t), (.int (1 : Int32))] [] (ctGC l Z a0 hw hEL z0 S0 hz0 t kt [c0, c1, c2, c3] 1 _ _ F703 (hpS r0 (hpS r1 (hpS r2 (hpS r3 hp0)))) (Nat.le_of_ble_eq_true rfl) (Nat.le_of_ble_eq_true rfl)) (w 118 rfl) (w 119 rfl) (w 61 rfl) (w 120 rfl) (by decide) (fun _ q => nomatch q) (by decide) 0 (by decide) (by decide) (by decide) (lenOf pd_14 rfl) rfl (Nat.le_of_ble_eq_true rfl) (by rw [hml]; rfl) (D d17_12) ?_
    rintro T732 h733 _ X735 K736 rfl
    have F737 := F703.keep K736 nin0
    have F738 := F704.keep K736
    show Goes p.tables e below _ (T732.setTop (mkF m 15 #[.val (.ref t), .val (.int (4 : Int32)), .val (.int (1 : Int32)), .val (.int c0)] [(.int c1)]))
    refine X735.istoreN #[.val (.ref t), .val (.int (4 : Int32)), .val (.int (1 : Int32)), .val (.int c1)] (D d17_15) rfl ?_
    refine X735.iloadN (x := c1) (D d17_16) rfl ?_
    refine X735.bipush (x := (32 : Int32)) (D d17_17) rfl ?_
    refine X735.icmp_eq 41 (D d17_19) ⟨by decide, by decide⟩ (fun hc739 => ?_) (fun hc739 => ?_)
    · show Goes p.tables e below _ (T732.setTop (mkF m 41 #[.val (.ref t), .val (.int (4 : Int32)), .val (.int (1 : Int32)), .val (.int c1)] []))
      show Goes p.tables e below _ (T732.setTop (mkF m 41 #[.val (.ref t), .val (.int (4 : Int32)), .val (.int (1 : Int32)), .val (.int c1)] []))
      exact adv1 _ _  X735 F737 F738 (Or.inl hc739)
    · show Goes p.tables e below _ (T732.setTop (mkF m 22 #[.val (.ref t), .val (.int (4 : Int32)), .val (.int (1 : Int32)), .val (.int c1)] []))
      refine X735.iloadN (x := c1) (D d17_22) rfl ?_
      refine X735.bipush (x := (9 : Int32)) (D d17_23) rfl ?_
      refine X735.icmp_eq 41 (D d17_25) ⟨by decide, by decide⟩ (fun hc740 => ?_) (fun hc740 => ?_)
      · show Goes p.tables e below _ (T732.setTop (mkF m 41 #[.val (.ref t), .val (.int (4 : Int32)), .val (.int (1 : Int32)), .val (.int c1)] []))
        show Goes p.tables e below _ (T732.setTop (mkF m 41 #[.val (.ref t), .val (.int (4 : Int32)), .val (.int (1 : Int32)), .val (.int c1)] []))
        exact adv1 _ _  X735 F737 F738 (by rw [hc740]; decide)
      · show Goes p.tables e below _ (T732.setTop (mkF m 28 #[.val (.ref t), .val (.int (4 : Int32)), .val (.int (1 : Int32)), .val (.int c1)] []))
        refine X735.gets (w 121 rfl) Via.refl (Sta.ext X735.old.2 SI) (D d17_28) ?_
        intro T741 X742
        show Goes p.tables e below _ (T741.setTop (mkF m 31 #[.val (.ref t), .val (.int (4 : Int32)), .val (.int (1 : Int32)), .val (.int c1)] [(.ref ci)]))
        refine X742.iloadN (x := c1) (D d17_31) rfl ?_
        refine X742.callv (y := (⟨"java/lang/CharacterDataLatin1", "isWhitespace", "(I)Z"⟩ : MethodName)) (a := ci) (C := "java/lang/CharacterDataLatin1") [(.int c1)] [] (ctIW l Z a0 hw hEL z0 S0 hz0 ci aA cA SI IC ST TA c1 r1 _ _) F738 (w 123 rfl) (w 124 rfl) (w 126 rfl) (w 125 rfl) (w 122 rfl) (w 127 rfl) (by decide) (fun _ q => nomatch q) (by decide) 0 (by decide) (by decide) (by decide) (lenOf pd_11 rfl) rfl (Nat.le_of_ble_eq_true rfl) (by rw [hml]; rfl) (D d17_32) ?_
        rintro T744 h745 _ X747 K748 (⟨rfl, hc743⟩ | ⟨rfl, hc743⟩)
        · have F749 := F737.keep K748 nin0
          have F750 := F738.keep K748
          show Goes p.tables e below _ (T744.setTop (mkF m 35 #[.val (.ref t), .val (.int (4 : Int32)), .val (.int (1 : Int32)), .val (.int c1)] [(.int (1 : Int32))]))
          refine X747.if_ne 41 (D d17_35) ⟨by decide, by decide⟩ (fun hc751 => ?_) (fun hc751 => absurd hc751 (by decide))
          show Goes p.tables e below _ (T744.setTop (mkF m 41 #[.val (.ref t), .val (.int (4 : Int32)), .val (.int (1 : Int32)), .val (.int c1)] []))
          exact adv1 _ _  X747 F749 F750 hc743
        · have F749 := F737.keep K748 nin0
          have F750 := F738.keep K748
          show Goes p.tables e below _ (T744.setTop (mkF m 35 #[.val (.ref t), .val (.int (4 : Int32)), .val (.int (1 : Int32)), .val (.int c1)] [(.int (0 : Int32))]))
          refine X747.if_ne 41 (D d17_35) ⟨by decide, by decide⟩ (fun hc752 => absurd hc752 (by decide)) (fun hc752 => ?_)
          refine X747.goto 47 (D d17_38) ⟨by decide, by decide⟩ ?_
          refine X747.iloadN (x := (1 : Int32)) (D d17_47) rfl ?_
          exact X747.retI hret hlk (D d17_48) (by decide) (by decide) (congrArg (fun z => some (Value.int (Int32.ofNat z))) (show 1 = nwN [c0, c1, c2, c3] from by simp [nwN, hw0, hc743]))
  intro T727 h728  X729 F730 F731 hw1
  refine X729.iinc #[.val (.ref t), .val (.int (4 : Int32)), .val (.int (2 : Int32)), .val (.int c1)] (D d17_41) rfl rfl ?_
  refine X729.goto 5 (D d17_44) ⟨by decide, by decide⟩ ?_
  refine X729.iloadN (x := (2 : Int32)) (D d17_5) rfl ?_
  refine X729.iloadN (x := (4 : Int32)) (D d17_6) rfl ?_
  refine X729.icmp_ge 47 (D d17_7) ⟨by decide, by decide⟩ (fun hc753 => absurd hc753 (by decide)) (fun hc753 => ?_)
  refine X729.aloadN (x := (.ref t)) (D d17_10) rfl rfl ?_
  refine X729.iloadN (x := (2 : Int32)) (D d17_11) rfl ?_
  show Goes p.tables e below _ (T727.setTop (mkF m 12 #[.val (.ref t), .val (.int (4 : Int32)), .val (.int (2 : Int32)), .val (.int c1)] [(.int (2 : Int32)), (.ref t)]))
  suffices adv2 : ∀ (T754 : State) (h755 : Heap), Wd p l e ({ frames := 3, cells := 0, slots := 0, locals := 60 } : Room) sS m #[(.ref t)] below meth c Z a0 consts_1 ((⟨"java/lang/StringLatin1", "indexOfNonWhitespace", "([B)I"⟩ : MethodName)).cls n0 [] [] T754 h755 0 0 → Arv Z h755 t kt .byte (4 : Int32) [(.int (StrChars.lo8 c0)), (.int (StrChars.lo8 c1)), (.int (StrChars.lo8 c2)), (.int (StrChars.lo8 c3))] (.int 0) → Exa Z h755 ci "java/lang/CharacterDataLatin1" → (wsP c2) → Goes p.tables e below (Endq Z consts_1 sS n0 [] ({ frames := 3, cells := 0, slots := 0, locals := 60 } : Room) (fun v _ => v = some (.int (Int32.ofNat (nwN [c0, c1, c2, c3]))))) (T754.setTop (mkF m 41 #[.val (.ref t), .val (.int (4 : Int32)), .val (.int (2 : Int32)), .val (.int c2)] [])) by
    refine X729.calls [(.ref t), (.int (2 : Int32))] [] (ctGC l Z a0 hw hEL z0 S0 hz0 t kt [c0, c1, c2, c3] 2 _ _ F730 (hpS r0 (hpS r1 (hpS r2 (hpS r3 hp0)))) (Nat.le_of_ble_eq_true rfl) (Nat.le_of_ble_eq_true rfl)) (w 118 rfl) (w 119 rfl) (w 61 rfl) (w 120 rfl) (by decide) (fun _ q => nomatch q) (by decide) 0 (by decide) (by decide) (by decide) (lenOf pd_14 rfl) rfl (Nat.le_of_ble_eq_true rfl) (by rw [hml]; rfl) (D d17_12) ?_
    rintro T759 h760 _ X762 K763 rfl
    have F764 := F730.keep K763 nin0
    have F765 := F731.keep K763
    show Goes p.tables e below _ (T759.setTop (mkF m 15 #[.val (.ref t), .val (.int (4 : Int32)), .val (.int (2 : Int32)), .val (.int c1)] [(.int c2)]))
    refine X762.istoreN #[.val (.ref t), .val (.int (4 : Int32)), .val (.int (2 : Int32)), .val (.int c2)] (D d17_15) rfl ?_
    refine X762.iloadN (x := c2) (D d17_16) rfl ?_
    refine X762.bipush (x := (32 : Int32)) (D d17_17) rfl ?_
    refine X762.icmp_eq 41 (D d17_19) ⟨by decide, by decide⟩ (fun hc766 => ?_) (fun hc766 => ?_)
    · show Goes p.tables e below _ (T759.setTop (mkF m 41 #[.val (.ref t), .val (.int (4 : Int32)), .val (.int (2 : Int32)), .val (.int c2)] []))
      show Goes p.tables e below _ (T759.setTop (mkF m 41 #[.val (.ref t), .val (.int (4 : Int32)), .val (.int (2 : Int32)), .val (.int c2)] []))
      exact adv2 _ _  X762 F764 F765 (Or.inl hc766)
    · show Goes p.tables e below _ (T759.setTop (mkF m 22 #[.val (.ref t), .val (.int (4 : Int32)), .val (.int (2 : Int32)), .val (.int c2)] []))
      refine X762.iloadN (x := c2) (D d17_22) rfl ?_
      refine X762.bipush (x := (9 : Int32)) (D d17_23) rfl ?_
      refine X762.icmp_eq 41 (D d17_25) ⟨by decide, by decide⟩ (fun hc767 => ?_) (fun hc767 => ?_)
      · show Goes p.tables e below _ (T759.setTop (mkF m 41 #[.val (.ref t), .val (.int (4 : Int32)), .val (.int (2 : Int32)), .val (.int c2)] []))
        show Goes p.tables e below _ (T759.setTop (mkF m 41 #[.val (.ref t), .val (.int (4 : Int32)), .val (.int (2 : Int32)), .val (.int c2)] []))
        exact adv2 _ _  X762 F764 F765 (by rw [hc767]; decide)
      · show Goes p.tables e below _ (T759.setTop (mkF m 28 #[.val (.ref t), .val (.int (4 : Int32)), .val (.int (2 : Int32)), .val (.int c2)] []))
        refine X762.gets (w 121 rfl) Via.refl (Sta.ext X762.old.2 SI) (D d17_28) ?_
        intro T768 X769
        show Goes p.tables e below _ (T768.setTop (mkF m 31 #[.val (.ref t), .val (.int (4 : Int32)), .val (.int (2 : Int32)), .val (.int c2)] [(.ref ci)]))
        refine X769.iloadN (x := c2) (D d17_31) rfl ?_
        refine X769.callv (y := (⟨"java/lang/CharacterDataLatin1", "isWhitespace", "(I)Z"⟩ : MethodName)) (a := ci) (C := "java/lang/CharacterDataLatin1") [(.int c2)] [] (ctIW l Z a0 hw hEL z0 S0 hz0 ci aA cA SI IC ST TA c2 r2 _ _) F765 (w 123 rfl) (w 124 rfl) (w 126 rfl) (w 125 rfl) (w 122 rfl) (w 127 rfl) (by decide) (fun _ q => nomatch q) (by decide) 0 (by decide) (by decide) (by decide) (lenOf pd_11 rfl) rfl (Nat.le_of_ble_eq_true rfl) (by rw [hml]; rfl) (D d17_32) ?_
        rintro T771 h772 _ X774 K775 (⟨rfl, hc770⟩ | ⟨rfl, hc770⟩)
        · have F776 := F764.keep K775 nin0
          have F777 := F765.keep K775
          show Goes p.tables e below _ (T771.setTop (mkF m 35 #[.val (.ref t), .val (.int (4 : Int32)), .val (.int (2 : Int32)), .val (.int c2)] [(.int (1 : Int32))]))
          refine X774.if_ne 41 (D d17_35) ⟨by decide, by decide⟩ (fun hc778 => ?_) (fun hc778 => absurd hc778 (by decide))
          show Goes p.tables e below _ (T771.setTop (mkF m 41 #[.val (.ref t), .val (.int (4 : Int32)), .val (.int (2 : Int32)), .val (.int c2)] []))
          exact adv2 _ _  X774 F776 F777 hc770
        · have F776 := F764.keep K775 nin0
          have F777 := F765.keep K775
          show Goes p.tables e below _ (T771.setTop (mkF m 35 #[.val (.ref t), .val (.int (4 : Int32)), .val (.int (2 : Int32)), .val (.int c2)] [(.int (0 : Int32))]))
          refine X774.if_ne 41 (D d17_35) ⟨by decide, by decide⟩ (fun hc779 => absurd hc779 (by decide)) (fun hc779 => ?_)
          refine X774.goto 47 (D d17_38) ⟨by decide, by decide⟩ ?_
          refine X774.iloadN (x := (2 : Int32)) (D d17_47) rfl ?_
          exact X774.retI hret hlk (D d17_48) (by decide) (by decide) (congrArg (fun z => some (Value.int (Int32.ofNat z))) (show 2 = nwN [c0, c1, c2, c3] from by simp [nwN, hw0, hw1, hc770]))
  intro T754 h755  X756 F757 F758 hw2
  refine X756.iinc #[.val (.ref t), .val (.int (4 : Int32)), .val (.int (3 : Int32)), .val (.int c2)] (D d17_41) rfl rfl ?_
  refine X756.goto 5 (D d17_44) ⟨by decide, by decide⟩ ?_
  refine X756.iloadN (x := (3 : Int32)) (D d17_5) rfl ?_
  refine X756.iloadN (x := (4 : Int32)) (D d17_6) rfl ?_
  refine X756.icmp_ge 47 (D d17_7) ⟨by decide, by decide⟩ (fun hc780 => absurd hc780 (by decide)) (fun hc780 => ?_)
  refine X756.aloadN (x := (.ref t)) (D d17_10) rfl rfl ?_
  refine X756.iloadN (x := (3 : Int32)) (D d17_11) rfl ?_
  show Goes p.tables e below _ (T754.setTop (mkF m 12 #[.val (.ref t), .val (.int (4 : Int32)), .val (.int (3 : Int32)), .val (.int c2)] [(.int (3 : Int32)), (.ref t)]))
  suffices adv3 : ∀ (T781 : State) (h782 : Heap), Wd p l e ({ frames := 3, cells := 0, slots := 0, locals := 60 } : Room) sS m #[(.ref t)] below meth c Z a0 consts_1 ((⟨"java/lang/StringLatin1", "indexOfNonWhitespace", "([B)I"⟩ : MethodName)).cls n0 [] [] T781 h782 0 0 → Arv Z h782 t kt .byte (4 : Int32) [(.int (StrChars.lo8 c0)), (.int (StrChars.lo8 c1)), (.int (StrChars.lo8 c2)), (.int (StrChars.lo8 c3))] (.int 0) → Exa Z h782 ci "java/lang/CharacterDataLatin1" → (wsP c3) → Goes p.tables e below (Endq Z consts_1 sS n0 [] ({ frames := 3, cells := 0, slots := 0, locals := 60 } : Room) (fun v _ => v = some (.int (Int32.ofNat (nwN [c0, c1, c2, c3]))))) (T781.setTop (mkF m 41 #[.val (.ref t), .val (.int (4 : Int32)), .val (.int (3 : Int32)), .val (.int c3)] [])) by
    refine X756.calls [(.ref t), (.int (3 : Int32))] [] (ctGC l Z a0 hw hEL z0 S0 hz0 t kt [c0, c1, c2, c3] 3 _ _ F757 (hpS r0 (hpS r1 (hpS r2 (hpS r3 hp0)))) (Nat.le_of_ble_eq_true rfl) (Nat.le_of_ble_eq_true rfl)) (w 118 rfl) (w 119 rfl) (w 61 rfl) (w 120 rfl) (by decide) (fun _ q => nomatch q) (by decide) 0 (by decide) (by decide) (by decide) (lenOf pd_14 rfl) rfl (Nat.le_of_ble_eq_true rfl) (by rw [hml]; rfl) (D d17_12) ?_
    rintro T786 h787 _ X789 K790 rfl
    have F791 := F757.keep K790 nin0
    have F792 := F758.keep K790
    show Goes p.tables e below _ (T786.setTop (mkF m 15 #[.val (.ref t), .val (.int (4 : Int32)), .val (.int (3 : Int32)), .val (.int c2)] [(.int c3)]))
    refine X789.istoreN #[.val (.ref t), .val (.int (4 : Int32)), .val (.int (3 : Int32)), .val (.int c3)] (D d17_15) rfl ?_
    refine X789.iloadN (x := c3) (D d17_16) rfl ?_
    refine X789.bipush (x := (32 : Int32)) (D d17_17) rfl ?_
    refine X789.icmp_eq 41 (D d17_19) ⟨by decide, by decide⟩ (fun hc793 => ?_) (fun hc793 => ?_)
    · show Goes p.tables e below _ (T786.setTop (mkF m 41 #[.val (.ref t), .val (.int (4 : Int32)), .val (.int (3 : Int32)), .val (.int c3)] []))
      show Goes p.tables e below _ (T786.setTop (mkF m 41 #[.val (.ref t), .val (.int (4 : Int32)), .val (.int (3 : Int32)), .val (.int c3)] []))
      exact adv3 _ _  X789 F791 F792 (Or.inl hc793)
    · show Goes p.tables e below _ (T786.setTop (mkF m 22 #[.val (.ref t), .val (.int (4 : Int32)), .val (.int (3 : Int32)), .val (.int c3)] []))
      refine X789.iloadN (x := c3) (D d17_22) rfl ?_
      refine X789.bipush (x := (9 : Int32)) (D d17_23) rfl ?_
      refine X789.icmp_eq 41 (D d17_25) ⟨by decide, by decide⟩ (fun hc794 => ?_) (fun hc794 => ?_)
      · show Goes p.tables e below _ (T786.setTop (mkF m 41 #[.val (.ref t), .val (.int (4 : Int32)), .val (.int (3 : Int32)), .val (.int c3)] []))
        show Goes p.tables e below _ (T786.setTop (mkF m 41 #[.val (.ref t), .val (.int (4 : Int32)), .val (.int (3 : Int32)), .val (.int c3)] []))
        exact adv3 _ _  X789 F791 F792 (by rw [hc794]; decide)
      · show Goes p.tables e below _ (T786.setTop (mkF m 28 #[.val (.ref t), .val (.int (4 : Int32)), .val (.int (3 : Int32)), .val (.int c3)] []))
        refine X789.gets (w 121 rfl) Via.refl (Sta.ext X789.old.2 SI) (D d17_28) ?_
        intro T795 X796
        show Goes p.tables e below _ (T795.setTop (mkF m 31 #[.val (.ref t), .val (.int (4 : Int32)), .val (.int (3 : Int32)), .val (.int c3)] [(.ref ci)]))
        refine X796.iloadN (x := c3) (D d17_31) rfl ?_
        refine X796.callv (y := (⟨"java/lang/CharacterDataLatin1", "isWhitespace", "(I)Z"⟩ : MethodName)) (a := ci) (C := "java/lang/CharacterDataLatin1") [(.int c3)] [] (ctIW l Z a0 hw hEL z0 S0 hz0 ci aA cA SI IC ST TA c3 r3 _ _) F792 (w 123 rfl) (w 124 rfl) (w 126 rfl) (w 125 rfl) (w 122 rfl) (w 127 rfl) (by decide) (fun _ q => nomatch q) (by decide) 0 (by decide) (by decide) (by decide) (lenOf pd_11 rfl) rfl (Nat.le_of_ble_eq_true rfl) (by rw [hml]; rfl) (D d17_32) ?_
        rintro T798 h799 _ X801 K802 (⟨rfl, hc797⟩ | ⟨rfl, hc797⟩)
        · have F803 := F791.keep K802 nin0
          have F804 := F792.keep K802
          show Goes p.tables e below _ (T798.setTop (mkF m 35 #[.val (.ref t), .val (.int (4 : Int32)), .val (.int (3 : Int32)), .val (.int c3)] [(.int (1 : Int32))]))
          refine X801.if_ne 41 (D d17_35) ⟨by decide, by decide⟩ (fun hc805 => ?_) (fun hc805 => absurd hc805 (by decide))
          show Goes p.tables e below _ (T798.setTop (mkF m 41 #[.val (.ref t), .val (.int (4 : Int32)), .val (.int (3 : Int32)), .val (.int c3)] []))
          exact adv3 _ _  X801 F803 F804 hc797
        · have F803 := F791.keep K802 nin0
          have F804 := F792.keep K802
          show Goes p.tables e below _ (T798.setTop (mkF m 35 #[.val (.ref t), .val (.int (4 : Int32)), .val (.int (3 : Int32)), .val (.int c3)] [(.int (0 : Int32))]))
          refine X801.if_ne 41 (D d17_35) ⟨by decide, by decide⟩ (fun hc806 => absurd hc806 (by decide)) (fun hc806 => ?_)
          refine X801.goto 47 (D d17_38) ⟨by decide, by decide⟩ ?_
          refine X801.iloadN (x := (3 : Int32)) (D d17_47) rfl ?_
          exact X801.retI hret hlk (D d17_48) (by decide) (by decide) (congrArg (fun z => some (Value.int (Int32.ofNat z))) (show 3 = nwN [c0, c1, c2, c3] from by simp [nwN, hw0, hw1, hw2, hc797]))
  intro T781 h782  X783 F784 F785 hw3
  refine X783.iinc #[.val (.ref t), .val (.int (4 : Int32)), .val (.int (4 : Int32)), .val (.int c3)] (D d17_41) rfl rfl ?_
  refine X783.goto 5 (D d17_44) ⟨by decide, by decide⟩ ?_
  refine X783.iloadN (x := (4 : Int32)) (D d17_5) rfl ?_
  refine X783.iloadN (x := (4 : Int32)) (D d17_6) rfl ?_
  refine X783.icmp_ge 47 (D d17_7) ⟨by decide, by decide⟩ (fun hc807 => ?_) (fun hc807 => absurd hc807 (by decide))
  refine X783.iloadN (x := (4 : Int32)) (D d17_47) rfl ?_
  exact X783.retI hret hlk (D d17_48) (by decide) (by decide) (congrArg (fun z => some (Value.int (Int32.ofNat z))) (show 4 = nwN [c0, c1, c2, c3] from by simp [nwN, hw0, hw1, hw2, hw3]))
set_option maxRecDepth 65536 in
set_option maxHeartbeats 40000000 in
theorem ctLW_4 (l : Launch) (Z : State) (a0 : Array Value) (hw : ∀ d ∈ tables_1, d.before a0 Z = true) (hEL : EW Z a0 consts_1) (z0 : Int32) (S0 : Sta Z Z.heap "java/lang/String" "COMPACT_STRINGS" "Z" (.int z0)) (hz0 : ¬ z0 = 0) (ci aA : Addr) (cA : Cell) (SI : Sta Z Z.heap "java/lang/CharacterDataLatin1" "instance" "Ljava/lang/CharacterDataLatin1;" (.ref ci)) (IC : Exa Z Z.heap ci "java/lang/CharacterDataLatin1") (ST : Sta Z Z.heap "java/lang/CharacterDataLatin1" "A" "[I" (.ref aA)) (TA : TabW Z aA cA) (t : Addr) (kt : ClassId) (c0 c1 c2 c3 : Int32) (h0 : Heap) (n0 : Nat) (AT : Arv Z h0 t kt .byte (Int32.ofNat [c0, c1, c2, c3].length) (([c0, c1, c2, c3].map StrChars.lo8).map Value.int) (.int 0)) (r0 : Rb c0) (r1 : Rb c1) (r2 : Rb c2) (r3 : Rb c3) :
    Ct l Z consts_1 [] (⟨"java/lang/StringLatin1", "lastIndexOfNonWhitespace", "([B)I"⟩ : MethodName) jdk_43_method_38_code 4 (some .int) ({ frames := 3, cells := 0, slots := 0, locals := 60 } : Room) #[(.ref t)] h0 n0 [] (fun v _ => v = some (.int (Int32.ofNat (lwN [c0, c1, c2, c3])))) := by
  have w : ∀ {d : Jvm.Cond} (i : Nat), tables_1[i]? = some d → d.before a0 Z = true := fun i q => hw _ (List.mem_of_getElem? q)
  refine Ct.enter (plainFor_of_name pn_3) hEL ?_
  intro p e sS m below meth c T0 hby hml0 hret hlk hnm hs0 X0
  have hml : c.maxLocals = 4 := hml0
  have D : ∀ {pc : Nat} {r : Except DecodeError (Instr × Nat)}, decode jdk_43_method_38_code pc = r → decode c.code pc = r := fun q => hb hby q
  rw [show entryFrame m #[(.ref t)] 4 = mkF m 0 #[.val (.ref t), .unset, .unset, .unset] [] from by first | (simp [entryFrame, mkF, argsToLocals, Value.category]; done) | rfl]
  have E_ci := IC.ext X0.old.2
  have A2 : Arv Z h0 t kt .byte (4 : Int32) [(.int (StrChars.lo8 c0)), (.int (StrChars.lo8 c1)), (.int (StrChars.lo8 c2)), (.int (StrChars.lo8 c3))] (.int 0) := AT
  refine X0.aloadN (x := (.ref t)) (D d30_0) rfl rfl ?_
  refine X0.alen A2 (D d30_1) ?_
  refine X0.istoreN #[.val (.ref t), .val (.int (4 : Int32)), .unset, .unset] (D d30_2) rfl ?_
  refine X0.iloadN (x := (4 : Int32)) (D d30_3) rfl ?_
  refine X0.istoreN #[.val (.ref t), .val (.int (4 : Int32)), .val (.int (4 : Int32)), .unset] (D d30_4) rfl ?_
  refine X0.iconst (x := (0 : Int32)) (D d30_5) rfl ?_
  refine X0.iloadN (x := (4 : Int32)) (D d30_6) rfl ?_
  refine X0.icmp_ge 49 (D d30_7) ⟨by decide, by decide⟩ (fun hc808 => absurd hc808 (by decide)) (fun hc808 => ?_)
  refine X0.aloadN (x := (.ref t)) (D d30_10) rfl rfl ?_
  refine X0.iloadN (x := (4 : Int32)) (D d30_11) rfl ?_
  refine X0.iconst (x := (1 : Int32)) (D d30_12) rfl ?_
  refine X0.isub (D d30_13) ?_
  show Goes p.tables e below _ (T0.setTop (mkF m 14 #[.val (.ref t), .val (.int (4 : Int32)), .val (.int (4 : Int32)), .unset] [(.int (3 : Int32)), (.ref t)]))
  show Goes p.tables e below _ (T0.setTop (mkF m 14 #[.val (.ref t), .val (.int (4 : Int32)), .val (.int (4 : Int32)), .unset] [(.int (3 : Int32)), (.ref t)]))
  suffices adv0 : ∀ (T809 : State) (h810 : Heap), Wd p l e ({ frames := 3, cells := 0, slots := 0, locals := 60 } : Room) sS m #[(.ref t)] below meth c Z a0 consts_1 ((⟨"java/lang/StringLatin1", "lastIndexOfNonWhitespace", "([B)I"⟩ : MethodName)).cls n0 [] [] T809 h810 0 0 → Arv Z h810 t kt .byte (4 : Int32) [(.int (StrChars.lo8 c0)), (.int (StrChars.lo8 c1)), (.int (StrChars.lo8 c2)), (.int (StrChars.lo8 c3))] (.int 0) → Exa Z h810 ci "java/lang/CharacterDataLatin1" → (wsP c3) → Goes p.tables e below (Endq Z consts_1 sS n0 [] ({ frames := 3, cells := 0, slots := 0, locals := 60 } : Room) (fun v _ => v = some (.int (Int32.ofNat (lwN [c0, c1, c2, c3]))))) (T809.setTop (mkF m 43 #[.val (.ref t), .val (.int (4 : Int32)), .val (.int (4 : Int32)), .val (.int c3)] [])) by
    refine X0.calls [(.ref t), (.int (3 : Int32))] [] (ctGC l Z a0 hw hEL z0 S0 hz0 t kt [c0, c1, c2, c3] 3 _ _ A2 (hpS r0 (hpS r1 (hpS r2 (hpS r3 hp0)))) (Nat.le_of_ble_eq_true rfl) (Nat.le_of_ble_eq_true rfl)) (w 118 rfl) (w 119 rfl) (w 61 rfl) (w 120 rfl) (by decide) (fun _ q => nomatch q) (by decide) 0 (by decide) (by decide) (by decide) (lenOf pd_14 rfl) rfl (Nat.le_of_ble_eq_true rfl) (by rw [hml]; rfl) (D d30_14) ?_
    rintro T814 h815 _ X817 K818 rfl
    have F819 := E_ci.keep K818
    have F820 := A2.keep K818 nin0
    show Goes p.tables e below _ (T814.setTop (mkF m 17 #[.val (.ref t), .val (.int (4 : Int32)), .val (.int (4 : Int32)), .unset] [(.int c3)]))
    refine X817.istoreN #[.val (.ref t), .val (.int (4 : Int32)), .val (.int (4 : Int32)), .val (.int c3)] (D d30_17) rfl ?_
    refine X817.iloadN (x := c3) (D d30_18) rfl ?_
    refine X817.bipush (x := (32 : Int32)) (D d30_19) rfl ?_
    refine X817.icmp_eq 43 (D d30_21) ⟨by decide, by decide⟩ (fun hc821 => ?_) (fun hc821 => ?_)
    · show Goes p.tables e below _ (T814.setTop (mkF m 43 #[.val (.ref t), .val (.int (4 : Int32)), .val (.int (4 : Int32)), .val (.int c3)] []))
      show Goes p.tables e below _ (T814.setTop (mkF m 43 #[.val (.ref t), .val (.int (4 : Int32)), .val (.int (4 : Int32)), .val (.int c3)] []))
      exact adv0 _ _  X817 F820 F819 (Or.inl hc821)
    · show Goes p.tables e below _ (T814.setTop (mkF m 24 #[.val (.ref t), .val (.int (4 : Int32)), .val (.int (4 : Int32)), .val (.int c3)] []))
      refine X817.iloadN (x := c3) (D d30_24) rfl ?_
      refine X817.bipush (x := (9 : Int32)) (D d30_25) rfl ?_
      refine X817.icmp_eq 43 (D d30_27) ⟨by decide, by decide⟩ (fun hc822 => ?_) (fun hc822 => ?_)
      · show Goes p.tables e below _ (T814.setTop (mkF m 43 #[.val (.ref t), .val (.int (4 : Int32)), .val (.int (4 : Int32)), .val (.int c3)] []))
        show Goes p.tables e below _ (T814.setTop (mkF m 43 #[.val (.ref t), .val (.int (4 : Int32)), .val (.int (4 : Int32)), .val (.int c3)] []))
        exact adv0 _ _  X817 F820 F819 (by rw [hc822]; decide)
      · show Goes p.tables e below _ (T814.setTop (mkF m 30 #[.val (.ref t), .val (.int (4 : Int32)), .val (.int (4 : Int32)), .val (.int c3)] []))
        refine X817.gets (w 121 rfl) Via.refl (Sta.ext X817.old.2 SI) (D d30_30) ?_
        intro T823 X824
        show Goes p.tables e below _ (T823.setTop (mkF m 33 #[.val (.ref t), .val (.int (4 : Int32)), .val (.int (4 : Int32)), .val (.int c3)] [(.ref ci)]))
        refine X824.iloadN (x := c3) (D d30_33) rfl ?_
        refine X824.callv (y := (⟨"java/lang/CharacterDataLatin1", "isWhitespace", "(I)Z"⟩ : MethodName)) (a := ci) (C := "java/lang/CharacterDataLatin1") [(.int c3)] [] (ctIW l Z a0 hw hEL z0 S0 hz0 ci aA cA SI IC ST TA c3 r3 _ _) F819 (w 123 rfl) (w 124 rfl) (w 126 rfl) (w 125 rfl) (w 122 rfl) (w 127 rfl) (by decide) (fun _ q => nomatch q) (by decide) 0 (by decide) (by decide) (by decide) (lenOf pd_11 rfl) rfl (Nat.le_of_ble_eq_true rfl) (by rw [hml]; rfl) (D d30_34) ?_
        rintro T826 h827 _ X829 K830 (⟨rfl, hc825⟩ | ⟨rfl, hc825⟩)
        · have F831 := F819.keep K830
          have F832 := F820.keep K830 nin0
          show Goes p.tables e below _ (T826.setTop (mkF m 37 #[.val (.ref t), .val (.int (4 : Int32)), .val (.int (4 : Int32)), .val (.int c3)] [(.int (1 : Int32))]))
          refine X829.if_ne 43 (D d30_37) ⟨by decide, by decide⟩ (fun hc833 => ?_) (fun hc833 => absurd hc833 (by decide))
          show Goes p.tables e below _ (T826.setTop (mkF m 43 #[.val (.ref t), .val (.int (4 : Int32)), .val (.int (4 : Int32)), .val (.int c3)] []))
          exact adv0 _ _  X829 F832 F831 hc825
        · have F831 := F819.keep K830
          have F832 := F820.keep K830 nin0
          show Goes p.tables e below _ (T826.setTop (mkF m 37 #[.val (.ref t), .val (.int (4 : Int32)), .val (.int (4 : Int32)), .val (.int c3)] [(.int (0 : Int32))]))
          refine X829.if_ne 43 (D d30_37) ⟨by decide, by decide⟩ (fun hc834 => absurd hc834 (by decide)) (fun hc834 => ?_)
          refine X829.goto 49 (D d30_40) ⟨by decide, by decide⟩ ?_
          refine X829.iloadN (x := (4 : Int32)) (D d30_49) rfl ?_
          exact X829.retI hret hlk (D d30_50) (by decide) (by decide) (congrArg (fun z => some (Value.int (Int32.ofNat z))) (show 4 = lwN [c0, c1, c2, c3] from by simp [lwN, hc825]))
  intro T809 h810  X811 F812 F813 hw3
  refine X811.iinc #[.val (.ref t), .val (.int (4 : Int32)), .val (.int (3 : Int32)), .val (.int c3)] (D d30_43) rfl rfl ?_
  refine X811.goto 5 (D d30_46) ⟨by decide, by decide⟩ ?_
  refine X811.iconst (x := (0 : Int32)) (D d30_5) rfl ?_
  refine X811.iloadN (x := (3 : Int32)) (D d30_6) rfl ?_
  refine X811.icmp_ge 49 (D d30_7) ⟨by decide, by decide⟩ (fun hc835 => absurd hc835 (by decide)) (fun hc835 => ?_)
  refine X811.aloadN (x := (.ref t)) (D d30_10) rfl rfl ?_
  refine X811.iloadN (x := (3 : Int32)) (D d30_11) rfl ?_
  refine X811.iconst (x := (1 : Int32)) (D d30_12) rfl ?_
  refine X811.isub (D d30_13) ?_
  show Goes p.tables e below _ (T809.setTop (mkF m 14 #[.val (.ref t), .val (.int (4 : Int32)), .val (.int (3 : Int32)), .val (.int c3)] [(.int (2 : Int32)), (.ref t)]))
  show Goes p.tables e below _ (T809.setTop (mkF m 14 #[.val (.ref t), .val (.int (4 : Int32)), .val (.int (3 : Int32)), .val (.int c3)] [(.int (2 : Int32)), (.ref t)]))
  suffices adv1 : ∀ (T836 : State) (h837 : Heap), Wd p l e ({ frames := 3, cells := 0, slots := 0, locals := 60 } : Room) sS m #[(.ref t)] below meth c Z a0 consts_1 ((⟨"java/lang/StringLatin1", "lastIndexOfNonWhitespace", "([B)I"⟩ : MethodName)).cls n0 [] [] T836 h837 0 0 → Arv Z h837 t kt .byte (4 : Int32) [(.int (StrChars.lo8 c0)), (.int (StrChars.lo8 c1)), (.int (StrChars.lo8 c2)), (.int (StrChars.lo8 c3))] (.int 0) → Exa Z h837 ci "java/lang/CharacterDataLatin1" → (wsP c2) → Goes p.tables e below (Endq Z consts_1 sS n0 [] ({ frames := 3, cells := 0, slots := 0, locals := 60 } : Room) (fun v _ => v = some (.int (Int32.ofNat (lwN [c0, c1, c2, c3]))))) (T836.setTop (mkF m 43 #[.val (.ref t), .val (.int (4 : Int32)), .val (.int (3 : Int32)), .val (.int c2)] [])) by
    refine X811.calls [(.ref t), (.int (2 : Int32))] [] (ctGC l Z a0 hw hEL z0 S0 hz0 t kt [c0, c1, c2, c3] 2 _ _ F812 (hpS r0 (hpS r1 (hpS r2 (hpS r3 hp0)))) (Nat.le_of_ble_eq_true rfl) (Nat.le_of_ble_eq_true rfl)) (w 118 rfl) (w 119 rfl) (w 61 rfl) (w 120 rfl) (by decide) (fun _ q => nomatch q) (by decide) 0 (by decide) (by decide) (by decide) (lenOf pd_14 rfl) rfl (Nat.le_of_ble_eq_true rfl) (by rw [hml]; rfl) (D d30_14) ?_
    rintro T841 h842 _ X844 K845 rfl
    have F846 := F812.keep K845 nin0
    have F847 := F813.keep K845
    show Goes p.tables e below _ (T841.setTop (mkF m 17 #[.val (.ref t), .val (.int (4 : Int32)), .val (.int (3 : Int32)), .val (.int c3)] [(.int c2)]))
    refine X844.istoreN #[.val (.ref t), .val (.int (4 : Int32)), .val (.int (3 : Int32)), .val (.int c2)] (D d30_17) rfl ?_
    refine X844.iloadN (x := c2) (D d30_18) rfl ?_
    refine X844.bipush (x := (32 : Int32)) (D d30_19) rfl ?_
    refine X844.icmp_eq 43 (D d30_21) ⟨by decide, by decide⟩ (fun hc848 => ?_) (fun hc848 => ?_)
    · show Goes p.tables e below _ (T841.setTop (mkF m 43 #[.val (.ref t), .val (.int (4 : Int32)), .val (.int (3 : Int32)), .val (.int c2)] []))
      show Goes p.tables e below _ (T841.setTop (mkF m 43 #[.val (.ref t), .val (.int (4 : Int32)), .val (.int (3 : Int32)), .val (.int c2)] []))
      exact adv1 _ _  X844 F846 F847 (Or.inl hc848)
    · show Goes p.tables e below _ (T841.setTop (mkF m 24 #[.val (.ref t), .val (.int (4 : Int32)), .val (.int (3 : Int32)), .val (.int c2)] []))
      refine X844.iloadN (x := c2) (D d30_24) rfl ?_
      refine X844.bipush (x := (9 : Int32)) (D d30_25) rfl ?_
      refine X844.icmp_eq 43 (D d30_27) ⟨by decide, by decide⟩ (fun hc849 => ?_) (fun hc849 => ?_)
      · show Goes p.tables e below _ (T841.setTop (mkF m 43 #[.val (.ref t), .val (.int (4 : Int32)), .val (.int (3 : Int32)), .val (.int c2)] []))
        show Goes p.tables e below _ (T841.setTop (mkF m 43 #[.val (.ref t), .val (.int (4 : Int32)), .val (.int (3 : Int32)), .val (.int c2)] []))
        exact adv1 _ _  X844 F846 F847 (by rw [hc849]; decide)
      · show Goes p.tables e below _ (T841.setTop (mkF m 30 #[.val (.ref t), .val (.int (4 : Int32)), .val (.int (3 : Int32)), .val (.int c2)] []))
        refine X844.gets (w 121 rfl) Via.refl (Sta.ext X844.old.2 SI) (D d30_30) ?_
        intro T850 X851
        show Goes p.tables e below _ (T850.setTop (mkF m 33 #[.val (.ref t), .val (.int (4 : Int32)), .val (.int (3 : Int32)), .val (.int c2)] [(.ref ci)]))
        refine X851.iloadN (x := c2) (D d30_33) rfl ?_
        refine X851.callv (y := (⟨"java/lang/CharacterDataLatin1", "isWhitespace", "(I)Z"⟩ : MethodName)) (a := ci) (C := "java/lang/CharacterDataLatin1") [(.int c2)] [] (ctIW l Z a0 hw hEL z0 S0 hz0 ci aA cA SI IC ST TA c2 r2 _ _) F847 (w 123 rfl) (w 124 rfl) (w 126 rfl) (w 125 rfl) (w 122 rfl) (w 127 rfl) (by decide) (fun _ q => nomatch q) (by decide) 0 (by decide) (by decide) (by decide) (lenOf pd_11 rfl) rfl (Nat.le_of_ble_eq_true rfl) (by rw [hml]; rfl) (D d30_34) ?_
        rintro T853 h854 _ X856 K857 (⟨rfl, hc852⟩ | ⟨rfl, hc852⟩)
        · have F858 := F846.keep K857 nin0
          have F859 := F847.keep K857
          show Goes p.tables e below _ (T853.setTop (mkF m 37 #[.val (.ref t), .val (.int (4 : Int32)), .val (.int (3 : Int32)), .val (.int c2)] [(.int (1 : Int32))]))
          refine X856.if_ne 43 (D d30_37) ⟨by decide, by decide⟩ (fun hc860 => ?_) (fun hc860 => absurd hc860 (by decide))
          show Goes p.tables e below _ (T853.setTop (mkF m 43 #[.val (.ref t), .val (.int (4 : Int32)), .val (.int (3 : Int32)), .val (.int c2)] []))
          exact adv1 _ _  X856 F858 F859 hc852
        · have F858 := F846.keep K857 nin0
          have F859 := F847.keep K857
          show Goes p.tables e below _ (T853.setTop (mkF m 37 #[.val (.ref t), .val (.int (4 : Int32)), .val (.int (3 : Int32)), .val (.int c2)] [(.int (0 : Int32))]))
          refine X856.if_ne 43 (D d30_37) ⟨by decide, by decide⟩ (fun hc861 => absurd hc861 (by decide)) (fun hc861 => ?_)
          refine X856.goto 49 (D d30_40) ⟨by decide, by decide⟩ ?_
          refine X856.iloadN (x := (3 : Int32)) (D d30_49) rfl ?_
          exact X856.retI hret hlk (D d30_50) (by decide) (by decide) (congrArg (fun z => some (Value.int (Int32.ofNat z))) (show 3 = lwN [c0, c1, c2, c3] from by simp [lwN, hw3, hc852]))
  intro T836 h837  X838 F839 F840 hw2
  refine X838.iinc #[.val (.ref t), .val (.int (4 : Int32)), .val (.int (2 : Int32)), .val (.int c2)] (D d30_43) rfl rfl ?_
  refine X838.goto 5 (D d30_46) ⟨by decide, by decide⟩ ?_
  refine X838.iconst (x := (0 : Int32)) (D d30_5) rfl ?_
  refine X838.iloadN (x := (2 : Int32)) (D d30_6) rfl ?_
  refine X838.icmp_ge 49 (D d30_7) ⟨by decide, by decide⟩ (fun hc862 => absurd hc862 (by decide)) (fun hc862 => ?_)
  refine X838.aloadN (x := (.ref t)) (D d30_10) rfl rfl ?_
  refine X838.iloadN (x := (2 : Int32)) (D d30_11) rfl ?_
  refine X838.iconst (x := (1 : Int32)) (D d30_12) rfl ?_
  refine X838.isub (D d30_13) ?_
  show Goes p.tables e below _ (T836.setTop (mkF m 14 #[.val (.ref t), .val (.int (4 : Int32)), .val (.int (2 : Int32)), .val (.int c2)] [(.int (1 : Int32)), (.ref t)]))
  show Goes p.tables e below _ (T836.setTop (mkF m 14 #[.val (.ref t), .val (.int (4 : Int32)), .val (.int (2 : Int32)), .val (.int c2)] [(.int (1 : Int32)), (.ref t)]))
  suffices adv2 : ∀ (T863 : State) (h864 : Heap), Wd p l e ({ frames := 3, cells := 0, slots := 0, locals := 60 } : Room) sS m #[(.ref t)] below meth c Z a0 consts_1 ((⟨"java/lang/StringLatin1", "lastIndexOfNonWhitespace", "([B)I"⟩ : MethodName)).cls n0 [] [] T863 h864 0 0 → Arv Z h864 t kt .byte (4 : Int32) [(.int (StrChars.lo8 c0)), (.int (StrChars.lo8 c1)), (.int (StrChars.lo8 c2)), (.int (StrChars.lo8 c3))] (.int 0) → Exa Z h864 ci "java/lang/CharacterDataLatin1" → (wsP c1) → Goes p.tables e below (Endq Z consts_1 sS n0 [] ({ frames := 3, cells := 0, slots := 0, locals := 60 } : Room) (fun v _ => v = some (.int (Int32.ofNat (lwN [c0, c1, c2, c3]))))) (T863.setTop (mkF m 43 #[.val (.ref t), .val (.int (4 : Int32)), .val (.int (2 : Int32)), .val (.int c1)] [])) by
    refine X838.calls [(.ref t), (.int (1 : Int32))] [] (ctGC l Z a0 hw hEL z0 S0 hz0 t kt [c0, c1, c2, c3] 1 _ _ F839 (hpS r0 (hpS r1 (hpS r2 (hpS r3 hp0)))) (Nat.le_of_ble_eq_true rfl) (Nat.le_of_ble_eq_true rfl)) (w 118 rfl) (w 119 rfl) (w 61 rfl) (w 120 rfl) (by decide) (fun _ q => nomatch q) (by decide) 0 (by decide) (by decide) (by decide) (lenOf pd_14 rfl) rfl (Nat.le_of_ble_eq_true rfl) (by rw [hml]; rfl) (D d30_14) ?_
    rintro T868 h869 _ X871 K872 rfl
    have F873 := F839.keep K872 nin0
    have F874 := F840.keep K872
    show Goes p.tables e below _ (T868.setTop (mkF m 17 #[.val (.ref t), .val (.int (4 : Int32)), .val (.int (2 : Int32)), .val (.int c2)] [(.int c1)]))
    refine X871.istoreN #[.val (.ref t), .val (.int (4 : Int32)), .val (.int (2 : Int32)), .val (.int c1)] (D d30_17) rfl ?_
    refine X871.iloadN (x := c1) (D d30_18) rfl ?_
    refine X871.bipush (x := (32 : Int32)) (D d30_19) rfl ?_
    refine X871.icmp_eq 43 (D d30_21) ⟨by decide, by decide⟩ (fun hc875 => ?_) (fun hc875 => ?_)
    · show Goes p.tables e below _ (T868.setTop (mkF m 43 #[.val (.ref t), .val (.int (4 : Int32)), .val (.int (2 : Int32)), .val (.int c1)] []))
      show Goes p.tables e below _ (T868.setTop (mkF m 43 #[.val (.ref t), .val (.int (4 : Int32)), .val (.int (2 : Int32)), .val (.int c1)] []))
      exact adv2 _ _  X871 F873 F874 (Or.inl hc875)
    · show Goes p.tables e below _ (T868.setTop (mkF m 24 #[.val (.ref t), .val (.int (4 : Int32)), .val (.int (2 : Int32)), .val (.int c1)] []))
      refine X871.iloadN (x := c1) (D d30_24) rfl ?_
      refine X871.bipush (x := (9 : Int32)) (D d30_25) rfl ?_
      refine X871.icmp_eq 43 (D d30_27) ⟨by decide, by decide⟩ (fun hc876 => ?_) (fun hc876 => ?_)
      · show Goes p.tables e below _ (T868.setTop (mkF m 43 #[.val (.ref t), .val (.int (4 : Int32)), .val (.int (2 : Int32)), .val (.int c1)] []))
        show Goes p.tables e below _ (T868.setTop (mkF m 43 #[.val (.ref t), .val (.int (4 : Int32)), .val (.int (2 : Int32)), .val (.int c1)] []))
        exact adv2 _ _  X871 F873 F874 (by rw [hc876]; decide)
      · show Goes p.tables e below _ (T868.setTop (mkF m 30 #[.val (.ref t), .val (.int (4 : Int32)), .val (.int (2 : Int32)), .val (.int c1)] []))
        refine X871.gets (w 121 rfl) Via.refl (Sta.ext X871.old.2 SI) (D d30_30) ?_
        intro T877 X878
        show Goes p.tables e below _ (T877.setTop (mkF m 33 #[.val (.ref t), .val (.int (4 : Int32)), .val (.int (2 : Int32)), .val (.int c1)] [(.ref ci)]))
        refine X878.iloadN (x := c1) (D d30_33) rfl ?_
        refine X878.callv (y := (⟨"java/lang/CharacterDataLatin1", "isWhitespace", "(I)Z"⟩ : MethodName)) (a := ci) (C := "java/lang/CharacterDataLatin1") [(.int c1)] [] (ctIW l Z a0 hw hEL z0 S0 hz0 ci aA cA SI IC ST TA c1 r1 _ _) F874 (w 123 rfl) (w 124 rfl) (w 126 rfl) (w 125 rfl) (w 122 rfl) (w 127 rfl) (by decide) (fun _ q => nomatch q) (by decide) 0 (by decide) (by decide) (by decide) (lenOf pd_11 rfl) rfl (Nat.le_of_ble_eq_true rfl) (by rw [hml]; rfl) (D d30_34) ?_
        rintro T880 h881 _ X883 K884 (⟨rfl, hc879⟩ | ⟨rfl, hc879⟩)
        · have F885 := F873.keep K884 nin0
          have F886 := F874.keep K884
          show Goes p.tables e below _ (T880.setTop (mkF m 37 #[.val (.ref t), .val (.int (4 : Int32)), .val (.int (2 : Int32)), .val (.int c1)] [(.int (1 : Int32))]))
          refine X883.if_ne 43 (D d30_37) ⟨by decide, by decide⟩ (fun hc887 => ?_) (fun hc887 => absurd hc887 (by decide))
          show Goes p.tables e below _ (T880.setTop (mkF m 43 #[.val (.ref t), .val (.int (4 : Int32)), .val (.int (2 : Int32)), .val (.int c1)] []))
          exact adv2 _ _  X883 F885 F886 hc879
        · have F885 := F873.keep K884 nin0
          have F886 := F874.keep K884
          show Goes p.tables e below _ (T880.setTop (mkF m 37 #[.val (.ref t), .val (.int (4 : Int32)), .val (.int (2 : Int32)), .val (.int c1)] [(.int (0 : Int32))]))
          refine X883.if_ne 43 (D d30_37) ⟨by decide, by decide⟩ (fun hc888 => absurd hc888 (by decide)) (fun hc888 => ?_)
          refine X883.goto 49 (D d30_40) ⟨by decide, by decide⟩ ?_
          refine X883.iloadN (x := (2 : Int32)) (D d30_49) rfl ?_
          exact X883.retI hret hlk (D d30_50) (by decide) (by decide) (congrArg (fun z => some (Value.int (Int32.ofNat z))) (show 2 = lwN [c0, c1, c2, c3] from by simp [lwN, hw3, hw2, hc879]))
  intro T863 h864  X865 F866 F867 hw1
  refine X865.iinc #[.val (.ref t), .val (.int (4 : Int32)), .val (.int (1 : Int32)), .val (.int c1)] (D d30_43) rfl rfl ?_
  refine X865.goto 5 (D d30_46) ⟨by decide, by decide⟩ ?_
  refine X865.iconst (x := (0 : Int32)) (D d30_5) rfl ?_
  refine X865.iloadN (x := (1 : Int32)) (D d30_6) rfl ?_
  refine X865.icmp_ge 49 (D d30_7) ⟨by decide, by decide⟩ (fun hc889 => absurd hc889 (by decide)) (fun hc889 => ?_)
  refine X865.aloadN (x := (.ref t)) (D d30_10) rfl rfl ?_
  refine X865.iloadN (x := (1 : Int32)) (D d30_11) rfl ?_
  refine X865.iconst (x := (1 : Int32)) (D d30_12) rfl ?_
  refine X865.isub (D d30_13) ?_
  show Goes p.tables e below _ (T863.setTop (mkF m 14 #[.val (.ref t), .val (.int (4 : Int32)), .val (.int (1 : Int32)), .val (.int c1)] [(.int (0 : Int32)), (.ref t)]))
  show Goes p.tables e below _ (T863.setTop (mkF m 14 #[.val (.ref t), .val (.int (4 : Int32)), .val (.int (1 : Int32)), .val (.int c1)] [(.int (0 : Int32)), (.ref t)]))
  suffices adv3 : ∀ (T890 : State) (h891 : Heap), Wd p l e ({ frames := 3, cells := 0, slots := 0, locals := 60 } : Room) sS m #[(.ref t)] below meth c Z a0 consts_1 ((⟨"java/lang/StringLatin1", "lastIndexOfNonWhitespace", "([B)I"⟩ : MethodName)).cls n0 [] [] T890 h891 0 0 → Arv Z h891 t kt .byte (4 : Int32) [(.int (StrChars.lo8 c0)), (.int (StrChars.lo8 c1)), (.int (StrChars.lo8 c2)), (.int (StrChars.lo8 c3))] (.int 0) → Exa Z h891 ci "java/lang/CharacterDataLatin1" → (wsP c0) → Goes p.tables e below (Endq Z consts_1 sS n0 [] ({ frames := 3, cells := 0, slots := 0, locals := 60 } : Room) (fun v _ => v = some (.int (Int32.ofNat (lwN [c0, c1, c2, c3]))))) (T890.setTop (mkF m 43 #[.val (.ref t), .val (.int (4 : Int32)), .val (.int (1 : Int32)), .val (.int c0)] [])) by
    refine X865.calls [(.ref t), (.int (0 : Int32))] [] (ctGC l Z a0 hw hEL z0 S0 hz0 t kt [c0, c1, c2, c3] 0 _ _ F866 (hpS r0 (hpS r1 (hpS r2 (hpS r3 hp0)))) (Nat.le_of_ble_eq_true rfl) (Nat.le_of_ble_eq_true rfl)) (w 118 rfl) (w 119 rfl) (w 61 rfl) (w 120 rfl) (by decide) (fun _ q => nomatch q) (by decide) 0 (by decide) (by decide) (by decide) (lenOf pd_14 rfl) rfl (Nat.le_of_ble_eq_true rfl) (by rw [hml]; rfl) (D d30_14) ?_
    rintro T895 h896 _ X898 K899 rfl
    have F900 := F866.keep K899 nin0
    have F901 := F867.keep K899
    show Goes p.tables e below _ (T895.setTop (mkF m 17 #[.val (.ref t), .val (.int (4 : Int32)), .val (.int (1 : Int32)), .val (.int c1)] [(.int c0)]))
    refine X898.istoreN #[.val (.ref t), .val (.int (4 : Int32)), .val (.int (1 : Int32)), .val (.int c0)] (D d30_17) rfl ?_
    refine X898.iloadN (x := c0) (D d30_18) rfl ?_
    refine X898.bipush (x := (32 : Int32)) (D d30_19) rfl ?_
    refine X898.icmp_eq 43 (D d30_21) ⟨by decide, by decide⟩ (fun hc902 => ?_) (fun hc902 => ?_)
    · show Goes p.tables e below _ (T895.setTop (mkF m 43 #[.val (.ref t), .val (.int (4 : Int32)), .val (.int (1 : Int32)), .val (.int c0)] []))
      show Goes p.tables e below _ (T895.setTop (mkF m 43 #[.val (.ref t), .val (.int (4 : Int32)), .val (.int (1 : Int32)), .val (.int c0)] []))
      exact adv3 _ _  X898 F900 F901 (Or.inl hc902)
    · show Goes p.tables e below _ (T895.setTop (mkF m 24 #[.val (.ref t), .val (.int (4 : Int32)), .val (.int (1 : Int32)), .val (.int c0)] []))
      refine X898.iloadN (x := c0) (D d30_24) rfl ?_
      refine X898.bipush (x := (9 : Int32)) (D d30_25) rfl ?_
      refine X898.icmp_eq 43 (D d30_27) ⟨by decide, by decide⟩ (fun hc903 => ?_) (fun hc903 => ?_)
      · show Goes p.tables e below _ (T895.setTop (mkF m 43 #[.val (.ref t), .val (.int (4 : Int32)), .val (.int (1 : Int32)), .val (.int c0)] []))
        show Goes p.tables e below _ (T895.setTop (mkF m 43 #[.val (.ref t), .val (.int (4 : Int32)), .val (.int (1 : Int32)), .val (.int c0)] []))
        exact adv3 _ _  X898 F900 F901 (by rw [hc903]; decide)
      · show Goes p.tables e below _ (T895.setTop (mkF m 30 #[.val (.ref t), .val (.int (4 : Int32)), .val (.int (1 : Int32)), .val (.int c0)] []))
        refine X898.gets (w 121 rfl) Via.refl (Sta.ext X898.old.2 SI) (D d30_30) ?_
        intro T904 X905
        show Goes p.tables e below _ (T904.setTop (mkF m 33 #[.val (.ref t), .val (.int (4 : Int32)), .val (.int (1 : Int32)), .val (.int c0)] [(.ref ci)]))
        refine X905.iloadN (x := c0) (D d30_33) rfl ?_
        refine X905.callv (y := (⟨"java/lang/CharacterDataLatin1", "isWhitespace", "(I)Z"⟩ : MethodName)) (a := ci) (C := "java/lang/CharacterDataLatin1") [(.int c0)] [] (ctIW l Z a0 hw hEL z0 S0 hz0 ci aA cA SI IC ST TA c0 r0 _ _) F901 (w 123 rfl) (w 124 rfl) (w 126 rfl) (w 125 rfl) (w 122 rfl) (w 127 rfl) (by decide) (fun _ q => nomatch q) (by decide) 0 (by decide) (by decide) (by decide) (lenOf pd_11 rfl) rfl (Nat.le_of_ble_eq_true rfl) (by rw [hml]; rfl) (D d30_34) ?_
        rintro T907 h908 _ X910 K911 (⟨rfl, hc906⟩ | ⟨rfl, hc906⟩)
        · have F912 := F900.keep K911 nin0
          have F913 := F901.keep K911
          show Goes p.tables e below _ (T907.setTop (mkF m 37 #[.val (.ref t), .val (.int (4 : Int32)), .val (.int (1 : Int32)), .val (.int c0)] [(.int (1 : Int32))]))
          refine X910.if_ne 43 (D d30_37) ⟨by decide, by decide⟩ (fun hc914 => ?_) (fun hc914 => absurd hc914 (by decide))
          show Goes p.tables e below _ (T907.setTop (mkF m 43 #[.val (.ref t), .val (.int (4 : Int32)), .val (.int (1 : Int32)), .val (.int c0)] []))
          exact adv3 _ _  X910 F912 F913 hc906
        · have F912 := F900.keep K911 nin0
          have F913 := F901.keep K911
          show Goes p.tables e below _ (T907.setTop (mkF m 37 #[.val (.ref t), .val (.int (4 : Int32)), .val (.int (1 : Int32)), .val (.int c0)] [(.int (0 : Int32))]))
          refine X910.if_ne 43 (D d30_37) ⟨by decide, by decide⟩ (fun hc915 => absurd hc915 (by decide)) (fun hc915 => ?_)
          refine X910.goto 49 (D d30_40) ⟨by decide, by decide⟩ ?_
          refine X910.iloadN (x := (1 : Int32)) (D d30_49) rfl ?_
          exact X910.retI hret hlk (D d30_50) (by decide) (by decide) (congrArg (fun z => some (Value.int (Int32.ofNat z))) (show 1 = lwN [c0, c1, c2, c3] from by simp [lwN, hw3, hw2, hw1, hc906]))
  intro T890 h891  X892 F893 F894 hw0
  refine X892.iinc #[.val (.ref t), .val (.int (4 : Int32)), .val (.int (0 : Int32)), .val (.int c0)] (D d30_43) rfl rfl ?_
  refine X892.goto 5 (D d30_46) ⟨by decide, by decide⟩ ?_
  refine X892.iconst (x := (0 : Int32)) (D d30_5) rfl ?_
  refine X892.iloadN (x := (0 : Int32)) (D d30_6) rfl ?_
  refine X892.icmp_ge 49 (D d30_7) ⟨by decide, by decide⟩ (fun hc916 => ?_) (fun hc916 => absurd hc916 (by decide))
  refine X892.iloadN (x := (0 : Int32)) (D d30_49) rfl ?_
  exact X892.retI hret hlk (D d30_50) (by decide) (by decide) (congrArg (fun z => some (Value.int (Int32.ofNat z))) (show 0 = lwN [c0, c1, c2, c3] from by simp [lwN, hw3, hw2, hw1, hw0]))
set_option maxRecDepth 65536 in
set_option maxHeartbeats 40000000 in
theorem ctNW_5 (l : Launch) (Z : State) (a0 : Array Value) (hw : ∀ d ∈ tables_1, d.before a0 Z = true) (hEL : EW Z a0 consts_1) (z0 : Int32) (S0 : Sta Z Z.heap "java/lang/String" "COMPACT_STRINGS" "Z" (.int z0)) (hz0 : ¬ z0 = 0) (ci aA : Addr) (cA : Cell) (SI : Sta Z Z.heap "java/lang/CharacterDataLatin1" "instance" "Ljava/lang/CharacterDataLatin1;" (.ref ci)) (IC : Exa Z Z.heap ci "java/lang/CharacterDataLatin1") (ST : Sta Z Z.heap "java/lang/CharacterDataLatin1" "A" "[I" (.ref aA)) (TA : TabW Z aA cA) (t : Addr) (kt : ClassId) (c0 c1 c2 c3 c4 : Int32) (h0 : Heap) (n0 : Nat) (AT : Arv Z h0 t kt .byte (Int32.ofNat [c0, c1, c2, c3, c4].length) (([c0, c1, c2, c3, c4].map StrChars.lo8).map Value.int) (.int 0)) (r0 : Rb c0) (r1 : Rb c1) (r2 : Rb c2) (r3 : Rb c3) (r4 : Rb c4) :
    Ct l Z consts_1 [] (⟨"java/lang/StringLatin1", "indexOfNonWhitespace", "([B)I"⟩ : MethodName) jdk_43_method_37_code 4 (some .int) ({ frames := 3, cells := 0, slots := 0, locals := 60 } : Room) #[(.ref t)] h0 n0 [] (fun v _ => v = some (.int (Int32.ofNat (nwN [c0, c1, c2, c3, c4])))) := by
  have w : ∀ {d : Jvm.Cond} (i : Nat), tables_1[i]? = some d → d.before a0 Z = true := fun i q => hw _ (List.mem_of_getElem? q)
  refine Ct.enter (plainFor_of_name pn_3) hEL ?_
  intro p e sS m below meth c T0 hby hml0 hret hlk hnm hs0 X0
  have hml : c.maxLocals = 4 := hml0
  have D : ∀ {pc : Nat} {r : Except DecodeError (Instr × Nat)}, decode jdk_43_method_37_code pc = r → decode c.code pc = r := fun q => hb hby q
  rw [show entryFrame m #[(.ref t)] 4 = mkF m 0 #[.val (.ref t), .unset, .unset, .unset] [] from by first | (simp [entryFrame, mkF, argsToLocals, Value.category]; done) | rfl]
  have E_ci := IC.ext X0.old.2
  have A2 : Arv Z h0 t kt .byte (5 : Int32) [(.int (StrChars.lo8 c0)), (.int (StrChars.lo8 c1)), (.int (StrChars.lo8 c2)), (.int (StrChars.lo8 c3)), (.int (StrChars.lo8 c4))] (.int 0) := AT
  refine X0.aloadN (x := (.ref t)) (D d17_0) rfl rfl ?_
  refine X0.alen A2 (D d17_1) ?_
  refine X0.istoreN #[.val (.ref t), .val (.int (5 : Int32)), .unset, .unset] (D d17_2) rfl ?_
  refine X0.iconst (x := (0 : Int32)) (D d17_3) rfl ?_
  refine X0.istoreN #[.val (.ref t), .val (.int (5 : Int32)), .val (.int (0 : Int32)), .unset] (D d17_4) rfl ?_
  refine X0.iloadN (x := (0 : Int32)) (D d17_5) rfl ?_
  refine X0.iloadN (x := (5 : Int32)) (D d17_6) rfl ?_
  refine X0.icmp_ge 47 (D d17_7) ⟨by decide, by decide⟩ (fun hc917 => absurd hc917 (by decide)) (fun hc917 => ?_)
  refine X0.aloadN (x := (.ref t)) (D d17_10) rfl rfl ?_
  refine X0.iloadN (x := (0 : Int32)) (D d17_11) rfl ?_
  show Goes p.tables e below _ (T0.setTop (mkF m 12 #[.val (.ref t), .val (.int (5 : Int32)), .val (.int (0 : Int32)), .unset] [(.int (0 : Int32)), (.ref t)]))
  suffices adv0 : ∀ (T918 : State) (h919 : Heap), Wd p l e ({ frames := 3, cells := 0, slots := 0, locals := 60 } : Room) sS m #[(.ref t)] below meth c Z a0 consts_1 ((⟨"java/lang/StringLatin1", "indexOfNonWhitespace", "([B)I"⟩ : MethodName)).cls n0 [] [] T918 h919 0 0 → Arv Z h919 t kt .byte (5 : Int32) [(.int (StrChars.lo8 c0)), (.int (StrChars.lo8 c1)), (.int (StrChars.lo8 c2)), (.int (StrChars.lo8 c3)), (.int (StrChars.lo8 c4))] (.int 0) → Exa Z h919 ci "java/lang/CharacterDataLatin1" → (wsP c0) → Goes p.tables e below (Endq Z consts_1 sS n0 [] ({ frames := 3, cells := 0, slots := 0, locals := 60 } : Room) (fun v _ => v = some (.int (Int32.ofNat (nwN [c0, c1, c2, c3, c4]))))) (T918.setTop (mkF m 41 #[.val (.ref t), .val (.int (5 : Int32)), .val (.int (0 : Int32)), .val (.int c0)] [])) by
    refine X0.calls [(.ref t), (.int (0 : Int32))] [] (ctGC l Z a0 hw hEL z0 S0 hz0 t kt [c0, c1, c2, c3, c4] 0 _ _ A2 (hpS r0 (hpS r1 (hpS r2 (hpS r3 (hpS r4 hp0))))) (Nat.le_of_ble_eq_true rfl) (Nat.le_of_ble_eq_true rfl)) (w 118 rfl) (w 119 rfl) (w 61 rfl) (w 120 rfl) (by decide) (fun _ q => nomatch q) (by decide) 0 (by decide) (by decide) (by decide) (lenOf pd_14 rfl) rfl (Nat.le_of_ble_eq_true rfl) (by rw [hml]; rfl) (D d17_12) ?_
    rintro T923 h924 _ X926 K927 rfl
    have F928 := E_ci.keep K927
    have F929 := A2.keep K927 nin0
    show Goes p.tables e below _ (T923.setTop (mkF m 15 #[.val (.ref t), .val (.int (5 : Int32)), .val (.int (0 : Int32)), .unset] [(.int c0)]))
    refine X926.istoreN #[.val (.ref t), .val (.int (5 : Int32)), .val (.int (0 : Int32)), .val (.int c0)] (D d17_15) rfl ?_
    refine X926.iloadN (x := c0) (D d17_16) rfl ?_
    refine X926.bipush (x := (32 : Int32)) (D d17_17) rfl ?_
    refine X926.icmp_eq 41 (D d17_19) ⟨by decide, by decide⟩ (fun hc930 => ?_) (fun hc930 => ?_)
    · show Goes p.tables e below _ (T923.setTop (mkF m 41 #[.val (.ref t), .val (.int (5 : Int32)), .val (.int (0 : Int32)), .val (.int c0)] []))
      show Goes p.tables e below _ (T923.setTop (mkF m 41 #[.val (.ref t), .val (.int (5 : Int32)), .val (.int (0 : Int32)), .val (.int c0)] []))
      exact adv0 _ _  X926 F929 F928 (Or.inl hc930)
    · show Goes p.tables e below _ (T923.setTop (mkF m 22 #[.val (.ref t), .val (.int (5 : Int32)), .val (.int (0 : Int32)), .val (.int c0)] []))
      refine X926.iloadN (x := c0) (D d17_22) rfl ?_
      refine X926.bipush (x := (9 : Int32)) (D d17_23) rfl ?_
      refine X926.icmp_eq 41 (D d17_25) ⟨by decide, by decide⟩ (fun hc931 => ?_) (fun hc931 => ?_)
      · show Goes p.tables e below _ (T923.setTop (mkF m 41 #[.val (.ref t), .val (.int (5 : Int32)), .val (.int (0 : Int32)), .val (.int c0)] []))
        show Goes p.tables e below _ (T923.setTop (mkF m 41 #[.val (.ref t), .val (.int (5 : Int32)), .val (.int (0 : Int32)), .val (.int c0)] []))
        exact adv0 _ _  X926 F929 F928 (by rw [hc931]; decide)
      · show Goes p.tables e below _ (T923.setTop (mkF m 28 #[.val (.ref t), .val (.int (5 : Int32)), .val (.int (0 : Int32)), .val (.int c0)] []))
        refine X926.gets (w 121 rfl) Via.refl (Sta.ext X926.old.2 SI) (D d17_28) ?_
        intro T932 X933
        show Goes p.tables e below _ (T932.setTop (mkF m 31 #[.val (.ref t), .val (.int (5 : Int32)), .val (.int (0 : Int32)), .val (.int c0)] [(.ref ci)]))
        refine X933.iloadN (x := c0) (D d17_31) rfl ?_
        refine X933.callv (y := (⟨"java/lang/CharacterDataLatin1", "isWhitespace", "(I)Z"⟩ : MethodName)) (a := ci) (C := "java/lang/CharacterDataLatin1") [(.int c0)] [] (ctIW l Z a0 hw hEL z0 S0 hz0 ci aA cA SI IC ST TA c0 r0 _ _) F928 (w 123 rfl) (w 124 rfl) (w 126 rfl) (w 125 rfl) (w 122 rfl) (w 127 rfl) (by decide) (fun _ q => nomatch q) (by decide) 0 (by decide) (by decide) (by decide) (lenOf pd_11 rfl) rfl (Nat.le_of_ble_eq_true rfl) (by rw [hml]; rfl) (D d17_32) ?_
        rintro T935 h936 _ X938 K939 (⟨rfl, hc934⟩ | ⟨rfl, hc934⟩)
        · have F940 := F928.keep K939
          have F941 := F929.keep K939 nin0
          show Goes p.tables e below _ (T935.setTop (mkF m 35 #[.val (.ref t), .val (.int (5 : Int32)), .val (.int (0 : Int32)), .val (.int c0)] [(.int (1 : Int32))]))
          refine X938.if_ne 41 (D d17_35) ⟨by decide, by decide⟩ (fun hc942 => ?_) (fun hc942 => absurd hc942 (by decide))
          show Goes p.tables e below _ (T935.setTop (mkF m 41 #[.val (.ref t), .val (.int (5 : Int32)), .val (.int (0 : Int32)), .val (.int c0)] []))
          exact adv0 _ _  X938 F941 F940 hc934
        · have F940 := F928.keep K939
          have F941 := F929.keep K939 nin0
          show Goes p.tables e below _ (T935.setTop (mkF m 35 #[.val (.ref t), .val (.int (5 : Int32)), .val (.int (0 : Int32)), .val (.int c0)] [(.int (0 : Int32))]))
          refine X938.if_ne 41 (D d17_35) ⟨by decide, by decide⟩ (fun hc943 => absurd hc943 (by decide)) (fun hc943 => ?_)
          refine X938.goto 47 (D d17_38) ⟨by decide, by decide⟩ ?_
          refine X938.iloadN (x := (0 : Int32)) (D d17_47) rfl ?_
          exact X938.retI hret hlk (D d17_48) (by decide) (by decide) (congrArg (fun z => some (Value.int (Int32.ofNat z))) (show 0 = nwN [c0, c1, c2, c3, c4] from by simp [nwN, hc934]))
  intro T918 h919  X920 F921 F922 hw0
  refine X920.iinc #[.val (.ref t), .val (.int (5 : Int32)), .val (.int (1 : Int32)), .val (.int c0)] (D d17_41) rfl rfl ?_
  refine X920.goto 5 (D d17_44) ⟨by decide, by decide⟩ ?_
  refine X920.iloadN (x := (1 : Int32)) (D d17_5) rfl ?_
  refine X920.iloadN (x := (5 : Int32)) (D d17_6) rfl ?_
  refine X920.icmp_ge 47 (D d17_7) ⟨by decide, by decide⟩ (fun hc944 => absurd hc944 (by decide)) (fun hc944 => ?_)
  refine X920.aloadN (x := (.ref t)) (D d17_10) rfl rfl ?_
  refine X920.iloadN (x := (1 : Int32)) (D d17_11) rfl ?_
  show Goes p.tables e below _ (T918.setTop (mkF m 12 #[.val (.ref t), .val (.int (5 : Int32)), .val (.int (1 : Int32)), .val (.int c0)] [(.int (1 : Int32)), (.ref t)]))
  suffices adv1 : ∀ (T945 : State) (h946 : Heap), Wd p l e ({ frames := 3, cells := 0, slots := 0, locals := 60 } : Room) sS m #[(.ref t)] below meth c Z a0 consts_1 ((⟨"java/lang/StringLatin1", "indexOfNonWhitespace", "([B)I"⟩ : MethodName)).cls n0 [] [] T945 h946 0 0 → Arv Z h946 t kt .byte (5 : Int32) [(.int (StrChars.lo8 c0)), (.int (StrChars.lo8 c1)), (.int (StrChars.lo8 c2)), (.int (StrChars.lo8 c3)), (.int (StrChars.lo8 c4))] (.int 0) → Exa Z h946 ci "java/lang/CharacterDataLatin1" → (wsP c1) → Goes p.tables e below (Endq Z consts_1 sS n0 [] ({ frames := 3, cells := 0, slots := 0, locals := 60 } : Room) (fun v _ => v = some (.int (Int32.ofNat (nwN [c0, c1, c2, c3, c4]))))) (T945.setTop (mkF m 41 #[.val (.ref t), .val (.int (5 : Int32)), .val (.int (1 : Int32)), .val (.int c1)] [])) by
    refine X920.calls [(.ref t), (.int (1 : Int32))] [] (ctGC l Z a0 hw hEL z0 S0 hz0 t kt [c0, c1, c2, c3, c4] 1 _ _ F921 (hpS r0 (hpS r1 (hpS r2 (hpS r3 (hpS r4 hp0))))) (Nat.le_of_ble_eq_true rfl) (Nat.le_of_ble_eq_true rfl)) (w 118 rfl) (w 119 rfl) (w 61 rfl) (w 120 rfl) (by decide) (fun _ q => nomatch q) (by decide) 0 (by decide) (by decide) (by decide) (lenOf pd_14 rfl) rfl (Nat.le_of_ble_eq_true rfl) (by rw [hml]; rfl) (D d17_12) ?_
    rintro T950 h951 _ X953 K954 rfl
    have F955 := F921.keep K954 nin0
    have F956 := F922.keep K954
    show Goes p.tables e below _ (T950.setTop (mkF m 15 #[.val (.ref t), .val (.int (5 : Int32)), .val (.int (1 : Int32)), .val (.int c0)] [(.int c1)]))
    refine X953.istoreN #[.val (.ref t), .val (.int (5 : Int32)), .val (.int (1 : Int32)), .val (.int c1)] (D d17_15) rfl ?_
    refine X953.iloadN (x := c1) (D d17_16) rfl ?_
    refine X953.bipush (x := (32 : Int32)) (D d17_17) rfl ?_
    refine X953.icmp_eq 41 (D d17_19) ⟨by decide, by decide⟩ (fun hc957 => ?_) (fun hc957 => ?_)
    · show Goes p.tables e below _ (T950.setTop (mkF m 41 #[.val (.ref t), .val (.int (5 : Int32)), .val (.int (1 : Int32)), .val (.int c1)] []))
      show Goes p.tables e below _ (T950.setTop (mkF m 41 #[.val (.ref t), .val (.int (5 : Int32)), .val (.int (1 : Int32)), .val (.int c1)] []))
      exact adv1 _ _  X953 F955 F956 (Or.inl hc957)
    · show Goes p.tables e below _ (T950.setTop (mkF m 22 #[.val (.ref t), .val (.int (5 : Int32)), .val (.int (1 : Int32)), .val (.int c1)] []))
      refine X953.iloadN (x := c1) (D d17_22) rfl ?_
      refine X953.bipush (x := (9 : Int32)) (D d17_23) rfl ?_
      refine X953.icmp_eq 41 (D d17_25) ⟨by decide, by decide⟩ (fun hc958 => ?_) (fun hc958 => ?_)
      · show Goes p.tables e below _ (T950.setTop (mkF m 41 #[.val (.ref t), .val (.int (5 : Int32)), .val (.int (1 : Int32)), .val (.int c1)] []))
        show Goes p.tables e below _ (T950.setTop (mkF m 41 #[.val (.ref t), .val (.int (5 : Int32)), .val (.int (1 : Int32)), .val (.int c1)] []))
        exact adv1 _ _  X953 F955 F956 (by rw [hc958]; decide)
      · show Goes p.tables e below _ (T950.setTop (mkF m 28 #[.val (.ref t), .val (.int (5 : Int32)), .val (.int (1 : Int32)), .val (.int c1)] []))
        refine X953.gets (w 121 rfl) Via.refl (Sta.ext X953.old.2 SI) (D d17_28) ?_
        intro T959 X960
        show Goes p.tables e below _ (T959.setTop (mkF m 31 #[.val (.ref t), .val (.int (5 : Int32)), .val (.int (1 : Int32)), .val (.int c1)] [(.ref ci)]))
        refine X960.iloadN (x := c1) (D d17_31) rfl ?_
        refine X960.callv (y := (⟨"java/lang/CharacterDataLatin1", "isWhitespace", "(I)Z"⟩ : MethodName)) (a := ci) (C := "java/lang/CharacterDataLatin1") [(.int c1)] [] (ctIW l Z a0 hw hEL z0 S0 hz0 ci aA cA SI IC ST TA c1 r1 _ _) F956 (w 123 rfl) (w 124 rfl) (w 126 rfl) (w 125 rfl) (w 122 rfl) (w 127 rfl) (by decide) (fun _ q => nomatch q) (by decide) 0 (by decide) (by decide) (by decide) (lenOf pd_11 rfl) rfl (Nat.le_of_ble_eq_true rfl) (by rw [hml]; rfl) (D d17_32) ?_
        rintro T962 h963 _ X965 K966 (⟨rfl, hc961⟩ | ⟨rfl, hc961⟩)
        · have F967 := F955.keep K966 nin0
          have F968 := F956.keep K966
          show Goes p.tables e below _ (T962.setTop (mkF m 35 #[.val (.ref t), .val (.int (5 : Int32)), .val (.int (1 : Int32)), .val (.int c1)] [(.int (1 : Int32))]))
          refine X965.if_ne 41 (D d17_35) ⟨by decide, by decide⟩ (fun hc969 => ?_) (fun hc969 => absurd hc969 (by decide))
          show Goes p.tables e below _ (T962.setTop (mkF m 41 #[.val (.ref t), .val (.int (5 : Int32)), .val (.int (1 : Int32)), .val (.int c1)] []))
          exact adv1 _ _  X965 F967 F968 hc961
        · have F967 := F955.keep K966 nin0
          have F968 := F956.keep K966
          show Goes p.tables e below _ (T962.setTop (mkF m 35 #[.val (.ref t), .val (.int (5 : Int32)), .val (.int (1 : Int32)), .val (.int c1)] [(.int (0 : Int32))]))
          refine X965.if_ne 41 (D d17_35) ⟨by decide, by decide⟩ (fun hc970 => absurd hc970 (by decide)) (fun hc970 => ?_)
          refine X965.goto 47 (D d17_38) ⟨by decide, by decide⟩ ?_
          refine X965.iloadN (x := (1 : Int32)) (D d17_47) rfl ?_
          exact X965.retI hret hlk (D d17_48) (by decide) (by decide) (congrArg (fun z => some (Value.int (Int32.ofNat z))) (show 1 = nwN [c0, c1, c2, c3, c4] from by simp [nwN, hw0, hc961]))
  intro T945 h946  X947 F948 F949 hw1
  refine X947.iinc #[.val (.ref t), .val (.int (5 : Int32)), .val (.int (2 : Int32)), .val (.int c1)] (D d17_41) rfl rfl ?_
  refine X947.goto 5 (D d17_44) ⟨by decide, by decide⟩ ?_
  refine X947.iloadN (x := (2 : Int32)) (D d17_5) rfl ?_
  refine X947.iloadN (x := (5 : Int32)) (D d17_6) rfl ?_
  refine X947.icmp_ge 47 (D d17_7) ⟨by decide, by decide⟩ (fun hc971 => absurd hc971 (by decide)) (fun hc971 => ?_)
  refine X947.aloadN (x := (.ref t)) (D d17_10) rfl rfl ?_
  refine X947.iloadN (x := (2 : Int32)) (D d17_11) rfl ?_
  show Goes p.tables e below _ (T945.setTop (mkF m 12 #[.val (.ref t), .val (.int (5 : Int32)), .val (.int (2 : Int32)), .val (.int c1)] [(.int (2 : Int32)), (.ref t)]))
  suffices adv2 : ∀ (T972 : State) (h973 : Heap), Wd p l e ({ frames := 3, cells := 0, slots := 0, locals := 60 } : Room) sS m #[(.ref t)] below meth c Z a0 consts_1 ((⟨"java/lang/StringLatin1", "indexOfNonWhitespace", "([B)I"⟩ : MethodName)).cls n0 [] [] T972 h973 0 0 → Arv Z h973 t kt .byte (5 : Int32) [(.int (StrChars.lo8 c0)), (.int (StrChars.lo8 c1)), (.int (StrChars.lo8 c2)), (.int (StrChars.lo8 c3)), (.int (StrChars.lo8 c4))] (.int 0) → Exa Z h973 ci "java/lang/CharacterDataLatin1" → (wsP c2) → Goes p.tables e below (Endq Z consts_1 sS n0 [] ({ frames := 3, cells := 0, slots := 0, locals := 60 } : Room) (fun v _ => v = some (.int (Int32.ofNat (nwN [c0, c1, c2, c3, c4]))))) (T972.setTop (mkF m 41 #[.val (.ref t), .val (.int (5 : Int32)), .val (.int (2 : Int32)), .val (.int c2)] [])) by
    refine X947.calls [(.ref t), (.int (2 : Int32))] [] (ctGC l Z a0 hw hEL z0 S0 hz0 t kt [c0, c1, c2, c3, c4] 2 _ _ F948 (hpS r0 (hpS r1 (hpS r2 (hpS r3 (hpS r4 hp0))))) (Nat.le_of_ble_eq_true rfl) (Nat.le_of_ble_eq_true rfl)) (w 118 rfl) (w 119 rfl) (w 61 rfl) (w 120 rfl) (by decide) (fun _ q => nomatch q) (by decide) 0 (by decide) (by decide) (by decide) (lenOf pd_14 rfl) rfl (Nat.le_of_ble_eq_true rfl) (by rw [hml]; rfl) (D d17_12) ?_
    rintro T977 h978 _ X980 K981 rfl
    have F982 := F948.keep K981 nin0
    have F983 := F949.keep K981
    show Goes p.tables e below _ (T977.setTop (mkF m 15 #[.val (.ref t), .val (.int (5 : Int32)), .val (.int (2 : Int32)), .val (.int c1)] [(.int c2)]))
    refine X980.istoreN #[.val (.ref t), .val (.int (5 : Int32)), .val (.int (2 : Int32)), .val (.int c2)] (D d17_15) rfl ?_
    refine X980.iloadN (x := c2) (D d17_16) rfl ?_
    refine X980.bipush (x := (32 : Int32)) (D d17_17) rfl ?_
    refine X980.icmp_eq 41 (D d17_19) ⟨by decide, by decide⟩ (fun hc984 => ?_) (fun hc984 => ?_)
    · show Goes p.tables e below _ (T977.setTop (mkF m 41 #[.val (.ref t), .val (.int (5 : Int32)), .val (.int (2 : Int32)), .val (.int c2)] []))
      show Goes p.tables e below _ (T977.setTop (mkF m 41 #[.val (.ref t), .val (.int (5 : Int32)), .val (.int (2 : Int32)), .val (.int c2)] []))
      exact adv2 _ _  X980 F982 F983 (Or.inl hc984)
    · show Goes p.tables e below _ (T977.setTop (mkF m 22 #[.val (.ref t), .val (.int (5 : Int32)), .val (.int (2 : Int32)), .val (.int c2)] []))
      refine X980.iloadN (x := c2) (D d17_22) rfl ?_
      refine X980.bipush (x := (9 : Int32)) (D d17_23) rfl ?_
      refine X980.icmp_eq 41 (D d17_25) ⟨by decide, by decide⟩ (fun hc985 => ?_) (fun hc985 => ?_)
      · show Goes p.tables e below _ (T977.setTop (mkF m 41 #[.val (.ref t), .val (.int (5 : Int32)), .val (.int (2 : Int32)), .val (.int c2)] []))
        show Goes p.tables e below _ (T977.setTop (mkF m 41 #[.val (.ref t), .val (.int (5 : Int32)), .val (.int (2 : Int32)), .val (.int c2)] []))
        exact adv2 _ _  X980 F982 F983 (by rw [hc985]; decide)
      · show Goes p.tables e below _ (T977.setTop (mkF m 28 #[.val (.ref t), .val (.int (5 : Int32)), .val (.int (2 : Int32)), .val (.int c2)] []))
        refine X980.gets (w 121 rfl) Via.refl (Sta.ext X980.old.2 SI) (D d17_28) ?_
        intro T986 X987
        show Goes p.tables e below _ (T986.setTop (mkF m 31 #[.val (.ref t), .val (.int (5 : Int32)), .val (.int (2 : Int32)), .val (.int c2)] [(.ref ci)]))
        refine X987.iloadN (x := c2) (D d17_31) rfl ?_
        refine X987.callv (y := (⟨"java/lang/CharacterDataLatin1", "isWhitespace", "(I)Z"⟩ : MethodName)) (a := ci) (C := "java/lang/CharacterDataLatin1") [(.int c2)] [] (ctIW l Z a0 hw hEL z0 S0 hz0 ci aA cA SI IC ST TA c2 r2 _ _) F983 (w 123 rfl) (w 124 rfl) (w 126 rfl) (w 125 rfl) (w 122 rfl) (w 127 rfl) (by decide) (fun _ q => nomatch q) (by decide) 0 (by decide) (by decide) (by decide) (lenOf pd_11 rfl) rfl (Nat.le_of_ble_eq_true rfl) (by rw [hml]; rfl) (D d17_32) ?_
        rintro T989 h990 _ X992 K993 (⟨rfl, hc988⟩ | ⟨rfl, hc988⟩)
        · have F994 := F982.keep K993 nin0
          have F995 := F983.keep K993
          show Goes p.tables e below _ (T989.setTop (mkF m 35 #[.val (.ref t), .val (.int (5 : Int32)), .val (.int (2 : Int32)), .val (.int c2)] [(.int (1 : Int32))]))
          refine X992.if_ne 41 (D d17_35) ⟨by decide, by decide⟩ (fun hc996 => ?_) (fun hc996 => absurd hc996 (by decide))
          show Goes p.tables e below _ (T989.setTop (mkF m 41 #[.val (.ref t), .val (.int (5 : Int32)), .val (.int (2 : Int32)), .val (.int c2)] []))
          exact adv2 _ _  X992 F994 F995 hc988
        · have F994 := F982.keep K993 nin0
          have F995 := F983.keep K993
          show Goes p.tables e below _ (T989.setTop (mkF m 35 #[.val (.ref t), .val (.int (5 : Int32)), .val (.int (2 : Int32)), .val (.int c2)] [(.int (0 : Int32))]))
          refine X992.if_ne 41 (D d17_35) ⟨by decide, by decide⟩ (fun hc997 => absurd hc997 (by decide)) (fun hc997 => ?_)
          refine X992.goto 47 (D d17_38) ⟨by decide, by decide⟩ ?_
          refine X992.iloadN (x := (2 : Int32)) (D d17_47) rfl ?_
          exact X992.retI hret hlk (D d17_48) (by decide) (by decide) (congrArg (fun z => some (Value.int (Int32.ofNat z))) (show 2 = nwN [c0, c1, c2, c3, c4] from by simp [nwN, hw0, hw1, hc988]))
  intro T972 h973  X974 F975 F976 hw2
  refine X974.iinc #[.val (.ref t), .val (.int (5 : Int32)), .val (.int (3 : Int32)), .val (.int c2)] (D d17_41) rfl rfl ?_
  refine X974.goto 5 (D d17_44) ⟨by decide, by decide⟩ ?_
  refine X974.iloadN (x := (3 : Int32)) (D d17_5) rfl ?_
  refine X974.iloadN (x := (5 : Int32)) (D d17_6) rfl ?_
  refine X974.icmp_ge 47 (D d17_7) ⟨by decide, by decide⟩ (fun hc998 => absurd hc998 (by decide)) (fun hc998 => ?_)
  refine X974.aloadN (x := (.ref t)) (D d17_10) rfl rfl ?_
  refine X974.iloadN (x := (3 : Int32)) (D d17_11) rfl ?_
  show Goes p.tables e below _ (T972.setTop (mkF m 12 #[.val (.ref t), .val (.int (5 : Int32)), .val (.int (3 : Int32)), .val (.int c2)] [(.int (3 : Int32)), (.ref t)]))
  suffices adv3 : ∀ (T999 : State) (h1000 : Heap), Wd p l e ({ frames := 3, cells := 0, slots := 0, locals := 60 } : Room) sS m #[(.ref t)] below meth c Z a0 consts_1 ((⟨"java/lang/StringLatin1", "indexOfNonWhitespace", "([B)I"⟩ : MethodName)).cls n0 [] [] T999 h1000 0 0 → Arv Z h1000 t kt .byte (5 : Int32) [(.int (StrChars.lo8 c0)), (.int (StrChars.lo8 c1)), (.int (StrChars.lo8 c2)), (.int (StrChars.lo8 c3)), (.int (StrChars.lo8 c4))] (.int 0) → Exa Z h1000 ci "java/lang/CharacterDataLatin1" → (wsP c3) → Goes p.tables e below (Endq Z consts_1 sS n0 [] ({ frames := 3, cells := 0, slots := 0, locals := 60 } : Room) (fun v _ => v = some (.int (Int32.ofNat (nwN [c0, c1, c2, c3, c4]))))) (T999.setTop (mkF m 41 #[.val (.ref t), .val (.int (5 : Int32)), .val (.int (3 : Int32)), .val (.int c3)] [])) by
    refine X974.calls [(.ref t), (.int (3 : Int32))] [] (ctGC l Z a0 hw hEL z0 S0 hz0 t kt [c0, c1, c2, c3, c4] 3 _ _ F975 (hpS r0 (hpS r1 (hpS r2 (hpS r3 (hpS r4 hp0))))) (Nat.le_of_ble_eq_true rfl) (Nat.le_of_ble_eq_true rfl)) (w 118 rfl) (w 119 rfl) (w 61 rfl) (w 120 rfl) (by decide) (fun _ q => nomatch q) (by decide) 0 (by decide) (by decide) (by decide) (lenOf pd_14 rfl) rfl (Nat.le_of_ble_eq_true rfl) (by rw [hml]; rfl) (D d17_12) ?_
    rintro T1004 h1005 _ X1007 K1008 rfl
    have F1009 := F975.keep K1008 nin0
    have F1010 := F976.keep K1008
    show Goes p.tables e below _ (T1004.setTop (mkF m 15 #[.val (.ref t), .val (.int (5 : Int32)), .val (.int (3 : Int32)), .val (.int c2)] [(.int c3)]))
    refine X1007.istoreN #[.val (.ref t), .val (.int (5 : Int32)), .val (.int (3 : Int32)), .val (.int c3)] (D d17_15) rfl ?_
    refine X1007.iloadN (x := c3) (D d17_16) rfl ?_
    refine X1007.bipush (x := (32 : Int32)) (D d17_17) rfl ?_
    refine X1007.icmp_eq 41 (D d17_19) ⟨by decide, by decide⟩ (fun hc1011 => ?_) (fun hc1011 => ?_)
    · show Goes p.tables e below _ (T1004.setTop (mkF m 41 #[.val (.ref t), .val (.int (5 : Int32)), .val (.int (3 : Int32)), .val (.int c3)] []))
      show Goes p.tables e below _ (T1004.setTop (mkF m 41 #[.val (.ref t), .val (.int (5 : Int32)), .val (.int (3 : Int32)), .val (.int c3)] []))
      exact adv3 _ _  X1007 F1009 F1010 (Or.inl hc1011)
    · show Goes p.tables e below _ (T1004.setTop (mkF m 22 #[.val (.ref t), .val (.int (5 : Int32)), .val (.int (3 : Int32)), .val (.int c3)] []))
      refine X1007.iloadN (x := c3) (D d17_22) rfl ?_
      refine X1007.bipush (x := (9 : Int32)) (D d17_23) rfl ?_
      refine X1007.icmp_eq 41 (D d17_25) ⟨by decide, by decide⟩ (fun hc1012 => ?_) (fun hc1012 => ?_)
      · show Goes p.tables e below _ (T1004.setTop (mkF m 41 #[.val (.ref t), .val (.int (5 : Int32)), .val (.int (3 : Int32)), .val (.int c3)] []))
        show Goes p.tables e below _ (T1004.setTop (mkF m 41 #[.val (.ref t), .val (.int (5 : Int32)), .val (.int (3 : Int32)), .val (.int c3)] []))
        exact adv3 _ _  X1007 F1009 F1010 (by rw [hc1012]; decide)
      · show Goes p.tables e below _ (T1004.setTop (mkF m 28 #[.val (.ref t), .val (.int (5 : Int32)), .val (.int (3 : Int32)), .val (.int c3)] []))
        refine X1007.gets (w 121 rfl) Via.refl (Sta.ext X1007.old.2 SI) (D d17_28) ?_
        intro T1013 X1014
        show Goes p.tables e below _ (T1013.setTop (mkF m 31 #[.val (.ref t), .val (.int (5 : Int32)), .val (.int (3 : Int32)), .val (.int c3)] [(.ref ci)]))
        refine X1014.iloadN (x := c3) (D d17_31) rfl ?_
        refine X1014.callv (y := (⟨"java/lang/CharacterDataLatin1", "isWhitespace", "(I)Z"⟩ : MethodName)) (a := ci) (C := "java/lang/CharacterDataLatin1") [(.int c3)] [] (ctIW l Z a0 hw hEL z0 S0 hz0 ci aA cA SI IC ST TA c3 r3 _ _) F1010 (w 123 rfl) (w 124 rfl) (w 126 rfl) (w 125 rfl) (w 122 rfl) (w 127 rfl) (by decide) (fun _ q => nomatch q) (by decide) 0 (by decide) (by decide) (by decide) (lenOf pd_11 rfl) rfl (Nat.le_of_ble_eq_true rfl) (by rw [hml]; rfl) (D d17_32) ?_
        rintro T1016 h1017 _ X1019 K1020 (⟨rfl, hc1015⟩ | ⟨rfl, hc1015⟩)
        · have F1021 := F1009.keep K1020 nin0
          have F1022 := F1010.keep K1020
          show Goes p.tables e below _ (T1016.setTop (mkF m 35 #[.val (.ref t), .val (.int (5 : Int32)), .val (.int (3 : Int32)), .val (.int c3)] [(.int (1 : Int32))]))
          refine X1019.if_ne 41 (D d17_35) ⟨by decide, by decide⟩ (fun hc1023 => ?_) (fun hc1023 => absurd hc1023 (by decide))
          show Goes p.tables e below _ (T1016.setTop (mkF m 41 #[.val (.ref t), .val (.int (5 : Int32)), .val (.int (3 : Int32)), .val (.int c3)] []))
          exact adv3 _ _  X1019 F1021 F1022 hc1015
        · have F1021 := F1009.keep K1020 nin0
          have F1022 := F1010.keep K1020
          show Goes p.tables e below _ (T1016.setTop (mkF m 35 #[.val (.ref t), .val (.int (5 : Int32)), .val (.int (3 : Int32)), .val (.int c3)] [(.int (0 : Int32))]))
          refine X1019.if_ne 41 (D d17_35) ⟨by decide, by decide⟩ (fun hc1024 => absurd hc1024 (by decide)) (fun hc1024 => ?_)
          refine X1019.goto 47 (D d17_38) ⟨by decide, by decide⟩ ?_
          refine X1019.iloadN (x := (3 : Int32)) (D d17_47) rfl ?_
          exact X1019.retI hret hlk (D d17_48) (by decide) (by decide) (congrArg (fun z => some (Value.int (Int32.ofNat z))) (show 3 = nwN [c0, c1, c2, c3, c4] from by simp [nwN, hw0, hw1, hw2, hc1015]))
  intro T999 h1000  X1001 F1002 F1003 hw3
  refine X1001.iinc #[.val (.ref t), .val (.int (5 : Int32)), .val (.int (4 : Int32)), .val (.int c3)] (D d17_41) rfl rfl ?_
  refine X1001.goto 5 (D d17_44) ⟨by decide, by decide⟩ ?_
  refine X1001.iloadN (x := (4 : Int32)) (D d17_5) rfl ?_
  refine X1001.iloadN (x := (5 : Int32)) (D d17_6) rfl ?_
  refine X1001.icmp_ge 47 (D d17_7) ⟨by decide, by decide⟩ (fun hc1025 => absurd hc1025 (by decide)) (fun hc1025 => ?_)
  refine X1001.aloadN (x := (.ref t)) (D d17_10) rfl rfl ?_
  refine X1001.iloadN (x := (4 : Int32)) (D d17_11) rfl ?_
  show Goes p.tables e below _ (T999.setTop (mkF m 12 #[.val (.ref t), .val (.int (5 : Int32)), .val (.int (4 : Int32)), .val (.int c3)] [(.int (4 : Int32)), (.ref t)]))
  suffices adv4 : ∀ (T1026 : State) (h1027 : Heap), Wd p l e ({ frames := 3, cells := 0, slots := 0, locals := 60 } : Room) sS m #[(.ref t)] below meth c Z a0 consts_1 ((⟨"java/lang/StringLatin1", "indexOfNonWhitespace", "([B)I"⟩ : MethodName)).cls n0 [] [] T1026 h1027 0 0 → Arv Z h1027 t kt .byte (5 : Int32) [(.int (StrChars.lo8 c0)), (.int (StrChars.lo8 c1)), (.int (StrChars.lo8 c2)), (.int (StrChars.lo8 c3)), (.int (StrChars.lo8 c4))] (.int 0) → Exa Z h1027 ci "java/lang/CharacterDataLatin1" → (wsP c4) → Goes p.tables e below (Endq Z consts_1 sS n0 [] ({ frames := 3, cells := 0, slots := 0, locals := 60 } : Room) (fun v _ => v = some (.int (Int32.ofNat (nwN [c0, c1, c2, c3, c4]))))) (T1026.setTop (mkF m 41 #[.val (.ref t), .val (.int (5 : Int32)), .val (.int (4 : Int32)), .val (.int c4)] [])) by
    refine X1001.calls [(.ref t), (.int (4 : Int32))] [] (ctGC l Z a0 hw hEL z0 S0 hz0 t kt [c0, c1, c2, c3, c4] 4 _ _ F1002 (hpS r0 (hpS r1 (hpS r2 (hpS r3 (hpS r4 hp0))))) (Nat.le_of_ble_eq_true rfl) (Nat.le_of_ble_eq_true rfl)) (w 118 rfl) (w 119 rfl) (w 61 rfl) (w 120 rfl) (by decide) (fun _ q => nomatch q) (by decide) 0 (by decide) (by decide) (by decide) (lenOf pd_14 rfl) rfl (Nat.le_of_ble_eq_true rfl) (by rw [hml]; rfl) (D d17_12) ?_
    rintro T1031 h1032 _ X1034 K1035 rfl
    have F1036 := F1002.keep K1035 nin0
    have F1037 := F1003.keep K1035
    show Goes p.tables e below _ (T1031.setTop (mkF m 15 #[.val (.ref t), .val (.int (5 : Int32)), .val (.int (4 : Int32)), .val (.int c3)] [(.int c4)]))
    refine X1034.istoreN #[.val (.ref t), .val (.int (5 : Int32)), .val (.int (4 : Int32)), .val (.int c4)] (D d17_15) rfl ?_
    refine X1034.iloadN (x := c4) (D d17_16) rfl ?_
    refine X1034.bipush (x := (32 : Int32)) (D d17_17) rfl ?_
    refine X1034.icmp_eq 41 (D d17_19) ⟨by decide, by decide⟩ (fun hc1038 => ?_) (fun hc1038 => ?_)
    · show Goes p.tables e below _ (T1031.setTop (mkF m 41 #[.val (.ref t), .val (.int (5 : Int32)), .val (.int (4 : Int32)), .val (.int c4)] []))
      show Goes p.tables e below _ (T1031.setTop (mkF m 41 #[.val (.ref t), .val (.int (5 : Int32)), .val (.int (4 : Int32)), .val (.int c4)] []))
      exact adv4 _ _  X1034 F1036 F1037 (Or.inl hc1038)
    · show Goes p.tables e below _ (T1031.setTop (mkF m 22 #[.val (.ref t), .val (.int (5 : Int32)), .val (.int (4 : Int32)), .val (.int c4)] []))
      refine X1034.iloadN (x := c4) (D d17_22) rfl ?_
      refine X1034.bipush (x := (9 : Int32)) (D d17_23) rfl ?_
      refine X1034.icmp_eq 41 (D d17_25) ⟨by decide, by decide⟩ (fun hc1039 => ?_) (fun hc1039 => ?_)
      · show Goes p.tables e below _ (T1031.setTop (mkF m 41 #[.val (.ref t), .val (.int (5 : Int32)), .val (.int (4 : Int32)), .val (.int c4)] []))
        show Goes p.tables e below _ (T1031.setTop (mkF m 41 #[.val (.ref t), .val (.int (5 : Int32)), .val (.int (4 : Int32)), .val (.int c4)] []))
        exact adv4 _ _  X1034 F1036 F1037 (by rw [hc1039]; decide)
      · show Goes p.tables e below _ (T1031.setTop (mkF m 28 #[.val (.ref t), .val (.int (5 : Int32)), .val (.int (4 : Int32)), .val (.int c4)] []))
        refine X1034.gets (w 121 rfl) Via.refl (Sta.ext X1034.old.2 SI) (D d17_28) ?_
        intro T1040 X1041
        show Goes p.tables e below _ (T1040.setTop (mkF m 31 #[.val (.ref t), .val (.int (5 : Int32)), .val (.int (4 : Int32)), .val (.int c4)] [(.ref ci)]))
        refine X1041.iloadN (x := c4) (D d17_31) rfl ?_
        refine X1041.callv (y := (⟨"java/lang/CharacterDataLatin1", "isWhitespace", "(I)Z"⟩ : MethodName)) (a := ci) (C := "java/lang/CharacterDataLatin1") [(.int c4)] [] (ctIW l Z a0 hw hEL z0 S0 hz0 ci aA cA SI IC ST TA c4 r4 _ _) F1037 (w 123 rfl) (w 124 rfl) (w 126 rfl) (w 125 rfl) (w 122 rfl) (w 127 rfl) (by decide) (fun _ q => nomatch q) (by decide) 0 (by decide) (by decide) (by decide) (lenOf pd_11 rfl) rfl (Nat.le_of_ble_eq_true rfl) (by rw [hml]; rfl) (D d17_32) ?_
        rintro T1043 h1044 _ X1046 K1047 (⟨rfl, hc1042⟩ | ⟨rfl, hc1042⟩)
        · have F1048 := F1036.keep K1047 nin0
          have F1049 := F1037.keep K1047
          show Goes p.tables e below _ (T1043.setTop (mkF m 35 #[.val (.ref t), .val (.int (5 : Int32)), .val (.int (4 : Int32)), .val (.int c4)] [(.int (1 : Int32))]))
          refine X1046.if_ne 41 (D d17_35) ⟨by decide, by decide⟩ (fun hc1050 => ?_) (fun hc1050 => absurd hc1050 (by decide))
          show Goes p.tables e below _ (T1043.setTop (mkF m 41 #[.val (.ref t), .val (.int (5 : Int32)), .val (.int (4 : Int32)), .val (.int c4)] []))
          exact adv4 _ _  X1046 F1048 F1049 hc1042
        · have F1048 := F1036.keep K1047 nin0
          have F1049 := F1037.keep K1047
          show Goes p.tables e below _ (T1043.setTop (mkF m 35 #[.val (.ref t), .val (.int (5 : Int32)), .val (.int (4 : Int32)), .val (.int c4)] [(.int (0 : Int32))]))
          refine X1046.if_ne 41 (D d17_35) ⟨by decide, by decide⟩ (fun hc1051 => absurd hc1051 (by decide)) (fun hc1051 => ?_)
          refine X1046.goto 47 (D d17_38) ⟨by decide, by decide⟩ ?_
          refine X1046.iloadN (x := (4 : Int32)) (D d17_47) rfl ?_
          exact X1046.retI hret hlk (D d17_48) (by decide) (by decide) (congrArg (fun z => some (Value.int (Int32.ofNat z))) (show 4 = nwN [c0, c1, c2, c3, c4] from by simp [nwN, hw0, hw1, hw2, hw3, hc1042]))
  intro T1026 h1027  X1028 F1029 F1030 hw4
  refine X1028.iinc #[.val (.ref t), .val (.int (5 : Int32)), .val (.int (5 : Int32)), .val (.int c4)] (D d17_41) rfl rfl ?_
  refine X1028.goto 5 (D d17_44) ⟨by decide, by decide⟩ ?_
  refine X1028.iloadN (x := (5 : Int32)) (D d17_5) rfl ?_
  refine X1028.iloadN (x := (5 : Int32)) (D d17_6) rfl ?_
  refine X1028.icmp_ge 47 (D d17_7) ⟨by decide, by decide⟩ (fun hc1052 => ?_) (fun hc1052 => absurd hc1052 (by decide))
  refine X1028.iloadN (x := (5 : Int32)) (D d17_47) rfl ?_
  exact X1028.retI hret hlk (D d17_48) (by decide) (by decide) (congrArg (fun z => some (Value.int (Int32.ofNat z))) (show 5 = nwN [c0, c1, c2, c3, c4] from by simp [nwN, hw0, hw1, hw2, hw3, hw4]))
set_option maxRecDepth 65536 in
set_option maxHeartbeats 40000000 in
theorem ctLW_5 (l : Launch) (Z : State) (a0 : Array Value) (hw : ∀ d ∈ tables_1, d.before a0 Z = true) (hEL : EW Z a0 consts_1) (z0 : Int32) (S0 : Sta Z Z.heap "java/lang/String" "COMPACT_STRINGS" "Z" (.int z0)) (hz0 : ¬ z0 = 0) (ci aA : Addr) (cA : Cell) (SI : Sta Z Z.heap "java/lang/CharacterDataLatin1" "instance" "Ljava/lang/CharacterDataLatin1;" (.ref ci)) (IC : Exa Z Z.heap ci "java/lang/CharacterDataLatin1") (ST : Sta Z Z.heap "java/lang/CharacterDataLatin1" "A" "[I" (.ref aA)) (TA : TabW Z aA cA) (t : Addr) (kt : ClassId) (c0 c1 c2 c3 c4 : Int32) (h0 : Heap) (n0 : Nat) (AT : Arv Z h0 t kt .byte (Int32.ofNat [c0, c1, c2, c3, c4].length) (([c0, c1, c2, c3, c4].map StrChars.lo8).map Value.int) (.int 0)) (r0 : Rb c0) (r1 : Rb c1) (r2 : Rb c2) (r3 : Rb c3) (r4 : Rb c4) :
    Ct l Z consts_1 [] (⟨"java/lang/StringLatin1", "lastIndexOfNonWhitespace", "([B)I"⟩ : MethodName) jdk_43_method_38_code 4 (some .int) ({ frames := 3, cells := 0, slots := 0, locals := 60 } : Room) #[(.ref t)] h0 n0 [] (fun v _ => v = some (.int (Int32.ofNat (lwN [c0, c1, c2, c3, c4])))) := by
  have w : ∀ {d : Jvm.Cond} (i : Nat), tables_1[i]? = some d → d.before a0 Z = true := fun i q => hw _ (List.mem_of_getElem? q)
  refine Ct.enter (plainFor_of_name pn_3) hEL ?_
  intro p e sS m below meth c T0 hby hml0 hret hlk hnm hs0 X0
  have hml : c.maxLocals = 4 := hml0
  have D : ∀ {pc : Nat} {r : Except DecodeError (Instr × Nat)}, decode jdk_43_method_38_code pc = r → decode c.code pc = r := fun q => hb hby q
  rw [show entryFrame m #[(.ref t)] 4 = mkF m 0 #[.val (.ref t), .unset, .unset, .unset] [] from by first | (simp [entryFrame, mkF, argsToLocals, Value.category]; done) | rfl]
  have E_ci := IC.ext X0.old.2
  have A2 : Arv Z h0 t kt .byte (5 : Int32) [(.int (StrChars.lo8 c0)), (.int (StrChars.lo8 c1)), (.int (StrChars.lo8 c2)), (.int (StrChars.lo8 c3)), (.int (StrChars.lo8 c4))] (.int 0) := AT
  refine X0.aloadN (x := (.ref t)) (D d30_0) rfl rfl ?_
  refine X0.alen A2 (D d30_1) ?_
  refine X0.istoreN #[.val (.ref t), .val (.int (5 : Int32)), .unset, .unset] (D d30_2) rfl ?_
  refine X0.iloadN (x := (5 : Int32)) (D d30_3) rfl ?_
  refine X0.istoreN #[.val (.ref t), .val (.int (5 : Int32)), .val (.int (5 : Int32)), .unset] (D d30_4) rfl ?_
  refine X0.iconst (x := (0 : Int32)) (D d30_5) rfl ?_
  refine X0.iloadN (x := (5 : Int32)) (D d30_6) rfl ?_
  refine X0.icmp_ge 49 (D d30_7) ⟨by decide, by decide⟩ (fun hc1053 => absurd hc1053 (by decide)) (fun hc1053 => ?_)
  refine X0.aloadN (x := (.ref t)) (D d30_10) rfl rfl ?_
  refine X0.iloadN (x := (5 : Int32)) (D d30_11) rfl ?_
  refine X0.iconst (x := (1 : Int32)) (D d30_12) rfl ?_
  refine X0.isub (D d30_13) ?_
  show Goes p.tables e below _ (T0.setTop (mkF m 14 #[.val (.ref t), .val (.int (5 : Int32)), .val (.int (5 : Int32)), .unset] [(.int (4 : Int32)), (.ref t)]))
  show Goes p.tables e below _ (T0.setTop (mkF m 14 #[.val (.ref t), .val (.int (5 : Int32)), .val (.int (5 : Int32)), .unset] [(.int (4 : Int32)), (.ref t)]))
  suffices adv0 : ∀ (T1054 : State) (h1055 : Heap), Wd p l e ({ frames := 3, cells := 0, slots := 0, locals := 60 } : Room) sS m #[(.ref t)] below meth c Z a0 consts_1 ((⟨"java/lang/StringLatin1", "lastIndexOfNonWhitespace", "([B)I"⟩ : MethodName)).cls n0 [] [] T1054 h1055 0 0 → Arv Z h1055 t kt .byte (5 : Int32) [(.int (StrChars.lo8 c0)), (.int (StrChars.lo8 c1)), (.int (StrChars.lo8 c2)), (.int (StrChars.lo8 c3)), (.int (StrChars.lo8 c4))] (.int 0) → Exa Z h1055 ci "java/lang/CharacterDataLatin1" → (wsP c4) → Goes p.tables e below (Endq Z consts_1 sS n0 [] ({ frames := 3, cells := 0, slots := 0, locals := 60 } : Room) (fun v _ => v = some (.int (Int32.ofNat (lwN [c0, c1, c2, c3, c4]))))) (T1054.setTop (mkF m 43 #[.val (.ref t), .val (.int (5 : Int32)), .val (.int (5 : Int32)), .val (.int c4)] [])) by
    refine X0.calls [(.ref t), (.int (4 : Int32))] [] (ctGC l Z a0 hw hEL z0 S0 hz0 t kt [c0, c1, c2, c3, c4] 4 _ _ A2 (hpS r0 (hpS r1 (hpS r2 (hpS r3 (hpS r4 hp0))))) (Nat.le_of_ble_eq_true rfl) (Nat.le_of_ble_eq_true rfl)) (w 118 rfl) (w 119 rfl) (w 61 rfl) (w 120 rfl) (by decide) (fun _ q => nomatch q) (by decide) 0 (by decide) (by decide) (by decide) (lenOf pd_14 rfl) rfl (Nat.le_of_ble_eq_true rfl) (by rw [hml]; rfl) (D d30_14) ?_
    rintro T1059 h1060 _ X1062 K1063 rfl
    have F1064 := E_ci.keep K1063
    have F1065 := A2.keep K1063 nin0
    show Goes p.tables e below _ (T1059.setTop (mkF m 17 #[.val (.ref t), .val (.int (5 : Int32)), .val (.int (5 : Int32)), .unset] [(.int c4)]))
    refine X1062.istoreN #[.val (.ref t), .val (.int (5 : Int32)), .val (.int (5 : Int32)), .val (.int c4)] (D d30_17) rfl ?_
    refine X1062.iloadN (x := c4) (D d30_18) rfl ?_
    refine X1062.bipush (x := (32 : Int32)) (D d30_19) rfl ?_
    refine X1062.icmp_eq 43 (D d30_21) ⟨by decide, by decide⟩ (fun hc1066 => ?_) (fun hc1066 => ?_)
    · show Goes p.tables e below _ (T1059.setTop (mkF m 43 #[.val (.ref t), .val (.int (5 : Int32)), .val (.int (5 : Int32)), .val (.int c4)] []))
      show Goes p.tables e below _ (T1059.setTop (mkF m 43 #[.val (.ref t), .val (.int (5 : Int32)), .val (.int (5 : Int32)), .val (.int c4)] []))
      exact adv0 _ _  X1062 F1065 F1064 (Or.inl hc1066)
    · show Goes p.tables e below _ (T1059.setTop (mkF m 24 #[.val (.ref t), .val (.int (5 : Int32)), .val (.int (5 : Int32)), .val (.int c4)] []))
      refine X1062.iloadN (x := c4) (D d30_24) rfl ?_
      refine X1062.bipush (x := (9 : Int32)) (D d30_25) rfl ?_
      refine X1062.icmp_eq 43 (D d30_27) ⟨by decide, by decide⟩ (fun hc1067 => ?_) (fun hc1067 => ?_)
      · show Goes p.tables e below _ (T1059.setTop (mkF m 43 #[.val (.ref t), .val (.int (5 : Int32)), .val (.int (5 : Int32)), .val (.int c4)] []))
        show Goes p.tables e below _ (T1059.setTop (mkF m 43 #[.val (.ref t), .val (.int (5 : Int32)), .val (.int (5 : Int32)), .val (.int c4)] []))
        exact adv0 _ _  X1062 F1065 F1064 (by rw [hc1067]; decide)
      · show Goes p.tables e below _ (T1059.setTop (mkF m 30 #[.val (.ref t), .val (.int (5 : Int32)), .val (.int (5 : Int32)), .val (.int c4)] []))
        refine X1062.gets (w 121 rfl) Via.refl (Sta.ext X1062.old.2 SI) (D d30_30) ?_
        intro T1068 X1069
        show Goes p.tables e below _ (T1068.setTop (mkF m 33 #[.val (.ref t), .val (.int (5 : Int32)), .val (.int (5 : Int32)), .val (.int c4)] [(.ref ci)]))
        refine X1069.iloadN (x := c4) (D d30_33) rfl ?_
        refine X1069.callv (y := (⟨"java/lang/CharacterDataLatin1", "isWhitespace", "(I)Z"⟩ : MethodName)) (a := ci) (C := "java/lang/CharacterDataLatin1") [(.int c4)] [] (ctIW l Z a0 hw hEL z0 S0 hz0 ci aA cA SI IC ST TA c4 r4 _ _) F1064 (w 123 rfl) (w 124 rfl) (w 126 rfl) (w 125 rfl) (w 122 rfl) (w 127 rfl) (by decide) (fun _ q => nomatch q) (by decide) 0 (by decide) (by decide) (by decide) (lenOf pd_11 rfl) rfl (Nat.le_of_ble_eq_true rfl) (by rw [hml]; rfl) (D d30_34) ?_
        rintro T1071 h1072 _ X1074 K1075 (⟨rfl, hc1070⟩ | ⟨rfl, hc1070⟩)
        · have F1076 := F1064.keep K1075
          have F1077 := F1065.keep K1075 nin0
          show Goes p.tables e below _ (T1071.setTop (mkF m 37 #[.val (.ref t), .val (.int (5 : Int32)), .val (.int (5 : Int32)), .val (.int c4)] [(.int (1 : Int32))]))
          refine X1074.if_ne 43 (D d30_37) ⟨by decide, by decide⟩ (fun hc1078 => ?_) (fun hc1078 => absurd hc1078 (by decide))
          show Goes p.tables e below _ (T1071.setTop (mkF m 43 #[.val (.ref t), .val (.int (5 : Int32)), .val (.int (5 : Int32)), .val (.int c4)] []))
          exact adv0 _ _  X1074 F1077 F1076 hc1070
        · have F1076 := F1064.keep K1075
          have F1077 := F1065.keep K1075 nin0
          show Goes p.tables e below _ (T1071.setTop (mkF m 37 #[.val (.ref t), .val (.int (5 : Int32)), .val (.int (5 : Int32)), .val (.int c4)] [(.int (0 : Int32))]))
          refine X1074.if_ne 43 (D d30_37) ⟨by decide, by decide⟩ (fun hc1079 => absurd hc1079 (by decide)) (fun hc1079 => ?_)
          refine X1074.goto 49 (D d30_40) ⟨by decide, by decide⟩ ?_
          refine X1074.iloadN (x := (5 : Int32)) (D d30_49) rfl ?_
          exact X1074.retI hret hlk (D d30_50) (by decide) (by decide) (congrArg (fun z => some (Value.int (Int32.ofNat z))) (show 5 = lwN [c0, c1, c2, c3, c4] from by simp [lwN, hc1070]))
  intro T1054 h1055  X1056 F1057 F1058 hw4
  refine X1056.iinc #[.val (.ref t), .val (.int (5 : Int32)), .val (.int (4 : Int32)), .val (.int c4)] (D d30_43) rfl rfl ?_
  refine X1056.goto 5 (D d30_46) ⟨by decide, by decide⟩ ?_
  refine X1056.iconst (x := (0 : Int32)) (D d30_5) rfl ?_
  refine X1056.iloadN (x := (4 : Int32)) (D d30_6) rfl ?_
  refine X1056.icmp_ge 49 (D d30_7) ⟨by decide, by decide⟩ (fun hc1080 => absurd hc1080 (by decide)) (fun hc1080 => ?_)
  refine X1056.aloadN (x := (.ref t)) (D d30_10) rfl rfl ?_
  refine X1056.iloadN (x := (4 : Int32)) (D d30_11) rfl ?_
  refine X1056.iconst (x := (1 : Int32)) (D d30_12) rfl ?_
  refine X1056.isub (D d30_13) ?_
  show Goes p.tables e below _ (T1054.setTop (mkF m 14 #[.val (.ref t), .val (.int (5 : Int32)), .val (.int (4 : Int32)), .val (.int c4)] [(.int (3 : Int32)), (.ref t)]))
  show Goes p.tables e below _ (T1054.setTop (mkF m 14 #[.val (.ref t), .val (.int (5 : Int32)), .val (.int (4 : Int32)), .val (.int c4)] [(.int (3 : Int32)), (.ref t)]))
  suffices adv1 : ∀ (T1081 : State) (h1082 : Heap), Wd p l e ({ frames := 3, cells := 0, slots := 0, locals := 60 } : Room) sS m #[(.ref t)] below meth c Z a0 consts_1 ((⟨"java/lang/StringLatin1", "lastIndexOfNonWhitespace", "([B)I"⟩ : MethodName)).cls n0 [] [] T1081 h1082 0 0 → Arv Z h1082 t kt .byte (5 : Int32) [(.int (StrChars.lo8 c0)), (.int (StrChars.lo8 c1)), (.int (StrChars.lo8 c2)), (.int (StrChars.lo8 c3)), (.int (StrChars.lo8 c4))] (.int 0) → Exa Z h1082 ci "java/lang/CharacterDataLatin1" → (wsP c3) → Goes p.tables e below (Endq Z consts_1 sS n0 [] ({ frames := 3, cells := 0, slots := 0, locals := 60 } : Room) (fun v _ => v = some (.int (Int32.ofNat (lwN [c0, c1, c2, c3, c4]))))) (T1081.setTop (mkF m 43 #[.val (.ref t), .val (.int (5 : Int32)), .val (.int (4 : Int32)), .val (.int c3)] [])) by
    refine X1056.calls [(.ref t), (.int (3 : Int32))] [] (ctGC l Z a0 hw hEL z0 S0 hz0 t kt [c0, c1, c2, c3, c4] 3 _ _ F1057 (hpS r0 (hpS r1 (hpS r2 (hpS r3 (hpS r4 hp0))))) (Nat.le_of_ble_eq_true rfl) (Nat.le_of_ble_eq_true rfl)) (w 118 rfl) (w 119 rfl) (w 61 rfl) (w 120 rfl) (by decide) (fun _ q => nomatch q) (by decide) 0 (by decide) (by decide) (by decide) (lenOf pd_14 rfl) rfl (Nat.le_of_ble_eq_true rfl) (by rw [hml]; rfl) (D d30_14) ?_
    rintro T1086 h1087 _ X1089 K1090 rfl
    have F1091 := F1057.keep K1090 nin0
    have F1092 := F1058.keep K1090
    show Goes p.tables e below _ (T1086.setTop (mkF m 17 #[.val (.ref t), .val (.int (5 : Int32)), .val (.int (4 : Int32)), .val (.int c4)] [(.int c3)]))
    refine X1089.istoreN #[.val (.ref t), .val (.int (5 : Int32)), .val (.int (4 : Int32)), .val (.int c3)] (D d30_17) rfl ?_
    refine X1089.iloadN (x := c3) (D d30_18) rfl ?_
    refine X1089.bipush (x := (32 : Int32)) (D d30_19) rfl ?_
    refine X1089.icmp_eq 43 (D d30_21) ⟨by decide, by decide⟩ (fun hc1093 => ?_) (fun hc1093 => ?_)
    · show Goes p.tables e below _ (T1086.setTop (mkF m 43 #[.val (.ref t), .val (.int (5 : Int32)), .val (.int (4 : Int32)), .val (.int c3)] []))
      show Goes p.tables e below _ (T1086.setTop (mkF m 43 #[.val (.ref t), .val (.int (5 : Int32)), .val (.int (4 : Int32)), .val (.int c3)] []))
      exact adv1 _ _  X1089 F1091 F1092 (Or.inl hc1093)
    · show Goes p.tables e below _ (T1086.setTop (mkF m 24 #[.val (.ref t), .val (.int (5 : Int32)), .val (.int (4 : Int32)), .val (.int c3)] []))
      refine X1089.iloadN (x := c3) (D d30_24) rfl ?_
      refine X1089.bipush (x := (9 : Int32)) (D d30_25) rfl ?_
      refine X1089.icmp_eq 43 (D d30_27) ⟨by decide, by decide⟩ (fun hc1094 => ?_) (fun hc1094 => ?_)
      · show Goes p.tables e below _ (T1086.setTop (mkF m 43 #[.val (.ref t), .val (.int (5 : Int32)), .val (.int (4 : Int32)), .val (.int c3)] []))
        show Goes p.tables e below _ (T1086.setTop (mkF m 43 #[.val (.ref t), .val (.int (5 : Int32)), .val (.int (4 : Int32)), .val (.int c3)] []))
        exact adv1 _ _  X1089 F1091 F1092 (by rw [hc1094]; decide)
      · show Goes p.tables e below _ (T1086.setTop (mkF m 30 #[.val (.ref t), .val (.int (5 : Int32)), .val (.int (4 : Int32)), .val (.int c3)] []))
        refine X1089.gets (w 121 rfl) Via.refl (Sta.ext X1089.old.2 SI) (D d30_30) ?_
        intro T1095 X1096
        show Goes p.tables e below _ (T1095.setTop (mkF m 33 #[.val (.ref t), .val (.int (5 : Int32)), .val (.int (4 : Int32)), .val (.int c3)] [(.ref ci)]))
        refine X1096.iloadN (x := c3) (D d30_33) rfl ?_
        refine X1096.callv (y := (⟨"java/lang/CharacterDataLatin1", "isWhitespace", "(I)Z"⟩ : MethodName)) (a := ci) (C := "java/lang/CharacterDataLatin1") [(.int c3)] [] (ctIW l Z a0 hw hEL z0 S0 hz0 ci aA cA SI IC ST TA c3 r3 _ _) F1092 (w 123 rfl) (w 124 rfl) (w 126 rfl) (w 125 rfl) (w 122 rfl) (w 127 rfl) (by decide) (fun _ q => nomatch q) (by decide) 0 (by decide) (by decide) (by decide) (lenOf pd_11 rfl) rfl (Nat.le_of_ble_eq_true rfl) (by rw [hml]; rfl) (D d30_34) ?_
        rintro T1098 h1099 _ X1101 K1102 (⟨rfl, hc1097⟩ | ⟨rfl, hc1097⟩)
        · have F1103 := F1091.keep K1102 nin0
          have F1104 := F1092.keep K1102
          show Goes p.tables e below _ (T1098.setTop (mkF m 37 #[.val (.ref t), .val (.int (5 : Int32)), .val (.int (4 : Int32)), .val (.int c3)] [(.int (1 : Int32))]))
          refine X1101.if_ne 43 (D d30_37) ⟨by decide, by decide⟩ (fun hc1105 => ?_) (fun hc1105 => absurd hc1105 (by decide))
          show Goes p.tables e below _ (T1098.setTop (mkF m 43 #[.val (.ref t), .val (.int (5 : Int32)), .val (.int (4 : Int32)), .val (.int c3)] []))
          exact adv1 _ _  X1101 F1103 F1104 hc1097
        · have F1103 := F1091.keep K1102 nin0
          have F1104 := F1092.keep K1102
          show Goes p.tables e below _ (T1098.setTop (mkF m 37 #[.val (.ref t), .val (.int (5 : Int32)), .val (.int (4 : Int32)), .val (.int c3)] [(.int (0 : Int32))]))
          refine X1101.if_ne 43 (D d30_37) ⟨by decide, by decide⟩ (fun hc1106 => absurd hc1106 (by decide)) (fun hc1106 => ?_)
          refine X1101.goto 49 (D d30_40) ⟨by decide, by decide⟩ ?_
          refine X1101.iloadN (x := (4 : Int32)) (D d30_49) rfl ?_
          exact X1101.retI hret hlk (D d30_50) (by decide) (by decide) (congrArg (fun z => some (Value.int (Int32.ofNat z))) (show 4 = lwN [c0, c1, c2, c3, c4] from by simp [lwN, hw4, hc1097]))
  intro T1081 h1082  X1083 F1084 F1085 hw3
  refine X1083.iinc #[.val (.ref t), .val (.int (5 : Int32)), .val (.int (3 : Int32)), .val (.int c3)] (D d30_43) rfl rfl ?_
  refine X1083.goto 5 (D d30_46) ⟨by decide, by decide⟩ ?_
  refine X1083.iconst (x := (0 : Int32)) (D d30_5) rfl ?_
  refine X1083.iloadN (x := (3 : Int32)) (D d30_6) rfl ?_
  refine X1083.icmp_ge 49 (D d30_7) ⟨by decide, by decide⟩ (fun hc1107 => absurd hc1107 (by decide)) (fun hc1107 => ?_)
  refine X1083.aloadN (x := (.ref t)) (D d30_10) rfl rfl ?_
  refine X1083.iloadN (x := (3 : Int32)) (D d30_11) rfl ?_
  refine X1083.iconst (x := (1 : Int32)) (D d30_12) rfl ?_
  refine X1083.isub (D d30_13) ?_
  show Goes p.tables e below _ (T1081.setTop (mkF m 14 #[.val (.ref t), .val (.int (5 : Int32)), .val (.int (3 : Int32)), .val (.int c3)] [(.int (2 : Int32)), (.ref t)]))
  show Goes p.tables e below _ (T1081.setTop (mkF m 14 #[.val (.ref t), .val (.int (5 : Int32)), .val (.int (3 : Int32)), .val (.int c3)] [(.int (2 : Int32)), (.ref t)]))
  suffices adv2 : ∀ (T1108 : State) (h1109 : Heap), Wd p l e ({ frames := 3, cells := 0, slots := 0, locals := 60 } : Room) sS m #[(.ref t)] below meth c Z a0 consts_1 ((⟨"java/lang/StringLatin1", "lastIndexOfNonWhitespace", "([B)I"⟩ : MethodName)).cls n0 [] [] T1108 h1109 0 0 → Arv Z h1109 t kt .byte (5 : Int32) [(.int (StrChars.lo8 c0)), (.int (StrChars.lo8 c1)), (.int (StrChars.lo8 c2)), (.int (StrChars.lo8 c3)), (.int (StrChars.lo8 c4))] (.int 0) → Exa Z h1109 ci "java/lang/CharacterDataLatin1" → (wsP c2) → Goes p.tables e below (Endq Z consts_1 sS n0 [] ({ frames := 3, cells := 0, slots := 0, locals := 60 } : Room) (fun v _ => v = some (.int (Int32.ofNat (lwN [c0, c1, c2, c3, c4]))))) (T1108.setTop (mkF m 43 #[.val (.ref t), .val (.int (5 : Int32)), .val (.int (3 : Int32)), .val (.int c2)] [])) by
    refine X1083.calls [(.ref t), (.int (2 : Int32))] [] (ctGC l Z a0 hw hEL z0 S0 hz0 t kt [c0, c1, c2, c3, c4] 2 _ _ F1084 (hpS r0 (hpS r1 (hpS r2 (hpS r3 (hpS r4 hp0))))) (Nat.le_of_ble_eq_true rfl) (Nat.le_of_ble_eq_true rfl)) (w 118 rfl) (w 119 rfl) (w 61 rfl) (w 120 rfl) (by decide) (fun _ q => nomatch q) (by decide) 0 (by decide) (by decide) (by decide) (lenOf pd_14 rfl) rfl (Nat.le_of_ble_eq_true rfl) (by rw [hml]; rfl) (D d30_14) ?_
    rintro T1113 h1114 _ X1116 K1117 rfl
    have F1118 := F1084.keep K1117 nin0
    have F1119 := F1085.keep K1117
    show Goes p.tables e below _ (T1113.setTop (mkF m 17 #[.val (.ref t), .val (.int (5 : Int32)), .val (.int (3 : Int32)), .val (.int c3)] [(.int c2)]))
    refine X1116.istoreN #[.val (.ref t), .val (.int (5 : Int32)), .val (.int (3 : Int32)), .val (.int c2)] (D d30_17) rfl ?_
    refine X1116.iloadN (x := c2) (D d30_18) rfl ?_
    refine X1116.bipush (x := (32 : Int32)) (D d30_19) rfl ?_
    refine X1116.icmp_eq 43 (D d30_21) ⟨by decide, by decide⟩ (fun hc1120 => ?_) (fun hc1120 => ?_)
    · show Goes p.tables e below _ (T1113.setTop (mkF m 43 #[.val (.ref t), .val (.int (5 : Int32)), .val (.int (3 : Int32)), .val (.int c2)] []))
      show Goes p.tables e below _ (T1113.setTop (mkF m 43 #[.val (.ref t), .val (.int (5 : Int32)), .val (.int (3 : Int32)), .val (.int c2)] []))
      exact adv2 _ _  X1116 F1118 F1119 (Or.inl hc1120)
    · show Goes p.tables e below _ (T1113.setTop (mkF m 24 #[.val (.ref t), .val (.int (5 : Int32)), .val (.int (3 : Int32)), .val (.int c2)] []))
      refine X1116.iloadN (x := c2) (D d30_24) rfl ?_
      refine X1116.bipush (x := (9 : Int32)) (D d30_25) rfl ?_
      refine X1116.icmp_eq 43 (D d30_27) ⟨by decide, by decide⟩ (fun hc1121 => ?_) (fun hc1121 => ?_)
      · show Goes p.tables e below _ (T1113.setTop (mkF m 43 #[.val (.ref t), .val (.int (5 : Int32)), .val (.int (3 : Int32)), .val (.int c2)] []))
        show Goes p.tables e below _ (T1113.setTop (mkF m 43 #[.val (.ref t), .val (.int (5 : Int32)), .val (.int (3 : Int32)), .val (.int c2)] []))
        exact adv2 _ _  X1116 F1118 F1119 (by rw [hc1121]; decide)
      · show Goes p.tables e below _ (T1113.setTop (mkF m 30 #[.val (.ref t), .val (.int (5 : Int32)), .val (.int (3 : Int32)), .val (.int c2)] []))
        refine X1116.gets (w 121 rfl) Via.refl (Sta.ext X1116.old.2 SI) (D d30_30) ?_
        intro T1122 X1123
        show Goes p.tables e below _ (T1122.setTop (mkF m 33 #[.val (.ref t), .val (.int (5 : Int32)), .val (.int (3 : Int32)), .val (.int c2)] [(.ref ci)]))
        refine X1123.iloadN (x := c2) (D d30_33) rfl ?_
        refine X1123.callv (y := (⟨"java/lang/CharacterDataLatin1", "isWhitespace", "(I)Z"⟩ : MethodName)) (a := ci) (C := "java/lang/CharacterDataLatin1") [(.int c2)] [] (ctIW l Z a0 hw hEL z0 S0 hz0 ci aA cA SI IC ST TA c2 r2 _ _) F1119 (w 123 rfl) (w 124 rfl) (w 126 rfl) (w 125 rfl) (w 122 rfl) (w 127 rfl) (by decide) (fun _ q => nomatch q) (by decide) 0 (by decide) (by decide) (by decide) (lenOf pd_11 rfl) rfl (Nat.le_of_ble_eq_true rfl) (by rw [hml]; rfl) (D d30_34) ?_
        rintro T1125 h1126 _ X1128 K1129 (⟨rfl, hc1124⟩ | ⟨rfl, hc1124⟩)
        · have F1130 := F1118.keep K1129 nin0
          have F1131 := F1119.keep K1129
          show Goes p.tables e below _ (T1125.setTop (mkF m 37 #[.val (.ref t), .val (.int (5 : Int32)), .val (.int (3 : Int32)), .val (.int c2)] [(.int (1 : Int32))]))
          refine X1128.if_ne 43 (D d30_37) ⟨by decide, by decide⟩ (fun hc1132 => ?_) (fun hc1132 => absurd hc1132 (by decide))
          show Goes p.tables e below _ (T1125.setTop (mkF m 43 #[.val (.ref t), .val (.int (5 : Int32)), .val (.int (3 : Int32)), .val (.int c2)] []))
          exact adv2 _ _  X1128 F1130 F1131 hc1124
        · have F1130 := F1118.keep K1129 nin0
          have F1131 := F1119.keep K1129
          show Goes p.tables e below _ (T1125.setTop (mkF m 37 #[.val (.ref t), .val (.int (5 : Int32)), .val (.int (3 : Int32)), .val (.int c2)] [(.int (0 : Int32))]))
          refine X1128.if_ne 43 (D d30_37) ⟨by decide, by decide⟩ (fun hc1133 => absurd hc1133 (by decide)) (fun hc1133 => ?_)
          refine X1128.goto 49 (D d30_40) ⟨by decide, by decide⟩ ?_
          refine X1128.iloadN (x := (3 : Int32)) (D d30_49) rfl ?_
          exact X1128.retI hret hlk (D d30_50) (by decide) (by decide) (congrArg (fun z => some (Value.int (Int32.ofNat z))) (show 3 = lwN [c0, c1, c2, c3, c4] from by simp [lwN, hw4, hw3, hc1124]))
  intro T1108 h1109  X1110 F1111 F1112 hw2
  refine X1110.iinc #[.val (.ref t), .val (.int (5 : Int32)), .val (.int (2 : Int32)), .val (.int c2)] (D d30_43) rfl rfl ?_
  refine X1110.goto 5 (D d30_46) ⟨by decide, by decide⟩ ?_
  refine X1110.iconst (x := (0 : Int32)) (D d30_5) rfl ?_
  refine X1110.iloadN (x := (2 : Int32)) (D d30_6) rfl ?_
  refine X1110.icmp_ge 49 (D d30_7) ⟨by decide, by decide⟩ (fun hc1134 => absurd hc1134 (by decide)) (fun hc1134 => ?_)
  refine X1110.aloadN (x := (.ref t)) (D d30_10) rfl rfl ?_
  refine X1110.iloadN (x := (2 : Int32)) (D d30_11) rfl ?_
  refine X1110.iconst (x := (1 : Int32)) (D d30_12) rfl ?_
  refine X1110.isub (D d30_13) ?_
  show Goes p.tables e below _ (T1108.setTop (mkF m 14 #[.val (.ref t), .val (.int (5 : Int32)), .val (.int (2 : Int32)), .val (.int c2)] [(.int (1 : Int32)), (.ref t)]))
  show Goes p.tables e below _ (T1108.setTop (mkF m 14 #[.val (.ref t), .val (.int (5 : Int32)), .val (.int (2 : Int32)), .val (.int c2)] [(.int (1 : Int32)), (.ref t)]))
  suffices adv3 : ∀ (T1135 : State) (h1136 : Heap), Wd p l e ({ frames := 3, cells := 0, slots := 0, locals := 60 } : Room) sS m #[(.ref t)] below meth c Z a0 consts_1 ((⟨"java/lang/StringLatin1", "lastIndexOfNonWhitespace", "([B)I"⟩ : MethodName)).cls n0 [] [] T1135 h1136 0 0 → Arv Z h1136 t kt .byte (5 : Int32) [(.int (StrChars.lo8 c0)), (.int (StrChars.lo8 c1)), (.int (StrChars.lo8 c2)), (.int (StrChars.lo8 c3)), (.int (StrChars.lo8 c4))] (.int 0) → Exa Z h1136 ci "java/lang/CharacterDataLatin1" → (wsP c1) → Goes p.tables e below (Endq Z consts_1 sS n0 [] ({ frames := 3, cells := 0, slots := 0, locals := 60 } : Room) (fun v _ => v = some (.int (Int32.ofNat (lwN [c0, c1, c2, c3, c4]))))) (T1135.setTop (mkF m 43 #[.val (.ref t), .val (.int (5 : Int32)), .val (.int (2 : Int32)), .val (.int c1)] [])) by
    refine X1110.calls [(.ref t), (.int (1 : Int32))] [] (ctGC l Z a0 hw hEL z0 S0 hz0 t kt [c0, c1, c2, c3, c4] 1 _ _ F1111 (hpS r0 (hpS r1 (hpS r2 (hpS r3 (hpS r4 hp0))))) (Nat.le_of_ble_eq_true rfl) (Nat.le_of_ble_eq_true rfl)) (w 118 rfl) (w 119 rfl) (w 61 rfl) (w 120 rfl) (by decide) (fun _ q => nomatch q) (by decide) 0 (by decide) (by decide) (by decide) (lenOf pd_14 rfl) rfl (Nat.le_of_ble_eq_true rfl) (by rw [hml]; rfl) (D d30_14) ?_
    rintro T1140 h1141 _ X1143 K1144 rfl
    have F1145 := F1111.keep K1144 nin0
    have F1146 := F1112.keep K1144
    show Goes p.tables e below _ (T1140.setTop (mkF m 17 #[.val (.ref t), .val (.int (5 : Int32)), .val (.int (2 : Int32)), .val (.int c2)] [(.int c1)]))
    refine X1143.istoreN #[.val (.ref t), .val (.int (5 : Int32)), .val (.int (2 : Int32)), .val (.int c1)] (D d30_17) rfl ?_
    refine X1143.iloadN (x := c1) (D d30_18) rfl ?_
    refine X1143.bipush (x := (32 : Int32)) (D d30_19) rfl ?_
    refine X1143.icmp_eq 43 (D d30_21) ⟨by decide, by decide⟩ (fun hc1147 => ?_) (fun hc1147 => ?_)
    · show Goes p.tables e below _ (T1140.setTop (mkF m 43 #[.val (.ref t), .val (.int (5 : Int32)), .val (.int (2 : Int32)), .val (.int c1)] []))
      show Goes p.tables e below _ (T1140.setTop (mkF m 43 #[.val (.ref t), .val (.int (5 : Int32)), .val (.int (2 : Int32)), .val (.int c1)] []))
      exact adv3 _ _  X1143 F1145 F1146 (Or.inl hc1147)
    · show Goes p.tables e below _ (T1140.setTop (mkF m 24 #[.val (.ref t), .val (.int (5 : Int32)), .val (.int (2 : Int32)), .val (.int c1)] []))
      refine X1143.iloadN (x := c1) (D d30_24) rfl ?_
      refine X1143.bipush (x := (9 : Int32)) (D d30_25) rfl ?_
      refine X1143.icmp_eq 43 (D d30_27) ⟨by decide, by decide⟩ (fun hc1148 => ?_) (fun hc1148 => ?_)
      · show Goes p.tables e below _ (T1140.setTop (mkF m 43 #[.val (.ref t), .val (.int (5 : Int32)), .val (.int (2 : Int32)), .val (.int c1)] []))
        show Goes p.tables e below _ (T1140.setTop (mkF m 43 #[.val (.ref t), .val (.int (5 : Int32)), .val (.int (2 : Int32)), .val (.int c1)] []))
        exact adv3 _ _  X1143 F1145 F1146 (by rw [hc1148]; decide)
      · show Goes p.tables e below _ (T1140.setTop (mkF m 30 #[.val (.ref t), .val (.int (5 : Int32)), .val (.int (2 : Int32)), .val (.int c1)] []))
        refine X1143.gets (w 121 rfl) Via.refl (Sta.ext X1143.old.2 SI) (D d30_30) ?_
        intro T1149 X1150
        show Goes p.tables e below _ (T1149.setTop (mkF m 33 #[.val (.ref t), .val (.int (5 : Int32)), .val (.int (2 : Int32)), .val (.int c1)] [(.ref ci)]))
        refine X1150.iloadN (x := c1) (D d30_33) rfl ?_
        refine X1150.callv (y := (⟨"java/lang/CharacterDataLatin1", "isWhitespace", "(I)Z"⟩ : MethodName)) (a := ci) (C := "java/lang/CharacterDataLatin1") [(.int c1)] [] (ctIW l Z a0 hw hEL z0 S0 hz0 ci aA cA SI IC ST TA c1 r1 _ _) F1146 (w 123 rfl) (w 124 rfl) (w 126 rfl) (w 125 rfl) (w 122 rfl) (w 127 rfl) (by decide) (fun _ q => nomatch q) (by decide) 0 (by decide) (by decide) (by decide) (lenOf pd_11 rfl) rfl (Nat.le_of_ble_eq_true rfl) (by rw [hml]; rfl) (D d30_34) ?_
        rintro T1152 h1153 _ X1155 K1156 (⟨rfl, hc1151⟩ | ⟨rfl, hc1151⟩)
        · have F1157 := F1145.keep K1156 nin0
          have F1158 := F1146.keep K1156
          show Goes p.tables e below _ (T1152.setTop (mkF m 37 #[.val (.ref t), .val (.int (5 : Int32)), .val (.int (2 : Int32)), .val (.int c1)] [(.int (1 : Int32))]))
          refine X1155.if_ne 43 (D d30_37) ⟨by decide, by decide⟩ (fun hc1159 => ?_) (fun hc1159 => absurd hc1159 (by decide))
          show Goes p.tables e below _ (T1152.setTop (mkF m 43 #[.val (.ref t), .val (.int (5 : Int32)), .val (.int (2 : Int32)), .val (.int c1)] []))
          exact adv3 _ _  X1155 F1157 F1158 hc1151
        · have F1157 := F1145.keep K1156 nin0
          have F1158 := F1146.keep K1156
          show Goes p.tables e below _ (T1152.setTop (mkF m 37 #[.val (.ref t), .val (.int (5 : Int32)), .val (.int (2 : Int32)), .val (.int c1)] [(.int (0 : Int32))]))
          refine X1155.if_ne 43 (D d30_37) ⟨by decide, by decide⟩ (fun hc1160 => absurd hc1160 (by decide)) (fun hc1160 => ?_)
          refine X1155.goto 49 (D d30_40) ⟨by decide, by decide⟩ ?_
          refine X1155.iloadN (x := (2 : Int32)) (D d30_49) rfl ?_
          exact X1155.retI hret hlk (D d30_50) (by decide) (by decide) (congrArg (fun z => some (Value.int (Int32.ofNat z))) (show 2 = lwN [c0, c1, c2, c3, c4] from by simp [lwN, hw4, hw3, hw2, hc1151]))
  intro T1135 h1136  X1137 F1138 F1139 hw1
  refine X1137.iinc #[.val (.ref t), .val (.int (5 : Int32)), .val (.int (1 : Int32)), .val (.int c1)] (D d30_43) rfl rfl ?_
  refine X1137.goto 5 (D d30_46) ⟨by decide, by decide⟩ ?_
  refine X1137.iconst (x := (0 : Int32)) (D d30_5) rfl ?_
  refine X1137.iloadN (x := (1 : Int32)) (D d30_6) rfl ?_
  refine X1137.icmp_ge 49 (D d30_7) ⟨by decide, by decide⟩ (fun hc1161 => absurd hc1161 (by decide)) (fun hc1161 => ?_)
  refine X1137.aloadN (x := (.ref t)) (D d30_10) rfl rfl ?_
  refine X1137.iloadN (x := (1 : Int32)) (D d30_11) rfl ?_
  refine X1137.iconst (x := (1 : Int32)) (D d30_12) rfl ?_
  refine X1137.isub (D d30_13) ?_
  show Goes p.tables e below _ (T1135.setTop (mkF m 14 #[.val (.ref t), .val (.int (5 : Int32)), .val (.int (1 : Int32)), .val (.int c1)] [(.int (0 : Int32)), (.ref t)]))
  show Goes p.tables e below _ (T1135.setTop (mkF m 14 #[.val (.ref t), .val (.int (5 : Int32)), .val (.int (1 : Int32)), .val (.int c1)] [(.int (0 : Int32)), (.ref t)]))
  suffices adv4 : ∀ (T1162 : State) (h1163 : Heap), Wd p l e ({ frames := 3, cells := 0, slots := 0, locals := 60 } : Room) sS m #[(.ref t)] below meth c Z a0 consts_1 ((⟨"java/lang/StringLatin1", "lastIndexOfNonWhitespace", "([B)I"⟩ : MethodName)).cls n0 [] [] T1162 h1163 0 0 → Arv Z h1163 t kt .byte (5 : Int32) [(.int (StrChars.lo8 c0)), (.int (StrChars.lo8 c1)), (.int (StrChars.lo8 c2)), (.int (StrChars.lo8 c3)), (.int (StrChars.lo8 c4))] (.int 0) → Exa Z h1163 ci "java/lang/CharacterDataLatin1" → (wsP c0) → Goes p.tables e below (Endq Z consts_1 sS n0 [] ({ frames := 3, cells := 0, slots := 0, locals := 60 } : Room) (fun v _ => v = some (.int (Int32.ofNat (lwN [c0, c1, c2, c3, c4]))))) (T1162.setTop (mkF m 43 #[.val (.ref t), .val (.int (5 : Int32)), .val (.int (1 : Int32)), .val (.int c0)] [])) by
    refine X1137.calls [(.ref t), (.int (0 : Int32))] [] (ctGC l Z a0 hw hEL z0 S0 hz0 t kt [c0, c1, c2, c3, c4] 0 _ _ F1138 (hpS r0 (hpS r1 (hpS r2 (hpS r3 (hpS r4 hp0))))) (Nat.le_of_ble_eq_true rfl) (Nat.le_of_ble_eq_true rfl)) (w 118 rfl) (w 119 rfl) (w 61 rfl) (w 120 rfl) (by decide) (fun _ q => nomatch q) (by decide) 0 (by decide) (by decide) (by decide) (lenOf pd_14 rfl) rfl (Nat.le_of_ble_eq_true rfl) (by rw [hml]; rfl) (D d30_14) ?_
    rintro T1167 h1168 _ X1170 K1171 rfl
    have F1172 := F1138.keep K1171 nin0
    have F1173 := F1139.keep K1171
    show Goes p.tables e below _ (T1167.setTop (mkF m 17 #[.val (.ref t), .val (.int (5 : Int32)), .val (.int (1 : Int32)), .val (.int c1)] [(.int c0)]))
    refine X1170.istoreN #[.val (.ref t), .val (.int (5 : Int32)), .val (.int (1 : Int32)), .val (.int c0)] (D d30_17) rfl ?_
    refine X1170.iloadN (x := c0) (D d30_18) rfl ?_
    refine X1170.bipush (x := (32 : Int32)) (D d30_19) rfl ?_
    refine X1170.icmp_eq 43 (D d30_21) ⟨by decide, by decide⟩ (fun hc1174 => ?_) (fun hc1174 => ?_)
    · show Goes p.tables e below _ (T1167.setTop (mkF m 43 #[.val (.ref t), .val (.int (5 : Int32)), .val (.int (1 : Int32)), .val (.int c0)] []))
      show Goes p.tables e below _ (T1167.setTop (mkF m 43 #[.val (.ref t), .val (.int (5 : Int32)), .val (.int (1 : Int32)), .val (.int c0)] []))
      exact adv4 _ _  X1170 F1172 F1173 (Or.inl hc1174)
    · show Goes p.tables e below _ (T1167.setTop (mkF m 24 #[.val (.ref t), .val (.int (5 : Int32)), .val (.int (1 : Int32)), .val (.int c0)] []))
      refine X1170.iloadN (x := c0) (D d30_24) rfl ?_
      refine X1170.bipush (x := (9 : Int32)) (D d30_25) rfl ?_
      refine X1170.icmp_eq 43 (D d30_27) ⟨by decide, by decide⟩ (fun hc1175 => ?_) (fun hc1175 => ?_)
      · show Goes p.tables e below _ (T1167.setTop (mkF m 43 #[.val (.ref t), .val (.int (5 : Int32)), .val (.int (1 : Int32)), .val (.int c0)] []))
        show Goes p.tables e below _ (T1167.setTop (mkF m 43 #[.val (.ref t), .val (.int (5 : Int32)), .val (.int (1 : Int32)), .val (.int c0)] []))
        exact adv4 _ _  X1170 F1172 F1173 (by rw [hc1175]; decide)
      · show Goes p.tables e below _ (T1167.setTop (mkF m 30 #[.val (.ref t), .val (.int (5 : Int32)), .val (.int (1 : Int32)), .val (.int c0)] []))
        refine X1170.gets (w 121 rfl) Via.refl (Sta.ext X1170.old.2 SI) (D d30_30) ?_
        intro T1176 X1177
        show Goes p.tables e below _ (T1176.setTop (mkF m 33 #[.val (.ref t), .val (.int (5 : Int32)), .val (.int (1 : Int32)), .val (.int c0)] [(.ref ci)]))
        refine X1177.iloadN (x := c0) (D d30_33) rfl ?_
        refine X1177.callv (y := (⟨"java/lang/CharacterDataLatin1", "isWhitespace", "(I)Z"⟩ : MethodName)) (a := ci) (C := "java/lang/CharacterDataLatin1") [(.int c0)] [] (ctIW l Z a0 hw hEL z0 S0 hz0 ci aA cA SI IC ST TA c0 r0 _ _) F1173 (w 123 rfl) (w 124 rfl) (w 126 rfl) (w 125 rfl) (w 122 rfl) (w 127 rfl) (by decide) (fun _ q => nomatch q) (by decide) 0 (by decide) (by decide) (by decide) (lenOf pd_11 rfl) rfl (Nat.le_of_ble_eq_true rfl) (by rw [hml]; rfl) (D d30_34) ?_
        rintro T1179 h1180 _ X1182 K1183 (⟨rfl, hc1178⟩ | ⟨rfl, hc1178⟩)
        · have F1184 := F1172.keep K1183 nin0
          have F1185 := F1173.keep K1183
          show Goes p.tables e below _ (T1179.setTop (mkF m 37 #[.val (.ref t), .val (.int (5 : Int32)), .val (.int (1 : Int32)), .val (.int c0)] [(.int (1 : Int32))]))
          refine X1182.if_ne 43 (D d30_37) ⟨by decide, by decide⟩ (fun hc1186 => ?_) (fun hc1186 => absurd hc1186 (by decide))
          show Goes p.tables e below _ (T1179.setTop (mkF m 43 #[.val (.ref t), .val (.int (5 : Int32)), .val (.int (1 : Int32)), .val (.int c0)] []))
          exact adv4 _ _  X1182 F1184 F1185 hc1178
        · have F1184 := F1172.keep K1183 nin0
          have F1185 := F1173.keep K1183
          show Goes p.tables e below _ (T1179.setTop (mkF m 37 #[.val (.ref t), .val (.int (5 : Int32)), .val (.int (1 : Int32)), .val (.int c0)] [(.int (0 : Int32))]))
          refine X1182.if_ne 43 (D d30_37) ⟨by decide, by decide⟩ (fun hc1187 => absurd hc1187 (by decide)) (fun hc1187 => ?_)
          refine X1182.goto 49 (D d30_40) ⟨by decide, by decide⟩ ?_
          refine X1182.iloadN (x := (1 : Int32)) (D d30_49) rfl ?_
          exact X1182.retI hret hlk (D d30_50) (by decide) (by decide) (congrArg (fun z => some (Value.int (Int32.ofNat z))) (show 1 = lwN [c0, c1, c2, c3, c4] from by simp [lwN, hw4, hw3, hw2, hw1, hc1178]))
  intro T1162 h1163  X1164 F1165 F1166 hw0
  refine X1164.iinc #[.val (.ref t), .val (.int (5 : Int32)), .val (.int (0 : Int32)), .val (.int c0)] (D d30_43) rfl rfl ?_
  refine X1164.goto 5 (D d30_46) ⟨by decide, by decide⟩ ?_
  refine X1164.iconst (x := (0 : Int32)) (D d30_5) rfl ?_
  refine X1164.iloadN (x := (0 : Int32)) (D d30_6) rfl ?_
  refine X1164.icmp_ge 49 (D d30_7) ⟨by decide, by decide⟩ (fun hc1188 => ?_) (fun hc1188 => absurd hc1188 (by decide))
  refine X1164.iloadN (x := (0 : Int32)) (D d30_49) rfl ?_
  exact X1164.retI hret hlk (D d30_50) (by decide) (by decide) (congrArg (fun z => some (Value.int (Int32.ofNat z))) (show 0 = lwN [c0, c1, c2, c3, c4] from by simp [lwN, hw4, hw3, hw2, hw1, hw0]))
theorem ctNW (l : Launch) (Z : State) (a0 : Array Value) (hw : ∀ d ∈ tables_1, d.before a0 Z = true) (hEL : EW Z a0 consts_1) (z0 : Int32) (S0 : Sta Z Z.heap "java/lang/String" "COMPACT_STRINGS" "Z" (.int z0)) (hz0 : ¬ z0 = 0) (ci aA : Addr) (cA : Cell) (SI : Sta Z Z.heap "java/lang/CharacterDataLatin1" "instance" "Ljava/lang/CharacterDataLatin1;" (.ref ci)) (IC : Exa Z Z.heap ci "java/lang/CharacterDataLatin1") (ST : Sta Z Z.heap "java/lang/CharacterDataLatin1" "A" "[I" (.ref aA)) (TA : TabW Z aA cA) (t : Addr) (kt : ClassId) (cs : List Int32) (h0 : Heap) (n0 : Nat) (AT : Arv Z h0 t kt .byte (Int32.ofNat cs.length) ((cs.map StrChars.lo8).map Value.int) (.int 0)) (hp : ∀ c ∈ cs, Rb c) (hl : cs.length ≤ 5) (h1 : True) :
    Ct l Z consts_1 [] (⟨"java/lang/StringLatin1", "indexOfNonWhitespace", "([B)I"⟩ : MethodName) jdk_43_method_37_code 4 (some .int) ({ frames := 3, cells := 0, slots := 0, locals := 60 } : Room) #[(.ref t)] h0 n0 [] (fun v _ => v = some (.int (Int32.ofNat (nwN cs)))) := by
  match cs, AT, hp, hl, h1 with
  | [], AT, hp, _, _ => exact ctNW_0 l Z a0 hw hEL z0 S0 hz0 ci aA cA SI IC ST TA t kt  h0 n0 AT 
  | [c0], AT, hp, _, _ => exact ctNW_1 l Z a0 hw hEL z0 S0 hz0 ci aA cA SI IC ST TA t kt c0 h0 n0 AT (hp c0 (by simp))
  | [c0, c1], AT, hp, _, _ => exact ctNW_2 l Z a0 hw hEL z0 S0 hz0 ci aA cA SI IC ST TA t kt c0 c1 h0 n0 AT (hp c0 (by simp)) (hp c1 (by simp))
  | [c0, c1, c2], AT, hp, _, _ => exact ctNW_3 l Z a0 hw hEL z0 S0 hz0 ci aA cA SI IC ST TA t kt c0 c1 c2 h0 n0 AT (hp c0 (by simp)) (hp c1 (by simp)) (hp c2 (by simp))
  | [c0, c1, c2, c3], AT, hp, _, _ => exact ctNW_4 l Z a0 hw hEL z0 S0 hz0 ci aA cA SI IC ST TA t kt c0 c1 c2 c3 h0 n0 AT (hp c0 (by simp)) (hp c1 (by simp)) (hp c2 (by simp)) (hp c3 (by simp))
  | [c0, c1, c2, c3, c4], AT, hp, _, _ => exact ctNW_5 l Z a0 hw hEL z0 S0 hz0 ci aA cA SI IC ST TA t kt c0 c1 c2 c3 c4 h0 n0 AT (hp c0 (by simp)) (hp c1 (by simp)) (hp c2 (by simp)) (hp c3 (by simp)) (hp c4 (by simp))
  | _ :: _ :: _ :: _ :: _ :: _ :: _, _, _, hl, _ => simp at hl
theorem ctLW (l : Launch) (Z : State) (a0 : Array Value) (hw : ∀ d ∈ tables_1, d.before a0 Z = true) (hEL : EW Z a0 consts_1) (z0 : Int32) (S0 : Sta Z Z.heap "java/lang/String" "COMPACT_STRINGS" "Z" (.int z0)) (hz0 : ¬ z0 = 0) (ci aA : Addr) (cA : Cell) (SI : Sta Z Z.heap "java/lang/CharacterDataLatin1" "instance" "Ljava/lang/CharacterDataLatin1;" (.ref ci)) (IC : Exa Z Z.heap ci "java/lang/CharacterDataLatin1") (ST : Sta Z Z.heap "java/lang/CharacterDataLatin1" "A" "[I" (.ref aA)) (TA : TabW Z aA cA) (t : Addr) (kt : ClassId) (cs : List Int32) (h0 : Heap) (n0 : Nat) (AT : Arv Z h0 t kt .byte (Int32.ofNat cs.length) ((cs.map StrChars.lo8).map Value.int) (.int 0)) (hp : ∀ c ∈ cs, Rb c) (hl : cs.length ≤ 5) (h1 : 0 < cs.length) :
    Ct l Z consts_1 [] (⟨"java/lang/StringLatin1", "lastIndexOfNonWhitespace", "([B)I"⟩ : MethodName) jdk_43_method_38_code 4 (some .int) ({ frames := 3, cells := 0, slots := 0, locals := 60 } : Room) #[(.ref t)] h0 n0 [] (fun v _ => v = some (.int (Int32.ofNat (lwN cs)))) := by
  match cs, AT, hp, hl, h1 with
  | [c0], AT, hp, _, _ => exact ctLW_1 l Z a0 hw hEL z0 S0 hz0 ci aA cA SI IC ST TA t kt c0 h0 n0 AT (hp c0 (by simp))
  | [c0, c1], AT, hp, _, _ => exact ctLW_2 l Z a0 hw hEL z0 S0 hz0 ci aA cA SI IC ST TA t kt c0 c1 h0 n0 AT (hp c0 (by simp)) (hp c1 (by simp))
  | [c0, c1, c2], AT, hp, _, _ => exact ctLW_3 l Z a0 hw hEL z0 S0 hz0 ci aA cA SI IC ST TA t kt c0 c1 c2 h0 n0 AT (hp c0 (by simp)) (hp c1 (by simp)) (hp c2 (by simp))
  | [c0, c1, c2, c3], AT, hp, _, _ => exact ctLW_4 l Z a0 hw hEL z0 S0 hz0 ci aA cA SI IC ST TA t kt c0 c1 c2 c3 h0 n0 AT (hp c0 (by simp)) (hp c1 (by simp)) (hp c2 (by simp)) (hp c3 (by simp))
  | [c0, c1, c2, c3, c4], AT, hp, _, _ => exact ctLW_5 l Z a0 hw hEL z0 S0 hz0 ci aA cA SI IC ST TA t kt c0 c1 c2 c3 c4 h0 n0 AT (hp c0 (by simp)) (hp c1 (by simp)) (hp c2 (by simp)) (hp c3 (by simp)) (hp c4 (by simp))
  | [], _, _, _, h => simp at h
  | _ :: _ :: _ :: _ :: _ :: _ :: _, _, _, hl, _ => simp at hl
theorem d16_0 : decode jdk_43_method_39_code 0 = .ok (.aload_n 0, 1) := by decide +kernel
theorem d16_1 : decode jdk_43_method_39_code 1 = .ok (.invokestatic 214, 3) := by decide +kernel
theorem d16_4 : decode jdk_43_method_39_code 4 = .ok (.istore_n 1, 1) := by decide +kernel
theorem d16_5 : decode jdk_43_method_39_code 5 = .ok (.iload_n 1, 1) := by decide +kernel
theorem d16_6 : decode jdk_43_method_39_code 6 = .ok (.aload_n 0, 1) := by decide +kernel
theorem d16_7 : decode jdk_43_method_39_code 7 = .ok (.arraylength, 1) := by decide +kernel
theorem d16_8 : decode jdk_43_method_39_code 8 = .ok (.if_icmp .ne 6, 3) := by decide +kernel
theorem d16_11 : decode jdk_43_method_39_code 11 = .ok (.ldc 151, 2) := by decide +kernel
theorem d16_13 : decode jdk_43_method_39_code 13 = .ok (.areturn, 1) := by decide +kernel
theorem d16_14 : decode jdk_43_method_39_code 14 = .ok (.aload_n 0, 1) := by decide +kernel
theorem d16_15 : decode jdk_43_method_39_code 15 = .ok (.invokestatic 217, 3) := by decide +kernel
theorem d16_18 : decode jdk_43_method_39_code 18 = .ok (.istore_n 2, 1) := by decide +kernel
theorem d16_19 : decode jdk_43_method_39_code 19 = .ok (.iload_n 1, 1) := by decide +kernel
theorem d16_20 : decode jdk_43_method_39_code 20 = .ok (.ifCond .gt 9, 3) := by decide +kernel
theorem d16_23 : decode jdk_43_method_39_code 23 = .ok (.iload_n 2, 1) := by decide +kernel
theorem d16_24 : decode jdk_43_method_39_code 24 = .ok (.aload_n 0, 1) := by decide +kernel
theorem d16_25 : decode jdk_43_method_39_code 25 = .ok (.arraylength, 1) := by decide +kernel
theorem d16_26 : decode jdk_43_method_39_code 26 = .ok (.if_icmp .ge 7, 3) := by decide +kernel
theorem d16_29 : decode jdk_43_method_39_code 29 = .ok (.iconst 1, 1) := by decide +kernel
theorem d16_30 : decode jdk_43_method_39_code 30 = .ok (.goto 4, 3) := by decide +kernel
theorem d16_33 : decode jdk_43_method_39_code 33 = .ok (.iconst 0, 1) := by decide +kernel
theorem d16_34 : decode jdk_43_method_39_code 34 = .ok (.istore_n 3, 1) := by decide +kernel
theorem d16_35 : decode jdk_43_method_39_code 35 = .ok (.iload_n 3, 1) := by decide +kernel
theorem d16_36 : decode jdk_43_method_39_code 36 = .ok (.ifCond .eq 14, 3) := by decide +kernel
theorem d16_39 : decode jdk_43_method_39_code 39 = .ok (.aload_n 0, 1) := by decide +kernel
theorem d16_40 : decode jdk_43_method_39_code 40 = .ok (.iload_n 1, 1) := by decide +kernel
theorem d16_41 : decode jdk_43_method_39_code 41 = .ok (.iload_n 2, 1) := by decide +kernel
theorem d16_42 : decode jdk_43_method_39_code 42 = .ok (.iload_n 1, 1) := by decide +kernel
theorem d16_43 : decode jdk_43_method_39_code 43 = .ok (.isub, 1) := by decide +kernel
theorem d16_44 : decode jdk_43_method_39_code 44 = .ok (.invokestatic 210, 3) := by decide +kernel
theorem d16_47 : decode jdk_43_method_39_code 47 = .ok (.goto 4, 3) := by decide +kernel
theorem d16_50 : decode jdk_43_method_39_code 50 = .ok (.aconst_null, 1) := by decide +kernel
theorem d16_51 : decode jdk_43_method_39_code 51 = .ok (.areturn, 1) := by decide +kernel
theorem pd_15 : parseMethodDescriptor "([B)I" = some ⟨[(.array .byte)], (some .int)⟩ := by decide +kernel
set_option maxRecDepth 65536 in
set_option maxHeartbeats 40000000 in
theorem ctS1 (l : Launch) (Z : State) (a0 : Array Value) (hw : ∀ d ∈ tables_1, d.before a0 Z = true) (hEL : EW Z a0 consts_1) (z0 : Int32) (S0 : Sta Z Z.heap "java/lang/String" "COMPACT_STRINGS" "Z" (.int z0)) (hz0 : ¬ z0 = 0) (ci aA : Addr) (cA : Cell) (SI : Sta Z Z.heap "java/lang/CharacterDataLatin1" "instance" "Ljava/lang/CharacterDataLatin1;" (.ref ci)) (IC : Exa Z Z.heap ci "java/lang/CharacterDataLatin1") (ST : Sta Z Z.heap "java/lang/CharacterDataLatin1" "A" "[I" (.ref aA)) (TA : TabW Z aA cA) (t : Addr) (kt : ClassId) (cs : List Int32) (h0 : Heap) (n0 : Nat) (AT : Arv Z h0 t kt .byte (Int32.ofNat cs.length) ((cs.map StrChars.lo8).map Value.int) (.int 0)) (hp : ∀ c ∈ cs, Rb c) (hl : cs.length ≤ 5) :
    Ct l Z consts_1 [] (⟨"java/lang/StringLatin1", "strip", "([B)Ljava/lang/String;"⟩ : MethodName) jdk_43_method_39_code 4 (some (.object "java/lang/String")) ({ frames := 4, cells := 2, slots := 12, locals := 75 } : Room) #[(.ref t)] h0 n0 [] (fun v h => (v = some .null ∧ Sp cs = cs) ∨ ∃ r tr : Addr, v = some (.ref r) ∧ OStr Z h r tr (Sp cs)) := by
  have w : ∀ {d : Jvm.Cond} (i : Nat), tables_1[i]? = some d → d.before a0 Z = true := fun i q => hw _ (List.mem_of_getElem? q)
  refine Ct.enter (plainFor_of_name pn_3) hEL ?_
  intro p e sS m below meth c T0 hby hml0 hret hlk hnm hs0 X0
  have hml : c.maxLocals = 4 := hml0
  have D : ∀ {pc : Nat} {r : Except DecodeError (Instr × Nat)}, decode jdk_43_method_39_code pc = r → decode c.code pc = r := fun q => hb hby q
  rw [show entryFrame m #[(.ref t)] 4 = mkF m 0 #[.val (.ref t), .unset, .unset, .unset] [] from by first | (simp [entryFrame, mkF, argsToLocals, Value.category]; done) | rfl]
  have hb1 := nw_le cs
  have hb2 := lw_le cs
  refine X0.aloadN (x := (.ref t)) (D d16_0) rfl rfl ?_
  refine X0.calls [(.ref t)] [] (ctNW l Z a0 hw hEL z0 S0 hz0 ci aA cA SI IC ST TA t kt cs _ _ AT hp hl trivial) (w 81 rfl) (w 82 rfl) (w 61 rfl) (w 83 rfl) (by decide) (fun _ q => nomatch q) (by decide) 0 (by decide) (by decide) (by decide) (lenOf pd_15 rfl) rfl (Nat.le_of_ble_eq_true rfl) (by rw [hml]; rfl) (D d16_1) ?_
  rintro T1189 h1190 _ X1192 K1193 rfl
  have F1194 := AT.keep K1193 nin0
  show Goes p.tables e below _ (T1189.setTop (mkF m 4 #[.val (.ref t), .unset, .unset, .unset] [(.int (Int32.ofNat (nwN cs)))]))
  refine X1192.istoreN #[.val (.ref t), .val (.int (Int32.ofNat (nwN cs))), .unset, .unset] (D d16_4) rfl ?_
  refine X1192.iloadN (x := (Int32.ofNat (nwN cs))) (D d16_5) rfl ?_
  refine X1192.aloadN (x := (.ref t)) (D d16_6) rfl rfl ?_
  refine X1192.alen F1194 (D d16_7) ?_
  refine X1192.icmp_ne 14 (D d16_8) ⟨by decide, by decide⟩ (fun hc1195 => ?_) (fun hc1195 => ?_)
  · show Goes p.tables e below _ (T1189.setTop (mkF m 14 #[.val (.ref t), .val (.int (Int32.ofNat (nwN cs))), .unset, .unset] []))
    have hlt : nwN cs < cs.length := by have q := mt (o32eq (a := nwN cs) (b := cs.length) (by omega) (by omega)).mpr hc1195; omega
    have hlt2 := nw_lt cs hlt
    refine X1192.aloadN (x := (.ref t)) (D d16_14) rfl rfl ?_
    refine X1192.calls [(.ref t)] [] (ctLW l Z a0 hw hEL z0 S0 hz0 ci aA cA SI IC ST TA t kt cs _ _ F1194 hp hl (by omega)) (w 134 rfl) (w 135 rfl) (w 61 rfl) (w 136 rfl) (by decide) (fun _ q => nomatch q) (by decide) 0 (by decide) (by decide) (by decide) (lenOf pd_15 rfl) rfl (Nat.le_of_ble_eq_true rfl) (by rw [hml]; rfl) (D d16_15) ?_
    rintro T1210 h1211 _ X1213 K1214 rfl
    have F1215 := F1194.keep K1214 nin0
    show Goes p.tables e below _ (T1210.setTop (mkF m 18 #[.val (.ref t), .val (.int (Int32.ofNat (nwN cs))), .unset, .unset] [(.int (Int32.ofNat (lwN cs)))]))
    refine X1213.istoreN #[.val (.ref t), .val (.int (Int32.ofNat (nwN cs))), .val (.int (Int32.ofNat (lwN cs))), .unset] (D d16_18) rfl ?_
    refine X1213.iloadN (x := (Int32.ofNat (nwN cs))) (D d16_19) rfl ?_
    refine X1213.if_gt 29 (D d16_20) ⟨by decide, by decide⟩ (fun hc1216 => ?_) (fun hc1216 => ?_)
    · show Goes p.tables e below _ (T1210.setTop (mkF m 29 #[.val (.ref t), .val (.int (Int32.ofNat (nwN cs))), .val (.int (Int32.ofNat (lwN cs))), .unset] []))
      have hne : ¬ (nwN cs = 0 ∧ lwN cs - nwN cs = cs.length) := by have q := (o32pos (a := nwN cs) (by omega)).mp hc1216; omega
      refine X1213.iconst (x := (1 : Int32)) (D d16_29) rfl ?_
      refine X1213.goto 34 (D d16_30) ⟨by decide, by decide⟩ ?_
      refine X1213.istoreN #[.val (.ref t), .val (.int (Int32.ofNat (nwN cs))), .val (.int (Int32.ofNat (lwN cs))), .val (.int (1 : Int32))] (D d16_34) rfl ?_
      refine X1213.iloadN (x := (1 : Int32)) (D d16_35) rfl ?_
      refine X1213.if_eq 50 (D d16_36) ⟨by decide, by decide⟩ (fun hc1219 => absurd hc1219 (by decide)) (fun hc1219 => ?_)
      refine X1213.aloadN (x := (.ref t)) (D d16_39) rfl rfl ?_
      refine X1213.iloadN (x := (Int32.ofNat (nwN cs))) (D d16_40) rfl ?_
      refine X1213.iloadN (x := (Int32.ofNat (lwN cs))) (D d16_41) rfl ?_
      refine X1213.iloadN (x := (Int32.ofNat (nwN cs))) (D d16_42) rfl ?_
      refine X1213.isub (D d16_43) ?_
      show Goes p.tables e below _ (T1210.setTop (mkF m 44 #[.val (.ref t), .val (.int (Int32.ofNat (nwN cs))), .val (.int (Int32.ofNat (lwN cs))), .val (.int (1 : Int32))] [(.int ((Int32.ofNat (lwN cs)) - (Int32.ofNat (nwN cs)))), (.int (Int32.ofNat (nwN cs))), (.ref t)]))
      rw [← Int32.ofNat_sub _ _ (by omega)]
      show Goes p.tables e below _ (T1210.setTop (mkF m 44 #[.val (.ref t), .val (.int (Int32.ofNat (nwN cs))), .val (.int (Int32.ofNat (lwN cs))), .val (.int (1 : Int32))] [(.int (Int32.ofNat (lwN cs - nwN cs))), (.int (Int32.ofNat (nwN cs))), (.ref t)]))
      refine X1213.calls [(.ref t), (.int (Int32.ofNat (nwN cs))), (.int (Int32.ofNat (lwN cs - nwN cs)))] [] (ctNS l Z a0 hw hEL z0 S0 hz0 t kt _ (Sp cs) (nwN cs) (lwN cs - nwN cs) cs.length _ _ F1215 (slice (by omega)) (by omega) (by omega) (by omega) hne (by omega) sp_len (fun c q => hp c (sp_mem q))) (w 170 rfl) (w 113 rfl) (w 61 rfl) (w 114 rfl) (by decide) (fun _ q => nomatch q) (by decide) 0 (by decide) (by decide) (by decide) (lenOf pd_10 rfl) rfl (Nat.le_of_ble_eq_true rfl) (by rw [hml]; rfl) (D d16_44) ?_
      rintro T1220 h1221 _ X1223 K1224 ⟨r, tr, rfl, O9⟩
      have F1225 := F1215.keep K1224 nin0
      show Goes p.tables e below _ (T1220.setTop (mkF m 47 #[.val (.ref t), .val (.int (Int32.ofNat (nwN cs))), .val (.int (Int32.ofNat (lwN cs))), .val (.int (1 : Int32))] [(.ref r)]))
      refine X1223.goto 51 (D d16_47) ⟨by decide, by decide⟩ ?_
      exact X1223.retA hret rfl rfl hlk (D d16_51) (by decide) (by decide) (Or.inr ⟨r, tr, rfl, O9⟩)
    · show Goes p.tables e below _ (T1210.setTop (mkF m 23 #[.val (.ref t), .val (.int (Int32.ofNat (nwN cs))), .val (.int (Int32.ofNat (lwN cs))), .unset] []))
      refine X1213.iloadN (x := (Int32.ofNat (lwN cs))) (D d16_23) rfl ?_
      refine X1213.aloadN (x := (.ref t)) (D d16_24) rfl rfl ?_
      refine X1213.alen F1215 (D d16_25) ?_
      refine X1213.icmp_ge 33 (D d16_26) ⟨by decide, by decide⟩ (fun hc1217 => ?_) (fun hc1217 => ?_)
      · show Goes p.tables e below _ (T1210.setTop (mkF m 33 #[.val (.ref t), .val (.int (Int32.ofNat (nwN cs))), .val (.int (Int32.ofNat (lwN cs))), .unset] []))
        refine X1213.iconst (x := (0 : Int32)) (D d16_33) rfl ?_
        refine X1213.istoreN #[.val (.ref t), .val (.int (Int32.ofNat (nwN cs))), .val (.int (Int32.ofNat (lwN cs))), .val (.int (0 : Int32))] (D d16_34) rfl ?_
        refine X1213.iloadN (x := (0 : Int32)) (D d16_35) rfl ?_
        refine X1213.if_eq 50 (D d16_36) ⟨by decide, by decide⟩ (fun hc1218 => ?_) (fun hc1218 => absurd hc1218 (by decide))
        refine X1213.anull (D d16_50) ?_
        exact X1213.retA hret rfl rfl hlk (D d16_51) (by decide) (by decide) (Or.inl ⟨rfl, sp_all (by have q := mt (o32pos (a := nwN cs) (by omega)).mpr hc1216; omega) (by have q := mt (o32lt (a := lwN cs) (b := cs.length) (by omega) (by omega)).mpr hc1217; omega)⟩)
      · show Goes p.tables e below _ (T1210.setTop (mkF m 29 #[.val (.ref t), .val (.int (Int32.ofNat (nwN cs))), .val (.int (Int32.ofNat (lwN cs))), .unset] []))
        have hne : ¬ (nwN cs = 0 ∧ lwN cs - nwN cs = cs.length) := by have q := (o32lt (a := lwN cs) (b := cs.length) (by omega) (by omega)).mp hc1217; omega
        refine X1213.iconst (x := (1 : Int32)) (D d16_29) rfl ?_
        refine X1213.goto 34 (D d16_30) ⟨by decide, by decide⟩ ?_
        refine X1213.istoreN #[.val (.ref t), .val (.int (Int32.ofNat (nwN cs))), .val (.int (Int32.ofNat (lwN cs))), .val (.int (1 : Int32))] (D d16_34) rfl ?_
        refine X1213.iloadN (x := (1 : Int32)) (D d16_35) rfl ?_
        refine X1213.if_eq 50 (D d16_36) ⟨by decide, by decide⟩ (fun hc1226 => absurd hc1226 (by decide)) (fun hc1226 => ?_)
        refine X1213.aloadN (x := (.ref t)) (D d16_39) rfl rfl ?_
        refine X1213.iloadN (x := (Int32.ofNat (nwN cs))) (D d16_40) rfl ?_
        refine X1213.iloadN (x := (Int32.ofNat (lwN cs))) (D d16_41) rfl ?_
        refine X1213.iloadN (x := (Int32.ofNat (nwN cs))) (D d16_42) rfl ?_
        refine X1213.isub (D d16_43) ?_
        show Goes p.tables e below _ (T1210.setTop (mkF m 44 #[.val (.ref t), .val (.int (Int32.ofNat (nwN cs))), .val (.int (Int32.ofNat (lwN cs))), .val (.int (1 : Int32))] [(.int ((Int32.ofNat (lwN cs)) - (Int32.ofNat (nwN cs)))), (.int (Int32.ofNat (nwN cs))), (.ref t)]))
        rw [← Int32.ofNat_sub _ _ (by omega)]
        show Goes p.tables e below _ (T1210.setTop (mkF m 44 #[.val (.ref t), .val (.int (Int32.ofNat (nwN cs))), .val (.int (Int32.ofNat (lwN cs))), .val (.int (1 : Int32))] [(.int (Int32.ofNat (lwN cs - nwN cs))), (.int (Int32.ofNat (nwN cs))), (.ref t)]))
        refine X1213.calls [(.ref t), (.int (Int32.ofNat (nwN cs))), (.int (Int32.ofNat (lwN cs - nwN cs)))] [] (ctNS l Z a0 hw hEL z0 S0 hz0 t kt _ (Sp cs) (nwN cs) (lwN cs - nwN cs) cs.length _ _ F1215 (slice (by omega)) (by omega) (by omega) (by omega) hne (by omega) sp_len (fun c q => hp c (sp_mem q))) (w 170 rfl) (w 113 rfl) (w 61 rfl) (w 114 rfl) (by decide) (fun _ q => nomatch q) (by decide) 0 (by decide) (by decide) (by decide) (lenOf pd_10 rfl) rfl (Nat.le_of_ble_eq_true rfl) (by rw [hml]; rfl) (D d16_44) ?_
        rintro T1227 h1228 _ X1230 K1231 ⟨r, tr, rfl, O9⟩
        have F1232 := F1215.keep K1231 nin0
        show Goes p.tables e below _ (T1227.setTop (mkF m 47 #[.val (.ref t), .val (.int (Int32.ofNat (nwN cs))), .val (.int (Int32.ofNat (lwN cs))), .val (.int (1 : Int32))] [(.ref r)]))
        refine X1230.goto 51 (D d16_47) ⟨by decide, by decide⟩ ?_
        exact X1230.retA hret rfl rfl hlk (D d16_51) (by decide) (by decide) (Or.inr ⟨r, tr, rfl, O9⟩)
  · show Goes p.tables e below _ (T1189.setTop (mkF m 11 #[.val (.ref t), .val (.int (Int32.ofNat (nwN cs))), .unset, .unset] []))
    refine X1192.ldcS (w 84 rfl) (fun d q => hw d (hwS d q)) (by decide) (vs := []) (z := (0 : Int32)) ⟨by decide, by decide⟩ (by decide) rfl (D d16_11) 0 (by decide) (by decide) (by decide) (by decide) ?_
    intro T1196 h1197 a1198 b1199 kb1200 X1201 E1202 F1203 F1204 F1205 F1206 ne1207
    have F1208 := F1194.ext E1202
    show Goes p.tables e below _ (T1196.setTop (mkF m 13 #[.val (.ref t), .val (.int (Int32.ofNat (nwN cs))), .unset, .unset] [(.ref a1198)]))
    have O1209 : OStr Z h1197 a1198 b1199 [] := OStr.mk (cs := []) F1203 F1205 F1204 F1206 hp0 (by decide)
    exact X1201.retA hret rfl rfl hlk (D d16_13) (by decide) (by decide) (Or.inr ⟨_, _, rfl, by rw [sp_nil ((o32eq (by omega) (by omega)).mp hc1195)]; exact O1209⟩)
theorem d15_0 : decode jdk_42_method_114_code 0 = .ok (.aload_n 0, 1) := by decide +kernel
theorem d15_1 : decode jdk_42_method_114_code 1 = .ok (.invokevirtual 492, 3) := by decide +kernel
theorem d15_4 : decode jdk_42_method_114_code 4 = .ok (.ifCond .eq 13, 3) := by decide +kernel
theorem d15_7 : decode jdk_42_method_114_code 7 = .ok (.aload_n 0, 1) := by decide +kernel
theorem d15_8 : decode jdk_42_method_114_code 8 = .ok (.getfield 9, 3) := by decide +kernel
theorem d15_11 : decode jdk_42_method_114_code 11 = .ok (.invokestatic 864, 3) := by decide +kernel
theorem d15_14 : decode jdk_42_method_114_code 14 = .ok (.goto 10, 3) := by decide +kernel
theorem d15_17 : decode jdk_42_method_114_code 17 = .ok (.aload_n 0, 1) := by decide +kernel
theorem d15_18 : decode jdk_42_method_114_code 18 = .ok (.getfield 9, 3) := by decide +kernel
theorem d15_21 : decode jdk_42_method_114_code 21 = .ok (.invokestatic 867, 3) := by decide +kernel
theorem d15_24 : decode jdk_42_method_114_code 24 = .ok (.astore_n 1, 1) := by decide +kernel
theorem d15_25 : decode jdk_42_method_114_code 25 = .ok (.aload_n 1, 1) := by decide +kernel
theorem d15_26 : decode jdk_42_method_114_code 26 = .ok (.ifnonnull 7, 3) := by decide +kernel
theorem d15_29 : decode jdk_42_method_114_code 29 = .ok (.aload_n 0, 1) := by decide +kernel
theorem d15_30 : decode jdk_42_method_114_code 30 = .ok (.goto 4, 3) := by decide +kernel
theorem d15_33 : decode jdk_42_method_114_code 33 = .ok (.aload_n 1, 1) := by decide +kernel
theorem d15_34 : decode jdk_42_method_114_code 34 = .ok (.areturn, 1) := by decide +kernel
theorem pd_16 : parseMethodDescriptor "([B)Ljava/lang/String;" = some ⟨[(.array .byte)], (some (.object "java/lang/String"))⟩ := by decide +kernel
set_option maxRecDepth 65536 in
set_option maxHeartbeats 40000000 in
theorem ctS (l : Launch) (Z : State) (a0 : Array Value) (hw : ∀ d ∈ tables_1, d.before a0 Z = true) (hEL : EW Z a0 consts_1) (z0 : Int32) (S0 : Sta Z Z.heap "java/lang/String" "COMPACT_STRINGS" "Z" (.int z0)) (hz0 : ¬ z0 = 0) (ci aA : Addr) (cA : Cell) (SI : Sta Z Z.heap "java/lang/CharacterDataLatin1" "instance" "Ljava/lang/CharacterDataLatin1;" (.ref ci)) (IC : Exa Z Z.heap ci "java/lang/CharacterDataLatin1") (ST : Sta Z Z.heap "java/lang/CharacterDataLatin1" "A" "[I" (.ref aA)) (TA : TabW Z aA cA) (s t : Addr) (cs : List Int32) (h0 : Heap) (n0 : Nat) (OS : OStr Z h0 s t cs) (hl : cs.length ≤ 5) :
    Ct l Z consts_1 [] (⟨"java/lang/String", "strip", "()Ljava/lang/String;"⟩ : MethodName) jdk_42_method_114_code 2 (some (.object "java/lang/String")) ({ frames := 5, cells := 2, slots := 12, locals := 90 } : Room) #[(.ref s)] h0 n0 [] (fun v h => ∃ r tr : Addr, v = some (.ref r) ∧ OStr Z h r tr (Sp cs)) := by
  have w : ∀ {d : Jvm.Cond} (i : Nat), tables_1[i]? = some d → d.before a0 Z = true := fun i q => hw _ (List.mem_of_getElem? q)
  refine Ct.enter (plainFor_of_name pn_1) hEL ?_
  intro p e sS m below meth c T0 hby hml0 hret hlk hnm hs0 X0
  have hml : c.maxLocals = 2 := hml0
  have D : ∀ {pc : Nat} {r : Except DecodeError (Instr × Nat)}, decode jdk_42_method_114_code pc = r → decode c.code pc = r := fun q => hb hby q
  rw [show entryFrame m #[(.ref s)] 2 = mkF m 0 #[.val (.ref s), .unset] [] from by first | (simp [entryFrame, mkF, argsToLocals, Value.category]; done) | rfl]
  obtain ⟨F1233, hp1234, hl1235, kb1236, F1237, F1238, F1239⟩ := id OS
  refine X0.aloadN (x := (.ref s)) (D d15_0) rfl rfl ?_
  refine X0.callv (y := (⟨"java/lang/String", "isLatin1", "()Z"⟩ : MethodName)) (a := s) (C := "java/lang/String") [] [] (ctIsL l Z a0 hw hEL z0 S0 hz0 s _ _ F1238) F1233 (w 43 rfl) (w 44 rfl) (w 46 rfl) (w 45 rfl) (w 7 rfl) (w 47 rfl) (by decide) (fun _ q => nomatch q) (by decide) 0 (by decide) (by decide) (by decide) (lenOf pd_9 rfl) rfl (Nat.le_of_ble_eq_true rfl) (by rw [hml]; rfl) (D d15_1) ?_
  rintro T1240 h1241 _ X1243 K1244 rfl
  have F1245 := OS.keep K1244 nin0 nin0
  have F1246 := F1233.keep K1244
  have F1247 := F1237.keep K1244 nin0
  have F1248 := F1238.keep K1244 nin0
  have F1249 := F1239.keep K1244 nin0
  show Goes p.tables e below _ (T1240.setTop (mkF m 4 #[.val (.ref s), .unset] [(.int (1 : Int32))]))
  refine X1243.if_eq 17 (D d15_4) ⟨by decide, by decide⟩ (fun hc1250 => absurd hc1250 (by decide)) (fun hc1250 => ?_)
  refine X1243.aloadN (x := (.ref s)) (D d15_7) rfl rfl ?_
  refine X1243.getf (w 27 rfl) Via.refl F1247 (D d15_8) ?_
  intro T1251 X1252
  show Goes p.tables e below _ (T1251.setTop (mkF m 11 #[.val (.ref s), .unset] [(.ref t)]))
  refine X1252.calls [(.ref t)] [] (ctS1 l Z a0 hw hEL z0 S0 hz0 ci aA cA SI IC ST TA t _ cs _ _ F1249 hp1234 hl) (w 78 rfl) (w 79 rfl) (w 61 rfl) (w 80 rfl) (by decide) (fun _ q => nomatch q) (by decide) 0 (by decide) (by decide) (by decide) (lenOf pd_16 rfl) rfl (Nat.le_of_ble_eq_true rfl) (by rw [hml]; rfl) (D d15_11) ?_
  rintro T1253 h1254 _ X1256 K1257 (⟨rfl, hS⟩ | ⟨r, tr, rfl, O9⟩)
  · have F1258 := F1245.keep K1257 nin0 nin0
    have F1259 := F1246.keep K1257
    have F1260 := F1247.keep K1257 nin0
    have F1261 := F1248.keep K1257 nin0
    have F1262 := F1249.keep K1257 nin0
    show Goes p.tables e below _ (T1253.setTop (mkF m 14 #[.val (.ref s), .unset] [.null]))
    refine X1256.goto 24 (D d15_14) ⟨by decide, by decide⟩ ?_
    refine X1256.astoreN #[.val (.ref s), .val .null] (D d15_24) rfl rfl ?_
    refine X1256.aloadN (x := .null) (D d15_25) rfl rfl ?_
    refine X1256.ifnonnullN (D d15_26) ?_
    refine X1256.aloadN (x := (.ref s)) (D d15_29) rfl rfl ?_
    refine X1256.goto 34 (D d15_30) ⟨by decide, by decide⟩ ?_
    exact X1256.retA hret rfl rfl hlk (D d15_34) (by decide) (by decide) (⟨s, t, rfl, by rw [hS]; exact F1258⟩)
  · have F1258 := F1245.keep K1257 nin0 nin0
    have F1259 := F1246.keep K1257
    have F1260 := F1247.keep K1257 nin0
    have F1261 := F1248.keep K1257 nin0
    have F1262 := F1249.keep K1257 nin0
    show Goes p.tables e below _ (T1253.setTop (mkF m 14 #[.val (.ref s), .unset] [(.ref r)]))
    refine X1256.goto 24 (D d15_14) ⟨by decide, by decide⟩ ?_
    refine X1256.astoreN #[.val (.ref s), .val (.ref r)] (D d15_24) rfl rfl ?_
    refine X1256.aloadN (x := (.ref r)) (D d15_25) rfl rfl ?_
    refine X1256.ifnonnullR 33 (D d15_26) ⟨by decide, by decide⟩ ?_
    refine X1256.aloadN (x := (.ref r)) (D d15_33) rfl rfl ?_
    exact X1256.retA hret rfl rfl hlk (D d15_34) (by decide) (by decide) (⟨r, tr, rfl, O9⟩)
theorem d5_0 : decode prog_9_method_2_code 0 = .ok (.aload_n 0, 1) := by decide +kernel
theorem d5_1 : decode prog_9_method_2_code 1 = .ok (.ifnonnull 6, 3) := by decide +kernel
theorem d5_4 : decode prog_9_method_2_code 4 = .ok (.ldc 7, 2) := by decide +kernel
theorem d5_6 : decode prog_9_method_2_code 6 = .ok (.areturn, 1) := by decide +kernel
theorem d5_7 : decode prog_9_method_2_code 7 = .ok (.aload_n 0, 1) := by decide +kernel
theorem d5_8 : decode prog_9_method_2_code 8 = .ok (.bipush 10, 2) := by decide +kernel
theorem d5_10 : decode prog_9_method_2_code 10 = .ok (.invokevirtual 9, 3) := by decide +kernel
theorem d5_13 : decode prog_9_method_2_code 13 = .ok (.istore_n 1, 1) := by decide +kernel
theorem d5_14 : decode prog_9_method_2_code 14 = .ok (.iload_n 1, 1) := by decide +kernel
theorem d5_15 : decode prog_9_method_2_code 15 = .ok (.ifCond .ge 7, 3) := by decide +kernel
theorem d5_18 : decode prog_9_method_2_code 18 = .ok (.aload_n 0, 1) := by decide +kernel
theorem d5_19 : decode prog_9_method_2_code 19 = .ok (.goto 9, 3) := by decide +kernel
theorem d5_22 : decode prog_9_method_2_code 22 = .ok (.aload_n 0, 1) := by decide +kernel
theorem d5_23 : decode prog_9_method_2_code 23 = .ok (.iconst 0, 1) := by decide +kernel
theorem d5_24 : decode prog_9_method_2_code 24 = .ok (.iload_n 1, 1) := by decide +kernel
theorem d5_25 : decode prog_9_method_2_code 25 = .ok (.invokevirtual 15, 3) := by decide +kernel
theorem d5_28 : decode prog_9_method_2_code 28 = .ok (.invokevirtual 19, 3) := by decide +kernel
theorem d5_31 : decode prog_9_method_2_code 31 = .ok (.areturn, 1) := by decide +kernel
theorem pn_5 : plainName "com/example/abox/abox/InputException" = true := by first | (simp [plainName, overriddenIn]; done) | decide +kernel
set_option maxRecDepth 65536 in
set_option maxHeartbeats 40000000 in
theorem ctFLn (l : Launch) (Z : State) (a0 : Array Value) (hw : ∀ d ∈ tables_1, d.before a0 Z = true) (hEL : EW Z a0 consts_1) (z0 : Int32) (S0 : Sta Z Z.heap "java/lang/String" "COMPACT_STRINGS" "Z" (.int z0)) (hz0 : ¬ z0 = 0)  (h0 : Heap) (n0 : Nat)  :
    Ct l Z consts_1 [] (⟨"com/example/abox/abox/InputException", "firstLine", "(Ljava/lang/String;)Ljava/lang/String;"⟩ : MethodName) prog_9_method_2_code 2 (some (.object "java/lang/String")) ({ frames := 0, cells := 2, slots := 4, locals := 0 } : Room) #[.null] h0 n0 [] (fun v h => ∃ s t : Addr, v = some (.ref s) ∧ OStr Z h s t []) := by
  have w : ∀ {d : Jvm.Cond} (i : Nat), tables_1[i]? = some d → d.before a0 Z = true := fun i q => hw _ (List.mem_of_getElem? q)
  refine Ct.enter (plainFor_of_name pn_5) hEL ?_
  intro p e sS m below meth c T0 hby hml0 hret hlk hnm hs0 X0
  have hml : c.maxLocals = 2 := hml0
  have D : ∀ {pc : Nat} {r : Except DecodeError (Instr × Nat)}, decode prog_9_method_2_code pc = r → decode c.code pc = r := fun q => hb hby q
  rw [show entryFrame m #[.null] 2 = mkF m 0 #[.val .null, .unset] [] from by first | (simp [entryFrame, mkF, argsToLocals, Value.category]; done) | rfl]
  refine X0.aloadN (x := .null) (D d5_0) rfl rfl ?_
  refine X0.ifnonnullN (D d5_1) ?_
  refine X0.ldcS (w 171 rfl) (fun d q => hw d (hwS d q)) (by decide) (vs := []) (z := (0 : Int32)) ⟨by decide, by decide⟩ (by decide) rfl (D d5_4) 0 (by decide) (by decide) (by decide) (by decide) ?_
  intro T1263 h1264 a1265 b1266 kb1267 X1268 E1269 F1270 F1271 F1272 F1273 ne1274
  show Goes p.tables e below _ (T1263.setTop (mkF m 6 #[.val .null, .unset] [(.ref a1265)]))
  have O1275 : OStr Z h1264 a1265 b1266 [] := OStr.mk (cs := []) F1270 F1272 F1271 F1273 hp0 (by decide)
  exact X1268.retA hret rfl rfl hlk (D d5_6) (by decide) (by decide) (⟨_, _, rfl, O1275⟩)
theorem pd_17 : parseMethodDescriptor "()Ljava/lang/String;" = some ⟨[], (some (.object "java/lang/String"))⟩ := by decide +kernel
theorem pd_18 : parseMethodDescriptor "(II)Ljava/lang/String;" = some ⟨[.int, .int], (some (.object "java/lang/String"))⟩ := by decide +kernel
set_option maxRecDepth 65536 in
set_option maxHeartbeats 40000000 in
theorem ctFL (l : Launch) (Z : State) (a0 : Array Value) (hw : ∀ d ∈ tables_1, d.before a0 Z = true) (hEL : EW Z a0 consts_1) (z0 : Int32) (S0 : Sta Z Z.heap "java/lang/String" "COMPACT_STRINGS" "Z" (.int z0)) (hz0 : ¬ z0 = 0) (fm : Value) (hfm : fm.isRef = true) (SF : Sta Z Z.heap "jdk/internal/util/Preconditions" "SIOOBE_FORMATTER" "Ljava/util/function/BiFunction;" fm) (ci aA : Addr) (cA : Cell) (SI : Sta Z Z.heap "java/lang/CharacterDataLatin1" "instance" "Ljava/lang/CharacterDataLatin1;" (.ref ci)) (IC : Exa Z Z.heap ci "java/lang/CharacterDataLatin1") (ST : Sta Z Z.heap "java/lang/CharacterDataLatin1" "A" "[I" (.ref aA)) (TA : TabW Z aA cA) (s t : Addr) (cs : List Int32) (h0 : Heap) (n0 : Nat) (OS : OStr Z h0 s t cs) (hl : cs.length ≤ 5) :
    Ct l Z consts_1 [] (⟨"com/example/abox/abox/InputException", "firstLine", "(Ljava/lang/String;)Ljava/lang/String;"⟩ : MethodName) prog_9_method_2_code 2 (some (.object "java/lang/String")) ({ frames := 6, cells := 4, slots := 24, locals := 103 } : Room) #[(.ref s)] h0 n0 [] (fun v h => ∃ s t : Addr, v = some (.ref s) ∧ OStr Z h s t (FL cs)) := by
  have w : ∀ {d : Jvm.Cond} (i : Nat), tables_1[i]? = some d → d.before a0 Z = true := fun i q => hw _ (List.mem_of_getElem? q)
  refine Ct.enter (plainFor_of_name pn_5) hEL ?_
  intro p e sS m below meth c T0 hby hml0 hret hlk hnm hs0 X0
  have hml : c.maxLocals = 2 := hml0
  have D : ∀ {pc : Nat} {r : Except DecodeError (Instr × Nat)}, decode prog_9_method_2_code pc = r → decode c.code pc = r := fun q => hb hby q
  rw [show entryFrame m #[(.ref s)] 2 = mkF m 0 #[.val (.ref s), .unset] [] from by first | (simp [entryFrame, mkF, argsToLocals, Value.category]; done) | rfl]
  have hb1 := ix_le cs
  refine X0.aloadN (x := (.ref s)) (D d5_0) rfl rfl ?_
  refine X0.ifnonnullR 7 (D d5_1) ⟨by decide, by decide⟩ ?_
  refine X0.aloadN (x := (.ref s)) (D d5_7) rfl rfl ?_
  refine X0.bipush (x := (10 : Int32)) (D d5_8) rfl ?_
  refine X0.callv (y := (⟨"java/lang/String", "indexOf", "(I)I"⟩ : MethodName)) (a := s) (C := "java/lang/String") [(.int (10 : Int32))] [] (ctI1 l Z a0 hw hEL z0 S0 hz0 s t cs _ _ OS hl) OS.1 (w 33 rfl) (w 34 rfl) (w 36 rfl) (w 35 rfl) (w 7 rfl) (w 37 rfl) (by decide) (fun _ q => nomatch q) (by decide) 0 (by decide) (by decide) (by decide) (lenOf pd_13 rfl) rfl (Nat.le_of_ble_eq_true rfl) (by rw [hml]; rfl) (D d5_10) ?_
  rintro T1276 h1277 _ X1279 K1280 rfl
  have F1281 := OS.keep K1280 nin0 nin0
  show Goes p.tables e below _ (T1276.setTop (mkF m 13 #[.val (.ref s), .unset] [(.int (idx cs))]))
  refine X1279.istoreN #[.val (.ref s), .val (.int (idx cs))] (D d5_13) rfl ?_
  refine X1279.iloadN (x := (idx cs)) (D d5_14) rfl ?_
  refine X1279.if_ge 22 (D d5_15) ⟨by decide, by decide⟩ (fun hc1282 => ?_) (fun hc1282 => ?_)
  · show Goes p.tables e below _ (T1276.setTop (mkF m 22 #[.val (.ref s), .val (.int (idx cs))] []))
    obtain ⟨hx1, hx2⟩ := idx_ge hc1282
    rw [hx2]
    show Goes p.tables e below _ (T1276.setTop (mkF m 22 #[.val (.ref s), .val (.int (Int32.ofNat (ixN cs)))] []))
    show Goes p.tables e below _ (T1276.setTop (mkF m 22 #[.val (.ref s), .val (.int (Int32.ofNat (ixN cs)))] []))
    by_cases hz : ixN cs = 0
    · rw [hz]
      show Goes p.tables e below _ (T1276.setTop (mkF m 22 #[.val (.ref s), .val (.int (0 : Int32))] []))
      refine X1279.aloadN (x := (.ref s)) (D d5_22) rfl rfl ?_
      refine X1279.iconst (x := (0 : Int32)) (D d5_23) rfl ?_
      refine X1279.iloadN (x := (0 : Int32)) (D d5_24) rfl ?_
      refine X1279.callv (y := (⟨"java/lang/String", "substring", "(II)Ljava/lang/String;"⟩ : MethodName)) (a := s) (C := "java/lang/String") [(.int (0 : Int32)), (.int (0 : Int32))] [] (ctSub0 l Z a0 hw hEL z0 S0 hz0 fm hfm SF s t cs _ _ F1281 hl (by omega)) F1281.1 (w 99 rfl) (w 100 rfl) (w 102 rfl) (w 101 rfl) (w 7 rfl) (w 103 rfl) (by decide) (fun _ q => nomatch q) (by decide) 0 (by decide) (by decide) (by decide) (lenOf pd_18 rfl) rfl (Nat.le_of_ble_eq_true rfl) (by rw [hml]; rfl) (D d5_25) ?_
      rintro T1289 h1290 _ X1292 K1293 ⟨r0, t0, rfl, O8⟩
      have F1294 := F1281.keep K1293 nin0 nin0
      show Goes p.tables e below _ (T1289.setTop (mkF m 28 #[.val (.ref s), .val (.int (0 : Int32))] [(.ref r0)]))
      refine X1292.callv (y := (⟨"java/lang/String", "strip", "()Ljava/lang/String;"⟩ : MethodName)) (a := r0) (C := "java/lang/String") [] [] (ctS l Z a0 hw hEL z0 S0 hz0 ci aA cA SI IC ST TA r0 t0 [] _ _ O8 (by decide)) O8.1 (w 73 rfl) (w 74 rfl) (w 76 rfl) (w 75 rfl) (w 7 rfl) (w 77 rfl) (by decide) (fun _ q => nomatch q) (by decide) 0 (by decide) (by decide) (by decide) (lenOf pd_17 rfl) rfl (Nat.le_of_ble_eq_true rfl) (by rw [hml]; rfl) (D d5_28) ?_
      rintro T1301 h1302 _ X1304 K1305 ⟨r, tr, rfl, O9⟩
      have F1306 := F1294.keep K1305 nin0 nin0
      have F1307 := O8.keep K1305 nin0 nin0
      show Goes p.tables e below _ (T1301.setTop (mkF m 31 #[.val (.ref s), .val (.int (0 : Int32))] [(.ref r)]))
      exact X1304.retA hret rfl rfl hlk (D d5_31) (by decide) (by decide) (⟨r, tr, rfl, by rw [FL, hz, List.take_zero]; exact O9⟩)
    · show Goes p.tables e below _ (T1276.setTop (mkF m 22 #[.val (.ref s), .val (.int (Int32.ofNat (ixN cs)))] []))
      refine X1279.aloadN (x := (.ref s)) (D d5_22) rfl rfl ?_
      refine X1279.iconst (x := (0 : Int32)) (D d5_23) rfl ?_
      refine X1279.iloadN (x := (Int32.ofNat (ixN cs))) (D d5_24) rfl ?_
      refine X1279.callv (y := (⟨"java/lang/String", "substring", "(II)Ljava/lang/String;"⟩ : MethodName)) (a := s) (C := "java/lang/String") [(.int (0 : Int32)), (.int (Int32.ofNat (ixN cs)))] [] (ctSub l Z a0 hw hEL z0 S0 hz0 fm hfm SF s t cs (ixN cs) _ _ F1281 hl (by omega) hx1) F1281.1 (w 99 rfl) (w 100 rfl) (w 102 rfl) (w 101 rfl) (w 7 rfl) (w 103 rfl) (by decide) (fun _ q => nomatch q) (by decide) 0 (by decide) (by decide) (by decide) (lenOf pd_18 rfl) rfl (Nat.le_of_ble_eq_true rfl) (by rw [hml]; rfl) (D d5_25) ?_
      rintro T1295 h1296 _ X1298 K1299 ⟨r0, t0, rfl, O8⟩
      have F1300 := F1281.keep K1299 nin0 nin0
      show Goes p.tables e below _ (T1295.setTop (mkF m 28 #[.val (.ref s), .val (.int (Int32.ofNat (ixN cs)))] [(.ref r0)]))
      refine X1298.callv (y := (⟨"java/lang/String", "strip", "()Ljava/lang/String;"⟩ : MethodName)) (a := r0) (C := "java/lang/String") [] [] (ctS l Z a0 hw hEL z0 S0 hz0 ci aA cA SI IC ST TA r0 t0 (cs.take (ixN cs)) _ _ O8 (by simp; omega)) O8.1 (w 73 rfl) (w 74 rfl) (w 76 rfl) (w 75 rfl) (w 7 rfl) (w 77 rfl) (by decide) (fun _ q => nomatch q) (by decide) 0 (by decide) (by decide) (by decide) (lenOf pd_17 rfl) rfl (Nat.le_of_ble_eq_true rfl) (by rw [hml]; rfl) (D d5_28) ?_
      rintro T1308 h1309 _ X1311 K1312 ⟨r, tr, rfl, O9⟩
      have F1313 := F1300.keep K1312 nin0 nin0
      have F1314 := O8.keep K1312 nin0 nin0
      show Goes p.tables e below _ (T1308.setTop (mkF m 31 #[.val (.ref s), .val (.int (Int32.ofNat (ixN cs)))] [(.ref r)]))
      exact X1311.retA hret rfl rfl hlk (D d5_31) (by decide) (by decide) (⟨r, tr, rfl, by exact O9⟩)
  · show Goes p.tables e below _ (T1276.setTop (mkF m 18 #[.val (.ref s), .val (.int (idx cs))] []))
    have hx := idx_lt (by omega) hc1282
    refine X1279.aloadN (x := (.ref s)) (D d5_18) rfl rfl ?_
    refine X1279.goto 28 (D d5_19) ⟨by decide, by decide⟩ ?_
    refine X1279.callv (y := (⟨"java/lang/String", "strip", "()Ljava/lang/String;"⟩ : MethodName)) (a := s) (C := "java/lang/String") [] [] (ctS l Z a0 hw hEL z0 S0 hz0 ci aA cA SI IC ST TA s t cs _ _ F1281 hl) F1281.1 (w 73 rfl) (w 74 rfl) (w 76 rfl) (w 75 rfl) (w 7 rfl) (w 77 rfl) (by decide) (fun _ q => nomatch q) (by decide) 0 (by decide) (by decide) (by decide) (lenOf pd_17 rfl) rfl (Nat.le_of_ble_eq_true rfl) (by rw [hml]; rfl) (D d5_28) ?_
    rintro T1283 h1284 _ X1286 K1287 ⟨r, tr, rfl, O9⟩
    have F1288 := F1281.keep K1287 nin0 nin0
    show Goes p.tables e below _ (T1283.setTop (mkF m 31 #[.val (.ref s), .val (.int (idx cs))] [(.ref r)]))
    exact X1286.retA hret rfl rfl hlk (D d5_31) (by decide) (by decide) (⟨r, tr, rfl, by rw [FL, hx, List.take_length]; exact O9⟩)
theorem d31_0 : decode jdk_42_method_56_code 0 = .ok (.aload_n 0, 1) := by decide +kernel
theorem d31_1 : decode jdk_42_method_56_code 1 = .ok (.invokevirtual 492, 3) := by decide +kernel
theorem d31_4 : decode jdk_42_method_56_code 4 = .ok (.ifCond .eq 12, 3) := by decide +kernel
theorem d31_7 : decode jdk_42_method_56_code 7 = .ok (.aload_n 0, 1) := by decide +kernel
theorem d31_8 : decode jdk_42_method_56_code 8 = .ok (.getfield 9, 3) := by decide +kernel
theorem d31_11 : decode jdk_42_method_56_code 11 = .ok (.iload_n 1, 1) := by decide +kernel
theorem d31_12 : decode jdk_42_method_56_code 12 = .ok (.invokestatic 495, 3) := by decide +kernel
theorem d31_15 : decode jdk_42_method_56_code 15 = .ok (.ireturn, 1) := by decide +kernel
theorem d31_16 : decode jdk_42_method_56_code 16 = .ok (.aload_n 0, 1) := by decide +kernel
theorem d31_17 : decode jdk_42_method_56_code 17 = .ok (.getfield 9, 3) := by decide +kernel
theorem d31_20 : decode jdk_42_method_56_code 20 = .ok (.iload_n 1, 1) := by decide +kernel
theorem d31_21 : decode jdk_42_method_56_code 21 = .ok (.invokestatic 498, 3) := by decide +kernel
theorem d31_24 : decode jdk_42_method_56_code 24 = .ok (.ireturn, 1) := by decide +kernel
set_option maxRecDepth 65536 in
set_option maxHeartbeats 40000000 in
theorem ctCA (l : Launch) (Z : State) (a0 : Array Value) (hw : ∀ d ∈ tables_1, d.before a0 Z = true) (hEL : EW Z a0 consts_1) (z0 : Int32) (S0 : Sta Z Z.heap "java/lang/String" "COMPACT_STRINGS" "Z" (.int z0)) (hz0 : ¬ z0 = 0) (fm : Value) (hfm : fm.isRef = true) (SF : Sta Z Z.heap "jdk/internal/util/Preconditions" "SIOOBE_FORMATTER" "Ljava/util/function/BiFunction;" fm) (s t : Addr) (cs : List Int32) (i : Nat) (h0 : Heap) (n0 : Nat) (OS : OStr Z h0 s t cs) (hi : i < cs.length) :
    Ct l Z consts_1 [] (⟨"java/lang/String", "charAt", "(I)C"⟩ : MethodName) jdk_42_method_56_code 2 (some .char) ({ frames := 3, cells := 0, slots := 0, locals := 40 } : Room) #[(.ref s), (.int (Int32.ofNat i))] h0 n0 [] (fun v _ => v = some (.int (cs.getD i 0))) := by
  have w : ∀ {d : Jvm.Cond} (i : Nat), tables_1[i]? = some d → d.before a0 Z = true := fun i q => hw _ (List.mem_of_getElem? q)
  refine Ct.enter (plainFor_of_name pn_1) hEL ?_
  intro p e sS m below meth c T0 hby hml0 hret hlk hnm hs0 X0
  have hml : c.maxLocals = 2 := hml0
  have D : ∀ {pc : Nat} {r : Except DecodeError (Instr × Nat)}, decode jdk_42_method_56_code pc = r → decode c.code pc = r := fun q => hb hby q
  rw [show entryFrame m #[(.ref s), (.int (Int32.ofNat i))] 2 = mkF m 0 #[.val (.ref s), .val (.int (Int32.ofNat i))] [] from by first | (simp [entryFrame, mkF, argsToLocals, Value.category]; done) | rfl]
  obtain ⟨F1315, hp1316, hl1317, kb1318, F1319, F1320, F1321⟩ := id OS
  refine X0.aloadN (x := (.ref s)) (D d31_0) rfl rfl ?_
  refine X0.callv (y := (⟨"java/lang/String", "isLatin1", "()Z"⟩ : MethodName)) (a := s) (C := "java/lang/String") [] [] (ctIsL l Z a0 hw hEL z0 S0 hz0 s _ _ F1320) F1315 (w 43 rfl) (w 44 rfl) (w 46 rfl) (w 45 rfl) (w 7 rfl) (w 47 rfl) (by decide) (fun _ q => nomatch q) (by decide) 0 (by decide) (by decide) (by decide) (lenOf pd_9 rfl) rfl (Nat.le_of_ble_eq_true rfl) (by rw [hml]; rfl) (D d31_1) ?_
  rintro T1322 h1323 _ X1325 K1326 rfl
  have F1327 := F1315.keep K1326
  have F1328 := F1319.keep K1326 nin0
  have F1329 := F1320.keep K1326 nin0
  have F1330 := F1321.keep K1326 nin0
  show Goes p.tables e below _ (T1322.setTop (mkF m 4 #[.val (.ref s), .val (.int (Int32.ofNat i))] [(.int (1 : Int32))]))
  refine X1325.if_eq 16 (D d31_4) ⟨by decide, by decide⟩ (fun hc1331 => absurd hc1331 (by decide)) (fun hc1331 => ?_)
  refine X1325.aloadN (x := (.ref s)) (D d31_7) rfl rfl ?_
  refine X1325.getf (w 27 rfl) Via.refl F1328 (D d31_8) ?_
  intro T1332 X1333
  show Goes p.tables e below _ (T1332.setTop (mkF m 11 #[.val (.ref s), .val (.int (Int32.ofNat i))] [(.ref t)]))
  refine X1333.iloadN (x := (Int32.ofNat i)) (D d31_11) rfl ?_
  refine X1333.calls [(.ref t), (.int (Int32.ofNat i))] [] (ctLA l Z a0 hw hEL z0 S0 hz0 fm hfm SF t _ cs i _ _ F1330 hp1316 hl1317 hi) (w 142 rfl) (w 143 rfl) (w 61 rfl) (w 144 rfl) (by decide) (fun _ q => nomatch q) (by decide) 0 (by decide) (by decide) (by decide) (lenOf pd_14 rfl) rfl (Nat.le_of_ble_eq_true rfl) (by rw [hml]; rfl) (D d31_12) ?_
  rintro T1334 h1335 _ X1337 K1338 rfl
  have F1339 := F1327.keep K1338
  have F1340 := F1328.keep K1338 nin0
  have F1341 := F1329.keep K1338 nin0
  have F1342 := F1330.keep K1338 nin0
  show Goes p.tables e below _ (T1334.setTop (mkF m 15 #[.val (.ref s), .val (.int (Int32.ofNat i))] [(.int (cs.getD i 0))]))
  exact X1337.reti hret (by simp) hlk (D d31_15) (by decide) (by decide) (ret_ch (hp1316 _ (getD_mem hi)))
theorem d26_0 : decode method_2_code 0 = .ok (.iload_n 0, 1) := by decide +kernel
theorem d26_1 : decode method_2_code 1 = .ok (.bipush 32, 2) := by decide +kernel
theorem d26_3 : decode method_2_code 3 = .ok (.if_icmp .eq 27, 3) := by decide +kernel
theorem d26_6 : decode method_2_code 6 = .ok (.iload_n 0, 1) := by decide +kernel
theorem d26_7 : decode method_2_code 7 = .ok (.bipush 9, 2) := by decide +kernel
theorem d26_9 : decode method_2_code 9 = .ok (.if_icmp .lt 9, 3) := by decide +kernel
theorem d26_12 : decode method_2_code 12 = .ok (.iload_n 0, 1) := by decide +kernel
theorem d26_13 : decode method_2_code 13 = .ok (.bipush 13, 2) := by decide +kernel
theorem d26_15 : decode method_2_code 15 = .ok (.if_icmp .le 15, 3) := by decide +kernel
theorem d26_18 : decode method_2_code 18 = .ok (.iload_n 0, 1) := by decide +kernel
theorem d26_19 : decode method_2_code 19 = .ok (.bipush 28, 2) := by decide +kernel
theorem d26_21 : decode method_2_code 21 = .ok (.if_icmp .lt 13, 3) := by decide +kernel
theorem d26_24 : decode method_2_code 24 = .ok (.iload_n 0, 1) := by decide +kernel
theorem d26_25 : decode method_2_code 25 = .ok (.bipush 31, 2) := by decide +kernel
theorem d26_27 : decode method_2_code 27 = .ok (.if_icmp .gt 7, 3) := by decide +kernel
theorem d26_30 : decode method_2_code 30 = .ok (.iconst 1, 1) := by decide +kernel
theorem d26_31 : decode method_2_code 31 = .ok (.goto 4, 3) := by decide +kernel
theorem d26_34 : decode method_2_code 34 = .ok (.iconst 0, 1) := by decide +kernel
theorem d26_35 : decode method_2_code 35 = .ok (.ireturn, 1) := by decide +kernel
theorem pn_6 : plainName "com/example/abox/abox/InputExceptionFirstLinePinLaw" = true := by first | (simp [plainName, overriddenIn]; done) | decide +kernel
set_option maxRecDepth 65536 in
set_option maxHeartbeats 40000000 in
theorem ctWs (l : Launch) (Z : State) (a0 : Array Value) (hw : ∀ d ∈ tables_1, d.before a0 Z = true) (hEL : EW Z a0 consts_1) (z0 : Int32) (S0 : Sta Z Z.heap "java/lang/String" "COMPACT_STRINGS" "Z" (.int z0)) (hz0 : ¬ z0 = 0) (x : Int32) (h0 : Heap) (n0 : Nat)  :
    Ct l Z consts_1 [] (⟨"com/example/abox/abox/InputExceptionFirstLinePinLaw", "ws", "(C)Z"⟩ : MethodName) method_2_code 1 (some .boolean) ({ frames := 0, cells := 0, slots := 0, locals := 0 } : Room) #[(.int x)] h0 n0 [] (fun v _ => (v = some (.int 1) ∧ wsP x) ∨ (v = some (.int 0) ∧ ¬ wsP x)) := by
  have w : ∀ {d : Jvm.Cond} (i : Nat), tables_1[i]? = some d → d.before a0 Z = true := fun i q => hw _ (List.mem_of_getElem? q)
  refine Ct.enter (plainFor_of_name pn_6) hEL ?_
  intro p e sS m below meth c T0 hby hml0 hret hlk hnm hs0 X0
  have hml : c.maxLocals = 1 := hml0
  have D : ∀ {pc : Nat} {r : Except DecodeError (Instr × Nat)}, decode method_2_code pc = r → decode c.code pc = r := fun q => hb hby q
  rw [show entryFrame m #[(.int x)] 1 = mkF m 0 #[.val (.int x)] [] from by first | (simp [entryFrame, mkF, argsToLocals, Value.category]; done) | rfl]
  refine X0.iloadN (x := x) (D d26_0) rfl ?_
  refine X0.bipush (x := (32 : Int32)) (D d26_1) rfl ?_
  refine X0.icmp_eq 30 (D d26_3) ⟨by decide, by decide⟩ (fun hc1343 => ?_) (fun hc1343 => ?_)
  · show Goes p.tables e below _ (T0.setTop (mkF m 30 #[.val (.int x)] []))
    refine X0.iconst (x := (1 : Int32)) (D d26_30) rfl ?_
    refine X0.goto 35 (D d26_31) ⟨by decide, by decide⟩ ?_
    exact X0.reti hret (by simp) hlk (D d26_35) (by decide) (by decide) (Or.inl ⟨rfl, Or.inl hc1343⟩)
  · show Goes p.tables e below _ (T0.setTop (mkF m 6 #[.val (.int x)] []))
    refine X0.iloadN (x := x) (D d26_6) rfl ?_
    refine X0.bipush (x := (9 : Int32)) (D d26_7) rfl ?_
    refine X0.icmp_lt 18 (D d26_9) ⟨by decide, by decide⟩ (fun hc1344 => ?_) (fun hc1344 => ?_)
    · show Goes p.tables e below _ (T0.setTop (mkF m 18 #[.val (.int x)] []))
      refine X0.iloadN (x := x) (D d26_18) rfl ?_
      refine X0.bipush (x := (28 : Int32)) (D d26_19) rfl ?_
      refine X0.icmp_lt 34 (D d26_21) ⟨by decide, by decide⟩ (fun hc1346 => ?_) (fun hc1346 => ?_)
      · show Goes p.tables e below _ (T0.setTop (mkF m 34 #[.val (.int x)] []))
        refine X0.iconst (x := (0 : Int32)) (D d26_34) rfl ?_
        exact X0.reti hret (by simp) hlk (D d26_35) (by decide) (by decide) (Or.inr ⟨rfl, fun r => r.elim hc1343 fun r => r.elim (fun r => r.1 hc1344) fun r => r.1 hc1346⟩)
      · show Goes p.tables e below _ (T0.setTop (mkF m 24 #[.val (.int x)] []))
        refine X0.iloadN (x := x) (D d26_24) rfl ?_
        refine X0.bipush (x := (31 : Int32)) (D d26_25) rfl ?_
        refine X0.icmp_gt 34 (D d26_27) ⟨by decide, by decide⟩ (fun hc1347 => ?_) (fun hc1347 => ?_)
        · show Goes p.tables e below _ (T0.setTop (mkF m 34 #[.val (.int x)] []))
          refine X0.iconst (x := (0 : Int32)) (D d26_34) rfl ?_
          exact X0.reti hret (by simp) hlk (D d26_35) (by decide) (by decide) (Or.inr ⟨rfl, fun r => r.elim hc1343 fun r => r.elim (fun r => r.1 hc1344) fun r => r.2 hc1347⟩)
        · show Goes p.tables e below _ (T0.setTop (mkF m 30 #[.val (.int x)] []))
          refine X0.iconst (x := (1 : Int32)) (D d26_30) rfl ?_
          refine X0.goto 35 (D d26_31) ⟨by decide, by decide⟩ ?_
          exact X0.reti hret (by simp) hlk (D d26_35) (by decide) (by decide) (Or.inl ⟨rfl, Or.inr (Or.inr ⟨hc1346, hc1347⟩)⟩)
    · show Goes p.tables e below _ (T0.setTop (mkF m 12 #[.val (.int x)] []))
      refine X0.iloadN (x := x) (D d26_12) rfl ?_
      refine X0.bipush (x := (13 : Int32)) (D d26_13) rfl ?_
      refine X0.icmp_le 30 (D d26_15) ⟨by decide, by decide⟩ (fun hc1345 => ?_) (fun hc1345 => ?_)
      · show Goes p.tables e below _ (T0.setTop (mkF m 30 #[.val (.int x)] []))
        refine X0.iconst (x := (1 : Int32)) (D d26_30) rfl ?_
        refine X0.goto 35 (D d26_31) ⟨by decide, by decide⟩ ?_
        exact X0.reti hret (by simp) hlk (D d26_35) (by decide) (by decide) (Or.inl ⟨rfl, Or.inr (Or.inl ⟨hc1344, hc1345⟩)⟩)
      · show Goes p.tables e below _ (T0.setTop (mkF m 18 #[.val (.int x)] []))
        refine X0.iloadN (x := x) (D d26_18) rfl ?_
        refine X0.bipush (x := (28 : Int32)) (D d26_19) rfl ?_
        refine X0.icmp_lt 34 (D d26_21) ⟨by decide, by decide⟩ (fun hc1348 => ?_) (fun hc1348 => ?_)
        · show Goes p.tables e below _ (T0.setTop (mkF m 34 #[.val (.int x)] []))
          refine X0.iconst (x := (0 : Int32)) (D d26_34) rfl ?_
          exact X0.reti hret (by simp) hlk (D d26_35) (by decide) (by decide) (Or.inr ⟨rfl, fun r => r.elim hc1343 fun r => r.elim (fun r => r.2 hc1345) fun r => r.1 hc1348⟩)
        · show Goes p.tables e below _ (T0.setTop (mkF m 24 #[.val (.int x)] []))
          refine X0.iloadN (x := x) (D d26_24) rfl ?_
          refine X0.bipush (x := (31 : Int32)) (D d26_25) rfl ?_
          refine X0.icmp_gt 34 (D d26_27) ⟨by decide, by decide⟩ (fun hc1349 => ?_) (fun hc1349 => ?_)
          · show Goes p.tables e below _ (T0.setTop (mkF m 34 #[.val (.int x)] []))
            refine X0.iconst (x := (0 : Int32)) (D d26_34) rfl ?_
            exact X0.reti hret (by simp) hlk (D d26_35) (by decide) (by decide) (Or.inr ⟨rfl, fun r => r.elim hc1343 fun r => r.elim (fun r => r.2 hc1345) fun r => r.2 hc1349⟩)
          · show Goes p.tables e below _ (T0.setTop (mkF m 30 #[.val (.int x)] []))
            refine X0.iconst (x := (1 : Int32)) (D d26_30) rfl ?_
            refine X0.goto 35 (D d26_31) ⟨by decide, by decide⟩ ?_
            exact X0.reti hret (by simp) hlk (D d26_35) (by decide) (by decide) (Or.inl ⟨rfl, Or.inr (Or.inr ⟨hc1348, hc1349⟩)⟩)
theorem d0_0 : decode method_3_code 0 = .ok (.iload_n 0, 1) := by decide +kernel
theorem d0_1 : decode method_3_code 1 = .ok (.sipush 256, 3) := by decide +kernel
theorem d0_4 : decode method_3_code 4 = .ok (.iand, 1) := by decide +kernel
theorem d0_5 : decode method_3_code 5 = .ok (.ifCond .eq 68, 3) := by decide +kernel
theorem d0_8 : decode method_3_code 8 = .ok (.iload_n 0, 1) := by decide +kernel
theorem d0_9 : decode method_3_code 9 = .ok (.bipush 7, 2) := by decide +kernel
theorem d0_11 : decode method_3_code 11 = .ok (.iand, 1) := by decide +kernel
theorem d0_12 : decode method_3_code 12 = .ok (.istore_n 1, 1) := by decide +kernel
theorem d0_13 : decode method_3_code 13 = .ok (.iload_n 1, 1) := by decide +kernel
theorem d0_14 : decode method_3_code 14 = .ok (.ifCond .ne 6, 3) := by decide +kernel
theorem d0_17 : decode method_3_code 17 = .ok (.bipush 10, 2) := by decide +kernel
theorem d0_19 : decode method_3_code 19 = .ok (.ireturn, 1) := by decide +kernel
theorem d0_20 : decode method_3_code 20 = .ok (.iload_n 1, 1) := by decide +kernel
theorem d0_21 : decode method_3_code 21 = .ok (.iconst 1, 1) := by decide +kernel
theorem d0_22 : decode method_3_code 22 = .ok (.if_icmp .ne 6, 3) := by decide +kernel
theorem d0_25 : decode method_3_code 25 = .ok (.bipush 32, 2) := by decide +kernel
theorem d0_27 : decode method_3_code 27 = .ok (.ireturn, 1) := by decide +kernel
theorem d0_28 : decode method_3_code 28 = .ok (.iload_n 1, 1) := by decide +kernel
theorem d0_29 : decode method_3_code 29 = .ok (.iconst 2, 1) := by decide +kernel
theorem d0_30 : decode method_3_code 30 = .ok (.if_icmp .ne 6, 3) := by decide +kernel
theorem d0_33 : decode method_3_code 33 = .ok (.bipush 9, 2) := by decide +kernel
theorem d0_35 : decode method_3_code 35 = .ok (.ireturn, 1) := by decide +kernel
theorem d0_36 : decode method_3_code 36 = .ok (.iload_n 1, 1) := by decide +kernel
theorem d0_37 : decode method_3_code 37 = .ok (.iconst 3, 1) := by decide +kernel
theorem d0_38 : decode method_3_code 38 = .ok (.if_icmp .ne 6, 3) := by decide +kernel
theorem d0_41 : decode method_3_code 41 = .ok (.bipush 13, 2) := by decide +kernel
theorem d0_43 : decode method_3_code 43 = .ok (.ireturn, 1) := by decide +kernel
theorem d0_44 : decode method_3_code 44 = .ok (.iload_n 1, 1) := by decide +kernel
theorem d0_45 : decode method_3_code 45 = .ok (.iconst 4, 1) := by decide +kernel
theorem d0_46 : decode method_3_code 46 = .ok (.if_icmp .ne 6, 3) := by decide +kernel
theorem d0_49 : decode method_3_code 49 = .ok (.bipush 31, 2) := by decide +kernel
theorem d0_51 : decode method_3_code 51 = .ok (.ireturn, 1) := by decide +kernel
theorem d0_52 : decode method_3_code 52 = .ok (.iload_n 1, 1) := by decide +kernel
theorem d0_53 : decode method_3_code 53 = .ok (.iconst 5, 1) := by decide +kernel
theorem d0_54 : decode method_3_code 54 = .ok (.if_icmp .ne 6, 3) := by decide +kernel
theorem d0_57 : decode method_3_code 57 = .ok (.bipush 11, 2) := by decide +kernel
theorem d0_59 : decode method_3_code 59 = .ok (.ireturn, 1) := by decide +kernel
theorem d0_60 : decode method_3_code 60 = .ok (.iload_n 1, 1) := by decide +kernel
theorem d0_61 : decode method_3_code 61 = .ok (.bipush 6, 2) := by decide +kernel
theorem d0_63 : decode method_3_code 63 = .ok (.if_icmp .ne 7, 3) := by decide +kernel
theorem d0_66 : decode method_3_code 66 = .ok (.sipush 160, 3) := by decide +kernel
theorem d0_69 : decode method_3_code 69 = .ok (.ireturn, 1) := by decide +kernel
theorem d0_70 : decode method_3_code 70 = .ok (.bipush 120, 2) := by decide +kernel
theorem d0_72 : decode method_3_code 72 = .ok (.ireturn, 1) := by decide +kernel
theorem d0_73 : decode method_3_code 73 = .ok (.iload_n 0, 1) := by decide +kernel
theorem d0_74 : decode method_3_code 74 = .ok (.sipush 255, 3) := by decide +kernel
theorem d0_77 : decode method_3_code 77 = .ok (.iand, 1) := by decide +kernel
theorem d0_78 : decode method_3_code 78 = .ok (.i2c, 1) := by decide +kernel
theorem d0_79 : decode method_3_code 79 = .ok (.ireturn, 1) := by decide +kernel
set_option maxRecDepth 65536 in
set_option maxHeartbeats 40000000 in
theorem ctDr (l : Launch) (Z : State) (a0 : Array Value) (hw : ∀ d ∈ tables_1, d.before a0 Z = true) (hEL : EW Z a0 consts_1) (z0 : Int32) (S0 : Sta Z Z.heap "java/lang/String" "COMPACT_STRINGS" "Z" (.int z0)) (hz0 : ¬ z0 = 0) (x : Int32) (h0 : Heap) (n0 : Nat)  :
    Ct l Z consts_1 [] (⟨"com/example/abox/abox/InputExceptionFirstLinePinLaw", "draw", "(I)C"⟩ : MethodName) method_3_code 2 (some .char) ({ frames := 0, cells := 0, slots := 0, locals := 0 } : Room) #[(.int x)] h0 n0 [] (fun v _ => ∃ c : Int32, v = some (.int c) ∧ Rb c) := by
  have w : ∀ {d : Jvm.Cond} (i : Nat), tables_1[i]? = some d → d.before a0 Z = true := fun i q => hw _ (List.mem_of_getElem? q)
  refine Ct.enter (plainFor_of_name pn_6) hEL ?_
  intro p e sS m below meth c T0 hby hml0 hret hlk hnm hs0 X0
  have hml : c.maxLocals = 2 := hml0
  have D : ∀ {pc : Nat} {r : Except DecodeError (Instr × Nat)}, decode method_3_code pc = r → decode c.code pc = r := fun q => hb hby q
  rw [show entryFrame m #[(.int x)] 2 = mkF m 0 #[.val (.int x), .unset] [] from by first | (simp [entryFrame, mkF, argsToLocals, Value.category]; done) | rfl]
  refine X0.iloadN (x := x) (D d0_0) rfl ?_
  refine X0.sipush (x := (256 : Int32)) (D d0_1) rfl ?_
  refine X0.iand (D d0_4) ?_
  refine X0.if_eq 73 (D d0_5) ⟨by decide, by decide⟩ (fun hc1350 => ?_) (fun hc1350 => ?_)
  · show Goes p.tables e below _ (T0.setTop (mkF m 73 #[.val (.int x), .unset] []))
    refine X0.iloadN (x := x) (D d0_73) rfl ?_
    refine X0.sipush (x := (255 : Int32)) (D d0_74) rfl ?_
    refine X0.iand (D d0_77) ?_
    refine X0.i2c (D d0_78) ?_
    exact X0.reti hret (by simp) hlk (D d0_79) (by decide) (by decide) (⟨_, rfl, by show Rb (nar .char (c8 x)); rw [nar_c8 x]; exact c8_rng x⟩)
  · show Goes p.tables e below _ (T0.setTop (mkF m 8 #[.val (.int x), .unset] []))
    refine X0.iloadN (x := x) (D d0_8) rfl ?_
    refine X0.bipush (x := (7 : Int32)) (D d0_9) rfl ?_
    refine X0.iand (D d0_11) ?_
    refine X0.istoreN #[.val (.int x), .val (.int (x &&& (7 : Int32)))] (D d0_12) rfl ?_
    refine X0.iloadN (x := (x &&& (7 : Int32))) (D d0_13) rfl ?_
    refine X0.if_ne 20 (D d0_14) ⟨by decide, by decide⟩ (fun hc1351 => ?_) (fun hc1351 => ?_)
    · show Goes p.tables e below _ (T0.setTop (mkF m 20 #[.val (.int x), .val (.int (x &&& (7 : Int32)))] []))
      refine X0.iloadN (x := (x &&& (7 : Int32))) (D d0_20) rfl ?_
      refine X0.iconst (x := (1 : Int32)) (D d0_21) rfl ?_
      refine X0.icmp_ne 28 (D d0_22) ⟨by decide, by decide⟩ (fun hc1352 => ?_) (fun hc1352 => ?_)
      · show Goes p.tables e below _ (T0.setTop (mkF m 28 #[.val (.int x), .val (.int (x &&& (7 : Int32)))] []))
        refine X0.iloadN (x := (x &&& (7 : Int32))) (D d0_28) rfl ?_
        refine X0.iconst (x := (2 : Int32)) (D d0_29) rfl ?_
        refine X0.icmp_ne 36 (D d0_30) ⟨by decide, by decide⟩ (fun hc1353 => ?_) (fun hc1353 => ?_)
        · show Goes p.tables e below _ (T0.setTop (mkF m 36 #[.val (.int x), .val (.int (x &&& (7 : Int32)))] []))
          refine X0.iloadN (x := (x &&& (7 : Int32))) (D d0_36) rfl ?_
          refine X0.iconst (x := (3 : Int32)) (D d0_37) rfl ?_
          refine X0.icmp_ne 44 (D d0_38) ⟨by decide, by decide⟩ (fun hc1354 => ?_) (fun hc1354 => ?_)
          · show Goes p.tables e below _ (T0.setTop (mkF m 44 #[.val (.int x), .val (.int (x &&& (7 : Int32)))] []))
            refine X0.iloadN (x := (x &&& (7 : Int32))) (D d0_44) rfl ?_
            refine X0.iconst (x := (4 : Int32)) (D d0_45) rfl ?_
            refine X0.icmp_ne 52 (D d0_46) ⟨by decide, by decide⟩ (fun hc1355 => ?_) (fun hc1355 => ?_)
            · show Goes p.tables e below _ (T0.setTop (mkF m 52 #[.val (.int x), .val (.int (x &&& (7 : Int32)))] []))
              refine X0.iloadN (x := (x &&& (7 : Int32))) (D d0_52) rfl ?_
              refine X0.iconst (x := (5 : Int32)) (D d0_53) rfl ?_
              refine X0.icmp_ne 60 (D d0_54) ⟨by decide, by decide⟩ (fun hc1356 => ?_) (fun hc1356 => ?_)
              · show Goes p.tables e below _ (T0.setTop (mkF m 60 #[.val (.int x), .val (.int (x &&& (7 : Int32)))] []))
                refine X0.iloadN (x := (x &&& (7 : Int32))) (D d0_60) rfl ?_
                refine X0.bipush (x := (6 : Int32)) (D d0_61) rfl ?_
                refine X0.icmp_ne 70 (D d0_63) ⟨by decide, by decide⟩ (fun hc1357 => ?_) (fun hc1357 => ?_)
                · show Goes p.tables e below _ (T0.setTop (mkF m 70 #[.val (.int x), .val (.int (x &&& (7 : Int32)))] []))
                  refine X0.bipush (x := (120 : Int32)) (D d0_70) rfl ?_
                  exact X0.reti hret (by simp) hlk (D d0_72) (by decide) (by decide) (⟨_, rfl, by unfold Rb; decide⟩)
                · show Goes p.tables e below _ (T0.setTop (mkF m 66 #[.val (.int x), .val (.int (x &&& (7 : Int32)))] []))
                  refine X0.sipush (x := (160 : Int32)) (D d0_66) rfl ?_
                  exact X0.reti hret (by simp) hlk (D d0_69) (by decide) (by decide) (⟨_, rfl, by unfold Rb; decide⟩)
              · show Goes p.tables e below _ (T0.setTop (mkF m 57 #[.val (.int x), .val (.int (x &&& (7 : Int32)))] []))
                refine X0.bipush (x := (11 : Int32)) (D d0_57) rfl ?_
                exact X0.reti hret (by simp) hlk (D d0_59) (by decide) (by decide) (⟨_, rfl, by unfold Rb; decide⟩)
            · show Goes p.tables e below _ (T0.setTop (mkF m 49 #[.val (.int x), .val (.int (x &&& (7 : Int32)))] []))
              refine X0.bipush (x := (31 : Int32)) (D d0_49) rfl ?_
              exact X0.reti hret (by simp) hlk (D d0_51) (by decide) (by decide) (⟨_, rfl, by unfold Rb; decide⟩)
          · show Goes p.tables e below _ (T0.setTop (mkF m 41 #[.val (.int x), .val (.int (x &&& (7 : Int32)))] []))
            refine X0.bipush (x := (13 : Int32)) (D d0_41) rfl ?_
            exact X0.reti hret (by simp) hlk (D d0_43) (by decide) (by decide) (⟨_, rfl, by unfold Rb; decide⟩)
        · show Goes p.tables e below _ (T0.setTop (mkF m 33 #[.val (.int x), .val (.int (x &&& (7 : Int32)))] []))
          refine X0.bipush (x := (9 : Int32)) (D d0_33) rfl ?_
          exact X0.reti hret (by simp) hlk (D d0_35) (by decide) (by decide) (⟨_, rfl, by unfold Rb; decide⟩)
      · show Goes p.tables e below _ (T0.setTop (mkF m 25 #[.val (.int x), .val (.int (x &&& (7 : Int32)))] []))
        refine X0.bipush (x := (32 : Int32)) (D d0_25) rfl ?_
        exact X0.reti hret (by simp) hlk (D d0_27) (by decide) (by decide) (⟨_, rfl, by unfold Rb; decide⟩)
    · show Goes p.tables e below _ (T0.setTop (mkF m 17 #[.val (.int x), .val (.int (x &&& (7 : Int32)))] []))
      refine X0.bipush (x := (10 : Int32)) (D d0_17) rfl ?_
      exact X0.reti hret (by simp) hlk (D d0_19) (by decide) (by decide) (⟨_, rfl, by unfold Rb; decide⟩)
theorem d1_0 : decode method_4_code 0 = .ok (.iload_n 0, 1) := by decide +kernel
theorem d1_1 : decode method_4_code 1 = .ok (.ifCond .ne 7, 3) := by decide +kernel
theorem d1_4 : decode method_4_code 4 = .ok (.iconst 0, 1) := by decide +kernel
theorem d1_5 : decode method_4_code 5 = .ok (.newarray .char, 2) := by decide +kernel
theorem d1_7 : decode method_4_code 7 = .ok (.areturn, 1) := by decide +kernel
theorem d1_8 : decode method_4_code 8 = .ok (.iload_n 0, 1) := by decide +kernel
theorem d1_9 : decode method_4_code 9 = .ok (.iconst 1, 1) := by decide +kernel
theorem d1_10 : decode method_4_code 10 = .ok (.if_icmp .ne 13, 3) := by decide +kernel
theorem d1_13 : decode method_4_code 13 = .ok (.iconst 1, 1) := by decide +kernel
theorem d1_14 : decode method_4_code 14 = .ok (.newarray .char, 2) := by decide +kernel
theorem d1_16 : decode method_4_code 16 = .ok (.dup, 1) := by decide +kernel
theorem d1_17 : decode method_4_code 17 = .ok (.iconst 0, 1) := by decide +kernel
theorem d1_18 : decode method_4_code 18 = .ok (.aload_n 1, 1) := by decide +kernel
theorem d1_19 : decode method_4_code 19 = .ok (.iconst 0, 1) := by decide +kernel
theorem d1_20 : decode method_4_code 20 = .ok (.caload, 1) := by decide +kernel
theorem d1_21 : decode method_4_code 21 = .ok (.castore, 1) := by decide +kernel
theorem d1_22 : decode method_4_code 22 = .ok (.areturn, 1) := by decide +kernel
theorem d1_23 : decode method_4_code 23 = .ok (.iload_n 0, 1) := by decide +kernel
theorem d1_24 : decode method_4_code 24 = .ok (.iconst 2, 1) := by decide +kernel
theorem d1_25 : decode method_4_code 25 = .ok (.if_icmp .ne 19, 3) := by decide +kernel
theorem d1_28 : decode method_4_code 28 = .ok (.iconst 2, 1) := by decide +kernel
theorem d1_29 : decode method_4_code 29 = .ok (.newarray .char, 2) := by decide +kernel
theorem d1_31 : decode method_4_code 31 = .ok (.dup, 1) := by decide +kernel
theorem d1_32 : decode method_4_code 32 = .ok (.iconst 0, 1) := by decide +kernel
theorem d1_33 : decode method_4_code 33 = .ok (.aload_n 1, 1) := by decide +kernel
theorem d1_34 : decode method_4_code 34 = .ok (.iconst 0, 1) := by decide +kernel
theorem d1_35 : decode method_4_code 35 = .ok (.caload, 1) := by decide +kernel
theorem d1_36 : decode method_4_code 36 = .ok (.castore, 1) := by decide +kernel
theorem d1_37 : decode method_4_code 37 = .ok (.dup, 1) := by decide +kernel
theorem d1_38 : decode method_4_code 38 = .ok (.iconst 1, 1) := by decide +kernel
theorem d1_39 : decode method_4_code 39 = .ok (.aload_n 1, 1) := by decide +kernel
theorem d1_40 : decode method_4_code 40 = .ok (.iconst 1, 1) := by decide +kernel
theorem d1_41 : decode method_4_code 41 = .ok (.caload, 1) := by decide +kernel
theorem d1_42 : decode method_4_code 42 = .ok (.castore, 1) := by decide +kernel
theorem d1_43 : decode method_4_code 43 = .ok (.areturn, 1) := by decide +kernel
theorem d1_44 : decode method_4_code 44 = .ok (.iload_n 0, 1) := by decide +kernel
theorem d1_45 : decode method_4_code 45 = .ok (.iconst 3, 1) := by decide +kernel
theorem d1_46 : decode method_4_code 46 = .ok (.if_icmp .ne 25, 3) := by decide +kernel
theorem d1_49 : decode method_4_code 49 = .ok (.iconst 3, 1) := by decide +kernel
theorem d1_50 : decode method_4_code 50 = .ok (.newarray .char, 2) := by decide +kernel
theorem d1_52 : decode method_4_code 52 = .ok (.dup, 1) := by decide +kernel
theorem d1_53 : decode method_4_code 53 = .ok (.iconst 0, 1) := by decide +kernel
theorem d1_54 : decode method_4_code 54 = .ok (.aload_n 1, 1) := by decide +kernel
theorem d1_55 : decode method_4_code 55 = .ok (.iconst 0, 1) := by decide +kernel
theorem d1_56 : decode method_4_code 56 = .ok (.caload, 1) := by decide +kernel
theorem d1_57 : decode method_4_code 57 = .ok (.castore, 1) := by decide +kernel
theorem d1_58 : decode method_4_code 58 = .ok (.dup, 1) := by decide +kernel
theorem d1_59 : decode method_4_code 59 = .ok (.iconst 1, 1) := by decide +kernel
theorem d1_60 : decode method_4_code 60 = .ok (.aload_n 1, 1) := by decide +kernel
theorem d1_61 : decode method_4_code 61 = .ok (.iconst 1, 1) := by decide +kernel
theorem d1_62 : decode method_4_code 62 = .ok (.caload, 1) := by decide +kernel
theorem d1_63 : decode method_4_code 63 = .ok (.castore, 1) := by decide +kernel
theorem d1_64 : decode method_4_code 64 = .ok (.dup, 1) := by decide +kernel
theorem d1_65 : decode method_4_code 65 = .ok (.iconst 2, 1) := by decide +kernel
theorem d1_66 : decode method_4_code 66 = .ok (.aload_n 1, 1) := by decide +kernel
theorem d1_67 : decode method_4_code 67 = .ok (.iconst 2, 1) := by decide +kernel
theorem d1_68 : decode method_4_code 68 = .ok (.caload, 1) := by decide +kernel
theorem d1_69 : decode method_4_code 69 = .ok (.castore, 1) := by decide +kernel
theorem d1_70 : decode method_4_code 70 = .ok (.areturn, 1) := by decide +kernel
theorem d1_71 : decode method_4_code 71 = .ok (.iload_n 0, 1) := by decide +kernel
theorem d1_72 : decode method_4_code 72 = .ok (.iconst 4, 1) := by decide +kernel
theorem d1_73 : decode method_4_code 73 = .ok (.if_icmp .ne 31, 3) := by decide +kernel
theorem d1_76 : decode method_4_code 76 = .ok (.iconst 4, 1) := by decide +kernel
theorem d1_77 : decode method_4_code 77 = .ok (.newarray .char, 2) := by decide +kernel
theorem d1_79 : decode method_4_code 79 = .ok (.dup, 1) := by decide +kernel
theorem d1_80 : decode method_4_code 80 = .ok (.iconst 0, 1) := by decide +kernel
theorem d1_81 : decode method_4_code 81 = .ok (.aload_n 1, 1) := by decide +kernel
theorem d1_82 : decode method_4_code 82 = .ok (.iconst 0, 1) := by decide +kernel
theorem d1_83 : decode method_4_code 83 = .ok (.caload, 1) := by decide +kernel
theorem d1_84 : decode method_4_code 84 = .ok (.castore, 1) := by decide +kernel
theorem d1_85 : decode method_4_code 85 = .ok (.dup, 1) := by decide +kernel
theorem d1_86 : decode method_4_code 86 = .ok (.iconst 1, 1) := by decide +kernel
theorem d1_87 : decode method_4_code 87 = .ok (.aload_n 1, 1) := by decide +kernel
theorem d1_88 : decode method_4_code 88 = .ok (.iconst 1, 1) := by decide +kernel
theorem d1_89 : decode method_4_code 89 = .ok (.caload, 1) := by decide +kernel
theorem d1_90 : decode method_4_code 90 = .ok (.castore, 1) := by decide +kernel
theorem d1_91 : decode method_4_code 91 = .ok (.dup, 1) := by decide +kernel
theorem d1_92 : decode method_4_code 92 = .ok (.iconst 2, 1) := by decide +kernel
theorem d1_93 : decode method_4_code 93 = .ok (.aload_n 1, 1) := by decide +kernel
theorem d1_94 : decode method_4_code 94 = .ok (.iconst 2, 1) := by decide +kernel
theorem d1_95 : decode method_4_code 95 = .ok (.caload, 1) := by decide +kernel
theorem d1_96 : decode method_4_code 96 = .ok (.castore, 1) := by decide +kernel
theorem d1_97 : decode method_4_code 97 = .ok (.dup, 1) := by decide +kernel
theorem d1_98 : decode method_4_code 98 = .ok (.iconst 3, 1) := by decide +kernel
theorem d1_99 : decode method_4_code 99 = .ok (.aload_n 1, 1) := by decide +kernel
theorem d1_100 : decode method_4_code 100 = .ok (.iconst 3, 1) := by decide +kernel
theorem d1_101 : decode method_4_code 101 = .ok (.caload, 1) := by decide +kernel
theorem d1_102 : decode method_4_code 102 = .ok (.castore, 1) := by decide +kernel
theorem d1_103 : decode method_4_code 103 = .ok (.areturn, 1) := by decide +kernel
theorem d1_104 : decode method_4_code 104 = .ok (.iconst 5, 1) := by decide +kernel
theorem d1_105 : decode method_4_code 105 = .ok (.newarray .char, 2) := by decide +kernel
theorem d1_107 : decode method_4_code 107 = .ok (.dup, 1) := by decide +kernel
theorem d1_108 : decode method_4_code 108 = .ok (.iconst 0, 1) := by decide +kernel
theorem d1_109 : decode method_4_code 109 = .ok (.aload_n 1, 1) := by decide +kernel
theorem d1_110 : decode method_4_code 110 = .ok (.iconst 0, 1) := by decide +kernel
theorem d1_111 : decode method_4_code 111 = .ok (.caload, 1) := by decide +kernel
theorem d1_112 : decode method_4_code 112 = .ok (.castore, 1) := by decide +kernel
theorem d1_113 : decode method_4_code 113 = .ok (.dup, 1) := by decide +kernel
theorem d1_114 : decode method_4_code 114 = .ok (.iconst 1, 1) := by decide +kernel
theorem d1_115 : decode method_4_code 115 = .ok (.aload_n 1, 1) := by decide +kernel
theorem d1_116 : decode method_4_code 116 = .ok (.iconst 1, 1) := by decide +kernel
theorem d1_117 : decode method_4_code 117 = .ok (.caload, 1) := by decide +kernel
theorem d1_118 : decode method_4_code 118 = .ok (.castore, 1) := by decide +kernel
theorem d1_119 : decode method_4_code 119 = .ok (.dup, 1) := by decide +kernel
theorem d1_120 : decode method_4_code 120 = .ok (.iconst 2, 1) := by decide +kernel
theorem d1_121 : decode method_4_code 121 = .ok (.aload_n 1, 1) := by decide +kernel
theorem d1_122 : decode method_4_code 122 = .ok (.iconst 2, 1) := by decide +kernel
theorem d1_123 : decode method_4_code 123 = .ok (.caload, 1) := by decide +kernel
theorem d1_124 : decode method_4_code 124 = .ok (.castore, 1) := by decide +kernel
theorem d1_125 : decode method_4_code 125 = .ok (.dup, 1) := by decide +kernel
theorem d1_126 : decode method_4_code 126 = .ok (.iconst 3, 1) := by decide +kernel
theorem d1_127 : decode method_4_code 127 = .ok (.aload_n 1, 1) := by decide +kernel
theorem d1_128 : decode method_4_code 128 = .ok (.iconst 3, 1) := by decide +kernel
theorem d1_129 : decode method_4_code 129 = .ok (.caload, 1) := by decide +kernel
theorem d1_130 : decode method_4_code 130 = .ok (.castore, 1) := by decide +kernel
theorem d1_131 : decode method_4_code 131 = .ok (.dup, 1) := by decide +kernel
theorem d1_132 : decode method_4_code 132 = .ok (.iconst 4, 1) := by decide +kernel
theorem d1_133 : decode method_4_code 133 = .ok (.aload_n 1, 1) := by decide +kernel
theorem d1_134 : decode method_4_code 134 = .ok (.iconst 4, 1) := by decide +kernel
theorem d1_135 : decode method_4_code 135 = .ok (.caload, 1) := by decide +kernel
theorem d1_136 : decode method_4_code 136 = .ok (.castore, 1) := by decide +kernel
theorem d1_137 : decode method_4_code 137 = .ok (.areturn, 1) := by decide +kernel
set_option maxRecDepth 65536 in
set_option maxHeartbeats 40000000 in
theorem ctPk0 (l : Launch) (Z : State) (a0 : Array Value) (hw : ∀ d ∈ tables_1, d.before a0 Z = true) (hEL : EW Z a0 consts_1) (z0 : Int32) (S0 : Sta Z Z.heap "java/lang/String" "COMPACT_STRINGS" "Z" (.int z0)) (hz0 : ¬ z0 = 0) (b : Addr) (kb : ClassId) (c0 c1 c2 c3 c4 : Int32) (h0 : Heap) (n0 : Nat) (A0 : Arv Z h0 b kb .char (5 : Int32) [(.int c0), (.int c1), (.int c2), (.int c3), (.int c4)] (.int (0 : Int32))) (r0 : Rb c0) (r1 : Rb c1) (r2 : Rb c2) (r3 : Rb c3) (r4 : Rb c4) :
    Ct l Z consts_1 [] (⟨"com/example/abox/abox/InputExceptionFirstLinePinLaw", "pick", "(I[C)[C"⟩ : MethodName) method_4_code 2 (some (.array .char)) ({ frames := 0, cells := 1, slots := 0, locals := 0 } : Room) #[(.int (0 : Int32)), (.ref b)] h0 n0 [] (fun v h => ∃ (r : Addr) (kr : ClassId), v = some (.ref r) ∧ Arv Z h r kr .char (0 : Int32) [] (.int (0 : Int32))) := by
  have w : ∀ {d : Jvm.Cond} (i : Nat), tables_1[i]? = some d → d.before a0 Z = true := fun i q => hw _ (List.mem_of_getElem? q)
  refine Ct.enter (plainFor_of_name pn_6) hEL ?_
  intro p e sS m below meth c T0 hby hml0 hret hlk hnm hs0 X0
  have hml : c.maxLocals = 2 := hml0
  have D : ∀ {pc : Nat} {r : Except DecodeError (Instr × Nat)}, decode method_4_code pc = r → decode c.code pc = r := fun q => hb hby q
  rw [show entryFrame m #[(.int (0 : Int32)), (.ref b)] 2 = mkF m 0 #[.val (.int (0 : Int32)), .val (.ref b)] [] from by first | (simp [entryFrame, mkF, argsToLocals, Value.category]; done) | rfl]
  refine X0.iloadN (x := (0 : Int32)) (D d1_0) rfl ?_
  refine X0.if_ne 8 (D d1_1) ⟨by decide, by decide⟩ (fun hc1358 => absurd hc1358 (by decide)) (fun hc1358 => ?_)
  refine X0.iconst (x := (0 : Int32)) (D d1_4) rfl ?_
  refine X0.newarr (w 0 rfl) (n := (0 : Int32)) (D d1_5) (by decide) 0 (by decide) (by decide) (by decide) (by decide) ?_
  intro T1359 h1360 b1361 kb1362 g1363 X1364 E1365 A1366
  have F1367 := A0.ext E1365
  have lt1368 : b < b1361 := by rw [g1363]; exact A0.lt
  have F1369 : Arv Z h1360 b1361 kb1362 .char (0 : Int32) [] (.int (0 : Int32)) := A1366
  show Goes p.tables e below _ (T1359.setTop (mkF m 7 #[.val (.int (0 : Int32)), .val (.ref b)] [(.ref b1361)]))
  exact X1364.retA hret rfl rfl hlk (D d1_7) (by decide) (by decide) (⟨_, _, rfl, F1369⟩)
set_option maxRecDepth 65536 in
set_option maxHeartbeats 40000000 in
theorem ctPk1 (l : Launch) (Z : State) (a0 : Array Value) (hw : ∀ d ∈ tables_1, d.before a0 Z = true) (hEL : EW Z a0 consts_1) (z0 : Int32) (S0 : Sta Z Z.heap "java/lang/String" "COMPACT_STRINGS" "Z" (.int z0)) (hz0 : ¬ z0 = 0) (b : Addr) (kb : ClassId) (c0 c1 c2 c3 c4 : Int32) (h0 : Heap) (n0 : Nat) (A0 : Arv Z h0 b kb .char (5 : Int32) [(.int c0), (.int c1), (.int c2), (.int c3), (.int c4)] (.int (0 : Int32))) (r0 : Rb c0) (r1 : Rb c1) (r2 : Rb c2) (r3 : Rb c3) (r4 : Rb c4) :
    Ct l Z consts_1 [] (⟨"com/example/abox/abox/InputExceptionFirstLinePinLaw", "pick", "(I[C)[C"⟩ : MethodName) method_4_code 2 (some (.array .char)) ({ frames := 0, cells := 1, slots := 1, locals := 0 } : Room) #[(.int (1 : Int32)), (.ref b)] h0 n0 [] (fun v h => ∃ (r : Addr) (kr : ClassId), v = some (.ref r) ∧ Arv Z h r kr .char (1 : Int32) [(.int c0)] (.int (0 : Int32))) := by
  have w : ∀ {d : Jvm.Cond} (i : Nat), tables_1[i]? = some d → d.before a0 Z = true := fun i q => hw _ (List.mem_of_getElem? q)
  refine Ct.enter (plainFor_of_name pn_6) hEL ?_
  intro p e sS m below meth c T0 hby hml0 hret hlk hnm hs0 X0
  have hml : c.maxLocals = 2 := hml0
  have D : ∀ {pc : Nat} {r : Except DecodeError (Instr × Nat)}, decode method_4_code pc = r → decode c.code pc = r := fun q => hb hby q
  rw [show entryFrame m #[(.int (1 : Int32)), (.ref b)] 2 = mkF m 0 #[.val (.int (1 : Int32)), .val (.ref b)] [] from by first | (simp [entryFrame, mkF, argsToLocals, Value.category]; done) | rfl]
  refine X0.iloadN (x := (1 : Int32)) (D d1_0) rfl ?_
  refine X0.if_ne 8 (D d1_1) ⟨by decide, by decide⟩ (fun hc1370 => ?_) (fun hc1370 => absurd hc1370 (by decide))
  refine X0.iloadN (x := (1 : Int32)) (D d1_8) rfl ?_
  refine X0.iconst (x := (1 : Int32)) (D d1_9) rfl ?_
  refine X0.icmp_ne 23 (D d1_10) ⟨by decide, by decide⟩ (fun hc1371 => absurd hc1371 (by decide)) (fun hc1371 => ?_)
  refine X0.iconst (x := (1 : Int32)) (D d1_13) rfl ?_
  refine X0.newarr (w 0 rfl) (n := (1 : Int32)) (D d1_14) (by decide) 1 (by decide) (by decide) (by decide) (by decide) ?_
  intro T1372 h1373 b1374 kb1375 g1376 X1377 E1378 A1379
  have F1380 := A0.ext E1378
  have lt1381 : b < b1374 := by rw [g1376]; exact A0.lt
  have F1382 : Arv Z h1373 b1374 kb1375 .char (1 : Int32) [(.int (0 : Int32))] (.int (0 : Int32)) := A1379.pad (pad_rep [] (.int (0 : Int32)) 1)
  show Goes p.tables e below _ (T1372.setTop (mkF m 16 #[.val (.int (1 : Int32)), .val (.ref b)] [(.ref b1374)]))
  refine X1377.dup (D d1_16) rfl ?_
  refine X1377.iconst (x := (0 : Int32)) (D d1_17) rfl ?_
  refine X1377.aloadN (x := (.ref b)) (D d1_18) rfl rfl ?_
  refine X1377.iconst (x := (0 : Int32)) (D d1_19) rfl ?_
  show Goes p.tables e below _ (T1372.setTop (mkF m 20 #[.val (.int (1 : Int32)), .val (.ref b)] [(.int (0 : Int32)), (.ref b), (.int (0 : Int32)), (.ref b1374), (.ref b1374)]))
  refine X1377.caload (v := (.int c0)) F1380 ⟨by decide, by decide⟩ rfl (D d1_20) ?_
  show Goes p.tables e below _ (T1372.setTop (mkF m 21 #[.val (.int (1 : Int32)), .val (.ref b)] [(.int c0), (.int (0 : Int32)), (.ref b1374), (.ref b1374)]))
  show Goes p.tables e below _ (T1372.setTop (mkF m 21 #[.val (.int (1 : Int32)), .val (.ref b)] [(.int c0), (.int (0 : Int32)), (.ref b1374), (.ref b1374)]))
  refine X1377.castore F1382 ⟨by decide, by decide⟩ 0 rfl (Nat.le_of_ble_eq_true rfl) (by simp) (D d1_21) ?_
  intro T1383 h1384 X1385 W1386 A1387
  have F1388 := F1380.other W1386 (Nat.ne_of_lt lt1381)
  have F1389 : Arv Z h1384 b1374 kb1375 .char (1 : Int32) [(.int c0)] (.int (0 : Int32)) := by rw [nar_id r0] at A1387; exact A1387
  show Goes p.tables e below _ (T1383.setTop (mkF m 22 #[.val (.int (1 : Int32)), .val (.ref b)] [(.ref b1374)]))
  exact X1385.retA hret rfl rfl hlk (D d1_22) (by decide) (by decide) (⟨_, _, rfl, F1389⟩)
set_option maxRecDepth 65536 in
set_option maxHeartbeats 40000000 in
theorem ctPk2 (l : Launch) (Z : State) (a0 : Array Value) (hw : ∀ d ∈ tables_1, d.before a0 Z = true) (hEL : EW Z a0 consts_1) (z0 : Int32) (S0 : Sta Z Z.heap "java/lang/String" "COMPACT_STRINGS" "Z" (.int z0)) (hz0 : ¬ z0 = 0) (b : Addr) (kb : ClassId) (c0 c1 c2 c3 c4 : Int32) (h0 : Heap) (n0 : Nat) (A0 : Arv Z h0 b kb .char (5 : Int32) [(.int c0), (.int c1), (.int c2), (.int c3), (.int c4)] (.int (0 : Int32))) (r0 : Rb c0) (r1 : Rb c1) (r2 : Rb c2) (r3 : Rb c3) (r4 : Rb c4) :
    Ct l Z consts_1 [] (⟨"com/example/abox/abox/InputExceptionFirstLinePinLaw", "pick", "(I[C)[C"⟩ : MethodName) method_4_code 2 (some (.array .char)) ({ frames := 0, cells := 1, slots := 2, locals := 0 } : Room) #[(.int (2 : Int32)), (.ref b)] h0 n0 [] (fun v h => ∃ (r : Addr) (kr : ClassId), v = some (.ref r) ∧ Arv Z h r kr .char (2 : Int32) [(.int c0), (.int c1)] (.int (0 : Int32))) := by
  have w : ∀ {d : Jvm.Cond} (i : Nat), tables_1[i]? = some d → d.before a0 Z = true := fun i q => hw _ (List.mem_of_getElem? q)
  refine Ct.enter (plainFor_of_name pn_6) hEL ?_
  intro p e sS m below meth c T0 hby hml0 hret hlk hnm hs0 X0
  have hml : c.maxLocals = 2 := hml0
  have D : ∀ {pc : Nat} {r : Except DecodeError (Instr × Nat)}, decode method_4_code pc = r → decode c.code pc = r := fun q => hb hby q
  rw [show entryFrame m #[(.int (2 : Int32)), (.ref b)] 2 = mkF m 0 #[.val (.int (2 : Int32)), .val (.ref b)] [] from by first | (simp [entryFrame, mkF, argsToLocals, Value.category]; done) | rfl]
  refine X0.iloadN (x := (2 : Int32)) (D d1_0) rfl ?_
  refine X0.if_ne 8 (D d1_1) ⟨by decide, by decide⟩ (fun hc1390 => ?_) (fun hc1390 => absurd hc1390 (by decide))
  refine X0.iloadN (x := (2 : Int32)) (D d1_8) rfl ?_
  refine X0.iconst (x := (1 : Int32)) (D d1_9) rfl ?_
  refine X0.icmp_ne 23 (D d1_10) ⟨by decide, by decide⟩ (fun hc1391 => ?_) (fun hc1391 => absurd hc1391 (by decide))
  refine X0.iloadN (x := (2 : Int32)) (D d1_23) rfl ?_
  refine X0.iconst (x := (2 : Int32)) (D d1_24) rfl ?_
  refine X0.icmp_ne 44 (D d1_25) ⟨by decide, by decide⟩ (fun hc1392 => absurd hc1392 (by decide)) (fun hc1392 => ?_)
  refine X0.iconst (x := (2 : Int32)) (D d1_28) rfl ?_
  refine X0.newarr (w 0 rfl) (n := (2 : Int32)) (D d1_29) (by decide) 2 (by decide) (by decide) (by decide) (by decide) ?_
  intro T1393 h1394 b1395 kb1396 g1397 X1398 E1399 A1400
  have F1401 := A0.ext E1399
  have lt1402 : b < b1395 := by rw [g1397]; exact A0.lt
  have F1403 : Arv Z h1394 b1395 kb1396 .char (2 : Int32) [(.int (0 : Int32)), (.int (0 : Int32))] (.int (0 : Int32)) := A1400.pad (pad_rep [] (.int (0 : Int32)) 2)
  show Goes p.tables e below _ (T1393.setTop (mkF m 31 #[.val (.int (2 : Int32)), .val (.ref b)] [(.ref b1395)]))
  refine X1398.dup (D d1_31) rfl ?_
  refine X1398.iconst (x := (0 : Int32)) (D d1_32) rfl ?_
  refine X1398.aloadN (x := (.ref b)) (D d1_33) rfl rfl ?_
  refine X1398.iconst (x := (0 : Int32)) (D d1_34) rfl ?_
  show Goes p.tables e below _ (T1393.setTop (mkF m 35 #[.val (.int (2 : Int32)), .val (.ref b)] [(.int (0 : Int32)), (.ref b), (.int (0 : Int32)), (.ref b1395), (.ref b1395)]))
  refine X1398.caload (v := (.int c0)) F1401 ⟨by decide, by decide⟩ rfl (D d1_35) ?_
  show Goes p.tables e below _ (T1393.setTop (mkF m 36 #[.val (.int (2 : Int32)), .val (.ref b)] [(.int c0), (.int (0 : Int32)), (.ref b1395), (.ref b1395)]))
  show Goes p.tables e below _ (T1393.setTop (mkF m 36 #[.val (.int (2 : Int32)), .val (.ref b)] [(.int c0), (.int (0 : Int32)), (.ref b1395), (.ref b1395)]))
  refine X1398.castore F1403 ⟨by decide, by decide⟩ 0 rfl (Nat.le_of_ble_eq_true rfl) (by simp) (D d1_36) ?_
  intro T1404 h1405 X1406 W1407 A1408
  have F1409 := F1401.other W1407 (Nat.ne_of_lt lt1402)
  have F1410 : Arv Z h1405 b1395 kb1396 .char (2 : Int32) [(.int c0), (.int (0 : Int32))] (.int (0 : Int32)) := by rw [nar_id r0] at A1408; exact A1408
  show Goes p.tables e below _ (T1404.setTop (mkF m 37 #[.val (.int (2 : Int32)), .val (.ref b)] [(.ref b1395)]))
  refine X1406.dup (D d1_37) rfl ?_
  refine X1406.iconst (x := (1 : Int32)) (D d1_38) rfl ?_
  refine X1406.aloadN (x := (.ref b)) (D d1_39) rfl rfl ?_
  refine X1406.iconst (x := (1 : Int32)) (D d1_40) rfl ?_
  show Goes p.tables e below _ (T1404.setTop (mkF m 41 #[.val (.int (2 : Int32)), .val (.ref b)] [(.int (1 : Int32)), (.ref b), (.int (1 : Int32)), (.ref b1395), (.ref b1395)]))
  refine X1406.caload (v := (.int c1)) F1409 ⟨by decide, by decide⟩ rfl (D d1_41) ?_
  show Goes p.tables e below _ (T1404.setTop (mkF m 42 #[.val (.int (2 : Int32)), .val (.ref b)] [(.int c1), (.int (1 : Int32)), (.ref b1395), (.ref b1395)]))
  show Goes p.tables e below _ (T1404.setTop (mkF m 42 #[.val (.int (2 : Int32)), .val (.ref b)] [(.int c1), (.int (1 : Int32)), (.ref b1395), (.ref b1395)]))
  refine X1406.castore F1410 ⟨by decide, by decide⟩ 1 rfl (Nat.le_of_ble_eq_true rfl) (by simp) (D d1_42) ?_
  intro T1411 h1412 X1413 W1414 A1415
  have F1416 := F1409.other W1414 (Nat.ne_of_lt lt1402)
  have F1417 : Arv Z h1412 b1395 kb1396 .char (2 : Int32) [(.int c0), (.int c1)] (.int (0 : Int32)) := by rw [nar_id r1] at A1415; exact A1415
  show Goes p.tables e below _ (T1411.setTop (mkF m 43 #[.val (.int (2 : Int32)), .val (.ref b)] [(.ref b1395)]))
  exact X1413.retA hret rfl rfl hlk (D d1_43) (by decide) (by decide) (⟨_, _, rfl, F1417⟩)
set_option maxRecDepth 65536 in
set_option maxHeartbeats 40000000 in
theorem ctPk3 (l : Launch) (Z : State) (a0 : Array Value) (hw : ∀ d ∈ tables_1, d.before a0 Z = true) (hEL : EW Z a0 consts_1) (z0 : Int32) (S0 : Sta Z Z.heap "java/lang/String" "COMPACT_STRINGS" "Z" (.int z0)) (hz0 : ¬ z0 = 0) (b : Addr) (kb : ClassId) (c0 c1 c2 c3 c4 : Int32) (h0 : Heap) (n0 : Nat) (A0 : Arv Z h0 b kb .char (5 : Int32) [(.int c0), (.int c1), (.int c2), (.int c3), (.int c4)] (.int (0 : Int32))) (r0 : Rb c0) (r1 : Rb c1) (r2 : Rb c2) (r3 : Rb c3) (r4 : Rb c4) :
    Ct l Z consts_1 [] (⟨"com/example/abox/abox/InputExceptionFirstLinePinLaw", "pick", "(I[C)[C"⟩ : MethodName) method_4_code 2 (some (.array .char)) ({ frames := 0, cells := 1, slots := 3, locals := 0 } : Room) #[(.int (3 : Int32)), (.ref b)] h0 n0 [] (fun v h => ∃ (r : Addr) (kr : ClassId), v = some (.ref r) ∧ Arv Z h r kr .char (3 : Int32) [(.int c0), (.int c1), (.int c2)] (.int (0 : Int32))) := by
  have w : ∀ {d : Jvm.Cond} (i : Nat), tables_1[i]? = some d → d.before a0 Z = true := fun i q => hw _ (List.mem_of_getElem? q)
  refine Ct.enter (plainFor_of_name pn_6) hEL ?_
  intro p e sS m below meth c T0 hby hml0 hret hlk hnm hs0 X0
  have hml : c.maxLocals = 2 := hml0
  have D : ∀ {pc : Nat} {r : Except DecodeError (Instr × Nat)}, decode method_4_code pc = r → decode c.code pc = r := fun q => hb hby q
  rw [show entryFrame m #[(.int (3 : Int32)), (.ref b)] 2 = mkF m 0 #[.val (.int (3 : Int32)), .val (.ref b)] [] from by first | (simp [entryFrame, mkF, argsToLocals, Value.category]; done) | rfl]
  refine X0.iloadN (x := (3 : Int32)) (D d1_0) rfl ?_
  refine X0.if_ne 8 (D d1_1) ⟨by decide, by decide⟩ (fun hc1418 => ?_) (fun hc1418 => absurd hc1418 (by decide))
  refine X0.iloadN (x := (3 : Int32)) (D d1_8) rfl ?_
  refine X0.iconst (x := (1 : Int32)) (D d1_9) rfl ?_
  refine X0.icmp_ne 23 (D d1_10) ⟨by decide, by decide⟩ (fun hc1419 => ?_) (fun hc1419 => absurd hc1419 (by decide))
  refine X0.iloadN (x := (3 : Int32)) (D d1_23) rfl ?_
  refine X0.iconst (x := (2 : Int32)) (D d1_24) rfl ?_
  refine X0.icmp_ne 44 (D d1_25) ⟨by decide, by decide⟩ (fun hc1420 => ?_) (fun hc1420 => absurd hc1420 (by decide))
  refine X0.iloadN (x := (3 : Int32)) (D d1_44) rfl ?_
  refine X0.iconst (x := (3 : Int32)) (D d1_45) rfl ?_
  refine X0.icmp_ne 71 (D d1_46) ⟨by decide, by decide⟩ (fun hc1421 => absurd hc1421 (by decide)) (fun hc1421 => ?_)
  refine X0.iconst (x := (3 : Int32)) (D d1_49) rfl ?_
  refine X0.newarr (w 0 rfl) (n := (3 : Int32)) (D d1_50) (by decide) 3 (by decide) (by decide) (by decide) (by decide) ?_
  intro T1422 h1423 b1424 kb1425 g1426 X1427 E1428 A1429
  have F1430 := A0.ext E1428
  have lt1431 : b < b1424 := by rw [g1426]; exact A0.lt
  have F1432 : Arv Z h1423 b1424 kb1425 .char (3 : Int32) [(.int (0 : Int32)), (.int (0 : Int32)), (.int (0 : Int32))] (.int (0 : Int32)) := A1429.pad (pad_rep [] (.int (0 : Int32)) 3)
  show Goes p.tables e below _ (T1422.setTop (mkF m 52 #[.val (.int (3 : Int32)), .val (.ref b)] [(.ref b1424)]))
  refine X1427.dup (D d1_52) rfl ?_
  refine X1427.iconst (x := (0 : Int32)) (D d1_53) rfl ?_
  refine X1427.aloadN (x := (.ref b)) (D d1_54) rfl rfl ?_
  refine X1427.iconst (x := (0 : Int32)) (D d1_55) rfl ?_
  show Goes p.tables e below _ (T1422.setTop (mkF m 56 #[.val (.int (3 : Int32)), .val (.ref b)] [(.int (0 : Int32)), (.ref b), (.int (0 : Int32)), (.ref b1424), (.ref b1424)]))
  refine X1427.caload (v := (.int c0)) F1430 ⟨by decide, by decide⟩ rfl (D d1_56) ?_
  show Goes p.tables e below _ (T1422.setTop (mkF m 57 #[.val (.int (3 : Int32)), .val (.ref b)] [(.int c0), (.int (0 : Int32)), (.ref b1424), (.ref b1424)]))
  show Goes p.tables e below _ (T1422.setTop (mkF m 57 #[.val (.int (3 : Int32)), .val (.ref b)] [(.int c0), (.int (0 : Int32)), (.ref b1424), (.ref b1424)]))
  refine X1427.castore F1432 ⟨by decide, by decide⟩ 0 rfl (Nat.le_of_ble_eq_true rfl) (by simp) (D d1_57) ?_
  intro T1433 h1434 X1435 W1436 A1437
  have F1438 := F1430.other W1436 (Nat.ne_of_lt lt1431)
  have F1439 : Arv Z h1434 b1424 kb1425 .char (3 : Int32) [(.int c0), (.int (0 : Int32)), (.int (0 : Int32))] (.int (0 : Int32)) := by rw [nar_id r0] at A1437; exact A1437
  show Goes p.tables e below _ (T1433.setTop (mkF m 58 #[.val (.int (3 : Int32)), .val (.ref b)] [(.ref b1424)]))
  refine X1435.dup (D d1_58) rfl ?_
  refine X1435.iconst (x := (1 : Int32)) (D d1_59) rfl ?_
  refine X1435.aloadN (x := (.ref b)) (D d1_60) rfl rfl ?_
  refine X1435.iconst (x := (1 : Int32)) (D d1_61) rfl ?_
  show Goes p.tables e below _ (T1433.setTop (mkF m 62 #[.val (.int (3 : Int32)), .val (.ref b)] [(.int (1 : Int32)), (.ref b), (.int (1 : Int32)), (.ref b1424), (.ref b1424)]))
  refine X1435.caload (v := (.int c1)) F1438 ⟨by decide, by decide⟩ rfl (D d1_62) ?_
  show Goes p.tables e below _ (T1433.setTop (mkF m 63 #[.val (.int (3 : Int32)), .val (.ref b)] [(.int c1), (.int (1 : Int32)), (.ref b1424), (.ref b1424)]))
  show Goes p.tables e below _ (T1433.setTop (mkF m 63 #[.val (.int (3 : Int32)), .val (.ref b)] [(.int c1), (.int (1 : Int32)), (.ref b1424), (.ref b1424)]))
  refine X1435.castore F1439 ⟨by decide, by decide⟩ 1 rfl (Nat.le_of_ble_eq_true rfl) (by simp) (D d1_63) ?_
  intro T1440 h1441 X1442 W1443 A1444
  have F1445 := F1438.other W1443 (Nat.ne_of_lt lt1431)
  have F1446 : Arv Z h1441 b1424 kb1425 .char (3 : Int32) [(.int c0), (.int c1), (.int (0 : Int32))] (.int (0 : Int32)) := by rw [nar_id r1] at A1444; exact A1444
  show Goes p.tables e below _ (T1440.setTop (mkF m 64 #[.val (.int (3 : Int32)), .val (.ref b)] [(.ref b1424)]))
  refine X1442.dup (D d1_64) rfl ?_
  refine X1442.iconst (x := (2 : Int32)) (D d1_65) rfl ?_
  refine X1442.aloadN (x := (.ref b)) (D d1_66) rfl rfl ?_
  refine X1442.iconst (x := (2 : Int32)) (D d1_67) rfl ?_
  show Goes p.tables e below _ (T1440.setTop (mkF m 68 #[.val (.int (3 : Int32)), .val (.ref b)] [(.int (2 : Int32)), (.ref b), (.int (2 : Int32)), (.ref b1424), (.ref b1424)]))
  refine X1442.caload (v := (.int c2)) F1445 ⟨by decide, by decide⟩ rfl (D d1_68) ?_
  show Goes p.tables e below _ (T1440.setTop (mkF m 69 #[.val (.int (3 : Int32)), .val (.ref b)] [(.int c2), (.int (2 : Int32)), (.ref b1424), (.ref b1424)]))
  show Goes p.tables e below _ (T1440.setTop (mkF m 69 #[.val (.int (3 : Int32)), .val (.ref b)] [(.int c2), (.int (2 : Int32)), (.ref b1424), (.ref b1424)]))
  refine X1442.castore F1446 ⟨by decide, by decide⟩ 2 rfl (Nat.le_of_ble_eq_true rfl) (by simp) (D d1_69) ?_
  intro T1447 h1448 X1449 W1450 A1451
  have F1452 := F1445.other W1450 (Nat.ne_of_lt lt1431)
  have F1453 : Arv Z h1448 b1424 kb1425 .char (3 : Int32) [(.int c0), (.int c1), (.int c2)] (.int (0 : Int32)) := by rw [nar_id r2] at A1451; exact A1451
  show Goes p.tables e below _ (T1447.setTop (mkF m 70 #[.val (.int (3 : Int32)), .val (.ref b)] [(.ref b1424)]))
  exact X1449.retA hret rfl rfl hlk (D d1_70) (by decide) (by decide) (⟨_, _, rfl, F1453⟩)
set_option maxRecDepth 65536 in
set_option maxHeartbeats 40000000 in
theorem ctPk4 (l : Launch) (Z : State) (a0 : Array Value) (hw : ∀ d ∈ tables_1, d.before a0 Z = true) (hEL : EW Z a0 consts_1) (z0 : Int32) (S0 : Sta Z Z.heap "java/lang/String" "COMPACT_STRINGS" "Z" (.int z0)) (hz0 : ¬ z0 = 0) (b : Addr) (kb : ClassId) (c0 c1 c2 c3 c4 : Int32) (h0 : Heap) (n0 : Nat) (A0 : Arv Z h0 b kb .char (5 : Int32) [(.int c0), (.int c1), (.int c2), (.int c3), (.int c4)] (.int (0 : Int32))) (r0 : Rb c0) (r1 : Rb c1) (r2 : Rb c2) (r3 : Rb c3) (r4 : Rb c4) :
    Ct l Z consts_1 [] (⟨"com/example/abox/abox/InputExceptionFirstLinePinLaw", "pick", "(I[C)[C"⟩ : MethodName) method_4_code 2 (some (.array .char)) ({ frames := 0, cells := 1, slots := 4, locals := 0 } : Room) #[(.int (4 : Int32)), (.ref b)] h0 n0 [] (fun v h => ∃ (r : Addr) (kr : ClassId), v = some (.ref r) ∧ Arv Z h r kr .char (4 : Int32) [(.int c0), (.int c1), (.int c2), (.int c3)] (.int (0 : Int32))) := by
  have w : ∀ {d : Jvm.Cond} (i : Nat), tables_1[i]? = some d → d.before a0 Z = true := fun i q => hw _ (List.mem_of_getElem? q)
  refine Ct.enter (plainFor_of_name pn_6) hEL ?_
  intro p e sS m below meth c T0 hby hml0 hret hlk hnm hs0 X0
  have hml : c.maxLocals = 2 := hml0
  have D : ∀ {pc : Nat} {r : Except DecodeError (Instr × Nat)}, decode method_4_code pc = r → decode c.code pc = r := fun q => hb hby q
  rw [show entryFrame m #[(.int (4 : Int32)), (.ref b)] 2 = mkF m 0 #[.val (.int (4 : Int32)), .val (.ref b)] [] from by first | (simp [entryFrame, mkF, argsToLocals, Value.category]; done) | rfl]
  refine X0.iloadN (x := (4 : Int32)) (D d1_0) rfl ?_
  refine X0.if_ne 8 (D d1_1) ⟨by decide, by decide⟩ (fun hc1454 => ?_) (fun hc1454 => absurd hc1454 (by decide))
  refine X0.iloadN (x := (4 : Int32)) (D d1_8) rfl ?_
  refine X0.iconst (x := (1 : Int32)) (D d1_9) rfl ?_
  refine X0.icmp_ne 23 (D d1_10) ⟨by decide, by decide⟩ (fun hc1455 => ?_) (fun hc1455 => absurd hc1455 (by decide))
  refine X0.iloadN (x := (4 : Int32)) (D d1_23) rfl ?_
  refine X0.iconst (x := (2 : Int32)) (D d1_24) rfl ?_
  refine X0.icmp_ne 44 (D d1_25) ⟨by decide, by decide⟩ (fun hc1456 => ?_) (fun hc1456 => absurd hc1456 (by decide))
  refine X0.iloadN (x := (4 : Int32)) (D d1_44) rfl ?_
  refine X0.iconst (x := (3 : Int32)) (D d1_45) rfl ?_
  refine X0.icmp_ne 71 (D d1_46) ⟨by decide, by decide⟩ (fun hc1457 => ?_) (fun hc1457 => absurd hc1457 (by decide))
  refine X0.iloadN (x := (4 : Int32)) (D d1_71) rfl ?_
  refine X0.iconst (x := (4 : Int32)) (D d1_72) rfl ?_
  refine X0.icmp_ne 104 (D d1_73) ⟨by decide, by decide⟩ (fun hc1458 => absurd hc1458 (by decide)) (fun hc1458 => ?_)
  refine X0.iconst (x := (4 : Int32)) (D d1_76) rfl ?_
  refine X0.newarr (w 0 rfl) (n := (4 : Int32)) (D d1_77) (by decide) 4 (by decide) (by decide) (by decide) (by decide) ?_
  intro T1459 h1460 b1461 kb1462 g1463 X1464 E1465 A1466
  have F1467 := A0.ext E1465
  have lt1468 : b < b1461 := by rw [g1463]; exact A0.lt
  have F1469 : Arv Z h1460 b1461 kb1462 .char (4 : Int32) [(.int (0 : Int32)), (.int (0 : Int32)), (.int (0 : Int32)), (.int (0 : Int32))] (.int (0 : Int32)) := A1466.pad (pad_rep [] (.int (0 : Int32)) 4)
  show Goes p.tables e below _ (T1459.setTop (mkF m 79 #[.val (.int (4 : Int32)), .val (.ref b)] [(.ref b1461)]))
  refine X1464.dup (D d1_79) rfl ?_
  refine X1464.iconst (x := (0 : Int32)) (D d1_80) rfl ?_
  refine X1464.aloadN (x := (.ref b)) (D d1_81) rfl rfl ?_
  refine X1464.iconst (x := (0 : Int32)) (D d1_82) rfl ?_
  show Goes p.tables e below _ (T1459.setTop (mkF m 83 #[.val (.int (4 : Int32)), .val (.ref b)] [(.int (0 : Int32)), (.ref b), (.int (0 : Int32)), (.ref b1461), (.ref b1461)]))
  refine X1464.caload (v := (.int c0)) F1467 ⟨by decide, by decide⟩ rfl (D d1_83) ?_
  show Goes p.tables e below _ (T1459.setTop (mkF m 84 #[.val (.int (4 : Int32)), .val (.ref b)] [(.int c0), (.int (0 : Int32)), (.ref b1461), (.ref b1461)]))
  show Goes p.tables e below _ (T1459.setTop (mkF m 84 #[.val (.int (4 : Int32)), .val (.ref b)] [(.int c0), (.int (0 : Int32)), (.ref b1461), (.ref b1461)]))
  refine X1464.castore F1469 ⟨by decide, by decide⟩ 0 rfl (Nat.le_of_ble_eq_true rfl) (by simp) (D d1_84) ?_
  intro T1470 h1471 X1472 W1473 A1474
  have F1475 := F1467.other W1473 (Nat.ne_of_lt lt1468)
  have F1476 : Arv Z h1471 b1461 kb1462 .char (4 : Int32) [(.int c0), (.int (0 : Int32)), (.int (0 : Int32)), (.int (0 : Int32))] (.int (0 : Int32)) := by rw [nar_id r0] at A1474; exact A1474
  show Goes p.tables e below _ (T1470.setTop (mkF m 85 #[.val (.int (4 : Int32)), .val (.ref b)] [(.ref b1461)]))
  refine X1472.dup (D d1_85) rfl ?_
  refine X1472.iconst (x := (1 : Int32)) (D d1_86) rfl ?_
  refine X1472.aloadN (x := (.ref b)) (D d1_87) rfl rfl ?_
  refine X1472.iconst (x := (1 : Int32)) (D d1_88) rfl ?_
  show Goes p.tables e below _ (T1470.setTop (mkF m 89 #[.val (.int (4 : Int32)), .val (.ref b)] [(.int (1 : Int32)), (.ref b), (.int (1 : Int32)), (.ref b1461), (.ref b1461)]))
  refine X1472.caload (v := (.int c1)) F1475 ⟨by decide, by decide⟩ rfl (D d1_89) ?_
  show Goes p.tables e below _ (T1470.setTop (mkF m 90 #[.val (.int (4 : Int32)), .val (.ref b)] [(.int c1), (.int (1 : Int32)), (.ref b1461), (.ref b1461)]))
  show Goes p.tables e below _ (T1470.setTop (mkF m 90 #[.val (.int (4 : Int32)), .val (.ref b)] [(.int c1), (.int (1 : Int32)), (.ref b1461), (.ref b1461)]))
  refine X1472.castore F1476 ⟨by decide, by decide⟩ 1 rfl (Nat.le_of_ble_eq_true rfl) (by simp) (D d1_90) ?_
  intro T1477 h1478 X1479 W1480 A1481
  have F1482 := F1475.other W1480 (Nat.ne_of_lt lt1468)
  have F1483 : Arv Z h1478 b1461 kb1462 .char (4 : Int32) [(.int c0), (.int c1), (.int (0 : Int32)), (.int (0 : Int32))] (.int (0 : Int32)) := by rw [nar_id r1] at A1481; exact A1481
  show Goes p.tables e below _ (T1477.setTop (mkF m 91 #[.val (.int (4 : Int32)), .val (.ref b)] [(.ref b1461)]))
  refine X1479.dup (D d1_91) rfl ?_
  refine X1479.iconst (x := (2 : Int32)) (D d1_92) rfl ?_
  refine X1479.aloadN (x := (.ref b)) (D d1_93) rfl rfl ?_
  refine X1479.iconst (x := (2 : Int32)) (D d1_94) rfl ?_
  show Goes p.tables e below _ (T1477.setTop (mkF m 95 #[.val (.int (4 : Int32)), .val (.ref b)] [(.int (2 : Int32)), (.ref b), (.int (2 : Int32)), (.ref b1461), (.ref b1461)]))
  refine X1479.caload (v := (.int c2)) F1482 ⟨by decide, by decide⟩ rfl (D d1_95) ?_
  show Goes p.tables e below _ (T1477.setTop (mkF m 96 #[.val (.int (4 : Int32)), .val (.ref b)] [(.int c2), (.int (2 : Int32)), (.ref b1461), (.ref b1461)]))
  show Goes p.tables e below _ (T1477.setTop (mkF m 96 #[.val (.int (4 : Int32)), .val (.ref b)] [(.int c2), (.int (2 : Int32)), (.ref b1461), (.ref b1461)]))
  refine X1479.castore F1483 ⟨by decide, by decide⟩ 2 rfl (Nat.le_of_ble_eq_true rfl) (by simp) (D d1_96) ?_
  intro T1484 h1485 X1486 W1487 A1488
  have F1489 := F1482.other W1487 (Nat.ne_of_lt lt1468)
  have F1490 : Arv Z h1485 b1461 kb1462 .char (4 : Int32) [(.int c0), (.int c1), (.int c2), (.int (0 : Int32))] (.int (0 : Int32)) := by rw [nar_id r2] at A1488; exact A1488
  show Goes p.tables e below _ (T1484.setTop (mkF m 97 #[.val (.int (4 : Int32)), .val (.ref b)] [(.ref b1461)]))
  refine X1486.dup (D d1_97) rfl ?_
  refine X1486.iconst (x := (3 : Int32)) (D d1_98) rfl ?_
  refine X1486.aloadN (x := (.ref b)) (D d1_99) rfl rfl ?_
  refine X1486.iconst (x := (3 : Int32)) (D d1_100) rfl ?_
  show Goes p.tables e below _ (T1484.setTop (mkF m 101 #[.val (.int (4 : Int32)), .val (.ref b)] [(.int (3 : Int32)), (.ref b), (.int (3 : Int32)), (.ref b1461), (.ref b1461)]))
  refine X1486.caload (v := (.int c3)) F1489 ⟨by decide, by decide⟩ rfl (D d1_101) ?_
  show Goes p.tables e below _ (T1484.setTop (mkF m 102 #[.val (.int (4 : Int32)), .val (.ref b)] [(.int c3), (.int (3 : Int32)), (.ref b1461), (.ref b1461)]))
  show Goes p.tables e below _ (T1484.setTop (mkF m 102 #[.val (.int (4 : Int32)), .val (.ref b)] [(.int c3), (.int (3 : Int32)), (.ref b1461), (.ref b1461)]))
  refine X1486.castore F1490 ⟨by decide, by decide⟩ 3 rfl (Nat.le_of_ble_eq_true rfl) (by simp) (D d1_102) ?_
  intro T1491 h1492 X1493 W1494 A1495
  have F1496 := F1489.other W1494 (Nat.ne_of_lt lt1468)
  have F1497 : Arv Z h1492 b1461 kb1462 .char (4 : Int32) [(.int c0), (.int c1), (.int c2), (.int c3)] (.int (0 : Int32)) := by rw [nar_id r3] at A1495; exact A1495
  show Goes p.tables e below _ (T1491.setTop (mkF m 103 #[.val (.int (4 : Int32)), .val (.ref b)] [(.ref b1461)]))
  exact X1493.retA hret rfl rfl hlk (D d1_103) (by decide) (by decide) (⟨_, _, rfl, F1497⟩)
set_option maxRecDepth 65536 in
set_option maxHeartbeats 40000000 in
theorem ctPk5 (l : Launch) (Z : State) (a0 : Array Value) (hw : ∀ d ∈ tables_1, d.before a0 Z = true) (hEL : EW Z a0 consts_1) (z0 : Int32) (S0 : Sta Z Z.heap "java/lang/String" "COMPACT_STRINGS" "Z" (.int z0)) (hz0 : ¬ z0 = 0) (b : Addr) (kb : ClassId) (c0 c1 c2 c3 c4 : Int32) (h0 : Heap) (n0 : Nat) (A0 : Arv Z h0 b kb .char (5 : Int32) [(.int c0), (.int c1), (.int c2), (.int c3), (.int c4)] (.int (0 : Int32))) (r0 : Rb c0) (r1 : Rb c1) (r2 : Rb c2) (r3 : Rb c3) (r4 : Rb c4) :
    Ct l Z consts_1 [] (⟨"com/example/abox/abox/InputExceptionFirstLinePinLaw", "pick", "(I[C)[C"⟩ : MethodName) method_4_code 2 (some (.array .char)) ({ frames := 0, cells := 1, slots := 5, locals := 0 } : Room) #[(.int (5 : Int32)), (.ref b)] h0 n0 [] (fun v h => ∃ (r : Addr) (kr : ClassId), v = some (.ref r) ∧ Arv Z h r kr .char (5 : Int32) [(.int c0), (.int c1), (.int c2), (.int c3), (.int c4)] (.int (0 : Int32))) := by
  have w : ∀ {d : Jvm.Cond} (i : Nat), tables_1[i]? = some d → d.before a0 Z = true := fun i q => hw _ (List.mem_of_getElem? q)
  refine Ct.enter (plainFor_of_name pn_6) hEL ?_
  intro p e sS m below meth c T0 hby hml0 hret hlk hnm hs0 X0
  have hml : c.maxLocals = 2 := hml0
  have D : ∀ {pc : Nat} {r : Except DecodeError (Instr × Nat)}, decode method_4_code pc = r → decode c.code pc = r := fun q => hb hby q
  rw [show entryFrame m #[(.int (5 : Int32)), (.ref b)] 2 = mkF m 0 #[.val (.int (5 : Int32)), .val (.ref b)] [] from by first | (simp [entryFrame, mkF, argsToLocals, Value.category]; done) | rfl]
  refine X0.iloadN (x := (5 : Int32)) (D d1_0) rfl ?_
  refine X0.if_ne 8 (D d1_1) ⟨by decide, by decide⟩ (fun hc1498 => ?_) (fun hc1498 => absurd hc1498 (by decide))
  refine X0.iloadN (x := (5 : Int32)) (D d1_8) rfl ?_
  refine X0.iconst (x := (1 : Int32)) (D d1_9) rfl ?_
  refine X0.icmp_ne 23 (D d1_10) ⟨by decide, by decide⟩ (fun hc1499 => ?_) (fun hc1499 => absurd hc1499 (by decide))
  refine X0.iloadN (x := (5 : Int32)) (D d1_23) rfl ?_
  refine X0.iconst (x := (2 : Int32)) (D d1_24) rfl ?_
  refine X0.icmp_ne 44 (D d1_25) ⟨by decide, by decide⟩ (fun hc1500 => ?_) (fun hc1500 => absurd hc1500 (by decide))
  refine X0.iloadN (x := (5 : Int32)) (D d1_44) rfl ?_
  refine X0.iconst (x := (3 : Int32)) (D d1_45) rfl ?_
  refine X0.icmp_ne 71 (D d1_46) ⟨by decide, by decide⟩ (fun hc1501 => ?_) (fun hc1501 => absurd hc1501 (by decide))
  refine X0.iloadN (x := (5 : Int32)) (D d1_71) rfl ?_
  refine X0.iconst (x := (4 : Int32)) (D d1_72) rfl ?_
  refine X0.icmp_ne 104 (D d1_73) ⟨by decide, by decide⟩ (fun hc1502 => ?_) (fun hc1502 => absurd hc1502 (by decide))
  refine X0.iconst (x := (5 : Int32)) (D d1_104) rfl ?_
  refine X0.newarr (w 0 rfl) (n := (5 : Int32)) (D d1_105) (by decide) 5 (by decide) (by decide) (by decide) (by decide) ?_
  intro T1503 h1504 b1505 kb1506 g1507 X1508 E1509 A1510
  have F1511 := A0.ext E1509
  have lt1512 : b < b1505 := by rw [g1507]; exact A0.lt
  have F1513 : Arv Z h1504 b1505 kb1506 .char (5 : Int32) [(.int (0 : Int32)), (.int (0 : Int32)), (.int (0 : Int32)), (.int (0 : Int32)), (.int (0 : Int32))] (.int (0 : Int32)) := A1510.pad (pad_rep [] (.int (0 : Int32)) 5)
  show Goes p.tables e below _ (T1503.setTop (mkF m 107 #[.val (.int (5 : Int32)), .val (.ref b)] [(.ref b1505)]))
  refine X1508.dup (D d1_107) rfl ?_
  refine X1508.iconst (x := (0 : Int32)) (D d1_108) rfl ?_
  refine X1508.aloadN (x := (.ref b)) (D d1_109) rfl rfl ?_
  refine X1508.iconst (x := (0 : Int32)) (D d1_110) rfl ?_
  show Goes p.tables e below _ (T1503.setTop (mkF m 111 #[.val (.int (5 : Int32)), .val (.ref b)] [(.int (0 : Int32)), (.ref b), (.int (0 : Int32)), (.ref b1505), (.ref b1505)]))
  refine X1508.caload (v := (.int c0)) F1511 ⟨by decide, by decide⟩ rfl (D d1_111) ?_
  show Goes p.tables e below _ (T1503.setTop (mkF m 112 #[.val (.int (5 : Int32)), .val (.ref b)] [(.int c0), (.int (0 : Int32)), (.ref b1505), (.ref b1505)]))
  show Goes p.tables e below _ (T1503.setTop (mkF m 112 #[.val (.int (5 : Int32)), .val (.ref b)] [(.int c0), (.int (0 : Int32)), (.ref b1505), (.ref b1505)]))
  refine X1508.castore F1513 ⟨by decide, by decide⟩ 0 rfl (Nat.le_of_ble_eq_true rfl) (by simp) (D d1_112) ?_
  intro T1514 h1515 X1516 W1517 A1518
  have F1519 := F1511.other W1517 (Nat.ne_of_lt lt1512)
  have F1520 : Arv Z h1515 b1505 kb1506 .char (5 : Int32) [(.int c0), (.int (0 : Int32)), (.int (0 : Int32)), (.int (0 : Int32)), (.int (0 : Int32))] (.int (0 : Int32)) := by rw [nar_id r0] at A1518; exact A1518
  show Goes p.tables e below _ (T1514.setTop (mkF m 113 #[.val (.int (5 : Int32)), .val (.ref b)] [(.ref b1505)]))
  refine X1516.dup (D d1_113) rfl ?_
  refine X1516.iconst (x := (1 : Int32)) (D d1_114) rfl ?_
  refine X1516.aloadN (x := (.ref b)) (D d1_115) rfl rfl ?_
  refine X1516.iconst (x := (1 : Int32)) (D d1_116) rfl ?_
  show Goes p.tables e below _ (T1514.setTop (mkF m 117 #[.val (.int (5 : Int32)), .val (.ref b)] [(.int (1 : Int32)), (.ref b), (.int (1 : Int32)), (.ref b1505), (.ref b1505)]))
  refine X1516.caload (v := (.int c1)) F1519 ⟨by decide, by decide⟩ rfl (D d1_117) ?_
  show Goes p.tables e below _ (T1514.setTop (mkF m 118 #[.val (.int (5 : Int32)), .val (.ref b)] [(.int c1), (.int (1 : Int32)), (.ref b1505), (.ref b1505)]))
  show Goes p.tables e below _ (T1514.setTop (mkF m 118 #[.val (.int (5 : Int32)), .val (.ref b)] [(.int c1), (.int (1 : Int32)), (.ref b1505), (.ref b1505)]))
  refine X1516.castore F1520 ⟨by decide, by decide⟩ 1 rfl (Nat.le_of_ble_eq_true rfl) (by simp) (D d1_118) ?_
  intro T1521 h1522 X1523 W1524 A1525
  have F1526 := F1519.other W1524 (Nat.ne_of_lt lt1512)
  have F1527 : Arv Z h1522 b1505 kb1506 .char (5 : Int32) [(.int c0), (.int c1), (.int (0 : Int32)), (.int (0 : Int32)), (.int (0 : Int32))] (.int (0 : Int32)) := by rw [nar_id r1] at A1525; exact A1525
  show Goes p.tables e below _ (T1521.setTop (mkF m 119 #[.val (.int (5 : Int32)), .val (.ref b)] [(.ref b1505)]))
  refine X1523.dup (D d1_119) rfl ?_
  refine X1523.iconst (x := (2 : Int32)) (D d1_120) rfl ?_
  refine X1523.aloadN (x := (.ref b)) (D d1_121) rfl rfl ?_
  refine X1523.iconst (x := (2 : Int32)) (D d1_122) rfl ?_
  show Goes p.tables e below _ (T1521.setTop (mkF m 123 #[.val (.int (5 : Int32)), .val (.ref b)] [(.int (2 : Int32)), (.ref b), (.int (2 : Int32)), (.ref b1505), (.ref b1505)]))
  refine X1523.caload (v := (.int c2)) F1526 ⟨by decide, by decide⟩ rfl (D d1_123) ?_
  show Goes p.tables e below _ (T1521.setTop (mkF m 124 #[.val (.int (5 : Int32)), .val (.ref b)] [(.int c2), (.int (2 : Int32)), (.ref b1505), (.ref b1505)]))
  show Goes p.tables e below _ (T1521.setTop (mkF m 124 #[.val (.int (5 : Int32)), .val (.ref b)] [(.int c2), (.int (2 : Int32)), (.ref b1505), (.ref b1505)]))
  refine X1523.castore F1527 ⟨by decide, by decide⟩ 2 rfl (Nat.le_of_ble_eq_true rfl) (by simp) (D d1_124) ?_
  intro T1528 h1529 X1530 W1531 A1532
  have F1533 := F1526.other W1531 (Nat.ne_of_lt lt1512)
  have F1534 : Arv Z h1529 b1505 kb1506 .char (5 : Int32) [(.int c0), (.int c1), (.int c2), (.int (0 : Int32)), (.int (0 : Int32))] (.int (0 : Int32)) := by rw [nar_id r2] at A1532; exact A1532
  show Goes p.tables e below _ (T1528.setTop (mkF m 125 #[.val (.int (5 : Int32)), .val (.ref b)] [(.ref b1505)]))
  refine X1530.dup (D d1_125) rfl ?_
  refine X1530.iconst (x := (3 : Int32)) (D d1_126) rfl ?_
  refine X1530.aloadN (x := (.ref b)) (D d1_127) rfl rfl ?_
  refine X1530.iconst (x := (3 : Int32)) (D d1_128) rfl ?_
  show Goes p.tables e below _ (T1528.setTop (mkF m 129 #[.val (.int (5 : Int32)), .val (.ref b)] [(.int (3 : Int32)), (.ref b), (.int (3 : Int32)), (.ref b1505), (.ref b1505)]))
  refine X1530.caload (v := (.int c3)) F1533 ⟨by decide, by decide⟩ rfl (D d1_129) ?_
  show Goes p.tables e below _ (T1528.setTop (mkF m 130 #[.val (.int (5 : Int32)), .val (.ref b)] [(.int c3), (.int (3 : Int32)), (.ref b1505), (.ref b1505)]))
  show Goes p.tables e below _ (T1528.setTop (mkF m 130 #[.val (.int (5 : Int32)), .val (.ref b)] [(.int c3), (.int (3 : Int32)), (.ref b1505), (.ref b1505)]))
  refine X1530.castore F1534 ⟨by decide, by decide⟩ 3 rfl (Nat.le_of_ble_eq_true rfl) (by simp) (D d1_130) ?_
  intro T1535 h1536 X1537 W1538 A1539
  have F1540 := F1533.other W1538 (Nat.ne_of_lt lt1512)
  have F1541 : Arv Z h1536 b1505 kb1506 .char (5 : Int32) [(.int c0), (.int c1), (.int c2), (.int c3), (.int (0 : Int32))] (.int (0 : Int32)) := by rw [nar_id r3] at A1539; exact A1539
  show Goes p.tables e below _ (T1535.setTop (mkF m 131 #[.val (.int (5 : Int32)), .val (.ref b)] [(.ref b1505)]))
  refine X1537.dup (D d1_131) rfl ?_
  refine X1537.iconst (x := (4 : Int32)) (D d1_132) rfl ?_
  refine X1537.aloadN (x := (.ref b)) (D d1_133) rfl rfl ?_
  refine X1537.iconst (x := (4 : Int32)) (D d1_134) rfl ?_
  show Goes p.tables e below _ (T1535.setTop (mkF m 135 #[.val (.int (5 : Int32)), .val (.ref b)] [(.int (4 : Int32)), (.ref b), (.int (4 : Int32)), (.ref b1505), (.ref b1505)]))
  refine X1537.caload (v := (.int c4)) F1540 ⟨by decide, by decide⟩ rfl (D d1_135) ?_
  show Goes p.tables e below _ (T1535.setTop (mkF m 136 #[.val (.int (5 : Int32)), .val (.ref b)] [(.int c4), (.int (4 : Int32)), (.ref b1505), (.ref b1505)]))
  show Goes p.tables e below _ (T1535.setTop (mkF m 136 #[.val (.int (5 : Int32)), .val (.ref b)] [(.int c4), (.int (4 : Int32)), (.ref b1505), (.ref b1505)]))
  refine X1537.castore F1541 ⟨by decide, by decide⟩ 4 rfl (Nat.le_of_ble_eq_true rfl) (by simp) (D d1_136) ?_
  intro T1542 h1543 X1544 W1545 A1546
  have F1547 := F1540.other W1545 (Nat.ne_of_lt lt1512)
  have F1548 : Arv Z h1543 b1505 kb1506 .char (5 : Int32) [(.int c0), (.int c1), (.int c2), (.int c3), (.int c4)] (.int (0 : Int32)) := by rw [nar_id r4] at A1546; exact A1546
  show Goes p.tables e below _ (T1542.setTop (mkF m 137 #[.val (.int (5 : Int32)), .val (.ref b)] [(.ref b1505)]))
  exact X1544.retA hret rfl rfl hlk (D d1_137) (by decide) (by decide) (⟨_, _, rfl, F1548⟩)
theorem d3_0 : decode jdk_42_method_149_code 0 = .ok (.aload_n 0, 1) := by decide +kernel
theorem d3_1 : decode jdk_42_method_149_code 1 = .ok (.invokespecial 1, 3) := by decide +kernel
theorem d3_4 : decode jdk_42_method_149_code 4 = .ok (.iload_n 3, 1) := by decide +kernel
theorem d3_5 : decode jdk_42_method_149_code 5 = .ok (.ifCond .ne 22, 3) := by decide +kernel
theorem d3_8 : decode jdk_42_method_149_code 8 = .ok (.aload_n 0, 1) := by decide +kernel
theorem d3_9 : decode jdk_42_method_149_code 9 = .ok (.ldc 7, 2) := by decide +kernel
theorem d3_11 : decode jdk_42_method_149_code 11 = .ok (.getfield 9, 3) := by decide +kernel
theorem d3_14 : decode jdk_42_method_149_code 14 = .ok (.putfield 9, 3) := by decide +kernel
theorem d3_17 : decode jdk_42_method_149_code 17 = .ok (.aload_n 0, 1) := by decide +kernel
theorem d3_18 : decode jdk_42_method_149_code 18 = .ok (.ldc 7, 2) := by decide +kernel
theorem d3_20 : decode jdk_42_method_149_code 20 = .ok (.getfield 15, 3) := by decide +kernel
theorem d3_23 : decode jdk_42_method_149_code 23 = .ok (.putfield 15, 3) := by decide +kernel
theorem d3_26 : decode jdk_42_method_149_code 26 = .ok (.return_, 1) := by decide +kernel
theorem d3_27 : decode jdk_42_method_149_code 27 = .ok (.getstatic 38, 3) := by decide +kernel
theorem d3_30 : decode jdk_42_method_149_code 30 = .ok (.ifCond .eq 28, 3) := by decide +kernel
theorem d3_33 : decode jdk_42_method_149_code 33 = .ok (.aload_n 1, 1) := by decide +kernel
theorem d3_34 : decode jdk_42_method_149_code 34 = .ok (.iload_n 2, 1) := by decide +kernel
theorem d3_35 : decode jdk_42_method_149_code 35 = .ok (.iload_n 3, 1) := by decide +kernel
theorem d3_36 : decode jdk_42_method_149_code 36 = .ok (.invokestatic 177, 3) := by decide +kernel
theorem d3_39 : decode jdk_42_method_149_code 39 = .ok (.astore 5, 2) := by decide +kernel
theorem d3_41 : decode jdk_42_method_149_code 41 = .ok (.aload_n 0, 1) := by decide +kernel
theorem d3_42 : decode jdk_42_method_149_code 42 = .ok (.aload 5, 2) := by decide +kernel
theorem d3_44 : decode jdk_42_method_149_code 44 = .ok (.iload_n 3, 1) := by decide +kernel
theorem d3_45 : decode jdk_42_method_149_code 45 = .ok (.invokestatic 47, 3) := by decide +kernel
theorem d3_48 : decode jdk_42_method_149_code 48 = .ok (.putfield 15, 3) := by decide +kernel
theorem d3_51 : decode jdk_42_method_149_code 51 = .ok (.aload_n 0, 1) := by decide +kernel
theorem d3_52 : decode jdk_42_method_149_code 52 = .ok (.aload 5, 2) := by decide +kernel
theorem d3_54 : decode jdk_42_method_149_code 54 = .ok (.putfield 9, 3) := by decide +kernel
theorem d3_57 : decode jdk_42_method_149_code 57 = .ok (.return_, 1) := by decide +kernel
theorem d3_58 : decode jdk_42_method_149_code 58 = .ok (.aload_n 0, 1) := by decide +kernel
theorem d3_59 : decode jdk_42_method_149_code 59 = .ok (.iconst 1, 1) := by decide +kernel
theorem d3_60 : decode jdk_42_method_149_code 60 = .ok (.putfield 15, 3) := by decide +kernel
theorem d3_63 : decode jdk_42_method_149_code 63 = .ok (.aload_n 0, 1) := by decide +kernel
theorem d3_64 : decode jdk_42_method_149_code 64 = .ok (.aload_n 1, 1) := by decide +kernel
theorem d3_65 : decode jdk_42_method_149_code 65 = .ok (.iload_n 2, 1) := by decide +kernel
theorem d3_66 : decode jdk_42_method_149_code 66 = .ok (.iload_n 3, 1) := by decide +kernel
theorem d3_67 : decode jdk_42_method_149_code 67 = .ok (.invokestatic 180, 3) := by decide +kernel
theorem d3_70 : decode jdk_42_method_149_code 70 = .ok (.putfield 9, 3) := by decide +kernel
theorem d3_73 : decode jdk_42_method_149_code 73 = .ok (.return_, 1) := by decide +kernel
set_option maxRecDepth 65536 in
set_option maxHeartbeats 40000000 in
theorem ctE4 (l : Launch) (Z : State) (a0 : Array Value) (hw : ∀ d ∈ tables_1, d.before a0 Z = true) (hEL : EW Z a0 consts_1) (z0 : Int32) (S0 : Sta Z Z.heap "java/lang/String" "COMPACT_STRINGS" "Z" (.int z0)) (hz0 : ¬ z0 = 0) (a b : Addr) (h0 : Heap) (n0 : Nat) (E0 : Exa Z h0 a "java/lang/String") (F0 : Fld Z h0 a "java/lang/String" "value" "[B" .null) (F1 : Fld Z h0 a "java/lang/String" "coder" "B" (.int (0 : Int32))) :
    Ct l Z consts_1 [] (⟨"java/lang/String", "<init>", "([CIILjava/lang/Void;)V"⟩ : MethodName) jdk_42_method_149_code 6 none ({ frames := 1, cells := 4, slots := 8, locals := 12 } : Room) #[(.ref a), (.ref b), (.int (0 : Int32)), (.int (0 : Int32)), .null] h0 n0 [a] (fun v h => v = none ∧ ∃ t : Addr, OStr Z h a t []) := by
  have w : ∀ {d : Jvm.Cond} (i : Nat), tables_1[i]? = some d → d.before a0 Z = true := fun i q => hw _ (List.mem_of_getElem? q)
  refine Ct.enter (plainFor_of_name pn_1) hEL ?_
  intro p e sS m below meth c T0 hby hml0 hret hlk hnm hs0 X0
  have hml : c.maxLocals = 6 := hml0
  have D : ∀ {pc : Nat} {r : Except DecodeError (Instr × Nat)}, decode jdk_42_method_149_code pc = r → decode c.code pc = r := fun q => hb hby q
  rw [show entryFrame m #[(.ref a), (.ref b), (.int (0 : Int32)), (.int (0 : Int32)), .null] 6 = mkF m 0 #[.val (.ref a), .val (.ref b), .val (.int (0 : Int32)), .val (.int (0 : Int32)), .val .null, .unset] [] from by first | (simp [entryFrame, mkF, argsToLocals, Value.category]; done) | rfl]
  refine X0.aloadN (x := (.ref a)) (D d3_0) rfl rfl ?_
  refine X0.inito (w 18 rfl) (w 19 rfl) (w 20 rfl) (D d3_1) (by rw [hml]; rfl) (by decide) 0 (Nat.le_of_ble_eq_true rfl) (by decide) ?_
  intro T1549 X1550
  show Goes p.tables e below _ (T1549.setTop (mkF m 4 #[.val (.ref a), .val (.ref b), .val (.int (0 : Int32)), .val (.int (0 : Int32)), .val .null, .unset] []))
  refine X1550.iloadN (x := (0 : Int32)) (D d3_4) rfl ?_
  refine X1550.if_ne 27 (D d3_5) ⟨by decide, by decide⟩ (fun hc1551 => absurd hc1551 (by decide)) (fun hc1551 => ?_)
  refine X1550.aloadN (x := (.ref a)) (D d3_8) rfl rfl ?_
  refine X1550.ldcS (w 21 rfl) (fun d q => hw d (hwS d q)) (by decide) (vs := []) (z := (0 : Int32)) ⟨by decide, by decide⟩ (by decide) rfl (D d3_9) 0 (by decide) (by decide) (by decide) (by decide) ?_
  intro T1552 h1553 a1554 b1555 kb1556 X1557 E1558 F1559 F1560 F1561 F1562 ne1563
  have F1564 := E0.ext E1558
  have F1565 := F0.ext E1558
  have F1566 := F1.ext E1558
  show Goes p.tables e below _ (T1552.setTop (mkF m 11 #[.val (.ref a), .val (.ref b), .val (.int (0 : Int32)), .val (.int (0 : Int32)), .val .null, .unset] [(.ref a1554), (.ref a)]))
  refine X1557.getf (w 27 rfl) Via.refl F1561 (D d3_11) ?_
  intro T1567 X1568
  show Goes p.tables e below _ (T1567.setTop (mkF m 14 #[.val (.ref a), .val (.ref b), .val (.int (0 : Int32)), .val (.int (0 : Int32)), .val .null, .unset] [(.ref b1555), (.ref a)]))
  refine X1568.putf (w 27 rfl) Via.refl F1565 F1564 (Or.inr ⟨(w 23 rfl), rfl, hnm⟩) (w 6 rfl) (ty := (.array .byte)) (by decide) rfl rfl (D d3_14) (by simp) ?_
  intro T1569 h1570 X1571 W1572
  have F1573 := F1565.same W1572
  have F1574 := F1564.wr W1572
  have F1575 := F1566.other W1572 (Or.inr (slot_ne (t := .byte) (t' := (.array .byte)) (Or.inr (w 24 rfl)) (Or.inr (w 23 rfl)) (by decide) (by decide) (by decide)))
  have F1576 := F1559.wr W1572
  have F1577 := F1560.other W1572 (Or.inl (ne1563 a (by simp)).1.symm)
  have F1578 := F1561.other W1572 (Or.inl (ne1563 a (by simp)).1.symm)
  have F1579 := F1562.other W1572 (ne1563 a (by simp)).2.symm
  show Goes p.tables e below _ (T1569.setTop (mkF m 17 #[.val (.ref a), .val (.ref b), .val (.int (0 : Int32)), .val (.int (0 : Int32)), .val .null, .unset] []))
  refine X1571.aloadN (x := (.ref a)) (D d3_17) rfl rfl ?_
  refine X1571.ldcS (w 21 rfl) (fun d q => hw d (hwS d q)) (by decide) (vs := []) (z := (0 : Int32)) ⟨by decide, by decide⟩ (by decide) rfl (D d3_18) 0 (by decide) (by decide) (by decide) (by decide) ?_
  intro T1580 h1581 a1582 b1583 kb1584 X1585 E1586 F1587 F1588 F1589 F1590 ne1591
  have F1592 := F1574.ext E1586
  have F1593 := F1575.ext E1586
  have F1594 := F1576.ext E1586
  have F1595 := F1577.ext E1586
  have F1596 := F1578.ext E1586
  have F1597 := F1579.ext E1586
  have F1598 := F1573.ext E1586
  show Goes p.tables e below _ (T1580.setTop (mkF m 20 #[.val (.ref a), .val (.ref b), .val (.int (0 : Int32)), .val (.int (0 : Int32)), .val .null, .unset] [(.ref a1582), (.ref a)]))
  refine X1585.getf (w 28 rfl) Via.refl F1588 (D d3_20) ?_
  intro T1599 X1600
  show Goes p.tables e below _ (T1599.setTop (mkF m 23 #[.val (.ref a), .val (.ref b), .val (.int (0 : Int32)), .val (.int (0 : Int32)), .val .null, .unset] [(.int (0 : Int32)), (.ref a)]))
  refine X1600.putf (w 28 rfl) Via.refl F1593 F1592 (Or.inr ⟨(w 24 rfl), rfl, hnm⟩) (w 6 rfl) (ty := .byte) (by decide) rfl rfl (D d3_23) (by simp) ?_
  intro T1601 h1602 X1603 W1604
  have F1605 := F1593.same W1604
  have F1606 := F1592.wr W1604
  have F1607 := F1594.wr W1604
  have F1608 := F1595.other W1604 (Or.inl (ne1563 a (by simp)).1.symm)
  have F1609 := F1596.other W1604 (Or.inl (ne1563 a (by simp)).1.symm)
  have F1610 := F1597.other W1604 (ne1563 a (by simp)).2.symm
  have F1611 := F1598.other W1604 (Or.inr (slot_ne (t := (.array .byte)) (t' := .byte) (Or.inr (w 23 rfl)) (Or.inr (w 24 rfl)) (by decide) (by decide) (by decide)))
  have F1612 := F1587.wr W1604
  have F1613 := F1588.other W1604 (Or.inl (ne1591 a (by simp)).1.symm)
  have F1614 := F1589.other W1604 (Or.inl (ne1591 a (by simp)).1.symm)
  have F1615 := F1590.other W1604 (ne1591 a (by simp)).2.symm
  show Goes p.tables e below _ (T1601.setTop (mkF m 26 #[.val (.ref a), .val (.ref b), .val (.int (0 : Int32)), .val (.int (0 : Int32)), .val .null, .unset] []))
  exact X1603.retn hret hlk (D d3_26) (by decide) (by decide) (⟨rfl, b1555, OStr.mk (cs := []) F1606 F1611 F1605 F1610 hp0 (by decide)⟩)
theorem d2_0 : decode jdk_42_method_3_code 0 = .ok (.aload_n 0, 1) := by decide +kernel
theorem d2_1 : decode jdk_42_method_3_code 1 = .ok (.aload_n 1, 1) := by decide +kernel
theorem d2_2 : decode jdk_42_method_3_code 2 = .ok (.iconst 0, 1) := by decide +kernel
theorem d2_3 : decode jdk_42_method_3_code 3 = .ok (.aload_n 1, 1) := by decide +kernel
theorem d2_4 : decode jdk_42_method_3_code 4 = .ok (.arraylength, 1) := by decide +kernel
theorem d2_5 : decode jdk_42_method_3_code 5 = .ok (.aconst_null, 1) := by decide +kernel
theorem d2_6 : decode jdk_42_method_3_code 6 = .ok (.invokespecial 27, 3) := by decide +kernel
theorem d2_9 : decode jdk_42_method_3_code 9 = .ok (.return_, 1) := by decide +kernel
theorem pd_19 : parseMethodDescriptor "([CIILjava/lang/Void;)V" = some ⟨[(.array .char), .int, .int, (.object "java/lang/Void")], none⟩ := by decide +kernel
set_option maxRecDepth 65536 in
set_option maxHeartbeats 40000000 in
theorem ctE1 (l : Launch) (Z : State) (a0 : Array Value) (hw : ∀ d ∈ tables_1, d.before a0 Z = true) (hEL : EW Z a0 consts_1) (z0 : Int32) (S0 : Sta Z Z.heap "java/lang/String" "COMPACT_STRINGS" "Z" (.int z0)) (hz0 : ¬ z0 = 0) (a b : Addr) (kb : ClassId) (dv : Value) (h0 : Heap) (n0 : Nat) (E0 : Exa Z h0 a "java/lang/String") (F0 : Fld Z h0 a "java/lang/String" "value" "[B" .null) (F1 : Fld Z h0 a "java/lang/String" "coder" "B" (.int (0 : Int32))) (A0 : Arv Z h0 b kb .char (0 : Int32) [] dv) :
    Ct l Z consts_1 [] (⟨"java/lang/String", "<init>", "([C)V"⟩ : MethodName) jdk_42_method_3_code 2 none ({ frames := 2, cells := 4, slots := 8, locals := 29 } : Room) #[(.ref a), (.ref b)] h0 n0 [a] (fun v h => v = none ∧ ∃ t : Addr, OStr Z h a t []) := by
  have w : ∀ {d : Jvm.Cond} (i : Nat), tables_1[i]? = some d → d.before a0 Z = true := fun i q => hw _ (List.mem_of_getElem? q)
  refine Ct.enter (plainFor_of_name pn_1) hEL ?_
  intro p e sS m below meth c T0 hby hml0 hret hlk hnm hs0 X0
  have hml : c.maxLocals = 2 := hml0
  have D : ∀ {pc : Nat} {r : Except DecodeError (Instr × Nat)}, decode jdk_42_method_3_code pc = r → decode c.code pc = r := fun q => hb hby q
  rw [show entryFrame m #[(.ref a), (.ref b)] 2 = mkF m 0 #[.val (.ref a), .val (.ref b)] [] from by first | (simp [entryFrame, mkF, argsToLocals, Value.category]; done) | rfl]
  refine X0.aloadN (x := (.ref a)) (D d2_0) rfl rfl ?_
  refine X0.aloadN (x := (.ref b)) (D d2_1) rfl rfl ?_
  refine X0.iconst (x := (0 : Int32)) (D d2_2) rfl ?_
  refine X0.aloadN (x := (.ref b)) (D d2_3) rfl rfl ?_
  refine X0.alen A0 (D d2_4) ?_
  refine X0.anull (D d2_5) ?_
  refine X0.callc (a := a) [(.ref b), (.int (0 : Int32)), (.int (0 : Int32)), .null] [] (ctE4 l Z a0 hw hEL z0 S0 hz0 a b _ _ E0 F0 F1) rfl (w 14 rfl) (w 15 rfl) (w 7 rfl) (w 17 rfl) (by decide) (by simp) (by decide) 0 (by decide) (by decide) (by decide) (lenOf pd_19 rfl) rfl (Nat.le_of_ble_eq_true rfl) (by rw [hml]; rfl) (D d2_6) ?_
  rintro T1616 h1617 _ X1619 K1620 ⟨rfl, t, O⟩
  have F1621 := E0.keep K1620
  have F1622 := A0.keep K1620 (ninS (Exa.neArv E0 A0 (w 6 rfl)).symm nin0)
  show Goes p.tables e below _ (T1616.setTop (mkF m 9 #[.val (.ref a), .val (.ref b)] []))
  exact X1619.retn hret hlk (D d2_9) (by decide) (by decide) (⟨rfl, t, O⟩)
def st1 (n k c p : Int32) : Int32 := if k < n ∧ c = 10 then k else p
def st2 (e k c p : Int32) : Int32 := if k < e ∧ ¬ wsP c then k else p
def st3 (e k c p : Int32) : Int32 := if k < e ∧ ¬ wsP c then k + 1 else p
def NC (c0 c1 c2 c3 c4 n : Int32) (cs : List Int32) : Prop := (n = 0 ∧ cs = ([] : List Int32)) ∨ (n = 1 ∧ cs = [c0]) ∨ (n = 2 ∧ cs = [c0, c1]) ∨ (n = 3 ∧ cs = [c0, c1, c2]) ∨ (n = 4 ∧ cs = [c0, c1, c2, c3]) ∨ (n = 5 ∧ cs = [c0, c1, c2, c3, c4])
def Mt (c0 c1 c2 c3 c4 lo hi : Int32) (ds : List Int32) : Prop := ∃ j k : Nat, j + k ≤ 5 ∧ lo = Int32.ofNat j ∧ hi - lo = Int32.ofNat k ∧ ds = ([c0, c1, c2, c3, c4].drop j).take k
set_option maxHeartbeats 40000000 in
theorem plain {n : Int32} {cs : List Int32} {c0 c1 c2 c3 c4 e lo hi : Int32} (hn : NC c0 c1 c2 c3 c4 n cs) (he : e = (st1 n 0 c0 (st1 n 1 c1 (st1 n 2 c2 (st1 n 3 c3 (st1 n 4 c4 n)))))) (hl : lo = (st2 e 0 c0 (st2 e 1 c1 (st2 e 2 c2 (st2 e 3 c3 (st2 e 4 c4 e)))))) (hh : hi = (st3 e 4 c4 (st3 e 3 c3 (st3 e 2 c2 (st3 e 1 c1 (st3 e 0 c0 lo)))))) : Mt c0 c1 c2 c3 c4 lo hi (FL cs) := by
  rcases hn with ⟨rfl, rfl⟩ | ⟨rfl, rfl⟩ | ⟨rfl, rfl⟩ | ⟨rfl, rfl⟩ | ⟨rfl, rfl⟩ | ⟨rfl, rfl⟩
  · obtain rfl : e = 0 := by rw [he]; simp [st1]
    obtain rfl : lo = 0 := by rw [hl]; simp [st2]
    obtain rfl : hi = 0 := by rw [hh]; simp [st3]
    exact ⟨0, 0, by decide, rfl, by decide, by simp [FL, Sp, ixN, nwN, lwN, ixN]⟩
  · by_cases h0 : c0 = 10
    · obtain rfl : e = 0 := by rw [he]; simp [st1, h0]
      obtain rfl : lo = 0 := by rw [hl]; simp [st2]
      obtain rfl : hi = 0 := by rw [hh]; simp [st3]
      exact ⟨0, 0, by decide, rfl, by decide, by simp [FL, Sp, ixN, nwN, lwN, h0]⟩
    · obtain rfl : e = 1 := by rw [he]; simp [st1, h0]
      by_cases w0 : wsP c0
      · obtain rfl : lo = 1 := by rw [hl]; simp [st2, w0]
        obtain rfl : hi = 1 := by rw [hh]; simp [st3, w0]
        exact ⟨1, 0, by decide, rfl, by decide, by simp [FL, Sp, ixN, nwN, lwN, h0, w0]⟩
      · obtain rfl : lo = 0 := by rw [hl]; simp [st2, w0]
        obtain rfl : hi = 1 := by rw [hh]; simp [st3, w0]
        exact ⟨0, 1, by decide, rfl, by decide, by simp [FL, Sp, ixN, nwN, lwN, h0, w0]⟩
  · by_cases h0 : c0 = 10
    · obtain rfl : e = 0 := by rw [he]; simp [st1, h0]
      obtain rfl : lo = 0 := by rw [hl]; simp [st2]
      obtain rfl : hi = 0 := by rw [hh]; simp [st3]
      exact ⟨0, 0, by decide, rfl, by decide, by simp [FL, Sp, ixN, nwN, lwN, h0]⟩
    · by_cases h1 : c1 = 10
      · obtain rfl : e = 1 := by rw [he]; simp [st1, h0, h1]
        by_cases w0 : wsP c0
        · obtain rfl : lo = 1 := by rw [hl]; simp [st2, w0]
          obtain rfl : hi = 1 := by rw [hh]; simp [st3, w0]
          exact ⟨1, 0, by decide, rfl, by decide, by simp [FL, Sp, ixN, nwN, lwN, h0, h1, w0]⟩
        · obtain rfl : lo = 0 := by rw [hl]; simp [st2, w0]
          obtain rfl : hi = 1 := by rw [hh]; simp [st3, w0]
          exact ⟨0, 1, by decide, rfl, by decide, by simp [FL, Sp, ixN, nwN, lwN, h0, h1, w0]⟩
      · obtain rfl : e = 2 := by rw [he]; simp [st1, h0, h1]
        by_cases w0 : wsP c0
        · by_cases w1 : wsP c1
          · obtain rfl : lo = 2 := by rw [hl]; simp [st2, w0, w1]
            obtain rfl : hi = 2 := by rw [hh]; simp [st3, w0, w1]
            exact ⟨2, 0, by decide, rfl, by decide, by simp [FL, Sp, ixN, nwN, lwN, h0, h1, w0, w1]⟩
          · obtain rfl : lo = 1 := by rw [hl]; simp [st2, w0, w1]
            obtain rfl : hi = 2 := by rw [hh]; simp [st3, w0, w1]
            exact ⟨1, 1, by decide, rfl, by decide, by simp [FL, Sp, ixN, nwN, lwN, h0, h1, w0, w1]⟩
        · by_cases w1 : wsP c1
          · obtain rfl : lo = 0 := by rw [hl]; simp [st2, w0, w1]
            obtain rfl : hi = 1 := by rw [hh]; simp [st3, w0, w1]
            exact ⟨0, 1, by decide, rfl, by decide, by simp [FL, Sp, ixN, nwN, lwN, h0, h1, w0, w1]⟩
          · obtain rfl : lo = 0 := by rw [hl]; simp [st2, w0, w1]
            obtain rfl : hi = 2 := by rw [hh]; simp [st3, w0, w1]
            exact ⟨0, 2, by decide, rfl, by decide, by simp [FL, Sp, ixN, nwN, lwN, h0, h1, w0, w1]⟩
  · by_cases h0 : c0 = 10
    · obtain rfl : e = 0 := by rw [he]; simp [st1, h0]
      obtain rfl : lo = 0 := by rw [hl]; simp [st2]
      obtain rfl : hi = 0 := by rw [hh]; simp [st3]
      exact ⟨0, 0, by decide, rfl, by decide, by simp [FL, Sp, ixN, nwN, lwN, h0]⟩
    · by_cases h1 : c1 = 10
      · obtain rfl : e = 1 := by rw [he]; simp [st1, h0, h1]
        by_cases w0 : wsP c0
        · obtain rfl : lo = 1 := by rw [hl]; simp [st2, w0]
          obtain rfl : hi = 1 := by rw [hh]; simp [st3, w0]
          exact ⟨1, 0, by decide, rfl, by decide, by simp [FL, Sp, ixN, nwN, lwN, h0, h1, w0]⟩
        · obtain rfl : lo = 0 := by rw [hl]; simp [st2, w0]
          obtain rfl : hi = 1 := by rw [hh]; simp [st3, w0]
          exact ⟨0, 1, by decide, rfl, by decide, by simp [FL, Sp, ixN, nwN, lwN, h0, h1, w0]⟩
      · by_cases h2 : c2 = 10
        · obtain rfl : e = 2 := by rw [he]; simp [st1, h0, h1, h2]
          by_cases w0 : wsP c0
          · by_cases w1 : wsP c1
            · obtain rfl : lo = 2 := by rw [hl]; simp [st2, w0, w1]
              obtain rfl : hi = 2 := by rw [hh]; simp [st3, w0, w1]
              exact ⟨2, 0, by decide, rfl, by decide, by simp [FL, Sp, ixN, nwN, lwN, h0, h1, h2, w0, w1]⟩
            · obtain rfl : lo = 1 := by rw [hl]; simp [st2, w0, w1]
              obtain rfl : hi = 2 := by rw [hh]; simp [st3, w0, w1]
              exact ⟨1, 1, by decide, rfl, by decide, by simp [FL, Sp, ixN, nwN, lwN, h0, h1, h2, w0, w1]⟩
          · by_cases w1 : wsP c1
            · obtain rfl : lo = 0 := by rw [hl]; simp [st2, w0, w1]
              obtain rfl : hi = 1 := by rw [hh]; simp [st3, w0, w1]
              exact ⟨0, 1, by decide, rfl, by decide, by simp [FL, Sp, ixN, nwN, lwN, h0, h1, h2, w0, w1]⟩
            · obtain rfl : lo = 0 := by rw [hl]; simp [st2, w0, w1]
              obtain rfl : hi = 2 := by rw [hh]; simp [st3, w0, w1]
              exact ⟨0, 2, by decide, rfl, by decide, by simp [FL, Sp, ixN, nwN, lwN, h0, h1, h2, w0, w1]⟩
        · obtain rfl : e = 3 := by rw [he]; simp [st1, h0, h1, h2]
          by_cases w0 : wsP c0
          · by_cases w1 : wsP c1
            · by_cases w2 : wsP c2
              · obtain rfl : lo = 3 := by rw [hl]; simp [st2, w0, w1, w2]
                obtain rfl : hi = 3 := by rw [hh]; simp [st3, w0, w1, w2]
                exact ⟨3, 0, by decide, rfl, by decide, by simp [FL, Sp, ixN, nwN, lwN, h0, h1, h2, w0, w1, w2]⟩
              · obtain rfl : lo = 2 := by rw [hl]; simp [st2, w0, w1, w2]
                obtain rfl : hi = 3 := by rw [hh]; simp [st3, w0, w1, w2]
                exact ⟨2, 1, by decide, rfl, by decide, by simp [FL, Sp, ixN, nwN, lwN, h0, h1, h2, w0, w1, w2]⟩
            · by_cases w2 : wsP c2
              · obtain rfl : lo = 1 := by rw [hl]; simp [st2, w0, w1, w2]
                obtain rfl : hi = 2 := by rw [hh]; simp [st3, w0, w1, w2]
                exact ⟨1, 1, by decide, rfl, by decide, by simp [FL, Sp, ixN, nwN, lwN, h0, h1, h2, w0, w1, w2]⟩
              · obtain rfl : lo = 1 := by rw [hl]; simp [st2, w0, w1, w2]
                obtain rfl : hi = 3 := by rw [hh]; simp [st3, w0, w1, w2]
                exact ⟨1, 2, by decide, rfl, by decide, by simp [FL, Sp, ixN, nwN, lwN, h0, h1, h2, w0, w1, w2]⟩
          · by_cases w1 : wsP c1
            · by_cases w2 : wsP c2
              · obtain rfl : lo = 0 := by rw [hl]; simp [st2, w0, w1, w2]
                obtain rfl : hi = 1 := by rw [hh]; simp [st3, w0, w1, w2]
                exact ⟨0, 1, by decide, rfl, by decide, by simp [FL, Sp, ixN, nwN, lwN, h0, h1, h2, w0, w1, w2]⟩
              · obtain rfl : lo = 0 := by rw [hl]; simp [st2, w0, w1, w2]
                obtain rfl : hi = 3 := by rw [hh]; simp [st3, w0, w1, w2]
                exact ⟨0, 3, by decide, rfl, by decide, by simp [FL, Sp, ixN, nwN, lwN, h0, h1, h2, w0, w1, w2]⟩
            · by_cases w2 : wsP c2
              · obtain rfl : lo = 0 := by rw [hl]; simp [st2, w0, w1, w2]
                obtain rfl : hi = 2 := by rw [hh]; simp [st3, w0, w1, w2]
                exact ⟨0, 2, by decide, rfl, by decide, by simp [FL, Sp, ixN, nwN, lwN, h0, h1, h2, w0, w1, w2]⟩
              · obtain rfl : lo = 0 := by rw [hl]; simp [st2, w0, w1, w2]
                obtain rfl : hi = 3 := by rw [hh]; simp [st3, w0, w1, w2]
                exact ⟨0, 3, by decide, rfl, by decide, by simp [FL, Sp, ixN, nwN, lwN, h0, h1, h2, w0, w1, w2]⟩
  · by_cases h0 : c0 = 10
    · obtain rfl : e = 0 := by rw [he]; simp [st1, h0]
      obtain rfl : lo = 0 := by rw [hl]; simp [st2]
      obtain rfl : hi = 0 := by rw [hh]; simp [st3]
      exact ⟨0, 0, by decide, rfl, by decide, by simp [FL, Sp, ixN, nwN, lwN, h0]⟩
    · by_cases h1 : c1 = 10
      · obtain rfl : e = 1 := by rw [he]; simp [st1, h0, h1]
        by_cases w0 : wsP c0
        · obtain rfl : lo = 1 := by rw [hl]; simp [st2, w0]
          obtain rfl : hi = 1 := by rw [hh]; simp [st3, w0]
          exact ⟨1, 0, by decide, rfl, by decide, by simp [FL, Sp, ixN, nwN, lwN, h0, h1, w0]⟩
        · obtain rfl : lo = 0 := by rw [hl]; simp [st2, w0]
          obtain rfl : hi = 1 := by rw [hh]; simp [st3, w0]
          exact ⟨0, 1, by decide, rfl, by decide, by simp [FL, Sp, ixN, nwN, lwN, h0, h1, w0]⟩
      · by_cases h2 : c2 = 10
        · obtain rfl : e = 2 := by rw [he]; simp [st1, h0, h1, h2]
          by_cases w0 : wsP c0
          · by_cases w1 : wsP c1
            · obtain rfl : lo = 2 := by rw [hl]; simp [st2, w0, w1]
              obtain rfl : hi = 2 := by rw [hh]; simp [st3, w0, w1]
              exact ⟨2, 0, by decide, rfl, by decide, by simp [FL, Sp, ixN, nwN, lwN, h0, h1, h2, w0, w1]⟩
            · obtain rfl : lo = 1 := by rw [hl]; simp [st2, w0, w1]
              obtain rfl : hi = 2 := by rw [hh]; simp [st3, w0, w1]
              exact ⟨1, 1, by decide, rfl, by decide, by simp [FL, Sp, ixN, nwN, lwN, h0, h1, h2, w0, w1]⟩
          · by_cases w1 : wsP c1
            · obtain rfl : lo = 0 := by rw [hl]; simp [st2, w0, w1]
              obtain rfl : hi = 1 := by rw [hh]; simp [st3, w0, w1]
              exact ⟨0, 1, by decide, rfl, by decide, by simp [FL, Sp, ixN, nwN, lwN, h0, h1, h2, w0, w1]⟩
            · obtain rfl : lo = 0 := by rw [hl]; simp [st2, w0, w1]
              obtain rfl : hi = 2 := by rw [hh]; simp [st3, w0, w1]
              exact ⟨0, 2, by decide, rfl, by decide, by simp [FL, Sp, ixN, nwN, lwN, h0, h1, h2, w0, w1]⟩
        · by_cases h3 : c3 = 10
          · obtain rfl : e = 3 := by rw [he]; simp [st1, h0, h1, h2, h3]
            by_cases w0 : wsP c0
            · by_cases w1 : wsP c1
              · by_cases w2 : wsP c2
                · obtain rfl : lo = 3 := by rw [hl]; simp [st2, w0, w1, w2]
                  obtain rfl : hi = 3 := by rw [hh]; simp [st3, w0, w1, w2]
                  exact ⟨3, 0, by decide, rfl, by decide, by simp [FL, Sp, ixN, nwN, lwN, h0, h1, h2, h3, w0, w1, w2]⟩
                · obtain rfl : lo = 2 := by rw [hl]; simp [st2, w0, w1, w2]
                  obtain rfl : hi = 3 := by rw [hh]; simp [st3, w0, w1, w2]
                  exact ⟨2, 1, by decide, rfl, by decide, by simp [FL, Sp, ixN, nwN, lwN, h0, h1, h2, h3, w0, w1, w2]⟩
              · by_cases w2 : wsP c2
                · obtain rfl : lo = 1 := by rw [hl]; simp [st2, w0, w1, w2]
                  obtain rfl : hi = 2 := by rw [hh]; simp [st3, w0, w1, w2]
                  exact ⟨1, 1, by decide, rfl, by decide, by simp [FL, Sp, ixN, nwN, lwN, h0, h1, h2, h3, w0, w1, w2]⟩
                · obtain rfl : lo = 1 := by rw [hl]; simp [st2, w0, w1, w2]
                  obtain rfl : hi = 3 := by rw [hh]; simp [st3, w0, w1, w2]
                  exact ⟨1, 2, by decide, rfl, by decide, by simp [FL, Sp, ixN, nwN, lwN, h0, h1, h2, h3, w0, w1, w2]⟩
            · by_cases w1 : wsP c1
              · by_cases w2 : wsP c2
                · obtain rfl : lo = 0 := by rw [hl]; simp [st2, w0, w1, w2]
                  obtain rfl : hi = 1 := by rw [hh]; simp [st3, w0, w1, w2]
                  exact ⟨0, 1, by decide, rfl, by decide, by simp [FL, Sp, ixN, nwN, lwN, h0, h1, h2, h3, w0, w1, w2]⟩
                · obtain rfl : lo = 0 := by rw [hl]; simp [st2, w0, w1, w2]
                  obtain rfl : hi = 3 := by rw [hh]; simp [st3, w0, w1, w2]
                  exact ⟨0, 3, by decide, rfl, by decide, by simp [FL, Sp, ixN, nwN, lwN, h0, h1, h2, h3, w0, w1, w2]⟩
              · by_cases w2 : wsP c2
                · obtain rfl : lo = 0 := by rw [hl]; simp [st2, w0, w1, w2]
                  obtain rfl : hi = 2 := by rw [hh]; simp [st3, w0, w1, w2]
                  exact ⟨0, 2, by decide, rfl, by decide, by simp [FL, Sp, ixN, nwN, lwN, h0, h1, h2, h3, w0, w1, w2]⟩
                · obtain rfl : lo = 0 := by rw [hl]; simp [st2, w0, w1, w2]
                  obtain rfl : hi = 3 := by rw [hh]; simp [st3, w0, w1, w2]
                  exact ⟨0, 3, by decide, rfl, by decide, by simp [FL, Sp, ixN, nwN, lwN, h0, h1, h2, h3, w0, w1, w2]⟩
          · obtain rfl : e = 4 := by rw [he]; simp [st1, h0, h1, h2, h3]
            by_cases w0 : wsP c0
            · by_cases w1 : wsP c1
              · by_cases w2 : wsP c2
                · by_cases w3 : wsP c3
                  · obtain rfl : lo = 4 := by rw [hl]; simp [st2, w0, w1, w2, w3]
                    obtain rfl : hi = 4 := by rw [hh]; simp [st3, w0, w1, w2, w3]
                    exact ⟨4, 0, by decide, rfl, by decide, by simp [FL, Sp, ixN, nwN, lwN, h0, h1, h2, h3, w0, w1, w2, w3]⟩
                  · obtain rfl : lo = 3 := by rw [hl]; simp [st2, w0, w1, w2, w3]
                    obtain rfl : hi = 4 := by rw [hh]; simp [st3, w0, w1, w2, w3]
                    exact ⟨3, 1, by decide, rfl, by decide, by simp [FL, Sp, ixN, nwN, lwN, h0, h1, h2, h3, w0, w1, w2, w3]⟩
                · by_cases w3 : wsP c3
                  · obtain rfl : lo = 2 := by rw [hl]; simp [st2, w0, w1, w2, w3]
                    obtain rfl : hi = 3 := by rw [hh]; simp [st3, w0, w1, w2, w3]
                    exact ⟨2, 1, by decide, rfl, by decide, by simp [FL, Sp, ixN, nwN, lwN, h0, h1, h2, h3, w0, w1, w2, w3]⟩
                  · obtain rfl : lo = 2 := by rw [hl]; simp [st2, w0, w1, w2, w3]
                    obtain rfl : hi = 4 := by rw [hh]; simp [st3, w0, w1, w2, w3]
                    exact ⟨2, 2, by decide, rfl, by decide, by simp [FL, Sp, ixN, nwN, lwN, h0, h1, h2, h3, w0, w1, w2, w3]⟩
              · by_cases w2 : wsP c2
                · by_cases w3 : wsP c3
                  · obtain rfl : lo = 1 := by rw [hl]; simp [st2, w0, w1, w2, w3]
                    obtain rfl : hi = 2 := by rw [hh]; simp [st3, w0, w1, w2, w3]
                    exact ⟨1, 1, by decide, rfl, by decide, by simp [FL, Sp, ixN, nwN, lwN, h0, h1, h2, h3, w0, w1, w2, w3]⟩
                  · obtain rfl : lo = 1 := by rw [hl]; simp [st2, w0, w1, w2, w3]
                    obtain rfl : hi = 4 := by rw [hh]; simp [st3, w0, w1, w2, w3]
                    exact ⟨1, 3, by decide, rfl, by decide, by simp [FL, Sp, ixN, nwN, lwN, h0, h1, h2, h3, w0, w1, w2, w3]⟩
                · by_cases w3 : wsP c3
                  · obtain rfl : lo = 1 := by rw [hl]; simp [st2, w0, w1, w2, w3]
                    obtain rfl : hi = 3 := by rw [hh]; simp [st3, w0, w1, w2, w3]
                    exact ⟨1, 2, by decide, rfl, by decide, by simp [FL, Sp, ixN, nwN, lwN, h0, h1, h2, h3, w0, w1, w2, w3]⟩
                  · obtain rfl : lo = 1 := by rw [hl]; simp [st2, w0, w1, w2, w3]
                    obtain rfl : hi = 4 := by rw [hh]; simp [st3, w0, w1, w2, w3]
                    exact ⟨1, 3, by decide, rfl, by decide, by simp [FL, Sp, ixN, nwN, lwN, h0, h1, h2, h3, w0, w1, w2, w3]⟩
            · by_cases w1 : wsP c1
              · by_cases w2 : wsP c2
                · by_cases w3 : wsP c3
                  · obtain rfl : lo = 0 := by rw [hl]; simp [st2, w0, w1, w2, w3]
                    obtain rfl : hi = 1 := by rw [hh]; simp [st3, w0, w1, w2, w3]
                    exact ⟨0, 1, by decide, rfl, by decide, by simp [FL, Sp, ixN, nwN, lwN, h0, h1, h2, h3, w0, w1, w2, w3]⟩
                  · obtain rfl : lo = 0 := by rw [hl]; simp [st2, w0, w1, w2, w3]
                    obtain rfl : hi = 4 := by rw [hh]; simp [st3, w0, w1, w2, w3]
                    exact ⟨0, 4, by decide, rfl, by decide, by simp [FL, Sp, ixN, nwN, lwN, h0, h1, h2, h3, w0, w1, w2, w3]⟩
                · by_cases w3 : wsP c3
                  · obtain rfl : lo = 0 := by rw [hl]; simp [st2, w0, w1, w2, w3]
                    obtain rfl : hi = 3 := by rw [hh]; simp [st3, w0, w1, w2, w3]
                    exact ⟨0, 3, by decide, rfl, by decide, by simp [FL, Sp, ixN, nwN, lwN, h0, h1, h2, h3, w0, w1, w2, w3]⟩
                  · obtain rfl : lo = 0 := by rw [hl]; simp [st2, w0, w1, w2, w3]
                    obtain rfl : hi = 4 := by rw [hh]; simp [st3, w0, w1, w2, w3]
                    exact ⟨0, 4, by decide, rfl, by decide, by simp [FL, Sp, ixN, nwN, lwN, h0, h1, h2, h3, w0, w1, w2, w3]⟩
              · by_cases w2 : wsP c2
                · by_cases w3 : wsP c3
                  · obtain rfl : lo = 0 := by rw [hl]; simp [st2, w0, w1, w2, w3]
                    obtain rfl : hi = 2 := by rw [hh]; simp [st3, w0, w1, w2, w3]
                    exact ⟨0, 2, by decide, rfl, by decide, by simp [FL, Sp, ixN, nwN, lwN, h0, h1, h2, h3, w0, w1, w2, w3]⟩
                  · obtain rfl : lo = 0 := by rw [hl]; simp [st2, w0, w1, w2, w3]
                    obtain rfl : hi = 4 := by rw [hh]; simp [st3, w0, w1, w2, w3]
                    exact ⟨0, 4, by decide, rfl, by decide, by simp [FL, Sp, ixN, nwN, lwN, h0, h1, h2, h3, w0, w1, w2, w3]⟩
                · by_cases w3 : wsP c3
                  · obtain rfl : lo = 0 := by rw [hl]; simp [st2, w0, w1, w2, w3]
                    obtain rfl : hi = 3 := by rw [hh]; simp [st3, w0, w1, w2, w3]
                    exact ⟨0, 3, by decide, rfl, by decide, by simp [FL, Sp, ixN, nwN, lwN, h0, h1, h2, h3, w0, w1, w2, w3]⟩
                  · obtain rfl : lo = 0 := by rw [hl]; simp [st2, w0, w1, w2, w3]
                    obtain rfl : hi = 4 := by rw [hh]; simp [st3, w0, w1, w2, w3]
                    exact ⟨0, 4, by decide, rfl, by decide, by simp [FL, Sp, ixN, nwN, lwN, h0, h1, h2, h3, w0, w1, w2, w3]⟩
  · by_cases h0 : c0 = 10
    · obtain rfl : e = 0 := by rw [he]; simp [st1, h0]
      obtain rfl : lo = 0 := by rw [hl]; simp [st2]
      obtain rfl : hi = 0 := by rw [hh]; simp [st3]
      exact ⟨0, 0, by decide, rfl, by decide, by simp [FL, Sp, ixN, nwN, lwN, h0]⟩
    · by_cases h1 : c1 = 10
      · obtain rfl : e = 1 := by rw [he]; simp [st1, h0, h1]
        by_cases w0 : wsP c0
        · obtain rfl : lo = 1 := by rw [hl]; simp [st2, w0]
          obtain rfl : hi = 1 := by rw [hh]; simp [st3, w0]
          exact ⟨1, 0, by decide, rfl, by decide, by simp [FL, Sp, ixN, nwN, lwN, h0, h1, w0]⟩
        · obtain rfl : lo = 0 := by rw [hl]; simp [st2, w0]
          obtain rfl : hi = 1 := by rw [hh]; simp [st3, w0]
          exact ⟨0, 1, by decide, rfl, by decide, by simp [FL, Sp, ixN, nwN, lwN, h0, h1, w0]⟩
      · by_cases h2 : c2 = 10
        · obtain rfl : e = 2 := by rw [he]; simp [st1, h0, h1, h2]
          by_cases w0 : wsP c0
          · by_cases w1 : wsP c1
            · obtain rfl : lo = 2 := by rw [hl]; simp [st2, w0, w1]
              obtain rfl : hi = 2 := by rw [hh]; simp [st3, w0, w1]
              exact ⟨2, 0, by decide, rfl, by decide, by simp [FL, Sp, ixN, nwN, lwN, h0, h1, h2, w0, w1]⟩
            · obtain rfl : lo = 1 := by rw [hl]; simp [st2, w0, w1]
              obtain rfl : hi = 2 := by rw [hh]; simp [st3, w0, w1]
              exact ⟨1, 1, by decide, rfl, by decide, by simp [FL, Sp, ixN, nwN, lwN, h0, h1, h2, w0, w1]⟩
          · by_cases w1 : wsP c1
            · obtain rfl : lo = 0 := by rw [hl]; simp [st2, w0, w1]
              obtain rfl : hi = 1 := by rw [hh]; simp [st3, w0, w1]
              exact ⟨0, 1, by decide, rfl, by decide, by simp [FL, Sp, ixN, nwN, lwN, h0, h1, h2, w0, w1]⟩
            · obtain rfl : lo = 0 := by rw [hl]; simp [st2, w0, w1]
              obtain rfl : hi = 2 := by rw [hh]; simp [st3, w0, w1]
              exact ⟨0, 2, by decide, rfl, by decide, by simp [FL, Sp, ixN, nwN, lwN, h0, h1, h2, w0, w1]⟩
        · by_cases h3 : c3 = 10
          · obtain rfl : e = 3 := by rw [he]; simp [st1, h0, h1, h2, h3]
            by_cases w0 : wsP c0
            · by_cases w1 : wsP c1
              · by_cases w2 : wsP c2
                · obtain rfl : lo = 3 := by rw [hl]; simp [st2, w0, w1, w2]
                  obtain rfl : hi = 3 := by rw [hh]; simp [st3, w0, w1, w2]
                  exact ⟨3, 0, by decide, rfl, by decide, by simp [FL, Sp, ixN, nwN, lwN, h0, h1, h2, h3, w0, w1, w2]⟩
                · obtain rfl : lo = 2 := by rw [hl]; simp [st2, w0, w1, w2]
                  obtain rfl : hi = 3 := by rw [hh]; simp [st3, w0, w1, w2]
                  exact ⟨2, 1, by decide, rfl, by decide, by simp [FL, Sp, ixN, nwN, lwN, h0, h1, h2, h3, w0, w1, w2]⟩
              · by_cases w2 : wsP c2
                · obtain rfl : lo = 1 := by rw [hl]; simp [st2, w0, w1, w2]
                  obtain rfl : hi = 2 := by rw [hh]; simp [st3, w0, w1, w2]
                  exact ⟨1, 1, by decide, rfl, by decide, by simp [FL, Sp, ixN, nwN, lwN, h0, h1, h2, h3, w0, w1, w2]⟩
                · obtain rfl : lo = 1 := by rw [hl]; simp [st2, w0, w1, w2]
                  obtain rfl : hi = 3 := by rw [hh]; simp [st3, w0, w1, w2]
                  exact ⟨1, 2, by decide, rfl, by decide, by simp [FL, Sp, ixN, nwN, lwN, h0, h1, h2, h3, w0, w1, w2]⟩
            · by_cases w1 : wsP c1
              · by_cases w2 : wsP c2
                · obtain rfl : lo = 0 := by rw [hl]; simp [st2, w0, w1, w2]
                  obtain rfl : hi = 1 := by rw [hh]; simp [st3, w0, w1, w2]
                  exact ⟨0, 1, by decide, rfl, by decide, by simp [FL, Sp, ixN, nwN, lwN, h0, h1, h2, h3, w0, w1, w2]⟩
                · obtain rfl : lo = 0 := by rw [hl]; simp [st2, w0, w1, w2]
                  obtain rfl : hi = 3 := by rw [hh]; simp [st3, w0, w1, w2]
                  exact ⟨0, 3, by decide, rfl, by decide, by simp [FL, Sp, ixN, nwN, lwN, h0, h1, h2, h3, w0, w1, w2]⟩
              · by_cases w2 : wsP c2
                · obtain rfl : lo = 0 := by rw [hl]; simp [st2, w0, w1, w2]
                  obtain rfl : hi = 2 := by rw [hh]; simp [st3, w0, w1, w2]
                  exact ⟨0, 2, by decide, rfl, by decide, by simp [FL, Sp, ixN, nwN, lwN, h0, h1, h2, h3, w0, w1, w2]⟩
                · obtain rfl : lo = 0 := by rw [hl]; simp [st2, w0, w1, w2]
                  obtain rfl : hi = 3 := by rw [hh]; simp [st3, w0, w1, w2]
                  exact ⟨0, 3, by decide, rfl, by decide, by simp [FL, Sp, ixN, nwN, lwN, h0, h1, h2, h3, w0, w1, w2]⟩
          · by_cases h4 : c4 = 10
            · obtain rfl : e = 4 := by rw [he]; simp [st1, h0, h1, h2, h3, h4]
              by_cases w0 : wsP c0
              · by_cases w1 : wsP c1
                · by_cases w2 : wsP c2
                  · by_cases w3 : wsP c3
                    · obtain rfl : lo = 4 := by rw [hl]; simp [st2, w0, w1, w2, w3]
                      obtain rfl : hi = 4 := by rw [hh]; simp [st3, w0, w1, w2, w3]
                      exact ⟨4, 0, by decide, rfl, by decide, by simp [FL, Sp, ixN, nwN, lwN, h0, h1, h2, h3, h4, w0, w1, w2, w3]⟩
                    · obtain rfl : lo = 3 := by rw [hl]; simp [st2, w0, w1, w2, w3]
                      obtain rfl : hi = 4 := by rw [hh]; simp [st3, w0, w1, w2, w3]
                      exact ⟨3, 1, by decide, rfl, by decide, by simp [FL, Sp, ixN, nwN, lwN, h0, h1, h2, h3, h4, w0, w1, w2, w3]⟩
                  · by_cases w3 : wsP c3
                    · obtain rfl : lo = 2 := by rw [hl]; simp [st2, w0, w1, w2, w3]
                      obtain rfl : hi = 3 := by rw [hh]; simp [st3, w0, w1, w2, w3]
                      exact ⟨2, 1, by decide, rfl, by decide, by simp [FL, Sp, ixN, nwN, lwN, h0, h1, h2, h3, h4, w0, w1, w2, w3]⟩
                    · obtain rfl : lo = 2 := by rw [hl]; simp [st2, w0, w1, w2, w3]
                      obtain rfl : hi = 4 := by rw [hh]; simp [st3, w0, w1, w2, w3]
                      exact ⟨2, 2, by decide, rfl, by decide, by simp [FL, Sp, ixN, nwN, lwN, h0, h1, h2, h3, h4, w0, w1, w2, w3]⟩
                · by_cases w2 : wsP c2
                  · by_cases w3 : wsP c3
                    · obtain rfl : lo = 1 := by rw [hl]; simp [st2, w0, w1, w2, w3]
                      obtain rfl : hi = 2 := by rw [hh]; simp [st3, w0, w1, w2, w3]
                      exact ⟨1, 1, by decide, rfl, by decide, by simp [FL, Sp, ixN, nwN, lwN, h0, h1, h2, h3, h4, w0, w1, w2, w3]⟩
                    · obtain rfl : lo = 1 := by rw [hl]; simp [st2, w0, w1, w2, w3]
                      obtain rfl : hi = 4 := by rw [hh]; simp [st3, w0, w1, w2, w3]
                      exact ⟨1, 3, by decide, rfl, by decide, by simp [FL, Sp, ixN, nwN, lwN, h0, h1, h2, h3, h4, w0, w1, w2, w3]⟩
                  · by_cases w3 : wsP c3
                    · obtain rfl : lo = 1 := by rw [hl]; simp [st2, w0, w1, w2, w3]
                      obtain rfl : hi = 3 := by rw [hh]; simp [st3, w0, w1, w2, w3]
                      exact ⟨1, 2, by decide, rfl, by decide, by simp [FL, Sp, ixN, nwN, lwN, h0, h1, h2, h3, h4, w0, w1, w2, w3]⟩
                    · obtain rfl : lo = 1 := by rw [hl]; simp [st2, w0, w1, w2, w3]
                      obtain rfl : hi = 4 := by rw [hh]; simp [st3, w0, w1, w2, w3]
                      exact ⟨1, 3, by decide, rfl, by decide, by simp [FL, Sp, ixN, nwN, lwN, h0, h1, h2, h3, h4, w0, w1, w2, w3]⟩
              · by_cases w1 : wsP c1
                · by_cases w2 : wsP c2
                  · by_cases w3 : wsP c3
                    · obtain rfl : lo = 0 := by rw [hl]; simp [st2, w0, w1, w2, w3]
                      obtain rfl : hi = 1 := by rw [hh]; simp [st3, w0, w1, w2, w3]
                      exact ⟨0, 1, by decide, rfl, by decide, by simp [FL, Sp, ixN, nwN, lwN, h0, h1, h2, h3, h4, w0, w1, w2, w3]⟩
                    · obtain rfl : lo = 0 := by rw [hl]; simp [st2, w0, w1, w2, w3]
                      obtain rfl : hi = 4 := by rw [hh]; simp [st3, w0, w1, w2, w3]
                      exact ⟨0, 4, by decide, rfl, by decide, by simp [FL, Sp, ixN, nwN, lwN, h0, h1, h2, h3, h4, w0, w1, w2, w3]⟩
                  · by_cases w3 : wsP c3
                    · obtain rfl : lo = 0 := by rw [hl]; simp [st2, w0, w1, w2, w3]
                      obtain rfl : hi = 3 := by rw [hh]; simp [st3, w0, w1, w2, w3]
                      exact ⟨0, 3, by decide, rfl, by decide, by simp [FL, Sp, ixN, nwN, lwN, h0, h1, h2, h3, h4, w0, w1, w2, w3]⟩
                    · obtain rfl : lo = 0 := by rw [hl]; simp [st2, w0, w1, w2, w3]
                      obtain rfl : hi = 4 := by rw [hh]; simp [st3, w0, w1, w2, w3]
                      exact ⟨0, 4, by decide, rfl, by decide, by simp [FL, Sp, ixN, nwN, lwN, h0, h1, h2, h3, h4, w0, w1, w2, w3]⟩
                · by_cases w2 : wsP c2
                  · by_cases w3 : wsP c3
                    · obtain rfl : lo = 0 := by rw [hl]; simp [st2, w0, w1, w2, w3]
                      obtain rfl : hi = 2 := by rw [hh]; simp [st3, w0, w1, w2, w3]
                      exact ⟨0, 2, by decide, rfl, by decide, by simp [FL, Sp, ixN, nwN, lwN, h0, h1, h2, h3, h4, w0, w1, w2, w3]⟩
                    · obtain rfl : lo = 0 := by rw [hl]; simp [st2, w0, w1, w2, w3]
                      obtain rfl : hi = 4 := by rw [hh]; simp [st3, w0, w1, w2, w3]
                      exact ⟨0, 4, by decide, rfl, by decide, by simp [FL, Sp, ixN, nwN, lwN, h0, h1, h2, h3, h4, w0, w1, w2, w3]⟩
                  · by_cases w3 : wsP c3
                    · obtain rfl : lo = 0 := by rw [hl]; simp [st2, w0, w1, w2, w3]
                      obtain rfl : hi = 3 := by rw [hh]; simp [st3, w0, w1, w2, w3]
                      exact ⟨0, 3, by decide, rfl, by decide, by simp [FL, Sp, ixN, nwN, lwN, h0, h1, h2, h3, h4, w0, w1, w2, w3]⟩
                    · obtain rfl : lo = 0 := by rw [hl]; simp [st2, w0, w1, w2, w3]
                      obtain rfl : hi = 4 := by rw [hh]; simp [st3, w0, w1, w2, w3]
                      exact ⟨0, 4, by decide, rfl, by decide, by simp [FL, Sp, ixN, nwN, lwN, h0, h1, h2, h3, h4, w0, w1, w2, w3]⟩
            · obtain rfl : e = 5 := by rw [he]; simp [st1, h0, h1, h2, h3, h4]
              by_cases w0 : wsP c0
              · by_cases w1 : wsP c1
                · by_cases w2 : wsP c2
                  · by_cases w3 : wsP c3
                    · by_cases w4 : wsP c4
                      · obtain rfl : lo = 5 := by rw [hl]; simp [st2, w0, w1, w2, w3, w4]
                        obtain rfl : hi = 5 := by rw [hh]; simp [st3, w0, w1, w2, w3, w4]
                        exact ⟨5, 0, by decide, rfl, by decide, by simp [FL, Sp, ixN, nwN, lwN, h0, h1, h2, h3, h4, w0, w1, w2, w3, w4]⟩
                      · obtain rfl : lo = 4 := by rw [hl]; simp [st2, w0, w1, w2, w3, w4]
                        obtain rfl : hi = 5 := by rw [hh]; simp [st3, w0, w1, w2, w3, w4]
                        exact ⟨4, 1, by decide, rfl, by decide, by simp [FL, Sp, ixN, nwN, lwN, h0, h1, h2, h3, h4, w0, w1, w2, w3, w4]⟩
                    · by_cases w4 : wsP c4
                      · obtain rfl : lo = 3 := by rw [hl]; simp [st2, w0, w1, w2, w3, w4]
                        obtain rfl : hi = 4 := by rw [hh]; simp [st3, w0, w1, w2, w3, w4]
                        exact ⟨3, 1, by decide, rfl, by decide, by simp [FL, Sp, ixN, nwN, lwN, h0, h1, h2, h3, h4, w0, w1, w2, w3, w4]⟩
                      · obtain rfl : lo = 3 := by rw [hl]; simp [st2, w0, w1, w2, w3, w4]
                        obtain rfl : hi = 5 := by rw [hh]; simp [st3, w0, w1, w2, w3, w4]
                        exact ⟨3, 2, by decide, rfl, by decide, by simp [FL, Sp, ixN, nwN, lwN, h0, h1, h2, h3, h4, w0, w1, w2, w3, w4]⟩
                  · by_cases w3 : wsP c3
                    · by_cases w4 : wsP c4
                      · obtain rfl : lo = 2 := by rw [hl]; simp [st2, w0, w1, w2, w3, w4]
                        obtain rfl : hi = 3 := by rw [hh]; simp [st3, w0, w1, w2, w3, w4]
                        exact ⟨2, 1, by decide, rfl, by decide, by simp [FL, Sp, ixN, nwN, lwN, h0, h1, h2, h3, h4, w0, w1, w2, w3, w4]⟩
                      · obtain rfl : lo = 2 := by rw [hl]; simp [st2, w0, w1, w2, w3, w4]
                        obtain rfl : hi = 5 := by rw [hh]; simp [st3, w0, w1, w2, w3, w4]
                        exact ⟨2, 3, by decide, rfl, by decide, by simp [FL, Sp, ixN, nwN, lwN, h0, h1, h2, h3, h4, w0, w1, w2, w3, w4]⟩
                    · by_cases w4 : wsP c4
                      · obtain rfl : lo = 2 := by rw [hl]; simp [st2, w0, w1, w2, w3, w4]
                        obtain rfl : hi = 4 := by rw [hh]; simp [st3, w0, w1, w2, w3, w4]
                        exact ⟨2, 2, by decide, rfl, by decide, by simp [FL, Sp, ixN, nwN, lwN, h0, h1, h2, h3, h4, w0, w1, w2, w3, w4]⟩
                      · obtain rfl : lo = 2 := by rw [hl]; simp [st2, w0, w1, w2, w3, w4]
                        obtain rfl : hi = 5 := by rw [hh]; simp [st3, w0, w1, w2, w3, w4]
                        exact ⟨2, 3, by decide, rfl, by decide, by simp [FL, Sp, ixN, nwN, lwN, h0, h1, h2, h3, h4, w0, w1, w2, w3, w4]⟩
                · by_cases w2 : wsP c2
                  · by_cases w3 : wsP c3
                    · by_cases w4 : wsP c4
                      · obtain rfl : lo = 1 := by rw [hl]; simp [st2, w0, w1, w2, w3, w4]
                        obtain rfl : hi = 2 := by rw [hh]; simp [st3, w0, w1, w2, w3, w4]
                        exact ⟨1, 1, by decide, rfl, by decide, by simp [FL, Sp, ixN, nwN, lwN, h0, h1, h2, h3, h4, w0, w1, w2, w3, w4]⟩
                      · obtain rfl : lo = 1 := by rw [hl]; simp [st2, w0, w1, w2, w3, w4]
                        obtain rfl : hi = 5 := by rw [hh]; simp [st3, w0, w1, w2, w3, w4]
                        exact ⟨1, 4, by decide, rfl, by decide, by simp [FL, Sp, ixN, nwN, lwN, h0, h1, h2, h3, h4, w0, w1, w2, w3, w4]⟩
                    · by_cases w4 : wsP c4
                      · obtain rfl : lo = 1 := by rw [hl]; simp [st2, w0, w1, w2, w3, w4]
                        obtain rfl : hi = 4 := by rw [hh]; simp [st3, w0, w1, w2, w3, w4]
                        exact ⟨1, 3, by decide, rfl, by decide, by simp [FL, Sp, ixN, nwN, lwN, h0, h1, h2, h3, h4, w0, w1, w2, w3, w4]⟩
                      · obtain rfl : lo = 1 := by rw [hl]; simp [st2, w0, w1, w2, w3, w4]
                        obtain rfl : hi = 5 := by rw [hh]; simp [st3, w0, w1, w2, w3, w4]
                        exact ⟨1, 4, by decide, rfl, by decide, by simp [FL, Sp, ixN, nwN, lwN, h0, h1, h2, h3, h4, w0, w1, w2, w3, w4]⟩
                  · by_cases w3 : wsP c3
                    · by_cases w4 : wsP c4
                      · obtain rfl : lo = 1 := by rw [hl]; simp [st2, w0, w1, w2, w3, w4]
                        obtain rfl : hi = 3 := by rw [hh]; simp [st3, w0, w1, w2, w3, w4]
                        exact ⟨1, 2, by decide, rfl, by decide, by simp [FL, Sp, ixN, nwN, lwN, h0, h1, h2, h3, h4, w0, w1, w2, w3, w4]⟩
                      · obtain rfl : lo = 1 := by rw [hl]; simp [st2, w0, w1, w2, w3, w4]
                        obtain rfl : hi = 5 := by rw [hh]; simp [st3, w0, w1, w2, w3, w4]
                        exact ⟨1, 4, by decide, rfl, by decide, by simp [FL, Sp, ixN, nwN, lwN, h0, h1, h2, h3, h4, w0, w1, w2, w3, w4]⟩
                    · by_cases w4 : wsP c4
                      · obtain rfl : lo = 1 := by rw [hl]; simp [st2, w0, w1, w2, w3, w4]
                        obtain rfl : hi = 4 := by rw [hh]; simp [st3, w0, w1, w2, w3, w4]
                        exact ⟨1, 3, by decide, rfl, by decide, by simp [FL, Sp, ixN, nwN, lwN, h0, h1, h2, h3, h4, w0, w1, w2, w3, w4]⟩
                      · obtain rfl : lo = 1 := by rw [hl]; simp [st2, w0, w1, w2, w3, w4]
                        obtain rfl : hi = 5 := by rw [hh]; simp [st3, w0, w1, w2, w3, w4]
                        exact ⟨1, 4, by decide, rfl, by decide, by simp [FL, Sp, ixN, nwN, lwN, h0, h1, h2, h3, h4, w0, w1, w2, w3, w4]⟩
              · by_cases w1 : wsP c1
                · by_cases w2 : wsP c2
                  · by_cases w3 : wsP c3
                    · by_cases w4 : wsP c4
                      · obtain rfl : lo = 0 := by rw [hl]; simp [st2, w0, w1, w2, w3, w4]
                        obtain rfl : hi = 1 := by rw [hh]; simp [st3, w0, w1, w2, w3, w4]
                        exact ⟨0, 1, by decide, rfl, by decide, by simp [FL, Sp, ixN, nwN, lwN, h0, h1, h2, h3, h4, w0, w1, w2, w3, w4]⟩
                      · obtain rfl : lo = 0 := by rw [hl]; simp [st2, w0, w1, w2, w3, w4]
                        obtain rfl : hi = 5 := by rw [hh]; simp [st3, w0, w1, w2, w3, w4]
                        exact ⟨0, 5, by decide, rfl, by decide, by simp [FL, Sp, ixN, nwN, lwN, h0, h1, h2, h3, h4, w0, w1, w2, w3, w4]⟩
                    · by_cases w4 : wsP c4
                      · obtain rfl : lo = 0 := by rw [hl]; simp [st2, w0, w1, w2, w3, w4]
                        obtain rfl : hi = 4 := by rw [hh]; simp [st3, w0, w1, w2, w3, w4]
                        exact ⟨0, 4, by decide, rfl, by decide, by simp [FL, Sp, ixN, nwN, lwN, h0, h1, h2, h3, h4, w0, w1, w2, w3, w4]⟩
                      · obtain rfl : lo = 0 := by rw [hl]; simp [st2, w0, w1, w2, w3, w4]
                        obtain rfl : hi = 5 := by rw [hh]; simp [st3, w0, w1, w2, w3, w4]
                        exact ⟨0, 5, by decide, rfl, by decide, by simp [FL, Sp, ixN, nwN, lwN, h0, h1, h2, h3, h4, w0, w1, w2, w3, w4]⟩
                  · by_cases w3 : wsP c3
                    · by_cases w4 : wsP c4
                      · obtain rfl : lo = 0 := by rw [hl]; simp [st2, w0, w1, w2, w3, w4]
                        obtain rfl : hi = 3 := by rw [hh]; simp [st3, w0, w1, w2, w3, w4]
                        exact ⟨0, 3, by decide, rfl, by decide, by simp [FL, Sp, ixN, nwN, lwN, h0, h1, h2, h3, h4, w0, w1, w2, w3, w4]⟩
                      · obtain rfl : lo = 0 := by rw [hl]; simp [st2, w0, w1, w2, w3, w4]
                        obtain rfl : hi = 5 := by rw [hh]; simp [st3, w0, w1, w2, w3, w4]
                        exact ⟨0, 5, by decide, rfl, by decide, by simp [FL, Sp, ixN, nwN, lwN, h0, h1, h2, h3, h4, w0, w1, w2, w3, w4]⟩
                    · by_cases w4 : wsP c4
                      · obtain rfl : lo = 0 := by rw [hl]; simp [st2, w0, w1, w2, w3, w4]
                        obtain rfl : hi = 4 := by rw [hh]; simp [st3, w0, w1, w2, w3, w4]
                        exact ⟨0, 4, by decide, rfl, by decide, by simp [FL, Sp, ixN, nwN, lwN, h0, h1, h2, h3, h4, w0, w1, w2, w3, w4]⟩
                      · obtain rfl : lo = 0 := by rw [hl]; simp [st2, w0, w1, w2, w3, w4]
                        obtain rfl : hi = 5 := by rw [hh]; simp [st3, w0, w1, w2, w3, w4]
                        exact ⟨0, 5, by decide, rfl, by decide, by simp [FL, Sp, ixN, nwN, lwN, h0, h1, h2, h3, h4, w0, w1, w2, w3, w4]⟩
                · by_cases w2 : wsP c2
                  · by_cases w3 : wsP c3
                    · by_cases w4 : wsP c4
                      · obtain rfl : lo = 0 := by rw [hl]; simp [st2, w0, w1, w2, w3, w4]
                        obtain rfl : hi = 2 := by rw [hh]; simp [st3, w0, w1, w2, w3, w4]
                        exact ⟨0, 2, by decide, rfl, by decide, by simp [FL, Sp, ixN, nwN, lwN, h0, h1, h2, h3, h4, w0, w1, w2, w3, w4]⟩
                      · obtain rfl : lo = 0 := by rw [hl]; simp [st2, w0, w1, w2, w3, w4]
                        obtain rfl : hi = 5 := by rw [hh]; simp [st3, w0, w1, w2, w3, w4]
                        exact ⟨0, 5, by decide, rfl, by decide, by simp [FL, Sp, ixN, nwN, lwN, h0, h1, h2, h3, h4, w0, w1, w2, w3, w4]⟩
                    · by_cases w4 : wsP c4
                      · obtain rfl : lo = 0 := by rw [hl]; simp [st2, w0, w1, w2, w3, w4]
                        obtain rfl : hi = 4 := by rw [hh]; simp [st3, w0, w1, w2, w3, w4]
                        exact ⟨0, 4, by decide, rfl, by decide, by simp [FL, Sp, ixN, nwN, lwN, h0, h1, h2, h3, h4, w0, w1, w2, w3, w4]⟩
                      · obtain rfl : lo = 0 := by rw [hl]; simp [st2, w0, w1, w2, w3, w4]
                        obtain rfl : hi = 5 := by rw [hh]; simp [st3, w0, w1, w2, w3, w4]
                        exact ⟨0, 5, by decide, rfl, by decide, by simp [FL, Sp, ixN, nwN, lwN, h0, h1, h2, h3, h4, w0, w1, w2, w3, w4]⟩
                  · by_cases w3 : wsP c3
                    · by_cases w4 : wsP c4
                      · obtain rfl : lo = 0 := by rw [hl]; simp [st2, w0, w1, w2, w3, w4]
                        obtain rfl : hi = 3 := by rw [hh]; simp [st3, w0, w1, w2, w3, w4]
                        exact ⟨0, 3, by decide, rfl, by decide, by simp [FL, Sp, ixN, nwN, lwN, h0, h1, h2, h3, h4, w0, w1, w2, w3, w4]⟩
                      · obtain rfl : lo = 0 := by rw [hl]; simp [st2, w0, w1, w2, w3, w4]
                        obtain rfl : hi = 5 := by rw [hh]; simp [st3, w0, w1, w2, w3, w4]
                        exact ⟨0, 5, by decide, rfl, by decide, by simp [FL, Sp, ixN, nwN, lwN, h0, h1, h2, h3, h4, w0, w1, w2, w3, w4]⟩
                    · by_cases w4 : wsP c4
                      · obtain rfl : lo = 0 := by rw [hl]; simp [st2, w0, w1, w2, w3, w4]
                        obtain rfl : hi = 4 := by rw [hh]; simp [st3, w0, w1, w2, w3, w4]
                        exact ⟨0, 4, by decide, rfl, by decide, by simp [FL, Sp, ixN, nwN, lwN, h0, h1, h2, h3, h4, w0, w1, w2, w3, w4]⟩
                      · obtain rfl : lo = 0 := by rw [hl]; simp [st2, w0, w1, w2, w3, w4]
                        obtain rfl : hi = 5 := by rw [hh]; simp [st3, w0, w1, w2, w3, w4]
                        exact ⟨0, 5, by decide, rfl, by decide, by simp [FL, Sp, ixN, nwN, lwN, h0, h1, h2, h3, h4, w0, w1, w2, w3, w4]⟩
theorem mt_len {c0 c1 c2 c3 c4 lo hi : Int32} {ds : List Int32} (h : Mt c0 c1 c2 c3 c4 lo hi ds) : Int32.ofNat ds.length = hi - lo := by
  obtain ⟨j, k, h1, -, h3, rfl⟩ := h
  rw [h3]; congr 1; simp; omega
theorem mt_at {c0 c1 c2 c3 c4 lo hi : Int32} {ds : List Int32} (h : Mt c0 c1 c2 c3 c4 lo hi ds) (i : Nat) (hi5 : i < 5) (q : Int32.ofNat i < hi - lo) : i < ds.length ∧ (¬ lo + Int32.ofNat i < 0 ∧ lo + Int32.ofNat i < 5) ∧ ([(.int c0), (.int c1), (.int c2), (.int c3), (.int c4)] : List Value).getD (lo + Int32.ofNat i).toNatClampNeg (.int 0) = .int (ds.getD i 0) := by
  obtain ⟨j, k, h1, rfl, h3, rfl⟩ := h
  rw [h3, o32lt (by omega) (by omega)] at q
  rw [← Int32.ofNat_add]
  refine ⟨by simp; omega, ⟨o32neg (by omega), (o32lt (b := 5) (by omega) (by decide)).mpr (by omega)⟩, ?_⟩
  rw [o32tn (by omega)]
  have e : [Value.int c0, .int c1, .int c2, .int c3, .int c4] = [c0, c1, c2, c3, c4].map Value.int := rfl
  have hj : j + i < [c0, c1, c2, c3, c4].length := by show _ < 5; omega
  rw [e]
  simp only [List.getD_eq_getElem?_getD, List.getElem?_map, List.getElem?_take, List.getElem?_drop, if_pos q, List.getElem?_eq_getElem hj, Option.map_some, Option.getD_some]
theorem pd_20 : parseMethodDescriptor "(Ljava/lang/String;)Ljava/lang/String;" = some ⟨[(.object "java/lang/String")], (some (.object "java/lang/String"))⟩ := by decide +kernel
theorem pd_21 : parseMethodDescriptor "(I)C" = some ⟨[.int], (some .char)⟩ := by decide +kernel
theorem pd_22 : parseMethodDescriptor "(I[C)[C" = some ⟨[.int, (.array .char)], (some (.array .char))⟩ := by decide +kernel
theorem pd_23 : parseMethodDescriptor "([C)V" = some ⟨[(.array .char)], none⟩ := by decide +kernel
theorem pd_24 : parseMethodDescriptor "(C)Z" = some ⟨[.char], (some .boolean)⟩ := by decide +kernel
set_option maxRecDepth 65536 in
set_option maxHeartbeats 40000000 in
theorem ctLaw (l : Launch) (Z : State) (a0 : Array Value) (hw : ∀ d ∈ tables_1, d.before a0 Z = true) (hEL : EW Z a0 consts_1) (z0 : Int32) (S0 : Sta Z Z.heap "java/lang/String" "COMPACT_STRINGS" "Z" (.int z0)) (hz0 : ¬ z0 = 0) (fm : Value) (hfm : fm.isRef = true) (SF : Sta Z Z.heap "jdk/internal/util/Preconditions" "SIOOBE_FORMATTER" "Ljava/util/function/BiFunction;" fm) (ci aA : Addr) (cA : Cell) (SI : Sta Z Z.heap "java/lang/CharacterDataLatin1" "instance" "Ljava/lang/CharacterDataLatin1;" (.ref ci)) (IC : Exa Z Z.heap ci "java/lang/CharacterDataLatin1") (ST : Sta Z Z.heap "java/lang/CharacterDataLatin1" "A" "[I" (.ref aA)) (TA : TabW Z aA cA) (p0 p1 p2 p3 p4 p5 : Int32) (h0 : Heap) (n0 : Nat)  :
    Ct l Z consts_1 tables_1 x code maxLocals ret room_1 #[(.int p0), (.int p1), (.int p2), (.int p3), (.int p4), (.int p5)] h0 n0 [] (fun v _ => v = some (.int 1)) := by
  have w : ∀ {d : Jvm.Cond} (i : Nat), tables_1[i]? = some d → d.before a0 Z = true := fun i q => hw _ (List.mem_of_getElem? q)
  refine Ct.enter (plainFor_of_name pn_6) hEL ?_
  intro p e sS m below meth c T0 hby hml0 hret hlk hnm hs0 X0
  have hml : c.maxLocals = 15 := hml0
  have D : ∀ {pc : Nat} {r : Except DecodeError (Instr × Nat)}, decode code pc = r → decode c.code pc = r := fun q => hb hby q
  rw [show entryFrame m #[(.int p0), (.int p1), (.int p2), (.int p3), (.int p4), (.int p5)] maxLocals = mkF m 0 #[.val (.int p0), .val (.int p1), .val (.int p2), .val (.int p3), .val (.int p4), .val (.int p5), .unset, .unset, .unset, .unset, .unset, .unset, .unset, .unset, .unset] [] from by first | (simp [entryFrame, mkF, argsToLocals, Value.category, maxLocals]; done) | rfl]
  refine X0.iloadN (x := p0) (D at_0) rfl ?_
  refine X0.bipush (x := (120 : Int32)) (D at_1) rfl ?_
  refine X0.iand (D at_3) ?_
  refine X0.bipush (x := (120 : Int32)) (D at_4) rfl ?_
  refine X0.icmp_ne 34 (D at_6) ⟨by decide, by decide⟩ (fun hc1623 => ?_) (fun hc1623 => ?_)
  · show Goes p.tables e below _ (T0.setTop (mkF m 34 #[.val (.int p0), .val (.int p1), .val (.int p2), .val (.int p3), .val (.int p4), .val (.int p5), .unset, .unset, .unset, .unset, .unset, .unset, .unset, .unset, .unset] []))
    refine X0.iloadN (x := p0) (D at_34) rfl ?_
    refine X0.bipush (x := (7 : Int32)) (D at_35) rfl ?_
    refine X0.iand (D at_37) ?_
    refine X0.bipush (x := (6 : Int32)) (D at_38) rfl ?_
    refine X0.irem (D at_40) (by decide) ?_
    refine X0.istore #[.val (.int p0), .val (.int p1), .val (.int p2), .val (.int p3), .val (.int p4), .val (.int p5), .val (.int ((p0 &&& (7 : Int32)) % (6 : Int32))), .unset, .unset, .unset, .unset, .unset, .unset, .unset, .unset] (D at_41) rfl ?_
    refine X0.iconst (x := (5 : Int32)) (D at_43) rfl ?_
    refine X0.newarr (w 0 rfl) (n := (5 : Int32)) (D at_44) (by decide) 5 (by decide) (by decide) (by decide) (by decide) ?_
    intro T1636 h1637 b1638 kb1639 g1640 X1641 E1642 A1643
    have F1644 : Arv Z h1637 b1638 kb1639 .char (5 : Int32) [(.int (0 : Int32)), (.int (0 : Int32)), (.int (0 : Int32)), (.int (0 : Int32)), (.int (0 : Int32))] (.int (0 : Int32)) := A1643.pad (pad_rep [] (.int (0 : Int32)) 5)
    show Goes p.tables e below _ (T1636.setTop (mkF m 46 #[.val (.int p0), .val (.int p1), .val (.int p2), .val (.int p3), .val (.int p4), .val (.int p5), .val (.int ((p0 &&& (7 : Int32)) % (6 : Int32))), .unset, .unset, .unset, .unset, .unset, .unset, .unset, .unset] [(.ref b1638)]))
    refine X1641.dup (D at_46) rfl ?_
    refine X1641.iconst (x := (0 : Int32)) (D at_47) rfl ?_
    refine X1641.iloadN (x := p1) (D at_48) rfl ?_
    show Goes p.tables e below _ (T1636.setTop (mkF m 49 #[.val (.int p0), .val (.int p1), .val (.int p2), .val (.int p3), .val (.int p4), .val (.int p5), .val (.int ((p0 &&& (7 : Int32)) % (6 : Int32))), .unset, .unset, .unset, .unset, .unset, .unset, .unset, .unset] [(.int p1), (.int (0 : Int32)), (.ref b1638), (.ref b1638)]))
    refine X1641.calls [(.int p1)] [(.int (0 : Int32)), (.ref b1638), (.ref b1638)] (ctDr l Z a0 hw hEL z0 S0 hz0 p1 _ _) (w 1 rfl) (w 2 rfl) (w 3 rfl) (w 4 rfl) (by decide) (fun _ q => nomatch q) (by decide) 3 (by decide) (by decide) (by decide) (lenOf pd_21 rfl) rfl (Nat.le_of_ble_eq_true rfl) (by rw [hml]; rfl) (D at_49) ?_
    rintro T1645 h1646 _ X1648 K1649 ⟨c0, rfl, r0⟩
    have F1650 := F1644.keep K1649 nin0
    show Goes p.tables e below _ (T1645.setTop (mkF m 52 #[.val (.int p0), .val (.int p1), .val (.int p2), .val (.int p3), .val (.int p4), .val (.int p5), .val (.int ((p0 &&& (7 : Int32)) % (6 : Int32))), .unset, .unset, .unset, .unset, .unset, .unset, .unset, .unset] [(.int c0), (.int (0 : Int32)), (.ref b1638), (.ref b1638)]))
    show Goes p.tables e below _ (T1645.setTop (mkF m 52 #[.val (.int p0), .val (.int p1), .val (.int p2), .val (.int p3), .val (.int p4), .val (.int p5), .val (.int ((p0 &&& (7 : Int32)) % (6 : Int32))), .unset, .unset, .unset, .unset, .unset, .unset, .unset, .unset] [(.int c0), (.int (0 : Int32)), (.ref b1638), (.ref b1638)]))
    refine X1648.castore F1650 ⟨by decide, by decide⟩ 0 rfl (Nat.le_of_ble_eq_true rfl) (by simp) (D at_52) ?_
    intro T1651 h1652 X1653 W1654 A1655
    have F1656 : Arv Z h1652 b1638 kb1639 .char (5 : Int32) [(.int c0), (.int (0 : Int32)), (.int (0 : Int32)), (.int (0 : Int32)), (.int (0 : Int32))] (.int (0 : Int32)) := by rw [nar_id r0] at A1655; exact A1655
    show Goes p.tables e below _ (T1651.setTop (mkF m 53 #[.val (.int p0), .val (.int p1), .val (.int p2), .val (.int p3), .val (.int p4), .val (.int p5), .val (.int ((p0 &&& (7 : Int32)) % (6 : Int32))), .unset, .unset, .unset, .unset, .unset, .unset, .unset, .unset] [(.ref b1638)]))
    refine X1653.dup (D at_53) rfl ?_
    refine X1653.iconst (x := (1 : Int32)) (D at_54) rfl ?_
    refine X1653.iloadN (x := p2) (D at_55) rfl ?_
    show Goes p.tables e below _ (T1651.setTop (mkF m 56 #[.val (.int p0), .val (.int p1), .val (.int p2), .val (.int p3), .val (.int p4), .val (.int p5), .val (.int ((p0 &&& (7 : Int32)) % (6 : Int32))), .unset, .unset, .unset, .unset, .unset, .unset, .unset, .unset] [(.int p2), (.int (1 : Int32)), (.ref b1638), (.ref b1638)]))
    refine X1653.calls [(.int p2)] [(.int (1 : Int32)), (.ref b1638), (.ref b1638)] (ctDr l Z a0 hw hEL z0 S0 hz0 p2 _ _) (w 1 rfl) (w 2 rfl) (w 3 rfl) (w 4 rfl) (by decide) (fun _ q => nomatch q) (by decide) 3 (by decide) (by decide) (by decide) (lenOf pd_21 rfl) rfl (Nat.le_of_ble_eq_true rfl) (by rw [hml]; rfl) (D at_56) ?_
    rintro T1657 h1658 _ X1660 K1661 ⟨c1, rfl, r1⟩
    have F1662 := F1656.keep K1661 nin0
    show Goes p.tables e below _ (T1657.setTop (mkF m 59 #[.val (.int p0), .val (.int p1), .val (.int p2), .val (.int p3), .val (.int p4), .val (.int p5), .val (.int ((p0 &&& (7 : Int32)) % (6 : Int32))), .unset, .unset, .unset, .unset, .unset, .unset, .unset, .unset] [(.int c1), (.int (1 : Int32)), (.ref b1638), (.ref b1638)]))
    show Goes p.tables e below _ (T1657.setTop (mkF m 59 #[.val (.int p0), .val (.int p1), .val (.int p2), .val (.int p3), .val (.int p4), .val (.int p5), .val (.int ((p0 &&& (7 : Int32)) % (6 : Int32))), .unset, .unset, .unset, .unset, .unset, .unset, .unset, .unset] [(.int c1), (.int (1 : Int32)), (.ref b1638), (.ref b1638)]))
    refine X1660.castore F1662 ⟨by decide, by decide⟩ 1 rfl (Nat.le_of_ble_eq_true rfl) (by simp) (D at_59) ?_
    intro T1663 h1664 X1665 W1666 A1667
    have F1668 : Arv Z h1664 b1638 kb1639 .char (5 : Int32) [(.int c0), (.int c1), (.int (0 : Int32)), (.int (0 : Int32)), (.int (0 : Int32))] (.int (0 : Int32)) := by rw [nar_id r1] at A1667; exact A1667
    show Goes p.tables e below _ (T1663.setTop (mkF m 60 #[.val (.int p0), .val (.int p1), .val (.int p2), .val (.int p3), .val (.int p4), .val (.int p5), .val (.int ((p0 &&& (7 : Int32)) % (6 : Int32))), .unset, .unset, .unset, .unset, .unset, .unset, .unset, .unset] [(.ref b1638)]))
    refine X1665.dup (D at_60) rfl ?_
    refine X1665.iconst (x := (2 : Int32)) (D at_61) rfl ?_
    refine X1665.iloadN (x := p3) (D at_62) rfl ?_
    show Goes p.tables e below _ (T1663.setTop (mkF m 63 #[.val (.int p0), .val (.int p1), .val (.int p2), .val (.int p3), .val (.int p4), .val (.int p5), .val (.int ((p0 &&& (7 : Int32)) % (6 : Int32))), .unset, .unset, .unset, .unset, .unset, .unset, .unset, .unset] [(.int p3), (.int (2 : Int32)), (.ref b1638), (.ref b1638)]))
    refine X1665.calls [(.int p3)] [(.int (2 : Int32)), (.ref b1638), (.ref b1638)] (ctDr l Z a0 hw hEL z0 S0 hz0 p3 _ _) (w 1 rfl) (w 2 rfl) (w 3 rfl) (w 4 rfl) (by decide) (fun _ q => nomatch q) (by decide) 3 (by decide) (by decide) (by decide) (lenOf pd_21 rfl) rfl (Nat.le_of_ble_eq_true rfl) (by rw [hml]; rfl) (D at_63) ?_
    rintro T1669 h1670 _ X1672 K1673 ⟨c2, rfl, r2⟩
    have F1674 := F1668.keep K1673 nin0
    show Goes p.tables e below _ (T1669.setTop (mkF m 66 #[.val (.int p0), .val (.int p1), .val (.int p2), .val (.int p3), .val (.int p4), .val (.int p5), .val (.int ((p0 &&& (7 : Int32)) % (6 : Int32))), .unset, .unset, .unset, .unset, .unset, .unset, .unset, .unset] [(.int c2), (.int (2 : Int32)), (.ref b1638), (.ref b1638)]))
    show Goes p.tables e below _ (T1669.setTop (mkF m 66 #[.val (.int p0), .val (.int p1), .val (.int p2), .val (.int p3), .val (.int p4), .val (.int p5), .val (.int ((p0 &&& (7 : Int32)) % (6 : Int32))), .unset, .unset, .unset, .unset, .unset, .unset, .unset, .unset] [(.int c2), (.int (2 : Int32)), (.ref b1638), (.ref b1638)]))
    refine X1672.castore F1674 ⟨by decide, by decide⟩ 2 rfl (Nat.le_of_ble_eq_true rfl) (by simp) (D at_66) ?_
    intro T1675 h1676 X1677 W1678 A1679
    have F1680 : Arv Z h1676 b1638 kb1639 .char (5 : Int32) [(.int c0), (.int c1), (.int c2), (.int (0 : Int32)), (.int (0 : Int32))] (.int (0 : Int32)) := by rw [nar_id r2] at A1679; exact A1679
    show Goes p.tables e below _ (T1675.setTop (mkF m 67 #[.val (.int p0), .val (.int p1), .val (.int p2), .val (.int p3), .val (.int p4), .val (.int p5), .val (.int ((p0 &&& (7 : Int32)) % (6 : Int32))), .unset, .unset, .unset, .unset, .unset, .unset, .unset, .unset] [(.ref b1638)]))
    refine X1677.dup (D at_67) rfl ?_
    refine X1677.iconst (x := (3 : Int32)) (D at_68) rfl ?_
    refine X1677.iload (x := p4) (D at_69) rfl ?_
    show Goes p.tables e below _ (T1675.setTop (mkF m 71 #[.val (.int p0), .val (.int p1), .val (.int p2), .val (.int p3), .val (.int p4), .val (.int p5), .val (.int ((p0 &&& (7 : Int32)) % (6 : Int32))), .unset, .unset, .unset, .unset, .unset, .unset, .unset, .unset] [(.int p4), (.int (3 : Int32)), (.ref b1638), (.ref b1638)]))
    refine X1677.calls [(.int p4)] [(.int (3 : Int32)), (.ref b1638), (.ref b1638)] (ctDr l Z a0 hw hEL z0 S0 hz0 p4 _ _) (w 1 rfl) (w 2 rfl) (w 3 rfl) (w 4 rfl) (by decide) (fun _ q => nomatch q) (by decide) 3 (by decide) (by decide) (by decide) (lenOf pd_21 rfl) rfl (Nat.le_of_ble_eq_true rfl) (by rw [hml]; rfl) (D at_71) ?_
    rintro T1681 h1682 _ X1684 K1685 ⟨c3, rfl, r3⟩
    have F1686 := F1680.keep K1685 nin0
    show Goes p.tables e below _ (T1681.setTop (mkF m 74 #[.val (.int p0), .val (.int p1), .val (.int p2), .val (.int p3), .val (.int p4), .val (.int p5), .val (.int ((p0 &&& (7 : Int32)) % (6 : Int32))), .unset, .unset, .unset, .unset, .unset, .unset, .unset, .unset] [(.int c3), (.int (3 : Int32)), (.ref b1638), (.ref b1638)]))
    show Goes p.tables e below _ (T1681.setTop (mkF m 74 #[.val (.int p0), .val (.int p1), .val (.int p2), .val (.int p3), .val (.int p4), .val (.int p5), .val (.int ((p0 &&& (7 : Int32)) % (6 : Int32))), .unset, .unset, .unset, .unset, .unset, .unset, .unset, .unset] [(.int c3), (.int (3 : Int32)), (.ref b1638), (.ref b1638)]))
    refine X1684.castore F1686 ⟨by decide, by decide⟩ 3 rfl (Nat.le_of_ble_eq_true rfl) (by simp) (D at_74) ?_
    intro T1687 h1688 X1689 W1690 A1691
    have F1692 : Arv Z h1688 b1638 kb1639 .char (5 : Int32) [(.int c0), (.int c1), (.int c2), (.int c3), (.int (0 : Int32))] (.int (0 : Int32)) := by rw [nar_id r3] at A1691; exact A1691
    show Goes p.tables e below _ (T1687.setTop (mkF m 75 #[.val (.int p0), .val (.int p1), .val (.int p2), .val (.int p3), .val (.int p4), .val (.int p5), .val (.int ((p0 &&& (7 : Int32)) % (6 : Int32))), .unset, .unset, .unset, .unset, .unset, .unset, .unset, .unset] [(.ref b1638)]))
    refine X1689.dup (D at_75) rfl ?_
    refine X1689.iconst (x := (4 : Int32)) (D at_76) rfl ?_
    refine X1689.iload (x := p5) (D at_77) rfl ?_
    show Goes p.tables e below _ (T1687.setTop (mkF m 79 #[.val (.int p0), .val (.int p1), .val (.int p2), .val (.int p3), .val (.int p4), .val (.int p5), .val (.int ((p0 &&& (7 : Int32)) % (6 : Int32))), .unset, .unset, .unset, .unset, .unset, .unset, .unset, .unset] [(.int p5), (.int (4 : Int32)), (.ref b1638), (.ref b1638)]))
    refine X1689.calls [(.int p5)] [(.int (4 : Int32)), (.ref b1638), (.ref b1638)] (ctDr l Z a0 hw hEL z0 S0 hz0 p5 _ _) (w 1 rfl) (w 2 rfl) (w 3 rfl) (w 4 rfl) (by decide) (fun _ q => nomatch q) (by decide) 3 (by decide) (by decide) (by decide) (lenOf pd_21 rfl) rfl (Nat.le_of_ble_eq_true rfl) (by rw [hml]; rfl) (D at_79) ?_
    rintro T1693 h1694 _ X1696 K1697 ⟨c4, rfl, r4⟩
    have F1698 := F1692.keep K1697 nin0
    show Goes p.tables e below _ (T1693.setTop (mkF m 82 #[.val (.int p0), .val (.int p1), .val (.int p2), .val (.int p3), .val (.int p4), .val (.int p5), .val (.int ((p0 &&& (7 : Int32)) % (6 : Int32))), .unset, .unset, .unset, .unset, .unset, .unset, .unset, .unset] [(.int c4), (.int (4 : Int32)), (.ref b1638), (.ref b1638)]))
    show Goes p.tables e below _ (T1693.setTop (mkF m 82 #[.val (.int p0), .val (.int p1), .val (.int p2), .val (.int p3), .val (.int p4), .val (.int p5), .val (.int ((p0 &&& (7 : Int32)) % (6 : Int32))), .unset, .unset, .unset, .unset, .unset, .unset, .unset, .unset] [(.int c4), (.int (4 : Int32)), (.ref b1638), (.ref b1638)]))
    refine X1696.castore F1698 ⟨by decide, by decide⟩ 4 rfl (Nat.le_of_ble_eq_true rfl) (by simp) (D at_82) ?_
    intro T1699 h1700 X1701 W1702 A1703
    have F1704 : Arv Z h1700 b1638 kb1639 .char (5 : Int32) [(.int c0), (.int c1), (.int c2), (.int c3), (.int c4)] (.int (0 : Int32)) := by rw [nar_id r4] at A1703; exact A1703
    show Goes p.tables e below _ (T1699.setTop (mkF m 83 #[.val (.int p0), .val (.int p1), .val (.int p2), .val (.int p3), .val (.int p4), .val (.int p5), .val (.int ((p0 &&& (7 : Int32)) % (6 : Int32))), .unset, .unset, .unset, .unset, .unset, .unset, .unset, .unset] [(.ref b1638)]))
    refine X1701.astore #[.val (.int p0), .val (.int p1), .val (.int p2), .val (.int p3), .val (.int p4), .val (.int p5), .val (.int ((p0 &&& (7 : Int32)) % (6 : Int32))), .val (.ref b1638), .unset, .unset, .unset, .unset, .unset, .unset, .unset] (D at_83) rfl rfl ?_
    refine X1701.new (w 5 rfl) (w 6 rfl) (w 7 rfl) (D at_85) (by decide) (by decide) ?_
    intro T1705 h1706 b1707 g1708 X1709 E1710 A1711 D1712 U1713
    have F1714 := F1704.ext E1710
    have lt1715 : b1638 < b1707 := by rw [g1708]; exact F1704.lt
    have F1716 : Fld Z h1706 b1707 "java/lang/String" "value" "[B" .null := D1712 (Or.inr (w 23 rfl)) (ty := (.array .byte)) (by decide)
    have F1717 : Fld Z h1706 b1707 "java/lang/String" "coder" "B" (.int (0 : Int32)) := D1712 (Or.inr (w 24 rfl)) (ty := .byte) (by decide)
    show Goes p.tables e below _ (T1705.setTop (mkF m 88 #[.val (.int p0), .val (.int p1), .val (.int p2), .val (.int p3), .val (.int p4), .val (.int p5), .val (.int ((p0 &&& (7 : Int32)) % (6 : Int32))), .val (.ref b1638), .unset, .unset, .unset, .unset, .unset, .unset, .unset] [(.ref b1707)]))
    refine X1709.dup (D at_88) rfl ?_
    refine X1709.iload (x := ((p0 &&& (7 : Int32)) % (6 : Int32))) (D at_89) rfl ?_
    refine X1709.aload (x := (.ref b1638)) (D at_91) rfl rfl ?_
    show Goes p.tables e below _ (T1705.setTop (mkF m 93 #[.val (.int p0), .val (.int p1), .val (.int p2), .val (.int p3), .val (.int p4), .val (.int p5), .val (.int ((p0 &&& (7 : Int32)) % (6 : Int32))), .val (.ref b1638), .unset, .unset, .unset, .unset, .unset, .unset, .unset] [(.ref b1638), (.int ((p0 &&& (7 : Int32)) % (6 : Int32))), (.ref b1707), (.ref b1707)]))
    suffices mid : ∀ (T1718 : State) (h1719 : Heap) (n : Int32) (cs : List Int32) (ts : Addr), Wd p l e room_1 sS m #[(.int p0), (.int p1), (.int p2), (.int p3), (.int p4), (.int p5)] below meth c Z a0 consts_1 (x).cls n0 [] [b1707, b1638] T1718 h1719 10 57 → OStr Z h1719 b1707 ts cs → Arv Z h1719 b1638 kb1639 .char (5 : Int32) [(.int c0), (.int c1), (.int c2), (.int c3), (.int c4)] (.int (0 : Int32)) → (NC c0 c1 c2 c3 c4 n cs) → Goes p.tables e below (Endq Z consts_1 sS n0 [] room_1 (fun v _ => v = some (.int 1))) (T1718.setTop (mkF m 105 #[.val (.int p0), .val (.int p1), .val (.int p2), .val (.int p3), .val (.int p4), .val (.int p5), .val (.int n), .val (.ref b1638), .val (.ref b1707), .val (.int n), .unset, .unset, .unset, .unset, .unset] [])) by
      show Goes p.tables e below _ (T1705.setTop (mkF m 93 #[.val (.int p0), .val (.int p1), .val (.int p2), .val (.int p3), .val (.int p4), .val (.int p5), .val (.int ((p0 &&& (7 : Int32)) % (6 : Int32))), .val (.ref b1638), .unset, .unset, .unset, .unset, .unset, .unset, .unset] [(.ref b1638), (.int ((p0 &&& (7 : Int32)) % (6 : Int32))), (.ref b1707), (.ref b1707)]))
      rcases rem6 p0 with hm | hm | hm | hm | hm | hm
      · rw [hm]
        show Goes p.tables e below _ (T1705.setTop (mkF m 93 #[.val (.int p0), .val (.int p1), .val (.int p2), .val (.int p3), .val (.int p4), .val (.int p5), .val (.int (0 : Int32)), .val (.ref b1638), .unset, .unset, .unset, .unset, .unset, .unset, .unset] [(.ref b1638), (.int (0 : Int32)), (.ref b1707), (.ref b1707)]))
        refine X1709.calls [(.int (0 : Int32)), (.ref b1638)] [(.ref b1707), (.ref b1707)] (ctPk0 l Z a0 hw hEL z0 S0 hz0 b1638 _ c0 c1 c2 c3 c4 _ _ F1714 r0 r1 r2 r3 r4) (w 8 rfl) (w 9 rfl) (w 3 rfl) (w 10 rfl) (by decide) (fun _ q => nomatch q) (by decide) 2 (by decide) (by decide) (by decide) (lenOf pd_22 rfl) rfl (Nat.le_of_ble_eq_true rfl) (by rw [hml]; rfl) (D at_93) ?_
        rintro T1723 h1724 _ X1726 K1727 ⟨b, kb, rfl, A9⟩
        have F1728 := F1714.keep K1727 nin0
        have F1729 := A1711.keep K1727
        have F1730 := F1716.keep K1727 nin0
        have F1731 := F1717.keep K1727 nin0
        show Goes p.tables e below _ (T1723.setTop (mkF m 96 #[.val (.int p0), .val (.int p1), .val (.int p2), .val (.int p3), .val (.int p4), .val (.int p5), .val (.int (0 : Int32)), .val (.ref b1638), .unset, .unset, .unset, .unset, .unset, .unset, .unset] [(.ref b), (.ref b1707), (.ref b1707)]))
        refine X1726.callc (a := b1707) [(.ref b)] [(.ref b1707)] (ctE1 l Z a0 hw hEL z0 S0 hz0 b1707 b _ _ _ _ F1729 F1730 F1731 A9) rfl (w 11 rfl) (w 12 rfl) (w 7 rfl) (w 13 rfl) (by decide) (by simp) (by decide) 1 (by decide) (by decide) (by decide) (lenOf pd_23 rfl) rfl (Nat.le_of_ble_eq_true rfl) (by rw [hml]; rfl) (D at_96) ?_
        rintro T1734 h1735 _ X1737 K1738 ⟨rfl, t1732, O1733⟩
        have F1739 := F1728.keep K1738 (ninS (Nat.ne_of_lt lt1715) nin0)
        have F1740 := F1729.keep K1738
        have F1741 := A9.keep K1738 (ninS (Exa.neArv F1729 A9 (w 6 rfl)).symm nin0)
        show Goes p.tables e below _ (T1734.setTop (mkF m 99 #[.val (.int p0), .val (.int p1), .val (.int p2), .val (.int p3), .val (.int p4), .val (.int p5), .val (.int (0 : Int32)), .val (.ref b1638), .unset, .unset, .unset, .unset, .unset, .unset, .unset] [(.ref b1707)]))
        refine X1737.astore #[.val (.int p0), .val (.int p1), .val (.int p2), .val (.int p3), .val (.int p4), .val (.int p5), .val (.int (0 : Int32)), .val (.ref b1638), .val (.ref b1707), .unset, .unset, .unset, .unset, .unset, .unset] (D at_99) rfl rfl ?_
        refine X1737.iload (x := (0 : Int32)) (D at_101) rfl ?_
        refine X1737.istore #[.val (.int p0), .val (.int p1), .val (.int p2), .val (.int p3), .val (.int p4), .val (.int p5), .val (.int (0 : Int32)), .val (.ref b1638), .val (.ref b1707), .val (.int (0 : Int32)), .unset, .unset, .unset, .unset, .unset] (D at_103) rfl ?_
        show Goes p.tables e below _ (T1734.setTop (mkF m 105 #[.val (.int p0), .val (.int p1), .val (.int p2), .val (.int p3), .val (.int p4), .val (.int p5), .val (.int (0 : Int32)), .val (.ref b1638), .val (.ref b1707), .val (.int (0 : Int32)), .unset, .unset, .unset, .unset, .unset] []))
        exact mid _ _ _ _ _ (X1737.mono (by decide) (by decide)) O1733 F1739 (Or.inl ⟨rfl, rfl⟩)
      · rw [hm]
        show Goes p.tables e below _ (T1705.setTop (mkF m 93 #[.val (.int p0), .val (.int p1), .val (.int p2), .val (.int p3), .val (.int p4), .val (.int p5), .val (.int (1 : Int32)), .val (.ref b1638), .unset, .unset, .unset, .unset, .unset, .unset, .unset] [(.ref b1638), (.int (1 : Int32)), (.ref b1707), (.ref b1707)]))
        refine X1709.calls [(.int (1 : Int32)), (.ref b1638)] [(.ref b1707), (.ref b1707)] (ctPk1 l Z a0 hw hEL z0 S0 hz0 b1638 _ c0 c1 c2 c3 c4 _ _ F1714 r0 r1 r2 r3 r4) (w 8 rfl) (w 9 rfl) (w 3 rfl) (w 10 rfl) (by decide) (fun _ q => nomatch q) (by decide) 2 (by decide) (by decide) (by decide) (lenOf pd_22 rfl) rfl (Nat.le_of_ble_eq_true rfl) (by rw [hml]; rfl) (D at_93) ?_
        rintro T1742 h1743 _ X1745 K1746 ⟨b, kb, rfl, A9⟩
        have F1747 := F1714.keep K1746 nin0
        have F1748 := A1711.keep K1746
        have F1749 := F1716.keep K1746 nin0
        have F1750 := F1717.keep K1746 nin0
        show Goes p.tables e below _ (T1742.setTop (mkF m 96 #[.val (.int p0), .val (.int p1), .val (.int p2), .val (.int p3), .val (.int p4), .val (.int p5), .val (.int (1 : Int32)), .val (.ref b1638), .unset, .unset, .unset, .unset, .unset, .unset, .unset] [(.ref b), (.ref b1707), (.ref b1707)]))
        show Goes p.tables e below _ (T1742.setTop (mkF m 96 #[.val (.int p0), .val (.int p1), .val (.int p2), .val (.int p3), .val (.int p4), .val (.int p5), .val (.int (1 : Int32)), .val (.ref b1638), .unset, .unset, .unset, .unset, .unset, .unset, .unset] [(.ref b), (.ref b1707), (.ref b1707)]))
        refine X1745.newStr (cs := [c0]) 1 (w 11 rfl) (w 12 rfl) (fun d q => hw d (hwsV d q)) (w 6 rfl) F1748 F1749 F1750 A9 S0 hz0 rfl rfl (by decide) (by decide) (hpS r0 hp0) (by simp) (by decide) 1 (Nat.le_of_ble_eq_true rfl) (by decide) (by decide) (by decide) (by rw [hml]; rfl) (D at_96) ?_
        intro T1751 h1752 t1753 X1754 K1755 g1756 O1757
        have F1758 := F1747.keep K1755 (ninS (Nat.ne_of_lt lt1715) nin0)
        have F1759 := A9.keep K1755 (ninS (Exa.neArv F1748 A9 (w 6 rfl)).symm nin0)
        have lt1760 : b1638 < t1753 := Nat.lt_of_lt_of_le F1747.lt g1756
        have lt1761 : b1707 < t1753 := Nat.lt_of_lt_of_le F1748.lt g1756
        have lt1762 : b < t1753 := Nat.lt_of_lt_of_le A9.lt g1756
        show Goes p.tables e below _ (T1751.setTop (mkF m 99 #[.val (.int p0), .val (.int p1), .val (.int p2), .val (.int p3), .val (.int p4), .val (.int p5), .val (.int (1 : Int32)), .val (.ref b1638), .unset, .unset, .unset, .unset, .unset, .unset, .unset] [(.ref b1707)]))
        refine X1754.astore #[.val (.int p0), .val (.int p1), .val (.int p2), .val (.int p3), .val (.int p4), .val (.int p5), .val (.int (1 : Int32)), .val (.ref b1638), .val (.ref b1707), .unset, .unset, .unset, .unset, .unset, .unset] (D at_99) rfl rfl ?_
        refine X1754.iload (x := (1 : Int32)) (D at_101) rfl ?_
        refine X1754.istore #[.val (.int p0), .val (.int p1), .val (.int p2), .val (.int p3), .val (.int p4), .val (.int p5), .val (.int (1 : Int32)), .val (.ref b1638), .val (.ref b1707), .val (.int (1 : Int32)), .unset, .unset, .unset, .unset, .unset] (D at_103) rfl ?_
        show Goes p.tables e below _ (T1751.setTop (mkF m 105 #[.val (.int p0), .val (.int p1), .val (.int p2), .val (.int p3), .val (.int p4), .val (.int p5), .val (.int (1 : Int32)), .val (.ref b1638), .val (.ref b1707), .val (.int (1 : Int32)), .unset, .unset, .unset, .unset, .unset] []))
        exact mid _ _ _ _ _ (X1754.mono (by decide) (by decide)) O1757 F1758 (Or.inr (Or.inl ⟨rfl, rfl⟩))
      · rw [hm]
        show Goes p.tables e below _ (T1705.setTop (mkF m 93 #[.val (.int p0), .val (.int p1), .val (.int p2), .val (.int p3), .val (.int p4), .val (.int p5), .val (.int (2 : Int32)), .val (.ref b1638), .unset, .unset, .unset, .unset, .unset, .unset, .unset] [(.ref b1638), (.int (2 : Int32)), (.ref b1707), (.ref b1707)]))
        refine X1709.calls [(.int (2 : Int32)), (.ref b1638)] [(.ref b1707), (.ref b1707)] (ctPk2 l Z a0 hw hEL z0 S0 hz0 b1638 _ c0 c1 c2 c3 c4 _ _ F1714 r0 r1 r2 r3 r4) (w 8 rfl) (w 9 rfl) (w 3 rfl) (w 10 rfl) (by decide) (fun _ q => nomatch q) (by decide) 2 (by decide) (by decide) (by decide) (lenOf pd_22 rfl) rfl (Nat.le_of_ble_eq_true rfl) (by rw [hml]; rfl) (D at_93) ?_
        rintro T1763 h1764 _ X1766 K1767 ⟨b, kb, rfl, A9⟩
        have F1768 := F1714.keep K1767 nin0
        have F1769 := A1711.keep K1767
        have F1770 := F1716.keep K1767 nin0
        have F1771 := F1717.keep K1767 nin0
        show Goes p.tables e below _ (T1763.setTop (mkF m 96 #[.val (.int p0), .val (.int p1), .val (.int p2), .val (.int p3), .val (.int p4), .val (.int p5), .val (.int (2 : Int32)), .val (.ref b1638), .unset, .unset, .unset, .unset, .unset, .unset, .unset] [(.ref b), (.ref b1707), (.ref b1707)]))
        show Goes p.tables e below _ (T1763.setTop (mkF m 96 #[.val (.int p0), .val (.int p1), .val (.int p2), .val (.int p3), .val (.int p4), .val (.int p5), .val (.int (2 : Int32)), .val (.ref b1638), .unset, .unset, .unset, .unset, .unset, .unset, .unset] [(.ref b), (.ref b1707), (.ref b1707)]))
        refine X1766.newStr (cs := [c0, c1]) 2 (w 11 rfl) (w 12 rfl) (fun d q => hw d (hwsV d q)) (w 6 rfl) F1769 F1770 F1771 A9 S0 hz0 rfl rfl (by decide) (by decide) (hpS r0 (hpS r1 hp0)) (by simp) (by decide) 1 (Nat.le_of_ble_eq_true rfl) (by decide) (by decide) (by decide) (by rw [hml]; rfl) (D at_96) ?_
        intro T1772 h1773 t1774 X1775 K1776 g1777 O1778
        have F1779 := F1768.keep K1776 (ninS (Nat.ne_of_lt lt1715) nin0)
        have F1780 := A9.keep K1776 (ninS (Exa.neArv F1769 A9 (w 6 rfl)).symm nin0)
        have lt1781 : b1638 < t1774 := Nat.lt_of_lt_of_le F1768.lt g1777
        have lt1782 : b1707 < t1774 := Nat.lt_of_lt_of_le F1769.lt g1777
        have lt1783 : b < t1774 := Nat.lt_of_lt_of_le A9.lt g1777
        show Goes p.tables e below _ (T1772.setTop (mkF m 99 #[.val (.int p0), .val (.int p1), .val (.int p2), .val (.int p3), .val (.int p4), .val (.int p5), .val (.int (2 : Int32)), .val (.ref b1638), .unset, .unset, .unset, .unset, .unset, .unset, .unset] [(.ref b1707)]))
        refine X1775.astore #[.val (.int p0), .val (.int p1), .val (.int p2), .val (.int p3), .val (.int p4), .val (.int p5), .val (.int (2 : Int32)), .val (.ref b1638), .val (.ref b1707), .unset, .unset, .unset, .unset, .unset, .unset] (D at_99) rfl rfl ?_
        refine X1775.iload (x := (2 : Int32)) (D at_101) rfl ?_
        refine X1775.istore #[.val (.int p0), .val (.int p1), .val (.int p2), .val (.int p3), .val (.int p4), .val (.int p5), .val (.int (2 : Int32)), .val (.ref b1638), .val (.ref b1707), .val (.int (2 : Int32)), .unset, .unset, .unset, .unset, .unset] (D at_103) rfl ?_
        show Goes p.tables e below _ (T1772.setTop (mkF m 105 #[.val (.int p0), .val (.int p1), .val (.int p2), .val (.int p3), .val (.int p4), .val (.int p5), .val (.int (2 : Int32)), .val (.ref b1638), .val (.ref b1707), .val (.int (2 : Int32)), .unset, .unset, .unset, .unset, .unset] []))
        exact mid _ _ _ _ _ (X1775.mono (by decide) (by decide)) O1778 F1779 (Or.inr (Or.inr (Or.inl ⟨rfl, rfl⟩)))
      · rw [hm]
        show Goes p.tables e below _ (T1705.setTop (mkF m 93 #[.val (.int p0), .val (.int p1), .val (.int p2), .val (.int p3), .val (.int p4), .val (.int p5), .val (.int (3 : Int32)), .val (.ref b1638), .unset, .unset, .unset, .unset, .unset, .unset, .unset] [(.ref b1638), (.int (3 : Int32)), (.ref b1707), (.ref b1707)]))
        refine X1709.calls [(.int (3 : Int32)), (.ref b1638)] [(.ref b1707), (.ref b1707)] (ctPk3 l Z a0 hw hEL z0 S0 hz0 b1638 _ c0 c1 c2 c3 c4 _ _ F1714 r0 r1 r2 r3 r4) (w 8 rfl) (w 9 rfl) (w 3 rfl) (w 10 rfl) (by decide) (fun _ q => nomatch q) (by decide) 2 (by decide) (by decide) (by decide) (lenOf pd_22 rfl) rfl (Nat.le_of_ble_eq_true rfl) (by rw [hml]; rfl) (D at_93) ?_
        rintro T1784 h1785 _ X1787 K1788 ⟨b, kb, rfl, A9⟩
        have F1789 := F1714.keep K1788 nin0
        have F1790 := A1711.keep K1788
        have F1791 := F1716.keep K1788 nin0
        have F1792 := F1717.keep K1788 nin0
        show Goes p.tables e below _ (T1784.setTop (mkF m 96 #[.val (.int p0), .val (.int p1), .val (.int p2), .val (.int p3), .val (.int p4), .val (.int p5), .val (.int (3 : Int32)), .val (.ref b1638), .unset, .unset, .unset, .unset, .unset, .unset, .unset] [(.ref b), (.ref b1707), (.ref b1707)]))
        show Goes p.tables e below _ (T1784.setTop (mkF m 96 #[.val (.int p0), .val (.int p1), .val (.int p2), .val (.int p3), .val (.int p4), .val (.int p5), .val (.int (3 : Int32)), .val (.ref b1638), .unset, .unset, .unset, .unset, .unset, .unset, .unset] [(.ref b), (.ref b1707), (.ref b1707)]))
        refine X1787.newStr (cs := [c0, c1, c2]) 3 (w 11 rfl) (w 12 rfl) (fun d q => hw d (hwsV d q)) (w 6 rfl) F1790 F1791 F1792 A9 S0 hz0 rfl rfl (by decide) (by decide) (hpS r0 (hpS r1 (hpS r2 hp0))) (by simp) (by decide) 1 (Nat.le_of_ble_eq_true rfl) (by decide) (by decide) (by decide) (by rw [hml]; rfl) (D at_96) ?_
        intro T1793 h1794 t1795 X1796 K1797 g1798 O1799
        have F1800 := F1789.keep K1797 (ninS (Nat.ne_of_lt lt1715) nin0)
        have F1801 := A9.keep K1797 (ninS (Exa.neArv F1790 A9 (w 6 rfl)).symm nin0)
        have lt1802 : b1638 < t1795 := Nat.lt_of_lt_of_le F1789.lt g1798
        have lt1803 : b1707 < t1795 := Nat.lt_of_lt_of_le F1790.lt g1798
        have lt1804 : b < t1795 := Nat.lt_of_lt_of_le A9.lt g1798
        show Goes p.tables e below _ (T1793.setTop (mkF m 99 #[.val (.int p0), .val (.int p1), .val (.int p2), .val (.int p3), .val (.int p4), .val (.int p5), .val (.int (3 : Int32)), .val (.ref b1638), .unset, .unset, .unset, .unset, .unset, .unset, .unset] [(.ref b1707)]))
        refine X1796.astore #[.val (.int p0), .val (.int p1), .val (.int p2), .val (.int p3), .val (.int p4), .val (.int p5), .val (.int (3 : Int32)), .val (.ref b1638), .val (.ref b1707), .unset, .unset, .unset, .unset, .unset, .unset] (D at_99) rfl rfl ?_
        refine X1796.iload (x := (3 : Int32)) (D at_101) rfl ?_
        refine X1796.istore #[.val (.int p0), .val (.int p1), .val (.int p2), .val (.int p3), .val (.int p4), .val (.int p5), .val (.int (3 : Int32)), .val (.ref b1638), .val (.ref b1707), .val (.int (3 : Int32)), .unset, .unset, .unset, .unset, .unset] (D at_103) rfl ?_
        show Goes p.tables e below _ (T1793.setTop (mkF m 105 #[.val (.int p0), .val (.int p1), .val (.int p2), .val (.int p3), .val (.int p4), .val (.int p5), .val (.int (3 : Int32)), .val (.ref b1638), .val (.ref b1707), .val (.int (3 : Int32)), .unset, .unset, .unset, .unset, .unset] []))
        exact mid _ _ _ _ _ (X1796.mono (by decide) (by decide)) O1799 F1800 (Or.inr (Or.inr (Or.inr (Or.inl ⟨rfl, rfl⟩))))
      · rw [hm]
        show Goes p.tables e below _ (T1705.setTop (mkF m 93 #[.val (.int p0), .val (.int p1), .val (.int p2), .val (.int p3), .val (.int p4), .val (.int p5), .val (.int (4 : Int32)), .val (.ref b1638), .unset, .unset, .unset, .unset, .unset, .unset, .unset] [(.ref b1638), (.int (4 : Int32)), (.ref b1707), (.ref b1707)]))
        refine X1709.calls [(.int (4 : Int32)), (.ref b1638)] [(.ref b1707), (.ref b1707)] (ctPk4 l Z a0 hw hEL z0 S0 hz0 b1638 _ c0 c1 c2 c3 c4 _ _ F1714 r0 r1 r2 r3 r4) (w 8 rfl) (w 9 rfl) (w 3 rfl) (w 10 rfl) (by decide) (fun _ q => nomatch q) (by decide) 2 (by decide) (by decide) (by decide) (lenOf pd_22 rfl) rfl (Nat.le_of_ble_eq_true rfl) (by rw [hml]; rfl) (D at_93) ?_
        rintro T1805 h1806 _ X1808 K1809 ⟨b, kb, rfl, A9⟩
        have F1810 := F1714.keep K1809 nin0
        have F1811 := A1711.keep K1809
        have F1812 := F1716.keep K1809 nin0
        have F1813 := F1717.keep K1809 nin0
        show Goes p.tables e below _ (T1805.setTop (mkF m 96 #[.val (.int p0), .val (.int p1), .val (.int p2), .val (.int p3), .val (.int p4), .val (.int p5), .val (.int (4 : Int32)), .val (.ref b1638), .unset, .unset, .unset, .unset, .unset, .unset, .unset] [(.ref b), (.ref b1707), (.ref b1707)]))
        show Goes p.tables e below _ (T1805.setTop (mkF m 96 #[.val (.int p0), .val (.int p1), .val (.int p2), .val (.int p3), .val (.int p4), .val (.int p5), .val (.int (4 : Int32)), .val (.ref b1638), .unset, .unset, .unset, .unset, .unset, .unset, .unset] [(.ref b), (.ref b1707), (.ref b1707)]))
        refine X1808.newStr (cs := [c0, c1, c2, c3]) 4 (w 11 rfl) (w 12 rfl) (fun d q => hw d (hwsV d q)) (w 6 rfl) F1811 F1812 F1813 A9 S0 hz0 rfl rfl (by decide) (by decide) (hpS r0 (hpS r1 (hpS r2 (hpS r3 hp0)))) (by simp) (by decide) 1 (Nat.le_of_ble_eq_true rfl) (by decide) (by decide) (by decide) (by rw [hml]; rfl) (D at_96) ?_
        intro T1814 h1815 t1816 X1817 K1818 g1819 O1820
        have F1821 := F1810.keep K1818 (ninS (Nat.ne_of_lt lt1715) nin0)
        have F1822 := A9.keep K1818 (ninS (Exa.neArv F1811 A9 (w 6 rfl)).symm nin0)
        have lt1823 : b1638 < t1816 := Nat.lt_of_lt_of_le F1810.lt g1819
        have lt1824 : b1707 < t1816 := Nat.lt_of_lt_of_le F1811.lt g1819
        have lt1825 : b < t1816 := Nat.lt_of_lt_of_le A9.lt g1819
        show Goes p.tables e below _ (T1814.setTop (mkF m 99 #[.val (.int p0), .val (.int p1), .val (.int p2), .val (.int p3), .val (.int p4), .val (.int p5), .val (.int (4 : Int32)), .val (.ref b1638), .unset, .unset, .unset, .unset, .unset, .unset, .unset] [(.ref b1707)]))
        refine X1817.astore #[.val (.int p0), .val (.int p1), .val (.int p2), .val (.int p3), .val (.int p4), .val (.int p5), .val (.int (4 : Int32)), .val (.ref b1638), .val (.ref b1707), .unset, .unset, .unset, .unset, .unset, .unset] (D at_99) rfl rfl ?_
        refine X1817.iload (x := (4 : Int32)) (D at_101) rfl ?_
        refine X1817.istore #[.val (.int p0), .val (.int p1), .val (.int p2), .val (.int p3), .val (.int p4), .val (.int p5), .val (.int (4 : Int32)), .val (.ref b1638), .val (.ref b1707), .val (.int (4 : Int32)), .unset, .unset, .unset, .unset, .unset] (D at_103) rfl ?_
        show Goes p.tables e below _ (T1814.setTop (mkF m 105 #[.val (.int p0), .val (.int p1), .val (.int p2), .val (.int p3), .val (.int p4), .val (.int p5), .val (.int (4 : Int32)), .val (.ref b1638), .val (.ref b1707), .val (.int (4 : Int32)), .unset, .unset, .unset, .unset, .unset] []))
        exact mid _ _ _ _ _ (X1817.mono (by decide) (by decide)) O1820 F1821 (Or.inr (Or.inr (Or.inr (Or.inr (Or.inl ⟨rfl, rfl⟩)))))
      · rw [hm]
        show Goes p.tables e below _ (T1705.setTop (mkF m 93 #[.val (.int p0), .val (.int p1), .val (.int p2), .val (.int p3), .val (.int p4), .val (.int p5), .val (.int (5 : Int32)), .val (.ref b1638), .unset, .unset, .unset, .unset, .unset, .unset, .unset] [(.ref b1638), (.int (5 : Int32)), (.ref b1707), (.ref b1707)]))
        refine X1709.calls [(.int (5 : Int32)), (.ref b1638)] [(.ref b1707), (.ref b1707)] (ctPk5 l Z a0 hw hEL z0 S0 hz0 b1638 _ c0 c1 c2 c3 c4 _ _ F1714 r0 r1 r2 r3 r4) (w 8 rfl) (w 9 rfl) (w 3 rfl) (w 10 rfl) (by decide) (fun _ q => nomatch q) (by decide) 2 (by decide) (by decide) (by decide) (lenOf pd_22 rfl) rfl (Nat.le_of_ble_eq_true rfl) (by rw [hml]; rfl) (D at_93) ?_
        rintro T1826 h1827 _ X1829 K1830 ⟨b, kb, rfl, A9⟩
        have F1831 := F1714.keep K1830 nin0
        have F1832 := A1711.keep K1830
        have F1833 := F1716.keep K1830 nin0
        have F1834 := F1717.keep K1830 nin0
        show Goes p.tables e below _ (T1826.setTop (mkF m 96 #[.val (.int p0), .val (.int p1), .val (.int p2), .val (.int p3), .val (.int p4), .val (.int p5), .val (.int (5 : Int32)), .val (.ref b1638), .unset, .unset, .unset, .unset, .unset, .unset, .unset] [(.ref b), (.ref b1707), (.ref b1707)]))
        show Goes p.tables e below _ (T1826.setTop (mkF m 96 #[.val (.int p0), .val (.int p1), .val (.int p2), .val (.int p3), .val (.int p4), .val (.int p5), .val (.int (5 : Int32)), .val (.ref b1638), .unset, .unset, .unset, .unset, .unset, .unset, .unset] [(.ref b), (.ref b1707), (.ref b1707)]))
        refine X1829.newStr (cs := [c0, c1, c2, c3, c4]) 5 (w 11 rfl) (w 12 rfl) (fun d q => hw d (hwsV d q)) (w 6 rfl) F1832 F1833 F1834 A9 S0 hz0 rfl rfl (by decide) (by decide) (hpS r0 (hpS r1 (hpS r2 (hpS r3 (hpS r4 hp0))))) (by simp) (by decide) 1 (Nat.le_of_ble_eq_true rfl) (by decide) (by decide) (by decide) (by rw [hml]; rfl) (D at_96) ?_
        intro T1835 h1836 t1837 X1838 K1839 g1840 O1841
        have F1842 := F1831.keep K1839 (ninS (Nat.ne_of_lt lt1715) nin0)
        have F1843 := A9.keep K1839 (ninS (Exa.neArv F1832 A9 (w 6 rfl)).symm nin0)
        have lt1844 : b1638 < t1837 := Nat.lt_of_lt_of_le F1831.lt g1840
        have lt1845 : b1707 < t1837 := Nat.lt_of_lt_of_le F1832.lt g1840
        have lt1846 : b < t1837 := Nat.lt_of_lt_of_le A9.lt g1840
        show Goes p.tables e below _ (T1835.setTop (mkF m 99 #[.val (.int p0), .val (.int p1), .val (.int p2), .val (.int p3), .val (.int p4), .val (.int p5), .val (.int (5 : Int32)), .val (.ref b1638), .unset, .unset, .unset, .unset, .unset, .unset, .unset] [(.ref b1707)]))
        refine X1838.astore #[.val (.int p0), .val (.int p1), .val (.int p2), .val (.int p3), .val (.int p4), .val (.int p5), .val (.int (5 : Int32)), .val (.ref b1638), .val (.ref b1707), .unset, .unset, .unset, .unset, .unset, .unset] (D at_99) rfl rfl ?_
        refine X1838.iload (x := (5 : Int32)) (D at_101) rfl ?_
        refine X1838.istore #[.val (.int p0), .val (.int p1), .val (.int p2), .val (.int p3), .val (.int p4), .val (.int p5), .val (.int (5 : Int32)), .val (.ref b1638), .val (.ref b1707), .val (.int (5 : Int32)), .unset, .unset, .unset, .unset, .unset] (D at_103) rfl ?_
        show Goes p.tables e below _ (T1835.setTop (mkF m 105 #[.val (.int p0), .val (.int p1), .val (.int p2), .val (.int p3), .val (.int p4), .val (.int p5), .val (.int (5 : Int32)), .val (.ref b1638), .val (.ref b1707), .val (.int (5 : Int32)), .unset, .unset, .unset, .unset, .unset] []))
        exact mid _ _ _ _ _ (X1838.mono (by decide) (by decide)) O1841 F1842 (Or.inr (Or.inr (Or.inr (Or.inr (Or.inr (⟨rfl, rfl⟩))))))
    intro T1718 h1719 n cs ts X1720 F1721 F1722 hn
    show Goes p.tables e below _ (T1718.setTop (mkF m 105 #[.val (.int p0), .val (.int p1), .val (.int p2), .val (.int p3), .val (.int p4), .val (.int p5), .val (.int n), .val (.ref b1638), .val (.ref b1707), .val (.int n), .unset, .unset, .unset, .unset, .unset] []))
    suffices end4 : ∀ e4 : Int32, (e4 = st1 n 4 c4 n) → Goes p.tables e below (Endq Z consts_1 sS n0 [] room_1 (fun v _ => v = some (.int 1))) (T1718.setTop (mkF m 123 #[.val (.int p0), .val (.int p1), .val (.int p2), .val (.int p3), .val (.int p4), .val (.int p5), .val (.int n), .val (.ref b1638), .val (.ref b1707), .val (.int e4), .unset, .unset, .unset, .unset, .unset] [])) by
      refine X1720.iload (x := n) (D at_105) rfl ?_
      refine X1720.iconst (x := (4 : Int32)) (D at_107) rfl ?_
      refine X1720.icmp_le 123 (D at_108) ⟨by decide, by decide⟩ (fun hc1847 => ?_) (fun hc1847 => ?_)
      · show Goes p.tables e below _ (T1718.setTop (mkF m 123 #[.val (.int p0), .val (.int p1), .val (.int p2), .val (.int p3), .val (.int p4), .val (.int p5), .val (.int n), .val (.ref b1638), .val (.ref b1707), .val (.int n), .unset, .unset, .unset, .unset, .unset] []))
        show Goes p.tables e below _ (T1718.setTop (mkF m 123 #[.val (.int p0), .val (.int p1), .val (.int p2), .val (.int p3), .val (.int p4), .val (.int p5), .val (.int n), .val (.ref b1638), .val (.ref b1707), .val (.int n), .unset, .unset, .unset, .unset, .unset] []))
        exact end4 _ (by rw [st1, if_neg (fun q => hc1847 q.1)])
      · show Goes p.tables e below _ (T1718.setTop (mkF m 111 #[.val (.int p0), .val (.int p1), .val (.int p2), .val (.int p3), .val (.int p4), .val (.int p5), .val (.int n), .val (.ref b1638), .val (.ref b1707), .val (.int n), .unset, .unset, .unset, .unset, .unset] []))
        refine X1720.aload (x := (.ref b1638)) (D at_111) rfl rfl ?_
        refine X1720.iconst (x := (4 : Int32)) (D at_113) rfl ?_
        show Goes p.tables e below _ (T1718.setTop (mkF m 114 #[.val (.int p0), .val (.int p1), .val (.int p2), .val (.int p3), .val (.int p4), .val (.int p5), .val (.int n), .val (.ref b1638), .val (.ref b1707), .val (.int n), .unset, .unset, .unset, .unset, .unset] [(.int (4 : Int32)), (.ref b1638)]))
        refine X1720.caload (v := (.int c4)) F1722 ⟨by decide, by decide⟩ rfl (D at_114) ?_
        show Goes p.tables e below _ (T1718.setTop (mkF m 115 #[.val (.int p0), .val (.int p1), .val (.int p2), .val (.int p3), .val (.int p4), .val (.int p5), .val (.int n), .val (.ref b1638), .val (.ref b1707), .val (.int n), .unset, .unset, .unset, .unset, .unset] [(.int c4)]))
        refine X1720.bipush (x := (10 : Int32)) (D at_115) rfl ?_
        refine X1720.icmp_ne 123 (D at_117) ⟨by decide, by decide⟩ (fun hc1848 => ?_) (fun hc1848 => ?_)
        · show Goes p.tables e below _ (T1718.setTop (mkF m 123 #[.val (.int p0), .val (.int p1), .val (.int p2), .val (.int p3), .val (.int p4), .val (.int p5), .val (.int n), .val (.ref b1638), .val (.ref b1707), .val (.int n), .unset, .unset, .unset, .unset, .unset] []))
          show Goes p.tables e below _ (T1718.setTop (mkF m 123 #[.val (.int p0), .val (.int p1), .val (.int p2), .val (.int p3), .val (.int p4), .val (.int p5), .val (.int n), .val (.ref b1638), .val (.ref b1707), .val (.int n), .unset, .unset, .unset, .unset, .unset] []))
          exact end4 _ (by rw [st1, if_neg (fun q => hc1848 q.2)])
        · show Goes p.tables e below _ (T1718.setTop (mkF m 120 #[.val (.int p0), .val (.int p1), .val (.int p2), .val (.int p3), .val (.int p4), .val (.int p5), .val (.int n), .val (.ref b1638), .val (.ref b1707), .val (.int n), .unset, .unset, .unset, .unset, .unset] []))
          refine X1720.iconst (x := (4 : Int32)) (D at_120) rfl ?_
          refine X1720.istore #[.val (.int p0), .val (.int p1), .val (.int p2), .val (.int p3), .val (.int p4), .val (.int p5), .val (.int n), .val (.ref b1638), .val (.ref b1707), .val (.int (4 : Int32)), .unset, .unset, .unset, .unset, .unset] (D at_121) rfl ?_
          show Goes p.tables e below _ (T1718.setTop (mkF m 123 #[.val (.int p0), .val (.int p1), .val (.int p2), .val (.int p3), .val (.int p4), .val (.int p5), .val (.int n), .val (.ref b1638), .val (.ref b1707), .val (.int (4 : Int32)), .unset, .unset, .unset, .unset, .unset] []))
          exact end4 _ (by rw [st1, if_pos ⟨hc1847, hc1848⟩])
    intro e4 h_e4
    show Goes p.tables e below _ (T1718.setTop (mkF m 123 #[.val (.int p0), .val (.int p1), .val (.int p2), .val (.int p3), .val (.int p4), .val (.int p5), .val (.int n), .val (.ref b1638), .val (.ref b1707), .val (.int e4), .unset, .unset, .unset, .unset, .unset] []))
    suffices end3 : ∀ e3 : Int32, (e3 = st1 n 3 c3 e4) → Goes p.tables e below (Endq Z consts_1 sS n0 [] room_1 (fun v _ => v = some (.int 1))) (T1718.setTop (mkF m 141 #[.val (.int p0), .val (.int p1), .val (.int p2), .val (.int p3), .val (.int p4), .val (.int p5), .val (.int n), .val (.ref b1638), .val (.ref b1707), .val (.int e3), .unset, .unset, .unset, .unset, .unset] [])) by
      refine X1720.iload (x := n) (D at_123) rfl ?_
      refine X1720.iconst (x := (3 : Int32)) (D at_125) rfl ?_
      refine X1720.icmp_le 141 (D at_126) ⟨by decide, by decide⟩ (fun hc1849 => ?_) (fun hc1849 => ?_)
      · show Goes p.tables e below _ (T1718.setTop (mkF m 141 #[.val (.int p0), .val (.int p1), .val (.int p2), .val (.int p3), .val (.int p4), .val (.int p5), .val (.int n), .val (.ref b1638), .val (.ref b1707), .val (.int e4), .unset, .unset, .unset, .unset, .unset] []))
        show Goes p.tables e below _ (T1718.setTop (mkF m 141 #[.val (.int p0), .val (.int p1), .val (.int p2), .val (.int p3), .val (.int p4), .val (.int p5), .val (.int n), .val (.ref b1638), .val (.ref b1707), .val (.int e4), .unset, .unset, .unset, .unset, .unset] []))
        exact end3 _ (by rw [st1, if_neg (fun q => hc1849 q.1)])
      · show Goes p.tables e below _ (T1718.setTop (mkF m 129 #[.val (.int p0), .val (.int p1), .val (.int p2), .val (.int p3), .val (.int p4), .val (.int p5), .val (.int n), .val (.ref b1638), .val (.ref b1707), .val (.int e4), .unset, .unset, .unset, .unset, .unset] []))
        refine X1720.aload (x := (.ref b1638)) (D at_129) rfl rfl ?_
        refine X1720.iconst (x := (3 : Int32)) (D at_131) rfl ?_
        show Goes p.tables e below _ (T1718.setTop (mkF m 132 #[.val (.int p0), .val (.int p1), .val (.int p2), .val (.int p3), .val (.int p4), .val (.int p5), .val (.int n), .val (.ref b1638), .val (.ref b1707), .val (.int e4), .unset, .unset, .unset, .unset, .unset] [(.int (3 : Int32)), (.ref b1638)]))
        refine X1720.caload (v := (.int c3)) F1722 ⟨by decide, by decide⟩ rfl (D at_132) ?_
        show Goes p.tables e below _ (T1718.setTop (mkF m 133 #[.val (.int p0), .val (.int p1), .val (.int p2), .val (.int p3), .val (.int p4), .val (.int p5), .val (.int n), .val (.ref b1638), .val (.ref b1707), .val (.int e4), .unset, .unset, .unset, .unset, .unset] [(.int c3)]))
        refine X1720.bipush (x := (10 : Int32)) (D at_133) rfl ?_
        refine X1720.icmp_ne 141 (D at_135) ⟨by decide, by decide⟩ (fun hc1850 => ?_) (fun hc1850 => ?_)
        · show Goes p.tables e below _ (T1718.setTop (mkF m 141 #[.val (.int p0), .val (.int p1), .val (.int p2), .val (.int p3), .val (.int p4), .val (.int p5), .val (.int n), .val (.ref b1638), .val (.ref b1707), .val (.int e4), .unset, .unset, .unset, .unset, .unset] []))
          show Goes p.tables e below _ (T1718.setTop (mkF m 141 #[.val (.int p0), .val (.int p1), .val (.int p2), .val (.int p3), .val (.int p4), .val (.int p5), .val (.int n), .val (.ref b1638), .val (.ref b1707), .val (.int e4), .unset, .unset, .unset, .unset, .unset] []))
          exact end3 _ (by rw [st1, if_neg (fun q => hc1850 q.2)])
        · show Goes p.tables e below _ (T1718.setTop (mkF m 138 #[.val (.int p0), .val (.int p1), .val (.int p2), .val (.int p3), .val (.int p4), .val (.int p5), .val (.int n), .val (.ref b1638), .val (.ref b1707), .val (.int e4), .unset, .unset, .unset, .unset, .unset] []))
          refine X1720.iconst (x := (3 : Int32)) (D at_138) rfl ?_
          refine X1720.istore #[.val (.int p0), .val (.int p1), .val (.int p2), .val (.int p3), .val (.int p4), .val (.int p5), .val (.int n), .val (.ref b1638), .val (.ref b1707), .val (.int (3 : Int32)), .unset, .unset, .unset, .unset, .unset] (D at_139) rfl ?_
          show Goes p.tables e below _ (T1718.setTop (mkF m 141 #[.val (.int p0), .val (.int p1), .val (.int p2), .val (.int p3), .val (.int p4), .val (.int p5), .val (.int n), .val (.ref b1638), .val (.ref b1707), .val (.int (3 : Int32)), .unset, .unset, .unset, .unset, .unset] []))
          exact end3 _ (by rw [st1, if_pos ⟨hc1849, hc1850⟩])
    intro e3 h_e3
    show Goes p.tables e below _ (T1718.setTop (mkF m 141 #[.val (.int p0), .val (.int p1), .val (.int p2), .val (.int p3), .val (.int p4), .val (.int p5), .val (.int n), .val (.ref b1638), .val (.ref b1707), .val (.int e3), .unset, .unset, .unset, .unset, .unset] []))
    suffices end2 : ∀ e2 : Int32, (e2 = st1 n 2 c2 e3) → Goes p.tables e below (Endq Z consts_1 sS n0 [] room_1 (fun v _ => v = some (.int 1))) (T1718.setTop (mkF m 159 #[.val (.int p0), .val (.int p1), .val (.int p2), .val (.int p3), .val (.int p4), .val (.int p5), .val (.int n), .val (.ref b1638), .val (.ref b1707), .val (.int e2), .unset, .unset, .unset, .unset, .unset] [])) by
      refine X1720.iload (x := n) (D at_141) rfl ?_
      refine X1720.iconst (x := (2 : Int32)) (D at_143) rfl ?_
      refine X1720.icmp_le 159 (D at_144) ⟨by decide, by decide⟩ (fun hc1851 => ?_) (fun hc1851 => ?_)
      · show Goes p.tables e below _ (T1718.setTop (mkF m 159 #[.val (.int p0), .val (.int p1), .val (.int p2), .val (.int p3), .val (.int p4), .val (.int p5), .val (.int n), .val (.ref b1638), .val (.ref b1707), .val (.int e3), .unset, .unset, .unset, .unset, .unset] []))
        show Goes p.tables e below _ (T1718.setTop (mkF m 159 #[.val (.int p0), .val (.int p1), .val (.int p2), .val (.int p3), .val (.int p4), .val (.int p5), .val (.int n), .val (.ref b1638), .val (.ref b1707), .val (.int e3), .unset, .unset, .unset, .unset, .unset] []))
        exact end2 _ (by rw [st1, if_neg (fun q => hc1851 q.1)])
      · show Goes p.tables e below _ (T1718.setTop (mkF m 147 #[.val (.int p0), .val (.int p1), .val (.int p2), .val (.int p3), .val (.int p4), .val (.int p5), .val (.int n), .val (.ref b1638), .val (.ref b1707), .val (.int e3), .unset, .unset, .unset, .unset, .unset] []))
        refine X1720.aload (x := (.ref b1638)) (D at_147) rfl rfl ?_
        refine X1720.iconst (x := (2 : Int32)) (D at_149) rfl ?_
        show Goes p.tables e below _ (T1718.setTop (mkF m 150 #[.val (.int p0), .val (.int p1), .val (.int p2), .val (.int p3), .val (.int p4), .val (.int p5), .val (.int n), .val (.ref b1638), .val (.ref b1707), .val (.int e3), .unset, .unset, .unset, .unset, .unset] [(.int (2 : Int32)), (.ref b1638)]))
        refine X1720.caload (v := (.int c2)) F1722 ⟨by decide, by decide⟩ rfl (D at_150) ?_
        show Goes p.tables e below _ (T1718.setTop (mkF m 151 #[.val (.int p0), .val (.int p1), .val (.int p2), .val (.int p3), .val (.int p4), .val (.int p5), .val (.int n), .val (.ref b1638), .val (.ref b1707), .val (.int e3), .unset, .unset, .unset, .unset, .unset] [(.int c2)]))
        refine X1720.bipush (x := (10 : Int32)) (D at_151) rfl ?_
        refine X1720.icmp_ne 159 (D at_153) ⟨by decide, by decide⟩ (fun hc1852 => ?_) (fun hc1852 => ?_)
        · show Goes p.tables e below _ (T1718.setTop (mkF m 159 #[.val (.int p0), .val (.int p1), .val (.int p2), .val (.int p3), .val (.int p4), .val (.int p5), .val (.int n), .val (.ref b1638), .val (.ref b1707), .val (.int e3), .unset, .unset, .unset, .unset, .unset] []))
          show Goes p.tables e below _ (T1718.setTop (mkF m 159 #[.val (.int p0), .val (.int p1), .val (.int p2), .val (.int p3), .val (.int p4), .val (.int p5), .val (.int n), .val (.ref b1638), .val (.ref b1707), .val (.int e3), .unset, .unset, .unset, .unset, .unset] []))
          exact end2 _ (by rw [st1, if_neg (fun q => hc1852 q.2)])
        · show Goes p.tables e below _ (T1718.setTop (mkF m 156 #[.val (.int p0), .val (.int p1), .val (.int p2), .val (.int p3), .val (.int p4), .val (.int p5), .val (.int n), .val (.ref b1638), .val (.ref b1707), .val (.int e3), .unset, .unset, .unset, .unset, .unset] []))
          refine X1720.iconst (x := (2 : Int32)) (D at_156) rfl ?_
          refine X1720.istore #[.val (.int p0), .val (.int p1), .val (.int p2), .val (.int p3), .val (.int p4), .val (.int p5), .val (.int n), .val (.ref b1638), .val (.ref b1707), .val (.int (2 : Int32)), .unset, .unset, .unset, .unset, .unset] (D at_157) rfl ?_
          show Goes p.tables e below _ (T1718.setTop (mkF m 159 #[.val (.int p0), .val (.int p1), .val (.int p2), .val (.int p3), .val (.int p4), .val (.int p5), .val (.int n), .val (.ref b1638), .val (.ref b1707), .val (.int (2 : Int32)), .unset, .unset, .unset, .unset, .unset] []))
          exact end2 _ (by rw [st1, if_pos ⟨hc1851, hc1852⟩])
    intro e2 h_e2
    show Goes p.tables e below _ (T1718.setTop (mkF m 159 #[.val (.int p0), .val (.int p1), .val (.int p2), .val (.int p3), .val (.int p4), .val (.int p5), .val (.int n), .val (.ref b1638), .val (.ref b1707), .val (.int e2), .unset, .unset, .unset, .unset, .unset] []))
    suffices end1 : ∀ e1 : Int32, (e1 = st1 n 1 c1 e2) → Goes p.tables e below (Endq Z consts_1 sS n0 [] room_1 (fun v _ => v = some (.int 1))) (T1718.setTop (mkF m 177 #[.val (.int p0), .val (.int p1), .val (.int p2), .val (.int p3), .val (.int p4), .val (.int p5), .val (.int n), .val (.ref b1638), .val (.ref b1707), .val (.int e1), .unset, .unset, .unset, .unset, .unset] [])) by
      refine X1720.iload (x := n) (D at_159) rfl ?_
      refine X1720.iconst (x := (1 : Int32)) (D at_161) rfl ?_
      refine X1720.icmp_le 177 (D at_162) ⟨by decide, by decide⟩ (fun hc1853 => ?_) (fun hc1853 => ?_)
      · show Goes p.tables e below _ (T1718.setTop (mkF m 177 #[.val (.int p0), .val (.int p1), .val (.int p2), .val (.int p3), .val (.int p4), .val (.int p5), .val (.int n), .val (.ref b1638), .val (.ref b1707), .val (.int e2), .unset, .unset, .unset, .unset, .unset] []))
        show Goes p.tables e below _ (T1718.setTop (mkF m 177 #[.val (.int p0), .val (.int p1), .val (.int p2), .val (.int p3), .val (.int p4), .val (.int p5), .val (.int n), .val (.ref b1638), .val (.ref b1707), .val (.int e2), .unset, .unset, .unset, .unset, .unset] []))
        exact end1 _ (by rw [st1, if_neg (fun q => hc1853 q.1)])
      · show Goes p.tables e below _ (T1718.setTop (mkF m 165 #[.val (.int p0), .val (.int p1), .val (.int p2), .val (.int p3), .val (.int p4), .val (.int p5), .val (.int n), .val (.ref b1638), .val (.ref b1707), .val (.int e2), .unset, .unset, .unset, .unset, .unset] []))
        refine X1720.aload (x := (.ref b1638)) (D at_165) rfl rfl ?_
        refine X1720.iconst (x := (1 : Int32)) (D at_167) rfl ?_
        show Goes p.tables e below _ (T1718.setTop (mkF m 168 #[.val (.int p0), .val (.int p1), .val (.int p2), .val (.int p3), .val (.int p4), .val (.int p5), .val (.int n), .val (.ref b1638), .val (.ref b1707), .val (.int e2), .unset, .unset, .unset, .unset, .unset] [(.int (1 : Int32)), (.ref b1638)]))
        refine X1720.caload (v := (.int c1)) F1722 ⟨by decide, by decide⟩ rfl (D at_168) ?_
        show Goes p.tables e below _ (T1718.setTop (mkF m 169 #[.val (.int p0), .val (.int p1), .val (.int p2), .val (.int p3), .val (.int p4), .val (.int p5), .val (.int n), .val (.ref b1638), .val (.ref b1707), .val (.int e2), .unset, .unset, .unset, .unset, .unset] [(.int c1)]))
        refine X1720.bipush (x := (10 : Int32)) (D at_169) rfl ?_
        refine X1720.icmp_ne 177 (D at_171) ⟨by decide, by decide⟩ (fun hc1854 => ?_) (fun hc1854 => ?_)
        · show Goes p.tables e below _ (T1718.setTop (mkF m 177 #[.val (.int p0), .val (.int p1), .val (.int p2), .val (.int p3), .val (.int p4), .val (.int p5), .val (.int n), .val (.ref b1638), .val (.ref b1707), .val (.int e2), .unset, .unset, .unset, .unset, .unset] []))
          show Goes p.tables e below _ (T1718.setTop (mkF m 177 #[.val (.int p0), .val (.int p1), .val (.int p2), .val (.int p3), .val (.int p4), .val (.int p5), .val (.int n), .val (.ref b1638), .val (.ref b1707), .val (.int e2), .unset, .unset, .unset, .unset, .unset] []))
          exact end1 _ (by rw [st1, if_neg (fun q => hc1854 q.2)])
        · show Goes p.tables e below _ (T1718.setTop (mkF m 174 #[.val (.int p0), .val (.int p1), .val (.int p2), .val (.int p3), .val (.int p4), .val (.int p5), .val (.int n), .val (.ref b1638), .val (.ref b1707), .val (.int e2), .unset, .unset, .unset, .unset, .unset] []))
          refine X1720.iconst (x := (1 : Int32)) (D at_174) rfl ?_
          refine X1720.istore #[.val (.int p0), .val (.int p1), .val (.int p2), .val (.int p3), .val (.int p4), .val (.int p5), .val (.int n), .val (.ref b1638), .val (.ref b1707), .val (.int (1 : Int32)), .unset, .unset, .unset, .unset, .unset] (D at_175) rfl ?_
          show Goes p.tables e below _ (T1718.setTop (mkF m 177 #[.val (.int p0), .val (.int p1), .val (.int p2), .val (.int p3), .val (.int p4), .val (.int p5), .val (.int n), .val (.ref b1638), .val (.ref b1707), .val (.int (1 : Int32)), .unset, .unset, .unset, .unset, .unset] []))
          exact end1 _ (by rw [st1, if_pos ⟨hc1853, hc1854⟩])
    intro e1 h_e1
    show Goes p.tables e below _ (T1718.setTop (mkF m 177 #[.val (.int p0), .val (.int p1), .val (.int p2), .val (.int p3), .val (.int p4), .val (.int p5), .val (.int n), .val (.ref b1638), .val (.ref b1707), .val (.int e1), .unset, .unset, .unset, .unset, .unset] []))
    suffices end0 : ∀ e0 : Int32, (e0 = st1 n 0 c0 e1) → Goes p.tables e below (Endq Z consts_1 sS n0 [] room_1 (fun v _ => v = some (.int 1))) (T1718.setTop (mkF m 194 #[.val (.int p0), .val (.int p1), .val (.int p2), .val (.int p3), .val (.int p4), .val (.int p5), .val (.int n), .val (.ref b1638), .val (.ref b1707), .val (.int e0), .unset, .unset, .unset, .unset, .unset] [])) by
      refine X1720.iload (x := n) (D at_177) rfl ?_
      refine X1720.if_le 194 (D at_179) ⟨by decide, by decide⟩ (fun hc1855 => ?_) (fun hc1855 => ?_)
      · show Goes p.tables e below _ (T1718.setTop (mkF m 194 #[.val (.int p0), .val (.int p1), .val (.int p2), .val (.int p3), .val (.int p4), .val (.int p5), .val (.int n), .val (.ref b1638), .val (.ref b1707), .val (.int e1), .unset, .unset, .unset, .unset, .unset] []))
        show Goes p.tables e below _ (T1718.setTop (mkF m 194 #[.val (.int p0), .val (.int p1), .val (.int p2), .val (.int p3), .val (.int p4), .val (.int p5), .val (.int n), .val (.ref b1638), .val (.ref b1707), .val (.int e1), .unset, .unset, .unset, .unset, .unset] []))
        exact end0 _ (by rw [st1, if_neg (fun q => hc1855 q.1)])
      · show Goes p.tables e below _ (T1718.setTop (mkF m 182 #[.val (.int p0), .val (.int p1), .val (.int p2), .val (.int p3), .val (.int p4), .val (.int p5), .val (.int n), .val (.ref b1638), .val (.ref b1707), .val (.int e1), .unset, .unset, .unset, .unset, .unset] []))
        refine X1720.aload (x := (.ref b1638)) (D at_182) rfl rfl ?_
        refine X1720.iconst (x := (0 : Int32)) (D at_184) rfl ?_
        show Goes p.tables e below _ (T1718.setTop (mkF m 185 #[.val (.int p0), .val (.int p1), .val (.int p2), .val (.int p3), .val (.int p4), .val (.int p5), .val (.int n), .val (.ref b1638), .val (.ref b1707), .val (.int e1), .unset, .unset, .unset, .unset, .unset] [(.int (0 : Int32)), (.ref b1638)]))
        refine X1720.caload (v := (.int c0)) F1722 ⟨by decide, by decide⟩ rfl (D at_185) ?_
        show Goes p.tables e below _ (T1718.setTop (mkF m 186 #[.val (.int p0), .val (.int p1), .val (.int p2), .val (.int p3), .val (.int p4), .val (.int p5), .val (.int n), .val (.ref b1638), .val (.ref b1707), .val (.int e1), .unset, .unset, .unset, .unset, .unset] [(.int c0)]))
        refine X1720.bipush (x := (10 : Int32)) (D at_186) rfl ?_
        refine X1720.icmp_ne 194 (D at_188) ⟨by decide, by decide⟩ (fun hc1856 => ?_) (fun hc1856 => ?_)
        · show Goes p.tables e below _ (T1718.setTop (mkF m 194 #[.val (.int p0), .val (.int p1), .val (.int p2), .val (.int p3), .val (.int p4), .val (.int p5), .val (.int n), .val (.ref b1638), .val (.ref b1707), .val (.int e1), .unset, .unset, .unset, .unset, .unset] []))
          show Goes p.tables e below _ (T1718.setTop (mkF m 194 #[.val (.int p0), .val (.int p1), .val (.int p2), .val (.int p3), .val (.int p4), .val (.int p5), .val (.int n), .val (.ref b1638), .val (.ref b1707), .val (.int e1), .unset, .unset, .unset, .unset, .unset] []))
          exact end0 _ (by rw [st1, if_neg (fun q => hc1856 q.2)])
        · show Goes p.tables e below _ (T1718.setTop (mkF m 191 #[.val (.int p0), .val (.int p1), .val (.int p2), .val (.int p3), .val (.int p4), .val (.int p5), .val (.int n), .val (.ref b1638), .val (.ref b1707), .val (.int e1), .unset, .unset, .unset, .unset, .unset] []))
          refine X1720.iconst (x := (0 : Int32)) (D at_191) rfl ?_
          refine X1720.istore #[.val (.int p0), .val (.int p1), .val (.int p2), .val (.int p3), .val (.int p4), .val (.int p5), .val (.int n), .val (.ref b1638), .val (.ref b1707), .val (.int (0 : Int32)), .unset, .unset, .unset, .unset, .unset] (D at_192) rfl ?_
          show Goes p.tables e below _ (T1718.setTop (mkF m 194 #[.val (.int p0), .val (.int p1), .val (.int p2), .val (.int p3), .val (.int p4), .val (.int p5), .val (.int n), .val (.ref b1638), .val (.ref b1707), .val (.int (0 : Int32)), .unset, .unset, .unset, .unset, .unset] []))
          exact end0 _ (by rw [st1, if_pos ⟨hc1855, hc1856⟩])
    intro e0 h_e0
    refine X1720.iload (x := e0) (D at_194) rfl ?_
    refine X1720.istore #[.val (.int p0), .val (.int p1), .val (.int p2), .val (.int p3), .val (.int p4), .val (.int p5), .val (.int n), .val (.ref b1638), .val (.ref b1707), .val (.int e0), .val (.int e0), .unset, .unset, .unset, .unset] (D at_196) rfl ?_
    show Goes p.tables e below _ (T1718.setTop (mkF m 198 #[.val (.int p0), .val (.int p1), .val (.int p2), .val (.int p3), .val (.int p4), .val (.int p5), .val (.int n), .val (.ref b1638), .val (.ref b1707), .val (.int e0), .val (.int e0), .unset, .unset, .unset, .unset] []))
    suffices lp4 : ∀ (T1857 : State) (h1858 : Heap) (l4 : Int32), Wd p l e room_1 sS m #[(.int p0), (.int p1), (.int p2), (.int p3), (.int p4), (.int p5)] below meth c Z a0 consts_1 (x).cls n0 [] [b1707, b1638] T1857 h1858 10 57 → OStr Z h1858 b1707 ts cs → Arv Z h1858 b1638 kb1639 .char (5 : Int32) [(.int c0), (.int c1), (.int c2), (.int c3), (.int c4)] (.int (0 : Int32)) → (l4 = st2 e0 4 c4 e0) → Goes p.tables e below (Endq Z consts_1 sS n0 [] room_1 (fun v _ => v = some (.int 1))) (T1857.setTop (mkF m 217 #[.val (.int p0), .val (.int p1), .val (.int p2), .val (.int p3), .val (.int p4), .val (.int p5), .val (.int n), .val (.ref b1638), .val (.ref b1707), .val (.int e0), .val (.int l4), .unset, .unset, .unset, .unset] [])) by
      refine X1720.iconst (x := (4 : Int32)) (D at_198) rfl ?_
      refine X1720.iload (x := e0) (D at_199) rfl ?_
      refine X1720.icmp_ge 217 (D at_201) ⟨by decide, by decide⟩ (fun hc1862 => ?_) (fun hc1862 => ?_)
      · show Goes p.tables e below _ (T1718.setTop (mkF m 217 #[.val (.int p0), .val (.int p1), .val (.int p2), .val (.int p3), .val (.int p4), .val (.int p5), .val (.int n), .val (.ref b1638), .val (.ref b1707), .val (.int e0), .val (.int e0), .unset, .unset, .unset, .unset] []))
        show Goes p.tables e below _ (T1718.setTop (mkF m 217 #[.val (.int p0), .val (.int p1), .val (.int p2), .val (.int p3), .val (.int p4), .val (.int p5), .val (.int n), .val (.ref b1638), .val (.ref b1707), .val (.int e0), .val (.int e0), .unset, .unset, .unset, .unset] []))
        exact lp4 _ _ _ X1720 F1721 F1722 (by rw [st2, if_neg (fun q => hc1862 q.1)])
      · show Goes p.tables e below _ (T1718.setTop (mkF m 204 #[.val (.int p0), .val (.int p1), .val (.int p2), .val (.int p3), .val (.int p4), .val (.int p5), .val (.int n), .val (.ref b1638), .val (.ref b1707), .val (.int e0), .val (.int e0), .unset, .unset, .unset, .unset] []))
        refine X1720.aload (x := (.ref b1638)) (D at_204) rfl rfl ?_
        refine X1720.iconst (x := (4 : Int32)) (D at_206) rfl ?_
        show Goes p.tables e below _ (T1718.setTop (mkF m 207 #[.val (.int p0), .val (.int p1), .val (.int p2), .val (.int p3), .val (.int p4), .val (.int p5), .val (.int n), .val (.ref b1638), .val (.ref b1707), .val (.int e0), .val (.int e0), .unset, .unset, .unset, .unset] [(.int (4 : Int32)), (.ref b1638)]))
        refine X1720.caload (v := (.int c4)) F1722 ⟨by decide, by decide⟩ rfl (D at_207) ?_
        show Goes p.tables e below _ (T1718.setTop (mkF m 208 #[.val (.int p0), .val (.int p1), .val (.int p2), .val (.int p3), .val (.int p4), .val (.int p5), .val (.int n), .val (.ref b1638), .val (.ref b1707), .val (.int e0), .val (.int e0), .unset, .unset, .unset, .unset] [(.int c4)]))
        refine X1720.calls [(.int c4)] [] (ctWs l Z a0 hw hEL z0 S0 hz0 c4 _ _) (w 115 rfl) (w 116 rfl) (w 3 rfl) (w 117 rfl) (by decide) (fun _ q => nomatch q) (by decide) 0 (by decide) (by decide) (by decide) (lenOf pd_24 rfl) rfl (Nat.le_of_ble_eq_true rfl) (by rw [hml]; rfl) (D at_208) ?_
        rintro T1864 h1865 _ X1867 K1868 (⟨rfl, hc1863⟩ | ⟨rfl, hc1863⟩)
        · have F1869 := F1721.keep K1868 nin0 nin0
          have F1870 := F1722.keep K1868 nin0
          show Goes p.tables e below _ (T1864.setTop (mkF m 211 #[.val (.int p0), .val (.int p1), .val (.int p2), .val (.int p3), .val (.int p4), .val (.int p5), .val (.int n), .val (.ref b1638), .val (.ref b1707), .val (.int e0), .val (.int e0), .unset, .unset, .unset, .unset] [(.int (1 : Int32))]))
          refine X1867.if_ne 217 (D at_211) ⟨by decide, by decide⟩ (fun hc1871 => ?_) (fun hc1871 => absurd hc1871 (by decide))
          show Goes p.tables e below _ (T1864.setTop (mkF m 217 #[.val (.int p0), .val (.int p1), .val (.int p2), .val (.int p3), .val (.int p4), .val (.int p5), .val (.int n), .val (.ref b1638), .val (.ref b1707), .val (.int e0), .val (.int e0), .unset, .unset, .unset, .unset] []))
          exact lp4 _ _ _ X1867 F1869 F1870 (by rw [st2, if_neg (fun q => q.2 hc1863)])
        · have F1869 := F1721.keep K1868 nin0 nin0
          have F1870 := F1722.keep K1868 nin0
          show Goes p.tables e below _ (T1864.setTop (mkF m 211 #[.val (.int p0), .val (.int p1), .val (.int p2), .val (.int p3), .val (.int p4), .val (.int p5), .val (.int n), .val (.ref b1638), .val (.ref b1707), .val (.int e0), .val (.int e0), .unset, .unset, .unset, .unset] [(.int (0 : Int32))]))
          refine X1867.if_ne 217 (D at_211) ⟨by decide, by decide⟩ (fun hc1872 => absurd hc1872 (by decide)) (fun hc1872 => ?_)
          refine X1867.iconst (x := (4 : Int32)) (D at_214) rfl ?_
          refine X1867.istore #[.val (.int p0), .val (.int p1), .val (.int p2), .val (.int p3), .val (.int p4), .val (.int p5), .val (.int n), .val (.ref b1638), .val (.ref b1707), .val (.int e0), .val (.int (4 : Int32)), .unset, .unset, .unset, .unset] (D at_215) rfl ?_
          show Goes p.tables e below _ (T1864.setTop (mkF m 217 #[.val (.int p0), .val (.int p1), .val (.int p2), .val (.int p3), .val (.int p4), .val (.int p5), .val (.int n), .val (.ref b1638), .val (.ref b1707), .val (.int e0), .val (.int (4 : Int32)), .unset, .unset, .unset, .unset] []))
          exact lp4 _ _ _ X1867 F1869 F1870 (by rw [st2, if_pos ⟨hc1862, hc1863⟩])
    intro T1857 h1858 l4 X1859 F1860 F1861 h_l4
    show Goes p.tables e below _ (T1857.setTop (mkF m 217 #[.val (.int p0), .val (.int p1), .val (.int p2), .val (.int p3), .val (.int p4), .val (.int p5), .val (.int n), .val (.ref b1638), .val (.ref b1707), .val (.int e0), .val (.int l4), .unset, .unset, .unset, .unset] []))
    suffices lp3 : ∀ (T1873 : State) (h1874 : Heap) (l3 : Int32), Wd p l e room_1 sS m #[(.int p0), (.int p1), (.int p2), (.int p3), (.int p4), (.int p5)] below meth c Z a0 consts_1 (x).cls n0 [] [b1707, b1638] T1873 h1874 10 57 → OStr Z h1874 b1707 ts cs → Arv Z h1874 b1638 kb1639 .char (5 : Int32) [(.int c0), (.int c1), (.int c2), (.int c3), (.int c4)] (.int (0 : Int32)) → (l3 = st2 e0 3 c3 l4) → Goes p.tables e below (Endq Z consts_1 sS n0 [] room_1 (fun v _ => v = some (.int 1))) (T1873.setTop (mkF m 236 #[.val (.int p0), .val (.int p1), .val (.int p2), .val (.int p3), .val (.int p4), .val (.int p5), .val (.int n), .val (.ref b1638), .val (.ref b1707), .val (.int e0), .val (.int l3), .unset, .unset, .unset, .unset] [])) by
      refine X1859.iconst (x := (3 : Int32)) (D at_217) rfl ?_
      refine X1859.iload (x := e0) (D at_218) rfl ?_
      refine X1859.icmp_ge 236 (D at_220) ⟨by decide, by decide⟩ (fun hc1878 => ?_) (fun hc1878 => ?_)
      · show Goes p.tables e below _ (T1857.setTop (mkF m 236 #[.val (.int p0), .val (.int p1), .val (.int p2), .val (.int p3), .val (.int p4), .val (.int p5), .val (.int n), .val (.ref b1638), .val (.ref b1707), .val (.int e0), .val (.int l4), .unset, .unset, .unset, .unset] []))
        show Goes p.tables e below _ (T1857.setTop (mkF m 236 #[.val (.int p0), .val (.int p1), .val (.int p2), .val (.int p3), .val (.int p4), .val (.int p5), .val (.int n), .val (.ref b1638), .val (.ref b1707), .val (.int e0), .val (.int l4), .unset, .unset, .unset, .unset] []))
        exact lp3 _ _ _ X1859 F1860 F1861 (by rw [st2, if_neg (fun q => hc1878 q.1)])
      · show Goes p.tables e below _ (T1857.setTop (mkF m 223 #[.val (.int p0), .val (.int p1), .val (.int p2), .val (.int p3), .val (.int p4), .val (.int p5), .val (.int n), .val (.ref b1638), .val (.ref b1707), .val (.int e0), .val (.int l4), .unset, .unset, .unset, .unset] []))
        refine X1859.aload (x := (.ref b1638)) (D at_223) rfl rfl ?_
        refine X1859.iconst (x := (3 : Int32)) (D at_225) rfl ?_
        show Goes p.tables e below _ (T1857.setTop (mkF m 226 #[.val (.int p0), .val (.int p1), .val (.int p2), .val (.int p3), .val (.int p4), .val (.int p5), .val (.int n), .val (.ref b1638), .val (.ref b1707), .val (.int e0), .val (.int l4), .unset, .unset, .unset, .unset] [(.int (3 : Int32)), (.ref b1638)]))
        refine X1859.caload (v := (.int c3)) F1861 ⟨by decide, by decide⟩ rfl (D at_226) ?_
        show Goes p.tables e below _ (T1857.setTop (mkF m 227 #[.val (.int p0), .val (.int p1), .val (.int p2), .val (.int p3), .val (.int p4), .val (.int p5), .val (.int n), .val (.ref b1638), .val (.ref b1707), .val (.int e0), .val (.int l4), .unset, .unset, .unset, .unset] [(.int c3)]))
        refine X1859.calls [(.int c3)] [] (ctWs l Z a0 hw hEL z0 S0 hz0 c3 _ _) (w 115 rfl) (w 116 rfl) (w 3 rfl) (w 117 rfl) (by decide) (fun _ q => nomatch q) (by decide) 0 (by decide) (by decide) (by decide) (lenOf pd_24 rfl) rfl (Nat.le_of_ble_eq_true rfl) (by rw [hml]; rfl) (D at_227) ?_
        rintro T1880 h1881 _ X1883 K1884 (⟨rfl, hc1879⟩ | ⟨rfl, hc1879⟩)
        · have F1885 := F1860.keep K1884 nin0 nin0
          have F1886 := F1861.keep K1884 nin0
          show Goes p.tables e below _ (T1880.setTop (mkF m 230 #[.val (.int p0), .val (.int p1), .val (.int p2), .val (.int p3), .val (.int p4), .val (.int p5), .val (.int n), .val (.ref b1638), .val (.ref b1707), .val (.int e0), .val (.int l4), .unset, .unset, .unset, .unset] [(.int (1 : Int32))]))
          refine X1883.if_ne 236 (D at_230) ⟨by decide, by decide⟩ (fun hc1887 => ?_) (fun hc1887 => absurd hc1887 (by decide))
          show Goes p.tables e below _ (T1880.setTop (mkF m 236 #[.val (.int p0), .val (.int p1), .val (.int p2), .val (.int p3), .val (.int p4), .val (.int p5), .val (.int n), .val (.ref b1638), .val (.ref b1707), .val (.int e0), .val (.int l4), .unset, .unset, .unset, .unset] []))
          exact lp3 _ _ _ X1883 F1885 F1886 (by rw [st2, if_neg (fun q => q.2 hc1879)])
        · have F1885 := F1860.keep K1884 nin0 nin0
          have F1886 := F1861.keep K1884 nin0
          show Goes p.tables e below _ (T1880.setTop (mkF m 230 #[.val (.int p0), .val (.int p1), .val (.int p2), .val (.int p3), .val (.int p4), .val (.int p5), .val (.int n), .val (.ref b1638), .val (.ref b1707), .val (.int e0), .val (.int l4), .unset, .unset, .unset, .unset] [(.int (0 : Int32))]))
          refine X1883.if_ne 236 (D at_230) ⟨by decide, by decide⟩ (fun hc1888 => absurd hc1888 (by decide)) (fun hc1888 => ?_)
          refine X1883.iconst (x := (3 : Int32)) (D at_233) rfl ?_
          refine X1883.istore #[.val (.int p0), .val (.int p1), .val (.int p2), .val (.int p3), .val (.int p4), .val (.int p5), .val (.int n), .val (.ref b1638), .val (.ref b1707), .val (.int e0), .val (.int (3 : Int32)), .unset, .unset, .unset, .unset] (D at_234) rfl ?_
          show Goes p.tables e below _ (T1880.setTop (mkF m 236 #[.val (.int p0), .val (.int p1), .val (.int p2), .val (.int p3), .val (.int p4), .val (.int p5), .val (.int n), .val (.ref b1638), .val (.ref b1707), .val (.int e0), .val (.int (3 : Int32)), .unset, .unset, .unset, .unset] []))
          exact lp3 _ _ _ X1883 F1885 F1886 (by rw [st2, if_pos ⟨hc1878, hc1879⟩])
    intro T1873 h1874 l3 X1875 F1876 F1877 h_l3
    show Goes p.tables e below _ (T1873.setTop (mkF m 236 #[.val (.int p0), .val (.int p1), .val (.int p2), .val (.int p3), .val (.int p4), .val (.int p5), .val (.int n), .val (.ref b1638), .val (.ref b1707), .val (.int e0), .val (.int l3), .unset, .unset, .unset, .unset] []))
    suffices lp2 : ∀ (T1889 : State) (h1890 : Heap) (l2 : Int32), Wd p l e room_1 sS m #[(.int p0), (.int p1), (.int p2), (.int p3), (.int p4), (.int p5)] below meth c Z a0 consts_1 (x).cls n0 [] [b1707, b1638] T1889 h1890 10 57 → OStr Z h1890 b1707 ts cs → Arv Z h1890 b1638 kb1639 .char (5 : Int32) [(.int c0), (.int c1), (.int c2), (.int c3), (.int c4)] (.int (0 : Int32)) → (l2 = st2 e0 2 c2 l3) → Goes p.tables e below (Endq Z consts_1 sS n0 [] room_1 (fun v _ => v = some (.int 1))) (T1889.setTop (mkF m 255 #[.val (.int p0), .val (.int p1), .val (.int p2), .val (.int p3), .val (.int p4), .val (.int p5), .val (.int n), .val (.ref b1638), .val (.ref b1707), .val (.int e0), .val (.int l2), .unset, .unset, .unset, .unset] [])) by
      refine X1875.iconst (x := (2 : Int32)) (D at_236) rfl ?_
      refine X1875.iload (x := e0) (D at_237) rfl ?_
      refine X1875.icmp_ge 255 (D at_239) ⟨by decide, by decide⟩ (fun hc1894 => ?_) (fun hc1894 => ?_)
      · show Goes p.tables e below _ (T1873.setTop (mkF m 255 #[.val (.int p0), .val (.int p1), .val (.int p2), .val (.int p3), .val (.int p4), .val (.int p5), .val (.int n), .val (.ref b1638), .val (.ref b1707), .val (.int e0), .val (.int l3), .unset, .unset, .unset, .unset] []))
        show Goes p.tables e below _ (T1873.setTop (mkF m 255 #[.val (.int p0), .val (.int p1), .val (.int p2), .val (.int p3), .val (.int p4), .val (.int p5), .val (.int n), .val (.ref b1638), .val (.ref b1707), .val (.int e0), .val (.int l3), .unset, .unset, .unset, .unset] []))
        exact lp2 _ _ _ X1875 F1876 F1877 (by rw [st2, if_neg (fun q => hc1894 q.1)])
      · show Goes p.tables e below _ (T1873.setTop (mkF m 242 #[.val (.int p0), .val (.int p1), .val (.int p2), .val (.int p3), .val (.int p4), .val (.int p5), .val (.int n), .val (.ref b1638), .val (.ref b1707), .val (.int e0), .val (.int l3), .unset, .unset, .unset, .unset] []))
        refine X1875.aload (x := (.ref b1638)) (D at_242) rfl rfl ?_
        refine X1875.iconst (x := (2 : Int32)) (D at_244) rfl ?_
        show Goes p.tables e below _ (T1873.setTop (mkF m 245 #[.val (.int p0), .val (.int p1), .val (.int p2), .val (.int p3), .val (.int p4), .val (.int p5), .val (.int n), .val (.ref b1638), .val (.ref b1707), .val (.int e0), .val (.int l3), .unset, .unset, .unset, .unset] [(.int (2 : Int32)), (.ref b1638)]))
        refine X1875.caload (v := (.int c2)) F1877 ⟨by decide, by decide⟩ rfl (D at_245) ?_
        show Goes p.tables e below _ (T1873.setTop (mkF m 246 #[.val (.int p0), .val (.int p1), .val (.int p2), .val (.int p3), .val (.int p4), .val (.int p5), .val (.int n), .val (.ref b1638), .val (.ref b1707), .val (.int e0), .val (.int l3), .unset, .unset, .unset, .unset] [(.int c2)]))
        refine X1875.calls [(.int c2)] [] (ctWs l Z a0 hw hEL z0 S0 hz0 c2 _ _) (w 115 rfl) (w 116 rfl) (w 3 rfl) (w 117 rfl) (by decide) (fun _ q => nomatch q) (by decide) 0 (by decide) (by decide) (by decide) (lenOf pd_24 rfl) rfl (Nat.le_of_ble_eq_true rfl) (by rw [hml]; rfl) (D at_246) ?_
        rintro T1896 h1897 _ X1899 K1900 (⟨rfl, hc1895⟩ | ⟨rfl, hc1895⟩)
        · have F1901 := F1876.keep K1900 nin0 nin0
          have F1902 := F1877.keep K1900 nin0
          show Goes p.tables e below _ (T1896.setTop (mkF m 249 #[.val (.int p0), .val (.int p1), .val (.int p2), .val (.int p3), .val (.int p4), .val (.int p5), .val (.int n), .val (.ref b1638), .val (.ref b1707), .val (.int e0), .val (.int l3), .unset, .unset, .unset, .unset] [(.int (1 : Int32))]))
          refine X1899.if_ne 255 (D at_249) ⟨by decide, by decide⟩ (fun hc1903 => ?_) (fun hc1903 => absurd hc1903 (by decide))
          show Goes p.tables e below _ (T1896.setTop (mkF m 255 #[.val (.int p0), .val (.int p1), .val (.int p2), .val (.int p3), .val (.int p4), .val (.int p5), .val (.int n), .val (.ref b1638), .val (.ref b1707), .val (.int e0), .val (.int l3), .unset, .unset, .unset, .unset] []))
          exact lp2 _ _ _ X1899 F1901 F1902 (by rw [st2, if_neg (fun q => q.2 hc1895)])
        · have F1901 := F1876.keep K1900 nin0 nin0
          have F1902 := F1877.keep K1900 nin0
          show Goes p.tables e below _ (T1896.setTop (mkF m 249 #[.val (.int p0), .val (.int p1), .val (.int p2), .val (.int p3), .val (.int p4), .val (.int p5), .val (.int n), .val (.ref b1638), .val (.ref b1707), .val (.int e0), .val (.int l3), .unset, .unset, .unset, .unset] [(.int (0 : Int32))]))
          refine X1899.if_ne 255 (D at_249) ⟨by decide, by decide⟩ (fun hc1904 => absurd hc1904 (by decide)) (fun hc1904 => ?_)
          refine X1899.iconst (x := (2 : Int32)) (D at_252) rfl ?_
          refine X1899.istore #[.val (.int p0), .val (.int p1), .val (.int p2), .val (.int p3), .val (.int p4), .val (.int p5), .val (.int n), .val (.ref b1638), .val (.ref b1707), .val (.int e0), .val (.int (2 : Int32)), .unset, .unset, .unset, .unset] (D at_253) rfl ?_
          show Goes p.tables e below _ (T1896.setTop (mkF m 255 #[.val (.int p0), .val (.int p1), .val (.int p2), .val (.int p3), .val (.int p4), .val (.int p5), .val (.int n), .val (.ref b1638), .val (.ref b1707), .val (.int e0), .val (.int (2 : Int32)), .unset, .unset, .unset, .unset] []))
          exact lp2 _ _ _ X1899 F1901 F1902 (by rw [st2, if_pos ⟨hc1894, hc1895⟩])
    intro T1889 h1890 l2 X1891 F1892 F1893 h_l2
    show Goes p.tables e below _ (T1889.setTop (mkF m 255 #[.val (.int p0), .val (.int p1), .val (.int p2), .val (.int p3), .val (.int p4), .val (.int p5), .val (.int n), .val (.ref b1638), .val (.ref b1707), .val (.int e0), .val (.int l2), .unset, .unset, .unset, .unset] []))
    suffices lp1 : ∀ (T1905 : State) (h1906 : Heap) (l1 : Int32), Wd p l e room_1 sS m #[(.int p0), (.int p1), (.int p2), (.int p3), (.int p4), (.int p5)] below meth c Z a0 consts_1 (x).cls n0 [] [b1707, b1638] T1905 h1906 10 57 → OStr Z h1906 b1707 ts cs → Arv Z h1906 b1638 kb1639 .char (5 : Int32) [(.int c0), (.int c1), (.int c2), (.int c3), (.int c4)] (.int (0 : Int32)) → (l1 = st2 e0 1 c1 l2) → Goes p.tables e below (Endq Z consts_1 sS n0 [] room_1 (fun v _ => v = some (.int 1))) (T1905.setTop (mkF m 274 #[.val (.int p0), .val (.int p1), .val (.int p2), .val (.int p3), .val (.int p4), .val (.int p5), .val (.int n), .val (.ref b1638), .val (.ref b1707), .val (.int e0), .val (.int l1), .unset, .unset, .unset, .unset] [])) by
      refine X1891.iconst (x := (1 : Int32)) (D at_255) rfl ?_
      refine X1891.iload (x := e0) (D at_256) rfl ?_
      refine X1891.icmp_ge 274 (D at_258) ⟨by decide, by decide⟩ (fun hc1910 => ?_) (fun hc1910 => ?_)
      · show Goes p.tables e below _ (T1889.setTop (mkF m 274 #[.val (.int p0), .val (.int p1), .val (.int p2), .val (.int p3), .val (.int p4), .val (.int p5), .val (.int n), .val (.ref b1638), .val (.ref b1707), .val (.int e0), .val (.int l2), .unset, .unset, .unset, .unset] []))
        show Goes p.tables e below _ (T1889.setTop (mkF m 274 #[.val (.int p0), .val (.int p1), .val (.int p2), .val (.int p3), .val (.int p4), .val (.int p5), .val (.int n), .val (.ref b1638), .val (.ref b1707), .val (.int e0), .val (.int l2), .unset, .unset, .unset, .unset] []))
        exact lp1 _ _ _ X1891 F1892 F1893 (by rw [st2, if_neg (fun q => hc1910 q.1)])
      · show Goes p.tables e below _ (T1889.setTop (mkF m 261 #[.val (.int p0), .val (.int p1), .val (.int p2), .val (.int p3), .val (.int p4), .val (.int p5), .val (.int n), .val (.ref b1638), .val (.ref b1707), .val (.int e0), .val (.int l2), .unset, .unset, .unset, .unset] []))
        refine X1891.aload (x := (.ref b1638)) (D at_261) rfl rfl ?_
        refine X1891.iconst (x := (1 : Int32)) (D at_263) rfl ?_
        show Goes p.tables e below _ (T1889.setTop (mkF m 264 #[.val (.int p0), .val (.int p1), .val (.int p2), .val (.int p3), .val (.int p4), .val (.int p5), .val (.int n), .val (.ref b1638), .val (.ref b1707), .val (.int e0), .val (.int l2), .unset, .unset, .unset, .unset] [(.int (1 : Int32)), (.ref b1638)]))
        refine X1891.caload (v := (.int c1)) F1893 ⟨by decide, by decide⟩ rfl (D at_264) ?_
        show Goes p.tables e below _ (T1889.setTop (mkF m 265 #[.val (.int p0), .val (.int p1), .val (.int p2), .val (.int p3), .val (.int p4), .val (.int p5), .val (.int n), .val (.ref b1638), .val (.ref b1707), .val (.int e0), .val (.int l2), .unset, .unset, .unset, .unset] [(.int c1)]))
        refine X1891.calls [(.int c1)] [] (ctWs l Z a0 hw hEL z0 S0 hz0 c1 _ _) (w 115 rfl) (w 116 rfl) (w 3 rfl) (w 117 rfl) (by decide) (fun _ q => nomatch q) (by decide) 0 (by decide) (by decide) (by decide) (lenOf pd_24 rfl) rfl (Nat.le_of_ble_eq_true rfl) (by rw [hml]; rfl) (D at_265) ?_
        rintro T1912 h1913 _ X1915 K1916 (⟨rfl, hc1911⟩ | ⟨rfl, hc1911⟩)
        · have F1917 := F1892.keep K1916 nin0 nin0
          have F1918 := F1893.keep K1916 nin0
          show Goes p.tables e below _ (T1912.setTop (mkF m 268 #[.val (.int p0), .val (.int p1), .val (.int p2), .val (.int p3), .val (.int p4), .val (.int p5), .val (.int n), .val (.ref b1638), .val (.ref b1707), .val (.int e0), .val (.int l2), .unset, .unset, .unset, .unset] [(.int (1 : Int32))]))
          refine X1915.if_ne 274 (D at_268) ⟨by decide, by decide⟩ (fun hc1919 => ?_) (fun hc1919 => absurd hc1919 (by decide))
          show Goes p.tables e below _ (T1912.setTop (mkF m 274 #[.val (.int p0), .val (.int p1), .val (.int p2), .val (.int p3), .val (.int p4), .val (.int p5), .val (.int n), .val (.ref b1638), .val (.ref b1707), .val (.int e0), .val (.int l2), .unset, .unset, .unset, .unset] []))
          exact lp1 _ _ _ X1915 F1917 F1918 (by rw [st2, if_neg (fun q => q.2 hc1911)])
        · have F1917 := F1892.keep K1916 nin0 nin0
          have F1918 := F1893.keep K1916 nin0
          show Goes p.tables e below _ (T1912.setTop (mkF m 268 #[.val (.int p0), .val (.int p1), .val (.int p2), .val (.int p3), .val (.int p4), .val (.int p5), .val (.int n), .val (.ref b1638), .val (.ref b1707), .val (.int e0), .val (.int l2), .unset, .unset, .unset, .unset] [(.int (0 : Int32))]))
          refine X1915.if_ne 274 (D at_268) ⟨by decide, by decide⟩ (fun hc1920 => absurd hc1920 (by decide)) (fun hc1920 => ?_)
          refine X1915.iconst (x := (1 : Int32)) (D at_271) rfl ?_
          refine X1915.istore #[.val (.int p0), .val (.int p1), .val (.int p2), .val (.int p3), .val (.int p4), .val (.int p5), .val (.int n), .val (.ref b1638), .val (.ref b1707), .val (.int e0), .val (.int (1 : Int32)), .unset, .unset, .unset, .unset] (D at_272) rfl ?_
          show Goes p.tables e below _ (T1912.setTop (mkF m 274 #[.val (.int p0), .val (.int p1), .val (.int p2), .val (.int p3), .val (.int p4), .val (.int p5), .val (.int n), .val (.ref b1638), .val (.ref b1707), .val (.int e0), .val (.int (1 : Int32)), .unset, .unset, .unset, .unset] []))
          exact lp1 _ _ _ X1915 F1917 F1918 (by rw [st2, if_pos ⟨hc1910, hc1911⟩])
    intro T1905 h1906 l1 X1907 F1908 F1909 h_l1
    show Goes p.tables e below _ (T1905.setTop (mkF m 274 #[.val (.int p0), .val (.int p1), .val (.int p2), .val (.int p3), .val (.int p4), .val (.int p5), .val (.int n), .val (.ref b1638), .val (.ref b1707), .val (.int e0), .val (.int l1), .unset, .unset, .unset, .unset] []))
    suffices lp0 : ∀ (T1921 : State) (h1922 : Heap) (l0 : Int32), Wd p l e room_1 sS m #[(.int p0), (.int p1), (.int p2), (.int p3), (.int p4), (.int p5)] below meth c Z a0 consts_1 (x).cls n0 [] [b1707, b1638] T1921 h1922 10 57 → OStr Z h1922 b1707 ts cs → Arv Z h1922 b1638 kb1639 .char (5 : Int32) [(.int c0), (.int c1), (.int c2), (.int c3), (.int c4)] (.int (0 : Int32)) → (l0 = st2 e0 0 c0 l1) → Goes p.tables e below (Endq Z consts_1 sS n0 [] room_1 (fun v _ => v = some (.int 1))) (T1921.setTop (mkF m 293 #[.val (.int p0), .val (.int p1), .val (.int p2), .val (.int p3), .val (.int p4), .val (.int p5), .val (.int n), .val (.ref b1638), .val (.ref b1707), .val (.int e0), .val (.int l0), .unset, .unset, .unset, .unset] [])) by
      refine X1907.iconst (x := (0 : Int32)) (D at_274) rfl ?_
      refine X1907.iload (x := e0) (D at_275) rfl ?_
      refine X1907.icmp_ge 293 (D at_277) ⟨by decide, by decide⟩ (fun hc1926 => ?_) (fun hc1926 => ?_)
      · show Goes p.tables e below _ (T1905.setTop (mkF m 293 #[.val (.int p0), .val (.int p1), .val (.int p2), .val (.int p3), .val (.int p4), .val (.int p5), .val (.int n), .val (.ref b1638), .val (.ref b1707), .val (.int e0), .val (.int l1), .unset, .unset, .unset, .unset] []))
        show Goes p.tables e below _ (T1905.setTop (mkF m 293 #[.val (.int p0), .val (.int p1), .val (.int p2), .val (.int p3), .val (.int p4), .val (.int p5), .val (.int n), .val (.ref b1638), .val (.ref b1707), .val (.int e0), .val (.int l1), .unset, .unset, .unset, .unset] []))
        exact lp0 _ _ _ X1907 F1908 F1909 (by rw [st2, if_neg (fun q => hc1926 q.1)])
      · show Goes p.tables e below _ (T1905.setTop (mkF m 280 #[.val (.int p0), .val (.int p1), .val (.int p2), .val (.int p3), .val (.int p4), .val (.int p5), .val (.int n), .val (.ref b1638), .val (.ref b1707), .val (.int e0), .val (.int l1), .unset, .unset, .unset, .unset] []))
        refine X1907.aload (x := (.ref b1638)) (D at_280) rfl rfl ?_
        refine X1907.iconst (x := (0 : Int32)) (D at_282) rfl ?_
        show Goes p.tables e below _ (T1905.setTop (mkF m 283 #[.val (.int p0), .val (.int p1), .val (.int p2), .val (.int p3), .val (.int p4), .val (.int p5), .val (.int n), .val (.ref b1638), .val (.ref b1707), .val (.int e0), .val (.int l1), .unset, .unset, .unset, .unset] [(.int (0 : Int32)), (.ref b1638)]))
        refine X1907.caload (v := (.int c0)) F1909 ⟨by decide, by decide⟩ rfl (D at_283) ?_
        show Goes p.tables e below _ (T1905.setTop (mkF m 284 #[.val (.int p0), .val (.int p1), .val (.int p2), .val (.int p3), .val (.int p4), .val (.int p5), .val (.int n), .val (.ref b1638), .val (.ref b1707), .val (.int e0), .val (.int l1), .unset, .unset, .unset, .unset] [(.int c0)]))
        refine X1907.calls [(.int c0)] [] (ctWs l Z a0 hw hEL z0 S0 hz0 c0 _ _) (w 115 rfl) (w 116 rfl) (w 3 rfl) (w 117 rfl) (by decide) (fun _ q => nomatch q) (by decide) 0 (by decide) (by decide) (by decide) (lenOf pd_24 rfl) rfl (Nat.le_of_ble_eq_true rfl) (by rw [hml]; rfl) (D at_284) ?_
        rintro T1928 h1929 _ X1931 K1932 (⟨rfl, hc1927⟩ | ⟨rfl, hc1927⟩)
        · have F1933 := F1908.keep K1932 nin0 nin0
          have F1934 := F1909.keep K1932 nin0
          show Goes p.tables e below _ (T1928.setTop (mkF m 287 #[.val (.int p0), .val (.int p1), .val (.int p2), .val (.int p3), .val (.int p4), .val (.int p5), .val (.int n), .val (.ref b1638), .val (.ref b1707), .val (.int e0), .val (.int l1), .unset, .unset, .unset, .unset] [(.int (1 : Int32))]))
          refine X1931.if_ne 293 (D at_287) ⟨by decide, by decide⟩ (fun hc1935 => ?_) (fun hc1935 => absurd hc1935 (by decide))
          show Goes p.tables e below _ (T1928.setTop (mkF m 293 #[.val (.int p0), .val (.int p1), .val (.int p2), .val (.int p3), .val (.int p4), .val (.int p5), .val (.int n), .val (.ref b1638), .val (.ref b1707), .val (.int e0), .val (.int l1), .unset, .unset, .unset, .unset] []))
          exact lp0 _ _ _ X1931 F1933 F1934 (by rw [st2, if_neg (fun q => q.2 hc1927)])
        · have F1933 := F1908.keep K1932 nin0 nin0
          have F1934 := F1909.keep K1932 nin0
          show Goes p.tables e below _ (T1928.setTop (mkF m 287 #[.val (.int p0), .val (.int p1), .val (.int p2), .val (.int p3), .val (.int p4), .val (.int p5), .val (.int n), .val (.ref b1638), .val (.ref b1707), .val (.int e0), .val (.int l1), .unset, .unset, .unset, .unset] [(.int (0 : Int32))]))
          refine X1931.if_ne 293 (D at_287) ⟨by decide, by decide⟩ (fun hc1936 => absurd hc1936 (by decide)) (fun hc1936 => ?_)
          refine X1931.iconst (x := (0 : Int32)) (D at_290) rfl ?_
          refine X1931.istore #[.val (.int p0), .val (.int p1), .val (.int p2), .val (.int p3), .val (.int p4), .val (.int p5), .val (.int n), .val (.ref b1638), .val (.ref b1707), .val (.int e0), .val (.int (0 : Int32)), .unset, .unset, .unset, .unset] (D at_291) rfl ?_
          show Goes p.tables e below _ (T1928.setTop (mkF m 293 #[.val (.int p0), .val (.int p1), .val (.int p2), .val (.int p3), .val (.int p4), .val (.int p5), .val (.int n), .val (.ref b1638), .val (.ref b1707), .val (.int e0), .val (.int (0 : Int32)), .unset, .unset, .unset, .unset] []))
          exact lp0 _ _ _ X1931 F1933 F1934 (by rw [st2, if_pos ⟨hc1926, hc1927⟩])
    intro T1921 h1922 l0 X1923 F1924 F1925 h_l0
    refine X1923.iload (x := l0) (D at_293) rfl ?_
    refine X1923.istore #[.val (.int p0), .val (.int p1), .val (.int p2), .val (.int p3), .val (.int p4), .val (.int p5), .val (.int n), .val (.ref b1638), .val (.ref b1707), .val (.int e0), .val (.int l0), .val (.int l0), .unset, .unset, .unset] (D at_295) rfl ?_
    show Goes p.tables e below _ (T1921.setTop (mkF m 297 #[.val (.int p0), .val (.int p1), .val (.int p2), .val (.int p3), .val (.int p4), .val (.int p5), .val (.int n), .val (.ref b1638), .val (.ref b1707), .val (.int e0), .val (.int l0), .val (.int l0), .unset, .unset, .unset] []))
    suffices up0 : ∀ (T1937 : State) (h1938 : Heap) (u0 : Int32), Wd p l e room_1 sS m #[(.int p0), (.int p1), (.int p2), (.int p3), (.int p4), (.int p5)] below meth c Z a0 consts_1 (x).cls n0 [] [b1707, b1638] T1937 h1938 10 57 → OStr Z h1938 b1707 ts cs → Arv Z h1938 b1638 kb1639 .char (5 : Int32) [(.int c0), (.int c1), (.int c2), (.int c3), (.int c4)] (.int (0 : Int32)) → (u0 = st3 e0 0 c0 l0) → Goes p.tables e below (Endq Z consts_1 sS n0 [] room_1 (fun v _ => v = some (.int 1))) (T1937.setTop (mkF m 316 #[.val (.int p0), .val (.int p1), .val (.int p2), .val (.int p3), .val (.int p4), .val (.int p5), .val (.int n), .val (.ref b1638), .val (.ref b1707), .val (.int e0), .val (.int l0), .val (.int u0), .unset, .unset, .unset] [])) by
      refine X1923.iconst (x := (0 : Int32)) (D at_297) rfl ?_
      refine X1923.iload (x := e0) (D at_298) rfl ?_
      refine X1923.icmp_ge 316 (D at_300) ⟨by decide, by decide⟩ (fun hc1942 => ?_) (fun hc1942 => ?_)
      · show Goes p.tables e below _ (T1921.setTop (mkF m 316 #[.val (.int p0), .val (.int p1), .val (.int p2), .val (.int p3), .val (.int p4), .val (.int p5), .val (.int n), .val (.ref b1638), .val (.ref b1707), .val (.int e0), .val (.int l0), .val (.int l0), .unset, .unset, .unset] []))
        show Goes p.tables e below _ (T1921.setTop (mkF m 316 #[.val (.int p0), .val (.int p1), .val (.int p2), .val (.int p3), .val (.int p4), .val (.int p5), .val (.int n), .val (.ref b1638), .val (.ref b1707), .val (.int e0), .val (.int l0), .val (.int l0), .unset, .unset, .unset] []))
        exact up0 _ _ _ X1923 F1924 F1925 (by rw [st3, if_neg (fun q => hc1942 q.1)])
      · show Goes p.tables e below _ (T1921.setTop (mkF m 303 #[.val (.int p0), .val (.int p1), .val (.int p2), .val (.int p3), .val (.int p4), .val (.int p5), .val (.int n), .val (.ref b1638), .val (.ref b1707), .val (.int e0), .val (.int l0), .val (.int l0), .unset, .unset, .unset] []))
        refine X1923.aload (x := (.ref b1638)) (D at_303) rfl rfl ?_
        refine X1923.iconst (x := (0 : Int32)) (D at_305) rfl ?_
        show Goes p.tables e below _ (T1921.setTop (mkF m 306 #[.val (.int p0), .val (.int p1), .val (.int p2), .val (.int p3), .val (.int p4), .val (.int p5), .val (.int n), .val (.ref b1638), .val (.ref b1707), .val (.int e0), .val (.int l0), .val (.int l0), .unset, .unset, .unset] [(.int (0 : Int32)), (.ref b1638)]))
        refine X1923.caload (v := (.int c0)) F1925 ⟨by decide, by decide⟩ rfl (D at_306) ?_
        show Goes p.tables e below _ (T1921.setTop (mkF m 307 #[.val (.int p0), .val (.int p1), .val (.int p2), .val (.int p3), .val (.int p4), .val (.int p5), .val (.int n), .val (.ref b1638), .val (.ref b1707), .val (.int e0), .val (.int l0), .val (.int l0), .unset, .unset, .unset] [(.int c0)]))
        refine X1923.calls [(.int c0)] [] (ctWs l Z a0 hw hEL z0 S0 hz0 c0 _ _) (w 115 rfl) (w 116 rfl) (w 3 rfl) (w 117 rfl) (by decide) (fun _ q => nomatch q) (by decide) 0 (by decide) (by decide) (by decide) (lenOf pd_24 rfl) rfl (Nat.le_of_ble_eq_true rfl) (by rw [hml]; rfl) (D at_307) ?_
        rintro T1944 h1945 _ X1947 K1948 (⟨rfl, hc1943⟩ | ⟨rfl, hc1943⟩)
        · have F1949 := F1924.keep K1948 nin0 nin0
          have F1950 := F1925.keep K1948 nin0
          show Goes p.tables e below _ (T1944.setTop (mkF m 310 #[.val (.int p0), .val (.int p1), .val (.int p2), .val (.int p3), .val (.int p4), .val (.int p5), .val (.int n), .val (.ref b1638), .val (.ref b1707), .val (.int e0), .val (.int l0), .val (.int l0), .unset, .unset, .unset] [(.int (1 : Int32))]))
          refine X1947.if_ne 316 (D at_310) ⟨by decide, by decide⟩ (fun hc1951 => ?_) (fun hc1951 => absurd hc1951 (by decide))
          show Goes p.tables e below _ (T1944.setTop (mkF m 316 #[.val (.int p0), .val (.int p1), .val (.int p2), .val (.int p3), .val (.int p4), .val (.int p5), .val (.int n), .val (.ref b1638), .val (.ref b1707), .val (.int e0), .val (.int l0), .val (.int l0), .unset, .unset, .unset] []))
          exact up0 _ _ _ X1947 F1949 F1950 (by rw [st3, if_neg (fun q => q.2 hc1943)])
        · have F1949 := F1924.keep K1948 nin0 nin0
          have F1950 := F1925.keep K1948 nin0
          show Goes p.tables e below _ (T1944.setTop (mkF m 310 #[.val (.int p0), .val (.int p1), .val (.int p2), .val (.int p3), .val (.int p4), .val (.int p5), .val (.int n), .val (.ref b1638), .val (.ref b1707), .val (.int e0), .val (.int l0), .val (.int l0), .unset, .unset, .unset] [(.int (0 : Int32))]))
          refine X1947.if_ne 316 (D at_310) ⟨by decide, by decide⟩ (fun hc1952 => absurd hc1952 (by decide)) (fun hc1952 => ?_)
          refine X1947.iconst (x := (1 : Int32)) (D at_313) rfl ?_
          refine X1947.istore #[.val (.int p0), .val (.int p1), .val (.int p2), .val (.int p3), .val (.int p4), .val (.int p5), .val (.int n), .val (.ref b1638), .val (.ref b1707), .val (.int e0), .val (.int l0), .val (.int (1 : Int32)), .unset, .unset, .unset] (D at_314) rfl ?_
          show Goes p.tables e below _ (T1944.setTop (mkF m 316 #[.val (.int p0), .val (.int p1), .val (.int p2), .val (.int p3), .val (.int p4), .val (.int p5), .val (.int n), .val (.ref b1638), .val (.ref b1707), .val (.int e0), .val (.int l0), .val (.int (1 : Int32)), .unset, .unset, .unset] []))
          exact up0 _ _ _ X1947 F1949 F1950 (by rw [st3, if_pos ⟨hc1942, hc1943⟩]; rfl)
    intro T1937 h1938 u0 X1939 F1940 F1941 h_u0
    show Goes p.tables e below _ (T1937.setTop (mkF m 316 #[.val (.int p0), .val (.int p1), .val (.int p2), .val (.int p3), .val (.int p4), .val (.int p5), .val (.int n), .val (.ref b1638), .val (.ref b1707), .val (.int e0), .val (.int l0), .val (.int u0), .unset, .unset, .unset] []))
    suffices up1 : ∀ (T1953 : State) (h1954 : Heap) (u1 : Int32), Wd p l e room_1 sS m #[(.int p0), (.int p1), (.int p2), (.int p3), (.int p4), (.int p5)] below meth c Z a0 consts_1 (x).cls n0 [] [b1707, b1638] T1953 h1954 10 57 → OStr Z h1954 b1707 ts cs → Arv Z h1954 b1638 kb1639 .char (5 : Int32) [(.int c0), (.int c1), (.int c2), (.int c3), (.int c4)] (.int (0 : Int32)) → (u1 = st3 e0 1 c1 u0) → Goes p.tables e below (Endq Z consts_1 sS n0 [] room_1 (fun v _ => v = some (.int 1))) (T1953.setTop (mkF m 335 #[.val (.int p0), .val (.int p1), .val (.int p2), .val (.int p3), .val (.int p4), .val (.int p5), .val (.int n), .val (.ref b1638), .val (.ref b1707), .val (.int e0), .val (.int l0), .val (.int u1), .unset, .unset, .unset] [])) by
      refine X1939.iconst (x := (1 : Int32)) (D at_316) rfl ?_
      refine X1939.iload (x := e0) (D at_317) rfl ?_
      refine X1939.icmp_ge 335 (D at_319) ⟨by decide, by decide⟩ (fun hc1958 => ?_) (fun hc1958 => ?_)
      · show Goes p.tables e below _ (T1937.setTop (mkF m 335 #[.val (.int p0), .val (.int p1), .val (.int p2), .val (.int p3), .val (.int p4), .val (.int p5), .val (.int n), .val (.ref b1638), .val (.ref b1707), .val (.int e0), .val (.int l0), .val (.int u0), .unset, .unset, .unset] []))
        show Goes p.tables e below _ (T1937.setTop (mkF m 335 #[.val (.int p0), .val (.int p1), .val (.int p2), .val (.int p3), .val (.int p4), .val (.int p5), .val (.int n), .val (.ref b1638), .val (.ref b1707), .val (.int e0), .val (.int l0), .val (.int u0), .unset, .unset, .unset] []))
        exact up1 _ _ _ X1939 F1940 F1941 (by rw [st3, if_neg (fun q => hc1958 q.1)])
      · show Goes p.tables e below _ (T1937.setTop (mkF m 322 #[.val (.int p0), .val (.int p1), .val (.int p2), .val (.int p3), .val (.int p4), .val (.int p5), .val (.int n), .val (.ref b1638), .val (.ref b1707), .val (.int e0), .val (.int l0), .val (.int u0), .unset, .unset, .unset] []))
        refine X1939.aload (x := (.ref b1638)) (D at_322) rfl rfl ?_
        refine X1939.iconst (x := (1 : Int32)) (D at_324) rfl ?_
        show Goes p.tables e below _ (T1937.setTop (mkF m 325 #[.val (.int p0), .val (.int p1), .val (.int p2), .val (.int p3), .val (.int p4), .val (.int p5), .val (.int n), .val (.ref b1638), .val (.ref b1707), .val (.int e0), .val (.int l0), .val (.int u0), .unset, .unset, .unset] [(.int (1 : Int32)), (.ref b1638)]))
        refine X1939.caload (v := (.int c1)) F1941 ⟨by decide, by decide⟩ rfl (D at_325) ?_
        show Goes p.tables e below _ (T1937.setTop (mkF m 326 #[.val (.int p0), .val (.int p1), .val (.int p2), .val (.int p3), .val (.int p4), .val (.int p5), .val (.int n), .val (.ref b1638), .val (.ref b1707), .val (.int e0), .val (.int l0), .val (.int u0), .unset, .unset, .unset] [(.int c1)]))
        refine X1939.calls [(.int c1)] [] (ctWs l Z a0 hw hEL z0 S0 hz0 c1 _ _) (w 115 rfl) (w 116 rfl) (w 3 rfl) (w 117 rfl) (by decide) (fun _ q => nomatch q) (by decide) 0 (by decide) (by decide) (by decide) (lenOf pd_24 rfl) rfl (Nat.le_of_ble_eq_true rfl) (by rw [hml]; rfl) (D at_326) ?_
        rintro T1960 h1961 _ X1963 K1964 (⟨rfl, hc1959⟩ | ⟨rfl, hc1959⟩)
        · have F1965 := F1940.keep K1964 nin0 nin0
          have F1966 := F1941.keep K1964 nin0
          show Goes p.tables e below _ (T1960.setTop (mkF m 329 #[.val (.int p0), .val (.int p1), .val (.int p2), .val (.int p3), .val (.int p4), .val (.int p5), .val (.int n), .val (.ref b1638), .val (.ref b1707), .val (.int e0), .val (.int l0), .val (.int u0), .unset, .unset, .unset] [(.int (1 : Int32))]))
          refine X1963.if_ne 335 (D at_329) ⟨by decide, by decide⟩ (fun hc1967 => ?_) (fun hc1967 => absurd hc1967 (by decide))
          show Goes p.tables e below _ (T1960.setTop (mkF m 335 #[.val (.int p0), .val (.int p1), .val (.int p2), .val (.int p3), .val (.int p4), .val (.int p5), .val (.int n), .val (.ref b1638), .val (.ref b1707), .val (.int e0), .val (.int l0), .val (.int u0), .unset, .unset, .unset] []))
          exact up1 _ _ _ X1963 F1965 F1966 (by rw [st3, if_neg (fun q => q.2 hc1959)])
        · have F1965 := F1940.keep K1964 nin0 nin0
          have F1966 := F1941.keep K1964 nin0
          show Goes p.tables e below _ (T1960.setTop (mkF m 329 #[.val (.int p0), .val (.int p1), .val (.int p2), .val (.int p3), .val (.int p4), .val (.int p5), .val (.int n), .val (.ref b1638), .val (.ref b1707), .val (.int e0), .val (.int l0), .val (.int u0), .unset, .unset, .unset] [(.int (0 : Int32))]))
          refine X1963.if_ne 335 (D at_329) ⟨by decide, by decide⟩ (fun hc1968 => absurd hc1968 (by decide)) (fun hc1968 => ?_)
          refine X1963.iconst (x := (2 : Int32)) (D at_332) rfl ?_
          refine X1963.istore #[.val (.int p0), .val (.int p1), .val (.int p2), .val (.int p3), .val (.int p4), .val (.int p5), .val (.int n), .val (.ref b1638), .val (.ref b1707), .val (.int e0), .val (.int l0), .val (.int (2 : Int32)), .unset, .unset, .unset] (D at_333) rfl ?_
          show Goes p.tables e below _ (T1960.setTop (mkF m 335 #[.val (.int p0), .val (.int p1), .val (.int p2), .val (.int p3), .val (.int p4), .val (.int p5), .val (.int n), .val (.ref b1638), .val (.ref b1707), .val (.int e0), .val (.int l0), .val (.int (2 : Int32)), .unset, .unset, .unset] []))
          exact up1 _ _ _ X1963 F1965 F1966 (by rw [st3, if_pos ⟨hc1958, hc1959⟩]; rfl)
    intro T1953 h1954 u1 X1955 F1956 F1957 h_u1
    show Goes p.tables e below _ (T1953.setTop (mkF m 335 #[.val (.int p0), .val (.int p1), .val (.int p2), .val (.int p3), .val (.int p4), .val (.int p5), .val (.int n), .val (.ref b1638), .val (.ref b1707), .val (.int e0), .val (.int l0), .val (.int u1), .unset, .unset, .unset] []))
    suffices up2 : ∀ (T1969 : State) (h1970 : Heap) (u2 : Int32), Wd p l e room_1 sS m #[(.int p0), (.int p1), (.int p2), (.int p3), (.int p4), (.int p5)] below meth c Z a0 consts_1 (x).cls n0 [] [b1707, b1638] T1969 h1970 10 57 → OStr Z h1970 b1707 ts cs → Arv Z h1970 b1638 kb1639 .char (5 : Int32) [(.int c0), (.int c1), (.int c2), (.int c3), (.int c4)] (.int (0 : Int32)) → (u2 = st3 e0 2 c2 u1) → Goes p.tables e below (Endq Z consts_1 sS n0 [] room_1 (fun v _ => v = some (.int 1))) (T1969.setTop (mkF m 354 #[.val (.int p0), .val (.int p1), .val (.int p2), .val (.int p3), .val (.int p4), .val (.int p5), .val (.int n), .val (.ref b1638), .val (.ref b1707), .val (.int e0), .val (.int l0), .val (.int u2), .unset, .unset, .unset] [])) by
      refine X1955.iconst (x := (2 : Int32)) (D at_335) rfl ?_
      refine X1955.iload (x := e0) (D at_336) rfl ?_
      refine X1955.icmp_ge 354 (D at_338) ⟨by decide, by decide⟩ (fun hc1974 => ?_) (fun hc1974 => ?_)
      · show Goes p.tables e below _ (T1953.setTop (mkF m 354 #[.val (.int p0), .val (.int p1), .val (.int p2), .val (.int p3), .val (.int p4), .val (.int p5), .val (.int n), .val (.ref b1638), .val (.ref b1707), .val (.int e0), .val (.int l0), .val (.int u1), .unset, .unset, .unset] []))
        show Goes p.tables e below _ (T1953.setTop (mkF m 354 #[.val (.int p0), .val (.int p1), .val (.int p2), .val (.int p3), .val (.int p4), .val (.int p5), .val (.int n), .val (.ref b1638), .val (.ref b1707), .val (.int e0), .val (.int l0), .val (.int u1), .unset, .unset, .unset] []))
        exact up2 _ _ _ X1955 F1956 F1957 (by rw [st3, if_neg (fun q => hc1974 q.1)])
      · show Goes p.tables e below _ (T1953.setTop (mkF m 341 #[.val (.int p0), .val (.int p1), .val (.int p2), .val (.int p3), .val (.int p4), .val (.int p5), .val (.int n), .val (.ref b1638), .val (.ref b1707), .val (.int e0), .val (.int l0), .val (.int u1), .unset, .unset, .unset] []))
        refine X1955.aload (x := (.ref b1638)) (D at_341) rfl rfl ?_
        refine X1955.iconst (x := (2 : Int32)) (D at_343) rfl ?_
        show Goes p.tables e below _ (T1953.setTop (mkF m 344 #[.val (.int p0), .val (.int p1), .val (.int p2), .val (.int p3), .val (.int p4), .val (.int p5), .val (.int n), .val (.ref b1638), .val (.ref b1707), .val (.int e0), .val (.int l0), .val (.int u1), .unset, .unset, .unset] [(.int (2 : Int32)), (.ref b1638)]))
        refine X1955.caload (v := (.int c2)) F1957 ⟨by decide, by decide⟩ rfl (D at_344) ?_
        show Goes p.tables e below _ (T1953.setTop (mkF m 345 #[.val (.int p0), .val (.int p1), .val (.int p2), .val (.int p3), .val (.int p4), .val (.int p5), .val (.int n), .val (.ref b1638), .val (.ref b1707), .val (.int e0), .val (.int l0), .val (.int u1), .unset, .unset, .unset] [(.int c2)]))
        refine X1955.calls [(.int c2)] [] (ctWs l Z a0 hw hEL z0 S0 hz0 c2 _ _) (w 115 rfl) (w 116 rfl) (w 3 rfl) (w 117 rfl) (by decide) (fun _ q => nomatch q) (by decide) 0 (by decide) (by decide) (by decide) (lenOf pd_24 rfl) rfl (Nat.le_of_ble_eq_true rfl) (by rw [hml]; rfl) (D at_345) ?_
        rintro T1976 h1977 _ X1979 K1980 (⟨rfl, hc1975⟩ | ⟨rfl, hc1975⟩)
        · have F1981 := F1956.keep K1980 nin0 nin0
          have F1982 := F1957.keep K1980 nin0
          show Goes p.tables e below _ (T1976.setTop (mkF m 348 #[.val (.int p0), .val (.int p1), .val (.int p2), .val (.int p3), .val (.int p4), .val (.int p5), .val (.int n), .val (.ref b1638), .val (.ref b1707), .val (.int e0), .val (.int l0), .val (.int u1), .unset, .unset, .unset] [(.int (1 : Int32))]))
          refine X1979.if_ne 354 (D at_348) ⟨by decide, by decide⟩ (fun hc1983 => ?_) (fun hc1983 => absurd hc1983 (by decide))
          show Goes p.tables e below _ (T1976.setTop (mkF m 354 #[.val (.int p0), .val (.int p1), .val (.int p2), .val (.int p3), .val (.int p4), .val (.int p5), .val (.int n), .val (.ref b1638), .val (.ref b1707), .val (.int e0), .val (.int l0), .val (.int u1), .unset, .unset, .unset] []))
          exact up2 _ _ _ X1979 F1981 F1982 (by rw [st3, if_neg (fun q => q.2 hc1975)])
        · have F1981 := F1956.keep K1980 nin0 nin0
          have F1982 := F1957.keep K1980 nin0
          show Goes p.tables e below _ (T1976.setTop (mkF m 348 #[.val (.int p0), .val (.int p1), .val (.int p2), .val (.int p3), .val (.int p4), .val (.int p5), .val (.int n), .val (.ref b1638), .val (.ref b1707), .val (.int e0), .val (.int l0), .val (.int u1), .unset, .unset, .unset] [(.int (0 : Int32))]))
          refine X1979.if_ne 354 (D at_348) ⟨by decide, by decide⟩ (fun hc1984 => absurd hc1984 (by decide)) (fun hc1984 => ?_)
          refine X1979.iconst (x := (3 : Int32)) (D at_351) rfl ?_
          refine X1979.istore #[.val (.int p0), .val (.int p1), .val (.int p2), .val (.int p3), .val (.int p4), .val (.int p5), .val (.int n), .val (.ref b1638), .val (.ref b1707), .val (.int e0), .val (.int l0), .val (.int (3 : Int32)), .unset, .unset, .unset] (D at_352) rfl ?_
          show Goes p.tables e below _ (T1976.setTop (mkF m 354 #[.val (.int p0), .val (.int p1), .val (.int p2), .val (.int p3), .val (.int p4), .val (.int p5), .val (.int n), .val (.ref b1638), .val (.ref b1707), .val (.int e0), .val (.int l0), .val (.int (3 : Int32)), .unset, .unset, .unset] []))
          exact up2 _ _ _ X1979 F1981 F1982 (by rw [st3, if_pos ⟨hc1974, hc1975⟩]; rfl)
    intro T1969 h1970 u2 X1971 F1972 F1973 h_u2
    show Goes p.tables e below _ (T1969.setTop (mkF m 354 #[.val (.int p0), .val (.int p1), .val (.int p2), .val (.int p3), .val (.int p4), .val (.int p5), .val (.int n), .val (.ref b1638), .val (.ref b1707), .val (.int e0), .val (.int l0), .val (.int u2), .unset, .unset, .unset] []))
    suffices up3 : ∀ (T1985 : State) (h1986 : Heap) (u3 : Int32), Wd p l e room_1 sS m #[(.int p0), (.int p1), (.int p2), (.int p3), (.int p4), (.int p5)] below meth c Z a0 consts_1 (x).cls n0 [] [b1707, b1638] T1985 h1986 10 57 → OStr Z h1986 b1707 ts cs → Arv Z h1986 b1638 kb1639 .char (5 : Int32) [(.int c0), (.int c1), (.int c2), (.int c3), (.int c4)] (.int (0 : Int32)) → (u3 = st3 e0 3 c3 u2) → Goes p.tables e below (Endq Z consts_1 sS n0 [] room_1 (fun v _ => v = some (.int 1))) (T1985.setTop (mkF m 373 #[.val (.int p0), .val (.int p1), .val (.int p2), .val (.int p3), .val (.int p4), .val (.int p5), .val (.int n), .val (.ref b1638), .val (.ref b1707), .val (.int e0), .val (.int l0), .val (.int u3), .unset, .unset, .unset] [])) by
      refine X1971.iconst (x := (3 : Int32)) (D at_354) rfl ?_
      refine X1971.iload (x := e0) (D at_355) rfl ?_
      refine X1971.icmp_ge 373 (D at_357) ⟨by decide, by decide⟩ (fun hc1990 => ?_) (fun hc1990 => ?_)
      · show Goes p.tables e below _ (T1969.setTop (mkF m 373 #[.val (.int p0), .val (.int p1), .val (.int p2), .val (.int p3), .val (.int p4), .val (.int p5), .val (.int n), .val (.ref b1638), .val (.ref b1707), .val (.int e0), .val (.int l0), .val (.int u2), .unset, .unset, .unset] []))
        show Goes p.tables e below _ (T1969.setTop (mkF m 373 #[.val (.int p0), .val (.int p1), .val (.int p2), .val (.int p3), .val (.int p4), .val (.int p5), .val (.int n), .val (.ref b1638), .val (.ref b1707), .val (.int e0), .val (.int l0), .val (.int u2), .unset, .unset, .unset] []))
        exact up3 _ _ _ X1971 F1972 F1973 (by rw [st3, if_neg (fun q => hc1990 q.1)])
      · show Goes p.tables e below _ (T1969.setTop (mkF m 360 #[.val (.int p0), .val (.int p1), .val (.int p2), .val (.int p3), .val (.int p4), .val (.int p5), .val (.int n), .val (.ref b1638), .val (.ref b1707), .val (.int e0), .val (.int l0), .val (.int u2), .unset, .unset, .unset] []))
        refine X1971.aload (x := (.ref b1638)) (D at_360) rfl rfl ?_
        refine X1971.iconst (x := (3 : Int32)) (D at_362) rfl ?_
        show Goes p.tables e below _ (T1969.setTop (mkF m 363 #[.val (.int p0), .val (.int p1), .val (.int p2), .val (.int p3), .val (.int p4), .val (.int p5), .val (.int n), .val (.ref b1638), .val (.ref b1707), .val (.int e0), .val (.int l0), .val (.int u2), .unset, .unset, .unset] [(.int (3 : Int32)), (.ref b1638)]))
        refine X1971.caload (v := (.int c3)) F1973 ⟨by decide, by decide⟩ rfl (D at_363) ?_
        show Goes p.tables e below _ (T1969.setTop (mkF m 364 #[.val (.int p0), .val (.int p1), .val (.int p2), .val (.int p3), .val (.int p4), .val (.int p5), .val (.int n), .val (.ref b1638), .val (.ref b1707), .val (.int e0), .val (.int l0), .val (.int u2), .unset, .unset, .unset] [(.int c3)]))
        refine X1971.calls [(.int c3)] [] (ctWs l Z a0 hw hEL z0 S0 hz0 c3 _ _) (w 115 rfl) (w 116 rfl) (w 3 rfl) (w 117 rfl) (by decide) (fun _ q => nomatch q) (by decide) 0 (by decide) (by decide) (by decide) (lenOf pd_24 rfl) rfl (Nat.le_of_ble_eq_true rfl) (by rw [hml]; rfl) (D at_364) ?_
        rintro T1992 h1993 _ X1995 K1996 (⟨rfl, hc1991⟩ | ⟨rfl, hc1991⟩)
        · have F1997 := F1972.keep K1996 nin0 nin0
          have F1998 := F1973.keep K1996 nin0
          show Goes p.tables e below _ (T1992.setTop (mkF m 367 #[.val (.int p0), .val (.int p1), .val (.int p2), .val (.int p3), .val (.int p4), .val (.int p5), .val (.int n), .val (.ref b1638), .val (.ref b1707), .val (.int e0), .val (.int l0), .val (.int u2), .unset, .unset, .unset] [(.int (1 : Int32))]))
          refine X1995.if_ne 373 (D at_367) ⟨by decide, by decide⟩ (fun hc1999 => ?_) (fun hc1999 => absurd hc1999 (by decide))
          show Goes p.tables e below _ (T1992.setTop (mkF m 373 #[.val (.int p0), .val (.int p1), .val (.int p2), .val (.int p3), .val (.int p4), .val (.int p5), .val (.int n), .val (.ref b1638), .val (.ref b1707), .val (.int e0), .val (.int l0), .val (.int u2), .unset, .unset, .unset] []))
          exact up3 _ _ _ X1995 F1997 F1998 (by rw [st3, if_neg (fun q => q.2 hc1991)])
        · have F1997 := F1972.keep K1996 nin0 nin0
          have F1998 := F1973.keep K1996 nin0
          show Goes p.tables e below _ (T1992.setTop (mkF m 367 #[.val (.int p0), .val (.int p1), .val (.int p2), .val (.int p3), .val (.int p4), .val (.int p5), .val (.int n), .val (.ref b1638), .val (.ref b1707), .val (.int e0), .val (.int l0), .val (.int u2), .unset, .unset, .unset] [(.int (0 : Int32))]))
          refine X1995.if_ne 373 (D at_367) ⟨by decide, by decide⟩ (fun hc2000 => absurd hc2000 (by decide)) (fun hc2000 => ?_)
          refine X1995.iconst (x := (4 : Int32)) (D at_370) rfl ?_
          refine X1995.istore #[.val (.int p0), .val (.int p1), .val (.int p2), .val (.int p3), .val (.int p4), .val (.int p5), .val (.int n), .val (.ref b1638), .val (.ref b1707), .val (.int e0), .val (.int l0), .val (.int (4 : Int32)), .unset, .unset, .unset] (D at_371) rfl ?_
          show Goes p.tables e below _ (T1992.setTop (mkF m 373 #[.val (.int p0), .val (.int p1), .val (.int p2), .val (.int p3), .val (.int p4), .val (.int p5), .val (.int n), .val (.ref b1638), .val (.ref b1707), .val (.int e0), .val (.int l0), .val (.int (4 : Int32)), .unset, .unset, .unset] []))
          exact up3 _ _ _ X1995 F1997 F1998 (by rw [st3, if_pos ⟨hc1990, hc1991⟩]; rfl)
    intro T1985 h1986 u3 X1987 F1988 F1989 h_u3
    show Goes p.tables e below _ (T1985.setTop (mkF m 373 #[.val (.int p0), .val (.int p1), .val (.int p2), .val (.int p3), .val (.int p4), .val (.int p5), .val (.int n), .val (.ref b1638), .val (.ref b1707), .val (.int e0), .val (.int l0), .val (.int u3), .unset, .unset, .unset] []))
    suffices up4 : ∀ (T2001 : State) (h2002 : Heap) (u4 : Int32), Wd p l e room_1 sS m #[(.int p0), (.int p1), (.int p2), (.int p3), (.int p4), (.int p5)] below meth c Z a0 consts_1 (x).cls n0 [] [b1707, b1638] T2001 h2002 10 57 → OStr Z h2002 b1707 ts cs → Arv Z h2002 b1638 kb1639 .char (5 : Int32) [(.int c0), (.int c1), (.int c2), (.int c3), (.int c4)] (.int (0 : Int32)) → (u4 = st3 e0 4 c4 u3) → Goes p.tables e below (Endq Z consts_1 sS n0 [] room_1 (fun v _ => v = some (.int 1))) (T2001.setTop (mkF m 392 #[.val (.int p0), .val (.int p1), .val (.int p2), .val (.int p3), .val (.int p4), .val (.int p5), .val (.int n), .val (.ref b1638), .val (.ref b1707), .val (.int e0), .val (.int l0), .val (.int u4), .unset, .unset, .unset] [])) by
      refine X1987.iconst (x := (4 : Int32)) (D at_373) rfl ?_
      refine X1987.iload (x := e0) (D at_374) rfl ?_
      refine X1987.icmp_ge 392 (D at_376) ⟨by decide, by decide⟩ (fun hc2006 => ?_) (fun hc2006 => ?_)
      · show Goes p.tables e below _ (T1985.setTop (mkF m 392 #[.val (.int p0), .val (.int p1), .val (.int p2), .val (.int p3), .val (.int p4), .val (.int p5), .val (.int n), .val (.ref b1638), .val (.ref b1707), .val (.int e0), .val (.int l0), .val (.int u3), .unset, .unset, .unset] []))
        show Goes p.tables e below _ (T1985.setTop (mkF m 392 #[.val (.int p0), .val (.int p1), .val (.int p2), .val (.int p3), .val (.int p4), .val (.int p5), .val (.int n), .val (.ref b1638), .val (.ref b1707), .val (.int e0), .val (.int l0), .val (.int u3), .unset, .unset, .unset] []))
        exact up4 _ _ _ X1987 F1988 F1989 (by rw [st3, if_neg (fun q => hc2006 q.1)])
      · show Goes p.tables e below _ (T1985.setTop (mkF m 379 #[.val (.int p0), .val (.int p1), .val (.int p2), .val (.int p3), .val (.int p4), .val (.int p5), .val (.int n), .val (.ref b1638), .val (.ref b1707), .val (.int e0), .val (.int l0), .val (.int u3), .unset, .unset, .unset] []))
        refine X1987.aload (x := (.ref b1638)) (D at_379) rfl rfl ?_
        refine X1987.iconst (x := (4 : Int32)) (D at_381) rfl ?_
        show Goes p.tables e below _ (T1985.setTop (mkF m 382 #[.val (.int p0), .val (.int p1), .val (.int p2), .val (.int p3), .val (.int p4), .val (.int p5), .val (.int n), .val (.ref b1638), .val (.ref b1707), .val (.int e0), .val (.int l0), .val (.int u3), .unset, .unset, .unset] [(.int (4 : Int32)), (.ref b1638)]))
        refine X1987.caload (v := (.int c4)) F1989 ⟨by decide, by decide⟩ rfl (D at_382) ?_
        show Goes p.tables e below _ (T1985.setTop (mkF m 383 #[.val (.int p0), .val (.int p1), .val (.int p2), .val (.int p3), .val (.int p4), .val (.int p5), .val (.int n), .val (.ref b1638), .val (.ref b1707), .val (.int e0), .val (.int l0), .val (.int u3), .unset, .unset, .unset] [(.int c4)]))
        refine X1987.calls [(.int c4)] [] (ctWs l Z a0 hw hEL z0 S0 hz0 c4 _ _) (w 115 rfl) (w 116 rfl) (w 3 rfl) (w 117 rfl) (by decide) (fun _ q => nomatch q) (by decide) 0 (by decide) (by decide) (by decide) (lenOf pd_24 rfl) rfl (Nat.le_of_ble_eq_true rfl) (by rw [hml]; rfl) (D at_383) ?_
        rintro T2008 h2009 _ X2011 K2012 (⟨rfl, hc2007⟩ | ⟨rfl, hc2007⟩)
        · have F2013 := F1988.keep K2012 nin0 nin0
          have F2014 := F1989.keep K2012 nin0
          show Goes p.tables e below _ (T2008.setTop (mkF m 386 #[.val (.int p0), .val (.int p1), .val (.int p2), .val (.int p3), .val (.int p4), .val (.int p5), .val (.int n), .val (.ref b1638), .val (.ref b1707), .val (.int e0), .val (.int l0), .val (.int u3), .unset, .unset, .unset] [(.int (1 : Int32))]))
          refine X2011.if_ne 392 (D at_386) ⟨by decide, by decide⟩ (fun hc2015 => ?_) (fun hc2015 => absurd hc2015 (by decide))
          show Goes p.tables e below _ (T2008.setTop (mkF m 392 #[.val (.int p0), .val (.int p1), .val (.int p2), .val (.int p3), .val (.int p4), .val (.int p5), .val (.int n), .val (.ref b1638), .val (.ref b1707), .val (.int e0), .val (.int l0), .val (.int u3), .unset, .unset, .unset] []))
          exact up4 _ _ _ X2011 F2013 F2014 (by rw [st3, if_neg (fun q => q.2 hc2007)])
        · have F2013 := F1988.keep K2012 nin0 nin0
          have F2014 := F1989.keep K2012 nin0
          show Goes p.tables e below _ (T2008.setTop (mkF m 386 #[.val (.int p0), .val (.int p1), .val (.int p2), .val (.int p3), .val (.int p4), .val (.int p5), .val (.int n), .val (.ref b1638), .val (.ref b1707), .val (.int e0), .val (.int l0), .val (.int u3), .unset, .unset, .unset] [(.int (0 : Int32))]))
          refine X2011.if_ne 392 (D at_386) ⟨by decide, by decide⟩ (fun hc2016 => absurd hc2016 (by decide)) (fun hc2016 => ?_)
          refine X2011.iconst (x := (5 : Int32)) (D at_389) rfl ?_
          refine X2011.istore #[.val (.int p0), .val (.int p1), .val (.int p2), .val (.int p3), .val (.int p4), .val (.int p5), .val (.int n), .val (.ref b1638), .val (.ref b1707), .val (.int e0), .val (.int l0), .val (.int (5 : Int32)), .unset, .unset, .unset] (D at_390) rfl ?_
          show Goes p.tables e below _ (T2008.setTop (mkF m 392 #[.val (.int p0), .val (.int p1), .val (.int p2), .val (.int p3), .val (.int p4), .val (.int p5), .val (.int n), .val (.ref b1638), .val (.ref b1707), .val (.int e0), .val (.int l0), .val (.int (5 : Int32)), .unset, .unset, .unset] []))
          exact up4 _ _ _ X2011 F2013 F2014 (by rw [st3, if_pos ⟨hc2006, hc2007⟩]; rfl)
    intro T2001 h2002 u4 X2003 F2004 F2005 h_u4
    have PL : Mt c0 c1 c2 c3 c4 l0 u4 (FL cs) := plain (e := e0) hn (by rw [h_e0, h_e1, h_e2, h_e3, h_e4]) (by rw [h_l0, h_l1, h_l2, h_l3, h_l4]) (by rw [h_u4, h_u3, h_u2, h_u1, h_u0])
    have hlc : cs.length ≤ 5 := by rcases hn with ⟨-, rfl⟩ | ⟨-, rfl⟩ | ⟨-, rfl⟩ | ⟨-, rfl⟩ | ⟨-, rfl⟩ | ⟨-, rfl⟩ <;> exact Nat.le_of_ble_eq_true rfl
    refine X2003.iload (x := u4) (D at_392) rfl ?_
    refine X2003.iload (x := l0) (D at_394) rfl ?_
    refine X2003.isub (D at_396) ?_
    refine X2003.istore #[.val (.int p0), .val (.int p1), .val (.int p2), .val (.int p3), .val (.int p4), .val (.int p5), .val (.int n), .val (.ref b1638), .val (.ref b1707), .val (.int e0), .val (.int l0), .val (.int u4), .val (.int (u4 - l0)), .unset, .unset] (D at_397) rfl ?_
    refine X2003.aload (x := (.ref b1707)) (D at_399) rfl rfl ?_
    refine X2003.calls [(.ref b1707)] [] (ctFL l Z a0 hw hEL z0 S0 hz0 fm hfm SF ci aA cA SI IC ST TA b1707 ts cs _ _ F2004 hlc) (w 29 rfl) (w 30 rfl) (w 31 rfl) (w 32 rfl) (by decide) (fun _ q => nomatch q) (by decide) 0 (by decide) (by decide) (by decide) (lenOf pd_20 rfl) rfl (Nat.le_of_ble_eq_true rfl) (by rw [hml]; rfl) (D at_401) ?_
    rintro T2017 h2018 _ X2020 K2021 ⟨r, tr, rfl, O9⟩
    have F2022 := F2004.keep K2021 nin0 nin0
    have F2023 := F2005.keep K2021 nin0
    show Goes p.tables e below _ (T2017.setTop (mkF m 404 #[.val (.int p0), .val (.int p1), .val (.int p2), .val (.int p3), .val (.int p4), .val (.int p5), .val (.int n), .val (.ref b1638), .val (.ref b1707), .val (.int e0), .val (.int l0), .val (.int u4), .val (.int (u4 - l0)), .unset, .unset] [(.ref r)]))
    refine X2020.astore #[.val (.int p0), .val (.int p1), .val (.int p2), .val (.int p3), .val (.int p4), .val (.int p5), .val (.int n), .val (.ref b1638), .val (.ref b1707), .val (.int e0), .val (.int l0), .val (.int u4), .val (.int (u4 - l0)), .val (.ref r), .unset] (D at_404) rfl rfl ?_
    refine X2020.aload (x := (.ref r)) (D at_406) rfl rfl ?_
    refine X2020.ifnullR (D at_408) ?_
    refine X2020.aload (x := (.ref r)) (D at_411) rfl rfl ?_
    refine X2020.callv (y := (⟨"java/lang/String", "length", "()I"⟩ : MethodName)) (a := r) (C := "java/lang/String") [] [] (ctLen l Z a0 hw hEL z0 S0 hz0 r tr (FL cs) _ _ O9) O9.1 (w 85 rfl) (w 50 rfl) (w 52 rfl) (w 51 rfl) (w 7 rfl) (w 53 rfl) (by decide) (fun _ q => nomatch q) (by decide) 0 (by decide) (by decide) (by decide) (lenOf pd_7 rfl) rfl (Nat.le_of_ble_eq_true rfl) (by rw [hml]; rfl) (D at_413) ?_
    rintro T2024 h2025 _ X2027 K2028 rfl
    have F2029 := F2022.keep K2028 nin0 nin0
    have F2030 := F2023.keep K2028 nin0
    have F2031 := O9.keep K2028 nin0 nin0
    show Goes p.tables e below _ (T2024.setTop (mkF m 416 #[.val (.int p0), .val (.int p1), .val (.int p2), .val (.int p3), .val (.int p4), .val (.int p5), .val (.int n), .val (.ref b1638), .val (.ref b1707), .val (.int e0), .val (.int l0), .val (.int u4), .val (.int (u4 - l0)), .val (.ref r), .unset] [(.int (Int32.ofNat (FL cs).length))]))
    refine X2027.iload (x := (u4 - l0)) (D at_416) rfl ?_
    refine X2027.icmp_eq 423 (D at_418) ⟨by decide, by decide⟩ (fun hn2032 => ?_) (fun hc => (hc (mt_len PL)).elim)
    refine X2027.iconst (x := (1 : Int32)) (D at_423) rfl ?_
    refine X2027.istore #[.val (.int p0), .val (.int p1), .val (.int p2), .val (.int p3), .val (.int p4), .val (.int p5), .val (.int n), .val (.ref b1638), .val (.ref b1707), .val (.int e0), .val (.int l0), .val (.int u4), .val (.int (u4 - l0)), .val (.ref r), .val (.int (1 : Int32))] (D at_424) rfl ?_
    refine X2027.iconst (x := (0 : Int32)) (D at_426) rfl ?_
    refine X2027.iload (x := (u4 - l0)) (D at_427) rfl ?_
    show Goes p.tables e below _ (T2024.setTop (mkF m 429 #[.val (.int p0), .val (.int p1), .val (.int p2), .val (.int p3), .val (.int p4), .val (.int p5), .val (.int n), .val (.ref b1638), .val (.ref b1707), .val (.int e0), .val (.int l0), .val (.int u4), .val (.int (u4 - l0)), .val (.ref r), .val (.int (1 : Int32))] [(.int (u4 - l0)), (.int (0 : Int32))]))
    suffices cmp0 : ∀ (T2033 : State) (h2034 : Heap), Wd p l e room_1 sS m #[(.int p0), (.int p1), (.int p2), (.int p3), (.int p4), (.int p5)] below meth c Z a0 consts_1 (x).cls n0 [] [b1707, b1638] T2033 h2034 14 81 → OStr Z h2034 r tr (FL cs) → Arv Z h2034 b1638 kb1639 .char (5 : Int32) [(.int c0), (.int c1), (.int c2), (.int c3), (.int c4)] (.int (0 : Int32)) → Goes p.tables e below (Endq Z consts_1 sS n0 [] room_1 (fun v _ => v = some (.int 1))) (T2033.setTop (mkF m 458 #[.val (.int p0), .val (.int p1), .val (.int p2), .val (.int p3), .val (.int p4), .val (.int p5), .val (.int n), .val (.ref b1638), .val (.ref b1707), .val (.int e0), .val (.int l0), .val (.int u4), .val (.int (u4 - l0)), .val (.ref r), .val (.int (1 : Int32))] [])) by
      refine X2027.icmp_ge 458 (D at_429) ⟨by decide, by decide⟩ (fun hc2038 => ?_) (fun hc2038 => ?_)
      · show Goes p.tables e below _ (T2024.setTop (mkF m 458 #[.val (.int p0), .val (.int p1), .val (.int p2), .val (.int p3), .val (.int p4), .val (.int p5), .val (.int n), .val (.ref b1638), .val (.ref b1707), .val (.int e0), .val (.int l0), .val (.int u4), .val (.int (u4 - l0)), .val (.ref r), .val (.int (1 : Int32))] []))
        show Goes p.tables e below _ (T2024.setTop (mkF m 458 #[.val (.int p0), .val (.int p1), .val (.int p2), .val (.int p3), .val (.int p4), .val (.int p5), .val (.int n), .val (.ref b1638), .val (.ref b1707), .val (.int e0), .val (.int l0), .val (.int u4), .val (.int (u4 - l0)), .val (.ref r), .val (.int (1 : Int32))] []))
        exact cmp0 _ _  X2027 F2031 F2030 
      · show Goes p.tables e below _ (T2024.setTop (mkF m 432 #[.val (.int p0), .val (.int p1), .val (.int p2), .val (.int p3), .val (.int p4), .val (.int p5), .val (.int n), .val (.ref b1638), .val (.ref b1707), .val (.int e0), .val (.int l0), .val (.int u4), .val (.int (u4 - l0)), .val (.ref r), .val (.int (1 : Int32))] []))
        have M0 := mt_at PL 0 (by decide) hc2038
        rw [show l0 + Int32.ofNat 0 = l0 from Int32.add_zero l0] at M0
        refine X2027.iload (x := (1 : Int32)) (D at_432) rfl ?_
        refine X2027.if_eq 455 (D at_434) ⟨by decide, by decide⟩ (fun hc2039 => absurd hc2039 (by decide)) (fun hc2039 => ?_)
        refine X2027.aload (x := (.ref r)) (D at_437) rfl rfl ?_
        refine X2027.iconst (x := (0 : Int32)) (D at_439) rfl ?_
        refine X2027.callv (y := (⟨"java/lang/String", "charAt", "(I)C"⟩ : MethodName)) (a := r) (C := "java/lang/String") [(.int (0 : Int32))] [] (ctCA l Z a0 hw hEL z0 S0 hz0 fm hfm SF r tr (FL cs) 0 _ _ F2031 M0.1) F2031.1 (w 137 rfl) (w 138 rfl) (w 140 rfl) (w 139 rfl) (w 7 rfl) (w 141 rfl) (by decide) (fun _ q => nomatch q) (by decide) 0 (by decide) (by decide) (by decide) (lenOf pd_21 rfl) rfl (Nat.le_of_ble_eq_true rfl) (by rw [hml]; rfl) (D at_440) ?_
        rintro T2040 h2041 _ X2043 K2044 rfl
        have F2045 := F2029.keep K2044 nin0 nin0
        have F2046 := F2030.keep K2044 nin0
        have F2047 := F2031.keep K2044 nin0 nin0
        show Goes p.tables e below _ (T2040.setTop (mkF m 443 #[.val (.int p0), .val (.int p1), .val (.int p2), .val (.int p3), .val (.int p4), .val (.int p5), .val (.int n), .val (.ref b1638), .val (.ref b1707), .val (.int e0), .val (.int l0), .val (.int u4), .val (.int (u4 - l0)), .val (.ref r), .val (.int (1 : Int32))] [(.int ((FL cs).getD 0 0))]))
        refine X2043.aload (x := (.ref b1638)) (D at_443) rfl rfl ?_
        refine X2043.iload (x := l0) (D at_445) rfl ?_
        show Goes p.tables e below _ (T2040.setTop (mkF m 447 #[.val (.int p0), .val (.int p1), .val (.int p2), .val (.int p3), .val (.int p4), .val (.int p5), .val (.int n), .val (.ref b1638), .val (.ref b1707), .val (.int e0), .val (.int l0), .val (.int u4), .val (.int (u4 - l0)), .val (.ref r), .val (.int (1 : Int32))] [(.int l0), (.ref b1638), (.int ((FL cs).getD 0 0))]))
        refine X2043.caload (v := (.int ((FL cs).getD 0 0))) F2046 M0.2.1 M0.2.2 (D at_447) ?_
        show Goes p.tables e below _ (T2040.setTop (mkF m 448 #[.val (.int p0), .val (.int p1), .val (.int p2), .val (.int p3), .val (.int p4), .val (.int p5), .val (.int n), .val (.ref b1638), .val (.ref b1707), .val (.int e0), .val (.int l0), .val (.int u4), .val (.int (u4 - l0)), .val (.ref r), .val (.int (1 : Int32))] [(.int ((FL cs).getD 0 0)), (.int ((FL cs).getD 0 0))]))
        refine X2043.icmp_ne 455 (D at_448) ⟨by decide, by decide⟩ (fun hc => (hc rfl).elim) (fun hn2048 => ?_)
        refine X2043.iconst (x := (1 : Int32)) (D at_451) rfl ?_
        refine X2043.goto 456 (D at_452) ⟨by decide, by decide⟩ ?_
        refine X2043.istore #[.val (.int p0), .val (.int p1), .val (.int p2), .val (.int p3), .val (.int p4), .val (.int p5), .val (.int n), .val (.ref b1638), .val (.ref b1707), .val (.int e0), .val (.int l0), .val (.int u4), .val (.int (u4 - l0)), .val (.ref r), .val (.int (1 : Int32))] (D at_456) rfl ?_
        show Goes p.tables e below _ (T2040.setTop (mkF m 458 #[.val (.int p0), .val (.int p1), .val (.int p2), .val (.int p3), .val (.int p4), .val (.int p5), .val (.int n), .val (.ref b1638), .val (.ref b1707), .val (.int e0), .val (.int l0), .val (.int u4), .val (.int (u4 - l0)), .val (.ref r), .val (.int (1 : Int32))] []))
        exact cmp0 _ _  X2043 F2047 F2046 
    intro T2033 h2034  X2035 F2036 F2037 
    refine X2035.iconst (x := (1 : Int32)) (D at_458) rfl ?_
    refine X2035.iload (x := (u4 - l0)) (D at_459) rfl ?_
    show Goes p.tables e below _ (T2033.setTop (mkF m 461 #[.val (.int p0), .val (.int p1), .val (.int p2), .val (.int p3), .val (.int p4), .val (.int p5), .val (.int n), .val (.ref b1638), .val (.ref b1707), .val (.int e0), .val (.int l0), .val (.int u4), .val (.int (u4 - l0)), .val (.ref r), .val (.int (1 : Int32))] [(.int (u4 - l0)), (.int (1 : Int32))]))
    suffices cmp1 : ∀ (T2049 : State) (h2050 : Heap), Wd p l e room_1 sS m #[(.int p0), (.int p1), (.int p2), (.int p3), (.int p4), (.int p5)] below meth c Z a0 consts_1 (x).cls n0 [] [b1707, b1638] T2049 h2050 14 81 → OStr Z h2050 r tr (FL cs) → Arv Z h2050 b1638 kb1639 .char (5 : Int32) [(.int c0), (.int c1), (.int c2), (.int c3), (.int c4)] (.int (0 : Int32)) → Goes p.tables e below (Endq Z consts_1 sS n0 [] room_1 (fun v _ => v = some (.int 1))) (T2049.setTop (mkF m 492 #[.val (.int p0), .val (.int p1), .val (.int p2), .val (.int p3), .val (.int p4), .val (.int p5), .val (.int n), .val (.ref b1638), .val (.ref b1707), .val (.int e0), .val (.int l0), .val (.int u4), .val (.int (u4 - l0)), .val (.ref r), .val (.int (1 : Int32))] [])) by
      refine X2035.icmp_ge 492 (D at_461) ⟨by decide, by decide⟩ (fun hc2054 => ?_) (fun hc2054 => ?_)
      · show Goes p.tables e below _ (T2033.setTop (mkF m 492 #[.val (.int p0), .val (.int p1), .val (.int p2), .val (.int p3), .val (.int p4), .val (.int p5), .val (.int n), .val (.ref b1638), .val (.ref b1707), .val (.int e0), .val (.int l0), .val (.int u4), .val (.int (u4 - l0)), .val (.ref r), .val (.int (1 : Int32))] []))
        show Goes p.tables e below _ (T2033.setTop (mkF m 492 #[.val (.int p0), .val (.int p1), .val (.int p2), .val (.int p3), .val (.int p4), .val (.int p5), .val (.int n), .val (.ref b1638), .val (.ref b1707), .val (.int e0), .val (.int l0), .val (.int u4), .val (.int (u4 - l0)), .val (.ref r), .val (.int (1 : Int32))] []))
        exact cmp1 _ _  X2035 F2036 F2037 
      · show Goes p.tables e below _ (T2033.setTop (mkF m 464 #[.val (.int p0), .val (.int p1), .val (.int p2), .val (.int p3), .val (.int p4), .val (.int p5), .val (.int n), .val (.ref b1638), .val (.ref b1707), .val (.int e0), .val (.int l0), .val (.int u4), .val (.int (u4 - l0)), .val (.ref r), .val (.int (1 : Int32))] []))
        have M1 := mt_at PL 1 (by decide) hc2054
        refine X2035.iload (x := (1 : Int32)) (D at_464) rfl ?_
        refine X2035.if_eq 489 (D at_466) ⟨by decide, by decide⟩ (fun hc2055 => absurd hc2055 (by decide)) (fun hc2055 => ?_)
        refine X2035.aload (x := (.ref r)) (D at_469) rfl rfl ?_
        refine X2035.iconst (x := (1 : Int32)) (D at_471) rfl ?_
        refine X2035.callv (y := (⟨"java/lang/String", "charAt", "(I)C"⟩ : MethodName)) (a := r) (C := "java/lang/String") [(.int (1 : Int32))] [] (ctCA l Z a0 hw hEL z0 S0 hz0 fm hfm SF r tr (FL cs) 1 _ _ F2036 M1.1) F2036.1 (w 137 rfl) (w 138 rfl) (w 140 rfl) (w 139 rfl) (w 7 rfl) (w 141 rfl) (by decide) (fun _ q => nomatch q) (by decide) 0 (by decide) (by decide) (by decide) (lenOf pd_21 rfl) rfl (Nat.le_of_ble_eq_true rfl) (by rw [hml]; rfl) (D at_472) ?_
        rintro T2056 h2057 _ X2059 K2060 rfl
        have F2061 := F2036.keep K2060 nin0 nin0
        have F2062 := F2037.keep K2060 nin0
        show Goes p.tables e below _ (T2056.setTop (mkF m 475 #[.val (.int p0), .val (.int p1), .val (.int p2), .val (.int p3), .val (.int p4), .val (.int p5), .val (.int n), .val (.ref b1638), .val (.ref b1707), .val (.int e0), .val (.int l0), .val (.int u4), .val (.int (u4 - l0)), .val (.ref r), .val (.int (1 : Int32))] [(.int ((FL cs).getD 1 0))]))
        refine X2059.aload (x := (.ref b1638)) (D at_475) rfl rfl ?_
        refine X2059.iload (x := l0) (D at_477) rfl ?_
        refine X2059.iconst (x := (1 : Int32)) (D at_479) rfl ?_
        refine X2059.iadd (D at_480) ?_
        show Goes p.tables e below _ (T2056.setTop (mkF m 481 #[.val (.int p0), .val (.int p1), .val (.int p2), .val (.int p3), .val (.int p4), .val (.int p5), .val (.int n), .val (.ref b1638), .val (.ref b1707), .val (.int e0), .val (.int l0), .val (.int u4), .val (.int (u4 - l0)), .val (.ref r), .val (.int (1 : Int32))] [(.int (l0 + (1 : Int32))), (.ref b1638), (.int ((FL cs).getD 1 0))]))
        refine X2059.caload (v := (.int ((FL cs).getD 1 0))) F2062 M1.2.1 M1.2.2 (D at_481) ?_
        show Goes p.tables e below _ (T2056.setTop (mkF m 482 #[.val (.int p0), .val (.int p1), .val (.int p2), .val (.int p3), .val (.int p4), .val (.int p5), .val (.int n), .val (.ref b1638), .val (.ref b1707), .val (.int e0), .val (.int l0), .val (.int u4), .val (.int (u4 - l0)), .val (.ref r), .val (.int (1 : Int32))] [(.int ((FL cs).getD 1 0)), (.int ((FL cs).getD 1 0))]))
        refine X2059.icmp_ne 489 (D at_482) ⟨by decide, by decide⟩ (fun hc => (hc rfl).elim) (fun hn2063 => ?_)
        refine X2059.iconst (x := (1 : Int32)) (D at_485) rfl ?_
        refine X2059.goto 490 (D at_486) ⟨by decide, by decide⟩ ?_
        refine X2059.istore #[.val (.int p0), .val (.int p1), .val (.int p2), .val (.int p3), .val (.int p4), .val (.int p5), .val (.int n), .val (.ref b1638), .val (.ref b1707), .val (.int e0), .val (.int l0), .val (.int u4), .val (.int (u4 - l0)), .val (.ref r), .val (.int (1 : Int32))] (D at_490) rfl ?_
        show Goes p.tables e below _ (T2056.setTop (mkF m 492 #[.val (.int p0), .val (.int p1), .val (.int p2), .val (.int p3), .val (.int p4), .val (.int p5), .val (.int n), .val (.ref b1638), .val (.ref b1707), .val (.int e0), .val (.int l0), .val (.int u4), .val (.int (u4 - l0)), .val (.ref r), .val (.int (1 : Int32))] []))
        exact cmp1 _ _  X2059 F2061 F2062 
    intro T2049 h2050  X2051 F2052 F2053 
    refine X2051.iconst (x := (2 : Int32)) (D at_492) rfl ?_
    refine X2051.iload (x := (u4 - l0)) (D at_493) rfl ?_
    show Goes p.tables e below _ (T2049.setTop (mkF m 495 #[.val (.int p0), .val (.int p1), .val (.int p2), .val (.int p3), .val (.int p4), .val (.int p5), .val (.int n), .val (.ref b1638), .val (.ref b1707), .val (.int e0), .val (.int l0), .val (.int u4), .val (.int (u4 - l0)), .val (.ref r), .val (.int (1 : Int32))] [(.int (u4 - l0)), (.int (2 : Int32))]))
    suffices cmp2 : ∀ (T2064 : State) (h2065 : Heap), Wd p l e room_1 sS m #[(.int p0), (.int p1), (.int p2), (.int p3), (.int p4), (.int p5)] below meth c Z a0 consts_1 (x).cls n0 [] [b1707, b1638] T2064 h2065 14 81 → OStr Z h2065 r tr (FL cs) → Arv Z h2065 b1638 kb1639 .char (5 : Int32) [(.int c0), (.int c1), (.int c2), (.int c3), (.int c4)] (.int (0 : Int32)) → Goes p.tables e below (Endq Z consts_1 sS n0 [] room_1 (fun v _ => v = some (.int 1))) (T2064.setTop (mkF m 526 #[.val (.int p0), .val (.int p1), .val (.int p2), .val (.int p3), .val (.int p4), .val (.int p5), .val (.int n), .val (.ref b1638), .val (.ref b1707), .val (.int e0), .val (.int l0), .val (.int u4), .val (.int (u4 - l0)), .val (.ref r), .val (.int (1 : Int32))] [])) by
      refine X2051.icmp_ge 526 (D at_495) ⟨by decide, by decide⟩ (fun hc2069 => ?_) (fun hc2069 => ?_)
      · show Goes p.tables e below _ (T2049.setTop (mkF m 526 #[.val (.int p0), .val (.int p1), .val (.int p2), .val (.int p3), .val (.int p4), .val (.int p5), .val (.int n), .val (.ref b1638), .val (.ref b1707), .val (.int e0), .val (.int l0), .val (.int u4), .val (.int (u4 - l0)), .val (.ref r), .val (.int (1 : Int32))] []))
        show Goes p.tables e below _ (T2049.setTop (mkF m 526 #[.val (.int p0), .val (.int p1), .val (.int p2), .val (.int p3), .val (.int p4), .val (.int p5), .val (.int n), .val (.ref b1638), .val (.ref b1707), .val (.int e0), .val (.int l0), .val (.int u4), .val (.int (u4 - l0)), .val (.ref r), .val (.int (1 : Int32))] []))
        exact cmp2 _ _  X2051 F2052 F2053 
      · show Goes p.tables e below _ (T2049.setTop (mkF m 498 #[.val (.int p0), .val (.int p1), .val (.int p2), .val (.int p3), .val (.int p4), .val (.int p5), .val (.int n), .val (.ref b1638), .val (.ref b1707), .val (.int e0), .val (.int l0), .val (.int u4), .val (.int (u4 - l0)), .val (.ref r), .val (.int (1 : Int32))] []))
        have M2 := mt_at PL 2 (by decide) hc2069
        refine X2051.iload (x := (1 : Int32)) (D at_498) rfl ?_
        refine X2051.if_eq 523 (D at_500) ⟨by decide, by decide⟩ (fun hc2070 => absurd hc2070 (by decide)) (fun hc2070 => ?_)
        refine X2051.aload (x := (.ref r)) (D at_503) rfl rfl ?_
        refine X2051.iconst (x := (2 : Int32)) (D at_505) rfl ?_
        refine X2051.callv (y := (⟨"java/lang/String", "charAt", "(I)C"⟩ : MethodName)) (a := r) (C := "java/lang/String") [(.int (2 : Int32))] [] (ctCA l Z a0 hw hEL z0 S0 hz0 fm hfm SF r tr (FL cs) 2 _ _ F2052 M2.1) F2052.1 (w 137 rfl) (w 138 rfl) (w 140 rfl) (w 139 rfl) (w 7 rfl) (w 141 rfl) (by decide) (fun _ q => nomatch q) (by decide) 0 (by decide) (by decide) (by decide) (lenOf pd_21 rfl) rfl (Nat.le_of_ble_eq_true rfl) (by rw [hml]; rfl) (D at_506) ?_
        rintro T2071 h2072 _ X2074 K2075 rfl
        have F2076 := F2052.keep K2075 nin0 nin0
        have F2077 := F2053.keep K2075 nin0
        show Goes p.tables e below _ (T2071.setTop (mkF m 509 #[.val (.int p0), .val (.int p1), .val (.int p2), .val (.int p3), .val (.int p4), .val (.int p5), .val (.int n), .val (.ref b1638), .val (.ref b1707), .val (.int e0), .val (.int l0), .val (.int u4), .val (.int (u4 - l0)), .val (.ref r), .val (.int (1 : Int32))] [(.int ((FL cs).getD 2 0))]))
        refine X2074.aload (x := (.ref b1638)) (D at_509) rfl rfl ?_
        refine X2074.iload (x := l0) (D at_511) rfl ?_
        refine X2074.iconst (x := (2 : Int32)) (D at_513) rfl ?_
        refine X2074.iadd (D at_514) ?_
        show Goes p.tables e below _ (T2071.setTop (mkF m 515 #[.val (.int p0), .val (.int p1), .val (.int p2), .val (.int p3), .val (.int p4), .val (.int p5), .val (.int n), .val (.ref b1638), .val (.ref b1707), .val (.int e0), .val (.int l0), .val (.int u4), .val (.int (u4 - l0)), .val (.ref r), .val (.int (1 : Int32))] [(.int (l0 + (2 : Int32))), (.ref b1638), (.int ((FL cs).getD 2 0))]))
        refine X2074.caload (v := (.int ((FL cs).getD 2 0))) F2077 M2.2.1 M2.2.2 (D at_515) ?_
        show Goes p.tables e below _ (T2071.setTop (mkF m 516 #[.val (.int p0), .val (.int p1), .val (.int p2), .val (.int p3), .val (.int p4), .val (.int p5), .val (.int n), .val (.ref b1638), .val (.ref b1707), .val (.int e0), .val (.int l0), .val (.int u4), .val (.int (u4 - l0)), .val (.ref r), .val (.int (1 : Int32))] [(.int ((FL cs).getD 2 0)), (.int ((FL cs).getD 2 0))]))
        refine X2074.icmp_ne 523 (D at_516) ⟨by decide, by decide⟩ (fun hc => (hc rfl).elim) (fun hn2078 => ?_)
        refine X2074.iconst (x := (1 : Int32)) (D at_519) rfl ?_
        refine X2074.goto 524 (D at_520) ⟨by decide, by decide⟩ ?_
        refine X2074.istore #[.val (.int p0), .val (.int p1), .val (.int p2), .val (.int p3), .val (.int p4), .val (.int p5), .val (.int n), .val (.ref b1638), .val (.ref b1707), .val (.int e0), .val (.int l0), .val (.int u4), .val (.int (u4 - l0)), .val (.ref r), .val (.int (1 : Int32))] (D at_524) rfl ?_
        show Goes p.tables e below _ (T2071.setTop (mkF m 526 #[.val (.int p0), .val (.int p1), .val (.int p2), .val (.int p3), .val (.int p4), .val (.int p5), .val (.int n), .val (.ref b1638), .val (.ref b1707), .val (.int e0), .val (.int l0), .val (.int u4), .val (.int (u4 - l0)), .val (.ref r), .val (.int (1 : Int32))] []))
        exact cmp2 _ _  X2074 F2076 F2077 
    intro T2064 h2065  X2066 F2067 F2068 
    refine X2066.iconst (x := (3 : Int32)) (D at_526) rfl ?_
    refine X2066.iload (x := (u4 - l0)) (D at_527) rfl ?_
    show Goes p.tables e below _ (T2064.setTop (mkF m 529 #[.val (.int p0), .val (.int p1), .val (.int p2), .val (.int p3), .val (.int p4), .val (.int p5), .val (.int n), .val (.ref b1638), .val (.ref b1707), .val (.int e0), .val (.int l0), .val (.int u4), .val (.int (u4 - l0)), .val (.ref r), .val (.int (1 : Int32))] [(.int (u4 - l0)), (.int (3 : Int32))]))
    suffices cmp3 : ∀ (T2079 : State) (h2080 : Heap), Wd p l e room_1 sS m #[(.int p0), (.int p1), (.int p2), (.int p3), (.int p4), (.int p5)] below meth c Z a0 consts_1 (x).cls n0 [] [b1707, b1638] T2079 h2080 14 81 → OStr Z h2080 r tr (FL cs) → Arv Z h2080 b1638 kb1639 .char (5 : Int32) [(.int c0), (.int c1), (.int c2), (.int c3), (.int c4)] (.int (0 : Int32)) → Goes p.tables e below (Endq Z consts_1 sS n0 [] room_1 (fun v _ => v = some (.int 1))) (T2079.setTop (mkF m 560 #[.val (.int p0), .val (.int p1), .val (.int p2), .val (.int p3), .val (.int p4), .val (.int p5), .val (.int n), .val (.ref b1638), .val (.ref b1707), .val (.int e0), .val (.int l0), .val (.int u4), .val (.int (u4 - l0)), .val (.ref r), .val (.int (1 : Int32))] [])) by
      refine X2066.icmp_ge 560 (D at_529) ⟨by decide, by decide⟩ (fun hc2084 => ?_) (fun hc2084 => ?_)
      · show Goes p.tables e below _ (T2064.setTop (mkF m 560 #[.val (.int p0), .val (.int p1), .val (.int p2), .val (.int p3), .val (.int p4), .val (.int p5), .val (.int n), .val (.ref b1638), .val (.ref b1707), .val (.int e0), .val (.int l0), .val (.int u4), .val (.int (u4 - l0)), .val (.ref r), .val (.int (1 : Int32))] []))
        show Goes p.tables e below _ (T2064.setTop (mkF m 560 #[.val (.int p0), .val (.int p1), .val (.int p2), .val (.int p3), .val (.int p4), .val (.int p5), .val (.int n), .val (.ref b1638), .val (.ref b1707), .val (.int e0), .val (.int l0), .val (.int u4), .val (.int (u4 - l0)), .val (.ref r), .val (.int (1 : Int32))] []))
        exact cmp3 _ _  X2066 F2067 F2068 
      · show Goes p.tables e below _ (T2064.setTop (mkF m 532 #[.val (.int p0), .val (.int p1), .val (.int p2), .val (.int p3), .val (.int p4), .val (.int p5), .val (.int n), .val (.ref b1638), .val (.ref b1707), .val (.int e0), .val (.int l0), .val (.int u4), .val (.int (u4 - l0)), .val (.ref r), .val (.int (1 : Int32))] []))
        have M3 := mt_at PL 3 (by decide) hc2084
        refine X2066.iload (x := (1 : Int32)) (D at_532) rfl ?_
        refine X2066.if_eq 557 (D at_534) ⟨by decide, by decide⟩ (fun hc2085 => absurd hc2085 (by decide)) (fun hc2085 => ?_)
        refine X2066.aload (x := (.ref r)) (D at_537) rfl rfl ?_
        refine X2066.iconst (x := (3 : Int32)) (D at_539) rfl ?_
        refine X2066.callv (y := (⟨"java/lang/String", "charAt", "(I)C"⟩ : MethodName)) (a := r) (C := "java/lang/String") [(.int (3 : Int32))] [] (ctCA l Z a0 hw hEL z0 S0 hz0 fm hfm SF r tr (FL cs) 3 _ _ F2067 M3.1) F2067.1 (w 137 rfl) (w 138 rfl) (w 140 rfl) (w 139 rfl) (w 7 rfl) (w 141 rfl) (by decide) (fun _ q => nomatch q) (by decide) 0 (by decide) (by decide) (by decide) (lenOf pd_21 rfl) rfl (Nat.le_of_ble_eq_true rfl) (by rw [hml]; rfl) (D at_540) ?_
        rintro T2086 h2087 _ X2089 K2090 rfl
        have F2091 := F2067.keep K2090 nin0 nin0
        have F2092 := F2068.keep K2090 nin0
        show Goes p.tables e below _ (T2086.setTop (mkF m 543 #[.val (.int p0), .val (.int p1), .val (.int p2), .val (.int p3), .val (.int p4), .val (.int p5), .val (.int n), .val (.ref b1638), .val (.ref b1707), .val (.int e0), .val (.int l0), .val (.int u4), .val (.int (u4 - l0)), .val (.ref r), .val (.int (1 : Int32))] [(.int ((FL cs).getD 3 0))]))
        refine X2089.aload (x := (.ref b1638)) (D at_543) rfl rfl ?_
        refine X2089.iload (x := l0) (D at_545) rfl ?_
        refine X2089.iconst (x := (3 : Int32)) (D at_547) rfl ?_
        refine X2089.iadd (D at_548) ?_
        show Goes p.tables e below _ (T2086.setTop (mkF m 549 #[.val (.int p0), .val (.int p1), .val (.int p2), .val (.int p3), .val (.int p4), .val (.int p5), .val (.int n), .val (.ref b1638), .val (.ref b1707), .val (.int e0), .val (.int l0), .val (.int u4), .val (.int (u4 - l0)), .val (.ref r), .val (.int (1 : Int32))] [(.int (l0 + (3 : Int32))), (.ref b1638), (.int ((FL cs).getD 3 0))]))
        refine X2089.caload (v := (.int ((FL cs).getD 3 0))) F2092 M3.2.1 M3.2.2 (D at_549) ?_
        show Goes p.tables e below _ (T2086.setTop (mkF m 550 #[.val (.int p0), .val (.int p1), .val (.int p2), .val (.int p3), .val (.int p4), .val (.int p5), .val (.int n), .val (.ref b1638), .val (.ref b1707), .val (.int e0), .val (.int l0), .val (.int u4), .val (.int (u4 - l0)), .val (.ref r), .val (.int (1 : Int32))] [(.int ((FL cs).getD 3 0)), (.int ((FL cs).getD 3 0))]))
        refine X2089.icmp_ne 557 (D at_550) ⟨by decide, by decide⟩ (fun hc => (hc rfl).elim) (fun hn2093 => ?_)
        refine X2089.iconst (x := (1 : Int32)) (D at_553) rfl ?_
        refine X2089.goto 558 (D at_554) ⟨by decide, by decide⟩ ?_
        refine X2089.istore #[.val (.int p0), .val (.int p1), .val (.int p2), .val (.int p3), .val (.int p4), .val (.int p5), .val (.int n), .val (.ref b1638), .val (.ref b1707), .val (.int e0), .val (.int l0), .val (.int u4), .val (.int (u4 - l0)), .val (.ref r), .val (.int (1 : Int32))] (D at_558) rfl ?_
        show Goes p.tables e below _ (T2086.setTop (mkF m 560 #[.val (.int p0), .val (.int p1), .val (.int p2), .val (.int p3), .val (.int p4), .val (.int p5), .val (.int n), .val (.ref b1638), .val (.ref b1707), .val (.int e0), .val (.int l0), .val (.int u4), .val (.int (u4 - l0)), .val (.ref r), .val (.int (1 : Int32))] []))
        exact cmp3 _ _  X2089 F2091 F2092 
    intro T2079 h2080  X2081 F2082 F2083 
    refine X2081.iconst (x := (4 : Int32)) (D at_560) rfl ?_
    refine X2081.iload (x := (u4 - l0)) (D at_561) rfl ?_
    show Goes p.tables e below _ (T2079.setTop (mkF m 563 #[.val (.int p0), .val (.int p1), .val (.int p2), .val (.int p3), .val (.int p4), .val (.int p5), .val (.int n), .val (.ref b1638), .val (.ref b1707), .val (.int e0), .val (.int l0), .val (.int u4), .val (.int (u4 - l0)), .val (.ref r), .val (.int (1 : Int32))] [(.int (u4 - l0)), (.int (4 : Int32))]))
    suffices cmp4 : ∀ (T2094 : State) (h2095 : Heap), Wd p l e room_1 sS m #[(.int p0), (.int p1), (.int p2), (.int p3), (.int p4), (.int p5)] below meth c Z a0 consts_1 (x).cls n0 [] [b1707, b1638] T2094 h2095 14 81 → OStr Z h2095 r tr (FL cs) → Arv Z h2095 b1638 kb1639 .char (5 : Int32) [(.int c0), (.int c1), (.int c2), (.int c3), (.int c4)] (.int (0 : Int32)) → Goes p.tables e below (Endq Z consts_1 sS n0 [] room_1 (fun v _ => v = some (.int 1))) (T2094.setTop (mkF m 594 #[.val (.int p0), .val (.int p1), .val (.int p2), .val (.int p3), .val (.int p4), .val (.int p5), .val (.int n), .val (.ref b1638), .val (.ref b1707), .val (.int e0), .val (.int l0), .val (.int u4), .val (.int (u4 - l0)), .val (.ref r), .val (.int (1 : Int32))] [])) by
      refine X2081.icmp_ge 594 (D at_563) ⟨by decide, by decide⟩ (fun hc2099 => ?_) (fun hc2099 => ?_)
      · show Goes p.tables e below _ (T2079.setTop (mkF m 594 #[.val (.int p0), .val (.int p1), .val (.int p2), .val (.int p3), .val (.int p4), .val (.int p5), .val (.int n), .val (.ref b1638), .val (.ref b1707), .val (.int e0), .val (.int l0), .val (.int u4), .val (.int (u4 - l0)), .val (.ref r), .val (.int (1 : Int32))] []))
        show Goes p.tables e below _ (T2079.setTop (mkF m 594 #[.val (.int p0), .val (.int p1), .val (.int p2), .val (.int p3), .val (.int p4), .val (.int p5), .val (.int n), .val (.ref b1638), .val (.ref b1707), .val (.int e0), .val (.int l0), .val (.int u4), .val (.int (u4 - l0)), .val (.ref r), .val (.int (1 : Int32))] []))
        exact cmp4 _ _  X2081 F2082 F2083 
      · show Goes p.tables e below _ (T2079.setTop (mkF m 566 #[.val (.int p0), .val (.int p1), .val (.int p2), .val (.int p3), .val (.int p4), .val (.int p5), .val (.int n), .val (.ref b1638), .val (.ref b1707), .val (.int e0), .val (.int l0), .val (.int u4), .val (.int (u4 - l0)), .val (.ref r), .val (.int (1 : Int32))] []))
        have M4 := mt_at PL 4 (by decide) hc2099
        refine X2081.iload (x := (1 : Int32)) (D at_566) rfl ?_
        refine X2081.if_eq 591 (D at_568) ⟨by decide, by decide⟩ (fun hc2100 => absurd hc2100 (by decide)) (fun hc2100 => ?_)
        refine X2081.aload (x := (.ref r)) (D at_571) rfl rfl ?_
        refine X2081.iconst (x := (4 : Int32)) (D at_573) rfl ?_
        refine X2081.callv (y := (⟨"java/lang/String", "charAt", "(I)C"⟩ : MethodName)) (a := r) (C := "java/lang/String") [(.int (4 : Int32))] [] (ctCA l Z a0 hw hEL z0 S0 hz0 fm hfm SF r tr (FL cs) 4 _ _ F2082 M4.1) F2082.1 (w 137 rfl) (w 138 rfl) (w 140 rfl) (w 139 rfl) (w 7 rfl) (w 141 rfl) (by decide) (fun _ q => nomatch q) (by decide) 0 (by decide) (by decide) (by decide) (lenOf pd_21 rfl) rfl (Nat.le_of_ble_eq_true rfl) (by rw [hml]; rfl) (D at_574) ?_
        rintro T2101 h2102 _ X2104 K2105 rfl
        have F2106 := F2082.keep K2105 nin0 nin0
        have F2107 := F2083.keep K2105 nin0
        show Goes p.tables e below _ (T2101.setTop (mkF m 577 #[.val (.int p0), .val (.int p1), .val (.int p2), .val (.int p3), .val (.int p4), .val (.int p5), .val (.int n), .val (.ref b1638), .val (.ref b1707), .val (.int e0), .val (.int l0), .val (.int u4), .val (.int (u4 - l0)), .val (.ref r), .val (.int (1 : Int32))] [(.int ((FL cs).getD 4 0))]))
        refine X2104.aload (x := (.ref b1638)) (D at_577) rfl rfl ?_
        refine X2104.iload (x := l0) (D at_579) rfl ?_
        refine X2104.iconst (x := (4 : Int32)) (D at_581) rfl ?_
        refine X2104.iadd (D at_582) ?_
        show Goes p.tables e below _ (T2101.setTop (mkF m 583 #[.val (.int p0), .val (.int p1), .val (.int p2), .val (.int p3), .val (.int p4), .val (.int p5), .val (.int n), .val (.ref b1638), .val (.ref b1707), .val (.int e0), .val (.int l0), .val (.int u4), .val (.int (u4 - l0)), .val (.ref r), .val (.int (1 : Int32))] [(.int (l0 + (4 : Int32))), (.ref b1638), (.int ((FL cs).getD 4 0))]))
        refine X2104.caload (v := (.int ((FL cs).getD 4 0))) F2107 M4.2.1 M4.2.2 (D at_583) ?_
        show Goes p.tables e below _ (T2101.setTop (mkF m 584 #[.val (.int p0), .val (.int p1), .val (.int p2), .val (.int p3), .val (.int p4), .val (.int p5), .val (.int n), .val (.ref b1638), .val (.ref b1707), .val (.int e0), .val (.int l0), .val (.int u4), .val (.int (u4 - l0)), .val (.ref r), .val (.int (1 : Int32))] [(.int ((FL cs).getD 4 0)), (.int ((FL cs).getD 4 0))]))
        refine X2104.icmp_ne 591 (D at_584) ⟨by decide, by decide⟩ (fun hc => (hc rfl).elim) (fun hn2108 => ?_)
        refine X2104.iconst (x := (1 : Int32)) (D at_587) rfl ?_
        refine X2104.goto 592 (D at_588) ⟨by decide, by decide⟩ ?_
        refine X2104.istore #[.val (.int p0), .val (.int p1), .val (.int p2), .val (.int p3), .val (.int p4), .val (.int p5), .val (.int n), .val (.ref b1638), .val (.ref b1707), .val (.int e0), .val (.int l0), .val (.int u4), .val (.int (u4 - l0)), .val (.ref r), .val (.int (1 : Int32))] (D at_592) rfl ?_
        show Goes p.tables e below _ (T2101.setTop (mkF m 594 #[.val (.int p0), .val (.int p1), .val (.int p2), .val (.int p3), .val (.int p4), .val (.int p5), .val (.int n), .val (.ref b1638), .val (.ref b1707), .val (.int e0), .val (.int l0), .val (.int u4), .val (.int (u4 - l0)), .val (.ref r), .val (.int (1 : Int32))] []))
        exact cmp4 _ _  X2104 F2106 F2107 
    intro T2094 h2095  X2096 F2097 F2098 
    refine X2096.iload (x := (1 : Int32)) (D at_594) rfl ?_
    exact X2096.reti hret (by simp) hlk (D at_596) (by decide) (by decide) (rfl)
  · show Goes p.tables e below _ (T0.setTop (mkF m 9 #[.val (.int p0), .val (.int p1), .val (.int p2), .val (.int p3), .val (.int p4), .val (.int p5), .unset, .unset, .unset, .unset, .unset, .unset, .unset, .unset, .unset] []))
    refine X0.anull (D at_9) ?_
    refine X0.calls [.null] [] (ctFLn l Z a0 hw hEL z0 S0 hz0 _ _) (w 29 rfl) (w 30 rfl) (w 31 rfl) (w 32 rfl) (by decide) (fun _ q => nomatch q) (by decide) 0 (by decide) (by decide) (by decide) (lenOf pd_20 rfl) rfl (Nat.le_of_ble_eq_true rfl) (by rw [hml]; rfl) (D at_10) ?_
    rintro T1624 h1625 _ X1627 K1628 ⟨r, tr, rfl, O9⟩
    show Goes p.tables e below _ (T1624.setTop (mkF m 13 #[.val (.int p0), .val (.int p1), .val (.int p2), .val (.int p3), .val (.int p4), .val (.int p5), .unset, .unset, .unset, .unset, .unset, .unset, .unset, .unset, .unset] [(.ref r)]))
    refine X1627.astore #[.val (.int p0), .val (.int p1), .val (.int p2), .val (.int p3), .val (.int p4), .val (.int p5), .val (.ref r), .unset, .unset, .unset, .unset, .unset, .unset, .unset, .unset] (D at_13) rfl rfl ?_
    refine X1627.aload (x := (.ref r)) (D at_15) rfl rfl ?_
    refine X1627.ifnullR (D at_17) ?_
    refine X1627.aload (x := (.ref r)) (D at_20) rfl rfl ?_
    refine X1627.callv (y := (⟨"java/lang/String", "length", "()I"⟩ : MethodName)) (a := r) (C := "java/lang/String") [] [] (ctLen l Z a0 hw hEL z0 S0 hz0 r tr [] _ _ O9) O9.1 (w 85 rfl) (w 50 rfl) (w 52 rfl) (w 51 rfl) (w 7 rfl) (w 53 rfl) (by decide) (fun _ q => nomatch q) (by decide) 0 (by decide) (by decide) (by decide) (lenOf pd_7 rfl) rfl (Nat.le_of_ble_eq_true rfl) (by rw [hml]; rfl) (D at_22) ?_
    rintro T1629 h1630 _ X1632 K1633 rfl
    have F1634 := O9.keep K1633 nin0 nin0
    show Goes p.tables e below _ (T1629.setTop (mkF m 25 #[.val (.int p0), .val (.int p1), .val (.int p2), .val (.int p3), .val (.int p4), .val (.int p5), .val (.ref r), .unset, .unset, .unset, .unset, .unset, .unset, .unset, .unset] [(.int (0 : Int32))]))
    refine X1632.if_ne 32 (D at_25) ⟨by decide, by decide⟩ (fun hc1635 => absurd hc1635 (by decide)) (fun hc1635 => ?_)
    refine X1632.iconst (x := (1 : Int32)) (D at_28) rfl ?_
    refine X1632.goto 33 (D at_29) ⟨by decide, by decide⟩ ?_
    exact X1632.reti hret (by simp) hlk (D at_33) (by decide) (by decide) (rfl)
theorem tab_at : ∀ k : Fin 256, jdkStatics_1[17 + k.val]? = some (Jvm.Cond.eq (.elem (.static "java/lang/CharacterDataLatin1" "A" "[I") (.int (Int32.ofNat k.val))) (.int (pinA.getD k.val 0))) := by decide +kernel
set_option maxRecDepth 65536 in
set_option maxHeartbeats 40000000 in
theorem comes_1 {Post : Tables → Env → Array Value → State → Outcome → State → Prop} (hpost : ∀ tb e args s v u, (limb_1_1.after args s (.returned v) u = true ∧ limb_1_2.after args s (.returned v) u = true ∧ True) → ReturnedEndW s (.returned v) u (Jvm.fieldLocs frame_1_writes args s ++ Jvm.arrayLocs frame_1_arrays args s ++ Jvm.staticLocs frame_1_statics s) room_1.cells room_1.slots → Post tb e args s (.returned v) u) :
    ArmFor flags0 classFile x code maxLocals ret World_1 tables_1 room_1 Calls_1 rest_1 Pre_1 Post := by
  intro l hfl _ _ p e ha hc hk s m args below hf hA hF happ hP
  obtain ⟨hcalls, hrest, hpre⟩ := hP
  obtain ⟨-, -, -, hnamed, -, -, -, hat⟩ := (Spec.applies_iff hf).mp happ
  obtain ⟨hg, hn⟩ := and_e (Cond.before_iff.mp (show (Jvm.Cond.and given_1 narrow_1).before args s = true from hpre))
  obtain ⟨g0, hg0⟩ := and_e hg
  obtain ⟨g1, hg1⟩ := and_e hg0
  obtain ⟨g2, hg2⟩ := and_e hg1
  obtain ⟨g3, hg3⟩ := and_e hg2
  obtain ⟨g4, hg4⟩ := and_e hg3
  obtain ⟨g5, hg5⟩ := and_e hg4
  obtain ⟨w0, w1, w2, w3, w4, w5, rfl⟩ : ∃ w0 w1 w2 w3 w4 w5 : Value, args = #[w0, w1, w2, w3, w4, w5] := by
    have hs : args.size = 6 := by simpa [Cond.value, given_1] using g0
    obtain ⟨L⟩ := args
    match L, hs with
    | [w0, w1, w2, w3, w4, w5], _ => exact ⟨w0, w1, w2, w3, w4, w5, rfl⟩
  have hw := fun d (hd : d ∈ tables_1) => atoms_spec (ws := Jvm.Cond.code x code maxLocals ret :: tables_1) hat d (List.mem_cons_of_mem _ hd)
  have hfit : Fit s := fun {y c} hc i hi => by
    obtain ⟨ha, rfl⟩ := Array.getElem?_eq_some_iff.mp hc
    have q := List.all_eq_true.mp ((Array.all_eq_true_iff_forall_mem.mp hF) _ (Array.getElem_mem ha)) i (List.mem_range.mpr hi)
    simpa [Array.getElem?_eq_getElem hi] using q
  obtain ⟨hsets, hown0⟩ := atoms_of _ (rest_1_c_eq ▸ (show rest_1_c.before _ s = true from hrest))
  obtain ⟨p0, ep0⟩ := is_v g1
  obtain rfl : w0 = (.int p0) := Option.some.inj ep0
  obtain ⟨p1, ep1⟩ := is_v g2
  obtain rfl : w1 = (.int p1) := Option.some.inj ep1
  obtain ⟨p2, ep2⟩ := is_v g3
  obtain rfl : w2 = (.int p2) := Option.some.inj ep2
  obtain ⟨p3, ep3⟩ := is_v g4
  obtain rfl : w3 = (.int p3) := Option.some.inj ep3
  obtain ⟨p4, ep4⟩ := is_v g5
  obtain rfl : w4 = (.int p4) := Option.some.inj ep4
  obtain ⟨p5, ep5⟩ := is_v hg5
  obtain rfl : w5 = (.int p5) := Option.some.inj ep5
  obtain ⟨z0, ez0⟩ := is_v (Cond.before_iff.mp (hsets (Jvm.Cond.isInt (.static "java/lang/String" "COMPACT_STRINGS" "Z")) (by decide +kernel)))
  have S0 : Sta s s.heap "java/lang/String" "COMPACT_STRINGS" "Z" (.int z0) := Sta.start ez0 (Or.inl (hsets (Jvm.Cond.initializedFor "java/lang/String" "COMPACT_STRINGS" "Z") (by decide +kernel)))
  have hcw := hsets (Jvm.Cond.not (.eq (.static "java/lang/String" "COMPACT_STRINGS" "Z") (.int (0 : Int32)))) (by decide +kernel)
  have hz0 : ¬ z0 = 0 := by
    have q1 := not_v (Cond.before_iff.mp hcw)
    intro q; subst q
    rw [eq_i ez0 (Term.int_eval (0 : Int32)) rfl] at q1; cases q1
  have hEL := hEL_of (Z := s) hw
  have H0 : CHv s consts_1 s.vm s.heap := CHv.start hEL (fun q hq => hcalls.1 q hq) hcw (hw _ (by decide +kernel)) (hw _ (by decide +kernel))
  obtain ⟨fm, efm, hfm⟩ := isR_v (Cond.before_iff.mp (hsets (Jvm.Cond.isRef (.static "jdk/internal/util/Preconditions" "SIOOBE_FORMATTER" "Ljava/util/function/BiFunction;")) (by decide +kernel)))
  have SF : Sta s s.heap "jdk/internal/util/Preconditions" "SIOOBE_FORMATTER" "Ljava/util/function/BiFunction;" fm := Sta.start efm (Or.inl (hsets (Jvm.Cond.initializedFor "jdk/internal/util/Preconditions" "SIOOBE_FORMATTER" "Ljava/util/function/BiFunction;") (by decide +kernel)))
  have xci := Cond.before_iff.mp (hsets (Jvm.Cond.exactly (.static "java/lang/CharacterDataLatin1" "instance" "Ljava/lang/CharacterDataLatin1;") "java/lang/CharacterDataLatin1") (by decide +kernel))
  obtain ⟨ci, eci⟩ := exa_v xci
  have IC := Exa.start eci xci
  have SI : Sta s s.heap "java/lang/CharacterDataLatin1" "instance" "Ljava/lang/CharacterDataLatin1;" (.ref ci) := Sta.start eci (Or.inl (hsets (Jvm.Cond.initializedFor "java/lang/CharacterDataLatin1" "instance" "Ljava/lang/CharacterDataLatin1;") (by decide +kernel)))
  obtain ⟨aA, eaA⟩ := exa_v (Cond.before_iff.mp (hsets (Jvm.Cond.exactly (.static "java/lang/CharacterDataLatin1" "A" "[I") "[I") (by decide +kernel)))
  have ST : Sta s s.heap "java/lang/CharacterDataLatin1" "A" "[I" (.ref aA) := Sta.start eaA (Or.inl (hsets (Jvm.Cond.initializedFor "java/lang/CharacterDataLatin1" "A" "[I") (by decide +kernel)))
  obtain ⟨cA, AA⟩ := Arr.start eaA (Cond.before_iff.mp (hsets (Jvm.Cond.arrayOf (.static "java/lang/CharacterDataLatin1" "A" "[I") .int) (by decide +kernel)))
  have hlenA := eqv_i (Term.int_eval (256 : Int32)) (Cond.before_iff.mp (hsets (Jvm.Cond.eq (.length (.static "java/lang/CharacterDataLatin1" "A" "[I")) (.int (256 : Int32))) (by decide +kernel)))
  have TA : TabW s aA cA := by
    obtain ⟨x1, c1, e1, e2, e3⟩ := Term.length_spec hlenA
    obtain rfl : aA = x1 := Value.ref.inj (Option.some.inj (eaA.symm.trans e1))
    obtain rfl : cA = c1 := Option.some.inj (AA.1.symm.trans (State.arrayAt?_spec e2).1)
    have h31 := Jvm.Free.SBG.length_lt e1 e2 hlenA
    refine ⟨AA, ?_, fun k hk => ?_⟩
    · have q := Option.some.inj (hlenA.symm.trans (len_f e1 e2 h31))
      have q2 : Int32.ofNat cA.slots.size = Int32.ofNat 256 := (Value.int.inj q).symm
      exact (o32eq h31 (by decide)).mp q2
    · have q := eqv_i (Term.int_eval _) (Cond.before_iff.mp (hsets _ (List.mem_of_getElem? (tab_at ⟨k, hk⟩))))
      have q2 := (elem_in q e1 (Term.int_eval _) AA.1).2
      rw [o32tn (by omega)] at q2; exact q2
  obtain ⟨n, o, h1, h2, h3, _, L, rfl, ⟨rfl, N, -, -⟩, -, hq⟩ := ctLaw l s _ hw hEL z0 S0 hz0 fm hfm SF ci aA cA SI IC ST TA p0 p1 p2 p3 p4 p5  s.heap s.heap.size  p e ha hc hk s m _ below hf ((Spec.applies_iff_loose hf).mp happ).1 ⟨rfl, State.Warmed39.refl s, rfl, H0, Old.start s, fun _ q => nomatch q⟩ trivial
  exact ⟨n, _, h1, h2, h3, hpost _ _ _ _ _ _ ⟨Cond.after_iff.mpr rfl, Cond.after_iff.mpr (eq_i res_at (Term.int_eval (1)) rfl), trivial⟩ ⟨hq.1, hq.2.1, hq.2.2.1, (hq.2.2.2.sift fun y hy => Or.inr (N y hy))⟩⟩
theorem main_1_1 : Claimed_1_1 := comes_1 fun _ _ _ _ _ _ h hF => ⟨h.1, hF⟩
theorem main_1_2 : Claimed_1_2 := comes_1 fun _ _ _ _ _ _ h hF => ⟨h.2.1, hF⟩
end Jvm.Pilot.@@N@@
namespace Jvm.Pilot.@@N@@
open Jvm Jvm.ClassFile Sem Op Lib Jvm.Free Jvm.Stand Jvm.Pilot.@@N@@.Jvm.D
/-! MADE BY PROGRAM (witnessworld.py) out of the Statement's table words and the real class files: 27 classes; the members and pool entries that the words name. The judged class is class 1, her method 4. -/
namespace start1
open Jvm.ClassFile
def u (s : String) : CpInfo := .utf8 (stringToUtf16 s)
/-- a pool by its gaps: so many unusable entries, then the entry; so many at the end -/
def gap : Nat → List CpInfo → List CpInfo
  | 0, r => r
  | n + 1, r => .unusable :: gap n r
def poolList (es : List (Nat × CpInfo)) (last : Nat) : List CpInfo := es.foldr (fun e r => gap e.1 (e.2 :: r)) (gap last [])
def pool (es : List (Nat × CpInfo)) (last : Nat) : Array CpInfo := ⟨poolList es last⟩
def fileOf (pool : Array CpInfo) (this : Nat) (attrs : Array Attribute := #[]) (ms : Array MethodInfo := #[]) (fl : Nat := 33) (sup : Nat := 0) (ifs : Array Nat := #[]) (fds : Array FieldInfo := #[]) : ClassFile where
  minorVersion := 0
  majorVersion := 65
  constantPool := pool
  accessFlags := fl
  thisClass := this
  superClass := sup
  interfaces := ifs
  fields := fds
  methods := ms
  attributes := attrs
def plain (name : String) (sup : Option ClassId) : Class where
  name := name
  kind := .ordinary
  loader := none
  accessFlags := 33
  super := sup
  interfaces := #[]
  cf := none
  fields := #[]
  methods := #[]
  instanceTypes := #[]
  staticTypes := #[]
  resolved := #[]
  callSites := []
  init := .initialized
  statics := none
  mirror := none

def pool0 : Array CpInfo := pool [(5, u "<init>"), (0, u "()V"), (1, .class_ 10), (1, u "java/lang/Object")] 113

def k0c0 : Code := { maxStack := 0, maxLocals := 1, code := object_method_1_code, exceptionTable := #[], attributes := #[] }
def k0m0 : Method := { name := "<init>", desc := "()V", sig := { parameters := [], returnType := none }, accessFlags := 1, code := some k0c0 }
/-- java/lang/Object -/
def k0 : Class := { plain "java/lang/Object" none with
  accessFlags := 33
  interfaces := #[]
  cf := some (fileOf pool0 8 #[] #[{ accessFlags := 1, nameIndex := 5, descriptorIndex := 6, attributes := #[] }] 33 0 #[] #[])
  fields := #[]
  methods := #[k0m0]
  instanceTypes := #[]
  staticTypes := #[]
  resolved := Array.replicate 124 none
  statics := none }

def pool1 : Array CpInfo := pool [(2, .class_ 4), (1, u "java/lang/Object"), (0, u "<init>"), (0, u "()V"), (0, .methodref 8 9), (0, .class_ 10), (0, .nameAndType 11 12), (0, u "com/example/abox/abox/InputException"), (0, u "firstLine"), (0, u "(Ljava/lang/String;)Ljava/lang/String;"), (0, .methodref 14 15), (0, .class_ 16), (0, .nameAndType 17 18), (0, u "java/lang/String"), (0, u "length"), (0, u "()I"), (0, .methodref 20 21), (0, .class_ 22), (0, .nameAndType 23 24), (0, u "com/example/abox/abox/InputExceptionFirstLinePinLaw"), (0, u "draw"), (0, u "(I)C"), (0, .methodref 20 26), (0, .nameAndType 27 28), (0, u "pick"), (0, u "(I[C)[C"), (0, .methodref 14 30), (0, .nameAndType 5 31), (0, u "([C)V"), (0, .methodref 20 33), (0, .nameAndType 34 35), (0, u "ws"), (0, u "(C)Z"), (0, .methodref 14 37), (0, .nameAndType 38 24), (0, u "charAt"), (3, u "law"), (0, u "(IIIIII)Z")] 4

def k1m0 : Method := { name := "<init>", desc := "()V", sig := { parameters := [], returnType := none }, accessFlags := 1, code := none }
def k1c1 : Code := { maxStack := 2, maxLocals := 1, code := method_2_code, exceptionTable := #[], attributes := #[] }
def k1m1 : Method := { name := "ws", desc := "(C)Z", sig := { parameters := [.char], returnType := some .boolean }, accessFlags := 10, code := some k1c1 }
def k1c2 : Code := { maxStack := 2, maxLocals := 2, code := method_3_code, exceptionTable := #[], attributes := #[] }
def k1m2 : Method := { name := "draw", desc := "(I)C", sig := { parameters := [.int], returnType := some .char }, accessFlags := 10, code := some k1c2 }
def k1c3 : Code := { maxStack := 5, maxLocals := 2, code := method_4_code, exceptionTable := #[], attributes := #[] }
def k1m3 : Method := { name := "pick", desc := "(I[C)[C", sig := { parameters := [.int, (.array .char)], returnType := some (.array .char) }, accessFlags := 10, code := some k1c3 }
def k1c4 : Code := { maxStack := 4, maxLocals := 15, code := code, exceptionTable := #[], attributes := #[] }
def k1m4 : Method := { name := "law", desc := "(IIIIII)Z", sig := { parameters := [.int, .int, .int, .int, .int, .int], returnType := some .boolean }, accessFlags := 9, code := some k1c4 }
/-- com/example/abox/abox/InputExceptionFirstLinePinLaw -/
def k1 : Class := { plain "com/example/abox/abox/InputExceptionFirstLinePinLaw" (some 0) with
  accessFlags := 49
  interfaces := #[]
  cf := some (fileOf pool1 20 #[] #[{ accessFlags := 1, nameIndex := 5, descriptorIndex := 6, attributes := #[] }, { accessFlags := 10, nameIndex := 34, descriptorIndex := 35, attributes := #[] }, { accessFlags := 10, nameIndex := 23, descriptorIndex := 24, attributes := #[] }, { accessFlags := 10, nameIndex := 27, descriptorIndex := 28, attributes := #[] }, { accessFlags := 9, nameIndex := 42, descriptorIndex := 43, attributes := #[] }] 49 2 #[] #[])
  fields := #[]
  methods := #[k1m0, k1m1, k1m2, k1m3, k1m4]
  instanceTypes := #[]
  staticTypes := #[]
  resolved := Array.replicate 48 none
  statics := none }

def pool2 : Array CpInfo := pool [(1, .class_ 2), (0, u "java/io/Serializable"), (0, .class_ 4), (0, u "java/lang/Object")] 2

/-- java/io/Serializable -/
def k2 : Class := { plain "java/io/Serializable" (some 0) with
  accessFlags := 1537
  interfaces := #[]
  cf := some (fileOf pool2 1 #[] #[] 1537 3 #[] #[])
  fields := #[]
  methods := #[]
  instanceTypes := #[]
  staticTypes := #[]
  resolved := Array.replicate 7 none
  statics := none }

def pool3 : Array CpInfo := pool [(1, .class_ 2), (0, u "java/lang/Comparable"), (0, .class_ 4), (0, u "java/lang/Object")] 7

/-- java/lang/Comparable -/
def k3 : Class := { plain "java/lang/Comparable" (some 0) with
  accessFlags := 1537
  interfaces := #[]
  cf := some (fileOf pool3 1 #[] #[] 1537 3 #[] #[])
  fields := #[]
  methods := #[]
  instanceTypes := #[]
  staticTypes := #[]
  resolved := Array.replicate 12 none
  statics := none }

def pool4 : Array CpInfo := pool [(2, .class_ 4), (1, u "java/lang/CharSequence"), (42, .class_ 48), (0, u "java/lang/CharSequence$1CodePointIterator"), (10, .class_ 60), (0, u "java/lang/CharSequence$1CharIterator"), (5, .class_ 67), (0, u "java/lang/Object")] 63

/-- java/lang/CharSequence -/
def k4 : Class := { plain "java/lang/CharSequence" (some 0) with
  accessFlags := 1537
  interfaces := #[]
  cf := some (fileOf pool4 2 #[.nestMembers #[47, 59]] #[] 1537 66 #[] #[])
  fields := #[]
  methods := #[]
  instanceTypes := #[]
  staticTypes := #[]
  resolved := Array.replicate 131 none
  statics := none }

def pool5 : Array CpInfo := pool [(1, .class_ 2), (0, u "java/lang/constant/Constable"), (0, .class_ 4), (0, u "java/lang/Object")] 6

/-- java/lang/constant/Constable -/
def k5 : Class := { plain "java/lang/constant/Constable" (some 0) with
  accessFlags := 1537
  interfaces := #[]
  cf := some (fileOf pool5 1 #[] #[] 1537 3 #[] #[])
  fields := #[]
  methods := #[]
  instanceTypes := #[]
  staticTypes := #[]
  resolved := Array.replicate 11 none
  statics := none }

def pool6 : Array CpInfo := pool [(1, .class_ 2), (0, u "java/lang/constant/ConstantDesc"), (0, .class_ 4), (0, u "java/lang/Object")] 32

/-- java/lang/constant/ConstantDesc -/
def k6 : Class := { plain "java/lang/constant/ConstantDesc" (some 0) with
  accessFlags := 1537
  interfaces := #[]
  cf := some (fileOf pool6 1 #[] #[] 1537 3 #[] #[])
  fields := #[]
  methods := #[]
  instanceTypes := #[]
  staticTypes := #[]
  resolved := Array.replicate 37 none
  statics := none }

def pool7 : Array CpInfo := pool [(1, .methodref 2 3), (0, .class_ 4), (0, .nameAndType 5 6), (0, u "java/lang/Object"), (0, u "<init>"), (0, u "()V"), (0, .string 8), (0, u ""), (0, .fieldref 10 11), (0, .class_ 12), (0, .nameAndType 13 14), (0, u "java/lang/String"), (0, u "value"), (0, u "[B"), (0, .fieldref 10 16), (0, .nameAndType 17 18), (0, u "coder"), (0, u "B"), (2, u "hash"), (0, u "I"), (2, u "hashIsZero"), (0, u "Z"), (0, .methodref 10 28), (0, .nameAndType 5 29), (0, u "([CIILjava/lang/Void;)V"), (8, .fieldref 10 39), (0, .nameAndType 40 26), (0, u "COMPACT_STRINGS"), (1, .class_ 44), (1, u "java/lang/StringUTF16"), (0, u "compress"), (1, .methodref 42 48), (0, .nameAndType 49 50), (0, u "coderFromArrayLen"), (0, u "([BI)B"), (56, .class_ 109), (1, u "java/lang/StringLatin1"), (32, u "()Z"), (34, .methodref 42 178), (0, .nameAndType 45 179), (0, u "([CII)[B"), (31, u "([BB)V"), (122, u "()I"), (0, .methodref 10 336), (0, .nameAndType 17 337), (0, u "()B"), (25, u "([BI)C"), (27, u "(II)V"), (35, u "(I)C"), (36, u "()Ljava/lang/String;"), (27, .methodref 10 493), (0, .nameAndType 494 142), (0, u "isLatin1"), (0, .methodref 107 496), (0, .nameAndType 497 363), (0, u "charAt"), (3, u "checkIndex"), (3, .methodref 10 506), (0, .nameAndType 507 334), (0, u "length"), (5, u "checkFromToIndex"), (7, .methodref 10 522), (0, .nameAndType 523 524), (0, u "checkBoundsBeginEnd"), (0, u "(III)V"), (50, .class_ 576), (0, u "java/lang/CharSequence"), (22, u "CASE_INSENSITIVE_ORDER"), (0, u "Ljava/util/Comparator;"), (32, .methodref 10 634), (0, .nameAndType 635 636), (0, u "indexOf"), (0, u "(II)I"), (0, .methodref 107 638), (0, .nameAndType 635 639), (0, u "([BIII)I"), (43, u "substring"), (0, u "(II)Ljava/lang/String;"), (0, .methodref 107 686), (0, .nameAndType 687 688), (0, u "newString"), (0, u "([BII)Ljava/lang/String;"), (76, u "(I)I"), (96, u "([B)Ljava/lang/String;"), (1, .methodref 107 865), (0, .nameAndType 866 862), (0, u "strip"), (143, u "([C)V"), (42, .fieldref 1054 1055), (0, .class_ 1056), (0, .nameAndType 1057 1058), (0, u "jdk/internal/util/Preconditions"), (0, u "SIOOBE_FORMATTER"), (0, u "Ljava/util/function/BiFunction;"), (0, .methodref 1054 1060), (0, .nameAndType 501 1061), (0, u "(IILjava/util/function/BiFunction;)I"), (0, .methodref 1054 1063), (0, .nameAndType 513 1064), (0, u "(IIILjava/util/function/BiFunction;)I"), (36, u "serialPersistentFields"), (0, u "[Ljava/io/ObjectStreamField;"), (0, .class_ 1104), (0, u "java/lang/String$CaseInsensitiveComparator"), (1, .class_ 1107), (0, u "java/io/Serializable"), (0, .class_ 1109), (0, u "java/lang/Comparable"), (0, .class_ 1111), (0, u "java/lang/constant/Constable"), (0, .class_ 1113), (0, u "java/lang/constant/ConstantDesc"), (2, u "serialVersionUID"), (0, u "J"), (3, u "REPL"), (0, u "C"), (2, u "LATIN1"), (1, u "UTF16")] 323

def k7m0 : Method := { name := "<init>", desc := "()V", sig := { parameters := [], returnType := none }, accessFlags := 1, code := none }
def k7c1 : Code := { maxStack := 5, maxLocals := 2, code := jdk_42_method_3_code, exceptionTable := #[], attributes := #[] }
def k7m1 : Method := { name := "<init>", desc := "([C)V", sig := { parameters := [(.array .char)], returnType := none }, accessFlags := 1, code := some k7c1 }
def k7c2 : Code := { maxStack := 2, maxLocals := 1, code := jdk_42_method_54_code, exceptionTable := #[], attributes := #[] }
def k7m2 : Method := { name := "length", desc := "()I", sig := { parameters := [], returnType := some .int }, accessFlags := 1, code := some k7c2 }
def k7c3 : Code := { maxStack := 2, maxLocals := 2, code := jdk_42_method_56_code, exceptionTable := #[], attributes := #[] }
def k7m3 : Method := { name := "charAt", desc := "(I)C", sig := { parameters := [.int], returnType := some .char }, accessFlags := 1, code := some k7c3 }
def k7c4 : Code := { maxStack := 3, maxLocals := 2, code := jdk_42_method_79_code, exceptionTable := #[], attributes := #[] }
def k7m4 : Method := { name := "indexOf", desc := "(I)I", sig := { parameters := [.int], returnType := some .int }, accessFlags := 1, code := some k7c4 }
def k7c5 : Code := { maxStack := 4, maxLocals := 3, code := jdk_42_method_80_code, exceptionTable := #[], attributes := #[] }
def k7m5 : Method := { name := "indexOf", desc := "(II)I", sig := { parameters := [.int, .int], returnType := some .int }, accessFlags := 1, code := some k7c5 }
def k7c6 : Code := { maxStack := 3, maxLocals := 5, code := jdk_42_method_92_code, exceptionTable := #[], attributes := #[] }
def k7m6 : Method := { name := "substring", desc := "(II)Ljava/lang/String;", sig := { parameters := [.int, .int], returnType := some (.object "java/lang/String") }, accessFlags := 1, code := some k7c6 }
def k7c7 : Code := { maxStack := 1, maxLocals := 2, code := jdk_42_method_114_code, exceptionTable := #[], attributes := #[] }
def k7m7 : Method := { name := "strip", desc := "()Ljava/lang/String;", sig := { parameters := [], returnType := some (.object "java/lang/String") }, accessFlags := 1, code := some k7c7 }
def k7c8 : Code := { maxStack := 4, maxLocals := 6, code := jdk_42_method_149_code, exceptionTable := #[], attributes := #[] }
def k7m8 : Method := { name := "<init>", desc := "([CIILjava/lang/Void;)V", sig := { parameters := [(.array .char), .int, .int, (.object "java/lang/Void")], returnType := none }, accessFlags := 2, code := some k7c8 }
def k7c9 : Code := { maxStack := 2, maxLocals := 3, code := jdk_42_method_151_code, exceptionTable := #[], attributes := #[] }
def k7m9 : Method := { name := "<init>", desc := "([BB)V", sig := { parameters := [(.array .byte), .byte], returnType := none }, accessFlags := 0, code := some k7c9 }
def k7c10 : Code := { maxStack := 1, maxLocals := 1, code := jdk_42_method_152_code, exceptionTable := #[], attributes := #[] }
def k7m10 : Method := { name := "coder", desc := "()B", sig := { parameters := [], returnType := some .byte }, accessFlags := 0, code := some k7c10 }
def k7c11 : Code := { maxStack := 1, maxLocals := 1, code := jdk_42_method_154_code, exceptionTable := #[], attributes := #[] }
def k7m11 : Method := { name := "isLatin1", desc := "()Z", sig := { parameters := [], returnType := some .boolean }, accessFlags := 0, code := some k7c11 }
def k7c12 : Code := { maxStack := 3, maxLocals := 2, code := jdk_42_method_155_code, exceptionTable := #[], attributes := #[] }
def k7m12 : Method := { name := "checkIndex", desc := "(II)V", sig := { parameters := [.int, .int], returnType := none }, accessFlags := 8, code := some k7c12 }
def k7c13 : Code := { maxStack := 4, maxLocals := 3, code := jdk_42_method_158_code, exceptionTable := #[], attributes := #[] }
def k7m13 : Method := { name := "checkBoundsBeginEnd", desc := "(III)V", sig := { parameters := [.int, .int, .int], returnType := none }, accessFlags := 8, code := some k7c13 }
/-- java/lang/String -/
def k7 : Class := { plain "java/lang/String" (some 0) with
  accessFlags := 49
  interfaces := #[2, 3, 4, 5, 6]
  cf := some (fileOf pool7 10 #[.nestMembers #[1103]] #[{ accessFlags := 1, nameIndex := 5, descriptorIndex := 6, attributes := #[] }, { accessFlags := 1, nameIndex := 5, descriptorIndex := 1010, attributes := #[] }, { accessFlags := 1, nameIndex := 507, descriptorIndex := 334, attributes := #[] }, { accessFlags := 1, nameIndex := 497, descriptorIndex := 427, attributes := #[] }, { accessFlags := 1, nameIndex := 635, descriptorIndex := 765, attributes := #[] }, { accessFlags := 1, nameIndex := 635, descriptorIndex := 636, attributes := #[] }, { accessFlags := 1, nameIndex := 683, descriptorIndex := 684, attributes := #[] }, { accessFlags := 1, nameIndex := 866, descriptorIndex := 464, attributes := #[] }, { accessFlags := 2, nameIndex := 5, descriptorIndex := 29, attributes := #[] }, { accessFlags := 0, nameIndex := 5, descriptorIndex := 211, attributes := #[] }, { accessFlags := 0, nameIndex := 17, descriptorIndex := 337, attributes := #[] }, { accessFlags := 0, nameIndex := 494, descriptorIndex := 142, attributes := #[] }, { accessFlags := 8, nameIndex := 501, descriptorIndex := 391, attributes := #[] }, { accessFlags := 8, nameIndex := 523, descriptorIndex := 524, attributes := #[] }] 49 2 #[1106, 1108, 575, 1110, 1112] #[{ accessFlags := 18, nameIndex := 13, descriptorIndex := 14, attributes := #[] }, { accessFlags := 18, nameIndex := 17, descriptorIndex := 18, attributes := #[] }, { accessFlags := 2, nameIndex := 21, descriptorIndex := 22, attributes := #[] }, { accessFlags := 2, nameIndex := 25, descriptorIndex := 26, attributes := #[] }, { accessFlags := 26, nameIndex := 1116, descriptorIndex := 1117, attributes := #[] }, { accessFlags := 24, nameIndex := 40, descriptorIndex := 26, attributes := #[] }, { accessFlags := 26, nameIndex := 1101, descriptorIndex := 1102, attributes := #[] }, { accessFlags := 26, nameIndex := 1121, descriptorIndex := 1122, attributes := #[] }, { accessFlags := 25, nameIndex := 599, descriptorIndex := 600, attributes := #[] }, { accessFlags := 24, nameIndex := 1125, descriptorIndex := 18, attributes := #[] }, { accessFlags := 24, nameIndex := 1127, descriptorIndex := 18, attributes := #[] }])
  fields := #[{ name := "value", type := (.array .byte), accessFlags := 18, slot := 0, constantValue := 0 }, { name := "coder", type := .byte, accessFlags := 18, slot := 1, constantValue := 0 }, { name := "hash", type := .int, accessFlags := 2, slot := 2, constantValue := 0 }, { name := "hashIsZero", type := .boolean, accessFlags := 2, slot := 3, constantValue := 0 }, { name := "serialVersionUID", type := .long, accessFlags := 26, slot := 0, constantValue := 0 }, { name := "COMPACT_STRINGS", type := .boolean, accessFlags := 24, slot := 1, constantValue := 0 }, { name := "serialPersistentFields", type := (.array (.object "java/io/ObjectStreamField")), accessFlags := 26, slot := 2, constantValue := 0 }, { name := "REPL", type := .char, accessFlags := 26, slot := 3, constantValue := 0 }, { name := "CASE_INSENSITIVE_ORDER", type := (.object "java/util/Comparator"), accessFlags := 25, slot := 4, constantValue := 0 }, { name := "LATIN1", type := .byte, accessFlags := 24, slot := 5, constantValue := 0 }, { name := "UTF16", type := .byte, accessFlags := 24, slot := 6, constantValue := 0 }]
  methods := #[k7m0, k7m1, k7m2, k7m3, k7m4, k7m5, k7m6, k7m7, k7m8, k7m9, k7m10, k7m11, k7m12, k7m13]
  instanceTypes := #[(.array .byte), .byte, .int, .boolean]
  staticTypes := #[.long, .boolean, (.array (.object "java/io/ObjectStreamField")), .char, (.object "java/util/Comparator"), .byte, .byte]
  resolved := Array.replicate 1451 none
  statics := some 0 }

def pool8 : Array CpInfo := pool [(2, .class_ 4), (1, u "java/lang/Object"), (0, u "<init>"), (0, u "()V"), (1, .class_ 10), (1, u "java/lang/Throwable"), (0, u "cause"), (0, u "Ljava/lang/Throwable;"), (2, u "UNASSIGNED_STACK"), (0, u "[Ljava/lang/StackTraceElement;"), (2, u "stackTrace"), (2, u "SUPPRESSED_SENTINEL"), (0, u "Ljava/util/List;"), (2, u "suppressedExceptions"), (6, u "detailMessage"), (0, u "Ljava/lang/String;"), (58, .class_ 94), (0, u "java/lang/Throwable$WrappedPrintStream"), (6, .class_ 103), (1, u "java/lang/Throwable$PrintStreamOrWriter"), (61, u "$assertionsDisabled"), (0, u "Z"), (26, .class_ 194), (0, u "java/lang/Throwable$WrappedPrintWriter"), (5, u "backtrace"), (0, u "Ljava/lang/Object;"), (9, u "depth"), (0, u "I"), (56, .class_ 271), (1, u "java/lang/Throwable$SentinelHolder"), (32, u "EMPTY_THROWABLE_ARRAY"), (0, u "[Ljava/lang/Throwable;"), (12, .class_ 319), (0, u "java/io/Serializable"), (0, u "serialVersionUID"), (0, u "J"), (5, u "NULL_CAUSE_MESSAGE"), (0, u "SELF_SUPPRESSION_MESSAGE"), (0, u "CAUSE_CAPTION"), (0, u "SUPPRESSED_CAPTION")] 73

def k8m0 : Method := { name := "<init>", desc := "()V", sig := { parameters := [], returnType := none }, accessFlags := 1, code := none }
/-- java/lang/Throwable -/
def k8 : Class := { plain "java/lang/Throwable" (some 0) with
  accessFlags := 33
  interfaces := #[2]
  cf := some (fileOf pool8 8 #[.nestMembers #[193, 93, 101, 269]] #[{ accessFlags := 1, nameIndex := 5, descriptorIndex := 6, attributes := #[] }] 33 2 #[318] #[{ accessFlags := 26, nameIndex := 320, descriptorIndex := 321, attributes := #[] }, { accessFlags := 130, nameIndex := 200, descriptorIndex := 201, attributes := #[] }, { accessFlags := 2, nameIndex := 33, descriptorIndex := 34, attributes := #[] }, { accessFlags := 26, nameIndex := 15, descriptorIndex := 16, attributes := #[] }, { accessFlags := 2, nameIndex := 11, descriptorIndex := 12, attributes := #[] }, { accessFlags := 2, nameIndex := 19, descriptorIndex := 16, attributes := #[] }, { accessFlags := 130, nameIndex := 211, descriptorIndex := 212, attributes := #[] }, { accessFlags := 26, nameIndex := 22, descriptorIndex := 23, attributes := #[] }, { accessFlags := 2, nameIndex := 26, descriptorIndex := 23, attributes := #[] }, { accessFlags := 26, nameIndex := 327, descriptorIndex := 34, attributes := #[] }, { accessFlags := 26, nameIndex := 328, descriptorIndex := 34, attributes := #[] }, { accessFlags := 26, nameIndex := 329, descriptorIndex := 34, attributes := #[] }, { accessFlags := 26, nameIndex := 330, descriptorIndex := 34, attributes := #[] }, { accessFlags := 26, nameIndex := 304, descriptorIndex := 305, attributes := #[] }, { accessFlags := 4120, nameIndex := 165, descriptorIndex := 166, attributes := #[] }])
  fields := #[{ name := "serialVersionUID", type := .long, accessFlags := 26, slot := 0, constantValue := 0 }, { name := "backtrace", type := (.object "java/lang/Object"), accessFlags := 130, slot := 0, constantValue := 0 }, { name := "detailMessage", type := (.object "java/lang/String"), accessFlags := 2, slot := 1, constantValue := 0 }, { name := "UNASSIGNED_STACK", type := (.array (.object "java/lang/StackTraceElement")), accessFlags := 26, slot := 1, constantValue := 0 }, { name := "cause", type := (.object "java/lang/Throwable"), accessFlags := 2, slot := 2, constantValue := 0 }, { name := "stackTrace", type := (.array (.object "java/lang/StackTraceElement")), accessFlags := 2, slot := 3, constantValue := 0 }, { name := "depth", type := .int, accessFlags := 130, slot := 4, constantValue := 0 }, { name := "SUPPRESSED_SENTINEL", type := (.object "java/util/List"), accessFlags := 26, slot := 2, constantValue := 0 }, { name := "suppressedExceptions", type := (.object "java/util/List"), accessFlags := 2, slot := 5, constantValue := 0 }, { name := "NULL_CAUSE_MESSAGE", type := (.object "java/lang/String"), accessFlags := 26, slot := 3, constantValue := 0 }, { name := "SELF_SUPPRESSION_MESSAGE", type := (.object "java/lang/String"), accessFlags := 26, slot := 4, constantValue := 0 }, { name := "CAUSE_CAPTION", type := (.object "java/lang/String"), accessFlags := 26, slot := 5, constantValue := 0 }, { name := "SUPPRESSED_CAPTION", type := (.object "java/lang/String"), accessFlags := 26, slot := 6, constantValue := 0 }, { name := "EMPTY_THROWABLE_ARRAY", type := (.array (.object "java/lang/Throwable")), accessFlags := 26, slot := 7, constantValue := 0 }, { name := "$assertionsDisabled", type := .boolean, accessFlags := 4120, slot := 8, constantValue := 0 }]
  methods := #[k8m0]
  instanceTypes := #[(.object "java/lang/Object"), (.object "java/lang/String"), (.object "java/lang/Throwable"), (.array (.object "java/lang/StackTraceElement")), .int, (.object "java/util/List")]
  staticTypes := #[.long, (.array (.object "java/lang/StackTraceElement")), (.object "java/util/List"), (.object "java/lang/String"), (.object "java/lang/String"), (.object "java/lang/String"), (.object "java/lang/String"), (.array (.object "java/lang/Throwable")), .boolean]
  resolved := Array.replicate 404 none
  statics := none }

def pool9 : Array CpInfo := pool [(2, .class_ 4), (1, u "java/lang/Throwable"), (0, u "<init>"), (0, u "()V"), (12, .class_ 20), (0, u "java/lang/Exception"), (0, u "serialVersionUID"), (0, u "J")] 17

def k9m0 : Method := { name := "<init>", desc := "()V", sig := { parameters := [], returnType := none }, accessFlags := 1, code := none }
/-- java/lang/Exception -/
def k9 : Class := { plain "java/lang/Exception" (some 8) with
  accessFlags := 33
  interfaces := #[]
  cf := some (fileOf pool9 19 #[] #[{ accessFlags := 1, nameIndex := 5, descriptorIndex := 6, attributes := #[] }] 33 2 #[] #[{ accessFlags := 24, nameIndex := 21, descriptorIndex := 22, attributes := #[] }])
  fields := #[{ name := "serialVersionUID", type := .long, accessFlags := 24, slot := 0, constantValue := 0 }]
  methods := #[k9m0]
  instanceTypes := #[(.object "java/lang/Object"), (.object "java/lang/String"), (.object "java/lang/Throwable"), (.array (.object "java/lang/StackTraceElement")), .int, (.object "java/util/List")]
  staticTypes := #[.long]
  resolved := Array.replicate 40 none
  statics := none }

def pool10 : Array CpInfo := pool [(2, .class_ 4), (1, u "java/lang/Exception"), (2, .string 8), (0, u ""), (0, .methodref 10 11), (0, .class_ 12), (0, .nameAndType 13 14), (0, u "java/lang/String"), (0, u "indexOf"), (0, u "(I)I"), (0, .methodref 10 16), (0, .nameAndType 17 18), (0, u "substring"), (0, u "(II)Ljava/lang/String;"), (0, .methodref 10 20), (0, .nameAndType 21 22), (0, u "strip"), (0, u "()Ljava/lang/String;"), (19, .class_ 44), (1, u "com/example/abox/abox/InputException"), (0, u "firstLine"), (0, u "(Ljava/lang/String;)Ljava/lang/String;"), (29, u "serialVersionUID"), (0, u "J")] 27

def k10c0 : Code := { maxStack := 3, maxLocals := 2, code := prog_9_method_2_code, exceptionTable := #[], attributes := #[] }
def k10m0 : Method := { name := "firstLine", desc := "(Ljava/lang/String;)Ljava/lang/String;", sig := { parameters := [(.object "java/lang/String")], returnType := some (.object "java/lang/String") }, accessFlags := 8, code := some k10c0 }
/-- com/example/abox/abox/InputException -/
def k10 : Class := { plain "com/example/abox/abox/InputException" (some 9) with
  accessFlags := 33
  interfaces := #[]
  cf := some (fileOf pool10 42 #[] #[{ accessFlags := 8, nameIndex := 45, descriptorIndex := 46, attributes := #[] }] 33 2 #[] #[{ accessFlags := 26, nameIndex := 76, descriptorIndex := 77, attributes := #[] }])
  fields := #[{ name := "serialVersionUID", type := .long, accessFlags := 26, slot := 0, constantValue := 0 }]
  methods := #[k10m0]
  instanceTypes := #[(.object "java/lang/Object"), (.object "java/lang/String"), (.object "java/lang/Throwable"), (.array (.object "java/lang/StackTraceElement")), .int, (.object "java/util/List")]
  staticTypes := #[.long]
  resolved := Array.replicate 105 none
  statics := none }

def pool11 : Array CpInfo := pool [(1, .class_ 2), (0, u "java/lang/String"), (1, .class_ 6), (1, u "java/lang/Object"), (0, u "<init>"), (0, u "()V"), (0, .methodref 1 10), (0, .nameAndType 11 12), (0, u "checkIndex"), (0, u "(II)V"), (1, .class_ 16), (1, u "java/lang/StringLatin1"), (21, .methodref 39 40), (0, .class_ 41), (0, .nameAndType 42 43), (0, u "java/lang/Math"), (0, u "min"), (0, u "(II)I"), (6, .methodref 14 51), (0, .nameAndType 52 53), (0, u "getChar"), (0, u "([BI)C"), (3, u "([B)I"), (8, .fieldref 67 68), (0, .class_ 69), (0, .nameAndType 70 71), (0, u "java/lang/CharacterDataLatin1"), (0, u "instance"), (0, u "Ljava/lang/CharacterDataLatin1;"), (16, .methodref 14 89), (0, .nameAndType 90 91), (0, u "canEncode"), (0, u "(I)Z"), (0, .methodref 39 93), (0, .nameAndType 94 43), (0, u "max"), (0, .methodref 14 96), (0, .nameAndType 97 98), (0, u "indexOfChar"), (0, u "([BIII)I"), (2, u "indexOf"), (10, .methodref 1 113), (0, .nameAndType 7 114), (0, u "([BB)V"), (6, u "$assertionsDisabled"), (0, u "Z"), (8, .class_ 133), (1, u "java/util/Arrays"), (17, .string 152), (0, u ""), (42, .nameAndType 196 197), (0, u "newString"), (0, u "([BII)Ljava/lang/String;"), (12, .methodref 14 195), (0, .methodref 67 212), (0, .nameAndType 213 91), (0, u "isWhitespace"), (0, .methodref 14 215), (0, .nameAndType 216 57), (0, u "indexOfNonWhitespace"), (0, .methodref 14 218), (0, .nameAndType 219 57), (0, u "lastIndexOfNonWhitespace"), (1, .class_ 223), (1, u "java/lang/StringLatin1$LinesSpliterator"), (8, .methodref 131 233), (0, .nameAndType 234 235), (0, u "copyOfRange"), (0, u "([BII)[B"), (16, u "charAt"), (114, u "([B)Ljava/lang/String;"), (3, u "strip"), (18, .class_ 391), (0, u "java/lang/StringLatin1$CharsSpliterator")] 3

def k11m0 : Method := { name := "<init>", desc := "()V", sig := { parameters := [], returnType := none }, accessFlags := 0, code := none }
def k11c1 : Code := { maxStack := 2, maxLocals := 2, code := jdk_43_method_2_code, exceptionTable := #[], attributes := #[] }
def k11m1 : Method := { name := "charAt", desc := "([BI)C", sig := { parameters := [(.array .byte), .int], returnType := some .char }, accessFlags := 9, code := some k11c1 }
def k11c2 : Code := { maxStack := 2, maxLocals := 1, code := jdk_43_method_4_code, exceptionTable := #[], attributes := #[] }
def k11m2 : Method := { name := "canEncode", desc := "(I)Z", sig := { parameters := [.int], returnType := some .boolean }, accessFlags := 9, code := some k11c2 }
def k11c3 : Code := { maxStack := 4, maxLocals := 4, code := jdk_43_method_22_code, exceptionTable := #[], attributes := #[] }
def k11m3 : Method := { name := "indexOf", desc := "([BIII)I", sig := { parameters := [(.array .byte), .int, .int, .int], returnType := some .int }, accessFlags := 9, code := some k11c3 }
def k11c4 : Code := { maxStack := 2, maxLocals := 6, code := jdk_43_method_23_code, exceptionTable := #[], attributes := #[] }
def k11m4 : Method := { name := "indexOfChar", desc := "([BIII)I", sig := { parameters := [(.array .byte), .int, .int, .int], returnType := some .int }, accessFlags := 10, code := some k11c4 }
def k11c5 : Code := { maxStack := 2, maxLocals := 4, code := jdk_43_method_37_code, exceptionTable := #[], attributes := #[] }
def k11m5 : Method := { name := "indexOfNonWhitespace", desc := "([B)I", sig := { parameters := [(.array .byte)], returnType := some .int }, accessFlags := 9, code := some k11c5 }
def k11c6 : Code := { maxStack := 3, maxLocals := 4, code := jdk_43_method_38_code, exceptionTable := #[], attributes := #[] }
def k11m6 : Method := { name := "lastIndexOfNonWhitespace", desc := "([B)I", sig := { parameters := [(.array .byte)], returnType := some .int }, accessFlags := 9, code := some k11c6 }
def k11c7 : Code := { maxStack := 4, maxLocals := 4, code := jdk_43_method_39_code, exceptionTable := #[], attributes := #[] }
def k11m7 : Method := { name := "strip", desc := "([B)Ljava/lang/String;", sig := { parameters := [(.array .byte)], returnType := some (.object "java/lang/String") }, accessFlags := 9, code := some k11c7 }
def k11c8 : Code := { maxStack := 2, maxLocals := 2, code := jdk_43_method_44_code, exceptionTable := #[], attributes := #[] }
def k11m8 : Method := { name := "getChar", desc := "([BI)C", sig := { parameters := [(.array .byte), .int], returnType := some .char }, accessFlags := 9, code := some k11c8 }
def k11c9 : Code := { maxStack := 6, maxLocals := 3, code := jdk_43_method_47_code, exceptionTable := #[], attributes := #[] }
def k11m9 : Method := { name := "newString", desc := "([BII)Ljava/lang/String;", sig := { parameters := [(.array .byte), .int, .int], returnType := some (.object "java/lang/String") }, accessFlags := 9, code := some k11c9 }
/-- java/lang/StringLatin1 -/
def k11 : Class := { plain "java/lang/StringLatin1" (some 0) with
  accessFlags := 48
  interfaces := #[]
  cf := some (fileOf pool11 14 #[.nestMembers #[390, 221]] #[{ accessFlags := 0, nameIndex := 7, descriptorIndex := 8, attributes := #[] }, { accessFlags := 9, nameIndex := 252, descriptorIndex := 53, attributes := #[] }, { accessFlags := 9, nameIndex := 90, descriptorIndex := 91, attributes := #[] }, { accessFlags := 9, nameIndex := 101, descriptorIndex := 98, attributes := #[] }, { accessFlags := 10, nameIndex := 97, descriptorIndex := 98, attributes := #[] }, { accessFlags := 9, nameIndex := 216, descriptorIndex := 57, attributes := #[] }, { accessFlags := 9, nameIndex := 219, descriptorIndex := 57, attributes := #[] }, { accessFlags := 9, nameIndex := 371, descriptorIndex := 367, attributes := #[] }, { accessFlags := 9, nameIndex := 52, descriptorIndex := 53, attributes := #[] }, { accessFlags := 9, nameIndex := 196, descriptorIndex := 197, attributes := #[] }] 48 4 #[] #[{ accessFlags := 4120, nameIndex := 121, descriptorIndex := 122, attributes := #[] }])
  fields := #[{ name := "$assertionsDisabled", type := .boolean, accessFlags := 4120, slot := 0, constantValue := 0 }]
  methods := #[k11m0, k11m1, k11m2, k11m3, k11m4, k11m5, k11m6, k11m7, k11m8, k11m9]
  instanceTypes := #[]
  staticTypes := #[.boolean]
  resolved := Array.replicate 395 none
  statics := none }

def pool12 : Array CpInfo := pool [(1, .class_ 2), (0, u "java/lang/Math"), (1, .class_ 6), (1, u "java/lang/Object"), (0, u "<init>"), (0, u "()V"), (89, .class_ 100), (1, u "java/lang/Math$RandomNumberGeneratorHolder"), (71, u "negativeZeroFloatBits"), (0, u "J"), (2, u "negativeZeroDoubleBits"), (21, u "max"), (2, u "min"), (43, u "$assertionsDisabled"), (0, u "Z"), (88, u "(II)I"), (2, u "twoToTheDoubleScaleDown"), (0, u "D"), (4, u "twoToTheDoubleScaleUp"), (9, u "E"), (3, u "PI"), (2, u "TAU"), (2, u "DEGREES_TO_RADIANS"), (0, u "RADIANS_TO_DEGREES")] 94

def k12m0 : Method := { name := "<init>", desc := "()V", sig := { parameters := [], returnType := none }, accessFlags := 2, code := none }
def k12c1 : Code := { maxStack := 2, maxLocals := 2, code := jdk_29_method_65_code, exceptionTable := #[], attributes := #[] }
def k12m1 : Method := { name := "max", desc := "(II)I", sig := { parameters := [.int, .int], returnType := some .int }, accessFlags := 9, code := some k12c1 }
def k12c2 : Code := { maxStack := 2, maxLocals := 2, code := jdk_29_method_69_code, exceptionTable := #[], attributes := #[] }
def k12m2 : Method := { name := "min", desc := "(II)I", sig := { parameters := [.int, .int], returnType := some .int }, accessFlags := 9, code := some k12c2 }
/-- java/lang/Math -/
def k12 : Class := { plain "java/lang/Math" (some 0) with
  accessFlags := 49
  interfaces := #[]
  cf := some (fileOf pool12 1 #[.nestMembers #[98]] #[{ accessFlags := 2, nameIndex := 7, descriptorIndex := 8, attributes := #[] }, { accessFlags := 9, nameIndex := 198, descriptorIndex := 335, attributes := #[] }, { accessFlags := 9, nameIndex := 201, descriptorIndex := 335, attributes := #[] }] 49 4 #[] #[{ accessFlags := 25, nameIndex := 354, descriptorIndex := 339, attributes := #[] }, { accessFlags := 25, nameIndex := 358, descriptorIndex := 339, attributes := #[] }, { accessFlags := 25, nameIndex := 361, descriptorIndex := 339, attributes := #[] }, { accessFlags := 26, nameIndex := 364, descriptorIndex := 339, attributes := #[] }, { accessFlags := 26, nameIndex := 365, descriptorIndex := 339, attributes := #[] }, { accessFlags := 26, nameIndex := 172, descriptorIndex := 173, attributes := #[] }, { accessFlags := 26, nameIndex := 176, descriptorIndex := 173, attributes := #[] }, { accessFlags := 8, nameIndex := 344, descriptorIndex := 339, attributes := #[] }, { accessFlags := 8, nameIndex := 338, descriptorIndex := 339, attributes := #[] }, { accessFlags := 4120, nameIndex := 245, descriptorIndex := 246, attributes := #[] }])
  fields := #[{ name := "E", type := .double, accessFlags := 25, slot := 0, constantValue := 0 }, { name := "PI", type := .double, accessFlags := 25, slot := 1, constantValue := 0 }, { name := "TAU", type := .double, accessFlags := 25, slot := 2, constantValue := 0 }, { name := "DEGREES_TO_RADIANS", type := .double, accessFlags := 26, slot := 3, constantValue := 0 }, { name := "RADIANS_TO_DEGREES", type := .double, accessFlags := 26, slot := 4, constantValue := 0 }, { name := "negativeZeroFloatBits", type := .long, accessFlags := 26, slot := 5, constantValue := 0 }, { name := "negativeZeroDoubleBits", type := .long, accessFlags := 26, slot := 6, constantValue := 0 }, { name := "twoToTheDoubleScaleUp", type := .double, accessFlags := 8, slot := 7, constantValue := 0 }, { name := "twoToTheDoubleScaleDown", type := .double, accessFlags := 8, slot := 8, constantValue := 0 }, { name := "$assertionsDisabled", type := .boolean, accessFlags := 4120, slot := 9, constantValue := 0 }]
  methods := #[k12m0, k12m1, k12m2]
  instanceTypes := #[]
  staticTypes := #[.double, .double, .double, .double, .double, .long, .long, .double, .double, .boolean]
  resolved := Array.replicate 460 none
  statics := none }

def pool13 : Array CpInfo := pool [(6, .class_ 8), (1, u "java/lang/Object"), (0, u "<init>"), (0, u "()V"), (1, .class_ 14), (1, u "java/lang/StringUTF16"), (31, u "$assertionsDisabled"), (0, u "Z"), (13, u "HI_BYTE_SHIFT"), (0, u "I"), (2, u "LO_BYTE_SHIFT"), (49, .methodref 12 116), (0, .nameAndType 117 118), (0, u "compress"), (0, u "([CI[BII)I"), (3, u "([CII)[B"), (138, u "coderFromArrayLen"), (0, u "([BI)B"), (106, .class_ 371), (1, u "java/lang/StringUTF16$LinesSpliterator"), (58, u "MAX_LENGTH"), (196, .class_ 628), (0, u "java/lang/StringUTF16$CodePointsSpliterator"), (0, .class_ 630), (0, u "java/lang/StringUTF16$CharsSpliterator")] 4

def k13m0 : Method := { name := "<init>", desc := "()V", sig := { parameters := [], returnType := none }, accessFlags := 0, code := none }
def k13c1 : Code := { maxStack := 2, maxLocals := 2, code := jdk_52_method_15_code, exceptionTable := #[], attributes := #[] }
def k13m1 : Method := { name := "coderFromArrayLen", desc := "([BI)B", sig := { parameters := [(.array .byte), .int], returnType := some .byte }, accessFlags := 8, code := some k13c1 }
def k13c2 : Code := { maxStack := 5, maxLocals := 6, code := jdk_52_method_16_code, exceptionTable := #[], attributes := #[] }
def k13m2 : Method := { name := "compress", desc := "([CII)[B", sig := { parameters := [(.array .char), .int, .int], returnType := some (.array .byte) }, accessFlags := 9, code := some k13c2 }
def k13c3 : Code := { maxStack := 3, maxLocals := 7, code := jdk_52_method_21_code, exceptionTable := #[], attributes := #[] }
def k13m3 : Method := { name := "compress", desc := "([CI[BII)I", sig := { parameters := [(.array .char), .int, (.array .byte), .int, .int], returnType := some .int }, accessFlags := 9, code := some k13c3 }
/-- java/lang/StringUTF16 -/
def k13 : Class := { plain "java/lang/StringUTF16" (some 0) with
  accessFlags := 48
  interfaces := #[]
  cf := some (fileOf pool13 12 #[.nestMembers #[627, 629, 369]] #[{ accessFlags := 0, nameIndex := 9, descriptorIndex := 10, attributes := #[] }, { accessFlags := 8, nameIndex := 261, descriptorIndex := 262, attributes := #[] }, { accessFlags := 9, nameIndex := 117, descriptorIndex := 122, attributes := #[] }, { accessFlags := 9, nameIndex := 117, descriptorIndex := 118, attributes := #[] }] 48 6 #[] #[{ accessFlags := 26, nameIndex := 61, descriptorIndex := 62, attributes := #[] }, { accessFlags := 26, nameIndex := 65, descriptorIndex := 62, attributes := #[] }, { accessFlags := 24, nameIndex := 430, descriptorIndex := 62, attributes := #[] }, { accessFlags := 4120, nameIndex := 46, descriptorIndex := 47, attributes := #[] }])
  fields := #[{ name := "HI_BYTE_SHIFT", type := .int, accessFlags := 26, slot := 0, constantValue := 0 }, { name := "LO_BYTE_SHIFT", type := .int, accessFlags := 26, slot := 1, constantValue := 0 }, { name := "MAX_LENGTH", type := .int, accessFlags := 24, slot := 2, constantValue := 0 }, { name := "$assertionsDisabled", type := .boolean, accessFlags := 4120, slot := 3, constantValue := 0 }]
  methods := #[k13m0, k13m1, k13m2, k13m3]
  instanceTypes := #[]
  staticTypes := #[.int, .int, .int, .boolean]
  resolved := Array.replicate 635 none
  statics := none }

def pool14 : Array CpInfo := pool [(2, .class_ 4), (1, u "java/lang/Object"), (0, u "<init>"), (0, u "()V"), (17, .class_ 26), (1, u "jdk/internal/util/Preconditions"), (6, u "checkIndex"), (13, u "checkFromToIndex"), (7, .class_ 56), (0, u "jdk/internal/util/Preconditions$4"), (57, .class_ 115), (0, u "jdk/internal/util/Preconditions$1"), (7, u "SIOOBE_FORMATTER"), (0, u "Ljava/util/function/BiFunction;"), (0, .class_ 126), (0, u "jdk/internal/util/Preconditions$2"), (3, u "AIOOBE_FORMATTER"), (0, .class_ 132), (0, u "jdk/internal/util/Preconditions$3"), (3, u "IOOBE_FORMATTER"), (41, u "(IILjava/util/function/BiFunction;)I"), (4, u "(IIILjava/util/function/BiFunction;)I")] 10

def k14m0 : Method := { name := "<init>", desc := "()V", sig := { parameters := [], returnType := none }, accessFlags := 1, code := none }
def k14c1 : Code := { maxStack := 3, maxLocals := 3, code := jdk_41_method_11_code, exceptionTable := #[], attributes := #[] }
def k14m1 : Method := { name := "checkIndex", desc := "(IILjava/util/function/BiFunction;)I", sig := { parameters := [.int, .int, (.object "java/util/function/BiFunction")], returnType := some .int }, accessFlags := 9, code := some k14c1 }
def k14c2 : Code := { maxStack := 4, maxLocals := 4, code := jdk_41_method_12_code, exceptionTable := #[], attributes := #[] }
def k14m2 : Method := { name := "checkFromToIndex", desc := "(IIILjava/util/function/BiFunction;)I", sig := { parameters := [.int, .int, .int, (.object "java/util/function/BiFunction")], returnType := some .int }, accessFlags := 9, code := some k14c2 }
/-- jdk/internal/util/Preconditions -/
def k14 : Class := { plain "jdk/internal/util/Preconditions" (some 0) with
  accessFlags := 33
  interfaces := #[]
  cf := some (fileOf pool14 24 #[.nestMembers #[55, 131, 125, 114]] #[{ accessFlags := 1, nameIndex := 5, descriptorIndex := 6, attributes := #[] }, { accessFlags := 9, nameIndex := 33, descriptorIndex := 178, attributes := #[] }, { accessFlags := 9, nameIndex := 47, descriptorIndex := 183, attributes := #[] }] 33 2 #[] #[{ accessFlags := 25, nameIndex := 123, descriptorIndex := 124, attributes := #[] }, { accessFlags := 25, nameIndex := 130, descriptorIndex := 124, attributes := #[] }, { accessFlags := 25, nameIndex := 136, descriptorIndex := 124, attributes := #[] }])
  fields := #[{ name := "SIOOBE_FORMATTER", type := (.object "java/util/function/BiFunction"), accessFlags := 25, slot := 0, constantValue := 0 }, { name := "AIOOBE_FORMATTER", type := (.object "java/util/function/BiFunction"), accessFlags := 25, slot := 1, constantValue := 0 }, { name := "IOOBE_FORMATTER", type := (.object "java/util/function/BiFunction"), accessFlags := 25, slot := 2, constantValue := 0 }]
  methods := #[k14m0, k14m1, k14m2]
  instanceTypes := #[]
  staticTypes := #[(.object "java/util/function/BiFunction"), (.object "java/util/function/BiFunction"), (.object "java/util/function/BiFunction")]
  resolved := Array.replicate 194 none
  statics := some 1 }

def pool15 : Array CpInfo := pool [(2, .class_ 4), (1, u "java/lang/Object"), (0, u "<init>"), (0, u "()V"), (1, .class_ 10), (1, u "java/lang/CharacterData")] 75

def k15m0 : Method := { name := "<init>", desc := "()V", sig := { parameters := [], returnType := none }, accessFlags := 0, code := none }
/-- java/lang/CharacterData -/
def k15 : Class := { plain "java/lang/CharacterData" (some 0) with
  accessFlags := 1056
  interfaces := #[]
  cf := some (fileOf pool15 8 #[] #[{ accessFlags := 0, nameIndex := 5, descriptorIndex := 6, attributes := #[] }] 1056 2 #[] #[])
  fields := #[]
  methods := #[k15m0]
  instanceTypes := #[]
  staticTypes := #[]
  resolved := Array.replicate 86 none
  statics := none }

def pool16 : Array CpInfo := pool [(1, .fieldref 2 3), (0, .class_ 4), (0, .nameAndType 5 6), (0, u "java/lang/CharacterDataLatin1"), (0, u "A"), (0, u "[I"), (2, u "B"), (0, u "[C"), (3, u "(I)I"), (0, .methodref 2 16), (0, .nameAndType 17 14), (0, u "getProperties"), (3, u "(I)Z"), (5, u "DIGITS"), (0, u "[B"), (8, u "sharpsMap"), (1, .class_ 41), (1, u "java/lang/CharacterData"), (0, u "<init>"), (0, u "()V"), (3, u "instance"), (0, u "Ljava/lang/CharacterDataLatin1;"), (78, u "isWhitespace")] 13

def k16c0 : Code := { maxStack := 2, maxLocals := 4, code := jdk_116_method_1_code, exceptionTable := #[], attributes := #[] }
def k16m0 : Method := { name := "getProperties", desc := "(I)I", sig := { parameters := [.int], returnType := some .int }, accessFlags := 0, code := some k16c0 }
def k16c1 : Code := { maxStack := 2, maxLocals := 3, code := jdk_116_method_26_code, exceptionTable := #[], attributes := #[] }
def k16m1 : Method := { name := "isWhitespace", desc := "(I)Z", sig := { parameters := [.int], returnType := some .boolean }, accessFlags := 0, code := some k16c1 }
def k16m2 : Method := { name := "<init>", desc := "()V", sig := { parameters := [], returnType := none }, accessFlags := 2, code := none }
/-- java/lang/CharacterDataLatin1 -/
def k16 : Class := { plain "java/lang/CharacterDataLatin1" (some 15) with
  accessFlags := 32
  interfaces := #[]
  cf := some (fileOf pool16 2 #[] #[{ accessFlags := 0, nameIndex := 17, descriptorIndex := 14, attributes := #[] }, { accessFlags := 0, nameIndex := 127, descriptorIndex := 21, attributes := #[] }, { accessFlags := 2, nameIndex := 42, descriptorIndex := 43, attributes := #[] }] 32 39 #[] #[{ accessFlags := 26, nameIndex := 27, descriptorIndex := 28, attributes := #[] }, { accessFlags := 8, nameIndex := 37, descriptorIndex := 10, attributes := #[] }, { accessFlags := 24, nameIndex := 47, descriptorIndex := 48, attributes := #[] }, { accessFlags := 24, nameIndex := 5, descriptorIndex := 6, attributes := #[] }, { accessFlags := 24, nameIndex := 9, descriptorIndex := 10, attributes := #[] }])
  fields := #[{ name := "DIGITS", type := (.array .byte), accessFlags := 26, slot := 0, constantValue := 0 }, { name := "sharpsMap", type := (.array .char), accessFlags := 8, slot := 1, constantValue := 0 }, { name := "instance", type := (.object "java/lang/CharacterDataLatin1"), accessFlags := 24, slot := 2, constantValue := 0 }, { name := "A", type := (.array .int), accessFlags := 24, slot := 3, constantValue := 0 }, { name := "B", type := (.array .char), accessFlags := 24, slot := 4, constantValue := 0 }]
  methods := #[k16m0, k16m1, k16m2]
  instanceTypes := #[]
  staticTypes := #[(.array .byte), (.array .char), (.object "java/lang/CharacterDataLatin1"), (.array .int), (.array .char)]
  resolved := Array.replicate 141 none
  statics := some 2 }

def pool17 : Array CpInfo := pool [(2, .class_ 4), (1, u "java/lang/Object"), (0, u "<init>"), (0, u "()V"), (7, .class_ 16), (1, u "java/util/Arrays"), (57, .class_ 76), (1, u "java/util/Arrays$NaturalOrder"), (36, .class_ 115), (1, u "java/util/Arrays$LegacyMergeSort"), (1, u "Z"), (21, u "copyOfRange"), (10, .methodref 151 152), (0, .class_ 153), (0, .nameAndType 154 155), (0, u "java/lang/System"), (0, u "arraycopy"), (0, u "(Ljava/lang/Object;ILjava/lang/Object;II)V"), (148, .methodref 305 306), (0, .class_ 307), (0, .nameAndType 308 309), (0, u "java/lang/Math"), (0, u "min"), (0, u "(II)I"), (29, .methodref 14 340), (0, .nameAndType 341 342), (0, u "copyOfRangeByte"), (0, u "([BII)[B"), (0, .methodref 14 344), (0, .nameAndType 345 346), (0, u "checkLength"), (0, u "(II)V"), (28, .class_ 376), (0, u "java/util/Arrays$ArrayList"), (68, u "$assertionsDisabled"), (269, u "MIN_ARRAY_SORT_GRAN"), (0, u "I"), (2, u "INSERTIONSORT_THRESHOLD"), (255, .class_ 976), (0, u "java/util/Arrays$ArrayItr")] 52

def k17m0 : Method := { name := "<init>", desc := "()V", sig := { parameters := [], returnType := none }, accessFlags := 2, code := none }
def k17c1 : Code := { maxStack := 4, maxLocals := 2, code := jdk_65_method_131_code, exceptionTable := #[], attributes := #[] }
def k17m1 : Method := { name := "checkLength", desc := "(II)V", sig := { parameters := [.int, .int], returnType := none }, accessFlags := 10, code := some k17c1 }
def k17c2 : Code := { maxStack := 3, maxLocals := 3, code := jdk_65_method_132_code, exceptionTable := #[], attributes := #[] }
def k17m2 : Method := { name := "copyOfRange", desc := "([BII)[B", sig := { parameters := [(.array .byte), .int, .int], returnType := some (.array .byte) }, accessFlags := 9, code := some k17c2 }
def k17c3 : Code := { maxStack := 6, maxLocals := 5, code := jdk_65_method_133_code, exceptionTable := #[], attributes := #[] }
def k17m3 : Method := { name := "copyOfRangeByte", desc := "([BII)[B", sig := { parameters := [(.array .byte), .int, .int], returnType := some (.array .byte) }, accessFlags := 10, code := some k17c3 }
/-- java/util/Arrays -/
def k17 : Class := { plain "java/util/Arrays" (some 0) with
  accessFlags := 49
  interfaces := #[]
  cf := some (fileOf pool17 14 #[.nestMembers #[975, 375, 113, 74]] #[{ accessFlags := 2, nameIndex := 5, descriptorIndex := 6, attributes := #[] }, { accessFlags := 10, nameIndex := 345, descriptorIndex := 346, attributes := #[] }, { accessFlags := 9, nameIndex := 139, descriptorIndex := 342, attributes := #[] }, { accessFlags := 10, nameIndex := 341, descriptorIndex := 342, attributes := #[] }] 49 2 #[] #[{ accessFlags := 26, nameIndex := 715, descriptorIndex := 716, attributes := #[] }, { accessFlags := 26, nameIndex := 719, descriptorIndex := 716, attributes := #[] }, { accessFlags := 4120, nameIndex := 445, descriptorIndex := 117, attributes := #[] }])
  fields := #[{ name := "MIN_ARRAY_SORT_GRAN", type := .int, accessFlags := 26, slot := 0, constantValue := 0 }, { name := "INSERTIONSORT_THRESHOLD", type := .int, accessFlags := 26, slot := 1, constantValue := 0 }, { name := "$assertionsDisabled", type := .boolean, accessFlags := 4120, slot := 2, constantValue := 0 }]
  methods := #[k17m0, k17m1, k17m2, k17m3]
  instanceTypes := #[]
  staticTypes := #[.int, .int, .boolean]
  resolved := Array.replicate 1029 none
  statics := none }

def pool18 : Array CpInfo := pool [(2, .class_ 4), (1, u "java/lang/Object"), (0, u "<init>"), (0, u "()V"), (1, .class_ 10), (1, u "java/lang/System"), (0, u "allowSecurityManager"), (0, u "I"), (16, u "cons"), (0, u "Ljava/io/Console;"), (77, .class_ 110), (1, u "java/lang/System$CallersHolder"), (43, u "initialErrStream"), (0, u "Ljava/io/PrintStream;"), (19, u "security"), (0, u "Ljava/lang/SecurityManager;"), (31, .class_ 209), (0, u "java/lang/System$1"), (7, u "props"), (0, u "Ljava/util/Properties;"), (2, u "lineSeparator"), (0, u "Ljava/lang/String;"), (96, .class_ 321), (1, u "java/lang/System$LoggerFinder"), (5, .class_ 328), (0, u "java/lang/System$Logger"), (67, u "err"), (2, u "out"), (91, u "notSupportedJnuEncoding"), (15, u "in"), (17, u "initialIn"), (0, u "Ljava/io/InputStream;"), (35, u "bootLayer"), (0, u "Ljava/lang/ModuleLayer;"), (99, .class_ 664), (0, u "java/lang/System$2"), (9, u "NEVER"), (2, u "MAYBE"), (49, u "arraycopy"), (0, u "(Ljava/lang/Object;ILjava/lang/Object;II)V"), (72, .class_ 802), (0, u "java/lang/System$Logger$Level")] 31

def k18m0 : Method := { name := "<init>", desc := "()V", sig := { parameters := [], returnType := none }, accessFlags := 2, code := none }
def k18m1 : Method := { name := "arraycopy", desc := "(Ljava/lang/Object;ILjava/lang/Object;II)V", sig := { parameters := [(.object "java/lang/Object"), .int, (.object "java/lang/Object"), .int, .int], returnType := none }, accessFlags := 265, code := none }
/-- java/lang/System -/
def k18 : Class := { plain "java/lang/System" (some 0) with
  accessFlags := 49
  interfaces := #[]
  cf := some (fileOf pool18 8 #[.nestMembers #[319, 327, 801, 108, 663, 208]] #[{ accessFlags := 2, nameIndex := 5, descriptorIndex := 6, attributes := #[] }, { accessFlags := 265, nameIndex := 727, descriptorIndex := 728, attributes := #[] }] 49 2 #[] #[{ accessFlags := 25, nameIndex := 507, descriptorIndex := 526, attributes := #[] }, { accessFlags := 25, nameIndex := 399, descriptorIndex := 155, attributes := #[] }, { accessFlags := 25, nameIndex := 396, descriptorIndex := 155, attributes := #[] }, { accessFlags := 10, nameIndex := 525, descriptorIndex := 526, attributes := #[] }, { accessFlags := 26, nameIndex := 674, descriptorIndex := 12, attributes := #[] }, { accessFlags := 26, nameIndex := 677, descriptorIndex := 12, attributes := #[] }, { accessFlags := 10, nameIndex := 11, descriptorIndex := 12, attributes := #[] }, { accessFlags := 74, nameIndex := 175, descriptorIndex := 176, attributes := #[] }, { accessFlags := 10, nameIndex := 491, descriptorIndex := 222, attributes := #[] }, { accessFlags := 74, nameIndex := 29, descriptorIndex := 30, attributes := #[] }, { accessFlags := 74, nameIndex := 154, descriptorIndex := 155, attributes := #[] }, { accessFlags := 10, nameIndex := 217, descriptorIndex := 218, attributes := #[] }, { accessFlags := 10, nameIndex := 221, descriptorIndex := 222, attributes := #[] }, { accessFlags := 8, nameIndex := 562, descriptorIndex := 563, attributes := #[] }])
  fields := #[{ name := "in", type := (.object "java/io/InputStream"), accessFlags := 25, slot := 0, constantValue := 0 }, { name := "out", type := (.object "java/io/PrintStream"), accessFlags := 25, slot := 1, constantValue := 0 }, { name := "err", type := (.object "java/io/PrintStream"), accessFlags := 25, slot := 2, constantValue := 0 }, { name := "initialIn", type := (.object "java/io/InputStream"), accessFlags := 10, slot := 3, constantValue := 0 }, { name := "NEVER", type := .int, accessFlags := 26, slot := 4, constantValue := 0 }, { name := "MAYBE", type := .int, accessFlags := 26, slot := 5, constantValue := 0 }, { name := "allowSecurityManager", type := .int, accessFlags := 10, slot := 6, constantValue := 0 }, { name := "security", type := (.object "java/lang/SecurityManager"), accessFlags := 74, slot := 7, constantValue := 0 }, { name := "notSupportedJnuEncoding", type := (.object "java/lang/String"), accessFlags := 10, slot := 8, constantValue := 0 }, { name := "cons", type := (.object "java/io/Console"), accessFlags := 74, slot := 9, constantValue := 0 }, { name := "initialErrStream", type := (.object "java/io/PrintStream"), accessFlags := 74, slot := 10, constantValue := 0 }, { name := "props", type := (.object "java/util/Properties"), accessFlags := 10, slot := 11, constantValue := 0 }, { name := "lineSeparator", type := (.object "java/lang/String"), accessFlags := 10, slot := 12, constantValue := 0 }, { name := "bootLayer", type := (.object "java/lang/ModuleLayer"), accessFlags := 8, slot := 13, constantValue := 0 }]
  methods := #[k18m0, k18m1]
  instanceTypes := #[]
  staticTypes := #[(.object "java/io/InputStream"), (.object "java/io/PrintStream"), (.object "java/io/PrintStream"), (.object "java/io/InputStream"), .int, .int, .int, (.object "java/lang/SecurityManager"), (.object "java/lang/String"), (.object "java/io/Console"), (.object "java/io/PrintStream"), (.object "java/util/Properties"), (.object "java/lang/String"), (.object "java/lang/ModuleLayer")]
  resolved := Array.replicate 834 none
  statics := none }

def pool19 : Array CpInfo := pool [(9, u "<init>"), (6, .class_ 18), (1, u "java/lang/Object"), (0, u "()V"), (1, .class_ 23), (1, u "jdk/internal/util/ArraysSupport"), (0, u "LOG2_ARRAY_LONG_INDEX_SCALE"), (0, u "I"), (2, u "U"), (0, u "Ljdk/internal/misc/Unsafe;"), (8, u "BIG_ENDIAN"), (0, u "Z"), (8, u "LOG2_BYTE_BIT_SIZE"), (4, u "LOG2_ARRAY_INT_INDEX_SCALE"), (54, u "JLA"), (0, u "Ljdk/internal/access/JavaLangAccess;"), (11, u "LOG2_ARRAY_BOOLEAN_INDEX_SCALE"), (9, u "LOG2_ARRAY_BYTE_INDEX_SCALE"), (5, u "LOG2_ARRAY_CHAR_INDEX_SCALE"), (5, u "LOG2_ARRAY_SHORT_INDEX_SCALE"), (18, u "LOG2_ARRAY_FLOAT_INDEX_SCALE"), (24, u "LOG2_ARRAY_DOUBLE_INDEX_SCALE"), (89, u "T_BOOLEAN"), (2, u "T_CHAR"), (1, u "T_FLOAT"), (1, u "T_DOUBLE"), (1, u "T_BYTE"), (1, u "T_SHORT"), (1, u "T_INT"), (1, u "T_LONG"), (1, u "SOFT_MAX_ARRAY_LENGTH")] 83

def k19m0 : Method := { name := "<init>", desc := "()V", sig := { parameters := [], returnType := none }, accessFlags := 2, code := none }
/-- jdk/internal/util/ArraysSupport -/
def k19 : Class := { plain "jdk/internal/util/ArraysSupport" (some 0) with
  accessFlags := 33
  interfaces := #[]
  cf := some (fileOf pool19 21 #[] #[{ accessFlags := 2, nameIndex := 9, descriptorIndex := 19, attributes := #[] }] 33 16 #[] #[{ accessFlags := 24, nameIndex := 28, descriptorIndex := 29, attributes := #[] }, { accessFlags := 26, nameIndex := 38, descriptorIndex := 39, attributes := #[] }, { accessFlags := 25, nameIndex := 121, descriptorIndex := 25, attributes := #[] }, { accessFlags := 25, nameIndex := 131, descriptorIndex := 25, attributes := #[] }, { accessFlags := 25, nameIndex := 137, descriptorIndex := 25, attributes := #[] }, { accessFlags := 25, nameIndex := 143, descriptorIndex := 25, attributes := #[] }, { accessFlags := 25, nameIndex := 53, descriptorIndex := 25, attributes := #[] }, { accessFlags := 25, nameIndex := 24, descriptorIndex := 25, attributes := #[] }, { accessFlags := 25, nameIndex := 162, descriptorIndex := 25, attributes := #[] }, { accessFlags := 25, nameIndex := 187, descriptorIndex := 25, attributes := #[] }, { accessFlags := 26, nameIndex := 48, descriptorIndex := 25, attributes := #[] }, { accessFlags := 25, nameIndex := 277, descriptorIndex := 25, attributes := #[] }, { accessFlags := 25, nameIndex := 280, descriptorIndex := 25, attributes := #[] }, { accessFlags := 25, nameIndex := 282, descriptorIndex := 25, attributes := #[] }, { accessFlags := 25, nameIndex := 284, descriptorIndex := 25, attributes := #[] }, { accessFlags := 25, nameIndex := 286, descriptorIndex := 25, attributes := #[] }, { accessFlags := 25, nameIndex := 288, descriptorIndex := 25, attributes := #[] }, { accessFlags := 25, nameIndex := 290, descriptorIndex := 25, attributes := #[] }, { accessFlags := 25, nameIndex := 292, descriptorIndex := 25, attributes := #[] }, { accessFlags := 26, nameIndex := 108, descriptorIndex := 109, attributes := #[] }, { accessFlags := 25, nameIndex := 294, descriptorIndex := 25, attributes := #[] }])
  fields := #[{ name := "U", type := (.object "jdk/internal/misc/Unsafe"), accessFlags := 24, slot := 0, constantValue := 0 }, { name := "BIG_ENDIAN", type := .boolean, accessFlags := 26, slot := 1, constantValue := 0 }, { name := "LOG2_ARRAY_BOOLEAN_INDEX_SCALE", type := .int, accessFlags := 25, slot := 2, constantValue := 0 }, { name := "LOG2_ARRAY_BYTE_INDEX_SCALE", type := .int, accessFlags := 25, slot := 3, constantValue := 0 }, { name := "LOG2_ARRAY_CHAR_INDEX_SCALE", type := .int, accessFlags := 25, slot := 4, constantValue := 0 }, { name := "LOG2_ARRAY_SHORT_INDEX_SCALE", type := .int, accessFlags := 25, slot := 5, constantValue := 0 }, { name := "LOG2_ARRAY_INT_INDEX_SCALE", type := .int, accessFlags := 25, slot := 6, constantValue := 0 }, { name := "LOG2_ARRAY_LONG_INDEX_SCALE", type := .int, accessFlags := 25, slot := 7, constantValue := 0 }, { name := "LOG2_ARRAY_FLOAT_INDEX_SCALE", type := .int, accessFlags := 25, slot := 8, constantValue := 0 }, { name := "LOG2_ARRAY_DOUBLE_INDEX_SCALE", type := .int, accessFlags := 25, slot := 9, constantValue := 0 }, { name := "LOG2_BYTE_BIT_SIZE", type := .int, accessFlags := 26, slot := 10, constantValue := 0 }, { name := "T_BOOLEAN", type := .int, accessFlags := 25, slot := 11, constantValue := 0 }, { name := "T_CHAR", type := .int, accessFlags := 25, slot := 12, constantValue := 0 }, { name := "T_FLOAT", type := .int, accessFlags := 25, slot := 13, constantValue := 0 }, { name := "T_DOUBLE", type := .int, accessFlags := 25, slot := 14, constantValue := 0 }, { name := "T_BYTE", type := .int, accessFlags := 25, slot := 15, constantValue := 0 }, { name := "T_SHORT", type := .int, accessFlags := 25, slot := 16, constantValue := 0 }, { name := "T_INT", type := .int, accessFlags := 25, slot := 17, constantValue := 0 }, { name := "T_LONG", type := .int, accessFlags := 25, slot := 18, constantValue := 0 }, { name := "JLA", type := (.object "jdk/internal/access/JavaLangAccess"), accessFlags := 26, slot := 19, constantValue := 0 }, { name := "SOFT_MAX_ARRAY_LENGTH", type := .int, accessFlags := 25, slot := 20, constantValue := 0 }]
  methods := #[k19m0]
  instanceTypes := #[]
  staticTypes := #[(.object "jdk/internal/misc/Unsafe"), .boolean, .int, .int, .int, .int, .int, .int, .int, .int, .int, .int, .int, .int, .int, .int, .int, .int, .int, (.object "jdk/internal/access/JavaLangAccess"), .int]
  resolved := Array.replicate 378 none
  statics := none }

def pool20 : Array CpInfo := pool [(1, u "java/lang/Cloneable"), (0, .class_ 1), (0, u "java/lang/Object"), (0, .class_ 3)] 3

/-- java/lang/Cloneable -/
def k20 : Class := { plain "java/lang/Cloneable" (some 0) with
  accessFlags := 1537
  interfaces := #[]
  cf := some (fileOf pool20 2 #[] #[] 1537 4 #[] #[])
  fields := #[]
  methods := #[]
  instanceTypes := #[]
  staticTypes := #[]
  resolved := Array.replicate 8 none
  statics := none }

/-- the primitive byte -/
def k21 : Class := { plain "byte" none with kind := .primitive 'B', accessFlags := 0x411 }
/-- [B -/
def k22 : Class := { plain "[B" (some 0) with kind := .array 21 .byte, interfaces := #[20, 2], accessFlags := 1041 }

/-- the primitive char -/
def k23 : Class := { plain "char" none with kind := .primitive 'C', accessFlags := 0x411 }
/-- [C -/
def k24 : Class := { plain "[C" (some 0) with kind := .array 23 .char, interfaces := #[20, 2], accessFlags := 1041 }

/-- the primitive int -/
def k25 : Class := { plain "int" none with kind := .primitive 'I', accessFlags := 0x411 }
/-- [I -/
def k26 : Class := { plain "[I" (some 0) with kind := .array 25 .int, interfaces := #[20, 2], accessFlags := 1041 }

def heap : Heap := #[{ cls := 7, slots := #[.long 0, .int 1, .null, .int 0, .null, .int 0, .int 0], vm := .statics 7 },
  { cls := 14, slots := #[.null, .null, .null], vm := .statics 14 },
  { cls := 16, slots := #[.null, .null, .ref 4, .ref 5, .null], vm := .statics 16 },
  { cls := 19, slots := #[], vm := .none },
  { cls := 16, slots := #[], vm := .none },
  { cls := 26, slots := #[.int 1207963663, .int 1207963663, .int 1207963663, .int 1207963663, .int 1207963663, .int 1207963663, .int 1207963663, .int 1207963663, .int 1207963663, .int 1476411407, .int 1342193679, .int 1476411407, .int 1610629135, .int 1342193679, .int 1207963663, .int 1207963663, .int 1207963663, .int 1207963663, .int 1207963663, .int 1207963663, .int 1207963663, .int 1207963663, .int 1207963663, .int 1207963663, .int 1207963663, .int 1207963663, .int 1207963663, .int 1207963663, .int 1342193679, .int 1342193679, .int 1342193679, .int 1476411407, .int 1610629132, .int 1744830488, .int 1744830488, .int 671088664, .int 671113242, .int 671088664, .int 1744830488, .int 1744830488, .int (-402653163), .int (-402653162), .int 1744830488, .int 536870937, .int 939524120, .int 536870932, .int 939524120, .int 939524120, .int 402667017, .int 402667017, .int 402667017, .int 402667017, .int 402667017, .int 402667017, .int 402667017, .int 402667017, .int 402667017, .int 402667017, .int 939524120, .int 1744830488, .int (-402653159), .int 1744830489, .int (-402653159), .int 1744830488, .int 1744830488, .int 8552417, .int 8552417, .int 8552417, .int 8552417, .int 8552417, .int 8552417, .int 8552417, .int 8552417, .int 8552417, .int 8552417, .int 8552417, .int 8552417, .int 8552417, .int 8552417, .int 8552417, .int 8552417, .int 8552417, .int 8552417, .int 8552417, .int 8552417, .int 8552417, .int 8552417, .int 8552417, .int 8552417, .int 8552417, .int 8552417, .int (-402653163), .int 1744830488, .int (-402653162), .int 1744830491, .int 1744850967, .int 1744830491, .int 8486882, .int 8486882, .int 8486882, .int 8486882, .int 8486882, .int 8486882, .int 8486882, .int 8486882, .int 8486882, .int 8486882, .int 8486882, .int 8486882, .int 8486882, .int 8486882, .int 8486882, .int 8486882, .int 8486882, .int 8486882, .int 8486882, .int 8486882, .int 8486882, .int 8486882, .int 8486882, .int 8486882, .int 8486882, .int 8486882, .int (-402653163), .int 1744830489, .int (-402653162), .int 1744830489, .int 1207963663, .int 1207963663, .int 1207963663, .int 1207963663, .int 1207963663, .int 1207963663, .int 1342181391, .int 1207963663, .int 1207963663, .int 1207963663, .int 1207963663, .int 1207963663, .int 1207963663, .int 1207963663, .int 1207963663, .int 1207963663, .int 1207963663, .int 1207963663, .int 1207963663, .int 1207963663, .int 1207963663, .int 1207963663, .int 1207963663, .int 1207963663, .int 1207963663, .int 1207963663, .int 1207963663, .int 1207963663, .int 1207963663, .int 1207963663, .int 1207963663, .int 1207963663, .int 1207963663, .int 939524108, .int 1744830488, .int 671113242, .int 671113242, .int 671113242, .int 671113242, .int 1744830492, .int 1744830488, .int 1744830491, .int 1744830492, .int 28677, .int (-402653155), .int 1744830489, .int 1207963664, .int 1744830492, .int 1744830491, .int 671088668, .int 671088665, .int 402654731, .int 402654731, .int 1744830491, .int 134049794, .int 1744830488, .int 1744830488, .int 1744830491, .int 402654475, .int 28677, .int (-402653154), .int 1744832523, .int 1744832523, .int 1744832523, .int 1744830488, .int 8548353, .int 8548353, .int 8548353, .int 8548353, .int 8548353, .int 8548353, .int 8548353, .int 8548353, .int 8548353, .int 8548353, .int 8548353, .int 8548353, .int 8548353, .int 8548353, .int 8548353, .int 8548353, .int 8548353, .int 8548353, .int 8548353, .int 8548353, .int 8548353, .int 8548353, .int 8548353, .int 1744830489, .int 8548353, .int 8548353, .int 8548353, .int 8548353, .int 8548353, .int 8548353, .int 8548353, .int 134049794, .int 8482818, .int 8482818, .int 8482818, .int 8482818, .int 8482818, .int 8482818, .int 8482818, .int 8482818, .int 8482818, .int 8482818, .int 8482818, .int 8482818, .int 8482818, .int 8482818, .int 8482818, .int 8482818, .int 8482818, .int 8482818, .int 8482818, .int 8482818, .int 8482818, .int 8482818, .int 8482818, .int 1744830489, .int 8482818, .int 8482818, .int 8482818, .int 8482818, .int 8482818, .int 8482818, .int 8482818, .int 102592514], vm := .none }]
def classes : Array Class := #[k0, k1, k2, k3, k4, k5, k6, k7, k8, k9, k10, k11, k12, k13, k14, k15, k16, k17, k18, k19, k20, k21, k22, k23, k24, k25, k26]
def interned : List (Array UInt16 × Addr) := []
def slotsUsed : Nat := 271
def theMethod : MethodId := ⟨1, 4⟩
def args0 : Array Value := #[.int 5, .int 5, .int 5, .int 5, .int 5, .int 5]
def aboutOver (below : List Frame) : State where
  vm := { classes := classes, interned := interned.toArray }
  heap := heap
  slotsUsed := slotsUsed
  threads := #[{ frames := .invoking theMethod args0 :: below }]
def below0 : List Frame := [.native { method := ⟨0, 0⟩, args := #[] }]
def about1 : State := aboutOver below0
def p0 : Program := .bare "" "" ""
def e0 : Env := launch0.env 0 0 0
theorem w_frames : about1.frames = Frame.invoking theMethod args0 :: below0 := rfl
set_option maxRecDepth 65536 in
theorem w_args : argsFit about1.vm theMethod args0 = true := by decide +kernel
set_option maxRecDepth 65536 in
theorem w_heap : heapFits about1 = true := by decide +kernel
set_option maxRecDepth 65536 in
theorem w_runnable : about1.curStatus? = some .runnable := by decide +kernel
set_option maxRecDepth 65536 in
theorem w_alone : about1.alone = true := by decide +kernel
set_option maxRecDepth 65536 in
theorem w_named : about1.methodNamed? x = some theMethod := by decide +kernel
set_option maxRecDepth 65536 in
theorem w_hears : about1.hears theMethod below0 = true := by decide +kernel
set_option maxRecDepth 65536 in
theorem w_ripe : about1.ripe theMethod args0 below0 = true := by decide +kernel
theorem w_running : about1.status = .running := rfl
set_option maxRecDepth 65536 in
theorem w_room : about1.hasRoom e0.platform room_1 = true :=
  launch0.hasRoom_least _ room_1 (by decide +kernel) (by decide +kernel) (by decide +kernel) (by decide +kernel) (by decide +kernel) (by decide +kernel)
theorem allAtoms_all (ts : List Jvm.Cond) (a : Array Jvm.Value) (st : Jvm.State) : (allAtoms ts).before a st = ts.all (fun c => c.before a st) := by
  induction ts with
  | nil => rfl
  | cons c t ih =>
    show (Jvm.Cond.and c (allAtoms t)).before a st = _
    rw [Jvm.Cond.before_and, ih, List.all_cons]
def words1 : List Jvm.Cond := Jvm.Cond.code x code maxLocals ret :: tables_1
/-- a 'code' word, met by the world's own term for the bytes: nothing is compared byte by byte -/
theorem code_word {y : MethodName} {bytes : ByteArray} {mx : Nat} {rt : Option FieldType} {a : Array Value} {s : State} {m : MethodId} {meth : Method} {c : Code} (h1 : s.methodNamed? y = some m) (h2 : s.vm.method? m = some meth) (h3 : meth.code = some c) (h4 : c.code = bytes)
    (h5 : (c.maxLocals == mx && c.exceptionTable.isEmpty && decide (c.maxStack ≤ mostOperands) && decide (meth.sig.returnType = rt) && !meth.locks && decide (parseMethodDescriptor y.desc = some meth.sig)) = true) : (Jvm.Cond.code y bytes mx rt).before a s = true := by
  simp only [Bool.and_eq_true, beq_iff_eq, Bool.not_eq_true', decide_eq_true_eq] at h5
  obtain ⟨⟨⟨⟨⟨g1, g2⟩, g3⟩, g4⟩, g5⟩, g6⟩ := h5
  simp [Cond.before, Cond.holds, Cond.value, h1, h2, h3, h4, g1, g2, g3, g4, g5, g6]
def isCode : Jvm.Cond → Bool
  | .code _ _ _ _ => true
  | _ => false
theorem all_split {L : List Jvm.Cond} {P : Jvm.Cond → Bool} (h1 : L.all (fun c => isCode c || P c) = true) (h2 : ∀ c ∈ L.filter isCode, P c = true) : L.all P = true := by
  refine List.all_eq_true.mpr fun c hc => ?_
  have h := List.all_eq_true.mp h1 c hc
  rcases Bool.eq_false_or_eq_true (isCode c) with hi | hi
  · exact h2 c (List.mem_filter.mpr ⟨hc, hi⟩)
  · simpa [hi] using h
set_option maxRecDepth 65536 in
theorem w_c0 : (Jvm.Cond.code x code maxLocals ret).before args0 about1 = true := code_word (m := ⟨1, 4⟩) (meth := k1m4) (c := k1c4) (by decide +kernel) rfl rfl rfl (by decide +kernel)
set_option maxRecDepth 65536 in
theorem w_c1 : (Jvm.Cond.code ({ cls := "com/example/abox/abox/InputExceptionFirstLinePinLaw", name := "draw", desc := "(I)C" } : Jvm.MethodName) method_3_code (2 : Nat) (Option.some Jvm.ClassFile.FieldType.char)).before args0 about1 = true := code_word (m := ⟨1, 2⟩) (meth := k1m2) (c := k1c2) (by decide +kernel) rfl rfl rfl (by decide +kernel)
set_option maxRecDepth 65536 in
theorem w_c2 : (Jvm.Cond.code ({ cls := "com/example/abox/abox/InputExceptionFirstLinePinLaw", name := "pick", desc := "(I[C)[C" } : Jvm.MethodName) method_4_code (2 : Nat) (Option.some (Jvm.ClassFile.FieldType.array Jvm.ClassFile.FieldType.char))).before args0 about1 = true := code_word (m := ⟨1, 3⟩) (meth := k1m3) (c := k1c3) (by decide +kernel) rfl rfl rfl (by decide +kernel)
set_option maxRecDepth 65536 in
theorem w_c3 : (Jvm.Cond.code ({ cls := "java/lang/String", name := "<init>", desc := "([C)V" } : Jvm.MethodName) jdk_42_method_3_code (2 : Nat) (Option.none : Option Jvm.ClassFile.FieldType)).before args0 about1 = true := code_word (m := ⟨7, 1⟩) (meth := k7m1) (c := k7c1) (by decide +kernel) rfl rfl rfl (by decide +kernel)
set_option maxRecDepth 65536 in
theorem w_c4 : (Jvm.Cond.code ({ cls := "java/lang/String", name := "<init>", desc := "([CIILjava/lang/Void;)V" } : Jvm.MethodName) jdk_42_method_149_code (6 : Nat) (Option.none : Option Jvm.ClassFile.FieldType)).before args0 about1 = true := code_word (m := ⟨7, 8⟩) (meth := k7m8) (c := k7c8) (by decide +kernel) rfl rfl rfl (by decide +kernel)
set_option maxRecDepth 65536 in
theorem w_c5 : (Jvm.Cond.code ({ cls := "java/lang/Object", name := "<init>", desc := "()V" } : Jvm.MethodName) object_method_1_code (1 : Nat) (Option.none : Option Jvm.ClassFile.FieldType)).before args0 about1 = true := code_word (m := ⟨0, 0⟩) (meth := k0m0) (c := k0c0) (by decide +kernel) rfl rfl rfl (by decide +kernel)
set_option maxRecDepth 65536 in
theorem w_c6 : (Jvm.Cond.code ({ cls := "com/example/abox/abox/InputException", name := "firstLine", desc := "(Ljava/lang/String;)Ljava/lang/String;" } : Jvm.MethodName) prog_9_method_2_code (2 : Nat) (Option.some (Jvm.ClassFile.FieldType.object "java/lang/String"))).before args0 about1 = true := code_word (m := ⟨10, 0⟩) (meth := k10m0) (c := k10c0) (by decide +kernel) rfl rfl rfl (by decide +kernel)
set_option maxRecDepth 65536 in
theorem w_c7 : (Jvm.Cond.code ({ cls := "java/lang/String", name := "indexOf", desc := "(I)I" } : Jvm.MethodName) jdk_42_method_79_code (2 : Nat) (Option.some Jvm.ClassFile.FieldType.int)).before args0 about1 = true := code_word (m := ⟨7, 4⟩) (meth := k7m4) (c := k7c4) (by decide +kernel) rfl rfl rfl (by decide +kernel)
set_option maxRecDepth 65536 in
theorem w_c8 : (Jvm.Cond.code ({ cls := "java/lang/String", name := "indexOf", desc := "(II)I" } : Jvm.MethodName) jdk_42_method_80_code (3 : Nat) (Option.some Jvm.ClassFile.FieldType.int)).before args0 about1 = true := code_word (m := ⟨7, 5⟩) (meth := k7m5) (c := k7c5) (by decide +kernel) rfl rfl rfl (by decide +kernel)
set_option maxRecDepth 65536 in
theorem w_c9 : (Jvm.Cond.code ({ cls := "java/lang/String", name := "isLatin1", desc := "()Z" } : Jvm.MethodName) jdk_42_method_154_code (1 : Nat) (Option.some Jvm.ClassFile.FieldType.boolean)).before args0 about1 = true := code_word (m := ⟨7, 11⟩) (meth := k7m11) (c := k7c11) (by decide +kernel) rfl rfl rfl (by decide +kernel)
set_option maxRecDepth 65536 in
theorem w_c10 : (Jvm.Cond.code ({ cls := "java/lang/String", name := "length", desc := "()I" } : Jvm.MethodName) jdk_42_method_54_code (1 : Nat) (Option.some Jvm.ClassFile.FieldType.int)).before args0 about1 = true := code_word (m := ⟨7, 2⟩) (meth := k7m2) (c := k7c2) (by decide +kernel) rfl rfl rfl (by decide +kernel)
set_option maxRecDepth 65536 in
theorem w_c11 : (Jvm.Cond.code ({ cls := "java/lang/String", name := "coder", desc := "()B" } : Jvm.MethodName) jdk_42_method_152_code (1 : Nat) (Option.some Jvm.ClassFile.FieldType.byte)).before args0 about1 = true := code_word (m := ⟨7, 10⟩) (meth := k7m10) (c := k7c10) (by decide +kernel) rfl rfl rfl (by decide +kernel)
set_option maxRecDepth 65536 in
theorem w_c12 : (Jvm.Cond.code ({ cls := "java/lang/StringLatin1", name := "indexOf", desc := "([BIII)I" } : Jvm.MethodName) jdk_43_method_22_code (4 : Nat) (Option.some Jvm.ClassFile.FieldType.int)).before args0 about1 = true := code_word (m := ⟨11, 3⟩) (meth := k11m3) (c := k11c3) (by decide +kernel) rfl rfl rfl (by decide +kernel)
set_option maxRecDepth 65536 in
theorem w_c13 : (Jvm.Cond.code ({ cls := "java/lang/StringLatin1", name := "canEncode", desc := "(I)Z" } : Jvm.MethodName) jdk_43_method_4_code (1 : Nat) (Option.some Jvm.ClassFile.FieldType.boolean)).before args0 about1 = true := code_word (m := ⟨11, 2⟩) (meth := k11m2) (c := k11c2) (by decide +kernel) rfl rfl rfl (by decide +kernel)
set_option maxRecDepth 65536 in
theorem w_c14 : (Jvm.Cond.code ({ cls := "java/lang/Math", name := "max", desc := "(II)I" } : Jvm.MethodName) jdk_29_method_65_code (2 : Nat) (Option.some Jvm.ClassFile.FieldType.int)).before args0 about1 = true := code_word (m := ⟨12, 1⟩) (meth := k12m1) (c := k12c1) (by decide +kernel) rfl rfl rfl (by decide +kernel)
set_option maxRecDepth 65536 in
theorem w_c15 : (Jvm.Cond.code ({ cls := "java/lang/Math", name := "min", desc := "(II)I" } : Jvm.MethodName) jdk_29_method_69_code (2 : Nat) (Option.some Jvm.ClassFile.FieldType.int)).before args0 about1 = true := code_word (m := ⟨12, 2⟩) (meth := k12m2) (c := k12c2) (by decide +kernel) rfl rfl rfl (by decide +kernel)
set_option maxRecDepth 65536 in
theorem w_c16 : (Jvm.Cond.code ({ cls := "java/lang/String", name := "strip", desc := "()Ljava/lang/String;" } : Jvm.MethodName) jdk_42_method_114_code (2 : Nat) (Option.some (Jvm.ClassFile.FieldType.object "java/lang/String"))).before args0 about1 = true := code_word (m := ⟨7, 7⟩) (meth := k7m7) (c := k7c7) (by decide +kernel) rfl rfl rfl (by decide +kernel)
set_option maxRecDepth 65536 in
theorem w_c17 : (Jvm.Cond.code ({ cls := "java/lang/StringLatin1", name := "strip", desc := "([B)Ljava/lang/String;" } : Jvm.MethodName) jdk_43_method_39_code (4 : Nat) (Option.some (Jvm.ClassFile.FieldType.object "java/lang/String"))).before args0 about1 = true := code_word (m := ⟨11, 7⟩) (meth := k11m7) (c := k11c7) (by decide +kernel) rfl rfl rfl (by decide +kernel)
set_option maxRecDepth 65536 in
theorem w_c18 : (Jvm.Cond.code ({ cls := "java/lang/StringLatin1", name := "indexOfNonWhitespace", desc := "([B)I" } : Jvm.MethodName) jdk_43_method_37_code (4 : Nat) (Option.some Jvm.ClassFile.FieldType.int)).before args0 about1 = true := code_word (m := ⟨11, 5⟩) (meth := k11m5) (c := k11c5) (by decide +kernel) rfl rfl rfl (by decide +kernel)
set_option maxRecDepth 65536 in
theorem w_c19 : (Jvm.Cond.code ({ cls := "java/lang/StringUTF16", name := "compress", desc := "([CII)[B" } : Jvm.MethodName) jdk_52_method_16_code (6 : Nat) (Option.some (Jvm.ClassFile.FieldType.array Jvm.ClassFile.FieldType.byte))).before args0 about1 = true := code_word (m := ⟨13, 2⟩) (meth := k13m2) (c := k13c2) (by decide +kernel) rfl rfl rfl (by decide +kernel)
set_option maxRecDepth 65536 in
theorem w_c20 : (Jvm.Cond.code ({ cls := "java/lang/StringUTF16", name := "compress", desc := "([CI[BII)I" } : Jvm.MethodName) jdk_52_method_21_code (7 : Nat) (Option.some Jvm.ClassFile.FieldType.int)).before args0 about1 = true := code_word (m := ⟨13, 3⟩) (meth := k13m3) (c := k13c3) (by decide +kernel) rfl rfl rfl (by decide +kernel)
set_option maxRecDepth 65536 in
theorem w_c21 : (Jvm.Cond.code ({ cls := "java/lang/StringUTF16", name := "coderFromArrayLen", desc := "([BI)B" } : Jvm.MethodName) jdk_52_method_15_code (2 : Nat) (Option.some Jvm.ClassFile.FieldType.byte)).before args0 about1 = true := code_word (m := ⟨13, 1⟩) (meth := k13m1) (c := k13c1) (by decide +kernel) rfl rfl rfl (by decide +kernel)
set_option maxRecDepth 65536 in
theorem w_c22 : (Jvm.Cond.code ({ cls := "java/lang/StringLatin1", name := "indexOfChar", desc := "([BIII)I" } : Jvm.MethodName) jdk_43_method_23_code (6 : Nat) (Option.some Jvm.ClassFile.FieldType.int)).before args0 about1 = true := code_word (m := ⟨11, 4⟩) (meth := k11m4) (c := k11c4) (by decide +kernel) rfl rfl rfl (by decide +kernel)
set_option maxRecDepth 65536 in
theorem w_c23 : (Jvm.Cond.code ({ cls := "java/lang/String", name := "substring", desc := "(II)Ljava/lang/String;" } : Jvm.MethodName) jdk_42_method_92_code (5 : Nat) (Option.some (Jvm.ClassFile.FieldType.object "java/lang/String"))).before args0 about1 = true := code_word (m := ⟨7, 6⟩) (meth := k7m6) (c := k7c6) (by decide +kernel) rfl rfl rfl (by decide +kernel)
set_option maxRecDepth 65536 in
theorem w_c24 : (Jvm.Cond.code ({ cls := "java/lang/String", name := "checkBoundsBeginEnd", desc := "(III)V" } : Jvm.MethodName) jdk_42_method_158_code (3 : Nat) (Option.none : Option Jvm.ClassFile.FieldType)).before args0 about1 = true := code_word (m := ⟨7, 13⟩) (meth := k7m13) (c := k7c13) (by decide +kernel) rfl rfl rfl (by decide +kernel)
set_option maxRecDepth 65536 in
theorem w_c25 : (Jvm.Cond.code ({ cls := "jdk/internal/util/Preconditions", name := "checkFromToIndex", desc := "(IIILjava/util/function/BiFunction;)I" } : Jvm.MethodName) jdk_41_method_12_code (4 : Nat) (Option.some Jvm.ClassFile.FieldType.int)).before args0 about1 = true := code_word (m := ⟨14, 2⟩) (meth := k14m2) (c := k14c2) (by decide +kernel) rfl rfl rfl (by decide +kernel)
set_option maxRecDepth 65536 in
theorem w_c26 : (Jvm.Cond.code ({ cls := "java/lang/StringLatin1", name := "newString", desc := "([BII)Ljava/lang/String;" } : Jvm.MethodName) jdk_43_method_47_code (3 : Nat) (Option.some (Jvm.ClassFile.FieldType.object "java/lang/String"))).before args0 about1 = true := code_word (m := ⟨11, 9⟩) (meth := k11m9) (c := k11c9) (by decide +kernel) rfl rfl rfl (by decide +kernel)
set_option maxRecDepth 65536 in
theorem w_c27 : (Jvm.Cond.code ({ cls := "com/example/abox/abox/InputExceptionFirstLinePinLaw", name := "ws", desc := "(C)Z" } : Jvm.MethodName) method_2_code (1 : Nat) (Option.some Jvm.ClassFile.FieldType.boolean)).before args0 about1 = true := code_word (m := ⟨1, 1⟩) (meth := k1m1) (c := k1c1) (by decide +kernel) rfl rfl rfl (by decide +kernel)
set_option maxRecDepth 65536 in
theorem w_c28 : (Jvm.Cond.code ({ cls := "java/lang/StringLatin1", name := "getChar", desc := "([BI)C" } : Jvm.MethodName) jdk_43_method_44_code (2 : Nat) (Option.some Jvm.ClassFile.FieldType.char)).before args0 about1 = true := code_word (m := ⟨11, 8⟩) (meth := k11m8) (c := k11c8) (by decide +kernel) rfl rfl rfl (by decide +kernel)
set_option maxRecDepth 65536 in
theorem w_c29 : (Jvm.Cond.code ({ cls := "java/lang/CharacterDataLatin1", name := "isWhitespace", desc := "(I)Z" } : Jvm.MethodName) jdk_116_method_26_code (3 : Nat) (Option.some Jvm.ClassFile.FieldType.boolean)).before args0 about1 = true := code_word (m := ⟨16, 1⟩) (meth := k16m1) (c := k16c1) (by decide +kernel) rfl rfl rfl (by decide +kernel)
set_option maxRecDepth 65536 in
theorem w_c30 : (Jvm.Cond.code ({ cls := "java/lang/CharacterDataLatin1", name := "getProperties", desc := "(I)I" } : Jvm.MethodName) jdk_116_method_1_code (4 : Nat) (Option.some Jvm.ClassFile.FieldType.int)).before args0 about1 = true := code_word (m := ⟨16, 0⟩) (meth := k16m0) (c := k16c0) (by decide +kernel) rfl rfl rfl (by decide +kernel)
set_option maxRecDepth 65536 in
theorem w_c31 : (Jvm.Cond.code ({ cls := "java/lang/StringLatin1", name := "lastIndexOfNonWhitespace", desc := "([B)I" } : Jvm.MethodName) jdk_43_method_38_code (4 : Nat) (Option.some Jvm.ClassFile.FieldType.int)).before args0 about1 = true := code_word (m := ⟨11, 6⟩) (meth := k11m6) (c := k11c6) (by decide +kernel) rfl rfl rfl (by decide +kernel)
set_option maxRecDepth 65536 in
theorem w_c32 : (Jvm.Cond.code ({ cls := "java/lang/String", name := "charAt", desc := "(I)C" } : Jvm.MethodName) jdk_42_method_56_code (2 : Nat) (Option.some Jvm.ClassFile.FieldType.char)).before args0 about1 = true := code_word (m := ⟨7, 3⟩) (meth := k7m3) (c := k7c3) (by decide +kernel) rfl rfl rfl (by decide +kernel)
set_option maxRecDepth 65536 in
theorem w_c33 : (Jvm.Cond.code ({ cls := "java/lang/StringLatin1", name := "charAt", desc := "([BI)C" } : Jvm.MethodName) jdk_43_method_2_code (2 : Nat) (Option.some Jvm.ClassFile.FieldType.char)).before args0 about1 = true := code_word (m := ⟨11, 1⟩) (meth := k11m1) (c := k11c1) (by decide +kernel) rfl rfl rfl (by decide +kernel)
set_option maxRecDepth 65536 in
theorem w_c34 : (Jvm.Cond.code ({ cls := "java/lang/String", name := "checkIndex", desc := "(II)V" } : Jvm.MethodName) jdk_42_method_155_code (2 : Nat) (Option.none : Option Jvm.ClassFile.FieldType)).before args0 about1 = true := code_word (m := ⟨7, 12⟩) (meth := k7m12) (c := k7c12) (by decide +kernel) rfl rfl rfl (by decide +kernel)
set_option maxRecDepth 65536 in
theorem w_c35 : (Jvm.Cond.code ({ cls := "jdk/internal/util/Preconditions", name := "checkIndex", desc := "(IILjava/util/function/BiFunction;)I" } : Jvm.MethodName) jdk_41_method_11_code (3 : Nat) (Option.some Jvm.ClassFile.FieldType.int)).before args0 about1 = true := code_word (m := ⟨14, 1⟩) (meth := k14m1) (c := k14c1) (by decide +kernel) rfl rfl rfl (by decide +kernel)
set_option maxRecDepth 65536 in
theorem w_c36 : (Jvm.Cond.code ({ cls := "java/util/Arrays", name := "copyOfRange", desc := "([BII)[B" } : Jvm.MethodName) jdk_65_method_132_code (3 : Nat) (Option.some (Jvm.ClassFile.FieldType.array Jvm.ClassFile.FieldType.byte))).before args0 about1 = true := code_word (m := ⟨17, 2⟩) (meth := k17m2) (c := k17c2) (by decide +kernel) rfl rfl rfl (by decide +kernel)
set_option maxRecDepth 65536 in
theorem w_c37 : (Jvm.Cond.code ({ cls := "java/util/Arrays", name := "copyOfRangeByte", desc := "([BII)[B" } : Jvm.MethodName) jdk_65_method_133_code (5 : Nat) (Option.some (Jvm.ClassFile.FieldType.array Jvm.ClassFile.FieldType.byte))).before args0 about1 = true := code_word (m := ⟨17, 3⟩) (meth := k17m3) (c := k17c3) (by decide +kernel) rfl rfl rfl (by decide +kernel)
set_option maxRecDepth 65536 in
theorem w_c38 : (Jvm.Cond.code ({ cls := "java/util/Arrays", name := "checkLength", desc := "(II)V" } : Jvm.MethodName) jdk_65_method_131_code (2 : Nat) (Option.none : Option Jvm.ClassFile.FieldType)).before args0 about1 = true := code_word (m := ⟨17, 1⟩) (meth := k17m1) (c := k17c1) (by decide +kernel) rfl rfl rfl (by decide +kernel)
set_option maxRecDepth 65536 in
theorem w_c39 : (Jvm.Cond.code ({ cls := "java/lang/String", name := "<init>", desc := "([BB)V" } : Jvm.MethodName) jdk_42_method_151_code (3 : Nat) (Option.none : Option Jvm.ClassFile.FieldType)).before args0 about1 = true := code_word (m := ⟨7, 9⟩) (meth := k7m9) (c := k7c9) (by decide +kernel) rfl rfl rfl (by decide +kernel)
def codes1 : List Jvm.Cond := [Jvm.Cond.code x code maxLocals ret, Jvm.Cond.code ({ cls := "com/example/abox/abox/InputExceptionFirstLinePinLaw", name := "draw", desc := "(I)C" } : Jvm.MethodName) method_3_code (2 : Nat) (Option.some Jvm.ClassFile.FieldType.char), Jvm.Cond.code ({ cls := "com/example/abox/abox/InputExceptionFirstLinePinLaw", name := "pick", desc := "(I[C)[C" } : Jvm.MethodName) method_4_code (2 : Nat) (Option.some (Jvm.ClassFile.FieldType.array Jvm.ClassFile.FieldType.char)), Jvm.Cond.code ({ cls := "java/lang/String", name := "<init>", desc := "([C)V" } : Jvm.MethodName) jdk_42_method_3_code (2 : Nat) (Option.none : Option Jvm.ClassFile.FieldType), Jvm.Cond.code ({ cls := "java/lang/String", name := "<init>", desc := "([CIILjava/lang/Void;)V" } : Jvm.MethodName) jdk_42_method_149_code (6 : Nat) (Option.none : Option Jvm.ClassFile.FieldType), Jvm.Cond.code ({ cls := "java/lang/Object", name := "<init>", desc := "()V" } : Jvm.MethodName) object_method_1_code (1 : Nat) (Option.none : Option Jvm.ClassFile.FieldType), Jvm.Cond.code ({ cls := "com/example/abox/abox/InputException", name := "firstLine", desc := "(Ljava/lang/String;)Ljava/lang/String;" } : Jvm.MethodName) prog_9_method_2_code (2 : Nat) (Option.some (Jvm.ClassFile.FieldType.object "java/lang/String")), Jvm.Cond.code ({ cls := "java/lang/String", name := "indexOf", desc := "(I)I" } : Jvm.MethodName) jdk_42_method_79_code (2 : Nat) (Option.some Jvm.ClassFile.FieldType.int), Jvm.Cond.code ({ cls := "java/lang/String", name := "indexOf", desc := "(II)I" } : Jvm.MethodName) jdk_42_method_80_code (3 : Nat) (Option.some Jvm.ClassFile.FieldType.int), Jvm.Cond.code ({ cls := "java/lang/String", name := "isLatin1", desc := "()Z" } : Jvm.MethodName) jdk_42_method_154_code (1 : Nat) (Option.some Jvm.ClassFile.FieldType.boolean), Jvm.Cond.code ({ cls := "java/lang/String", name := "length", desc := "()I" } : Jvm.MethodName) jdk_42_method_54_code (1 : Nat) (Option.some Jvm.ClassFile.FieldType.int), Jvm.Cond.code ({ cls := "java/lang/String", name := "coder", desc := "()B" } : Jvm.MethodName) jdk_42_method_152_code (1 : Nat) (Option.some Jvm.ClassFile.FieldType.byte), Jvm.Cond.code ({ cls := "java/lang/StringLatin1", name := "indexOf", desc := "([BIII)I" } : Jvm.MethodName) jdk_43_method_22_code (4 : Nat) (Option.some Jvm.ClassFile.FieldType.int), Jvm.Cond.code ({ cls := "java/lang/StringLatin1", name := "canEncode", desc := "(I)Z" } : Jvm.MethodName) jdk_43_method_4_code (1 : Nat) (Option.some Jvm.ClassFile.FieldType.boolean), Jvm.Cond.code ({ cls := "java/lang/Math", name := "max", desc := "(II)I" } : Jvm.MethodName) jdk_29_method_65_code (2 : Nat) (Option.some Jvm.ClassFile.FieldType.int), Jvm.Cond.code ({ cls := "java/lang/Math", name := "min", desc := "(II)I" } : Jvm.MethodName) jdk_29_method_69_code (2 : Nat) (Option.some Jvm.ClassFile.FieldType.int), Jvm.Cond.code ({ cls := "java/lang/String", name := "strip", desc := "()Ljava/lang/String;" } : Jvm.MethodName) jdk_42_method_114_code (2 : Nat) (Option.some (Jvm.ClassFile.FieldType.object "java/lang/String")), Jvm.Cond.code ({ cls := "java/lang/StringLatin1", name := "strip", desc := "([B)Ljava/lang/String;" } : Jvm.MethodName) jdk_43_method_39_code (4 : Nat) (Option.some (Jvm.ClassFile.FieldType.object "java/lang/String")), Jvm.Cond.code ({ cls := "java/lang/StringLatin1", name := "indexOfNonWhitespace", desc := "([B)I" } : Jvm.MethodName) jdk_43_method_37_code (4 : Nat) (Option.some Jvm.ClassFile.FieldType.int), Jvm.Cond.code ({ cls := "java/lang/StringUTF16", name := "compress", desc := "([CII)[B" } : Jvm.MethodName) jdk_52_method_16_code (6 : Nat) (Option.some (Jvm.ClassFile.FieldType.array Jvm.ClassFile.FieldType.byte)), Jvm.Cond.code ({ cls := "java/lang/StringUTF16", name := "compress", desc := "([CI[BII)I" } : Jvm.MethodName) jdk_52_method_21_code (7 : Nat) (Option.some Jvm.ClassFile.FieldType.int), Jvm.Cond.code ({ cls := "java/lang/StringUTF16", name := "coderFromArrayLen", desc := "([BI)B" } : Jvm.MethodName) jdk_52_method_15_code (2 : Nat) (Option.some Jvm.ClassFile.FieldType.byte), Jvm.Cond.code ({ cls := "java/lang/StringLatin1", name := "indexOfChar", desc := "([BIII)I" } : Jvm.MethodName) jdk_43_method_23_code (6 : Nat) (Option.some Jvm.ClassFile.FieldType.int), Jvm.Cond.code ({ cls := "java/lang/String", name := "substring", desc := "(II)Ljava/lang/String;" } : Jvm.MethodName) jdk_42_method_92_code (5 : Nat) (Option.some (Jvm.ClassFile.FieldType.object "java/lang/String")), Jvm.Cond.code ({ cls := "java/lang/String", name := "checkBoundsBeginEnd", desc := "(III)V" } : Jvm.MethodName) jdk_42_method_158_code (3 : Nat) (Option.none : Option Jvm.ClassFile.FieldType), Jvm.Cond.code ({ cls := "jdk/internal/util/Preconditions", name := "checkFromToIndex", desc := "(IIILjava/util/function/BiFunction;)I" } : Jvm.MethodName) jdk_41_method_12_code (4 : Nat) (Option.some Jvm.ClassFile.FieldType.int), Jvm.Cond.code ({ cls := "java/lang/StringLatin1", name := "newString", desc := "([BII)Ljava/lang/String;" } : Jvm.MethodName) jdk_43_method_47_code (3 : Nat) (Option.some (Jvm.ClassFile.FieldType.object "java/lang/String")), Jvm.Cond.code ({ cls := "com/example/abox/abox/InputExceptionFirstLinePinLaw", name := "ws", desc := "(C)Z" } : Jvm.MethodName) method_2_code (1 : Nat) (Option.some Jvm.ClassFile.FieldType.boolean), Jvm.Cond.code ({ cls := "java/lang/StringLatin1", name := "getChar", desc := "([BI)C" } : Jvm.MethodName) jdk_43_method_44_code (2 : Nat) (Option.some Jvm.ClassFile.FieldType.char), Jvm.Cond.code ({ cls := "java/lang/CharacterDataLatin1", name := "isWhitespace", desc := "(I)Z" } : Jvm.MethodName) jdk_116_method_26_code (3 : Nat) (Option.some Jvm.ClassFile.FieldType.boolean), Jvm.Cond.code ({ cls := "java/lang/CharacterDataLatin1", name := "getProperties", desc := "(I)I" } : Jvm.MethodName) jdk_116_method_1_code (4 : Nat) (Option.some Jvm.ClassFile.FieldType.int), Jvm.Cond.code ({ cls := "java/lang/StringLatin1", name := "lastIndexOfNonWhitespace", desc := "([B)I" } : Jvm.MethodName) jdk_43_method_38_code (4 : Nat) (Option.some Jvm.ClassFile.FieldType.int), Jvm.Cond.code ({ cls := "java/lang/String", name := "charAt", desc := "(I)C" } : Jvm.MethodName) jdk_42_method_56_code (2 : Nat) (Option.some Jvm.ClassFile.FieldType.char), Jvm.Cond.code ({ cls := "java/lang/StringLatin1", name := "charAt", desc := "([BI)C" } : Jvm.MethodName) jdk_43_method_2_code (2 : Nat) (Option.some Jvm.ClassFile.FieldType.char), Jvm.Cond.code ({ cls := "java/lang/String", name := "checkIndex", desc := "(II)V" } : Jvm.MethodName) jdk_42_method_155_code (2 : Nat) (Option.none : Option Jvm.ClassFile.FieldType), Jvm.Cond.code ({ cls := "jdk/internal/util/Preconditions", name := "checkIndex", desc := "(IILjava/util/function/BiFunction;)I" } : Jvm.MethodName) jdk_41_method_11_code (3 : Nat) (Option.some Jvm.ClassFile.FieldType.int), Jvm.Cond.code ({ cls := "java/util/Arrays", name := "copyOfRange", desc := "([BII)[B" } : Jvm.MethodName) jdk_65_method_132_code (3 : Nat) (Option.some (Jvm.ClassFile.FieldType.array Jvm.ClassFile.FieldType.byte)), Jvm.Cond.code ({ cls := "java/util/Arrays", name := "copyOfRangeByte", desc := "([BII)[B" } : Jvm.MethodName) jdk_65_method_133_code (5 : Nat) (Option.some (Jvm.ClassFile.FieldType.array Jvm.ClassFile.FieldType.byte)), Jvm.Cond.code ({ cls := "java/util/Arrays", name := "checkLength", desc := "(II)V" } : Jvm.MethodName) jdk_65_method_131_code (2 : Nat) (Option.none : Option Jvm.ClassFile.FieldType), Jvm.Cond.code ({ cls := "java/lang/String", name := "<init>", desc := "([BB)V" } : Jvm.MethodName) jdk_42_method_151_code (3 : Nat) (Option.none : Option Jvm.ClassFile.FieldType)]
set_option maxRecDepth 65536 in
theorem codes_eq : words1.filter isCode = codes1 := rfl
theorem w_codes : ∀ c ∈ words1.filter isCode, c.before args0 about1 = true := by
  rw [codes_eq]
  intro c hc
  simp only [codes1, List.mem_cons, List.not_mem_nil, or_false] at hc
  rcases hc with rfl | rfl | rfl | rfl | rfl | rfl | rfl | rfl | rfl | rfl | rfl | rfl | rfl | rfl | rfl | rfl | rfl | rfl | rfl | rfl | rfl | rfl | rfl | rfl | rfl | rfl | rfl | rfl | rfl | rfl | rfl | rfl | rfl | rfl | rfl | rfl | rfl | rfl | rfl | rfl
  · exact w_c0
  · exact w_c1
  · exact w_c2
  · exact w_c3
  · exact w_c4
  · exact w_c5
  · exact w_c6
  · exact w_c7
  · exact w_c8
  · exact w_c9
  · exact w_c10
  · exact w_c11
  · exact w_c12
  · exact w_c13
  · exact w_c14
  · exact w_c15
  · exact w_c16
  · exact w_c17
  · exact w_c18
  · exact w_c19
  · exact w_c20
  · exact w_c21
  · exact w_c22
  · exact w_c23
  · exact w_c24
  · exact w_c25
  · exact w_c26
  · exact w_c27
  · exact w_c28
  · exact w_c29
  · exact w_c30
  · exact w_c31
  · exact w_c32
  · exact w_c33
  · exact w_c34
  · exact w_c35
  · exact w_c36
  · exact w_c37
  · exact w_c38
  · exact w_c39
set_option maxRecDepth 65536 in
theorem w_t1 : (words1.take 24).all (fun c => isCode c || c.before args0 about1) = true := by decide +kernel
set_option maxRecDepth 65536 in
theorem w_t2 : ((words1.drop 24).take 24).all (fun c => isCode c || c.before args0 about1) = true := by decide +kernel
set_option maxRecDepth 65536 in
theorem w_t3 : (((words1.drop 24).drop 24).take 24).all (fun c => isCode c || c.before args0 about1) = true := by decide +kernel
set_option maxRecDepth 65536 in
theorem w_t4 : ((((words1.drop 24).drop 24).drop 24).take 24).all (fun c => isCode c || c.before args0 about1) = true := by decide +kernel
set_option maxRecDepth 65536 in
theorem w_t5 : (((((words1.drop 24).drop 24).drop 24).drop 24).take 24).all (fun c => isCode c || c.before args0 about1) = true := by decide +kernel
set_option maxRecDepth 65536 in
theorem w_t6 : ((((((words1.drop 24).drop 24).drop 24).drop 24).drop 24).take 24).all (fun c => isCode c || c.before args0 about1) = true := by decide +kernel
set_option maxRecDepth 65536 in
theorem w_t7 : (((((((words1.drop 24).drop 24).drop 24).drop 24).drop 24).drop 24).take 24).all (fun c => isCode c || c.before args0 about1) = true := by decide +kernel
set_option maxRecDepth 65536 in
theorem w_t8 : (((((((words1.drop 24).drop 24).drop 24).drop 24).drop 24).drop 24).drop 24).all (fun c => isCode c || c.before args0 about1) = true := by decide +kernel
theorem w_tables : (allAtoms (Jvm.Cond.code x code maxLocals ret :: tables_1)).before args0 about1 = true := by
  rw [allAtoms_all]
  show words1.all (fun c => c.before args0 about1) = true
  refine all_split ?_ w_codes
  rw [← List.take_append_drop 24 words1, List.all_append, w_t1, ← List.take_append_drop 24 (words1.drop 24), List.all_append, w_t2, ← List.take_append_drop 24 ((words1.drop 24).drop 24), List.all_append, w_t3, ← List.take_append_drop 24 (((words1.drop 24).drop 24).drop 24), List.all_append, w_t4, ← List.take_append_drop 24 ((((words1.drop 24).drop 24).drop 24).drop 24), List.all_append, w_t5, ← List.take_append_drop 24 (((((words1.drop 24).drop 24).drop 24).drop 24).drop 24), List.all_append, w_t6, ← List.take_append_drop 24 ((((((words1.drop 24).drop 24).drop 24).drop 24).drop 24).drop 24), List.all_append, w_t7, w_t8]
  rfl
set_option maxRecDepth 65536 in
theorem w_rest : rest_1_c.before args0 about1 = true := by decide +kernel
set_option maxRecDepth 65536 in
theorem w_case : (Jvm.Cond.and given_1 narrow_1).before args0 about1 = true := by decide +kernel
set_option maxRecDepth 65536 in
theorem w_consts : constsHeld consts_1 about1 := Jvm.Lit.constsHeldB_iff.mp (by decide +kernel)
theorem w_applies : (headSpec (Jvm.Cond.code x code maxLocals ret :: tables_1) room_1).applies x e0.platform about1 = true :=
  (Spec.applies_iff w_frames).mpr ⟨w_running, w_runnable, w_alone, w_named, w_hears, w_ripe, w_room, w_tables⟩
theorem atStart : AtStart classFile x code maxLocals ret World_1 tables_1 room_1 Calls_1 rest_1 Pre_1 launch0 p0 e0 about1 theMethod args0 below0 :=
  ⟨lists_1, trivial, launch0.admits_env _ _ _, launch0.least_env, fairChoices_fair.cas, fairChoices_fair.clock, w_frames, w_args, w_heap, w_applies, ⟨w_consts, trivial⟩, w_rest, w_case⟩
end start1
theorem witness_1 : WitnessClaimed_1 := ⟨start1.p0, start1.e0, start1.about1, start1.theMethod, start1.args0, start1.below0, start1.atStart⟩
end Jvm.Pilot.@@N@@
