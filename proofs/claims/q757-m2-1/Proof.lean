import JvmDerived
import JvmDerived.Pilot.@@N@@Statement
import JvmDerived.Pilot.@@N@@Code
set_option linter.unusedVariables false
set_option linter.unusedSimpArgs false
/- laws to paste: Road.backV, Road.codOf (cut by pick.py; bodies as the Statement names them) -/
namespace Jvm.Pilot.@@N@@
namespace StrChars
open Jvm Sem ClassFile Op Lib Jvm.Stand Jvm.Free.XT Jvm.Free.ALB Jvm.Free.JM Jvm.Free
open Jvm.Lib.Cold (StaticIs)
/-- a char array whose places are chars -/
def Ch (a : Addr) (A : Cell) (U : State) : Prop := Arr .char a A U ∧ Typed .char A
theorem Ch.mv {a : Addr} {A : Cell} {U U' : State} (h : Ch a A U) (hal : U.vm.Alike U'.vm) (hh : U'.heap = U.heap) : Ch a A U' := ⟨h.1.mv hal hh, h.2⟩
theorem Ch.keep {a : Addr} {A : Cell} {U U' : State} (h : Ch a A U) (hal : U.vm.Alike U'.vm) (hk : U'.heap[a]? = some A) : Ch a A U' := ⟨h.1.keep hal hk, h.2⟩
/-- what place i of a char[]'s cell holds -/
def cv (A : Cell) (i : Nat) : Int32 := match A.slots[i]? with | some (.int x) => x | _ => 0
theorem Ch.get {a : Addr} {A : Cell} {U : State} (h : Ch a A U) {i : Nat} (hi : i < A.slots.size) : A.slots[i]? = some (.int (cv A i)) := by
  have e := Array.getElem?_eq_getElem hi
  have f := h.2 i _ e
  unfold cv; rw [e]
  generalize A.slots[i] = v at f
  cases v <;> simp [fits] at f ⊢
/-- the byte that i2b leaves of a char -/
def lo8 (x : Int32) : Int32 := x.toInt8.toInt32
theorem fits_lo8 (y : Int32) : fits .byte (.int (lo8 y)) = true := by
  have h1 := y.toInt8.le_toInt
  have h2 := y.toInt8.toInt_lt
  simp only [lo8, fits, Bool.and_eq_true, decide_eq_true_eq, Int32.le_iff_toInt_le, Int8.toInt_toInt32, show (-128 : Int32).toInt = -128 from by decide, show (127 : Int32).toInt = 127 from by decide]
  omega
/-- A' is A but that each place j of lo .. hi - 1 holds f j -/
def Laid (A A' : Cell) (lo hi : Nat) (f : Nat → Value) : Prop := A'.cls = A.cls ∧ A'.vm = A.vm ∧ A'.slots.size = A.slots.size ∧ ∀ i, A'.slots[i]? = if lo ≤ i ∧ i < hi then some (f i) else A.slots[i]?
theorem Laid.zero (A : Cell) (lo : Nat) (f : Nat → Value) : Laid A A lo (lo + 0) f := ⟨rfl, rfl, rfl, fun i => by rw [if_neg (by omega)]⟩
theorem Laid.step {A Ak : Cell} {lo k : Nat} {f : Nat → Value} {v : Value} (h : Laid A Ak lo k f) (hlo : lo ≤ k) (hk : k < Ak.slots.size) (hv : v = f k) : Laid A (Ak.setSlot k v) lo (k + 1) f := by
  refine ⟨h.1, h.2.1, by simpa [Cell.setSlot] using h.2.2.1, fun i => ?_⟩
  by_cases e : k = i
  · subst e; rw [Cell.slots_setSlot_self v hk, if_pos (by omega), hv]
  · rw [Cell.slots_setSlot_ne v e, h.2.2.2 i]
    by_cases q : lo ≤ i ∧ i < k
    · rw [if_pos q, if_pos (by omega)]
    · rw [if_neg q, if_neg (by omega)]
def U16 : String := "java/lang/StringUTF16"
namespace Cmp5
def yN : MethodName := ⟨"java/lang/StringUTF16", "compress", "([CI[BII)I"⟩
abbrev yB : ByteArray := jdk_52_method_21_code
theorem d0 : decode yB 0 = .ok (.iconst 0, 1) := by decide +kernel
theorem d1 : decode yB 1 = .ok (.istore 5, 2) := by decide +kernel
theorem d3 : decode yB 3 = .ok (.iload 5, 2) := by decide +kernel
theorem d5 : decode yB 5 = .ok (.iload 4, 2) := by decide +kernel
theorem d7 : decode yB 7 = .ok (.if_icmp (.ge) 37, 3) := by decide +kernel
theorem d10 : decode yB 10 = .ok (.aload_n 0, 1) := by decide +kernel
theorem d11 : decode yB 11 = .ok (.iload_n 1, 1) := by decide +kernel
theorem d12 : decode yB 12 = .ok (.caload, 1) := by decide +kernel
theorem d13 : decode yB 13 = .ok (.istore 6, 2) := by decide +kernel
theorem d15 : decode yB 15 = .ok (.iload 6, 2) := by decide +kernel
theorem d17 : decode yB 17 = .ok (.sipush 255, 3) := by decide +kernel
theorem d20 : decode yB 20 = .ok (.if_icmp (.le) 6, 3) := by decide +kernel
theorem d26 : decode yB 26 = .ok (.aload_n 2, 1) := by decide +kernel
theorem d27 : decode yB 27 = .ok (.iload_n 3, 1) := by decide +kernel
theorem d28 : decode yB 28 = .ok (.iload 6, 2) := by decide +kernel
theorem d30 : decode yB 30 = .ok (.i2b, 1) := by decide +kernel
theorem d31 : decode yB 31 = .ok (.bastore, 1) := by decide +kernel
theorem d32 : decode yB 32 = .ok (.iinc 1 1, 3) := by decide +kernel
theorem d35 : decode yB 35 = .ok (.iinc 3 1, 3) := by decide +kernel
theorem d38 : decode yB 38 = .ok (.iinc 5 1, 3) := by decide +kernel
theorem d41 : decode yB 41 = .ok (.goto (-38), 3) := by decide +kernel
theorem d44 : decode yB 44 = .ok (.iload 4, 2) := by decide +kernel
theorem d46 : decode yB 46 = .ok (.ireturn, 1) := by decide +kernel
def site : List Cond := []
def tab : Cond := tabOf yN yB 7 (some .int) site
def P (b : Addr) (A : Cell) (d : Addr) (B : Cell) (o q len : Nat) (args : Array Value) (s : State) : Prop := args = #[.ref b, .int (Int32.ofNat o), .ref d, .int (Int32.ofNat q), .int (Int32.ofNat len)] ∧ Ch b A s ∧ Arr .byte d B s ∧ b ≠ d ∧ o + len ≤ A.slots.size ∧ q + len ≤ B.slots.size ∧ ∀ i, i < len → ¬ 255 < cv A (o + i)
def E (b : Addr) (A : Cell) (d : Addr) (B : Cell) (o q len : Nat) (r : Option Value) (s u : State) : Prop := r = some (.int (Int32.ofNat len)) ∧ ∃ B', Put d B' s u ∧ Laid B B' q (q + len) (fun j => Value.int (lo8 (cv A (o + (j - q)))))
/-- no char of the range above 255: len; the places written hold each char's low byte -/
theorem law (l : Launch) (b : Addr) (A : Cell) (d : Addr) (B : Cell) (o q len : Nat) : Law l yN 5 5 0 0 yB 7 (some .int) site (P b A d B o q len) (E b A d B o q len) (copyLocs d q len) 0 0 := by
  refine Law.of_walk (plainFor_of_name (by decide +kernel)) (by decide +kernel) (by decide +kernel) (by decide) (fun _ _ h => by rw [h.1]; rfl) (fun _ U U' hal hh h => ⟨h.1, h.2.1.mv hal hh, h.2.2.1.mv hal hh, h.2.2.2⟩) (fun r U U' V V' h1 hal h2 h => ⟨h.1, h.2.elim fun B' q => ⟨B', q.1.mv h1 h2, q.2⟩⟩) ?_
  intro p e s m args below meth c s₁ X0 hexec hbytes hml hret hlk hnm hown hh0 W hP
  obtain ⟨rfl, hA, hB, hne, l1, l2, hp⟩ := hP
  have c1 : Steps p.tables e below (s₁.setTop (entryFrame m #[.ref b, .int (Int32.ofNat o), .ref d, .int (Int32.ofNat q), .int (Int32.ofNat len)] 7)) (s₁.setTop (mkF m 0 #[.val (.ref b), .val (.int (Int32.ofNat o)), .val (.ref d), .val (.int (Int32.ofNat q)), .val (.int (Int32.ofNat len)), .unset, .unset] [])) := entry rfl
  have hA0 := hA.1.mv X0.warmed.alike hh0
  have hB0 := hB.mv X0.warmed.alike hh0
  have a31 := hA.1.2.2.2
  have c2 : Steps p.tables e below (s₁.setTop (entryFrame m #[.ref b, .int (Int32.ofNat o), .ref d, .int (Int32.ofNat q), .int (Int32.ofNat len)] 7)) (s₁.setTop (mkF m 3 #[.val (.ref b), .val (.int (Int32.ofNat o)), .val (.ref d), .val (.int (Int32.ofNat q)), .val (.int (Int32.ofNat len)), .val (.int 0), .unset] [])) := c1.trans (by
    refine iconstV X0.here hexec rfl 0 (hb hbytes d0) (by decide) ?_
    refine XS.istore X0.here hexec rfl (hb hbytes d1) rfl rfl ?_
    exact Steps.refl _)
  have loop : ∀ (r i : Nat), i + r = len → ∀ (z : Slot), (z = .unset ∨ ∃ w, z = .val w ∧ w.category = 1) → ∀ (Tl : State) (Bk : Cell), Stand p l e { frames := 0, locals := 0, cells := 0, slots := 0 } s m #[.ref b, .int (Int32.ofNat o), .ref d, .int (Int32.ofNat q), .int (Int32.ofNat len)] below meth c Tl ([] ++ copyLocs d q i) 0 0 → Put d Bk s₁ Tl → Laid B Bk q (q + i) (fun j => Value.int (lo8 (cv A (o + (j - q))))) →
      Steps p.tables e below (s₁.setTop (entryFrame m #[.ref b, .int (Int32.ofNat o), .ref d, .int (Int32.ofNat q), .int (Int32.ofNat len)] 7)) (Tl.setTop (mkF m 3 #[.val (.ref b), .val (.int (Int32.ofNat (o + i))), .val (.ref d), .val (.int (Int32.ofNat (q + i))), .val (.int (Int32.ofNat len)), .val (.int (Int32.ofNat i)), z] [])) → ∃ (T' : State) (B' : Cell) (z' : Slot), Stand p l e { frames := 0, locals := 0, cells := 0, slots := 0 } s m #[.ref b, .int (Int32.ofNat o), .ref d, .int (Int32.ofNat q), .int (Int32.ofNat len)] below meth c T' ([] ++ copyLocs d q len) 0 0 ∧ Put d B' s₁ T' ∧ Laid B B' q (q + len) (fun j => Value.int (lo8 (cv A (o + (j - q))))) ∧
      Steps p.tables e below (s₁.setTop (entryFrame m #[.ref b, .int (Int32.ofNat o), .ref d, .int (Int32.ofNat q), .int (Int32.ofNat len)] 7)) (T'.setTop (mkF m 3 #[.val (.ref b), .val (.int (Int32.ofNat (o + len))), .val (.ref d), .val (.int (Int32.ofNat (q + len))), .val (.int (Int32.ofNat len)), .val (.int (Int32.ofNat len)), z'] [])) := by
    intro r
    induction r with
    | zero =>
      intro i hi z hz Tl Bk Xl pl fl cl
      have hil : i = len := by omega
      rw [hil] at Xl fl cl
      exact ⟨Tl, Bk, z, Xl, pl, fl, cl⟩
    | succ r ih =>
      intro i hi z hz Tl Bk Xl pl fl cl
      have all := X0.warmed.alike.symm.trans Xl.warmed.alike
      have hAl := hA0.keep all (pl.other hne hA0.1)
      have hBk := hB0.like all pl.1 fl.1 fl.2.1 fl.2.2.1
      have hlt : q + i < Bk.slots.size := by rw [fl.2.2.1]; omega
      have c3 : Steps p.tables e below (s₁.setTop (entryFrame m #[.ref b, .int (Int32.ofNat o), .ref d, .int (Int32.ofNat q), .int (Int32.ofNat len)] 7)) (Tl.setTop (mkF m 12 #[.val (.ref b), .val (.int (Int32.ofNat (o + i))), .val (.ref d), .val (.int (Int32.ofNat (q + i))), .val (.int (Int32.ofNat len)), .val (.int (Int32.ofNat i)), z] [.int (Int32.ofNat (o + i)), .ref b])) := cl.trans (by
        refine XS.iload Xl.here hexec rfl (hb hbytes d3) rfl ?_
        refine XS.iload Xl.here hexec rfl (hb hbytes d5) rfl ?_
        refine XS.icmpNo Xl.here hexec rfl (hb hbytes d7) rfl (ii_ge_f (lt32 (by omega) (by omega))) ?_
        refine XS.aloadN Xl.here hexec rfl (hb hbytes d10) rfl rfl ?_
        refine XS.iloadN Xl.here hexec rfl (hb hbytes d11) rfl ?_
        exact Steps.refl _)
      have c4 : Steps p.tables e below (s₁.setTop (entryFrame m #[.ref b, .int (Int32.ofNat o), .ref d, .int (Int32.ofNat q), .int (Int32.ofNat len)] 7)) (Tl.setTop (mkF m 13 #[.val (.ref b), .val (.int (Int32.ofNat (o + i))), .val (.ref d), .val (.int (Int32.ofNat (q + i))), .val (.int (Int32.ofNat len)), .val (.int (Int32.ofNat i)), z] [.int (cv A (o + i))])) := c3.trans (by
        refine Xl.aget hexec hAl rfl (hA.get (i := o + i) (by omega)) rfl rfl (hb hbytes d12) ?_
        exact Steps.refl _)
      have c5 : Steps p.tables e below (s₁.setTop (entryFrame m #[.ref b, .int (Int32.ofNat o), .ref d, .int (Int32.ofNat q), .int (Int32.ofNat len)] 7)) (Tl.setTop (mkF m 15 #[.val (.ref b), .val (.int (Int32.ofNat (o + i))), .val (.ref d), .val (.int (Int32.ofNat (q + i))), .val (.int (Int32.ofNat len)), .val (.int (Int32.ofNat i)), .val (.int (cv A (o + i)))] [])) := c4.trans (by
        refine XS.istoreS Xl.here hexec rfl (hb hbytes d13) rfl rfl hz ?_
        exact Steps.refl _)
      have c6 : Steps p.tables e below (s₁.setTop (entryFrame m #[.ref b, .int (Int32.ofNat o), .ref d, .int (Int32.ofNat q), .int (Int32.ofNat len)] 7)) (Tl.setTop (mkF m 31 #[.val (.ref b), .val (.int (Int32.ofNat (o + i))), .val (.ref d), .val (.int (Int32.ofNat (q + i))), .val (.int (Int32.ofNat len)), .val (.int (Int32.ofNat i)), .val (.int (cv A (o + i)))] [.int (lo8 (cv A (o + i))), .int (Int32.ofNat (q + i)), .ref d])) := c5.trans (by
        refine XS.iload Xl.here hexec rfl (hb hbytes d15) rfl ?_
        refine sipushV Xl.here hexec rfl 255 (hb hbytes d17) (by decide) ?_
        refine XS.icmpYes Xl.here hexec rfl (pc0 := 20) rfl (hb hbytes d20) rfl (ii_le_t (hp i (by omega))) (by decide) rfl ?_
        refine XS.aloadN Xl.here hexec rfl (hb hbytes d26) rfl rfl ?_
        refine XS.iloadN Xl.here hexec rfl (hb hbytes d27) rfl ?_
        refine XS.iload Xl.here hexec rfl (hb hbytes d28) rfl ?_
        refine i2b Xl.here hexec rfl (hb hbytes d30) rfl ?_
        exact Steps.refl _)
      obtain ⟨T7, X7, p7, st7⟩ := Xl.aput hexec hBk rfl hlt rfl (fits_lo8 (cv A (o + i))) (g := (mkF m 31 #[.val (.ref b), .val (.int (Int32.ofNat (o + i))), .val (.ref d), .val (.int (Int32.ofNat (q + i))), .val (.int (Int32.ofNat len)), .val (.int (Int32.ofNat i)), .val (.int (cv A (o + i)))] [.int (lo8 (cv A (o + i))), .int (Int32.ofNat (q + i)), .ref d])) rfl (rest := []) rfl (hb hbytes d31)
      have c8 : Steps p.tables e below (s₁.setTop (entryFrame m #[.ref b, .int (Int32.ofNat o), .ref d, .int (Int32.ofNat q), .int (Int32.ofNat len)] 7)) (T7.setTop (mkF m 32 #[.val (.ref b), .val (.int (Int32.ofNat (o + i))), .val (.ref d), .val (.int (Int32.ofNat (q + i))), .val (.int (Int32.ofNat len)), .val (.int (Int32.ofNat i)), .val (.int (cv A (o + i)))] [])) := c6.trans (st7 _ (Steps.refl _))
      have c9 : Steps p.tables e below (s₁.setTop (entryFrame m #[.ref b, .int (Int32.ofNat o), .ref d, .int (Int32.ofNat q), .int (Int32.ofNat len)] 7)) (T7.setTop (mkF m 3 #[.val (.ref b), .val (.int (Int32.ofNat (o + i) + 1)), .val (.ref d), .val (.int (Int32.ofNat (q + i) + 1)), .val (.int (Int32.ofNat len)), .val (.int (Int32.ofNat i + 1)), .val (.int (cv A (o + i)))] [])) := c8.trans (by
        refine iincV X7.here hexec rfl 1 (hb hbytes d32) (by decide) rfl rfl ?_
        refine iincV X7.here hexec rfl 1 (hb hbytes d35) (by decide) rfl rfl ?_
        refine iincV X7.here hexec rfl 1 (hb hbytes d38) (by decide) rfl rfl ?_
        refine XS.goto X7.here hexec rfl (pc0 := 41) rfl (hb hbytes d41) (by decide) rfl ?_
        exact Steps.refl _)
      have c10 : Steps p.tables e below (s₁.setTop (entryFrame m #[.ref b, .int (Int32.ofNat o), .ref d, .int (Int32.ofNat q), .int (Int32.ofNat len)] 7)) (T7.setTop (mkF m 3 #[.val (.ref b), .val (.int (Int32.ofNat (o + (i + 1)))), .val (.ref d), .val (.int (Int32.ofNat (q + (i + 1)))), .val (.int (Int32.ofNat len)), .val (.int (Int32.ofNat (i + 1))), .val (.int (cv A (o + i)))] [])) := by
        have := c9
        rw [succ32, succ32, succ32] at this
        exact this
      exact ih (i + 1) (by omega) _ (Or.inr ⟨_, rfl, rfl⟩) T7 _ (by rw [copyLocs_step, ← List.append_assoc]; exact X7) (pl.trans p7) (fl.step (by omega) hlt (by simp)) c10
  obtain ⟨T9, B9, z9, X9, p9, f9, g9⟩ := loop len 0 (by omega) .unset (Or.inl rfl) s₁ B (by simpa [copyLocs] using X0) ⟨hB0.1, fun _ _ => rfl, rfl⟩ (Laid.zero _ _ _) c2
  have c11 : Steps p.tables e below (s₁.setTop (entryFrame m #[.ref b, .int (Int32.ofNat o), .ref d, .int (Int32.ofNat q), .int (Int32.ofNat len)] 7)) (T9.setTop (mkF m 46 #[.val (.ref b), .val (.int (Int32.ofNat (o + len))), .val (.ref d), .val (.int (Int32.ofNat (q + len))), .val (.int (Int32.ofNat len)), .val (.int (Int32.ofNat len)), z9] [.int (Int32.ofNat len)])) := g9.trans (by
    refine XS.iload X9.here hexec rfl (hb hbytes d3) rfl ?_
    refine XS.iload X9.here hexec rfl (hb hbytes d5) rfl ?_
    refine XS.icmpYes X9.here hexec rfl (pc0 := 7) rfl (hb hbytes d7) rfl (ii_ge_t (nlt32 (by omega) (Nat.le_refl _))) (by decide) rfl ?_
    refine XS.iload X9.here hexec rfl (hb hbytes d44) rfl ?_
    exact Steps.refl _)
  exact ⟨T9, some (.int (Int32.ofNat len)), _, _, _, X9, by simp, rfl, rfl, (fun h => by cases h), ⟨rfl, B9, p9.from hh0, f9⟩, fun fs hl => c11.trans (X9.ireturnOut hexec hret rfl (Or.inl rfl) (hb hbytes d46) hl)⟩
end Cmp5
namespace Cmp3
def yN : MethodName := ⟨"java/lang/StringUTF16", "compress", "([CII)[B"⟩
abbrev yB : ByteArray := jdk_52_method_16_code
theorem d0 : decode yB 0 = .ok (.iload_n 2, 1) := by decide +kernel
theorem d1 : decode yB 1 = .ok (.newarray .byte, 2) := by decide +kernel
theorem d3 : decode yB 3 = .ok (.astore_n 3, 1) := by decide +kernel
theorem d4 : decode yB 4 = .ok (.aload_n 0, 1) := by decide +kernel
theorem d5 : decode yB 5 = .ok (.iload_n 1, 1) := by decide +kernel
theorem d6 : decode yB 6 = .ok (.aload_n 3, 1) := by decide +kernel
theorem d7 : decode yB 7 = .ok (.iconst 0, 1) := by decide +kernel
theorem d8 : decode yB 8 = .ok (.iload_n 2, 1) := by decide +kernel
theorem d9 : decode yB 9 = .ok (.invokestatic 115, 3) := by decide +kernel
theorem d12 : decode yB 12 = .ok (.istore 4, 2) := by decide +kernel
theorem d14 : decode yB 14 = .ok (.iload 4, 2) := by decide +kernel
theorem d16 : decode yB 16 = .ok (.iload_n 2, 1) := by decide +kernel
theorem d17 : decode yB 17 = .ok (.if_icmp (.eq) 40, 3) := by decide +kernel
theorem d57 : decode yB 57 = .ok (.aload_n 3, 1) := by decide +kernel
theorem d58 : decode yB 58 = .ok (.areturn, 1) := by decide +kernel
def site : List Cond := [.arrayClass .byte, Cmp5.tab] ++ staticW U16 115 Cmp5.yN
def tab : Cond := tabOf yN yB 6 (some (.array .byte)) site
def P (b : Addr) (A : Cell) (o len : Nat) (args : Array Value) (s : State) : Prop := args = #[.ref b, .int (Int32.ofNat o), .int (Int32.ofNat len)] ∧ Ch b A s ∧ o + len ≤ A.slots.size ∧ len ≤ 536870912 ∧ ∀ i, i < len → ¬ 255 < cv A (o + i)
def E (b : Addr) (A : Cell) (o len : Nat) (r : Option Value) (s u : State) : Prop := NewArr .byte "[B" len (fun j => .int (lo8 (cv A (o + j)))) r s u ∧ u.heap.size = s.heap.size + 1
/-- no char of the range above 255: a new byte[] of their low bytes -/
theorem law (l : Launch) (b : Addr) (A : Cell) (o len : Nat) : Law l yN 3 3 1 18 yB 6 (some (.array .byte)) site (P b A o len) (E b A o len) [] 1 len := by
  refine Law.of_walk (plainFor_of_name (by decide +kernel)) (by decide +kernel) (by decide +kernel) (by decide) (fun _ _ h => by rw [h.1]; rfl) (fun _ U U' hal hh h => ⟨h.1, h.2.1.mv hal hh, h.2.2⟩) (fun r U U' V V' h1 hal h2 h => ⟨NewArr.mv r U U' V V' h1 hal h2 h.1, by rw [h1, h2]; exact h.2⟩) ?_
  intro p e s m args below meth c s₁ X0 hexec hbytes hml hret hlk hnm hown hh0 W hP
  obtain ⟨rfl, hA, l1, l2, hp⟩ := hP
  have a31 := hA.1.2.2.2
  have c1 : Steps p.tables e below (s₁.setTop (entryFrame m #[.ref b, .int (Int32.ofNat o), .int (Int32.ofNat len)] 6)) (s₁.setTop (mkF m 0 #[.val (.ref b), .val (.int (Int32.ofNat o)), .val (.int (Int32.ofNat len)), .unset, .unset, .unset] [])) := entry rfl
  have c2 : Steps p.tables e below (s₁.setTop (entryFrame m #[.ref b, .int (Int32.ofNat o), .int (Int32.ofNat len)] 6)) (s₁.setTop (mkF m 1 #[.val (.ref b), .val (.int (Int32.ofNat o)), .val (.int (Int32.ofNat len)), .unset, .unset, .unset] [.int (Int32.ofNat len)])) := c1.trans (by
    refine XS.iloadN X0.here hexec rfl (hb hbytes d0) rfl ?_
    exact Steps.refl _)
  obtain ⟨T3, B3, X3, ba3, bs3, bv3, bh3, bf3, st3⟩ := X0.anew hexec (atype := .byte) (wk W (.arrayClass .byte)) rfl (by show len * 1 ≤ _; omega) (by omega) (g := (mkF m 1 #[.val (.ref b), .val (.int (Int32.ofNat o)), .val (.int (Int32.ofNat len)), .unset, .unset, .unset] [.int (Int32.ofNat len)])) rfl (hb hbytes d1) (rest := []) rfl (Nat.le_refl _) (by show 0 + len ≤ len; omega)
  rw [hh0] at ba3 st3
  have kp3 : XT.Kept s T3 := (XT.Kept.of_eq hh0).push bh3
  have hA3 := hA.keep X3.warmed.alike (kp3 _ _ hA.1.1)
  have hne : b ≠ s.heap.size := hA.1.ne
  have c4 : Steps p.tables e below (s₁.setTop (entryFrame m #[.ref b, .int (Int32.ofNat o), .int (Int32.ofNat len)] 6)) (T3.setTop (mkF m 3 #[.val (.ref b), .val (.int (Int32.ofNat o)), .val (.int (Int32.ofNat len)), .unset, .unset, .unset] [.ref s.heap.size])) := c2.trans (st3 _ (Steps.refl _))
  have c5 : Steps p.tables e below (s₁.setTop (entryFrame m #[.ref b, .int (Int32.ofNat o), .int (Int32.ofNat len)] 6)) (T3.setTop (mkF m 9 #[.val (.ref b), .val (.int (Int32.ofNat o)), .val (.int (Int32.ofNat len)), .val (.ref s.heap.size), .unset, .unset] [.int (Int32.ofNat len), .int 0, .ref s.heap.size, .int (Int32.ofNat o), .ref b])) := c4.trans (by
    refine XS.astoreN X3.here hexec rfl (hb hbytes d3) rfl rfl rfl ?_
    refine XS.aloadN X3.here hexec rfl (hb hbytes d4) rfl rfl ?_
    refine XS.iloadN X3.here hexec rfl (hb hbytes d5) rfl ?_
    refine XS.aloadN X3.here hexec rfl (hb hbytes d6) rfl rfl ?_
    refine iconstV X3.here hexec rfl 0 (hb hbytes d7) (by decide) ?_
    refine XS.iloadN X3.here hexec rfl (hb hbytes d8) rfl ?_
    exact Steps.refl _)
  obtain ⟨v6, T6, X6, E6, g6⟩ := X3.callS hexec (Cmp5.law l b A s.heap.size B3 o 0 len) hown (wks W (staticW U16 115 Cmp5.yN)) (wk W Cmp5.tab) (W := 0) (Nat.le_of_ble_eq_true rfl) (Nat.le_of_ble_eq_true rfl) (Nat.le_refl _) (by show 0 + len + 0 ≤ len; omega) (g := (mkF m 9 #[.val (.ref b), .val (.int (Int32.ofNat o)), .val (.int (Int32.ofNat len)), .val (.ref s.heap.size), .unset, .unset] [.int (Int32.ofNat len), .int (Int32.ofNat 0), .ref s.heap.size, .int (Int32.ofNat o), .ref b])) rfl (by rw [hml]; rfl) c5 (argsL := [.ref b, .int (Int32.ofNat o), .ref s.heap.size, .int (Int32.ofNat 0), .int (Int32.ofNat len)]) (rest := []) rfl rfl (by show 2 * 0 + 0 ≤ _; decide) (hb hbytes d9) (⟨rfl, hA3, ba3, hne, l1, by rw [bs3]; simp, hp⟩)
  obtain ⟨rfl, B6, p6, f6⟩ := E6
  have c7 : Steps p.tables e below (s₁.setTop (entryFrame m #[.ref b, .int (Int32.ofNat o), .int (Int32.ofNat len)] 6)) (T6.setTop (mkF m 12 #[.val (.ref b), .val (.int (Int32.ofNat o)), .val (.int (Int32.ofNat len)), .val (.ref s.heap.size), .unset, .unset] [.int (Int32.ofNat len)])) := g6
  have c8 : Steps p.tables e below (s₁.setTop (entryFrame m #[.ref b, .int (Int32.ofNat o), .int (Int32.ofNat len)] 6)) (T6.setTop (mkF m 58 #[.val (.ref b), .val (.int (Int32.ofNat o)), .val (.int (Int32.ofNat len)), .val (.ref s.heap.size), .val (.int (Int32.ofNat len)), .unset] [.ref s.heap.size])) := c7.trans (by
    refine XS.istore X6.here hexec rfl (hb hbytes d12) rfl rfl ?_
    refine XS.iload X6.here hexec rfl (hb hbytes d14) rfl ?_
    refine XS.iloadN X6.here hexec rfl (hb hbytes d16) rfl ?_
    refine XS.icmpYes X6.here hexec rfl (pc0 := 17) rfl (hb hbytes d17) rfl (ii_eq_t rfl) (by decide) rfl ?_
    refine XS.aloadN X6.here hexec rfl (hb hbytes d57) rfl rfl ?_
    exact Steps.refl _)
  have X8 := X6.wide (L' := []) (cells' := 1) (slots' := len) (fun x hx hlt => by
    simp only [List.nil_append, copyLocs, List.mem_map, List.mem_range] at hx
    obtain ⟨i, -, rfl⟩ := hx
    exact absurd hlt (Nat.lt_irrefl _)) (Nat.le_refl _) (by omega)
  exact ⟨T6, some (.ref s.heap.size), _, _, _, X8, rfl, rfl, rfl, (fun h => by cases h), ⟨⟨rfl, B6, ba3.like (X3.warmed.alike.symm.trans X6.warmed.alike) p6.1 f6.1 f6.2.1 f6.2.2.1, f6.2.1.trans bv3, by rw [X6.warmed.alike.findClass, f6.1]; exact bf3, by rw [f6.2.2.1, bs3]; simp, fun j hj => by rw [f6.2.2.2 j, if_pos (by omega)]; rfl, kp3.put p6 (Nat.le_refl _)⟩, by rw [p6.2.2, bh3, hh0]; simp⟩, fun fs hl => c8.trans (X8.areturnOut hexec rfl hret rfl (hb hbytes d58) hl)⟩
end Cmp3
namespace CodL
def yN : MethodName := ⟨"java/lang/StringUTF16", "coderFromArrayLen", "([BI)B"⟩
abbrev yB : ByteArray := jdk_52_method_15_code
theorem d0 : decode yB 0 = .ok (.iload_n 1, 1) := by decide +kernel
theorem d1 : decode yB 1 = .ok (.aload_n 0, 1) := by decide +kernel
theorem d2 : decode yB 2 = .ok (.arraylength, 1) := by decide +kernel
theorem d3 : decode yB 3 = .ok (.isub, 1) := by decide +kernel
theorem d4 : decode yB 4 = .ok (.bipush 31, 2) := by decide +kernel
theorem d6 : decode yB 6 = .ok (.iushr, 1) := by decide +kernel
theorem d7 : decode yB 7 = .ok (.i2b, 1) := by decide +kernel
theorem d8 : decode yB 8 = .ok (.ireturn, 1) := by decide +kernel
def site : List Cond := []
def tab : Cond := tabOf yN yB 2 (some .byte) site
def P (d : Addr) (B : Cell) (args : Array Value) (s : State) : Prop := args = #[.ref d, .int (Int32.ofNat B.slots.size)] ∧ Arr .byte d B s
def E (r : Option Value) (s u : State) : Prop := XT.PureE (some (.int 0)) r s u
/-- an array as long as the number of chars: LATIN1 -/
theorem law (l : Launch) (d : Addr) (B : Cell) : Law l yN 2 2 0 0 yB 2 (some .byte) site (P d B) E [] 0 0 := by
  refine Law.of_walk (plainFor_of_name (by decide +kernel)) (by decide +kernel) (by decide +kernel) (by decide) (fun _ _ h => by rw [h.1]; rfl) (fun _ U U' hal hh h => ⟨h.1, h.2.mv hal hh⟩) (fun r U U' V V' h1 hal h2 h => XT.PureE.mv r U U' V V' h1 hal h2 h) ?_
  intro p e s m args below meth c s₁ X0 hexec hbytes hml hret hlk hnm hown hh0 W hP
  obtain ⟨rfl, hB⟩ := hP
  have hB0 := hB.mv X0.warmed.alike hh0
  have c1 : Steps p.tables e below (s₁.setTop (entryFrame m #[.ref d, .int (Int32.ofNat B.slots.size)] 2)) (s₁.setTop (mkF m 0 #[.val (.ref d), .val (.int (Int32.ofNat B.slots.size))] [])) := entry rfl
  have c2 : Steps p.tables e below (s₁.setTop (entryFrame m #[.ref d, .int (Int32.ofNat B.slots.size)] 2)) (s₁.setTop (mkF m 2 #[.val (.ref d), .val (.int (Int32.ofNat B.slots.size))] [.ref d, .int (Int32.ofNat B.slots.size)])) := c1.trans (by
    refine XS.iloadN X0.here hexec rfl (hb hbytes d0) rfl ?_
    refine XS.aloadN X0.here hexec rfl (hb hbytes d1) rfl rfl ?_
    exact Steps.refl _)
  have c3 : Steps p.tables e below (s₁.setTop (entryFrame m #[.ref d, .int (Int32.ofNat B.slots.size)] 2)) (s₁.setTop (mkF m 8 #[.val (.ref d), .val (.int (Int32.ofNat B.slots.size))] [.int (lo8 (ushr (Int32.ofNat B.slots.size - Int32.ofNat B.slots.size) 31))])) := c2.trans (by
    refine X0.alen hexec hB0 rfl rfl (hb hbytes d2) ?_
    refine XS.isub X0.here hexec rfl (hb hbytes d3) rfl ?_
    refine bipushV X0.here hexec rfl 31 (hb hbytes d4) (by decide) ?_
    refine iushr X0.here hexec rfl (hb hbytes d6) rfl ?_
    refine i2b X0.here hexec rfl (hb hbytes d7) rfl ?_
    exact Steps.refl _)
  have e0 : lo8 (ushr (Int32.ofNat B.slots.size - Int32.ofNat B.slots.size) 31) = 0 := by rw [Int32.sub_self]; decide
  rw [e0] at c3
  exact ⟨s₁, some (.int 0), _, _, _, X0, rfl, rfl, rfl, (fun h => by cases h), ⟨rfl, hh0⟩, fun fs hl => c3.trans (X0.ireturnOut hexec hret rfl (Or.inr (Or.inr (Or.inl rfl))) (hb hbytes d8) hl)⟩
end CodL
/-- the String at a is Latin-1 over a new byte[] (the heap's one new cell): the low bytes of the len chars of A from o on; every cell but a is kept -/
def Got (a : Addr) (D : Cell) (fV fC : Field) (A : Cell) (o len : Nat) (r : Option Value) (s u : State) : Prop := r = none ∧ ∃ D' V : Cell, Blank "java/lang/String" a D' u ∧ Same D D' [fV.slot, fC.slot] ∧ D'.slots[fV.slot]? = some (.ref s.heap.size) ∧ D'.slots[fC.slot]? = some (.int 0) ∧ Arr .byte s.heap.size V u ∧ V.vm = .none ∧ u.vm.findClass "[B" = some V.cls ∧ V.slots.size = len ∧ (∀ j, j < len → V.slots[j]? = some (.int (lo8 (cv A (o + j))))) ∧ (∀ (y : Addr) (c : Cell), y ≠ a → s.heap[y]? = some c → u.heap[y]? = some c) ∧ u.heap.size = s.heap.size + 1
theorem Got.mv {a : Addr} {D A : Cell} {fV fC : Field} {o len : Nat} : ∀ r (U U' V V' : State), U'.heap = U.heap → V.vm.Alike V'.vm → V'.heap = V.heap → Got a D fV fC A o len r U V → Got a D fV fC A o len r U' V' :=
  fun r U U' V V' h1 hal h2 ⟨e0, D', X, a1, a2, a3, a4, a5, a6, a7, a8, a9, a10, a11⟩ => ⟨e0, D', X, a1.mv hal h2, a2, by rw [h1]; exact a3, a4, by rw [h1]; exact a5.mv hal h2, a6, by rw [hal.findClass]; exact a7, a8, a9, by rw [h1, h2]; exact a10, by rw [h1, h2]; exact a11⟩
namespace New4
def yN : MethodName := ⟨"java/lang/String", "<init>", "([CIILjava/lang/Void;)V"⟩
abbrev yB : ByteArray := jdk_42_method_149_code
theorem d0 : decode yB 0 = .ok (.aload_n 0, 1) := by decide +kernel
theorem d1 : decode yB 1 = .ok (.invokespecial 1, 3) := by decide +kernel
theorem d4 : decode yB 4 = .ok (.iload_n 3, 1) := by decide +kernel
theorem d5 : decode yB 5 = .ok (.ifCond (.ne) 22, 3) := by decide +kernel
theorem d27 : decode yB 27 = .ok (.getstatic 38, 3) := by decide +kernel
theorem d30 : decode yB 30 = .ok (.ifCond (.eq) 28, 3) := by decide +kernel
theorem d33 : decode yB 33 = .ok (.aload_n 1, 1) := by decide +kernel
theorem d34 : decode yB 34 = .ok (.iload_n 2, 1) := by decide +kernel
theorem d35 : decode yB 35 = .ok (.iload_n 3, 1) := by decide +kernel
theorem d36 : decode yB 36 = .ok (.invokestatic 177, 3) := by decide +kernel
theorem d39 : decode yB 39 = .ok (.astore 5, 2) := by decide +kernel
theorem d41 : decode yB 41 = .ok (.aload_n 0, 1) := by decide +kernel
theorem d42 : decode yB 42 = .ok (.aload 5, 2) := by decide +kernel
theorem d44 : decode yB 44 = .ok (.iload_n 3, 1) := by decide +kernel
theorem d45 : decode yB 45 = .ok (.invokestatic 47, 3) := by decide +kernel
theorem d48 : decode yB 48 = .ok (.putfield 15, 3) := by decide +kernel
theorem d51 : decode yB 51 = .ok (.aload_n 0, 1) := by decide +kernel
theorem d52 : decode yB 52 = .ok (.aload 5, 2) := by decide +kernel
theorem d54 : decode yB 54 = .ok (.putfield 9, 3) := by decide +kernel
theorem d57 : decode yB 57 = .ok (.return_, 1) := by decide +kernel
def site : List Cond := [.fieldLink "java/lang/String" 38 "java/lang/String" "COMPACT_STRINGS" "Z", Cmp3.tab, CodL.tab, .laysFinal "java/lang/String" "java/lang/String" "value" "[B", .fieldLink "java/lang/String" 9 "java/lang/String" "value" "[B", .laysFinal "java/lang/String" "java/lang/String" "coder" "B", .fieldLink "java/lang/String" 15 "java/lang/String" "coder" "B"] ++ objW "java/lang/String" 1 ++ staticW "java/lang/String" 177 Cmp3.yN ++ staticW "java/lang/String" 47 CodL.yN
def tab : Cond := tabOf yN yB 6 none site
def P (a : Addr) (D : Cell) (fV fC : Field) (b : Addr) (A : Cell) (z : Int32) (o len : Nat) (args : Array Value) (s : State) : Prop := args = #[.ref a, .ref b, .int (Int32.ofNat o), .int (Int32.ofNat len), .null] ∧ Blank "java/lang/String" a D s ∧ Found "java/lang/String" "value" "[B" fV s ∧ Found "java/lang/String" "coder" "B" fC s ∧ Ch b A s ∧ StaticIs s "java/lang/String" "COMPACT_STRINGS" "Z" (.int z) ∧ ¬ z = 0 ∧ 0 < len ∧ o + len ≤ A.slots.size ∧ len ≤ 536870912 ∧ ∀ i, i < len → ¬ 255 < cv A (o + i)
def E (a : Addr) (D : Cell) (fV fC : Field) (A : Cell) (o len : Nat) (r : Option Value) (s u : State) : Prop := Got a D fV fC A o len r s u
/-- len > 0, no char of the range above 255: a Latin-1 String of their low bytes -/
theorem law (l : Launch) (a : Addr) (D : Cell) (fV fC : Field) (b : Addr) (A : Cell) (z : Int32) (o len : Nat) : Law l yN 5 4 2 35 yB 6 none site (P a D fV fC b A z o len) (E a D fV fC A o len) [⟨a, fC.slot⟩, ⟨a, fV.slot⟩] 1 len := by
  refine Law.of_walk (plainFor_of_name (by decide +kernel)) (by decide +kernel) (by decide +kernel) (by decide) (fun _ _ h => by rw [h.1]; rfl) (fun _ U U' hal hh h => ⟨h.1, h.2.1.mv hal hh, h.2.2.1.al hal, h.2.2.2.1.al hal, h.2.2.2.2.1.mv hal hh, h.2.2.2.2.2.1.there hal hh, h.2.2.2.2.2.2⟩) (fun r U U' V V' h1 hal h2 h => Got.mv r U U' V V' h1 hal h2 h) ?_
  intro p e s m args below meth c s₁ X0 hexec hbytes hml hret hlk hnm hown hh0 W hP
  obtain ⟨rfl, hB, f1, f2, hA, s1, hz, l0, l1, l2, hp⟩ := hP
  have a31 := hA.1.2.2.2
  have c1 : Steps p.tables e below (s₁.setTop (entryFrame m #[.ref a, .ref b, .int (Int32.ofNat o), .int (Int32.ofNat len), .null] 6)) (s₁.setTop (mkF m 0 #[.val (.ref a), .val (.ref b), .val (.int (Int32.ofNat o)), .val (.int (Int32.ofNat len)), .val .null, .unset] [])) := entry rfl
  have c2 : Steps p.tables e below (s₁.setTop (entryFrame m #[.ref a, .ref b, .int (Int32.ofNat o), .int (Int32.ofNat len), .null] 6)) (s₁.setTop (mkF m 1 #[.val (.ref a), .val (.ref b), .val (.int (Int32.ofNat o)), .val (.int (Int32.ofNat len)), .val .null, .unset] [.ref a])) := c1.trans (by
    refine XS.aloadN X0.here hexec rfl (hb hbytes d0) rfl rfl ?_
    exact Steps.refl _)
  obtain ⟨T3, X3, q3, st3⟩ := X0.oinit hexec hown (wks W (objW "java/lang/String" 1)) (g := (mkF m 1 #[.val (.ref a), .val (.ref b), .val (.int (Int32.ofNat o)), .val (.int (Int32.ofNat len)), .val .null, .unset] [.ref a])) rfl (by rw [hml]; rfl) (rest := []) rfl (hb hbytes d1) (W := 0) (by show 2 * 0 + 0 ≤ _; decide) (Nat.le_of_ble_eq_true rfl) (Nat.le_of_ble_eq_true rfl)
  have hh3 := q3.trans hh0
  have c4 : Steps p.tables e below (s₁.setTop (entryFrame m #[.ref a, .ref b, .int (Int32.ofNat o), .int (Int32.ofNat len), .null] 6)) (T3.setTop (mkF m 27 #[.val (.ref a), .val (.ref b), .val (.int (Int32.ofNat o)), .val (.int (Int32.ofNat len)), .val .null, .unset] [])) := (c2.trans (st3 _ (Steps.refl _))).trans (by
    refine XS.iloadN X3.here hexec rfl (hb hbytes d4) rfl ?_
    refine XS.ifYes X3.here hexec rfl (pc0 := 5) rfl (hb hbytes d5) rfl (i0_ne_t (nz32 (by omega) l0)) (by decide) rfl ?_
    exact Steps.refl _)
  obtain ⟨T5, X5, q5, st5⟩ := X3.sget hexec hown (wk W (.fieldLink "java/lang/String" 38 "java/lang/String" "COMPACT_STRINGS" "Z")) s1 (fun _ _ h => by rw [hh3]; exact h) (g := (mkF m 27 #[.val (.ref a), .val (.ref b), .val (.int (Int32.ofNat o)), .val (.int (Int32.ofNat len)), .val .null, .unset] [])) rfl (hb hbytes d27)
  have hh5 := q5.trans hh3
  have c6 : Steps p.tables e below (s₁.setTop (entryFrame m #[.ref a, .ref b, .int (Int32.ofNat o), .int (Int32.ofNat len), .null] 6)) (T5.setTop (mkF m 30 #[.val (.ref a), .val (.ref b), .val (.int (Int32.ofNat o)), .val (.int (Int32.ofNat len)), .val .null, .unset] [.int z])) := c4.trans (st5 _ (Steps.refl _))
  have c7 : Steps p.tables e below (s₁.setTop (entryFrame m #[.ref a, .ref b, .int (Int32.ofNat o), .int (Int32.ofNat len), .null] 6)) (T5.setTop (mkF m 36 #[.val (.ref a), .val (.ref b), .val (.int (Int32.ofNat o)), .val (.int (Int32.ofNat len)), .val .null, .unset] [.int (Int32.ofNat len), .int (Int32.ofNat o), .ref b])) := c6.trans (by
    refine XS.ifNo X5.here hexec rfl (hb hbytes d30) rfl (i0_eq_f hz) ?_
    refine XS.aloadN X5.here hexec rfl (hb hbytes d33) rfl rfl ?_
    refine XS.iloadN X5.here hexec rfl (hb hbytes d34) rfl ?_
    refine XS.iloadN X5.here hexec rfl (hb hbytes d35) rfl ?_
    exact Steps.refl _)
  obtain ⟨v8, T8, X8, E8, g8⟩ := X5.callS hexec (Cmp3.law l b A o len) hown (wks W (staticW "java/lang/String" 177 Cmp3.yN)) (wk W Cmp3.tab) (W := 0) (Nat.le_of_ble_eq_true rfl) (Nat.le_of_ble_eq_true rfl) (Nat.le_refl _) (by show 0 + len ≤ len; omega) (g := (mkF m 36 #[.val (.ref a), .val (.ref b), .val (.int (Int32.ofNat o)), .val (.int (Int32.ofNat len)), .val .null, .unset] [.int (Int32.ofNat len), .int (Int32.ofNat o), .ref b])) rfl (by rw [hml]; rfl) c7 (argsL := [.ref b, .int (Int32.ofNat o), .int (Int32.ofNat len)]) (rest := []) rfl rfl (by show 2 * 0 + 0 ≤ _; decide) (hb hbytes d36) (⟨rfl, hA.mv X5.warmed.alike hh5, l1, l2, hp⟩)
  obtain ⟨e8, z8⟩ := E8
  obtain ⟨rfl, N, n1, n2, n3, n4, n5, n6⟩ := NewArr.mv _ T5 s _ _ hh5.symm (Vm.Alike.refl _) rfl e8
  rw [hh5] at z8
  have hB1 := hB.keep X8.warmed.alike (n6 _ _ hB.1)
  have hne : s.heap.size ≠ a := (Nat.ne_of_lt (Array.getElem?_eq_some_iff.mp hB.1).1).symm
  have c9 : Steps p.tables e below (s₁.setTop (entryFrame m #[.ref a, .ref b, .int (Int32.ofNat o), .int (Int32.ofNat len), .null] 6)) (T8.setTop (mkF m 39 #[.val (.ref a), .val (.ref b), .val (.int (Int32.ofNat o)), .val (.int (Int32.ofNat len)), .val .null, .unset] [.ref s.heap.size])) := g8
  have c10 : Steps p.tables e below (s₁.setTop (entryFrame m #[.ref a, .ref b, .int (Int32.ofNat o), .int (Int32.ofNat len), .null] 6)) (T8.setTop (mkF m 45 #[.val (.ref a), .val (.ref b), .val (.int (Int32.ofNat o)), .val (.int (Int32.ofNat len)), .val .null, .val (.ref s.heap.size)] [.int (Int32.ofNat N.slots.size), .ref s.heap.size, .ref a])) := by
    have hc : Steps p.tables e below (s₁.setTop (entryFrame m #[.ref a, .ref b, .int (Int32.ofNat o), .int (Int32.ofNat len), .null] 6)) (T8.setTop (mkF m 45 #[.val (.ref a), .val (.ref b), .val (.int (Int32.ofNat o)), .val (.int (Int32.ofNat len)), .val .null, .val (.ref s.heap.size)] [.int (Int32.ofNat len), .ref s.heap.size, .ref a])) := c9.trans (by
      refine XS.astore X8.here hexec rfl (hb hbytes d39) rfl rfl rfl ?_
      refine XS.aloadN X8.here hexec rfl (hb hbytes d41) rfl rfl ?_
      refine XS.aload X8.here hexec rfl (hb hbytes d42) rfl rfl ?_
      refine XS.iloadN X8.here hexec rfl (hb hbytes d44) rfl ?_
      exact Steps.refl _)
    rw [n4]; exact hc
  obtain ⟨v11, T11, X11, E11, g11⟩ := X8.callS hexec (CodL.law l s.heap.size N) hown (wks W (staticW "java/lang/String" 47 CodL.yN)) (wk W CodL.tab) (W := 1) (Nat.le_of_ble_eq_true rfl) (Nat.le_of_ble_eq_true rfl) (Nat.le_refl _) (by show 0 + len + 0 ≤ len; omega) (g := (mkF m 45 #[.val (.ref a), .val (.ref b), .val (.int (Int32.ofNat o)), .val (.int (Int32.ofNat len)), .val .null, .val (.ref s.heap.size)] [.int (Int32.ofNat N.slots.size), .ref s.heap.size, .ref a])) rfl (by rw [hml]; rfl) c10 (argsL := [.ref s.heap.size, .int (Int32.ofNat N.slots.size)]) (rest := [.ref a]) rfl rfl (by show 2 * 0 + (1 + 0) ≤ _; decide) (hb hbytes d45) (⟨rfl, n1⟩)
  obtain ⟨rfl, q11⟩ := E11
  have hB11 := hB1.mv (X8.warmed.alike.symm.trans X11.warmed.alike) q11
  have c12 : Steps p.tables e below (s₁.setTop (entryFrame m #[.ref a, .ref b, .int (Int32.ofNat o), .int (Int32.ofNat len), .null] 6)) (T11.setTop (mkF m 48 #[.val (.ref a), .val (.ref b), .val (.int (Int32.ofNat o)), .val (.int (Int32.ofNat len)), .val .null, .val (.ref s.heap.size)] [.int 0, .ref a])) := g11
  obtain ⟨T13, X13, p13, bl13, sl13, st13⟩ := X11.finit hexec hown (wk W (.fieldLink "java/lang/String" 15 "java/lang/String" "coder" "B")) (Or.inr ⟨_, (wk W (.laysFinal "java/lang/String" "java/lang/String" "coder" "B"))⟩) (Or.inl ⟨rfl, hnm⟩) f2 (Or.inl rfl) hB11 (t := .byte) (by decide +kernel) rfl (g := (mkF m 48 #[.val (.ref a), .val (.ref b), .val (.int (Int32.ofNat o)), .val (.int (Int32.ofNat len)), .val .null, .val (.ref s.heap.size)] [.int 0, .ref a])) rfl (rest := []) rfl (hb hbytes d48)
  have c14 : Steps p.tables e below (s₁.setTop (entryFrame m #[.ref a, .ref b, .int (Int32.ofNat o), .int (Int32.ofNat len), .null] 6)) (T13.setTop (mkF m 54 #[.val (.ref a), .val (.ref b), .val (.int (Int32.ofNat o)), .val (.int (Int32.ofNat len)), .val .null, .val (.ref s.heap.size)] [.ref s.heap.size, .ref a])) := (c12.trans (st13 _ (Steps.refl _))).trans (by
    refine XS.aloadN X13.here hexec rfl (hb hbytes d51) rfl rfl ?_
    refine XS.aload X13.here hexec rfl (hb hbytes d52) rfl rfl ?_
    exact Steps.refl _)
  obtain ⟨T15, X15, p15, bl15, sl15, st15⟩ := X13.finit hexec hown (wk W (.fieldLink "java/lang/String" 9 "java/lang/String" "value" "[B")) (Or.inr ⟨_, (wk W (.laysFinal "java/lang/String" "java/lang/String" "value" "[B"))⟩) (Or.inl ⟨rfl, hnm⟩) f1 (Or.inl rfl) bl13 (t := (.array .byte)) (by decide +kernel) rfl (g := (mkF m 54 #[.val (.ref a), .val (.ref b), .val (.int (Int32.ofNat o)), .val (.int (Int32.ofNat len)), .val .null, .val (.ref s.heap.size)] [.ref s.heap.size, .ref a])) rfl (rest := []) rfl (hb hbytes d54)
  have c16 : Steps p.tables e below (s₁.setTop (entryFrame m #[.ref a, .ref b, .int (Int32.ofNat o), .int (Int32.ofNat len), .null] 6)) (T15.setTop (mkF m 57 #[.val (.ref a), .val (.ref b), .val (.int (Int32.ofNat o)), .val (.int (Int32.ofNat len)), .val .null, .val (.ref s.heap.size)] [])) := c14.trans (st15 _ (Steps.refl _))
  have ap := apart (Or.inr ⟨_, (wk W (.laysFinal "java/lang/String" "java/lang/String" "value" "[B"))⟩) (Or.inr ⟨_, (wk W (.laysFinal "java/lang/String" "java/lang/String" "coder" "B"))⟩) f1 f2 (t₁ := .array .byte) (t₂ := .byte) (by decide +kernel) (by decide +kernel) (by decide)
  have al := X8.warmed.alike.symm.trans X15.warmed.alike
  have n7 : T11.heap[s.heap.size]? = some N := by rw [q11]; exact n1.1
  exact ⟨T15, none, _, _, _, X15, by simp, rfl, by omega, (fun _ => rfl), ⟨rfl, _, N, bl15, ((Same.refl D _).set _ (by simp)).set _ (by simp), sl15, (Cell.slots_setSlot_ne _ ap).trans sl13, n1.keep al (p15.other hne (p13.other hne n7)), n2, by rw [al.findClass]; exact n3, n4, n5, fun y c h1 h2 => p15.other h1 (p13.other h1 (by rw [q11]; exact n6 y c h2)), by rw [p15.2.2, p13.2.2, q11]; exact z8⟩, fun fs hl => c16.trans (X15.returnOut hexec hret (hb hbytes d57) hl)⟩
end New4
namespace New1
def yN : MethodName := ⟨"java/lang/String", "<init>", "([C)V"⟩
abbrev yB : ByteArray := jdk_42_method_3_code
theorem d0 : decode yB 0 = .ok (.aload_n 0, 1) := by decide +kernel
theorem d1 : decode yB 1 = .ok (.aload_n 1, 1) := by decide +kernel
theorem d2 : decode yB 2 = .ok (.iconst 0, 1) := by decide +kernel
theorem d3 : decode yB 3 = .ok (.aload_n 1, 1) := by decide +kernel
theorem d4 : decode yB 4 = .ok (.arraylength, 1) := by decide +kernel
theorem d5 : decode yB 5 = .ok (.aconst_null, 1) := by decide +kernel
theorem d6 : decode yB 6 = .ok (.invokespecial 27, 3) := by decide +kernel
theorem d9 : decode yB 9 = .ok (.return_, 1) := by decide +kernel
def site : List Cond := [New4.tab] ++ initW "java/lang/String" 27 New4.yN
def tab : Cond := tabOf yN yB 2 none site
def P (a : Addr) (D : Cell) (fV fC : Field) (b : Addr) (A : Cell) (z : Int32) (args : Array Value) (s : State) : Prop := args = #[.ref a, .ref b] ∧ Blank "java/lang/String" a D s ∧ Found "java/lang/String" "value" "[B" fV s ∧ Found "java/lang/String" "coder" "B" fC s ∧ Ch b A s ∧ StaticIs s "java/lang/String" "COMPACT_STRINGS" "Z" (.int z) ∧ ¬ z = 0 ∧ 0 < A.slots.size ∧ A.slots.size ≤ 536870912 ∧ ∀ i, i < A.slots.size → ¬ 255 < cv A i
def E (a : Addr) (D : Cell) (fV fC : Field) (A : Cell) (r : Option Value) (s u : State) : Prop := Got a D fV fC A 0 A.slots.size r s u
/-- new String(chars), not empty, no char above 255: a Latin-1 String of their low bytes -/
theorem law (l : Launch) (a : Addr) (D : Cell) (fV fC : Field) (b : Addr) (A : Cell) (z : Int32) : Law l yN 2 1 3 52 yB 2 none site (P a D fV fC b A z) (E a D fV fC A) [⟨a, fC.slot⟩, ⟨a, fV.slot⟩] 1 A.slots.size := by
  refine Law.of_walk (plainFor_of_name (by decide +kernel)) (by decide +kernel) (by decide +kernel) (by decide) (fun _ _ h => by rw [h.1]; rfl) (fun _ U U' hal hh h => ⟨h.1, h.2.1.mv hal hh, h.2.2.1.al hal, h.2.2.2.1.al hal, h.2.2.2.2.1.mv hal hh, h.2.2.2.2.2.1.there hal hh, h.2.2.2.2.2.2⟩) (fun r U U' V V' h1 hal h2 h => Got.mv r U U' V V' h1 hal h2 h) ?_
  intro p e s m args below meth c s₁ X0 hexec hbytes hml hret hlk hnm hown hh0 W hP
  obtain ⟨rfl, hB, f1, f2, hA, s1, hz, l0, l2, hp⟩ := hP
  have c1 : Steps p.tables e below (s₁.setTop (entryFrame m #[.ref a, .ref b] 2)) (s₁.setTop (mkF m 0 #[.val (.ref a), .val (.ref b)] [])) := entry rfl
  have c2 : Steps p.tables e below (s₁.setTop (entryFrame m #[.ref a, .ref b] 2)) (s₁.setTop (mkF m 6 #[.val (.ref a), .val (.ref b)] [.null, .int (Int32.ofNat A.slots.size), .int 0, .ref b, .ref a])) := c1.trans (by
    refine XS.aloadN X0.here hexec rfl (hb hbytes d0) rfl rfl ?_
    refine XS.aloadN X0.here hexec rfl (hb hbytes d1) rfl rfl ?_
    refine iconstV X0.here hexec rfl 0 (hb hbytes d2) (by decide) ?_
    refine XS.aloadN X0.here hexec rfl (hb hbytes d3) rfl rfl ?_
    refine X0.alen hexec (hA.1.mv X0.warmed.alike hh0) rfl rfl (hb hbytes d4) ?_
    refine XS.aconstNull X0.here hexec rfl (hb hbytes d5) ?_
    exact Steps.refl _)
  obtain ⟨v3, T3, X3, E3, g3⟩ := X0.callN hexec (New4.law l a D fV fC b A z 0 A.slots.size) rfl hown (wks W (initW "java/lang/String" 27 New4.yN)) (W New4.tab (by simp only [site, List.mem_cons, List.mem_append, true_or, or_true])) (W := 0) (Nat.le_of_ble_eq_true rfl) (Nat.le_of_ble_eq_true rfl) (Nat.le_refl _) (by show 0 + A.slots.size ≤ A.slots.size; omega) (g := (mkF m 6 #[.val (.ref a), .val (.ref b)] [.null, .int (Int32.ofNat A.slots.size), .int (Int32.ofNat 0), .ref b, .ref a])) rfl (by rw [hml]; rfl) c2 (argsL := [.ref b, .int (Int32.ofNat 0), .int (Int32.ofNat A.slots.size), .null]) (rest := []) rfl rfl (by show 2 * 0 + 0 ≤ _; decide) (hb hbytes d6) (⟨rfl, hB.mv X0.warmed.alike hh0, f1.al X0.warmed.alike, f2.al X0.warmed.alike, hA.mv X0.warmed.alike hh0, s1.there X0.warmed.alike hh0, hz, l0, by omega, l2, fun i hi => by rw [Nat.zero_add]; exact hp i hi⟩)
  have e0 := Got.mv _ s₁ s _ _ hh0.symm (Vm.Alike.refl _) rfl E3
  obtain rfl := e0.1
  have c4 : Steps p.tables e below (s₁.setTop (entryFrame m #[.ref a, .ref b] 2)) (T3.setTop (mkF m 9 #[.val (.ref a), .val (.ref b)] [])) := g3
  exact ⟨T3, none, _, _, _, X3, by simp, rfl, by omega, (fun _ => rfl), e0, fun fs hl => c4.trans (X3.returnOut hexec hret (hb hbytes d9) hl)⟩
theorem pays {l : Launch} {R : Room} {p : Program} {e : Env} {below : List Frame} {s : State} {sargs : Array Value} {len W : Nat} (a : Addr) (D : Cell) (fV fC : Field) (b : Addr) (A : Cell) (z : Int32) (htab : tab.before sargs s = true) (hfr : 4 ≤ R.frames) (hlo : W + 65 ≤ R.locals) :
    Back l R p e below s sargs yN len W (fun A₁ a₁ => A₁.cells + 1 ≤ R.cells ∧ A₁.slots + A.slots.size ≤ R.slots ∧ P a D fV fC b A z a₁ A₁.U) (fun A₁ _ v₁ B₁ => E a D fV fC A v₁ A₁.U B₁.U ∧ B₁.locs = A₁.locs ++ [⟨a, fC.slot⟩, ⟨a, fV.slot⟩] ∧ B₁.cells = A₁.cells + 1 ∧ B₁.slots = A₁.slots + A.slots.size) :=
  (law l a D fV fC b A z).pays htab hfr (by omega)
end New1
end StrChars
namespace StrChars.Road
open Jvm Sem ClassFile Op Lib Jvm.Stand Jvm.Free Jvm.Free.XT
open Jvm.Lib.Cold (StaticIs)
abbrev ST : String := "java/lang/String"
/-- every table word that New1's law asks, flat -/
abbrev words : List Jvm.Cond := [.code New1.yN New1.yB 2 none, .initialized ST, .methodLink ST 27 New4.yN, .instanceMethod New4.yN,
  .code New4.yN New4.yB 6 none, .fieldLink ST 38 ST "COMPACT_STRINGS" "Z", .laysFinal ST ST "value" "[B", .fieldLink ST 9 ST "value" "[B", .laysFinal ST ST "coder" "B", .fieldLink ST 15 ST "coder" "B",
  .methodLink ST 1 Lib.objectInit, .instanceMethod Lib.objectInit, .code Lib.objectInit ⟨#[0xb1]⟩ 1 none, .methodLink ST 177 Cmp3.yN, .static Cmp3.yN, .methodLink ST 47 CodL.yN, .static CodL.yN,
  .code Cmp3.yN Cmp3.yB 6 (some (.array .byte)), .initialized U16, .arrayClass .byte, .methodLink U16 115 Cmp5.yN, .static Cmp5.yN, .code Cmp5.yN Cmp5.yB 7 (some .int), .code CodL.yN CodL.yB 2 (some .byte)]
theorem tab_of {a : Array Value} {s : State} (h : ∀ w ∈ words, w.before a s = true) : New1.tab.before a s = true := by
  have h5 : Cmp5.tab.before a s = true := unparts (wk h (.code Cmp5.yN Cmp5.yB 7 (some .int))) (wks h (.initialized Cmp5.yN.cls :: Cmp5.site))
  have hc : CodL.tab.before a s = true := unparts (wk h (.code CodL.yN CodL.yB 2 (some .byte))) (wks h (.initialized CodL.yN.cls :: CodL.site))
  have q5 : ∀ w ∈ Cmp5.tab :: words, w.before a s = true := fun w hw => (List.mem_cons.mp hw).elim (fun e => e ▸ h5) (h w)
  have h3 : Cmp3.tab.before a s = true := unparts (wk q5 (.code Cmp3.yN Cmp3.yB 6 (some (.array .byte)))) (wks q5 (.initialized Cmp3.yN.cls :: Cmp3.site))
  have q3 : ∀ w ∈ Cmp3.tab :: CodL.tab :: words, w.before a s = true := fun w hw => (List.mem_cons.mp hw).elim (fun e => e ▸ h3) fun hw => (List.mem_cons.mp hw).elim (fun e => e ▸ hc) (h w)
  have h4 : New4.tab.before a s = true := unparts (wk q3 (.code New4.yN New4.yB 6 none)) (wks q3 (.initialized New4.yN.cls :: New4.site))
  have q4 : ∀ w ∈ New4.tab :: words, w.before a s = true := fun w hw => (List.mem_cons.mp hw).elim (fun e => e ▸ h4) (h w)
  exact unparts (wk q4 (.code New1.yN New1.yB 2 none)) (wks q4 (.initialized New1.yN.cls :: New1.site))
/-- the words ride from the start Z to the walk's own state -/
theorem moved {Z s : State} {a0 args : Array Value} (hZ : Z.Warmed39 s.vm) (hw : ∀ d ∈ words, d.before a0 Z = true) : ∀ d ∈ words, d.before args s = true := fun d hd => by
  have q := hw d hd
  have t : ∀ d ∈ words, d = .arrayClass .byte ∨ (d.onTables && d.keepsFace) = true := by decide +kernel
  rcases t d hd with rfl | t
  · exact RoadKit.mvA hZ q
  · exact RoadKit.mv hZ q t
/-- WHAT COMES BACK, over the tables of the start Z: h the heap at the call, h' behind it -/
def Q (Z : State) (x : Addr) (A : Cell) (h : Heap) (v : Option Value) (h' : Heap) (L : List Loc) : Prop := v = none ∧ (∀ y ∈ L, y.base = x) ∧ RoadKit.Keep h h' [x] ∧ h'.size = h.size + 1 ∧ RoadKit.Exa Z h' x ST ∧ RoadKit.Fld Z h' x ST "value" "[B" (.ref h.size) ∧ RoadKit.Fld Z h' x ST "coder" "B" (.int 0) ∧
  (∃ V : Cell, RoadKit.Arr Z h' h.size V .byte ∧ V.vm = .none ∧ Z.vm.findClass "[B" = some V.cls ∧ V.slots.size = A.slots.size ∧ ∀ j, j < A.slots.size → V.slots[j]? = some (.int (lo8 (cv A j)))) ∧
  ∀ (O n d : String) (w : Value), RoadKit.Fld Z h x O n d w → RoadKit.slotOf Z O n d ≠ RoadKit.slotOf Z ST "value" "[B" → RoadKit.slotOf Z O n d ≠ RoadKit.slotOf Z ST "coder" "B" → RoadKit.Fld Z h' x O n d w
/-- **new String(chars) AT A CALL, IN THE ROAD'S FORM**: for specialBack behind newO: x the fresh String, b the char[] with the cell A -/
theorem back {p : Program} {l : Launch} {e : Env} {R : Room} {s : State} {args : Array Value} {below : List Frame} {len W : Nat} {Z : State} {a0 : Array Value} {h : Heap} (hZ : Z.Warmed39 s.vm) (hw : ∀ d ∈ words, d.before a0 Z = true) {kI : Nat} (wi : (Jvm.Cond.instantiable ST kI).before a0 Z = true)
    {x b : Addr} {A : Cell} {z : Int32} {v0 c0 : Value} (E : RoadKit.Exa Z h x ST) (V : RoadKit.Fld Z h x ST "value" "[B" v0) (C : RoadKit.Fld Z h x ST "coder" "B" c0) (K : RoadKit.Arr Z h b A .char) (hty : Typed .char A) (S : RoadKit.Sta Z h ST "COMPACT_STRINGS" "Z" (.int z)) (hz : ¬ z = 0)
    (l0 : 0 < A.slots.size) (l2 : A.slots.size ≤ 536870912) (hp : ∀ i, i < A.slots.size → ¬ 255 < cv A i) (hfr : 4 ≤ R.frames) (hlo : W + 65 ≤ R.locals) :
    Back l R p e below s args New1.yN len W (fun P a => a = #[.ref x, .ref b] ∧ P.U.heap = h ∧ P.cells + 1 ≤ R.cells ∧ P.slots + A.slots.size ≤ R.slots)
      (fun P _ v B => ∃ L, Q Z x A h v B.U.heap L ∧ B.locs = P.locs ++ L ∧ B.cells = P.cells + 1 ∧ B.slots = P.slots + A.slots.size) := by
  intro m meth c P g ig mk a X hg hsize hdg hW hn hp'
  obtain ⟨rfl, rfl, r1, r2⟩ := hp'
  have al : Z.vm.Alike P.U.vm := hZ.alike.trans X.warmed.alike
  obtain ⟨D, cfV, kV, iV, fV, hD, gV, stV, knV, obV, asV, slV⟩ := id V
  obtain ⟨D', cfC, kC, iC, fC, hD', gC, stC, -, -, asC, slC⟩ := id C
  cases hD.symm.trans hD'
  obtain ⟨D2, kD, e1, e2, e3, e4, e5⟩ := id E
  cases hD.symm.trans e1
  obtain ⟨c2, k2, i1, i2, i3, -⟩ := Cond.instantiable_spec wi
  cases e2.symm.trans i1
  cases e3.symm.trans i2
  obtain ⟨kU, u1, u2⟩ := al.2.2 _ _ e3
  have hB : Blank ST x D P.U := ⟨hD, ⟨knV, fun q hq => by rw [hq] at obV; cases obV⟩, by rw [al.findClass]; exact e2, kU, u1, by rw [u2]; exact i3, by rw [u2]; exact e5 i3⟩
  have F1 : Found ST "value" "[B" fV P.U := ⟨SBG.found_only al ⟨cfV, kV, iV, gV⟩, stV⟩
  have F2 : Found ST "coder" "B" fC P.U := ⟨SBG.found_only al ⟨cfC, kC, iC, gC⟩, stC⟩
  have hA : Ch b A P.U := ⟨⟨K.1, State.isArrayOf_alike al K.2.1, K.2.2, by omega⟩, hty⟩
  have hS : StaticIs P.U ST "COMPACT_STRINGS" "Z" (.int z) := by
    obtain ⟨cfS, iS, kS, fS, st, cS, t1, t2, t3, t4, t5, t6, t7⟩ := S
    exact StaticIs.there (s := { Z with heap := P.U.heap }) ⟨cfS, iS, kS, fS, st, cS, t1, t2, t3, t4, t5, (fun q => by rw [q] at t6; cases t6), t7⟩ al rfl
  obtain ⟨v, B, X', ⟨⟨hv, E', V', q1, q2, q3, q4, q5, q6, q7, q8, q9, q10, q11⟩, hl, hc, hs⟩, st⟩ := New1.pays x D fV fC b A z (tab_of (moved hZ hw)) hfr hlo m meth c P g ig mk _ X hg hsize hdg hW hn ⟨r1, r2, rfl, hB, F1, F2, hA, hS, hz, l0, l2, hp⟩
  have al' : Z.vm.Alike B.U.vm := hZ.alike.trans X'.warmed.alike
  have hsz : E'.slots.size = D.slots.size := by
    obtain ⟨-, -, -, kB, w1, w2, w3⟩ := q1
    obtain ⟨kB', y1, y2⟩ := al'.2.2 _ _ e3
    rw [q2.2.1] at w1
    cases w1.symm.trans y1
    rw [w3, e5 i3, y2]
  refine ⟨v, B, X', ⟨_, ⟨hv, ?_, ⟨by omega, fun y cy hy hn' => q10 y cy (by simpa using hn') hy, fun y cy hy => ?_⟩, q11, ⟨E', _, q1.1, by rw [q2.2.1]; exact e2, by rw [q2.2.1]; exact e3, by rw [q2.1]; exact obV, fun _ => by rw [hsz]; exact e5 i3⟩,
    ⟨E', cfV, kV, iV, fV, q1.1, gV, stV, by rw [q2.1]; exact knV, by rw [q2.1]; exact obV, by rw [q2.2.1]; exact asV, q3⟩, ⟨E', cfC, kC, iC, fC, q1.1, gC, stC, by rw [q2.1]; exact knV, by rw [q2.1]; exact obV, by rw [q2.2.1]; exact asC, q4⟩,
    ⟨V', ⟨q5.1, State.isArrayOf_alike al'.symm q5.2.1, q5.2.2.1⟩, q6, by rw [← al'.findClass]; exact q7, q8, fun j hj => by have := q9 j hj; rwa [Nat.zero_add] at this⟩, fun O n d w F n1 n2 => ?_⟩, hl, hc, hs⟩, st⟩
  · intro y hy
    simp only [List.mem_cons, List.not_mem_nil, or_false] at hy
    rcases hy with rfl | rfl <;> rfl
  · by_cases q : y = x
    · subst q
      cases hD.symm.trans hy
      exact ⟨E', q1.1, q2.2.1, q2.1, hsz⟩
    · exact ⟨cy, q10 y cy q hy, rfl, rfl, rfl⟩
  · obtain ⟨D3, cf, k, i, f, g1, g2, g3, g4, g5, g6, g7⟩ := F
    cases hD.symm.trans g1
    simp only [RoadKit.slotOf, g2, gV, gC, Option.map_some, Option.getD_some] at n1 n2
    exact ⟨E', cf, k, i, f, q1.1, g2, g3, by rw [q2.1]; exact g4, by rw [q2.1]; exact g5, by rw [q2.2.1]; exact g6, by rw [q2.2.2 f.slot (by simp [n1, n2])]; exact g7⟩
end StrChars.Road
namespace StrChars.Road
open Jvm Sem ClassFile Op Lib Jvm.Stand Jvm.Free Jvm.Free.XT
/-- WHAT COMES BACK, the byte[] as a list of values -/
def QA (Z : State) (x : Addr) (zn : Int32) (cs : List Int32) (h : Heap) (v : Option Value) (h' : Heap) (L : List Loc) : Prop := v = none ∧ (∀ y ∈ L, y.base = x) ∧ RoadKit.Keep h h' [x] ∧ h'.size = h.size + 1 ∧ RoadKit.Exa Z h' x ST ∧ RoadKit.Fld Z h' x ST "value" "[B" (.ref h.size) ∧ RoadKit.Fld Z h' x ST "coder" "B" (.int 0) ∧
  (∃ kb, Z.vm.findClass "[B" = some kb ∧ RoadKit.Arv Z h' h.size kb .byte zn (cs.map fun c => .int (lo8 c)) (.int 0)) ∧
  ∀ (O n d : String) (w : Value), RoadKit.Fld Z h x O n d w → RoadKit.slotOf Z O n d ≠ RoadKit.slotOf Z ST "value" "[B" → RoadKit.slotOf Z O n d ≠ RoadKit.slotOf Z ST "coder" "B" → RoadKit.Fld Z h' x O n d w
/-- **new String(chars) AT A CALL, THE ARRAYS AS LISTS**: the char[] at b holds cs, not empty, no char above 255 -/
theorem backArv {p : Program} {l : Launch} {e : Env} {R : Room} {s : State} {args : Array Value} {below : List Frame} {len W : Nat} {Z : State} {a0 : Array Value} {h : Heap} (hZ : Z.Warmed39 s.vm) (hw : ∀ d ∈ words, d.before a0 Z = true) {kI : Nat} (wi : (Jvm.Cond.instantiable ST kI).before a0 Z = true)
    {x b : Addr} {k : ClassId} {zn z : Int32} {cs : List Int32} {dv v0 c0 : Value} (E : RoadKit.Exa Z h x ST) (V : RoadKit.Fld Z h x ST "value" "[B" v0) (C : RoadKit.Fld Z h x ST "coder" "B" c0) (K : RoadKit.Arv Z h b k .char zn (cs.map Value.int) dv) (S : RoadKit.Sta Z h ST "COMPACT_STRINGS" "Z" (.int z)) (hz : ¬ z = 0)
    (hlen : zn.toNatClampNeg = cs.length) (h0 : 0 < cs.length) (hbig : cs.length ≤ 536870912) (hall : ∀ c ∈ cs, ¬ 255 < c) (hfr : 4 ≤ R.frames) (hlo : W + 65 ≤ R.locals) :
    Back l R p e below s args New1.yN len W (fun P a => a = #[.ref x, .ref b] ∧ P.U.heap = h ∧ P.cells + 1 ≤ R.cells ∧ P.slots + cs.length ≤ R.slots)
      (fun P _ v B => ∃ L, QA Z x zn cs h v B.U.heap L ∧ B.locs = P.locs ++ L ∧ B.cells = P.cells + 1 ∧ B.slots = P.slots + cs.length) := by
  obtain ⟨A, K1, K2, K3, K4, K5, K6⟩ := K
  have e : A.slots.size = cs.length := K3.trans hlen
  have hat : ∀ (i : Nat) (hi : i < cs.length), A.slots[i]? = some (.int cs[i]) := fun i hi => by rw [K5 i (by omega)]; simp [List.getD_eq_getElem?_getD, hi]
  have hcv : ∀ (i : Nat) (hi : i < cs.length), cv A i = cs[i] := fun i hi => by unfold cv; rw [hat i hi]
  have hty : Typed .char A := fun i v hv => by
    have hi : i < A.slots.size := (Array.getElem?_eq_some_iff.mp hv).1
    have q := K5 i hi
    rw [hv] at q
    rw [Option.some.inj q]
    exact K6 i hi
  refine Back.mono (back hZ hw wi E V C K1 hty S hz (by omega) (by omega) (fun i hi => by rw [hcv i (by omega)]; exact hall _ (List.getElem_mem _)) hfr hlo) (fun P a hp => ⟨hp.1, hp.2.1, hp.2.2.1, by rw [e]; exact hp.2.2.2⟩) (fun P a v B hp hq => ?_)
  obtain ⟨L, ⟨q1, q2, q3, q4, q5, q6, q7, ⟨V', v1, v2, v3, v4, v5⟩, q9⟩, hl, hc, hs⟩ := hq
  refine ⟨L, ⟨q1, q2, q3, q4, q5, q6, q7, ⟨V'.cls, v3, V', v1, rfl, by rw [v4, e, hlen], K4, fun i hi => ?_, fun i hi => ?_⟩, q9⟩, hl, hc, by rw [hs, e]⟩
  · have hi' : i < cs.length := by omega
    rw [v5 i (by omega), hcv i hi']; simp [List.getD_eq_getElem?_getD, hi']
  · have hi' : i < cs.length := by omega
    simp only [List.getD_eq_getElem?_getD, List.getElem?_map, List.getElem?_eq_getElem hi', Option.map_some, Option.getD_some]
    exact fits_lo8 _
end StrChars.Road
namespace StrChars.Road
open Jvm Sem ClassFile Op Lib Jvm.Stand Jvm.Free Jvm.Free.XT
/-- WHAT COMES BACK, in the writer's own shape -/
def QV (Z : State) (x : Addr) (N : Int32) (bs : List Int32) (h : Heap) (n0 : Nat) (v : Option Value) (h' : Heap) (L : List Loc) : Prop := v = none ∧ RoadKit.Fr n0 L ∧ RoadKit.Keep h h' [x] ∧ RoadKit.Exa Z h' x ST ∧ RoadKit.Fld Z h' x ST "coder" "B" (.int 0) ∧
  ∃ (t : Addr) (kb : ClassId), n0 ≤ t ∧ h.size ≤ t ∧ ¬ t = x ∧ RoadKit.Fld Z h' x ST "value" "[B" (.ref t) ∧ RoadKit.Arv Z h' t kb .byte N (bs.map Value.int) (.int 0)
/-- **new String(chars) AT A CALL, FOR THE WRITER**: a char[] of n known ints, each 0 to 255 -/
theorem backV {p : Program} {l : Launch} {e : Env} {R : Room} {s : State} {args : Array Value} {below : List Frame} {len W : Nat} {Z : State} {a0 : Array Value} {h : Heap} (hZ : Z.Warmed39 s.vm) (hw : ∀ d ∈ words, d.before a0 Z = true) {kI : Nat} (wi : (Jvm.Cond.instantiable ST kI).before a0 Z = true)
    {x b : Addr} {kC : ClassId} {cs bs : List Int32} {d v0 c0 : Value} {z N : Int32} {n n0 : Nat} (hx0 : n0 ≤ x) (hh0 : n0 ≤ h.size) (E : RoadKit.Exa Z h x ST) (V : RoadKit.Fld Z h x ST "value" "[B" v0) (C : RoadKit.Fld Z h x ST "coder" "B" c0) (K : RoadKit.Arv Z h b kC .char N (cs.map Value.int) d) (S : RoadKit.Sta Z h ST "COMPACT_STRINGS" "Z" (.int z)) (hz : ¬ z = 0)
    (hn : cs.length = n) (hN : N = Int32.ofNat n) (l0 : 0 < n) (l2 : n ≤ 4000) (hp : ∀ c ∈ cs, ¬ c < 0 ∧ ¬ (255 : Int32) < c) (hb : bs = cs.map (fun c => c.toInt8.toInt32)) (hfr : 4 ≤ R.frames) (hlo : W + 65 ≤ R.locals) :
    Back l R p e below s args (⟨"java/lang/String", "<init>", "([C)V"⟩ : MethodName) len W (fun P a => a = #[.ref x, .ref b] ∧ P.U.heap = h ∧ P.cells + 1 ≤ R.cells ∧ P.slots + n ≤ R.slots)
      (fun P _ v B => ∃ L, QV Z x N bs h n0 v B.U.heap L ∧ B.locs = P.locs ++ L ∧ B.cells = P.cells + 1 ∧ B.slots = P.slots + n) := by
  subst hn hN hb
  refine Back.mono (backArv hZ hw wi E V C K S hz (n32 (by omega)) l0 (by omega) (fun c hc => (hp c hc).2) hfr hlo) (fun P a hp => hp) (fun P a v B hp hq => ?_)
  obtain ⟨L, ⟨q1, q2, q3, q4, q5, q6, q7, ⟨kb, v1, v2⟩, q9⟩, hl, hc, hs⟩ := hq
  exact ⟨L, ⟨q1, fun y hy => by rw [q2 y hy]; exact hx0, q3, q5, q7, h.size, kb, hh0, Nat.le_refl _, Nat.ne_of_gt E.lt, q6, by rw [List.map_map]; exact v2⟩, hl, hc, hs⟩
end StrChars.Road
namespace StrChars
open Jvm Sem ClassFile Op Lib Jvm.Stand Jvm.Free.XT Jvm.Free.ALB Jvm.Free.JM Jvm.Free
open Jvm.Lib.Cold (StaticIs)
def hi8 (x : Int32) : Int32 := lo8 (x >>> ((8 : Int32) &&& 31))
end StrChars
namespace StrChars.Road
open Jvm Sem ClassFile Op Lib Jvm.Stand Jvm.Free Jvm.Free.XT
open Jvm.Lib.Cold (StaticIs)
/-- the bytes of the chars cs, low before high -/
def wideBytes : List Int32 → List Value
  | [] => []
  | c :: cs => .int (lo8 c) :: .int (hi8 c) :: wideBytes cs
/-- an array of N2 bytes vs codes the chars cs by the coder cd -/
def CodA (cs : List Int32) (cd N2 : Int32) (vs : List Value) : Prop := (cd = 0 ∧ N2 = Int32.ofNat cs.length ∧ vs = (cs.map fun c => Value.int (lo8 c)) ∧ ∀ c ∈ cs, ¬ 255 < c) ∨ (cd = 1 ∧ N2 = Int32.ofNat (2 * cs.length) ∧ vs = wideBytes cs ∧ ∃ c ∈ cs, 255 < c)
end StrChars.Road
namespace StrChars.Road
open Jvm Sem ClassFile Op Lib Jvm.Stand Jvm.Free Jvm.Free.XT
open Jvm.Lib.Cold (StaticIs)
/-- what backV says of its String, as the contracts of this text ask it: cs's low bytes, coder 0 -/
theorem codOf {cs : List Int32} {n : Nat} (hn : cs.length = n) (hb : ∀ c ∈ cs, ¬ 255 < c) : CodA cs 0 (Int32.ofNat n) ((cs.map lo8).map Value.int) := Or.inl ⟨rfl, by rw [hn], by simp [List.map_map, Function.comp_def], hb⟩
end StrChars.Road
end Jvm.Pilot.@@N@@
namespace Jvm.Pilot.@@N@@
open Jvm Jvm.ClassFile Sem Op Lib Jvm.Free Jvm.Stand Jvm.LawKit Jvm.RoadKit Bundle Jvm.Pilot.@@N@@.Jvm.D
namespace Own
open Jvm Jvm.ClassFile Sem Op Lib Jvm.Free Jvm.Stand Jvm.LawKit Jvm.RoadKit Bundle
/-- the run goes on from A to an end of which Q holds -/
def Goes (tb : Tables) (e : Env) (below : List Frame) (Q : Outcome → State → Prop) (A : State) : Prop := ∃ s₂ o, Steps tb e below A s₂ ∧ s₂.status = .running ∧ Ended s₂ below o ∧ Q o s₂
theorem Goes.via {tb : Tables} {e : Env} {below : List Frame} {Q : Outcome → State → Prop} {A B : State} (h : ∀ t, Steps tb e below B t → Steps tb e below A t) (g : Goes tb e below Q B) : Goes tb e below Q A := by
  obtain ⟨s₂, o, h1, h2⟩ := g
  exact ⟨s₂, o, h _ h1, h2⟩
theorem Goes.aft {tb : Tables} {e : Env} {below : List Frame} {Q : Outcome → State → Prop} {A B : State} (h : Steps tb e below A B) (g : Goes tb e below Q B) : Goes tb e below Q A := by
  obtain ⟨s₂, o, h1, h2⟩ := g
  exact ⟨s₂, o, h.trans h1, h2⟩
/-- what may be written: made since the law began (n0), booked for no literal; of SA0 (handed in) or made since this method began (k) -/
def Sfs (Z : State) (EL : List (String × Nat)) (vm : Vm) (h : Heap) (n0 k : Nat) (SA0 SA : List Addr) : Prop := ∀ x ∈ SA, Safe Z EL vm h x ∧ x < h.size ∧ n0 ≤ x ∧ (x ∈ SA0 ∨ k ≤ x)
/-- where a walk stands, all in one -/
def Wd (p : Program) (l : Launch) (e : Env) (R : Room) (s : State) (m : MethodId) (args : Array Value) (below : List Frame) (meth : Method) (c : Code)
    (Z : State) (a0 : Array Value) (EL : List (String × Nat)) (own : String) (n0 : Nat) (SA0 SA : List Addr) (T : State) (h : Heap) (cells slots : Nat) : Prop :=
  ∃ (vm0 : Vm) (locs : List Loc) (k0 : Nat), Stand p l e R (s.setVm vm0) m args below meth c T locs cells slots ∧ T.heap = h ∧ s.Since vm0 k0 ∧ k0 ≤ h.size ∧ Z.Warmed39 vm0 ∧ vm0.findClass own = some m.cls ∧
    CHr Z EL s.vm s.heap vm0 h ∧ Fr n0 locs ∧ Old Z n0 h ∧ Keep s.heap h SA0 ∧ Sfs Z EL vm0 h n0 s.heap.size SA0 SA ∧ EW Z a0 EL ∧ p.tables.exec = Jvm.exec
section Wide
variable {p : Program} {l : Launch} {e : Env} {R : Room} {s : State} {m : MethodId} {args : Array Value} {below : List Frame} {meth : Method} {c : Code}
variable {Z : State} {a0 : Array Value} {EL : List (String × Nat)} {own : String} {n0 : Nat} {SA0 SA : List Addr} {T : State} {h h' : Heap} {cells slots : Nat} {Q : Outcome → State → Prop} {pc : Nat} {Ls : Array Slot} {st : List Value} {vm0 vm1 : Vm} {a : Addr} {sl : Nat} {v : Value}
theorem Wd.exec (X : Wd p l e R s m args below meth c Z a0 EL own n0 SA0 SA T h cells slots) : p.tables.exec = Jvm.exec := by
  obtain ⟨_, _, _, -, -, -, -, -, -, -, -, -, -, -, -, q⟩ := X; exact q
theorem Wd.here (X : Wd p l e R s m args below meth c Z a0 EL own n0 SA0 SA T h cells slots) : At T m c below := by
  obtain ⟨_, _, _, Y, -⟩ := X; exact Y.here
theorem Wd.old (X : Wd p l e R s m args below meth c Z a0 EL own n0 SA0 SA T h cells slots) : Old Z n0 h := by
  obtain ⟨_, _, _, -, -, -, -, -, -, -, -, q, -⟩ := X; exact q
theorem Wd.kept (X : Wd p l e R s m args below meth c Z a0 EL own n0 SA0 SA T h cells slots) : Keep s.heap h SA0 := by
  obtain ⟨_, _, _, -, -, -, -, -, -, -, -, -, q, -⟩ := X; exact q
theorem Wd.al (X : Wd p l e R s m args below meth c Z a0 EL own n0 SA0 SA T h cells slots) : Z.vm.Alike T.vm := by
  obtain ⟨_, _, _, Y, -, -, -, hZ, -⟩ := X; exact (wtrans (s := s.setVm _) hZ Y.warmed).alike
theorem Wd.n0h (X : Wd p l e R s m args below meth c Z a0 EL own n0 SA0 SA T h cells slots) : n0 ≤ h.size := by
  obtain ⟨q1, q2, -⟩ := X.old; rw [← q1]; exact q2
theorem Wd.saf (X : Wd p l e R s m args below meth c Z a0 EL own n0 SA0 SA T h cells slots) {x : Addr} (q : x ∈ SA) : n0 ≤ x ∧ x < h.size := by
  obtain ⟨_, _, _, -, -, -, -, -, -, -, -, -, -, S, -⟩ := X; exact ⟨(S x q).2.2.1, (S x q).2.1⟩
theorem Sfs.go {k : Nat} (S : Sfs Z EL vm0 h n0 k SA0 SA) (A : CHr Z EL vm0 h vm1 h') : Sfs Z EL vm1 h' n0 k SA0 SA := fun x hx =>
  ⟨A.safe (S x hx).2.1 (S x hx).1, Nat.lt_of_lt_of_le (S x hx).2.1 A.2.1, (S x hx).2.2⟩
/-- fewer may be written -/
theorem Wd.less {SA' : List Addr} (X : Wd p l e R s m args below meth c Z a0 EL own n0 SA0 SA T h cells slots) (q : ∀ x ∈ SA', x ∈ SA) : Wd p l e R s m args below meth c Z a0 EL own n0 SA0 SA' T h cells slots := by
  obtain ⟨vm0, locs, k0, r1, r2, r3, r4, r5, r6, r7, r8, r9, r10, r11, r12, r13⟩ := X
  exact ⟨vm0, locs, k0, r1, r2, r3, r4, r5, r6, r7, r8, r9, r10, fun x hx => r11 x (q x hx), r12, r13⟩
theorem Wd.mono {cells' slots' : Nat} (X : Wd p l e R s m args below meth c Z a0 EL own n0 SA0 SA T h cells slots) (h1 : cells ≤ cells') (h2 : slots ≤ slots') : Wd p l e R s m args below meth c Z a0 EL own n0 SA0 SA T h cells' slots' := by
  obtain ⟨vm0, locs, k0, r1, r⟩ := X
  exact ⟨vm0, locs, k0, r1.mono h1 h2, r⟩
/-- new C -/
theorem Wd.new (X : Wd p l e R s m args below meth c Z a0 EL own n0 SA0 SA T h cells slots) {index n : Nat} {C : String} (w : (Cond.classLink own index C).before a0 Z = true) (wi : (Cond.instantiable C n).before a0 Z = true) (wz : (Cond.initialized C).before a0 Z = true)
    (hd : decode c.code pc = .ok (.new index, 3)) (hc : cells + 1 ≤ R.cells) (hl : slots + n ≤ R.slots)
    (k : ∀ (T' : State) (h' : Heap) (b : Addr), b = h.size → Wd p l e R s m args below meth c Z a0 EL own n0 SA0 (b :: SA) T' h' (cells + 1) (slots + n) → Ext h h' → Exa Z h' b C → (∀ {O nm d : String} {ty : FieldType}, Laid Z a0 C O nm d → parseFieldDescriptor d = some ty → Fld Z h' b O nm d (defaultValue ty)) →
      (∃ cell : Cell, h'[b]? = some cell ∧ cell.vm = .none ∧ cell.monitor = {}) → Goes p.tables e below Q (T'.setTop (mkF m (pc + 3) Ls (.ref b :: st)))) : Goes p.tables e below Q (T.setTop (mkF m pc Ls st)) := by
  obtain ⟨vm0, locs, k0, Y, eT, hS, hk, hZ, hown, hC, N, O, K, S, hEL, hx⟩ := X
  obtain ⟨T', h', Y', e', E, A, D, U, st'⟩ := newO Y hx hZ hown w wi wz eT (g := mkF m pc Ls st) rfl hd hc hl
  have A' := CHr.ext E hC.1
  refine Goes.via st' (k T' h' _ rfl ⟨vm0, locs, k0, Y', e', hS, Nat.le_trans hk E.1, hZ, hown, hC.trans A', N, O.ext E, K.ext E, fun x q => ?_, hEL, hx⟩ E A D U)
  rcases List.mem_cons.mp q with rfl | q
  · exact ⟨(Safe.new (Nat.le_refl _)).ext E hC.1, A.lt, by rw [← O.1]; exact O.2.1, Or.inr K.1⟩
  · exact S.go A' x q
/-- newarray of a primitive kind, its length known -/
theorem Wd.newarr (X : Wd p l e R s m args below meth c Z a0 EL own n0 SA0 SA T h cells slots) {aty : ArrayType} (w : (Cond.arrayClass (newarray.typeOf aty)).before a0 Z = true) {n : Int32} (hd : decode c.code pc = .ok (.newarray aty, 2)) (hn : ¬ n < 0) (cap : Nat) (hcap : n.toNatClampNeg ≤ cap) (hb : cap * 8 ≤ 536870912) (hc : cells + 1 ≤ R.cells) (hl : slots + cap ≤ R.slots)
    (k : ∀ (T' : State) (h' : Heap) (b : Addr) (kb : ClassId), b = h.size → Wd p l e R s m args below meth c Z a0 EL own n0 SA0 (b :: SA) T' h' (cells + 1) (slots + cap) → Ext h h' → Arv Z h' b kb (newarray.typeOf aty) n [] (defaultValue (newarray.typeOf aty)) → Goes p.tables e below Q (T'.setTop (mkF m (pc + 2) Ls (.ref b :: st)))) : Goes p.tables e below Q (T.setTop (mkF m pc Ls (.int n :: st))) := by
  obtain ⟨vm0, locs, k0, Y, eT, hS, hk, hZ, hown, hC, N, O, K, S, hEL, hx⟩ := X
  obtain ⟨T', h', kb, Y', e', E, A, st'⟩ := newP Y hx hZ w eT (g := mkF m pc Ls (.int n :: st)) rfl hd rfl hn hcap hb hc hl
  have A' := CHr.ext E hC.1
  refine Goes.via st' (k T' h' _ kb rfl ⟨vm0, locs, k0, Y', e', hS, Nat.le_trans hk E.1, hZ, hown, hC.trans A', N, O.ext E, K.ext E, fun x q => ?_, hEL, hx⟩ E (Arv.new A hn))
  rcases List.mem_cons.mp q with rfl | q
  · exact ⟨(Safe.new (Nat.le_refl _)).ext E hC.1, A.lt, by rw [← O.1]; exact O.2.1, Or.inr K.1⟩
  · exact S.go A' x q
theorem wrN (hC : CHr Z EL s.vm s.heap vm0 h) (O : Old Z n0 h) (K : Keep s.heap h SA0) (S : Sfs Z EL vm0 h n0 s.heap.size SA0 SA) (q : a ∈ SA) (W : Wr h h' a sl v) :
    CHr Z EL s.vm s.heap vm0 h' ∧ Old Z n0 h' ∧ Keep s.heap h' SA0 ∧ Sfs Z EL vm0 h' n0 s.heap.size SA0 SA ∧ n0 ≤ a ∧ h.size ≤ h'.size := by
  obtain ⟨q1, -, q3, q4⟩ := S a q
  have A := CHr.wr W q1 hC.1
  exact ⟨hC.trans A, O.wr W q3, K.wr W q4, S.go A, q3, A.2.1⟩
/-- putfield -/
theorem Wd.putf (X : Wd p l e R s m args below meth c Z a0 EL own n0 SA0 SA T h cells slots) {R0 O n d C : String} {index kk : Nat} {ty : FieldType} (w : (Cond.fieldLink own index R0 n d).before a0 Z = true) (via : Via Z R0 O n d) {v old : Value} (F : Fld Z h a O n d old) (E : Exa Z h a C)
    (L : (Cond.lays C O n d).before a0 Z = true ∨ ((Cond.laysFinal C O n d).before a0 Z = true ∧ own = O ∧ meth.name = "<init>")) (wi : (Cond.instantiable C kk).before a0 Z = true) (hty : parseFieldDescriptor d = some ty) (hn : narrow ty v = v) (hf : fits ty v = true) (hd : decode c.code pc = .ok (.putfield index, 3)) (q : a ∈ SA)
    (k : ∀ (T' : State) (h' : Heap), Wd p l e R s m args below meth c Z a0 EL own n0 SA0 SA T' h' cells slots → Wr h h' a (Jvm.RoadKit.slotOf Z O n d) v → Goes p.tables e below Q (T'.setTop (mkF m (pc + 3) Ls st))) : Goes p.tables e below Q (T.setTop (mkF m pc Ls (v :: .ref a :: st))) := by
  obtain ⟨vm0, locs, k0, Y, eT, hS, hk, hZ, hown, hC, N, O', K, S, hEL, hx⟩ := X
  obtain ⟨T', h', Y', e', W, st'⟩ := putF Y hx hZ hown (host := "") (Or.inl w) via eT F E L wi hty hn hf (g := mkF m pc Ls (v :: .ref a :: st)) rfl rfl hd
  obtain ⟨q1, q2, q3, q4, q5, q6⟩ := wrN hC O' K S q W
  exact Goes.via st' (k T' h' ⟨vm0, _, k0, Y', e', hS, Nat.le_trans hk q6, hZ, hown, q1, Fr.snoc Y' N q5, q2, q3, q4, hEL, hx⟩ W)
/-- getfield -/
theorem Wd.getf (X : Wd p l e R s m args below meth c Z a0 EL own n0 SA0 SA T h cells slots) {R0 O n d : String} {index : Nat} (w : (Cond.fieldLink own index R0 n d).before a0 Z = true) (via : Via Z R0 O n d) {v : Value} (F : Fld Z h a O n d v) (hd : decode c.code pc = .ok (.getfield index, 3))
    (k : ∀ T' : State, Wd p l e R s m args below meth c Z a0 EL own n0 SA0 SA T' h cells slots → Goes p.tables e below Q (T'.setTop (mkF m (pc + 3) Ls (v :: st)))) : Goes p.tables e below Q (T.setTop (mkF m pc Ls (.ref a :: st))) := by
  obtain ⟨vm0, locs, k0, Y, eT, r2, r3, r4, r5, r⟩ := X
  obtain ⟨T', Y', e', st'⟩ := getF Y r.2.2.2.2.2.2 r4 r5 (host := "") (Or.inl w) via eT F (g := mkF m pc Ls (.ref a :: st)) rfl rfl hd
  exact Goes.via st' (k T' ⟨vm0, locs, k0, Y', e', r2, r3, r4, r5, r⟩)
/-- getstatic -/
theorem Wd.gets (X : Wd p l e R s m args below meth c Z a0 EL own n0 SA0 SA T h cells slots) {R0 O n d : String} {index : Nat} (w : (Cond.fieldLink own index R0 n d).before a0 Z = true) (via : Via Z R0 O n d) {v : Value} (F : Sta Z h O n d v) (hd : decode c.code pc = .ok (.getstatic index, 3))
    (k : ∀ T' : State, Wd p l e R s m args below meth c Z a0 EL own n0 SA0 SA T' h cells slots → Goes p.tables e below Q (T'.setTop (mkF m (pc + 3) Ls (v :: st)))) : Goes p.tables e below Q (T.setTop (mkF m pc Ls st)) := by
  obtain ⟨vm0, locs, k0, Y, eT, r2, r3, r4, r5, r⟩ := X
  obtain ⟨T', Y', e', st'⟩ := getS (host := "") Y r.2.2.2.2.2.2 r4 r5 w via eT F (g := mkF m pc Ls st) rfl hd
  exact Goes.via st' (k T' ⟨vm0, locs, k0, Y', e', r2, r3, r4, r5, r⟩)
/-- Object.<init> -/
theorem Wd.inito (X : Wd p l e R s m args below meth c Z a0 EL own n0 SA0 SA T h cells slots) {idx : Nat} (w1 : (Cond.methodLink own idx Lib.objectInit).before a0 Z = true) (w2 : (Cond.instanceMethod Lib.objectInit).before a0 Z = true) (w3 : (Cond.code Lib.objectInit ⟨#[0xb1]⟩ 1 none).before a0 Z = true)
    (hd : decode c.code pc = .ok (.invokespecial idx, 3)) (hsize : Ls.size = c.maxLocals) (hf : 1 ≤ R.frames) (W : Nat) (hW : (st.map fun v => v.category).sum ≤ W) (hl : W + 12 ≤ R.locals)
    (k : ∀ T' : State, Wd p l e R s m args below meth c Z a0 EL own n0 SA0 SA T' h cells slots → Goes p.tables e below Q (T'.setTop (mkF m (pc + 3) Ls st))) : Goes p.tables e below Q (T.setTop (mkF m pc Ls (.ref a :: st))) := by
  obtain ⟨vm0, locs, k0, Y, eT, r2, r3, r4, r5, r⟩ := X
  obtain ⟨T', Y', e', st'⟩ := initO Y r.2.2.2.2.2.2 r4 r5 w1 w2 w3 eT (g := mkF m pc Ls (.ref a :: st)) rfl hsize rfl hd hf (W := W) (by show 2 * 0 + _ ≤ _; omega) hl
  exact Goes.via st' (k T' ⟨vm0, locs, k0, Y', e', r2, r3, r4, r5, r⟩)
/-- castore -/
theorem Wd.castore (X : Wd p l e R s m args below meth c Z a0 EL own n0 SA0 SA T h cells slots) {kb : ClassId} {n j x : Int32} {vs : List Value} {dv : Value} (V : Arv Z h a kb .char n vs dv) (hj : ¬ j < 0 ∧ j < n) (i : Nat) (hji : j.toNatClampNeg = i) (hi : i < vs.length) (q : a ∈ SA) (hd : decode c.code pc = .ok (.castore, 1))
    (k : ∀ (T' : State) (h' : Heap), Wd p l e R s m args below meth c Z a0 EL own n0 SA0 SA T' h' cells slots → Wr h h' a j.toNatClampNeg (.int (nar .char x)) → Arv Z h' a kb .char n (vs.set i (.int (nar .char x))) dv → Goes p.tables e below Q (T'.setTop (mkF m (pc + 1) Ls st))) : Goes p.tables e below Q (T.setTop (mkF m pc Ls (.int x :: .int j :: .ref a :: st))) := by
  obtain ⟨vm0, locs, k0, Y, eT, hS, hk, hZ, hown, hC, N, O', K, S, hEL, hx⟩ := X
  obtain ⟨cl, A, v1, v2, v3, v4, v5⟩ := V
  obtain ⟨T', h', Y', e', W, st'⟩ := stC Y hx hZ eT A (inb_of v2 hj) (g := mkF m pc Ls (.int x :: .int j :: .ref a :: st)) rfl rfl hd
  obtain ⟨q1, q2, q3, q4, q5, q6⟩ := wrN hC O' K S q W
  exact Goes.via st' (k T' h' ⟨vm0, _, k0, Y', e', hS, Nat.le_trans hk q6, hZ, hown, q1, Fr.snoc Y' N q5, q2, q3, q4, hEL, hx⟩ W (Arv.set A v1 v2 v3 v4 v5 (fits_nar_char _) W i hji hi))
/-- bastore into a byte[] -/
theorem Wd.bastore (X : Wd p l e R s m args below meth c Z a0 EL own n0 SA0 SA T h cells slots) {kb : ClassId} {n j x : Int32} {vs : List Value} {dv : Value} (V : Arv Z h a kb .byte n vs dv) (hj : ¬ j < 0 ∧ j < n) (i : Nat) (hji : j.toNatClampNeg = i) (hi : i < vs.length) (q : a ∈ SA) (hd : decode c.code pc = .ok (.bastore, 1))
    (k : ∀ (T' : State) (h' : Heap), Wd p l e R s m args below meth c Z a0 EL own n0 SA0 SA T' h' cells slots → Wr h h' a j.toNatClampNeg (.int (nar .byte x)) → Arv Z h' a kb .byte n (vs.set i (.int (nar .byte x))) dv → Goes p.tables e below Q (T'.setTop (mkF m (pc + 1) Ls st))) : Goes p.tables e below Q (T.setTop (mkF m pc Ls (.int x :: .int j :: .ref a :: st))) := by
  obtain ⟨vm0, locs, k0, Y, eT, hS, hk, hZ, hown, hC, N, O', K, S, hEL, hx⟩ := X
  obtain ⟨cl, A, v1, v2, v3, v4, v5⟩ := V
  obtain ⟨T', h', Y', e', W, st'⟩ := stB Y hx hZ eT A (inb_of v2 hj) (g := mkF m pc Ls (.int x :: .int j :: .ref a :: st)) rfl rfl hd
  obtain ⟨q1, q2, q3, q4, q5, q6⟩ := wrN hC O' K S q W
  exact Goes.via st' (k T' h' ⟨vm0, _, k0, Y', e', hS, Nat.le_trans hk q6, hZ, hown, q1, Fr.snoc Y' N q5, q2, q3, q4, hEL, hx⟩ W (Arv.set A v1 v2 v3 v4 v5 (fits_nar_byte _) W i hji hi))
/-- caload -/
theorem Wd.caload (X : Wd p l e R s m args below meth c Z a0 EL own n0 SA0 SA T h cells slots) {kb : ClassId} {n j : Int32} {vs : List Value} {dv v : Value} (V : Arv Z h a kb .char n vs dv) (hj : ¬ j < 0 ∧ j < n) (hv : vs.getD j.toNatClampNeg dv = v) (hd : decode c.code pc = .ok (.caload, 1))
    (g : Goes p.tables e below Q (T.setTop (mkF m (pc + 1) Ls (v :: st)))) : Goes p.tables e below Q (T.setTop (mkF m pc Ls (.int j :: .ref a :: st))) := by
  obtain ⟨vm0, locs, k0, Y, eT, r2, r3, r4, r5, r⟩ := X
  obtain ⟨cl, A, v1, v2, v3, v4, v5⟩ := V
  exact Goes.via (fun t => Y.caload r.2.2.2.2.2.2 (by rw [eT]; exact A.1) (State.isArrayOf_alike r4.alike A.2.1) A.2.2 (inb_of v2 hj) (v4.at (inb_of v2 hj) hv) (g := mkF m pc Ls (.int j :: .ref a :: st)) rfl rfl hd t) g
/-- arraylength -/
theorem Wd.alen (X : Wd p l e R s m args below meth c Z a0 EL own n0 SA0 SA T h cells slots) {kb : ClassId} {n : Int32} {vs : List Value} {dv : Value} {ty : FieldType} (V : Arv Z h a kb ty n vs dv) (hd : decode c.code pc = .ok (.arraylength, 1))
    (g : Goes p.tables e below Q (T.setTop (mkF m (pc + 1) Ls (.int n :: st)))) : Goes p.tables e below Q (T.setTop (mkF m pc Ls (.ref a :: st))) := by
  obtain ⟨vm0, locs, k0, Y, eT, r2, r3, r4, r5, r⟩ := X
  obtain ⟨cl, A, v1, v2, v3, v4, v5⟩ := V
  rw [← len_of v2 v3] at g
  exact Goes.via (fun t => Y.arraylength r.2.2.2.2.2.2 (by rw [eT]; exact A.1) (State.isArrayOf_alike r4.alike A.2.1) (g := mkF m pc Ls (.ref a :: st)) rfl rfl hd t) g
/-- ldc of a String constant of EL, read -/
theorem Wd.ldcS (X : Wd p l e R s m args below meth c Z a0 EL own n0 SA0 SA T h cells slots) {index : Nat} {text : String} (w : (Cond.stringLink own index text).before a0 Z = true) (wS : ∀ a ∈ Bundle.stringAtoms, a.before a0 Z = true) (hmem : (own, index) ∈ EL) {vs : List Value} {z : Int32}
    (ht : (∀ c ∈ text.toList, c.toNat < 256) ∧ text.toList.map (fun c => Value.int (Jvm.Lit.byteI c.toNat.toUInt16)) = vs) (hz : ¬ z < 0) (hl : z.toNatClampNeg = vs.length) (hd : decode c.code pc = .ok (.ldc index, 2)) (n : Nat) (hn : 4 * text.toList.length ≤ n) (hbig : n ≤ 536870912) (hc : cells + 2 ≤ R.cells) (hl' : slots + (n + 4) ≤ R.slots)
    (k : ∀ (T' : State) (h' : Heap) (a b : Addr) (kb : ClassId), Wd p l e R s m args below meth c Z a0 EL own n0 SA0 SA T' h' (cells + 2) (slots + (n + 4)) → Ext h h' → Exa Z h' a "java/lang/String" → Fld Z h' a "java/lang/String" "coder" "B" (.int 0) → Fld Z h' a "java/lang/String" "value" "[B" (.ref b) → Arv Z h' b kb .byte z vs (.int 0) → (∀ x ∈ SA, x ≠ a ∧ x ≠ b) →
      Goes p.tables e below Q (T'.setTop (mkF m (pc + 2) Ls (.ref a :: st)))) : Goes p.tables e below Q (T.setTop (mkF m pc Ls st)) := by
  obtain ⟨vm0, locs, k0, Y, eT, hS, hk, hZ, hown, hC, N, O, K, S, hEL, hx⟩ := X
  obtain ⟨a, T', h', k1, b, kb, Y', e', E, hS', hk', hZ', hown', A1, A2, A3, A4, -, -, A5, -, A6, st'⟩ := ldcCH Y hx hZ hown w wS eT hS hk hEL hmem hC.1 ht hz hl (g := mkF m pc Ls st) rfl hd hn hbig hc hl'
  have S' := S.go A5
  exact Goes.via st' (k T' h' a b kb ⟨T'.vm, locs, k1, Y', e', hS', hk', hZ', hown', hC.trans A5, N, O.ext E, K.ext E, S', hEL, hx⟩ E A1 A2 A3 A4 fun x q => A6 x (S' x q).1)
/-- ldc of any String constant, not read -/
theorem Wd.ldcO (X : Wd p l e R s m args below meth c Z a0 EL own n0 SA0 SA T h cells slots) {index : Nat} {text : String} (w : (Cond.stringLink own index text).before a0 Z = true) (wS : ∀ a ∈ Bundle.stringAtoms, a.before a0 Z = true)
    (hd : decode c.code pc = .ok (.ldc index, 2)) (n : Nat) (hn : 4 * text.toList.length ≤ n) (hbig : n ≤ 536870912) (hc : cells + 2 ≤ R.cells) (hl' : slots + (n + 4) ≤ R.slots)
    (k : ∀ (T' : State) (h' : Heap) (a : Addr), Wd p l e R s m args below meth c Z a0 EL own n0 SA0 SA T' h' (cells + 2) (slots + (n + 4)) → Ext h h' →
      Goes p.tables e below Q (T'.setTop (mkF m (pc + 2) Ls (.ref a :: st)))) : Goes p.tables e below Q (T.setTop (mkF m pc Ls st)) := by
  obtain ⟨vm0, locs, k0, Y, eT, hS, hk, hZ, hown, hC, N, O, K, S, hEL, hx⟩ := X
  obtain ⟨a, T', h', k1, Y', e', E, hS', hk', hZ', hown', A5, -, st'⟩ := ldcOH Y hx hZ hown w wS eT hS hk hEL hC.1 (g := mkF m pc Ls st) rfl hd hn hbig hc hl'
  exact Goes.via st' (k T' h' a ⟨T'.vm, locs, k1, Y', e', hS', hk', hZ', hown', hC.trans A5, N, O.ext E, K.ext E, S.go A5, hEL, hx⟩ E)
/-- ldc of an int -/
theorem Wd.ldcI (X : Wd p l e R s m args below meth c Z a0 EL own n0 SA0 SA T h cells slots) {index : Nat} {v : Int32} (w : (Cond.constant own index v).before a0 Z = true) (hd : decode c.code pc = .ok (.ldc index, 2))
    (g : Goes p.tables e below Q (T.setTop (mkF m (pc + 2) Ls (.int v :: st)))) : Goes p.tables e below Q (T.setTop (mkF m pc Ls st)) := by
  obtain ⟨vm0, locs, k0, Y, eT, r2, r3, r4, r5, r⟩ := X
  exact Goes.via (fun t => Y.ldcInt r.2.2.2.2.2.2 r5 (mvT (s := s.setVm vm0) r4 w) (g := mkF m pc Ls st) rfl hd t) g
end Wide
end Own
namespace Own
open Jvm Jvm.ClassFile Sem Op Lib Jvm.Free Jvm.Stand Jvm.LawKit Jvm.RoadKit Bundle
/-- a method's contract: handed as' in the heap h0, it may write SA0 and what it makes; at its end Q0 holds -/
def Ct (l : Launch) (Z : State) (EL : List (String × Nat)) (ws : List Jvm.Cond) (y : MethodName) (bytes : ByteArray) (maxL : Nat) (ret : Option FieldType) (rm : Room) (as' : Array Value) (h0 : Heap) (n0 : Nat) (SA0 : List Addr) (Q0 : Option Value → Heap → Prop) : Prop :=
  MetFree l y (head1 (Jvm.Cond.code y bytes maxL ret :: ws) rm) (fun a U => a = as' ∧ Z.Warmed39 U.vm ∧ U.heap = h0 ∧ CHv Z EL U.vm h0 ∧ Old Z n0 h0 ∧ ∀ x ∈ SA0, Safe Z EL U.vm h0 x ∧ x < h0.size ∧ n0 ≤ x) (fun _ _ _ _ _ => True)
    (fun _ U o U' => ∃ v L, o = .returned v ∧ (Q0 v U'.heap ∧ Fr n0 L ∧ Old Z n0 U'.heap ∧ Keep h0 U'.heap SA0) ∧ CHr Z EL U.vm U.heap U'.vm U'.heap ∧ ReturnedEndW U o U' L rm.cells rm.slots)
/-- what an end must bring -/
def Endq (Z : State) (EL : List (String × Nat)) (s : State) (n0 : Nat) (SA0 : List Addr) (rm : Room) (Q0 : Option Value → Heap → Prop) (o : Outcome) (U' : State) : Prop :=
  ∃ v L, o = .returned v ∧ (Q0 v U'.heap ∧ Fr n0 L ∧ Old Z n0 U'.heap ∧ Keep s.heap U'.heap SA0) ∧ CHr Z EL s.vm s.heap U'.vm U'.heap ∧ ReturnedEndW s o U' L rm.cells rm.slots
section Wide
variable {p : Program} {l : Launch} {e : Env} {R : Room} {s : State} {m : MethodId} {args : Array Value} {below : List Frame} {meth : Method} {c : Code}
variable {Z : State} {a0 : Array Value} {EL : List (String × Nat)} {own : String} {n0 : Nat} {SA0 SA SA' : List Addr} {T : State} {h h' h0 : Heap} {cells slots : Nat} {Q : Outcome → State → Prop} {pc : Nat} {Ls : Array Slot} {st : List Value} {vm0 vm1 : Vm} {a : Addr} {sl : Nat} {v : Value}
variable {ws : List Jvm.Cond} {y z : MethodName} {bytes : ByteArray} {maxL : Nat} {ret : Option FieldType} {rm : Room} {as' : Array Value} {Q0 : Option Value → Heap → Prop}
theorem Ct.enter (pn : plainFor y = true) (hEL : EW Z a0 EL)
    (body : ∀ (p : Program) (e : Env) (s : State) (m : MethodId) (below : List Frame) (meth : Method) (c : Code) (T : State), c.code = bytes → c.maxLocals = maxL → meth.sig.returnType = ret → meth.locks = false → meth.name = y.name → s.heap = h0 → Wd p l e rm s m as' below meth c Z a0 EL y.cls n0 SA0 SA0 T h0 0 0 →
      Goes p.tables e below (Endq Z EL s n0 SA0 rm Q0) (T.setTop (entryFrame m as' maxL))) : Ct l Z EL ws y bytes maxL ret rm as' h0 n0 SA0 Q0 := by
  refine MetFree.of_bodySF pn hisR ?_
  intro p e s m args below meth c s₁ Bd hml0 hP hK
  obtain ⟨rfl, hZ, rfl, H, O, S⟩ := hP
  have Y : Stand p l e rm s m args below meth c s₁ [] 0 0 := Stand.of_body Bd
  have e0 : s₁.heap = s.heap := by rw [Bd.state]; rfl
  obtain ⟨s₂, o, h1, h2, h3, v, L, h4, h5, h6, h7⟩ := body p e s m below meth c s₁ Bd.bytes hml0 Bd.returns (BodyLoose.notSynchronized Bd) (name_of_methodNamed Bd.named Bd.method).1 rfl
    ⟨s.vm, [], 0, Y, e0, (State.WarmedH.refl s).since _, Nat.zero_le _, hZ, findClass_of_methodNamed Bd.named, CHr.refl H, Fr.nil _, O, Keep.refl _ _, fun x q => ⟨(S x q).1, (S x q).2.1, (S x q).2.2, Or.inl q⟩, hEL, Bd.exec⟩
  exact ⟨s₂, o, h1, h2, h3, v, L, h4, h5, h6, h7⟩
theorem Ct.back {len W : Nat} (ct : Ct l Z EL [] y bytes maxL ret rm as' h n0 SA0 Q0) (hZ : Z.Warmed39 vm0) (wc : (Jvm.Cond.code y bytes maxL ret).before a0 Z = true) (wz : (Jvm.Cond.initialized y.cls).before a0 Z = true) (hf : rm.frames + 1 ≤ R.frames) (hl : W + (maxL + 11) + rm.locals ≤ R.locals) (hEL : EW Z a0 EL) (H : CHv Z EL vm0 h) (O : Old Z n0 h)
    (S : ∀ x ∈ SA0, Safe Z EL vm0 h x ∧ x < h.size ∧ n0 ≤ x) :
    BackS l R p e below (s.setVm vm0) args y len W (fun A a => a = as' ∧ A.U.heap = h ∧ A.cells + rm.cells ≤ R.cells ∧ A.slots + rm.slots ≤ R.slots)
      (fun A _ v B => ∃ L, (Q0 v B.U.heap ∧ Fr n0 L ∧ Old Z n0 B.U.heap ∧ Keep h B.U.heap SA0) ∧ B.locs = A.locs ++ L ∧ B.cells = A.cells + rm.cells ∧ B.slots = A.slots + rm.slots ∧ CHr Z EL vm0 h B.U.vm B.U.heap) :=
  BackS.of_freeW (bytes := bytes) (maxL := maxL) (ret := ret) (E := fun _ first o t L k n => k = rm.cells ∧ n = rm.slots ∧ (∃ v, o = .returned v ∧ (Q0 v t.heap ∧ Fr n0 L ∧ Old Z n0 t.heap ∧ Keep h t.heap SA0)) ∧ CHr Z EL first.vm first.heap t.vm t.heap) ct hf hl
    (fun m meth c A a Y hp => have hU : Z.Warmed39 A.U.vm := wtrans (s := s.setVm vm0) hZ Y.warmed
      ⟨by show (Jvm.Cond.and _ .tt).before a A.U = true; rw [Cond.before_and, mv hU wc]; rfl, mv hU wc, mv hU wz, hp.2.2.1, hp.2.2.2⟩)
    (fun m meth c A a g mk Y hp => ⟨hp.1, wtrans (s := s.setVm vm0) hZ Y.warmed, hp.2.1, (CHv.at Y hZ hEL H).1, O, fun x q => ⟨(CHv.at Y hZ hEL H).safe (S x q).2.1 (S x q).1, (S x q).2⟩⟩) (fun _ _ _ _ _ _ _ _ _ => trivial)
    (fun _ _ _ _ ⟨v, L, h1, h2, h3, h4⟩ => ⟨L, _, _, h4, rfl, rfl, ⟨v, h1, h2⟩, h3⟩)
    (fun m meth c A a g mk v t L k n Y hp _ _ ⟨e1, e2, ⟨v', e3, e4⟩, e5⟩ => by
      cases e3; subst e1 e2
      refine ⟨L, e4, rfl, rfl, rfl, (CHv.at Y hZ hEL H).trans ?_⟩
      rw [← hp.2.1]; exact e5)
/-- what stands behind a call by its contract -/
theorem callN {T' : State} {L : List Loc} {k0 cells' slots' : Nat} (hS : s.Since vm0 k0) (hk : k0 ≤ h.size) (hZ : Z.Warmed39 vm0) (hown : vm0.findClass own = some m.cls) (hC : CHr Z EL s.vm s.heap vm0 h) {locs : List Loc} (N : Fr n0 locs) (K : Keep s.heap h SA0) (S : Sfs Z EL vm0 h n0 s.heap.size SA0 SA) (hEL : EW Z a0 EL) (hx : p.tables.exec = Jvm.exec)
    (Y : Stand p l e R ((s.setVm vm0).setVm T'.vm) m args below meth c T' (locs ++ L) cells' slots') (h2 : (s.setVm vm0).Since T'.vm T'.heap.size) (hg : h.size ≤ T'.heap.size) (hL : Fr n0 L) (O' : Old Z n0 T'.heap) (K' : Keep h T'.heap SA') (hsub : ∀ x ∈ SA', x ∈ SA) (A : CHr Z EL vm0 h T'.vm T'.heap) :
    Wd p l e R s m args below meth c Z a0 EL own n0 SA0 SA T' T'.heap cells' slots' := by
  obtain ⟨r1, r2, r3, r4⟩ := rebS (own := own) hS hk Y h2 hg hZ hown
  exact ⟨T'.vm, _, _, r1, rfl, r2, Nat.le_refl _, r3, r4, hC.trans A, N.app hL, O', K.trans K' (fun x q => (S x (hsub x q)).2.2.2), S.go A, hEL, hx⟩
/-- invokestatic by its contract -/
theorem Wd.calls (X : Wd p l e R s m args below meth c Z a0 EL own n0 SA0 SA T h cells slots) (argsL rest : List Value) {idx : Nat} (ct : Ct l Z EL [] y bytes maxL ret rm argsL.toArray h n0 SA' Q0) (w1 : (Jvm.Cond.methodLink own idx y).before a0 Z = true) (w2 : (Jvm.Cond.static y).before a0 Z = true) (w3 : (Jvm.Cond.initialized y.cls).before a0 Z = true) (w4 : (Jvm.Cond.code y bytes maxL ret).before a0 Z = true)
    (hy : y.cls ≠ "java/lang/invoke/MethodHandle" ∧ y.cls ≠ "java/lang/invoke/VarHandle") (hsub : ∀ x ∈ SA', x ∈ SA) (hf : rm.frames + 1 ≤ R.frames) (W : Nat) (hl : W + (maxL + 11) + rm.locals ≤ R.locals) (hcl : cells + rm.cells ≤ R.cells) (hsl : slots + rm.slots ≤ R.slots)
    (hlen : ∀ sig, parseMethodDescriptor y.desc = some sig → argsL.length = sig.parameters.length) (hst : st = argsL.reverse ++ rest) (hW : (rest.map fun v => v.category).sum ≤ W) (hsize : Ls.size = c.maxLocals) (hd : decode c.code pc = .ok (.invokestatic idx, 3))
    (k : ∀ (T' : State) (h' : Heap) (v : Option Value), Wd p l e R s m args below meth c Z a0 EL own n0 SA0 SA T' h' (cells + rm.cells) (slots + rm.slots) → Keep h h' SA' → Q0 v h' → Goes p.tables e below Q (T'.setTop (mkF m (pc + 3) Ls (v.toList ++ rest)))) : Goes p.tables e below Q (T.setTop (mkF m pc Ls st)) := by
  obtain ⟨vm0, locs, k0, Y, eT, hS, hk, hZ, hown, hC, N, O, K, S, hEL, hx⟩ := X
  obtain ⟨v, vm1, ⟨T', L', c', s'⟩, -, Y', h2, hg, ⟨L, ⟨q0, q1, q2, q3⟩, rfl, rfl, rfl, A⟩, st'⟩ := callSS Y hx hown (mvT hZ w1) (mvT hZ w2) (mvT hZ w3) (mvT hZ w4) hy (ct.back (a0 := a0) (W := W) (len := 3) hZ w4 w3 hf hl hEL hC.1 O fun x q => ⟨(S x (hsub x q)).1, (S x (hsub x q)).2.1, (S x (hsub x q)).2.2.1⟩)
    (g := mkF m pc Ls st) rfl hsize (argsL := argsL) (rest := rest) hlen hst (by show 2 * 0 + _ ≤ _; omega) hd (fun _ _ => ⟨rfl, eT, hcl, hsl⟩)
  exact Goes.aft st' (k T' T'.heap v (callN hS hk hZ hown hC N K S hEL hx Y' h2 (by rw [← eT]; exact hg) q1 q2 q3 hsub A) q3 q0)
/-- invokespecial of a constructor by its contract -/
theorem Wd.callc (X : Wd p l e R s m args below meth c Z a0 EL own n0 SA0 SA T h cells slots) (argsL rest : List Value) {idx : Nat} (ct : Ct l Z EL [] y bytes maxL none rm (.ref a :: argsL).toArray h n0 SA' Q0) (hy1 : y.name = "<init>") (w1 : (Jvm.Cond.methodLink own idx y).before a0 Z = true) (w2 : (Jvm.Cond.instanceMethod y).before a0 Z = true) (w3 : (Jvm.Cond.initialized y.cls).before a0 Z = true) (w4 : (Jvm.Cond.code y bytes maxL none).before a0 Z = true)
    (hy : y.cls ≠ "java/lang/invoke/MethodHandle" ∧ y.cls ≠ "java/lang/invoke/VarHandle") (hsub : ∀ x ∈ SA', x ∈ SA) (hf : rm.frames + 1 ≤ R.frames) (W : Nat) (hl : W + (maxL + 11) + rm.locals ≤ R.locals) (hcl : cells + rm.cells ≤ R.cells) (hsl : slots + rm.slots ≤ R.slots)
    (hlen : ∀ sig, parseMethodDescriptor y.desc = some sig → argsL.length = sig.parameters.length) (hst : st = argsL.reverse ++ .ref a :: rest) (hW : (rest.map fun v => v.category).sum ≤ W) (hsize : Ls.size = c.maxLocals) (hd : decode c.code pc = .ok (.invokespecial idx, 3))
    (k : ∀ (T' : State) (h' : Heap) (v : Option Value), Wd p l e R s m args below meth c Z a0 EL own n0 SA0 SA T' h' (cells + rm.cells) (slots + rm.slots) → Keep h h' SA' → Q0 v h' → Goes p.tables e below Q (T'.setTop (mkF m (pc + 3) Ls (v.toList ++ rest)))) : Goes p.tables e below Q (T.setTop (mkF m pc Ls st)) := by
  obtain ⟨vm0, locs, k0, Y, eT, hS, hk, hZ, hown, hC, N, O, K, S, hEL, hx⟩ := X
  obtain ⟨v, vm1, ⟨T', L', c', s'⟩, -, Y', h2, hg, ⟨L, ⟨q0, q1, q2, q3⟩, rfl, rfl, rfl, A⟩, st'⟩ := Y.specialBackS hx hy1 hown (mvT hZ w1) (mvT hZ w2) (mvT hZ w4) hy (ct.back (a0 := a0) (W := W) (len := 3) hZ w4 w3 hf hl hEL hC.1 O fun x q => ⟨(S x (hsub x q)).1, (S x (hsub x q)).2.1, (S x (hsub x q)).2.2.1⟩)
    (g := mkF m pc Ls st) rfl hsize (Steps.refl _) (a := a) (argsL := argsL) (rest := rest) hlen hst (by show 2 * 0 + _ ≤ _; omega) hd (fun _ _ => ⟨rfl, eT, hcl, hsl⟩)
  exact Goes.aft st' (k T' T'.heap v (callN hS hk hZ hown hC N K S hEL hx Y' h2 (by rw [← eT]; exact hg) q1 q2 q3 hsub A) q3 q0)
/-- invokevirtual by its contract: resolved y, selected z on an object that is exactly a C -/
theorem Wd.callv (X : Wd p l e R s m args below meth c Z a0 EL own n0 SA0 SA T h cells slots) (argsL rest : List Value) {idx : Nat} {C : String} (ct : Ct l Z EL [] y bytes maxL ret rm (.ref a :: argsL).toArray h n0 SA' Q0) (E : Exa Z h a C) (w1 : (Jvm.Cond.methodLink own idx y).before a0 Z = true) (w2 : (Jvm.Cond.declares y).before a0 Z = true) (w3 : (Jvm.Cond.selects C y y).before a0 Z = true) (w4 : (Jvm.Cond.instanceMethod y).before a0 Z = true)
    (w5 : (Jvm.Cond.initialized y.cls).before a0 Z = true) (w6 : (Jvm.Cond.code y bytes maxL ret).before a0 Z = true)
    (hy : y.cls ≠ "java/lang/invoke/MethodHandle" ∧ y.cls ≠ "java/lang/invoke/VarHandle") (hsub : ∀ x ∈ SA', x ∈ SA) (hf : rm.frames + 1 ≤ R.frames) (W : Nat) (hl : W + (maxL + 11) + rm.locals ≤ R.locals) (hcl : cells + rm.cells ≤ R.cells) (hsl : slots + rm.slots ≤ R.slots)
    (hlen : ∀ sig, parseMethodDescriptor y.desc = some sig → argsL.length = sig.parameters.length) (hst : st = argsL.reverse ++ .ref a :: rest) (hW : (rest.map fun v => v.category).sum ≤ W) (hsize : Ls.size = c.maxLocals) (hd : decode c.code pc = .ok (.invokevirtual idx, 3))
    (k : ∀ (T' : State) (h' : Heap) (v : Option Value), Wd p l e R s m args below meth c Z a0 EL own n0 SA0 SA T' h' (cells + rm.cells) (slots + rm.slots) → Keep h h' SA' → Q0 v h' → Goes p.tables e below Q (T'.setTop (mkF m (pc + 3) Ls (v.toList ++ rest)))) : Goes p.tables e below Q (T.setTop (mkF m pc Ls st)) := by
  obtain ⟨vm0, locs, k0, Y, eT, hS, hk, hZ, hown, hC, N, O, K, S, hEL, hx⟩ := X
  obtain ⟨cB, kB, u1, -, u3⟩ := isOf (s := s.setVm vm0) hZ eT E
  obtain ⟨v, vm1, ⟨T', L', c', s'⟩, -, Y', h2, hg, ⟨L, ⟨q0, q1, q2, q3⟩, rfl, rfl, rfl, A⟩, st'⟩ := Y.virtualBackS hx hown (mvT hZ w1) (mvT hZ w2) (notFace_of_selects (args := #[]) (mvT hZ w3)) (mvT hZ w3) (mvT hZ w4) hy (ct.back (a0 := a0) (W := W) (len := 3) hZ w6 w5 hf hl hEL hC.1 O fun x q => ⟨(S x (hsub x q)).1, (S x (hsub x q)).2.1, (S x (hsub x q)).2.2.1⟩)
    u1 u3 (g := mkF m pc Ls st) rfl hsize (Steps.refl _) (argsL := argsL) (rest := rest) hlen hst (by show 2 * 0 + _ ≤ _; omega) hd (fun _ _ => ⟨rfl, eT, hcl, hsl⟩)
  exact Goes.aft st' (k T' T'.heap v (callN hS hk hZ hown hC N K S hEL hx Y' h2 (by rw [← eT]; exact hg) q1 q2 q3 hsub A) q3 q0)
/-- what stands behind a call by a law of the narrow kind (nothing interned), that wrote ws -/
theorem backN {T' : State} {L : List Loc} {k0 cells' slots' : Nat} (hS : s.Since vm0 k0) (hk : k0 ≤ h.size) (hZ : Z.Warmed39 vm0) (hown : vm0.findClass own = some m.cls) (hC : CHr Z EL s.vm s.heap vm0 h) {locs : List Loc} (N : Fr n0 locs) (O : Old Z n0 h) (K : Keep s.heap h SA0) (S : Sfs Z EL vm0 h n0 s.heap.size SA0 SA) (hEL : EW Z a0 EL) (hx : p.tables.exec = Jvm.exec)
    (Y : Stand p l e R (s.setVm vm0) m args below meth c T' (locs ++ L) cells' slots') (hL : Fr n0 L) (K' : Keep h T'.heap SA') (hsub : ∀ x ∈ SA', x ∈ SA) :
    Wd p l e R s m args below meth c Z a0 EL own n0 SA0 SA T' T'.heap cells' slots' := by
  have A := CHr.keep K' (fun x q => (S x (hsub x q)).1) hC.1
  exact ⟨vm0, _, k0, Y, rfl, hS, Nat.le_trans hk K'.1, hZ, hown, hC.trans A, N.app hL, O.keep K' (fun x q => (S x (hsub x q)).2.2.1), K.trans K' (fun x q => (S x (hsub x q)).2.2.2), S.go A, hEL, hx⟩
/-- the ends -/
theorem Wd.leave (X : Wd p l e R s m args below meth c Z a0 EL own n0 SA0 SA T h cells slots) (hv : meth.sig.returnType = none → ∀ w, v = w → False) (hlk : meth.locks = false) (hcl : cells ≤ R.cells) (hsl : slots ≤ R.slots) (q : Q0 (some v) h)
    (st' : ∀ fs, (∀ (f : JFrame) (acts : List Action), f.method = m → f.locked = none → f.entered = [] → (doReturn e (T.setTop f) acts (some v)).1 = T.setFrames fs) → ∀ (vm0 : Vm) (locs : List Loc), Stand p l e R (s.setVm vm0) m args below meth c T locs cells slots → Steps p.tables e below (T.setTop (mkF m pc Ls st)) (T.setFrames fs)) :
    Goes p.tables e below (Endq Z EL s n0 SA0 R Q0) (T.setTop (mkF m pc Ls st)) := by
  have X0 := X
  obtain ⟨vm0, locs, k0, Y, eT, hS, hk, hZ, hown, hC, N, O, K, S, hEL, hx⟩ := X
  obtain ⟨fs, hr, hrun, hended, hE⟩ := (Y.mono hcl hsl).leaveW hS (by rw [eT]; exact hk) (v := some v) (fun q => (hv q v rfl).elim) hlk
  refine ⟨_, _, st' fs hr vm0 locs Y, hrun, hended, _, _, rfl, ⟨?_, N, ?_, ?_⟩, ?_, hE⟩
  · show Q0 (some v) T.heap; rw [eT]; exact q
  · show Old Z n0 T.heap; rw [eT]; exact O
  · show Keep s.heap T.heap SA0; rw [eT]; exact K
  · show CHr Z EL s.vm s.heap T.vm T.heap; rw [eT]; exact hC.trans (CHv.at Y hZ hEL hC.1)
theorem Wd.retn (X : Wd p l e R s m args below meth c Z a0 EL own n0 SA0 SA T h cells slots) (hret : meth.sig.returnType = none) (hlk : meth.locks = false) (hd : decode c.code pc = .ok (.return_, 1)) (hcl : cells ≤ R.cells) (hsl : slots ≤ R.slots) (q : Q0 none h) :
    Goes p.tables e below (Endq Z EL s n0 SA0 R Q0) (T.setTop (mkF m pc Ls [])) := by
  obtain ⟨vm0, locs, k0, Y, eT, hS, hk, hZ, hown, hC, N, O, K, S, hEL, hx⟩ := X
  obtain ⟨fs, hr, hrun, hended, hE⟩ := (Y.mono hcl hsl).leaveW hS (by rw [eT]; exact hk) (v := none) (fun _ => rfl) hlk
  refine ⟨_, _, Y.returnOut hx hret hd hr, hrun, hended, _, _, rfl, ⟨?_, N, ?_, ?_⟩, ?_, hE⟩
  · show Q0 none T.heap; rw [eT]; exact q
  · show Old Z n0 T.heap; rw [eT]; exact O
  · show Keep s.heap T.heap SA0; rw [eT]; exact K
  · show CHr Z EL s.vm s.heap T.vm T.heap; rw [eT]; exact hC.trans (CHv.at Y hZ hEL hC.1)
/-- ireturn of a boolean, byte, char or short -/
theorem Wd.reti (X : Wd p l e R s m args below meth c Z a0 EL own n0 SA0 SA T h cells slots) {t : FieldType} {x : Int32} (hret : meth.sig.returnType = some t) (ht : t = .boolean ∨ t = .byte ∨ t = .char ∨ t = .short) (hlk : meth.locks = false) (hd : decode c.code pc = .ok (.ireturn, 1)) (hcl : cells ≤ R.cells) (hsl : slots ≤ R.slots) (q : Q0 (some (.int (nar t x))) h) :
    Goes p.tables e below (Endq Z EL s n0 SA0 R Q0) (T.setTop (mkF m pc Ls (.int x :: st))) :=
  X.leave (fun q => by rw [hret] at q; cases q) hlk hcl hsl q (fun fs hr vm0 locs Y => retN Y X.exec hret ht hd hr)
/-- ireturn of an int -/
theorem Wd.retI (X : Wd p l e R s m args below meth c Z a0 EL own n0 SA0 SA T h cells slots) {x : Int32} (hret : meth.sig.returnType = some .int) (hlk : meth.locks = false) (hd : decode c.code pc = .ok (.ireturn, 1)) (hcl : cells ≤ R.cells) (hsl : slots ≤ R.slots) (q : Q0 (some (.int x)) h) :
    Goes p.tables e below (Endq Z EL s n0 SA0 R Q0) (T.setTop (mkF m pc Ls (.int x :: st))) :=
  X.leave (fun q => by rw [hret] at q; cases q) hlk hcl hsl q (fun fs hr vm0 locs Y => retOut Y X.exec hret rfl (Or.inl ⟨rfl, Or.inl rfl, _, rfl⟩) hd hr)
/-- areturn -/
theorem Wd.retA (X : Wd p l e R s m args below meth c Z a0 EL own n0 SA0 SA T h cells slots) {t : FieldType} {x : Value} (hret : meth.sig.returnType = some t) (ht : t.isReference = true) (hx : x.isRef = true) (hlk : meth.locks = false) (hd : decode c.code pc = .ok (.areturn, 1)) (hcl : cells ≤ R.cells) (hsl : slots ≤ R.slots) (q : Q0 (some x) h) :
    Goes p.tables e below (Endq Z EL s n0 SA0 R Q0) (T.setTop (mkF m pc Ls (x :: st))) :=
  X.leave (fun q => by rw [hret] at q; cases q) hlk hcl hsl q (fun fs hr vm0 locs Y => retOut Y X.exec hret (by cases t <;> cases x <;> first | rfl | cases ht | cases hx) (Or.inr (Or.inr (Or.inr (Or.inr ⟨rfl, ht, hx⟩)))) hd hr)
end Wide
end Own
namespace Own
open Jvm Jvm.ClassFile Sem Op Lib Jvm.Free Jvm.Stand Jvm.LawKit Jvm.RoadKit Bundle
section Wide
variable {p : Program} {l : Launch} {e : Env} {R : Room} {s : State} {m : MethodId} {args : Array Value} {below : List Frame} {meth : Method} {c : Code}
variable {Z : State} {a0 : Array Value} {EL : List (String × Nat)} {own : String} {n0 : Nat} {SA0 SA : List Addr} {T : State} {h : Heap} {cells slots : Nat} {Q : Outcome → State → Prop} {pc : Nat} {Ls : Array Slot} {st : List Value}
theorem Wd.iloadN (X : Wd p l e R s m args below meth c Z a0 EL own n0 SA0 SA T h cells slots) {k : Fin 4} {x : Int32} (hd : decode c.code pc = .ok (.iload_n k, 1)) (hl : Ls[k.val]? = some (.val (.int x))) (g : Goes p.tables e below Q (T.setTop (mkF m (pc + 1) Ls (.int x :: st)))) : Goes p.tables e below Q (T.setTop (mkF m pc Ls st)) := by
  exact Goes.via (fun t k => XS.iloadN X.here X.exec rfl hd hl k) g
theorem Wd.iload (X : Wd p l e R s m args below meth c Z a0 EL own n0 SA0 SA T h cells slots) {k : Nat} {x : Int32} (hd : decode c.code pc = .ok (.iload k, 2)) (hl : Ls[k]? = some (.val (.int x))) (g : Goes p.tables e below Q (T.setTop (mkF m (pc + 2) Ls (.int x :: st)))) : Goes p.tables e below Q (T.setTop (mkF m pc Ls st)) := by
  exact Goes.via (fun t k => XS.iload X.here X.exec rfl hd hl k) g
theorem Wd.aloadN (X : Wd p l e R s m args below meth c Z a0 EL own n0 SA0 SA T h cells slots) {k : Fin 4} {x : Value} (hd : decode c.code pc = .ok (.aload_n k, 1)) (hl : Ls[k.val]? = some (.val x)) (hv : x.isRef = true) (g : Goes p.tables e below Q (T.setTop (mkF m (pc + 1) Ls (x :: st)))) : Goes p.tables e below Q (T.setTop (mkF m pc Ls st)) := by
  exact Goes.via (fun t k => XS.aloadN X.here X.exec rfl hd hl hv k) g
theorem Wd.aload (X : Wd p l e R s m args below meth c Z a0 EL own n0 SA0 SA T h cells slots) {k : Nat} {x : Value} (hd : decode c.code pc = .ok (.aload k, 2)) (hl : Ls[k]? = some (.val x)) (hv : x.isRef = true) (g : Goes p.tables e below Q (T.setTop (mkF m (pc + 2) Ls (x :: st)))) : Goes p.tables e below Q (T.setTop (mkF m pc Ls st)) := by
  exact Goes.via (fun t k => XS.aload X.here X.exec rfl hd hl hv k) g
theorem Wd.iconst (X : Wd p l e R s m args below meth c Z a0 EL own n0 SA0 SA T h cells slots) {i : Int} {x : Int32} (hd : decode c.code pc = .ok (.iconst i, 1)) (hv : Int32.ofInt i = x) (g : Goes p.tables e below Q (T.setTop (mkF m (pc + 1) Ls (.int x :: st)))) : Goes p.tables e below Q (T.setTop (mkF m pc Ls st)) := by
  subst hv
  exact Goes.via (fun t k => XS.iconst X.here X.exec rfl hd k) g
theorem Wd.bipush (X : Wd p l e R s m args below meth c Z a0 EL own n0 SA0 SA T h cells slots) {i : Int} {x : Int32} (hd : decode c.code pc = .ok (.bipush i, 2)) (hv : (Int8.ofInt i).toInt32 = x) (g : Goes p.tables e below Q (T.setTop (mkF m (pc + 2) Ls (.int x :: st)))) : Goes p.tables e below Q (T.setTop (mkF m pc Ls st)) := by
  subst hv
  exact Goes.via (fun t k => XS.bipush X.here X.exec rfl hd k) g
theorem Wd.sipush (X : Wd p l e R s m args below meth c Z a0 EL own n0 SA0 SA T h cells slots) {i : Int} {x : Int32} (hd : decode c.code pc = .ok (.sipush i, 3)) (hv : (Int16.ofInt i).toInt32 = x) (g : Goes p.tables e below Q (T.setTop (mkF m (pc + 3) Ls (.int x :: st)))) : Goes p.tables e below Q (T.setTop (mkF m pc Ls st)) := by
  subst hv
  exact Goes.via (fun t k => XS.sipush X.here X.exec rfl hd k) g
theorem Wd.anull (X : Wd p l e R s m args below meth c Z a0 EL own n0 SA0 SA T h cells slots)  (hd : decode c.code pc = .ok (.aconst_null, 1))  (g : Goes p.tables e below Q (T.setTop (mkF m (pc + 1) Ls (.null :: st)))) : Goes p.tables e below Q (T.setTop (mkF m pc Ls st)) := by
  exact Goes.via (fun t k => XS.aconstNull X.here X.exec rfl hd k) g
theorem Wd.istoreN (X : Wd p l e R s m args below meth c Z a0 EL own n0 SA0 SA T h cells slots) {k : Fin 4} {x : Int32} (l' : Array Slot) (hd : decode c.code pc = .ok (.istore_n k, 1)) (hl : storeLocals Ls k.val (.int x) = some l') (g : Goes p.tables e below Q (T.setTop (mkF m (pc + 1) l' st))) : Goes p.tables e below Q (T.setTop (mkF m pc Ls (.int x :: st))) := by
  exact Goes.via (fun t k => XS.istoreN X.here X.exec rfl hd rfl hl k) g
theorem Wd.istore (X : Wd p l e R s m args below meth c Z a0 EL own n0 SA0 SA T h cells slots) {k : Nat} {x : Int32} (l' : Array Slot) (hd : decode c.code pc = .ok (.istore k, 2)) (hl : storeLocals Ls k (.int x) = some l') (g : Goes p.tables e below Q (T.setTop (mkF m (pc + 2) l' st))) : Goes p.tables e below Q (T.setTop (mkF m pc Ls (.int x :: st))) := by
  exact Goes.via (fun t k => XS.istore X.here X.exec rfl hd rfl hl k) g
theorem Wd.astoreN (X : Wd p l e R s m args below meth c Z a0 EL own n0 SA0 SA T h cells slots) {k : Fin 4} {x : Value} (l' : Array Slot) (hd : decode c.code pc = .ok (.astore_n k, 1)) (hv : x.isRef = true) (hl : storeLocals Ls k.val x = some l') (g : Goes p.tables e below Q (T.setTop (mkF m (pc + 1) l' st))) : Goes p.tables e below Q (T.setTop (mkF m pc Ls (x :: st))) := by
  exact Goes.via (fun t k => XS.astoreN X.here X.exec rfl hd rfl hv hl k) g
theorem Wd.astore (X : Wd p l e R s m args below meth c Z a0 EL own n0 SA0 SA T h cells slots) {k : Nat} {x : Value} (l' : Array Slot) (hd : decode c.code pc = .ok (.astore k, 2)) (hv : x.isRef = true) (hl : storeLocals Ls k x = some l') (g : Goes p.tables e below Q (T.setTop (mkF m (pc + 2) l' st))) : Goes p.tables e below Q (T.setTop (mkF m pc Ls (x :: st))) := by
  exact Goes.via (fun t k => XS.astore X.here X.exec rfl hd rfl hv hl k) g
theorem Wd.iadd (X : Wd p l e R s m args below meth c Z a0 EL own n0 SA0 SA T h cells slots) {x y : Int32} (hd : decode c.code pc = .ok (.iadd, 1))  (g : Goes p.tables e below Q (T.setTop (mkF m (pc + 1) Ls (.int (x + y) :: st)))) : Goes p.tables e below Q (T.setTop (mkF m pc Ls (.int y :: .int x :: st))) := by
  exact Goes.via (fun t k => XS.iadd X.here X.exec rfl hd rfl k) g
theorem Wd.isub (X : Wd p l e R s m args below meth c Z a0 EL own n0 SA0 SA T h cells slots) {x y : Int32} (hd : decode c.code pc = .ok (.isub, 1))  (g : Goes p.tables e below Q (T.setTop (mkF m (pc + 1) Ls (.int (x - y) :: st)))) : Goes p.tables e below Q (T.setTop (mkF m pc Ls (.int y :: .int x :: st))) := by
  exact Goes.via (fun t k => XS.isub X.here X.exec rfl hd rfl k) g
theorem Wd.iand (X : Wd p l e R s m args below meth c Z a0 EL own n0 SA0 SA T h cells slots) {x y : Int32} (hd : decode c.code pc = .ok (.iand, 1))  (g : Goes p.tables e below Q (T.setTop (mkF m (pc + 1) Ls (.int (x &&& y) :: st)))) : Goes p.tables e below Q (T.setTop (mkF m pc Ls (.int y :: .int x :: st))) := by
  exact Goes.via (fun t k => XS.iand X.here X.exec rfl hd rfl k) g
theorem Wd.imul (X : Wd p l e R s m args below meth c Z a0 EL own n0 SA0 SA T h cells slots) {x y : Int32} (hd : decode c.code pc = .ok (.imul, 1))  (g : Goes p.tables e below Q (T.setTop (mkF m (pc + 1) Ls (.int (x * y) :: st)))) : Goes p.tables e below Q (T.setTop (mkF m pc Ls (.int y :: .int x :: st))) := by
  exact Goes.via (fun t k => XS.imul X.here X.exec rfl hd rfl k) g
theorem Wd.ior (X : Wd p l e R s m args below meth c Z a0 EL own n0 SA0 SA T h cells slots) {x y : Int32} (hd : decode c.code pc = .ok (.ior, 1))  (g : Goes p.tables e below Q (T.setTop (mkF m (pc + 1) Ls (.int (x ||| y) :: st)))) : Goes p.tables e below Q (T.setTop (mkF m pc Ls (.int y :: .int x :: st))) := by
  exact Goes.via (fun t k => XT.ior X.here X.exec rfl hd rfl k) g
theorem Wd.ixor (X : Wd p l e R s m args below meth c Z a0 EL own n0 SA0 SA T h cells slots) {x y : Int32} (hd : decode c.code pc = .ok (.ixor, 1))  (g : Goes p.tables e below Q (T.setTop (mkF m (pc + 1) Ls (.int (x ^^^ y) :: st)))) : Goes p.tables e below Q (T.setTop (mkF m pc Ls (.int y :: .int x :: st))) := by
  exact Goes.via (fun t k => XT.ixor X.here X.exec rfl hd rfl k) g
theorem Wd.ishl (X : Wd p l e R s m args below meth c Z a0 EL own n0 SA0 SA T h cells slots) {x y : Int32} (hd : decode c.code pc = .ok (.ishl, 1))  (g : Goes p.tables e below Q (T.setTop (mkF m (pc + 1) Ls (.int (x <<< (y &&& 31)) :: st)))) : Goes p.tables e below Q (T.setTop (mkF m pc Ls (.int y :: .int x :: st))) := by
  exact Goes.via (fun t k => XT.ishl X.here X.exec rfl hd rfl k) g
theorem Wd.ishr (X : Wd p l e R s m args below meth c Z a0 EL own n0 SA0 SA T h cells slots) {x y : Int32} (hd : decode c.code pc = .ok (.ishr, 1))  (g : Goes p.tables e below Q (T.setTop (mkF m (pc + 1) Ls (.int (x >>> (y &&& 31)) :: st)))) : Goes p.tables e below Q (T.setTop (mkF m pc Ls (.int y :: .int x :: st))) := by
  exact Goes.via (fun t k => XT.ishr X.here X.exec rfl hd rfl k) g
theorem Wd.iushr (X : Wd p l e R s m args below meth c Z a0 EL own n0 SA0 SA T h cells slots) {x y : Int32} (hd : decode c.code pc = .ok (.iushr, 1))  (g : Goes p.tables e below Q (T.setTop (mkF m (pc + 1) Ls (.int (XT.ushr x y) :: st)))) : Goes p.tables e below Q (T.setTop (mkF m pc Ls (.int y :: .int x :: st))) := by
  exact Goes.via (fun t k => XT.iushr X.here X.exec rfl hd rfl k) g
theorem Wd.irem (X : Wd p l e R s m args below meth c Z a0 EL own n0 SA0 SA T h cells slots) {x y : Int32} (hd : decode c.code pc = .ok (.irem, 1)) (hy : y ≠ 0) (g : Goes p.tables e below Q (T.setTop (mkF m (pc + 1) Ls (.int (x % y) :: st)))) : Goes p.tables e below Q (T.setTop (mkF m pc Ls (.int y :: .int x :: st))) := by
  have hx := X.exec
  obtain ⟨vm0, locs, k0, Y, -⟩ := X
  exact Goes.via (fun t k => iremM Y hx (g := mkF m pc Ls (.int y :: .int x :: st)) rfl hd rfl hy k) g
theorem Wd.i2c (X : Wd p l e R s m args below meth c Z a0 EL own n0 SA0 SA T h cells slots) {x : Int32} (hd : decode c.code pc = .ok (.i2c, 1))  (g : Goes p.tables e below Q (T.setTop (mkF m (pc + 1) Ls (.int (x.toUInt32.toUInt16.toUInt32.toInt32) :: st)))) : Goes p.tables e below Q (T.setTop (mkF m pc Ls (.int x :: st))) := by
  exact Goes.via (fun t k => XT.i2c X.here X.exec rfl hd rfl k) g
theorem Wd.i2b (X : Wd p l e R s m args below meth c Z a0 EL own n0 SA0 SA T h cells slots) {x : Int32} (hd : decode c.code pc = .ok (.i2b, 1))  (g : Goes p.tables e below Q (T.setTop (mkF m (pc + 1) Ls (.int (x.toInt8.toInt32) :: st)))) : Goes p.tables e below Q (T.setTop (mkF m pc Ls (.int x :: st))) := by
  exact Goes.via (fun t k => XT.i2b X.here X.exec rfl hd rfl k) g
theorem Wd.dup (X : Wd p l e R s m args below meth c Z a0 EL own n0 SA0 SA T h cells slots) {x : Value} (hd : decode c.code pc = .ok (.dup, 1)) (hv : x.category = 1) (g : Goes p.tables e below Q (T.setTop (mkF m (pc + 1) Ls (x :: x :: st)))) : Goes p.tables e below Q (T.setTop (mkF m pc Ls (x :: st))) := by
  exact Goes.via (fun t k => XS.dup X.here X.exec rfl hd rfl hv k) g
theorem Wd.pop (X : Wd p l e R s m args below meth c Z a0 EL own n0 SA0 SA T h cells slots) {x : Value} (hd : decode c.code pc = .ok (.pop, 1)) (hv : x.category = 1) (g : Goes p.tables e below Q (T.setTop (mkF m (pc + 1) Ls st))) : Goes p.tables e below Q (T.setTop (mkF m pc Ls (x :: st))) := by
  exact Goes.via (fun t k => XT.pop X.here X.exec rfl hd rfl hv k) g
theorem Wd.iinc (X : Wd p l e R s m args below meth c Z a0 EL own n0 SA0 SA T h cells slots) {k : Nat} {cst : Int} {x : Int32} (l' : Array Slot) (hd : decode c.code pc = .ok (.iinc k cst, 3)) (hl : Ls[k]? = some (.val (.int x))) (hl' : storeLocals Ls k (.int (x + Int32.ofInt cst)) = some l') (g : Goes p.tables e below Q (T.setTop (mkF m (pc + 3) l' st))) : Goes p.tables e below Q (T.setTop (mkF m pc Ls st)) := by
  exact Goes.via (fun t k => XS.iinc X.here X.exec rfl hd hl hl' k) g
theorem Wd.goto (X : Wd p l e R s m args below meth c Z a0 EL own n0 SA0 SA T h cells slots) {o : Int} (pc' : Nat) (hd : decode c.code pc = .ok (.goto o, 3)) (hp : 0 ≤ (pc : Int) + o ∧ ((pc : Int) + o).toNat = pc') (g : Goes p.tables e below Q (T.setTop (mkF m pc' Ls st))) : Goes p.tables e below Q (T.setTop (mkF m pc Ls st)) :=
  Goes.via (fun t k => XS.goto X.here X.exec rfl rfl hd hp.1 hp.2 k) g
theorem Wd.if_eq (X : Wd p l e R s m args below meth c Z a0 EL own n0 SA0 SA T h cells slots) {x : Int32} {o : Int} (pc' : Nat) (hd : decode c.code pc = .ok (.ifCond .eq o, 3)) (hp : 0 ≤ (pc : Int) + o ∧ ((pc : Int) + o).toNat = pc') (kt : x = 0 → Goes p.tables e below Q (T.setTop (mkF m pc' Ls st))) (kf : ¬ x = 0 → Goes p.tables e below Q (T.setTop (mkF m (pc + 3) Ls st))) : Goes p.tables e below Q (T.setTop (mkF m pc Ls (.int x :: st))) := by
  by_cases hq : x = 0
  · exact Goes.via (fun t k => XS.ifYes X.here X.exec rfl rfl hd rfl (XT.i0_eq_t hq) hp.1 hp.2 k) (kt hq)
  · exact Goes.via (fun t k => XS.ifNo X.here X.exec rfl hd rfl (XT.i0_eq_f hq) k) (kf hq)
theorem Wd.icmp_eq (X : Wd p l e R s m args below meth c Z a0 EL own n0 SA0 SA T h cells slots) {x y : Int32} {o : Int} (pc' : Nat) (hd : decode c.code pc = .ok (.if_icmp .eq o, 3)) (hp : 0 ≤ (pc : Int) + o ∧ ((pc : Int) + o).toNat = pc') (kt : x = y → Goes p.tables e below Q (T.setTop (mkF m pc' Ls st))) (kf : ¬ x = y → Goes p.tables e below Q (T.setTop (mkF m (pc + 3) Ls st))) : Goes p.tables e below Q (T.setTop (mkF m pc Ls (.int y :: .int x :: st))) := by
  by_cases hq : x = y
  · exact Goes.via (fun t k => XS.icmpYes X.here X.exec rfl rfl hd rfl (XT.ii_eq_t hq) hp.1 hp.2 k) (kt hq)
  · exact Goes.via (fun t k => XS.icmpNo X.here X.exec rfl hd rfl (XT.ii_eq_f hq) k) (kf hq)
theorem Wd.if_ne (X : Wd p l e R s m args below meth c Z a0 EL own n0 SA0 SA T h cells slots) {x : Int32} {o : Int} (pc' : Nat) (hd : decode c.code pc = .ok (.ifCond .ne o, 3)) (hp : 0 ≤ (pc : Int) + o ∧ ((pc : Int) + o).toNat = pc') (kt : ¬ x = 0 → Goes p.tables e below Q (T.setTop (mkF m pc' Ls st))) (kf : x = 0 → Goes p.tables e below Q (T.setTop (mkF m (pc + 3) Ls st))) : Goes p.tables e below Q (T.setTop (mkF m pc Ls (.int x :: st))) := by
  by_cases hq : x = 0
  · exact Goes.via (fun t k => XS.ifNo X.here X.exec rfl hd rfl (XT.i0_ne_f hq) k) (kf hq)
  · exact Goes.via (fun t k => XS.ifYes X.here X.exec rfl rfl hd rfl (XT.i0_ne_t hq) hp.1 hp.2 k) (kt hq)
theorem Wd.icmp_ne (X : Wd p l e R s m args below meth c Z a0 EL own n0 SA0 SA T h cells slots) {x y : Int32} {o : Int} (pc' : Nat) (hd : decode c.code pc = .ok (.if_icmp .ne o, 3)) (hp : 0 ≤ (pc : Int) + o ∧ ((pc : Int) + o).toNat = pc') (kt : ¬ x = y → Goes p.tables e below Q (T.setTop (mkF m pc' Ls st))) (kf : x = y → Goes p.tables e below Q (T.setTop (mkF m (pc + 3) Ls st))) : Goes p.tables e below Q (T.setTop (mkF m pc Ls (.int y :: .int x :: st))) := by
  by_cases hq : x = y
  · exact Goes.via (fun t k => XS.icmpNo X.here X.exec rfl hd rfl (XT.ii_ne_f hq) k) (kf hq)
  · exact Goes.via (fun t k => XS.icmpYes X.here X.exec rfl rfl hd rfl (XT.ii_ne_t hq) hp.1 hp.2 k) (kt hq)
theorem Wd.if_lt (X : Wd p l e R s m args below meth c Z a0 EL own n0 SA0 SA T h cells slots) {x : Int32} {o : Int} (pc' : Nat) (hd : decode c.code pc = .ok (.ifCond .lt o, 3)) (hp : 0 ≤ (pc : Int) + o ∧ ((pc : Int) + o).toNat = pc') (kt : x < 0 → Goes p.tables e below Q (T.setTop (mkF m pc' Ls st))) (kf : ¬ x < 0 → Goes p.tables e below Q (T.setTop (mkF m (pc + 3) Ls st))) : Goes p.tables e below Q (T.setTop (mkF m pc Ls (.int x :: st))) := by
  by_cases hq : x < 0
  · exact Goes.via (fun t k => XS.ifYes X.here X.exec rfl rfl hd rfl (XT.i0_lt_t hq) hp.1 hp.2 k) (kt hq)
  · exact Goes.via (fun t k => XS.ifNo X.here X.exec rfl hd rfl (XT.i0_lt_f hq) k) (kf hq)
theorem Wd.icmp_lt (X : Wd p l e R s m args below meth c Z a0 EL own n0 SA0 SA T h cells slots) {x y : Int32} {o : Int} (pc' : Nat) (hd : decode c.code pc = .ok (.if_icmp .lt o, 3)) (hp : 0 ≤ (pc : Int) + o ∧ ((pc : Int) + o).toNat = pc') (kt : x < y → Goes p.tables e below Q (T.setTop (mkF m pc' Ls st))) (kf : ¬ x < y → Goes p.tables e below Q (T.setTop (mkF m (pc + 3) Ls st))) : Goes p.tables e below Q (T.setTop (mkF m pc Ls (.int y :: .int x :: st))) := by
  by_cases hq : x < y
  · exact Goes.via (fun t k => XS.icmpYes X.here X.exec rfl rfl hd rfl (XT.ii_lt_t hq) hp.1 hp.2 k) (kt hq)
  · exact Goes.via (fun t k => XS.icmpNo X.here X.exec rfl hd rfl (XT.ii_lt_f hq) k) (kf hq)
theorem Wd.if_ge (X : Wd p l e R s m args below meth c Z a0 EL own n0 SA0 SA T h cells slots) {x : Int32} {o : Int} (pc' : Nat) (hd : decode c.code pc = .ok (.ifCond .ge o, 3)) (hp : 0 ≤ (pc : Int) + o ∧ ((pc : Int) + o).toNat = pc') (kt : ¬ x < 0 → Goes p.tables e below Q (T.setTop (mkF m pc' Ls st))) (kf : x < 0 → Goes p.tables e below Q (T.setTop (mkF m (pc + 3) Ls st))) : Goes p.tables e below Q (T.setTop (mkF m pc Ls (.int x :: st))) := by
  by_cases hq : x < 0
  · exact Goes.via (fun t k => XS.ifNo X.here X.exec rfl hd rfl (XT.i0_ge_f hq) k) (kf hq)
  · exact Goes.via (fun t k => XS.ifYes X.here X.exec rfl rfl hd rfl (XT.i0_ge_t hq) hp.1 hp.2 k) (kt hq)
theorem Wd.icmp_ge (X : Wd p l e R s m args below meth c Z a0 EL own n0 SA0 SA T h cells slots) {x y : Int32} {o : Int} (pc' : Nat) (hd : decode c.code pc = .ok (.if_icmp .ge o, 3)) (hp : 0 ≤ (pc : Int) + o ∧ ((pc : Int) + o).toNat = pc') (kt : ¬ x < y → Goes p.tables e below Q (T.setTop (mkF m pc' Ls st))) (kf : x < y → Goes p.tables e below Q (T.setTop (mkF m (pc + 3) Ls st))) : Goes p.tables e below Q (T.setTop (mkF m pc Ls (.int y :: .int x :: st))) := by
  by_cases hq : x < y
  · exact Goes.via (fun t k => XS.icmpNo X.here X.exec rfl hd rfl (XT.ii_ge_f hq) k) (kf hq)
  · exact Goes.via (fun t k => XS.icmpYes X.here X.exec rfl rfl hd rfl (XT.ii_ge_t hq) hp.1 hp.2 k) (kt hq)
theorem Wd.if_gt (X : Wd p l e R s m args below meth c Z a0 EL own n0 SA0 SA T h cells slots) {x : Int32} {o : Int} (pc' : Nat) (hd : decode c.code pc = .ok (.ifCond .gt o, 3)) (hp : 0 ≤ (pc : Int) + o ∧ ((pc : Int) + o).toNat = pc') (kt : 0 < x → Goes p.tables e below Q (T.setTop (mkF m pc' Ls st))) (kf : ¬ 0 < x → Goes p.tables e below Q (T.setTop (mkF m (pc + 3) Ls st))) : Goes p.tables e below Q (T.setTop (mkF m pc Ls (.int x :: st))) := by
  by_cases hq : 0 < x
  · exact Goes.via (fun t k => XS.ifYes X.here X.exec rfl rfl hd rfl (XT.i0_gt_t hq) hp.1 hp.2 k) (kt hq)
  · exact Goes.via (fun t k => XS.ifNo X.here X.exec rfl hd rfl (XT.i0_gt_f hq) k) (kf hq)
theorem Wd.icmp_gt (X : Wd p l e R s m args below meth c Z a0 EL own n0 SA0 SA T h cells slots) {x y : Int32} {o : Int} (pc' : Nat) (hd : decode c.code pc = .ok (.if_icmp .gt o, 3)) (hp : 0 ≤ (pc : Int) + o ∧ ((pc : Int) + o).toNat = pc') (kt : y < x → Goes p.tables e below Q (T.setTop (mkF m pc' Ls st))) (kf : ¬ y < x → Goes p.tables e below Q (T.setTop (mkF m (pc + 3) Ls st))) : Goes p.tables e below Q (T.setTop (mkF m pc Ls (.int y :: .int x :: st))) := by
  by_cases hq : y < x
  · exact Goes.via (fun t k => XS.icmpYes X.here X.exec rfl rfl hd rfl (XT.ii_gt_t hq) hp.1 hp.2 k) (kt hq)
  · exact Goes.via (fun t k => XS.icmpNo X.here X.exec rfl hd rfl (XT.ii_gt_f hq) k) (kf hq)
theorem Wd.if_le (X : Wd p l e R s m args below meth c Z a0 EL own n0 SA0 SA T h cells slots) {x : Int32} {o : Int} (pc' : Nat) (hd : decode c.code pc = .ok (.ifCond .le o, 3)) (hp : 0 ≤ (pc : Int) + o ∧ ((pc : Int) + o).toNat = pc') (kt : ¬ 0 < x → Goes p.tables e below Q (T.setTop (mkF m pc' Ls st))) (kf : 0 < x → Goes p.tables e below Q (T.setTop (mkF m (pc + 3) Ls st))) : Goes p.tables e below Q (T.setTop (mkF m pc Ls (.int x :: st))) := by
  by_cases hq : 0 < x
  · exact Goes.via (fun t k => XS.ifNo X.here X.exec rfl hd rfl (XT.i0_le_f hq) k) (kf hq)
  · exact Goes.via (fun t k => XS.ifYes X.here X.exec rfl rfl hd rfl (XT.i0_le_t hq) hp.1 hp.2 k) (kt hq)
theorem Wd.icmp_le (X : Wd p l e R s m args below meth c Z a0 EL own n0 SA0 SA T h cells slots) {x y : Int32} {o : Int} (pc' : Nat) (hd : decode c.code pc = .ok (.if_icmp .le o, 3)) (hp : 0 ≤ (pc : Int) + o ∧ ((pc : Int) + o).toNat = pc') (kt : ¬ y < x → Goes p.tables e below Q (T.setTop (mkF m pc' Ls st))) (kf : y < x → Goes p.tables e below Q (T.setTop (mkF m (pc + 3) Ls st))) : Goes p.tables e below Q (T.setTop (mkF m pc Ls (.int y :: .int x :: st))) := by
  by_cases hq : y < x
  · exact Goes.via (fun t k => XS.icmpNo X.here X.exec rfl hd rfl (XT.ii_le_f hq) k) (kf hq)
  · exact Goes.via (fun t k => XS.icmpYes X.here X.exec rfl rfl hd rfl (XT.ii_le_t hq) hp.1 hp.2 k) (kt hq)
theorem Wd.ifnullR (X : Wd p l e R s m args below meth c Z a0 EL own n0 SA0 SA T h cells slots) {b : Addr} {o : Int} (hd : decode c.code pc = .ok (.ifnull o, 3)) (g : Goes p.tables e below Q (T.setTop (mkF m (pc + 3) Ls st))) : Goes p.tables e below Q (T.setTop (mkF m pc Ls (.ref b :: st))) :=
  Goes.via (fun t k => XS.ifnullNo X.here X.exec rfl hd rfl k) g
theorem Wd.ifnullN (X : Wd p l e R s m args below meth c Z a0 EL own n0 SA0 SA T h cells slots) {o : Int} (pc' : Nat) (hd : decode c.code pc = .ok (.ifnull o, 3)) (hp : 0 ≤ (pc : Int) + o ∧ ((pc : Int) + o).toNat = pc') (g : Goes p.tables e below Q (T.setTop (mkF m pc' Ls st))) : Goes p.tables e below Q (T.setTop (mkF m pc Ls (.null :: st))) :=
  Goes.via (fun t k => XS.ifnullYes X.here X.exec rfl rfl hd rfl hp.1 hp.2 k) g
theorem Wd.ifnonnullR (X : Wd p l e R s m args below meth c Z a0 EL own n0 SA0 SA T h cells slots) {b : Addr} {o : Int} (pc' : Nat) (hd : decode c.code pc = .ok (.ifnonnull o, 3)) (hp : 0 ≤ (pc : Int) + o ∧ ((pc : Int) + o).toNat = pc') (g : Goes p.tables e below Q (T.setTop (mkF m pc' Ls st))) : Goes p.tables e below Q (T.setTop (mkF m pc Ls (.ref b :: st))) :=
  Goes.via (fun t k => XT.ifnonnullYes X.here X.exec rfl rfl hd rfl hp.1 hp.2 k) g
theorem Wd.ifnonnullN (X : Wd p l e R s m args below meth c Z a0 EL own n0 SA0 SA T h cells slots) {o : Int} (hd : decode c.code pc = .ok (.ifnonnull o, 3)) (g : Goes p.tables e below Q (T.setTop (mkF m (pc + 3) Ls st))) : Goes p.tables e below Q (T.setTop (mkF m pc Ls (.null :: st))) :=
  Goes.via (fun t k => XT.ifnonnullNo X.here X.exec rfl hd rfl k) g
theorem Wd.acmp_eq (X : Wd p l e R s m args below meth c Z a0 EL own n0 SA0 SA T h cells slots) {x y : Value} {o : Int} (pc' : Nat) (hd : decode c.code pc = .ok (.if_acmp .eq o, 3)) (hp : 0 ≤ (pc : Int) + o ∧ ((pc : Int) + o).toNat = pc') (hx : x.isRef = true) (hy : y.isRef = true) (kt : x = y → Goes p.tables e below Q (T.setTop (mkF m pc' Ls st))) (kf : ¬ x = y → Goes p.tables e below Q (T.setTop (mkF m (pc + 3) Ls st))) : Goes p.tables e below Q (T.setTop (mkF m pc Ls (y :: x :: st))) := by
  by_cases hq : x = y
  · exact Goes.via (fun t k => XT.acmpYes X.here X.exec rfl rfl hd rfl hx hy (XT.aa_eq_t hq) hp.1 hp.2 k) (kt hq)
  · exact Goes.via (fun t k => XT.acmpNo X.here X.exec rfl hd rfl hx hy (XT.aa_eq_f hq) k) (kf hq)
theorem Wd.acmp_ne (X : Wd p l e R s m args below meth c Z a0 EL own n0 SA0 SA T h cells slots) {x y : Value} {o : Int} (pc' : Nat) (hd : decode c.code pc = .ok (.if_acmp .ne o, 3)) (hp : 0 ≤ (pc : Int) + o ∧ ((pc : Int) + o).toNat = pc') (hx : x.isRef = true) (hy : y.isRef = true) (kt : ¬ x = y → Goes p.tables e below Q (T.setTop (mkF m pc' Ls st))) (kf : x = y → Goes p.tables e below Q (T.setTop (mkF m (pc + 3) Ls st))) : Goes p.tables e below Q (T.setTop (mkF m pc Ls (y :: x :: st))) := by
  by_cases hq : x = y
  · exact Goes.via (fun t k => XT.acmpNo X.here X.exec rfl hd rfl hx hy (XT.aa_ne_f hq) k) (kf hq)
  · exact Goes.via (fun t k => XT.acmpYes X.here X.exec rfl rfl hd rfl hx hy (XT.aa_ne_t hq) hp.1 hp.2 k) (kt hq)
end Wide
end Own
namespace Own
open Jvm Jvm.ClassFile Sem Op Lib Jvm.Free Jvm.Stand Jvm.LawKit Jvm.RoadKit Bundle
section Facts
variable {Z : State} {h h' : Heap} {a b t x y : Addr} {cs : List Int32} {C : String} {a0 : Array Value} {k k' : ClassId} {ty ty' : FieldType} {n n' : Int32} {vs vs' : List Value} {dv dv' v : Value} {sl : Nat} {ws : List Addr}
theorem arvTy (A : Arv Z h a k ty n vs dv) (B : Arv Z h b k' ty' n' vs' dv') (q : ty ≠ ty') : a ≠ b := fun e => by
  subst e
  obtain ⟨c1, ⟨h1, ⟨-, k1, h2, m1, h3⟩, -⟩, -⟩ := A
  obtain ⟨c2, ⟨g1, ⟨-, k2, g2, m2, g3⟩, -⟩, -⟩ := B
  cases h1.symm.trans g1
  cases h2.symm.trans g2
  rw [h3] at g3
  cases g3
  exact q rfl
theorem narR {t : FieldType} {v : Value} (hv : v.isRef = true) (ht : t.isReference = true := by rfl) : narrow t v = v := by cases t <;> cases v <;> first | rfl | (cases hv; done) | (cases ht; done)
theorem fitR {t : FieldType} {v : Value} (hv : v.isRef = true) (ht : t.isReference = true := by rfl) : fits t v = true := by cases t <;> cases v <;> first | rfl | (cases hv; done) | (cases ht; done)
/-- a is a Latin-1 String that spells cs; its bytes lie at t -/
def OStr (Z : State) (h : Heap) (a t : Addr) (cs : List Int32) : Prop := Exa Z h a "java/lang/String" ∧ (∀ c ∈ cs, ¬ c < 0 ∧ ¬ (255 : Int32) < c) ∧ cs.length ≤ 4000 ∧
  ∃ kb : ClassId, Fld Z h a "java/lang/String" "value" "[B" (.ref t) ∧ Fld Z h a "java/lang/String" "coder" "B" (.int (0 : Int32)) ∧ Arv Z h t kb .byte (Int32.ofNat cs.length) ((cs.map StrChars.lo8).map Value.int) (.int 0)
theorem up16 {cs : List Int32} (hp : ∀ c ∈ cs, ¬ c < 0 ∧ ¬ (255 : Int32) < c) : ∀ c ∈ cs, ¬ c < 0 ∧ ¬ (65535 : Int32) < c := fun c q => ⟨(hp c q).1, fun z => (hp c q).2 (Int32.lt_trans (by decide) z)⟩
theorem OStr.lt (F : OStr Z h a t cs) : a < h.size := F.1.lt
theorem OStr.ltb (F : OStr Z h a t cs) : t < h.size := by obtain ⟨-, -, -, _, -, -, A⟩ := F; exact A.lt
theorem OStr.ext (F : OStr Z h a t cs) (E : Ext h h') : OStr Z h' a t cs := by
  obtain ⟨h1, h2, h3, kb, h4, h5, h6⟩ := F
  exact ⟨h1.ext E, h2, h3, kb, h4.ext E, h5.ext E, h6.ext E⟩
theorem OStr.wr (F : OStr Z h a t cs) (W : Wr h h' x sl v) (q1 : a ≠ x) (q2 : t ≠ x) : OStr Z h' a t cs := by
  obtain ⟨h1, h2, h3, kb, h4, h5, h6⟩ := F
  exact ⟨h1.wr W, h2, h3, kb, h4.other W (Or.inl q1), h5.other W (Or.inl q1), h6.other W q2⟩
theorem OStr.keep (F : OStr Z h a t cs) (K : Keep h h' ws) (q1 : a ∉ ws) (q2 : t ∉ ws) : OStr Z h' a t cs := by
  obtain ⟨h1, h2, h3, kb, h4, h5, h6⟩ := F
  exact ⟨h1.keep K, h2, h3, kb, h4.keep K q1, h5.keep K q1, h6.keep K q2⟩
theorem OStr.neT {kk : Nat} (F : OStr Z h a t cs) (E : Exa Z h x C) (w : (Jvm.Cond.instantiable C kk).before a0 Z = true) : t ≠ x := by
  obtain ⟨-, -, -, kb, -, -, h6⟩ := F
  exact (E.neArv h6 w).symm
theorem OStr.neTA (F : OStr Z h a t cs) (A : Arv Z h x k ty n vs dv) (q : FieldType.byte ≠ ty) : t ≠ x := by
  obtain ⟨-, -, -, kb, -, -, h6⟩ := F
  exact arvTy h6 A q
theorem OStr.mk {kb : ClassId} (E : Exa Z h a "java/lang/String") (V : Fld Z h a "java/lang/String" "value" "[B" (.ref t)) (C : Fld Z h a "java/lang/String" "coder" "B" (.int (0 : Int32))) (A : Arv Z h t kb .byte (Int32.ofNat cs.length) ((cs.map StrChars.lo8).map Value.int) (.int 0)) (hp : ∀ c ∈ cs, ¬ c < 0 ∧ ¬ (255 : Int32) < c) (l2 : cs.length ≤ 4000) : OStr Z h a t cs :=
  ⟨E, hp, l2, kb, V, C, A⟩
end Facts
section Wide
variable {p : Program} {l : Launch} {e : Env} {R : Room} {s : State} {m : MethodId} {args : Array Value} {below : List Frame} {meth : Method} {c : Code}
variable {Z : State} {a0 : Array Value} {EL : List (String × Nat)} {own : String} {n0 : Nat} {SA0 SA : List Addr} {T : State} {h h' : Heap} {cells slots : Nat} {Q : Outcome → State → Prop} {pc : Nat} {Ls : Array Slot} {st : List Value} {vm0 vm1 : Vm} {a b : Addr} {sl : Nat} {v : Value}
abbrev sI1 : MethodName := ⟨"java/lang/String", "<init>", "([C)V"⟩
theorem pdI1 : parseMethodDescriptor "([C)V" = some ⟨[.array .char], none⟩ := by decide +kernel
/-- new String(char[]), one to 4000 chars, each 0 to 255 -/
theorem Wd.newStr (X : Wd p l e R s m args below meth c Z a0 EL own n0 SA0 SA T h cells slots) {idx : Nat} {kC : ClassId} {cs : List Int32} {d v0 c0 : Value} {z N : Int32} (n : Nat) (w1 : (Jvm.Cond.methodLink own idx sI1).before a0 Z = true) (w2 : (Jvm.Cond.instanceMethod sI1).before a0 Z = true)
    (hws : ∀ d ∈ StrChars.Road.words, d.before a0 Z = true) (wi : (Jvm.Cond.instantiable "java/lang/String" 4).before a0 Z = true) (E : Exa Z h a "java/lang/String") (V : Fld Z h a "java/lang/String" "value" "[B" v0) (C : Fld Z h a "java/lang/String" "coder" "B" c0) (K : Arv Z h b kC .char N (cs.map Value.int) d)
    (S0 : Sta Z Z.heap "java/lang/String" "COMPACT_STRINGS" "Z" (.int z)) (hz : ¬ z = 0) (hn : cs.length = n) (hN : N = Int32.ofNat n) (l0 : 0 < n) (l2 : n ≤ 4000) (hp : ∀ c ∈ cs, ¬ c < 0 ∧ ¬ (255 : Int32) < c) (q : a ∈ SA) (hfr : 4 ≤ R.frames) (W : Nat) (hW : (st.map fun v => v.category).sum ≤ W) (hlo : W + 65 ≤ R.locals)
    (hcl : cells + 1 ≤ R.cells) (hsl : slots + n ≤ R.slots) (hsize : Ls.size = c.maxLocals) (hd : decode c.code pc = .ok (.invokespecial idx, 3))
    (k : ∀ (T' : State) (h' : Heap) (t : Addr), Wd p l e R s m args below meth c Z a0 EL own n0 SA0 SA T' h' (cells + 1) (slots + n) → Keep h h' [a] → h.size ≤ t → OStr Z h' a t cs → Goes p.tables e below Q (T'.setTop (mkF m (pc + 3) Ls st))) : Goes p.tables e below Q (T.setTop (mkF m pc Ls (.ref b :: .ref a :: st))) := by
  have hn0 := X.n0h
  have hsa := X.saf q
  obtain ⟨vm0, locs, k0, Y, eT, hS, hk, hZ, hown, hC, N', O, K', S, hEL, hx⟩ := X
  obtain ⟨_, vm1, ⟨T', L', c', s'⟩, -, Y', ⟨L, ⟨rfl, hL, Kp, E', C', t, kb, -, g2, -, V', A'⟩, rfl, rfl, rfl⟩, st'⟩ := Y.specialBack hx (y := sI1) rfl hown (mvT hZ w1) (mvT hZ w2) (mvT hZ (hws _ (List.mem_cons_self ..))) (by decide)
    (StrChars.Road.backV (W := W) (n0 := n0) hZ hws wi hsa.1 hn0 E V C K (Sta.ext O.2 S0) hz hn hN l0 l2 hp rfl hfr hlo) (g := mkF m pc Ls (.ref b :: .ref a :: st)) rfl hsize (Steps.refl _) (a := a) (argsL := [.ref b]) (rest := st) (lenOf pdI1 rfl) rfl (by show 2 * 0 + _ ≤ _; omega) hd (fun _ _ => ⟨rfl, eT, hcl, hsl⟩)
  subst hn hN
  exact Goes.aft st' (k T' T'.heap t (backN hS hk hZ hown hC N' O K' S hEL hx Y' hL Kp (fun x hx => by cases List.mem_singleton.mp hx; exact q)) Kp g2 (OStr.mk E' V' C' A' hp l2))
end Wide
end Own
namespace Own
open Jvm Jvm.ClassFile Sem Op Lib Jvm.Free Jvm.Stand Jvm.LawKit Jvm.RoadKit Bundle
/-- (char) x -/
def i2c (x : Int32) : Int32 := x.toUInt32.toUInt16.toUInt32.toInt32
/-- (char) (x & 255) -/
def c8 (x : Int32) : Int32 := (x &&& (255 : Int32)).toUInt32.toUInt16.toUInt32.toInt32
theorem nar_i2c (x : Int32) : nar .char (i2c x) = i2c x := by
  have q := XT.narrow_c x
  simp only [nar, i2c, UInt32.toUInt32_toInt32, UInt16.toUInt16_toUInt32]
theorem nar_lo8 (x : Int32) : nar .byte (StrChars.lo8 x) = StrChars.lo8 x := by
  show (x.toInt8.toInt32).toInt8.toInt32 = x.toInt8.toInt32
  rw [Int8.toInt8_toInt32]
theorem nar_c8 (x : Int32) : nar .char (c8 x) = c8 x := nar_i2c (x &&& 255)
theorem i2c_nat (x : Int32) : (i2c x).toBitVec.toNat = x.toBitVec.toNat % 65536 := by
  show (x.toUInt32.toUInt16.toUInt32).toNat = _
  simp
  rfl
theorem nat_rng {x : Int32} {n : Nat} (h : x.toBitVec.toNat ≤ n) (hn : n < 2 ^ 31) : x.toInt = x.toBitVec.toNat := by
  show x.toBitVec.toInt = _
  rw [BitVec.toInt_eq_toNat_cond]; split <;> omega
theorem i2c_int (x : Int32) : (i2c x).toInt = ((x.toBitVec.toNat % 65536 : Nat) : Int) := by
  rw [nat_rng (n := 65535) (by rw [i2c_nat]; omega) (by decide), i2c_nat]
theorem i2c_rng (x : Int32) : ¬ i2c x < 0 ∧ ¬ (65535 : Int32) < i2c x := by
  simp only [Int32.lt_iff_toInt_lt, i2c_int, show (0 : Int32).toInt = 0 from rfl, show (65535 : Int32).toInt = 65535 from rfl]
  omega
theorem and_nat (x y : Int32) : (x &&& y).toBitVec.toNat = x.toBitVec.toNat &&& y.toBitVec.toNat := by
  rw [Int32.toBitVec_and, BitVec.toNat_and]
theorem c8_int (x : Int32) : (c8 x).toInt = ((x.toBitVec.toNat % 256 : Nat) : Int) := by
  show (i2c (x &&& 255)).toInt = _
  rw [i2c_int, and_nat, show (255 : Int32).toBitVec.toNat = 2 ^ 8 - 1 from rfl, Nat.and_two_pow_sub_one_eq_mod]
  have : x.toBitVec.toNat % 2 ^ 8 < 256 := Nat.mod_lt _ (by decide)
  rw [Nat.mod_eq_of_lt (a := x.toBitVec.toNat % 2 ^ 8) (by omega)]
theorem c8_rng (x : Int32) : ¬ c8 x < 0 ∧ ¬ (255 : Int32) < c8 x := by
  simp only [Int32.lt_iff_toInt_lt, c8_int, show (0 : Int32).toInt = 0 from rfl, show (255 : Int32).toInt = 255 from rfl]
  omega
theorem hp0 {P : Int32 → Prop} : ∀ c ∈ ([] : List Int32), P c := fun _ q => nomatch q
theorem hpS {P : Int32 → Prop} {x : Int32} {L : List Int32} (q : P x) (r : ∀ c ∈ L, P c) : ∀ c ∈ x :: L, P c := fun c z => (List.mem_cons.mp z).elim (fun u => u ▸ q) (r c)
end Own
end Jvm.Pilot.@@N@@
namespace Jvm.Pilot.@@N@@
open Jvm Jvm.ClassFile Sem Op Lib Jvm.Free Jvm.Stand Jvm.LawKit Jvm.RoadKit Bundle Jvm.Pilot.@@N@@.Jvm.D
open Own
theorem hwsV : ∀ d ∈ StrChars.Road.words, d ∈ tables_1 := by decide +kernel
theorem hwS : ∀ d ∈ Bundle.stringAtoms, d ∈ tables_1 := by decide +kernel
theorem d7_0 : decode jdk_30_method_1_code 0 = .ok (.aload_n 0, 1) := by decide +kernel
theorem d7_1 : decode jdk_30_method_1_code 1 = .ok (.invokespecial 1, 3) := by decide +kernel
theorem d7_4 : decode jdk_30_method_1_code 4 = .ok (.return_, 1) := by decide +kernel
theorem pn_0 : plainName "java/lang/Record" = true := by first | (simp [plainName, overriddenIn]; done) | decide +kernel
set_option maxRecDepth 65536 in
set_option maxHeartbeats 40000000 in
theorem ctRec (l : Launch) (Z : State) (a0 : Array Value) (hw : ∀ d ∈ tables_1, d.before a0 Z = true) (hEL : EW Z a0 []) (z0 : Int32) (S0 : Sta Z Z.heap "java/lang/String" "COMPACT_STRINGS" "Z" (.int z0)) (hz0 : ¬ z0 = 0) (a : Addr) (h0 : Heap) (n0 : Nat)  :
    Ct l Z [] [] (⟨"java/lang/Record", "<init>", "()V"⟩ : MethodName) jdk_30_method_1_code 1 none ({ frames := 1, cells := 0, slots := 0, locals := 12 } : Room) #[(.ref a)] h0 n0 [] (fun v _ => v = none) := by
  have w : ∀ {d : Jvm.Cond} (i : Nat), tables_1[i]? = some d → d.before a0 Z = true := fun i q => hw _ (List.mem_of_getElem? q)
  refine Ct.enter (plainFor_of_name pn_0) hEL ?_
  intro p e sS m below meth c T0 hby hml0 hret hlk hnm hs0 X0
  have hml : c.maxLocals = 1 := hml0
  have D : ∀ {pc : Nat} {r : Except DecodeError (Instr × Nat)}, decode jdk_30_method_1_code pc = r → decode c.code pc = r := fun q => hb hby q
  rw [show entryFrame m #[(.ref a)] 1 = mkF m 0 #[.val (.ref a)] [] from by first | (simp [entryFrame, mkF, argsToLocals, Value.category]; done) | rfl]
  refine X0.aloadN (x := (.ref a)) (D d7_0) rfl rfl ?_
  refine X0.inito (w 41 rfl) (w 12 rfl) (w 13 rfl) (D d7_1) (by rw [hml]; rfl) (by decide) 0 (Nat.le_of_ble_eq_true rfl) (by decide) ?_
  intro T1 X2
  show Goes p.tables e below _ (T1.setTop (mkF m 4 #[.val (.ref a)] []))
  exact X2.retn hret hlk (D d7_4) (by decide) (by decide) (rfl)
theorem d8_0 : decode jdk_31_method_11_code 0 = .ok (.aload_n 0, 1) := by decide +kernel
theorem d8_1 : decode jdk_31_method_11_code 1 = .ok (.ifnonnull 12, 3) := by decide +kernel
theorem d8_4 : decode jdk_31_method_11_code 4 = .ok (.new 84, 3) := by decide +kernel
theorem d8_7 : decode jdk_31_method_11_code 7 = .ok (.dup, 1) := by decide +kernel
theorem d8_8 : decode jdk_31_method_11_code 8 = .ok (.aload_n 1, 1) := by decide +kernel
theorem d8_9 : decode jdk_31_method_11_code 9 = .ok (.invokespecial 87, 3) := by decide +kernel
theorem d8_12 : decode jdk_31_method_11_code 12 = .ok (.athrow, 1) := by decide +kernel
theorem d8_13 : decode jdk_31_method_11_code 13 = .ok (.aload_n 0, 1) := by decide +kernel
theorem d8_14 : decode jdk_31_method_11_code 14 = .ok (.areturn, 1) := by decide +kernel
theorem pn_1 : plainName "java/util/Objects" = true := by first | (simp [plainName, overriddenIn]; done) | decide +kernel
set_option maxRecDepth 65536 in
set_option maxHeartbeats 40000000 in
theorem ctReq (l : Launch) (Z : State) (a0 : Array Value) (hw : ∀ d ∈ tables_1, d.before a0 Z = true) (hEL : EW Z a0 []) (z0 : Int32) (S0 : Sta Z Z.heap "java/lang/String" "COMPACT_STRINGS" "Z" (.int z0)) (hz0 : ¬ z0 = 0) (a b : Addr) (h0 : Heap) (n0 : Nat)  :
    Ct l Z [] [] (⟨"java/util/Objects", "requireNonNull", "(Ljava/lang/Object;Ljava/lang/String;)Ljava/lang/Object;"⟩ : MethodName) jdk_31_method_11_code 2 (some (.object "java/lang/Object")) ({ frames := 0, cells := 0, slots := 0, locals := 0 } : Room) #[(.ref a), (.ref b)] h0 n0 [] (fun v _ => v = some (.ref a)) := by
  have w : ∀ {d : Jvm.Cond} (i : Nat), tables_1[i]? = some d → d.before a0 Z = true := fun i q => hw _ (List.mem_of_getElem? q)
  refine Ct.enter (plainFor_of_name pn_1) hEL ?_
  intro p e sS m below meth c T0 hby hml0 hret hlk hnm hs0 X0
  have hml : c.maxLocals = 2 := hml0
  have D : ∀ {pc : Nat} {r : Except DecodeError (Instr × Nat)}, decode jdk_31_method_11_code pc = r → decode c.code pc = r := fun q => hb hby q
  rw [show entryFrame m #[(.ref a), (.ref b)] 2 = mkF m 0 #[.val (.ref a), .val (.ref b)] [] from by first | (simp [entryFrame, mkF, argsToLocals, Value.category]; done) | rfl]
  refine X0.aloadN (x := (.ref a)) (D d8_0) rfl rfl ?_
  refine X0.ifnonnullR 13 (D d8_1) ⟨by decide, by decide⟩ ?_
  refine X0.aloadN (x := (.ref a)) (D d8_13) rfl rfl ?_
  exact X0.retA hret rfl rfl hlk (D d8_14) (by decide) (by decide) (rfl)
theorem d6_0 : decode prog_91_method_1_code 0 = .ok (.aload_n 0, 1) := by decide +kernel
theorem d6_1 : decode prog_91_method_1_code 1 = .ok (.invokespecial 3, 3) := by decide +kernel
theorem d6_4 : decode prog_91_method_1_code 4 = .ok (.aload_n 1, 1) := by decide +kernel
theorem d6_5 : decode prog_91_method_1_code 5 = .ok (.ldc 9, 2) := by decide +kernel
theorem d6_7 : decode prog_91_method_1_code 7 = .ok (.invokestatic 11, 3) := by decide +kernel
theorem d6_10 : decode prog_91_method_1_code 10 = .ok (.pop, 1) := by decide +kernel
theorem d6_11 : decode prog_91_method_1_code 11 = .ok (.aload_n 0, 1) := by decide +kernel
theorem d6_12 : decode prog_91_method_1_code 12 = .ok (.aload_n 1, 1) := by decide +kernel
theorem d6_13 : decode prog_91_method_1_code 13 = .ok (.putfield 17, 3) := by decide +kernel
theorem d6_16 : decode prog_91_method_1_code 16 = .ok (.aload_n 0, 1) := by decide +kernel
theorem d6_17 : decode prog_91_method_1_code 17 = .ok (.iload_n 2, 1) := by decide +kernel
theorem d6_18 : decode prog_91_method_1_code 18 = .ok (.putfield 22, 3) := by decide +kernel
theorem d6_21 : decode prog_91_method_1_code 21 = .ok (.return_, 1) := by decide +kernel
theorem pn_2 : plainName "com/example/modulog/modulog/model/Accessor$Target" = true := by first | (simp [plainName, overriddenIn]; done) | decide +kernel
theorem pd_0 : parseMethodDescriptor "()V" = some ⟨[], none⟩ := by decide +kernel
theorem pd_1 : parseMethodDescriptor "(Ljava/lang/Object;Ljava/lang/String;)Ljava/lang/Object;" = some ⟨[(.object "java/lang/Object"), (.object "java/lang/String")], (some (.object "java/lang/Object"))⟩ := by decide +kernel
set_option maxRecDepth 65536 in
set_option maxHeartbeats 40000000 in
theorem ctTgt (l : Launch) (Z : State) (a0 : Array Value) (hw : ∀ d ∈ tables_1, d.before a0 Z = true) (hEL : EW Z a0 []) (z0 : Int32) (S0 : Sta Z Z.heap "java/lang/String" "COMPACT_STRINGS" "Z" (.int z0)) (hz0 : ¬ z0 = 0) (a b : Addr) (f : Int32) (h0 : Heap) (n0 : Nat) (E0 : Exa Z h0 a "com/example/modulog/modulog/model/Accessor$Target") (F0 : Fld Z h0 a "com/example/modulog/modulog/model/Accessor$Target" "constructor" "Ljava/lang/String;" .null) (F1 : Fld Z h0 a "com/example/modulog/modulog/model/Accessor$Target" "field" "I" (.int (0 : Int32))) :
    Ct l Z [] [] (⟨"com/example/modulog/modulog/model/Accessor$Target", "<init>", "(Ljava/lang/String;I)V"⟩ : MethodName) prog_91_method_1_code 3 none ({ frames := 2, cells := 2, slots := 48, locals := 24 } : Room) #[(.ref a), (.ref b), (.int f)] h0 n0 [a] (fun v h => v = none ∧ Exa Z h a "com/example/modulog/modulog/model/Accessor$Target" ∧ Fld Z h a "com/example/modulog/modulog/model/Accessor$Target" "field" "I" (.int f)) := by
  have w : ∀ {d : Jvm.Cond} (i : Nat), tables_1[i]? = some d → d.before a0 Z = true := fun i q => hw _ (List.mem_of_getElem? q)
  refine Ct.enter (plainFor_of_name pn_2) hEL ?_
  intro p e sS m below meth c T0 hby hml0 hret hlk hnm hs0 X0
  have hml : c.maxLocals = 3 := hml0
  have D : ∀ {pc : Nat} {r : Except DecodeError (Instr × Nat)}, decode prog_91_method_1_code pc = r → decode c.code pc = r := fun q => hb hby q
  rw [show entryFrame m #[(.ref a), (.ref b), (.int f)] 3 = mkF m 0 #[.val (.ref a), .val (.ref b), .val (.int f)] [] from by first | (simp [entryFrame, mkF, argsToLocals, Value.category]; done) | rfl]
  refine X0.aloadN (x := (.ref a)) (D d6_0) rfl rfl ?_
  refine X0.callc (a := a) [] [] (ctRec l Z a0 hw hEL z0 S0 hz0 a _ _) rfl (w 36 rfl) (w 37 rfl) (w 39 rfl) (w 40 rfl) (by decide) (fun _ q => nomatch q) (by decide) 0 (by decide) (by decide) (by decide) (lenOf pd_0 rfl) rfl (Nat.le_of_ble_eq_true rfl) (by rw [hml]; rfl) (D d6_1) ?_
  rintro T3 h4 _ X6 K7 rfl
  have F8 := E0.keep K7
  have F9 := F0.keep K7 nin0
  have F10 := F1.keep K7 nin0
  show Goes p.tables e below _ (T3.setTop (mkF m 4 #[.val (.ref a), .val (.ref b), .val (.int f)] []))
  refine X6.aloadN (x := (.ref b)) (D d6_4) rfl rfl ?_
  refine X6.ldcO (w 42 rfl) (fun d q => hw d (hwS d q)) (D d6_5) 44 (by decide) (by decide) (by decide) (by decide) ?_
  intro T11 h12 b13 X14 E15
  have F16 := F8.ext E15
  have F17 := F9.ext E15
  have F18 := F10.ext E15
  show Goes p.tables e below _ (T11.setTop (mkF m 7 #[.val (.ref a), .val (.ref b), .val (.int f)] [(.ref b13), (.ref b)]))
  refine X14.calls [(.ref b), (.ref b13)] [] (ctReq l Z a0 hw hEL z0 S0 hz0 b b13 _ _) (w 45 rfl) (w 46 rfl) (w 47 rfl) (w 48 rfl) (by decide) (fun _ q => nomatch q) (by decide) 0 (by decide) (by decide) (by decide) (lenOf pd_1 rfl) rfl (Nat.le_of_ble_eq_true rfl) (by rw [hml]; rfl) (D d6_7) ?_
  rintro T19 h20 _ X22 K23 rfl
  have F24 := F16.keep K23
  have F25 := F17.keep K23 nin0
  have F26 := F18.keep K23 nin0
  show Goes p.tables e below _ (T19.setTop (mkF m 10 #[.val (.ref a), .val (.ref b), .val (.int f)] [(.ref b)]))
  refine X22.pop (D d6_10) rfl ?_
  refine X22.aloadN (x := (.ref a)) (D d6_11) rfl rfl ?_
  refine X22.aloadN (x := (.ref b)) (D d6_12) rfl rfl ?_
  refine X22.putf (w 49 rfl) Via.refl F25 F24 (Or.inr ⟨(w 50 rfl), rfl, hnm⟩) (w 31 rfl) (ty := (.object "java/lang/String")) (by decide) rfl rfl (D d6_13) (by simp) ?_
  intro T27 h28 X29 W30
  have F31 := F25.same W30
  have F32 := F24.wr W30
  have F33 := F26.other W30 (Or.inr (slot_ne (t := .int) (t' := (.object "java/lang/String")) (Or.inr (w 52 rfl)) (Or.inr (w 50 rfl)) (by decide) (by decide) (by decide)))
  show Goes p.tables e below _ (T27.setTop (mkF m 16 #[.val (.ref a), .val (.ref b), .val (.int f)] []))
  refine X29.aloadN (x := (.ref a)) (D d6_16) rfl rfl ?_
  refine X29.iloadN (x := f) (D d6_17) rfl ?_
  refine X29.putf (w 51 rfl) Via.refl F33 F32 (Or.inr ⟨(w 52 rfl), rfl, hnm⟩) (w 31 rfl) (ty := .int) (by decide) rfl rfl (D d6_18) (by simp) ?_
  intro T34 h35 X36 W37
  have F38 := F33.same W37
  have F39 := F32.wr W37
  have F40 := F31.other W37 (Or.inr (slot_ne (t := (.object "java/lang/String")) (t' := .int) (Or.inr (w 50 rfl)) (Or.inr (w 52 rfl)) (by decide) (by decide) (by decide)))
  show Goes p.tables e below _ (T34.setTop (mkF m 21 #[.val (.ref a), .val (.ref b), .val (.int f)] []))
  exact X36.retn hret hlk (D d6_21) (by decide) (by decide) (⟨rfl, F39, F38⟩)
def b01 (P : Prop) [Decidable P] : Int32 := if P then 1 else 0
theorem d9_0 : decode prog_91_method_2_code 0 = .ok (.aload_n 0, 1) := by decide +kernel
theorem d9_1 : decode prog_91_method_2_code 1 = .ok (.getfield 22, 3) := by decide +kernel
theorem d9_4 : decode prog_91_method_2_code 4 = .ok (.ifCond .ne 7, 3) := by decide +kernel
theorem d9_7 : decode prog_91_method_2_code 7 = .ok (.iconst 1, 1) := by decide +kernel
theorem d9_8 : decode prog_91_method_2_code 8 = .ok (.goto 4, 3) := by decide +kernel
theorem d9_11 : decode prog_91_method_2_code 11 = .ok (.iconst 0, 1) := by decide +kernel
theorem d9_12 : decode prog_91_method_2_code 12 = .ok (.ireturn, 1) := by decide +kernel
set_option maxRecDepth 65536 in
set_option maxHeartbeats 40000000 in
theorem ctIs (l : Launch) (Z : State) (a0 : Array Value) (hw : ∀ d ∈ tables_1, d.before a0 Z = true) (hEL : EW Z a0 []) (z0 : Int32) (S0 : Sta Z Z.heap "java/lang/String" "COMPACT_STRINGS" "Z" (.int z0)) (hz0 : ¬ z0 = 0) (a : Addr) (f : Int32) (h0 : Heap) (n0 : Nat) (F1 : Fld Z h0 a "com/example/modulog/modulog/model/Accessor$Target" "field" "I" (.int f)) :
    Ct l Z [] [] (⟨"com/example/modulog/modulog/model/Accessor$Target", "isTester", "()Z"⟩ : MethodName) prog_91_method_2_code 1 (some .boolean) ({ frames := 0, cells := 0, slots := 0, locals := 0 } : Room) #[(.ref a)] h0 n0 [] (fun v _ => v = some (.int (if f = 0 then 1 else 0))) := by
  have w : ∀ {d : Jvm.Cond} (i : Nat), tables_1[i]? = some d → d.before a0 Z = true := fun i q => hw _ (List.mem_of_getElem? q)
  refine Ct.enter (plainFor_of_name pn_2) hEL ?_
  intro p e sS m below meth c T0 hby hml0 hret hlk hnm hs0 X0
  have hml : c.maxLocals = 1 := hml0
  have D : ∀ {pc : Nat} {r : Except DecodeError (Instr × Nat)}, decode prog_91_method_2_code pc = r → decode c.code pc = r := fun q => hb hby q
  rw [show entryFrame m #[(.ref a)] 1 = mkF m 0 #[.val (.ref a)] [] from by first | (simp [entryFrame, mkF, argsToLocals, Value.category]; done) | rfl]
  refine X0.aloadN (x := (.ref a)) (D d9_0) rfl rfl ?_
  refine X0.getf (w 51 rfl) Via.refl F1 (D d9_1) ?_
  intro T41 X42
  show Goes p.tables e below _ (T41.setTop (mkF m 4 #[.val (.ref a)] [(.int f)]))
  refine X42.if_ne 11 (D d9_4) ⟨by decide, by decide⟩ (fun hc43 => ?_) (fun hc43 => ?_)
  · show Goes p.tables e below _ (T41.setTop (mkF m 11 #[.val (.ref a)] []))
    refine X42.iconst (x := (0 : Int32)) (D d9_11) rfl ?_
    exact X42.reti hret (by simp) hlk (D d9_12) (by decide) (by decide) (by rw [if_neg hc43]; rfl)
  · show Goes p.tables e below _ (T41.setTop (mkF m 7 #[.val (.ref a)] []))
    refine X42.iconst (x := (1 : Int32)) (D d9_7) rfl ?_
    refine X42.goto 12 (D d9_8) ⟨by decide, by decide⟩ ?_
    exact X42.reti hret (by simp) hlk (D d9_12) (by decide) (by decide) (by rw [if_pos hc43]; rfl)
theorem d10_0 : decode prog_91_method_9_code 0 = .ok (.aload_n 0, 1) := by decide +kernel
theorem d10_1 : decode prog_91_method_9_code 1 = .ok (.getfield 22, 3) := by decide +kernel
theorem d10_4 : decode prog_91_method_9_code 4 = .ok (.ireturn, 1) := by decide +kernel
set_option maxRecDepth 65536 in
set_option maxHeartbeats 40000000 in
theorem ctFd (l : Launch) (Z : State) (a0 : Array Value) (hw : ∀ d ∈ tables_1, d.before a0 Z = true) (hEL : EW Z a0 []) (z0 : Int32) (S0 : Sta Z Z.heap "java/lang/String" "COMPACT_STRINGS" "Z" (.int z0)) (hz0 : ¬ z0 = 0) (a : Addr) (f : Int32) (h0 : Heap) (n0 : Nat) (F1 : Fld Z h0 a "com/example/modulog/modulog/model/Accessor$Target" "field" "I" (.int f)) :
    Ct l Z [] [] (⟨"com/example/modulog/modulog/model/Accessor$Target", "field", "()I"⟩ : MethodName) prog_91_method_9_code 1 (some .int) ({ frames := 0, cells := 0, slots := 0, locals := 0 } : Room) #[(.ref a)] h0 n0 [] (fun v _ => v = some (.int f)) := by
  have w : ∀ {d : Jvm.Cond} (i : Nat), tables_1[i]? = some d → d.before a0 Z = true := fun i q => hw _ (List.mem_of_getElem? q)
  refine Ct.enter (plainFor_of_name pn_2) hEL ?_
  intro p e sS m below meth c T0 hby hml0 hret hlk hnm hs0 X0
  have hml : c.maxLocals = 1 := hml0
  have D : ∀ {pc : Nat} {r : Except DecodeError (Instr × Nat)}, decode prog_91_method_9_code pc = r → decode c.code pc = r := fun q => hb hby q
  rw [show entryFrame m #[(.ref a)] 1 = mkF m 0 #[.val (.ref a)] [] from by first | (simp [entryFrame, mkF, argsToLocals, Value.category]; done) | rfl]
  refine X0.aloadN (x := (.ref a)) (D d10_0) rfl rfl ?_
  refine X0.getf (w 51 rfl) Via.refl F1 (D d10_1) ?_
  intro T44 X45
  show Goes p.tables e below _ (T44.setTop (mkF m 4 #[.val (.ref a)] [(.int f)]))
  exact X45.retI hret hlk (D d10_4) (by decide) (by decide) (rfl)
theorem d12_0 : decode jdk_43_method_3_code 0 = .ok (.iload_n 0, 1) := by decide +kernel
theorem d12_1 : decode jdk_43_method_3_code 1 = .ok (.sipush 255, 3) := by decide +kernel
theorem d12_4 : decode jdk_43_method_3_code 4 = .ok (.if_icmp .gt 7, 3) := by decide +kernel
theorem d12_7 : decode jdk_43_method_3_code 7 = .ok (.iconst 1, 1) := by decide +kernel
theorem d12_8 : decode jdk_43_method_3_code 8 = .ok (.goto 4, 3) := by decide +kernel
theorem d12_11 : decode jdk_43_method_3_code 11 = .ok (.iconst 0, 1) := by decide +kernel
theorem d12_12 : decode jdk_43_method_3_code 12 = .ok (.ireturn, 1) := by decide +kernel
theorem pn_3 : plainName "java/lang/StringLatin1" = true := by first | (simp [plainName, overriddenIn]; done) | decide +kernel
set_option maxRecDepth 65536 in
set_option maxHeartbeats 40000000 in
theorem ctCan (l : Launch) (Z : State) (a0 : Array Value) (hw : ∀ d ∈ tables_1, d.before a0 Z = true) (hEL : EW Z a0 []) (z0 : Int32) (S0 : Sta Z Z.heap "java/lang/String" "COMPACT_STRINGS" "Z" (.int z0)) (hz0 : ¬ z0 = 0) (x : Int32) (h0 : Heap) (n0 : Nat) (hx : ¬ (255 : Int32) < x) :
    Ct l Z [] [] (⟨"java/lang/StringLatin1", "canEncode", "(C)Z"⟩ : MethodName) jdk_43_method_3_code 1 (some .boolean) ({ frames := 0, cells := 0, slots := 0, locals := 0 } : Room) #[(.int x)] h0 n0 [] (fun v _ => v = some (.int 1)) := by
  have w : ∀ {d : Jvm.Cond} (i : Nat), tables_1[i]? = some d → d.before a0 Z = true := fun i q => hw _ (List.mem_of_getElem? q)
  refine Ct.enter (plainFor_of_name pn_3) hEL ?_
  intro p e sS m below meth c T0 hby hml0 hret hlk hnm hs0 X0
  have hml : c.maxLocals = 1 := hml0
  have D : ∀ {pc : Nat} {r : Except DecodeError (Instr × Nat)}, decode jdk_43_method_3_code pc = r → decode c.code pc = r := fun q => hb hby q
  rw [show entryFrame m #[(.int x)] 1 = mkF m 0 #[.val (.int x)] [] from by first | (simp [entryFrame, mkF, argsToLocals, Value.category]; done) | rfl]
  refine X0.iloadN (x := x) (D d12_0) rfl ?_
  refine X0.sipush (x := (255 : Int32)) (D d12_1) rfl ?_
  refine X0.icmp_gt 11 (D d12_4) ⟨by decide, by decide⟩ (fun hc => (hx hc).elim) (fun hn46 => ?_)
  refine X0.iconst (x := (1 : Int32)) (D d12_7) rfl ?_
  refine X0.goto 12 (D d12_8) ⟨by decide, by decide⟩ ?_
  exact X0.reti hret (by simp) hlk (D d12_12) (by decide) (by decide) (rfl)
theorem d13_0 : decode jdk_43_method_46_code 0 = .ok (.iconst 1, 1) := by decide +kernel
theorem d13_1 : decode jdk_43_method_46_code 1 = .ok (.newarray .byte, 2) := by decide +kernel
theorem d13_3 : decode jdk_43_method_46_code 3 = .ok (.dup, 1) := by decide +kernel
theorem d13_4 : decode jdk_43_method_46_code 4 = .ok (.iconst 0, 1) := by decide +kernel
theorem d13_5 : decode jdk_43_method_46_code 5 = .ok (.iload_n 0, 1) := by decide +kernel
theorem d13_6 : decode jdk_43_method_46_code 6 = .ok (.i2b, 1) := by decide +kernel
theorem d13_7 : decode jdk_43_method_46_code 7 = .ok (.bastore, 1) := by decide +kernel
theorem d13_8 : decode jdk_43_method_46_code 8 = .ok (.areturn, 1) := by decide +kernel
set_option maxRecDepth 65536 in
set_option maxHeartbeats 40000000 in
theorem ctTo (l : Launch) (Z : State) (a0 : Array Value) (hw : ∀ d ∈ tables_1, d.before a0 Z = true) (hEL : EW Z a0 []) (z0 : Int32) (S0 : Sta Z Z.heap "java/lang/String" "COMPACT_STRINGS" "Z" (.int z0)) (hz0 : ¬ z0 = 0) (x : Int32) (h0 : Heap) (n0 : Nat)  :
    Ct l Z [] [] (⟨"java/lang/StringLatin1", "toBytes", "(C)[B"⟩ : MethodName) jdk_43_method_46_code 1 (some (.array .byte)) ({ frames := 0, cells := 1, slots := 1, locals := 0 } : Room) #[(.int x)] h0 n0 [] (fun v _ => ∃ b : Addr, v = some (.ref b)) := by
  have w : ∀ {d : Jvm.Cond} (i : Nat), tables_1[i]? = some d → d.before a0 Z = true := fun i q => hw _ (List.mem_of_getElem? q)
  refine Ct.enter (plainFor_of_name pn_3) hEL ?_
  intro p e sS m below meth c T0 hby hml0 hret hlk hnm hs0 X0
  have hml : c.maxLocals = 1 := hml0
  have D : ∀ {pc : Nat} {r : Except DecodeError (Instr × Nat)}, decode jdk_43_method_46_code pc = r → decode c.code pc = r := fun q => hb hby q
  rw [show entryFrame m #[(.int x)] 1 = mkF m 0 #[.val (.int x)] [] from by first | (simp [entryFrame, mkF, argsToLocals, Value.category]; done) | rfl]
  refine X0.iconst (x := (1 : Int32)) (D d13_0) rfl ?_
  refine X0.newarr (w 19 rfl) (n := (1 : Int32)) (D d13_1) (by decide) 1 (by decide) (by decide) (by decide) (by decide) ?_
  intro T47 h48 b49 kb50 g51 X52 E53 A54
  have F55 : Arv Z h48 b49 kb50 .byte (1 : Int32) [(.int (0 : Int32))] (.int (0 : Int32)) := A54.pad (pad_rep [] (.int (0 : Int32)) 1)
  show Goes p.tables e below _ (T47.setTop (mkF m 3 #[.val (.int x)] [(.ref b49)]))
  refine X52.dup (D d13_3) rfl ?_
  refine X52.iconst (x := (0 : Int32)) (D d13_4) rfl ?_
  refine X52.iloadN (x := x) (D d13_5) rfl ?_
  refine X52.i2b (D d13_6) ?_
  show Goes p.tables e below _ (T47.setTop (mkF m 7 #[.val (.int x)] [(.int (StrChars.lo8 x)), (.int (0 : Int32)), (.ref b49), (.ref b49)]))
  refine X52.bastore F55 ⟨by decide, by decide⟩ 0 rfl (Nat.le_of_ble_eq_true rfl) (by simp) (D d13_7) ?_
  intro T56 h57 X58 W59 A60
  have F61 : Arv Z h57 b49 kb50 .byte (1 : Int32) [(.int (StrChars.lo8 x))] (.int (0 : Int32)) := by rw [nar_lo8 x] at A60; exact A60
  show Goes p.tables e below _ (T56.setTop (mkF m 8 #[.val (.int x)] [(.ref b49)]))
  exact X58.retA hret rfl rfl hlk (D d13_8) (by decide) (by decide) (⟨_, rfl⟩)
theorem d14_0 : decode jdk_42_method_151_code 0 = .ok (.aload_n 0, 1) := by decide +kernel
theorem d14_1 : decode jdk_42_method_151_code 1 = .ok (.invokespecial 1, 3) := by decide +kernel
theorem d14_4 : decode jdk_42_method_151_code 4 = .ok (.aload_n 0, 1) := by decide +kernel
theorem d14_5 : decode jdk_42_method_151_code 5 = .ok (.aload_n 1, 1) := by decide +kernel
theorem d14_6 : decode jdk_42_method_151_code 6 = .ok (.putfield 9, 3) := by decide +kernel
theorem d14_9 : decode jdk_42_method_151_code 9 = .ok (.aload_n 0, 1) := by decide +kernel
theorem d14_10 : decode jdk_42_method_151_code 10 = .ok (.iload_n 2, 1) := by decide +kernel
theorem d14_11 : decode jdk_42_method_151_code 11 = .ok (.putfield 15, 3) := by decide +kernel
theorem d14_14 : decode jdk_42_method_151_code 14 = .ok (.return_, 1) := by decide +kernel
theorem pn_4 : plainName "java/lang/String" = true := by first | (simp [plainName, overriddenIn]; done) | decide +kernel
set_option maxRecDepth 65536 in
set_option maxHeartbeats 40000000 in
theorem ctBB (l : Launch) (Z : State) (a0 : Array Value) (hw : ∀ d ∈ tables_1, d.before a0 Z = true) (hEL : EW Z a0 []) (z0 : Int32) (S0 : Sta Z Z.heap "java/lang/String" "COMPACT_STRINGS" "Z" (.int z0)) (hz0 : ¬ z0 = 0) (a b : Addr) (h0 : Heap) (n0 : Nat) (E0 : Exa Z h0 a "java/lang/String") (F0 : Fld Z h0 a "java/lang/String" "value" "[B" .null) (F1 : Fld Z h0 a "java/lang/String" "coder" "B" (.int (0 : Int32))) :
    Ct l Z [] [] (⟨"java/lang/String", "<init>", "([BB)V"⟩ : MethodName) jdk_42_method_151_code 3 none ({ frames := 1, cells := 0, slots := 0, locals := 12 } : Room) #[(.ref a), (.ref b), (.int (0 : Int32))] h0 n0 [a] (fun v _ => v = none) := by
  have w : ∀ {d : Jvm.Cond} (i : Nat), tables_1[i]? = some d → d.before a0 Z = true := fun i q => hw _ (List.mem_of_getElem? q)
  refine Ct.enter (plainFor_of_name pn_4) hEL ?_
  intro p e sS m below meth c T0 hby hml0 hret hlk hnm hs0 X0
  have hml : c.maxLocals = 3 := hml0
  have D : ∀ {pc : Nat} {r : Except DecodeError (Instr × Nat)}, decode jdk_42_method_151_code pc = r → decode c.code pc = r := fun q => hb hby q
  rw [show entryFrame m #[(.ref a), (.ref b), (.int (0 : Int32))] 3 = mkF m 0 #[.val (.ref a), .val (.ref b), .val (.int (0 : Int32))] [] from by first | (simp [entryFrame, mkF, argsToLocals, Value.category]; done) | rfl]
  refine X0.aloadN (x := (.ref a)) (D d14_0) rfl rfl ?_
  refine X0.inito (w 11 rfl) (w 12 rfl) (w 13 rfl) (D d14_1) (by rw [hml]; rfl) (by decide) 0 (Nat.le_of_ble_eq_true rfl) (by decide) ?_
  intro T62 X63
  show Goes p.tables e below _ (T62.setTop (mkF m 4 #[.val (.ref a), .val (.ref b), .val (.int (0 : Int32))] []))
  refine X63.aloadN (x := (.ref a)) (D d14_4) rfl rfl ?_
  refine X63.aloadN (x := (.ref b)) (D d14_5) rfl rfl ?_
  refine X63.putf (w 28 rfl) Via.refl F0 E0 (Or.inr ⟨(w 29 rfl), rfl, hnm⟩) (w 2 rfl) (ty := (.array .byte)) (by decide) rfl rfl (D d14_6) (by simp) ?_
  intro T64 h65 X66 W67
  have F68 := F0.same W67
  have F69 := E0.wr W67
  have F70 := F1.other W67 (Or.inr (slot_ne (t := .byte) (t' := (.array .byte)) (Or.inr (w 27 rfl)) (Or.inr (w 29 rfl)) (by decide) (by decide) (by decide)))
  show Goes p.tables e below _ (T64.setTop (mkF m 9 #[.val (.ref a), .val (.ref b), .val (.int (0 : Int32))] []))
  refine X66.aloadN (x := (.ref a)) (D d14_9) rfl rfl ?_
  refine X66.iloadN (x := (0 : Int32)) (D d14_10) rfl ?_
  refine X66.putf (w 26 rfl) Via.refl F70 F69 (Or.inr ⟨(w 27 rfl), rfl, hnm⟩) (w 2 rfl) (ty := .byte) (by decide) rfl rfl (D d14_11) (by simp) ?_
  intro T71 h72 X73 W74
  have F75 := F70.same W74
  have F76 := F69.wr W74
  have F77 := F68.other W74 (Or.inr (slot_ne (t := (.array .byte)) (t' := .byte) (Or.inr (w 29 rfl)) (Or.inr (w 27 rfl)) (by decide) (by decide) (by decide)))
  show Goes p.tables e below _ (T71.setTop (mkF m 14 #[.val (.ref a), .val (.ref b), .val (.int (0 : Int32))] []))
  exact X73.retn hret hlk (D d14_14) (by decide) (by decide) (rfl)
theorem d11_0 : decode jdk_42_method_139_code 0 = .ok (.getstatic 38, 3) := by decide +kernel
theorem d11_3 : decode jdk_42_method_139_code 3 = .ok (.ifCond .eq 23, 3) := by decide +kernel
theorem d11_6 : decode jdk_42_method_139_code 6 = .ok (.iload_n 0, 1) := by decide +kernel
theorem d11_7 : decode jdk_42_method_139_code 7 = .ok (.invokestatic 1015, 3) := by decide +kernel
theorem d11_10 : decode jdk_42_method_139_code 10 = .ok (.ifCond .eq 16, 3) := by decide +kernel
theorem d11_13 : decode jdk_42_method_139_code 13 = .ok (.new 10, 3) := by decide +kernel
theorem d11_16 : decode jdk_42_method_139_code 16 = .ok (.dup, 1) := by decide +kernel
theorem d11_17 : decode jdk_42_method_139_code 17 = .ok (.iload_n 0, 1) := by decide +kernel
theorem d11_18 : decode jdk_42_method_139_code 18 = .ok (.invokestatic 1018, 3) := by decide +kernel
theorem d11_21 : decode jdk_42_method_139_code 21 = .ok (.iconst 0, 1) := by decide +kernel
theorem d11_22 : decode jdk_42_method_139_code 22 = .ok (.invokespecial 209, 3) := by decide +kernel
theorem d11_25 : decode jdk_42_method_139_code 25 = .ok (.areturn, 1) := by decide +kernel
theorem d11_26 : decode jdk_42_method_139_code 26 = .ok (.new 10, 3) := by decide +kernel
theorem d11_29 : decode jdk_42_method_139_code 29 = .ok (.dup, 1) := by decide +kernel
theorem d11_30 : decode jdk_42_method_139_code 30 = .ok (.iload_n 0, 1) := by decide +kernel
theorem d11_31 : decode jdk_42_method_139_code 31 = .ok (.invokestatic 1021, 3) := by decide +kernel
theorem d11_34 : decode jdk_42_method_139_code 34 = .ok (.iconst 1, 1) := by decide +kernel
theorem d11_35 : decode jdk_42_method_139_code 35 = .ok (.invokespecial 209, 3) := by decide +kernel
theorem d11_38 : decode jdk_42_method_139_code 38 = .ok (.areturn, 1) := by decide +kernel
theorem pd_2 : parseMethodDescriptor "(C)Z" = some ⟨[.char], (some .boolean)⟩ := by decide +kernel
theorem pd_3 : parseMethodDescriptor "(C)[B" = some ⟨[.char], (some (.array .byte))⟩ := by decide +kernel
theorem pd_4 : parseMethodDescriptor "([BB)V" = some ⟨[(.array .byte), .byte], none⟩ := by decide +kernel
set_option maxRecDepth 65536 in
set_option maxHeartbeats 40000000 in
theorem ctVal (l : Launch) (Z : State) (a0 : Array Value) (hw : ∀ d ∈ tables_1, d.before a0 Z = true) (hEL : EW Z a0 []) (z0 : Int32) (S0 : Sta Z Z.heap "java/lang/String" "COMPACT_STRINGS" "Z" (.int z0)) (hz0 : ¬ z0 = 0) (x : Int32) (h0 : Heap) (n0 : Nat) (hx : ¬ (255 : Int32) < x) :
    Ct l Z [] [] (⟨"java/lang/String", "valueOf", "(C)Ljava/lang/String;"⟩ : MethodName) jdk_42_method_139_code 1 (some (.object "java/lang/String")) ({ frames := 2, cells := 2, slots := 5, locals := 27 } : Room) #[(.int x)] h0 n0 [] (fun v _ => ∃ b : Addr, v = some (.ref b)) := by
  have w : ∀ {d : Jvm.Cond} (i : Nat), tables_1[i]? = some d → d.before a0 Z = true := fun i q => hw _ (List.mem_of_getElem? q)
  refine Ct.enter (plainFor_of_name pn_4) hEL ?_
  intro p e sS m below meth c T0 hby hml0 hret hlk hnm hs0 X0
  have hml : c.maxLocals = 1 := hml0
  have D : ∀ {pc : Nat} {r : Except DecodeError (Instr × Nat)}, decode jdk_42_method_139_code pc = r → decode c.code pc = r := fun q => hb hby q
  rw [show entryFrame m #[(.int x)] 1 = mkF m 0 #[.val (.int x)] [] from by first | (simp [entryFrame, mkF, argsToLocals, Value.category]; done) | rfl]
  refine X0.gets (w 14 rfl) Via.refl (Sta.ext X0.old.2 S0) (D d11_0) ?_
  intro T78 X79
  show Goes p.tables e below _ (T78.setTop (mkF m 3 #[.val (.int x)] [(.int z0)]))
  refine X79.if_eq 26 (D d11_3) ⟨by decide, by decide⟩ (fun hc => (hz0 hc).elim) (fun hn80 => ?_)
  refine X79.iloadN (x := x) (D d11_6) rfl ?_
  refine X79.calls [(.int x)] [] (ctCan l Z a0 hw hEL z0 S0 hz0 x _ _ hx) (w 66 rfl) (w 67 rfl) (w 68 rfl) (w 69 rfl) (by decide) (fun _ q => nomatch q) (by decide) 0 (by decide) (by decide) (by decide) (lenOf pd_2 rfl) rfl (Nat.le_of_ble_eq_true rfl) (by rw [hml]; rfl) (D d11_7) ?_
  rintro T81 h82 _ X84 K85 rfl
  show Goes p.tables e below _ (T81.setTop (mkF m 10 #[.val (.int x)] [(.int (1 : Int32))]))
  refine X84.if_eq 26 (D d11_10) ⟨by decide, by decide⟩ (fun hc86 => absurd hc86 (by decide)) (fun hc86 => ?_)
  refine X84.new (w 70 rfl) (w 2 rfl) (w 3 rfl) (D d11_13) (by decide) (by decide) ?_
  intro T87 h88 b89 g90 X91 E92 A93 D94 U95
  have F96 : Fld Z h88 b89 "java/lang/String" "coder" "B" (.int (0 : Int32)) := D94 (Or.inr (w 27 rfl)) (ty := .byte) (by decide)
  have F97 : Fld Z h88 b89 "java/lang/String" "value" "[B" .null := D94 (Or.inr (w 29 rfl)) (ty := (.array .byte)) (by decide)
  show Goes p.tables e below _ (T87.setTop (mkF m 16 #[.val (.int x)] [(.ref b89)]))
  refine X91.dup (D d11_16) rfl ?_
  refine X91.iloadN (x := x) (D d11_17) rfl ?_
  refine X91.calls [(.int x)] [(.ref b89), (.ref b89)] (ctTo l Z a0 hw hEL z0 S0 hz0 x _ _) (w 71 rfl) (w 72 rfl) (w 68 rfl) (w 73 rfl) (by decide) (fun _ q => nomatch q) (by decide) 2 (by decide) (by decide) (by decide) (lenOf pd_3 rfl) rfl (Nat.le_of_ble_eq_true rfl) (by rw [hml]; rfl) (D d11_18) ?_
  rintro T98 h99 _ X101 K102 ⟨bb, rfl⟩
  have F103 := A93.keep K102
  have F104 := F96.keep K102 nin0
  have F105 := F97.keep K102 nin0
  show Goes p.tables e below _ (T98.setTop (mkF m 21 #[.val (.int x)] [(.ref bb), (.ref b89), (.ref b89)]))
  refine X101.iconst (x := (0 : Int32)) (D d11_21) rfl ?_
  refine X101.callc (a := b89) [(.ref bb), (.int (0 : Int32))] [(.ref b89)] (ctBB l Z a0 hw hEL z0 S0 hz0 b89 bb _ _ F103 F105 F104) rfl (w 74 rfl) (w 75 rfl) (w 3 rfl) (w 76 rfl) (by decide) (by simp) (by decide) 1 (by decide) (by decide) (by decide) (lenOf pd_4 rfl) rfl (Nat.le_of_ble_eq_true rfl) (by rw [hml]; rfl) (D d11_22) ?_
  rintro T106 h107 _ X109 K110 rfl
  have F111 := F103.keep K110
  show Goes p.tables e below _ (T106.setTop (mkF m 25 #[.val (.int x)] [(.ref b89)]))
  exact X109.retA hret rfl rfl hlk (D d11_25) (by decide) (by decide) (⟨_, rfl⟩)
theorem pn_5 : plainName "com/example/modulog/modulog/model/TargetIsTesterPinLaw" = true := by first | (simp [plainName, overriddenIn]; done) | decide +kernel
theorem pd_5 : parseMethodDescriptor "(C)Ljava/lang/String;" = some ⟨[.char], (some (.object "java/lang/String"))⟩ := by decide +kernel
theorem pd_6 : parseMethodDescriptor "(Ljava/lang/String;I)V" = some ⟨[(.object "java/lang/String"), .int], none⟩ := by decide +kernel
theorem pd_7 : parseMethodDescriptor "()Z" = some ⟨[], (some .boolean)⟩ := by decide +kernel
theorem pd_8 : parseMethodDescriptor "()I" = some ⟨[], (some .int)⟩ := by decide +kernel
set_option maxRecDepth 65536 in
set_option maxHeartbeats 40000000 in
theorem ctLaw (l : Launch) (Z : State) (a0 : Array Value) (hw : ∀ d ∈ tables_1, d.before a0 Z = true) (hEL : EW Z a0 []) (z0 : Int32) (S0 : Sta Z Z.heap "java/lang/String" "COMPACT_STRINGS" "Z" (.int z0)) (hz0 : ¬ z0 = 0) (p0 p1 p2 p3 : Int32) (h0 : Heap) (n0 : Nat)  :
    Ct l Z [] tables_1 x code maxLocals ret room_1 #[(.int p0), (.int p1), (.int p2), (.int p3)] h0 n0 [] (fun v _ => v = some (.int 1)) := by
  have w : ∀ {d : Jvm.Cond} (i : Nat), tables_1[i]? = some d → d.before a0 Z = true := fun i q => hw _ (List.mem_of_getElem? q)
  refine Ct.enter (plainFor_of_name pn_5) hEL ?_
  intro p e sS m below meth c T0 hby hml0 hret hlk hnm hs0 X0
  have hml : c.maxLocals = 8 := hml0
  have D : ∀ {pc : Nat} {r : Except DecodeError (Instr × Nat)}, decode code pc = r → decode c.code pc = r := fun q => hb hby q
  rw [show entryFrame m #[(.int p0), (.int p1), (.int p2), (.int p3)] maxLocals = mkF m 0 #[.val (.int p0), .val (.int p1), .val (.int p2), .val (.int p3), .unset, .unset, .unset, .unset] [] from by first | (simp [entryFrame, mkF, argsToLocals, Value.category, maxLocals]; done) | rfl]
  refine X0.iconst (x := (2 : Int32)) (D at_0) rfl ?_
  refine X0.newarr (w 0 rfl) (n := (2 : Int32)) (D at_1) (by decide) 2 (by decide) (by decide) (by decide) (by decide) ?_
  intro T112 h113 b114 kb115 g116 X117 E118 A119
  have F120 : Arv Z h113 b114 kb115 .char (2 : Int32) [(.int (0 : Int32)), (.int (0 : Int32))] (.int (0 : Int32)) := A119.pad (pad_rep [] (.int (0 : Int32)) 2)
  show Goes p.tables e below _ (T112.setTop (mkF m 3 #[.val (.int p0), .val (.int p1), .val (.int p2), .val (.int p3), .unset, .unset, .unset, .unset] [(.ref b114)]))
  refine X117.dup (D at_3) rfl ?_
  refine X117.iconst (x := (0 : Int32)) (D at_4) rfl ?_
  refine X117.iloadN (x := p1) (D at_5) rfl ?_
  refine X117.sipush (x := (255 : Int32)) (D at_6) rfl ?_
  refine X117.iand (D at_9) ?_
  refine X117.i2c (D at_10) ?_
  show Goes p.tables e below _ (T112.setTop (mkF m 11 #[.val (.int p0), .val (.int p1), .val (.int p2), .val (.int p3), .unset, .unset, .unset, .unset] [(.int (c8 p1)), (.int (0 : Int32)), (.ref b114), (.ref b114)]))
  refine X117.castore F120 ⟨by decide, by decide⟩ 0 rfl (Nat.le_of_ble_eq_true rfl) (by simp) (D at_11) ?_
  intro T121 h122 X123 W124 A125
  have F126 : Arv Z h122 b114 kb115 .char (2 : Int32) [(.int (c8 p1)), (.int (0 : Int32))] (.int (0 : Int32)) := by rw [nar_c8 p1] at A125; exact A125
  show Goes p.tables e below _ (T121.setTop (mkF m 12 #[.val (.int p0), .val (.int p1), .val (.int p2), .val (.int p3), .unset, .unset, .unset, .unset] [(.ref b114)]))
  refine X123.dup (D at_12) rfl ?_
  refine X123.iconst (x := (1 : Int32)) (D at_13) rfl ?_
  refine X123.iloadN (x := p2) (D at_14) rfl ?_
  refine X123.sipush (x := (255 : Int32)) (D at_15) rfl ?_
  refine X123.iand (D at_18) ?_
  refine X123.i2c (D at_19) ?_
  show Goes p.tables e below _ (T121.setTop (mkF m 20 #[.val (.int p0), .val (.int p1), .val (.int p2), .val (.int p3), .unset, .unset, .unset, .unset] [(.int (c8 p2)), (.int (1 : Int32)), (.ref b114), (.ref b114)]))
  refine X123.castore F126 ⟨by decide, by decide⟩ 1 rfl (Nat.le_of_ble_eq_true rfl) (by simp) (D at_20) ?_
  intro T127 h128 X129 W130 A131
  have F132 : Arv Z h128 b114 kb115 .char (2 : Int32) [(.int (c8 p1)), (.int (c8 p2))] (.int (0 : Int32)) := by rw [nar_c8 p2] at A131; exact A131
  show Goes p.tables e below _ (T127.setTop (mkF m 21 #[.val (.int p0), .val (.int p1), .val (.int p2), .val (.int p3), .unset, .unset, .unset, .unset] [(.ref b114)]))
  refine X129.astore #[.val (.int p0), .val (.int p1), .val (.int p2), .val (.int p3), .val (.ref b114), .unset, .unset, .unset] (D at_21) rfl rfl ?_
  refine X129.iloadN (x := p3) (D at_23) rfl ?_
  refine X129.iconst (x := (1 : Int32)) (D at_24) rfl ?_
  refine X129.iand (D at_25) ?_
  refine X129.if_eq 41 (D at_26) ⟨by decide, by decide⟩ (fun hc133 => ?_) (fun hc133 => ?_)
  · show Goes p.tables e below _ (T127.setTop (mkF m 41 #[.val (.int p0), .val (.int p1), .val (.int p2), .val (.int p3), .val (.ref b114), .unset, .unset, .unset] []))
    refine X129.aload (x := (.ref b114)) (D at_41) rfl rfl ?_
    refine X129.iconst (x := (0 : Int32)) (D at_43) rfl ?_
    show Goes p.tables e below _ (T127.setTop (mkF m 44 #[.val (.int p0), .val (.int p1), .val (.int p2), .val (.int p3), .val (.ref b114), .unset, .unset, .unset] [(.int (0 : Int32)), (.ref b114)]))
    refine X129.caload (v := (.int (c8 p1))) F132 ⟨by decide, by decide⟩ rfl (D at_44) ?_
    show Goes p.tables e below _ (T127.setTop (mkF m 45 #[.val (.int p0), .val (.int p1), .val (.int p2), .val (.int p3), .val (.ref b114), .unset, .unset, .unset] [(.int (c8 p1))]))
    refine X129.calls [(.int (c8 p1))] [] (ctVal l Z a0 hw hEL z0 S0 hz0 (c8 p1) _ _ (c8_rng p1).2) (w 63 rfl) (w 64 rfl) (w 3 rfl) (w 65 rfl) (by decide) (fun _ q => nomatch q) (by decide) 0 (by decide) (by decide) (by decide) (lenOf pd_5 rfl) rfl (Nat.le_of_ble_eq_true rfl) (by rw [hml]; rfl) (D at_45) ?_
    rintro T134 h135 _ X137 K138 ⟨sv, rfl⟩
    have F139 := F132.keep K138 nin0
    show Goes p.tables e below _ (T134.setTop (mkF m 48 #[.val (.int p0), .val (.int p1), .val (.int p2), .val (.int p3), .val (.ref b114), .unset, .unset, .unset] [(.ref sv)]))
    refine X137.astore #[.val (.int p0), .val (.int p1), .val (.int p2), .val (.int p3), .val (.ref b114), .val (.ref sv), .unset, .unset] (D at_48) rfl rfl ?_
    refine X137.new (w 30 rfl) (w 31 rfl) (w 32 rfl) (D at_50) (by decide) (by decide) ?_
    intro T163 h164 b165 g166 X167 E168 A169 D170 U171
    have F172 := F139.ext E168
    have lt173 : b114 < b165 := by rw [g166]; exact F139.lt
    have F174 : Fld Z h164 b165 "com/example/modulog/modulog/model/Accessor$Target" "constructor" "Ljava/lang/String;" .null := D170 (Or.inr (w 50 rfl)) (ty := (.object "java/lang/String")) (by decide)
    have F175 : Fld Z h164 b165 "com/example/modulog/modulog/model/Accessor$Target" "field" "I" (.int (0 : Int32)) := D170 (Or.inr (w 52 rfl)) (ty := .int) (by decide)
    show Goes p.tables e below _ (T163.setTop (mkF m 53 #[.val (.int p0), .val (.int p1), .val (.int p2), .val (.int p3), .val (.ref b114), .val (.ref sv), .unset, .unset] [(.ref b165)]))
    refine X167.dup (D at_53) rfl ?_
    refine X167.aload (x := (.ref sv)) (D at_54) rfl rfl ?_
    refine X167.iloadN (x := p0) (D at_56) rfl ?_
    refine X167.callc (a := b165) [(.ref sv), (.int p0)] [(.ref b165)] (ctTgt l Z a0 hw hEL z0 S0 hz0 b165 sv p0 _ _ A169 F174 F175) rfl (w 33 rfl) (w 34 rfl) (w 32 rfl) (w 35 rfl) (by decide) (by simp) (by decide) 1 (by decide) (by decide) (by decide) (lenOf pd_6 rfl) rfl (Nat.le_of_ble_eq_true rfl) (by rw [hml]; rfl) (D at_57) ?_
    rintro T176 h177 _ X179 K180 ⟨rfl, G1, G2⟩
    have F181 := F172.keep K180 (ninS (Nat.ne_of_lt lt173) nin0)
    have F182 := A169.keep K180
    show Goes p.tables e below _ (T176.setTop (mkF m 60 #[.val (.int p0), .val (.int p1), .val (.int p2), .val (.int p3), .val (.ref b114), .val (.ref sv), .unset, .unset] [(.ref b165)]))
    refine X179.astore #[.val (.int p0), .val (.int p1), .val (.int p2), .val (.int p3), .val (.ref b114), .val (.ref sv), .val (.ref b165), .unset] (D at_60) rfl rfl ?_
    refine X179.iloadN (x := p0) (D at_62) rfl ?_
    refine X179.if_ne 70 (D at_63) ⟨by decide, by decide⟩ (fun hc183 => ?_) (fun hc183 => ?_)
    · show Goes p.tables e below _ (T176.setTop (mkF m 70 #[.val (.int p0), .val (.int p1), .val (.int p2), .val (.int p3), .val (.ref b114), .val (.ref sv), .val (.ref b165), .unset] []))
      refine X179.iconst (x := (0 : Int32)) (D at_70) rfl ?_
      refine X179.istore #[.val (.int p0), .val (.int p1), .val (.int p2), .val (.int p3), .val (.ref b114), .val (.ref sv), .val (.ref b165), .val (.int (0 : Int32))] (D at_71) rfl ?_
      refine X179.aload (x := (.ref b165)) (D at_73) rfl rfl ?_
      refine X179.callv (y := (⟨"com/example/modulog/modulog/model/Accessor$Target", "isTester", "()Z"⟩ : MethodName)) (a := b165) (C := "com/example/modulog/modulog/model/Accessor$Target") [] [] (ctIs l Z a0 hw hEL z0 S0 hz0 b165 p0 _ _ G2) G1 (w 53 rfl) (w 54 rfl) (w 56 rfl) (w 55 rfl) (w 32 rfl) (w 57 rfl) (by decide) (fun _ q => nomatch q) (by decide) 0 (by decide) (by decide) (by decide) (lenOf pd_7 rfl) rfl (Nat.le_of_ble_eq_true rfl) (by rw [hml]; rfl) (D at_75) ?_
      rintro T184 h185 _ X187 K188 rfl
      have F189 := F181.keep K188 nin0
      have F190 := G1.keep K188
      have F191 := G2.keep K188 nin0
      rw [if_neg hc183]
      show Goes p.tables e below _ (T184.setTop (mkF m 78 #[.val (.int p0), .val (.int p1), .val (.int p2), .val (.int p3), .val (.ref b114), .val (.ref sv), .val (.ref b165), .val (.int (0 : Int32))] [(.int (0 : Int32))]))
      refine X187.iload (x := (0 : Int32)) (D at_78) rfl ?_
      refine X187.icmp_ne 96 (D at_80) ⟨by decide, by decide⟩ (fun hc192 => absurd hc192 (by decide)) (fun hc192 => ?_)
      refine X187.aload (x := (.ref b165)) (D at_83) rfl rfl ?_
      refine X187.callv (y := (⟨"com/example/modulog/modulog/model/Accessor$Target", "field", "()I"⟩ : MethodName)) (a := b165) (C := "com/example/modulog/modulog/model/Accessor$Target") [] [] (ctFd l Z a0 hw hEL z0 S0 hz0 b165 p0 _ _ F191) F190 (w 58 rfl) (w 59 rfl) (w 61 rfl) (w 60 rfl) (w 32 rfl) (w 62 rfl) (by decide) (fun _ q => nomatch q) (by decide) 0 (by decide) (by decide) (by decide) (lenOf pd_8 rfl) rfl (Nat.le_of_ble_eq_true rfl) (by rw [hml]; rfl) (D at_85) ?_
      rintro T193 h194 _ X196 K197 rfl
      have F198 := F189.keep K197 nin0
      have F199 := F190.keep K197
      have F200 := F191.keep K197 nin0
      show Goes p.tables e below _ (T193.setTop (mkF m 88 #[.val (.int p0), .val (.int p1), .val (.int p2), .val (.int p3), .val (.ref b114), .val (.ref sv), .val (.ref b165), .val (.int (0 : Int32))] [(.int p0)]))
      refine X196.iloadN (x := p0) (D at_88) rfl ?_
      refine X196.icmp_ne 96 (D at_89) ⟨by decide, by decide⟩ (fun hc => (hc rfl).elim) (fun hn201 => ?_)
      refine X196.iconst (x := (1 : Int32)) (D at_92) rfl ?_
      refine X196.goto 97 (D at_93) ⟨by decide, by decide⟩ ?_
      exact X196.reti hret (by simp) hlk (D at_97) (by decide) (by decide) (rfl)
    · show Goes p.tables e below _ (T176.setTop (mkF m 66 #[.val (.int p0), .val (.int p1), .val (.int p2), .val (.int p3), .val (.ref b114), .val (.ref sv), .val (.ref b165), .unset] []))
      refine X179.iconst (x := (1 : Int32)) (D at_66) rfl ?_
      refine X179.goto 71 (D at_67) ⟨by decide, by decide⟩ ?_
      refine X179.istore #[.val (.int p0), .val (.int p1), .val (.int p2), .val (.int p3), .val (.ref b114), .val (.ref sv), .val (.ref b165), .val (.int (1 : Int32))] (D at_71) rfl ?_
      refine X179.aload (x := (.ref b165)) (D at_73) rfl rfl ?_
      refine X179.callv (y := (⟨"com/example/modulog/modulog/model/Accessor$Target", "isTester", "()Z"⟩ : MethodName)) (a := b165) (C := "com/example/modulog/modulog/model/Accessor$Target") [] [] (ctIs l Z a0 hw hEL z0 S0 hz0 b165 p0 _ _ G2) G1 (w 53 rfl) (w 54 rfl) (w 56 rfl) (w 55 rfl) (w 32 rfl) (w 57 rfl) (by decide) (fun _ q => nomatch q) (by decide) 0 (by decide) (by decide) (by decide) (lenOf pd_7 rfl) rfl (Nat.le_of_ble_eq_true rfl) (by rw [hml]; rfl) (D at_75) ?_
      rintro T202 h203 _ X205 K206 rfl
      have F207 := F181.keep K206 nin0
      have F208 := G1.keep K206
      have F209 := G2.keep K206 nin0
      rw [if_pos hc183]
      show Goes p.tables e below _ (T202.setTop (mkF m 78 #[.val (.int p0), .val (.int p1), .val (.int p2), .val (.int p3), .val (.ref b114), .val (.ref sv), .val (.ref b165), .val (.int (1 : Int32))] [(.int (1 : Int32))]))
      refine X205.iload (x := (1 : Int32)) (D at_78) rfl ?_
      refine X205.icmp_ne 96 (D at_80) ⟨by decide, by decide⟩ (fun hc210 => absurd hc210 (by decide)) (fun hc210 => ?_)
      refine X205.aload (x := (.ref b165)) (D at_83) rfl rfl ?_
      refine X205.callv (y := (⟨"com/example/modulog/modulog/model/Accessor$Target", "field", "()I"⟩ : MethodName)) (a := b165) (C := "com/example/modulog/modulog/model/Accessor$Target") [] [] (ctFd l Z a0 hw hEL z0 S0 hz0 b165 p0 _ _ F209) F208 (w 58 rfl) (w 59 rfl) (w 61 rfl) (w 60 rfl) (w 32 rfl) (w 62 rfl) (by decide) (fun _ q => nomatch q) (by decide) 0 (by decide) (by decide) (by decide) (lenOf pd_8 rfl) rfl (Nat.le_of_ble_eq_true rfl) (by rw [hml]; rfl) (D at_85) ?_
      rintro T211 h212 _ X214 K215 rfl
      have F216 := F207.keep K215 nin0
      have F217 := F208.keep K215
      have F218 := F209.keep K215 nin0
      show Goes p.tables e below _ (T211.setTop (mkF m 88 #[.val (.int p0), .val (.int p1), .val (.int p2), .val (.int p3), .val (.ref b114), .val (.ref sv), .val (.ref b165), .val (.int (1 : Int32))] [(.int p0)]))
      refine X214.iloadN (x := p0) (D at_88) rfl ?_
      refine X214.icmp_ne 96 (D at_89) ⟨by decide, by decide⟩ (fun hc => (hc rfl).elim) (fun hn219 => ?_)
      refine X214.iconst (x := (1 : Int32)) (D at_92) rfl ?_
      refine X214.goto 97 (D at_93) ⟨by decide, by decide⟩ ?_
      exact X214.reti hret (by simp) hlk (D at_97) (by decide) (by decide) (rfl)
  · show Goes p.tables e below _ (T127.setTop (mkF m 29 #[.val (.int p0), .val (.int p1), .val (.int p2), .val (.int p3), .val (.ref b114), .unset, .unset, .unset] []))
    refine X129.new (w 1 rfl) (w 2 rfl) (w 3 rfl) (D at_29) (by decide) (by decide) ?_
    intro T140 h141 b142 g143 X144 E145 A146 D147 U148
    have F149 := F132.ext E145
    have lt150 : b114 < b142 := by rw [g143]; exact F132.lt
    have F151 : Fld Z h141 b142 "java/lang/String" "coder" "B" (.int (0 : Int32)) := D147 (Or.inr (w 27 rfl)) (ty := .byte) (by decide)
    have F152 : Fld Z h141 b142 "java/lang/String" "value" "[B" .null := D147 (Or.inr (w 29 rfl)) (ty := (.array .byte)) (by decide)
    show Goes p.tables e below _ (T140.setTop (mkF m 32 #[.val (.int p0), .val (.int p1), .val (.int p2), .val (.int p3), .val (.ref b114), .unset, .unset, .unset] [(.ref b142)]))
    refine X144.dup (D at_32) rfl ?_
    refine X144.aload (x := (.ref b114)) (D at_33) rfl rfl ?_
    show Goes p.tables e below _ (T140.setTop (mkF m 35 #[.val (.int p0), .val (.int p1), .val (.int p2), .val (.int p3), .val (.ref b114), .unset, .unset, .unset] [(.ref b114), (.ref b142), (.ref b142)]))
    refine X144.newStr (cs := [(c8 p1), (c8 p2)]) 2 (w 4 rfl) (w 5 rfl) (fun d q => hw d (hwsV d q)) (w 2 rfl) A146 F152 F151 F149 S0 hz0 rfl rfl (by decide) (by decide) (hpS (c8_rng p1) (hpS (c8_rng p2) hp0)) (by simp) (by decide) 1 (Nat.le_of_ble_eq_true rfl) (by decide) (by decide) (by decide) (by rw [hml]; rfl) (D at_35) ?_
    intro T153 h154 t155 X156 K157 g158 O159
    have F160 := F149.keep K157 (ninS (Nat.ne_of_lt lt150) nin0)
    have lt161 : b114 < t155 := Nat.lt_of_lt_of_le F149.lt g158
    have lt162 : b142 < t155 := Nat.lt_of_lt_of_le A146.lt g158
    show Goes p.tables e below _ (T153.setTop (mkF m 38 #[.val (.int p0), .val (.int p1), .val (.int p2), .val (.int p3), .val (.ref b114), .unset, .unset, .unset] [(.ref b142)]))
    refine X156.goto 48 (D at_38) ⟨by decide, by decide⟩ ?_
    refine X156.astore #[.val (.int p0), .val (.int p1), .val (.int p2), .val (.int p3), .val (.ref b114), .val (.ref b142), .unset, .unset] (D at_48) rfl rfl ?_
    refine X156.new (w 30 rfl) (w 31 rfl) (w 32 rfl) (D at_50) (by decide) (by decide) ?_
    intro T220 h221 b222 g223 X224 E225 A226 D227 U228
    have F229 := F160.ext E225
    have F230 := O159.ext E225
    have lt231 : b114 < b222 := by rw [g223]; exact F160.lt
    have lt232 : b142 < b222 := by rw [g223]; exact O159.lt
    have lt233 : t155 < b222 := by rw [g223]; exact O159.ltb
    have F234 : Fld Z h221 b222 "com/example/modulog/modulog/model/Accessor$Target" "constructor" "Ljava/lang/String;" .null := D227 (Or.inr (w 50 rfl)) (ty := (.object "java/lang/String")) (by decide)
    have F235 : Fld Z h221 b222 "com/example/modulog/modulog/model/Accessor$Target" "field" "I" (.int (0 : Int32)) := D227 (Or.inr (w 52 rfl)) (ty := .int) (by decide)
    show Goes p.tables e below _ (T220.setTop (mkF m 53 #[.val (.int p0), .val (.int p1), .val (.int p2), .val (.int p3), .val (.ref b114), .val (.ref b142), .unset, .unset] [(.ref b222)]))
    refine X224.dup (D at_53) rfl ?_
    refine X224.aload (x := (.ref b142)) (D at_54) rfl rfl ?_
    refine X224.iloadN (x := p0) (D at_56) rfl ?_
    refine X224.callc (a := b222) [(.ref b142), (.int p0)] [(.ref b222)] (ctTgt l Z a0 hw hEL z0 S0 hz0 b222 b142 p0 _ _ A226 F234 F235) rfl (w 33 rfl) (w 34 rfl) (w 32 rfl) (w 35 rfl) (by decide) (by simp) (by decide) 1 (by decide) (by decide) (by decide) (lenOf pd_6 rfl) rfl (Nat.le_of_ble_eq_true rfl) (by rw [hml]; rfl) (D at_57) ?_
    rintro T236 h237 _ X239 K240 ⟨rfl, G1, G2⟩
    have F241 := F229.keep K240 (ninS (Nat.ne_of_lt lt231) nin0)
    have F242 := F230.keep K240 (ninS (Nat.ne_of_lt lt232) nin0) (ninS (Nat.ne_of_lt lt233) nin0)
    have F243 := A226.keep K240
    show Goes p.tables e below _ (T236.setTop (mkF m 60 #[.val (.int p0), .val (.int p1), .val (.int p2), .val (.int p3), .val (.ref b114), .val (.ref b142), .unset, .unset] [(.ref b222)]))
    refine X239.astore #[.val (.int p0), .val (.int p1), .val (.int p2), .val (.int p3), .val (.ref b114), .val (.ref b142), .val (.ref b222), .unset] (D at_60) rfl rfl ?_
    refine X239.iloadN (x := p0) (D at_62) rfl ?_
    refine X239.if_ne 70 (D at_63) ⟨by decide, by decide⟩ (fun hc244 => ?_) (fun hc244 => ?_)
    · show Goes p.tables e below _ (T236.setTop (mkF m 70 #[.val (.int p0), .val (.int p1), .val (.int p2), .val (.int p3), .val (.ref b114), .val (.ref b142), .val (.ref b222), .unset] []))
      refine X239.iconst (x := (0 : Int32)) (D at_70) rfl ?_
      refine X239.istore #[.val (.int p0), .val (.int p1), .val (.int p2), .val (.int p3), .val (.ref b114), .val (.ref b142), .val (.ref b222), .val (.int (0 : Int32))] (D at_71) rfl ?_
      refine X239.aload (x := (.ref b222)) (D at_73) rfl rfl ?_
      refine X239.callv (y := (⟨"com/example/modulog/modulog/model/Accessor$Target", "isTester", "()Z"⟩ : MethodName)) (a := b222) (C := "com/example/modulog/modulog/model/Accessor$Target") [] [] (ctIs l Z a0 hw hEL z0 S0 hz0 b222 p0 _ _ G2) G1 (w 53 rfl) (w 54 rfl) (w 56 rfl) (w 55 rfl) (w 32 rfl) (w 57 rfl) (by decide) (fun _ q => nomatch q) (by decide) 0 (by decide) (by decide) (by decide) (lenOf pd_7 rfl) rfl (Nat.le_of_ble_eq_true rfl) (by rw [hml]; rfl) (D at_75) ?_
      rintro T245 h246 _ X248 K249 rfl
      have F250 := F241.keep K249 nin0
      have F251 := F242.keep K249 nin0 nin0
      have F252 := G1.keep K249
      have F253 := G2.keep K249 nin0
      rw [if_neg hc244]
      show Goes p.tables e below _ (T245.setTop (mkF m 78 #[.val (.int p0), .val (.int p1), .val (.int p2), .val (.int p3), .val (.ref b114), .val (.ref b142), .val (.ref b222), .val (.int (0 : Int32))] [(.int (0 : Int32))]))
      refine X248.iload (x := (0 : Int32)) (D at_78) rfl ?_
      refine X248.icmp_ne 96 (D at_80) ⟨by decide, by decide⟩ (fun hc254 => absurd hc254 (by decide)) (fun hc254 => ?_)
      refine X248.aload (x := (.ref b222)) (D at_83) rfl rfl ?_
      refine X248.callv (y := (⟨"com/example/modulog/modulog/model/Accessor$Target", "field", "()I"⟩ : MethodName)) (a := b222) (C := "com/example/modulog/modulog/model/Accessor$Target") [] [] (ctFd l Z a0 hw hEL z0 S0 hz0 b222 p0 _ _ F253) F252 (w 58 rfl) (w 59 rfl) (w 61 rfl) (w 60 rfl) (w 32 rfl) (w 62 rfl) (by decide) (fun _ q => nomatch q) (by decide) 0 (by decide) (by decide) (by decide) (lenOf pd_8 rfl) rfl (Nat.le_of_ble_eq_true rfl) (by rw [hml]; rfl) (D at_85) ?_
      rintro T255 h256 _ X258 K259 rfl
      have F260 := F250.keep K259 nin0
      have F261 := F251.keep K259 nin0 nin0
      have F262 := F252.keep K259
      have F263 := F253.keep K259 nin0
      show Goes p.tables e below _ (T255.setTop (mkF m 88 #[.val (.int p0), .val (.int p1), .val (.int p2), .val (.int p3), .val (.ref b114), .val (.ref b142), .val (.ref b222), .val (.int (0 : Int32))] [(.int p0)]))
      refine X258.iloadN (x := p0) (D at_88) rfl ?_
      refine X258.icmp_ne 96 (D at_89) ⟨by decide, by decide⟩ (fun hc => (hc rfl).elim) (fun hn264 => ?_)
      refine X258.iconst (x := (1 : Int32)) (D at_92) rfl ?_
      refine X258.goto 97 (D at_93) ⟨by decide, by decide⟩ ?_
      exact X258.reti hret (by simp) hlk (D at_97) (by decide) (by decide) (rfl)
    · show Goes p.tables e below _ (T236.setTop (mkF m 66 #[.val (.int p0), .val (.int p1), .val (.int p2), .val (.int p3), .val (.ref b114), .val (.ref b142), .val (.ref b222), .unset] []))
      refine X239.iconst (x := (1 : Int32)) (D at_66) rfl ?_
      refine X239.goto 71 (D at_67) ⟨by decide, by decide⟩ ?_
      refine X239.istore #[.val (.int p0), .val (.int p1), .val (.int p2), .val (.int p3), .val (.ref b114), .val (.ref b142), .val (.ref b222), .val (.int (1 : Int32))] (D at_71) rfl ?_
      refine X239.aload (x := (.ref b222)) (D at_73) rfl rfl ?_
      refine X239.callv (y := (⟨"com/example/modulog/modulog/model/Accessor$Target", "isTester", "()Z"⟩ : MethodName)) (a := b222) (C := "com/example/modulog/modulog/model/Accessor$Target") [] [] (ctIs l Z a0 hw hEL z0 S0 hz0 b222 p0 _ _ G2) G1 (w 53 rfl) (w 54 rfl) (w 56 rfl) (w 55 rfl) (w 32 rfl) (w 57 rfl) (by decide) (fun _ q => nomatch q) (by decide) 0 (by decide) (by decide) (by decide) (lenOf pd_7 rfl) rfl (Nat.le_of_ble_eq_true rfl) (by rw [hml]; rfl) (D at_75) ?_
      rintro T265 h266 _ X268 K269 rfl
      have F270 := F241.keep K269 nin0
      have F271 := F242.keep K269 nin0 nin0
      have F272 := G1.keep K269
      have F273 := G2.keep K269 nin0
      rw [if_pos hc244]
      show Goes p.tables e below _ (T265.setTop (mkF m 78 #[.val (.int p0), .val (.int p1), .val (.int p2), .val (.int p3), .val (.ref b114), .val (.ref b142), .val (.ref b222), .val (.int (1 : Int32))] [(.int (1 : Int32))]))
      refine X268.iload (x := (1 : Int32)) (D at_78) rfl ?_
      refine X268.icmp_ne 96 (D at_80) ⟨by decide, by decide⟩ (fun hc274 => absurd hc274 (by decide)) (fun hc274 => ?_)
      refine X268.aload (x := (.ref b222)) (D at_83) rfl rfl ?_
      refine X268.callv (y := (⟨"com/example/modulog/modulog/model/Accessor$Target", "field", "()I"⟩ : MethodName)) (a := b222) (C := "com/example/modulog/modulog/model/Accessor$Target") [] [] (ctFd l Z a0 hw hEL z0 S0 hz0 b222 p0 _ _ F273) F272 (w 58 rfl) (w 59 rfl) (w 61 rfl) (w 60 rfl) (w 32 rfl) (w 62 rfl) (by decide) (fun _ q => nomatch q) (by decide) 0 (by decide) (by decide) (by decide) (lenOf pd_8 rfl) rfl (Nat.le_of_ble_eq_true rfl) (by rw [hml]; rfl) (D at_85) ?_
      rintro T275 h276 _ X278 K279 rfl
      have F280 := F270.keep K279 nin0
      have F281 := F271.keep K279 nin0 nin0
      have F282 := F272.keep K279
      have F283 := F273.keep K279 nin0
      show Goes p.tables e below _ (T275.setTop (mkF m 88 #[.val (.int p0), .val (.int p1), .val (.int p2), .val (.int p3), .val (.ref b114), .val (.ref b142), .val (.ref b222), .val (.int (1 : Int32))] [(.int p0)]))
      refine X278.iloadN (x := p0) (D at_88) rfl ?_
      refine X278.icmp_ne 96 (D at_89) ⟨by decide, by decide⟩ (fun hc => (hc rfl).elim) (fun hn284 => ?_)
      refine X278.iconst (x := (1 : Int32)) (D at_92) rfl ?_
      refine X278.goto 97 (D at_93) ⟨by decide, by decide⟩ ?_
      exact X278.reti hret (by simp) hlk (D at_97) (by decide) (by decide) (rfl)
set_option maxRecDepth 65536 in
set_option maxHeartbeats 40000000 in
theorem comes_1 {Post : Tables → Env → Array Value → State → Outcome → State → Prop} (hpost : ∀ tb e args s v u, (limb_1_1.after args s (.returned v) u = true ∧ limb_1_2.after args s (.returned v) u = true ∧ True) → ReturnedEndW s (.returned v) u (Jvm.fieldLocs frame_1_writes args s ++ Jvm.arrayLocs frame_1_arrays args s ++ Jvm.staticLocs frame_1_statics s) room_1.cells room_1.slots → Post tb e args s (.returned v) u) :
    ArmFor flags0 classFile x code maxLocals ret World_1 tables_1 room_1 Calls_1 rest_1 Pre_1 Post := by
  intro l hfl _ _ p e ha hc hk s m args below hf hA hF happ hP
  obtain ⟨hcalls, hrest, hpre⟩ := hP
  obtain ⟨-, -, -, hnamed, -, -, -, hat⟩ := (Spec.applies_iff hf).mp happ
  obtain ⟨hg, hn⟩ := and_e (Cond.before_iff.mp (show (Jvm.Cond.and given_1 narrow_1).before args s = true from hpre))
  obtain ⟨g0, hg0⟩ := and_e hg
  obtain ⟨g1, hg1⟩ := and_e hg0
  obtain ⟨g2, hg2⟩ := and_e hg1
  obtain ⟨g3, hg3⟩ := and_e hg2
  obtain ⟨w0, w1, w2, w3, rfl⟩ : ∃ w0 w1 w2 w3 : Value, args = #[w0, w1, w2, w3] := by
    have hs : args.size = 4 := by simpa [Cond.value, given_1] using g0
    obtain ⟨L⟩ := args
    match L, hs with
    | [w0, w1, w2, w3], _ => exact ⟨w0, w1, w2, w3, rfl⟩
  have hw := fun d (hd : d ∈ tables_1) => atoms_spec (ws := Jvm.Cond.code x code maxLocals ret :: tables_1) hat d (List.mem_cons_of_mem _ hd)
  have hfit : Fit s := fun {y c} hc i hi => by
    obtain ⟨ha, rfl⟩ := Array.getElem?_eq_some_iff.mp hc
    have q := List.all_eq_true.mp ((Array.all_eq_true_iff_forall_mem.mp hF) _ (Array.getElem_mem ha)) i (List.mem_range.mpr hi)
    simpa [Array.getElem?_eq_getElem hi] using q
  obtain ⟨hsets, hown0⟩ := atoms_of _ (rest_1_c_eq ▸ (show rest_1_c.before _ s = true from hrest))
  obtain ⟨p0, ep0⟩ := is_v g1
  obtain rfl : w0 = (.int p0) := Option.some.inj ep0
  obtain ⟨p1, ep1⟩ := is_v g2
  obtain rfl : w1 = (.int p1) := Option.some.inj ep1
  obtain ⟨p2, ep2⟩ := is_v g3
  obtain rfl : w2 = (.int p2) := Option.some.inj ep2
  obtain ⟨p3, ep3⟩ := is_v hg3
  obtain rfl : w3 = (.int p3) := Option.some.inj ep3
  obtain ⟨z0, ez0⟩ := is_v (Cond.before_iff.mp (hsets (Jvm.Cond.isInt (.static "java/lang/String" "COMPACT_STRINGS" "Z")) (by decide +kernel)))
  have S0 : Sta s s.heap "java/lang/String" "COMPACT_STRINGS" "Z" (.int z0) := Sta.start ez0 (Or.inl (hsets (Jvm.Cond.initializedFor "java/lang/String" "COMPACT_STRINGS" "Z") (by decide +kernel)))
  have hcw := hsets (Jvm.Cond.not (.eq (.static "java/lang/String" "COMPACT_STRINGS" "Z") (.int (0 : Int32)))) (by decide +kernel)
  have hz0 : ¬ z0 = 0 := by
    have q1 := not_v (Cond.before_iff.mp hcw)
    intro q; subst q
    rw [eq_i ez0 (Term.int_eval (0 : Int32)) rfl] at q1; cases q1
  have hEL : EW s (#[.int p0, .int p1, .int p2, .int p3] : Array Value) [] := EW.nil
  have H0 : CHv s [] s.vm s.heap := fun p hp => by cases hp
  obtain ⟨n, o, h1, h2, h3, _, L, rfl, ⟨rfl, N, -, -⟩, -, hq⟩ := ctLaw l s _ hw hEL z0 S0 hz0 p0 p1 p2 p3  s.heap s.heap.size  p e ha hc hk s m _ below hf ((Spec.applies_iff_loose hf).mp happ).1 ⟨rfl, State.Warmed39.refl s, rfl, H0, Old.start s, fun _ q => nomatch q⟩ trivial
  exact ⟨n, _, h1, h2, h3, hpost _ _ _ _ _ _ ⟨Cond.after_iff.mpr rfl, Cond.after_iff.mpr (eq_i res_at (Term.int_eval (1)) rfl), trivial⟩ ⟨hq.1, hq.2.1, hq.2.2.1, (hq.2.2.2.sift fun y hy => Or.inr (N y hy))⟩⟩
theorem main_1_1 : Claimed_1_1 := comes_1 fun _ _ _ _ _ _ h hF => ⟨h.1, hF⟩
theorem main_1_2 : Claimed_1_2 := comes_1 fun _ _ _ _ _ _ h hF => ⟨h.2.1, hF⟩
end Jvm.Pilot.@@N@@
namespace Jvm.Pilot.@@N@@
open Jvm Jvm.ClassFile Sem Op Lib Jvm.Free Jvm.Stand Jvm.Pilot.@@N@@.Jvm.D
/-! MADE BY PROGRAM (witnessworld.py) out of the Statement's table words and the real class files: 22 classes; the members and pool entries that the words name. The judged class is class 1, her method 1. -/
namespace start1
open Jvm.ClassFile
def u (s : String) : CpInfo := .utf8 (stringToUtf16 s)
/-- a pool by its gaps: so many unusable entries, then the entry; so many at the end -/
def gap : Nat → List CpInfo → List CpInfo
  | 0, r => r
  | n + 1, r => .unusable :: gap n r
def poolList (es : List (Nat × CpInfo)) (last : Nat) : List CpInfo := es.foldr (fun e r => gap e.1 (e.2 :: r)) (gap last [])
def pool (es : List (Nat × CpInfo)) (last : Nat) : Array CpInfo := ⟨poolList es last⟩
def fileOf (pool : Array CpInfo) (this : Nat) (attrs : Array Attribute := #[]) (ms : Array MethodInfo := #[]) (fl : Nat := 33) (sup : Nat := 0) (ifs : Array Nat := #[]) (fds : Array FieldInfo := #[]) : ClassFile where
  minorVersion := 0
  majorVersion := 65
  constantPool := pool
  accessFlags := fl
  thisClass := this
  superClass := sup
  interfaces := ifs
  fields := fds
  methods := ms
  attributes := attrs
def plain (name : String) (sup : Option ClassId) : Class where
  name := name
  kind := .ordinary
  loader := none
  accessFlags := 33
  super := sup
  interfaces := #[]
  cf := none
  fields := #[]
  methods := #[]
  instanceTypes := #[]
  staticTypes := #[]
  resolved := #[]
  callSites := []
  init := .initialized
  statics := none
  mirror := none

def pool0 : Array CpInfo := pool [(5, u "<init>"), (0, u "()V"), (1, .class_ 10), (1, u "java/lang/Object")] 113

def k0c0 : Code := { maxStack := 0, maxLocals := 1, code := object_method_1_code, exceptionTable := #[], attributes := #[] }
def k0m0 : Method := { name := "<init>", desc := "()V", sig := { parameters := [], returnType := none }, accessFlags := 1, code := some k0c0 }
/-- java/lang/Object -/
def k0 : Class := { plain "java/lang/Object" none with
  accessFlags := 33
  interfaces := #[]
  cf := some (fileOf pool0 8 #[] #[{ accessFlags := 1, nameIndex := 5, descriptorIndex := 6, attributes := #[] }] 33 0 #[] #[])
  fields := #[]
  methods := #[k0m0]
  instanceTypes := #[]
  staticTypes := #[]
  resolved := Array.replicate 124 none
  statics := none }

def pool1 : Array CpInfo := pool [(2, .class_ 4), (1, u "java/lang/Object"), (0, u "<init>"), (0, u "()V"), (0, .class_ 8), (0, u "java/lang/String"), (0, .methodref 7 10), (0, .nameAndType 5 11), (0, u "([C)V"), (0, .methodref 7 13), (0, .nameAndType 14 15), (0, u "valueOf"), (0, u "(C)Ljava/lang/String;"), (0, .class_ 17), (0, u "com/example/modulog/modulog/model/Accessor$Target"), (0, .methodref 16 19), (0, .nameAndType 5 20), (0, u "(Ljava/lang/String;I)V"), (0, .methodref 16 22), (0, .nameAndType 23 24), (0, u "isTester"), (0, u "()Z"), (0, .methodref 16 26), (0, .nameAndType 27 28), (0, u "field"), (0, u "()I"), (0, .class_ 30), (0, u "com/example/modulog/modulog/model/TargetIsTesterPinLaw"), (2, u "law"), (0, u "(IIII)Z")] 9

def k1m0 : Method := { name := "<init>", desc := "()V", sig := { parameters := [], returnType := none }, accessFlags := 1, code := none }
def k1c1 : Code := { maxStack := 5, maxLocals := 8, code := code, exceptionTable := #[], attributes := #[] }
def k1m1 : Method := { name := "law", desc := "(IIII)Z", sig := { parameters := [.int, .int, .int, .int], returnType := some .boolean }, accessFlags := 9, code := some k1c1 }
/-- com/example/modulog/modulog/model/TargetIsTesterPinLaw -/
def k1 : Class := { plain "com/example/modulog/modulog/model/TargetIsTesterPinLaw" (some 0) with
  accessFlags := 49
  interfaces := #[]
  cf := some (fileOf pool1 29 #[] #[{ accessFlags := 1, nameIndex := 5, descriptorIndex := 6, attributes := #[] }, { accessFlags := 9, nameIndex := 33, descriptorIndex := 34, attributes := #[] }] 49 2 #[] #[])
  fields := #[]
  methods := #[k1m0, k1m1]
  instanceTypes := #[]
  staticTypes := #[]
  resolved := Array.replicate 44 none
  statics := none }

def pool2 : Array CpInfo := pool [(1, .class_ 2), (0, u "java/io/Serializable"), (0, .class_ 4), (0, u "java/lang/Object")] 2

/-- java/io/Serializable -/
def k2 : Class := { plain "java/io/Serializable" (some 0) with
  accessFlags := 1537
  interfaces := #[]
  cf := some (fileOf pool2 1 #[] #[] 1537 3 #[] #[])
  fields := #[]
  methods := #[]
  instanceTypes := #[]
  staticTypes := #[]
  resolved := Array.replicate 7 none
  statics := none }

def pool3 : Array CpInfo := pool [(1, .class_ 2), (0, u "java/lang/Comparable"), (0, .class_ 4), (0, u "java/lang/Object")] 7

/-- java/lang/Comparable -/
def k3 : Class := { plain "java/lang/Comparable" (some 0) with
  accessFlags := 1537
  interfaces := #[]
  cf := some (fileOf pool3 1 #[] #[] 1537 3 #[] #[])
  fields := #[]
  methods := #[]
  instanceTypes := #[]
  staticTypes := #[]
  resolved := Array.replicate 12 none
  statics := none }

def pool4 : Array CpInfo := pool [(2, .class_ 4), (1, u "java/lang/CharSequence"), (42, .class_ 48), (0, u "java/lang/CharSequence$1CodePointIterator"), (10, .class_ 60), (0, u "java/lang/CharSequence$1CharIterator"), (5, .class_ 67), (0, u "java/lang/Object")] 63

/-- java/lang/CharSequence -/
def k4 : Class := { plain "java/lang/CharSequence" (some 0) with
  accessFlags := 1537
  interfaces := #[]
  cf := some (fileOf pool4 2 #[.nestMembers #[47, 59]] #[] 1537 66 #[] #[])
  fields := #[]
  methods := #[]
  instanceTypes := #[]
  staticTypes := #[]
  resolved := Array.replicate 131 none
  statics := none }

def pool5 : Array CpInfo := pool [(1, .class_ 2), (0, u "java/lang/constant/Constable"), (0, .class_ 4), (0, u "java/lang/Object")] 6

/-- java/lang/constant/Constable -/
def k5 : Class := { plain "java/lang/constant/Constable" (some 0) with
  accessFlags := 1537
  interfaces := #[]
  cf := some (fileOf pool5 1 #[] #[] 1537 3 #[] #[])
  fields := #[]
  methods := #[]
  instanceTypes := #[]
  staticTypes := #[]
  resolved := Array.replicate 11 none
  statics := none }

def pool6 : Array CpInfo := pool [(1, .class_ 2), (0, u "java/lang/constant/ConstantDesc"), (0, .class_ 4), (0, u "java/lang/Object")] 32

/-- java/lang/constant/ConstantDesc -/
def k6 : Class := { plain "java/lang/constant/ConstantDesc" (some 0) with
  accessFlags := 1537
  interfaces := #[]
  cf := some (fileOf pool6 1 #[] #[] 1537 3 #[] #[])
  fields := #[]
  methods := #[]
  instanceTypes := #[]
  staticTypes := #[]
  resolved := Array.replicate 37 none
  statics := none }

def pool7 : Array CpInfo := pool [(1, .methodref 2 3), (0, .class_ 4), (0, .nameAndType 5 6), (0, u "java/lang/Object"), (0, u "<init>"), (0, u "()V"), (2, .fieldref 10 11), (0, .class_ 12), (0, .nameAndType 13 14), (0, u "java/lang/String"), (0, u "value"), (0, u "[B"), (0, .fieldref 10 16), (0, .nameAndType 17 18), (0, u "coder"), (0, u "B"), (2, u "hash"), (0, u "I"), (2, u "hashIsZero"), (0, u "Z"), (0, .methodref 10 28), (0, .nameAndType 5 29), (0, u "([CIILjava/lang/Void;)V"), (8, .fieldref 10 39), (0, .nameAndType 40 26), (0, u "COMPACT_STRINGS"), (1, .class_ 44), (1, u "java/lang/StringUTF16"), (0, u "compress"), (1, .methodref 42 48), (0, .nameAndType 49 50), (0, u "coderFromArrayLen"), (0, u "([BI)B"), (2, u "toBytes"), (53, .class_ 109), (1, u "java/lang/StringLatin1"), (67, .methodref 42 178), (0, .nameAndType 45 179), (0, u "([CII)[B"), (29, .methodref 10 210), (0, .nameAndType 5 211), (0, u "([BB)V"), (157, u "(C)Z"), (205, .class_ 576), (0, u "java/lang/CharSequence"), (22, u "CASE_INSENSITIVE_ORDER"), (0, u "Ljava/util/Comparator;"), (181, u "valueOf"), (0, u "(C)Ljava/lang/String;"), (226, u "([C)V"), (4, .methodref 107 1016), (0, .nameAndType 1017 369), (0, u "canEncode"), (0, .methodref 107 1019), (0, .nameAndType 53 1020), (0, u "(C)[B"), (80, u "serialPersistentFields"), (0, u "[Ljava/io/ObjectStreamField;"), (0, .class_ 1104), (0, u "java/lang/String$CaseInsensitiveComparator"), (1, .class_ 1107), (0, u "java/io/Serializable"), (0, .class_ 1109), (0, u "java/lang/Comparable"), (0, .class_ 1111), (0, u "java/lang/constant/Constable"), (0, .class_ 1113), (0, u "java/lang/constant/ConstantDesc"), (2, u "serialVersionUID"), (0, u "J"), (3, u "REPL"), (0, u "C"), (2, u "LATIN1"), (1, u "UTF16")] 323

def k7m0 : Method := { name := "<init>", desc := "()V", sig := { parameters := [], returnType := none }, accessFlags := 1, code := none }
def k7c1 : Code := { maxStack := 5, maxLocals := 2, code := jdk_42_method_3_code, exceptionTable := #[], attributes := #[] }
def k7m1 : Method := { name := "<init>", desc := "([C)V", sig := { parameters := [(.array .char)], returnType := none }, accessFlags := 1, code := some k7c1 }
def k7c2 : Code := { maxStack := 4, maxLocals := 1, code := jdk_42_method_139_code, exceptionTable := #[], attributes := #[] }
def k7m2 : Method := { name := "valueOf", desc := "(C)Ljava/lang/String;", sig := { parameters := [.char], returnType := some (.object "java/lang/String") }, accessFlags := 9, code := some k7c2 }
def k7c3 : Code := { maxStack := 4, maxLocals := 6, code := jdk_42_method_149_code, exceptionTable := #[], attributes := #[] }
def k7m3 : Method := { name := "<init>", desc := "([CIILjava/lang/Void;)V", sig := { parameters := [(.array .char), .int, .int, (.object "java/lang/Void")], returnType := none }, accessFlags := 2, code := some k7c3 }
def k7c4 : Code := { maxStack := 2, maxLocals := 3, code := jdk_42_method_151_code, exceptionTable := #[], attributes := #[] }
def k7m4 : Method := { name := "<init>", desc := "([BB)V", sig := { parameters := [(.array .byte), .byte], returnType := none }, accessFlags := 0, code := some k7c4 }
/-- java/lang/String -/
def k7 : Class := { plain "java/lang/String" (some 0) with
  accessFlags := 49
  interfaces := #[2, 3, 4, 5, 6]
  cf := some (fileOf pool7 10 #[.nestMembers #[1103]] #[{ accessFlags := 1, nameIndex := 5, descriptorIndex := 6, attributes := #[] }, { accessFlags := 1, nameIndex := 5, descriptorIndex := 1010, attributes := #[] }, { accessFlags := 9, nameIndex := 782, descriptorIndex := 783, attributes := #[] }, { accessFlags := 2, nameIndex := 5, descriptorIndex := 29, attributes := #[] }, { accessFlags := 0, nameIndex := 5, descriptorIndex := 211, attributes := #[] }] 49 2 #[1106, 1108, 575, 1110, 1112] #[{ accessFlags := 18, nameIndex := 13, descriptorIndex := 14, attributes := #[] }, { accessFlags := 18, nameIndex := 17, descriptorIndex := 18, attributes := #[] }, { accessFlags := 2, nameIndex := 21, descriptorIndex := 22, attributes := #[] }, { accessFlags := 2, nameIndex := 25, descriptorIndex := 26, attributes := #[] }, { accessFlags := 26, nameIndex := 1116, descriptorIndex := 1117, attributes := #[] }, { accessFlags := 24, nameIndex := 40, descriptorIndex := 26, attributes := #[] }, { accessFlags := 26, nameIndex := 1101, descriptorIndex := 1102, attributes := #[] }, { accessFlags := 26, nameIndex := 1121, descriptorIndex := 1122, attributes := #[] }, { accessFlags := 25, nameIndex := 599, descriptorIndex := 600, attributes := #[] }, { accessFlags := 24, nameIndex := 1125, descriptorIndex := 18, attributes := #[] }, { accessFlags := 24, nameIndex := 1127, descriptorIndex := 18, attributes := #[] }])
  fields := #[{ name := "value", type := (.array .byte), accessFlags := 18, slot := 0, constantValue := 0 }, { name := "coder", type := .byte, accessFlags := 18, slot := 1, constantValue := 0 }, { name := "hash", type := .int, accessFlags := 2, slot := 2, constantValue := 0 }, { name := "hashIsZero", type := .boolean, accessFlags := 2, slot := 3, constantValue := 0 }, { name := "serialVersionUID", type := .long, accessFlags := 26, slot := 0, constantValue := 0 }, { name := "COMPACT_STRINGS", type := .boolean, accessFlags := 24, slot := 1, constantValue := 0 }, { name := "serialPersistentFields", type := (.array (.object "java/io/ObjectStreamField")), accessFlags := 26, slot := 2, constantValue := 0 }, { name := "REPL", type := .char, accessFlags := 26, slot := 3, constantValue := 0 }, { name := "CASE_INSENSITIVE_ORDER", type := (.object "java/util/Comparator"), accessFlags := 25, slot := 4, constantValue := 0 }, { name := "LATIN1", type := .byte, accessFlags := 24, slot := 5, constantValue := 0 }, { name := "UTF16", type := .byte, accessFlags := 24, slot := 6, constantValue := 0 }]
  methods := #[k7m0, k7m1, k7m2, k7m3, k7m4]
  instanceTypes := #[(.array .byte), .byte, .int, .boolean]
  staticTypes := #[.long, .boolean, (.array (.object "java/io/ObjectStreamField")), .char, (.object "java/util/Comparator"), .byte, .byte]
  resolved := Array.replicate 1451 none
  statics := some 0 }

def pool8 : Array CpInfo := pool [(6, .class_ 8), (1, u "java/lang/Object"), (0, u "<init>"), (0, u "()V"), (1, .class_ 14), (1, u "java/lang/StringUTF16"), (31, u "$assertionsDisabled"), (0, u "Z"), (13, u "HI_BYTE_SHIFT"), (0, u "I"), (2, u "LO_BYTE_SHIFT"), (49, .methodref 12 116), (0, .nameAndType 117 118), (0, u "compress"), (0, u "([CI[BII)I"), (3, u "([CII)[B"), (138, u "coderFromArrayLen"), (0, u "([BI)B"), (106, .class_ 371), (1, u "java/lang/StringUTF16$LinesSpliterator"), (58, u "MAX_LENGTH"), (196, .class_ 628), (0, u "java/lang/StringUTF16$CodePointsSpliterator"), (0, .class_ 630), (0, u "java/lang/StringUTF16$CharsSpliterator")] 4

def k8m0 : Method := { name := "<init>", desc := "()V", sig := { parameters := [], returnType := none }, accessFlags := 0, code := none }
def k8c1 : Code := { maxStack := 2, maxLocals := 2, code := jdk_52_method_15_code, exceptionTable := #[], attributes := #[] }
def k8m1 : Method := { name := "coderFromArrayLen", desc := "([BI)B", sig := { parameters := [(.array .byte), .int], returnType := some .byte }, accessFlags := 8, code := some k8c1 }
def k8c2 : Code := { maxStack := 5, maxLocals := 6, code := jdk_52_method_16_code, exceptionTable := #[], attributes := #[] }
def k8m2 : Method := { name := "compress", desc := "([CII)[B", sig := { parameters := [(.array .char), .int, .int], returnType := some (.array .byte) }, accessFlags := 9, code := some k8c2 }
def k8c3 : Code := { maxStack := 3, maxLocals := 7, code := jdk_52_method_21_code, exceptionTable := #[], attributes := #[] }
def k8m3 : Method := { name := "compress", desc := "([CI[BII)I", sig := { parameters := [(.array .char), .int, (.array .byte), .int, .int], returnType := some .int }, accessFlags := 9, code := some k8c3 }
/-- java/lang/StringUTF16 -/
def k8 : Class := { plain "java/lang/StringUTF16" (some 0) with
  accessFlags := 48
  interfaces := #[]
  cf := some (fileOf pool8 12 #[.nestMembers #[627, 629, 369]] #[{ accessFlags := 0, nameIndex := 9, descriptorIndex := 10, attributes := #[] }, { accessFlags := 8, nameIndex := 261, descriptorIndex := 262, attributes := #[] }, { accessFlags := 9, nameIndex := 117, descriptorIndex := 122, attributes := #[] }, { accessFlags := 9, nameIndex := 117, descriptorIndex := 118, attributes := #[] }] 48 6 #[] #[{ accessFlags := 26, nameIndex := 61, descriptorIndex := 62, attributes := #[] }, { accessFlags := 26, nameIndex := 65, descriptorIndex := 62, attributes := #[] }, { accessFlags := 24, nameIndex := 430, descriptorIndex := 62, attributes := #[] }, { accessFlags := 4120, nameIndex := 46, descriptorIndex := 47, attributes := #[] }])
  fields := #[{ name := "HI_BYTE_SHIFT", type := .int, accessFlags := 26, slot := 0, constantValue := 0 }, { name := "LO_BYTE_SHIFT", type := .int, accessFlags := 26, slot := 1, constantValue := 0 }, { name := "MAX_LENGTH", type := .int, accessFlags := 24, slot := 2, constantValue := 0 }, { name := "$assertionsDisabled", type := .boolean, accessFlags := 4120, slot := 3, constantValue := 0 }]
  methods := #[k8m0, k8m1, k8m2, k8m3]
  instanceTypes := #[]
  staticTypes := #[.int, .int, .int, .boolean]
  resolved := Array.replicate 635 none
  statics := none }

def pool9 : Array CpInfo := pool [(1, .methodref 2 3), (0, .class_ 4), (0, .nameAndType 5 6), (0, u "java/lang/Object"), (0, u "<init>"), (0, u "()V"), (0, .class_ 8), (0, u "java/lang/Record")] 13

def k9c0 : Code := { maxStack := 1, maxLocals := 1, code := jdk_30_method_1_code, exceptionTable := #[], attributes := #[] }
def k9m0 : Method := { name := "<init>", desc := "()V", sig := { parameters := [], returnType := none }, accessFlags := 4, code := some k9c0 }
/-- java/lang/Record -/
def k9 : Class := { plain "java/lang/Record" (some 0) with
  accessFlags := 1057
  interfaces := #[]
  cf := some (fileOf pool9 7 #[] #[{ accessFlags := 4, nameIndex := 5, descriptorIndex := 6, attributes := #[] }] 1057 2 #[] #[])
  fields := #[]
  methods := #[k9m0]
  instanceTypes := #[]
  staticTypes := #[]
  resolved := Array.replicate 22 none
  statics := none }

def pool10 : Array CpInfo := pool [(1, .class_ 2), (0, u "com/example/modulog/modulog/model/Accessor"), (0, .methodref 4 5), (0, .class_ 6), (0, .nameAndType 7 8), (0, u "java/lang/Record"), (0, u "<init>"), (0, u "()V"), (0, .string 10), (0, u "constructor"), (0, .methodref 12 13), (0, .class_ 14), (0, .nameAndType 15 16), (0, u "java/util/Objects"), (0, u "requireNonNull"), (0, u "(Ljava/lang/Object;Ljava/lang/String;)Ljava/lang/Object;"), (0, .fieldref 18 19), (0, .class_ 20), (0, .nameAndType 10 21), (0, u "com/example/modulog/modulog/model/Accessor$Target"), (0, u "Ljava/lang/String;"), (0, .fieldref 18 23), (0, .nameAndType 24 25), (0, u "field"), (0, u "I"), (2, u "isTester"), (0, u "()Z"), (48, u "(Ljava/lang/String;I)V"), (10, u "()I")] 34

def k10c0 : Code := { maxStack := 2, maxLocals := 3, code := prog_91_method_1_code, exceptionTable := #[], attributes := #[] }
def k10m0 : Method := { name := "<init>", desc := "(Ljava/lang/String;I)V", sig := { parameters := [(.object "java/lang/String"), .int], returnType := none }, accessFlags := 1, code := some k10c0 }
def k10c1 : Code := { maxStack := 1, maxLocals := 1, code := prog_91_method_2_code, exceptionTable := #[], attributes := #[] }
def k10m1 : Method := { name := "isTester", desc := "()Z", sig := { parameters := [], returnType := some .boolean }, accessFlags := 1, code := some k10c1 }
def k10c2 : Code := { maxStack := 1, maxLocals := 1, code := prog_91_method_9_code, exceptionTable := #[], attributes := #[] }
def k10m2 : Method := { name := "field", desc := "()I", sig := { parameters := [], returnType := some .int }, accessFlags := 1, code := some k10c2 }
/-- com/example/modulog/modulog/model/Accessor$Target -/
def k10 : Class := { plain "com/example/modulog/modulog/model/Accessor$Target" (some 9) with
  accessFlags := 49
  interfaces := #[]
  cf := some (fileOf pool10 18 #[.nestHost 1] #[{ accessFlags := 1, nameIndex := 7, descriptorIndex := 78, attributes := #[] }, { accessFlags := 1, nameIndex := 28, descriptorIndex := 29, attributes := #[] }, { accessFlags := 1, nameIndex := 24, descriptorIndex := 89, attributes := #[] }] 49 4 #[] #[{ accessFlags := 18, nameIndex := 10, descriptorIndex := 21, attributes := #[] }, { accessFlags := 18, nameIndex := 24, descriptorIndex := 25, attributes := #[] }])
  fields := #[{ name := "constructor", type := (.object "java/lang/String"), accessFlags := 18, slot := 0, constantValue := 0 }, { name := "field", type := .int, accessFlags := 18, slot := 1, constantValue := 0 }]
  methods := #[k10m0, k10m1, k10m2]
  instanceTypes := #[(.object "java/lang/String"), .int]
  staticTypes := #[]
  resolved := Array.replicate 124 none
  statics := none }

def pool11 : Array CpInfo := pool [(2, .class_ 4), (1, u "java/lang/Object"), (0, u "<init>"), (0, u "()V"), (35, .class_ 44), (1, u "java/util/Objects"), (0, u "requireNonNull"), (48, u "(Ljava/lang/Object;Ljava/lang/String;)Ljava/lang/Object;")] 89

def k11m0 : Method := { name := "<init>", desc := "()V", sig := { parameters := [], returnType := none }, accessFlags := 2, code := none }
def k11c1 : Code := { maxStack := 3, maxLocals := 2, code := jdk_31_method_11_code, exceptionTable := #[], attributes := #[] }
def k11m1 : Method := { name := "requireNonNull", desc := "(Ljava/lang/Object;Ljava/lang/String;)Ljava/lang/Object;", sig := { parameters := [(.object "java/lang/Object"), (.object "java/lang/String")], returnType := some (.object "java/lang/Object") }, accessFlags := 9, code := some k11c1 }
/-- java/util/Objects -/
def k11 : Class := { plain "java/util/Objects" (some 0) with
  accessFlags := 49
  interfaces := #[]
  cf := some (fileOf pool11 42 #[] #[{ accessFlags := 2, nameIndex := 5, descriptorIndex := 6, attributes := #[] }, { accessFlags := 9, nameIndex := 45, descriptorIndex := 94, attributes := #[] }] 49 2 #[] #[])
  fields := #[]
  methods := #[k11m0, k11m1]
  instanceTypes := #[]
  staticTypes := #[]
  resolved := Array.replicate 184 none
  statics := none }

def pool12 : Array CpInfo := pool [(4, .class_ 6), (1, u "java/lang/Object"), (0, u "<init>"), (0, u "()V"), (5, .class_ 16), (1, u "java/lang/StringLatin1"), (73, u "canEncode"), (14, u "(C)Z"), (15, u "$assertionsDisabled"), (0, u "Z"), (98, .class_ 223), (1, u "java/lang/StringLatin1$LinesSpliterator"), (156, u "toBytes"), (1, u "(C)[B"), (7, .class_ 391), (0, u "java/lang/StringLatin1$CharsSpliterator")] 3

def k12m0 : Method := { name := "<init>", desc := "()V", sig := { parameters := [], returnType := none }, accessFlags := 0, code := none }
def k12c1 : Code := { maxStack := 2, maxLocals := 1, code := jdk_43_method_3_code, exceptionTable := #[], attributes := #[] }
def k12m1 : Method := { name := "canEncode", desc := "(C)Z", sig := { parameters := [.char], returnType := some .boolean }, accessFlags := 9, code := some k12c1 }
def k12c2 : Code := { maxStack := 4, maxLocals := 1, code := jdk_43_method_46_code, exceptionTable := #[], attributes := #[] }
def k12m2 : Method := { name := "toBytes", desc := "(C)[B", sig := { parameters := [.char], returnType := some (.array .byte) }, accessFlags := 9, code := some k12c2 }
/-- java/lang/StringLatin1 -/
def k12 : Class := { plain "java/lang/StringLatin1" (some 0) with
  accessFlags := 48
  interfaces := #[]
  cf := some (fileOf pool12 14 #[.nestMembers #[390, 221]] #[{ accessFlags := 0, nameIndex := 7, descriptorIndex := 8, attributes := #[] }, { accessFlags := 9, nameIndex := 90, descriptorIndex := 105, attributes := #[] }, { accessFlags := 9, nameIndex := 380, descriptorIndex := 382, attributes := #[] }] 48 4 #[] #[{ accessFlags := 4120, nameIndex := 121, descriptorIndex := 122, attributes := #[] }])
  fields := #[{ name := "$assertionsDisabled", type := .boolean, accessFlags := 4120, slot := 0, constantValue := 0 }]
  methods := #[k12m0, k12m1, k12m2]
  instanceTypes := #[]
  staticTypes := #[.boolean]
  resolved := Array.replicate 395 none
  statics := none }

def pool13 : Array CpInfo := pool [(2, .class_ 4), (1, u "java/lang/Object"), (0, u "<init>"), (0, u "()V"), (17, .class_ 26), (1, u "jdk/internal/util/Preconditions"), (28, .class_ 56), (0, u "jdk/internal/util/Preconditions$4"), (57, .class_ 115), (0, u "jdk/internal/util/Preconditions$1"), (7, u "SIOOBE_FORMATTER"), (0, u "Ljava/util/function/BiFunction;"), (0, .class_ 126), (0, u "jdk/internal/util/Preconditions$2"), (3, u "AIOOBE_FORMATTER"), (0, .class_ 132), (0, u "jdk/internal/util/Preconditions$3"), (3, u "IOOBE_FORMATTER")] 57

def k13m0 : Method := { name := "<init>", desc := "()V", sig := { parameters := [], returnType := none }, accessFlags := 1, code := none }
/-- jdk/internal/util/Preconditions -/
def k13 : Class := { plain "jdk/internal/util/Preconditions" (some 0) with
  accessFlags := 33
  interfaces := #[]
  cf := some (fileOf pool13 24 #[.nestMembers #[55, 131, 125, 114]] #[{ accessFlags := 1, nameIndex := 5, descriptorIndex := 6, attributes := #[] }] 33 2 #[] #[{ accessFlags := 25, nameIndex := 123, descriptorIndex := 124, attributes := #[] }, { accessFlags := 25, nameIndex := 130, descriptorIndex := 124, attributes := #[] }, { accessFlags := 25, nameIndex := 136, descriptorIndex := 124, attributes := #[] }])
  fields := #[{ name := "SIOOBE_FORMATTER", type := (.object "java/util/function/BiFunction"), accessFlags := 25, slot := 0, constantValue := 0 }, { name := "AIOOBE_FORMATTER", type := (.object "java/util/function/BiFunction"), accessFlags := 25, slot := 1, constantValue := 0 }, { name := "IOOBE_FORMATTER", type := (.object "java/util/function/BiFunction"), accessFlags := 25, slot := 2, constantValue := 0 }]
  methods := #[k13m0]
  instanceTypes := #[]
  staticTypes := #[(.object "java/util/function/BiFunction"), (.object "java/util/function/BiFunction"), (.object "java/util/function/BiFunction")]
  resolved := Array.replicate 194 none
  statics := some 1 }

def pool14 : Array CpInfo := pool [(9, u "<init>"), (6, .class_ 18), (1, u "java/lang/Object"), (0, u "()V"), (1, .class_ 23), (1, u "jdk/internal/util/ArraysSupport"), (0, u "LOG2_ARRAY_LONG_INDEX_SCALE"), (0, u "I"), (2, u "U"), (0, u "Ljdk/internal/misc/Unsafe;"), (8, u "BIG_ENDIAN"), (0, u "Z"), (8, u "LOG2_BYTE_BIT_SIZE"), (4, u "LOG2_ARRAY_INT_INDEX_SCALE"), (54, u "JLA"), (0, u "Ljdk/internal/access/JavaLangAccess;"), (11, u "LOG2_ARRAY_BOOLEAN_INDEX_SCALE"), (9, u "LOG2_ARRAY_BYTE_INDEX_SCALE"), (5, u "LOG2_ARRAY_CHAR_INDEX_SCALE"), (5, u "LOG2_ARRAY_SHORT_INDEX_SCALE"), (18, u "LOG2_ARRAY_FLOAT_INDEX_SCALE"), (24, u "LOG2_ARRAY_DOUBLE_INDEX_SCALE"), (89, u "T_BOOLEAN"), (2, u "T_CHAR"), (1, u "T_FLOAT"), (1, u "T_DOUBLE"), (1, u "T_BYTE"), (1, u "T_SHORT"), (1, u "T_INT"), (1, u "T_LONG"), (1, u "SOFT_MAX_ARRAY_LENGTH")] 83

def k14m0 : Method := { name := "<init>", desc := "()V", sig := { parameters := [], returnType := none }, accessFlags := 2, code := none }
/-- jdk/internal/util/ArraysSupport -/
def k14 : Class := { plain "jdk/internal/util/ArraysSupport" (some 0) with
  accessFlags := 33
  interfaces := #[]
  cf := some (fileOf pool14 21 #[] #[{ accessFlags := 2, nameIndex := 9, descriptorIndex := 19, attributes := #[] }] 33 16 #[] #[{ accessFlags := 24, nameIndex := 28, descriptorIndex := 29, attributes := #[] }, { accessFlags := 26, nameIndex := 38, descriptorIndex := 39, attributes := #[] }, { accessFlags := 25, nameIndex := 121, descriptorIndex := 25, attributes := #[] }, { accessFlags := 25, nameIndex := 131, descriptorIndex := 25, attributes := #[] }, { accessFlags := 25, nameIndex := 137, descriptorIndex := 25, attributes := #[] }, { accessFlags := 25, nameIndex := 143, descriptorIndex := 25, attributes := #[] }, { accessFlags := 25, nameIndex := 53, descriptorIndex := 25, attributes := #[] }, { accessFlags := 25, nameIndex := 24, descriptorIndex := 25, attributes := #[] }, { accessFlags := 25, nameIndex := 162, descriptorIndex := 25, attributes := #[] }, { accessFlags := 25, nameIndex := 187, descriptorIndex := 25, attributes := #[] }, { accessFlags := 26, nameIndex := 48, descriptorIndex := 25, attributes := #[] }, { accessFlags := 25, nameIndex := 277, descriptorIndex := 25, attributes := #[] }, { accessFlags := 25, nameIndex := 280, descriptorIndex := 25, attributes := #[] }, { accessFlags := 25, nameIndex := 282, descriptorIndex := 25, attributes := #[] }, { accessFlags := 25, nameIndex := 284, descriptorIndex := 25, attributes := #[] }, { accessFlags := 25, nameIndex := 286, descriptorIndex := 25, attributes := #[] }, { accessFlags := 25, nameIndex := 288, descriptorIndex := 25, attributes := #[] }, { accessFlags := 25, nameIndex := 290, descriptorIndex := 25, attributes := #[] }, { accessFlags := 25, nameIndex := 292, descriptorIndex := 25, attributes := #[] }, { accessFlags := 26, nameIndex := 108, descriptorIndex := 109, attributes := #[] }, { accessFlags := 25, nameIndex := 294, descriptorIndex := 25, attributes := #[] }])
  fields := #[{ name := "U", type := (.object "jdk/internal/misc/Unsafe"), accessFlags := 24, slot := 0, constantValue := 0 }, { name := "BIG_ENDIAN", type := .boolean, accessFlags := 26, slot := 1, constantValue := 0 }, { name := "LOG2_ARRAY_BOOLEAN_INDEX_SCALE", type := .int, accessFlags := 25, slot := 2, constantValue := 0 }, { name := "LOG2_ARRAY_BYTE_INDEX_SCALE", type := .int, accessFlags := 25, slot := 3, constantValue := 0 }, { name := "LOG2_ARRAY_CHAR_INDEX_SCALE", type := .int, accessFlags := 25, slot := 4, constantValue := 0 }, { name := "LOG2_ARRAY_SHORT_INDEX_SCALE", type := .int, accessFlags := 25, slot := 5, constantValue := 0 }, { name := "LOG2_ARRAY_INT_INDEX_SCALE", type := .int, accessFlags := 25, slot := 6, constantValue := 0 }, { name := "LOG2_ARRAY_LONG_INDEX_SCALE", type := .int, accessFlags := 25, slot := 7, constantValue := 0 }, { name := "LOG2_ARRAY_FLOAT_INDEX_SCALE", type := .int, accessFlags := 25, slot := 8, constantValue := 0 }, { name := "LOG2_ARRAY_DOUBLE_INDEX_SCALE", type := .int, accessFlags := 25, slot := 9, constantValue := 0 }, { name := "LOG2_BYTE_BIT_SIZE", type := .int, accessFlags := 26, slot := 10, constantValue := 0 }, { name := "T_BOOLEAN", type := .int, accessFlags := 25, slot := 11, constantValue := 0 }, { name := "T_CHAR", type := .int, accessFlags := 25, slot := 12, constantValue := 0 }, { name := "T_FLOAT", type := .int, accessFlags := 25, slot := 13, constantValue := 0 }, { name := "T_DOUBLE", type := .int, accessFlags := 25, slot := 14, constantValue := 0 }, { name := "T_BYTE", type := .int, accessFlags := 25, slot := 15, constantValue := 0 }, { name := "T_SHORT", type := .int, accessFlags := 25, slot := 16, constantValue := 0 }, { name := "T_INT", type := .int, accessFlags := 25, slot := 17, constantValue := 0 }, { name := "T_LONG", type := .int, accessFlags := 25, slot := 18, constantValue := 0 }, { name := "JLA", type := (.object "jdk/internal/access/JavaLangAccess"), accessFlags := 26, slot := 19, constantValue := 0 }, { name := "SOFT_MAX_ARRAY_LENGTH", type := .int, accessFlags := 25, slot := 20, constantValue := 0 }]
  methods := #[k14m0]
  instanceTypes := #[]
  staticTypes := #[(.object "jdk/internal/misc/Unsafe"), .boolean, .int, .int, .int, .int, .int, .int, .int, .int, .int, .int, .int, .int, .int, .int, .int, .int, .int, (.object "jdk/internal/access/JavaLangAccess"), .int]
  resolved := Array.replicate 378 none
  statics := none }

def pool15 : Array CpInfo := pool [(1, u "java/lang/Cloneable"), (0, .class_ 1), (0, u "java/lang/Object"), (0, .class_ 3)] 3

/-- java/lang/Cloneable -/
def k15 : Class := { plain "java/lang/Cloneable" (some 0) with
  accessFlags := 1537
  interfaces := #[]
  cf := some (fileOf pool15 2 #[] #[] 1537 4 #[] #[])
  fields := #[]
  methods := #[]
  instanceTypes := #[]
  staticTypes := #[]
  resolved := Array.replicate 8 none
  statics := none }

/-- the primitive byte -/
def k16 : Class := { plain "byte" none with kind := .primitive 'B', accessFlags := 0x411 }
/-- [B -/
def k17 : Class := { plain "[B" (some 0) with kind := .array 16 .byte, interfaces := #[15, 2], accessFlags := 1041 }

/-- the primitive char -/
def k18 : Class := { plain "char" none with kind := .primitive 'C', accessFlags := 0x411 }
/-- [C -/
def k19 : Class := { plain "[C" (some 0) with kind := .array 18 .char, interfaces := #[15, 2], accessFlags := 1041 }

/-- the primitive int -/
def k20 : Class := { plain "int" none with kind := .primitive 'I', accessFlags := 0x411 }
/-- [I -/
def k21 : Class := { plain "[I" (some 0) with kind := .array 20 .int, interfaces := #[15, 2], accessFlags := 1041 }

def heap : Heap := #[{ cls := 7, slots := #[.long 0, .int 1, .null, .int 0, .null, .int 0, .int 0], vm := .statics 7 },
  { cls := 13, slots := #[.null, .null, .null], vm := .statics 13 }]
def classes : Array Class := #[k0, k1, k2, k3, k4, k5, k6, k7, k8, k9, k10, k11, k12, k13, k14, k15, k16, k17, k18, k19, k20, k21]
def interned : List (Array UInt16 × Addr) := []
def slotsUsed : Nat := 10
def theMethod : MethodId := ⟨1, 1⟩
def args0 : Array Value := #[.int 5, .int 5, .int 5, .int 5]
def aboutOver (below : List Frame) : State where
  vm := { classes := classes, interned := interned.toArray }
  heap := heap
  slotsUsed := slotsUsed
  threads := #[{ frames := .invoking theMethod args0 :: below }]
def below0 : List Frame := [.native { method := ⟨0, 0⟩, args := #[] }]
def about1 : State := aboutOver below0
def p0 : Program := .bare "" "" ""
def e0 : Env := launch0.env 0 0 0
theorem w_frames : about1.frames = Frame.invoking theMethod args0 :: below0 := rfl
set_option maxRecDepth 65536 in
theorem w_args : argsFit about1.vm theMethod args0 = true := by decide +kernel
set_option maxRecDepth 65536 in
theorem w_heap : heapFits about1 = true := by decide +kernel
set_option maxRecDepth 65536 in
theorem w_runnable : about1.curStatus? = some .runnable := by decide +kernel
set_option maxRecDepth 65536 in
theorem w_alone : about1.alone = true := by decide +kernel
set_option maxRecDepth 65536 in
theorem w_named : about1.methodNamed? x = some theMethod := by decide +kernel
set_option maxRecDepth 65536 in
theorem w_hears : about1.hears theMethod below0 = true := by decide +kernel
set_option maxRecDepth 65536 in
theorem w_ripe : about1.ripe theMethod args0 below0 = true := by decide +kernel
theorem w_running : about1.status = .running := rfl
set_option maxRecDepth 65536 in
theorem w_room : about1.hasRoom e0.platform room_1 = true :=
  launch0.hasRoom_least _ room_1 (by decide +kernel) (by decide +kernel) (by decide +kernel) (by decide +kernel) (by decide +kernel) (by decide +kernel)
theorem allAtoms_all (ts : List Jvm.Cond) (a : Array Jvm.Value) (st : Jvm.State) : (allAtoms ts).before a st = ts.all (fun c => c.before a st) := by
  induction ts with
  | nil => rfl
  | cons c t ih =>
    show (Jvm.Cond.and c (allAtoms t)).before a st = _
    rw [Jvm.Cond.before_and, ih, List.all_cons]
def words1 : List Jvm.Cond := Jvm.Cond.code x code maxLocals ret :: tables_1
/-- a 'code' word, met by the world's own term for the bytes: nothing is compared byte by byte -/
theorem code_word {y : MethodName} {bytes : ByteArray} {mx : Nat} {rt : Option FieldType} {a : Array Value} {s : State} {m : MethodId} {meth : Method} {c : Code} (h1 : s.methodNamed? y = some m) (h2 : s.vm.method? m = some meth) (h3 : meth.code = some c) (h4 : c.code = bytes)
    (h5 : (c.maxLocals == mx && c.exceptionTable.isEmpty && decide (c.maxStack ≤ mostOperands) && decide (meth.sig.returnType = rt) && !meth.locks && decide (parseMethodDescriptor y.desc = some meth.sig)) = true) : (Jvm.Cond.code y bytes mx rt).before a s = true := by
  simp only [Bool.and_eq_true, beq_iff_eq, Bool.not_eq_true', decide_eq_true_eq] at h5
  obtain ⟨⟨⟨⟨⟨g1, g2⟩, g3⟩, g4⟩, g5⟩, g6⟩ := h5
  simp [Cond.before, Cond.holds, Cond.value, h1, h2, h3, h4, g1, g2, g3, g4, g5, g6]
def isCode : Jvm.Cond → Bool
  | .code _ _ _ _ => true
  | _ => false
theorem all_split {L : List Jvm.Cond} {P : Jvm.Cond → Bool} (h1 : L.all (fun c => isCode c || P c) = true) (h2 : ∀ c ∈ L.filter isCode, P c = true) : L.all P = true := by
  refine List.all_eq_true.mpr fun c hc => ?_
  have h := List.all_eq_true.mp h1 c hc
  rcases Bool.eq_false_or_eq_true (isCode c) with hi | hi
  · exact h2 c (List.mem_filter.mpr ⟨hc, hi⟩)
  · simpa [hi] using h
set_option maxRecDepth 65536 in
theorem w_c0 : (Jvm.Cond.code x code maxLocals ret).before args0 about1 = true := code_word (m := ⟨1, 1⟩) (meth := k1m1) (c := k1c1) (by decide +kernel) rfl rfl rfl (by decide +kernel)
set_option maxRecDepth 65536 in
theorem w_c1 : (Jvm.Cond.code ({ cls := "java/lang/String", name := "<init>", desc := "([C)V" } : Jvm.MethodName) jdk_42_method_3_code (2 : Nat) (Option.none : Option Jvm.ClassFile.FieldType)).before args0 about1 = true := code_word (m := ⟨7, 1⟩) (meth := k7m1) (c := k7c1) (by decide +kernel) rfl rfl rfl (by decide +kernel)
set_option maxRecDepth 65536 in
theorem w_c2 : (Jvm.Cond.code ({ cls := "java/lang/String", name := "<init>", desc := "([CIILjava/lang/Void;)V" } : Jvm.MethodName) jdk_42_method_149_code (6 : Nat) (Option.none : Option Jvm.ClassFile.FieldType)).before args0 about1 = true := code_word (m := ⟨7, 3⟩) (meth := k7m3) (c := k7c3) (by decide +kernel) rfl rfl rfl (by decide +kernel)
set_option maxRecDepth 65536 in
theorem w_c3 : (Jvm.Cond.code ({ cls := "java/lang/Object", name := "<init>", desc := "()V" } : Jvm.MethodName) object_method_1_code (1 : Nat) (Option.none : Option Jvm.ClassFile.FieldType)).before args0 about1 = true := code_word (m := ⟨0, 0⟩) (meth := k0m0) (c := k0c0) (by decide +kernel) rfl rfl rfl (by decide +kernel)
set_option maxRecDepth 65536 in
theorem w_c4 : (Jvm.Cond.code ({ cls := "java/lang/StringUTF16", name := "compress", desc := "([CII)[B" } : Jvm.MethodName) jdk_52_method_16_code (6 : Nat) (Option.some (Jvm.ClassFile.FieldType.array Jvm.ClassFile.FieldType.byte))).before args0 about1 = true := code_word (m := ⟨8, 2⟩) (meth := k8m2) (c := k8c2) (by decide +kernel) rfl rfl rfl (by decide +kernel)
set_option maxRecDepth 65536 in
theorem w_c5 : (Jvm.Cond.code ({ cls := "java/lang/StringUTF16", name := "compress", desc := "([CI[BII)I" } : Jvm.MethodName) jdk_52_method_21_code (7 : Nat) (Option.some Jvm.ClassFile.FieldType.int)).before args0 about1 = true := code_word (m := ⟨8, 3⟩) (meth := k8m3) (c := k8c3) (by decide +kernel) rfl rfl rfl (by decide +kernel)
set_option maxRecDepth 65536 in
theorem w_c6 : (Jvm.Cond.code ({ cls := "java/lang/StringUTF16", name := "coderFromArrayLen", desc := "([BI)B" } : Jvm.MethodName) jdk_52_method_15_code (2 : Nat) (Option.some Jvm.ClassFile.FieldType.byte)).before args0 about1 = true := code_word (m := ⟨8, 1⟩) (meth := k8m1) (c := k8c1) (by decide +kernel) rfl rfl rfl (by decide +kernel)
set_option maxRecDepth 65536 in
theorem w_c7 : (Jvm.Cond.code ({ cls := "com/example/modulog/modulog/model/Accessor$Target", name := "<init>", desc := "(Ljava/lang/String;I)V" } : Jvm.MethodName) prog_91_method_1_code (3 : Nat) (Option.none : Option Jvm.ClassFile.FieldType)).before args0 about1 = true := code_word (m := ⟨10, 0⟩) (meth := k10m0) (c := k10c0) (by decide +kernel) rfl rfl rfl (by decide +kernel)
set_option maxRecDepth 65536 in
theorem w_c8 : (Jvm.Cond.code ({ cls := "java/lang/Record", name := "<init>", desc := "()V" } : Jvm.MethodName) jdk_30_method_1_code (1 : Nat) (Option.none : Option Jvm.ClassFile.FieldType)).before args0 about1 = true := code_word (m := ⟨9, 0⟩) (meth := k9m0) (c := k9c0) (by decide +kernel) rfl rfl rfl (by decide +kernel)
set_option maxRecDepth 65536 in
theorem w_c9 : (Jvm.Cond.code ({ cls := "java/util/Objects", name := "requireNonNull", desc := "(Ljava/lang/Object;Ljava/lang/String;)Ljava/lang/Object;" } : Jvm.MethodName) jdk_31_method_11_code (2 : Nat) (Option.some (Jvm.ClassFile.FieldType.object "java/lang/Object"))).before args0 about1 = true := code_word (m := ⟨11, 1⟩) (meth := k11m1) (c := k11c1) (by decide +kernel) rfl rfl rfl (by decide +kernel)
set_option maxRecDepth 65536 in
theorem w_c10 : (Jvm.Cond.code ({ cls := "com/example/modulog/modulog/model/Accessor$Target", name := "isTester", desc := "()Z" } : Jvm.MethodName) prog_91_method_2_code (1 : Nat) (Option.some Jvm.ClassFile.FieldType.boolean)).before args0 about1 = true := code_word (m := ⟨10, 1⟩) (meth := k10m1) (c := k10c1) (by decide +kernel) rfl rfl rfl (by decide +kernel)
set_option maxRecDepth 65536 in
theorem w_c11 : (Jvm.Cond.code ({ cls := "com/example/modulog/modulog/model/Accessor$Target", name := "field", desc := "()I" } : Jvm.MethodName) prog_91_method_9_code (1 : Nat) (Option.some Jvm.ClassFile.FieldType.int)).before args0 about1 = true := code_word (m := ⟨10, 2⟩) (meth := k10m2) (c := k10c2) (by decide +kernel) rfl rfl rfl (by decide +kernel)
set_option maxRecDepth 65536 in
theorem w_c12 : (Jvm.Cond.code ({ cls := "java/lang/String", name := "valueOf", desc := "(C)Ljava/lang/String;" } : Jvm.MethodName) jdk_42_method_139_code (1 : Nat) (Option.some (Jvm.ClassFile.FieldType.object "java/lang/String"))).before args0 about1 = true := code_word (m := ⟨7, 2⟩) (meth := k7m2) (c := k7c2) (by decide +kernel) rfl rfl rfl (by decide +kernel)
set_option maxRecDepth 65536 in
theorem w_c13 : (Jvm.Cond.code ({ cls := "java/lang/StringLatin1", name := "canEncode", desc := "(C)Z" } : Jvm.MethodName) jdk_43_method_3_code (1 : Nat) (Option.some Jvm.ClassFile.FieldType.boolean)).before args0 about1 = true := code_word (m := ⟨12, 1⟩) (meth := k12m1) (c := k12c1) (by decide +kernel) rfl rfl rfl (by decide +kernel)
set_option maxRecDepth 65536 in
theorem w_c14 : (Jvm.Cond.code ({ cls := "java/lang/StringLatin1", name := "toBytes", desc := "(C)[B" } : Jvm.MethodName) jdk_43_method_46_code (1 : Nat) (Option.some (Jvm.ClassFile.FieldType.array Jvm.ClassFile.FieldType.byte))).before args0 about1 = true := code_word (m := ⟨12, 2⟩) (meth := k12m2) (c := k12c2) (by decide +kernel) rfl rfl rfl (by decide +kernel)
set_option maxRecDepth 65536 in
theorem w_c15 : (Jvm.Cond.code ({ cls := "java/lang/String", name := "<init>", desc := "([BB)V" } : Jvm.MethodName) jdk_42_method_151_code (3 : Nat) (Option.none : Option Jvm.ClassFile.FieldType)).before args0 about1 = true := code_word (m := ⟨7, 4⟩) (meth := k7m4) (c := k7c4) (by decide +kernel) rfl rfl rfl (by decide +kernel)
def codes1 : List Jvm.Cond := [Jvm.Cond.code x code maxLocals ret, Jvm.Cond.code ({ cls := "java/lang/String", name := "<init>", desc := "([C)V" } : Jvm.MethodName) jdk_42_method_3_code (2 : Nat) (Option.none : Option Jvm.ClassFile.FieldType), Jvm.Cond.code ({ cls := "java/lang/String", name := "<init>", desc := "([CIILjava/lang/Void;)V" } : Jvm.MethodName) jdk_42_method_149_code (6 : Nat) (Option.none : Option Jvm.ClassFile.FieldType), Jvm.Cond.code ({ cls := "java/lang/Object", name := "<init>", desc := "()V" } : Jvm.MethodName) object_method_1_code (1 : Nat) (Option.none : Option Jvm.ClassFile.FieldType), Jvm.Cond.code ({ cls := "java/lang/StringUTF16", name := "compress", desc := "([CII)[B" } : Jvm.MethodName) jdk_52_method_16_code (6 : Nat) (Option.some (Jvm.ClassFile.FieldType.array Jvm.ClassFile.FieldType.byte)), Jvm.Cond.code ({ cls := "java/lang/StringUTF16", name := "compress", desc := "([CI[BII)I" } : Jvm.MethodName) jdk_52_method_21_code (7 : Nat) (Option.some Jvm.ClassFile.FieldType.int), Jvm.Cond.code ({ cls := "java/lang/StringUTF16", name := "coderFromArrayLen", desc := "([BI)B" } : Jvm.MethodName) jdk_52_method_15_code (2 : Nat) (Option.some Jvm.ClassFile.FieldType.byte), Jvm.Cond.code ({ cls := "com/example/modulog/modulog/model/Accessor$Target", name := "<init>", desc := "(Ljava/lang/String;I)V" } : Jvm.MethodName) prog_91_method_1_code (3 : Nat) (Option.none : Option Jvm.ClassFile.FieldType), Jvm.Cond.code ({ cls := "java/lang/Record", name := "<init>", desc := "()V" } : Jvm.MethodName) jdk_30_method_1_code (1 : Nat) (Option.none : Option Jvm.ClassFile.FieldType), Jvm.Cond.code ({ cls := "java/util/Objects", name := "requireNonNull", desc := "(Ljava/lang/Object;Ljava/lang/String;)Ljava/lang/Object;" } : Jvm.MethodName) jdk_31_method_11_code (2 : Nat) (Option.some (Jvm.ClassFile.FieldType.object "java/lang/Object")), Jvm.Cond.code ({ cls := "com/example/modulog/modulog/model/Accessor$Target", name := "isTester", desc := "()Z" } : Jvm.MethodName) prog_91_method_2_code (1 : Nat) (Option.some Jvm.ClassFile.FieldType.boolean), Jvm.Cond.code ({ cls := "com/example/modulog/modulog/model/Accessor$Target", name := "field", desc := "()I" } : Jvm.MethodName) prog_91_method_9_code (1 : Nat) (Option.some Jvm.ClassFile.FieldType.int), Jvm.Cond.code ({ cls := "java/lang/String", name := "valueOf", desc := "(C)Ljava/lang/String;" } : Jvm.MethodName) jdk_42_method_139_code (1 : Nat) (Option.some (Jvm.ClassFile.FieldType.object "java/lang/String")), Jvm.Cond.code ({ cls := "java/lang/StringLatin1", name := "canEncode", desc := "(C)Z" } : Jvm.MethodName) jdk_43_method_3_code (1 : Nat) (Option.some Jvm.ClassFile.FieldType.boolean), Jvm.Cond.code ({ cls := "java/lang/StringLatin1", name := "toBytes", desc := "(C)[B" } : Jvm.MethodName) jdk_43_method_46_code (1 : Nat) (Option.some (Jvm.ClassFile.FieldType.array Jvm.ClassFile.FieldType.byte)), Jvm.Cond.code ({ cls := "java/lang/String", name := "<init>", desc := "([BB)V" } : Jvm.MethodName) jdk_42_method_151_code (3 : Nat) (Option.none : Option Jvm.ClassFile.FieldType)]
set_option maxRecDepth 65536 in
theorem codes_eq : words1.filter isCode = codes1 := rfl
theorem w_codes : ∀ c ∈ words1.filter isCode, c.before args0 about1 = true := by
  rw [codes_eq]
  intro c hc
  simp only [codes1, List.mem_cons, List.not_mem_nil, or_false] at hc
  rcases hc with rfl | rfl | rfl | rfl | rfl | rfl | rfl | rfl | rfl | rfl | rfl | rfl | rfl | rfl | rfl | rfl
  · exact w_c0
  · exact w_c1
  · exact w_c2
  · exact w_c3
  · exact w_c4
  · exact w_c5
  · exact w_c6
  · exact w_c7
  · exact w_c8
  · exact w_c9
  · exact w_c10
  · exact w_c11
  · exact w_c12
  · exact w_c13
  · exact w_c14
  · exact w_c15
set_option maxRecDepth 65536 in
theorem w_t1 : (words1.take 24).all (fun c => isCode c || c.before args0 about1) = true := by decide +kernel
set_option maxRecDepth 65536 in
theorem w_t2 : ((words1.drop 24).take 24).all (fun c => isCode c || c.before args0 about1) = true := by decide +kernel
set_option maxRecDepth 65536 in
theorem w_t3 : (((words1.drop 24).drop 24).take 24).all (fun c => isCode c || c.before args0 about1) = true := by decide +kernel
set_option maxRecDepth 65536 in
theorem w_t4 : (((words1.drop 24).drop 24).drop 24).all (fun c => isCode c || c.before args0 about1) = true := by decide +kernel
theorem w_tables : (allAtoms (Jvm.Cond.code x code maxLocals ret :: tables_1)).before args0 about1 = true := by
  rw [allAtoms_all]
  show words1.all (fun c => c.before args0 about1) = true
  refine all_split ?_ w_codes
  rw [← List.take_append_drop 24 words1, List.all_append, w_t1, ← List.take_append_drop 24 (words1.drop 24), List.all_append, w_t2, ← List.take_append_drop 24 ((words1.drop 24).drop 24), List.all_append, w_t3, w_t4]
  rfl
set_option maxRecDepth 65536 in
theorem w_rest : rest_1_c.before args0 about1 = true := by decide +kernel
set_option maxRecDepth 65536 in
theorem w_case : (Jvm.Cond.and given_1 narrow_1).before args0 about1 = true := by decide +kernel
theorem w_applies : (headSpec (Jvm.Cond.code x code maxLocals ret :: tables_1) room_1).applies x e0.platform about1 = true :=
  (Spec.applies_iff w_frames).mpr ⟨w_running, w_runnable, w_alone, w_named, w_hears, w_ripe, w_room, w_tables⟩
theorem atStart : AtStart classFile x code maxLocals ret World_1 tables_1 room_1 Calls_1 rest_1 Pre_1 launch0 p0 e0 about1 theMethod args0 below0 :=
  ⟨lists_1, trivial, launch0.admits_env _ _ _, launch0.least_env, fairChoices_fair.cas, fairChoices_fair.clock, w_frames, w_args, w_heap, w_applies, trivial, w_rest, w_case⟩
end start1
theorem witness_1 : WitnessClaimed_1 := ⟨start1.p0, start1.e0, start1.about1, start1.theMethod, start1.args0, start1.below0, start1.atStart⟩
end Jvm.Pilot.@@N@@
