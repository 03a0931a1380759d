import JvmDerived
import JvmDerived.Pilot.@@N@@Statement
import JvmDerived.Pilot.@@N@@Code
set_option linter.unusedVariables false
set_option linter.unusedSimpArgs false
/- laws to paste: Road.backV, Road.eqW, Road.codOf (cut by pick.py; bodies as the Statement names them) -/
namespace Jvm.Pilot.@@N@@
namespace StrChars
open Jvm Sem ClassFile Op Lib Jvm.Stand Jvm.Free.XT Jvm.Free.ALB Jvm.Free.JM Jvm.Free
open Jvm.Lib.Cold (StaticIs)
/-- a char array whose places are chars -/
def Ch (a : Addr) (A : Cell) (U : State) : Prop := Arr .char a A U ∧ Typed .char A
theorem Ch.mv {a : Addr} {A : Cell} {U U' : State} (h : Ch a A U) (hal : U.vm.Alike U'.vm) (hh : U'.heap = U.heap) : Ch a A U' := ⟨h.1.mv hal hh, h.2⟩
theorem Ch.keep {a : Addr} {A : Cell} {U U' : State} (h : Ch a A U) (hal : U.vm.Alike U'.vm) (hk : U'.heap[a]? = some A) : Ch a A U' := ⟨h.1.keep hal hk, h.2⟩
/-- what place i of a char[]'s cell holds -/
def cv (A : Cell) (i : Nat) : Int32 := match A.slots[i]? with | some (.int x) => x | _ => 0
theorem Ch.get {a : Addr} {A : Cell} {U : State} (h : Ch a A U) {i : Nat} (hi : i < A.slots.size) : A.slots[i]? = some (.int (cv A i)) := by
  have e := Array.getElem?_eq_getElem hi
  have f := h.2 i _ e
  unfold cv; rw [e]
  generalize A.slots[i] = v at f
  cases v <;> simp [fits] at f ⊢
/-- the byte that i2b leaves of a char -/
def lo8 (x : Int32) : Int32 := x.toInt8.toInt32
theorem fits_lo8 (y : Int32) : fits .byte (.int (lo8 y)) = true := by
  have h1 := y.toInt8.le_toInt
  have h2 := y.toInt8.toInt_lt
  simp only [lo8, fits, Bool.and_eq_true, decide_eq_true_eq, Int32.le_iff_toInt_le, Int8.toInt_toInt32, show (-128 : Int32).toInt = -128 from by decide, show (127 : Int32).toInt = 127 from by decide]
  omega
/-- A' is A but that each place j of lo .. hi - 1 holds f j -/
def Laid (A A' : Cell) (lo hi : Nat) (f : Nat → Value) : Prop := A'.cls = A.cls ∧ A'.vm = A.vm ∧ A'.slots.size = A.slots.size ∧ ∀ i, A'.slots[i]? = if lo ≤ i ∧ i < hi then some (f i) else A.slots[i]?
theorem Laid.zero (A : Cell) (lo : Nat) (f : Nat → Value) : Laid A A lo (lo + 0) f := ⟨rfl, rfl, rfl, fun i => by rw [if_neg (by omega)]⟩
theorem Laid.step {A Ak : Cell} {lo k : Nat} {f : Nat → Value} {v : Value} (h : Laid A Ak lo k f) (hlo : lo ≤ k) (hk : k < Ak.slots.size) (hv : v = f k) : Laid A (Ak.setSlot k v) lo (k + 1) f := by
  refine ⟨h.1, h.2.1, by simpa [Cell.setSlot] using h.2.2.1, fun i => ?_⟩
  by_cases e : k = i
  · subst e; rw [Cell.slots_setSlot_self v hk, if_pos (by omega), hv]
  · rw [Cell.slots_setSlot_ne v e, h.2.2.2 i]
    by_cases q : lo ≤ i ∧ i < k
    · rw [if_pos q, if_pos (by omega)]
    · rw [if_neg q, if_neg (by omega)]
def U16 : String := "java/lang/StringUTF16"
namespace Cmp5
def yN : MethodName := ⟨"java/lang/StringUTF16", "compress", "([CI[BII)I"⟩
abbrev yB : ByteArray := jdk_52_method_21_code
theorem d0 : decode yB 0 = .ok (.iconst 0, 1) := by decide +kernel
theorem d1 : decode yB 1 = .ok (.istore 5, 2) := by decide +kernel
theorem d3 : decode yB 3 = .ok (.iload 5, 2) := by decide +kernel
theorem d5 : decode yB 5 = .ok (.iload 4, 2) := by decide +kernel
theorem d7 : decode yB 7 = .ok (.if_icmp (.ge) 37, 3) := by decide +kernel
theorem d10 : decode yB 10 = .ok (.aload_n 0, 1) := by decide +kernel
theorem d11 : decode yB 11 = .ok (.iload_n 1, 1) := by decide +kernel
theorem d12 : decode yB 12 = .ok (.caload, 1) := by decide +kernel
theorem d13 : decode yB 13 = .ok (.istore 6, 2) := by decide +kernel
theorem d15 : decode yB 15 = .ok (.iload 6, 2) := by decide +kernel
theorem d17 : decode yB 17 = .ok (.sipush 255, 3) := by decide +kernel
theorem d20 : decode yB 20 = .ok (.if_icmp (.le) 6, 3) := by decide +kernel
theorem d26 : decode yB 26 = .ok (.aload_n 2, 1) := by decide +kernel
theorem d27 : decode yB 27 = .ok (.iload_n 3, 1) := by decide +kernel
theorem d28 : decode yB 28 = .ok (.iload 6, 2) := by decide +kernel
theorem d30 : decode yB 30 = .ok (.i2b, 1) := by decide +kernel
theorem d31 : decode yB 31 = .ok (.bastore, 1) := by decide +kernel
theorem d32 : decode yB 32 = .ok (.iinc 1 1, 3) := by decide +kernel
theorem d35 : decode yB 35 = .ok (.iinc 3 1, 3) := by decide +kernel
theorem d38 : decode yB 38 = .ok (.iinc 5 1, 3) := by decide +kernel
theorem d41 : decode yB 41 = .ok (.goto (-38), 3) := by decide +kernel
theorem d44 : decode yB 44 = .ok (.iload 4, 2) := by decide +kernel
theorem d46 : decode yB 46 = .ok (.ireturn, 1) := by decide +kernel
def site : List Cond := []
def tab : Cond := tabOf yN yB 7 (some .int) site
def P (b : Addr) (A : Cell) (d : Addr) (B : Cell) (o q len : Nat) (args : Array Value) (s : State) : Prop := args = #[.ref b, .int (Int32.ofNat o), .ref d, .int (Int32.ofNat q), .int (Int32.ofNat len)] ∧ Ch b A s ∧ Arr .byte d B s ∧ b ≠ d ∧ o + len ≤ A.slots.size ∧ q + len ≤ B.slots.size ∧ ∀ i, i < len → ¬ 255 < cv A (o + i)
def E (b : Addr) (A : Cell) (d : Addr) (B : Cell) (o q len : Nat) (r : Option Value) (s u : State) : Prop := r = some (.int (Int32.ofNat len)) ∧ ∃ B', Put d B' s u ∧ Laid B B' q (q + len) (fun j => Value.int (lo8 (cv A (o + (j - q)))))
/-- no char of the range above 255: len; the places written hold each char's low byte -/
theorem law (l : Launch) (b : Addr) (A : Cell) (d : Addr) (B : Cell) (o q len : Nat) : Law l yN 5 5 0 0 yB 7 (some .int) site (P b A d B o q len) (E b A d B o q len) (copyLocs d q len) 0 0 := by
  refine Law.of_walk (plainFor_of_name (by decide +kernel)) (by decide +kernel) (by decide +kernel) (by decide) (fun _ _ h => by rw [h.1]; rfl) (fun _ U U' hal hh h => ⟨h.1, h.2.1.mv hal hh, h.2.2.1.mv hal hh, h.2.2.2⟩) (fun r U U' V V' h1 hal h2 h => ⟨h.1, h.2.elim fun B' q => ⟨B', q.1.mv h1 h2, q.2⟩⟩) ?_
  intro p e s m args below meth c s₁ X0 hexec hbytes hml hret hlk hnm hown hh0 W hP
  obtain ⟨rfl, hA, hB, hne, l1, l2, hp⟩ := hP
  have c1 : Steps p.tables e below (s₁.setTop (entryFrame m #[.ref b, .int (Int32.ofNat o), .ref d, .int (Int32.ofNat q), .int (Int32.ofNat len)] 7)) (s₁.setTop (mkF m 0 #[.val (.ref b), .val (.int (Int32.ofNat o)), .val (.ref d), .val (.int (Int32.ofNat q)), .val (.int (Int32.ofNat len)), .unset, .unset] [])) := entry rfl
  have hA0 := hA.1.mv X0.warmed.alike hh0
  have hB0 := hB.mv X0.warmed.alike hh0
  have a31 := hA.1.2.2.2
  have c2 : Steps p.tables e below (s₁.setTop (entryFrame m #[.ref b, .int (Int32.ofNat o), .ref d, .int (Int32.ofNat q), .int (Int32.ofNat len)] 7)) (s₁.setTop (mkF m 3 #[.val (.ref b), .val (.int (Int32.ofNat o)), .val (.ref d), .val (.int (Int32.ofNat q)), .val (.int (Int32.ofNat len)), .val (.int 0), .unset] [])) := c1.trans (by
    refine iconstV X0.here hexec rfl 0 (hb hbytes d0) (by decide) ?_
    refine XS.istore X0.here hexec rfl (hb hbytes d1) rfl rfl ?_
    exact Steps.refl _)
  have loop : ∀ (r i : Nat), i + r = len → ∀ (z : Slot), (z = .unset ∨ ∃ w, z = .val w ∧ w.category = 1) → ∀ (Tl : State) (Bk : Cell), Stand p l e { frames := 0, locals := 0, cells := 0, slots := 0 } s m #[.ref b, .int (Int32.ofNat o), .ref d, .int (Int32.ofNat q), .int (Int32.ofNat len)] below meth c Tl ([] ++ copyLocs d q i) 0 0 → Put d Bk s₁ Tl → Laid B Bk q (q + i) (fun j => Value.int (lo8 (cv A (o + (j - q))))) →
      Steps p.tables e below (s₁.setTop (entryFrame m #[.ref b, .int (Int32.ofNat o), .ref d, .int (Int32.ofNat q), .int (Int32.ofNat len)] 7)) (Tl.setTop (mkF m 3 #[.val (.ref b), .val (.int (Int32.ofNat (o + i))), .val (.ref d), .val (.int (Int32.ofNat (q + i))), .val (.int (Int32.ofNat len)), .val (.int (Int32.ofNat i)), z] [])) → ∃ (T' : State) (B' : Cell) (z' : Slot), Stand p l e { frames := 0, locals := 0, cells := 0, slots := 0 } s m #[.ref b, .int (Int32.ofNat o), .ref d, .int (Int32.ofNat q), .int (Int32.ofNat len)] below meth c T' ([] ++ copyLocs d q len) 0 0 ∧ Put d B' s₁ T' ∧ Laid B B' q (q + len) (fun j => Value.int (lo8 (cv A (o + (j - q))))) ∧
      Steps p.tables e below (s₁.setTop (entryFrame m #[.ref b, .int (Int32.ofNat o), .ref d, .int (Int32.ofNat q), .int (Int32.ofNat len)] 7)) (T'.setTop (mkF m 3 #[.val (.ref b), .val (.int (Int32.ofNat (o + len))), .val (.ref d), .val (.int (Int32.ofNat (q + len))), .val (.int (Int32.ofNat len)), .val (.int (Int32.ofNat len)), z'] [])) := by
    intro r
    induction r with
    | zero =>
      intro i hi z hz Tl Bk Xl pl fl cl
      have hil : i = len := by omega
      rw [hil] at Xl fl cl
      exact ⟨Tl, Bk, z, Xl, pl, fl, cl⟩
    | succ r ih =>
      intro i hi z hz Tl Bk Xl pl fl cl
      have all := X0.warmed.alike.symm.trans Xl.warmed.alike
      have hAl := hA0.keep all (pl.other hne hA0.1)
      have hBk := hB0.like all pl.1 fl.1 fl.2.1 fl.2.2.1
      have hlt : q + i < Bk.slots.size := by rw [fl.2.2.1]; omega
      have c3 : Steps p.tables e below (s₁.setTop (entryFrame m #[.ref b, .int (Int32.ofNat o), .ref d, .int (Int32.ofNat q), .int (Int32.ofNat len)] 7)) (Tl.setTop (mkF m 12 #[.val (.ref b), .val (.int (Int32.ofNat (o + i))), .val (.ref d), .val (.int (Int32.ofNat (q + i))), .val (.int (Int32.ofNat len)), .val (.int (Int32.ofNat i)), z] [.int (Int32.ofNat (o + i)), .ref b])) := cl.trans (by
        refine XS.iload Xl.here hexec rfl (hb hbytes d3) rfl ?_
        refine XS.iload Xl.here hexec rfl (hb hbytes d5) rfl ?_
        refine XS.icmpNo Xl.here hexec rfl (hb hbytes d7) rfl (ii_ge_f (lt32 (by omega) (by omega))) ?_
        refine XS.aloadN Xl.here hexec rfl (hb hbytes d10) rfl rfl ?_
        refine XS.iloadN Xl.here hexec rfl (hb hbytes d11) rfl ?_
        exact Steps.refl _)
      have c4 : Steps p.tables e below (s₁.setTop (entryFrame m #[.ref b, .int (Int32.ofNat o), .ref d, .int (Int32.ofNat q), .int (Int32.ofNat len)] 7)) (Tl.setTop (mkF m 13 #[.val (.ref b), .val (.int (Int32.ofNat (o + i))), .val (.ref d), .val (.int (Int32.ofNat (q + i))), .val (.int (Int32.ofNat len)), .val (.int (Int32.ofNat i)), z] [.int (cv A (o + i))])) := c3.trans (by
        refine Xl.aget hexec hAl rfl (hA.get (i := o + i) (by omega)) rfl rfl (hb hbytes d12) ?_
        exact Steps.refl _)
      have c5 : Steps p.tables e below (s₁.setTop (entryFrame m #[.ref b, .int (Int32.ofNat o), .ref d, .int (Int32.ofNat q), .int (Int32.ofNat len)] 7)) (Tl.setTop (mkF m 15 #[.val (.ref b), .val (.int (Int32.ofNat (o + i))), .val (.ref d), .val (.int (Int32.ofNat (q + i))), .val (.int (Int32.ofNat len)), .val (.int (Int32.ofNat i)), .val (.int (cv A (o + i)))] [])) := c4.trans (by
        refine XS.istoreS Xl.here hexec rfl (hb hbytes d13) rfl rfl hz ?_
        exact Steps.refl _)
      have c6 : Steps p.tables e below (s₁.setTop (entryFrame m #[.ref b, .int (Int32.ofNat o), .ref d, .int (Int32.ofNat q), .int (Int32.ofNat len)] 7)) (Tl.setTop (mkF m 31 #[.val (.ref b), .val (.int (Int32.ofNat (o + i))), .val (.ref d), .val (.int (Int32.ofNat (q + i))), .val (.int (Int32.ofNat len)), .val (.int (Int32.ofNat i)), .val (.int (cv A (o + i)))] [.int (lo8 (cv A (o + i))), .int (Int32.ofNat (q + i)), .ref d])) := c5.trans (by
        refine XS.iload Xl.here hexec rfl (hb hbytes d15) rfl ?_
        refine sipushV Xl.here hexec rfl 255 (hb hbytes d17) (by decide) ?_
        refine XS.icmpYes Xl.here hexec rfl (pc0 := 20) rfl (hb hbytes d20) rfl (ii_le_t (hp i (by omega))) (by decide) rfl ?_
        refine XS.aloadN Xl.here hexec rfl (hb hbytes d26) rfl rfl ?_
        refine XS.iloadN Xl.here hexec rfl (hb hbytes d27) rfl ?_
        refine XS.iload Xl.here hexec rfl (hb hbytes d28) rfl ?_
        refine i2b Xl.here hexec rfl (hb hbytes d30) rfl ?_
        exact Steps.refl _)
      obtain ⟨T7, X7, p7, st7⟩ := Xl.aput hexec hBk rfl hlt rfl (fits_lo8 (cv A (o + i))) (g := (mkF m 31 #[.val (.ref b), .val (.int (Int32.ofNat (o + i))), .val (.ref d), .val (.int (Int32.ofNat (q + i))), .val (.int (Int32.ofNat len)), .val (.int (Int32.ofNat i)), .val (.int (cv A (o + i)))] [.int (lo8 (cv A (o + i))), .int (Int32.ofNat (q + i)), .ref d])) rfl (rest := []) rfl (hb hbytes d31)
      have c8 : Steps p.tables e below (s₁.setTop (entryFrame m #[.ref b, .int (Int32.ofNat o), .ref d, .int (Int32.ofNat q), .int (Int32.ofNat len)] 7)) (T7.setTop (mkF m 32 #[.val (.ref b), .val (.int (Int32.ofNat (o + i))), .val (.ref d), .val (.int (Int32.ofNat (q + i))), .val (.int (Int32.ofNat len)), .val (.int (Int32.ofNat i)), .val (.int (cv A (o + i)))] [])) := c6.trans (st7 _ (Steps.refl _))
      have c9 : Steps p.tables e below (s₁.setTop (entryFrame m #[.ref b, .int (Int32.ofNat o), .ref d, .int (Int32.ofNat q), .int (Int32.ofNat len)] 7)) (T7.setTop (mkF m 3 #[.val (.ref b), .val (.int (Int32.ofNat (o + i) + 1)), .val (.ref d), .val (.int (Int32.ofNat (q + i) + 1)), .val (.int (Int32.ofNat len)), .val (.int (Int32.ofNat i + 1)), .val (.int (cv A (o + i)))] [])) := c8.trans (by
        refine iincV X7.here hexec rfl 1 (hb hbytes d32) (by decide) rfl rfl ?_
        refine iincV X7.here hexec rfl 1 (hb hbytes d35) (by decide) rfl rfl ?_
        refine iincV X7.here hexec rfl 1 (hb hbytes d38) (by decide) rfl rfl ?_
        refine XS.goto X7.here hexec rfl (pc0 := 41) rfl (hb hbytes d41) (by decide) rfl ?_
        exact Steps.refl _)
      have c10 : Steps p.tables e below (s₁.setTop (entryFrame m #[.ref b, .int (Int32.ofNat o), .ref d, .int (Int32.ofNat q), .int (Int32.ofNat len)] 7)) (T7.setTop (mkF m 3 #[.val (.ref b), .val (.int (Int32.ofNat (o + (i + 1)))), .val (.ref d), .val (.int (Int32.ofNat (q + (i + 1)))), .val (.int (Int32.ofNat len)), .val (.int (Int32.ofNat (i + 1))), .val (.int (cv A (o + i)))] [])) := by
        have := c9
        rw [succ32, succ32, succ32] at this
        exact this
      exact ih (i + 1) (by omega) _ (Or.inr ⟨_, rfl, rfl⟩) T7 _ (by rw [copyLocs_step, ← List.append_assoc]; exact X7) (pl.trans p7) (fl.step (by omega) hlt (by simp)) c10
  obtain ⟨T9, B9, z9, X9, p9, f9, g9⟩ := loop len 0 (by omega) .unset (Or.inl rfl) s₁ B (by simpa [copyLocs] using X0) ⟨hB0.1, fun _ _ => rfl, rfl⟩ (Laid.zero _ _ _) c2
  have c11 : Steps p.tables e below (s₁.setTop (entryFrame m #[.ref b, .int (Int32.ofNat o), .ref d, .int (Int32.ofNat q), .int (Int32.ofNat len)] 7)) (T9.setTop (mkF m 46 #[.val (.ref b), .val (.int (Int32.ofNat (o + len))), .val (.ref d), .val (.int (Int32.ofNat (q + len))), .val (.int (Int32.ofNat len)), .val (.int (Int32.ofNat len)), z9] [.int (Int32.ofNat len)])) := g9.trans (by
    refine XS.iload X9.here hexec rfl (hb hbytes d3) rfl ?_
    refine XS.iload X9.here hexec rfl (hb hbytes d5) rfl ?_
    refine XS.icmpYes X9.here hexec rfl (pc0 := 7) rfl (hb hbytes d7) rfl (ii_ge_t (nlt32 (by omega) (Nat.le_refl _))) (by decide) rfl ?_
    refine XS.iload X9.here hexec rfl (hb hbytes d44) rfl ?_
    exact Steps.refl _)
  exact ⟨T9, some (.int (Int32.ofNat len)), _, _, _, X9, by simp, rfl, rfl, (fun h => by cases h), ⟨rfl, B9, p9.from hh0, f9⟩, fun fs hl => c11.trans (X9.ireturnOut hexec hret rfl (Or.inl rfl) (hb hbytes d46) hl)⟩
end Cmp5
namespace Cmp3
def yN : MethodName := ⟨"java/lang/StringUTF16", "compress", "([CII)[B"⟩
abbrev yB : ByteArray := jdk_52_method_16_code
theorem d0 : decode yB 0 = .ok (.iload_n 2, 1) := by decide +kernel
theorem d1 : decode yB 1 = .ok (.newarray .byte, 2) := by decide +kernel
theorem d3 : decode yB 3 = .ok (.astore_n 3, 1) := by decide +kernel
theorem d4 : decode yB 4 = .ok (.aload_n 0, 1) := by decide +kernel
theorem d5 : decode yB 5 = .ok (.iload_n 1, 1) := by decide +kernel
theorem d6 : decode yB 6 = .ok (.aload_n 3, 1) := by decide +kernel
theorem d7 : decode yB 7 = .ok (.iconst 0, 1) := by decide +kernel
theorem d8 : decode yB 8 = .ok (.iload_n 2, 1) := by decide +kernel
theorem d9 : decode yB 9 = .ok (.invokestatic 115, 3) := by decide +kernel
theorem d12 : decode yB 12 = .ok (.istore 4, 2) := by decide +kernel
theorem d14 : decode yB 14 = .ok (.iload 4, 2) := by decide +kernel
theorem d16 : decode yB 16 = .ok (.iload_n 2, 1) := by decide +kernel
theorem d17 : decode yB 17 = .ok (.if_icmp (.eq) 40, 3) := by decide +kernel
theorem d57 : decode yB 57 = .ok (.aload_n 3, 1) := by decide +kernel
theorem d58 : decode yB 58 = .ok (.areturn, 1) := by decide +kernel
def site : List Cond := [.arrayClass .byte, Cmp5.tab] ++ staticW U16 115 Cmp5.yN
def tab : Cond := tabOf yN yB 6 (some (.array .byte)) site
def P (b : Addr) (A : Cell) (o len : Nat) (args : Array Value) (s : State) : Prop := args = #[.ref b, .int (Int32.ofNat o), .int (Int32.ofNat len)] ∧ Ch b A s ∧ o + len ≤ A.slots.size ∧ len ≤ 536870912 ∧ ∀ i, i < len → ¬ 255 < cv A (o + i)
def E (b : Addr) (A : Cell) (o len : Nat) (r : Option Value) (s u : State) : Prop := NewArr .byte "[B" len (fun j => .int (lo8 (cv A (o + j)))) r s u ∧ u.heap.size = s.heap.size + 1
/-- no char of the range above 255: a new byte[] of their low bytes -/
theorem law (l : Launch) (b : Addr) (A : Cell) (o len : Nat) : Law l yN 3 3 1 18 yB 6 (some (.array .byte)) site (P b A o len) (E b A o len) [] 1 len := by
  refine Law.of_walk (plainFor_of_name (by decide +kernel)) (by decide +kernel) (by decide +kernel) (by decide) (fun _ _ h => by rw [h.1]; rfl) (fun _ U U' hal hh h => ⟨h.1, h.2.1.mv hal hh, h.2.2⟩) (fun r U U' V V' h1 hal h2 h => ⟨NewArr.mv r U U' V V' h1 hal h2 h.1, by rw [h1, h2]; exact h.2⟩) ?_
  intro p e s m args below meth c s₁ X0 hexec hbytes hml hret hlk hnm hown hh0 W hP
  obtain ⟨rfl, hA, l1, l2, hp⟩ := hP
  have a31 := hA.1.2.2.2
  have c1 : Steps p.tables e below (s₁.setTop (entryFrame m #[.ref b, .int (Int32.ofNat o), .int (Int32.ofNat len)] 6)) (s₁.setTop (mkF m 0 #[.val (.ref b), .val (.int (Int32.ofNat o)), .val (.int (Int32.ofNat len)), .unset, .unset, .unset] [])) := entry rfl
  have c2 : Steps p.tables e below (s₁.setTop (entryFrame m #[.ref b, .int (Int32.ofNat o), .int (Int32.ofNat len)] 6)) (s₁.setTop (mkF m 1 #[.val (.ref b), .val (.int (Int32.ofNat o)), .val (.int (Int32.ofNat len)), .unset, .unset, .unset] [.int (Int32.ofNat len)])) := c1.trans (by
    refine XS.iloadN X0.here hexec rfl (hb hbytes d0) rfl ?_
    exact Steps.refl _)
  obtain ⟨T3, B3, X3, ba3, bs3, bv3, bh3, bf3, st3⟩ := X0.anew hexec (atype := .byte) (wk W (.arrayClass .byte)) rfl (by show len * 1 ≤ _; omega) (by omega) (g := (mkF m 1 #[.val (.ref b), .val (.int (Int32.ofNat o)), .val (.int (Int32.ofNat len)), .unset, .unset, .unset] [.int (Int32.ofNat len)])) rfl (hb hbytes d1) (rest := []) rfl (Nat.le_refl _) (by show 0 + len ≤ len; omega)
  rw [hh0] at ba3 st3
  have kp3 : XT.Kept s T3 := (XT.Kept.of_eq hh0).push bh3
  have hA3 := hA.keep X3.warmed.alike (kp3 _ _ hA.1.1)
  have hne : b ≠ s.heap.size := hA.1.ne
  have c4 : Steps p.tables e below (s₁.setTop (entryFrame m #[.ref b, .int (Int32.ofNat o), .int (Int32.ofNat len)] 6)) (T3.setTop (mkF m 3 #[.val (.ref b), .val (.int (Int32.ofNat o)), .val (.int (Int32.ofNat len)), .unset, .unset, .unset] [.ref s.heap.size])) := c2.trans (st3 _ (Steps.refl _))
  have c5 : Steps p.tables e below (s₁.setTop (entryFrame m #[.ref b, .int (Int32.ofNat o), .int (Int32.ofNat len)] 6)) (T3.setTop (mkF m 9 #[.val (.ref b), .val (.int (Int32.ofNat o)), .val (.int (Int32.ofNat len)), .val (.ref s.heap.size), .unset, .unset] [.int (Int32.ofNat len), .int 0, .ref s.heap.size, .int (Int32.ofNat o), .ref b])) := c4.trans (by
    refine XS.astoreN X3.here hexec rfl (hb hbytes d3) rfl rfl rfl ?_
    refine XS.aloadN X3.here hexec rfl (hb hbytes d4) rfl rfl ?_
    refine XS.iloadN X3.here hexec rfl (hb hbytes d5) rfl ?_
    refine XS.aloadN X3.here hexec rfl (hb hbytes d6) rfl rfl ?_
    refine iconstV X3.here hexec rfl 0 (hb hbytes d7) (by decide) ?_
    refine XS.iloadN X3.here hexec rfl (hb hbytes d8) rfl ?_
    exact Steps.refl _)
  obtain ⟨v6, T6, X6, E6, g6⟩ := X3.callS hexec (Cmp5.law l b A s.heap.size B3 o 0 len) hown (wks W (staticW U16 115 Cmp5.yN)) (wk W Cmp5.tab) (W := 0) (Nat.le_of_ble_eq_true rfl) (Nat.le_of_ble_eq_true rfl) (Nat.le_refl _) (by show 0 + len + 0 ≤ len; omega) (g := (mkF m 9 #[.val (.ref b), .val (.int (Int32.ofNat o)), .val (.int (Int32.ofNat len)), .val (.ref s.heap.size), .unset, .unset] [.int (Int32.ofNat len), .int (Int32.ofNat 0), .ref s.heap.size, .int (Int32.ofNat o), .ref b])) rfl (by rw [hml]; rfl) c5 (argsL := [.ref b, .int (Int32.ofNat o), .ref s.heap.size, .int (Int32.ofNat 0), .int (Int32.ofNat len)]) (rest := []) rfl rfl (by show 2 * 0 + 0 ≤ _; decide) (hb hbytes d9) (⟨rfl, hA3, ba3, hne, l1, by rw [bs3]; simp, hp⟩)
  obtain ⟨rfl, B6, p6, f6⟩ := E6
  have c7 : Steps p.tables e below (s₁.setTop (entryFrame m #[.ref b, .int (Int32.ofNat o), .int (Int32.ofNat len)] 6)) (T6.setTop (mkF m 12 #[.val (.ref b), .val (.int (Int32.ofNat o)), .val (.int (Int32.ofNat len)), .val (.ref s.heap.size), .unset, .unset] [.int (Int32.ofNat len)])) := g6
  have c8 : Steps p.tables e below (s₁.setTop (entryFrame m #[.ref b, .int (Int32.ofNat o), .int (Int32.ofNat len)] 6)) (T6.setTop (mkF m 58 #[.val (.ref b), .val (.int (Int32.ofNat o)), .val (.int (Int32.ofNat len)), .val (.ref s.heap.size), .val (.int (Int32.ofNat len)), .unset] [.ref s.heap.size])) := c7.trans (by
    refine XS.istore X6.here hexec rfl (hb hbytes d12) rfl rfl ?_
    refine XS.iload X6.here hexec rfl (hb hbytes d14) rfl ?_
    refine XS.iloadN X6.here hexec rfl (hb hbytes d16) rfl ?_
    refine XS.icmpYes X6.here hexec rfl (pc0 := 17) rfl (hb hbytes d17) rfl (ii_eq_t rfl) (by decide) rfl ?_
    refine XS.aloadN X6.here hexec rfl (hb hbytes d57) rfl rfl ?_
    exact Steps.refl _)
  have X8 := X6.wide (L' := []) (cells' := 1) (slots' := len) (fun x hx hlt => by
    simp only [List.nil_append, copyLocs, List.mem_map, List.mem_range] at hx
    obtain ⟨i, -, rfl⟩ := hx
    exact absurd hlt (Nat.lt_irrefl _)) (Nat.le_refl _) (by omega)
  exact ⟨T6, some (.ref s.heap.size), _, _, _, X8, rfl, rfl, rfl, (fun h => by cases h), ⟨⟨rfl, B6, ba3.like (X3.warmed.alike.symm.trans X6.warmed.alike) p6.1 f6.1 f6.2.1 f6.2.2.1, f6.2.1.trans bv3, by rw [X6.warmed.alike.findClass, f6.1]; exact bf3, by rw [f6.2.2.1, bs3]; simp, fun j hj => by rw [f6.2.2.2 j, if_pos (by omega)]; rfl, kp3.put p6 (Nat.le_refl _)⟩, by rw [p6.2.2, bh3, hh0]; simp⟩, fun fs hl => c8.trans (X8.areturnOut hexec rfl hret rfl (hb hbytes d58) hl)⟩
end Cmp3
namespace CodL
def yN : MethodName := ⟨"java/lang/StringUTF16", "coderFromArrayLen", "([BI)B"⟩
abbrev yB : ByteArray := jdk_52_method_15_code
theorem d0 : decode yB 0 = .ok (.iload_n 1, 1) := by decide +kernel
theorem d1 : decode yB 1 = .ok (.aload_n 0, 1) := by decide +kernel
theorem d2 : decode yB 2 = .ok (.arraylength, 1) := by decide +kernel
theorem d3 : decode yB 3 = .ok (.isub, 1) := by decide +kernel
theorem d4 : decode yB 4 = .ok (.bipush 31, 2) := by decide +kernel
theorem d6 : decode yB 6 = .ok (.iushr, 1) := by decide +kernel
theorem d7 : decode yB 7 = .ok (.i2b, 1) := by decide +kernel
theorem d8 : decode yB 8 = .ok (.ireturn, 1) := by decide +kernel
def site : List Cond := []
def tab : Cond := tabOf yN yB 2 (some .byte) site
def P (d : Addr) (B : Cell) (args : Array Value) (s : State) : Prop := args = #[.ref d, .int (Int32.ofNat B.slots.size)] ∧ Arr .byte d B s
def E (r : Option Value) (s u : State) : Prop := XT.PureE (some (.int 0)) r s u
/-- an array as long as the number of chars: LATIN1 -/
theorem law (l : Launch) (d : Addr) (B : Cell) : Law l yN 2 2 0 0 yB 2 (some .byte) site (P d B) E [] 0 0 := by
  refine Law.of_walk (plainFor_of_name (by decide +kernel)) (by decide +kernel) (by decide +kernel) (by decide) (fun _ _ h => by rw [h.1]; rfl) (fun _ U U' hal hh h => ⟨h.1, h.2.mv hal hh⟩) (fun r U U' V V' h1 hal h2 h => XT.PureE.mv r U U' V V' h1 hal h2 h) ?_
  intro p e s m args below meth c s₁ X0 hexec hbytes hml hret hlk hnm hown hh0 W hP
  obtain ⟨rfl, hB⟩ := hP
  have hB0 := hB.mv X0.warmed.alike hh0
  have c1 : Steps p.tables e below (s₁.setTop (entryFrame m #[.ref d, .int (Int32.ofNat B.slots.size)] 2)) (s₁.setTop (mkF m 0 #[.val (.ref d), .val (.int (Int32.ofNat B.slots.size))] [])) := entry rfl
  have c2 : Steps p.tables e below (s₁.setTop (entryFrame m #[.ref d, .int (Int32.ofNat B.slots.size)] 2)) (s₁.setTop (mkF m 2 #[.val (.ref d), .val (.int (Int32.ofNat B.slots.size))] [.ref d, .int (Int32.ofNat B.slots.size)])) := c1.trans (by
    refine XS.iloadN X0.here hexec rfl (hb hbytes d0) rfl ?_
    refine XS.aloadN X0.here hexec rfl (hb hbytes d1) rfl rfl ?_
    exact Steps.refl _)
  have c3 : Steps p.tables e below (s₁.setTop (entryFrame m #[.ref d, .int (Int32.ofNat B.slots.size)] 2)) (s₁.setTop (mkF m 8 #[.val (.ref d), .val (.int (Int32.ofNat B.slots.size))] [.int (lo8 (ushr (Int32.ofNat B.slots.size - Int32.ofNat B.slots.size) 31))])) := c2.trans (by
    refine X0.alen hexec hB0 rfl rfl (hb hbytes d2) ?_
    refine XS.isub X0.here hexec rfl (hb hbytes d3) rfl ?_
    refine bipushV X0.here hexec rfl 31 (hb hbytes d4) (by decide) ?_
    refine iushr X0.here hexec rfl (hb hbytes d6) rfl ?_
    refine i2b X0.here hexec rfl (hb hbytes d7) rfl ?_
    exact Steps.refl _)
  have e0 : lo8 (ushr (Int32.ofNat B.slots.size - Int32.ofNat B.slots.size) 31) = 0 := by rw [Int32.sub_self]; decide
  rw [e0] at c3
  exact ⟨s₁, some (.int 0), _, _, _, X0, rfl, rfl, rfl, (fun h => by cases h), ⟨rfl, hh0⟩, fun fs hl => c3.trans (X0.ireturnOut hexec hret rfl (Or.inr (Or.inr (Or.inl rfl))) (hb hbytes d8) hl)⟩
end CodL
/-- the String at a is Latin-1 over a new byte[] (the heap's one new cell): the low bytes of the len chars of A from o on; every cell but a is kept -/
def Got (a : Addr) (D : Cell) (fV fC : Field) (A : Cell) (o len : Nat) (r : Option Value) (s u : State) : Prop := r = none ∧ ∃ D' V : Cell, Blank "java/lang/String" a D' u ∧ Same D D' [fV.slot, fC.slot] ∧ D'.slots[fV.slot]? = some (.ref s.heap.size) ∧ D'.slots[fC.slot]? = some (.int 0) ∧ Arr .byte s.heap.size V u ∧ V.vm = .none ∧ u.vm.findClass "[B" = some V.cls ∧ V.slots.size = len ∧ (∀ j, j < len → V.slots[j]? = some (.int (lo8 (cv A (o + j))))) ∧ (∀ (y : Addr) (c : Cell), y ≠ a → s.heap[y]? = some c → u.heap[y]? = some c) ∧ u.heap.size = s.heap.size + 1
theorem Got.mv {a : Addr} {D A : Cell} {fV fC : Field} {o len : Nat} : ∀ r (U U' V V' : State), U'.heap = U.heap → V.vm.Alike V'.vm → V'.heap = V.heap → Got a D fV fC A o len r U V → Got a D fV fC A o len r U' V' :=
  fun r U U' V V' h1 hal h2 ⟨e0, D', X, a1, a2, a3, a4, a5, a6, a7, a8, a9, a10, a11⟩ => ⟨e0, D', X, a1.mv hal h2, a2, by rw [h1]; exact a3, a4, by rw [h1]; exact a5.mv hal h2, a6, by rw [hal.findClass]; exact a7, a8, a9, by rw [h1, h2]; exact a10, by rw [h1, h2]; exact a11⟩
namespace New4
def yN : MethodName := ⟨"java/lang/String", "<init>", "([CIILjava/lang/Void;)V"⟩
abbrev yB : ByteArray := jdk_42_method_149_code
theorem d0 : decode yB 0 = .ok (.aload_n 0, 1) := by decide +kernel
theorem d1 : decode yB 1 = .ok (.invokespecial 1, 3) := by decide +kernel
theorem d4 : decode yB 4 = .ok (.iload_n 3, 1) := by decide +kernel
theorem d5 : decode yB 5 = .ok (.ifCond (.ne) 22, 3) := by decide +kernel
theorem d27 : decode yB 27 = .ok (.getstatic 38, 3) := by decide +kernel
theorem d30 : decode yB 30 = .ok (.ifCond (.eq) 28, 3) := by decide +kernel
theorem d33 : decode yB 33 = .ok (.aload_n 1, 1) := by decide +kernel
theorem d34 : decode yB 34 = .ok (.iload_n 2, 1) := by decide +kernel
theorem d35 : decode yB 35 = .ok (.iload_n 3, 1) := by decide +kernel
theorem d36 : decode yB 36 = .ok (.invokestatic 177, 3) := by decide +kernel
theorem d39 : decode yB 39 = .ok (.astore 5, 2) := by decide +kernel
theorem d41 : decode yB 41 = .ok (.aload_n 0, 1) := by decide +kernel
theorem d42 : decode yB 42 = .ok (.aload 5, 2) := by decide +kernel
theorem d44 : decode yB 44 = .ok (.iload_n 3, 1) := by decide +kernel
theorem d45 : decode yB 45 = .ok (.invokestatic 47, 3) := by decide +kernel
theorem d48 : decode yB 48 = .ok (.putfield 15, 3) := by decide +kernel
theorem d51 : decode yB 51 = .ok (.aload_n 0, 1) := by decide +kernel
theorem d52 : decode yB 52 = .ok (.aload 5, 2) := by decide +kernel
theorem d54 : decode yB 54 = .ok (.putfield 9, 3) := by decide +kernel
theorem d57 : decode yB 57 = .ok (.return_, 1) := by decide +kernel
def site : List Cond := [.fieldLink "java/lang/String" 38 "java/lang/String" "COMPACT_STRINGS" "Z", Cmp3.tab, CodL.tab, .laysFinal "java/lang/String" "java/lang/String" "value" "[B", .fieldLink "java/lang/String" 9 "java/lang/String" "value" "[B", .laysFinal "java/lang/String" "java/lang/String" "coder" "B", .fieldLink "java/lang/String" 15 "java/lang/String" "coder" "B"] ++ objW "java/lang/String" 1 ++ staticW "java/lang/String" 177 Cmp3.yN ++ staticW "java/lang/String" 47 CodL.yN
def tab : Cond := tabOf yN yB 6 none site
def P (a : Addr) (D : Cell) (fV fC : Field) (b : Addr) (A : Cell) (z : Int32) (o len : Nat) (args : Array Value) (s : State) : Prop := args = #[.ref a, .ref b, .int (Int32.ofNat o), .int (Int32.ofNat len), .null] ∧ Blank "java/lang/String" a D s ∧ Found "java/lang/String" "value" "[B" fV s ∧ Found "java/lang/String" "coder" "B" fC s ∧ Ch b A s ∧ StaticIs s "java/lang/String" "COMPACT_STRINGS" "Z" (.int z) ∧ ¬ z = 0 ∧ 0 < len ∧ o + len ≤ A.slots.size ∧ len ≤ 536870912 ∧ ∀ i, i < len → ¬ 255 < cv A (o + i)
def E (a : Addr) (D : Cell) (fV fC : Field) (A : Cell) (o len : Nat) (r : Option Value) (s u : State) : Prop := Got a D fV fC A o len r s u
/-- len > 0, no char of the range above 255: a Latin-1 String of their low bytes -/
theorem law (l : Launch) (a : Addr) (D : Cell) (fV fC : Field) (b : Addr) (A : Cell) (z : Int32) (o len : Nat) : Law l yN 5 4 2 35 yB 6 none site (P a D fV fC b A z o len) (E a D fV fC A o len) [⟨a, fC.slot⟩, ⟨a, fV.slot⟩] 1 len := by
  refine Law.of_walk (plainFor_of_name (by decide +kernel)) (by decide +kernel) (by decide +kernel) (by decide) (fun _ _ h => by rw [h.1]; rfl) (fun _ U U' hal hh h => ⟨h.1, h.2.1.mv hal hh, h.2.2.1.al hal, h.2.2.2.1.al hal, h.2.2.2.2.1.mv hal hh, h.2.2.2.2.2.1.there hal hh, h.2.2.2.2.2.2⟩) (fun r U U' V V' h1 hal h2 h => Got.mv r U U' V V' h1 hal h2 h) ?_
  intro p e s m args below meth c s₁ X0 hexec hbytes hml hret hlk hnm hown hh0 W hP
  obtain ⟨rfl, hB, f1, f2, hA, s1, hz, l0, l1, l2, hp⟩ := hP
  have a31 := hA.1.2.2.2
  have c1 : Steps p.tables e below (s₁.setTop (entryFrame m #[.ref a, .ref b, .int (Int32.ofNat o), .int (Int32.ofNat len), .null] 6)) (s₁.setTop (mkF m 0 #[.val (.ref a), .val (.ref b), .val (.int (Int32.ofNat o)), .val (.int (Int32.ofNat len)), .val .null, .unset] [])) := entry rfl
  have c2 : Steps p.tables e below (s₁.setTop (entryFrame m #[.ref a, .ref b, .int (Int32.ofNat o), .int (Int32.ofNat len), .null] 6)) (s₁.setTop (mkF m 1 #[.val (.ref a), .val (.ref b), .val (.int (Int32.ofNat o)), .val (.int (Int32.ofNat len)), .val .null, .unset] [.ref a])) := c1.trans (by
    refine XS.aloadN X0.here hexec rfl (hb hbytes d0) rfl rfl ?_
    exact Steps.refl _)
  obtain ⟨T3, X3, q3, st3⟩ := X0.oinit hexec hown (wks W (objW "java/lang/String" 1)) (g := (mkF m 1 #[.val (.ref a), .val (.ref b), .val (.int (Int32.ofNat o)), .val (.int (Int32.ofNat len)), .val .null, .unset] [.ref a])) rfl (by rw [hml]; rfl) (rest := []) rfl (hb hbytes d1) (W := 0) (by show 2 * 0 + 0 ≤ _; decide) (Nat.le_of_ble_eq_true rfl) (Nat.le_of_ble_eq_true rfl)
  have hh3 := q3.trans hh0
  have c4 : Steps p.tables e below (s₁.setTop (entryFrame m #[.ref a, .ref b, .int (Int32.ofNat o), .int (Int32.ofNat len), .null] 6)) (T3.setTop (mkF m 27 #[.val (.ref a), .val (.ref b), .val (.int (Int32.ofNat o)), .val (.int (Int32.ofNat len)), .val .null, .unset] [])) := (c2.trans (st3 _ (Steps.refl _))).trans (by
    refine XS.iloadN X3.here hexec rfl (hb hbytes d4) rfl ?_
    refine XS.ifYes X3.here hexec rfl (pc0 := 5) rfl (hb hbytes d5) rfl (i0_ne_t (nz32 (by omega) l0)) (by decide) rfl ?_
    exact Steps.refl _)
  obtain ⟨T5, X5, q5, st5⟩ := X3.sget hexec hown (wk W (.fieldLink "java/lang/String" 38 "java/lang/String" "COMPACT_STRINGS" "Z")) s1 (fun _ _ h => by rw [hh3]; exact h) (g := (mkF m 27 #[.val (.ref a), .val (.ref b), .val (.int (Int32.ofNat o)), .val (.int (Int32.ofNat len)), .val .null, .unset] [])) rfl (hb hbytes d27)
  have hh5 := q5.trans hh3
  have c6 : Steps p.tables e below (s₁.setTop (entryFrame m #[.ref a, .ref b, .int (Int32.ofNat o), .int (Int32.ofNat len), .null] 6)) (T5.setTop (mkF m 30 #[.val (.ref a), .val (.ref b), .val (.int (Int32.ofNat o)), .val (.int (Int32.ofNat len)), .val .null, .unset] [.int z])) := c4.trans (st5 _ (Steps.refl _))
  have c7 : Steps p.tables e below (s₁.setTop (entryFrame m #[.ref a, .ref b, .int (Int32.ofNat o), .int (Int32.ofNat len), .null] 6)) (T5.setTop (mkF m 36 #[.val (.ref a), .val (.ref b), .val (.int (Int32.ofNat o)), .val (.int (Int32.ofNat len)), .val .null, .unset] [.int (Int32.ofNat len), .int (Int32.ofNat o), .ref b])) := c6.trans (by
    refine XS.ifNo X5.here hexec rfl (hb hbytes d30) rfl (i0_eq_f hz) ?_
    refine XS.aloadN X5.here hexec rfl (hb hbytes d33) rfl rfl ?_
    refine XS.iloadN X5.here hexec rfl (hb hbytes d34) rfl ?_
    refine XS.iloadN X5.here hexec rfl (hb hbytes d35) rfl ?_
    exact Steps.refl _)
  obtain ⟨v8, T8, X8, E8, g8⟩ := X5.callS hexec (Cmp3.law l b A o len) hown (wks W (staticW "java/lang/String" 177 Cmp3.yN)) (wk W Cmp3.tab) (W := 0) (Nat.le_of_ble_eq_true rfl) (Nat.le_of_ble_eq_true rfl) (Nat.le_refl _) (by show 0 + len ≤ len; omega) (g := (mkF m 36 #[.val (.ref a), .val (.ref b), .val (.int (Int32.ofNat o)), .val (.int (Int32.ofNat len)), .val .null, .unset] [.int (Int32.ofNat len), .int (Int32.ofNat o), .ref b])) rfl (by rw [hml]; rfl) c7 (argsL := [.ref b, .int (Int32.ofNat o), .int (Int32.ofNat len)]) (rest := []) rfl rfl (by show 2 * 0 + 0 ≤ _; decide) (hb hbytes d36) (⟨rfl, hA.mv X5.warmed.alike hh5, l1, l2, hp⟩)
  obtain ⟨e8, z8⟩ := E8
  obtain ⟨rfl, N, n1, n2, n3, n4, n5, n6⟩ := NewArr.mv _ T5 s _ _ hh5.symm (Vm.Alike.refl _) rfl e8
  rw [hh5] at z8
  have hB1 := hB.keep X8.warmed.alike (n6 _ _ hB.1)
  have hne : s.heap.size ≠ a := (Nat.ne_of_lt (Array.getElem?_eq_some_iff.mp hB.1).1).symm
  have c9 : Steps p.tables e below (s₁.setTop (entryFrame m #[.ref a, .ref b, .int (Int32.ofNat o), .int (Int32.ofNat len), .null] 6)) (T8.setTop (mkF m 39 #[.val (.ref a), .val (.ref b), .val (.int (Int32.ofNat o)), .val (.int (Int32.ofNat len)), .val .null, .unset] [.ref s.heap.size])) := g8
  have c10 : Steps p.tables e below (s₁.setTop (entryFrame m #[.ref a, .ref b, .int (Int32.ofNat o), .int (Int32.ofNat len), .null] 6)) (T8.setTop (mkF m 45 #[.val (.ref a), .val (.ref b), .val (.int (Int32.ofNat o)), .val (.int (Int32.ofNat len)), .val .null, .val (.ref s.heap.size)] [.int (Int32.ofNat N.slots.size), .ref s.heap.size, .ref a])) := by
    have hc : Steps p.tables e below (s₁.setTop (entryFrame m #[.ref a, .ref b, .int (Int32.ofNat o), .int (Int32.ofNat len), .null] 6)) (T8.setTop (mkF m 45 #[.val (.ref a), .val (.ref b), .val (.int (Int32.ofNat o)), .val (.int (Int32.ofNat len)), .val .null, .val (.ref s.heap.size)] [.int (Int32.ofNat len), .ref s.heap.size, .ref a])) := c9.trans (by
      refine XS.astore X8.here hexec rfl (hb hbytes d39) rfl rfl rfl ?_
      refine XS.aloadN X8.here hexec rfl (hb hbytes d41) rfl rfl ?_
      refine XS.aload X8.here hexec rfl (hb hbytes d42) rfl rfl ?_
      refine XS.iloadN X8.here hexec rfl (hb hbytes d44) rfl ?_
      exact Steps.refl _)
    rw [n4]; exact hc
  obtain ⟨v11, T11, X11, E11, g11⟩ := X8.callS hexec (CodL.law l s.heap.size N) hown (wks W (staticW "java/lang/String" 47 CodL.yN)) (wk W CodL.tab) (W := 1) (Nat.le_of_ble_eq_true rfl) (Nat.le_of_ble_eq_true rfl) (Nat.le_refl _) (by show 0 + len + 0 ≤ len; omega) (g := (mkF m 45 #[.val (.ref a), .val (.ref b), .val (.int (Int32.ofNat o)), .val (.int (Int32.ofNat len)), .val .null, .val (.ref s.heap.size)] [.int (Int32.ofNat N.slots.size), .ref s.heap.size, .ref a])) rfl (by rw [hml]; rfl) c10 (argsL := [.ref s.heap.size, .int (Int32.ofNat N.slots.size)]) (rest := [.ref a]) rfl rfl (by show 2 * 0 + (1 + 0) ≤ _; decide) (hb hbytes d45) (⟨rfl, n1⟩)
  obtain ⟨rfl, q11⟩ := E11
  have hB11 := hB1.mv (X8.warmed.alike.symm.trans X11.warmed.alike) q11
  have c12 : Steps p.tables e below (s₁.setTop (entryFrame m #[.ref a, .ref b, .int (Int32.ofNat o), .int (Int32.ofNat len), .null] 6)) (T11.setTop (mkF m 48 #[.val (.ref a), .val (.ref b), .val (.int (Int32.ofNat o)), .val (.int (Int32.ofNat len)), .val .null, .val (.ref s.heap.size)] [.int 0, .ref a])) := g11
  obtain ⟨T13, X13, p13, bl13, sl13, st13⟩ := X11.finit hexec hown (wk W (.fieldLink "java/lang/String" 15 "java/lang/String" "coder" "B")) (Or.inr ⟨_, (wk W (.laysFinal "java/lang/String" "java/lang/String" "coder" "B"))⟩) (Or.inl ⟨rfl, hnm⟩) f2 (Or.inl rfl) hB11 (t := .byte) (by decide +kernel) rfl (g := (mkF m 48 #[.val (.ref a), .val (.ref b), .val (.int (Int32.ofNat o)), .val (.int (Int32.ofNat len)), .val .null, .val (.ref s.heap.size)] [.int 0, .ref a])) rfl (rest := []) rfl (hb hbytes d48)
  have c14 : Steps p.tables e below (s₁.setTop (entryFrame m #[.ref a, .ref b, .int (Int32.ofNat o), .int (Int32.ofNat len), .null] 6)) (T13.setTop (mkF m 54 #[.val (.ref a), .val (.ref b), .val (.int (Int32.ofNat o)), .val (.int (Int32.ofNat len)), .val .null, .val (.ref s.heap.size)] [.ref s.heap.size, .ref a])) := (c12.trans (st13 _ (Steps.refl _))).trans (by
    refine XS.aloadN X13.here hexec rfl (hb hbytes d51) rfl rfl ?_
    refine XS.aload X13.here hexec rfl (hb hbytes d52) rfl rfl ?_
    exact Steps.refl _)
  obtain ⟨T15, X15, p15, bl15, sl15, st15⟩ := X13.finit hexec hown (wk W (.fieldLink "java/lang/String" 9 "java/lang/String" "value" "[B")) (Or.inr ⟨_, (wk W (.laysFinal "java/lang/String" "java/lang/String" "value" "[B"))⟩) (Or.inl ⟨rfl, hnm⟩) f1 (Or.inl rfl) bl13 (t := (.array .byte)) (by decide +kernel) rfl (g := (mkF m 54 #[.val (.ref a), .val (.ref b), .val (.int (Int32.ofNat o)), .val (.int (Int32.ofNat len)), .val .null, .val (.ref s.heap.size)] [.ref s.heap.size, .ref a])) rfl (rest := []) rfl (hb hbytes d54)
  have c16 : Steps p.tables e below (s₁.setTop (entryFrame m #[.ref a, .ref b, .int (Int32.ofNat o), .int (Int32.ofNat len), .null] 6)) (T15.setTop (mkF m 57 #[.val (.ref a), .val (.ref b), .val (.int (Int32.ofNat o)), .val (.int (Int32.ofNat len)), .val .null, .val (.ref s.heap.size)] [])) := c14.trans (st15 _ (Steps.refl _))
  have ap := apart (Or.inr ⟨_, (wk W (.laysFinal "java/lang/String" "java/lang/String" "value" "[B"))⟩) (Or.inr ⟨_, (wk W (.laysFinal "java/lang/String" "java/lang/String" "coder" "B"))⟩) f1 f2 (t₁ := .array .byte) (t₂ := .byte) (by decide +kernel) (by decide +kernel) (by decide)
  have al := X8.warmed.alike.symm.trans X15.warmed.alike
  have n7 : T11.heap[s.heap.size]? = some N := by rw [q11]; exact n1.1
  exact ⟨T15, none, _, _, _, X15, by simp, rfl, by omega, (fun _ => rfl), ⟨rfl, _, N, bl15, ((Same.refl D _).set _ (by simp)).set _ (by simp), sl15, (Cell.slots_setSlot_ne _ ap).trans sl13, n1.keep al (p15.other hne (p13.other hne n7)), n2, by rw [al.findClass]; exact n3, n4, n5, fun y c h1 h2 => p15.other h1 (p13.other h1 (by rw [q11]; exact n6 y c h2)), by rw [p15.2.2, p13.2.2, q11]; exact z8⟩, fun fs hl => c16.trans (X15.returnOut hexec hret (hb hbytes d57) hl)⟩
end New4
namespace New1
def yN : MethodName := ⟨"java/lang/String", "<init>", "([C)V"⟩
abbrev yB : ByteArray := jdk_42_method_3_code
theorem d0 : decode yB 0 = .ok (.aload_n 0, 1) := by decide +kernel
theorem d1 : decode yB 1 = .ok (.aload_n 1, 1) := by decide +kernel
theorem d2 : decode yB 2 = .ok (.iconst 0, 1) := by decide +kernel
theorem d3 : decode yB 3 = .ok (.aload_n 1, 1) := by decide +kernel
theorem d4 : decode yB 4 = .ok (.arraylength, 1) := by decide +kernel
theorem d5 : decode yB 5 = .ok (.aconst_null, 1) := by decide +kernel
theorem d6 : decode yB 6 = .ok (.invokespecial 27, 3) := by decide +kernel
theorem d9 : decode yB 9 = .ok (.return_, 1) := by decide +kernel
def site : List Cond := [New4.tab] ++ initW "java/lang/String" 27 New4.yN
def tab : Cond := tabOf yN yB 2 none site
def P (a : Addr) (D : Cell) (fV fC : Field) (b : Addr) (A : Cell) (z : Int32) (args : Array Value) (s : State) : Prop := args = #[.ref a, .ref b] ∧ Blank "java/lang/String" a D s ∧ Found "java/lang/String" "value" "[B" fV s ∧ Found "java/lang/String" "coder" "B" fC s ∧ Ch b A s ∧ StaticIs s "java/lang/String" "COMPACT_STRINGS" "Z" (.int z) ∧ ¬ z = 0 ∧ 0 < A.slots.size ∧ A.slots.size ≤ 536870912 ∧ ∀ i, i < A.slots.size → ¬ 255 < cv A i
def E (a : Addr) (D : Cell) (fV fC : Field) (A : Cell) (r : Option Value) (s u : State) : Prop := Got a D fV fC A 0 A.slots.size r s u
/-- new String(chars), not empty, no char above 255: a Latin-1 String of their low bytes -/
theorem law (l : Launch) (a : Addr) (D : Cell) (fV fC : Field) (b : Addr) (A : Cell) (z : Int32) : Law l yN 2 1 3 52 yB 2 none site (P a D fV fC b A z) (E a D fV fC A) [⟨a, fC.slot⟩, ⟨a, fV.slot⟩] 1 A.slots.size := by
  refine Law.of_walk (plainFor_of_name (by decide +kernel)) (by decide +kernel) (by decide +kernel) (by decide) (fun _ _ h => by rw [h.1]; rfl) (fun _ U U' hal hh h => ⟨h.1, h.2.1.mv hal hh, h.2.2.1.al hal, h.2.2.2.1.al hal, h.2.2.2.2.1.mv hal hh, h.2.2.2.2.2.1.there hal hh, h.2.2.2.2.2.2⟩) (fun r U U' V V' h1 hal h2 h => Got.mv r U U' V V' h1 hal h2 h) ?_
  intro p e s m args below meth c s₁ X0 hexec hbytes hml hret hlk hnm hown hh0 W hP
  obtain ⟨rfl, hB, f1, f2, hA, s1, hz, l0, l2, hp⟩ := hP
  have c1 : Steps p.tables e below (s₁.setTop (entryFrame m #[.ref a, .ref b] 2)) (s₁.setTop (mkF m 0 #[.val (.ref a), .val (.ref b)] [])) := entry rfl
  have c2 : Steps p.tables e below (s₁.setTop (entryFrame m #[.ref a, .ref b] 2)) (s₁.setTop (mkF m 6 #[.val (.ref a), .val (.ref b)] [.null, .int (Int32.ofNat A.slots.size), .int 0, .ref b, .ref a])) := c1.trans (by
    refine XS.aloadN X0.here hexec rfl (hb hbytes d0) rfl rfl ?_
    refine XS.aloadN X0.here hexec rfl (hb hbytes d1) rfl rfl ?_
    refine iconstV X0.here hexec rfl 0 (hb hbytes d2) (by decide) ?_
    refine XS.aloadN X0.here hexec rfl (hb hbytes d3) rfl rfl ?_
    refine X0.alen hexec (hA.1.mv X0.warmed.alike hh0) rfl rfl (hb hbytes d4) ?_
    refine XS.aconstNull X0.here hexec rfl (hb hbytes d5) ?_
    exact Steps.refl _)
  obtain ⟨v3, T3, X3, E3, g3⟩ := X0.callN hexec (New4.law l a D fV fC b A z 0 A.slots.size) rfl hown (wks W (initW "java/lang/String" 27 New4.yN)) (W New4.tab (by simp only [site, List.mem_cons, List.mem_append, true_or, or_true])) (W := 0) (Nat.le_of_ble_eq_true rfl) (Nat.le_of_ble_eq_true rfl) (Nat.le_refl _) (by show 0 + A.slots.size ≤ A.slots.size; omega) (g := (mkF m 6 #[.val (.ref a), .val (.ref b)] [.null, .int (Int32.ofNat A.slots.size), .int (Int32.ofNat 0), .ref b, .ref a])) rfl (by rw [hml]; rfl) c2 (argsL := [.ref b, .int (Int32.ofNat 0), .int (Int32.ofNat A.slots.size), .null]) (rest := []) rfl rfl (by show 2 * 0 + 0 ≤ _; decide) (hb hbytes d6) (⟨rfl, hB.mv X0.warmed.alike hh0, f1.al X0.warmed.alike, f2.al X0.warmed.alike, hA.mv X0.warmed.alike hh0, s1.there X0.warmed.alike hh0, hz, l0, by omega, l2, fun i hi => by rw [Nat.zero_add]; exact hp i hi⟩)
  have e0 := Got.mv _ s₁ s _ _ hh0.symm (Vm.Alike.refl _) rfl E3
  obtain rfl := e0.1
  have c4 : Steps p.tables e below (s₁.setTop (entryFrame m #[.ref a, .ref b] 2)) (T3.setTop (mkF m 9 #[.val (.ref a), .val (.ref b)] [])) := g3
  exact ⟨T3, none, _, _, _, X3, by simp, rfl, by omega, (fun _ => rfl), e0, fun fs hl => c4.trans (X3.returnOut hexec hret (hb hbytes d9) hl)⟩
theorem pays {l : Launch} {R : Room} {p : Program} {e : Env} {below : List Frame} {s : State} {sargs : Array Value} {len W : Nat} (a : Addr) (D : Cell) (fV fC : Field) (b : Addr) (A : Cell) (z : Int32) (htab : tab.before sargs s = true) (hfr : 4 ≤ R.frames) (hlo : W + 65 ≤ R.locals) :
    Back l R p e below s sargs yN len W (fun A₁ a₁ => A₁.cells + 1 ≤ R.cells ∧ A₁.slots + A.slots.size ≤ R.slots ∧ P a D fV fC b A z a₁ A₁.U) (fun A₁ _ v₁ B₁ => E a D fV fC A v₁ A₁.U B₁.U ∧ B₁.locs = A₁.locs ++ [⟨a, fC.slot⟩, ⟨a, fV.slot⟩] ∧ B₁.cells = A₁.cells + 1 ∧ B₁.slots = A₁.slots + A.slots.size) :=
  (law l a D fV fC b A z).pays htab hfr (by omega)
end New1
/-- the byte, read back as charAt reads it, is the char -/
theorem lo8_mask {x : Int32} (h0 : ¬ x < 0) (h1 : ¬ 255 < x) : lo8 x &&& 255 = x := by
  have t : ∀ k : Fin 256, lo8 (Int32.ofNat k.val) &&& 255 = Int32.ofNat k.val := by decide +kernel
  rw [Int32.lt_iff_toInt_lt] at h0 h1
  have e0 : (0 : Int32).toInt = 0 := rfl
  have e1 : (255 : Int32).toInt = 255 := rfl
  obtain ⟨k, hk⟩ : ∃ k : Nat, x.toInt = k := ⟨x.toInt.toNat, by omega⟩
  have hx : x = Int32.ofNat k := Int32.toInt_inj.mp (by rw [hk, Int32.toInt_ofNat_small (by omega)])
  rw [hx]
  exact t ⟨k, by omega⟩
end StrChars
namespace StrChars.Road
open Jvm Sem ClassFile Op Lib Jvm.Stand Jvm.Free Jvm.Free.XT
open Jvm.Lib.Cold (StaticIs)
abbrev ST : String := "java/lang/String"
/-- every table word that New1's law asks, flat -/
abbrev words : List Jvm.Cond := [.code New1.yN New1.yB 2 none, .initialized ST, .methodLink ST 27 New4.yN, .instanceMethod New4.yN,
  .code New4.yN New4.yB 6 none, .fieldLink ST 38 ST "COMPACT_STRINGS" "Z", .laysFinal ST ST "value" "[B", .fieldLink ST 9 ST "value" "[B", .laysFinal ST ST "coder" "B", .fieldLink ST 15 ST "coder" "B",
  .methodLink ST 1 Lib.objectInit, .instanceMethod Lib.objectInit, .code Lib.objectInit ⟨#[0xb1]⟩ 1 none, .methodLink ST 177 Cmp3.yN, .static Cmp3.yN, .methodLink ST 47 CodL.yN, .static CodL.yN,
  .code Cmp3.yN Cmp3.yB 6 (some (.array .byte)), .initialized U16, .arrayClass .byte, .methodLink U16 115 Cmp5.yN, .static Cmp5.yN, .code Cmp5.yN Cmp5.yB 7 (some .int), .code CodL.yN CodL.yB 2 (some .byte)]
theorem tab_of {a : Array Value} {s : State} (h : ∀ w ∈ words, w.before a s = true) : New1.tab.before a s = true := by
  have h5 : Cmp5.tab.before a s = true := unparts (wk h (.code Cmp5.yN Cmp5.yB 7 (some .int))) (wks h (.initialized Cmp5.yN.cls :: Cmp5.site))
  have hc : CodL.tab.before a s = true := unparts (wk h (.code CodL.yN CodL.yB 2 (some .byte))) (wks h (.initialized CodL.yN.cls :: CodL.site))
  have q5 : ∀ w ∈ Cmp5.tab :: words, w.before a s = true := fun w hw => (List.mem_cons.mp hw).elim (fun e => e ▸ h5) (h w)
  have h3 : Cmp3.tab.before a s = true := unparts (wk q5 (.code Cmp3.yN Cmp3.yB 6 (some (.array .byte)))) (wks q5 (.initialized Cmp3.yN.cls :: Cmp3.site))
  have q3 : ∀ w ∈ Cmp3.tab :: CodL.tab :: words, w.before a s = true := fun w hw => (List.mem_cons.mp hw).elim (fun e => e ▸ h3) fun hw => (List.mem_cons.mp hw).elim (fun e => e ▸ hc) (h w)
  have h4 : New4.tab.before a s = true := unparts (wk q3 (.code New4.yN New4.yB 6 none)) (wks q3 (.initialized New4.yN.cls :: New4.site))
  have q4 : ∀ w ∈ New4.tab :: words, w.before a s = true := fun w hw => (List.mem_cons.mp hw).elim (fun e => e ▸ h4) (h w)
  exact unparts (wk q4 (.code New1.yN New1.yB 2 none)) (wks q4 (.initialized New1.yN.cls :: New1.site))
/-- the words ride from the start Z to the walk's own state -/
theorem moved {Z s : State} {a0 args : Array Value} (hZ : Z.Warmed39 s.vm) (hw : ∀ d ∈ words, d.before a0 Z = true) : ∀ d ∈ words, d.before args s = true := fun d hd => by
  have q := hw d hd
  have t : ∀ d ∈ words, d = .arrayClass .byte ∨ (d.onTables && d.keepsFace) = true := by decide +kernel
  rcases t d hd with rfl | t
  · exact RoadKit.mvA hZ q
  · exact RoadKit.mv hZ q t
/-- WHAT COMES BACK, over the tables of the start Z: h the heap at the call, h' behind it -/
def Q (Z : State) (x : Addr) (A : Cell) (h : Heap) (v : Option Value) (h' : Heap) (L : List Loc) : Prop := v = none ∧ (∀ y ∈ L, y.base = x) ∧ RoadKit.Keep h h' [x] ∧ h'.size = h.size + 1 ∧ RoadKit.Exa Z h' x ST ∧ RoadKit.Fld Z h' x ST "value" "[B" (.ref h.size) ∧ RoadKit.Fld Z h' x ST "coder" "B" (.int 0) ∧
  (∃ V : Cell, RoadKit.Arr Z h' h.size V .byte ∧ V.vm = .none ∧ Z.vm.findClass "[B" = some V.cls ∧ V.slots.size = A.slots.size ∧ ∀ j, j < A.slots.size → V.slots[j]? = some (.int (lo8 (cv A j)))) ∧
  ∀ (O n d : String) (w : Value), RoadKit.Fld Z h x O n d w → RoadKit.slotOf Z O n d ≠ RoadKit.slotOf Z ST "value" "[B" → RoadKit.slotOf Z O n d ≠ RoadKit.slotOf Z ST "coder" "B" → RoadKit.Fld Z h' x O n d w
/-- **new String(chars) AT A CALL, IN THE ROAD'S FORM**: for specialBack behind newO: x the fresh String, b the char[] with the cell A -/
theorem back {p : Program} {l : Launch} {e : Env} {R : Room} {s : State} {args : Array Value} {below : List Frame} {len W : Nat} {Z : State} {a0 : Array Value} {h : Heap} (hZ : Z.Warmed39 s.vm) (hw : ∀ d ∈ words, d.before a0 Z = true) {kI : Nat} (wi : (Jvm.Cond.instantiable ST kI).before a0 Z = true)
    {x b : Addr} {A : Cell} {z : Int32} {v0 c0 : Value} (E : RoadKit.Exa Z h x ST) (V : RoadKit.Fld Z h x ST "value" "[B" v0) (C : RoadKit.Fld Z h x ST "coder" "B" c0) (K : RoadKit.Arr Z h b A .char) (hty : Typed .char A) (S : RoadKit.Sta Z h ST "COMPACT_STRINGS" "Z" (.int z)) (hz : ¬ z = 0)
    (l0 : 0 < A.slots.size) (l2 : A.slots.size ≤ 536870912) (hp : ∀ i, i < A.slots.size → ¬ 255 < cv A i) (hfr : 4 ≤ R.frames) (hlo : W + 65 ≤ R.locals) :
    Back l R p e below s args New1.yN len W (fun P a => a = #[.ref x, .ref b] ∧ P.U.heap = h ∧ P.cells + 1 ≤ R.cells ∧ P.slots + A.slots.size ≤ R.slots)
      (fun P _ v B => ∃ L, Q Z x A h v B.U.heap L ∧ B.locs = P.locs ++ L ∧ B.cells = P.cells + 1 ∧ B.slots = P.slots + A.slots.size) := by
  intro m meth c P g ig mk a X hg hsize hdg hW hn hp'
  obtain ⟨rfl, rfl, r1, r2⟩ := hp'
  have al : Z.vm.Alike P.U.vm := hZ.alike.trans X.warmed.alike
  obtain ⟨D, cfV, kV, iV, fV, hD, gV, stV, knV, obV, asV, slV⟩ := id V
  obtain ⟨D', cfC, kC, iC, fC, hD', gC, stC, -, -, asC, slC⟩ := id C
  cases hD.symm.trans hD'
  obtain ⟨D2, kD, e1, e2, e3, e4, e5⟩ := id E
  cases hD.symm.trans e1
  obtain ⟨c2, k2, i1, i2, i3, -⟩ := Cond.instantiable_spec wi
  cases e2.symm.trans i1
  cases e3.symm.trans i2
  obtain ⟨kU, u1, u2⟩ := al.2.2 _ _ e3
  have hB : Blank ST x D P.U := ⟨hD, ⟨knV, fun q hq => by rw [hq] at obV; cases obV⟩, by rw [al.findClass]; exact e2, kU, u1, by rw [u2]; exact i3, by rw [u2]; exact e5 i3⟩
  have F1 : Found ST "value" "[B" fV P.U := ⟨SBG.found_only al ⟨cfV, kV, iV, gV⟩, stV⟩
  have F2 : Found ST "coder" "B" fC P.U := ⟨SBG.found_only al ⟨cfC, kC, iC, gC⟩, stC⟩
  have hA : Ch b A P.U := ⟨⟨K.1, State.isArrayOf_alike al K.2.1, K.2.2, by omega⟩, hty⟩
  have hS : StaticIs P.U ST "COMPACT_STRINGS" "Z" (.int z) := by
    obtain ⟨cfS, iS, kS, fS, st, cS, t1, t2, t3, t4, t5, t6, t7⟩ := S
    exact StaticIs.there (s := { Z with heap := P.U.heap }) ⟨cfS, iS, kS, fS, st, cS, t1, t2, t3, t4, t5, (fun q => by rw [q] at t6; cases t6), t7⟩ al rfl
  obtain ⟨v, B, X', ⟨⟨hv, E', V', q1, q2, q3, q4, q5, q6, q7, q8, q9, q10, q11⟩, hl, hc, hs⟩, st⟩ := New1.pays x D fV fC b A z (tab_of (moved hZ hw)) hfr hlo m meth c P g ig mk _ X hg hsize hdg hW hn ⟨r1, r2, rfl, hB, F1, F2, hA, hS, hz, l0, l2, hp⟩
  have al' : Z.vm.Alike B.U.vm := hZ.alike.trans X'.warmed.alike
  have hsz : E'.slots.size = D.slots.size := by
    obtain ⟨-, -, -, kB, w1, w2, w3⟩ := q1
    obtain ⟨kB', y1, y2⟩ := al'.2.2 _ _ e3
    rw [q2.2.1] at w1
    cases w1.symm.trans y1
    rw [w3, e5 i3, y2]
  refine ⟨v, B, X', ⟨_, ⟨hv, ?_, ⟨by omega, fun y cy hy hn' => q10 y cy (by simpa using hn') hy, fun y cy hy => ?_⟩, q11, ⟨E', _, q1.1, by rw [q2.2.1]; exact e2, by rw [q2.2.1]; exact e3, by rw [q2.1]; exact obV, fun _ => by rw [hsz]; exact e5 i3⟩,
    ⟨E', cfV, kV, iV, fV, q1.1, gV, stV, by rw [q2.1]; exact knV, by rw [q2.1]; exact obV, by rw [q2.2.1]; exact asV, q3⟩, ⟨E', cfC, kC, iC, fC, q1.1, gC, stC, by rw [q2.1]; exact knV, by rw [q2.1]; exact obV, by rw [q2.2.1]; exact asC, q4⟩,
    ⟨V', ⟨q5.1, State.isArrayOf_alike al'.symm q5.2.1, q5.2.2.1⟩, q6, by rw [← al'.findClass]; exact q7, q8, fun j hj => by have := q9 j hj; rwa [Nat.zero_add] at this⟩, fun O n d w F n1 n2 => ?_⟩, hl, hc, hs⟩, st⟩
  · intro y hy
    simp only [List.mem_cons, List.not_mem_nil, or_false] at hy
    rcases hy with rfl | rfl <;> rfl
  · by_cases q : y = x
    · subst q
      cases hD.symm.trans hy
      exact ⟨E', q1.1, q2.2.1, q2.1, hsz⟩
    · exact ⟨cy, q10 y cy q hy, rfl, rfl, rfl⟩
  · obtain ⟨D3, cf, k, i, f, g1, g2, g3, g4, g5, g6, g7⟩ := F
    cases hD.symm.trans g1
    simp only [RoadKit.slotOf, g2, gV, gC, Option.map_some, Option.getD_some] at n1 n2
    exact ⟨E', cf, k, i, f, q1.1, g2, g3, by rw [q2.1]; exact g4, by rw [q2.1]; exact g5, by rw [q2.2.1]; exact g6, by rw [q2.2.2 f.slot (by simp [n1, n2])]; exact g7⟩
end StrChars.Road
namespace StrChars.Road
open Jvm Sem ClassFile Op Lib Jvm.Stand Jvm.Free Jvm.Free.XT
/-- WHAT COMES BACK, the byte[] as a list of values -/
def QA (Z : State) (x : Addr) (zn : Int32) (cs : List Int32) (h : Heap) (v : Option Value) (h' : Heap) (L : List Loc) : Prop := v = none ∧ (∀ y ∈ L, y.base = x) ∧ RoadKit.Keep h h' [x] ∧ h'.size = h.size + 1 ∧ RoadKit.Exa Z h' x ST ∧ RoadKit.Fld Z h' x ST "value" "[B" (.ref h.size) ∧ RoadKit.Fld Z h' x ST "coder" "B" (.int 0) ∧
  (∃ kb, Z.vm.findClass "[B" = some kb ∧ RoadKit.Arv Z h' h.size kb .byte zn (cs.map fun c => .int (lo8 c)) (.int 0)) ∧
  ∀ (O n d : String) (w : Value), RoadKit.Fld Z h x O n d w → RoadKit.slotOf Z O n d ≠ RoadKit.slotOf Z ST "value" "[B" → RoadKit.slotOf Z O n d ≠ RoadKit.slotOf Z ST "coder" "B" → RoadKit.Fld Z h' x O n d w
/-- **new String(chars) AT A CALL, THE ARRAYS AS LISTS**: the char[] at b holds cs, not empty, no char above 255 -/
theorem backArv {p : Program} {l : Launch} {e : Env} {R : Room} {s : State} {args : Array Value} {below : List Frame} {len W : Nat} {Z : State} {a0 : Array Value} {h : Heap} (hZ : Z.Warmed39 s.vm) (hw : ∀ d ∈ words, d.before a0 Z = true) {kI : Nat} (wi : (Jvm.Cond.instantiable ST kI).before a0 Z = true)
    {x b : Addr} {k : ClassId} {zn z : Int32} {cs : List Int32} {dv v0 c0 : Value} (E : RoadKit.Exa Z h x ST) (V : RoadKit.Fld Z h x ST "value" "[B" v0) (C : RoadKit.Fld Z h x ST "coder" "B" c0) (K : RoadKit.Arv Z h b k .char zn (cs.map Value.int) dv) (S : RoadKit.Sta Z h ST "COMPACT_STRINGS" "Z" (.int z)) (hz : ¬ z = 0)
    (hlen : zn.toNatClampNeg = cs.length) (h0 : 0 < cs.length) (hbig : cs.length ≤ 536870912) (hall : ∀ c ∈ cs, ¬ 255 < c) (hfr : 4 ≤ R.frames) (hlo : W + 65 ≤ R.locals) :
    Back l R p e below s args New1.yN len W (fun P a => a = #[.ref x, .ref b] ∧ P.U.heap = h ∧ P.cells + 1 ≤ R.cells ∧ P.slots + cs.length ≤ R.slots)
      (fun P _ v B => ∃ L, QA Z x zn cs h v B.U.heap L ∧ B.locs = P.locs ++ L ∧ B.cells = P.cells + 1 ∧ B.slots = P.slots + cs.length) := by
  obtain ⟨A, K1, K2, K3, K4, K5, K6⟩ := K
  have e : A.slots.size = cs.length := K3.trans hlen
  have hat : ∀ (i : Nat) (hi : i < cs.length), A.slots[i]? = some (.int cs[i]) := fun i hi => by rw [K5 i (by omega)]; simp [List.getD_eq_getElem?_getD, hi]
  have hcv : ∀ (i : Nat) (hi : i < cs.length), cv A i = cs[i] := fun i hi => by unfold cv; rw [hat i hi]
  have hty : Typed .char A := fun i v hv => by
    have hi : i < A.slots.size := (Array.getElem?_eq_some_iff.mp hv).1
    have q := K5 i hi
    rw [hv] at q
    rw [Option.some.inj q]
    exact K6 i hi
  refine Back.mono (back hZ hw wi E V C K1 hty S hz (by omega) (by omega) (fun i hi => by rw [hcv i (by omega)]; exact hall _ (List.getElem_mem _)) hfr hlo) (fun P a hp => ⟨hp.1, hp.2.1, hp.2.2.1, by rw [e]; exact hp.2.2.2⟩) (fun P a v B hp hq => ?_)
  obtain ⟨L, ⟨q1, q2, q3, q4, q5, q6, q7, ⟨V', v1, v2, v3, v4, v5⟩, q9⟩, hl, hc, hs⟩ := hq
  refine ⟨L, ⟨q1, q2, q3, q4, q5, q6, q7, ⟨V'.cls, v3, V', v1, rfl, by rw [v4, e, hlen], K4, fun i hi => ?_, fun i hi => ?_⟩, q9⟩, hl, hc, by rw [hs, e]⟩
  · have hi' : i < cs.length := by omega
    rw [v5 i (by omega), hcv i hi']; simp [List.getD_eq_getElem?_getD, hi']
  · have hi' : i < cs.length := by omega
    simp only [List.getD_eq_getElem?_getD, List.getElem?_map, List.getElem?_eq_getElem hi', Option.map_some, Option.getD_some]
    exact fits_lo8 _
end StrChars.Road
namespace StrChars.Road
open Jvm Sem ClassFile Op Lib Jvm.Stand Jvm.Free Jvm.Free.XT
/-- WHAT COMES BACK, in the writer's own shape -/
def QV (Z : State) (x : Addr) (N : Int32) (bs : List Int32) (h : Heap) (n0 : Nat) (v : Option Value) (h' : Heap) (L : List Loc) : Prop := v = none ∧ RoadKit.Fr n0 L ∧ RoadKit.Keep h h' [x] ∧ RoadKit.Exa Z h' x ST ∧ RoadKit.Fld Z h' x ST "coder" "B" (.int 0) ∧
  ∃ (t : Addr) (kb : ClassId), n0 ≤ t ∧ h.size ≤ t ∧ ¬ t = x ∧ RoadKit.Fld Z h' x ST "value" "[B" (.ref t) ∧ RoadKit.Arv Z h' t kb .byte N (bs.map Value.int) (.int 0)
/-- **new String(chars) AT A CALL, FOR THE WRITER**: a char[] of n known ints, each 0 to 255 -/
theorem backV {p : Program} {l : Launch} {e : Env} {R : Room} {s : State} {args : Array Value} {below : List Frame} {len W : Nat} {Z : State} {a0 : Array Value} {h : Heap} (hZ : Z.Warmed39 s.vm) (hw : ∀ d ∈ words, d.before a0 Z = true) {kI : Nat} (wi : (Jvm.Cond.instantiable ST kI).before a0 Z = true)
    {x b : Addr} {kC : ClassId} {cs bs : List Int32} {d v0 c0 : Value} {z N : Int32} {n n0 : Nat} (hx0 : n0 ≤ x) (hh0 : n0 ≤ h.size) (E : RoadKit.Exa Z h x ST) (V : RoadKit.Fld Z h x ST "value" "[B" v0) (C : RoadKit.Fld Z h x ST "coder" "B" c0) (K : RoadKit.Arv Z h b kC .char N (cs.map Value.int) d) (S : RoadKit.Sta Z h ST "COMPACT_STRINGS" "Z" (.int z)) (hz : ¬ z = 0)
    (hn : cs.length = n) (hN : N = Int32.ofNat n) (l0 : 0 < n) (l2 : n ≤ 4000) (hp : ∀ c ∈ cs, ¬ c < 0 ∧ ¬ (255 : Int32) < c) (hb : bs = cs.map (fun c => c.toInt8.toInt32)) (hfr : 4 ≤ R.frames) (hlo : W + 65 ≤ R.locals) :
    Back l R p e below s args (⟨"java/lang/String", "<init>", "([C)V"⟩ : MethodName) len W (fun P a => a = #[.ref x, .ref b] ∧ P.U.heap = h ∧ P.cells + 1 ≤ R.cells ∧ P.slots + n ≤ R.slots)
      (fun P _ v B => ∃ L, QV Z x N bs h n0 v B.U.heap L ∧ B.locs = P.locs ++ L ∧ B.cells = P.cells + 1 ∧ B.slots = P.slots + n) := by
  subst hn hN hb
  refine Back.mono (backArv hZ hw wi E V C K S hz (n32 (by omega)) l0 (by omega) (fun c hc => (hp c hc).2) hfr hlo) (fun P a hp => hp) (fun P a v B hp hq => ?_)
  obtain ⟨L, ⟨q1, q2, q3, q4, q5, q6, q7, ⟨kb, v1, v2⟩, q9⟩, hl, hc, hs⟩ := hq
  exact ⟨L, ⟨q1, fun y hy => by rw [q2 y hy]; exact hx0, q3, q5, q7, h.size, kb, hh0, Nat.le_refl _, Nat.ne_of_gt E.lt, q6, by rw [List.map_map]; exact v2⟩, hl, hc, hs⟩
end StrChars.Road
namespace StrChars
open Jvm Sem ClassFile Op Lib Jvm.Stand Jvm.Free.XT Jvm.Free.ALB Jvm.Free.JM Jvm.Free
open Jvm.Lib.Cold (StaticIs)
def hi8 (x : Int32) : Int32 := lo8 (x >>> ((8 : Int32) &&& 31))
/-- what StringUTF16.getChar makes of two bytes -/
def pairCh (u v : Int32) : Int32 := (((u &&& 255) <<< ((0 : Int32) &&& 31)) ||| ((v &&& 255) <<< ((8 : Int32) &&& 31))).toUInt32.toUInt16.toUInt32.toInt32
theorem lo8_and (x : Int32) : (lo8 x &&& 255).toBitVec.toNat = x.toBitVec.toNat % 256 := by
  have h : (lo8 x).toBitVec = (x.toBitVec.signExtend 8).signExtend 32 := by rw [lo8, Int8.toBitVec_toInt32, Int32.toBitVec_toInt8]
  rw [Int32.toBitVec_and, BitVec.toNat_and, h]
  have e : ((x.toBitVec.signExtend 8).signExtend 32).toNat % 256 = x.toBitVec.toNat % 256 := by
    rw [BitVec.toNat_signExtend]
    have hlt := x.toBitVec.isLt
    simp only [BitVec.toNat_setWidth, BitVec.toNat_signExtend]
    split <;> split <;> omega
  rw [← e]
  exact Nat.and_two_pow_sub_one_eq_mod _ 8
theorem pair_says {c : Int32} (h0 : ¬ c < 0) (h1 : ¬ 65535 < c) : pairCh (lo8 c) (hi8 c) = c := by
  rw [Int32.lt_iff_toInt_lt] at h0 h1
  have e0 : (0 : Int32).toInt = 0 := rfl
  have e1 : (65535 : Int32).toInt = 65535 := rfl
  have hc : c.toInt = c.toBitVec.toNat := by
    have := c.toBitVec.isLt
    have e : c.toInt = c.toBitVec.toInt := rfl
    rw [e] at h0 h1
    rw [e]
    rw [BitVec.toInt_eq_toNat_cond] at h0 h1 ⊢
    split at h0 <;> split <;> omega
  have hn : c.toBitVec.toNat < 65536 := by omega
  have a1 := lo8_and c
  have a2 : (hi8 c &&& 255).toBitVec.toNat = c.toBitVec.toNat / 256 := by
    rw [hi8, lo8_and]
    have e : ((8 : Int32) &&& 31) = 8 := by decide
    rw [e, Int32.toBitVec_shiftRight]
    have e2 : ((8 : Int32).toBitVec.smod 32) = 8#32 := by decide
    rw [e2, BitVec.sshiftRight_eq', BitVec.toNat_sshiftRight_of_msb_false (by rw [BitVec.msb_eq_false_iff_two_mul_lt]; omega)]
    show c.toBitVec.toNat >>> 8 % 256 = _
    rw [Nat.shiftRight_eq_div_pow]
    omega
  unfold pairCh
  apply Int32.toBitVec_inj.mp
  apply BitVec.eq_of_toNat_eq
  have f0 : ((0 : Int32) &&& 31) = 0 := by decide
  have f8 : ((8 : Int32) &&& 31) = 8 := by decide
  rw [f0, f8]
  have g : (((lo8 c &&& 255) <<< (0 : Int32)) ||| ((hi8 c &&& 255) <<< (8 : Int32))).toBitVec.toNat = c.toBitVec.toNat := by
    rw [Int32.toBitVec_or, Int32.toBitVec_shiftLeft, Int32.toBitVec_shiftLeft]
    have s0 : ((0 : Int32).toBitVec.smod 32) = 0#32 := by decide
    have s8 : ((8 : Int32).toBitVec.smod 32) = 8#32 := by decide
    rw [s0, s8, BitVec.toNat_or]
    simp only [BitVec.shiftLeft_eq', BitVec.toNat_shiftLeft, a1, a2]
    show (c.toBitVec.toNat % 256) <<< 0 % 2 ^ 32 ||| (c.toBitVec.toNat / 256) <<< 8 % 2 ^ 32 = _
    rw [Nat.shiftLeft_zero, Nat.mod_eq_of_lt (show c.toBitVec.toNat % 256 < 2 ^ 32 by omega), Nat.mod_eq_of_lt (show (c.toBitVec.toNat / 256) <<< 8 < 2 ^ 32 by rw [Nat.shiftLeft_eq]; omega), Nat.or_comm, ← Nat.shiftLeft_add_eq_or_of_lt (by omega), Nat.shiftLeft_eq]
    omega
  show BitVec.toNat (((((lo8 c &&& 255) <<< (0 : Int32)) ||| ((hi8 c &&& 255) <<< (8 : Int32))).toBitVec.setWidth 16).setWidth 32) = _
  rw [BitVec.toNat_setWidth, BitVec.toNat_setWidth, g]
  omega
end StrChars
namespace StrChars
open Jvm Sem ClassFile Op Lib Jvm.Stand Jvm.Free.XT Jvm.Free.ALB Jvm.Free.JM Jvm.Free
open Jvm.Lib.Cold (StaticIs)
/-- the array's cell V codes the n chars f 0 .. f (n - 1) by the coder cd, as the JDK does: coder 1 just where some char is above 255 -/
def Cod (cd : Int32) (n : Nat) (f : Nat → Int32) (V : Cell) : Prop := (cd = 0 ∧ V.slots.size = n ∧ ∀ j, j < n → V.slots[j]? = some (.int (lo8 (f j))) ∧ ¬ 255 < f j) ∨ (cd = 1 ∧ V.slots.size = 2 * n ∧ (∀ j, j < n → V.slots[2 * j]? = some (.int (lo8 (f j))) ∧ V.slots[2 * j + 1]? = some (.int (hi8 (f j)))) ∧ ∃ j, j < n ∧ 255 < f j)
/-- **x is a String of the n chars f 0 .. f (n - 1)**, Latin-1 or UTF-16; its array at t has the cell V -/
def Txt (x t : Addr) (V : Cell) (cd : Int32) (n : Nat) (f : Nat → Int32) (U : State) : Prop := Exact "java/lang/String" x U ∧ Has x "java/lang/String" "value" "[B" (.ref t) U ∧ Has x "java/lang/String" "coder" "B" (.int cd) U ∧ XT.Arr .byte t V U ∧ Cod cd n f V ∧ ∀ j, j < n → ¬ f j < 0 ∧ ¬ 65535 < f j
theorem Txt.mv {x t : Addr} {V : Cell} {cd : Int32} {n : Nat} {f : Nat → Int32} {U U' : State} (h : Txt x t V cd n f U) (hal : U.vm.Alike U'.vm) (hh : U'.heap = U.heap) : Txt x t V cd n f U' := ⟨h.1.mv hal hh, h.2.1.mv hal hh, h.2.2.1.mv hal hh, h.2.2.2.1.mv hal hh, h.2.2.2.2⟩
end StrChars
namespace StrChars.Road
open Jvm Sem ClassFile Op Lib Jvm.Stand Jvm.Free Jvm.Free.XT
open Jvm.Lib.Cold (StaticIs)
theorem consq {a : Array Value} {s : State} {c : Jvm.Cond} {L : List Jvm.Cond} (h0 : c.before a s = true) (h : ∀ w ∈ L, w.before a s = true) : ∀ w ∈ c :: L, w.before a s = true := fun w hw => (List.mem_cons.mp hw).elim (fun e => e ▸ h0) (h w)
/-- the bytes of the chars cs, low before high -/
def wideBytes : List Int32 → List Value
  | [] => []
  | c :: cs => .int (lo8 c) :: .int (hi8 c) :: wideBytes cs
theorem wide_lo (d : Value) : ∀ (cs : List Int32) (j : Nat), j < cs.length → (wideBytes cs).getD (2 * j) d = .int (lo8 (cs.getD j 0))
  | [], j, h => absurd h (Nat.not_lt_zero j)
  | c :: cs, 0, _ => rfl
  | c :: cs, j + 1, h => by
    have q := wide_lo d cs j (by simpa using h)
    rw [show 2 * (j + 1) = 2 * j + 1 + 1 from by omega]
    simpa [wideBytes] using q
theorem wide_hi (d : Value) : ∀ (cs : List Int32) (j : Nat), j < cs.length → (wideBytes cs).getD (2 * j + 1) d = .int (hi8 (cs.getD j 0))
  | [], j, h => absurd h (Nat.not_lt_zero j)
  | c :: cs, 0, _ => rfl
  | c :: cs, j + 1, h => by
    have q := wide_hi d cs j (by simpa using h)
    rw [show 2 * (j + 1) + 1 = 2 * j + 1 + 1 + 1 from by omega]
    simpa [wideBytes] using q
theorem low_at (d : Value) (cs : List Int32) (j : Nat) (h : j < cs.length) : (cs.map fun c => Value.int (lo8 c)).getD j d = .int (lo8 (cs.getD j 0)) := by
  simp [List.getD_eq_getElem?_getD, h]
/-- an array of N2 bytes vs codes the chars cs by the coder cd -/
def CodA (cs : List Int32) (cd N2 : Int32) (vs : List Value) : Prop := (cd = 0 ∧ N2 = Int32.ofNat cs.length ∧ vs = (cs.map fun c => Value.int (lo8 c)) ∧ ∀ c ∈ cs, ¬ 255 < c) ∨ (cd = 1 ∧ N2 = Int32.ofNat (2 * cs.length) ∧ vs = wideBytes cs ∧ ∃ c ∈ cs, 255 < c)
theorem CodA.cod {cs : List Int32} {cd N2 : Int32} {vs : List Value} {V : Cell} (h : CodA cs cd N2 vs) (hn : 2 * cs.length < 2 ^ 31) (hs : V.slots.size = N2.toNatClampNeg) (hv : RoadKit.Has V vs (.int 0)) : Cod cd cs.length (fun j => cs.getD j 0) V := by
  rcases h with ⟨rfl, rfl, rfl, h⟩ | ⟨rfl, rfl, rfl, c, hc, hw⟩
  · rw [n32 (by omega)] at hs
    exact Or.inl ⟨rfl, hs, fun j hj => ⟨by rw [hv j (by omega), low_at _ _ _ hj], by
      have e : cs.getD j 0 = cs[j] := by simp [List.getD_eq_getElem?_getD, hj]
      show ¬ 255 < cs.getD j 0
      rw [e]; exact h _ (List.getElem_mem _)⟩⟩
  · rw [n32 (by omega)] at hs
    obtain ⟨j, hj, rfl⟩ := List.getElem_of_mem hc
    exact Or.inr ⟨rfl, hs, fun j hj => ⟨by rw [hv _ (by omega), wide_lo _ _ _ hj], by rw [hv _ (by omega), wide_hi _ _ _ hj]⟩, j, hj, by
      have e : cs.getD j 0 = cs[j] := by simp [List.getD_eq_getElem?_getD, hj]
      show 255 < cs.getD j 0
      rw [e]; exact hw⟩
/-- an object of exactly java/lang/String, its two fields found: as the laws ask it -/
theorem strObj {Z U : State} {a0 : Array Value} {kI : Nat} (wi : (Jvm.Cond.instantiable ST kI).before a0 Z = true) (al : Z.vm.Alike U.vm) {x : Addr} {v0 c0 : Value} (E : RoadKit.Exa Z U.heap x ST) (V : RoadKit.Fld Z U.heap x ST "value" "[B" v0) (C : RoadKit.Fld Z U.heap x ST "coder" "B" c0) :
    ∃ (D : Cell) (fV fC : Field), Blank ST x D U ∧ Found ST "value" "[B" fV U ∧ Found ST "coder" "B" fC U ∧ D.slots[fV.slot]? = some v0 ∧ D.slots[fC.slot]? = some c0 ∧ RoadKit.slotOf Z ST "value" "[B" = fV.slot ∧ RoadKit.slotOf Z ST "coder" "B" = fC.slot := by
  obtain ⟨D, cfV, kV, iV, fV, hD, gV, stV, knV, obV, asV, slV⟩ := V
  obtain ⟨D', cfC, kC, iC, fC, hD', gC, stC, -, -, asC, slC⟩ := C
  cases hD.symm.trans hD'
  obtain ⟨D2, kD, e1, e2, e3, e4, e5⟩ := E
  cases hD.symm.trans e1
  obtain ⟨c2, k2, i1, i2, i3, -⟩ := Cond.instantiable_spec wi
  cases e2.symm.trans i1
  cases e3.symm.trans i2
  obtain ⟨kU, u1, u2⟩ := al.2.2 _ _ e3
  exact ⟨D, fV, fC, ⟨hD, ⟨knV, fun q hq => by rw [hq] at obV; cases obV⟩, by rw [al.findClass]; exact e2, kU, u1, by rw [u2]; exact i3, by rw [u2]; exact e5 i3⟩, ⟨SBG.found_only al ⟨cfV, kV, iV, gV⟩, stV⟩, ⟨SBG.found_only al ⟨cfC, kC, iC, gC⟩, stC⟩, slV, slC, by simp [RoadKit.slotOf, gV], by simp [RoadKit.slotOf, gC]⟩
theorem sta_is {Z U : State} (al : Z.vm.Alike U.vm) {C n d : String} {v : Value} (S : RoadKit.Sta Z U.heap C n d v) : StaticIs U C n d v := by
  obtain ⟨cfS, iS, kS, fS, st, cS, t1, t2, t3, t4, t5, t6, t7⟩ := S
  exact StaticIs.there (s := { Z with heap := U.heap }) ⟨cfS, iS, kS, fS, st, cS, t1, t2, t3, t4, t5, (fun q => by rw [q] at t6; cases t6), t7⟩ al rfl
end StrChars.Road
namespace StrChars
open Jvm Sem ClassFile Op Lib Jvm.Stand Jvm.Free.XT Jvm.Free.ALB Jvm.Free.JM Jvm.Free
open Jvm.Lib.Cold (StaticIs)
/-- what place i of a byte[]'s cell holds -/
def yv (A : Cell) (i : Nat) : Int32 := match A.slots[i]? with | some (.int x) => x | _ => 0
theorem yv_get {a : Addr} {A : Cell} {U : State} (h : XT.Arr .byte a A U) (ht : Typed .byte A) {i : Nat} (hi : i < A.slots.size) : A.slots[i]? = some (.int (yv A i)) := by
  have e := Array.getElem?_eq_getElem hi
  have f := ht i _ e
  unfold yv; rw [e]
  generalize A.slots[i] = v at f
  cases v <;> simp [fits] at f ⊢
/-- the two arrays are equal, place for place -/
def EqC (A B : Cell) : Prop := A.slots.size = B.slots.size ∧ ∀ i, i < A.slots.size → yv A i = yv B i
/-- a boolean that says whether p -/
def Says01 (q : Prop) (r : Option Value) (s u : State) : Prop := ∃ v : Int32, r = some (.int v) ∧ u.heap = s.heap ∧ ((v = 1 ∧ q) ∨ (v = 0 ∧ ¬ q))
theorem Says01.mv {q : Prop} : ∀ r (U U' V V' : State), U'.heap = U.heap → V.vm.Alike V'.vm → V'.heap = V.heap → Says01 q r U V → Says01 q r U' V' :=
  fun r U U' V V' h1 _ h2 ⟨v, a, b, c⟩ => ⟨v, a, by rw [h1, h2]; exact b, c⟩
namespace LEq
def yN : MethodName := ⟨"java/lang/StringLatin1", "equals", "([B[B)Z"⟩
abbrev yB : ByteArray := jdk_43_method_13_code
theorem d0 : decode yB 0 = .ok (.aload_n 0, 1) := by decide +kernel
theorem d1 : decode yB 1 = .ok (.arraylength, 1) := by decide +kernel
theorem d2 : decode yB 2 = .ok (.aload_n 1, 1) := by decide +kernel
theorem d3 : decode yB 3 = .ok (.arraylength, 1) := by decide +kernel
theorem d4 : decode yB 4 = .ok (.if_icmp (.ne) 30, 3) := by decide +kernel
theorem d7 : decode yB 7 = .ok (.iconst 0, 1) := by decide +kernel
theorem d8 : decode yB 8 = .ok (.istore_n 2, 1) := by decide +kernel
theorem d9 : decode yB 9 = .ok (.iload_n 2, 1) := by decide +kernel
theorem d10 : decode yB 10 = .ok (.aload_n 0, 1) := by decide +kernel
theorem d11 : decode yB 11 = .ok (.arraylength, 1) := by decide +kernel
theorem d12 : decode yB 12 = .ok (.if_icmp (.ge) 20, 3) := by decide +kernel
theorem d15 : decode yB 15 = .ok (.aload_n 0, 1) := by decide +kernel
theorem d16 : decode yB 16 = .ok (.iload_n 2, 1) := by decide +kernel
theorem d17 : decode yB 17 = .ok (.baload, 1) := by decide +kernel
theorem d18 : decode yB 18 = .ok (.aload_n 1, 1) := by decide +kernel
theorem d19 : decode yB 19 = .ok (.iload_n 2, 1) := by decide +kernel
theorem d20 : decode yB 20 = .ok (.baload, 1) := by decide +kernel
theorem d21 : decode yB 21 = .ok (.if_icmp (.eq) 5, 3) := by decide +kernel
theorem d24 : decode yB 24 = .ok (.iconst 0, 1) := by decide +kernel
theorem d25 : decode yB 25 = .ok (.ireturn, 1) := by decide +kernel
theorem d26 : decode yB 26 = .ok (.iinc 2 1, 3) := by decide +kernel
theorem d29 : decode yB 29 = .ok (.goto (-20), 3) := by decide +kernel
theorem d32 : decode yB 32 = .ok (.iconst 1, 1) := by decide +kernel
theorem d33 : decode yB 33 = .ok (.ireturn, 1) := by decide +kernel
theorem d34 : decode yB 34 = .ok (.iconst 0, 1) := by decide +kernel
theorem d35 : decode yB 35 = .ok (.ireturn, 1) := by decide +kernel
def site : List Cond := []
def tab : Cond := tabOf yN yB 3 (some .boolean) site
def P (a : Addr) (A : Cell) (b : Addr) (B : Cell) (args : Array Value) (s : State) : Prop := args = #[.ref a, .ref b] ∧ XT.Arr .byte a A s ∧ Typed .byte A ∧ XT.Arr .byte b B s ∧ Typed .byte B
/-- whether two byte[] are equal, place for place -/
theorem law (l : Launch) (a : Addr) (A : Cell) (b : Addr) (B : Cell) : Law l yN 2 2 0 0 yB 3 (some .boolean) site (P a A b B) (Says01 (EqC A B)) [] 0 0 := by
  refine Law.of_walk (plainFor_of_name (by decide +kernel)) (by decide +kernel) (by decide +kernel) (by decide) (fun _ _ h => by rw [h.1]; rfl) (fun _ U U' hal hh h => ⟨h.1, h.2.1.mv hal hh, h.2.2.1, h.2.2.2.1.mv hal hh, h.2.2.2.2⟩) (fun r U U' V V' h1 hal h2 h => Says01.mv r U U' V V' h1 hal h2 h) ?_
  intro p e s m args below meth c s₁ X0 hexec hbytes hml hret hlk hnm hown hh0 W hP
  obtain ⟨rfl, hA, tA, hB, tB⟩ := hP
  have a31 := hA.2.2.2
  have b31 := hB.2.2.2
  have hA0 := hA.mv X0.warmed.alike hh0
  have hB0 := hB.mv X0.warmed.alike hh0
  have c1 : Steps p.tables e below (s₁.setTop (entryFrame m #[.ref a, .ref b] 3)) (s₁.setTop (mkF m 0 #[.val (.ref a), .val (.ref b), .unset] [])) := entry rfl
  have c2 : Steps p.tables e below (s₁.setTop (entryFrame m #[.ref a, .ref b] 3)) (s₁.setTop (mkF m 4 #[.val (.ref a), .val (.ref b), .unset] [.int (Int32.ofNat B.slots.size), .int (Int32.ofNat A.slots.size)])) := c1.trans (by
    refine XS.aloadN X0.here hexec rfl (hb hbytes d0) rfl rfl ?_
    refine X0.alen hexec hA0 rfl rfl (hb hbytes d1) ?_
    refine XS.aloadN X0.here hexec rfl (hb hbytes d2) rfl rfl ?_
    refine X0.alen hexec hB0 rfl rfl (hb hbytes d3) ?_
    exact Steps.refl _)
  by_cases hs : A.slots.size = B.slots.size
  · have c3 : Steps p.tables e below (s₁.setTop (entryFrame m #[.ref a, .ref b] 3)) (s₁.setTop (mkF m 9 #[.val (.ref a), .val (.ref b), .val (.int 0)] [])) := c2.trans (by
      refine XS.icmpNo X0.here hexec rfl (hb hbytes d4) rfl (ii_ne_f (by rw [hs])) ?_
      refine iconstV X0.here hexec rfl 0 (hb hbytes d7) (by decide) ?_
      refine XS.istoreN X0.here hexec rfl (hb hbytes d8) rfl rfl ?_
      exact Steps.refl _)
    have loop : ∀ (r i : Nat), i + r = A.slots.size → (∀ j, j < i → yv A j = yv B j) → Steps p.tables e below (s₁.setTop (entryFrame m #[.ref a, .ref b] 3)) (s₁.setTop (mkF m 9 #[.val (.ref a), .val (.ref b), .val (.int (Int32.ofNat i))] [])) → ∃ (pc : Nat) (Ls : Array Slot) (v : Int32), (pc = 25 ∨ pc = 33) ∧ ((v = 1 ∧ EqC A B) ∨ (v = 0 ∧ ¬ EqC A B)) ∧ Steps p.tables e below (s₁.setTop (entryFrame m #[.ref a, .ref b] 3)) (s₁.setTop (mkF m pc Ls [.int v])) := by
      intro r
      induction r with
      | zero =>
        intro i hi he cl
        exact ⟨33, _, 1, Or.inr rfl, Or.inl ⟨rfl, hs, fun j hj => he j (by omega)⟩, cl.trans (by
          refine XS.iloadN X0.here hexec rfl (hb hbytes d9) rfl ?_
          refine XS.aloadN X0.here hexec rfl (hb hbytes d10) rfl rfl ?_
          refine X0.alen hexec hA0 rfl rfl (hb hbytes d11) ?_
          refine XS.icmpYes X0.here hexec rfl (pc0 := 12) rfl (hb hbytes d12) rfl (ii_ge_t (nlt32 (by omega) (by omega))) (by decide) rfl ?_
          refine iconstV X0.here hexec rfl 1 (hb hbytes d32) (by decide) ?_
          exact Steps.refl _)⟩
      | succ r ih =>
        intro i hi he cl
        have c4 : Steps p.tables e below (s₁.setTop (entryFrame m #[.ref a, .ref b] 3)) (s₁.setTop (mkF m 21 #[.val (.ref a), .val (.ref b), .val (.int (Int32.ofNat i))] [.int (yv B i), .int (yv A i)])) := cl.trans (by
          refine XS.iloadN X0.here hexec rfl (hb hbytes d9) rfl ?_
          refine XS.aloadN X0.here hexec rfl (hb hbytes d10) rfl rfl ?_
          refine X0.alen hexec hA0 rfl rfl (hb hbytes d11) ?_
          refine XS.icmpNo X0.here hexec rfl (hb hbytes d12) rfl (ii_ge_f (lt32 (by omega) (by omega))) ?_
          refine XS.aloadN X0.here hexec rfl (hb hbytes d15) rfl rfl ?_
          refine XS.iloadN X0.here hexec rfl (hb hbytes d16) rfl ?_
          refine X0.aget hexec hA0 rfl (yv_get hA tA (i := i) (by omega)) rfl rfl (hb hbytes d17) ?_
          refine XS.aloadN X0.here hexec rfl (hb hbytes d18) rfl rfl ?_
          refine XS.iloadN X0.here hexec rfl (hb hbytes d19) rfl ?_
          refine X0.aget hexec hB0 rfl (yv_get hB tB (i := i) (by omega)) rfl rfl (hb hbytes d20) ?_
          exact Steps.refl _)
        by_cases hv : yv A i = yv B i
        · have c5 : Steps p.tables e below (s₁.setTop (entryFrame m #[.ref a, .ref b] 3)) (s₁.setTop (mkF m 9 #[.val (.ref a), .val (.ref b), .val (.int (Int32.ofNat i + 1))] [])) := c4.trans (by
            refine XS.icmpYes X0.here hexec rfl (pc0 := 21) rfl (hb hbytes d21) rfl (ii_eq_t hv) (by decide) rfl ?_
            refine iincV X0.here hexec rfl 1 (hb hbytes d26) (by decide) rfl rfl ?_
            refine XS.goto X0.here hexec rfl (pc0 := 29) rfl (hb hbytes d29) (by decide) rfl ?_
            exact Steps.refl _)
          rw [succ32] at c5
          exact ih (i + 1) (by omega) (fun j hj => by
            by_cases e : j = i
            · rw [e]; exact hv
            · exact he j (by omega)) c5
        · exact ⟨25, _, 0, Or.inl rfl, Or.inr ⟨rfl, fun q => hv (q.2 i (by omega))⟩, c4.trans (by
            refine XS.icmpNo X0.here hexec rfl (hb hbytes d21) rfl (ii_eq_f hv) ?_
            refine iconstV X0.here hexec rfl 0 (hb hbytes d24) (by decide) ?_
            exact Steps.refl _)⟩
    obtain ⟨pc, Ls, v, hpc, hv, cz⟩ := loop A.slots.size 0 (by omega) (fun j hj => absurd hj (Nat.not_lt_zero j)) c3
    have nv : narrow .boolean (.int v) = .int v := by rcases hv with ⟨rfl, -⟩ | ⟨rfl, -⟩ <;> rfl
    rcases hpc with rfl | rfl
    · exact ⟨s₁, some (.int v), _, _, _, X0, rfl, rfl, rfl, (fun h => by cases h), ⟨v, rfl, hh0, hv⟩, fun fs hl => cz.trans (X0.ireturnOut hexec hret nv (Or.inr (Or.inl rfl)) (hb hbytes d25) hl)⟩
    · exact ⟨s₁, some (.int v), _, _, _, X0, rfl, rfl, rfl, (fun h => by cases h), ⟨v, rfl, hh0, hv⟩, fun fs hl => cz.trans (X0.ireturnOut hexec hret nv (Or.inr (Or.inl rfl)) (hb hbytes d33) hl)⟩
  · have c3 : Steps p.tables e below (s₁.setTop (entryFrame m #[.ref a, .ref b] 3)) (s₁.setTop (mkF m 35 #[.val (.ref a), .val (.ref b), .unset] [.int 0])) := c2.trans (by
      refine XS.icmpYes X0.here hexec rfl (pc0 := 4) rfl (hb hbytes d4) rfl (ii_ne_t (ne32 a31 b31 hs)) (by decide) rfl ?_
      refine iconstV X0.here hexec rfl 0 (hb hbytes d34) (by decide) ?_
      exact Steps.refl _)
    exact ⟨s₁, some (.int 0), _, _, _, X0, rfl, rfl, rfl, (fun h => by cases h), ⟨0, rfl, hh0, Or.inr ⟨rfl, fun q => hs q.1⟩⟩, fun fs hl => c3.trans (X0.ireturnOut hexec hret rfl (Or.inr (Or.inl rfl)) (hb hbytes d35) hl)⟩
end LEq
theorem Cod.ty {cd : Int32} {n : Nat} {f : Nat → Int32} {V : Cell} (h : Cod cd n f V) : Typed .byte V := fun i v hv => by
  have hi : i < V.slots.size := (Array.getElem?_eq_some_iff.mp hv).1
  rcases h with ⟨-, k1, k2⟩ | ⟨-, k1, k2, -⟩
  · rw [(k2 i (by omega)).1] at hv; cases hv; exact fits_lo8 _
  · rcases Nat.mod_two_eq_zero_or_one i with e | e
    · obtain ⟨j, rfl⟩ : ∃ j, i = 2 * j := ⟨i / 2, by omega⟩
      rw [(k2 j (by omega)).1] at hv; cases hv; exact fits_lo8 _
    · obtain ⟨j, rfl⟩ : ∃ j, i = 2 * j + 1 := ⟨i / 2, by omega⟩
      rw [(k2 j (by omega)).2] at hv; cases hv; exact fits_lo8 _
/-- the same text -/
def SameT (n : Nat) (f : Nat → Int32) (k : Nat) (g : Nat → Int32) : Prop := n = k ∧ ∀ j, j < n → f j = g j
theorem lo8_inj {x y : Int32} (h0 : ¬ x < 0) (h1 : ¬ 255 < x) (k0 : ¬ y < 0) (k1 : ¬ 255 < y) (h : lo8 x = lo8 y) : x = y := by
  rw [← lo8_mask h0 h1, ← lo8_mask k0 k1, h]
/-- arrays coded by one coder are equal just where the texts are -/
theorem Cod.eqv {cd : Int32} {n k : Nat} {f g : Nat → Int32} {V V' : Cell} (h : Cod cd n f V) (h' : Cod cd k g V') (hf : ∀ j, j < n → ¬ f j < 0 ∧ ¬ 65535 < f j) (hg : ∀ j, j < k → ¬ g j < 0 ∧ ¬ 65535 < g j) : EqC V V' ↔ SameT n f k g := by
  have yvv : ∀ {W : Cell} {i : Nat} {x : Int32}, W.slots[i]? = some (.int x) → yv W i = x := fun q => by unfold yv; rw [q]
  rcases h with ⟨rfl, k1, k2⟩ | ⟨rfl, k1, k2, -⟩
  · rcases h' with ⟨-, m1, m2⟩ | ⟨e, -⟩
    · constructor
      · rintro ⟨e1, e2⟩
        refine ⟨by omega, fun j hj => ?_⟩
        have q := e2 j (by omega)
        rw [yvv (k2 j hj).1, yvv (m2 j (by omega)).1] at q
        exact lo8_inj (hf j hj).1 (k2 j hj).2 (hg j (by omega)).1 (m2 j (by omega)).2 q
      · rintro ⟨rfl, e2⟩
        refine ⟨by omega, fun j hj => ?_⟩
        rw [yvv (k2 j (by omega)).1, yvv (m2 j (by omega)).1, e2 j (by omega)]
    · exact absurd e (by decide)
  · rcases h' with ⟨e, -⟩ | ⟨-, m1, m2, -⟩
    · exact absurd e (by decide)
    · constructor
      · rintro ⟨e1, e2⟩
        refine ⟨by omega, fun j hj => ?_⟩
        have q1 := e2 (2 * j) (by omega)
        have q2 := e2 (2 * j + 1) (by omega)
        rw [yvv (k2 j hj).1, yvv (m2 j (by omega)).1] at q1
        rw [yvv (k2 j hj).2, yvv (m2 j (by omega)).2] at q2
        rw [← pair_says (hf j hj).1 (hf j hj).2, ← pair_says (hg j (by omega)).1 (hg j (by omega)).2, q1, q2]
      · rintro ⟨rfl, e2⟩
        refine ⟨by omega, fun i hi => ?_⟩
        rcases Nat.mod_two_eq_zero_or_one i with e | e
        · obtain ⟨j, rfl⟩ : ∃ j, i = 2 * j := ⟨i / 2, by omega⟩
          rw [yvv (k2 j (by omega)).1, yvv (m2 j (by omega)).1, e2 j (by omega)]
        · obtain ⟨j, rfl⟩ : ∃ j, i = 2 * j + 1 := ⟨i / 2, by omega⟩
          rw [yvv (k2 j (by omega)).2, yvv (m2 j (by omega)).2, e2 j (by omega)]
/-- two codings differ: so do the texts -/
theorem Cod.dif {cd cd' : Int32} {n k : Nat} {f g : Nat → Int32} {V V' : Cell} (h : Cod cd n f V) (h' : Cod cd' k g V') (hne : ¬ cd = cd') : ¬ SameT n f k g := by
  rintro ⟨rfl, e⟩
  rcases h with ⟨rfl, -, k2⟩ | ⟨rfl, -, -, j, hj, hw⟩
  · rcases h' with ⟨rfl, -⟩ | ⟨-, -, -, j, hj, hw⟩
    · exact hne rfl
    · exact (k2 j hj).2 (by rw [e j hj]; exact hw)
  · rcases h' with ⟨-, -, m2⟩ | ⟨rfl, -⟩
    · exact (m2 j hj).2 (by rw [← e j hj]; exact hw)
    · exact hne rfl
/-- an object of exactly C is an instance of C -/
theorem cinst {p : Program} {l : Launch} {e : Env} {R : Room} {s : State} {m : MethodId} {args : Array Value} {below : List Frame} {meth : Method} {c : Code} {T : State} {locs : List Loc} {cells slots : Nat} (X : Stand p l e R s m args below meth c T locs cells slots) (hexec : p.tables.exec = Jvm.exec) {own C : String} {index : Nat} (hown : s.vm.findClass own = some m.cls) (hlink : (Cond.classLink own index C).before args s = true) {a : Addr} (hE : Exact C a T)
    {g : JFrame} (hg : g.method = m) {rest : List Value} (hstack : g.stack = .ref a :: rest) (hdg : decode c.code g.pc = .ok (.instanceof index, 3)) :
    ∃ T', Stand p l e R s m args below meth c T' locs cells slots ∧ T'.heap = T.heap ∧ ∀ target, Steps p.tables e below (T'.setTop { g with pc := g.pc + 3, stack := .int 1 :: rest }) target → Steps p.tables e below (T.setTop g) target := by
  obtain ⟨cB, h1, D, h2, h3, h4⟩ := hE
  have h1' : s.vm.findClass C = some cB := by rw [← X.warmed.alike.findClass]; exact h1
  obtain ⟨vm', X', st⟩ := X.instanceofYes hexec hown hlink h2 h4 h1' (by rw [h3]; exact Jvm.Free.SB.assignable_self _ _) hg hstack hdg
  exact ⟨_, X', rfl, st⟩
theorem cself {p : Program} {l : Launch} {e : Env} {R : Room} {s : State} {m : MethodId} {args : Array Value} {below : List Frame} {meth : Method} {c : Code} {T : State} {locs : List Loc} {cells slots : Nat} (X : Stand p l e R s m args below meth c T locs cells slots) (hexec : p.tables.exec = Jvm.exec) {own C : String} {index : Nat} (hown : s.vm.findClass own = some m.cls) (hlink : (Cond.classLink own index C).before args s = true) {a : Addr} (hE : Exact C a T)
    {g : JFrame} (hg : g.method = m) {rest : List Value} (hstack : g.stack = .ref a :: rest) (hdg : decode c.code g.pc = .ok (.checkcast index, 3)) :
    ∃ T', Stand p l e R s m args below meth c T' locs cells slots ∧ T'.heap = T.heap ∧ ∀ target, Steps p.tables e below (T'.setTop { g with pc := g.pc + 3, stack := .ref a :: rest }) target → Steps p.tables e below (T.setTop g) target := by
  obtain ⟨cB, h1, D, h2, h3, h4⟩ := hE
  have h1' : s.vm.findClass C = some cB := by rw [← X.warmed.alike.findClass]; exact h1
  obtain ⟨vm', X', st⟩ := X.checkcastYes hexec hown hlink h2 h4 h1' (by rw [h3]; exact Jvm.Free.SB.assignable_self _ _) hg hstack hdg
  exact ⟨_, X', rfl, fun t h => st t (by rw [← hstack] at h; exact h)⟩
namespace SEq
def yN : MethodName := ⟨"java/lang/String", "equals", "(Ljava/lang/Object;)Z"⟩
abbrev yB : ByteArray := jdk_42_method_66_code
theorem d0 : decode yB 0 = .ok (.aload_n 0, 1) := by decide +kernel
theorem d1 : decode yB 1 = .ok (.aload_n 1, 1) := by decide +kernel
theorem d2 : decode yB 2 = .ok (.if_acmp (.ne) 5, 3) := by decide +kernel
theorem d5 : decode yB 5 = .ok (.iconst 1, 1) := by decide +kernel
theorem d6 : decode yB 6 = .ok (.ireturn, 1) := by decide +kernel
theorem d7 : decode yB 7 = .ok (.aload_n 1, 1) := by decide +kernel
theorem d8 : decode yB 8 = .ok (.instanceof 10, 3) := by decide +kernel
theorem d11 : decode yB 11 = .ok (.ifCond (.eq) 43, 3) := by decide +kernel
theorem d14 : decode yB 14 = .ok (.aload_n 1, 1) := by decide +kernel
theorem d15 : decode yB 15 = .ok (.checkcast 10, 3) := by decide +kernel
theorem d18 : decode yB 18 = .ok (.astore_n 2, 1) := by decide +kernel
theorem d19 : decode yB 19 = .ok (.getstatic 38, 3) := by decide +kernel
theorem d22 : decode yB 22 = .ok (.ifCond (.eq) 14, 3) := by decide +kernel
theorem d25 : decode yB 25 = .ok (.aload_n 0, 1) := by decide +kernel
theorem d26 : decode yB 26 = .ok (.getfield 15, 3) := by decide +kernel
theorem d29 : decode yB 29 = .ok (.aload_n 2, 1) := by decide +kernel
theorem d30 : decode yB 30 = .ok (.getfield 15, 3) := by decide +kernel
theorem d33 : decode yB 33 = .ok (.if_icmp (.ne) 21, 3) := by decide +kernel
theorem d36 : decode yB 36 = .ok (.aload_n 0, 1) := by decide +kernel
theorem d37 : decode yB 37 = .ok (.getfield 9, 3) := by decide +kernel
theorem d40 : decode yB 40 = .ok (.aload_n 2, 1) := by decide +kernel
theorem d41 : decode yB 41 = .ok (.getfield 9, 3) := by decide +kernel
theorem d44 : decode yB 44 = .ok (.invokestatic 541, 3) := by decide +kernel
theorem d47 : decode yB 47 = .ok (.ifCond (.eq) 7, 3) := by decide +kernel
theorem d50 : decode yB 50 = .ok (.iconst 1, 1) := by decide +kernel
theorem d51 : decode yB 51 = .ok (.goto 4, 3) := by decide +kernel
theorem d54 : decode yB 54 = .ok (.iconst 0, 1) := by decide +kernel
theorem d55 : decode yB 55 = .ok (.ireturn, 1) := by decide +kernel
def site : List Cond := [.classLink "java/lang/String" 10 "java/lang/String", .fieldLink "java/lang/String" 38 "java/lang/String" "COMPACT_STRINGS" "Z", .fieldLink "java/lang/String" 15 "java/lang/String" "coder" "B", .fieldLink "java/lang/String" 9 "java/lang/String" "value" "[B", LEq.tab] ++ staticW "java/lang/String" 541 LEq.yN
def tab : Cond := tabOf yN yB 3 (some .boolean) site
def P (x t : Addr) (V : Cell) (cd : Int32) (n : Nat) (f : Nat → Int32) (y t' : Addr) (V' : Cell) (cd' : Int32) (k : Nat) (g : Nat → Int32) (z : Int32) (args : Array Value) (s : State) : Prop := args = #[.ref x, .ref y] ∧ Txt x t V cd n f s ∧ Txt y t' V' cd' k g s ∧ StaticIs s "java/lang/String" "COMPACT_STRINGS" "Z" (.int z) ∧ ¬ z = 0
/-- equals(Object) of two Strings: whether the texts are the same -/
theorem law (l : Launch) (x t : Addr) (V : Cell) (cd : Int32) (n : Nat) (f : Nat → Int32) (y t' : Addr) (V' : Cell) (cd' : Int32) (k : Nat) (g : Nat → Int32) (z : Int32) : Law l yN 2 1 1 14 yB 3 (some .boolean) site (P x t V cd n f y t' V' cd' k g z) (Says01 (SameT n f k g)) [] 0 0 := by
  refine Law.of_walk (plainFor_of_name (by decide +kernel)) (by decide +kernel) (by decide +kernel) (by decide) (fun _ _ h => by rw [h.1]; rfl) (fun _ U U' hal hh h => ⟨h.1, h.2.1.mv hal hh, h.2.2.1.mv hal hh, h.2.2.2.1.there hal hh, h.2.2.2.2⟩) (fun r U U' V V' h1 hal h2 h => Says01.mv r U U' V V' h1 hal h2 h) ?_
  intro p e s m args below meth c s₁ X0 hexec hbytes hml hret hlk hnm hown hh0 W hP
  obtain ⟨rfl, hx, hy, s1, hz⟩ := hP
  have c1 : Steps p.tables e below (s₁.setTop (entryFrame m #[.ref x, .ref y] 3)) (s₁.setTop (mkF m 2 #[.val (.ref x), .val (.ref y), .unset] [.ref y, .ref x])) := Steps.trans (entry rfl) (by
    show Steps p.tables e below (s₁.setTop (mkF m 0 #[.val (.ref x), .val (.ref y), .unset] [])) _
    refine XS.aloadN X0.here hexec rfl (hb hbytes d0) rfl rfl ?_
    refine XS.aloadN X0.here hexec rfl (hb hbytes d1) rfl rfl ?_
    exact Steps.refl _)
  by_cases hxy : x = y
  · have c2 : Steps p.tables e below (s₁.setTop (entryFrame m #[.ref x, .ref y] 3)) (s₁.setTop (mkF m 6 #[.val (.ref x), .val (.ref y), .unset] [.int 1])) := c1.trans (by
      refine acmpNo X0.here hexec rfl (hb hbytes d2) rfl rfl rfl (by simp [acmp, hxy]) ?_
      refine iconstV X0.here hexec rfl 1 (hb hbytes d5) (by decide) ?_
      exact Steps.refl _)
    subst hxy
    have ec : cd = cd' := by
      obtain ⟨D, fd, a1, a2, a3⟩ := hx.2.2.1
      obtain ⟨D', fd', b1, b2, b3⟩ := hy.2.2.1
      cases a1.symm.trans b1
      obtain ⟨q1, q2, q3, q4⟩ := a2.1
      obtain ⟨r1, r2, r3, r4⟩ := b2.1
      cases q4.symm.trans r4
      cases a3.symm.trans b3; rfl
    have et : t = t' := by
      obtain ⟨D, fd, a1, a2, a3⟩ := hx.2.1
      obtain ⟨D', fd', b1, b2, b3⟩ := hy.2.1
      cases a1.symm.trans b1
      obtain ⟨q1, q2, q3, q4⟩ := a2.1
      obtain ⟨r1, r2, r3, r4⟩ := b2.1
      cases q4.symm.trans r4
      cases a3.symm.trans b3; rfl
    subst ec et
    have ev : V = V' := by cases hx.2.2.2.1.1.symm.trans hy.2.2.2.1.1; rfl
    subst ev
    have hs : SameT n f k g := (Cod.eqv hx.2.2.2.2.1 hy.2.2.2.2.1 hx.2.2.2.2.2 hy.2.2.2.2.2).mp ⟨rfl, fun _ _ => rfl⟩
    exact ⟨s₁, some (.int 1), _, _, _, X0, rfl, rfl, rfl, (fun h => by cases h), ⟨1, rfl, hh0, Or.inl ⟨rfl, hs⟩⟩, fun fs hl => c2.trans (X0.ireturnOut hexec hret rfl (Or.inr (Or.inl rfl)) (hb hbytes d6) hl)⟩
  · have c2 : Steps p.tables e below (s₁.setTop (entryFrame m #[.ref x, .ref y] 3)) (s₁.setTop (mkF m 8 #[.val (.ref x), .val (.ref y), .unset] [.ref y])) := c1.trans (by
      refine acmpYes X0.here hexec rfl (pc0 := 2) rfl (hb hbytes d2) rfl rfl rfl (by simp [acmp, hxy]) (by decide) rfl ?_
      refine XS.aloadN X0.here hexec rfl (hb hbytes d7) rfl rfl ?_
      exact Steps.refl _)
    obtain ⟨T3, X3, q3, st3⟩ := cinst X0 hexec hown (wk W (.classLink "java/lang/String" 10 "java/lang/String")) (hy.mv X0.warmed.alike hh0).1 (g := (mkF m 8 #[.val (.ref x), .val (.ref y), .unset] [.ref y])) rfl (rest := []) rfl (hb hbytes d8)
    have hh3 := q3.trans hh0
    have c4 : Steps p.tables e below (s₁.setTop (entryFrame m #[.ref x, .ref y] 3)) (T3.setTop (mkF m 15 #[.val (.ref x), .val (.ref y), .unset] [.ref y])) := (c2.trans (st3 _ (Steps.refl _))).trans (by
      refine XS.ifNo X3.here hexec rfl (hb hbytes d11) rfl (i0_eq_f (by decide)) ?_
      refine XS.aloadN X3.here hexec rfl (hb hbytes d14) rfl rfl ?_
      exact Steps.refl _)
    obtain ⟨T5, X5, q5, st5⟩ := cself X3 hexec hown (wk W (.classLink "java/lang/String" 10 "java/lang/String")) (hy.mv X3.warmed.alike hh3).1 (g := (mkF m 15 #[.val (.ref x), .val (.ref y), .unset] [.ref y])) rfl (rest := []) rfl (hb hbytes d15)
    have hh5 := q5.trans hh3
    have c6 : Steps p.tables e below (s₁.setTop (entryFrame m #[.ref x, .ref y] 3)) (T5.setTop (mkF m 19 #[.val (.ref x), .val (.ref y), .val (.ref y)] [])) := (c4.trans (st5 _ (Steps.refl _))).trans (by
      refine XS.astoreN X5.here hexec rfl (hb hbytes d18) rfl rfl rfl ?_
      exact Steps.refl _)
    obtain ⟨T7, X7, q7, st7⟩ := X5.sget hexec hown (wk W (.fieldLink "java/lang/String" 38 "java/lang/String" "COMPACT_STRINGS" "Z")) s1 (fun _ _ h => by rw [hh5]; exact h) (g := (mkF m 19 #[.val (.ref x), .val (.ref y), .val (.ref y)] [])) rfl (hb hbytes d19)
    have hh7 := q7.trans hh5
    have c8 : Steps p.tables e below (s₁.setTop (entryFrame m #[.ref x, .ref y] 3)) (T7.setTop (mkF m 26 #[.val (.ref x), .val (.ref y), .val (.ref y)] [.ref x])) := (c6.trans (st7 _ (Steps.refl _))).trans (by
      refine XS.ifNo X7.here hexec rfl (hb hbytes d22) rfl (i0_eq_f hz) ?_
      refine XS.aloadN X7.here hexec rfl (hb hbytes d25) rfl rfl ?_
      exact Steps.refl _)
    obtain ⟨T9, X9, q9, st9⟩ := X7.hget hexec hown (wk W (.fieldLink "java/lang/String" 15 "java/lang/String" "coder" "B")) (hx.mv X7.warmed.alike hh7).2.2.1 (g := (mkF m 26 #[.val (.ref x), .val (.ref y), .val (.ref y)] [.ref x])) rfl (rest := []) rfl (hb hbytes d26)
    have hh9 := q9.trans hh7
    have c10 : Steps p.tables e below (s₁.setTop (entryFrame m #[.ref x, .ref y] 3)) (T9.setTop (mkF m 30 #[.val (.ref x), .val (.ref y), .val (.ref y)] [.ref y, .int cd])) := (c8.trans (st9 _ (Steps.refl _))).trans (by
      refine XS.aloadN X9.here hexec rfl (hb hbytes d29) rfl rfl ?_
      exact Steps.refl _)
    obtain ⟨T11, X11, q11, st11⟩ := X9.hget hexec hown (wk W (.fieldLink "java/lang/String" 15 "java/lang/String" "coder" "B")) (hy.mv X9.warmed.alike hh9).2.2.1 (g := (mkF m 30 #[.val (.ref x), .val (.ref y), .val (.ref y)] [.ref y, .int cd])) rfl (rest := [.int cd]) rfl (hb hbytes d30)
    have hh11 := q11.trans hh9
    have c12 : Steps p.tables e below (s₁.setTop (entryFrame m #[.ref x, .ref y] 3)) (T11.setTop (mkF m 33 #[.val (.ref x), .val (.ref y), .val (.ref y)] [.int cd', .int cd])) := c10.trans (st11 _ (Steps.refl _))
    by_cases hcd : cd = cd'
    · subst hcd
      have c13 : Steps p.tables e below (s₁.setTop (entryFrame m #[.ref x, .ref y] 3)) (T11.setTop (mkF m 37 #[.val (.ref x), .val (.ref y), .val (.ref y)] [.ref x])) := c12.trans (by
        refine XS.icmpNo X11.here hexec rfl (hb hbytes d33) rfl (ii_ne_f rfl) ?_
        refine XS.aloadN X11.here hexec rfl (hb hbytes d36) rfl rfl ?_
        exact Steps.refl _)
      obtain ⟨T14, X14, q14, st14⟩ := X11.hget hexec hown (wk W (.fieldLink "java/lang/String" 9 "java/lang/String" "value" "[B")) (hx.mv X11.warmed.alike hh11).2.1 (g := (mkF m 37 #[.val (.ref x), .val (.ref y), .val (.ref y)] [.ref x])) rfl (rest := []) rfl (hb hbytes d37)
      have hh14 := q14.trans hh11
      have c15 : Steps p.tables e below (s₁.setTop (entryFrame m #[.ref x, .ref y] 3)) (T14.setTop (mkF m 41 #[.val (.ref x), .val (.ref y), .val (.ref y)] [.ref y, .ref t])) := (c13.trans (st14 _ (Steps.refl _))).trans (by
        refine XS.aloadN X14.here hexec rfl (hb hbytes d40) rfl rfl ?_
        exact Steps.refl _)
      obtain ⟨T16, X16, q16, st16⟩ := X14.hget hexec hown (wk W (.fieldLink "java/lang/String" 9 "java/lang/String" "value" "[B")) (hy.mv X14.warmed.alike hh14).2.1 (g := (mkF m 41 #[.val (.ref x), .val (.ref y), .val (.ref y)] [.ref y, .ref t])) rfl (rest := [.ref t]) rfl (hb hbytes d41)
      have hh16 := q16.trans hh14
      have c17 : Steps p.tables e below (s₁.setTop (entryFrame m #[.ref x, .ref y] 3)) (T16.setTop (mkF m 44 #[.val (.ref x), .val (.ref y), .val (.ref y)] [.ref t', .ref t])) := c15.trans (st16 _ (Steps.refl _))
      obtain ⟨v18, T18, X18, E18, g18⟩ := X16.callS hexec (LEq.law l t V t' V') hown (wks W (staticW "java/lang/String" 541 LEq.yN)) (wk W LEq.tab) (W := 0) (Nat.le_of_ble_eq_true rfl) (Nat.le_of_ble_eq_true rfl) (Nat.le_refl _) (Nat.le_refl _) (g := (mkF m 44 #[.val (.ref x), .val (.ref y), .val (.ref y)] [.ref t', .ref t])) rfl (by rw [hml]; rfl) c17 (argsL := [.ref t, .ref t']) (rest := []) rfl rfl (by show 2 * 0 + 0 ≤ _; decide) (hb hbytes d44) (⟨rfl, hx.2.2.2.1.mv X16.warmed.alike hh16, hx.2.2.2.2.1.ty, hy.2.2.2.1.mv X16.warmed.alike hh16, hy.2.2.2.2.1.ty⟩)
      obtain ⟨v, rfl, q18, hv⟩ := E18
      have iff := Cod.eqv hx.2.2.2.2.1 hy.2.2.2.2.1 hx.2.2.2.2.2 hy.2.2.2.2.2
      rcases hv with ⟨rfl, he⟩ | ⟨rfl, he⟩
      · have c19 : Steps p.tables e below (s₁.setTop (entryFrame m #[.ref x, .ref y] 3)) (T18.setTop (mkF m 55 #[.val (.ref x), .val (.ref y), .val (.ref y)] [.int 1])) := Steps.trans g18 (by
          refine XS.ifNo X18.here hexec rfl (hb hbytes d47) rfl (i0_eq_f (by decide)) ?_
          refine iconstV X18.here hexec rfl 1 (hb hbytes d50) (by decide) ?_
          refine XS.goto X18.here hexec rfl (pc0 := 51) rfl (hb hbytes d51) (by decide) rfl ?_
          exact Steps.refl _)
        exact ⟨T18, some (.int 1), _, _, _, X18, rfl, rfl, rfl, (fun h => by cases h), ⟨1, rfl, q18.trans hh16, Or.inl ⟨rfl, iff.mp he⟩⟩, fun fs hl => c19.trans (X18.ireturnOut hexec hret rfl (Or.inr (Or.inl rfl)) (hb hbytes d55) hl)⟩
      · have c19 : Steps p.tables e below (s₁.setTop (entryFrame m #[.ref x, .ref y] 3)) (T18.setTop (mkF m 55 #[.val (.ref x), .val (.ref y), .val (.ref y)] [.int 0])) := Steps.trans g18 (by
          refine XS.ifYes X18.here hexec rfl (pc0 := 47) rfl (hb hbytes d47) rfl (i0_eq_t rfl) (by decide) rfl ?_
          refine iconstV X18.here hexec rfl 0 (hb hbytes d54) (by decide) ?_
          exact Steps.refl _)
        exact ⟨T18, some (.int 0), _, _, _, X18, rfl, rfl, rfl, (fun h => by cases h), ⟨0, rfl, q18.trans hh16, Or.inr ⟨rfl, fun q => he (iff.mpr q)⟩⟩, fun fs hl => c19.trans (X18.ireturnOut hexec hret rfl (Or.inr (Or.inl rfl)) (hb hbytes d55) hl)⟩
    · have c13 : Steps p.tables e below (s₁.setTop (entryFrame m #[.ref x, .ref y] 3)) (T11.setTop (mkF m 55 #[.val (.ref x), .val (.ref y), .val (.ref y)] [.int 0])) := c12.trans (by
        refine XS.icmpYes X11.here hexec rfl (pc0 := 33) rfl (hb hbytes d33) rfl (ii_ne_t hcd) (by decide) rfl ?_
        refine iconstV X11.here hexec rfl 0 (hb hbytes d54) (by decide) ?_
        exact Steps.refl _)
      exact ⟨T11, some (.int 0), _, _, _, X11, rfl, rfl, rfl, (fun h => by cases h), ⟨0, rfl, hh11, Or.inr ⟨rfl, Cod.dif hx.2.2.2.2.1 hy.2.2.2.2.1 hcd⟩⟩, fun fs hl => c13.trans (X11.ireturnOut hexec hret rfl (Or.inr (Or.inl rfl)) (hb hbytes d55) hl)⟩
theorem pays {l : Launch} {R : Room} {p : Program} {e : Env} {below : List Frame} {s : State} {sargs : Array Value} {len W : Nat} (x t : Addr) (V : Cell) (cd : Int32) (n : Nat) (f : Nat → Int32) (y t' : Addr) (V' : Cell) (cd' : Int32) (k : Nat) (g : Nat → Int32) (z : Int32) (htab : tab.before sargs s = true) (hfr : 2 ≤ R.frames) (hlo : W + 28 ≤ R.locals) :
    Back l R p e below s sargs yN len W (fun A₁ a₁ => A₁.cells + 0 ≤ R.cells ∧ A₁.slots + 0 ≤ R.slots ∧ P x t V cd n f y t' V' cd' k g z a₁ A₁.U) (fun A₁ _ v₁ B₁ => Says01 (SameT n f k g) v₁ A₁.U B₁.U ∧ B₁.locs = A₁.locs ++ [] ∧ B₁.cells = A₁.cells + 0 ∧ B₁.slots = A₁.slots + 0) :=
  (law l x t V cd n f y t' V' cd' k g z).pays htab hfr (by omega)
end SEq
end StrChars
namespace StrChars.Road
open Jvm Sem ClassFile Op Lib Jvm.Stand Jvm.Free Jvm.Free.XT
open Jvm.Lib.Cold (StaticIs)
/-- the words of String.equals(Object) -/
abbrev wordsEq : List Jvm.Cond := [.code SEq.yN SEq.yB 3 (some .boolean), .initialized ST, .classLink ST 10 ST, .fieldLink ST 38 ST "COMPACT_STRINGS" "Z", .fieldLink ST 15 ST "coder" "B", .fieldLink ST 9 ST "value" "[B", .methodLink ST 541 LEq.yN, .static LEq.yN, .code LEq.yN LEq.yB 3 (some .boolean), .initialized "java/lang/StringLatin1"]
theorem tabEq_of {a : Array Value} {s : State} (h : ∀ w ∈ wordsEq, w.before a s = true) : SEq.tab.before a s = true := by
  have hl : LEq.tab.before a s = true := unparts (wk h (.code LEq.yN LEq.yB 3 (some .boolean))) (wks h (.initialized LEq.yN.cls :: LEq.site))
  have q := consq hl h
  exact unparts (wk q (.code SEq.yN SEq.yB 3 (some .boolean))) (wks q (.initialized SEq.yN.cls :: SEq.site))
theorem movedEq {Z s : State} {a0 args : Array Value} (hZ : Z.Warmed39 s.vm) (hw : ∀ d ∈ wordsEq, d.before a0 Z = true) : ∀ d ∈ wordsEq, d.before args s = true := fun d hd => by
  have t : ∀ d ∈ wordsEq, (d.onTables && d.keepsFace) = true := by decide +kernel
  exact RoadKit.mv hZ (hw d hd) (t d hd)
/-- the road's facts of a String, as the laws ask it -/
theorem txt_of {Z U : State} {a0 : Array Value} {kI : Nat} (wi : (Jvm.Cond.instantiable ST kI).before a0 Z = true) (al : Z.vm.Alike U.vm) {x t : Addr} {kb : ClassId} {cs : List Int32} {cd N2 : Int32} {vs : List Value} (E : RoadKit.Exa Z U.heap x ST) (V : RoadKit.Fld Z U.heap x ST "value" "[B" (.ref t)) (C : RoadKit.Fld Z U.heap x ST "coder" "B" (.int cd)) (K : RoadKit.Arv Z U.heap t kb .byte N2 vs (.int 0)) (hc : CodA cs cd N2 vs) (hb : ∀ c ∈ cs, ¬ c < 0 ∧ ¬ (65535 : Int32) < c) (l2 : cs.length ≤ 4000) :
    ∃ A, Txt x t A cd cs.length (fun j => cs.getD j 0) U := by
  obtain ⟨A, K1, K2, K3, K4, K5, K6⟩ := K
  have hcod := hc.cod (by omega) K3 K5
  obtain ⟨D, fV, fC, hB, F1, F2, g1, g2, -, -⟩ := strObj wi al E V C
  exact ⟨A, ⟨_, hB.2.2.1, D, hB.1, rfl, by cases q : D.vm <;> first | rfl | exact absurd q (hB.2.1.2 _)⟩, Has.of hB F1 g1, Has.of hB F2 g2, ⟨K1.1, State.isArrayOf_alike al K1.2.1, K1.2.2, by rcases hcod with ⟨-, q, -⟩ | ⟨-, q, -⟩ <;> omega⟩, hcod, fun j hj => by
    have e : cs.getD j 0 = cs[j] := by simp [List.getD_eq_getElem?_getD, hj]
    show ¬ cs.getD j 0 < 0 ∧ ¬ 65535 < cs.getD j 0
    rw [e]; exact hb _ (List.getElem_mem _)⟩
theorem same_list (cs ds : List Int32) : SameT cs.length (fun j => cs.getD j 0) ds.length (fun j => ds.getD j 0) ↔ cs = ds := by
  constructor
  · rintro ⟨e, q⟩
    refine List.ext_getElem e fun j h1 h2 => ?_
    have := q j h1
    simpa [List.getD_eq_getElem?_getD, h1, h2] using this
  · rintro rfl
    exact ⟨rfl, fun _ _ => rfl⟩
/-- **equals(Object) OF TWO SUCH STRINGS**: 1 just where the chars are the same -/
theorem eqW {p : Program} {l : Launch} {e : Env} {R : Room} {s : State} {args : Array Value} {below : List Frame} {len W : Nat} {Z : State} {a0 : Array Value} {h : Heap} (hZ : Z.Warmed39 s.vm) (hw : ∀ d ∈ wordsEq, d.before a0 Z = true) {kI : Nat} (wi : (Jvm.Cond.instantiable ST kI).before a0 Z = true)
    {x t : Addr} {kb : ClassId} {cs : List Int32} {cd N2 : Int32} {vs : List Value} (E : RoadKit.Exa Z h x ST) (V : RoadKit.Fld Z h x ST "value" "[B" (.ref t)) (C : RoadKit.Fld Z h x ST "coder" "B" (.int cd)) (K : RoadKit.Arv Z h t kb .byte N2 vs (.int 0)) (hc : CodA cs cd N2 vs) (hb : ∀ c ∈ cs, ¬ c < 0 ∧ ¬ (65535 : Int32) < c) (l2 : cs.length ≤ 4000)
    {y t' : Addr} {kb' : ClassId} {ds : List Int32} {cd' N2' : Int32} {vs' : List Value} (E' : RoadKit.Exa Z h y ST) (V' : RoadKit.Fld Z h y ST "value" "[B" (.ref t')) (C' : RoadKit.Fld Z h y ST "coder" "B" (.int cd')) (K' : RoadKit.Arv Z h t' kb' .byte N2' vs' (.int 0)) (hc' : CodA ds cd' N2' vs') (hb' : ∀ c ∈ ds, ¬ c < 0 ∧ ¬ (65535 : Int32) < c) (l2' : ds.length ≤ 4000)
    {z : Int32} (S : RoadKit.Sta Z h ST "COMPACT_STRINGS" "Z" (.int z)) (hz : ¬ z = 0) (hfr : 2 ≤ R.frames) (hlo : W + 28 ≤ R.locals) :
    Back l R p e below s args (⟨"java/lang/String", "equals", "(Ljava/lang/Object;)Z"⟩ : MethodName) len W (fun P a => a = #[.ref x, .ref y] ∧ P.U.heap = h ∧ P.cells + 0 ≤ R.cells ∧ P.slots + 0 ≤ R.slots)
      (fun P _ v B => ∃ L, (((v = some (.int 1) ∧ cs = ds) ∨ (v = some (.int 0) ∧ ¬ cs = ds)) ∧ L = [] ∧ B.U.heap = h) ∧ B.locs = P.locs ++ L ∧ B.cells = P.cells + 0 ∧ B.slots = P.slots + 0) := by
  intro m meth c P g ig mk a X hg hsize hdg hW hn hp'
  obtain ⟨rfl, rfl, r1, r2⟩ := hp'
  have al : Z.vm.Alike P.U.vm := hZ.alike.trans X.warmed.alike
  obtain ⟨A, hx⟩ := txt_of wi al E V C K hc hb l2
  obtain ⟨A', hy⟩ := txt_of wi al E' V' C' K' hc' hb' l2'
  obtain ⟨v, B, X', ⟨⟨w, hv, hh, hq⟩, hl, hk, hs⟩, st⟩ := SEq.pays x t A cd cs.length (fun j => cs.getD j 0) y t' A' cd' ds.length (fun j => ds.getD j 0) z (tabEq_of (movedEq hZ hw)) hfr hlo m meth c P g ig mk _ X hg hsize hdg hW hn ⟨r1, r2, rfl, hx, hy, sta_is al S, hz⟩
  refine ⟨v, B, X', ⟨[], ⟨?_, rfl, hh⟩, hl, hk, hs⟩, st⟩
  rcases hq with ⟨rfl, q⟩ | ⟨rfl, q⟩
  · exact Or.inl ⟨hv, (same_list cs ds).mp q⟩
  · exact Or.inr ⟨hv, fun e => q ((same_list cs ds).mpr e)⟩
end StrChars.Road
namespace StrChars.Road
open Jvm Sem ClassFile Op Lib Jvm.Stand Jvm.Free Jvm.Free.XT
open Jvm.Lib.Cold (StaticIs)
/-- what backV says of its String, as the contracts of this text ask it: cs's low bytes, coder 0 -/
theorem codOf {cs : List Int32} {n : Nat} (hn : cs.length = n) (hb : ∀ c ∈ cs, ¬ 255 < c) : CodA cs 0 (Int32.ofNat n) ((cs.map lo8).map Value.int) := Or.inl ⟨rfl, by rw [hn], by simp [List.map_map, Function.comp_def], hb⟩
end StrChars.Road
end Jvm.Pilot.@@N@@
namespace Jvm.Pilot.@@N@@
open Jvm Jvm.ClassFile Sem Op Lib Jvm.Free Jvm.Stand Jvm.LawKit Jvm.RoadKit Bundle Jvm.Pilot.@@N@@.Jvm.D
namespace Own
open Jvm Jvm.ClassFile Sem Op Lib Jvm.Free Jvm.Stand Jvm.LawKit Jvm.RoadKit Bundle
/-- the run goes on from A to an end of which Q holds -/
def Goes (tb : Tables) (e : Env) (below : List Frame) (Q : Outcome → State → Prop) (A : State) : Prop := ∃ s₂ o, Steps tb e below A s₂ ∧ s₂.status = .running ∧ Ended s₂ below o ∧ Q o s₂
theorem Goes.via {tb : Tables} {e : Env} {below : List Frame} {Q : Outcome → State → Prop} {A B : State} (h : ∀ t, Steps tb e below B t → Steps tb e below A t) (g : Goes tb e below Q B) : Goes tb e below Q A := by
  obtain ⟨s₂, o, h1, h2⟩ := g
  exact ⟨s₂, o, h _ h1, h2⟩
theorem Goes.aft {tb : Tables} {e : Env} {below : List Frame} {Q : Outcome → State → Prop} {A B : State} (h : Steps tb e below A B) (g : Goes tb e below Q B) : Goes tb e below Q A := by
  obtain ⟨s₂, o, h1, h2⟩ := g
  exact ⟨s₂, o, h.trans h1, h2⟩
/-- what may be written: made since the law began (n0), booked for no literal; of SA0 (handed in) or made since this method began (k) -/
def Sfs (Z : State) (EL : List (String × Nat)) (vm : Vm) (h : Heap) (n0 k : Nat) (SA0 SA : List Addr) : Prop := ∀ x ∈ SA, Safe Z EL vm h x ∧ x < h.size ∧ n0 ≤ x ∧ (x ∈ SA0 ∨ k ≤ x)
/-- where a walk stands, all in one -/
def Wd (p : Program) (l : Launch) (e : Env) (R : Room) (s : State) (m : MethodId) (args : Array Value) (below : List Frame) (meth : Method) (c : Code)
    (Z : State) (a0 : Array Value) (EL : List (String × Nat)) (own : String) (n0 : Nat) (SA0 SA : List Addr) (T : State) (h : Heap) (cells slots : Nat) : Prop :=
  ∃ (vm0 : Vm) (locs : List Loc) (k0 : Nat), Stand p l e R (s.setVm vm0) m args below meth c T locs cells slots ∧ T.heap = h ∧ s.Since vm0 k0 ∧ k0 ≤ h.size ∧ Z.Warmed39 vm0 ∧ vm0.findClass own = some m.cls ∧
    CHr Z EL s.vm s.heap vm0 h ∧ Fr n0 locs ∧ Old Z n0 h ∧ Keep s.heap h SA0 ∧ Sfs Z EL vm0 h n0 s.heap.size SA0 SA ∧ EW Z a0 EL ∧ p.tables.exec = Jvm.exec
section Wide
variable {p : Program} {l : Launch} {e : Env} {R : Room} {s : State} {m : MethodId} {args : Array Value} {below : List Frame} {meth : Method} {c : Code}
variable {Z : State} {a0 : Array Value} {EL : List (String × Nat)} {own : String} {n0 : Nat} {SA0 SA : List Addr} {T : State} {h h' : Heap} {cells slots : Nat} {Q : Outcome → State → Prop} {pc : Nat} {Ls : Array Slot} {st : List Value} {vm0 vm1 : Vm} {a : Addr} {sl : Nat} {v : Value}
theorem Wd.exec (X : Wd p l e R s m args below meth c Z a0 EL own n0 SA0 SA T h cells slots) : p.tables.exec = Jvm.exec := by
  obtain ⟨_, _, _, -, -, -, -, -, -, -, -, -, -, -, -, q⟩ := X; exact q
theorem Wd.here (X : Wd p l e R s m args below meth c Z a0 EL own n0 SA0 SA T h cells slots) : At T m c below := by
  obtain ⟨_, _, _, Y, -⟩ := X; exact Y.here
theorem Wd.old (X : Wd p l e R s m args below meth c Z a0 EL own n0 SA0 SA T h cells slots) : Old Z n0 h := by
  obtain ⟨_, _, _, -, -, -, -, -, -, -, -, q, -⟩ := X; exact q
theorem Wd.kept (X : Wd p l e R s m args below meth c Z a0 EL own n0 SA0 SA T h cells slots) : Keep s.heap h SA0 := by
  obtain ⟨_, _, _, -, -, -, -, -, -, -, -, -, q, -⟩ := X; exact q
theorem Wd.al (X : Wd p l e R s m args below meth c Z a0 EL own n0 SA0 SA T h cells slots) : Z.vm.Alike T.vm := by
  obtain ⟨_, _, _, Y, -, -, -, hZ, -⟩ := X; exact (wtrans (s := s.setVm _) hZ Y.warmed).alike
theorem Wd.n0h (X : Wd p l e R s m args below meth c Z a0 EL own n0 SA0 SA T h cells slots) : n0 ≤ h.size := by
  obtain ⟨q1, q2, -⟩ := X.old; rw [← q1]; exact q2
theorem Wd.saf (X : Wd p l e R s m args below meth c Z a0 EL own n0 SA0 SA T h cells slots) {x : Addr} (q : x ∈ SA) : n0 ≤ x ∧ x < h.size := by
  obtain ⟨_, _, _, -, -, -, -, -, -, -, -, -, -, S, -⟩ := X; exact ⟨(S x q).2.2.1, (S x q).2.1⟩
theorem Sfs.go {k : Nat} (S : Sfs Z EL vm0 h n0 k SA0 SA) (A : CHr Z EL vm0 h vm1 h') : Sfs Z EL vm1 h' n0 k SA0 SA := fun x hx =>
  ⟨A.safe (S x hx).2.1 (S x hx).1, Nat.lt_of_lt_of_le (S x hx).2.1 A.2.1, (S x hx).2.2⟩
/-- fewer may be written -/
theorem Wd.less {SA' : List Addr} (X : Wd p l e R s m args below meth c Z a0 EL own n0 SA0 SA T h cells slots) (q : ∀ x ∈ SA', x ∈ SA) : Wd p l e R s m args below meth c Z a0 EL own n0 SA0 SA' T h cells slots := by
  obtain ⟨vm0, locs, k0, r1, r2, r3, r4, r5, r6, r7, r8, r9, r10, r11, r12, r13⟩ := X
  exact ⟨vm0, locs, k0, r1, r2, r3, r4, r5, r6, r7, r8, r9, r10, fun x hx => r11 x (q x hx), r12, r13⟩
theorem Wd.mono {cells' slots' : Nat} (X : Wd p l e R s m args below meth c Z a0 EL own n0 SA0 SA T h cells slots) (h1 : cells ≤ cells') (h2 : slots ≤ slots') : Wd p l e R s m args below meth c Z a0 EL own n0 SA0 SA T h cells' slots' := by
  obtain ⟨vm0, locs, k0, r1, r⟩ := X
  exact ⟨vm0, locs, k0, r1.mono h1 h2, r⟩
/-- new C -/
theorem Wd.new (X : Wd p l e R s m args below meth c Z a0 EL own n0 SA0 SA T h cells slots) {index n : Nat} {C : String} (w : (Cond.classLink own index C).before a0 Z = true) (wi : (Cond.instantiable C n).before a0 Z = true) (wz : (Cond.initialized C).before a0 Z = true)
    (hd : decode c.code pc = .ok (.new index, 3)) (hc : cells + 1 ≤ R.cells) (hl : slots + n ≤ R.slots)
    (k : ∀ (T' : State) (h' : Heap) (b : Addr), b = h.size → Wd p l e R s m args below meth c Z a0 EL own n0 SA0 (b :: SA) T' h' (cells + 1) (slots + n) → Ext h h' → Exa Z h' b C → (∀ {O nm d : String} {ty : FieldType}, Laid Z a0 C O nm d → parseFieldDescriptor d = some ty → Fld Z h' b O nm d (defaultValue ty)) →
      (∃ cell : Cell, h'[b]? = some cell ∧ cell.vm = .none ∧ cell.monitor = {}) → Goes p.tables e below Q (T'.setTop (mkF m (pc + 3) Ls (.ref b :: st)))) : Goes p.tables e below Q (T.setTop (mkF m pc Ls st)) := by
  obtain ⟨vm0, locs, k0, Y, eT, hS, hk, hZ, hown, hC, N, O, K, S, hEL, hx⟩ := X
  obtain ⟨T', h', Y', e', E, A, D, U, st'⟩ := newO Y hx hZ hown w wi wz eT (g := mkF m pc Ls st) rfl hd hc hl
  have A' := CHr.ext E hC.1
  refine Goes.via st' (k T' h' _ rfl ⟨vm0, locs, k0, Y', e', hS, Nat.le_trans hk E.1, hZ, hown, hC.trans A', N, O.ext E, K.ext E, fun x q => ?_, hEL, hx⟩ E A D U)
  rcases List.mem_cons.mp q with rfl | q
  · exact ⟨(Safe.new (Nat.le_refl _)).ext E hC.1, A.lt, by rw [← O.1]; exact O.2.1, Or.inr K.1⟩
  · exact S.go A' x q
/-- newarray of a primitive kind, its length known -/
theorem Wd.newarr (X : Wd p l e R s m args below meth c Z a0 EL own n0 SA0 SA T h cells slots) {aty : ArrayType} (w : (Cond.arrayClass (newarray.typeOf aty)).before a0 Z = true) {n : Int32} (hd : decode c.code pc = .ok (.newarray aty, 2)) (hn : ¬ n < 0) (cap : Nat) (hcap : n.toNatClampNeg ≤ cap) (hb : cap * 8 ≤ 536870912) (hc : cells + 1 ≤ R.cells) (hl : slots + cap ≤ R.slots)
    (k : ∀ (T' : State) (h' : Heap) (b : Addr) (kb : ClassId), b = h.size → Wd p l e R s m args below meth c Z a0 EL own n0 SA0 (b :: SA) T' h' (cells + 1) (slots + cap) → Ext h h' → Arv Z h' b kb (newarray.typeOf aty) n [] (defaultValue (newarray.typeOf aty)) → Goes p.tables e below Q (T'.setTop (mkF m (pc + 2) Ls (.ref b :: st)))) : Goes p.tables e below Q (T.setTop (mkF m pc Ls (.int n :: st))) := by
  obtain ⟨vm0, locs, k0, Y, eT, hS, hk, hZ, hown, hC, N, O, K, S, hEL, hx⟩ := X
  obtain ⟨T', h', kb, Y', e', E, A, st'⟩ := newP Y hx hZ w eT (g := mkF m pc Ls (.int n :: st)) rfl hd rfl hn hcap hb hc hl
  have A' := CHr.ext E hC.1
  refine Goes.via st' (k T' h' _ kb rfl ⟨vm0, locs, k0, Y', e', hS, Nat.le_trans hk E.1, hZ, hown, hC.trans A', N, O.ext E, K.ext E, fun x q => ?_, hEL, hx⟩ E (Arv.new A hn))
  rcases List.mem_cons.mp q with rfl | q
  · exact ⟨(Safe.new (Nat.le_refl _)).ext E hC.1, A.lt, by rw [← O.1]; exact O.2.1, Or.inr K.1⟩
  · exact S.go A' x q
theorem wrN (hC : CHr Z EL s.vm s.heap vm0 h) (O : Old Z n0 h) (K : Keep s.heap h SA0) (S : Sfs Z EL vm0 h n0 s.heap.size SA0 SA) (q : a ∈ SA) (W : Wr h h' a sl v) :
    CHr Z EL s.vm s.heap vm0 h' ∧ Old Z n0 h' ∧ Keep s.heap h' SA0 ∧ Sfs Z EL vm0 h' n0 s.heap.size SA0 SA ∧ n0 ≤ a ∧ h.size ≤ h'.size := by
  obtain ⟨q1, -, q3, q4⟩ := S a q
  have A := CHr.wr W q1 hC.1
  exact ⟨hC.trans A, O.wr W q3, K.wr W q4, S.go A, q3, A.2.1⟩
/-- putfield -/
theorem Wd.putf (X : Wd p l e R s m args below meth c Z a0 EL own n0 SA0 SA T h cells slots) {R0 O n d C : String} {index kk : Nat} {ty : FieldType} (w : (Cond.fieldLink own index R0 n d).before a0 Z = true) (via : Via Z R0 O n d) {v old : Value} (F : Fld Z h a O n d old) (E : Exa Z h a C)
    (L : (Cond.lays C O n d).before a0 Z = true ∨ ((Cond.laysFinal C O n d).before a0 Z = true ∧ own = O ∧ meth.name = "<init>")) (wi : (Cond.instantiable C kk).before a0 Z = true) (hty : parseFieldDescriptor d = some ty) (hn : narrow ty v = v) (hf : fits ty v = true) (hd : decode c.code pc = .ok (.putfield index, 3)) (q : a ∈ SA)
    (k : ∀ (T' : State) (h' : Heap), Wd p l e R s m args below meth c Z a0 EL own n0 SA0 SA T' h' cells slots → Wr h h' a (Jvm.RoadKit.slotOf Z O n d) v → Goes p.tables e below Q (T'.setTop (mkF m (pc + 3) Ls st))) : Goes p.tables e below Q (T.setTop (mkF m pc Ls (v :: .ref a :: st))) := by
  obtain ⟨vm0, locs, k0, Y, eT, hS, hk, hZ, hown, hC, N, O', K, S, hEL, hx⟩ := X
  obtain ⟨T', h', Y', e', W, st'⟩ := putF Y hx hZ hown (host := "") (Or.inl w) via eT F E L wi hty hn hf (g := mkF m pc Ls (v :: .ref a :: st)) rfl rfl hd
  obtain ⟨q1, q2, q3, q4, q5, q6⟩ := wrN hC O' K S q W
  exact Goes.via st' (k T' h' ⟨vm0, _, k0, Y', e', hS, Nat.le_trans hk q6, hZ, hown, q1, Fr.snoc Y' N q5, q2, q3, q4, hEL, hx⟩ W)
/-- getfield -/
theorem Wd.getf (X : Wd p l e R s m args below meth c Z a0 EL own n0 SA0 SA T h cells slots) {R0 O n d : String} {index : Nat} (w : (Cond.fieldLink own index R0 n d).before a0 Z = true) (via : Via Z R0 O n d) {v : Value} (F : Fld Z h a O n d v) (hd : decode c.code pc = .ok (.getfield index, 3))
    (k : ∀ T' : State, Wd p l e R s m args below meth c Z a0 EL own n0 SA0 SA T' h cells slots → Goes p.tables e below Q (T'.setTop (mkF m (pc + 3) Ls (v :: st)))) : Goes p.tables e below Q (T.setTop (mkF m pc Ls (.ref a :: st))) := by
  obtain ⟨vm0, locs, k0, Y, eT, r2, r3, r4, r5, r⟩ := X
  obtain ⟨T', Y', e', st'⟩ := getF Y r.2.2.2.2.2.2 r4 r5 (host := "") (Or.inl w) via eT F (g := mkF m pc Ls (.ref a :: st)) rfl rfl hd
  exact Goes.via st' (k T' ⟨vm0, locs, k0, Y', e', r2, r3, r4, r5, r⟩)
/-- getstatic -/
theorem Wd.gets (X : Wd p l e R s m args below meth c Z a0 EL own n0 SA0 SA T h cells slots) {R0 O n d : String} {index : Nat} (w : (Cond.fieldLink own index R0 n d).before a0 Z = true) (via : Via Z R0 O n d) {v : Value} (F : Sta Z h O n d v) (hd : decode c.code pc = .ok (.getstatic index, 3))
    (k : ∀ T' : State, Wd p l e R s m args below meth c Z a0 EL own n0 SA0 SA T' h cells slots → Goes p.tables e below Q (T'.setTop (mkF m (pc + 3) Ls (v :: st)))) : Goes p.tables e below Q (T.setTop (mkF m pc Ls st)) := by
  obtain ⟨vm0, locs, k0, Y, eT, r2, r3, r4, r5, r⟩ := X
  obtain ⟨T', Y', e', st'⟩ := getS (host := "") Y r.2.2.2.2.2.2 r4 r5 w via eT F (g := mkF m pc Ls st) rfl hd
  exact Goes.via st' (k T' ⟨vm0, locs, k0, Y', e', r2, r3, r4, r5, r⟩)
/-- Object.<init> -/
theorem Wd.inito (X : Wd p l e R s m args below meth c Z a0 EL own n0 SA0 SA T h cells slots) {idx : Nat} (w1 : (Cond.methodLink own idx Lib.objectInit).before a0 Z = true) (w2 : (Cond.instanceMethod Lib.objectInit).before a0 Z = true) (w3 : (Cond.code Lib.objectInit ⟨#[0xb1]⟩ 1 none).before a0 Z = true)
    (hd : decode c.code pc = .ok (.invokespecial idx, 3)) (hsize : Ls.size = c.maxLocals) (hf : 1 ≤ R.frames) (W : Nat) (hW : (st.map fun v => v.category).sum ≤ W) (hl : W + 12 ≤ R.locals)
    (k : ∀ T' : State, Wd p l e R s m args below meth c Z a0 EL own n0 SA0 SA T' h cells slots → Goes p.tables e below Q (T'.setTop (mkF m (pc + 3) Ls st))) : Goes p.tables e below Q (T.setTop (mkF m pc Ls (.ref a :: st))) := by
  obtain ⟨vm0, locs, k0, Y, eT, r2, r3, r4, r5, r⟩ := X
  obtain ⟨T', Y', e', st'⟩ := initO Y r.2.2.2.2.2.2 r4 r5 w1 w2 w3 eT (g := mkF m pc Ls (.ref a :: st)) rfl hsize rfl hd hf (W := W) (by show 2 * 0 + _ ≤ _; omega) hl
  exact Goes.via st' (k T' ⟨vm0, locs, k0, Y', e', r2, r3, r4, r5, r⟩)
/-- castore -/
theorem Wd.castore (X : Wd p l e R s m args below meth c Z a0 EL own n0 SA0 SA T h cells slots) {kb : ClassId} {n j x : Int32} {vs : List Value} {dv : Value} (V : Arv Z h a kb .char n vs dv) (hj : ¬ j < 0 ∧ j < n) (i : Nat) (hji : j.toNatClampNeg = i) (hi : i < vs.length) (q : a ∈ SA) (hd : decode c.code pc = .ok (.castore, 1))
    (k : ∀ (T' : State) (h' : Heap), Wd p l e R s m args below meth c Z a0 EL own n0 SA0 SA T' h' cells slots → Wr h h' a j.toNatClampNeg (.int (nar .char x)) → Arv Z h' a kb .char n (vs.set i (.int (nar .char x))) dv → Goes p.tables e below Q (T'.setTop (mkF m (pc + 1) Ls st))) : Goes p.tables e below Q (T.setTop (mkF m pc Ls (.int x :: .int j :: .ref a :: st))) := by
  obtain ⟨vm0, locs, k0, Y, eT, hS, hk, hZ, hown, hC, N, O', K, S, hEL, hx⟩ := X
  obtain ⟨cl, A, v1, v2, v3, v4, v5⟩ := V
  obtain ⟨T', h', Y', e', W, st'⟩ := stC Y hx hZ eT A (inb_of v2 hj) (g := mkF m pc Ls (.int x :: .int j :: .ref a :: st)) rfl rfl hd
  obtain ⟨q1, q2, q3, q4, q5, q6⟩ := wrN hC O' K S q W
  exact Goes.via st' (k T' h' ⟨vm0, _, k0, Y', e', hS, Nat.le_trans hk q6, hZ, hown, q1, Fr.snoc Y' N q5, q2, q3, q4, hEL, hx⟩ W (Arv.set A v1 v2 v3 v4 v5 (fits_nar_char _) W i hji hi))
/-- bastore into a byte[] -/
theorem Wd.bastore (X : Wd p l e R s m args below meth c Z a0 EL own n0 SA0 SA T h cells slots) {kb : ClassId} {n j x : Int32} {vs : List Value} {dv : Value} (V : Arv Z h a kb .byte n vs dv) (hj : ¬ j < 0 ∧ j < n) (i : Nat) (hji : j.toNatClampNeg = i) (hi : i < vs.length) (q : a ∈ SA) (hd : decode c.code pc = .ok (.bastore, 1))
    (k : ∀ (T' : State) (h' : Heap), Wd p l e R s m args below meth c Z a0 EL own n0 SA0 SA T' h' cells slots → Wr h h' a j.toNatClampNeg (.int (nar .byte x)) → Arv Z h' a kb .byte n (vs.set i (.int (nar .byte x))) dv → Goes p.tables e below Q (T'.setTop (mkF m (pc + 1) Ls st))) : Goes p.tables e below Q (T.setTop (mkF m pc Ls (.int x :: .int j :: .ref a :: st))) := by
  obtain ⟨vm0, locs, k0, Y, eT, hS, hk, hZ, hown, hC, N, O', K, S, hEL, hx⟩ := X
  obtain ⟨cl, A, v1, v2, v3, v4, v5⟩ := V
  obtain ⟨T', h', Y', e', W, st'⟩ := stB Y hx hZ eT A (inb_of v2 hj) (g := mkF m pc Ls (.int x :: .int j :: .ref a :: st)) rfl rfl hd
  obtain ⟨q1, q2, q3, q4, q5, q6⟩ := wrN hC O' K S q W
  exact Goes.via st' (k T' h' ⟨vm0, _, k0, Y', e', hS, Nat.le_trans hk q6, hZ, hown, q1, Fr.snoc Y' N q5, q2, q3, q4, hEL, hx⟩ W (Arv.set A v1 v2 v3 v4 v5 (fits_nar_byte _) W i hji hi))
/-- caload -/
theorem Wd.caload (X : Wd p l e R s m args below meth c Z a0 EL own n0 SA0 SA T h cells slots) {kb : ClassId} {n j : Int32} {vs : List Value} {dv v : Value} (V : Arv Z h a kb .char n vs dv) (hj : ¬ j < 0 ∧ j < n) (hv : vs.getD j.toNatClampNeg dv = v) (hd : decode c.code pc = .ok (.caload, 1))
    (g : Goes p.tables e below Q (T.setTop (mkF m (pc + 1) Ls (v :: st)))) : Goes p.tables e below Q (T.setTop (mkF m pc Ls (.int j :: .ref a :: st))) := by
  obtain ⟨vm0, locs, k0, Y, eT, r2, r3, r4, r5, r⟩ := X
  obtain ⟨cl, A, v1, v2, v3, v4, v5⟩ := V
  exact Goes.via (fun t => Y.caload r.2.2.2.2.2.2 (by rw [eT]; exact A.1) (State.isArrayOf_alike r4.alike A.2.1) A.2.2 (inb_of v2 hj) (v4.at (inb_of v2 hj) hv) (g := mkF m pc Ls (.int j :: .ref a :: st)) rfl rfl hd t) g
/-- arraylength -/
theorem Wd.alen (X : Wd p l e R s m args below meth c Z a0 EL own n0 SA0 SA T h cells slots) {kb : ClassId} {n : Int32} {vs : List Value} {dv : Value} {ty : FieldType} (V : Arv Z h a kb ty n vs dv) (hd : decode c.code pc = .ok (.arraylength, 1))
    (g : Goes p.tables e below Q (T.setTop (mkF m (pc + 1) Ls (.int n :: st)))) : Goes p.tables e below Q (T.setTop (mkF m pc Ls (.ref a :: st))) := by
  obtain ⟨vm0, locs, k0, Y, eT, r2, r3, r4, r5, r⟩ := X
  obtain ⟨cl, A, v1, v2, v3, v4, v5⟩ := V
  rw [← len_of v2 v3] at g
  exact Goes.via (fun t => Y.arraylength r.2.2.2.2.2.2 (by rw [eT]; exact A.1) (State.isArrayOf_alike r4.alike A.2.1) (g := mkF m pc Ls (.ref a :: st)) rfl rfl hd t) g
/-- ldc of a String constant of EL, read -/
theorem Wd.ldcS (X : Wd p l e R s m args below meth c Z a0 EL own n0 SA0 SA T h cells slots) {index : Nat} {text : String} (w : (Cond.stringLink own index text).before a0 Z = true) (wS : ∀ a ∈ Bundle.stringAtoms, a.before a0 Z = true) (hmem : (own, index) ∈ EL) {vs : List Value} {z : Int32}
    (ht : (∀ c ∈ text.toList, c.toNat < 256) ∧ text.toList.map (fun c => Value.int (Jvm.Lit.byteI c.toNat.toUInt16)) = vs) (hz : ¬ z < 0) (hl : z.toNatClampNeg = vs.length) (hd : decode c.code pc = .ok (.ldc index, 2)) (n : Nat) (hn : 4 * text.toList.length ≤ n) (hbig : n ≤ 536870912) (hc : cells + 2 ≤ R.cells) (hl' : slots + (n + 4) ≤ R.slots)
    (k : ∀ (T' : State) (h' : Heap) (a b : Addr) (kb : ClassId), Wd p l e R s m args below meth c Z a0 EL own n0 SA0 SA T' h' (cells + 2) (slots + (n + 4)) → Ext h h' → Exa Z h' a "java/lang/String" → Fld Z h' a "java/lang/String" "coder" "B" (.int 0) → Fld Z h' a "java/lang/String" "value" "[B" (.ref b) → Arv Z h' b kb .byte z vs (.int 0) → (∀ x ∈ SA, x ≠ a ∧ x ≠ b) →
      Goes p.tables e below Q (T'.setTop (mkF m (pc + 2) Ls (.ref a :: st)))) : Goes p.tables e below Q (T.setTop (mkF m pc Ls st)) := by
  obtain ⟨vm0, locs, k0, Y, eT, hS, hk, hZ, hown, hC, N, O, K, S, hEL, hx⟩ := X
  obtain ⟨a, T', h', k1, b, kb, Y', e', E, hS', hk', hZ', hown', A1, A2, A3, A4, -, -, A5, -, A6, st'⟩ := ldcCH Y hx hZ hown w wS eT hS hk hEL hmem hC.1 ht hz hl (g := mkF m pc Ls st) rfl hd hn hbig hc hl'
  have S' := S.go A5
  exact Goes.via st' (k T' h' a b kb ⟨T'.vm, locs, k1, Y', e', hS', hk', hZ', hown', hC.trans A5, N, O.ext E, K.ext E, S', hEL, hx⟩ E A1 A2 A3 A4 fun x q => A6 x (S' x q).1)
/-- ldc of any String constant, not read -/
theorem Wd.ldcO (X : Wd p l e R s m args below meth c Z a0 EL own n0 SA0 SA T h cells slots) {index : Nat} {text : String} (w : (Cond.stringLink own index text).before a0 Z = true) (wS : ∀ a ∈ Bundle.stringAtoms, a.before a0 Z = true)
    (hd : decode c.code pc = .ok (.ldc index, 2)) (n : Nat) (hn : 4 * text.toList.length ≤ n) (hbig : n ≤ 536870912) (hc : cells + 2 ≤ R.cells) (hl' : slots + (n + 4) ≤ R.slots)
    (k : ∀ (T' : State) (h' : Heap) (a : Addr), Wd p l e R s m args below meth c Z a0 EL own n0 SA0 SA T' h' (cells + 2) (slots + (n + 4)) → Ext h h' →
      Goes p.tables e below Q (T'.setTop (mkF m (pc + 2) Ls (.ref a :: st)))) : Goes p.tables e below Q (T.setTop (mkF m pc Ls st)) := by
  obtain ⟨vm0, locs, k0, Y, eT, hS, hk, hZ, hown, hC, N, O, K, S, hEL, hx⟩ := X
  obtain ⟨a, T', h', k1, Y', e', E, hS', hk', hZ', hown', A5, -, st'⟩ := ldcOH Y hx hZ hown w wS eT hS hk hEL hC.1 (g := mkF m pc Ls st) rfl hd hn hbig hc hl'
  exact Goes.via st' (k T' h' a ⟨T'.vm, locs, k1, Y', e', hS', hk', hZ', hown', hC.trans A5, N, O.ext E, K.ext E, S.go A5, hEL, hx⟩ E)
/-- ldc of an int -/
theorem Wd.ldcI (X : Wd p l e R s m args below meth c Z a0 EL own n0 SA0 SA T h cells slots) {index : Nat} {v : Int32} (w : (Cond.constant own index v).before a0 Z = true) (hd : decode c.code pc = .ok (.ldc index, 2))
    (g : Goes p.tables e below Q (T.setTop (mkF m (pc + 2) Ls (.int v :: st)))) : Goes p.tables e below Q (T.setTop (mkF m pc Ls st)) := by
  obtain ⟨vm0, locs, k0, Y, eT, r2, r3, r4, r5, r⟩ := X
  exact Goes.via (fun t => Y.ldcInt r.2.2.2.2.2.2 r5 (mvT (s := s.setVm vm0) r4 w) (g := mkF m pc Ls st) rfl hd t) g
end Wide
end Own
namespace Own
open Jvm Jvm.ClassFile Sem Op Lib Jvm.Free Jvm.Stand Jvm.LawKit Jvm.RoadKit Bundle
/-- a method's contract: handed as' in the heap h0, it may write SA0 and what it makes; at its end Q0 holds -/
def Ct (l : Launch) (Z : State) (EL : List (String × Nat)) (ws : List Jvm.Cond) (y : MethodName) (bytes : ByteArray) (maxL : Nat) (ret : Option FieldType) (rm : Room) (as' : Array Value) (h0 : Heap) (n0 : Nat) (SA0 : List Addr) (Q0 : Option Value → Heap → Prop) : Prop :=
  MetFree l y (head1 (Jvm.Cond.code y bytes maxL ret :: ws) rm) (fun a U => a = as' ∧ Z.Warmed39 U.vm ∧ U.heap = h0 ∧ CHv Z EL U.vm h0 ∧ Old Z n0 h0 ∧ ∀ x ∈ SA0, Safe Z EL U.vm h0 x ∧ x < h0.size ∧ n0 ≤ x) (fun _ _ _ _ _ => True)
    (fun _ U o U' => ∃ v L, o = .returned v ∧ (Q0 v U'.heap ∧ Fr n0 L ∧ Old Z n0 U'.heap ∧ Keep h0 U'.heap SA0) ∧ CHr Z EL U.vm U.heap U'.vm U'.heap ∧ ReturnedEndW U o U' L rm.cells rm.slots)
/-- what an end must bring -/
def Endq (Z : State) (EL : List (String × Nat)) (s : State) (n0 : Nat) (SA0 : List Addr) (rm : Room) (Q0 : Option Value → Heap → Prop) (o : Outcome) (U' : State) : Prop :=
  ∃ v L, o = .returned v ∧ (Q0 v U'.heap ∧ Fr n0 L ∧ Old Z n0 U'.heap ∧ Keep s.heap U'.heap SA0) ∧ CHr Z EL s.vm s.heap U'.vm U'.heap ∧ ReturnedEndW s o U' L rm.cells rm.slots
section Wide
variable {p : Program} {l : Launch} {e : Env} {R : Room} {s : State} {m : MethodId} {args : Array Value} {below : List Frame} {meth : Method} {c : Code}
variable {Z : State} {a0 : Array Value} {EL : List (String × Nat)} {own : String} {n0 : Nat} {SA0 SA SA' : List Addr} {T : State} {h h' h0 : Heap} {cells slots : Nat} {Q : Outcome → State → Prop} {pc : Nat} {Ls : Array Slot} {st : List Value} {vm0 vm1 : Vm} {a : Addr} {sl : Nat} {v : Value}
variable {ws : List Jvm.Cond} {y z : MethodName} {bytes : ByteArray} {maxL : Nat} {ret : Option FieldType} {rm : Room} {as' : Array Value} {Q0 : Option Value → Heap → Prop}
theorem Ct.enter (pn : plainName y.cls = true) (hEL : EW Z a0 EL)
    (body : ∀ (p : Program) (e : Env) (s : State) (m : MethodId) (below : List Frame) (meth : Method) (c : Code) (T : State), c.code = bytes → c.maxLocals = maxL → meth.sig.returnType = ret → meth.locks = false → meth.name = y.name → s.heap = h0 → Wd p l e rm s m as' below meth c Z a0 EL y.cls n0 SA0 SA0 T h0 0 0 →
      Goes p.tables e below (Endq Z EL s n0 SA0 rm Q0) (T.setTop (entryFrame m as' maxL))) : Ct l Z EL ws y bytes maxL ret rm as' h0 n0 SA0 Q0 := by
  refine MetFree.of_bodySF (plainFor_of_name pn) hisR ?_
  intro p e s m args below meth c s₁ Bd hml0 hP hK
  obtain ⟨rfl, hZ, rfl, H, O, S⟩ := hP
  have Y : Stand p l e rm s m args below meth c s₁ [] 0 0 := Stand.of_body Bd
  have e0 : s₁.heap = s.heap := by rw [Bd.state]; rfl
  obtain ⟨s₂, o, h1, h2, h3, v, L, h4, h5, h6, h7⟩ := body p e s m below meth c s₁ Bd.bytes hml0 Bd.returns (BodyLoose.notSynchronized Bd) (name_of_methodNamed Bd.named Bd.method).1 rfl
    ⟨s.vm, [], 0, Y, e0, (State.WarmedH.refl s).since _, Nat.zero_le _, hZ, findClass_of_methodNamed Bd.named, CHr.refl H, Fr.nil _, O, Keep.refl _ _, fun x q => ⟨(S x q).1, (S x q).2.1, (S x q).2.2, Or.inl q⟩, hEL, Bd.exec⟩
  exact ⟨s₂, o, h1, h2, h3, v, L, h4, h5, h6, h7⟩
theorem Ct.back {len W : Nat} (ct : Ct l Z EL [] y bytes maxL ret rm as' h n0 SA0 Q0) (hZ : Z.Warmed39 vm0) (wc : (Jvm.Cond.code y bytes maxL ret).before a0 Z = true) (wz : (Jvm.Cond.initialized y.cls).before a0 Z = true) (hf : rm.frames + 1 ≤ R.frames) (hl : W + (maxL + 11) + rm.locals ≤ R.locals) (hEL : EW Z a0 EL) (H : CHv Z EL vm0 h) (O : Old Z n0 h)
    (S : ∀ x ∈ SA0, Safe Z EL vm0 h x ∧ x < h.size ∧ n0 ≤ x) :
    BackS l R p e below (s.setVm vm0) args y len W (fun A a => a = as' ∧ A.U.heap = h ∧ A.cells + rm.cells ≤ R.cells ∧ A.slots + rm.slots ≤ R.slots)
      (fun A _ v B => ∃ L, (Q0 v B.U.heap ∧ Fr n0 L ∧ Old Z n0 B.U.heap ∧ Keep h B.U.heap SA0) ∧ B.locs = A.locs ++ L ∧ B.cells = A.cells + rm.cells ∧ B.slots = A.slots + rm.slots ∧ CHr Z EL vm0 h B.U.vm B.U.heap) :=
  BackS.of_freeW (bytes := bytes) (maxL := maxL) (ret := ret) (E := fun _ first o t L k n => k = rm.cells ∧ n = rm.slots ∧ (∃ v, o = .returned v ∧ (Q0 v t.heap ∧ Fr n0 L ∧ Old Z n0 t.heap ∧ Keep h t.heap SA0)) ∧ CHr Z EL first.vm first.heap t.vm t.heap) ct hf hl
    (fun m meth c A a Y hp => have hU : Z.Warmed39 A.U.vm := wtrans (s := s.setVm vm0) hZ Y.warmed
      ⟨by show (Jvm.Cond.and _ .tt).before a A.U = true; rw [Cond.before_and, mv hU wc]; rfl, mv hU wc, mv hU wz, hp.2.2.1, hp.2.2.2⟩)
    (fun m meth c A a g mk Y hp => ⟨hp.1, wtrans (s := s.setVm vm0) hZ Y.warmed, hp.2.1, (CHv.at Y hZ hEL H).1, O, fun x q => ⟨(CHv.at Y hZ hEL H).safe (S x q).2.1 (S x q).1, (S x q).2⟩⟩) (fun _ _ _ _ _ _ _ _ _ => trivial)
    (fun _ _ _ _ ⟨v, L, h1, h2, h3, h4⟩ => ⟨L, _, _, h4, rfl, rfl, ⟨v, h1, h2⟩, h3⟩)
    (fun m meth c A a g mk v t L k n Y hp _ _ ⟨e1, e2, ⟨v', e3, e4⟩, e5⟩ => by
      cases e3; subst e1 e2
      refine ⟨L, e4, rfl, rfl, rfl, (CHv.at Y hZ hEL H).trans ?_⟩
      rw [← hp.2.1]; exact e5)
/-- what stands behind a call by its contract -/
theorem callN {T' : State} {L : List Loc} {k0 cells' slots' : Nat} (hS : s.Since vm0 k0) (hk : k0 ≤ h.size) (hZ : Z.Warmed39 vm0) (hown : vm0.findClass own = some m.cls) (hC : CHr Z EL s.vm s.heap vm0 h) {locs : List Loc} (N : Fr n0 locs) (K : Keep s.heap h SA0) (S : Sfs Z EL vm0 h n0 s.heap.size SA0 SA) (hEL : EW Z a0 EL) (hx : p.tables.exec = Jvm.exec)
    (Y : Stand p l e R ((s.setVm vm0).setVm T'.vm) m args below meth c T' (locs ++ L) cells' slots') (h2 : (s.setVm vm0).Since T'.vm T'.heap.size) (hg : h.size ≤ T'.heap.size) (hL : Fr n0 L) (O' : Old Z n0 T'.heap) (K' : Keep h T'.heap SA') (hsub : ∀ x ∈ SA', x ∈ SA) (A : CHr Z EL vm0 h T'.vm T'.heap) :
    Wd p l e R s m args below meth c Z a0 EL own n0 SA0 SA T' T'.heap cells' slots' := by
  obtain ⟨r1, r2, r3, r4⟩ := rebS (own := own) hS hk Y h2 hg hZ hown
  exact ⟨T'.vm, _, _, r1, rfl, r2, Nat.le_refl _, r3, r4, hC.trans A, N.app hL, O', K.trans K' (fun x q => (S x (hsub x q)).2.2.2), S.go A, hEL, hx⟩
/-- invokestatic by its contract -/
theorem Wd.calls (X : Wd p l e R s m args below meth c Z a0 EL own n0 SA0 SA T h cells slots) (argsL rest : List Value) {idx : Nat} (ct : Ct l Z EL [] y bytes maxL ret rm argsL.toArray h n0 SA' Q0) (w1 : (Jvm.Cond.methodLink own idx y).before a0 Z = true) (w2 : (Jvm.Cond.static y).before a0 Z = true) (w3 : (Jvm.Cond.initialized y.cls).before a0 Z = true) (w4 : (Jvm.Cond.code y bytes maxL ret).before a0 Z = true)
    (hy : y.cls ≠ "java/lang/invoke/MethodHandle" ∧ y.cls ≠ "java/lang/invoke/VarHandle") (hsub : ∀ x ∈ SA', x ∈ SA) (hf : rm.frames + 1 ≤ R.frames) (W : Nat) (hl : W + (maxL + 11) + rm.locals ≤ R.locals) (hcl : cells + rm.cells ≤ R.cells) (hsl : slots + rm.slots ≤ R.slots)
    (hlen : ∀ sig, parseMethodDescriptor y.desc = some sig → argsL.length = sig.parameters.length) (hst : st = argsL.reverse ++ rest) (hW : (rest.map fun v => v.category).sum ≤ W) (hsize : Ls.size = c.maxLocals) (hd : decode c.code pc = .ok (.invokestatic idx, 3))
    (k : ∀ (T' : State) (h' : Heap) (v : Option Value), Wd p l e R s m args below meth c Z a0 EL own n0 SA0 SA T' h' (cells + rm.cells) (slots + rm.slots) → Keep h h' SA' → Q0 v h' → Goes p.tables e below Q (T'.setTop (mkF m (pc + 3) Ls (v.toList ++ rest)))) : Goes p.tables e below Q (T.setTop (mkF m pc Ls st)) := by
  obtain ⟨vm0, locs, k0, Y, eT, hS, hk, hZ, hown, hC, N, O, K, S, hEL, hx⟩ := X
  obtain ⟨v, vm1, ⟨T', L', c', s'⟩, -, Y', h2, hg, ⟨L, ⟨q0, q1, q2, q3⟩, rfl, rfl, rfl, A⟩, st'⟩ := callSS Y hx hown (mvT hZ w1) (mvT hZ w2) (mvT hZ w3) (mvT hZ w4) hy (ct.back (a0 := a0) (W := W) (len := 3) hZ w4 w3 hf hl hEL hC.1 O fun x q => ⟨(S x (hsub x q)).1, (S x (hsub x q)).2.1, (S x (hsub x q)).2.2.1⟩)
    (g := mkF m pc Ls st) rfl hsize (argsL := argsL) (rest := rest) hlen hst (by show 2 * 0 + _ ≤ _; omega) hd (fun _ _ => ⟨rfl, eT, hcl, hsl⟩)
  exact Goes.aft st' (k T' T'.heap v (callN hS hk hZ hown hC N K S hEL hx Y' h2 (by rw [← eT]; exact hg) q1 q2 q3 hsub A) q3 q0)
/-- invokespecial of a constructor by its contract -/
theorem Wd.callc (X : Wd p l e R s m args below meth c Z a0 EL own n0 SA0 SA T h cells slots) (argsL rest : List Value) {idx : Nat} (ct : Ct l Z EL [] y bytes maxL none rm (.ref a :: argsL).toArray h n0 SA' Q0) (hy1 : y.name = "<init>") (w1 : (Jvm.Cond.methodLink own idx y).before a0 Z = true) (w2 : (Jvm.Cond.instanceMethod y).before a0 Z = true) (w3 : (Jvm.Cond.initialized y.cls).before a0 Z = true) (w4 : (Jvm.Cond.code y bytes maxL none).before a0 Z = true)
    (hy : y.cls ≠ "java/lang/invoke/MethodHandle" ∧ y.cls ≠ "java/lang/invoke/VarHandle") (hsub : ∀ x ∈ SA', x ∈ SA) (hf : rm.frames + 1 ≤ R.frames) (W : Nat) (hl : W + (maxL + 11) + rm.locals ≤ R.locals) (hcl : cells + rm.cells ≤ R.cells) (hsl : slots + rm.slots ≤ R.slots)
    (hlen : ∀ sig, parseMethodDescriptor y.desc = some sig → argsL.length = sig.parameters.length) (hst : st = argsL.reverse ++ .ref a :: rest) (hW : (rest.map fun v => v.category).sum ≤ W) (hsize : Ls.size = c.maxLocals) (hd : decode c.code pc = .ok (.invokespecial idx, 3))
    (k : ∀ (T' : State) (h' : Heap) (v : Option Value), Wd p l e R s m args below meth c Z a0 EL own n0 SA0 SA T' h' (cells + rm.cells) (slots + rm.slots) → Keep h h' SA' → Q0 v h' → Goes p.tables e below Q (T'.setTop (mkF m (pc + 3) Ls (v.toList ++ rest)))) : Goes p.tables e below Q (T.setTop (mkF m pc Ls st)) := by
  obtain ⟨vm0, locs, k0, Y, eT, hS, hk, hZ, hown, hC, N, O, K, S, hEL, hx⟩ := X
  obtain ⟨v, vm1, ⟨T', L', c', s'⟩, -, Y', h2, hg, ⟨L, ⟨q0, q1, q2, q3⟩, rfl, rfl, rfl, A⟩, st'⟩ := Y.specialBackS hx hy1 hown (mvT hZ w1) (mvT hZ w2) (mvT hZ w4) hy (ct.back (a0 := a0) (W := W) (len := 3) hZ w4 w3 hf hl hEL hC.1 O fun x q => ⟨(S x (hsub x q)).1, (S x (hsub x q)).2.1, (S x (hsub x q)).2.2.1⟩)
    (g := mkF m pc Ls st) rfl hsize (Steps.refl _) (a := a) (argsL := argsL) (rest := rest) hlen hst (by show 2 * 0 + _ ≤ _; omega) hd (fun _ _ => ⟨rfl, eT, hcl, hsl⟩)
  exact Goes.aft st' (k T' T'.heap v (callN hS hk hZ hown hC N K S hEL hx Y' h2 (by rw [← eT]; exact hg) q1 q2 q3 hsub A) q3 q0)
/-- invokevirtual by its contract: resolved y, selected z on an object that is exactly a C -/
theorem Wd.callv (X : Wd p l e R s m args below meth c Z a0 EL own n0 SA0 SA T h cells slots) (argsL rest : List Value) {idx : Nat} {C : String} (ct : Ct l Z EL [] y bytes maxL ret rm (.ref a :: argsL).toArray h n0 SA' Q0) (E : Exa Z h a C) (w1 : (Jvm.Cond.methodLink own idx y).before a0 Z = true) (w2 : (Jvm.Cond.declares y).before a0 Z = true) (w3 : (Jvm.Cond.selects C y y).before a0 Z = true) (w4 : (Jvm.Cond.instanceMethod y).before a0 Z = true)
    (w5 : (Jvm.Cond.initialized y.cls).before a0 Z = true) (w6 : (Jvm.Cond.code y bytes maxL ret).before a0 Z = true)
    (hy : y.cls ≠ "java/lang/invoke/MethodHandle" ∧ y.cls ≠ "java/lang/invoke/VarHandle") (hsub : ∀ x ∈ SA', x ∈ SA) (hf : rm.frames + 1 ≤ R.frames) (W : Nat) (hl : W + (maxL + 11) + rm.locals ≤ R.locals) (hcl : cells + rm.cells ≤ R.cells) (hsl : slots + rm.slots ≤ R.slots)
    (hlen : ∀ sig, parseMethodDescriptor y.desc = some sig → argsL.length = sig.parameters.length) (hst : st = argsL.reverse ++ .ref a :: rest) (hW : (rest.map fun v => v.category).sum ≤ W) (hsize : Ls.size = c.maxLocals) (hd : decode c.code pc = .ok (.invokevirtual idx, 3))
    (k : ∀ (T' : State) (h' : Heap) (v : Option Value), Wd p l e R s m args below meth c Z a0 EL own n0 SA0 SA T' h' (cells + rm.cells) (slots + rm.slots) → Keep h h' SA' → Q0 v h' → Goes p.tables e below Q (T'.setTop (mkF m (pc + 3) Ls (v.toList ++ rest)))) : Goes p.tables e below Q (T.setTop (mkF m pc Ls st)) := by
  obtain ⟨vm0, locs, k0, Y, eT, hS, hk, hZ, hown, hC, N, O, K, S, hEL, hx⟩ := X
  obtain ⟨cB, kB, u1, -, u3⟩ := isOf (s := s.setVm vm0) hZ eT E
  obtain ⟨v, vm1, ⟨T', L', c', s'⟩, -, Y', h2, hg, ⟨L, ⟨q0, q1, q2, q3⟩, rfl, rfl, rfl, A⟩, st'⟩ := Y.virtualBackS hx hown (mvT hZ w1) (mvT hZ w2) (notFace_of_selects (args := #[]) (mvT hZ w3)) (mvT hZ w3) (mvT hZ w4) hy (ct.back (a0 := a0) (W := W) (len := 3) hZ w6 w5 hf hl hEL hC.1 O fun x q => ⟨(S x (hsub x q)).1, (S x (hsub x q)).2.1, (S x (hsub x q)).2.2.1⟩)
    u1 u3 (g := mkF m pc Ls st) rfl hsize (Steps.refl _) (argsL := argsL) (rest := rest) hlen hst (by show 2 * 0 + _ ≤ _; omega) hd (fun _ _ => ⟨rfl, eT, hcl, hsl⟩)
  exact Goes.aft st' (k T' T'.heap v (callN hS hk hZ hown hC N K S hEL hx Y' h2 (by rw [← eT]; exact hg) q1 q2 q3 hsub A) q3 q0)
/-- what stands behind a call by a law of the narrow kind (nothing interned), that wrote ws -/
theorem backN {T' : State} {L : List Loc} {k0 cells' slots' : Nat} (hS : s.Since vm0 k0) (hk : k0 ≤ h.size) (hZ : Z.Warmed39 vm0) (hown : vm0.findClass own = some m.cls) (hC : CHr Z EL s.vm s.heap vm0 h) {locs : List Loc} (N : Fr n0 locs) (O : Old Z n0 h) (K : Keep s.heap h SA0) (S : Sfs Z EL vm0 h n0 s.heap.size SA0 SA) (hEL : EW Z a0 EL) (hx : p.tables.exec = Jvm.exec)
    (Y : Stand p l e R (s.setVm vm0) m args below meth c T' (locs ++ L) cells' slots') (hL : Fr n0 L) (K' : Keep h T'.heap SA') (hsub : ∀ x ∈ SA', x ∈ SA) :
    Wd p l e R s m args below meth c Z a0 EL own n0 SA0 SA T' T'.heap cells' slots' := by
  have A := CHr.keep K' (fun x q => (S x (hsub x q)).1) hC.1
  exact ⟨vm0, _, k0, Y, rfl, hS, Nat.le_trans hk K'.1, hZ, hown, hC.trans A, N.app hL, O.keep K' (fun x q => (S x (hsub x q)).2.2.1), K.trans K' (fun x q => (S x (hsub x q)).2.2.2), S.go A, hEL, hx⟩
/-- the ends -/
theorem Wd.leave (X : Wd p l e R s m args below meth c Z a0 EL own n0 SA0 SA T h cells slots) (hv : meth.sig.returnType = none → ∀ w, v = w → False) (hlk : meth.locks = false) (hcl : cells ≤ R.cells) (hsl : slots ≤ R.slots) (q : Q0 (some v) h)
    (st' : ∀ fs, (∀ (f : JFrame) (acts : List Action), f.method = m → f.locked = none → f.entered = [] → (doReturn e (T.setTop f) acts (some v)).1 = T.setFrames fs) → ∀ (vm0 : Vm) (locs : List Loc), Stand p l e R (s.setVm vm0) m args below meth c T locs cells slots → Steps p.tables e below (T.setTop (mkF m pc Ls st)) (T.setFrames fs)) :
    Goes p.tables e below (Endq Z EL s n0 SA0 R Q0) (T.setTop (mkF m pc Ls st)) := by
  have X0 := X
  obtain ⟨vm0, locs, k0, Y, eT, hS, hk, hZ, hown, hC, N, O, K, S, hEL, hx⟩ := X
  obtain ⟨fs, hr, hrun, hended, hE⟩ := (Y.mono hcl hsl).leaveW hS (by rw [eT]; exact hk) (v := some v) (fun q => (hv q v rfl).elim) hlk
  refine ⟨_, _, st' fs hr vm0 locs Y, hrun, hended, _, _, rfl, ⟨?_, N, ?_, ?_⟩, ?_, hE⟩
  · show Q0 (some v) T.heap; rw [eT]; exact q
  · show Old Z n0 T.heap; rw [eT]; exact O
  · show Keep s.heap T.heap SA0; rw [eT]; exact K
  · show CHr Z EL s.vm s.heap T.vm T.heap; rw [eT]; exact hC.trans (CHv.at Y hZ hEL hC.1)
theorem Wd.retn (X : Wd p l e R s m args below meth c Z a0 EL own n0 SA0 SA T h cells slots) (hret : meth.sig.returnType = none) (hlk : meth.locks = false) (hd : decode c.code pc = .ok (.return_, 1)) (hcl : cells ≤ R.cells) (hsl : slots ≤ R.slots) (q : Q0 none h) :
    Goes p.tables e below (Endq Z EL s n0 SA0 R Q0) (T.setTop (mkF m pc Ls [])) := by
  obtain ⟨vm0, locs, k0, Y, eT, hS, hk, hZ, hown, hC, N, O, K, S, hEL, hx⟩ := X
  obtain ⟨fs, hr, hrun, hended, hE⟩ := (Y.mono hcl hsl).leaveW hS (by rw [eT]; exact hk) (v := none) (fun _ => rfl) hlk
  refine ⟨_, _, Y.returnOut hx hret hd hr, hrun, hended, _, _, rfl, ⟨?_, N, ?_, ?_⟩, ?_, hE⟩
  · show Q0 none T.heap; rw [eT]; exact q
  · show Old Z n0 T.heap; rw [eT]; exact O
  · show Keep s.heap T.heap SA0; rw [eT]; exact K
  · show CHr Z EL s.vm s.heap T.vm T.heap; rw [eT]; exact hC.trans (CHv.at Y hZ hEL hC.1)
/-- ireturn of a boolean, byte, char or short -/
theorem Wd.reti (X : Wd p l e R s m args below meth c Z a0 EL own n0 SA0 SA T h cells slots) {t : FieldType} {x : Int32} (hret : meth.sig.returnType = some t) (ht : t = .boolean ∨ t = .byte ∨ t = .char ∨ t = .short) (hlk : meth.locks = false) (hd : decode c.code pc = .ok (.ireturn, 1)) (hcl : cells ≤ R.cells) (hsl : slots ≤ R.slots) (q : Q0 (some (.int (nar t x))) h) :
    Goes p.tables e below (Endq Z EL s n0 SA0 R Q0) (T.setTop (mkF m pc Ls (.int x :: st))) :=
  X.leave (fun q => by rw [hret] at q; cases q) hlk hcl hsl q (fun fs hr vm0 locs Y => retN Y X.exec hret ht hd hr)
/-- ireturn of an int -/
theorem Wd.retI (X : Wd p l e R s m args below meth c Z a0 EL own n0 SA0 SA T h cells slots) {x : Int32} (hret : meth.sig.returnType = some .int) (hlk : meth.locks = false) (hd : decode c.code pc = .ok (.ireturn, 1)) (hcl : cells ≤ R.cells) (hsl : slots ≤ R.slots) (q : Q0 (some (.int x)) h) :
    Goes p.tables e below (Endq Z EL s n0 SA0 R Q0) (T.setTop (mkF m pc Ls (.int x :: st))) :=
  X.leave (fun q => by rw [hret] at q; cases q) hlk hcl hsl q (fun fs hr vm0 locs Y => retOut Y X.exec hret rfl (Or.inl ⟨rfl, Or.inl rfl, _, rfl⟩) hd hr)
/-- areturn -/
theorem Wd.retA (X : Wd p l e R s m args below meth c Z a0 EL own n0 SA0 SA T h cells slots) {t : FieldType} {x : Value} (hret : meth.sig.returnType = some t) (ht : t.isReference = true) (hx : x.isRef = true) (hlk : meth.locks = false) (hd : decode c.code pc = .ok (.areturn, 1)) (hcl : cells ≤ R.cells) (hsl : slots ≤ R.slots) (q : Q0 (some x) h) :
    Goes p.tables e below (Endq Z EL s n0 SA0 R Q0) (T.setTop (mkF m pc Ls (x :: st))) :=
  X.leave (fun q => by rw [hret] at q; cases q) hlk hcl hsl q (fun fs hr vm0 locs Y => retOut Y X.exec hret (by cases t <;> cases x <;> first | rfl | cases ht | cases hx) (Or.inr (Or.inr (Or.inr (Or.inr ⟨rfl, ht, hx⟩)))) hd hr)
end Wide
end Own
namespace Own
open Jvm Jvm.ClassFile Sem Op Lib Jvm.Free Jvm.Stand Jvm.LawKit Jvm.RoadKit Bundle
section Wide
variable {p : Program} {l : Launch} {e : Env} {R : Room} {s : State} {m : MethodId} {args : Array Value} {below : List Frame} {meth : Method} {c : Code}
variable {Z : State} {a0 : Array Value} {EL : List (String × Nat)} {own : String} {n0 : Nat} {SA0 SA : List Addr} {T : State} {h : Heap} {cells slots : Nat} {Q : Outcome → State → Prop} {pc : Nat} {Ls : Array Slot} {st : List Value}
theorem Wd.iloadN (X : Wd p l e R s m args below meth c Z a0 EL own n0 SA0 SA T h cells slots) {k : Fin 4} {x : Int32} (hd : decode c.code pc = .ok (.iload_n k, 1)) (hl : Ls[k.val]? = some (.val (.int x))) (g : Goes p.tables e below Q (T.setTop (mkF m (pc + 1) Ls (.int x :: st)))) : Goes p.tables e below Q (T.setTop (mkF m pc Ls st)) := by
  exact Goes.via (fun t k => XS.iloadN X.here X.exec rfl hd hl k) g
theorem Wd.iload (X : Wd p l e R s m args below meth c Z a0 EL own n0 SA0 SA T h cells slots) {k : Nat} {x : Int32} (hd : decode c.code pc = .ok (.iload k, 2)) (hl : Ls[k]? = some (.val (.int x))) (g : Goes p.tables e below Q (T.setTop (mkF m (pc + 2) Ls (.int x :: st)))) : Goes p.tables e below Q (T.setTop (mkF m pc Ls st)) := by
  exact Goes.via (fun t k => XS.iload X.here X.exec rfl hd hl k) g
theorem Wd.aloadN (X : Wd p l e R s m args below meth c Z a0 EL own n0 SA0 SA T h cells slots) {k : Fin 4} {x : Value} (hd : decode c.code pc = .ok (.aload_n k, 1)) (hl : Ls[k.val]? = some (.val x)) (hv : x.isRef = true) (g : Goes p.tables e below Q (T.setTop (mkF m (pc + 1) Ls (x :: st)))) : Goes p.tables e below Q (T.setTop (mkF m pc Ls st)) := by
  exact Goes.via (fun t k => XS.aloadN X.here X.exec rfl hd hl hv k) g
theorem Wd.aload (X : Wd p l e R s m args below meth c Z a0 EL own n0 SA0 SA T h cells slots) {k : Nat} {x : Value} (hd : decode c.code pc = .ok (.aload k, 2)) (hl : Ls[k]? = some (.val x)) (hv : x.isRef = true) (g : Goes p.tables e below Q (T.setTop (mkF m (pc + 2) Ls (x :: st)))) : Goes p.tables e below Q (T.setTop (mkF m pc Ls st)) := by
  exact Goes.via (fun t k => XS.aload X.here X.exec rfl hd hl hv k) g
theorem Wd.iconst (X : Wd p l e R s m args below meth c Z a0 EL own n0 SA0 SA T h cells slots) {i : Int} {x : Int32} (hd : decode c.code pc = .ok (.iconst i, 1)) (hv : Int32.ofInt i = x) (g : Goes p.tables e below Q (T.setTop (mkF m (pc + 1) Ls (.int x :: st)))) : Goes p.tables e below Q (T.setTop (mkF m pc Ls st)) := by
  subst hv
  exact Goes.via (fun t k => XS.iconst X.here X.exec rfl hd k) g
theorem Wd.bipush (X : Wd p l e R s m args below meth c Z a0 EL own n0 SA0 SA T h cells slots) {i : Int} {x : Int32} (hd : decode c.code pc = .ok (.bipush i, 2)) (hv : (Int8.ofInt i).toInt32 = x) (g : Goes p.tables e below Q (T.setTop (mkF m (pc + 2) Ls (.int x :: st)))) : Goes p.tables e below Q (T.setTop (mkF m pc Ls st)) := by
  subst hv
  exact Goes.via (fun t k => XS.bipush X.here X.exec rfl hd k) g
theorem Wd.sipush (X : Wd p l e R s m args below meth c Z a0 EL own n0 SA0 SA T h cells slots) {i : Int} {x : Int32} (hd : decode c.code pc = .ok (.sipush i, 3)) (hv : (Int16.ofInt i).toInt32 = x) (g : Goes p.tables e below Q (T.setTop (mkF m (pc + 3) Ls (.int x :: st)))) : Goes p.tables e below Q (T.setTop (mkF m pc Ls st)) := by
  subst hv
  exact Goes.via (fun t k => XS.sipush X.here X.exec rfl hd k) g
theorem Wd.anull (X : Wd p l e R s m args below meth c Z a0 EL own n0 SA0 SA T h cells slots)  (hd : decode c.code pc = .ok (.aconst_null, 1))  (g : Goes p.tables e below Q (T.setTop (mkF m (pc + 1) Ls (.null :: st)))) : Goes p.tables e below Q (T.setTop (mkF m pc Ls st)) := by
  exact Goes.via (fun t k => XS.aconstNull X.here X.exec rfl hd k) g
theorem Wd.istoreN (X : Wd p l e R s m args below meth c Z a0 EL own n0 SA0 SA T h cells slots) {k : Fin 4} {x : Int32} (l' : Array Slot) (hd : decode c.code pc = .ok (.istore_n k, 1)) (hl : storeLocals Ls k.val (.int x) = some l') (g : Goes p.tables e below Q (T.setTop (mkF m (pc + 1) l' st))) : Goes p.tables e below Q (T.setTop (mkF m pc Ls (.int x :: st))) := by
  exact Goes.via (fun t k => XS.istoreN X.here X.exec rfl hd rfl hl k) g
theorem Wd.istore (X : Wd p l e R s m args below meth c Z a0 EL own n0 SA0 SA T h cells slots) {k : Nat} {x : Int32} (l' : Array Slot) (hd : decode c.code pc = .ok (.istore k, 2)) (hl : storeLocals Ls k (.int x) = some l') (g : Goes p.tables e below Q (T.setTop (mkF m (pc + 2) l' st))) : Goes p.tables e below Q (T.setTop (mkF m pc Ls (.int x :: st))) := by
  exact Goes.via (fun t k => XS.istore X.here X.exec rfl hd rfl hl k) g
theorem Wd.astoreN (X : Wd p l e R s m args below meth c Z a0 EL own n0 SA0 SA T h cells slots) {k : Fin 4} {x : Value} (l' : Array Slot) (hd : decode c.code pc = .ok (.astore_n k, 1)) (hv : x.isRef = true) (hl : storeLocals Ls k.val x = some l') (g : Goes p.tables e below Q (T.setTop (mkF m (pc + 1) l' st))) : Goes p.tables e below Q (T.setTop (mkF m pc Ls (x :: st))) := by
  exact Goes.via (fun t k => XS.astoreN X.here X.exec rfl hd rfl hv hl k) g
theorem Wd.astore (X : Wd p l e R s m args below meth c Z a0 EL own n0 SA0 SA T h cells slots) {k : Nat} {x : Value} (l' : Array Slot) (hd : decode c.code pc = .ok (.astore k, 2)) (hv : x.isRef = true) (hl : storeLocals Ls k x = some l') (g : Goes p.tables e below Q (T.setTop (mkF m (pc + 2) l' st))) : Goes p.tables e below Q (T.setTop (mkF m pc Ls (x :: st))) := by
  exact Goes.via (fun t k => XS.astore X.here X.exec rfl hd rfl hv hl k) g
theorem Wd.iadd (X : Wd p l e R s m args below meth c Z a0 EL own n0 SA0 SA T h cells slots) {x y : Int32} (hd : decode c.code pc = .ok (.iadd, 1))  (g : Goes p.tables e below Q (T.setTop (mkF m (pc + 1) Ls (.int (x + y) :: st)))) : Goes p.tables e below Q (T.setTop (mkF m pc Ls (.int y :: .int x :: st))) := by
  exact Goes.via (fun t k => XS.iadd X.here X.exec rfl hd rfl k) g
theorem Wd.isub (X : Wd p l e R s m args below meth c Z a0 EL own n0 SA0 SA T h cells slots) {x y : Int32} (hd : decode c.code pc = .ok (.isub, 1))  (g : Goes p.tables e below Q (T.setTop (mkF m (pc + 1) Ls (.int (x - y) :: st)))) : Goes p.tables e below Q (T.setTop (mkF m pc Ls (.int y :: .int x :: st))) := by
  exact Goes.via (fun t k => XS.isub X.here X.exec rfl hd rfl k) g
theorem Wd.iand (X : Wd p l e R s m args below meth c Z a0 EL own n0 SA0 SA T h cells slots) {x y : Int32} (hd : decode c.code pc = .ok (.iand, 1))  (g : Goes p.tables e below Q (T.setTop (mkF m (pc + 1) Ls (.int (x &&& y) :: st)))) : Goes p.tables e below Q (T.setTop (mkF m pc Ls (.int y :: .int x :: st))) := by
  exact Goes.via (fun t k => XS.iand X.here X.exec rfl hd rfl k) g
theorem Wd.imul (X : Wd p l e R s m args below meth c Z a0 EL own n0 SA0 SA T h cells slots) {x y : Int32} (hd : decode c.code pc = .ok (.imul, 1))  (g : Goes p.tables e below Q (T.setTop (mkF m (pc + 1) Ls (.int (x * y) :: st)))) : Goes p.tables e below Q (T.setTop (mkF m pc Ls (.int y :: .int x :: st))) := by
  exact Goes.via (fun t k => XS.imul X.here X.exec rfl hd rfl k) g
theorem Wd.ior (X : Wd p l e R s m args below meth c Z a0 EL own n0 SA0 SA T h cells slots) {x y : Int32} (hd : decode c.code pc = .ok (.ior, 1))  (g : Goes p.tables e below Q (T.setTop (mkF m (pc + 1) Ls (.int (x ||| y) :: st)))) : Goes p.tables e below Q (T.setTop (mkF m pc Ls (.int y :: .int x :: st))) := by
  exact Goes.via (fun t k => XT.ior X.here X.exec rfl hd rfl k) g
theorem Wd.ixor (X : Wd p l e R s m args below meth c Z a0 EL own n0 SA0 SA T h cells slots) {x y : Int32} (hd : decode c.code pc = .ok (.ixor, 1))  (g : Goes p.tables e below Q (T.setTop (mkF m (pc + 1) Ls (.int (x ^^^ y) :: st)))) : Goes p.tables e below Q (T.setTop (mkF m pc Ls (.int y :: .int x :: st))) := by
  exact Goes.via (fun t k => XT.ixor X.here X.exec rfl hd rfl k) g
theorem Wd.ishl (X : Wd p l e R s m args below meth c Z a0 EL own n0 SA0 SA T h cells slots) {x y : Int32} (hd : decode c.code pc = .ok (.ishl, 1))  (g : Goes p.tables e below Q (T.setTop (mkF m (pc + 1) Ls (.int (x <<< (y &&& 31)) :: st)))) : Goes p.tables e below Q (T.setTop (mkF m pc Ls (.int y :: .int x :: st))) := by
  exact Goes.via (fun t k => XT.ishl X.here X.exec rfl hd rfl k) g
theorem Wd.ishr (X : Wd p l e R s m args below meth c Z a0 EL own n0 SA0 SA T h cells slots) {x y : Int32} (hd : decode c.code pc = .ok (.ishr, 1))  (g : Goes p.tables e below Q (T.setTop (mkF m (pc + 1) Ls (.int (x >>> (y &&& 31)) :: st)))) : Goes p.tables e below Q (T.setTop (mkF m pc Ls (.int y :: .int x :: st))) := by
  exact Goes.via (fun t k => XT.ishr X.here X.exec rfl hd rfl k) g
theorem Wd.iushr (X : Wd p l e R s m args below meth c Z a0 EL own n0 SA0 SA T h cells slots) {x y : Int32} (hd : decode c.code pc = .ok (.iushr, 1))  (g : Goes p.tables e below Q (T.setTop (mkF m (pc + 1) Ls (.int (XT.ushr x y) :: st)))) : Goes p.tables e below Q (T.setTop (mkF m pc Ls (.int y :: .int x :: st))) := by
  exact Goes.via (fun t k => XT.iushr X.here X.exec rfl hd rfl k) g
theorem Wd.irem (X : Wd p l e R s m args below meth c Z a0 EL own n0 SA0 SA T h cells slots) {x y : Int32} (hd : decode c.code pc = .ok (.irem, 1)) (hy : y ≠ 0) (g : Goes p.tables e below Q (T.setTop (mkF m (pc + 1) Ls (.int (x % y) :: st)))) : Goes p.tables e below Q (T.setTop (mkF m pc Ls (.int y :: .int x :: st))) := by
  have hx := X.exec
  obtain ⟨vm0, locs, k0, Y, -⟩ := X
  exact Goes.via (fun t k => iremM Y hx (g := mkF m pc Ls (.int y :: .int x :: st)) rfl hd rfl hy k) g
theorem Wd.i2c (X : Wd p l e R s m args below meth c Z a0 EL own n0 SA0 SA T h cells slots) {x : Int32} (hd : decode c.code pc = .ok (.i2c, 1))  (g : Goes p.tables e below Q (T.setTop (mkF m (pc + 1) Ls (.int (x.toUInt32.toUInt16.toUInt32.toInt32) :: st)))) : Goes p.tables e below Q (T.setTop (mkF m pc Ls (.int x :: st))) := by
  exact Goes.via (fun t k => XT.i2c X.here X.exec rfl hd rfl k) g
theorem Wd.i2b (X : Wd p l e R s m args below meth c Z a0 EL own n0 SA0 SA T h cells slots) {x : Int32} (hd : decode c.code pc = .ok (.i2b, 1))  (g : Goes p.tables e below Q (T.setTop (mkF m (pc + 1) Ls (.int (x.toInt8.toInt32) :: st)))) : Goes p.tables e below Q (T.setTop (mkF m pc Ls (.int x :: st))) := by
  exact Goes.via (fun t k => XT.i2b X.here X.exec rfl hd rfl k) g
theorem Wd.dup (X : Wd p l e R s m args below meth c Z a0 EL own n0 SA0 SA T h cells slots) {x : Value} (hd : decode c.code pc = .ok (.dup, 1)) (hv : x.category = 1) (g : Goes p.tables e below Q (T.setTop (mkF m (pc + 1) Ls (x :: x :: st)))) : Goes p.tables e below Q (T.setTop (mkF m pc Ls (x :: st))) := by
  exact Goes.via (fun t k => XS.dup X.here X.exec rfl hd rfl hv k) g
theorem Wd.pop (X : Wd p l e R s m args below meth c Z a0 EL own n0 SA0 SA T h cells slots) {x : Value} (hd : decode c.code pc = .ok (.pop, 1)) (hv : x.category = 1) (g : Goes p.tables e below Q (T.setTop (mkF m (pc + 1) Ls st))) : Goes p.tables e below Q (T.setTop (mkF m pc Ls (x :: st))) := by
  exact Goes.via (fun t k => XT.pop X.here X.exec rfl hd rfl hv k) g
theorem Wd.iinc (X : Wd p l e R s m args below meth c Z a0 EL own n0 SA0 SA T h cells slots) {k : Nat} {cst : Int} {x : Int32} (l' : Array Slot) (hd : decode c.code pc = .ok (.iinc k cst, 3)) (hl : Ls[k]? = some (.val (.int x))) (hl' : storeLocals Ls k (.int (x + Int32.ofInt cst)) = some l') (g : Goes p.tables e below Q (T.setTop (mkF m (pc + 3) l' st))) : Goes p.tables e below Q (T.setTop (mkF m pc Ls st)) := by
  exact Goes.via (fun t k => XS.iinc X.here X.exec rfl hd hl hl' k) g
theorem Wd.goto (X : Wd p l e R s m args below meth c Z a0 EL own n0 SA0 SA T h cells slots) {o : Int} (pc' : Nat) (hd : decode c.code pc = .ok (.goto o, 3)) (hp : 0 ≤ (pc : Int) + o ∧ ((pc : Int) + o).toNat = pc') (g : Goes p.tables e below Q (T.setTop (mkF m pc' Ls st))) : Goes p.tables e below Q (T.setTop (mkF m pc Ls st)) :=
  Goes.via (fun t k => XS.goto X.here X.exec rfl rfl hd hp.1 hp.2 k) g
theorem Wd.if_eq (X : Wd p l e R s m args below meth c Z a0 EL own n0 SA0 SA T h cells slots) {x : Int32} {o : Int} (pc' : Nat) (hd : decode c.code pc = .ok (.ifCond .eq o, 3)) (hp : 0 ≤ (pc : Int) + o ∧ ((pc : Int) + o).toNat = pc') (kt : x = 0 → Goes p.tables e below Q (T.setTop (mkF m pc' Ls st))) (kf : ¬ x = 0 → Goes p.tables e below Q (T.setTop (mkF m (pc + 3) Ls st))) : Goes p.tables e below Q (T.setTop (mkF m pc Ls (.int x :: st))) := by
  by_cases hq : x = 0
  · exact Goes.via (fun t k => XS.ifYes X.here X.exec rfl rfl hd rfl (XT.i0_eq_t hq) hp.1 hp.2 k) (kt hq)
  · exact Goes.via (fun t k => XS.ifNo X.here X.exec rfl hd rfl (XT.i0_eq_f hq) k) (kf hq)
theorem Wd.icmp_eq (X : Wd p l e R s m args below meth c Z a0 EL own n0 SA0 SA T h cells slots) {x y : Int32} {o : Int} (pc' : Nat) (hd : decode c.code pc = .ok (.if_icmp .eq o, 3)) (hp : 0 ≤ (pc : Int) + o ∧ ((pc : Int) + o).toNat = pc') (kt : x = y → Goes p.tables e below Q (T.setTop (mkF m pc' Ls st))) (kf : ¬ x = y → Goes p.tables e below Q (T.setTop (mkF m (pc + 3) Ls st))) : Goes p.tables e below Q (T.setTop (mkF m pc Ls (.int y :: .int x :: st))) := by
  by_cases hq : x = y
  · exact Goes.via (fun t k => XS.icmpYes X.here X.exec rfl rfl hd rfl (XT.ii_eq_t hq) hp.1 hp.2 k) (kt hq)
  · exact Goes.via (fun t k => XS.icmpNo X.here X.exec rfl hd rfl (XT.ii_eq_f hq) k) (kf hq)
theorem Wd.if_ne (X : Wd p l e R s m args below meth c Z a0 EL own n0 SA0 SA T h cells slots) {x : Int32} {o : Int} (pc' : Nat) (hd : decode c.code pc = .ok (.ifCond .ne o, 3)) (hp : 0 ≤ (pc : Int) + o ∧ ((pc : Int) + o).toNat = pc') (kt : ¬ x = 0 → Goes p.tables e below Q (T.setTop (mkF m pc' Ls st))) (kf : x = 0 → Goes p.tables e below Q (T.setTop (mkF m (pc + 3) Ls st))) : Goes p.tables e below Q (T.setTop (mkF m pc Ls (.int x :: st))) := by
  by_cases hq : x = 0
  · exact Goes.via (fun t k => XS.ifNo X.here X.exec rfl hd rfl (XT.i0_ne_f hq) k) (kf hq)
  · exact Goes.via (fun t k => XS.ifYes X.here X.exec rfl rfl hd rfl (XT.i0_ne_t hq) hp.1 hp.2 k) (kt hq)
theorem Wd.icmp_ne (X : Wd p l e R s m args below meth c Z a0 EL own n0 SA0 SA T h cells slots) {x y : Int32} {o : Int} (pc' : Nat) (hd : decode c.code pc = .ok (.if_icmp .ne o, 3)) (hp : 0 ≤ (pc : Int) + o ∧ ((pc : Int) + o).toNat = pc') (kt : ¬ x = y → Goes p.tables e below Q (T.setTop (mkF m pc' Ls st))) (kf : x = y → Goes p.tables e below Q (T.setTop (mkF m (pc + 3) Ls st))) : Goes p.tables e below Q (T.setTop (mkF m pc Ls (.int y :: .int x :: st))) := by
  by_cases hq : x = y
  · exact Goes.via (fun t k => XS.icmpNo X.here X.exec rfl hd rfl (XT.ii_ne_f hq) k) (kf hq)
  · exact Goes.via (fun t k => XS.icmpYes X.here X.exec rfl rfl hd rfl (XT.ii_ne_t hq) hp.1 hp.2 k) (kt hq)
theorem Wd.if_lt (X : Wd p l e R s m args below meth c Z a0 EL own n0 SA0 SA T h cells slots) {x : Int32} {o : Int} (pc' : Nat) (hd : decode c.code pc = .ok (.ifCond .lt o, 3)) (hp : 0 ≤ (pc : Int) + o ∧ ((pc : Int) + o).toNat = pc') (kt : x < 0 → Goes p.tables e below Q (T.setTop (mkF m pc' Ls st))) (kf : ¬ x < 0 → Goes p.tables e below Q (T.setTop (mkF m (pc + 3) Ls st))) : Goes p.tables e below Q (T.setTop (mkF m pc Ls (.int x :: st))) := by
  by_cases hq : x < 0
  · exact Goes.via (fun t k => XS.ifYes X.here X.exec rfl rfl hd rfl (XT.i0_lt_t hq) hp.1 hp.2 k) (kt hq)
  · exact Goes.via (fun t k => XS.ifNo X.here X.exec rfl hd rfl (XT.i0_lt_f hq) k) (kf hq)
theorem Wd.icmp_lt (X : Wd p l e R s m args below meth c Z a0 EL own n0 SA0 SA T h cells slots) {x y : Int32} {o : Int} (pc' : Nat) (hd : decode c.code pc = .ok (.if_icmp .lt o, 3)) (hp : 0 ≤ (pc : Int) + o ∧ ((pc : Int) + o).toNat = pc') (kt : x < y → Goes p.tables e below Q (T.setTop (mkF m pc' Ls st))) (kf : ¬ x < y → Goes p.tables e below Q (T.setTop (mkF m (pc + 3) Ls st))) : Goes p.tables e below Q (T.setTop (mkF m pc Ls (.int y :: .int x :: st))) := by
  by_cases hq : x < y
  · exact Goes.via (fun t k => XS.icmpYes X.here X.exec rfl rfl hd rfl (XT.ii_lt_t hq) hp.1 hp.2 k) (kt hq)
  · exact Goes.via (fun t k => XS.icmpNo X.here X.exec rfl hd rfl (XT.ii_lt_f hq) k) (kf hq)
theorem Wd.if_ge (X : Wd p l e R s m args below meth c Z a0 EL own n0 SA0 SA T h cells slots) {x : Int32} {o : Int} (pc' : Nat) (hd : decode c.code pc = .ok (.ifCond .ge o, 3)) (hp : 0 ≤ (pc : Int) + o ∧ ((pc : Int) + o).toNat = pc') (kt : ¬ x < 0 → Goes p.tables e below Q (T.setTop (mkF m pc' Ls st))) (kf : x < 0 → Goes p.tables e below Q (T.setTop (mkF m (pc + 3) Ls st))) : Goes p.tables e below Q (T.setTop (mkF m pc Ls (.int x :: st))) := by
  by_cases hq : x < 0
  · exact Goes.via (fun t k => XS.ifNo X.here X.exec rfl hd rfl (XT.i0_ge_f hq) k) (kf hq)
  · exact Goes.via (fun t k => XS.ifYes X.here X.exec rfl rfl hd rfl (XT.i0_ge_t hq) hp.1 hp.2 k) (kt hq)
theorem Wd.icmp_ge (X : Wd p l e R s m args below meth c Z a0 EL own n0 SA0 SA T h cells slots) {x y : Int32} {o : Int} (pc' : Nat) (hd : decode c.code pc = .ok (.if_icmp .ge o, 3)) (hp : 0 ≤ (pc : Int) + o ∧ ((pc : Int) + o).toNat = pc') (kt : ¬ x < y → Goes p.tables e below Q (T.setTop (mkF m pc' Ls st))) (kf : x < y → Goes p.tables e below Q (T.setTop (mkF m (pc + 3) Ls st))) : Goes p.tables e below Q (T.setTop (mkF m pc Ls (.int y :: .int x :: st))) := by
  by_cases hq : x < y
  · exact Goes.via (fun t k => XS.icmpNo X.here X.exec rfl hd rfl (XT.ii_ge_f hq) k) (kf hq)
  · exact Goes.via (fun t k => XS.icmpYes X.here X.exec rfl rfl hd rfl (XT.ii_ge_t hq) hp.1 hp.2 k) (kt hq)
theorem Wd.if_gt (X : Wd p l e R s m args below meth c Z a0 EL own n0 SA0 SA T h cells slots) {x : Int32} {o : Int} (pc' : Nat) (hd : decode c.code pc = .ok (.ifCond .gt o, 3)) (hp : 0 ≤ (pc : Int) + o ∧ ((pc : Int) + o).toNat = pc') (kt : 0 < x → Goes p.tables e below Q (T.setTop (mkF m pc' Ls st))) (kf : ¬ 0 < x → Goes p.tables e below Q (T.setTop (mkF m (pc + 3) Ls st))) : Goes p.tables e below Q (T.setTop (mkF m pc Ls (.int x :: st))) := by
  by_cases hq : 0 < x
  · exact Goes.via (fun t k => XS.ifYes X.here X.exec rfl rfl hd rfl (XT.i0_gt_t hq) hp.1 hp.2 k) (kt hq)
  · exact Goes.via (fun t k => XS.ifNo X.here X.exec rfl hd rfl (XT.i0_gt_f hq) k) (kf hq)
theorem Wd.icmp_gt (X : Wd p l e R s m args below meth c Z a0 EL own n0 SA0 SA T h cells slots) {x y : Int32} {o : Int} (pc' : Nat) (hd : decode c.code pc = .ok (.if_icmp .gt o, 3)) (hp : 0 ≤ (pc : Int) + o ∧ ((pc : Int) + o).toNat = pc') (kt : y < x → Goes p.tables e below Q (T.setTop (mkF m pc' Ls st))) (kf : ¬ y < x → Goes p.tables e below Q (T.setTop (mkF m (pc + 3) Ls st))) : Goes p.tables e below Q (T.setTop (mkF m pc Ls (.int y :: .int x :: st))) := by
  by_cases hq : y < x
  · exact Goes.via (fun t k => XS.icmpYes X.here X.exec rfl rfl hd rfl (XT.ii_gt_t hq) hp.1 hp.2 k) (kt hq)
  · exact Goes.via (fun t k => XS.icmpNo X.here X.exec rfl hd rfl (XT.ii_gt_f hq) k) (kf hq)
theorem Wd.if_le (X : Wd p l e R s m args below meth c Z a0 EL own n0 SA0 SA T h cells slots) {x : Int32} {o : Int} (pc' : Nat) (hd : decode c.code pc = .ok (.ifCond .le o, 3)) (hp : 0 ≤ (pc : Int) + o ∧ ((pc : Int) + o).toNat = pc') (kt : ¬ 0 < x → Goes p.tables e below Q (T.setTop (mkF m pc' Ls st))) (kf : 0 < x → Goes p.tables e below Q (T.setTop (mkF m (pc + 3) Ls st))) : Goes p.tables e below Q (T.setTop (mkF m pc Ls (.int x :: st))) := by
  by_cases hq : 0 < x
  · exact Goes.via (fun t k => XS.ifNo X.here X.exec rfl hd rfl (XT.i0_le_f hq) k) (kf hq)
  · exact Goes.via (fun t k => XS.ifYes X.here X.exec rfl rfl hd rfl (XT.i0_le_t hq) hp.1 hp.2 k) (kt hq)
theorem Wd.icmp_le (X : Wd p l e R s m args below meth c Z a0 EL own n0 SA0 SA T h cells slots) {x y : Int32} {o : Int} (pc' : Nat) (hd : decode c.code pc = .ok (.if_icmp .le o, 3)) (hp : 0 ≤ (pc : Int) + o ∧ ((pc : Int) + o).toNat = pc') (kt : ¬ y < x → Goes p.tables e below Q (T.setTop (mkF m pc' Ls st))) (kf : y < x → Goes p.tables e below Q (T.setTop (mkF m (pc + 3) Ls st))) : Goes p.tables e below Q (T.setTop (mkF m pc Ls (.int y :: .int x :: st))) := by
  by_cases hq : y < x
  · exact Goes.via (fun t k => XS.icmpNo X.here X.exec rfl hd rfl (XT.ii_le_f hq) k) (kf hq)
  · exact Goes.via (fun t k => XS.icmpYes X.here X.exec rfl rfl hd rfl (XT.ii_le_t hq) hp.1 hp.2 k) (kt hq)
theorem Wd.ifnullR (X : Wd p l e R s m args below meth c Z a0 EL own n0 SA0 SA T h cells slots) {b : Addr} {o : Int} (hd : decode c.code pc = .ok (.ifnull o, 3)) (g : Goes p.tables e below Q (T.setTop (mkF m (pc + 3) Ls st))) : Goes p.tables e below Q (T.setTop (mkF m pc Ls (.ref b :: st))) :=
  Goes.via (fun t k => XS.ifnullNo X.here X.exec rfl hd rfl k) g
theorem Wd.ifnullN (X : Wd p l e R s m args below meth c Z a0 EL own n0 SA0 SA T h cells slots) {o : Int} (pc' : Nat) (hd : decode c.code pc = .ok (.ifnull o, 3)) (hp : 0 ≤ (pc : Int) + o ∧ ((pc : Int) + o).toNat = pc') (g : Goes p.tables e below Q (T.setTop (mkF m pc' Ls st))) : Goes p.tables e below Q (T.setTop (mkF m pc Ls (.null :: st))) :=
  Goes.via (fun t k => XS.ifnullYes X.here X.exec rfl rfl hd rfl hp.1 hp.2 k) g
theorem Wd.ifnonnullR (X : Wd p l e R s m args below meth c Z a0 EL own n0 SA0 SA T h cells slots) {b : Addr} {o : Int} (pc' : Nat) (hd : decode c.code pc = .ok (.ifnonnull o, 3)) (hp : 0 ≤ (pc : Int) + o ∧ ((pc : Int) + o).toNat = pc') (g : Goes p.tables e below Q (T.setTop (mkF m pc' Ls st))) : Goes p.tables e below Q (T.setTop (mkF m pc Ls (.ref b :: st))) :=
  Goes.via (fun t k => XT.ifnonnullYes X.here X.exec rfl rfl hd rfl hp.1 hp.2 k) g
theorem Wd.ifnonnullN (X : Wd p l e R s m args below meth c Z a0 EL own n0 SA0 SA T h cells slots) {o : Int} (hd : decode c.code pc = .ok (.ifnonnull o, 3)) (g : Goes p.tables e below Q (T.setTop (mkF m (pc + 3) Ls st))) : Goes p.tables e below Q (T.setTop (mkF m pc Ls (.null :: st))) :=
  Goes.via (fun t k => XT.ifnonnullNo X.here X.exec rfl hd rfl k) g
theorem Wd.acmp_eq (X : Wd p l e R s m args below meth c Z a0 EL own n0 SA0 SA T h cells slots) {x y : Value} {o : Int} (pc' : Nat) (hd : decode c.code pc = .ok (.if_acmp .eq o, 3)) (hp : 0 ≤ (pc : Int) + o ∧ ((pc : Int) + o).toNat = pc') (hx : x.isRef = true) (hy : y.isRef = true) (kt : x = y → Goes p.tables e below Q (T.setTop (mkF m pc' Ls st))) (kf : ¬ x = y → Goes p.tables e below Q (T.setTop (mkF m (pc + 3) Ls st))) : Goes p.tables e below Q (T.setTop (mkF m pc Ls (y :: x :: st))) := by
  by_cases hq : x = y
  · exact Goes.via (fun t k => XT.acmpYes X.here X.exec rfl rfl hd rfl hx hy (XT.aa_eq_t hq) hp.1 hp.2 k) (kt hq)
  · exact Goes.via (fun t k => XT.acmpNo X.here X.exec rfl hd rfl hx hy (XT.aa_eq_f hq) k) (kf hq)
theorem Wd.acmp_ne (X : Wd p l e R s m args below meth c Z a0 EL own n0 SA0 SA T h cells slots) {x y : Value} {o : Int} (pc' : Nat) (hd : decode c.code pc = .ok (.if_acmp .ne o, 3)) (hp : 0 ≤ (pc : Int) + o ∧ ((pc : Int) + o).toNat = pc') (hx : x.isRef = true) (hy : y.isRef = true) (kt : ¬ x = y → Goes p.tables e below Q (T.setTop (mkF m pc' Ls st))) (kf : x = y → Goes p.tables e below Q (T.setTop (mkF m (pc + 3) Ls st))) : Goes p.tables e below Q (T.setTop (mkF m pc Ls (y :: x :: st))) := by
  by_cases hq : x = y
  · exact Goes.via (fun t k => XT.acmpNo X.here X.exec rfl hd rfl hx hy (XT.aa_ne_f hq) k) (kf hq)
  · exact Goes.via (fun t k => XT.acmpYes X.here X.exec rfl rfl hd rfl hx hy (XT.aa_ne_t hq) hp.1 hp.2 k) (kt hq)
end Wide
end Own
namespace Own
open Jvm Jvm.ClassFile Sem Op Lib Jvm.Free Jvm.Stand Jvm.LawKit Jvm.RoadKit Bundle
section Facts
variable {Z : State} {h h' : Heap} {a b t x y : Addr} {cs : List Int32} {C : String} {a0 : Array Value} {k k' : ClassId} {ty ty' : FieldType} {n n' : Int32} {vs vs' : List Value} {dv dv' v : Value} {sl : Nat} {ws : List Addr}
theorem arvTy (A : Arv Z h a k ty n vs dv) (B : Arv Z h b k' ty' n' vs' dv') (q : ty ≠ ty') : a ≠ b := fun e => by
  subst e
  obtain ⟨c1, ⟨h1, ⟨-, k1, h2, m1, h3⟩, -⟩, -⟩ := A
  obtain ⟨c2, ⟨g1, ⟨-, k2, g2, m2, g3⟩, -⟩, -⟩ := B
  cases h1.symm.trans g1
  cases h2.symm.trans g2
  rw [h3] at g3
  cases g3
  exact q rfl
theorem narR {t : FieldType} {v : Value} (hv : v.isRef = true) (ht : t.isReference = true := by rfl) : narrow t v = v := by cases t <;> cases v <;> first | rfl | (cases hv; done) | (cases ht; done)
theorem fitR {t : FieldType} {v : Value} (hv : v.isRef = true) (ht : t.isReference = true := by rfl) : fits t v = true := by cases t <;> cases v <;> first | rfl | (cases hv; done) | (cases ht; done)
/-- a is a Latin-1 String that spells cs; its bytes lie at t -/
def OStr (Z : State) (h : Heap) (a t : Addr) (cs : List Int32) : Prop := Exa Z h a "java/lang/String" ∧ (∀ c ∈ cs, ¬ c < 0 ∧ ¬ (255 : Int32) < c) ∧ cs.length ≤ 4000 ∧
  ∃ kb : ClassId, Fld Z h a "java/lang/String" "value" "[B" (.ref t) ∧ Fld Z h a "java/lang/String" "coder" "B" (.int (0 : Int32)) ∧ Arv Z h t kb .byte (Int32.ofNat cs.length) ((cs.map StrChars.lo8).map Value.int) (.int 0)
theorem up16 {cs : List Int32} (hp : ∀ c ∈ cs, ¬ c < 0 ∧ ¬ (255 : Int32) < c) : ∀ c ∈ cs, ¬ c < 0 ∧ ¬ (65535 : Int32) < c := fun c q => ⟨(hp c q).1, fun z => (hp c q).2 (Int32.lt_trans (by decide) z)⟩
theorem OStr.lt (F : OStr Z h a t cs) : a < h.size := F.1.lt
theorem OStr.ltb (F : OStr Z h a t cs) : t < h.size := by obtain ⟨-, -, -, _, -, -, A⟩ := F; exact A.lt
theorem OStr.ext (F : OStr Z h a t cs) (E : Ext h h') : OStr Z h' a t cs := by
  obtain ⟨h1, h2, h3, kb, h4, h5, h6⟩ := F
  exact ⟨h1.ext E, h2, h3, kb, h4.ext E, h5.ext E, h6.ext E⟩
theorem OStr.wr (F : OStr Z h a t cs) (W : Wr h h' x sl v) (q1 : a ≠ x) (q2 : t ≠ x) : OStr Z h' a t cs := by
  obtain ⟨h1, h2, h3, kb, h4, h5, h6⟩ := F
  exact ⟨h1.wr W, h2, h3, kb, h4.other W (Or.inl q1), h5.other W (Or.inl q1), h6.other W q2⟩
theorem OStr.keep (F : OStr Z h a t cs) (K : Keep h h' ws) (q1 : a ∉ ws) (q2 : t ∉ ws) : OStr Z h' a t cs := by
  obtain ⟨h1, h2, h3, kb, h4, h5, h6⟩ := F
  exact ⟨h1.keep K, h2, h3, kb, h4.keep K q1, h5.keep K q1, h6.keep K q2⟩
theorem OStr.neT {kk : Nat} (F : OStr Z h a t cs) (E : Exa Z h x C) (w : (Jvm.Cond.instantiable C kk).before a0 Z = true) : t ≠ x := by
  obtain ⟨-, -, -, kb, -, -, h6⟩ := F
  exact (E.neArv h6 w).symm
theorem OStr.neTA (F : OStr Z h a t cs) (A : Arv Z h x k ty n vs dv) (q : FieldType.byte ≠ ty) : t ≠ x := by
  obtain ⟨-, -, -, kb, -, -, h6⟩ := F
  exact arvTy h6 A q
theorem OStr.mk {kb : ClassId} (E : Exa Z h a "java/lang/String") (V : Fld Z h a "java/lang/String" "value" "[B" (.ref t)) (C : Fld Z h a "java/lang/String" "coder" "B" (.int (0 : Int32))) (A : Arv Z h t kb .byte (Int32.ofNat cs.length) ((cs.map StrChars.lo8).map Value.int) (.int 0)) (hp : ∀ c ∈ cs, ¬ c < 0 ∧ ¬ (255 : Int32) < c) (l2 : cs.length ≤ 4000) : OStr Z h a t cs :=
  ⟨E, hp, l2, kb, V, C, A⟩
end Facts
section Wide
variable {p : Program} {l : Launch} {e : Env} {R : Room} {s : State} {m : MethodId} {args : Array Value} {below : List Frame} {meth : Method} {c : Code}
variable {Z : State} {a0 : Array Value} {EL : List (String × Nat)} {own : String} {n0 : Nat} {SA0 SA : List Addr} {T : State} {h h' : Heap} {cells slots : Nat} {Q : Outcome → State → Prop} {pc : Nat} {Ls : Array Slot} {st : List Value} {vm0 vm1 : Vm} {a b : Addr} {sl : Nat} {v : Value}
abbrev sI1 : MethodName := ⟨"java/lang/String", "<init>", "([C)V"⟩
theorem pdI1 : parseMethodDescriptor "([C)V" = some ⟨[.array .char], none⟩ := by decide +kernel
/-- new String(char[]), one to 4000 chars, each 0 to 255 -/
theorem Wd.newStr (X : Wd p l e R s m args below meth c Z a0 EL own n0 SA0 SA T h cells slots) {idx : Nat} {kC : ClassId} {cs : List Int32} {d v0 c0 : Value} {z N : Int32} (n : Nat) (w1 : (Jvm.Cond.methodLink own idx sI1).before a0 Z = true) (w2 : (Jvm.Cond.instanceMethod sI1).before a0 Z = true)
    (hws : ∀ d ∈ StrChars.Road.words, d.before a0 Z = true) (wi : (Jvm.Cond.instantiable "java/lang/String" 4).before a0 Z = true) (E : Exa Z h a "java/lang/String") (V : Fld Z h a "java/lang/String" "value" "[B" v0) (C : Fld Z h a "java/lang/String" "coder" "B" c0) (K : Arv Z h b kC .char N (cs.map Value.int) d)
    (S0 : Sta Z Z.heap "java/lang/String" "COMPACT_STRINGS" "Z" (.int z)) (hz : ¬ z = 0) (hn : cs.length = n) (hN : N = Int32.ofNat n) (l0 : 0 < n) (l2 : n ≤ 4000) (hp : ∀ c ∈ cs, ¬ c < 0 ∧ ¬ (255 : Int32) < c) (q : a ∈ SA) (hfr : 4 ≤ R.frames) (W : Nat) (hW : (st.map fun v => v.category).sum ≤ W) (hlo : W + 65 ≤ R.locals)
    (hcl : cells + 1 ≤ R.cells) (hsl : slots + n ≤ R.slots) (hsize : Ls.size = c.maxLocals) (hd : decode c.code pc = .ok (.invokespecial idx, 3))
    (k : ∀ (T' : State) (h' : Heap) (t : Addr), Wd p l e R s m args below meth c Z a0 EL own n0 SA0 SA T' h' (cells + 1) (slots + n) → Keep h h' [a] → h.size ≤ t → OStr Z h' a t cs → Goes p.tables e below Q (T'.setTop (mkF m (pc + 3) Ls st))) : Goes p.tables e below Q (T.setTop (mkF m pc Ls (.ref b :: .ref a :: st))) := by
  have hn0 := X.n0h
  have hsa := X.saf q
  obtain ⟨vm0, locs, k0, Y, eT, hS, hk, hZ, hown, hC, N', O, K', S, hEL, hx⟩ := X
  obtain ⟨_, vm1, ⟨T', L', c', s'⟩, -, Y', ⟨L, ⟨rfl, hL, Kp, E', C', t, kb, -, g2, -, V', A'⟩, rfl, rfl, rfl⟩, st'⟩ := Y.specialBack hx (y := sI1) rfl hown (mvT hZ w1) (mvT hZ w2) (mvT hZ (hws _ (List.mem_cons_self ..))) (by decide)
    (StrChars.Road.backV (W := W) (n0 := n0) hZ hws wi hsa.1 hn0 E V C K (Sta.ext O.2 S0) hz hn hN l0 l2 hp rfl hfr hlo) (g := mkF m pc Ls (.ref b :: .ref a :: st)) rfl hsize (Steps.refl _) (a := a) (argsL := [.ref b]) (rest := st) (lenOf pdI1 rfl) rfl (by show 2 * 0 + _ ≤ _; omega) hd (fun _ _ => ⟨rfl, eT, hcl, hsl⟩)
  subst hn hN
  exact Goes.aft st' (k T' T'.heap t (backN hS hk hZ hown hC N' O K' S hEL hx Y' hL Kp (fun x hx => by cases List.mem_singleton.mp hx; exact q)) Kp g2 (OStr.mk E' V' C' A' hp l2))
end Wide
end Own
namespace Own
open Jvm Jvm.ClassFile Sem Op Lib Jvm.Free Jvm.Stand Jvm.LawKit Jvm.RoadKit Bundle
/-- (char) x -/
def i2c (x : Int32) : Int32 := x.toUInt32.toUInt16.toUInt32.toInt32
/-- (char) (x & 255) -/
def c8 (x : Int32) : Int32 := (x &&& (255 : Int32)).toUInt32.toUInt16.toUInt32.toInt32
theorem nar_i2c (x : Int32) : nar .char (i2c x) = i2c x := by
  have q := XT.narrow_c x
  simp only [nar, i2c, UInt32.toUInt32_toInt32, UInt16.toUInt16_toUInt32]
theorem nar_lo8 (x : Int32) : nar .byte (StrChars.lo8 x) = StrChars.lo8 x := by
  show (x.toInt8.toInt32).toInt8.toInt32 = x.toInt8.toInt32
  rw [Int8.toInt8_toInt32]
theorem nar_c8 (x : Int32) : nar .char (c8 x) = c8 x := nar_i2c (x &&& 255)
theorem i2c_nat (x : Int32) : (i2c x).toBitVec.toNat = x.toBitVec.toNat % 65536 := by
  show (x.toUInt32.toUInt16.toUInt32).toNat = _
  simp
  rfl
theorem nat_rng {x : Int32} {n : Nat} (h : x.toBitVec.toNat ≤ n) (hn : n < 2 ^ 31) : x.toInt = x.toBitVec.toNat := by
  show x.toBitVec.toInt = _
  rw [BitVec.toInt_eq_toNat_cond]; split <;> omega
theorem i2c_int (x : Int32) : (i2c x).toInt = ((x.toBitVec.toNat % 65536 : Nat) : Int) := by
  rw [nat_rng (n := 65535) (by rw [i2c_nat]; omega) (by decide), i2c_nat]
theorem i2c_rng (x : Int32) : ¬ i2c x < 0 ∧ ¬ (65535 : Int32) < i2c x := by
  simp only [Int32.lt_iff_toInt_lt, i2c_int, show (0 : Int32).toInt = 0 from rfl, show (65535 : Int32).toInt = 65535 from rfl]
  omega
theorem and_nat (x y : Int32) : (x &&& y).toBitVec.toNat = x.toBitVec.toNat &&& y.toBitVec.toNat := by
  rw [Int32.toBitVec_and, BitVec.toNat_and]
theorem c8_int (x : Int32) : (c8 x).toInt = ((x.toBitVec.toNat % 256 : Nat) : Int) := by
  show (i2c (x &&& 255)).toInt = _
  rw [i2c_int, and_nat, show (255 : Int32).toBitVec.toNat = 2 ^ 8 - 1 from rfl, Nat.and_two_pow_sub_one_eq_mod]
  have : x.toBitVec.toNat % 2 ^ 8 < 256 := Nat.mod_lt _ (by decide)
  rw [Nat.mod_eq_of_lt (a := x.toBitVec.toNat % 2 ^ 8) (by omega)]
theorem c8_rng (x : Int32) : ¬ c8 x < 0 ∧ ¬ (255 : Int32) < c8 x := by
  simp only [Int32.lt_iff_toInt_lt, c8_int, show (0 : Int32).toInt = 0 from rfl, show (255 : Int32).toInt = 255 from rfl]
  omega
theorem hp0 {P : Int32 → Prop} : ∀ c ∈ ([] : List Int32), P c := fun _ q => nomatch q
theorem hpS {P : Int32 → Prop} {x : Int32} {L : List Int32} (q : P x) (r : ∀ c ∈ L, P c) : ∀ c ∈ x :: L, P c := fun c z => (List.mem_cons.mp z).elim (fun u => u ▸ q) (r c)
end Own
namespace Own
open Jvm Jvm.ClassFile Sem Op Lib Jvm.Free Jvm.Stand Jvm.LawKit Jvm.RoadKit Bundle
section Wide
variable {p : Program} {l : Launch} {e : Env} {R : Room} {s : State} {m : MethodId} {args : Array Value} {below : List Frame} {meth : Method} {c : Code}
variable {Z : State} {a0 : Array Value} {EL : List (String × Nat)} {own : String} {n0 : Nat} {SA0 SA : List Addr} {T : State} {h h' : Heap} {cells slots : Nat} {Q : Outcome → State → Prop} {pc : Nat} {Ls : Array Slot} {st : List Value} {vm0 vm1 : Vm} {a b : Addr} {sl : Nat} {v : Value}
theorem backS {T' : State} {k0 cells' slots' : Nat} (hS : s.Since vm0 k0) (hk : k0 ≤ h.size) (hZ : Z.Warmed39 vm0) (hown : vm0.findClass own = some m.cls) (hC : CHr Z EL s.vm s.heap vm0 h) {locs : List Loc} (N : Fr n0 locs) (O : Old Z n0 h) (K : Keep s.heap h SA0) (S : Sfs Z EL vm0 h n0 s.heap.size SA0 SA) (hEL : EW Z a0 EL) (hx : p.tables.exec = Jvm.exec)
    (Y : Stand p l e R (s.setVm vm0) m args below meth c T' (locs ++ []) (cells' + 0) (slots' + 0)) (eh : T'.heap = h) : Wd p l e R s m args below meth c Z a0 EL own n0 SA0 SA T' h cells' slots' := by
  rw [List.append_nil] at Y
  exact ⟨vm0, _, k0, Y, eh, hS, hk, hZ, hown, hC, N, O, K, S, hEL, hx⟩
abbrev sEq : MethodName := ⟨"java/lang/String", "equals", "(Ljava/lang/Object;)Z"⟩
theorem pdEq : parseMethodDescriptor "(Ljava/lang/Object;)Z" = some ⟨[.object "java/lang/Object"], some .boolean⟩ := by decide +kernel
/-- String.equals of two Strings -/
theorem Wd.strEq (X : Wd p l e R s m args below meth c Z a0 EL own n0 SA0 SA T h cells slots) {idx : Nat} {t t' : Addr} {cs ds : List Int32} {z : Int32} (w1 : (Jvm.Cond.methodLink own idx sEq).before a0 Z = true) (w2 : (Jvm.Cond.declares sEq).before a0 Z = true) (w3 : (Jvm.Cond.selects "java/lang/String" sEq sEq).before a0 Z = true) (w4 : (Jvm.Cond.instanceMethod sEq).before a0 Z = true)
    (hws : ∀ d ∈ StrChars.Road.wordsEq, d.before a0 Z = true) (wi : (Jvm.Cond.instantiable "java/lang/String" 4).before a0 Z = true) (F : OStr Z h a t cs) (G : OStr Z h b t' ds) (S0 : Sta Z Z.heap "java/lang/String" "COMPACT_STRINGS" "Z" (.int z)) (hz : ¬ z = 0) (hfr : 2 ≤ R.frames) (W : Nat) (hW : (st.map fun v => v.category).sum ≤ W) (hlo : W + 28 ≤ R.locals)
    (hcl : cells ≤ R.cells) (hsl : slots ≤ R.slots) (hsize : Ls.size = c.maxLocals) (hd : decode c.code pc = .ok (.invokevirtual idx, 3))
    (k1 : ∀ T' : State, Wd p l e R s m args below meth c Z a0 EL own n0 SA0 SA T' h cells slots → cs = ds → Goes p.tables e below Q (T'.setTop (mkF m (pc + 3) Ls (.int 1 :: st))))
    (k0 : ∀ T' : State, Wd p l e R s m args below meth c Z a0 EL own n0 SA0 SA T' h cells slots → ¬ cs = ds → Goes p.tables e below Q (T'.setTop (mkF m (pc + 3) Ls (.int 0 :: st)))) : Goes p.tables e below Q (T.setTop (mkF m pc Ls (.ref b :: .ref a :: st))) := by
  obtain ⟨vm0, locs, kk, Y, eT, hS, hk, hZ, hown, hC, N', O, K', S, hEL, hx⟩ := X
  obtain ⟨f1, f2, f3, kb, f4, f5, f6⟩ := F
  obtain ⟨g1, g2, g3, kb', g4, g5, g6⟩ := G
  obtain ⟨cB, kB, u1, -, u3⟩ := isOf (s := s.setVm vm0) hZ eT f1
  obtain ⟨_, vm1, ⟨T', L', c', s'⟩, -, Y', ⟨L, ⟨hv, rfl, hh⟩, rfl, e1, e2⟩, st'⟩ := Y.virtualBack hx (y := sEq) (z := sEq) hown (mvT hZ w1) (mvT hZ w2) (notFace_of_selects (args := #[]) (mvT hZ w3)) (mvT hZ w3) (mvT hZ w4) (by decide)
    (StrChars.Road.eqW (W := W) hZ hws wi f1 f4 f5 f6 (StrChars.Road.codOf rfl fun c q => (f2 c q).2) (up16 f2) f3 g1 g4 g5 g6 (StrChars.Road.codOf rfl fun c q => (g2 c q).2) (up16 g2) g3 (Sta.ext O.2 S0) hz hfr hlo) u1 u3 (g := mkF m pc Ls (.ref b :: .ref a :: st)) rfl hsize (Steps.refl _) (argsL := [.ref b]) (rest := st) (lenOf pdEq rfl) rfl (by show 2 * 0 + _ ≤ _; omega) hd (fun _ _ => ⟨rfl, eT, hcl, hsl⟩)
  have e1' : c' = cells := e1
  have e2' : s' = slots := e2
  subst e1' e2'
  have X' := backS (own := own) hS hk hZ hown hC N' O K' S hEL hx Y' hh
  rcases hv with ⟨rfl, hv⟩ | ⟨rfl, hv⟩
  · exact Goes.aft st' (k1 T' X' hv)
  · exact Goes.aft st' (k0 T' X' hv)
end Wide
end Own
namespace Own
open Jvm Jvm.ClassFile Sem Op Lib Jvm.Free Jvm.Stand Jvm.LawKit Jvm.RoadKit Bundle
/-- C, whose superclass S is the root, isn't a K -/
theorem noAsg {Z : State} {a0 : Array Value} {C S K : String} {kk : Nat} (w : (Jvm.Cond.superclass C S).before a0 Z = true) (w0 : (Jvm.Cond.noSuperclass S).before a0 Z = true) (wk : (Jvm.Cond.instantiable K kk).before a0 Z = true) (n1 : C ≠ K) (n2 : S ≠ K) :
    ∃ c t, Z.vm.findClass C = some c ∧ Z.vm.findClass K = some t ∧ Z.vm.assignable c t = false := by
  obtain ⟨t, kt, g1, g2, g3, g4, -⟩ := Cond.instantiable_spec wk
  obtain ⟨p0, k0, p1, p2, p3, -, -⟩ := Cond.noSuperclass_spec w0
  obtain ⟨c, hc⟩ := found_sup w
  obtain ⟨p, k, kp, q1, q2, q3, q4, q5, -, q7⟩ := Cond.superclass_spec hc w
  cases p1.symm.trans q1
  have e1 := ids_ne hc g1 n1
  have e2 := ids_ne p1 g1 n2
  have g5 : kt.isInterface = false := by simp only [Bool.or_eq_false_iff] at g4; exact g4.1
  have h0 : ∀ fuel, Z.vm.isSubclassAux fuel p0 t = false := fun fuel => by
    cases fuel with
    | zero => rfl
    | succ f => simp [Vm.isSubclassAux, e2, p2, p3]
  have h1 : ∀ fuel, Z.vm.isSubclassAux fuel c t = false := fun fuel => by
    cases fuel with
    | zero => rfl
    | succ f => simp [Vm.isSubclassAux, e1, q2, q4, h0]
  refine ⟨c, t, hc, g1, ?_⟩
  show Z.vm.assignableAux (255 + 1) c t = false
  simp [Vm.assignableAux, e1, q2, g2, q5, g3, g5, Vm.isSubclass, h1]
section Wide
variable {p : Program} {l : Launch} {e : Env} {R : Room} {s : State} {m : MethodId} {args : Array Value} {below : List Frame} {meth : Method} {c : Code}
variable {Z : State} {a0 : Array Value} {EL : List (String × Nat)} {own : String} {n0 : Nat} {SA0 SA : List Addr} {T : State} {h h' : Heap} {cells slots : Nat} {Q : Outcome → State → Prop} {pc : Nat} {Ls : Array Slot} {st : List Value} {vm0 vm1 : Vm} {a b : Addr} {sl : Nat} {v : Value}
theorem Wd.instY (X : Wd p l e R s m args below meth c Z a0 EL own n0 SA0 SA T h cells slots) {index : Nat} {C K : String} (w : (Jvm.Cond.classLink own index K).before a0 Z = true) (E : Exa Z h a C) (wc : (Jvm.Cond.castable C K).before a0 Z = true) (hd : decode c.code pc = .ok (.instanceof index, 3))
    (k : ∀ T' : State, Wd p l e R s m args below meth c Z a0 EL own n0 SA0 SA T' h cells slots → Goes p.tables e below Q (T'.setTop (mkF m (pc + 3) Ls (.int 1 :: st)))) : Goes p.tables e below Q (T.setTop (mkF m pc Ls (.ref a :: st))) := by
  obtain ⟨vm0, locs, k0, Y, eT, r2, r3, r4, r5, r⟩ := X
  obtain ⟨T', Y', e', st'⟩ := Jvm.RoadKit.instY Y r.2.2.2.2.2.2 r4 r5 w eT (Ins.of_exa E wc) (g := mkF m pc Ls (.ref a :: st)) rfl rfl hd
  exact Goes.via st' (k T' ⟨vm0, locs, k0, Y', e', r2, r3, r4, r5, r⟩)
theorem Wd.castY (X : Wd p l e R s m args below meth c Z a0 EL own n0 SA0 SA T h cells slots) {index : Nat} {C K : String} (w : (Jvm.Cond.classLink own index K).before a0 Z = true) (E : Exa Z h a C) (wc : (Jvm.Cond.castable C K).before a0 Z = true) (hd : decode c.code pc = .ok (.checkcast index, 3))
    (k : ∀ T' : State, Wd p l e R s m args below meth c Z a0 EL own n0 SA0 SA T' h cells slots → Goes p.tables e below Q (T'.setTop (mkF m (pc + 3) Ls (.ref a :: st)))) : Goes p.tables e below Q (T.setTop (mkF m pc Ls (.ref a :: st))) := by
  obtain ⟨vm0, locs, k0, Y, eT, r2, r3, r4, r5, r⟩ := X
  obtain ⟨T', Y', e', st'⟩ := Jvm.RoadKit.castY Y r.2.2.2.2.2.2 r4 r5 w eT (Ins.of_exa E wc) (g := mkF m pc Ls (.ref a :: st)) rfl rfl hd
  exact Goes.via st' (k T' ⟨vm0, locs, k0, Y', e', r2, r3, r4, r5, r⟩)
theorem Wd.instNo (X : Wd p l e R s m args below meth c Z a0 EL own n0 SA0 SA T h cells slots) {index : Nat} {C K : String} (w : (Jvm.Cond.classLink own index K).before a0 Z = true) (E : Exa Z h a C) (F : ∃ c t, Z.vm.findClass C = some c ∧ Z.vm.findClass K = some t ∧ Z.vm.assignable c t = false) (hd : decode c.code pc = .ok (.instanceof index, 3))
    (k : ∀ T' : State, Wd p l e R s m args below meth c Z a0 EL own n0 SA0 SA T' h cells slots → Goes p.tables e below Q (T'.setTop (mkF m (pc + 3) Ls (.int 0 :: st)))) : Goes p.tables e below Q (T.setTop (mkF m pc Ls (.ref a :: st))) := by
  obtain ⟨vm0, locs, k0, Y, eT, r2, r3, r4, r5, r⟩ := X
  obtain ⟨T', Y', e', st'⟩ := Jvm.RoadKit.instNo Y r.2.2.2.2.2.2 r4 r5 w eT E F (g := mkF m pc Ls (.ref a :: st)) rfl rfl hd
  exact Goes.via st' (k T' ⟨vm0, locs, k0, Y', e', r2, r3, r4, r5, r⟩)
theorem Wd.instNull (X : Wd p l e R s m args below meth c Z a0 EL own n0 SA0 SA T h cells slots) {index : Nat} (hd : decode c.code pc = .ok (.instanceof index, 3))
    (g : Goes p.tables e below Q (T.setTop (mkF m (pc + 3) Ls (.int 0 :: st)))) : Goes p.tables e below Q (T.setTop (mkF m pc Ls (.null :: st))) := by
  have hx := X.exec
  obtain ⟨vm0, locs, k0, Y, -⟩ := X
  exact Goes.via (Y.instanceofNull hx (g := mkF m pc Ls (.null :: st)) rfl rfl hd) g
end Wide
end Own
end Jvm.Pilot.@@N@@
namespace Jvm.Pilot.@@N@@
open Jvm Jvm.ClassFile Sem Op Lib Jvm.Free Jvm.Stand Jvm.LawKit Jvm.RoadKit Bundle Jvm.Pilot.@@N@@.Jvm.D
open Own
theorem hEL_of {Z : State} {a0 : Array Value} (hw : ∀ d ∈ tables_1, d.before a0 Z = true) : EW Z a0 consts_1 := (EW.cons (hw _ (List.mem_of_getElem? (i := 38) rfl)) (by decide) (EW.cons (hw _ (List.mem_of_getElem? (i := 43) rfl)) (by decide) (EW.cons (hw _ (List.mem_of_getElem? (i := 21) rfl)) (by decide) EW.nil)))
theorem hwsV : ∀ d ∈ StrChars.Road.words, d ∈ tables_1 := by decide +kernel
theorem hwsE : ∀ d ∈ StrChars.Road.wordsEq, d ∈ tables_1 := by decide +kernel
theorem hwS : ∀ d ∈ Bundle.stringAtoms, d ∈ tables_1 := by decide +kernel
def R3 (x : Int32) : Prop := x = 0 ∨ x = 1 ∨ x = 2
def R8 (x : Int32) : Prop := ¬ x < 0 ∧ ¬ (255 : Int32) < x
theorem and3 (y : Int32) : y &&& 3 = 0 ∨ y &&& 3 = 1 ∨ y &&& 3 = 2 ∨ y &&& 3 = 3 := by
  have q := and_nat y 3
  rw [show (3 : Int32).toBitVec.toNat = 2 ^ 2 - 1 from rfl, Nat.and_two_pow_sub_one_eq_mod] at q
  have h : ∀ k : Int32, (y &&& 3).toBitVec.toNat = k.toBitVec.toNat → y &&& 3 = k := fun k e => Int32.toBitVec_inj.mp (BitVec.eq_of_toNat_eq e)
  have : y.toBitVec.toNat % 2 ^ 2 < 4 := Nat.mod_lt _ (by decide)
  have e : (y &&& 3).toBitVec.toNat = 0 ∨ (y &&& 3).toBitVec.toNat = 1 ∨ (y &&& 3).toBitVec.toNat = 2 ∨ (y &&& 3).toBitVec.toNat = 3 := by omega
  rcases e with e | e | e | e
  · exact Or.inl (h 0 e)
  · exact Or.inr (Or.inl (h 1 e))
  · exact Or.inr (Or.inr (Or.inl (h 2 e)))
  · exact Or.inr (Or.inr (Or.inr (h 3 e)))
theorem r3 (y : Int32) : R3 ((y &&& 3) % 3) := by
  rcases and3 y with e | e | e | e <;> rw [e]
  · exact Or.inl (by decide)
  · exact Or.inr (Or.inl (by decide))
  · exact Or.inr (Or.inr (by decide))
  · exact Or.inl (by decide)
theorem r8 (y : Int32) : R8 (y &&& 255) := by
  have q := and_nat y 255
  rw [show (255 : Int32).toBitVec.toNat = 2 ^ 8 - 1 from rfl, Nat.and_two_pow_sub_one_eq_mod] at q
  have h : y.toBitVec.toNat % 2 ^ 8 < 256 := Nat.mod_lt _ (by decide)
  have e := nat_rng (x := y &&& 255) (n := 255) (by omega) (by decide)
  simp only [R8, Int32.lt_iff_toInt_lt, e, show (0 : Int32).toInt = 0 from rfl, show (255 : Int32).toInt = 255 from rfl]
  omega
theorem i2c_id {x : Int32} (h : R8 x) : i2c x = x := by
  apply Int32.toInt_inj.mp
  rw [i2c_int]
  obtain ⟨h1, h2⟩ := h
  simp only [Int32.lt_iff_toInt_lt, show (0 : Int32).toInt = 0 from rfl, show (255 : Int32).toInt = 255 from rfl] at h1 h2
  have e : x.toInt = x.toBitVec.toInt := rfl
  rw [BitVec.toInt_eq_toNat_cond] at e
  have := x.toBitVec.isLt
  split at e <;> omega
theorem nar_id {x : Int32} (h : R8 x) : nar .char x = x := by
  have q := nar_i2c x
  rw [i2c_id h] at q; exact q
def mkcs (len a b : Int32) : List Int32 := if len = 0 then [] else if len = 1 then [a] else [a, b]
def smP (l1 a1 b1 l2 a2 b2 : Int32) : Prop := l1 = l2 ∧ (¬ l1 < 1 → a1 = a2) ∧ (¬ l1 < 2 → b1 = b2)
theorem smP_iff {l1 a1 b1 l2 a2 b2 : Int32} (h1 : R3 l1) (h2 : R3 l2) : smP l1 a1 b1 l2 a2 b2 ↔ mkcs l1 a1 b1 = mkcs l2 a2 b2 := by
  rcases h1 with rfl | rfl | rfl <;> rcases h2 with rfl | rfl | rfl <;> simp [smP, mkcs]
theorem d5_0 : decode jdk_30_method_1_code 0 = .ok (.aload_n 0, 1) := by decide +kernel
theorem d5_1 : decode jdk_30_method_1_code 1 = .ok (.invokespecial 1, 3) := by decide +kernel
theorem d5_4 : decode jdk_30_method_1_code 4 = .ok (.return_, 1) := by decide +kernel
theorem pn_0 : plainName "java/lang/Record" = true := by first | (simp [plainName, overriddenIn]; done) | decide +kernel
set_option maxRecDepth 65536 in
set_option maxHeartbeats 40000000 in
theorem ctRec (l : Launch) (Z : State) (a0 : Array Value) (hw : ∀ d ∈ tables_1, d.before a0 Z = true) (hEL : EW Z a0 consts_1) (z0 : Int32) (S0 : Sta Z Z.heap "java/lang/String" "COMPACT_STRINGS" "Z" (.int z0)) (hz0 : ¬ z0 = 0) (a : Addr) (h0 : Heap) (n0 : Nat)  :
    Ct l Z consts_1 [] (⟨"java/lang/Record", "<init>", "()V"⟩ : MethodName) jdk_30_method_1_code 1 none ({ frames := 1, cells := 0, slots := 0, locals := 12 } : Room) #[(.ref a)] h0 n0 [] (fun v _ => v = none) := by
  have w : ∀ {d : Jvm.Cond} (i : Nat), tables_1[i]? = some d → d.before a0 Z = true := fun i q => hw _ (List.mem_of_getElem? q)
  refine Ct.enter pn_0 hEL ?_
  intro p e sS m below meth c T0 hby hml0 hret hlk hnm hs0 X0
  have hml : c.maxLocals = 1 := hml0
  have D : ∀ {pc : Nat} {r : Except DecodeError (Instr × Nat)}, decode jdk_30_method_1_code pc = r → decode c.code pc = r := fun q => hb hby q
  rw [show entryFrame m #[(.ref a)] 1 = mkF m 0 #[.val (.ref a)] [] from by first | (simp [entryFrame, mkF, argsToLocals, Value.category]; done) | rfl]
  refine X0.aloadN (x := (.ref a)) (D d5_0) rfl rfl ?_
  refine X0.inito (w 37 rfl) (w 19 rfl) (w 20 rfl) (D d5_1) (by rw [hml]; rfl) (by decide) 0 (Nat.le_of_ble_eq_true rfl) (by decide) ?_
  intro T1 X2
  show Goes p.tables e below _ (T1.setTop (mkF m 4 #[.val (.ref a)] []))
  exact X2.retn hret hlk (D d5_4) (by decide) (by decide) (rfl)
theorem d6_0 : decode jdk_31_method_11_code 0 = .ok (.aload_n 0, 1) := by decide +kernel
theorem d6_1 : decode jdk_31_method_11_code 1 = .ok (.ifnonnull 12, 3) := by decide +kernel
theorem d6_4 : decode jdk_31_method_11_code 4 = .ok (.new 84, 3) := by decide +kernel
theorem d6_7 : decode jdk_31_method_11_code 7 = .ok (.dup, 1) := by decide +kernel
theorem d6_8 : decode jdk_31_method_11_code 8 = .ok (.aload_n 1, 1) := by decide +kernel
theorem d6_9 : decode jdk_31_method_11_code 9 = .ok (.invokespecial 87, 3) := by decide +kernel
theorem d6_12 : decode jdk_31_method_11_code 12 = .ok (.athrow, 1) := by decide +kernel
theorem d6_13 : decode jdk_31_method_11_code 13 = .ok (.aload_n 0, 1) := by decide +kernel
theorem d6_14 : decode jdk_31_method_11_code 14 = .ok (.areturn, 1) := by decide +kernel
theorem pn_1 : plainName "java/util/Objects" = true := by first | (simp [plainName, overriddenIn]; done) | decide +kernel
set_option maxRecDepth 65536 in
set_option maxHeartbeats 40000000 in
theorem ctReq (l : Launch) (Z : State) (a0 : Array Value) (hw : ∀ d ∈ tables_1, d.before a0 Z = true) (hEL : EW Z a0 consts_1) (z0 : Int32) (S0 : Sta Z Z.heap "java/lang/String" "COMPACT_STRINGS" "Z" (.int z0)) (hz0 : ¬ z0 = 0) (a b : Addr) (h0 : Heap) (n0 : Nat)  :
    Ct l Z consts_1 [] (⟨"java/util/Objects", "requireNonNull", "(Ljava/lang/Object;Ljava/lang/String;)Ljava/lang/Object;"⟩ : MethodName) jdk_31_method_11_code 2 (some (.object "java/lang/Object")) ({ frames := 0, cells := 0, slots := 0, locals := 0 } : Room) #[(.ref a), (.ref b)] h0 n0 [] (fun v _ => v = some (.ref a)) := by
  have w : ∀ {d : Jvm.Cond} (i : Nat), tables_1[i]? = some d → d.before a0 Z = true := fun i q => hw _ (List.mem_of_getElem? q)
  refine Ct.enter pn_1 hEL ?_
  intro p e sS m below meth c T0 hby hml0 hret hlk hnm hs0 X0
  have hml : c.maxLocals = 2 := hml0
  have D : ∀ {pc : Nat} {r : Except DecodeError (Instr × Nat)}, decode jdk_31_method_11_code pc = r → decode c.code pc = r := fun q => hb hby q
  rw [show entryFrame m #[(.ref a), (.ref b)] 2 = mkF m 0 #[.val (.ref a), .val (.ref b)] [] from by first | (simp [entryFrame, mkF, argsToLocals, Value.category]; done) | rfl]
  refine X0.aloadN (x := (.ref a)) (D d6_0) rfl rfl ?_
  refine X0.ifnonnullR 13 (D d6_1) ⟨by decide, by decide⟩ ?_
  refine X0.aloadN (x := (.ref a)) (D d6_13) rfl rfl ?_
  exact X0.retA hret rfl rfl hlk (D d6_14) (by decide) (by decide) (rfl)
theorem d2_0 : decode jdk_42_method_149_code 0 = .ok (.aload_n 0, 1) := by decide +kernel
theorem d2_1 : decode jdk_42_method_149_code 1 = .ok (.invokespecial 1, 3) := by decide +kernel
theorem d2_4 : decode jdk_42_method_149_code 4 = .ok (.iload_n 3, 1) := by decide +kernel
theorem d2_5 : decode jdk_42_method_149_code 5 = .ok (.ifCond .ne 22, 3) := by decide +kernel
theorem d2_8 : decode jdk_42_method_149_code 8 = .ok (.aload_n 0, 1) := by decide +kernel
theorem d2_9 : decode jdk_42_method_149_code 9 = .ok (.ldc 7, 2) := by decide +kernel
theorem d2_11 : decode jdk_42_method_149_code 11 = .ok (.getfield 9, 3) := by decide +kernel
theorem d2_14 : decode jdk_42_method_149_code 14 = .ok (.putfield 9, 3) := by decide +kernel
theorem d2_17 : decode jdk_42_method_149_code 17 = .ok (.aload_n 0, 1) := by decide +kernel
theorem d2_18 : decode jdk_42_method_149_code 18 = .ok (.ldc 7, 2) := by decide +kernel
theorem d2_20 : decode jdk_42_method_149_code 20 = .ok (.getfield 15, 3) := by decide +kernel
theorem d2_23 : decode jdk_42_method_149_code 23 = .ok (.putfield 15, 3) := by decide +kernel
theorem d2_26 : decode jdk_42_method_149_code 26 = .ok (.return_, 1) := by decide +kernel
theorem d2_27 : decode jdk_42_method_149_code 27 = .ok (.getstatic 38, 3) := by decide +kernel
theorem d2_30 : decode jdk_42_method_149_code 30 = .ok (.ifCond .eq 28, 3) := by decide +kernel
theorem d2_33 : decode jdk_42_method_149_code 33 = .ok (.aload_n 1, 1) := by decide +kernel
theorem d2_34 : decode jdk_42_method_149_code 34 = .ok (.iload_n 2, 1) := by decide +kernel
theorem d2_35 : decode jdk_42_method_149_code 35 = .ok (.iload_n 3, 1) := by decide +kernel
theorem d2_36 : decode jdk_42_method_149_code 36 = .ok (.invokestatic 177, 3) := by decide +kernel
theorem d2_39 : decode jdk_42_method_149_code 39 = .ok (.astore 5, 2) := by decide +kernel
theorem d2_41 : decode jdk_42_method_149_code 41 = .ok (.aload_n 0, 1) := by decide +kernel
theorem d2_42 : decode jdk_42_method_149_code 42 = .ok (.aload 5, 2) := by decide +kernel
theorem d2_44 : decode jdk_42_method_149_code 44 = .ok (.iload_n 3, 1) := by decide +kernel
theorem d2_45 : decode jdk_42_method_149_code 45 = .ok (.invokestatic 47, 3) := by decide +kernel
theorem d2_48 : decode jdk_42_method_149_code 48 = .ok (.putfield 15, 3) := by decide +kernel
theorem d2_51 : decode jdk_42_method_149_code 51 = .ok (.aload_n 0, 1) := by decide +kernel
theorem d2_52 : decode jdk_42_method_149_code 52 = .ok (.aload 5, 2) := by decide +kernel
theorem d2_54 : decode jdk_42_method_149_code 54 = .ok (.putfield 9, 3) := by decide +kernel
theorem d2_57 : decode jdk_42_method_149_code 57 = .ok (.return_, 1) := by decide +kernel
theorem d2_58 : decode jdk_42_method_149_code 58 = .ok (.aload_n 0, 1) := by decide +kernel
theorem d2_59 : decode jdk_42_method_149_code 59 = .ok (.iconst 1, 1) := by decide +kernel
theorem d2_60 : decode jdk_42_method_149_code 60 = .ok (.putfield 15, 3) := by decide +kernel
theorem d2_63 : decode jdk_42_method_149_code 63 = .ok (.aload_n 0, 1) := by decide +kernel
theorem d2_64 : decode jdk_42_method_149_code 64 = .ok (.aload_n 1, 1) := by decide +kernel
theorem d2_65 : decode jdk_42_method_149_code 65 = .ok (.iload_n 2, 1) := by decide +kernel
theorem d2_66 : decode jdk_42_method_149_code 66 = .ok (.iload_n 3, 1) := by decide +kernel
theorem d2_67 : decode jdk_42_method_149_code 67 = .ok (.invokestatic 180, 3) := by decide +kernel
theorem d2_70 : decode jdk_42_method_149_code 70 = .ok (.putfield 9, 3) := by decide +kernel
theorem d2_73 : decode jdk_42_method_149_code 73 = .ok (.return_, 1) := by decide +kernel
theorem pn_2 : plainName "java/lang/String" = true := by first | (simp [plainName, overriddenIn]; done) | decide +kernel
set_option maxRecDepth 65536 in
set_option maxHeartbeats 40000000 in
theorem ctE4 (l : Launch) (Z : State) (a0 : Array Value) (hw : ∀ d ∈ tables_1, d.before a0 Z = true) (hEL : EW Z a0 consts_1) (z0 : Int32) (S0 : Sta Z Z.heap "java/lang/String" "COMPACT_STRINGS" "Z" (.int z0)) (hz0 : ¬ z0 = 0) (a b : Addr) (h0 : Heap) (n0 : Nat) (E0 : Exa Z h0 a "java/lang/String") (F0 : Fld Z h0 a "java/lang/String" "value" "[B" .null) (F1 : Fld Z h0 a "java/lang/String" "coder" "B" (.int (0 : Int32))) :
    Ct l Z consts_1 [] (⟨"java/lang/String", "<init>", "([CIILjava/lang/Void;)V"⟩ : MethodName) jdk_42_method_149_code 6 none ({ frames := 1, cells := 4, slots := 8, locals := 12 } : Room) #[(.ref a), (.ref b), (.int (0 : Int32)), (.int (0 : Int32)), .null] h0 n0 [a] (fun v h => v = none ∧ ∃ t : Addr, OStr Z h a t []) := by
  have w : ∀ {d : Jvm.Cond} (i : Nat), tables_1[i]? = some d → d.before a0 Z = true := fun i q => hw _ (List.mem_of_getElem? q)
  refine Ct.enter pn_2 hEL ?_
  intro p e sS m below meth c T0 hby hml0 hret hlk hnm hs0 X0
  have hml : c.maxLocals = 6 := hml0
  have D : ∀ {pc : Nat} {r : Except DecodeError (Instr × Nat)}, decode jdk_42_method_149_code pc = r → decode c.code pc = r := fun q => hb hby q
  rw [show entryFrame m #[(.ref a), (.ref b), (.int (0 : Int32)), (.int (0 : Int32)), .null] 6 = mkF m 0 #[.val (.ref a), .val (.ref b), .val (.int (0 : Int32)), .val (.int (0 : Int32)), .val .null, .unset] [] from by first | (simp [entryFrame, mkF, argsToLocals, Value.category]; done) | rfl]
  refine X0.aloadN (x := (.ref a)) (D d2_0) rfl rfl ?_
  refine X0.inito (w 18 rfl) (w 19 rfl) (w 20 rfl) (D d2_1) (by rw [hml]; rfl) (by decide) 0 (Nat.le_of_ble_eq_true rfl) (by decide) ?_
  intro T3 X4
  show Goes p.tables e below _ (T3.setTop (mkF m 4 #[.val (.ref a), .val (.ref b), .val (.int (0 : Int32)), .val (.int (0 : Int32)), .val .null, .unset] []))
  refine X4.iloadN (x := (0 : Int32)) (D d2_4) rfl ?_
  refine X4.if_ne 27 (D d2_5) ⟨by decide, by decide⟩ (fun hc5 => absurd hc5 (by decide)) (fun hc5 => ?_)
  refine X4.aloadN (x := (.ref a)) (D d2_8) rfl rfl ?_
  refine X4.ldcS (w 21 rfl) (fun d q => hw d (hwS d q)) (by decide) (vs := []) (z := (0 : Int32)) ⟨by decide, by decide⟩ (by decide) rfl (D d2_9) 0 (by decide) (by decide) (by decide) (by decide) ?_
  intro T6 h7 a8 b9 kb10 X11 E12 F13 F14 F15 F16 ne17
  have F18 := E0.ext E12
  have F19 := F0.ext E12
  have F20 := F1.ext E12
  show Goes p.tables e below _ (T6.setTop (mkF m 11 #[.val (.ref a), .val (.ref b), .val (.int (0 : Int32)), .val (.int (0 : Int32)), .val .null, .unset] [(.ref a8), (.ref a)]))
  refine X11.getf (w 27 rfl) Via.refl F15 (D d2_11) ?_
  intro T21 X22
  show Goes p.tables e below _ (T21.setTop (mkF m 14 #[.val (.ref a), .val (.ref b), .val (.int (0 : Int32)), .val (.int (0 : Int32)), .val .null, .unset] [(.ref b9), (.ref a)]))
  refine X22.putf (w 27 rfl) Via.refl F19 F18 (Or.inr ⟨(w 23 rfl), rfl, hnm⟩) (w 8 rfl) (ty := (.array .byte)) (by decide) rfl rfl (D d2_14) (by simp) ?_
  intro T23 h24 X25 W26
  have F27 := F19.same W26
  have F28 := F18.wr W26
  have F29 := F20.other W26 (Or.inr (slot_ne (t := .byte) (t' := (.array .byte)) (Or.inr (w 24 rfl)) (Or.inr (w 23 rfl)) (by decide) (by decide) (by decide)))
  have F30 := F13.wr W26
  have F31 := F14.other W26 (Or.inl (ne17 a (by simp)).1.symm)
  have F32 := F15.other W26 (Or.inl (ne17 a (by simp)).1.symm)
  have F33 := F16.other W26 (ne17 a (by simp)).2.symm
  show Goes p.tables e below _ (T23.setTop (mkF m 17 #[.val (.ref a), .val (.ref b), .val (.int (0 : Int32)), .val (.int (0 : Int32)), .val .null, .unset] []))
  refine X25.aloadN (x := (.ref a)) (D d2_17) rfl rfl ?_
  refine X25.ldcS (w 21 rfl) (fun d q => hw d (hwS d q)) (by decide) (vs := []) (z := (0 : Int32)) ⟨by decide, by decide⟩ (by decide) rfl (D d2_18) 0 (by decide) (by decide) (by decide) (by decide) ?_
  intro T34 h35 a36 b37 kb38 X39 E40 F41 F42 F43 F44 ne45
  have F46 := F28.ext E40
  have F47 := F29.ext E40
  have F48 := F30.ext E40
  have F49 := F31.ext E40
  have F50 := F32.ext E40
  have F51 := F33.ext E40
  have F52 := F27.ext E40
  show Goes p.tables e below _ (T34.setTop (mkF m 20 #[.val (.ref a), .val (.ref b), .val (.int (0 : Int32)), .val (.int (0 : Int32)), .val .null, .unset] [(.ref a36), (.ref a)]))
  refine X39.getf (w 28 rfl) Via.refl F42 (D d2_20) ?_
  intro T53 X54
  show Goes p.tables e below _ (T53.setTop (mkF m 23 #[.val (.ref a), .val (.ref b), .val (.int (0 : Int32)), .val (.int (0 : Int32)), .val .null, .unset] [(.int (0 : Int32)), (.ref a)]))
  refine X54.putf (w 28 rfl) Via.refl F47 F46 (Or.inr ⟨(w 24 rfl), rfl, hnm⟩) (w 8 rfl) (ty := .byte) (by decide) rfl rfl (D d2_23) (by simp) ?_
  intro T55 h56 X57 W58
  have F59 := F47.same W58
  have F60 := F46.wr W58
  have F61 := F48.wr W58
  have F62 := F49.other W58 (Or.inl (ne17 a (by simp)).1.symm)
  have F63 := F50.other W58 (Or.inl (ne17 a (by simp)).1.symm)
  have F64 := F51.other W58 (ne17 a (by simp)).2.symm
  have F65 := F52.other W58 (Or.inr (slot_ne (t := (.array .byte)) (t' := .byte) (Or.inr (w 23 rfl)) (Or.inr (w 24 rfl)) (by decide) (by decide) (by decide)))
  have F66 := F41.wr W58
  have F67 := F42.other W58 (Or.inl (ne45 a (by simp)).1.symm)
  have F68 := F43.other W58 (Or.inl (ne45 a (by simp)).1.symm)
  have F69 := F44.other W58 (ne45 a (by simp)).2.symm
  show Goes p.tables e below _ (T55.setTop (mkF m 26 #[.val (.ref a), .val (.ref b), .val (.int (0 : Int32)), .val (.int (0 : Int32)), .val .null, .unset] []))
  exact X57.retn hret hlk (D d2_26) (by decide) (by decide) (⟨rfl, b9, OStr.mk (cs := []) F60 F65 F59 F64 hp0 (by decide)⟩)
theorem d1_0 : decode jdk_42_method_3_code 0 = .ok (.aload_n 0, 1) := by decide +kernel
theorem d1_1 : decode jdk_42_method_3_code 1 = .ok (.aload_n 1, 1) := by decide +kernel
theorem d1_2 : decode jdk_42_method_3_code 2 = .ok (.iconst 0, 1) := by decide +kernel
theorem d1_3 : decode jdk_42_method_3_code 3 = .ok (.aload_n 1, 1) := by decide +kernel
theorem d1_4 : decode jdk_42_method_3_code 4 = .ok (.arraylength, 1) := by decide +kernel
theorem d1_5 : decode jdk_42_method_3_code 5 = .ok (.aconst_null, 1) := by decide +kernel
theorem d1_6 : decode jdk_42_method_3_code 6 = .ok (.invokespecial 27, 3) := by decide +kernel
theorem d1_9 : decode jdk_42_method_3_code 9 = .ok (.return_, 1) := by decide +kernel
theorem pd_0 : parseMethodDescriptor "([CIILjava/lang/Void;)V" = some ⟨[(.array .char), .int, .int, (.object "java/lang/Void")], none⟩ := by decide +kernel
set_option maxRecDepth 65536 in
set_option maxHeartbeats 40000000 in
theorem ctE1 (l : Launch) (Z : State) (a0 : Array Value) (hw : ∀ d ∈ tables_1, d.before a0 Z = true) (hEL : EW Z a0 consts_1) (z0 : Int32) (S0 : Sta Z Z.heap "java/lang/String" "COMPACT_STRINGS" "Z" (.int z0)) (hz0 : ¬ z0 = 0) (a b : Addr) (kb : ClassId) (dv : Value) (h0 : Heap) (n0 : Nat) (E0 : Exa Z h0 a "java/lang/String") (F0 : Fld Z h0 a "java/lang/String" "value" "[B" .null) (F1 : Fld Z h0 a "java/lang/String" "coder" "B" (.int (0 : Int32))) (A0 : Arv Z h0 b kb .char (0 : Int32) [] dv) :
    Ct l Z consts_1 [] (⟨"java/lang/String", "<init>", "([C)V"⟩ : MethodName) jdk_42_method_3_code 2 none ({ frames := 2, cells := 4, slots := 8, locals := 29 } : Room) #[(.ref a), (.ref b)] h0 n0 [a] (fun v h => v = none ∧ ∃ t : Addr, OStr Z h a t []) := by
  have w : ∀ {d : Jvm.Cond} (i : Nat), tables_1[i]? = some d → d.before a0 Z = true := fun i q => hw _ (List.mem_of_getElem? q)
  refine Ct.enter pn_2 hEL ?_
  intro p e sS m below meth c T0 hby hml0 hret hlk hnm hs0 X0
  have hml : c.maxLocals = 2 := hml0
  have D : ∀ {pc : Nat} {r : Except DecodeError (Instr × Nat)}, decode jdk_42_method_3_code pc = r → decode c.code pc = r := fun q => hb hby q
  rw [show entryFrame m #[(.ref a), (.ref b)] 2 = mkF m 0 #[.val (.ref a), .val (.ref b)] [] from by first | (simp [entryFrame, mkF, argsToLocals, Value.category]; done) | rfl]
  refine X0.aloadN (x := (.ref a)) (D d1_0) rfl rfl ?_
  refine X0.aloadN (x := (.ref b)) (D d1_1) rfl rfl ?_
  refine X0.iconst (x := (0 : Int32)) (D d1_2) rfl ?_
  refine X0.aloadN (x := (.ref b)) (D d1_3) rfl rfl ?_
  refine X0.alen A0 (D d1_4) ?_
  refine X0.anull (D d1_5) ?_
  refine X0.callc (a := a) [(.ref b), (.int (0 : Int32)), (.int (0 : Int32)), .null] [] (ctE4 l Z a0 hw hEL z0 S0 hz0 a b _ _ E0 F0 F1) rfl (w 14 rfl) (w 15 rfl) (w 9 rfl) (w 17 rfl) (by decide) (by simp) (by decide) 0 (by decide) (by decide) (by decide) (lenOf pd_0 rfl) rfl (Nat.le_of_ble_eq_true rfl) (by rw [hml]; rfl) (D d1_6) ?_
  rintro T70 h71 _ X73 K74 ⟨rfl, t, O⟩
  have F75 := E0.keep K74
  have F76 := A0.keep K74 (ninS (Exa.neArv E0 A0 (w 8 rfl)).symm nin0)
  show Goes p.tables e below _ (T70.setTop (mkF m 9 #[.val (.ref a), .val (.ref b)] []))
  exact X73.retn hret hlk (D d1_9) (by decide) (by decide) (⟨rfl, t, O⟩)
theorem d0_0 : decode method_2_code 0 = .ok (.iload_n 0, 1) := by decide +kernel
theorem d0_1 : decode method_2_code 1 = .ok (.ifCond .ne 14, 3) := by decide +kernel
theorem d0_4 : decode method_2_code 4 = .ok (.new 7, 3) := by decide +kernel
theorem d0_7 : decode method_2_code 7 = .ok (.dup, 1) := by decide +kernel
theorem d0_8 : decode method_2_code 8 = .ok (.iconst 0, 1) := by decide +kernel
theorem d0_9 : decode method_2_code 9 = .ok (.newarray .char, 2) := by decide +kernel
theorem d0_11 : decode method_2_code 11 = .ok (.invokespecial 9, 3) := by decide +kernel
theorem d0_14 : decode method_2_code 14 = .ok (.areturn, 1) := by decide +kernel
theorem d0_15 : decode method_2_code 15 = .ok (.iload_n 0, 1) := by decide +kernel
theorem d0_16 : decode method_2_code 16 = .ok (.iconst 1, 1) := by decide +kernel
theorem d0_17 : decode method_2_code 17 = .ok (.if_icmp .ne 21, 3) := by decide +kernel
theorem d0_20 : decode method_2_code 20 = .ok (.iconst 1, 1) := by decide +kernel
theorem d0_21 : decode method_2_code 21 = .ok (.newarray .char, 2) := by decide +kernel
theorem d0_23 : decode method_2_code 23 = .ok (.astore_n 3, 1) := by decide +kernel
theorem d0_24 : decode method_2_code 24 = .ok (.aload_n 3, 1) := by decide +kernel
theorem d0_25 : decode method_2_code 25 = .ok (.iconst 0, 1) := by decide +kernel
theorem d0_26 : decode method_2_code 26 = .ok (.iload_n 1, 1) := by decide +kernel
theorem d0_27 : decode method_2_code 27 = .ok (.i2c, 1) := by decide +kernel
theorem d0_28 : decode method_2_code 28 = .ok (.castore, 1) := by decide +kernel
theorem d0_29 : decode method_2_code 29 = .ok (.new 7, 3) := by decide +kernel
theorem d0_32 : decode method_2_code 32 = .ok (.dup, 1) := by decide +kernel
theorem d0_33 : decode method_2_code 33 = .ok (.aload_n 3, 1) := by decide +kernel
theorem d0_34 : decode method_2_code 34 = .ok (.invokespecial 9, 3) := by decide +kernel
theorem d0_37 : decode method_2_code 37 = .ok (.areturn, 1) := by decide +kernel
theorem d0_38 : decode method_2_code 38 = .ok (.iconst 2, 1) := by decide +kernel
theorem d0_39 : decode method_2_code 39 = .ok (.newarray .char, 2) := by decide +kernel
theorem d0_41 : decode method_2_code 41 = .ok (.astore_n 3, 1) := by decide +kernel
theorem d0_42 : decode method_2_code 42 = .ok (.aload_n 3, 1) := by decide +kernel
theorem d0_43 : decode method_2_code 43 = .ok (.iconst 0, 1) := by decide +kernel
theorem d0_44 : decode method_2_code 44 = .ok (.iload_n 1, 1) := by decide +kernel
theorem d0_45 : decode method_2_code 45 = .ok (.i2c, 1) := by decide +kernel
theorem d0_46 : decode method_2_code 46 = .ok (.castore, 1) := by decide +kernel
theorem d0_47 : decode method_2_code 47 = .ok (.aload_n 3, 1) := by decide +kernel
theorem d0_48 : decode method_2_code 48 = .ok (.iconst 1, 1) := by decide +kernel
theorem d0_49 : decode method_2_code 49 = .ok (.iload_n 2, 1) := by decide +kernel
theorem d0_50 : decode method_2_code 50 = .ok (.i2c, 1) := by decide +kernel
theorem d0_51 : decode method_2_code 51 = .ok (.castore, 1) := by decide +kernel
theorem d0_52 : decode method_2_code 52 = .ok (.new 7, 3) := by decide +kernel
theorem d0_55 : decode method_2_code 55 = .ok (.dup, 1) := by decide +kernel
theorem d0_56 : decode method_2_code 56 = .ok (.aload_n 3, 1) := by decide +kernel
theorem d0_57 : decode method_2_code 57 = .ok (.invokespecial 9, 3) := by decide +kernel
theorem d0_60 : decode method_2_code 60 = .ok (.areturn, 1) := by decide +kernel
theorem pn_3 : plainName "com/example/bordershare/bordershare/model/ZoneEqualsPinLaw" = true := by first | (simp [plainName, overriddenIn]; done) | decide +kernel
theorem pd_1 : parseMethodDescriptor "([C)V" = some ⟨[(.array .char)], none⟩ := by decide +kernel
set_option maxRecDepth 65536 in
set_option maxHeartbeats 40000000 in
theorem ctMk (l : Launch) (Z : State) (a0 : Array Value) (hw : ∀ d ∈ tables_1, d.before a0 Z = true) (hEL : EW Z a0 consts_1) (z0 : Int32) (S0 : Sta Z Z.heap "java/lang/String" "COMPACT_STRINGS" "Z" (.int z0)) (hz0 : ¬ z0 = 0) (len a b : Int32) (h0 : Heap) (n0 : Nat) (ha : R8 a) (hb' : R8 b) :
    Ct l Z consts_1 [] (⟨"com/example/bordershare/bordershare/model/ZoneEqualsPinLaw", "mk", "(III)Ljava/lang/String;"⟩ : MethodName) method_2_code 4 (some (.object "java/lang/String")) ({ frames := 4, cells := 6, slots := 12, locals := 66 } : Room) #[(.int len), (.int a), (.int b)] h0 n0 [] (fun v h => ∃ s t : Addr, v = some (.ref s) ∧ OStr Z h s t (mkcs len a b)) := by
  have w : ∀ {d : Jvm.Cond} (i : Nat), tables_1[i]? = some d → d.before a0 Z = true := fun i q => hw _ (List.mem_of_getElem? q)
  refine Ct.enter pn_3 hEL ?_
  intro p e sS m below meth c T0 hby hml0 hret hlk hnm hs0 X0
  have hml : c.maxLocals = 4 := hml0
  have D : ∀ {pc : Nat} {r : Except DecodeError (Instr × Nat)}, decode method_2_code pc = r → decode c.code pc = r := fun q => hb hby q
  rw [show entryFrame m #[(.int len), (.int a), (.int b)] 4 = mkF m 0 #[.val (.int len), .val (.int a), .val (.int b), .unset] [] from by first | (simp [entryFrame, mkF, argsToLocals, Value.category]; done) | rfl]
  refine X0.iloadN (x := len) (D d0_0) rfl ?_
  refine X0.if_ne 15 (D d0_1) ⟨by decide, by decide⟩ (fun hc77 => ?_) (fun hc77 => ?_)
  · show Goes p.tables e below _ (T0.setTop (mkF m 15 #[.val (.int len), .val (.int a), .val (.int b), .unset] []))
    refine X0.iloadN (x := len) (D d0_15) rfl ?_
    refine X0.iconst (x := (1 : Int32)) (D d0_16) rfl ?_
    refine X0.icmp_ne 38 (D d0_17) ⟨by decide, by decide⟩ (fun hc111 => ?_) (fun hc111 => ?_)
    · show Goes p.tables e below _ (T0.setTop (mkF m 38 #[.val (.int len), .val (.int a), .val (.int b), .unset] []))
      refine X0.iconst (x := (2 : Int32)) (D d0_38) rfl ?_
      refine X0.newarr (w 10 rfl) (n := (2 : Int32)) (D d0_39) (by decide) 2 (by decide) (by decide) (by decide) (by decide) ?_
      intro T150 h151 b152 kb153 g154 X155 E156 A157
      have F158 : Arv Z h151 b152 kb153 .char (2 : Int32) [(.int (0 : Int32)), (.int (0 : Int32))] (.int (0 : Int32)) := A157.pad (pad_rep [] (.int (0 : Int32)) 2)
      show Goes p.tables e below _ (T150.setTop (mkF m 41 #[.val (.int len), .val (.int a), .val (.int b), .unset] [(.ref b152)]))
      refine X155.astoreN #[.val (.int len), .val (.int a), .val (.int b), .val (.ref b152)] (D d0_41) rfl rfl ?_
      refine X155.aloadN (x := (.ref b152)) (D d0_42) rfl rfl ?_
      refine X155.iconst (x := (0 : Int32)) (D d0_43) rfl ?_
      refine X155.iloadN (x := a) (D d0_44) rfl ?_
      refine X155.i2c (D d0_45) ?_
      show Goes p.tables e below _ (T150.setTop (mkF m 46 #[.val (.int len), .val (.int a), .val (.int b), .val (.ref b152)] [(.int (i2c a)), (.int (0 : Int32)), (.ref b152)]))
      rw [i2c_id ha]
      show Goes p.tables e below _ (T150.setTop (mkF m 46 #[.val (.int len), .val (.int a), .val (.int b), .val (.ref b152)] [(.int a), (.int (0 : Int32)), (.ref b152)]))
      refine X155.castore F158 ⟨by decide, by decide⟩ 0 rfl (Nat.le_of_ble_eq_true rfl) (by simp) (D d0_46) ?_
      intro T159 h160 X161 W162 A163
      have F164 : Arv Z h160 b152 kb153 .char (2 : Int32) [(.int a), (.int (0 : Int32))] (.int (0 : Int32)) := by rw [nar_id ha] at A163; exact A163
      show Goes p.tables e below _ (T159.setTop (mkF m 47 #[.val (.int len), .val (.int a), .val (.int b), .val (.ref b152)] []))
      refine X161.aloadN (x := (.ref b152)) (D d0_47) rfl rfl ?_
      refine X161.iconst (x := (1 : Int32)) (D d0_48) rfl ?_
      refine X161.iloadN (x := b) (D d0_49) rfl ?_
      refine X161.i2c (D d0_50) ?_
      show Goes p.tables e below _ (T159.setTop (mkF m 51 #[.val (.int len), .val (.int a), .val (.int b), .val (.ref b152)] [(.int (i2c b)), (.int (1 : Int32)), (.ref b152)]))
      rw [i2c_id hb']
      show Goes p.tables e below _ (T159.setTop (mkF m 51 #[.val (.int len), .val (.int a), .val (.int b), .val (.ref b152)] [(.int b), (.int (1 : Int32)), (.ref b152)]))
      refine X161.castore F164 ⟨by decide, by decide⟩ 1 rfl (Nat.le_of_ble_eq_true rfl) (by simp) (D d0_51) ?_
      intro T165 h166 X167 W168 A169
      have F170 : Arv Z h166 b152 kb153 .char (2 : Int32) [(.int a), (.int b)] (.int (0 : Int32)) := by rw [nar_id hb'] at A169; exact A169
      show Goes p.tables e below _ (T165.setTop (mkF m 52 #[.val (.int len), .val (.int a), .val (.int b), .val (.ref b152)] []))
      refine X167.new (w 7 rfl) (w 8 rfl) (w 9 rfl) (D d0_52) (by decide) (by decide) ?_
      intro T171 h172 b173 g174 X175 E176 A177 D178 U179
      have F180 := F170.ext E176
      have lt181 : b152 < b173 := by rw [g174]; exact F170.lt
      have F182 : Fld Z h172 b173 "java/lang/String" "value" "[B" .null := D178 (Or.inr (w 23 rfl)) (ty := (.array .byte)) (by decide)
      have F183 : Fld Z h172 b173 "java/lang/String" "coder" "B" (.int (0 : Int32)) := D178 (Or.inr (w 24 rfl)) (ty := .byte) (by decide)
      show Goes p.tables e below _ (T171.setTop (mkF m 55 #[.val (.int len), .val (.int a), .val (.int b), .val (.ref b152)] [(.ref b173)]))
      refine X175.dup (D d0_55) rfl ?_
      refine X175.aloadN (x := (.ref b152)) (D d0_56) rfl rfl ?_
      show Goes p.tables e below _ (T171.setTop (mkF m 57 #[.val (.int len), .val (.int a), .val (.int b), .val (.ref b152)] [(.ref b152), (.ref b173), (.ref b173)]))
      refine X175.newStr (cs := [a, b]) 2 (w 11 rfl) (w 12 rfl) (fun d q => hw d (hwsV d q)) (w 8 rfl) A177 F182 F183 F180 S0 hz0 rfl rfl (by decide) (by decide) (hpS ha (hpS hb' hp0)) (by simp) (by decide) 1 (Nat.le_of_ble_eq_true rfl) (by decide) (by decide) (by decide) (by rw [hml]; rfl) (D d0_57) ?_
      intro T184 h185 t186 X187 K188 g189 O190
      have F191 := F180.keep K188 (ninS (Nat.ne_of_lt lt181) nin0)
      have lt192 : b152 < t186 := Nat.lt_of_lt_of_le F180.lt g189
      have lt193 : b173 < t186 := Nat.lt_of_lt_of_le A177.lt g189
      show Goes p.tables e below _ (T184.setTop (mkF m 60 #[.val (.int len), .val (.int a), .val (.int b), .val (.ref b152)] [(.ref b173)]))
      exact X187.retA hret rfl rfl hlk (D d0_60) (by decide) (by decide) (⟨_, _, rfl, by rw [show mkcs len a b = [a, b] from (if_neg hc77).trans (if_neg hc111)]; exact O190⟩)
    · show Goes p.tables e below _ (T0.setTop (mkF m 20 #[.val (.int len), .val (.int a), .val (.int b), .unset] []))
      refine X0.iconst (x := (1 : Int32)) (D d0_20) rfl ?_
      refine X0.newarr (w 10 rfl) (n := (1 : Int32)) (D d0_21) (by decide) 1 (by decide) (by decide) (by decide) (by decide) ?_
      intro T112 h113 b114 kb115 g116 X117 E118 A119
      have F120 : Arv Z h113 b114 kb115 .char (1 : Int32) [(.int (0 : Int32))] (.int (0 : Int32)) := A119.pad (pad_rep [] (.int (0 : Int32)) 1)
      show Goes p.tables e below _ (T112.setTop (mkF m 23 #[.val (.int len), .val (.int a), .val (.int b), .unset] [(.ref b114)]))
      refine X117.astoreN #[.val (.int len), .val (.int a), .val (.int b), .val (.ref b114)] (D d0_23) rfl rfl ?_
      refine X117.aloadN (x := (.ref b114)) (D d0_24) rfl rfl ?_
      refine X117.iconst (x := (0 : Int32)) (D d0_25) rfl ?_
      refine X117.iloadN (x := a) (D d0_26) rfl ?_
      refine X117.i2c (D d0_27) ?_
      show Goes p.tables e below _ (T112.setTop (mkF m 28 #[.val (.int len), .val (.int a), .val (.int b), .val (.ref b114)] [(.int (i2c a)), (.int (0 : Int32)), (.ref b114)]))
      rw [i2c_id ha]
      show Goes p.tables e below _ (T112.setTop (mkF m 28 #[.val (.int len), .val (.int a), .val (.int b), .val (.ref b114)] [(.int a), (.int (0 : Int32)), (.ref b114)]))
      refine X117.castore F120 ⟨by decide, by decide⟩ 0 rfl (Nat.le_of_ble_eq_true rfl) (by simp) (D d0_28) ?_
      intro T121 h122 X123 W124 A125
      have F126 : Arv Z h122 b114 kb115 .char (1 : Int32) [(.int a)] (.int (0 : Int32)) := by rw [nar_id ha] at A125; exact A125
      show Goes p.tables e below _ (T121.setTop (mkF m 29 #[.val (.int len), .val (.int a), .val (.int b), .val (.ref b114)] []))
      refine X123.new (w 7 rfl) (w 8 rfl) (w 9 rfl) (D d0_29) (by decide) (by decide) ?_
      intro T127 h128 b129 g130 X131 E132 A133 D134 U135
      have F136 := F126.ext E132
      have lt137 : b114 < b129 := by rw [g130]; exact F126.lt
      have F138 : Fld Z h128 b129 "java/lang/String" "value" "[B" .null := D134 (Or.inr (w 23 rfl)) (ty := (.array .byte)) (by decide)
      have F139 : Fld Z h128 b129 "java/lang/String" "coder" "B" (.int (0 : Int32)) := D134 (Or.inr (w 24 rfl)) (ty := .byte) (by decide)
      show Goes p.tables e below _ (T127.setTop (mkF m 32 #[.val (.int len), .val (.int a), .val (.int b), .val (.ref b114)] [(.ref b129)]))
      refine X131.dup (D d0_32) rfl ?_
      refine X131.aloadN (x := (.ref b114)) (D d0_33) rfl rfl ?_
      show Goes p.tables e below _ (T127.setTop (mkF m 34 #[.val (.int len), .val (.int a), .val (.int b), .val (.ref b114)] [(.ref b114), (.ref b129), (.ref b129)]))
      refine X131.newStr (cs := [a]) 1 (w 11 rfl) (w 12 rfl) (fun d q => hw d (hwsV d q)) (w 8 rfl) A133 F138 F139 F136 S0 hz0 rfl rfl (by decide) (by decide) (hpS ha hp0) (by simp) (by decide) 1 (Nat.le_of_ble_eq_true rfl) (by decide) (by decide) (by decide) (by rw [hml]; rfl) (D d0_34) ?_
      intro T140 h141 t142 X143 K144 g145 O146
      have F147 := F136.keep K144 (ninS (Nat.ne_of_lt lt137) nin0)
      have lt148 : b114 < t142 := Nat.lt_of_lt_of_le F136.lt g145
      have lt149 : b129 < t142 := Nat.lt_of_lt_of_le A133.lt g145
      show Goes p.tables e below _ (T140.setTop (mkF m 37 #[.val (.int len), .val (.int a), .val (.int b), .val (.ref b114)] [(.ref b129)]))
      exact X143.retA hret rfl rfl hlk (D d0_37) (by decide) (by decide) (⟨_, _, rfl, by rw [show mkcs len a b = [a] from (if_neg hc77).trans (if_pos hc111)]; exact O146⟩)
  · show Goes p.tables e below _ (T0.setTop (mkF m 4 #[.val (.int len), .val (.int a), .val (.int b), .unset] []))
    refine X0.new (w 7 rfl) (w 8 rfl) (w 9 rfl) (D d0_4) (by decide) (by decide) ?_
    intro T78 h79 b80 g81 X82 E83 A84 D85 U86
    have F87 : Fld Z h79 b80 "java/lang/String" "value" "[B" .null := D85 (Or.inr (w 23 rfl)) (ty := (.array .byte)) (by decide)
    have F88 : Fld Z h79 b80 "java/lang/String" "coder" "B" (.int (0 : Int32)) := D85 (Or.inr (w 24 rfl)) (ty := .byte) (by decide)
    show Goes p.tables e below _ (T78.setTop (mkF m 7 #[.val (.int len), .val (.int a), .val (.int b), .unset] [(.ref b80)]))
    refine X82.dup (D d0_7) rfl ?_
    refine X82.iconst (x := (0 : Int32)) (D d0_8) rfl ?_
    refine X82.newarr (w 10 rfl) (n := (0 : Int32)) (D d0_9) (by decide) 0 (by decide) (by decide) (by decide) (by decide) ?_
    intro T89 h90 b91 kb92 g93 X94 E95 A96
    have F97 := A84.ext E95
    have F98 := F87.ext E95
    have F99 := F88.ext E95
    have lt100 : b80 < b91 := by rw [g93]; exact A84.lt
    have F101 : Arv Z h90 b91 kb92 .char (0 : Int32) [] (.int (0 : Int32)) := A96
    show Goes p.tables e below _ (T89.setTop (mkF m 11 #[.val (.int len), .val (.int a), .val (.int b), .unset] [(.ref b91), (.ref b80), (.ref b80)]))
    refine X94.callc (a := b80) [(.ref b91)] [(.ref b80)] (ctE1 l Z a0 hw hEL z0 S0 hz0 b80 b91 _ _ _ _ F97 F98 F99 F101) rfl (w 11 rfl) (w 12 rfl) (w 9 rfl) (w 13 rfl) (by decide) (by simp) (by decide) 1 (by decide) (by decide) (by decide) (lenOf pd_1 rfl) rfl (Nat.le_of_ble_eq_true rfl) (by rw [hml]; rfl) (D d0_11) ?_
    rintro T104 h105 _ X107 K108 ⟨rfl, t102, O103⟩
    have F109 := F97.keep K108
    have F110 := F101.keep K108 (ninS (Nat.ne_of_gt lt100) nin0)
    show Goes p.tables e below _ (T104.setTop (mkF m 14 #[.val (.int len), .val (.int a), .val (.int b), .unset] [(.ref b80)]))
    exact X107.retA hret rfl rfl hlk (D d0_14) (by decide) (by decide) (⟨_, _, rfl, by rw [show mkcs len a b = [] from if_pos hc77]; exact O103⟩)
theorem d4_0 : decode prog_41_method_1_code 0 = .ok (.aload_n 0, 1) := by decide +kernel
theorem d4_1 : decode prog_41_method_1_code 1 = .ok (.invokespecial 1, 3) := by decide +kernel
theorem d4_4 : decode prog_41_method_1_code 4 = .ok (.aload_n 1, 1) := by decide +kernel
theorem d4_5 : decode prog_41_method_1_code 5 = .ok (.ldc 7, 2) := by decide +kernel
theorem d4_7 : decode prog_41_method_1_code 7 = .ok (.invokestatic 9, 3) := by decide +kernel
theorem d4_10 : decode prog_41_method_1_code 10 = .ok (.pop, 1) := by decide +kernel
theorem d4_11 : decode prog_41_method_1_code 11 = .ok (.aload_n 2, 1) := by decide +kernel
theorem d4_12 : decode prog_41_method_1_code 12 = .ok (.ldc 15, 2) := by decide +kernel
theorem d4_14 : decode prog_41_method_1_code 14 = .ok (.invokestatic 9, 3) := by decide +kernel
theorem d4_17 : decode prog_41_method_1_code 17 = .ok (.pop, 1) := by decide +kernel
theorem d4_18 : decode prog_41_method_1_code 18 = .ok (.aload_n 0, 1) := by decide +kernel
theorem d4_19 : decode prog_41_method_1_code 19 = .ok (.aload_n 1, 1) := by decide +kernel
theorem d4_20 : decode prog_41_method_1_code 20 = .ok (.putfield 17, 3) := by decide +kernel
theorem d4_23 : decode prog_41_method_1_code 23 = .ok (.aload_n 0, 1) := by decide +kernel
theorem d4_24 : decode prog_41_method_1_code 24 = .ok (.aload_n 2, 1) := by decide +kernel
theorem d4_25 : decode prog_41_method_1_code 25 = .ok (.putfield 22, 3) := by decide +kernel
theorem d4_28 : decode prog_41_method_1_code 28 = .ok (.return_, 1) := by decide +kernel
theorem pn_4 : plainName "com/example/bordershare/bordershare/model/Zone" = true := by first | (simp [plainName, overriddenIn]; done) | decide +kernel
theorem pd_2 : parseMethodDescriptor "()V" = some ⟨[], none⟩ := by decide +kernel
theorem pd_3 : parseMethodDescriptor "(Ljava/lang/Object;Ljava/lang/String;)Ljava/lang/Object;" = some ⟨[(.object "java/lang/Object"), (.object "java/lang/String")], (some (.object "java/lang/Object"))⟩ := by decide +kernel
set_option maxRecDepth 65536 in
set_option maxHeartbeats 40000000 in
theorem ctZn (l : Launch) (Z : State) (a0 : Array Value) (hw : ∀ d ∈ tables_1, d.before a0 Z = true) (hEL : EW Z a0 consts_1) (z0 : Int32) (S0 : Sta Z Z.heap "java/lang/String" "COMPACT_STRINGS" "Z" (.int z0)) (hz0 : ¬ z0 = 0) (a b d : Addr) (h0 : Heap) (n0 : Nat) (E0 : Exa Z h0 a "com/example/bordershare/bordershare/model/Zone") (F0 : Fld Z h0 a "com/example/bordershare/bordershare/model/Zone" "name" "Ljava/lang/String;" .null) (F1 : Fld Z h0 a "com/example/bordershare/bordershare/model/Zone" "party" "Ljava/lang/String;" .null) :
    Ct l Z consts_1 [] (⟨"com/example/bordershare/bordershare/model/Zone", "<init>", "(Ljava/lang/String;Ljava/lang/String;)V"⟩ : MethodName) prog_41_method_1_code 3 none ({ frames := 2, cells := 4, slots := 44, locals := 24 } : Room) #[(.ref a), (.ref b), (.ref d)] h0 n0 [a] (fun v h => v = none ∧ Exa Z h a "com/example/bordershare/bordershare/model/Zone" ∧ Fld Z h a "com/example/bordershare/bordershare/model/Zone" "name" "Ljava/lang/String;" (.ref b) ∧ Fld Z h a "com/example/bordershare/bordershare/model/Zone" "party" "Ljava/lang/String;" (.ref d)) := by
  have w : ∀ {d : Jvm.Cond} (i : Nat), tables_1[i]? = some d → d.before a0 Z = true := fun i q => hw _ (List.mem_of_getElem? q)
  refine Ct.enter pn_4 hEL ?_
  intro p e sS m below meth c T0 hby hml0 hret hlk hnm hs0 X0
  have hml : c.maxLocals = 3 := hml0
  have D : ∀ {pc : Nat} {r : Except DecodeError (Instr × Nat)}, decode prog_41_method_1_code pc = r → decode c.code pc = r := fun q => hb hby q
  rw [show entryFrame m #[(.ref a), (.ref b), (.ref d)] 3 = mkF m 0 #[.val (.ref a), .val (.ref b), .val (.ref d)] [] from by first | (simp [entryFrame, mkF, argsToLocals, Value.category]; done) | rfl]
  refine X0.aloadN (x := (.ref a)) (D d4_0) rfl rfl ?_
  refine X0.callc (a := a) [] [] (ctRec l Z a0 hw hEL z0 S0 hz0 a _ _) rfl (w 32 rfl) (w 33 rfl) (w 35 rfl) (w 36 rfl) (by decide) (fun _ q => nomatch q) (by decide) 0 (by decide) (by decide) (by decide) (lenOf pd_2 rfl) rfl (Nat.le_of_ble_eq_true rfl) (by rw [hml]; rfl) (D d4_1) ?_
  rintro T194 h195 _ X197 K198 rfl
  have F199 := E0.keep K198
  have F200 := F0.keep K198 nin0
  have F201 := F1.keep K198 nin0
  show Goes p.tables e below _ (T194.setTop (mkF m 4 #[.val (.ref a), .val (.ref b), .val (.ref d)] []))
  refine X197.aloadN (x := (.ref b)) (D d4_4) rfl rfl ?_
  refine X197.ldcO (w 38 rfl) (fun d q => hw d (hwS d q)) (D d4_5) 16 (by decide) (by decide) (by decide) (by decide) ?_
  intro T202 h203 b204 X205 E206
  have F207 := F199.ext E206
  have F208 := F200.ext E206
  have F209 := F201.ext E206
  show Goes p.tables e below _ (T202.setTop (mkF m 7 #[.val (.ref a), .val (.ref b), .val (.ref d)] [(.ref b204), (.ref b)]))
  refine X205.calls [(.ref b), (.ref b204)] [] (ctReq l Z a0 hw hEL z0 S0 hz0 b b204 _ _) (w 39 rfl) (w 40 rfl) (w 41 rfl) (w 42 rfl) (by decide) (fun _ q => nomatch q) (by decide) 0 (by decide) (by decide) (by decide) (lenOf pd_3 rfl) rfl (Nat.le_of_ble_eq_true rfl) (by rw [hml]; rfl) (D d4_7) ?_
  rintro T210 h211 _ X213 K214 rfl
  have F215 := F207.keep K214
  have F216 := F208.keep K214 nin0
  have F217 := F209.keep K214 nin0
  show Goes p.tables e below _ (T210.setTop (mkF m 10 #[.val (.ref a), .val (.ref b), .val (.ref d)] [(.ref b)]))
  refine X213.pop (D d4_10) rfl ?_
  refine X213.aloadN (x := (.ref d)) (D d4_11) rfl rfl ?_
  refine X213.ldcO (w 43 rfl) (fun d q => hw d (hwS d q)) (D d4_12) 20 (by decide) (by decide) (by decide) (by decide) ?_
  intro T218 h219 b220 X221 E222
  have F223 := F215.ext E222
  have F224 := F216.ext E222
  have F225 := F217.ext E222
  show Goes p.tables e below _ (T218.setTop (mkF m 14 #[.val (.ref a), .val (.ref b), .val (.ref d)] [(.ref b220), (.ref d)]))
  refine X221.calls [(.ref d), (.ref b220)] [] (ctReq l Z a0 hw hEL z0 S0 hz0 d b220 _ _) (w 39 rfl) (w 40 rfl) (w 41 rfl) (w 42 rfl) (by decide) (fun _ q => nomatch q) (by decide) 0 (by decide) (by decide) (by decide) (lenOf pd_3 rfl) rfl (Nat.le_of_ble_eq_true rfl) (by rw [hml]; rfl) (D d4_14) ?_
  rintro T226 h227 _ X229 K230 rfl
  have F231 := F223.keep K230
  have F232 := F224.keep K230 nin0
  have F233 := F225.keep K230 nin0
  show Goes p.tables e below _ (T226.setTop (mkF m 17 #[.val (.ref a), .val (.ref b), .val (.ref d)] [(.ref d)]))
  refine X229.pop (D d4_17) rfl ?_
  refine X229.aloadN (x := (.ref a)) (D d4_18) rfl rfl ?_
  refine X229.aloadN (x := (.ref b)) (D d4_19) rfl rfl ?_
  refine X229.putf (w 44 rfl) Via.refl F232 F231 (Or.inr ⟨(w 45 rfl), rfl, hnm⟩) (w 1 rfl) (ty := (.object "java/lang/String")) (by decide) rfl rfl (D d4_20) (by simp) ?_
  intro T234 h235 X236 W237
  have F238 := F232.same W237
  have F239 := F231.wr W237
  have F240 := F233.other W237 (Or.inr (slot_ne (t := (.object "java/lang/String")) (t' := (.object "java/lang/String")) (Or.inr (w 47 rfl)) (Or.inr (w 45 rfl)) (by decide) (by decide) (by decide)))
  show Goes p.tables e below _ (T234.setTop (mkF m 23 #[.val (.ref a), .val (.ref b), .val (.ref d)] []))
  refine X236.aloadN (x := (.ref a)) (D d4_23) rfl rfl ?_
  refine X236.aloadN (x := (.ref d)) (D d4_24) rfl rfl ?_
  refine X236.putf (w 46 rfl) Via.refl F240 F239 (Or.inr ⟨(w 47 rfl), rfl, hnm⟩) (w 1 rfl) (ty := (.object "java/lang/String")) (by decide) rfl rfl (D d4_25) (by simp) ?_
  intro T241 h242 X243 W244
  have F245 := F240.same W244
  have F246 := F239.wr W244
  have F247 := F238.other W244 (Or.inr (slot_ne (t := (.object "java/lang/String")) (t' := (.object "java/lang/String")) (Or.inr (w 45 rfl)) (Or.inr (w 47 rfl)) (by decide) (by decide) (by decide)))
  show Goes p.tables e below _ (T241.setTop (mkF m 28 #[.val (.ref a), .val (.ref b), .val (.ref d)] []))
  exact X243.retn hret hlk (D d4_28) (by decide) (by decide) (⟨rfl, F246, F247, F245⟩)
theorem d7_0 : decode method_3_code 0 = .ok (.iload_n 0, 1) := by decide +kernel
theorem d7_1 : decode method_3_code 1 = .ok (.iload_n 3, 1) := by decide +kernel
theorem d7_2 : decode method_3_code 2 = .ok (.if_icmp .eq 5, 3) := by decide +kernel
theorem d7_5 : decode method_3_code 5 = .ok (.iconst 0, 1) := by decide +kernel
theorem d7_6 : decode method_3_code 6 = .ok (.ireturn, 1) := by decide +kernel
theorem d7_7 : decode method_3_code 7 = .ok (.iload_n 0, 1) := by decide +kernel
theorem d7_8 : decode method_3_code 8 = .ok (.iconst 1, 1) := by decide +kernel
theorem d7_9 : decode method_3_code 9 = .ok (.if_icmp .lt 11, 3) := by decide +kernel
theorem d7_12 : decode method_3_code 12 = .ok (.iload_n 1, 1) := by decide +kernel
theorem d7_13 : decode method_3_code 13 = .ok (.iload 4, 2) := by decide +kernel
theorem d7_15 : decode method_3_code 15 = .ok (.if_icmp .eq 5, 3) := by decide +kernel
theorem d7_18 : decode method_3_code 18 = .ok (.iconst 0, 1) := by decide +kernel
theorem d7_19 : decode method_3_code 19 = .ok (.ireturn, 1) := by decide +kernel
theorem d7_20 : decode method_3_code 20 = .ok (.iload_n 0, 1) := by decide +kernel
theorem d7_21 : decode method_3_code 21 = .ok (.iconst 2, 1) := by decide +kernel
theorem d7_22 : decode method_3_code 22 = .ok (.if_icmp .lt 11, 3) := by decide +kernel
theorem d7_25 : decode method_3_code 25 = .ok (.iload_n 2, 1) := by decide +kernel
theorem d7_26 : decode method_3_code 26 = .ok (.iload 5, 2) := by decide +kernel
theorem d7_28 : decode method_3_code 28 = .ok (.if_icmp .eq 5, 3) := by decide +kernel
theorem d7_31 : decode method_3_code 31 = .ok (.iconst 0, 1) := by decide +kernel
theorem d7_32 : decode method_3_code 32 = .ok (.ireturn, 1) := by decide +kernel
theorem d7_33 : decode method_3_code 33 = .ok (.iconst 1, 1) := by decide +kernel
theorem d7_34 : decode method_3_code 34 = .ok (.ireturn, 1) := by decide +kernel
set_option maxRecDepth 65536 in
set_option maxHeartbeats 40000000 in
theorem ctSm (l : Launch) (Z : State) (a0 : Array Value) (hw : ∀ d ∈ tables_1, d.before a0 Z = true) (hEL : EW Z a0 consts_1) (z0 : Int32) (S0 : Sta Z Z.heap "java/lang/String" "COMPACT_STRINGS" "Z" (.int z0)) (hz0 : ¬ z0 = 0) (l1 a1 b1 l2 a2 b2 : Int32) (h0 : Heap) (n0 : Nat)  :
    Ct l Z consts_1 [] (⟨"com/example/bordershare/bordershare/model/ZoneEqualsPinLaw", "same", "(IIIIII)Z"⟩ : MethodName) method_3_code 6 (some .boolean) ({ frames := 0, cells := 0, slots := 0, locals := 0 } : Room) #[(.int l1), (.int a1), (.int b1), (.int l2), (.int a2), (.int b2)] h0 n0 [] (fun v _ => (v = some (.int 1) ∧ smP l1 a1 b1 l2 a2 b2) ∨ (v = some (.int 0) ∧ ¬ smP l1 a1 b1 l2 a2 b2)) := by
  have w : ∀ {d : Jvm.Cond} (i : Nat), tables_1[i]? = some d → d.before a0 Z = true := fun i q => hw _ (List.mem_of_getElem? q)
  refine Ct.enter pn_3 hEL ?_
  intro p e sS m below meth c T0 hby hml0 hret hlk hnm hs0 X0
  have hml : c.maxLocals = 6 := hml0
  have D : ∀ {pc : Nat} {r : Except DecodeError (Instr × Nat)}, decode method_3_code pc = r → decode c.code pc = r := fun q => hb hby q
  rw [show entryFrame m #[(.int l1), (.int a1), (.int b1), (.int l2), (.int a2), (.int b2)] 6 = mkF m 0 #[.val (.int l1), .val (.int a1), .val (.int b1), .val (.int l2), .val (.int a2), .val (.int b2)] [] from by first | (simp [entryFrame, mkF, argsToLocals, Value.category]; done) | rfl]
  refine X0.iloadN (x := l1) (D d7_0) rfl ?_
  refine X0.iloadN (x := l2) (D d7_1) rfl ?_
  refine X0.icmp_eq 7 (D d7_2) ⟨by decide, by decide⟩ (fun hc248 => ?_) (fun hc248 => ?_)
  · show Goes p.tables e below _ (T0.setTop (mkF m 7 #[.val (.int l1), .val (.int a1), .val (.int b1), .val (.int l2), .val (.int a2), .val (.int b2)] []))
    refine X0.iloadN (x := l1) (D d7_7) rfl ?_
    refine X0.iconst (x := (1 : Int32)) (D d7_8) rfl ?_
    refine X0.icmp_lt 20 (D d7_9) ⟨by decide, by decide⟩ (fun hc249 => ?_) (fun hc249 => ?_)
    · show Goes p.tables e below _ (T0.setTop (mkF m 20 #[.val (.int l1), .val (.int a1), .val (.int b1), .val (.int l2), .val (.int a2), .val (.int b2)] []))
      refine X0.iloadN (x := l1) (D d7_20) rfl ?_
      refine X0.iconst (x := (2 : Int32)) (D d7_21) rfl ?_
      refine X0.icmp_lt 33 (D d7_22) ⟨by decide, by decide⟩ (fun hc250 => ?_) (fun hc250 => ?_)
      · show Goes p.tables e below _ (T0.setTop (mkF m 33 #[.val (.int l1), .val (.int a1), .val (.int b1), .val (.int l2), .val (.int a2), .val (.int b2)] []))
        refine X0.iconst (x := (1 : Int32)) (D d7_33) rfl ?_
        exact X0.reti hret (by simp) hlk (D d7_34) (by decide) (by decide) (Or.inl ⟨rfl, hc248, (fun q => absurd hc249 q), fun q => absurd hc250 q⟩)
      · show Goes p.tables e below _ (T0.setTop (mkF m 25 #[.val (.int l1), .val (.int a1), .val (.int b1), .val (.int l2), .val (.int a2), .val (.int b2)] []))
        refine X0.iloadN (x := b1) (D d7_25) rfl ?_
        refine X0.iload (x := b2) (D d7_26) rfl ?_
        refine X0.icmp_eq 33 (D d7_28) ⟨by decide, by decide⟩ (fun hc251 => ?_) (fun hc251 => ?_)
        · show Goes p.tables e below _ (T0.setTop (mkF m 33 #[.val (.int l1), .val (.int a1), .val (.int b1), .val (.int l2), .val (.int a2), .val (.int b2)] []))
          refine X0.iconst (x := (1 : Int32)) (D d7_33) rfl ?_
          exact X0.reti hret (by simp) hlk (D d7_34) (by decide) (by decide) (Or.inl ⟨rfl, hc248, (fun q => absurd hc249 q), fun _ => hc251⟩)
        · show Goes p.tables e below _ (T0.setTop (mkF m 31 #[.val (.int l1), .val (.int a1), .val (.int b1), .val (.int l2), .val (.int a2), .val (.int b2)] []))
          refine X0.iconst (x := (0 : Int32)) (D d7_31) rfl ?_
          exact X0.reti hret (by simp) hlk (D d7_32) (by decide) (by decide) (Or.inr ⟨rfl, fun q => hc251 (q.2.2 hc250)⟩)
    · show Goes p.tables e below _ (T0.setTop (mkF m 12 #[.val (.int l1), .val (.int a1), .val (.int b1), .val (.int l2), .val (.int a2), .val (.int b2)] []))
      refine X0.iloadN (x := a1) (D d7_12) rfl ?_
      refine X0.iload (x := a2) (D d7_13) rfl ?_
      refine X0.icmp_eq 20 (D d7_15) ⟨by decide, by decide⟩ (fun hc252 => ?_) (fun hc252 => ?_)
      · show Goes p.tables e below _ (T0.setTop (mkF m 20 #[.val (.int l1), .val (.int a1), .val (.int b1), .val (.int l2), .val (.int a2), .val (.int b2)] []))
        refine X0.iloadN (x := l1) (D d7_20) rfl ?_
        refine X0.iconst (x := (2 : Int32)) (D d7_21) rfl ?_
        refine X0.icmp_lt 33 (D d7_22) ⟨by decide, by decide⟩ (fun hc253 => ?_) (fun hc253 => ?_)
        · show Goes p.tables e below _ (T0.setTop (mkF m 33 #[.val (.int l1), .val (.int a1), .val (.int b1), .val (.int l2), .val (.int a2), .val (.int b2)] []))
          refine X0.iconst (x := (1 : Int32)) (D d7_33) rfl ?_
          exact X0.reti hret (by simp) hlk (D d7_34) (by decide) (by decide) (Or.inl ⟨rfl, hc248, (fun _ => hc252), fun q => absurd hc253 q⟩)
        · show Goes p.tables e below _ (T0.setTop (mkF m 25 #[.val (.int l1), .val (.int a1), .val (.int b1), .val (.int l2), .val (.int a2), .val (.int b2)] []))
          refine X0.iloadN (x := b1) (D d7_25) rfl ?_
          refine X0.iload (x := b2) (D d7_26) rfl ?_
          refine X0.icmp_eq 33 (D d7_28) ⟨by decide, by decide⟩ (fun hc254 => ?_) (fun hc254 => ?_)
          · show Goes p.tables e below _ (T0.setTop (mkF m 33 #[.val (.int l1), .val (.int a1), .val (.int b1), .val (.int l2), .val (.int a2), .val (.int b2)] []))
            refine X0.iconst (x := (1 : Int32)) (D d7_33) rfl ?_
            exact X0.reti hret (by simp) hlk (D d7_34) (by decide) (by decide) (Or.inl ⟨rfl, hc248, (fun _ => hc252), fun _ => hc254⟩)
          · show Goes p.tables e below _ (T0.setTop (mkF m 31 #[.val (.int l1), .val (.int a1), .val (.int b1), .val (.int l2), .val (.int a2), .val (.int b2)] []))
            refine X0.iconst (x := (0 : Int32)) (D d7_31) rfl ?_
            exact X0.reti hret (by simp) hlk (D d7_32) (by decide) (by decide) (Or.inr ⟨rfl, fun q => hc254 (q.2.2 hc253)⟩)
      · show Goes p.tables e below _ (T0.setTop (mkF m 18 #[.val (.int l1), .val (.int a1), .val (.int b1), .val (.int l2), .val (.int a2), .val (.int b2)] []))
        refine X0.iconst (x := (0 : Int32)) (D d7_18) rfl ?_
        exact X0.reti hret (by simp) hlk (D d7_19) (by decide) (by decide) (Or.inr ⟨rfl, fun q => hc252 (q.2.1 hc249)⟩)
  · show Goes p.tables e below _ (T0.setTop (mkF m 5 #[.val (.int l1), .val (.int a1), .val (.int b1), .val (.int l2), .val (.int a2), .val (.int b2)] []))
    refine X0.iconst (x := (0 : Int32)) (D d7_5) rfl ?_
    exact X0.reti hret (by simp) hlk (D d7_6) (by decide) (by decide) (Or.inr ⟨rfl, fun q => hc248 q.1⟩)
theorem d8_0 : decode prog_41_method_3_code 0 = .ok (.aload_n 1, 1) := by decide +kernel
theorem d8_1 : decode prog_41_method_3_code 1 = .ok (.instanceof 18, 3) := by decide +kernel
theorem d8_4 : decode prog_41_method_3_code 4 = .ok (.ifCond .eq 40, 3) := by decide +kernel
theorem d8_7 : decode prog_41_method_3_code 7 = .ok (.aload_n 1, 1) := by decide +kernel
theorem d8_8 : decode prog_41_method_3_code 8 = .ok (.checkcast 18, 3) := by decide +kernel
theorem d8_11 : decode prog_41_method_3_code 11 = .ok (.astore_n 2, 1) := by decide +kernel
theorem d8_12 : decode prog_41_method_3_code 12 = .ok (.aload_n 0, 1) := by decide +kernel
theorem d8_13 : decode prog_41_method_3_code 13 = .ok (.getfield 17, 3) := by decide +kernel
theorem d8_16 : decode prog_41_method_3_code 16 = .ok (.aload_n 2, 1) := by decide +kernel
theorem d8_17 : decode prog_41_method_3_code 17 = .ok (.getfield 17, 3) := by decide +kernel
theorem d8_20 : decode prog_41_method_3_code 20 = .ok (.invokevirtual 30, 3) := by decide +kernel
theorem d8_23 : decode prog_41_method_3_code 23 = .ok (.ifCond .eq 21, 3) := by decide +kernel
theorem d8_26 : decode prog_41_method_3_code 26 = .ok (.aload_n 0, 1) := by decide +kernel
theorem d8_27 : decode prog_41_method_3_code 27 = .ok (.getfield 22, 3) := by decide +kernel
theorem d8_30 : decode prog_41_method_3_code 30 = .ok (.aload_n 2, 1) := by decide +kernel
theorem d8_31 : decode prog_41_method_3_code 31 = .ok (.getfield 22, 3) := by decide +kernel
theorem d8_34 : decode prog_41_method_3_code 34 = .ok (.invokevirtual 30, 3) := by decide +kernel
theorem d8_37 : decode prog_41_method_3_code 37 = .ok (.ifCond .eq 7, 3) := by decide +kernel
theorem d8_40 : decode prog_41_method_3_code 40 = .ok (.iconst 1, 1) := by decide +kernel
theorem d8_41 : decode prog_41_method_3_code 41 = .ok (.goto 4, 3) := by decide +kernel
theorem d8_44 : decode prog_41_method_3_code 44 = .ok (.iconst 0, 1) := by decide +kernel
theorem d8_45 : decode prog_41_method_3_code 45 = .ok (.ireturn, 1) := by decide +kernel
set_option maxRecDepth 65536 in
set_option maxHeartbeats 40000000 in
theorem ctEq (l : Launch) (Z : State) (a0 : Array Value) (hw : ∀ d ∈ tables_1, d.before a0 Z = true) (hEL : EW Z a0 consts_1) (z0 : Int32) (S0 : Sta Z Z.heap "java/lang/String" "COMPACT_STRINGS" "Z" (.int z0)) (hz0 : ¬ z0 = 0) (a b s1 t1 s2 t2 s3 t3 s4 t4 : Addr) (c1 c2 c3 c4 : List Int32) (h0 : Heap) (n0 : Nat) (E0 : Exa Z h0 a "com/example/bordershare/bordershare/model/Zone") (E1 : Exa Z h0 b "com/example/bordershare/bordershare/model/Zone") (F0 : Fld Z h0 a "com/example/bordershare/bordershare/model/Zone" "name" "Ljava/lang/String;" (.ref s1)) (F1 : Fld Z h0 a "com/example/bordershare/bordershare/model/Zone" "party" "Ljava/lang/String;" (.ref s2)) (G0 : Fld Z h0 b "com/example/bordershare/bordershare/model/Zone" "name" "Ljava/lang/String;" (.ref s3)) (G1 : Fld Z h0 b "com/example/bordershare/bordershare/model/Zone" "party" "Ljava/lang/String;" (.ref s4)) (O1 : OStr Z h0 s1 t1 c1) (O2 : OStr Z h0 s2 t2 c2) (O3 : OStr Z h0 s3 t3 c3) (O4 : OStr Z h0 s4 t4 c4) :
    Ct l Z consts_1 [] (⟨"com/example/bordershare/bordershare/model/Zone", "equals", "(Ljava/lang/Object;)Z"⟩ : MethodName) prog_41_method_3_code 3 (some .boolean) ({ frames := 2, cells := 0, slots := 0, locals := 28 } : Room) #[(.ref a), (.ref b)] h0 n0 [] (fun v _ => (v = some (.int 1) ∧ (c1 = c3 ∧ c2 = c4)) ∨ (v = some (.int 0) ∧ ¬ (c1 = c3 ∧ c2 = c4))) := by
  have w : ∀ {d : Jvm.Cond} (i : Nat), tables_1[i]? = some d → d.before a0 Z = true := fun i q => hw _ (List.mem_of_getElem? q)
  refine Ct.enter pn_4 hEL ?_
  intro p e sS m below meth c T0 hby hml0 hret hlk hnm hs0 X0
  have hml : c.maxLocals = 3 := hml0
  have D : ∀ {pc : Nat} {r : Except DecodeError (Instr × Nat)}, decode prog_41_method_3_code pc = r → decode c.code pc = r := fun q => hb hby q
  rw [show entryFrame m #[(.ref a), (.ref b)] 3 = mkF m 0 #[.val (.ref a), .val (.ref b), .unset] [] from by first | (simp [entryFrame, mkF, argsToLocals, Value.category]; done) | rfl]
  refine X0.aloadN (x := (.ref b)) (D d8_0) rfl rfl ?_
  refine X0.instY (w 56 rfl) E1 (w 57 rfl) (D d8_1) ?_
  intro T255 X256
  show Goes p.tables e below _ (T255.setTop (mkF m 4 #[.val (.ref a), .val (.ref b), .unset] [(.int (1 : Int32))]))
  refine X256.if_eq 44 (D d8_4) ⟨by decide, by decide⟩ (fun hc257 => absurd hc257 (by decide)) (fun hc257 => ?_)
  refine X256.aloadN (x := (.ref b)) (D d8_7) rfl rfl ?_
  refine X256.castY (w 56 rfl) E1 (w 57 rfl) (D d8_8) ?_
  intro T258 X259
  show Goes p.tables e below _ (T258.setTop (mkF m 11 #[.val (.ref a), .val (.ref b), .unset] [(.ref b)]))
  refine X259.astoreN #[.val (.ref a), .val (.ref b), .val (.ref b)] (D d8_11) rfl rfl ?_
  refine X259.aloadN (x := (.ref a)) (D d8_12) rfl rfl ?_
  refine X259.getf (w 44 rfl) Via.refl F0 (D d8_13) ?_
  intro T260 X261
  show Goes p.tables e below _ (T260.setTop (mkF m 16 #[.val (.ref a), .val (.ref b), .val (.ref b)] [(.ref s1)]))
  refine X261.aloadN (x := (.ref b)) (D d8_16) rfl rfl ?_
  refine X261.getf (w 44 rfl) Via.refl G0 (D d8_17) ?_
  intro T262 X263
  show Goes p.tables e below _ (T262.setTop (mkF m 20 #[.val (.ref a), .val (.ref b), .val (.ref b)] [(.ref s3), (.ref s1)]))
  show Goes p.tables e below _ (T262.setTop (mkF m 20 #[.val (.ref a), .val (.ref b), .val (.ref b)] [(.ref s3), (.ref s1)]))
  refine X263.strEq (w 58 rfl) (w 59 rfl) (w 61 rfl) (w 60 rfl) (fun d q => hw d (hwsE d q)) (w 8 rfl) O1 O3 S0 hz0 (by decide) 0 (Nat.le_of_ble_eq_true rfl) (by decide) (by decide) (by decide) (by rw [hml]; rfl) (D d8_20) (fun T264 X265 hc266 => ?_) (fun T264 X265 hc266 => ?_)
  · show Goes p.tables e below _ (T264.setTop (mkF m 23 #[.val (.ref a), .val (.ref b), .val (.ref b)] [(.int (1 : Int32))]))
    refine X265.if_eq 44 (D d8_23) ⟨by decide, by decide⟩ (fun hc268 => absurd hc268 (by decide)) (fun hc268 => ?_)
    refine X265.aloadN (x := (.ref a)) (D d8_26) rfl rfl ?_
    refine X265.getf (w 46 rfl) Via.refl F1 (D d8_27) ?_
    intro T269 X270
    show Goes p.tables e below _ (T269.setTop (mkF m 30 #[.val (.ref a), .val (.ref b), .val (.ref b)] [(.ref s2)]))
    refine X270.aloadN (x := (.ref b)) (D d8_30) rfl rfl ?_
    refine X270.getf (w 46 rfl) Via.refl G1 (D d8_31) ?_
    intro T271 X272
    show Goes p.tables e below _ (T271.setTop (mkF m 34 #[.val (.ref a), .val (.ref b), .val (.ref b)] [(.ref s4), (.ref s2)]))
    show Goes p.tables e below _ (T271.setTop (mkF m 34 #[.val (.ref a), .val (.ref b), .val (.ref b)] [(.ref s4), (.ref s2)]))
    refine X272.strEq (w 58 rfl) (w 59 rfl) (w 61 rfl) (w 60 rfl) (fun d q => hw d (hwsE d q)) (w 8 rfl) O2 O4 S0 hz0 (by decide) 0 (Nat.le_of_ble_eq_true rfl) (by decide) (by decide) (by decide) (by rw [hml]; rfl) (D d8_34) (fun T273 X274 hc275 => ?_) (fun T273 X274 hc275 => ?_)
    · show Goes p.tables e below _ (T273.setTop (mkF m 37 #[.val (.ref a), .val (.ref b), .val (.ref b)] [(.int (1 : Int32))]))
      refine X274.if_eq 44 (D d8_37) ⟨by decide, by decide⟩ (fun hc276 => absurd hc276 (by decide)) (fun hc276 => ?_)
      refine X274.iconst (x := (1 : Int32)) (D d8_40) rfl ?_
      refine X274.goto 45 (D d8_41) ⟨by decide, by decide⟩ ?_
      exact X274.reti hret (by simp) hlk (D d8_45) (by decide) (by decide) (Or.inl ⟨rfl, hc266, hc275⟩)
    · show Goes p.tables e below _ (T273.setTop (mkF m 37 #[.val (.ref a), .val (.ref b), .val (.ref b)] [(.int (0 : Int32))]))
      refine X274.if_eq 44 (D d8_37) ⟨by decide, by decide⟩ (fun hc277 => ?_) (fun hc277 => absurd hc277 (by decide))
      refine X274.iconst (x := (0 : Int32)) (D d8_44) rfl ?_
      exact X274.reti hret (by simp) hlk (D d8_45) (by decide) (by decide) (Or.inr ⟨rfl, fun q => hc275 q.2⟩)
  · show Goes p.tables e below _ (T264.setTop (mkF m 23 #[.val (.ref a), .val (.ref b), .val (.ref b)] [(.int (0 : Int32))]))
    refine X265.if_eq 44 (D d8_23) ⟨by decide, by decide⟩ (fun hc267 => ?_) (fun hc267 => absurd hc267 (by decide))
    refine X265.iconst (x := (0 : Int32)) (D d8_44) rfl ?_
    exact X265.reti hret (by simp) hlk (D d8_45) (by decide) (by decide) (Or.inr ⟨rfl, fun q => hc266 q.1⟩)
set_option maxRecDepth 65536 in
set_option maxHeartbeats 40000000 in
theorem ctEqN (l : Launch) (Z : State) (a0 : Array Value) (hw : ∀ d ∈ tables_1, d.before a0 Z = true) (hEL : EW Z a0 consts_1) (z0 : Int32) (S0 : Sta Z Z.heap "java/lang/String" "COMPACT_STRINGS" "Z" (.int z0)) (hz0 : ¬ z0 = 0) (a : Addr) (h0 : Heap) (n0 : Nat)  :
    Ct l Z consts_1 [] (⟨"com/example/bordershare/bordershare/model/Zone", "equals", "(Ljava/lang/Object;)Z"⟩ : MethodName) prog_41_method_3_code 3 (some .boolean) ({ frames := 0, cells := 0, slots := 0, locals := 0 } : Room) #[(.ref a), .null] h0 n0 [] (fun v _ => v = some (.int 0)) := by
  have w : ∀ {d : Jvm.Cond} (i : Nat), tables_1[i]? = some d → d.before a0 Z = true := fun i q => hw _ (List.mem_of_getElem? q)
  refine Ct.enter pn_4 hEL ?_
  intro p e sS m below meth c T0 hby hml0 hret hlk hnm hs0 X0
  have hml : c.maxLocals = 3 := hml0
  have D : ∀ {pc : Nat} {r : Except DecodeError (Instr × Nat)}, decode prog_41_method_3_code pc = r → decode c.code pc = r := fun q => hb hby q
  rw [show entryFrame m #[(.ref a), .null] 3 = mkF m 0 #[.val (.ref a), .val .null, .unset] [] from by first | (simp [entryFrame, mkF, argsToLocals, Value.category]; done) | rfl]
  refine X0.aloadN (x := .null) (D d8_0) rfl rfl ?_
  refine X0.instNull (D d8_1) ?_
  refine X0.if_eq 44 (D d8_4) ⟨by decide, by decide⟩ (fun hc278 => ?_) (fun hc278 => absurd hc278 (by decide))
  refine X0.iconst (x := (0 : Int32)) (D d8_44) rfl ?_
  exact X0.reti hret (by simp) hlk (D d8_45) (by decide) (by decide) (rfl)
set_option maxRecDepth 65536 in
set_option maxHeartbeats 40000000 in
theorem ctEqS (l : Launch) (Z : State) (a0 : Array Value) (hw : ∀ d ∈ tables_1, d.before a0 Z = true) (hEL : EW Z a0 consts_1) (z0 : Int32) (S0 : Sta Z Z.heap "java/lang/String" "COMPACT_STRINGS" "Z" (.int z0)) (hz0 : ¬ z0 = 0) (a b : Addr) (h0 : Heap) (n0 : Nat) (E1 : Exa Z h0 b "java/lang/String") :
    Ct l Z consts_1 [] (⟨"com/example/bordershare/bordershare/model/Zone", "equals", "(Ljava/lang/Object;)Z"⟩ : MethodName) prog_41_method_3_code 3 (some .boolean) ({ frames := 0, cells := 0, slots := 0, locals := 0 } : Room) #[(.ref a), (.ref b)] h0 n0 [] (fun v _ => v = some (.int 0)) := by
  have w : ∀ {d : Jvm.Cond} (i : Nat), tables_1[i]? = some d → d.before a0 Z = true := fun i q => hw _ (List.mem_of_getElem? q)
  refine Ct.enter pn_4 hEL ?_
  intro p e sS m below meth c T0 hby hml0 hret hlk hnm hs0 X0
  have hml : c.maxLocals = 3 := hml0
  have D : ∀ {pc : Nat} {r : Except DecodeError (Instr × Nat)}, decode prog_41_method_3_code pc = r → decode c.code pc = r := fun q => hb hby q
  rw [show entryFrame m #[(.ref a), (.ref b)] 3 = mkF m 0 #[.val (.ref a), .val (.ref b), .unset] [] from by first | (simp [entryFrame, mkF, argsToLocals, Value.category]; done) | rfl]
  refine X0.aloadN (x := (.ref b)) (D d8_0) rfl rfl ?_
  refine X0.instNo (w 56 rfl) E1 (noAsg (w 69 rfl) (w 70 rfl) (w 1 rfl) (by decide) (by decide)) (D d8_1) ?_
  intro T279 X280
  show Goes p.tables e below _ (T279.setTop (mkF m 4 #[.val (.ref a), .val (.ref b), .unset] [(.int (0 : Int32))]))
  refine X280.if_eq 44 (D d8_4) ⟨by decide, by decide⟩ (fun hc281 => ?_) (fun hc281 => absurd hc281 (by decide))
  refine X280.iconst (x := (0 : Int32)) (D d8_44) rfl ?_
  exact X280.reti hret (by simp) hlk (D d8_45) (by decide) (by decide) (rfl)
theorem pd_4 : parseMethodDescriptor "(III)Ljava/lang/String;" = some ⟨[.int, .int, .int], (some (.object "java/lang/String"))⟩ := by decide +kernel
theorem pd_5 : parseMethodDescriptor "(Ljava/lang/String;Ljava/lang/String;)V" = some ⟨[(.object "java/lang/String"), (.object "java/lang/String")], none⟩ := by decide +kernel
theorem pd_6 : parseMethodDescriptor "(IIIIII)Z" = some ⟨[.int, .int, .int, .int, .int, .int], (some .boolean)⟩ := by decide +kernel
theorem pd_7 : parseMethodDescriptor "(Ljava/lang/Object;)Z" = some ⟨[(.object "java/lang/Object")], (some .boolean)⟩ := by decide +kernel
set_option maxRecDepth 65536 in
set_option maxHeartbeats 40000000 in
theorem ctLaw (l : Launch) (Z : State) (a0 : Array Value) (hw : ∀ d ∈ tables_1, d.before a0 Z = true) (hEL : EW Z a0 consts_1) (z0 : Int32) (S0 : Sta Z Z.heap "java/lang/String" "COMPACT_STRINGS" "Z" (.int z0)) (hz0 : ¬ z0 = 0) (p0 p1 p2 p3 p4 : Int32) (h0 : Heap) (n0 : Nat)  :
    Ct l Z consts_1 tables_1 x code maxLocals ret room_1 #[(.int p0), (.int p1), (.int p2), (.int p3), (.int p4)] h0 n0 [] (fun v _ => v = some (.int 1)) := by
  have w : ∀ {d : Jvm.Cond} (i : Nat), tables_1[i]? = some d → d.before a0 Z = true := fun i q => hw _ (List.mem_of_getElem? q)
  refine Ct.enter pn_3 hEL ?_
  intro p e sS m below meth c T0 hby hml0 hret hlk hnm hs0 X0
  have hml : c.maxLocals = 23 := hml0
  have D : ∀ {pc : Nat} {r : Except DecodeError (Instr × Nat)}, decode code pc = r → decode c.code pc = r := fun q => hb hby q
  rw [show entryFrame m #[(.int p0), (.int p1), (.int p2), (.int p3), (.int p4)] maxLocals = mkF m 0 #[.val (.int p0), .val (.int p1), .val (.int p2), .val (.int p3), .val (.int p4), .unset, .unset, .unset, .unset, .unset, .unset, .unset, .unset, .unset, .unset, .unset, .unset, .unset, .unset, .unset, .unset, .unset, .unset] [] from by first | (simp [entryFrame, mkF, argsToLocals, Value.category, maxLocals]; done) | rfl]
  refine X0.iloadN (x := p0) (D at_0) rfl ?_
  refine X0.bipush (x := (16 : Int32)) (D at_1) rfl ?_
  refine X0.iushr (D at_3) ?_
  refine X0.iconst (x := (3 : Int32)) (D at_4) rfl ?_
  refine X0.iand (D at_5) ?_
  refine X0.iconst (x := (3 : Int32)) (D at_6) rfl ?_
  refine X0.irem (D at_7) (by decide) ?_
  refine X0.istore #[.val (.int p0), .val (.int p1), .val (.int p2), .val (.int p3), .val (.int p4), .val (.int (((XT.ushr p0 (16 : Int32)) &&& (3 : Int32)) % (3 : Int32))), .unset, .unset, .unset, .unset, .unset, .unset, .unset, .unset, .unset, .unset, .unset, .unset, .unset, .unset, .unset, .unset, .unset] (D at_8) rfl ?_
  refine X0.iloadN (x := p0) (D at_10) rfl ?_
  refine X0.sipush (x := (255 : Int32)) (D at_11) rfl ?_
  refine X0.iand (D at_14) ?_
  refine X0.istore #[.val (.int p0), .val (.int p1), .val (.int p2), .val (.int p3), .val (.int p4), .val (.int (((XT.ushr p0 (16 : Int32)) &&& (3 : Int32)) % (3 : Int32))), .val (.int (p0 &&& (255 : Int32))), .unset, .unset, .unset, .unset, .unset, .unset, .unset, .unset, .unset, .unset, .unset, .unset, .unset, .unset, .unset, .unset] (D at_15) rfl ?_
  show Goes p.tables e below _ (T0.setTop (mkF m 17 #[.val (.int p0), .val (.int p1), .val (.int p2), .val (.int p3), .val (.int p4), .val (.int (((XT.ushr p0 (16 : Int32)) &&& (3 : Int32)) % (3 : Int32))), .val (.int (p0 &&& (255 : Int32))), .unset, .unset, .unset, .unset, .unset, .unset, .unset, .unset, .unset, .unset, .unset, .unset, .unset, .unset, .unset, .unset] []))
  refine X0.iloadN (x := p0) (D at_17) rfl ?_
  refine X0.bipush (x := (8 : Int32)) (D at_18) rfl ?_
  refine X0.iushr (D at_20) ?_
  refine X0.sipush (x := (255 : Int32)) (D at_21) rfl ?_
  refine X0.iand (D at_24) ?_
  refine X0.istore #[.val (.int p0), .val (.int p1), .val (.int p2), .val (.int p3), .val (.int p4), .val (.int (((XT.ushr p0 (16 : Int32)) &&& (3 : Int32)) % (3 : Int32))), .val (.int (p0 &&& (255 : Int32))), .val (.int ((XT.ushr p0 (8 : Int32)) &&& (255 : Int32))), .unset, .unset, .unset, .unset, .unset, .unset, .unset, .unset, .unset, .unset, .unset, .unset, .unset, .unset, .unset] (D at_25) rfl ?_
  refine X0.iloadN (x := p1) (D at_27) rfl ?_
  refine X0.bipush (x := (16 : Int32)) (D at_28) rfl ?_
  refine X0.iushr (D at_30) ?_
  refine X0.iconst (x := (3 : Int32)) (D at_31) rfl ?_
  refine X0.iand (D at_32) ?_
  refine X0.iconst (x := (3 : Int32)) (D at_33) rfl ?_
  show Goes p.tables e below _ (T0.setTop (mkF m 34 #[.val (.int p0), .val (.int p1), .val (.int p2), .val (.int p3), .val (.int p4), .val (.int (((XT.ushr p0 (16 : Int32)) &&& (3 : Int32)) % (3 : Int32))), .val (.int (p0 &&& (255 : Int32))), .val (.int ((XT.ushr p0 (8 : Int32)) &&& (255 : Int32))), .unset, .unset, .unset, .unset, .unset, .unset, .unset, .unset, .unset, .unset, .unset, .unset, .unset, .unset, .unset] [(.int (3 : Int32)), (.int ((XT.ushr p1 (16 : Int32)) &&& (3 : Int32)))]))
  refine X0.irem (D at_34) (by decide) ?_
  refine X0.istore #[.val (.int p0), .val (.int p1), .val (.int p2), .val (.int p3), .val (.int p4), .val (.int (((XT.ushr p0 (16 : Int32)) &&& (3 : Int32)) % (3 : Int32))), .val (.int (p0 &&& (255 : Int32))), .val (.int ((XT.ushr p0 (8 : Int32)) &&& (255 : Int32))), .val (.int (((XT.ushr p1 (16 : Int32)) &&& (3 : Int32)) % (3 : Int32))), .unset, .unset, .unset, .unset, .unset, .unset, .unset, .unset, .unset, .unset, .unset, .unset, .unset, .unset] (D at_35) rfl ?_
  refine X0.iloadN (x := p1) (D at_37) rfl ?_
  refine X0.sipush (x := (255 : Int32)) (D at_38) rfl ?_
  refine X0.iand (D at_41) ?_
  refine X0.istore #[.val (.int p0), .val (.int p1), .val (.int p2), .val (.int p3), .val (.int p4), .val (.int (((XT.ushr p0 (16 : Int32)) &&& (3 : Int32)) % (3 : Int32))), .val (.int (p0 &&& (255 : Int32))), .val (.int ((XT.ushr p0 (8 : Int32)) &&& (255 : Int32))), .val (.int (((XT.ushr p1 (16 : Int32)) &&& (3 : Int32)) % (3 : Int32))), .val (.int (p1 &&& (255 : Int32))), .unset, .unset, .unset, .unset, .unset, .unset, .unset, .unset, .unset, .unset, .unset, .unset, .unset] (D at_42) rfl ?_
  refine X0.iloadN (x := p1) (D at_44) rfl ?_
  refine X0.bipush (x := (8 : Int32)) (D at_45) rfl ?_
  refine X0.iushr (D at_47) ?_
  refine X0.sipush (x := (255 : Int32)) (D at_48) rfl ?_
  refine X0.iand (D at_51) ?_
  refine X0.istore #[.val (.int p0), .val (.int p1), .val (.int p2), .val (.int p3), .val (.int p4), .val (.int (((XT.ushr p0 (16 : Int32)) &&& (3 : Int32)) % (3 : Int32))), .val (.int (p0 &&& (255 : Int32))), .val (.int ((XT.ushr p0 (8 : Int32)) &&& (255 : Int32))), .val (.int (((XT.ushr p1 (16 : Int32)) &&& (3 : Int32)) % (3 : Int32))), .val (.int (p1 &&& (255 : Int32))), .val (.int ((XT.ushr p1 (8 : Int32)) &&& (255 : Int32))), .unset, .unset, .unset, .unset, .unset, .unset, .unset, .unset, .unset, .unset, .unset, .unset] (D at_52) rfl ?_
  show Goes p.tables e below _ (T0.setTop (mkF m 54 #[.val (.int p0), .val (.int p1), .val (.int p2), .val (.int p3), .val (.int p4), .val (.int (((XT.ushr p0 (16 : Int32)) &&& (3 : Int32)) % (3 : Int32))), .val (.int (p0 &&& (255 : Int32))), .val (.int ((XT.ushr p0 (8 : Int32)) &&& (255 : Int32))), .val (.int (((XT.ushr p1 (16 : Int32)) &&& (3 : Int32)) % (3 : Int32))), .val (.int (p1 &&& (255 : Int32))), .val (.int ((XT.ushr p1 (8 : Int32)) &&& (255 : Int32))), .unset, .unset, .unset, .unset, .unset, .unset, .unset, .unset, .unset, .unset, .unset, .unset] []))
  show Goes p.tables e below _ (T0.setTop (mkF m 54 #[.val (.int p0), .val (.int p1), .val (.int p2), .val (.int p3), .val (.int p4), .val (.int (((XT.ushr p0 (16 : Int32)) &&& (3 : Int32)) % (3 : Int32))), .val (.int (p0 &&& (255 : Int32))), .val (.int ((XT.ushr p0 (8 : Int32)) &&& (255 : Int32))), .val (.int (((XT.ushr p1 (16 : Int32)) &&& (3 : Int32)) % (3 : Int32))), .val (.int (p1 &&& (255 : Int32))), .val (.int ((XT.ushr p1 (8 : Int32)) &&& (255 : Int32))), .unset, .unset, .unset, .unset, .unset, .unset, .unset, .unset, .unset, .unset, .unset, .unset] []))
  generalize e_nl : (((XT.ushr p0 (16 : Int32)) &&& (3 : Int32)) % (3 : Int32)) = nl
  have r_nl : R3 nl := by rw [← e_nl]; exact r3 _
  show Goes p.tables e below _ (T0.setTop (mkF m 54 #[.val (.int p0), .val (.int p1), .val (.int p2), .val (.int p3), .val (.int p4), .val (.int nl), .val (.int (p0 &&& (255 : Int32))), .val (.int ((XT.ushr p0 (8 : Int32)) &&& (255 : Int32))), .val (.int (((XT.ushr p1 (16 : Int32)) &&& (3 : Int32)) % (3 : Int32))), .val (.int (p1 &&& (255 : Int32))), .val (.int ((XT.ushr p1 (8 : Int32)) &&& (255 : Int32))), .unset, .unset, .unset, .unset, .unset, .unset, .unset, .unset, .unset, .unset, .unset, .unset] []))
  generalize e_na : (p0 &&& (255 : Int32)) = na
  have r_na : R8 na := by rw [← e_na]; exact r8 _
  show Goes p.tables e below _ (T0.setTop (mkF m 54 #[.val (.int p0), .val (.int p1), .val (.int p2), .val (.int p3), .val (.int p4), .val (.int nl), .val (.int na), .val (.int ((XT.ushr p0 (8 : Int32)) &&& (255 : Int32))), .val (.int (((XT.ushr p1 (16 : Int32)) &&& (3 : Int32)) % (3 : Int32))), .val (.int (p1 &&& (255 : Int32))), .val (.int ((XT.ushr p1 (8 : Int32)) &&& (255 : Int32))), .unset, .unset, .unset, .unset, .unset, .unset, .unset, .unset, .unset, .unset, .unset, .unset] []))
  generalize e_nb : ((XT.ushr p0 (8 : Int32)) &&& (255 : Int32)) = nb
  have r_nb : R8 nb := by rw [← e_nb]; exact r8 _
  show Goes p.tables e below _ (T0.setTop (mkF m 54 #[.val (.int p0), .val (.int p1), .val (.int p2), .val (.int p3), .val (.int p4), .val (.int nl), .val (.int na), .val (.int nb), .val (.int (((XT.ushr p1 (16 : Int32)) &&& (3 : Int32)) % (3 : Int32))), .val (.int (p1 &&& (255 : Int32))), .val (.int ((XT.ushr p1 (8 : Int32)) &&& (255 : Int32))), .unset, .unset, .unset, .unset, .unset, .unset, .unset, .unset, .unset, .unset, .unset, .unset] []))
  generalize e_pl : (((XT.ushr p1 (16 : Int32)) &&& (3 : Int32)) % (3 : Int32)) = pl
  have r_pl : R3 pl := by rw [← e_pl]; exact r3 _
  show Goes p.tables e below _ (T0.setTop (mkF m 54 #[.val (.int p0), .val (.int p1), .val (.int p2), .val (.int p3), .val (.int p4), .val (.int nl), .val (.int na), .val (.int nb), .val (.int pl), .val (.int (p1 &&& (255 : Int32))), .val (.int ((XT.ushr p1 (8 : Int32)) &&& (255 : Int32))), .unset, .unset, .unset, .unset, .unset, .unset, .unset, .unset, .unset, .unset, .unset, .unset] []))
  generalize e_pa : (p1 &&& (255 : Int32)) = pa
  have r_pa : R8 pa := by rw [← e_pa]; exact r8 _
  show Goes p.tables e below _ (T0.setTop (mkF m 54 #[.val (.int p0), .val (.int p1), .val (.int p2), .val (.int p3), .val (.int p4), .val (.int nl), .val (.int na), .val (.int nb), .val (.int pl), .val (.int pa), .val (.int ((XT.ushr p1 (8 : Int32)) &&& (255 : Int32))), .unset, .unset, .unset, .unset, .unset, .unset, .unset, .unset, .unset, .unset, .unset, .unset] []))
  generalize e_pb : ((XT.ushr p1 (8 : Int32)) &&& (255 : Int32)) = pb
  have r_pb : R8 pb := by rw [← e_pb]; exact r8 _
  show Goes p.tables e below _ (T0.setTop (mkF m 54 #[.val (.int p0), .val (.int p1), .val (.int p2), .val (.int p3), .val (.int p4), .val (.int nl), .val (.int na), .val (.int nb), .val (.int pl), .val (.int pa), .val (.int pb), .unset, .unset, .unset, .unset, .unset, .unset, .unset, .unset, .unset, .unset, .unset, .unset] []))
  suffices rest : ∀ x11 x12 x13 x14 x15 x16 x17 x18 x19 : Int32, (R3 x13) → (R8 x14) → (R8 x15) → (R3 x16) → (R8 x17) → (R8 x18) → Goes p.tables e below (Endq Z consts_1 sS n0 [] room_1 (fun v _ => v = some (.int 1))) (T0.setTop (mkF m 204 #[.val (.int p0), .val (.int p1), .val (.int p2), .val (.int p3), .val (.int p4), .val (.int nl), .val (.int na), .val (.int nb), .val (.int pl), .val (.int pa), .val (.int pb), .val (.int x11), .val (.int x12), .val (.int x13), .val (.int x14), .val (.int x15), .val (.int x16), .val (.int x17), .val (.int x18), .val (.int x19), .unset, .unset, .unset] [])) by
    refine X0.iload (x := p4) (D at_54) rfl ?_
    refine X0.iconst (x := (1 : Int32)) (D at_56) rfl ?_
    refine X0.iand (D at_57) ?_
    refine X0.if_eq 65 (D at_58) ⟨by decide, by decide⟩ (fun hc282 => ?_) (fun hc282 => ?_)
    · show Goes p.tables e below _ (T0.setTop (mkF m 65 #[.val (.int p0), .val (.int p1), .val (.int p2), .val (.int p3), .val (.int p4), .val (.int nl), .val (.int na), .val (.int nb), .val (.int pl), .val (.int pa), .val (.int pb), .unset, .unset, .unset, .unset, .unset, .unset, .unset, .unset, .unset, .unset, .unset, .unset] []))
      refine X0.iconst (x := (0 : Int32)) (D at_65) rfl ?_
      refine X0.istore #[.val (.int p0), .val (.int p1), .val (.int p2), .val (.int p3), .val (.int p4), .val (.int nl), .val (.int na), .val (.int nb), .val (.int pl), .val (.int pa), .val (.int pb), .val (.int (0 : Int32)), .unset, .unset, .unset, .unset, .unset, .unset, .unset, .unset, .unset, .unset, .unset] (D at_66) rfl ?_
      refine X0.iload (x := p4) (D at_68) rfl ?_
      refine X0.iconst (x := (2 : Int32)) (D at_70) rfl ?_
      refine X0.iand (D at_71) ?_
      refine X0.if_eq 79 (D at_72) ⟨by decide, by decide⟩ (fun hc283 => ?_) (fun hc283 => ?_)
      · show Goes p.tables e below _ (T0.setTop (mkF m 79 #[.val (.int p0), .val (.int p1), .val (.int p2), .val (.int p3), .val (.int p4), .val (.int nl), .val (.int na), .val (.int nb), .val (.int pl), .val (.int pa), .val (.int pb), .val (.int (0 : Int32)), .unset, .unset, .unset, .unset, .unset, .unset, .unset, .unset, .unset, .unset, .unset] []))
        refine X0.iconst (x := (0 : Int32)) (D at_79) rfl ?_
        refine X0.istore #[.val (.int p0), .val (.int p1), .val (.int p2), .val (.int p3), .val (.int p4), .val (.int nl), .val (.int na), .val (.int nb), .val (.int pl), .val (.int pa), .val (.int pb), .val (.int (0 : Int32)), .val (.int (0 : Int32)), .unset, .unset, .unset, .unset, .unset, .unset, .unset, .unset, .unset, .unset] (D at_80) rfl ?_
        refine X0.iload (x := (0 : Int32)) (D at_82) rfl ?_
        refine X0.if_eq 92 (D at_84) ⟨by decide, by decide⟩ (fun hc284 => ?_) (fun hc284 => absurd hc284 (by decide))
        refine X0.iloadN (x := p2) (D at_92) rfl ?_
        refine X0.bipush (x := (16 : Int32)) (D at_93) rfl ?_
        refine X0.iushr (D at_95) ?_
        refine X0.iconst (x := (3 : Int32)) (D at_96) rfl ?_
        refine X0.iand (D at_97) ?_
        refine X0.iconst (x := (3 : Int32)) (D at_98) rfl ?_
        refine X0.irem (D at_99) (by decide) ?_
        refine X0.istore #[.val (.int p0), .val (.int p1), .val (.int p2), .val (.int p3), .val (.int p4), .val (.int nl), .val (.int na), .val (.int nb), .val (.int pl), .val (.int pa), .val (.int pb), .val (.int (0 : Int32)), .val (.int (0 : Int32)), .val (.int (((XT.ushr p2 (16 : Int32)) &&& (3 : Int32)) % (3 : Int32))), .unset, .unset, .unset, .unset, .unset, .unset, .unset, .unset, .unset] (D at_100) rfl ?_
        refine X0.iload (x := (0 : Int32)) (D at_102) rfl ?_
        show Goes p.tables e below _ (T0.setTop (mkF m 104 #[.val (.int p0), .val (.int p1), .val (.int p2), .val (.int p3), .val (.int p4), .val (.int nl), .val (.int na), .val (.int nb), .val (.int pl), .val (.int pa), .val (.int pb), .val (.int (0 : Int32)), .val (.int (0 : Int32)), .val (.int (((XT.ushr p2 (16 : Int32)) &&& (3 : Int32)) % (3 : Int32))), .unset, .unset, .unset, .unset, .unset, .unset, .unset, .unset, .unset] [(.int (0 : Int32))]))
        refine X0.if_eq 112 (D at_104) ⟨by decide, by decide⟩ (fun hc285 => ?_) (fun hc285 => absurd hc285 (by decide))
        refine X0.iloadN (x := p2) (D at_112) rfl ?_
        refine X0.sipush (x := (255 : Int32)) (D at_113) rfl ?_
        refine X0.iand (D at_116) ?_
        refine X0.istore #[.val (.int p0), .val (.int p1), .val (.int p2), .val (.int p3), .val (.int p4), .val (.int nl), .val (.int na), .val (.int nb), .val (.int pl), .val (.int pa), .val (.int pb), .val (.int (0 : Int32)), .val (.int (0 : Int32)), .val (.int (((XT.ushr p2 (16 : Int32)) &&& (3 : Int32)) % (3 : Int32))), .val (.int (p2 &&& (255 : Int32))), .unset, .unset, .unset, .unset, .unset, .unset, .unset, .unset] (D at_117) rfl ?_
        refine X0.iload (x := (0 : Int32)) (D at_119) rfl ?_
        refine X0.if_eq 129 (D at_121) ⟨by decide, by decide⟩ (fun hc286 => ?_) (fun hc286 => absurd hc286 (by decide))
        refine X0.iloadN (x := p2) (D at_129) rfl ?_
        refine X0.bipush (x := (8 : Int32)) (D at_130) rfl ?_
        refine X0.iushr (D at_132) ?_
        refine X0.sipush (x := (255 : Int32)) (D at_133) rfl ?_
        refine X0.iand (D at_136) ?_
        refine X0.istore #[.val (.int p0), .val (.int p1), .val (.int p2), .val (.int p3), .val (.int p4), .val (.int nl), .val (.int na), .val (.int nb), .val (.int pl), .val (.int pa), .val (.int pb), .val (.int (0 : Int32)), .val (.int (0 : Int32)), .val (.int (((XT.ushr p2 (16 : Int32)) &&& (3 : Int32)) % (3 : Int32))), .val (.int (p2 &&& (255 : Int32))), .val (.int ((XT.ushr p2 (8 : Int32)) &&& (255 : Int32))), .unset, .unset, .unset, .unset, .unset, .unset, .unset] (D at_137) rfl ?_
        refine X0.iload (x := (0 : Int32)) (D at_139) rfl ?_
        show Goes p.tables e below _ (T0.setTop (mkF m 141 #[.val (.int p0), .val (.int p1), .val (.int p2), .val (.int p3), .val (.int p4), .val (.int nl), .val (.int na), .val (.int nb), .val (.int pl), .val (.int pa), .val (.int pb), .val (.int (0 : Int32)), .val (.int (0 : Int32)), .val (.int (((XT.ushr p2 (16 : Int32)) &&& (3 : Int32)) % (3 : Int32))), .val (.int (p2 &&& (255 : Int32))), .val (.int ((XT.ushr p2 (8 : Int32)) &&& (255 : Int32))), .unset, .unset, .unset, .unset, .unset, .unset, .unset] [(.int (0 : Int32))]))
        refine X0.if_eq 149 (D at_141) ⟨by decide, by decide⟩ (fun hc287 => ?_) (fun hc287 => absurd hc287 (by decide))
        refine X0.iloadN (x := p3) (D at_149) rfl ?_
        refine X0.bipush (x := (16 : Int32)) (D at_150) rfl ?_
        refine X0.iushr (D at_152) ?_
        refine X0.iconst (x := (3 : Int32)) (D at_153) rfl ?_
        refine X0.iand (D at_154) ?_
        refine X0.iconst (x := (3 : Int32)) (D at_155) rfl ?_
        refine X0.irem (D at_156) (by decide) ?_
        refine X0.istore #[.val (.int p0), .val (.int p1), .val (.int p2), .val (.int p3), .val (.int p4), .val (.int nl), .val (.int na), .val (.int nb), .val (.int pl), .val (.int pa), .val (.int pb), .val (.int (0 : Int32)), .val (.int (0 : Int32)), .val (.int (((XT.ushr p2 (16 : Int32)) &&& (3 : Int32)) % (3 : Int32))), .val (.int (p2 &&& (255 : Int32))), .val (.int ((XT.ushr p2 (8 : Int32)) &&& (255 : Int32))), .val (.int (((XT.ushr p3 (16 : Int32)) &&& (3 : Int32)) % (3 : Int32))), .unset, .unset, .unset, .unset, .unset, .unset] (D at_157) rfl ?_
        refine X0.iload (x := (0 : Int32)) (D at_159) rfl ?_
        refine X0.if_eq 169 (D at_161) ⟨by decide, by decide⟩ (fun hc288 => ?_) (fun hc288 => absurd hc288 (by decide))
        refine X0.iloadN (x := p3) (D at_169) rfl ?_
        refine X0.sipush (x := (255 : Int32)) (D at_170) rfl ?_
        refine X0.iand (D at_173) ?_
        show Goes p.tables e below _ (T0.setTop (mkF m 174 #[.val (.int p0), .val (.int p1), .val (.int p2), .val (.int p3), .val (.int p4), .val (.int nl), .val (.int na), .val (.int nb), .val (.int pl), .val (.int pa), .val (.int pb), .val (.int (0 : Int32)), .val (.int (0 : Int32)), .val (.int (((XT.ushr p2 (16 : Int32)) &&& (3 : Int32)) % (3 : Int32))), .val (.int (p2 &&& (255 : Int32))), .val (.int ((XT.ushr p2 (8 : Int32)) &&& (255 : Int32))), .val (.int (((XT.ushr p3 (16 : Int32)) &&& (3 : Int32)) % (3 : Int32))), .unset, .unset, .unset, .unset, .unset, .unset] [(.int (p3 &&& (255 : Int32)))]))
        refine X0.istore #[.val (.int p0), .val (.int p1), .val (.int p2), .val (.int p3), .val (.int p4), .val (.int nl), .val (.int na), .val (.int nb), .val (.int pl), .val (.int pa), .val (.int pb), .val (.int (0 : Int32)), .val (.int (0 : Int32)), .val (.int (((XT.ushr p2 (16 : Int32)) &&& (3 : Int32)) % (3 : Int32))), .val (.int (p2 &&& (255 : Int32))), .val (.int ((XT.ushr p2 (8 : Int32)) &&& (255 : Int32))), .val (.int (((XT.ushr p3 (16 : Int32)) &&& (3 : Int32)) % (3 : Int32))), .val (.int (p3 &&& (255 : Int32))), .unset, .unset, .unset, .unset, .unset] (D at_174) rfl ?_
        refine X0.iload (x := (0 : Int32)) (D at_176) rfl ?_
        refine X0.if_eq 186 (D at_178) ⟨by decide, by decide⟩ (fun hc289 => ?_) (fun hc289 => absurd hc289 (by decide))
        refine X0.iloadN (x := p3) (D at_186) rfl ?_
        refine X0.bipush (x := (8 : Int32)) (D at_187) rfl ?_
        refine X0.iushr (D at_189) ?_
        refine X0.sipush (x := (255 : Int32)) (D at_190) rfl ?_
        refine X0.iand (D at_193) ?_
        refine X0.istore #[.val (.int p0), .val (.int p1), .val (.int p2), .val (.int p3), .val (.int p4), .val (.int nl), .val (.int na), .val (.int nb), .val (.int pl), .val (.int pa), .val (.int pb), .val (.int (0 : Int32)), .val (.int (0 : Int32)), .val (.int (((XT.ushr p2 (16 : Int32)) &&& (3 : Int32)) % (3 : Int32))), .val (.int (p2 &&& (255 : Int32))), .val (.int ((XT.ushr p2 (8 : Int32)) &&& (255 : Int32))), .val (.int (((XT.ushr p3 (16 : Int32)) &&& (3 : Int32)) % (3 : Int32))), .val (.int (p3 &&& (255 : Int32))), .val (.int ((XT.ushr p3 (8 : Int32)) &&& (255 : Int32))), .unset, .unset, .unset, .unset] (D at_194) rfl ?_
        refine X0.iload (x := p4) (D at_196) rfl ?_
        refine X0.iconst (x := (2 : Int32)) (D at_198) rfl ?_
        refine X0.iushr (D at_199) ?_
        refine X0.iconst (x := (3 : Int32)) (D at_200) rfl ?_
        show Goes p.tables e below _ (T0.setTop (mkF m 201 #[.val (.int p0), .val (.int p1), .val (.int p2), .val (.int p3), .val (.int p4), .val (.int nl), .val (.int na), .val (.int nb), .val (.int pl), .val (.int pa), .val (.int pb), .val (.int (0 : Int32)), .val (.int (0 : Int32)), .val (.int (((XT.ushr p2 (16 : Int32)) &&& (3 : Int32)) % (3 : Int32))), .val (.int (p2 &&& (255 : Int32))), .val (.int ((XT.ushr p2 (8 : Int32)) &&& (255 : Int32))), .val (.int (((XT.ushr p3 (16 : Int32)) &&& (3 : Int32)) % (3 : Int32))), .val (.int (p3 &&& (255 : Int32))), .val (.int ((XT.ushr p3 (8 : Int32)) &&& (255 : Int32))), .unset, .unset, .unset, .unset] [(.int (3 : Int32)), (.int (XT.ushr p4 (2 : Int32)))]))
        refine X0.iand (D at_201) ?_
        refine X0.istore #[.val (.int p0), .val (.int p1), .val (.int p2), .val (.int p3), .val (.int p4), .val (.int nl), .val (.int na), .val (.int nb), .val (.int pl), .val (.int pa), .val (.int pb), .val (.int (0 : Int32)), .val (.int (0 : Int32)), .val (.int (((XT.ushr p2 (16 : Int32)) &&& (3 : Int32)) % (3 : Int32))), .val (.int (p2 &&& (255 : Int32))), .val (.int ((XT.ushr p2 (8 : Int32)) &&& (255 : Int32))), .val (.int (((XT.ushr p3 (16 : Int32)) &&& (3 : Int32)) % (3 : Int32))), .val (.int (p3 &&& (255 : Int32))), .val (.int ((XT.ushr p3 (8 : Int32)) &&& (255 : Int32))), .val (.int ((XT.ushr p4 (2 : Int32)) &&& (3 : Int32))), .unset, .unset, .unset] (D at_202) rfl ?_
        show Goes p.tables e below _ (T0.setTop (mkF m 204 #[.val (.int p0), .val (.int p1), .val (.int p2), .val (.int p3), .val (.int p4), .val (.int nl), .val (.int na), .val (.int nb), .val (.int pl), .val (.int pa), .val (.int pb), .val (.int (0 : Int32)), .val (.int (0 : Int32)), .val (.int (((XT.ushr p2 (16 : Int32)) &&& (3 : Int32)) % (3 : Int32))), .val (.int (p2 &&& (255 : Int32))), .val (.int ((XT.ushr p2 (8 : Int32)) &&& (255 : Int32))), .val (.int (((XT.ushr p3 (16 : Int32)) &&& (3 : Int32)) % (3 : Int32))), .val (.int (p3 &&& (255 : Int32))), .val (.int ((XT.ushr p3 (8 : Int32)) &&& (255 : Int32))), .val (.int ((XT.ushr p4 (2 : Int32)) &&& (3 : Int32))), .unset, .unset, .unset] []))
        exact rest _ _ _ _ _ _ _ _ _ (r3 _) (r8 _) (r8 _) (r3 _) (r8 _) (r8 _)
      · show Goes p.tables e below _ (T0.setTop (mkF m 75 #[.val (.int p0), .val (.int p1), .val (.int p2), .val (.int p3), .val (.int p4), .val (.int nl), .val (.int na), .val (.int nb), .val (.int pl), .val (.int pa), .val (.int pb), .val (.int (0 : Int32)), .unset, .unset, .unset, .unset, .unset, .unset, .unset, .unset, .unset, .unset, .unset] []))
        refine X0.iconst (x := (1 : Int32)) (D at_75) rfl ?_
        refine X0.goto 80 (D at_76) ⟨by decide, by decide⟩ ?_
        refine X0.istore #[.val (.int p0), .val (.int p1), .val (.int p2), .val (.int p3), .val (.int p4), .val (.int nl), .val (.int na), .val (.int nb), .val (.int pl), .val (.int pa), .val (.int pb), .val (.int (0 : Int32)), .val (.int (1 : Int32)), .unset, .unset, .unset, .unset, .unset, .unset, .unset, .unset, .unset, .unset] (D at_80) rfl ?_
        refine X0.iload (x := (0 : Int32)) (D at_82) rfl ?_
        refine X0.if_eq 92 (D at_84) ⟨by decide, by decide⟩ (fun hc290 => ?_) (fun hc290 => absurd hc290 (by decide))
        refine X0.iloadN (x := p2) (D at_92) rfl ?_
        refine X0.bipush (x := (16 : Int32)) (D at_93) rfl ?_
        refine X0.iushr (D at_95) ?_
        refine X0.iconst (x := (3 : Int32)) (D at_96) rfl ?_
        refine X0.iand (D at_97) ?_
        refine X0.iconst (x := (3 : Int32)) (D at_98) rfl ?_
        refine X0.irem (D at_99) (by decide) ?_
        refine X0.istore #[.val (.int p0), .val (.int p1), .val (.int p2), .val (.int p3), .val (.int p4), .val (.int nl), .val (.int na), .val (.int nb), .val (.int pl), .val (.int pa), .val (.int pb), .val (.int (0 : Int32)), .val (.int (1 : Int32)), .val (.int (((XT.ushr p2 (16 : Int32)) &&& (3 : Int32)) % (3 : Int32))), .unset, .unset, .unset, .unset, .unset, .unset, .unset, .unset, .unset] (D at_100) rfl ?_
        show Goes p.tables e below _ (T0.setTop (mkF m 102 #[.val (.int p0), .val (.int p1), .val (.int p2), .val (.int p3), .val (.int p4), .val (.int nl), .val (.int na), .val (.int nb), .val (.int pl), .val (.int pa), .val (.int pb), .val (.int (0 : Int32)), .val (.int (1 : Int32)), .val (.int (((XT.ushr p2 (16 : Int32)) &&& (3 : Int32)) % (3 : Int32))), .unset, .unset, .unset, .unset, .unset, .unset, .unset, .unset, .unset] []))
        refine X0.iload (x := (0 : Int32)) (D at_102) rfl ?_
        refine X0.if_eq 112 (D at_104) ⟨by decide, by decide⟩ (fun hc291 => ?_) (fun hc291 => absurd hc291 (by decide))
        refine X0.iloadN (x := p2) (D at_112) rfl ?_
        refine X0.sipush (x := (255 : Int32)) (D at_113) rfl ?_
        refine X0.iand (D at_116) ?_
        refine X0.istore #[.val (.int p0), .val (.int p1), .val (.int p2), .val (.int p3), .val (.int p4), .val (.int nl), .val (.int na), .val (.int nb), .val (.int pl), .val (.int pa), .val (.int pb), .val (.int (0 : Int32)), .val (.int (1 : Int32)), .val (.int (((XT.ushr p2 (16 : Int32)) &&& (3 : Int32)) % (3 : Int32))), .val (.int (p2 &&& (255 : Int32))), .unset, .unset, .unset, .unset, .unset, .unset, .unset, .unset] (D at_117) rfl ?_
        refine X0.iload (x := (0 : Int32)) (D at_119) rfl ?_
        refine X0.if_eq 129 (D at_121) ⟨by decide, by decide⟩ (fun hc292 => ?_) (fun hc292 => absurd hc292 (by decide))
        refine X0.iloadN (x := p2) (D at_129) rfl ?_
        refine X0.bipush (x := (8 : Int32)) (D at_130) rfl ?_
        refine X0.iushr (D at_132) ?_
        refine X0.sipush (x := (255 : Int32)) (D at_133) rfl ?_
        refine X0.iand (D at_136) ?_
        refine X0.istore #[.val (.int p0), .val (.int p1), .val (.int p2), .val (.int p3), .val (.int p4), .val (.int nl), .val (.int na), .val (.int nb), .val (.int pl), .val (.int pa), .val (.int pb), .val (.int (0 : Int32)), .val (.int (1 : Int32)), .val (.int (((XT.ushr p2 (16 : Int32)) &&& (3 : Int32)) % (3 : Int32))), .val (.int (p2 &&& (255 : Int32))), .val (.int ((XT.ushr p2 (8 : Int32)) &&& (255 : Int32))), .unset, .unset, .unset, .unset, .unset, .unset, .unset] (D at_137) rfl ?_
        show Goes p.tables e below _ (T0.setTop (mkF m 139 #[.val (.int p0), .val (.int p1), .val (.int p2), .val (.int p3), .val (.int p4), .val (.int nl), .val (.int na), .val (.int nb), .val (.int pl), .val (.int pa), .val (.int pb), .val (.int (0 : Int32)), .val (.int (1 : Int32)), .val (.int (((XT.ushr p2 (16 : Int32)) &&& (3 : Int32)) % (3 : Int32))), .val (.int (p2 &&& (255 : Int32))), .val (.int ((XT.ushr p2 (8 : Int32)) &&& (255 : Int32))), .unset, .unset, .unset, .unset, .unset, .unset, .unset] []))
        refine X0.iload (x := (1 : Int32)) (D at_139) rfl ?_
        refine X0.if_eq 149 (D at_141) ⟨by decide, by decide⟩ (fun hc293 => absurd hc293 (by decide)) (fun hc293 => ?_)
        refine X0.iload (x := pl) (D at_144) rfl ?_
        refine X0.goto 157 (D at_146) ⟨by decide, by decide⟩ ?_
        refine X0.istore #[.val (.int p0), .val (.int p1), .val (.int p2), .val (.int p3), .val (.int p4), .val (.int nl), .val (.int na), .val (.int nb), .val (.int pl), .val (.int pa), .val (.int pb), .val (.int (0 : Int32)), .val (.int (1 : Int32)), .val (.int (((XT.ushr p2 (16 : Int32)) &&& (3 : Int32)) % (3 : Int32))), .val (.int (p2 &&& (255 : Int32))), .val (.int ((XT.ushr p2 (8 : Int32)) &&& (255 : Int32))), .val (.int pl), .unset, .unset, .unset, .unset, .unset, .unset] (D at_157) rfl ?_
        refine X0.iload (x := (1 : Int32)) (D at_159) rfl ?_
        refine X0.if_eq 169 (D at_161) ⟨by decide, by decide⟩ (fun hc294 => absurd hc294 (by decide)) (fun hc294 => ?_)
        refine X0.iload (x := pa) (D at_164) rfl ?_
        refine X0.goto 174 (D at_166) ⟨by decide, by decide⟩ ?_
        refine X0.istore #[.val (.int p0), .val (.int p1), .val (.int p2), .val (.int p3), .val (.int p4), .val (.int nl), .val (.int na), .val (.int nb), .val (.int pl), .val (.int pa), .val (.int pb), .val (.int (0 : Int32)), .val (.int (1 : Int32)), .val (.int (((XT.ushr p2 (16 : Int32)) &&& (3 : Int32)) % (3 : Int32))), .val (.int (p2 &&& (255 : Int32))), .val (.int ((XT.ushr p2 (8 : Int32)) &&& (255 : Int32))), .val (.int pl), .val (.int pa), .unset, .unset, .unset, .unset, .unset] (D at_174) rfl ?_
        refine X0.iload (x := (1 : Int32)) (D at_176) rfl ?_
        refine X0.if_eq 186 (D at_178) ⟨by decide, by decide⟩ (fun hc295 => absurd hc295 (by decide)) (fun hc295 => ?_)
        refine X0.iload (x := pb) (D at_181) rfl ?_
        refine X0.goto 194 (D at_183) ⟨by decide, by decide⟩ ?_
        refine X0.istore #[.val (.int p0), .val (.int p1), .val (.int p2), .val (.int p3), .val (.int p4), .val (.int nl), .val (.int na), .val (.int nb), .val (.int pl), .val (.int pa), .val (.int pb), .val (.int (0 : Int32)), .val (.int (1 : Int32)), .val (.int (((XT.ushr p2 (16 : Int32)) &&& (3 : Int32)) % (3 : Int32))), .val (.int (p2 &&& (255 : Int32))), .val (.int ((XT.ushr p2 (8 : Int32)) &&& (255 : Int32))), .val (.int pl), .val (.int pa), .val (.int pb), .unset, .unset, .unset, .unset] (D at_194) rfl ?_
        show Goes p.tables e below _ (T0.setTop (mkF m 196 #[.val (.int p0), .val (.int p1), .val (.int p2), .val (.int p3), .val (.int p4), .val (.int nl), .val (.int na), .val (.int nb), .val (.int pl), .val (.int pa), .val (.int pb), .val (.int (0 : Int32)), .val (.int (1 : Int32)), .val (.int (((XT.ushr p2 (16 : Int32)) &&& (3 : Int32)) % (3 : Int32))), .val (.int (p2 &&& (255 : Int32))), .val (.int ((XT.ushr p2 (8 : Int32)) &&& (255 : Int32))), .val (.int pl), .val (.int pa), .val (.int pb), .unset, .unset, .unset, .unset] []))
        refine X0.iload (x := p4) (D at_196) rfl ?_
        refine X0.iconst (x := (2 : Int32)) (D at_198) rfl ?_
        refine X0.iushr (D at_199) ?_
        refine X0.iconst (x := (3 : Int32)) (D at_200) rfl ?_
        refine X0.iand (D at_201) ?_
        refine X0.istore #[.val (.int p0), .val (.int p1), .val (.int p2), .val (.int p3), .val (.int p4), .val (.int nl), .val (.int na), .val (.int nb), .val (.int pl), .val (.int pa), .val (.int pb), .val (.int (0 : Int32)), .val (.int (1 : Int32)), .val (.int (((XT.ushr p2 (16 : Int32)) &&& (3 : Int32)) % (3 : Int32))), .val (.int (p2 &&& (255 : Int32))), .val (.int ((XT.ushr p2 (8 : Int32)) &&& (255 : Int32))), .val (.int pl), .val (.int pa), .val (.int pb), .val (.int ((XT.ushr p4 (2 : Int32)) &&& (3 : Int32))), .unset, .unset, .unset] (D at_202) rfl ?_
        show Goes p.tables e below _ (T0.setTop (mkF m 204 #[.val (.int p0), .val (.int p1), .val (.int p2), .val (.int p3), .val (.int p4), .val (.int nl), .val (.int na), .val (.int nb), .val (.int pl), .val (.int pa), .val (.int pb), .val (.int (0 : Int32)), .val (.int (1 : Int32)), .val (.int (((XT.ushr p2 (16 : Int32)) &&& (3 : Int32)) % (3 : Int32))), .val (.int (p2 &&& (255 : Int32))), .val (.int ((XT.ushr p2 (8 : Int32)) &&& (255 : Int32))), .val (.int pl), .val (.int pa), .val (.int pb), .val (.int ((XT.ushr p4 (2 : Int32)) &&& (3 : Int32))), .unset, .unset, .unset] []))
        exact rest _ _ _ _ _ _ _ _ _ (r3 _) (r8 _) (r8 _) r_pl r_pa r_pb
    · show Goes p.tables e below _ (T0.setTop (mkF m 61 #[.val (.int p0), .val (.int p1), .val (.int p2), .val (.int p3), .val (.int p4), .val (.int nl), .val (.int na), .val (.int nb), .val (.int pl), .val (.int pa), .val (.int pb), .unset, .unset, .unset, .unset, .unset, .unset, .unset, .unset, .unset, .unset, .unset, .unset] []))
      refine X0.iconst (x := (1 : Int32)) (D at_61) rfl ?_
      refine X0.goto 66 (D at_62) ⟨by decide, by decide⟩ ?_
      refine X0.istore #[.val (.int p0), .val (.int p1), .val (.int p2), .val (.int p3), .val (.int p4), .val (.int nl), .val (.int na), .val (.int nb), .val (.int pl), .val (.int pa), .val (.int pb), .val (.int (1 : Int32)), .unset, .unset, .unset, .unset, .unset, .unset, .unset, .unset, .unset, .unset, .unset] (D at_66) rfl ?_
      refine X0.iload (x := p4) (D at_68) rfl ?_
      refine X0.iconst (x := (2 : Int32)) (D at_70) rfl ?_
      refine X0.iand (D at_71) ?_
      refine X0.if_eq 79 (D at_72) ⟨by decide, by decide⟩ (fun hc296 => ?_) (fun hc296 => ?_)
      · show Goes p.tables e below _ (T0.setTop (mkF m 79 #[.val (.int p0), .val (.int p1), .val (.int p2), .val (.int p3), .val (.int p4), .val (.int nl), .val (.int na), .val (.int nb), .val (.int pl), .val (.int pa), .val (.int pb), .val (.int (1 : Int32)), .unset, .unset, .unset, .unset, .unset, .unset, .unset, .unset, .unset, .unset, .unset] []))
        refine X0.iconst (x := (0 : Int32)) (D at_79) rfl ?_
        refine X0.istore #[.val (.int p0), .val (.int p1), .val (.int p2), .val (.int p3), .val (.int p4), .val (.int nl), .val (.int na), .val (.int nb), .val (.int pl), .val (.int pa), .val (.int pb), .val (.int (1 : Int32)), .val (.int (0 : Int32)), .unset, .unset, .unset, .unset, .unset, .unset, .unset, .unset, .unset, .unset] (D at_80) rfl ?_
        refine X0.iload (x := (1 : Int32)) (D at_82) rfl ?_
        refine X0.if_eq 92 (D at_84) ⟨by decide, by decide⟩ (fun hc297 => absurd hc297 (by decide)) (fun hc297 => ?_)
        refine X0.iload (x := nl) (D at_87) rfl ?_
        refine X0.goto 100 (D at_89) ⟨by decide, by decide⟩ ?_
        refine X0.istore #[.val (.int p0), .val (.int p1), .val (.int p2), .val (.int p3), .val (.int p4), .val (.int nl), .val (.int na), .val (.int nb), .val (.int pl), .val (.int pa), .val (.int pb), .val (.int (1 : Int32)), .val (.int (0 : Int32)), .val (.int nl), .unset, .unset, .unset, .unset, .unset, .unset, .unset, .unset, .unset] (D at_100) rfl ?_
        refine X0.iload (x := (1 : Int32)) (D at_102) rfl ?_
        refine X0.if_eq 112 (D at_104) ⟨by decide, by decide⟩ (fun hc298 => absurd hc298 (by decide)) (fun hc298 => ?_)
        refine X0.iload (x := na) (D at_107) rfl ?_
        refine X0.goto 117 (D at_109) ⟨by decide, by decide⟩ ?_
        refine X0.istore #[.val (.int p0), .val (.int p1), .val (.int p2), .val (.int p3), .val (.int p4), .val (.int nl), .val (.int na), .val (.int nb), .val (.int pl), .val (.int pa), .val (.int pb), .val (.int (1 : Int32)), .val (.int (0 : Int32)), .val (.int nl), .val (.int na), .unset, .unset, .unset, .unset, .unset, .unset, .unset, .unset] (D at_117) rfl ?_
        refine X0.iload (x := (1 : Int32)) (D at_119) rfl ?_
        refine X0.if_eq 129 (D at_121) ⟨by decide, by decide⟩ (fun hc299 => absurd hc299 (by decide)) (fun hc299 => ?_)
        refine X0.iload (x := nb) (D at_124) rfl ?_
        show Goes p.tables e below _ (T0.setTop (mkF m 126 #[.val (.int p0), .val (.int p1), .val (.int p2), .val (.int p3), .val (.int p4), .val (.int nl), .val (.int na), .val (.int nb), .val (.int pl), .val (.int pa), .val (.int pb), .val (.int (1 : Int32)), .val (.int (0 : Int32)), .val (.int nl), .val (.int na), .unset, .unset, .unset, .unset, .unset, .unset, .unset, .unset] [(.int nb)]))
        refine X0.goto 137 (D at_126) ⟨by decide, by decide⟩ ?_
        refine X0.istore #[.val (.int p0), .val (.int p1), .val (.int p2), .val (.int p3), .val (.int p4), .val (.int nl), .val (.int na), .val (.int nb), .val (.int pl), .val (.int pa), .val (.int pb), .val (.int (1 : Int32)), .val (.int (0 : Int32)), .val (.int nl), .val (.int na), .val (.int nb), .unset, .unset, .unset, .unset, .unset, .unset, .unset] (D at_137) rfl ?_
        refine X0.iload (x := (0 : Int32)) (D at_139) rfl ?_
        refine X0.if_eq 149 (D at_141) ⟨by decide, by decide⟩ (fun hc300 => ?_) (fun hc300 => absurd hc300 (by decide))
        refine X0.iloadN (x := p3) (D at_149) rfl ?_
        refine X0.bipush (x := (16 : Int32)) (D at_150) rfl ?_
        refine X0.iushr (D at_152) ?_
        refine X0.iconst (x := (3 : Int32)) (D at_153) rfl ?_
        refine X0.iand (D at_154) ?_
        refine X0.iconst (x := (3 : Int32)) (D at_155) rfl ?_
        refine X0.irem (D at_156) (by decide) ?_
        refine X0.istore #[.val (.int p0), .val (.int p1), .val (.int p2), .val (.int p3), .val (.int p4), .val (.int nl), .val (.int na), .val (.int nb), .val (.int pl), .val (.int pa), .val (.int pb), .val (.int (1 : Int32)), .val (.int (0 : Int32)), .val (.int nl), .val (.int na), .val (.int nb), .val (.int (((XT.ushr p3 (16 : Int32)) &&& (3 : Int32)) % (3 : Int32))), .unset, .unset, .unset, .unset, .unset, .unset] (D at_157) rfl ?_
        refine X0.iload (x := (0 : Int32)) (D at_159) rfl ?_
        show Goes p.tables e below _ (T0.setTop (mkF m 161 #[.val (.int p0), .val (.int p1), .val (.int p2), .val (.int p3), .val (.int p4), .val (.int nl), .val (.int na), .val (.int nb), .val (.int pl), .val (.int pa), .val (.int pb), .val (.int (1 : Int32)), .val (.int (0 : Int32)), .val (.int nl), .val (.int na), .val (.int nb), .val (.int (((XT.ushr p3 (16 : Int32)) &&& (3 : Int32)) % (3 : Int32))), .unset, .unset, .unset, .unset, .unset, .unset] [(.int (0 : Int32))]))
        refine X0.if_eq 169 (D at_161) ⟨by decide, by decide⟩ (fun hc301 => ?_) (fun hc301 => absurd hc301 (by decide))
        refine X0.iloadN (x := p3) (D at_169) rfl ?_
        refine X0.sipush (x := (255 : Int32)) (D at_170) rfl ?_
        refine X0.iand (D at_173) ?_
        refine X0.istore #[.val (.int p0), .val (.int p1), .val (.int p2), .val (.int p3), .val (.int p4), .val (.int nl), .val (.int na), .val (.int nb), .val (.int pl), .val (.int pa), .val (.int pb), .val (.int (1 : Int32)), .val (.int (0 : Int32)), .val (.int nl), .val (.int na), .val (.int nb), .val (.int (((XT.ushr p3 (16 : Int32)) &&& (3 : Int32)) % (3 : Int32))), .val (.int (p3 &&& (255 : Int32))), .unset, .unset, .unset, .unset, .unset] (D at_174) rfl ?_
        refine X0.iload (x := (0 : Int32)) (D at_176) rfl ?_
        refine X0.if_eq 186 (D at_178) ⟨by decide, by decide⟩ (fun hc302 => ?_) (fun hc302 => absurd hc302 (by decide))
        refine X0.iloadN (x := p3) (D at_186) rfl ?_
        refine X0.bipush (x := (8 : Int32)) (D at_187) rfl ?_
        refine X0.iushr (D at_189) ?_
        refine X0.sipush (x := (255 : Int32)) (D at_190) rfl ?_
        refine X0.iand (D at_193) ?_
        refine X0.istore #[.val (.int p0), .val (.int p1), .val (.int p2), .val (.int p3), .val (.int p4), .val (.int nl), .val (.int na), .val (.int nb), .val (.int pl), .val (.int pa), .val (.int pb), .val (.int (1 : Int32)), .val (.int (0 : Int32)), .val (.int nl), .val (.int na), .val (.int nb), .val (.int (((XT.ushr p3 (16 : Int32)) &&& (3 : Int32)) % (3 : Int32))), .val (.int (p3 &&& (255 : Int32))), .val (.int ((XT.ushr p3 (8 : Int32)) &&& (255 : Int32))), .unset, .unset, .unset, .unset] (D at_194) rfl ?_
        refine X0.iload (x := p4) (D at_196) rfl ?_
        show Goes p.tables e below _ (T0.setTop (mkF m 198 #[.val (.int p0), .val (.int p1), .val (.int p2), .val (.int p3), .val (.int p4), .val (.int nl), .val (.int na), .val (.int nb), .val (.int pl), .val (.int pa), .val (.int pb), .val (.int (1 : Int32)), .val (.int (0 : Int32)), .val (.int nl), .val (.int na), .val (.int nb), .val (.int (((XT.ushr p3 (16 : Int32)) &&& (3 : Int32)) % (3 : Int32))), .val (.int (p3 &&& (255 : Int32))), .val (.int ((XT.ushr p3 (8 : Int32)) &&& (255 : Int32))), .unset, .unset, .unset, .unset] [(.int p4)]))
        refine X0.iconst (x := (2 : Int32)) (D at_198) rfl ?_
        refine X0.iushr (D at_199) ?_
        refine X0.iconst (x := (3 : Int32)) (D at_200) rfl ?_
        refine X0.iand (D at_201) ?_
        refine X0.istore #[.val (.int p0), .val (.int p1), .val (.int p2), .val (.int p3), .val (.int p4), .val (.int nl), .val (.int na), .val (.int nb), .val (.int pl), .val (.int pa), .val (.int pb), .val (.int (1 : Int32)), .val (.int (0 : Int32)), .val (.int nl), .val (.int na), .val (.int nb), .val (.int (((XT.ushr p3 (16 : Int32)) &&& (3 : Int32)) % (3 : Int32))), .val (.int (p3 &&& (255 : Int32))), .val (.int ((XT.ushr p3 (8 : Int32)) &&& (255 : Int32))), .val (.int ((XT.ushr p4 (2 : Int32)) &&& (3 : Int32))), .unset, .unset, .unset] (D at_202) rfl ?_
        show Goes p.tables e below _ (T0.setTop (mkF m 204 #[.val (.int p0), .val (.int p1), .val (.int p2), .val (.int p3), .val (.int p4), .val (.int nl), .val (.int na), .val (.int nb), .val (.int pl), .val (.int pa), .val (.int pb), .val (.int (1 : Int32)), .val (.int (0 : Int32)), .val (.int nl), .val (.int na), .val (.int nb), .val (.int (((XT.ushr p3 (16 : Int32)) &&& (3 : Int32)) % (3 : Int32))), .val (.int (p3 &&& (255 : Int32))), .val (.int ((XT.ushr p3 (8 : Int32)) &&& (255 : Int32))), .val (.int ((XT.ushr p4 (2 : Int32)) &&& (3 : Int32))), .unset, .unset, .unset] []))
        exact rest _ _ _ _ _ _ _ _ _ r_nl r_na r_nb (r3 _) (r8 _) (r8 _)
      · show Goes p.tables e below _ (T0.setTop (mkF m 75 #[.val (.int p0), .val (.int p1), .val (.int p2), .val (.int p3), .val (.int p4), .val (.int nl), .val (.int na), .val (.int nb), .val (.int pl), .val (.int pa), .val (.int pb), .val (.int (1 : Int32)), .unset, .unset, .unset, .unset, .unset, .unset, .unset, .unset, .unset, .unset, .unset] []))
        refine X0.iconst (x := (1 : Int32)) (D at_75) rfl ?_
        refine X0.goto 80 (D at_76) ⟨by decide, by decide⟩ ?_
        refine X0.istore #[.val (.int p0), .val (.int p1), .val (.int p2), .val (.int p3), .val (.int p4), .val (.int nl), .val (.int na), .val (.int nb), .val (.int pl), .val (.int pa), .val (.int pb), .val (.int (1 : Int32)), .val (.int (1 : Int32)), .unset, .unset, .unset, .unset, .unset, .unset, .unset, .unset, .unset, .unset] (D at_80) rfl ?_
        refine X0.iload (x := (1 : Int32)) (D at_82) rfl ?_
        refine X0.if_eq 92 (D at_84) ⟨by decide, by decide⟩ (fun hc303 => absurd hc303 (by decide)) (fun hc303 => ?_)
        refine X0.iload (x := nl) (D at_87) rfl ?_
        refine X0.goto 100 (D at_89) ⟨by decide, by decide⟩ ?_
        refine X0.istore #[.val (.int p0), .val (.int p1), .val (.int p2), .val (.int p3), .val (.int p4), .val (.int nl), .val (.int na), .val (.int nb), .val (.int pl), .val (.int pa), .val (.int pb), .val (.int (1 : Int32)), .val (.int (1 : Int32)), .val (.int nl), .unset, .unset, .unset, .unset, .unset, .unset, .unset, .unset, .unset] (D at_100) rfl ?_
        refine X0.iload (x := (1 : Int32)) (D at_102) rfl ?_
        refine X0.if_eq 112 (D at_104) ⟨by decide, by decide⟩ (fun hc304 => absurd hc304 (by decide)) (fun hc304 => ?_)
        refine X0.iload (x := na) (D at_107) rfl ?_
        refine X0.goto 117 (D at_109) ⟨by decide, by decide⟩ ?_
        refine X0.istore #[.val (.int p0), .val (.int p1), .val (.int p2), .val (.int p3), .val (.int p4), .val (.int nl), .val (.int na), .val (.int nb), .val (.int pl), .val (.int pa), .val (.int pb), .val (.int (1 : Int32)), .val (.int (1 : Int32)), .val (.int nl), .val (.int na), .unset, .unset, .unset, .unset, .unset, .unset, .unset, .unset] (D at_117) rfl ?_
        refine X0.iload (x := (1 : Int32)) (D at_119) rfl ?_
        show Goes p.tables e below _ (T0.setTop (mkF m 121 #[.val (.int p0), .val (.int p1), .val (.int p2), .val (.int p3), .val (.int p4), .val (.int nl), .val (.int na), .val (.int nb), .val (.int pl), .val (.int pa), .val (.int pb), .val (.int (1 : Int32)), .val (.int (1 : Int32)), .val (.int nl), .val (.int na), .unset, .unset, .unset, .unset, .unset, .unset, .unset, .unset] [(.int (1 : Int32))]))
        refine X0.if_eq 129 (D at_121) ⟨by decide, by decide⟩ (fun hc305 => absurd hc305 (by decide)) (fun hc305 => ?_)
        refine X0.iload (x := nb) (D at_124) rfl ?_
        refine X0.goto 137 (D at_126) ⟨by decide, by decide⟩ ?_
        refine X0.istore #[.val (.int p0), .val (.int p1), .val (.int p2), .val (.int p3), .val (.int p4), .val (.int nl), .val (.int na), .val (.int nb), .val (.int pl), .val (.int pa), .val (.int pb), .val (.int (1 : Int32)), .val (.int (1 : Int32)), .val (.int nl), .val (.int na), .val (.int nb), .unset, .unset, .unset, .unset, .unset, .unset, .unset] (D at_137) rfl ?_
        refine X0.iload (x := (1 : Int32)) (D at_139) rfl ?_
        refine X0.if_eq 149 (D at_141) ⟨by decide, by decide⟩ (fun hc306 => absurd hc306 (by decide)) (fun hc306 => ?_)
        refine X0.iload (x := pl) (D at_144) rfl ?_
        refine X0.goto 157 (D at_146) ⟨by decide, by decide⟩ ?_
        refine X0.istore #[.val (.int p0), .val (.int p1), .val (.int p2), .val (.int p3), .val (.int p4), .val (.int nl), .val (.int na), .val (.int nb), .val (.int pl), .val (.int pa), .val (.int pb), .val (.int (1 : Int32)), .val (.int (1 : Int32)), .val (.int nl), .val (.int na), .val (.int nb), .val (.int pl), .unset, .unset, .unset, .unset, .unset, .unset] (D at_157) rfl ?_
        refine X0.iload (x := (1 : Int32)) (D at_159) rfl ?_
        refine X0.if_eq 169 (D at_161) ⟨by decide, by decide⟩ (fun hc307 => absurd hc307 (by decide)) (fun hc307 => ?_)
        refine X0.iload (x := pa) (D at_164) rfl ?_
        refine X0.goto 174 (D at_166) ⟨by decide, by decide⟩ ?_
        refine X0.istore #[.val (.int p0), .val (.int p1), .val (.int p2), .val (.int p3), .val (.int p4), .val (.int nl), .val (.int na), .val (.int nb), .val (.int pl), .val (.int pa), .val (.int pb), .val (.int (1 : Int32)), .val (.int (1 : Int32)), .val (.int nl), .val (.int na), .val (.int nb), .val (.int pl), .val (.int pa), .unset, .unset, .unset, .unset, .unset] (D at_174) rfl ?_
        refine X0.iload (x := (1 : Int32)) (D at_176) rfl ?_
        show Goes p.tables e below _ (T0.setTop (mkF m 178 #[.val (.int p0), .val (.int p1), .val (.int p2), .val (.int p3), .val (.int p4), .val (.int nl), .val (.int na), .val (.int nb), .val (.int pl), .val (.int pa), .val (.int pb), .val (.int (1 : Int32)), .val (.int (1 : Int32)), .val (.int nl), .val (.int na), .val (.int nb), .val (.int pl), .val (.int pa), .unset, .unset, .unset, .unset, .unset] [(.int (1 : Int32))]))
        refine X0.if_eq 186 (D at_178) ⟨by decide, by decide⟩ (fun hc308 => absurd hc308 (by decide)) (fun hc308 => ?_)
        refine X0.iload (x := pb) (D at_181) rfl ?_
        refine X0.goto 194 (D at_183) ⟨by decide, by decide⟩ ?_
        refine X0.istore #[.val (.int p0), .val (.int p1), .val (.int p2), .val (.int p3), .val (.int p4), .val (.int nl), .val (.int na), .val (.int nb), .val (.int pl), .val (.int pa), .val (.int pb), .val (.int (1 : Int32)), .val (.int (1 : Int32)), .val (.int nl), .val (.int na), .val (.int nb), .val (.int pl), .val (.int pa), .val (.int pb), .unset, .unset, .unset, .unset] (D at_194) rfl ?_
        refine X0.iload (x := p4) (D at_196) rfl ?_
        refine X0.iconst (x := (2 : Int32)) (D at_198) rfl ?_
        refine X0.iushr (D at_199) ?_
        refine X0.iconst (x := (3 : Int32)) (D at_200) rfl ?_
        refine X0.iand (D at_201) ?_
        refine X0.istore #[.val (.int p0), .val (.int p1), .val (.int p2), .val (.int p3), .val (.int p4), .val (.int nl), .val (.int na), .val (.int nb), .val (.int pl), .val (.int pa), .val (.int pb), .val (.int (1 : Int32)), .val (.int (1 : Int32)), .val (.int nl), .val (.int na), .val (.int nb), .val (.int pl), .val (.int pa), .val (.int pb), .val (.int ((XT.ushr p4 (2 : Int32)) &&& (3 : Int32))), .unset, .unset, .unset] (D at_202) rfl ?_
        show Goes p.tables e below _ (T0.setTop (mkF m 204 #[.val (.int p0), .val (.int p1), .val (.int p2), .val (.int p3), .val (.int p4), .val (.int nl), .val (.int na), .val (.int nb), .val (.int pl), .val (.int pa), .val (.int pb), .val (.int (1 : Int32)), .val (.int (1 : Int32)), .val (.int nl), .val (.int na), .val (.int nb), .val (.int pl), .val (.int pa), .val (.int pb), .val (.int ((XT.ushr p4 (2 : Int32)) &&& (3 : Int32))), .unset, .unset, .unset] []))
        exact rest _ _ _ _ _ _ _ _ _ r_nl r_na r_nb r_pl r_pa r_pb
  intro x11 x12 x13 x14 x15 x16 x17 x18 x19 r13 r14 r15 r16 r17 r18
  refine X0.new (w 0 rfl) (w 1 rfl) (w 2 rfl) (D at_204) (by decide) (by decide) ?_
  intro T309 h310 b311 g312 X313 E314 A315 D316 U317
  have F318 : Fld Z h310 b311 "com/example/bordershare/bordershare/model/Zone" "name" "Ljava/lang/String;" .null := D316 (Or.inr (w 45 rfl)) (ty := (.object "java/lang/String")) (by decide)
  have F319 : Fld Z h310 b311 "com/example/bordershare/bordershare/model/Zone" "party" "Ljava/lang/String;" .null := D316 (Or.inr (w 47 rfl)) (ty := (.object "java/lang/String")) (by decide)
  show Goes p.tables e below _ (T309.setTop (mkF m 207 #[.val (.int p0), .val (.int p1), .val (.int p2), .val (.int p3), .val (.int p4), .val (.int nl), .val (.int na), .val (.int nb), .val (.int pl), .val (.int pa), .val (.int pb), .val (.int x11), .val (.int x12), .val (.int x13), .val (.int x14), .val (.int x15), .val (.int x16), .val (.int x17), .val (.int x18), .val (.int x19), .unset, .unset, .unset] [(.ref b311)]))
  refine X313.dup (D at_207) rfl ?_
  refine X313.iload (x := nl) (D at_208) rfl ?_
  refine X313.iload (x := na) (D at_210) rfl ?_
  refine X313.iload (x := nb) (D at_212) rfl ?_
  refine X313.calls [(.int nl), (.int na), (.int nb)] [(.ref b311), (.ref b311)] (ctMk l Z a0 hw hEL z0 S0 hz0 nl na nb _ _ r_na r_nb) (w 3 rfl) (w 4 rfl) (w 5 rfl) (w 6 rfl) (by decide) (fun _ q => nomatch q) (by decide) 2 (by decide) (by decide) (by decide) (lenOf pd_4 rfl) rfl (Nat.le_of_ble_eq_true rfl) (by rw [hml]; rfl) (D at_214) ?_
  rintro T323 h324 _ X326 K327 ⟨s320, t321, rfl, O322⟩
  have F328 := A315.keep K327
  have F329 := F318.keep K327 nin0
  have F330 := F319.keep K327 nin0
  show Goes p.tables e below _ (T323.setTop (mkF m 217 #[.val (.int p0), .val (.int p1), .val (.int p2), .val (.int p3), .val (.int p4), .val (.int nl), .val (.int na), .val (.int nb), .val (.int pl), .val (.int pa), .val (.int pb), .val (.int x11), .val (.int x12), .val (.int x13), .val (.int x14), .val (.int x15), .val (.int x16), .val (.int x17), .val (.int x18), .val (.int x19), .unset, .unset, .unset] [(.ref s320), (.ref b311), (.ref b311)]))
  refine X326.iload (x := pl) (D at_217) rfl ?_
  refine X326.iload (x := pa) (D at_219) rfl ?_
  refine X326.iload (x := pb) (D at_221) rfl ?_
  refine X326.calls [(.int pl), (.int pa), (.int pb)] [(.ref s320), (.ref b311), (.ref b311)] (ctMk l Z a0 hw hEL z0 S0 hz0 pl pa pb _ _ r_pa r_pb) (w 3 rfl) (w 4 rfl) (w 5 rfl) (w 6 rfl) (by decide) (fun _ q => nomatch q) (by decide) 3 (by decide) (by decide) (by decide) (lenOf pd_4 rfl) rfl (Nat.le_of_ble_eq_true rfl) (by rw [hml]; rfl) (D at_223) ?_
  rintro T334 h335 _ X337 K338 ⟨s331, t332, rfl, O333⟩
  have F339 := F328.keep K338
  have F340 := F329.keep K338 nin0
  have F341 := F330.keep K338 nin0
  have F342 := O322.keep K338 nin0 nin0
  show Goes p.tables e below _ (T334.setTop (mkF m 226 #[.val (.int p0), .val (.int p1), .val (.int p2), .val (.int p3), .val (.int p4), .val (.int nl), .val (.int na), .val (.int nb), .val (.int pl), .val (.int pa), .val (.int pb), .val (.int x11), .val (.int x12), .val (.int x13), .val (.int x14), .val (.int x15), .val (.int x16), .val (.int x17), .val (.int x18), .val (.int x19), .unset, .unset, .unset] [(.ref s331), (.ref s320), (.ref b311), (.ref b311)]))
  refine X337.callc (a := b311) [(.ref s320), (.ref s331)] [(.ref b311)] (ctZn l Z a0 hw hEL z0 S0 hz0 b311 s320 s331 _ _ F339 F340 F341) rfl (w 29 rfl) (w 30 rfl) (w 2 rfl) (w 31 rfl) (by decide) (by simp) (by decide) 1 (by decide) (by decide) (by decide) (lenOf pd_5 rfl) rfl (Nat.le_of_ble_eq_true rfl) (by rw [hml]; rfl) (D at_226) ?_
  rintro T346 h347 _ X349 K350 ⟨rfl, G343, G344, G345⟩
  have F351 := F339.keep K350
  have F352 := F342.keep K350 (ninS (Exa.ne F342.1 F339 (by decide)) nin0) (ninS (OStr.neT F342 F339 (w 1 rfl)) nin0)
  have F353 := O333.keep K350 (ninS (Exa.ne O333.1 F339 (by decide)) nin0) (ninS (OStr.neT O333 F339 (w 1 rfl)) nin0)
  show Goes p.tables e below _ (T346.setTop (mkF m 229 #[.val (.int p0), .val (.int p1), .val (.int p2), .val (.int p3), .val (.int p4), .val (.int nl), .val (.int na), .val (.int nb), .val (.int pl), .val (.int pa), .val (.int pb), .val (.int x11), .val (.int x12), .val (.int x13), .val (.int x14), .val (.int x15), .val (.int x16), .val (.int x17), .val (.int x18), .val (.int x19), .unset, .unset, .unset] [(.ref b311)]))
  refine X349.astore #[.val (.int p0), .val (.int p1), .val (.int p2), .val (.int p3), .val (.int p4), .val (.int nl), .val (.int na), .val (.int nb), .val (.int pl), .val (.int pa), .val (.int pb), .val (.int x11), .val (.int x12), .val (.int x13), .val (.int x14), .val (.int x15), .val (.int x16), .val (.int x17), .val (.int x18), .val (.int x19), .val (.ref b311), .unset, .unset] (D at_229) rfl rfl ?_
  refine X349.iload (x := x19) (D at_231) rfl ?_
  refine X349.if_ne 336 (D at_233) ⟨by decide, by decide⟩ (fun hc354 => ?_) (fun hc354 => ?_)
  · show Goes p.tables e below _ (T346.setTop (mkF m 336 #[.val (.int p0), .val (.int p1), .val (.int p2), .val (.int p3), .val (.int p4), .val (.int nl), .val (.int na), .val (.int nb), .val (.int pl), .val (.int pa), .val (.int pb), .val (.int x11), .val (.int x12), .val (.int x13), .val (.int x14), .val (.int x15), .val (.int x16), .val (.int x17), .val (.int x18), .val (.int x19), .val (.ref b311), .unset, .unset] []))
    refine X349.iload (x := x19) (D at_336) rfl ?_
    refine X349.iconst (x := (1 : Int32)) (D at_338) rfl ?_
    refine X349.icmp_ne 357 (D at_339) ⟨by decide, by decide⟩ (fun hc563 => ?_) (fun hc563 => ?_)
    · show Goes p.tables e below _ (T346.setTop (mkF m 357 #[.val (.int p0), .val (.int p1), .val (.int p2), .val (.int p3), .val (.int p4), .val (.int nl), .val (.int na), .val (.int nb), .val (.int pl), .val (.int pa), .val (.int pb), .val (.int x11), .val (.int x12), .val (.int x13), .val (.int x14), .val (.int x15), .val (.int x16), .val (.int x17), .val (.int x18), .val (.int x19), .val (.ref b311), .unset, .unset] []))
      refine X349.iload (x := x19) (D at_357) rfl ?_
      refine X349.iconst (x := (2 : Int32)) (D at_359) rfl ?_
      refine X349.icmp_ne 390 (D at_360) ⟨by decide, by decide⟩ (fun hc575 => ?_) (fun hc575 => ?_)
      · show Goes p.tables e below _ (T346.setTop (mkF m 390 #[.val (.int p0), .val (.int p1), .val (.int p2), .val (.int p3), .val (.int p4), .val (.int nl), .val (.int na), .val (.int nb), .val (.int pl), .val (.int pa), .val (.int pb), .val (.int x11), .val (.int x12), .val (.int x13), .val (.int x14), .val (.int x15), .val (.int x16), .val (.int x17), .val (.int x18), .val (.int x19), .val (.ref b311), .unset, .unset] []))
        refine X349.aload (x := (.ref b311)) (D at_390) rfl rfl ?_
        refine X349.aload (x := (.ref b311)) (D at_392) rfl rfl ?_
        refine X349.callv (y := (⟨"com/example/bordershare/bordershare/model/Zone", "equals", "(Ljava/lang/Object;)Z"⟩ : MethodName)) (a := b311) (C := "com/example/bordershare/bordershare/model/Zone") [(.ref b311)] [] (ctEq l Z a0 hw hEL z0 S0 hz0 b311 b311 s320 t321 s331 t332 s320 t321 s331 t332 _ _ _ _ _ _ G343 G343 G344 G345 G344 G345 F352 F353 F352 F353) G343 (w 51 rfl) (w 52 rfl) (w 54 rfl) (w 53 rfl) (w 2 rfl) (w 55 rfl) (by decide) (fun _ q => nomatch q) (by decide) 0 (by decide) (by decide) (by decide) (lenOf pd_7 rfl) rfl (Nat.le_of_ble_eq_true rfl) (by rw [hml]; rfl) (D at_394) ?_
        rintro T602 h603 _ X605 K606 (⟨rfl, hc601⟩ | ⟨rfl, hc601⟩)
        · have F607 := G343.keep K606
          have F608 := F352.keep K606 nin0 nin0
          have F609 := F353.keep K606 nin0 nin0
          have F610 := G344.keep K606 nin0
          have F611 := G345.keep K606 nin0
          show Goes p.tables e below _ (T602.setTop (mkF m 397 #[.val (.int p0), .val (.int p1), .val (.int p2), .val (.int p3), .val (.int p4), .val (.int nl), .val (.int na), .val (.int nb), .val (.int pl), .val (.int pa), .val (.int pb), .val (.int x11), .val (.int x12), .val (.int x13), .val (.int x14), .val (.int x15), .val (.int x16), .val (.int x17), .val (.int x18), .val (.int x19), .val (.ref b311), .unset, .unset] [(.int (1 : Int32))]))
          exact X605.reti hret (by simp) hlk (D at_397) (by decide) (by decide) (rfl)
        · have F607 := G343.keep K606
          have F608 := F352.keep K606 nin0 nin0
          have F609 := F353.keep K606 nin0 nin0
          have F610 := G344.keep K606 nin0
          have F611 := G345.keep K606 nin0
          show Goes p.tables e below _ (T602.setTop (mkF m 397 #[.val (.int p0), .val (.int p1), .val (.int p2), .val (.int p3), .val (.int p4), .val (.int nl), .val (.int na), .val (.int nb), .val (.int pl), .val (.int pa), .val (.int pb), .val (.int x11), .val (.int x12), .val (.int x13), .val (.int x14), .val (.int x15), .val (.int x16), .val (.int x17), .val (.int x18), .val (.int x19), .val (.ref b311), .unset, .unset] [(.int (0 : Int32))]))
          exact (hc601 ⟨rfl, rfl⟩).elim
      · show Goes p.tables e below _ (T346.setTop (mkF m 363 #[.val (.int p0), .val (.int p1), .val (.int p2), .val (.int p3), .val (.int p4), .val (.int nl), .val (.int na), .val (.int nb), .val (.int pl), .val (.int pa), .val (.int pb), .val (.int x11), .val (.int x12), .val (.int x13), .val (.int x14), .val (.int x15), .val (.int x16), .val (.int x17), .val (.int x18), .val (.int x19), .val (.ref b311), .unset, .unset] []))
        refine X349.iload (x := nl) (D at_363) rfl ?_
        refine X349.iload (x := na) (D at_365) rfl ?_
        refine X349.iload (x := nb) (D at_367) rfl ?_
        refine X349.calls [(.int nl), (.int na), (.int nb)] [] (ctMk l Z a0 hw hEL z0 S0 hz0 nl na nb _ _ r_na r_nb) (w 3 rfl) (w 4 rfl) (w 5 rfl) (w 6 rfl) (by decide) (fun _ q => nomatch q) (by decide) 0 (by decide) (by decide) (by decide) (lenOf pd_4 rfl) rfl (Nat.le_of_ble_eq_true rfl) (by rw [hml]; rfl) (D at_369) ?_
        rintro T579 h580 _ X582 K583 ⟨s576, t577, rfl, O578⟩
        have F584 := G343.keep K583
        have F585 := F352.keep K583 nin0 nin0
        have F586 := F353.keep K583 nin0 nin0
        have F587 := G344.keep K583 nin0
        have F588 := G345.keep K583 nin0
        show Goes p.tables e below _ (T579.setTop (mkF m 372 #[.val (.int p0), .val (.int p1), .val (.int p2), .val (.int p3), .val (.int p4), .val (.int nl), .val (.int na), .val (.int nb), .val (.int pl), .val (.int pa), .val (.int pb), .val (.int x11), .val (.int x12), .val (.int x13), .val (.int x14), .val (.int x15), .val (.int x16), .val (.int x17), .val (.int x18), .val (.int x19), .val (.ref b311), .unset, .unset] [(.ref s576)]))
        refine X582.astore #[.val (.int p0), .val (.int p1), .val (.int p2), .val (.int p3), .val (.int p4), .val (.int nl), .val (.int na), .val (.int nb), .val (.int pl), .val (.int pa), .val (.int pb), .val (.int x11), .val (.int x12), .val (.int x13), .val (.int x14), .val (.int x15), .val (.int x16), .val (.int x17), .val (.int x18), .val (.int x19), .val (.ref b311), .val (.ref s576), .unset] (D at_372) rfl rfl ?_
        refine X582.aload (x := (.ref b311)) (D at_374) rfl rfl ?_
        refine X582.aload (x := (.ref s576)) (D at_376) rfl rfl ?_
        refine X582.callv (y := (⟨"com/example/bordershare/bordershare/model/Zone", "equals", "(Ljava/lang/Object;)Z"⟩ : MethodName)) (a := b311) (C := "com/example/bordershare/bordershare/model/Zone") [(.ref s576)] [] (ctEqS l Z a0 hw hEL z0 S0 hz0 b311 s576 _ _ O578.1) F584 (w 51 rfl) (w 52 rfl) (w 54 rfl) (w 53 rfl) (w 2 rfl) (w 55 rfl) (by decide) (fun _ q => nomatch q) (by decide) 0 (by decide) (by decide) (by decide) (lenOf pd_7 rfl) rfl (Nat.le_of_ble_eq_true rfl) (by rw [hml]; rfl) (D at_378) ?_
        rintro T589 h590 _ X592 K593 rfl
        have F594 := F584.keep K593
        have F595 := F585.keep K593 nin0 nin0
        have F596 := F586.keep K593 nin0 nin0
        have F597 := F587.keep K593 nin0
        have F598 := F588.keep K593 nin0
        have F599 := O578.keep K593 nin0 nin0
        show Goes p.tables e below _ (T589.setTop (mkF m 381 #[.val (.int p0), .val (.int p1), .val (.int p2), .val (.int p3), .val (.int p4), .val (.int nl), .val (.int na), .val (.int nb), .val (.int pl), .val (.int pa), .val (.int pb), .val (.int x11), .val (.int x12), .val (.int x13), .val (.int x14), .val (.int x15), .val (.int x16), .val (.int x17), .val (.int x18), .val (.int x19), .val (.ref b311), .val (.ref s576), .unset] [(.int (0 : Int32))]))
        refine X592.if_ne 388 (D at_381) ⟨by decide, by decide⟩ (fun hc600 => absurd hc600 (by decide)) (fun hc600 => ?_)
        refine X592.iconst (x := (1 : Int32)) (D at_384) rfl ?_
        refine X592.goto 389 (D at_385) ⟨by decide, by decide⟩ ?_
        exact X592.reti hret (by simp) hlk (D at_389) (by decide) (by decide) (rfl)
    · show Goes p.tables e below _ (T346.setTop (mkF m 342 #[.val (.int p0), .val (.int p1), .val (.int p2), .val (.int p3), .val (.int p4), .val (.int nl), .val (.int na), .val (.int nb), .val (.int pl), .val (.int pa), .val (.int pb), .val (.int x11), .val (.int x12), .val (.int x13), .val (.int x14), .val (.int x15), .val (.int x16), .val (.int x17), .val (.int x18), .val (.int x19), .val (.ref b311), .unset, .unset] []))
      refine X349.aload (x := (.ref b311)) (D at_342) rfl rfl ?_
      refine X349.anull (D at_344) ?_
      refine X349.callv (y := (⟨"com/example/bordershare/bordershare/model/Zone", "equals", "(Ljava/lang/Object;)Z"⟩ : MethodName)) (a := b311) (C := "com/example/bordershare/bordershare/model/Zone") [.null] [] (ctEqN l Z a0 hw hEL z0 S0 hz0 b311 _ _) G343 (w 51 rfl) (w 52 rfl) (w 54 rfl) (w 53 rfl) (w 2 rfl) (w 55 rfl) (by decide) (fun _ q => nomatch q) (by decide) 0 (by decide) (by decide) (by decide) (lenOf pd_7 rfl) rfl (Nat.le_of_ble_eq_true rfl) (by rw [hml]; rfl) (D at_345) ?_
      rintro T564 h565 _ X567 K568 rfl
      have F569 := G343.keep K568
      have F570 := F352.keep K568 nin0 nin0
      have F571 := F353.keep K568 nin0 nin0
      have F572 := G344.keep K568 nin0
      have F573 := G345.keep K568 nin0
      show Goes p.tables e below _ (T564.setTop (mkF m 348 #[.val (.int p0), .val (.int p1), .val (.int p2), .val (.int p3), .val (.int p4), .val (.int nl), .val (.int na), .val (.int nb), .val (.int pl), .val (.int pa), .val (.int pb), .val (.int x11), .val (.int x12), .val (.int x13), .val (.int x14), .val (.int x15), .val (.int x16), .val (.int x17), .val (.int x18), .val (.int x19), .val (.ref b311), .unset, .unset] [(.int (0 : Int32))]))
      refine X567.if_ne 355 (D at_348) ⟨by decide, by decide⟩ (fun hc574 => absurd hc574 (by decide)) (fun hc574 => ?_)
      refine X567.iconst (x := (1 : Int32)) (D at_351) rfl ?_
      refine X567.goto 356 (D at_352) ⟨by decide, by decide⟩ ?_
      exact X567.reti hret (by simp) hlk (D at_356) (by decide) (by decide) (rfl)
  · show Goes p.tables e below _ (T346.setTop (mkF m 236 #[.val (.int p0), .val (.int p1), .val (.int p2), .val (.int p3), .val (.int p4), .val (.int nl), .val (.int na), .val (.int nb), .val (.int pl), .val (.int pa), .val (.int pb), .val (.int x11), .val (.int x12), .val (.int x13), .val (.int x14), .val (.int x15), .val (.int x16), .val (.int x17), .val (.int x18), .val (.int x19), .val (.ref b311), .unset, .unset] []))
    refine X349.new (w 0 rfl) (w 1 rfl) (w 2 rfl) (D at_236) (by decide) (by decide) ?_
    intro T355 h356 b357 g358 X359 E360 A361 D362 U363
    have F364 := G343.ext E360
    have F365 := F352.ext E360
    have F366 := F353.ext E360
    have F367 := G344.ext E360
    have F368 := G345.ext E360
    have lt369 : b311 < b357 := by rw [g358]; exact G343.lt
    have lt370 : s320 < b357 := by rw [g358]; exact F352.lt
    have lt371 : t321 < b357 := by rw [g358]; exact F352.ltb
    have lt372 : s331 < b357 := by rw [g358]; exact F353.lt
    have lt373 : t332 < b357 := by rw [g358]; exact F353.ltb
    have F374 : Fld Z h356 b357 "com/example/bordershare/bordershare/model/Zone" "name" "Ljava/lang/String;" .null := D362 (Or.inr (w 45 rfl)) (ty := (.object "java/lang/String")) (by decide)
    have F375 : Fld Z h356 b357 "com/example/bordershare/bordershare/model/Zone" "party" "Ljava/lang/String;" .null := D362 (Or.inr (w 47 rfl)) (ty := (.object "java/lang/String")) (by decide)
    show Goes p.tables e below _ (T355.setTop (mkF m 239 #[.val (.int p0), .val (.int p1), .val (.int p2), .val (.int p3), .val (.int p4), .val (.int nl), .val (.int na), .val (.int nb), .val (.int pl), .val (.int pa), .val (.int pb), .val (.int x11), .val (.int x12), .val (.int x13), .val (.int x14), .val (.int x15), .val (.int x16), .val (.int x17), .val (.int x18), .val (.int x19), .val (.ref b311), .unset, .unset] [(.ref b357)]))
    refine X359.dup (D at_239) rfl ?_
    refine X359.iload (x := x13) (D at_240) rfl ?_
    refine X359.iload (x := x14) (D at_242) rfl ?_
    refine X359.iload (x := x15) (D at_244) rfl ?_
    refine X359.calls [(.int x13), (.int x14), (.int x15)] [(.ref b357), (.ref b357)] (ctMk l Z a0 hw hEL z0 S0 hz0 x13 x14 x15 _ _ r14 r15) (w 3 rfl) (w 4 rfl) (w 5 rfl) (w 6 rfl) (by decide) (fun _ q => nomatch q) (by decide) 2 (by decide) (by decide) (by decide) (lenOf pd_4 rfl) rfl (Nat.le_of_ble_eq_true rfl) (by rw [hml]; rfl) (D at_246) ?_
    rintro T379 h380 _ X382 K383 ⟨s376, t377, rfl, O378⟩
    have F384 := F364.keep K383
    have F385 := F365.keep K383 nin0 nin0
    have F386 := F366.keep K383 nin0 nin0
    have F387 := F367.keep K383 nin0
    have F388 := F368.keep K383 nin0
    have F389 := A361.keep K383
    have F390 := F374.keep K383 nin0
    have F391 := F375.keep K383 nin0
    show Goes p.tables e below _ (T379.setTop (mkF m 249 #[.val (.int p0), .val (.int p1), .val (.int p2), .val (.int p3), .val (.int p4), .val (.int nl), .val (.int na), .val (.int nb), .val (.int pl), .val (.int pa), .val (.int pb), .val (.int x11), .val (.int x12), .val (.int x13), .val (.int x14), .val (.int x15), .val (.int x16), .val (.int x17), .val (.int x18), .val (.int x19), .val (.ref b311), .unset, .unset] [(.ref s376), (.ref b357), (.ref b357)]))
    refine X382.iload (x := x16) (D at_249) rfl ?_
    refine X382.iload (x := x17) (D at_251) rfl ?_
    refine X382.iload (x := x18) (D at_253) rfl ?_
    refine X382.calls [(.int x16), (.int x17), (.int x18)] [(.ref s376), (.ref b357), (.ref b357)] (ctMk l Z a0 hw hEL z0 S0 hz0 x16 x17 x18 _ _ r17 r18) (w 3 rfl) (w 4 rfl) (w 5 rfl) (w 6 rfl) (by decide) (fun _ q => nomatch q) (by decide) 3 (by decide) (by decide) (by decide) (lenOf pd_4 rfl) rfl (Nat.le_of_ble_eq_true rfl) (by rw [hml]; rfl) (D at_255) ?_
    rintro T395 h396 _ X398 K399 ⟨s392, t393, rfl, O394⟩
    have F400 := F384.keep K399
    have F401 := F385.keep K399 nin0 nin0
    have F402 := F386.keep K399 nin0 nin0
    have F403 := F387.keep K399 nin0
    have F404 := F388.keep K399 nin0
    have F405 := F389.keep K399
    have F406 := F390.keep K399 nin0
    have F407 := F391.keep K399 nin0
    have F408 := O378.keep K399 nin0 nin0
    show Goes p.tables e below _ (T395.setTop (mkF m 258 #[.val (.int p0), .val (.int p1), .val (.int p2), .val (.int p3), .val (.int p4), .val (.int nl), .val (.int na), .val (.int nb), .val (.int pl), .val (.int pa), .val (.int pb), .val (.int x11), .val (.int x12), .val (.int x13), .val (.int x14), .val (.int x15), .val (.int x16), .val (.int x17), .val (.int x18), .val (.int x19), .val (.ref b311), .unset, .unset] [(.ref s392), (.ref s376), (.ref b357), (.ref b357)]))
    refine X398.callc (a := b357) [(.ref s376), (.ref s392)] [(.ref b357)] (ctZn l Z a0 hw hEL z0 S0 hz0 b357 s376 s392 _ _ F405 F406 F407) rfl (w 29 rfl) (w 30 rfl) (w 2 rfl) (w 31 rfl) (by decide) (by simp) (by decide) 1 (by decide) (by decide) (by decide) (lenOf pd_5 rfl) rfl (Nat.le_of_ble_eq_true rfl) (by rw [hml]; rfl) (D at_258) ?_
    rintro T412 h413 _ X415 K416 ⟨rfl, G409, G410, G411⟩
    have F417 := F400.keep K416
    have F418 := F401.keep K416 (ninS (Nat.ne_of_lt lt370) nin0) (ninS (Nat.ne_of_lt lt371) nin0)
    have F419 := F402.keep K416 (ninS (Nat.ne_of_lt lt372) nin0) (ninS (Nat.ne_of_lt lt373) nin0)
    have F420 := F403.keep K416 (ninS (Nat.ne_of_lt lt369) nin0)
    have F421 := F404.keep K416 (ninS (Nat.ne_of_lt lt369) nin0)
    have F422 := F405.keep K416
    have F423 := F408.keep K416 (ninS (Exa.ne F408.1 F405 (by decide)) nin0) (ninS (OStr.neT F408 F405 (w 1 rfl)) nin0)
    have F424 := O394.keep K416 (ninS (Exa.ne O394.1 F405 (by decide)) nin0) (ninS (OStr.neT O394 F405 (w 1 rfl)) nin0)
    show Goes p.tables e below _ (T412.setTop (mkF m 261 #[.val (.int p0), .val (.int p1), .val (.int p2), .val (.int p3), .val (.int p4), .val (.int nl), .val (.int na), .val (.int nb), .val (.int pl), .val (.int pa), .val (.int pb), .val (.int x11), .val (.int x12), .val (.int x13), .val (.int x14), .val (.int x15), .val (.int x16), .val (.int x17), .val (.int x18), .val (.int x19), .val (.ref b311), .unset, .unset] [(.ref b357)]))
    refine X415.astore #[.val (.int p0), .val (.int p1), .val (.int p2), .val (.int p3), .val (.int p4), .val (.int nl), .val (.int na), .val (.int nb), .val (.int pl), .val (.int pa), .val (.int pb), .val (.int x11), .val (.int x12), .val (.int x13), .val (.int x14), .val (.int x15), .val (.int x16), .val (.int x17), .val (.int x18), .val (.int x19), .val (.ref b311), .val (.ref b357), .unset] (D at_261) rfl rfl ?_
    refine X415.iload (x := nl) (D at_263) rfl ?_
    refine X415.iload (x := na) (D at_265) rfl ?_
    refine X415.iload (x := nb) (D at_267) rfl ?_
    refine X415.iload (x := x13) (D at_269) rfl ?_
    refine X415.iload (x := x14) (D at_271) rfl ?_
    refine X415.iload (x := x15) (D at_273) rfl ?_
    refine X415.calls [(.int nl), (.int na), (.int nb), (.int x13), (.int x14), (.int x15)] [] (ctSm l Z a0 hw hEL z0 S0 hz0 nl na nb x13 x14 x15 _ _) (w 48 rfl) (w 49 rfl) (w 5 rfl) (w 50 rfl) (by decide) (fun _ q => nomatch q) (by decide) 0 (by decide) (by decide) (by decide) (lenOf pd_6 rfl) rfl (Nat.le_of_ble_eq_true rfl) (by rw [hml]; rfl) (D at_275) ?_
    rintro T426 h427 _ X429 K430 (⟨rfl, hc425⟩ | ⟨rfl, hc425⟩)
    · have F431 := F417.keep K430
      have F432 := F418.keep K430 nin0 nin0
      have F433 := F419.keep K430 nin0 nin0
      have F434 := F420.keep K430 nin0
      have F435 := F421.keep K430 nin0
      have F436 := G409.keep K430
      have F437 := F423.keep K430 nin0 nin0
      have F438 := F424.keep K430 nin0 nin0
      have F439 := G410.keep K430 nin0
      have F440 := G411.keep K430 nin0
      show Goes p.tables e below _ (T426.setTop (mkF m 278 #[.val (.int p0), .val (.int p1), .val (.int p2), .val (.int p3), .val (.int p4), .val (.int nl), .val (.int na), .val (.int nb), .val (.int pl), .val (.int pa), .val (.int pb), .val (.int x11), .val (.int x12), .val (.int x13), .val (.int x14), .val (.int x15), .val (.int x16), .val (.int x17), .val (.int x18), .val (.int x19), .val (.ref b311), .val (.ref b357), .unset] [(.int (1 : Int32))]))
      refine X429.if_eq 303 (D at_278) ⟨by decide, by decide⟩ (fun hc441 => absurd hc441 (by decide)) (fun hc441 => ?_)
      refine X429.iload (x := pl) (D at_281) rfl ?_
      refine X429.iload (x := pa) (D at_283) rfl ?_
      refine X429.iload (x := pb) (D at_285) rfl ?_
      refine X429.iload (x := x16) (D at_287) rfl ?_
      refine X429.iload (x := x17) (D at_289) rfl ?_
      refine X429.iload (x := x18) (D at_291) rfl ?_
      refine X429.calls [(.int pl), (.int pa), (.int pb), (.int x16), (.int x17), (.int x18)] [] (ctSm l Z a0 hw hEL z0 S0 hz0 pl pa pb x16 x17 x18 _ _) (w 48 rfl) (w 49 rfl) (w 5 rfl) (w 50 rfl) (by decide) (fun _ q => nomatch q) (by decide) 0 (by decide) (by decide) (by decide) (lenOf pd_6 rfl) rfl (Nat.le_of_ble_eq_true rfl) (by rw [hml]; rfl) (D at_293) ?_
      rintro T443 h444 _ X446 K447 (⟨rfl, hc442⟩ | ⟨rfl, hc442⟩)
      · have F448 := F431.keep K447
        have F449 := F432.keep K447 nin0 nin0
        have F450 := F433.keep K447 nin0 nin0
        have F451 := F434.keep K447 nin0
        have F452 := F435.keep K447 nin0
        have F453 := F436.keep K447
        have F454 := F437.keep K447 nin0 nin0
        have F455 := F438.keep K447 nin0 nin0
        have F456 := F439.keep K447 nin0
        have F457 := F440.keep K447 nin0
        show Goes p.tables e below _ (T443.setTop (mkF m 296 #[.val (.int p0), .val (.int p1), .val (.int p2), .val (.int p3), .val (.int p4), .val (.int nl), .val (.int na), .val (.int nb), .val (.int pl), .val (.int pa), .val (.int pb), .val (.int x11), .val (.int x12), .val (.int x13), .val (.int x14), .val (.int x15), .val (.int x16), .val (.int x17), .val (.int x18), .val (.int x19), .val (.ref b311), .val (.ref b357), .unset] [(.int (1 : Int32))]))
        refine X446.if_eq 303 (D at_296) ⟨by decide, by decide⟩ (fun hc528 => absurd hc528 (by decide)) (fun hc528 => ?_)
        refine X446.iconst (x := (1 : Int32)) (D at_299) rfl ?_
        refine X446.goto 304 (D at_300) ⟨by decide, by decide⟩ ?_
        refine X446.istore #[.val (.int p0), .val (.int p1), .val (.int p2), .val (.int p3), .val (.int p4), .val (.int nl), .val (.int na), .val (.int nb), .val (.int pl), .val (.int pa), .val (.int pb), .val (.int x11), .val (.int x12), .val (.int x13), .val (.int x14), .val (.int x15), .val (.int x16), .val (.int x17), .val (.int x18), .val (.int x19), .val (.ref b311), .val (.ref b357), .val (.int (1 : Int32))] (D at_304) rfl ?_
        refine X446.aload (x := (.ref b311)) (D at_306) rfl rfl ?_
        refine X446.aload (x := (.ref b357)) (D at_308) rfl rfl ?_
        refine X446.callv (y := (⟨"com/example/bordershare/bordershare/model/Zone", "equals", "(Ljava/lang/Object;)Z"⟩ : MethodName)) (a := b311) (C := "com/example/bordershare/bordershare/model/Zone") [(.ref b357)] [] (ctEq l Z a0 hw hEL z0 S0 hz0 b311 b357 s320 t321 s331 t332 s376 t377 s392 t393 _ _ _ _ _ _ F448 F453 F451 F452 F456 F457 F449 F450 F454 F455) F448 (w 51 rfl) (w 52 rfl) (w 54 rfl) (w 53 rfl) (w 2 rfl) (w 55 rfl) (by decide) (fun _ q => nomatch q) (by decide) 0 (by decide) (by decide) (by decide) (lenOf pd_7 rfl) rfl (Nat.le_of_ble_eq_true rfl) (by rw [hml]; rfl) (D at_310) ?_
        rintro T530 h531 _ X533 K534 (⟨rfl, hc529⟩ | ⟨rfl, hc529⟩)
        · have F535 := F448.keep K534
          have F536 := F449.keep K534 nin0 nin0
          have F537 := F450.keep K534 nin0 nin0
          have F538 := F451.keep K534 nin0
          have F539 := F452.keep K534 nin0
          have F540 := F453.keep K534
          have F541 := F454.keep K534 nin0 nin0
          have F542 := F455.keep K534 nin0 nin0
          have F543 := F456.keep K534 nin0
          have F544 := F457.keep K534 nin0
          show Goes p.tables e below _ (T530.setTop (mkF m 313 #[.val (.int p0), .val (.int p1), .val (.int p2), .val (.int p3), .val (.int p4), .val (.int nl), .val (.int na), .val (.int nb), .val (.int pl), .val (.int pa), .val (.int pb), .val (.int x11), .val (.int x12), .val (.int x13), .val (.int x14), .val (.int x15), .val (.int x16), .val (.int x17), .val (.int x18), .val (.int x19), .val (.ref b311), .val (.ref b357), .val (.int (1 : Int32))] [(.int (1 : Int32))]))
          refine X533.iload (x := (1 : Int32)) (D at_313) rfl ?_
          refine X533.icmp_ne 334 (D at_315) ⟨by decide, by decide⟩ (fun hc545 => absurd hc545 (by decide)) (fun hc545 => ?_)
          refine X533.aload (x := (.ref b357)) (D at_318) rfl rfl ?_
          refine X533.aload (x := (.ref b311)) (D at_320) rfl rfl ?_
          refine X533.callv (y := (⟨"com/example/bordershare/bordershare/model/Zone", "equals", "(Ljava/lang/Object;)Z"⟩ : MethodName)) (a := b357) (C := "com/example/bordershare/bordershare/model/Zone") [(.ref b311)] [] (ctEq l Z a0 hw hEL z0 S0 hz0 b357 b311 s376 t377 s392 t393 s320 t321 s331 t332 _ _ _ _ _ _ F540 F535 F543 F544 F538 F539 F541 F542 F536 F537) F540 (w 51 rfl) (w 52 rfl) (w 54 rfl) (w 53 rfl) (w 2 rfl) (w 55 rfl) (by decide) (fun _ q => nomatch q) (by decide) 0 (by decide) (by decide) (by decide) (lenOf pd_7 rfl) rfl (Nat.le_of_ble_eq_true rfl) (by rw [hml]; rfl) (D at_322) ?_
          rintro T547 h548 _ X550 K551 (⟨rfl, hc546⟩ | ⟨rfl, hc546⟩)
          · have F552 := F535.keep K551
            have F553 := F536.keep K551 nin0 nin0
            have F554 := F537.keep K551 nin0 nin0
            have F555 := F538.keep K551 nin0
            have F556 := F539.keep K551 nin0
            have F557 := F540.keep K551
            have F558 := F541.keep K551 nin0 nin0
            have F559 := F542.keep K551 nin0 nin0
            have F560 := F543.keep K551 nin0
            have F561 := F544.keep K551 nin0
            show Goes p.tables e below _ (T547.setTop (mkF m 325 #[.val (.int p0), .val (.int p1), .val (.int p2), .val (.int p3), .val (.int p4), .val (.int nl), .val (.int na), .val (.int nb), .val (.int pl), .val (.int pa), .val (.int pb), .val (.int x11), .val (.int x12), .val (.int x13), .val (.int x14), .val (.int x15), .val (.int x16), .val (.int x17), .val (.int x18), .val (.int x19), .val (.ref b311), .val (.ref b357), .val (.int (1 : Int32))] [(.int (1 : Int32))]))
            refine X550.iload (x := (1 : Int32)) (D at_325) rfl ?_
            refine X550.icmp_ne 334 (D at_327) ⟨by decide, by decide⟩ (fun hc562 => absurd hc562 (by decide)) (fun hc562 => ?_)
            refine X550.iconst (x := (1 : Int32)) (D at_330) rfl ?_
            refine X550.goto 335 (D at_331) ⟨by decide, by decide⟩ ?_
            exact X550.reti hret (by simp) hlk (D at_335) (by decide) (by decide) (rfl)
          · have F552 := F535.keep K551
            have F553 := F536.keep K551 nin0 nin0
            have F554 := F537.keep K551 nin0 nin0
            have F555 := F538.keep K551 nin0
            have F556 := F539.keep K551 nin0
            have F557 := F540.keep K551
            have F558 := F541.keep K551 nin0 nin0
            have F559 := F542.keep K551 nin0 nin0
            have F560 := F543.keep K551 nin0
            have F561 := F544.keep K551 nin0
            show Goes p.tables e below _ (T547.setTop (mkF m 325 #[.val (.int p0), .val (.int p1), .val (.int p2), .val (.int p3), .val (.int p4), .val (.int nl), .val (.int na), .val (.int nb), .val (.int pl), .val (.int pa), .val (.int pb), .val (.int x11), .val (.int x12), .val (.int x13), .val (.int x14), .val (.int x15), .val (.int x16), .val (.int x17), .val (.int x18), .val (.int x19), .val (.ref b311), .val (.ref b357), .val (.int (1 : Int32))] [(.int (0 : Int32))]))
            exact (hc546 ⟨((smP_iff r_nl r13).mp hc425).symm, ((smP_iff r_pl r16).mp hc442).symm⟩).elim
        · have F535 := F448.keep K534
          have F536 := F449.keep K534 nin0 nin0
          have F537 := F450.keep K534 nin0 nin0
          have F538 := F451.keep K534 nin0
          have F539 := F452.keep K534 nin0
          have F540 := F453.keep K534
          have F541 := F454.keep K534 nin0 nin0
          have F542 := F455.keep K534 nin0 nin0
          have F543 := F456.keep K534 nin0
          have F544 := F457.keep K534 nin0
          show Goes p.tables e below _ (T530.setTop (mkF m 313 #[.val (.int p0), .val (.int p1), .val (.int p2), .val (.int p3), .val (.int p4), .val (.int nl), .val (.int na), .val (.int nb), .val (.int pl), .val (.int pa), .val (.int pb), .val (.int x11), .val (.int x12), .val (.int x13), .val (.int x14), .val (.int x15), .val (.int x16), .val (.int x17), .val (.int x18), .val (.int x19), .val (.ref b311), .val (.ref b357), .val (.int (1 : Int32))] [(.int (0 : Int32))]))
          exact (hc529 ⟨(smP_iff r_nl r13).mp hc425, (smP_iff r_pl r16).mp hc442⟩).elim
      · have F448 := F431.keep K447
        have F449 := F432.keep K447 nin0 nin0
        have F450 := F433.keep K447 nin0 nin0
        have F451 := F434.keep K447 nin0
        have F452 := F435.keep K447 nin0
        have F453 := F436.keep K447
        have F454 := F437.keep K447 nin0 nin0
        have F455 := F438.keep K447 nin0 nin0
        have F456 := F439.keep K447 nin0
        have F457 := F440.keep K447 nin0
        show Goes p.tables e below _ (T443.setTop (mkF m 296 #[.val (.int p0), .val (.int p1), .val (.int p2), .val (.int p3), .val (.int p4), .val (.int nl), .val (.int na), .val (.int nb), .val (.int pl), .val (.int pa), .val (.int pb), .val (.int x11), .val (.int x12), .val (.int x13), .val (.int x14), .val (.int x15), .val (.int x16), .val (.int x17), .val (.int x18), .val (.int x19), .val (.ref b311), .val (.ref b357), .unset] [(.int (0 : Int32))]))
        refine X446.if_eq 303 (D at_296) ⟨by decide, by decide⟩ (fun hc493 => ?_) (fun hc493 => absurd hc493 (by decide))
        refine X446.iconst (x := (0 : Int32)) (D at_303) rfl ?_
        refine X446.istore #[.val (.int p0), .val (.int p1), .val (.int p2), .val (.int p3), .val (.int p4), .val (.int nl), .val (.int na), .val (.int nb), .val (.int pl), .val (.int pa), .val (.int pb), .val (.int x11), .val (.int x12), .val (.int x13), .val (.int x14), .val (.int x15), .val (.int x16), .val (.int x17), .val (.int x18), .val (.int x19), .val (.ref b311), .val (.ref b357), .val (.int (0 : Int32))] (D at_304) rfl ?_
        refine X446.aload (x := (.ref b311)) (D at_306) rfl rfl ?_
        refine X446.aload (x := (.ref b357)) (D at_308) rfl rfl ?_
        refine X446.callv (y := (⟨"com/example/bordershare/bordershare/model/Zone", "equals", "(Ljava/lang/Object;)Z"⟩ : MethodName)) (a := b311) (C := "com/example/bordershare/bordershare/model/Zone") [(.ref b357)] [] (ctEq l Z a0 hw hEL z0 S0 hz0 b311 b357 s320 t321 s331 t332 s376 t377 s392 t393 _ _ _ _ _ _ F448 F453 F451 F452 F456 F457 F449 F450 F454 F455) F448 (w 51 rfl) (w 52 rfl) (w 54 rfl) (w 53 rfl) (w 2 rfl) (w 55 rfl) (by decide) (fun _ q => nomatch q) (by decide) 0 (by decide) (by decide) (by decide) (lenOf pd_7 rfl) rfl (Nat.le_of_ble_eq_true rfl) (by rw [hml]; rfl) (D at_310) ?_
        rintro T495 h496 _ X498 K499 (⟨rfl, hc494⟩ | ⟨rfl, hc494⟩)
        · have F500 := F448.keep K499
          have F501 := F449.keep K499 nin0 nin0
          have F502 := F450.keep K499 nin0 nin0
          have F503 := F451.keep K499 nin0
          have F504 := F452.keep K499 nin0
          have F505 := F453.keep K499
          have F506 := F454.keep K499 nin0 nin0
          have F507 := F455.keep K499 nin0 nin0
          have F508 := F456.keep K499 nin0
          have F509 := F457.keep K499 nin0
          show Goes p.tables e below _ (T495.setTop (mkF m 313 #[.val (.int p0), .val (.int p1), .val (.int p2), .val (.int p3), .val (.int p4), .val (.int nl), .val (.int na), .val (.int nb), .val (.int pl), .val (.int pa), .val (.int pb), .val (.int x11), .val (.int x12), .val (.int x13), .val (.int x14), .val (.int x15), .val (.int x16), .val (.int x17), .val (.int x18), .val (.int x19), .val (.ref b311), .val (.ref b357), .val (.int (0 : Int32))] [(.int (1 : Int32))]))
          exact ((fun q => hc442 ((smP_iff r_pl r16).mpr q.2)) hc494).elim
        · have F500 := F448.keep K499
          have F501 := F449.keep K499 nin0 nin0
          have F502 := F450.keep K499 nin0 nin0
          have F503 := F451.keep K499 nin0
          have F504 := F452.keep K499 nin0
          have F505 := F453.keep K499
          have F506 := F454.keep K499 nin0 nin0
          have F507 := F455.keep K499 nin0 nin0
          have F508 := F456.keep K499 nin0
          have F509 := F457.keep K499 nin0
          show Goes p.tables e below _ (T495.setTop (mkF m 313 #[.val (.int p0), .val (.int p1), .val (.int p2), .val (.int p3), .val (.int p4), .val (.int nl), .val (.int na), .val (.int nb), .val (.int pl), .val (.int pa), .val (.int pb), .val (.int x11), .val (.int x12), .val (.int x13), .val (.int x14), .val (.int x15), .val (.int x16), .val (.int x17), .val (.int x18), .val (.int x19), .val (.ref b311), .val (.ref b357), .val (.int (0 : Int32))] [(.int (0 : Int32))]))
          refine X498.iload (x := (0 : Int32)) (D at_313) rfl ?_
          refine X498.icmp_ne 334 (D at_315) ⟨by decide, by decide⟩ (fun hc510 => absurd hc510 (by decide)) (fun hc510 => ?_)
          refine X498.aload (x := (.ref b357)) (D at_318) rfl rfl ?_
          refine X498.aload (x := (.ref b311)) (D at_320) rfl rfl ?_
          refine X498.callv (y := (⟨"com/example/bordershare/bordershare/model/Zone", "equals", "(Ljava/lang/Object;)Z"⟩ : MethodName)) (a := b357) (C := "com/example/bordershare/bordershare/model/Zone") [(.ref b311)] [] (ctEq l Z a0 hw hEL z0 S0 hz0 b357 b311 s376 t377 s392 t393 s320 t321 s331 t332 _ _ _ _ _ _ F505 F500 F508 F509 F503 F504 F506 F507 F501 F502) F505 (w 51 rfl) (w 52 rfl) (w 54 rfl) (w 53 rfl) (w 2 rfl) (w 55 rfl) (by decide) (fun _ q => nomatch q) (by decide) 0 (by decide) (by decide) (by decide) (lenOf pd_7 rfl) rfl (Nat.le_of_ble_eq_true rfl) (by rw [hml]; rfl) (D at_322) ?_
          rintro T512 h513 _ X515 K516 (⟨rfl, hc511⟩ | ⟨rfl, hc511⟩)
          · have F517 := F500.keep K516
            have F518 := F501.keep K516 nin0 nin0
            have F519 := F502.keep K516 nin0 nin0
            have F520 := F503.keep K516 nin0
            have F521 := F504.keep K516 nin0
            have F522 := F505.keep K516
            have F523 := F506.keep K516 nin0 nin0
            have F524 := F507.keep K516 nin0 nin0
            have F525 := F508.keep K516 nin0
            have F526 := F509.keep K516 nin0
            show Goes p.tables e below _ (T512.setTop (mkF m 325 #[.val (.int p0), .val (.int p1), .val (.int p2), .val (.int p3), .val (.int p4), .val (.int nl), .val (.int na), .val (.int nb), .val (.int pl), .val (.int pa), .val (.int pb), .val (.int x11), .val (.int x12), .val (.int x13), .val (.int x14), .val (.int x15), .val (.int x16), .val (.int x17), .val (.int x18), .val (.int x19), .val (.ref b311), .val (.ref b357), .val (.int (0 : Int32))] [(.int (1 : Int32))]))
            exact (hc442 ((smP_iff r_pl r16).mpr hc511.2.symm)).elim
          · have F517 := F500.keep K516
            have F518 := F501.keep K516 nin0 nin0
            have F519 := F502.keep K516 nin0 nin0
            have F520 := F503.keep K516 nin0
            have F521 := F504.keep K516 nin0
            have F522 := F505.keep K516
            have F523 := F506.keep K516 nin0 nin0
            have F524 := F507.keep K516 nin0 nin0
            have F525 := F508.keep K516 nin0
            have F526 := F509.keep K516 nin0
            show Goes p.tables e below _ (T512.setTop (mkF m 325 #[.val (.int p0), .val (.int p1), .val (.int p2), .val (.int p3), .val (.int p4), .val (.int nl), .val (.int na), .val (.int nb), .val (.int pl), .val (.int pa), .val (.int pb), .val (.int x11), .val (.int x12), .val (.int x13), .val (.int x14), .val (.int x15), .val (.int x16), .val (.int x17), .val (.int x18), .val (.int x19), .val (.ref b311), .val (.ref b357), .val (.int (0 : Int32))] [(.int (0 : Int32))]))
            refine X515.iload (x := (0 : Int32)) (D at_325) rfl ?_
            refine X515.icmp_ne 334 (D at_327) ⟨by decide, by decide⟩ (fun hc527 => absurd hc527 (by decide)) (fun hc527 => ?_)
            refine X515.iconst (x := (1 : Int32)) (D at_330) rfl ?_
            refine X515.goto 335 (D at_331) ⟨by decide, by decide⟩ ?_
            exact X515.reti hret (by simp) hlk (D at_335) (by decide) (by decide) (rfl)
    · have F431 := F417.keep K430
      have F432 := F418.keep K430 nin0 nin0
      have F433 := F419.keep K430 nin0 nin0
      have F434 := F420.keep K430 nin0
      have F435 := F421.keep K430 nin0
      have F436 := G409.keep K430
      have F437 := F423.keep K430 nin0 nin0
      have F438 := F424.keep K430 nin0 nin0
      have F439 := G410.keep K430 nin0
      have F440 := G411.keep K430 nin0
      show Goes p.tables e below _ (T426.setTop (mkF m 278 #[.val (.int p0), .val (.int p1), .val (.int p2), .val (.int p3), .val (.int p4), .val (.int nl), .val (.int na), .val (.int nb), .val (.int pl), .val (.int pa), .val (.int pb), .val (.int x11), .val (.int x12), .val (.int x13), .val (.int x14), .val (.int x15), .val (.int x16), .val (.int x17), .val (.int x18), .val (.int x19), .val (.ref b311), .val (.ref b357), .unset] [(.int (0 : Int32))]))
      refine X429.if_eq 303 (D at_278) ⟨by decide, by decide⟩ (fun hc458 => ?_) (fun hc458 => absurd hc458 (by decide))
      refine X429.iconst (x := (0 : Int32)) (D at_303) rfl ?_
      refine X429.istore #[.val (.int p0), .val (.int p1), .val (.int p2), .val (.int p3), .val (.int p4), .val (.int nl), .val (.int na), .val (.int nb), .val (.int pl), .val (.int pa), .val (.int pb), .val (.int x11), .val (.int x12), .val (.int x13), .val (.int x14), .val (.int x15), .val (.int x16), .val (.int x17), .val (.int x18), .val (.int x19), .val (.ref b311), .val (.ref b357), .val (.int (0 : Int32))] (D at_304) rfl ?_
      refine X429.aload (x := (.ref b311)) (D at_306) rfl rfl ?_
      refine X429.aload (x := (.ref b357)) (D at_308) rfl rfl ?_
      refine X429.callv (y := (⟨"com/example/bordershare/bordershare/model/Zone", "equals", "(Ljava/lang/Object;)Z"⟩ : MethodName)) (a := b311) (C := "com/example/bordershare/bordershare/model/Zone") [(.ref b357)] [] (ctEq l Z a0 hw hEL z0 S0 hz0 b311 b357 s320 t321 s331 t332 s376 t377 s392 t393 _ _ _ _ _ _ F431 F436 F434 F435 F439 F440 F432 F433 F437 F438) F431 (w 51 rfl) (w 52 rfl) (w 54 rfl) (w 53 rfl) (w 2 rfl) (w 55 rfl) (by decide) (fun _ q => nomatch q) (by decide) 0 (by decide) (by decide) (by decide) (lenOf pd_7 rfl) rfl (Nat.le_of_ble_eq_true rfl) (by rw [hml]; rfl) (D at_310) ?_
      rintro T460 h461 _ X463 K464 (⟨rfl, hc459⟩ | ⟨rfl, hc459⟩)
      · have F465 := F431.keep K464
        have F466 := F432.keep K464 nin0 nin0
        have F467 := F433.keep K464 nin0 nin0
        have F468 := F434.keep K464 nin0
        have F469 := F435.keep K464 nin0
        have F470 := F436.keep K464
        have F471 := F437.keep K464 nin0 nin0
        have F472 := F438.keep K464 nin0 nin0
        have F473 := F439.keep K464 nin0
        have F474 := F440.keep K464 nin0
        show Goes p.tables e below _ (T460.setTop (mkF m 313 #[.val (.int p0), .val (.int p1), .val (.int p2), .val (.int p3), .val (.int p4), .val (.int nl), .val (.int na), .val (.int nb), .val (.int pl), .val (.int pa), .val (.int pb), .val (.int x11), .val (.int x12), .val (.int x13), .val (.int x14), .val (.int x15), .val (.int x16), .val (.int x17), .val (.int x18), .val (.int x19), .val (.ref b311), .val (.ref b357), .val (.int (0 : Int32))] [(.int (1 : Int32))]))
        exact ((fun q => hc425 ((smP_iff r_nl r13).mpr q.1)) hc459).elim
      · have F465 := F431.keep K464
        have F466 := F432.keep K464 nin0 nin0
        have F467 := F433.keep K464 nin0 nin0
        have F468 := F434.keep K464 nin0
        have F469 := F435.keep K464 nin0
        have F470 := F436.keep K464
        have F471 := F437.keep K464 nin0 nin0
        have F472 := F438.keep K464 nin0 nin0
        have F473 := F439.keep K464 nin0
        have F474 := F440.keep K464 nin0
        show Goes p.tables e below _ (T460.setTop (mkF m 313 #[.val (.int p0), .val (.int p1), .val (.int p2), .val (.int p3), .val (.int p4), .val (.int nl), .val (.int na), .val (.int nb), .val (.int pl), .val (.int pa), .val (.int pb), .val (.int x11), .val (.int x12), .val (.int x13), .val (.int x14), .val (.int x15), .val (.int x16), .val (.int x17), .val (.int x18), .val (.int x19), .val (.ref b311), .val (.ref b357), .val (.int (0 : Int32))] [(.int (0 : Int32))]))
        refine X463.iload (x := (0 : Int32)) (D at_313) rfl ?_
        refine X463.icmp_ne 334 (D at_315) ⟨by decide, by decide⟩ (fun hc475 => absurd hc475 (by decide)) (fun hc475 => ?_)
        refine X463.aload (x := (.ref b357)) (D at_318) rfl rfl ?_
        refine X463.aload (x := (.ref b311)) (D at_320) rfl rfl ?_
        refine X463.callv (y := (⟨"com/example/bordershare/bordershare/model/Zone", "equals", "(Ljava/lang/Object;)Z"⟩ : MethodName)) (a := b357) (C := "com/example/bordershare/bordershare/model/Zone") [(.ref b311)] [] (ctEq l Z a0 hw hEL z0 S0 hz0 b357 b311 s376 t377 s392 t393 s320 t321 s331 t332 _ _ _ _ _ _ F470 F465 F473 F474 F468 F469 F471 F472 F466 F467) F470 (w 51 rfl) (w 52 rfl) (w 54 rfl) (w 53 rfl) (w 2 rfl) (w 55 rfl) (by decide) (fun _ q => nomatch q) (by decide) 0 (by decide) (by decide) (by decide) (lenOf pd_7 rfl) rfl (Nat.le_of_ble_eq_true rfl) (by rw [hml]; rfl) (D at_322) ?_
        rintro T477 h478 _ X480 K481 (⟨rfl, hc476⟩ | ⟨rfl, hc476⟩)
        · have F482 := F465.keep K481
          have F483 := F466.keep K481 nin0 nin0
          have F484 := F467.keep K481 nin0 nin0
          have F485 := F468.keep K481 nin0
          have F486 := F469.keep K481 nin0
          have F487 := F470.keep K481
          have F488 := F471.keep K481 nin0 nin0
          have F489 := F472.keep K481 nin0 nin0
          have F490 := F473.keep K481 nin0
          have F491 := F474.keep K481 nin0
          show Goes p.tables e below _ (T477.setTop (mkF m 325 #[.val (.int p0), .val (.int p1), .val (.int p2), .val (.int p3), .val (.int p4), .val (.int nl), .val (.int na), .val (.int nb), .val (.int pl), .val (.int pa), .val (.int pb), .val (.int x11), .val (.int x12), .val (.int x13), .val (.int x14), .val (.int x15), .val (.int x16), .val (.int x17), .val (.int x18), .val (.int x19), .val (.ref b311), .val (.ref b357), .val (.int (0 : Int32))] [(.int (1 : Int32))]))
          exact (hc425 ((smP_iff r_nl r13).mpr hc476.1.symm)).elim
        · have F482 := F465.keep K481
          have F483 := F466.keep K481 nin0 nin0
          have F484 := F467.keep K481 nin0 nin0
          have F485 := F468.keep K481 nin0
          have F486 := F469.keep K481 nin0
          have F487 := F470.keep K481
          have F488 := F471.keep K481 nin0 nin0
          have F489 := F472.keep K481 nin0 nin0
          have F490 := F473.keep K481 nin0
          have F491 := F474.keep K481 nin0
          show Goes p.tables e below _ (T477.setTop (mkF m 325 #[.val (.int p0), .val (.int p1), .val (.int p2), .val (.int p3), .val (.int p4), .val (.int nl), .val (.int na), .val (.int nb), .val (.int pl), .val (.int pa), .val (.int pb), .val (.int x11), .val (.int x12), .val (.int x13), .val (.int x14), .val (.int x15), .val (.int x16), .val (.int x17), .val (.int x18), .val (.int x19), .val (.ref b311), .val (.ref b357), .val (.int (0 : Int32))] [(.int (0 : Int32))]))
          refine X480.iload (x := (0 : Int32)) (D at_325) rfl ?_
          refine X480.icmp_ne 334 (D at_327) ⟨by decide, by decide⟩ (fun hc492 => absurd hc492 (by decide)) (fun hc492 => ?_)
          refine X480.iconst (x := (1 : Int32)) (D at_330) rfl ?_
          refine X480.goto 335 (D at_331) ⟨by decide, by decide⟩ ?_
          exact X480.reti hret (by simp) hlk (D at_335) (by decide) (by decide) (rfl)
set_option maxRecDepth 65536 in
set_option maxHeartbeats 40000000 in
theorem comes_1 {Post : Tables → Env → Array Value → State → Outcome → State → Prop} (hpost : ∀ tb e args s v u, (limb_1_1.after args s (.returned v) u = true ∧ limb_1_2.after args s (.returned v) u = true ∧ True) → ReturnedEndW s (.returned v) u (Jvm.fieldLocs frame_1_writes args s ++ Jvm.arrayLocs frame_1_arrays args s ++ Jvm.staticLocs frame_1_statics s) room_1.cells room_1.slots → Post tb e args s (.returned v) u) :
    ArmFor flags0 classFile x code maxLocals ret World_1 tables_1 room_1 Calls_1 rest_1 Pre_1 Post := by
  intro l hfl _ _ p e ha hc hk s m args below hf hA hF happ hP
  obtain ⟨hcalls, hrest, hpre⟩ := hP
  obtain ⟨-, -, -, hnamed, -, -, -, hat⟩ := (Spec.applies_iff hf).mp happ
  obtain ⟨hg, hn⟩ := and_e (Cond.before_iff.mp (show (Jvm.Cond.and given_1 narrow_1).before args s = true from hpre))
  obtain ⟨g0, hg0⟩ := and_e hg
  obtain ⟨g1, hg1⟩ := and_e hg0
  obtain ⟨g2, hg2⟩ := and_e hg1
  obtain ⟨g3, hg3⟩ := and_e hg2
  obtain ⟨g4, hg4⟩ := and_e hg3
  obtain ⟨w0, w1, w2, w3, w4, rfl⟩ : ∃ w0 w1 w2 w3 w4 : Value, args = #[w0, w1, w2, w3, w4] := by
    have hs : args.size = 5 := by simpa [Cond.value, given_1] using g0
    obtain ⟨L⟩ := args
    match L, hs with
    | [w0, w1, w2, w3, w4], _ => exact ⟨w0, w1, w2, w3, w4, rfl⟩
  have hw := fun d (hd : d ∈ tables_1) => atoms_spec (ws := Jvm.Cond.code x code maxLocals ret :: tables_1) hat d (List.mem_cons_of_mem _ hd)
  have hfit : Fit s := fun {y c} hc i hi => by
    obtain ⟨ha, rfl⟩ := Array.getElem?_eq_some_iff.mp hc
    have q := List.all_eq_true.mp ((Array.all_eq_true_iff_forall_mem.mp hF) _ (Array.getElem_mem ha)) i (List.mem_range.mpr hi)
    simpa [Array.getElem?_eq_getElem hi] using q
  obtain ⟨hsets, hown0⟩ := atoms_of _ (rest_1_c_eq ▸ (show rest_1_c.before _ s = true from hrest))
  obtain ⟨p0, ep0⟩ := is_v g1
  obtain rfl : w0 = (.int p0) := Option.some.inj ep0
  obtain ⟨p1, ep1⟩ := is_v g2
  obtain rfl : w1 = (.int p1) := Option.some.inj ep1
  obtain ⟨p2, ep2⟩ := is_v g3
  obtain rfl : w2 = (.int p2) := Option.some.inj ep2
  obtain ⟨p3, ep3⟩ := is_v g4
  obtain rfl : w3 = (.int p3) := Option.some.inj ep3
  obtain ⟨p4, ep4⟩ := is_v hg4
  obtain rfl : w4 = (.int p4) := Option.some.inj ep4
  obtain ⟨z0, ez0⟩ := is_v (Cond.before_iff.mp (hsets (Jvm.Cond.isInt (.static "java/lang/String" "COMPACT_STRINGS" "Z")) (by decide +kernel)))
  have S0 : Sta s s.heap "java/lang/String" "COMPACT_STRINGS" "Z" (.int z0) := Sta.start ez0 (Or.inl (hsets (Jvm.Cond.initializedFor "java/lang/String" "COMPACT_STRINGS" "Z") (by decide +kernel)))
  have hcw := hsets (Jvm.Cond.not (.eq (.static "java/lang/String" "COMPACT_STRINGS" "Z") (.int (0 : Int32)))) (by decide +kernel)
  have hz0 : ¬ z0 = 0 := by
    have q1 := not_v (Cond.before_iff.mp hcw)
    intro q; subst q
    rw [eq_i ez0 (Term.int_eval (0 : Int32)) rfl] at q1; cases q1
  have hEL := hEL_of (Z := s) hw
  have H0 : CHv s consts_1 s.vm s.heap := CHv.start hEL (fun q hq => hcalls.1 q hq) hcw (hw _ (by decide +kernel)) (hw _ (by decide +kernel))
  obtain ⟨n, o, h1, h2, h3, _, L, rfl, ⟨rfl, N, -, -⟩, -, hq⟩ := ctLaw l s _ hw hEL z0 S0 hz0 p0 p1 p2 p3 p4  s.heap s.heap.size  p e ha hc hk s m _ below hf ((Spec.applies_iff_loose hf).mp happ).1 ⟨rfl, State.Warmed39.refl s, rfl, H0, Old.start s, fun _ q => nomatch q⟩ trivial
  exact ⟨n, _, h1, h2, h3, hpost _ _ _ _ _ _ ⟨Cond.after_iff.mpr rfl, Cond.after_iff.mpr (eq_i res_at (Term.int_eval (1)) rfl), trivial⟩ ⟨hq.1, hq.2.1, hq.2.2.1, (hq.2.2.2.sift fun y hy => Or.inr (N y hy))⟩⟩
theorem main_1_1 : Claimed_1_1 := comes_1 fun _ _ _ _ _ _ h hF => ⟨h.1, hF⟩
theorem main_1_2 : Claimed_1_2 := comes_1 fun _ _ _ _ _ _ h hF => ⟨h.2.1, hF⟩
end Jvm.Pilot.@@N@@
namespace Jvm.Pilot.@@N@@
open Jvm Jvm.ClassFile Sem Op Lib Jvm.Free Jvm.Stand Jvm.Pilot.@@N@@.Jvm.D
/-! MADE BY PROGRAM (witnessworld.py) out of the Statement's table words and the real class files: 22 classes; the members and pool entries that the words name. The judged class is class 1, her method 3. -/
namespace start1
open Jvm.ClassFile
def u (s : String) : CpInfo := .utf8 (stringToUtf16 s)
/-- a pool by its gaps: so many unusable entries, then the entry; so many at the end -/
def gap : Nat → List CpInfo → List CpInfo
  | 0, r => r
  | n + 1, r => .unusable :: gap n r
def poolList (es : List (Nat × CpInfo)) (last : Nat) : List CpInfo := es.foldr (fun e r => gap e.1 (e.2 :: r)) (gap last [])
def pool (es : List (Nat × CpInfo)) (last : Nat) : Array CpInfo := ⟨poolList es last⟩
def fileOf (pool : Array CpInfo) (this : Nat) (attrs : Array Attribute := #[]) (ms : Array MethodInfo := #[]) (fl : Nat := 33) (sup : Nat := 0) (ifs : Array Nat := #[]) (fds : Array FieldInfo := #[]) : ClassFile where
  minorVersion := 0
  majorVersion := 65
  constantPool := pool
  accessFlags := fl
  thisClass := this
  superClass := sup
  interfaces := ifs
  fields := fds
  methods := ms
  attributes := attrs
def plain (name : String) (sup : Option ClassId) : Class where
  name := name
  kind := .ordinary
  loader := none
  accessFlags := 33
  super := sup
  interfaces := #[]
  cf := none
  fields := #[]
  methods := #[]
  instanceTypes := #[]
  staticTypes := #[]
  resolved := #[]
  callSites := []
  init := .initialized
  statics := none
  mirror := none

def pool0 : Array CpInfo := pool [(5, u "<init>"), (0, u "()V"), (1, .class_ 10), (1, u "java/lang/Object")] 113

def k0c0 : Code := { maxStack := 0, maxLocals := 1, code := object_method_1_code, exceptionTable := #[], attributes := #[] }
def k0m0 : Method := { name := "<init>", desc := "()V", sig := { parameters := [], returnType := none }, accessFlags := 1, code := some k0c0 }
/-- java/lang/Object -/
def k0 : Class := { plain "java/lang/Object" none with
  accessFlags := 33
  interfaces := #[]
  cf := some (fileOf pool0 8 #[] #[{ accessFlags := 1, nameIndex := 5, descriptorIndex := 6, attributes := #[] }] 33 0 #[] #[])
  fields := #[]
  methods := #[k0m0]
  instanceTypes := #[]
  staticTypes := #[]
  resolved := Array.replicate 124 none
  statics := none }

def pool1 : Array CpInfo := pool [(2, .class_ 4), (1, u "java/lang/Object"), (0, u "<init>"), (0, u "()V"), (0, .class_ 8), (0, u "java/lang/String"), (0, .methodref 7 10), (0, .nameAndType 5 11), (0, u "([C)V"), (0, .class_ 13), (0, u "com/example/bordershare/bordershare/model/Zone"), (0, .methodref 15 16), (0, .class_ 17), (0, .nameAndType 18 19), (0, u "com/example/bordershare/bordershare/model/ZoneEqualsPinLaw"), (0, u "mk"), (0, u "(III)Ljava/lang/String;"), (0, .methodref 12 21), (0, .nameAndType 5 22), (0, u "(Ljava/lang/String;Ljava/lang/String;)V"), (0, .methodref 15 24), (0, .nameAndType 25 26), (0, u "same"), (0, u "(IIIIII)Z"), (0, .methodref 12 28), (0, .nameAndType 29 30), (0, u "equals"), (0, u "(Ljava/lang/Object;)Z"), (3, u "law"), (0, u "(IIIII)Z")] 2

def k1m0 : Method := { name := "<init>", desc := "()V", sig := { parameters := [], returnType := none }, accessFlags := 1, code := none }
def k1c1 : Code := { maxStack := 3, maxLocals := 4, code := method_2_code, exceptionTable := #[], attributes := #[] }
def k1m1 : Method := { name := "mk", desc := "(III)Ljava/lang/String;", sig := { parameters := [.int, .int, .int], returnType := some (.object "java/lang/String") }, accessFlags := 10, code := some k1c1 }
def k1c2 : Code := { maxStack := 2, maxLocals := 6, code := method_3_code, exceptionTable := #[], attributes := #[] }
def k1m2 : Method := { name := "same", desc := "(IIIIII)Z", sig := { parameters := [.int, .int, .int, .int, .int, .int], returnType := some .boolean }, accessFlags := 10, code := some k1c2 }
def k1c3 : Code := { maxStack := 6, maxLocals := 23, code := code, exceptionTable := #[], attributes := #[] }
def k1m3 : Method := { name := "law", desc := "(IIIII)Z", sig := { parameters := [.int, .int, .int, .int, .int], returnType := some .boolean }, accessFlags := 9, code := some k1c3 }
/-- com/example/bordershare/bordershare/model/ZoneEqualsPinLaw -/
def k1 : Class := { plain "com/example/bordershare/bordershare/model/ZoneEqualsPinLaw" (some 0) with
  accessFlags := 49
  interfaces := #[]
  cf := some (fileOf pool1 15 #[] #[{ accessFlags := 1, nameIndex := 5, descriptorIndex := 6, attributes := #[] }, { accessFlags := 10, nameIndex := 18, descriptorIndex := 19, attributes := #[] }, { accessFlags := 10, nameIndex := 25, descriptorIndex := 26, attributes := #[] }, { accessFlags := 9, nameIndex := 34, descriptorIndex := 35, attributes := #[] }] 49 2 #[] #[])
  fields := #[]
  methods := #[k1m0, k1m1, k1m2, k1m3]
  instanceTypes := #[]
  staticTypes := #[]
  resolved := Array.replicate 38 none
  statics := none }

def pool2 : Array CpInfo := pool [(1, .methodref 2 3), (0, .class_ 4), (0, .nameAndType 5 6), (0, u "java/lang/Object"), (0, u "<init>"), (0, u "()V"), (0, .class_ 8), (0, u "java/lang/Record")] 13

def k2c0 : Code := { maxStack := 1, maxLocals := 1, code := jdk_30_method_1_code, exceptionTable := #[], attributes := #[] }
def k2m0 : Method := { name := "<init>", desc := "()V", sig := { parameters := [], returnType := none }, accessFlags := 4, code := some k2c0 }
/-- java/lang/Record -/
def k2 : Class := { plain "java/lang/Record" (some 0) with
  accessFlags := 1057
  interfaces := #[]
  cf := some (fileOf pool2 7 #[] #[{ accessFlags := 4, nameIndex := 5, descriptorIndex := 6, attributes := #[] }] 1057 2 #[] #[])
  fields := #[]
  methods := #[k2m0]
  instanceTypes := #[]
  staticTypes := #[]
  resolved := Array.replicate 22 none
  statics := none }

def pool3 : Array CpInfo := pool [(1, .methodref 2 3), (0, .class_ 4), (0, .nameAndType 5 6), (0, u "java/lang/Record"), (0, u "<init>"), (0, u "()V"), (0, .string 8), (0, u "name"), (0, .methodref 10 11), (0, .class_ 12), (0, .nameAndType 13 14), (0, u "java/util/Objects"), (0, u "requireNonNull"), (0, u "(Ljava/lang/Object;Ljava/lang/String;)Ljava/lang/Object;"), (0, .string 16), (0, u "party"), (0, .fieldref 18 19), (0, .class_ 20), (0, .nameAndType 8 21), (0, u "com/example/bordershare/bordershare/model/Zone"), (0, u "Ljava/lang/String;"), (0, .fieldref 18 23), (0, .nameAndType 16 21), (1, .class_ 27), (1, u "java/lang/String"), (2, .methodref 25 31), (0, .nameAndType 32 33), (0, u "equals"), (0, u "(Ljava/lang/Object;)Z"), (4, u "(Ljava/lang/String;Ljava/lang/String;)V")] 26

def k3c0 : Code := { maxStack := 2, maxLocals := 3, code := prog_41_method_1_code, exceptionTable := #[], attributes := #[] }
def k3m0 : Method := { name := "<init>", desc := "(Ljava/lang/String;Ljava/lang/String;)V", sig := { parameters := [(.object "java/lang/String"), (.object "java/lang/String")], returnType := none }, accessFlags := 1, code := some k3c0 }
def k3c1 : Code := { maxStack := 2, maxLocals := 3, code := prog_41_method_3_code, exceptionTable := #[], attributes := #[] }
def k3m1 : Method := { name := "equals", desc := "(Ljava/lang/Object;)Z", sig := { parameters := [(.object "java/lang/Object")], returnType := some .boolean }, accessFlags := 1, code := some k3c1 }
/-- com/example/bordershare/bordershare/model/Zone -/
def k3 : Class := { plain "com/example/bordershare/bordershare/model/Zone" (some 2) with
  accessFlags := 49
  interfaces := #[]
  cf := some (fileOf pool3 18 #[] #[{ accessFlags := 1, nameIndex := 5, descriptorIndex := 38, attributes := #[] }, { accessFlags := 1, nameIndex := 32, descriptorIndex := 33, attributes := #[] }] 49 2 #[] #[{ accessFlags := 18, nameIndex := 8, descriptorIndex := 21, attributes := #[] }, { accessFlags := 18, nameIndex := 16, descriptorIndex := 21, attributes := #[] }])
  fields := #[{ name := "name", type := (.object "java/lang/String"), accessFlags := 18, slot := 0, constantValue := 0 }, { name := "party", type := (.object "java/lang/String"), accessFlags := 18, slot := 1, constantValue := 0 }]
  methods := #[k3m0, k3m1]
  instanceTypes := #[(.object "java/lang/String"), (.object "java/lang/String")]
  staticTypes := #[]
  resolved := Array.replicate 65 none
  statics := none }

def pool4 : Array CpInfo := pool [(1, .class_ 2), (0, u "java/io/Serializable"), (0, .class_ 4), (0, u "java/lang/Object")] 2

/-- java/io/Serializable -/
def k4 : Class := { plain "java/io/Serializable" (some 0) with
  accessFlags := 1537
  interfaces := #[]
  cf := some (fileOf pool4 1 #[] #[] 1537 3 #[] #[])
  fields := #[]
  methods := #[]
  instanceTypes := #[]
  staticTypes := #[]
  resolved := Array.replicate 7 none
  statics := none }

def pool5 : Array CpInfo := pool [(1, .class_ 2), (0, u "java/lang/Comparable"), (0, .class_ 4), (0, u "java/lang/Object")] 7

/-- java/lang/Comparable -/
def k5 : Class := { plain "java/lang/Comparable" (some 0) with
  accessFlags := 1537
  interfaces := #[]
  cf := some (fileOf pool5 1 #[] #[] 1537 3 #[] #[])
  fields := #[]
  methods := #[]
  instanceTypes := #[]
  staticTypes := #[]
  resolved := Array.replicate 12 none
  statics := none }

def pool6 : Array CpInfo := pool [(2, .class_ 4), (1, u "java/lang/CharSequence"), (42, .class_ 48), (0, u "java/lang/CharSequence$1CodePointIterator"), (10, .class_ 60), (0, u "java/lang/CharSequence$1CharIterator"), (5, .class_ 67), (0, u "java/lang/Object")] 63

/-- java/lang/CharSequence -/
def k6 : Class := { plain "java/lang/CharSequence" (some 0) with
  accessFlags := 1537
  interfaces := #[]
  cf := some (fileOf pool6 2 #[.nestMembers #[47, 59]] #[] 1537 66 #[] #[])
  fields := #[]
  methods := #[]
  instanceTypes := #[]
  staticTypes := #[]
  resolved := Array.replicate 131 none
  statics := none }

def pool7 : Array CpInfo := pool [(1, .class_ 2), (0, u "java/lang/constant/Constable"), (0, .class_ 4), (0, u "java/lang/Object")] 6

/-- java/lang/constant/Constable -/
def k7 : Class := { plain "java/lang/constant/Constable" (some 0) with
  accessFlags := 1537
  interfaces := #[]
  cf := some (fileOf pool7 1 #[] #[] 1537 3 #[] #[])
  fields := #[]
  methods := #[]
  instanceTypes := #[]
  staticTypes := #[]
  resolved := Array.replicate 11 none
  statics := none }

def pool8 : Array CpInfo := pool [(1, .class_ 2), (0, u "java/lang/constant/ConstantDesc"), (0, .class_ 4), (0, u "java/lang/Object")] 32

/-- java/lang/constant/ConstantDesc -/
def k8 : Class := { plain "java/lang/constant/ConstantDesc" (some 0) with
  accessFlags := 1537
  interfaces := #[]
  cf := some (fileOf pool8 1 #[] #[] 1537 3 #[] #[])
  fields := #[]
  methods := #[]
  instanceTypes := #[]
  staticTypes := #[]
  resolved := Array.replicate 37 none
  statics := none }

def pool9 : Array CpInfo := pool [(1, .methodref 2 3), (0, .class_ 4), (0, .nameAndType 5 6), (0, u "java/lang/Object"), (0, u "<init>"), (0, u "()V"), (0, .string 8), (0, u ""), (0, .fieldref 10 11), (0, .class_ 12), (0, .nameAndType 13 14), (0, u "java/lang/String"), (0, u "value"), (0, u "[B"), (0, .fieldref 10 16), (0, .nameAndType 17 18), (0, u "coder"), (0, u "B"), (2, u "hash"), (0, u "I"), (2, u "hashIsZero"), (0, u "Z"), (0, .methodref 10 28), (0, .nameAndType 5 29), (0, u "([CIILjava/lang/Void;)V"), (8, .fieldref 10 39), (0, .nameAndType 40 26), (0, u "COMPACT_STRINGS"), (1, .class_ 44), (1, u "java/lang/StringUTF16"), (0, u "compress"), (1, .methodref 42 48), (0, .nameAndType 49 50), (0, u "coderFromArrayLen"), (0, u "([BI)B"), (56, .class_ 109), (1, u "java/lang/StringLatin1"), (67, .methodref 42 178), (0, .nameAndType 45 179), (0, u "([CII)[B"), (361, .methodref 107 542), (0, .nameAndType 543 544), (0, u "equals"), (0, u "([B[B)Z"), (28, u "(Ljava/lang/Object;)Z"), (1, .class_ 576), (0, u "java/lang/CharSequence"), (22, u "CASE_INSENSITIVE_ORDER"), (0, u "Ljava/util/Comparator;"), (409, u "([C)V"), (90, u "serialPersistentFields"), (0, u "[Ljava/io/ObjectStreamField;"), (0, .class_ 1104), (0, u "java/lang/String$CaseInsensitiveComparator"), (1, .class_ 1107), (0, u "java/io/Serializable"), (0, .class_ 1109), (0, u "java/lang/Comparable"), (0, .class_ 1111), (0, u "java/lang/constant/Constable"), (0, .class_ 1113), (0, u "java/lang/constant/ConstantDesc"), (2, u "serialVersionUID"), (0, u "J"), (3, u "REPL"), (0, u "C"), (2, u "LATIN1"), (1, u "UTF16")] 323

def k9m0 : Method := { name := "<init>", desc := "()V", sig := { parameters := [], returnType := none }, accessFlags := 1, code := none }
def k9c1 : Code := { maxStack := 5, maxLocals := 2, code := jdk_42_method_3_code, exceptionTable := #[], attributes := #[] }
def k9m1 : Method := { name := "<init>", desc := "([C)V", sig := { parameters := [(.array .char)], returnType := none }, accessFlags := 1, code := some k9c1 }
def k9c2 : Code := { maxStack := 2, maxLocals := 3, code := jdk_42_method_66_code, exceptionTable := #[], attributes := #[] }
def k9m2 : Method := { name := "equals", desc := "(Ljava/lang/Object;)Z", sig := { parameters := [(.object "java/lang/Object")], returnType := some .boolean }, accessFlags := 1, code := some k9c2 }
def k9c3 : Code := { maxStack := 4, maxLocals := 6, code := jdk_42_method_149_code, exceptionTable := #[], attributes := #[] }
def k9m3 : Method := { name := "<init>", desc := "([CIILjava/lang/Void;)V", sig := { parameters := [(.array .char), .int, .int, (.object "java/lang/Void")], returnType := none }, accessFlags := 2, code := some k9c3 }
/-- java/lang/String -/
def k9 : Class := { plain "java/lang/String" (some 0) with
  accessFlags := 49
  interfaces := #[4, 5, 6, 7, 8]
  cf := some (fileOf pool9 10 #[.nestMembers #[1103]] #[{ accessFlags := 1, nameIndex := 5, descriptorIndex := 6, attributes := #[] }, { accessFlags := 1, nameIndex := 5, descriptorIndex := 1010, attributes := #[] }, { accessFlags := 1, nameIndex := 543, descriptorIndex := 573, attributes := #[] }, { accessFlags := 2, nameIndex := 5, descriptorIndex := 29, attributes := #[] }] 49 2 #[1106, 1108, 575, 1110, 1112] #[{ accessFlags := 18, nameIndex := 13, descriptorIndex := 14, attributes := #[] }, { accessFlags := 18, nameIndex := 17, descriptorIndex := 18, attributes := #[] }, { accessFlags := 2, nameIndex := 21, descriptorIndex := 22, attributes := #[] }, { accessFlags := 2, nameIndex := 25, descriptorIndex := 26, attributes := #[] }, { accessFlags := 26, nameIndex := 1116, descriptorIndex := 1117, attributes := #[] }, { accessFlags := 24, nameIndex := 40, descriptorIndex := 26, attributes := #[] }, { accessFlags := 26, nameIndex := 1101, descriptorIndex := 1102, attributes := #[] }, { accessFlags := 26, nameIndex := 1121, descriptorIndex := 1122, attributes := #[] }, { accessFlags := 25, nameIndex := 599, descriptorIndex := 600, attributes := #[] }, { accessFlags := 24, nameIndex := 1125, descriptorIndex := 18, attributes := #[] }, { accessFlags := 24, nameIndex := 1127, descriptorIndex := 18, attributes := #[] }])
  fields := #[{ name := "value", type := (.array .byte), accessFlags := 18, slot := 0, constantValue := 0 }, { name := "coder", type := .byte, accessFlags := 18, slot := 1, constantValue := 0 }, { name := "hash", type := .int, accessFlags := 2, slot := 2, constantValue := 0 }, { name := "hashIsZero", type := .boolean, accessFlags := 2, slot := 3, constantValue := 0 }, { name := "serialVersionUID", type := .long, accessFlags := 26, slot := 0, constantValue := 0 }, { name := "COMPACT_STRINGS", type := .boolean, accessFlags := 24, slot := 1, constantValue := 0 }, { name := "serialPersistentFields", type := (.array (.object "java/io/ObjectStreamField")), accessFlags := 26, slot := 2, constantValue := 0 }, { name := "REPL", type := .char, accessFlags := 26, slot := 3, constantValue := 0 }, { name := "CASE_INSENSITIVE_ORDER", type := (.object "java/util/Comparator"), accessFlags := 25, slot := 4, constantValue := 0 }, { name := "LATIN1", type := .byte, accessFlags := 24, slot := 5, constantValue := 0 }, { name := "UTF16", type := .byte, accessFlags := 24, slot := 6, constantValue := 0 }]
  methods := #[k9m0, k9m1, k9m2, k9m3]
  instanceTypes := #[(.array .byte), .byte, .int, .boolean]
  staticTypes := #[.long, .boolean, (.array (.object "java/io/ObjectStreamField")), .char, (.object "java/util/Comparator"), .byte, .byte]
  resolved := Array.replicate 1451 none
  statics := some 0 }

def pool10 : Array CpInfo := pool [(2, .class_ 4), (1, u "java/lang/Object"), (0, u "<init>"), (0, u "()V"), (35, .class_ 44), (1, u "java/util/Objects"), (0, u "requireNonNull"), (48, u "(Ljava/lang/Object;Ljava/lang/String;)Ljava/lang/Object;")] 89

def k10m0 : Method := { name := "<init>", desc := "()V", sig := { parameters := [], returnType := none }, accessFlags := 2, code := none }
def k10c1 : Code := { maxStack := 3, maxLocals := 2, code := jdk_31_method_11_code, exceptionTable := #[], attributes := #[] }
def k10m1 : Method := { name := "requireNonNull", desc := "(Ljava/lang/Object;Ljava/lang/String;)Ljava/lang/Object;", sig := { parameters := [(.object "java/lang/Object"), (.object "java/lang/String")], returnType := some (.object "java/lang/Object") }, accessFlags := 9, code := some k10c1 }
/-- java/util/Objects -/
def k10 : Class := { plain "java/util/Objects" (some 0) with
  accessFlags := 49
  interfaces := #[]
  cf := some (fileOf pool10 42 #[] #[{ accessFlags := 2, nameIndex := 5, descriptorIndex := 6, attributes := #[] }, { accessFlags := 9, nameIndex := 45, descriptorIndex := 94, attributes := #[] }] 49 2 #[] #[])
  fields := #[]
  methods := #[k10m0, k10m1]
  instanceTypes := #[]
  staticTypes := #[]
  resolved := Array.replicate 184 none
  statics := none }

def pool11 : Array CpInfo := pool [(4, .class_ 6), (1, u "java/lang/Object"), (0, u "<init>"), (0, u "()V"), (5, .class_ 16), (1, u "java/lang/StringLatin1"), (104, u "$assertionsDisabled"), (0, u "Z"), (98, .class_ 223), (1, u "java/lang/StringLatin1$LinesSpliterator"), (57, u "equals"), (0, u "([B[B)Z"), (107, .class_ 391), (0, u "java/lang/StringLatin1$CharsSpliterator")] 3

def k11m0 : Method := { name := "<init>", desc := "()V", sig := { parameters := [], returnType := none }, accessFlags := 0, code := none }
def k11c1 : Code := { maxStack := 3, maxLocals := 3, code := jdk_43_method_13_code, exceptionTable := #[], attributes := #[] }
def k11m1 : Method := { name := "equals", desc := "([B[B)Z", sig := { parameters := [(.array .byte), (.array .byte)], returnType := some .boolean }, accessFlags := 9, code := some k11c1 }
/-- java/lang/StringLatin1 -/
def k11 : Class := { plain "java/lang/StringLatin1" (some 0) with
  accessFlags := 48
  interfaces := #[]
  cf := some (fileOf pool11 14 #[.nestMembers #[390, 221]] #[{ accessFlags := 0, nameIndex := 7, descriptorIndex := 8, attributes := #[] }, { accessFlags := 9, nameIndex := 281, descriptorIndex := 282, attributes := #[] }] 48 4 #[] #[{ accessFlags := 4120, nameIndex := 121, descriptorIndex := 122, attributes := #[] }])
  fields := #[{ name := "$assertionsDisabled", type := .boolean, accessFlags := 4120, slot := 0, constantValue := 0 }]
  methods := #[k11m0, k11m1]
  instanceTypes := #[]
  staticTypes := #[.boolean]
  resolved := Array.replicate 395 none
  statics := none }

def pool12 : Array CpInfo := pool [(6, .class_ 8), (1, u "java/lang/Object"), (0, u "<init>"), (0, u "()V"), (1, .class_ 14), (1, u "java/lang/StringUTF16"), (31, u "$assertionsDisabled"), (0, u "Z"), (13, u "HI_BYTE_SHIFT"), (0, u "I"), (2, u "LO_BYTE_SHIFT"), (49, .methodref 12 116), (0, .nameAndType 117 118), (0, u "compress"), (0, u "([CI[BII)I"), (3, u "([CII)[B"), (138, u "coderFromArrayLen"), (0, u "([BI)B"), (106, .class_ 371), (1, u "java/lang/StringUTF16$LinesSpliterator"), (58, u "MAX_LENGTH"), (196, .class_ 628), (0, u "java/lang/StringUTF16$CodePointsSpliterator"), (0, .class_ 630), (0, u "java/lang/StringUTF16$CharsSpliterator")] 4

def k12m0 : Method := { name := "<init>", desc := "()V", sig := { parameters := [], returnType := none }, accessFlags := 0, code := none }
def k12c1 : Code := { maxStack := 2, maxLocals := 2, code := jdk_52_method_15_code, exceptionTable := #[], attributes := #[] }
def k12m1 : Method := { name := "coderFromArrayLen", desc := "([BI)B", sig := { parameters := [(.array .byte), .int], returnType := some .byte }, accessFlags := 8, code := some k12c1 }
def k12c2 : Code := { maxStack := 5, maxLocals := 6, code := jdk_52_method_16_code, exceptionTable := #[], attributes := #[] }
def k12m2 : Method := { name := "compress", desc := "([CII)[B", sig := { parameters := [(.array .char), .int, .int], returnType := some (.array .byte) }, accessFlags := 9, code := some k12c2 }
def k12c3 : Code := { maxStack := 3, maxLocals := 7, code := jdk_52_method_21_code, exceptionTable := #[], attributes := #[] }
def k12m3 : Method := { name := "compress", desc := "([CI[BII)I", sig := { parameters := [(.array .char), .int, (.array .byte), .int, .int], returnType := some .int }, accessFlags := 9, code := some k12c3 }
/-- java/lang/StringUTF16 -/
def k12 : Class := { plain "java/lang/StringUTF16" (some 0) with
  accessFlags := 48
  interfaces := #[]
  cf := some (fileOf pool12 12 #[.nestMembers #[627, 629, 369]] #[{ accessFlags := 0, nameIndex := 9, descriptorIndex := 10, attributes := #[] }, { accessFlags := 8, nameIndex := 261, descriptorIndex := 262, attributes := #[] }, { accessFlags := 9, nameIndex := 117, descriptorIndex := 122, attributes := #[] }, { accessFlags := 9, nameIndex := 117, descriptorIndex := 118, attributes := #[] }] 48 6 #[] #[{ accessFlags := 26, nameIndex := 61, descriptorIndex := 62, attributes := #[] }, { accessFlags := 26, nameIndex := 65, descriptorIndex := 62, attributes := #[] }, { accessFlags := 24, nameIndex := 430, descriptorIndex := 62, attributes := #[] }, { accessFlags := 4120, nameIndex := 46, descriptorIndex := 47, attributes := #[] }])
  fields := #[{ name := "HI_BYTE_SHIFT", type := .int, accessFlags := 26, slot := 0, constantValue := 0 }, { name := "LO_BYTE_SHIFT", type := .int, accessFlags := 26, slot := 1, constantValue := 0 }, { name := "MAX_LENGTH", type := .int, accessFlags := 24, slot := 2, constantValue := 0 }, { name := "$assertionsDisabled", type := .boolean, accessFlags := 4120, slot := 3, constantValue := 0 }]
  methods := #[k12m0, k12m1, k12m2, k12m3]
  instanceTypes := #[]
  staticTypes := #[.int, .int, .int, .boolean]
  resolved := Array.replicate 635 none
  statics := none }

def pool13 : Array CpInfo := pool [(2, .class_ 4), (1, u "java/lang/Object"), (0, u "<init>"), (0, u "()V"), (17, .class_ 26), (1, u "jdk/internal/util/Preconditions"), (28, .class_ 56), (0, u "jdk/internal/util/Preconditions$4"), (57, .class_ 115), (0, u "jdk/internal/util/Preconditions$1"), (7, u "SIOOBE_FORMATTER"), (0, u "Ljava/util/function/BiFunction;"), (0, .class_ 126), (0, u "jdk/internal/util/Preconditions$2"), (3, u "AIOOBE_FORMATTER"), (0, .class_ 132), (0, u "jdk/internal/util/Preconditions$3"), (3, u "IOOBE_FORMATTER")] 57

def k13m0 : Method := { name := "<init>", desc := "()V", sig := { parameters := [], returnType := none }, accessFlags := 1, code := none }
/-- jdk/internal/util/Preconditions -/
def k13 : Class := { plain "jdk/internal/util/Preconditions" (some 0) with
  accessFlags := 33
  interfaces := #[]
  cf := some (fileOf pool13 24 #[.nestMembers #[55, 131, 125, 114]] #[{ accessFlags := 1, nameIndex := 5, descriptorIndex := 6, attributes := #[] }] 33 2 #[] #[{ accessFlags := 25, nameIndex := 123, descriptorIndex := 124, attributes := #[] }, { accessFlags := 25, nameIndex := 130, descriptorIndex := 124, attributes := #[] }, { accessFlags := 25, nameIndex := 136, descriptorIndex := 124, attributes := #[] }])
  fields := #[{ name := "SIOOBE_FORMATTER", type := (.object "java/util/function/BiFunction"), accessFlags := 25, slot := 0, constantValue := 0 }, { name := "AIOOBE_FORMATTER", type := (.object "java/util/function/BiFunction"), accessFlags := 25, slot := 1, constantValue := 0 }, { name := "IOOBE_FORMATTER", type := (.object "java/util/function/BiFunction"), accessFlags := 25, slot := 2, constantValue := 0 }]
  methods := #[k13m0]
  instanceTypes := #[]
  staticTypes := #[(.object "java/util/function/BiFunction"), (.object "java/util/function/BiFunction"), (.object "java/util/function/BiFunction")]
  resolved := Array.replicate 194 none
  statics := some 1 }

def pool14 : Array CpInfo := pool [(9, u "<init>"), (6, .class_ 18), (1, u "java/lang/Object"), (0, u "()V"), (1, .class_ 23), (1, u "jdk/internal/util/ArraysSupport"), (0, u "LOG2_ARRAY_LONG_INDEX_SCALE"), (0, u "I"), (2, u "U"), (0, u "Ljdk/internal/misc/Unsafe;"), (8, u "BIG_ENDIAN"), (0, u "Z"), (8, u "LOG2_BYTE_BIT_SIZE"), (4, u "LOG2_ARRAY_INT_INDEX_SCALE"), (54, u "JLA"), (0, u "Ljdk/internal/access/JavaLangAccess;"), (11, u "LOG2_ARRAY_BOOLEAN_INDEX_SCALE"), (9, u "LOG2_ARRAY_BYTE_INDEX_SCALE"), (5, u "LOG2_ARRAY_CHAR_INDEX_SCALE"), (5, u "LOG2_ARRAY_SHORT_INDEX_SCALE"), (18, u "LOG2_ARRAY_FLOAT_INDEX_SCALE"), (24, u "LOG2_ARRAY_DOUBLE_INDEX_SCALE"), (89, u "T_BOOLEAN"), (2, u "T_CHAR"), (1, u "T_FLOAT"), (1, u "T_DOUBLE"), (1, u "T_BYTE"), (1, u "T_SHORT"), (1, u "T_INT"), (1, u "T_LONG"), (1, u "SOFT_MAX_ARRAY_LENGTH")] 83

def k14m0 : Method := { name := "<init>", desc := "()V", sig := { parameters := [], returnType := none }, accessFlags := 2, code := none }
/-- jdk/internal/util/ArraysSupport -/
def k14 : Class := { plain "jdk/internal/util/ArraysSupport" (some 0) with
  accessFlags := 33
  interfaces := #[]
  cf := some (fileOf pool14 21 #[] #[{ accessFlags := 2, nameIndex := 9, descriptorIndex := 19, attributes := #[] }] 33 16 #[] #[{ accessFlags := 24, nameIndex := 28, descriptorIndex := 29, attributes := #[] }, { accessFlags := 26, nameIndex := 38, descriptorIndex := 39, attributes := #[] }, { accessFlags := 25, nameIndex := 121, descriptorIndex := 25, attributes := #[] }, { accessFlags := 25, nameIndex := 131, descriptorIndex := 25, attributes := #[] }, { accessFlags := 25, nameIndex := 137, descriptorIndex := 25, attributes := #[] }, { accessFlags := 25, nameIndex := 143, descriptorIndex := 25, attributes := #[] }, { accessFlags := 25, nameIndex := 53, descriptorIndex := 25, attributes := #[] }, { accessFlags := 25, nameIndex := 24, descriptorIndex := 25, attributes := #[] }, { accessFlags := 25, nameIndex := 162, descriptorIndex := 25, attributes := #[] }, { accessFlags := 25, nameIndex := 187, descriptorIndex := 25, attributes := #[] }, { accessFlags := 26, nameIndex := 48, descriptorIndex := 25, attributes := #[] }, { accessFlags := 25, nameIndex := 277, descriptorIndex := 25, attributes := #[] }, { accessFlags := 25, nameIndex := 280, descriptorIndex := 25, attributes := #[] }, { accessFlags := 25, nameIndex := 282, descriptorIndex := 25, attributes := #[] }, { accessFlags := 25, nameIndex := 284, descriptorIndex := 25, attributes := #[] }, { accessFlags := 25, nameIndex := 286, descriptorIndex := 25, attributes := #[] }, { accessFlags := 25, nameIndex := 288, descriptorIndex := 25, attributes := #[] }, { accessFlags := 25, nameIndex := 290, descriptorIndex := 25, attributes := #[] }, { accessFlags := 25, nameIndex := 292, descriptorIndex := 25, attributes := #[] }, { accessFlags := 26, nameIndex := 108, descriptorIndex := 109, attributes := #[] }, { accessFlags := 25, nameIndex := 294, descriptorIndex := 25, attributes := #[] }])
  fields := #[{ name := "U", type := (.object "jdk/internal/misc/Unsafe"), accessFlags := 24, slot := 0, constantValue := 0 }, { name := "BIG_ENDIAN", type := .boolean, accessFlags := 26, slot := 1, constantValue := 0 }, { name := "LOG2_ARRAY_BOOLEAN_INDEX_SCALE", type := .int, accessFlags := 25, slot := 2, constantValue := 0 }, { name := "LOG2_ARRAY_BYTE_INDEX_SCALE", type := .int, accessFlags := 25, slot := 3, constantValue := 0 }, { name := "LOG2_ARRAY_CHAR_INDEX_SCALE", type := .int, accessFlags := 25, slot := 4, constantValue := 0 }, { name := "LOG2_ARRAY_SHORT_INDEX_SCALE", type := .int, accessFlags := 25, slot := 5, constantValue := 0 }, { name := "LOG2_ARRAY_INT_INDEX_SCALE", type := .int, accessFlags := 25, slot := 6, constantValue := 0 }, { name := "LOG2_ARRAY_LONG_INDEX_SCALE", type := .int, accessFlags := 25, slot := 7, constantValue := 0 }, { name := "LOG2_ARRAY_FLOAT_INDEX_SCALE", type := .int, accessFlags := 25, slot := 8, constantValue := 0 }, { name := "LOG2_ARRAY_DOUBLE_INDEX_SCALE", type := .int, accessFlags := 25, slot := 9, constantValue := 0 }, { name := "LOG2_BYTE_BIT_SIZE", type := .int, accessFlags := 26, slot := 10, constantValue := 0 }, { name := "T_BOOLEAN", type := .int, accessFlags := 25, slot := 11, constantValue := 0 }, { name := "T_CHAR", type := .int, accessFlags := 25, slot := 12, constantValue := 0 }, { name := "T_FLOAT", type := .int, accessFlags := 25, slot := 13, constantValue := 0 }, { name := "T_DOUBLE", type := .int, accessFlags := 25, slot := 14, constantValue := 0 }, { name := "T_BYTE", type := .int, accessFlags := 25, slot := 15, constantValue := 0 }, { name := "T_SHORT", type := .int, accessFlags := 25, slot := 16, constantValue := 0 }, { name := "T_INT", type := .int, accessFlags := 25, slot := 17, constantValue := 0 }, { name := "T_LONG", type := .int, accessFlags := 25, slot := 18, constantValue := 0 }, { name := "JLA", type := (.object "jdk/internal/access/JavaLangAccess"), accessFlags := 26, slot := 19, constantValue := 0 }, { name := "SOFT_MAX_ARRAY_LENGTH", type := .int, accessFlags := 25, slot := 20, constantValue := 0 }]
  methods := #[k14m0]
  instanceTypes := #[]
  staticTypes := #[(.object "jdk/internal/misc/Unsafe"), .boolean, .int, .int, .int, .int, .int, .int, .int, .int, .int, .int, .int, .int, .int, .int, .int, .int, .int, (.object "jdk/internal/access/JavaLangAccess"), .int]
  resolved := Array.replicate 378 none
  statics := none }

def pool15 : Array CpInfo := pool [(1, u "java/lang/Cloneable"), (0, .class_ 1), (0, u "java/lang/Object"), (0, .class_ 3)] 3

/-- java/lang/Cloneable -/
def k15 : Class := { plain "java/lang/Cloneable" (some 0) with
  accessFlags := 1537
  interfaces := #[]
  cf := some (fileOf pool15 2 #[] #[] 1537 4 #[] #[])
  fields := #[]
  methods := #[]
  instanceTypes := #[]
  staticTypes := #[]
  resolved := Array.replicate 8 none
  statics := none }

/-- the primitive byte -/
def k16 : Class := { plain "byte" none with kind := .primitive 'B', accessFlags := 0x411 }
/-- [B -/
def k17 : Class := { plain "[B" (some 0) with kind := .array 16 .byte, interfaces := #[15, 4], accessFlags := 1041 }

/-- the primitive char -/
def k18 : Class := { plain "char" none with kind := .primitive 'C', accessFlags := 0x411 }
/-- [C -/
def k19 : Class := { plain "[C" (some 0) with kind := .array 18 .char, interfaces := #[15, 4], accessFlags := 1041 }

/-- the primitive int -/
def k20 : Class := { plain "int" none with kind := .primitive 'I', accessFlags := 0x411 }
/-- [I -/
def k21 : Class := { plain "[I" (some 0) with kind := .array 20 .int, interfaces := #[15, 4], accessFlags := 1041 }

def heap : Heap := #[{ cls := 9, slots := #[.long 0, .int 1, .null, .int 0, .null, .int 0, .int 0], vm := .statics 9 },
  { cls := 13, slots := #[.null, .null, .null], vm := .statics 13 }]
def classes : Array Class := #[k0, k1, k2, k3, k4, k5, k6, k7, k8, k9, k10, k11, k12, k13, k14, k15, k16, k17, k18, k19, k20, k21]
def interned : List (Array UInt16 × Addr) := []
def slotsUsed : Nat := 10
def theMethod : MethodId := ⟨1, 3⟩
def args0 : Array Value := #[.int 5, .int 5, .int 5, .int 5, .int 5]
def aboutOver (below : List Frame) : State where
  vm := { classes := classes, interned := interned.toArray }
  heap := heap
  slotsUsed := slotsUsed
  threads := #[{ frames := .invoking theMethod args0 :: below }]
def below0 : List Frame := [.native { method := ⟨0, 0⟩, args := #[] }]
def about1 : State := aboutOver below0
def p0 : Program := .bare "" "" ""
def e0 : Env := launch0.env 0 0 0
theorem w_frames : about1.frames = Frame.invoking theMethod args0 :: below0 := rfl
set_option maxRecDepth 65536 in
theorem w_args : argsFit about1.vm theMethod args0 = true := by decide +kernel
set_option maxRecDepth 65536 in
theorem w_heap : heapFits about1 = true := by decide +kernel
set_option maxRecDepth 65536 in
theorem w_runnable : about1.curStatus? = some .runnable := by decide +kernel
set_option maxRecDepth 65536 in
theorem w_alone : about1.alone = true := by decide +kernel
set_option maxRecDepth 65536 in
theorem w_named : about1.methodNamed? x = some theMethod := by decide +kernel
set_option maxRecDepth 65536 in
theorem w_hears : about1.hears theMethod below0 = true := by decide +kernel
set_option maxRecDepth 65536 in
theorem w_ripe : about1.ripe theMethod args0 below0 = true := by decide +kernel
theorem w_running : about1.status = .running := rfl
set_option maxRecDepth 65536 in
theorem w_room : about1.hasRoom e0.platform room_1 = true :=
  launch0.hasRoom_least _ room_1 (by decide +kernel) (by decide +kernel) (by decide +kernel) (by decide +kernel) (by decide +kernel) (by decide +kernel)
theorem allAtoms_all (ts : List Jvm.Cond) (a : Array Jvm.Value) (st : Jvm.State) : (allAtoms ts).before a st = ts.all (fun c => c.before a st) := by
  induction ts with
  | nil => rfl
  | cons c t ih =>
    show (Jvm.Cond.and c (allAtoms t)).before a st = _
    rw [Jvm.Cond.before_and, ih, List.all_cons]
def words1 : List Jvm.Cond := Jvm.Cond.code x code maxLocals ret :: tables_1
/-- a 'code' word, met by the world's own term for the bytes: nothing is compared byte by byte -/
theorem code_word {y : MethodName} {bytes : ByteArray} {mx : Nat} {rt : Option FieldType} {a : Array Value} {s : State} {m : MethodId} {meth : Method} {c : Code} (h1 : s.methodNamed? y = some m) (h2 : s.vm.method? m = some meth) (h3 : meth.code = some c) (h4 : c.code = bytes)
    (h5 : (c.maxLocals == mx && c.exceptionTable.isEmpty && decide (c.maxStack ≤ mostOperands) && decide (meth.sig.returnType = rt) && !meth.locks && decide (parseMethodDescriptor y.desc = some meth.sig)) = true) : (Jvm.Cond.code y bytes mx rt).before a s = true := by
  simp only [Bool.and_eq_true, beq_iff_eq, Bool.not_eq_true', decide_eq_true_eq] at h5
  obtain ⟨⟨⟨⟨⟨g1, g2⟩, g3⟩, g4⟩, g5⟩, g6⟩ := h5
  simp [Cond.before, Cond.holds, Cond.value, h1, h2, h3, h4, g1, g2, g3, g4, g5, g6]
def isCode : Jvm.Cond → Bool
  | .code _ _ _ _ => true
  | _ => false
theorem all_split {L : List Jvm.Cond} {P : Jvm.Cond → Bool} (h1 : L.all (fun c => isCode c || P c) = true) (h2 : ∀ c ∈ L.filter isCode, P c = true) : L.all P = true := by
  refine List.all_eq_true.mpr fun c hc => ?_
  have h := List.all_eq_true.mp h1 c hc
  rcases Bool.eq_false_or_eq_true (isCode c) with hi | hi
  · exact h2 c (List.mem_filter.mpr ⟨hc, hi⟩)
  · simpa [hi] using h
set_option maxRecDepth 65536 in
theorem w_c0 : (Jvm.Cond.code x code maxLocals ret).before args0 about1 = true := code_word (m := ⟨1, 3⟩) (meth := k1m3) (c := k1c3) (by decide +kernel) rfl rfl rfl (by decide +kernel)
set_option maxRecDepth 65536 in
theorem w_c1 : (Jvm.Cond.code ({ cls := "com/example/bordershare/bordershare/model/ZoneEqualsPinLaw", name := "mk", desc := "(III)Ljava/lang/String;" } : Jvm.MethodName) method_2_code (4 : Nat) (Option.some (Jvm.ClassFile.FieldType.object "java/lang/String"))).before args0 about1 = true := code_word (m := ⟨1, 1⟩) (meth := k1m1) (c := k1c1) (by decide +kernel) rfl rfl rfl (by decide +kernel)
set_option maxRecDepth 65536 in
theorem w_c2 : (Jvm.Cond.code ({ cls := "java/lang/String", name := "<init>", desc := "([C)V" } : Jvm.MethodName) jdk_42_method_3_code (2 : Nat) (Option.none : Option Jvm.ClassFile.FieldType)).before args0 about1 = true := code_word (m := ⟨9, 1⟩) (meth := k9m1) (c := k9c1) (by decide +kernel) rfl rfl rfl (by decide +kernel)
set_option maxRecDepth 65536 in
theorem w_c3 : (Jvm.Cond.code ({ cls := "java/lang/String", name := "<init>", desc := "([CIILjava/lang/Void;)V" } : Jvm.MethodName) jdk_42_method_149_code (6 : Nat) (Option.none : Option Jvm.ClassFile.FieldType)).before args0 about1 = true := code_word (m := ⟨9, 3⟩) (meth := k9m3) (c := k9c3) (by decide +kernel) rfl rfl rfl (by decide +kernel)
set_option maxRecDepth 65536 in
theorem w_c4 : (Jvm.Cond.code ({ cls := "java/lang/Object", name := "<init>", desc := "()V" } : Jvm.MethodName) object_method_1_code (1 : Nat) (Option.none : Option Jvm.ClassFile.FieldType)).before args0 about1 = true := code_word (m := ⟨0, 0⟩) (meth := k0m0) (c := k0c0) (by decide +kernel) rfl rfl rfl (by decide +kernel)
set_option maxRecDepth 65536 in
theorem w_c5 : (Jvm.Cond.code ({ cls := "com/example/bordershare/bordershare/model/Zone", name := "<init>", desc := "(Ljava/lang/String;Ljava/lang/String;)V" } : Jvm.MethodName) prog_41_method_1_code (3 : Nat) (Option.none : Option Jvm.ClassFile.FieldType)).before args0 about1 = true := code_word (m := ⟨3, 0⟩) (meth := k3m0) (c := k3c0) (by decide +kernel) rfl rfl rfl (by decide +kernel)
set_option maxRecDepth 65536 in
theorem w_c6 : (Jvm.Cond.code ({ cls := "java/lang/Record", name := "<init>", desc := "()V" } : Jvm.MethodName) jdk_30_method_1_code (1 : Nat) (Option.none : Option Jvm.ClassFile.FieldType)).before args0 about1 = true := code_word (m := ⟨2, 0⟩) (meth := k2m0) (c := k2c0) (by decide +kernel) rfl rfl rfl (by decide +kernel)
set_option maxRecDepth 65536 in
theorem w_c7 : (Jvm.Cond.code ({ cls := "java/util/Objects", name := "requireNonNull", desc := "(Ljava/lang/Object;Ljava/lang/String;)Ljava/lang/Object;" } : Jvm.MethodName) jdk_31_method_11_code (2 : Nat) (Option.some (Jvm.ClassFile.FieldType.object "java/lang/Object"))).before args0 about1 = true := code_word (m := ⟨10, 1⟩) (meth := k10m1) (c := k10c1) (by decide +kernel) rfl rfl rfl (by decide +kernel)
set_option maxRecDepth 65536 in
theorem w_c8 : (Jvm.Cond.code ({ cls := "com/example/bordershare/bordershare/model/ZoneEqualsPinLaw", name := "same", desc := "(IIIIII)Z" } : Jvm.MethodName) method_3_code (6 : Nat) (Option.some Jvm.ClassFile.FieldType.boolean)).before args0 about1 = true := code_word (m := ⟨1, 2⟩) (meth := k1m2) (c := k1c2) (by decide +kernel) rfl rfl rfl (by decide +kernel)
set_option maxRecDepth 65536 in
theorem w_c9 : (Jvm.Cond.code ({ cls := "com/example/bordershare/bordershare/model/Zone", name := "equals", desc := "(Ljava/lang/Object;)Z" } : Jvm.MethodName) prog_41_method_3_code (3 : Nat) (Option.some Jvm.ClassFile.FieldType.boolean)).before args0 about1 = true := code_word (m := ⟨3, 1⟩) (meth := k3m1) (c := k3c1) (by decide +kernel) rfl rfl rfl (by decide +kernel)
set_option maxRecDepth 65536 in
theorem w_c10 : (Jvm.Cond.code ({ cls := "java/lang/String", name := "equals", desc := "(Ljava/lang/Object;)Z" } : Jvm.MethodName) jdk_42_method_66_code (3 : Nat) (Option.some Jvm.ClassFile.FieldType.boolean)).before args0 about1 = true := code_word (m := ⟨9, 2⟩) (meth := k9m2) (c := k9c2) (by decide +kernel) rfl rfl rfl (by decide +kernel)
set_option maxRecDepth 65536 in
theorem w_c11 : (Jvm.Cond.code ({ cls := "java/lang/StringLatin1", name := "equals", desc := "([B[B)Z" } : Jvm.MethodName) jdk_43_method_13_code (3 : Nat) (Option.some Jvm.ClassFile.FieldType.boolean)).before args0 about1 = true := code_word (m := ⟨11, 1⟩) (meth := k11m1) (c := k11c1) (by decide +kernel) rfl rfl rfl (by decide +kernel)
set_option maxRecDepth 65536 in
theorem w_c12 : (Jvm.Cond.code ({ cls := "java/lang/StringUTF16", name := "compress", desc := "([CII)[B" } : Jvm.MethodName) jdk_52_method_16_code (6 : Nat) (Option.some (Jvm.ClassFile.FieldType.array Jvm.ClassFile.FieldType.byte))).before args0 about1 = true := code_word (m := ⟨12, 2⟩) (meth := k12m2) (c := k12c2) (by decide +kernel) rfl rfl rfl (by decide +kernel)
set_option maxRecDepth 65536 in
theorem w_c13 : (Jvm.Cond.code ({ cls := "java/lang/StringUTF16", name := "compress", desc := "([CI[BII)I" } : Jvm.MethodName) jdk_52_method_21_code (7 : Nat) (Option.some Jvm.ClassFile.FieldType.int)).before args0 about1 = true := code_word (m := ⟨12, 3⟩) (meth := k12m3) (c := k12c3) (by decide +kernel) rfl rfl rfl (by decide +kernel)
set_option maxRecDepth 65536 in
theorem w_c14 : (Jvm.Cond.code ({ cls := "java/lang/StringUTF16", name := "coderFromArrayLen", desc := "([BI)B" } : Jvm.MethodName) jdk_52_method_15_code (2 : Nat) (Option.some Jvm.ClassFile.FieldType.byte)).before args0 about1 = true := code_word (m := ⟨12, 1⟩) (meth := k12m1) (c := k12c1) (by decide +kernel) rfl rfl rfl (by decide +kernel)
def codes1 : List Jvm.Cond := [Jvm.Cond.code x code maxLocals ret, Jvm.Cond.code ({ cls := "com/example/bordershare/bordershare/model/ZoneEqualsPinLaw", name := "mk", desc := "(III)Ljava/lang/String;" } : Jvm.MethodName) method_2_code (4 : Nat) (Option.some (Jvm.ClassFile.FieldType.object "java/lang/String")), Jvm.Cond.code ({ cls := "java/lang/String", name := "<init>", desc := "([C)V" } : Jvm.MethodName) jdk_42_method_3_code (2 : Nat) (Option.none : Option Jvm.ClassFile.FieldType), Jvm.Cond.code ({ cls := "java/lang/String", name := "<init>", desc := "([CIILjava/lang/Void;)V" } : Jvm.MethodName) jdk_42_method_149_code (6 : Nat) (Option.none : Option Jvm.ClassFile.FieldType), Jvm.Cond.code ({ cls := "java/lang/Object", name := "<init>", desc := "()V" } : Jvm.MethodName) object_method_1_code (1 : Nat) (Option.none : Option Jvm.ClassFile.FieldType), Jvm.Cond.code ({ cls := "com/example/bordershare/bordershare/model/Zone", name := "<init>", desc := "(Ljava/lang/String;Ljava/lang/String;)V" } : Jvm.MethodName) prog_41_method_1_code (3 : Nat) (Option.none : Option Jvm.ClassFile.FieldType), Jvm.Cond.code ({ cls := "java/lang/Record", name := "<init>", desc := "()V" } : Jvm.MethodName) jdk_30_method_1_code (1 : Nat) (Option.none : Option Jvm.ClassFile.FieldType), Jvm.Cond.code ({ cls := "java/util/Objects", name := "requireNonNull", desc := "(Ljava/lang/Object;Ljava/lang/String;)Ljava/lang/Object;" } : Jvm.MethodName) jdk_31_method_11_code (2 : Nat) (Option.some (Jvm.ClassFile.FieldType.object "java/lang/Object")), Jvm.Cond.code ({ cls := "com/example/bordershare/bordershare/model/ZoneEqualsPinLaw", name := "same", desc := "(IIIIII)Z" } : Jvm.MethodName) method_3_code (6 : Nat) (Option.some Jvm.ClassFile.FieldType.boolean), Jvm.Cond.code ({ cls := "com/example/bordershare/bordershare/model/Zone", name := "equals", desc := "(Ljava/lang/Object;)Z" } : Jvm.MethodName) prog_41_method_3_code (3 : Nat) (Option.some Jvm.ClassFile.FieldType.boolean), Jvm.Cond.code ({ cls := "java/lang/String", name := "equals", desc := "(Ljava/lang/Object;)Z" } : Jvm.MethodName) jdk_42_method_66_code (3 : Nat) (Option.some Jvm.ClassFile.FieldType.boolean), Jvm.Cond.code ({ cls := "java/lang/StringLatin1", name := "equals", desc := "([B[B)Z" } : Jvm.MethodName) jdk_43_method_13_code (3 : Nat) (Option.some Jvm.ClassFile.FieldType.boolean), Jvm.Cond.code ({ cls := "java/lang/StringUTF16", name := "compress", desc := "([CII)[B" } : Jvm.MethodName) jdk_52_method_16_code (6 : Nat) (Option.some (Jvm.ClassFile.FieldType.array Jvm.ClassFile.FieldType.byte)), Jvm.Cond.code ({ cls := "java/lang/StringUTF16", name := "compress", desc := "([CI[BII)I" } : Jvm.MethodName) jdk_52_method_21_code (7 : Nat) (Option.some Jvm.ClassFile.FieldType.int), Jvm.Cond.code ({ cls := "java/lang/StringUTF16", name := "coderFromArrayLen", desc := "([BI)B" } : Jvm.MethodName) jdk_52_method_15_code (2 : Nat) (Option.some Jvm.ClassFile.FieldType.byte)]
set_option maxRecDepth 65536 in
theorem codes_eq : words1.filter isCode = codes1 := rfl
theorem w_codes : ∀ c ∈ words1.filter isCode, c.before args0 about1 = true := by
  rw [codes_eq]
  intro c hc
  simp only [codes1, List.mem_cons, List.not_mem_nil, or_false] at hc
  rcases hc with rfl | rfl | rfl | rfl | rfl | rfl | rfl | rfl | rfl | rfl | rfl | rfl | rfl | rfl | rfl
  · exact w_c0
  · exact w_c1
  · exact w_c2
  · exact w_c3
  · exact w_c4
  · exact w_c5
  · exact w_c6
  · exact w_c7
  · exact w_c8
  · exact w_c9
  · exact w_c10
  · exact w_c11
  · exact w_c12
  · exact w_c13
  · exact w_c14
set_option maxRecDepth 65536 in
theorem w_t1 : (words1.take 24).all (fun c => isCode c || c.before args0 about1) = true := by decide +kernel
set_option maxRecDepth 65536 in
theorem w_t2 : ((words1.drop 24).take 24).all (fun c => isCode c || c.before args0 about1) = true := by decide +kernel
set_option maxRecDepth 65536 in
theorem w_t3 : (((words1.drop 24).drop 24).take 24).all (fun c => isCode c || c.before args0 about1) = true := by decide +kernel
set_option maxRecDepth 65536 in
theorem w_t4 : (((words1.drop 24).drop 24).drop 24).all (fun c => isCode c || c.before args0 about1) = true := by decide +kernel
theorem w_tables : (allAtoms (Jvm.Cond.code x code maxLocals ret :: tables_1)).before args0 about1 = true := by
  rw [allAtoms_all]
  show words1.all (fun c => c.before args0 about1) = true
  refine all_split ?_ w_codes
  rw [← List.take_append_drop 24 words1, List.all_append, w_t1, ← List.take_append_drop 24 (words1.drop 24), List.all_append, w_t2, ← List.take_append_drop 24 ((words1.drop 24).drop 24), List.all_append, w_t3, w_t4]
  rfl
set_option maxRecDepth 65536 in
theorem w_rest : rest_1_c.before args0 about1 = true := by decide +kernel
set_option maxRecDepth 65536 in
theorem w_case : (Jvm.Cond.and given_1 narrow_1).before args0 about1 = true := by decide +kernel
set_option maxRecDepth 65536 in
theorem w_consts : constsHeld consts_1 about1 := Jvm.Lit.constsHeldB_iff.mp (by decide +kernel)
theorem w_applies : (headSpec (Jvm.Cond.code x code maxLocals ret :: tables_1) room_1).applies x e0.platform about1 = true :=
  (Spec.applies_iff w_frames).mpr ⟨w_running, w_runnable, w_alone, w_named, w_hears, w_ripe, w_room, w_tables⟩
theorem atStart : AtStart classFile x code maxLocals ret World_1 tables_1 room_1 Calls_1 rest_1 Pre_1 launch0 p0 e0 about1 theMethod args0 below0 :=
  ⟨lists_1, trivial, launch0.admits_env _ _ _, launch0.least_env, fairChoices_fair.cas, fairChoices_fair.clock, w_frames, w_args, w_heap, w_applies, ⟨w_consts, trivial⟩, w_rest, w_case⟩
end start1
theorem witness_1 : WitnessClaimed_1 := ⟨start1.p0, start1.e0, start1.about1, start1.theMethod, start1.args0, start1.below0, start1.atStart⟩
end Jvm.Pilot.@@N@@
