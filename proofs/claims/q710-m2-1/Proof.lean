import JvmDerived
import JvmDerived.Pilot.@@N@@Statement
import JvmDerived.Pilot.@@N@@Code
set_option linter.unusedVariables false
set_option linter.unusedSimpArgs false
/- laws to paste: Road.backV, Road.eqW, Road.codOf (cut by pick.py; bodies as the Statement names them) -/
namespace Jvm.Pilot.@@N@@
namespace StrChars
open Jvm Sem ClassFile Op Lib Jvm.Stand Jvm.Free.XT Jvm.Free.ALB Jvm.Free.JM Jvm.Free
open Jvm.Lib.Cold (StaticIs)
/-- a char array whose places are chars -/
def Ch (a : Addr) (A : Cell) (U : State) : Prop := Arr .char a A U ∧ Typed .char A
theorem Ch.mv {a : Addr} {A : Cell} {U U' : State} (h : Ch a A U) (hal : U.vm.Alike U'.vm) (hh : U'.heap = U.heap) : Ch a A U' := ⟨h.1.mv hal hh, h.2⟩
theorem Ch.keep {a : Addr} {A : Cell} {U U' : State} (h : Ch a A U) (hal : U.vm.Alike U'.vm) (hk : U'.heap[a]? = some A) : Ch a A U' := ⟨h.1.keep hal hk, h.2⟩
/-- what place i of a char[]'s cell holds -/
def cv (A : Cell) (i : Nat) : Int32 := match A.slots[i]? with | some (.int x) => x | _ => 0
theorem Ch.get {a : Addr} {A : Cell} {U : State} (h : Ch a A U) {i : Nat} (hi : i < A.slots.size) : A.slots[i]? = some (.int (cv A i)) := by
  have e := Array.getElem?_eq_getElem hi
  have f := h.2 i _ e
  unfold cv; rw [e]
  generalize A.slots[i] = v at f
  cases v <;> simp [fits] at f ⊢
/-- the byte that i2b leaves of a char -/
def lo8 (x : Int32) : Int32 := x.toInt8.toInt32
theorem fits_lo8 (y : Int32) : fits .byte (.int (lo8 y)) = true := by
  have h1 := y.toInt8.le_toInt
  have h2 := y.toInt8.toInt_lt
  simp only [lo8, fits, Bool.and_eq_true, decide_eq_true_eq, Int32.le_iff_toInt_le, Int8.toInt_toInt32, show (-128 : Int32).toInt = -128 from by decide, show (127 : Int32).toInt = 127 from by decide]
  omega
/-- A' is A but that each place j of lo .. hi - 1 holds f j -/
def Laid (A A' : Cell) (lo hi : Nat) (f : Nat → Value) : Prop := A'.cls = A.cls ∧ A'.vm = A.vm ∧ A'.slots.size = A.slots.size ∧ ∀ i, A'.slots[i]? = if lo ≤ i ∧ i < hi then some (f i) else A.slots[i]?
theorem Laid.zero (A : Cell) (lo : Nat) (f : Nat → Value) : Laid A A lo (lo + 0) f := ⟨rfl, rfl, rfl, fun i => by rw [if_neg (by omega)]⟩
theorem Laid.step {A Ak : Cell} {lo k : Nat} {f : Nat → Value} {v : Value} (h : Laid A Ak lo k f) (hlo : lo ≤ k) (hk : k < Ak.slots.size) (hv : v = f k) : Laid A (Ak.setSlot k v) lo (k + 1) f := by
  refine ⟨h.1, h.2.1, by simpa [Cell.setSlot] using h.2.2.1, fun i => ?_⟩
  by_cases e : k = i
  · subst e; rw [Cell.slots_setSlot_self v hk, if_pos (by omega), hv]
  · rw [Cell.slots_setSlot_ne v e, h.2.2.2 i]
    by_cases q : lo ≤ i ∧ i < k
    · rw [if_pos q, if_pos (by omega)]
    · rw [if_neg q, if_neg (by omega)]
def U16 : String := "java/lang/StringUTF16"
namespace Cmp5
def yN : MethodName := ⟨"java/lang/StringUTF16", "compress", "([CI[BII)I"⟩
abbrev yB : ByteArray := jdk_52_method_21_code
theorem d0 : decode yB 0 = .ok (.iconst 0, 1) := by decide +kernel
theorem d1 : decode yB 1 = .ok (.istore 5, 2) := by decide +kernel
theorem d3 : decode yB 3 = .ok (.iload 5, 2) := by decide +kernel
theorem d5 : decode yB 5 = .ok (.iload 4, 2) := by decide +kernel
theorem d7 : decode yB 7 = .ok (.if_icmp (.ge) 37, 3) := by decide +kernel
theorem d10 : decode yB 10 = .ok (.aload_n 0, 1) := by decide +kernel
theorem d11 : decode yB 11 = .ok (.iload_n 1, 1) := by decide +kernel
theorem d12 : decode yB 12 = .ok (.caload, 1) := by decide +kernel
theorem d13 : decode yB 13 = .ok (.istore 6, 2) := by decide +kernel
theorem d15 : decode yB 15 = .ok (.iload 6, 2) := by decide +kernel
theorem d17 : decode yB 17 = .ok (.sipush 255, 3) := by decide +kernel
theorem d20 : decode yB 20 = .ok (.if_icmp (.le) 6, 3) := by decide +kernel
theorem d26 : decode yB 26 = .ok (.aload_n 2, 1) := by decide +kernel
theorem d27 : decode yB 27 = .ok (.iload_n 3, 1) := by decide +kernel
theorem d28 : decode yB 28 = .ok (.iload 6, 2) := by decide +kernel
theorem d30 : decode yB 30 = .ok (.i2b, 1) := by decide +kernel
theorem d31 : decode yB 31 = .ok (.bastore, 1) := by decide +kernel
theorem d32 : decode yB 32 = .ok (.iinc 1 1, 3) := by decide +kernel
theorem d35 : decode yB 35 = .ok (.iinc 3 1, 3) := by decide +kernel
theorem d38 : decode yB 38 = .ok (.iinc 5 1, 3) := by decide +kernel
theorem d41 : decode yB 41 = .ok (.goto (-38), 3) := by decide +kernel
theorem d44 : decode yB 44 = .ok (.iload 4, 2) := by decide +kernel
theorem d46 : decode yB 46 = .ok (.ireturn, 1) := by decide +kernel
def site : List Cond := []
def tab : Cond := tabOf yN yB 7 (some .int) site
def P (b : Addr) (A : Cell) (d : Addr) (B : Cell) (o q len : Nat) (args : Array Value) (s : State) : Prop := args = #[.ref b, .int (Int32.ofNat o), .ref d, .int (Int32.ofNat q), .int (Int32.ofNat len)] ∧ Ch b A s ∧ Arr .byte d B s ∧ b ≠ d ∧ o + len ≤ A.slots.size ∧ q + len ≤ B.slots.size ∧ ∀ i, i < len → ¬ 255 < cv A (o + i)
def E (b : Addr) (A : Cell) (d : Addr) (B : Cell) (o q len : Nat) (r : Option Value) (s u : State) : Prop := r = some (.int (Int32.ofNat len)) ∧ ∃ B', Put d B' s u ∧ Laid B B' q (q + len) (fun j => Value.int (lo8 (cv A (o + (j - q)))))
/-- no char of the range above 255: len; the places written hold each char's low byte -/
theorem law (l : Launch) (b : Addr) (A : Cell) (d : Addr) (B : Cell) (o q len : Nat) : Law l yN 5 5 0 0 yB 7 (some .int) site (P b A d B o q len) (E b A d B o q len) (copyLocs d q len) 0 0 := by
  refine Law.of_walk (plainFor_of_name (by decide +kernel)) (by decide +kernel) (by decide +kernel) (by decide) (fun _ _ h => by rw [h.1]; rfl) (fun _ U U' hal hh h => ⟨h.1, h.2.1.mv hal hh, h.2.2.1.mv hal hh, h.2.2.2⟩) (fun r U U' V V' h1 hal h2 h => ⟨h.1, h.2.elim fun B' q => ⟨B', q.1.mv h1 h2, q.2⟩⟩) ?_
  intro p e s m args below meth c s₁ X0 hexec hbytes hml hret hlk hnm hown hh0 W hP
  obtain ⟨rfl, hA, hB, hne, l1, l2, hp⟩ := hP
  have c1 : Steps p.tables e below (s₁.setTop (entryFrame m #[.ref b, .int (Int32.ofNat o), .ref d, .int (Int32.ofNat q), .int (Int32.ofNat len)] 7)) (s₁.setTop (mkF m 0 #[.val (.ref b), .val (.int (Int32.ofNat o)), .val (.ref d), .val (.int (Int32.ofNat q)), .val (.int (Int32.ofNat len)), .unset, .unset] [])) := entry rfl
  have hA0 := hA.1.mv X0.warmed.alike hh0
  have hB0 := hB.mv X0.warmed.alike hh0
  have a31 := hA.1.2.2.2
  have c2 : Steps p.tables e below (s₁.setTop (entryFrame m #[.ref b, .int (Int32.ofNat o), .ref d, .int (Int32.ofNat q), .int (Int32.ofNat len)] 7)) (s₁.setTop (mkF m 3 #[.val (.ref b), .val (.int (Int32.ofNat o)), .val (.ref d), .val (.int (Int32.ofNat q)), .val (.int (Int32.ofNat len)), .val (.int 0), .unset] [])) := c1.trans (by
    refine iconstV X0.here hexec rfl 0 (hb hbytes d0) (by decide) ?_
    refine XS.istore X0.here hexec rfl (hb hbytes d1) rfl rfl ?_
    exact Steps.refl _)
  have loop : ∀ (r i : Nat), i + r = len → ∀ (z : Slot), (z = .unset ∨ ∃ w, z = .val w ∧ w.category = 1) → ∀ (Tl : State) (Bk : Cell), Stand p l e { frames := 0, locals := 0, cells := 0, slots := 0 } s m #[.ref b, .int (Int32.ofNat o), .ref d, .int (Int32.ofNat q), .int (Int32.ofNat len)] below meth c Tl ([] ++ copyLocs d q i) 0 0 → Put d Bk s₁ Tl → Laid B Bk q (q + i) (fun j => Value.int (lo8 (cv A (o + (j - q))))) →
      Steps p.tables e below (s₁.setTop (entryFrame m #[.ref b, .int (Int32.ofNat o), .ref d, .int (Int32.ofNat q), .int (Int32.ofNat len)] 7)) (Tl.setTop (mkF m 3 #[.val (.ref b), .val (.int (Int32.ofNat (o + i))), .val (.ref d), .val (.int (Int32.ofNat (q + i))), .val (.int (Int32.ofNat len)), .val (.int (Int32.ofNat i)), z] [])) → ∃ (T' : State) (B' : Cell) (z' : Slot), Stand p l e { frames := 0, locals := 0, cells := 0, slots := 0 } s m #[.ref b, .int (Int32.ofNat o), .ref d, .int (Int32.ofNat q), .int (Int32.ofNat len)] below meth c T' ([] ++ copyLocs d q len) 0 0 ∧ Put d B' s₁ T' ∧ Laid B B' q (q + len) (fun j => Value.int (lo8 (cv A (o + (j - q))))) ∧
      Steps p.tables e below (s₁.setTop (entryFrame m #[.ref b, .int (Int32.ofNat o), .ref d, .int (Int32.ofNat q), .int (Int32.ofNat len)] 7)) (T'.setTop (mkF m 3 #[.val (.ref b), .val (.int (Int32.ofNat (o + len))), .val (.ref d), .val (.int (Int32.ofNat (q + len))), .val (.int (Int32.ofNat len)), .val (.int (Int32.ofNat len)), z'] [])) := by
    intro r
    induction r with
    | zero =>
      intro i hi z hz Tl Bk Xl pl fl cl
      have hil : i = len := by omega
      rw [hil] at Xl fl cl
      exact ⟨Tl, Bk, z, Xl, pl, fl, cl⟩
    | succ r ih =>
      intro i hi z hz Tl Bk Xl pl fl cl
      have all := X0.warmed.alike.symm.trans Xl.warmed.alike
      have hAl := hA0.keep all (pl.other hne hA0.1)
      have hBk := hB0.like all pl.1 fl.1 fl.2.1 fl.2.2.1
      have hlt : q + i < Bk.slots.size := by rw [fl.2.2.1]; omega
      have c3 : Steps p.tables e below (s₁.setTop (entryFrame m #[.ref b, .int (Int32.ofNat o), .ref d, .int (Int32.ofNat q), .int (Int32.ofNat len)] 7)) (Tl.setTop (mkF m 12 #[.val (.ref b), .val (.int (Int32.ofNat (o + i))), .val (.ref d), .val (.int (Int32.ofNat (q + i))), .val (.int (Int32.ofNat len)), .val (.int (Int32.ofNat i)), z] [.int (Int32.ofNat (o + i)), .ref b])) := cl.trans (by
        refine XS.iload Xl.here hexec rfl (hb hbytes d3) rfl ?_
        refine XS.iload Xl.here hexec rfl (hb hbytes d5) rfl ?_
        refine XS.icmpNo Xl.here hexec rfl (hb hbytes d7) rfl (ii_ge_f (lt32 (by omega) (by omega))) ?_
        refine XS.aloadN Xl.here hexec rfl (hb hbytes d10) rfl rfl ?_
        refine XS.iloadN Xl.here hexec rfl (hb hbytes d11) rfl ?_
        exact Steps.refl _)
      have c4 : Steps p.tables e below (s₁.setTop (entryFrame m #[.ref b, .int (Int32.ofNat o), .ref d, .int (Int32.ofNat q), .int (Int32.ofNat len)] 7)) (Tl.setTop (mkF m 13 #[.val (.ref b), .val (.int (Int32.ofNat (o + i))), .val (.ref d), .val (.int (Int32.ofNat (q + i))), .val (.int (Int32.ofNat len)), .val (.int (Int32.ofNat i)), z] [.int (cv A (o + i))])) := c3.trans (by
        refine Xl.aget hexec hAl rfl (hA.get (i := o + i) (by omega)) rfl rfl (hb hbytes d12) ?_
        exact Steps.refl _)
      have c5 : Steps p.tables e below (s₁.setTop (entryFrame m #[.ref b, .int (Int32.ofNat o), .ref d, .int (Int32.ofNat q), .int (Int32.ofNat len)] 7)) (Tl.setTop (mkF m 15 #[.val (.ref b), .val (.int (Int32.ofNat (o + i))), .val (.ref d), .val (.int (Int32.ofNat (q + i))), .val (.int (Int32.ofNat len)), .val (.int (Int32.ofNat i)), .val (.int (cv A (o + i)))] [])) := c4.trans (by
        refine XS.istoreS Xl.here hexec rfl (hb hbytes d13) rfl rfl hz ?_
        exact Steps.refl _)
      have c6 : Steps p.tables e below (s₁.setTop (entryFrame m #[.ref b, .int (Int32.ofNat o), .ref d, .int (Int32.ofNat q), .int (Int32.ofNat len)] 7)) (Tl.setTop (mkF m 31 #[.val (.ref b), .val (.int (Int32.ofNat (o + i))), .val (.ref d), .val (.int (Int32.ofNat (q + i))), .val (.int (Int32.ofNat len)), .val (.int (Int32.ofNat i)), .val (.int (cv A (o + i)))] [.int (lo8 (cv A (o + i))), .int (Int32.ofNat (q + i)), .ref d])) := c5.trans (by
        refine XS.iload Xl.here hexec rfl (hb hbytes d15) rfl ?_
        refine sipushV Xl.here hexec rfl 255 (hb hbytes d17) (by decide) ?_
        refine XS.icmpYes Xl.here hexec rfl (pc0 := 20) rfl (hb hbytes d20) rfl (ii_le_t (hp i (by omega))) (by decide) rfl ?_
        refine XS.aloadN Xl.here hexec rfl (hb hbytes d26) rfl rfl ?_
        refine XS.iloadN Xl.here hexec rfl (hb hbytes d27) rfl ?_
        refine XS.iload Xl.here hexec rfl (hb hbytes d28) rfl ?_
        refine i2b Xl.here hexec rfl (hb hbytes d30) rfl ?_
        exact Steps.refl _)
      obtain ⟨T7, X7, p7, st7⟩ := Xl.aput hexec hBk rfl hlt rfl (fits_lo8 (cv A (o + i))) (g := (mkF m 31 #[.val (.ref b), .val (.int (Int32.ofNat (o + i))), .val (.ref d), .val (.int (Int32.ofNat (q + i))), .val (.int (Int32.ofNat len)), .val (.int (Int32.ofNat i)), .val (.int (cv A (o + i)))] [.int (lo8 (cv A (o + i))), .int (Int32.ofNat (q + i)), .ref d])) rfl (rest := []) rfl (hb hbytes d31)
      have c8 : Steps p.tables e below (s₁.setTop (entryFrame m #[.ref b, .int (Int32.ofNat o), .ref d, .int (Int32.ofNat q), .int (Int32.ofNat len)] 7)) (T7.setTop (mkF m 32 #[.val (.ref b), .val (.int (Int32.ofNat (o + i))), .val (.ref d), .val (.int (Int32.ofNat (q + i))), .val (.int (Int32.ofNat len)), .val (.int (Int32.ofNat i)), .val (.int (cv A (o + i)))] [])) := c6.trans (st7 _ (Steps.refl _))
      have c9 : Steps p.tables e below (s₁.setTop (entryFrame m #[.ref b, .int (Int32.ofNat o), .ref d, .int (Int32.ofNat q), .int (Int32.ofNat len)] 7)) (T7.setTop (mkF m 3 #[.val (.ref b), .val (.int (Int32.ofNat (o + i) + 1)), .val (.ref d), .val (.int (Int32.ofNat (q + i) + 1)), .val (.int (Int32.ofNat len)), .val (.int (Int32.ofNat i + 1)), .val (.int (cv A (o + i)))] [])) := c8.trans (by
        refine iincV X7.here hexec rfl 1 (hb hbytes d32) (by decide) rfl rfl ?_
        refine iincV X7.here hexec rfl 1 (hb hbytes d35) (by decide) rfl rfl ?_
        refine iincV X7.here hexec rfl 1 (hb hbytes d38) (by decide) rfl rfl ?_
        refine XS.goto X7.here hexec rfl (pc0 := 41) rfl (hb hbytes d41) (by decide) rfl ?_
        exact Steps.refl _)
      have c10 : Steps p.tables e below (s₁.setTop (entryFrame m #[.ref b, .int (Int32.ofNat o), .ref d, .int (Int32.ofNat q), .int (Int32.ofNat len)] 7)) (T7.setTop (mkF m 3 #[.val (.ref b), .val (.int (Int32.ofNat (o + (i + 1)))), .val (.ref d), .val (.int (Int32.ofNat (q + (i + 1)))), .val (.int (Int32.ofNat len)), .val (.int (Int32.ofNat (i + 1))), .val (.int (cv A (o + i)))] [])) := by
        have := c9
        rw [succ32, succ32, succ32] at this
        exact this
      exact ih (i + 1) (by omega) _ (Or.inr ⟨_, rfl, rfl⟩) T7 _ (by rw [copyLocs_step, ← List.append_assoc]; exact X7) (pl.trans p7) (fl.step (by omega) hlt (by simp)) c10
  obtain ⟨T9, B9, z9, X9, p9, f9, g9⟩ := loop len 0 (by omega) .unset (Or.inl rfl) s₁ B (by simpa [copyLocs] using X0) ⟨hB0.1, fun _ _ => rfl, rfl⟩ (Laid.zero _ _ _) c2
  have c11 : Steps p.tables e below (s₁.setTop (entryFrame m #[.ref b, .int (Int32.ofNat o), .ref d, .int (Int32.ofNat q), .int (Int32.ofNat len)] 7)) (T9.setTop (mkF m 46 #[.val (.ref b), .val (.int (Int32.ofNat (o + len))), .val (.ref d), .val (.int (Int32.ofNat (q + len))), .val (.int (Int32.ofNat len)), .val (.int (Int32.ofNat len)), z9] [.int (Int32.ofNat len)])) := g9.trans (by
    refine XS.iload X9.here hexec rfl (hb hbytes d3) rfl ?_
    refine XS.iload X9.here hexec rfl (hb hbytes d5) rfl ?_
    refine XS.icmpYes X9.here hexec rfl (pc0 := 7) rfl (hb hbytes d7) rfl (ii_ge_t (nlt32 (by omega) (Nat.le_refl _))) (by decide) rfl ?_
    refine XS.iload X9.here hexec rfl (hb hbytes d44) rfl ?_
    exact Steps.refl _)
  exact ⟨T9, some (.int (Int32.ofNat len)), _, _, _, X9, by simp, rfl, rfl, (fun h => by cases h), ⟨rfl, B9, p9.from hh0, f9⟩, fun fs hl => c11.trans (X9.ireturnOut hexec hret rfl (Or.inl rfl) (hb hbytes d46) hl)⟩
end Cmp5
namespace Cmp3
def yN : MethodName := ⟨"java/lang/StringUTF16", "compress", "([CII)[B"⟩
abbrev yB : ByteArray := jdk_52_method_16_code
theorem d0 : decode yB 0 = .ok (.iload_n 2, 1) := by decide +kernel
theorem d1 : decode yB 1 = .ok (.newarray .byte, 2) := by decide +kernel
theorem d3 : decode yB 3 = .ok (.astore_n 3, 1) := by decide +kernel
theorem d4 : decode yB 4 = .ok (.aload_n 0, 1) := by decide +kernel
theorem d5 : decode yB 5 = .ok (.iload_n 1, 1) := by decide +kernel
theorem d6 : decode yB 6 = .ok (.aload_n 3, 1) := by decide +kernel
theorem d7 : decode yB 7 = .ok (.iconst 0, 1) := by decide +kernel
theorem d8 : decode yB 8 = .ok (.iload_n 2, 1) := by decide +kernel
theorem d9 : decode yB 9 = .ok (.invokestatic 115, 3) := by decide +kernel
theorem d12 : decode yB 12 = .ok (.istore 4, 2) := by decide +kernel
theorem d14 : decode yB 14 = .ok (.iload 4, 2) := by decide +kernel
theorem d16 : decode yB 16 = .ok (.iload_n 2, 1) := by decide +kernel
theorem d17 : decode yB 17 = .ok (.if_icmp (.eq) 40, 3) := by decide +kernel
theorem d57 : decode yB 57 = .ok (.aload_n 3, 1) := by decide +kernel
theorem d58 : decode yB 58 = .ok (.areturn, 1) := by decide +kernel
def site : List Cond := [.arrayClass .byte, Cmp5.tab] ++ staticW U16 115 Cmp5.yN
def tab : Cond := tabOf yN yB 6 (some (.array .byte)) site
def P (b : Addr) (A : Cell) (o len : Nat) (args : Array Value) (s : State) : Prop := args = #[.ref b, .int (Int32.ofNat o), .int (Int32.ofNat len)] ∧ Ch b A s ∧ o + len ≤ A.slots.size ∧ len ≤ 536870912 ∧ ∀ i, i < len → ¬ 255 < cv A (o + i)
def E (b : Addr) (A : Cell) (o len : Nat) (r : Option Value) (s u : State) : Prop := NewArr .byte "[B" len (fun j => .int (lo8 (cv A (o + j)))) r s u ∧ u.heap.size = s.heap.size + 1
/-- no char of the range above 255: a new byte[] of their low bytes -/
theorem law (l : Launch) (b : Addr) (A : Cell) (o len : Nat) : Law l yN 3 3 1 18 yB 6 (some (.array .byte)) site (P b A o len) (E b A o len) [] 1 len := by
  refine Law.of_walk (plainFor_of_name (by decide +kernel)) (by decide +kernel) (by decide +kernel) (by decide) (fun _ _ h => by rw [h.1]; rfl) (fun _ U U' hal hh h => ⟨h.1, h.2.1.mv hal hh, h.2.2⟩) (fun r U U' V V' h1 hal h2 h => ⟨NewArr.mv r U U' V V' h1 hal h2 h.1, by rw [h1, h2]; exact h.2⟩) ?_
  intro p e s m args below meth c s₁ X0 hexec hbytes hml hret hlk hnm hown hh0 W hP
  obtain ⟨rfl, hA, l1, l2, hp⟩ := hP
  have a31 := hA.1.2.2.2
  have c1 : Steps p.tables e below (s₁.setTop (entryFrame m #[.ref b, .int (Int32.ofNat o), .int (Int32.ofNat len)] 6)) (s₁.setTop (mkF m 0 #[.val (.ref b), .val (.int (Int32.ofNat o)), .val (.int (Int32.ofNat len)), .unset, .unset, .unset] [])) := entry rfl
  have c2 : Steps p.tables e below (s₁.setTop (entryFrame m #[.ref b, .int (Int32.ofNat o), .int (Int32.ofNat len)] 6)) (s₁.setTop (mkF m 1 #[.val (.ref b), .val (.int (Int32.ofNat o)), .val (.int (Int32.ofNat len)), .unset, .unset, .unset] [.int (Int32.ofNat len)])) := c1.trans (by
    refine XS.iloadN X0.here hexec rfl (hb hbytes d0) rfl ?_
    exact Steps.refl _)
  obtain ⟨T3, B3, X3, ba3, bs3, bv3, bh3, bf3, st3⟩ := X0.anew hexec (atype := .byte) (wk W (.arrayClass .byte)) rfl (by show len * 1 ≤ _; omega) (by omega) (g := (mkF m 1 #[.val (.ref b), .val (.int (Int32.ofNat o)), .val (.int (Int32.ofNat len)), .unset, .unset, .unset] [.int (Int32.ofNat len)])) rfl (hb hbytes d1) (rest := []) rfl (Nat.le_refl _) (by show 0 + len ≤ len; omega)
  rw [hh0] at ba3 st3
  have kp3 : XT.Kept s T3 := (XT.Kept.of_eq hh0).push bh3
  have hA3 := hA.keep X3.warmed.alike (kp3 _ _ hA.1.1)
  have hne : b ≠ s.heap.size := hA.1.ne
  have c4 : Steps p.tables e below (s₁.setTop (entryFrame m #[.ref b, .int (Int32.ofNat o), .int (Int32.ofNat len)] 6)) (T3.setTop (mkF m 3 #[.val (.ref b), .val (.int (Int32.ofNat o)), .val (.int (Int32.ofNat len)), .unset, .unset, .unset] [.ref s.heap.size])) := c2.trans (st3 _ (Steps.refl _))
  have c5 : Steps p.tables e below (s₁.setTop (entryFrame m #[.ref b, .int (Int32.ofNat o), .int (Int32.ofNat len)] 6)) (T3.setTop (mkF m 9 #[.val (.ref b), .val (.int (Int32.ofNat o)), .val (.int (Int32.ofNat len)), .val (.ref s.heap.size), .unset, .unset] [.int (Int32.ofNat len), .int 0, .ref s.heap.size, .int (Int32.ofNat o), .ref b])) := c4.trans (by
    refine XS.astoreN X3.here hexec rfl (hb hbytes d3) rfl rfl rfl ?_
    refine XS.aloadN X3.here hexec rfl (hb hbytes d4) rfl rfl ?_
    refine XS.iloadN X3.here hexec rfl (hb hbytes d5) rfl ?_
    refine XS.aloadN X3.here hexec rfl (hb hbytes d6) rfl rfl ?_
    refine iconstV X3.here hexec rfl 0 (hb hbytes d7) (by decide) ?_
    refine XS.iloadN X3.here hexec rfl (hb hbytes d8) rfl ?_
    exact Steps.refl _)
  obtain ⟨v6, T6, X6, E6, g6⟩ := X3.callS hexec (Cmp5.law l b A s.heap.size B3 o 0 len) hown (wks W (staticW U16 115 Cmp5.yN)) (wk W Cmp5.tab) (W := 0) (Nat.le_of_ble_eq_true rfl) (Nat.le_of_ble_eq_true rfl) (Nat.le_refl _) (by show 0 + len + 0 ≤ len; omega) (g := (mkF m 9 #[.val (.ref b), .val (.int (Int32.ofNat o)), .val (.int (Int32.ofNat len)), .val (.ref s.heap.size), .unset, .unset] [.int (Int32.ofNat len), .int (Int32.ofNat 0), .ref s.heap.size, .int (Int32.ofNat o), .ref b])) rfl (by rw [hml]; rfl) c5 (argsL := [.ref b, .int (Int32.ofNat o), .ref s.heap.size, .int (Int32.ofNat 0), .int (Int32.ofNat len)]) (rest := []) rfl rfl (by show 2 * 0 + 0 ≤ _; decide) (hb hbytes d9) (⟨rfl, hA3, ba3, hne, l1, by rw [bs3]; simp, hp⟩)
  obtain ⟨rfl, B6, p6, f6⟩ := E6
  have c7 : Steps p.tables e below (s₁.setTop (entryFrame m #[.ref b, .int (Int32.ofNat o), .int (Int32.ofNat len)] 6)) (T6.setTop (mkF m 12 #[.val (.ref b), .val (.int (Int32.ofNat o)), .val (.int (Int32.ofNat len)), .val (.ref s.heap.size), .unset, .unset] [.int (Int32.ofNat len)])) := g6
  have c8 : Steps p.tables e below (s₁.setTop (entryFrame m #[.ref b, .int (Int32.ofNat o), .int (Int32.ofNat len)] 6)) (T6.setTop (mkF m 58 #[.val (.ref b), .val (.int (Int32.ofNat o)), .val (.int (Int32.ofNat len)), .val (.ref s.heap.size), .val (.int (Int32.ofNat len)), .unset] [.ref s.heap.size])) := c7.trans (by
    refine XS.istore X6.here hexec rfl (hb hbytes d12) rfl rfl ?_
    refine XS.iload X6.here hexec rfl (hb hbytes d14) rfl ?_
    refine XS.iloadN X6.here hexec rfl (hb hbytes d16) rfl ?_
    refine XS.icmpYes X6.here hexec rfl (pc0 := 17) rfl (hb hbytes d17) rfl (ii_eq_t rfl) (by decide) rfl ?_
    refine XS.aloadN X6.here hexec rfl (hb hbytes d57) rfl rfl ?_
    exact Steps.refl _)
  have X8 := X6.wide (L' := []) (cells' := 1) (slots' := len) (fun x hx hlt => by
    simp only [List.nil_append, copyLocs, List.mem_map, List.mem_range] at hx
    obtain ⟨i, -, rfl⟩ := hx
    exact absurd hlt (Nat.lt_irrefl _)) (Nat.le_refl _) (by omega)
  exact ⟨T6, some (.ref s.heap.size), _, _, _, X8, rfl, rfl, rfl, (fun h => by cases h), ⟨⟨rfl, B6, ba3.like (X3.warmed.alike.symm.trans X6.warmed.alike) p6.1 f6.1 f6.2.1 f6.2.2.1, f6.2.1.trans bv3, by rw [X6.warmed.alike.findClass, f6.1]; exact bf3, by rw [f6.2.2.1, bs3]; simp, fun j hj => by rw [f6.2.2.2 j, if_pos (by omega)]; rfl, kp3.put p6 (Nat.le_refl _)⟩, by rw [p6.2.2, bh3, hh0]; simp⟩, fun fs hl => c8.trans (X8.areturnOut hexec rfl hret rfl (hb hbytes d58) hl)⟩
end Cmp3
namespace CodL
def yN : MethodName := ⟨"java/lang/StringUTF16", "coderFromArrayLen", "([BI)B"⟩
abbrev yB : ByteArray := jdk_52_method_15_code
theorem d0 : decode yB 0 = .ok (.iload_n 1, 1) := by decide +kernel
theorem d1 : decode yB 1 = .ok (.aload_n 0, 1) := by decide +kernel
theorem d2 : decode yB 2 = .ok (.arraylength, 1) := by decide +kernel
theorem d3 : decode yB 3 = .ok (.isub, 1) := by decide +kernel
theorem d4 : decode yB 4 = .ok (.bipush 31, 2) := by decide +kernel
theorem d6 : decode yB 6 = .ok (.iushr, 1) := by decide +kernel
theorem d7 : decode yB 7 = .ok (.i2b, 1) := by decide +kernel
theorem d8 : decode yB 8 = .ok (.ireturn, 1) := by decide +kernel
def site : List Cond := []
def tab : Cond := tabOf yN yB 2 (some .byte) site
def P (d : Addr) (B : Cell) (args : Array Value) (s : State) : Prop := args = #[.ref d, .int (Int32.ofNat B.slots.size)] ∧ Arr .byte d B s
def E (r : Option Value) (s u : State) : Prop := XT.PureE (some (.int 0)) r s u
/-- an array as long as the number of chars: LATIN1 -/
theorem law (l : Launch) (d : Addr) (B : Cell) : Law l yN 2 2 0 0 yB 2 (some .byte) site (P d B) E [] 0 0 := by
  refine Law.of_walk (plainFor_of_name (by decide +kernel)) (by decide +kernel) (by decide +kernel) (by decide) (fun _ _ h => by rw [h.1]; rfl) (fun _ U U' hal hh h => ⟨h.1, h.2.mv hal hh⟩) (fun r U U' V V' h1 hal h2 h => XT.PureE.mv r U U' V V' h1 hal h2 h) ?_
  intro p e s m args below meth c s₁ X0 hexec hbytes hml hret hlk hnm hown hh0 W hP
  obtain ⟨rfl, hB⟩ := hP
  have hB0 := hB.mv X0.warmed.alike hh0
  have c1 : Steps p.tables e below (s₁.setTop (entryFrame m #[.ref d, .int (Int32.ofNat B.slots.size)] 2)) (s₁.setTop (mkF m 0 #[.val (.ref d), .val (.int (Int32.ofNat B.slots.size))] [])) := entry rfl
  have c2 : Steps p.tables e below (s₁.setTop (entryFrame m #[.ref d, .int (Int32.ofNat B.slots.size)] 2)) (s₁.setTop (mkF m 2 #[.val (.ref d), .val (.int (Int32.ofNat B.slots.size))] [.ref d, .int (Int32.ofNat B.slots.size)])) := c1.trans (by
    refine XS.iloadN X0.here hexec rfl (hb hbytes d0) rfl ?_
    refine XS.aloadN X0.here hexec rfl (hb hbytes d1) rfl rfl ?_
    exact Steps.refl _)
  have c3 : Steps p.tables e below (s₁.setTop (entryFrame m #[.ref d, .int (Int32.ofNat B.slots.size)] 2)) (s₁.setTop (mkF m 8 #[.val (.ref d), .val (.int (Int32.ofNat B.slots.size))] [.int (lo8 (ushr (Int32.ofNat B.slots.size - Int32.ofNat B.slots.size) 31))])) := c2.trans (by
    refine X0.alen hexec hB0 rfl rfl (hb hbytes d2) ?_
    refine XS.isub X0.here hexec rfl (hb hbytes d3) rfl ?_
    refine bipushV X0.here hexec rfl 31 (hb hbytes d4) (by decide) ?_
    refine iushr X0.here hexec rfl (hb hbytes d6) rfl ?_
    refine i2b X0.here hexec rfl (hb hbytes d7) rfl ?_
    exact Steps.refl _)
  have e0 : lo8 (ushr (Int32.ofNat B.slots.size - Int32.ofNat B.slots.size) 31) = 0 := by rw [Int32.sub_self]; decide
  rw [e0] at c3
  exact ⟨s₁, some (.int 0), _, _, _, X0, rfl, rfl, rfl, (fun h => by cases h), ⟨rfl, hh0⟩, fun fs hl => c3.trans (X0.ireturnOut hexec hret rfl (Or.inr (Or.inr (Or.inl rfl))) (hb hbytes d8) hl)⟩
end CodL
/-- the String at a is Latin-1 over a new byte[] (the heap's one new cell): the low bytes of the len chars of A from o on; every cell but a is kept -/
def Got (a : Addr) (D : Cell) (fV fC : Field) (A : Cell) (o len : Nat) (r : Option Value) (s u : State) : Prop := r = none ∧ ∃ D' V : Cell, Blank "java/lang/String" a D' u ∧ Same D D' [fV.slot, fC.slot] ∧ D'.slots[fV.slot]? = some (.ref s.heap.size) ∧ D'.slots[fC.slot]? = some (.int 0) ∧ Arr .byte s.heap.size V u ∧ V.vm = .none ∧ u.vm.findClass "[B" = some V.cls ∧ V.slots.size = len ∧ (∀ j, j < len → V.slots[j]? = some (.int (lo8 (cv A (o + j))))) ∧ (∀ (y : Addr) (c : Cell), y ≠ a → s.heap[y]? = some c → u.heap[y]? = some c) ∧ u.heap.size = s.heap.size + 1
theorem Got.mv {a : Addr} {D A : Cell} {fV fC : Field} {o len : Nat} : ∀ r (U U' V V' : State), U'.heap = U.heap → V.vm.Alike V'.vm → V'.heap = V.heap → Got a D fV fC A o len r U V → Got a D fV fC A o len r U' V' :=
  fun r U U' V V' h1 hal h2 ⟨e0, D', X, a1, a2, a3, a4, a5, a6, a7, a8, a9, a10, a11⟩ => ⟨e0, D', X, a1.mv hal h2, a2, by rw [h1]; exact a3, a4, by rw [h1]; exact a5.mv hal h2, a6, by rw [hal.findClass]; exact a7, a8, a9, by rw [h1, h2]; exact a10, by rw [h1, h2]; exact a11⟩
namespace New4
def yN : MethodName := ⟨"java/lang/String", "<init>", "([CIILjava/lang/Void;)V"⟩
abbrev yB : ByteArray := jdk_42_method_149_code
theorem d0 : decode yB 0 = .ok (.aload_n 0, 1) := by decide +kernel
theorem d1 : decode yB 1 = .ok (.invokespecial 1, 3) := by decide +kernel
theorem d4 : decode yB 4 = .ok (.iload_n 3, 1) := by decide +kernel
theorem d5 : decode yB 5 = .ok (.ifCond (.ne) 22, 3) := by decide +kernel
theorem d27 : decode yB 27 = .ok (.getstatic 38, 3) := by decide +kernel
theorem d30 : decode yB 30 = .ok (.ifCond (.eq) 28, 3) := by decide +kernel
theorem d33 : decode yB 33 = .ok (.aload_n 1, 1) := by decide +kernel
theorem d34 : decode yB 34 = .ok (.iload_n 2, 1) := by decide +kernel
theorem d35 : decode yB 35 = .ok (.iload_n 3, 1) := by decide +kernel
theorem d36 : decode yB 36 = .ok (.invokestatic 177, 3) := by decide +kernel
theorem d39 : decode yB 39 = .ok (.astore 5, 2) := by decide +kernel
theorem d41 : decode yB 41 = .ok (.aload_n 0, 1) := by decide +kernel
theorem d42 : decode yB 42 = .ok (.aload 5, 2) := by decide +kernel
theorem d44 : decode yB 44 = .ok (.iload_n 3, 1) := by decide +kernel
theorem d45 : decode yB 45 = .ok (.invokestatic 47, 3) := by decide +kernel
theorem d48 : decode yB 48 = .ok (.putfield 15, 3) := by decide +kernel
theorem d51 : decode yB 51 = .ok (.aload_n 0, 1) := by decide +kernel
theorem d52 : decode yB 52 = .ok (.aload 5, 2) := by decide +kernel
theorem d54 : decode yB 54 = .ok (.putfield 9, 3) := by decide +kernel
theorem d57 : decode yB 57 = .ok (.return_, 1) := by decide +kernel
def site : List Cond := [.fieldLink "java/lang/String" 38 "java/lang/String" "COMPACT_STRINGS" "Z", Cmp3.tab, CodL.tab, .laysFinal "java/lang/String" "java/lang/String" "value" "[B", .fieldLink "java/lang/String" 9 "java/lang/String" "value" "[B", .laysFinal "java/lang/String" "java/lang/String" "coder" "B", .fieldLink "java/lang/String" 15 "java/lang/String" "coder" "B"] ++ objW "java/lang/String" 1 ++ staticW "java/lang/String" 177 Cmp3.yN ++ staticW "java/lang/String" 47 CodL.yN
def tab : Cond := tabOf yN yB 6 none site
def P (a : Addr) (D : Cell) (fV fC : Field) (b : Addr) (A : Cell) (z : Int32) (o len : Nat) (args : Array Value) (s : State) : Prop := args = #[.ref a, .ref b, .int (Int32.ofNat o), .int (Int32.ofNat len), .null] ∧ Blank "java/lang/String" a D s ∧ Found "java/lang/String" "value" "[B" fV s ∧ Found "java/lang/String" "coder" "B" fC s ∧ Ch b A s ∧ StaticIs s "java/lang/String" "COMPACT_STRINGS" "Z" (.int z) ∧ ¬ z = 0 ∧ 0 < len ∧ o + len ≤ A.slots.size ∧ len ≤ 536870912 ∧ ∀ i, i < len → ¬ 255 < cv A (o + i)
def E (a : Addr) (D : Cell) (fV fC : Field) (A : Cell) (o len : Nat) (r : Option Value) (s u : State) : Prop := Got a D fV fC A o len r s u
/-- len > 0, no char of the range above 255: a Latin-1 String of their low bytes -/
theorem law (l : Launch) (a : Addr) (D : Cell) (fV fC : Field) (b : Addr) (A : Cell) (z : Int32) (o len : Nat) : Law l yN 5 4 2 35 yB 6 none site (P a D fV fC b A z o len) (E a D fV fC A o len) [⟨a, fC.slot⟩, ⟨a, fV.slot⟩] 1 len := by
  refine Law.of_walk (plainFor_of_name (by decide +kernel)) (by decide +kernel) (by decide +kernel) (by decide) (fun _ _ h => by rw [h.1]; rfl) (fun _ U U' hal hh h => ⟨h.1, h.2.1.mv hal hh, h.2.2.1.al hal, h.2.2.2.1.al hal, h.2.2.2.2.1.mv hal hh, h.2.2.2.2.2.1.there hal hh, h.2.2.2.2.2.2⟩) (fun r U U' V V' h1 hal h2 h => Got.mv r U U' V V' h1 hal h2 h) ?_
  intro p e s m args below meth c s₁ X0 hexec hbytes hml hret hlk hnm hown hh0 W hP
  obtain ⟨rfl, hB, f1, f2, hA, s1, hz, l0, l1, l2, hp⟩ := hP
  have a31 := hA.1.2.2.2
  have c1 : Steps p.tables e below (s₁.setTop (entryFrame m #[.ref a, .ref b, .int (Int32.ofNat o), .int (Int32.ofNat len), .null] 6)) (s₁.setTop (mkF m 0 #[.val (.ref a), .val (.ref b), .val (.int (Int32.ofNat o)), .val (.int (Int32.ofNat len)), .val .null, .unset] [])) := entry rfl
  have c2 : Steps p.tables e below (s₁.setTop (entryFrame m #[.ref a, .ref b, .int (Int32.ofNat o), .int (Int32.ofNat len), .null] 6)) (s₁.setTop (mkF m 1 #[.val (.ref a), .val (.ref b), .val (.int (Int32.ofNat o)), .val (.int (Int32.ofNat len)), .val .null, .unset] [.ref a])) := c1.trans (by
    refine XS.aloadN X0.here hexec rfl (hb hbytes d0) rfl rfl ?_
    exact Steps.refl _)
  obtain ⟨T3, X3, q3, st3⟩ := X0.oinit hexec hown (wks W (objW "java/lang/String" 1)) (g := (mkF m 1 #[.val (.ref a), .val (.ref b), .val (.int (Int32.ofNat o)), .val (.int (Int32.ofNat len)), .val .null, .unset] [.ref a])) rfl (by rw [hml]; rfl) (rest := []) rfl (hb hbytes d1) (W := 0) (by show 2 * 0 + 0 ≤ _; decide) (Nat.le_of_ble_eq_true rfl) (Nat.le_of_ble_eq_true rfl)
  have hh3 := q3.trans hh0
  have c4 : Steps p.tables e below (s₁.setTop (entryFrame m #[.ref a, .ref b, .int (Int32.ofNat o), .int (Int32.ofNat len), .null] 6)) (T3.setTop (mkF m 27 #[.val (.ref a), .val (.ref b), .val (.int (Int32.ofNat o)), .val (.int (Int32.ofNat len)), .val .null, .unset] [])) := (c2.trans (st3 _ (Steps.refl _))).trans (by
    refine XS.iloadN X3.here hexec rfl (hb hbytes d4) rfl ?_
    refine XS.ifYes X3.here hexec rfl (pc0 := 5) rfl (hb hbytes d5) rfl (i0_ne_t (nz32 (by omega) l0)) (by decide) rfl ?_
    exact Steps.refl _)
  obtain ⟨T5, X5, q5, st5⟩ := X3.sget hexec hown (wk W (.fieldLink "java/lang/String" 38 "java/lang/String" "COMPACT_STRINGS" "Z")) s1 (fun _ _ h => by rw [hh3]; exact h) (g := (mkF m 27 #[.val (.ref a), .val (.ref b), .val (.int (Int32.ofNat o)), .val (.int (Int32.ofNat len)), .val .null, .unset] [])) rfl (hb hbytes d27)
  have hh5 := q5.trans hh3
  have c6 : Steps p.tables e below (s₁.setTop (entryFrame m #[.ref a, .ref b, .int (Int32.ofNat o), .int (Int32.ofNat len), .null] 6)) (T5.setTop (mkF m 30 #[.val (.ref a), .val (.ref b), .val (.int (Int32.ofNat o)), .val (.int (Int32.ofNat len)), .val .null, .unset] [.int z])) := c4.trans (st5 _ (Steps.refl _))
  have c7 : Steps p.tables e below (s₁.setTop (entryFrame m #[.ref a, .ref b, .int (Int32.ofNat o), .int (Int32.ofNat len), .null] 6)) (T5.setTop (mkF m 36 #[.val (.ref a), .val (.ref b), .val (.int (Int32.ofNat o)), .val (.int (Int32.ofNat len)), .val .null, .unset] [.int (Int32.ofNat len), .int (Int32.ofNat o), .ref b])) := c6.trans (by
    refine XS.ifNo X5.here hexec rfl (hb hbytes d30) rfl (i0_eq_f hz) ?_
    refine XS.aloadN X5.here hexec rfl (hb hbytes d33) rfl rfl ?_
    refine XS.iloadN X5.here hexec rfl (hb hbytes d34) rfl ?_
    refine XS.iloadN X5.here hexec rfl (hb hbytes d35) rfl ?_
    exact Steps.refl _)
  obtain ⟨v8, T8, X8, E8, g8⟩ := X5.callS hexec (Cmp3.law l b A o len) hown (wks W (staticW "java/lang/String" 177 Cmp3.yN)) (wk W Cmp3.tab) (W := 0) (Nat.le_of_ble_eq_true rfl) (Nat.le_of_ble_eq_true rfl) (Nat.le_refl _) (by show 0 + len ≤ len; omega) (g := (mkF m 36 #[.val (.ref a), .val (.ref b), .val (.int (Int32.ofNat o)), .val (.int (Int32.ofNat len)), .val .null, .unset] [.int (Int32.ofNat len), .int (Int32.ofNat o), .ref b])) rfl (by rw [hml]; rfl) c7 (argsL := [.ref b, .int (Int32.ofNat o), .int (Int32.ofNat len)]) (rest := []) rfl rfl (by show 2 * 0 + 0 ≤ _; decide) (hb hbytes d36) (⟨rfl, hA.mv X5.warmed.alike hh5, l1, l2, hp⟩)
  obtain ⟨e8, z8⟩ := E8
  obtain ⟨rfl, N, n1, n2, n3, n4, n5, n6⟩ := NewArr.mv _ T5 s _ _ hh5.symm (Vm.Alike.refl _) rfl e8
  rw [hh5] at z8
  have hB1 := hB.keep X8.warmed.alike (n6 _ _ hB.1)
  have hne : s.heap.size ≠ a := (Nat.ne_of_lt (Array.getElem?_eq_some_iff.mp hB.1).1).symm
  have c9 : Steps p.tables e below (s₁.setTop (entryFrame m #[.ref a, .ref b, .int (Int32.ofNat o), .int (Int32.ofNat len), .null] 6)) (T8.setTop (mkF m 39 #[.val (.ref a), .val (.ref b), .val (.int (Int32.ofNat o)), .val (.int (Int32.ofNat len)), .val .null, .unset] [.ref s.heap.size])) := g8
  have c10 : Steps p.tables e below (s₁.setTop (entryFrame m #[.ref a, .ref b, .int (Int32.ofNat o), .int (Int32.ofNat len), .null] 6)) (T8.setTop (mkF m 45 #[.val (.ref a), .val (.ref b), .val (.int (Int32.ofNat o)), .val (.int (Int32.ofNat len)), .val .null, .val (.ref s.heap.size)] [.int (Int32.ofNat N.slots.size), .ref s.heap.size, .ref a])) := by
    have hc : Steps p.tables e below (s₁.setTop (entryFrame m #[.ref a, .ref b, .int (Int32.ofNat o), .int (Int32.ofNat len), .null] 6)) (T8.setTop (mkF m 45 #[.val (.ref a), .val (.ref b), .val (.int (Int32.ofNat o)), .val (.int (Int32.ofNat len)), .val .null, .val (.ref s.heap.size)] [.int (Int32.ofNat len), .ref s.heap.size, .ref a])) := c9.trans (by
      refine XS.astore X8.here hexec rfl (hb hbytes d39) rfl rfl rfl ?_
      refine XS.aloadN X8.here hexec rfl (hb hbytes d41) rfl rfl ?_
      refine XS.aload X8.here hexec rfl (hb hbytes d42) rfl rfl ?_
      refine XS.iloadN X8.here hexec rfl (hb hbytes d44) rfl ?_
      exact Steps.refl _)
    rw [n4]; exact hc
  obtain ⟨v11, T11, X11, E11, g11⟩ := X8.callS hexec (CodL.law l s.heap.size N) hown (wks W (staticW "java/lang/String" 47 CodL.yN)) (wk W CodL.tab) (W := 1) (Nat.le_of_ble_eq_true rfl) (Nat.le_of_ble_eq_true rfl) (Nat.le_refl _) (by show 0 + len + 0 ≤ len; omega) (g := (mkF m 45 #[.val (.ref a), .val (.ref b), .val (.int (Int32.ofNat o)), .val (.int (Int32.ofNat len)), .val .null, .val (.ref s.heap.size)] [.int (Int32.ofNat N.slots.size), .ref s.heap.size, .ref a])) rfl (by rw [hml]; rfl) c10 (argsL := [.ref s.heap.size, .int (Int32.ofNat N.slots.size)]) (rest := [.ref a]) rfl rfl (by show 2 * 0 + (1 + 0) ≤ _; decide) (hb hbytes d45) (⟨rfl, n1⟩)
  obtain ⟨rfl, q11⟩ := E11
  have hB11 := hB1.mv (X8.warmed.alike.symm.trans X11.warmed.alike) q11
  have c12 : Steps p.tables e below (s₁.setTop (entryFrame m #[.ref a, .ref b, .int (Int32.ofNat o), .int (Int32.ofNat len), .null] 6)) (T11.setTop (mkF m 48 #[.val (.ref a), .val (.ref b), .val (.int (Int32.ofNat o)), .val (.int (Int32.ofNat len)), .val .null, .val (.ref s.heap.size)] [.int 0, .ref a])) := g11
  obtain ⟨T13, X13, p13, bl13, sl13, st13⟩ := X11.finit hexec hown (wk W (.fieldLink "java/lang/String" 15 "java/lang/String" "coder" "B")) (Or.inr ⟨_, (wk W (.laysFinal "java/lang/String" "java/lang/String" "coder" "B"))⟩) (Or.inl ⟨rfl, hnm⟩) f2 (Or.inl rfl) hB11 (t := .byte) (by decide +kernel) rfl (g := (mkF m 48 #[.val (.ref a), .val (.ref b), .val (.int (Int32.ofNat o)), .val (.int (Int32.ofNat len)), .val .null, .val (.ref s.heap.size)] [.int 0, .ref a])) rfl (rest := []) rfl (hb hbytes d48)
  have c14 : Steps p.tables e below (s₁.setTop (entryFrame m #[.ref a, .ref b, .int (Int32.ofNat o), .int (Int32.ofNat len), .null] 6)) (T13.setTop (mkF m 54 #[.val (.ref a), .val (.ref b), .val (.int (Int32.ofNat o)), .val (.int (Int32.ofNat len)), .val .null, .val (.ref s.heap.size)] [.ref s.heap.size, .ref a])) := (c12.trans (st13 _ (Steps.refl _))).trans (by
    refine XS.aloadN X13.here hexec rfl (hb hbytes d51) rfl rfl ?_
    refine XS.aload X13.here hexec rfl (hb hbytes d52) rfl rfl ?_
    exact Steps.refl _)
  obtain ⟨T15, X15, p15, bl15, sl15, st15⟩ := X13.finit hexec hown (wk W (.fieldLink "java/lang/String" 9 "java/lang/String" "value" "[B")) (Or.inr ⟨_, (wk W (.laysFinal "java/lang/String" "java/lang/String" "value" "[B"))⟩) (Or.inl ⟨rfl, hnm⟩) f1 (Or.inl rfl) bl13 (t := (.array .byte)) (by decide +kernel) rfl (g := (mkF m 54 #[.val (.ref a), .val (.ref b), .val (.int (Int32.ofNat o)), .val (.int (Int32.ofNat len)), .val .null, .val (.ref s.heap.size)] [.ref s.heap.size, .ref a])) rfl (rest := []) rfl (hb hbytes d54)
  have c16 : Steps p.tables e below (s₁.setTop (entryFrame m #[.ref a, .ref b, .int (Int32.ofNat o), .int (Int32.ofNat len), .null] 6)) (T15.setTop (mkF m 57 #[.val (.ref a), .val (.ref b), .val (.int (Int32.ofNat o)), .val (.int (Int32.ofNat len)), .val .null, .val (.ref s.heap.size)] [])) := c14.trans (st15 _ (Steps.refl _))
  have ap := apart (Or.inr ⟨_, (wk W (.laysFinal "java/lang/String" "java/lang/String" "value" "[B"))⟩) (Or.inr ⟨_, (wk W (.laysFinal "java/lang/String" "java/lang/String" "coder" "B"))⟩) f1 f2 (t₁ := .array .byte) (t₂ := .byte) (by decide +kernel) (by decide +kernel) (by decide)
  have al := X8.warmed.alike.symm.trans X15.warmed.alike
  have n7 : T11.heap[s.heap.size]? = some N := by rw [q11]; exact n1.1
  exact ⟨T15, none, _, _, _, X15, by simp, rfl, by omega, (fun _ => rfl), ⟨rfl, _, N, bl15, ((Same.refl D _).set _ (by simp)).set _ (by simp), sl15, (Cell.slots_setSlot_ne _ ap).trans sl13, n1.keep al (p15.other hne (p13.other hne n7)), n2, by rw [al.findClass]; exact n3, n4, n5, fun y c h1 h2 => p15.other h1 (p13.other h1 (by rw [q11]; exact n6 y c h2)), by rw [p15.2.2, p13.2.2, q11]; exact z8⟩, fun fs hl => c16.trans (X15.returnOut hexec hret (hb hbytes d57) hl)⟩
end New4
namespace New1
def yN : MethodName := ⟨"java/lang/String", "<init>", "([C)V"⟩
abbrev yB : ByteArray := jdk_42_method_3_code
theorem d0 : decode yB 0 = .ok (.aload_n 0, 1) := by decide +kernel
theorem d1 : decode yB 1 = .ok (.aload_n 1, 1) := by decide +kernel
theorem d2 : decode yB 2 = .ok (.iconst 0, 1) := by decide +kernel
theorem d3 : decode yB 3 = .ok (.aload_n 1, 1) := by decide +kernel
theorem d4 : decode yB 4 = .ok (.arraylength, 1) := by decide +kernel
theorem d5 : decode yB 5 = .ok (.aconst_null, 1) := by decide +kernel
theorem d6 : decode yB 6 = .ok (.invokespecial 27, 3) := by decide +kernel
theorem d9 : decode yB 9 = .ok (.return_, 1) := by decide +kernel
def site : List Cond := [New4.tab] ++ initW "java/lang/String" 27 New4.yN
def tab : Cond := tabOf yN yB 2 none site
def P (a : Addr) (D : Cell) (fV fC : Field) (b : Addr) (A : Cell) (z : Int32) (args : Array Value) (s : State) : Prop := args = #[.ref a, .ref b] ∧ Blank "java/lang/String" a D s ∧ Found "java/lang/String" "value" "[B" fV s ∧ Found "java/lang/String" "coder" "B" fC s ∧ Ch b A s ∧ StaticIs s "java/lang/String" "COMPACT_STRINGS" "Z" (.int z) ∧ ¬ z = 0 ∧ 0 < A.slots.size ∧ A.slots.size ≤ 536870912 ∧ ∀ i, i < A.slots.size → ¬ 255 < cv A i
def E (a : Addr) (D : Cell) (fV fC : Field) (A : Cell) (r : Option Value) (s u : State) : Prop := Got a D fV fC A 0 A.slots.size r s u
/-- new String(chars), not empty, no char above 255: a Latin-1 String of their low bytes -/
theorem law (l : Launch) (a : Addr) (D : Cell) (fV fC : Field) (b : Addr) (A : Cell) (z : Int32) : Law l yN 2 1 3 52 yB 2 none site (P a D fV fC b A z) (E a D fV fC A) [⟨a, fC.slot⟩, ⟨a, fV.slot⟩] 1 A.slots.size := by
  refine Law.of_walk (plainFor_of_name (by decide +kernel)) (by decide +kernel) (by decide +kernel) (by decide) (fun _ _ h => by rw [h.1]; rfl) (fun _ U U' hal hh h => ⟨h.1, h.2.1.mv hal hh, h.2.2.1.al hal, h.2.2.2.1.al hal, h.2.2.2.2.1.mv hal hh, h.2.2.2.2.2.1.there hal hh, h.2.2.2.2.2.2⟩) (fun r U U' V V' h1 hal h2 h => Got.mv r U U' V V' h1 hal h2 h) ?_
  intro p e s m args below meth c s₁ X0 hexec hbytes hml hret hlk hnm hown hh0 W hP
  obtain ⟨rfl, hB, f1, f2, hA, s1, hz, l0, l2, hp⟩ := hP
  have c1 : Steps p.tables e below (s₁.setTop (entryFrame m #[.ref a, .ref b] 2)) (s₁.setTop (mkF m 0 #[.val (.ref a), .val (.ref b)] [])) := entry rfl
  have c2 : Steps p.tables e below (s₁.setTop (entryFrame m #[.ref a, .ref b] 2)) (s₁.setTop (mkF m 6 #[.val (.ref a), .val (.ref b)] [.null, .int (Int32.ofNat A.slots.size), .int 0, .ref b, .ref a])) := c1.trans (by
    refine XS.aloadN X0.here hexec rfl (hb hbytes d0) rfl rfl ?_
    refine XS.aloadN X0.here hexec rfl (hb hbytes d1) rfl rfl ?_
    refine iconstV X0.here hexec rfl 0 (hb hbytes d2) (by decide) ?_
    refine XS.aloadN X0.here hexec rfl (hb hbytes d3) rfl rfl ?_
    refine X0.alen hexec (hA.1.mv X0.warmed.alike hh0) rfl rfl (hb hbytes d4) ?_
    refine XS.aconstNull X0.here hexec rfl (hb hbytes d5) ?_
    exact Steps.refl _)
  obtain ⟨v3, T3, X3, E3, g3⟩ := X0.callN hexec (New4.law l a D fV fC b A z 0 A.slots.size) rfl hown (wks W (initW "java/lang/String" 27 New4.yN)) (W New4.tab (by simp only [site, List.mem_cons, List.mem_append, true_or, or_true])) (W := 0) (Nat.le_of_ble_eq_true rfl) (Nat.le_of_ble_eq_true rfl) (Nat.le_refl _) (by show 0 + A.slots.size ≤ A.slots.size; omega) (g := (mkF m 6 #[.val (.ref a), .val (.ref b)] [.null, .int (Int32.ofNat A.slots.size), .int (Int32.ofNat 0), .ref b, .ref a])) rfl (by rw [hml]; rfl) c2 (argsL := [.ref b, .int (Int32.ofNat 0), .int (Int32.ofNat A.slots.size), .null]) (rest := []) rfl rfl (by show 2 * 0 + 0 ≤ _; decide) (hb hbytes d6) (⟨rfl, hB.mv X0.warmed.alike hh0, f1.al X0.warmed.alike, f2.al X0.warmed.alike, hA.mv X0.warmed.alike hh0, s1.there X0.warmed.alike hh0, hz, l0, by omega, l2, fun i hi => by rw [Nat.zero_add]; exact hp i hi⟩)
  have e0 := Got.mv _ s₁ s _ _ hh0.symm (Vm.Alike.refl _) rfl E3
  obtain rfl := e0.1
  have c4 : Steps p.tables e below (s₁.setTop (entryFrame m #[.ref a, .ref b] 2)) (T3.setTop (mkF m 9 #[.val (.ref a), .val (.ref b)] [])) := g3
  exact ⟨T3, none, _, _, _, X3, by simp, rfl, by omega, (fun _ => rfl), e0, fun fs hl => c4.trans (X3.returnOut hexec hret (hb hbytes d9) hl)⟩
theorem pays {l : Launch} {R : Room} {p : Program} {e : Env} {below : List Frame} {s : State} {sargs : Array Value} {len W : Nat} (a : Addr) (D : Cell) (fV fC : Field) (b : Addr) (A : Cell) (z : Int32) (htab : tab.before sargs s = true) (hfr : 4 ≤ R.frames) (hlo : W + 65 ≤ R.locals) :
    Back l R p e below s sargs yN len W (fun A₁ a₁ => A₁.cells + 1 ≤ R.cells ∧ A₁.slots + A.slots.size ≤ R.slots ∧ P a D fV fC b A z a₁ A₁.U) (fun A₁ _ v₁ B₁ => E a D fV fC A v₁ A₁.U B₁.U ∧ B₁.locs = A₁.locs ++ [⟨a, fC.slot⟩, ⟨a, fV.slot⟩] ∧ B₁.cells = A₁.cells + 1 ∧ B₁.slots = A₁.slots + A.slots.size) :=
  (law l a D fV fC b A z).pays htab hfr (by omega)
end New1
/-- the byte, read back as charAt reads it, is the char -/
theorem lo8_mask {x : Int32} (h0 : ¬ x < 0) (h1 : ¬ 255 < x) : lo8 x &&& 255 = x := by
  have t : ∀ k : Fin 256, lo8 (Int32.ofNat k.val) &&& 255 = Int32.ofNat k.val := by decide +kernel
  rw [Int32.lt_iff_toInt_lt] at h0 h1
  have e0 : (0 : Int32).toInt = 0 := rfl
  have e1 : (255 : Int32).toInt = 255 := rfl
  obtain ⟨k, hk⟩ : ∃ k : Nat, x.toInt = k := ⟨x.toInt.toNat, by omega⟩
  have hx : x = Int32.ofNat k := Int32.toInt_inj.mp (by rw [hk, Int32.toInt_ofNat_small (by omega)])
  rw [hx]
  exact t ⟨k, by omega⟩
end StrChars
namespace StrChars.Road
open Jvm Sem ClassFile Op Lib Jvm.Stand Jvm.Free Jvm.Free.XT
open Jvm.Lib.Cold (StaticIs)
abbrev ST : String := "java/lang/String"
/-- every table word that New1's law asks, flat -/
abbrev words : List Jvm.Cond := [.code New1.yN New1.yB 2 none, .initialized ST, .methodLink ST 27 New4.yN, .instanceMethod New4.yN,
  .code New4.yN New4.yB 6 none, .fieldLink ST 38 ST "COMPACT_STRINGS" "Z", .laysFinal ST ST "value" "[B", .fieldLink ST 9 ST "value" "[B", .laysFinal ST ST "coder" "B", .fieldLink ST 15 ST "coder" "B",
  .methodLink ST 1 Lib.objectInit, .instanceMethod Lib.objectInit, .code Lib.objectInit ⟨#[0xb1]⟩ 1 none, .methodLink ST 177 Cmp3.yN, .static Cmp3.yN, .methodLink ST 47 CodL.yN, .static CodL.yN,
  .code Cmp3.yN Cmp3.yB 6 (some (.array .byte)), .initialized U16, .arrayClass .byte, .methodLink U16 115 Cmp5.yN, .static Cmp5.yN, .code Cmp5.yN Cmp5.yB 7 (some .int), .code CodL.yN CodL.yB 2 (some .byte)]
theorem tab_of {a : Array Value} {s : State} (h : ∀ w ∈ words, w.before a s = true) : New1.tab.before a s = true := by
  have h5 : Cmp5.tab.before a s = true := unparts (wk h (.code Cmp5.yN Cmp5.yB 7 (some .int))) (wks h (.initialized Cmp5.yN.cls :: Cmp5.site))
  have hc : CodL.tab.before a s = true := unparts (wk h (.code CodL.yN CodL.yB 2 (some .byte))) (wks h (.initialized CodL.yN.cls :: CodL.site))
  have q5 : ∀ w ∈ Cmp5.tab :: words, w.before a s = true := fun w hw => (List.mem_cons.mp hw).elim (fun e => e ▸ h5) (h w)
  have h3 : Cmp3.tab.before a s = true := unparts (wk q5 (.code Cmp3.yN Cmp3.yB 6 (some (.array .byte)))) (wks q5 (.initialized Cmp3.yN.cls :: Cmp3.site))
  have q3 : ∀ w ∈ Cmp3.tab :: CodL.tab :: words, w.before a s = true := fun w hw => (List.mem_cons.mp hw).elim (fun e => e ▸ h3) fun hw => (List.mem_cons.mp hw).elim (fun e => e ▸ hc) (h w)
  have h4 : New4.tab.before a s = true := unparts (wk q3 (.code New4.yN New4.yB 6 none)) (wks q3 (.initialized New4.yN.cls :: New4.site))
  have q4 : ∀ w ∈ New4.tab :: words, w.before a s = true := fun w hw => (List.mem_cons.mp hw).elim (fun e => e ▸ h4) (h w)
  exact unparts (wk q4 (.code New1.yN New1.yB 2 none)) (wks q4 (.initialized New1.yN.cls :: New1.site))
/-- the words ride from the start Z to the walk's own state -/
theorem moved {Z s : State} {a0 args : Array Value} (hZ : Z.Warmed39 s.vm) (hw : ∀ d ∈ words, d.before a0 Z = true) : ∀ d ∈ words, d.before args s = true := fun d hd => by
  have q := hw d hd
  have t : ∀ d ∈ words, d = .arrayClass .byte ∨ (d.onTables && d.keepsFace) = true := by decide +kernel
  rcases t d hd with rfl | t
  · exact RoadKit.mvA hZ q
  · exact RoadKit.mv hZ q t
/-- WHAT COMES BACK, over the tables of the start Z: h the heap at the call, h' behind it -/
def Q (Z : State) (x : Addr) (A : Cell) (h : Heap) (v : Option Value) (h' : Heap) (L : List Loc) : Prop := v = none ∧ (∀ y ∈ L, y.base = x) ∧ RoadKit.Keep h h' [x] ∧ h'.size = h.size + 1 ∧ RoadKit.Exa Z h' x ST ∧ RoadKit.Fld Z h' x ST "value" "[B" (.ref h.size) ∧ RoadKit.Fld Z h' x ST "coder" "B" (.int 0) ∧
  (∃ V : Cell, RoadKit.Arr Z h' h.size V .byte ∧ V.vm = .none ∧ Z.vm.findClass "[B" = some V.cls ∧ V.slots.size = A.slots.size ∧ ∀ j, j < A.slots.size → V.slots[j]? = some (.int (lo8 (cv A j)))) ∧
  ∀ (O n d : String) (w : Value), RoadKit.Fld Z h x O n d w → RoadKit.slotOf Z O n d ≠ RoadKit.slotOf Z ST "value" "[B" → RoadKit.slotOf Z O n d ≠ RoadKit.slotOf Z ST "coder" "B" → RoadKit.Fld Z h' x O n d w
/-- **new String(chars) AT A CALL, IN THE ROAD'S FORM**: for specialBack behind newO: x the fresh String, b the char[] with the cell A -/
theorem back {p : Program} {l : Launch} {e : Env} {R : Room} {s : State} {args : Array Value} {below : List Frame} {len W : Nat} {Z : State} {a0 : Array Value} {h : Heap} (hZ : Z.Warmed39 s.vm) (hw : ∀ d ∈ words, d.before a0 Z = true) {kI : Nat} (wi : (Jvm.Cond.instantiable ST kI).before a0 Z = true)
    {x b : Addr} {A : Cell} {z : Int32} {v0 c0 : Value} (E : RoadKit.Exa Z h x ST) (V : RoadKit.Fld Z h x ST "value" "[B" v0) (C : RoadKit.Fld Z h x ST "coder" "B" c0) (K : RoadKit.Arr Z h b A .char) (hty : Typed .char A) (S : RoadKit.Sta Z h ST "COMPACT_STRINGS" "Z" (.int z)) (hz : ¬ z = 0)
    (l0 : 0 < A.slots.size) (l2 : A.slots.size ≤ 536870912) (hp : ∀ i, i < A.slots.size → ¬ 255 < cv A i) (hfr : 4 ≤ R.frames) (hlo : W + 65 ≤ R.locals) :
    Back l R p e below s args New1.yN len W (fun P a => a = #[.ref x, .ref b] ∧ P.U.heap = h ∧ P.cells + 1 ≤ R.cells ∧ P.slots + A.slots.size ≤ R.slots)
      (fun P _ v B => ∃ L, Q Z x A h v B.U.heap L ∧ B.locs = P.locs ++ L ∧ B.cells = P.cells + 1 ∧ B.slots = P.slots + A.slots.size) := by
  intro m meth c P g ig mk a X hg hsize hdg hW hn hp'
  obtain ⟨rfl, rfl, r1, r2⟩ := hp'
  have al : Z.vm.Alike P.U.vm := hZ.alike.trans X.warmed.alike
  obtain ⟨D, cfV, kV, iV, fV, hD, gV, stV, knV, obV, asV, slV⟩ := id V
  obtain ⟨D', cfC, kC, iC, fC, hD', gC, stC, -, -, asC, slC⟩ := id C
  cases hD.symm.trans hD'
  obtain ⟨D2, kD, e1, e2, e3, e4, e5⟩ := id E
  cases hD.symm.trans e1
  obtain ⟨c2, k2, i1, i2, i3, -⟩ := Cond.instantiable_spec wi
  cases e2.symm.trans i1
  cases e3.symm.trans i2
  obtain ⟨kU, u1, u2⟩ := al.2.2 _ _ e3
  have hB : Blank ST x D P.U := ⟨hD, ⟨knV, fun q hq => by rw [hq] at obV; cases obV⟩, by rw [al.findClass]; exact e2, kU, u1, by rw [u2]; exact i3, by rw [u2]; exact e5 i3⟩
  have F1 : Found ST "value" "[B" fV P.U := ⟨SBG.found_only al ⟨cfV, kV, iV, gV⟩, stV⟩
  have F2 : Found ST "coder" "B" fC P.U := ⟨SBG.found_only al ⟨cfC, kC, iC, gC⟩, stC⟩
  have hA : Ch b A P.U := ⟨⟨K.1, State.isArrayOf_alike al K.2.1, K.2.2, by omega⟩, hty⟩
  have hS : StaticIs P.U ST "COMPACT_STRINGS" "Z" (.int z) := by
    obtain ⟨cfS, iS, kS, fS, st, cS, t1, t2, t3, t4, t5, t6, t7⟩ := S
    exact StaticIs.there (s := { Z with heap := P.U.heap }) ⟨cfS, iS, kS, fS, st, cS, t1, t2, t3, t4, t5, (fun q => by rw [q] at t6; cases t6), t7⟩ al rfl
  obtain ⟨v, B, X', ⟨⟨hv, E', V', q1, q2, q3, q4, q5, q6, q7, q8, q9, q10, q11⟩, hl, hc, hs⟩, st⟩ := New1.pays x D fV fC b A z (tab_of (moved hZ hw)) hfr hlo m meth c P g ig mk _ X hg hsize hdg hW hn ⟨r1, r2, rfl, hB, F1, F2, hA, hS, hz, l0, l2, hp⟩
  have al' : Z.vm.Alike B.U.vm := hZ.alike.trans X'.warmed.alike
  have hsz : E'.slots.size = D.slots.size := by
    obtain ⟨-, -, -, kB, w1, w2, w3⟩ := q1
    obtain ⟨kB', y1, y2⟩ := al'.2.2 _ _ e3
    rw [q2.2.1] at w1
    cases w1.symm.trans y1
    rw [w3, e5 i3, y2]
  refine ⟨v, B, X', ⟨_, ⟨hv, ?_, ⟨by omega, fun y cy hy hn' => q10 y cy (by simpa using hn') hy, fun y cy hy => ?_⟩, q11, ⟨E', _, q1.1, by rw [q2.2.1]; exact e2, by rw [q2.2.1]; exact e3, by rw [q2.1]; exact obV, fun _ => by rw [hsz]; exact e5 i3⟩,
    ⟨E', cfV, kV, iV, fV, q1.1, gV, stV, by rw [q2.1]; exact knV, by rw [q2.1]; exact obV, by rw [q2.2.1]; exact asV, q3⟩, ⟨E', cfC, kC, iC, fC, q1.1, gC, stC, by rw [q2.1]; exact knV, by rw [q2.1]; exact obV, by rw [q2.2.1]; exact asC, q4⟩,
    ⟨V', ⟨q5.1, State.isArrayOf_alike al'.symm q5.2.1, q5.2.2.1⟩, q6, by rw [← al'.findClass]; exact q7, q8, fun j hj => by have := q9 j hj; rwa [Nat.zero_add] at this⟩, fun O n d w F n1 n2 => ?_⟩, hl, hc, hs⟩, st⟩
  · intro y hy
    simp only [List.mem_cons, List.not_mem_nil, or_false] at hy
    rcases hy with rfl | rfl <;> rfl
  · by_cases q : y = x
    · subst q
      cases hD.symm.trans hy
      exact ⟨E', q1.1, q2.2.1, q2.1, hsz⟩
    · exact ⟨cy, q10 y cy q hy, rfl, rfl, rfl⟩
  · obtain ⟨D3, cf, k, i, f, g1, g2, g3, g4, g5, g6, g7⟩ := F
    cases hD.symm.trans g1
    simp only [RoadKit.slotOf, g2, gV, gC, Option.map_some, Option.getD_some] at n1 n2
    exact ⟨E', cf, k, i, f, q1.1, g2, g3, by rw [q2.1]; exact g4, by rw [q2.1]; exact g5, by rw [q2.2.1]; exact g6, by rw [q2.2.2 f.slot (by simp [n1, n2])]; exact g7⟩
end StrChars.Road
namespace StrChars.Road
open Jvm Sem ClassFile Op Lib Jvm.Stand Jvm.Free Jvm.Free.XT
/-- WHAT COMES BACK, the byte[] as a list of values -/
def QA (Z : State) (x : Addr) (zn : Int32) (cs : List Int32) (h : Heap) (v : Option Value) (h' : Heap) (L : List Loc) : Prop := v = none ∧ (∀ y ∈ L, y.base = x) ∧ RoadKit.Keep h h' [x] ∧ h'.size = h.size + 1 ∧ RoadKit.Exa Z h' x ST ∧ RoadKit.Fld Z h' x ST "value" "[B" (.ref h.size) ∧ RoadKit.Fld Z h' x ST "coder" "B" (.int 0) ∧
  (∃ kb, Z.vm.findClass "[B" = some kb ∧ RoadKit.Arv Z h' h.size kb .byte zn (cs.map fun c => .int (lo8 c)) (.int 0)) ∧
  ∀ (O n d : String) (w : Value), RoadKit.Fld Z h x O n d w → RoadKit.slotOf Z O n d ≠ RoadKit.slotOf Z ST "value" "[B" → RoadKit.slotOf Z O n d ≠ RoadKit.slotOf Z ST "coder" "B" → RoadKit.Fld Z h' x O n d w
/-- **new String(chars) AT A CALL, THE ARRAYS AS LISTS**: the char[] at b holds cs, not empty, no char above 255 -/
theorem backArv {p : Program} {l : Launch} {e : Env} {R : Room} {s : State} {args : Array Value} {below : List Frame} {len W : Nat} {Z : State} {a0 : Array Value} {h : Heap} (hZ : Z.Warmed39 s.vm) (hw : ∀ d ∈ words, d.before a0 Z = true) {kI : Nat} (wi : (Jvm.Cond.instantiable ST kI).before a0 Z = true)
    {x b : Addr} {k : ClassId} {zn z : Int32} {cs : List Int32} {dv v0 c0 : Value} (E : RoadKit.Exa Z h x ST) (V : RoadKit.Fld Z h x ST "value" "[B" v0) (C : RoadKit.Fld Z h x ST "coder" "B" c0) (K : RoadKit.Arv Z h b k .char zn (cs.map Value.int) dv) (S : RoadKit.Sta Z h ST "COMPACT_STRINGS" "Z" (.int z)) (hz : ¬ z = 0)
    (hlen : zn.toNatClampNeg = cs.length) (h0 : 0 < cs.length) (hbig : cs.length ≤ 536870912) (hall : ∀ c ∈ cs, ¬ 255 < c) (hfr : 4 ≤ R.frames) (hlo : W + 65 ≤ R.locals) :
    Back l R p e below s args New1.yN len W (fun P a => a = #[.ref x, .ref b] ∧ P.U.heap = h ∧ P.cells + 1 ≤ R.cells ∧ P.slots + cs.length ≤ R.slots)
      (fun P _ v B => ∃ L, QA Z x zn cs h v B.U.heap L ∧ B.locs = P.locs ++ L ∧ B.cells = P.cells + 1 ∧ B.slots = P.slots + cs.length) := by
  obtain ⟨A, K1, K2, K3, K4, K5, K6⟩ := K
  have e : A.slots.size = cs.length := K3.trans hlen
  have hat : ∀ (i : Nat) (hi : i < cs.length), A.slots[i]? = some (.int cs[i]) := fun i hi => by rw [K5 i (by omega)]; simp [List.getD_eq_getElem?_getD, hi]
  have hcv : ∀ (i : Nat) (hi : i < cs.length), cv A i = cs[i] := fun i hi => by unfold cv; rw [hat i hi]
  have hty : Typed .char A := fun i v hv => by
    have hi : i < A.slots.size := (Array.getElem?_eq_some_iff.mp hv).1
    have q := K5 i hi
    rw [hv] at q
    rw [Option.some.inj q]
    exact K6 i hi
  refine Back.mono (back hZ hw wi E V C K1 hty S hz (by omega) (by omega) (fun i hi => by rw [hcv i (by omega)]; exact hall _ (List.getElem_mem _)) hfr hlo) (fun P a hp => ⟨hp.1, hp.2.1, hp.2.2.1, by rw [e]; exact hp.2.2.2⟩) (fun P a v B hp hq => ?_)
  obtain ⟨L, ⟨q1, q2, q3, q4, q5, q6, q7, ⟨V', v1, v2, v3, v4, v5⟩, q9⟩, hl, hc, hs⟩ := hq
  refine ⟨L, ⟨q1, q2, q3, q4, q5, q6, q7, ⟨V'.cls, v3, V', v1, rfl, by rw [v4, e, hlen], K4, fun i hi => ?_, fun i hi => ?_⟩, q9⟩, hl, hc, by rw [hs, e]⟩
  · have hi' : i < cs.length := by omega
    rw [v5 i (by omega), hcv i hi']; simp [List.getD_eq_getElem?_getD, hi']
  · have hi' : i < cs.length := by omega
    simp only [List.getD_eq_getElem?_getD, List.getElem?_map, List.getElem?_eq_getElem hi', Option.map_some, Option.getD_some]
    exact fits_lo8 _
end StrChars.Road
namespace StrChars.Road
open Jvm Sem ClassFile Op Lib Jvm.Stand Jvm.Free Jvm.Free.XT
/-- WHAT COMES BACK, in the writer's own shape -/
def QV (Z : State) (x : Addr) (N : Int32) (bs : List Int32) (h : Heap) (n0 : Nat) (v : Option Value) (h' : Heap) (L : List Loc) : Prop := v = none ∧ RoadKit.Fr n0 L ∧ RoadKit.Keep h h' [x] ∧ RoadKit.Exa Z h' x ST ∧ RoadKit.Fld Z h' x ST "coder" "B" (.int 0) ∧
  ∃ (t : Addr) (kb : ClassId), n0 ≤ t ∧ h.size ≤ t ∧ ¬ t = x ∧ RoadKit.Fld Z h' x ST "value" "[B" (.ref t) ∧ RoadKit.Arv Z h' t kb .byte N (bs.map Value.int) (.int 0)
/-- **new String(chars) AT A CALL, FOR THE WRITER**: a char[] of n known ints, each 0 to 255 -/
theorem backV {p : Program} {l : Launch} {e : Env} {R : Room} {s : State} {args : Array Value} {below : List Frame} {len W : Nat} {Z : State} {a0 : Array Value} {h : Heap} (hZ : Z.Warmed39 s.vm) (hw : ∀ d ∈ words, d.before a0 Z = true) {kI : Nat} (wi : (Jvm.Cond.instantiable ST kI).before a0 Z = true)
    {x b : Addr} {kC : ClassId} {cs bs : List Int32} {d v0 c0 : Value} {z N : Int32} {n n0 : Nat} (hx0 : n0 ≤ x) (hh0 : n0 ≤ h.size) (E : RoadKit.Exa Z h x ST) (V : RoadKit.Fld Z h x ST "value" "[B" v0) (C : RoadKit.Fld Z h x ST "coder" "B" c0) (K : RoadKit.Arv Z h b kC .char N (cs.map Value.int) d) (S : RoadKit.Sta Z h ST "COMPACT_STRINGS" "Z" (.int z)) (hz : ¬ z = 0)
    (hn : cs.length = n) (hN : N = Int32.ofNat n) (l0 : 0 < n) (l2 : n ≤ 4000) (hp : ∀ c ∈ cs, ¬ c < 0 ∧ ¬ (255 : Int32) < c) (hb : bs = cs.map (fun c => c.toInt8.toInt32)) (hfr : 4 ≤ R.frames) (hlo : W + 65 ≤ R.locals) :
    Back l R p e below s args (⟨"java/lang/String", "<init>", "([C)V"⟩ : MethodName) len W (fun P a => a = #[.ref x, .ref b] ∧ P.U.heap = h ∧ P.cells + 1 ≤ R.cells ∧ P.slots + n ≤ R.slots)
      (fun P _ v B => ∃ L, QV Z x N bs h n0 v B.U.heap L ∧ B.locs = P.locs ++ L ∧ B.cells = P.cells + 1 ∧ B.slots = P.slots + n) := by
  subst hn hN hb
  refine Back.mono (backArv hZ hw wi E V C K S hz (n32 (by omega)) l0 (by omega) (fun c hc => (hp c hc).2) hfr hlo) (fun P a hp => hp) (fun P a v B hp hq => ?_)
  obtain ⟨L, ⟨q1, q2, q3, q4, q5, q6, q7, ⟨kb, v1, v2⟩, q9⟩, hl, hc, hs⟩ := hq
  exact ⟨L, ⟨q1, fun y hy => by rw [q2 y hy]; exact hx0, q3, q5, q7, h.size, kb, hh0, Nat.le_refl _, Nat.ne_of_gt E.lt, q6, by rw [List.map_map]; exact v2⟩, hl, hc, hs⟩
end StrChars.Road
namespace StrChars
open Jvm Sem ClassFile Op Lib Jvm.Stand Jvm.Free.XT Jvm.Free.ALB Jvm.Free.JM Jvm.Free
open Jvm.Lib.Cold (StaticIs)
def hi8 (x : Int32) : Int32 := lo8 (x >>> ((8 : Int32) &&& 31))
/-- what StringUTF16.getChar makes of two bytes -/
def pairCh (u v : Int32) : Int32 := (((u &&& 255) <<< ((0 : Int32) &&& 31)) ||| ((v &&& 255) <<< ((8 : Int32) &&& 31))).toUInt32.toUInt16.toUInt32.toInt32
theorem lo8_and (x : Int32) : (lo8 x &&& 255).toBitVec.toNat = x.toBitVec.toNat % 256 := by
  have h : (lo8 x).toBitVec = (x.toBitVec.signExtend 8).signExtend 32 := by rw [lo8, Int8.toBitVec_toInt32, Int32.toBitVec_toInt8]
  rw [Int32.toBitVec_and, BitVec.toNat_and, h]
  have e : ((x.toBitVec.signExtend 8).signExtend 32).toNat % 256 = x.toBitVec.toNat % 256 := by
    rw [BitVec.toNat_signExtend]
    have hlt := x.toBitVec.isLt
    simp only [BitVec.toNat_setWidth, BitVec.toNat_signExtend]
    split <;> split <;> omega
  rw [← e]
  exact Nat.and_two_pow_sub_one_eq_mod _ 8
theorem pair_says {c : Int32} (h0 : ¬ c < 0) (h1 : ¬ 65535 < c) : pairCh (lo8 c) (hi8 c) = c := by
  rw [Int32.lt_iff_toInt_lt] at h0 h1
  have e0 : (0 : Int32).toInt = 0 := rfl
  have e1 : (65535 : Int32).toInt = 65535 := rfl
  have hc : c.toInt = c.toBitVec.toNat := by
    have := c.toBitVec.isLt
    have e : c.toInt = c.toBitVec.toInt := rfl
    rw [e] at h0 h1
    rw [e]
    rw [BitVec.toInt_eq_toNat_cond] at h0 h1 ⊢
    split at h0 <;> split <;> omega
  have hn : c.toBitVec.toNat < 65536 := by omega
  have a1 := lo8_and c
  have a2 : (hi8 c &&& 255).toBitVec.toNat = c.toBitVec.toNat / 256 := by
    rw [hi8, lo8_and]
    have e : ((8 : Int32) &&& 31) = 8 := by decide
    rw [e, Int32.toBitVec_shiftRight]
    have e2 : ((8 : Int32).toBitVec.smod 32) = 8#32 := by decide
    rw [e2, BitVec.sshiftRight_eq', BitVec.toNat_sshiftRight_of_msb_false (by rw [BitVec.msb_eq_false_iff_two_mul_lt]; omega)]
    show c.toBitVec.toNat >>> 8 % 256 = _
    rw [Nat.shiftRight_eq_div_pow]
    omega
  unfold pairCh
  apply Int32.toBitVec_inj.mp
  apply BitVec.eq_of_toNat_eq
  have f0 : ((0 : Int32) &&& 31) = 0 := by decide
  have f8 : ((8 : Int32) &&& 31) = 8 := by decide
  rw [f0, f8]
  have g : (((lo8 c &&& 255) <<< (0 : Int32)) ||| ((hi8 c &&& 255) <<< (8 : Int32))).toBitVec.toNat = c.toBitVec.toNat := by
    rw [Int32.toBitVec_or, Int32.toBitVec_shiftLeft, Int32.toBitVec_shiftLeft]
    have s0 : ((0 : Int32).toBitVec.smod 32) = 0#32 := by decide
    have s8 : ((8 : Int32).toBitVec.smod 32) = 8#32 := by decide
    rw [s0, s8, BitVec.toNat_or]
    simp only [BitVec.shiftLeft_eq', BitVec.toNat_shiftLeft, a1, a2]
    show (c.toBitVec.toNat % 256) <<< 0 % 2 ^ 32 ||| (c.toBitVec.toNat / 256) <<< 8 % 2 ^ 32 = _
    rw [Nat.shiftLeft_zero, Nat.mod_eq_of_lt (show c.toBitVec.toNat % 256 < 2 ^ 32 by omega), Nat.mod_eq_of_lt (show (c.toBitVec.toNat / 256) <<< 8 < 2 ^ 32 by rw [Nat.shiftLeft_eq]; omega), Nat.or_comm, ← Nat.shiftLeft_add_eq_or_of_lt (by omega), Nat.shiftLeft_eq]
    omega
  show BitVec.toNat (((((lo8 c &&& 255) <<< (0 : Int32)) ||| ((hi8 c &&& 255) <<< (8 : Int32))).toBitVec.setWidth 16).setWidth 32) = _
  rw [BitVec.toNat_setWidth, BitVec.toNat_setWidth, g]
  omega
end StrChars
namespace StrChars
open Jvm Sem ClassFile Op Lib Jvm.Stand Jvm.Free.XT Jvm.Free.ALB Jvm.Free.JM Jvm.Free
open Jvm.Lib.Cold (StaticIs)
/-- the array's cell V codes the n chars f 0 .. f (n - 1) by the coder cd, as the JDK does: coder 1 just where some char is above 255 -/
def Cod (cd : Int32) (n : Nat) (f : Nat → Int32) (V : Cell) : Prop := (cd = 0 ∧ V.slots.size = n ∧ ∀ j, j < n → V.slots[j]? = some (.int (lo8 (f j))) ∧ ¬ 255 < f j) ∨ (cd = 1 ∧ V.slots.size = 2 * n ∧ (∀ j, j < n → V.slots[2 * j]? = some (.int (lo8 (f j))) ∧ V.slots[2 * j + 1]? = some (.int (hi8 (f j)))) ∧ ∃ j, j < n ∧ 255 < f j)
/-- **x is a String of the n chars f 0 .. f (n - 1)**, Latin-1 or UTF-16; its array at t has the cell V -/
def Txt (x t : Addr) (V : Cell) (cd : Int32) (n : Nat) (f : Nat → Int32) (U : State) : Prop := Exact "java/lang/String" x U ∧ Has x "java/lang/String" "value" "[B" (.ref t) U ∧ Has x "java/lang/String" "coder" "B" (.int cd) U ∧ XT.Arr .byte t V U ∧ Cod cd n f V ∧ ∀ j, j < n → ¬ f j < 0 ∧ ¬ 65535 < f j
theorem Txt.mv {x t : Addr} {V : Cell} {cd : Int32} {n : Nat} {f : Nat → Int32} {U U' : State} (h : Txt x t V cd n f U) (hal : U.vm.Alike U'.vm) (hh : U'.heap = U.heap) : Txt x t V cd n f U' := ⟨h.1.mv hal hh, h.2.1.mv hal hh, h.2.2.1.mv hal hh, h.2.2.2.1.mv hal hh, h.2.2.2.2⟩
end StrChars
namespace StrChars.Road
open Jvm Sem ClassFile Op Lib Jvm.Stand Jvm.Free Jvm.Free.XT
open Jvm.Lib.Cold (StaticIs)
theorem consq {a : Array Value} {s : State} {c : Jvm.Cond} {L : List Jvm.Cond} (h0 : c.before a s = true) (h : ∀ w ∈ L, w.before a s = true) : ∀ w ∈ c :: L, w.before a s = true := fun w hw => (List.mem_cons.mp hw).elim (fun e => e ▸ h0) (h w)
/-- the bytes of the chars cs, low before high -/
def wideBytes : List Int32 → List Value
  | [] => []
  | c :: cs => .int (lo8 c) :: .int (hi8 c) :: wideBytes cs
theorem wide_lo (d : Value) : ∀ (cs : List Int32) (j : Nat), j < cs.length → (wideBytes cs).getD (2 * j) d = .int (lo8 (cs.getD j 0))
  | [], j, h => absurd h (Nat.not_lt_zero j)
  | c :: cs, 0, _ => rfl
  | c :: cs, j + 1, h => by
    have q := wide_lo d cs j (by simpa using h)
    rw [show 2 * (j + 1) = 2 * j + 1 + 1 from by omega]
    simpa [wideBytes] using q
theorem wide_hi (d : Value) : ∀ (cs : List Int32) (j : Nat), j < cs.length → (wideBytes cs).getD (2 * j + 1) d = .int (hi8 (cs.getD j 0))
  | [], j, h => absurd h (Nat.not_lt_zero j)
  | c :: cs, 0, _ => rfl
  | c :: cs, j + 1, h => by
    have q := wide_hi d cs j (by simpa using h)
    rw [show 2 * (j + 1) + 1 = 2 * j + 1 + 1 + 1 from by omega]
    simpa [wideBytes] using q
theorem low_at (d : Value) (cs : List Int32) (j : Nat) (h : j < cs.length) : (cs.map fun c => Value.int (lo8 c)).getD j d = .int (lo8 (cs.getD j 0)) := by
  simp [List.getD_eq_getElem?_getD, h]
/-- an array of N2 bytes vs codes the chars cs by the coder cd -/
def CodA (cs : List Int32) (cd N2 : Int32) (vs : List Value) : Prop := (cd = 0 ∧ N2 = Int32.ofNat cs.length ∧ vs = (cs.map fun c => Value.int (lo8 c)) ∧ ∀ c ∈ cs, ¬ 255 < c) ∨ (cd = 1 ∧ N2 = Int32.ofNat (2 * cs.length) ∧ vs = wideBytes cs ∧ ∃ c ∈ cs, 255 < c)
theorem CodA.cod {cs : List Int32} {cd N2 : Int32} {vs : List Value} {V : Cell} (h : CodA cs cd N2 vs) (hn : 2 * cs.length < 2 ^ 31) (hs : V.slots.size = N2.toNatClampNeg) (hv : RoadKit.Has V vs (.int 0)) : Cod cd cs.length (fun j => cs.getD j 0) V := by
  rcases h with ⟨rfl, rfl, rfl, h⟩ | ⟨rfl, rfl, rfl, c, hc, hw⟩
  · rw [n32 (by omega)] at hs
    exact Or.inl ⟨rfl, hs, fun j hj => ⟨by rw [hv j (by omega), low_at _ _ _ hj], by
      have e : cs.getD j 0 = cs[j] := by simp [List.getD_eq_getElem?_getD, hj]
      show ¬ 255 < cs.getD j 0
      rw [e]; exact h _ (List.getElem_mem _)⟩⟩
  · rw [n32 (by omega)] at hs
    obtain ⟨j, hj, rfl⟩ := List.getElem_of_mem hc
    exact Or.inr ⟨rfl, hs, fun j hj => ⟨by rw [hv _ (by omega), wide_lo _ _ _ hj], by rw [hv _ (by omega), wide_hi _ _ _ hj]⟩, j, hj, by
      have e : cs.getD j 0 = cs[j] := by simp [List.getD_eq_getElem?_getD, hj]
      show 255 < cs.getD j 0
      rw [e]; exact hw⟩
/-- an object of exactly java/lang/String, its two fields found: as the laws ask it -/
theorem strObj {Z U : State} {a0 : Array Value} {kI : Nat} (wi : (Jvm.Cond.instantiable ST kI).before a0 Z = true) (al : Z.vm.Alike U.vm) {x : Addr} {v0 c0 : Value} (E : RoadKit.Exa Z U.heap x ST) (V : RoadKit.Fld Z U.heap x ST "value" "[B" v0) (C : RoadKit.Fld Z U.heap x ST "coder" "B" c0) :
    ∃ (D : Cell) (fV fC : Field), Blank ST x D U ∧ Found ST "value" "[B" fV U ∧ Found ST "coder" "B" fC U ∧ D.slots[fV.slot]? = some v0 ∧ D.slots[fC.slot]? = some c0 ∧ RoadKit.slotOf Z ST "value" "[B" = fV.slot ∧ RoadKit.slotOf Z ST "coder" "B" = fC.slot := by
  obtain ⟨D, cfV, kV, iV, fV, hD, gV, stV, knV, obV, asV, slV⟩ := V
  obtain ⟨D', cfC, kC, iC, fC, hD', gC, stC, -, -, asC, slC⟩ := C
  cases hD.symm.trans hD'
  obtain ⟨D2, kD, e1, e2, e3, e4, e5⟩ := E
  cases hD.symm.trans e1
  obtain ⟨c2, k2, i1, i2, i3, -⟩ := Cond.instantiable_spec wi
  cases e2.symm.trans i1
  cases e3.symm.trans i2
  obtain ⟨kU, u1, u2⟩ := al.2.2 _ _ e3
  exact ⟨D, fV, fC, ⟨hD, ⟨knV, fun q hq => by rw [hq] at obV; cases obV⟩, by rw [al.findClass]; exact e2, kU, u1, by rw [u2]; exact i3, by rw [u2]; exact e5 i3⟩, ⟨SBG.found_only al ⟨cfV, kV, iV, gV⟩, stV⟩, ⟨SBG.found_only al ⟨cfC, kC, iC, gC⟩, stC⟩, slV, slC, by simp [RoadKit.slotOf, gV], by simp [RoadKit.slotOf, gC]⟩
theorem sta_is {Z U : State} (al : Z.vm.Alike U.vm) {C n d : String} {v : Value} (S : RoadKit.Sta Z U.heap C n d v) : StaticIs U C n d v := by
  obtain ⟨cfS, iS, kS, fS, st, cS, t1, t2, t3, t4, t5, t6, t7⟩ := S
  exact StaticIs.there (s := { Z with heap := U.heap }) ⟨cfS, iS, kS, fS, st, cS, t1, t2, t3, t4, t5, (fun q => by rw [q] at t6; cases t6), t7⟩ al rfl
end StrChars.Road
namespace StrChars
open Jvm Sem ClassFile Op Lib Jvm.Stand Jvm.Free.XT Jvm.Free.ALB Jvm.Free.JM Jvm.Free
open Jvm.Lib.Cold (StaticIs)
/-- what place i of a byte[]'s cell holds -/
def yv (A : Cell) (i : Nat) : Int32 := match A.slots[i]? with | some (.int x) => x | _ => 0
theorem yv_get {a : Addr} {A : Cell} {U : State} (h : XT.Arr .byte a A U) (ht : Typed .byte A) {i : Nat} (hi : i < A.slots.size) : A.slots[i]? = some (.int (yv A i)) := by
  have e := Array.getElem?_eq_getElem hi
  have f := ht i _ e
  unfold yv; rw [e]
  generalize A.slots[i] = v at f
  cases v <;> simp [fits] at f ⊢
/-- the two arrays are equal, place for place -/
def EqC (A B : Cell) : Prop := A.slots.size = B.slots.size ∧ ∀ i, i < A.slots.size → yv A i = yv B i
/-- a boolean that says whether p -/
def Says01 (q : Prop) (r : Option Value) (s u : State) : Prop := ∃ v : Int32, r = some (.int v) ∧ u.heap = s.heap ∧ ((v = 1 ∧ q) ∨ (v = 0 ∧ ¬ q))
theorem Says01.mv {q : Prop} : ∀ r (U U' V V' : State), U'.heap = U.heap → V.vm.Alike V'.vm → V'.heap = V.heap → Says01 q r U V → Says01 q r U' V' :=
  fun r U U' V V' h1 _ h2 ⟨v, a, b, c⟩ => ⟨v, a, by rw [h1, h2]; exact b, c⟩
namespace LEq
def yN : MethodName := ⟨"java/lang/StringLatin1", "equals", "([B[B)Z"⟩
abbrev yB : ByteArray := jdk_43_method_13_code
theorem d0 : decode yB 0 = .ok (.aload_n 0, 1) := by decide +kernel
theorem d1 : decode yB 1 = .ok (.arraylength, 1) := by decide +kernel
theorem d2 : decode yB 2 = .ok (.aload_n 1, 1) := by decide +kernel
theorem d3 : decode yB 3 = .ok (.arraylength, 1) := by decide +kernel
theorem d4 : decode yB 4 = .ok (.if_icmp (.ne) 30, 3) := by decide +kernel
theorem d7 : decode yB 7 = .ok (.iconst 0, 1) := by decide +kernel
theorem d8 : decode yB 8 = .ok (.istore_n 2, 1) := by decide +kernel
theorem d9 : decode yB 9 = .ok (.iload_n 2, 1) := by decide +kernel
theorem d10 : decode yB 10 = .ok (.aload_n 0, 1) := by decide +kernel
theorem d11 : decode yB 11 = .ok (.arraylength, 1) := by decide +kernel
theorem d12 : decode yB 12 = .ok (.if_icmp (.ge) 20, 3) := by decide +kernel
theorem d15 : decode yB 15 = .ok (.aload_n 0, 1) := by decide +kernel
theorem d16 : decode yB 16 = .ok (.iload_n 2, 1) := by decide +kernel
theorem d17 : decode yB 17 = .ok (.baload, 1) := by decide +kernel
theorem d18 : decode yB 18 = .ok (.aload_n 1, 1) := by decide +kernel
theorem d19 : decode yB 19 = .ok (.iload_n 2, 1) := by decide +kernel
theorem d20 : decode yB 20 = .ok (.baload, 1) := by decide +kernel
theorem d21 : decode yB 21 = .ok (.if_icmp (.eq) 5, 3) := by decide +kernel
theorem d24 : decode yB 24 = .ok (.iconst 0, 1) := by decide +kernel
theorem d25 : decode yB 25 = .ok (.ireturn, 1) := by decide +kernel
theorem d26 : decode yB 26 = .ok (.iinc 2 1, 3) := by decide +kernel
theorem d29 : decode yB 29 = .ok (.goto (-20), 3) := by decide +kernel
theorem d32 : decode yB 32 = .ok (.iconst 1, 1) := by decide +kernel
theorem d33 : decode yB 33 = .ok (.ireturn, 1) := by decide +kernel
theorem d34 : decode yB 34 = .ok (.iconst 0, 1) := by decide +kernel
theorem d35 : decode yB 35 = .ok (.ireturn, 1) := by decide +kernel
def site : List Cond := []
def tab : Cond := tabOf yN yB 3 (some .boolean) site
def P (a : Addr) (A : Cell) (b : Addr) (B : Cell) (args : Array Value) (s : State) : Prop := args = #[.ref a, .ref b] ∧ XT.Arr .byte a A s ∧ Typed .byte A ∧ XT.Arr .byte b B s ∧ Typed .byte B
/-- whether two byte[] are equal, place for place -/
theorem law (l : Launch) (a : Addr) (A : Cell) (b : Addr) (B : Cell) : Law l yN 2 2 0 0 yB 3 (some .boolean) site (P a A b B) (Says01 (EqC A B)) [] 0 0 := by
  refine Law.of_walk (plainFor_of_name (by decide +kernel)) (by decide +kernel) (by decide +kernel) (by decide) (fun _ _ h => by rw [h.1]; rfl) (fun _ U U' hal hh h => ⟨h.1, h.2.1.mv hal hh, h.2.2.1, h.2.2.2.1.mv hal hh, h.2.2.2.2⟩) (fun r U U' V V' h1 hal h2 h => Says01.mv r U U' V V' h1 hal h2 h) ?_
  intro p e s m args below meth c s₁ X0 hexec hbytes hml hret hlk hnm hown hh0 W hP
  obtain ⟨rfl, hA, tA, hB, tB⟩ := hP
  have a31 := hA.2.2.2
  have b31 := hB.2.2.2
  have hA0 := hA.mv X0.warmed.alike hh0
  have hB0 := hB.mv X0.warmed.alike hh0
  have c1 : Steps p.tables e below (s₁.setTop (entryFrame m #[.ref a, .ref b] 3)) (s₁.setTop (mkF m 0 #[.val (.ref a), .val (.ref b), .unset] [])) := entry rfl
  have c2 : Steps p.tables e below (s₁.setTop (entryFrame m #[.ref a, .ref b] 3)) (s₁.setTop (mkF m 4 #[.val (.ref a), .val (.ref b), .unset] [.int (Int32.ofNat B.slots.size), .int (Int32.ofNat A.slots.size)])) := c1.trans (by
    refine XS.aloadN X0.here hexec rfl (hb hbytes d0) rfl rfl ?_
    refine X0.alen hexec hA0 rfl rfl (hb hbytes d1) ?_
    refine XS.aloadN X0.here hexec rfl (hb hbytes d2) rfl rfl ?_
    refine X0.alen hexec hB0 rfl rfl (hb hbytes d3) ?_
    exact Steps.refl _)
  by_cases hs : A.slots.size = B.slots.size
  · have c3 : Steps p.tables e below (s₁.setTop (entryFrame m #[.ref a, .ref b] 3)) (s₁.setTop (mkF m 9 #[.val (.ref a), .val (.ref b), .val (.int 0)] [])) := c2.trans (by
      refine XS.icmpNo X0.here hexec rfl (hb hbytes d4) rfl (ii_ne_f (by rw [hs])) ?_
      refine iconstV X0.here hexec rfl 0 (hb hbytes d7) (by decide) ?_
      refine XS.istoreN X0.here hexec rfl (hb hbytes d8) rfl rfl ?_
      exact Steps.refl _)
    have loop : ∀ (r i : Nat), i + r = A.slots.size → (∀ j, j < i → yv A j = yv B j) → Steps p.tables e below (s₁.setTop (entryFrame m #[.ref a, .ref b] 3)) (s₁.setTop (mkF m 9 #[.val (.ref a), .val (.ref b), .val (.int (Int32.ofNat i))] [])) → ∃ (pc : Nat) (Ls : Array Slot) (v : Int32), (pc = 25 ∨ pc = 33) ∧ ((v = 1 ∧ EqC A B) ∨ (v = 0 ∧ ¬ EqC A B)) ∧ Steps p.tables e below (s₁.setTop (entryFrame m #[.ref a, .ref b] 3)) (s₁.setTop (mkF m pc Ls [.int v])) := by
      intro r
      induction r with
      | zero =>
        intro i hi he cl
        exact ⟨33, _, 1, Or.inr rfl, Or.inl ⟨rfl, hs, fun j hj => he j (by omega)⟩, cl.trans (by
          refine XS.iloadN X0.here hexec rfl (hb hbytes d9) rfl ?_
          refine XS.aloadN X0.here hexec rfl (hb hbytes d10) rfl rfl ?_
          refine X0.alen hexec hA0 rfl rfl (hb hbytes d11) ?_
          refine XS.icmpYes X0.here hexec rfl (pc0 := 12) rfl (hb hbytes d12) rfl (ii_ge_t (nlt32 (by omega) (by omega))) (by decide) rfl ?_
          refine iconstV X0.here hexec rfl 1 (hb hbytes d32) (by decide) ?_
          exact Steps.refl _)⟩
      | succ r ih =>
        intro i hi he cl
        have c4 : Steps p.tables e below (s₁.setTop (entryFrame m #[.ref a, .ref b] 3)) (s₁.setTop (mkF m 21 #[.val (.ref a), .val (.ref b), .val (.int (Int32.ofNat i))] [.int (yv B i), .int (yv A i)])) := cl.trans (by
          refine XS.iloadN X0.here hexec rfl (hb hbytes d9) rfl ?_
          refine XS.aloadN X0.here hexec rfl (hb hbytes d10) rfl rfl ?_
          refine X0.alen hexec hA0 rfl rfl (hb hbytes d11) ?_
          refine XS.icmpNo X0.here hexec rfl (hb hbytes d12) rfl (ii_ge_f (lt32 (by omega) (by omega))) ?_
          refine XS.aloadN X0.here hexec rfl (hb hbytes d15) rfl rfl ?_
          refine XS.iloadN X0.here hexec rfl (hb hbytes d16) rfl ?_
          refine X0.aget hexec hA0 rfl (yv_get hA tA (i := i) (by omega)) rfl rfl (hb hbytes d17) ?_
          refine XS.aloadN X0.here hexec rfl (hb hbytes d18) rfl rfl ?_
          refine XS.iloadN X0.here hexec rfl (hb hbytes d19) rfl ?_
          refine X0.aget hexec hB0 rfl (yv_get hB tB (i := i) (by omega)) rfl rfl (hb hbytes d20) ?_
          exact Steps.refl _)
        by_cases hv : yv A i = yv B i
        · have c5 : Steps p.tables e below (s₁.setTop (entryFrame m #[.ref a, .ref b] 3)) (s₁.setTop (mkF m 9 #[.val (.ref a), .val (.ref b), .val (.int (Int32.ofNat i + 1))] [])) := c4.trans (by
            refine XS.icmpYes X0.here hexec rfl (pc0 := 21) rfl (hb hbytes d21) rfl (ii_eq_t hv) (by decide) rfl ?_
            refine iincV X0.here hexec rfl 1 (hb hbytes d26) (by decide) rfl rfl ?_
            refine XS.goto X0.here hexec rfl (pc0 := 29) rfl (hb hbytes d29) (by decide) rfl ?_
            exact Steps.refl _)
          rw [succ32] at c5
          exact ih (i + 1) (by omega) (fun j hj => by
            by_cases e : j = i
            · rw [e]; exact hv
            · exact he j (by omega)) c5
        · exact ⟨25, _, 0, Or.inl rfl, Or.inr ⟨rfl, fun q => hv (q.2 i (by omega))⟩, c4.trans (by
            refine XS.icmpNo X0.here hexec rfl (hb hbytes d21) rfl (ii_eq_f hv) ?_
            refine iconstV X0.here hexec rfl 0 (hb hbytes d24) (by decide) ?_
            exact Steps.refl _)⟩
    obtain ⟨pc, Ls, v, hpc, hv, cz⟩ := loop A.slots.size 0 (by omega) (fun j hj => absurd hj (Nat.not_lt_zero j)) c3
    have nv : narrow .boolean (.int v) = .int v := by rcases hv with ⟨rfl, -⟩ | ⟨rfl, -⟩ <;> rfl
    rcases hpc with rfl | rfl
    · exact ⟨s₁, some (.int v), _, _, _, X0, rfl, rfl, rfl, (fun h => by cases h), ⟨v, rfl, hh0, hv⟩, fun fs hl => cz.trans (X0.ireturnOut hexec hret nv (Or.inr (Or.inl rfl)) (hb hbytes d25) hl)⟩
    · exact ⟨s₁, some (.int v), _, _, _, X0, rfl, rfl, rfl, (fun h => by cases h), ⟨v, rfl, hh0, hv⟩, fun fs hl => cz.trans (X0.ireturnOut hexec hret nv (Or.inr (Or.inl rfl)) (hb hbytes d33) hl)⟩
  · have c3 : Steps p.tables e below (s₁.setTop (entryFrame m #[.ref a, .ref b] 3)) (s₁.setTop (mkF m 35 #[.val (.ref a), .val (.ref b), .unset] [.int 0])) := c2.trans (by
      refine XS.icmpYes X0.here hexec rfl (pc0 := 4) rfl (hb hbytes d4) rfl (ii_ne_t (ne32 a31 b31 hs)) (by decide) rfl ?_
      refine iconstV X0.here hexec rfl 0 (hb hbytes d34) (by decide) ?_
      exact Steps.refl _)
    exact ⟨s₁, some (.int 0), _, _, _, X0, rfl, rfl, rfl, (fun h => by cases h), ⟨0, rfl, hh0, Or.inr ⟨rfl, fun q => hs q.1⟩⟩, fun fs hl => c3.trans (X0.ireturnOut hexec hret rfl (Or.inr (Or.inl rfl)) (hb hbytes d35) hl)⟩
end LEq
theorem Cod.ty {cd : Int32} {n : Nat} {f : Nat → Int32} {V : Cell} (h : Cod cd n f V) : Typed .byte V := fun i v hv => by
  have hi : i < V.slots.size := (Array.getElem?_eq_some_iff.mp hv).1
  rcases h with ⟨-, k1, k2⟩ | ⟨-, k1, k2, -⟩
  · rw [(k2 i (by omega)).1] at hv; cases hv; exact fits_lo8 _
  · rcases Nat.mod_two_eq_zero_or_one i with e | e
    · obtain ⟨j, rfl⟩ : ∃ j, i = 2 * j := ⟨i / 2, by omega⟩
      rw [(k2 j (by omega)).1] at hv; cases hv; exact fits_lo8 _
    · obtain ⟨j, rfl⟩ : ∃ j, i = 2 * j + 1 := ⟨i / 2, by omega⟩
      rw [(k2 j (by omega)).2] at hv; cases hv; exact fits_lo8 _
/-- the same text -/
def SameT (n : Nat) (f : Nat → Int32) (k : Nat) (g : Nat → Int32) : Prop := n = k ∧ ∀ j, j < n → f j = g j
theorem lo8_inj {x y : Int32} (h0 : ¬ x < 0) (h1 : ¬ 255 < x) (k0 : ¬ y < 0) (k1 : ¬ 255 < y) (h : lo8 x = lo8 y) : x = y := by
  rw [← lo8_mask h0 h1, ← lo8_mask k0 k1, h]
/-- arrays coded by one coder are equal just where the texts are -/
theorem Cod.eqv {cd : Int32} {n k : Nat} {f g : Nat → Int32} {V V' : Cell} (h : Cod cd n f V) (h' : Cod cd k g V') (hf : ∀ j, j < n → ¬ f j < 0 ∧ ¬ 65535 < f j) (hg : ∀ j, j < k → ¬ g j < 0 ∧ ¬ 65535 < g j) : EqC V V' ↔ SameT n f k g := by
  have yvv : ∀ {W : Cell} {i : Nat} {x : Int32}, W.slots[i]? = some (.int x) → yv W i = x := fun q => by unfold yv; rw [q]
  rcases h with ⟨rfl, k1, k2⟩ | ⟨rfl, k1, k2, -⟩
  · rcases h' with ⟨-, m1, m2⟩ | ⟨e, -⟩
    · constructor
      · rintro ⟨e1, e2⟩
        refine ⟨by omega, fun j hj => ?_⟩
        have q := e2 j (by omega)
        rw [yvv (k2 j hj).1, yvv (m2 j (by omega)).1] at q
        exact lo8_inj (hf j hj).1 (k2 j hj).2 (hg j (by omega)).1 (m2 j (by omega)).2 q
      · rintro ⟨rfl, e2⟩
        refine ⟨by omega, fun j hj => ?_⟩
        rw [yvv (k2 j (by omega)).1, yvv (m2 j (by omega)).1, e2 j (by omega)]
    · exact absurd e (by decide)
  · rcases h' with ⟨e, -⟩ | ⟨-, m1, m2, -⟩
    · exact absurd e (by decide)
    · constructor
      · rintro ⟨e1, e2⟩
        refine ⟨by omega, fun j hj => ?_⟩
        have q1 := e2 (2 * j) (by omega)
        have q2 := e2 (2 * j + 1) (by omega)
        rw [yvv (k2 j hj).1, yvv (m2 j (by omega)).1] at q1
        rw [yvv (k2 j hj).2, yvv (m2 j (by omega)).2] at q2
        rw [← pair_says (hf j hj).1 (hf j hj).2, ← pair_says (hg j (by omega)).1 (hg j (by omega)).2, q1, q2]
      · rintro ⟨rfl, e2⟩
        refine ⟨by omega, fun i hi => ?_⟩
        rcases Nat.mod_two_eq_zero_or_one i with e | e
        · obtain ⟨j, rfl⟩ : ∃ j, i = 2 * j := ⟨i / 2, by omega⟩
          rw [yvv (k2 j (by omega)).1, yvv (m2 j (by omega)).1, e2 j (by omega)]
        · obtain ⟨j, rfl⟩ : ∃ j, i = 2 * j + 1 := ⟨i / 2, by omega⟩
          rw [yvv (k2 j (by omega)).2, yvv (m2 j (by omega)).2, e2 j (by omega)]
/-- two codings differ: so do the texts -/
theorem Cod.dif {cd cd' : Int32} {n k : Nat} {f g : Nat → Int32} {V V' : Cell} (h : Cod cd n f V) (h' : Cod cd' k g V') (hne : ¬ cd = cd') : ¬ SameT n f k g := by
  rintro ⟨rfl, e⟩
  rcases h with ⟨rfl, -, k2⟩ | ⟨rfl, -, -, j, hj, hw⟩
  · rcases h' with ⟨rfl, -⟩ | ⟨-, -, -, j, hj, hw⟩
    · exact hne rfl
    · exact (k2 j hj).2 (by rw [e j hj]; exact hw)
  · rcases h' with ⟨-, -, m2⟩ | ⟨rfl, -⟩
    · exact (m2 j hj).2 (by rw [← e j hj]; exact hw)
    · exact hne rfl
/-- an object of exactly C is an instance of C -/
theorem cinst {p : Program} {l : Launch} {e : Env} {R : Room} {s : State} {m : MethodId} {args : Array Value} {below : List Frame} {meth : Method} {c : Code} {T : State} {locs : List Loc} {cells slots : Nat} (X : Stand p l e R s m args below meth c T locs cells slots) (hexec : p.tables.exec = Jvm.exec) {own C : String} {index : Nat} (hown : s.vm.findClass own = some m.cls) (hlink : (Cond.classLink own index C).before args s = true) {a : Addr} (hE : Exact C a T)
    {g : JFrame} (hg : g.method = m) {rest : List Value} (hstack : g.stack = .ref a :: rest) (hdg : decode c.code g.pc = .ok (.instanceof index, 3)) :
    ∃ T', Stand p l e R s m args below meth c T' locs cells slots ∧ T'.heap = T.heap ∧ ∀ target, Steps p.tables e below (T'.setTop { g with pc := g.pc + 3, stack := .int 1 :: rest }) target → Steps p.tables e below (T.setTop g) target := by
  obtain ⟨cB, h1, D, h2, h3, h4⟩ := hE
  have h1' : s.vm.findClass C = some cB := by rw [← X.warmed.alike.findClass]; exact h1
  obtain ⟨vm', X', st⟩ := X.instanceofYes hexec hown hlink h2 h4 h1' (by rw [h3]; exact Jvm.Free.SB.assignable_self _ _) hg hstack hdg
  exact ⟨_, X', rfl, st⟩
theorem cself {p : Program} {l : Launch} {e : Env} {R : Room} {s : State} {m : MethodId} {args : Array Value} {below : List Frame} {meth : Method} {c : Code} {T : State} {locs : List Loc} {cells slots : Nat} (X : Stand p l e R s m args below meth c T locs cells slots) (hexec : p.tables.exec = Jvm.exec) {own C : String} {index : Nat} (hown : s.vm.findClass own = some m.cls) (hlink : (Cond.classLink own index C).before args s = true) {a : Addr} (hE : Exact C a T)
    {g : JFrame} (hg : g.method = m) {rest : List Value} (hstack : g.stack = .ref a :: rest) (hdg : decode c.code g.pc = .ok (.checkcast index, 3)) :
    ∃ T', Stand p l e R s m args below meth c T' locs cells slots ∧ T'.heap = T.heap ∧ ∀ target, Steps p.tables e below (T'.setTop { g with pc := g.pc + 3, stack := .ref a :: rest }) target → Steps p.tables e below (T.setTop g) target := by
  obtain ⟨cB, h1, D, h2, h3, h4⟩ := hE
  have h1' : s.vm.findClass C = some cB := by rw [← X.warmed.alike.findClass]; exact h1
  obtain ⟨vm', X', st⟩ := X.checkcastYes hexec hown hlink h2 h4 h1' (by rw [h3]; exact Jvm.Free.SB.assignable_self _ _) hg hstack hdg
  exact ⟨_, X', rfl, fun t h => st t (by rw [← hstack] at h; exact h)⟩
namespace SEq
def yN : MethodName := ⟨"java/lang/String", "equals", "(Ljava/lang/Object;)Z"⟩
abbrev yB : ByteArray := jdk_42_method_66_code
theorem d0 : decode yB 0 = .ok (.aload_n 0, 1) := by decide +kernel
theorem d1 : decode yB 1 = .ok (.aload_n 1, 1) := by decide +kernel
theorem d2 : decode yB 2 = .ok (.if_acmp (.ne) 5, 3) := by decide +kernel
theorem d5 : decode yB 5 = .ok (.iconst 1, 1) := by decide +kernel
theorem d6 : decode yB 6 = .ok (.ireturn, 1) := by decide +kernel
theorem d7 : decode yB 7 = .ok (.aload_n 1, 1) := by decide +kernel
theorem d8 : decode yB 8 = .ok (.instanceof 10, 3) := by decide +kernel
theorem d11 : decode yB 11 = .ok (.ifCond (.eq) 43, 3) := by decide +kernel
theorem d14 : decode yB 14 = .ok (.aload_n 1, 1) := by decide +kernel
theorem d15 : decode yB 15 = .ok (.checkcast 10, 3) := by decide +kernel
theorem d18 : decode yB 18 = .ok (.astore_n 2, 1) := by decide +kernel
theorem d19 : decode yB 19 = .ok (.getstatic 38, 3) := by decide +kernel
theorem d22 : decode yB 22 = .ok (.ifCond (.eq) 14, 3) := by decide +kernel
theorem d25 : decode yB 25 = .ok (.aload_n 0, 1) := by decide +kernel
theorem d26 : decode yB 26 = .ok (.getfield 15, 3) := by decide +kernel
theorem d29 : decode yB 29 = .ok (.aload_n 2, 1) := by decide +kernel
theorem d30 : decode yB 30 = .ok (.getfield 15, 3) := by decide +kernel
theorem d33 : decode yB 33 = .ok (.if_icmp (.ne) 21, 3) := by decide +kernel
theorem d36 : decode yB 36 = .ok (.aload_n 0, 1) := by decide +kernel
theorem d37 : decode yB 37 = .ok (.getfield 9, 3) := by decide +kernel
theorem d40 : decode yB 40 = .ok (.aload_n 2, 1) := by decide +kernel
theorem d41 : decode yB 41 = .ok (.getfield 9, 3) := by decide +kernel
theorem d44 : decode yB 44 = .ok (.invokestatic 541, 3) := by decide +kernel
theorem d47 : decode yB 47 = .ok (.ifCond (.eq) 7, 3) := by decide +kernel
theorem d50 : decode yB 50 = .ok (.iconst 1, 1) := by decide +kernel
theorem d51 : decode yB 51 = .ok (.goto 4, 3) := by decide +kernel
theorem d54 : decode yB 54 = .ok (.iconst 0, 1) := by decide +kernel
theorem d55 : decode yB 55 = .ok (.ireturn, 1) := by decide +kernel
def site : List Cond := [.classLink "java/lang/String" 10 "java/lang/String", .fieldLink "java/lang/String" 38 "java/lang/String" "COMPACT_STRINGS" "Z", .fieldLink "java/lang/String" 15 "java/lang/String" "coder" "B", .fieldLink "java/lang/String" 9 "java/lang/String" "value" "[B", LEq.tab] ++ staticW "java/lang/String" 541 LEq.yN
def tab : Cond := tabOf yN yB 3 (some .boolean) site
def P (x t : Addr) (V : Cell) (cd : Int32) (n : Nat) (f : Nat → Int32) (y t' : Addr) (V' : Cell) (cd' : Int32) (k : Nat) (g : Nat → Int32) (z : Int32) (args : Array Value) (s : State) : Prop := args = #[.ref x, .ref y] ∧ Txt x t V cd n f s ∧ Txt y t' V' cd' k g s ∧ StaticIs s "java/lang/String" "COMPACT_STRINGS" "Z" (.int z) ∧ ¬ z = 0
/-- equals(Object) of two Strings: whether the texts are the same -/
theorem law (l : Launch) (x t : Addr) (V : Cell) (cd : Int32) (n : Nat) (f : Nat → Int32) (y t' : Addr) (V' : Cell) (cd' : Int32) (k : Nat) (g : Nat → Int32) (z : Int32) : Law l yN 2 1 1 14 yB 3 (some .boolean) site (P x t V cd n f y t' V' cd' k g z) (Says01 (SameT n f k g)) [] 0 0 := by
  refine Law.of_walk (plainFor_of_name (by decide +kernel)) (by decide +kernel) (by decide +kernel) (by decide) (fun _ _ h => by rw [h.1]; rfl) (fun _ U U' hal hh h => ⟨h.1, h.2.1.mv hal hh, h.2.2.1.mv hal hh, h.2.2.2.1.there hal hh, h.2.2.2.2⟩) (fun r U U' V V' h1 hal h2 h => Says01.mv r U U' V V' h1 hal h2 h) ?_
  intro p e s m args below meth c s₁ X0 hexec hbytes hml hret hlk hnm hown hh0 W hP
  obtain ⟨rfl, hx, hy, s1, hz⟩ := hP
  have c1 : Steps p.tables e below (s₁.setTop (entryFrame m #[.ref x, .ref y] 3)) (s₁.setTop (mkF m 2 #[.val (.ref x), .val (.ref y), .unset] [.ref y, .ref x])) := Steps.trans (entry rfl) (by
    show Steps p.tables e below (s₁.setTop (mkF m 0 #[.val (.ref x), .val (.ref y), .unset] [])) _
    refine XS.aloadN X0.here hexec rfl (hb hbytes d0) rfl rfl ?_
    refine XS.aloadN X0.here hexec rfl (hb hbytes d1) rfl rfl ?_
    exact Steps.refl _)
  by_cases hxy : x = y
  · have c2 : Steps p.tables e below (s₁.setTop (entryFrame m #[.ref x, .ref y] 3)) (s₁.setTop (mkF m 6 #[.val (.ref x), .val (.ref y), .unset] [.int 1])) := c1.trans (by
      refine acmpNo X0.here hexec rfl (hb hbytes d2) rfl rfl rfl (by simp [acmp, hxy]) ?_
      refine iconstV X0.here hexec rfl 1 (hb hbytes d5) (by decide) ?_
      exact Steps.refl _)
    subst hxy
    have ec : cd = cd' := by
      obtain ⟨D, fd, a1, a2, a3⟩ := hx.2.2.1
      obtain ⟨D', fd', b1, b2, b3⟩ := hy.2.2.1
      cases a1.symm.trans b1
      obtain ⟨q1, q2, q3, q4⟩ := a2.1
      obtain ⟨r1, r2, r3, r4⟩ := b2.1
      cases q4.symm.trans r4
      cases a3.symm.trans b3; rfl
    have et : t = t' := by
      obtain ⟨D, fd, a1, a2, a3⟩ := hx.2.1
      obtain ⟨D', fd', b1, b2, b3⟩ := hy.2.1
      cases a1.symm.trans b1
      obtain ⟨q1, q2, q3, q4⟩ := a2.1
      obtain ⟨r1, r2, r3, r4⟩ := b2.1
      cases q4.symm.trans r4
      cases a3.symm.trans b3; rfl
    subst ec et
    have ev : V = V' := by cases hx.2.2.2.1.1.symm.trans hy.2.2.2.1.1; rfl
    subst ev
    have hs : SameT n f k g := (Cod.eqv hx.2.2.2.2.1 hy.2.2.2.2.1 hx.2.2.2.2.2 hy.2.2.2.2.2).mp ⟨rfl, fun _ _ => rfl⟩
    exact ⟨s₁, some (.int 1), _, _, _, X0, rfl, rfl, rfl, (fun h => by cases h), ⟨1, rfl, hh0, Or.inl ⟨rfl, hs⟩⟩, fun fs hl => c2.trans (X0.ireturnOut hexec hret rfl (Or.inr (Or.inl rfl)) (hb hbytes d6) hl)⟩
  · have c2 : Steps p.tables e below (s₁.setTop (entryFrame m #[.ref x, .ref y] 3)) (s₁.setTop (mkF m 8 #[.val (.ref x), .val (.ref y), .unset] [.ref y])) := c1.trans (by
      refine acmpYes X0.here hexec rfl (pc0 := 2) rfl (hb hbytes d2) rfl rfl rfl (by simp [acmp, hxy]) (by decide) rfl ?_
      refine XS.aloadN X0.here hexec rfl (hb hbytes d7) rfl rfl ?_
      exact Steps.refl _)
    obtain ⟨T3, X3, q3, st3⟩ := cinst X0 hexec hown (wk W (.classLink "java/lang/String" 10 "java/lang/String")) (hy.mv X0.warmed.alike hh0).1 (g := (mkF m 8 #[.val (.ref x), .val (.ref y), .unset] [.ref y])) rfl (rest := []) rfl (hb hbytes d8)
    have hh3 := q3.trans hh0
    have c4 : Steps p.tables e below (s₁.setTop (entryFrame m #[.ref x, .ref y] 3)) (T3.setTop (mkF m 15 #[.val (.ref x), .val (.ref y), .unset] [.ref y])) := (c2.trans (st3 _ (Steps.refl _))).trans (by
      refine XS.ifNo X3.here hexec rfl (hb hbytes d11) rfl (i0_eq_f (by decide)) ?_
      refine XS.aloadN X3.here hexec rfl (hb hbytes d14) rfl rfl ?_
      exact Steps.refl _)
    obtain ⟨T5, X5, q5, st5⟩ := cself X3 hexec hown (wk W (.classLink "java/lang/String" 10 "java/lang/String")) (hy.mv X3.warmed.alike hh3).1 (g := (mkF m 15 #[.val (.ref x), .val (.ref y), .unset] [.ref y])) rfl (rest := []) rfl (hb hbytes d15)
    have hh5 := q5.trans hh3
    have c6 : Steps p.tables e below (s₁.setTop (entryFrame m #[.ref x, .ref y] 3)) (T5.setTop (mkF m 19 #[.val (.ref x), .val (.ref y), .val (.ref y)] [])) := (c4.trans (st5 _ (Steps.refl _))).trans (by
      refine XS.astoreN X5.here hexec rfl (hb hbytes d18) rfl rfl rfl ?_
      exact Steps.refl _)
    obtain ⟨T7, X7, q7, st7⟩ := X5.sget hexec hown (wk W (.fieldLink "java/lang/String" 38 "java/lang/String" "COMPACT_STRINGS" "Z")) s1 (fun _ _ h => by rw [hh5]; exact h) (g := (mkF m 19 #[.val (.ref x), .val (.ref y), .val (.ref y)] [])) rfl (hb hbytes d19)
    have hh7 := q7.trans hh5
    have c8 : Steps p.tables e below (s₁.setTop (entryFrame m #[.ref x, .ref y] 3)) (T7.setTop (mkF m 26 #[.val (.ref x), .val (.ref y), .val (.ref y)] [.ref x])) := (c6.trans (st7 _ (Steps.refl _))).trans (by
      refine XS.ifNo X7.here hexec rfl (hb hbytes d22) rfl (i0_eq_f hz) ?_
      refine XS.aloadN X7.here hexec rfl (hb hbytes d25) rfl rfl ?_
      exact Steps.refl _)
    obtain ⟨T9, X9, q9, st9⟩ := X7.hget hexec hown (wk W (.fieldLink "java/lang/String" 15 "java/lang/String" "coder" "B")) (hx.mv X7.warmed.alike hh7).2.2.1 (g := (mkF m 26 #[.val (.ref x), .val (.ref y), .val (.ref y)] [.ref x])) rfl (rest := []) rfl (hb hbytes d26)
    have hh9 := q9.trans hh7
    have c10 : Steps p.tables e below (s₁.setTop (entryFrame m #[.ref x, .ref y] 3)) (T9.setTop (mkF m 30 #[.val (.ref x), .val (.ref y), .val (.ref y)] [.ref y, .int cd])) := (c8.trans (st9 _ (Steps.refl _))).trans (by
      refine XS.aloadN X9.here hexec rfl (hb hbytes d29) rfl rfl ?_
      exact Steps.refl _)
    obtain ⟨T11, X11, q11, st11⟩ := X9.hget hexec hown (wk W (.fieldLink "java/lang/String" 15 "java/lang/String" "coder" "B")) (hy.mv X9.warmed.alike hh9).2.2.1 (g := (mkF m 30 #[.val (.ref x), .val (.ref y), .val (.ref y)] [.ref y, .int cd])) rfl (rest := [.int cd]) rfl (hb hbytes d30)
    have hh11 := q11.trans hh9
    have c12 : Steps p.tables e below (s₁.setTop (entryFrame m #[.ref x, .ref y] 3)) (T11.setTop (mkF m 33 #[.val (.ref x), .val (.ref y), .val (.ref y)] [.int cd', .int cd])) := c10.trans (st11 _ (Steps.refl _))
    by_cases hcd : cd = cd'
    · subst hcd
      have c13 : Steps p.tables e below (s₁.setTop (entryFrame m #[.ref x, .ref y] 3)) (T11.setTop (mkF m 37 #[.val (.ref x), .val (.ref y), .val (.ref y)] [.ref x])) := c12.trans (by
        refine XS.icmpNo X11.here hexec rfl (hb hbytes d33) rfl (ii_ne_f rfl) ?_
        refine XS.aloadN X11.here hexec rfl (hb hbytes d36) rfl rfl ?_
        exact Steps.refl _)
      obtain ⟨T14, X14, q14, st14⟩ := X11.hget hexec hown (wk W (.fieldLink "java/lang/String" 9 "java/lang/String" "value" "[B")) (hx.mv X11.warmed.alike hh11).2.1 (g := (mkF m 37 #[.val (.ref x), .val (.ref y), .val (.ref y)] [.ref x])) rfl (rest := []) rfl (hb hbytes d37)
      have hh14 := q14.trans hh11
      have c15 : Steps p.tables e below (s₁.setTop (entryFrame m #[.ref x, .ref y] 3)) (T14.setTop (mkF m 41 #[.val (.ref x), .val (.ref y), .val (.ref y)] [.ref y, .ref t])) := (c13.trans (st14 _ (Steps.refl _))).trans (by
        refine XS.aloadN X14.here hexec rfl (hb hbytes d40) rfl rfl ?_
        exact Steps.refl _)
      obtain ⟨T16, X16, q16, st16⟩ := X14.hget hexec hown (wk W (.fieldLink "java/lang/String" 9 "java/lang/String" "value" "[B")) (hy.mv X14.warmed.alike hh14).2.1 (g := (mkF m 41 #[.val (.ref x), .val (.ref y), .val (.ref y)] [.ref y, .ref t])) rfl (rest := [.ref t]) rfl (hb hbytes d41)
      have hh16 := q16.trans hh14
      have c17 : Steps p.tables e below (s₁.setTop (entryFrame m #[.ref x, .ref y] 3)) (T16.setTop (mkF m 44 #[.val (.ref x), .val (.ref y), .val (.ref y)] [.ref t', .ref t])) := c15.trans (st16 _ (Steps.refl _))
      obtain ⟨v18, T18, X18, E18, g18⟩ := X16.callS hexec (LEq.law l t V t' V') hown (wks W (staticW "java/lang/String" 541 LEq.yN)) (wk W LEq.tab) (W := 0) (Nat.le_of_ble_eq_true rfl) (Nat.le_of_ble_eq_true rfl) (Nat.le_refl _) (Nat.le_refl _) (g := (mkF m 44 #[.val (.ref x), .val (.ref y), .val (.ref y)] [.ref t', .ref t])) rfl (by rw [hml]; rfl) c17 (argsL := [.ref t, .ref t']) (rest := []) rfl rfl (by show 2 * 0 + 0 ≤ _; decide) (hb hbytes d44) (⟨rfl, hx.2.2.2.1.mv X16.warmed.alike hh16, hx.2.2.2.2.1.ty, hy.2.2.2.1.mv X16.warmed.alike hh16, hy.2.2.2.2.1.ty⟩)
      obtain ⟨v, rfl, q18, hv⟩ := E18
      have iff := Cod.eqv hx.2.2.2.2.1 hy.2.2.2.2.1 hx.2.2.2.2.2 hy.2.2.2.2.2
      rcases hv with ⟨rfl, he⟩ | ⟨rfl, he⟩
      · have c19 : Steps p.tables e below (s₁.setTop (entryFrame m #[.ref x, .ref y] 3)) (T18.setTop (mkF m 55 #[.val (.ref x), .val (.ref y), .val (.ref y)] [.int 1])) := Steps.trans g18 (by
          refine XS.ifNo X18.here hexec rfl (hb hbytes d47) rfl (i0_eq_f (by decide)) ?_
          refine iconstV X18.here hexec rfl 1 (hb hbytes d50) (by decide) ?_
          refine XS.goto X18.here hexec rfl (pc0 := 51) rfl (hb hbytes d51) (by decide) rfl ?_
          exact Steps.refl _)
        exact ⟨T18, some (.int 1), _, _, _, X18, rfl, rfl, rfl, (fun h => by cases h), ⟨1, rfl, q18.trans hh16, Or.inl ⟨rfl, iff.mp he⟩⟩, fun fs hl => c19.trans (X18.ireturnOut hexec hret rfl (Or.inr (Or.inl rfl)) (hb hbytes d55) hl)⟩
      · have c19 : Steps p.tables e below (s₁.setTop (entryFrame m #[.ref x, .ref y] 3)) (T18.setTop (mkF m 55 #[.val (.ref x), .val (.ref y), .val (.ref y)] [.int 0])) := Steps.trans g18 (by
          refine XS.ifYes X18.here hexec rfl (pc0 := 47) rfl (hb hbytes d47) rfl (i0_eq_t rfl) (by decide) rfl ?_
          refine iconstV X18.here hexec rfl 0 (hb hbytes d54) (by decide) ?_
          exact Steps.refl _)
        exact ⟨T18, some (.int 0), _, _, _, X18, rfl, rfl, rfl, (fun h => by cases h), ⟨0, rfl, q18.trans hh16, Or.inr ⟨rfl, fun q => he (iff.mpr q)⟩⟩, fun fs hl => c19.trans (X18.ireturnOut hexec hret rfl (Or.inr (Or.inl rfl)) (hb hbytes d55) hl)⟩
    · have c13 : Steps p.tables e below (s₁.setTop (entryFrame m #[.ref x, .ref y] 3)) (T11.setTop (mkF m 55 #[.val (.ref x), .val (.ref y), .val (.ref y)] [.int 0])) := c12.trans (by
        refine XS.icmpYes X11.here hexec rfl (pc0 := 33) rfl (hb hbytes d33) rfl (ii_ne_t hcd) (by decide) rfl ?_
        refine iconstV X11.here hexec rfl 0 (hb hbytes d54) (by decide) ?_
        exact Steps.refl _)
      exact ⟨T11, some (.int 0), _, _, _, X11, rfl, rfl, rfl, (fun h => by cases h), ⟨0, rfl, hh11, Or.inr ⟨rfl, Cod.dif hx.2.2.2.2.1 hy.2.2.2.2.1 hcd⟩⟩, fun fs hl => c13.trans (X11.ireturnOut hexec hret rfl (Or.inr (Or.inl rfl)) (hb hbytes d55) hl)⟩
theorem pays {l : Launch} {R : Room} {p : Program} {e : Env} {below : List Frame} {s : State} {sargs : Array Value} {len W : Nat} (x t : Addr) (V : Cell) (cd : Int32) (n : Nat) (f : Nat → Int32) (y t' : Addr) (V' : Cell) (cd' : Int32) (k : Nat) (g : Nat → Int32) (z : Int32) (htab : tab.before sargs s = true) (hfr : 2 ≤ R.frames) (hlo : W + 28 ≤ R.locals) :
    Back l R p e below s sargs yN len W (fun A₁ a₁ => A₁.cells + 0 ≤ R.cells ∧ A₁.slots + 0 ≤ R.slots ∧ P x t V cd n f y t' V' cd' k g z a₁ A₁.U) (fun A₁ _ v₁ B₁ => Says01 (SameT n f k g) v₁ A₁.U B₁.U ∧ B₁.locs = A₁.locs ++ [] ∧ B₁.cells = A₁.cells + 0 ∧ B₁.slots = A₁.slots + 0) :=
  (law l x t V cd n f y t' V' cd' k g z).pays htab hfr (by omega)
end SEq
end StrChars
namespace StrChars.Road
open Jvm Sem ClassFile Op Lib Jvm.Stand Jvm.Free Jvm.Free.XT
open Jvm.Lib.Cold (StaticIs)
/-- the words of String.equals(Object) -/
abbrev wordsEq : List Jvm.Cond := [.code SEq.yN SEq.yB 3 (some .boolean), .initialized ST, .classLink ST 10 ST, .fieldLink ST 38 ST "COMPACT_STRINGS" "Z", .fieldLink ST 15 ST "coder" "B", .fieldLink ST 9 ST "value" "[B", .methodLink ST 541 LEq.yN, .static LEq.yN, .code LEq.yN LEq.yB 3 (some .boolean), .initialized "java/lang/StringLatin1"]
theorem tabEq_of {a : Array Value} {s : State} (h : ∀ w ∈ wordsEq, w.before a s = true) : SEq.tab.before a s = true := by
  have hl : LEq.tab.before a s = true := unparts (wk h (.code LEq.yN LEq.yB 3 (some .boolean))) (wks h (.initialized LEq.yN.cls :: LEq.site))
  have q := consq hl h
  exact unparts (wk q (.code SEq.yN SEq.yB 3 (some .boolean))) (wks q (.initialized SEq.yN.cls :: SEq.site))
theorem movedEq {Z s : State} {a0 args : Array Value} (hZ : Z.Warmed39 s.vm) (hw : ∀ d ∈ wordsEq, d.before a0 Z = true) : ∀ d ∈ wordsEq, d.before args s = true := fun d hd => by
  have t : ∀ d ∈ wordsEq, (d.onTables && d.keepsFace) = true := by decide +kernel
  exact RoadKit.mv hZ (hw d hd) (t d hd)
/-- the road's facts of a String, as the laws ask it -/
theorem txt_of {Z U : State} {a0 : Array Value} {kI : Nat} (wi : (Jvm.Cond.instantiable ST kI).before a0 Z = true) (al : Z.vm.Alike U.vm) {x t : Addr} {kb : ClassId} {cs : List Int32} {cd N2 : Int32} {vs : List Value} (E : RoadKit.Exa Z U.heap x ST) (V : RoadKit.Fld Z U.heap x ST "value" "[B" (.ref t)) (C : RoadKit.Fld Z U.heap x ST "coder" "B" (.int cd)) (K : RoadKit.Arv Z U.heap t kb .byte N2 vs (.int 0)) (hc : CodA cs cd N2 vs) (hb : ∀ c ∈ cs, ¬ c < 0 ∧ ¬ (65535 : Int32) < c) (l2 : cs.length ≤ 4000) :
    ∃ A, Txt x t A cd cs.length (fun j => cs.getD j 0) U := by
  obtain ⟨A, K1, K2, K3, K4, K5, K6⟩ := K
  have hcod := hc.cod (by omega) K3 K5
  obtain ⟨D, fV, fC, hB, F1, F2, g1, g2, -, -⟩ := strObj wi al E V C
  exact ⟨A, ⟨_, hB.2.2.1, D, hB.1, rfl, by cases q : D.vm <;> first | rfl | exact absurd q (hB.2.1.2 _)⟩, Has.of hB F1 g1, Has.of hB F2 g2, ⟨K1.1, State.isArrayOf_alike al K1.2.1, K1.2.2, by rcases hcod with ⟨-, q, -⟩ | ⟨-, q, -⟩ <;> omega⟩, hcod, fun j hj => by
    have e : cs.getD j 0 = cs[j] := by simp [List.getD_eq_getElem?_getD, hj]
    show ¬ cs.getD j 0 < 0 ∧ ¬ 65535 < cs.getD j 0
    rw [e]; exact hb _ (List.getElem_mem _)⟩
theorem same_list (cs ds : List Int32) : SameT cs.length (fun j => cs.getD j 0) ds.length (fun j => ds.getD j 0) ↔ cs = ds := by
  constructor
  · rintro ⟨e, q⟩
    refine List.ext_getElem e fun j h1 h2 => ?_
    have := q j h1
    simpa [List.getD_eq_getElem?_getD, h1, h2] using this
  · rintro rfl
    exact ⟨rfl, fun _ _ => rfl⟩
/-- **equals(Object) OF TWO SUCH STRINGS**: 1 just where the chars are the same -/
theorem eqW {p : Program} {l : Launch} {e : Env} {R : Room} {s : State} {args : Array Value} {below : List Frame} {len W : Nat} {Z : State} {a0 : Array Value} {h : Heap} (hZ : Z.Warmed39 s.vm) (hw : ∀ d ∈ wordsEq, d.before a0 Z = true) {kI : Nat} (wi : (Jvm.Cond.instantiable ST kI).before a0 Z = true)
    {x t : Addr} {kb : ClassId} {cs : List Int32} {cd N2 : Int32} {vs : List Value} (E : RoadKit.Exa Z h x ST) (V : RoadKit.Fld Z h x ST "value" "[B" (.ref t)) (C : RoadKit.Fld Z h x ST "coder" "B" (.int cd)) (K : RoadKit.Arv Z h t kb .byte N2 vs (.int 0)) (hc : CodA cs cd N2 vs) (hb : ∀ c ∈ cs, ¬ c < 0 ∧ ¬ (65535 : Int32) < c) (l2 : cs.length ≤ 4000)
    {y t' : Addr} {kb' : ClassId} {ds : List Int32} {cd' N2' : Int32} {vs' : List Value} (E' : RoadKit.Exa Z h y ST) (V' : RoadKit.Fld Z h y ST "value" "[B" (.ref t')) (C' : RoadKit.Fld Z h y ST "coder" "B" (.int cd')) (K' : RoadKit.Arv Z h t' kb' .byte N2' vs' (.int 0)) (hc' : CodA ds cd' N2' vs') (hb' : ∀ c ∈ ds, ¬ c < 0 ∧ ¬ (65535 : Int32) < c) (l2' : ds.length ≤ 4000)
    {z : Int32} (S : RoadKit.Sta Z h ST "COMPACT_STRINGS" "Z" (.int z)) (hz : ¬ z = 0) (hfr : 2 ≤ R.frames) (hlo : W + 28 ≤ R.locals) :
    Back l R p e below s args (⟨"java/lang/String", "equals", "(Ljava/lang/Object;)Z"⟩ : MethodName) len W (fun P a => a = #[.ref x, .ref y] ∧ P.U.heap = h ∧ P.cells + 0 ≤ R.cells ∧ P.slots + 0 ≤ R.slots)
      (fun P _ v B => ∃ L, (((v = some (.int 1) ∧ cs = ds) ∨ (v = some (.int 0) ∧ ¬ cs = ds)) ∧ L = [] ∧ B.U.heap = h) ∧ B.locs = P.locs ++ L ∧ B.cells = P.cells + 0 ∧ B.slots = P.slots + 0) := by
  intro m meth c P g ig mk a X hg hsize hdg hW hn hp'
  obtain ⟨rfl, rfl, r1, r2⟩ := hp'
  have al : Z.vm.Alike P.U.vm := hZ.alike.trans X.warmed.alike
  obtain ⟨A, hx⟩ := txt_of wi al E V C K hc hb l2
  obtain ⟨A', hy⟩ := txt_of wi al E' V' C' K' hc' hb' l2'
  obtain ⟨v, B, X', ⟨⟨w, hv, hh, hq⟩, hl, hk, hs⟩, st⟩ := SEq.pays x t A cd cs.length (fun j => cs.getD j 0) y t' A' cd' ds.length (fun j => ds.getD j 0) z (tabEq_of (movedEq hZ hw)) hfr hlo m meth c P g ig mk _ X hg hsize hdg hW hn ⟨r1, r2, rfl, hx, hy, sta_is al S, hz⟩
  refine ⟨v, B, X', ⟨[], ⟨?_, rfl, hh⟩, hl, hk, hs⟩, st⟩
  rcases hq with ⟨rfl, q⟩ | ⟨rfl, q⟩
  · exact Or.inl ⟨hv, (same_list cs ds).mp q⟩
  · exact Or.inr ⟨hv, fun e => q ((same_list cs ds).mpr e)⟩
end StrChars.Road
namespace StrChars.Road
open Jvm Sem ClassFile Op Lib Jvm.Stand Jvm.Free Jvm.Free.XT
open Jvm.Lib.Cold (StaticIs)
/-- what backV says of its String, as the contracts of this text ask it: cs's low bytes, coder 0 -/
theorem codOf {cs : List Int32} {n : Nat} (hn : cs.length = n) (hb : ∀ c ∈ cs, ¬ 255 < c) : CodA cs 0 (Int32.ofNat n) ((cs.map lo8).map Value.int) := Or.inl ⟨rfl, by rw [hn], by simp [List.map_map, Function.comp_def], hb⟩
end StrChars.Road
end Jvm.Pilot.@@N@@
namespace Jvm.Pilot.@@N@@
open Jvm Jvm.ClassFile Sem Op Lib Jvm.Free Jvm.Stand Jvm.LawKit Jvm.RoadKit Bundle Jvm.Pilot.@@N@@.Jvm.D
namespace Own
open Jvm Jvm.ClassFile Sem Op Lib Jvm.Free Jvm.Stand Jvm.LawKit Jvm.RoadKit Bundle
/-- the run goes on from A to an end of which Q holds -/
def Goes (tb : Tables) (e : Env) (below : List Frame) (Q : Outcome → State → Prop) (A : State) : Prop := ∃ s₂ o, Steps tb e below A s₂ ∧ s₂.status = .running ∧ Ended s₂ below o ∧ Q o s₂
theorem Goes.via {tb : Tables} {e : Env} {below : List Frame} {Q : Outcome → State → Prop} {A B : State} (h : ∀ t, Steps tb e below B t → Steps tb e below A t) (g : Goes tb e below Q B) : Goes tb e below Q A := by
  obtain ⟨s₂, o, h1, h2⟩ := g
  exact ⟨s₂, o, h _ h1, h2⟩
theorem Goes.aft {tb : Tables} {e : Env} {below : List Frame} {Q : Outcome → State → Prop} {A B : State} (h : Steps tb e below A B) (g : Goes tb e below Q B) : Goes tb e below Q A := by
  obtain ⟨s₂, o, h1, h2⟩ := g
  exact ⟨s₂, o, h.trans h1, h2⟩
/-- what may be written: made since the law began (n0); of SA0 (handed in) or made since this method began (k) -/
def Sfs (h : Heap) (n0 k : Nat) (SA0 SA : List Addr) : Prop := ∀ x ∈ SA, x < h.size ∧ n0 ≤ x ∧ (x ∈ SA0 ∨ k ≤ x)
/-- where a walk stands, all in one (nothing interned) -/
def Wd (p : Program) (l : Launch) (e : Env) (R : Room) (s : State) (m : MethodId) (args : Array Value) (below : List Frame) (meth : Method) (c : Code)
    (Z : State) (a0 : Array Value) (EL : List (String × Nat)) (own : String) (n0 : Nat) (SA0 SA : List Addr) (T : State) (h : Heap) (cells slots : Nat) : Prop :=
  ∃ locs : List Loc, Stand p l e R s m args below meth c T locs cells slots ∧ T.heap = h ∧ Z.Warmed39 s.vm ∧ s.vm.findClass own = some m.cls ∧
    Fr n0 locs ∧ Old Z n0 h ∧ Keep s.heap h SA0 ∧ Sfs h n0 s.heap.size SA0 SA ∧ p.tables.exec = Jvm.exec
section Wide
variable {p : Program} {l : Launch} {e : Env} {R : Room} {s : State} {m : MethodId} {args : Array Value} {below : List Frame} {meth : Method} {c : Code}
variable {Z : State} {a0 : Array Value} {EL : List (String × Nat)} {own : String} {n0 : Nat} {SA0 SA : List Addr} {T : State} {h h' : Heap} {cells slots : Nat} {Q : Outcome → State → Prop} {pc : Nat} {Ls : Array Slot} {st : List Value} {vm0 vm1 : Vm} {a : Addr} {sl : Nat} {v : Value}
theorem Wd.exec (X : Wd p l e R s m args below meth c Z a0 EL own n0 SA0 SA T h cells slots) : p.tables.exec = Jvm.exec := by
  obtain ⟨_, -, -, -, -, -, -, -, -, q⟩ := X; exact q
theorem Wd.here (X : Wd p l e R s m args below meth c Z a0 EL own n0 SA0 SA T h cells slots) : At T m c below := by
  obtain ⟨_, Y, -⟩ := X; exact Y.here
theorem Wd.old (X : Wd p l e R s m args below meth c Z a0 EL own n0 SA0 SA T h cells slots) : Old Z n0 h := by
  obtain ⟨_, -, -, -, -, -, q, -⟩ := X; exact q
theorem Wd.n0h (X : Wd p l e R s m args below meth c Z a0 EL own n0 SA0 SA T h cells slots) : n0 ≤ h.size := by
  obtain ⟨q1, q2, -⟩ := X.old; rw [← q1]; exact q2
theorem Wd.saf (X : Wd p l e R s m args below meth c Z a0 EL own n0 SA0 SA T h cells slots) {x : Addr} (q : x ∈ SA) : n0 ≤ x ∧ x < h.size := by
  obtain ⟨_, -, -, -, -, -, -, -, S, -⟩ := X; exact ⟨(S x q).2.1, (S x q).1⟩
theorem Sfs.go {k : Nat} (S : Sfs h n0 k SA0 SA) (A : h.size ≤ h'.size) : Sfs h' n0 k SA0 SA := fun x hx => ⟨Nat.lt_of_lt_of_le (S x hx).1 A, (S x hx).2⟩
/-- new C -/
theorem Wd.new (X : Wd p l e R s m args below meth c Z a0 EL own n0 SA0 SA T h cells slots) {index n : Nat} {C : String} (w : (Cond.classLink own index C).before a0 Z = true) (wi : (Cond.instantiable C n).before a0 Z = true) (wz : (Cond.initialized C).before a0 Z = true)
    (hd : decode c.code pc = .ok (.new index, 3)) (hc : cells + 1 ≤ R.cells) (hl : slots + n ≤ R.slots)
    (k : ∀ (T' : State) (h' : Heap) (b : Addr), b = h.size → Wd p l e R s m args below meth c Z a0 EL own n0 SA0 (b :: SA) T' h' (cells + 1) (slots + n) → Ext h h' → Exa Z h' b C → (∀ {O nm d : String} {ty : FieldType}, Laid Z a0 C O nm d → parseFieldDescriptor d = some ty → Fld Z h' b O nm d (defaultValue ty)) →
      (∃ cell : Cell, h'[b]? = some cell ∧ cell.vm = .none ∧ cell.monitor = {}) → Goes p.tables e below Q (T'.setTop (mkF m (pc + 3) Ls (.ref b :: st)))) : Goes p.tables e below Q (T.setTop (mkF m pc Ls st)) := by
  obtain ⟨locs, Y, eT, hZ, hown, N, O, K, S, hx⟩ := X
  obtain ⟨T', h', Y', e', E, A, D, U, st'⟩ := newO Y hx hZ hown w wi wz eT (g := mkF m pc Ls st) rfl hd hc hl
  refine Goes.via st' (k T' h' _ rfl ⟨locs, Y', e', hZ, hown, N, O.ext E, K.ext E, fun x q => ?_, hx⟩ E A D U)
  rcases List.mem_cons.mp q with rfl | q
  · exact ⟨A.lt, by rw [← O.1]; exact O.2.1, Or.inr K.1⟩
  · exact S.go E.1 x q
/-- newarray of a primitive kind, its length known -/
theorem Wd.newarr (X : Wd p l e R s m args below meth c Z a0 EL own n0 SA0 SA T h cells slots) {aty : ArrayType} (w : (Cond.arrayClass (newarray.typeOf aty)).before a0 Z = true) {n : Int32} (hd : decode c.code pc = .ok (.newarray aty, 2)) (hn : ¬ n < 0) (cap : Nat) (hcap : n.toNatClampNeg ≤ cap) (hb : cap * 8 ≤ 536870912) (hc : cells + 1 ≤ R.cells) (hl : slots + cap ≤ R.slots)
    (k : ∀ (T' : State) (h' : Heap) (b : Addr) (kb : ClassId), b = h.size → Wd p l e R s m args below meth c Z a0 EL own n0 SA0 (b :: SA) T' h' (cells + 1) (slots + cap) → Ext h h' → Arv Z h' b kb (newarray.typeOf aty) n [] (defaultValue (newarray.typeOf aty)) → Goes p.tables e below Q (T'.setTop (mkF m (pc + 2) Ls (.ref b :: st)))) : Goes p.tables e below Q (T.setTop (mkF m pc Ls (.int n :: st))) := by
  obtain ⟨locs, Y, eT, hZ, hown, N, O, K, S, hx⟩ := X
  obtain ⟨T', h', kb, Y', e', E, A, st'⟩ := newP Y hx hZ w eT (g := mkF m pc Ls (.int n :: st)) rfl hd rfl hn hcap hb hc hl
  refine Goes.via st' (k T' h' _ kb rfl ⟨locs, Y', e', hZ, hown, N, O.ext E, K.ext E, fun x q => ?_, hx⟩ E (Arv.new A hn))
  rcases List.mem_cons.mp q with rfl | q
  · exact ⟨A.lt, by rw [← O.1]; exact O.2.1, Or.inr K.1⟩
  · exact S.go E.1 x q
theorem wrN (O : Old Z n0 h) (K : Keep s.heap h SA0) (S : Sfs h n0 s.heap.size SA0 SA) (q : a ∈ SA) (W : Wr h h' a sl v) :
    Old Z n0 h' ∧ Keep s.heap h' SA0 ∧ Sfs h' n0 s.heap.size SA0 SA ∧ n0 ≤ a := by
  obtain ⟨-, q3, q4⟩ := S a q
  exact ⟨O.wr W q3, K.wr W q4, S.go (Nat.le_of_eq W.size.symm), q3⟩
/-- putfield -/
theorem Wd.putf (X : Wd p l e R s m args below meth c Z a0 EL own n0 SA0 SA T h cells slots) {R0 O n d C : String} {index kk : Nat} {ty : FieldType} (w : (Cond.fieldLink own index R0 n d).before a0 Z = true) (via : Via Z R0 O n d) {v old : Value} (F : Fld Z h a O n d old) (E : Exa Z h a C)
    (L : (Cond.lays C O n d).before a0 Z = true ∨ ((Cond.laysFinal C O n d).before a0 Z = true ∧ own = O ∧ meth.name = "<init>")) (wi : (Cond.instantiable C kk).before a0 Z = true) (hty : parseFieldDescriptor d = some ty) (hn : narrow ty v = v) (hf : fits ty v = true) (hd : decode c.code pc = .ok (.putfield index, 3)) (q : a ∈ SA)
    (k : ∀ (T' : State) (h' : Heap), Wd p l e R s m args below meth c Z a0 EL own n0 SA0 SA T' h' cells slots → Wr h h' a (Jvm.RoadKit.slotOf Z O n d) v → Goes p.tables e below Q (T'.setTop (mkF m (pc + 3) Ls st))) : Goes p.tables e below Q (T.setTop (mkF m pc Ls (v :: .ref a :: st))) := by
  obtain ⟨locs, Y, eT, hZ, hown, N, O', K, S, hx⟩ := X
  obtain ⟨T', h', Y', e', W, st'⟩ := putF Y hx hZ hown (host := "") (Or.inl w) via eT F E L wi hty hn hf (g := mkF m pc Ls (v :: .ref a :: st)) rfl rfl hd
  obtain ⟨q2, q3, q4, q5⟩ := wrN O' K S q W
  exact Goes.via st' (k T' h' ⟨_, Y', e', hZ, hown, Fr.snoc Y' N q5, q2, q3, q4, hx⟩ W)
/-- getfield -/
theorem Wd.getf (X : Wd p l e R s m args below meth c Z a0 EL own n0 SA0 SA T h cells slots) {R0 O n d : String} {index : Nat} (w : (Cond.fieldLink own index R0 n d).before a0 Z = true) (via : Via Z R0 O n d) {v : Value} (F : Fld Z h a O n d v) (hd : decode c.code pc = .ok (.getfield index, 3))
    (k : ∀ T' : State, Wd p l e R s m args below meth c Z a0 EL own n0 SA0 SA T' h cells slots → Goes p.tables e below Q (T'.setTop (mkF m (pc + 3) Ls (v :: st)))) : Goes p.tables e below Q (T.setTop (mkF m pc Ls (.ref a :: st))) := by
  obtain ⟨locs, Y, eT, r4, r5, r⟩ := X
  obtain ⟨T', Y', e', st'⟩ := getF Y r.2.2.2.2 r4 r5 (host := "") (Or.inl w) via eT F (g := mkF m pc Ls (.ref a :: st)) rfl rfl hd
  exact Goes.via st' (k T' ⟨locs, Y', e', r4, r5, r⟩)
/-- getstatic -/
theorem Wd.gets (X : Wd p l e R s m args below meth c Z a0 EL own n0 SA0 SA T h cells slots) {R0 O n d : String} {index : Nat} (w : (Cond.fieldLink own index R0 n d).before a0 Z = true) (via : Via Z R0 O n d) {v : Value} (F : Sta Z h O n d v) (hd : decode c.code pc = .ok (.getstatic index, 3))
    (k : ∀ T' : State, Wd p l e R s m args below meth c Z a0 EL own n0 SA0 SA T' h cells slots → Goes p.tables e below Q (T'.setTop (mkF m (pc + 3) Ls (v :: st)))) : Goes p.tables e below Q (T.setTop (mkF m pc Ls st)) := by
  obtain ⟨locs, Y, eT, r4, r5, r⟩ := X
  obtain ⟨T', Y', e', st'⟩ := getS (host := "") Y r.2.2.2.2 r4 r5 w via eT F (g := mkF m pc Ls st) rfl hd
  exact Goes.via st' (k T' ⟨locs, Y', e', r4, r5, r⟩)
/-- Object.<init> -/
theorem Wd.inito (X : Wd p l e R s m args below meth c Z a0 EL own n0 SA0 SA T h cells slots) {idx : Nat} (w1 : (Cond.methodLink own idx Lib.objectInit).before a0 Z = true) (w2 : (Cond.instanceMethod Lib.objectInit).before a0 Z = true) (w3 : (Cond.code Lib.objectInit ⟨#[0xb1]⟩ 1 none).before a0 Z = true)
    (hd : decode c.code pc = .ok (.invokespecial idx, 3)) (hsize : Ls.size = c.maxLocals) (hf : 1 ≤ R.frames) (W : Nat) (hW : (st.map fun v => v.category).sum ≤ W) (hl : W + 12 ≤ R.locals)
    (k : ∀ T' : State, Wd p l e R s m args below meth c Z a0 EL own n0 SA0 SA T' h cells slots → Goes p.tables e below Q (T'.setTop (mkF m (pc + 3) Ls st))) : Goes p.tables e below Q (T.setTop (mkF m pc Ls (.ref a :: st))) := by
  obtain ⟨locs, Y, eT, r4, r5, r⟩ := X
  obtain ⟨T', Y', e', st'⟩ := initO Y r.2.2.2.2 r4 r5 w1 w2 w3 eT (g := mkF m pc Ls (.ref a :: st)) rfl hsize rfl hd hf (W := W) (by show 2 * 0 + _ ≤ _; omega) hl
  exact Goes.via st' (k T' ⟨locs, Y', e', r4, r5, r⟩)
/-- castore -/
theorem Wd.castore (X : Wd p l e R s m args below meth c Z a0 EL own n0 SA0 SA T h cells slots) {kb : ClassId} {n j x : Int32} {vs : List Value} {dv : Value} (V : Arv Z h a kb .char n vs dv) (hj : ¬ j < 0 ∧ j < n) (i : Nat) (hji : j.toNatClampNeg = i) (hi : i < vs.length) (q : a ∈ SA) (hd : decode c.code pc = .ok (.castore, 1))
    (k : ∀ (T' : State) (h' : Heap), Wd p l e R s m args below meth c Z a0 EL own n0 SA0 SA T' h' cells slots → Wr h h' a j.toNatClampNeg (.int (nar .char x)) → Arv Z h' a kb .char n (vs.set i (.int (nar .char x))) dv → Goes p.tables e below Q (T'.setTop (mkF m (pc + 1) Ls st))) : Goes p.tables e below Q (T.setTop (mkF m pc Ls (.int x :: .int j :: .ref a :: st))) := by
  obtain ⟨locs, Y, eT, hZ, hown, N, O', K, S, hx⟩ := X
  obtain ⟨cl, A, v1, v2, v3, v4, v5⟩ := V
  obtain ⟨T', h', Y', e', W, st'⟩ := stC Y hx hZ eT A (inb_of v2 hj) (g := mkF m pc Ls (.int x :: .int j :: .ref a :: st)) rfl rfl hd
  obtain ⟨q2, q3, q4, q5⟩ := wrN O' K S q W
  exact Goes.via st' (k T' h' ⟨_, Y', e', hZ, hown, Fr.snoc Y' N q5, q2, q3, q4, hx⟩ W (Arv.set A v1 v2 v3 v4 v5 (fits_nar_char _) W i hji hi))
/-- bastore into a byte[] -/
theorem Wd.bastore (X : Wd p l e R s m args below meth c Z a0 EL own n0 SA0 SA T h cells slots) {kb : ClassId} {n j x : Int32} {vs : List Value} {dv : Value} (V : Arv Z h a kb .byte n vs dv) (hj : ¬ j < 0 ∧ j < n) (i : Nat) (hji : j.toNatClampNeg = i) (hi : i < vs.length) (q : a ∈ SA) (hd : decode c.code pc = .ok (.bastore, 1))
    (k : ∀ (T' : State) (h' : Heap), Wd p l e R s m args below meth c Z a0 EL own n0 SA0 SA T' h' cells slots → Wr h h' a j.toNatClampNeg (.int (nar .byte x)) → Arv Z h' a kb .byte n (vs.set i (.int (nar .byte x))) dv → Goes p.tables e below Q (T'.setTop (mkF m (pc + 1) Ls st))) : Goes p.tables e below Q (T.setTop (mkF m pc Ls (.int x :: .int j :: .ref a :: st))) := by
  obtain ⟨locs, Y, eT, hZ, hown, N, O', K, S, hx⟩ := X
  obtain ⟨cl, A, v1, v2, v3, v4, v5⟩ := V
  obtain ⟨T', h', Y', e', W, st'⟩ := stB Y hx hZ eT A (inb_of v2 hj) (g := mkF m pc Ls (.int x :: .int j :: .ref a :: st)) rfl rfl hd
  obtain ⟨q2, q3, q4, q5⟩ := wrN O' K S q W
  exact Goes.via st' (k T' h' ⟨_, Y', e', hZ, hown, Fr.snoc Y' N q5, q2, q3, q4, hx⟩ W (Arv.set A v1 v2 v3 v4 v5 (fits_nar_byte _) W i hji hi))
/-- caload -/
theorem Wd.caload (X : Wd p l e R s m args below meth c Z a0 EL own n0 SA0 SA T h cells slots) {kb : ClassId} {n j : Int32} {vs : List Value} {dv v : Value} (V : Arv Z h a kb .char n vs dv) (hj : ¬ j < 0 ∧ j < n) (hv : vs.getD j.toNatClampNeg dv = v) (hd : decode c.code pc = .ok (.caload, 1))
    (g : Goes p.tables e below Q (T.setTop (mkF m (pc + 1) Ls (v :: st)))) : Goes p.tables e below Q (T.setTop (mkF m pc Ls (.int j :: .ref a :: st))) := by
  obtain ⟨locs, Y, eT, r4, r5, r⟩ := X
  obtain ⟨cl, A, v1, v2, v3, v4, v5⟩ := V
  exact Goes.via (fun t => Y.caload r.2.2.2.2 (by rw [eT]; exact A.1) (State.isArrayOf_alike r4.alike A.2.1) A.2.2 (inb_of v2 hj) (v4.at (inb_of v2 hj) hv) (g := mkF m pc Ls (.int j :: .ref a :: st)) rfl rfl hd t) g
/-- arraylength -/
theorem Wd.alen (X : Wd p l e R s m args below meth c Z a0 EL own n0 SA0 SA T h cells slots) {kb : ClassId} {n : Int32} {vs : List Value} {dv : Value} {ty : FieldType} (V : Arv Z h a kb ty n vs dv) (hd : decode c.code pc = .ok (.arraylength, 1))
    (g : Goes p.tables e below Q (T.setTop (mkF m (pc + 1) Ls (.int n :: st)))) : Goes p.tables e below Q (T.setTop (mkF m pc Ls (.ref a :: st))) := by
  obtain ⟨locs, Y, eT, r4, r5, r⟩ := X
  obtain ⟨cl, A, v1, v2, v3, v4, v5⟩ := V
  rw [← len_of v2 v3] at g
  exact Goes.via (fun t => Y.arraylength r.2.2.2.2 (by rw [eT]; exact A.1) (State.isArrayOf_alike r4.alike A.2.1) (g := mkF m pc Ls (.ref a :: st)) rfl rfl hd t) g
/-- ldc of an int -/
theorem Wd.ldcI (X : Wd p l e R s m args below meth c Z a0 EL own n0 SA0 SA T h cells slots) {index : Nat} {v : Int32} (w : (Cond.constant own index v).before a0 Z = true) (hd : decode c.code pc = .ok (.ldc index, 2))
    (g : Goes p.tables e below Q (T.setTop (mkF m (pc + 2) Ls (.int v :: st)))) : Goes p.tables e below Q (T.setTop (mkF m pc Ls st)) := by
  obtain ⟨locs, Y, eT, r4, r5, r⟩ := X
  exact Goes.via (fun t => Y.ldcInt r.2.2.2.2 r5 (mvT r4 w) (g := mkF m pc Ls st) rfl hd t) g
end Wide
end Own
namespace Own
open Jvm Jvm.ClassFile Sem Op Lib Jvm.Free Jvm.Stand Jvm.LawKit Jvm.RoadKit Bundle
/-- a method's contract: handed as' in the heap h0, it may write SA0 and what it makes; at its end Q0 holds -/
def Ct (l : Launch) (Z : State) (EL : List (String × Nat)) (ws : List Jvm.Cond) (y : MethodName) (bytes : ByteArray) (maxL : Nat) (ret : Option FieldType) (rm : Room) (as' : Array Value) (h0 : Heap) (n0 : Nat) (SA0 : List Addr) (Q0 : Option Value → Heap → Prop) : Prop :=
  MetFree l y (head1 (Jvm.Cond.code y bytes maxL ret :: ws) rm) (fun a U => a = as' ∧ Z.Warmed39 U.vm ∧ U.heap = h0 ∧ Old Z n0 h0 ∧ ∀ x ∈ SA0, x < h0.size ∧ n0 ≤ x) (fun _ _ _ _ _ => True)
    (fun _ U o U' => ∃ v L, o = .returned v ∧ (Q0 v U'.heap ∧ Fr n0 L ∧ Old Z n0 U'.heap ∧ Keep h0 U'.heap SA0) ∧ FrameEnd U o U' L rm.cells rm.slots)
def Endq (Z : State) (EL : List (String × Nat)) (s : State) (n0 : Nat) (SA0 : List Addr) (rm : Room) (Q0 : Option Value → Heap → Prop) (o : Outcome) (U' : State) : Prop :=
  ∃ v L, o = .returned v ∧ (Q0 v U'.heap ∧ Fr n0 L ∧ Old Z n0 U'.heap ∧ Keep s.heap U'.heap SA0) ∧ FrameEnd s o U' L rm.cells rm.slots
section Wide
variable {p : Program} {l : Launch} {e : Env} {R : Room} {s : State} {m : MethodId} {args : Array Value} {below : List Frame} {meth : Method} {c : Code}
variable {Z : State} {a0 : Array Value} {EL : List (String × Nat)} {own : String} {n0 : Nat} {SA0 SA SA' : List Addr} {T : State} {h h' h0 : Heap} {cells slots : Nat} {Q : Outcome → State → Prop} {pc : Nat} {Ls : Array Slot} {st : List Value} {a : Addr} {sl : Nat} {v : Value}
variable {ws : List Jvm.Cond} {y z : MethodName} {bytes : ByteArray} {maxL : Nat} {ret : Option FieldType} {rm : Room} {as' : Array Value} {Q0 : Option Value → Heap → Prop}
theorem Ct.enter (pn : plainFor y = true) (hEL : EW Z a0 EL)
    (body : ∀ (p : Program) (e : Env) (s : State) (m : MethodId) (below : List Frame) (meth : Method) (c : Code) (T : State), c.code = bytes → c.maxLocals = maxL → meth.sig.returnType = ret → meth.locks = false → meth.name = y.name → s.heap = h0 → Wd p l e rm s m as' below meth c Z a0 EL y.cls n0 SA0 SA0 T h0 0 0 →
      Goes p.tables e below (Endq Z EL s n0 SA0 rm Q0) (T.setTop (entryFrame m as' maxL))) : Ct l Z EL ws y bytes maxL ret rm as' h0 n0 SA0 Q0 := by
  refine MetFree.of_bodySF pn hisR ?_
  intro p e s m args below meth c s₁ Bd hml0 hP hK
  obtain ⟨rfl, hZ, rfl, O, S⟩ := hP
  have Y : Stand p l e rm s m args below meth c s₁ [] 0 0 := Stand.of_body Bd
  have e0 : s₁.heap = s.heap := by rw [Bd.state]; rfl
  obtain ⟨s₂, o, h1, h2, h3, v, L, h4, h5, h6⟩ := body p e s m below meth c s₁ Bd.bytes hml0 Bd.returns (BodyLoose.notSynchronized Bd) (name_of_methodNamed Bd.named Bd.method).1 rfl
    ⟨[], Y, e0, hZ, findClass_of_methodNamed Bd.named, Fr.nil _, O, Keep.refl _ _, fun x q => ⟨(S x q).1, (S x q).2, Or.inl q⟩, Bd.exec⟩
  exact ⟨s₂, o, h1, h2, h3, v, L, h4, h5, h6⟩
theorem Ct.back {len W : Nat} (ct : Ct l Z EL [] y bytes maxL ret rm as' h n0 SA0 Q0) (hZ : Z.Warmed39 s.vm) (wc : (Jvm.Cond.code y bytes maxL ret).before a0 Z = true) (wz : (Jvm.Cond.initialized y.cls).before a0 Z = true) (hf : rm.frames + 1 ≤ R.frames) (hl : W + (maxL + 11) + rm.locals ≤ R.locals) (O : Old Z n0 h) (S : ∀ x ∈ SA0, x < h.size ∧ n0 ≤ x) :
    Back l R p e below s args y len W (fun A a => a = as' ∧ A.U.heap = h ∧ A.cells + rm.cells ≤ R.cells ∧ A.slots + rm.slots ≤ R.slots)
      (fun A _ v B => ∃ L, (Q0 v B.U.heap ∧ Fr n0 L ∧ Old Z n0 B.U.heap ∧ Keep h B.U.heap SA0) ∧ B.locs = A.locs ++ L ∧ B.cells = A.cells + rm.cells ∧ B.slots = A.slots + rm.slots) :=
  backOf (Q := fun v h' L => Q0 v h' ∧ Fr n0 L ∧ Old Z n0 h' ∧ Keep h h' SA0) (fun p e h1 h2 h3 s m args below h4 h5 h6 h7 => ct p e h1 h2 h3 s m args below h4 h5 ⟨h6.1, h6.2.1, h6.2.2, O, S⟩ h7) hZ wc wz hf hl
theorem backN {T' : State} {L : List Loc} {cells' slots' : Nat} (hZ : Z.Warmed39 s.vm) (hown : s.vm.findClass own = some m.cls) {locs : List Loc} (N : Fr n0 locs) (O : Old Z n0 h) (K : Keep s.heap h SA0) (S : Sfs h n0 s.heap.size SA0 SA) (hx : p.tables.exec = Jvm.exec)
    (Y : Stand p l e R s m args below meth c T' (locs ++ L) cells' slots') (hL : Fr n0 L) (K' : Keep h T'.heap SA') (hsub : ∀ x ∈ SA', x ∈ SA) :
    Wd p l e R s m args below meth c Z a0 EL own n0 SA0 SA T' T'.heap cells' slots' :=
  ⟨_, Y, rfl, hZ, hown, N.app hL, O.keep K' (fun x q => (S x (hsub x q)).2.1), K.trans K' (fun x q => (S x (hsub x q)).2.2), S.go K'.1, hx⟩
theorem Wd.calls (X : Wd p l e R s m args below meth c Z a0 EL own n0 SA0 SA T h cells slots) (argsL rest : List Value) {idx : Nat} (ct : Ct l Z EL [] y bytes maxL ret rm argsL.toArray h n0 SA' Q0) (w1 : (Jvm.Cond.methodLink own idx y).before a0 Z = true) (w2 : (Jvm.Cond.static y).before a0 Z = true) (w3 : (Jvm.Cond.initialized y.cls).before a0 Z = true) (w4 : (Jvm.Cond.code y bytes maxL ret).before a0 Z = true)
    (hy : y.cls ≠ "java/lang/invoke/MethodHandle" ∧ y.cls ≠ "java/lang/invoke/VarHandle") (hsub : ∀ x ∈ SA', x ∈ SA) (hf : rm.frames + 1 ≤ R.frames) (W : Nat) (hl : W + (maxL + 11) + rm.locals ≤ R.locals) (hcl : cells + rm.cells ≤ R.cells) (hsl : slots + rm.slots ≤ R.slots)
    (hlen : ∀ sig, parseMethodDescriptor y.desc = some sig → argsL.length = sig.parameters.length) (hst : st = argsL.reverse ++ rest) (hW : (rest.map fun v => v.category).sum ≤ W) (hsize : Ls.size = c.maxLocals) (hd : decode c.code pc = .ok (.invokestatic idx, 3))
    (k : ∀ (T' : State) (h' : Heap) (v : Option Value), Wd p l e R s m args below meth c Z a0 EL own n0 SA0 SA T' h' (cells + rm.cells) (slots + rm.slots) → Keep h h' SA' → Q0 v h' → Goes p.tables e below Q (T'.setTop (mkF m (pc + 3) Ls (v.toList ++ rest)))) : Goes p.tables e below Q (T.setTop (mkF m pc Ls st)) := by
  obtain ⟨locs, Y, eT, hZ, hown, N, O, K, S, hx⟩ := X
  obtain ⟨v, vm1, ⟨T', L', c', s'⟩, -, Y', ⟨L, ⟨q0, q1, q2, q3⟩, rfl, rfl, rfl⟩, st'⟩ := Jvm.LawKit.callS Y hx hown (mvT hZ w1) (mvT hZ w2) (mvT hZ w3) (mvT hZ w4) hy (ct.back (a0 := a0) (W := W) (len := 3) hZ w4 w3 hf hl O fun x q => ⟨(S x (hsub x q)).1, (S x (hsub x q)).2.1⟩)
    (g := mkF m pc Ls st) rfl hsize (argsL := argsL) (rest := rest) hlen hst (by show 2 * 0 + _ ≤ _; omega) hd (fun _ _ => ⟨rfl, eT, hcl, hsl⟩)
  exact Goes.via st' (k T' T'.heap v (backN hZ hown N O K S hx Y' q1 q3 hsub) q3 q0)
theorem Wd.leave (X : Wd p l e R s m args below meth c Z a0 EL own n0 SA0 SA T h cells slots) (hv : meth.sig.returnType = none → ∀ w, v = w → False) (hlk : meth.locks = false) (hcl : cells ≤ R.cells) (hsl : slots ≤ R.slots) (q : Q0 (some v) h)
    (st' : ∀ fs, (∀ (f : JFrame) (acts : List Action), f.method = m → f.locked = none → f.entered = [] → (doReturn e (T.setTop f) acts (some v)).1 = T.setFrames fs) → ∀ (locs : List Loc), Stand p l e R s m args below meth c T locs cells slots → Steps p.tables e below (T.setTop (mkF m pc Ls st)) (T.setFrames fs)) :
    Goes p.tables e below (Endq Z EL s n0 SA0 R Q0) (T.setTop (mkF m pc Ls st)) := by
  obtain ⟨locs, Y, eT, hZ, hown, N, O, K, S, hx⟩ := X
  obtain ⟨fs, hr, hrun, hended, hW, hE⟩ := (Y.mono hcl hsl).leave (v := some v) (fun q => (hv q v rfl).elim) hlk
  refine ⟨_, _, st' fs hr locs Y, hrun, hended, _, _, rfl, ⟨?_, N, ?_, ?_⟩, ⟨_, rfl⟩, hW, hE⟩
  · show Q0 (some v) T.heap; rw [eT]; exact q
  · show Old Z n0 T.heap; rw [eT]; exact O
  · show Keep s.heap T.heap SA0; rw [eT]; exact K
theorem Wd.reti (X : Wd p l e R s m args below meth c Z a0 EL own n0 SA0 SA T h cells slots) {t : FieldType} {x : Int32} (hret : meth.sig.returnType = some t) (ht : t = .boolean ∨ t = .byte ∨ t = .char ∨ t = .short) (hlk : meth.locks = false) (hd : decode c.code pc = .ok (.ireturn, 1)) (hcl : cells ≤ R.cells) (hsl : slots ≤ R.slots) (q : Q0 (some (.int (nar t x))) h) :
    Goes p.tables e below (Endq Z EL s n0 SA0 R Q0) (T.setTop (mkF m pc Ls (.int x :: st))) :=
  X.leave (fun q => by rw [hret] at q; cases q) hlk hcl hsl q (fun fs hr locs Y => retN Y X.exec hret ht hd hr)
theorem Wd.retA (X : Wd p l e R s m args below meth c Z a0 EL own n0 SA0 SA T h cells slots) {t : FieldType} {x : Value} (hret : meth.sig.returnType = some t) (ht : t.isReference = true) (hx : x.isRef = true) (hlk : meth.locks = false) (hd : decode c.code pc = .ok (.areturn, 1)) (hcl : cells ≤ R.cells) (hsl : slots ≤ R.slots) (q : Q0 (some x) h) :
    Goes p.tables e below (Endq Z EL s n0 SA0 R Q0) (T.setTop (mkF m pc Ls (x :: st))) :=
  X.leave (fun q => by rw [hret] at q; cases q) hlk hcl hsl q (fun fs hr locs Y => retOut Y X.exec hret (by cases t <;> cases x <;> first | rfl | cases ht | cases hx) (Or.inr (Or.inr (Or.inr (Or.inr ⟨rfl, ht, hx⟩)))) hd hr)
end Wide
end Own
namespace Own
open Jvm Jvm.ClassFile Sem Op Lib Jvm.Free Jvm.Stand Jvm.LawKit Jvm.RoadKit Bundle
section Wide
variable {p : Program} {l : Launch} {e : Env} {R : Room} {s : State} {m : MethodId} {args : Array Value} {below : List Frame} {meth : Method} {c : Code}
variable {Z : State} {a0 : Array Value} {EL : List (String × Nat)} {own : String} {n0 : Nat} {SA0 SA : List Addr} {T : State} {h : Heap} {cells slots : Nat} {Q : Outcome → State → Prop} {pc : Nat} {Ls : Array Slot} {st : List Value}
theorem Wd.iloadN (X : Wd p l e R s m args below meth c Z a0 EL own n0 SA0 SA T h cells slots) {k : Fin 4} {x : Int32} (hd : decode c.code pc = .ok (.iload_n k, 1)) (hl : Ls[k.val]? = some (.val (.int x))) (g : Goes p.tables e below Q (T.setTop (mkF m (pc + 1) Ls (.int x :: st)))) : Goes p.tables e below Q (T.setTop (mkF m pc Ls st)) := by
  exact Goes.via (fun t k => XS.iloadN X.here X.exec rfl hd hl k) g
theorem Wd.iload (X : Wd p l e R s m args below meth c Z a0 EL own n0 SA0 SA T h cells slots) {k : Nat} {x : Int32} (hd : decode c.code pc = .ok (.iload k, 2)) (hl : Ls[k]? = some (.val (.int x))) (g : Goes p.tables e below Q (T.setTop (mkF m (pc + 2) Ls (.int x :: st)))) : Goes p.tables e below Q (T.setTop (mkF m pc Ls st)) := by
  exact Goes.via (fun t k => XS.iload X.here X.exec rfl hd hl k) g
theorem Wd.aloadN (X : Wd p l e R s m args below meth c Z a0 EL own n0 SA0 SA T h cells slots) {k : Fin 4} {x : Value} (hd : decode c.code pc = .ok (.aload_n k, 1)) (hl : Ls[k.val]? = some (.val x)) (hv : x.isRef = true) (g : Goes p.tables e below Q (T.setTop (mkF m (pc + 1) Ls (x :: st)))) : Goes p.tables e below Q (T.setTop (mkF m pc Ls st)) := by
  exact Goes.via (fun t k => XS.aloadN X.here X.exec rfl hd hl hv k) g
theorem Wd.aload (X : Wd p l e R s m args below meth c Z a0 EL own n0 SA0 SA T h cells slots) {k : Nat} {x : Value} (hd : decode c.code pc = .ok (.aload k, 2)) (hl : Ls[k]? = some (.val x)) (hv : x.isRef = true) (g : Goes p.tables e below Q (T.setTop (mkF m (pc + 2) Ls (x :: st)))) : Goes p.tables e below Q (T.setTop (mkF m pc Ls st)) := by
  exact Goes.via (fun t k => XS.aload X.here X.exec rfl hd hl hv k) g
theorem Wd.iconst (X : Wd p l e R s m args below meth c Z a0 EL own n0 SA0 SA T h cells slots) {i : Int} {x : Int32} (hd : decode c.code pc = .ok (.iconst i, 1)) (hv : Int32.ofInt i = x) (g : Goes p.tables e below Q (T.setTop (mkF m (pc + 1) Ls (.int x :: st)))) : Goes p.tables e below Q (T.setTop (mkF m pc Ls st)) := by
  subst hv
  exact Goes.via (fun t k => XS.iconst X.here X.exec rfl hd k) g
theorem Wd.bipush (X : Wd p l e R s m args below meth c Z a0 EL own n0 SA0 SA T h cells slots) {i : Int} {x : Int32} (hd : decode c.code pc = .ok (.bipush i, 2)) (hv : (Int8.ofInt i).toInt32 = x) (g : Goes p.tables e below Q (T.setTop (mkF m (pc + 2) Ls (.int x :: st)))) : Goes p.tables e below Q (T.setTop (mkF m pc Ls st)) := by
  subst hv
  exact Goes.via (fun t k => XS.bipush X.here X.exec rfl hd k) g
theorem Wd.sipush (X : Wd p l e R s m args below meth c Z a0 EL own n0 SA0 SA T h cells slots) {i : Int} {x : Int32} (hd : decode c.code pc = .ok (.sipush i, 3)) (hv : (Int16.ofInt i).toInt32 = x) (g : Goes p.tables e below Q (T.setTop (mkF m (pc + 3) Ls (.int x :: st)))) : Goes p.tables e below Q (T.setTop (mkF m pc Ls st)) := by
  subst hv
  exact Goes.via (fun t k => XS.sipush X.here X.exec rfl hd k) g
theorem Wd.anull (X : Wd p l e R s m args below meth c Z a0 EL own n0 SA0 SA T h cells slots)  (hd : decode c.code pc = .ok (.aconst_null, 1))  (g : Goes p.tables e below Q (T.setTop (mkF m (pc + 1) Ls (.null :: st)))) : Goes p.tables e below Q (T.setTop (mkF m pc Ls st)) := by
  exact Goes.via (fun t k => XS.aconstNull X.here X.exec rfl hd k) g
theorem Wd.istoreN (X : Wd p l e R s m args below meth c Z a0 EL own n0 SA0 SA T h cells slots) {k : Fin 4} {x : Int32} (l' : Array Slot) (hd : decode c.code pc = .ok (.istore_n k, 1)) (hl : storeLocals Ls k.val (.int x) = some l') (g : Goes p.tables e below Q (T.setTop (mkF m (pc + 1) l' st))) : Goes p.tables e below Q (T.setTop (mkF m pc Ls (.int x :: st))) := by
  exact Goes.via (fun t k => XS.istoreN X.here X.exec rfl hd rfl hl k) g
theorem Wd.istore (X : Wd p l e R s m args below meth c Z a0 EL own n0 SA0 SA T h cells slots) {k : Nat} {x : Int32} (l' : Array Slot) (hd : decode c.code pc = .ok (.istore k, 2)) (hl : storeLocals Ls k (.int x) = some l') (g : Goes p.tables e below Q (T.setTop (mkF m (pc + 2) l' st))) : Goes p.tables e below Q (T.setTop (mkF m pc Ls (.int x :: st))) := by
  exact Goes.via (fun t k => XS.istore X.here X.exec rfl hd rfl hl k) g
theorem Wd.astoreN (X : Wd p l e R s m args below meth c Z a0 EL own n0 SA0 SA T h cells slots) {k : Fin 4} {x : Value} (l' : Array Slot) (hd : decode c.code pc = .ok (.astore_n k, 1)) (hv : x.isRef = true) (hl : storeLocals Ls k.val x = some l') (g : Goes p.tables e below Q (T.setTop (mkF m (pc + 1) l' st))) : Goes p.tables e below Q (T.setTop (mkF m pc Ls (x :: st))) := by
  exact Goes.via (fun t k => XS.astoreN X.here X.exec rfl hd rfl hv hl k) g
theorem Wd.astore (X : Wd p l e R s m args below meth c Z a0 EL own n0 SA0 SA T h cells slots) {k : Nat} {x : Value} (l' : Array Slot) (hd : decode c.code pc = .ok (.astore k, 2)) (hv : x.isRef = true) (hl : storeLocals Ls k x = some l') (g : Goes p.tables e below Q (T.setTop (mkF m (pc + 2) l' st))) : Goes p.tables e below Q (T.setTop (mkF m pc Ls (x :: st))) := by
  exact Goes.via (fun t k => XS.astore X.here X.exec rfl hd rfl hv hl k) g
theorem Wd.iadd (X : Wd p l e R s m args below meth c Z a0 EL own n0 SA0 SA T h cells slots) {x y : Int32} (hd : decode c.code pc = .ok (.iadd, 1))  (g : Goes p.tables e below Q (T.setTop (mkF m (pc + 1) Ls (.int (x + y) :: st)))) : Goes p.tables e below Q (T.setTop (mkF m pc Ls (.int y :: .int x :: st))) := by
  exact Goes.via (fun t k => XS.iadd X.here X.exec rfl hd rfl k) g
theorem Wd.isub (X : Wd p l e R s m args below meth c Z a0 EL own n0 SA0 SA T h cells slots) {x y : Int32} (hd : decode c.code pc = .ok (.isub, 1))  (g : Goes p.tables e below Q (T.setTop (mkF m (pc + 1) Ls (.int (x - y) :: st)))) : Goes p.tables e below Q (T.setTop (mkF m pc Ls (.int y :: .int x :: st))) := by
  exact Goes.via (fun t k => XS.isub X.here X.exec rfl hd rfl k) g
theorem Wd.iand (X : Wd p l e R s m args below meth c Z a0 EL own n0 SA0 SA T h cells slots) {x y : Int32} (hd : decode c.code pc = .ok (.iand, 1))  (g : Goes p.tables e below Q (T.setTop (mkF m (pc + 1) Ls (.int (x &&& y) :: st)))) : Goes p.tables e below Q (T.setTop (mkF m pc Ls (.int y :: .int x :: st))) := by
  exact Goes.via (fun t k => XS.iand X.here X.exec rfl hd rfl k) g
theorem Wd.imul (X : Wd p l e R s m args below meth c Z a0 EL own n0 SA0 SA T h cells slots) {x y : Int32} (hd : decode c.code pc = .ok (.imul, 1))  (g : Goes p.tables e below Q (T.setTop (mkF m (pc + 1) Ls (.int (x * y) :: st)))) : Goes p.tables e below Q (T.setTop (mkF m pc Ls (.int y :: .int x :: st))) := by
  exact Goes.via (fun t k => XS.imul X.here X.exec rfl hd rfl k) g
theorem Wd.ior (X : Wd p l e R s m args below meth c Z a0 EL own n0 SA0 SA T h cells slots) {x y : Int32} (hd : decode c.code pc = .ok (.ior, 1))  (g : Goes p.tables e below Q (T.setTop (mkF m (pc + 1) Ls (.int (x ||| y) :: st)))) : Goes p.tables e below Q (T.setTop (mkF m pc Ls (.int y :: .int x :: st))) := by
  exact Goes.via (fun t k => XT.ior X.here X.exec rfl hd rfl k) g
theorem Wd.ixor (X : Wd p l e R s m args below meth c Z a0 EL own n0 SA0 SA T h cells slots) {x y : Int32} (hd : decode c.code pc = .ok (.ixor, 1))  (g : Goes p.tables e below Q (T.setTop (mkF m (pc + 1) Ls (.int (x ^^^ y) :: st)))) : Goes p.tables e below Q (T.setTop (mkF m pc Ls (.int y :: .int x :: st))) := by
  exact Goes.via (fun t k => XT.ixor X.here X.exec rfl hd rfl k) g
theorem Wd.ishl (X : Wd p l e R s m args below meth c Z a0 EL own n0 SA0 SA T h cells slots) {x y : Int32} (hd : decode c.code pc = .ok (.ishl, 1))  (g : Goes p.tables e below Q (T.setTop (mkF m (pc + 1) Ls (.int (x <<< (y &&& 31)) :: st)))) : Goes p.tables e below Q (T.setTop (mkF m pc Ls (.int y :: .int x :: st))) := by
  exact Goes.via (fun t k => XT.ishl X.here X.exec rfl hd rfl k) g
theorem Wd.ishr (X : Wd p l e R s m args below meth c Z a0 EL own n0 SA0 SA T h cells slots) {x y : Int32} (hd : decode c.code pc = .ok (.ishr, 1))  (g : Goes p.tables e below Q (T.setTop (mkF m (pc + 1) Ls (.int (x >>> (y &&& 31)) :: st)))) : Goes p.tables e below Q (T.setTop (mkF m pc Ls (.int y :: .int x :: st))) := by
  exact Goes.via (fun t k => XT.ishr X.here X.exec rfl hd rfl k) g
theorem Wd.iushr (X : Wd p l e R s m args below meth c Z a0 EL own n0 SA0 SA T h cells slots) {x y : Int32} (hd : decode c.code pc = .ok (.iushr, 1))  (g : Goes p.tables e below Q (T.setTop (mkF m (pc + 1) Ls (.int (XT.ushr x y) :: st)))) : Goes p.tables e below Q (T.setTop (mkF m pc Ls (.int y :: .int x :: st))) := by
  exact Goes.via (fun t k => XT.iushr X.here X.exec rfl hd rfl k) g
theorem Wd.irem (X : Wd p l e R s m args below meth c Z a0 EL own n0 SA0 SA T h cells slots) {x y : Int32} (hd : decode c.code pc = .ok (.irem, 1)) (hy : y ≠ 0) (g : Goes p.tables e below Q (T.setTop (mkF m (pc + 1) Ls (.int (x % y) :: st)))) : Goes p.tables e below Q (T.setTop (mkF m pc Ls (.int y :: .int x :: st))) := by
  have hx := X.exec
  obtain ⟨locs, Y, -⟩ := X
  exact Goes.via (fun t k => iremM Y hx (g := mkF m pc Ls (.int y :: .int x :: st)) rfl hd rfl hy k) g
theorem Wd.i2c (X : Wd p l e R s m args below meth c Z a0 EL own n0 SA0 SA T h cells slots) {x : Int32} (hd : decode c.code pc = .ok (.i2c, 1))  (g : Goes p.tables e below Q (T.setTop (mkF m (pc + 1) Ls (.int (x.toUInt32.toUInt16.toUInt32.toInt32) :: st)))) : Goes p.tables e below Q (T.setTop (mkF m pc Ls (.int x :: st))) := by
  exact Goes.via (fun t k => XT.i2c X.here X.exec rfl hd rfl k) g
theorem Wd.i2b (X : Wd p l e R s m args below meth c Z a0 EL own n0 SA0 SA T h cells slots) {x : Int32} (hd : decode c.code pc = .ok (.i2b, 1))  (g : Goes p.tables e below Q (T.setTop (mkF m (pc + 1) Ls (.int (x.toInt8.toInt32) :: st)))) : Goes p.tables e below Q (T.setTop (mkF m pc Ls (.int x :: st))) := by
  exact Goes.via (fun t k => XT.i2b X.here X.exec rfl hd rfl k) g
theorem Wd.dup (X : Wd p l e R s m args below meth c Z a0 EL own n0 SA0 SA T h cells slots) {x : Value} (hd : decode c.code pc = .ok (.dup, 1)) (hv : x.category = 1) (g : Goes p.tables e below Q (T.setTop (mkF m (pc + 1) Ls (x :: x :: st)))) : Goes p.tables e below Q (T.setTop (mkF m pc Ls (x :: st))) := by
  exact Goes.via (fun t k => XS.dup X.here X.exec rfl hd rfl hv k) g
theorem Wd.pop (X : Wd p l e R s m args below meth c Z a0 EL own n0 SA0 SA T h cells slots) {x : Value} (hd : decode c.code pc = .ok (.pop, 1)) (hv : x.category = 1) (g : Goes p.tables e below Q (T.setTop (mkF m (pc + 1) Ls st))) : Goes p.tables e below Q (T.setTop (mkF m pc Ls (x :: st))) := by
  exact Goes.via (fun t k => XT.pop X.here X.exec rfl hd rfl hv k) g
theorem Wd.iinc (X : Wd p l e R s m args below meth c Z a0 EL own n0 SA0 SA T h cells slots) {k : Nat} {cst : Int} {x : Int32} (l' : Array Slot) (hd : decode c.code pc = .ok (.iinc k cst, 3)) (hl : Ls[k]? = some (.val (.int x))) (hl' : storeLocals Ls k (.int (x + Int32.ofInt cst)) = some l') (g : Goes p.tables e below Q (T.setTop (mkF m (pc + 3) l' st))) : Goes p.tables e below Q (T.setTop (mkF m pc Ls st)) := by
  exact Goes.via (fun t k => XS.iinc X.here X.exec rfl hd hl hl' k) g
theorem Wd.goto (X : Wd p l e R s m args below meth c Z a0 EL own n0 SA0 SA T h cells slots) {o : Int} (pc' : Nat) (hd : decode c.code pc = .ok (.goto o, 3)) (hp : 0 ≤ (pc : Int) + o ∧ ((pc : Int) + o).toNat = pc') (g : Goes p.tables e below Q (T.setTop (mkF m pc' Ls st))) : Goes p.tables e below Q (T.setTop (mkF m pc Ls st)) :=
  Goes.via (fun t k => XS.goto X.here X.exec rfl rfl hd hp.1 hp.2 k) g
theorem Wd.if_eq (X : Wd p l e R s m args below meth c Z a0 EL own n0 SA0 SA T h cells slots) {x : Int32} {o : Int} (pc' : Nat) (hd : decode c.code pc = .ok (.ifCond .eq o, 3)) (hp : 0 ≤ (pc : Int) + o ∧ ((pc : Int) + o).toNat = pc') (kt : x = 0 → Goes p.tables e below Q (T.setTop (mkF m pc' Ls st))) (kf : ¬ x = 0 → Goes p.tables e below Q (T.setTop (mkF m (pc + 3) Ls st))) : Goes p.tables e below Q (T.setTop (mkF m pc Ls (.int x :: st))) := by
  by_cases hq : x = 0
  · exact Goes.via (fun t k => XS.ifYes X.here X.exec rfl rfl hd rfl (XT.i0_eq_t hq) hp.1 hp.2 k) (kt hq)
  · exact Goes.via (fun t k => XS.ifNo X.here X.exec rfl hd rfl (XT.i0_eq_f hq) k) (kf hq)
theorem Wd.icmp_eq (X : Wd p l e R s m args below meth c Z a0 EL own n0 SA0 SA T h cells slots) {x y : Int32} {o : Int} (pc' : Nat) (hd : decode c.code pc = .ok (.if_icmp .eq o, 3)) (hp : 0 ≤ (pc : Int) + o ∧ ((pc : Int) + o).toNat = pc') (kt : x = y → Goes p.tables e below Q (T.setTop (mkF m pc' Ls st))) (kf : ¬ x = y → Goes p.tables e below Q (T.setTop (mkF m (pc + 3) Ls st))) : Goes p.tables e below Q (T.setTop (mkF m pc Ls (.int y :: .int x :: st))) := by
  by_cases hq : x = y
  · exact Goes.via (fun t k => XS.icmpYes X.here X.exec rfl rfl hd rfl (XT.ii_eq_t hq) hp.1 hp.2 k) (kt hq)
  · exact Goes.via (fun t k => XS.icmpNo X.here X.exec rfl hd rfl (XT.ii_eq_f hq) k) (kf hq)
theorem Wd.if_ne (X : Wd p l e R s m args below meth c Z a0 EL own n0 SA0 SA T h cells slots) {x : Int32} {o : Int} (pc' : Nat) (hd : decode c.code pc = .ok (.ifCond .ne o, 3)) (hp : 0 ≤ (pc : Int) + o ∧ ((pc : Int) + o).toNat = pc') (kt : ¬ x = 0 → Goes p.tables e below Q (T.setTop (mkF m pc' Ls st))) (kf : x = 0 → Goes p.tables e below Q (T.setTop (mkF m (pc + 3) Ls st))) : Goes p.tables e below Q (T.setTop (mkF m pc Ls (.int x :: st))) := by
  by_cases hq : x = 0
  · exact Goes.via (fun t k => XS.ifNo X.here X.exec rfl hd rfl (XT.i0_ne_f hq) k) (kf hq)
  · exact Goes.via (fun t k => XS.ifYes X.here X.exec rfl rfl hd rfl (XT.i0_ne_t hq) hp.1 hp.2 k) (kt hq)
theorem Wd.icmp_ne (X : Wd p l e R s m args below meth c Z a0 EL own n0 SA0 SA T h cells slots) {x y : Int32} {o : Int} (pc' : Nat) (hd : decode c.code pc = .ok (.if_icmp .ne o, 3)) (hp : 0 ≤ (pc : Int) + o ∧ ((pc : Int) + o).toNat = pc') (kt : ¬ x = y → Goes p.tables e below Q (T.setTop (mkF m pc' Ls st))) (kf : x = y → Goes p.tables e below Q (T.setTop (mkF m (pc + 3) Ls st))) : Goes p.tables e below Q (T.setTop (mkF m pc Ls (.int y :: .int x :: st))) := by
  by_cases hq : x = y
  · exact Goes.via (fun t k => XS.icmpNo X.here X.exec rfl hd rfl (XT.ii_ne_f hq) k) (kf hq)
  · exact Goes.via (fun t k => XS.icmpYes X.here X.exec rfl rfl hd rfl (XT.ii_ne_t hq) hp.1 hp.2 k) (kt hq)
theorem Wd.if_lt (X : Wd p l e R s m args below meth c Z a0 EL own n0 SA0 SA T h cells slots) {x : Int32} {o : Int} (pc' : Nat) (hd : decode c.code pc = .ok (.ifCond .lt o, 3)) (hp : 0 ≤ (pc : Int) + o ∧ ((pc : Int) + o).toNat = pc') (kt : x < 0 → Goes p.tables e below Q (T.setTop (mkF m pc' Ls st))) (kf : ¬ x < 0 → Goes p.tables e below Q (T.setTop (mkF m (pc + 3) Ls st))) : Goes p.tables e below Q (T.setTop (mkF m pc Ls (.int x :: st))) := by
  by_cases hq : x < 0
  · exact Goes.via (fun t k => XS.ifYes X.here X.exec rfl rfl hd rfl (XT.i0_lt_t hq) hp.1 hp.2 k) (kt hq)
  · exact Goes.via (fun t k => XS.ifNo X.here X.exec rfl hd rfl (XT.i0_lt_f hq) k) (kf hq)
theorem Wd.icmp_lt (X : Wd p l e R s m args below meth c Z a0 EL own n0 SA0 SA T h cells slots) {x y : Int32} {o : Int} (pc' : Nat) (hd : decode c.code pc = .ok (.if_icmp .lt o, 3)) (hp : 0 ≤ (pc : Int) + o ∧ ((pc : Int) + o).toNat = pc') (kt : x < y → Goes p.tables e below Q (T.setTop (mkF m pc' Ls st))) (kf : ¬ x < y → Goes p.tables e below Q (T.setTop (mkF m (pc + 3) Ls st))) : Goes p.tables e below Q (T.setTop (mkF m pc Ls (.int y :: .int x :: st))) := by
  by_cases hq : x < y
  · exact Goes.via (fun t k => XS.icmpYes X.here X.exec rfl rfl hd rfl (XT.ii_lt_t hq) hp.1 hp.2 k) (kt hq)
  · exact Goes.via (fun t k => XS.icmpNo X.here X.exec rfl hd rfl (XT.ii_lt_f hq) k) (kf hq)
theorem Wd.if_ge (X : Wd p l e R s m args below meth c Z a0 EL own n0 SA0 SA T h cells slots) {x : Int32} {o : Int} (pc' : Nat) (hd : decode c.code pc = .ok (.ifCond .ge o, 3)) (hp : 0 ≤ (pc : Int) + o ∧ ((pc : Int) + o).toNat = pc') (kt : ¬ x < 0 → Goes p.tables e below Q (T.setTop (mkF m pc' Ls st))) (kf : x < 0 → Goes p.tables e below Q (T.setTop (mkF m (pc + 3) Ls st))) : Goes p.tables e below Q (T.setTop (mkF m pc Ls (.int x :: st))) := by
  by_cases hq : x < 0
  · exact Goes.via (fun t k => XS.ifNo X.here X.exec rfl hd rfl (XT.i0_ge_f hq) k) (kf hq)
  · exact Goes.via (fun t k => XS.ifYes X.here X.exec rfl rfl hd rfl (XT.i0_ge_t hq) hp.1 hp.2 k) (kt hq)
theorem Wd.icmp_ge (X : Wd p l e R s m args below meth c Z a0 EL own n0 SA0 SA T h cells slots) {x y : Int32} {o : Int} (pc' : Nat) (hd : decode c.code pc = .ok (.if_icmp .ge o, 3)) (hp : 0 ≤ (pc : Int) + o ∧ ((pc : Int) + o).toNat = pc') (kt : ¬ x < y → Goes p.tables e below Q (T.setTop (mkF m pc' Ls st))) (kf : x < y → Goes p.tables e below Q (T.setTop (mkF m (pc + 3) Ls st))) : Goes p.tables e below Q (T.setTop (mkF m pc Ls (.int y :: .int x :: st))) := by
  by_cases hq : x < y
  · exact Goes.via (fun t k => XS.icmpNo X.here X.exec rfl hd rfl (XT.ii_ge_f hq) k) (kf hq)
  · exact Goes.via (fun t k => XS.icmpYes X.here X.exec rfl rfl hd rfl (XT.ii_ge_t hq) hp.1 hp.2 k) (kt hq)
theorem Wd.if_gt (X : Wd p l e R s m args below meth c Z a0 EL own n0 SA0 SA T h cells slots) {x : Int32} {o : Int} (pc' : Nat) (hd : decode c.code pc = .ok (.ifCond .gt o, 3)) (hp : 0 ≤ (pc : Int) + o ∧ ((pc : Int) + o).toNat = pc') (kt : 0 < x → Goes p.tables e below Q (T.setTop (mkF m pc' Ls st))) (kf : ¬ 0 < x → Goes p.tables e below Q (T.setTop (mkF m (pc + 3) Ls st))) : Goes p.tables e below Q (T.setTop (mkF m pc Ls (.int x :: st))) := by
  by_cases hq : 0 < x
  · exact Goes.via (fun t k => XS.ifYes X.here X.exec rfl rfl hd rfl (XT.i0_gt_t hq) hp.1 hp.2 k) (kt hq)
  · exact Goes.via (fun t k => XS.ifNo X.here X.exec rfl hd rfl (XT.i0_gt_f hq) k) (kf hq)
theorem Wd.icmp_gt (X : Wd p l e R s m args below meth c Z a0 EL own n0 SA0 SA T h cells slots) {x y : Int32} {o : Int} (pc' : Nat) (hd : decode c.code pc = .ok (.if_icmp .gt o, 3)) (hp : 0 ≤ (pc : Int) + o ∧ ((pc : Int) + o).toNat = pc') (kt : y < x → Goes p.tables e below Q (T.setTop (mkF m pc' Ls st))) (kf : ¬ y < x → Goes p.tables e below Q (T.setTop (mkF m (pc + 3) Ls st))) : Goes p.tables e below Q (T.setTop (mkF m pc Ls (.int y :: .int x :: st))) := by
  by_cases hq : y < x
  · exact Goes.via (fun t k => XS.icmpYes X.here X.exec rfl rfl hd rfl (XT.ii_gt_t hq) hp.1 hp.2 k) (kt hq)
  · exact Goes.via (fun t k => XS.icmpNo X.here X.exec rfl hd rfl (XT.ii_gt_f hq) k) (kf hq)
theorem Wd.if_le (X : Wd p l e R s m args below meth c Z a0 EL own n0 SA0 SA T h cells slots) {x : Int32} {o : Int} (pc' : Nat) (hd : decode c.code pc = .ok (.ifCond .le o, 3)) (hp : 0 ≤ (pc : Int) + o ∧ ((pc : Int) + o).toNat = pc') (kt : ¬ 0 < x → Goes p.tables e below Q (T.setTop (mkF m pc' Ls st))) (kf : 0 < x → Goes p.tables e below Q (T.setTop (mkF m (pc + 3) Ls st))) : Goes p.tables e below Q (T.setTop (mkF m pc Ls (.int x :: st))) := by
  by_cases hq : 0 < x
  · exact Goes.via (fun t k => XS.ifNo X.here X.exec rfl hd rfl (XT.i0_le_f hq) k) (kf hq)
  · exact Goes.via (fun t k => XS.ifYes X.here X.exec rfl rfl hd rfl (XT.i0_le_t hq) hp.1 hp.2 k) (kt hq)
theorem Wd.icmp_le (X : Wd p l e R s m args below meth c Z a0 EL own n0 SA0 SA T h cells slots) {x y : Int32} {o : Int} (pc' : Nat) (hd : decode c.code pc = .ok (.if_icmp .le o, 3)) (hp : 0 ≤ (pc : Int) + o ∧ ((pc : Int) + o).toNat = pc') (kt : ¬ y < x → Goes p.tables e below Q (T.setTop (mkF m pc' Ls st))) (kf : y < x → Goes p.tables e below Q (T.setTop (mkF m (pc + 3) Ls st))) : Goes p.tables e below Q (T.setTop (mkF m pc Ls (.int y :: .int x :: st))) := by
  by_cases hq : y < x
  · exact Goes.via (fun t k => XS.icmpNo X.here X.exec rfl hd rfl (XT.ii_le_f hq) k) (kf hq)
  · exact Goes.via (fun t k => XS.icmpYes X.here X.exec rfl rfl hd rfl (XT.ii_le_t hq) hp.1 hp.2 k) (kt hq)
theorem Wd.ifnullR (X : Wd p l e R s m args below meth c Z a0 EL own n0 SA0 SA T h cells slots) {b : Addr} {o : Int} (hd : decode c.code pc = .ok (.ifnull o, 3)) (g : Goes p.tables e below Q (T.setTop (mkF m (pc + 3) Ls st))) : Goes p.tables e below Q (T.setTop (mkF m pc Ls (.ref b :: st))) :=
  Goes.via (fun t k => XS.ifnullNo X.here X.exec rfl hd rfl k) g
theorem Wd.ifnullN (X : Wd p l e R s m args below meth c Z a0 EL own n0 SA0 SA T h cells slots) {o : Int} (pc' : Nat) (hd : decode c.code pc = .ok (.ifnull o, 3)) (hp : 0 ≤ (pc : Int) + o ∧ ((pc : Int) + o).toNat = pc') (g : Goes p.tables e below Q (T.setTop (mkF m pc' Ls st))) : Goes p.tables e below Q (T.setTop (mkF m pc Ls (.null :: st))) :=
  Goes.via (fun t k => XS.ifnullYes X.here X.exec rfl rfl hd rfl hp.1 hp.2 k) g
theorem Wd.ifnonnullR (X : Wd p l e R s m args below meth c Z a0 EL own n0 SA0 SA T h cells slots) {b : Addr} {o : Int} (pc' : Nat) (hd : decode c.code pc = .ok (.ifnonnull o, 3)) (hp : 0 ≤ (pc : Int) + o ∧ ((pc : Int) + o).toNat = pc') (g : Goes p.tables e below Q (T.setTop (mkF m pc' Ls st))) : Goes p.tables e below Q (T.setTop (mkF m pc Ls (.ref b :: st))) :=
  Goes.via (fun t k => XT.ifnonnullYes X.here X.exec rfl rfl hd rfl hp.1 hp.2 k) g
theorem Wd.ifnonnullN (X : Wd p l e R s m args below meth c Z a0 EL own n0 SA0 SA T h cells slots) {o : Int} (hd : decode c.code pc = .ok (.ifnonnull o, 3)) (g : Goes p.tables e below Q (T.setTop (mkF m (pc + 3) Ls st))) : Goes p.tables e below Q (T.setTop (mkF m pc Ls (.null :: st))) :=
  Goes.via (fun t k => XT.ifnonnullNo X.here X.exec rfl hd rfl k) g
theorem Wd.acmp_eq (X : Wd p l e R s m args below meth c Z a0 EL own n0 SA0 SA T h cells slots) {x y : Value} {o : Int} (pc' : Nat) (hd : decode c.code pc = .ok (.if_acmp .eq o, 3)) (hp : 0 ≤ (pc : Int) + o ∧ ((pc : Int) + o).toNat = pc') (hx : x.isRef = true) (hy : y.isRef = true) (kt : x = y → Goes p.tables e below Q (T.setTop (mkF m pc' Ls st))) (kf : ¬ x = y → Goes p.tables e below Q (T.setTop (mkF m (pc + 3) Ls st))) : Goes p.tables e below Q (T.setTop (mkF m pc Ls (y :: x :: st))) := by
  by_cases hq : x = y
  · exact Goes.via (fun t k => XT.acmpYes X.here X.exec rfl rfl hd rfl hx hy (XT.aa_eq_t hq) hp.1 hp.2 k) (kt hq)
  · exact Goes.via (fun t k => XT.acmpNo X.here X.exec rfl hd rfl hx hy (XT.aa_eq_f hq) k) (kf hq)
theorem Wd.acmp_ne (X : Wd p l e R s m args below meth c Z a0 EL own n0 SA0 SA T h cells slots) {x y : Value} {o : Int} (pc' : Nat) (hd : decode c.code pc = .ok (.if_acmp .ne o, 3)) (hp : 0 ≤ (pc : Int) + o ∧ ((pc : Int) + o).toNat = pc') (hx : x.isRef = true) (hy : y.isRef = true) (kt : ¬ x = y → Goes p.tables e below Q (T.setTop (mkF m pc' Ls st))) (kf : x = y → Goes p.tables e below Q (T.setTop (mkF m (pc + 3) Ls st))) : Goes p.tables e below Q (T.setTop (mkF m pc Ls (y :: x :: st))) := by
  by_cases hq : x = y
  · exact Goes.via (fun t k => XT.acmpNo X.here X.exec rfl hd rfl hx hy (XT.aa_ne_f hq) k) (kf hq)
  · exact Goes.via (fun t k => XT.acmpYes X.here X.exec rfl rfl hd rfl hx hy (XT.aa_ne_t hq) hp.1 hp.2 k) (kt hq)
end Wide
end Own
namespace Own
open Jvm Jvm.ClassFile Sem Op Lib Jvm.Free Jvm.Stand Jvm.LawKit Jvm.RoadKit Bundle
section Facts
variable {Z : State} {h h' : Heap} {a b t x y : Addr} {cs : List Int32} {C : String} {a0 : Array Value} {k k' : ClassId} {ty ty' : FieldType} {n n' : Int32} {vs vs' : List Value} {dv dv' v : Value} {sl : Nat} {ws : List Addr}
theorem arvTy (A : Arv Z h a k ty n vs dv) (B : Arv Z h b k' ty' n' vs' dv') (q : ty ≠ ty') : a ≠ b := fun e => by
  subst e
  obtain ⟨c1, ⟨h1, ⟨-, k1, h2, m1, h3⟩, -⟩, -⟩ := A
  obtain ⟨c2, ⟨g1, ⟨-, k2, g2, m2, g3⟩, -⟩, -⟩ := B
  cases h1.symm.trans g1
  cases h2.symm.trans g2
  rw [h3] at g3
  cases g3
  exact q rfl
theorem narR {t : FieldType} {v : Value} (hv : v.isRef = true) (ht : t.isReference = true := by rfl) : narrow t v = v := by cases t <;> cases v <;> first | rfl | (cases hv; done) | (cases ht; done)
theorem fitR {t : FieldType} {v : Value} (hv : v.isRef = true) (ht : t.isReference = true := by rfl) : fits t v = true := by cases t <;> cases v <;> first | rfl | (cases hv; done) | (cases ht; done)
/-- a is a Latin-1 String that spells cs; its bytes lie at t -/
def OStr (Z : State) (h : Heap) (a t : Addr) (cs : List Int32) : Prop := Exa Z h a "java/lang/String" ∧ (∀ c ∈ cs, ¬ c < 0 ∧ ¬ (255 : Int32) < c) ∧ cs.length ≤ 4000 ∧
  ∃ kb : ClassId, Fld Z h a "java/lang/String" "value" "[B" (.ref t) ∧ Fld Z h a "java/lang/String" "coder" "B" (.int (0 : Int32)) ∧ Arv Z h t kb .byte (Int32.ofNat cs.length) ((cs.map StrChars.lo8).map Value.int) (.int 0)
theorem up16 {cs : List Int32} (hp : ∀ c ∈ cs, ¬ c < 0 ∧ ¬ (255 : Int32) < c) : ∀ c ∈ cs, ¬ c < 0 ∧ ¬ (65535 : Int32) < c := fun c q => ⟨(hp c q).1, fun z => (hp c q).2 (Int32.lt_trans (by decide) z)⟩
theorem OStr.lt (F : OStr Z h a t cs) : a < h.size := F.1.lt
theorem OStr.ltb (F : OStr Z h a t cs) : t < h.size := by obtain ⟨-, -, -, _, -, -, A⟩ := F; exact A.lt
theorem OStr.ext (F : OStr Z h a t cs) (E : Ext h h') : OStr Z h' a t cs := by
  obtain ⟨h1, h2, h3, kb, h4, h5, h6⟩ := F
  exact ⟨h1.ext E, h2, h3, kb, h4.ext E, h5.ext E, h6.ext E⟩
theorem OStr.wr (F : OStr Z h a t cs) (W : Wr h h' x sl v) (q1 : a ≠ x) (q2 : t ≠ x) : OStr Z h' a t cs := by
  obtain ⟨h1, h2, h3, kb, h4, h5, h6⟩ := F
  exact ⟨h1.wr W, h2, h3, kb, h4.other W (Or.inl q1), h5.other W (Or.inl q1), h6.other W q2⟩
theorem OStr.keep (F : OStr Z h a t cs) (K : Keep h h' ws) (q1 : a ∉ ws) (q2 : t ∉ ws) : OStr Z h' a t cs := by
  obtain ⟨h1, h2, h3, kb, h4, h5, h6⟩ := F
  exact ⟨h1.keep K, h2, h3, kb, h4.keep K q1, h5.keep K q1, h6.keep K q2⟩
theorem OStr.neT {kk : Nat} (F : OStr Z h a t cs) (E : Exa Z h x C) (w : (Jvm.Cond.instantiable C kk).before a0 Z = true) : t ≠ x := by
  obtain ⟨-, -, -, kb, -, -, h6⟩ := F
  exact (E.neArv h6 w).symm
theorem OStr.neTA (F : OStr Z h a t cs) (A : Arv Z h x k ty n vs dv) (q : FieldType.byte ≠ ty) : t ≠ x := by
  obtain ⟨-, -, -, kb, -, -, h6⟩ := F
  exact arvTy h6 A q
theorem OStr.mk {kb : ClassId} (E : Exa Z h a "java/lang/String") (V : Fld Z h a "java/lang/String" "value" "[B" (.ref t)) (C : Fld Z h a "java/lang/String" "coder" "B" (.int (0 : Int32))) (A : Arv Z h t kb .byte (Int32.ofNat cs.length) ((cs.map StrChars.lo8).map Value.int) (.int 0)) (hp : ∀ c ∈ cs, ¬ c < 0 ∧ ¬ (255 : Int32) < c) (l2 : cs.length ≤ 4000) : OStr Z h a t cs :=
  ⟨E, hp, l2, kb, V, C, A⟩
end Facts
section Wide
variable {p : Program} {l : Launch} {e : Env} {R : Room} {s : State} {m : MethodId} {args : Array Value} {below : List Frame} {meth : Method} {c : Code}
variable {Z : State} {a0 : Array Value} {EL : List (String × Nat)} {own : String} {n0 : Nat} {SA0 SA : List Addr} {T : State} {h h' : Heap} {cells slots : Nat} {Q : Outcome → State → Prop} {pc : Nat} {Ls : Array Slot} {st : List Value} {vm0 vm1 : Vm} {a b : Addr} {sl : Nat} {v : Value}
abbrev sI1 : MethodName := ⟨"java/lang/String", "<init>", "([C)V"⟩
theorem pdI1 : parseMethodDescriptor "([C)V" = some ⟨[.array .char], none⟩ := by decide +kernel
/-- new String(char[]), one to 4000 chars, each 0 to 255 -/
theorem Wd.newStr (X : Wd p l e R s m args below meth c Z a0 EL own n0 SA0 SA T h cells slots) {idx : Nat} {kC : ClassId} {cs : List Int32} {d v0 c0 : Value} {z N : Int32} (n : Nat) (w1 : (Jvm.Cond.methodLink own idx sI1).before a0 Z = true) (w2 : (Jvm.Cond.instanceMethod sI1).before a0 Z = true)
    (hws : ∀ d ∈ StrChars.Road.words, d.before a0 Z = true) (wi : (Jvm.Cond.instantiable "java/lang/String" 4).before a0 Z = true) (E : Exa Z h a "java/lang/String") (V : Fld Z h a "java/lang/String" "value" "[B" v0) (C : Fld Z h a "java/lang/String" "coder" "B" c0) (K : Arv Z h b kC .char N (cs.map Value.int) d)
    (S0 : Sta Z Z.heap "java/lang/String" "COMPACT_STRINGS" "Z" (.int z)) (hz : ¬ z = 0) (hn : cs.length = n) (hN : N = Int32.ofNat n) (l0 : 0 < n) (l2 : n ≤ 4000) (hp : ∀ c ∈ cs, ¬ c < 0 ∧ ¬ (255 : Int32) < c) (q : a ∈ SA) (hfr : 4 ≤ R.frames) (W : Nat) (hW : (st.map fun v => v.category).sum ≤ W) (hlo : W + 65 ≤ R.locals)
    (hcl : cells + 1 ≤ R.cells) (hsl : slots + n ≤ R.slots) (hsize : Ls.size = c.maxLocals) (hd : decode c.code pc = .ok (.invokespecial idx, 3))
    (k : ∀ (T' : State) (h' : Heap) (t : Addr), Wd p l e R s m args below meth c Z a0 EL own n0 SA0 SA T' h' (cells + 1) (slots + n) → Keep h h' [a] → h.size ≤ t → OStr Z h' a t cs → Goes p.tables e below Q (T'.setTop (mkF m (pc + 3) Ls st))) : Goes p.tables e below Q (T.setTop (mkF m pc Ls (.ref b :: .ref a :: st))) := by
  have hn0 := X.n0h
  have hsa := X.saf q
  obtain ⟨locs, Y, eT, hZ, hown, N', O, K', S, hx⟩ := X
  obtain ⟨_, vm1, ⟨T', L', c', s'⟩, -, Y', ⟨L, ⟨rfl, hL, Kp, E', C', t, kb, -, g2, -, V', A'⟩, rfl, rfl, rfl⟩, st'⟩ := Y.specialBack hx (y := sI1) rfl hown (mvT hZ w1) (mvT hZ w2) (mvT hZ (hws _ (List.mem_cons_self ..))) (by decide)
    (StrChars.Road.backV (W := W) (n0 := n0) hZ hws wi hsa.1 hn0 E V C K (Sta.ext O.2 S0) hz hn hN l0 l2 hp rfl hfr hlo) (g := mkF m pc Ls (.ref b :: .ref a :: st)) rfl hsize (Steps.refl _) (a := a) (argsL := [.ref b]) (rest := st) (lenOf pdI1 rfl) rfl (by show 2 * 0 + _ ≤ _; omega) hd (fun _ _ => ⟨rfl, eT, hcl, hsl⟩)
  subst hn hN
  exact Goes.aft st' (k T' T'.heap t (backN hZ hown N' O K' S hx Y' hL Kp (fun x hx => by cases List.mem_singleton.mp hx; exact q)) Kp g2 (OStr.mk E' V' C' A' hp l2))
end Wide
end Own
namespace Own
open Jvm Jvm.ClassFile Sem Op Lib Jvm.Free Jvm.Stand Jvm.LawKit Jvm.RoadKit Bundle
/-- (char) x -/
def i2c (x : Int32) : Int32 := x.toUInt32.toUInt16.toUInt32.toInt32
/-- (char) (x & 255) -/
def c8 (x : Int32) : Int32 := (x &&& (255 : Int32)).toUInt32.toUInt16.toUInt32.toInt32
theorem nar_i2c (x : Int32) : nar .char (i2c x) = i2c x := by
  have q := XT.narrow_c x
  simp only [nar, i2c, UInt32.toUInt32_toInt32, UInt16.toUInt16_toUInt32]
theorem nar_lo8 (x : Int32) : nar .byte (StrChars.lo8 x) = StrChars.lo8 x := by
  show (x.toInt8.toInt32).toInt8.toInt32 = x.toInt8.toInt32
  rw [Int8.toInt8_toInt32]
theorem nar_c8 (x : Int32) : nar .char (c8 x) = c8 x := nar_i2c (x &&& 255)
theorem i2c_nat (x : Int32) : (i2c x).toBitVec.toNat = x.toBitVec.toNat % 65536 := by
  show (x.toUInt32.toUInt16.toUInt32).toNat = _
  simp
  rfl
theorem nat_rng {x : Int32} {n : Nat} (h : x.toBitVec.toNat ≤ n) (hn : n < 2 ^ 31) : x.toInt = x.toBitVec.toNat := by
  show x.toBitVec.toInt = _
  rw [BitVec.toInt_eq_toNat_cond]; split <;> omega
theorem i2c_int (x : Int32) : (i2c x).toInt = ((x.toBitVec.toNat % 65536 : Nat) : Int) := by
  rw [nat_rng (n := 65535) (by rw [i2c_nat]; omega) (by decide), i2c_nat]
theorem i2c_rng (x : Int32) : ¬ i2c x < 0 ∧ ¬ (65535 : Int32) < i2c x := by
  simp only [Int32.lt_iff_toInt_lt, i2c_int, show (0 : Int32).toInt = 0 from rfl, show (65535 : Int32).toInt = 65535 from rfl]
  omega
theorem and_nat (x y : Int32) : (x &&& y).toBitVec.toNat = x.toBitVec.toNat &&& y.toBitVec.toNat := by
  rw [Int32.toBitVec_and, BitVec.toNat_and]
theorem c8_int (x : Int32) : (c8 x).toInt = ((x.toBitVec.toNat % 256 : Nat) : Int) := by
  show (i2c (x &&& 255)).toInt = _
  rw [i2c_int, and_nat, show (255 : Int32).toBitVec.toNat = 2 ^ 8 - 1 from rfl, Nat.and_two_pow_sub_one_eq_mod]
  have : x.toBitVec.toNat % 2 ^ 8 < 256 := Nat.mod_lt _ (by decide)
  rw [Nat.mod_eq_of_lt (a := x.toBitVec.toNat % 2 ^ 8) (by omega)]
theorem c8_rng (x : Int32) : ¬ c8 x < 0 ∧ ¬ (255 : Int32) < c8 x := by
  simp only [Int32.lt_iff_toInt_lt, c8_int, show (0 : Int32).toInt = 0 from rfl, show (255 : Int32).toInt = 255 from rfl]
  omega
theorem hp0 {P : Int32 → Prop} : ∀ c ∈ ([] : List Int32), P c := fun _ q => nomatch q
theorem hpS {P : Int32 → Prop} {x : Int32} {L : List Int32} (q : P x) (r : ∀ c ∈ L, P c) : ∀ c ∈ x :: L, P c := fun c z => (List.mem_cons.mp z).elim (fun u => u ▸ q) (r c)
end Own
namespace Own
open Jvm Jvm.ClassFile Sem Op Lib Jvm.Free Jvm.Stand Jvm.LawKit Jvm.RoadKit Bundle
section Wide
variable {p : Program} {l : Launch} {e : Env} {R : Room} {s : State} {m : MethodId} {args : Array Value} {below : List Frame} {meth : Method} {c : Code}
variable {Z : State} {a0 : Array Value} {EL : List (String × Nat)} {own : String} {n0 : Nat} {SA0 SA : List Addr} {T : State} {h h' : Heap} {cells slots : Nat} {Q : Outcome → State → Prop} {pc : Nat} {Ls : Array Slot} {st : List Value} {vm0 vm1 : Vm} {a b : Addr} {sl : Nat} {v : Value}
theorem backS {T' : State} {cells' slots' : Nat} (hZ : Z.Warmed39 s.vm) (hown : s.vm.findClass own = some m.cls) {locs : List Loc} (N : Fr n0 locs) (O : Old Z n0 h) (K : Keep s.heap h SA0) (S : Sfs h n0 s.heap.size SA0 SA) (hx : p.tables.exec = Jvm.exec)
    (Y : Stand p l e R s m args below meth c T' (locs ++ []) (cells' + 0) (slots' + 0)) (eh : T'.heap = h) : Wd p l e R s m args below meth c Z a0 EL own n0 SA0 SA T' h cells' slots' := by
  rw [List.append_nil] at Y
  exact ⟨_, Y, eh, hZ, hown, N, O, K, S, hx⟩
abbrev sEq : MethodName := ⟨"java/lang/String", "equals", "(Ljava/lang/Object;)Z"⟩
theorem pdEq : parseMethodDescriptor "(Ljava/lang/Object;)Z" = some ⟨[.object "java/lang/Object"], some .boolean⟩ := by decide +kernel
/-- String.equals of two Strings -/
theorem Wd.strEq (X : Wd p l e R s m args below meth c Z a0 EL own n0 SA0 SA T h cells slots) {idx : Nat} {t t' : Addr} {cs ds : List Int32} {z : Int32} (w1 : (Jvm.Cond.methodLink own idx sEq).before a0 Z = true) (w2 : (Jvm.Cond.declares sEq).before a0 Z = true) (w3 : (Jvm.Cond.selects "java/lang/String" sEq sEq).before a0 Z = true) (w4 : (Jvm.Cond.instanceMethod sEq).before a0 Z = true)
    (hws : ∀ d ∈ StrChars.Road.wordsEq, d.before a0 Z = true) (wi : (Jvm.Cond.instantiable "java/lang/String" 4).before a0 Z = true) (F : OStr Z h a t cs) (G : OStr Z h b t' ds) (S0 : Sta Z Z.heap "java/lang/String" "COMPACT_STRINGS" "Z" (.int z)) (hz : ¬ z = 0) (hfr : 2 ≤ R.frames) (W : Nat) (hW : (st.map fun v => v.category).sum ≤ W) (hlo : W + 28 ≤ R.locals)
    (hcl : cells ≤ R.cells) (hsl : slots ≤ R.slots) (hsize : Ls.size = c.maxLocals) (hd : decode c.code pc = .ok (.invokevirtual idx, 3))
    (k1 : ∀ T' : State, Wd p l e R s m args below meth c Z a0 EL own n0 SA0 SA T' h cells slots → cs = ds → Goes p.tables e below Q (T'.setTop (mkF m (pc + 3) Ls (.int 1 :: st))))
    (k0 : ∀ T' : State, Wd p l e R s m args below meth c Z a0 EL own n0 SA0 SA T' h cells slots → ¬ cs = ds → Goes p.tables e below Q (T'.setTop (mkF m (pc + 3) Ls (.int 0 :: st)))) : Goes p.tables e below Q (T.setTop (mkF m pc Ls (.ref b :: .ref a :: st))) := by
  obtain ⟨locs, Y, eT, hZ, hown, N', O, K', S, hx⟩ := X
  obtain ⟨f1, f2, f3, kb, f4, f5, f6⟩ := F
  obtain ⟨g1, g2, g3, kb', g4, g5, g6⟩ := G
  obtain ⟨cB, kB, u1, -, u3⟩ := isOf hZ eT f1
  obtain ⟨_, vm1, ⟨T', L', c', s'⟩, -, Y', ⟨L, ⟨hv, rfl, hh⟩, rfl, e1, e2⟩, st'⟩ := Y.virtualBack hx (y := sEq) (z := sEq) hown (mvT hZ w1) (mvT hZ w2) (notFace_of_selects (args := #[]) (mvT hZ w3)) (mvT hZ w3) (mvT hZ w4) (by decide)
    (StrChars.Road.eqW (W := W) hZ hws wi f1 f4 f5 f6 (StrChars.Road.codOf rfl fun c q => (f2 c q).2) (up16 f2) f3 g1 g4 g5 g6 (StrChars.Road.codOf rfl fun c q => (g2 c q).2) (up16 g2) g3 (Sta.ext O.2 S0) hz hfr hlo) u1 u3 (g := mkF m pc Ls (.ref b :: .ref a :: st)) rfl hsize (Steps.refl _) (argsL := [.ref b]) (rest := st) (lenOf pdEq rfl) rfl (by show 2 * 0 + _ ≤ _; omega) hd (fun _ _ => ⟨rfl, eT, hcl, hsl⟩)
  have e1' : c' = cells := e1
  have e2' : s' = slots := e2
  subst e1' e2'
  have X' := backS (own := own) (EL := EL) (a0 := a0) hZ hown N' O K' S hx Y' hh
  rcases hv with ⟨rfl, hv⟩ | ⟨rfl, hv⟩
  · exact Goes.aft st' (k1 T' X' hv)
  · exact Goes.aft st' (k0 T' X' hv)
end Wide
end Own
namespace Own
open Jvm Jvm.ClassFile Sem Op Lib Jvm.Free Jvm.Stand Jvm.LawKit Jvm.RoadKit Bundle
section Start
variable {Z : State} {args : Array Value} {t u : Term} {a b : Addr} {n j : Int32} {vs : List Value} {ty : FieldType} {dv v : Value}
theorem arv0 (hf : Fit Z) (ev : t.eval args Z none [] Z = some (.ref a)) (hA : (Jvm.Cond.arrayOf t ty).value args Z none Z [] = some true) (hl : (Jvm.Cond.eq (.length t) (.int n)).value args Z none Z [] = some true) (hz : ¬ n < 0) (hn : n.toNatClampNeg = vs.length) (H : ∀ c, Arr Z Z.heap a c ty → HasL c 0 vs) :
    ∃ c : Cell, Arr Z Z.heap a c ty ∧ c.slots.size = vs.length ∧ Arv Z Z.heap a c.cls ty n vs dv := by
  obtain ⟨c, A⟩ := Arr.start ev hA
  have hlen := Cond.eq_int (Cond.before_iff.mpr hl) (Term.int_eval n)
  have hat := Arr.fin (Vm.Alike.refl _) A
  have h31 := SBG.length_lt ev hat hlen
  have e : c.slots.size.toInt32 = n := by
    have q := len_f ev hat h31
    rw [hlen] at q
    exact (Value.int.inj (Option.some.inj q)).symm
  have V := Arv.start (dv := dv) hf A h31 e hz hn (H c A)
  refine ⟨c, A, ?_, V⟩
  obtain ⟨c', A', -, S, -⟩ := V
  cases A.1.symm.trans A'.1
  rw [S, hn]
theorem elI (ev : t.eval args Z none [] Z = some (.ref a)) (h : (Jvm.Cond.eq (.elem t (.int j)) (.int n)).value args Z none Z [] = some true) {c : Cell} (A : Arr Z Z.heap a c ty) : c.slots[j.toNatClampNeg]? = some (.int n) :=
  (elem_in (Cond.eq_int (Cond.before_iff.mpr h) (Term.int_eval n)) ev (Term.int_eval j) A.1).2
theorem elR (ev : t.eval args Z none [] Z = some (.ref a)) (h : (Jvm.Cond.eq (.elem t (.int j)) u).value args Z none Z [] = some true) (hu : u.eval args Z none [] Z = some (.ref b)) {c : Cell} (A : Arr Z Z.heap a c ty) : c.slots[j.toNatClampNeg]? = some (.ref b) := by
  obtain ⟨x, y, ha, hb, k1, k2⟩ := cmp_v (Or.inl h)
  cases hu.symm.trans hb
  have q := eq_R ha hb k2.2 rfl
  have e := gotT q h
  subst e
  exact (elem_in ha ev (Term.int_eval j) A.1).2
end Start
section Wide
variable {p : Program} {l : Launch} {e : Env} {R : Room} {s : State} {m : MethodId} {args : Array Value} {below : List Frame} {meth : Method} {c : Code}
variable {Z : State} {a0 : Array Value} {EL : List (String × Nat)} {own : String} {n0 : Nat} {SA0 SA : List Addr} {T : State} {h h' : Heap} {cells slots : Nat} {Q : Outcome → State → Prop} {pc : Nat} {Ls : Array Slot} {st : List Value} {a b : Addr} {sl : Nat} {v : Value}
/-- aaload -/
theorem Wd.aaload (X : Wd p l e R s m args below meth c Z a0 EL own n0 SA0 SA T h cells slots) {kb : ClassId} {ty : FieldType} {n j : Int32} {vs : List Value} {dv v : Value} (V : Arv Z h a kb ty n vs dv) (hty : ty.isReference = true) (hj : ¬ j < 0 ∧ j < n) (hv : vs.getD j.toNatClampNeg dv = v) (hd : decode c.code pc = .ok (.aaload, 1))
    (g : Goes p.tables e below Q (T.setTop (mkF m (pc + 1) Ls (v :: st)))) : Goes p.tables e below Q (T.setTop (mkF m pc Ls (.int j :: .ref a :: st))) := by
  obtain ⟨locs, Y, eT, r4, r5, r⟩ := X
  obtain ⟨cl, A, v1, v2, v3, v4, v5⟩ := V
  exact Goes.via (fun t => Y.aaload r.2.2.2.2 (by rw [eT]; exact A.1) (State.isArrayOf_alike r4.alike A.2.1) hty A.2.2 (inb_of v2 hj) (v4.at (inb_of v2 hj) hv) (g := mkF m pc Ls (.int j :: .ref a :: st)) rfl rfl hd t) g
/-- an array's clone() -/
theorem Wd.clone (X : Wd p l e R s m args below meth c Z a0 EL own n0 SA0 SA T h cells slots) {ad : String} {index : Nat} (w1 : (Jvm.Cond.methodLink own index ⟨ad, "clone", "()Ljava/lang/Object;"⟩).before a0 Z = true) (w2 : (Jvm.Cond.sameMethod ad "java/lang/Object" "clone" "()Ljava/lang/Object;").before a0 Z = true) (w3 : (Jvm.Cond.native ⟨"java/lang/Object", "clone", "()Ljava/lang/Object;"⟩).before a0 Z = true)
    (w4 : (Jvm.Cond.instanceMethod ⟨"java/lang/Object", "clone", "()Ljava/lang/Object;"⟩).before a0 Z = true) (w5 : (Jvm.Cond.selects ad ⟨ad, "clone", "()Ljava/lang/Object;"⟩ ⟨"java/lang/Object", "clone", "()Ljava/lang/Object;"⟩).before a0 Z = true) (w6 : (Jvm.Cond.castable ad "java/lang/Cloneable").before a0 Z = true)
    {cl : Cell} {ty : FieldType} (A : Arr Z h a cl ty) (E : Exa Z h a ad) (F : FitC Z cl) (hsize : Ls.size = c.maxLocals) (hd : decode c.code pc = .ok (.invokevirtual index, 3)) (hf : 1 ≤ R.frames) (W cap : Nat) (hW : (st.map fun v => v.category).sum ≤ W) (hl : W + 14 ≤ R.locals) (hcap : cl.slots.size ≤ cap) (hc : cells + 1 ≤ R.cells) (hsl : slots + cap ≤ R.slots)
    (k : ∀ (T' : State) (h' : Heap) (b : Addr), b = h.size → Wd p l e R s m args below meth c Z a0 EL own n0 SA0 (b :: SA) T' h' (cells + 1) (slots + cap) → Ext h h' → Arr Z h' b (cloneOf cl) ty → Exa Z h' b ad → Goes p.tables e below Q (T'.setTop (mkF m (pc + 3) Ls (.ref b :: st)))) : Goes p.tables e below Q (T.setTop (mkF m pc Ls (.ref a :: st))) := by
  obtain ⟨locs, Y, eT, hZ, hown, N, O, K, S, hx⟩ := X
  obtain ⟨T', h', Y', e', E', A', X', st'⟩ := cloneA Y hx hZ hown w1 w2 w3 w4 w5 w6 eT A E F (g := mkF m pc Ls (.ref a :: st)) rfl hsize rfl hd hf (W := W) (cap := cap) (by show 2 * 0 + _ ≤ _; omega) hl hcap hc hsl
  refine Goes.via st' (k T' h' _ rfl ⟨locs, Y', e', hZ, hown, N, O.ext E', K.ext E', fun x q => ?_, hx⟩ E' A' X')
  rcases List.mem_cons.mp q with rfl | q
  · exact ⟨A'.lt, by rw [← O.1]; exact O.2.1, Or.inr K.1⟩
  · exact S.go E'.1 x q
/-- checkcast -/
theorem Wd.castY (X : Wd p l e R s m args below meth c Z a0 EL own n0 SA0 SA T h cells slots) {index : Nat} {C K : String} (w : (Jvm.Cond.classLink own index K).before a0 Z = true) (E : Exa Z h a C) (wc : (Jvm.Cond.castable C K).before a0 Z = true) (hd : decode c.code pc = .ok (.checkcast index, 3))
    (k : ∀ T' : State, Wd p l e R s m args below meth c Z a0 EL own n0 SA0 SA T' h cells slots → Goes p.tables e below Q (T'.setTop (mkF m (pc + 3) Ls (.ref a :: st)))) : Goes p.tables e below Q (T.setTop (mkF m pc Ls (.ref a :: st))) := by
  obtain ⟨locs, Y, eT, r4, r5, r⟩ := X
  obtain ⟨T', Y', e', st'⟩ := Jvm.RoadKit.castY Y r.2.2.2.2 r4 r5 w eT (Ins.of_exa E wc) (g := mkF m pc Ls (.ref a :: st)) rfl rfl hd
  exact Goes.via st' (k T' ⟨locs, Y', e', r4, r5, r⟩)
end Wide
end Own
end Jvm.Pilot.@@N@@
namespace Jvm.Pilot.@@N@@
open Jvm Jvm.ClassFile Sem Op Lib Jvm.Free Jvm.Stand Jvm.LawKit Jvm.RoadKit Bundle Jvm.Pilot.@@N@@.Jvm.D
open Own
theorem hk2 {c : Cell} (z : c.slots.size = 2) (k : Nat) (h : k < c.slots.size) : k = 0 ∨ k = 1 := by omega
theorem hwsV : ∀ d ∈ StrChars.Road.words, d ∈ tables_1 := by decide +kernel
theorem hwsE : ∀ d ∈ StrChars.Road.wordsEq, d ∈ tables_1 := by decide +kernel
def csP : List Int32 := [(80 : Int32), (101 : Int32), (114 : Int32), (109 : Int32), (105 : Int32), (116 : Int32)]
def csD : List Int32 := [(68 : Int32), (101 : Int32), (110 : Int32), (121 : Int32)]
theorem d7_0 : decode prog_8_method_1_code 0 = .ok (.getstatic 10, 3) := by decide +kernel
theorem d7_3 : decode prog_8_method_1_code 3 = .ok (.invokevirtual 14, 3) := by decide +kernel
theorem d7_6 : decode prog_8_method_1_code 6 = .ok (.checkcast 15, 3) := by decide +kernel
theorem d7_9 : decode prog_8_method_1_code 9 = .ok (.areturn, 1) := by decide +kernel
theorem pn_0 : plainName "com/example/ragione/ragione/policy/Effect" = true := by first | (simp [plainName, overriddenIn]; done) | decide +kernel
set_option maxRecDepth 65536 in
set_option maxHeartbeats 40000000 in
theorem ctVals (l : Launch) (Z : State) (a0 : Array Value) (hw : ∀ d ∈ tables_1, d.before a0 Z = true) (hEL : EW Z a0 []) (z0 : Int32) (S0 : Sta Z Z.heap "java/lang/String" "COMPACT_STRINGS" "Z" (.int z0)) (hz0 : ¬ z0 = 0) (vl pm dn : Addr) (cl : Cell) (SV : Sta Z Z.heap "com/example/ragione/ragione/policy/Effect" "$VALUES" "[Lcom/example/ragione/ragione/policy/Effect;" (.ref vl)) (AV : Arr Z Z.heap vl cl (.object "com/example/ragione/ragione/policy/Effect")) (EV : Exa Z Z.heap vl "[Lcom/example/ragione/ragione/policy/Effect;") (FV : FitC Z cl) (zV : cl.slots.size = 2) (v0 : cl.slots[0]? = some (.ref pm)) (v1 : cl.slots[1]? = some (.ref dn)) (h0 : Heap) (n0 : Nat)  :
    Ct l Z [] [] (⟨"com/example/ragione/ragione/policy/Effect", "values", "()[Lcom/example/ragione/ragione/policy/Effect;"⟩ : MethodName) prog_8_method_1_code 0 (some (.array (.object "com/example/ragione/ragione/policy/Effect"))) ({ frames := 1, cells := 1, slots := 2, locals := 14 } : Room) #[] h0 n0 [] (fun v h => ∃ (b : Addr) (kb : ClassId), v = some (.ref b) ∧ Arv Z h b kb (.object "com/example/ragione/ragione/policy/Effect") (2 : Int32) [.ref pm, .ref dn] .null) := by
  have w : ∀ {d : Jvm.Cond} (i : Nat), tables_1[i]? = some d → d.before a0 Z = true := fun i q => hw _ (List.mem_of_getElem? q)
  refine Ct.enter (plainFor_of_name pn_0) hEL ?_
  intro p e sS m below meth c T0 hby hml0 hret hlk hnm hs0 X0
  have hml : c.maxLocals = 0 := hml0
  have D : ∀ {pc : Nat} {r : Except DecodeError (Instr × Nat)}, decode prog_8_method_1_code pc = r → decode c.code pc = r := fun q => hb hby q
  rw [show entryFrame m #[] 0 = mkF m 0 #[] [] from by first | (simp [entryFrame, mkF, argsToLocals, Value.category]; done) | rfl]
  refine X0.gets (w 39 rfl) Via.refl (Sta.ext X0.old.2 SV) (D d7_0) ?_
  intro T1 X2
  show Goes p.tables e below _ (T1.setTop (mkF m 3 #[] [(.ref vl)]))
  refine X2.clone (w 41 rfl) (w 42 rfl) (w 46 rfl) (w 44 rfl) (w 45 rfl) (w 47 rfl) (AV.ext X2.old.2) (EV.ext X2.old.2) FV (by rw [hml]; rfl) (D d7_3) (by decide) 0 2 (by decide) (by decide) (Nat.le_of_eq zV) (by decide) (by decide) ?_
  intro T3 h4 b5 g6 X7 E8 A9 E10
  show Goes p.tables e below _ (T3.setTop (mkF m 6 #[] [(.ref b5)]))
  refine X7.castY (w 50 rfl) E10 (w 51 rfl) (D d7_6) ?_
  intro T11 X12
  show Goes p.tables e below _ (T11.setTop (mkF m 9 #[] [(.ref b5)]))
  exact X12.retA hret rfl rfl hlk (D d7_9) (by decide) (by decide) (⟨_, _, rfl, _, A9, rfl, zV, by decide, fun k hk => by rcases hk2 zV k hk with rfl | rfl <;> assumption, fun k hk => by rcases hk2 zV k hk with rfl | rfl <;> rfl⟩)
theorem d6_0 : decode prog_8_method_4_code 0 = .ok (.invokestatic 33, 3) := by decide +kernel
theorem d6_3 : decode prog_8_method_4_code 3 = .ok (.astore_n 1, 1) := by decide +kernel
theorem d6_4 : decode prog_8_method_4_code 4 = .ok (.aload_n 1, 1) := by decide +kernel
theorem d6_5 : decode prog_8_method_4_code 5 = .ok (.arraylength, 1) := by decide +kernel
theorem d6_6 : decode prog_8_method_4_code 6 = .ok (.istore_n 2, 1) := by decide +kernel
theorem d6_7 : decode prog_8_method_4_code 7 = .ok (.iconst 0, 1) := by decide +kernel
theorem d6_8 : decode prog_8_method_4_code 8 = .ok (.istore_n 3, 1) := by decide +kernel
theorem d6_9 : decode prog_8_method_4_code 9 = .ok (.iload_n 3, 1) := by decide +kernel
theorem d6_10 : decode prog_8_method_4_code 10 = .ok (.iload_n 2, 1) := by decide +kernel
theorem d6_11 : decode prog_8_method_4_code 11 = .ok (.if_icmp .ge 29, 3) := by decide +kernel
theorem d6_14 : decode prog_8_method_4_code 14 = .ok (.aload_n 1, 1) := by decide +kernel
theorem d6_15 : decode prog_8_method_4_code 15 = .ok (.iload_n 3, 1) := by decide +kernel
theorem d6_16 : decode prog_8_method_4_code 16 = .ok (.aaload, 1) := by decide +kernel
theorem d6_17 : decode prog_8_method_4_code 17 = .ok (.astore 4, 2) := by decide +kernel
theorem d6_19 : decode prog_8_method_4_code 19 = .ok (.aload 4, 2) := by decide +kernel
theorem d6_21 : decode prog_8_method_4_code 21 = .ok (.getfield 29, 3) := by decide +kernel
theorem d6_24 : decode prog_8_method_4_code 24 = .ok (.aload_n 0, 1) := by decide +kernel
theorem d6_25 : decode prog_8_method_4_code 25 = .ok (.invokevirtual 37, 3) := by decide +kernel
theorem d6_28 : decode prog_8_method_4_code 28 = .ok (.ifCond .eq 6, 3) := by decide +kernel
theorem d6_31 : decode prog_8_method_4_code 31 = .ok (.aload 4, 2) := by decide +kernel
theorem d6_33 : decode prog_8_method_4_code 33 = .ok (.areturn, 1) := by decide +kernel
theorem d6_34 : decode prog_8_method_4_code 34 = .ok (.iinc 3 1, 3) := by decide +kernel
theorem d6_37 : decode prog_8_method_4_code 37 = .ok (.goto (-28), 3) := by decide +kernel
theorem d6_40 : decode prog_8_method_4_code 40 = .ok (.new 43, 3) := by decide +kernel
theorem d6_43 : decode prog_8_method_4_code 43 = .ok (.dup, 1) := by decide +kernel
theorem d6_44 : decode prog_8_method_4_code 44 = .ok (.aload_n 0, 1) := by decide +kernel
theorem d6_45 : decode prog_8_method_4_code 45 = .ok (.invokedynamic 45, 5) := by decide +kernel
theorem d6_50 : decode prog_8_method_4_code 50 = .ok (.invokespecial 49, 3) := by decide +kernel
theorem d6_53 : decode prog_8_method_4_code 53 = .ok (.athrow, 1) := by decide +kernel
theorem pd_0 : parseMethodDescriptor "()[Lcom/example/ragione/ragione/policy/Effect;" = some ⟨[], (some (.array (.object "com/example/ragione/ragione/policy/Effect")))⟩ := by decide +kernel
set_option maxRecDepth 65536 in
set_option maxHeartbeats 40000000 in
theorem ctFP (l : Launch) (Z : State) (a0 : Array Value) (hw : ∀ d ∈ tables_1, d.before a0 Z = true) (hEL : EW Z a0 []) (z0 : Int32) (S0 : Sta Z Z.heap "java/lang/String" "COMPACT_STRINGS" "Z" (.int z0)) (hz0 : ¬ z0 = 0) (vl pm dn : Addr) (cl : Cell) (SV : Sta Z Z.heap "com/example/ragione/ragione/policy/Effect" "$VALUES" "[Lcom/example/ragione/ragione/policy/Effect;" (.ref vl)) (AV : Arr Z Z.heap vl cl (.object "com/example/ragione/ragione/policy/Effect")) (EV : Exa Z Z.heap vl "[Lcom/example/ragione/ragione/policy/Effect;") (FV : FitC Z cl) (zV : cl.slots.size = 2) (v0 : cl.slots[0]? = some (.ref pm)) (v1 : cl.slots[1]? = some (.ref dn)) (sp tp sd td : Addr) (FP : Fld Z Z.heap pm "com/example/ragione/ragione/policy/Effect" "xacmlValue" "Ljava/lang/String;" (.ref sp)) (FD : Fld Z Z.heap dn "com/example/ragione/ragione/policy/Effect" "xacmlValue" "Ljava/lang/String;" (.ref sd)) (OP : OStr Z Z.heap sp tp csP) (OD : OStr Z Z.heap sd td csD) (x tx : Addr) (h0 : Heap) (n0 : Nat) (OX : OStr Z h0 x tx csP) :
    Ct l Z [] [] (⟨"com/example/ragione/ragione/policy/Effect", "fromXacml", "(Ljava/lang/String;)Lcom/example/ragione/ragione/policy/Effect;"⟩ : MethodName) prog_8_method_4_code 5 (some (.object "com/example/ragione/ragione/policy/Effect")) ({ frames := 2, cells := 1, slots := 2, locals := 28 } : Room) #[(.ref x)] h0 n0 [] (fun v _ => v = some (.ref pm)) := by
  have w : ∀ {d : Jvm.Cond} (i : Nat), tables_1[i]? = some d → d.before a0 Z = true := fun i q => hw _ (List.mem_of_getElem? q)
  refine Ct.enter (plainFor_of_name pn_0) hEL ?_
  intro p e sS m below meth c T0 hby hml0 hret hlk hnm hs0 X0
  have hml : c.maxLocals = 5 := hml0
  have D : ∀ {pc : Nat} {r : Except DecodeError (Instr × Nat)}, decode prog_8_method_4_code pc = r → decode c.code pc = r := fun q => hb hby q
  rw [show entryFrame m #[(.ref x)] 5 = mkF m 0 #[.val (.ref x), .unset, .unset, .unset, .unset] [] from by first | (simp [entryFrame, mkF, argsToLocals, Value.category]; done) | rfl]
  have G1 := FP.ext X0.old.2
  have G2 := FD.ext X0.old.2
  have G3 := OP.ext X0.old.2
  have G4 := OD.ext X0.old.2
  refine X0.calls [] [] (ctVals l Z a0 hw hEL z0 S0 hz0 vl pm dn cl SV AV EV FV zV v0 v1 _ _) (w 36 rfl) (w 37 rfl) (w 31 rfl) (w 38 rfl) (by decide) (fun _ q => nomatch q) (by decide) 0 (by decide) (by decide) (by decide) (lenOf pd_0 rfl) rfl (Nat.le_of_ble_eq_true rfl) (by rw [hml]; rfl) (D d6_0) ?_
  rintro T13 h14 _ X16 K17 ⟨vb, kv, rfl, AB⟩
  have F18 := OX.keep K17 nin0 nin0
  have F19 := G1.keep K17 nin0
  have F20 := G2.keep K17 nin0
  have F21 := G3.keep K17 nin0 nin0
  have F22 := G4.keep K17 nin0 nin0
  show Goes p.tables e below _ (T13.setTop (mkF m 3 #[.val (.ref x), .unset, .unset, .unset, .unset] [(.ref vb)]))
  refine X16.astoreN #[.val (.ref x), .val (.ref vb), .unset, .unset, .unset] (D d6_3) rfl rfl ?_
  refine X16.aloadN (x := (.ref vb)) (D d6_4) rfl rfl ?_
  refine X16.alen AB (D d6_5) ?_
  refine X16.istoreN #[.val (.ref x), .val (.ref vb), .val (.int (2 : Int32)), .unset, .unset] (D d6_6) rfl ?_
  refine X16.iconst (x := (0 : Int32)) (D d6_7) rfl ?_
  refine X16.istoreN #[.val (.ref x), .val (.ref vb), .val (.int (2 : Int32)), .val (.int (0 : Int32)), .unset] (D d6_8) rfl ?_
  refine X16.iloadN (x := (0 : Int32)) (D d6_9) rfl ?_
  refine X16.iloadN (x := (2 : Int32)) (D d6_10) rfl ?_
  refine X16.icmp_ge 40 (D d6_11) ⟨by decide, by decide⟩ (fun hc23 => absurd hc23 (by decide)) (fun hc23 => ?_)
  refine X16.aloadN (x := (.ref vb)) (D d6_14) rfl rfl ?_
  refine X16.iloadN (x := (0 : Int32)) (D d6_15) rfl ?_
  show Goes p.tables e below _ (T13.setTop (mkF m 16 #[.val (.ref x), .val (.ref vb), .val (.int (2 : Int32)), .val (.int (0 : Int32)), .unset] [(.int (0 : Int32)), (.ref vb)]))
  refine X16.aaload (v := (.ref pm)) AB rfl ⟨by decide, by decide⟩ rfl (D d6_16) ?_
  show Goes p.tables e below _ (T13.setTop (mkF m 17 #[.val (.ref x), .val (.ref vb), .val (.int (2 : Int32)), .val (.int (0 : Int32)), .unset] [(.ref pm)]))
  refine X16.astore #[.val (.ref x), .val (.ref vb), .val (.int (2 : Int32)), .val (.int (0 : Int32)), .val (.ref pm)] (D d6_17) rfl rfl ?_
  refine X16.aload (x := (.ref pm)) (D d6_19) rfl rfl ?_
  refine X16.getf (w 52 rfl) Via.refl F19 (D d6_21) ?_
  intro T24 X25
  show Goes p.tables e below _ (T24.setTop (mkF m 24 #[.val (.ref x), .val (.ref vb), .val (.int (2 : Int32)), .val (.int (0 : Int32)), .val (.ref pm)] [(.ref sp)]))
  refine X25.aloadN (x := (.ref x)) (D d6_24) rfl rfl ?_
  show Goes p.tables e below _ (T24.setTop (mkF m 25 #[.val (.ref x), .val (.ref vb), .val (.int (2 : Int32)), .val (.int (0 : Int32)), .val (.ref pm)] [(.ref x), (.ref sp)]))
  refine X25.strEq (w 54 rfl) (w 55 rfl) (w 57 rfl) (w 56 rfl) (fun d q => hw d (hwsE d q)) (w 2 rfl) F21 F18 S0 hz0 (by decide) 0 (Nat.le_of_ble_eq_true rfl) (by decide) (by decide) (by decide) (by rw [hml]; rfl) (D d6_25) (fun T26 X27 hc28 => ?_) (fun T26 X27 hc28 => ?_)
  · show Goes p.tables e below _ (T26.setTop (mkF m 28 #[.val (.ref x), .val (.ref vb), .val (.int (2 : Int32)), .val (.int (0 : Int32)), .val (.ref pm)] [(.int (1 : Int32))]))
    refine X27.if_eq 34 (D d6_28) ⟨by decide, by decide⟩ (fun hc29 => absurd hc29 (by decide)) (fun hc29 => ?_)
    refine X27.aload (x := (.ref pm)) (D d6_31) rfl rfl ?_
    exact X27.retA hret rfl rfl hlk (D d6_33) (by decide) (by decide) (rfl)
  · show Goes p.tables e below _ (T26.setTop (mkF m 28 #[.val (.ref x), .val (.ref vb), .val (.int (2 : Int32)), .val (.int (0 : Int32)), .val (.ref pm)] [(.int (0 : Int32))]))
    exact (hc28 rfl).elim
set_option maxRecDepth 65536 in
set_option maxHeartbeats 40000000 in
theorem ctFD (l : Launch) (Z : State) (a0 : Array Value) (hw : ∀ d ∈ tables_1, d.before a0 Z = true) (hEL : EW Z a0 []) (z0 : Int32) (S0 : Sta Z Z.heap "java/lang/String" "COMPACT_STRINGS" "Z" (.int z0)) (hz0 : ¬ z0 = 0) (vl pm dn : Addr) (cl : Cell) (SV : Sta Z Z.heap "com/example/ragione/ragione/policy/Effect" "$VALUES" "[Lcom/example/ragione/ragione/policy/Effect;" (.ref vl)) (AV : Arr Z Z.heap vl cl (.object "com/example/ragione/ragione/policy/Effect")) (EV : Exa Z Z.heap vl "[Lcom/example/ragione/ragione/policy/Effect;") (FV : FitC Z cl) (zV : cl.slots.size = 2) (v0 : cl.slots[0]? = some (.ref pm)) (v1 : cl.slots[1]? = some (.ref dn)) (sp tp sd td : Addr) (FP : Fld Z Z.heap pm "com/example/ragione/ragione/policy/Effect" "xacmlValue" "Ljava/lang/String;" (.ref sp)) (FD : Fld Z Z.heap dn "com/example/ragione/ragione/policy/Effect" "xacmlValue" "Ljava/lang/String;" (.ref sd)) (OP : OStr Z Z.heap sp tp csP) (OD : OStr Z Z.heap sd td csD) (x tx : Addr) (h0 : Heap) (n0 : Nat) (OX : OStr Z h0 x tx csD) :
    Ct l Z [] [] (⟨"com/example/ragione/ragione/policy/Effect", "fromXacml", "(Ljava/lang/String;)Lcom/example/ragione/ragione/policy/Effect;"⟩ : MethodName) prog_8_method_4_code 5 (some (.object "com/example/ragione/ragione/policy/Effect")) ({ frames := 2, cells := 1, slots := 2, locals := 28 } : Room) #[(.ref x)] h0 n0 [] (fun v _ => v = some (.ref dn)) := by
  have w : ∀ {d : Jvm.Cond} (i : Nat), tables_1[i]? = some d → d.before a0 Z = true := fun i q => hw _ (List.mem_of_getElem? q)
  refine Ct.enter (plainFor_of_name pn_0) hEL ?_
  intro p e sS m below meth c T0 hby hml0 hret hlk hnm hs0 X0
  have hml : c.maxLocals = 5 := hml0
  have D : ∀ {pc : Nat} {r : Except DecodeError (Instr × Nat)}, decode prog_8_method_4_code pc = r → decode c.code pc = r := fun q => hb hby q
  rw [show entryFrame m #[(.ref x)] 5 = mkF m 0 #[.val (.ref x), .unset, .unset, .unset, .unset] [] from by first | (simp [entryFrame, mkF, argsToLocals, Value.category]; done) | rfl]
  have G1 := FP.ext X0.old.2
  have G2 := FD.ext X0.old.2
  have G3 := OP.ext X0.old.2
  have G4 := OD.ext X0.old.2
  refine X0.calls [] [] (ctVals l Z a0 hw hEL z0 S0 hz0 vl pm dn cl SV AV EV FV zV v0 v1 _ _) (w 36 rfl) (w 37 rfl) (w 31 rfl) (w 38 rfl) (by decide) (fun _ q => nomatch q) (by decide) 0 (by decide) (by decide) (by decide) (lenOf pd_0 rfl) rfl (Nat.le_of_ble_eq_true rfl) (by rw [hml]; rfl) (D d6_0) ?_
  rintro T30 h31 _ X33 K34 ⟨vb, kv, rfl, AB⟩
  have F35 := OX.keep K34 nin0 nin0
  have F36 := G1.keep K34 nin0
  have F37 := G2.keep K34 nin0
  have F38 := G3.keep K34 nin0 nin0
  have F39 := G4.keep K34 nin0 nin0
  show Goes p.tables e below _ (T30.setTop (mkF m 3 #[.val (.ref x), .unset, .unset, .unset, .unset] [(.ref vb)]))
  refine X33.astoreN #[.val (.ref x), .val (.ref vb), .unset, .unset, .unset] (D d6_3) rfl rfl ?_
  refine X33.aloadN (x := (.ref vb)) (D d6_4) rfl rfl ?_
  refine X33.alen AB (D d6_5) ?_
  refine X33.istoreN #[.val (.ref x), .val (.ref vb), .val (.int (2 : Int32)), .unset, .unset] (D d6_6) rfl ?_
  refine X33.iconst (x := (0 : Int32)) (D d6_7) rfl ?_
  refine X33.istoreN #[.val (.ref x), .val (.ref vb), .val (.int (2 : Int32)), .val (.int (0 : Int32)), .unset] (D d6_8) rfl ?_
  refine X33.iloadN (x := (0 : Int32)) (D d6_9) rfl ?_
  refine X33.iloadN (x := (2 : Int32)) (D d6_10) rfl ?_
  refine X33.icmp_ge 40 (D d6_11) ⟨by decide, by decide⟩ (fun hc40 => absurd hc40 (by decide)) (fun hc40 => ?_)
  refine X33.aloadN (x := (.ref vb)) (D d6_14) rfl rfl ?_
  refine X33.iloadN (x := (0 : Int32)) (D d6_15) rfl ?_
  show Goes p.tables e below _ (T30.setTop (mkF m 16 #[.val (.ref x), .val (.ref vb), .val (.int (2 : Int32)), .val (.int (0 : Int32)), .unset] [(.int (0 : Int32)), (.ref vb)]))
  refine X33.aaload (v := (.ref pm)) AB rfl ⟨by decide, by decide⟩ rfl (D d6_16) ?_
  show Goes p.tables e below _ (T30.setTop (mkF m 17 #[.val (.ref x), .val (.ref vb), .val (.int (2 : Int32)), .val (.int (0 : Int32)), .unset] [(.ref pm)]))
  refine X33.astore #[.val (.ref x), .val (.ref vb), .val (.int (2 : Int32)), .val (.int (0 : Int32)), .val (.ref pm)] (D d6_17) rfl rfl ?_
  refine X33.aload (x := (.ref pm)) (D d6_19) rfl rfl ?_
  refine X33.getf (w 52 rfl) Via.refl F36 (D d6_21) ?_
  intro T41 X42
  show Goes p.tables e below _ (T41.setTop (mkF m 24 #[.val (.ref x), .val (.ref vb), .val (.int (2 : Int32)), .val (.int (0 : Int32)), .val (.ref pm)] [(.ref sp)]))
  refine X42.aloadN (x := (.ref x)) (D d6_24) rfl rfl ?_
  show Goes p.tables e below _ (T41.setTop (mkF m 25 #[.val (.ref x), .val (.ref vb), .val (.int (2 : Int32)), .val (.int (0 : Int32)), .val (.ref pm)] [(.ref x), (.ref sp)]))
  refine X42.strEq (w 54 rfl) (w 55 rfl) (w 57 rfl) (w 56 rfl) (fun d q => hw d (hwsE d q)) (w 2 rfl) F38 F35 S0 hz0 (by decide) 0 (Nat.le_of_ble_eq_true rfl) (by decide) (by decide) (by decide) (by rw [hml]; rfl) (D d6_25) (fun T43 X44 hc45 => ?_) (fun T43 X44 hc45 => ?_)
  · show Goes p.tables e below _ (T43.setTop (mkF m 28 #[.val (.ref x), .val (.ref vb), .val (.int (2 : Int32)), .val (.int (0 : Int32)), .val (.ref pm)] [(.int (1 : Int32))]))
    exact absurd hc45 (by decide)
  · show Goes p.tables e below _ (T43.setTop (mkF m 28 #[.val (.ref x), .val (.ref vb), .val (.int (2 : Int32)), .val (.int (0 : Int32)), .val (.ref pm)] [(.int (0 : Int32))]))
    refine X44.if_eq 34 (D d6_28) ⟨by decide, by decide⟩ (fun hc46 => ?_) (fun hc46 => absurd hc46 (by decide))
    refine X44.iinc #[.val (.ref x), .val (.ref vb), .val (.int (2 : Int32)), .val (.int (1 : Int32)), .val (.ref pm)] (D d6_34) rfl rfl ?_
    refine X44.goto 9 (D d6_37) ⟨by decide, by decide⟩ ?_
    refine X44.iloadN (x := (1 : Int32)) (D d6_9) rfl ?_
    refine X44.iloadN (x := (2 : Int32)) (D d6_10) rfl ?_
    refine X44.icmp_ge 40 (D d6_11) ⟨by decide, by decide⟩ (fun hc47 => absurd hc47 (by decide)) (fun hc47 => ?_)
    refine X44.aloadN (x := (.ref vb)) (D d6_14) rfl rfl ?_
    refine X44.iloadN (x := (1 : Int32)) (D d6_15) rfl ?_
    show Goes p.tables e below _ (T43.setTop (mkF m 16 #[.val (.ref x), .val (.ref vb), .val (.int (2 : Int32)), .val (.int (1 : Int32)), .val (.ref pm)] [(.int (1 : Int32)), (.ref vb)]))
    refine X44.aaload (v := (.ref dn)) AB rfl ⟨by decide, by decide⟩ rfl (D d6_16) ?_
    show Goes p.tables e below _ (T43.setTop (mkF m 17 #[.val (.ref x), .val (.ref vb), .val (.int (2 : Int32)), .val (.int (1 : Int32)), .val (.ref pm)] [(.ref dn)]))
    refine X44.astore #[.val (.ref x), .val (.ref vb), .val (.int (2 : Int32)), .val (.int (1 : Int32)), .val (.ref dn)] (D d6_17) rfl rfl ?_
    refine X44.aload (x := (.ref dn)) (D d6_19) rfl rfl ?_
    refine X44.getf (w 52 rfl) Via.refl F37 (D d6_21) ?_
    intro T48 X49
    show Goes p.tables e below _ (T48.setTop (mkF m 24 #[.val (.ref x), .val (.ref vb), .val (.int (2 : Int32)), .val (.int (1 : Int32)), .val (.ref dn)] [(.ref sd)]))
    refine X49.aloadN (x := (.ref x)) (D d6_24) rfl rfl ?_
    show Goes p.tables e below _ (T48.setTop (mkF m 25 #[.val (.ref x), .val (.ref vb), .val (.int (2 : Int32)), .val (.int (1 : Int32)), .val (.ref dn)] [(.ref x), (.ref sd)]))
    refine X49.strEq (w 54 rfl) (w 55 rfl) (w 57 rfl) (w 56 rfl) (fun d q => hw d (hwsE d q)) (w 2 rfl) F39 F35 S0 hz0 (by decide) 0 (Nat.le_of_ble_eq_true rfl) (by decide) (by decide) (by decide) (by rw [hml]; rfl) (D d6_25) (fun T50 X51 hc52 => ?_) (fun T50 X51 hc52 => ?_)
    · show Goes p.tables e below _ (T50.setTop (mkF m 28 #[.val (.ref x), .val (.ref vb), .val (.int (2 : Int32)), .val (.int (1 : Int32)), .val (.ref dn)] [(.int (1 : Int32))]))
      refine X51.if_eq 34 (D d6_28) ⟨by decide, by decide⟩ (fun hc53 => absurd hc53 (by decide)) (fun hc53 => ?_)
      refine X51.aload (x := (.ref dn)) (D d6_31) rfl rfl ?_
      exact X51.retA hret rfl rfl hlk (D d6_33) (by decide) (by decide) (rfl)
    · show Goes p.tables e below _ (T50.setTop (mkF m 28 #[.val (.ref x), .val (.ref vb), .val (.int (2 : Int32)), .val (.int (1 : Int32)), .val (.ref dn)] [(.int (0 : Int32))]))
      exact (hc52 rfl).elim
theorem pn_1 : plainName "com/example/ragione/ragione/policy/EffectFromXacmlPinLaw" = true := by first | (simp [plainName, overriddenIn]; done) | decide +kernel
theorem pd_1 : parseMethodDescriptor "(Ljava/lang/String;)Lcom/example/ragione/ragione/policy/Effect;" = some ⟨[(.object "java/lang/String")], (some (.object "com/example/ragione/ragione/policy/Effect"))⟩ := by decide +kernel
set_option maxRecDepth 65536 in
set_option maxHeartbeats 40000000 in
theorem ctLaw (l : Launch) (Z : State) (a0 : Array Value) (hw : ∀ d ∈ tables_1, d.before a0 Z = true) (hEL : EW Z a0 []) (z0 : Int32) (S0 : Sta Z Z.heap "java/lang/String" "COMPACT_STRINGS" "Z" (.int z0)) (hz0 : ¬ z0 = 0) (p0 : Int32) (vl pm dn : Addr) (cl : Cell) (SV : Sta Z Z.heap "com/example/ragione/ragione/policy/Effect" "$VALUES" "[Lcom/example/ragione/ragione/policy/Effect;" (.ref vl)) (AV : Arr Z Z.heap vl cl (.object "com/example/ragione/ragione/policy/Effect")) (EV : Exa Z Z.heap vl "[Lcom/example/ragione/ragione/policy/Effect;") (FV : FitC Z cl) (zV : cl.slots.size = 2) (v0 : cl.slots[0]? = some (.ref pm)) (v1 : cl.slots[1]? = some (.ref dn)) (sp tp sd td : Addr) (FP : Fld Z Z.heap pm "com/example/ragione/ragione/policy/Effect" "xacmlValue" "Ljava/lang/String;" (.ref sp)) (FD : Fld Z Z.heap dn "com/example/ragione/ragione/policy/Effect" "xacmlValue" "Ljava/lang/String;" (.ref sd)) (OP : OStr Z Z.heap sp tp csP) (OD : OStr Z Z.heap sd td csD) (SPm : Sta Z Z.heap "com/example/ragione/ragione/policy/Effect" "PERMIT" "Lcom/example/ragione/ragione/policy/Effect;" (.ref pm)) (SDn : Sta Z Z.heap "com/example/ragione/ragione/policy/Effect" "DENY" "Lcom/example/ragione/ragione/policy/Effect;" (.ref dn)) (h0 : Heap) (n0 : Nat)  :
    Ct l Z [] tables_1 x code maxLocals ret room_1 #[(.int p0)] h0 n0 [] (fun v _ => v = some (.int 1)) := by
  have w : ∀ {d : Jvm.Cond} (i : Nat), tables_1[i]? = some d → d.before a0 Z = true := fun i q => hw _ (List.mem_of_getElem? q)
  refine Ct.enter (plainFor_of_name pn_1) hEL ?_
  intro p e sS m below meth c T0 hby hml0 hret hlk hnm hs0 X0
  have hml : c.maxLocals = 7 := hml0
  have D : ∀ {pc : Nat} {r : Except DecodeError (Instr × Nat)}, decode code pc = r → decode c.code pc = r := fun q => hb hby q
  rw [show entryFrame m #[(.int p0)] maxLocals = mkF m 0 #[.val (.int p0), .unset, .unset, .unset, .unset, .unset, .unset] [] from by first | (simp [entryFrame, mkF, argsToLocals, Value.category, maxLocals]; done) | rfl]
  refine X0.iloadN (x := p0) (D at_0) rfl ?_
  refine X0.iconst (x := (1 : Int32)) (D at_1) rfl ?_
  refine X0.iand (D at_2) ?_
  refine X0.if_eq 10 (D at_3) ⟨by decide, by decide⟩ (fun hc54 => ?_) (fun hc54 => ?_)
  · show Goes p.tables e below _ (T0.setTop (mkF m 10 #[.val (.int p0), .unset, .unset, .unset, .unset, .unset, .unset] []))
    refine X0.iconst (x := (0 : Int32)) (D at_10) rfl ?_
    refine X0.istoreN #[.val (.int p0), .val (.int (0 : Int32)), .unset, .unset, .unset, .unset, .unset] (D at_11) rfl ?_
    refine X0.bipush (x := (6 : Int32)) (D at_12) rfl ?_
    refine X0.newarr (w 0 rfl) (n := (6 : Int32)) (D at_14) (by decide) 6 (by decide) (by decide) (by decide) (by decide) ?_
    intro T55 h56 b57 kb58 g59 X60 E61 A62
    have F63 : Arv Z h56 b57 kb58 .char (6 : Int32) [(.int (0 : Int32)), (.int (0 : Int32)), (.int (0 : Int32)), (.int (0 : Int32)), (.int (0 : Int32)), (.int (0 : Int32))] (.int (0 : Int32)) := A62.pad (pad_rep [] (.int (0 : Int32)) 6)
    show Goes p.tables e below _ (T55.setTop (mkF m 16 #[.val (.int p0), .val (.int (0 : Int32)), .unset, .unset, .unset, .unset, .unset] [(.ref b57)]))
    refine X60.astoreN #[.val (.int p0), .val (.int (0 : Int32)), .val (.ref b57), .unset, .unset, .unset, .unset] (D at_16) rfl rfl ?_
    refine X60.aloadN (x := (.ref b57)) (D at_17) rfl rfl ?_
    refine X60.iconst (x := (0 : Int32)) (D at_18) rfl ?_
    refine X60.bipush (x := (80 : Int32)) (D at_19) rfl ?_
    show Goes p.tables e below _ (T55.setTop (mkF m 21 #[.val (.int p0), .val (.int (0 : Int32)), .val (.ref b57), .unset, .unset, .unset, .unset] [(.int (80 : Int32)), (.int (0 : Int32)), (.ref b57)]))
    refine X60.castore F63 ⟨by decide, by decide⟩ 0 rfl (Nat.le_of_ble_eq_true rfl) (by simp) (D at_21) ?_
    intro T64 h65 X66 W67 A68
    have F69 : Arv Z h65 b57 kb58 .char (6 : Int32) [(.int (80 : Int32)), (.int (0 : Int32)), (.int (0 : Int32)), (.int (0 : Int32)), (.int (0 : Int32)), (.int (0 : Int32))] (.int (0 : Int32)) := by exact A68
    show Goes p.tables e below _ (T64.setTop (mkF m 22 #[.val (.int p0), .val (.int (0 : Int32)), .val (.ref b57), .unset, .unset, .unset, .unset] []))
    refine X66.aloadN (x := (.ref b57)) (D at_22) rfl rfl ?_
    refine X66.iconst (x := (1 : Int32)) (D at_23) rfl ?_
    refine X66.bipush (x := (101 : Int32)) (D at_24) rfl ?_
    show Goes p.tables e below _ (T64.setTop (mkF m 26 #[.val (.int p0), .val (.int (0 : Int32)), .val (.ref b57), .unset, .unset, .unset, .unset] [(.int (101 : Int32)), (.int (1 : Int32)), (.ref b57)]))
    refine X66.castore F69 ⟨by decide, by decide⟩ 1 rfl (Nat.le_of_ble_eq_true rfl) (by simp) (D at_26) ?_
    intro T70 h71 X72 W73 A74
    have F75 : Arv Z h71 b57 kb58 .char (6 : Int32) [(.int (80 : Int32)), (.int (101 : Int32)), (.int (0 : Int32)), (.int (0 : Int32)), (.int (0 : Int32)), (.int (0 : Int32))] (.int (0 : Int32)) := by exact A74
    show Goes p.tables e below _ (T70.setTop (mkF m 27 #[.val (.int p0), .val (.int (0 : Int32)), .val (.ref b57), .unset, .unset, .unset, .unset] []))
    refine X72.aloadN (x := (.ref b57)) (D at_27) rfl rfl ?_
    refine X72.iconst (x := (2 : Int32)) (D at_28) rfl ?_
    refine X72.bipush (x := (114 : Int32)) (D at_29) rfl ?_
    show Goes p.tables e below _ (T70.setTop (mkF m 31 #[.val (.int p0), .val (.int (0 : Int32)), .val (.ref b57), .unset, .unset, .unset, .unset] [(.int (114 : Int32)), (.int (2 : Int32)), (.ref b57)]))
    refine X72.castore F75 ⟨by decide, by decide⟩ 2 rfl (Nat.le_of_ble_eq_true rfl) (by simp) (D at_31) ?_
    intro T76 h77 X78 W79 A80
    have F81 : Arv Z h77 b57 kb58 .char (6 : Int32) [(.int (80 : Int32)), (.int (101 : Int32)), (.int (114 : Int32)), (.int (0 : Int32)), (.int (0 : Int32)), (.int (0 : Int32))] (.int (0 : Int32)) := by exact A80
    show Goes p.tables e below _ (T76.setTop (mkF m 32 #[.val (.int p0), .val (.int (0 : Int32)), .val (.ref b57), .unset, .unset, .unset, .unset] []))
    refine X78.aloadN (x := (.ref b57)) (D at_32) rfl rfl ?_
    refine X78.iconst (x := (3 : Int32)) (D at_33) rfl ?_
    refine X78.bipush (x := (109 : Int32)) (D at_34) rfl ?_
    show Goes p.tables e below _ (T76.setTop (mkF m 36 #[.val (.int p0), .val (.int (0 : Int32)), .val (.ref b57), .unset, .unset, .unset, .unset] [(.int (109 : Int32)), (.int (3 : Int32)), (.ref b57)]))
    refine X78.castore F81 ⟨by decide, by decide⟩ 3 rfl (Nat.le_of_ble_eq_true rfl) (by simp) (D at_36) ?_
    intro T82 h83 X84 W85 A86
    have F87 : Arv Z h83 b57 kb58 .char (6 : Int32) [(.int (80 : Int32)), (.int (101 : Int32)), (.int (114 : Int32)), (.int (109 : Int32)), (.int (0 : Int32)), (.int (0 : Int32))] (.int (0 : Int32)) := by exact A86
    show Goes p.tables e below _ (T82.setTop (mkF m 37 #[.val (.int p0), .val (.int (0 : Int32)), .val (.ref b57), .unset, .unset, .unset, .unset] []))
    refine X84.aloadN (x := (.ref b57)) (D at_37) rfl rfl ?_
    refine X84.iconst (x := (4 : Int32)) (D at_38) rfl ?_
    refine X84.bipush (x := (105 : Int32)) (D at_39) rfl ?_
    show Goes p.tables e below _ (T82.setTop (mkF m 41 #[.val (.int p0), .val (.int (0 : Int32)), .val (.ref b57), .unset, .unset, .unset, .unset] [(.int (105 : Int32)), (.int (4 : Int32)), (.ref b57)]))
    refine X84.castore F87 ⟨by decide, by decide⟩ 4 rfl (Nat.le_of_ble_eq_true rfl) (by simp) (D at_41) ?_
    intro T88 h89 X90 W91 A92
    have F93 : Arv Z h89 b57 kb58 .char (6 : Int32) [(.int (80 : Int32)), (.int (101 : Int32)), (.int (114 : Int32)), (.int (109 : Int32)), (.int (105 : Int32)), (.int (0 : Int32))] (.int (0 : Int32)) := by exact A92
    show Goes p.tables e below _ (T88.setTop (mkF m 42 #[.val (.int p0), .val (.int (0 : Int32)), .val (.ref b57), .unset, .unset, .unset, .unset] []))
    refine X90.aloadN (x := (.ref b57)) (D at_42) rfl rfl ?_
    refine X90.iconst (x := (5 : Int32)) (D at_43) rfl ?_
    refine X90.bipush (x := (116 : Int32)) (D at_44) rfl ?_
    show Goes p.tables e below _ (T88.setTop (mkF m 46 #[.val (.int p0), .val (.int (0 : Int32)), .val (.ref b57), .unset, .unset, .unset, .unset] [(.int (116 : Int32)), (.int (5 : Int32)), (.ref b57)]))
    refine X90.castore F93 ⟨by decide, by decide⟩ 5 rfl (Nat.le_of_ble_eq_true rfl) (by simp) (D at_46) ?_
    intro T94 h95 X96 W97 A98
    have F99 : Arv Z h95 b57 kb58 .char (6 : Int32) [(.int (80 : Int32)), (.int (101 : Int32)), (.int (114 : Int32)), (.int (109 : Int32)), (.int (105 : Int32)), (.int (116 : Int32))] (.int (0 : Int32)) := by exact A98
    show Goes p.tables e below _ (T94.setTop (mkF m 47 #[.val (.int p0), .val (.int (0 : Int32)), .val (.ref b57), .unset, .unset, .unset, .unset] []))
    refine X96.iconst (x := (4 : Int32)) (D at_47) rfl ?_
    refine X96.newarr (w 0 rfl) (n := (4 : Int32)) (D at_48) (by decide) 4 (by decide) (by decide) (by decide) (by decide) ?_
    intro T100 h101 b102 kb103 g104 X105 E106 A107
    have F108 := F99.ext E106
    have lt109 : b57 < b102 := by rw [g104]; exact F99.lt
    have F110 : Arv Z h101 b102 kb103 .char (4 : Int32) [(.int (0 : Int32)), (.int (0 : Int32)), (.int (0 : Int32)), (.int (0 : Int32))] (.int (0 : Int32)) := A107.pad (pad_rep [] (.int (0 : Int32)) 4)
    show Goes p.tables e below _ (T100.setTop (mkF m 50 #[.val (.int p0), .val (.int (0 : Int32)), .val (.ref b57), .unset, .unset, .unset, .unset] [(.ref b102)]))
    refine X105.astoreN #[.val (.int p0), .val (.int (0 : Int32)), .val (.ref b57), .val (.ref b102), .unset, .unset, .unset] (D at_50) rfl rfl ?_
    refine X105.aloadN (x := (.ref b102)) (D at_51) rfl rfl ?_
    refine X105.iconst (x := (0 : Int32)) (D at_52) rfl ?_
    refine X105.bipush (x := (68 : Int32)) (D at_53) rfl ?_
    show Goes p.tables e below _ (T100.setTop (mkF m 55 #[.val (.int p0), .val (.int (0 : Int32)), .val (.ref b57), .val (.ref b102), .unset, .unset, .unset] [(.int (68 : Int32)), (.int (0 : Int32)), (.ref b102)]))
    refine X105.castore F110 ⟨by decide, by decide⟩ 0 rfl (Nat.le_of_ble_eq_true rfl) (by simp) (D at_55) ?_
    intro T111 h112 X113 W114 A115
    have F116 := F108.other W114 (Nat.ne_of_lt lt109)
    have F117 : Arv Z h112 b102 kb103 .char (4 : Int32) [(.int (68 : Int32)), (.int (0 : Int32)), (.int (0 : Int32)), (.int (0 : Int32))] (.int (0 : Int32)) := by exact A115
    show Goes p.tables e below _ (T111.setTop (mkF m 56 #[.val (.int p0), .val (.int (0 : Int32)), .val (.ref b57), .val (.ref b102), .unset, .unset, .unset] []))
    refine X113.aloadN (x := (.ref b102)) (D at_56) rfl rfl ?_
    refine X113.iconst (x := (1 : Int32)) (D at_57) rfl ?_
    refine X113.bipush (x := (101 : Int32)) (D at_58) rfl ?_
    show Goes p.tables e below _ (T111.setTop (mkF m 60 #[.val (.int p0), .val (.int (0 : Int32)), .val (.ref b57), .val (.ref b102), .unset, .unset, .unset] [(.int (101 : Int32)), (.int (1 : Int32)), (.ref b102)]))
    refine X113.castore F117 ⟨by decide, by decide⟩ 1 rfl (Nat.le_of_ble_eq_true rfl) (by simp) (D at_60) ?_
    intro T118 h119 X120 W121 A122
    have F123 := F116.other W121 (Nat.ne_of_lt lt109)
    have F124 : Arv Z h119 b102 kb103 .char (4 : Int32) [(.int (68 : Int32)), (.int (101 : Int32)), (.int (0 : Int32)), (.int (0 : Int32))] (.int (0 : Int32)) := by exact A122
    show Goes p.tables e below _ (T118.setTop (mkF m 61 #[.val (.int p0), .val (.int (0 : Int32)), .val (.ref b57), .val (.ref b102), .unset, .unset, .unset] []))
    refine X120.aloadN (x := (.ref b102)) (D at_61) rfl rfl ?_
    refine X120.iconst (x := (2 : Int32)) (D at_62) rfl ?_
    refine X120.bipush (x := (110 : Int32)) (D at_63) rfl ?_
    show Goes p.tables e below _ (T118.setTop (mkF m 65 #[.val (.int p0), .val (.int (0 : Int32)), .val (.ref b57), .val (.ref b102), .unset, .unset, .unset] [(.int (110 : Int32)), (.int (2 : Int32)), (.ref b102)]))
    refine X120.castore F124 ⟨by decide, by decide⟩ 2 rfl (Nat.le_of_ble_eq_true rfl) (by simp) (D at_65) ?_
    intro T125 h126 X127 W128 A129
    have F130 := F123.other W128 (Nat.ne_of_lt lt109)
    have F131 : Arv Z h126 b102 kb103 .char (4 : Int32) [(.int (68 : Int32)), (.int (101 : Int32)), (.int (110 : Int32)), (.int (0 : Int32))] (.int (0 : Int32)) := by exact A129
    show Goes p.tables e below _ (T125.setTop (mkF m 66 #[.val (.int p0), .val (.int (0 : Int32)), .val (.ref b57), .val (.ref b102), .unset, .unset, .unset] []))
    refine X127.aloadN (x := (.ref b102)) (D at_66) rfl rfl ?_
    refine X127.iconst (x := (3 : Int32)) (D at_67) rfl ?_
    refine X127.bipush (x := (121 : Int32)) (D at_68) rfl ?_
    show Goes p.tables e below _ (T125.setTop (mkF m 70 #[.val (.int p0), .val (.int (0 : Int32)), .val (.ref b57), .val (.ref b102), .unset, .unset, .unset] [(.int (121 : Int32)), (.int (3 : Int32)), (.ref b102)]))
    refine X127.castore F131 ⟨by decide, by decide⟩ 3 rfl (Nat.le_of_ble_eq_true rfl) (by simp) (D at_70) ?_
    intro T132 h133 X134 W135 A136
    have F137 := F130.other W135 (Nat.ne_of_lt lt109)
    have F138 : Arv Z h133 b102 kb103 .char (4 : Int32) [(.int (68 : Int32)), (.int (101 : Int32)), (.int (110 : Int32)), (.int (121 : Int32))] (.int (0 : Int32)) := by exact A136
    show Goes p.tables e below _ (T132.setTop (mkF m 71 #[.val (.int p0), .val (.int (0 : Int32)), .val (.ref b57), .val (.ref b102), .unset, .unset, .unset] []))
    refine X134.iloadN (x := (0 : Int32)) (D at_71) rfl ?_
    refine X134.if_eq 86 (D at_72) ⟨by decide, by decide⟩ (fun hc139 => ?_) (fun hc139 => absurd hc139 (by decide))
    refine X134.new (w 1 rfl) (w 2 rfl) (w 3 rfl) (D at_86) (by decide) (by decide) ?_
    intro T140 h141 b142 g143 X144 E145 A146 D147 U148
    have F149 := F137.ext E145
    have F150 := F138.ext E145
    have lt151 : b57 < b142 := by rw [g143]; exact F137.lt
    have lt152 : b102 < b142 := by rw [g143]; exact F138.lt
    have F153 : Fld Z h141 b142 "java/lang/String" "coder" "B" (.int (0 : Int32)) := D147 (Or.inr (w 27 rfl)) (ty := .byte) (by decide)
    have F154 : Fld Z h141 b142 "java/lang/String" "value" "[B" .null := D147 (Or.inr (w 29 rfl)) (ty := (.array .byte)) (by decide)
    show Goes p.tables e below _ (T140.setTop (mkF m 89 #[.val (.int p0), .val (.int (0 : Int32)), .val (.ref b57), .val (.ref b102), .unset, .unset, .unset] [(.ref b142)]))
    refine X144.dup (D at_89) rfl ?_
    refine X144.aloadN (x := (.ref b102)) (D at_90) rfl rfl ?_
    show Goes p.tables e below _ (T140.setTop (mkF m 91 #[.val (.int p0), .val (.int (0 : Int32)), .val (.ref b57), .val (.ref b102), .unset, .unset, .unset] [(.ref b102), (.ref b142), (.ref b142)]))
    refine X144.newStr (cs := [(68 : Int32), (101 : Int32), (110 : Int32), (121 : Int32)]) 4 (w 4 rfl) (w 5 rfl) (fun d q => hw d (hwsV d q)) (w 2 rfl) A146 F154 F153 F150 S0 hz0 rfl rfl (by decide) (by decide) (hpS (by decide) (hpS (by decide) (hpS (by decide) (hpS (by decide) hp0)))) (by simp) (by decide) 1 (Nat.le_of_ble_eq_true rfl) (by decide) (by decide) (by decide) (by rw [hml]; rfl) (D at_91) ?_
    intro T155 h156 t157 X158 K159 g160 O161
    have F162 := F149.keep K159 (ninS (Nat.ne_of_lt lt151) nin0)
    have F163 := F150.keep K159 (ninS (Nat.ne_of_lt lt152) nin0)
    have lt164 : b57 < t157 := Nat.lt_of_lt_of_le F149.lt g160
    have lt165 : b102 < t157 := Nat.lt_of_lt_of_le F150.lt g160
    have lt166 : b142 < t157 := Nat.lt_of_lt_of_le A146.lt g160
    show Goes p.tables e below _ (T155.setTop (mkF m 94 #[.val (.int p0), .val (.int (0 : Int32)), .val (.ref b57), .val (.ref b102), .unset, .unset, .unset] [(.ref b142)]))
    refine X158.astore #[.val (.int p0), .val (.int (0 : Int32)), .val (.ref b57), .val (.ref b102), .val (.ref b142), .unset, .unset] (D at_94) rfl rfl ?_
    refine X158.iloadN (x := (0 : Int32)) (D at_96) rfl ?_
    refine X158.if_eq 106 (D at_97) ⟨by decide, by decide⟩ (fun hc167 => ?_) (fun hc167 => absurd hc167 (by decide))
    refine X158.gets (w 30 rfl) Via.refl (Sta.ext X158.old.2 SDn) (D at_106) ?_
    intro T168 X169
    show Goes p.tables e below _ (T168.setTop (mkF m 109 #[.val (.int p0), .val (.int (0 : Int32)), .val (.ref b57), .val (.ref b102), .val (.ref b142), .unset, .unset] [(.ref dn)]))
    refine X169.astore #[.val (.int p0), .val (.int (0 : Int32)), .val (.ref b57), .val (.ref b102), .val (.ref b142), .val (.ref dn), .unset] (D at_109) rfl rfl ?_
    refine X169.aload (x := (.ref b142)) (D at_111) rfl rfl ?_
    show Goes p.tables e below _ (T168.setTop (mkF m 113 #[.val (.int p0), .val (.int (0 : Int32)), .val (.ref b57), .val (.ref b102), .val (.ref b142), .val (.ref dn), .unset] [(.ref b142)]))
    refine X169.calls [(.ref b142)] [] (ctFD l Z a0 hw hEL z0 S0 hz0 vl pm dn cl SV AV EV FV zV v0 v1 sp tp sd td FP FD OP OD b142 t157 _ _ O161) (w 33 rfl) (w 34 rfl) (w 31 rfl) (w 35 rfl) (by decide) (fun _ q => nomatch q) (by decide) 0 (by decide) (by decide) (by decide) (lenOf pd_1 rfl) rfl (Nat.le_of_ble_eq_true rfl) (by rw [hml]; rfl) (D at_113) ?_
    rintro T170 h171 _ X173 K174 rfl
    have F175 := F162.keep K174 nin0
    have F176 := F163.keep K174 nin0
    have F177 := O161.keep K174 nin0 nin0
    show Goes p.tables e below _ (T170.setTop (mkF m 116 #[.val (.int p0), .val (.int (0 : Int32)), .val (.ref b57), .val (.ref b102), .val (.ref b142), .val (.ref dn), .unset] [(.ref dn)]))
    refine X173.astore #[.val (.int p0), .val (.int (0 : Int32)), .val (.ref b57), .val (.ref b102), .val (.ref b142), .val (.ref dn), .val (.ref dn)] (D at_116) rfl rfl ?_
    refine X173.aload (x := (.ref dn)) (D at_118) rfl rfl ?_
    refine X173.aload (x := (.ref dn)) (D at_120) rfl rfl ?_
    refine X173.acmp_ne 129 (D at_122) ⟨by decide, by decide⟩ rfl rfl (fun hc178 => ?_) (fun hc178 => ?_)
    · show Goes p.tables e below _ (T170.setTop (mkF m 129 #[.val (.int p0), .val (.int (0 : Int32)), .val (.ref b57), .val (.ref b102), .val (.ref b142), .val (.ref dn), .val (.ref dn)] []))
      exact (hc178 rfl).elim
    · show Goes p.tables e below _ (T170.setTop (mkF m 125 #[.val (.int p0), .val (.int (0 : Int32)), .val (.ref b57), .val (.ref b102), .val (.ref b142), .val (.ref dn), .val (.ref dn)] []))
      refine X173.iconst (x := (1 : Int32)) (D at_125) rfl ?_
      refine X173.goto 130 (D at_126) ⟨by decide, by decide⟩ ?_
      exact X173.reti hret (by simp) hlk (D at_130) (by decide) (by decide) (rfl)
  · show Goes p.tables e below _ (T0.setTop (mkF m 6 #[.val (.int p0), .unset, .unset, .unset, .unset, .unset, .unset] []))
    refine X0.iconst (x := (1 : Int32)) (D at_6) rfl ?_
    refine X0.goto 11 (D at_7) ⟨by decide, by decide⟩ ?_
    refine X0.istoreN #[.val (.int p0), .val (.int (1 : Int32)), .unset, .unset, .unset, .unset, .unset] (D at_11) rfl ?_
    refine X0.bipush (x := (6 : Int32)) (D at_12) rfl ?_
    refine X0.newarr (w 0 rfl) (n := (6 : Int32)) (D at_14) (by decide) 6 (by decide) (by decide) (by decide) (by decide) ?_
    intro T179 h180 b181 kb182 g183 X184 E185 A186
    have F187 : Arv Z h180 b181 kb182 .char (6 : Int32) [(.int (0 : Int32)), (.int (0 : Int32)), (.int (0 : Int32)), (.int (0 : Int32)), (.int (0 : Int32)), (.int (0 : Int32))] (.int (0 : Int32)) := A186.pad (pad_rep [] (.int (0 : Int32)) 6)
    show Goes p.tables e below _ (T179.setTop (mkF m 16 #[.val (.int p0), .val (.int (1 : Int32)), .unset, .unset, .unset, .unset, .unset] [(.ref b181)]))
    refine X184.astoreN #[.val (.int p0), .val (.int (1 : Int32)), .val (.ref b181), .unset, .unset, .unset, .unset] (D at_16) rfl rfl ?_
    refine X184.aloadN (x := (.ref b181)) (D at_17) rfl rfl ?_
    refine X184.iconst (x := (0 : Int32)) (D at_18) rfl ?_
    refine X184.bipush (x := (80 : Int32)) (D at_19) rfl ?_
    show Goes p.tables e below _ (T179.setTop (mkF m 21 #[.val (.int p0), .val (.int (1 : Int32)), .val (.ref b181), .unset, .unset, .unset, .unset] [(.int (80 : Int32)), (.int (0 : Int32)), (.ref b181)]))
    refine X184.castore F187 ⟨by decide, by decide⟩ 0 rfl (Nat.le_of_ble_eq_true rfl) (by simp) (D at_21) ?_
    intro T188 h189 X190 W191 A192
    have F193 : Arv Z h189 b181 kb182 .char (6 : Int32) [(.int (80 : Int32)), (.int (0 : Int32)), (.int (0 : Int32)), (.int (0 : Int32)), (.int (0 : Int32)), (.int (0 : Int32))] (.int (0 : Int32)) := by exact A192
    show Goes p.tables e below _ (T188.setTop (mkF m 22 #[.val (.int p0), .val (.int (1 : Int32)), .val (.ref b181), .unset, .unset, .unset, .unset] []))
    refine X190.aloadN (x := (.ref b181)) (D at_22) rfl rfl ?_
    refine X190.iconst (x := (1 : Int32)) (D at_23) rfl ?_
    refine X190.bipush (x := (101 : Int32)) (D at_24) rfl ?_
    show Goes p.tables e below _ (T188.setTop (mkF m 26 #[.val (.int p0), .val (.int (1 : Int32)), .val (.ref b181), .unset, .unset, .unset, .unset] [(.int (101 : Int32)), (.int (1 : Int32)), (.ref b181)]))
    refine X190.castore F193 ⟨by decide, by decide⟩ 1 rfl (Nat.le_of_ble_eq_true rfl) (by simp) (D at_26) ?_
    intro T194 h195 X196 W197 A198
    have F199 : Arv Z h195 b181 kb182 .char (6 : Int32) [(.int (80 : Int32)), (.int (101 : Int32)), (.int (0 : Int32)), (.int (0 : Int32)), (.int (0 : Int32)), (.int (0 : Int32))] (.int (0 : Int32)) := by exact A198
    show Goes p.tables e below _ (T194.setTop (mkF m 27 #[.val (.int p0), .val (.int (1 : Int32)), .val (.ref b181), .unset, .unset, .unset, .unset] []))
    refine X196.aloadN (x := (.ref b181)) (D at_27) rfl rfl ?_
    refine X196.iconst (x := (2 : Int32)) (D at_28) rfl ?_
    refine X196.bipush (x := (114 : Int32)) (D at_29) rfl ?_
    show Goes p.tables e below _ (T194.setTop (mkF m 31 #[.val (.int p0), .val (.int (1 : Int32)), .val (.ref b181), .unset, .unset, .unset, .unset] [(.int (114 : Int32)), (.int (2 : Int32)), (.ref b181)]))
    refine X196.castore F199 ⟨by decide, by decide⟩ 2 rfl (Nat.le_of_ble_eq_true rfl) (by simp) (D at_31) ?_
    intro T200 h201 X202 W203 A204
    have F205 : Arv Z h201 b181 kb182 .char (6 : Int32) [(.int (80 : Int32)), (.int (101 : Int32)), (.int (114 : Int32)), (.int (0 : Int32)), (.int (0 : Int32)), (.int (0 : Int32))] (.int (0 : Int32)) := by exact A204
    show Goes p.tables e below _ (T200.setTop (mkF m 32 #[.val (.int p0), .val (.int (1 : Int32)), .val (.ref b181), .unset, .unset, .unset, .unset] []))
    refine X202.aloadN (x := (.ref b181)) (D at_32) rfl rfl ?_
    refine X202.iconst (x := (3 : Int32)) (D at_33) rfl ?_
    refine X202.bipush (x := (109 : Int32)) (D at_34) rfl ?_
    show Goes p.tables e below _ (T200.setTop (mkF m 36 #[.val (.int p0), .val (.int (1 : Int32)), .val (.ref b181), .unset, .unset, .unset, .unset] [(.int (109 : Int32)), (.int (3 : Int32)), (.ref b181)]))
    refine X202.castore F205 ⟨by decide, by decide⟩ 3 rfl (Nat.le_of_ble_eq_true rfl) (by simp) (D at_36) ?_
    intro T206 h207 X208 W209 A210
    have F211 : Arv Z h207 b181 kb182 .char (6 : Int32) [(.int (80 : Int32)), (.int (101 : Int32)), (.int (114 : Int32)), (.int (109 : Int32)), (.int (0 : Int32)), (.int (0 : Int32))] (.int (0 : Int32)) := by exact A210
    show Goes p.tables e below _ (T206.setTop (mkF m 37 #[.val (.int p0), .val (.int (1 : Int32)), .val (.ref b181), .unset, .unset, .unset, .unset] []))
    refine X208.aloadN (x := (.ref b181)) (D at_37) rfl rfl ?_
    refine X208.iconst (x := (4 : Int32)) (D at_38) rfl ?_
    refine X208.bipush (x := (105 : Int32)) (D at_39) rfl ?_
    show Goes p.tables e below _ (T206.setTop (mkF m 41 #[.val (.int p0), .val (.int (1 : Int32)), .val (.ref b181), .unset, .unset, .unset, .unset] [(.int (105 : Int32)), (.int (4 : Int32)), (.ref b181)]))
    refine X208.castore F211 ⟨by decide, by decide⟩ 4 rfl (Nat.le_of_ble_eq_true rfl) (by simp) (D at_41) ?_
    intro T212 h213 X214 W215 A216
    have F217 : Arv Z h213 b181 kb182 .char (6 : Int32) [(.int (80 : Int32)), (.int (101 : Int32)), (.int (114 : Int32)), (.int (109 : Int32)), (.int (105 : Int32)), (.int (0 : Int32))] (.int (0 : Int32)) := by exact A216
    show Goes p.tables e below _ (T212.setTop (mkF m 42 #[.val (.int p0), .val (.int (1 : Int32)), .val (.ref b181), .unset, .unset, .unset, .unset] []))
    refine X214.aloadN (x := (.ref b181)) (D at_42) rfl rfl ?_
    refine X214.iconst (x := (5 : Int32)) (D at_43) rfl ?_
    refine X214.bipush (x := (116 : Int32)) (D at_44) rfl ?_
    show Goes p.tables e below _ (T212.setTop (mkF m 46 #[.val (.int p0), .val (.int (1 : Int32)), .val (.ref b181), .unset, .unset, .unset, .unset] [(.int (116 : Int32)), (.int (5 : Int32)), (.ref b181)]))
    refine X214.castore F217 ⟨by decide, by decide⟩ 5 rfl (Nat.le_of_ble_eq_true rfl) (by simp) (D at_46) ?_
    intro T218 h219 X220 W221 A222
    have F223 : Arv Z h219 b181 kb182 .char (6 : Int32) [(.int (80 : Int32)), (.int (101 : Int32)), (.int (114 : Int32)), (.int (109 : Int32)), (.int (105 : Int32)), (.int (116 : Int32))] (.int (0 : Int32)) := by exact A222
    show Goes p.tables e below _ (T218.setTop (mkF m 47 #[.val (.int p0), .val (.int (1 : Int32)), .val (.ref b181), .unset, .unset, .unset, .unset] []))
    refine X220.iconst (x := (4 : Int32)) (D at_47) rfl ?_
    refine X220.newarr (w 0 rfl) (n := (4 : Int32)) (D at_48) (by decide) 4 (by decide) (by decide) (by decide) (by decide) ?_
    intro T224 h225 b226 kb227 g228 X229 E230 A231
    have F232 := F223.ext E230
    have lt233 : b181 < b226 := by rw [g228]; exact F223.lt
    have F234 : Arv Z h225 b226 kb227 .char (4 : Int32) [(.int (0 : Int32)), (.int (0 : Int32)), (.int (0 : Int32)), (.int (0 : Int32))] (.int (0 : Int32)) := A231.pad (pad_rep [] (.int (0 : Int32)) 4)
    show Goes p.tables e below _ (T224.setTop (mkF m 50 #[.val (.int p0), .val (.int (1 : Int32)), .val (.ref b181), .unset, .unset, .unset, .unset] [(.ref b226)]))
    refine X229.astoreN #[.val (.int p0), .val (.int (1 : Int32)), .val (.ref b181), .val (.ref b226), .unset, .unset, .unset] (D at_50) rfl rfl ?_
    refine X229.aloadN (x := (.ref b226)) (D at_51) rfl rfl ?_
    refine X229.iconst (x := (0 : Int32)) (D at_52) rfl ?_
    refine X229.bipush (x := (68 : Int32)) (D at_53) rfl ?_
    show Goes p.tables e below _ (T224.setTop (mkF m 55 #[.val (.int p0), .val (.int (1 : Int32)), .val (.ref b181), .val (.ref b226), .unset, .unset, .unset] [(.int (68 : Int32)), (.int (0 : Int32)), (.ref b226)]))
    refine X229.castore F234 ⟨by decide, by decide⟩ 0 rfl (Nat.le_of_ble_eq_true rfl) (by simp) (D at_55) ?_
    intro T235 h236 X237 W238 A239
    have F240 := F232.other W238 (Nat.ne_of_lt lt233)
    have F241 : Arv Z h236 b226 kb227 .char (4 : Int32) [(.int (68 : Int32)), (.int (0 : Int32)), (.int (0 : Int32)), (.int (0 : Int32))] (.int (0 : Int32)) := by exact A239
    show Goes p.tables e below _ (T235.setTop (mkF m 56 #[.val (.int p0), .val (.int (1 : Int32)), .val (.ref b181), .val (.ref b226), .unset, .unset, .unset] []))
    refine X237.aloadN (x := (.ref b226)) (D at_56) rfl rfl ?_
    refine X237.iconst (x := (1 : Int32)) (D at_57) rfl ?_
    refine X237.bipush (x := (101 : Int32)) (D at_58) rfl ?_
    show Goes p.tables e below _ (T235.setTop (mkF m 60 #[.val (.int p0), .val (.int (1 : Int32)), .val (.ref b181), .val (.ref b226), .unset, .unset, .unset] [(.int (101 : Int32)), (.int (1 : Int32)), (.ref b226)]))
    refine X237.castore F241 ⟨by decide, by decide⟩ 1 rfl (Nat.le_of_ble_eq_true rfl) (by simp) (D at_60) ?_
    intro T242 h243 X244 W245 A246
    have F247 := F240.other W245 (Nat.ne_of_lt lt233)
    have F248 : Arv Z h243 b226 kb227 .char (4 : Int32) [(.int (68 : Int32)), (.int (101 : Int32)), (.int (0 : Int32)), (.int (0 : Int32))] (.int (0 : Int32)) := by exact A246
    show Goes p.tables e below _ (T242.setTop (mkF m 61 #[.val (.int p0), .val (.int (1 : Int32)), .val (.ref b181), .val (.ref b226), .unset, .unset, .unset] []))
    refine X244.aloadN (x := (.ref b226)) (D at_61) rfl rfl ?_
    refine X244.iconst (x := (2 : Int32)) (D at_62) rfl ?_
    refine X244.bipush (x := (110 : Int32)) (D at_63) rfl ?_
    show Goes p.tables e below _ (T242.setTop (mkF m 65 #[.val (.int p0), .val (.int (1 : Int32)), .val (.ref b181), .val (.ref b226), .unset, .unset, .unset] [(.int (110 : Int32)), (.int (2 : Int32)), (.ref b226)]))
    refine X244.castore F248 ⟨by decide, by decide⟩ 2 rfl (Nat.le_of_ble_eq_true rfl) (by simp) (D at_65) ?_
    intro T249 h250 X251 W252 A253
    have F254 := F247.other W252 (Nat.ne_of_lt lt233)
    have F255 : Arv Z h250 b226 kb227 .char (4 : Int32) [(.int (68 : Int32)), (.int (101 : Int32)), (.int (110 : Int32)), (.int (0 : Int32))] (.int (0 : Int32)) := by exact A253
    show Goes p.tables e below _ (T249.setTop (mkF m 66 #[.val (.int p0), .val (.int (1 : Int32)), .val (.ref b181), .val (.ref b226), .unset, .unset, .unset] []))
    refine X251.aloadN (x := (.ref b226)) (D at_66) rfl rfl ?_
    refine X251.iconst (x := (3 : Int32)) (D at_67) rfl ?_
    refine X251.bipush (x := (121 : Int32)) (D at_68) rfl ?_
    show Goes p.tables e below _ (T249.setTop (mkF m 70 #[.val (.int p0), .val (.int (1 : Int32)), .val (.ref b181), .val (.ref b226), .unset, .unset, .unset] [(.int (121 : Int32)), (.int (3 : Int32)), (.ref b226)]))
    refine X251.castore F255 ⟨by decide, by decide⟩ 3 rfl (Nat.le_of_ble_eq_true rfl) (by simp) (D at_70) ?_
    intro T256 h257 X258 W259 A260
    have F261 := F254.other W259 (Nat.ne_of_lt lt233)
    have F262 : Arv Z h257 b226 kb227 .char (4 : Int32) [(.int (68 : Int32)), (.int (101 : Int32)), (.int (110 : Int32)), (.int (121 : Int32))] (.int (0 : Int32)) := by exact A260
    show Goes p.tables e below _ (T256.setTop (mkF m 71 #[.val (.int p0), .val (.int (1 : Int32)), .val (.ref b181), .val (.ref b226), .unset, .unset, .unset] []))
    refine X258.iloadN (x := (1 : Int32)) (D at_71) rfl ?_
    refine X258.if_eq 86 (D at_72) ⟨by decide, by decide⟩ (fun hc263 => absurd hc263 (by decide)) (fun hc263 => ?_)
    refine X258.new (w 1 rfl) (w 2 rfl) (w 3 rfl) (D at_75) (by decide) (by decide) ?_
    intro T264 h265 b266 g267 X268 E269 A270 D271 U272
    have F273 := F261.ext E269
    have F274 := F262.ext E269
    have lt275 : b181 < b266 := by rw [g267]; exact F261.lt
    have lt276 : b226 < b266 := by rw [g267]; exact F262.lt
    have F277 : Fld Z h265 b266 "java/lang/String" "coder" "B" (.int (0 : Int32)) := D271 (Or.inr (w 27 rfl)) (ty := .byte) (by decide)
    have F278 : Fld Z h265 b266 "java/lang/String" "value" "[B" .null := D271 (Or.inr (w 29 rfl)) (ty := (.array .byte)) (by decide)
    show Goes p.tables e below _ (T264.setTop (mkF m 78 #[.val (.int p0), .val (.int (1 : Int32)), .val (.ref b181), .val (.ref b226), .unset, .unset, .unset] [(.ref b266)]))
    refine X268.dup (D at_78) rfl ?_
    refine X268.aloadN (x := (.ref b181)) (D at_79) rfl rfl ?_
    show Goes p.tables e below _ (T264.setTop (mkF m 80 #[.val (.int p0), .val (.int (1 : Int32)), .val (.ref b181), .val (.ref b226), .unset, .unset, .unset] [(.ref b181), (.ref b266), (.ref b266)]))
    refine X268.newStr (cs := [(80 : Int32), (101 : Int32), (114 : Int32), (109 : Int32), (105 : Int32), (116 : Int32)]) 6 (w 4 rfl) (w 5 rfl) (fun d q => hw d (hwsV d q)) (w 2 rfl) A270 F278 F277 F273 S0 hz0 rfl rfl (by decide) (by decide) (hpS (by decide) (hpS (by decide) (hpS (by decide) (hpS (by decide) (hpS (by decide) (hpS (by decide) hp0)))))) (by simp) (by decide) 1 (Nat.le_of_ble_eq_true rfl) (by decide) (by decide) (by decide) (by rw [hml]; rfl) (D at_80) ?_
    intro T279 h280 t281 X282 K283 g284 O285
    have F286 := F273.keep K283 (ninS (Nat.ne_of_lt lt275) nin0)
    have F287 := F274.keep K283 (ninS (Nat.ne_of_lt lt276) nin0)
    have lt288 : b181 < t281 := Nat.lt_of_lt_of_le F273.lt g284
    have lt289 : b226 < t281 := Nat.lt_of_lt_of_le F274.lt g284
    have lt290 : b266 < t281 := Nat.lt_of_lt_of_le A270.lt g284
    show Goes p.tables e below _ (T279.setTop (mkF m 83 #[.val (.int p0), .val (.int (1 : Int32)), .val (.ref b181), .val (.ref b226), .unset, .unset, .unset] [(.ref b266)]))
    refine X282.goto 94 (D at_83) ⟨by decide, by decide⟩ ?_
    refine X282.astore #[.val (.int p0), .val (.int (1 : Int32)), .val (.ref b181), .val (.ref b226), .val (.ref b266), .unset, .unset] (D at_94) rfl rfl ?_
    refine X282.iloadN (x := (1 : Int32)) (D at_96) rfl ?_
    refine X282.if_eq 106 (D at_97) ⟨by decide, by decide⟩ (fun hc291 => absurd hc291 (by decide)) (fun hc291 => ?_)
    refine X282.gets (w 64 rfl) Via.refl (Sta.ext X282.old.2 SPm) (D at_100) ?_
    intro T292 X293
    show Goes p.tables e below _ (T292.setTop (mkF m 103 #[.val (.int p0), .val (.int (1 : Int32)), .val (.ref b181), .val (.ref b226), .val (.ref b266), .unset, .unset] [(.ref pm)]))
    refine X293.goto 109 (D at_103) ⟨by decide, by decide⟩ ?_
    refine X293.astore #[.val (.int p0), .val (.int (1 : Int32)), .val (.ref b181), .val (.ref b226), .val (.ref b266), .val (.ref pm), .unset] (D at_109) rfl rfl ?_
    refine X293.aload (x := (.ref b266)) (D at_111) rfl rfl ?_
    show Goes p.tables e below _ (T292.setTop (mkF m 113 #[.val (.int p0), .val (.int (1 : Int32)), .val (.ref b181), .val (.ref b226), .val (.ref b266), .val (.ref pm), .unset] [(.ref b266)]))
    refine X293.calls [(.ref b266)] [] (ctFP l Z a0 hw hEL z0 S0 hz0 vl pm dn cl SV AV EV FV zV v0 v1 sp tp sd td FP FD OP OD b266 t281 _ _ O285) (w 33 rfl) (w 34 rfl) (w 31 rfl) (w 35 rfl) (by decide) (fun _ q => nomatch q) (by decide) 0 (by decide) (by decide) (by decide) (lenOf pd_1 rfl) rfl (Nat.le_of_ble_eq_true rfl) (by rw [hml]; rfl) (D at_113) ?_
    rintro T294 h295 _ X297 K298 rfl
    have F299 := F286.keep K298 nin0
    have F300 := F287.keep K298 nin0
    have F301 := O285.keep K298 nin0 nin0
    show Goes p.tables e below _ (T294.setTop (mkF m 116 #[.val (.int p0), .val (.int (1 : Int32)), .val (.ref b181), .val (.ref b226), .val (.ref b266), .val (.ref pm), .unset] [(.ref pm)]))
    refine X297.astore #[.val (.int p0), .val (.int (1 : Int32)), .val (.ref b181), .val (.ref b226), .val (.ref b266), .val (.ref pm), .val (.ref pm)] (D at_116) rfl rfl ?_
    refine X297.aload (x := (.ref pm)) (D at_118) rfl rfl ?_
    refine X297.aload (x := (.ref pm)) (D at_120) rfl rfl ?_
    refine X297.acmp_ne 129 (D at_122) ⟨by decide, by decide⟩ rfl rfl (fun hc302 => ?_) (fun hc302 => ?_)
    · show Goes p.tables e below _ (T294.setTop (mkF m 129 #[.val (.int p0), .val (.int (1 : Int32)), .val (.ref b181), .val (.ref b226), .val (.ref b266), .val (.ref pm), .val (.ref pm)] []))
      exact (hc302 rfl).elim
    · show Goes p.tables e below _ (T294.setTop (mkF m 125 #[.val (.int p0), .val (.int (1 : Int32)), .val (.ref b181), .val (.ref b226), .val (.ref b266), .val (.ref pm), .val (.ref pm)] []))
      refine X297.iconst (x := (1 : Int32)) (D at_125) rfl ?_
      refine X297.goto 130 (D at_126) ⟨by decide, by decide⟩ ?_
      exact X297.reti hret (by simp) hlk (D at_130) (by decide) (by decide) (rfl)
set_option maxRecDepth 65536 in
set_option maxHeartbeats 40000000 in
theorem comes_1 {Post : Tables → Env → Array Value → State → Outcome → State → Prop} (hpost : ∀ tb e args s v u, (limb_1_1.after args s (.returned v) u = true ∧ limb_1_2.after args s (.returned v) u = true ∧ True) → FrameEnd s (.returned v) u (Jvm.fieldLocs frame_1_writes args s ++ Jvm.arrayLocs frame_1_arrays args s ++ Jvm.staticLocs frame_1_statics s) room_1.cells room_1.slots → Post tb e args s (.returned v) u) :
    ArmFor flags0 classFile x code maxLocals ret World_1 tables_1 room_1 Calls_1 rest_1 Pre_1 Post := by
  intro l hfl _ _ p e ha hc hk s m args below hf hA hF happ hP
  obtain ⟨hcalls, hrest, hpre⟩ := hP
  obtain ⟨-, -, -, hnamed, -, -, -, hat⟩ := (Spec.applies_iff hf).mp happ
  obtain ⟨hg, hn⟩ := and_e (Cond.before_iff.mp (show (Jvm.Cond.and given_1 narrow_1).before args s = true from hpre))
  obtain ⟨g0, hg0⟩ := and_e hg
  obtain ⟨w0, rfl⟩ : ∃ w0 : Value, args = #[w0] := by
    have hs : args.size = 1 := by simpa [Cond.value, given_1] using g0
    obtain ⟨L⟩ := args
    match L, hs with
    | [w0], _ => exact ⟨w0, rfl⟩
  have hw := fun d (hd : d ∈ tables_1) => atoms_spec (ws := Jvm.Cond.code x code maxLocals ret :: tables_1) hat d (List.mem_cons_of_mem _ hd)
  have hfit : Fit s := fun {y c} hc i hi => by
    obtain ⟨ha, rfl⟩ := Array.getElem?_eq_some_iff.mp hc
    have q := List.all_eq_true.mp ((Array.all_eq_true_iff_forall_mem.mp hF) _ (Array.getElem_mem ha)) i (List.mem_range.mpr hi)
    simpa [Array.getElem?_eq_getElem hi] using q
  obtain ⟨hsets, hown0⟩ := atoms_of _ (rest_1_c_eq ▸ (show rest_1_c.before _ s = true from hrest))
  obtain ⟨p0, ep0⟩ := is_v hg0
  obtain rfl : w0 = (.int p0) := Option.some.inj ep0
  obtain ⟨z0, ez0⟩ := is_v (Cond.before_iff.mp (hsets (Jvm.Cond.isInt (.static "java/lang/String" "COMPACT_STRINGS" "Z")) (by decide +kernel)))
  have S0 : Sta s s.heap "java/lang/String" "COMPACT_STRINGS" "Z" (.int z0) := Sta.start ez0 (Or.inl (hsets (Jvm.Cond.initializedFor "java/lang/String" "COMPACT_STRINGS" "Z") (by decide +kernel)))
  have hcw := hsets (Jvm.Cond.not (.eq (.static "java/lang/String" "COMPACT_STRINGS" "Z") (.int (0 : Int32)))) (by decide +kernel)
  have hz0 : ¬ z0 = 0 := by
    have q1 := not_v (Cond.before_iff.mp hcw)
    intro q; subst q
    rw [eq_i ez0 (Term.int_eval (0 : Int32)) rfl] at q1; cases q1
  have hEL : EW s (#[.int p0] : Array Value) [] := EW.nil
  have H0 : CHv s [] s.vm s.heap := fun p hp => by cases hp
  obtain ⟨y0, r0⟩ := and_e hn
  obtain ⟨y1, r1⟩ := and_e r0
  obtain ⟨y2, r2⟩ := and_e r1
  obtain ⟨y3, r3⟩ := and_e r2
  obtain ⟨y4, r4⟩ := and_e r3
  obtain ⟨y5, r5⟩ := and_e r4
  obtain ⟨y6, r6⟩ := and_e r5
  obtain ⟨y7, r7⟩ := and_e r6
  obtain ⟨y8, r8⟩ := and_e r7
  obtain ⟨y9, r9⟩ := and_e r8
  obtain ⟨y10, r10⟩ := and_e r9
  obtain ⟨y11, r11⟩ := and_e r10
  obtain ⟨y12, r12⟩ := and_e r11
  obtain ⟨y13, r13⟩ := and_e r12
  obtain ⟨y14, r14⟩ := and_e r13
  obtain ⟨y15, r15⟩ := and_e r14
  obtain ⟨y16, r16⟩ := and_e r15
  obtain ⟨y17, r17⟩ := and_e r16
  obtain ⟨y18, r18⟩ := and_e r17
  obtain ⟨y19, r19⟩ := and_e r18
  obtain ⟨y20, r20⟩ := and_e r19
  obtain ⟨y21, r21⟩ := and_e r20
  obtain ⟨y22, r22⟩ := and_e r21
  obtain ⟨y23, r23⟩ := and_e r22
  obtain ⟨dn, edn⟩ := exa_v y0
  obtain ⟨vl, evl⟩ := exa_v y2
  obtain ⟨pm, epm⟩ := exa_v y4
  obtain ⟨sp, esp⟩ := exa_v y7
  obtain ⟨sd, esd⟩ := exa_v y11
  obtain ⟨tp, etp⟩ := arr_v y9
  obtain ⟨td, etd⟩ := arr_v y13
  obtain ⟨cl, AV, zV, -⟩ := arv0 (vs := [.ref pm, .ref dn]) (dv := .null) hfit evl y1 y3 (by decide) rfl (fun c A => ⟨elR evl y5 epm A, elR evl y6 edn A, trivial⟩)
  obtain ⟨cp, -, -, AP⟩ := arv0 (vs := [.int (80 : Int32), .int (101 : Int32), .int (114 : Int32), .int (109 : Int32), .int (105 : Int32), .int (116 : Int32)]) (dv := .int 0) hfit etp y9 y10 (by decide) rfl (fun c A => ⟨elI etp y19 A, elI etp y20 A, elI etp y21 A, elI etp y22 A, elI etp y23 A, elI etp r23 A, trivial⟩)
  obtain ⟨cd, -, -, AD⟩ := arv0 (vs := [.int (68 : Int32), .int (101 : Int32), .int (110 : Int32), .int (121 : Int32)]) (dv := .int 0) hfit etd y13 y14 (by decide) rfl (fun c A => ⟨elI etd y15 A, elI etd y16 A, elI etd y17 A, elI etd y18 A, trivial⟩)
  have SV : Sta s s.heap "com/example/ragione/ragione/policy/Effect" "$VALUES" "[Lcom/example/ragione/ragione/policy/Effect;" (.ref vl) := Sta.start evl (Or.inr ⟨hw _ (List.mem_of_getElem? (i := 31) rfl), hw _ (List.mem_of_getElem? (i := 40) rfl)⟩)
  have SPm : Sta s s.heap "com/example/ragione/ragione/policy/Effect" "PERMIT" "Lcom/example/ragione/ragione/policy/Effect;" (.ref pm) := Sta.start epm (Or.inr ⟨hw _ (List.mem_of_getElem? (i := 31) rfl), hw _ (List.mem_of_getElem? (i := 48) rfl)⟩)
  have SDn : Sta s s.heap "com/example/ragione/ragione/policy/Effect" "DENY" "Lcom/example/ragione/ragione/policy/Effect;" (.ref dn) := Sta.start edn (Or.inr ⟨hw _ (List.mem_of_getElem? (i := 31) rfl), hw _ (List.mem_of_getElem? (i := 32) rfl)⟩)
  have FP : Fld s s.heap pm "com/example/ragione/ragione/policy/Effect" "xacmlValue" "Ljava/lang/String;" (.ref sp) := Fld.start ((fld_at epm).symm.trans esp)
  have FD : Fld s s.heap dn "com/example/ragione/ragione/policy/Effect" "xacmlValue" "Ljava/lang/String;" (.ref sd) := Fld.start ((fld_at edn).symm.trans esd)
  have OP : OStr s s.heap sp tp csP := OStr.mk (Exa.start esp y7) (Fld.start ((fld_at esp).symm.trans etp)) (Fld.start ((fld_at esp).symm.trans (Cond.eq_int (Cond.before_iff.mpr y8) (Term.int_eval 0)))) AP (by decide) (by decide)
  have OD : OStr s s.heap sd td csD := OStr.mk (Exa.start esd y11) (Fld.start ((fld_at esd).symm.trans etd)) (Fld.start ((fld_at esd).symm.trans (Cond.eq_int (Cond.before_iff.mpr y12) (Term.int_eval 0)))) AD (by decide) (by decide)
  obtain ⟨n, o, h1, h2, h3, _, L, rfl, ⟨rfl, N, -, -⟩, hq⟩ := ctLaw l s _ hw hEL z0 S0 hz0 p0 vl pm dn cl SV AV (Exa.start evl y2) (FitC.start hfit AV) zV (elR evl y5 epm AV) (elR evl y6 edn AV) sp tp sd td FP FD OP OD SPm SDn s.heap s.heap.size  p e ha hc hk s m _ below hf ((Spec.applies_iff_loose hf).mp happ).1 ⟨rfl, State.Warmed39.refl s, rfl, Old.start s, fun _ q => nomatch q⟩ trivial
  exact ⟨n, _, h1, h2, h3, hpost _ _ _ _ _ _ ⟨Cond.after_iff.mpr rfl, Cond.after_iff.mpr (eq_i res_at (Term.int_eval (1)) rfl), trivial⟩ ⟨hq.1, hq.2.1, (hq.2.2.sift fun y hy => Or.inr (N y hy))⟩⟩
theorem main_1_1 : Claimed_1_1 := comes_1 fun _ _ _ _ _ _ h hF => ⟨h.1, hF⟩
theorem main_1_2 : Claimed_1_2 := comes_1 fun _ _ _ _ _ _ h hF => ⟨h.2.1, hF⟩
end Jvm.Pilot.@@N@@
namespace Jvm.Pilot.@@N@@
open Jvm Jvm.ClassFile Sem Op Lib Jvm.Free Jvm.Stand Jvm.Pilot.@@N@@.Jvm.D
/-! MADE BY PROGRAM (witnessworld.py) out of the Statement's table words and the real class files: 22 classes; the members and pool entries that the words name. The judged class is class 1, her method 1. -/
namespace start1
open Jvm.ClassFile
def u (s : String) : CpInfo := .utf8 (stringToUtf16 s)
/-- a pool by its gaps: so many unusable entries, then the entry; so many at the end -/
def gap : Nat → List CpInfo → List CpInfo
  | 0, r => r
  | n + 1, r => .unusable :: gap n r
def poolList (es : List (Nat × CpInfo)) (last : Nat) : List CpInfo := es.foldr (fun e r => gap e.1 (e.2 :: r)) (gap last [])
def pool (es : List (Nat × CpInfo)) (last : Nat) : Array CpInfo := ⟨poolList es last⟩
def fileOf (pool : Array CpInfo) (this : Nat) (attrs : Array Attribute := #[]) (ms : Array MethodInfo := #[]) (fl : Nat := 33) (sup : Nat := 0) (ifs : Array Nat := #[]) (fds : Array FieldInfo := #[]) : ClassFile where
  minorVersion := 0
  majorVersion := 65
  constantPool := pool
  accessFlags := fl
  thisClass := this
  superClass := sup
  interfaces := ifs
  fields := fds
  methods := ms
  attributes := attrs
def plain (name : String) (sup : Option ClassId) : Class where
  name := name
  kind := .ordinary
  loader := none
  accessFlags := 33
  super := sup
  interfaces := #[]
  cf := none
  fields := #[]
  methods := #[]
  instanceTypes := #[]
  staticTypes := #[]
  resolved := #[]
  callSites := []
  init := .initialized
  statics := none
  mirror := none

def pool0 : Array CpInfo := pool [(5, u "<init>"), (0, u "()V"), (1, .class_ 10), (1, u "java/lang/Object"), (85, u "clone"), (0, u "()Ljava/lang/Object;")] 26

def k0c0 : Code := { maxStack := 0, maxLocals := 1, code := object_method_1_code, exceptionTable := #[], attributes := #[] }
def k0m0 : Method := { name := "<init>", desc := "()V", sig := { parameters := [], returnType := none }, accessFlags := 1, code := some k0c0 }
def k0m1 : Method := { name := "clone", desc := "()Ljava/lang/Object;", sig := { parameters := [], returnType := some (.object "java/lang/Object") }, accessFlags := 260, code := none }
/-- java/lang/Object -/
def k0 : Class := { plain "java/lang/Object" none with
  accessFlags := 33
  interfaces := #[]
  cf := some (fileOf pool0 8 #[] #[{ accessFlags := 1, nameIndex := 5, descriptorIndex := 6, attributes := #[] }, { accessFlags := 260, nameIndex := 96, descriptorIndex := 97, attributes := #[] }] 33 0 #[] #[])
  fields := #[]
  methods := #[k0m0, k0m1]
  instanceTypes := #[]
  staticTypes := #[]
  resolved := Array.replicate 124 none
  statics := none }

def pool1 : Array CpInfo := pool [(2, .class_ 4), (1, u "java/lang/Object"), (0, u "<init>"), (0, u "()V"), (0, .class_ 8), (0, u "java/lang/String"), (0, .methodref 7 10), (0, .nameAndType 5 11), (0, u "([C)V"), (0, .fieldref 13 14), (0, .class_ 15), (0, .nameAndType 16 17), (0, u "com/example/ragione/ragione/policy/Effect"), (0, u "PERMIT"), (0, u "Lcom/example/ragione/ragione/policy/Effect;"), (0, .fieldref 13 19), (0, .nameAndType 20 17), (0, u "DENY"), (0, .methodref 13 22), (0, .nameAndType 23 24), (0, u "fromXacml"), (0, u "(Ljava/lang/String;)Lcom/example/ragione/ragione/policy/Effect;"), (0, .class_ 26), (0, u "com/example/ragione/ragione/policy/EffectFromXacmlPinLaw"), (2, u "law"), (0, u "(I)Z")] 5

def k1m0 : Method := { name := "<init>", desc := "()V", sig := { parameters := [], returnType := none }, accessFlags := 1, code := none }
def k1c1 : Code := { maxStack := 3, maxLocals := 7, code := code, exceptionTable := #[], attributes := #[] }
def k1m1 : Method := { name := "law", desc := "(I)Z", sig := { parameters := [.int], returnType := some .boolean }, accessFlags := 9, code := some k1c1 }
/-- com/example/ragione/ragione/policy/EffectFromXacmlPinLaw -/
def k1 : Class := { plain "com/example/ragione/ragione/policy/EffectFromXacmlPinLaw" (some 0) with
  accessFlags := 49
  interfaces := #[]
  cf := some (fileOf pool1 25 #[] #[{ accessFlags := 1, nameIndex := 5, descriptorIndex := 6, attributes := #[] }, { accessFlags := 9, nameIndex := 29, descriptorIndex := 30, attributes := #[] }] 49 2 #[] #[])
  fields := #[]
  methods := #[k1m0, k1m1]
  instanceTypes := #[]
  staticTypes := #[]
  resolved := Array.replicate 36 none
  statics := none }

def pool2 : Array CpInfo := pool [(1, .class_ 2), (0, u "java/io/Serializable"), (0, .class_ 4), (0, u "java/lang/Object")] 2

/-- java/io/Serializable -/
def k2 : Class := { plain "java/io/Serializable" (some 0) with
  accessFlags := 1537
  interfaces := #[]
  cf := some (fileOf pool2 1 #[] #[] 1537 3 #[] #[])
  fields := #[]
  methods := #[]
  instanceTypes := #[]
  staticTypes := #[]
  resolved := Array.replicate 7 none
  statics := none }

def pool3 : Array CpInfo := pool [(1, .class_ 2), (0, u "java/lang/Comparable"), (0, .class_ 4), (0, u "java/lang/Object")] 7

/-- java/lang/Comparable -/
def k3 : Class := { plain "java/lang/Comparable" (some 0) with
  accessFlags := 1537
  interfaces := #[]
  cf := some (fileOf pool3 1 #[] #[] 1537 3 #[] #[])
  fields := #[]
  methods := #[]
  instanceTypes := #[]
  staticTypes := #[]
  resolved := Array.replicate 12 none
  statics := none }

def pool4 : Array CpInfo := pool [(2, .class_ 4), (1, u "java/lang/CharSequence"), (42, .class_ 48), (0, u "java/lang/CharSequence$1CodePointIterator"), (10, .class_ 60), (0, u "java/lang/CharSequence$1CharIterator"), (5, .class_ 67), (0, u "java/lang/Object")] 63

/-- java/lang/CharSequence -/
def k4 : Class := { plain "java/lang/CharSequence" (some 0) with
  accessFlags := 1537
  interfaces := #[]
  cf := some (fileOf pool4 2 #[.nestMembers #[47, 59]] #[] 1537 66 #[] #[])
  fields := #[]
  methods := #[]
  instanceTypes := #[]
  staticTypes := #[]
  resolved := Array.replicate 131 none
  statics := none }

def pool5 : Array CpInfo := pool [(1, .class_ 2), (0, u "java/lang/constant/Constable"), (0, .class_ 4), (0, u "java/lang/Object")] 6

/-- java/lang/constant/Constable -/
def k5 : Class := { plain "java/lang/constant/Constable" (some 0) with
  accessFlags := 1537
  interfaces := #[]
  cf := some (fileOf pool5 1 #[] #[] 1537 3 #[] #[])
  fields := #[]
  methods := #[]
  instanceTypes := #[]
  staticTypes := #[]
  resolved := Array.replicate 11 none
  statics := none }

def pool6 : Array CpInfo := pool [(1, .class_ 2), (0, u "java/lang/constant/ConstantDesc"), (0, .class_ 4), (0, u "java/lang/Object")] 32

/-- java/lang/constant/ConstantDesc -/
def k6 : Class := { plain "java/lang/constant/ConstantDesc" (some 0) with
  accessFlags := 1537
  interfaces := #[]
  cf := some (fileOf pool6 1 #[] #[] 1537 3 #[] #[])
  fields := #[]
  methods := #[]
  instanceTypes := #[]
  staticTypes := #[]
  resolved := Array.replicate 37 none
  statics := none }

def pool7 : Array CpInfo := pool [(1, .methodref 2 3), (0, .class_ 4), (0, .nameAndType 5 6), (0, u "java/lang/Object"), (0, u "<init>"), (0, u "()V"), (2, .fieldref 10 11), (0, .class_ 12), (0, .nameAndType 13 14), (0, u "java/lang/String"), (0, u "value"), (0, u "[B"), (0, .fieldref 10 16), (0, .nameAndType 17 18), (0, u "coder"), (0, u "B"), (2, u "hash"), (0, u "I"), (2, u "hashIsZero"), (0, u "Z"), (0, .methodref 10 28), (0, .nameAndType 5 29), (0, u "([CIILjava/lang/Void;)V"), (8, .fieldref 10 39), (0, .nameAndType 40 26), (0, u "COMPACT_STRINGS"), (1, .class_ 44), (1, u "java/lang/StringUTF16"), (0, u "compress"), (1, .methodref 42 48), (0, .nameAndType 49 50), (0, u "coderFromArrayLen"), (0, u "([BI)B"), (56, .class_ 109), (1, u "java/lang/StringLatin1"), (67, .methodref 42 178), (0, .nameAndType 45 179), (0, u "([CII)[B"), (361, .methodref 107 542), (0, .nameAndType 543 544), (0, u "equals"), (0, u "([B[B)Z"), (28, u "(Ljava/lang/Object;)Z"), (1, .class_ 576), (0, u "java/lang/CharSequence"), (22, u "CASE_INSENSITIVE_ORDER"), (0, u "Ljava/util/Comparator;"), (409, u "([C)V"), (90, u "serialPersistentFields"), (0, u "[Ljava/io/ObjectStreamField;"), (0, .class_ 1104), (0, u "java/lang/String$CaseInsensitiveComparator"), (1, .class_ 1107), (0, u "java/io/Serializable"), (0, .class_ 1109), (0, u "java/lang/Comparable"), (0, .class_ 1111), (0, u "java/lang/constant/Constable"), (0, .class_ 1113), (0, u "java/lang/constant/ConstantDesc"), (2, u "serialVersionUID"), (0, u "J"), (3, u "REPL"), (0, u "C"), (2, u "LATIN1"), (1, u "UTF16")] 323

def k7m0 : Method := { name := "<init>", desc := "()V", sig := { parameters := [], returnType := none }, accessFlags := 1, code := none }
def k7c1 : Code := { maxStack := 5, maxLocals := 2, code := jdk_42_method_3_code, exceptionTable := #[], attributes := #[] }
def k7m1 : Method := { name := "<init>", desc := "([C)V", sig := { parameters := [(.array .char)], returnType := none }, accessFlags := 1, code := some k7c1 }
def k7c2 : Code := { maxStack := 2, maxLocals := 3, code := jdk_42_method_66_code, exceptionTable := #[], attributes := #[] }
def k7m2 : Method := { name := "equals", desc := "(Ljava/lang/Object;)Z", sig := { parameters := [(.object "java/lang/Object")], returnType := some .boolean }, accessFlags := 1, code := some k7c2 }
def k7c3 : Code := { maxStack := 4, maxLocals := 6, code := jdk_42_method_149_code, exceptionTable := #[], attributes := #[] }
def k7m3 : Method := { name := "<init>", desc := "([CIILjava/lang/Void;)V", sig := { parameters := [(.array .char), .int, .int, (.object "java/lang/Void")], returnType := none }, accessFlags := 2, code := some k7c3 }
/-- java/lang/String -/
def k7 : Class := { plain "java/lang/String" (some 0) with
  accessFlags := 49
  interfaces := #[2, 3, 4, 5, 6]
  cf := some (fileOf pool7 10 #[.nestMembers #[1103]] #[{ accessFlags := 1, nameIndex := 5, descriptorIndex := 6, attributes := #[] }, { accessFlags := 1, nameIndex := 5, descriptorIndex := 1010, attributes := #[] }, { accessFlags := 1, nameIndex := 543, descriptorIndex := 573, attributes := #[] }, { accessFlags := 2, nameIndex := 5, descriptorIndex := 29, attributes := #[] }] 49 2 #[1106, 1108, 575, 1110, 1112] #[{ accessFlags := 18, nameIndex := 13, descriptorIndex := 14, attributes := #[] }, { accessFlags := 18, nameIndex := 17, descriptorIndex := 18, attributes := #[] }, { accessFlags := 2, nameIndex := 21, descriptorIndex := 22, attributes := #[] }, { accessFlags := 2, nameIndex := 25, descriptorIndex := 26, attributes := #[] }, { accessFlags := 26, nameIndex := 1116, descriptorIndex := 1117, attributes := #[] }, { accessFlags := 24, nameIndex := 40, descriptorIndex := 26, attributes := #[] }, { accessFlags := 26, nameIndex := 1101, descriptorIndex := 1102, attributes := #[] }, { accessFlags := 26, nameIndex := 1121, descriptorIndex := 1122, attributes := #[] }, { accessFlags := 25, nameIndex := 599, descriptorIndex := 600, attributes := #[] }, { accessFlags := 24, nameIndex := 1125, descriptorIndex := 18, attributes := #[] }, { accessFlags := 24, nameIndex := 1127, descriptorIndex := 18, attributes := #[] }])
  fields := #[{ name := "value", type := (.array .byte), accessFlags := 18, slot := 0, constantValue := 0 }, { name := "coder", type := .byte, accessFlags := 18, slot := 1, constantValue := 0 }, { name := "hash", type := .int, accessFlags := 2, slot := 2, constantValue := 0 }, { name := "hashIsZero", type := .boolean, accessFlags := 2, slot := 3, constantValue := 0 }, { name := "serialVersionUID", type := .long, accessFlags := 26, slot := 0, constantValue := 0 }, { name := "COMPACT_STRINGS", type := .boolean, accessFlags := 24, slot := 1, constantValue := 0 }, { name := "serialPersistentFields", type := (.array (.object "java/io/ObjectStreamField")), accessFlags := 26, slot := 2, constantValue := 0 }, { name := "REPL", type := .char, accessFlags := 26, slot := 3, constantValue := 0 }, { name := "CASE_INSENSITIVE_ORDER", type := (.object "java/util/Comparator"), accessFlags := 25, slot := 4, constantValue := 0 }, { name := "LATIN1", type := .byte, accessFlags := 24, slot := 5, constantValue := 0 }, { name := "UTF16", type := .byte, accessFlags := 24, slot := 6, constantValue := 0 }]
  methods := #[k7m0, k7m1, k7m2, k7m3]
  instanceTypes := #[(.array .byte), .byte, .int, .boolean]
  staticTypes := #[.long, .boolean, (.array (.object "java/io/ObjectStreamField")), .char, (.object "java/util/Comparator"), .byte, .byte]
  resolved := Array.replicate 1451 none
  statics := some 0 }

def pool8 : Array CpInfo := pool [(6, .class_ 8), (1, u "java/lang/Object"), (0, u "<init>"), (0, u "()V"), (1, .class_ 14), (1, u "java/lang/StringUTF16"), (31, u "$assertionsDisabled"), (0, u "Z"), (13, u "HI_BYTE_SHIFT"), (0, u "I"), (2, u "LO_BYTE_SHIFT"), (49, .methodref 12 116), (0, .nameAndType 117 118), (0, u "compress"), (0, u "([CI[BII)I"), (3, u "([CII)[B"), (138, u "coderFromArrayLen"), (0, u "([BI)B"), (106, .class_ 371), (1, u "java/lang/StringUTF16$LinesSpliterator"), (58, u "MAX_LENGTH"), (196, .class_ 628), (0, u "java/lang/StringUTF16$CodePointsSpliterator"), (0, .class_ 630), (0, u "java/lang/StringUTF16$CharsSpliterator")] 4

def k8m0 : Method := { name := "<init>", desc := "()V", sig := { parameters := [], returnType := none }, accessFlags := 0, code := none }
def k8c1 : Code := { maxStack := 2, maxLocals := 2, code := jdk_52_method_15_code, exceptionTable := #[], attributes := #[] }
def k8m1 : Method := { name := "coderFromArrayLen", desc := "([BI)B", sig := { parameters := [(.array .byte), .int], returnType := some .byte }, accessFlags := 8, code := some k8c1 }
def k8c2 : Code := { maxStack := 5, maxLocals := 6, code := jdk_52_method_16_code, exceptionTable := #[], attributes := #[] }
def k8m2 : Method := { name := "compress", desc := "([CII)[B", sig := { parameters := [(.array .char), .int, .int], returnType := some (.array .byte) }, accessFlags := 9, code := some k8c2 }
def k8c3 : Code := { maxStack := 3, maxLocals := 7, code := jdk_52_method_21_code, exceptionTable := #[], attributes := #[] }
def k8m3 : Method := { name := "compress", desc := "([CI[BII)I", sig := { parameters := [(.array .char), .int, (.array .byte), .int, .int], returnType := some .int }, accessFlags := 9, code := some k8c3 }
/-- java/lang/StringUTF16 -/
def k8 : Class := { plain "java/lang/StringUTF16" (some 0) with
  accessFlags := 48
  interfaces := #[]
  cf := some (fileOf pool8 12 #[.nestMembers #[627, 629, 369]] #[{ accessFlags := 0, nameIndex := 9, descriptorIndex := 10, attributes := #[] }, { accessFlags := 8, nameIndex := 261, descriptorIndex := 262, attributes := #[] }, { accessFlags := 9, nameIndex := 117, descriptorIndex := 122, attributes := #[] }, { accessFlags := 9, nameIndex := 117, descriptorIndex := 118, attributes := #[] }] 48 6 #[] #[{ accessFlags := 26, nameIndex := 61, descriptorIndex := 62, attributes := #[] }, { accessFlags := 26, nameIndex := 65, descriptorIndex := 62, attributes := #[] }, { accessFlags := 24, nameIndex := 430, descriptorIndex := 62, attributes := #[] }, { accessFlags := 4120, nameIndex := 46, descriptorIndex := 47, attributes := #[] }])
  fields := #[{ name := "HI_BYTE_SHIFT", type := .int, accessFlags := 26, slot := 0, constantValue := 0 }, { name := "LO_BYTE_SHIFT", type := .int, accessFlags := 26, slot := 1, constantValue := 0 }, { name := "MAX_LENGTH", type := .int, accessFlags := 24, slot := 2, constantValue := 0 }, { name := "$assertionsDisabled", type := .boolean, accessFlags := 4120, slot := 3, constantValue := 0 }]
  methods := #[k8m0, k8m1, k8m2, k8m3]
  instanceTypes := #[]
  staticTypes := #[.int, .int, .int, .boolean]
  resolved := Array.replicate 635 none
  statics := none }

def pool9 : Array CpInfo := pool [(2, .class_ 4), (1, u "java/lang/Enum"), (0, u "name"), (0, u "Ljava/lang/String;"), (2, u "ordinal"), (0, u "I"), (1, .class_ 14), (1, u "java/lang/Object"), (4, u "hash"), (86, .class_ 108), (1, u "java/lang/Enum$EnumDesc"), (2, .class_ 112), (0, u "java/lang/constant/Constable"), (0, .class_ 114), (0, u "java/lang/Comparable"), (0, .class_ 116), (0, u "java/io/Serializable")] 87

/-- java/lang/Enum -/
def k9 : Class := { plain "java/lang/Enum" (some 0) with
  accessFlags := 1057
  interfaces := #[5, 3, 2]
  cf := some (fileOf pool9 2 #[.nestMembers #[106]] #[] 1057 12 #[111, 113, 115] #[{ accessFlags := 18, nameIndex := 5, descriptorIndex := 6, attributes := #[] }, { accessFlags := 18, nameIndex := 9, descriptorIndex := 10, attributes := #[] }, { accessFlags := 2, nameIndex := 19, descriptorIndex := 10, attributes := #[] }])
  fields := #[{ name := "name", type := (.object "java/lang/String"), accessFlags := 18, slot := 0, constantValue := 0 }, { name := "ordinal", type := .int, accessFlags := 18, slot := 1, constantValue := 0 }, { name := "hash", type := .int, accessFlags := 2, slot := 2, constantValue := 0 }]
  methods := #[]
  instanceTypes := #[(.object "java/lang/String"), .int, .int]
  staticTypes := #[]
  resolved := Array.replicate 204 none
  statics := none }

def pool10 : Array CpInfo := pool [(1, .class_ 2), (0, u "com/example/ragione/ragione/policy/Effect"), (2, u "PERMIT"), (0, u "Lcom/example/ragione/ragione/policy/Effect;"), (2, u "DENY"), (0, .fieldref 1 11), (0, .nameAndType 12 13), (0, u "$VALUES"), (0, u "[Lcom/example/ragione/ragione/policy/Effect;"), (0, .methodref 15 16), (0, .class_ 13), (0, .nameAndType 17 18), (0, u "clone"), (0, u "()Ljava/lang/Object;"), (1, .class_ 22), (1, u "java/lang/Enum"), (6, .fieldref 1 30), (0, .nameAndType 31 32), (0, u "xacmlValue"), (0, u "Ljava/lang/String;"), (0, .methodref 1 34), (0, .nameAndType 35 36), (0, u "values"), (0, u "()[Lcom/example/ragione/ragione/policy/Effect;"), (0, .methodref 38 39), (0, .class_ 40), (0, .nameAndType 41 42), (0, u "java/lang/String"), (0, u "equals"), (0, u "(Ljava/lang/Object;)Z"), (23, u "(Ljava/lang/String;)Lcom/example/ragione/ragione/policy/Effect;"), (2, u "fromXacml")] 21

def k10c0 : Code := { maxStack := 1, maxLocals := 0, code := prog_8_method_1_code, exceptionTable := #[], attributes := #[] }
def k10m0 : Method := { name := "values", desc := "()[Lcom/example/ragione/ragione/policy/Effect;", sig := { parameters := [], returnType := some (.array (.object "com/example/ragione/ragione/policy/Effect")) }, accessFlags := 9, code := some k10c0 }
def k10c1 : Code := { maxStack := 3, maxLocals := 5, code := prog_8_method_4_code, exceptionTable := #[], attributes := #[] }
def k10m1 : Method := { name := "fromXacml", desc := "(Ljava/lang/String;)Lcom/example/ragione/ragione/policy/Effect;", sig := { parameters := [(.object "java/lang/String")], returnType := some (.object "com/example/ragione/ragione/policy/Effect") }, accessFlags := 9, code := some k10c1 }
/-- com/example/ragione/ragione/policy/Effect -/
def k10 : Class := { plain "com/example/ragione/ragione/policy/Effect" (some 9) with
  accessFlags := 16433
  interfaces := #[]
  cf := some (fileOf pool10 1 #[] #[{ accessFlags := 9, nameIndex := 35, descriptorIndex := 36, attributes := #[] }, { accessFlags := 9, nameIndex := 69, descriptorIndex := 66, attributes := #[] }] 16433 20 #[] #[{ accessFlags := 16409, nameIndex := 5, descriptorIndex := 6, attributes := #[] }, { accessFlags := 16409, nameIndex := 9, descriptorIndex := 6, attributes := #[] }, { accessFlags := 18, nameIndex := 31, descriptorIndex := 32, attributes := #[] }, { accessFlags := 4122, nameIndex := 12, descriptorIndex := 13, attributes := #[] }])
  fields := #[{ name := "PERMIT", type := (.object "com/example/ragione/ragione/policy/Effect"), accessFlags := 16409, slot := 0, constantValue := 0 }, { name := "DENY", type := (.object "com/example/ragione/ragione/policy/Effect"), accessFlags := 16409, slot := 1, constantValue := 0 }, { name := "xacmlValue", type := (.object "java/lang/String"), accessFlags := 18, slot := 3, constantValue := 0 }, { name := "$VALUES", type := (.array (.object "com/example/ragione/ragione/policy/Effect")), accessFlags := 4122, slot := 2, constantValue := 0 }]
  methods := #[k10m0, k10m1]
  instanceTypes := #[(.object "java/lang/String"), .int, .int, (.object "java/lang/String")]
  staticTypes := #[(.object "com/example/ragione/ragione/policy/Effect"), (.object "com/example/ragione/ragione/policy/Effect"), (.array (.object "com/example/ragione/ragione/policy/Effect"))]
  resolved := Array.replicate 91 none
  statics := some 1 }

def pool11 : Array CpInfo := pool [(1, .class_ 2), (0, u "java/lang/Cloneable"), (0, .class_ 4), (0, u "java/lang/Object")] 2

/-- java/lang/Cloneable -/
def k11 : Class := { plain "java/lang/Cloneable" (some 0) with
  accessFlags := 1537
  interfaces := #[]
  cf := some (fileOf pool11 1 #[] #[] 1537 3 #[] #[])
  fields := #[]
  methods := #[]
  instanceTypes := #[]
  staticTypes := #[]
  resolved := Array.replicate 7 none
  statics := none }

def pool12 : Array CpInfo := pool [(4, .class_ 6), (1, u "java/lang/Object"), (0, u "<init>"), (0, u "()V"), (5, .class_ 16), (1, u "java/lang/StringLatin1"), (104, u "$assertionsDisabled"), (0, u "Z"), (98, .class_ 223), (1, u "java/lang/StringLatin1$LinesSpliterator"), (57, u "equals"), (0, u "([B[B)Z"), (107, .class_ 391), (0, u "java/lang/StringLatin1$CharsSpliterator")] 3

def k12m0 : Method := { name := "<init>", desc := "()V", sig := { parameters := [], returnType := none }, accessFlags := 0, code := none }
def k12c1 : Code := { maxStack := 3, maxLocals := 3, code := jdk_43_method_13_code, exceptionTable := #[], attributes := #[] }
def k12m1 : Method := { name := "equals", desc := "([B[B)Z", sig := { parameters := [(.array .byte), (.array .byte)], returnType := some .boolean }, accessFlags := 9, code := some k12c1 }
/-- java/lang/StringLatin1 -/
def k12 : Class := { plain "java/lang/StringLatin1" (some 0) with
  accessFlags := 48
  interfaces := #[]
  cf := some (fileOf pool12 14 #[.nestMembers #[390, 221]] #[{ accessFlags := 0, nameIndex := 7, descriptorIndex := 8, attributes := #[] }, { accessFlags := 9, nameIndex := 281, descriptorIndex := 282, attributes := #[] }] 48 4 #[] #[{ accessFlags := 4120, nameIndex := 121, descriptorIndex := 122, attributes := #[] }])
  fields := #[{ name := "$assertionsDisabled", type := .boolean, accessFlags := 4120, slot := 0, constantValue := 0 }]
  methods := #[k12m0, k12m1]
  instanceTypes := #[]
  staticTypes := #[.boolean]
  resolved := Array.replicate 395 none
  statics := none }

def pool13 : Array CpInfo := pool [(2, .class_ 4), (1, u "java/lang/Object"), (0, u "<init>"), (0, u "()V"), (17, .class_ 26), (1, u "jdk/internal/util/Preconditions"), (28, .class_ 56), (0, u "jdk/internal/util/Preconditions$4"), (57, .class_ 115), (0, u "jdk/internal/util/Preconditions$1"), (7, u "SIOOBE_FORMATTER"), (0, u "Ljava/util/function/BiFunction;"), (0, .class_ 126), (0, u "jdk/internal/util/Preconditions$2"), (3, u "AIOOBE_FORMATTER"), (0, .class_ 132), (0, u "jdk/internal/util/Preconditions$3"), (3, u "IOOBE_FORMATTER")] 57

def k13m0 : Method := { name := "<init>", desc := "()V", sig := { parameters := [], returnType := none }, accessFlags := 1, code := none }
/-- jdk/internal/util/Preconditions -/
def k13 : Class := { plain "jdk/internal/util/Preconditions" (some 0) with
  accessFlags := 33
  interfaces := #[]
  cf := some (fileOf pool13 24 #[.nestMembers #[55, 131, 125, 114]] #[{ accessFlags := 1, nameIndex := 5, descriptorIndex := 6, attributes := #[] }] 33 2 #[] #[{ accessFlags := 25, nameIndex := 123, descriptorIndex := 124, attributes := #[] }, { accessFlags := 25, nameIndex := 130, descriptorIndex := 124, attributes := #[] }, { accessFlags := 25, nameIndex := 136, descriptorIndex := 124, attributes := #[] }])
  fields := #[{ name := "SIOOBE_FORMATTER", type := (.object "java/util/function/BiFunction"), accessFlags := 25, slot := 0, constantValue := 0 }, { name := "AIOOBE_FORMATTER", type := (.object "java/util/function/BiFunction"), accessFlags := 25, slot := 1, constantValue := 0 }, { name := "IOOBE_FORMATTER", type := (.object "java/util/function/BiFunction"), accessFlags := 25, slot := 2, constantValue := 0 }]
  methods := #[k13m0]
  instanceTypes := #[]
  staticTypes := #[(.object "java/util/function/BiFunction"), (.object "java/util/function/BiFunction"), (.object "java/util/function/BiFunction")]
  resolved := Array.replicate 194 none
  statics := some 2 }

def pool14 : Array CpInfo := pool [(9, u "<init>"), (6, .class_ 18), (1, u "java/lang/Object"), (0, u "()V"), (1, .class_ 23), (1, u "jdk/internal/util/ArraysSupport"), (0, u "LOG2_ARRAY_LONG_INDEX_SCALE"), (0, u "I"), (2, u "U"), (0, u "Ljdk/internal/misc/Unsafe;"), (8, u "BIG_ENDIAN"), (0, u "Z"), (8, u "LOG2_BYTE_BIT_SIZE"), (4, u "LOG2_ARRAY_INT_INDEX_SCALE"), (54, u "JLA"), (0, u "Ljdk/internal/access/JavaLangAccess;"), (11, u "LOG2_ARRAY_BOOLEAN_INDEX_SCALE"), (9, u "LOG2_ARRAY_BYTE_INDEX_SCALE"), (5, u "LOG2_ARRAY_CHAR_INDEX_SCALE"), (5, u "LOG2_ARRAY_SHORT_INDEX_SCALE"), (18, u "LOG2_ARRAY_FLOAT_INDEX_SCALE"), (24, u "LOG2_ARRAY_DOUBLE_INDEX_SCALE"), (89, u "T_BOOLEAN"), (2, u "T_CHAR"), (1, u "T_FLOAT"), (1, u "T_DOUBLE"), (1, u "T_BYTE"), (1, u "T_SHORT"), (1, u "T_INT"), (1, u "T_LONG"), (1, u "SOFT_MAX_ARRAY_LENGTH")] 83

def k14m0 : Method := { name := "<init>", desc := "()V", sig := { parameters := [], returnType := none }, accessFlags := 2, code := none }
/-- jdk/internal/util/ArraysSupport -/
def k14 : Class := { plain "jdk/internal/util/ArraysSupport" (some 0) with
  accessFlags := 33
  interfaces := #[]
  cf := some (fileOf pool14 21 #[] #[{ accessFlags := 2, nameIndex := 9, descriptorIndex := 19, attributes := #[] }] 33 16 #[] #[{ accessFlags := 24, nameIndex := 28, descriptorIndex := 29, attributes := #[] }, { accessFlags := 26, nameIndex := 38, descriptorIndex := 39, attributes := #[] }, { accessFlags := 25, nameIndex := 121, descriptorIndex := 25, attributes := #[] }, { accessFlags := 25, nameIndex := 131, descriptorIndex := 25, attributes := #[] }, { accessFlags := 25, nameIndex := 137, descriptorIndex := 25, attributes := #[] }, { accessFlags := 25, nameIndex := 143, descriptorIndex := 25, attributes := #[] }, { accessFlags := 25, nameIndex := 53, descriptorIndex := 25, attributes := #[] }, { accessFlags := 25, nameIndex := 24, descriptorIndex := 25, attributes := #[] }, { accessFlags := 25, nameIndex := 162, descriptorIndex := 25, attributes := #[] }, { accessFlags := 25, nameIndex := 187, descriptorIndex := 25, attributes := #[] }, { accessFlags := 26, nameIndex := 48, descriptorIndex := 25, attributes := #[] }, { accessFlags := 25, nameIndex := 277, descriptorIndex := 25, attributes := #[] }, { accessFlags := 25, nameIndex := 280, descriptorIndex := 25, attributes := #[] }, { accessFlags := 25, nameIndex := 282, descriptorIndex := 25, attributes := #[] }, { accessFlags := 25, nameIndex := 284, descriptorIndex := 25, attributes := #[] }, { accessFlags := 25, nameIndex := 286, descriptorIndex := 25, attributes := #[] }, { accessFlags := 25, nameIndex := 288, descriptorIndex := 25, attributes := #[] }, { accessFlags := 25, nameIndex := 290, descriptorIndex := 25, attributes := #[] }, { accessFlags := 25, nameIndex := 292, descriptorIndex := 25, attributes := #[] }, { accessFlags := 26, nameIndex := 108, descriptorIndex := 109, attributes := #[] }, { accessFlags := 25, nameIndex := 294, descriptorIndex := 25, attributes := #[] }])
  fields := #[{ name := "U", type := (.object "jdk/internal/misc/Unsafe"), accessFlags := 24, slot := 0, constantValue := 0 }, { name := "BIG_ENDIAN", type := .boolean, accessFlags := 26, slot := 1, constantValue := 0 }, { name := "LOG2_ARRAY_BOOLEAN_INDEX_SCALE", type := .int, accessFlags := 25, slot := 2, constantValue := 0 }, { name := "LOG2_ARRAY_BYTE_INDEX_SCALE", type := .int, accessFlags := 25, slot := 3, constantValue := 0 }, { name := "LOG2_ARRAY_CHAR_INDEX_SCALE", type := .int, accessFlags := 25, slot := 4, constantValue := 0 }, { name := "LOG2_ARRAY_SHORT_INDEX_SCALE", type := .int, accessFlags := 25, slot := 5, constantValue := 0 }, { name := "LOG2_ARRAY_INT_INDEX_SCALE", type := .int, accessFlags := 25, slot := 6, constantValue := 0 }, { name := "LOG2_ARRAY_LONG_INDEX_SCALE", type := .int, accessFlags := 25, slot := 7, constantValue := 0 }, { name := "LOG2_ARRAY_FLOAT_INDEX_SCALE", type := .int, accessFlags := 25, slot := 8, constantValue := 0 }, { name := "LOG2_ARRAY_DOUBLE_INDEX_SCALE", type := .int, accessFlags := 25, slot := 9, constantValue := 0 }, { name := "LOG2_BYTE_BIT_SIZE", type := .int, accessFlags := 26, slot := 10, constantValue := 0 }, { name := "T_BOOLEAN", type := .int, accessFlags := 25, slot := 11, constantValue := 0 }, { name := "T_CHAR", type := .int, accessFlags := 25, slot := 12, constantValue := 0 }, { name := "T_FLOAT", type := .int, accessFlags := 25, slot := 13, constantValue := 0 }, { name := "T_DOUBLE", type := .int, accessFlags := 25, slot := 14, constantValue := 0 }, { name := "T_BYTE", type := .int, accessFlags := 25, slot := 15, constantValue := 0 }, { name := "T_SHORT", type := .int, accessFlags := 25, slot := 16, constantValue := 0 }, { name := "T_INT", type := .int, accessFlags := 25, slot := 17, constantValue := 0 }, { name := "T_LONG", type := .int, accessFlags := 25, slot := 18, constantValue := 0 }, { name := "JLA", type := (.object "jdk/internal/access/JavaLangAccess"), accessFlags := 26, slot := 19, constantValue := 0 }, { name := "SOFT_MAX_ARRAY_LENGTH", type := .int, accessFlags := 25, slot := 20, constantValue := 0 }]
  methods := #[k14m0]
  instanceTypes := #[]
  staticTypes := #[(.object "jdk/internal/misc/Unsafe"), .boolean, .int, .int, .int, .int, .int, .int, .int, .int, .int, .int, .int, .int, .int, .int, .int, .int, .int, (.object "jdk/internal/access/JavaLangAccess"), .int]
  resolved := Array.replicate 378 none
  statics := none }

/-- the primitive byte -/
def k15 : Class := { plain "byte" none with kind := .primitive 'B', accessFlags := 0x411 }
/-- [B -/
def k16 : Class := { plain "[B" (some 0) with kind := .array 15 .byte, interfaces := #[11, 2], accessFlags := 1041 }

/-- the primitive char -/
def k17 : Class := { plain "char" none with kind := .primitive 'C', accessFlags := 0x411 }
/-- [C -/
def k18 : Class := { plain "[C" (some 0) with kind := .array 17 .char, interfaces := #[11, 2], accessFlags := 1041 }

/-- the primitive int -/
def k19 : Class := { plain "int" none with kind := .primitive 'I', accessFlags := 0x411 }
/-- [I -/
def k20 : Class := { plain "[I" (some 0) with kind := .array 19 .int, interfaces := #[11, 2], accessFlags := 1041 }

/-- [Lcom/example/ragione/ragione/policy/Effect; -/
def k21 : Class := { plain "[Lcom/example/ragione/ragione/policy/Effect;" (some 0) with kind := .array 10 (.object "com/example/ragione/ragione/policy/Effect"), interfaces := #[11, 2], accessFlags := 1041 }

def heap : Heap := #[{ cls := 7, slots := #[.long 0, .int 1, .null, .int 0, .null, .int 0, .int 0], vm := .statics 7 },
  { cls := 10, slots := #[.ref 4, .ref 5, .ref 3], vm := .statics 10 },
  { cls := 13, slots := #[.null, .null, .null], vm := .statics 13 },
  { cls := 21, slots := #[.ref 4, .ref 5], vm := .none },
  { cls := 10, slots := #[.null, .int 0, .int 0, .ref 6], vm := .none },
  { cls := 10, slots := #[.null, .int 1, .int 0, .ref 7], vm := .none },
  { cls := 7, slots := #[.ref 8, .int 0, .int 0, .int 0], vm := .none },
  { cls := 7, slots := #[.ref 9, .int 0, .int 0, .int 0], vm := .none },
  { cls := 16, slots := #[.int 80, .int 101, .int 114, .int 109, .int 105, .int 116], vm := .none },
  { cls := 16, slots := #[.int 68, .int 101, .int 110, .int 121], vm := .none }]
def classes : Array Class := #[k0, k1, k2, k3, k4, k5, k6, k7, k8, k9, k10, k11, k12, k13, k14, k15, k16, k17, k18, k19, k20, k21]
def interned : List (Array UInt16 × Addr) := []
def slotsUsed : Nat := 41
def theMethod : MethodId := ⟨1, 1⟩
def args0 : Array Value := #[.int 5]
def aboutOver (below : List Frame) : State where
  vm := { classes := classes, interned := interned.toArray }
  heap := heap
  slotsUsed := slotsUsed
  threads := #[{ frames := .invoking theMethod args0 :: below }]
def below0 : List Frame := [.native { method := ⟨0, 0⟩, args := #[] }]
def about1 : State := aboutOver below0
def p0 : Program := .bare "" "" ""
def e0 : Env := launch0.env 0 0 0
theorem w_frames : about1.frames = Frame.invoking theMethod args0 :: below0 := rfl
set_option maxRecDepth 65536 in
theorem w_args : argsFit about1.vm theMethod args0 = true := by decide +kernel
set_option maxRecDepth 65536 in
theorem w_heap : heapFits about1 = true := by decide +kernel
set_option maxRecDepth 65536 in
theorem w_runnable : about1.curStatus? = some .runnable := by decide +kernel
set_option maxRecDepth 65536 in
theorem w_alone : about1.alone = true := by decide +kernel
set_option maxRecDepth 65536 in
theorem w_named : about1.methodNamed? x = some theMethod := by decide +kernel
set_option maxRecDepth 65536 in
theorem w_hears : about1.hears theMethod below0 = true := by decide +kernel
set_option maxRecDepth 65536 in
theorem w_ripe : about1.ripe theMethod args0 below0 = true := by decide +kernel
theorem w_running : about1.status = .running := rfl
set_option maxRecDepth 65536 in
theorem w_room : about1.hasRoom e0.platform room_1 = true :=
  launch0.hasRoom_least _ room_1 (by decide +kernel) (by decide +kernel) (by decide +kernel) (by decide +kernel) (by decide +kernel) (by decide +kernel)
theorem allAtoms_all (ts : List Jvm.Cond) (a : Array Jvm.Value) (st : Jvm.State) : (allAtoms ts).before a st = ts.all (fun c => c.before a st) := by
  induction ts with
  | nil => rfl
  | cons c t ih =>
    show (Jvm.Cond.and c (allAtoms t)).before a st = _
    rw [Jvm.Cond.before_and, ih, List.all_cons]
def words1 : List Jvm.Cond := Jvm.Cond.code x code maxLocals ret :: tables_1
/-- a 'code' word, met by the world's own term for the bytes: nothing is compared byte by byte -/
theorem code_word {y : MethodName} {bytes : ByteArray} {mx : Nat} {rt : Option FieldType} {a : Array Value} {s : State} {m : MethodId} {meth : Method} {c : Code} (h1 : s.methodNamed? y = some m) (h2 : s.vm.method? m = some meth) (h3 : meth.code = some c) (h4 : c.code = bytes)
    (h5 : (c.maxLocals == mx && c.exceptionTable.isEmpty && decide (c.maxStack ≤ mostOperands) && decide (meth.sig.returnType = rt) && !meth.locks && decide (parseMethodDescriptor y.desc = some meth.sig)) = true) : (Jvm.Cond.code y bytes mx rt).before a s = true := by
  simp only [Bool.and_eq_true, beq_iff_eq, Bool.not_eq_true', decide_eq_true_eq] at h5
  obtain ⟨⟨⟨⟨⟨g1, g2⟩, g3⟩, g4⟩, g5⟩, g6⟩ := h5
  simp [Cond.before, Cond.holds, Cond.value, h1, h2, h3, h4, g1, g2, g3, g4, g5, g6]
def isCode : Jvm.Cond → Bool
  | .code _ _ _ _ => true
  | _ => false
theorem all_split {L : List Jvm.Cond} {P : Jvm.Cond → Bool} (h1 : L.all (fun c => isCode c || P c) = true) (h2 : ∀ c ∈ L.filter isCode, P c = true) : L.all P = true := by
  refine List.all_eq_true.mpr fun c hc => ?_
  have h := List.all_eq_true.mp h1 c hc
  rcases Bool.eq_false_or_eq_true (isCode c) with hi | hi
  · exact h2 c (List.mem_filter.mpr ⟨hc, hi⟩)
  · simpa [hi] using h
set_option maxRecDepth 65536 in
theorem w_c0 : (Jvm.Cond.code x code maxLocals ret).before args0 about1 = true := code_word (m := ⟨1, 1⟩) (meth := k1m1) (c := k1c1) (by decide +kernel) rfl rfl rfl (by decide +kernel)
set_option maxRecDepth 65536 in
theorem w_c1 : (Jvm.Cond.code ({ cls := "java/lang/String", name := "<init>", desc := "([C)V" } : Jvm.MethodName) jdk_42_method_3_code (2 : Nat) (Option.none : Option Jvm.ClassFile.FieldType)).before args0 about1 = true := code_word (m := ⟨7, 1⟩) (meth := k7m1) (c := k7c1) (by decide +kernel) rfl rfl rfl (by decide +kernel)
set_option maxRecDepth 65536 in
theorem w_c2 : (Jvm.Cond.code ({ cls := "java/lang/String", name := "<init>", desc := "([CIILjava/lang/Void;)V" } : Jvm.MethodName) jdk_42_method_149_code (6 : Nat) (Option.none : Option Jvm.ClassFile.FieldType)).before args0 about1 = true := code_word (m := ⟨7, 3⟩) (meth := k7m3) (c := k7c3) (by decide +kernel) rfl rfl rfl (by decide +kernel)
set_option maxRecDepth 65536 in
theorem w_c3 : (Jvm.Cond.code ({ cls := "java/lang/Object", name := "<init>", desc := "()V" } : Jvm.MethodName) object_method_1_code (1 : Nat) (Option.none : Option Jvm.ClassFile.FieldType)).before args0 about1 = true := code_word (m := ⟨0, 0⟩) (meth := k0m0) (c := k0c0) (by decide +kernel) rfl rfl rfl (by decide +kernel)
set_option maxRecDepth 65536 in
theorem w_c4 : (Jvm.Cond.code ({ cls := "java/lang/StringUTF16", name := "compress", desc := "([CII)[B" } : Jvm.MethodName) jdk_52_method_16_code (6 : Nat) (Option.some (Jvm.ClassFile.FieldType.array Jvm.ClassFile.FieldType.byte))).before args0 about1 = true := code_word (m := ⟨8, 2⟩) (meth := k8m2) (c := k8c2) (by decide +kernel) rfl rfl rfl (by decide +kernel)
set_option maxRecDepth 65536 in
theorem w_c5 : (Jvm.Cond.code ({ cls := "java/lang/StringUTF16", name := "compress", desc := "([CI[BII)I" } : Jvm.MethodName) jdk_52_method_21_code (7 : Nat) (Option.some Jvm.ClassFile.FieldType.int)).before args0 about1 = true := code_word (m := ⟨8, 3⟩) (meth := k8m3) (c := k8c3) (by decide +kernel) rfl rfl rfl (by decide +kernel)
set_option maxRecDepth 65536 in
theorem w_c6 : (Jvm.Cond.code ({ cls := "java/lang/StringUTF16", name := "coderFromArrayLen", desc := "([BI)B" } : Jvm.MethodName) jdk_52_method_15_code (2 : Nat) (Option.some Jvm.ClassFile.FieldType.byte)).before args0 about1 = true := code_word (m := ⟨8, 1⟩) (meth := k8m1) (c := k8c1) (by decide +kernel) rfl rfl rfl (by decide +kernel)
set_option maxRecDepth 65536 in
theorem w_c7 : (Jvm.Cond.code ({ cls := "com/example/ragione/ragione/policy/Effect", name := "fromXacml", desc := "(Ljava/lang/String;)Lcom/example/ragione/ragione/policy/Effect;" } : Jvm.MethodName) prog_8_method_4_code (5 : Nat) (Option.some (Jvm.ClassFile.FieldType.object "com/example/ragione/ragione/policy/Effect"))).before args0 about1 = true := code_word (m := ⟨10, 1⟩) (meth := k10m1) (c := k10c1) (by decide +kernel) rfl rfl rfl (by decide +kernel)
set_option maxRecDepth 65536 in
theorem w_c8 : (Jvm.Cond.code ({ cls := "com/example/ragione/ragione/policy/Effect", name := "values", desc := "()[Lcom/example/ragione/ragione/policy/Effect;" } : Jvm.MethodName) prog_8_method_1_code (0 : Nat) (Option.some (Jvm.ClassFile.FieldType.array (Jvm.ClassFile.FieldType.object "com/example/ragione/ragione/policy/Effect")))).before args0 about1 = true := code_word (m := ⟨10, 0⟩) (meth := k10m0) (c := k10c0) (by decide +kernel) rfl rfl rfl (by decide +kernel)
set_option maxRecDepth 65536 in
theorem w_c9 : (Jvm.Cond.code ({ cls := "java/lang/String", name := "equals", desc := "(Ljava/lang/Object;)Z" } : Jvm.MethodName) jdk_42_method_66_code (3 : Nat) (Option.some Jvm.ClassFile.FieldType.boolean)).before args0 about1 = true := code_word (m := ⟨7, 2⟩) (meth := k7m2) (c := k7c2) (by decide +kernel) rfl rfl rfl (by decide +kernel)
set_option maxRecDepth 65536 in
theorem w_c10 : (Jvm.Cond.code ({ cls := "java/lang/StringLatin1", name := "equals", desc := "([B[B)Z" } : Jvm.MethodName) jdk_43_method_13_code (3 : Nat) (Option.some Jvm.ClassFile.FieldType.boolean)).before args0 about1 = true := code_word (m := ⟨12, 1⟩) (meth := k12m1) (c := k12c1) (by decide +kernel) rfl rfl rfl (by decide +kernel)
def codes1 : List Jvm.Cond := [Jvm.Cond.code x code maxLocals ret, Jvm.Cond.code ({ cls := "java/lang/String", name := "<init>", desc := "([C)V" } : Jvm.MethodName) jdk_42_method_3_code (2 : Nat) (Option.none : Option Jvm.ClassFile.FieldType), Jvm.Cond.code ({ cls := "java/lang/String", name := "<init>", desc := "([CIILjava/lang/Void;)V" } : Jvm.MethodName) jdk_42_method_149_code (6 : Nat) (Option.none : Option Jvm.ClassFile.FieldType), Jvm.Cond.code ({ cls := "java/lang/Object", name := "<init>", desc := "()V" } : Jvm.MethodName) object_method_1_code (1 : Nat) (Option.none : Option Jvm.ClassFile.FieldType), Jvm.Cond.code ({ cls := "java/lang/StringUTF16", name := "compress", desc := "([CII)[B" } : Jvm.MethodName) jdk_52_method_16_code (6 : Nat) (Option.some (Jvm.ClassFile.FieldType.array Jvm.ClassFile.FieldType.byte)), Jvm.Cond.code ({ cls := "java/lang/StringUTF16", name := "compress", desc := "([CI[BII)I" } : Jvm.MethodName) jdk_52_method_21_code (7 : Nat) (Option.some Jvm.ClassFile.FieldType.int), Jvm.Cond.code ({ cls := "java/lang/StringUTF16", name := "coderFromArrayLen", desc := "([BI)B" } : Jvm.MethodName) jdk_52_method_15_code (2 : Nat) (Option.some Jvm.ClassFile.FieldType.byte), Jvm.Cond.code ({ cls := "com/example/ragione/ragione/policy/Effect", name := "fromXacml", desc := "(Ljava/lang/String;)Lcom/example/ragione/ragione/policy/Effect;" } : Jvm.MethodName) prog_8_method_4_code (5 : Nat) (Option.some (Jvm.ClassFile.FieldType.object "com/example/ragione/ragione/policy/Effect")), Jvm.Cond.code ({ cls := "com/example/ragione/ragione/policy/Effect", name := "values", desc := "()[Lcom/example/ragione/ragione/policy/Effect;" } : Jvm.MethodName) prog_8_method_1_code (0 : Nat) (Option.some (Jvm.ClassFile.FieldType.array (Jvm.ClassFile.FieldType.object "com/example/ragione/ragione/policy/Effect"))), Jvm.Cond.code ({ cls := "java/lang/String", name := "equals", desc := "(Ljava/lang/Object;)Z" } : Jvm.MethodName) jdk_42_method_66_code (3 : Nat) (Option.some Jvm.ClassFile.FieldType.boolean), Jvm.Cond.code ({ cls := "java/lang/StringLatin1", name := "equals", desc := "([B[B)Z" } : Jvm.MethodName) jdk_43_method_13_code (3 : Nat) (Option.some Jvm.ClassFile.FieldType.boolean)]
set_option maxRecDepth 65536 in
theorem codes_eq : words1.filter isCode = codes1 := rfl
theorem w_codes : ∀ c ∈ words1.filter isCode, c.before args0 about1 = true := by
  rw [codes_eq]
  intro c hc
  simp only [codes1, List.mem_cons, List.not_mem_nil, or_false] at hc
  rcases hc with rfl | rfl | rfl | rfl | rfl | rfl | rfl | rfl | rfl | rfl | rfl
  · exact w_c0
  · exact w_c1
  · exact w_c2
  · exact w_c3
  · exact w_c4
  · exact w_c5
  · exact w_c6
  · exact w_c7
  · exact w_c8
  · exact w_c9
  · exact w_c10
set_option maxRecDepth 65536 in
theorem w_t1 : (words1.take 24).all (fun c => isCode c || c.before args0 about1) = true := by decide +kernel
set_option maxRecDepth 65536 in
theorem w_t2 : ((words1.drop 24).take 24).all (fun c => isCode c || c.before args0 about1) = true := by decide +kernel
set_option maxRecDepth 65536 in
theorem w_t3 : ((words1.drop 24).drop 24).all (fun c => isCode c || c.before args0 about1) = true := by decide +kernel
theorem w_tables : (allAtoms (Jvm.Cond.code x code maxLocals ret :: tables_1)).before args0 about1 = true := by
  rw [allAtoms_all]
  show words1.all (fun c => c.before args0 about1) = true
  refine all_split ?_ w_codes
  rw [← List.take_append_drop 24 words1, List.all_append, w_t1, ← List.take_append_drop 24 (words1.drop 24), List.all_append, w_t2, w_t3]
  rfl
set_option maxRecDepth 65536 in
theorem w_rest : rest_1_c.before args0 about1 = true := by decide +kernel
set_option maxRecDepth 65536 in
theorem w_case : (Jvm.Cond.and given_1 narrow_1).before args0 about1 = true := by decide +kernel
theorem w_applies : (headSpec (Jvm.Cond.code x code maxLocals ret :: tables_1) room_1).applies x e0.platform about1 = true :=
  (Spec.applies_iff w_frames).mpr ⟨w_running, w_runnable, w_alone, w_named, w_hears, w_ripe, w_room, w_tables⟩
theorem atStart : AtStart classFile x code maxLocals ret World_1 tables_1 room_1 Calls_1 rest_1 Pre_1 launch0 p0 e0 about1 theMethod args0 below0 :=
  ⟨lists_1, trivial, launch0.admits_env _ _ _, launch0.least_env, fairChoices_fair.cas, fairChoices_fair.clock, w_frames, w_args, w_heap, w_applies, trivial, w_rest, w_case⟩
end start1
theorem witness_1 : WitnessClaimed_1 := ⟨start1.p0, start1.e0, start1.about1, start1.theMethod, start1.args0, start1.below0, start1.atStart⟩
end Jvm.Pilot.@@N@@
