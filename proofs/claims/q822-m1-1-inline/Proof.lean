import JvmDerived
import JvmDerived.Pilot.@@N@@Statement
import JvmDerived.Pilot.@@N@@Code
set_option linter.unusedVariables false
set_option linter.unusedSimpArgs false
/- laws to paste: Road.backV, Road.eqW, Road.codOf (cut by pick.py; bodies as the Statement names them) -/
namespace Jvm.Pilot.@@N@@
namespace StrChars
open Jvm Sem ClassFile Op Lib Jvm.Stand Jvm.Free.XT Jvm.Free.ALB Jvm.Free.JM Jvm.Free
open Jvm.Lib.Cold (StaticIs)
/-- a char array whose places are chars -/
def Ch (a : Addr) (A : Cell) (U : State) : Prop := Arr .char a A U ∧ Typed .char A
theorem Ch.mv {a : Addr} {A : Cell} {U U' : State} (h : Ch a A U) (hal : U.vm.Alike U'.vm) (hh : U'.heap = U.heap) : Ch a A U' := ⟨h.1.mv hal hh, h.2⟩
theorem Ch.keep {a : Addr} {A : Cell} {U U' : State} (h : Ch a A U) (hal : U.vm.Alike U'.vm) (hk : U'.heap[a]? = some A) : Ch a A U' := ⟨h.1.keep hal hk, h.2⟩
/-- what place i of a char[]'s cell holds -/
def cv (A : Cell) (i : Nat) : Int32 := match A.slots[i]? with | some (.int x) => x | _ => 0
theorem Ch.get {a : Addr} {A : Cell} {U : State} (h : Ch a A U) {i : Nat} (hi : i < A.slots.size) : A.slots[i]? = some (.int (cv A i)) := by
  have e := Array.getElem?_eq_getElem hi
  have f := h.2 i _ e
  unfold cv; rw [e]
  generalize A.slots[i] = v at f
  cases v <;> simp [fits] at f ⊢
/-- the byte that i2b leaves of a char -/
def lo8 (x : Int32) : Int32 := x.toInt8.toInt32
theorem fits_lo8 (y : Int32) : fits .byte (.int (lo8 y)) = true := by
  have h1 := y.toInt8.le_toInt
  have h2 := y.toInt8.toInt_lt
  simp only [lo8, fits, Bool.and_eq_true, decide_eq_true_eq, Int32.le_iff_toInt_le, Int8.toInt_toInt32, show (-128 : Int32).toInt = -128 from by decide, show (127 : Int32).toInt = 127 from by decide]
  omega
/-- A' is A but that each place j of lo .. hi - 1 holds f j -/
def Laid (A A' : Cell) (lo hi : Nat) (f : Nat → Value) : Prop := A'.cls = A.cls ∧ A'.vm = A.vm ∧ A'.slots.size = A.slots.size ∧ ∀ i, A'.slots[i]? = if lo ≤ i ∧ i < hi then some (f i) else A.slots[i]?
theorem Laid.zero (A : Cell) (lo : Nat) (f : Nat → Value) : Laid A A lo (lo + 0) f := ⟨rfl, rfl, rfl, fun i => by rw [if_neg (by omega)]⟩
theorem Laid.step {A Ak : Cell} {lo k : Nat} {f : Nat → Value} {v : Value} (h : Laid A Ak lo k f) (hlo : lo ≤ k) (hk : k < Ak.slots.size) (hv : v = f k) : Laid A (Ak.setSlot k v) lo (k + 1) f := by
  refine ⟨h.1, h.2.1, by simpa [Cell.setSlot] using h.2.2.1, fun i => ?_⟩
  by_cases e : k = i
  · subst e; rw [Cell.slots_setSlot_self v hk, if_pos (by omega), hv]
  · rw [Cell.slots_setSlot_ne v e, h.2.2.2 i]
    by_cases q : lo ≤ i ∧ i < k
    · rw [if_pos q, if_pos (by omega)]
    · rw [if_neg q, if_neg (by omega)]
def U16 : String := "java/lang/StringUTF16"
namespace Cmp5
def yN : MethodName := ⟨"java/lang/StringUTF16", "compress", "([CI[BII)I"⟩
abbrev yB : ByteArray := jdk_52_method_21_code
theorem d0 : decode yB 0 = .ok (.iconst 0, 1) := by decide +kernel
theorem d1 : decode yB 1 = .ok (.istore 5, 2) := by decide +kernel
theorem d3 : decode yB 3 = .ok (.iload 5, 2) := by decide +kernel
theorem d5 : decode yB 5 = .ok (.iload 4, 2) := by decide +kernel
theorem d7 : decode yB 7 = .ok (.if_icmp (.ge) 37, 3) := by decide +kernel
theorem d10 : decode yB 10 = .ok (.aload_n 0, 1) := by decide +kernel
theorem d11 : decode yB 11 = .ok (.iload_n 1, 1) := by decide +kernel
theorem d12 : decode yB 12 = .ok (.caload, 1) := by decide +kernel
theorem d13 : decode yB 13 = .ok (.istore 6, 2) := by decide +kernel
theorem d15 : decode yB 15 = .ok (.iload 6, 2) := by decide +kernel
theorem d17 : decode yB 17 = .ok (.sipush 255, 3) := by decide +kernel
theorem d20 : decode yB 20 = .ok (.if_icmp (.le) 6, 3) := by decide +kernel
theorem d26 : decode yB 26 = .ok (.aload_n 2, 1) := by decide +kernel
theorem d27 : decode yB 27 = .ok (.iload_n 3, 1) := by decide +kernel
theorem d28 : decode yB 28 = .ok (.iload 6, 2) := by decide +kernel
theorem d30 : decode yB 30 = .ok (.i2b, 1) := by decide +kernel
theorem d31 : decode yB 31 = .ok (.bastore, 1) := by decide +kernel
theorem d32 : decode yB 32 = .ok (.iinc 1 1, 3) := by decide +kernel
theorem d35 : decode yB 35 = .ok (.iinc 3 1, 3) := by decide +kernel
theorem d38 : decode yB 38 = .ok (.iinc 5 1, 3) := by decide +kernel
theorem d41 : decode yB 41 = .ok (.goto (-38), 3) := by decide +kernel
theorem d44 : decode yB 44 = .ok (.iload 4, 2) := by decide +kernel
theorem d46 : decode yB 46 = .ok (.ireturn, 1) := by decide +kernel
def site : List Cond := []
def tab : Cond := tabOf yN yB 7 (some .int) site
def P (b : Addr) (A : Cell) (d : Addr) (B : Cell) (o q len : Nat) (args : Array Value) (s : State) : Prop := args = #[.ref b, .int (Int32.ofNat o), .ref d, .int (Int32.ofNat q), .int (Int32.ofNat len)] ∧ Ch b A s ∧ Arr .byte d B s ∧ b ≠ d ∧ o + len ≤ A.slots.size ∧ q + len ≤ B.slots.size ∧ ∀ i, i < len → ¬ 255 < cv A (o + i)
def E (b : Addr) (A : Cell) (d : Addr) (B : Cell) (o q len : Nat) (r : Option Value) (s u : State) : Prop := r = some (.int (Int32.ofNat len)) ∧ ∃ B', Put d B' s u ∧ Laid B B' q (q + len) (fun j => Value.int (lo8 (cv A (o + (j - q)))))
/-- no char of the range above 255: len; the places written hold each char's low byte -/
theorem law (l : Launch) (b : Addr) (A : Cell) (d : Addr) (B : Cell) (o q len : Nat) : Law l yN 5 5 0 0 yB 7 (some .int) site (P b A d B o q len) (E b A d B o q len) (copyLocs d q len) 0 0 := by
  refine Law.of_walk (plainFor_of_name (by decide +kernel)) (by decide +kernel) (by decide +kernel) (by decide) (fun _ _ h => by rw [h.1]; rfl) (fun _ U U' hal hh h => ⟨h.1, h.2.1.mv hal hh, h.2.2.1.mv hal hh, h.2.2.2⟩) (fun r U U' V V' h1 hal h2 h => ⟨h.1, h.2.elim fun B' q => ⟨B', q.1.mv h1 h2, q.2⟩⟩) ?_
  intro p e s m args below meth c s₁ X0 hexec hbytes hml hret hlk hnm hown hh0 W hP
  obtain ⟨rfl, hA, hB, hne, l1, l2, hp⟩ := hP
  have c1 : Steps p.tables e below (s₁.setTop (entryFrame m #[.ref b, .int (Int32.ofNat o), .ref d, .int (Int32.ofNat q), .int (Int32.ofNat len)] 7)) (s₁.setTop (mkF m 0 #[.val (.ref b), .val (.int (Int32.ofNat o)), .val (.ref d), .val (.int (Int32.ofNat q)), .val (.int (Int32.ofNat len)), .unset, .unset] [])) := entry rfl
  have hA0 := hA.1.mv X0.warmed.alike hh0
  have hB0 := hB.mv X0.warmed.alike hh0
  have a31 := hA.1.2.2.2
  have c2 : Steps p.tables e below (s₁.setTop (entryFrame m #[.ref b, .int (Int32.ofNat o), .ref d, .int (Int32.ofNat q), .int (Int32.ofNat len)] 7)) (s₁.setTop (mkF m 3 #[.val (.ref b), .val (.int (Int32.ofNat o)), .val (.ref d), .val (.int (Int32.ofNat q)), .val (.int (Int32.ofNat len)), .val (.int 0), .unset] [])) := c1.trans (by
    refine iconstV X0.here hexec rfl 0 (hb hbytes d0) (by decide) ?_
    refine XS.istore X0.here hexec rfl (hb hbytes d1) rfl rfl ?_
    exact Steps.refl _)
  have loop : ∀ (r i : Nat), i + r = len → ∀ (z : Slot), (z = .unset ∨ ∃ w, z = .val w ∧ w.category = 1) → ∀ (Tl : State) (Bk : Cell), Stand p l e { frames := 0, locals := 0, cells := 0, slots := 0 } s m #[.ref b, .int (Int32.ofNat o), .ref d, .int (Int32.ofNat q), .int (Int32.ofNat len)] below meth c Tl ([] ++ copyLocs d q i) 0 0 → Put d Bk s₁ Tl → Laid B Bk q (q + i) (fun j => Value.int (lo8 (cv A (o + (j - q))))) →
      Steps p.tables e below (s₁.setTop (entryFrame m #[.ref b, .int (Int32.ofNat o), .ref d, .int (Int32.ofNat q), .int (Int32.ofNat len)] 7)) (Tl.setTop (mkF m 3 #[.val (.ref b), .val (.int (Int32.ofNat (o + i))), .val (.ref d), .val (.int (Int32.ofNat (q + i))), .val (.int (Int32.ofNat len)), .val (.int (Int32.ofNat i)), z] [])) → ∃ (T' : State) (B' : Cell) (z' : Slot), Stand p l e { frames := 0, locals := 0, cells := 0, slots := 0 } s m #[.ref b, .int (Int32.ofNat o), .ref d, .int (Int32.ofNat q), .int (Int32.ofNat len)] below meth c T' ([] ++ copyLocs d q len) 0 0 ∧ Put d B' s₁ T' ∧ Laid B B' q (q + len) (fun j => Value.int (lo8 (cv A (o + (j - q))))) ∧
      Steps p.tables e below (s₁.setTop (entryFrame m #[.ref b, .int (Int32.ofNat o), .ref d, .int (Int32.ofNat q), .int (Int32.ofNat len)] 7)) (T'.setTop (mkF m 3 #[.val (.ref b), .val (.int (Int32.ofNat (o + len))), .val (.ref d), .val (.int (Int32.ofNat (q + len))), .val (.int (Int32.ofNat len)), .val (.int (Int32.ofNat len)), z'] [])) := by
    intro r
    induction r with
    | zero =>
      intro i hi z hz Tl Bk Xl pl fl cl
      have hil : i = len := by omega
      rw [hil] at Xl fl cl
      exact ⟨Tl, Bk, z, Xl, pl, fl, cl⟩
    | succ r ih =>
      intro i hi z hz Tl Bk Xl pl fl cl
      have all := X0.warmed.alike.symm.trans Xl.warmed.alike
      have hAl := hA0.keep all (pl.other hne hA0.1)
      have hBk := hB0.like all pl.1 fl.1 fl.2.1 fl.2.2.1
      have hlt : q + i < Bk.slots.size := by rw [fl.2.2.1]; omega
      have c3 : Steps p.tables e below (s₁.setTop (entryFrame m #[.ref b, .int (Int32.ofNat o), .ref d, .int (Int32.ofNat q), .int (Int32.ofNat len)] 7)) (Tl.setTop (mkF m 12 #[.val (.ref b), .val (.int (Int32.ofNat (o + i))), .val (.ref d), .val (.int (Int32.ofNat (q + i))), .val (.int (Int32.ofNat len)), .val (.int (Int32.ofNat i)), z] [.int (Int32.ofNat (o + i)), .ref b])) := cl.trans (by
        refine XS.iload Xl.here hexec rfl (hb hbytes d3) rfl ?_
        refine XS.iload Xl.here hexec rfl (hb hbytes d5) rfl ?_
        refine XS.icmpNo Xl.here hexec rfl (hb hbytes d7) rfl (ii_ge_f (lt32 (by omega) (by omega))) ?_
        refine XS.aloadN Xl.here hexec rfl (hb hbytes d10) rfl rfl ?_
        refine XS.iloadN Xl.here hexec rfl (hb hbytes d11) rfl ?_
        exact Steps.refl _)
      have c4 : Steps p.tables e below (s₁.setTop (entryFrame m #[.ref b, .int (Int32.ofNat o), .ref d, .int (Int32.ofNat q), .int (Int32.ofNat len)] 7)) (Tl.setTop (mkF m 13 #[.val (.ref b), .val (.int (Int32.ofNat (o + i))), .val (.ref d), .val (.int (Int32.ofNat (q + i))), .val (.int (Int32.ofNat len)), .val (.int (Int32.ofNat i)), z] [.int (cv A (o + i))])) := c3.trans (by
        refine Xl.aget hexec hAl rfl (hA.get (i := o + i) (by omega)) rfl rfl (hb hbytes d12) ?_
        exact Steps.refl _)
      have c5 : Steps p.tables e below (s₁.setTop (entryFrame m #[.ref b, .int (Int32.ofNat o), .ref d, .int (Int32.ofNat q), .int (Int32.ofNat len)] 7)) (Tl.setTop (mkF m 15 #[.val (.ref b), .val (.int (Int32.ofNat (o + i))), .val (.ref d), .val (.int (Int32.ofNat (q + i))), .val (.int (Int32.ofNat len)), .val (.int (Int32.ofNat i)), .val (.int (cv A (o + i)))] [])) := c4.trans (by
        refine XS.istoreS Xl.here hexec rfl (hb hbytes d13) rfl rfl hz ?_
        exact Steps.refl _)
      have c6 : Steps p.tables e below (s₁.setTop (entryFrame m #[.ref b, .int (Int32.ofNat o), .ref d, .int (Int32.ofNat q), .int (Int32.ofNat len)] 7)) (Tl.setTop (mkF m 31 #[.val (.ref b), .val (.int (Int32.ofNat (o + i))), .val (.ref d), .val (.int (Int32.ofNat (q + i))), .val (.int (Int32.ofNat len)), .val (.int (Int32.ofNat i)), .val (.int (cv A (o + i)))] [.int (lo8 (cv A (o + i))), .int (Int32.ofNat (q + i)), .ref d])) := c5.trans (by
        refine XS.iload Xl.here hexec rfl (hb hbytes d15) rfl ?_
        refine sipushV Xl.here hexec rfl 255 (hb hbytes d17) (by decide) ?_
        refine XS.icmpYes Xl.here hexec rfl (pc0 := 20) rfl (hb hbytes d20) rfl (ii_le_t (hp i (by omega))) (by decide) rfl ?_
        refine XS.aloadN Xl.here hexec rfl (hb hbytes d26) rfl rfl ?_
        refine XS.iloadN Xl.here hexec rfl (hb hbytes d27) rfl ?_
        refine XS.iload Xl.here hexec rfl (hb hbytes d28) rfl ?_
        refine i2b Xl.here hexec rfl (hb hbytes d30) rfl ?_
        exact Steps.refl _)
      obtain ⟨T7, X7, p7, st7⟩ := Xl.aput hexec hBk rfl hlt rfl (fits_lo8 (cv A (o + i))) (g := (mkF m 31 #[.val (.ref b), .val (.int (Int32.ofNat (o + i))), .val (.ref d), .val (.int (Int32.ofNat (q + i))), .val (.int (Int32.ofNat len)), .val (.int (Int32.ofNat i)), .val (.int (cv A (o + i)))] [.int (lo8 (cv A (o + i))), .int (Int32.ofNat (q + i)), .ref d])) rfl (rest := []) rfl (hb hbytes d31)
      have c8 : Steps p.tables e below (s₁.setTop (entryFrame m #[.ref b, .int (Int32.ofNat o), .ref d, .int (Int32.ofNat q), .int (Int32.ofNat len)] 7)) (T7.setTop (mkF m 32 #[.val (.ref b), .val (.int (Int32.ofNat (o + i))), .val (.ref d), .val (.int (Int32.ofNat (q + i))), .val (.int (Int32.ofNat len)), .val (.int (Int32.ofNat i)), .val (.int (cv A (o + i)))] [])) := c6.trans (st7 _ (Steps.refl _))
      have c9 : Steps p.tables e below (s₁.setTop (entryFrame m #[.ref b, .int (Int32.ofNat o), .ref d, .int (Int32.ofNat q), .int (Int32.ofNat len)] 7)) (T7.setTop (mkF m 3 #[.val (.ref b), .val (.int (Int32.ofNat (o + i) + 1)), .val (.ref d), .val (.int (Int32.ofNat (q + i) + 1)), .val (.int (Int32.ofNat len)), .val (.int (Int32.ofNat i + 1)), .val (.int (cv A (o + i)))] [])) := c8.trans (by
        refine iincV X7.here hexec rfl 1 (hb hbytes d32) (by decide) rfl rfl ?_
        refine iincV X7.here hexec rfl 1 (hb hbytes d35) (by decide) rfl rfl ?_
        refine iincV X7.here hexec rfl 1 (hb hbytes d38) (by decide) rfl rfl ?_
        refine XS.goto X7.here hexec rfl (pc0 := 41) rfl (hb hbytes d41) (by decide) rfl ?_
        exact Steps.refl _)
      have c10 : Steps p.tables e below (s₁.setTop (entryFrame m #[.ref b, .int (Int32.ofNat o), .ref d, .int (Int32.ofNat q), .int (Int32.ofNat len)] 7)) (T7.setTop (mkF m 3 #[.val (.ref b), .val (.int (Int32.ofNat (o + (i + 1)))), .val (.ref d), .val (.int (Int32.ofNat (q + (i + 1)))), .val (.int (Int32.ofNat len)), .val (.int (Int32.ofNat (i + 1))), .val (.int (cv A (o + i)))] [])) := by
        have := c9
        rw [succ32, succ32, succ32] at this
        exact this
      exact ih (i + 1) (by omega) _ (Or.inr ⟨_, rfl, rfl⟩) T7 _ (by rw [copyLocs_step, ← List.append_assoc]; exact X7) (pl.trans p7) (fl.step (by omega) hlt (by simp)) c10
  obtain ⟨T9, B9, z9, X9, p9, f9, g9⟩ := loop len 0 (by omega) .unset (Or.inl rfl) s₁ B (by simpa [copyLocs] using X0) ⟨hB0.1, fun _ _ => rfl, rfl⟩ (Laid.zero _ _ _) c2
  have c11 : Steps p.tables e below (s₁.setTop (entryFrame m #[.ref b, .int (Int32.ofNat o), .ref d, .int (Int32.ofNat q), .int (Int32.ofNat len)] 7)) (T9.setTop (mkF m 46 #[.val (.ref b), .val (.int (Int32.ofNat (o + len))), .val (.ref d), .val (.int (Int32.ofNat (q + len))), .val (.int (Int32.ofNat len)), .val (.int (Int32.ofNat len)), z9] [.int (Int32.ofNat len)])) := g9.trans (by
    refine XS.iload X9.here hexec rfl (hb hbytes d3) rfl ?_
    refine XS.iload X9.here hexec rfl (hb hbytes d5) rfl ?_
    refine XS.icmpYes X9.here hexec rfl (pc0 := 7) rfl (hb hbytes d7) rfl (ii_ge_t (nlt32 (by omega) (Nat.le_refl _))) (by decide) rfl ?_
    refine XS.iload X9.here hexec rfl (hb hbytes d44) rfl ?_
    exact Steps.refl _)
  exact ⟨T9, some (.int (Int32.ofNat len)), _, _, _, X9, by simp, rfl, rfl, (fun h => by cases h), ⟨rfl, B9, p9.from hh0, f9⟩, fun fs hl => c11.trans (X9.ireturnOut hexec hret rfl (Or.inl rfl) (hb hbytes d46) hl)⟩
end Cmp5
namespace Cmp3
def yN : MethodName := ⟨"java/lang/StringUTF16", "compress", "([CII)[B"⟩
abbrev yB : ByteArray := jdk_52_method_16_code
theorem d0 : decode yB 0 = .ok (.iload_n 2, 1) := by decide +kernel
theorem d1 : decode yB 1 = .ok (.newarray .byte, 2) := by decide +kernel
theorem d3 : decode yB 3 = .ok (.astore_n 3, 1) := by decide +kernel
theorem d4 : decode yB 4 = .ok (.aload_n 0, 1) := by decide +kernel
theorem d5 : decode yB 5 = .ok (.iload_n 1, 1) := by decide +kernel
theorem d6 : decode yB 6 = .ok (.aload_n 3, 1) := by decide +kernel
theorem d7 : decode yB 7 = .ok (.iconst 0, 1) := by decide +kernel
theorem d8 : decode yB 8 = .ok (.iload_n 2, 1) := by decide +kernel
theorem d9 : decode yB 9 = .ok (.invokestatic 115, 3) := by decide +kernel
theorem d12 : decode yB 12 = .ok (.istore 4, 2) := by decide +kernel
theorem d14 : decode yB 14 = .ok (.iload 4, 2) := by decide +kernel
theorem d16 : decode yB 16 = .ok (.iload_n 2, 1) := by decide +kernel
theorem d17 : decode yB 17 = .ok (.if_icmp (.eq) 40, 3) := by decide +kernel
theorem d57 : decode yB 57 = .ok (.aload_n 3, 1) := by decide +kernel
theorem d58 : decode yB 58 = .ok (.areturn, 1) := by decide +kernel
def site : List Cond := [.arrayClass .byte, Cmp5.tab] ++ staticW U16 115 Cmp5.yN
def tab : Cond := tabOf yN yB 6 (some (.array .byte)) site
def P (b : Addr) (A : Cell) (o len : Nat) (args : Array Value) (s : State) : Prop := args = #[.ref b, .int (Int32.ofNat o), .int (Int32.ofNat len)] ∧ Ch b A s ∧ o + len ≤ A.slots.size ∧ len ≤ 536870912 ∧ ∀ i, i < len → ¬ 255 < cv A (o + i)
def E (b : Addr) (A : Cell) (o len : Nat) (r : Option Value) (s u : State) : Prop := NewArr .byte "[B" len (fun j => .int (lo8 (cv A (o + j)))) r s u ∧ u.heap.size = s.heap.size + 1
/-- no char of the range above 255: a new byte[] of their low bytes -/
theorem law (l : Launch) (b : Addr) (A : Cell) (o len : Nat) : Law l yN 3 3 1 18 yB 6 (some (.array .byte)) site (P b A o len) (E b A o len) [] 1 len := by
  refine Law.of_walk (plainFor_of_name (by decide +kernel)) (by decide +kernel) (by decide +kernel) (by decide) (fun _ _ h => by rw [h.1]; rfl) (fun _ U U' hal hh h => ⟨h.1, h.2.1.mv hal hh, h.2.2⟩) (fun r U U' V V' h1 hal h2 h => ⟨NewArr.mv r U U' V V' h1 hal h2 h.1, by rw [h1, h2]; exact h.2⟩) ?_
  intro p e s m args below meth c s₁ X0 hexec hbytes hml hret hlk hnm hown hh0 W hP
  obtain ⟨rfl, hA, l1, l2, hp⟩ := hP
  have a31 := hA.1.2.2.2
  have c1 : Steps p.tables e below (s₁.setTop (entryFrame m #[.ref b, .int (Int32.ofNat o), .int (Int32.ofNat len)] 6)) (s₁.setTop (mkF m 0 #[.val (.ref b), .val (.int (Int32.ofNat o)), .val (.int (Int32.ofNat len)), .unset, .unset, .unset] [])) := entry rfl
  have c2 : Steps p.tables e below (s₁.setTop (entryFrame m #[.ref b, .int (Int32.ofNat o), .int (Int32.ofNat len)] 6)) (s₁.setTop (mkF m 1 #[.val (.ref b), .val (.int (Int32.ofNat o)), .val (.int (Int32.ofNat len)), .unset, .unset, .unset] [.int (Int32.ofNat len)])) := c1.trans (by
    refine XS.iloadN X0.here hexec rfl (hb hbytes d0) rfl ?_
    exact Steps.refl _)
  obtain ⟨T3, B3, X3, ba3, bs3, bv3, bh3, bf3, st3⟩ := X0.anew hexec (atype := .byte) (wk W (.arrayClass .byte)) rfl (by show len * 1 ≤ _; omega) (by omega) (g := (mkF m 1 #[.val (.ref b), .val (.int (Int32.ofNat o)), .val (.int (Int32.ofNat len)), .unset, .unset, .unset] [.int (Int32.ofNat len)])) rfl (hb hbytes d1) (rest := []) rfl (Nat.le_refl _) (by show 0 + len ≤ len; omega)
  rw [hh0] at ba3 st3
  have kp3 : XT.Kept s T3 := (XT.Kept.of_eq hh0).push bh3
  have hA3 := hA.keep X3.warmed.alike (kp3 _ _ hA.1.1)
  have hne : b ≠ s.heap.size := hA.1.ne
  have c4 : Steps p.tables e below (s₁.setTop (entryFrame m #[.ref b, .int (Int32.ofNat o), .int (Int32.ofNat len)] 6)) (T3.setTop (mkF m 3 #[.val (.ref b), .val (.int (Int32.ofNat o)), .val (.int (Int32.ofNat len)), .unset, .unset, .unset] [.ref s.heap.size])) := c2.trans (st3 _ (Steps.refl _))
  have c5 : Steps p.tables e below (s₁.setTop (entryFrame m #[.ref b, .int (Int32.ofNat o), .int (Int32.ofNat len)] 6)) (T3.setTop (mkF m 9 #[.val (.ref b), .val (.int (Int32.ofNat o)), .val (.int (Int32.ofNat len)), .val (.ref s.heap.size), .unset, .unset] [.int (Int32.ofNat len), .int 0, .ref s.heap.size, .int (Int32.ofNat o), .ref b])) := c4.trans (by
    refine XS.astoreN X3.here hexec rfl (hb hbytes d3) rfl rfl rfl ?_
    refine XS.aloadN X3.here hexec rfl (hb hbytes d4) rfl rfl ?_
    refine XS.iloadN X3.here hexec rfl (hb hbytes d5) rfl ?_
    refine XS.aloadN X3.here hexec rfl (hb hbytes d6) rfl rfl ?_
    refine iconstV X3.here hexec rfl 0 (hb hbytes d7) (by decide) ?_
    refine XS.iloadN X3.here hexec rfl (hb hbytes d8) rfl ?_
    exact Steps.refl _)
  obtain ⟨v6, T6, X6, E6, g6⟩ := X3.callS hexec (Cmp5.law l b A s.heap.size B3 o 0 len) hown (wks W (staticW U16 115 Cmp5.yN)) (wk W Cmp5.tab) (W := 0) (Nat.le_of_ble_eq_true rfl) (Nat.le_of_ble_eq_true rfl) (Nat.le_refl _) (by show 0 + len + 0 ≤ len; omega) (g := (mkF m 9 #[.val (.ref b), .val (.int (Int32.ofNat o)), .val (.int (Int32.ofNat len)), .val (.ref s.heap.size), .unset, .unset] [.int (Int32.ofNat len), .int (Int32.ofNat 0), .ref s.heap.size, .int (Int32.ofNat o), .ref b])) rfl (by rw [hml]; rfl) c5 (argsL := [.ref b, .int (Int32.ofNat o), .ref s.heap.size, .int (Int32.ofNat 0), .int (Int32.ofNat len)]) (rest := []) rfl rfl (by show 2 * 0 + 0 ≤ _; decide) (hb hbytes d9) (⟨rfl, hA3, ba3, hne, l1, by rw [bs3]; simp, hp⟩)
  obtain ⟨rfl, B6, p6, f6⟩ := E6
  have c7 : Steps p.tables e below (s₁.setTop (entryFrame m #[.ref b, .int (Int32.ofNat o), .int (Int32.ofNat len)] 6)) (T6.setTop (mkF m 12 #[.val (.ref b), .val (.int (Int32.ofNat o)), .val (.int (Int32.ofNat len)), .val (.ref s.heap.size), .unset, .unset] [.int (Int32.ofNat len)])) := g6
  have c8 : Steps p.tables e below (s₁.setTop (entryFrame m #[.ref b, .int (Int32.ofNat o), .int (Int32.ofNat len)] 6)) (T6.setTop (mkF m 58 #[.val (.ref b), .val (.int (Int32.ofNat o)), .val (.int (Int32.ofNat len)), .val (.ref s.heap.size), .val (.int (Int32.ofNat len)), .unset] [.ref s.heap.size])) := c7.trans (by
    refine XS.istore X6.here hexec rfl (hb hbytes d12) rfl rfl ?_
    refine XS.iload X6.here hexec rfl (hb hbytes d14) rfl ?_
    refine XS.iloadN X6.here hexec rfl (hb hbytes d16) rfl ?_
    refine XS.icmpYes X6.here hexec rfl (pc0 := 17) rfl (hb hbytes d17) rfl (ii_eq_t rfl) (by decide) rfl ?_
    refine XS.aloadN X6.here hexec rfl (hb hbytes d57) rfl rfl ?_
    exact Steps.refl _)
  have X8 := X6.wide (L' := []) (cells' := 1) (slots' := len) (fun x hx hlt => by
    simp only [List.nil_append, copyLocs, List.mem_map, List.mem_range] at hx
    obtain ⟨i, -, rfl⟩ := hx
    exact absurd hlt (Nat.lt_irrefl _)) (Nat.le_refl _) (by omega)
  exact ⟨T6, some (.ref s.heap.size), _, _, _, X8, rfl, rfl, rfl, (fun h => by cases h), ⟨⟨rfl, B6, ba3.like (X3.warmed.alike.symm.trans X6.warmed.alike) p6.1 f6.1 f6.2.1 f6.2.2.1, f6.2.1.trans bv3, by rw [X6.warmed.alike.findClass, f6.1]; exact bf3, by rw [f6.2.2.1, bs3]; simp, fun j hj => by rw [f6.2.2.2 j, if_pos (by omega)]; rfl, kp3.put p6 (Nat.le_refl _)⟩, by rw [p6.2.2, bh3, hh0]; simp⟩, fun fs hl => c8.trans (X8.areturnOut hexec rfl hret rfl (hb hbytes d58) hl)⟩
end Cmp3
namespace CodL
def yN : MethodName := ⟨"java/lang/StringUTF16", "coderFromArrayLen", "([BI)B"⟩
abbrev yB : ByteArray := jdk_52_method_15_code
theorem d0 : decode yB 0 = .ok (.iload_n 1, 1) := by decide +kernel
theorem d1 : decode yB 1 = .ok (.aload_n 0, 1) := by decide +kernel
theorem d2 : decode yB 2 = .ok (.arraylength, 1) := by decide +kernel
theorem d3 : decode yB 3 = .ok (.isub, 1) := by decide +kernel
theorem d4 : decode yB 4 = .ok (.bipush 31, 2) := by decide +kernel
theorem d6 : decode yB 6 = .ok (.iushr, 1) := by decide +kernel
theorem d7 : decode yB 7 = .ok (.i2b, 1) := by decide +kernel
theorem d8 : decode yB 8 = .ok (.ireturn, 1) := by decide +kernel
def site : List Cond := []
def tab : Cond := tabOf yN yB 2 (some .byte) site
def P (d : Addr) (B : Cell) (args : Array Value) (s : State) : Prop := args = #[.ref d, .int (Int32.ofNat B.slots.size)] ∧ Arr .byte d B s
def E (r : Option Value) (s u : State) : Prop := XT.PureE (some (.int 0)) r s u
/-- an array as long as the number of chars: LATIN1 -/
theorem law (l : Launch) (d : Addr) (B : Cell) : Law l yN 2 2 0 0 yB 2 (some .byte) site (P d B) E [] 0 0 := by
  refine Law.of_walk (plainFor_of_name (by decide +kernel)) (by decide +kernel) (by decide +kernel) (by decide) (fun _ _ h => by rw [h.1]; rfl) (fun _ U U' hal hh h => ⟨h.1, h.2.mv hal hh⟩) (fun r U U' V V' h1 hal h2 h => XT.PureE.mv r U U' V V' h1 hal h2 h) ?_
  intro p e s m args below meth c s₁ X0 hexec hbytes hml hret hlk hnm hown hh0 W hP
  obtain ⟨rfl, hB⟩ := hP
  have hB0 := hB.mv X0.warmed.alike hh0
  have c1 : Steps p.tables e below (s₁.setTop (entryFrame m #[.ref d, .int (Int32.ofNat B.slots.size)] 2)) (s₁.setTop (mkF m 0 #[.val (.ref d), .val (.int (Int32.ofNat B.slots.size))] [])) := entry rfl
  have c2 : Steps p.tables e below (s₁.setTop (entryFrame m #[.ref d, .int (Int32.ofNat B.slots.size)] 2)) (s₁.setTop (mkF m 2 #[.val (.ref d), .val (.int (Int32.ofNat B.slots.size))] [.ref d, .int (Int32.ofNat B.slots.size)])) := c1.trans (by
    refine XS.iloadN X0.here hexec rfl (hb hbytes d0) rfl ?_
    refine XS.aloadN X0.here hexec rfl (hb hbytes d1) rfl rfl ?_
    exact Steps.refl _)
  have c3 : Steps p.tables e below (s₁.setTop (entryFrame m #[.ref d, .int (Int32.ofNat B.slots.size)] 2)) (s₁.setTop (mkF m 8 #[.val (.ref d), .val (.int (Int32.ofNat B.slots.size))] [.int (lo8 (ushr (Int32.ofNat B.slots.size - Int32.ofNat B.slots.size) 31))])) := c2.trans (by
    refine X0.alen hexec hB0 rfl rfl (hb hbytes d2) ?_
    refine XS.isub X0.here hexec rfl (hb hbytes d3) rfl ?_
    refine bipushV X0.here hexec rfl 31 (hb hbytes d4) (by decide) ?_
    refine iushr X0.here hexec rfl (hb hbytes d6) rfl ?_
    refine i2b X0.here hexec rfl (hb hbytes d7) rfl ?_
    exact Steps.refl _)
  have e0 : lo8 (ushr (Int32.ofNat B.slots.size - Int32.ofNat B.slots.size) 31) = 0 := by rw [Int32.sub_self]; decide
  rw [e0] at c3
  exact ⟨s₁, some (.int 0), _, _, _, X0, rfl, rfl, rfl, (fun h => by cases h), ⟨rfl, hh0⟩, fun fs hl => c3.trans (X0.ireturnOut hexec hret rfl (Or.inr (Or.inr (Or.inl rfl))) (hb hbytes d8) hl)⟩
end CodL
/-- the String at a is Latin-1 over a new byte[] (the heap's one new cell): the low bytes of the len chars of A from o on; every cell but a is kept -/
def Got (a : Addr) (D : Cell) (fV fC : Field) (A : Cell) (o len : Nat) (r : Option Value) (s u : State) : Prop := r = none ∧ ∃ D' V : Cell, Blank "java/lang/String" a D' u ∧ Same D D' [fV.slot, fC.slot] ∧ D'.slots[fV.slot]? = some (.ref s.heap.size) ∧ D'.slots[fC.slot]? = some (.int 0) ∧ Arr .byte s.heap.size V u ∧ V.vm = .none ∧ u.vm.findClass "[B" = some V.cls ∧ V.slots.size = len ∧ (∀ j, j < len → V.slots[j]? = some (.int (lo8 (cv A (o + j))))) ∧ (∀ (y : Addr) (c : Cell), y ≠ a → s.heap[y]? = some c → u.heap[y]? = some c) ∧ u.heap.size = s.heap.size + 1
theorem Got.mv {a : Addr} {D A : Cell} {fV fC : Field} {o len : Nat} : ∀ r (U U' V V' : State), U'.heap = U.heap → V.vm.Alike V'.vm → V'.heap = V.heap → Got a D fV fC A o len r U V → Got a D fV fC A o len r U' V' :=
  fun r U U' V V' h1 hal h2 ⟨e0, D', X, a1, a2, a3, a4, a5, a6, a7, a8, a9, a10, a11⟩ => ⟨e0, D', X, a1.mv hal h2, a2, by rw [h1]; exact a3, a4, by rw [h1]; exact a5.mv hal h2, a6, by rw [hal.findClass]; exact a7, a8, a9, by rw [h1, h2]; exact a10, by rw [h1, h2]; exact a11⟩
namespace New4
def yN : MethodName := ⟨"java/lang/String", "<init>", "([CIILjava/lang/Void;)V"⟩
abbrev yB : ByteArray := jdk_42_method_149_code
theorem d0 : decode yB 0 = .ok (.aload_n 0, 1) := by decide +kernel
theorem d1 : decode yB 1 = .ok (.invokespecial 1, 3) := by decide +kernel
theorem d4 : decode yB 4 = .ok (.iload_n 3, 1) := by decide +kernel
theorem d5 : decode yB 5 = .ok (.ifCond (.ne) 22, 3) := by decide +kernel
theorem d27 : decode yB 27 = .ok (.getstatic 38, 3) := by decide +kernel
theorem d30 : decode yB 30 = .ok (.ifCond (.eq) 28, 3) := by decide +kernel
theorem d33 : decode yB 33 = .ok (.aload_n 1, 1) := by decide +kernel
theorem d34 : decode yB 34 = .ok (.iload_n 2, 1) := by decide +kernel
theorem d35 : decode yB 35 = .ok (.iload_n 3, 1) := by decide +kernel
theorem d36 : decode yB 36 = .ok (.invokestatic 177, 3) := by decide +kernel
theorem d39 : decode yB 39 = .ok (.astore 5, 2) := by decide +kernel
theorem d41 : decode yB 41 = .ok (.aload_n 0, 1) := by decide +kernel
theorem d42 : decode yB 42 = .ok (.aload 5, 2) := by decide +kernel
theorem d44 : decode yB 44 = .ok (.iload_n 3, 1) := by decide +kernel
theorem d45 : decode yB 45 = .ok (.invokestatic 47, 3) := by decide +kernel
theorem d48 : decode yB 48 = .ok (.putfield 15, 3) := by decide +kernel
theorem d51 : decode yB 51 = .ok (.aload_n 0, 1) := by decide +kernel
theorem d52 : decode yB 52 = .ok (.aload 5, 2) := by decide +kernel
theorem d54 : decode yB 54 = .ok (.putfield 9, 3) := by decide +kernel
theorem d57 : decode yB 57 = .ok (.return_, 1) := by decide +kernel
def site : List Cond := [.fieldLink "java/lang/String" 38 "java/lang/String" "COMPACT_STRINGS" "Z", Cmp3.tab, CodL.tab, .laysFinal "java/lang/String" "java/lang/String" "value" "[B", .fieldLink "java/lang/String" 9 "java/lang/String" "value" "[B", .laysFinal "java/lang/String" "java/lang/String" "coder" "B", .fieldLink "java/lang/String" 15 "java/lang/String" "coder" "B"] ++ objW "java/lang/String" 1 ++ staticW "java/lang/String" 177 Cmp3.yN ++ staticW "java/lang/String" 47 CodL.yN
def tab : Cond := tabOf yN yB 6 none site
def P (a : Addr) (D : Cell) (fV fC : Field) (b : Addr) (A : Cell) (z : Int32) (o len : Nat) (args : Array Value) (s : State) : Prop := args = #[.ref a, .ref b, .int (Int32.ofNat o), .int (Int32.ofNat len), .null] ∧ Blank "java/lang/String" a D s ∧ Found "java/lang/String" "value" "[B" fV s ∧ Found "java/lang/String" "coder" "B" fC s ∧ Ch b A s ∧ StaticIs s "java/lang/String" "COMPACT_STRINGS" "Z" (.int z) ∧ ¬ z = 0 ∧ 0 < len ∧ o + len ≤ A.slots.size ∧ len ≤ 536870912 ∧ ∀ i, i < len → ¬ 255 < cv A (o + i)
def E (a : Addr) (D : Cell) (fV fC : Field) (A : Cell) (o len : Nat) (r : Option Value) (s u : State) : Prop := Got a D fV fC A o len r s u
/-- len > 0, no char of the range above 255: a Latin-1 String of their low bytes -/
theorem law (l : Launch) (a : Addr) (D : Cell) (fV fC : Field) (b : Addr) (A : Cell) (z : Int32) (o len : Nat) : Law l yN 5 4 2 35 yB 6 none site (P a D fV fC b A z o len) (E a D fV fC A o len) [⟨a, fC.slot⟩, ⟨a, fV.slot⟩] 1 len := by
  refine Law.of_walk (plainFor_of_name (by decide +kernel)) (by decide +kernel) (by decide +kernel) (by decide) (fun _ _ h => by rw [h.1]; rfl) (fun _ U U' hal hh h => ⟨h.1, h.2.1.mv hal hh, h.2.2.1.al hal, h.2.2.2.1.al hal, h.2.2.2.2.1.mv hal hh, h.2.2.2.2.2.1.there hal hh, h.2.2.2.2.2.2⟩) (fun r U U' V V' h1 hal h2 h => Got.mv r U U' V V' h1 hal h2 h) ?_
  intro p e s m args below meth c s₁ X0 hexec hbytes hml hret hlk hnm hown hh0 W hP
  obtain ⟨rfl, hB, f1, f2, hA, s1, hz, l0, l1, l2, hp⟩ := hP
  have a31 := hA.1.2.2.2
  have c1 : Steps p.tables e below (s₁.setTop (entryFrame m #[.ref a, .ref b, .int (Int32.ofNat o), .int (Int32.ofNat len), .null] 6)) (s₁.setTop (mkF m 0 #[.val (.ref a), .val (.ref b), .val (.int (Int32.ofNat o)), .val (.int (Int32.ofNat len)), .val .null, .unset] [])) := entry rfl
  have c2 : Steps p.tables e below (s₁.setTop (entryFrame m #[.ref a, .ref b, .int (Int32.ofNat o), .int (Int32.ofNat len), .null] 6)) (s₁.setTop (mkF m 1 #[.val (.ref a), .val (.ref b), .val (.int (Int32.ofNat o)), .val (.int (Int32.ofNat len)), .val .null, .unset] [.ref a])) := c1.trans (by
    refine XS.aloadN X0.here hexec rfl (hb hbytes d0) rfl rfl ?_
    exact Steps.refl _)
  obtain ⟨T3, X3, q3, st3⟩ := X0.oinit hexec hown (wks W (objW "java/lang/String" 1)) (g := (mkF m 1 #[.val (.ref a), .val (.ref b), .val (.int (Int32.ofNat o)), .val (.int (Int32.ofNat len)), .val .null, .unset] [.ref a])) rfl (by rw [hml]; rfl) (rest := []) rfl (hb hbytes d1) (W := 0) (by show 2 * 0 + 0 ≤ _; decide) (Nat.le_of_ble_eq_true rfl) (Nat.le_of_ble_eq_true rfl)
  have hh3 := q3.trans hh0
  have c4 : Steps p.tables e below (s₁.setTop (entryFrame m #[.ref a, .ref b, .int (Int32.ofNat o), .int (Int32.ofNat len), .null] 6)) (T3.setTop (mkF m 27 #[.val (.ref a), .val (.ref b), .val (.int (Int32.ofNat o)), .val (.int (Int32.ofNat len)), .val .null, .unset] [])) := (c2.trans (st3 _ (Steps.refl _))).trans (by
    refine XS.iloadN X3.here hexec rfl (hb hbytes d4) rfl ?_
    refine XS.ifYes X3.here hexec rfl (pc0 := 5) rfl (hb hbytes d5) rfl (i0_ne_t (nz32 (by omega) l0)) (by decide) rfl ?_
    exact Steps.refl _)
  obtain ⟨T5, X5, q5, st5⟩ := X3.sget hexec hown (wk W (.fieldLink "java/lang/String" 38 "java/lang/String" "COMPACT_STRINGS" "Z")) s1 (fun _ _ h => by rw [hh3]; exact h) (g := (mkF m 27 #[.val (.ref a), .val (.ref b), .val (.int (Int32.ofNat o)), .val (.int (Int32.ofNat len)), .val .null, .unset] [])) rfl (hb hbytes d27)
  have hh5 := q5.trans hh3
  have c6 : Steps p.tables e below (s₁.setTop (entryFrame m #[.ref a, .ref b, .int (Int32.ofNat o), .int (Int32.ofNat len), .null] 6)) (T5.setTop (mkF m 30 #[.val (.ref a), .val (.ref b), .val (.int (Int32.ofNat o)), .val (.int (Int32.ofNat len)), .val .null, .unset] [.int z])) := c4.trans (st5 _ (Steps.refl _))
  have c7 : Steps p.tables e below (s₁.setTop (entryFrame m #[.ref a, .ref b, .int (Int32.ofNat o), .int (Int32.ofNat len), .null] 6)) (T5.setTop (mkF m 36 #[.val (.ref a), .val (.ref b), .val (.int (Int32.ofNat o)), .val (.int (Int32.ofNat len)), .val .null, .unset] [.int (Int32.ofNat len), .int (Int32.ofNat o), .ref b])) := c6.trans (by
    refine XS.ifNo X5.here hexec rfl (hb hbytes d30) rfl (i0_eq_f hz) ?_
    refine XS.aloadN X5.here hexec rfl (hb hbytes d33) rfl rfl ?_
    refine XS.iloadN X5.here hexec rfl (hb hbytes d34) rfl ?_
    refine XS.iloadN X5.here hexec rfl (hb hbytes d35) rfl ?_
    exact Steps.refl _)
  obtain ⟨v8, T8, X8, E8, g8⟩ := X5.callS hexec (Cmp3.law l b A o len) hown (wks W (staticW "java/lang/String" 177 Cmp3.yN)) (wk W Cmp3.tab) (W := 0) (Nat.le_of_ble_eq_true rfl) (Nat.le_of_ble_eq_true rfl) (Nat.le_refl _) (by show 0 + len ≤ len; omega) (g := (mkF m 36 #[.val (.ref a), .val (.ref b), .val (.int (Int32.ofNat o)), .val (.int (Int32.ofNat len)), .val .null, .unset] [.int (Int32.ofNat len), .int (Int32.ofNat o), .ref b])) rfl (by rw [hml]; rfl) c7 (argsL := [.ref b, .int (Int32.ofNat o), .int (Int32.ofNat len)]) (rest := []) rfl rfl (by show 2 * 0 + 0 ≤ _; decide) (hb hbytes d36) (⟨rfl, hA.mv X5.warmed.alike hh5, l1, l2, hp⟩)
  obtain ⟨e8, z8⟩ := E8
  obtain ⟨rfl, N, n1, n2, n3, n4, n5, n6⟩ := NewArr.mv _ T5 s _ _ hh5.symm (Vm.Alike.refl _) rfl e8
  rw [hh5] at z8
  have hB1 := hB.keep X8.warmed.alike (n6 _ _ hB.1)
  have hne : s.heap.size ≠ a := (Nat.ne_of_lt (Array.getElem?_eq_some_iff.mp hB.1).1).symm
  have c9 : Steps p.tables e below (s₁.setTop (entryFrame m #[.ref a, .ref b, .int (Int32.ofNat o), .int (Int32.ofNat len), .null] 6)) (T8.setTop (mkF m 39 #[.val (.ref a), .val (.ref b), .val (.int (Int32.ofNat o)), .val (.int (Int32.ofNat len)), .val .null, .unset] [.ref s.heap.size])) := g8
  have c10 : Steps p.tables e below (s₁.setTop (entryFrame m #[.ref a, .ref b, .int (Int32.ofNat o), .int (Int32.ofNat len), .null] 6)) (T8.setTop (mkF m 45 #[.val (.ref a), .val (.ref b), .val (.int (Int32.ofNat o)), .val (.int (Int32.ofNat len)), .val .null, .val (.ref s.heap.size)] [.int (Int32.ofNat N.slots.size), .ref s.heap.size, .ref a])) := by
    have hc : Steps p.tables e below (s₁.setTop (entryFrame m #[.ref a, .ref b, .int (Int32.ofNat o), .int (Int32.ofNat len), .null] 6)) (T8.setTop (mkF m 45 #[.val (.ref a), .val (.ref b), .val (.int (Int32.ofNat o)), .val (.int (Int32.ofNat len)), .val .null, .val (.ref s.heap.size)] [.int (Int32.ofNat len), .ref s.heap.size, .ref a])) := c9.trans (by
      refine XS.astore X8.here hexec rfl (hb hbytes d39) rfl rfl rfl ?_
      refine XS.aloadN X8.here hexec rfl (hb hbytes d41) rfl rfl ?_
      refine XS.aload X8.here hexec rfl (hb hbytes d42) rfl rfl ?_
      refine XS.iloadN X8.here hexec rfl (hb hbytes d44) rfl ?_
      exact Steps.refl _)
    rw [n4]; exact hc
  obtain ⟨v11, T11, X11, E11, g11⟩ := X8.callS hexec (CodL.law l s.heap.size N) hown (wks W (staticW "java/lang/String" 47 CodL.yN)) (wk W CodL.tab) (W := 1) (Nat.le_of_ble_eq_true rfl) (Nat.le_of_ble_eq_true rfl) (Nat.le_refl _) (by show 0 + len + 0 ≤ len; omega) (g := (mkF m 45 #[.val (.ref a), .val (.ref b), .val (.int (Int32.ofNat o)), .val (.int (Int32.ofNat len)), .val .null, .val (.ref s.heap.size)] [.int (Int32.ofNat N.slots.size), .ref s.heap.size, .ref a])) rfl (by rw [hml]; rfl) c10 (argsL := [.ref s.heap.size, .int (Int32.ofNat N.slots.size)]) (rest := [.ref a]) rfl rfl (by show 2 * 0 + (1 + 0) ≤ _; decide) (hb hbytes d45) (⟨rfl, n1⟩)
  obtain ⟨rfl, q11⟩ := E11
  have hB11 := hB1.mv (X8.warmed.alike.symm.trans X11.warmed.alike) q11
  have c12 : Steps p.tables e below (s₁.setTop (entryFrame m #[.ref a, .ref b, .int (Int32.ofNat o), .int (Int32.ofNat len), .null] 6)) (T11.setTop (mkF m 48 #[.val (.ref a), .val (.ref b), .val (.int (Int32.ofNat o)), .val (.int (Int32.ofNat len)), .val .null, .val (.ref s.heap.size)] [.int 0, .ref a])) := g11
  obtain ⟨T13, X13, p13, bl13, sl13, st13⟩ := X11.finit hexec hown (wk W (.fieldLink "java/lang/String" 15 "java/lang/String" "coder" "B")) (Or.inr ⟨_, (wk W (.laysFinal "java/lang/String" "java/lang/String" "coder" "B"))⟩) (Or.inl ⟨rfl, hnm⟩) f2 (Or.inl rfl) hB11 (t := .byte) (by decide +kernel) rfl (g := (mkF m 48 #[.val (.ref a), .val (.ref b), .val (.int (Int32.ofNat o)), .val (.int (Int32.ofNat len)), .val .null, .val (.ref s.heap.size)] [.int 0, .ref a])) rfl (rest := []) rfl (hb hbytes d48)
  have c14 : Steps p.tables e below (s₁.setTop (entryFrame m #[.ref a, .ref b, .int (Int32.ofNat o), .int (Int32.ofNat len), .null] 6)) (T13.setTop (mkF m 54 #[.val (.ref a), .val (.ref b), .val (.int (Int32.ofNat o)), .val (.int (Int32.ofNat len)), .val .null, .val (.ref s.heap.size)] [.ref s.heap.size, .ref a])) := (c12.trans (st13 _ (Steps.refl _))).trans (by
    refine XS.aloadN X13.here hexec rfl (hb hbytes d51) rfl rfl ?_
    refine XS.aload X13.here hexec rfl (hb hbytes d52) rfl rfl ?_
    exact Steps.refl _)
  obtain ⟨T15, X15, p15, bl15, sl15, st15⟩ := X13.finit hexec hown (wk W (.fieldLink "java/lang/String" 9 "java/lang/String" "value" "[B")) (Or.inr ⟨_, (wk W (.laysFinal "java/lang/String" "java/lang/String" "value" "[B"))⟩) (Or.inl ⟨rfl, hnm⟩) f1 (Or.inl rfl) bl13 (t := (.array .byte)) (by decide +kernel) rfl (g := (mkF m 54 #[.val (.ref a), .val (.ref b), .val (.int (Int32.ofNat o)), .val (.int (Int32.ofNat len)), .val .null, .val (.ref s.heap.size)] [.ref s.heap.size, .ref a])) rfl (rest := []) rfl (hb hbytes d54)
  have c16 : Steps p.tables e below (s₁.setTop (entryFrame m #[.ref a, .ref b, .int (Int32.ofNat o), .int (Int32.ofNat len), .null] 6)) (T15.setTop (mkF m 57 #[.val (.ref a), .val (.ref b), .val (.int (Int32.ofNat o)), .val (.int (Int32.ofNat len)), .val .null, .val (.ref s.heap.size)] [])) := c14.trans (st15 _ (Steps.refl _))
  have ap := apart (Or.inr ⟨_, (wk W (.laysFinal "java/lang/String" "java/lang/String" "value" "[B"))⟩) (Or.inr ⟨_, (wk W (.laysFinal "java/lang/String" "java/lang/String" "coder" "B"))⟩) f1 f2 (t₁ := .array .byte) (t₂ := .byte) (by decide +kernel) (by decide +kernel) (by decide)
  have al := X8.warmed.alike.symm.trans X15.warmed.alike
  have n7 : T11.heap[s.heap.size]? = some N := by rw [q11]; exact n1.1
  exact ⟨T15, none, _, _, _, X15, by simp, rfl, by omega, (fun _ => rfl), ⟨rfl, _, N, bl15, ((Same.refl D _).set _ (by simp)).set _ (by simp), sl15, (Cell.slots_setSlot_ne _ ap).trans sl13, n1.keep al (p15.other hne (p13.other hne n7)), n2, by rw [al.findClass]; exact n3, n4, n5, fun y c h1 h2 => p15.other h1 (p13.other h1 (by rw [q11]; exact n6 y c h2)), by rw [p15.2.2, p13.2.2, q11]; exact z8⟩, fun fs hl => c16.trans (X15.returnOut hexec hret (hb hbytes d57) hl)⟩
end New4
namespace New1
def yN : MethodName := ⟨"java/lang/String", "<init>", "([C)V"⟩
abbrev yB : ByteArray := jdk_42_method_3_code
theorem d0 : decode yB 0 = .ok (.aload_n 0, 1) := by decide +kernel
theorem d1 : decode yB 1 = .ok (.aload_n 1, 1) := by decide +kernel
theorem d2 : decode yB 2 = .ok (.iconst 0, 1) := by decide +kernel
theorem d3 : decode yB 3 = .ok (.aload_n 1, 1) := by decide +kernel
theorem d4 : decode yB 4 = .ok (.arraylength, 1) := by decide +kernel
theorem d5 : decode yB 5 = .ok (.aconst_null, 1) := by decide +kernel
theorem d6 : decode yB 6 = .ok (.invokespecial 27, 3) := by decide +kernel
theorem d9 : decode yB 9 = .ok (.return_, 1) := by decide +kernel
def site : List Cond := [New4.tab] ++ initW "java/lang/String" 27 New4.yN
def tab : Cond := tabOf yN yB 2 none site
def P (a : Addr) (D : Cell) (fV fC : Field) (b : Addr) (A : Cell) (z : Int32) (args : Array Value) (s : State) : Prop := args = #[.ref a, .ref b] ∧ Blank "java/lang/String" a D s ∧ Found "java/lang/String" "value" "[B" fV s ∧ Found "java/lang/String" "coder" "B" fC s ∧ Ch b A s ∧ StaticIs s "java/lang/String" "COMPACT_STRINGS" "Z" (.int z) ∧ ¬ z = 0 ∧ 0 < A.slots.size ∧ A.slots.size ≤ 536870912 ∧ ∀ i, i < A.slots.size → ¬ 255 < cv A i
def E (a : Addr) (D : Cell) (fV fC : Field) (A : Cell) (r : Option Value) (s u : State) : Prop := Got a D fV fC A 0 A.slots.size r s u
/-- new String(chars), not empty, no char above 255: a Latin-1 String of their low bytes -/
theorem law (l : Launch) (a : Addr) (D : Cell) (fV fC : Field) (b : Addr) (A : Cell) (z : Int32) : Law l yN 2 1 3 52 yB 2 none site (P a D fV fC b A z) (E a D fV fC A) [⟨a, fC.slot⟩, ⟨a, fV.slot⟩] 1 A.slots.size := by
  refine Law.of_walk (plainFor_of_name (by decide +kernel)) (by decide +kernel) (by decide +kernel) (by decide) (fun _ _ h => by rw [h.1]; rfl) (fun _ U U' hal hh h => ⟨h.1, h.2.1.mv hal hh, h.2.2.1.al hal, h.2.2.2.1.al hal, h.2.2.2.2.1.mv hal hh, h.2.2.2.2.2.1.there hal hh, h.2.2.2.2.2.2⟩) (fun r U U' V V' h1 hal h2 h => Got.mv r U U' V V' h1 hal h2 h) ?_
  intro p e s m args below meth c s₁ X0 hexec hbytes hml hret hlk hnm hown hh0 W hP
  obtain ⟨rfl, hB, f1, f2, hA, s1, hz, l0, l2, hp⟩ := hP
  have c1 : Steps p.tables e below (s₁.setTop (entryFrame m #[.ref a, .ref b] 2)) (s₁.setTop (mkF m 0 #[.val (.ref a), .val (.ref b)] [])) := entry rfl
  have c2 : Steps p.tables e below (s₁.setTop (entryFrame m #[.ref a, .ref b] 2)) (s₁.setTop (mkF m 6 #[.val (.ref a), .val (.ref b)] [.null, .int (Int32.ofNat A.slots.size), .int 0, .ref b, .ref a])) := c1.trans (by
    refine XS.aloadN X0.here hexec rfl (hb hbytes d0) rfl rfl ?_
    refine XS.aloadN X0.here hexec rfl (hb hbytes d1) rfl rfl ?_
    refine iconstV X0.here hexec rfl 0 (hb hbytes d2) (by decide) ?_
    refine XS.aloadN X0.here hexec rfl (hb hbytes d3) rfl rfl ?_
    refine X0.alen hexec (hA.1.mv X0.warmed.alike hh0) rfl rfl (hb hbytes d4) ?_
    refine XS.aconstNull X0.here hexec rfl (hb hbytes d5) ?_
    exact Steps.refl _)
  obtain ⟨v3, T3, X3, E3, g3⟩ := X0.callN hexec (New4.law l a D fV fC b A z 0 A.slots.size) rfl hown (wks W (initW "java/lang/String" 27 New4.yN)) (W New4.tab (by simp only [site, List.mem_cons, List.mem_append, true_or, or_true])) (W := 0) (Nat.le_of_ble_eq_true rfl) (Nat.le_of_ble_eq_true rfl) (Nat.le_refl _) (by show 0 + A.slots.size ≤ A.slots.size; omega) (g := (mkF m 6 #[.val (.ref a), .val (.ref b)] [.null, .int (Int32.ofNat A.slots.size), .int (Int32.ofNat 0), .ref b, .ref a])) rfl (by rw [hml]; rfl) c2 (argsL := [.ref b, .int (Int32.ofNat 0), .int (Int32.ofNat A.slots.size), .null]) (rest := []) rfl rfl (by show 2 * 0 + 0 ≤ _; decide) (hb hbytes d6) (⟨rfl, hB.mv X0.warmed.alike hh0, f1.al X0.warmed.alike, f2.al X0.warmed.alike, hA.mv X0.warmed.alike hh0, s1.there X0.warmed.alike hh0, hz, l0, by omega, l2, fun i hi => by rw [Nat.zero_add]; exact hp i hi⟩)
  have e0 := Got.mv _ s₁ s _ _ hh0.symm (Vm.Alike.refl _) rfl E3
  obtain rfl := e0.1
  have c4 : Steps p.tables e below (s₁.setTop (entryFrame m #[.ref a, .ref b] 2)) (T3.setTop (mkF m 9 #[.val (.ref a), .val (.ref b)] [])) := g3
  exact ⟨T3, none, _, _, _, X3, by simp, rfl, by omega, (fun _ => rfl), e0, fun fs hl => c4.trans (X3.returnOut hexec hret (hb hbytes d9) hl)⟩
theorem pays {l : Launch} {R : Room} {p : Program} {e : Env} {below : List Frame} {s : State} {sargs : Array Value} {len W : Nat} (a : Addr) (D : Cell) (fV fC : Field) (b : Addr) (A : Cell) (z : Int32) (htab : tab.before sargs s = true) (hfr : 4 ≤ R.frames) (hlo : W + 65 ≤ R.locals) :
    Back l R p e below s sargs yN len W (fun A₁ a₁ => A₁.cells + 1 ≤ R.cells ∧ A₁.slots + A.slots.size ≤ R.slots ∧ P a D fV fC b A z a₁ A₁.U) (fun A₁ _ v₁ B₁ => E a D fV fC A v₁ A₁.U B₁.U ∧ B₁.locs = A₁.locs ++ [⟨a, fC.slot⟩, ⟨a, fV.slot⟩] ∧ B₁.cells = A₁.cells + 1 ∧ B₁.slots = A₁.slots + A.slots.size) :=
  (law l a D fV fC b A z).pays htab hfr (by omega)
end New1
/-- the byte, read back as charAt reads it, is the char -/
theorem lo8_mask {x : Int32} (h0 : ¬ x < 0) (h1 : ¬ 255 < x) : lo8 x &&& 255 = x := by
  have t : ∀ k : Fin 256, lo8 (Int32.ofNat k.val) &&& 255 = Int32.ofNat k.val := by decide +kernel
  rw [Int32.lt_iff_toInt_lt] at h0 h1
  have e0 : (0 : Int32).toInt = 0 := rfl
  have e1 : (255 : Int32).toInt = 255 := rfl
  obtain ⟨k, hk⟩ : ∃ k : Nat, x.toInt = k := ⟨x.toInt.toNat, by omega⟩
  have hx : x = Int32.ofNat k := Int32.toInt_inj.mp (by rw [hk, Int32.toInt_ofNat_small (by omega)])
  rw [hx]
  exact t ⟨k, by omega⟩
end StrChars
namespace StrChars.Road
open Jvm Sem ClassFile Op Lib Jvm.Stand Jvm.Free Jvm.Free.XT
open Jvm.Lib.Cold (StaticIs)
abbrev ST : String := "java/lang/String"
/-- every table word that New1's law asks, flat -/
abbrev words : List Jvm.Cond := [.code New1.yN New1.yB 2 none, .initialized ST, .methodLink ST 27 New4.yN, .instanceMethod New4.yN,
  .code New4.yN New4.yB 6 none, .fieldLink ST 38 ST "COMPACT_STRINGS" "Z", .laysFinal ST ST "value" "[B", .fieldLink ST 9 ST "value" "[B", .laysFinal ST ST "coder" "B", .fieldLink ST 15 ST "coder" "B",
  .methodLink ST 1 Lib.objectInit, .instanceMethod Lib.objectInit, .code Lib.objectInit ⟨#[0xb1]⟩ 1 none, .methodLink ST 177 Cmp3.yN, .static Cmp3.yN, .methodLink ST 47 CodL.yN, .static CodL.yN,
  .code Cmp3.yN Cmp3.yB 6 (some (.array .byte)), .initialized U16, .arrayClass .byte, .methodLink U16 115 Cmp5.yN, .static Cmp5.yN, .code Cmp5.yN Cmp5.yB 7 (some .int), .code CodL.yN CodL.yB 2 (some .byte)]
theorem tab_of {a : Array Value} {s : State} (h : ∀ w ∈ words, w.before a s = true) : New1.tab.before a s = true := by
  have h5 : Cmp5.tab.before a s = true := unparts (wk h (.code Cmp5.yN Cmp5.yB 7 (some .int))) (wks h (.initialized Cmp5.yN.cls :: Cmp5.site))
  have hc : CodL.tab.before a s = true := unparts (wk h (.code CodL.yN CodL.yB 2 (some .byte))) (wks h (.initialized CodL.yN.cls :: CodL.site))
  have q5 : ∀ w ∈ Cmp5.tab :: words, w.before a s = true := fun w hw => (List.mem_cons.mp hw).elim (fun e => e ▸ h5) (h w)
  have h3 : Cmp3.tab.before a s = true := unparts (wk q5 (.code Cmp3.yN Cmp3.yB 6 (some (.array .byte)))) (wks q5 (.initialized Cmp3.yN.cls :: Cmp3.site))
  have q3 : ∀ w ∈ Cmp3.tab :: CodL.tab :: words, w.before a s = true := fun w hw => (List.mem_cons.mp hw).elim (fun e => e ▸ h3) fun hw => (List.mem_cons.mp hw).elim (fun e => e ▸ hc) (h w)
  have h4 : New4.tab.before a s = true := unparts (wk q3 (.code New4.yN New4.yB 6 none)) (wks q3 (.initialized New4.yN.cls :: New4.site))
  have q4 : ∀ w ∈ New4.tab :: words, w.before a s = true := fun w hw => (List.mem_cons.mp hw).elim (fun e => e ▸ h4) (h w)
  exact unparts (wk q4 (.code New1.yN New1.yB 2 none)) (wks q4 (.initialized New1.yN.cls :: New1.site))
/-- the words ride from the start Z to the walk's own state -/
theorem moved {Z s : State} {a0 args : Array Value} (hZ : Z.Warmed39 s.vm) (hw : ∀ d ∈ words, d.before a0 Z = true) : ∀ d ∈ words, d.before args s = true := fun d hd => by
  have q := hw d hd
  have t : ∀ d ∈ words, d = .arrayClass .byte ∨ (d.onTables && d.keepsFace) = true := by decide +kernel
  rcases t d hd with rfl | t
  · exact RoadKit.mvA hZ q
  · exact RoadKit.mv hZ q t
/-- WHAT COMES BACK, over the tables of the start Z: h the heap at the call, h' behind it -/
def Q (Z : State) (x : Addr) (A : Cell) (h : Heap) (v : Option Value) (h' : Heap) (L : List Loc) : Prop := v = none ∧ (∀ y ∈ L, y.base = x) ∧ RoadKit.Keep h h' [x] ∧ h'.size = h.size + 1 ∧ RoadKit.Exa Z h' x ST ∧ RoadKit.Fld Z h' x ST "value" "[B" (.ref h.size) ∧ RoadKit.Fld Z h' x ST "coder" "B" (.int 0) ∧
  (∃ V : Cell, RoadKit.Arr Z h' h.size V .byte ∧ V.vm = .none ∧ Z.vm.findClass "[B" = some V.cls ∧ V.slots.size = A.slots.size ∧ ∀ j, j < A.slots.size → V.slots[j]? = some (.int (lo8 (cv A j)))) ∧
  ∀ (O n d : String) (w : Value), RoadKit.Fld Z h x O n d w → RoadKit.slotOf Z O n d ≠ RoadKit.slotOf Z ST "value" "[B" → RoadKit.slotOf Z O n d ≠ RoadKit.slotOf Z ST "coder" "B" → RoadKit.Fld Z h' x O n d w
/-- **new String(chars) AT A CALL, IN THE ROAD'S FORM**: for specialBack behind newO: x the fresh String, b the char[] with the cell A -/
theorem back {p : Program} {l : Launch} {e : Env} {R : Room} {s : State} {args : Array Value} {below : List Frame} {len W : Nat} {Z : State} {a0 : Array Value} {h : Heap} (hZ : Z.Warmed39 s.vm) (hw : ∀ d ∈ words, d.before a0 Z = true) {kI : Nat} (wi : (Jvm.Cond.instantiable ST kI).before a0 Z = true)
    {x b : Addr} {A : Cell} {z : Int32} {v0 c0 : Value} (E : RoadKit.Exa Z h x ST) (V : RoadKit.Fld Z h x ST "value" "[B" v0) (C : RoadKit.Fld Z h x ST "coder" "B" c0) (K : RoadKit.Arr Z h b A .char) (hty : Typed .char A) (S : RoadKit.Sta Z h ST "COMPACT_STRINGS" "Z" (.int z)) (hz : ¬ z = 0)
    (l0 : 0 < A.slots.size) (l2 : A.slots.size ≤ 536870912) (hp : ∀ i, i < A.slots.size → ¬ 255 < cv A i) (hfr : 4 ≤ R.frames) (hlo : W + 65 ≤ R.locals) :
    Back l R p e below s args New1.yN len W (fun P a => a = #[.ref x, .ref b] ∧ P.U.heap = h ∧ P.cells + 1 ≤ R.cells ∧ P.slots + A.slots.size ≤ R.slots)
      (fun P _ v B => ∃ L, Q Z x A h v B.U.heap L ∧ B.locs = P.locs ++ L ∧ B.cells = P.cells + 1 ∧ B.slots = P.slots + A.slots.size) := by
  intro m meth c P g ig mk a X hg hsize hdg hW hn hp'
  obtain ⟨rfl, rfl, r1, r2⟩ := hp'
  have al : Z.vm.Alike P.U.vm := hZ.alike.trans X.warmed.alike
  obtain ⟨D, cfV, kV, iV, fV, hD, gV, stV, knV, obV, asV, slV⟩ := id V
  obtain ⟨D', cfC, kC, iC, fC, hD', gC, stC, -, -, asC, slC⟩ := id C
  cases hD.symm.trans hD'
  obtain ⟨D2, kD, e1, e2, e3, e4, e5⟩ := id E
  cases hD.symm.trans e1
  obtain ⟨c2, k2, i1, i2, i3, -⟩ := Cond.instantiable_spec wi
  cases e2.symm.trans i1
  cases e3.symm.trans i2
  obtain ⟨kU, u1, u2⟩ := al.2.2 _ _ e3
  have hB : Blank ST x D P.U := ⟨hD, ⟨knV, fun q hq => by rw [hq] at obV; cases obV⟩, by rw [al.findClass]; exact e2, kU, u1, by rw [u2]; exact i3, by rw [u2]; exact e5 i3⟩
  have F1 : Found ST "value" "[B" fV P.U := ⟨SBG.found_only al ⟨cfV, kV, iV, gV⟩, stV⟩
  have F2 : Found ST "coder" "B" fC P.U := ⟨SBG.found_only al ⟨cfC, kC, iC, gC⟩, stC⟩
  have hA : Ch b A P.U := ⟨⟨K.1, State.isArrayOf_alike al K.2.1, K.2.2, by omega⟩, hty⟩
  have hS : StaticIs P.U ST "COMPACT_STRINGS" "Z" (.int z) := by
    obtain ⟨cfS, iS, kS, fS, st, cS, t1, t2, t3, t4, t5, t6, t7⟩ := S
    exact StaticIs.there (s := { Z with heap := P.U.heap }) ⟨cfS, iS, kS, fS, st, cS, t1, t2, t3, t4, t5, (fun q => by rw [q] at t6; cases t6), t7⟩ al rfl
  obtain ⟨v, B, X', ⟨⟨hv, E', V', q1, q2, q3, q4, q5, q6, q7, q8, q9, q10, q11⟩, hl, hc, hs⟩, st⟩ := New1.pays x D fV fC b A z (tab_of (moved hZ hw)) hfr hlo m meth c P g ig mk _ X hg hsize hdg hW hn ⟨r1, r2, rfl, hB, F1, F2, hA, hS, hz, l0, l2, hp⟩
  have al' : Z.vm.Alike B.U.vm := hZ.alike.trans X'.warmed.alike
  have hsz : E'.slots.size = D.slots.size := by
    obtain ⟨-, -, -, kB, w1, w2, w3⟩ := q1
    obtain ⟨kB', y1, y2⟩ := al'.2.2 _ _ e3
    rw [q2.2.1] at w1
    cases w1.symm.trans y1
    rw [w3, e5 i3, y2]
  refine ⟨v, B, X', ⟨_, ⟨hv, ?_, ⟨by omega, fun y cy hy hn' => q10 y cy (by simpa using hn') hy, fun y cy hy => ?_⟩, q11, ⟨E', _, q1.1, by rw [q2.2.1]; exact e2, by rw [q2.2.1]; exact e3, by rw [q2.1]; exact obV, fun _ => by rw [hsz]; exact e5 i3⟩,
    ⟨E', cfV, kV, iV, fV, q1.1, gV, stV, by rw [q2.1]; exact knV, by rw [q2.1]; exact obV, by rw [q2.2.1]; exact asV, q3⟩, ⟨E', cfC, kC, iC, fC, q1.1, gC, stC, by rw [q2.1]; exact knV, by rw [q2.1]; exact obV, by rw [q2.2.1]; exact asC, q4⟩,
    ⟨V', ⟨q5.1, State.isArrayOf_alike al'.symm q5.2.1, q5.2.2.1⟩, q6, by rw [← al'.findClass]; exact q7, q8, fun j hj => by have := q9 j hj; rwa [Nat.zero_add] at this⟩, fun O n d w F n1 n2 => ?_⟩, hl, hc, hs⟩, st⟩
  · intro y hy
    simp only [List.mem_cons, List.not_mem_nil, or_false] at hy
    rcases hy with rfl | rfl <;> rfl
  · by_cases q : y = x
    · subst q
      cases hD.symm.trans hy
      exact ⟨E', q1.1, q2.2.1, q2.1, hsz⟩
    · exact ⟨cy, q10 y cy q hy, rfl, rfl, rfl⟩
  · obtain ⟨D3, cf, k, i, f, g1, g2, g3, g4, g5, g6, g7⟩ := F
    cases hD.symm.trans g1
    simp only [RoadKit.slotOf, g2, gV, gC, Option.map_some, Option.getD_some] at n1 n2
    exact ⟨E', cf, k, i, f, q1.1, g2, g3, by rw [q2.1]; exact g4, by rw [q2.1]; exact g5, by rw [q2.2.1]; exact g6, by rw [q2.2.2 f.slot (by simp [n1, n2])]; exact g7⟩
end StrChars.Road
namespace StrChars.Road
open Jvm Sem ClassFile Op Lib Jvm.Stand Jvm.Free Jvm.Free.XT
/-- WHAT COMES BACK, the byte[] as a list of values -/
def QA (Z : State) (x : Addr) (zn : Int32) (cs : List Int32) (h : Heap) (v : Option Value) (h' : Heap) (L : List Loc) : Prop := v = none ∧ (∀ y ∈ L, y.base = x) ∧ RoadKit.Keep h h' [x] ∧ h'.size = h.size + 1 ∧ RoadKit.Exa Z h' x ST ∧ RoadKit.Fld Z h' x ST "value" "[B" (.ref h.size) ∧ RoadKit.Fld Z h' x ST "coder" "B" (.int 0) ∧
  (∃ kb, Z.vm.findClass "[B" = some kb ∧ RoadKit.Arv Z h' h.size kb .byte zn (cs.map fun c => .int (lo8 c)) (.int 0)) ∧
  ∀ (O n d : String) (w : Value), RoadKit.Fld Z h x O n d w → RoadKit.slotOf Z O n d ≠ RoadKit.slotOf Z ST "value" "[B" → RoadKit.slotOf Z O n d ≠ RoadKit.slotOf Z ST "coder" "B" → RoadKit.Fld Z h' x O n d w
/-- **new String(chars) AT A CALL, THE ARRAYS AS LISTS**: the char[] at b holds cs, not empty, no char above 255 -/
theorem backArv {p : Program} {l : Launch} {e : Env} {R : Room} {s : State} {args : Array Value} {below : List Frame} {len W : Nat} {Z : State} {a0 : Array Value} {h : Heap} (hZ : Z.Warmed39 s.vm) (hw : ∀ d ∈ words, d.before a0 Z = true) {kI : Nat} (wi : (Jvm.Cond.instantiable ST kI).before a0 Z = true)
    {x b : Addr} {k : ClassId} {zn z : Int32} {cs : List Int32} {dv v0 c0 : Value} (E : RoadKit.Exa Z h x ST) (V : RoadKit.Fld Z h x ST "value" "[B" v0) (C : RoadKit.Fld Z h x ST "coder" "B" c0) (K : RoadKit.Arv Z h b k .char zn (cs.map Value.int) dv) (S : RoadKit.Sta Z h ST "COMPACT_STRINGS" "Z" (.int z)) (hz : ¬ z = 0)
    (hlen : zn.toNatClampNeg = cs.length) (h0 : 0 < cs.length) (hbig : cs.length ≤ 536870912) (hall : ∀ c ∈ cs, ¬ 255 < c) (hfr : 4 ≤ R.frames) (hlo : W + 65 ≤ R.locals) :
    Back l R p e below s args New1.yN len W (fun P a => a = #[.ref x, .ref b] ∧ P.U.heap = h ∧ P.cells + 1 ≤ R.cells ∧ P.slots + cs.length ≤ R.slots)
      (fun P _ v B => ∃ L, QA Z x zn cs h v B.U.heap L ∧ B.locs = P.locs ++ L ∧ B.cells = P.cells + 1 ∧ B.slots = P.slots + cs.length) := by
  obtain ⟨A, K1, K2, K3, K4, K5, K6⟩ := K
  have e : A.slots.size = cs.length := K3.trans hlen
  have hat : ∀ (i : Nat) (hi : i < cs.length), A.slots[i]? = some (.int cs[i]) := fun i hi => by rw [K5 i (by omega)]; simp [List.getD_eq_getElem?_getD, hi]
  have hcv : ∀ (i : Nat) (hi : i < cs.length), cv A i = cs[i] := fun i hi => by unfold cv; rw [hat i hi]
  have hty : Typed .char A := fun i v hv => by
    have hi : i < A.slots.size := (Array.getElem?_eq_some_iff.mp hv).1
    have q := K5 i hi
    rw [hv] at q
    rw [Option.some.inj q]
    exact K6 i hi
  refine Back.mono (back hZ hw wi E V C K1 hty S hz (by omega) (by omega) (fun i hi => by rw [hcv i (by omega)]; exact hall _ (List.getElem_mem _)) hfr hlo) (fun P a hp => ⟨hp.1, hp.2.1, hp.2.2.1, by rw [e]; exact hp.2.2.2⟩) (fun P a v B hp hq => ?_)
  obtain ⟨L, ⟨q1, q2, q3, q4, q5, q6, q7, ⟨V', v1, v2, v3, v4, v5⟩, q9⟩, hl, hc, hs⟩ := hq
  refine ⟨L, ⟨q1, q2, q3, q4, q5, q6, q7, ⟨V'.cls, v3, V', v1, rfl, by rw [v4, e, hlen], K4, fun i hi => ?_, fun i hi => ?_⟩, q9⟩, hl, hc, by rw [hs, e]⟩
  · have hi' : i < cs.length := by omega
    rw [v5 i (by omega), hcv i hi']; simp [List.getD_eq_getElem?_getD, hi']
  · have hi' : i < cs.length := by omega
    simp only [List.getD_eq_getElem?_getD, List.getElem?_map, List.getElem?_eq_getElem hi', Option.map_some, Option.getD_some]
    exact fits_lo8 _
end StrChars.Road
namespace StrChars.Road
open Jvm Sem ClassFile Op Lib Jvm.Stand Jvm.Free Jvm.Free.XT
/-- WHAT COMES BACK, in the writer's own shape -/
def QV (Z : State) (x : Addr) (N : Int32) (bs : List Int32) (h : Heap) (n0 : Nat) (v : Option Value) (h' : Heap) (L : List Loc) : Prop := v = none ∧ RoadKit.Fr n0 L ∧ RoadKit.Keep h h' [x] ∧ RoadKit.Exa Z h' x ST ∧ RoadKit.Fld Z h' x ST "coder" "B" (.int 0) ∧
  ∃ (t : Addr) (kb : ClassId), n0 ≤ t ∧ h.size ≤ t ∧ ¬ t = x ∧ RoadKit.Fld Z h' x ST "value" "[B" (.ref t) ∧ RoadKit.Arv Z h' t kb .byte N (bs.map Value.int) (.int 0)
/-- **new String(chars) AT A CALL, FOR THE WRITER**: a char[] of n known ints, each 0 to 255 -/
theorem backV {p : Program} {l : Launch} {e : Env} {R : Room} {s : State} {args : Array Value} {below : List Frame} {len W : Nat} {Z : State} {a0 : Array Value} {h : Heap} (hZ : Z.Warmed39 s.vm) (hw : ∀ d ∈ words, d.before a0 Z = true) {kI : Nat} (wi : (Jvm.Cond.instantiable ST kI).before a0 Z = true)
    {x b : Addr} {kC : ClassId} {cs bs : List Int32} {d v0 c0 : Value} {z N : Int32} {n n0 : Nat} (hx0 : n0 ≤ x) (hh0 : n0 ≤ h.size) (E : RoadKit.Exa Z h x ST) (V : RoadKit.Fld Z h x ST "value" "[B" v0) (C : RoadKit.Fld Z h x ST "coder" "B" c0) (K : RoadKit.Arv Z h b kC .char N (cs.map Value.int) d) (S : RoadKit.Sta Z h ST "COMPACT_STRINGS" "Z" (.int z)) (hz : ¬ z = 0)
    (hn : cs.length = n) (hN : N = Int32.ofNat n) (l0 : 0 < n) (l2 : n ≤ 4000) (hp : ∀ c ∈ cs, ¬ c < 0 ∧ ¬ (255 : Int32) < c) (hb : bs = cs.map (fun c => c.toInt8.toInt32)) (hfr : 4 ≤ R.frames) (hlo : W + 65 ≤ R.locals) :
    Back l R p e below s args (⟨"java/lang/String", "<init>", "([C)V"⟩ : MethodName) len W (fun P a => a = #[.ref x, .ref b] ∧ P.U.heap = h ∧ P.cells + 1 ≤ R.cells ∧ P.slots + n ≤ R.slots)
      (fun P _ v B => ∃ L, QV Z x N bs h n0 v B.U.heap L ∧ B.locs = P.locs ++ L ∧ B.cells = P.cells + 1 ∧ B.slots = P.slots + n) := by
  subst hn hN hb
  refine Back.mono (backArv hZ hw wi E V C K S hz (n32 (by omega)) l0 (by omega) (fun c hc => (hp c hc).2) hfr hlo) (fun P a hp => hp) (fun P a v B hp hq => ?_)
  obtain ⟨L, ⟨q1, q2, q3, q4, q5, q6, q7, ⟨kb, v1, v2⟩, q9⟩, hl, hc, hs⟩ := hq
  exact ⟨L, ⟨q1, fun y hy => by rw [q2 y hy]; exact hx0, q3, q5, q7, h.size, kb, hh0, Nat.le_refl _, Nat.ne_of_gt E.lt, q6, by rw [List.map_map]; exact v2⟩, hl, hc, hs⟩
end StrChars.Road
namespace StrChars
open Jvm Sem ClassFile Op Lib Jvm.Stand Jvm.Free.XT Jvm.Free.ALB Jvm.Free.JM Jvm.Free
open Jvm.Lib.Cold (StaticIs)
def hi8 (x : Int32) : Int32 := lo8 (x >>> ((8 : Int32) &&& 31))
/-- what StringUTF16.getChar makes of two bytes -/
def pairCh (u v : Int32) : Int32 := (((u &&& 255) <<< ((0 : Int32) &&& 31)) ||| ((v &&& 255) <<< ((8 : Int32) &&& 31))).toUInt32.toUInt16.toUInt32.toInt32
theorem lo8_and (x : Int32) : (lo8 x &&& 255).toBitVec.toNat = x.toBitVec.toNat % 256 := by
  have h : (lo8 x).toBitVec = (x.toBitVec.signExtend 8).signExtend 32 := by rw [lo8, Int8.toBitVec_toInt32, Int32.toBitVec_toInt8]
  rw [Int32.toBitVec_and, BitVec.toNat_and, h]
  have e : ((x.toBitVec.signExtend 8).signExtend 32).toNat % 256 = x.toBitVec.toNat % 256 := by
    rw [BitVec.toNat_signExtend]
    have hlt := x.toBitVec.isLt
    simp only [BitVec.toNat_setWidth, BitVec.toNat_signExtend]
    split <;> split <;> omega
  rw [← e]
  exact Nat.and_two_pow_sub_one_eq_mod _ 8
theorem pair_says {c : Int32} (h0 : ¬ c < 0) (h1 : ¬ 65535 < c) : pairCh (lo8 c) (hi8 c) = c := by
  rw [Int32.lt_iff_toInt_lt] at h0 h1
  have e0 : (0 : Int32).toInt = 0 := rfl
  have e1 : (65535 : Int32).toInt = 65535 := rfl
  have hc : c.toInt = c.toBitVec.toNat := by
    have := c.toBitVec.isLt
    have e : c.toInt = c.toBitVec.toInt := rfl
    rw [e] at h0 h1
    rw [e]
    rw [BitVec.toInt_eq_toNat_cond] at h0 h1 ⊢
    split at h0 <;> split <;> omega
  have hn : c.toBitVec.toNat < 65536 := by omega
  have a1 := lo8_and c
  have a2 : (hi8 c &&& 255).toBitVec.toNat = c.toBitVec.toNat / 256 := by
    rw [hi8, lo8_and]
    have e : ((8 : Int32) &&& 31) = 8 := by decide
    rw [e, Int32.toBitVec_shiftRight]
    have e2 : ((8 : Int32).toBitVec.smod 32) = 8#32 := by decide
    rw [e2, BitVec.sshiftRight_eq', BitVec.toNat_sshiftRight_of_msb_false (by rw [BitVec.msb_eq_false_iff_two_mul_lt]; omega)]
    show c.toBitVec.toNat >>> 8 % 256 = _
    rw [Nat.shiftRight_eq_div_pow]
    omega
  unfold pairCh
  apply Int32.toBitVec_inj.mp
  apply BitVec.eq_of_toNat_eq
  have f0 : ((0 : Int32) &&& 31) = 0 := by decide
  have f8 : ((8 : Int32) &&& 31) = 8 := by decide
  rw [f0, f8]
  have g : (((lo8 c &&& 255) <<< (0 : Int32)) ||| ((hi8 c &&& 255) <<< (8 : Int32))).toBitVec.toNat = c.toBitVec.toNat := by
    rw [Int32.toBitVec_or, Int32.toBitVec_shiftLeft, Int32.toBitVec_shiftLeft]
    have s0 : ((0 : Int32).toBitVec.smod 32) = 0#32 := by decide
    have s8 : ((8 : Int32).toBitVec.smod 32) = 8#32 := by decide
    rw [s0, s8, BitVec.toNat_or]
    simp only [BitVec.shiftLeft_eq', BitVec.toNat_shiftLeft, a1, a2]
    show (c.toBitVec.toNat % 256) <<< 0 % 2 ^ 32 ||| (c.toBitVec.toNat / 256) <<< 8 % 2 ^ 32 = _
    rw [Nat.shiftLeft_zero, Nat.mod_eq_of_lt (show c.toBitVec.toNat % 256 < 2 ^ 32 by omega), Nat.mod_eq_of_lt (show (c.toBitVec.toNat / 256) <<< 8 < 2 ^ 32 by rw [Nat.shiftLeft_eq]; omega), Nat.or_comm, ← Nat.shiftLeft_add_eq_or_of_lt (by omega), Nat.shiftLeft_eq]
    omega
  show BitVec.toNat (((((lo8 c &&& 255) <<< (0 : Int32)) ||| ((hi8 c &&& 255) <<< (8 : Int32))).toBitVec.setWidth 16).setWidth 32) = _
  rw [BitVec.toNat_setWidth, BitVec.toNat_setWidth, g]
  omega
end StrChars
namespace StrChars
open Jvm Sem ClassFile Op Lib Jvm.Stand Jvm.Free.XT Jvm.Free.ALB Jvm.Free.JM Jvm.Free
open Jvm.Lib.Cold (StaticIs)
/-- the array's cell V codes the n chars f 0 .. f (n - 1) by the coder cd, as the JDK does: coder 1 just where some char is above 255 -/
def Cod (cd : Int32) (n : Nat) (f : Nat → Int32) (V : Cell) : Prop := (cd = 0 ∧ V.slots.size = n ∧ ∀ j, j < n → V.slots[j]? = some (.int (lo8 (f j))) ∧ ¬ 255 < f j) ∨ (cd = 1 ∧ V.slots.size = 2 * n ∧ (∀ j, j < n → V.slots[2 * j]? = some (.int (lo8 (f j))) ∧ V.slots[2 * j + 1]? = some (.int (hi8 (f j)))) ∧ ∃ j, j < n ∧ 255 < f j)
/-- **x is a String of the n chars f 0 .. f (n - 1)**, Latin-1 or UTF-16; its array at t has the cell V -/
def Txt (x t : Addr) (V : Cell) (cd : Int32) (n : Nat) (f : Nat → Int32) (U : State) : Prop := Exact "java/lang/String" x U ∧ Has x "java/lang/String" "value" "[B" (.ref t) U ∧ Has x "java/lang/String" "coder" "B" (.int cd) U ∧ XT.Arr .byte t V U ∧ Cod cd n f V ∧ ∀ j, j < n → ¬ f j < 0 ∧ ¬ 65535 < f j
theorem Txt.mv {x t : Addr} {V : Cell} {cd : Int32} {n : Nat} {f : Nat → Int32} {U U' : State} (h : Txt x t V cd n f U) (hal : U.vm.Alike U'.vm) (hh : U'.heap = U.heap) : Txt x t V cd n f U' := ⟨h.1.mv hal hh, h.2.1.mv hal hh, h.2.2.1.mv hal hh, h.2.2.2.1.mv hal hh, h.2.2.2.2⟩
end StrChars
namespace StrChars.Road
open Jvm Sem ClassFile Op Lib Jvm.Stand Jvm.Free Jvm.Free.XT
open Jvm.Lib.Cold (StaticIs)
theorem consq {a : Array Value} {s : State} {c : Jvm.Cond} {L : List Jvm.Cond} (h0 : c.before a s = true) (h : ∀ w ∈ L, w.before a s = true) : ∀ w ∈ c :: L, w.before a s = true := fun w hw => (List.mem_cons.mp hw).elim (fun e => e ▸ h0) (h w)
/-- the bytes of the chars cs, low before high -/
def wideBytes : List Int32 → List Value
  | [] => []
  | c :: cs => .int (lo8 c) :: .int (hi8 c) :: wideBytes cs
theorem wide_lo (d : Value) : ∀ (cs : List Int32) (j : Nat), j < cs.length → (wideBytes cs).getD (2 * j) d = .int (lo8 (cs.getD j 0))
  | [], j, h => absurd h (Nat.not_lt_zero j)
  | c :: cs, 0, _ => rfl
  | c :: cs, j + 1, h => by
    have q := wide_lo d cs j (by simpa using h)
    rw [show 2 * (j + 1) = 2 * j + 1 + 1 from by omega]
    simpa [wideBytes] using q
theorem wide_hi (d : Value) : ∀ (cs : List Int32) (j : Nat), j < cs.length → (wideBytes cs).getD (2 * j + 1) d = .int (hi8 (cs.getD j 0))
  | [], j, h => absurd h (Nat.not_lt_zero j)
  | c :: cs, 0, _ => rfl
  | c :: cs, j + 1, h => by
    have q := wide_hi d cs j (by simpa using h)
    rw [show 2 * (j + 1) + 1 = 2 * j + 1 + 1 + 1 from by omega]
    simpa [wideBytes] using q
theorem low_at (d : Value) (cs : List Int32) (j : Nat) (h : j < cs.length) : (cs.map fun c => Value.int (lo8 c)).getD j d = .int (lo8 (cs.getD j 0)) := by
  simp [List.getD_eq_getElem?_getD, h]
/-- an array of N2 bytes vs codes the chars cs by the coder cd -/
def CodA (cs : List Int32) (cd N2 : Int32) (vs : List Value) : Prop := (cd = 0 ∧ N2 = Int32.ofNat cs.length ∧ vs = (cs.map fun c => Value.int (lo8 c)) ∧ ∀ c ∈ cs, ¬ 255 < c) ∨ (cd = 1 ∧ N2 = Int32.ofNat (2 * cs.length) ∧ vs = wideBytes cs ∧ ∃ c ∈ cs, 255 < c)
theorem CodA.cod {cs : List Int32} {cd N2 : Int32} {vs : List Value} {V : Cell} (h : CodA cs cd N2 vs) (hn : 2 * cs.length < 2 ^ 31) (hs : V.slots.size = N2.toNatClampNeg) (hv : RoadKit.Has V vs (.int 0)) : Cod cd cs.length (fun j => cs.getD j 0) V := by
  rcases h with ⟨rfl, rfl, rfl, h⟩ | ⟨rfl, rfl, rfl, c, hc, hw⟩
  · rw [n32 (by omega)] at hs
    exact Or.inl ⟨rfl, hs, fun j hj => ⟨by rw [hv j (by omega), low_at _ _ _ hj], by
      have e : cs.getD j 0 = cs[j] := by simp [List.getD_eq_getElem?_getD, hj]
      show ¬ 255 < cs.getD j 0
      rw [e]; exact h _ (List.getElem_mem _)⟩⟩
  · rw [n32 (by omega)] at hs
    obtain ⟨j, hj, rfl⟩ := List.getElem_of_mem hc
    exact Or.inr ⟨rfl, hs, fun j hj => ⟨by rw [hv _ (by omega), wide_lo _ _ _ hj], by rw [hv _ (by omega), wide_hi _ _ _ hj]⟩, j, hj, by
      have e : cs.getD j 0 = cs[j] := by simp [List.getD_eq_getElem?_getD, hj]
      show 255 < cs.getD j 0
      rw [e]; exact hw⟩
/-- an object of exactly java/lang/String, its two fields found: as the laws ask it -/
theorem strObj {Z U : State} {a0 : Array Value} {kI : Nat} (wi : (Jvm.Cond.instantiable ST kI).before a0 Z = true) (al : Z.vm.Alike U.vm) {x : Addr} {v0 c0 : Value} (E : RoadKit.Exa Z U.heap x ST) (V : RoadKit.Fld Z U.heap x ST "value" "[B" v0) (C : RoadKit.Fld Z U.heap x ST "coder" "B" c0) :
    ∃ (D : Cell) (fV fC : Field), Blank ST x D U ∧ Found ST "value" "[B" fV U ∧ Found ST "coder" "B" fC U ∧ D.slots[fV.slot]? = some v0 ∧ D.slots[fC.slot]? = some c0 ∧ RoadKit.slotOf Z ST "value" "[B" = fV.slot ∧ RoadKit.slotOf Z ST "coder" "B" = fC.slot := by
  obtain ⟨D, cfV, kV, iV, fV, hD, gV, stV, knV, obV, asV, slV⟩ := V
  obtain ⟨D', cfC, kC, iC, fC, hD', gC, stC, -, -, asC, slC⟩ := C
  cases hD.symm.trans hD'
  obtain ⟨D2, kD, e1, e2, e3, e4, e5⟩ := E
  cases hD.symm.trans e1
  obtain ⟨c2, k2, i1, i2, i3, -⟩ := Cond.instantiable_spec wi
  cases e2.symm.trans i1
  cases e3.symm.trans i2
  obtain ⟨kU, u1, u2⟩ := al.2.2 _ _ e3
  exact ⟨D, fV, fC, ⟨hD, ⟨knV, fun q hq => by rw [hq] at obV; cases obV⟩, by rw [al.findClass]; exact e2, kU, u1, by rw [u2]; exact i3, by rw [u2]; exact e5 i3⟩, ⟨SBG.found_only al ⟨cfV, kV, iV, gV⟩, stV⟩, ⟨SBG.found_only al ⟨cfC, kC, iC, gC⟩, stC⟩, slV, slC, by simp [RoadKit.slotOf, gV], by simp [RoadKit.slotOf, gC]⟩
theorem sta_is {Z U : State} (al : Z.vm.Alike U.vm) {C n d : String} {v : Value} (S : RoadKit.Sta Z U.heap C n d v) : StaticIs U C n d v := by
  obtain ⟨cfS, iS, kS, fS, st, cS, t1, t2, t3, t4, t5, t6, t7⟩ := S
  exact StaticIs.there (s := { Z with heap := U.heap }) ⟨cfS, iS, kS, fS, st, cS, t1, t2, t3, t4, t5, (fun q => by rw [q] at t6; cases t6), t7⟩ al rfl
end StrChars.Road
namespace StrChars
open Jvm Sem ClassFile Op Lib Jvm.Stand Jvm.Free.XT Jvm.Free.ALB Jvm.Free.JM Jvm.Free
open Jvm.Lib.Cold (StaticIs)
/-- what place i of a byte[]'s cell holds -/
def yv (A : Cell) (i : Nat) : Int32 := match A.slots[i]? with | some (.int x) => x | _ => 0
theorem yv_get {a : Addr} {A : Cell} {U : State} (h : XT.Arr .byte a A U) (ht : Typed .byte A) {i : Nat} (hi : i < A.slots.size) : A.slots[i]? = some (.int (yv A i)) := by
  have e := Array.getElem?_eq_getElem hi
  have f := ht i _ e
  unfold yv; rw [e]
  generalize A.slots[i] = v at f
  cases v <;> simp [fits] at f ⊢
/-- the two arrays are equal, place for place -/
def EqC (A B : Cell) : Prop := A.slots.size = B.slots.size ∧ ∀ i, i < A.slots.size → yv A i = yv B i
/-- a boolean that says whether p -/
def Says01 (q : Prop) (r : Option Value) (s u : State) : Prop := ∃ v : Int32, r = some (.int v) ∧ u.heap = s.heap ∧ ((v = 1 ∧ q) ∨ (v = 0 ∧ ¬ q))
theorem Says01.mv {q : Prop} : ∀ r (U U' V V' : State), U'.heap = U.heap → V.vm.Alike V'.vm → V'.heap = V.heap → Says01 q r U V → Says01 q r U' V' :=
  fun r U U' V V' h1 _ h2 ⟨v, a, b, c⟩ => ⟨v, a, by rw [h1, h2]; exact b, c⟩
namespace LEq
def yN : MethodName := ⟨"java/lang/StringLatin1", "equals", "([B[B)Z"⟩
abbrev yB : ByteArray := jdk_43_method_13_code
theorem d0 : decode yB 0 = .ok (.aload_n 0, 1) := by decide +kernel
theorem d1 : decode yB 1 = .ok (.arraylength, 1) := by decide +kernel
theorem d2 : decode yB 2 = .ok (.aload_n 1, 1) := by decide +kernel
theorem d3 : decode yB 3 = .ok (.arraylength, 1) := by decide +kernel
theorem d4 : decode yB 4 = .ok (.if_icmp (.ne) 30, 3) := by decide +kernel
theorem d7 : decode yB 7 = .ok (.iconst 0, 1) := by decide +kernel
theorem d8 : decode yB 8 = .ok (.istore_n 2, 1) := by decide +kernel
theorem d9 : decode yB 9 = .ok (.iload_n 2, 1) := by decide +kernel
theorem d10 : decode yB 10 = .ok (.aload_n 0, 1) := by decide +kernel
theorem d11 : decode yB 11 = .ok (.arraylength, 1) := by decide +kernel
theorem d12 : decode yB 12 = .ok (.if_icmp (.ge) 20, 3) := by decide +kernel
theorem d15 : decode yB 15 = .ok (.aload_n 0, 1) := by decide +kernel
theorem d16 : decode yB 16 = .ok (.iload_n 2, 1) := by decide +kernel
theorem d17 : decode yB 17 = .ok (.baload, 1) := by decide +kernel
theorem d18 : decode yB 18 = .ok (.aload_n 1, 1) := by decide +kernel
theorem d19 : decode yB 19 = .ok (.iload_n 2, 1) := by decide +kernel
theorem d20 : decode yB 20 = .ok (.baload, 1) := by decide +kernel
theorem d21 : decode yB 21 = .ok (.if_icmp (.eq) 5, 3) := by decide +kernel
theorem d24 : decode yB 24 = .ok (.iconst 0, 1) := by decide +kernel
theorem d25 : decode yB 25 = .ok (.ireturn, 1) := by decide +kernel
theorem d26 : decode yB 26 = .ok (.iinc 2 1, 3) := by decide +kernel
theorem d29 : decode yB 29 = .ok (.goto (-20), 3) := by decide +kernel
theorem d32 : decode yB 32 = .ok (.iconst 1, 1) := by decide +kernel
theorem d33 : decode yB 33 = .ok (.ireturn, 1) := by decide +kernel
theorem d34 : decode yB 34 = .ok (.iconst 0, 1) := by decide +kernel
theorem d35 : decode yB 35 = .ok (.ireturn, 1) := by decide +kernel
def site : List Cond := []
def tab : Cond := tabOf yN yB 3 (some .boolean) site
def P (a : Addr) (A : Cell) (b : Addr) (B : Cell) (args : Array Value) (s : State) : Prop := args = #[.ref a, .ref b] ∧ XT.Arr .byte a A s ∧ Typed .byte A ∧ XT.Arr .byte b B s ∧ Typed .byte B
/-- whether two byte[] are equal, place for place -/
theorem law (l : Launch) (a : Addr) (A : Cell) (b : Addr) (B : Cell) : Law l yN 2 2 0 0 yB 3 (some .boolean) site (P a A b B) (Says01 (EqC A B)) [] 0 0 := by
  refine Law.of_walk (plainFor_of_name (by decide +kernel)) (by decide +kernel) (by decide +kernel) (by decide) (fun _ _ h => by rw [h.1]; rfl) (fun _ U U' hal hh h => ⟨h.1, h.2.1.mv hal hh, h.2.2.1, h.2.2.2.1.mv hal hh, h.2.2.2.2⟩) (fun r U U' V V' h1 hal h2 h => Says01.mv r U U' V V' h1 hal h2 h) ?_
  intro p e s m args below meth c s₁ X0 hexec hbytes hml hret hlk hnm hown hh0 W hP
  obtain ⟨rfl, hA, tA, hB, tB⟩ := hP
  have a31 := hA.2.2.2
  have b31 := hB.2.2.2
  have hA0 := hA.mv X0.warmed.alike hh0
  have hB0 := hB.mv X0.warmed.alike hh0
  have c1 : Steps p.tables e below (s₁.setTop (entryFrame m #[.ref a, .ref b] 3)) (s₁.setTop (mkF m 0 #[.val (.ref a), .val (.ref b), .unset] [])) := entry rfl
  have c2 : Steps p.tables e below (s₁.setTop (entryFrame m #[.ref a, .ref b] 3)) (s₁.setTop (mkF m 4 #[.val (.ref a), .val (.ref b), .unset] [.int (Int32.ofNat B.slots.size), .int (Int32.ofNat A.slots.size)])) := c1.trans (by
    refine XS.aloadN X0.here hexec rfl (hb hbytes d0) rfl rfl ?_
    refine X0.alen hexec hA0 rfl rfl (hb hbytes d1) ?_
    refine XS.aloadN X0.here hexec rfl (hb hbytes d2) rfl rfl ?_
    refine X0.alen hexec hB0 rfl rfl (hb hbytes d3) ?_
    exact Steps.refl _)
  by_cases hs : A.slots.size = B.slots.size
  · have c3 : Steps p.tables e below (s₁.setTop (entryFrame m #[.ref a, .ref b] 3)) (s₁.setTop (mkF m 9 #[.val (.ref a), .val (.ref b), .val (.int 0)] [])) := c2.trans (by
      refine XS.icmpNo X0.here hexec rfl (hb hbytes d4) rfl (ii_ne_f (by rw [hs])) ?_
      refine iconstV X0.here hexec rfl 0 (hb hbytes d7) (by decide) ?_
      refine XS.istoreN X0.here hexec rfl (hb hbytes d8) rfl rfl ?_
      exact Steps.refl _)
    have loop : ∀ (r i : Nat), i + r = A.slots.size → (∀ j, j < i → yv A j = yv B j) → Steps p.tables e below (s₁.setTop (entryFrame m #[.ref a, .ref b] 3)) (s₁.setTop (mkF m 9 #[.val (.ref a), .val (.ref b), .val (.int (Int32.ofNat i))] [])) → ∃ (pc : Nat) (Ls : Array Slot) (v : Int32), (pc = 25 ∨ pc = 33) ∧ ((v = 1 ∧ EqC A B) ∨ (v = 0 ∧ ¬ EqC A B)) ∧ Steps p.tables e below (s₁.setTop (entryFrame m #[.ref a, .ref b] 3)) (s₁.setTop (mkF m pc Ls [.int v])) := by
      intro r
      induction r with
      | zero =>
        intro i hi he cl
        exact ⟨33, _, 1, Or.inr rfl, Or.inl ⟨rfl, hs, fun j hj => he j (by omega)⟩, cl.trans (by
          refine XS.iloadN X0.here hexec rfl (hb hbytes d9) rfl ?_
          refine XS.aloadN X0.here hexec rfl (hb hbytes d10) rfl rfl ?_
          refine X0.alen hexec hA0 rfl rfl (hb hbytes d11) ?_
          refine XS.icmpYes X0.here hexec rfl (pc0 := 12) rfl (hb hbytes d12) rfl (ii_ge_t (nlt32 (by omega) (by omega))) (by decide) rfl ?_
          refine iconstV X0.here hexec rfl 1 (hb hbytes d32) (by decide) ?_
          exact Steps.refl _)⟩
      | succ r ih =>
        intro i hi he cl
        have c4 : Steps p.tables e below (s₁.setTop (entryFrame m #[.ref a, .ref b] 3)) (s₁.setTop (mkF m 21 #[.val (.ref a), .val (.ref b), .val (.int (Int32.ofNat i))] [.int (yv B i), .int (yv A i)])) := cl.trans (by
          refine XS.iloadN X0.here hexec rfl (hb hbytes d9) rfl ?_
          refine XS.aloadN X0.here hexec rfl (hb hbytes d10) rfl rfl ?_
          refine X0.alen hexec hA0 rfl rfl (hb hbytes d11) ?_
          refine XS.icmpNo X0.here hexec rfl (hb hbytes d12) rfl (ii_ge_f (lt32 (by omega) (by omega))) ?_
          refine XS.aloadN X0.here hexec rfl (hb hbytes d15) rfl rfl ?_
          refine XS.iloadN X0.here hexec rfl (hb hbytes d16) rfl ?_
          refine X0.aget hexec hA0 rfl (yv_get hA tA (i := i) (by omega)) rfl rfl (hb hbytes d17) ?_
          refine XS.aloadN X0.here hexec rfl (hb hbytes d18) rfl rfl ?_
          refine XS.iloadN X0.here hexec rfl (hb hbytes d19) rfl ?_
          refine X0.aget hexec hB0 rfl (yv_get hB tB (i := i) (by omega)) rfl rfl (hb hbytes d20) ?_
          exact Steps.refl _)
        by_cases hv : yv A i = yv B i
        · have c5 : Steps p.tables e below (s₁.setTop (entryFrame m #[.ref a, .ref b] 3)) (s₁.setTop (mkF m 9 #[.val (.ref a), .val (.ref b), .val (.int (Int32.ofNat i + 1))] [])) := c4.trans (by
            refine XS.icmpYes X0.here hexec rfl (pc0 := 21) rfl (hb hbytes d21) rfl (ii_eq_t hv) (by decide) rfl ?_
            refine iincV X0.here hexec rfl 1 (hb hbytes d26) (by decide) rfl rfl ?_
            refine XS.goto X0.here hexec rfl (pc0 := 29) rfl (hb hbytes d29) (by decide) rfl ?_
            exact Steps.refl _)
          rw [succ32] at c5
          exact ih (i + 1) (by omega) (fun j hj => by
            by_cases e : j = i
            · rw [e]; exact hv
            · exact he j (by omega)) c5
        · exact ⟨25, _, 0, Or.inl rfl, Or.inr ⟨rfl, fun q => hv (q.2 i (by omega))⟩, c4.trans (by
            refine XS.icmpNo X0.here hexec rfl (hb hbytes d21) rfl (ii_eq_f hv) ?_
            refine iconstV X0.here hexec rfl 0 (hb hbytes d24) (by decide) ?_
            exact Steps.refl _)⟩
    obtain ⟨pc, Ls, v, hpc, hv, cz⟩ := loop A.slots.size 0 (by omega) (fun j hj => absurd hj (Nat.not_lt_zero j)) c3
    have nv : narrow .boolean (.int v) = .int v := by rcases hv with ⟨rfl, -⟩ | ⟨rfl, -⟩ <;> rfl
    rcases hpc with rfl | rfl
    · exact ⟨s₁, some (.int v), _, _, _, X0, rfl, rfl, rfl, (fun h => by cases h), ⟨v, rfl, hh0, hv⟩, fun fs hl => cz.trans (X0.ireturnOut hexec hret nv (Or.inr (Or.inl rfl)) (hb hbytes d25) hl)⟩
    · exact ⟨s₁, some (.int v), _, _, _, X0, rfl, rfl, rfl, (fun h => by cases h), ⟨v, rfl, hh0, hv⟩, fun fs hl => cz.trans (X0.ireturnOut hexec hret nv (Or.inr (Or.inl rfl)) (hb hbytes d33) hl)⟩
  · have c3 : Steps p.tables e below (s₁.setTop (entryFrame m #[.ref a, .ref b] 3)) (s₁.setTop (mkF m 35 #[.val (.ref a), .val (.ref b), .unset] [.int 0])) := c2.trans (by
      refine XS.icmpYes X0.here hexec rfl (pc0 := 4) rfl (hb hbytes d4) rfl (ii_ne_t (ne32 a31 b31 hs)) (by decide) rfl ?_
      refine iconstV X0.here hexec rfl 0 (hb hbytes d34) (by decide) ?_
      exact Steps.refl _)
    exact ⟨s₁, some (.int 0), _, _, _, X0, rfl, rfl, rfl, (fun h => by cases h), ⟨0, rfl, hh0, Or.inr ⟨rfl, fun q => hs q.1⟩⟩, fun fs hl => c3.trans (X0.ireturnOut hexec hret rfl (Or.inr (Or.inl rfl)) (hb hbytes d35) hl)⟩
end LEq
theorem Cod.ty {cd : Int32} {n : Nat} {f : Nat → Int32} {V : Cell} (h : Cod cd n f V) : Typed .byte V := fun i v hv => by
  have hi : i < V.slots.size := (Array.getElem?_eq_some_iff.mp hv).1
  rcases h with ⟨-, k1, k2⟩ | ⟨-, k1, k2, -⟩
  · rw [(k2 i (by omega)).1] at hv; cases hv; exact fits_lo8 _
  · rcases Nat.mod_two_eq_zero_or_one i with e | e
    · obtain ⟨j, rfl⟩ : ∃ j, i = 2 * j := ⟨i / 2, by omega⟩
      rw [(k2 j (by omega)).1] at hv; cases hv; exact fits_lo8 _
    · obtain ⟨j, rfl⟩ : ∃ j, i = 2 * j + 1 := ⟨i / 2, by omega⟩
      rw [(k2 j (by omega)).2] at hv; cases hv; exact fits_lo8 _
/-- the same text -/
def SameT (n : Nat) (f : Nat → Int32) (k : Nat) (g : Nat → Int32) : Prop := n = k ∧ ∀ j, j < n → f j = g j
theorem lo8_inj {x y : Int32} (h0 : ¬ x < 0) (h1 : ¬ 255 < x) (k0 : ¬ y < 0) (k1 : ¬ 255 < y) (h : lo8 x = lo8 y) : x = y := by
  rw [← lo8_mask h0 h1, ← lo8_mask k0 k1, h]
/-- arrays coded by one coder are equal just where the texts are -/
theorem Cod.eqv {cd : Int32} {n k : Nat} {f g : Nat → Int32} {V V' : Cell} (h : Cod cd n f V) (h' : Cod cd k g V') (hf : ∀ j, j < n → ¬ f j < 0 ∧ ¬ 65535 < f j) (hg : ∀ j, j < k → ¬ g j < 0 ∧ ¬ 65535 < g j) : EqC V V' ↔ SameT n f k g := by
  have yvv : ∀ {W : Cell} {i : Nat} {x : Int32}, W.slots[i]? = some (.int x) → yv W i = x := fun q => by unfold yv; rw [q]
  rcases h with ⟨rfl, k1, k2⟩ | ⟨rfl, k1, k2, -⟩
  · rcases h' with ⟨-, m1, m2⟩ | ⟨e, -⟩
    · constructor
      · rintro ⟨e1, e2⟩
        refine ⟨by omega, fun j hj => ?_⟩
        have q := e2 j (by omega)
        rw [yvv (k2 j hj).1, yvv (m2 j (by omega)).1] at q
        exact lo8_inj (hf j hj).1 (k2 j hj).2 (hg j (by omega)).1 (m2 j (by omega)).2 q
      · rintro ⟨rfl, e2⟩
        refine ⟨by omega, fun j hj => ?_⟩
        rw [yvv (k2 j (by omega)).1, yvv (m2 j (by omega)).1, e2 j (by omega)]
    · exact absurd e (by decide)
  · rcases h' with ⟨e, -⟩ | ⟨-, m1, m2, -⟩
    · exact absurd e (by decide)
    · constructor
      · rintro ⟨e1, e2⟩
        refine ⟨by omega, fun j hj => ?_⟩
        have q1 := e2 (2 * j) (by omega)
        have q2 := e2 (2 * j + 1) (by omega)
        rw [yvv (k2 j hj).1, yvv (m2 j (by omega)).1] at q1
        rw [yvv (k2 j hj).2, yvv (m2 j (by omega)).2] at q2
        rw [← pair_says (hf j hj).1 (hf j hj).2, ← pair_says (hg j (by omega)).1 (hg j (by omega)).2, q1, q2]
      · rintro ⟨rfl, e2⟩
        refine ⟨by omega, fun i hi => ?_⟩
        rcases Nat.mod_two_eq_zero_or_one i with e | e
        · obtain ⟨j, rfl⟩ : ∃ j, i = 2 * j := ⟨i / 2, by omega⟩
          rw [yvv (k2 j (by omega)).1, yvv (m2 j (by omega)).1, e2 j (by omega)]
        · obtain ⟨j, rfl⟩ : ∃ j, i = 2 * j + 1 := ⟨i / 2, by omega⟩
          rw [yvv (k2 j (by omega)).2, yvv (m2 j (by omega)).2, e2 j (by omega)]
/-- two codings differ: so do the texts -/
theorem Cod.dif {cd cd' : Int32} {n k : Nat} {f g : Nat → Int32} {V V' : Cell} (h : Cod cd n f V) (h' : Cod cd' k g V') (hne : ¬ cd = cd') : ¬ SameT n f k g := by
  rintro ⟨rfl, e⟩
  rcases h with ⟨rfl, -, k2⟩ | ⟨rfl, -, -, j, hj, hw⟩
  · rcases h' with ⟨rfl, -⟩ | ⟨-, -, -, j, hj, hw⟩
    · exact hne rfl
    · exact (k2 j hj).2 (by rw [e j hj]; exact hw)
  · rcases h' with ⟨-, -, m2⟩ | ⟨rfl, -⟩
    · exact (m2 j hj).2 (by rw [← e j hj]; exact hw)
    · exact hne rfl
/-- an object of exactly C is an instance of C -/
theorem cinst {p : Program} {l : Launch} {e : Env} {R : Room} {s : State} {m : MethodId} {args : Array Value} {below : List Frame} {meth : Method} {c : Code} {T : State} {locs : List Loc} {cells slots : Nat} (X : Stand p l e R s m args below meth c T locs cells slots) (hexec : p.tables.exec = Jvm.exec) {own C : String} {index : Nat} (hown : s.vm.findClass own = some m.cls) (hlink : (Cond.classLink own index C).before args s = true) {a : Addr} (hE : Exact C a T)
    {g : JFrame} (hg : g.method = m) {rest : List Value} (hstack : g.stack = .ref a :: rest) (hdg : decode c.code g.pc = .ok (.instanceof index, 3)) :
    ∃ T', Stand p l e R s m args below meth c T' locs cells slots ∧ T'.heap = T.heap ∧ ∀ target, Steps p.tables e below (T'.setTop { g with pc := g.pc + 3, stack := .int 1 :: rest }) target → Steps p.tables e below (T.setTop g) target := by
  obtain ⟨cB, h1, D, h2, h3, h4⟩ := hE
  have h1' : s.vm.findClass C = some cB := by rw [← X.warmed.alike.findClass]; exact h1
  obtain ⟨vm', X', st⟩ := X.instanceofYes hexec hown hlink h2 h4 h1' (by rw [h3]; exact Jvm.Free.SB.assignable_self _ _) hg hstack hdg
  exact ⟨_, X', rfl, st⟩
theorem cself {p : Program} {l : Launch} {e : Env} {R : Room} {s : State} {m : MethodId} {args : Array Value} {below : List Frame} {meth : Method} {c : Code} {T : State} {locs : List Loc} {cells slots : Nat} (X : Stand p l e R s m args below meth c T locs cells slots) (hexec : p.tables.exec = Jvm.exec) {own C : String} {index : Nat} (hown : s.vm.findClass own = some m.cls) (hlink : (Cond.classLink own index C).before args s = true) {a : Addr} (hE : Exact C a T)
    {g : JFrame} (hg : g.method = m) {rest : List Value} (hstack : g.stack = .ref a :: rest) (hdg : decode c.code g.pc = .ok (.checkcast index, 3)) :
    ∃ T', Stand p l e R s m args below meth c T' locs cells slots ∧ T'.heap = T.heap ∧ ∀ target, Steps p.tables e below (T'.setTop { g with pc := g.pc + 3, stack := .ref a :: rest }) target → Steps p.tables e below (T.setTop g) target := by
  obtain ⟨cB, h1, D, h2, h3, h4⟩ := hE
  have h1' : s.vm.findClass C = some cB := by rw [← X.warmed.alike.findClass]; exact h1
  obtain ⟨vm', X', st⟩ := X.checkcastYes hexec hown hlink h2 h4 h1' (by rw [h3]; exact Jvm.Free.SB.assignable_self _ _) hg hstack hdg
  exact ⟨_, X', rfl, fun t h => st t (by rw [← hstack] at h; exact h)⟩
namespace SEq
def yN : MethodName := ⟨"java/lang/String", "equals", "(Ljava/lang/Object;)Z"⟩
abbrev yB : ByteArray := jdk_42_method_66_code
theorem d0 : decode yB 0 = .ok (.aload_n 0, 1) := by decide +kernel
theorem d1 : decode yB 1 = .ok (.aload_n 1, 1) := by decide +kernel
theorem d2 : decode yB 2 = .ok (.if_acmp (.ne) 5, 3) := by decide +kernel
theorem d5 : decode yB 5 = .ok (.iconst 1, 1) := by decide +kernel
theorem d6 : decode yB 6 = .ok (.ireturn, 1) := by decide +kernel
theorem d7 : decode yB 7 = .ok (.aload_n 1, 1) := by decide +kernel
theorem d8 : decode yB 8 = .ok (.instanceof 10, 3) := by decide +kernel
theorem d11 : decode yB 11 = .ok (.ifCond (.eq) 43, 3) := by decide +kernel
theorem d14 : decode yB 14 = .ok (.aload_n 1, 1) := by decide +kernel
theorem d15 : decode yB 15 = .ok (.checkcast 10, 3) := by decide +kernel
theorem d18 : decode yB 18 = .ok (.astore_n 2, 1) := by decide +kernel
theorem d19 : decode yB 19 = .ok (.getstatic 38, 3) := by decide +kernel
theorem d22 : decode yB 22 = .ok (.ifCond (.eq) 14, 3) := by decide +kernel
theorem d25 : decode yB 25 = .ok (.aload_n 0, 1) := by decide +kernel
theorem d26 : decode yB 26 = .ok (.getfield 15, 3) := by decide +kernel
theorem d29 : decode yB 29 = .ok (.aload_n 2, 1) := by decide +kernel
theorem d30 : decode yB 30 = .ok (.getfield 15, 3) := by decide +kernel
theorem d33 : decode yB 33 = .ok (.if_icmp (.ne) 21, 3) := by decide +kernel
theorem d36 : decode yB 36 = .ok (.aload_n 0, 1) := by decide +kernel
theorem d37 : decode yB 37 = .ok (.getfield 9, 3) := by decide +kernel
theorem d40 : decode yB 40 = .ok (.aload_n 2, 1) := by decide +kernel
theorem d41 : decode yB 41 = .ok (.getfield 9, 3) := by decide +kernel
theorem d44 : decode yB 44 = .ok (.invokestatic 541, 3) := by decide +kernel
theorem d47 : decode yB 47 = .ok (.ifCond (.eq) 7, 3) := by decide +kernel
theorem d50 : decode yB 50 = .ok (.iconst 1, 1) := by decide +kernel
theorem d51 : decode yB 51 = .ok (.goto 4, 3) := by decide +kernel
theorem d54 : decode yB 54 = .ok (.iconst 0, 1) := by decide +kernel
theorem d55 : decode yB 55 = .ok (.ireturn, 1) := by decide +kernel
def site : List Cond := [.classLink "java/lang/String" 10 "java/lang/String", .fieldLink "java/lang/String" 38 "java/lang/String" "COMPACT_STRINGS" "Z", .fieldLink "java/lang/String" 15 "java/lang/String" "coder" "B", .fieldLink "java/lang/String" 9 "java/lang/String" "value" "[B", LEq.tab] ++ staticW "java/lang/String" 541 LEq.yN
def tab : Cond := tabOf yN yB 3 (some .boolean) site
def P (x t : Addr) (V : Cell) (cd : Int32) (n : Nat) (f : Nat → Int32) (y t' : Addr) (V' : Cell) (cd' : Int32) (k : Nat) (g : Nat → Int32) (z : Int32) (args : Array Value) (s : State) : Prop := args = #[.ref x, .ref y] ∧ Txt x t V cd n f s ∧ Txt y t' V' cd' k g s ∧ StaticIs s "java/lang/String" "COMPACT_STRINGS" "Z" (.int z) ∧ ¬ z = 0
/-- equals(Object) of two Strings: whether the texts are the same -/
theorem law (l : Launch) (x t : Addr) (V : Cell) (cd : Int32) (n : Nat) (f : Nat → Int32) (y t' : Addr) (V' : Cell) (cd' : Int32) (k : Nat) (g : Nat → Int32) (z : Int32) : Law l yN 2 1 1 14 yB 3 (some .boolean) site (P x t V cd n f y t' V' cd' k g z) (Says01 (SameT n f k g)) [] 0 0 := by
  refine Law.of_walk (plainFor_of_name (by decide +kernel)) (by decide +kernel) (by decide +kernel) (by decide) (fun _ _ h => by rw [h.1]; rfl) (fun _ U U' hal hh h => ⟨h.1, h.2.1.mv hal hh, h.2.2.1.mv hal hh, h.2.2.2.1.there hal hh, h.2.2.2.2⟩) (fun r U U' V V' h1 hal h2 h => Says01.mv r U U' V V' h1 hal h2 h) ?_
  intro p e s m args below meth c s₁ X0 hexec hbytes hml hret hlk hnm hown hh0 W hP
  obtain ⟨rfl, hx, hy, s1, hz⟩ := hP
  have c1 : Steps p.tables e below (s₁.setTop (entryFrame m #[.ref x, .ref y] 3)) (s₁.setTop (mkF m 2 #[.val (.ref x), .val (.ref y), .unset] [.ref y, .ref x])) := Steps.trans (entry rfl) (by
    show Steps p.tables e below (s₁.setTop (mkF m 0 #[.val (.ref x), .val (.ref y), .unset] [])) _
    refine XS.aloadN X0.here hexec rfl (hb hbytes d0) rfl rfl ?_
    refine XS.aloadN X0.here hexec rfl (hb hbytes d1) rfl rfl ?_
    exact Steps.refl _)
  by_cases hxy : x = y
  · have c2 : Steps p.tables e below (s₁.setTop (entryFrame m #[.ref x, .ref y] 3)) (s₁.setTop (mkF m 6 #[.val (.ref x), .val (.ref y), .unset] [.int 1])) := c1.trans (by
      refine acmpNo X0.here hexec rfl (hb hbytes d2) rfl rfl rfl (by simp [acmp, hxy]) ?_
      refine iconstV X0.here hexec rfl 1 (hb hbytes d5) (by decide) ?_
      exact Steps.refl _)
    subst hxy
    have ec : cd = cd' := by
      obtain ⟨D, fd, a1, a2, a3⟩ := hx.2.2.1
      obtain ⟨D', fd', b1, b2, b3⟩ := hy.2.2.1
      cases a1.symm.trans b1
      obtain ⟨q1, q2, q3, q4⟩ := a2.1
      obtain ⟨r1, r2, r3, r4⟩ := b2.1
      cases q4.symm.trans r4
      cases a3.symm.trans b3; rfl
    have et : t = t' := by
      obtain ⟨D, fd, a1, a2, a3⟩ := hx.2.1
      obtain ⟨D', fd', b1, b2, b3⟩ := hy.2.1
      cases a1.symm.trans b1
      obtain ⟨q1, q2, q3, q4⟩ := a2.1
      obtain ⟨r1, r2, r3, r4⟩ := b2.1
      cases q4.symm.trans r4
      cases a3.symm.trans b3; rfl
    subst ec et
    have ev : V = V' := by cases hx.2.2.2.1.1.symm.trans hy.2.2.2.1.1; rfl
    subst ev
    have hs : SameT n f k g := (Cod.eqv hx.2.2.2.2.1 hy.2.2.2.2.1 hx.2.2.2.2.2 hy.2.2.2.2.2).mp ⟨rfl, fun _ _ => rfl⟩
    exact ⟨s₁, some (.int 1), _, _, _, X0, rfl, rfl, rfl, (fun h => by cases h), ⟨1, rfl, hh0, Or.inl ⟨rfl, hs⟩⟩, fun fs hl => c2.trans (X0.ireturnOut hexec hret rfl (Or.inr (Or.inl rfl)) (hb hbytes d6) hl)⟩
  · have c2 : Steps p.tables e below (s₁.setTop (entryFrame m #[.ref x, .ref y] 3)) (s₁.setTop (mkF m 8 #[.val (.ref x), .val (.ref y), .unset] [.ref y])) := c1.trans (by
      refine acmpYes X0.here hexec rfl (pc0 := 2) rfl (hb hbytes d2) rfl rfl rfl (by simp [acmp, hxy]) (by decide) rfl ?_
      refine XS.aloadN X0.here hexec rfl (hb hbytes d7) rfl rfl ?_
      exact Steps.refl _)
    obtain ⟨T3, X3, q3, st3⟩ := cinst X0 hexec hown (wk W (.classLink "java/lang/String" 10 "java/lang/String")) (hy.mv X0.warmed.alike hh0).1 (g := (mkF m 8 #[.val (.ref x), .val (.ref y), .unset] [.ref y])) rfl (rest := []) rfl (hb hbytes d8)
    have hh3 := q3.trans hh0
    have c4 : Steps p.tables e below (s₁.setTop (entryFrame m #[.ref x, .ref y] 3)) (T3.setTop (mkF m 15 #[.val (.ref x), .val (.ref y), .unset] [.ref y])) := (c2.trans (st3 _ (Steps.refl _))).trans (by
      refine XS.ifNo X3.here hexec rfl (hb hbytes d11) rfl (i0_eq_f (by decide)) ?_
      refine XS.aloadN X3.here hexec rfl (hb hbytes d14) rfl rfl ?_
      exact Steps.refl _)
    obtain ⟨T5, X5, q5, st5⟩ := cself X3 hexec hown (wk W (.classLink "java/lang/String" 10 "java/lang/String")) (hy.mv X3.warmed.alike hh3).1 (g := (mkF m 15 #[.val (.ref x), .val (.ref y), .unset] [.ref y])) rfl (rest := []) rfl (hb hbytes d15)
    have hh5 := q5.trans hh3
    have c6 : Steps p.tables e below (s₁.setTop (entryFrame m #[.ref x, .ref y] 3)) (T5.setTop (mkF m 19 #[.val (.ref x), .val (.ref y), .val (.ref y)] [])) := (c4.trans (st5 _ (Steps.refl _))).trans (by
      refine XS.astoreN X5.here hexec rfl (hb hbytes d18) rfl rfl rfl ?_
      exact Steps.refl _)
    obtain ⟨T7, X7, q7, st7⟩ := X5.sget hexec hown (wk W (.fieldLink "java/lang/String" 38 "java/lang/String" "COMPACT_STRINGS" "Z")) s1 (fun _ _ h => by rw [hh5]; exact h) (g := (mkF m 19 #[.val (.ref x), .val (.ref y), .val (.ref y)] [])) rfl (hb hbytes d19)
    have hh7 := q7.trans hh5
    have c8 : Steps p.tables e below (s₁.setTop (entryFrame m #[.ref x, .ref y] 3)) (T7.setTop (mkF m 26 #[.val (.ref x), .val (.ref y), .val (.ref y)] [.ref x])) := (c6.trans (st7 _ (Steps.refl _))).trans (by
      refine XS.ifNo X7.here hexec rfl (hb hbytes d22) rfl (i0_eq_f hz) ?_
      refine XS.aloadN X7.here hexec rfl (hb hbytes d25) rfl rfl ?_
      exact Steps.refl _)
    obtain ⟨T9, X9, q9, st9⟩ := X7.hget hexec hown (wk W (.fieldLink "java/lang/String" 15 "java/lang/String" "coder" "B")) (hx.mv X7.warmed.alike hh7).2.2.1 (g := (mkF m 26 #[.val (.ref x), .val (.ref y), .val (.ref y)] [.ref x])) rfl (rest := []) rfl (hb hbytes d26)
    have hh9 := q9.trans hh7
    have c10 : Steps p.tables e below (s₁.setTop (entryFrame m #[.ref x, .ref y] 3)) (T9.setTop (mkF m 30 #[.val (.ref x), .val (.ref y), .val (.ref y)] [.ref y, .int cd])) := (c8.trans (st9 _ (Steps.refl _))).trans (by
      refine XS.aloadN X9.here hexec rfl (hb hbytes d29) rfl rfl ?_
      exact Steps.refl _)
    obtain ⟨T11, X11, q11, st11⟩ := X9.hget hexec hown (wk W (.fieldLink "java/lang/String" 15 "java/lang/String" "coder" "B")) (hy.mv X9.warmed.alike hh9).2.2.1 (g := (mkF m 30 #[.val (.ref x), .val (.ref y), .val (.ref y)] [.ref y, .int cd])) rfl (rest := [.int cd]) rfl (hb hbytes d30)
    have hh11 := q11.trans hh9
    have c12 : Steps p.tables e below (s₁.setTop (entryFrame m #[.ref x, .ref y] 3)) (T11.setTop (mkF m 33 #[.val (.ref x), .val (.ref y), .val (.ref y)] [.int cd', .int cd])) := c10.trans (st11 _ (Steps.refl _))
    by_cases hcd : cd = cd'
    · subst hcd
      have c13 : Steps p.tables e below (s₁.setTop (entryFrame m #[.ref x, .ref y] 3)) (T11.setTop (mkF m 37 #[.val (.ref x), .val (.ref y), .val (.ref y)] [.ref x])) := c12.trans (by
        refine XS.icmpNo X11.here hexec rfl (hb hbytes d33) rfl (ii_ne_f rfl) ?_
        refine XS.aloadN X11.here hexec rfl (hb hbytes d36) rfl rfl ?_
        exact Steps.refl _)
      obtain ⟨T14, X14, q14, st14⟩ := X11.hget hexec hown (wk W (.fieldLink "java/lang/String" 9 "java/lang/String" "value" "[B")) (hx.mv X11.warmed.alike hh11).2.1 (g := (mkF m 37 #[.val (.ref x), .val (.ref y), .val (.ref y)] [.ref x])) rfl (rest := []) rfl (hb hbytes d37)
      have hh14 := q14.trans hh11
      have c15 : Steps p.tables e below (s₁.setTop (entryFrame m #[.ref x, .ref y] 3)) (T14.setTop (mkF m 41 #[.val (.ref x), .val (.ref y), .val (.ref y)] [.ref y, .ref t])) := (c13.trans (st14 _ (Steps.refl _))).trans (by
        refine XS.aloadN X14.here hexec rfl (hb hbytes d40) rfl rfl ?_
        exact Steps.refl _)
      obtain ⟨T16, X16, q16, st16⟩ := X14.hget hexec hown (wk W (.fieldLink "java/lang/String" 9 "java/lang/String" "value" "[B")) (hy.mv X14.warmed.alike hh14).2.1 (g := (mkF m 41 #[.val (.ref x), .val (.ref y), .val (.ref y)] [.ref y, .ref t])) rfl (rest := [.ref t]) rfl (hb hbytes d41)
      have hh16 := q16.trans hh14
      have c17 : Steps p.tables e below (s₁.setTop (entryFrame m #[.ref x, .ref y] 3)) (T16.setTop (mkF m 44 #[.val (.ref x), .val (.ref y), .val (.ref y)] [.ref t', .ref t])) := c15.trans (st16 _ (Steps.refl _))
      obtain ⟨v18, T18, X18, E18, g18⟩ := X16.callS hexec (LEq.law l t V t' V') hown (wks W (staticW "java/lang/String" 541 LEq.yN)) (wk W LEq.tab) (W := 0) (Nat.le_of_ble_eq_true rfl) (Nat.le_of_ble_eq_true rfl) (Nat.le_refl _) (Nat.le_refl _) (g := (mkF m 44 #[.val (.ref x), .val (.ref y), .val (.ref y)] [.ref t', .ref t])) rfl (by rw [hml]; rfl) c17 (argsL := [.ref t, .ref t']) (rest := []) rfl rfl (by show 2 * 0 + 0 ≤ _; decide) (hb hbytes d44) (⟨rfl, hx.2.2.2.1.mv X16.warmed.alike hh16, hx.2.2.2.2.1.ty, hy.2.2.2.1.mv X16.warmed.alike hh16, hy.2.2.2.2.1.ty⟩)
      obtain ⟨v, rfl, q18, hv⟩ := E18
      have iff := Cod.eqv hx.2.2.2.2.1 hy.2.2.2.2.1 hx.2.2.2.2.2 hy.2.2.2.2.2
      rcases hv with ⟨rfl, he⟩ | ⟨rfl, he⟩
      · have c19 : Steps p.tables e below (s₁.setTop (entryFrame m #[.ref x, .ref y] 3)) (T18.setTop (mkF m 55 #[.val (.ref x), .val (.ref y), .val (.ref y)] [.int 1])) := Steps.trans g18 (by
          refine XS.ifNo X18.here hexec rfl (hb hbytes d47) rfl (i0_eq_f (by decide)) ?_
          refine iconstV X18.here hexec rfl 1 (hb hbytes d50) (by decide) ?_
          refine XS.goto X18.here hexec rfl (pc0 := 51) rfl (hb hbytes d51) (by decide) rfl ?_
          exact Steps.refl _)
        exact ⟨T18, some (.int 1), _, _, _, X18, rfl, rfl, rfl, (fun h => by cases h), ⟨1, rfl, q18.trans hh16, Or.inl ⟨rfl, iff.mp he⟩⟩, fun fs hl => c19.trans (X18.ireturnOut hexec hret rfl (Or.inr (Or.inl rfl)) (hb hbytes d55) hl)⟩
      · have c19 : Steps p.tables e below (s₁.setTop (entryFrame m #[.ref x, .ref y] 3)) (T18.setTop (mkF m 55 #[.val (.ref x), .val (.ref y), .val (.ref y)] [.int 0])) := Steps.trans g18 (by
          refine XS.ifYes X18.here hexec rfl (pc0 := 47) rfl (hb hbytes d47) rfl (i0_eq_t rfl) (by decide) rfl ?_
          refine iconstV X18.here hexec rfl 0 (hb hbytes d54) (by decide) ?_
          exact Steps.refl _)
        exact ⟨T18, some (.int 0), _, _, _, X18, rfl, rfl, rfl, (fun h => by cases h), ⟨0, rfl, q18.trans hh16, Or.inr ⟨rfl, fun q => he (iff.mpr q)⟩⟩, fun fs hl => c19.trans (X18.ireturnOut hexec hret rfl (Or.inr (Or.inl rfl)) (hb hbytes d55) hl)⟩
    · have c13 : Steps p.tables e below (s₁.setTop (entryFrame m #[.ref x, .ref y] 3)) (T11.setTop (mkF m 55 #[.val (.ref x), .val (.ref y), .val (.ref y)] [.int 0])) := c12.trans (by
        refine XS.icmpYes X11.here hexec rfl (pc0 := 33) rfl (hb hbytes d33) rfl (ii_ne_t hcd) (by decide) rfl ?_
        refine iconstV X11.here hexec rfl 0 (hb hbytes d54) (by decide) ?_
        exact Steps.refl _)
      exact ⟨T11, some (.int 0), _, _, _, X11, rfl, rfl, rfl, (fun h => by cases h), ⟨0, rfl, hh11, Or.inr ⟨rfl, Cod.dif hx.2.2.2.2.1 hy.2.2.2.2.1 hcd⟩⟩, fun fs hl => c13.trans (X11.ireturnOut hexec hret rfl (Or.inr (Or.inl rfl)) (hb hbytes d55) hl)⟩
theorem pays {l : Launch} {R : Room} {p : Program} {e : Env} {below : List Frame} {s : State} {sargs : Array Value} {len W : Nat} (x t : Addr) (V : Cell) (cd : Int32) (n : Nat) (f : Nat → Int32) (y t' : Addr) (V' : Cell) (cd' : Int32) (k : Nat) (g : Nat → Int32) (z : Int32) (htab : tab.before sargs s = true) (hfr : 2 ≤ R.frames) (hlo : W + 28 ≤ R.locals) :
    Back l R p e below s sargs yN len W (fun A₁ a₁ => A₁.cells + 0 ≤ R.cells ∧ A₁.slots + 0 ≤ R.slots ∧ P x t V cd n f y t' V' cd' k g z a₁ A₁.U) (fun A₁ _ v₁ B₁ => Says01 (SameT n f k g) v₁ A₁.U B₁.U ∧ B₁.locs = A₁.locs ++ [] ∧ B₁.cells = A₁.cells + 0 ∧ B₁.slots = A₁.slots + 0) :=
  (law l x t V cd n f y t' V' cd' k g z).pays htab hfr (by omega)
end SEq
end StrChars
namespace StrChars.Road
open Jvm Sem ClassFile Op Lib Jvm.Stand Jvm.Free Jvm.Free.XT
open Jvm.Lib.Cold (StaticIs)
/-- the words of String.equals(Object) -/
abbrev wordsEq : List Jvm.Cond := [.code SEq.yN SEq.yB 3 (some .boolean), .initialized ST, .classLink ST 10 ST, .fieldLink ST 38 ST "COMPACT_STRINGS" "Z", .fieldLink ST 15 ST "coder" "B", .fieldLink ST 9 ST "value" "[B", .methodLink ST 541 LEq.yN, .static LEq.yN, .code LEq.yN LEq.yB 3 (some .boolean), .initialized "java/lang/StringLatin1"]
theorem tabEq_of {a : Array Value} {s : State} (h : ∀ w ∈ wordsEq, w.before a s = true) : SEq.tab.before a s = true := by
  have hl : LEq.tab.before a s = true := unparts (wk h (.code LEq.yN LEq.yB 3 (some .boolean))) (wks h (.initialized LEq.yN.cls :: LEq.site))
  have q := consq hl h
  exact unparts (wk q (.code SEq.yN SEq.yB 3 (some .boolean))) (wks q (.initialized SEq.yN.cls :: SEq.site))
theorem movedEq {Z s : State} {a0 args : Array Value} (hZ : Z.Warmed39 s.vm) (hw : ∀ d ∈ wordsEq, d.before a0 Z = true) : ∀ d ∈ wordsEq, d.before args s = true := fun d hd => by
  have t : ∀ d ∈ wordsEq, (d.onTables && d.keepsFace) = true := by decide +kernel
  exact RoadKit.mv hZ (hw d hd) (t d hd)
/-- the road's facts of a String, as the laws ask it -/
theorem txt_of {Z U : State} {a0 : Array Value} {kI : Nat} (wi : (Jvm.Cond.instantiable ST kI).before a0 Z = true) (al : Z.vm.Alike U.vm) {x t : Addr} {kb : ClassId} {cs : List Int32} {cd N2 : Int32} {vs : List Value} (E : RoadKit.Exa Z U.heap x ST) (V : RoadKit.Fld Z U.heap x ST "value" "[B" (.ref t)) (C : RoadKit.Fld Z U.heap x ST "coder" "B" (.int cd)) (K : RoadKit.Arv Z U.heap t kb .byte N2 vs (.int 0)) (hc : CodA cs cd N2 vs) (hb : ∀ c ∈ cs, ¬ c < 0 ∧ ¬ (65535 : Int32) < c) (l2 : cs.length ≤ 4000) :
    ∃ A, Txt x t A cd cs.length (fun j => cs.getD j 0) U := by
  obtain ⟨A, K1, K2, K3, K4, K5, K6⟩ := K
  have hcod := hc.cod (by omega) K3 K5
  obtain ⟨D, fV, fC, hB, F1, F2, g1, g2, -, -⟩ := strObj wi al E V C
  exact ⟨A, ⟨_, hB.2.2.1, D, hB.1, rfl, by cases q : D.vm <;> first | rfl | exact absurd q (hB.2.1.2 _)⟩, Has.of hB F1 g1, Has.of hB F2 g2, ⟨K1.1, State.isArrayOf_alike al K1.2.1, K1.2.2, by rcases hcod with ⟨-, q, -⟩ | ⟨-, q, -⟩ <;> omega⟩, hcod, fun j hj => by
    have e : cs.getD j 0 = cs[j] := by simp [List.getD_eq_getElem?_getD, hj]
    show ¬ cs.getD j 0 < 0 ∧ ¬ 65535 < cs.getD j 0
    rw [e]; exact hb _ (List.getElem_mem _)⟩
theorem same_list (cs ds : List Int32) : SameT cs.length (fun j => cs.getD j 0) ds.length (fun j => ds.getD j 0) ↔ cs = ds := by
  constructor
  · rintro ⟨e, q⟩
    refine List.ext_getElem e fun j h1 h2 => ?_
    have := q j h1
    simpa [List.getD_eq_getElem?_getD, h1, h2] using this
  · rintro rfl
    exact ⟨rfl, fun _ _ => rfl⟩
/-- **equals(Object) OF TWO SUCH STRINGS**: 1 just where the chars are the same -/
theorem eqW {p : Program} {l : Launch} {e : Env} {R : Room} {s : State} {args : Array Value} {below : List Frame} {len W : Nat} {Z : State} {a0 : Array Value} {h : Heap} (hZ : Z.Warmed39 s.vm) (hw : ∀ d ∈ wordsEq, d.before a0 Z = true) {kI : Nat} (wi : (Jvm.Cond.instantiable ST kI).before a0 Z = true)
    {x t : Addr} {kb : ClassId} {cs : List Int32} {cd N2 : Int32} {vs : List Value} (E : RoadKit.Exa Z h x ST) (V : RoadKit.Fld Z h x ST "value" "[B" (.ref t)) (C : RoadKit.Fld Z h x ST "coder" "B" (.int cd)) (K : RoadKit.Arv Z h t kb .byte N2 vs (.int 0)) (hc : CodA cs cd N2 vs) (hb : ∀ c ∈ cs, ¬ c < 0 ∧ ¬ (65535 : Int32) < c) (l2 : cs.length ≤ 4000)
    {y t' : Addr} {kb' : ClassId} {ds : List Int32} {cd' N2' : Int32} {vs' : List Value} (E' : RoadKit.Exa Z h y ST) (V' : RoadKit.Fld Z h y ST "value" "[B" (.ref t')) (C' : RoadKit.Fld Z h y ST "coder" "B" (.int cd')) (K' : RoadKit.Arv Z h t' kb' .byte N2' vs' (.int 0)) (hc' : CodA ds cd' N2' vs') (hb' : ∀ c ∈ ds, ¬ c < 0 ∧ ¬ (65535 : Int32) < c) (l2' : ds.length ≤ 4000)
    {z : Int32} (S : RoadKit.Sta Z h ST "COMPACT_STRINGS" "Z" (.int z)) (hz : ¬ z = 0) (hfr : 2 ≤ R.frames) (hlo : W + 28 ≤ R.locals) :
    Back l R p e below s args (⟨"java/lang/String", "equals", "(Ljava/lang/Object;)Z"⟩ : MethodName) len W (fun P a => a = #[.ref x, .ref y] ∧ P.U.heap = h ∧ P.cells + 0 ≤ R.cells ∧ P.slots + 0 ≤ R.slots)
      (fun P _ v B => ∃ L, (((v = some (.int 1) ∧ cs = ds) ∨ (v = some (.int 0) ∧ ¬ cs = ds)) ∧ L = [] ∧ B.U.heap = h) ∧ B.locs = P.locs ++ L ∧ B.cells = P.cells + 0 ∧ B.slots = P.slots + 0) := by
  intro m meth c P g ig mk a X hg hsize hdg hW hn hp'
  obtain ⟨rfl, rfl, r1, r2⟩ := hp'
  have al : Z.vm.Alike P.U.vm := hZ.alike.trans X.warmed.alike
  obtain ⟨A, hx⟩ := txt_of wi al E V C K hc hb l2
  obtain ⟨A', hy⟩ := txt_of wi al E' V' C' K' hc' hb' l2'
  obtain ⟨v, B, X', ⟨⟨w, hv, hh, hq⟩, hl, hk, hs⟩, st⟩ := SEq.pays x t A cd cs.length (fun j => cs.getD j 0) y t' A' cd' ds.length (fun j => ds.getD j 0) z (tabEq_of (movedEq hZ hw)) hfr hlo m meth c P g ig mk _ X hg hsize hdg hW hn ⟨r1, r2, rfl, hx, hy, sta_is al S, hz⟩
  refine ⟨v, B, X', ⟨[], ⟨?_, rfl, hh⟩, hl, hk, hs⟩, st⟩
  rcases hq with ⟨rfl, q⟩ | ⟨rfl, q⟩
  · exact Or.inl ⟨hv, (same_list cs ds).mp q⟩
  · exact Or.inr ⟨hv, fun e => q ((same_list cs ds).mpr e)⟩
end StrChars.Road
namespace StrChars.Road
open Jvm Sem ClassFile Op Lib Jvm.Stand Jvm.Free Jvm.Free.XT
open Jvm.Lib.Cold (StaticIs)
/-- what backV says of its String, as the contracts of this text ask it: cs's low bytes, coder 0 -/
theorem codOf {cs : List Int32} {n : Nat} (hn : cs.length = n) (hb : ∀ c ∈ cs, ¬ 255 < c) : CodA cs 0 (Int32.ofNat n) ((cs.map lo8).map Value.int) := Or.inl ⟨rfl, by rw [hn], by simp [List.map_map, Function.comp_def], hb⟩
end StrChars.Road
end Jvm.Pilot.@@N@@
namespace Jvm.Pilot.@@N@@
open Jvm Jvm.ClassFile Sem Op Lib Jvm.Free Jvm.Stand Jvm.LawKit Jvm.RoadKit Bundle Jvm.Pilot.@@N@@.Jvm.D
namespace Own
open Jvm Jvm.ClassFile Sem Op Lib Jvm.Free Jvm.Stand Jvm.LawKit Jvm.RoadKit Bundle
/-- the run goes on from A to an end of which Q holds -/
def Goes (tb : Tables) (e : Env) (below : List Frame) (Q : Outcome → State → Prop) (A : State) : Prop := ∃ s₂ o, Steps tb e below A s₂ ∧ s₂.status = .running ∧ Ended s₂ below o ∧ Q o s₂
theorem Goes.via {tb : Tables} {e : Env} {below : List Frame} {Q : Outcome → State → Prop} {A B : State} (h : ∀ t, Steps tb e below B t → Steps tb e below A t) (g : Goes tb e below Q B) : Goes tb e below Q A := by
  obtain ⟨s₂, o, h1, h2⟩ := g
  exact ⟨s₂, o, h _ h1, h2⟩
theorem Goes.aft {tb : Tables} {e : Env} {below : List Frame} {Q : Outcome → State → Prop} {A B : State} (h : Steps tb e below A B) (g : Goes tb e below Q B) : Goes tb e below Q A := by
  obtain ⟨s₂, o, h1, h2⟩ := g
  exact ⟨s₂, o, h.trans h1, h2⟩
/-- what may be written: made since the law began (n0), booked for no literal; of SA0 (handed in) or made since this method began (k) -/
def Sfs (Z : State) (EL : List (String × Nat)) (vm : Vm) (h : Heap) (n0 k : Nat) (SA0 SA : List Addr) : Prop := ∀ x ∈ SA, Safe Z EL vm h x ∧ x < h.size ∧ n0 ≤ x ∧ (x ∈ SA0 ∨ k ≤ x)
/-- where a walk stands, all in one -/
def Wd (p : Program) (l : Launch) (e : Env) (R : Room) (s : State) (m : MethodId) (args : Array Value) (below : List Frame) (meth : Method) (c : Code)
    (Z : State) (a0 : Array Value) (EL : List (String × Nat)) (own : String) (n0 : Nat) (SA0 SA : List Addr) (T : State) (h : Heap) (cells slots : Nat) : Prop :=
  ∃ (vm0 : Vm) (locs : List Loc) (k0 : Nat), Stand p l e R (s.setVm vm0) m args below meth c T locs cells slots ∧ T.heap = h ∧ s.Since vm0 k0 ∧ k0 ≤ h.size ∧ Z.Warmed39 vm0 ∧ vm0.findClass own = some m.cls ∧
    CHr Z EL s.vm s.heap vm0 h ∧ Fr n0 locs ∧ Old Z n0 h ∧ Keep s.heap h SA0 ∧ Sfs Z EL vm0 h n0 s.heap.size SA0 SA ∧ EW Z a0 EL ∧ p.tables.exec = Jvm.exec
section Wide
variable {p : Program} {l : Launch} {e : Env} {R : Room} {s : State} {m : MethodId} {args : Array Value} {below : List Frame} {meth : Method} {c : Code}
variable {Z : State} {a0 : Array Value} {EL : List (String × Nat)} {own : String} {n0 : Nat} {SA0 SA : List Addr} {T : State} {h h' : Heap} {cells slots : Nat} {Q : Outcome → State → Prop} {pc : Nat} {Ls : Array Slot} {st : List Value} {vm0 vm1 : Vm} {a : Addr} {sl : Nat} {v : Value}
theorem Wd.exec (X : Wd p l e R s m args below meth c Z a0 EL own n0 SA0 SA T h cells slots) : p.tables.exec = Jvm.exec := by
  obtain ⟨_, _, _, -, -, -, -, -, -, -, -, -, -, -, -, q⟩ := X; exact q
theorem Wd.here (X : Wd p l e R s m args below meth c Z a0 EL own n0 SA0 SA T h cells slots) : At T m c below := by
  obtain ⟨_, _, _, Y, -⟩ := X; exact Y.here
theorem Wd.old (X : Wd p l e R s m args below meth c Z a0 EL own n0 SA0 SA T h cells slots) : Old Z n0 h := by
  obtain ⟨_, _, _, -, -, -, -, -, -, -, -, q, -⟩ := X; exact q
theorem Wd.kept (X : Wd p l e R s m args below meth c Z a0 EL own n0 SA0 SA T h cells slots) : Keep s.heap h SA0 := by
  obtain ⟨_, _, _, -, -, -, -, -, -, -, -, -, q, -⟩ := X; exact q
theorem Wd.al (X : Wd p l e R s m args below meth c Z a0 EL own n0 SA0 SA T h cells slots) : Z.vm.Alike T.vm := by
  obtain ⟨_, _, _, Y, -, -, -, hZ, -⟩ := X; exact (wtrans (s := s.setVm _) hZ Y.warmed).alike
theorem Wd.n0h (X : Wd p l e R s m args below meth c Z a0 EL own n0 SA0 SA T h cells slots) : n0 ≤ h.size := by
  obtain ⟨q1, q2, -⟩ := X.old; rw [← q1]; exact q2
theorem Wd.saf (X : Wd p l e R s m args below meth c Z a0 EL own n0 SA0 SA T h cells slots) {x : Addr} (q : x ∈ SA) : n0 ≤ x ∧ x < h.size := by
  obtain ⟨_, _, _, -, -, -, -, -, -, -, -, -, -, S, -⟩ := X; exact ⟨(S x q).2.2.1, (S x q).2.1⟩
theorem Sfs.go {k : Nat} (S : Sfs Z EL vm0 h n0 k SA0 SA) (A : CHr Z EL vm0 h vm1 h') : Sfs Z EL vm1 h' n0 k SA0 SA := fun x hx =>
  ⟨A.safe (S x hx).2.1 (S x hx).1, Nat.lt_of_lt_of_le (S x hx).2.1 A.2.1, (S x hx).2.2⟩
/-- fewer may be written -/
theorem Wd.less {SA' : List Addr} (X : Wd p l e R s m args below meth c Z a0 EL own n0 SA0 SA T h cells slots) (q : ∀ x ∈ SA', x ∈ SA) : Wd p l e R s m args below meth c Z a0 EL own n0 SA0 SA' T h cells slots := by
  obtain ⟨vm0, locs, k0, r1, r2, r3, r4, r5, r6, r7, r8, r9, r10, r11, r12, r13⟩ := X
  exact ⟨vm0, locs, k0, r1, r2, r3, r4, r5, r6, r7, r8, r9, r10, fun x hx => r11 x (q x hx), r12, r13⟩
theorem Wd.mono {cells' slots' : Nat} (X : Wd p l e R s m args below meth c Z a0 EL own n0 SA0 SA T h cells slots) (h1 : cells ≤ cells') (h2 : slots ≤ slots') : Wd p l e R s m args below meth c Z a0 EL own n0 SA0 SA T h cells' slots' := by
  obtain ⟨vm0, locs, k0, r1, r⟩ := X
  exact ⟨vm0, locs, k0, r1.mono h1 h2, r⟩
/-- new C -/
theorem Wd.new (X : Wd p l e R s m args below meth c Z a0 EL own n0 SA0 SA T h cells slots) {index n : Nat} {C : String} (w : (Cond.classLink own index C).before a0 Z = true) (wi : (Cond.instantiable C n).before a0 Z = true) (wz : (Cond.initialized C).before a0 Z = true)
    (hd : decode c.code pc = .ok (.new index, 3)) (hc : cells + 1 ≤ R.cells) (hl : slots + n ≤ R.slots)
    (k : ∀ (T' : State) (h' : Heap) (b : Addr), b = h.size → Wd p l e R s m args below meth c Z a0 EL own n0 SA0 (b :: SA) T' h' (cells + 1) (slots + n) → Ext h h' → Exa Z h' b C → (∀ {O nm d : String} {ty : FieldType}, Laid Z a0 C O nm d → parseFieldDescriptor d = some ty → Fld Z h' b O nm d (defaultValue ty)) →
      (∃ cell : Cell, h'[b]? = some cell ∧ cell.vm = .none ∧ cell.monitor = {}) → Goes p.tables e below Q (T'.setTop (mkF m (pc + 3) Ls (.ref b :: st)))) : Goes p.tables e below Q (T.setTop (mkF m pc Ls st)) := by
  obtain ⟨vm0, locs, k0, Y, eT, hS, hk, hZ, hown, hC, N, O, K, S, hEL, hx⟩ := X
  obtain ⟨T', h', Y', e', E, A, D, U, st'⟩ := newO Y hx hZ hown w wi wz eT (g := mkF m pc Ls st) rfl hd hc hl
  have A' := CHr.ext E hC.1
  refine Goes.via st' (k T' h' _ rfl ⟨vm0, locs, k0, Y', e', hS, Nat.le_trans hk E.1, hZ, hown, hC.trans A', N, O.ext E, K.ext E, fun x q => ?_, hEL, hx⟩ E A D U)
  rcases List.mem_cons.mp q with rfl | q
  · exact ⟨(Safe.new (Nat.le_refl _)).ext E hC.1, A.lt, by rw [← O.1]; exact O.2.1, Or.inr K.1⟩
  · exact S.go A' x q
/-- newarray of a primitive kind, its length known -/
theorem Wd.newarr (X : Wd p l e R s m args below meth c Z a0 EL own n0 SA0 SA T h cells slots) {aty : ArrayType} (w : (Cond.arrayClass (newarray.typeOf aty)).before a0 Z = true) {n : Int32} (hd : decode c.code pc = .ok (.newarray aty, 2)) (hn : ¬ n < 0) (cap : Nat) (hcap : n.toNatClampNeg ≤ cap) (hb : cap * 8 ≤ 536870912) (hc : cells + 1 ≤ R.cells) (hl : slots + cap ≤ R.slots)
    (k : ∀ (T' : State) (h' : Heap) (b : Addr) (kb : ClassId), b = h.size → Wd p l e R s m args below meth c Z a0 EL own n0 SA0 (b :: SA) T' h' (cells + 1) (slots + cap) → Ext h h' → Arv Z h' b kb (newarray.typeOf aty) n [] (defaultValue (newarray.typeOf aty)) → Goes p.tables e below Q (T'.setTop (mkF m (pc + 2) Ls (.ref b :: st)))) : Goes p.tables e below Q (T.setTop (mkF m pc Ls (.int n :: st))) := by
  obtain ⟨vm0, locs, k0, Y, eT, hS, hk, hZ, hown, hC, N, O, K, S, hEL, hx⟩ := X
  obtain ⟨T', h', kb, Y', e', E, A, st'⟩ := newP Y hx hZ w eT (g := mkF m pc Ls (.int n :: st)) rfl hd rfl hn hcap hb hc hl
  have A' := CHr.ext E hC.1
  refine Goes.via st' (k T' h' _ kb rfl ⟨vm0, locs, k0, Y', e', hS, Nat.le_trans hk E.1, hZ, hown, hC.trans A', N, O.ext E, K.ext E, fun x q => ?_, hEL, hx⟩ E (Arv.new A hn))
  rcases List.mem_cons.mp q with rfl | q
  · exact ⟨(Safe.new (Nat.le_refl _)).ext E hC.1, A.lt, by rw [← O.1]; exact O.2.1, Or.inr K.1⟩
  · exact S.go A' x q
theorem wrN (hC : CHr Z EL s.vm s.heap vm0 h) (O : Old Z n0 h) (K : Keep s.heap h SA0) (S : Sfs Z EL vm0 h n0 s.heap.size SA0 SA) (q : a ∈ SA) (W : Wr h h' a sl v) :
    CHr Z EL s.vm s.heap vm0 h' ∧ Old Z n0 h' ∧ Keep s.heap h' SA0 ∧ Sfs Z EL vm0 h' n0 s.heap.size SA0 SA ∧ n0 ≤ a ∧ h.size ≤ h'.size := by
  obtain ⟨q1, -, q3, q4⟩ := S a q
  have A := CHr.wr W q1 hC.1
  exact ⟨hC.trans A, O.wr W q3, K.wr W q4, S.go A, q3, A.2.1⟩
/-- putfield -/
theorem Wd.putf (X : Wd p l e R s m args below meth c Z a0 EL own n0 SA0 SA T h cells slots) {R0 O n d C : String} {index kk : Nat} {ty : FieldType} (w : (Cond.fieldLink own index R0 n d).before a0 Z = true) (via : Via Z R0 O n d) {v old : Value} (F : Fld Z h a O n d old) (E : Exa Z h a C)
    (L : (Cond.lays C O n d).before a0 Z = true ∨ ((Cond.laysFinal C O n d).before a0 Z = true ∧ own = O ∧ meth.name = "<init>")) (wi : (Cond.instantiable C kk).before a0 Z = true) (hty : parseFieldDescriptor d = some ty) (hn : narrow ty v = v) (hf : fits ty v = true) (hd : decode c.code pc = .ok (.putfield index, 3)) (q : a ∈ SA)
    (k : ∀ (T' : State) (h' : Heap), Wd p l e R s m args below meth c Z a0 EL own n0 SA0 SA T' h' cells slots → Wr h h' a (Jvm.RoadKit.slotOf Z O n d) v → Goes p.tables e below Q (T'.setTop (mkF m (pc + 3) Ls st))) : Goes p.tables e below Q (T.setTop (mkF m pc Ls (v :: .ref a :: st))) := by
  obtain ⟨vm0, locs, k0, Y, eT, hS, hk, hZ, hown, hC, N, O', K, S, hEL, hx⟩ := X
  obtain ⟨T', h', Y', e', W, st'⟩ := putF Y hx hZ hown (host := "") (Or.inl w) via eT F E L wi hty hn hf (g := mkF m pc Ls (v :: .ref a :: st)) rfl rfl hd
  obtain ⟨q1, q2, q3, q4, q5, q6⟩ := wrN hC O' K S q W
  exact Goes.via st' (k T' h' ⟨vm0, _, k0, Y', e', hS, Nat.le_trans hk q6, hZ, hown, q1, Fr.snoc Y' N q5, q2, q3, q4, hEL, hx⟩ W)
/-- getfield -/
theorem Wd.getf (X : Wd p l e R s m args below meth c Z a0 EL own n0 SA0 SA T h cells slots) {R0 O n d : String} {index : Nat} (w : (Cond.fieldLink own index R0 n d).before a0 Z = true) (via : Via Z R0 O n d) {v : Value} (F : Fld Z h a O n d v) (hd : decode c.code pc = .ok (.getfield index, 3))
    (k : ∀ T' : State, Wd p l e R s m args below meth c Z a0 EL own n0 SA0 SA T' h cells slots → Goes p.tables e below Q (T'.setTop (mkF m (pc + 3) Ls (v :: st)))) : Goes p.tables e below Q (T.setTop (mkF m pc Ls (.ref a :: st))) := by
  obtain ⟨vm0, locs, k0, Y, eT, r2, r3, r4, r5, r⟩ := X
  obtain ⟨T', Y', e', st'⟩ := getF Y r.2.2.2.2.2.2 r4 r5 (host := "") (Or.inl w) via eT F (g := mkF m pc Ls (.ref a :: st)) rfl rfl hd
  exact Goes.via st' (k T' ⟨vm0, locs, k0, Y', e', r2, r3, r4, r5, r⟩)
/-- getstatic -/
theorem Wd.gets (X : Wd p l e R s m args below meth c Z a0 EL own n0 SA0 SA T h cells slots) {R0 O n d : String} {index : Nat} (w : (Cond.fieldLink own index R0 n d).before a0 Z = true) (via : Via Z R0 O n d) {v : Value} (F : Sta Z h O n d v) (hd : decode c.code pc = .ok (.getstatic index, 3))
    (k : ∀ T' : State, Wd p l e R s m args below meth c Z a0 EL own n0 SA0 SA T' h cells slots → Goes p.tables e below Q (T'.setTop (mkF m (pc + 3) Ls (v :: st)))) : Goes p.tables e below Q (T.setTop (mkF m pc Ls st)) := by
  obtain ⟨vm0, locs, k0, Y, eT, r2, r3, r4, r5, r⟩ := X
  obtain ⟨T', Y', e', st'⟩ := getS (host := "") Y r.2.2.2.2.2.2 r4 r5 w via eT F (g := mkF m pc Ls st) rfl hd
  exact Goes.via st' (k T' ⟨vm0, locs, k0, Y', e', r2, r3, r4, r5, r⟩)
/-- Object.<init> -/
theorem Wd.inito (X : Wd p l e R s m args below meth c Z a0 EL own n0 SA0 SA T h cells slots) {idx : Nat} (w1 : (Cond.methodLink own idx Lib.objectInit).before a0 Z = true) (w2 : (Cond.instanceMethod Lib.objectInit).before a0 Z = true) (w3 : (Cond.code Lib.objectInit ⟨#[0xb1]⟩ 1 none).before a0 Z = true)
    (hd : decode c.code pc = .ok (.invokespecial idx, 3)) (hsize : Ls.size = c.maxLocals) (hf : 1 ≤ R.frames) (W : Nat) (hW : (st.map fun v => v.category).sum ≤ W) (hl : W + 12 ≤ R.locals)
    (k : ∀ T' : State, Wd p l e R s m args below meth c Z a0 EL own n0 SA0 SA T' h cells slots → Goes p.tables e below Q (T'.setTop (mkF m (pc + 3) Ls st))) : Goes p.tables e below Q (T.setTop (mkF m pc Ls (.ref a :: st))) := by
  obtain ⟨vm0, locs, k0, Y, eT, r2, r3, r4, r5, r⟩ := X
  obtain ⟨T', Y', e', st'⟩ := initO Y r.2.2.2.2.2.2 r4 r5 w1 w2 w3 eT (g := mkF m pc Ls (.ref a :: st)) rfl hsize rfl hd hf (W := W) (by show 2 * 0 + _ ≤ _; omega) hl
  exact Goes.via st' (k T' ⟨vm0, locs, k0, Y', e', r2, r3, r4, r5, r⟩)
/-- castore -/
theorem Wd.castore (X : Wd p l e R s m args below meth c Z a0 EL own n0 SA0 SA T h cells slots) {kb : ClassId} {n j x : Int32} {vs : List Value} {dv : Value} (V : Arv Z h a kb .char n vs dv) (hj : ¬ j < 0 ∧ j < n) (i : Nat) (hji : j.toNatClampNeg = i) (hi : i < vs.length) (q : a ∈ SA) (hd : decode c.code pc = .ok (.castore, 1))
    (k : ∀ (T' : State) (h' : Heap), Wd p l e R s m args below meth c Z a0 EL own n0 SA0 SA T' h' cells slots → Wr h h' a j.toNatClampNeg (.int (nar .char x)) → Arv Z h' a kb .char n (vs.set i (.int (nar .char x))) dv → Goes p.tables e below Q (T'.setTop (mkF m (pc + 1) Ls st))) : Goes p.tables e below Q (T.setTop (mkF m pc Ls (.int x :: .int j :: .ref a :: st))) := by
  obtain ⟨vm0, locs, k0, Y, eT, hS, hk, hZ, hown, hC, N, O', K, S, hEL, hx⟩ := X
  obtain ⟨cl, A, v1, v2, v3, v4, v5⟩ := V
  obtain ⟨T', h', Y', e', W, st'⟩ := stC Y hx hZ eT A (inb_of v2 hj) (g := mkF m pc Ls (.int x :: .int j :: .ref a :: st)) rfl rfl hd
  obtain ⟨q1, q2, q3, q4, q5, q6⟩ := wrN hC O' K S q W
  exact Goes.via st' (k T' h' ⟨vm0, _, k0, Y', e', hS, Nat.le_trans hk q6, hZ, hown, q1, Fr.snoc Y' N q5, q2, q3, q4, hEL, hx⟩ W (Arv.set A v1 v2 v3 v4 v5 (fits_nar_char _) W i hji hi))
/-- bastore into a byte[] -/
theorem Wd.bastore (X : Wd p l e R s m args below meth c Z a0 EL own n0 SA0 SA T h cells slots) {kb : ClassId} {n j x : Int32} {vs : List Value} {dv : Value} (V : Arv Z h a kb .byte n vs dv) (hj : ¬ j < 0 ∧ j < n) (i : Nat) (hji : j.toNatClampNeg = i) (hi : i < vs.length) (q : a ∈ SA) (hd : decode c.code pc = .ok (.bastore, 1))
    (k : ∀ (T' : State) (h' : Heap), Wd p l e R s m args below meth c Z a0 EL own n0 SA0 SA T' h' cells slots → Wr h h' a j.toNatClampNeg (.int (nar .byte x)) → Arv Z h' a kb .byte n (vs.set i (.int (nar .byte x))) dv → Goes p.tables e below Q (T'.setTop (mkF m (pc + 1) Ls st))) : Goes p.tables e below Q (T.setTop (mkF m pc Ls (.int x :: .int j :: .ref a :: st))) := by
  obtain ⟨vm0, locs, k0, Y, eT, hS, hk, hZ, hown, hC, N, O', K, S, hEL, hx⟩ := X
  obtain ⟨cl, A, v1, v2, v3, v4, v5⟩ := V
  obtain ⟨T', h', Y', e', W, st'⟩ := stB Y hx hZ eT A (inb_of v2 hj) (g := mkF m pc Ls (.int x :: .int j :: .ref a :: st)) rfl rfl hd
  obtain ⟨q1, q2, q3, q4, q5, q6⟩ := wrN hC O' K S q W
  exact Goes.via st' (k T' h' ⟨vm0, _, k0, Y', e', hS, Nat.le_trans hk q6, hZ, hown, q1, Fr.snoc Y' N q5, q2, q3, q4, hEL, hx⟩ W (Arv.set A v1 v2 v3 v4 v5 (fits_nar_byte _) W i hji hi))
/-- caload -/
theorem Wd.caload (X : Wd p l e R s m args below meth c Z a0 EL own n0 SA0 SA T h cells slots) {kb : ClassId} {n j : Int32} {vs : List Value} {dv v : Value} (V : Arv Z h a kb .char n vs dv) (hj : ¬ j < 0 ∧ j < n) (hv : vs.getD j.toNatClampNeg dv = v) (hd : decode c.code pc = .ok (.caload, 1))
    (g : Goes p.tables e below Q (T.setTop (mkF m (pc + 1) Ls (v :: st)))) : Goes p.tables e below Q (T.setTop (mkF m pc Ls (.int j :: .ref a :: st))) := by
  obtain ⟨vm0, locs, k0, Y, eT, r2, r3, r4, r5, r⟩ := X
  obtain ⟨cl, A, v1, v2, v3, v4, v5⟩ := V
  exact Goes.via (fun t => Y.caload r.2.2.2.2.2.2 (by rw [eT]; exact A.1) (State.isArrayOf_alike r4.alike A.2.1) A.2.2 (inb_of v2 hj) (v4.at (inb_of v2 hj) hv) (g := mkF m pc Ls (.int j :: .ref a :: st)) rfl rfl hd t) g
/-- arraylength -/
theorem Wd.alen (X : Wd p l e R s m args below meth c Z a0 EL own n0 SA0 SA T h cells slots) {kb : ClassId} {n : Int32} {vs : List Value} {dv : Value} {ty : FieldType} (V : Arv Z h a kb ty n vs dv) (hd : decode c.code pc = .ok (.arraylength, 1))
    (g : Goes p.tables e below Q (T.setTop (mkF m (pc + 1) Ls (.int n :: st)))) : Goes p.tables e below Q (T.setTop (mkF m pc Ls (.ref a :: st))) := by
  obtain ⟨vm0, locs, k0, Y, eT, r2, r3, r4, r5, r⟩ := X
  obtain ⟨cl, A, v1, v2, v3, v4, v5⟩ := V
  rw [← len_of v2 v3] at g
  exact Goes.via (fun t => Y.arraylength r.2.2.2.2.2.2 (by rw [eT]; exact A.1) (State.isArrayOf_alike r4.alike A.2.1) (g := mkF m pc Ls (.ref a :: st)) rfl rfl hd t) g
/-- ldc of a String constant of EL, read -/
theorem Wd.ldcS (X : Wd p l e R s m args below meth c Z a0 EL own n0 SA0 SA T h cells slots) {index : Nat} {text : String} (w : (Cond.stringLink own index text).before a0 Z = true) (wS : ∀ a ∈ Bundle.stringAtoms, a.before a0 Z = true) (hmem : (own, index) ∈ EL) {vs : List Value} {z : Int32}
    (ht : (∀ c ∈ text.toList, c.toNat < 256) ∧ text.toList.map (fun c => Value.int (Jvm.Lit.byteI c.toNat.toUInt16)) = vs) (hz : ¬ z < 0) (hl : z.toNatClampNeg = vs.length) (hd : decode c.code pc = .ok (.ldc index, 2)) (n : Nat) (hn : 4 * text.toList.length ≤ n) (hbig : n ≤ 536870912) (hc : cells + 2 ≤ R.cells) (hl' : slots + (n + 4) ≤ R.slots)
    (k : ∀ (T' : State) (h' : Heap) (a b : Addr) (kb : ClassId), Wd p l e R s m args below meth c Z a0 EL own n0 SA0 SA T' h' (cells + 2) (slots + (n + 4)) → Ext h h' → Exa Z h' a "java/lang/String" → Fld Z h' a "java/lang/String" "coder" "B" (.int 0) → Fld Z h' a "java/lang/String" "value" "[B" (.ref b) → Arv Z h' b kb .byte z vs (.int 0) → (∀ x ∈ SA, x ≠ a ∧ x ≠ b) →
      Goes p.tables e below Q (T'.setTop (mkF m (pc + 2) Ls (.ref a :: st)))) : Goes p.tables e below Q (T.setTop (mkF m pc Ls st)) := by
  obtain ⟨vm0, locs, k0, Y, eT, hS, hk, hZ, hown, hC, N, O, K, S, hEL, hx⟩ := X
  obtain ⟨a, T', h', k1, b, kb, Y', e', E, hS', hk', hZ', hown', A1, A2, A3, A4, -, -, A5, -, A6, st'⟩ := ldcCH Y hx hZ hown w wS eT hS hk hEL hmem hC.1 ht hz hl (g := mkF m pc Ls st) rfl hd hn hbig hc hl'
  have S' := S.go A5
  exact Goes.via st' (k T' h' a b kb ⟨T'.vm, locs, k1, Y', e', hS', hk', hZ', hown', hC.trans A5, N, O.ext E, K.ext E, S', hEL, hx⟩ E A1 A2 A3 A4 fun x q => A6 x (S' x q).1)
/-- ldc of any String constant, not read -/
theorem Wd.ldcO (X : Wd p l e R s m args below meth c Z a0 EL own n0 SA0 SA T h cells slots) {index : Nat} {text : String} (w : (Cond.stringLink own index text).before a0 Z = true) (wS : ∀ a ∈ Bundle.stringAtoms, a.before a0 Z = true)
    (hd : decode c.code pc = .ok (.ldc index, 2)) (n : Nat) (hn : 4 * text.toList.length ≤ n) (hbig : n ≤ 536870912) (hc : cells + 2 ≤ R.cells) (hl' : slots + (n + 4) ≤ R.slots)
    (k : ∀ (T' : State) (h' : Heap) (a : Addr), Wd p l e R s m args below meth c Z a0 EL own n0 SA0 SA T' h' (cells + 2) (slots + (n + 4)) → Ext h h' →
      Goes p.tables e below Q (T'.setTop (mkF m (pc + 2) Ls (.ref a :: st)))) : Goes p.tables e below Q (T.setTop (mkF m pc Ls st)) := by
  obtain ⟨vm0, locs, k0, Y, eT, hS, hk, hZ, hown, hC, N, O, K, S, hEL, hx⟩ := X
  obtain ⟨a, T', h', k1, Y', e', E, hS', hk', hZ', hown', A5, -, st'⟩ := ldcOH Y hx hZ hown w wS eT hS hk hEL hC.1 (g := mkF m pc Ls st) rfl hd hn hbig hc hl'
  exact Goes.via st' (k T' h' a ⟨T'.vm, locs, k1, Y', e', hS', hk', hZ', hown', hC.trans A5, N, O.ext E, K.ext E, S.go A5, hEL, hx⟩ E)
/-- ldc of an int -/
theorem Wd.ldcI (X : Wd p l e R s m args below meth c Z a0 EL own n0 SA0 SA T h cells slots) {index : Nat} {v : Int32} (w : (Cond.constant own index v).before a0 Z = true) (hd : decode c.code pc = .ok (.ldc index, 2))
    (g : Goes p.tables e below Q (T.setTop (mkF m (pc + 2) Ls (.int v :: st)))) : Goes p.tables e below Q (T.setTop (mkF m pc Ls st)) := by
  obtain ⟨vm0, locs, k0, Y, eT, r2, r3, r4, r5, r⟩ := X
  exact Goes.via (fun t => Y.ldcInt r.2.2.2.2.2.2 r5 (mvT (s := s.setVm vm0) r4 w) (g := mkF m pc Ls st) rfl hd t) g
end Wide
end Own
namespace Own
open Jvm Jvm.ClassFile Sem Op Lib Jvm.Free Jvm.Stand Jvm.LawKit Jvm.RoadKit Bundle
/-- a method's contract: handed as' in the heap h0, it may write SA0 and what it makes; at its end Q0 holds -/
def Ct (l : Launch) (Z : State) (EL : List (String × Nat)) (ws : List Jvm.Cond) (y : MethodName) (bytes : ByteArray) (maxL : Nat) (ret : Option FieldType) (rm : Room) (as' : Array Value) (h0 : Heap) (n0 : Nat) (SA0 : List Addr) (Q0 : Option Value → Heap → Prop) : Prop :=
  MetFree l y (head1 (Jvm.Cond.code y bytes maxL ret :: ws) rm) (fun a U => a = as' ∧ Z.Warmed39 U.vm ∧ U.heap = h0 ∧ CHv Z EL U.vm h0 ∧ Old Z n0 h0 ∧ ∀ x ∈ SA0, Safe Z EL U.vm h0 x ∧ x < h0.size ∧ n0 ≤ x) (fun _ _ _ _ _ => True)
    (fun _ U o U' => ∃ v L, o = .returned v ∧ (Q0 v U'.heap ∧ Fr n0 L ∧ Old Z n0 U'.heap ∧ Keep h0 U'.heap SA0) ∧ CHr Z EL U.vm U.heap U'.vm U'.heap ∧ ReturnedEndW U o U' L rm.cells rm.slots)
/-- what an end must bring -/
def Endq (Z : State) (EL : List (String × Nat)) (s : State) (n0 : Nat) (SA0 : List Addr) (rm : Room) (Q0 : Option Value → Heap → Prop) (o : Outcome) (U' : State) : Prop :=
  ∃ v L, o = .returned v ∧ (Q0 v U'.heap ∧ Fr n0 L ∧ Old Z n0 U'.heap ∧ Keep s.heap U'.heap SA0) ∧ CHr Z EL s.vm s.heap U'.vm U'.heap ∧ ReturnedEndW s o U' L rm.cells rm.slots
section Wide
variable {p : Program} {l : Launch} {e : Env} {R : Room} {s : State} {m : MethodId} {args : Array Value} {below : List Frame} {meth : Method} {c : Code}
variable {Z : State} {a0 : Array Value} {EL : List (String × Nat)} {own : String} {n0 : Nat} {SA0 SA SA' : List Addr} {T : State} {h h' h0 : Heap} {cells slots : Nat} {Q : Outcome → State → Prop} {pc : Nat} {Ls : Array Slot} {st : List Value} {vm0 vm1 : Vm} {a : Addr} {sl : Nat} {v : Value}
variable {ws : List Jvm.Cond} {y z : MethodName} {bytes : ByteArray} {maxL : Nat} {ret : Option FieldType} {rm : Room} {as' : Array Value} {Q0 : Option Value → Heap → Prop}
theorem Ct.enter (pn : plainFor y = true) (hEL : EW Z a0 EL)
    (body : ∀ (p : Program) (e : Env) (s : State) (m : MethodId) (below : List Frame) (meth : Method) (c : Code) (T : State), c.code = bytes → c.maxLocals = maxL → meth.sig.returnType = ret → meth.locks = false → meth.name = y.name → s.heap = h0 → Wd p l e rm s m as' below meth c Z a0 EL y.cls n0 SA0 SA0 T h0 0 0 →
      Goes p.tables e below (Endq Z EL s n0 SA0 rm Q0) (T.setTop (entryFrame m as' maxL))) : Ct l Z EL ws y bytes maxL ret rm as' h0 n0 SA0 Q0 := by
  refine MetFree.of_bodySF pn hisR ?_
  intro p e s m args below meth c s₁ Bd hml0 hP hK
  obtain ⟨rfl, hZ, rfl, H, O, S⟩ := hP
  have Y : Stand p l e rm s m args below meth c s₁ [] 0 0 := Stand.of_body Bd
  have e0 : s₁.heap = s.heap := by rw [Bd.state]; rfl
  obtain ⟨s₂, o, h1, h2, h3, v, L, h4, h5, h6, h7⟩ := body p e s m below meth c s₁ Bd.bytes hml0 Bd.returns (BodyLoose.notSynchronized Bd) (name_of_methodNamed Bd.named Bd.method).1 rfl
    ⟨s.vm, [], 0, Y, e0, (State.WarmedH.refl s).since _, Nat.zero_le _, hZ, findClass_of_methodNamed Bd.named, CHr.refl H, Fr.nil _, O, Keep.refl _ _, fun x q => ⟨(S x q).1, (S x q).2.1, (S x q).2.2, Or.inl q⟩, hEL, Bd.exec⟩
  exact ⟨s₂, o, h1, h2, h3, v, L, h4, h5, h6, h7⟩
theorem Ct.back {len W : Nat} (ct : Ct l Z EL [] y bytes maxL ret rm as' h n0 SA0 Q0) (hZ : Z.Warmed39 vm0) (wc : (Jvm.Cond.code y bytes maxL ret).before a0 Z = true) (wz : (Jvm.Cond.initialized y.cls).before a0 Z = true) (hf : rm.frames + 1 ≤ R.frames) (hl : W + (maxL + 11) + rm.locals ≤ R.locals) (hEL : EW Z a0 EL) (H : CHv Z EL vm0 h) (O : Old Z n0 h)
    (S : ∀ x ∈ SA0, Safe Z EL vm0 h x ∧ x < h.size ∧ n0 ≤ x) :
    BackS l R p e below (s.setVm vm0) args y len W (fun A a => a = as' ∧ A.U.heap = h ∧ A.cells + rm.cells ≤ R.cells ∧ A.slots + rm.slots ≤ R.slots)
      (fun A _ v B => ∃ L, (Q0 v B.U.heap ∧ Fr n0 L ∧ Old Z n0 B.U.heap ∧ Keep h B.U.heap SA0) ∧ B.locs = A.locs ++ L ∧ B.cells = A.cells + rm.cells ∧ B.slots = A.slots + rm.slots ∧ CHr Z EL vm0 h B.U.vm B.U.heap) :=
  BackS.of_freeW (bytes := bytes) (maxL := maxL) (ret := ret) (E := fun _ first o t L k n => k = rm.cells ∧ n = rm.slots ∧ (∃ v, o = .returned v ∧ (Q0 v t.heap ∧ Fr n0 L ∧ Old Z n0 t.heap ∧ Keep h t.heap SA0)) ∧ CHr Z EL first.vm first.heap t.vm t.heap) ct hf hl
    (fun m meth c A a Y hp => have hU : Z.Warmed39 A.U.vm := wtrans (s := s.setVm vm0) hZ Y.warmed
      ⟨by show (Jvm.Cond.and _ .tt).before a A.U = true; rw [Cond.before_and, mv hU wc]; rfl, mv hU wc, mv hU wz, hp.2.2.1, hp.2.2.2⟩)
    (fun m meth c A a g mk Y hp => ⟨hp.1, wtrans (s := s.setVm vm0) hZ Y.warmed, hp.2.1, (CHv.at Y hZ hEL H).1, O, fun x q => ⟨(CHv.at Y hZ hEL H).safe (S x q).2.1 (S x q).1, (S x q).2⟩⟩) (fun _ _ _ _ _ _ _ _ _ => trivial)
    (fun _ _ _ _ ⟨v, L, h1, h2, h3, h4⟩ => ⟨L, _, _, h4, rfl, rfl, ⟨v, h1, h2⟩, h3⟩)
    (fun m meth c A a g mk v t L k n Y hp _ _ ⟨e1, e2, ⟨v', e3, e4⟩, e5⟩ => by
      cases e3; subst e1 e2
      refine ⟨L, e4, rfl, rfl, rfl, (CHv.at Y hZ hEL H).trans ?_⟩
      rw [← hp.2.1]; exact e5)
/-- what stands behind a call by its contract -/
theorem callN {T' : State} {L : List Loc} {k0 cells' slots' : Nat} (hS : s.Since vm0 k0) (hk : k0 ≤ h.size) (hZ : Z.Warmed39 vm0) (hown : vm0.findClass own = some m.cls) (hC : CHr Z EL s.vm s.heap vm0 h) {locs : List Loc} (N : Fr n0 locs) (K : Keep s.heap h SA0) (S : Sfs Z EL vm0 h n0 s.heap.size SA0 SA) (hEL : EW Z a0 EL) (hx : p.tables.exec = Jvm.exec)
    (Y : Stand p l e R ((s.setVm vm0).setVm T'.vm) m args below meth c T' (locs ++ L) cells' slots') (h2 : (s.setVm vm0).Since T'.vm T'.heap.size) (hg : h.size ≤ T'.heap.size) (hL : Fr n0 L) (O' : Old Z n0 T'.heap) (K' : Keep h T'.heap SA') (hsub : ∀ x ∈ SA', x ∈ SA) (A : CHr Z EL vm0 h T'.vm T'.heap) :
    Wd p l e R s m args below meth c Z a0 EL own n0 SA0 SA T' T'.heap cells' slots' := by
  obtain ⟨r1, r2, r3, r4⟩ := rebS (own := own) hS hk Y h2 hg hZ hown
  exact ⟨T'.vm, _, _, r1, rfl, r2, Nat.le_refl _, r3, r4, hC.trans A, N.app hL, O', K.trans K' (fun x q => (S x (hsub x q)).2.2.2), S.go A, hEL, hx⟩
/-- invokestatic by its contract -/
theorem Wd.calls (X : Wd p l e R s m args below meth c Z a0 EL own n0 SA0 SA T h cells slots) (argsL rest : List Value) {idx : Nat} (ct : Ct l Z EL [] y bytes maxL ret rm argsL.toArray h n0 SA' Q0) (w1 : (Jvm.Cond.methodLink own idx y).before a0 Z = true) (w2 : (Jvm.Cond.static y).before a0 Z = true) (w3 : (Jvm.Cond.initialized y.cls).before a0 Z = true) (w4 : (Jvm.Cond.code y bytes maxL ret).before a0 Z = true)
    (hy : y.cls ≠ "java/lang/invoke/MethodHandle" ∧ y.cls ≠ "java/lang/invoke/VarHandle") (hsub : ∀ x ∈ SA', x ∈ SA) (hf : rm.frames + 1 ≤ R.frames) (W : Nat) (hl : W + (maxL + 11) + rm.locals ≤ R.locals) (hcl : cells + rm.cells ≤ R.cells) (hsl : slots + rm.slots ≤ R.slots)
    (hlen : ∀ sig, parseMethodDescriptor y.desc = some sig → argsL.length = sig.parameters.length) (hst : st = argsL.reverse ++ rest) (hW : (rest.map fun v => v.category).sum ≤ W) (hsize : Ls.size = c.maxLocals) (hd : decode c.code pc = .ok (.invokestatic idx, 3))
    (k : ∀ (T' : State) (h' : Heap) (v : Option Value), Wd p l e R s m args below meth c Z a0 EL own n0 SA0 SA T' h' (cells + rm.cells) (slots + rm.slots) → Keep h h' SA' → Q0 v h' → Goes p.tables e below Q (T'.setTop (mkF m (pc + 3) Ls (v.toList ++ rest)))) : Goes p.tables e below Q (T.setTop (mkF m pc Ls st)) := by
  obtain ⟨vm0, locs, k0, Y, eT, hS, hk, hZ, hown, hC, N, O, K, S, hEL, hx⟩ := X
  obtain ⟨v, vm1, ⟨T', L', c', s'⟩, -, Y', h2, hg, ⟨L, ⟨q0, q1, q2, q3⟩, rfl, rfl, rfl, A⟩, st'⟩ := callSS Y hx hown (mvT hZ w1) (mvT hZ w2) (mvT hZ w3) (mvT hZ w4) hy (ct.back (a0 := a0) (W := W) (len := 3) hZ w4 w3 hf hl hEL hC.1 O fun x q => ⟨(S x (hsub x q)).1, (S x (hsub x q)).2.1, (S x (hsub x q)).2.2.1⟩)
    (g := mkF m pc Ls st) rfl hsize (argsL := argsL) (rest := rest) hlen hst (by show 2 * 0 + _ ≤ _; omega) hd (fun _ _ => ⟨rfl, eT, hcl, hsl⟩)
  exact Goes.aft st' (k T' T'.heap v (callN hS hk hZ hown hC N K S hEL hx Y' h2 (by rw [← eT]; exact hg) q1 q2 q3 hsub A) q3 q0)
/-- invokespecial of a constructor by its contract -/
theorem Wd.callc (X : Wd p l e R s m args below meth c Z a0 EL own n0 SA0 SA T h cells slots) (argsL rest : List Value) {idx : Nat} (ct : Ct l Z EL [] y bytes maxL none rm (.ref a :: argsL).toArray h n0 SA' Q0) (hy1 : y.name = "<init>") (w1 : (Jvm.Cond.methodLink own idx y).before a0 Z = true) (w2 : (Jvm.Cond.instanceMethod y).before a0 Z = true) (w3 : (Jvm.Cond.initialized y.cls).before a0 Z = true) (w4 : (Jvm.Cond.code y bytes maxL none).before a0 Z = true)
    (hy : y.cls ≠ "java/lang/invoke/MethodHandle" ∧ y.cls ≠ "java/lang/invoke/VarHandle") (hsub : ∀ x ∈ SA', x ∈ SA) (hf : rm.frames + 1 ≤ R.frames) (W : Nat) (hl : W + (maxL + 11) + rm.locals ≤ R.locals) (hcl : cells + rm.cells ≤ R.cells) (hsl : slots + rm.slots ≤ R.slots)
    (hlen : ∀ sig, parseMethodDescriptor y.desc = some sig → argsL.length = sig.parameters.length) (hst : st = argsL.reverse ++ .ref a :: rest) (hW : (rest.map fun v => v.category).sum ≤ W) (hsize : Ls.size = c.maxLocals) (hd : decode c.code pc = .ok (.invokespecial idx, 3))
    (k : ∀ (T' : State) (h' : Heap) (v : Option Value), Wd p l e R s m args below meth c Z a0 EL own n0 SA0 SA T' h' (cells + rm.cells) (slots + rm.slots) → Keep h h' SA' → Q0 v h' → Goes p.tables e below Q (T'.setTop (mkF m (pc + 3) Ls (v.toList ++ rest)))) : Goes p.tables e below Q (T.setTop (mkF m pc Ls st)) := by
  obtain ⟨vm0, locs, k0, Y, eT, hS, hk, hZ, hown, hC, N, O, K, S, hEL, hx⟩ := X
  obtain ⟨v, vm1, ⟨T', L', c', s'⟩, -, Y', h2, hg, ⟨L, ⟨q0, q1, q2, q3⟩, rfl, rfl, rfl, A⟩, st'⟩ := Y.specialBackS hx hy1 hown (mvT hZ w1) (mvT hZ w2) (mvT hZ w4) hy (ct.back (a0 := a0) (W := W) (len := 3) hZ w4 w3 hf hl hEL hC.1 O fun x q => ⟨(S x (hsub x q)).1, (S x (hsub x q)).2.1, (S x (hsub x q)).2.2.1⟩)
    (g := mkF m pc Ls st) rfl hsize (Steps.refl _) (a := a) (argsL := argsL) (rest := rest) hlen hst (by show 2 * 0 + _ ≤ _; omega) hd (fun _ _ => ⟨rfl, eT, hcl, hsl⟩)
  exact Goes.aft st' (k T' T'.heap v (callN hS hk hZ hown hC N K S hEL hx Y' h2 (by rw [← eT]; exact hg) q1 q2 q3 hsub A) q3 q0)
/-- invokevirtual by its contract: resolved y, selected z on an object that is exactly a C -/
theorem Wd.callv (X : Wd p l e R s m args below meth c Z a0 EL own n0 SA0 SA T h cells slots) (argsL rest : List Value) {idx : Nat} {C : String} (ct : Ct l Z EL [] y bytes maxL ret rm (.ref a :: argsL).toArray h n0 SA' Q0) (E : Exa Z h a C) (w1 : (Jvm.Cond.methodLink own idx y).before a0 Z = true) (w2 : (Jvm.Cond.declares y).before a0 Z = true) (w3 : (Jvm.Cond.selects C y y).before a0 Z = true) (w4 : (Jvm.Cond.instanceMethod y).before a0 Z = true)
    (w5 : (Jvm.Cond.initialized y.cls).before a0 Z = true) (w6 : (Jvm.Cond.code y bytes maxL ret).before a0 Z = true)
    (hy : y.cls ≠ "java/lang/invoke/MethodHandle" ∧ y.cls ≠ "java/lang/invoke/VarHandle") (hsub : ∀ x ∈ SA', x ∈ SA) (hf : rm.frames + 1 ≤ R.frames) (W : Nat) (hl : W + (maxL + 11) + rm.locals ≤ R.locals) (hcl : cells + rm.cells ≤ R.cells) (hsl : slots + rm.slots ≤ R.slots)
    (hlen : ∀ sig, parseMethodDescriptor y.desc = some sig → argsL.length = sig.parameters.length) (hst : st = argsL.reverse ++ .ref a :: rest) (hW : (rest.map fun v => v.category).sum ≤ W) (hsize : Ls.size = c.maxLocals) (hd : decode c.code pc = .ok (.invokevirtual idx, 3))
    (k : ∀ (T' : State) (h' : Heap) (v : Option Value), Wd p l e R s m args below meth c Z a0 EL own n0 SA0 SA T' h' (cells + rm.cells) (slots + rm.slots) → Keep h h' SA' → Q0 v h' → Goes p.tables e below Q (T'.setTop (mkF m (pc + 3) Ls (v.toList ++ rest)))) : Goes p.tables e below Q (T.setTop (mkF m pc Ls st)) := by
  obtain ⟨vm0, locs, k0, Y, eT, hS, hk, hZ, hown, hC, N, O, K, S, hEL, hx⟩ := X
  obtain ⟨cB, kB, u1, -, u3⟩ := isOf (s := s.setVm vm0) hZ eT E
  obtain ⟨v, vm1, ⟨T', L', c', s'⟩, -, Y', h2, hg, ⟨L, ⟨q0, q1, q2, q3⟩, rfl, rfl, rfl, A⟩, st'⟩ := Y.virtualBackS hx hown (mvT hZ w1) (mvT hZ w2) (notFace_of_selects (args := #[]) (mvT hZ w3)) (mvT hZ w3) (mvT hZ w4) hy (ct.back (a0 := a0) (W := W) (len := 3) hZ w6 w5 hf hl hEL hC.1 O fun x q => ⟨(S x (hsub x q)).1, (S x (hsub x q)).2.1, (S x (hsub x q)).2.2.1⟩)
    u1 u3 (g := mkF m pc Ls st) rfl hsize (Steps.refl _) (argsL := argsL) (rest := rest) hlen hst (by show 2 * 0 + _ ≤ _; omega) hd (fun _ _ => ⟨rfl, eT, hcl, hsl⟩)
  exact Goes.aft st' (k T' T'.heap v (callN hS hk hZ hown hC N K S hEL hx Y' h2 (by rw [← eT]; exact hg) q1 q2 q3 hsub A) q3 q0)
/-- what stands behind a call by a law of the narrow kind (nothing interned), that wrote ws -/
theorem backN {T' : State} {L : List Loc} {k0 cells' slots' : Nat} (hS : s.Since vm0 k0) (hk : k0 ≤ h.size) (hZ : Z.Warmed39 vm0) (hown : vm0.findClass own = some m.cls) (hC : CHr Z EL s.vm s.heap vm0 h) {locs : List Loc} (N : Fr n0 locs) (O : Old Z n0 h) (K : Keep s.heap h SA0) (S : Sfs Z EL vm0 h n0 s.heap.size SA0 SA) (hEL : EW Z a0 EL) (hx : p.tables.exec = Jvm.exec)
    (Y : Stand p l e R (s.setVm vm0) m args below meth c T' (locs ++ L) cells' slots') (hL : Fr n0 L) (K' : Keep h T'.heap SA') (hsub : ∀ x ∈ SA', x ∈ SA) :
    Wd p l e R s m args below meth c Z a0 EL own n0 SA0 SA T' T'.heap cells' slots' := by
  have A := CHr.keep K' (fun x q => (S x (hsub x q)).1) hC.1
  exact ⟨vm0, _, k0, Y, rfl, hS, Nat.le_trans hk K'.1, hZ, hown, hC.trans A, N.app hL, O.keep K' (fun x q => (S x (hsub x q)).2.2.1), K.trans K' (fun x q => (S x (hsub x q)).2.2.2), S.go A, hEL, hx⟩
/-- the ends -/
theorem Wd.leave (X : Wd p l e R s m args below meth c Z a0 EL own n0 SA0 SA T h cells slots) (hv : meth.sig.returnType = none → ∀ w, v = w → False) (hlk : meth.locks = false) (hcl : cells ≤ R.cells) (hsl : slots ≤ R.slots) (q : Q0 (some v) h)
    (st' : ∀ fs, (∀ (f : JFrame) (acts : List Action), f.method = m → f.locked = none → f.entered = [] → (doReturn e (T.setTop f) acts (some v)).1 = T.setFrames fs) → ∀ (vm0 : Vm) (locs : List Loc), Stand p l e R (s.setVm vm0) m args below meth c T locs cells slots → Steps p.tables e below (T.setTop (mkF m pc Ls st)) (T.setFrames fs)) :
    Goes p.tables e below (Endq Z EL s n0 SA0 R Q0) (T.setTop (mkF m pc Ls st)) := by
  have X0 := X
  obtain ⟨vm0, locs, k0, Y, eT, hS, hk, hZ, hown, hC, N, O, K, S, hEL, hx⟩ := X
  obtain ⟨fs, hr, hrun, hended, hE⟩ := (Y.mono hcl hsl).leaveW hS (by rw [eT]; exact hk) (v := some v) (fun q => (hv q v rfl).elim) hlk
  refine ⟨_, _, st' fs hr vm0 locs Y, hrun, hended, _, _, rfl, ⟨?_, N, ?_, ?_⟩, ?_, hE⟩
  · show Q0 (some v) T.heap; rw [eT]; exact q
  · show Old Z n0 T.heap; rw [eT]; exact O
  · show Keep s.heap T.heap SA0; rw [eT]; exact K
  · show CHr Z EL s.vm s.heap T.vm T.heap; rw [eT]; exact hC.trans (CHv.at Y hZ hEL hC.1)
theorem Wd.retn (X : Wd p l e R s m args below meth c Z a0 EL own n0 SA0 SA T h cells slots) (hret : meth.sig.returnType = none) (hlk : meth.locks = false) (hd : decode c.code pc = .ok (.return_, 1)) (hcl : cells ≤ R.cells) (hsl : slots ≤ R.slots) (q : Q0 none h) :
    Goes p.tables e below (Endq Z EL s n0 SA0 R Q0) (T.setTop (mkF m pc Ls [])) := by
  obtain ⟨vm0, locs, k0, Y, eT, hS, hk, hZ, hown, hC, N, O, K, S, hEL, hx⟩ := X
  obtain ⟨fs, hr, hrun, hended, hE⟩ := (Y.mono hcl hsl).leaveW hS (by rw [eT]; exact hk) (v := none) (fun _ => rfl) hlk
  refine ⟨_, _, Y.returnOut hx hret hd hr, hrun, hended, _, _, rfl, ⟨?_, N, ?_, ?_⟩, ?_, hE⟩
  · show Q0 none T.heap; rw [eT]; exact q
  · show Old Z n0 T.heap; rw [eT]; exact O
  · show Keep s.heap T.heap SA0; rw [eT]; exact K
  · show CHr Z EL s.vm s.heap T.vm T.heap; rw [eT]; exact hC.trans (CHv.at Y hZ hEL hC.1)
/-- ireturn of a boolean, byte, char or short -/
theorem Wd.reti (X : Wd p l e R s m args below meth c Z a0 EL own n0 SA0 SA T h cells slots) {t : FieldType} {x : Int32} (hret : meth.sig.returnType = some t) (ht : t = .boolean ∨ t = .byte ∨ t = .char ∨ t = .short) (hlk : meth.locks = false) (hd : decode c.code pc = .ok (.ireturn, 1)) (hcl : cells ≤ R.cells) (hsl : slots ≤ R.slots) (q : Q0 (some (.int (nar t x))) h) :
    Goes p.tables e below (Endq Z EL s n0 SA0 R Q0) (T.setTop (mkF m pc Ls (.int x :: st))) :=
  X.leave (fun q => by rw [hret] at q; cases q) hlk hcl hsl q (fun fs hr vm0 locs Y => retN Y X.exec hret ht hd hr)
/-- ireturn of an int -/
theorem Wd.retI (X : Wd p l e R s m args below meth c Z a0 EL own n0 SA0 SA T h cells slots) {x : Int32} (hret : meth.sig.returnType = some .int) (hlk : meth.locks = false) (hd : decode c.code pc = .ok (.ireturn, 1)) (hcl : cells ≤ R.cells) (hsl : slots ≤ R.slots) (q : Q0 (some (.int x)) h) :
    Goes p.tables e below (Endq Z EL s n0 SA0 R Q0) (T.setTop (mkF m pc Ls (.int x :: st))) :=
  X.leave (fun q => by rw [hret] at q; cases q) hlk hcl hsl q (fun fs hr vm0 locs Y => retOut Y X.exec hret rfl (Or.inl ⟨rfl, Or.inl rfl, _, rfl⟩) hd hr)
/-- areturn -/
theorem Wd.retA (X : Wd p l e R s m args below meth c Z a0 EL own n0 SA0 SA T h cells slots) {t : FieldType} {x : Value} (hret : meth.sig.returnType = some t) (ht : t.isReference = true) (hx : x.isRef = true) (hlk : meth.locks = false) (hd : decode c.code pc = .ok (.areturn, 1)) (hcl : cells ≤ R.cells) (hsl : slots ≤ R.slots) (q : Q0 (some x) h) :
    Goes p.tables e below (Endq Z EL s n0 SA0 R Q0) (T.setTop (mkF m pc Ls (x :: st))) :=
  X.leave (fun q => by rw [hret] at q; cases q) hlk hcl hsl q (fun fs hr vm0 locs Y => retOut Y X.exec hret (by cases t <;> cases x <;> first | rfl | cases ht | cases hx) (Or.inr (Or.inr (Or.inr (Or.inr ⟨rfl, ht, hx⟩)))) hd hr)
end Wide
end Own
namespace Own
open Jvm Jvm.ClassFile Sem Op Lib Jvm.Free Jvm.Stand Jvm.LawKit Jvm.RoadKit Bundle
/-- as Ct, and it hands out F: cells that it made and that may be written -/
def CtF (l : Launch) (Z : State) (EL : List (String × Nat)) (ws : List Jvm.Cond) (y : MethodName) (bytes : ByteArray) (maxL : Nat) (ret : Option FieldType) (rm : Room) (as' : Array Value) (h0 : Heap) (n0 : Nat) (SA0 : List Addr) (Q0 : Option Value → Heap → List Addr → Prop) : Prop :=
  MetFree l y (head1 (Jvm.Cond.code y bytes maxL ret :: ws) rm) (fun a U => a = as' ∧ Z.Warmed39 U.vm ∧ U.heap = h0 ∧ CHv Z EL U.vm h0 ∧ Old Z n0 h0 ∧ ∀ x ∈ SA0, Safe Z EL U.vm h0 x ∧ x < h0.size ∧ n0 ≤ x) (fun _ _ _ _ _ => True)
    (fun _ U o U' => ∃ v L, o = .returned v ∧ (∃ F, Q0 v U'.heap F ∧ (Fr n0 L ∧ Old Z n0 U'.heap ∧ Keep h0 U'.heap SA0) ∧ ∀ x ∈ F, Safe Z EL U'.vm U'.heap x ∧ x < U'.heap.size ∧ n0 ≤ x ∧ h0.size ≤ x) ∧ CHr Z EL U.vm U.heap U'.vm U'.heap ∧ ReturnedEndW U o U' L rm.cells rm.slots)
def EndqF (Z : State) (EL : List (String × Nat)) (s : State) (n0 : Nat) (SA0 : List Addr) (rm : Room) (Q0 : Option Value → Heap → List Addr → Prop) (o : Outcome) (U' : State) : Prop :=
  ∃ v L, o = .returned v ∧ (∃ F, Q0 v U'.heap F ∧ (Fr n0 L ∧ Old Z n0 U'.heap ∧ Keep s.heap U'.heap SA0) ∧ ∀ x ∈ F, Safe Z EL U'.vm U'.heap x ∧ x < U'.heap.size ∧ n0 ≤ x ∧ s.heap.size ≤ x) ∧ CHr Z EL s.vm s.heap U'.vm U'.heap ∧ ReturnedEndW s o U' L rm.cells rm.slots
section Wide
variable {p : Program} {l : Launch} {e : Env} {R : Room} {s : State} {m : MethodId} {args : Array Value} {below : List Frame} {meth : Method} {c : Code}
variable {Z : State} {a0 : Array Value} {EL : List (String × Nat)} {own : String} {n0 : Nat} {SA0 SA SA' : List Addr} {T : State} {h h' h0 : Heap} {cells slots : Nat} {Q : Outcome → State → Prop} {pc : Nat} {Ls : Array Slot} {st : List Value} {vm0 vm1 : Vm} {a : Addr} {sl : Nat} {v : Value}
variable {ws : List Jvm.Cond} {y z : MethodName} {bytes : ByteArray} {maxL : Nat} {ret : Option FieldType} {rm : Room} {as' : Array Value} {Q0 : Option Value → Heap → List Addr → Prop} {Q1 : Option Value → Heap → Prop}
theorem CtF.enter (pn : plainFor y = true) (hEL : EW Z a0 EL)
    (body : ∀ (p : Program) (e : Env) (s : State) (m : MethodId) (below : List Frame) (meth : Method) (c : Code) (T : State), c.code = bytes → c.maxLocals = maxL → meth.sig.returnType = ret → meth.locks = false → meth.name = y.name → s.heap = h0 → Wd p l e rm s m as' below meth c Z a0 EL y.cls n0 SA0 SA0 T h0 0 0 →
      Goes p.tables e below (EndqF Z EL s n0 SA0 rm Q0) (T.setTop (entryFrame m as' maxL))) : CtF l Z EL ws y bytes maxL ret rm as' h0 n0 SA0 Q0 := by
  refine MetFree.of_bodySF pn hisR ?_
  intro p e s m args below meth c s₁ Bd hml0 hP hK
  obtain ⟨rfl, hZ, rfl, H, O, S⟩ := hP
  have Y : Stand p l e rm s m args below meth c s₁ [] 0 0 := Stand.of_body Bd
  have e0 : s₁.heap = s.heap := by rw [Bd.state]; rfl
  obtain ⟨s₂, o, h1, h2, h3, v, L, h4, h5, h6, h7⟩ := body p e s m below meth c s₁ Bd.bytes hml0 Bd.returns (BodyLoose.notSynchronized Bd) (name_of_methodNamed Bd.named Bd.method).1 rfl
    ⟨s.vm, [], 0, Y, e0, (State.WarmedH.refl s).since _, Nat.zero_le _, hZ, findClass_of_methodNamed Bd.named, CHr.refl H, Fr.nil _, O, Keep.refl _ _, fun x q => ⟨(S x q).1, (S x q).2.1, (S x q).2.2, Or.inl q⟩, hEL, Bd.exec⟩
  exact ⟨s₂, o, h1, h2, h3, v, L, h4, h5, h6, h7⟩
/-- a contract that hands out nothing, as one that hands out the empty list -/
theorem Ct.toF (ct : Ct l Z EL ws y bytes maxL ret rm as' h0 n0 SA0 Q1) : CtF l Z EL ws y bytes maxL ret rm as' h0 n0 SA0 (fun v h F => F = [] ∧ Q1 v h) := fun p e h1 h2 h3 s m args below h4 h5 h6 h7 => by
  obtain ⟨n, o, g1, g2, g3, v, L, g4, ⟨q1, q2, q3, q4⟩, g5, g6⟩ := ct p e h1 h2 h3 s m args below h4 h5 h6 h7
  exact ⟨n, o, g1, g2, g3, v, L, g4, ⟨[], ⟨rfl, q1⟩, ⟨q2, q3, q4⟩, fun _ q => nomatch q⟩, g5, g6⟩
theorem CtF.back {len W : Nat} (ct : CtF l Z EL [] y bytes maxL ret rm as' h n0 SA0 Q0) (hZ : Z.Warmed39 vm0) (wc : (Jvm.Cond.code y bytes maxL ret).before a0 Z = true) (wz : (Jvm.Cond.initialized y.cls).before a0 Z = true) (hf : rm.frames + 1 ≤ R.frames) (hl : W + (maxL + 11) + rm.locals ≤ R.locals) (hEL : EW Z a0 EL) (H : CHv Z EL vm0 h) (O : Old Z n0 h)
    (S : ∀ x ∈ SA0, Safe Z EL vm0 h x ∧ x < h.size ∧ n0 ≤ x) :
    BackS l R p e below (s.setVm vm0) args y len W (fun A a => a = as' ∧ A.U.heap = h ∧ A.cells + rm.cells ≤ R.cells ∧ A.slots + rm.slots ≤ R.slots)
      (fun A _ v B => ∃ L, (∃ F, Q0 v B.U.heap F ∧ (Fr n0 L ∧ Old Z n0 B.U.heap ∧ Keep h B.U.heap SA0) ∧ ∀ x ∈ F, Safe Z EL B.U.vm B.U.heap x ∧ x < B.U.heap.size ∧ n0 ≤ x ∧ h.size ≤ x) ∧ B.locs = A.locs ++ L ∧ B.cells = A.cells + rm.cells ∧ B.slots = A.slots + rm.slots ∧ CHr Z EL vm0 h B.U.vm B.U.heap) :=
  BackS.of_freeW (bytes := bytes) (maxL := maxL) (ret := ret) (E := fun _ first o t L k n => k = rm.cells ∧ n = rm.slots ∧ (∃ v, o = .returned v ∧ (∃ F, Q0 v t.heap F ∧ (Fr n0 L ∧ Old Z n0 t.heap ∧ Keep h t.heap SA0) ∧ ∀ x ∈ F, Safe Z EL t.vm t.heap x ∧ x < t.heap.size ∧ n0 ≤ x ∧ h.size ≤ x)) ∧ CHr Z EL first.vm first.heap t.vm t.heap) ct hf hl
    (fun m meth c A a Y hp => have hU : Z.Warmed39 A.U.vm := wtrans (s := s.setVm vm0) hZ Y.warmed
      ⟨by show (Jvm.Cond.and _ .tt).before a A.U = true; rw [Cond.before_and, mv hU wc]; rfl, mv hU wc, mv hU wz, hp.2.2.1, hp.2.2.2⟩)
    (fun m meth c A a g mk Y hp => ⟨hp.1, wtrans (s := s.setVm vm0) hZ Y.warmed, hp.2.1, (CHv.at Y hZ hEL H).1, O, fun x q => ⟨(CHv.at Y hZ hEL H).safe (S x q).2.1 (S x q).1, (S x q).2⟩⟩) (fun _ _ _ _ _ _ _ _ _ => trivial)
    (fun _ _ _ _ ⟨v, L, h1, h2, h3, h4⟩ => ⟨L, _, _, h4, rfl, rfl, ⟨v, h1, h2⟩, h3⟩)
    (fun m meth c A a g mk v t L k n Y hp _ _ ⟨e1, e2, ⟨v', e3, e4⟩, e5⟩ => by
      cases e3; subst e1 e2
      refine ⟨L, e4, rfl, rfl, rfl, (CHv.at Y hZ hEL H).trans ?_⟩
      rw [← hp.2.1]; exact e5)
/-- what stands behind a call by such a contract -/
theorem callNF {T' : State} {L : List Loc} {F : List Addr} {k0 cells' slots' : Nat} (hS : s.Since vm0 k0) (hk : k0 ≤ h.size) (hZ : Z.Warmed39 vm0) (hown : vm0.findClass own = some m.cls) (hC : CHr Z EL s.vm s.heap vm0 h) {locs : List Loc} (N : Fr n0 locs) (K : Keep s.heap h SA0) (S : Sfs Z EL vm0 h n0 s.heap.size SA0 SA) (hEL : EW Z a0 EL) (hx : p.tables.exec = Jvm.exec)
    (Y : Stand p l e R ((s.setVm vm0).setVm T'.vm) m args below meth c T' (locs ++ L) cells' slots') (h2 : (s.setVm vm0).Since T'.vm T'.heap.size) (hg : h.size ≤ T'.heap.size) (hL : Fr n0 L) (O' : Old Z n0 T'.heap) (K' : Keep h T'.heap SA') (hsub : ∀ x ∈ SA', x ∈ SA) (A : CHr Z EL vm0 h T'.vm T'.heap)
    (hF : ∀ x ∈ F, Safe Z EL T'.vm T'.heap x ∧ x < T'.heap.size ∧ n0 ≤ x ∧ h.size ≤ x) :
    Wd p l e R s m args below meth c Z a0 EL own n0 SA0 (F ++ SA) T' T'.heap cells' slots' := by
  obtain ⟨r1, r2, r3, r4⟩ := rebS (own := own) hS hk Y h2 hg hZ hown
  refine ⟨T'.vm, _, _, r1, rfl, r2, Nat.le_refl _, r3, r4, hC.trans A, N.app hL, O', K.trans K' (fun x q => (S x (hsub x q)).2.2.2), fun x q => ?_, hEL, hx⟩
  rcases List.mem_append.mp q with q | q
  · exact ⟨(hF x q).1, (hF x q).2.1, (hF x q).2.2.1, Or.inr (Nat.le_trans K.1 (hF x q).2.2.2)⟩
  · exact S.go A x q
theorem Wd.callsF (X : Wd p l e R s m args below meth c Z a0 EL own n0 SA0 SA T h cells slots) (argsL rest : List Value) {idx : Nat} (ct : CtF l Z EL [] y bytes maxL ret rm argsL.toArray h n0 SA' Q0) (w1 : (Jvm.Cond.methodLink own idx y).before a0 Z = true) (w2 : (Jvm.Cond.static y).before a0 Z = true) (w3 : (Jvm.Cond.initialized y.cls).before a0 Z = true) (w4 : (Jvm.Cond.code y bytes maxL ret).before a0 Z = true)
    (hy : y.cls ≠ "java/lang/invoke/MethodHandle" ∧ y.cls ≠ "java/lang/invoke/VarHandle") (hsub : ∀ x ∈ SA', x ∈ SA) (hf : rm.frames + 1 ≤ R.frames) (W : Nat) (hl : W + (maxL + 11) + rm.locals ≤ R.locals) (hcl : cells + rm.cells ≤ R.cells) (hsl : slots + rm.slots ≤ R.slots)
    (hlen : ∀ sig, parseMethodDescriptor y.desc = some sig → argsL.length = sig.parameters.length) (hst : st = argsL.reverse ++ rest) (hW : (rest.map fun v => v.category).sum ≤ W) (hsize : Ls.size = c.maxLocals) (hd : decode c.code pc = .ok (.invokestatic idx, 3))
    (k : ∀ (T' : State) (h' : Heap) (v : Option Value) (F : List Addr), Wd p l e R s m args below meth c Z a0 EL own n0 SA0 (F ++ SA) T' h' (cells + rm.cells) (slots + rm.slots) → Keep h h' SA' → (∀ x ∈ F, h.size ≤ x) → Q0 v h' F → Goes p.tables e below Q (T'.setTop (mkF m (pc + 3) Ls (v.toList ++ rest)))) : Goes p.tables e below Q (T.setTop (mkF m pc Ls st)) := by
  obtain ⟨vm0, locs, k0, Y, eT, hS, hk, hZ, hown, hC, N, O, K, S, hEL, hx⟩ := X
  obtain ⟨v, vm1, ⟨T', L', c', s'⟩, -, Y', h2, hg, ⟨L, ⟨F, q0, ⟨q1, q2, q3⟩, hF⟩, rfl, rfl, rfl, A⟩, st'⟩ := callSS Y hx hown (mvT hZ w1) (mvT hZ w2) (mvT hZ w3) (mvT hZ w4) hy (ct.back (a0 := a0) (W := W) (len := 3) hZ w4 w3 hf hl hEL hC.1 O fun x q => ⟨(S x (hsub x q)).1, (S x (hsub x q)).2.1, (S x (hsub x q)).2.2.1⟩)
    (g := mkF m pc Ls st) rfl hsize (argsL := argsL) (rest := rest) hlen hst (by show 2 * 0 + _ ≤ _; omega) hd (fun _ _ => ⟨rfl, eT, hcl, hsl⟩)
  exact Goes.aft st' (k T' T'.heap v F (callNF hS hk hZ hown hC N K S hEL hx Y' h2 (by rw [← eT]; exact hg) q1 q2 q3 hsub A hF) q3 (fun x q => (hF x q).2.2.2) q0)
theorem Wd.callcF (X : Wd p l e R s m args below meth c Z a0 EL own n0 SA0 SA T h cells slots) (argsL rest : List Value) {idx : Nat} (ct : CtF l Z EL [] y bytes maxL none rm (.ref a :: argsL).toArray h n0 SA' Q0) (hy1 : y.name = "<init>") (w1 : (Jvm.Cond.methodLink own idx y).before a0 Z = true) (w2 : (Jvm.Cond.instanceMethod y).before a0 Z = true) (w3 : (Jvm.Cond.initialized y.cls).before a0 Z = true) (w4 : (Jvm.Cond.code y bytes maxL none).before a0 Z = true)
    (hy : y.cls ≠ "java/lang/invoke/MethodHandle" ∧ y.cls ≠ "java/lang/invoke/VarHandle") (hsub : ∀ x ∈ SA', x ∈ SA) (hf : rm.frames + 1 ≤ R.frames) (W : Nat) (hl : W + (maxL + 11) + rm.locals ≤ R.locals) (hcl : cells + rm.cells ≤ R.cells) (hsl : slots + rm.slots ≤ R.slots)
    (hlen : ∀ sig, parseMethodDescriptor y.desc = some sig → argsL.length = sig.parameters.length) (hst : st = argsL.reverse ++ .ref a :: rest) (hW : (rest.map fun v => v.category).sum ≤ W) (hsize : Ls.size = c.maxLocals) (hd : decode c.code pc = .ok (.invokespecial idx, 3))
    (k : ∀ (T' : State) (h' : Heap) (v : Option Value) (F : List Addr), Wd p l e R s m args below meth c Z a0 EL own n0 SA0 (F ++ SA) T' h' (cells + rm.cells) (slots + rm.slots) → Keep h h' SA' → (∀ x ∈ F, h.size ≤ x) → Q0 v h' F → Goes p.tables e below Q (T'.setTop (mkF m (pc + 3) Ls (v.toList ++ rest)))) : Goes p.tables e below Q (T.setTop (mkF m pc Ls st)) := by
  obtain ⟨vm0, locs, k0, Y, eT, hS, hk, hZ, hown, hC, N, O, K, S, hEL, hx⟩ := X
  obtain ⟨v, vm1, ⟨T', L', c', s'⟩, -, Y', h2, hg, ⟨L, ⟨F, q0, ⟨q1, q2, q3⟩, hF⟩, rfl, rfl, rfl, A⟩, st'⟩ := Y.specialBackS hx hy1 hown (mvT hZ w1) (mvT hZ w2) (mvT hZ w4) hy (ct.back (a0 := a0) (W := W) (len := 3) hZ w4 w3 hf hl hEL hC.1 O fun x q => ⟨(S x (hsub x q)).1, (S x (hsub x q)).2.1, (S x (hsub x q)).2.2.1⟩)
    (g := mkF m pc Ls st) rfl hsize (Steps.refl _) (a := a) (argsL := argsL) (rest := rest) hlen hst (by show 2 * 0 + _ ≤ _; omega) hd (fun _ _ => ⟨rfl, eT, hcl, hsl⟩)
  exact Goes.aft st' (k T' T'.heap v F (callNF hS hk hZ hown hC N K S hEL hx Y' h2 (by rw [← eT]; exact hg) q1 q2 q3 hsub A hF) q3 (fun x q => (hF x q).2.2.2) q0)
theorem Wd.callvF (X : Wd p l e R s m args below meth c Z a0 EL own n0 SA0 SA T h cells slots) (argsL rest : List Value) {idx : Nat} {C : String} (ct : CtF l Z EL [] z bytes maxL ret rm (.ref a :: argsL).toArray h n0 SA' Q0) (E : Exa Z h a C) (w1 : (Jvm.Cond.methodLink own idx y).before a0 Z = true) (w2 : (Jvm.Cond.declares y).before a0 Z = true) (w3 : (Jvm.Cond.selects C y z).before a0 Z = true) (w4 : (Jvm.Cond.instanceMethod z).before a0 Z = true)
    (hnf : NotFace Z y) (w5 : (Jvm.Cond.initialized z.cls).before a0 Z = true) (w6 : (Jvm.Cond.code z bytes maxL ret).before a0 Z = true)
    (hy : y.cls ≠ "java/lang/invoke/MethodHandle" ∧ y.cls ≠ "java/lang/invoke/VarHandle") (hsub : ∀ x ∈ SA', x ∈ SA) (hf : rm.frames + 1 ≤ R.frames) (W : Nat) (hl : W + (maxL + 11) + rm.locals ≤ R.locals) (hcl : cells + rm.cells ≤ R.cells) (hsl : slots + rm.slots ≤ R.slots)
    (hlen : ∀ sig, parseMethodDescriptor y.desc = some sig → argsL.length = sig.parameters.length) (hst : st = argsL.reverse ++ .ref a :: rest) (hW : (rest.map fun v => v.category).sum ≤ W) (hsize : Ls.size = c.maxLocals) (hd : decode c.code pc = .ok (.invokevirtual idx, 3))
    (k : ∀ (T' : State) (h' : Heap) (v : Option Value) (F : List Addr), Wd p l e R s m args below meth c Z a0 EL own n0 SA0 (F ++ SA) T' h' (cells + rm.cells) (slots + rm.slots) → Keep h h' SA' → (∀ x ∈ F, h.size ≤ x) → Q0 v h' F → Goes p.tables e below Q (T'.setTop (mkF m (pc + 3) Ls (v.toList ++ rest)))) : Goes p.tables e below Q (T.setTop (mkF m pc Ls st)) := by
  obtain ⟨vm0, locs, k0, Y, eT, hS, hk, hZ, hown, hC, N, O, K, S, hEL, hx⟩ := X
  obtain ⟨cB, kB, u1, -, u3⟩ := isOf (s := s.setVm vm0) hZ eT E
  have hnf' : NotFace (s.setVm vm0) y := fun r0 h0 => by
    have h0' : Z.methodNamed? y = some r0 := by
      have q : (Z.setVm vm0).methodNamed? y = Z.methodNamed? y := State.methodNamed?_setVm hZ.alike y
      have q' : (Z.setVm vm0).methodNamed? y = (s.setVm vm0).methodNamed? y := rfl
      rw [← q, q']; exact h0
    obtain ⟨k, hk1, hk2⟩ := hnf r0 h0'
    obtain ⟨k', g1, g2⟩ := hZ.alike.2.2 _ _ hk1
    exact ⟨k', g1, by rw [g2]; exact hk2⟩
  obtain ⟨v, vm1, ⟨T', L', c', s'⟩, -, Y', h2, hg, ⟨L, ⟨F, q0, ⟨q1, q2, q3⟩, hF⟩, rfl, rfl, rfl, A⟩, st'⟩ := Y.virtualBackS hx hown (mvT hZ w1) (mvT hZ w2) hnf' (mvT hZ w3) (mvT hZ w4) hy (ct.back (a0 := a0) (W := W) (len := 3) hZ w6 w5 hf hl hEL hC.1 O fun x q => ⟨(S x (hsub x q)).1, (S x (hsub x q)).2.1, (S x (hsub x q)).2.2.1⟩)
    u1 u3 (g := mkF m pc Ls st) rfl hsize (Steps.refl _) (argsL := argsL) (rest := rest) hlen hst (by show 2 * 0 + _ ≤ _; omega) hd (fun _ _ => ⟨rfl, eT, hcl, hsl⟩)
  exact Goes.aft st' (k T' T'.heap v F (callNF hS hk hZ hown hC N K S hEL hx Y' h2 (by rw [← eT]; exact hg) q1 q2 q3 hsub A hF) q3 (fun x q => (hF x q).2.2.2) q0)
theorem decOf {y : MethodName} {bytes : ByteArray} {maxL : Nat} {ret : Option FieldType} (w1 : (Jvm.Cond.instanceMethod y).before a0 Z = true) (w2 : (Jvm.Cond.code y bytes maxL ret).before a0 Z = true) : (Jvm.Cond.declares y).before a0 Z = true := by
  obtain ⟨mk, methM, hnamed, hmethM, hst, -⟩ := Cond.instanceMethod_spec w1
  obtain ⟨m2, cM, q1, -, -, -, -, -, -, hsig⟩ := Cond.code_spec hnamed w2
  cases hmethM.symm.trans q1
  simp [Cond.before, Cond.holds, Cond.value, hnamed, hmethM, hst, hsig]
theorem nfOf {y y' z' : MethodName} {C : String} (ws : (Jvm.Cond.selects C y' z').before a0 Z = true) (e : z'.cls = y.cls) : NotFace Z y := fun r0 h0 => by
  obtain ⟨c2, r2, m2, -, -, q3, -, kP, hkP, hkPi⟩ := Cond.selects_spec ws
  have hc := findClass_of_methodNamed h0
  have hc' := findClass_of_methodNamed q3
  rw [e] at hc'
  have : m2.cls = r0.cls := Option.some.inj (hc'.symm.trans hc)
  exact ⟨kP, by rw [← this]; exact hkP, hkPi⟩
/-- that a class declares y itself and is no interface: what a lookup through it finds -/
theorem smOf {y y' z' : MethodName} {C : String} (w : (Jvm.Cond.instanceMethod y).before a0 Z = true) (ws : (Jvm.Cond.selects C y' z').before a0 Z = true) (e : z'.cls = y.cls) (hy : y.cls ≠ "java/lang/invoke/MethodHandle" ∧ y.cls ≠ "java/lang/invoke/VarHandle") : (Jvm.Cond.sameMethod y.cls y.cls y.name y.desc).before a0 Z = true := by
  obtain ⟨mk, methM, hnamed, hmethM, -, -⟩ := Cond.instanceMethod_spec w
  obtain ⟨c2, r2, m2, -, -, q3, -, kP, hkP, hkPi⟩ := Cond.selects_spec ws
  have hc := findClass_of_methodNamed hnamed
  have hc' := findClass_of_methodNamed q3
  rw [e] at hc'
  have e1 := Option.some.inj (hc.symm.trans hc')
  rw [← e1] at hkP
  have hf := State.methodFound?_of_named hnamed hy
  have hn2 : Z.methodNamed? ⟨y.cls, y.name, y.desc⟩ = some mk := hnamed
  simp [Cond.before, Cond.holds, Cond.value, hc, hf, hn2, hkP, hkPi]
/-- invokespecial of a superclass's method -/
theorem Wd.callu (X : Wd p l e R s m args below meth c Z a0 EL own n0 SA0 SA T h cells slots) (argsL rest : List Value) {idx : Nat} {C : String} (ct : CtF l Z EL [] y bytes maxL ret rm (.ref a :: argsL).toArray h n0 SA' Q0) (E : Exa Z h a C) (w1 : (Jvm.Cond.methodLink own idx y).before a0 Z = true) (w2 : (Jvm.Cond.sameMethod y.cls y.cls y.name y.desc).before a0 Z = true) (w3 : (Jvm.Cond.instanceMethod y).before a0 Z = true) (w4 : (Jvm.Cond.superclass own y.cls).before a0 Z = true) (hn : y.name ≠ "<init>")
    (w5 : (Jvm.Cond.initialized y.cls).before a0 Z = true) (w6 : (Jvm.Cond.code y bytes maxL ret).before a0 Z = true) (hsub : ∀ x ∈ SA', x ∈ SA) (hf : rm.frames + 1 ≤ R.frames) (W : Nat) (hl : W + (maxL + 11) + rm.locals ≤ R.locals) (hcl : cells + rm.cells ≤ R.cells) (hsl : slots + rm.slots ≤ R.slots)
    (hlen : ∀ sig, parseMethodDescriptor y.desc = some sig → argsL.length = sig.parameters.length) (hst : st = argsL.reverse ++ .ref a :: rest) (hW : (rest.map fun v => v.category).sum ≤ W) (hsize : Ls.size = c.maxLocals) (hd : decode c.code pc = .ok (.invokespecial idx, 3))
    (k : ∀ (T' : State) (h' : Heap) (v : Option Value) (F : List Addr), Wd p l e R s m args below meth c Z a0 EL own n0 SA0 (F ++ SA) T' h' (cells + rm.cells) (slots + rm.slots) → Keep h h' SA' → (∀ x ∈ F, h.size ≤ x) → Q0 v h' F → Goes p.tables e below Q (T'.setTop (mkF m (pc + 3) Ls (v.toList ++ rest)))) : Goes p.tables e below Q (T.setTop (mkF m pc Ls st)) := by
  obtain ⟨vm0, locs, k0, Y, eT, hS, hk, hZ, hown, hC, N, O, K, S, hEL, hx⟩ := X
  obtain ⟨v, vm1, ⟨T', L', c', s'⟩, -, Y', h2, hg, ⟨L, ⟨F, q0, ⟨q1, q2, q3⟩, hF⟩, rfl, rfl, rfl, A⟩, st'⟩ := superBackS Y hx hZ hown w1 w2 w3 w4 hn (ct.back (a0 := a0) (W := W) (len := 3) hZ w6 w5 hf hl hEL hC.1 O fun x q => ⟨(S x (hsub x q)).1, (S x (hsub x q)).2.1, (S x (hsub x q)).2.2.1⟩)
    eT (Ins.self E) (g := mkF m pc Ls st) rfl hsize w6 (argsL := argsL) (rest := rest) hlen hst (by show 2 * 0 + _ ≤ _; omega) hd (fun _ _ => ⟨rfl, eT, hcl, hsl⟩)
  exact Goes.aft st' (k T' T'.heap v F (callNF hS hk hZ hown hC N K S hEL hx Y' h2 (by rw [← eT]; exact hg) q1 q2 q3 hsub A hF) q3 (fun x q => (hF x q).2.2.2) q0)
/-- the ends -/
theorem Wd.leaveF (X : Wd p l e R s m args below meth c Z a0 EL own n0 SA0 SA T h cells slots) (F : List Addr) (hF : ∀ x ∈ F, x ∈ SA ∧ s.heap.size ≤ x) {w : Option Value} (hv : meth.sig.returnType = none → w = none) (hlk : meth.locks = false) (hcl : cells ≤ R.cells) (hsl : slots ≤ R.slots) (q : Q0 w h F)
    (st' : ∀ fs, (∀ (f : JFrame) (acts : List Action), f.method = m → f.locked = none → f.entered = [] → (doReturn e (T.setTop f) acts w).1 = T.setFrames fs) → ∀ (vm0 : Vm) (locs : List Loc), Stand p l e R (s.setVm vm0) m args below meth c T locs cells slots → Steps p.tables e below (T.setTop (mkF m pc Ls st)) (T.setFrames fs)) :
    Goes p.tables e below (EndqF Z EL s n0 SA0 R Q0) (T.setTop (mkF m pc Ls st)) := by
  obtain ⟨vm0, locs, k0, Y, eT, hS, hk, hZ, hown, hC, N, O, K, S, hEL, hx⟩ := X
  obtain ⟨fs, hr, hrun, hended, hE⟩ := (Y.mono hcl hsl).leaveW hS (by rw [eT]; exact hk) (v := w) hv hlk
  have A := CHv.at Y hZ hEL hC.1
  refine ⟨_, _, st' fs hr vm0 locs Y, hrun, hended, _, _, rfl, ⟨F, ?_, ⟨N, ?_, ?_⟩, fun x hx => ?_⟩, ?_, hE⟩
  · show Q0 w T.heap F; rw [eT]; exact q
  · show Old Z n0 T.heap; rw [eT]; exact O
  · show Keep s.heap T.heap SA0; rw [eT]; exact K
  · obtain ⟨g1, g2⟩ := hF x hx
    show Safe Z EL T.vm T.heap x ∧ x < T.heap.size ∧ n0 ≤ x ∧ s.heap.size ≤ x
    rw [eT]; exact ⟨A.safe (S x g1).2.1 (S x g1).1, (S x g1).2.1, (S x g1).2.2.1, g2⟩
  · show CHr Z EL s.vm s.heap T.vm T.heap; rw [eT]; exact hC.trans A
theorem Wd.retnF (X : Wd p l e R s m args below meth c Z a0 EL own n0 SA0 SA T h cells slots) (F : List Addr) (hF : ∀ x ∈ F, x ∈ SA ∧ s.heap.size ≤ x) (hret : meth.sig.returnType = none) (hlk : meth.locks = false) (hd : decode c.code pc = .ok (.return_, 1)) (hcl : cells ≤ R.cells) (hsl : slots ≤ R.slots) (q : Q0 none h F) :
    Goes p.tables e below (EndqF Z EL s n0 SA0 R Q0) (T.setTop (mkF m pc Ls [])) :=
  X.leaveF F hF (fun _ => rfl) hlk hcl hsl q (fun fs hr vm0 locs Y => Y.returnOut X.exec hret hd hr)
theorem Wd.retAF (X : Wd p l e R s m args below meth c Z a0 EL own n0 SA0 SA T h cells slots) (F : List Addr) (hF : ∀ x ∈ F, x ∈ SA ∧ s.heap.size ≤ x) {t : FieldType} {x : Value} (hret : meth.sig.returnType = some t) (ht : t.isReference = true) (hx : x.isRef = true) (hlk : meth.locks = false) (hd : decode c.code pc = .ok (.areturn, 1)) (hcl : cells ≤ R.cells) (hsl : slots ≤ R.slots) (q : Q0 (some x) h F) :
    Goes p.tables e below (EndqF Z EL s n0 SA0 R Q0) (T.setTop (mkF m pc Ls (x :: st))) :=
  X.leaveF F hF (fun q => by rw [hret] at q; cases q) hlk hcl hsl q (fun fs hr vm0 locs Y => retOut Y X.exec hret (by cases t <;> cases x <;> first | rfl | cases ht | cases hx) (Or.inr (Or.inr (Or.inr (Or.inr ⟨rfl, ht, hx⟩)))) hd hr)
/-- baload of a byte[] -/
theorem Wd.baload (X : Wd p l e R s m args below meth c Z a0 EL own n0 SA0 SA T h cells slots) {kb : ClassId} {n j : Int32} {vs : List Value} {dv v : Value} (V : Arv Z h a kb .byte n vs dv) (hj : ¬ j < 0 ∧ j < n) (hv : vs.getD j.toNatClampNeg dv = v) (hd : decode c.code pc = .ok (.baload, 1))
    (g : Goes p.tables e below Q (T.setTop (mkF m (pc + 1) Ls (v :: st)))) : Goes p.tables e below Q (T.setTop (mkF m pc Ls (.int j :: .ref a :: st))) := by
  obtain ⟨vm0, locs, k0, Y, eT, r2, r3, r4, r5, r⟩ := X
  obtain ⟨cl, A, v1, v2, v3, v4, v5⟩ := V
  exact Goes.via (fun t => Y.baloadBytes r.2.2.2.2.2.2 (by rw [eT]; exact A.1) (State.isArrayOf_alike r4.alike A.2.1) A.2.2 (inb_of v2 hj) (v4.at (inb_of v2 hj) hv) (g := mkF m pc Ls (.int j :: .ref a :: st)) rfl rfl hd t) g
/-- System.arraycopy of bytes -/
theorem Wd.acopy (X : Wd p l e R s m args below meth c Z a0 EL own n0 SA0 SA T h cells slots) {idx : Nat} {b : Addr} {k1 k2 : ClassId} {z1 z2 sp dp nn : Int32} {vs vd us : List Value} {d1 d2 : Value} (w1 : (Jvm.Cond.methodLink own idx Jvm.Stand.acN).before a0 Z = true) (w2 : (Jvm.Cond.native Jvm.Stand.acN).before a0 Z = true) (w3 : (Jvm.Cond.static Jvm.Stand.acN).before a0 Z = true) (w4 : (Jvm.Cond.initialized "java/lang/System").before a0 Z = true)
    (A : Arv Z h a k1 .byte z1 vs d1) (B : Arv Z h b k2 .byte z2 vd d2) (h1 : ¬ sp < 0) (h2 : ¬ dp < 0) (h3 : ¬ nn < 0) (h4 : sp.toNatClampNeg + nn.toNatClampNeg ≤ z1.toNatClampNeg) (h5 : dp.toNatClampNeg + nn.toNatClampNeg ≤ z2.toNatClampNeg)
    (hus : us = (List.range nn.toNatClampNeg).map fun i => vs.getD (sp.toNatClampNeg + i) d1) (hl : dp.toNatClampNeg + nn.toNatClampNeg ≤ vd.length) (q : b ∈ SA) (hsize : Ls.size = c.maxLocals) (hd : decode c.code pc = .ok (.invokestatic idx, 3)) (hf : 1 ≤ R.frames) (W : Nat) (hW : (st.map fun v => v.category).sum ≤ W) (hlo : W + 18 ≤ R.locals)
    (k : ∀ (T' : State) (h' : Heap), Wd p l e R s m args below meth c Z a0 EL own n0 SA0 SA T' h' cells slots → Keep h h' [b] → Arv Z h' b k2 .byte z2 (vd.take dp.toNatClampNeg ++ us ++ vd.drop (dp.toNatClampNeg + nn.toNatClampNeg)) d2 → Goes p.tables e below Q (T'.setTop (mkF m (pc + 3) Ls st))) : Goes p.tables e below Q (T.setTop (mkF m pc Ls (.int nn :: .int dp :: .ref b :: .int sp :: .ref a :: st))) := by
  have hsa := X.saf q
  obtain ⟨vm0, locs, k0, Y, eT, hS, hk, hZ, hown, hC, N, O, K, S, hEL, hx⟩ := X
  obtain ⟨T', h', L, Y', e', N', K', B', st'⟩ := cpA Y hx hZ hown w1 w2 w3 w4 eT A B (Or.inl ⟨rfl, rfl⟩) h1 h2 h3 h4 h5 hus hl N hsa.1 (g := mkF m pc Ls (.int nn :: .int dp :: .ref b :: .int sp :: .ref a :: st)) rfl hsize rfl hd hf (W := W) (by show 2 * 0 + _ ≤ _; omega) (by show W + (7 + 11) ≤ _; omega)
  have hq : ∀ x ∈ [b], x ∈ SA := fun x hx => by cases List.mem_singleton.mp hx; exact q
  have A' := CHr.keep K' (fun x q => (S x (hq x q)).1) hC.1
  exact Goes.via st' (k T' h' ⟨vm0, L, k0, Y', e', hS, Nat.le_trans hk K'.1, hZ, hown, hC.trans A', N', O.keep K' (fun x q => (S x (hq x q)).2.2.1), K.trans K' (fun x q => (S x (hq x q)).2.2.2), S.go A', hEL, hx⟩ K' B')
end Wide
end Own
namespace Own
open Jvm Jvm.ClassFile Sem Op Lib Jvm.Free Jvm.Stand Jvm.LawKit Jvm.RoadKit Bundle
section Wide
variable {p : Program} {l : Launch} {e : Env} {R : Room} {s : State} {m : MethodId} {args : Array Value} {below : List Frame} {meth : Method} {c : Code}
variable {Z : State} {a0 : Array Value} {EL : List (String × Nat)} {own : String} {n0 : Nat} {SA0 SA : List Addr} {T : State} {h : Heap} {cells slots : Nat} {Q : Outcome → State → Prop} {pc : Nat} {Ls : Array Slot} {st : List Value}
theorem Wd.iloadN (X : Wd p l e R s m args below meth c Z a0 EL own n0 SA0 SA T h cells slots) {k : Fin 4} {x : Int32} (hd : decode c.code pc = .ok (.iload_n k, 1)) (hl : Ls[k.val]? = some (.val (.int x))) (g : Goes p.tables e below Q (T.setTop (mkF m (pc + 1) Ls (.int x :: st)))) : Goes p.tables e below Q (T.setTop (mkF m pc Ls st)) := by
  exact Goes.via (fun t k => XS.iloadN X.here X.exec rfl hd hl k) g
theorem Wd.iload (X : Wd p l e R s m args below meth c Z a0 EL own n0 SA0 SA T h cells slots) {k : Nat} {x : Int32} (hd : decode c.code pc = .ok (.iload k, 2)) (hl : Ls[k]? = some (.val (.int x))) (g : Goes p.tables e below Q (T.setTop (mkF m (pc + 2) Ls (.int x :: st)))) : Goes p.tables e below Q (T.setTop (mkF m pc Ls st)) := by
  exact Goes.via (fun t k => XS.iload X.here X.exec rfl hd hl k) g
theorem Wd.aloadN (X : Wd p l e R s m args below meth c Z a0 EL own n0 SA0 SA T h cells slots) {k : Fin 4} {x : Value} (hd : decode c.code pc = .ok (.aload_n k, 1)) (hl : Ls[k.val]? = some (.val x)) (hv : x.isRef = true) (g : Goes p.tables e below Q (T.setTop (mkF m (pc + 1) Ls (x :: st)))) : Goes p.tables e below Q (T.setTop (mkF m pc Ls st)) := by
  exact Goes.via (fun t k => XS.aloadN X.here X.exec rfl hd hl hv k) g
theorem Wd.aload (X : Wd p l e R s m args below meth c Z a0 EL own n0 SA0 SA T h cells slots) {k : Nat} {x : Value} (hd : decode c.code pc = .ok (.aload k, 2)) (hl : Ls[k]? = some (.val x)) (hv : x.isRef = true) (g : Goes p.tables e below Q (T.setTop (mkF m (pc + 2) Ls (x :: st)))) : Goes p.tables e below Q (T.setTop (mkF m pc Ls st)) := by
  exact Goes.via (fun t k => XS.aload X.here X.exec rfl hd hl hv k) g
theorem Wd.iconst (X : Wd p l e R s m args below meth c Z a0 EL own n0 SA0 SA T h cells slots) {i : Int} {x : Int32} (hd : decode c.code pc = .ok (.iconst i, 1)) (hv : Int32.ofInt i = x) (g : Goes p.tables e below Q (T.setTop (mkF m (pc + 1) Ls (.int x :: st)))) : Goes p.tables e below Q (T.setTop (mkF m pc Ls st)) := by
  subst hv
  exact Goes.via (fun t k => XS.iconst X.here X.exec rfl hd k) g
theorem Wd.bipush (X : Wd p l e R s m args below meth c Z a0 EL own n0 SA0 SA T h cells slots) {i : Int} {x : Int32} (hd : decode c.code pc = .ok (.bipush i, 2)) (hv : (Int8.ofInt i).toInt32 = x) (g : Goes p.tables e below Q (T.setTop (mkF m (pc + 2) Ls (.int x :: st)))) : Goes p.tables e below Q (T.setTop (mkF m pc Ls st)) := by
  subst hv
  exact Goes.via (fun t k => XS.bipush X.here X.exec rfl hd k) g
theorem Wd.sipush (X : Wd p l e R s m args below meth c Z a0 EL own n0 SA0 SA T h cells slots) {i : Int} {x : Int32} (hd : decode c.code pc = .ok (.sipush i, 3)) (hv : (Int16.ofInt i).toInt32 = x) (g : Goes p.tables e below Q (T.setTop (mkF m (pc + 3) Ls (.int x :: st)))) : Goes p.tables e below Q (T.setTop (mkF m pc Ls st)) := by
  subst hv
  exact Goes.via (fun t k => XS.sipush X.here X.exec rfl hd k) g
theorem Wd.anull (X : Wd p l e R s m args below meth c Z a0 EL own n0 SA0 SA T h cells slots)  (hd : decode c.code pc = .ok (.aconst_null, 1))  (g : Goes p.tables e below Q (T.setTop (mkF m (pc + 1) Ls (.null :: st)))) : Goes p.tables e below Q (T.setTop (mkF m pc Ls st)) := by
  exact Goes.via (fun t k => XS.aconstNull X.here X.exec rfl hd k) g
theorem Wd.istoreN (X : Wd p l e R s m args below meth c Z a0 EL own n0 SA0 SA T h cells slots) {k : Fin 4} {x : Int32} (l' : Array Slot) (hd : decode c.code pc = .ok (.istore_n k, 1)) (hl : storeLocals Ls k.val (.int x) = some l') (g : Goes p.tables e below Q (T.setTop (mkF m (pc + 1) l' st))) : Goes p.tables e below Q (T.setTop (mkF m pc Ls (.int x :: st))) := by
  exact Goes.via (fun t k => XS.istoreN X.here X.exec rfl hd rfl hl k) g
theorem Wd.istore (X : Wd p l e R s m args below meth c Z a0 EL own n0 SA0 SA T h cells slots) {k : Nat} {x : Int32} (l' : Array Slot) (hd : decode c.code pc = .ok (.istore k, 2)) (hl : storeLocals Ls k (.int x) = some l') (g : Goes p.tables e below Q (T.setTop (mkF m (pc + 2) l' st))) : Goes p.tables e below Q (T.setTop (mkF m pc Ls (.int x :: st))) := by
  exact Goes.via (fun t k => XS.istore X.here X.exec rfl hd rfl hl k) g
theorem Wd.astoreN (X : Wd p l e R s m args below meth c Z a0 EL own n0 SA0 SA T h cells slots) {k : Fin 4} {x : Value} (l' : Array Slot) (hd : decode c.code pc = .ok (.astore_n k, 1)) (hv : x.isRef = true) (hl : storeLocals Ls k.val x = some l') (g : Goes p.tables e below Q (T.setTop (mkF m (pc + 1) l' st))) : Goes p.tables e below Q (T.setTop (mkF m pc Ls (x :: st))) := by
  exact Goes.via (fun t k => XS.astoreN X.here X.exec rfl hd rfl hv hl k) g
theorem Wd.astore (X : Wd p l e R s m args below meth c Z a0 EL own n0 SA0 SA T h cells slots) {k : Nat} {x : Value} (l' : Array Slot) (hd : decode c.code pc = .ok (.astore k, 2)) (hv : x.isRef = true) (hl : storeLocals Ls k x = some l') (g : Goes p.tables e below Q (T.setTop (mkF m (pc + 2) l' st))) : Goes p.tables e below Q (T.setTop (mkF m pc Ls (x :: st))) := by
  exact Goes.via (fun t k => XS.astore X.here X.exec rfl hd rfl hv hl k) g
theorem Wd.iadd (X : Wd p l e R s m args below meth c Z a0 EL own n0 SA0 SA T h cells slots) {x y : Int32} (hd : decode c.code pc = .ok (.iadd, 1))  (g : Goes p.tables e below Q (T.setTop (mkF m (pc + 1) Ls (.int (x + y) :: st)))) : Goes p.tables e below Q (T.setTop (mkF m pc Ls (.int y :: .int x :: st))) := by
  exact Goes.via (fun t k => XS.iadd X.here X.exec rfl hd rfl k) g
theorem Wd.isub (X : Wd p l e R s m args below meth c Z a0 EL own n0 SA0 SA T h cells slots) {x y : Int32} (hd : decode c.code pc = .ok (.isub, 1))  (g : Goes p.tables e below Q (T.setTop (mkF m (pc + 1) Ls (.int (x - y) :: st)))) : Goes p.tables e below Q (T.setTop (mkF m pc Ls (.int y :: .int x :: st))) := by
  exact Goes.via (fun t k => XS.isub X.here X.exec rfl hd rfl k) g
theorem Wd.iand (X : Wd p l e R s m args below meth c Z a0 EL own n0 SA0 SA T h cells slots) {x y : Int32} (hd : decode c.code pc = .ok (.iand, 1))  (g : Goes p.tables e below Q (T.setTop (mkF m (pc + 1) Ls (.int (x &&& y) :: st)))) : Goes p.tables e below Q (T.setTop (mkF m pc Ls (.int y :: .int x :: st))) := by
  exact Goes.via (fun t k => XS.iand X.here X.exec rfl hd rfl k) g
theorem Wd.imul (X : Wd p l e R s m args below meth c Z a0 EL own n0 SA0 SA T h cells slots) {x y : Int32} (hd : decode c.code pc = .ok (.imul, 1))  (g : Goes p.tables e below Q (T.setTop (mkF m (pc + 1) Ls (.int (x * y) :: st)))) : Goes p.tables e below Q (T.setTop (mkF m pc Ls (.int y :: .int x :: st))) := by
  exact Goes.via (fun t k => XS.imul X.here X.exec rfl hd rfl k) g
theorem Wd.ior (X : Wd p l e R s m args below meth c Z a0 EL own n0 SA0 SA T h cells slots) {x y : Int32} (hd : decode c.code pc = .ok (.ior, 1))  (g : Goes p.tables e below Q (T.setTop (mkF m (pc + 1) Ls (.int (x ||| y) :: st)))) : Goes p.tables e below Q (T.setTop (mkF m pc Ls (.int y :: .int x :: st))) := by
  exact Goes.via (fun t k => XT.ior X.here X.exec rfl hd rfl k) g
theorem Wd.ixor (X : Wd p l e R s m args below meth c Z a0 EL own n0 SA0 SA T h cells slots) {x y : Int32} (hd : decode c.code pc = .ok (.ixor, 1))  (g : Goes p.tables e below Q (T.setTop (mkF m (pc + 1) Ls (.int (x ^^^ y) :: st)))) : Goes p.tables e below Q (T.setTop (mkF m pc Ls (.int y :: .int x :: st))) := by
  exact Goes.via (fun t k => XT.ixor X.here X.exec rfl hd rfl k) g
theorem Wd.ishl (X : Wd p l e R s m args below meth c Z a0 EL own n0 SA0 SA T h cells slots) {x y : Int32} (hd : decode c.code pc = .ok (.ishl, 1))  (g : Goes p.tables e below Q (T.setTop (mkF m (pc + 1) Ls (.int (x <<< (y &&& 31)) :: st)))) : Goes p.tables e below Q (T.setTop (mkF m pc Ls (.int y :: .int x :: st))) := by
  exact Goes.via (fun t k => XT.ishl X.here X.exec rfl hd rfl k) g
theorem Wd.ishr (X : Wd p l e R s m args below meth c Z a0 EL own n0 SA0 SA T h cells slots) {x y : Int32} (hd : decode c.code pc = .ok (.ishr, 1))  (g : Goes p.tables e below Q (T.setTop (mkF m (pc + 1) Ls (.int (x >>> (y &&& 31)) :: st)))) : Goes p.tables e below Q (T.setTop (mkF m pc Ls (.int y :: .int x :: st))) := by
  exact Goes.via (fun t k => XT.ishr X.here X.exec rfl hd rfl k) g
theorem Wd.iushr (X : Wd p l e R s m args below meth c Z a0 EL own n0 SA0 SA T h cells slots) {x y : Int32} (hd : decode c.code pc = .ok (.iushr, 1))  (g : Goes p.tables e below Q (T.setTop (mkF m (pc + 1) Ls (.int (XT.ushr x y) :: st)))) : Goes p.tables e below Q (T.setTop (mkF m pc Ls (.int y :: .int x :: st))) := by
  exact Goes.via (fun t k => XT.iushr X.here X.exec rfl hd rfl k) g
theorem Wd.irem (X : Wd p l e R s m args below meth c Z a0 EL own n0 SA0 SA T h cells slots) {x y : Int32} (hd : decode c.code pc = .ok (.irem, 1)) (hy : y ≠ 0) (g : Goes p.tables e below Q (T.setTop (mkF m (pc + 1) Ls (.int (x % y) :: st)))) : Goes p.tables e below Q (T.setTop (mkF m pc Ls (.int y :: .int x :: st))) := by
  have hx := X.exec
  obtain ⟨vm0, locs, k0, Y, -⟩ := X
  exact Goes.via (fun t k => iremM Y hx (g := mkF m pc Ls (.int y :: .int x :: st)) rfl hd rfl hy k) g
theorem Wd.i2c (X : Wd p l e R s m args below meth c Z a0 EL own n0 SA0 SA T h cells slots) {x : Int32} (hd : decode c.code pc = .ok (.i2c, 1))  (g : Goes p.tables e below Q (T.setTop (mkF m (pc + 1) Ls (.int (x.toUInt32.toUInt16.toUInt32.toInt32) :: st)))) : Goes p.tables e below Q (T.setTop (mkF m pc Ls (.int x :: st))) := by
  exact Goes.via (fun t k => XT.i2c X.here X.exec rfl hd rfl k) g
theorem Wd.i2b (X : Wd p l e R s m args below meth c Z a0 EL own n0 SA0 SA T h cells slots) {x : Int32} (hd : decode c.code pc = .ok (.i2b, 1))  (g : Goes p.tables e below Q (T.setTop (mkF m (pc + 1) Ls (.int (x.toInt8.toInt32) :: st)))) : Goes p.tables e below Q (T.setTop (mkF m pc Ls (.int x :: st))) := by
  exact Goes.via (fun t k => XT.i2b X.here X.exec rfl hd rfl k) g
theorem Wd.dup (X : Wd p l e R s m args below meth c Z a0 EL own n0 SA0 SA T h cells slots) {x : Value} (hd : decode c.code pc = .ok (.dup, 1)) (hv : x.category = 1) (g : Goes p.tables e below Q (T.setTop (mkF m (pc + 1) Ls (x :: x :: st)))) : Goes p.tables e below Q (T.setTop (mkF m pc Ls (x :: st))) := by
  exact Goes.via (fun t k => XS.dup X.here X.exec rfl hd rfl hv k) g
theorem Wd.pop (X : Wd p l e R s m args below meth c Z a0 EL own n0 SA0 SA T h cells slots) {x : Value} (hd : decode c.code pc = .ok (.pop, 1)) (hv : x.category = 1) (g : Goes p.tables e below Q (T.setTop (mkF m (pc + 1) Ls st))) : Goes p.tables e below Q (T.setTop (mkF m pc Ls (x :: st))) := by
  exact Goes.via (fun t k => XT.pop X.here X.exec rfl hd rfl hv k) g
theorem Wd.iinc (X : Wd p l e R s m args below meth c Z a0 EL own n0 SA0 SA T h cells slots) {k : Nat} {cst : Int} {x : Int32} (l' : Array Slot) (hd : decode c.code pc = .ok (.iinc k cst, 3)) (hl : Ls[k]? = some (.val (.int x))) (hl' : storeLocals Ls k (.int (x + Int32.ofInt cst)) = some l') (g : Goes p.tables e below Q (T.setTop (mkF m (pc + 3) l' st))) : Goes p.tables e below Q (T.setTop (mkF m pc Ls st)) := by
  exact Goes.via (fun t k => XS.iinc X.here X.exec rfl hd hl hl' k) g
theorem Wd.goto (X : Wd p l e R s m args below meth c Z a0 EL own n0 SA0 SA T h cells slots) {o : Int} (pc' : Nat) (hd : decode c.code pc = .ok (.goto o, 3)) (hp : 0 ≤ (pc : Int) + o ∧ ((pc : Int) + o).toNat = pc') (g : Goes p.tables e below Q (T.setTop (mkF m pc' Ls st))) : Goes p.tables e below Q (T.setTop (mkF m pc Ls st)) :=
  Goes.via (fun t k => XS.goto X.here X.exec rfl rfl hd hp.1 hp.2 k) g
theorem Wd.if_eq (X : Wd p l e R s m args below meth c Z a0 EL own n0 SA0 SA T h cells slots) {x : Int32} {o : Int} (pc' : Nat) (hd : decode c.code pc = .ok (.ifCond .eq o, 3)) (hp : 0 ≤ (pc : Int) + o ∧ ((pc : Int) + o).toNat = pc') (kt : x = 0 → Goes p.tables e below Q (T.setTop (mkF m pc' Ls st))) (kf : ¬ x = 0 → Goes p.tables e below Q (T.setTop (mkF m (pc + 3) Ls st))) : Goes p.tables e below Q (T.setTop (mkF m pc Ls (.int x :: st))) := by
  by_cases hq : x = 0
  · exact Goes.via (fun t k => XS.ifYes X.here X.exec rfl rfl hd rfl (XT.i0_eq_t hq) hp.1 hp.2 k) (kt hq)
  · exact Goes.via (fun t k => XS.ifNo X.here X.exec rfl hd rfl (XT.i0_eq_f hq) k) (kf hq)
theorem Wd.icmp_eq (X : Wd p l e R s m args below meth c Z a0 EL own n0 SA0 SA T h cells slots) {x y : Int32} {o : Int} (pc' : Nat) (hd : decode c.code pc = .ok (.if_icmp .eq o, 3)) (hp : 0 ≤ (pc : Int) + o ∧ ((pc : Int) + o).toNat = pc') (kt : x = y → Goes p.tables e below Q (T.setTop (mkF m pc' Ls st))) (kf : ¬ x = y → Goes p.tables e below Q (T.setTop (mkF m (pc + 3) Ls st))) : Goes p.tables e below Q (T.setTop (mkF m pc Ls (.int y :: .int x :: st))) := by
  by_cases hq : x = y
  · exact Goes.via (fun t k => XS.icmpYes X.here X.exec rfl rfl hd rfl (XT.ii_eq_t hq) hp.1 hp.2 k) (kt hq)
  · exact Goes.via (fun t k => XS.icmpNo X.here X.exec rfl hd rfl (XT.ii_eq_f hq) k) (kf hq)
theorem Wd.if_ne (X : Wd p l e R s m args below meth c Z a0 EL own n0 SA0 SA T h cells slots) {x : Int32} {o : Int} (pc' : Nat) (hd : decode c.code pc = .ok (.ifCond .ne o, 3)) (hp : 0 ≤ (pc : Int) + o ∧ ((pc : Int) + o).toNat = pc') (kt : ¬ x = 0 → Goes p.tables e below Q (T.setTop (mkF m pc' Ls st))) (kf : x = 0 → Goes p.tables e below Q (T.setTop (mkF m (pc + 3) Ls st))) : Goes p.tables e below Q (T.setTop (mkF m pc Ls (.int x :: st))) := by
  by_cases hq : x = 0
  · exact Goes.via (fun t k => XS.ifNo X.here X.exec rfl hd rfl (XT.i0_ne_f hq) k) (kf hq)
  · exact Goes.via (fun t k => XS.ifYes X.here X.exec rfl rfl hd rfl (XT.i0_ne_t hq) hp.1 hp.2 k) (kt hq)
theorem Wd.icmp_ne (X : Wd p l e R s m args below meth c Z a0 EL own n0 SA0 SA T h cells slots) {x y : Int32} {o : Int} (pc' : Nat) (hd : decode c.code pc = .ok (.if_icmp .ne o, 3)) (hp : 0 ≤ (pc : Int) + o ∧ ((pc : Int) + o).toNat = pc') (kt : ¬ x = y → Goes p.tables e below Q (T.setTop (mkF m pc' Ls st))) (kf : x = y → Goes p.tables e below Q (T.setTop (mkF m (pc + 3) Ls st))) : Goes p.tables e below Q (T.setTop (mkF m pc Ls (.int y :: .int x :: st))) := by
  by_cases hq : x = y
  · exact Goes.via (fun t k => XS.icmpNo X.here X.exec rfl hd rfl (XT.ii_ne_f hq) k) (kf hq)
  · exact Goes.via (fun t k => XS.icmpYes X.here X.exec rfl rfl hd rfl (XT.ii_ne_t hq) hp.1 hp.2 k) (kt hq)
theorem Wd.if_lt (X : Wd p l e R s m args below meth c Z a0 EL own n0 SA0 SA T h cells slots) {x : Int32} {o : Int} (pc' : Nat) (hd : decode c.code pc = .ok (.ifCond .lt o, 3)) (hp : 0 ≤ (pc : Int) + o ∧ ((pc : Int) + o).toNat = pc') (kt : x < 0 → Goes p.tables e below Q (T.setTop (mkF m pc' Ls st))) (kf : ¬ x < 0 → Goes p.tables e below Q (T.setTop (mkF m (pc + 3) Ls st))) : Goes p.tables e below Q (T.setTop (mkF m pc Ls (.int x :: st))) := by
  by_cases hq : x < 0
  · exact Goes.via (fun t k => XS.ifYes X.here X.exec rfl rfl hd rfl (XT.i0_lt_t hq) hp.1 hp.2 k) (kt hq)
  · exact Goes.via (fun t k => XS.ifNo X.here X.exec rfl hd rfl (XT.i0_lt_f hq) k) (kf hq)
theorem Wd.icmp_lt (X : Wd p l e R s m args below meth c Z a0 EL own n0 SA0 SA T h cells slots) {x y : Int32} {o : Int} (pc' : Nat) (hd : decode c.code pc = .ok (.if_icmp .lt o, 3)) (hp : 0 ≤ (pc : Int) + o ∧ ((pc : Int) + o).toNat = pc') (kt : x < y → Goes p.tables e below Q (T.setTop (mkF m pc' Ls st))) (kf : ¬ x < y → Goes p.tables e below Q (T.setTop (mkF m (pc + 3) Ls st))) : Goes p.tables e below Q (T.setTop (mkF m pc Ls (.int y :: .int x :: st))) := by
  by_cases hq : x < y
  · exact Goes.via (fun t k => XS.icmpYes X.here X.exec rfl rfl hd rfl (XT.ii_lt_t hq) hp.1 hp.2 k) (kt hq)
  · exact Goes.via (fun t k => XS.icmpNo X.here X.exec rfl hd rfl (XT.ii_lt_f hq) k) (kf hq)
theorem Wd.if_ge (X : Wd p l e R s m args below meth c Z a0 EL own n0 SA0 SA T h cells slots) {x : Int32} {o : Int} (pc' : Nat) (hd : decode c.code pc = .ok (.ifCond .ge o, 3)) (hp : 0 ≤ (pc : Int) + o ∧ ((pc : Int) + o).toNat = pc') (kt : ¬ x < 0 → Goes p.tables e below Q (T.setTop (mkF m pc' Ls st))) (kf : x < 0 → Goes p.tables e below Q (T.setTop (mkF m (pc + 3) Ls st))) : Goes p.tables e below Q (T.setTop (mkF m pc Ls (.int x :: st))) := by
  by_cases hq : x < 0
  · exact Goes.via (fun t k => XS.ifNo X.here X.exec rfl hd rfl (XT.i0_ge_f hq) k) (kf hq)
  · exact Goes.via (fun t k => XS.ifYes X.here X.exec rfl rfl hd rfl (XT.i0_ge_t hq) hp.1 hp.2 k) (kt hq)
theorem Wd.icmp_ge (X : Wd p l e R s m args below meth c Z a0 EL own n0 SA0 SA T h cells slots) {x y : Int32} {o : Int} (pc' : Nat) (hd : decode c.code pc = .ok (.if_icmp .ge o, 3)) (hp : 0 ≤ (pc : Int) + o ∧ ((pc : Int) + o).toNat = pc') (kt : ¬ x < y → Goes p.tables e below Q (T.setTop (mkF m pc' Ls st))) (kf : x < y → Goes p.tables e below Q (T.setTop (mkF m (pc + 3) Ls st))) : Goes p.tables e below Q (T.setTop (mkF m pc Ls (.int y :: .int x :: st))) := by
  by_cases hq : x < y
  · exact Goes.via (fun t k => XS.icmpNo X.here X.exec rfl hd rfl (XT.ii_ge_f hq) k) (kf hq)
  · exact Goes.via (fun t k => XS.icmpYes X.here X.exec rfl rfl hd rfl (XT.ii_ge_t hq) hp.1 hp.2 k) (kt hq)
theorem Wd.if_gt (X : Wd p l e R s m args below meth c Z a0 EL own n0 SA0 SA T h cells slots) {x : Int32} {o : Int} (pc' : Nat) (hd : decode c.code pc = .ok (.ifCond .gt o, 3)) (hp : 0 ≤ (pc : Int) + o ∧ ((pc : Int) + o).toNat = pc') (kt : 0 < x → Goes p.tables e below Q (T.setTop (mkF m pc' Ls st))) (kf : ¬ 0 < x → Goes p.tables e below Q (T.setTop (mkF m (pc + 3) Ls st))) : Goes p.tables e below Q (T.setTop (mkF m pc Ls (.int x :: st))) := by
  by_cases hq : 0 < x
  · exact Goes.via (fun t k => XS.ifYes X.here X.exec rfl rfl hd rfl (XT.i0_gt_t hq) hp.1 hp.2 k) (kt hq)
  · exact Goes.via (fun t k => XS.ifNo X.here X.exec rfl hd rfl (XT.i0_gt_f hq) k) (kf hq)
theorem Wd.icmp_gt (X : Wd p l e R s m args below meth c Z a0 EL own n0 SA0 SA T h cells slots) {x y : Int32} {o : Int} (pc' : Nat) (hd : decode c.code pc = .ok (.if_icmp .gt o, 3)) (hp : 0 ≤ (pc : Int) + o ∧ ((pc : Int) + o).toNat = pc') (kt : y < x → Goes p.tables e below Q (T.setTop (mkF m pc' Ls st))) (kf : ¬ y < x → Goes p.tables e below Q (T.setTop (mkF m (pc + 3) Ls st))) : Goes p.tables e below Q (T.setTop (mkF m pc Ls (.int y :: .int x :: st))) := by
  by_cases hq : y < x
  · exact Goes.via (fun t k => XS.icmpYes X.here X.exec rfl rfl hd rfl (XT.ii_gt_t hq) hp.1 hp.2 k) (kt hq)
  · exact Goes.via (fun t k => XS.icmpNo X.here X.exec rfl hd rfl (XT.ii_gt_f hq) k) (kf hq)
theorem Wd.if_le (X : Wd p l e R s m args below meth c Z a0 EL own n0 SA0 SA T h cells slots) {x : Int32} {o : Int} (pc' : Nat) (hd : decode c.code pc = .ok (.ifCond .le o, 3)) (hp : 0 ≤ (pc : Int) + o ∧ ((pc : Int) + o).toNat = pc') (kt : ¬ 0 < x → Goes p.tables e below Q (T.setTop (mkF m pc' Ls st))) (kf : 0 < x → Goes p.tables e below Q (T.setTop (mkF m (pc + 3) Ls st))) : Goes p.tables e below Q (T.setTop (mkF m pc Ls (.int x :: st))) := by
  by_cases hq : 0 < x
  · exact Goes.via (fun t k => XS.ifNo X.here X.exec rfl hd rfl (XT.i0_le_f hq) k) (kf hq)
  · exact Goes.via (fun t k => XS.ifYes X.here X.exec rfl rfl hd rfl (XT.i0_le_t hq) hp.1 hp.2 k) (kt hq)
theorem Wd.icmp_le (X : Wd p l e R s m args below meth c Z a0 EL own n0 SA0 SA T h cells slots) {x y : Int32} {o : Int} (pc' : Nat) (hd : decode c.code pc = .ok (.if_icmp .le o, 3)) (hp : 0 ≤ (pc : Int) + o ∧ ((pc : Int) + o).toNat = pc') (kt : ¬ y < x → Goes p.tables e below Q (T.setTop (mkF m pc' Ls st))) (kf : y < x → Goes p.tables e below Q (T.setTop (mkF m (pc + 3) Ls st))) : Goes p.tables e below Q (T.setTop (mkF m pc Ls (.int y :: .int x :: st))) := by
  by_cases hq : y < x
  · exact Goes.via (fun t k => XS.icmpNo X.here X.exec rfl hd rfl (XT.ii_le_f hq) k) (kf hq)
  · exact Goes.via (fun t k => XS.icmpYes X.here X.exec rfl rfl hd rfl (XT.ii_le_t hq) hp.1 hp.2 k) (kt hq)
theorem Wd.ifnullR (X : Wd p l e R s m args below meth c Z a0 EL own n0 SA0 SA T h cells slots) {b : Addr} {o : Int} (hd : decode c.code pc = .ok (.ifnull o, 3)) (g : Goes p.tables e below Q (T.setTop (mkF m (pc + 3) Ls st))) : Goes p.tables e below Q (T.setTop (mkF m pc Ls (.ref b :: st))) :=
  Goes.via (fun t k => XS.ifnullNo X.here X.exec rfl hd rfl k) g
theorem Wd.ifnullN (X : Wd p l e R s m args below meth c Z a0 EL own n0 SA0 SA T h cells slots) {o : Int} (pc' : Nat) (hd : decode c.code pc = .ok (.ifnull o, 3)) (hp : 0 ≤ (pc : Int) + o ∧ ((pc : Int) + o).toNat = pc') (g : Goes p.tables e below Q (T.setTop (mkF m pc' Ls st))) : Goes p.tables e below Q (T.setTop (mkF m pc Ls (.null :: st))) :=
  Goes.via (fun t k => XS.ifnullYes X.here X.exec rfl rfl hd rfl hp.1 hp.2 k) g
theorem Wd.ifnonnullR (X : Wd p l e R s m args below meth c Z a0 EL own n0 SA0 SA T h cells slots) {b : Addr} {o : Int} (pc' : Nat) (hd : decode c.code pc = .ok (.ifnonnull o, 3)) (hp : 0 ≤ (pc : Int) + o ∧ ((pc : Int) + o).toNat = pc') (g : Goes p.tables e below Q (T.setTop (mkF m pc' Ls st))) : Goes p.tables e below Q (T.setTop (mkF m pc Ls (.ref b :: st))) :=
  Goes.via (fun t k => XT.ifnonnullYes X.here X.exec rfl rfl hd rfl hp.1 hp.2 k) g
theorem Wd.ifnonnullN (X : Wd p l e R s m args below meth c Z a0 EL own n0 SA0 SA T h cells slots) {o : Int} (hd : decode c.code pc = .ok (.ifnonnull o, 3)) (g : Goes p.tables e below Q (T.setTop (mkF m (pc + 3) Ls st))) : Goes p.tables e below Q (T.setTop (mkF m pc Ls (.null :: st))) :=
  Goes.via (fun t k => XT.ifnonnullNo X.here X.exec rfl hd rfl k) g
theorem Wd.acmp_eq (X : Wd p l e R s m args below meth c Z a0 EL own n0 SA0 SA T h cells slots) {x y : Value} {o : Int} (pc' : Nat) (hd : decode c.code pc = .ok (.if_acmp .eq o, 3)) (hp : 0 ≤ (pc : Int) + o ∧ ((pc : Int) + o).toNat = pc') (hx : x.isRef = true) (hy : y.isRef = true) (kt : x = y → Goes p.tables e below Q (T.setTop (mkF m pc' Ls st))) (kf : ¬ x = y → Goes p.tables e below Q (T.setTop (mkF m (pc + 3) Ls st))) : Goes p.tables e below Q (T.setTop (mkF m pc Ls (y :: x :: st))) := by
  by_cases hq : x = y
  · exact Goes.via (fun t k => XT.acmpYes X.here X.exec rfl rfl hd rfl hx hy (XT.aa_eq_t hq) hp.1 hp.2 k) (kt hq)
  · exact Goes.via (fun t k => XT.acmpNo X.here X.exec rfl hd rfl hx hy (XT.aa_eq_f hq) k) (kf hq)
theorem Wd.acmp_ne (X : Wd p l e R s m args below meth c Z a0 EL own n0 SA0 SA T h cells slots) {x y : Value} {o : Int} (pc' : Nat) (hd : decode c.code pc = .ok (.if_acmp .ne o, 3)) (hp : 0 ≤ (pc : Int) + o ∧ ((pc : Int) + o).toNat = pc') (hx : x.isRef = true) (hy : y.isRef = true) (kt : ¬ x = y → Goes p.tables e below Q (T.setTop (mkF m pc' Ls st))) (kf : x = y → Goes p.tables e below Q (T.setTop (mkF m (pc + 3) Ls st))) : Goes p.tables e below Q (T.setTop (mkF m pc Ls (y :: x :: st))) := by
  by_cases hq : x = y
  · exact Goes.via (fun t k => XT.acmpNo X.here X.exec rfl hd rfl hx hy (XT.aa_ne_f hq) k) (kf hq)
  · exact Goes.via (fun t k => XT.acmpYes X.here X.exec rfl rfl hd rfl hx hy (XT.aa_ne_t hq) hp.1 hp.2 k) (kt hq)
end Wide
end Own
namespace Own
open Jvm Jvm.ClassFile Sem Op Lib Jvm.Free Jvm.Stand Jvm.LawKit Jvm.RoadKit Bundle
section Facts
variable {Z : State} {h h' : Heap} {a b t x y : Addr} {cs : List Int32} {C : String} {a0 : Array Value} {k k' : ClassId} {ty ty' : FieldType} {n n' : Int32} {vs vs' : List Value} {dv dv' v : Value} {sl : Nat} {ws : List Addr}
theorem arvTy (A : Arv Z h a k ty n vs dv) (B : Arv Z h b k' ty' n' vs' dv') (q : ty ≠ ty') : a ≠ b := fun e => by
  subst e
  obtain ⟨c1, ⟨h1, ⟨-, k1, h2, m1, h3⟩, -⟩, -⟩ := A
  obtain ⟨c2, ⟨g1, ⟨-, k2, g2, m2, g3⟩, -⟩, -⟩ := B
  cases h1.symm.trans g1
  cases h2.symm.trans g2
  rw [h3] at g3
  cases g3
  exact q rfl
theorem narR {t : FieldType} {v : Value} (hv : v.isRef = true) (ht : t.isReference = true := by rfl) : narrow t v = v := by cases t <;> cases v <;> first | rfl | (cases hv; done) | (cases ht; done)
theorem fitR {t : FieldType} {v : Value} (hv : v.isRef = true) (ht : t.isReference = true := by rfl) : fits t v = true := by cases t <;> cases v <;> first | rfl | (cases hv; done) | (cases ht; done)
/-- a is a Latin-1 String that spells cs; its bytes lie at t -/
def OStr (Z : State) (h : Heap) (a t : Addr) (cs : List Int32) : Prop := Exa Z h a "java/lang/String" ∧ (∀ c ∈ cs, ¬ c < 0 ∧ ¬ (255 : Int32) < c) ∧ cs.length ≤ 4000 ∧
  ∃ kb : ClassId, Fld Z h a "java/lang/String" "value" "[B" (.ref t) ∧ Fld Z h a "java/lang/String" "coder" "B" (.int (0 : Int32)) ∧ Arv Z h t kb .byte (Int32.ofNat cs.length) ((cs.map StrChars.lo8).map Value.int) (.int 0)
theorem up16 {cs : List Int32} (hp : ∀ c ∈ cs, ¬ c < 0 ∧ ¬ (255 : Int32) < c) : ∀ c ∈ cs, ¬ c < 0 ∧ ¬ (65535 : Int32) < c := fun c q => ⟨(hp c q).1, fun z => (hp c q).2 (Int32.lt_trans (by decide) z)⟩
theorem OStr.lt (F : OStr Z h a t cs) : a < h.size := F.1.lt
theorem OStr.ltb (F : OStr Z h a t cs) : t < h.size := by obtain ⟨-, -, -, _, -, -, A⟩ := F; exact A.lt
theorem OStr.ext (F : OStr Z h a t cs) (E : Ext h h') : OStr Z h' a t cs := by
  obtain ⟨h1, h2, h3, kb, h4, h5, h6⟩ := F
  exact ⟨h1.ext E, h2, h3, kb, h4.ext E, h5.ext E, h6.ext E⟩
theorem OStr.wr (F : OStr Z h a t cs) (W : Wr h h' x sl v) (q1 : a ≠ x) (q2 : t ≠ x) : OStr Z h' a t cs := by
  obtain ⟨h1, h2, h3, kb, h4, h5, h6⟩ := F
  exact ⟨h1.wr W, h2, h3, kb, h4.other W (Or.inl q1), h5.other W (Or.inl q1), h6.other W q2⟩
theorem OStr.keep (F : OStr Z h a t cs) (K : Keep h h' ws) (q1 : a ∉ ws) (q2 : t ∉ ws) : OStr Z h' a t cs := by
  obtain ⟨h1, h2, h3, kb, h4, h5, h6⟩ := F
  exact ⟨h1.keep K, h2, h3, kb, h4.keep K q1, h5.keep K q1, h6.keep K q2⟩
theorem OStr.neT {kk : Nat} (F : OStr Z h a t cs) (E : Exa Z h x C) (w : (Jvm.Cond.instantiable C kk).before a0 Z = true) : t ≠ x := by
  obtain ⟨-, -, -, kb, -, -, h6⟩ := F
  exact (E.neArv h6 w).symm
theorem OStr.neTA (F : OStr Z h a t cs) (A : Arv Z h x k ty n vs dv) (q : FieldType.byte ≠ ty) : t ≠ x := by
  obtain ⟨-, -, -, kb, -, -, h6⟩ := F
  exact arvTy h6 A q
theorem OStr.mk {kb : ClassId} (E : Exa Z h a "java/lang/String") (V : Fld Z h a "java/lang/String" "value" "[B" (.ref t)) (C : Fld Z h a "java/lang/String" "coder" "B" (.int (0 : Int32))) (A : Arv Z h t kb .byte (Int32.ofNat cs.length) ((cs.map StrChars.lo8).map Value.int) (.int 0)) (hp : ∀ c ∈ cs, ¬ c < 0 ∧ ¬ (255 : Int32) < c) (l2 : cs.length ≤ 4000) : OStr Z h a t cs :=
  ⟨E, hp, l2, kb, V, C, A⟩
end Facts
section Wide
variable {p : Program} {l : Launch} {e : Env} {R : Room} {s : State} {m : MethodId} {args : Array Value} {below : List Frame} {meth : Method} {c : Code}
variable {Z : State} {a0 : Array Value} {EL : List (String × Nat)} {own : String} {n0 : Nat} {SA0 SA : List Addr} {T : State} {h h' : Heap} {cells slots : Nat} {Q : Outcome → State → Prop} {pc : Nat} {Ls : Array Slot} {st : List Value} {vm0 vm1 : Vm} {a b : Addr} {sl : Nat} {v : Value}
abbrev sI1 : MethodName := ⟨"java/lang/String", "<init>", "([C)V"⟩
theorem pdI1 : parseMethodDescriptor "([C)V" = some ⟨[.array .char], none⟩ := by decide +kernel
/-- new String(char[]), one to 4000 chars, each 0 to 255 -/
theorem Wd.newStr (X : Wd p l e R s m args below meth c Z a0 EL own n0 SA0 SA T h cells slots) {idx : Nat} {kC : ClassId} {cs : List Int32} {d v0 c0 : Value} {z N : Int32} (n : Nat) (w1 : (Jvm.Cond.methodLink own idx sI1).before a0 Z = true) (w2 : (Jvm.Cond.instanceMethod sI1).before a0 Z = true)
    (hws : ∀ d ∈ StrChars.Road.words, d.before a0 Z = true) (wi : (Jvm.Cond.instantiable "java/lang/String" 4).before a0 Z = true) (E : Exa Z h a "java/lang/String") (V : Fld Z h a "java/lang/String" "value" "[B" v0) (C : Fld Z h a "java/lang/String" "coder" "B" c0) (K : Arv Z h b kC .char N (cs.map Value.int) d)
    (S0 : Sta Z Z.heap "java/lang/String" "COMPACT_STRINGS" "Z" (.int z)) (hz : ¬ z = 0) (hn : cs.length = n) (hN : N = Int32.ofNat n) (l0 : 0 < n) (l2 : n ≤ 4000) (hp : ∀ c ∈ cs, ¬ c < 0 ∧ ¬ (255 : Int32) < c) (q : a ∈ SA) (hfr : 4 ≤ R.frames) (W : Nat) (hW : (st.map fun v => v.category).sum ≤ W) (hlo : W + 65 ≤ R.locals)
    (hcl : cells + 1 ≤ R.cells) (hsl : slots + n ≤ R.slots) (hsize : Ls.size = c.maxLocals) (hd : decode c.code pc = .ok (.invokespecial idx, 3))
    (k : ∀ (T' : State) (h' : Heap) (t : Addr), Wd p l e R s m args below meth c Z a0 EL own n0 SA0 SA T' h' (cells + 1) (slots + n) → Keep h h' [a] → h.size ≤ t → OStr Z h' a t cs → Goes p.tables e below Q (T'.setTop (mkF m (pc + 3) Ls st))) : Goes p.tables e below Q (T.setTop (mkF m pc Ls (.ref b :: .ref a :: st))) := by
  have hn0 := X.n0h
  have hsa := X.saf q
  obtain ⟨vm0, locs, k0, Y, eT, hS, hk, hZ, hown, hC, N', O, K', S, hEL, hx⟩ := X
  obtain ⟨_, vm1, ⟨T', L', c', s'⟩, -, Y', ⟨L, ⟨rfl, hL, Kp, E', C', t, kb, -, g2, -, V', A'⟩, rfl, rfl, rfl⟩, st'⟩ := Y.specialBack hx (y := sI1) rfl hown (mvT hZ w1) (mvT hZ w2) (mvT hZ (hws _ (List.mem_cons_self ..))) (by decide)
    (StrChars.Road.backV (W := W) (n0 := n0) hZ hws wi hsa.1 hn0 E V C K (Sta.ext O.2 S0) hz hn hN l0 l2 hp rfl hfr hlo) (g := mkF m pc Ls (.ref b :: .ref a :: st)) rfl hsize (Steps.refl _) (a := a) (argsL := [.ref b]) (rest := st) (lenOf pdI1 rfl) rfl (by show 2 * 0 + _ ≤ _; omega) hd (fun _ _ => ⟨rfl, eT, hcl, hsl⟩)
  subst hn hN
  exact Goes.aft st' (k T' T'.heap t (backN hS hk hZ hown hC N' O K' S hEL hx Y' hL Kp (fun x hx => by cases List.mem_singleton.mp hx; exact q)) Kp g2 (OStr.mk E' V' C' A' hp l2))
end Wide
end Own
namespace Own
open Jvm Jvm.ClassFile Sem Op Lib Jvm.Free Jvm.Stand Jvm.LawKit Jvm.RoadKit Bundle
/-- (char) x -/
def i2c (x : Int32) : Int32 := x.toUInt32.toUInt16.toUInt32.toInt32
/-- (char) (x & 255) -/
def c8 (x : Int32) : Int32 := (x &&& (255 : Int32)).toUInt32.toUInt16.toUInt32.toInt32
theorem nar_i2c (x : Int32) : nar .char (i2c x) = i2c x := by
  have q := XT.narrow_c x
  simp only [nar, i2c, UInt32.toUInt32_toInt32, UInt16.toUInt16_toUInt32]
theorem nar_lo8 (x : Int32) : nar .byte (StrChars.lo8 x) = StrChars.lo8 x := by
  show (x.toInt8.toInt32).toInt8.toInt32 = x.toInt8.toInt32
  rw [Int8.toInt8_toInt32]
theorem nar_c8 (x : Int32) : nar .char (c8 x) = c8 x := nar_i2c (x &&& 255)
theorem i2c_nat (x : Int32) : (i2c x).toBitVec.toNat = x.toBitVec.toNat % 65536 := by
  show (x.toUInt32.toUInt16.toUInt32).toNat = _
  simp
  rfl
theorem nat_rng {x : Int32} {n : Nat} (h : x.toBitVec.toNat ≤ n) (hn : n < 2 ^ 31) : x.toInt = x.toBitVec.toNat := by
  show x.toBitVec.toInt = _
  rw [BitVec.toInt_eq_toNat_cond]; split <;> omega
theorem i2c_int (x : Int32) : (i2c x).toInt = ((x.toBitVec.toNat % 65536 : Nat) : Int) := by
  rw [nat_rng (n := 65535) (by rw [i2c_nat]; omega) (by decide), i2c_nat]
theorem i2c_rng (x : Int32) : ¬ i2c x < 0 ∧ ¬ (65535 : Int32) < i2c x := by
  simp only [Int32.lt_iff_toInt_lt, i2c_int, show (0 : Int32).toInt = 0 from rfl, show (65535 : Int32).toInt = 65535 from rfl]
  omega
theorem and_nat (x y : Int32) : (x &&& y).toBitVec.toNat = x.toBitVec.toNat &&& y.toBitVec.toNat := by
  rw [Int32.toBitVec_and, BitVec.toNat_and]
theorem c8_int (x : Int32) : (c8 x).toInt = ((x.toBitVec.toNat % 256 : Nat) : Int) := by
  show (i2c (x &&& 255)).toInt = _
  rw [i2c_int, and_nat, show (255 : Int32).toBitVec.toNat = 2 ^ 8 - 1 from rfl, Nat.and_two_pow_sub_one_eq_mod]
  have : x.toBitVec.toNat % 2 ^ 8 < 256 := Nat.mod_lt _ (by decide)
  rw [Nat.mod_eq_of_lt (a := x.toBitVec.toNat % 2 ^ 8) (by omega)]
theorem c8_rng (x : Int32) : ¬ c8 x < 0 ∧ ¬ (255 : Int32) < c8 x := by
  simp only [Int32.lt_iff_toInt_lt, c8_int, show (0 : Int32).toInt = 0 from rfl, show (255 : Int32).toInt = 255 from rfl]
  omega
theorem hp0 {P : Int32 → Prop} : ∀ c ∈ ([] : List Int32), P c := fun _ q => nomatch q
theorem hpS {P : Int32 → Prop} {x : Int32} {L : List Int32} (q : P x) (r : ∀ c ∈ L, P c) : ∀ c ∈ x :: L, P c := fun c z => (List.mem_cons.mp z).elim (fun u => u ▸ q) (r c)
end Own
namespace Own
open Jvm Jvm.ClassFile Sem Op Lib Jvm.Free Jvm.Stand Jvm.LawKit Jvm.RoadKit Bundle
section Wide
variable {p : Program} {l : Launch} {e : Env} {R : Room} {s : State} {m : MethodId} {args : Array Value} {below : List Frame} {meth : Method} {c : Code}
variable {Z : State} {a0 : Array Value} {EL : List (String × Nat)} {own : String} {n0 : Nat} {SA0 SA : List Addr} {T : State} {h h' : Heap} {cells slots : Nat} {Q : Outcome → State → Prop} {pc : Nat} {Ls : Array Slot} {st : List Value} {vm0 vm1 : Vm} {a b : Addr} {sl : Nat} {v : Value}
theorem backS {T' : State} {k0 cells' slots' : Nat} (hS : s.Since vm0 k0) (hk : k0 ≤ h.size) (hZ : Z.Warmed39 vm0) (hown : vm0.findClass own = some m.cls) (hC : CHr Z EL s.vm s.heap vm0 h) {locs : List Loc} (N : Fr n0 locs) (O : Old Z n0 h) (K : Keep s.heap h SA0) (S : Sfs Z EL vm0 h n0 s.heap.size SA0 SA) (hEL : EW Z a0 EL) (hx : p.tables.exec = Jvm.exec)
    (Y : Stand p l e R (s.setVm vm0) m args below meth c T' (locs ++ []) (cells' + 0) (slots' + 0)) (eh : T'.heap = h) : Wd p l e R s m args below meth c Z a0 EL own n0 SA0 SA T' h cells' slots' := by
  rw [List.append_nil] at Y
  exact ⟨vm0, _, k0, Y, eh, hS, hk, hZ, hown, hC, N, O, K, S, hEL, hx⟩
abbrev sEq : MethodName := ⟨"java/lang/String", "equals", "(Ljava/lang/Object;)Z"⟩
theorem pdEq : parseMethodDescriptor "(Ljava/lang/Object;)Z" = some ⟨[.object "java/lang/Object"], some .boolean⟩ := by decide +kernel
/-- String.equals of two Strings -/
theorem Wd.strEq (X : Wd p l e R s m args below meth c Z a0 EL own n0 SA0 SA T h cells slots) {idx : Nat} {t t' : Addr} {cs ds : List Int32} {z : Int32} (w1 : (Jvm.Cond.methodLink own idx sEq).before a0 Z = true) (w2 : (Jvm.Cond.declares sEq).before a0 Z = true) (w3 : (Jvm.Cond.selects "java/lang/String" sEq sEq).before a0 Z = true) (w4 : (Jvm.Cond.instanceMethod sEq).before a0 Z = true)
    (hws : ∀ d ∈ StrChars.Road.wordsEq, d.before a0 Z = true) (wi : (Jvm.Cond.instantiable "java/lang/String" 4).before a0 Z = true) (F : OStr Z h a t cs) (G : OStr Z h b t' ds) (S0 : Sta Z Z.heap "java/lang/String" "COMPACT_STRINGS" "Z" (.int z)) (hz : ¬ z = 0) (hfr : 2 ≤ R.frames) (W : Nat) (hW : (st.map fun v => v.category).sum ≤ W) (hlo : W + 28 ≤ R.locals)
    (hcl : cells ≤ R.cells) (hsl : slots ≤ R.slots) (hsize : Ls.size = c.maxLocals) (hd : decode c.code pc = .ok (.invokevirtual idx, 3))
    (k1 : ∀ T' : State, Wd p l e R s m args below meth c Z a0 EL own n0 SA0 SA T' h cells slots → cs = ds → Goes p.tables e below Q (T'.setTop (mkF m (pc + 3) Ls (.int 1 :: st))))
    (k0 : ∀ T' : State, Wd p l e R s m args below meth c Z a0 EL own n0 SA0 SA T' h cells slots → ¬ cs = ds → Goes p.tables e below Q (T'.setTop (mkF m (pc + 3) Ls (.int 0 :: st)))) : Goes p.tables e below Q (T.setTop (mkF m pc Ls (.ref b :: .ref a :: st))) := by
  obtain ⟨vm0, locs, kk, Y, eT, hS, hk, hZ, hown, hC, N', O, K', S, hEL, hx⟩ := X
  obtain ⟨f1, f2, f3, kb, f4, f5, f6⟩ := F
  obtain ⟨g1, g2, g3, kb', g4, g5, g6⟩ := G
  obtain ⟨cB, kB, u1, -, u3⟩ := isOf (s := s.setVm vm0) hZ eT f1
  obtain ⟨_, vm1, ⟨T', L', c', s'⟩, -, Y', ⟨L, ⟨hv, rfl, hh⟩, rfl, e1, e2⟩, st'⟩ := Y.virtualBack hx (y := sEq) (z := sEq) hown (mvT hZ w1) (mvT hZ w2) (notFace_of_selects (args := #[]) (mvT hZ w3)) (mvT hZ w3) (mvT hZ w4) (by decide)
    (StrChars.Road.eqW (W := W) hZ hws wi f1 f4 f5 f6 (StrChars.Road.codOf rfl fun c q => (f2 c q).2) (up16 f2) f3 g1 g4 g5 g6 (StrChars.Road.codOf rfl fun c q => (g2 c q).2) (up16 g2) g3 (Sta.ext O.2 S0) hz hfr hlo) u1 u3 (g := mkF m pc Ls (.ref b :: .ref a :: st)) rfl hsize (Steps.refl _) (argsL := [.ref b]) (rest := st) (lenOf pdEq rfl) rfl (by show 2 * 0 + _ ≤ _; omega) hd (fun _ _ => ⟨rfl, eT, hcl, hsl⟩)
  have e1' : c' = cells := e1
  have e2' : s' = slots := e2
  subst e1' e2'
  have X' := backS (own := own) hS hk hZ hown hC N' O K' S hEL hx Y' hh
  rcases hv with ⟨rfl, hv⟩ | ⟨rfl, hv⟩
  · exact Goes.aft st' (k1 T' X' hv)
  · exact Goes.aft st' (k0 T' X' hv)
end Wide
end Own
namespace Own
open Jvm Jvm.ClassFile Sem Op Lib Jvm.Free Jvm.Stand Jvm.LawKit Jvm.RoadKit Bundle
/-- as Ct, of a method beneath which a stack trace is filled in: its frames and methods must be known -/
def CtK (l : Launch) (Z : State) (EL : List (String × Nat)) (ws : List Jvm.Cond) (y : MethodName) (bytes : ByteArray) (maxL : Nat) (ret : Option FieldType) (rm : Room) (as' : Array Value) (h0 : Heap) (n0 : Nat) (SA0 : List Addr) (Q0 : Option Value → Heap → Prop) : Prop :=
  MetFree l y (head1 (Jvm.Cond.code y bytes maxL ret :: ws) rm) (fun a U => a = as' ∧ Z.Warmed39 U.vm ∧ U.heap = h0 ∧ CHv Z EL U.vm h0 ∧ Old Z n0 h0 ∧ ∀ x ∈ SA0, Safe Z EL U.vm h0 x ∧ x < h0.size ∧ n0 ≤ x) (fun _ _ bl s _ => s.vm.MethodsKnown ∧ s.vm.FramesKnown bl)
    (fun _ U o U' => ∃ v L, o = .returned v ∧ (Q0 v U'.heap ∧ Fr n0 L ∧ Old Z n0 U'.heap ∧ Keep h0 U'.heap SA0) ∧ CHr Z EL U.vm U.heap U'.vm U'.heap ∧ ReturnedEndW U o U' L rm.cells rm.slots)
/-- the words of a table word made of words -/
def flatC : Jvm.Cond → List Jvm.Cond
  | .and a b => flatC a ++ flatC b
  | .tt => []
  | c => [c]
theorem flat_of {args : Array Value} {s : State} : ∀ c : Jvm.Cond, (∀ d ∈ flatC c, d.before args s = true) → c.before args s = true
  | .and a b, h => by
    rw [Cond.before_and, Bool.and_eq_true]
    exact ⟨flat_of a fun d q => h d (by rw [flatC]; exact List.mem_append_left _ q), flat_of b fun d q => h d (by rw [flatC]; exact List.mem_append_right _ q)⟩
  | .tt, _ => rfl
  | c, h => by
    by_cases e : flatC c = [c]
    · exact h c (by rw [e]; exact List.mem_singleton.mpr rfl)
    · cases c with
      | and a b =>
        rw [Cond.before_and, Bool.and_eq_true]
        exact ⟨flat_of a fun d q => h d (by rw [flatC]; exact List.mem_append_left _ q), flat_of b fun d q => h d (by rw [flatC]; exact List.mem_append_right _ q)⟩
      | tt => rfl
      | _ => exact absurd rfl e
section Wide
variable {p : Program} {l : Launch} {e : Env} {R : Room} {s : State} {m : MethodId} {args : Array Value} {below : List Frame} {meth : Method} {c : Code}
variable {Z : State} {a0 : Array Value} {EL : List (String × Nat)} {own : String} {n0 : Nat} {SA0 SA SA' : List Addr} {T : State} {h h' h0 : Heap} {cells slots : Nat} {Q : Outcome → State → Prop} {pc : Nat} {Ls : Array Slot} {st : List Value} {vm0 vm1 : Vm} {a : Addr} {sl : Nat} {v : Value}
variable {ws : List Jvm.Cond} {y z : MethodName} {bytes : ByteArray} {maxL : Nat} {ret : Option FieldType} {rm : Room} {as' : Array Value} {Q0 : Option Value → Heap → Prop}
theorem CtK.enter (pn : plainFor y = true) (hEL : EW Z a0 EL)
    (body : ∀ (p : Program) (e : Env) (s : State) (m : MethodId) (below : List Frame) (meth : Method) (c : Code) (T : State), c.code = bytes → c.maxLocals = maxL → meth.sig.returnType = ret → meth.locks = false → meth.name = y.name → s.heap = h0 → (s.vm.MethodsKnown ∧ s.vm.FramesKnown below) → Wd p l e rm s m as' below meth c Z a0 EL y.cls n0 SA0 SA0 T h0 0 0 →
      Goes p.tables e below (Endq Z EL s n0 SA0 rm Q0) (T.setTop (entryFrame m as' maxL))) : CtK l Z EL ws y bytes maxL ret rm as' h0 n0 SA0 Q0 := by
  refine MetFree.of_bodySF pn hisR ?_
  intro p e s m args below meth c s₁ Bd hml0 hP hK
  obtain ⟨rfl, hZ, rfl, H, O, S⟩ := hP
  have Y : Stand p l e rm s m args below meth c s₁ [] 0 0 := Stand.of_body Bd
  have e0 : s₁.heap = s.heap := by rw [Bd.state]; rfl
  obtain ⟨s₂, o, h1, h2, h3, v, L, h4, h5, h6, h7⟩ := body p e s m below meth c s₁ Bd.bytes hml0 Bd.returns (BodyLoose.notSynchronized Bd) (name_of_methodNamed Bd.named Bd.method).1 rfl hK
    ⟨s.vm, [], 0, Y, e0, (State.WarmedH.refl s).since _, Nat.zero_le _, hZ, findClass_of_methodNamed Bd.named, CHr.refl H, Fr.nil _, O, Keep.refl _ _, fun x q => ⟨(S x q).1, (S x q).2.1, (S x q).2.2, Or.inl q⟩, hEL, Bd.exec⟩
  exact ⟨s₂, o, h1, h2, h3, v, L, h4, h5, h6, h7⟩
theorem CtK.back {len W : Nat} (ct : CtK l Z EL [] y bytes maxL ret rm as' h n0 SA0 Q0) (hZ : Z.Warmed39 vm0) (wc : (Jvm.Cond.code y bytes maxL ret).before a0 Z = true) (wz : (Jvm.Cond.initialized y.cls).before a0 Z = true) (hf : rm.frames + 1 ≤ R.frames) (hl : W + (maxL + 11) + rm.locals ≤ R.locals) (hEL : EW Z a0 EL) (H : CHv Z EL vm0 h) (O : Old Z n0 h)
    (S : ∀ x ∈ SA0, Safe Z EL vm0 h x ∧ x < h.size ∧ n0 ≤ x) (hTK : vm0.MethodsKnown) (hBelow : vm0.FramesKnown below) :
    BackS l R p e below (s.setVm vm0) args y len W (fun A a => a = as' ∧ A.U.heap = h ∧ A.cells + rm.cells ≤ R.cells ∧ A.slots + rm.slots ≤ R.slots)
      (fun A _ v B => ∃ L, (Q0 v B.U.heap ∧ Fr n0 L ∧ Old Z n0 B.U.heap ∧ Keep h B.U.heap SA0) ∧ B.locs = A.locs ++ L ∧ B.cells = A.cells + rm.cells ∧ B.slots = A.slots + rm.slots ∧ CHr Z EL vm0 h B.U.vm B.U.heap) :=
  BackS.of_freeWG (bytes := bytes) (maxL := maxL) (ret := ret) (E := fun _ first o t L k n => k = rm.cells ∧ n = rm.slots ∧ (∃ v, o = .returned v ∧ (Q0 v t.heap ∧ Fr n0 L ∧ Old Z n0 t.heap ∧ Keep h t.heap SA0)) ∧ CHr Z EL first.vm first.heap t.vm t.heap) ct hf hl
    (fun m meth c A a Y hp => have hU : Z.Warmed39 A.U.vm := wtrans (s := s.setVm vm0) hZ Y.warmed
      ⟨by show (Jvm.Cond.and _ .tt).before a A.U = true; rw [Cond.before_and, mv hU wc]; rfl, mv hU wc, mv hU wz, hp.2.2.1, hp.2.2.2⟩)
    (fun m meth c A a g mk Y hp => ⟨hp.1, wtrans (s := s.setVm vm0) hZ Y.warmed, hp.2.1, (CHv.at Y hZ hEL H).1, O, fun x q => ⟨(CHv.at Y hZ hEL H).safe (S x q).2.1 (S x q).1, (S x q).2⟩⟩) (fun m meth c A a g mk Y _ hg => known_frames Y hg hTK hBelow)
    (fun _ _ _ _ ⟨v, L, h1, h2, h3, h4⟩ => ⟨L, _, _, h4, rfl, rfl, ⟨v, h1, h2⟩, h3⟩)
    (fun m meth c A a g mk v t L k n Y hp _ _ ⟨e1, e2, ⟨v', e3, e4⟩, e5⟩ => by
      cases e3; subst e1 e2
      refine ⟨L, e4, rfl, rfl, rfl, (CHv.at Y hZ hEL H).trans ?_⟩
      rw [← hp.2.1]; exact e5)
theorem knownAt (hS : s.Warmed39 vm0) (hK : s.vm.MethodsKnown ∧ s.vm.FramesKnown below) : vm0.MethodsKnown ∧ vm0.FramesKnown below :=
  ⟨Vm.MethodsKnown.alikeC hS.alike hK.1, Vm.FramesKnown.alikeC hS.alike hK.2⟩
/-- invokestatic by such a contract -/
theorem Wd.callsK (X : Wd p l e R s m args below meth c Z a0 EL own n0 SA0 SA T h cells slots) (hK : s.vm.MethodsKnown ∧ s.vm.FramesKnown below) (argsL rest : List Value) {idx : Nat} (ct : CtK l Z EL [] y bytes maxL ret rm argsL.toArray h n0 SA' Q0) (w1 : (Jvm.Cond.methodLink own idx y).before a0 Z = true) (w2 : (Jvm.Cond.static y).before a0 Z = true) (w3 : (Jvm.Cond.initialized y.cls).before a0 Z = true) (w4 : (Jvm.Cond.code y bytes maxL ret).before a0 Z = true)
    (hy : y.cls ≠ "java/lang/invoke/MethodHandle" ∧ y.cls ≠ "java/lang/invoke/VarHandle") (hsub : ∀ x ∈ SA', x ∈ SA) (hf : rm.frames + 1 ≤ R.frames) (W : Nat) (hl : W + (maxL + 11) + rm.locals ≤ R.locals) (hcl : cells + rm.cells ≤ R.cells) (hsl : slots + rm.slots ≤ R.slots)
    (hlen : ∀ sig, parseMethodDescriptor y.desc = some sig → argsL.length = sig.parameters.length) (hst : st = argsL.reverse ++ rest) (hW : (rest.map fun v => v.category).sum ≤ W) (hsize : Ls.size = c.maxLocals) (hd : decode c.code pc = .ok (.invokestatic idx, 3))
    (k : ∀ (T' : State) (h' : Heap) (v : Option Value), Wd p l e R s m args below meth c Z a0 EL own n0 SA0 SA T' h' (cells + rm.cells) (slots + rm.slots) → Keep h h' SA' → Q0 v h' → Goes p.tables e below Q (T'.setTop (mkF m (pc + 3) Ls (v.toList ++ rest)))) : Goes p.tables e below Q (T.setTop (mkF m pc Ls st)) := by
  obtain ⟨vm0, locs, k0, Y, eT, hS, hk, hZ, hown, hC, N, O, K, S, hEL, hx⟩ := X
  obtain ⟨k1, k2⟩ := knownAt hS.1 hK
  obtain ⟨v, vm1, ⟨T', L', c', s'⟩, -, Y', h2, hg, ⟨L, ⟨q0, q1, q2, q3⟩, rfl, rfl, rfl, A⟩, st'⟩ := callSS Y hx hown (mvT hZ w1) (mvT hZ w2) (mvT hZ w3) (mvT hZ w4) hy (ct.back (a0 := a0) (W := W) (len := 3) hZ w4 w3 hf hl hEL hC.1 O (fun x q => ⟨(S x (hsub x q)).1, (S x (hsub x q)).2.1, (S x (hsub x q)).2.2.1⟩) k1 k2)
    (g := mkF m pc Ls st) rfl hsize (argsL := argsL) (rest := rest) hlen hst (by show 2 * 0 + _ ≤ _; omega) hd (fun _ _ => ⟨rfl, eT, hcl, hsl⟩)
  exact Goes.aft st' (k T' T'.heap v (callN hS hk hZ hown hC N K S hEL hx Y' h2 (by rw [← eT]; exact hg) q1 q2 q3 hsub A) q3 q0)
/-- the constructor (String) of a JDK exception on a fresh object -/
theorem Wd.exc1 (X : Wd p l e R s m args below meth c Z a0 EL own n0 SA0 SA T h cells slots) (hK : s.vm.MethodsKnown ∧ s.vm.FramesKnown below) (hl : l.stackTraces = true) (hO : Old Z n0 s.heap) {rc : String} {links : List Jvm.Free.Exc.Link} {ic n : Nat} (hok : Jvm.Free.Exc.linksOk 1 links = true)
    (w1 : (Jvm.Cond.methodLink own ic (Jvm.Free.Exc.ctor 1 (Jvm.Free.Exc.headName links))).before a0 Z = true) (w2 : (Jvm.Cond.instanceMethod (Jvm.Free.Exc.ctor 1 (Jvm.Free.Exc.headName links))).before a0 Z = true) (wT : (Jvm.Free.Exc.chainTab 1 rc links).before a0 Z = true) (wi : (Jvm.Cond.instantiable rc n).before a0 Z = true) (r : ∀ d ∈ twoRefs, d.before a0 Z = true)
    (E : Exa Z h a rc) (N : Unt h a) (B : Fld Z h a "java/lang/Throwable" "backtrace" "Ljava/lang/Object;" .null) (B2 : Fld Z h a "java/lang/Throwable" "detailMessage" "Ljava/lang/String;" .null) {msg : Value} (hmsg : msg.isRef = true) (q : a ∈ SA) (hsize : Ls.size = c.maxLocals) (hd : decode c.code pc = .ok (.invokespecial ic, 3))
    (hf : 4 + links.length ≤ R.frames) (hlo : (st.map fun v => v.category).sum + (56 + 14 * links.length) ≤ R.locals) (hc : cells + 1 ≤ R.cells) (hsl : slots + 2752 ≤ R.slots)
    (k : ∀ (T' : State) (h' : Heap), Wd p l e R s m args below meth c Z a0 EL own n0 SA0 SA T' h' (cells + 1) (slots + 2752) → Keep h h' [a] → Exa Z h' a rc → Fld Z h' a "java/lang/Throwable" "detailMessage" "Ljava/lang/String;" msg → Goes p.tables e below Q (T'.setTop (mkF m (pc + 3) Ls st))) : Goes p.tables e below Q (T.setTop (mkF m pc Ls (msg :: .ref a :: st))) := by
  have hsa := X.saf q
  obtain ⟨vm0, locs, k0, Y, eT, hS, hk, hZ, hown, hC, N', O, K, S, hEL, hx⟩ := X
  obtain ⟨k1, k2⟩ := knownAt hS.1 hK
  obtain ⟨T', h', Y', e', Kp', E', -, F', -, -, st'⟩ := excL1 Y hx hl hZ hown hok w1 w2 wT wi r (ThS.ext hO.2 ThS.start) (ThS.ext O.2 ThS.start) k1 k2 eT E N B B2 hmsg (g := mkF m pc Ls (msg :: .ref a :: st)) rfl hsize (rest := st) rfl hd hf (by show 2 * 0 + _ + _ ≤ _; omega) hc hsl
  have K' := keep_of_kp Kp'
  have hq : ∀ x ∈ [a], x ∈ SA := fun x hx => by cases List.mem_singleton.mp hx; exact q
  have A' := CHr.keep K' (fun x q => (S x (hq x q)).1) hC.1
  exact Goes.via st' (k T' h' ⟨vm0, _, k0, Y', e', hS, Nat.le_trans hk K'.1, hZ, hown, hC.trans A', Fr.six N' hsa.1, O.keep K' (fun x q => (S x (hq x q)).2.2.1), K.trans K' (fun x q => (S x (hq x q)).2.2.2), S.go A', hEL, hx⟩ K' E' F')
/-- invokevirtual of a method that the entry's class inherits from 'owner' -/
theorem Wd.callup (X : Wd p l e R s m args below meth c Z a0 EL own n0 SA0 SA T h cells slots) (argsL rest : List Value) {idx : Nat} {C owner : String} {xm : MethodName} {Q1 : Option Value → Heap → List Addr → Prop} (ct : CtF l Z EL [] y bytes maxL ret rm (.ref a :: argsL).toArray h n0 SA' Q1) (E : Exa Z h a C) (w1 : (Jvm.Cond.methodLink own idx xm).before a0 Z = true) (w2 : (Jvm.Cond.sameMethod xm.cls owner xm.name xm.desc).before a0 Z = true) (w3 : (Jvm.Cond.declares ⟨owner, xm.name, xm.desc⟩).before a0 Z = true)
    (howner : owner ≠ "java/lang/invoke/MethodHandle" ∧ owner ≠ "java/lang/invoke/VarHandle") (w4 : (Jvm.Cond.selects C xm y).before a0 Z = true) (w5 : (Jvm.Cond.instanceMethod y).before a0 Z = true) (w6 : (Jvm.Cond.initialized y.cls).before a0 Z = true) (w7 : (Jvm.Cond.code y bytes maxL ret).before a0 Z = true)
    (hsub : ∀ x ∈ SA', x ∈ SA) (hf : rm.frames + 1 ≤ R.frames) (W : Nat) (hl : W + (maxL + 11) + rm.locals ≤ R.locals) (hcl : cells + rm.cells ≤ R.cells) (hsl : slots + rm.slots ≤ R.slots)
    (hlen : ∀ sig, parseMethodDescriptor xm.desc = some sig → argsL.length = sig.parameters.length) (hst : st = argsL.reverse ++ .ref a :: rest) (hW : (rest.map fun v => v.category).sum ≤ W) (hsize : Ls.size = c.maxLocals) (hd : decode c.code pc = .ok (.invokevirtual idx, 3))
    (k : ∀ (T' : State) (h' : Heap) (v : Option Value) (F : List Addr), Wd p l e R s m args below meth c Z a0 EL own n0 SA0 (F ++ SA) T' h' (cells + rm.cells) (slots + rm.slots) → Keep h h' SA' → (∀ x ∈ F, h.size ≤ x) → Q1 v h' F → Goes p.tables e below Q (T'.setTop (mkF m (pc + 3) Ls (v.toList ++ rest)))) : Goes p.tables e below Q (T.setTop (mkF m pc Ls st)) := by
  obtain ⟨vm0, locs, k0, Y, eT, hS, hk, hZ, hown, hC, N, O, K, S, hEL, hx⟩ := X
  obtain ⟨cB, kB, u1, -, u3⟩ := isOf (s := s.setVm vm0) hZ eT E
  obtain ⟨v, vm1, ⟨T', L', c', s'⟩, -, Y', h2, hg, ⟨L, ⟨F, q0, ⟨q1, q2, q3⟩, hF⟩, rfl, rfl, rfl, A⟩, st'⟩ := Y.virtualBackUpS hx hown (mvT hZ w1) (mvT hZ w2) (mvT hZ w3) howner (mvT hZ w4) (mvT hZ w5) (ct.back (a0 := a0) (W := W) (len := 3) hZ w7 w6 hf hl hEL hC.1 O fun x q => ⟨(S x (hsub x q)).1, (S x (hsub x q)).2.1, (S x (hsub x q)).2.2.1⟩)
    u1 u3 (g := mkF m pc Ls st) rfl hsize (Steps.refl _) (argsL := argsL) (rest := rest) hlen hst (by show 2 * 0 + _ ≤ _; omega) hd (fun _ _ => ⟨rfl, eT, hcl, hsl⟩)
  exact Goes.aft st' (k T' T'.heap v F (callNF hS hk hZ hown hC N K S hEL hx Y' h2 (by rw [← eT]; exact hg) q1 q2 q3 hsub A hF) q3 (fun x q => (hF x q).2.2.2) q0)
end Wide
end Own
namespace Own
open Jvm Jvm.ClassFile Sem Op Lib Jvm.Free Jvm.Stand Jvm.LawKit Jvm.RoadKit Bundle Jvm.Free.Exc
/-- what the walk of Throwable's constructor on an object of class rc asks: the fields as rc lays them -/
def thX (rc : String) : List Jvm.Cond := [.initialized tN, .superclass tN "java/lang/Object", .instanceMethod tFill, .codeSync tFill LibCode.Throwable.Fill.code 1 (some (.object tN)), .instanceMethod tFill0, .native tFill0,
  .instanceMethod oInit, .code oInit ⟨#[0xb1]⟩ 1 none, .methodLink tN 1 oInit, .methodLink tN 27 tFill, .methodLink tN 202 tFill0,
  .fieldLink tN 7 tN "cause" thD, .lays rc tN "cause" thD, .fieldLink tN 17 tN "stackTrace" steD, .lays rc tN "stackTrace" steD, .fieldLink tN 24 tN "suppressedExceptions" listD, .lays rc tN "suppressedExceptions" listD,
  .fieldLink tN 13 tN "UNASSIGNED_STACK" steD, .laysStatic tN "UNASSIGNED_STACK" steD, .fieldLink tN 20 tN "SUPPRESSED_SENTINEL" listD, .laysStatic tN "SUPPRESSED_SENTINEL" listD, .lays rc tN "detailMessage" msgD,
  .declares tFill, .selects rc tFill0 tFill0, .selects rc tFill tFill, .fieldLink tN 198 tN "backtrace" obD, .lays rc tN "backtrace" obD, .arrayOver (.object "java/lang/Object"), .soleField tN "backtrace", .soleField tN "depth", .lays rc tN "depth" "I"]
theorem thX_ok (rc : String) : (thX rc).all xOk = true := rfl
/-- two fields of different names that rc lays lie apart -/
theorem apart {args : Array Value} {s : State} {rc n d n' d' : String} {t t' : FieldType} {c c' i i' : Nat} {k k' : Class} {f f' : Field} (w : (Jvm.Cond.lays rc tN n d).holds args s none s [] = true) (w' : (Jvm.Cond.lays rc tN n' d').holds args s none s [] = true)
    (h : s.fieldFound? tN n d = some (c, k, i, f)) (h' : s.fieldFound? tN n' d' = some (c', k', i', f')) (ht : parseFieldDescriptor d = some t) (ht' : parseFieldDescriptor d' = some t') (hn : n ≠ n') : f.slot ≠ f'.slot := by
  obtain ⟨cX, kX, _, _, _, _, hc, hk, -⟩ := Cond.lays_spec w
  obtain ⟨-, x, h1, h2⟩ := Cond.laysAt hc hk h w
  obtain ⟨-, x', h1', h2'⟩ := Cond.laysAt hc hk h' w'
  exact Cond.laysApart h1 h1' h2 h2' (by rw [(State.fieldFound?_type h ht).1, (State.fieldFound?_type h' ht').1]; exact hn)
theorem links9 {args : Array Value} {s : State} {pl : Platform} {rc : String} (howns : pl.frameOwnsMonitors = true) (hfin : pl.finalization = false) (hpl : pl.magicAccessors = ({} : Platform).magicAccessors) (a : ∀ c ∈ thX rc, c.holds args s none s [] = true) :
    ∃ T : ThrowableC, T.Links pl s ∧ s.vm.findClass tN = some T.cT ∧ s.methodNamed? tFill = some T.fill ∧ s.methodNamed? tFill0 = some T.fill0 ∧ s.fieldFound? tN "stackTrace" steD = some (T.cT, T.kT, T.i17, T.fStack) ∧ s.fieldFound? tN "UNASSIGNED_STACK" steD = some (T.cT, T.kT, T.i13, T.fUnassigned) := by
  have A : ∀ {c : Jvm.Cond} (i : Nat), (thX rc)[i]? = some c → c.holds args s none s [] = true := fun i q => a _ (List.mem_of_getElem? q)
  obtain ⟨⟨c, i0⟩, m0, hn0, hm0, g1, g2, g3, g4⟩ := Cond.native_spec (A 5 rfl)
  have hc : s.vm.findClass tN = some c := findClass_of_methodNamed hn0
  obtain ⟨k, hk, hname⟩ := Vm.findClass_spec hc
  obtain ⟨_, k1, _, _, hk1, _, _, hord, _, hni⟩ := Cond.superclass_spec hc (A 1 rfl)
  cases hk.symm.trans hk1
  obtain ⟨iF, mF, hnF, hmF, f1, f2, f3, -, -⟩ := Cond.ownMethod (x := tFill) hc hk (A 2 rfl)
  obtain ⟨mF', cF, q1, f4, f5, f6, f7, f8, -, f9⟩ := Cond.codeSync_spec hnF (A 3 rfl)
  cases hmF.symm.trans q1
  obtain ⟨i0', m0', hn0', hm0', g5, g6, g7, g8, g9⟩ := Cond.ownMethod (x := tFill0) hc hk (A 4 rfl)
  cases hn0.symm.trans hn0'
  cases hm0.symm.trans hm0'
  obtain ⟨mO, mthO, hnO, hmO, o1, o2⟩ := Cond.instanceMethod_spec (A 6 rfl)
  obtain ⟨mO', cO, q2, o3, o4, o5, -, o6, -, o7⟩ := Cond.code_spec hnO (A 7 rfl)
  cases hmO.symm.trans q2
  obtain ⟨kO, hkO, hnameO⟩ := Vm.findClass_spec (findClass_of_methodNamed hnO)
  obtain ⟨hnmO, hdsO⟩ := name_of_methodNamed hnO hmO
  obtain ⟨j1, n1, cf, x1, x2, hcf, x3⟩ := Cond.linkedMethod hc hk hnO (A 8 rfl) pl hpl
  obtain ⟨j27, n27, cf', y1, y2, hcf', y3⟩ := Cond.linkedMethod hc hk hnF (A 9 rfl) pl hpl
  cases hcf.symm.trans hcf'
  obtain ⟨j202, n202, cf', z1, z2, hcf', z3⟩ := Cond.linkedMethod hc hk hn0 (A 10 rfl) pl hpl
  cases hcf.symm.trans hcf'
  obtain ⟨j7, i7, fC, c1, c2, c3, c4, c5, -, -, hC⟩ := Cond.ownField (t := .object tN) hc hk (by decide +kernel) (A 11 rfl) (A 12 rfl) pl hpl
  obtain ⟨j17, i17, fS, s1, s2, s3, s4, s5, -, -, hS⟩ := Cond.ownField (t := .array (.object "java/lang/StackTraceElement")) hc hk (by decide +kernel) (A 13 rfl) (A 14 rfl) pl hpl
  obtain ⟨j24, i24, fP, p1, p2, p3, p4, p5, -, -, hP⟩ := Cond.ownField (t := .object "java/util/List") hc hk (by decide +kernel) (A 15 rfl) (A 16 rfl) pl hpl
  obtain ⟨j13, i13, fU, aS, cS, u1, u2, u3, u4, -, -, hst, -, -, -, -, hU⟩ := Cond.ownStatic (t := .array (.object "java/lang/StackTraceElement")) hc hk (by decide +kernel) (A 17 rfl) (A 18 rfl) pl hpl
  obtain ⟨j20, i20, fE, _, _, e1, e2, e3, e4, -⟩ := Cond.ownStatic (t := .object "java/util/List") hc hk (by decide +kernel) (A 19 rfl) (A 20 rfl) pl hpl
  obtain ⟨_, _, _, _, _, fM, _, _, hM, m1, m2, -⟩ := Cond.lays_spec (A 21 rfl)
  have pF : mF.sig.parameters = [] := by
    have q : (parseMethodDescriptor tFill.desc).map (·.parameters) = some [] := by decide +kernel
    rw [f9] at q; simpa using q
  have p0 : m0.sig.parameters = [.int] := by
    have q : (parseMethodDescriptor tFill0.desc).map (·.parameters) = some [.int] := by decide +kernel
    rw [g4] at q; simpa using q
  have pO : mthO.sig.parameters.length = 0 := by
    have q : (parseMethodDescriptor oInit.desc).map (·.parameters) = some [] := by decide +kernel
    rw [o7] at q
    have q2 : mthO.sig.parameters = [] := by simpa using q
    rw [q2]; rfl
  refine ⟨{ cT := c, kT := k, cO := c, aS := aS, fillIdx := iF, fill0Idx := i0, initSIdx := 0, obj := mO, kObj := kO, methFill := mF, methFill0 := m0, methInitS := mF, methObj := mthO, codeFill := cF, codeInitS := cF, codeObj := cO, fBack := fC, fDepth := fC, fStack := fS, fCause := fC, fSupp := fP, fMsg := fM, fUnassigned := fU, fSentinel := fE, cfT := cf, ci1 := j1, n1 := n1, ci27 := j27, n27 := n27, ci202 := j202, n202 := n202, ci7 := j7, i7 := i7, ci13 := j13, i13 := i13, ci17 := j17, i17 := i17, ci20 := j20, i20 := i20, ci24 := j24, i24 := i24 }, ?_, hc, hnF, hn0, hS, hU⟩
  exact { owns := howns, noFinalization := hfin, cls := hk, name := hname, boot := Vm.findClass_boot hc hk, notInterface := hni, initialized := Cond.initialized_spec hc hk (A 0 rfl), statics := hst, fillAt := f1, fillCode := f4, fillBytes := f5, fillLocals := f6, fillLocks := f8, fillStatic := f2, fillAbstract := f3, fillReturns := f7, fillParams := pF, fill0At := g5, fill0Name := g8, fill0Desc := g9, fill0Params := p0, fill0Static := g6, fill0Native := g1, fill0Code := g2, fill0Locks := g3, fill0Abstract := g7, stackInstance := s4, stackNotFinal := s5, unassignedStatic := u4, objClass := hkO, objClassName := hnameO, objMethod := hmO, objName := hnmO, objStatic := o1, objAbstract := o2, objFound := by rw [hdsO]; exact lookupSpecial_of_named hnO hmO o1, objParams := pO, objCode := o3, objBytes := o4, objLocks := o6, causeInstance := c4, causeNotFinal := c5, sentinelStatic := e4, suppInstance := p4, suppNotFinal := p5, msgInstance := m1, msgNotFinal := m2, stackApartSupp := apart (A 14 rfl) (A 16 rfl) hS hP (t := .array (.object "java/lang/StackTraceElement")) (t' := .object "java/util/List") (by decide +kernel) (by decide +kernel) (by decide), file := hcf, mlink1 := x1, mright1 := x2, pool1 := x3, mlink27 := y1, mright27 := y2, pool27 := y3, mlink202 := z1, mright202 := z2, pool202 := z3, link7 := c1, right7 := c2, at7 := c3, link13 := u1, right13 := u2, at13 := u3, link17 := s1, right17 := s2, at17 := s3, link20 := e1, right20 := e2, at20 := e3, link24 := p1, right24 := p2, at24 := p3 }
section Wide
variable {p : Program} {l : Launch} {e : Env} {R : Room} {s : State} {m : MethodId} {args : Array Value} {below : List Frame} {meth : Method} {c : Code}
variable {Z : State} {a0 : Array Value} {EL : List (String × Nat)} {own : String} {n0 : Nat} {SA0 SA SA' : List Addr} {T : State} {h h' h0 : Heap} {cells slots : Nat} {Q : Outcome → State → Prop} {pc : Nat} {Ls : Array Slot} {st : List Value} {vm0 vm1 : Vm} {a : Addr} {sl : Nat} {v : Value} {locs : List Loc}
variable {y : MethodName} {bytes : ByteArray} {maxL : Nat} {ret : Option FieldType} {rm : Room} {as' : Array Value} {Q0 : Option Value → Heap → Prop}
theorem keep_same (hs : s.sameButNew (T.setVm s.vm) locs cells slots) (hL : ∀ y ∈ locs, y.base = a) : Keep s.heap T.heap [a] := by
  obtain ⟨-, h1, -, -, -, h2⟩ := hs
  have K : Jvm.Free.Exc.Kept s T locs := h2
  refine ⟨h1, fun x c hx hne => K.other hL (fun q => hne (List.mem_singleton.mpr q)) hx, fun x c hx => ?_⟩
  obtain ⟨c', g1, g2, g3, -⟩ := K x c hx
  exact ⟨c', g1, by rw [g2], by rw [g2], g3⟩
/-- a walk that has written to a alone stands well -/
theorem reWd (Y : Stand p l e R s m args below meth c T locs cells slots) (hL : ∀ y ∈ locs, y.base = a) (hZ : Z.Warmed39 s.vm) (hown : s.vm.findClass own = some m.cls) (H : CHv Z EL s.vm s.heap) (O : Old Z n0 s.heap) (S : Safe Z EL s.vm s.heap a ∧ a < s.heap.size ∧ n0 ≤ a) (hEL : EW Z a0 EL) (hx : p.tables.exec = Jvm.exec) :
    Wd p l e R s m args below meth c Z a0 EL own n0 [a] [a] T T.heap cells slots := by
  have K := keep_same Y.same hL
  have A : CHr Z EL s.vm s.heap s.vm T.heap := CHr.keep K (fun x q => by cases List.mem_singleton.mp q; exact S.1) H
  exact ⟨s.vm, locs, 0, Y, rfl, (State.WarmedH.refl s).since _, Nat.zero_le _, hZ, hown, A, fun y q => by rw [hL y q]; exact S.2.2, O.keep K (fun x q => by cases List.mem_singleton.mp q; exact S.2.2), K,
    fun x q => by cases List.mem_singleton.mp q; exact ⟨A.safe S.2.1 S.1, Nat.lt_of_lt_of_le S.2.1 K.1, S.2.2, Or.inl (List.mem_singleton.mpr rfl)⟩, hEL, hx⟩
theorem pdFill : parseMethodDescriptor "()Ljava/lang/Throwable;" = some ⟨[], some (.object "java/lang/Throwable")⟩ := by decide +kernel
/-- fillInStackTrace() on a fresh object -/
theorem fillS (Y : Stand p l e R s m args below meth c T locs cells slots) (hx : p.tables.exec = Jvm.exec) (hl : l.stackTraces = true) (hZ : Z.Warmed39 s.vm) (hown : s.vm.findClass tN = some m.cls) (hTK : s.vm.MethodsKnown) (hBelow : s.vm.FramesKnown below) (hO : Old Z n0 s.heap) (hOh : Old Z n0 h) {rc : String} {nn : Nat} {u v0 : Value}
    (hw : ∀ d ∈ thX rc, d.before a0 Z = true) (wi : (Jvm.Cond.instantiable rc nn).before a0 Z = true) (eT : T.heap = h) (E : Exa Z h a rc) (N : Unt h a) (FS : Fld Z h a tN "stackTrace" steD u) (hu : u.isRef = true) (SU : Sta Z Z.heap tN "UNASSIGNED_STACK" steD u) (FB : Fld Z h a tN "backtrace" obD .null) (FM : Fld Z h a tN "detailMessage" msgD v0) (hna : n0 ≤ a)
    (hsize : Ls.size = c.maxLocals) (hd : decode c.code pc = .ok (.invokevirtual 27, 3)) (hf : 3 ≤ R.frames) (hlo : 42 ≤ R.locals) (hc : cells + 1 ≤ R.cells) (hsl : slots + 2752 ≤ R.slots) :
    ∃ (T' : State) (L : List Loc), Stand p l e R s m args below meth c T' (locs ++ L) (cells + 1) (slots + 2752) ∧ (∀ y ∈ L, y.base = a) ∧ Exa Z T'.heap a rc ∧ Fld Z T'.heap a tN "detailMessage" msgD v0 ∧
      Steps p.tables e below (T.setTop (mkF m pc Ls [.ref a])) (T'.setTop (mkF m (pc + 3) Ls [.ref a])) := by
  have hT0 : ThS Z s.heap := ThS.ext hO.2 ThS.start
  have W : ∀ d ∈ thX rc, d.before #[] s = true := fun d hd => mvX hT0 hZ (List.all_eq_true.mp (thX_ok rc) d hd) (hw d hd)
  have A : ∀ {c : Jvm.Cond} (i : Nat), (thX rc)[i]? = some c → c.holds #[] s none s [] = true := fun i q => W _ (List.mem_of_getElem? q)
  have B : ∀ {c : Jvm.Cond} (i : Nat), (thX rc)[i]? = some c → c.before #[] s = true := fun i q => W _ (List.mem_of_getElem? q)
  have htr : e.platform.stackTraces = true := by rw [Y.admits.platform]; exact hl
  have howns : e.platform.frameOwnsMonitors = true := by rw [Y.admits.platform]
  have hfin : e.platform.finalization = false := by rw [Y.admits.platform]
  have hpl : e.platform.magicAccessors = ({} : Platform).magicAccessors := by rw [Y.admits.platform]
  obtain ⟨TT, L, hfT, hfF, hf0, hfS, hfU⟩ := links9 (args := #[]) howns hfin hpl (fun c hc => W c hc)
  obtain ⟨cell, kc, h1, h2, h3, h4, h5⟩ := E
  obtain ⟨_, u1, u2, u3⟩ := N
  cases h1.symm.trans u1
  obtain ⟨_, _, i1, i2, i3, -⟩ := Cond.instantiable_spec wi
  cases h2.symm.trans i1
  cases h3.symm.trans i2
  have hal : Z.vm.Alike s.vm := hZ.alike
  obtain ⟨k', q1, q2⟩ := hal.2.2 _ _ h3
  have hfound : s.vm.findClass rc = some cell.cls := by rw [hal.findClass]; exact h2
  have hord : k'.kind = .ordinary := by rw [q2]; exact i3
  have hsz : cell.slots.size = k'.instanceTypes.size := by rw [q2]; exact h5 i3
  have hcell : T.heap[a]? = some cell := by rw [eT]; exact h1
  obtain ⟨j198, i198, fB, b1, b2, b3, b4, -, bn, bt, bf⟩ := Cond.ownField (t := .object "java/lang/Object") hfT L.cls (by decide +kernel) (A 25 rfl) (A 26 rfl) e.platform hpl
  obtain ⟨_, _, _, _, iD, fD, -, -, hffD, hstD, -⟩ := Cond.lays_spec (A 30 rfl)
  cases Option.some.inj ((Cond.lays_declared (A 30 rfl) hffD).symm.trans hfT)
  obtain ⟨hkD, hatD⟩ := State.fieldFound?_spec hffD
  cases Option.some.inj (hkD.symm.trans L.cls)
  obtain ⟨hnD, htD⟩ := State.fieldFound?_type hffD (t := .int) (by decide +kernel)
  have hfb := Cond.soleField_find hfT L.cls (A 28 rfl) b3 bn b4
  have hfd := Cond.soleField_find hfT L.cls (A 29 rfl) hatD hnD hstD
  obtain ⟨comp, cO, kO, -, -, hkO, hkindO, hO'⟩ := Cond.arrayOver_spec (B 27 rfl)
  obtain ⟨tyS, -⟩ := Cond.laysAt hfound q1 hfS (A 14 rfl)
  obtain ⟨tyB, -⟩ := Cond.laysAt hfound q1 bf (A 26 rfl)
  obtain ⟨tyD, -⟩ := Cond.laysAt hfound q1 hffD (A 30 rfl)
  have tk : ∀ {f : Field} {v : Value}, k'.instanceTypes[f.slot]? = some f.type → fits f.type v = true → Jvm.Takes s cell f v := fun {f v} z1 z2 => by
    obtain ⟨r1, r2⟩ := Takes.of_laid (v := v) q1 hord z1 z2
    exact ⟨by rw [hsz]; simpa using r1, by rw [u2]; exact r2⟩
  have tS := (State.fieldFound?_type hfS (t := .array (.object "java/lang/StackTraceElement")) (by decide +kernel)).2
  obtain ⟨_, _, _, _, fs, g1, g2, -, -, -, -, g7⟩ := FS
  cases h1.symm.trans g1
  obtain ⟨_, g3, -⟩ := State.fieldFound?_setVm (s := Z) hal g2
  have eS : fs = TT.fStack := by
    have z := Option.some.inj ((show s.fieldFound? tN "stackTrace" steD = _ from g3).symm.trans hfS)
    simp only [Prod.mk.injEq] at z; exact z.2.2.2
  subst eS
  obtain ⟨_, _, _, _, fb, k1, k2, -, -, -, -, k7⟩ := FB
  cases h1.symm.trans k1
  obtain ⟨_, k3, -⟩ := State.fieldFound?_setVm (s := Z) hal k2
  have eB : fb = fB := by
    have z := Option.some.inj ((show s.fieldFound? tN "backtrace" obD = _ from k3).symm.trans bf)
    simp only [Prod.mk.injEq] at z; exact z.2.2.2
  subst eB
  obtain ⟨_, _, kU, fU, sU, cellS, o1, o2, o3, o4, o5, o6, o7⟩ := SU
  obtain ⟨kU', o8, o9⟩ := State.fieldFound?_setVm (s := Z) hal o1
  have zU := Option.some.inj ((show s.fieldFound? tN "UNASSIGNED_STACK" steD = _ from o8).symm.trans hfU)
  simp only [Prod.mk.injEq] at zU
  obtain ⟨-, eK, -, eU⟩ := zU
  have eA : sU = TT.aS := by
    have z : kU'.statics = some sU := by rw [o9]; exact o4
    rw [eK] at z; exact Option.some.inj (z.symm.trans L.statics)
  subst eU
  have hlt : sU < Z.heap.size := (Array.getElem?_eq_some_iff.mp o5).1
  have hneS : TT.aS ≠ a := by rw [← eA]; exact Nat.ne_of_lt (Nat.lt_of_lt_of_le (by rw [← hO.1]; exact hlt) hna)
  have hcS : T.heap[TT.aS]? = some cellS := by rw [eT, ← eA]; exact hOh.2.2 _ _ o5
  have hsel0 : selectMethod e.platform s.vm cell.cls TT.fill0 = .method TT.fill0 := by
    obtain ⟨c2, r2, m2, w1, w2, w3, w4, -⟩ := Cond.selects_spec (A 23 rfl)
    cases Option.some.inj (w1.symm.trans hfound)
    cases Option.some.inj (w2.symm.trans (State.methodFound?_of_named hf0 (by decide)))
    cases Option.some.inj (w3.symm.trans hf0)
    rw [Launch.admits_selectMethod Y.admits]; exact w4
  have fR : ∀ {t : FieldType} {v : Value}, t.isReference = true → v.isRef = true → fits t v = true := fun {t v} z1 z2 => fitR z2 z1
  obtain ⟨v6, vm6, ⟨T6, L6, c6, n6⟩, hW6, X6, ⟨hv6, C6, n, hn, hD6, r1, r2, r3, r4, hL6, hc6, hn6⟩, come⟩ := Y.virtualBack hx (own := tN) (C := rc) (index := 27) (y := tFill) (z := tFill) hown (B 9 rfl) (B 22 rfl) (notFace_of_selects (B 24 rfl)) (B 24 rfl) (B 2 rfl) (by decide)
    (fillPaysAny (l := l) (W := 0) hx htr TT L hfF (u0 := ⟨u, hu⟩) (self := a) (cell := cell) (cellS := cellS) (fun _ => by rw [u2]; simp) (by rw [u2]; simp) (by rw [u3]) (by rw [u3]) g7 hsel0 hneS (fun z => by rw [z] at o6; cases o6) o7 (tk tyS (fR (by rw [tS]; rfl) hu))
      ⟨{ ci198 := j198, i198 := i198, fBack := fb }, ⟨b1, b2, b3, b4⟩, k7⟩ hTK hBelow hfT hO' hkO hkindO hfb hfd (fun x => tk tyB (by rw [bt]; rfl)) (fun x => tk tyD (by rw [htD]; rfl)) (by omega) (by omega))
    (b := a) (cB := cell.cls) hfound ⟨cell, hcell, rfl, by rw [u2]; rfl⟩ (g := mkF m pc Ls [.ref a]) rfl hsize (Steps.refl _) (argsL := []) (rest := []) (lenOf pdFill rfl) rfl (by show 2 * 0 + 0 ≤ 0; decide) hd (fun vmx hWx => ⟨rfl, hc, hsl, hcell, hcS⟩)
  dsimp only [Pt.U, Pt.locs, Pt.cells, Pt.slots] at X6 hD6 hL6 hc6 hn6 come
  subst hv6 hL6 hc6 hn6
  obtain ⟨_, cM, kM, iM, fM, m1, m2, m3, m4, m5, m6, m7⟩ := FM
  cases h1.symm.trans m1
  obtain ⟨_, m8, -⟩ := State.fieldFound?_setVm (s := Z) hal m2
  have m8' : s.fieldFound? tN "detailMessage" msgD = _ := m8
  have aB := apart (A 21 rfl) (A 26 rfl) m8' bf (t := .object "java/lang/String") (t' := .object "java/lang/Object") (by decide +kernel) (by decide +kernel) (by decide)
  have aD := apart (A 21 rfl) (A 30 rfl) m8' hffD (t := .object "java/lang/String") (t' := .int) (by decide +kernel) (by decide +kernel) (by decide)
  have aS := apart (A 21 rfl) (A 14 rfl) m8' hfS (t := .object "java/lang/String") (t' := .array (.object "java/lang/StackTraceElement")) (by decide +kernel) (by decide +kernel) (by decide)
  refine ⟨T6, _, X6.mono (Nat.le_refl _) (Nat.add_le_add_left hn _), fun y hy => ?_, ⟨C6, kc, hD6, by rw [r1]; exact h2, by rw [r1]; exact h3, by rw [r2]; exact h4, fun z => by rw [r3]; exact h5 z⟩,
    ⟨C6, cM, kM, iM, fM, hD6, m2, m3, by rw [r2]; exact m4, by rw [r2]; exact m5, by rw [r1]; exact m6, by rw [r4 _ aB aD aS]; exact m7⟩, come⟩
  simp only [List.mem_cons, List.not_mem_nil, or_false] at hy
  rcases hy with rfl | rfl | rfl <;> rfl
/-- a constructor by a contract that asks known frames -/
theorem Wd.callcK (X : Wd p l e R s m args below meth c Z a0 EL own n0 SA0 SA T h cells slots) (hK : s.vm.MethodsKnown ∧ s.vm.FramesKnown below) (argsL rest : List Value) {idx : Nat} (ct : CtK l Z EL [] y bytes maxL none rm (.ref a :: argsL).toArray h n0 SA' Q0) (hy1 : y.name = "<init>") (w1 : (Jvm.Cond.methodLink own idx y).before a0 Z = true) (w2 : (Jvm.Cond.instanceMethod y).before a0 Z = true) (w3 : (Jvm.Cond.initialized y.cls).before a0 Z = true) (w4 : (Jvm.Cond.code y bytes maxL none).before a0 Z = true)
    (hy : y.cls ≠ "java/lang/invoke/MethodHandle" ∧ y.cls ≠ "java/lang/invoke/VarHandle") (hsub : ∀ x ∈ SA', x ∈ SA) (hf : rm.frames + 1 ≤ R.frames) (W : Nat) (hl : W + (maxL + 11) + rm.locals ≤ R.locals) (hcl : cells + rm.cells ≤ R.cells) (hsl : slots + rm.slots ≤ R.slots)
    (hlen : ∀ sig, parseMethodDescriptor y.desc = some sig → argsL.length = sig.parameters.length) (hst : st = argsL.reverse ++ .ref a :: rest) (hW : (rest.map fun v => v.category).sum ≤ W) (hsize : Ls.size = c.maxLocals) (hd : decode c.code pc = .ok (.invokespecial idx, 3))
    (k : ∀ (T' : State) (h' : Heap) (v : Option Value), Wd p l e R s m args below meth c Z a0 EL own n0 SA0 SA T' h' (cells + rm.cells) (slots + rm.slots) → Keep h h' SA' → Q0 v h' → Goes p.tables e below Q (T'.setTop (mkF m (pc + 3) Ls (v.toList ++ rest)))) : Goes p.tables e below Q (T.setTop (mkF m pc Ls st)) := by
  obtain ⟨vm0, locs, k0, Y, eT, hS, hk, hZ, hown, hC, N, O, K, S, hEL, hx⟩ := X
  obtain ⟨k1, k2⟩ := knownAt hS.1 hK
  obtain ⟨v, vm1, ⟨T', L', c', s'⟩, -, Y', h2, hg, ⟨L, ⟨q0, q1, q2, q3⟩, rfl, rfl, rfl, A⟩, st'⟩ := Y.specialBackS hx hy1 hown (mvT hZ w1) (mvT hZ w2) (mvT hZ w4) hy (ct.back (a0 := a0) (W := W) (len := 3) hZ w4 w3 hf hl hEL hC.1 O (fun x q => ⟨(S x (hsub x q)).1, (S x (hsub x q)).2.1, (S x (hsub x q)).2.2.1⟩) k1 k2)
    (g := mkF m pc Ls st) rfl hsize (Steps.refl _) (a := a) (argsL := argsL) (rest := rest) hlen hst (by show 2 * 0 + _ ≤ _; omega) hd (fun _ _ => ⟨rfl, eT, hcl, hsl⟩)
  exact Goes.aft st' (k T' T'.heap v (callN hS hk hZ hown hC N K S hEL hx Y' h2 (by rw [← eT]; exact hg) q1 q2 q3 hsub A) q3 q0)
abbrev thI : MethodName := ⟨"java/lang/Throwable", "<init>", "(Ljava/lang/String;)V"⟩
/-- Throwable(String) on a fresh object of class rc -/
theorem ctThr (l : Launch) (Z : State) (a0 : Array Value) (EL : List (String × Nat)) (hEL : EW Z a0 EL) (hl : l.stackTraces = true) {rc : String} {nn : Nat} {u sv : Value} (hw : ∀ d ∈ thX rc, d.before a0 Z = true) (wi : (Jvm.Cond.instantiable rc nn).before a0 Z = true) (wM : (Jvm.Cond.fieldLink tN 31 tN "detailMessage" msgD).before a0 Z = true)
    (hu : u.isRef = true) (hv : sv.isRef = true) (SU : Sta Z Z.heap tN "UNASSIGNED_STACK" steD u) (SS : Sta Z Z.heap tN "SUPPRESSED_SENTINEL" listD sv) (bytes : ByteArray)
    (D0 : decode bytes 0 = .ok (.aload_n 0, 1)) (D1 : decode bytes 1 = .ok (.invokespecial 1, 3)) (D4 : decode bytes 4 = .ok (.aload_n 0, 1)) (D5 : decode bytes 5 = .ok (.aload_n 0, 1)) (D6 : decode bytes 6 = .ok (.putfield 7, 3)) (D9 : decode bytes 9 = .ok (.aload_n 0, 1)) (D10 : decode bytes 10 = .ok (.getstatic 13, 3)) (D13 : decode bytes 13 = .ok (.putfield 17, 3)) (D16 : decode bytes 16 = .ok (.aload_n 0, 1)) (D17 : decode bytes 17 = .ok (.getstatic 20, 3)) (D20 : decode bytes 20 = .ok (.putfield 24, 3)) (D23 : decode bytes 23 = .ok (.aload_n 0, 1)) (D24 : decode bytes 24 = .ok (.invokevirtual 27, 3)) (D27 : decode bytes 27 = .ok (.pop, 1)) (D28 : decode bytes 28 = .ok (.aload_n 0, 1)) (D29 : decode bytes 29 = .ok (.aload_n 1, 1)) (D30 : decode bytes 30 = .ok (.putfield 31, 3)) (D33 : decode bytes 33 = .ok (.return_, 1))
    (a : Addr) (msg : Value) (hmsg : msg.isRef = true) (h0 : Heap) (n0 : Nat) (E : Exa Z h0 a rc) (N : Unt h0 a) (F1 : Fld Z h0 a tN "cause" thD .null) (F2 : Fld Z h0 a tN "stackTrace" steD .null) (F3 : Fld Z h0 a tN "suppressedExceptions" listD .null) (F4 : Fld Z h0 a tN "backtrace" obD .null) (F5 : Fld Z h0 a tN "detailMessage" msgD .null) :
    CtK l Z EL [] thI bytes 2 none ({ frames := 3, cells := 1, slots := 2752, locals := 42 } : Room) #[.ref a, msg] h0 n0 [a] (fun v h => v = none ∧ Exa Z h a rc ∧ Fld Z h a tN "detailMessage" msgD msg) := by
  have B : ∀ {c : Jvm.Cond} (i : Nat), (thX rc)[i]? = some c → c.before a0 Z = true := fun i q => hw _ (List.mem_of_getElem? q)
  refine MetFree.of_bodySF (plainFor_of_name (by first | (simp [plainName, overriddenIn]; done) | decide +kernel)) hisR ?_
  intro p e s m args below meth c s₁ Bd hml0 hP hK
  obtain ⟨rfl, hZ, rfl, H, O, S⟩ := hP
  have Y : Stand p l e ({ frames := 3, cells := 1, slots := 2752, locals := 42 } : Room) s m #[.ref a, msg] below meth c s₁ [] 0 0 := Stand.of_body Bd
  have eT : s₁.heap = s.heap := by rw [Bd.state]; rfl
  have hx := Bd.exec
  have hown : s.vm.findClass tN = some m.cls := findClass_of_methodNamed Bd.named
  have hS := S a (List.mem_singleton.mpr rfl)
  have hml : c.maxLocals = 2 := hml0
  have Dc : ∀ {pc : Nat} {r : Except DecodeError (Instr × Nat)}, decode bytes pc = r → decode c.code pc = r := fun q => hb Bd.bytes q
  have hret : meth.sig.returnType = none := Bd.returns
  suffices g : Goes p.tables e below (Endq Z EL s n0 [a] ({ frames := 3, cells := 1, slots := 2752, locals := 42 } : Room) (fun v h => v = none ∧ Exa Z h a rc ∧ Fld Z h a tN "detailMessage" msgD msg)) (s₁.setTop (entryFrame m #[.ref a, msg] 2)) by
    obtain ⟨s₂, o, h1, h2, h3, v, L, h4, h5, h6, h7⟩ := g
    exact ⟨s₂, o, h1, h2, h3, v, L, h4, h5, h6, h7⟩
  rw [show entryFrame m #[.ref a, msg] 2 = mkF m 0 #[.val (.ref a), .val msg] [] from by cases msg <;> first | rfl | (simp [Value.isRef] at hmsg; done)]
  have nil0 : ∀ y ∈ ([] : List Loc), y.base = a := fun _ q => nomatch q
  have R0 := fun {T : State} {locs : List Loc} {cells slots : Nat} (Y : Stand p l e ({ frames := 3, cells := 1, slots := 2752, locals := 42 } : Room) s m #[.ref a, msg] below meth c T locs cells slots) (hL : ∀ y ∈ locs, y.base = a) => reWd (a0 := a0) (own := tN) Y hL hZ hown H O hS hEL hx
  have one : ∀ {locs : List Loc} {k : Nat}, (∀ y ∈ locs, y.base = a) → ∀ y ∈ locs ++ [⟨a, k⟩], y.base = a := fun hL y q => by
    rcases List.mem_append.mp q with q | q
    · exact hL y q
    · rw [List.mem_singleton.mp q]
  refine (R0 Y nil0).aloadN (x := (.ref a)) (Dc D0) rfl rfl ?_
  obtain ⟨T1, Y1, e1, st1⟩ := initO Y hx hZ hown (B 8 rfl) (B 6 rfl) (B 7 rfl) eT (g := mkF m 1 #[.val (.ref a), .val msg] [.ref a]) rfl (by rw [hml]; rfl) (rest := []) rfl (Dc D1) (by decide) (W := 0) (by show 2 * 0 + 0 ≤ 0; decide) (by decide)
  refine Goes.via st1 ?_
  show Goes p.tables e below _ (T1.setTop (mkF m 4 #[.val (.ref a), .val msg] []))
  refine (R0 Y1 nil0).aloadN (x := (.ref a)) (Dc D4) rfl rfl ?_
  refine (R0 Y1 nil0).aloadN (x := (.ref a)) (Dc D5) rfl rfl ?_
  obtain ⟨T2, h2, Y2, e2, W2, st2⟩ := putF Y1 hx hZ hown (host := "") (Or.inl (B 11 rfl)) Via.refl e1 F1 E (Or.inl (B 12 rfl)) wi (ty := .object tN) (by decide +kernel) rfl rfl (g := mkF m 6 #[.val (.ref a), .val msg] [.ref a, .ref a]) rfl (rest := []) rfl (Dc D6)
  refine Goes.via st2 ?_
  show Goes p.tables e below _ (T2.setTop (mkF m 9 #[.val (.ref a), .val msg] []))
  have L2 := one (k := Jvm.RoadKit.slotOf Z tN "cause" thD) nil0
  have hOa : ∀ {hh : Heap}, Ext Z.heap hh → Old Z n0 hh := fun q => ⟨O.1, q⟩
  have X2 := R0 Y2 L2
  refine X2.aloadN (x := (.ref a)) (Dc D9) rfl rfl ?_
  obtain ⟨T3, Y3, e3, st3⟩ := getS (host := "") Y2 hx hZ hown (B 17 rfl) Via.refl e2 (Sta.ext (by rw [← e2]; exact X2.old.2) SU) (g := mkF m 10 #[.val (.ref a), .val msg] [.ref a]) rfl (Dc D10)
  refine Goes.via st3 ?_
  have hl1 : ∀ {n d n' d' : String} {t t' : FieldType}, (Jvm.Cond.lays rc tN n d).before a0 Z = true → (Jvm.Cond.lays rc tN n' d').before a0 Z = true → n ≠ n' → parseFieldDescriptor d = some t → parseFieldDescriptor d' = some t' → Jvm.RoadKit.slotOf Z tN n d ≠ Jvm.RoadKit.slotOf Z tN n' d' := fun w w' q t1 t2 => slot_ne (Or.inl w) (Or.inl w') q t1 t2
  obtain ⟨T4, h4, Y4, e4, W4, st4⟩ := putF Y3 hx hZ hown (host := "") (Or.inl (B 13 rfl)) Via.refl e3 (F2.other W2 (Or.inr (hl1 (t := .array (.object "java/lang/StackTraceElement")) (t' := .object tN) (B 14 rfl) (B 12 rfl) (by decide) (by decide +kernel) (by decide +kernel)))) (E.wr W2) (Or.inl (B 14 rfl)) wi (ty := .array (.object "java/lang/StackTraceElement")) (by decide +kernel) (narR hu) (fitR hu) (g := mkF m 13 #[.val (.ref a), .val msg] [u, .ref a]) rfl (rest := []) rfl (Dc D13)
  refine Goes.via st4 ?_
  show Goes p.tables e below _ (T4.setTop (mkF m 16 #[.val (.ref a), .val msg] []))
  have L4 := one (k := Jvm.RoadKit.slotOf Z tN "stackTrace" steD) L2
  have X4 := R0 Y4 L4
  refine X4.aloadN (x := (.ref a)) (Dc D16) rfl rfl ?_
  obtain ⟨T5, Y5, e5, st5⟩ := getS (host := "") Y4 hx hZ hown (B 19 rfl) Via.refl e4 (Sta.ext (by rw [← e4]; exact X4.old.2) SS) (g := mkF m 17 #[.val (.ref a), .val msg] [.ref a]) rfl (Dc D17)
  refine Goes.via st5 ?_
  have G3 := (F3.other W2 (Or.inr (hl1 (t := .object "java/util/List") (t' := .object tN) (B 16 rfl) (B 12 rfl) (by decide) (by decide +kernel) (by decide +kernel)))).other W4 (Or.inr (hl1 (t := .object "java/util/List") (t' := .array (.object "java/lang/StackTraceElement")) (B 16 rfl) (B 14 rfl) (by decide) (by decide +kernel) (by decide +kernel)))
  obtain ⟨T6, h6, Y6, e6, W6, st6⟩ := putF Y5 hx hZ hown (host := "") (Or.inl (B 15 rfl)) Via.refl e5 G3 ((E.wr W2).wr W4) (Or.inl (B 16 rfl)) wi (ty := .object "java/util/List") (by decide +kernel) (narR hv) (fitR hv) (g := mkF m 20 #[.val (.ref a), .val msg] [sv, .ref a]) rfl (rest := []) rfl (Dc D20)
  refine Goes.via st6 ?_
  show Goes p.tables e below _ (T6.setTop (mkF m 23 #[.val (.ref a), .val msg] []))
  have L6 := one (k := Jvm.RoadKit.slotOf Z tN "suppressedExceptions" listD) L4
  have X6 := R0 Y6 L6
  refine X6.aloadN (x := (.ref a)) (Dc D23) rfl rfl ?_
  have E6 := ((E.wr W2).wr W4).wr W6
  have S6 := ((F2.other W2 (Or.inr (hl1 (t := .array (.object "java/lang/StackTraceElement")) (t' := .object tN) (B 14 rfl) (B 12 rfl) (by decide) (by decide +kernel) (by decide +kernel)))).same W4).other W6 (Or.inr (hl1 (t := .array (.object "java/lang/StackTraceElement")) (t' := .object "java/util/List") (B 14 rfl) (B 16 rfl) (by decide) (by decide +kernel) (by decide +kernel)))
  have B6 := ((F4.other W2 (Or.inr (hl1 (t := .object "java/lang/Object") (t' := .object tN) (B 26 rfl) (B 12 rfl) (by decide) (by decide +kernel) (by decide +kernel)))).other W4 (Or.inr (hl1 (t := .object "java/lang/Object") (t' := .array (.object "java/lang/StackTraceElement")) (B 26 rfl) (B 14 rfl) (by decide) (by decide +kernel) (by decide +kernel)))).other W6 (Or.inr (hl1 (t := .object "java/lang/Object") (t' := .object "java/util/List") (B 26 rfl) (B 16 rfl) (by decide) (by decide +kernel) (by decide +kernel)))
  have M6 := ((F5.other W2 (Or.inr (hl1 (t := .object "java/lang/String") (t' := .object tN) (B 21 rfl) (B 12 rfl) (by decide) (by decide +kernel) (by decide +kernel)))).other W4 (Or.inr (hl1 (t := .object "java/lang/String") (t' := .array (.object "java/lang/StackTraceElement")) (B 21 rfl) (B 14 rfl) (by decide) (by decide +kernel) (by decide +kernel)))).other W6 (Or.inr (hl1 (t := .object "java/lang/String") (t' := .object "java/util/List") (B 21 rfl) (B 16 rfl) (by decide) (by decide +kernel) (by decide +kernel)))
  have U6 := ((N.wr W2).wr W4).wr W6
  obtain ⟨T7, L7, Y7, hL7, E7, M7, st7⟩ := fillS Y6 hx hl hZ hown hK.1 hK.2 O (by have q := X6.old; rw [e6] at q; exact q) hw wi e6 E6 U6 S6 hu SU B6 M6 hS.2.2 (Ls := #[.val (.ref a), .val msg]) (by rw [hml]; rfl) (Dc D24) (by decide) (by decide) (by decide) (by decide)
  refine Goes.aft st7 ?_
  have X7 := R0 Y7 (fun y q => by
    rcases List.mem_append.mp q with q | q
    · exact L6 y q
    · exact hL7 y q)
  refine X7.pop (Dc D27) rfl ?_
  refine X7.aloadN (x := (.ref a)) (Dc D28) rfl rfl ?_
  refine X7.aloadN (x := msg) (Dc D29) rfl hmsg ?_
  refine X7.putf wM Via.refl M7 E7 (Or.inl (B 21 rfl)) wi (ty := .object "java/lang/String") (by decide +kernel) (narR hmsg) (fitR hmsg) (Dc D30) (List.mem_singleton.mpr rfl) ?_
  intro T8 h8 X8 W8
  exact X8.retn hret (BodyLoose.notSynchronized Bd) (Dc D33) (by decide) (by decide) ⟨rfl, E7.wr W8, M7.same W8⟩
end Wide
end Own
end Jvm.Pilot.@@N@@
namespace Jvm.Pilot.@@N@@
open Jvm Jvm.ClassFile Sem Op Lib Jvm.Free Jvm.Stand Jvm.LawKit Jvm.RoadKit Bundle Jvm.Pilot.@@N@@.Jvm.D
open Own
theorem hEL_of {Z : State} {a0 : Array Value} (hw : ∀ d ∈ tables_1, d.before a0 Z = true) : EW Z a0 consts_1 := (EW.cons (hw _ (List.mem_of_getElem? (i := 55) rfl)) (by decide) (EW.cons (hw _ (List.mem_of_getElem? (i := 128) rfl)) (by decide) EW.nil))
theorem hwsV : ∀ d ∈ StrChars.Road.words, d ∈ tables_1 := by decide +kernel
theorem hwsE : ∀ d ∈ StrChars.Road.wordsEq, d ∈ tables_1 := by decide +kernel
theorem hwS : ∀ d ∈ Bundle.stringAtoms, d ∈ tables_1 := by decide +kernel
theorem hwX : ∀ d ∈ thX "java/lang/IllegalArgumentException", d ∈ tables_1 := by decide +kernel
theorem knowsT {s : State} (h : tablesKnown s = true) : s.vm.MethodsKnown := fun m x hm => by
  obtain ⟨k, hk, hx⟩ : ∃ k, s.vm.classes[m.cls]? = some k ∧ k.methods[m.idx]? = some x := by
    simpa [Vm.method?, Option.bind_eq_some_iff] using hm
  refine ⟨k, hk, fun cf hcf => ?_⟩
  obtain ⟨hi, rfl⟩ := Array.getElem?_eq_some_iff.mp hk
  have q := (Array.all_eq_true_iff_forall_mem.mp h) _ (Array.getElem_mem hi)
  rw [hcf] at q
  have q2 : (s.vm.classes[m.cls]).methods.size = cf.methods.size := by simpa using q
  have q3 := (Array.getElem?_eq_some_iff.mp hx).1
  have q4 : m.idx < cf.methods.size := by omega
  rw [Array.getElem?_eq_getElem q4]; rfl
theorem knowsF {s : State} {fs : List Frame} (h : framesKnown s = true) (hs : ∀ f ∈ fs, f ∈ s.frames) : s.vm.FramesKnown fs := fun y hy m' hm => by
  have q := List.all_eq_true.mp h y (hs y hy)
  have r : methodKnown s.vm m' = true := by
    cases y <;> simp [frameMethod?] at hm <;> (subst hm; exact q)
  unfold methodKnown at r
  cases hk : s.vm.classes[m'.cls]? with
  | none => simp [hk] at r
  | some k =>
    refine ⟨k, hk, fun cf hcf => ?_⟩
    simp only [hk, hcf] at r
    exact r
theorem slice0 {L : List Value} {n : Nat} {d : Value} (h : L.length = n) : L = (List.range n).map fun i => L.getD (0 + i) d := by
  apply List.ext_getElem
  · simp [h]
  · intro i h1 h2
    simp [List.getD_eq_getElem?_getD, h1]
theorem mlen {cs : List Int32} {n : Nat} (h : cs.length = n) : ((cs.map StrChars.lo8).map Value.int).length = n := by simp [h]
theorem clen {vd us : List Value} {k n N : Nat} (h : vd.length = N) (hu : us.length = n) (hk : k + n ≤ N) : (vd.take k ++ us ++ vd.drop (k + n)).length = N := by simp [h, hu]; omega
theorem d12_0 : decode jdk_42_method_152_code 0 = .ok (.getstatic 38, 3) := by decide +kernel
theorem d12_3 : decode jdk_42_method_152_code 3 = .ok (.ifCond .eq 10, 3) := by decide +kernel
theorem d12_6 : decode jdk_42_method_152_code 6 = .ok (.aload_n 0, 1) := by decide +kernel
theorem d12_7 : decode jdk_42_method_152_code 7 = .ok (.getfield 15, 3) := by decide +kernel
theorem d12_10 : decode jdk_42_method_152_code 10 = .ok (.goto 4, 3) := by decide +kernel
theorem d12_13 : decode jdk_42_method_152_code 13 = .ok (.iconst 1, 1) := by decide +kernel
theorem d12_14 : decode jdk_42_method_152_code 14 = .ok (.ireturn, 1) := by decide +kernel
theorem pn_0 : plainName "java/lang/String" = true := by first | (simp [plainName, overriddenIn]; done) | decide +kernel
set_option maxRecDepth 65536 in
set_option maxHeartbeats 40000000 in
theorem ctCdr (l : Launch) (Z : State) (a0 : Array Value) (hw : ∀ d ∈ tables_1, d.before a0 Z = true) (hEL : EW Z a0 consts_1) (z0 : Int32) (S0 : Sta Z Z.heap "java/lang/String" "COMPACT_STRINGS" "Z" (.int z0)) (hz0 : ¬ z0 = 0) (s : Addr) (h0 : Heap) (n0 : Nat) (F0 : Fld Z h0 s "java/lang/String" "coder" "B" (.int (0 : Int32))) :
    Ct l Z consts_1 [] (⟨"java/lang/String", "coder", "()B"⟩ : MethodName) jdk_42_method_152_code 1 (some .byte) ({ frames := 0, cells := 0, slots := 0, locals := 0 } : Room) #[(.ref s)] h0 n0 [] (fun v _ => v = some (.int 0)) := by
  have w : ∀ {d : Jvm.Cond} (i : Nat), tables_1[i]? = some d → d.before a0 Z = true := fun i q => hw _ (List.mem_of_getElem? q)
  refine Ct.enter (plainFor_of_name pn_0) hEL ?_
  intro p e sS m below meth c T0 hby hml0 hret hlk hnm hs0 X0
  have hml : c.maxLocals = 1 := hml0
  have D : ∀ {pc : Nat} {r : Except DecodeError (Instr × Nat)}, decode jdk_42_method_152_code pc = r → decode c.code pc = r := fun q => hb hby q
  rw [show entryFrame m #[(.ref s)] 1 = mkF m 0 #[.val (.ref s)] [] from by first | (simp [entryFrame, mkF, argsToLocals, Value.category]; done) | rfl]
  refine X0.gets (w 14 rfl) Via.refl (Sta.ext X0.old.2 S0) (D d12_0) ?_
  intro T1 X2
  show Goes p.tables e below _ (T1.setTop (mkF m 3 #[.val (.ref s)] [(.int z0)]))
  refine X2.if_eq 13 (D d12_3) ⟨by decide, by decide⟩ (fun hc => (hz0 hc).elim) (fun hn3 => ?_)
  refine X2.aloadN (x := (.ref s)) (D d12_6) rfl rfl ?_
  refine X2.getf (w 26 rfl) Via.refl F0 (D d12_7) ?_
  intro T4 X5
  show Goes p.tables e below _ (T4.setTop (mkF m 10 #[.val (.ref s)] [(.int (0 : Int32))]))
  refine X5.goto 14 (D d12_10) ⟨by decide, by decide⟩ ?_
  exact X5.reti hret (by simp) hlk (D d12_14) (by decide) (by decide) (rfl)
theorem d8_0 : decode jdk_68_method_2_code 0 = .ok (.aload_n 0, 1) := by decide +kernel
theorem d8_1 : decode jdk_68_method_2_code 1 = .ok (.invokespecial 3, 3) := by decide +kernel
theorem d8_4 : decode jdk_68_method_2_code 4 = .ok (.getstatic 18, 3) := by decide +kernel
theorem d8_7 : decode jdk_68_method_2_code 7 = .ok (.ifCond .eq 18, 3) := by decide +kernel
theorem d8_10 : decode jdk_68_method_2_code 10 = .ok (.aload_n 0, 1) := by decide +kernel
theorem d8_11 : decode jdk_68_method_2_code 11 = .ok (.iload_n 1, 1) := by decide +kernel
theorem d8_12 : decode jdk_68_method_2_code 12 = .ok (.newarray .byte, 2) := by decide +kernel
theorem d8_14 : decode jdk_68_method_2_code 14 = .ok (.putfield 15, 3) := by decide +kernel
theorem d8_17 : decode jdk_68_method_2_code 17 = .ok (.aload_n 0, 1) := by decide +kernel
theorem d8_18 : decode jdk_68_method_2_code 18 = .ok (.iconst 0, 1) := by decide +kernel
theorem d8_19 : decode jdk_68_method_2_code 19 = .ok (.putfield 22, 3) := by decide +kernel
theorem d8_22 : decode jdk_68_method_2_code 22 = .ok (.goto 16, 3) := by decide +kernel
theorem d8_25 : decode jdk_68_method_2_code 25 = .ok (.aload_n 0, 1) := by decide +kernel
theorem d8_26 : decode jdk_68_method_2_code 26 = .ok (.iload_n 1, 1) := by decide +kernel
theorem d8_27 : decode jdk_68_method_2_code 27 = .ok (.invokestatic 26, 3) := by decide +kernel
theorem d8_30 : decode jdk_68_method_2_code 30 = .ok (.putfield 15, 3) := by decide +kernel
theorem d8_33 : decode jdk_68_method_2_code 33 = .ok (.aload_n 0, 1) := by decide +kernel
theorem d8_34 : decode jdk_68_method_2_code 34 = .ok (.iconst 1, 1) := by decide +kernel
theorem d8_35 : decode jdk_68_method_2_code 35 = .ok (.putfield 22, 3) := by decide +kernel
theorem d8_38 : decode jdk_68_method_2_code 38 = .ok (.return_, 1) := by decide +kernel
theorem pn_1 : plainName "java/lang/AbstractStringBuilder" = true := by first | (simp [plainName, overriddenIn]; done) | decide +kernel
set_option maxRecDepth 65536 in
set_option maxHeartbeats 40000000 in
theorem ctASB (l : Launch) (Z : State) (a0 : Array Value) (hw : ∀ d ∈ tables_1, d.before a0 Z = true) (hEL : EW Z a0 consts_1) (z0 : Int32) (S0 : Sta Z Z.heap "java/lang/String" "COMPACT_STRINGS" "Z" (.int z0)) (hz0 : ¬ z0 = 0) (a : Addr) (h0 : Heap) (n0 : Nat) (EB : Exa Z h0 a "java/lang/StringBuilder") (FV : Fld Z h0 a "java/lang/AbstractStringBuilder" "value" "[B" .null) (FC : Fld Z h0 a "java/lang/AbstractStringBuilder" "coder" "B" (.int (0 : Int32))) (FN : Fld Z h0 a "java/lang/AbstractStringBuilder" "count" "I" (.int (0 : Int32))) :
    CtF l Z consts_1 [] (⟨"java/lang/AbstractStringBuilder", "<init>", "(I)V"⟩ : MethodName) jdk_68_method_2_code 2 none ({ frames := 1, cells := 1, slots := 16, locals := 12 } : Room) #[(.ref a), (.int (16 : Int32))] h0 n0 [a] (fun v h F => ∃ (d : Addr) (kd : ClassId), v = none ∧ F = [d] ∧ Exa Z h a "java/lang/StringBuilder" ∧ Fld Z h a "java/lang/AbstractStringBuilder" "value" "[B" (.ref d) ∧ Fld Z h a "java/lang/AbstractStringBuilder" "coder" "B" (.int (0 : Int32)) ∧ Fld Z h a "java/lang/AbstractStringBuilder" "count" "I" (.int (0 : Int32)) ∧ Arv Z h d kd .byte (16 : Int32) ([(.int (0 : Int32)), (.int (0 : Int32)), (.int (0 : Int32)), (.int (0 : Int32)), (.int (0 : Int32)), (.int (0 : Int32)), (.int (0 : Int32)), (.int (0 : Int32)), (.int (0 : Int32)), (.int (0 : Int32)), (.int (0 : Int32)), (.int (0 : Int32)), (.int (0 : Int32)), (.int (0 : Int32)), (.int (0 : Int32)), (.int (0 : Int32))] : List Value) (.int 0)) := by
  have w : ∀ {d : Jvm.Cond} (i : Nat), tables_1[i]? = some d → d.before a0 Z = true := fun i q => hw _ (List.mem_of_getElem? q)
  refine CtF.enter (plainFor_of_name pn_1) hEL ?_
  intro p e sS m below meth c T0 hby hml0 hret hlk hnm hs0 X0
  have hml : c.maxLocals = 2 := hml0
  have D : ∀ {pc : Nat} {r : Except DecodeError (Instr × Nat)}, decode jdk_68_method_2_code pc = r → decode c.code pc = r := fun q => hb hby q
  rw [show entryFrame m #[(.ref a), (.int (16 : Int32))] 2 = mkF m 0 #[.val (.ref a), .val (.int (16 : Int32))] [] from by first | (simp [entryFrame, mkF, argsToLocals, Value.category]; done) | rfl]
  refine X0.aloadN (x := (.ref a)) (D d8_0) rfl rfl ?_
  refine X0.inito (w 49 rfl) (w 12 rfl) (w 13 rfl) (D d8_1) (by rw [hml]; rfl) (by decide) 0 (Nat.le_of_ble_eq_true rfl) (by decide) ?_
  intro T6 X7
  show Goes p.tables e below _ (T6.setTop (mkF m 4 #[.val (.ref a), .val (.int (16 : Int32))] []))
  refine X7.gets (w 50 rfl) Via.refl (Sta.ext X7.old.2 S0) (D d8_4) ?_
  intro T8 X9
  show Goes p.tables e below _ (T8.setTop (mkF m 7 #[.val (.ref a), .val (.int (16 : Int32))] [(.int z0)]))
  refine X9.if_eq 25 (D d8_7) ⟨by decide, by decide⟩ (fun hc => (hz0 hc).elim) (fun hn10 => ?_)
  refine X9.aloadN (x := (.ref a)) (D d8_10) rfl rfl ?_
  refine X9.iloadN (x := (16 : Int32)) (D d8_11) rfl ?_
  refine X9.newarr (w 19 rfl) (n := (16 : Int32)) (D d8_12) (by decide) 16 (by decide) (by decide) (by decide) (by decide) ?_
  intro T11 h12 b13 kb14 g15 X16 E17 A18
  have ge19 : sS.heap.size ≤ b13 := by rw [g15]; exact X9.kept.1
  have F20 := EB.ext E17
  have F21 := FV.ext E17
  have F22 := FC.ext E17
  have F23 := FN.ext E17
  have lt24 : a < b13 := by rw [g15]; exact EB.lt
  have F25 : Arv Z h12 b13 kb14 .byte (16 : Int32) [(.int (0 : Int32)), (.int (0 : Int32)), (.int (0 : Int32)), (.int (0 : Int32)), (.int (0 : Int32)), (.int (0 : Int32)), (.int (0 : Int32)), (.int (0 : Int32)), (.int (0 : Int32)), (.int (0 : Int32)), (.int (0 : Int32)), (.int (0 : Int32)), (.int (0 : Int32)), (.int (0 : Int32)), (.int (0 : Int32)), (.int (0 : Int32))] (.int (0 : Int32)) := A18.pad (pad_rep [] (.int (0 : Int32)) 16)
  show Goes p.tables e below _ (T11.setTop (mkF m 14 #[.val (.ref a), .val (.int (16 : Int32))] [(.ref b13), (.ref a)]))
  refine X16.putf (w 51 rfl) Via.refl F21 F20 (Or.inl (w 52 rfl)) (w 38 rfl) (ty := (.array .byte)) (by decide) rfl rfl (D d8_14) (by simp) ?_
  intro T26 h27 X28 W29
  have F30 := F21.same W29
  have F31 := F20.wr W29
  have F32 := F22.other W29 (Or.inr (slot_ne (t := .byte) (t' := (.array .byte)) (Or.inl (w 54 rfl)) (Or.inl (w 52 rfl)) (by decide) (by decide) (by decide)))
  have F33 := F23.other W29 (Or.inr (slot_ne (t := .int) (t' := (.array .byte)) (Or.inl (w 79 rfl)) (Or.inl (w 52 rfl)) (by decide) (by decide) (by decide)))
  have F34 := F25.other W29 (Nat.ne_of_gt lt24)
  show Goes p.tables e below _ (T26.setTop (mkF m 17 #[.val (.ref a), .val (.int (16 : Int32))] []))
  refine X28.aloadN (x := (.ref a)) (D d8_17) rfl rfl ?_
  refine X28.iconst (x := (0 : Int32)) (D d8_18) rfl ?_
  refine X28.putf (w 53 rfl) Via.refl F32 F31 (Or.inl (w 54 rfl)) (w 38 rfl) (ty := .byte) (by decide) rfl rfl (D d8_19) (by simp) ?_
  intro T35 h36 X37 W38
  have F39 := F32.same W38
  have F40 := F31.wr W38
  have F41 := F33.other W38 (Or.inr (slot_ne (t := .int) (t' := .byte) (Or.inl (w 79 rfl)) (Or.inl (w 54 rfl)) (by decide) (by decide) (by decide)))
  have F42 := F34.other W38 (Nat.ne_of_gt lt24)
  have F43 := F30.other W38 (Or.inr (slot_ne (t := (.array .byte)) (t' := .byte) (Or.inl (w 52 rfl)) (Or.inl (w 54 rfl)) (by decide) (by decide) (by decide)))
  show Goes p.tables e below _ (T35.setTop (mkF m 22 #[.val (.ref a), .val (.int (16 : Int32))] []))
  refine X37.goto 38 (D d8_22) ⟨by decide, by decide⟩ ?_
  exact X37.retnF [b13] (fun x q => by simp only [List.mem_cons, List.not_mem_nil, or_false] at q; rcases q with rfl <;> exact ⟨by simp, by assumption⟩) hret hlk (D d8_38) (by decide) (by decide) (⟨b13, _, rfl, rfl, F40, F43, F39, F41, F42⟩)
theorem d7_0 : decode jdk_67_method_1_code 0 = .ok (.aload_n 0, 1) := by decide +kernel
theorem d7_1 : decode jdk_67_method_1_code 1 = .ok (.bipush 16, 2) := by decide +kernel
theorem d7_3 : decode jdk_67_method_1_code 3 = .ok (.invokespecial 1, 3) := by decide +kernel
theorem d7_6 : decode jdk_67_method_1_code 6 = .ok (.return_, 1) := by decide +kernel
theorem pn_2 : plainName "java/lang/StringBuilder" = true := by first | (simp [plainName, overriddenIn]; done) | decide +kernel
theorem pd_0 : parseMethodDescriptor "(I)V" = some ⟨[.int], none⟩ := by decide +kernel
set_option maxRecDepth 65536 in
set_option maxHeartbeats 40000000 in
theorem ctSBi (l : Launch) (Z : State) (a0 : Array Value) (hw : ∀ d ∈ tables_1, d.before a0 Z = true) (hEL : EW Z a0 consts_1) (z0 : Int32) (S0 : Sta Z Z.heap "java/lang/String" "COMPACT_STRINGS" "Z" (.int z0)) (hz0 : ¬ z0 = 0) (a : Addr) (h0 : Heap) (n0 : Nat) (EB : Exa Z h0 a "java/lang/StringBuilder") (FV : Fld Z h0 a "java/lang/AbstractStringBuilder" "value" "[B" .null) (FC : Fld Z h0 a "java/lang/AbstractStringBuilder" "coder" "B" (.int (0 : Int32))) (FN : Fld Z h0 a "java/lang/AbstractStringBuilder" "count" "I" (.int (0 : Int32))) :
    CtF l Z consts_1 [] (⟨"java/lang/StringBuilder", "<init>", "()V"⟩ : MethodName) jdk_67_method_1_code 1 none ({ frames := 2, cells := 1, slots := 16, locals := 25 } : Room) #[(.ref a)] h0 n0 [a] (fun v h F => ∃ (d : Addr) (kd : ClassId), v = none ∧ F = [d] ∧ Exa Z h a "java/lang/StringBuilder" ∧ Fld Z h a "java/lang/AbstractStringBuilder" "value" "[B" (.ref d) ∧ Fld Z h a "java/lang/AbstractStringBuilder" "coder" "B" (.int (0 : Int32)) ∧ Fld Z h a "java/lang/AbstractStringBuilder" "count" "I" (.int (0 : Int32)) ∧ Arv Z h d kd .byte (16 : Int32) ([(.int (0 : Int32)), (.int (0 : Int32)), (.int (0 : Int32)), (.int (0 : Int32)), (.int (0 : Int32)), (.int (0 : Int32)), (.int (0 : Int32)), (.int (0 : Int32)), (.int (0 : Int32)), (.int (0 : Int32)), (.int (0 : Int32)), (.int (0 : Int32)), (.int (0 : Int32)), (.int (0 : Int32)), (.int (0 : Int32)), (.int (0 : Int32))] : List Value) (.int 0)) := by
  have w : ∀ {d : Jvm.Cond} (i : Nat), tables_1[i]? = some d → d.before a0 Z = true := fun i q => hw _ (List.mem_of_getElem? q)
  refine CtF.enter (plainFor_of_name pn_2) hEL ?_
  intro p e sS m below meth c T0 hby hml0 hret hlk hnm hs0 X0
  have hml : c.maxLocals = 1 := hml0
  have D : ∀ {pc : Nat} {r : Except DecodeError (Instr × Nat)}, decode jdk_67_method_1_code pc = r → decode c.code pc = r := fun q => hb hby q
  rw [show entryFrame m #[(.ref a)] 1 = mkF m 0 #[.val (.ref a)] [] from by first | (simp [entryFrame, mkF, argsToLocals, Value.category]; done) | rfl]
  refine X0.aloadN (x := (.ref a)) (D d7_0) rfl rfl ?_
  refine X0.bipush (x := (16 : Int32)) (D d7_1) rfl ?_
  refine X0.callcF (a := a) [(.int (16 : Int32))] [] (ctASB l Z a0 hw hEL z0 S0 hz0 a _ _ EB FV FC FN) rfl (w 43 rfl) (w 44 rfl) (w 47 rfl) (w 48 rfl) (by decide) (by simp) (by decide) 0 (by decide) (by decide) (by decide) (lenOf pd_0 rfl) rfl (Nat.le_of_ble_eq_true rfl) (by rw [hml]; rfl) (D d7_3) ?_
  rintro T44 h45 _ _ X47 K48 hg49 ⟨d, kd, rfl, rfl, E1, V1, C1, N1, A1⟩
  have F50 := EB.keep K48
  have fg51 := hg49 d (by simp)
  have ge52 : sS.heap.size ≤ d := Nat.le_trans X0.kept.1 fg51
  have lt53 : a < d := Nat.lt_of_lt_of_le EB.lt fg51
  show Goes p.tables e below _ (T44.setTop (mkF m 6 #[.val (.ref a)] []))
  exact X47.retnF [d] (fun x q => by simp only [List.mem_cons, List.not_mem_nil, or_false] at q; rcases q with rfl <;> exact ⟨by simp, by assumption⟩) hret hlk (D d7_6) (by decide) (by decide) (⟨d, _, rfl, rfl, E1, V1, C1, N1, A1⟩)
theorem d20_0 : decode jdk_68_method_71_code 0 = .ok (.getstatic 18, 3) := by decide +kernel
theorem d20_3 : decode jdk_68_method_71_code 3 = .ok (.ifCond .eq 18, 3) := by decide +kernel
theorem d20_6 : decode jdk_68_method_71_code 6 = .ok (.aload_n 0, 1) := by decide +kernel
theorem d20_7 : decode jdk_68_method_71_code 7 = .ok (.getfield 22, 3) := by decide +kernel
theorem d20_10 : decode jdk_68_method_71_code 10 = .ok (.aload_n 1, 1) := by decide +kernel
theorem d20_11 : decode jdk_68_method_71_code 11 = .ok (.invokevirtual 40, 3) := by decide +kernel
theorem d20_14 : decode jdk_68_method_71_code 14 = .ok (.if_icmp .eq 7, 3) := by decide +kernel
theorem d20_17 : decode jdk_68_method_71_code 17 = .ok (.aload_n 0, 1) := by decide +kernel
theorem d20_18 : decode jdk_68_method_71_code 18 = .ok (.invokevirtual 195, 3) := by decide +kernel
theorem d20_21 : decode jdk_68_method_71_code 21 = .ok (.return_, 1) := by decide +kernel
theorem pd_1 : parseMethodDescriptor "()B" = some ⟨[], (some .byte)⟩ := by decide +kernel
set_option maxRecDepth 65536 in
set_option maxHeartbeats 40000000 in
theorem ctInf (l : Launch) (Z : State) (a0 : Array Value) (hw : ∀ d ∈ tables_1, d.before a0 Z = true) (hEL : EW Z a0 consts_1) (z0 : Int32) (S0 : Sta Z Z.heap "java/lang/String" "COMPACT_STRINGS" "Z" (.int z0)) (hz0 : ¬ z0 = 0) (b d s : Addr) (h0 : Heap) (n0 : Nat) (EB : Exa Z h0 b "java/lang/StringBuilder") (FV : Fld Z h0 b "java/lang/AbstractStringBuilder" "value" "[B" (.ref d)) (FC : Fld Z h0 b "java/lang/AbstractStringBuilder" "coder" "B" (.int (0 : Int32))) (ES : Exa Z h0 s "java/lang/String") (F0 : Fld Z h0 s "java/lang/String" "coder" "B" (.int (0 : Int32))) :
    Ct l Z consts_1 [] (⟨"java/lang/AbstractStringBuilder", "inflateIfNeededFor", "(Ljava/lang/String;)V"⟩ : MethodName) jdk_68_method_71_code 2 none ({ frames := 1, cells := 0, slots := 0, locals := 13 } : Room) #[(.ref b), (.ref s)] h0 n0 [] (fun v _ => v = none) := by
  have w : ∀ {d : Jvm.Cond} (i : Nat), tables_1[i]? = some d → d.before a0 Z = true := fun i q => hw _ (List.mem_of_getElem? q)
  refine Ct.enter (plainFor_of_name pn_1) hEL ?_
  intro p e sS m below meth c T0 hby hml0 hret hlk hnm hs0 X0
  have hml : c.maxLocals = 2 := hml0
  have D : ∀ {pc : Nat} {r : Except DecodeError (Instr × Nat)}, decode jdk_68_method_71_code pc = r → decode c.code pc = r := fun q => hb hby q
  rw [show entryFrame m #[(.ref b), (.ref s)] 2 = mkF m 0 #[.val (.ref b), .val (.ref s)] [] from by first | (simp [entryFrame, mkF, argsToLocals, Value.category]; done) | rfl]
  refine X0.gets (w 50 rfl) Via.refl (Sta.ext X0.old.2 S0) (D d20_0) ?_
  intro T54 X55
  show Goes p.tables e below _ (T54.setTop (mkF m 3 #[.val (.ref b), .val (.ref s)] [(.int z0)]))
  refine X55.if_eq 21 (D d20_3) ⟨by decide, by decide⟩ (fun hc => (hz0 hc).elim) (fun hn56 => ?_)
  refine X55.aloadN (x := (.ref b)) (D d20_6) rfl rfl ?_
  refine X55.getf (w 53 rfl) Via.refl FC (D d20_7) ?_
  intro T57 X58
  show Goes p.tables e below _ (T57.setTop (mkF m 10 #[.val (.ref b), .val (.ref s)] [(.int (0 : Int32))]))
  refine X58.aloadN (x := (.ref s)) (D d20_10) rfl rfl ?_
  refine X58.callvF (y := (⟨"java/lang/String", "coder", "()B"⟩ : MethodName)) (z := (⟨"java/lang/String", "coder", "()B"⟩ : MethodName)) (a := s) (C := "java/lang/String") [] [(.int (0 : Int32))] (ctCdr l Z a0 hw hEL z0 S0 hz0 s _ _ F0).toF ES (w 121 rfl) (w 74 rfl) (w 76 rfl) (w 75 rfl) (nfOf (w 76 rfl) rfl) (w 2 rfl) (w 77 rfl) (by decide) (fun _ q => nomatch q) (by decide) 1 (by decide) (by decide) (by decide) (lenOf pd_1 rfl) rfl (Nat.le_of_ble_eq_true rfl) (by rw [hml]; rfl) (D d20_11) ?_
  rintro T59 h60 _ _ X62 K63 hg64 ⟨rfl, rfl⟩
  have F65 := EB.keep K63
  have F66 := FV.keep K63 nin0
  have F67 := FC.keep K63 nin0
  have F68 := ES.keep K63
  have F69 := F0.keep K63 nin0
  show Goes p.tables e below _ (T59.setTop (mkF m 14 #[.val (.ref b), .val (.ref s)] [(.int (0 : Int32)), (.int (0 : Int32))]))
  refine X62.icmp_eq 21 (D d20_14) ⟨by decide, by decide⟩ (fun hc70 => ?_) (fun hc70 => absurd hc70 (by decide))
  exact X62.retn hret hlk (D d20_21) (by decide) (by decide) (rfl)
theorem d11_0 : decode jdk_42_method_54_code 0 = .ok (.aload_n 0, 1) := by decide +kernel
theorem d11_1 : decode jdk_42_method_54_code 1 = .ok (.getfield 9, 3) := by decide +kernel
theorem d11_4 : decode jdk_42_method_54_code 4 = .ok (.arraylength, 1) := by decide +kernel
theorem d11_5 : decode jdk_42_method_54_code 5 = .ok (.aload_n 0, 1) := by decide +kernel
theorem d11_6 : decode jdk_42_method_54_code 6 = .ok (.invokevirtual 335, 3) := by decide +kernel
theorem d11_9 : decode jdk_42_method_54_code 9 = .ok (.ishr, 1) := by decide +kernel
theorem d11_10 : decode jdk_42_method_54_code 10 = .ok (.ireturn, 1) := by decide +kernel
set_option maxRecDepth 65536 in
set_option maxHeartbeats 40000000 in
theorem ctLen22 (l : Launch) (Z : State) (a0 : Array Value) (hw : ∀ d ∈ tables_1, d.before a0 Z = true) (hEL : EW Z a0 consts_1) (z0 : Int32) (S0 : Sta Z Z.heap "java/lang/String" "COMPACT_STRINGS" "Z" (.int z0)) (hz0 : ¬ z0 = 0) (s t : Addr) (cs : List Int32) (h0 : Heap) (n0 : Nat) (OS : OStr Z h0 s t cs) (hl_s : cs.length = 22) :
    Ct l Z consts_1 [] (⟨"java/lang/String", "length", "()I"⟩ : MethodName) jdk_42_method_54_code 1 (some .int) ({ frames := 1, cells := 0, slots := 0, locals := 13 } : Room) #[(.ref s)] h0 n0 [] (fun v _ => v = some (.int (22 : Int32))) := by
  have w : ∀ {d : Jvm.Cond} (i : Nat), tables_1[i]? = some d → d.before a0 Z = true := fun i q => hw _ (List.mem_of_getElem? q)
  refine Ct.enter (plainFor_of_name pn_0) hEL ?_
  intro p e sS m below meth c T0 hby hml0 hret hlk hnm hs0 X0
  have hml : c.maxLocals = 1 := hml0
  have D : ∀ {pc : Nat} {r : Except DecodeError (Instr × Nat)}, decode jdk_42_method_54_code pc = r → decode c.code pc = r := fun q => hb hby q
  rw [show entryFrame m #[(.ref s)] 1 = mkF m 0 #[.val (.ref s)] [] from by first | (simp [entryFrame, mkF, argsToLocals, Value.category]; done) | rfl]
  obtain ⟨F71, hp72, hl73, kb74, F75, F76, F77⟩ := id OS
  have F78 : Arv Z h0 t kb74 .byte (22 : Int32) ((cs.map StrChars.lo8).map Value.int) (.int 0) := by have q := F77; rw [hl_s] at q; exact q
  refine X0.aloadN (x := (.ref s)) (D d11_0) rfl rfl ?_
  refine X0.getf (w 28 rfl) Via.refl F75 (D d11_1) ?_
  intro T79 X80
  show Goes p.tables e below _ (T79.setTop (mkF m 4 #[.val (.ref s)] [(.ref t)]))
  refine X80.alen F78 (D d11_4) ?_
  refine X80.aloadN (x := (.ref s)) (D d11_5) rfl rfl ?_
  refine X80.callvF (y := (⟨"java/lang/String", "coder", "()B"⟩ : MethodName)) (z := (⟨"java/lang/String", "coder", "()B"⟩ : MethodName)) (a := s) (C := "java/lang/String") [] [(.int (22 : Int32))] (ctCdr l Z a0 hw hEL z0 S0 hz0 s _ _ F76).toF F71 (w 73 rfl) (w 74 rfl) (w 76 rfl) (w 75 rfl) (nfOf (w 76 rfl) rfl) (w 2 rfl) (w 77 rfl) (by decide) (fun _ q => nomatch q) (by decide) 1 (by decide) (by decide) (by decide) (lenOf pd_1 rfl) rfl (Nat.le_of_ble_eq_true rfl) (by rw [hml]; rfl) (D d11_6) ?_
  rintro T81 h82 _ _ X84 K85 hg86 ⟨rfl, rfl⟩
  have F87 := OS.keep K85 nin0 nin0
  have F88 := F71.keep K85
  have F89 := F75.keep K85 nin0
  have F90 := F76.keep K85 nin0
  have F91 := F78.keep K85 nin0
  show Goes p.tables e below _ (T81.setTop (mkF m 9 #[.val (.ref s)] [(.int (0 : Int32)), (.int (22 : Int32))]))
  refine X84.ishr (D d11_9) ?_
  show Goes p.tables e below _ (T81.setTop (mkF m 10 #[.val (.ref s)] [(.int (22 : Int32))]))
  exact X84.retI hret hlk (D d11_10) (by decide) (by decide) (rfl)
theorem d16_0 : decode jdk_29_method_65_code 0 = .ok (.iload_n 0, 1) := by decide +kernel
theorem d16_1 : decode jdk_29_method_65_code 1 = .ok (.iload_n 1, 1) := by decide +kernel
theorem d16_2 : decode jdk_29_method_65_code 2 = .ok (.if_icmp .lt 7, 3) := by decide +kernel
theorem d16_5 : decode jdk_29_method_65_code 5 = .ok (.iload_n 0, 1) := by decide +kernel
theorem d16_6 : decode jdk_29_method_65_code 6 = .ok (.goto 4, 3) := by decide +kernel
theorem d16_9 : decode jdk_29_method_65_code 9 = .ok (.iload_n 1, 1) := by decide +kernel
theorem d16_10 : decode jdk_29_method_65_code 10 = .ok (.ireturn, 1) := by decide +kernel
set_option maxRecDepth 65536 in
set_option maxHeartbeats 40000000 in
theorem ctMxG0_22_16 (l : Launch) (Z : State) (a0 : Array Value) (hw : ∀ d ∈ tables_1, d.before a0 Z = true) (hEL : EW Z a0 consts_1) (z0 : Int32) (S0 : Sta Z Z.heap "java/lang/String" "COMPACT_STRINGS" "Z" (.int z0)) (hz0 : ¬ z0 = 0)  (h0 : Heap) (n0 : Nat)  :
    Ct l Z consts_1 [] (⟨"java/lang/Math", "max", "(II)I"⟩ : MethodName) jdk_29_method_65_code 2 (some .int) ({ frames := 0, cells := 0, slots := 0, locals := 0 } : Room) #[(.int (6 : Int32)), (.int (18 : Int32))] h0 n0 [] (fun v _ => v = some (.int (18 : Int32))) := by
  have w : ∀ {d : Jvm.Cond} (i : Nat), tables_1[i]? = some d → d.before a0 Z = true := fun i q => hw _ (List.mem_of_getElem? q)
  refine Ct.enter (Jvm.Free.JP.mathPlain rfl (by decide)) hEL ?_
  intro p e sS m below meth c T0 hby hml0 hret hlk hnm hs0 X0
  have hml : c.maxLocals = 2 := hml0
  have D : ∀ {pc : Nat} {r : Except DecodeError (Instr × Nat)}, decode jdk_29_method_65_code pc = r → decode c.code pc = r := fun q => hb hby q
  rw [show entryFrame m #[(.int (6 : Int32)), (.int (18 : Int32))] 2 = mkF m 0 #[.val (.int (6 : Int32)), .val (.int (18 : Int32))] [] from by first | (simp [entryFrame, mkF, argsToLocals, Value.category]; done) | rfl]
  refine X0.iloadN (x := (6 : Int32)) (D d16_0) rfl ?_
  refine X0.iloadN (x := (18 : Int32)) (D d16_1) rfl ?_
  refine X0.icmp_lt 9 (D d16_2) ⟨by decide, by decide⟩ (fun hc92 => ?_) (fun hc92 => absurd hc92 (by decide))
  refine X0.iloadN (x := (18 : Int32)) (D d16_9) rfl ?_
  exact X0.retI hret hlk (D d16_10) (by decide) (by decide) (rfl)
theorem d15_0 : decode jdk_48_method_27_code 0 = .ok (.iload_n 0, 1) := by decide +kernel
theorem d15_1 : decode jdk_48_method_27_code 1 = .ok (.iload_n 1, 1) := by decide +kernel
theorem d15_2 : decode jdk_48_method_27_code 2 = .ok (.iload_n 2, 1) := by decide +kernel
theorem d15_3 : decode jdk_48_method_27_code 3 = .ok (.invokestatic 194, 3) := by decide +kernel
theorem d15_6 : decode jdk_48_method_27_code 6 = .ok (.iadd, 1) := by decide +kernel
theorem d15_7 : decode jdk_48_method_27_code 7 = .ok (.istore_n 3, 1) := by decide +kernel
theorem d15_8 : decode jdk_48_method_27_code 8 = .ok (.iconst 0, 1) := by decide +kernel
theorem d15_9 : decode jdk_48_method_27_code 9 = .ok (.iload_n 3, 1) := by decide +kernel
theorem d15_10 : decode jdk_48_method_27_code 10 = .ok (.if_icmp .ge 11, 3) := by decide +kernel
theorem d15_13 : decode jdk_48_method_27_code 13 = .ok (.iload_n 3, 1) := by decide +kernel
theorem d15_14 : decode jdk_48_method_27_code 14 = .ok (.ldc 200, 2) := by decide +kernel
theorem d15_16 : decode jdk_48_method_27_code 16 = .ok (.if_icmp .gt 5, 3) := by decide +kernel
theorem d15_19 : decode jdk_48_method_27_code 19 = .ok (.iload_n 3, 1) := by decide +kernel
theorem d15_20 : decode jdk_48_method_27_code 20 = .ok (.ireturn, 1) := by decide +kernel
theorem d15_21 : decode jdk_48_method_27_code 21 = .ok (.iload_n 0, 1) := by decide +kernel
theorem d15_22 : decode jdk_48_method_27_code 22 = .ok (.iload_n 1, 1) := by decide +kernel
theorem d15_23 : decode jdk_48_method_27_code 23 = .ok (.invokestatic 201, 3) := by decide +kernel
theorem d15_26 : decode jdk_48_method_27_code 26 = .ok (.ireturn, 1) := by decide +kernel
theorem pn_3 : plainName "jdk/internal/util/ArraysSupport" = true := by first | (simp [plainName, overriddenIn]; done) | decide +kernel
theorem pd_2 : parseMethodDescriptor "(II)I" = some ⟨[.int, .int], (some .int)⟩ := by decide +kernel
set_option maxRecDepth 65536 in
set_option maxHeartbeats 40000000 in
theorem ctNLG0_22_16 (l : Launch) (Z : State) (a0 : Array Value) (hw : ∀ d ∈ tables_1, d.before a0 Z = true) (hEL : EW Z a0 consts_1) (z0 : Int32) (S0 : Sta Z Z.heap "java/lang/String" "COMPACT_STRINGS" "Z" (.int z0)) (hz0 : ¬ z0 = 0)  (h0 : Heap) (n0 : Nat)  :
    Ct l Z consts_1 [] (⟨"jdk/internal/util/ArraysSupport", "newLength", "(III)I"⟩ : MethodName) jdk_48_method_27_code 4 (some .int) ({ frames := 1, cells := 0, slots := 0, locals := 14 } : Room) #[(.int (16 : Int32)), (.int (6 : Int32)), (.int (18 : Int32))] h0 n0 [] (fun v _ => v = some (.int (34 : Int32))) := by
  have w : ∀ {d : Jvm.Cond} (i : Nat), tables_1[i]? = some d → d.before a0 Z = true := fun i q => hw _ (List.mem_of_getElem? q)
  refine Ct.enter (plainFor_of_name pn_3) hEL ?_
  intro p e sS m below meth c T0 hby hml0 hret hlk hnm hs0 X0
  have hml : c.maxLocals = 4 := hml0
  have D : ∀ {pc : Nat} {r : Except DecodeError (Instr × Nat)}, decode jdk_48_method_27_code pc = r → decode c.code pc = r := fun q => hb hby q
  rw [show entryFrame m #[(.int (16 : Int32)), (.int (6 : Int32)), (.int (18 : Int32))] 4 = mkF m 0 #[.val (.int (16 : Int32)), .val (.int (6 : Int32)), .val (.int (18 : Int32)), .unset] [] from by first | (simp [entryFrame, mkF, argsToLocals, Value.category]; done) | rfl]
  refine X0.iloadN (x := (16 : Int32)) (D d15_0) rfl ?_
  refine X0.iloadN (x := (6 : Int32)) (D d15_1) rfl ?_
  refine X0.iloadN (x := (18 : Int32)) (D d15_2) rfl ?_
  refine X0.callsF [(.int (6 : Int32)), (.int (18 : Int32))] [(.int (16 : Int32))] (ctMxG0_22_16 l Z a0 hw hEL z0 S0 hz0 _ _).toF (w 94 rfl) (w 95 rfl) (w 96 rfl) (w 97 rfl) (by decide) (fun _ q => nomatch q) (by decide) 1 (by decide) (by decide) (by decide) (lenOf pd_2 rfl) rfl (Nat.le_of_ble_eq_true rfl) (by rw [hml]; rfl) (D d15_3) ?_
  rintro T93 h94 _ _ X96 K97 hg98 ⟨rfl, rfl⟩
  show Goes p.tables e below _ (T93.setTop (mkF m 6 #[.val (.int (16 : Int32)), .val (.int (6 : Int32)), .val (.int (18 : Int32)), .unset] [(.int (18 : Int32)), (.int (16 : Int32))]))
  refine X96.iadd (D d15_6) ?_
  show Goes p.tables e below _ (T93.setTop (mkF m 7 #[.val (.int (16 : Int32)), .val (.int (6 : Int32)), .val (.int (18 : Int32)), .unset] [(.int (34 : Int32))]))
  refine X96.istoreN #[.val (.int (16 : Int32)), .val (.int (6 : Int32)), .val (.int (18 : Int32)), .val (.int (34 : Int32))] (D d15_7) rfl ?_
  refine X96.iconst (x := (0 : Int32)) (D d15_8) rfl ?_
  refine X96.iloadN (x := (34 : Int32)) (D d15_9) rfl ?_
  refine X96.icmp_ge 21 (D d15_10) ⟨by decide, by decide⟩ (fun hc99 => absurd hc99 (by decide)) (fun hc99 => ?_)
  refine X96.iloadN (x := (34 : Int32)) (D d15_13) rfl ?_
  refine X96.ldcI (w 98 rfl) (D d15_14) ?_
  refine X96.icmp_gt 21 (D d15_16) ⟨by decide, by decide⟩ (fun hc100 => absurd hc100 (by decide)) (fun hc100 => ?_)
  refine X96.iloadN (x := (34 : Int32)) (D d15_19) rfl ?_
  exact X96.retI hret hlk (D d15_20) (by decide) (by decide) (rfl)
theorem d14_0 : decode jdk_68_method_10_code 0 = .ok (.aload_n 0, 1) := by decide +kernel
theorem d14_1 : decode jdk_68_method_10_code 1 = .ok (.getfield 15, 3) := by decide +kernel
theorem d14_4 : decode jdk_68_method_10_code 4 = .ok (.arraylength, 1) := by decide +kernel
theorem d14_5 : decode jdk_68_method_10_code 5 = .ok (.istore_n 2, 1) := by decide +kernel
theorem d14_6 : decode jdk_68_method_10_code 6 = .ok (.iload_n 1, 1) := by decide +kernel
theorem d14_7 : decode jdk_68_method_10_code 7 = .ok (.aload_n 0, 1) := by decide +kernel
theorem d14_8 : decode jdk_68_method_10_code 8 = .ok (.getfield 22, 3) := by decide +kernel
theorem d14_11 : decode jdk_68_method_10_code 11 = .ok (.ishl, 1) := by decide +kernel
theorem d14_12 : decode jdk_68_method_10_code 12 = .ok (.istore_n 3, 1) := by decide +kernel
theorem d14_13 : decode jdk_68_method_10_code 13 = .ok (.iload_n 3, 1) := by decide +kernel
theorem d14_14 : decode jdk_68_method_10_code 14 = .ok (.iload_n 2, 1) := by decide +kernel
theorem d14_15 : decode jdk_68_method_10_code 15 = .ok (.isub, 1) := by decide +kernel
theorem d14_16 : decode jdk_68_method_10_code 16 = .ok (.istore 4, 2) := by decide +kernel
theorem d14_18 : decode jdk_68_method_10_code 18 = .ok (.iload_n 2, 1) := by decide +kernel
theorem d14_19 : decode jdk_68_method_10_code 19 = .ok (.iload 4, 2) := by decide +kernel
theorem d14_21 : decode jdk_68_method_10_code 21 = .ok (.iload_n 2, 1) := by decide +kernel
theorem d14_22 : decode jdk_68_method_10_code 22 = .ok (.iconst 2, 1) := by decide +kernel
theorem d14_23 : decode jdk_68_method_10_code 23 = .ok (.aload_n 0, 1) := by decide +kernel
theorem d14_24 : decode jdk_68_method_10_code 24 = .ok (.getfield 22, 3) := by decide +kernel
theorem d14_27 : decode jdk_68_method_10_code 27 = .ok (.ishl, 1) := by decide +kernel
theorem d14_28 : decode jdk_68_method_10_code 28 = .ok (.iadd, 1) := by decide +kernel
theorem d14_29 : decode jdk_68_method_10_code 29 = .ok (.invokestatic 114, 3) := by decide +kernel
theorem d14_32 : decode jdk_68_method_10_code 32 = .ok (.istore 5, 2) := by decide +kernel
theorem d14_34 : decode jdk_68_method_10_code 34 = .ok (.iload 5, 2) := by decide +kernel
theorem d14_36 : decode jdk_68_method_10_code 36 = .ok (.ldc 39, 2) := by decide +kernel
theorem d14_38 : decode jdk_68_method_10_code 38 = .ok (.if_icmp .ne 13, 3) := by decide +kernel
theorem d14_41 : decode jdk_68_method_10_code 41 = .ok (.new 120, 3) := by decide +kernel
theorem d14_44 : decode jdk_68_method_10_code 44 = .ok (.dup, 1) := by decide +kernel
theorem d14_45 : decode jdk_68_method_10_code 45 = .ok (.ldc 122, 2) := by decide +kernel
theorem d14_47 : decode jdk_68_method_10_code 47 = .ok (.invokespecial 124, 3) := by decide +kernel
theorem d14_50 : decode jdk_68_method_10_code 50 = .ok (.athrow, 1) := by decide +kernel
theorem d14_51 : decode jdk_68_method_10_code 51 = .ok (.iload 5, 2) := by decide +kernel
theorem d14_53 : decode jdk_68_method_10_code 53 = .ok (.aload_n 0, 1) := by decide +kernel
theorem d14_54 : decode jdk_68_method_10_code 54 = .ok (.getfield 22, 3) := by decide +kernel
theorem d14_57 : decode jdk_68_method_10_code 57 = .ok (.ishr, 1) := by decide +kernel
theorem d14_58 : decode jdk_68_method_10_code 58 = .ok (.ireturn, 1) := by decide +kernel
theorem pd_3 : parseMethodDescriptor "(III)I" = some ⟨[.int, .int, .int], (some .int)⟩ := by decide +kernel
set_option maxRecDepth 65536 in
set_option maxHeartbeats 40000000 in
theorem ctNCG0_22_16 (l : Launch) (Z : State) (a0 : Array Value) (hw : ∀ d ∈ tables_1, d.before a0 Z = true) (hEL : EW Z a0 consts_1) (z0 : Int32) (S0 : Sta Z Z.heap "java/lang/String" "COMPACT_STRINGS" "Z" (.int z0)) (hz0 : ¬ z0 = 0) (b d : Addr) (kd : ClassId) (vd : List Value) (h0 : Heap) (n0 : Nat) (EB : Exa Z h0 b "java/lang/StringBuilder") (FV : Fld Z h0 b "java/lang/AbstractStringBuilder" "value" "[B" (.ref d)) (FC : Fld Z h0 b "java/lang/AbstractStringBuilder" "coder" "B" (.int (0 : Int32))) (AD : Arv Z h0 d kd .byte (16 : Int32) vd (.int 0)) (hvd : vd.length = 16) :
    Ct l Z consts_1 [] (⟨"java/lang/AbstractStringBuilder", "newCapacity", "(I)I"⟩ : MethodName) jdk_68_method_10_code 6 (some .int) ({ frames := 2, cells := 0, slots := 0, locals := 29 } : Room) #[(.ref b), (.int (22 : Int32))] h0 n0 [] (fun v _ => v = some (.int (34 : Int32))) := by
  have w : ∀ {d : Jvm.Cond} (i : Nat), tables_1[i]? = some d → d.before a0 Z = true := fun i q => hw _ (List.mem_of_getElem? q)
  refine Ct.enter (plainFor_of_name pn_1) hEL ?_
  intro p e sS m below meth c T0 hby hml0 hret hlk hnm hs0 X0
  have hml : c.maxLocals = 6 := hml0
  have D : ∀ {pc : Nat} {r : Except DecodeError (Instr × Nat)}, decode jdk_68_method_10_code pc = r → decode c.code pc = r := fun q => hb hby q
  rw [show entryFrame m #[(.ref b), (.int (22 : Int32))] 6 = mkF m 0 #[.val (.ref b), .val (.int (22 : Int32)), .unset, .unset, .unset, .unset] [] from by first | (simp [entryFrame, mkF, argsToLocals, Value.category]; done) | rfl]
  refine X0.aloadN (x := (.ref b)) (D d14_0) rfl rfl ?_
  refine X0.getf (w 51 rfl) Via.refl FV (D d14_1) ?_
  intro T101 X102
  show Goes p.tables e below _ (T101.setTop (mkF m 4 #[.val (.ref b), .val (.int (22 : Int32)), .unset, .unset, .unset, .unset] [(.ref d)]))
  refine X102.alen AD (D d14_4) ?_
  refine X102.istoreN #[.val (.ref b), .val (.int (22 : Int32)), .val (.int (16 : Int32)), .unset, .unset, .unset] (D d14_5) rfl ?_
  refine X102.iloadN (x := (22 : Int32)) (D d14_6) rfl ?_
  refine X102.aloadN (x := (.ref b)) (D d14_7) rfl rfl ?_
  refine X102.getf (w 53 rfl) Via.refl FC (D d14_8) ?_
  intro T103 X104
  show Goes p.tables e below _ (T103.setTop (mkF m 11 #[.val (.ref b), .val (.int (22 : Int32)), .val (.int (16 : Int32)), .unset, .unset, .unset] [(.int (0 : Int32)), (.int (22 : Int32))]))
  refine X104.ishl (D d14_11) ?_
  show Goes p.tables e below _ (T103.setTop (mkF m 12 #[.val (.ref b), .val (.int (22 : Int32)), .val (.int (16 : Int32)), .unset, .unset, .unset] [(.int (22 : Int32))]))
  refine X104.istoreN #[.val (.ref b), .val (.int (22 : Int32)), .val (.int (16 : Int32)), .val (.int (22 : Int32)), .unset, .unset] (D d14_12) rfl ?_
  refine X104.iloadN (x := (22 : Int32)) (D d14_13) rfl ?_
  refine X104.iloadN (x := (16 : Int32)) (D d14_14) rfl ?_
  refine X104.isub (D d14_15) ?_
  show Goes p.tables e below _ (T103.setTop (mkF m 16 #[.val (.ref b), .val (.int (22 : Int32)), .val (.int (16 : Int32)), .val (.int (22 : Int32)), .unset, .unset] [(.int (6 : Int32))]))
  refine X104.istore #[.val (.ref b), .val (.int (22 : Int32)), .val (.int (16 : Int32)), .val (.int (22 : Int32)), .val (.int (6 : Int32)), .unset] (D d14_16) rfl ?_
  refine X104.iloadN (x := (16 : Int32)) (D d14_18) rfl ?_
  refine X104.iload (x := (6 : Int32)) (D d14_19) rfl ?_
  refine X104.iloadN (x := (16 : Int32)) (D d14_21) rfl ?_
  refine X104.iconst (x := (2 : Int32)) (D d14_22) rfl ?_
  refine X104.aloadN (x := (.ref b)) (D d14_23) rfl rfl ?_
  refine X104.getf (w 53 rfl) Via.refl FC (D d14_24) ?_
  intro T105 X106
  show Goes p.tables e below _ (T105.setTop (mkF m 27 #[.val (.ref b), .val (.int (22 : Int32)), .val (.int (16 : Int32)), .val (.int (22 : Int32)), .val (.int (6 : Int32)), .unset] [(.int (0 : Int32)), (.int (2 : Int32)), (.int (16 : Int32)), (.int (6 : Int32)), (.int (16 : Int32))]))
  refine X106.ishl (D d14_27) ?_
  show Goes p.tables e below _ (T105.setTop (mkF m 28 #[.val (.ref b), .val (.int (22 : Int32)), .val (.int (16 : Int32)), .val (.int (22 : Int32)), .val (.int (6 : Int32)), .unset] [(.int (2 : Int32)), (.int (16 : Int32)), (.int (6 : Int32)), (.int (16 : Int32))]))
  refine X106.iadd (D d14_28) ?_
  show Goes p.tables e below _ (T105.setTop (mkF m 29 #[.val (.ref b), .val (.int (22 : Int32)), .val (.int (16 : Int32)), .val (.int (22 : Int32)), .val (.int (6 : Int32)), .unset] [(.int (18 : Int32)), (.int (6 : Int32)), (.int (16 : Int32))]))
  refine X106.callsF [(.int (16 : Int32)), (.int (6 : Int32)), (.int (18 : Int32))] [] (ctNLG0_22_16 l Z a0 hw hEL z0 S0 hz0 _ _).toF (w 90 rfl) (w 91 rfl) (w 92 rfl) (w 93 rfl) (by decide) (fun _ q => nomatch q) (by decide) 0 (by decide) (by decide) (by decide) (lenOf pd_3 rfl) rfl (Nat.le_of_ble_eq_true rfl) (by rw [hml]; rfl) (D d14_29) ?_
  rintro T107 h108 _ _ X110 K111 hg112 ⟨rfl, rfl⟩
  have F113 := EB.keep K111
  have F114 := FV.keep K111 nin0
  have F115 := FC.keep K111 nin0
  have F116 := AD.keep K111 nin0
  show Goes p.tables e below _ (T107.setTop (mkF m 32 #[.val (.ref b), .val (.int (22 : Int32)), .val (.int (16 : Int32)), .val (.int (22 : Int32)), .val (.int (6 : Int32)), .unset] [(.int (34 : Int32))]))
  refine X110.istore #[.val (.ref b), .val (.int (22 : Int32)), .val (.int (16 : Int32)), .val (.int (22 : Int32)), .val (.int (6 : Int32)), .val (.int (34 : Int32))] (D d14_32) rfl ?_
  refine X110.iload (x := (34 : Int32)) (D d14_34) rfl ?_
  refine X110.ldcI (w 99 rfl) (D d14_36) ?_
  refine X110.icmp_ne 51 (D d14_38) ⟨by decide, by decide⟩ (fun hc117 => ?_) (fun hc117 => absurd hc117 (by decide))
  refine X110.iload (x := (34 : Int32)) (D d14_51) rfl ?_
  refine X110.aloadN (x := (.ref b)) (D d14_53) rfl rfl ?_
  refine X110.getf (w 53 rfl) Via.refl F115 (D d14_54) ?_
  intro T118 X119
  show Goes p.tables e below _ (T118.setTop (mkF m 57 #[.val (.ref b), .val (.int (22 : Int32)), .val (.int (16 : Int32)), .val (.int (22 : Int32)), .val (.int (6 : Int32)), .val (.int (34 : Int32))] [(.int (0 : Int32)), (.int (34 : Int32))]))
  refine X119.ishr (D d14_57) ?_
  show Goes p.tables e below _ (T118.setTop (mkF m 58 #[.val (.ref b), .val (.int (22 : Int32)), .val (.int (16 : Int32)), .val (.int (22 : Int32)), .val (.int (6 : Int32)), .val (.int (34 : Int32))] [(.int (34 : Int32))]))
  exact X119.retI hret hlk (D d14_58) (by decide) (by decide) (rfl)
theorem d18_0 : decode jdk_29_method_69_code 0 = .ok (.iload_n 0, 1) := by decide +kernel
theorem d18_1 : decode jdk_29_method_69_code 1 = .ok (.iload_n 1, 1) := by decide +kernel
theorem d18_2 : decode jdk_29_method_69_code 2 = .ok (.if_icmp .gt 7, 3) := by decide +kernel
theorem d18_5 : decode jdk_29_method_69_code 5 = .ok (.iload_n 0, 1) := by decide +kernel
theorem d18_6 : decode jdk_29_method_69_code 6 = .ok (.goto 4, 3) := by decide +kernel
theorem d18_9 : decode jdk_29_method_69_code 9 = .ok (.iload_n 1, 1) := by decide +kernel
theorem d18_10 : decode jdk_29_method_69_code 10 = .ok (.ireturn, 1) := by decide +kernel
set_option maxRecDepth 65536 in
set_option maxHeartbeats 40000000 in
theorem ctMmG0_22_16 (l : Launch) (Z : State) (a0 : Array Value) (hw : ∀ d ∈ tables_1, d.before a0 Z = true) (hEL : EW Z a0 consts_1) (z0 : Int32) (S0 : Sta Z Z.heap "java/lang/String" "COMPACT_STRINGS" "Z" (.int z0)) (hz0 : ¬ z0 = 0)  (h0 : Heap) (n0 : Nat)  :
    Ct l Z consts_1 [] (⟨"java/lang/Math", "min", "(II)I"⟩ : MethodName) jdk_29_method_69_code 2 (some .int) ({ frames := 0, cells := 0, slots := 0, locals := 0 } : Room) #[(.int (16 : Int32)), (.int (34 : Int32))] h0 n0 [] (fun v _ => v = some (.int (16 : Int32))) := by
  have w : ∀ {d : Jvm.Cond} (i : Nat), tables_1[i]? = some d → d.before a0 Z = true := fun i q => hw _ (List.mem_of_getElem? q)
  refine Ct.enter (Jvm.Free.JP.mathPlain rfl (by decide)) hEL ?_
  intro p e sS m below meth c T0 hby hml0 hret hlk hnm hs0 X0
  have hml : c.maxLocals = 2 := hml0
  have D : ∀ {pc : Nat} {r : Except DecodeError (Instr × Nat)}, decode jdk_29_method_69_code pc = r → decode c.code pc = r := fun q => hb hby q
  rw [show entryFrame m #[(.int (16 : Int32)), (.int (34 : Int32))] 2 = mkF m 0 #[.val (.int (16 : Int32)), .val (.int (34 : Int32))] [] from by first | (simp [entryFrame, mkF, argsToLocals, Value.category]; done) | rfl]
  refine X0.iloadN (x := (16 : Int32)) (D d18_0) rfl ?_
  refine X0.iloadN (x := (34 : Int32)) (D d18_1) rfl ?_
  refine X0.icmp_gt 9 (D d18_2) ⟨by decide, by decide⟩ (fun hc120 => absurd hc120 (by decide)) (fun hc120 => ?_)
  refine X0.iloadN (x := (16 : Int32)) (D d18_5) rfl ?_
  refine X0.goto 10 (D d18_6) ⟨by decide, by decide⟩ ?_
  exact X0.retI hret hlk (D d18_10) (by decide) (by decide) (rfl)
theorem d17_0 : decode jdk_65_method_121_code 0 = .ok (.iload_n 1, 1) := by decide +kernel
theorem d17_1 : decode jdk_65_method_121_code 1 = .ok (.aload_n 0, 1) := by decide +kernel
theorem d17_2 : decode jdk_65_method_121_code 2 = .ok (.arraylength, 1) := by decide +kernel
theorem d17_3 : decode jdk_65_method_121_code 3 = .ok (.if_icmp .ne 11, 3) := by decide +kernel
theorem d17_6 : decode jdk_65_method_121_code 6 = .ok (.aload_n 0, 1) := by decide +kernel
theorem d17_7 : decode jdk_65_method_121_code 7 = .ok (.invokevirtual 310, 3) := by decide +kernel
theorem d17_10 : decode jdk_65_method_121_code 10 = .ok (.checkcast 311, 3) := by decide +kernel
theorem d17_13 : decode jdk_65_method_121_code 13 = .ok (.areturn, 1) := by decide +kernel
theorem d17_14 : decode jdk_65_method_121_code 14 = .ok (.iload_n 1, 1) := by decide +kernel
theorem d17_15 : decode jdk_65_method_121_code 15 = .ok (.newarray .byte, 2) := by decide +kernel
theorem d17_17 : decode jdk_65_method_121_code 17 = .ok (.astore_n 2, 1) := by decide +kernel
theorem d17_18 : decode jdk_65_method_121_code 18 = .ok (.aload_n 0, 1) := by decide +kernel
theorem d17_19 : decode jdk_65_method_121_code 19 = .ok (.iconst 0, 1) := by decide +kernel
theorem d17_20 : decode jdk_65_method_121_code 20 = .ok (.aload_n 2, 1) := by decide +kernel
theorem d17_21 : decode jdk_65_method_121_code 21 = .ok (.iconst 0, 1) := by decide +kernel
theorem d17_22 : decode jdk_65_method_121_code 22 = .ok (.aload_n 0, 1) := by decide +kernel
theorem d17_23 : decode jdk_65_method_121_code 23 = .ok (.arraylength, 1) := by decide +kernel
theorem d17_24 : decode jdk_65_method_121_code 24 = .ok (.iload_n 1, 1) := by decide +kernel
theorem d17_25 : decode jdk_65_method_121_code 25 = .ok (.invokestatic 304, 3) := by decide +kernel
theorem d17_28 : decode jdk_65_method_121_code 28 = .ok (.invokestatic 150, 3) := by decide +kernel
theorem d17_31 : decode jdk_65_method_121_code 31 = .ok (.aload_n 2, 1) := by decide +kernel
theorem d17_32 : decode jdk_65_method_121_code 32 = .ok (.areturn, 1) := by decide +kernel
theorem pn_4 : plainName "java/util/Arrays" = true := by first | (simp [plainName, overriddenIn]; done) | decide +kernel
set_option maxRecDepth 65536 in
set_option maxHeartbeats 40000000 in
theorem ctCOG0_22_16 (l : Launch) (Z : State) (a0 : Array Value) (hw : ∀ d ∈ tables_1, d.before a0 Z = true) (hEL : EW Z a0 consts_1) (z0 : Int32) (S0 : Sta Z Z.heap "java/lang/String" "COMPACT_STRINGS" "Z" (.int z0)) (hz0 : ¬ z0 = 0) (d : Addr) (kd : ClassId) (vd : List Value) (h0 : Heap) (n0 : Nat) (AD : Arv Z h0 d kd .byte (16 : Int32) vd (.int 0)) (hvd : vd.length = 16) :
    CtF l Z consts_1 [] (⟨"java/util/Arrays", "copyOf", "([BI)[B"⟩ : MethodName) jdk_65_method_121_code 3 (some (.array .byte)) ({ frames := 1, cells := 1, slots := 34, locals := 18 } : Room) #[(.ref d), (.int (34 : Int32))] h0 n0 [] (fun v h F => ∃ (r : Addr) (kr : ClassId), v = some (.ref r) ∧ F = [r] ∧ Arv Z h r kr .byte (34 : Int32) (vd ++ ([(.int (0 : Int32)), (.int (0 : Int32)), (.int (0 : Int32)), (.int (0 : Int32)), (.int (0 : Int32)), (.int (0 : Int32)), (.int (0 : Int32)), (.int (0 : Int32)), (.int (0 : Int32)), (.int (0 : Int32)), (.int (0 : Int32)), (.int (0 : Int32)), (.int (0 : Int32)), (.int (0 : Int32)), (.int (0 : Int32)), (.int (0 : Int32)), (.int (0 : Int32)), (.int (0 : Int32))] : List Value)) (.int 0)) := by
  have w : ∀ {d : Jvm.Cond} (i : Nat), tables_1[i]? = some d → d.before a0 Z = true := fun i q => hw _ (List.mem_of_getElem? q)
  refine CtF.enter (plainFor_of_name pn_4) hEL ?_
  intro p e sS m below meth c T0 hby hml0 hret hlk hnm hs0 X0
  have hml : c.maxLocals = 3 := hml0
  have D : ∀ {pc : Nat} {r : Except DecodeError (Instr × Nat)}, decode jdk_65_method_121_code pc = r → decode c.code pc = r := fun q => hb hby q
  rw [show entryFrame m #[(.ref d), (.int (34 : Int32))] 3 = mkF m 0 #[.val (.ref d), .val (.int (34 : Int32)), .unset] [] from by first | (simp [entryFrame, mkF, argsToLocals, Value.category]; done) | rfl]
  refine X0.iloadN (x := (34 : Int32)) (D d17_0) rfl ?_
  refine X0.aloadN (x := (.ref d)) (D d17_1) rfl rfl ?_
  refine X0.alen AD (D d17_2) ?_
  refine X0.icmp_ne 14 (D d17_3) ⟨by decide, by decide⟩ (fun hc121 => ?_) (fun hc121 => absurd hc121 (by decide))
  refine X0.iloadN (x := (34 : Int32)) (D d17_14) rfl ?_
  refine X0.newarr (w 19 rfl) (n := (34 : Int32)) (D d17_15) (by decide) 34 (by decide) (by decide) (by decide) (by decide) ?_
  intro T122 h123 b124 kb125 g126 X127 E128 A129
  have ge130 : sS.heap.size ≤ b124 := by rw [g126]; exact X0.kept.1
  have F131 := AD.ext E128
  have lt132 : d < b124 := by rw [g126]; exact AD.lt
  have F133 : Arv Z h123 b124 kb125 .byte (34 : Int32) [(.int (0 : Int32)), (.int (0 : Int32)), (.int (0 : Int32)), (.int (0 : Int32)), (.int (0 : Int32)), (.int (0 : Int32)), (.int (0 : Int32)), (.int (0 : Int32)), (.int (0 : Int32)), (.int (0 : Int32)), (.int (0 : Int32)), (.int (0 : Int32)), (.int (0 : Int32)), (.int (0 : Int32)), (.int (0 : Int32)), (.int (0 : Int32)), (.int (0 : Int32)), (.int (0 : Int32)), (.int (0 : Int32)), (.int (0 : Int32)), (.int (0 : Int32)), (.int (0 : Int32)), (.int (0 : Int32)), (.int (0 : Int32)), (.int (0 : Int32)), (.int (0 : Int32)), (.int (0 : Int32)), (.int (0 : Int32)), (.int (0 : Int32)), (.int (0 : Int32)), (.int (0 : Int32)), (.int (0 : Int32)), (.int (0 : Int32)), (.int (0 : Int32))] (.int (0 : Int32)) := A129.pad (pad_rep [] (.int (0 : Int32)) 34)
  show Goes p.tables e below _ (T122.setTop (mkF m 17 #[.val (.ref d), .val (.int (34 : Int32)), .unset] [(.ref b124)]))
  refine X127.astoreN #[.val (.ref d), .val (.int (34 : Int32)), .val (.ref b124)] (D d17_17) rfl rfl ?_
  refine X127.aloadN (x := (.ref d)) (D d17_18) rfl rfl ?_
  refine X127.iconst (x := (0 : Int32)) (D d17_19) rfl ?_
  refine X127.aloadN (x := (.ref b124)) (D d17_20) rfl rfl ?_
  refine X127.iconst (x := (0 : Int32)) (D d17_21) rfl ?_
  refine X127.aloadN (x := (.ref d)) (D d17_22) rfl rfl ?_
  refine X127.alen F131 (D d17_23) ?_
  refine X127.iloadN (x := (34 : Int32)) (D d17_24) rfl ?_
  refine X127.callsF [(.int (16 : Int32)), (.int (34 : Int32))] [(.int (0 : Int32)), (.ref b124), (.int (0 : Int32)), (.ref d)] (ctMmG0_22_16 l Z a0 hw hEL z0 S0 hz0 _ _).toF (w 104 rfl) (w 105 rfl) (w 96 rfl) (w 106 rfl) (by decide) (fun _ q => nomatch q) (by decide) 4 (by decide) (by decide) (by decide) (lenOf pd_2 rfl) rfl (Nat.le_of_ble_eq_true rfl) (by rw [hml]; rfl) (D d17_25) ?_
  rintro T134 h135 _ _ X137 K138 hg139 ⟨rfl, rfl⟩
  have F140 := F131.keep K138 nin0
  have F141 := F133.keep K138 nin0
  show Goes p.tables e below _ (T134.setTop (mkF m 28 #[.val (.ref d), .val (.int (34 : Int32)), .val (.ref b124)] [(.int (16 : Int32)), (.int (0 : Int32)), (.ref b124), (.int (0 : Int32)), (.ref d)]))
  show Goes p.tables e below _ (T134.setTop (mkF m 28 #[.val (.ref d), .val (.int (34 : Int32)), .val (.ref b124)] [(.int (16 : Int32)), (.int (0 : Int32)), (.ref b124), (.int (0 : Int32)), (.ref d)]))
  refine X137.acopy (us := vd) (w 107 rfl) (w 110 rfl) (w 108 rfl) (w 109 rfl) F140 F141 (by decide) (by decide) (by decide) (by decide) (by decide) (slice0 hvd) (by decide) (by simp) (by rw [hml]; rfl) (D d17_28) (by decide) 0 (Nat.le_of_ble_eq_true rfl) (by decide) ?_
  intro T142 h143 X144 K145 B146
  have F147 := F140.keep K145 (ninS (Nat.ne_of_lt lt132) nin0)
  show Goes p.tables e below _ (T142.setTop (mkF m 31 #[.val (.ref d), .val (.int (34 : Int32)), .val (.ref b124)] []))
  refine X144.aloadN (x := (.ref b124)) (D d17_31) rfl rfl ?_
  have hz : ([(.int (0 : Int32)), (.int (0 : Int32)), (.int (0 : Int32)), (.int (0 : Int32)), (.int (0 : Int32)), (.int (0 : Int32)), (.int (0 : Int32)), (.int (0 : Int32)), (.int (0 : Int32)), (.int (0 : Int32)), (.int (0 : Int32)), (.int (0 : Int32)), (.int (0 : Int32)), (.int (0 : Int32)), (.int (0 : Int32)), (.int (0 : Int32)), (.int (0 : Int32)), (.int (0 : Int32)), (.int (0 : Int32)), (.int (0 : Int32)), (.int (0 : Int32)), (.int (0 : Int32)), (.int (0 : Int32)), (.int (0 : Int32)), (.int (0 : Int32)), (.int (0 : Int32)), (.int (0 : Int32)), (.int (0 : Int32)), (.int (0 : Int32)), (.int (0 : Int32)), (.int (0 : Int32)), (.int (0 : Int32)), (.int (0 : Int32)), (.int (0 : Int32))] : List Value).take 0 ++ vd ++ ([(.int (0 : Int32)), (.int (0 : Int32)), (.int (0 : Int32)), (.int (0 : Int32)), (.int (0 : Int32)), (.int (0 : Int32)), (.int (0 : Int32)), (.int (0 : Int32)), (.int (0 : Int32)), (.int (0 : Int32)), (.int (0 : Int32)), (.int (0 : Int32)), (.int (0 : Int32)), (.int (0 : Int32)), (.int (0 : Int32)), (.int (0 : Int32)), (.int (0 : Int32)), (.int (0 : Int32)), (.int (0 : Int32)), (.int (0 : Int32)), (.int (0 : Int32)), (.int (0 : Int32)), (.int (0 : Int32)), (.int (0 : Int32)), (.int (0 : Int32)), (.int (0 : Int32)), (.int (0 : Int32)), (.int (0 : Int32)), (.int (0 : Int32)), (.int (0 : Int32)), (.int (0 : Int32)), (.int (0 : Int32)), (.int (0 : Int32)), (.int (0 : Int32))] : List Value).drop (0 + 16) = (vd ++ ([(.int (0 : Int32)), (.int (0 : Int32)), (.int (0 : Int32)), (.int (0 : Int32)), (.int (0 : Int32)), (.int (0 : Int32)), (.int (0 : Int32)), (.int (0 : Int32)), (.int (0 : Int32)), (.int (0 : Int32)), (.int (0 : Int32)), (.int (0 : Int32)), (.int (0 : Int32)), (.int (0 : Int32)), (.int (0 : Int32)), (.int (0 : Int32)), (.int (0 : Int32)), (.int (0 : Int32))] : List Value)) := by simp
  exact X144.retAF [b124] (fun x q => by simp only [List.mem_cons, List.not_mem_nil, or_false] at q; rcases q with rfl <;> exact ⟨by simp, by assumption⟩) hret rfl rfl hlk (D d17_32) (by decide) (by decide) (⟨_, _, rfl, rfl, by have q := B146; rw [← hz]; exact q⟩)
theorem d13_0 : decode jdk_68_method_9_code 0 = .ok (.aload_n 0, 1) := by decide +kernel
theorem d13_1 : decode jdk_68_method_9_code 1 = .ok (.getfield 15, 3) := by decide +kernel
theorem d13_4 : decode jdk_68_method_9_code 4 = .ok (.arraylength, 1) := by decide +kernel
theorem d13_5 : decode jdk_68_method_9_code 5 = .ok (.aload_n 0, 1) := by decide +kernel
theorem d13_6 : decode jdk_68_method_9_code 6 = .ok (.getfield 22, 3) := by decide +kernel
theorem d13_9 : decode jdk_68_method_9_code 9 = .ok (.ishr, 1) := by decide +kernel
theorem d13_10 : decode jdk_68_method_9_code 10 = .ok (.istore_n 2, 1) := by decide +kernel
theorem d13_11 : decode jdk_68_method_9_code 11 = .ok (.iload_n 1, 1) := by decide +kernel
theorem d13_12 : decode jdk_68_method_9_code 12 = .ok (.iload_n 2, 1) := by decide +kernel
theorem d13_13 : decode jdk_68_method_9_code 13 = .ok (.isub, 1) := by decide +kernel
theorem d13_14 : decode jdk_68_method_9_code 14 = .ok (.ifCond .le 24, 3) := by decide +kernel
theorem d13_17 : decode jdk_68_method_9_code 17 = .ok (.aload_n 0, 1) := by decide +kernel
theorem d13_18 : decode jdk_68_method_9_code 18 = .ok (.aload_n 0, 1) := by decide +kernel
theorem d13_19 : decode jdk_68_method_9_code 19 = .ok (.getfield 15, 3) := by decide +kernel
theorem d13_22 : decode jdk_68_method_9_code 22 = .ok (.aload_n 0, 1) := by decide +kernel
theorem d13_23 : decode jdk_68_method_9_code 23 = .ok (.iload_n 1, 1) := by decide +kernel
theorem d13_24 : decode jdk_68_method_9_code 24 = .ok (.invokevirtual 104, 3) := by decide +kernel
theorem d13_27 : decode jdk_68_method_9_code 27 = .ok (.aload_n 0, 1) := by decide +kernel
theorem d13_28 : decode jdk_68_method_9_code 28 = .ok (.getfield 22, 3) := by decide +kernel
theorem d13_31 : decode jdk_68_method_9_code 31 = .ok (.ishl, 1) := by decide +kernel
theorem d13_32 : decode jdk_68_method_9_code 32 = .ok (.invokestatic 108, 3) := by decide +kernel
theorem d13_35 : decode jdk_68_method_9_code 35 = .ok (.putfield 15, 3) := by decide +kernel
theorem d13_38 : decode jdk_68_method_9_code 38 = .ok (.return_, 1) := by decide +kernel
theorem pd_4 : parseMethodDescriptor "(I)I" = some ⟨[.int], (some .int)⟩ := by decide +kernel
theorem pd_5 : parseMethodDescriptor "([BI)[B" = some ⟨[(.array .byte), .int], (some (.array .byte))⟩ := by decide +kernel
set_option maxRecDepth 65536 in
set_option maxHeartbeats 40000000 in
theorem ctECG0_22_16 (l : Launch) (Z : State) (a0 : Array Value) (hw : ∀ d ∈ tables_1, d.before a0 Z = true) (hEL : EW Z a0 consts_1) (z0 : Int32) (S0 : Sta Z Z.heap "java/lang/String" "COMPACT_STRINGS" "Z" (.int z0)) (hz0 : ¬ z0 = 0) (b d : Addr) (kd : ClassId) (vd : List Value) (h0 : Heap) (n0 : Nat) (EB : Exa Z h0 b "java/lang/StringBuilder") (FV : Fld Z h0 b "java/lang/AbstractStringBuilder" "value" "[B" (.ref d)) (FC : Fld Z h0 b "java/lang/AbstractStringBuilder" "coder" "B" (.int (0 : Int32))) (FN : Fld Z h0 b "java/lang/AbstractStringBuilder" "count" "I" (.int (0 : Int32))) (AD : Arv Z h0 d kd .byte (16 : Int32) vd (.int 0)) (hvd : vd.length = 16) :
    CtF l Z consts_1 [] (⟨"java/lang/AbstractStringBuilder", "ensureCapacityInternal", "(I)V"⟩ : MethodName) jdk_68_method_9_code 3 none ({ frames := 3, cells := 1, slots := 34, locals := 48 } : Room) #[(.ref b), (.int (22 : Int32))] h0 n0 [b] (fun v h F => ∃ (r : Addr) (kr : ClassId), v = none ∧ F = [r] ∧ Exa Z h b "java/lang/StringBuilder" ∧ Fld Z h b "java/lang/AbstractStringBuilder" "value" "[B" (.ref r) ∧ Fld Z h b "java/lang/AbstractStringBuilder" "coder" "B" (.int (0 : Int32)) ∧ Fld Z h b "java/lang/AbstractStringBuilder" "count" "I" (.int (0 : Int32)) ∧ Arv Z h r kr .byte (34 : Int32) (vd ++ ([(.int (0 : Int32)), (.int (0 : Int32)), (.int (0 : Int32)), (.int (0 : Int32)), (.int (0 : Int32)), (.int (0 : Int32)), (.int (0 : Int32)), (.int (0 : Int32)), (.int (0 : Int32)), (.int (0 : Int32)), (.int (0 : Int32)), (.int (0 : Int32)), (.int (0 : Int32)), (.int (0 : Int32)), (.int (0 : Int32)), (.int (0 : Int32)), (.int (0 : Int32)), (.int (0 : Int32))] : List Value)) (.int 0)) := by
  have w : ∀ {d : Jvm.Cond} (i : Nat), tables_1[i]? = some d → d.before a0 Z = true := fun i q => hw _ (List.mem_of_getElem? q)
  refine CtF.enter (plainFor_of_name pn_1) hEL ?_
  intro p e sS m below meth c T0 hby hml0 hret hlk hnm hs0 X0
  have hml : c.maxLocals = 3 := hml0
  have D : ∀ {pc : Nat} {r : Except DecodeError (Instr × Nat)}, decode jdk_68_method_9_code pc = r → decode c.code pc = r := fun q => hb hby q
  rw [show entryFrame m #[(.ref b), (.int (22 : Int32))] 3 = mkF m 0 #[.val (.ref b), .val (.int (22 : Int32)), .unset] [] from by first | (simp [entryFrame, mkF, argsToLocals, Value.category]; done) | rfl]
  refine X0.aloadN (x := (.ref b)) (D d13_0) rfl rfl ?_
  refine X0.getf (w 51 rfl) Via.refl FV (D d13_1) ?_
  intro T148 X149
  show Goes p.tables e below _ (T148.setTop (mkF m 4 #[.val (.ref b), .val (.int (22 : Int32)), .unset] [(.ref d)]))
  refine X149.alen AD (D d13_4) ?_
  refine X149.aloadN (x := (.ref b)) (D d13_5) rfl rfl ?_
  refine X149.getf (w 53 rfl) Via.refl FC (D d13_6) ?_
  intro T150 X151
  show Goes p.tables e below _ (T150.setTop (mkF m 9 #[.val (.ref b), .val (.int (22 : Int32)), .unset] [(.int (0 : Int32)), (.int (16 : Int32))]))
  refine X151.ishr (D d13_9) ?_
  show Goes p.tables e below _ (T150.setTop (mkF m 10 #[.val (.ref b), .val (.int (22 : Int32)), .unset] [(.int (16 : Int32))]))
  refine X151.istoreN #[.val (.ref b), .val (.int (22 : Int32)), .val (.int (16 : Int32))] (D d13_10) rfl ?_
  refine X151.iloadN (x := (22 : Int32)) (D d13_11) rfl ?_
  refine X151.iloadN (x := (16 : Int32)) (D d13_12) rfl ?_
  refine X151.isub (D d13_13) ?_
  show Goes p.tables e below _ (T150.setTop (mkF m 14 #[.val (.ref b), .val (.int (22 : Int32)), .val (.int (16 : Int32))] [(.int (6 : Int32))]))
  refine X151.if_le 38 (D d13_14) ⟨by decide, by decide⟩ (fun hc152 => absurd hc152 (by decide)) (fun hc152 => ?_)
  refine X151.aloadN (x := (.ref b)) (D d13_17) rfl rfl ?_
  refine X151.aloadN (x := (.ref b)) (D d13_18) rfl rfl ?_
  refine X151.getf (w 51 rfl) Via.refl FV (D d13_19) ?_
  intro T153 X154
  show Goes p.tables e below _ (T153.setTop (mkF m 22 #[.val (.ref b), .val (.int (22 : Int32)), .val (.int (16 : Int32))] [(.ref d), (.ref b)]))
  refine X154.aloadN (x := (.ref b)) (D d13_22) rfl rfl ?_
  refine X154.iloadN (x := (22 : Int32)) (D d13_23) rfl ?_
  refine X154.callvF (y := (⟨"java/lang/AbstractStringBuilder", "newCapacity", "(I)I"⟩ : MethodName)) (z := (⟨"java/lang/AbstractStringBuilder", "newCapacity", "(I)I"⟩ : MethodName)) (a := b) (C := "java/lang/StringBuilder") [(.int (22 : Int32))] [(.ref d), (.ref b)] (ctNCG0_22_16 l Z a0 hw hEL z0 S0 hz0 b d kd vd _ _ EB FV FC AD hvd).toF EB (w 85 rfl) (decOf (w 86 rfl) (w 89 rfl)) (w 88 rfl) (w 86 rfl) (nfOf (w 88 rfl) rfl) (w 47 rfl) (w 89 rfl) (by decide) (fun _ q => nomatch q) (by decide) 2 (by decide) (by decide) (by decide) (lenOf pd_4 rfl) rfl (Nat.le_of_ble_eq_true rfl) (by rw [hml]; rfl) (D d13_24) ?_
  rintro T155 h156 _ _ X158 K159 hg160 ⟨rfl, rfl⟩
  have F161 := EB.keep K159
  have F162 := FV.keep K159 nin0
  have F163 := FC.keep K159 nin0
  have F164 := FN.keep K159 nin0
  have F165 := AD.keep K159 nin0
  show Goes p.tables e below _ (T155.setTop (mkF m 27 #[.val (.ref b), .val (.int (22 : Int32)), .val (.int (16 : Int32))] [(.int (34 : Int32)), (.ref d), (.ref b)]))
  refine X158.aloadN (x := (.ref b)) (D d13_27) rfl rfl ?_
  refine X158.getf (w 53 rfl) Via.refl F163 (D d13_28) ?_
  intro T166 X167
  show Goes p.tables e below _ (T166.setTop (mkF m 31 #[.val (.ref b), .val (.int (22 : Int32)), .val (.int (16 : Int32))] [(.int (0 : Int32)), (.int (34 : Int32)), (.ref d), (.ref b)]))
  refine X167.ishl (D d13_31) ?_
  show Goes p.tables e below _ (T166.setTop (mkF m 32 #[.val (.ref b), .val (.int (22 : Int32)), .val (.int (16 : Int32))] [(.int (34 : Int32)), (.ref d), (.ref b)]))
  refine X167.callsF [(.ref d), (.int (34 : Int32))] [(.ref b)] (ctCOG0_22_16 l Z a0 hw hEL z0 S0 hz0 d kd vd _ _ F165 hvd) (w 100 rfl) (w 101 rfl) (w 102 rfl) (w 103 rfl) (by decide) (fun _ q => nomatch q) (by decide) 1 (by decide) (by decide) (by decide) (lenOf pd_5 rfl) rfl (Nat.le_of_ble_eq_true rfl) (by rw [hml]; rfl) (D d13_32) ?_
  rintro T168 h169 _ _ X171 K172 hg173 ⟨r, kr, rfl, rfl, A1⟩
  have F174 := F161.keep K172
  have F175 := F162.keep K172 nin0
  have F176 := F163.keep K172 nin0
  have F177 := F164.keep K172 nin0
  have F178 := F165.keep K172 nin0
  have fg179 := hg173 r (by simp)
  have ge180 : sS.heap.size ≤ r := Nat.le_trans X167.kept.1 fg179
  have lt181 : b < r := Nat.lt_of_lt_of_le F161.lt fg179
  have lt182 : d < r := Nat.lt_of_lt_of_le F165.lt fg179
  show Goes p.tables e below _ (T168.setTop (mkF m 35 #[.val (.ref b), .val (.int (22 : Int32)), .val (.int (16 : Int32))] [(.ref r), (.ref b)]))
  refine X171.putf (w 51 rfl) Via.refl F175 F174 (Or.inl (w 52 rfl)) (w 38 rfl) (ty := (.array .byte)) (by decide) rfl rfl (D d13_35) (by simp) ?_
  intro T183 h184 X185 W186
  have F187 := F175.same W186
  have F188 := F174.wr W186
  have F189 := F176.other W186 (Or.inr (slot_ne (t := .byte) (t' := (.array .byte)) (Or.inl (w 54 rfl)) (Or.inl (w 52 rfl)) (by decide) (by decide) (by decide)))
  have F190 := F177.other W186 (Or.inr (slot_ne (t := .int) (t' := (.array .byte)) (Or.inl (w 79 rfl)) (Or.inl (w 52 rfl)) (by decide) (by decide) (by decide)))
  have F191 := F178.other W186 (Exa.neArv F174 F178 (w 38 rfl)).symm
  have F192 := A1.other W186 (Nat.ne_of_gt lt181)
  show Goes p.tables e below _ (T183.setTop (mkF m 38 #[.val (.ref b), .val (.int (22 : Int32)), .val (.int (16 : Int32))] []))
  exact X185.retnF [r] (fun x q => by simp only [List.mem_cons, List.not_mem_nil, or_false] at q; rcases q with rfl <;> exact ⟨by simp, by assumption⟩) hret hlk (D d13_38) (by decide) (by decide) (⟨r, _, rfl, rfl, F188, F187, F189, F190, F192⟩)
theorem d21_0 : decode jdk_42_method_147_code 0 = .ok (.aload_n 0, 1) := by decide +kernel
theorem d21_1 : decode jdk_42_method_147_code 1 = .ok (.invokevirtual 335, 3) := by decide +kernel
theorem d21_4 : decode jdk_42_method_147_code 4 = .ok (.iload_n 3, 1) := by decide +kernel
theorem d21_5 : decode jdk_42_method_147_code 5 = .ok (.if_icmp .ne 23, 3) := by decide +kernel
theorem d21_8 : decode jdk_42_method_147_code 8 = .ok (.aload_n 0, 1) := by decide +kernel
theorem d21_9 : decode jdk_42_method_147_code 9 = .ok (.getfield 9, 3) := by decide +kernel
theorem d21_12 : decode jdk_42_method_147_code 12 = .ok (.iconst 0, 1) := by decide +kernel
theorem d21_13 : decode jdk_42_method_147_code 13 = .ok (.aload_n 1, 1) := by decide +kernel
theorem d21_14 : decode jdk_42_method_147_code 14 = .ok (.iload_n 2, 1) := by decide +kernel
theorem d21_15 : decode jdk_42_method_147_code 15 = .ok (.iload_n 3, 1) := by decide +kernel
theorem d21_16 : decode jdk_42_method_147_code 16 = .ok (.ishl, 1) := by decide +kernel
theorem d21_17 : decode jdk_42_method_147_code 17 = .ok (.aload_n 0, 1) := by decide +kernel
theorem d21_18 : decode jdk_42_method_147_code 18 = .ok (.getfield 9, 3) := by decide +kernel
theorem d21_21 : decode jdk_42_method_147_code 21 = .ok (.arraylength, 1) := by decide +kernel
theorem d21_22 : decode jdk_42_method_147_code 22 = .ok (.invokestatic 212, 3) := by decide +kernel
theorem d21_25 : decode jdk_42_method_147_code 25 = .ok (.goto 18, 3) := by decide +kernel
theorem d21_28 : decode jdk_42_method_147_code 28 = .ok (.aload_n 0, 1) := by decide +kernel
theorem d21_29 : decode jdk_42_method_147_code 29 = .ok (.getfield 9, 3) := by decide +kernel
theorem d21_32 : decode jdk_42_method_147_code 32 = .ok (.iconst 0, 1) := by decide +kernel
theorem d21_33 : decode jdk_42_method_147_code 33 = .ok (.aload_n 1, 1) := by decide +kernel
theorem d21_34 : decode jdk_42_method_147_code 34 = .ok (.iload_n 2, 1) := by decide +kernel
theorem d21_35 : decode jdk_42_method_147_code 35 = .ok (.aload_n 0, 1) := by decide +kernel
theorem d21_36 : decode jdk_42_method_147_code 36 = .ok (.getfield 9, 3) := by decide +kernel
theorem d21_39 : decode jdk_42_method_147_code 39 = .ok (.arraylength, 1) := by decide +kernel
theorem d21_40 : decode jdk_42_method_147_code 40 = .ok (.invokestatic 106, 3) := by decide +kernel
theorem d21_43 : decode jdk_42_method_147_code 43 = .ok (.return_, 1) := by decide +kernel
set_option maxRecDepth 65536 in
set_option maxHeartbeats 40000000 in
theorem ctGB0_22_34 (l : Launch) (Z : State) (a0 : Array Value) (hw : ∀ d ∈ tables_1, d.before a0 Z = true) (hEL : EW Z a0 consts_1) (z0 : Int32) (S0 : Sta Z Z.heap "java/lang/String" "COMPACT_STRINGS" "Z" (.int z0)) (hz0 : ¬ z0 = 0) (s t d : Addr) (kd : ClassId) (cs : List Int32) (vd : List Value) (h0 : Heap) (n0 : Nat) (OS : OStr Z h0 s t cs) (hl_s : cs.length = 22) (ntd : t ≠ d) (AD : Arv Z h0 d kd .byte (34 : Int32) vd (.int 0)) (hvd : vd.length = 34) :
    Ct l Z consts_1 [] (⟨"java/lang/String", "getBytes", "([BIB)V"⟩ : MethodName) jdk_42_method_147_code 4 none ({ frames := 1, cells := 0, slots := 0, locals := 18 } : Room) #[(.ref s), (.ref d), (.int (0 : Int32)), (.int (0 : Int32))] h0 n0 [d] (fun v h => v = none ∧ Arv Z h d kd .byte (34 : Int32) (vd.take 0 ++ ((cs.map StrChars.lo8).map Value.int) ++ vd.drop (0 + 22)) (.int 0)) := by
  have w : ∀ {d : Jvm.Cond} (i : Nat), tables_1[i]? = some d → d.before a0 Z = true := fun i q => hw _ (List.mem_of_getElem? q)
  refine Ct.enter (plainFor_of_name pn_0) hEL ?_
  intro p e sS m below meth c T0 hby hml0 hret hlk hnm hs0 X0
  have hml : c.maxLocals = 4 := hml0
  have D : ∀ {pc : Nat} {r : Except DecodeError (Instr × Nat)}, decode jdk_42_method_147_code pc = r → decode c.code pc = r := fun q => hb hby q
  rw [show entryFrame m #[(.ref s), (.ref d), (.int (0 : Int32)), (.int (0 : Int32))] 4 = mkF m 0 #[.val (.ref s), .val (.ref d), .val (.int (0 : Int32)), .val (.int (0 : Int32))] [] from by first | (simp [entryFrame, mkF, argsToLocals, Value.category]; done) | rfl]
  obtain ⟨F193, hp194, hl195, kb196, F197, F198, F199⟩ := id OS
  have F200 : Arv Z h0 t kb196 .byte (22 : Int32) ((cs.map StrChars.lo8).map Value.int) (.int 0) := by have q := F199; rw [hl_s] at q; exact q
  refine X0.aloadN (x := (.ref s)) (D d21_0) rfl rfl ?_
  refine X0.callvF (y := (⟨"java/lang/String", "coder", "()B"⟩ : MethodName)) (z := (⟨"java/lang/String", "coder", "()B"⟩ : MethodName)) (a := s) (C := "java/lang/String") [] [] (ctCdr l Z a0 hw hEL z0 S0 hz0 s _ _ F198).toF F193 (w 73 rfl) (w 74 rfl) (w 76 rfl) (w 75 rfl) (nfOf (w 76 rfl) rfl) (w 2 rfl) (w 77 rfl) (by decide) (fun _ q => nomatch q) (by decide) 0 (by decide) (by decide) (by decide) (lenOf pd_1 rfl) rfl (Nat.le_of_ble_eq_true rfl) (by rw [hml]; rfl) (D d21_1) ?_
  rintro T201 h202 _ _ X204 K205 hg206 ⟨rfl, rfl⟩
  have F207 := OS.keep K205 nin0 nin0
  have F208 := AD.keep K205 nin0
  have F209 := F193.keep K205
  have F210 := F197.keep K205 nin0
  have F211 := F198.keep K205 nin0
  have F212 := F200.keep K205 nin0
  show Goes p.tables e below _ (T201.setTop (mkF m 4 #[.val (.ref s), .val (.ref d), .val (.int (0 : Int32)), .val (.int (0 : Int32))] [(.int (0 : Int32))]))
  refine X204.iloadN (x := (0 : Int32)) (D d21_4) rfl ?_
  refine X204.icmp_ne 28 (D d21_5) ⟨by decide, by decide⟩ (fun hc213 => absurd hc213 (by decide)) (fun hc213 => ?_)
  refine X204.aloadN (x := (.ref s)) (D d21_8) rfl rfl ?_
  refine X204.getf (w 28 rfl) Via.refl F210 (D d21_9) ?_
  intro T214 X215
  show Goes p.tables e below _ (T214.setTop (mkF m 12 #[.val (.ref s), .val (.ref d), .val (.int (0 : Int32)), .val (.int (0 : Int32))] [(.ref t)]))
  refine X215.iconst (x := (0 : Int32)) (D d21_12) rfl ?_
  refine X215.aloadN (x := (.ref d)) (D d21_13) rfl rfl ?_
  refine X215.iloadN (x := (0 : Int32)) (D d21_14) rfl ?_
  refine X215.iloadN (x := (0 : Int32)) (D d21_15) rfl ?_
  refine X215.ishl (D d21_16) ?_
  show Goes p.tables e below _ (T214.setTop (mkF m 17 #[.val (.ref s), .val (.ref d), .val (.int (0 : Int32)), .val (.int (0 : Int32))] [(.int (0 : Int32)), (.ref d), (.int (0 : Int32)), (.ref t)]))
  refine X215.aloadN (x := (.ref s)) (D d21_17) rfl rfl ?_
  refine X215.getf (w 28 rfl) Via.refl F210 (D d21_18) ?_
  intro T216 X217
  show Goes p.tables e below _ (T216.setTop (mkF m 21 #[.val (.ref s), .val (.ref d), .val (.int (0 : Int32)), .val (.int (0 : Int32))] [(.ref t), (.int (0 : Int32)), (.ref d), (.int (0 : Int32)), (.ref t)]))
  refine X217.alen F212 (D d21_21) ?_
  show Goes p.tables e below _ (T216.setTop (mkF m 22 #[.val (.ref s), .val (.ref d), .val (.int (0 : Int32)), .val (.int (0 : Int32))] [(.int (22 : Int32)), (.int (0 : Int32)), (.ref d), (.int (0 : Int32)), (.ref t)]))
  refine X217.acopy (us := ((cs.map StrChars.lo8).map Value.int)) (w 127 rfl) (w 110 rfl) (w 108 rfl) (w 109 rfl) F212 F208 (by decide) (by decide) (by decide) (by decide) (by decide) (slice0 (mlen hl_s)) (by rw [hvd]; decide) (by simp) (by rw [hml]; rfl) (D d21_22) (by decide) 0 (Nat.le_of_ble_eq_true rfl) (by decide) ?_
  intro T218 h219 X220 K221 B222
  have F223 := F207.keep K221 (ninS (Exa.neArv F209 F208 (w 1 rfl)) nin0) (ninS ntd nin0)
  have F224 := F209.keep K221
  have F225 := F210.keep K221 (ninS (Exa.neArv F209 F208 (w 1 rfl)) nin0)
  have F226 := F211.keep K221 (ninS (Exa.neArv F209 F208 (w 1 rfl)) nin0)
  have F227 := F212.keep K221 (ninS ntd nin0)
  show Goes p.tables e below _ (T218.setTop (mkF m 25 #[.val (.ref s), .val (.ref d), .val (.int (0 : Int32)), .val (.int (0 : Int32))] []))
  refine X220.goto 43 (D d21_25) ⟨by decide, by decide⟩ ?_
  exact X220.retn hret hlk (D d21_43) (by decide) (by decide) (⟨rfl, B222⟩)
theorem d19_0 : decode jdk_68_method_73_code 0 = .ok (.aload_n 0, 1) := by decide +kernel
theorem d19_1 : decode jdk_68_method_73_code 1 = .ok (.aload_n 2, 1) := by decide +kernel
theorem d19_2 : decode jdk_68_method_73_code 2 = .ok (.invokevirtual 397, 3) := by decide +kernel
theorem d19_5 : decode jdk_68_method_73_code 5 = .ok (.aload_n 2, 1) := by decide +kernel
theorem d19_6 : decode jdk_68_method_73_code 6 = .ok (.aload_n 0, 1) := by decide +kernel
theorem d19_7 : decode jdk_68_method_73_code 7 = .ok (.getfield 15, 3) := by decide +kernel
theorem d19_10 : decode jdk_68_method_73_code 10 = .ok (.iload_n 1, 1) := by decide +kernel
theorem d19_11 : decode jdk_68_method_73_code 11 = .ok (.aload_n 0, 1) := by decide +kernel
theorem d19_12 : decode jdk_68_method_73_code 12 = .ok (.getfield 22, 3) := by decide +kernel
theorem d19_15 : decode jdk_68_method_73_code 15 = .ok (.invokevirtual 399, 3) := by decide +kernel
theorem d19_18 : decode jdk_68_method_73_code 18 = .ok (.return_, 1) := by decide +kernel
theorem pd_6 : parseMethodDescriptor "(Ljava/lang/String;)V" = some ⟨[(.object "java/lang/String")], none⟩ := by decide +kernel
theorem pd_7 : parseMethodDescriptor "([BIB)V" = some ⟨[(.array .byte), .int, .byte], none⟩ := by decide +kernel
set_option maxRecDepth 65536 in
set_option maxHeartbeats 40000000 in
theorem ctPS0_22_34 (l : Launch) (Z : State) (a0 : Array Value) (hw : ∀ d ∈ tables_1, d.before a0 Z = true) (hEL : EW Z a0 consts_1) (z0 : Int32) (S0 : Sta Z Z.heap "java/lang/String" "COMPACT_STRINGS" "Z" (.int z0)) (hz0 : ¬ z0 = 0) (b d s t : Addr) (kd : ClassId) (cs : List Int32) (vd : List Value) (h0 : Heap) (n0 : Nat) (EB : Exa Z h0 b "java/lang/StringBuilder") (FV : Fld Z h0 b "java/lang/AbstractStringBuilder" "value" "[B" (.ref d)) (FC : Fld Z h0 b "java/lang/AbstractStringBuilder" "coder" "B" (.int (0 : Int32))) (AD : Arv Z h0 d kd .byte (34 : Int32) vd (.int 0)) (hvd : vd.length = 34) (OS : OStr Z h0 s t cs) (hl_s : cs.length = 22) (ntd : t ≠ d) :
    Ct l Z consts_1 [] (⟨"java/lang/AbstractStringBuilder", "putStringAt", "(ILjava/lang/String;)V"⟩ : MethodName) jdk_68_method_73_code 3 none ({ frames := 2, cells := 0, slots := 0, locals := 33 } : Room) #[(.ref b), (.int (0 : Int32)), (.ref s)] h0 n0 [d] (fun v h => v = none ∧ Arv Z h d kd .byte (34 : Int32) (vd.take 0 ++ ((cs.map StrChars.lo8).map Value.int) ++ vd.drop (0 + 22)) (.int 0)) := by
  have w : ∀ {d : Jvm.Cond} (i : Nat), tables_1[i]? = some d → d.before a0 Z = true := fun i q => hw _ (List.mem_of_getElem? q)
  refine Ct.enter (plainFor_of_name pn_1) hEL ?_
  intro p e sS m below meth c T0 hby hml0 hret hlk hnm hs0 X0
  have hml : c.maxLocals = 3 := hml0
  have D : ∀ {pc : Nat} {r : Except DecodeError (Instr × Nat)}, decode jdk_68_method_73_code pc = r → decode c.code pc = r := fun q => hb hby q
  rw [show entryFrame m #[(.ref b), (.int (0 : Int32)), (.ref s)] 3 = mkF m 0 #[.val (.ref b), .val (.int (0 : Int32)), .val (.ref s)] [] from by first | (simp [entryFrame, mkF, argsToLocals, Value.category]; done) | rfl]
  obtain ⟨qE, -, -, _, -, qC, -⟩ := id OS
  refine X0.aloadN (x := (.ref b)) (D d19_0) rfl rfl ?_
  refine X0.aloadN (x := (.ref s)) (D d19_1) rfl rfl ?_
  refine X0.callvF (y := (⟨"java/lang/AbstractStringBuilder", "inflateIfNeededFor", "(Ljava/lang/String;)V"⟩ : MethodName)) (z := (⟨"java/lang/AbstractStringBuilder", "inflateIfNeededFor", "(Ljava/lang/String;)V"⟩ : MethodName)) (a := b) (C := "java/lang/StringBuilder") [(.ref s)] [] (ctInf l Z a0 hw hEL z0 S0 hz0 b d s _ _ EB FV FC qE qC).toF EB (w 116 rfl) (decOf (w 117 rfl) (w 120 rfl)) (w 119 rfl) (w 117 rfl) (nfOf (w 119 rfl) rfl) (w 47 rfl) (w 120 rfl) (by decide) (fun _ q => nomatch q) (by decide) 0 (by decide) (by decide) (by decide) (lenOf pd_6 rfl) rfl (Nat.le_of_ble_eq_true rfl) (by rw [hml]; rfl) (D d19_2) ?_
  rintro T228 h229 _ _ X231 K232 hg233 ⟨rfl, rfl⟩
  have F234 := EB.keep K232
  have F235 := FV.keep K232 nin0
  have F236 := FC.keep K232 nin0
  have F237 := AD.keep K232 nin0
  have F238 := OS.keep K232 nin0 nin0
  show Goes p.tables e below _ (T228.setTop (mkF m 5 #[.val (.ref b), .val (.int (0 : Int32)), .val (.ref s)] []))
  refine X231.aloadN (x := (.ref s)) (D d19_5) rfl rfl ?_
  refine X231.aloadN (x := (.ref b)) (D d19_6) rfl rfl ?_
  refine X231.getf (w 51 rfl) Via.refl F235 (D d19_7) ?_
  intro T239 X240
  show Goes p.tables e below _ (T239.setTop (mkF m 10 #[.val (.ref b), .val (.int (0 : Int32)), .val (.ref s)] [(.ref d), (.ref s)]))
  refine X240.iloadN (x := (0 : Int32)) (D d19_10) rfl ?_
  refine X240.aloadN (x := (.ref b)) (D d19_11) rfl rfl ?_
  refine X240.getf (w 53 rfl) Via.refl F236 (D d19_12) ?_
  intro T241 X242
  show Goes p.tables e below _ (T241.setTop (mkF m 15 #[.val (.ref b), .val (.int (0 : Int32)), .val (.ref s)] [(.int (0 : Int32)), (.int (0 : Int32)), (.ref d), (.ref s)]))
  refine X242.callvF (y := (⟨"java/lang/String", "getBytes", "([BIB)V"⟩ : MethodName)) (z := (⟨"java/lang/String", "getBytes", "([BIB)V"⟩ : MethodName)) (a := s) (C := "java/lang/String") [(.ref d), (.int (0 : Int32)), (.int (0 : Int32))] [] (ctGB0_22_34 l Z a0 hw hEL z0 S0 hz0 s t d kd cs vd _ _ F238 hl_s ntd F237 hvd).toF F238.1 (w 122 rfl) (w 123 rfl) (w 125 rfl) (w 124 rfl) (nfOf (w 125 rfl) rfl) (w 2 rfl) (w 126 rfl) (by decide) (by simp) (by decide) 0 (by decide) (by decide) (by decide) (lenOf pd_7 rfl) rfl (Nat.le_of_ble_eq_true rfl) (by rw [hml]; rfl) (D d19_15) ?_
  rintro T243 h244 _ _ X246 K247 hg248 ⟨rfl, rfl, A1⟩
  have F249 := F234.keep K247
  have F250 := F235.keep K247 (ninS (Exa.neArv F234 F237 (w 38 rfl)) nin0)
  have F251 := F236.keep K247 (ninS (Exa.neArv F234 F237 (w 38 rfl)) nin0)
  have F252 := F238.keep K247 (ninS (Exa.neArv F238.1 F237 (w 1 rfl)) nin0) (ninS ntd nin0)
  show Goes p.tables e below _ (T243.setTop (mkF m 18 #[.val (.ref b), .val (.int (0 : Int32)), .val (.ref s)] []))
  exact X246.retn hret hlk (D d19_18) (by decide) (by decide) (⟨rfl, A1⟩)
theorem d10_0 : decode jdk_68_method_22_code 0 = .ok (.aload_n 1, 1) := by decide +kernel
theorem d10_1 : decode jdk_68_method_22_code 1 = .ok (.ifnonnull 8, 3) := by decide +kernel
theorem d10_4 : decode jdk_68_method_22_code 4 = .ok (.aload_n 0, 1) := by decide +kernel
theorem d10_5 : decode jdk_68_method_22_code 5 = .ok (.invokevirtual 204, 3) := by decide +kernel
theorem d10_8 : decode jdk_68_method_22_code 8 = .ok (.areturn, 1) := by decide +kernel
theorem d10_9 : decode jdk_68_method_22_code 9 = .ok (.aload_n 1, 1) := by decide +kernel
theorem d10_10 : decode jdk_68_method_22_code 10 = .ok (.invokevirtual 32, 3) := by decide +kernel
theorem d10_13 : decode jdk_68_method_22_code 13 = .ok (.istore_n 2, 1) := by decide +kernel
theorem d10_14 : decode jdk_68_method_22_code 14 = .ok (.aload_n 0, 1) := by decide +kernel
theorem d10_15 : decode jdk_68_method_22_code 15 = .ok (.aload_n 0, 1) := by decide +kernel
theorem d10_16 : decode jdk_68_method_22_code 16 = .ok (.getfield 79, 3) := by decide +kernel
theorem d10_19 : decode jdk_68_method_22_code 19 = .ok (.iload_n 2, 1) := by decide +kernel
theorem d10_20 : decode jdk_68_method_22_code 20 = .ok (.iadd, 1) := by decide +kernel
theorem d10_21 : decode jdk_68_method_22_code 21 = .ok (.invokevirtual 100, 3) := by decide +kernel
theorem d10_24 : decode jdk_68_method_22_code 24 = .ok (.aload_n 0, 1) := by decide +kernel
theorem d10_25 : decode jdk_68_method_22_code 25 = .ok (.aload_n 0, 1) := by decide +kernel
theorem d10_26 : decode jdk_68_method_22_code 26 = .ok (.getfield 79, 3) := by decide +kernel
theorem d10_29 : decode jdk_68_method_22_code 29 = .ok (.aload_n 1, 1) := by decide +kernel
theorem d10_30 : decode jdk_68_method_22_code 30 = .ok (.invokevirtual 208, 3) := by decide +kernel
theorem d10_33 : decode jdk_68_method_22_code 33 = .ok (.aload_n 0, 1) := by decide +kernel
theorem d10_34 : decode jdk_68_method_22_code 34 = .ok (.dup, 1) := by decide +kernel
theorem d10_35 : decode jdk_68_method_22_code 35 = .ok (.getfield 79, 3) := by decide +kernel
theorem d10_38 : decode jdk_68_method_22_code 38 = .ok (.iload_n 2, 1) := by decide +kernel
theorem d10_39 : decode jdk_68_method_22_code 39 = .ok (.iadd, 1) := by decide +kernel
theorem d10_40 : decode jdk_68_method_22_code 40 = .ok (.putfield 79, 3) := by decide +kernel
theorem d10_43 : decode jdk_68_method_22_code 43 = .ok (.aload_n 0, 1) := by decide +kernel
theorem d10_44 : decode jdk_68_method_22_code 44 = .ok (.areturn, 1) := by decide +kernel
theorem pd_8 : parseMethodDescriptor "()I" = some ⟨[], (some .int)⟩ := by decide +kernel
theorem pd_9 : parseMethodDescriptor "(ILjava/lang/String;)V" = some ⟨[.int, (.object "java/lang/String")], none⟩ := by decide +kernel
set_option maxRecDepth 65536 in
set_option maxHeartbeats 40000000 in
theorem ctAAG0_22_16 (l : Launch) (Z : State) (a0 : Array Value) (hw : ∀ d ∈ tables_1, d.before a0 Z = true) (hEL : EW Z a0 consts_1) (z0 : Int32) (S0 : Sta Z Z.heap "java/lang/String" "COMPACT_STRINGS" "Z" (.int z0)) (hz0 : ¬ z0 = 0) (b d s t : Addr) (kd : ClassId) (cs : List Int32) (vd : List Value) (h0 : Heap) (n0 : Nat) (EB : Exa Z h0 b "java/lang/StringBuilder") (FV : Fld Z h0 b "java/lang/AbstractStringBuilder" "value" "[B" (.ref d)) (FC : Fld Z h0 b "java/lang/AbstractStringBuilder" "coder" "B" (.int (0 : Int32))) (FN : Fld Z h0 b "java/lang/AbstractStringBuilder" "count" "I" (.int (0 : Int32))) (AD : Arv Z h0 d kd .byte (16 : Int32) vd (.int 0)) (hvd : vd.length = 16) (OS : OStr Z h0 s t cs) (hl_s : cs.length = 22) :
    CtF l Z consts_1 [] (⟨"java/lang/AbstractStringBuilder", "append", "(Ljava/lang/String;)Ljava/lang/AbstractStringBuilder;"⟩ : MethodName) jdk_68_method_22_code 3 (some (.object "java/lang/AbstractStringBuilder")) ({ frames := 4, cells := 1, slots := 34, locals := 62 } : Room) #[(.ref b), (.ref s)] h0 n0 [b] (fun v h F => ∃ (r : Addr) (kr : ClassId), v = some (.ref b) ∧ F = [r] ∧ Exa Z h b "java/lang/StringBuilder" ∧ Fld Z h b "java/lang/AbstractStringBuilder" "value" "[B" (.ref r) ∧ Fld Z h b "java/lang/AbstractStringBuilder" "coder" "B" (.int (0 : Int32)) ∧ Fld Z h b "java/lang/AbstractStringBuilder" "count" "I" (.int (22 : Int32)) ∧ Arv Z h r kr .byte (34 : Int32) ((vd ++ ([(.int (0 : Int32)), (.int (0 : Int32)), (.int (0 : Int32)), (.int (0 : Int32)), (.int (0 : Int32)), (.int (0 : Int32)), (.int (0 : Int32)), (.int (0 : Int32)), (.int (0 : Int32)), (.int (0 : Int32)), (.int (0 : Int32)), (.int (0 : Int32)), (.int (0 : Int32)), (.int (0 : Int32)), (.int (0 : Int32)), (.int (0 : Int32)), (.int (0 : Int32)), (.int (0 : Int32))] : List Value)).take 0 ++ ((cs.map StrChars.lo8).map Value.int) ++ (vd ++ ([(.int (0 : Int32)), (.int (0 : Int32)), (.int (0 : Int32)), (.int (0 : Int32)), (.int (0 : Int32)), (.int (0 : Int32)), (.int (0 : Int32)), (.int (0 : Int32)), (.int (0 : Int32)), (.int (0 : Int32)), (.int (0 : Int32)), (.int (0 : Int32)), (.int (0 : Int32)), (.int (0 : Int32)), (.int (0 : Int32)), (.int (0 : Int32)), (.int (0 : Int32)), (.int (0 : Int32))] : List Value)).drop (0 + 22)) (.int 0)) := by
  have w : ∀ {d : Jvm.Cond} (i : Nat), tables_1[i]? = some d → d.before a0 Z = true := fun i q => hw _ (List.mem_of_getElem? q)
  refine CtF.enter (plainFor_of_name pn_1) hEL ?_
  intro p e sS m below meth c T0 hby hml0 hret hlk hnm hs0 X0
  have hml : c.maxLocals = 3 := hml0
  have D : ∀ {pc : Nat} {r : Except DecodeError (Instr × Nat)}, decode jdk_68_method_22_code pc = r → decode c.code pc = r := fun q => hb hby q
  rw [show entryFrame m #[(.ref b), (.ref s)] 3 = mkF m 0 #[.val (.ref b), .val (.ref s), .unset] [] from by first | (simp [entryFrame, mkF, argsToLocals, Value.category]; done) | rfl]
  refine X0.aloadN (x := (.ref s)) (D d10_0) rfl rfl ?_
  refine X0.ifnonnullR 9 (D d10_1) ⟨by decide, by decide⟩ ?_
  refine X0.aloadN (x := (.ref s)) (D d10_9) rfl rfl ?_
  refine X0.callvF (y := (⟨"java/lang/String", "length", "()I"⟩ : MethodName)) (z := (⟨"java/lang/String", "length", "()I"⟩ : MethodName)) (a := s) (C := "java/lang/String") [] [] (ctLen22 l Z a0 hw hEL z0 S0 hz0 s t cs _ _ OS hl_s).toF OS.1 (w 68 rfl) (w 69 rfl) (w 71 rfl) (w 70 rfl) (nfOf (w 71 rfl) rfl) (w 2 rfl) (w 72 rfl) (by decide) (fun _ q => nomatch q) (by decide) 0 (by decide) (by decide) (by decide) (lenOf pd_8 rfl) rfl (Nat.le_of_ble_eq_true rfl) (by rw [hml]; rfl) (D d10_10) ?_
  rintro T253 h254 _ _ X256 K257 hg258 ⟨rfl, rfl⟩
  have F259 := EB.keep K257
  have F260 := FV.keep K257 nin0
  have F261 := FC.keep K257 nin0
  have F262 := FN.keep K257 nin0
  have F263 := AD.keep K257 nin0
  have F264 := OS.keep K257 nin0 nin0
  show Goes p.tables e below _ (T253.setTop (mkF m 13 #[.val (.ref b), .val (.ref s), .unset] [(.int (22 : Int32))]))
  refine X256.istoreN #[.val (.ref b), .val (.ref s), .val (.int (22 : Int32))] (D d10_13) rfl ?_
  refine X256.aloadN (x := (.ref b)) (D d10_14) rfl rfl ?_
  refine X256.aloadN (x := (.ref b)) (D d10_15) rfl rfl ?_
  refine X256.getf (w 78 rfl) Via.refl F262 (D d10_16) ?_
  intro T265 X266
  show Goes p.tables e below _ (T265.setTop (mkF m 19 #[.val (.ref b), .val (.ref s), .val (.int (22 : Int32))] [(.int (0 : Int32)), (.ref b)]))
  refine X266.iloadN (x := (22 : Int32)) (D d10_19) rfl ?_
  refine X266.iadd (D d10_20) ?_
  show Goes p.tables e below _ (T265.setTop (mkF m 21 #[.val (.ref b), .val (.ref s), .val (.int (22 : Int32))] [(.int (22 : Int32)), (.ref b)]))
  refine X266.callvF (y := (⟨"java/lang/AbstractStringBuilder", "ensureCapacityInternal", "(I)V"⟩ : MethodName)) (z := (⟨"java/lang/AbstractStringBuilder", "ensureCapacityInternal", "(I)V"⟩ : MethodName)) (a := b) (C := "java/lang/StringBuilder") [(.int (22 : Int32))] [] (ctECG0_22_16 l Z a0 hw hEL z0 S0 hz0 b d kd vd _ _ F259 F260 F261 F262 F263 hvd) F259 (w 80 rfl) (decOf (w 81 rfl) (w 84 rfl)) (w 83 rfl) (w 81 rfl) (nfOf (w 83 rfl) rfl) (w 47 rfl) (w 84 rfl) (by decide) (by simp) (by decide) 0 (by decide) (by decide) (by decide) (lenOf pd_0 rfl) rfl (Nat.le_of_ble_eq_true rfl) (by rw [hml]; rfl) (D d10_21) ?_
  rintro T267 h268 _ _ X270 K271 hg272 ⟨r, kr, rfl, rfl, E1, V1, C1, N1, A1⟩
  have F273 := F259.keep K271
  have F274 := F263.keep K271 (ninS (Exa.neArv F259 F263 (w 38 rfl)).symm nin0)
  have F275 := F264.keep K271 (ninS (Exa.ne F264.1 F259 (by decide)) nin0) (ninS (OStr.neT F264 F259 (w 38 rfl)) nin0)
  have fg276 := hg272 r (by simp)
  have ge277 : sS.heap.size ≤ r := Nat.le_trans X266.kept.1 fg276
  have lt278 : b < r := Nat.lt_of_lt_of_le F259.lt fg276
  have lt279 : d < r := Nat.lt_of_lt_of_le F263.lt fg276
  have lt280 : s < r := Nat.lt_of_lt_of_le F264.lt fg276
  have lt281 : t < r := Nat.lt_of_lt_of_le F264.ltb fg276
  show Goes p.tables e below _ (T267.setTop (mkF m 24 #[.val (.ref b), .val (.ref s), .val (.int (22 : Int32))] []))
  refine X270.aloadN (x := (.ref b)) (D d10_24) rfl rfl ?_
  refine X270.aloadN (x := (.ref b)) (D d10_25) rfl rfl ?_
  refine X270.getf (w 78 rfl) Via.refl N1 (D d10_26) ?_
  intro T282 X283
  show Goes p.tables e below _ (T282.setTop (mkF m 29 #[.val (.ref b), .val (.ref s), .val (.int (22 : Int32))] [(.int (0 : Int32)), (.ref b)]))
  refine X283.aloadN (x := (.ref s)) (D d10_29) rfl rfl ?_
  refine X283.callvF (y := (⟨"java/lang/AbstractStringBuilder", "putStringAt", "(ILjava/lang/String;)V"⟩ : MethodName)) (z := (⟨"java/lang/AbstractStringBuilder", "putStringAt", "(ILjava/lang/String;)V"⟩ : MethodName)) (a := b) (C := "java/lang/StringBuilder") [(.int (0 : Int32)), (.ref s)] [] (ctPS0_22_34 l Z a0 hw hEL z0 S0 hz0 b r s t kr cs (vd ++ ([(.int (0 : Int32)), (.int (0 : Int32)), (.int (0 : Int32)), (.int (0 : Int32)), (.int (0 : Int32)), (.int (0 : Int32)), (.int (0 : Int32)), (.int (0 : Int32)), (.int (0 : Int32)), (.int (0 : Int32)), (.int (0 : Int32)), (.int (0 : Int32)), (.int (0 : Int32)), (.int (0 : Int32)), (.int (0 : Int32)), (.int (0 : Int32)), (.int (0 : Int32)), (.int (0 : Int32))] : List Value)) _ _ E1 V1 C1 A1 (by simp [hvd]) F275 hl_s (Nat.ne_of_lt lt281)).toF E1 (w 111 rfl) (decOf (w 112 rfl) (w 115 rfl)) (w 114 rfl) (w 112 rfl) (nfOf (w 114 rfl) rfl) (w 47 rfl) (w 115 rfl) (by decide) (by simp) (by decide) 0 (by decide) (by decide) (by decide) (lenOf pd_9 rfl) rfl (Nat.le_of_ble_eq_true rfl) (by rw [hml]; rfl) (D d10_30) ?_
  rintro T284 h285 _ _ X287 K288 hg289 ⟨rfl, rfl, A2⟩
  have F290 := E1.keep K288
  have F291 := F275.keep K288 (ninS (Nat.ne_of_lt lt280) nin0) (ninS (Nat.ne_of_lt lt281) nin0)
  have F292 := V1.keep K288 (ninS (Nat.ne_of_lt lt278) nin0)
  have F293 := C1.keep K288 (ninS (Nat.ne_of_lt lt278) nin0)
  have F294 := N1.keep K288 (ninS (Nat.ne_of_lt lt278) nin0)
  show Goes p.tables e below _ (T284.setTop (mkF m 33 #[.val (.ref b), .val (.ref s), .val (.int (22 : Int32))] []))
  refine X287.aloadN (x := (.ref b)) (D d10_33) rfl rfl ?_
  refine X287.dup (D d10_34) rfl ?_
  refine X287.getf (w 78 rfl) Via.refl F294 (D d10_35) ?_
  intro T295 X296
  show Goes p.tables e below _ (T295.setTop (mkF m 38 #[.val (.ref b), .val (.ref s), .val (.int (22 : Int32))] [(.int (0 : Int32)), (.ref b)]))
  refine X296.iloadN (x := (22 : Int32)) (D d10_38) rfl ?_
  refine X296.iadd (D d10_39) ?_
  show Goes p.tables e below _ (T295.setTop (mkF m 40 #[.val (.ref b), .val (.ref s), .val (.int (22 : Int32))] [(.int (22 : Int32)), (.ref b)]))
  refine X296.putf (w 78 rfl) Via.refl F294 F290 (Or.inl (w 79 rfl)) (w 38 rfl) (ty := .int) (by decide) rfl rfl (D d10_40) (by simp) ?_
  intro T297 h298 X299 W300
  have F301 := F294.same W300
  have F302 := F290.wr W300
  have F303 := F291.wr W300 (Exa.ne F291.1 F290 (by decide)) (OStr.neT F291 F290 (w 38 rfl))
  have F304 := F292.other W300 (Or.inr (slot_ne (t := (.array .byte)) (t' := .int) (Or.inl (w 52 rfl)) (Or.inl (w 79 rfl)) (by decide) (by decide) (by decide)))
  have F305 := F293.other W300 (Or.inr (slot_ne (t := .byte) (t' := .int) (Or.inl (w 54 rfl)) (Or.inl (w 79 rfl)) (by decide) (by decide) (by decide)))
  have F306 := A2.other W300 (Nat.ne_of_gt lt278)
  show Goes p.tables e below _ (T297.setTop (mkF m 43 #[.val (.ref b), .val (.ref s), .val (.int (22 : Int32))] []))
  refine X299.aloadN (x := (.ref b)) (D d10_43) rfl rfl ?_
  exact X299.retAF [r] (fun x q => by simp only [List.mem_cons, List.not_mem_nil, or_false] at q; rcases q with rfl <;> exact ⟨by simp, by assumption⟩) hret rfl rfl hlk (D d10_44) (by decide) (by decide) (⟨r, _, rfl, rfl, F302, F304, F305, F301, F306⟩)
theorem d9_0 : decode jdk_67_method_7_code 0 = .ok (.aload_n 0, 1) := by decide +kernel
theorem d9_1 : decode jdk_67_method_7_code 1 = .ok (.aload_n 1, 1) := by decide +kernel
theorem d9_2 : decode jdk_67_method_7_code 2 = .ok (.invokespecial 29, 3) := by decide +kernel
theorem d9_5 : decode jdk_67_method_7_code 5 = .ok (.pop, 1) := by decide +kernel
theorem d9_6 : decode jdk_67_method_7_code 6 = .ok (.aload_n 0, 1) := by decide +kernel
theorem d9_7 : decode jdk_67_method_7_code 7 = .ok (.areturn, 1) := by decide +kernel
theorem pd_10 : parseMethodDescriptor "(Ljava/lang/String;)Ljava/lang/AbstractStringBuilder;" = some ⟨[(.object "java/lang/String")], (some (.object "java/lang/AbstractStringBuilder"))⟩ := by decide +kernel
set_option maxRecDepth 65536 in
set_option maxHeartbeats 40000000 in
theorem ctSBaG0_22_16 (l : Launch) (Z : State) (a0 : Array Value) (hw : ∀ d ∈ tables_1, d.before a0 Z = true) (hEL : EW Z a0 consts_1) (z0 : Int32) (S0 : Sta Z Z.heap "java/lang/String" "COMPACT_STRINGS" "Z" (.int z0)) (hz0 : ¬ z0 = 0) (b d s t : Addr) (kd : ClassId) (cs : List Int32) (vd : List Value) (h0 : Heap) (n0 : Nat) (EB : Exa Z h0 b "java/lang/StringBuilder") (FV : Fld Z h0 b "java/lang/AbstractStringBuilder" "value" "[B" (.ref d)) (FC : Fld Z h0 b "java/lang/AbstractStringBuilder" "coder" "B" (.int (0 : Int32))) (FN : Fld Z h0 b "java/lang/AbstractStringBuilder" "count" "I" (.int (0 : Int32))) (AD : Arv Z h0 d kd .byte (16 : Int32) vd (.int 0)) (hvd : vd.length = 16) (OS : OStr Z h0 s t cs) (hl_s : cs.length = 22) :
    CtF l Z consts_1 [] (⟨"java/lang/StringBuilder", "append", "(Ljava/lang/String;)Ljava/lang/StringBuilder;"⟩ : MethodName) jdk_67_method_7_code 2 (some (.object "java/lang/StringBuilder")) ({ frames := 5, cells := 1, slots := 34, locals := 76 } : Room) #[(.ref b), (.ref s)] h0 n0 [b] (fun v h F => ∃ (r : Addr) (kr : ClassId), v = some (.ref b) ∧ F = [r] ∧ Exa Z h b "java/lang/StringBuilder" ∧ Fld Z h b "java/lang/AbstractStringBuilder" "value" "[B" (.ref r) ∧ Fld Z h b "java/lang/AbstractStringBuilder" "coder" "B" (.int (0 : Int32)) ∧ Fld Z h b "java/lang/AbstractStringBuilder" "count" "I" (.int (22 : Int32)) ∧ Arv Z h r kr .byte (34 : Int32) ((vd ++ ([(.int (0 : Int32)), (.int (0 : Int32)), (.int (0 : Int32)), (.int (0 : Int32)), (.int (0 : Int32)), (.int (0 : Int32)), (.int (0 : Int32)), (.int (0 : Int32)), (.int (0 : Int32)), (.int (0 : Int32)), (.int (0 : Int32)), (.int (0 : Int32)), (.int (0 : Int32)), (.int (0 : Int32)), (.int (0 : Int32)), (.int (0 : Int32)), (.int (0 : Int32)), (.int (0 : Int32))] : List Value)).take 0 ++ ((cs.map StrChars.lo8).map Value.int) ++ (vd ++ ([(.int (0 : Int32)), (.int (0 : Int32)), (.int (0 : Int32)), (.int (0 : Int32)), (.int (0 : Int32)), (.int (0 : Int32)), (.int (0 : Int32)), (.int (0 : Int32)), (.int (0 : Int32)), (.int (0 : Int32)), (.int (0 : Int32)), (.int (0 : Int32)), (.int (0 : Int32)), (.int (0 : Int32)), (.int (0 : Int32)), (.int (0 : Int32)), (.int (0 : Int32)), (.int (0 : Int32))] : List Value)).drop (0 + 22)) (.int 0)) := by
  have w : ∀ {d : Jvm.Cond} (i : Nat), tables_1[i]? = some d → d.before a0 Z = true := fun i q => hw _ (List.mem_of_getElem? q)
  refine CtF.enter (plainFor_of_name pn_2) hEL ?_
  intro p e sS m below meth c T0 hby hml0 hret hlk hnm hs0 X0
  have hml : c.maxLocals = 2 := hml0
  have D : ∀ {pc : Nat} {r : Except DecodeError (Instr × Nat)}, decode jdk_67_method_7_code pc = r → decode c.code pc = r := fun q => hb hby q
  rw [show entryFrame m #[(.ref b), (.ref s)] 2 = mkF m 0 #[.val (.ref b), .val (.ref s)] [] from by first | (simp [entryFrame, mkF, argsToLocals, Value.category]; done) | rfl]
  refine X0.aloadN (x := (.ref b)) (D d9_0) rfl rfl ?_
  refine X0.aloadN (x := (.ref s)) (D d9_1) rfl rfl ?_
  refine X0.callu (a := b) [(.ref s)] [] (ctAAG0_22_16 l Z a0 hw hEL z0 S0 hz0 b d s t kd cs vd _ _ EB FV FC FN AD hvd OS hl_s) EB (w 63 rfl) (smOf (w 64 rfl) (w 144 rfl) rfl (by decide)) (w 64 rfl) (w 65 rfl) (by decide) (w 47 rfl) (w 67 rfl) (by simp) (by decide) 0 (by decide) (by decide) (by decide) (lenOf pd_10 rfl) rfl (Nat.le_of_ble_eq_true rfl) (by rw [hml]; rfl) (D d9_2) ?_
  rintro T307 h308 _ _ X310 K311 hg312 ⟨r, kr, rfl, rfl, E1, V1, C1, N1, A1⟩
  have F313 := EB.keep K311
  have F314 := AD.keep K311 (ninS (Exa.neArv EB AD (w 38 rfl)).symm nin0)
  have F315 := OS.keep K311 (ninS (Exa.ne OS.1 EB (by decide)) nin0) (ninS (OStr.neT OS EB (w 38 rfl)) nin0)
  have fg316 := hg312 r (by simp)
  have ge317 : sS.heap.size ≤ r := Nat.le_trans X0.kept.1 fg316
  have lt318 : b < r := Nat.lt_of_lt_of_le EB.lt fg316
  have lt319 : d < r := Nat.lt_of_lt_of_le AD.lt fg316
  have lt320 : s < r := Nat.lt_of_lt_of_le OS.lt fg316
  have lt321 : t < r := Nat.lt_of_lt_of_le OS.ltb fg316
  show Goes p.tables e below _ (T307.setTop (mkF m 5 #[.val (.ref b), .val (.ref s)] [(.ref b)]))
  refine X310.pop (D d9_5) rfl ?_
  refine X310.aloadN (x := (.ref b)) (D d9_6) rfl rfl ?_
  exact X310.retAF [r] (fun x q => by simp only [List.mem_cons, List.not_mem_nil, or_false] at q; rcases q with rfl <;> exact ⟨by simp, by assumption⟩) hret rfl rfl hlk (D d9_7) (by decide) (by decide) (⟨r, _, rfl, rfl, E1, V1, C1, N1, A1⟩)
set_option maxRecDepth 65536 in
set_option maxHeartbeats 40000000 in
theorem ctLen2 (l : Launch) (Z : State) (a0 : Array Value) (hw : ∀ d ∈ tables_1, d.before a0 Z = true) (hEL : EW Z a0 consts_1) (z0 : Int32) (S0 : Sta Z Z.heap "java/lang/String" "COMPACT_STRINGS" "Z" (.int z0)) (hz0 : ¬ z0 = 0) (s t : Addr) (cs : List Int32) (h0 : Heap) (n0 : Nat) (OS : OStr Z h0 s t cs) (hl_s : cs.length = 2) :
    Ct l Z consts_1 [] (⟨"java/lang/String", "length", "()I"⟩ : MethodName) jdk_42_method_54_code 1 (some .int) ({ frames := 1, cells := 0, slots := 0, locals := 13 } : Room) #[(.ref s)] h0 n0 [] (fun v _ => v = some (.int (2 : Int32))) := by
  have w : ∀ {d : Jvm.Cond} (i : Nat), tables_1[i]? = some d → d.before a0 Z = true := fun i q => hw _ (List.mem_of_getElem? q)
  refine Ct.enter (plainFor_of_name pn_0) hEL ?_
  intro p e sS m below meth c T0 hby hml0 hret hlk hnm hs0 X0
  have hml : c.maxLocals = 1 := hml0
  have D : ∀ {pc : Nat} {r : Except DecodeError (Instr × Nat)}, decode jdk_42_method_54_code pc = r → decode c.code pc = r := fun q => hb hby q
  rw [show entryFrame m #[(.ref s)] 1 = mkF m 0 #[.val (.ref s)] [] from by first | (simp [entryFrame, mkF, argsToLocals, Value.category]; done) | rfl]
  obtain ⟨F322, hp323, hl324, kb325, F326, F327, F328⟩ := id OS
  have F329 : Arv Z h0 t kb325 .byte (2 : Int32) ((cs.map StrChars.lo8).map Value.int) (.int 0) := by have q := F328; rw [hl_s] at q; exact q
  refine X0.aloadN (x := (.ref s)) (D d11_0) rfl rfl ?_
  refine X0.getf (w 28 rfl) Via.refl F326 (D d11_1) ?_
  intro T330 X331
  show Goes p.tables e below _ (T330.setTop (mkF m 4 #[.val (.ref s)] [(.ref t)]))
  refine X331.alen F329 (D d11_4) ?_
  refine X331.aloadN (x := (.ref s)) (D d11_5) rfl rfl ?_
  refine X331.callvF (y := (⟨"java/lang/String", "coder", "()B"⟩ : MethodName)) (z := (⟨"java/lang/String", "coder", "()B"⟩ : MethodName)) (a := s) (C := "java/lang/String") [] [(.int (2 : Int32))] (ctCdr l Z a0 hw hEL z0 S0 hz0 s _ _ F327).toF F322 (w 73 rfl) (w 74 rfl) (w 76 rfl) (w 75 rfl) (nfOf (w 76 rfl) rfl) (w 2 rfl) (w 77 rfl) (by decide) (fun _ q => nomatch q) (by decide) 1 (by decide) (by decide) (by decide) (lenOf pd_1 rfl) rfl (Nat.le_of_ble_eq_true rfl) (by rw [hml]; rfl) (D d11_6) ?_
  rintro T332 h333 _ _ X335 K336 hg337 ⟨rfl, rfl⟩
  have F338 := OS.keep K336 nin0 nin0
  have F339 := F322.keep K336
  have F340 := F326.keep K336 nin0
  have F341 := F327.keep K336 nin0
  have F342 := F329.keep K336 nin0
  show Goes p.tables e below _ (T332.setTop (mkF m 9 #[.val (.ref s)] [(.int (0 : Int32)), (.int (2 : Int32))]))
  refine X335.ishr (D d11_9) ?_
  show Goes p.tables e below _ (T332.setTop (mkF m 10 #[.val (.ref s)] [(.int (2 : Int32))]))
  exact X335.retI hret hlk (D d11_10) (by decide) (by decide) (rfl)
set_option maxRecDepth 65536 in
set_option maxHeartbeats 40000000 in
theorem ctGB22_2_34 (l : Launch) (Z : State) (a0 : Array Value) (hw : ∀ d ∈ tables_1, d.before a0 Z = true) (hEL : EW Z a0 consts_1) (z0 : Int32) (S0 : Sta Z Z.heap "java/lang/String" "COMPACT_STRINGS" "Z" (.int z0)) (hz0 : ¬ z0 = 0) (s t d : Addr) (kd : ClassId) (cs : List Int32) (vd : List Value) (h0 : Heap) (n0 : Nat) (OS : OStr Z h0 s t cs) (hl_s : cs.length = 2) (ntd : t ≠ d) (AD : Arv Z h0 d kd .byte (34 : Int32) vd (.int 0)) (hvd : vd.length = 34) :
    Ct l Z consts_1 [] (⟨"java/lang/String", "getBytes", "([BIB)V"⟩ : MethodName) jdk_42_method_147_code 4 none ({ frames := 1, cells := 0, slots := 0, locals := 18 } : Room) #[(.ref s), (.ref d), (.int (22 : Int32)), (.int (0 : Int32))] h0 n0 [d] (fun v h => v = none ∧ Arv Z h d kd .byte (34 : Int32) (vd.take 22 ++ ((cs.map StrChars.lo8).map Value.int) ++ vd.drop (22 + 2)) (.int 0)) := by
  have w : ∀ {d : Jvm.Cond} (i : Nat), tables_1[i]? = some d → d.before a0 Z = true := fun i q => hw _ (List.mem_of_getElem? q)
  refine Ct.enter (plainFor_of_name pn_0) hEL ?_
  intro p e sS m below meth c T0 hby hml0 hret hlk hnm hs0 X0
  have hml : c.maxLocals = 4 := hml0
  have D : ∀ {pc : Nat} {r : Except DecodeError (Instr × Nat)}, decode jdk_42_method_147_code pc = r → decode c.code pc = r := fun q => hb hby q
  rw [show entryFrame m #[(.ref s), (.ref d), (.int (22 : Int32)), (.int (0 : Int32))] 4 = mkF m 0 #[.val (.ref s), .val (.ref d), .val (.int (22 : Int32)), .val (.int (0 : Int32))] [] from by first | (simp [entryFrame, mkF, argsToLocals, Value.category]; done) | rfl]
  obtain ⟨F343, hp344, hl345, kb346, F347, F348, F349⟩ := id OS
  have F350 : Arv Z h0 t kb346 .byte (2 : Int32) ((cs.map StrChars.lo8).map Value.int) (.int 0) := by have q := F349; rw [hl_s] at q; exact q
  refine X0.aloadN (x := (.ref s)) (D d21_0) rfl rfl ?_
  refine X0.callvF (y := (⟨"java/lang/String", "coder", "()B"⟩ : MethodName)) (z := (⟨"java/lang/String", "coder", "()B"⟩ : MethodName)) (a := s) (C := "java/lang/String") [] [] (ctCdr l Z a0 hw hEL z0 S0 hz0 s _ _ F348).toF F343 (w 73 rfl) (w 74 rfl) (w 76 rfl) (w 75 rfl) (nfOf (w 76 rfl) rfl) (w 2 rfl) (w 77 rfl) (by decide) (fun _ q => nomatch q) (by decide) 0 (by decide) (by decide) (by decide) (lenOf pd_1 rfl) rfl (Nat.le_of_ble_eq_true rfl) (by rw [hml]; rfl) (D d21_1) ?_
  rintro T351 h352 _ _ X354 K355 hg356 ⟨rfl, rfl⟩
  have F357 := OS.keep K355 nin0 nin0
  have F358 := AD.keep K355 nin0
  have F359 := F343.keep K355
  have F360 := F347.keep K355 nin0
  have F361 := F348.keep K355 nin0
  have F362 := F350.keep K355 nin0
  show Goes p.tables e below _ (T351.setTop (mkF m 4 #[.val (.ref s), .val (.ref d), .val (.int (22 : Int32)), .val (.int (0 : Int32))] [(.int (0 : Int32))]))
  refine X354.iloadN (x := (0 : Int32)) (D d21_4) rfl ?_
  refine X354.icmp_ne 28 (D d21_5) ⟨by decide, by decide⟩ (fun hc363 => absurd hc363 (by decide)) (fun hc363 => ?_)
  refine X354.aloadN (x := (.ref s)) (D d21_8) rfl rfl ?_
  refine X354.getf (w 28 rfl) Via.refl F360 (D d21_9) ?_
  intro T364 X365
  show Goes p.tables e below _ (T364.setTop (mkF m 12 #[.val (.ref s), .val (.ref d), .val (.int (22 : Int32)), .val (.int (0 : Int32))] [(.ref t)]))
  refine X365.iconst (x := (0 : Int32)) (D d21_12) rfl ?_
  refine X365.aloadN (x := (.ref d)) (D d21_13) rfl rfl ?_
  refine X365.iloadN (x := (22 : Int32)) (D d21_14) rfl ?_
  refine X365.iloadN (x := (0 : Int32)) (D d21_15) rfl ?_
  refine X365.ishl (D d21_16) ?_
  show Goes p.tables e below _ (T364.setTop (mkF m 17 #[.val (.ref s), .val (.ref d), .val (.int (22 : Int32)), .val (.int (0 : Int32))] [(.int (22 : Int32)), (.ref d), (.int (0 : Int32)), (.ref t)]))
  refine X365.aloadN (x := (.ref s)) (D d21_17) rfl rfl ?_
  refine X365.getf (w 28 rfl) Via.refl F360 (D d21_18) ?_
  intro T366 X367
  show Goes p.tables e below _ (T366.setTop (mkF m 21 #[.val (.ref s), .val (.ref d), .val (.int (22 : Int32)), .val (.int (0 : Int32))] [(.ref t), (.int (22 : Int32)), (.ref d), (.int (0 : Int32)), (.ref t)]))
  refine X367.alen F362 (D d21_21) ?_
  show Goes p.tables e below _ (T366.setTop (mkF m 22 #[.val (.ref s), .val (.ref d), .val (.int (22 : Int32)), .val (.int (0 : Int32))] [(.int (2 : Int32)), (.int (22 : Int32)), (.ref d), (.int (0 : Int32)), (.ref t)]))
  refine X367.acopy (us := ((cs.map StrChars.lo8).map Value.int)) (w 127 rfl) (w 110 rfl) (w 108 rfl) (w 109 rfl) F362 F358 (by decide) (by decide) (by decide) (by decide) (by decide) (slice0 (mlen hl_s)) (by rw [hvd]; decide) (by simp) (by rw [hml]; rfl) (D d21_22) (by decide) 0 (Nat.le_of_ble_eq_true rfl) (by decide) ?_
  intro T368 h369 X370 K371 B372
  have F373 := F357.keep K371 (ninS (Exa.neArv F359 F358 (w 1 rfl)) nin0) (ninS ntd nin0)
  have F374 := F359.keep K371
  have F375 := F360.keep K371 (ninS (Exa.neArv F359 F358 (w 1 rfl)) nin0)
  have F376 := F361.keep K371 (ninS (Exa.neArv F359 F358 (w 1 rfl)) nin0)
  have F377 := F362.keep K371 (ninS ntd nin0)
  show Goes p.tables e below _ (T368.setTop (mkF m 25 #[.val (.ref s), .val (.ref d), .val (.int (22 : Int32)), .val (.int (0 : Int32))] []))
  refine X370.goto 43 (D d21_25) ⟨by decide, by decide⟩ ?_
  exact X370.retn hret hlk (D d21_43) (by decide) (by decide) (⟨rfl, B372⟩)
set_option maxRecDepth 65536 in
set_option maxHeartbeats 40000000 in
theorem ctPS22_2_34 (l : Launch) (Z : State) (a0 : Array Value) (hw : ∀ d ∈ tables_1, d.before a0 Z = true) (hEL : EW Z a0 consts_1) (z0 : Int32) (S0 : Sta Z Z.heap "java/lang/String" "COMPACT_STRINGS" "Z" (.int z0)) (hz0 : ¬ z0 = 0) (b d s t : Addr) (kd : ClassId) (cs : List Int32) (vd : List Value) (h0 : Heap) (n0 : Nat) (EB : Exa Z h0 b "java/lang/StringBuilder") (FV : Fld Z h0 b "java/lang/AbstractStringBuilder" "value" "[B" (.ref d)) (FC : Fld Z h0 b "java/lang/AbstractStringBuilder" "coder" "B" (.int (0 : Int32))) (AD : Arv Z h0 d kd .byte (34 : Int32) vd (.int 0)) (hvd : vd.length = 34) (OS : OStr Z h0 s t cs) (hl_s : cs.length = 2) (ntd : t ≠ d) :
    Ct l Z consts_1 [] (⟨"java/lang/AbstractStringBuilder", "putStringAt", "(ILjava/lang/String;)V"⟩ : MethodName) jdk_68_method_73_code 3 none ({ frames := 2, cells := 0, slots := 0, locals := 33 } : Room) #[(.ref b), (.int (22 : Int32)), (.ref s)] h0 n0 [d] (fun v h => v = none ∧ Arv Z h d kd .byte (34 : Int32) (vd.take 22 ++ ((cs.map StrChars.lo8).map Value.int) ++ vd.drop (22 + 2)) (.int 0)) := by
  have w : ∀ {d : Jvm.Cond} (i : Nat), tables_1[i]? = some d → d.before a0 Z = true := fun i q => hw _ (List.mem_of_getElem? q)
  refine Ct.enter (plainFor_of_name pn_1) hEL ?_
  intro p e sS m below meth c T0 hby hml0 hret hlk hnm hs0 X0
  have hml : c.maxLocals = 3 := hml0
  have D : ∀ {pc : Nat} {r : Except DecodeError (Instr × Nat)}, decode jdk_68_method_73_code pc = r → decode c.code pc = r := fun q => hb hby q
  rw [show entryFrame m #[(.ref b), (.int (22 : Int32)), (.ref s)] 3 = mkF m 0 #[.val (.ref b), .val (.int (22 : Int32)), .val (.ref s)] [] from by first | (simp [entryFrame, mkF, argsToLocals, Value.category]; done) | rfl]
  obtain ⟨qE, -, -, _, -, qC, -⟩ := id OS
  refine X0.aloadN (x := (.ref b)) (D d19_0) rfl rfl ?_
  refine X0.aloadN (x := (.ref s)) (D d19_1) rfl rfl ?_
  refine X0.callvF (y := (⟨"java/lang/AbstractStringBuilder", "inflateIfNeededFor", "(Ljava/lang/String;)V"⟩ : MethodName)) (z := (⟨"java/lang/AbstractStringBuilder", "inflateIfNeededFor", "(Ljava/lang/String;)V"⟩ : MethodName)) (a := b) (C := "java/lang/StringBuilder") [(.ref s)] [] (ctInf l Z a0 hw hEL z0 S0 hz0 b d s _ _ EB FV FC qE qC).toF EB (w 116 rfl) (decOf (w 117 rfl) (w 120 rfl)) (w 119 rfl) (w 117 rfl) (nfOf (w 119 rfl) rfl) (w 47 rfl) (w 120 rfl) (by decide) (fun _ q => nomatch q) (by decide) 0 (by decide) (by decide) (by decide) (lenOf pd_6 rfl) rfl (Nat.le_of_ble_eq_true rfl) (by rw [hml]; rfl) (D d19_2) ?_
  rintro T378 h379 _ _ X381 K382 hg383 ⟨rfl, rfl⟩
  have F384 := EB.keep K382
  have F385 := FV.keep K382 nin0
  have F386 := FC.keep K382 nin0
  have F387 := AD.keep K382 nin0
  have F388 := OS.keep K382 nin0 nin0
  show Goes p.tables e below _ (T378.setTop (mkF m 5 #[.val (.ref b), .val (.int (22 : Int32)), .val (.ref s)] []))
  refine X381.aloadN (x := (.ref s)) (D d19_5) rfl rfl ?_
  refine X381.aloadN (x := (.ref b)) (D d19_6) rfl rfl ?_
  refine X381.getf (w 51 rfl) Via.refl F385 (D d19_7) ?_
  intro T389 X390
  show Goes p.tables e below _ (T389.setTop (mkF m 10 #[.val (.ref b), .val (.int (22 : Int32)), .val (.ref s)] [(.ref d), (.ref s)]))
  refine X390.iloadN (x := (22 : Int32)) (D d19_10) rfl ?_
  refine X390.aloadN (x := (.ref b)) (D d19_11) rfl rfl ?_
  refine X390.getf (w 53 rfl) Via.refl F386 (D d19_12) ?_
  intro T391 X392
  show Goes p.tables e below _ (T391.setTop (mkF m 15 #[.val (.ref b), .val (.int (22 : Int32)), .val (.ref s)] [(.int (0 : Int32)), (.int (22 : Int32)), (.ref d), (.ref s)]))
  refine X392.callvF (y := (⟨"java/lang/String", "getBytes", "([BIB)V"⟩ : MethodName)) (z := (⟨"java/lang/String", "getBytes", "([BIB)V"⟩ : MethodName)) (a := s) (C := "java/lang/String") [(.ref d), (.int (22 : Int32)), (.int (0 : Int32))] [] (ctGB22_2_34 l Z a0 hw hEL z0 S0 hz0 s t d kd cs vd _ _ F388 hl_s ntd F387 hvd).toF F388.1 (w 122 rfl) (w 123 rfl) (w 125 rfl) (w 124 rfl) (nfOf (w 125 rfl) rfl) (w 2 rfl) (w 126 rfl) (by decide) (by simp) (by decide) 0 (by decide) (by decide) (by decide) (lenOf pd_7 rfl) rfl (Nat.le_of_ble_eq_true rfl) (by rw [hml]; rfl) (D d19_15) ?_
  rintro T393 h394 _ _ X396 K397 hg398 ⟨rfl, rfl, A1⟩
  have F399 := F384.keep K397
  have F400 := F385.keep K397 (ninS (Exa.neArv F384 F387 (w 38 rfl)) nin0)
  have F401 := F386.keep K397 (ninS (Exa.neArv F384 F387 (w 38 rfl)) nin0)
  have F402 := F388.keep K397 (ninS (Exa.neArv F388.1 F387 (w 1 rfl)) nin0) (ninS ntd nin0)
  show Goes p.tables e below _ (T393.setTop (mkF m 18 #[.val (.ref b), .val (.int (22 : Int32)), .val (.ref s)] []))
  exact X396.retn hret hlk (D d19_18) (by decide) (by decide) (⟨rfl, A1⟩)
set_option maxRecDepth 65536 in
set_option maxHeartbeats 40000000 in
theorem ctEC24_34 (l : Launch) (Z : State) (a0 : Array Value) (hw : ∀ d ∈ tables_1, d.before a0 Z = true) (hEL : EW Z a0 consts_1) (z0 : Int32) (S0 : Sta Z Z.heap "java/lang/String" "COMPACT_STRINGS" "Z" (.int z0)) (hz0 : ¬ z0 = 0) (b d : Addr) (kd : ClassId) (vd : List Value) (h0 : Heap) (n0 : Nat) (EB : Exa Z h0 b "java/lang/StringBuilder") (FV : Fld Z h0 b "java/lang/AbstractStringBuilder" "value" "[B" (.ref d)) (FC : Fld Z h0 b "java/lang/AbstractStringBuilder" "coder" "B" (.int (0 : Int32))) (AD : Arv Z h0 d kd .byte (34 : Int32) vd (.int 0)) (hvd : vd.length = 34) :
    Ct l Z consts_1 [] (⟨"java/lang/AbstractStringBuilder", "ensureCapacityInternal", "(I)V"⟩ : MethodName) jdk_68_method_9_code 3 none ({ frames := 0, cells := 0, slots := 0, locals := 0 } : Room) #[(.ref b), (.int (24 : Int32))] h0 n0 [] (fun v _ => v = none) := by
  have w : ∀ {d : Jvm.Cond} (i : Nat), tables_1[i]? = some d → d.before a0 Z = true := fun i q => hw _ (List.mem_of_getElem? q)
  refine Ct.enter (plainFor_of_name pn_1) hEL ?_
  intro p e sS m below meth c T0 hby hml0 hret hlk hnm hs0 X0
  have hml : c.maxLocals = 3 := hml0
  have D : ∀ {pc : Nat} {r : Except DecodeError (Instr × Nat)}, decode jdk_68_method_9_code pc = r → decode c.code pc = r := fun q => hb hby q
  rw [show entryFrame m #[(.ref b), (.int (24 : Int32))] 3 = mkF m 0 #[.val (.ref b), .val (.int (24 : Int32)), .unset] [] from by first | (simp [entryFrame, mkF, argsToLocals, Value.category]; done) | rfl]
  refine X0.aloadN (x := (.ref b)) (D d13_0) rfl rfl ?_
  refine X0.getf (w 51 rfl) Via.refl FV (D d13_1) ?_
  intro T403 X404
  show Goes p.tables e below _ (T403.setTop (mkF m 4 #[.val (.ref b), .val (.int (24 : Int32)), .unset] [(.ref d)]))
  refine X404.alen AD (D d13_4) ?_
  refine X404.aloadN (x := (.ref b)) (D d13_5) rfl rfl ?_
  refine X404.getf (w 53 rfl) Via.refl FC (D d13_6) ?_
  intro T405 X406
  show Goes p.tables e below _ (T405.setTop (mkF m 9 #[.val (.ref b), .val (.int (24 : Int32)), .unset] [(.int (0 : Int32)), (.int (34 : Int32))]))
  refine X406.ishr (D d13_9) ?_
  show Goes p.tables e below _ (T405.setTop (mkF m 10 #[.val (.ref b), .val (.int (24 : Int32)), .unset] [(.int (34 : Int32))]))
  refine X406.istoreN #[.val (.ref b), .val (.int (24 : Int32)), .val (.int (34 : Int32))] (D d13_10) rfl ?_
  refine X406.iloadN (x := (24 : Int32)) (D d13_11) rfl ?_
  refine X406.iloadN (x := (34 : Int32)) (D d13_12) rfl ?_
  refine X406.isub (D d13_13) ?_
  show Goes p.tables e below _ (T405.setTop (mkF m 14 #[.val (.ref b), .val (.int (24 : Int32)), .val (.int (34 : Int32))] [(.int (-10 : Int32))]))
  refine X406.if_le 38 (D d13_14) ⟨by decide, by decide⟩ (fun hc407 => ?_) (fun hc407 => absurd hc407 (by decide))
  exact X406.retn hret hlk (D d13_38) (by decide) (by decide) (rfl)
set_option maxRecDepth 65536 in
set_option maxHeartbeats 40000000 in
theorem ctAA22_2_34 (l : Launch) (Z : State) (a0 : Array Value) (hw : ∀ d ∈ tables_1, d.before a0 Z = true) (hEL : EW Z a0 consts_1) (z0 : Int32) (S0 : Sta Z Z.heap "java/lang/String" "COMPACT_STRINGS" "Z" (.int z0)) (hz0 : ¬ z0 = 0) (b d s t : Addr) (kd : ClassId) (cs : List Int32) (vd : List Value) (h0 : Heap) (n0 : Nat) (EB : Exa Z h0 b "java/lang/StringBuilder") (FV : Fld Z h0 b "java/lang/AbstractStringBuilder" "value" "[B" (.ref d)) (FC : Fld Z h0 b "java/lang/AbstractStringBuilder" "coder" "B" (.int (0 : Int32))) (FN : Fld Z h0 b "java/lang/AbstractStringBuilder" "count" "I" (.int (22 : Int32))) (AD : Arv Z h0 d kd .byte (34 : Int32) vd (.int 0)) (hvd : vd.length = 34) (OS : OStr Z h0 s t cs) (hl_s : cs.length = 2) (ntd : t ≠ d) :
    Ct l Z consts_1 [] (⟨"java/lang/AbstractStringBuilder", "append", "(Ljava/lang/String;)Ljava/lang/AbstractStringBuilder;"⟩ : MethodName) jdk_68_method_22_code 3 (some (.object "java/lang/AbstractStringBuilder")) ({ frames := 3, cells := 0, slots := 0, locals := 47 } : Room) #[(.ref b), (.ref s)] h0 n0 [b, d] (fun v h => v = some (.ref b) ∧ Exa Z h b "java/lang/StringBuilder" ∧ Fld Z h b "java/lang/AbstractStringBuilder" "value" "[B" (.ref d) ∧ Fld Z h b "java/lang/AbstractStringBuilder" "coder" "B" (.int (0 : Int32)) ∧ Fld Z h b "java/lang/AbstractStringBuilder" "count" "I" (.int (24 : Int32)) ∧ Arv Z h d kd .byte (34 : Int32) (vd.take 22 ++ ((cs.map StrChars.lo8).map Value.int) ++ vd.drop (22 + 2)) (.int 0)) := by
  have w : ∀ {d : Jvm.Cond} (i : Nat), tables_1[i]? = some d → d.before a0 Z = true := fun i q => hw _ (List.mem_of_getElem? q)
  refine Ct.enter (plainFor_of_name pn_1) hEL ?_
  intro p e sS m below meth c T0 hby hml0 hret hlk hnm hs0 X0
  have hml : c.maxLocals = 3 := hml0
  have D : ∀ {pc : Nat} {r : Except DecodeError (Instr × Nat)}, decode jdk_68_method_22_code pc = r → decode c.code pc = r := fun q => hb hby q
  rw [show entryFrame m #[(.ref b), (.ref s)] 3 = mkF m 0 #[.val (.ref b), .val (.ref s), .unset] [] from by first | (simp [entryFrame, mkF, argsToLocals, Value.category]; done) | rfl]
  refine X0.aloadN (x := (.ref s)) (D d10_0) rfl rfl ?_
  refine X0.ifnonnullR 9 (D d10_1) ⟨by decide, by decide⟩ ?_
  refine X0.aloadN (x := (.ref s)) (D d10_9) rfl rfl ?_
  refine X0.callvF (y := (⟨"java/lang/String", "length", "()I"⟩ : MethodName)) (z := (⟨"java/lang/String", "length", "()I"⟩ : MethodName)) (a := s) (C := "java/lang/String") [] [] (ctLen2 l Z a0 hw hEL z0 S0 hz0 s t cs _ _ OS hl_s).toF OS.1 (w 68 rfl) (w 69 rfl) (w 71 rfl) (w 70 rfl) (nfOf (w 71 rfl) rfl) (w 2 rfl) (w 72 rfl) (by decide) (fun _ q => nomatch q) (by decide) 0 (by decide) (by decide) (by decide) (lenOf pd_8 rfl) rfl (Nat.le_of_ble_eq_true rfl) (by rw [hml]; rfl) (D d10_10) ?_
  rintro T408 h409 _ _ X411 K412 hg413 ⟨rfl, rfl⟩
  have F414 := EB.keep K412
  have F415 := FV.keep K412 nin0
  have F416 := FC.keep K412 nin0
  have F417 := FN.keep K412 nin0
  have F418 := AD.keep K412 nin0
  have F419 := OS.keep K412 nin0 nin0
  show Goes p.tables e below _ (T408.setTop (mkF m 13 #[.val (.ref b), .val (.ref s), .unset] [(.int (2 : Int32))]))
  refine X411.istoreN #[.val (.ref b), .val (.ref s), .val (.int (2 : Int32))] (D d10_13) rfl ?_
  refine X411.aloadN (x := (.ref b)) (D d10_14) rfl rfl ?_
  refine X411.aloadN (x := (.ref b)) (D d10_15) rfl rfl ?_
  refine X411.getf (w 78 rfl) Via.refl F417 (D d10_16) ?_
  intro T420 X421
  show Goes p.tables e below _ (T420.setTop (mkF m 19 #[.val (.ref b), .val (.ref s), .val (.int (2 : Int32))] [(.int (22 : Int32)), (.ref b)]))
  refine X421.iloadN (x := (2 : Int32)) (D d10_19) rfl ?_
  refine X421.iadd (D d10_20) ?_
  show Goes p.tables e below _ (T420.setTop (mkF m 21 #[.val (.ref b), .val (.ref s), .val (.int (2 : Int32))] [(.int (24 : Int32)), (.ref b)]))
  refine X421.callvF (y := (⟨"java/lang/AbstractStringBuilder", "ensureCapacityInternal", "(I)V"⟩ : MethodName)) (z := (⟨"java/lang/AbstractStringBuilder", "ensureCapacityInternal", "(I)V"⟩ : MethodName)) (a := b) (C := "java/lang/StringBuilder") [(.int (24 : Int32))] [] (ctEC24_34 l Z a0 hw hEL z0 S0 hz0 b d kd vd _ _ F414 F415 F416 F418 hvd).toF F414 (w 80 rfl) (decOf (w 81 rfl) (w 84 rfl)) (w 83 rfl) (w 81 rfl) (nfOf (w 83 rfl) rfl) (w 47 rfl) (w 84 rfl) (by decide) (fun _ q => nomatch q) (by decide) 0 (by decide) (by decide) (by decide) (lenOf pd_0 rfl) rfl (Nat.le_of_ble_eq_true rfl) (by rw [hml]; rfl) (D d10_21) ?_
  rintro T422 h423 _ _ X425 K426 hg427 ⟨rfl, rfl⟩
  have F428 := F414.keep K426
  have F429 := F415.keep K426 nin0
  have F430 := F416.keep K426 nin0
  have F431 := F417.keep K426 nin0
  have F432 := F418.keep K426 nin0
  have F433 := F419.keep K426 nin0 nin0
  show Goes p.tables e below _ (T422.setTop (mkF m 24 #[.val (.ref b), .val (.ref s), .val (.int (2 : Int32))] []))
  refine X425.aloadN (x := (.ref b)) (D d10_24) rfl rfl ?_
  refine X425.aloadN (x := (.ref b)) (D d10_25) rfl rfl ?_
  refine X425.getf (w 78 rfl) Via.refl F431 (D d10_26) ?_
  intro T434 X435
  show Goes p.tables e below _ (T434.setTop (mkF m 29 #[.val (.ref b), .val (.ref s), .val (.int (2 : Int32))] [(.int (22 : Int32)), (.ref b)]))
  refine X435.aloadN (x := (.ref s)) (D d10_29) rfl rfl ?_
  refine X435.callvF (y := (⟨"java/lang/AbstractStringBuilder", "putStringAt", "(ILjava/lang/String;)V"⟩ : MethodName)) (z := (⟨"java/lang/AbstractStringBuilder", "putStringAt", "(ILjava/lang/String;)V"⟩ : MethodName)) (a := b) (C := "java/lang/StringBuilder") [(.int (22 : Int32)), (.ref s)] [] (ctPS22_2_34 l Z a0 hw hEL z0 S0 hz0 b d s t kd cs vd _ _ F428 F429 F430 F432 hvd F433 hl_s ntd).toF F428 (w 111 rfl) (decOf (w 112 rfl) (w 115 rfl)) (w 114 rfl) (w 112 rfl) (nfOf (w 114 rfl) rfl) (w 47 rfl) (w 115 rfl) (by decide) (by simp) (by decide) 0 (by decide) (by decide) (by decide) (lenOf pd_9 rfl) rfl (Nat.le_of_ble_eq_true rfl) (by rw [hml]; rfl) (D d10_30) ?_
  rintro T436 h437 _ _ X439 K440 hg441 ⟨rfl, rfl, A1⟩
  have F442 := F428.keep K440
  have F443 := F429.keep K440 (ninS (Exa.neArv F428 F432 (w 38 rfl)) nin0)
  have F444 := F430.keep K440 (ninS (Exa.neArv F428 F432 (w 38 rfl)) nin0)
  have F445 := F431.keep K440 (ninS (Exa.neArv F428 F432 (w 38 rfl)) nin0)
  have F446 := F433.keep K440 (ninS (Exa.neArv F433.1 F432 (w 1 rfl)) nin0) (ninS ntd nin0)
  show Goes p.tables e below _ (T436.setTop (mkF m 33 #[.val (.ref b), .val (.ref s), .val (.int (2 : Int32))] []))
  refine X439.aloadN (x := (.ref b)) (D d10_33) rfl rfl ?_
  refine X439.dup (D d10_34) rfl ?_
  refine X439.getf (w 78 rfl) Via.refl F445 (D d10_35) ?_
  intro T447 X448
  show Goes p.tables e below _ (T447.setTop (mkF m 38 #[.val (.ref b), .val (.ref s), .val (.int (2 : Int32))] [(.int (22 : Int32)), (.ref b)]))
  refine X448.iloadN (x := (2 : Int32)) (D d10_38) rfl ?_
  refine X448.iadd (D d10_39) ?_
  show Goes p.tables e below _ (T447.setTop (mkF m 40 #[.val (.ref b), .val (.ref s), .val (.int (2 : Int32))] [(.int (24 : Int32)), (.ref b)]))
  refine X448.putf (w 78 rfl) Via.refl F445 F442 (Or.inl (w 79 rfl)) (w 38 rfl) (ty := .int) (by decide) rfl rfl (D d10_40) (by simp) ?_
  intro T449 h450 X451 W452
  have F453 := F445.same W452
  have F454 := F442.wr W452
  have F455 := F443.other W452 (Or.inr (slot_ne (t := (.array .byte)) (t' := .int) (Or.inl (w 52 rfl)) (Or.inl (w 79 rfl)) (by decide) (by decide) (by decide)))
  have F456 := F444.other W452 (Or.inr (slot_ne (t := .byte) (t' := .int) (Or.inl (w 54 rfl)) (Or.inl (w 79 rfl)) (by decide) (by decide) (by decide)))
  have F457 := F446.wr W452 (Exa.ne F446.1 F442 (by decide)) (OStr.neT F446 F442 (w 38 rfl))
  have F458 := A1.other W452 (Exa.neArv F442 A1 (w 38 rfl)).symm
  show Goes p.tables e below _ (T449.setTop (mkF m 43 #[.val (.ref b), .val (.ref s), .val (.int (2 : Int32))] []))
  refine X451.aloadN (x := (.ref b)) (D d10_43) rfl rfl ?_
  exact X451.retA hret rfl rfl hlk (D d10_44) (by decide) (by decide) (⟨rfl, F454, F455, F456, F453, F458⟩)
set_option maxRecDepth 65536 in
set_option maxHeartbeats 40000000 in
theorem ctSBa22_2_34 (l : Launch) (Z : State) (a0 : Array Value) (hw : ∀ d ∈ tables_1, d.before a0 Z = true) (hEL : EW Z a0 consts_1) (z0 : Int32) (S0 : Sta Z Z.heap "java/lang/String" "COMPACT_STRINGS" "Z" (.int z0)) (hz0 : ¬ z0 = 0) (b d s t : Addr) (kd : ClassId) (cs : List Int32) (vd : List Value) (h0 : Heap) (n0 : Nat) (EB : Exa Z h0 b "java/lang/StringBuilder") (FV : Fld Z h0 b "java/lang/AbstractStringBuilder" "value" "[B" (.ref d)) (FC : Fld Z h0 b "java/lang/AbstractStringBuilder" "coder" "B" (.int (0 : Int32))) (FN : Fld Z h0 b "java/lang/AbstractStringBuilder" "count" "I" (.int (22 : Int32))) (AD : Arv Z h0 d kd .byte (34 : Int32) vd (.int 0)) (hvd : vd.length = 34) (OS : OStr Z h0 s t cs) (hl_s : cs.length = 2) (ntd : t ≠ d) :
    Ct l Z consts_1 [] (⟨"java/lang/StringBuilder", "append", "(Ljava/lang/String;)Ljava/lang/StringBuilder;"⟩ : MethodName) jdk_67_method_7_code 2 (some (.object "java/lang/StringBuilder")) ({ frames := 4, cells := 0, slots := 0, locals := 61 } : Room) #[(.ref b), (.ref s)] h0 n0 [b, d] (fun v h => v = some (.ref b) ∧ Exa Z h b "java/lang/StringBuilder" ∧ Fld Z h b "java/lang/AbstractStringBuilder" "value" "[B" (.ref d) ∧ Fld Z h b "java/lang/AbstractStringBuilder" "coder" "B" (.int (0 : Int32)) ∧ Fld Z h b "java/lang/AbstractStringBuilder" "count" "I" (.int (24 : Int32)) ∧ Arv Z h d kd .byte (34 : Int32) (vd.take 22 ++ ((cs.map StrChars.lo8).map Value.int) ++ vd.drop (22 + 2)) (.int 0)) := by
  have w : ∀ {d : Jvm.Cond} (i : Nat), tables_1[i]? = some d → d.before a0 Z = true := fun i q => hw _ (List.mem_of_getElem? q)
  refine Ct.enter (plainFor_of_name pn_2) hEL ?_
  intro p e sS m below meth c T0 hby hml0 hret hlk hnm hs0 X0
  have hml : c.maxLocals = 2 := hml0
  have D : ∀ {pc : Nat} {r : Except DecodeError (Instr × Nat)}, decode jdk_67_method_7_code pc = r → decode c.code pc = r := fun q => hb hby q
  rw [show entryFrame m #[(.ref b), (.ref s)] 2 = mkF m 0 #[.val (.ref b), .val (.ref s)] [] from by first | (simp [entryFrame, mkF, argsToLocals, Value.category]; done) | rfl]
  refine X0.aloadN (x := (.ref b)) (D d9_0) rfl rfl ?_
  refine X0.aloadN (x := (.ref s)) (D d9_1) rfl rfl ?_
  refine X0.callu (a := b) [(.ref s)] [] (ctAA22_2_34 l Z a0 hw hEL z0 S0 hz0 b d s t kd cs vd _ _ EB FV FC FN AD hvd OS hl_s ntd).toF EB (w 63 rfl) (smOf (w 64 rfl) (w 144 rfl) rfl (by decide)) (w 64 rfl) (w 65 rfl) (by decide) (w 47 rfl) (w 67 rfl) (by simp) (by decide) 0 (by decide) (by decide) (by decide) (lenOf pd_10 rfl) rfl (Nat.le_of_ble_eq_true rfl) (by rw [hml]; rfl) (D d9_2) ?_
  rintro T459 h460 _ _ X462 K463 hg464 ⟨rfl, rfl, E1, V1, C1, N1, A1⟩
  have F465 := EB.keep K463
  have F466 := OS.keep K463 (ninS (Exa.ne OS.1 EB (by decide)) (ninS (Exa.neArv OS.1 AD (w 1 rfl)) nin0)) (ninS (OStr.neT OS EB (w 38 rfl)) (ninS ntd nin0))
  show Goes p.tables e below _ (T459.setTop (mkF m 5 #[.val (.ref b), .val (.ref s)] [(.ref b)]))
  refine X462.pop (D d9_5) rfl ?_
  refine X462.aloadN (x := (.ref b)) (D d9_6) rfl rfl ?_
  exact X462.retA hret rfl rfl hlk (D d9_7) (by decide) (by decide) (⟨rfl, E1, V1, C1, N1, A1⟩)
set_option maxRecDepth 65536 in
set_option maxHeartbeats 40000000 in
theorem ctLen3 (l : Launch) (Z : State) (a0 : Array Value) (hw : ∀ d ∈ tables_1, d.before a0 Z = true) (hEL : EW Z a0 consts_1) (z0 : Int32) (S0 : Sta Z Z.heap "java/lang/String" "COMPACT_STRINGS" "Z" (.int z0)) (hz0 : ¬ z0 = 0) (s t : Addr) (cs : List Int32) (h0 : Heap) (n0 : Nat) (OS : OStr Z h0 s t cs) (hl_s : cs.length = 3) :
    Ct l Z consts_1 [] (⟨"java/lang/String", "length", "()I"⟩ : MethodName) jdk_42_method_54_code 1 (some .int) ({ frames := 1, cells := 0, slots := 0, locals := 13 } : Room) #[(.ref s)] h0 n0 [] (fun v _ => v = some (.int (3 : Int32))) := by
  have w : ∀ {d : Jvm.Cond} (i : Nat), tables_1[i]? = some d → d.before a0 Z = true := fun i q => hw _ (List.mem_of_getElem? q)
  refine Ct.enter (plainFor_of_name pn_0) hEL ?_
  intro p e sS m below meth c T0 hby hml0 hret hlk hnm hs0 X0
  have hml : c.maxLocals = 1 := hml0
  have D : ∀ {pc : Nat} {r : Except DecodeError (Instr × Nat)}, decode jdk_42_method_54_code pc = r → decode c.code pc = r := fun q => hb hby q
  rw [show entryFrame m #[(.ref s)] 1 = mkF m 0 #[.val (.ref s)] [] from by first | (simp [entryFrame, mkF, argsToLocals, Value.category]; done) | rfl]
  obtain ⟨F467, hp468, hl469, kb470, F471, F472, F473⟩ := id OS
  have F474 : Arv Z h0 t kb470 .byte (3 : Int32) ((cs.map StrChars.lo8).map Value.int) (.int 0) := by have q := F473; rw [hl_s] at q; exact q
  refine X0.aloadN (x := (.ref s)) (D d11_0) rfl rfl ?_
  refine X0.getf (w 28 rfl) Via.refl F471 (D d11_1) ?_
  intro T475 X476
  show Goes p.tables e below _ (T475.setTop (mkF m 4 #[.val (.ref s)] [(.ref t)]))
  refine X476.alen F474 (D d11_4) ?_
  refine X476.aloadN (x := (.ref s)) (D d11_5) rfl rfl ?_
  refine X476.callvF (y := (⟨"java/lang/String", "coder", "()B"⟩ : MethodName)) (z := (⟨"java/lang/String", "coder", "()B"⟩ : MethodName)) (a := s) (C := "java/lang/String") [] [(.int (3 : Int32))] (ctCdr l Z a0 hw hEL z0 S0 hz0 s _ _ F472).toF F467 (w 73 rfl) (w 74 rfl) (w 76 rfl) (w 75 rfl) (nfOf (w 76 rfl) rfl) (w 2 rfl) (w 77 rfl) (by decide) (fun _ q => nomatch q) (by decide) 1 (by decide) (by decide) (by decide) (lenOf pd_1 rfl) rfl (Nat.le_of_ble_eq_true rfl) (by rw [hml]; rfl) (D d11_6) ?_
  rintro T477 h478 _ _ X480 K481 hg482 ⟨rfl, rfl⟩
  have F483 := OS.keep K481 nin0 nin0
  have F484 := F467.keep K481
  have F485 := F471.keep K481 nin0
  have F486 := F472.keep K481 nin0
  have F487 := F474.keep K481 nin0
  show Goes p.tables e below _ (T477.setTop (mkF m 9 #[.val (.ref s)] [(.int (0 : Int32)), (.int (3 : Int32))]))
  refine X480.ishr (D d11_9) ?_
  show Goes p.tables e below _ (T477.setTop (mkF m 10 #[.val (.ref s)] [(.int (3 : Int32))]))
  exact X480.retI hret hlk (D d11_10) (by decide) (by decide) (rfl)
set_option maxRecDepth 65536 in
set_option maxHeartbeats 40000000 in
theorem ctGB24_3_34 (l : Launch) (Z : State) (a0 : Array Value) (hw : ∀ d ∈ tables_1, d.before a0 Z = true) (hEL : EW Z a0 consts_1) (z0 : Int32) (S0 : Sta Z Z.heap "java/lang/String" "COMPACT_STRINGS" "Z" (.int z0)) (hz0 : ¬ z0 = 0) (s t d : Addr) (kd : ClassId) (cs : List Int32) (vd : List Value) (h0 : Heap) (n0 : Nat) (OS : OStr Z h0 s t cs) (hl_s : cs.length = 3) (ntd : t ≠ d) (AD : Arv Z h0 d kd .byte (34 : Int32) vd (.int 0)) (hvd : vd.length = 34) :
    Ct l Z consts_1 [] (⟨"java/lang/String", "getBytes", "([BIB)V"⟩ : MethodName) jdk_42_method_147_code 4 none ({ frames := 1, cells := 0, slots := 0, locals := 18 } : Room) #[(.ref s), (.ref d), (.int (24 : Int32)), (.int (0 : Int32))] h0 n0 [d] (fun v h => v = none ∧ Arv Z h d kd .byte (34 : Int32) (vd.take 24 ++ ((cs.map StrChars.lo8).map Value.int) ++ vd.drop (24 + 3)) (.int 0)) := by
  have w : ∀ {d : Jvm.Cond} (i : Nat), tables_1[i]? = some d → d.before a0 Z = true := fun i q => hw _ (List.mem_of_getElem? q)
  refine Ct.enter (plainFor_of_name pn_0) hEL ?_
  intro p e sS m below meth c T0 hby hml0 hret hlk hnm hs0 X0
  have hml : c.maxLocals = 4 := hml0
  have D : ∀ {pc : Nat} {r : Except DecodeError (Instr × Nat)}, decode jdk_42_method_147_code pc = r → decode c.code pc = r := fun q => hb hby q
  rw [show entryFrame m #[(.ref s), (.ref d), (.int (24 : Int32)), (.int (0 : Int32))] 4 = mkF m 0 #[.val (.ref s), .val (.ref d), .val (.int (24 : Int32)), .val (.int (0 : Int32))] [] from by first | (simp [entryFrame, mkF, argsToLocals, Value.category]; done) | rfl]
  obtain ⟨F488, hp489, hl490, kb491, F492, F493, F494⟩ := id OS
  have F495 : Arv Z h0 t kb491 .byte (3 : Int32) ((cs.map StrChars.lo8).map Value.int) (.int 0) := by have q := F494; rw [hl_s] at q; exact q
  refine X0.aloadN (x := (.ref s)) (D d21_0) rfl rfl ?_
  refine X0.callvF (y := (⟨"java/lang/String", "coder", "()B"⟩ : MethodName)) (z := (⟨"java/lang/String", "coder", "()B"⟩ : MethodName)) (a := s) (C := "java/lang/String") [] [] (ctCdr l Z a0 hw hEL z0 S0 hz0 s _ _ F493).toF F488 (w 73 rfl) (w 74 rfl) (w 76 rfl) (w 75 rfl) (nfOf (w 76 rfl) rfl) (w 2 rfl) (w 77 rfl) (by decide) (fun _ q => nomatch q) (by decide) 0 (by decide) (by decide) (by decide) (lenOf pd_1 rfl) rfl (Nat.le_of_ble_eq_true rfl) (by rw [hml]; rfl) (D d21_1) ?_
  rintro T496 h497 _ _ X499 K500 hg501 ⟨rfl, rfl⟩
  have F502 := OS.keep K500 nin0 nin0
  have F503 := AD.keep K500 nin0
  have F504 := F488.keep K500
  have F505 := F492.keep K500 nin0
  have F506 := F493.keep K500 nin0
  have F507 := F495.keep K500 nin0
  show Goes p.tables e below _ (T496.setTop (mkF m 4 #[.val (.ref s), .val (.ref d), .val (.int (24 : Int32)), .val (.int (0 : Int32))] [(.int (0 : Int32))]))
  refine X499.iloadN (x := (0 : Int32)) (D d21_4) rfl ?_
  refine X499.icmp_ne 28 (D d21_5) ⟨by decide, by decide⟩ (fun hc508 => absurd hc508 (by decide)) (fun hc508 => ?_)
  refine X499.aloadN (x := (.ref s)) (D d21_8) rfl rfl ?_
  refine X499.getf (w 28 rfl) Via.refl F505 (D d21_9) ?_
  intro T509 X510
  show Goes p.tables e below _ (T509.setTop (mkF m 12 #[.val (.ref s), .val (.ref d), .val (.int (24 : Int32)), .val (.int (0 : Int32))] [(.ref t)]))
  refine X510.iconst (x := (0 : Int32)) (D d21_12) rfl ?_
  refine X510.aloadN (x := (.ref d)) (D d21_13) rfl rfl ?_
  refine X510.iloadN (x := (24 : Int32)) (D d21_14) rfl ?_
  refine X510.iloadN (x := (0 : Int32)) (D d21_15) rfl ?_
  refine X510.ishl (D d21_16) ?_
  show Goes p.tables e below _ (T509.setTop (mkF m 17 #[.val (.ref s), .val (.ref d), .val (.int (24 : Int32)), .val (.int (0 : Int32))] [(.int (24 : Int32)), (.ref d), (.int (0 : Int32)), (.ref t)]))
  refine X510.aloadN (x := (.ref s)) (D d21_17) rfl rfl ?_
  refine X510.getf (w 28 rfl) Via.refl F505 (D d21_18) ?_
  intro T511 X512
  show Goes p.tables e below _ (T511.setTop (mkF m 21 #[.val (.ref s), .val (.ref d), .val (.int (24 : Int32)), .val (.int (0 : Int32))] [(.ref t), (.int (24 : Int32)), (.ref d), (.int (0 : Int32)), (.ref t)]))
  refine X512.alen F507 (D d21_21) ?_
  show Goes p.tables e below _ (T511.setTop (mkF m 22 #[.val (.ref s), .val (.ref d), .val (.int (24 : Int32)), .val (.int (0 : Int32))] [(.int (3 : Int32)), (.int (24 : Int32)), (.ref d), (.int (0 : Int32)), (.ref t)]))
  refine X512.acopy (us := ((cs.map StrChars.lo8).map Value.int)) (w 127 rfl) (w 110 rfl) (w 108 rfl) (w 109 rfl) F507 F503 (by decide) (by decide) (by decide) (by decide) (by decide) (slice0 (mlen hl_s)) (by rw [hvd]; decide) (by simp) (by rw [hml]; rfl) (D d21_22) (by decide) 0 (Nat.le_of_ble_eq_true rfl) (by decide) ?_
  intro T513 h514 X515 K516 B517
  have F518 := F502.keep K516 (ninS (Exa.neArv F504 F503 (w 1 rfl)) nin0) (ninS ntd nin0)
  have F519 := F504.keep K516
  have F520 := F505.keep K516 (ninS (Exa.neArv F504 F503 (w 1 rfl)) nin0)
  have F521 := F506.keep K516 (ninS (Exa.neArv F504 F503 (w 1 rfl)) nin0)
  have F522 := F507.keep K516 (ninS ntd nin0)
  show Goes p.tables e below _ (T513.setTop (mkF m 25 #[.val (.ref s), .val (.ref d), .val (.int (24 : Int32)), .val (.int (0 : Int32))] []))
  refine X515.goto 43 (D d21_25) ⟨by decide, by decide⟩ ?_
  exact X515.retn hret hlk (D d21_43) (by decide) (by decide) (⟨rfl, B517⟩)
set_option maxRecDepth 65536 in
set_option maxHeartbeats 40000000 in
theorem ctPS24_3_34 (l : Launch) (Z : State) (a0 : Array Value) (hw : ∀ d ∈ tables_1, d.before a0 Z = true) (hEL : EW Z a0 consts_1) (z0 : Int32) (S0 : Sta Z Z.heap "java/lang/String" "COMPACT_STRINGS" "Z" (.int z0)) (hz0 : ¬ z0 = 0) (b d s t : Addr) (kd : ClassId) (cs : List Int32) (vd : List Value) (h0 : Heap) (n0 : Nat) (EB : Exa Z h0 b "java/lang/StringBuilder") (FV : Fld Z h0 b "java/lang/AbstractStringBuilder" "value" "[B" (.ref d)) (FC : Fld Z h0 b "java/lang/AbstractStringBuilder" "coder" "B" (.int (0 : Int32))) (AD : Arv Z h0 d kd .byte (34 : Int32) vd (.int 0)) (hvd : vd.length = 34) (OS : OStr Z h0 s t cs) (hl_s : cs.length = 3) (ntd : t ≠ d) :
    Ct l Z consts_1 [] (⟨"java/lang/AbstractStringBuilder", "putStringAt", "(ILjava/lang/String;)V"⟩ : MethodName) jdk_68_method_73_code 3 none ({ frames := 2, cells := 0, slots := 0, locals := 33 } : Room) #[(.ref b), (.int (24 : Int32)), (.ref s)] h0 n0 [d] (fun v h => v = none ∧ Arv Z h d kd .byte (34 : Int32) (vd.take 24 ++ ((cs.map StrChars.lo8).map Value.int) ++ vd.drop (24 + 3)) (.int 0)) := by
  have w : ∀ {d : Jvm.Cond} (i : Nat), tables_1[i]? = some d → d.before a0 Z = true := fun i q => hw _ (List.mem_of_getElem? q)
  refine Ct.enter (plainFor_of_name pn_1) hEL ?_
  intro p e sS m below meth c T0 hby hml0 hret hlk hnm hs0 X0
  have hml : c.maxLocals = 3 := hml0
  have D : ∀ {pc : Nat} {r : Except DecodeError (Instr × Nat)}, decode jdk_68_method_73_code pc = r → decode c.code pc = r := fun q => hb hby q
  rw [show entryFrame m #[(.ref b), (.int (24 : Int32)), (.ref s)] 3 = mkF m 0 #[.val (.ref b), .val (.int (24 : Int32)), .val (.ref s)] [] from by first | (simp [entryFrame, mkF, argsToLocals, Value.category]; done) | rfl]
  obtain ⟨qE, -, -, _, -, qC, -⟩ := id OS
  refine X0.aloadN (x := (.ref b)) (D d19_0) rfl rfl ?_
  refine X0.aloadN (x := (.ref s)) (D d19_1) rfl rfl ?_
  refine X0.callvF (y := (⟨"java/lang/AbstractStringBuilder", "inflateIfNeededFor", "(Ljava/lang/String;)V"⟩ : MethodName)) (z := (⟨"java/lang/AbstractStringBuilder", "inflateIfNeededFor", "(Ljava/lang/String;)V"⟩ : MethodName)) (a := b) (C := "java/lang/StringBuilder") [(.ref s)] [] (ctInf l Z a0 hw hEL z0 S0 hz0 b d s _ _ EB FV FC qE qC).toF EB (w 116 rfl) (decOf (w 117 rfl) (w 120 rfl)) (w 119 rfl) (w 117 rfl) (nfOf (w 119 rfl) rfl) (w 47 rfl) (w 120 rfl) (by decide) (fun _ q => nomatch q) (by decide) 0 (by decide) (by decide) (by decide) (lenOf pd_6 rfl) rfl (Nat.le_of_ble_eq_true rfl) (by rw [hml]; rfl) (D d19_2) ?_
  rintro T523 h524 _ _ X526 K527 hg528 ⟨rfl, rfl⟩
  have F529 := EB.keep K527
  have F530 := FV.keep K527 nin0
  have F531 := FC.keep K527 nin0
  have F532 := AD.keep K527 nin0
  have F533 := OS.keep K527 nin0 nin0
  show Goes p.tables e below _ (T523.setTop (mkF m 5 #[.val (.ref b), .val (.int (24 : Int32)), .val (.ref s)] []))
  refine X526.aloadN (x := (.ref s)) (D d19_5) rfl rfl ?_
  refine X526.aloadN (x := (.ref b)) (D d19_6) rfl rfl ?_
  refine X526.getf (w 51 rfl) Via.refl F530 (D d19_7) ?_
  intro T534 X535
  show Goes p.tables e below _ (T534.setTop (mkF m 10 #[.val (.ref b), .val (.int (24 : Int32)), .val (.ref s)] [(.ref d), (.ref s)]))
  refine X535.iloadN (x := (24 : Int32)) (D d19_10) rfl ?_
  refine X535.aloadN (x := (.ref b)) (D d19_11) rfl rfl ?_
  refine X535.getf (w 53 rfl) Via.refl F531 (D d19_12) ?_
  intro T536 X537
  show Goes p.tables e below _ (T536.setTop (mkF m 15 #[.val (.ref b), .val (.int (24 : Int32)), .val (.ref s)] [(.int (0 : Int32)), (.int (24 : Int32)), (.ref d), (.ref s)]))
  refine X537.callvF (y := (⟨"java/lang/String", "getBytes", "([BIB)V"⟩ : MethodName)) (z := (⟨"java/lang/String", "getBytes", "([BIB)V"⟩ : MethodName)) (a := s) (C := "java/lang/String") [(.ref d), (.int (24 : Int32)), (.int (0 : Int32))] [] (ctGB24_3_34 l Z a0 hw hEL z0 S0 hz0 s t d kd cs vd _ _ F533 hl_s ntd F532 hvd).toF F533.1 (w 122 rfl) (w 123 rfl) (w 125 rfl) (w 124 rfl) (nfOf (w 125 rfl) rfl) (w 2 rfl) (w 126 rfl) (by decide) (by simp) (by decide) 0 (by decide) (by decide) (by decide) (lenOf pd_7 rfl) rfl (Nat.le_of_ble_eq_true rfl) (by rw [hml]; rfl) (D d19_15) ?_
  rintro T538 h539 _ _ X541 K542 hg543 ⟨rfl, rfl, A1⟩
  have F544 := F529.keep K542
  have F545 := F530.keep K542 (ninS (Exa.neArv F529 F532 (w 38 rfl)) nin0)
  have F546 := F531.keep K542 (ninS (Exa.neArv F529 F532 (w 38 rfl)) nin0)
  have F547 := F533.keep K542 (ninS (Exa.neArv F533.1 F532 (w 1 rfl)) nin0) (ninS ntd nin0)
  show Goes p.tables e below _ (T538.setTop (mkF m 18 #[.val (.ref b), .val (.int (24 : Int32)), .val (.ref s)] []))
  exact X541.retn hret hlk (D d19_18) (by decide) (by decide) (⟨rfl, A1⟩)
set_option maxRecDepth 65536 in
set_option maxHeartbeats 40000000 in
theorem ctEC27_34 (l : Launch) (Z : State) (a0 : Array Value) (hw : ∀ d ∈ tables_1, d.before a0 Z = true) (hEL : EW Z a0 consts_1) (z0 : Int32) (S0 : Sta Z Z.heap "java/lang/String" "COMPACT_STRINGS" "Z" (.int z0)) (hz0 : ¬ z0 = 0) (b d : Addr) (kd : ClassId) (vd : List Value) (h0 : Heap) (n0 : Nat) (EB : Exa Z h0 b "java/lang/StringBuilder") (FV : Fld Z h0 b "java/lang/AbstractStringBuilder" "value" "[B" (.ref d)) (FC : Fld Z h0 b "java/lang/AbstractStringBuilder" "coder" "B" (.int (0 : Int32))) (AD : Arv Z h0 d kd .byte (34 : Int32) vd (.int 0)) (hvd : vd.length = 34) :
    Ct l Z consts_1 [] (⟨"java/lang/AbstractStringBuilder", "ensureCapacityInternal", "(I)V"⟩ : MethodName) jdk_68_method_9_code 3 none ({ frames := 0, cells := 0, slots := 0, locals := 0 } : Room) #[(.ref b), (.int (27 : Int32))] h0 n0 [] (fun v _ => v = none) := by
  have w : ∀ {d : Jvm.Cond} (i : Nat), tables_1[i]? = some d → d.before a0 Z = true := fun i q => hw _ (List.mem_of_getElem? q)
  refine Ct.enter (plainFor_of_name pn_1) hEL ?_
  intro p e sS m below meth c T0 hby hml0 hret hlk hnm hs0 X0
  have hml : c.maxLocals = 3 := hml0
  have D : ∀ {pc : Nat} {r : Except DecodeError (Instr × Nat)}, decode jdk_68_method_9_code pc = r → decode c.code pc = r := fun q => hb hby q
  rw [show entryFrame m #[(.ref b), (.int (27 : Int32))] 3 = mkF m 0 #[.val (.ref b), .val (.int (27 : Int32)), .unset] [] from by first | (simp [entryFrame, mkF, argsToLocals, Value.category]; done) | rfl]
  refine X0.aloadN (x := (.ref b)) (D d13_0) rfl rfl ?_
  refine X0.getf (w 51 rfl) Via.refl FV (D d13_1) ?_
  intro T548 X549
  show Goes p.tables e below _ (T548.setTop (mkF m 4 #[.val (.ref b), .val (.int (27 : Int32)), .unset] [(.ref d)]))
  refine X549.alen AD (D d13_4) ?_
  refine X549.aloadN (x := (.ref b)) (D d13_5) rfl rfl ?_
  refine X549.getf (w 53 rfl) Via.refl FC (D d13_6) ?_
  intro T550 X551
  show Goes p.tables e below _ (T550.setTop (mkF m 9 #[.val (.ref b), .val (.int (27 : Int32)), .unset] [(.int (0 : Int32)), (.int (34 : Int32))]))
  refine X551.ishr (D d13_9) ?_
  show Goes p.tables e below _ (T550.setTop (mkF m 10 #[.val (.ref b), .val (.int (27 : Int32)), .unset] [(.int (34 : Int32))]))
  refine X551.istoreN #[.val (.ref b), .val (.int (27 : Int32)), .val (.int (34 : Int32))] (D d13_10) rfl ?_
  refine X551.iloadN (x := (27 : Int32)) (D d13_11) rfl ?_
  refine X551.iloadN (x := (34 : Int32)) (D d13_12) rfl ?_
  refine X551.isub (D d13_13) ?_
  show Goes p.tables e below _ (T550.setTop (mkF m 14 #[.val (.ref b), .val (.int (27 : Int32)), .val (.int (34 : Int32))] [(.int (-7 : Int32))]))
  refine X551.if_le 38 (D d13_14) ⟨by decide, by decide⟩ (fun hc552 => ?_) (fun hc552 => absurd hc552 (by decide))
  exact X551.retn hret hlk (D d13_38) (by decide) (by decide) (rfl)
set_option maxRecDepth 65536 in
set_option maxHeartbeats 40000000 in
theorem ctAA24_3_34 (l : Launch) (Z : State) (a0 : Array Value) (hw : ∀ d ∈ tables_1, d.before a0 Z = true) (hEL : EW Z a0 consts_1) (z0 : Int32) (S0 : Sta Z Z.heap "java/lang/String" "COMPACT_STRINGS" "Z" (.int z0)) (hz0 : ¬ z0 = 0) (b d s t : Addr) (kd : ClassId) (cs : List Int32) (vd : List Value) (h0 : Heap) (n0 : Nat) (EB : Exa Z h0 b "java/lang/StringBuilder") (FV : Fld Z h0 b "java/lang/AbstractStringBuilder" "value" "[B" (.ref d)) (FC : Fld Z h0 b "java/lang/AbstractStringBuilder" "coder" "B" (.int (0 : Int32))) (FN : Fld Z h0 b "java/lang/AbstractStringBuilder" "count" "I" (.int (24 : Int32))) (AD : Arv Z h0 d kd .byte (34 : Int32) vd (.int 0)) (hvd : vd.length = 34) (OS : OStr Z h0 s t cs) (hl_s : cs.length = 3) (ntd : t ≠ d) :
    Ct l Z consts_1 [] (⟨"java/lang/AbstractStringBuilder", "append", "(Ljava/lang/String;)Ljava/lang/AbstractStringBuilder;"⟩ : MethodName) jdk_68_method_22_code 3 (some (.object "java/lang/AbstractStringBuilder")) ({ frames := 3, cells := 0, slots := 0, locals := 47 } : Room) #[(.ref b), (.ref s)] h0 n0 [b, d] (fun v h => v = some (.ref b) ∧ Exa Z h b "java/lang/StringBuilder" ∧ Fld Z h b "java/lang/AbstractStringBuilder" "value" "[B" (.ref d) ∧ Fld Z h b "java/lang/AbstractStringBuilder" "coder" "B" (.int (0 : Int32)) ∧ Fld Z h b "java/lang/AbstractStringBuilder" "count" "I" (.int (27 : Int32)) ∧ Arv Z h d kd .byte (34 : Int32) (vd.take 24 ++ ((cs.map StrChars.lo8).map Value.int) ++ vd.drop (24 + 3)) (.int 0)) := by
  have w : ∀ {d : Jvm.Cond} (i : Nat), tables_1[i]? = some d → d.before a0 Z = true := fun i q => hw _ (List.mem_of_getElem? q)
  refine Ct.enter (plainFor_of_name pn_1) hEL ?_
  intro p e sS m below meth c T0 hby hml0 hret hlk hnm hs0 X0
  have hml : c.maxLocals = 3 := hml0
  have D : ∀ {pc : Nat} {r : Except DecodeError (Instr × Nat)}, decode jdk_68_method_22_code pc = r → decode c.code pc = r := fun q => hb hby q
  rw [show entryFrame m #[(.ref b), (.ref s)] 3 = mkF m 0 #[.val (.ref b), .val (.ref s), .unset] [] from by first | (simp [entryFrame, mkF, argsToLocals, Value.category]; done) | rfl]
  refine X0.aloadN (x := (.ref s)) (D d10_0) rfl rfl ?_
  refine X0.ifnonnullR 9 (D d10_1) ⟨by decide, by decide⟩ ?_
  refine X0.aloadN (x := (.ref s)) (D d10_9) rfl rfl ?_
  refine X0.callvF (y := (⟨"java/lang/String", "length", "()I"⟩ : MethodName)) (z := (⟨"java/lang/String", "length", "()I"⟩ : MethodName)) (a := s) (C := "java/lang/String") [] [] (ctLen3 l Z a0 hw hEL z0 S0 hz0 s t cs _ _ OS hl_s).toF OS.1 (w 68 rfl) (w 69 rfl) (w 71 rfl) (w 70 rfl) (nfOf (w 71 rfl) rfl) (w 2 rfl) (w 72 rfl) (by decide) (fun _ q => nomatch q) (by decide) 0 (by decide) (by decide) (by decide) (lenOf pd_8 rfl) rfl (Nat.le_of_ble_eq_true rfl) (by rw [hml]; rfl) (D d10_10) ?_
  rintro T553 h554 _ _ X556 K557 hg558 ⟨rfl, rfl⟩
  have F559 := EB.keep K557
  have F560 := FV.keep K557 nin0
  have F561 := FC.keep K557 nin0
  have F562 := FN.keep K557 nin0
  have F563 := AD.keep K557 nin0
  have F564 := OS.keep K557 nin0 nin0
  show Goes p.tables e below _ (T553.setTop (mkF m 13 #[.val (.ref b), .val (.ref s), .unset] [(.int (3 : Int32))]))
  refine X556.istoreN #[.val (.ref b), .val (.ref s), .val (.int (3 : Int32))] (D d10_13) rfl ?_
  refine X556.aloadN (x := (.ref b)) (D d10_14) rfl rfl ?_
  refine X556.aloadN (x := (.ref b)) (D d10_15) rfl rfl ?_
  refine X556.getf (w 78 rfl) Via.refl F562 (D d10_16) ?_
  intro T565 X566
  show Goes p.tables e below _ (T565.setTop (mkF m 19 #[.val (.ref b), .val (.ref s), .val (.int (3 : Int32))] [(.int (24 : Int32)), (.ref b)]))
  refine X566.iloadN (x := (3 : Int32)) (D d10_19) rfl ?_
  refine X566.iadd (D d10_20) ?_
  show Goes p.tables e below _ (T565.setTop (mkF m 21 #[.val (.ref b), .val (.ref s), .val (.int (3 : Int32))] [(.int (27 : Int32)), (.ref b)]))
  refine X566.callvF (y := (⟨"java/lang/AbstractStringBuilder", "ensureCapacityInternal", "(I)V"⟩ : MethodName)) (z := (⟨"java/lang/AbstractStringBuilder", "ensureCapacityInternal", "(I)V"⟩ : MethodName)) (a := b) (C := "java/lang/StringBuilder") [(.int (27 : Int32))] [] (ctEC27_34 l Z a0 hw hEL z0 S0 hz0 b d kd vd _ _ F559 F560 F561 F563 hvd).toF F559 (w 80 rfl) (decOf (w 81 rfl) (w 84 rfl)) (w 83 rfl) (w 81 rfl) (nfOf (w 83 rfl) rfl) (w 47 rfl) (w 84 rfl) (by decide) (fun _ q => nomatch q) (by decide) 0 (by decide) (by decide) (by decide) (lenOf pd_0 rfl) rfl (Nat.le_of_ble_eq_true rfl) (by rw [hml]; rfl) (D d10_21) ?_
  rintro T567 h568 _ _ X570 K571 hg572 ⟨rfl, rfl⟩
  have F573 := F559.keep K571
  have F574 := F560.keep K571 nin0
  have F575 := F561.keep K571 nin0
  have F576 := F562.keep K571 nin0
  have F577 := F563.keep K571 nin0
  have F578 := F564.keep K571 nin0 nin0
  show Goes p.tables e below _ (T567.setTop (mkF m 24 #[.val (.ref b), .val (.ref s), .val (.int (3 : Int32))] []))
  refine X570.aloadN (x := (.ref b)) (D d10_24) rfl rfl ?_
  refine X570.aloadN (x := (.ref b)) (D d10_25) rfl rfl ?_
  refine X570.getf (w 78 rfl) Via.refl F576 (D d10_26) ?_
  intro T579 X580
  show Goes p.tables e below _ (T579.setTop (mkF m 29 #[.val (.ref b), .val (.ref s), .val (.int (3 : Int32))] [(.int (24 : Int32)), (.ref b)]))
  refine X580.aloadN (x := (.ref s)) (D d10_29) rfl rfl ?_
  refine X580.callvF (y := (⟨"java/lang/AbstractStringBuilder", "putStringAt", "(ILjava/lang/String;)V"⟩ : MethodName)) (z := (⟨"java/lang/AbstractStringBuilder", "putStringAt", "(ILjava/lang/String;)V"⟩ : MethodName)) (a := b) (C := "java/lang/StringBuilder") [(.int (24 : Int32)), (.ref s)] [] (ctPS24_3_34 l Z a0 hw hEL z0 S0 hz0 b d s t kd cs vd _ _ F573 F574 F575 F577 hvd F578 hl_s ntd).toF F573 (w 111 rfl) (decOf (w 112 rfl) (w 115 rfl)) (w 114 rfl) (w 112 rfl) (nfOf (w 114 rfl) rfl) (w 47 rfl) (w 115 rfl) (by decide) (by simp) (by decide) 0 (by decide) (by decide) (by decide) (lenOf pd_9 rfl) rfl (Nat.le_of_ble_eq_true rfl) (by rw [hml]; rfl) (D d10_30) ?_
  rintro T581 h582 _ _ X584 K585 hg586 ⟨rfl, rfl, A1⟩
  have F587 := F573.keep K585
  have F588 := F574.keep K585 (ninS (Exa.neArv F573 F577 (w 38 rfl)) nin0)
  have F589 := F575.keep K585 (ninS (Exa.neArv F573 F577 (w 38 rfl)) nin0)
  have F590 := F576.keep K585 (ninS (Exa.neArv F573 F577 (w 38 rfl)) nin0)
  have F591 := F578.keep K585 (ninS (Exa.neArv F578.1 F577 (w 1 rfl)) nin0) (ninS ntd nin0)
  show Goes p.tables e below _ (T581.setTop (mkF m 33 #[.val (.ref b), .val (.ref s), .val (.int (3 : Int32))] []))
  refine X584.aloadN (x := (.ref b)) (D d10_33) rfl rfl ?_
  refine X584.dup (D d10_34) rfl ?_
  refine X584.getf (w 78 rfl) Via.refl F590 (D d10_35) ?_
  intro T592 X593
  show Goes p.tables e below _ (T592.setTop (mkF m 38 #[.val (.ref b), .val (.ref s), .val (.int (3 : Int32))] [(.int (24 : Int32)), (.ref b)]))
  refine X593.iloadN (x := (3 : Int32)) (D d10_38) rfl ?_
  refine X593.iadd (D d10_39) ?_
  show Goes p.tables e below _ (T592.setTop (mkF m 40 #[.val (.ref b), .val (.ref s), .val (.int (3 : Int32))] [(.int (27 : Int32)), (.ref b)]))
  refine X593.putf (w 78 rfl) Via.refl F590 F587 (Or.inl (w 79 rfl)) (w 38 rfl) (ty := .int) (by decide) rfl rfl (D d10_40) (by simp) ?_
  intro T594 h595 X596 W597
  have F598 := F590.same W597
  have F599 := F587.wr W597
  have F600 := F588.other W597 (Or.inr (slot_ne (t := (.array .byte)) (t' := .int) (Or.inl (w 52 rfl)) (Or.inl (w 79 rfl)) (by decide) (by decide) (by decide)))
  have F601 := F589.other W597 (Or.inr (slot_ne (t := .byte) (t' := .int) (Or.inl (w 54 rfl)) (Or.inl (w 79 rfl)) (by decide) (by decide) (by decide)))
  have F602 := F591.wr W597 (Exa.ne F591.1 F587 (by decide)) (OStr.neT F591 F587 (w 38 rfl))
  have F603 := A1.other W597 (Exa.neArv F587 A1 (w 38 rfl)).symm
  show Goes p.tables e below _ (T594.setTop (mkF m 43 #[.val (.ref b), .val (.ref s), .val (.int (3 : Int32))] []))
  refine X596.aloadN (x := (.ref b)) (D d10_43) rfl rfl ?_
  exact X596.retA hret rfl rfl hlk (D d10_44) (by decide) (by decide) (⟨rfl, F599, F600, F601, F598, F603⟩)
set_option maxRecDepth 65536 in
set_option maxHeartbeats 40000000 in
theorem ctSBa24_3_34 (l : Launch) (Z : State) (a0 : Array Value) (hw : ∀ d ∈ tables_1, d.before a0 Z = true) (hEL : EW Z a0 consts_1) (z0 : Int32) (S0 : Sta Z Z.heap "java/lang/String" "COMPACT_STRINGS" "Z" (.int z0)) (hz0 : ¬ z0 = 0) (b d s t : Addr) (kd : ClassId) (cs : List Int32) (vd : List Value) (h0 : Heap) (n0 : Nat) (EB : Exa Z h0 b "java/lang/StringBuilder") (FV : Fld Z h0 b "java/lang/AbstractStringBuilder" "value" "[B" (.ref d)) (FC : Fld Z h0 b "java/lang/AbstractStringBuilder" "coder" "B" (.int (0 : Int32))) (FN : Fld Z h0 b "java/lang/AbstractStringBuilder" "count" "I" (.int (24 : Int32))) (AD : Arv Z h0 d kd .byte (34 : Int32) vd (.int 0)) (hvd : vd.length = 34) (OS : OStr Z h0 s t cs) (hl_s : cs.length = 3) (ntd : t ≠ d) :
    Ct l Z consts_1 [] (⟨"java/lang/StringBuilder", "append", "(Ljava/lang/String;)Ljava/lang/StringBuilder;"⟩ : MethodName) jdk_67_method_7_code 2 (some (.object "java/lang/StringBuilder")) ({ frames := 4, cells := 0, slots := 0, locals := 61 } : Room) #[(.ref b), (.ref s)] h0 n0 [b, d] (fun v h => v = some (.ref b) ∧ Exa Z h b "java/lang/StringBuilder" ∧ Fld Z h b "java/lang/AbstractStringBuilder" "value" "[B" (.ref d) ∧ Fld Z h b "java/lang/AbstractStringBuilder" "coder" "B" (.int (0 : Int32)) ∧ Fld Z h b "java/lang/AbstractStringBuilder" "count" "I" (.int (27 : Int32)) ∧ Arv Z h d kd .byte (34 : Int32) (vd.take 24 ++ ((cs.map StrChars.lo8).map Value.int) ++ vd.drop (24 + 3)) (.int 0)) := by
  have w : ∀ {d : Jvm.Cond} (i : Nat), tables_1[i]? = some d → d.before a0 Z = true := fun i q => hw _ (List.mem_of_getElem? q)
  refine Ct.enter (plainFor_of_name pn_2) hEL ?_
  intro p e sS m below meth c T0 hby hml0 hret hlk hnm hs0 X0
  have hml : c.maxLocals = 2 := hml0
  have D : ∀ {pc : Nat} {r : Except DecodeError (Instr × Nat)}, decode jdk_67_method_7_code pc = r → decode c.code pc = r := fun q => hb hby q
  rw [show entryFrame m #[(.ref b), (.ref s)] 2 = mkF m 0 #[.val (.ref b), .val (.ref s)] [] from by first | (simp [entryFrame, mkF, argsToLocals, Value.category]; done) | rfl]
  refine X0.aloadN (x := (.ref b)) (D d9_0) rfl rfl ?_
  refine X0.aloadN (x := (.ref s)) (D d9_1) rfl rfl ?_
  refine X0.callu (a := b) [(.ref s)] [] (ctAA24_3_34 l Z a0 hw hEL z0 S0 hz0 b d s t kd cs vd _ _ EB FV FC FN AD hvd OS hl_s ntd).toF EB (w 63 rfl) (smOf (w 64 rfl) (w 144 rfl) rfl (by decide)) (w 64 rfl) (w 65 rfl) (by decide) (w 47 rfl) (w 67 rfl) (by simp) (by decide) 0 (by decide) (by decide) (by decide) (lenOf pd_10 rfl) rfl (Nat.le_of_ble_eq_true rfl) (by rw [hml]; rfl) (D d9_2) ?_
  rintro T604 h605 _ _ X607 K608 hg609 ⟨rfl, rfl, E1, V1, C1, N1, A1⟩
  have F610 := EB.keep K608
  have F611 := OS.keep K608 (ninS (Exa.ne OS.1 EB (by decide)) (ninS (Exa.neArv OS.1 AD (w 1 rfl)) nin0)) (ninS (OStr.neT OS EB (w 38 rfl)) (ninS ntd nin0))
  show Goes p.tables e below _ (T604.setTop (mkF m 5 #[.val (.ref b), .val (.ref s)] [(.ref b)]))
  refine X607.pop (D d9_5) rfl ?_
  refine X607.aloadN (x := (.ref b)) (D d9_6) rfl rfl ?_
  exact X607.retA hret rfl rfl hlk (D d9_7) (by decide) (by decide) (⟨rfl, E1, V1, C1, N1, A1⟩)
set_option maxRecDepth 65536 in
set_option maxHeartbeats 40000000 in
theorem ctGB27_2_34 (l : Launch) (Z : State) (a0 : Array Value) (hw : ∀ d ∈ tables_1, d.before a0 Z = true) (hEL : EW Z a0 consts_1) (z0 : Int32) (S0 : Sta Z Z.heap "java/lang/String" "COMPACT_STRINGS" "Z" (.int z0)) (hz0 : ¬ z0 = 0) (s t d : Addr) (kd : ClassId) (cs : List Int32) (vd : List Value) (h0 : Heap) (n0 : Nat) (OS : OStr Z h0 s t cs) (hl_s : cs.length = 2) (ntd : t ≠ d) (AD : Arv Z h0 d kd .byte (34 : Int32) vd (.int 0)) (hvd : vd.length = 34) :
    Ct l Z consts_1 [] (⟨"java/lang/String", "getBytes", "([BIB)V"⟩ : MethodName) jdk_42_method_147_code 4 none ({ frames := 1, cells := 0, slots := 0, locals := 18 } : Room) #[(.ref s), (.ref d), (.int (27 : Int32)), (.int (0 : Int32))] h0 n0 [d] (fun v h => v = none ∧ Arv Z h d kd .byte (34 : Int32) (vd.take 27 ++ ((cs.map StrChars.lo8).map Value.int) ++ vd.drop (27 + 2)) (.int 0)) := by
  have w : ∀ {d : Jvm.Cond} (i : Nat), tables_1[i]? = some d → d.before a0 Z = true := fun i q => hw _ (List.mem_of_getElem? q)
  refine Ct.enter (plainFor_of_name pn_0) hEL ?_
  intro p e sS m below meth c T0 hby hml0 hret hlk hnm hs0 X0
  have hml : c.maxLocals = 4 := hml0
  have D : ∀ {pc : Nat} {r : Except DecodeError (Instr × Nat)}, decode jdk_42_method_147_code pc = r → decode c.code pc = r := fun q => hb hby q
  rw [show entryFrame m #[(.ref s), (.ref d), (.int (27 : Int32)), (.int (0 : Int32))] 4 = mkF m 0 #[.val (.ref s), .val (.ref d), .val (.int (27 : Int32)), .val (.int (0 : Int32))] [] from by first | (simp [entryFrame, mkF, argsToLocals, Value.category]; done) | rfl]
  obtain ⟨F612, hp613, hl614, kb615, F616, F617, F618⟩ := id OS
  have F619 : Arv Z h0 t kb615 .byte (2 : Int32) ((cs.map StrChars.lo8).map Value.int) (.int 0) := by have q := F618; rw [hl_s] at q; exact q
  refine X0.aloadN (x := (.ref s)) (D d21_0) rfl rfl ?_
  refine X0.callvF (y := (⟨"java/lang/String", "coder", "()B"⟩ : MethodName)) (z := (⟨"java/lang/String", "coder", "()B"⟩ : MethodName)) (a := s) (C := "java/lang/String") [] [] (ctCdr l Z a0 hw hEL z0 S0 hz0 s _ _ F617).toF F612 (w 73 rfl) (w 74 rfl) (w 76 rfl) (w 75 rfl) (nfOf (w 76 rfl) rfl) (w 2 rfl) (w 77 rfl) (by decide) (fun _ q => nomatch q) (by decide) 0 (by decide) (by decide) (by decide) (lenOf pd_1 rfl) rfl (Nat.le_of_ble_eq_true rfl) (by rw [hml]; rfl) (D d21_1) ?_
  rintro T620 h621 _ _ X623 K624 hg625 ⟨rfl, rfl⟩
  have F626 := OS.keep K624 nin0 nin0
  have F627 := AD.keep K624 nin0
  have F628 := F612.keep K624
  have F629 := F616.keep K624 nin0
  have F630 := F617.keep K624 nin0
  have F631 := F619.keep K624 nin0
  show Goes p.tables e below _ (T620.setTop (mkF m 4 #[.val (.ref s), .val (.ref d), .val (.int (27 : Int32)), .val (.int (0 : Int32))] [(.int (0 : Int32))]))
  refine X623.iloadN (x := (0 : Int32)) (D d21_4) rfl ?_
  refine X623.icmp_ne 28 (D d21_5) ⟨by decide, by decide⟩ (fun hc632 => absurd hc632 (by decide)) (fun hc632 => ?_)
  refine X623.aloadN (x := (.ref s)) (D d21_8) rfl rfl ?_
  refine X623.getf (w 28 rfl) Via.refl F629 (D d21_9) ?_
  intro T633 X634
  show Goes p.tables e below _ (T633.setTop (mkF m 12 #[.val (.ref s), .val (.ref d), .val (.int (27 : Int32)), .val (.int (0 : Int32))] [(.ref t)]))
  refine X634.iconst (x := (0 : Int32)) (D d21_12) rfl ?_
  refine X634.aloadN (x := (.ref d)) (D d21_13) rfl rfl ?_
  refine X634.iloadN (x := (27 : Int32)) (D d21_14) rfl ?_
  refine X634.iloadN (x := (0 : Int32)) (D d21_15) rfl ?_
  refine X634.ishl (D d21_16) ?_
  show Goes p.tables e below _ (T633.setTop (mkF m 17 #[.val (.ref s), .val (.ref d), .val (.int (27 : Int32)), .val (.int (0 : Int32))] [(.int (27 : Int32)), (.ref d), (.int (0 : Int32)), (.ref t)]))
  refine X634.aloadN (x := (.ref s)) (D d21_17) rfl rfl ?_
  refine X634.getf (w 28 rfl) Via.refl F629 (D d21_18) ?_
  intro T635 X636
  show Goes p.tables e below _ (T635.setTop (mkF m 21 #[.val (.ref s), .val (.ref d), .val (.int (27 : Int32)), .val (.int (0 : Int32))] [(.ref t), (.int (27 : Int32)), (.ref d), (.int (0 : Int32)), (.ref t)]))
  refine X636.alen F631 (D d21_21) ?_
  show Goes p.tables e below _ (T635.setTop (mkF m 22 #[.val (.ref s), .val (.ref d), .val (.int (27 : Int32)), .val (.int (0 : Int32))] [(.int (2 : Int32)), (.int (27 : Int32)), (.ref d), (.int (0 : Int32)), (.ref t)]))
  refine X636.acopy (us := ((cs.map StrChars.lo8).map Value.int)) (w 127 rfl) (w 110 rfl) (w 108 rfl) (w 109 rfl) F631 F627 (by decide) (by decide) (by decide) (by decide) (by decide) (slice0 (mlen hl_s)) (by rw [hvd]; decide) (by simp) (by rw [hml]; rfl) (D d21_22) (by decide) 0 (Nat.le_of_ble_eq_true rfl) (by decide) ?_
  intro T637 h638 X639 K640 B641
  have F642 := F626.keep K640 (ninS (Exa.neArv F628 F627 (w 1 rfl)) nin0) (ninS ntd nin0)
  have F643 := F628.keep K640
  have F644 := F629.keep K640 (ninS (Exa.neArv F628 F627 (w 1 rfl)) nin0)
  have F645 := F630.keep K640 (ninS (Exa.neArv F628 F627 (w 1 rfl)) nin0)
  have F646 := F631.keep K640 (ninS ntd nin0)
  show Goes p.tables e below _ (T637.setTop (mkF m 25 #[.val (.ref s), .val (.ref d), .val (.int (27 : Int32)), .val (.int (0 : Int32))] []))
  refine X639.goto 43 (D d21_25) ⟨by decide, by decide⟩ ?_
  exact X639.retn hret hlk (D d21_43) (by decide) (by decide) (⟨rfl, B641⟩)
set_option maxRecDepth 65536 in
set_option maxHeartbeats 40000000 in
theorem ctPS27_2_34 (l : Launch) (Z : State) (a0 : Array Value) (hw : ∀ d ∈ tables_1, d.before a0 Z = true) (hEL : EW Z a0 consts_1) (z0 : Int32) (S0 : Sta Z Z.heap "java/lang/String" "COMPACT_STRINGS" "Z" (.int z0)) (hz0 : ¬ z0 = 0) (b d s t : Addr) (kd : ClassId) (cs : List Int32) (vd : List Value) (h0 : Heap) (n0 : Nat) (EB : Exa Z h0 b "java/lang/StringBuilder") (FV : Fld Z h0 b "java/lang/AbstractStringBuilder" "value" "[B" (.ref d)) (FC : Fld Z h0 b "java/lang/AbstractStringBuilder" "coder" "B" (.int (0 : Int32))) (AD : Arv Z h0 d kd .byte (34 : Int32) vd (.int 0)) (hvd : vd.length = 34) (OS : OStr Z h0 s t cs) (hl_s : cs.length = 2) (ntd : t ≠ d) :
    Ct l Z consts_1 [] (⟨"java/lang/AbstractStringBuilder", "putStringAt", "(ILjava/lang/String;)V"⟩ : MethodName) jdk_68_method_73_code 3 none ({ frames := 2, cells := 0, slots := 0, locals := 33 } : Room) #[(.ref b), (.int (27 : Int32)), (.ref s)] h0 n0 [d] (fun v h => v = none ∧ Arv Z h d kd .byte (34 : Int32) (vd.take 27 ++ ((cs.map StrChars.lo8).map Value.int) ++ vd.drop (27 + 2)) (.int 0)) := by
  have w : ∀ {d : Jvm.Cond} (i : Nat), tables_1[i]? = some d → d.before a0 Z = true := fun i q => hw _ (List.mem_of_getElem? q)
  refine Ct.enter (plainFor_of_name pn_1) hEL ?_
  intro p e sS m below meth c T0 hby hml0 hret hlk hnm hs0 X0
  have hml : c.maxLocals = 3 := hml0
  have D : ∀ {pc : Nat} {r : Except DecodeError (Instr × Nat)}, decode jdk_68_method_73_code pc = r → decode c.code pc = r := fun q => hb hby q
  rw [show entryFrame m #[(.ref b), (.int (27 : Int32)), (.ref s)] 3 = mkF m 0 #[.val (.ref b), .val (.int (27 : Int32)), .val (.ref s)] [] from by first | (simp [entryFrame, mkF, argsToLocals, Value.category]; done) | rfl]
  obtain ⟨qE, -, -, _, -, qC, -⟩ := id OS
  refine X0.aloadN (x := (.ref b)) (D d19_0) rfl rfl ?_
  refine X0.aloadN (x := (.ref s)) (D d19_1) rfl rfl ?_
  refine X0.callvF (y := (⟨"java/lang/AbstractStringBuilder", "inflateIfNeededFor", "(Ljava/lang/String;)V"⟩ : MethodName)) (z := (⟨"java/lang/AbstractStringBuilder", "inflateIfNeededFor", "(Ljava/lang/String;)V"⟩ : MethodName)) (a := b) (C := "java/lang/StringBuilder") [(.ref s)] [] (ctInf l Z a0 hw hEL z0 S0 hz0 b d s _ _ EB FV FC qE qC).toF EB (w 116 rfl) (decOf (w 117 rfl) (w 120 rfl)) (w 119 rfl) (w 117 rfl) (nfOf (w 119 rfl) rfl) (w 47 rfl) (w 120 rfl) (by decide) (fun _ q => nomatch q) (by decide) 0 (by decide) (by decide) (by decide) (lenOf pd_6 rfl) rfl (Nat.le_of_ble_eq_true rfl) (by rw [hml]; rfl) (D d19_2) ?_
  rintro T647 h648 _ _ X650 K651 hg652 ⟨rfl, rfl⟩
  have F653 := EB.keep K651
  have F654 := FV.keep K651 nin0
  have F655 := FC.keep K651 nin0
  have F656 := AD.keep K651 nin0
  have F657 := OS.keep K651 nin0 nin0
  show Goes p.tables e below _ (T647.setTop (mkF m 5 #[.val (.ref b), .val (.int (27 : Int32)), .val (.ref s)] []))
  refine X650.aloadN (x := (.ref s)) (D d19_5) rfl rfl ?_
  refine X650.aloadN (x := (.ref b)) (D d19_6) rfl rfl ?_
  refine X650.getf (w 51 rfl) Via.refl F654 (D d19_7) ?_
  intro T658 X659
  show Goes p.tables e below _ (T658.setTop (mkF m 10 #[.val (.ref b), .val (.int (27 : Int32)), .val (.ref s)] [(.ref d), (.ref s)]))
  refine X659.iloadN (x := (27 : Int32)) (D d19_10) rfl ?_
  refine X659.aloadN (x := (.ref b)) (D d19_11) rfl rfl ?_
  refine X659.getf (w 53 rfl) Via.refl F655 (D d19_12) ?_
  intro T660 X661
  show Goes p.tables e below _ (T660.setTop (mkF m 15 #[.val (.ref b), .val (.int (27 : Int32)), .val (.ref s)] [(.int (0 : Int32)), (.int (27 : Int32)), (.ref d), (.ref s)]))
  refine X661.callvF (y := (⟨"java/lang/String", "getBytes", "([BIB)V"⟩ : MethodName)) (z := (⟨"java/lang/String", "getBytes", "([BIB)V"⟩ : MethodName)) (a := s) (C := "java/lang/String") [(.ref d), (.int (27 : Int32)), (.int (0 : Int32))] [] (ctGB27_2_34 l Z a0 hw hEL z0 S0 hz0 s t d kd cs vd _ _ F657 hl_s ntd F656 hvd).toF F657.1 (w 122 rfl) (w 123 rfl) (w 125 rfl) (w 124 rfl) (nfOf (w 125 rfl) rfl) (w 2 rfl) (w 126 rfl) (by decide) (by simp) (by decide) 0 (by decide) (by decide) (by decide) (lenOf pd_7 rfl) rfl (Nat.le_of_ble_eq_true rfl) (by rw [hml]; rfl) (D d19_15) ?_
  rintro T662 h663 _ _ X665 K666 hg667 ⟨rfl, rfl, A1⟩
  have F668 := F653.keep K666
  have F669 := F654.keep K666 (ninS (Exa.neArv F653 F656 (w 38 rfl)) nin0)
  have F670 := F655.keep K666 (ninS (Exa.neArv F653 F656 (w 38 rfl)) nin0)
  have F671 := F657.keep K666 (ninS (Exa.neArv F657.1 F656 (w 1 rfl)) nin0) (ninS ntd nin0)
  show Goes p.tables e below _ (T662.setTop (mkF m 18 #[.val (.ref b), .val (.int (27 : Int32)), .val (.ref s)] []))
  exact X665.retn hret hlk (D d19_18) (by decide) (by decide) (⟨rfl, A1⟩)
set_option maxRecDepth 65536 in
set_option maxHeartbeats 40000000 in
theorem ctEC29_34 (l : Launch) (Z : State) (a0 : Array Value) (hw : ∀ d ∈ tables_1, d.before a0 Z = true) (hEL : EW Z a0 consts_1) (z0 : Int32) (S0 : Sta Z Z.heap "java/lang/String" "COMPACT_STRINGS" "Z" (.int z0)) (hz0 : ¬ z0 = 0) (b d : Addr) (kd : ClassId) (vd : List Value) (h0 : Heap) (n0 : Nat) (EB : Exa Z h0 b "java/lang/StringBuilder") (FV : Fld Z h0 b "java/lang/AbstractStringBuilder" "value" "[B" (.ref d)) (FC : Fld Z h0 b "java/lang/AbstractStringBuilder" "coder" "B" (.int (0 : Int32))) (AD : Arv Z h0 d kd .byte (34 : Int32) vd (.int 0)) (hvd : vd.length = 34) :
    Ct l Z consts_1 [] (⟨"java/lang/AbstractStringBuilder", "ensureCapacityInternal", "(I)V"⟩ : MethodName) jdk_68_method_9_code 3 none ({ frames := 0, cells := 0, slots := 0, locals := 0 } : Room) #[(.ref b), (.int (29 : Int32))] h0 n0 [] (fun v _ => v = none) := by
  have w : ∀ {d : Jvm.Cond} (i : Nat), tables_1[i]? = some d → d.before a0 Z = true := fun i q => hw _ (List.mem_of_getElem? q)
  refine Ct.enter (plainFor_of_name pn_1) hEL ?_
  intro p e sS m below meth c T0 hby hml0 hret hlk hnm hs0 X0
  have hml : c.maxLocals = 3 := hml0
  have D : ∀ {pc : Nat} {r : Except DecodeError (Instr × Nat)}, decode jdk_68_method_9_code pc = r → decode c.code pc = r := fun q => hb hby q
  rw [show entryFrame m #[(.ref b), (.int (29 : Int32))] 3 = mkF m 0 #[.val (.ref b), .val (.int (29 : Int32)), .unset] [] from by first | (simp [entryFrame, mkF, argsToLocals, Value.category]; done) | rfl]
  refine X0.aloadN (x := (.ref b)) (D d13_0) rfl rfl ?_
  refine X0.getf (w 51 rfl) Via.refl FV (D d13_1) ?_
  intro T672 X673
  show Goes p.tables e below _ (T672.setTop (mkF m 4 #[.val (.ref b), .val (.int (29 : Int32)), .unset] [(.ref d)]))
  refine X673.alen AD (D d13_4) ?_
  refine X673.aloadN (x := (.ref b)) (D d13_5) rfl rfl ?_
  refine X673.getf (w 53 rfl) Via.refl FC (D d13_6) ?_
  intro T674 X675
  show Goes p.tables e below _ (T674.setTop (mkF m 9 #[.val (.ref b), .val (.int (29 : Int32)), .unset] [(.int (0 : Int32)), (.int (34 : Int32))]))
  refine X675.ishr (D d13_9) ?_
  show Goes p.tables e below _ (T674.setTop (mkF m 10 #[.val (.ref b), .val (.int (29 : Int32)), .unset] [(.int (34 : Int32))]))
  refine X675.istoreN #[.val (.ref b), .val (.int (29 : Int32)), .val (.int (34 : Int32))] (D d13_10) rfl ?_
  refine X675.iloadN (x := (29 : Int32)) (D d13_11) rfl ?_
  refine X675.iloadN (x := (34 : Int32)) (D d13_12) rfl ?_
  refine X675.isub (D d13_13) ?_
  show Goes p.tables e below _ (T674.setTop (mkF m 14 #[.val (.ref b), .val (.int (29 : Int32)), .val (.int (34 : Int32))] [(.int (-5 : Int32))]))
  refine X675.if_le 38 (D d13_14) ⟨by decide, by decide⟩ (fun hc676 => ?_) (fun hc676 => absurd hc676 (by decide))
  exact X675.retn hret hlk (D d13_38) (by decide) (by decide) (rfl)
set_option maxRecDepth 65536 in
set_option maxHeartbeats 40000000 in
theorem ctAA27_2_34 (l : Launch) (Z : State) (a0 : Array Value) (hw : ∀ d ∈ tables_1, d.before a0 Z = true) (hEL : EW Z a0 consts_1) (z0 : Int32) (S0 : Sta Z Z.heap "java/lang/String" "COMPACT_STRINGS" "Z" (.int z0)) (hz0 : ¬ z0 = 0) (b d s t : Addr) (kd : ClassId) (cs : List Int32) (vd : List Value) (h0 : Heap) (n0 : Nat) (EB : Exa Z h0 b "java/lang/StringBuilder") (FV : Fld Z h0 b "java/lang/AbstractStringBuilder" "value" "[B" (.ref d)) (FC : Fld Z h0 b "java/lang/AbstractStringBuilder" "coder" "B" (.int (0 : Int32))) (FN : Fld Z h0 b "java/lang/AbstractStringBuilder" "count" "I" (.int (27 : Int32))) (AD : Arv Z h0 d kd .byte (34 : Int32) vd (.int 0)) (hvd : vd.length = 34) (OS : OStr Z h0 s t cs) (hl_s : cs.length = 2) (ntd : t ≠ d) :
    Ct l Z consts_1 [] (⟨"java/lang/AbstractStringBuilder", "append", "(Ljava/lang/String;)Ljava/lang/AbstractStringBuilder;"⟩ : MethodName) jdk_68_method_22_code 3 (some (.object "java/lang/AbstractStringBuilder")) ({ frames := 3, cells := 0, slots := 0, locals := 47 } : Room) #[(.ref b), (.ref s)] h0 n0 [b, d] (fun v h => v = some (.ref b) ∧ Exa Z h b "java/lang/StringBuilder" ∧ Fld Z h b "java/lang/AbstractStringBuilder" "value" "[B" (.ref d) ∧ Fld Z h b "java/lang/AbstractStringBuilder" "coder" "B" (.int (0 : Int32)) ∧ Fld Z h b "java/lang/AbstractStringBuilder" "count" "I" (.int (29 : Int32)) ∧ Arv Z h d kd .byte (34 : Int32) (vd.take 27 ++ ((cs.map StrChars.lo8).map Value.int) ++ vd.drop (27 + 2)) (.int 0)) := by
  have w : ∀ {d : Jvm.Cond} (i : Nat), tables_1[i]? = some d → d.before a0 Z = true := fun i q => hw _ (List.mem_of_getElem? q)
  refine Ct.enter (plainFor_of_name pn_1) hEL ?_
  intro p e sS m below meth c T0 hby hml0 hret hlk hnm hs0 X0
  have hml : c.maxLocals = 3 := hml0
  have D : ∀ {pc : Nat} {r : Except DecodeError (Instr × Nat)}, decode jdk_68_method_22_code pc = r → decode c.code pc = r := fun q => hb hby q
  rw [show entryFrame m #[(.ref b), (.ref s)] 3 = mkF m 0 #[.val (.ref b), .val (.ref s), .unset] [] from by first | (simp [entryFrame, mkF, argsToLocals, Value.category]; done) | rfl]
  refine X0.aloadN (x := (.ref s)) (D d10_0) rfl rfl ?_
  refine X0.ifnonnullR 9 (D d10_1) ⟨by decide, by decide⟩ ?_
  refine X0.aloadN (x := (.ref s)) (D d10_9) rfl rfl ?_
  refine X0.callvF (y := (⟨"java/lang/String", "length", "()I"⟩ : MethodName)) (z := (⟨"java/lang/String", "length", "()I"⟩ : MethodName)) (a := s) (C := "java/lang/String") [] [] (ctLen2 l Z a0 hw hEL z0 S0 hz0 s t cs _ _ OS hl_s).toF OS.1 (w 68 rfl) (w 69 rfl) (w 71 rfl) (w 70 rfl) (nfOf (w 71 rfl) rfl) (w 2 rfl) (w 72 rfl) (by decide) (fun _ q => nomatch q) (by decide) 0 (by decide) (by decide) (by decide) (lenOf pd_8 rfl) rfl (Nat.le_of_ble_eq_true rfl) (by rw [hml]; rfl) (D d10_10) ?_
  rintro T677 h678 _ _ X680 K681 hg682 ⟨rfl, rfl⟩
  have F683 := EB.keep K681
  have F684 := FV.keep K681 nin0
  have F685 := FC.keep K681 nin0
  have F686 := FN.keep K681 nin0
  have F687 := AD.keep K681 nin0
  have F688 := OS.keep K681 nin0 nin0
  show Goes p.tables e below _ (T677.setTop (mkF m 13 #[.val (.ref b), .val (.ref s), .unset] [(.int (2 : Int32))]))
  refine X680.istoreN #[.val (.ref b), .val (.ref s), .val (.int (2 : Int32))] (D d10_13) rfl ?_
  refine X680.aloadN (x := (.ref b)) (D d10_14) rfl rfl ?_
  refine X680.aloadN (x := (.ref b)) (D d10_15) rfl rfl ?_
  refine X680.getf (w 78 rfl) Via.refl F686 (D d10_16) ?_
  intro T689 X690
  show Goes p.tables e below _ (T689.setTop (mkF m 19 #[.val (.ref b), .val (.ref s), .val (.int (2 : Int32))] [(.int (27 : Int32)), (.ref b)]))
  refine X690.iloadN (x := (2 : Int32)) (D d10_19) rfl ?_
  refine X690.iadd (D d10_20) ?_
  show Goes p.tables e below _ (T689.setTop (mkF m 21 #[.val (.ref b), .val (.ref s), .val (.int (2 : Int32))] [(.int (29 : Int32)), (.ref b)]))
  refine X690.callvF (y := (⟨"java/lang/AbstractStringBuilder", "ensureCapacityInternal", "(I)V"⟩ : MethodName)) (z := (⟨"java/lang/AbstractStringBuilder", "ensureCapacityInternal", "(I)V"⟩ : MethodName)) (a := b) (C := "java/lang/StringBuilder") [(.int (29 : Int32))] [] (ctEC29_34 l Z a0 hw hEL z0 S0 hz0 b d kd vd _ _ F683 F684 F685 F687 hvd).toF F683 (w 80 rfl) (decOf (w 81 rfl) (w 84 rfl)) (w 83 rfl) (w 81 rfl) (nfOf (w 83 rfl) rfl) (w 47 rfl) (w 84 rfl) (by decide) (fun _ q => nomatch q) (by decide) 0 (by decide) (by decide) (by decide) (lenOf pd_0 rfl) rfl (Nat.le_of_ble_eq_true rfl) (by rw [hml]; rfl) (D d10_21) ?_
  rintro T691 h692 _ _ X694 K695 hg696 ⟨rfl, rfl⟩
  have F697 := F683.keep K695
  have F698 := F684.keep K695 nin0
  have F699 := F685.keep K695 nin0
  have F700 := F686.keep K695 nin0
  have F701 := F687.keep K695 nin0
  have F702 := F688.keep K695 nin0 nin0
  show Goes p.tables e below _ (T691.setTop (mkF m 24 #[.val (.ref b), .val (.ref s), .val (.int (2 : Int32))] []))
  refine X694.aloadN (x := (.ref b)) (D d10_24) rfl rfl ?_
  refine X694.aloadN (x := (.ref b)) (D d10_25) rfl rfl ?_
  refine X694.getf (w 78 rfl) Via.refl F700 (D d10_26) ?_
  intro T703 X704
  show Goes p.tables e below _ (T703.setTop (mkF m 29 #[.val (.ref b), .val (.ref s), .val (.int (2 : Int32))] [(.int (27 : Int32)), (.ref b)]))
  refine X704.aloadN (x := (.ref s)) (D d10_29) rfl rfl ?_
  refine X704.callvF (y := (⟨"java/lang/AbstractStringBuilder", "putStringAt", "(ILjava/lang/String;)V"⟩ : MethodName)) (z := (⟨"java/lang/AbstractStringBuilder", "putStringAt", "(ILjava/lang/String;)V"⟩ : MethodName)) (a := b) (C := "java/lang/StringBuilder") [(.int (27 : Int32)), (.ref s)] [] (ctPS27_2_34 l Z a0 hw hEL z0 S0 hz0 b d s t kd cs vd _ _ F697 F698 F699 F701 hvd F702 hl_s ntd).toF F697 (w 111 rfl) (decOf (w 112 rfl) (w 115 rfl)) (w 114 rfl) (w 112 rfl) (nfOf (w 114 rfl) rfl) (w 47 rfl) (w 115 rfl) (by decide) (by simp) (by decide) 0 (by decide) (by decide) (by decide) (lenOf pd_9 rfl) rfl (Nat.le_of_ble_eq_true rfl) (by rw [hml]; rfl) (D d10_30) ?_
  rintro T705 h706 _ _ X708 K709 hg710 ⟨rfl, rfl, A1⟩
  have F711 := F697.keep K709
  have F712 := F698.keep K709 (ninS (Exa.neArv F697 F701 (w 38 rfl)) nin0)
  have F713 := F699.keep K709 (ninS (Exa.neArv F697 F701 (w 38 rfl)) nin0)
  have F714 := F700.keep K709 (ninS (Exa.neArv F697 F701 (w 38 rfl)) nin0)
  have F715 := F702.keep K709 (ninS (Exa.neArv F702.1 F701 (w 1 rfl)) nin0) (ninS ntd nin0)
  show Goes p.tables e below _ (T705.setTop (mkF m 33 #[.val (.ref b), .val (.ref s), .val (.int (2 : Int32))] []))
  refine X708.aloadN (x := (.ref b)) (D d10_33) rfl rfl ?_
  refine X708.dup (D d10_34) rfl ?_
  refine X708.getf (w 78 rfl) Via.refl F714 (D d10_35) ?_
  intro T716 X717
  show Goes p.tables e below _ (T716.setTop (mkF m 38 #[.val (.ref b), .val (.ref s), .val (.int (2 : Int32))] [(.int (27 : Int32)), (.ref b)]))
  refine X717.iloadN (x := (2 : Int32)) (D d10_38) rfl ?_
  refine X717.iadd (D d10_39) ?_
  show Goes p.tables e below _ (T716.setTop (mkF m 40 #[.val (.ref b), .val (.ref s), .val (.int (2 : Int32))] [(.int (29 : Int32)), (.ref b)]))
  refine X717.putf (w 78 rfl) Via.refl F714 F711 (Or.inl (w 79 rfl)) (w 38 rfl) (ty := .int) (by decide) rfl rfl (D d10_40) (by simp) ?_
  intro T718 h719 X720 W721
  have F722 := F714.same W721
  have F723 := F711.wr W721
  have F724 := F712.other W721 (Or.inr (slot_ne (t := (.array .byte)) (t' := .int) (Or.inl (w 52 rfl)) (Or.inl (w 79 rfl)) (by decide) (by decide) (by decide)))
  have F725 := F713.other W721 (Or.inr (slot_ne (t := .byte) (t' := .int) (Or.inl (w 54 rfl)) (Or.inl (w 79 rfl)) (by decide) (by decide) (by decide)))
  have F726 := F715.wr W721 (Exa.ne F715.1 F711 (by decide)) (OStr.neT F715 F711 (w 38 rfl))
  have F727 := A1.other W721 (Exa.neArv F711 A1 (w 38 rfl)).symm
  show Goes p.tables e below _ (T718.setTop (mkF m 43 #[.val (.ref b), .val (.ref s), .val (.int (2 : Int32))] []))
  refine X720.aloadN (x := (.ref b)) (D d10_43) rfl rfl ?_
  exact X720.retA hret rfl rfl hlk (D d10_44) (by decide) (by decide) (⟨rfl, F723, F724, F725, F722, F727⟩)
set_option maxRecDepth 65536 in
set_option maxHeartbeats 40000000 in
theorem ctSBa27_2_34 (l : Launch) (Z : State) (a0 : Array Value) (hw : ∀ d ∈ tables_1, d.before a0 Z = true) (hEL : EW Z a0 consts_1) (z0 : Int32) (S0 : Sta Z Z.heap "java/lang/String" "COMPACT_STRINGS" "Z" (.int z0)) (hz0 : ¬ z0 = 0) (b d s t : Addr) (kd : ClassId) (cs : List Int32) (vd : List Value) (h0 : Heap) (n0 : Nat) (EB : Exa Z h0 b "java/lang/StringBuilder") (FV : Fld Z h0 b "java/lang/AbstractStringBuilder" "value" "[B" (.ref d)) (FC : Fld Z h0 b "java/lang/AbstractStringBuilder" "coder" "B" (.int (0 : Int32))) (FN : Fld Z h0 b "java/lang/AbstractStringBuilder" "count" "I" (.int (27 : Int32))) (AD : Arv Z h0 d kd .byte (34 : Int32) vd (.int 0)) (hvd : vd.length = 34) (OS : OStr Z h0 s t cs) (hl_s : cs.length = 2) (ntd : t ≠ d) :
    Ct l Z consts_1 [] (⟨"java/lang/StringBuilder", "append", "(Ljava/lang/String;)Ljava/lang/StringBuilder;"⟩ : MethodName) jdk_67_method_7_code 2 (some (.object "java/lang/StringBuilder")) ({ frames := 4, cells := 0, slots := 0, locals := 61 } : Room) #[(.ref b), (.ref s)] h0 n0 [b, d] (fun v h => v = some (.ref b) ∧ Exa Z h b "java/lang/StringBuilder" ∧ Fld Z h b "java/lang/AbstractStringBuilder" "value" "[B" (.ref d) ∧ Fld Z h b "java/lang/AbstractStringBuilder" "coder" "B" (.int (0 : Int32)) ∧ Fld Z h b "java/lang/AbstractStringBuilder" "count" "I" (.int (29 : Int32)) ∧ Arv Z h d kd .byte (34 : Int32) (vd.take 27 ++ ((cs.map StrChars.lo8).map Value.int) ++ vd.drop (27 + 2)) (.int 0)) := by
  have w : ∀ {d : Jvm.Cond} (i : Nat), tables_1[i]? = some d → d.before a0 Z = true := fun i q => hw _ (List.mem_of_getElem? q)
  refine Ct.enter (plainFor_of_name pn_2) hEL ?_
  intro p e sS m below meth c T0 hby hml0 hret hlk hnm hs0 X0
  have hml : c.maxLocals = 2 := hml0
  have D : ∀ {pc : Nat} {r : Except DecodeError (Instr × Nat)}, decode jdk_67_method_7_code pc = r → decode c.code pc = r := fun q => hb hby q
  rw [show entryFrame m #[(.ref b), (.ref s)] 2 = mkF m 0 #[.val (.ref b), .val (.ref s)] [] from by first | (simp [entryFrame, mkF, argsToLocals, Value.category]; done) | rfl]
  refine X0.aloadN (x := (.ref b)) (D d9_0) rfl rfl ?_
  refine X0.aloadN (x := (.ref s)) (D d9_1) rfl rfl ?_
  refine X0.callu (a := b) [(.ref s)] [] (ctAA27_2_34 l Z a0 hw hEL z0 S0 hz0 b d s t kd cs vd _ _ EB FV FC FN AD hvd OS hl_s ntd).toF EB (w 63 rfl) (smOf (w 64 rfl) (w 144 rfl) rfl (by decide)) (w 64 rfl) (w 65 rfl) (by decide) (w 47 rfl) (w 67 rfl) (by simp) (by decide) 0 (by decide) (by decide) (by decide) (lenOf pd_10 rfl) rfl (Nat.le_of_ble_eq_true rfl) (by rw [hml]; rfl) (D d9_2) ?_
  rintro T728 h729 _ _ X731 K732 hg733 ⟨rfl, rfl, E1, V1, C1, N1, A1⟩
  have F734 := EB.keep K732
  have F735 := OS.keep K732 (ninS (Exa.ne OS.1 EB (by decide)) (ninS (Exa.neArv OS.1 AD (w 1 rfl)) nin0)) (ninS (OStr.neT OS EB (w 38 rfl)) (ninS ntd nin0))
  show Goes p.tables e below _ (T728.setTop (mkF m 5 #[.val (.ref b), .val (.ref s)] [(.ref b)]))
  refine X731.pop (D d9_5) rfl ?_
  refine X731.aloadN (x := (.ref b)) (D d9_6) rfl rfl ?_
  exact X731.retA hret rfl rfl hlk (D d9_7) (by decide) (by decide) (⟨rfl, E1, V1, C1, N1, A1⟩)
theorem d31_0 : decode jdk_65_method_131_code 0 = .ok (.iload_n 1, 1) := by decide +kernel
theorem d31_1 : decode jdk_65_method_131_code 1 = .ok (.iload_n 0, 1) := by decide +kernel
theorem d31_2 : decode jdk_65_method_131_code 2 = .ok (.if_icmp .ge 35, 3) := by decide +kernel
theorem d31_5 : decode jdk_65_method_131_code 5 = .ok (.new 43, 3) := by decide +kernel
theorem d31_8 : decode jdk_65_method_131_code 8 = .ok (.dup, 1) := by decide +kernel
theorem d31_9 : decode jdk_65_method_131_code 9 = .ok (.new 45, 3) := by decide +kernel
theorem d31_12 : decode jdk_65_method_131_code 12 = .ok (.dup, 1) := by decide +kernel
theorem d31_13 : decode jdk_65_method_131_code 13 = .ok (.invokespecial 47, 3) := by decide +kernel
theorem d31_16 : decode jdk_65_method_131_code 16 = .ok (.iload_n 0, 1) := by decide +kernel
theorem d31_17 : decode jdk_65_method_131_code 17 = .ok (.invokevirtual 54, 3) := by decide +kernel
theorem d31_20 : decode jdk_65_method_131_code 20 = .ok (.ldc_w 337, 3) := by decide +kernel
theorem d31_23 : decode jdk_65_method_131_code 23 = .ok (.invokevirtual 50, 3) := by decide +kernel
theorem d31_26 : decode jdk_65_method_131_code 26 = .ok (.iload_n 1, 1) := by decide +kernel
theorem d31_27 : decode jdk_65_method_131_code 27 = .ok (.invokevirtual 54, 3) := by decide +kernel
theorem d31_30 : decode jdk_65_method_131_code 30 = .ok (.invokevirtual 61, 3) := by decide +kernel
theorem d31_33 : decode jdk_65_method_131_code 33 = .ok (.invokespecial 65, 3) := by decide +kernel
theorem d31_36 : decode jdk_65_method_131_code 36 = .ok (.athrow, 1) := by decide +kernel
theorem d31_37 : decode jdk_65_method_131_code 37 = .ok (.return_, 1) := by decide +kernel
set_option maxRecDepth 65536 in
set_option maxHeartbeats 40000000 in
theorem ctCL29_34 (l : Launch) (Z : State) (a0 : Array Value) (hw : ∀ d ∈ tables_1, d.before a0 Z = true) (hEL : EW Z a0 consts_1) (z0 : Int32) (S0 : Sta Z Z.heap "java/lang/String" "COMPACT_STRINGS" "Z" (.int z0)) (hz0 : ¬ z0 = 0)  (h0 : Heap) (n0 : Nat)  :
    Ct l Z consts_1 [] (⟨"java/util/Arrays", "checkLength", "(II)V"⟩ : MethodName) jdk_65_method_131_code 2 none ({ frames := 0, cells := 0, slots := 0, locals := 0 } : Room) #[(.int (0 : Int32)), (.int (29 : Int32))] h0 n0 [] (fun v _ => v = none) := by
  have w : ∀ {d : Jvm.Cond} (i : Nat), tables_1[i]? = some d → d.before a0 Z = true := fun i q => hw _ (List.mem_of_getElem? q)
  refine Ct.enter (plainFor_of_name pn_4) hEL ?_
  intro p e sS m below meth c T0 hby hml0 hret hlk hnm hs0 X0
  have hml : c.maxLocals = 2 := hml0
  have D : ∀ {pc : Nat} {r : Except DecodeError (Instr × Nat)}, decode jdk_65_method_131_code pc = r → decode c.code pc = r := fun q => hb hby q
  rw [show entryFrame m #[(.int (0 : Int32)), (.int (29 : Int32))] 2 = mkF m 0 #[.val (.int (0 : Int32)), .val (.int (29 : Int32))] [] from by first | (simp [entryFrame, mkF, argsToLocals, Value.category]; done) | rfl]
  refine X0.iloadN (x := (29 : Int32)) (D d31_0) rfl ?_
  refine X0.iloadN (x := (0 : Int32)) (D d31_1) rfl ?_
  refine X0.icmp_ge 37 (D d31_2) ⟨by decide, by decide⟩ (fun hc736 => ?_) (fun hc736 => absurd hc736 (by decide))
  exact X0.retn hret hlk (D d31_37) (by decide) (by decide) (rfl)
set_option maxRecDepth 65536 in
set_option maxHeartbeats 40000000 in
theorem ctMn29_34 (l : Launch) (Z : State) (a0 : Array Value) (hw : ∀ d ∈ tables_1, d.before a0 Z = true) (hEL : EW Z a0 consts_1) (z0 : Int32) (S0 : Sta Z Z.heap "java/lang/String" "COMPACT_STRINGS" "Z" (.int z0)) (hz0 : ¬ z0 = 0)  (h0 : Heap) (n0 : Nat)  :
    Ct l Z consts_1 [] (⟨"java/lang/Math", "min", "(II)I"⟩ : MethodName) jdk_29_method_69_code 2 (some .int) ({ frames := 0, cells := 0, slots := 0, locals := 0 } : Room) #[(.int (34 : Int32)), (.int (29 : Int32))] h0 n0 [] (fun v _ => v = some (.int (29 : Int32))) := by
  have w : ∀ {d : Jvm.Cond} (i : Nat), tables_1[i]? = some d → d.before a0 Z = true := fun i q => hw _ (List.mem_of_getElem? q)
  refine Ct.enter (Jvm.Free.JP.mathPlain rfl (by decide)) hEL ?_
  intro p e sS m below meth c T0 hby hml0 hret hlk hnm hs0 X0
  have hml : c.maxLocals = 2 := hml0
  have D : ∀ {pc : Nat} {r : Except DecodeError (Instr × Nat)}, decode jdk_29_method_69_code pc = r → decode c.code pc = r := fun q => hb hby q
  rw [show entryFrame m #[(.int (34 : Int32)), (.int (29 : Int32))] 2 = mkF m 0 #[.val (.int (34 : Int32)), .val (.int (29 : Int32))] [] from by first | (simp [entryFrame, mkF, argsToLocals, Value.category]; done) | rfl]
  refine X0.iloadN (x := (34 : Int32)) (D d18_0) rfl ?_
  refine X0.iloadN (x := (29 : Int32)) (D d18_1) rfl ?_
  refine X0.icmp_gt 9 (D d18_2) ⟨by decide, by decide⟩ (fun hc737 => ?_) (fun hc737 => absurd hc737 (by decide))
  refine X0.iloadN (x := (29 : Int32)) (D d18_9) rfl ?_
  exact X0.retI hret hlk (D d18_10) (by decide) (by decide) (rfl)
theorem d30_0 : decode jdk_65_method_133_code 0 = .ok (.iload_n 1, 1) := by decide +kernel
theorem d30_1 : decode jdk_65_method_133_code 1 = .ok (.iload_n 2, 1) := by decide +kernel
theorem d30_2 : decode jdk_65_method_133_code 2 = .ok (.invokestatic 343, 3) := by decide +kernel
theorem d30_5 : decode jdk_65_method_133_code 5 = .ok (.iload_n 2, 1) := by decide +kernel
theorem d30_6 : decode jdk_65_method_133_code 6 = .ok (.iload_n 1, 1) := by decide +kernel
theorem d30_7 : decode jdk_65_method_133_code 7 = .ok (.isub, 1) := by decide +kernel
theorem d30_8 : decode jdk_65_method_133_code 8 = .ok (.istore_n 3, 1) := by decide +kernel
theorem d30_9 : decode jdk_65_method_133_code 9 = .ok (.iload_n 3, 1) := by decide +kernel
theorem d30_10 : decode jdk_65_method_133_code 10 = .ok (.newarray .byte, 2) := by decide +kernel
theorem d30_12 : decode jdk_65_method_133_code 12 = .ok (.astore 4, 2) := by decide +kernel
theorem d30_14 : decode jdk_65_method_133_code 14 = .ok (.aload_n 0, 1) := by decide +kernel
theorem d30_15 : decode jdk_65_method_133_code 15 = .ok (.iload_n 1, 1) := by decide +kernel
theorem d30_16 : decode jdk_65_method_133_code 16 = .ok (.aload 4, 2) := by decide +kernel
theorem d30_18 : decode jdk_65_method_133_code 18 = .ok (.iconst 0, 1) := by decide +kernel
theorem d30_19 : decode jdk_65_method_133_code 19 = .ok (.aload_n 0, 1) := by decide +kernel
theorem d30_20 : decode jdk_65_method_133_code 20 = .ok (.arraylength, 1) := by decide +kernel
theorem d30_21 : decode jdk_65_method_133_code 21 = .ok (.iload_n 1, 1) := by decide +kernel
theorem d30_22 : decode jdk_65_method_133_code 22 = .ok (.isub, 1) := by decide +kernel
theorem d30_23 : decode jdk_65_method_133_code 23 = .ok (.iload_n 3, 1) := by decide +kernel
theorem d30_24 : decode jdk_65_method_133_code 24 = .ok (.invokestatic 304, 3) := by decide +kernel
theorem d30_27 : decode jdk_65_method_133_code 27 = .ok (.invokestatic 150, 3) := by decide +kernel
theorem d30_30 : decode jdk_65_method_133_code 30 = .ok (.aload 4, 2) := by decide +kernel
theorem d30_32 : decode jdk_65_method_133_code 32 = .ok (.areturn, 1) := by decide +kernel
theorem pd_11 : parseMethodDescriptor "(II)V" = some ⟨[.int, .int], none⟩ := by decide +kernel
set_option maxRecDepth 65536 in
set_option maxHeartbeats 40000000 in
theorem ctRB29_34 (l : Launch) (Z : State) (a0 : Array Value) (hw : ∀ d ∈ tables_1, d.before a0 Z = true) (hEL : EW Z a0 consts_1) (z0 : Int32) (S0 : Sta Z Z.heap "java/lang/String" "COMPACT_STRINGS" "Z" (.int z0)) (hz0 : ¬ z0 = 0) (d : Addr) (kd : ClassId) (vd xs : List Value) (h0 : Heap) (n0 : Nat) (AD : Arv Z h0 d kd .byte (34 : Int32) vd (.int 0)) (hxs : xs = (List.range 29).map fun i => vd.getD (0 + i) (.int 0)) :
    Ct l Z consts_1 [] (⟨"java/util/Arrays", "copyOfRangeByte", "([BII)[B"⟩ : MethodName) jdk_65_method_133_code 5 (some (.array .byte)) ({ frames := 1, cells := 1, slots := 29, locals := 18 } : Room) #[(.ref d), (.int (0 : Int32)), (.int (29 : Int32))] h0 n0 [] (fun v h => ∃ (r : Addr) (kr : ClassId), v = some (.ref r) ∧ Arv Z h r kr .byte (29 : Int32) xs (.int 0)) := by
  have w : ∀ {d : Jvm.Cond} (i : Nat), tables_1[i]? = some d → d.before a0 Z = true := fun i q => hw _ (List.mem_of_getElem? q)
  refine Ct.enter (plainFor_of_name pn_4) hEL ?_
  intro p e sS m below meth c T0 hby hml0 hret hlk hnm hs0 X0
  have hml : c.maxLocals = 5 := hml0
  have D : ∀ {pc : Nat} {r : Except DecodeError (Instr × Nat)}, decode jdk_65_method_133_code pc = r → decode c.code pc = r := fun q => hb hby q
  rw [show entryFrame m #[(.ref d), (.int (0 : Int32)), (.int (29 : Int32))] 5 = mkF m 0 #[.val (.ref d), .val (.int (0 : Int32)), .val (.int (29 : Int32)), .unset, .unset] [] from by first | (simp [entryFrame, mkF, argsToLocals, Value.category]; done) | rfl]
  refine X0.iloadN (x := (0 : Int32)) (D d30_0) rfl ?_
  refine X0.iloadN (x := (29 : Int32)) (D d30_1) rfl ?_
  refine X0.callsF [(.int (0 : Int32)), (.int (29 : Int32))] [] (ctCL29_34 l Z a0 hw hEL z0 S0 hz0 _ _).toF (w 165 rfl) (w 166 rfl) (w 102 rfl) (w 167 rfl) (by decide) (fun _ q => nomatch q) (by decide) 0 (by decide) (by decide) (by decide) (lenOf pd_11 rfl) rfl (Nat.le_of_ble_eq_true rfl) (by rw [hml]; rfl) (D d30_2) ?_
  rintro T738 h739 _ _ X741 K742 hg743 ⟨rfl, rfl⟩
  have F744 := AD.keep K742 nin0
  show Goes p.tables e below _ (T738.setTop (mkF m 5 #[.val (.ref d), .val (.int (0 : Int32)), .val (.int (29 : Int32)), .unset, .unset] []))
  refine X741.iloadN (x := (29 : Int32)) (D d30_5) rfl ?_
  refine X741.iloadN (x := (0 : Int32)) (D d30_6) rfl ?_
  refine X741.isub (D d30_7) ?_
  show Goes p.tables e below _ (T738.setTop (mkF m 8 #[.val (.ref d), .val (.int (0 : Int32)), .val (.int (29 : Int32)), .unset, .unset] [(.int (29 : Int32))]))
  refine X741.istoreN #[.val (.ref d), .val (.int (0 : Int32)), .val (.int (29 : Int32)), .val (.int (29 : Int32)), .unset] (D d30_8) rfl ?_
  refine X741.iloadN (x := (29 : Int32)) (D d30_9) rfl ?_
  refine X741.newarr (w 19 rfl) (n := (29 : Int32)) (D d30_10) (by decide) 29 (by decide) (by decide) (by decide) (by decide) ?_
  intro T745 h746 b747 kb748 g749 X750 E751 A752
  have F753 := F744.ext E751
  have lt754 : d < b747 := by rw [g749]; exact F744.lt
  have F755 : Arv Z h746 b747 kb748 .byte (29 : Int32) [(.int (0 : Int32)), (.int (0 : Int32)), (.int (0 : Int32)), (.int (0 : Int32)), (.int (0 : Int32)), (.int (0 : Int32)), (.int (0 : Int32)), (.int (0 : Int32)), (.int (0 : Int32)), (.int (0 : Int32)), (.int (0 : Int32)), (.int (0 : Int32)), (.int (0 : Int32)), (.int (0 : Int32)), (.int (0 : Int32)), (.int (0 : Int32)), (.int (0 : Int32)), (.int (0 : Int32)), (.int (0 : Int32)), (.int (0 : Int32)), (.int (0 : Int32)), (.int (0 : Int32)), (.int (0 : Int32)), (.int (0 : Int32)), (.int (0 : Int32)), (.int (0 : Int32)), (.int (0 : Int32)), (.int (0 : Int32)), (.int (0 : Int32))] (.int (0 : Int32)) := A752.pad (pad_rep [] (.int (0 : Int32)) 29)
  show Goes p.tables e below _ (T745.setTop (mkF m 12 #[.val (.ref d), .val (.int (0 : Int32)), .val (.int (29 : Int32)), .val (.int (29 : Int32)), .unset] [(.ref b747)]))
  refine X750.astore #[.val (.ref d), .val (.int (0 : Int32)), .val (.int (29 : Int32)), .val (.int (29 : Int32)), .val (.ref b747)] (D d30_12) rfl rfl ?_
  refine X750.aloadN (x := (.ref d)) (D d30_14) rfl rfl ?_
  refine X750.iloadN (x := (0 : Int32)) (D d30_15) rfl ?_
  refine X750.aload (x := (.ref b747)) (D d30_16) rfl rfl ?_
  refine X750.iconst (x := (0 : Int32)) (D d30_18) rfl ?_
  refine X750.aloadN (x := (.ref d)) (D d30_19) rfl rfl ?_
  refine X750.alen F753 (D d30_20) ?_
  refine X750.iloadN (x := (0 : Int32)) (D d30_21) rfl ?_
  refine X750.isub (D d30_22) ?_
  show Goes p.tables e below _ (T745.setTop (mkF m 23 #[.val (.ref d), .val (.int (0 : Int32)), .val (.int (29 : Int32)), .val (.int (29 : Int32)), .val (.ref b747)] [(.int (34 : Int32)), (.int (0 : Int32)), (.ref b747), (.int (0 : Int32)), (.ref d)]))
  refine X750.iloadN (x := (29 : Int32)) (D d30_23) rfl ?_
  refine X750.callsF [(.int (34 : Int32)), (.int (29 : Int32))] [(.int (0 : Int32)), (.ref b747), (.int (0 : Int32)), (.ref d)] (ctMn29_34 l Z a0 hw hEL z0 S0 hz0 _ _).toF (w 104 rfl) (w 105 rfl) (w 96 rfl) (w 106 rfl) (by decide) (fun _ q => nomatch q) (by decide) 4 (by decide) (by decide) (by decide) (lenOf pd_2 rfl) rfl (Nat.le_of_ble_eq_true rfl) (by rw [hml]; rfl) (D d30_24) ?_
  rintro T756 h757 _ _ X759 K760 hg761 ⟨rfl, rfl⟩
  have F762 := F753.keep K760 nin0
  have F763 := F755.keep K760 nin0
  show Goes p.tables e below _ (T756.setTop (mkF m 27 #[.val (.ref d), .val (.int (0 : Int32)), .val (.int (29 : Int32)), .val (.int (29 : Int32)), .val (.ref b747)] [(.int (29 : Int32)), (.int (0 : Int32)), (.ref b747), (.int (0 : Int32)), (.ref d)]))
  show Goes p.tables e below _ (T756.setTop (mkF m 27 #[.val (.ref d), .val (.int (0 : Int32)), .val (.int (29 : Int32)), .val (.int (29 : Int32)), .val (.ref b747)] [(.int (29 : Int32)), (.int (0 : Int32)), (.ref b747), (.int (0 : Int32)), (.ref d)]))
  refine X759.acopy (us := xs) (w 107 rfl) (w 110 rfl) (w 108 rfl) (w 109 rfl) F762 F763 (by decide) (by decide) (by decide) (by decide) (by decide) hxs (by decide) (by simp) (by rw [hml]; rfl) (D d30_27) (by decide) 0 (Nat.le_of_ble_eq_true rfl) (by decide) ?_
  intro T764 h765 X766 K767 B768
  have F769 := F762.keep K767 (ninS (Nat.ne_of_lt lt754) nin0)
  show Goes p.tables e below _ (T764.setTop (mkF m 30 #[.val (.ref d), .val (.int (0 : Int32)), .val (.int (29 : Int32)), .val (.int (29 : Int32)), .val (.ref b747)] []))
  refine X766.aload (x := (.ref b747)) (D d30_30) rfl rfl ?_
  have hz : ([(.int (0 : Int32)), (.int (0 : Int32)), (.int (0 : Int32)), (.int (0 : Int32)), (.int (0 : Int32)), (.int (0 : Int32)), (.int (0 : Int32)), (.int (0 : Int32)), (.int (0 : Int32)), (.int (0 : Int32)), (.int (0 : Int32)), (.int (0 : Int32)), (.int (0 : Int32)), (.int (0 : Int32)), (.int (0 : Int32)), (.int (0 : Int32)), (.int (0 : Int32)), (.int (0 : Int32)), (.int (0 : Int32)), (.int (0 : Int32)), (.int (0 : Int32)), (.int (0 : Int32)), (.int (0 : Int32)), (.int (0 : Int32)), (.int (0 : Int32)), (.int (0 : Int32)), (.int (0 : Int32)), (.int (0 : Int32)), (.int (0 : Int32))] : List Value).take 0 ++ xs ++ ([(.int (0 : Int32)), (.int (0 : Int32)), (.int (0 : Int32)), (.int (0 : Int32)), (.int (0 : Int32)), (.int (0 : Int32)), (.int (0 : Int32)), (.int (0 : Int32)), (.int (0 : Int32)), (.int (0 : Int32)), (.int (0 : Int32)), (.int (0 : Int32)), (.int (0 : Int32)), (.int (0 : Int32)), (.int (0 : Int32)), (.int (0 : Int32)), (.int (0 : Int32)), (.int (0 : Int32)), (.int (0 : Int32)), (.int (0 : Int32)), (.int (0 : Int32)), (.int (0 : Int32)), (.int (0 : Int32)), (.int (0 : Int32)), (.int (0 : Int32)), (.int (0 : Int32)), (.int (0 : Int32)), (.int (0 : Int32)), (.int (0 : Int32))] : List Value).drop (0 + 29) = xs := by simp
  exact X766.retA hret rfl rfl hlk (D d30_32) (by decide) (by decide) (⟨_, _, rfl, by have q := B768; rw [← hz]; exact q⟩)
theorem d29_0 : decode jdk_65_method_132_code 0 = .ok (.iload_n 1, 1) := by decide +kernel
theorem d29_1 : decode jdk_65_method_132_code 1 = .ok (.ifCond .ne 9, 3) := by decide +kernel
theorem d29_4 : decode jdk_65_method_132_code 4 = .ok (.iload_n 2, 1) := by decide +kernel
theorem d29_5 : decode jdk_65_method_132_code 5 = .ok (.aload_n 0, 1) := by decide +kernel
theorem d29_6 : decode jdk_65_method_132_code 6 = .ok (.arraylength, 1) := by decide +kernel
theorem d29_7 : decode jdk_65_method_132_code 7 = .ok (.if_icmp .eq 10, 3) := by decide +kernel
theorem d29_10 : decode jdk_65_method_132_code 10 = .ok (.aload_n 0, 1) := by decide +kernel
theorem d29_11 : decode jdk_65_method_132_code 11 = .ok (.iload_n 1, 1) := by decide +kernel
theorem d29_12 : decode jdk_65_method_132_code 12 = .ok (.iload_n 2, 1) := by decide +kernel
theorem d29_13 : decode jdk_65_method_132_code 13 = .ok (.invokestatic 339, 3) := by decide +kernel
theorem d29_16 : decode jdk_65_method_132_code 16 = .ok (.areturn, 1) := by decide +kernel
theorem d29_17 : decode jdk_65_method_132_code 17 = .ok (.aload_n 0, 1) := by decide +kernel
theorem d29_18 : decode jdk_65_method_132_code 18 = .ok (.invokevirtual 310, 3) := by decide +kernel
theorem d29_21 : decode jdk_65_method_132_code 21 = .ok (.checkcast 311, 3) := by decide +kernel
theorem d29_24 : decode jdk_65_method_132_code 24 = .ok (.areturn, 1) := by decide +kernel
theorem pd_12 : parseMethodDescriptor "([BII)[B" = some ⟨[(.array .byte), .int, .int], (some (.array .byte))⟩ := by decide +kernel
set_option maxRecDepth 65536 in
set_option maxHeartbeats 40000000 in
theorem ctCR29_34 (l : Launch) (Z : State) (a0 : Array Value) (hw : ∀ d ∈ tables_1, d.before a0 Z = true) (hEL : EW Z a0 consts_1) (z0 : Int32) (S0 : Sta Z Z.heap "java/lang/String" "COMPACT_STRINGS" "Z" (.int z0)) (hz0 : ¬ z0 = 0) (d : Addr) (kd : ClassId) (vd xs : List Value) (h0 : Heap) (n0 : Nat) (AD : Arv Z h0 d kd .byte (34 : Int32) vd (.int 0)) (hxs : xs = (List.range 29).map fun i => vd.getD (0 + i) (.int 0)) :
    Ct l Z consts_1 [] (⟨"java/util/Arrays", "copyOfRange", "([BII)[B"⟩ : MethodName) jdk_65_method_132_code 3 (some (.array .byte)) ({ frames := 2, cells := 1, slots := 29, locals := 34 } : Room) #[(.ref d), (.int (0 : Int32)), (.int (29 : Int32))] h0 n0 [] (fun v h => ∃ (r : Addr) (kr : ClassId), v = some (.ref r) ∧ Arv Z h r kr .byte (29 : Int32) xs (.int 0)) := by
  have w : ∀ {d : Jvm.Cond} (i : Nat), tables_1[i]? = some d → d.before a0 Z = true := fun i q => hw _ (List.mem_of_getElem? q)
  refine Ct.enter (plainFor_of_name pn_4) hEL ?_
  intro p e sS m below meth c T0 hby hml0 hret hlk hnm hs0 X0
  have hml : c.maxLocals = 3 := hml0
  have D : ∀ {pc : Nat} {r : Except DecodeError (Instr × Nat)}, decode jdk_65_method_132_code pc = r → decode c.code pc = r := fun q => hb hby q
  rw [show entryFrame m #[(.ref d), (.int (0 : Int32)), (.int (29 : Int32))] 3 = mkF m 0 #[.val (.ref d), .val (.int (0 : Int32)), .val (.int (29 : Int32))] [] from by first | (simp [entryFrame, mkF, argsToLocals, Value.category]; done) | rfl]
  refine X0.iloadN (x := (0 : Int32)) (D d29_0) rfl ?_
  refine X0.if_ne 10 (D d29_1) ⟨by decide, by decide⟩ (fun hc770 => absurd hc770 (by decide)) (fun hc770 => ?_)
  refine X0.iloadN (x := (29 : Int32)) (D d29_4) rfl ?_
  refine X0.aloadN (x := (.ref d)) (D d29_5) rfl rfl ?_
  refine X0.alen AD (D d29_6) ?_
  refine X0.icmp_eq 17 (D d29_7) ⟨by decide, by decide⟩ (fun hc771 => absurd hc771 (by decide)) (fun hc771 => ?_)
  refine X0.aloadN (x := (.ref d)) (D d29_10) rfl rfl ?_
  refine X0.iloadN (x := (0 : Int32)) (D d29_11) rfl ?_
  refine X0.iloadN (x := (29 : Int32)) (D d29_12) rfl ?_
  refine X0.callsF [(.ref d), (.int (0 : Int32)), (.int (29 : Int32))] [] (ctRB29_34 l Z a0 hw hEL z0 S0 hz0 d kd vd xs _ _ AD hxs).toF (w 162 rfl) (w 163 rfl) (w 102 rfl) (w 164 rfl) (by decide) (fun _ q => nomatch q) (by decide) 0 (by decide) (by decide) (by decide) (lenOf pd_12 rfl) rfl (Nat.le_of_ble_eq_true rfl) (by rw [hml]; rfl) (D d29_13) ?_
  rintro T772 h773 _ _ X775 K776 hg777 ⟨rfl, r, kr, rfl, A1⟩
  have F778 := AD.keep K776 nin0
  show Goes p.tables e below _ (T772.setTop (mkF m 16 #[.val (.ref d), .val (.int (0 : Int32)), .val (.int (29 : Int32))] [(.ref r)]))
  exact X775.retA hret rfl rfl hlk (D d29_16) (by decide) (by decide) (⟨r, kr, rfl, A1⟩)
theorem d25_0 : decode jdk_68_method_64_code 0 = .ok (.aload_n 0, 1) := by decide +kernel
theorem d25_1 : decode jdk_68_method_64_code 1 = .ok (.getfield 15, 3) := by decide +kernel
theorem d25_4 : decode jdk_68_method_64_code 4 = .ok (.areturn, 1) := by decide +kernel
set_option maxRecDepth 65536 in
set_option maxHeartbeats 40000000 in
theorem ctGV (l : Launch) (Z : State) (a0 : Array Value) (hw : ∀ d ∈ tables_1, d.before a0 Z = true) (hEL : EW Z a0 consts_1) (z0 : Int32) (S0 : Sta Z Z.heap "java/lang/String" "COMPACT_STRINGS" "Z" (.int z0)) (hz0 : ¬ z0 = 0) (b d : Addr) (h0 : Heap) (n0 : Nat) (EB : Exa Z h0 b "java/lang/StringBuilder") (FV : Fld Z h0 b "java/lang/AbstractStringBuilder" "value" "[B" (.ref d)) (FC : Fld Z h0 b "java/lang/AbstractStringBuilder" "coder" "B" (.int (0 : Int32))) :
    Ct l Z consts_1 [] (⟨"java/lang/AbstractStringBuilder", "getValue", "()[B"⟩ : MethodName) jdk_68_method_64_code 1 (some (.array .byte)) ({ frames := 0, cells := 0, slots := 0, locals := 0 } : Room) #[(.ref b)] h0 n0 [] (fun v _ => v = some (.ref d)) := by
  have w : ∀ {d : Jvm.Cond} (i : Nat), tables_1[i]? = some d → d.before a0 Z = true := fun i q => hw _ (List.mem_of_getElem? q)
  refine Ct.enter (plainFor_of_name pn_1) hEL ?_
  intro p e sS m below meth c T0 hby hml0 hret hlk hnm hs0 X0
  have hml : c.maxLocals = 1 := hml0
  have D : ∀ {pc : Nat} {r : Except DecodeError (Instr × Nat)}, decode jdk_68_method_64_code pc = r → decode c.code pc = r := fun q => hb hby q
  rw [show entryFrame m #[(.ref b)] 1 = mkF m 0 #[.val (.ref b)] [] from by first | (simp [entryFrame, mkF, argsToLocals, Value.category]; done) | rfl]
  refine X0.aloadN (x := (.ref b)) (D d25_0) rfl rfl ?_
  refine X0.getf (w 51 rfl) Via.refl FV (D d25_1) ?_
  intro T779 X780
  show Goes p.tables e below _ (T779.setTop (mkF m 4 #[.val (.ref b)] [(.ref d)]))
  exact X780.retA hret rfl rfl hlk (D d25_4) (by decide) (by decide) (rfl)
theorem d28_0 : decode jdk_68_method_68_code 0 = .ok (.getstatic 18, 3) := by decide +kernel
theorem d28_3 : decode jdk_68_method_68_code 3 = .ok (.ifCond .eq 14, 3) := by decide +kernel
theorem d28_6 : decode jdk_68_method_68_code 6 = .ok (.aload_n 0, 1) := by decide +kernel
theorem d28_7 : decode jdk_68_method_68_code 7 = .ok (.getfield 22, 3) := by decide +kernel
theorem d28_10 : decode jdk_68_method_68_code 10 = .ok (.ifCond .ne 7, 3) := by decide +kernel
theorem d28_13 : decode jdk_68_method_68_code 13 = .ok (.iconst 1, 1) := by decide +kernel
theorem d28_14 : decode jdk_68_method_68_code 14 = .ok (.goto 4, 3) := by decide +kernel
theorem d28_17 : decode jdk_68_method_68_code 17 = .ok (.iconst 0, 1) := by decide +kernel
theorem d28_18 : decode jdk_68_method_68_code 18 = .ok (.ireturn, 1) := by decide +kernel
set_option maxRecDepth 65536 in
set_option maxHeartbeats 40000000 in
theorem ctIL (l : Launch) (Z : State) (a0 : Array Value) (hw : ∀ d ∈ tables_1, d.before a0 Z = true) (hEL : EW Z a0 consts_1) (z0 : Int32) (S0 : Sta Z Z.heap "java/lang/String" "COMPACT_STRINGS" "Z" (.int z0)) (hz0 : ¬ z0 = 0) (b d : Addr) (h0 : Heap) (n0 : Nat) (EB : Exa Z h0 b "java/lang/StringBuilder") (FV : Fld Z h0 b "java/lang/AbstractStringBuilder" "value" "[B" (.ref d)) (FC : Fld Z h0 b "java/lang/AbstractStringBuilder" "coder" "B" (.int (0 : Int32))) :
    Ct l Z consts_1 [] (⟨"java/lang/AbstractStringBuilder", "isLatin1", "()Z"⟩ : MethodName) jdk_68_method_68_code 1 (some .boolean) ({ frames := 0, cells := 0, slots := 0, locals := 0 } : Room) #[(.ref b)] h0 n0 [] (fun v _ => v = some (.int 1)) := by
  have w : ∀ {d : Jvm.Cond} (i : Nat), tables_1[i]? = some d → d.before a0 Z = true := fun i q => hw _ (List.mem_of_getElem? q)
  refine Ct.enter (plainFor_of_name pn_1) hEL ?_
  intro p e sS m below meth c T0 hby hml0 hret hlk hnm hs0 X0
  have hml : c.maxLocals = 1 := hml0
  have D : ∀ {pc : Nat} {r : Except DecodeError (Instr × Nat)}, decode jdk_68_method_68_code pc = r → decode c.code pc = r := fun q => hb hby q
  rw [show entryFrame m #[(.ref b)] 1 = mkF m 0 #[.val (.ref b)] [] from by first | (simp [entryFrame, mkF, argsToLocals, Value.category]; done) | rfl]
  refine X0.gets (w 50 rfl) Via.refl (Sta.ext X0.old.2 S0) (D d28_0) ?_
  intro T781 X782
  show Goes p.tables e below _ (T781.setTop (mkF m 3 #[.val (.ref b)] [(.int z0)]))
  refine X782.if_eq 17 (D d28_3) ⟨by decide, by decide⟩ (fun hc => (hz0 hc).elim) (fun hn783 => ?_)
  refine X782.aloadN (x := (.ref b)) (D d28_6) rfl rfl ?_
  refine X782.getf (w 53 rfl) Via.refl FC (D d28_7) ?_
  intro T784 X785
  show Goes p.tables e below _ (T784.setTop (mkF m 10 #[.val (.ref b)] [(.int (0 : Int32))]))
  refine X785.if_ne 17 (D d28_10) ⟨by decide, by decide⟩ (fun hc786 => absurd hc786 (by decide)) (fun hc786 => ?_)
  refine X785.iconst (x := (1 : Int32)) (D d28_13) rfl ?_
  refine X785.goto 18 (D d28_14) ⟨by decide, by decide⟩ ?_
  exact X785.reti hret (by simp) hlk (D d28_18) (by decide) (by decide) (rfl)
theorem d27_0 : decode jdk_68_method_6_code 0 = .ok (.aload_n 0, 1) := by decide +kernel
theorem d27_1 : decode jdk_68_method_6_code 1 = .ok (.getfield 79, 3) := by decide +kernel
theorem d27_4 : decode jdk_68_method_6_code 4 = .ok (.ireturn, 1) := by decide +kernel
set_option maxRecDepth 65536 in
set_option maxHeartbeats 40000000 in
theorem ctAL29 (l : Launch) (Z : State) (a0 : Array Value) (hw : ∀ d ∈ tables_1, d.before a0 Z = true) (hEL : EW Z a0 consts_1) (z0 : Int32) (S0 : Sta Z Z.heap "java/lang/String" "COMPACT_STRINGS" "Z" (.int z0)) (hz0 : ¬ z0 = 0) (b d : Addr) (h0 : Heap) (n0 : Nat) (EB : Exa Z h0 b "java/lang/StringBuilder") (FV : Fld Z h0 b "java/lang/AbstractStringBuilder" "value" "[B" (.ref d)) (FC : Fld Z h0 b "java/lang/AbstractStringBuilder" "coder" "B" (.int (0 : Int32))) (FN : Fld Z h0 b "java/lang/AbstractStringBuilder" "count" "I" (.int (29 : Int32))) :
    Ct l Z consts_1 [] (⟨"java/lang/AbstractStringBuilder", "length", "()I"⟩ : MethodName) jdk_68_method_6_code 1 (some .int) ({ frames := 0, cells := 0, slots := 0, locals := 0 } : Room) #[(.ref b)] h0 n0 [] (fun v _ => v = some (.int (29 : Int32))) := by
  have w : ∀ {d : Jvm.Cond} (i : Nat), tables_1[i]? = some d → d.before a0 Z = true := fun i q => hw _ (List.mem_of_getElem? q)
  refine Ct.enter (plainFor_of_name pn_1) hEL ?_
  intro p e sS m below meth c T0 hby hml0 hret hlk hnm hs0 X0
  have hml : c.maxLocals = 1 := hml0
  have D : ∀ {pc : Nat} {r : Except DecodeError (Instr × Nat)}, decode jdk_68_method_6_code pc = r → decode c.code pc = r := fun q => hb hby q
  rw [show entryFrame m #[(.ref b)] 1 = mkF m 0 #[.val (.ref b)] [] from by first | (simp [entryFrame, mkF, argsToLocals, Value.category]; done) | rfl]
  refine X0.aloadN (x := (.ref b)) (D d27_0) rfl rfl ?_
  refine X0.getf (w 78 rfl) Via.refl FN (D d27_1) ?_
  intro T787 X788
  show Goes p.tables e below _ (T787.setTop (mkF m 4 #[.val (.ref b)] [(.int (29 : Int32))]))
  exact X788.retI hret hlk (D d27_4) (by decide) (by decide) (rfl)
theorem d26_0 : decode jdk_67_method_93_code 0 = .ok (.aload_n 0, 1) := by decide +kernel
theorem d26_1 : decode jdk_67_method_93_code 1 = .ok (.invokespecial 343, 3) := by decide +kernel
theorem d26_4 : decode jdk_67_method_93_code 4 = .ok (.ireturn, 1) := by decide +kernel
set_option maxRecDepth 65536 in
set_option maxHeartbeats 40000000 in
theorem ctSL29 (l : Launch) (Z : State) (a0 : Array Value) (hw : ∀ d ∈ tables_1, d.before a0 Z = true) (hEL : EW Z a0 consts_1) (z0 : Int32) (S0 : Sta Z Z.heap "java/lang/String" "COMPACT_STRINGS" "Z" (.int z0)) (hz0 : ¬ z0 = 0) (b d : Addr) (h0 : Heap) (n0 : Nat) (EB : Exa Z h0 b "java/lang/StringBuilder") (FV : Fld Z h0 b "java/lang/AbstractStringBuilder" "value" "[B" (.ref d)) (FC : Fld Z h0 b "java/lang/AbstractStringBuilder" "coder" "B" (.int (0 : Int32))) (FN : Fld Z h0 b "java/lang/AbstractStringBuilder" "count" "I" (.int (29 : Int32))) :
    Ct l Z consts_1 [] (⟨"java/lang/StringBuilder", "length", "()I"⟩ : MethodName) jdk_67_method_93_code 1 (some .int) ({ frames := 1, cells := 0, slots := 0, locals := 12 } : Room) #[(.ref b)] h0 n0 [] (fun v _ => v = some (.int (29 : Int32))) := by
  have w : ∀ {d : Jvm.Cond} (i : Nat), tables_1[i]? = some d → d.before a0 Z = true := fun i q => hw _ (List.mem_of_getElem? q)
  refine Ct.enter (plainFor_of_name pn_2) hEL ?_
  intro p e sS m below meth c T0 hby hml0 hret hlk hnm hs0 X0
  have hml : c.maxLocals = 1 := hml0
  have D : ∀ {pc : Nat} {r : Except DecodeError (Instr × Nat)}, decode jdk_67_method_93_code pc = r → decode c.code pc = r := fun q => hb hby q
  rw [show entryFrame m #[(.ref b)] 1 = mkF m 0 #[.val (.ref b)] [] from by first | (simp [entryFrame, mkF, argsToLocals, Value.category]; done) | rfl]
  refine X0.aloadN (x := (.ref b)) (D d26_0) rfl rfl ?_
  refine X0.callu (a := b) [] [] (ctAL29 l Z a0 hw hEL z0 S0 hz0 b d _ _ EB FV FC FN).toF EB (w 152 rfl) (smOf (w 148 rfl) (w 144 rfl) rfl (by decide)) (w 148 rfl) (w 65 rfl) (by decide) (w 47 rfl) (w 153 rfl) (fun _ q => nomatch q) (by decide) 0 (by decide) (by decide) (by decide) (lenOf pd_8 rfl) rfl (Nat.le_of_ble_eq_true rfl) (by rw [hml]; rfl) (D d26_1) ?_
  rintro T789 h790 _ _ X792 K793 hg794 ⟨rfl, rfl⟩
  have F795 := EB.keep K793
  have F796 := FV.keep K793 nin0
  have F797 := FC.keep K793 nin0
  have F798 := FN.keep K793 nin0
  show Goes p.tables e below _ (T789.setTop (mkF m 4 #[.val (.ref b)] [(.int (29 : Int32))]))
  exact X792.retI hret hlk (D d26_4) (by decide) (by decide) (rfl)
theorem d24_0 : decode jdk_42_method_150_code 0 = .ok (.aload_n 0, 1) := by decide +kernel
theorem d24_1 : decode jdk_42_method_150_code 1 = .ok (.invokespecial 1, 3) := by decide +kernel
theorem d24_4 : decode jdk_42_method_150_code 4 = .ok (.aload_n 1, 1) := by decide +kernel
theorem d24_5 : decode jdk_42_method_150_code 5 = .ok (.invokevirtual 552, 3) := by decide +kernel
theorem d24_8 : decode jdk_42_method_150_code 8 = .ok (.astore_n 3, 1) := by decide +kernel
theorem d24_9 : decode jdk_42_method_150_code 9 = .ok (.aload_n 1, 1) := by decide +kernel
theorem d24_10 : decode jdk_42_method_150_code 10 = .ok (.invokevirtual 549, 3) := by decide +kernel
theorem d24_13 : decode jdk_42_method_150_code 13 = .ok (.istore 4, 2) := by decide +kernel
theorem d24_15 : decode jdk_42_method_150_code 15 = .ok (.aload_n 1, 1) := by decide +kernel
theorem d24_16 : decode jdk_42_method_150_code 16 = .ok (.invokevirtual 1047, 3) := by decide +kernel
theorem d24_19 : decode jdk_42_method_150_code 19 = .ok (.ifCond .eq 22, 3) := by decide +kernel
theorem d24_22 : decode jdk_42_method_150_code 22 = .ok (.aload_n 0, 1) := by decide +kernel
theorem d24_23 : decode jdk_42_method_150_code 23 = .ok (.iconst 0, 1) := by decide +kernel
theorem d24_24 : decode jdk_42_method_150_code 24 = .ok (.putfield 15, 3) := by decide +kernel
theorem d24_27 : decode jdk_42_method_150_code 27 = .ok (.aload_n 0, 1) := by decide +kernel
theorem d24_28 : decode jdk_42_method_150_code 28 = .ok (.aload_n 3, 1) := by decide +kernel
theorem d24_29 : decode jdk_42_method_150_code 29 = .ok (.iconst 0, 1) := by decide +kernel
theorem d24_30 : decode jdk_42_method_150_code 30 = .ok (.iload 4, 2) := by decide +kernel
theorem d24_32 : decode jdk_42_method_150_code 32 = .ok (.invokestatic 54, 3) := by decide +kernel
theorem d24_35 : decode jdk_42_method_150_code 35 = .ok (.putfield 9, 3) := by decide +kernel
theorem d24_38 : decode jdk_42_method_150_code 38 = .ok (.goto 59, 3) := by decide +kernel
theorem d24_41 : decode jdk_42_method_150_code 41 = .ok (.getstatic 38, 3) := by decide +kernel
theorem d24_44 : decode jdk_42_method_150_code 44 = .ok (.ifCond .eq 35, 3) := by decide +kernel
theorem d24_47 : decode jdk_42_method_150_code 47 = .ok (.aload_n 1, 1) := by decide +kernel
theorem d24_48 : decode jdk_42_method_150_code 48 = .ok (.getfield 1048, 3) := by decide +kernel
theorem d24_51 : decode jdk_42_method_150_code 51 = .ok (.ifCond .eq 28, 3) := by decide +kernel
theorem d24_54 : decode jdk_42_method_150_code 54 = .ok (.aload_n 0, 1) := by decide +kernel
theorem d24_55 : decode jdk_42_method_150_code 55 = .ok (.aload_n 3, 1) := by decide +kernel
theorem d24_56 : decode jdk_42_method_150_code 56 = .ok (.iconst 0, 1) := by decide +kernel
theorem d24_57 : decode jdk_42_method_150_code 57 = .ok (.iload 4, 2) := by decide +kernel
theorem d24_59 : decode jdk_42_method_150_code 59 = .ok (.invokestatic 1051, 3) := by decide +kernel
theorem d24_62 : decode jdk_42_method_150_code 62 = .ok (.putfield 9, 3) := by decide +kernel
theorem d24_65 : decode jdk_42_method_150_code 65 = .ok (.aload_n 0, 1) := by decide +kernel
theorem d24_66 : decode jdk_42_method_150_code 66 = .ok (.aload_n 0, 1) := by decide +kernel
theorem d24_67 : decode jdk_42_method_150_code 67 = .ok (.getfield 9, 3) := by decide +kernel
theorem d24_70 : decode jdk_42_method_150_code 70 = .ok (.iload 4, 2) := by decide +kernel
theorem d24_72 : decode jdk_42_method_150_code 72 = .ok (.invokestatic 47, 3) := by decide +kernel
theorem d24_75 : decode jdk_42_method_150_code 75 = .ok (.putfield 15, 3) := by decide +kernel
theorem d24_78 : decode jdk_42_method_150_code 78 = .ok (.return_, 1) := by decide +kernel
theorem d24_79 : decode jdk_42_method_150_code 79 = .ok (.aload_n 0, 1) := by decide +kernel
theorem d24_80 : decode jdk_42_method_150_code 80 = .ok (.iconst 1, 1) := by decide +kernel
theorem d24_81 : decode jdk_42_method_150_code 81 = .ok (.putfield 15, 3) := by decide +kernel
theorem d24_84 : decode jdk_42_method_150_code 84 = .ok (.aload_n 0, 1) := by decide +kernel
theorem d24_85 : decode jdk_42_method_150_code 85 = .ok (.aload_n 3, 1) := by decide +kernel
theorem d24_86 : decode jdk_42_method_150_code 86 = .ok (.iconst 0, 1) := by decide +kernel
theorem d24_87 : decode jdk_42_method_150_code 87 = .ok (.iload 4, 2) := by decide +kernel
theorem d24_89 : decode jdk_42_method_150_code 89 = .ok (.iconst 1, 1) := by decide +kernel
theorem d24_90 : decode jdk_42_method_150_code 90 = .ok (.ishl, 1) := by decide +kernel
theorem d24_91 : decode jdk_42_method_150_code 91 = .ok (.invokestatic 54, 3) := by decide +kernel
theorem d24_94 : decode jdk_42_method_150_code 94 = .ok (.putfield 9, 3) := by decide +kernel
theorem d24_97 : decode jdk_42_method_150_code 97 = .ok (.return_, 1) := by decide +kernel
theorem pd_13 : parseMethodDescriptor "()[B" = some ⟨[], (some (.array .byte))⟩ := by decide +kernel
theorem pd_14 : parseMethodDescriptor "()Z" = some ⟨[], (some .boolean)⟩ := by decide +kernel
set_option maxRecDepth 65536 in
set_option maxHeartbeats 40000000 in
theorem ctIV29_34 (l : Launch) (Z : State) (a0 : Array Value) (hw : ∀ d ∈ tables_1, d.before a0 Z = true) (hEL : EW Z a0 consts_1) (z0 : Int32) (S0 : Sta Z Z.heap "java/lang/String" "COMPACT_STRINGS" "Z" (.int z0)) (hz0 : ¬ z0 = 0) (a b d : Addr) (kd : ClassId) (vd : List Value) (ds : List Int32) (h0 : Heap) (n0 : Nat) (EB : Exa Z h0 b "java/lang/StringBuilder") (FV : Fld Z h0 b "java/lang/AbstractStringBuilder" "value" "[B" (.ref d)) (FC : Fld Z h0 b "java/lang/AbstractStringBuilder" "coder" "B" (.int (0 : Int32))) (FN : Fld Z h0 b "java/lang/AbstractStringBuilder" "count" "I" (.int (29 : Int32))) (AD : Arv Z h0 d kd .byte (34 : Int32) vd (.int 0)) (hvd : vd.length = 34) (hp : ∀ c ∈ ds, ¬ c < 0 ∧ ¬ (255 : Int32) < c) (hds : ds.length = 29) (hxs : ((ds.map StrChars.lo8).map Value.int) = (List.range 29).map fun i => vd.getD (0 + i) (.int 0)) (E0 : Exa Z h0 a "java/lang/String") (F0 : Fld Z h0 a "java/lang/String" "value" "[B" .null) (F1 : Fld Z h0 a "java/lang/String" "coder" "B" (.int (0 : Int32))) :
    Ct l Z consts_1 [] (⟨"java/lang/String", "<init>", "(Ljava/lang/AbstractStringBuilder;Ljava/lang/Void;)V"⟩ : MethodName) jdk_42_method_150_code 5 none ({ frames := 3, cells := 1, slots := 29, locals := 49 } : Room) #[(.ref a), (.ref b), .null] h0 n0 [a] (fun v h => v = none ∧ ∃ t : Addr, OStr Z h a t ds) := by
  have w : ∀ {d : Jvm.Cond} (i : Nat), tables_1[i]? = some d → d.before a0 Z = true := fun i q => hw _ (List.mem_of_getElem? q)
  refine Ct.enter (plainFor_of_name pn_0) hEL ?_
  intro p e sS m below meth c T0 hby hml0 hret hlk hnm hs0 X0
  have hml : c.maxLocals = 5 := hml0
  have D : ∀ {pc : Nat} {r : Except DecodeError (Instr × Nat)}, decode jdk_42_method_150_code pc = r → decode c.code pc = r := fun q => hb hby q
  rw [show entryFrame m #[(.ref a), (.ref b), .null] 5 = mkF m 0 #[.val (.ref a), .val (.ref b), .val .null, .unset, .unset] [] from by first | (simp [entryFrame, mkF, argsToLocals, Value.category]; done) | rfl]
  refine X0.aloadN (x := (.ref a)) (D d24_0) rfl rfl ?_
  refine X0.inito (w 11 rfl) (w 12 rfl) (w 13 rfl) (D d24_1) (by rw [hml]; rfl) (by decide) 0 (Nat.le_of_ble_eq_true rfl) (by decide) ?_
  intro T799 X800
  show Goes p.tables e below _ (T799.setTop (mkF m 4 #[.val (.ref a), .val (.ref b), .val .null, .unset, .unset] []))
  refine X800.aloadN (x := (.ref b)) (D d24_4) rfl rfl ?_
  refine X800.callvF (y := (⟨"java/lang/AbstractStringBuilder", "getValue", "()[B"⟩ : MethodName)) (z := (⟨"java/lang/AbstractStringBuilder", "getValue", "()[B"⟩ : MethodName)) (a := b) (C := "java/lang/StringBuilder") [] [] (ctGV l Z a0 hw hEL z0 S0 hz0 b d _ _ EB FV FC).toF EB (w 141 rfl) (w 142 rfl) (w 144 rfl) (w 143 rfl) (nfOf (w 144 rfl) rfl) (w 47 rfl) (w 145 rfl) (by decide) (fun _ q => nomatch q) (by decide) 0 (by decide) (by decide) (by decide) (lenOf pd_13 rfl) rfl (Nat.le_of_ble_eq_true rfl) (by rw [hml]; rfl) (D d24_5) ?_
  rintro T801 h802 _ _ X804 K805 hg806 ⟨rfl, rfl⟩
  have F807 := EB.keep K805
  have F808 := FV.keep K805 nin0
  have F809 := FC.keep K805 nin0
  have F810 := FN.keep K805 nin0
  have F811 := AD.keep K805 nin0
  have F812 := E0.keep K805
  have F813 := F0.keep K805 nin0
  have F814 := F1.keep K805 nin0
  show Goes p.tables e below _ (T801.setTop (mkF m 8 #[.val (.ref a), .val (.ref b), .val .null, .unset, .unset] [(.ref d)]))
  refine X804.astoreN #[.val (.ref a), .val (.ref b), .val .null, .val (.ref d), .unset] (D d24_8) rfl rfl ?_
  refine X804.aloadN (x := (.ref b)) (D d24_9) rfl rfl ?_
  refine X804.callvF (y := (⟨"java/lang/AbstractStringBuilder", "length", "()I"⟩ : MethodName)) (z := (⟨"java/lang/StringBuilder", "length", "()I"⟩ : MethodName)) (a := b) (C := "java/lang/StringBuilder") [] [] (ctSL29 l Z a0 hw hEL z0 S0 hz0 b d _ _ F807 F808 F809 F810).toF F807 (w 146 rfl) (w 147 rfl) (w 149 rfl) (w 150 rfl) (nfOf (w 144 rfl) rfl) (w 39 rfl) (w 151 rfl) (by decide) (fun _ q => nomatch q) (by decide) 0 (by decide) (by decide) (by decide) (lenOf pd_8 rfl) rfl (Nat.le_of_ble_eq_true rfl) (by rw [hml]; rfl) (D d24_10) ?_
  rintro T815 h816 _ _ X818 K819 hg820 ⟨rfl, rfl⟩
  have F821 := F807.keep K819
  have F822 := F808.keep K819 nin0
  have F823 := F809.keep K819 nin0
  have F824 := F810.keep K819 nin0
  have F825 := F811.keep K819 nin0
  have F826 := F812.keep K819
  have F827 := F813.keep K819 nin0
  have F828 := F814.keep K819 nin0
  show Goes p.tables e below _ (T815.setTop (mkF m 13 #[.val (.ref a), .val (.ref b), .val .null, .val (.ref d), .unset] [(.int (29 : Int32))]))
  refine X818.istore #[.val (.ref a), .val (.ref b), .val .null, .val (.ref d), .val (.int (29 : Int32))] (D d24_13) rfl ?_
  refine X818.aloadN (x := (.ref b)) (D d24_15) rfl rfl ?_
  refine X818.callvF (y := (⟨"java/lang/AbstractStringBuilder", "isLatin1", "()Z"⟩ : MethodName)) (z := (⟨"java/lang/AbstractStringBuilder", "isLatin1", "()Z"⟩ : MethodName)) (a := b) (C := "java/lang/StringBuilder") [] [] (ctIL l Z a0 hw hEL z0 S0 hz0 b d _ _ F821 F822 F823).toF F821 (w 154 rfl) (w 155 rfl) (w 157 rfl) (w 156 rfl) (nfOf (w 157 rfl) rfl) (w 47 rfl) (w 158 rfl) (by decide) (fun _ q => nomatch q) (by decide) 0 (by decide) (by decide) (by decide) (lenOf pd_14 rfl) rfl (Nat.le_of_ble_eq_true rfl) (by rw [hml]; rfl) (D d24_16) ?_
  rintro T829 h830 _ _ X832 K833 hg834 ⟨rfl, rfl⟩
  have F835 := F821.keep K833
  have F836 := F822.keep K833 nin0
  have F837 := F823.keep K833 nin0
  have F838 := F824.keep K833 nin0
  have F839 := F825.keep K833 nin0
  have F840 := F826.keep K833
  have F841 := F827.keep K833 nin0
  have F842 := F828.keep K833 nin0
  show Goes p.tables e below _ (T829.setTop (mkF m 19 #[.val (.ref a), .val (.ref b), .val .null, .val (.ref d), .val (.int (29 : Int32))] [(.int (1 : Int32))]))
  refine X832.if_eq 41 (D d24_19) ⟨by decide, by decide⟩ (fun hc843 => absurd hc843 (by decide)) (fun hc843 => ?_)
  refine X832.aloadN (x := (.ref a)) (D d24_22) rfl rfl ?_
  refine X832.iconst (x := (0 : Int32)) (D d24_23) rfl ?_
  refine X832.putf (w 26 rfl) Via.refl F842 F840 (Or.inr ⟨(w 27 rfl), rfl, hnm⟩) (w 1 rfl) (ty := .byte) (by decide) rfl rfl (D d24_24) (by simp) ?_
  intro T844 h845 X846 W847
  have F848 := F842.same W847
  have F849 := F835.wr W847
  have F850 := F836.other W847 (Or.inl (Exa.ne F835 F840 (by decide)))
  have F851 := F837.other W847 (Or.inl (Exa.ne F835 F840 (by decide)))
  have F852 := F838.other W847 (Or.inl (Exa.ne F835 F840 (by decide)))
  have F853 := F839.other W847 (Exa.neArv F840 F839 (w 1 rfl)).symm
  have F854 := F840.wr W847
  have F855 := F841.other W847 (Or.inr (slot_ne (t := (.array .byte)) (t' := .byte) (Or.inr (w 29 rfl)) (Or.inr (w 27 rfl)) (by decide) (by decide) (by decide)))
  show Goes p.tables e below _ (T844.setTop (mkF m 27 #[.val (.ref a), .val (.ref b), .val .null, .val (.ref d), .val (.int (29 : Int32))] []))
  refine X846.aloadN (x := (.ref a)) (D d24_27) rfl rfl ?_
  refine X846.aloadN (x := (.ref d)) (D d24_28) rfl rfl ?_
  refine X846.iconst (x := (0 : Int32)) (D d24_29) rfl ?_
  refine X846.iload (x := (29 : Int32)) (D d24_30) rfl ?_
  refine X846.callsF [(.ref d), (.int (0 : Int32)), (.int (29 : Int32))] [(.ref a)] (ctCR29_34 l Z a0 hw hEL z0 S0 hz0 d kd vd _ _ _ F853 hxs).toF (w 159 rfl) (w 160 rfl) (w 102 rfl) (w 161 rfl) (by decide) (fun _ q => nomatch q) (by decide) 1 (by decide) (by decide) (by decide) (lenOf pd_12 rfl) rfl (Nat.le_of_ble_eq_true rfl) (by rw [hml]; rfl) (D d24_32) ?_
  rintro T856 h857 _ _ X859 K860 hg861 ⟨rfl, r, kr, rfl, A1⟩
  have F862 := F849.keep K860
  have F863 := F850.keep K860 nin0
  have F864 := F851.keep K860 nin0
  have F865 := F852.keep K860 nin0
  have F866 := F853.keep K860 nin0
  have F867 := F854.keep K860
  have F868 := F855.keep K860 nin0
  have F869 := F848.keep K860 nin0
  show Goes p.tables e below _ (T856.setTop (mkF m 35 #[.val (.ref a), .val (.ref b), .val .null, .val (.ref d), .val (.int (29 : Int32))] [(.ref r), (.ref a)]))
  refine X859.putf (w 28 rfl) Via.refl F868 F867 (Or.inr ⟨(w 29 rfl), rfl, hnm⟩) (w 1 rfl) (ty := (.array .byte)) (by decide) rfl rfl (D d24_35) (by simp) ?_
  intro T870 h871 X872 W873
  have F874 := F868.same W873
  have F875 := F862.wr W873
  have F876 := F863.other W873 (Or.inl (Exa.ne F862 F867 (by decide)))
  have F877 := F864.other W873 (Or.inl (Exa.ne F862 F867 (by decide)))
  have F878 := F865.other W873 (Or.inl (Exa.ne F862 F867 (by decide)))
  have F879 := F866.other W873 (Exa.neArv F867 F866 (w 1 rfl)).symm
  have F880 := F867.wr W873
  have F881 := F869.other W873 (Or.inr (slot_ne (t := .byte) (t' := (.array .byte)) (Or.inr (w 27 rfl)) (Or.inr (w 29 rfl)) (by decide) (by decide) (by decide)))
  have F882 := A1.other W873 (Exa.neArv F867 A1 (w 1 rfl)).symm
  show Goes p.tables e below _ (T870.setTop (mkF m 38 #[.val (.ref a), .val (.ref b), .val .null, .val (.ref d), .val (.int (29 : Int32))] []))
  refine X872.goto 97 (D d24_38) ⟨by decide, by decide⟩ ?_
  exact X872.retn hret hlk (D d24_97) (by decide) (by decide) (⟨rfl, r, OStr.mk F880 F874 F881 (by rw [hds]; exact F882) hp (by rw [hds]; decide)⟩)
theorem d23_0 : decode jdk_42_method_53_code 0 = .ok (.aload_n 0, 1) := by decide +kernel
theorem d23_1 : decode jdk_42_method_53_code 1 = .ok (.aload_n 1, 1) := by decide +kernel
theorem d23_2 : decode jdk_42_method_53_code 2 = .ok (.aconst_null, 1) := by decide +kernel
theorem d23_3 : decode jdk_42_method_53_code 3 = .ok (.invokespecial 489, 3) := by decide +kernel
theorem d23_6 : decode jdk_42_method_53_code 6 = .ok (.return_, 1) := by decide +kernel
theorem pd_15 : parseMethodDescriptor "(Ljava/lang/AbstractStringBuilder;Ljava/lang/Void;)V" = some ⟨[(.object "java/lang/AbstractStringBuilder"), (.object "java/lang/Void")], none⟩ := by decide +kernel
set_option maxRecDepth 65536 in
set_option maxHeartbeats 40000000 in
theorem ctIS29_34 (l : Launch) (Z : State) (a0 : Array Value) (hw : ∀ d ∈ tables_1, d.before a0 Z = true) (hEL : EW Z a0 consts_1) (z0 : Int32) (S0 : Sta Z Z.heap "java/lang/String" "COMPACT_STRINGS" "Z" (.int z0)) (hz0 : ¬ z0 = 0) (a b d : Addr) (kd : ClassId) (vd : List Value) (ds : List Int32) (h0 : Heap) (n0 : Nat) (EB : Exa Z h0 b "java/lang/StringBuilder") (FV : Fld Z h0 b "java/lang/AbstractStringBuilder" "value" "[B" (.ref d)) (FC : Fld Z h0 b "java/lang/AbstractStringBuilder" "coder" "B" (.int (0 : Int32))) (FN : Fld Z h0 b "java/lang/AbstractStringBuilder" "count" "I" (.int (29 : Int32))) (AD : Arv Z h0 d kd .byte (34 : Int32) vd (.int 0)) (hvd : vd.length = 34) (hp : ∀ c ∈ ds, ¬ c < 0 ∧ ¬ (255 : Int32) < c) (hds : ds.length = 29) (hxs : ((ds.map StrChars.lo8).map Value.int) = (List.range 29).map fun i => vd.getD (0 + i) (.int 0)) (E0 : Exa Z h0 a "java/lang/String") (F0 : Fld Z h0 a "java/lang/String" "value" "[B" .null) (F1 : Fld Z h0 a "java/lang/String" "coder" "B" (.int (0 : Int32))) :
    Ct l Z consts_1 [] (⟨"java/lang/String", "<init>", "(Ljava/lang/StringBuilder;)V"⟩ : MethodName) jdk_42_method_53_code 2 none ({ frames := 4, cells := 1, slots := 29, locals := 65 } : Room) #[(.ref a), (.ref b)] h0 n0 [a] (fun v h => v = none ∧ ∃ t : Addr, OStr Z h a t ds) := by
  have w : ∀ {d : Jvm.Cond} (i : Nat), tables_1[i]? = some d → d.before a0 Z = true := fun i q => hw _ (List.mem_of_getElem? q)
  refine Ct.enter (plainFor_of_name pn_0) hEL ?_
  intro p e sS m below meth c T0 hby hml0 hret hlk hnm hs0 X0
  have hml : c.maxLocals = 2 := hml0
  have D : ∀ {pc : Nat} {r : Except DecodeError (Instr × Nat)}, decode jdk_42_method_53_code pc = r → decode c.code pc = r := fun q => hb hby q
  rw [show entryFrame m #[(.ref a), (.ref b)] 2 = mkF m 0 #[.val (.ref a), .val (.ref b)] [] from by first | (simp [entryFrame, mkF, argsToLocals, Value.category]; done) | rfl]
  refine X0.aloadN (x := (.ref a)) (D d23_0) rfl rfl ?_
  refine X0.aloadN (x := (.ref b)) (D d23_1) rfl rfl ?_
  refine X0.anull (D d23_2) ?_
  refine X0.callcF (a := a) [(.ref b), .null] [] (ctIV29_34 l Z a0 hw hEL z0 S0 hz0 a b d kd vd ds _ _ EB FV FC FN AD hvd hp hds hxs E0 F0 F1).toF rfl (w 138 rfl) (w 139 rfl) (w 2 rfl) (w 140 rfl) (by decide) (by simp) (by decide) 0 (by decide) (by decide) (by decide) (lenOf pd_15 rfl) rfl (Nat.le_of_ble_eq_true rfl) (by rw [hml]; rfl) (D d23_3) ?_
  rintro T883 h884 _ _ X886 K887 hg888 ⟨rfl, rfl, t, O⟩
  have F889 := EB.keep K887
  have F890 := FV.keep K887 (ninS (Exa.ne EB E0 (by decide)) nin0)
  have F891 := FC.keep K887 (ninS (Exa.ne EB E0 (by decide)) nin0)
  have F892 := FN.keep K887 (ninS (Exa.ne EB E0 (by decide)) nin0)
  have F893 := AD.keep K887 (ninS (Exa.neArv E0 AD (w 1 rfl)).symm nin0)
  have F894 := E0.keep K887
  show Goes p.tables e below _ (T883.setTop (mkF m 6 #[.val (.ref a), .val (.ref b)] []))
  exact X886.retn hret hlk (D d23_6) (by decide) (by decide) (⟨rfl, t, O⟩)
theorem d22_0 : decode jdk_67_method_42_code 0 = .ok (.new 18, 3) := by decide +kernel
theorem d22_3 : decode jdk_67_method_42_code 3 = .ok (.dup, 1) := by decide +kernel
theorem d22_4 : decode jdk_67_method_42_code 4 = .ok (.aload_n 0, 1) := by decide +kernel
theorem d22_5 : decode jdk_67_method_42_code 5 = .ok (.invokespecial 137, 3) := by decide +kernel
theorem d22_8 : decode jdk_67_method_42_code 8 = .ok (.areturn, 1) := by decide +kernel
theorem pd_16 : parseMethodDescriptor "(Ljava/lang/StringBuilder;)V" = some ⟨[(.object "java/lang/StringBuilder")], none⟩ := by decide +kernel
set_option maxRecDepth 65536 in
set_option maxHeartbeats 40000000 in
theorem ctTS29_34 (l : Launch) (Z : State) (a0 : Array Value) (hw : ∀ d ∈ tables_1, d.before a0 Z = true) (hEL : EW Z a0 consts_1) (z0 : Int32) (S0 : Sta Z Z.heap "java/lang/String" "COMPACT_STRINGS" "Z" (.int z0)) (hz0 : ¬ z0 = 0) (b d : Addr) (kd : ClassId) (vd : List Value) (ds : List Int32) (h0 : Heap) (n0 : Nat) (EB : Exa Z h0 b "java/lang/StringBuilder") (FV : Fld Z h0 b "java/lang/AbstractStringBuilder" "value" "[B" (.ref d)) (FC : Fld Z h0 b "java/lang/AbstractStringBuilder" "coder" "B" (.int (0 : Int32))) (FN : Fld Z h0 b "java/lang/AbstractStringBuilder" "count" "I" (.int (29 : Int32))) (AD : Arv Z h0 d kd .byte (34 : Int32) vd (.int 0)) (hvd : vd.length = 34) (hp : ∀ c ∈ ds, ¬ c < 0 ∧ ¬ (255 : Int32) < c) (hds : ds.length = 29) (hxs : ((ds.map StrChars.lo8).map Value.int) = (List.range 29).map fun i => vd.getD (0 + i) (.int 0)) :
    Ct l Z consts_1 [] (⟨"java/lang/StringBuilder", "toString", "()Ljava/lang/String;"⟩ : MethodName) jdk_67_method_42_code 1 (some (.object "java/lang/String")) ({ frames := 5, cells := 2, slots := 33, locals := 79 } : Room) #[(.ref b)] h0 n0 [] (fun v h => ∃ s t : Addr, v = some (.ref s) ∧ OStr Z h s t ds) := by
  have w : ∀ {d : Jvm.Cond} (i : Nat), tables_1[i]? = some d → d.before a0 Z = true := fun i q => hw _ (List.mem_of_getElem? q)
  refine Ct.enter (plainFor_of_name pn_2) hEL ?_
  intro p e sS m below meth c T0 hby hml0 hret hlk hnm hs0 X0
  have hml : c.maxLocals = 1 := hml0
  have D : ∀ {pc : Nat} {r : Except DecodeError (Instr × Nat)}, decode jdk_67_method_42_code pc = r → decode c.code pc = r := fun q => hb hby q
  rw [show entryFrame m #[(.ref b)] 1 = mkF m 0 #[.val (.ref b)] [] from by first | (simp [entryFrame, mkF, argsToLocals, Value.category]; done) | rfl]
  refine X0.new (w 134 rfl) (w 1 rfl) (w 2 rfl) (D d22_0) (by decide) (by decide) ?_
  intro T895 h896 b897 g898 X899 E900 A901 D902 U903
  have F904 := EB.ext E900
  have F905 := FV.ext E900
  have F906 := FC.ext E900
  have F907 := FN.ext E900
  have F908 := AD.ext E900
  have lt909 : b < b897 := by rw [g898]; exact EB.lt
  have lt910 : d < b897 := by rw [g898]; exact AD.lt
  have F911 : Fld Z h896 b897 "java/lang/String" "coder" "B" (.int (0 : Int32)) := D902 (Or.inr (w 27 rfl)) (ty := .byte) (by decide)
  have F912 : Fld Z h896 b897 "java/lang/String" "value" "[B" .null := D902 (Or.inr (w 29 rfl)) (ty := (.array .byte)) (by decide)
  show Goes p.tables e below _ (T895.setTop (mkF m 3 #[.val (.ref b)] [(.ref b897)]))
  refine X899.dup (D d22_3) rfl ?_
  refine X899.aloadN (x := (.ref b)) (D d22_4) rfl rfl ?_
  refine X899.callcF (a := b897) [(.ref b)] [(.ref b897)] (ctIS29_34 l Z a0 hw hEL z0 S0 hz0 b897 b d kd vd ds _ _ F904 F905 F906 F907 F908 hvd hp hds hxs A901 F912 F911).toF rfl (w 135 rfl) (w 136 rfl) (w 2 rfl) (w 137 rfl) (by decide) (by simp) (by decide) 1 (by decide) (by decide) (by decide) (lenOf pd_16 rfl) rfl (Nat.le_of_ble_eq_true rfl) (by rw [hml]; rfl) (D d22_5) ?_
  rintro T913 h914 _ _ X916 K917 hg918 ⟨rfl, rfl, t, O⟩
  have F919 := F904.keep K917
  have F920 := F905.keep K917 (ninS (Nat.ne_of_lt lt909) nin0)
  have F921 := F906.keep K917 (ninS (Nat.ne_of_lt lt909) nin0)
  have F922 := F907.keep K917 (ninS (Nat.ne_of_lt lt909) nin0)
  have F923 := F908.keep K917 (ninS (Nat.ne_of_lt lt910) nin0)
  have F924 := A901.keep K917
  show Goes p.tables e below _ (T913.setTop (mkF m 8 #[.val (.ref b)] [(.ref b897)]))
  exact X916.retA hret rfl rfl hlk (D d22_8) (by decide) (by decide) (⟨_, t, rfl, O⟩)
theorem d37_0 : decode jdk_78_method_6_code 0 = .ok (.aload_n 0, 1) := by decide +kernel
theorem d37_1 : decode jdk_78_method_6_code 1 = .ok (.getfield 31, 3) := by decide +kernel
theorem d37_4 : decode jdk_78_method_6_code 4 = .ok (.areturn, 1) := by decide +kernel
theorem pn_5 : plainName "java/lang/Throwable" = true := by first | (simp [plainName, overriddenIn]; done) | decide +kernel
set_option maxRecDepth 65536 in
set_option maxHeartbeats 40000000 in
theorem ctGM (l : Launch) (Z : State) (a0 : Array Value) (hw : ∀ d ∈ tables_1, d.before a0 Z = true) (hEL : EW Z a0 consts_1) (z0 : Int32) (S0 : Sta Z Z.heap "java/lang/String" "COMPACT_STRINGS" "Z" (.int z0)) (hz0 : ¬ z0 = 0) (a r : Addr) (h0 : Heap) (n0 : Nat) (F0 : Fld Z h0 a "java/lang/Throwable" "detailMessage" "Ljava/lang/String;" (.ref r)) :
    Ct l Z consts_1 [] (⟨"java/lang/Throwable", "getMessage", "()Ljava/lang/String;"⟩ : MethodName) jdk_78_method_6_code 1 (some (.object "java/lang/String")) ({ frames := 0, cells := 0, slots := 0, locals := 0 } : Room) #[(.ref a)] h0 n0 [] (fun v _ => v = some (.ref r)) := by
  have w : ∀ {d : Jvm.Cond} (i : Nat), tables_1[i]? = some d → d.before a0 Z = true := fun i q => hw _ (List.mem_of_getElem? q)
  refine Ct.enter (plainFor_of_name pn_5) hEL ?_
  intro p e sS m below meth c T0 hby hml0 hret hlk hnm hs0 X0
  have hml : c.maxLocals = 1 := hml0
  have D : ∀ {pc : Nat} {r : Except DecodeError (Instr × Nat)}, decode jdk_78_method_6_code pc = r → decode c.code pc = r := fun q => hb hby q
  rw [show entryFrame m #[(.ref a)] 1 = mkF m 0 #[.val (.ref a)] [] from by first | (simp [entryFrame, mkF, argsToLocals, Value.category]; done) | rfl]
  refine X0.aloadN (x := (.ref a)) (D d37_0) rfl rfl ?_
  refine X0.getf (w 225 rfl) Via.refl F0 (D d37_1) ?_
  intro T925 X926
  show Goes p.tables e below _ (T925.setTop (mkF m 4 #[.val (.ref a)] [(.ref r)]))
  exact X926.retA hret rfl rfl hlk (D d37_4) (by decide) (by decide) (rfl)
theorem d35_0 : decode jdk_78_method_2_code 0 = .ok (.aload_n 0, 1) := by decide +kernel
theorem d35_1 : decode jdk_78_method_2_code 1 = .ok (.invokespecial 1, 3) := by decide +kernel
theorem d35_4 : decode jdk_78_method_2_code 4 = .ok (.aload_n 0, 1) := by decide +kernel
theorem d35_5 : decode jdk_78_method_2_code 5 = .ok (.aload_n 0, 1) := by decide +kernel
theorem d35_6 : decode jdk_78_method_2_code 6 = .ok (.putfield 7, 3) := by decide +kernel
theorem d35_9 : decode jdk_78_method_2_code 9 = .ok (.aload_n 0, 1) := by decide +kernel
theorem d35_10 : decode jdk_78_method_2_code 10 = .ok (.getstatic 13, 3) := by decide +kernel
theorem d35_13 : decode jdk_78_method_2_code 13 = .ok (.putfield 17, 3) := by decide +kernel
theorem d35_16 : decode jdk_78_method_2_code 16 = .ok (.aload_n 0, 1) := by decide +kernel
theorem d35_17 : decode jdk_78_method_2_code 17 = .ok (.getstatic 20, 3) := by decide +kernel
theorem d35_20 : decode jdk_78_method_2_code 20 = .ok (.putfield 24, 3) := by decide +kernel
theorem d35_23 : decode jdk_78_method_2_code 23 = .ok (.aload_n 0, 1) := by decide +kernel
theorem d35_24 : decode jdk_78_method_2_code 24 = .ok (.invokevirtual 27, 3) := by decide +kernel
theorem d35_27 : decode jdk_78_method_2_code 27 = .ok (.pop, 1) := by decide +kernel
theorem d35_28 : decode jdk_78_method_2_code 28 = .ok (.aload_n 0, 1) := by decide +kernel
theorem d35_29 : decode jdk_78_method_2_code 29 = .ok (.aload_n 1, 1) := by decide +kernel
theorem d35_30 : decode jdk_78_method_2_code 30 = .ok (.putfield 31, 3) := by decide +kernel
theorem d35_33 : decode jdk_78_method_2_code 33 = .ok (.return_, 1) := by decide +kernel
theorem d34_0 : decode jdk_59_method_2_code 0 = .ok (.aload_n 0, 1) := by decide +kernel
theorem d34_1 : decode jdk_59_method_2_code 1 = .ok (.aload_n 1, 1) := by decide +kernel
theorem d34_2 : decode jdk_59_method_2_code 2 = .ok (.invokespecial 7, 3) := by decide +kernel
theorem d34_5 : decode jdk_59_method_2_code 5 = .ok (.return_, 1) := by decide +kernel
theorem pn_6 : plainName "java/lang/Exception" = true := by first | (simp [plainName, overriddenIn]; done) | decide +kernel
set_option maxRecDepth 65536 in
set_option maxHeartbeats 40000000 in
theorem ctExc (l : Launch) (Z : State) (a0 : Array Value) (hw : ∀ d ∈ tables_1, d.before a0 Z = true) (hEL : EW Z a0 consts_1) (z0 : Int32) (S0 : Sta Z Z.heap "java/lang/String" "COMPACT_STRINGS" "Z" (.int z0)) (hz0 : ¬ z0 = 0) (hl : l.stackTraces = true) (u sv : Value) (hu : u.isRef = true) (hv : sv.isRef = true) (SU : Sta Z Z.heap "java/lang/Throwable" "UNASSIGNED_STACK" "[Ljava/lang/StackTraceElement;" u) (SS : Sta Z Z.heap "java/lang/Throwable" "SUPPRESSED_SENTINEL" "Ljava/util/List;" sv) (a ms : Addr) (h0 : Heap) (n0 : Nat) (E0 : Exa Z h0 a "java/lang/IllegalArgumentException") (N0 : Unt h0 a) (F0 : Fld Z h0 a "java/lang/Throwable" "cause" "Ljava/lang/Throwable;" .null) (F1 : Fld Z h0 a "java/lang/Throwable" "stackTrace" "[Ljava/lang/StackTraceElement;" .null) (F2 : Fld Z h0 a "java/lang/Throwable" "suppressedExceptions" "Ljava/util/List;" .null) (F3 : Fld Z h0 a "java/lang/Throwable" "backtrace" "Ljava/lang/Object;" .null) (F4 : Fld Z h0 a "java/lang/Throwable" "detailMessage" "Ljava/lang/String;" .null) :
    CtK l Z consts_1 [] (⟨"java/lang/Exception", "<init>", "(Ljava/lang/String;)V"⟩ : MethodName) jdk_59_method_2_code 2 none ({ frames := 4, cells := 1, slots := 2752, locals := 55 } : Room) #[(.ref a), (.ref ms)] h0 n0 [a] (fun v h => v = none ∧ Exa Z h a "java/lang/IllegalArgumentException" ∧ Fld Z h a "java/lang/Throwable" "detailMessage" "Ljava/lang/String;" (.ref ms)) := by
  have w : ∀ {d : Jvm.Cond} (i : Nat), tables_1[i]? = some d → d.before a0 Z = true := fun i q => hw _ (List.mem_of_getElem? q)
  refine CtK.enter (plainFor_of_name pn_6) hEL ?_
  intro p e sS m below meth c T0 hby hml0 hret hlk hnm hs0 hKn X0
  have hml : c.maxLocals = 2 := hml0
  have D : ∀ {pc : Nat} {r : Except DecodeError (Instr × Nat)}, decode jdk_59_method_2_code pc = r → decode c.code pc = r := fun q => hb hby q
  rw [show entryFrame m #[(.ref a), (.ref ms)] 2 = mkF m 0 #[.val (.ref a), .val (.ref ms)] [] from by first | (simp [entryFrame, mkF, argsToLocals, Value.category]; done) | rfl]
  refine X0.aloadN (x := (.ref a)) (D d34_0) rfl rfl ?_
  refine X0.aloadN (x := (.ref ms)) (D d34_1) rfl rfl ?_
  show Goes p.tables e below _ (T0.setTop (mkF m 2 #[.val (.ref a), .val (.ref ms)] [(.ref ms), (.ref a)]))
  refine X0.callcK hKn (a := a) [(.ref ms)] [] (ctThr l Z a0 consts_1 hEL hl (rc := "java/lang/IllegalArgumentException") (fun d q => hw d (hwX d q)) (w 35 rfl) (w 225 rfl) hu hv SU SS jdk_78_method_2_code d35_0 d35_1 d35_4 d35_5 d35_6 d35_9 d35_10 d35_13 d35_16 d35_17 d35_20 d35_23 d35_24 d35_27 d35_28 d35_29 d35_30 d35_33 a (.ref ms) rfl _ _ E0 N0 F0 F1 F2 F3 F4) rfl (w 183 rfl) (w 184 rfl) (w 187 rfl) (w 188 rfl) (by decide) (by simp) (by decide) 0 (by decide) (by decide) (by decide) (lenOf pd_6 rfl) rfl (Nat.le_of_ble_eq_true rfl) (by rw [hml]; rfl) (D d34_2) ?_
  rintro T927 h928 _ X930 K931 ⟨rfl, E9, F9⟩
  have F932 := E0.keep K931
  show Goes p.tables e below _ (T927.setTop (mkF m 5 #[.val (.ref a), .val (.ref ms)] []))
  exact X930.retn hret hlk (D d34_5) (by decide) (by decide) (⟨rfl, E9, F9⟩)
theorem d33_0 : decode jdk_58_method_2_code 0 = .ok (.aload_n 0, 1) := by decide +kernel
theorem d33_1 : decode jdk_58_method_2_code 1 = .ok (.aload_n 1, 1) := by decide +kernel
theorem d33_2 : decode jdk_58_method_2_code 2 = .ok (.invokespecial 7, 3) := by decide +kernel
theorem d33_5 : decode jdk_58_method_2_code 5 = .ok (.return_, 1) := by decide +kernel
theorem pn_7 : plainName "java/lang/RuntimeException" = true := by first | (simp [plainName, overriddenIn]; done) | decide +kernel
set_option maxRecDepth 65536 in
set_option maxHeartbeats 40000000 in
theorem ctRte (l : Launch) (Z : State) (a0 : Array Value) (hw : ∀ d ∈ tables_1, d.before a0 Z = true) (hEL : EW Z a0 consts_1) (z0 : Int32) (S0 : Sta Z Z.heap "java/lang/String" "COMPACT_STRINGS" "Z" (.int z0)) (hz0 : ¬ z0 = 0) (hl : l.stackTraces = true) (u sv : Value) (hu : u.isRef = true) (hv : sv.isRef = true) (SU : Sta Z Z.heap "java/lang/Throwable" "UNASSIGNED_STACK" "[Ljava/lang/StackTraceElement;" u) (SS : Sta Z Z.heap "java/lang/Throwable" "SUPPRESSED_SENTINEL" "Ljava/util/List;" sv) (a ms : Addr) (h0 : Heap) (n0 : Nat) (E0 : Exa Z h0 a "java/lang/IllegalArgumentException") (N0 : Unt h0 a) (F0 : Fld Z h0 a "java/lang/Throwable" "cause" "Ljava/lang/Throwable;" .null) (F1 : Fld Z h0 a "java/lang/Throwable" "stackTrace" "[Ljava/lang/StackTraceElement;" .null) (F2 : Fld Z h0 a "java/lang/Throwable" "suppressedExceptions" "Ljava/util/List;" .null) (F3 : Fld Z h0 a "java/lang/Throwable" "backtrace" "Ljava/lang/Object;" .null) (F4 : Fld Z h0 a "java/lang/Throwable" "detailMessage" "Ljava/lang/String;" .null) :
    CtK l Z consts_1 [] (⟨"java/lang/RuntimeException", "<init>", "(Ljava/lang/String;)V"⟩ : MethodName) jdk_58_method_2_code 2 none ({ frames := 5, cells := 1, slots := 2752, locals := 68 } : Room) #[(.ref a), (.ref ms)] h0 n0 [a] (fun v h => v = none ∧ Exa Z h a "java/lang/IllegalArgumentException" ∧ Fld Z h a "java/lang/Throwable" "detailMessage" "Ljava/lang/String;" (.ref ms)) := by
  have w : ∀ {d : Jvm.Cond} (i : Nat), tables_1[i]? = some d → d.before a0 Z = true := fun i q => hw _ (List.mem_of_getElem? q)
  refine CtK.enter (plainFor_of_name pn_7) hEL ?_
  intro p e sS m below meth c T0 hby hml0 hret hlk hnm hs0 hKn X0
  have hml : c.maxLocals = 2 := hml0
  have D : ∀ {pc : Nat} {r : Except DecodeError (Instr × Nat)}, decode jdk_58_method_2_code pc = r → decode c.code pc = r := fun q => hb hby q
  rw [show entryFrame m #[(.ref a), (.ref ms)] 2 = mkF m 0 #[.val (.ref a), .val (.ref ms)] [] from by first | (simp [entryFrame, mkF, argsToLocals, Value.category]; done) | rfl]
  refine X0.aloadN (x := (.ref a)) (D d33_0) rfl rfl ?_
  refine X0.aloadN (x := (.ref ms)) (D d33_1) rfl rfl ?_
  show Goes p.tables e below _ (T0.setTop (mkF m 2 #[.val (.ref a), .val (.ref ms)] [(.ref ms), (.ref a)]))
  refine X0.callcK hKn (a := a) [(.ref ms)] [] (ctExc l Z a0 hw hEL z0 S0 hz0 hl u sv hu hv SU SS a ms _ _ E0 N0 F0 F1 F2 F3 F4) rfl (w 177 rfl) (w 178 rfl) (w 181 rfl) (w 182 rfl) (by decide) (by simp) (by decide) 0 (by decide) (by decide) (by decide) (lenOf pd_6 rfl) rfl (Nat.le_of_ble_eq_true rfl) (by rw [hml]; rfl) (D d33_2) ?_
  rintro T934 h935 _ X937 K938 ⟨rfl, E9, F9⟩
  have F939 := E0.keep K938
  show Goes p.tables e below _ (T934.setTop (mkF m 5 #[.val (.ref a), .val (.ref ms)] []))
  exact X937.retn hret hlk (D d33_5) (by decide) (by decide) (⟨rfl, E9, F9⟩)
theorem d32_0 : decode jdk_57_method_2_code 0 = .ok (.aload_n 0, 1) := by decide +kernel
theorem d32_1 : decode jdk_57_method_2_code 1 = .ok (.aload_n 1, 1) := by decide +kernel
theorem d32_2 : decode jdk_57_method_2_code 2 = .ok (.invokespecial 7, 3) := by decide +kernel
theorem d32_5 : decode jdk_57_method_2_code 5 = .ok (.return_, 1) := by decide +kernel
theorem pn_8 : plainName "java/lang/IllegalArgumentException" = true := by first | (simp [plainName, overriddenIn]; done) | decide +kernel
set_option maxRecDepth 65536 in
set_option maxHeartbeats 40000000 in
theorem ctIae (l : Launch) (Z : State) (a0 : Array Value) (hw : ∀ d ∈ tables_1, d.before a0 Z = true) (hEL : EW Z a0 consts_1) (z0 : Int32) (S0 : Sta Z Z.heap "java/lang/String" "COMPACT_STRINGS" "Z" (.int z0)) (hz0 : ¬ z0 = 0) (hl : l.stackTraces = true) (u sv : Value) (hu : u.isRef = true) (hv : sv.isRef = true) (SU : Sta Z Z.heap "java/lang/Throwable" "UNASSIGNED_STACK" "[Ljava/lang/StackTraceElement;" u) (SS : Sta Z Z.heap "java/lang/Throwable" "SUPPRESSED_SENTINEL" "Ljava/util/List;" sv) (a ms : Addr) (h0 : Heap) (n0 : Nat) (E0 : Exa Z h0 a "java/lang/IllegalArgumentException") (N0 : Unt h0 a) (F0 : Fld Z h0 a "java/lang/Throwable" "cause" "Ljava/lang/Throwable;" .null) (F1 : Fld Z h0 a "java/lang/Throwable" "stackTrace" "[Ljava/lang/StackTraceElement;" .null) (F2 : Fld Z h0 a "java/lang/Throwable" "suppressedExceptions" "Ljava/util/List;" .null) (F3 : Fld Z h0 a "java/lang/Throwable" "backtrace" "Ljava/lang/Object;" .null) (F4 : Fld Z h0 a "java/lang/Throwable" "detailMessage" "Ljava/lang/String;" .null) :
    CtK l Z consts_1 [] (⟨"java/lang/IllegalArgumentException", "<init>", "(Ljava/lang/String;)V"⟩ : MethodName) jdk_57_method_2_code 2 none ({ frames := 6, cells := 1, slots := 2752, locals := 81 } : Room) #[(.ref a), (.ref ms)] h0 n0 [a] (fun v h => v = none ∧ Exa Z h a "java/lang/IllegalArgumentException" ∧ Fld Z h a "java/lang/Throwable" "detailMessage" "Ljava/lang/String;" (.ref ms)) := by
  have w : ∀ {d : Jvm.Cond} (i : Nat), tables_1[i]? = some d → d.before a0 Z = true := fun i q => hw _ (List.mem_of_getElem? q)
  refine CtK.enter (plainFor_of_name pn_8) hEL ?_
  intro p e sS m below meth c T0 hby hml0 hret hlk hnm hs0 hKn X0
  have hml : c.maxLocals = 2 := hml0
  have D : ∀ {pc : Nat} {r : Except DecodeError (Instr × Nat)}, decode jdk_57_method_2_code pc = r → decode c.code pc = r := fun q => hb hby q
  rw [show entryFrame m #[(.ref a), (.ref ms)] 2 = mkF m 0 #[.val (.ref a), .val (.ref ms)] [] from by first | (simp [entryFrame, mkF, argsToLocals, Value.category]; done) | rfl]
  refine X0.aloadN (x := (.ref a)) (D d32_0) rfl rfl ?_
  refine X0.aloadN (x := (.ref ms)) (D d32_1) rfl rfl ?_
  show Goes p.tables e below _ (T0.setTop (mkF m 2 #[.val (.ref a), .val (.ref ms)] [(.ref ms), (.ref a)]))
  refine X0.callcK hKn (a := a) [(.ref ms)] [] (ctRte l Z a0 hw hEL z0 S0 hz0 hl u sv hu hv SU SS a ms _ _ E0 N0 F0 F1 F2 F3 F4) rfl (w 171 rfl) (w 172 rfl) (w 175 rfl) (w 176 rfl) (by decide) (by simp) (by decide) 0 (by decide) (by decide) (by decide) (lenOf pd_6 rfl) rfl (Nat.le_of_ble_eq_true rfl) (by rw [hml]; rfl) (D d32_2) ?_
  rintro T941 h942 _ X944 K945 ⟨rfl, E9, F9⟩
  have F946 := E0.keep K945
  show Goes p.tables e below _ (T941.setTop (mkF m 5 #[.val (.ref a), .val (.ref ms)] []))
  exact X944.retn hret hlk (D d32_5) (by decide) (by decide) (⟨rfl, E9, F9⟩)
theorem d6_0 : decode prog_2_method_3_code 0 = .ok (.new 26, 3) := by decide +kernel
theorem d6_3 : decode prog_2_method_3_code 3 = .ok (.dup, 1) := by decide +kernel
theorem d6_4 : decode prog_2_method_3_code 4 = .ok (.new 28, 3) := by decide +kernel
theorem d6_7 : decode prog_2_method_3_code 7 = .ok (.dup, 1) := by decide +kernel
theorem d6_8 : decode prog_2_method_3_code 8 = .ok (.invokespecial 30, 3) := by decide +kernel
theorem d6_11 : decode prog_2_method_3_code 11 = .ok (.ldc 31, 2) := by decide +kernel
theorem d6_13 : decode prog_2_method_3_code 13 = .ok (.invokevirtual 33, 3) := by decide +kernel
theorem d6_16 : decode prog_2_method_3_code 16 = .ok (.aload_n 0, 1) := by decide +kernel
theorem d6_17 : decode prog_2_method_3_code 17 = .ok (.invokevirtual 33, 3) := by decide +kernel
theorem d6_20 : decode prog_2_method_3_code 20 = .ok (.ldc 37, 2) := by decide +kernel
theorem d6_22 : decode prog_2_method_3_code 22 = .ok (.invokevirtual 33, 3) := by decide +kernel
theorem d6_25 : decode prog_2_method_3_code 25 = .ok (.aload_n 1, 1) := by decide +kernel
theorem d6_26 : decode prog_2_method_3_code 26 = .ok (.invokevirtual 33, 3) := by decide +kernel
theorem d6_29 : decode prog_2_method_3_code 29 = .ok (.invokevirtual 39, 3) := by decide +kernel
theorem d6_32 : decode prog_2_method_3_code 32 = .ok (.invokespecial 43, 3) := by decide +kernel
theorem d6_35 : decode prog_2_method_3_code 35 = .ok (.areturn, 1) := by decide +kernel
theorem pn_9 : plainName "com/example/idlr/idlr/JpqlLexer" = true := by first | (simp [plainName, overriddenIn]; done) | decide +kernel
theorem pd_17 : parseMethodDescriptor "()V" = some ⟨[], none⟩ := by decide +kernel
theorem pd_18 : parseMethodDescriptor "(Ljava/lang/String;)Ljava/lang/StringBuilder;" = some ⟨[(.object "java/lang/String")], (some (.object "java/lang/StringBuilder"))⟩ := by decide +kernel
theorem pd_19 : parseMethodDescriptor "()Ljava/lang/String;" = some ⟨[], (some (.object "java/lang/String"))⟩ := by decide +kernel
set_option maxRecDepth 65536 in
set_option maxHeartbeats 40000000 in
theorem ctRef (l : Launch) (Z : State) (a0 : Array Value) (hw : ∀ d ∈ tables_1, d.before a0 Z = true) (hEL : EW Z a0 consts_1) (z0 : Int32) (S0 : Sta Z Z.heap "java/lang/String" "COMPACT_STRINGS" "Z" (.int z0)) (hz0 : ¬ z0 = 0) (hl : l.stackTraces = true) (u sv : Value) (hu : u.isRef = true) (hv : sv.isRef = true) (SU : Sta Z Z.heap "java/lang/Throwable" "UNASSIGNED_STACK" "[Ljava/lang/StackTraceElement;" u) (SS : Sta Z Z.heap "java/lang/Throwable" "SUPPRESSED_SENTINEL" "Ljava/util/List;" sv) (x tx y ty : Addr) (q0 q1 r0 r1 : Int32) (h0 : Heap) (n0 : Nat) (OX : OStr Z h0 x tx [q0, q1]) (OY : OStr Z h0 y ty [r0, r1]) :
    CtK l Z consts_1 [] (⟨"com/example/idlr/idlr/JpqlLexer", "refused", "(Ljava/lang/String;Ljava/lang/String;)Ljava/lang/IllegalArgumentException;"⟩ : MethodName) prog_2_method_3_code 2 (some (.object "java/lang/IllegalArgumentException")) ({ frames := 7, cells := 11, slots := 2953, locals := 95 } : Room) #[(.ref x), (.ref y)] h0 n0 [] (fun v h => ∃ a s t : Addr, v = some (.ref a) ∧ Exa Z h a "java/lang/IllegalArgumentException" ∧ Fld Z h a "java/lang/Throwable" "detailMessage" "Ljava/lang/String;" (.ref s) ∧ OStr Z h s t ([(67 : Int32), (97 : Int32), (110 : Int32), (110 : Int32), (111 : Int32), (116 : Int32), (32 : Int32), (114 : Int32), (117 : Int32), (110 : Int32), (32 : Int32), (116 : Int32), (104 : Int32), (101 : Int32), (32 : Int32), (113 : Int32), (117 : Int32), (101 : Int32), (114 : Int32), (121 : Int32), (32 : Int32), (39 : Int32)] ++ [q0, q1] ++ [(39 : Int32), (58 : Int32), (32 : Int32)] ++ [r0, r1])) := by
  have w : ∀ {d : Jvm.Cond} (i : Nat), tables_1[i]? = some d → d.before a0 Z = true := fun i q => hw _ (List.mem_of_getElem? q)
  refine CtK.enter (plainFor_of_name pn_9) hEL ?_
  intro p e sS m below meth c T0 hby hml0 hret hlk hnm hs0 hKn X0
  have hml : c.maxLocals = 2 := hml0
  have D : ∀ {pc : Nat} {r : Except DecodeError (Instr × Nat)}, decode prog_2_method_3_code pc = r → decode c.code pc = r := fun q => hb hby q
  rw [show entryFrame m #[(.ref x), (.ref y)] 2 = mkF m 0 #[.val (.ref x), .val (.ref y)] [] from by first | (simp [entryFrame, mkF, argsToLocals, Value.category]; done) | rfl]
  refine X0.new (w 34 rfl) (w 35 rfl) (w 36 rfl) (D d6_0) (by decide) (by decide) ?_
  intro T948 h949 b950 g951 X952 E953 A954 D955 U956
  have F957 := OX.ext E953
  have F958 := OY.ext E953
  have lt959 : x < b950 := by rw [g951]; exact OX.lt
  have lt960 : tx < b950 := by rw [g951]; exact OX.ltb
  have lt961 : y < b950 := by rw [g951]; exact OY.lt
  have lt962 : ty < b950 := by rw [g951]; exact OY.ltb
  have F963 : Fld Z h949 b950 "java/lang/Throwable" "cause" "Ljava/lang/Throwable;" .null := D955 (Or.inl (w 191 rfl)) (ty := (.object "java/lang/Throwable")) (by decide)
  have F964 : Fld Z h949 b950 "java/lang/Throwable" "stackTrace" "[Ljava/lang/StackTraceElement;" .null := D955 (Or.inl (w 194 rfl)) (ty := (.array (.object "java/lang/StackTraceElement"))) (by decide)
  have F965 : Fld Z h949 b950 "java/lang/Throwable" "suppressedExceptions" "Ljava/util/List;" .null := D955 (Or.inl (w 197 rfl)) (ty := (.object "java/util/List")) (by decide)
  have F966 : Fld Z h949 b950 "java/lang/Throwable" "detailMessage" "Ljava/lang/String;" .null := D955 (Or.inl (w 221 rfl)) (ty := (.object "java/lang/String")) (by decide)
  have F967 : Fld Z h949 b950 "java/lang/Throwable" "backtrace" "Ljava/lang/Object;" .null := D955 (Or.inl (w 222 rfl)) (ty := (.object "java/lang/Object")) (by decide)
  have F968 : Fld Z h949 b950 "java/lang/Throwable" "depth" "I" (.int (0 : Int32)) := D955 (Or.inl (w 223 rfl)) (ty := .int) (by decide)
  show Goes p.tables e below _ (T948.setTop (mkF m 3 #[.val (.ref x), .val (.ref y)] [(.ref b950)]))
  have U969 : Unt h949 b950 := U956
  refine X952.dup (D d6_3) rfl ?_
  refine X952.new (w 37 rfl) (w 38 rfl) (w 39 rfl) (D d6_4) (by decide) (by decide) ?_
  intro T970 h971 b972 g973 X974 E975 A976 D977 U978
  have F979 := F957.ext E975
  have F980 := F958.ext E975
  have F981 := A954.ext E975
  have F982 := F963.ext E975
  have F983 := F964.ext E975
  have F984 := F965.ext E975
  have F985 := F966.ext E975
  have F986 := F967.ext E975
  have F987 := F968.ext E975
  have F988 := U969.ext E975
  have lt989 : x < b972 := by rw [g973]; exact F957.lt
  have lt990 : tx < b972 := by rw [g973]; exact F957.ltb
  have lt991 : y < b972 := by rw [g973]; exact F958.lt
  have lt992 : ty < b972 := by rw [g973]; exact F958.ltb
  have lt993 : b950 < b972 := by rw [g973]; exact A954.lt
  have F994 : Fld Z h971 b972 "java/lang/AbstractStringBuilder" "value" "[B" .null := D977 (Or.inl (w 52 rfl)) (ty := (.array .byte)) (by decide)
  have F995 : Fld Z h971 b972 "java/lang/AbstractStringBuilder" "coder" "B" (.int (0 : Int32)) := D977 (Or.inl (w 54 rfl)) (ty := .byte) (by decide)
  have F996 : Fld Z h971 b972 "java/lang/AbstractStringBuilder" "count" "I" (.int (0 : Int32)) := D977 (Or.inl (w 79 rfl)) (ty := .int) (by decide)
  show Goes p.tables e below _ (T970.setTop (mkF m 7 #[.val (.ref x), .val (.ref y)] [(.ref b972), (.ref b950), (.ref b950)]))
  refine X974.dup (D d6_7) rfl ?_
  refine X974.callcF (a := b972) [] [(.ref b972), (.ref b950), (.ref b950)] (ctSBi l Z a0 hw hEL z0 S0 hz0 b972 _ _ A976 F994 F995 F996) rfl (w 40 rfl) (w 41 rfl) (w 39 rfl) (w 42 rfl) (by decide) (by simp) (by decide) 3 (by decide) (by decide) (by decide) (lenOf pd_17 rfl) rfl (Nat.le_of_ble_eq_true rfl) (by rw [hml]; rfl) (D d6_8) ?_
  rintro T997 h998 _ _ X1000 K1001 hg1002 ⟨d, kd, rfl, rfl, E1, V1, C1, N1, A1⟩
  have F1003 := F979.keep K1001 (ninS (Nat.ne_of_lt lt989) nin0) (ninS (Nat.ne_of_lt lt990) nin0)
  have F1004 := F980.keep K1001 (ninS (Nat.ne_of_lt lt991) nin0) (ninS (Nat.ne_of_lt lt992) nin0)
  have F1005 := F981.keep K1001
  have F1006 := F982.keep K1001 (ninS (Nat.ne_of_lt lt993) nin0)
  have F1007 := F983.keep K1001 (ninS (Nat.ne_of_lt lt993) nin0)
  have F1008 := F984.keep K1001 (ninS (Nat.ne_of_lt lt993) nin0)
  have F1009 := F985.keep K1001 (ninS (Nat.ne_of_lt lt993) nin0)
  have F1010 := F986.keep K1001 (ninS (Nat.ne_of_lt lt993) nin0)
  have F1011 := F987.keep K1001 (ninS (Nat.ne_of_lt lt993) nin0)
  have F1012 := F988.keep K1001 (ninS (Nat.ne_of_lt lt993) nin0)
  have F1013 := A976.keep K1001
  have fg1014 := hg1002 d (by simp)
  have lt1015 : x < d := Nat.lt_of_lt_of_le F979.lt fg1014
  have lt1016 : tx < d := Nat.lt_of_lt_of_le F979.ltb fg1014
  have lt1017 : y < d := Nat.lt_of_lt_of_le F980.lt fg1014
  have lt1018 : ty < d := Nat.lt_of_lt_of_le F980.ltb fg1014
  have lt1019 : b950 < d := Nat.lt_of_lt_of_le F981.lt fg1014
  have lt1020 : b972 < d := Nat.lt_of_lt_of_le A976.lt fg1014
  show Goes p.tables e below _ (T997.setTop (mkF m 11 #[.val (.ref x), .val (.ref y)] [(.ref b972), (.ref b950), (.ref b950)]))
  refine X1000.ldcS (w 55 rfl) (fun d q => hw d (hwS d q)) (by decide) (vs := [(.int (67 : Int32)), (.int (97 : Int32)), (.int (110 : Int32)), (.int (110 : Int32)), (.int (111 : Int32)), (.int (116 : Int32)), (.int (32 : Int32)), (.int (114 : Int32)), (.int (117 : Int32)), (.int (110 : Int32)), (.int (32 : Int32)), (.int (116 : Int32)), (.int (104 : Int32)), (.int (101 : Int32)), (.int (32 : Int32)), (.int (113 : Int32)), (.int (117 : Int32)), (.int (101 : Int32)), (.int (114 : Int32)), (.int (121 : Int32)), (.int (32 : Int32)), (.int (39 : Int32))]) (z := (22 : Int32)) ⟨by decide, by decide⟩ (by decide) rfl (D d6_11) 88 (by decide) (by decide) (by decide) (by decide) ?_
  intro T1021 h1022 a1023 b1024 kb1025 X1026 E1027 F1028 F1029 F1030 F1031 ne1032
  have F1033 := F1003.ext E1027
  have F1034 := F1004.ext E1027
  have F1035 := F1005.ext E1027
  have F1036 := F1006.ext E1027
  have F1037 := F1007.ext E1027
  have F1038 := F1008.ext E1027
  have F1039 := F1009.ext E1027
  have F1040 := F1010.ext E1027
  have F1041 := F1011.ext E1027
  have F1042 := F1012.ext E1027
  have F1043 := E1.ext E1027
  have F1044 := V1.ext E1027
  have F1045 := C1.ext E1027
  have F1046 := N1.ext E1027
  have F1047 := A1.ext E1027
  show Goes p.tables e below _ (T1021.setTop (mkF m 13 #[.val (.ref x), .val (.ref y)] [(.ref a1023), (.ref b972), (.ref b950), (.ref b950)]))
  have O1048 : OStr Z h1022 a1023 b1024 [(67 : Int32), (97 : Int32), (110 : Int32), (110 : Int32), (111 : Int32), (116 : Int32), (32 : Int32), (114 : Int32), (117 : Int32), (110 : Int32), (32 : Int32), (116 : Int32), (104 : Int32), (101 : Int32), (32 : Int32), (113 : Int32), (117 : Int32), (101 : Int32), (114 : Int32), (121 : Int32), (32 : Int32), (39 : Int32)] := OStr.mk F1028 F1030 F1029 F1031 (by decide) (by decide)
  refine X1026.callvF (y := (⟨"java/lang/StringBuilder", "append", "(Ljava/lang/String;)Ljava/lang/StringBuilder;"⟩ : MethodName)) (z := (⟨"java/lang/StringBuilder", "append", "(Ljava/lang/String;)Ljava/lang/StringBuilder;"⟩ : MethodName)) (a := b972) (C := "java/lang/StringBuilder") [(.ref a1023)] [(.ref b950), (.ref b950)] (ctSBaG0_22_16 l Z a0 hw hEL z0 S0 hz0 b972 d a1023 b1024 kd [(67 : Int32), (97 : Int32), (110 : Int32), (110 : Int32), (111 : Int32), (116 : Int32), (32 : Int32), (114 : Int32), (117 : Int32), (110 : Int32), (32 : Int32), (116 : Int32), (104 : Int32), (101 : Int32), (32 : Int32), (113 : Int32), (117 : Int32), (101 : Int32), (114 : Int32), (121 : Int32), (32 : Int32), (39 : Int32)] ([(.int (0 : Int32)), (.int (0 : Int32)), (.int (0 : Int32)), (.int (0 : Int32)), (.int (0 : Int32)), (.int (0 : Int32)), (.int (0 : Int32)), (.int (0 : Int32)), (.int (0 : Int32)), (.int (0 : Int32)), (.int (0 : Int32)), (.int (0 : Int32)), (.int (0 : Int32)), (.int (0 : Int32)), (.int (0 : Int32)), (.int (0 : Int32))] : List Value) _ _ F1043 F1044 F1045 F1046 F1047 rfl O1048 rfl) F1043 (w 58 rfl) (w 59 rfl) (w 61 rfl) (w 60 rfl) (nfOf (w 61 rfl) rfl) (w 39 rfl) (w 62 rfl) (by decide) (by simp) (by decide) 2 (by decide) (by decide) (by decide) (lenOf pd_18 rfl) rfl (Nat.le_of_ble_eq_true rfl) (by rw [hml]; rfl) (D d6_13) ?_
  rintro T1049 h1050 _ _ X1052 K1053 hg1054 ⟨r, kr, rfl, rfl, E2, V2, C2, N2, A2⟩
  have F1055 := F1033.keep K1053 (ninS (Nat.ne_of_lt lt989) nin0) (ninS (Nat.ne_of_lt lt990) nin0)
  have F1056 := F1034.keep K1053 (ninS (Nat.ne_of_lt lt991) nin0) (ninS (Nat.ne_of_lt lt992) nin0)
  have F1057 := F1035.keep K1053
  have F1058 := F1036.keep K1053 (ninS (Nat.ne_of_lt lt993) nin0)
  have F1059 := F1037.keep K1053 (ninS (Nat.ne_of_lt lt993) nin0)
  have F1060 := F1038.keep K1053 (ninS (Nat.ne_of_lt lt993) nin0)
  have F1061 := F1039.keep K1053 (ninS (Nat.ne_of_lt lt993) nin0)
  have F1062 := F1040.keep K1053 (ninS (Nat.ne_of_lt lt993) nin0)
  have F1063 := F1041.keep K1053 (ninS (Nat.ne_of_lt lt993) nin0)
  have F1064 := F1042.keep K1053 (ninS (Nat.ne_of_lt lt993) nin0)
  have F1065 := F1043.keep K1053
  have F1066 := F1047.keep K1053 (ninS (Nat.ne_of_gt lt1020) nin0)
  have F1067 := O1048.keep K1053 (ninS (ne1032 b972 (by simp)).1.symm nin0) (ninS (ne1032 b972 (by simp)).2.symm nin0)
  have fg1068 := hg1054 r (by simp)
  have lt1069 : x < r := Nat.lt_of_lt_of_le F1033.lt fg1068
  have lt1070 : tx < r := Nat.lt_of_lt_of_le F1033.ltb fg1068
  have lt1071 : y < r := Nat.lt_of_lt_of_le F1034.lt fg1068
  have lt1072 : ty < r := Nat.lt_of_lt_of_le F1034.ltb fg1068
  have lt1073 : b950 < r := Nat.lt_of_lt_of_le F1035.lt fg1068
  have lt1074 : b972 < r := Nat.lt_of_lt_of_le F1043.lt fg1068
  have lt1075 : d < r := Nat.lt_of_lt_of_le F1047.lt fg1068
  have lt1076 : a1023 < r := Nat.lt_of_lt_of_le O1048.lt fg1068
  have lt1077 : b1024 < r := Nat.lt_of_lt_of_le O1048.ltb fg1068
  show Goes p.tables e below _ (T1049.setTop (mkF m 16 #[.val (.ref x), .val (.ref y)] [(.ref b972), (.ref b950), (.ref b950)]))
  refine X1052.aloadN (x := (.ref x)) (D d6_16) rfl rfl ?_
  refine X1052.callvF (y := (⟨"java/lang/StringBuilder", "append", "(Ljava/lang/String;)Ljava/lang/StringBuilder;"⟩ : MethodName)) (z := (⟨"java/lang/StringBuilder", "append", "(Ljava/lang/String;)Ljava/lang/StringBuilder;"⟩ : MethodName)) (a := b972) (C := "java/lang/StringBuilder") [(.ref x)] [(.ref b950), (.ref b950)] (ctSBa22_2_34 l Z a0 hw hEL z0 S0 hz0 b972 r x tx kr [q0, q1] ((([(.int (0 : Int32)), (.int (0 : Int32)), (.int (0 : Int32)), (.int (0 : Int32)), (.int (0 : Int32)), (.int (0 : Int32)), (.int (0 : Int32)), (.int (0 : Int32)), (.int (0 : Int32)), (.int (0 : Int32)), (.int (0 : Int32)), (.int (0 : Int32)), (.int (0 : Int32)), (.int (0 : Int32)), (.int (0 : Int32)), (.int (0 : Int32))] : List Value) ++ ([(.int (0 : Int32)), (.int (0 : Int32)), (.int (0 : Int32)), (.int (0 : Int32)), (.int (0 : Int32)), (.int (0 : Int32)), (.int (0 : Int32)), (.int (0 : Int32)), (.int (0 : Int32)), (.int (0 : Int32)), (.int (0 : Int32)), (.int (0 : Int32)), (.int (0 : Int32)), (.int (0 : Int32)), (.int (0 : Int32)), (.int (0 : Int32)), (.int (0 : Int32)), (.int (0 : Int32))] : List Value)).take 0 ++ (([(67 : Int32), (97 : Int32), (110 : Int32), (110 : Int32), (111 : Int32), (116 : Int32), (32 : Int32), (114 : Int32), (117 : Int32), (110 : Int32), (32 : Int32), (116 : Int32), (104 : Int32), (101 : Int32), (32 : Int32), (113 : Int32), (117 : Int32), (101 : Int32), (114 : Int32), (121 : Int32), (32 : Int32), (39 : Int32)].map StrChars.lo8).map Value.int) ++ (([(.int (0 : Int32)), (.int (0 : Int32)), (.int (0 : Int32)), (.int (0 : Int32)), (.int (0 : Int32)), (.int (0 : Int32)), (.int (0 : Int32)), (.int (0 : Int32)), (.int (0 : Int32)), (.int (0 : Int32)), (.int (0 : Int32)), (.int (0 : Int32)), (.int (0 : Int32)), (.int (0 : Int32)), (.int (0 : Int32)), (.int (0 : Int32))] : List Value) ++ ([(.int (0 : Int32)), (.int (0 : Int32)), (.int (0 : Int32)), (.int (0 : Int32)), (.int (0 : Int32)), (.int (0 : Int32)), (.int (0 : Int32)), (.int (0 : Int32)), (.int (0 : Int32)), (.int (0 : Int32)), (.int (0 : Int32)), (.int (0 : Int32)), (.int (0 : Int32)), (.int (0 : Int32)), (.int (0 : Int32)), (.int (0 : Int32)), (.int (0 : Int32)), (.int (0 : Int32))] : List Value)).drop (0 + 22)) _ _ E2 V2 C2 N2 A2 rfl F1055 rfl (Nat.ne_of_lt lt1070)).toF E2 (w 58 rfl) (w 59 rfl) (w 61 rfl) (w 60 rfl) (nfOf (w 61 rfl) rfl) (w 39 rfl) (w 62 rfl) (by decide) (by simp) (by decide) 2 (by decide) (by decide) (by decide) (lenOf pd_18 rfl) rfl (Nat.le_of_ble_eq_true rfl) (by rw [hml]; rfl) (D d6_17) ?_
  rintro T1078 h1079 _ _ X1081 K1082 hg1083 ⟨rfl, rfl, E3, V3, C3, N3, A3⟩
  have F1084 := F1055.keep K1082 (ninS (Nat.ne_of_lt lt989) (ninS (Nat.ne_of_lt lt1069) nin0)) (ninS (Nat.ne_of_lt lt990) (ninS (Nat.ne_of_lt lt1070) nin0))
  have F1085 := F1056.keep K1082 (ninS (Nat.ne_of_lt lt991) (ninS (Nat.ne_of_lt lt1071) nin0)) (ninS (Nat.ne_of_lt lt992) (ninS (Nat.ne_of_lt lt1072) nin0))
  have F1086 := F1057.keep K1082
  have F1087 := F1058.keep K1082 (ninS (Nat.ne_of_lt lt993) (ninS (Nat.ne_of_lt lt1073) nin0))
  have F1088 := F1059.keep K1082 (ninS (Nat.ne_of_lt lt993) (ninS (Nat.ne_of_lt lt1073) nin0))
  have F1089 := F1060.keep K1082 (ninS (Nat.ne_of_lt lt993) (ninS (Nat.ne_of_lt lt1073) nin0))
  have F1090 := F1061.keep K1082 (ninS (Nat.ne_of_lt lt993) (ninS (Nat.ne_of_lt lt1073) nin0))
  have F1091 := F1062.keep K1082 (ninS (Nat.ne_of_lt lt993) (ninS (Nat.ne_of_lt lt1073) nin0))
  have F1092 := F1063.keep K1082 (ninS (Nat.ne_of_lt lt993) (ninS (Nat.ne_of_lt lt1073) nin0))
  have F1093 := F1064.keep K1082 (ninS (Nat.ne_of_lt lt993) (ninS (Nat.ne_of_lt lt1073) nin0))
  have F1094 := E2.keep K1082
  have F1095 := F1067.keep K1082 (ninS (ne1032 b972 (by simp)).1.symm (ninS (Nat.ne_of_lt lt1076) nin0)) (ninS (ne1032 b972 (by simp)).2.symm (ninS (Nat.ne_of_lt lt1077) nin0))
  show Goes p.tables e below _ (T1078.setTop (mkF m 20 #[.val (.ref x), .val (.ref y)] [(.ref b972), (.ref b950), (.ref b950)]))
  refine X1081.ldcS (w 128 rfl) (fun d q => hw d (hwS d q)) (by decide) (vs := [(.int (39 : Int32)), (.int (58 : Int32)), (.int (32 : Int32))]) (z := (3 : Int32)) ⟨by decide, by decide⟩ (by decide) rfl (D d6_20) 12 (by decide) (by decide) (by decide) (by decide) ?_
  intro T1096 h1097 a1098 b1099 kb1100 X1101 E1102 F1103 F1104 F1105 F1106 ne1107
  have F1108 := F1084.ext E1102
  have F1109 := F1085.ext E1102
  have F1110 := F1086.ext E1102
  have F1111 := F1087.ext E1102
  have F1112 := F1088.ext E1102
  have F1113 := F1089.ext E1102
  have F1114 := F1090.ext E1102
  have F1115 := F1091.ext E1102
  have F1116 := F1092.ext E1102
  have F1117 := F1093.ext E1102
  have F1118 := E3.ext E1102
  have F1119 := F1095.ext E1102
  have F1120 := V3.ext E1102
  have F1121 := C3.ext E1102
  have F1122 := N3.ext E1102
  have F1123 := A3.ext E1102
  show Goes p.tables e below _ (T1096.setTop (mkF m 22 #[.val (.ref x), .val (.ref y)] [(.ref a1098), (.ref b972), (.ref b950), (.ref b950)]))
  have O1124 : OStr Z h1097 a1098 b1099 [(39 : Int32), (58 : Int32), (32 : Int32)] := OStr.mk F1103 F1105 F1104 F1106 (by decide) (by decide)
  refine X1101.callvF (y := (⟨"java/lang/StringBuilder", "append", "(Ljava/lang/String;)Ljava/lang/StringBuilder;"⟩ : MethodName)) (z := (⟨"java/lang/StringBuilder", "append", "(Ljava/lang/String;)Ljava/lang/StringBuilder;"⟩ : MethodName)) (a := b972) (C := "java/lang/StringBuilder") [(.ref a1098)] [(.ref b950), (.ref b950)] (ctSBa24_3_34 l Z a0 hw hEL z0 S0 hz0 b972 r a1098 b1099 kr [(39 : Int32), (58 : Int32), (32 : Int32)] (((([(.int (0 : Int32)), (.int (0 : Int32)), (.int (0 : Int32)), (.int (0 : Int32)), (.int (0 : Int32)), (.int (0 : Int32)), (.int (0 : Int32)), (.int (0 : Int32)), (.int (0 : Int32)), (.int (0 : Int32)), (.int (0 : Int32)), (.int (0 : Int32)), (.int (0 : Int32)), (.int (0 : Int32)), (.int (0 : Int32)), (.int (0 : Int32))] : List Value) ++ ([(.int (0 : Int32)), (.int (0 : Int32)), (.int (0 : Int32)), (.int (0 : Int32)), (.int (0 : Int32)), (.int (0 : Int32)), (.int (0 : Int32)), (.int (0 : Int32)), (.int (0 : Int32)), (.int (0 : Int32)), (.int (0 : Int32)), (.int (0 : Int32)), (.int (0 : Int32)), (.int (0 : Int32)), (.int (0 : Int32)), (.int (0 : Int32)), (.int (0 : Int32)), (.int (0 : Int32))] : List Value)).take 0 ++ (([(67 : Int32), (97 : Int32), (110 : Int32), (110 : Int32), (111 : Int32), (116 : Int32), (32 : Int32), (114 : Int32), (117 : Int32), (110 : Int32), (32 : Int32), (116 : Int32), (104 : Int32), (101 : Int32), (32 : Int32), (113 : Int32), (117 : Int32), (101 : Int32), (114 : Int32), (121 : Int32), (32 : Int32), (39 : Int32)].map StrChars.lo8).map Value.int) ++ (([(.int (0 : Int32)), (.int (0 : Int32)), (.int (0 : Int32)), (.int (0 : Int32)), (.int (0 : Int32)), (.int (0 : Int32)), (.int (0 : Int32)), (.int (0 : Int32)), (.int (0 : Int32)), (.int (0 : Int32)), (.int (0 : Int32)), (.int (0 : Int32)), (.int (0 : Int32)), (.int (0 : Int32)), (.int (0 : Int32)), (.int (0 : Int32))] : List Value) ++ ([(.int (0 : Int32)), (.int (0 : Int32)), (.int (0 : Int32)), (.int (0 : Int32)), (.int (0 : Int32)), (.int (0 : Int32)), (.int (0 : Int32)), (.int (0 : Int32)), (.int (0 : Int32)), (.int (0 : Int32)), (.int (0 : Int32)), (.int (0 : Int32)), (.int (0 : Int32)), (.int (0 : Int32)), (.int (0 : Int32)), (.int (0 : Int32)), (.int (0 : Int32)), (.int (0 : Int32))] : List Value)).drop (0 + 22)).take 22 ++ (([q0, q1].map StrChars.lo8).map Value.int) ++ ((([(.int (0 : Int32)), (.int (0 : Int32)), (.int (0 : Int32)), (.int (0 : Int32)), (.int (0 : Int32)), (.int (0 : Int32)), (.int (0 : Int32)), (.int (0 : Int32)), (.int (0 : Int32)), (.int (0 : Int32)), (.int (0 : Int32)), (.int (0 : Int32)), (.int (0 : Int32)), (.int (0 : Int32)), (.int (0 : Int32)), (.int (0 : Int32))] : List Value) ++ ([(.int (0 : Int32)), (.int (0 : Int32)), (.int (0 : Int32)), (.int (0 : Int32)), (.int (0 : Int32)), (.int (0 : Int32)), (.int (0 : Int32)), (.int (0 : Int32)), (.int (0 : Int32)), (.int (0 : Int32)), (.int (0 : Int32)), (.int (0 : Int32)), (.int (0 : Int32)), (.int (0 : Int32)), (.int (0 : Int32)), (.int (0 : Int32)), (.int (0 : Int32)), (.int (0 : Int32))] : List Value)).take 0 ++ (([(67 : Int32), (97 : Int32), (110 : Int32), (110 : Int32), (111 : Int32), (116 : Int32), (32 : Int32), (114 : Int32), (117 : Int32), (110 : Int32), (32 : Int32), (116 : Int32), (104 : Int32), (101 : Int32), (32 : Int32), (113 : Int32), (117 : Int32), (101 : Int32), (114 : Int32), (121 : Int32), (32 : Int32), (39 : Int32)].map StrChars.lo8).map Value.int) ++ (([(.int (0 : Int32)), (.int (0 : Int32)), (.int (0 : Int32)), (.int (0 : Int32)), (.int (0 : Int32)), (.int (0 : Int32)), (.int (0 : Int32)), (.int (0 : Int32)), (.int (0 : Int32)), (.int (0 : Int32)), (.int (0 : Int32)), (.int (0 : Int32)), (.int (0 : Int32)), (.int (0 : Int32)), (.int (0 : Int32)), (.int (0 : Int32))] : List Value) ++ ([(.int (0 : Int32)), (.int (0 : Int32)), (.int (0 : Int32)), (.int (0 : Int32)), (.int (0 : Int32)), (.int (0 : Int32)), (.int (0 : Int32)), (.int (0 : Int32)), (.int (0 : Int32)), (.int (0 : Int32)), (.int (0 : Int32)), (.int (0 : Int32)), (.int (0 : Int32)), (.int (0 : Int32)), (.int (0 : Int32)), (.int (0 : Int32)), (.int (0 : Int32)), (.int (0 : Int32))] : List Value)).drop (0 + 22)).drop (22 + 2)) _ _ F1118 F1120 F1121 F1122 F1123 rfl O1124 rfl (ne1107 r (by simp)).2.symm).toF F1118 (w 58 rfl) (w 59 rfl) (w 61 rfl) (w 60 rfl) (nfOf (w 61 rfl) rfl) (w 39 rfl) (w 62 rfl) (by decide) (by simp) (by decide) 2 (by decide) (by decide) (by decide) (lenOf pd_18 rfl) rfl (Nat.le_of_ble_eq_true rfl) (by rw [hml]; rfl) (D d6_22) ?_
  rintro T1125 h1126 _ _ X1128 K1129 hg1130 ⟨rfl, rfl, E4, V4, C4, N4, A4⟩
  have F1131 := F1108.keep K1129 (ninS (Nat.ne_of_lt lt989) (ninS (Nat.ne_of_lt lt1069) nin0)) (ninS (Nat.ne_of_lt lt990) (ninS (Nat.ne_of_lt lt1070) nin0))
  have F1132 := F1109.keep K1129 (ninS (Nat.ne_of_lt lt991) (ninS (Nat.ne_of_lt lt1071) nin0)) (ninS (Nat.ne_of_lt lt992) (ninS (Nat.ne_of_lt lt1072) nin0))
  have F1133 := F1110.keep K1129
  have F1134 := F1111.keep K1129 (ninS (Nat.ne_of_lt lt993) (ninS (Nat.ne_of_lt lt1073) nin0))
  have F1135 := F1112.keep K1129 (ninS (Nat.ne_of_lt lt993) (ninS (Nat.ne_of_lt lt1073) nin0))
  have F1136 := F1113.keep K1129 (ninS (Nat.ne_of_lt lt993) (ninS (Nat.ne_of_lt lt1073) nin0))
  have F1137 := F1114.keep K1129 (ninS (Nat.ne_of_lt lt993) (ninS (Nat.ne_of_lt lt1073) nin0))
  have F1138 := F1115.keep K1129 (ninS (Nat.ne_of_lt lt993) (ninS (Nat.ne_of_lt lt1073) nin0))
  have F1139 := F1116.keep K1129 (ninS (Nat.ne_of_lt lt993) (ninS (Nat.ne_of_lt lt1073) nin0))
  have F1140 := F1117.keep K1129 (ninS (Nat.ne_of_lt lt993) (ninS (Nat.ne_of_lt lt1073) nin0))
  have F1141 := F1118.keep K1129
  have F1142 := F1119.keep K1129 (ninS (ne1032 b972 (by simp)).1.symm (ninS (Nat.ne_of_lt lt1076) nin0)) (ninS (ne1032 b972 (by simp)).2.symm (ninS (Nat.ne_of_lt lt1077) nin0))
  have F1143 := O1124.keep K1129 (ninS (ne1107 b972 (by simp)).1.symm (ninS (ne1107 r (by simp)).1.symm nin0)) (ninS (ne1107 b972 (by simp)).2.symm (ninS (ne1107 r (by simp)).2.symm nin0))
  show Goes p.tables e below _ (T1125.setTop (mkF m 25 #[.val (.ref x), .val (.ref y)] [(.ref b972), (.ref b950), (.ref b950)]))
  refine X1128.aloadN (x := (.ref y)) (D d6_25) rfl rfl ?_
  refine X1128.callvF (y := (⟨"java/lang/StringBuilder", "append", "(Ljava/lang/String;)Ljava/lang/StringBuilder;"⟩ : MethodName)) (z := (⟨"java/lang/StringBuilder", "append", "(Ljava/lang/String;)Ljava/lang/StringBuilder;"⟩ : MethodName)) (a := b972) (C := "java/lang/StringBuilder") [(.ref y)] [(.ref b950), (.ref b950)] (ctSBa27_2_34 l Z a0 hw hEL z0 S0 hz0 b972 r y ty kr [r0, r1] ((((([(.int (0 : Int32)), (.int (0 : Int32)), (.int (0 : Int32)), (.int (0 : Int32)), (.int (0 : Int32)), (.int (0 : Int32)), (.int (0 : Int32)), (.int (0 : Int32)), (.int (0 : Int32)), (.int (0 : Int32)), (.int (0 : Int32)), (.int (0 : Int32)), (.int (0 : Int32)), (.int (0 : Int32)), (.int (0 : Int32)), (.int (0 : Int32))] : List Value) ++ ([(.int (0 : Int32)), (.int (0 : Int32)), (.int (0 : Int32)), (.int (0 : Int32)), (.int (0 : Int32)), (.int (0 : Int32)), (.int (0 : Int32)), (.int (0 : Int32)), (.int (0 : Int32)), (.int (0 : Int32)), (.int (0 : Int32)), (.int (0 : Int32)), (.int (0 : Int32)), (.int (0 : Int32)), (.int (0 : Int32)), (.int (0 : Int32)), (.int (0 : Int32)), (.int (0 : Int32))] : List Value)).take 0 ++ (([(67 : Int32), (97 : Int32), (110 : Int32), (110 : Int32), (111 : Int32), (116 : Int32), (32 : Int32), (114 : Int32), (117 : Int32), (110 : Int32), (32 : Int32), (116 : Int32), (104 : Int32), (101 : Int32), (32 : Int32), (113 : Int32), (117 : Int32), (101 : Int32), (114 : Int32), (121 : Int32), (32 : Int32), (39 : Int32)].map StrChars.lo8).map Value.int) ++ (([(.int (0 : Int32)), (.int (0 : Int32)), (.int (0 : Int32)), (.int (0 : Int32)), (.int (0 : Int32)), (.int (0 : Int32)), (.int (0 : Int32)), (.int (0 : Int32)), (.int (0 : Int32)), (.int (0 : Int32)), (.int (0 : Int32)), (.int (0 : Int32)), (.int (0 : Int32)), (.int (0 : Int32)), (.int (0 : Int32)), (.int (0 : Int32))] : List Value) ++ ([(.int (0 : Int32)), (.int (0 : Int32)), (.int (0 : Int32)), (.int (0 : Int32)), (.int (0 : Int32)), (.int (0 : Int32)), (.int (0 : Int32)), (.int (0 : Int32)), (.int (0 : Int32)), (.int (0 : Int32)), (.int (0 : Int32)), (.int (0 : Int32)), (.int (0 : Int32)), (.int (0 : Int32)), (.int (0 : Int32)), (.int (0 : Int32)), (.int (0 : Int32)), (.int (0 : Int32))] : List Value)).drop (0 + 22)).take 22 ++ (([q0, q1].map StrChars.lo8).map Value.int) ++ ((([(.int (0 : Int32)), (.int (0 : Int32)), (.int (0 : Int32)), (.int (0 : Int32)), (.int (0 : Int32)), (.int (0 : Int32)), (.int (0 : Int32)), (.int (0 : Int32)), (.int (0 : Int32)), (.int (0 : Int32)), (.int (0 : Int32)), (.int (0 : Int32)), (.int (0 : Int32)), (.int (0 : Int32)), (.int (0 : Int32)), (.int (0 : Int32))] : List Value) ++ ([(.int (0 : Int32)), (.int (0 : Int32)), (.int (0 : Int32)), (.int (0 : Int32)), (.int (0 : Int32)), (.int (0 : Int32)), (.int (0 : Int32)), (.int (0 : Int32)), (.int (0 : Int32)), (.int (0 : Int32)), (.int (0 : Int32)), (.int (0 : Int32)), (.int (0 : Int32)), (.int (0 : Int32)), (.int (0 : Int32)), (.int (0 : Int32)), (.int (0 : Int32)), (.int (0 : Int32))] : List Value)).take 0 ++ (([(67 : Int32), (97 : Int32), (110 : Int32), (110 : Int32), (111 : Int32), (116 : Int32), (32 : Int32), (114 : Int32), (117 : Int32), (110 : Int32), (32 : Int32), (116 : Int32), (104 : Int32), (101 : Int32), (32 : Int32), (113 : Int32), (117 : Int32), (101 : Int32), (114 : Int32), (121 : Int32), (32 : Int32), (39 : Int32)].map StrChars.lo8).map Value.int) ++ (([(.int (0 : Int32)), (.int (0 : Int32)), (.int (0 : Int32)), (.int (0 : Int32)), (.int (0 : Int32)), (.int (0 : Int32)), (.int (0 : Int32)), (.int (0 : Int32)), (.int (0 : Int32)), (.int (0 : Int32)), (.int (0 : Int32)), (.int (0 : Int32)), (.int (0 : Int32)), (.int (0 : Int32)), (.int (0 : Int32)), (.int (0 : Int32))] : List Value) ++ ([(.int (0 : Int32)), (.int (0 : Int32)), (.int (0 : Int32)), (.int (0 : Int32)), (.int (0 : Int32)), (.int (0 : Int32)), (.int (0 : Int32)), (.int (0 : Int32)), (.int (0 : Int32)), (.int (0 : Int32)), (.int (0 : Int32)), (.int (0 : Int32)), (.int (0 : Int32)), (.int (0 : Int32)), (.int (0 : Int32)), (.int (0 : Int32)), (.int (0 : Int32)), (.int (0 : Int32))] : List Value)).drop (0 + 22)).drop (22 + 2)).take 24 ++ (([(39 : Int32), (58 : Int32), (32 : Int32)].map StrChars.lo8).map Value.int) ++ (((([(.int (0 : Int32)), (.int (0 : Int32)), (.int (0 : Int32)), (.int (0 : Int32)), (.int (0 : Int32)), (.int (0 : Int32)), (.int (0 : Int32)), (.int (0 : Int32)), (.int (0 : Int32)), (.int (0 : Int32)), (.int (0 : Int32)), (.int (0 : Int32)), (.int (0 : Int32)), (.int (0 : Int32)), (.int (0 : Int32)), (.int (0 : Int32))] : List Value) ++ ([(.int (0 : Int32)), (.int (0 : Int32)), (.int (0 : Int32)), (.int (0 : Int32)), (.int (0 : Int32)), (.int (0 : Int32)), (.int (0 : Int32)), (.int (0 : Int32)), (.int (0 : Int32)), (.int (0 : Int32)), (.int (0 : Int32)), (.int (0 : Int32)), (.int (0 : Int32)), (.int (0 : Int32)), (.int (0 : Int32)), (.int (0 : Int32)), (.int (0 : Int32)), (.int (0 : Int32))] : List Value)).take 0 ++ (([(67 : Int32), (97 : Int32), (110 : Int32), (110 : Int32), (111 : Int32), (116 : Int32), (32 : Int32), (114 : Int32), (117 : Int32), (110 : Int32), (32 : Int32), (116 : Int32), (104 : Int32), (101 : Int32), (32 : Int32), (113 : Int32), (117 : Int32), (101 : Int32), (114 : Int32), (121 : Int32), (32 : Int32), (39 : Int32)].map StrChars.lo8).map Value.int) ++ (([(.int (0 : Int32)), (.int (0 : Int32)), (.int (0 : Int32)), (.int (0 : Int32)), (.int (0 : Int32)), (.int (0 : Int32)), (.int (0 : Int32)), (.int (0 : Int32)), (.int (0 : Int32)), (.int (0 : Int32)), (.int (0 : Int32)), (.int (0 : Int32)), (.int (0 : Int32)), (.int (0 : Int32)), (.int (0 : Int32)), (.int (0 : Int32))] : List Value) ++ ([(.int (0 : Int32)), (.int (0 : Int32)), (.int (0 : Int32)), (.int (0 : Int32)), (.int (0 : Int32)), (.int (0 : Int32)), (.int (0 : Int32)), (.int (0 : Int32)), (.int (0 : Int32)), (.int (0 : Int32)), (.int (0 : Int32)), (.int (0 : Int32)), (.int (0 : Int32)), (.int (0 : Int32)), (.int (0 : Int32)), (.int (0 : Int32)), (.int (0 : Int32)), (.int (0 : Int32))] : List Value)).drop (0 + 22)).take 22 ++ (([q0, q1].map StrChars.lo8).map Value.int) ++ ((([(.int (0 : Int32)), (.int (0 : Int32)), (.int (0 : Int32)), (.int (0 : Int32)), (.int (0 : Int32)), (.int (0 : Int32)), (.int (0 : Int32)), (.int (0 : Int32)), (.int (0 : Int32)), (.int (0 : Int32)), (.int (0 : Int32)), (.int (0 : Int32)), (.int (0 : Int32)), (.int (0 : Int32)), (.int (0 : Int32)), (.int (0 : Int32))] : List Value) ++ ([(.int (0 : Int32)), (.int (0 : Int32)), (.int (0 : Int32)), (.int (0 : Int32)), (.int (0 : Int32)), (.int (0 : Int32)), (.int (0 : Int32)), (.int (0 : Int32)), (.int (0 : Int32)), (.int (0 : Int32)), (.int (0 : Int32)), (.int (0 : Int32)), (.int (0 : Int32)), (.int (0 : Int32)), (.int (0 : Int32)), (.int (0 : Int32)), (.int (0 : Int32)), (.int (0 : Int32))] : List Value)).take 0 ++ (([(67 : Int32), (97 : Int32), (110 : Int32), (110 : Int32), (111 : Int32), (116 : Int32), (32 : Int32), (114 : Int32), (117 : Int32), (110 : Int32), (32 : Int32), (116 : Int32), (104 : Int32), (101 : Int32), (32 : Int32), (113 : Int32), (117 : Int32), (101 : Int32), (114 : Int32), (121 : Int32), (32 : Int32), (39 : Int32)].map StrChars.lo8).map Value.int) ++ (([(.int (0 : Int32)), (.int (0 : Int32)), (.int (0 : Int32)), (.int (0 : Int32)), (.int (0 : Int32)), (.int (0 : Int32)), (.int (0 : Int32)), (.int (0 : Int32)), (.int (0 : Int32)), (.int (0 : Int32)), (.int (0 : Int32)), (.int (0 : Int32)), (.int (0 : Int32)), (.int (0 : Int32)), (.int (0 : Int32)), (.int (0 : Int32))] : List Value) ++ ([(.int (0 : Int32)), (.int (0 : Int32)), (.int (0 : Int32)), (.int (0 : Int32)), (.int (0 : Int32)), (.int (0 : Int32)), (.int (0 : Int32)), (.int (0 : Int32)), (.int (0 : Int32)), (.int (0 : Int32)), (.int (0 : Int32)), (.int (0 : Int32)), (.int (0 : Int32)), (.int (0 : Int32)), (.int (0 : Int32)), (.int (0 : Int32)), (.int (0 : Int32)), (.int (0 : Int32))] : List Value)).drop (0 + 22)).drop (22 + 2)).drop (24 + 3)) _ _ E4 V4 C4 N4 A4 rfl F1132 rfl (Nat.ne_of_lt lt1072)).toF E4 (w 58 rfl) (w 59 rfl) (w 61 rfl) (w 60 rfl) (nfOf (w 61 rfl) rfl) (w 39 rfl) (w 62 rfl) (by decide) (by simp) (by decide) 2 (by decide) (by decide) (by decide) (lenOf pd_18 rfl) rfl (Nat.le_of_ble_eq_true rfl) (by rw [hml]; rfl) (D d6_26) ?_
  rintro T1144 h1145 _ _ X1147 K1148 hg1149 ⟨rfl, rfl, E5, V5, C5, N5, A5⟩
  have F1150 := F1131.keep K1148 (ninS (Nat.ne_of_lt lt989) (ninS (Nat.ne_of_lt lt1069) nin0)) (ninS (Nat.ne_of_lt lt990) (ninS (Nat.ne_of_lt lt1070) nin0))
  have F1151 := F1132.keep K1148 (ninS (Nat.ne_of_lt lt991) (ninS (Nat.ne_of_lt lt1071) nin0)) (ninS (Nat.ne_of_lt lt992) (ninS (Nat.ne_of_lt lt1072) nin0))
  have F1152 := F1133.keep K1148
  have F1153 := F1134.keep K1148 (ninS (Nat.ne_of_lt lt993) (ninS (Nat.ne_of_lt lt1073) nin0))
  have F1154 := F1135.keep K1148 (ninS (Nat.ne_of_lt lt993) (ninS (Nat.ne_of_lt lt1073) nin0))
  have F1155 := F1136.keep K1148 (ninS (Nat.ne_of_lt lt993) (ninS (Nat.ne_of_lt lt1073) nin0))
  have F1156 := F1137.keep K1148 (ninS (Nat.ne_of_lt lt993) (ninS (Nat.ne_of_lt lt1073) nin0))
  have F1157 := F1138.keep K1148 (ninS (Nat.ne_of_lt lt993) (ninS (Nat.ne_of_lt lt1073) nin0))
  have F1158 := F1139.keep K1148 (ninS (Nat.ne_of_lt lt993) (ninS (Nat.ne_of_lt lt1073) nin0))
  have F1159 := F1140.keep K1148 (ninS (Nat.ne_of_lt lt993) (ninS (Nat.ne_of_lt lt1073) nin0))
  have F1160 := E4.keep K1148
  have F1161 := F1142.keep K1148 (ninS (ne1032 b972 (by simp)).1.symm (ninS (Nat.ne_of_lt lt1076) nin0)) (ninS (ne1032 b972 (by simp)).2.symm (ninS (Nat.ne_of_lt lt1077) nin0))
  have F1162 := F1143.keep K1148 (ninS (ne1107 b972 (by simp)).1.symm (ninS (ne1107 r (by simp)).1.symm nin0)) (ninS (ne1107 b972 (by simp)).2.symm (ninS (ne1107 r (by simp)).2.symm nin0))
  show Goes p.tables e below _ (T1144.setTop (mkF m 29 #[.val (.ref x), .val (.ref y)] [(.ref b972), (.ref b950), (.ref b950)]))
  have hpr : ∀ c ∈ ([(67 : Int32), (97 : Int32), (110 : Int32), (110 : Int32), (111 : Int32), (116 : Int32), (32 : Int32), (114 : Int32), (117 : Int32), (110 : Int32), (32 : Int32), (116 : Int32), (104 : Int32), (101 : Int32), (32 : Int32), (113 : Int32), (117 : Int32), (101 : Int32), (114 : Int32), (121 : Int32), (32 : Int32), (39 : Int32)] ++ [q0, q1] ++ [(39 : Int32), (58 : Int32), (32 : Int32)] ++ [r0, r1]), ¬ c < 0 ∧ ¬ (255 : Int32) < c := fun c q => by
    rcases List.mem_append.mp q with q | q
    · rcases List.mem_append.mp q with q | q
      · rcases List.mem_append.mp q with q | q
        · exact (by decide : ∀ c ∈ ([(67 : Int32), (97 : Int32), (110 : Int32), (110 : Int32), (111 : Int32), (116 : Int32), (32 : Int32), (114 : Int32), (117 : Int32), (110 : Int32), (32 : Int32), (116 : Int32), (104 : Int32), (101 : Int32), (32 : Int32), (113 : Int32), (117 : Int32), (101 : Int32), (114 : Int32), (121 : Int32), (32 : Int32), (39 : Int32)] : List Int32), ¬ c < 0 ∧ ¬ (255 : Int32) < c) c q
        · exact OX.2.1 c q
      · exact (by decide : ∀ c ∈ ([(39 : Int32), (58 : Int32), (32 : Int32)] : List Int32), ¬ c < 0 ∧ ¬ (255 : Int32) < c) c q
    · exact OY.2.1 c q
  refine X1147.callvF (y := (⟨"java/lang/StringBuilder", "toString", "()Ljava/lang/String;"⟩ : MethodName)) (z := (⟨"java/lang/StringBuilder", "toString", "()Ljava/lang/String;"⟩ : MethodName)) (a := b972) (C := "java/lang/StringBuilder") [] [(.ref b950), (.ref b950)] (ctTS29_34 l Z a0 hw hEL z0 S0 hz0 b972 r kr (((((([(.int (0 : Int32)), (.int (0 : Int32)), (.int (0 : Int32)), (.int (0 : Int32)), (.int (0 : Int32)), (.int (0 : Int32)), (.int (0 : Int32)), (.int (0 : Int32)), (.int (0 : Int32)), (.int (0 : Int32)), (.int (0 : Int32)), (.int (0 : Int32)), (.int (0 : Int32)), (.int (0 : Int32)), (.int (0 : Int32)), (.int (0 : Int32))] : List Value) ++ ([(.int (0 : Int32)), (.int (0 : Int32)), (.int (0 : Int32)), (.int (0 : Int32)), (.int (0 : Int32)), (.int (0 : Int32)), (.int (0 : Int32)), (.int (0 : Int32)), (.int (0 : Int32)), (.int (0 : Int32)), (.int (0 : Int32)), (.int (0 : Int32)), (.int (0 : Int32)), (.int (0 : Int32)), (.int (0 : Int32)), (.int (0 : Int32)), (.int (0 : Int32)), (.int (0 : Int32))] : List Value)).take 0 ++ (([(67 : Int32), (97 : Int32), (110 : Int32), (110 : Int32), (111 : Int32), (116 : Int32), (32 : Int32), (114 : Int32), (117 : Int32), (110 : Int32), (32 : Int32), (116 : Int32), (104 : Int32), (101 : Int32), (32 : Int32), (113 : Int32), (117 : Int32), (101 : Int32), (114 : Int32), (121 : Int32), (32 : Int32), (39 : Int32)].map StrChars.lo8).map Value.int) ++ (([(.int (0 : Int32)), (.int (0 : Int32)), (.int (0 : Int32)), (.int (0 : Int32)), (.int (0 : Int32)), (.int (0 : Int32)), (.int (0 : Int32)), (.int (0 : Int32)), (.int (0 : Int32)), (.int (0 : Int32)), (.int (0 : Int32)), (.int (0 : Int32)), (.int (0 : Int32)), (.int (0 : Int32)), (.int (0 : Int32)), (.int (0 : Int32))] : List Value) ++ ([(.int (0 : Int32)), (.int (0 : Int32)), (.int (0 : Int32)), (.int (0 : Int32)), (.int (0 : Int32)), (.int (0 : Int32)), (.int (0 : Int32)), (.int (0 : Int32)), (.int (0 : Int32)), (.int (0 : Int32)), (.int (0 : Int32)), (.int (0 : Int32)), (.int (0 : Int32)), (.int (0 : Int32)), (.int (0 : Int32)), (.int (0 : Int32)), (.int (0 : Int32)), (.int (0 : Int32))] : List Value)).drop (0 + 22)).take 22 ++ (([q0, q1].map StrChars.lo8).map Value.int) ++ ((([(.int (0 : Int32)), (.int (0 : Int32)), (.int (0 : Int32)), (.int (0 : Int32)), (.int (0 : Int32)), (.int (0 : Int32)), (.int (0 : Int32)), (.int (0 : Int32)), (.int (0 : Int32)), (.int (0 : Int32)), (.int (0 : Int32)), (.int (0 : Int32)), (.int (0 : Int32)), (.int (0 : Int32)), (.int (0 : Int32)), (.int (0 : Int32))] : List Value) ++ ([(.int (0 : Int32)), (.int (0 : Int32)), (.int (0 : Int32)), (.int (0 : Int32)), (.int (0 : Int32)), (.int (0 : Int32)), (.int (0 : Int32)), (.int (0 : Int32)), (.int (0 : Int32)), (.int (0 : Int32)), (.int (0 : Int32)), (.int (0 : Int32)), (.int (0 : Int32)), (.int (0 : Int32)), (.int (0 : Int32)), (.int (0 : Int32)), (.int (0 : Int32)), (.int (0 : Int32))] : List Value)).take 0 ++ (([(67 : Int32), (97 : Int32), (110 : Int32), (110 : Int32), (111 : Int32), (116 : Int32), (32 : Int32), (114 : Int32), (117 : Int32), (110 : Int32), (32 : Int32), (116 : Int32), (104 : Int32), (101 : Int32), (32 : Int32), (113 : Int32), (117 : Int32), (101 : Int32), (114 : Int32), (121 : Int32), (32 : Int32), (39 : Int32)].map StrChars.lo8).map Value.int) ++ (([(.int (0 : Int32)), (.int (0 : Int32)), (.int (0 : Int32)), (.int (0 : Int32)), (.int (0 : Int32)), (.int (0 : Int32)), (.int (0 : Int32)), (.int (0 : Int32)), (.int (0 : Int32)), (.int (0 : Int32)), (.int (0 : Int32)), (.int (0 : Int32)), (.int (0 : Int32)), (.int (0 : Int32)), (.int (0 : Int32)), (.int (0 : Int32))] : List Value) ++ ([(.int (0 : Int32)), (.int (0 : Int32)), (.int (0 : Int32)), (.int (0 : Int32)), (.int (0 : Int32)), (.int (0 : Int32)), (.int (0 : Int32)), (.int (0 : Int32)), (.int (0 : Int32)), (.int (0 : Int32)), (.int (0 : Int32)), (.int (0 : Int32)), (.int (0 : Int32)), (.int (0 : Int32)), (.int (0 : Int32)), (.int (0 : Int32)), (.int (0 : Int32)), (.int (0 : Int32))] : List Value)).drop (0 + 22)).drop (22 + 2)).take 24 ++ (([(39 : Int32), (58 : Int32), (32 : Int32)].map StrChars.lo8).map Value.int) ++ (((([(.int (0 : Int32)), (.int (0 : Int32)), (.int (0 : Int32)), (.int (0 : Int32)), (.int (0 : Int32)), (.int (0 : Int32)), (.int (0 : Int32)), (.int (0 : Int32)), (.int (0 : Int32)), (.int (0 : Int32)), (.int (0 : Int32)), (.int (0 : Int32)), (.int (0 : Int32)), (.int (0 : Int32)), (.int (0 : Int32)), (.int (0 : Int32))] : List Value) ++ ([(.int (0 : Int32)), (.int (0 : Int32)), (.int (0 : Int32)), (.int (0 : Int32)), (.int (0 : Int32)), (.int (0 : Int32)), (.int (0 : Int32)), (.int (0 : Int32)), (.int (0 : Int32)), (.int (0 : Int32)), (.int (0 : Int32)), (.int (0 : Int32)), (.int (0 : Int32)), (.int (0 : Int32)), (.int (0 : Int32)), (.int (0 : Int32)), (.int (0 : Int32)), (.int (0 : Int32))] : List Value)).take 0 ++ (([(67 : Int32), (97 : Int32), (110 : Int32), (110 : Int32), (111 : Int32), (116 : Int32), (32 : Int32), (114 : Int32), (117 : Int32), (110 : Int32), (32 : Int32), (116 : Int32), (104 : Int32), (101 : Int32), (32 : Int32), (113 : Int32), (117 : Int32), (101 : Int32), (114 : Int32), (121 : Int32), (32 : Int32), (39 : Int32)].map StrChars.lo8).map Value.int) ++ (([(.int (0 : Int32)), (.int (0 : Int32)), (.int (0 : Int32)), (.int (0 : Int32)), (.int (0 : Int32)), (.int (0 : Int32)), (.int (0 : Int32)), (.int (0 : Int32)), (.int (0 : Int32)), (.int (0 : Int32)), (.int (0 : Int32)), (.int (0 : Int32)), (.int (0 : Int32)), (.int (0 : Int32)), (.int (0 : Int32)), (.int (0 : Int32))] : List Value) ++ ([(.int (0 : Int32)), (.int (0 : Int32)), (.int (0 : Int32)), (.int (0 : Int32)), (.int (0 : Int32)), (.int (0 : Int32)), (.int (0 : Int32)), (.int (0 : Int32)), (.int (0 : Int32)), (.int (0 : Int32)), (.int (0 : Int32)), (.int (0 : Int32)), (.int (0 : Int32)), (.int (0 : Int32)), (.int (0 : Int32)), (.int (0 : Int32)), (.int (0 : Int32)), (.int (0 : Int32))] : List Value)).drop (0 + 22)).take 22 ++ (([q0, q1].map StrChars.lo8).map Value.int) ++ ((([(.int (0 : Int32)), (.int (0 : Int32)), (.int (0 : Int32)), (.int (0 : Int32)), (.int (0 : Int32)), (.int (0 : Int32)), (.int (0 : Int32)), (.int (0 : Int32)), (.int (0 : Int32)), (.int (0 : Int32)), (.int (0 : Int32)), (.int (0 : Int32)), (.int (0 : Int32)), (.int (0 : Int32)), (.int (0 : Int32)), (.int (0 : Int32))] : List Value) ++ ([(.int (0 : Int32)), (.int (0 : Int32)), (.int (0 : Int32)), (.int (0 : Int32)), (.int (0 : Int32)), (.int (0 : Int32)), (.int (0 : Int32)), (.int (0 : Int32)), (.int (0 : Int32)), (.int (0 : Int32)), (.int (0 : Int32)), (.int (0 : Int32)), (.int (0 : Int32)), (.int (0 : Int32)), (.int (0 : Int32)), (.int (0 : Int32)), (.int (0 : Int32)), (.int (0 : Int32))] : List Value)).take 0 ++ (([(67 : Int32), (97 : Int32), (110 : Int32), (110 : Int32), (111 : Int32), (116 : Int32), (32 : Int32), (114 : Int32), (117 : Int32), (110 : Int32), (32 : Int32), (116 : Int32), (104 : Int32), (101 : Int32), (32 : Int32), (113 : Int32), (117 : Int32), (101 : Int32), (114 : Int32), (121 : Int32), (32 : Int32), (39 : Int32)].map StrChars.lo8).map Value.int) ++ (([(.int (0 : Int32)), (.int (0 : Int32)), (.int (0 : Int32)), (.int (0 : Int32)), (.int (0 : Int32)), (.int (0 : Int32)), (.int (0 : Int32)), (.int (0 : Int32)), (.int (0 : Int32)), (.int (0 : Int32)), (.int (0 : Int32)), (.int (0 : Int32)), (.int (0 : Int32)), (.int (0 : Int32)), (.int (0 : Int32)), (.int (0 : Int32))] : List Value) ++ ([(.int (0 : Int32)), (.int (0 : Int32)), (.int (0 : Int32)), (.int (0 : Int32)), (.int (0 : Int32)), (.int (0 : Int32)), (.int (0 : Int32)), (.int (0 : Int32)), (.int (0 : Int32)), (.int (0 : Int32)), (.int (0 : Int32)), (.int (0 : Int32)), (.int (0 : Int32)), (.int (0 : Int32)), (.int (0 : Int32)), (.int (0 : Int32)), (.int (0 : Int32)), (.int (0 : Int32))] : List Value)).drop (0 + 22)).drop (22 + 2)).drop (24 + 3)).take 27 ++ (([r0, r1].map StrChars.lo8).map Value.int) ++ ((((([(.int (0 : Int32)), (.int (0 : Int32)), (.int (0 : Int32)), (.int (0 : Int32)), (.int (0 : Int32)), (.int (0 : Int32)), (.int (0 : Int32)), (.int (0 : Int32)), (.int (0 : Int32)), (.int (0 : Int32)), (.int (0 : Int32)), (.int (0 : Int32)), (.int (0 : Int32)), (.int (0 : Int32)), (.int (0 : Int32)), (.int (0 : Int32))] : List Value) ++ ([(.int (0 : Int32)), (.int (0 : Int32)), (.int (0 : Int32)), (.int (0 : Int32)), (.int (0 : Int32)), (.int (0 : Int32)), (.int (0 : Int32)), (.int (0 : Int32)), (.int (0 : Int32)), (.int (0 : Int32)), (.int (0 : Int32)), (.int (0 : Int32)), (.int (0 : Int32)), (.int (0 : Int32)), (.int (0 : Int32)), (.int (0 : Int32)), (.int (0 : Int32)), (.int (0 : Int32))] : List Value)).take 0 ++ (([(67 : Int32), (97 : Int32), (110 : Int32), (110 : Int32), (111 : Int32), (116 : Int32), (32 : Int32), (114 : Int32), (117 : Int32), (110 : Int32), (32 : Int32), (116 : Int32), (104 : Int32), (101 : Int32), (32 : Int32), (113 : Int32), (117 : Int32), (101 : Int32), (114 : Int32), (121 : Int32), (32 : Int32), (39 : Int32)].map StrChars.lo8).map Value.int) ++ (([(.int (0 : Int32)), (.int (0 : Int32)), (.int (0 : Int32)), (.int (0 : Int32)), (.int (0 : Int32)), (.int (0 : Int32)), (.int (0 : Int32)), (.int (0 : Int32)), (.int (0 : Int32)), (.int (0 : Int32)), (.int (0 : Int32)), (.int (0 : Int32)), (.int (0 : Int32)), (.int (0 : Int32)), (.int (0 : Int32)), (.int (0 : Int32))] : List Value) ++ ([(.int (0 : Int32)), (.int (0 : Int32)), (.int (0 : Int32)), (.int (0 : Int32)), (.int (0 : Int32)), (.int (0 : Int32)), (.int (0 : Int32)), (.int (0 : Int32)), (.int (0 : Int32)), (.int (0 : Int32)), (.int (0 : Int32)), (.int (0 : Int32)), (.int (0 : Int32)), (.int (0 : Int32)), (.int (0 : Int32)), (.int (0 : Int32)), (.int (0 : Int32)), (.int (0 : Int32))] : List Value)).drop (0 + 22)).take 22 ++ (([q0, q1].map StrChars.lo8).map Value.int) ++ ((([(.int (0 : Int32)), (.int (0 : Int32)), (.int (0 : Int32)), (.int (0 : Int32)), (.int (0 : Int32)), (.int (0 : Int32)), (.int (0 : Int32)), (.int (0 : Int32)), (.int (0 : Int32)), (.int (0 : Int32)), (.int (0 : Int32)), (.int (0 : Int32)), (.int (0 : Int32)), (.int (0 : Int32)), (.int (0 : Int32)), (.int (0 : Int32))] : List Value) ++ ([(.int (0 : Int32)), (.int (0 : Int32)), (.int (0 : Int32)), (.int (0 : Int32)), (.int (0 : Int32)), (.int (0 : Int32)), (.int (0 : Int32)), (.int (0 : Int32)), (.int (0 : Int32)), (.int (0 : Int32)), (.int (0 : Int32)), (.int (0 : Int32)), (.int (0 : Int32)), (.int (0 : Int32)), (.int (0 : Int32)), (.int (0 : Int32)), (.int (0 : Int32)), (.int (0 : Int32))] : List Value)).take 0 ++ (([(67 : Int32), (97 : Int32), (110 : Int32), (110 : Int32), (111 : Int32), (116 : Int32), (32 : Int32), (114 : Int32), (117 : Int32), (110 : Int32), (32 : Int32), (116 : Int32), (104 : Int32), (101 : Int32), (32 : Int32), (113 : Int32), (117 : Int32), (101 : Int32), (114 : Int32), (121 : Int32), (32 : Int32), (39 : Int32)].map StrChars.lo8).map Value.int) ++ (([(.int (0 : Int32)), (.int (0 : Int32)), (.int (0 : Int32)), (.int (0 : Int32)), (.int (0 : Int32)), (.int (0 : Int32)), (.int (0 : Int32)), (.int (0 : Int32)), (.int (0 : Int32)), (.int (0 : Int32)), (.int (0 : Int32)), (.int (0 : Int32)), (.int (0 : Int32)), (.int (0 : Int32)), (.int (0 : Int32)), (.int (0 : Int32))] : List Value) ++ ([(.int (0 : Int32)), (.int (0 : Int32)), (.int (0 : Int32)), (.int (0 : Int32)), (.int (0 : Int32)), (.int (0 : Int32)), (.int (0 : Int32)), (.int (0 : Int32)), (.int (0 : Int32)), (.int (0 : Int32)), (.int (0 : Int32)), (.int (0 : Int32)), (.int (0 : Int32)), (.int (0 : Int32)), (.int (0 : Int32)), (.int (0 : Int32)), (.int (0 : Int32)), (.int (0 : Int32))] : List Value)).drop (0 + 22)).drop (22 + 2)).take 24 ++ (([(39 : Int32), (58 : Int32), (32 : Int32)].map StrChars.lo8).map Value.int) ++ (((([(.int (0 : Int32)), (.int (0 : Int32)), (.int (0 : Int32)), (.int (0 : Int32)), (.int (0 : Int32)), (.int (0 : Int32)), (.int (0 : Int32)), (.int (0 : Int32)), (.int (0 : Int32)), (.int (0 : Int32)), (.int (0 : Int32)), (.int (0 : Int32)), (.int (0 : Int32)), (.int (0 : Int32)), (.int (0 : Int32)), (.int (0 : Int32))] : List Value) ++ ([(.int (0 : Int32)), (.int (0 : Int32)), (.int (0 : Int32)), (.int (0 : Int32)), (.int (0 : Int32)), (.int (0 : Int32)), (.int (0 : Int32)), (.int (0 : Int32)), (.int (0 : Int32)), (.int (0 : Int32)), (.int (0 : Int32)), (.int (0 : Int32)), (.int (0 : Int32)), (.int (0 : Int32)), (.int (0 : Int32)), (.int (0 : Int32)), (.int (0 : Int32)), (.int (0 : Int32))] : List Value)).take 0 ++ (([(67 : Int32), (97 : Int32), (110 : Int32), (110 : Int32), (111 : Int32), (116 : Int32), (32 : Int32), (114 : Int32), (117 : Int32), (110 : Int32), (32 : Int32), (116 : Int32), (104 : Int32), (101 : Int32), (32 : Int32), (113 : Int32), (117 : Int32), (101 : Int32), (114 : Int32), (121 : Int32), (32 : Int32), (39 : Int32)].map StrChars.lo8).map Value.int) ++ (([(.int (0 : Int32)), (.int (0 : Int32)), (.int (0 : Int32)), (.int (0 : Int32)), (.int (0 : Int32)), (.int (0 : Int32)), (.int (0 : Int32)), (.int (0 : Int32)), (.int (0 : Int32)), (.int (0 : Int32)), (.int (0 : Int32)), (.int (0 : Int32)), (.int (0 : Int32)), (.int (0 : Int32)), (.int (0 : Int32)), (.int (0 : Int32))] : List Value) ++ ([(.int (0 : Int32)), (.int (0 : Int32)), (.int (0 : Int32)), (.int (0 : Int32)), (.int (0 : Int32)), (.int (0 : Int32)), (.int (0 : Int32)), (.int (0 : Int32)), (.int (0 : Int32)), (.int (0 : Int32)), (.int (0 : Int32)), (.int (0 : Int32)), (.int (0 : Int32)), (.int (0 : Int32)), (.int (0 : Int32)), (.int (0 : Int32)), (.int (0 : Int32)), (.int (0 : Int32))] : List Value)).drop (0 + 22)).take 22 ++ (([q0, q1].map StrChars.lo8).map Value.int) ++ ((([(.int (0 : Int32)), (.int (0 : Int32)), (.int (0 : Int32)), (.int (0 : Int32)), (.int (0 : Int32)), (.int (0 : Int32)), (.int (0 : Int32)), (.int (0 : Int32)), (.int (0 : Int32)), (.int (0 : Int32)), (.int (0 : Int32)), (.int (0 : Int32)), (.int (0 : Int32)), (.int (0 : Int32)), (.int (0 : Int32)), (.int (0 : Int32))] : List Value) ++ ([(.int (0 : Int32)), (.int (0 : Int32)), (.int (0 : Int32)), (.int (0 : Int32)), (.int (0 : Int32)), (.int (0 : Int32)), (.int (0 : Int32)), (.int (0 : Int32)), (.int (0 : Int32)), (.int (0 : Int32)), (.int (0 : Int32)), (.int (0 : Int32)), (.int (0 : Int32)), (.int (0 : Int32)), (.int (0 : Int32)), (.int (0 : Int32)), (.int (0 : Int32)), (.int (0 : Int32))] : List Value)).take 0 ++ (([(67 : Int32), (97 : Int32), (110 : Int32), (110 : Int32), (111 : Int32), (116 : Int32), (32 : Int32), (114 : Int32), (117 : Int32), (110 : Int32), (32 : Int32), (116 : Int32), (104 : Int32), (101 : Int32), (32 : Int32), (113 : Int32), (117 : Int32), (101 : Int32), (114 : Int32), (121 : Int32), (32 : Int32), (39 : Int32)].map StrChars.lo8).map Value.int) ++ (([(.int (0 : Int32)), (.int (0 : Int32)), (.int (0 : Int32)), (.int (0 : Int32)), (.int (0 : Int32)), (.int (0 : Int32)), (.int (0 : Int32)), (.int (0 : Int32)), (.int (0 : Int32)), (.int (0 : Int32)), (.int (0 : Int32)), (.int (0 : Int32)), (.int (0 : Int32)), (.int (0 : Int32)), (.int (0 : Int32)), (.int (0 : Int32))] : List Value) ++ ([(.int (0 : Int32)), (.int (0 : Int32)), (.int (0 : Int32)), (.int (0 : Int32)), (.int (0 : Int32)), (.int (0 : Int32)), (.int (0 : Int32)), (.int (0 : Int32)), (.int (0 : Int32)), (.int (0 : Int32)), (.int (0 : Int32)), (.int (0 : Int32)), (.int (0 : Int32)), (.int (0 : Int32)), (.int (0 : Int32)), (.int (0 : Int32)), (.int (0 : Int32)), (.int (0 : Int32))] : List Value)).drop (0 + 22)).drop (22 + 2)).drop (24 + 3)).drop (27 + 2)) ([(67 : Int32), (97 : Int32), (110 : Int32), (110 : Int32), (111 : Int32), (116 : Int32), (32 : Int32), (114 : Int32), (117 : Int32), (110 : Int32), (32 : Int32), (116 : Int32), (104 : Int32), (101 : Int32), (32 : Int32), (113 : Int32), (117 : Int32), (101 : Int32), (114 : Int32), (121 : Int32), (32 : Int32), (39 : Int32)] ++ [q0, q1] ++ [(39 : Int32), (58 : Int32), (32 : Int32)] ++ [r0, r1]) _ _ E5 V5 C5 N5 A5 rfl hpr rfl rfl).toF E5 (w 129 rfl) (w 130 rfl) (w 132 rfl) (w 131 rfl) (nfOf (w 132 rfl) rfl) (w 39 rfl) (w 133 rfl) (by decide) (fun _ q => nomatch q) (by decide) 2 (by decide) (by decide) (by decide) (lenOf pd_19 rfl) rfl (Nat.le_of_ble_eq_true rfl) (by rw [hml]; rfl) (D d6_29) ?_
  rintro T1163 h1164 _ _ X1166 K1167 hg1168 ⟨rfl, s9, t9, rfl, O9⟩
  have F1169 := F1150.keep K1167 nin0 nin0
  have F1170 := F1151.keep K1167 nin0 nin0
  have F1171 := F1152.keep K1167
  have F1172 := F1153.keep K1167 nin0
  have F1173 := F1154.keep K1167 nin0
  have F1174 := F1155.keep K1167 nin0
  have F1175 := F1156.keep K1167 nin0
  have F1176 := F1157.keep K1167 nin0
  have F1177 := F1158.keep K1167 nin0
  have F1178 := F1159.keep K1167 nin0
  have F1179 := E5.keep K1167
  have F1180 := F1161.keep K1167 nin0 nin0
  have F1181 := F1162.keep K1167 nin0 nin0
  have F1182 := V5.keep K1167 nin0
  have F1183 := C5.keep K1167 nin0
  have F1184 := N5.keep K1167 nin0
  have F1185 := A5.keep K1167 nin0
  show Goes p.tables e below _ (T1163.setTop (mkF m 32 #[.val (.ref x), .val (.ref y)] [(.ref s9), (.ref b950), (.ref b950)]))
  refine X1166.callcK hKn (a := b950) [(.ref s9)] [(.ref b950)] (ctIae l Z a0 hw hEL z0 S0 hz0 hl u sv hu hv SU SS b950 s9 _ _ F1171 F1178 F1172 F1173 F1174 F1176 F1175) rfl (w 168 rfl) (w 169 rfl) (w 36 rfl) (w 170 rfl) (by decide) (by simp) (by decide) 1 (by decide) (by decide) (by decide) (lenOf pd_6 rfl) rfl (Nat.le_of_ble_eq_true rfl) (by rw [hml]; rfl) (D d6_32) ?_
  rintro T1186 h1187 _ X1189 K1190 ⟨rfl, E9, F9⟩
  have F1191 := F1169.keep K1190 (ninS (Nat.ne_of_lt lt959) nin0) (ninS (Nat.ne_of_lt lt960) nin0)
  have F1192 := F1170.keep K1190 (ninS (Nat.ne_of_lt lt961) nin0) (ninS (Nat.ne_of_lt lt962) nin0)
  have F1193 := F1171.keep K1190
  have F1195 := F1179.keep K1190
  have F1196 := F1180.keep K1190 (ninS (ne1032 b950 (by simp)).1.symm nin0) (ninS (ne1032 b950 (by simp)).2.symm nin0)
  have F1197 := F1181.keep K1190 (ninS (ne1107 b950 (by simp)).1.symm nin0) (ninS (ne1107 b950 (by simp)).2.symm nin0)
  have F1198 := F1182.keep K1190 (ninS (Nat.ne_of_gt lt993) nin0)
  have F1199 := F1183.keep K1190 (ninS (Nat.ne_of_gt lt993) nin0)
  have F1200 := F1184.keep K1190 (ninS (Nat.ne_of_gt lt993) nin0)
  have F1201 := F1185.keep K1190 (ninS (Nat.ne_of_gt lt1073) nin0)
  have F1202 := O9.keep K1190 (ninS (Exa.ne O9.1 F1171 (by decide)) nin0) (ninS (OStr.neT O9 F1171 (w 35 rfl)) nin0)
  show Goes p.tables e below _ (T1186.setTop (mkF m 35 #[.val (.ref x), .val (.ref y)] [(.ref b950)]))
  exact X1189.retA hret rfl rfl hlk (D d6_35) (by decide) (by decide) (⟨_, _, _, rfl, E9, F9, F1202⟩)
theorem pn_10 : plainName "com/example/idlr/idlr/JpqlLexerRefusedPinLaw" = true := by first | (simp [plainName, overriddenIn]; done) | decide +kernel
theorem pd_20 : parseMethodDescriptor "(Ljava/lang/String;Ljava/lang/String;)Ljava/lang/IllegalArgumentException;" = some ⟨[(.object "java/lang/String"), (.object "java/lang/String")], (some (.object "java/lang/IllegalArgumentException"))⟩ := by decide +kernel
set_option maxRecDepth 65536 in
set_option maxHeartbeats 40000000 in
theorem ctLaw (l : Launch) (Z : State) (a0 : Array Value) (hw : ∀ d ∈ tables_1, d.before a0 Z = true) (hEL : EW Z a0 consts_1) (z0 : Int32) (S0 : Sta Z Z.heap "java/lang/String" "COMPACT_STRINGS" "Z" (.int z0)) (hz0 : ¬ z0 = 0) (hl : l.stackTraces = true) (u sv : Value) (hu : u.isRef = true) (hv : sv.isRef = true) (SU : Sta Z Z.heap "java/lang/Throwable" "UNASSIGNED_STACK" "[Ljava/lang/StackTraceElement;" u) (SS : Sta Z Z.heap "java/lang/Throwable" "SUPPRESSED_SENTINEL" "Ljava/util/List;" sv) (p0 p1 p2 p3 : Int32) (h0 : Heap) (n0 : Nat)  :
    CtK l Z consts_1 tables_1 x code maxLocals ret room_1 #[(.int p0), (.int p1), (.int p2), (.int p3)] h0 n0 [] (fun v _ => v = some (.int 1)) := by
  have w : ∀ {d : Jvm.Cond} (i : Nat), tables_1[i]? = some d → d.before a0 Z = true := fun i q => hw _ (List.mem_of_getElem? q)
  refine CtK.enter (plainFor_of_name pn_10) hEL ?_
  intro p e sS m below meth c T0 hby hml0 hret hlk hnm hs0 hKn X0
  have hml : c.maxLocals = 14 := hml0
  have D : ∀ {pc : Nat} {r : Except DecodeError (Instr × Nat)}, decode code pc = r → decode c.code pc = r := fun q => hb hby q
  rw [show entryFrame m #[(.int p0), (.int p1), (.int p2), (.int p3)] maxLocals = mkF m 0 #[.val (.int p0), .val (.int p1), .val (.int p2), .val (.int p3), .unset, .unset, .unset, .unset, .unset, .unset, .unset, .unset, .unset, .unset] [] from by first | (simp [entryFrame, mkF, argsToLocals, Value.category, maxLocals]; done) | rfl]
  refine X0.iloadN (x := p0) (D at_0) rfl ?_
  refine X0.sipush (x := (255 : Int32)) (D at_1) rfl ?_
  refine X0.iand (D at_4) ?_
  refine X0.i2c (D at_5) ?_
  refine X0.istore #[.val (.int p0), .val (.int p1), .val (.int p2), .val (.int p3), .val (.int (c8 p0)), .unset, .unset, .unset, .unset, .unset, .unset, .unset, .unset, .unset] (D at_6) rfl ?_
  refine X0.iloadN (x := p1) (D at_8) rfl ?_
  refine X0.sipush (x := (255 : Int32)) (D at_9) rfl ?_
  refine X0.iand (D at_12) ?_
  refine X0.i2c (D at_13) ?_
  refine X0.istore #[.val (.int p0), .val (.int p1), .val (.int p2), .val (.int p3), .val (.int (c8 p0)), .val (.int (c8 p1)), .unset, .unset, .unset, .unset, .unset, .unset, .unset, .unset] (D at_14) rfl ?_
  refine X0.iloadN (x := p2) (D at_16) rfl ?_
  refine X0.sipush (x := (255 : Int32)) (D at_17) rfl ?_
  show Goes p.tables e below _ (T0.setTop (mkF m 20 #[.val (.int p0), .val (.int p1), .val (.int p2), .val (.int p3), .val (.int (c8 p0)), .val (.int (c8 p1)), .unset, .unset, .unset, .unset, .unset, .unset, .unset, .unset] [(.int (255 : Int32)), (.int p2)]))
  refine X0.iand (D at_20) ?_
  refine X0.i2c (D at_21) ?_
  refine X0.istore #[.val (.int p0), .val (.int p1), .val (.int p2), .val (.int p3), .val (.int (c8 p0)), .val (.int (c8 p1)), .val (.int (c8 p2)), .unset, .unset, .unset, .unset, .unset, .unset, .unset] (D at_22) rfl ?_
  refine X0.iloadN (x := p3) (D at_24) rfl ?_
  refine X0.sipush (x := (255 : Int32)) (D at_25) rfl ?_
  refine X0.iand (D at_28) ?_
  refine X0.i2c (D at_29) ?_
  refine X0.istore #[.val (.int p0), .val (.int p1), .val (.int p2), .val (.int p3), .val (.int (c8 p0)), .val (.int (c8 p1)), .val (.int (c8 p2)), .val (.int (c8 p3)), .unset, .unset, .unset, .unset, .unset, .unset] (D at_30) rfl ?_
  refine X0.new (w 0 rfl) (w 1 rfl) (w 2 rfl) (D at_32) (by decide) (by decide) ?_
  intro T1203 h1204 b1205 g1206 X1207 E1208 A1209 D1210 U1211
  have F1212 : Fld Z h1204 b1205 "java/lang/String" "coder" "B" (.int (0 : Int32)) := D1210 (Or.inr (w 27 rfl)) (ty := .byte) (by decide)
  have F1213 : Fld Z h1204 b1205 "java/lang/String" "value" "[B" .null := D1210 (Or.inr (w 29 rfl)) (ty := (.array .byte)) (by decide)
  show Goes p.tables e below _ (T1203.setTop (mkF m 35 #[.val (.int p0), .val (.int p1), .val (.int p2), .val (.int p3), .val (.int (c8 p0)), .val (.int (c8 p1)), .val (.int (c8 p2)), .val (.int (c8 p3)), .unset, .unset, .unset, .unset, .unset, .unset] [(.ref b1205)]))
  refine X1207.dup (D at_35) rfl ?_
  refine X1207.iconst (x := (2 : Int32)) (D at_36) rfl ?_
  refine X1207.newarr (w 3 rfl) (n := (2 : Int32)) (D at_37) (by decide) 2 (by decide) (by decide) (by decide) (by decide) ?_
  intro T1214 h1215 b1216 kb1217 g1218 X1219 E1220 A1221
  have F1222 := A1209.ext E1220
  have F1223 := F1212.ext E1220
  have F1224 := F1213.ext E1220
  have lt1225 : b1205 < b1216 := by rw [g1218]; exact A1209.lt
  have F1226 : Arv Z h1215 b1216 kb1217 .char (2 : Int32) [(.int (0 : Int32)), (.int (0 : Int32))] (.int (0 : Int32)) := A1221.pad (pad_rep [] (.int (0 : Int32)) 2)
  show Goes p.tables e below _ (T1214.setTop (mkF m 39 #[.val (.int p0), .val (.int p1), .val (.int p2), .val (.int p3), .val (.int (c8 p0)), .val (.int (c8 p1)), .val (.int (c8 p2)), .val (.int (c8 p3)), .unset, .unset, .unset, .unset, .unset, .unset] [(.ref b1216), (.ref b1205), (.ref b1205)]))
  refine X1219.dup (D at_39) rfl ?_
  refine X1219.iconst (x := (0 : Int32)) (D at_40) rfl ?_
  refine X1219.iload (x := (c8 p0)) (D at_41) rfl ?_
  show Goes p.tables e below _ (T1214.setTop (mkF m 43 #[.val (.int p0), .val (.int p1), .val (.int p2), .val (.int p3), .val (.int (c8 p0)), .val (.int (c8 p1)), .val (.int (c8 p2)), .val (.int (c8 p3)), .unset, .unset, .unset, .unset, .unset, .unset] [(.int (c8 p0)), (.int (0 : Int32)), (.ref b1216), (.ref b1216), (.ref b1205), (.ref b1205)]))
  refine X1219.castore F1226 ⟨by decide, by decide⟩ 0 rfl (Nat.le_of_ble_eq_true rfl) (by simp) (D at_43) ?_
  intro T1227 h1228 X1229 W1230 A1231
  have F1232 := F1222.wr W1230
  have F1233 := F1223.other W1230 (Or.inl (Nat.ne_of_lt lt1225))
  have F1234 := F1224.other W1230 (Or.inl (Nat.ne_of_lt lt1225))
  have F1235 : Arv Z h1228 b1216 kb1217 .char (2 : Int32) [(.int (c8 p0)), (.int (0 : Int32))] (.int (0 : Int32)) := by rw [nar_c8 p0] at A1231; exact A1231
  show Goes p.tables e below _ (T1227.setTop (mkF m 44 #[.val (.int p0), .val (.int p1), .val (.int p2), .val (.int p3), .val (.int (c8 p0)), .val (.int (c8 p1)), .val (.int (c8 p2)), .val (.int (c8 p3)), .unset, .unset, .unset, .unset, .unset, .unset] [(.ref b1216), (.ref b1205), (.ref b1205)]))
  refine X1229.dup (D at_44) rfl ?_
  refine X1229.iconst (x := (1 : Int32)) (D at_45) rfl ?_
  refine X1229.iload (x := (c8 p1)) (D at_46) rfl ?_
  show Goes p.tables e below _ (T1227.setTop (mkF m 48 #[.val (.int p0), .val (.int p1), .val (.int p2), .val (.int p3), .val (.int (c8 p0)), .val (.int (c8 p1)), .val (.int (c8 p2)), .val (.int (c8 p3)), .unset, .unset, .unset, .unset, .unset, .unset] [(.int (c8 p1)), (.int (1 : Int32)), (.ref b1216), (.ref b1216), (.ref b1205), (.ref b1205)]))
  refine X1229.castore F1235 ⟨by decide, by decide⟩ 1 rfl (Nat.le_of_ble_eq_true rfl) (by simp) (D at_48) ?_
  intro T1236 h1237 X1238 W1239 A1240
  have F1241 := F1232.wr W1239
  have F1242 := F1233.other W1239 (Or.inl (Nat.ne_of_lt lt1225))
  have F1243 := F1234.other W1239 (Or.inl (Nat.ne_of_lt lt1225))
  have F1244 : Arv Z h1237 b1216 kb1217 .char (2 : Int32) [(.int (c8 p0)), (.int (c8 p1))] (.int (0 : Int32)) := by rw [nar_c8 p1] at A1240; exact A1240
  show Goes p.tables e below _ (T1236.setTop (mkF m 49 #[.val (.int p0), .val (.int p1), .val (.int p2), .val (.int p3), .val (.int (c8 p0)), .val (.int (c8 p1)), .val (.int (c8 p2)), .val (.int (c8 p3)), .unset, .unset, .unset, .unset, .unset, .unset] [(.ref b1216), (.ref b1205), (.ref b1205)]))
  show Goes p.tables e below _ (T1236.setTop (mkF m 49 #[.val (.int p0), .val (.int p1), .val (.int p2), .val (.int p3), .val (.int (c8 p0)), .val (.int (c8 p1)), .val (.int (c8 p2)), .val (.int (c8 p3)), .unset, .unset, .unset, .unset, .unset, .unset] [(.ref b1216), (.ref b1205), (.ref b1205)]))
  refine X1238.newStr (cs := [(c8 p0), (c8 p1)]) 2 (w 4 rfl) (w 5 rfl) (fun d q => hw d (hwsV d q)) (w 1 rfl) F1241 F1243 F1242 F1244 S0 hz0 rfl rfl (by decide) (by decide) (hpS (c8_rng p0) (hpS (c8_rng p1) hp0)) (by simp) (by decide) 1 (Nat.le_of_ble_eq_true rfl) (by decide) (by decide) (by decide) (by rw [hml]; rfl) (D at_49) ?_
  intro T1245 h1246 t1247 X1248 K1249 g1250 O1251
  have F1252 := F1244.keep K1249 (ninS (Nat.ne_of_gt lt1225) nin0)
  have lt1253 : b1205 < t1247 := Nat.lt_of_lt_of_le F1241.lt g1250
  have lt1254 : b1216 < t1247 := Nat.lt_of_lt_of_le F1244.lt g1250
  show Goes p.tables e below _ (T1245.setTop (mkF m 52 #[.val (.int p0), .val (.int p1), .val (.int p2), .val (.int p3), .val (.int (c8 p0)), .val (.int (c8 p1)), .val (.int (c8 p2)), .val (.int (c8 p3)), .unset, .unset, .unset, .unset, .unset, .unset] [(.ref b1205)]))
  refine X1248.astore #[.val (.int p0), .val (.int p1), .val (.int p2), .val (.int p3), .val (.int (c8 p0)), .val (.int (c8 p1)), .val (.int (c8 p2)), .val (.int (c8 p3)), .val (.ref b1205), .unset, .unset, .unset, .unset, .unset] (D at_52) rfl rfl ?_
  refine X1248.new (w 0 rfl) (w 1 rfl) (w 2 rfl) (D at_54) (by decide) (by decide) ?_
  intro T1255 h1256 b1257 g1258 X1259 E1260 A1261 D1262 U1263
  have F1264 := F1252.ext E1260
  have F1265 := O1251.ext E1260
  have lt1266 : b1216 < b1257 := by rw [g1258]; exact F1252.lt
  have lt1267 : b1205 < b1257 := by rw [g1258]; exact O1251.lt
  have lt1268 : t1247 < b1257 := by rw [g1258]; exact O1251.ltb
  have F1269 : Fld Z h1256 b1257 "java/lang/String" "coder" "B" (.int (0 : Int32)) := D1262 (Or.inr (w 27 rfl)) (ty := .byte) (by decide)
  have F1270 : Fld Z h1256 b1257 "java/lang/String" "value" "[B" .null := D1262 (Or.inr (w 29 rfl)) (ty := (.array .byte)) (by decide)
  show Goes p.tables e below _ (T1255.setTop (mkF m 57 #[.val (.int p0), .val (.int p1), .val (.int p2), .val (.int p3), .val (.int (c8 p0)), .val (.int (c8 p1)), .val (.int (c8 p2)), .val (.int (c8 p3)), .val (.ref b1205), .unset, .unset, .unset, .unset, .unset] [(.ref b1257)]))
  refine X1259.dup (D at_57) rfl ?_
  refine X1259.iconst (x := (2 : Int32)) (D at_58) rfl ?_
  refine X1259.newarr (w 3 rfl) (n := (2 : Int32)) (D at_59) (by decide) 2 (by decide) (by decide) (by decide) (by decide) ?_
  intro T1271 h1272 b1273 kb1274 g1275 X1276 E1277 A1278
  have F1279 := F1264.ext E1277
  have F1280 := F1265.ext E1277
  have F1281 := A1261.ext E1277
  have F1282 := F1269.ext E1277
  have F1283 := F1270.ext E1277
  have lt1284 : b1216 < b1273 := by rw [g1275]; exact F1264.lt
  have lt1285 : b1205 < b1273 := by rw [g1275]; exact F1265.lt
  have lt1286 : t1247 < b1273 := by rw [g1275]; exact F1265.ltb
  have lt1287 : b1257 < b1273 := by rw [g1275]; exact A1261.lt
  have F1288 : Arv Z h1272 b1273 kb1274 .char (2 : Int32) [(.int (0 : Int32)), (.int (0 : Int32))] (.int (0 : Int32)) := A1278.pad (pad_rep [] (.int (0 : Int32)) 2)
  show Goes p.tables e below _ (T1271.setTop (mkF m 61 #[.val (.int p0), .val (.int p1), .val (.int p2), .val (.int p3), .val (.int (c8 p0)), .val (.int (c8 p1)), .val (.int (c8 p2)), .val (.int (c8 p3)), .val (.ref b1205), .unset, .unset, .unset, .unset, .unset] [(.ref b1273), (.ref b1257), (.ref b1257)]))
  refine X1276.dup (D at_61) rfl ?_
  refine X1276.iconst (x := (0 : Int32)) (D at_62) rfl ?_
  refine X1276.iload (x := (c8 p2)) (D at_63) rfl ?_
  show Goes p.tables e below _ (T1271.setTop (mkF m 65 #[.val (.int p0), .val (.int p1), .val (.int p2), .val (.int p3), .val (.int (c8 p0)), .val (.int (c8 p1)), .val (.int (c8 p2)), .val (.int (c8 p3)), .val (.ref b1205), .unset, .unset, .unset, .unset, .unset] [(.int (c8 p2)), (.int (0 : Int32)), (.ref b1273), (.ref b1273), (.ref b1257), (.ref b1257)]))
  refine X1276.castore F1288 ⟨by decide, by decide⟩ 0 rfl (Nat.le_of_ble_eq_true rfl) (by simp) (D at_65) ?_
  intro T1289 h1290 X1291 W1292 A1293
  have F1294 := F1279.other W1292 (Nat.ne_of_lt lt1284)
  have F1295 := F1280.wr W1292 (Nat.ne_of_lt lt1285) (Nat.ne_of_lt lt1286)
  have F1296 := F1281.wr W1292
  have F1297 := F1282.other W1292 (Or.inl (Nat.ne_of_lt lt1287))
  have F1298 := F1283.other W1292 (Or.inl (Nat.ne_of_lt lt1287))
  have F1299 : Arv Z h1290 b1273 kb1274 .char (2 : Int32) [(.int (c8 p2)), (.int (0 : Int32))] (.int (0 : Int32)) := by rw [nar_c8 p2] at A1293; exact A1293
  show Goes p.tables e below _ (T1289.setTop (mkF m 66 #[.val (.int p0), .val (.int p1), .val (.int p2), .val (.int p3), .val (.int (c8 p0)), .val (.int (c8 p1)), .val (.int (c8 p2)), .val (.int (c8 p3)), .val (.ref b1205), .unset, .unset, .unset, .unset, .unset] [(.ref b1273), (.ref b1257), (.ref b1257)]))
  refine X1291.dup (D at_66) rfl ?_
  refine X1291.iconst (x := (1 : Int32)) (D at_67) rfl ?_
  refine X1291.iload (x := (c8 p3)) (D at_68) rfl ?_
  show Goes p.tables e below _ (T1289.setTop (mkF m 70 #[.val (.int p0), .val (.int p1), .val (.int p2), .val (.int p3), .val (.int (c8 p0)), .val (.int (c8 p1)), .val (.int (c8 p2)), .val (.int (c8 p3)), .val (.ref b1205), .unset, .unset, .unset, .unset, .unset] [(.int (c8 p3)), (.int (1 : Int32)), (.ref b1273), (.ref b1273), (.ref b1257), (.ref b1257)]))
  refine X1291.castore F1299 ⟨by decide, by decide⟩ 1 rfl (Nat.le_of_ble_eq_true rfl) (by simp) (D at_70) ?_
  intro T1300 h1301 X1302 W1303 A1304
  have F1305 := F1294.other W1303 (Nat.ne_of_lt lt1284)
  have F1306 := F1295.wr W1303 (Nat.ne_of_lt lt1285) (Nat.ne_of_lt lt1286)
  have F1307 := F1296.wr W1303
  have F1308 := F1297.other W1303 (Or.inl (Nat.ne_of_lt lt1287))
  have F1309 := F1298.other W1303 (Or.inl (Nat.ne_of_lt lt1287))
  have F1310 : Arv Z h1301 b1273 kb1274 .char (2 : Int32) [(.int (c8 p2)), (.int (c8 p3))] (.int (0 : Int32)) := by rw [nar_c8 p3] at A1304; exact A1304
  show Goes p.tables e below _ (T1300.setTop (mkF m 71 #[.val (.int p0), .val (.int p1), .val (.int p2), .val (.int p3), .val (.int (c8 p0)), .val (.int (c8 p1)), .val (.int (c8 p2)), .val (.int (c8 p3)), .val (.ref b1205), .unset, .unset, .unset, .unset, .unset] [(.ref b1273), (.ref b1257), (.ref b1257)]))
  show Goes p.tables e below _ (T1300.setTop (mkF m 71 #[.val (.int p0), .val (.int p1), .val (.int p2), .val (.int p3), .val (.int (c8 p0)), .val (.int (c8 p1)), .val (.int (c8 p2)), .val (.int (c8 p3)), .val (.ref b1205), .unset, .unset, .unset, .unset, .unset] [(.ref b1273), (.ref b1257), (.ref b1257)]))
  refine X1302.newStr (cs := [(c8 p2), (c8 p3)]) 2 (w 4 rfl) (w 5 rfl) (fun d q => hw d (hwsV d q)) (w 1 rfl) F1307 F1309 F1308 F1310 S0 hz0 rfl rfl (by decide) (by decide) (hpS (c8_rng p2) (hpS (c8_rng p3) hp0)) (by simp) (by decide) 1 (Nat.le_of_ble_eq_true rfl) (by decide) (by decide) (by decide) (by rw [hml]; rfl) (D at_71) ?_
  intro T1311 h1312 t1313 X1314 K1315 g1316 O1317
  have F1318 := F1305.keep K1315 (ninS (Nat.ne_of_lt lt1266) nin0)
  have F1319 := F1306.keep K1315 (ninS (Nat.ne_of_lt lt1267) nin0) (ninS (Nat.ne_of_lt lt1268) nin0)
  have F1320 := F1310.keep K1315 (ninS (Nat.ne_of_gt lt1287) nin0)
  have lt1321 : b1216 < t1313 := Nat.lt_of_lt_of_le F1305.lt g1316
  have lt1322 : b1205 < t1313 := Nat.lt_of_lt_of_le F1306.lt g1316
  have lt1323 : t1247 < t1313 := Nat.lt_of_lt_of_le F1306.ltb g1316
  have lt1324 : b1257 < t1313 := Nat.lt_of_lt_of_le F1307.lt g1316
  have lt1325 : b1273 < t1313 := Nat.lt_of_lt_of_le F1310.lt g1316
  show Goes p.tables e below _ (T1311.setTop (mkF m 74 #[.val (.int p0), .val (.int p1), .val (.int p2), .val (.int p3), .val (.int (c8 p0)), .val (.int (c8 p1)), .val (.int (c8 p2)), .val (.int (c8 p3)), .val (.ref b1205), .unset, .unset, .unset, .unset, .unset] [(.ref b1257)]))
  refine X1314.astore #[.val (.int p0), .val (.int p1), .val (.int p2), .val (.int p3), .val (.int (c8 p0)), .val (.int (c8 p1)), .val (.int (c8 p2)), .val (.int (c8 p3)), .val (.ref b1205), .val (.ref b1257), .unset, .unset, .unset, .unset] (D at_74) rfl rfl ?_
  refine X1314.bipush (x := (29 : Int32)) (D at_76) rfl ?_
  refine X1314.newarr (w 3 rfl) (n := (29 : Int32)) (D at_78) (by decide) 29 (by decide) (by decide) (by decide) (by decide) ?_
  intro T1326 h1327 b1328 kb1329 g1330 X1331 E1332 A1333
  have F1334 := F1319.ext E1332
  have F1335 := O1317.ext E1332
  have lt1336 : b1205 < b1328 := by rw [g1330]; exact F1319.lt
  have lt1337 : t1247 < b1328 := by rw [g1330]; exact F1319.ltb
  have lt1338 : b1257 < b1328 := by rw [g1330]; exact O1317.lt
  have lt1339 : t1313 < b1328 := by rw [g1330]; exact O1317.ltb
  have F1340 : Arv Z h1327 b1328 kb1329 .char (29 : Int32) [(.int (0 : Int32)), (.int (0 : Int32)), (.int (0 : Int32)), (.int (0 : Int32)), (.int (0 : Int32)), (.int (0 : Int32)), (.int (0 : Int32)), (.int (0 : Int32)), (.int (0 : Int32)), (.int (0 : Int32)), (.int (0 : Int32)), (.int (0 : Int32)), (.int (0 : Int32)), (.int (0 : Int32)), (.int (0 : Int32)), (.int (0 : Int32)), (.int (0 : Int32)), (.int (0 : Int32)), (.int (0 : Int32)), (.int (0 : Int32)), (.int (0 : Int32)), (.int (0 : Int32)), (.int (0 : Int32)), (.int (0 : Int32)), (.int (0 : Int32)), (.int (0 : Int32)), (.int (0 : Int32)), (.int (0 : Int32)), (.int (0 : Int32))] (.int (0 : Int32)) := A1333.pad (pad_rep [] (.int (0 : Int32)) 29)
  show Goes p.tables e below _ (T1326.setTop (mkF m 80 #[.val (.int p0), .val (.int p1), .val (.int p2), .val (.int p3), .val (.int (c8 p0)), .val (.int (c8 p1)), .val (.int (c8 p2)), .val (.int (c8 p3)), .val (.ref b1205), .val (.ref b1257), .unset, .unset, .unset, .unset] [(.ref b1328)]))
  refine X1331.dup (D at_80) rfl ?_
  refine X1331.iconst (x := (0 : Int32)) (D at_81) rfl ?_
  refine X1331.bipush (x := (67 : Int32)) (D at_82) rfl ?_
  show Goes p.tables e below _ (T1326.setTop (mkF m 84 #[.val (.int p0), .val (.int p1), .val (.int p2), .val (.int p3), .val (.int (c8 p0)), .val (.int (c8 p1)), .val (.int (c8 p2)), .val (.int (c8 p3)), .val (.ref b1205), .val (.ref b1257), .unset, .unset, .unset, .unset] [(.int (67 : Int32)), (.int (0 : Int32)), (.ref b1328), (.ref b1328)]))
  refine X1331.castore F1340 ⟨by decide, by decide⟩ 0 rfl (Nat.le_of_ble_eq_true rfl) (by simp) (D at_84) ?_
  intro T1341 h1342 X1343 W1344 A1345
  have F1346 := F1334.wr W1344 (Nat.ne_of_lt lt1336) (Nat.ne_of_lt lt1337)
  have F1347 := F1335.wr W1344 (Nat.ne_of_lt lt1338) (Nat.ne_of_lt lt1339)
  have F1348 : Arv Z h1342 b1328 kb1329 .char (29 : Int32) [(.int (67 : Int32)), (.int (0 : Int32)), (.int (0 : Int32)), (.int (0 : Int32)), (.int (0 : Int32)), (.int (0 : Int32)), (.int (0 : Int32)), (.int (0 : Int32)), (.int (0 : Int32)), (.int (0 : Int32)), (.int (0 : Int32)), (.int (0 : Int32)), (.int (0 : Int32)), (.int (0 : Int32)), (.int (0 : Int32)), (.int (0 : Int32)), (.int (0 : Int32)), (.int (0 : Int32)), (.int (0 : Int32)), (.int (0 : Int32)), (.int (0 : Int32)), (.int (0 : Int32)), (.int (0 : Int32)), (.int (0 : Int32)), (.int (0 : Int32)), (.int (0 : Int32)), (.int (0 : Int32)), (.int (0 : Int32)), (.int (0 : Int32))] (.int (0 : Int32)) := by exact A1345
  show Goes p.tables e below _ (T1341.setTop (mkF m 85 #[.val (.int p0), .val (.int p1), .val (.int p2), .val (.int p3), .val (.int (c8 p0)), .val (.int (c8 p1)), .val (.int (c8 p2)), .val (.int (c8 p3)), .val (.ref b1205), .val (.ref b1257), .unset, .unset, .unset, .unset] [(.ref b1328)]))
  refine X1343.dup (D at_85) rfl ?_
  refine X1343.iconst (x := (1 : Int32)) (D at_86) rfl ?_
  refine X1343.bipush (x := (97 : Int32)) (D at_87) rfl ?_
  show Goes p.tables e below _ (T1341.setTop (mkF m 89 #[.val (.int p0), .val (.int p1), .val (.int p2), .val (.int p3), .val (.int (c8 p0)), .val (.int (c8 p1)), .val (.int (c8 p2)), .val (.int (c8 p3)), .val (.ref b1205), .val (.ref b1257), .unset, .unset, .unset, .unset] [(.int (97 : Int32)), (.int (1 : Int32)), (.ref b1328), (.ref b1328)]))
  refine X1343.castore F1348 ⟨by decide, by decide⟩ 1 rfl (Nat.le_of_ble_eq_true rfl) (by simp) (D at_89) ?_
  intro T1349 h1350 X1351 W1352 A1353
  have F1354 := F1346.wr W1352 (Nat.ne_of_lt lt1336) (Nat.ne_of_lt lt1337)
  have F1355 := F1347.wr W1352 (Nat.ne_of_lt lt1338) (Nat.ne_of_lt lt1339)
  have F1356 : Arv Z h1350 b1328 kb1329 .char (29 : Int32) [(.int (67 : Int32)), (.int (97 : Int32)), (.int (0 : Int32)), (.int (0 : Int32)), (.int (0 : Int32)), (.int (0 : Int32)), (.int (0 : Int32)), (.int (0 : Int32)), (.int (0 : Int32)), (.int (0 : Int32)), (.int (0 : Int32)), (.int (0 : Int32)), (.int (0 : Int32)), (.int (0 : Int32)), (.int (0 : Int32)), (.int (0 : Int32)), (.int (0 : Int32)), (.int (0 : Int32)), (.int (0 : Int32)), (.int (0 : Int32)), (.int (0 : Int32)), (.int (0 : Int32)), (.int (0 : Int32)), (.int (0 : Int32)), (.int (0 : Int32)), (.int (0 : Int32)), (.int (0 : Int32)), (.int (0 : Int32)), (.int (0 : Int32))] (.int (0 : Int32)) := by exact A1353
  show Goes p.tables e below _ (T1349.setTop (mkF m 90 #[.val (.int p0), .val (.int p1), .val (.int p2), .val (.int p3), .val (.int (c8 p0)), .val (.int (c8 p1)), .val (.int (c8 p2)), .val (.int (c8 p3)), .val (.ref b1205), .val (.ref b1257), .unset, .unset, .unset, .unset] [(.ref b1328)]))
  refine X1351.dup (D at_90) rfl ?_
  refine X1351.iconst (x := (2 : Int32)) (D at_91) rfl ?_
  refine X1351.bipush (x := (110 : Int32)) (D at_92) rfl ?_
  show Goes p.tables e below _ (T1349.setTop (mkF m 94 #[.val (.int p0), .val (.int p1), .val (.int p2), .val (.int p3), .val (.int (c8 p0)), .val (.int (c8 p1)), .val (.int (c8 p2)), .val (.int (c8 p3)), .val (.ref b1205), .val (.ref b1257), .unset, .unset, .unset, .unset] [(.int (110 : Int32)), (.int (2 : Int32)), (.ref b1328), (.ref b1328)]))
  refine X1351.castore F1356 ⟨by decide, by decide⟩ 2 rfl (Nat.le_of_ble_eq_true rfl) (by simp) (D at_94) ?_
  intro T1357 h1358 X1359 W1360 A1361
  have F1362 := F1354.wr W1360 (Nat.ne_of_lt lt1336) (Nat.ne_of_lt lt1337)
  have F1363 := F1355.wr W1360 (Nat.ne_of_lt lt1338) (Nat.ne_of_lt lt1339)
  have F1364 : Arv Z h1358 b1328 kb1329 .char (29 : Int32) [(.int (67 : Int32)), (.int (97 : Int32)), (.int (110 : Int32)), (.int (0 : Int32)), (.int (0 : Int32)), (.int (0 : Int32)), (.int (0 : Int32)), (.int (0 : Int32)), (.int (0 : Int32)), (.int (0 : Int32)), (.int (0 : Int32)), (.int (0 : Int32)), (.int (0 : Int32)), (.int (0 : Int32)), (.int (0 : Int32)), (.int (0 : Int32)), (.int (0 : Int32)), (.int (0 : Int32)), (.int (0 : Int32)), (.int (0 : Int32)), (.int (0 : Int32)), (.int (0 : Int32)), (.int (0 : Int32)), (.int (0 : Int32)), (.int (0 : Int32)), (.int (0 : Int32)), (.int (0 : Int32)), (.int (0 : Int32)), (.int (0 : Int32))] (.int (0 : Int32)) := by exact A1361
  show Goes p.tables e below _ (T1357.setTop (mkF m 95 #[.val (.int p0), .val (.int p1), .val (.int p2), .val (.int p3), .val (.int (c8 p0)), .val (.int (c8 p1)), .val (.int (c8 p2)), .val (.int (c8 p3)), .val (.ref b1205), .val (.ref b1257), .unset, .unset, .unset, .unset] [(.ref b1328)]))
  refine X1359.dup (D at_95) rfl ?_
  refine X1359.iconst (x := (3 : Int32)) (D at_96) rfl ?_
  refine X1359.bipush (x := (110 : Int32)) (D at_97) rfl ?_
  show Goes p.tables e below _ (T1357.setTop (mkF m 99 #[.val (.int p0), .val (.int p1), .val (.int p2), .val (.int p3), .val (.int (c8 p0)), .val (.int (c8 p1)), .val (.int (c8 p2)), .val (.int (c8 p3)), .val (.ref b1205), .val (.ref b1257), .unset, .unset, .unset, .unset] [(.int (110 : Int32)), (.int (3 : Int32)), (.ref b1328), (.ref b1328)]))
  refine X1359.castore F1364 ⟨by decide, by decide⟩ 3 rfl (Nat.le_of_ble_eq_true rfl) (by simp) (D at_99) ?_
  intro T1365 h1366 X1367 W1368 A1369
  have F1370 := F1362.wr W1368 (Nat.ne_of_lt lt1336) (Nat.ne_of_lt lt1337)
  have F1371 := F1363.wr W1368 (Nat.ne_of_lt lt1338) (Nat.ne_of_lt lt1339)
  have F1372 : Arv Z h1366 b1328 kb1329 .char (29 : Int32) [(.int (67 : Int32)), (.int (97 : Int32)), (.int (110 : Int32)), (.int (110 : Int32)), (.int (0 : Int32)), (.int (0 : Int32)), (.int (0 : Int32)), (.int (0 : Int32)), (.int (0 : Int32)), (.int (0 : Int32)), (.int (0 : Int32)), (.int (0 : Int32)), (.int (0 : Int32)), (.int (0 : Int32)), (.int (0 : Int32)), (.int (0 : Int32)), (.int (0 : Int32)), (.int (0 : Int32)), (.int (0 : Int32)), (.int (0 : Int32)), (.int (0 : Int32)), (.int (0 : Int32)), (.int (0 : Int32)), (.int (0 : Int32)), (.int (0 : Int32)), (.int (0 : Int32)), (.int (0 : Int32)), (.int (0 : Int32)), (.int (0 : Int32))] (.int (0 : Int32)) := by exact A1369
  show Goes p.tables e below _ (T1365.setTop (mkF m 100 #[.val (.int p0), .val (.int p1), .val (.int p2), .val (.int p3), .val (.int (c8 p0)), .val (.int (c8 p1)), .val (.int (c8 p2)), .val (.int (c8 p3)), .val (.ref b1205), .val (.ref b1257), .unset, .unset, .unset, .unset] [(.ref b1328)]))
  refine X1367.dup (D at_100) rfl ?_
  refine X1367.iconst (x := (4 : Int32)) (D at_101) rfl ?_
  refine X1367.bipush (x := (111 : Int32)) (D at_102) rfl ?_
  show Goes p.tables e below _ (T1365.setTop (mkF m 104 #[.val (.int p0), .val (.int p1), .val (.int p2), .val (.int p3), .val (.int (c8 p0)), .val (.int (c8 p1)), .val (.int (c8 p2)), .val (.int (c8 p3)), .val (.ref b1205), .val (.ref b1257), .unset, .unset, .unset, .unset] [(.int (111 : Int32)), (.int (4 : Int32)), (.ref b1328), (.ref b1328)]))
  refine X1367.castore F1372 ⟨by decide, by decide⟩ 4 rfl (Nat.le_of_ble_eq_true rfl) (by simp) (D at_104) ?_
  intro T1373 h1374 X1375 W1376 A1377
  have F1378 := F1370.wr W1376 (Nat.ne_of_lt lt1336) (Nat.ne_of_lt lt1337)
  have F1379 := F1371.wr W1376 (Nat.ne_of_lt lt1338) (Nat.ne_of_lt lt1339)
  have F1380 : Arv Z h1374 b1328 kb1329 .char (29 : Int32) [(.int (67 : Int32)), (.int (97 : Int32)), (.int (110 : Int32)), (.int (110 : Int32)), (.int (111 : Int32)), (.int (0 : Int32)), (.int (0 : Int32)), (.int (0 : Int32)), (.int (0 : Int32)), (.int (0 : Int32)), (.int (0 : Int32)), (.int (0 : Int32)), (.int (0 : Int32)), (.int (0 : Int32)), (.int (0 : Int32)), (.int (0 : Int32)), (.int (0 : Int32)), (.int (0 : Int32)), (.int (0 : Int32)), (.int (0 : Int32)), (.int (0 : Int32)), (.int (0 : Int32)), (.int (0 : Int32)), (.int (0 : Int32)), (.int (0 : Int32)), (.int (0 : Int32)), (.int (0 : Int32)), (.int (0 : Int32)), (.int (0 : Int32))] (.int (0 : Int32)) := by exact A1377
  show Goes p.tables e below _ (T1373.setTop (mkF m 105 #[.val (.int p0), .val (.int p1), .val (.int p2), .val (.int p3), .val (.int (c8 p0)), .val (.int (c8 p1)), .val (.int (c8 p2)), .val (.int (c8 p3)), .val (.ref b1205), .val (.ref b1257), .unset, .unset, .unset, .unset] [(.ref b1328)]))
  refine X1375.dup (D at_105) rfl ?_
  refine X1375.iconst (x := (5 : Int32)) (D at_106) rfl ?_
  refine X1375.bipush (x := (116 : Int32)) (D at_107) rfl ?_
  show Goes p.tables e below _ (T1373.setTop (mkF m 109 #[.val (.int p0), .val (.int p1), .val (.int p2), .val (.int p3), .val (.int (c8 p0)), .val (.int (c8 p1)), .val (.int (c8 p2)), .val (.int (c8 p3)), .val (.ref b1205), .val (.ref b1257), .unset, .unset, .unset, .unset] [(.int (116 : Int32)), (.int (5 : Int32)), (.ref b1328), (.ref b1328)]))
  refine X1375.castore F1380 ⟨by decide, by decide⟩ 5 rfl (Nat.le_of_ble_eq_true rfl) (by simp) (D at_109) ?_
  intro T1381 h1382 X1383 W1384 A1385
  have F1386 := F1378.wr W1384 (Nat.ne_of_lt lt1336) (Nat.ne_of_lt lt1337)
  have F1387 := F1379.wr W1384 (Nat.ne_of_lt lt1338) (Nat.ne_of_lt lt1339)
  have F1388 : Arv Z h1382 b1328 kb1329 .char (29 : Int32) [(.int (67 : Int32)), (.int (97 : Int32)), (.int (110 : Int32)), (.int (110 : Int32)), (.int (111 : Int32)), (.int (116 : Int32)), (.int (0 : Int32)), (.int (0 : Int32)), (.int (0 : Int32)), (.int (0 : Int32)), (.int (0 : Int32)), (.int (0 : Int32)), (.int (0 : Int32)), (.int (0 : Int32)), (.int (0 : Int32)), (.int (0 : Int32)), (.int (0 : Int32)), (.int (0 : Int32)), (.int (0 : Int32)), (.int (0 : Int32)), (.int (0 : Int32)), (.int (0 : Int32)), (.int (0 : Int32)), (.int (0 : Int32)), (.int (0 : Int32)), (.int (0 : Int32)), (.int (0 : Int32)), (.int (0 : Int32)), (.int (0 : Int32))] (.int (0 : Int32)) := by exact A1385
  show Goes p.tables e below _ (T1381.setTop (mkF m 110 #[.val (.int p0), .val (.int p1), .val (.int p2), .val (.int p3), .val (.int (c8 p0)), .val (.int (c8 p1)), .val (.int (c8 p2)), .val (.int (c8 p3)), .val (.ref b1205), .val (.ref b1257), .unset, .unset, .unset, .unset] [(.ref b1328)]))
  refine X1383.dup (D at_110) rfl ?_
  refine X1383.bipush (x := (6 : Int32)) (D at_111) rfl ?_
  refine X1383.bipush (x := (32 : Int32)) (D at_113) rfl ?_
  show Goes p.tables e below _ (T1381.setTop (mkF m 115 #[.val (.int p0), .val (.int p1), .val (.int p2), .val (.int p3), .val (.int (c8 p0)), .val (.int (c8 p1)), .val (.int (c8 p2)), .val (.int (c8 p3)), .val (.ref b1205), .val (.ref b1257), .unset, .unset, .unset, .unset] [(.int (32 : Int32)), (.int (6 : Int32)), (.ref b1328), (.ref b1328)]))
  refine X1383.castore F1388 ⟨by decide, by decide⟩ 6 rfl (Nat.le_of_ble_eq_true rfl) (by simp) (D at_115) ?_
  intro T1389 h1390 X1391 W1392 A1393
  have F1394 := F1386.wr W1392 (Nat.ne_of_lt lt1336) (Nat.ne_of_lt lt1337)
  have F1395 := F1387.wr W1392 (Nat.ne_of_lt lt1338) (Nat.ne_of_lt lt1339)
  have F1396 : Arv Z h1390 b1328 kb1329 .char (29 : Int32) [(.int (67 : Int32)), (.int (97 : Int32)), (.int (110 : Int32)), (.int (110 : Int32)), (.int (111 : Int32)), (.int (116 : Int32)), (.int (32 : Int32)), (.int (0 : Int32)), (.int (0 : Int32)), (.int (0 : Int32)), (.int (0 : Int32)), (.int (0 : Int32)), (.int (0 : Int32)), (.int (0 : Int32)), (.int (0 : Int32)), (.int (0 : Int32)), (.int (0 : Int32)), (.int (0 : Int32)), (.int (0 : Int32)), (.int (0 : Int32)), (.int (0 : Int32)), (.int (0 : Int32)), (.int (0 : Int32)), (.int (0 : Int32)), (.int (0 : Int32)), (.int (0 : Int32)), (.int (0 : Int32)), (.int (0 : Int32)), (.int (0 : Int32))] (.int (0 : Int32)) := by exact A1393
  show Goes p.tables e below _ (T1389.setTop (mkF m 116 #[.val (.int p0), .val (.int p1), .val (.int p2), .val (.int p3), .val (.int (c8 p0)), .val (.int (c8 p1)), .val (.int (c8 p2)), .val (.int (c8 p3)), .val (.ref b1205), .val (.ref b1257), .unset, .unset, .unset, .unset] [(.ref b1328)]))
  refine X1391.dup (D at_116) rfl ?_
  refine X1391.bipush (x := (7 : Int32)) (D at_117) rfl ?_
  refine X1391.bipush (x := (114 : Int32)) (D at_119) rfl ?_
  show Goes p.tables e below _ (T1389.setTop (mkF m 121 #[.val (.int p0), .val (.int p1), .val (.int p2), .val (.int p3), .val (.int (c8 p0)), .val (.int (c8 p1)), .val (.int (c8 p2)), .val (.int (c8 p3)), .val (.ref b1205), .val (.ref b1257), .unset, .unset, .unset, .unset] [(.int (114 : Int32)), (.int (7 : Int32)), (.ref b1328), (.ref b1328)]))
  refine X1391.castore F1396 ⟨by decide, by decide⟩ 7 rfl (Nat.le_of_ble_eq_true rfl) (by simp) (D at_121) ?_
  intro T1397 h1398 X1399 W1400 A1401
  have F1402 := F1394.wr W1400 (Nat.ne_of_lt lt1336) (Nat.ne_of_lt lt1337)
  have F1403 := F1395.wr W1400 (Nat.ne_of_lt lt1338) (Nat.ne_of_lt lt1339)
  have F1404 : Arv Z h1398 b1328 kb1329 .char (29 : Int32) [(.int (67 : Int32)), (.int (97 : Int32)), (.int (110 : Int32)), (.int (110 : Int32)), (.int (111 : Int32)), (.int (116 : Int32)), (.int (32 : Int32)), (.int (114 : Int32)), (.int (0 : Int32)), (.int (0 : Int32)), (.int (0 : Int32)), (.int (0 : Int32)), (.int (0 : Int32)), (.int (0 : Int32)), (.int (0 : Int32)), (.int (0 : Int32)), (.int (0 : Int32)), (.int (0 : Int32)), (.int (0 : Int32)), (.int (0 : Int32)), (.int (0 : Int32)), (.int (0 : Int32)), (.int (0 : Int32)), (.int (0 : Int32)), (.int (0 : Int32)), (.int (0 : Int32)), (.int (0 : Int32)), (.int (0 : Int32)), (.int (0 : Int32))] (.int (0 : Int32)) := by exact A1401
  show Goes p.tables e below _ (T1397.setTop (mkF m 122 #[.val (.int p0), .val (.int p1), .val (.int p2), .val (.int p3), .val (.int (c8 p0)), .val (.int (c8 p1)), .val (.int (c8 p2)), .val (.int (c8 p3)), .val (.ref b1205), .val (.ref b1257), .unset, .unset, .unset, .unset] [(.ref b1328)]))
  refine X1399.dup (D at_122) rfl ?_
  refine X1399.bipush (x := (8 : Int32)) (D at_123) rfl ?_
  refine X1399.bipush (x := (117 : Int32)) (D at_125) rfl ?_
  show Goes p.tables e below _ (T1397.setTop (mkF m 127 #[.val (.int p0), .val (.int p1), .val (.int p2), .val (.int p3), .val (.int (c8 p0)), .val (.int (c8 p1)), .val (.int (c8 p2)), .val (.int (c8 p3)), .val (.ref b1205), .val (.ref b1257), .unset, .unset, .unset, .unset] [(.int (117 : Int32)), (.int (8 : Int32)), (.ref b1328), (.ref b1328)]))
  refine X1399.castore F1404 ⟨by decide, by decide⟩ 8 rfl (Nat.le_of_ble_eq_true rfl) (by simp) (D at_127) ?_
  intro T1405 h1406 X1407 W1408 A1409
  have F1410 := F1402.wr W1408 (Nat.ne_of_lt lt1336) (Nat.ne_of_lt lt1337)
  have F1411 := F1403.wr W1408 (Nat.ne_of_lt lt1338) (Nat.ne_of_lt lt1339)
  have F1412 : Arv Z h1406 b1328 kb1329 .char (29 : Int32) [(.int (67 : Int32)), (.int (97 : Int32)), (.int (110 : Int32)), (.int (110 : Int32)), (.int (111 : Int32)), (.int (116 : Int32)), (.int (32 : Int32)), (.int (114 : Int32)), (.int (117 : Int32)), (.int (0 : Int32)), (.int (0 : Int32)), (.int (0 : Int32)), (.int (0 : Int32)), (.int (0 : Int32)), (.int (0 : Int32)), (.int (0 : Int32)), (.int (0 : Int32)), (.int (0 : Int32)), (.int (0 : Int32)), (.int (0 : Int32)), (.int (0 : Int32)), (.int (0 : Int32)), (.int (0 : Int32)), (.int (0 : Int32)), (.int (0 : Int32)), (.int (0 : Int32)), (.int (0 : Int32)), (.int (0 : Int32)), (.int (0 : Int32))] (.int (0 : Int32)) := by exact A1409
  show Goes p.tables e below _ (T1405.setTop (mkF m 128 #[.val (.int p0), .val (.int p1), .val (.int p2), .val (.int p3), .val (.int (c8 p0)), .val (.int (c8 p1)), .val (.int (c8 p2)), .val (.int (c8 p3)), .val (.ref b1205), .val (.ref b1257), .unset, .unset, .unset, .unset] [(.ref b1328)]))
  refine X1407.dup (D at_128) rfl ?_
  refine X1407.bipush (x := (9 : Int32)) (D at_129) rfl ?_
  refine X1407.bipush (x := (110 : Int32)) (D at_131) rfl ?_
  show Goes p.tables e below _ (T1405.setTop (mkF m 133 #[.val (.int p0), .val (.int p1), .val (.int p2), .val (.int p3), .val (.int (c8 p0)), .val (.int (c8 p1)), .val (.int (c8 p2)), .val (.int (c8 p3)), .val (.ref b1205), .val (.ref b1257), .unset, .unset, .unset, .unset] [(.int (110 : Int32)), (.int (9 : Int32)), (.ref b1328), (.ref b1328)]))
  refine X1407.castore F1412 ⟨by decide, by decide⟩ 9 rfl (Nat.le_of_ble_eq_true rfl) (by simp) (D at_133) ?_
  intro T1413 h1414 X1415 W1416 A1417
  have F1418 := F1410.wr W1416 (Nat.ne_of_lt lt1336) (Nat.ne_of_lt lt1337)
  have F1419 := F1411.wr W1416 (Nat.ne_of_lt lt1338) (Nat.ne_of_lt lt1339)
  have F1420 : Arv Z h1414 b1328 kb1329 .char (29 : Int32) [(.int (67 : Int32)), (.int (97 : Int32)), (.int (110 : Int32)), (.int (110 : Int32)), (.int (111 : Int32)), (.int (116 : Int32)), (.int (32 : Int32)), (.int (114 : Int32)), (.int (117 : Int32)), (.int (110 : Int32)), (.int (0 : Int32)), (.int (0 : Int32)), (.int (0 : Int32)), (.int (0 : Int32)), (.int (0 : Int32)), (.int (0 : Int32)), (.int (0 : Int32)), (.int (0 : Int32)), (.int (0 : Int32)), (.int (0 : Int32)), (.int (0 : Int32)), (.int (0 : Int32)), (.int (0 : Int32)), (.int (0 : Int32)), (.int (0 : Int32)), (.int (0 : Int32)), (.int (0 : Int32)), (.int (0 : Int32)), (.int (0 : Int32))] (.int (0 : Int32)) := by exact A1417
  show Goes p.tables e below _ (T1413.setTop (mkF m 134 #[.val (.int p0), .val (.int p1), .val (.int p2), .val (.int p3), .val (.int (c8 p0)), .val (.int (c8 p1)), .val (.int (c8 p2)), .val (.int (c8 p3)), .val (.ref b1205), .val (.ref b1257), .unset, .unset, .unset, .unset] [(.ref b1328)]))
  refine X1415.dup (D at_134) rfl ?_
  refine X1415.bipush (x := (10 : Int32)) (D at_135) rfl ?_
  refine X1415.bipush (x := (32 : Int32)) (D at_137) rfl ?_
  show Goes p.tables e below _ (T1413.setTop (mkF m 139 #[.val (.int p0), .val (.int p1), .val (.int p2), .val (.int p3), .val (.int (c8 p0)), .val (.int (c8 p1)), .val (.int (c8 p2)), .val (.int (c8 p3)), .val (.ref b1205), .val (.ref b1257), .unset, .unset, .unset, .unset] [(.int (32 : Int32)), (.int (10 : Int32)), (.ref b1328), (.ref b1328)]))
  refine X1415.castore F1420 ⟨by decide, by decide⟩ 10 rfl (Nat.le_of_ble_eq_true rfl) (by simp) (D at_139) ?_
  intro T1421 h1422 X1423 W1424 A1425
  have F1426 := F1418.wr W1424 (Nat.ne_of_lt lt1336) (Nat.ne_of_lt lt1337)
  have F1427 := F1419.wr W1424 (Nat.ne_of_lt lt1338) (Nat.ne_of_lt lt1339)
  have F1428 : Arv Z h1422 b1328 kb1329 .char (29 : Int32) [(.int (67 : Int32)), (.int (97 : Int32)), (.int (110 : Int32)), (.int (110 : Int32)), (.int (111 : Int32)), (.int (116 : Int32)), (.int (32 : Int32)), (.int (114 : Int32)), (.int (117 : Int32)), (.int (110 : Int32)), (.int (32 : Int32)), (.int (0 : Int32)), (.int (0 : Int32)), (.int (0 : Int32)), (.int (0 : Int32)), (.int (0 : Int32)), (.int (0 : Int32)), (.int (0 : Int32)), (.int (0 : Int32)), (.int (0 : Int32)), (.int (0 : Int32)), (.int (0 : Int32)), (.int (0 : Int32)), (.int (0 : Int32)), (.int (0 : Int32)), (.int (0 : Int32)), (.int (0 : Int32)), (.int (0 : Int32)), (.int (0 : Int32))] (.int (0 : Int32)) := by exact A1425
  show Goes p.tables e below _ (T1421.setTop (mkF m 140 #[.val (.int p0), .val (.int p1), .val (.int p2), .val (.int p3), .val (.int (c8 p0)), .val (.int (c8 p1)), .val (.int (c8 p2)), .val (.int (c8 p3)), .val (.ref b1205), .val (.ref b1257), .unset, .unset, .unset, .unset] [(.ref b1328)]))
  refine X1423.dup (D at_140) rfl ?_
  refine X1423.bipush (x := (11 : Int32)) (D at_141) rfl ?_
  refine X1423.bipush (x := (116 : Int32)) (D at_143) rfl ?_
  show Goes p.tables e below _ (T1421.setTop (mkF m 145 #[.val (.int p0), .val (.int p1), .val (.int p2), .val (.int p3), .val (.int (c8 p0)), .val (.int (c8 p1)), .val (.int (c8 p2)), .val (.int (c8 p3)), .val (.ref b1205), .val (.ref b1257), .unset, .unset, .unset, .unset] [(.int (116 : Int32)), (.int (11 : Int32)), (.ref b1328), (.ref b1328)]))
  refine X1423.castore F1428 ⟨by decide, by decide⟩ 11 rfl (Nat.le_of_ble_eq_true rfl) (by simp) (D at_145) ?_
  intro T1429 h1430 X1431 W1432 A1433
  have F1434 := F1426.wr W1432 (Nat.ne_of_lt lt1336) (Nat.ne_of_lt lt1337)
  have F1435 := F1427.wr W1432 (Nat.ne_of_lt lt1338) (Nat.ne_of_lt lt1339)
  have F1436 : Arv Z h1430 b1328 kb1329 .char (29 : Int32) [(.int (67 : Int32)), (.int (97 : Int32)), (.int (110 : Int32)), (.int (110 : Int32)), (.int (111 : Int32)), (.int (116 : Int32)), (.int (32 : Int32)), (.int (114 : Int32)), (.int (117 : Int32)), (.int (110 : Int32)), (.int (32 : Int32)), (.int (116 : Int32)), (.int (0 : Int32)), (.int (0 : Int32)), (.int (0 : Int32)), (.int (0 : Int32)), (.int (0 : Int32)), (.int (0 : Int32)), (.int (0 : Int32)), (.int (0 : Int32)), (.int (0 : Int32)), (.int (0 : Int32)), (.int (0 : Int32)), (.int (0 : Int32)), (.int (0 : Int32)), (.int (0 : Int32)), (.int (0 : Int32)), (.int (0 : Int32)), (.int (0 : Int32))] (.int (0 : Int32)) := by exact A1433
  show Goes p.tables e below _ (T1429.setTop (mkF m 146 #[.val (.int p0), .val (.int p1), .val (.int p2), .val (.int p3), .val (.int (c8 p0)), .val (.int (c8 p1)), .val (.int (c8 p2)), .val (.int (c8 p3)), .val (.ref b1205), .val (.ref b1257), .unset, .unset, .unset, .unset] [(.ref b1328)]))
  refine X1431.dup (D at_146) rfl ?_
  refine X1431.bipush (x := (12 : Int32)) (D at_147) rfl ?_
  refine X1431.bipush (x := (104 : Int32)) (D at_149) rfl ?_
  show Goes p.tables e below _ (T1429.setTop (mkF m 151 #[.val (.int p0), .val (.int p1), .val (.int p2), .val (.int p3), .val (.int (c8 p0)), .val (.int (c8 p1)), .val (.int (c8 p2)), .val (.int (c8 p3)), .val (.ref b1205), .val (.ref b1257), .unset, .unset, .unset, .unset] [(.int (104 : Int32)), (.int (12 : Int32)), (.ref b1328), (.ref b1328)]))
  refine X1431.castore F1436 ⟨by decide, by decide⟩ 12 rfl (Nat.le_of_ble_eq_true rfl) (by simp) (D at_151) ?_
  intro T1437 h1438 X1439 W1440 A1441
  have F1442 := F1434.wr W1440 (Nat.ne_of_lt lt1336) (Nat.ne_of_lt lt1337)
  have F1443 := F1435.wr W1440 (Nat.ne_of_lt lt1338) (Nat.ne_of_lt lt1339)
  have F1444 : Arv Z h1438 b1328 kb1329 .char (29 : Int32) [(.int (67 : Int32)), (.int (97 : Int32)), (.int (110 : Int32)), (.int (110 : Int32)), (.int (111 : Int32)), (.int (116 : Int32)), (.int (32 : Int32)), (.int (114 : Int32)), (.int (117 : Int32)), (.int (110 : Int32)), (.int (32 : Int32)), (.int (116 : Int32)), (.int (104 : Int32)), (.int (0 : Int32)), (.int (0 : Int32)), (.int (0 : Int32)), (.int (0 : Int32)), (.int (0 : Int32)), (.int (0 : Int32)), (.int (0 : Int32)), (.int (0 : Int32)), (.int (0 : Int32)), (.int (0 : Int32)), (.int (0 : Int32)), (.int (0 : Int32)), (.int (0 : Int32)), (.int (0 : Int32)), (.int (0 : Int32)), (.int (0 : Int32))] (.int (0 : Int32)) := by exact A1441
  show Goes p.tables e below _ (T1437.setTop (mkF m 152 #[.val (.int p0), .val (.int p1), .val (.int p2), .val (.int p3), .val (.int (c8 p0)), .val (.int (c8 p1)), .val (.int (c8 p2)), .val (.int (c8 p3)), .val (.ref b1205), .val (.ref b1257), .unset, .unset, .unset, .unset] [(.ref b1328)]))
  refine X1439.dup (D at_152) rfl ?_
  refine X1439.bipush (x := (13 : Int32)) (D at_153) rfl ?_
  refine X1439.bipush (x := (101 : Int32)) (D at_155) rfl ?_
  show Goes p.tables e below _ (T1437.setTop (mkF m 157 #[.val (.int p0), .val (.int p1), .val (.int p2), .val (.int p3), .val (.int (c8 p0)), .val (.int (c8 p1)), .val (.int (c8 p2)), .val (.int (c8 p3)), .val (.ref b1205), .val (.ref b1257), .unset, .unset, .unset, .unset] [(.int (101 : Int32)), (.int (13 : Int32)), (.ref b1328), (.ref b1328)]))
  refine X1439.castore F1444 ⟨by decide, by decide⟩ 13 rfl (Nat.le_of_ble_eq_true rfl) (by simp) (D at_157) ?_
  intro T1445 h1446 X1447 W1448 A1449
  have F1450 := F1442.wr W1448 (Nat.ne_of_lt lt1336) (Nat.ne_of_lt lt1337)
  have F1451 := F1443.wr W1448 (Nat.ne_of_lt lt1338) (Nat.ne_of_lt lt1339)
  have F1452 : Arv Z h1446 b1328 kb1329 .char (29 : Int32) [(.int (67 : Int32)), (.int (97 : Int32)), (.int (110 : Int32)), (.int (110 : Int32)), (.int (111 : Int32)), (.int (116 : Int32)), (.int (32 : Int32)), (.int (114 : Int32)), (.int (117 : Int32)), (.int (110 : Int32)), (.int (32 : Int32)), (.int (116 : Int32)), (.int (104 : Int32)), (.int (101 : Int32)), (.int (0 : Int32)), (.int (0 : Int32)), (.int (0 : Int32)), (.int (0 : Int32)), (.int (0 : Int32)), (.int (0 : Int32)), (.int (0 : Int32)), (.int (0 : Int32)), (.int (0 : Int32)), (.int (0 : Int32)), (.int (0 : Int32)), (.int (0 : Int32)), (.int (0 : Int32)), (.int (0 : Int32)), (.int (0 : Int32))] (.int (0 : Int32)) := by exact A1449
  show Goes p.tables e below _ (T1445.setTop (mkF m 158 #[.val (.int p0), .val (.int p1), .val (.int p2), .val (.int p3), .val (.int (c8 p0)), .val (.int (c8 p1)), .val (.int (c8 p2)), .val (.int (c8 p3)), .val (.ref b1205), .val (.ref b1257), .unset, .unset, .unset, .unset] [(.ref b1328)]))
  refine X1447.dup (D at_158) rfl ?_
  refine X1447.bipush (x := (14 : Int32)) (D at_159) rfl ?_
  refine X1447.bipush (x := (32 : Int32)) (D at_161) rfl ?_
  show Goes p.tables e below _ (T1445.setTop (mkF m 163 #[.val (.int p0), .val (.int p1), .val (.int p2), .val (.int p3), .val (.int (c8 p0)), .val (.int (c8 p1)), .val (.int (c8 p2)), .val (.int (c8 p3)), .val (.ref b1205), .val (.ref b1257), .unset, .unset, .unset, .unset] [(.int (32 : Int32)), (.int (14 : Int32)), (.ref b1328), (.ref b1328)]))
  refine X1447.castore F1452 ⟨by decide, by decide⟩ 14 rfl (Nat.le_of_ble_eq_true rfl) (by simp) (D at_163) ?_
  intro T1453 h1454 X1455 W1456 A1457
  have F1458 := F1450.wr W1456 (Nat.ne_of_lt lt1336) (Nat.ne_of_lt lt1337)
  have F1459 := F1451.wr W1456 (Nat.ne_of_lt lt1338) (Nat.ne_of_lt lt1339)
  have F1460 : Arv Z h1454 b1328 kb1329 .char (29 : Int32) [(.int (67 : Int32)), (.int (97 : Int32)), (.int (110 : Int32)), (.int (110 : Int32)), (.int (111 : Int32)), (.int (116 : Int32)), (.int (32 : Int32)), (.int (114 : Int32)), (.int (117 : Int32)), (.int (110 : Int32)), (.int (32 : Int32)), (.int (116 : Int32)), (.int (104 : Int32)), (.int (101 : Int32)), (.int (32 : Int32)), (.int (0 : Int32)), (.int (0 : Int32)), (.int (0 : Int32)), (.int (0 : Int32)), (.int (0 : Int32)), (.int (0 : Int32)), (.int (0 : Int32)), (.int (0 : Int32)), (.int (0 : Int32)), (.int (0 : Int32)), (.int (0 : Int32)), (.int (0 : Int32)), (.int (0 : Int32)), (.int (0 : Int32))] (.int (0 : Int32)) := by exact A1457
  show Goes p.tables e below _ (T1453.setTop (mkF m 164 #[.val (.int p0), .val (.int p1), .val (.int p2), .val (.int p3), .val (.int (c8 p0)), .val (.int (c8 p1)), .val (.int (c8 p2)), .val (.int (c8 p3)), .val (.ref b1205), .val (.ref b1257), .unset, .unset, .unset, .unset] [(.ref b1328)]))
  refine X1455.dup (D at_164) rfl ?_
  refine X1455.bipush (x := (15 : Int32)) (D at_165) rfl ?_
  refine X1455.bipush (x := (113 : Int32)) (D at_167) rfl ?_
  show Goes p.tables e below _ (T1453.setTop (mkF m 169 #[.val (.int p0), .val (.int p1), .val (.int p2), .val (.int p3), .val (.int (c8 p0)), .val (.int (c8 p1)), .val (.int (c8 p2)), .val (.int (c8 p3)), .val (.ref b1205), .val (.ref b1257), .unset, .unset, .unset, .unset] [(.int (113 : Int32)), (.int (15 : Int32)), (.ref b1328), (.ref b1328)]))
  refine X1455.castore F1460 ⟨by decide, by decide⟩ 15 rfl (Nat.le_of_ble_eq_true rfl) (by simp) (D at_169) ?_
  intro T1461 h1462 X1463 W1464 A1465
  have F1466 := F1458.wr W1464 (Nat.ne_of_lt lt1336) (Nat.ne_of_lt lt1337)
  have F1467 := F1459.wr W1464 (Nat.ne_of_lt lt1338) (Nat.ne_of_lt lt1339)
  have F1468 : Arv Z h1462 b1328 kb1329 .char (29 : Int32) [(.int (67 : Int32)), (.int (97 : Int32)), (.int (110 : Int32)), (.int (110 : Int32)), (.int (111 : Int32)), (.int (116 : Int32)), (.int (32 : Int32)), (.int (114 : Int32)), (.int (117 : Int32)), (.int (110 : Int32)), (.int (32 : Int32)), (.int (116 : Int32)), (.int (104 : Int32)), (.int (101 : Int32)), (.int (32 : Int32)), (.int (113 : Int32)), (.int (0 : Int32)), (.int (0 : Int32)), (.int (0 : Int32)), (.int (0 : Int32)), (.int (0 : Int32)), (.int (0 : Int32)), (.int (0 : Int32)), (.int (0 : Int32)), (.int (0 : Int32)), (.int (0 : Int32)), (.int (0 : Int32)), (.int (0 : Int32)), (.int (0 : Int32))] (.int (0 : Int32)) := by exact A1465
  show Goes p.tables e below _ (T1461.setTop (mkF m 170 #[.val (.int p0), .val (.int p1), .val (.int p2), .val (.int p3), .val (.int (c8 p0)), .val (.int (c8 p1)), .val (.int (c8 p2)), .val (.int (c8 p3)), .val (.ref b1205), .val (.ref b1257), .unset, .unset, .unset, .unset] [(.ref b1328)]))
  refine X1463.dup (D at_170) rfl ?_
  refine X1463.bipush (x := (16 : Int32)) (D at_171) rfl ?_
  refine X1463.bipush (x := (117 : Int32)) (D at_173) rfl ?_
  show Goes p.tables e below _ (T1461.setTop (mkF m 175 #[.val (.int p0), .val (.int p1), .val (.int p2), .val (.int p3), .val (.int (c8 p0)), .val (.int (c8 p1)), .val (.int (c8 p2)), .val (.int (c8 p3)), .val (.ref b1205), .val (.ref b1257), .unset, .unset, .unset, .unset] [(.int (117 : Int32)), (.int (16 : Int32)), (.ref b1328), (.ref b1328)]))
  refine X1463.castore F1468 ⟨by decide, by decide⟩ 16 rfl (Nat.le_of_ble_eq_true rfl) (by simp) (D at_175) ?_
  intro T1469 h1470 X1471 W1472 A1473
  have F1474 := F1466.wr W1472 (Nat.ne_of_lt lt1336) (Nat.ne_of_lt lt1337)
  have F1475 := F1467.wr W1472 (Nat.ne_of_lt lt1338) (Nat.ne_of_lt lt1339)
  have F1476 : Arv Z h1470 b1328 kb1329 .char (29 : Int32) [(.int (67 : Int32)), (.int (97 : Int32)), (.int (110 : Int32)), (.int (110 : Int32)), (.int (111 : Int32)), (.int (116 : Int32)), (.int (32 : Int32)), (.int (114 : Int32)), (.int (117 : Int32)), (.int (110 : Int32)), (.int (32 : Int32)), (.int (116 : Int32)), (.int (104 : Int32)), (.int (101 : Int32)), (.int (32 : Int32)), (.int (113 : Int32)), (.int (117 : Int32)), (.int (0 : Int32)), (.int (0 : Int32)), (.int (0 : Int32)), (.int (0 : Int32)), (.int (0 : Int32)), (.int (0 : Int32)), (.int (0 : Int32)), (.int (0 : Int32)), (.int (0 : Int32)), (.int (0 : Int32)), (.int (0 : Int32)), (.int (0 : Int32))] (.int (0 : Int32)) := by exact A1473
  show Goes p.tables e below _ (T1469.setTop (mkF m 176 #[.val (.int p0), .val (.int p1), .val (.int p2), .val (.int p3), .val (.int (c8 p0)), .val (.int (c8 p1)), .val (.int (c8 p2)), .val (.int (c8 p3)), .val (.ref b1205), .val (.ref b1257), .unset, .unset, .unset, .unset] [(.ref b1328)]))
  refine X1471.dup (D at_176) rfl ?_
  refine X1471.bipush (x := (17 : Int32)) (D at_177) rfl ?_
  refine X1471.bipush (x := (101 : Int32)) (D at_179) rfl ?_
  show Goes p.tables e below _ (T1469.setTop (mkF m 181 #[.val (.int p0), .val (.int p1), .val (.int p2), .val (.int p3), .val (.int (c8 p0)), .val (.int (c8 p1)), .val (.int (c8 p2)), .val (.int (c8 p3)), .val (.ref b1205), .val (.ref b1257), .unset, .unset, .unset, .unset] [(.int (101 : Int32)), (.int (17 : Int32)), (.ref b1328), (.ref b1328)]))
  refine X1471.castore F1476 ⟨by decide, by decide⟩ 17 rfl (Nat.le_of_ble_eq_true rfl) (by simp) (D at_181) ?_
  intro T1477 h1478 X1479 W1480 A1481
  have F1482 := F1474.wr W1480 (Nat.ne_of_lt lt1336) (Nat.ne_of_lt lt1337)
  have F1483 := F1475.wr W1480 (Nat.ne_of_lt lt1338) (Nat.ne_of_lt lt1339)
  have F1484 : Arv Z h1478 b1328 kb1329 .char (29 : Int32) [(.int (67 : Int32)), (.int (97 : Int32)), (.int (110 : Int32)), (.int (110 : Int32)), (.int (111 : Int32)), (.int (116 : Int32)), (.int (32 : Int32)), (.int (114 : Int32)), (.int (117 : Int32)), (.int (110 : Int32)), (.int (32 : Int32)), (.int (116 : Int32)), (.int (104 : Int32)), (.int (101 : Int32)), (.int (32 : Int32)), (.int (113 : Int32)), (.int (117 : Int32)), (.int (101 : Int32)), (.int (0 : Int32)), (.int (0 : Int32)), (.int (0 : Int32)), (.int (0 : Int32)), (.int (0 : Int32)), (.int (0 : Int32)), (.int (0 : Int32)), (.int (0 : Int32)), (.int (0 : Int32)), (.int (0 : Int32)), (.int (0 : Int32))] (.int (0 : Int32)) := by exact A1481
  show Goes p.tables e below _ (T1477.setTop (mkF m 182 #[.val (.int p0), .val (.int p1), .val (.int p2), .val (.int p3), .val (.int (c8 p0)), .val (.int (c8 p1)), .val (.int (c8 p2)), .val (.int (c8 p3)), .val (.ref b1205), .val (.ref b1257), .unset, .unset, .unset, .unset] [(.ref b1328)]))
  refine X1479.dup (D at_182) rfl ?_
  refine X1479.bipush (x := (18 : Int32)) (D at_183) rfl ?_
  refine X1479.bipush (x := (114 : Int32)) (D at_185) rfl ?_
  show Goes p.tables e below _ (T1477.setTop (mkF m 187 #[.val (.int p0), .val (.int p1), .val (.int p2), .val (.int p3), .val (.int (c8 p0)), .val (.int (c8 p1)), .val (.int (c8 p2)), .val (.int (c8 p3)), .val (.ref b1205), .val (.ref b1257), .unset, .unset, .unset, .unset] [(.int (114 : Int32)), (.int (18 : Int32)), (.ref b1328), (.ref b1328)]))
  refine X1479.castore F1484 ⟨by decide, by decide⟩ 18 rfl (Nat.le_of_ble_eq_true rfl) (by simp) (D at_187) ?_
  intro T1485 h1486 X1487 W1488 A1489
  have F1490 := F1482.wr W1488 (Nat.ne_of_lt lt1336) (Nat.ne_of_lt lt1337)
  have F1491 := F1483.wr W1488 (Nat.ne_of_lt lt1338) (Nat.ne_of_lt lt1339)
  have F1492 : Arv Z h1486 b1328 kb1329 .char (29 : Int32) [(.int (67 : Int32)), (.int (97 : Int32)), (.int (110 : Int32)), (.int (110 : Int32)), (.int (111 : Int32)), (.int (116 : Int32)), (.int (32 : Int32)), (.int (114 : Int32)), (.int (117 : Int32)), (.int (110 : Int32)), (.int (32 : Int32)), (.int (116 : Int32)), (.int (104 : Int32)), (.int (101 : Int32)), (.int (32 : Int32)), (.int (113 : Int32)), (.int (117 : Int32)), (.int (101 : Int32)), (.int (114 : Int32)), (.int (0 : Int32)), (.int (0 : Int32)), (.int (0 : Int32)), (.int (0 : Int32)), (.int (0 : Int32)), (.int (0 : Int32)), (.int (0 : Int32)), (.int (0 : Int32)), (.int (0 : Int32)), (.int (0 : Int32))] (.int (0 : Int32)) := by exact A1489
  show Goes p.tables e below _ (T1485.setTop (mkF m 188 #[.val (.int p0), .val (.int p1), .val (.int p2), .val (.int p3), .val (.int (c8 p0)), .val (.int (c8 p1)), .val (.int (c8 p2)), .val (.int (c8 p3)), .val (.ref b1205), .val (.ref b1257), .unset, .unset, .unset, .unset] [(.ref b1328)]))
  refine X1487.dup (D at_188) rfl ?_
  refine X1487.bipush (x := (19 : Int32)) (D at_189) rfl ?_
  refine X1487.bipush (x := (121 : Int32)) (D at_191) rfl ?_
  show Goes p.tables e below _ (T1485.setTop (mkF m 193 #[.val (.int p0), .val (.int p1), .val (.int p2), .val (.int p3), .val (.int (c8 p0)), .val (.int (c8 p1)), .val (.int (c8 p2)), .val (.int (c8 p3)), .val (.ref b1205), .val (.ref b1257), .unset, .unset, .unset, .unset] [(.int (121 : Int32)), (.int (19 : Int32)), (.ref b1328), (.ref b1328)]))
  refine X1487.castore F1492 ⟨by decide, by decide⟩ 19 rfl (Nat.le_of_ble_eq_true rfl) (by simp) (D at_193) ?_
  intro T1493 h1494 X1495 W1496 A1497
  have F1498 := F1490.wr W1496 (Nat.ne_of_lt lt1336) (Nat.ne_of_lt lt1337)
  have F1499 := F1491.wr W1496 (Nat.ne_of_lt lt1338) (Nat.ne_of_lt lt1339)
  have F1500 : Arv Z h1494 b1328 kb1329 .char (29 : Int32) [(.int (67 : Int32)), (.int (97 : Int32)), (.int (110 : Int32)), (.int (110 : Int32)), (.int (111 : Int32)), (.int (116 : Int32)), (.int (32 : Int32)), (.int (114 : Int32)), (.int (117 : Int32)), (.int (110 : Int32)), (.int (32 : Int32)), (.int (116 : Int32)), (.int (104 : Int32)), (.int (101 : Int32)), (.int (32 : Int32)), (.int (113 : Int32)), (.int (117 : Int32)), (.int (101 : Int32)), (.int (114 : Int32)), (.int (121 : Int32)), (.int (0 : Int32)), (.int (0 : Int32)), (.int (0 : Int32)), (.int (0 : Int32)), (.int (0 : Int32)), (.int (0 : Int32)), (.int (0 : Int32)), (.int (0 : Int32)), (.int (0 : Int32))] (.int (0 : Int32)) := by exact A1497
  show Goes p.tables e below _ (T1493.setTop (mkF m 194 #[.val (.int p0), .val (.int p1), .val (.int p2), .val (.int p3), .val (.int (c8 p0)), .val (.int (c8 p1)), .val (.int (c8 p2)), .val (.int (c8 p3)), .val (.ref b1205), .val (.ref b1257), .unset, .unset, .unset, .unset] [(.ref b1328)]))
  refine X1495.dup (D at_194) rfl ?_
  refine X1495.bipush (x := (20 : Int32)) (D at_195) rfl ?_
  refine X1495.bipush (x := (32 : Int32)) (D at_197) rfl ?_
  show Goes p.tables e below _ (T1493.setTop (mkF m 199 #[.val (.int p0), .val (.int p1), .val (.int p2), .val (.int p3), .val (.int (c8 p0)), .val (.int (c8 p1)), .val (.int (c8 p2)), .val (.int (c8 p3)), .val (.ref b1205), .val (.ref b1257), .unset, .unset, .unset, .unset] [(.int (32 : Int32)), (.int (20 : Int32)), (.ref b1328), (.ref b1328)]))
  refine X1495.castore F1500 ⟨by decide, by decide⟩ 20 rfl (Nat.le_of_ble_eq_true rfl) (by simp) (D at_199) ?_
  intro T1501 h1502 X1503 W1504 A1505
  have F1506 := F1498.wr W1504 (Nat.ne_of_lt lt1336) (Nat.ne_of_lt lt1337)
  have F1507 := F1499.wr W1504 (Nat.ne_of_lt lt1338) (Nat.ne_of_lt lt1339)
  have F1508 : Arv Z h1502 b1328 kb1329 .char (29 : Int32) [(.int (67 : Int32)), (.int (97 : Int32)), (.int (110 : Int32)), (.int (110 : Int32)), (.int (111 : Int32)), (.int (116 : Int32)), (.int (32 : Int32)), (.int (114 : Int32)), (.int (117 : Int32)), (.int (110 : Int32)), (.int (32 : Int32)), (.int (116 : Int32)), (.int (104 : Int32)), (.int (101 : Int32)), (.int (32 : Int32)), (.int (113 : Int32)), (.int (117 : Int32)), (.int (101 : Int32)), (.int (114 : Int32)), (.int (121 : Int32)), (.int (32 : Int32)), (.int (0 : Int32)), (.int (0 : Int32)), (.int (0 : Int32)), (.int (0 : Int32)), (.int (0 : Int32)), (.int (0 : Int32)), (.int (0 : Int32)), (.int (0 : Int32))] (.int (0 : Int32)) := by exact A1505
  show Goes p.tables e below _ (T1501.setTop (mkF m 200 #[.val (.int p0), .val (.int p1), .val (.int p2), .val (.int p3), .val (.int (c8 p0)), .val (.int (c8 p1)), .val (.int (c8 p2)), .val (.int (c8 p3)), .val (.ref b1205), .val (.ref b1257), .unset, .unset, .unset, .unset] [(.ref b1328)]))
  refine X1503.dup (D at_200) rfl ?_
  refine X1503.bipush (x := (21 : Int32)) (D at_201) rfl ?_
  refine X1503.bipush (x := (39 : Int32)) (D at_203) rfl ?_
  show Goes p.tables e below _ (T1501.setTop (mkF m 205 #[.val (.int p0), .val (.int p1), .val (.int p2), .val (.int p3), .val (.int (c8 p0)), .val (.int (c8 p1)), .val (.int (c8 p2)), .val (.int (c8 p3)), .val (.ref b1205), .val (.ref b1257), .unset, .unset, .unset, .unset] [(.int (39 : Int32)), (.int (21 : Int32)), (.ref b1328), (.ref b1328)]))
  refine X1503.castore F1508 ⟨by decide, by decide⟩ 21 rfl (Nat.le_of_ble_eq_true rfl) (by simp) (D at_205) ?_
  intro T1509 h1510 X1511 W1512 A1513
  have F1514 := F1506.wr W1512 (Nat.ne_of_lt lt1336) (Nat.ne_of_lt lt1337)
  have F1515 := F1507.wr W1512 (Nat.ne_of_lt lt1338) (Nat.ne_of_lt lt1339)
  have F1516 : Arv Z h1510 b1328 kb1329 .char (29 : Int32) [(.int (67 : Int32)), (.int (97 : Int32)), (.int (110 : Int32)), (.int (110 : Int32)), (.int (111 : Int32)), (.int (116 : Int32)), (.int (32 : Int32)), (.int (114 : Int32)), (.int (117 : Int32)), (.int (110 : Int32)), (.int (32 : Int32)), (.int (116 : Int32)), (.int (104 : Int32)), (.int (101 : Int32)), (.int (32 : Int32)), (.int (113 : Int32)), (.int (117 : Int32)), (.int (101 : Int32)), (.int (114 : Int32)), (.int (121 : Int32)), (.int (32 : Int32)), (.int (39 : Int32)), (.int (0 : Int32)), (.int (0 : Int32)), (.int (0 : Int32)), (.int (0 : Int32)), (.int (0 : Int32)), (.int (0 : Int32)), (.int (0 : Int32))] (.int (0 : Int32)) := by exact A1513
  show Goes p.tables e below _ (T1509.setTop (mkF m 206 #[.val (.int p0), .val (.int p1), .val (.int p2), .val (.int p3), .val (.int (c8 p0)), .val (.int (c8 p1)), .val (.int (c8 p2)), .val (.int (c8 p3)), .val (.ref b1205), .val (.ref b1257), .unset, .unset, .unset, .unset] [(.ref b1328)]))
  refine X1511.dup (D at_206) rfl ?_
  refine X1511.bipush (x := (22 : Int32)) (D at_207) rfl ?_
  refine X1511.iload (x := (c8 p0)) (D at_209) rfl ?_
  show Goes p.tables e below _ (T1509.setTop (mkF m 211 #[.val (.int p0), .val (.int p1), .val (.int p2), .val (.int p3), .val (.int (c8 p0)), .val (.int (c8 p1)), .val (.int (c8 p2)), .val (.int (c8 p3)), .val (.ref b1205), .val (.ref b1257), .unset, .unset, .unset, .unset] [(.int (c8 p0)), (.int (22 : Int32)), (.ref b1328), (.ref b1328)]))
  refine X1511.castore F1516 ⟨by decide, by decide⟩ 22 rfl (Nat.le_of_ble_eq_true rfl) (by simp) (D at_211) ?_
  intro T1517 h1518 X1519 W1520 A1521
  have F1522 := F1514.wr W1520 (Nat.ne_of_lt lt1336) (Nat.ne_of_lt lt1337)
  have F1523 := F1515.wr W1520 (Nat.ne_of_lt lt1338) (Nat.ne_of_lt lt1339)
  have F1524 : Arv Z h1518 b1328 kb1329 .char (29 : Int32) [(.int (67 : Int32)), (.int (97 : Int32)), (.int (110 : Int32)), (.int (110 : Int32)), (.int (111 : Int32)), (.int (116 : Int32)), (.int (32 : Int32)), (.int (114 : Int32)), (.int (117 : Int32)), (.int (110 : Int32)), (.int (32 : Int32)), (.int (116 : Int32)), (.int (104 : Int32)), (.int (101 : Int32)), (.int (32 : Int32)), (.int (113 : Int32)), (.int (117 : Int32)), (.int (101 : Int32)), (.int (114 : Int32)), (.int (121 : Int32)), (.int (32 : Int32)), (.int (39 : Int32)), (.int (c8 p0)), (.int (0 : Int32)), (.int (0 : Int32)), (.int (0 : Int32)), (.int (0 : Int32)), (.int (0 : Int32)), (.int (0 : Int32))] (.int (0 : Int32)) := by rw [nar_c8 p0] at A1521; exact A1521
  show Goes p.tables e below _ (T1517.setTop (mkF m 212 #[.val (.int p0), .val (.int p1), .val (.int p2), .val (.int p3), .val (.int (c8 p0)), .val (.int (c8 p1)), .val (.int (c8 p2)), .val (.int (c8 p3)), .val (.ref b1205), .val (.ref b1257), .unset, .unset, .unset, .unset] [(.ref b1328)]))
  refine X1519.dup (D at_212) rfl ?_
  refine X1519.bipush (x := (23 : Int32)) (D at_213) rfl ?_
  refine X1519.iload (x := (c8 p1)) (D at_215) rfl ?_
  show Goes p.tables e below _ (T1517.setTop (mkF m 217 #[.val (.int p0), .val (.int p1), .val (.int p2), .val (.int p3), .val (.int (c8 p0)), .val (.int (c8 p1)), .val (.int (c8 p2)), .val (.int (c8 p3)), .val (.ref b1205), .val (.ref b1257), .unset, .unset, .unset, .unset] [(.int (c8 p1)), (.int (23 : Int32)), (.ref b1328), (.ref b1328)]))
  refine X1519.castore F1524 ⟨by decide, by decide⟩ 23 rfl (Nat.le_of_ble_eq_true rfl) (by simp) (D at_217) ?_
  intro T1525 h1526 X1527 W1528 A1529
  have F1530 := F1522.wr W1528 (Nat.ne_of_lt lt1336) (Nat.ne_of_lt lt1337)
  have F1531 := F1523.wr W1528 (Nat.ne_of_lt lt1338) (Nat.ne_of_lt lt1339)
  have F1532 : Arv Z h1526 b1328 kb1329 .char (29 : Int32) [(.int (67 : Int32)), (.int (97 : Int32)), (.int (110 : Int32)), (.int (110 : Int32)), (.int (111 : Int32)), (.int (116 : Int32)), (.int (32 : Int32)), (.int (114 : Int32)), (.int (117 : Int32)), (.int (110 : Int32)), (.int (32 : Int32)), (.int (116 : Int32)), (.int (104 : Int32)), (.int (101 : Int32)), (.int (32 : Int32)), (.int (113 : Int32)), (.int (117 : Int32)), (.int (101 : Int32)), (.int (114 : Int32)), (.int (121 : Int32)), (.int (32 : Int32)), (.int (39 : Int32)), (.int (c8 p0)), (.int (c8 p1)), (.int (0 : Int32)), (.int (0 : Int32)), (.int (0 : Int32)), (.int (0 : Int32)), (.int (0 : Int32))] (.int (0 : Int32)) := by rw [nar_c8 p1] at A1529; exact A1529
  show Goes p.tables e below _ (T1525.setTop (mkF m 218 #[.val (.int p0), .val (.int p1), .val (.int p2), .val (.int p3), .val (.int (c8 p0)), .val (.int (c8 p1)), .val (.int (c8 p2)), .val (.int (c8 p3)), .val (.ref b1205), .val (.ref b1257), .unset, .unset, .unset, .unset] [(.ref b1328)]))
  refine X1527.dup (D at_218) rfl ?_
  refine X1527.bipush (x := (24 : Int32)) (D at_219) rfl ?_
  refine X1527.bipush (x := (39 : Int32)) (D at_221) rfl ?_
  show Goes p.tables e below _ (T1525.setTop (mkF m 223 #[.val (.int p0), .val (.int p1), .val (.int p2), .val (.int p3), .val (.int (c8 p0)), .val (.int (c8 p1)), .val (.int (c8 p2)), .val (.int (c8 p3)), .val (.ref b1205), .val (.ref b1257), .unset, .unset, .unset, .unset] [(.int (39 : Int32)), (.int (24 : Int32)), (.ref b1328), (.ref b1328)]))
  refine X1527.castore F1532 ⟨by decide, by decide⟩ 24 rfl (Nat.le_of_ble_eq_true rfl) (by simp) (D at_223) ?_
  intro T1533 h1534 X1535 W1536 A1537
  have F1538 := F1530.wr W1536 (Nat.ne_of_lt lt1336) (Nat.ne_of_lt lt1337)
  have F1539 := F1531.wr W1536 (Nat.ne_of_lt lt1338) (Nat.ne_of_lt lt1339)
  have F1540 : Arv Z h1534 b1328 kb1329 .char (29 : Int32) [(.int (67 : Int32)), (.int (97 : Int32)), (.int (110 : Int32)), (.int (110 : Int32)), (.int (111 : Int32)), (.int (116 : Int32)), (.int (32 : Int32)), (.int (114 : Int32)), (.int (117 : Int32)), (.int (110 : Int32)), (.int (32 : Int32)), (.int (116 : Int32)), (.int (104 : Int32)), (.int (101 : Int32)), (.int (32 : Int32)), (.int (113 : Int32)), (.int (117 : Int32)), (.int (101 : Int32)), (.int (114 : Int32)), (.int (121 : Int32)), (.int (32 : Int32)), (.int (39 : Int32)), (.int (c8 p0)), (.int (c8 p1)), (.int (39 : Int32)), (.int (0 : Int32)), (.int (0 : Int32)), (.int (0 : Int32)), (.int (0 : Int32))] (.int (0 : Int32)) := by exact A1537
  show Goes p.tables e below _ (T1533.setTop (mkF m 224 #[.val (.int p0), .val (.int p1), .val (.int p2), .val (.int p3), .val (.int (c8 p0)), .val (.int (c8 p1)), .val (.int (c8 p2)), .val (.int (c8 p3)), .val (.ref b1205), .val (.ref b1257), .unset, .unset, .unset, .unset] [(.ref b1328)]))
  refine X1535.dup (D at_224) rfl ?_
  refine X1535.bipush (x := (25 : Int32)) (D at_225) rfl ?_
  refine X1535.bipush (x := (58 : Int32)) (D at_227) rfl ?_
  show Goes p.tables e below _ (T1533.setTop (mkF m 229 #[.val (.int p0), .val (.int p1), .val (.int p2), .val (.int p3), .val (.int (c8 p0)), .val (.int (c8 p1)), .val (.int (c8 p2)), .val (.int (c8 p3)), .val (.ref b1205), .val (.ref b1257), .unset, .unset, .unset, .unset] [(.int (58 : Int32)), (.int (25 : Int32)), (.ref b1328), (.ref b1328)]))
  refine X1535.castore F1540 ⟨by decide, by decide⟩ 25 rfl (Nat.le_of_ble_eq_true rfl) (by simp) (D at_229) ?_
  intro T1541 h1542 X1543 W1544 A1545
  have F1546 := F1538.wr W1544 (Nat.ne_of_lt lt1336) (Nat.ne_of_lt lt1337)
  have F1547 := F1539.wr W1544 (Nat.ne_of_lt lt1338) (Nat.ne_of_lt lt1339)
  have F1548 : Arv Z h1542 b1328 kb1329 .char (29 : Int32) [(.int (67 : Int32)), (.int (97 : Int32)), (.int (110 : Int32)), (.int (110 : Int32)), (.int (111 : Int32)), (.int (116 : Int32)), (.int (32 : Int32)), (.int (114 : Int32)), (.int (117 : Int32)), (.int (110 : Int32)), (.int (32 : Int32)), (.int (116 : Int32)), (.int (104 : Int32)), (.int (101 : Int32)), (.int (32 : Int32)), (.int (113 : Int32)), (.int (117 : Int32)), (.int (101 : Int32)), (.int (114 : Int32)), (.int (121 : Int32)), (.int (32 : Int32)), (.int (39 : Int32)), (.int (c8 p0)), (.int (c8 p1)), (.int (39 : Int32)), (.int (58 : Int32)), (.int (0 : Int32)), (.int (0 : Int32)), (.int (0 : Int32))] (.int (0 : Int32)) := by exact A1545
  show Goes p.tables e below _ (T1541.setTop (mkF m 230 #[.val (.int p0), .val (.int p1), .val (.int p2), .val (.int p3), .val (.int (c8 p0)), .val (.int (c8 p1)), .val (.int (c8 p2)), .val (.int (c8 p3)), .val (.ref b1205), .val (.ref b1257), .unset, .unset, .unset, .unset] [(.ref b1328)]))
  refine X1543.dup (D at_230) rfl ?_
  refine X1543.bipush (x := (26 : Int32)) (D at_231) rfl ?_
  refine X1543.bipush (x := (32 : Int32)) (D at_233) rfl ?_
  show Goes p.tables e below _ (T1541.setTop (mkF m 235 #[.val (.int p0), .val (.int p1), .val (.int p2), .val (.int p3), .val (.int (c8 p0)), .val (.int (c8 p1)), .val (.int (c8 p2)), .val (.int (c8 p3)), .val (.ref b1205), .val (.ref b1257), .unset, .unset, .unset, .unset] [(.int (32 : Int32)), (.int (26 : Int32)), (.ref b1328), (.ref b1328)]))
  refine X1543.castore F1548 ⟨by decide, by decide⟩ 26 rfl (Nat.le_of_ble_eq_true rfl) (by simp) (D at_235) ?_
  intro T1549 h1550 X1551 W1552 A1553
  have F1554 := F1546.wr W1552 (Nat.ne_of_lt lt1336) (Nat.ne_of_lt lt1337)
  have F1555 := F1547.wr W1552 (Nat.ne_of_lt lt1338) (Nat.ne_of_lt lt1339)
  have F1556 : Arv Z h1550 b1328 kb1329 .char (29 : Int32) [(.int (67 : Int32)), (.int (97 : Int32)), (.int (110 : Int32)), (.int (110 : Int32)), (.int (111 : Int32)), (.int (116 : Int32)), (.int (32 : Int32)), (.int (114 : Int32)), (.int (117 : Int32)), (.int (110 : Int32)), (.int (32 : Int32)), (.int (116 : Int32)), (.int (104 : Int32)), (.int (101 : Int32)), (.int (32 : Int32)), (.int (113 : Int32)), (.int (117 : Int32)), (.int (101 : Int32)), (.int (114 : Int32)), (.int (121 : Int32)), (.int (32 : Int32)), (.int (39 : Int32)), (.int (c8 p0)), (.int (c8 p1)), (.int (39 : Int32)), (.int (58 : Int32)), (.int (32 : Int32)), (.int (0 : Int32)), (.int (0 : Int32))] (.int (0 : Int32)) := by exact A1553
  show Goes p.tables e below _ (T1549.setTop (mkF m 236 #[.val (.int p0), .val (.int p1), .val (.int p2), .val (.int p3), .val (.int (c8 p0)), .val (.int (c8 p1)), .val (.int (c8 p2)), .val (.int (c8 p3)), .val (.ref b1205), .val (.ref b1257), .unset, .unset, .unset, .unset] [(.ref b1328)]))
  refine X1551.dup (D at_236) rfl ?_
  refine X1551.bipush (x := (27 : Int32)) (D at_237) rfl ?_
  refine X1551.iload (x := (c8 p2)) (D at_239) rfl ?_
  show Goes p.tables e below _ (T1549.setTop (mkF m 241 #[.val (.int p0), .val (.int p1), .val (.int p2), .val (.int p3), .val (.int (c8 p0)), .val (.int (c8 p1)), .val (.int (c8 p2)), .val (.int (c8 p3)), .val (.ref b1205), .val (.ref b1257), .unset, .unset, .unset, .unset] [(.int (c8 p2)), (.int (27 : Int32)), (.ref b1328), (.ref b1328)]))
  refine X1551.castore F1556 ⟨by decide, by decide⟩ 27 rfl (Nat.le_of_ble_eq_true rfl) (by simp) (D at_241) ?_
  intro T1557 h1558 X1559 W1560 A1561
  have F1562 := F1554.wr W1560 (Nat.ne_of_lt lt1336) (Nat.ne_of_lt lt1337)
  have F1563 := F1555.wr W1560 (Nat.ne_of_lt lt1338) (Nat.ne_of_lt lt1339)
  have F1564 : Arv Z h1558 b1328 kb1329 .char (29 : Int32) [(.int (67 : Int32)), (.int (97 : Int32)), (.int (110 : Int32)), (.int (110 : Int32)), (.int (111 : Int32)), (.int (116 : Int32)), (.int (32 : Int32)), (.int (114 : Int32)), (.int (117 : Int32)), (.int (110 : Int32)), (.int (32 : Int32)), (.int (116 : Int32)), (.int (104 : Int32)), (.int (101 : Int32)), (.int (32 : Int32)), (.int (113 : Int32)), (.int (117 : Int32)), (.int (101 : Int32)), (.int (114 : Int32)), (.int (121 : Int32)), (.int (32 : Int32)), (.int (39 : Int32)), (.int (c8 p0)), (.int (c8 p1)), (.int (39 : Int32)), (.int (58 : Int32)), (.int (32 : Int32)), (.int (c8 p2)), (.int (0 : Int32))] (.int (0 : Int32)) := by rw [nar_c8 p2] at A1561; exact A1561
  show Goes p.tables e below _ (T1557.setTop (mkF m 242 #[.val (.int p0), .val (.int p1), .val (.int p2), .val (.int p3), .val (.int (c8 p0)), .val (.int (c8 p1)), .val (.int (c8 p2)), .val (.int (c8 p3)), .val (.ref b1205), .val (.ref b1257), .unset, .unset, .unset, .unset] [(.ref b1328)]))
  refine X1559.dup (D at_242) rfl ?_
  refine X1559.bipush (x := (28 : Int32)) (D at_243) rfl ?_
  refine X1559.iload (x := (c8 p3)) (D at_245) rfl ?_
  show Goes p.tables e below _ (T1557.setTop (mkF m 247 #[.val (.int p0), .val (.int p1), .val (.int p2), .val (.int p3), .val (.int (c8 p0)), .val (.int (c8 p1)), .val (.int (c8 p2)), .val (.int (c8 p3)), .val (.ref b1205), .val (.ref b1257), .unset, .unset, .unset, .unset] [(.int (c8 p3)), (.int (28 : Int32)), (.ref b1328), (.ref b1328)]))
  refine X1559.castore F1564 ⟨by decide, by decide⟩ 28 rfl (Nat.le_of_ble_eq_true rfl) (by simp) (D at_247) ?_
  intro T1565 h1566 X1567 W1568 A1569
  have F1570 := F1562.wr W1568 (Nat.ne_of_lt lt1336) (Nat.ne_of_lt lt1337)
  have F1571 := F1563.wr W1568 (Nat.ne_of_lt lt1338) (Nat.ne_of_lt lt1339)
  have F1572 : Arv Z h1566 b1328 kb1329 .char (29 : Int32) [(.int (67 : Int32)), (.int (97 : Int32)), (.int (110 : Int32)), (.int (110 : Int32)), (.int (111 : Int32)), (.int (116 : Int32)), (.int (32 : Int32)), (.int (114 : Int32)), (.int (117 : Int32)), (.int (110 : Int32)), (.int (32 : Int32)), (.int (116 : Int32)), (.int (104 : Int32)), (.int (101 : Int32)), (.int (32 : Int32)), (.int (113 : Int32)), (.int (117 : Int32)), (.int (101 : Int32)), (.int (114 : Int32)), (.int (121 : Int32)), (.int (32 : Int32)), (.int (39 : Int32)), (.int (c8 p0)), (.int (c8 p1)), (.int (39 : Int32)), (.int (58 : Int32)), (.int (32 : Int32)), (.int (c8 p2)), (.int (c8 p3))] (.int (0 : Int32)) := by rw [nar_c8 p3] at A1569; exact A1569
  show Goes p.tables e below _ (T1565.setTop (mkF m 248 #[.val (.int p0), .val (.int p1), .val (.int p2), .val (.int p3), .val (.int (c8 p0)), .val (.int (c8 p1)), .val (.int (c8 p2)), .val (.int (c8 p3)), .val (.ref b1205), .val (.ref b1257), .unset, .unset, .unset, .unset] [(.ref b1328)]))
  refine X1567.astore #[.val (.int p0), .val (.int p1), .val (.int p2), .val (.int p3), .val (.int (c8 p0)), .val (.int (c8 p1)), .val (.int (c8 p2)), .val (.int (c8 p3)), .val (.ref b1205), .val (.ref b1257), .val (.ref b1328), .unset, .unset, .unset] (D at_248) rfl rfl ?_
  refine X1567.new (w 0 rfl) (w 1 rfl) (w 2 rfl) (D at_250) (by decide) (by decide) ?_
  intro T1573 h1574 b1575 g1576 X1577 E1578 A1579 D1580 U1581
  have F1582 := F1570.ext E1578
  have F1583 := F1571.ext E1578
  have F1584 := F1572.ext E1578
  have lt1585 : b1205 < b1575 := by rw [g1576]; exact F1570.lt
  have lt1586 : t1247 < b1575 := by rw [g1576]; exact F1570.ltb
  have lt1587 : b1257 < b1575 := by rw [g1576]; exact F1571.lt
  have lt1588 : t1313 < b1575 := by rw [g1576]; exact F1571.ltb
  have lt1589 : b1328 < b1575 := by rw [g1576]; exact F1572.lt
  have F1590 : Fld Z h1574 b1575 "java/lang/String" "coder" "B" (.int (0 : Int32)) := D1580 (Or.inr (w 27 rfl)) (ty := .byte) (by decide)
  have F1591 : Fld Z h1574 b1575 "java/lang/String" "value" "[B" .null := D1580 (Or.inr (w 29 rfl)) (ty := (.array .byte)) (by decide)
  show Goes p.tables e below _ (T1573.setTop (mkF m 253 #[.val (.int p0), .val (.int p1), .val (.int p2), .val (.int p3), .val (.int (c8 p0)), .val (.int (c8 p1)), .val (.int (c8 p2)), .val (.int (c8 p3)), .val (.ref b1205), .val (.ref b1257), .val (.ref b1328), .unset, .unset, .unset] [(.ref b1575)]))
  refine X1577.dup (D at_253) rfl ?_
  refine X1577.aload (x := (.ref b1328)) (D at_254) rfl rfl ?_
  show Goes p.tables e below _ (T1573.setTop (mkF m 256 #[.val (.int p0), .val (.int p1), .val (.int p2), .val (.int p3), .val (.int (c8 p0)), .val (.int (c8 p1)), .val (.int (c8 p2)), .val (.int (c8 p3)), .val (.ref b1205), .val (.ref b1257), .val (.ref b1328), .unset, .unset, .unset] [(.ref b1328), (.ref b1575), (.ref b1575)]))
  refine X1577.newStr (cs := [(67 : Int32), (97 : Int32), (110 : Int32), (110 : Int32), (111 : Int32), (116 : Int32), (32 : Int32), (114 : Int32), (117 : Int32), (110 : Int32), (32 : Int32), (116 : Int32), (104 : Int32), (101 : Int32), (32 : Int32), (113 : Int32), (117 : Int32), (101 : Int32), (114 : Int32), (121 : Int32), (32 : Int32), (39 : Int32), (c8 p0), (c8 p1), (39 : Int32), (58 : Int32), (32 : Int32), (c8 p2), (c8 p3)]) 29 (w 4 rfl) (w 5 rfl) (fun d q => hw d (hwsV d q)) (w 1 rfl) A1579 F1591 F1590 F1584 S0 hz0 rfl rfl (by decide) (by decide) (hpS (by decide) (hpS (by decide) (hpS (by decide) (hpS (by decide) (hpS (by decide) (hpS (by decide) (hpS (by decide) (hpS (by decide) (hpS (by decide) (hpS (by decide) (hpS (by decide) (hpS (by decide) (hpS (by decide) (hpS (by decide) (hpS (by decide) (hpS (by decide) (hpS (by decide) (hpS (by decide) (hpS (by decide) (hpS (by decide) (hpS (by decide) (hpS (by decide) (hpS (c8_rng p0) (hpS (c8_rng p1) (hpS (by decide) (hpS (by decide) (hpS (by decide) (hpS (c8_rng p2) (hpS (c8_rng p3) hp0))))))))))))))))))))))))))))) (by simp) (by decide) 1 (Nat.le_of_ble_eq_true rfl) (by decide) (by decide) (by decide) (by rw [hml]; rfl) (D at_256) ?_
  intro T1592 h1593 t1594 X1595 K1596 g1597 O1598
  have F1599 := F1582.keep K1596 (ninS (Nat.ne_of_lt lt1585) nin0) (ninS (Nat.ne_of_lt lt1586) nin0)
  have F1600 := F1583.keep K1596 (ninS (Nat.ne_of_lt lt1587) nin0) (ninS (Nat.ne_of_lt lt1588) nin0)
  have F1601 := F1584.keep K1596 (ninS (Nat.ne_of_lt lt1589) nin0)
  have lt1602 : b1205 < t1594 := Nat.lt_of_lt_of_le F1582.lt g1597
  have lt1603 : t1247 < t1594 := Nat.lt_of_lt_of_le F1582.ltb g1597
  have lt1604 : b1257 < t1594 := Nat.lt_of_lt_of_le F1583.lt g1597
  have lt1605 : t1313 < t1594 := Nat.lt_of_lt_of_le F1583.ltb g1597
  have lt1606 : b1328 < t1594 := Nat.lt_of_lt_of_le F1584.lt g1597
  have lt1607 : b1575 < t1594 := Nat.lt_of_lt_of_le A1579.lt g1597
  show Goes p.tables e below _ (T1592.setTop (mkF m 259 #[.val (.int p0), .val (.int p1), .val (.int p2), .val (.int p3), .val (.int (c8 p0)), .val (.int (c8 p1)), .val (.int (c8 p2)), .val (.int (c8 p3)), .val (.ref b1205), .val (.ref b1257), .val (.ref b1328), .unset, .unset, .unset] [(.ref b1575)]))
  refine X1595.astore #[.val (.int p0), .val (.int p1), .val (.int p2), .val (.int p3), .val (.int (c8 p0)), .val (.int (c8 p1)), .val (.int (c8 p2)), .val (.int (c8 p3)), .val (.ref b1205), .val (.ref b1257), .val (.ref b1328), .val (.ref b1575), .unset, .unset] (D at_259) rfl rfl ?_
  refine X1595.aload (x := (.ref b1205)) (D at_261) rfl rfl ?_
  refine X1595.aload (x := (.ref b1257)) (D at_263) rfl rfl ?_
  show Goes p.tables e below _ (T1592.setTop (mkF m 265 #[.val (.int p0), .val (.int p1), .val (.int p2), .val (.int p3), .val (.int (c8 p0)), .val (.int (c8 p1)), .val (.int (c8 p2)), .val (.int (c8 p3)), .val (.ref b1205), .val (.ref b1257), .val (.ref b1328), .val (.ref b1575), .unset, .unset] [(.ref b1257), (.ref b1205)]))
  refine X1595.callsK hKn [(.ref b1205), (.ref b1257)] [] (ctRef l Z a0 hw hEL z0 S0 hz0 hl u sv hu hv SU SS b1205 t1247 b1257 t1313 (c8 p0) (c8 p1) (c8 p2) (c8 p3) _ _ F1599 F1600) (w 30 rfl) (w 31 rfl) (w 32 rfl) (w 33 rfl) (by decide) (fun _ q => nomatch q) (by decide) 0 (by decide) (by decide) (by decide) (lenOf pd_20 rfl) rfl (Nat.le_of_ble_eq_true rfl) (by rw [hml]; rfl) (D at_265) ?_
  rintro T1608 h1609 _ X1611 K1612 ⟨ex, sm, tm, rfl, E1, F1, O1⟩
  have F1613 := F1599.keep K1612 nin0 nin0
  have F1614 := F1600.keep K1612 nin0 nin0
  have F1615 := O1598.keep K1612 nin0 nin0
  show Goes p.tables e below _ (T1608.setTop (mkF m 268 #[.val (.int p0), .val (.int p1), .val (.int p2), .val (.int p3), .val (.int (c8 p0)), .val (.int (c8 p1)), .val (.int (c8 p2)), .val (.int (c8 p3)), .val (.ref b1205), .val (.ref b1257), .val (.ref b1328), .val (.ref b1575), .unset, .unset] [(.ref ex)]))
  refine X1611.astore #[.val (.int p0), .val (.int p1), .val (.int p2), .val (.int p3), .val (.int (c8 p0)), .val (.int (c8 p1)), .val (.int (c8 p2)), .val (.int (c8 p3)), .val (.ref b1205), .val (.ref b1257), .val (.ref b1328), .val (.ref b1575), .val (.ref ex), .unset] (D at_268) rfl rfl ?_
  refine X1611.aload (x := (.ref ex)) (D at_270) rfl rfl ?_
  refine X1611.ifnonnullR 277 (D at_272) ⟨by decide, by decide⟩ ?_
  refine X1611.aload (x := (.ref ex)) (D at_277) rfl rfl ?_
  refine X1611.callup (a := ex) (C := "java/lang/IllegalArgumentException") [] [] (ctGM l Z a0 hw hEL z0 S0 hz0 ex sm _ _ F1).toF E1 (w 226 rfl) (w 227 rfl) (w 228 rfl) (by decide) (w 230 rfl) (w 229 rfl) (w 187 rfl) (w 231 rfl) (fun _ q => nomatch q) (by decide) 0 (by decide) (by decide) (by decide) (lenOf pd_19 rfl) rfl (Nat.le_of_ble_eq_true rfl) (by rw [hml]; rfl) (D at_279) ?_
  rintro T1616 h1617 _ _ X1619 K1620 hg1621 ⟨rfl, rfl⟩
  have F1622 := F1613.keep K1620 nin0 nin0
  have F1623 := F1614.keep K1620 nin0 nin0
  have F1624 := F1615.keep K1620 nin0 nin0
  have F1625 := E1.keep K1620
  have F1626 := F1.keep K1620 nin0
  have F1627 := O1.keep K1620 nin0 nin0
  show Goes p.tables e below _ (T1616.setTop (mkF m 282 #[.val (.int p0), .val (.int p1), .val (.int p2), .val (.int p3), .val (.int (c8 p0)), .val (.int (c8 p1)), .val (.int (c8 p2)), .val (.int (c8 p3)), .val (.ref b1205), .val (.ref b1257), .val (.ref b1328), .val (.ref b1575), .val (.ref ex), .unset] [(.ref sm)]))
  refine X1619.astore #[.val (.int p0), .val (.int p1), .val (.int p2), .val (.int p3), .val (.int (c8 p0)), .val (.int (c8 p1)), .val (.int (c8 p2)), .val (.int (c8 p3)), .val (.ref b1205), .val (.ref b1257), .val (.ref b1328), .val (.ref b1575), .val (.ref ex), .val (.ref sm)] (D at_282) rfl rfl ?_
  refine X1619.aload (x := (.ref sm)) (D at_284) rfl rfl ?_
  refine X1619.ifnonnullR 291 (D at_286) ⟨by decide, by decide⟩ ?_
  refine X1619.aload (x := (.ref sm)) (D at_291) rfl rfl ?_
  refine X1619.aload (x := (.ref b1575)) (D at_293) rfl rfl ?_
  show Goes p.tables e below _ (T1616.setTop (mkF m 295 #[.val (.int p0), .val (.int p1), .val (.int p2), .val (.int p3), .val (.int (c8 p0)), .val (.int (c8 p1)), .val (.int (c8 p2)), .val (.int (c8 p3)), .val (.ref b1205), .val (.ref b1257), .val (.ref b1328), .val (.ref b1575), .val (.ref ex), .val (.ref sm)] [(.ref b1575), (.ref sm)]))
  refine X1619.strEq (w 232 rfl) (w 233 rfl) (w 235 rfl) (w 234 rfl) (fun d q => hw d (hwsE d q)) (w 1 rfl) F1627 F1624 S0 hz0 (by decide) 0 (Nat.le_of_ble_eq_true rfl) (by decide) (by decide) (by decide) (by rw [hml]; rfl) (D at_295) (fun T1628 X1629 hc1630 => ?_) (fun T1628 X1629 hc1630 => ?_)
  · show Goes p.tables e below _ (T1628.setTop (mkF m 298 #[.val (.int p0), .val (.int p1), .val (.int p2), .val (.int p3), .val (.int (c8 p0)), .val (.int (c8 p1)), .val (.int (c8 p2)), .val (.int (c8 p3)), .val (.ref b1205), .val (.ref b1257), .val (.ref b1328), .val (.ref b1575), .val (.ref ex), .val (.ref sm)] [(.int (1 : Int32))]))
    exact X1629.reti hret (by simp) hlk (D at_298) (by decide) (by decide) (rfl)
  · show Goes p.tables e below _ (T1628.setTop (mkF m 298 #[.val (.int p0), .val (.int p1), .val (.int p2), .val (.int p3), .val (.int (c8 p0)), .val (.int (c8 p1)), .val (.int (c8 p2)), .val (.int (c8 p3)), .val (.ref b1205), .val (.ref b1257), .val (.ref b1328), .val (.ref b1575), .val (.ref ex), .val (.ref sm)] [(.int (0 : Int32))]))
    exact (hc1630 rfl).elim
set_option maxRecDepth 65536 in
set_option maxHeartbeats 40000000 in
theorem comes_1 {Post : Tables → Env → Array Value → State → Outcome → State → Prop} (hpost : ∀ tb e args s v u, (limb_1_1.after args s (.returned v) u = true ∧ limb_1_2.after args s (.returned v) u = true ∧ True) → ReturnedEndW s (.returned v) u (Jvm.fieldLocs frame_1_writes args s ++ Jvm.arrayLocs frame_1_arrays args s ++ Jvm.staticLocs frame_1_statics s) room_1.cells room_1.slots → Post tb e args s (.returned v) u) :
    ArmFor flags0 classFile x code maxLocals ret World_1 tables_1 room_1 Calls_1 rest_1 Pre_1 Post := by
  intro l hfl _ _ p e ha hc hk s m args below hf hA hF happ hP
  obtain ⟨hcalls, hrest, hpre⟩ := hP
  obtain ⟨-, -, -, hnamed, -, -, -, hat⟩ := (Spec.applies_iff hf).mp happ
  obtain ⟨hg, hn⟩ := and_e (Cond.before_iff.mp (show (Jvm.Cond.and given_1 narrow_1).before args s = true from hpre))
  obtain ⟨g0, hg0⟩ := and_e hg
  obtain ⟨g1, hg1⟩ := and_e hg0
  obtain ⟨g2, hg2⟩ := and_e hg1
  obtain ⟨g3, hg3⟩ := and_e hg2
  obtain ⟨w0, w1, w2, w3, rfl⟩ : ∃ w0 w1 w2 w3 : Value, args = #[w0, w1, w2, w3] := by
    have hs : args.size = 4 := by simpa [Cond.value, given_1] using g0
    obtain ⟨L⟩ := args
    match L, hs with
    | [w0, w1, w2, w3], _ => exact ⟨w0, w1, w2, w3, rfl⟩
  have hw := fun d (hd : d ∈ tables_1) => atoms_spec (ws := Jvm.Cond.code x code maxLocals ret :: tables_1) hat d (List.mem_cons_of_mem _ hd)
  have hfit : Fit s := fun {y c} hc i hi => by
    obtain ⟨ha, rfl⟩ := Array.getElem?_eq_some_iff.mp hc
    have q := List.all_eq_true.mp ((Array.all_eq_true_iff_forall_mem.mp hF) _ (Array.getElem_mem ha)) i (List.mem_range.mpr hi)
    simpa [Array.getElem?_eq_getElem hi] using q
  obtain ⟨hsets, hown0⟩ := atoms_of _ (rest_1_c_eq ▸ (show rest_1_c.before _ s = true from hrest))
  obtain ⟨p0, ep0⟩ := is_v g1
  obtain rfl : w0 = (.int p0) := Option.some.inj ep0
  obtain ⟨p1, ep1⟩ := is_v g2
  obtain rfl : w1 = (.int p1) := Option.some.inj ep1
  obtain ⟨p2, ep2⟩ := is_v g3
  obtain rfl : w2 = (.int p2) := Option.some.inj ep2
  obtain ⟨p3, ep3⟩ := is_v hg3
  obtain rfl : w3 = (.int p3) := Option.some.inj ep3
  obtain ⟨z0, ez0⟩ := is_v (Cond.before_iff.mp (hsets (Jvm.Cond.isInt (.static "java/lang/String" "COMPACT_STRINGS" "Z")) (by decide +kernel)))
  have S0 : Sta s s.heap "java/lang/String" "COMPACT_STRINGS" "Z" (.int z0) := Sta.start ez0 (Or.inl (hsets (Jvm.Cond.initializedFor "java/lang/String" "COMPACT_STRINGS" "Z") (by decide +kernel)))
  have hcw := hsets (Jvm.Cond.not (.eq (.static "java/lang/String" "COMPACT_STRINGS" "Z") (.int (0 : Int32)))) (by decide +kernel)
  have hz0 : ¬ z0 = 0 := by
    have q1 := not_v (Cond.before_iff.mp hcw)
    intro q; subst q
    rw [eq_i ez0 (Term.int_eval (0 : Int32)) rfl] at q1; cases q1
  have hEL := hEL_of (Z := s) hw
  have H0 : CHv s consts_1 s.vm s.heap := CHv.start hEL (fun q hq => hcalls.2.2.1 q hq) hcw (hw _ (by decide +kernel)) (hw _ (by decide +kernel))
  have hl : l.stackTraces = true := by unfold Launch.stackTraces; rw [hfl]; decide
  obtain ⟨u, eu, hu⟩ := isR_v (Cond.before_iff.mp (hsets (Jvm.Cond.isRef (.static "java/lang/Throwable" "UNASSIGNED_STACK" "[Ljava/lang/StackTraceElement;")) (by decide +kernel)))
  have SU : Sta s s.heap "java/lang/Throwable" "UNASSIGNED_STACK" "[Ljava/lang/StackTraceElement;" u := Sta.start eu (Or.inl (hsets (Jvm.Cond.initializedFor "java/lang/Throwable" "UNASSIGNED_STACK" "[Ljava/lang/StackTraceElement;") (by decide +kernel)))
  obtain ⟨sv, esv, hv⟩ := isR_v (Cond.before_iff.mp (hsets (Jvm.Cond.isRef (.static "java/lang/Throwable" "SUPPRESSED_SENTINEL" "Ljava/util/List;")) (by decide +kernel)))
  have SS : Sta s s.heap "java/lang/Throwable" "SUPPRESSED_SENTINEL" "Ljava/util/List;" sv := Sta.start esv (Or.inl (hsets (Jvm.Cond.initializedFor "java/lang/Throwable" "SUPPRESSED_SENTINEL" "Ljava/util/List;") (by decide +kernel)))
  obtain ⟨n, o, h1, h2, h3, _, L, rfl, ⟨rfl, N, -, -⟩, -, hq⟩ := ctLaw l s _ hw hEL z0 S0 hz0 hl u sv hu hv SU SS p0 p1 p2 p3  s.heap s.heap.size  p e ha hc hk s m _ below hf ((Spec.applies_iff_loose hf).mp happ).1 ⟨rfl, State.Warmed39.refl s, rfl, H0, Old.start s, fun _ q => nomatch q⟩ ⟨knowsT hcalls.2.1, knowsF hcalls.1 (fun f q => by rw [hf]; exact List.mem_cons_of_mem _ q)⟩
  exact ⟨n, _, h1, h2, h3, hpost _ _ _ _ _ _ ⟨Cond.after_iff.mpr rfl, Cond.after_iff.mpr (eq_i res_at (Term.int_eval (1)) rfl), trivial⟩ ⟨hq.1, hq.2.1, hq.2.2.1, (hq.2.2.2.sift fun y hy => Or.inr (N y hy))⟩⟩
theorem main_1_1 : Claimed_1_1 := comes_1 fun _ _ _ _ _ _ h hF => ⟨h.1, hF⟩
theorem main_1_2 : Claimed_1_2 := comes_1 fun _ _ _ _ _ _ h hF => ⟨h.2.1, hF⟩
end Jvm.Pilot.@@N@@
namespace Jvm.Pilot.@@N@@
open Jvm Jvm.ClassFile Sem Op Lib Jvm.Free Jvm.Stand Jvm.Pilot.@@N@@.Jvm.D
/-! MADE BY PROGRAM (witnessworld.py) out of the Statement's table words and the real class files: 43 classes; the members and pool entries that the words name. The judged class is class 1, her method 1. -/
namespace start1
open Jvm.ClassFile
def u (s : String) : CpInfo := .utf8 (stringToUtf16 s)
/-- a pool by its gaps: so many unusable entries, then the entry; so many at the end -/
def gap : Nat → List CpInfo → List CpInfo
  | 0, r => r
  | n + 1, r => .unusable :: gap n r
def poolList (es : List (Nat × CpInfo)) (last : Nat) : List CpInfo := es.foldr (fun e r => gap e.1 (e.2 :: r)) (gap last [])
def pool (es : List (Nat × CpInfo)) (last : Nat) : Array CpInfo := ⟨poolList es last⟩
def fileOf (pool : Array CpInfo) (this : Nat) (attrs : Array Attribute := #[]) (ms : Array MethodInfo := #[]) (fl : Nat := 33) (sup : Nat := 0) (ifs : Array Nat := #[]) (fds : Array FieldInfo := #[]) : ClassFile where
  minorVersion := 0
  majorVersion := 65
  constantPool := pool
  accessFlags := fl
  thisClass := this
  superClass := sup
  interfaces := ifs
  fields := fds
  methods := ms
  attributes := attrs
def plain (name : String) (sup : Option ClassId) : Class where
  name := name
  kind := .ordinary
  loader := none
  accessFlags := 33
  super := sup
  interfaces := #[]
  cf := none
  fields := #[]
  methods := #[]
  instanceTypes := #[]
  staticTypes := #[]
  resolved := #[]
  callSites := []
  init := .initialized
  statics := none
  mirror := none

def pool0 : Array CpInfo := pool [(5, u "<init>"), (0, u "()V"), (1, .class_ 10), (1, u "java/lang/Object")] 113

def k0c0 : Code := { maxStack := 0, maxLocals := 1, code := object_method_1_code, exceptionTable := #[], attributes := #[] }
def k0m0 : Method := { name := "<init>", desc := "()V", sig := { parameters := [], returnType := none }, accessFlags := 1, code := some k0c0 }
/-- java/lang/Object -/
def k0 : Class := { plain "java/lang/Object" none with
  accessFlags := 33
  interfaces := #[]
  cf := some (fileOf pool0 8 #[] #[{ accessFlags := 1, nameIndex := 5, descriptorIndex := 6, attributes := #[] }] 33 0 #[] #[])
  fields := #[]
  methods := #[k0m0]
  instanceTypes := #[]
  staticTypes := #[]
  resolved := Array.replicate 124 none
  statics := none }

def pool1 : Array CpInfo := pool [(2, .class_ 4), (1, u "java/lang/Object"), (0, u "<init>"), (0, u "()V"), (0, .class_ 8), (0, u "java/lang/String"), (0, .methodref 7 10), (0, .nameAndType 5 11), (0, u "([C)V"), (0, .methodref 13 14), (0, .class_ 15), (0, .nameAndType 16 17), (0, u "com/example/idlr/idlr/JpqlLexer"), (0, u "refused"), (0, u "(Ljava/lang/String;Ljava/lang/String;)Ljava/lang/IllegalArgumentException;"), (0, .methodref 19 20), (0, .class_ 21), (0, .nameAndType 22 23), (0, u "java/lang/IllegalArgumentException"), (0, u "getMessage"), (0, u "()Ljava/lang/String;"), (0, .methodref 7 25), (0, .nameAndType 26 27), (0, u "equals"), (0, u "(Ljava/lang/Object;)Z"), (0, .class_ 29), (0, u "com/example/idlr/idlr/JpqlLexerRefusedPinLaw"), (2, u "law"), (0, u "(IIII)Z")] 5

def k1m0 : Method := { name := "<init>", desc := "()V", sig := { parameters := [], returnType := none }, accessFlags := 1, code := none }
def k1c1 : Code := { maxStack := 6, maxLocals := 14, code := code, exceptionTable := #[], attributes := #[] }
def k1m1 : Method := { name := "law", desc := "(IIII)Z", sig := { parameters := [.int, .int, .int, .int], returnType := some .boolean }, accessFlags := 9, code := some k1c1 }
/-- com/example/idlr/idlr/JpqlLexerRefusedPinLaw -/
def k1 : Class := { plain "com/example/idlr/idlr/JpqlLexerRefusedPinLaw" (some 0) with
  accessFlags := 49
  interfaces := #[]
  cf := some (fileOf pool1 28 #[] #[{ accessFlags := 1, nameIndex := 5, descriptorIndex := 6, attributes := #[] }, { accessFlags := 9, nameIndex := 32, descriptorIndex := 33, attributes := #[] }] 49 2 #[] #[])
  fields := #[]
  methods := #[k1m0, k1m1]
  instanceTypes := #[]
  staticTypes := #[]
  resolved := Array.replicate 39 none
  statics := none }

def pool2 : Array CpInfo := pool [(1, .class_ 2), (0, u "java/io/Serializable"), (0, .class_ 4), (0, u "java/lang/Object")] 2

/-- java/io/Serializable -/
def k2 : Class := { plain "java/io/Serializable" (some 0) with
  accessFlags := 1537
  interfaces := #[]
  cf := some (fileOf pool2 1 #[] #[] 1537 3 #[] #[])
  fields := #[]
  methods := #[]
  instanceTypes := #[]
  staticTypes := #[]
  resolved := Array.replicate 7 none
  statics := none }

def pool3 : Array CpInfo := pool [(1, .class_ 2), (0, u "java/lang/Comparable"), (0, .class_ 4), (0, u "java/lang/Object")] 7

/-- java/lang/Comparable -/
def k3 : Class := { plain "java/lang/Comparable" (some 0) with
  accessFlags := 1537
  interfaces := #[]
  cf := some (fileOf pool3 1 #[] #[] 1537 3 #[] #[])
  fields := #[]
  methods := #[]
  instanceTypes := #[]
  staticTypes := #[]
  resolved := Array.replicate 12 none
  statics := none }

def pool4 : Array CpInfo := pool [(2, .class_ 4), (1, u "java/lang/CharSequence"), (42, .class_ 48), (0, u "java/lang/CharSequence$1CodePointIterator"), (10, .class_ 60), (0, u "java/lang/CharSequence$1CharIterator"), (5, .class_ 67), (0, u "java/lang/Object")] 63

/-- java/lang/CharSequence -/
def k4 : Class := { plain "java/lang/CharSequence" (some 0) with
  accessFlags := 1537
  interfaces := #[]
  cf := some (fileOf pool4 2 #[.nestMembers #[47, 59]] #[] 1537 66 #[] #[])
  fields := #[]
  methods := #[]
  instanceTypes := #[]
  staticTypes := #[]
  resolved := Array.replicate 131 none
  statics := none }

def pool5 : Array CpInfo := pool [(1, .class_ 2), (0, u "java/lang/constant/Constable"), (0, .class_ 4), (0, u "java/lang/Object")] 6

/-- java/lang/constant/Constable -/
def k5 : Class := { plain "java/lang/constant/Constable" (some 0) with
  accessFlags := 1537
  interfaces := #[]
  cf := some (fileOf pool5 1 #[] #[] 1537 3 #[] #[])
  fields := #[]
  methods := #[]
  instanceTypes := #[]
  staticTypes := #[]
  resolved := Array.replicate 11 none
  statics := none }

def pool6 : Array CpInfo := pool [(1, .class_ 2), (0, u "java/lang/constant/ConstantDesc"), (0, .class_ 4), (0, u "java/lang/Object")] 32

/-- java/lang/constant/ConstantDesc -/
def k6 : Class := { plain "java/lang/constant/ConstantDesc" (some 0) with
  accessFlags := 1537
  interfaces := #[]
  cf := some (fileOf pool6 1 #[] #[] 1537 3 #[] #[])
  fields := #[]
  methods := #[]
  instanceTypes := #[]
  staticTypes := #[]
  resolved := Array.replicate 37 none
  statics := none }

def pool7 : Array CpInfo := pool [(1, .methodref 2 3), (0, .class_ 4), (0, .nameAndType 5 6), (0, u "java/lang/Object"), (0, u "<init>"), (0, u "()V"), (2, .fieldref 10 11), (0, .class_ 12), (0, .nameAndType 13 14), (0, u "java/lang/String"), (0, u "value"), (0, u "[B"), (0, .fieldref 10 16), (0, .nameAndType 17 18), (0, u "coder"), (0, u "B"), (2, u "hash"), (0, u "I"), (2, u "hashIsZero"), (0, u "Z"), (0, .methodref 10 28), (0, .nameAndType 5 29), (0, u "([CIILjava/lang/Void;)V"), (8, .fieldref 10 39), (0, .nameAndType 40 26), (0, u "COMPACT_STRINGS"), (1, .class_ 44), (1, u "java/lang/StringUTF16"), (0, u "compress"), (1, .methodref 42 48), (0, .nameAndType 49 50), (0, u "coderFromArrayLen"), (0, u "([BI)B"), (3, .methodref 55 56), (0, .class_ 57), (0, .nameAndType 58 59), (0, u "java/util/Arrays"), (0, u "copyOfRange"), (0, u "([BII)[B"), (47, .class_ 109), (1, u "java/lang/StringLatin1"), (32, u "()Z"), (34, .methodref 42 178), (0, .nameAndType 45 179), (0, u "([CII)[B"), (13, .class_ 195), (1, u "java/lang/System"), (16, .methodref 193 213), (0, .nameAndType 214 215), (0, u "arraycopy"), (0, u "(Ljava/lang/Object;ILjava/lang/Object;II)V"), (118, u "()I"), (0, .methodref 10 336), (0, .nameAndType 17 337), (0, u "()B"), (2, u "()[B"), (148, .methodref 10 490), (0, .nameAndType 5 491), (0, u "(Ljava/lang/AbstractStringBuilder;Ljava/lang/Void;)V"), (1, .nameAndType 494 142), (0, u "isLatin1"), (11, .nameAndType 507 334), (0, u "length"), (24, u "getBytes"), (8, .methodref 107 542), (0, .nameAndType 543 544), (0, u "equals"), (0, u "([B[B)Z"), (4, .methodref 550 506), (0, .class_ 551), (0, u "java/lang/AbstractStringBuilder"), (0, .methodref 550 553), (0, .nameAndType 554 340), (0, u "getValue"), (18, u "(Ljava/lang/Object;)Z"), (1, .class_ 576), (0, u "java/lang/CharSequence"), (22, u "CASE_INSENSITIVE_ORDER"), (0, u "Ljava/util/Comparator;"), (220, u "([BIB)V"), (188, u "([C)V"), (36, .methodref 550 493), (53, u "serialPersistentFields"), (0, u "[Ljava/io/ObjectStreamField;"), (0, .class_ 1104), (0, u "java/lang/String$CaseInsensitiveComparator"), (1, .class_ 1107), (0, u "java/io/Serializable"), (0, .class_ 1109), (0, u "java/lang/Comparable"), (0, .class_ 1111), (0, u "java/lang/constant/Constable"), (0, .class_ 1113), (0, u "java/lang/constant/ConstantDesc"), (2, u "serialVersionUID"), (0, u "J"), (3, u "REPL"), (0, u "C"), (2, u "LATIN1"), (1, u "UTF16"), (105, u "(Ljava/lang/StringBuilder;)V")] 217

def k7m0 : Method := { name := "<init>", desc := "()V", sig := { parameters := [], returnType := none }, accessFlags := 1, code := none }
def k7c1 : Code := { maxStack := 5, maxLocals := 2, code := jdk_42_method_3_code, exceptionTable := #[], attributes := #[] }
def k7m1 : Method := { name := "<init>", desc := "([C)V", sig := { parameters := [(.array .char)], returnType := none }, accessFlags := 1, code := some k7c1 }
def k7c2 : Code := { maxStack := 3, maxLocals := 2, code := jdk_42_method_53_code, exceptionTable := #[], attributes := #[] }
def k7m2 : Method := { name := "<init>", desc := "(Ljava/lang/StringBuilder;)V", sig := { parameters := [(.object "java/lang/StringBuilder")], returnType := none }, accessFlags := 1, code := some k7c2 }
def k7c3 : Code := { maxStack := 2, maxLocals := 1, code := jdk_42_method_54_code, exceptionTable := #[], attributes := #[] }
def k7m3 : Method := { name := "length", desc := "()I", sig := { parameters := [], returnType := some .int }, accessFlags := 1, code := some k7c3 }
def k7c4 : Code := { maxStack := 2, maxLocals := 3, code := jdk_42_method_66_code, exceptionTable := #[], attributes := #[] }
def k7m4 : Method := { name := "equals", desc := "(Ljava/lang/Object;)Z", sig := { parameters := [(.object "java/lang/Object")], returnType := some .boolean }, accessFlags := 1, code := some k7c4 }
def k7c5 : Code := { maxStack := 5, maxLocals := 4, code := jdk_42_method_147_code, exceptionTable := #[], attributes := #[] }
def k7m5 : Method := { name := "getBytes", desc := "([BIB)V", sig := { parameters := [(.array .byte), .int, .byte], returnType := none }, accessFlags := 0, code := some k7c5 }
def k7c6 : Code := { maxStack := 4, maxLocals := 6, code := jdk_42_method_149_code, exceptionTable := #[], attributes := #[] }
def k7m6 : Method := { name := "<init>", desc := "([CIILjava/lang/Void;)V", sig := { parameters := [(.array .char), .int, .int, (.object "java/lang/Void")], returnType := none }, accessFlags := 2, code := some k7c6 }
def k7c7 : Code := { maxStack := 5, maxLocals := 5, code := jdk_42_method_150_code, exceptionTable := #[], attributes := #[] }
def k7m7 : Method := { name := "<init>", desc := "(Ljava/lang/AbstractStringBuilder;Ljava/lang/Void;)V", sig := { parameters := [(.object "java/lang/AbstractStringBuilder"), (.object "java/lang/Void")], returnType := none }, accessFlags := 0, code := some k7c7 }
def k7c8 : Code := { maxStack := 1, maxLocals := 1, code := jdk_42_method_152_code, exceptionTable := #[], attributes := #[] }
def k7m8 : Method := { name := "coder", desc := "()B", sig := { parameters := [], returnType := some .byte }, accessFlags := 0, code := some k7c8 }
/-- java/lang/String -/
def k7 : Class := { plain "java/lang/String" (some 0) with
  accessFlags := 49
  interfaces := #[2, 3, 4, 5, 6]
  cf := some (fileOf pool7 10 #[.nestMembers #[1103]] #[{ accessFlags := 1, nameIndex := 5, descriptorIndex := 6, attributes := #[] }, { accessFlags := 1, nameIndex := 5, descriptorIndex := 1010, attributes := #[] }, { accessFlags := 1, nameIndex := 5, descriptorIndex := 1233, attributes := #[] }, { accessFlags := 1, nameIndex := 507, descriptorIndex := 334, attributes := #[] }, { accessFlags := 1, nameIndex := 543, descriptorIndex := 573, attributes := #[] }, { accessFlags := 0, nameIndex := 532, descriptorIndex := 821, attributes := #[] }, { accessFlags := 2, nameIndex := 5, descriptorIndex := 29, attributes := #[] }, { accessFlags := 0, nameIndex := 5, descriptorIndex := 491, attributes := #[] }, { accessFlags := 0, nameIndex := 17, descriptorIndex := 337, attributes := #[] }] 49 2 #[1106, 1108, 575, 1110, 1112] #[{ accessFlags := 18, nameIndex := 13, descriptorIndex := 14, attributes := #[] }, { accessFlags := 18, nameIndex := 17, descriptorIndex := 18, attributes := #[] }, { accessFlags := 2, nameIndex := 21, descriptorIndex := 22, attributes := #[] }, { accessFlags := 2, nameIndex := 25, descriptorIndex := 26, attributes := #[] }, { accessFlags := 26, nameIndex := 1116, descriptorIndex := 1117, attributes := #[] }, { accessFlags := 24, nameIndex := 40, descriptorIndex := 26, attributes := #[] }, { accessFlags := 26, nameIndex := 1101, descriptorIndex := 1102, attributes := #[] }, { accessFlags := 26, nameIndex := 1121, descriptorIndex := 1122, attributes := #[] }, { accessFlags := 25, nameIndex := 599, descriptorIndex := 600, attributes := #[] }, { accessFlags := 24, nameIndex := 1125, descriptorIndex := 18, attributes := #[] }, { accessFlags := 24, nameIndex := 1127, descriptorIndex := 18, attributes := #[] }])
  fields := #[{ name := "value", type := (.array .byte), accessFlags := 18, slot := 0, constantValue := 0 }, { name := "coder", type := .byte, accessFlags := 18, slot := 1, constantValue := 0 }, { name := "hash", type := .int, accessFlags := 2, slot := 2, constantValue := 0 }, { name := "hashIsZero", type := .boolean, accessFlags := 2, slot := 3, constantValue := 0 }, { name := "serialVersionUID", type := .long, accessFlags := 26, slot := 0, constantValue := 0 }, { name := "COMPACT_STRINGS", type := .boolean, accessFlags := 24, slot := 1, constantValue := 0 }, { name := "serialPersistentFields", type := (.array (.object "java/io/ObjectStreamField")), accessFlags := 26, slot := 2, constantValue := 0 }, { name := "REPL", type := .char, accessFlags := 26, slot := 3, constantValue := 0 }, { name := "CASE_INSENSITIVE_ORDER", type := (.object "java/util/Comparator"), accessFlags := 25, slot := 4, constantValue := 0 }, { name := "LATIN1", type := .byte, accessFlags := 24, slot := 5, constantValue := 0 }, { name := "UTF16", type := .byte, accessFlags := 24, slot := 6, constantValue := 0 }]
  methods := #[k7m0, k7m1, k7m2, k7m3, k7m4, k7m5, k7m6, k7m7, k7m8]
  instanceTypes := #[(.array .byte), .byte, .int, .boolean]
  staticTypes := #[.long, .boolean, (.array (.object "java/io/ObjectStreamField")), .char, (.object "java/util/Comparator"), .byte, .byte]
  resolved := Array.replicate 1451 none
  statics := some 0 }

def pool8 : Array CpInfo := pool [(6, .class_ 8), (1, u "java/lang/Object"), (0, u "<init>"), (0, u "()V"), (1, .class_ 14), (1, u "java/lang/StringUTF16"), (31, u "$assertionsDisabled"), (0, u "Z"), (13, u "HI_BYTE_SHIFT"), (0, u "I"), (2, u "LO_BYTE_SHIFT"), (49, .methodref 12 116), (0, .nameAndType 117 118), (0, u "compress"), (0, u "([CI[BII)I"), (3, u "([CII)[B"), (138, u "coderFromArrayLen"), (0, u "([BI)B"), (106, .class_ 371), (1, u "java/lang/StringUTF16$LinesSpliterator"), (58, u "MAX_LENGTH"), (196, .class_ 628), (0, u "java/lang/StringUTF16$CodePointsSpliterator"), (0, .class_ 630), (0, u "java/lang/StringUTF16$CharsSpliterator")] 4

def k8m0 : Method := { name := "<init>", desc := "()V", sig := { parameters := [], returnType := none }, accessFlags := 0, code := none }
def k8c1 : Code := { maxStack := 2, maxLocals := 2, code := jdk_52_method_15_code, exceptionTable := #[], attributes := #[] }
def k8m1 : Method := { name := "coderFromArrayLen", desc := "([BI)B", sig := { parameters := [(.array .byte), .int], returnType := some .byte }, accessFlags := 8, code := some k8c1 }
def k8c2 : Code := { maxStack := 5, maxLocals := 6, code := jdk_52_method_16_code, exceptionTable := #[], attributes := #[] }
def k8m2 : Method := { name := "compress", desc := "([CII)[B", sig := { parameters := [(.array .char), .int, .int], returnType := some (.array .byte) }, accessFlags := 9, code := some k8c2 }
def k8c3 : Code := { maxStack := 3, maxLocals := 7, code := jdk_52_method_21_code, exceptionTable := #[], attributes := #[] }
def k8m3 : Method := { name := "compress", desc := "([CI[BII)I", sig := { parameters := [(.array .char), .int, (.array .byte), .int, .int], returnType := some .int }, accessFlags := 9, code := some k8c3 }
/-- java/lang/StringUTF16 -/
def k8 : Class := { plain "java/lang/StringUTF16" (some 0) with
  accessFlags := 48
  interfaces := #[]
  cf := some (fileOf pool8 12 #[.nestMembers #[627, 629, 369]] #[{ accessFlags := 0, nameIndex := 9, descriptorIndex := 10, attributes := #[] }, { accessFlags := 8, nameIndex := 261, descriptorIndex := 262, attributes := #[] }, { accessFlags := 9, nameIndex := 117, descriptorIndex := 122, attributes := #[] }, { accessFlags := 9, nameIndex := 117, descriptorIndex := 118, attributes := #[] }] 48 6 #[] #[{ accessFlags := 26, nameIndex := 61, descriptorIndex := 62, attributes := #[] }, { accessFlags := 26, nameIndex := 65, descriptorIndex := 62, attributes := #[] }, { accessFlags := 24, nameIndex := 430, descriptorIndex := 62, attributes := #[] }, { accessFlags := 4120, nameIndex := 46, descriptorIndex := 47, attributes := #[] }])
  fields := #[{ name := "HI_BYTE_SHIFT", type := .int, accessFlags := 26, slot := 0, constantValue := 0 }, { name := "LO_BYTE_SHIFT", type := .int, accessFlags := 26, slot := 1, constantValue := 0 }, { name := "MAX_LENGTH", type := .int, accessFlags := 24, slot := 2, constantValue := 0 }, { name := "$assertionsDisabled", type := .boolean, accessFlags := 4120, slot := 3, constantValue := 0 }]
  methods := #[k8m0, k8m1, k8m2, k8m3]
  instanceTypes := #[]
  staticTypes := #[.int, .int, .int, .boolean]
  resolved := Array.replicate 635 none
  statics := none }

def pool9 : Array CpInfo := pool [(2, .class_ 4), (0, .nameAndType 5 6), (0, u "java/lang/Object"), (0, u "<init>"), (0, u "()V"), (4, .class_ 13), (1, u "com/example/idlr/idlr/JpqlLexer"), (0, u "tokens"), (0, u "Ljava/util/List;"), (2, u "ql"), (0, u "Ljava/lang/String;"), (1, .nameAndType 5 22), (0, u "(Ljava/lang/String;)V"), (3, .class_ 27), (0, u "java/lang/IllegalArgumentException"), (0, .class_ 29), (0, u "java/lang/StringBuilder"), (0, .methodref 28 3), (0, .string 32), (0, u "Cannot run the query '"), (0, .methodref 28 34), (0, .nameAndType 35 36), (0, u "append"), (0, u "(Ljava/lang/String;)Ljava/lang/StringBuilder;"), (0, .string 38), (0, u "': "), (0, .methodref 28 40), (0, .nameAndType 41 42), (0, u "toString"), (0, u "()Ljava/lang/String;"), (0, .methodref 26 21), (2, u "at"), (0, u "I"), (16, .class_ 65), (0, u "com/example/idlr/idlr/JpqlLexer$Token"), (1, .class_ 69), (1, u "com/example/idlr/idlr/JpqlLexer$Kind"), (72, u "refused"), (0, u "(Ljava/lang/String;Ljava/lang/String;)Ljava/lang/IllegalArgumentException;"), (41, u "SYMBOLS")] 70

def k9c0 : Code := { maxStack := 4, maxLocals := 2, code := prog_2_method_3_code, exceptionTable := #[], attributes := #[] }
def k9m0 : Method := { name := "refused", desc := "(Ljava/lang/String;Ljava/lang/String;)Ljava/lang/IllegalArgumentException;", sig := { parameters := [(.object "java/lang/String"), (.object "java/lang/String")], returnType := some (.object "java/lang/IllegalArgumentException") }, accessFlags := 8, code := some k9c0 }
/-- com/example/idlr/idlr/JpqlLexer -/
def k9 : Class := { plain "com/example/idlr/idlr/JpqlLexer" (some 0) with
  accessFlags := 48
  interfaces := #[]
  cf := some (fileOf pool9 11 #[.nestMembers #[64, 67]] #[{ accessFlags := 8, nameIndex := 142, descriptorIndex := 143, attributes := #[] }] 48 2 #[] #[{ accessFlags := 26, nameIndex := 185, descriptorIndex := 15, attributes := #[] }, { accessFlags := 18, nameIndex := 18, descriptorIndex := 19, attributes := #[] }, { accessFlags := 18, nameIndex := 14, descriptorIndex := 15, attributes := #[] }, { accessFlags := 2, nameIndex := 46, descriptorIndex := 47, attributes := #[] }])
  fields := #[{ name := "SYMBOLS", type := (.object "java/util/List"), accessFlags := 26, slot := 0, constantValue := 0 }, { name := "ql", type := (.object "java/lang/String"), accessFlags := 18, slot := 0, constantValue := 0 }, { name := "tokens", type := (.object "java/util/List"), accessFlags := 18, slot := 1, constantValue := 0 }, { name := "at", type := .int, accessFlags := 2, slot := 2, constantValue := 0 }]
  methods := #[k9m0]
  instanceTypes := #[(.object "java/lang/String"), (.object "java/util/List"), .int]
  staticTypes := #[(.object "java/util/List")]
  resolved := Array.replicate 256 none
  statics := none }

def pool10 : Array CpInfo := pool [(1, .methodref 2 3), (0, .class_ 4), (0, .nameAndType 5 6), (0, u "java/lang/Object"), (0, u "<init>"), (0, u "()V"), (0, .fieldref 8 9), (0, .class_ 10), (0, .nameAndType 11 12), (0, u "java/lang/Throwable"), (0, u "cause"), (0, u "Ljava/lang/Throwable;"), (0, .fieldref 8 14), (0, .nameAndType 15 16), (0, u "UNASSIGNED_STACK"), (0, u "[Ljava/lang/StackTraceElement;"), (0, .fieldref 8 18), (0, .nameAndType 19 16), (0, u "stackTrace"), (0, .fieldref 8 21), (0, .nameAndType 22 23), (0, u "SUPPRESSED_SENTINEL"), (0, u "Ljava/util/List;"), (0, .fieldref 8 25), (0, .nameAndType 26 23), (0, u "suppressedExceptions"), (0, .methodref 8 28), (0, .nameAndType 29 30), (0, u "fillInStackTrace"), (0, u "()Ljava/lang/Throwable;"), (0, .fieldref 8 32), (0, .nameAndType 33 34), (0, u "detailMessage"), (0, u "Ljava/lang/String;"), (3, u "()Ljava/lang/String;"), (2, u "getMessage"), (51, .class_ 94), (0, u "java/lang/Throwable$WrappedPrintStream"), (6, .class_ 103), (1, u "java/lang/Throwable$PrintStreamOrWriter"), (61, u "$assertionsDisabled"), (0, u "Z"), (26, .class_ 194), (0, u "java/lang/Throwable$WrappedPrintWriter"), (3, .fieldref 8 199), (0, .nameAndType 200 201), (0, u "backtrace"), (0, u "Ljava/lang/Object;"), (0, .methodref 8 203), (0, .nameAndType 29 204), (0, u "(I)Ljava/lang/Throwable;"), (6, u "depth"), (0, u "I"), (10, u "(Ljava/lang/String;)V"), (45, .class_ 271), (1, u "java/lang/Throwable$SentinelHolder"), (32, u "EMPTY_THROWABLE_ARRAY"), (0, u "[Ljava/lang/Throwable;"), (12, .class_ 319), (0, u "java/io/Serializable"), (0, u "serialVersionUID"), (0, u "J"), (5, u "NULL_CAUSE_MESSAGE"), (0, u "SELF_SUPPRESSION_MESSAGE"), (0, u "CAUSE_CAPTION"), (0, u "SUPPRESSED_CAPTION")] 73

def k10c0 : Code := { maxStack := 2, maxLocals := 1, code := jdk_78_method_1_code, exceptionTable := #[], attributes := #[] }
def k10m0 : Method := { name := "<init>", desc := "()V", sig := { parameters := [], returnType := none }, accessFlags := 1, code := some k10c0 }
def k10c1 : Code := { maxStack := 2, maxLocals := 2, code := jdk_78_method_2_code, exceptionTable := #[], attributes := #[] }
def k10m1 : Method := { name := "<init>", desc := "(Ljava/lang/String;)V", sig := { parameters := [(.object "java/lang/String")], returnType := none }, accessFlags := 1, code := some k10c1 }
def k10c2 : Code := { maxStack := 1, maxLocals := 1, code := jdk_78_method_6_code, exceptionTable := #[], attributes := #[] }
def k10m2 : Method := { name := "getMessage", desc := "()Ljava/lang/String;", sig := { parameters := [], returnType := some (.object "java/lang/String") }, accessFlags := 1, code := some k10c2 }
def k10c3 : Code := { maxStack := 2, maxLocals := 1, code := ⟨#[0x2a, 0xb4, 0x00, 0x11, 0xc7, 0x00, 0x0a, 0x2a, 0xb4, 0x00, 0xc6, 0xc6, 0x00, 0x10, 0x2a, 0x03, 0xb6, 0x00, 0xca, 0x57, 0x2a, 0xb2, 0x00, 0x0d, 0xb5, 0x00, 0x11, 0x2a, 0xb0]⟩, exceptionTable := #[], attributes := #[] }
def k10m3 : Method := { name := "fillInStackTrace", desc := "()Ljava/lang/Throwable;", sig := { parameters := [], returnType := some (.object "java/lang/Throwable") }, accessFlags := 33, code := some k10c3 }
def k10m4 : Method := { name := "fillInStackTrace", desc := "(I)Ljava/lang/Throwable;", sig := { parameters := [.int], returnType := some (.object "java/lang/Throwable") }, accessFlags := 258, code := none }
/-- java/lang/Throwable -/
def k10 : Class := { plain "java/lang/Throwable" (some 0) with
  accessFlags := 33
  interfaces := #[2]
  cf := some (fileOf pool10 8 #[.nestMembers #[193, 93, 101, 269]] #[{ accessFlags := 1, nameIndex := 5, descriptorIndex := 6, attributes := #[] }, { accessFlags := 1, nameIndex := 5, descriptorIndex := 223, attributes := #[] }, { accessFlags := 1, nameIndex := 41, descriptorIndex := 38, attributes := #[] }, { accessFlags := 33, nameIndex := 29, descriptorIndex := 30, attributes := #[] }, { accessFlags := 258, nameIndex := 29, descriptorIndex := 204, attributes := #[] }] 33 2 #[318] #[{ accessFlags := 26, nameIndex := 320, descriptorIndex := 321, attributes := #[] }, { accessFlags := 130, nameIndex := 200, descriptorIndex := 201, attributes := #[] }, { accessFlags := 2, nameIndex := 33, descriptorIndex := 34, attributes := #[] }, { accessFlags := 26, nameIndex := 15, descriptorIndex := 16, attributes := #[] }, { accessFlags := 2, nameIndex := 11, descriptorIndex := 12, attributes := #[] }, { accessFlags := 2, nameIndex := 19, descriptorIndex := 16, attributes := #[] }, { accessFlags := 130, nameIndex := 211, descriptorIndex := 212, attributes := #[] }, { accessFlags := 26, nameIndex := 22, descriptorIndex := 23, attributes := #[] }, { accessFlags := 2, nameIndex := 26, descriptorIndex := 23, attributes := #[] }, { accessFlags := 26, nameIndex := 327, descriptorIndex := 34, attributes := #[] }, { accessFlags := 26, nameIndex := 328, descriptorIndex := 34, attributes := #[] }, { accessFlags := 26, nameIndex := 329, descriptorIndex := 34, attributes := #[] }, { accessFlags := 26, nameIndex := 330, descriptorIndex := 34, attributes := #[] }, { accessFlags := 26, nameIndex := 304, descriptorIndex := 305, attributes := #[] }, { accessFlags := 4120, nameIndex := 165, descriptorIndex := 166, attributes := #[] }])
  fields := #[{ name := "serialVersionUID", type := .long, accessFlags := 26, slot := 0, constantValue := 0 }, { name := "backtrace", type := (.object "java/lang/Object"), accessFlags := 130, slot := 0, constantValue := 0 }, { name := "detailMessage", type := (.object "java/lang/String"), accessFlags := 2, slot := 1, constantValue := 0 }, { name := "UNASSIGNED_STACK", type := (.array (.object "java/lang/StackTraceElement")), accessFlags := 26, slot := 1, constantValue := 0 }, { name := "cause", type := (.object "java/lang/Throwable"), accessFlags := 2, slot := 2, constantValue := 0 }, { name := "stackTrace", type := (.array (.object "java/lang/StackTraceElement")), accessFlags := 2, slot := 3, constantValue := 0 }, { name := "depth", type := .int, accessFlags := 130, slot := 4, constantValue := 0 }, { name := "SUPPRESSED_SENTINEL", type := (.object "java/util/List"), accessFlags := 26, slot := 2, constantValue := 0 }, { name := "suppressedExceptions", type := (.object "java/util/List"), accessFlags := 2, slot := 5, constantValue := 0 }, { name := "NULL_CAUSE_MESSAGE", type := (.object "java/lang/String"), accessFlags := 26, slot := 3, constantValue := 0 }, { name := "SELF_SUPPRESSION_MESSAGE", type := (.object "java/lang/String"), accessFlags := 26, slot := 4, constantValue := 0 }, { name := "CAUSE_CAPTION", type := (.object "java/lang/String"), accessFlags := 26, slot := 5, constantValue := 0 }, { name := "SUPPRESSED_CAPTION", type := (.object "java/lang/String"), accessFlags := 26, slot := 6, constantValue := 0 }, { name := "EMPTY_THROWABLE_ARRAY", type := (.array (.object "java/lang/Throwable")), accessFlags := 26, slot := 7, constantValue := 0 }, { name := "$assertionsDisabled", type := .boolean, accessFlags := 4120, slot := 8, constantValue := 0 }]
  methods := #[k10m0, k10m1, k10m2, k10m3, k10m4]
  instanceTypes := #[(.object "java/lang/Object"), (.object "java/lang/String"), (.object "java/lang/Throwable"), (.array (.object "java/lang/StackTraceElement")), .int, (.object "java/util/List")]
  staticTypes := #[.long, (.array (.object "java/lang/StackTraceElement")), (.object "java/util/List"), (.object "java/lang/String"), (.object "java/lang/String"), (.object "java/lang/String"), (.object "java/lang/String"), (.array (.object "java/lang/Throwable")), .boolean]
  resolved := Array.replicate 404 none
  statics := some 1 }

def pool11 : Array CpInfo := pool [(2, .class_ 4), (1, u "java/lang/Throwable"), (0, u "<init>"), (0, u "()V"), (0, .methodref 2 8), (0, .nameAndType 5 9), (0, u "(Ljava/lang/String;)V"), (9, .class_ 20), (0, u "java/lang/Exception"), (0, u "serialVersionUID"), (0, u "J")] 17

def k11m0 : Method := { name := "<init>", desc := "()V", sig := { parameters := [], returnType := none }, accessFlags := 1, code := none }
def k11c1 : Code := { maxStack := 2, maxLocals := 2, code := jdk_59_method_2_code, exceptionTable := #[], attributes := #[] }
def k11m1 : Method := { name := "<init>", desc := "(Ljava/lang/String;)V", sig := { parameters := [(.object "java/lang/String")], returnType := none }, accessFlags := 1, code := some k11c1 }
/-- java/lang/Exception -/
def k11 : Class := { plain "java/lang/Exception" (some 10) with
  accessFlags := 33
  interfaces := #[]
  cf := some (fileOf pool11 19 #[] #[{ accessFlags := 1, nameIndex := 5, descriptorIndex := 6, attributes := #[] }, { accessFlags := 1, nameIndex := 5, descriptorIndex := 9, attributes := #[] }] 33 2 #[] #[{ accessFlags := 24, nameIndex := 21, descriptorIndex := 22, attributes := #[] }])
  fields := #[{ name := "serialVersionUID", type := .long, accessFlags := 24, slot := 0, constantValue := 0 }]
  methods := #[k11m0, k11m1]
  instanceTypes := #[(.object "java/lang/Object"), (.object "java/lang/String"), (.object "java/lang/Throwable"), (.array (.object "java/lang/StackTraceElement")), .int, (.object "java/util/List")]
  staticTypes := #[.long]
  resolved := Array.replicate 40 none
  statics := none }

def pool12 : Array CpInfo := pool [(2, .class_ 4), (1, u "java/lang/Exception"), (0, u "<init>"), (0, u "()V"), (0, .methodref 2 8), (0, .nameAndType 5 9), (0, u "(Ljava/lang/String;)V"), (9, .class_ 20), (0, u "java/lang/RuntimeException"), (0, u "serialVersionUID"), (0, u "J")] 17

def k12m0 : Method := { name := "<init>", desc := "()V", sig := { parameters := [], returnType := none }, accessFlags := 1, code := none }
def k12c1 : Code := { maxStack := 2, maxLocals := 2, code := jdk_58_method_2_code, exceptionTable := #[], attributes := #[] }
def k12m1 : Method := { name := "<init>", desc := "(Ljava/lang/String;)V", sig := { parameters := [(.object "java/lang/String")], returnType := none }, accessFlags := 1, code := some k12c1 }
/-- java/lang/RuntimeException -/
def k12 : Class := { plain "java/lang/RuntimeException" (some 11) with
  accessFlags := 33
  interfaces := #[]
  cf := some (fileOf pool12 19 #[] #[{ accessFlags := 1, nameIndex := 5, descriptorIndex := 6, attributes := #[] }, { accessFlags := 1, nameIndex := 5, descriptorIndex := 9, attributes := #[] }] 33 2 #[] #[{ accessFlags := 24, nameIndex := 21, descriptorIndex := 22, attributes := #[] }])
  fields := #[{ name := "serialVersionUID", type := .long, accessFlags := 24, slot := 0, constantValue := 0 }]
  methods := #[k12m0, k12m1]
  instanceTypes := #[(.object "java/lang/Object"), (.object "java/lang/String"), (.object "java/lang/Throwable"), (.array (.object "java/lang/StackTraceElement")), .int, (.object "java/util/List")]
  staticTypes := #[.long]
  resolved := Array.replicate 40 none
  statics := none }

def pool13 : Array CpInfo := pool [(2, .class_ 4), (1, u "java/lang/RuntimeException"), (0, u "<init>"), (0, u "()V"), (0, .methodref 2 8), (0, .nameAndType 5 9), (0, u "(Ljava/lang/String;)V"), (6, .class_ 17), (0, u "java/lang/IllegalArgumentException"), (0, u "serialVersionUID"), (0, u "J")] 15

def k13m0 : Method := { name := "<init>", desc := "()V", sig := { parameters := [], returnType := none }, accessFlags := 1, code := none }
def k13c1 : Code := { maxStack := 2, maxLocals := 2, code := jdk_57_method_2_code, exceptionTable := #[], attributes := #[] }
def k13m1 : Method := { name := "<init>", desc := "(Ljava/lang/String;)V", sig := { parameters := [(.object "java/lang/String")], returnType := none }, accessFlags := 1, code := some k13c1 }
/-- java/lang/IllegalArgumentException -/
def k13 : Class := { plain "java/lang/IllegalArgumentException" (some 12) with
  accessFlags := 33
  interfaces := #[]
  cf := some (fileOf pool13 16 #[] #[{ accessFlags := 1, nameIndex := 5, descriptorIndex := 6, attributes := #[] }, { accessFlags := 1, nameIndex := 5, descriptorIndex := 9, attributes := #[] }] 33 2 #[] #[{ accessFlags := 26, nameIndex := 18, descriptorIndex := 19, attributes := #[] }])
  fields := #[{ name := "serialVersionUID", type := .long, accessFlags := 26, slot := 0, constantValue := 0 }]
  methods := #[k13m0, k13m1]
  instanceTypes := #[(.object "java/lang/Object"), (.object "java/lang/String"), (.object "java/lang/Throwable"), (.array (.object "java/lang/StackTraceElement")), .int, (.object "java/util/List")]
  staticTypes := #[.long]
  resolved := Array.replicate 35 none
  statics := none }

def pool14 : Array CpInfo := pool [(1, .class_ 2), (0, u "java/lang/Appendable"), (0, .class_ 4), (0, u "java/lang/Object")] 9

/-- java/lang/Appendable -/
def k14 : Class := { plain "java/lang/Appendable" (some 0) with
  accessFlags := 1537
  interfaces := #[]
  cf := some (fileOf pool14 1 #[] #[] 1537 3 #[] #[])
  fields := #[]
  methods := #[]
  instanceTypes := #[]
  staticTypes := #[]
  resolved := Array.replicate 14 none
  statics := none }

def pool15 : Array CpInfo := pool [(1, .class_ 2), (0, u "java/lang/String"), (0, .methodref 4 5), (0, .class_ 6), (0, .nameAndType 7 8), (0, u "java/lang/Object"), (0, u "<init>"), (0, u "()V"), (1, .class_ 12), (1, u "java/lang/AbstractStringBuilder"), (0, u "EMPTYVALUE"), (0, u "[B"), (0, .fieldref 10 16), (0, .nameAndType 17 14), (0, u "value"), (0, .fieldref 1 19), (0, .nameAndType 20 21), (0, u "COMPACT_STRINGS"), (0, u "Z"), (0, .fieldref 10 23), (0, .nameAndType 24 25), (0, u "coder"), (0, u "B"), (6, .methodref 1 33), (0, .nameAndType 34 35), (0, u "length"), (0, u "()I"), (3, .integer 2147483647), (0, .methodref 1 41), (0, .nameAndType 24 42), (0, u "()B"), (2, u "append"), (0, u "(Ljava/lang/String;)Ljava/lang/AbstractStringBuilder;"), (1, .class_ 49), (0, u "java/lang/CharSequence"), (19, u "(Ljava/lang/String;)V"), (5, u "maybeLatin1"), (3, .fieldref 10 80), (0, .nameAndType 81 82), (0, u "count"), (0, u "I"), (2, u "isLatin1"), (0, u "()Z"), (13, .methodref 10 101), (0, .nameAndType 102 103), (0, u "ensureCapacityInternal"), (0, u "(I)V"), (0, .methodref 10 105), (0, .nameAndType 106 107), (0, u "newCapacity"), (0, u "(I)I"), (0, .methodref 109 110), (0, .class_ 111), (0, .nameAndType 112 113), (0, u "java/util/Arrays"), (0, u "copyOf"), (0, u "([BI)[B"), (0, .methodref 115 116), (0, .class_ 117), (0, .nameAndType 118 119), (0, u "jdk/internal/util/ArraysSupport"), (0, u "newLength"), (0, u "(III)I"), (88, .methodref 10 209), (0, .nameAndType 210 211), (0, u "putStringAt"), (0, u "(ILjava/lang/String;)V"), (5, u "inflateIfNeededFor"), (2, .nameAndType 221 222), (0, u "getBytes"), (0, u "([BIB)V"), (174, .methodref 10 398), (0, .nameAndType 217 69), (0, .methodref 1 220), (3, u "()[B"), (40, .class_ 445), (0, u "java/lang/Appendable"), (106, u "getValue")] 56

def k15m0 : Method := { name := "<init>", desc := "()V", sig := { parameters := [], returnType := none }, accessFlags := 0, code := none }
def k15c1 : Code := { maxStack := 2, maxLocals := 2, code := jdk_68_method_2_code, exceptionTable := #[], attributes := #[] }
def k15m1 : Method := { name := "<init>", desc := "(I)V", sig := { parameters := [.int], returnType := none }, accessFlags := 0, code := some k15c1 }
def k15c2 : Code := { maxStack := 1, maxLocals := 1, code := jdk_68_method_6_code, exceptionTable := #[], attributes := #[] }
def k15m2 : Method := { name := "length", desc := "()I", sig := { parameters := [], returnType := some .int }, accessFlags := 1, code := some k15c2 }
def k15c3 : Code := { maxStack := 4, maxLocals := 3, code := jdk_68_method_9_code, exceptionTable := #[], attributes := #[] }
def k15m3 : Method := { name := "ensureCapacityInternal", desc := "(I)V", sig := { parameters := [.int], returnType := none }, accessFlags := 2, code := some k15c3 }
def k15c4 : Code := { maxStack := 5, maxLocals := 6, code := jdk_68_method_10_code, exceptionTable := #[], attributes := #[] }
def k15m4 : Method := { name := "newCapacity", desc := "(I)I", sig := { parameters := [.int], returnType := some .int }, accessFlags := 2, code := some k15c4 }
def k15c5 : Code := { maxStack := 3, maxLocals := 3, code := jdk_68_method_22_code, exceptionTable := #[], attributes := #[] }
def k15m5 : Method := { name := "append", desc := "(Ljava/lang/String;)Ljava/lang/AbstractStringBuilder;", sig := { parameters := [(.object "java/lang/String")], returnType := some (.object "java/lang/AbstractStringBuilder") }, accessFlags := 1, code := some k15c5 }
def k15c6 : Code := { maxStack := 1, maxLocals := 1, code := jdk_68_method_64_code, exceptionTable := #[], attributes := #[] }
def k15m6 : Method := { name := "getValue", desc := "()[B", sig := { parameters := [], returnType := some (.array .byte) }, accessFlags := 16, code := some k15c6 }
def k15c7 : Code := { maxStack := 1, maxLocals := 1, code := jdk_68_method_68_code, exceptionTable := #[], attributes := #[] }
def k15m7 : Method := { name := "isLatin1", desc := "()Z", sig := { parameters := [], returnType := some .boolean }, accessFlags := 16, code := some k15c7 }
def k15c8 : Code := { maxStack := 2, maxLocals := 2, code := jdk_68_method_71_code, exceptionTable := #[], attributes := #[] }
def k15m8 : Method := { name := "inflateIfNeededFor", desc := "(Ljava/lang/String;)V", sig := { parameters := [(.object "java/lang/String")], returnType := none }, accessFlags := 2, code := some k15c8 }
def k15c9 : Code := { maxStack := 4, maxLocals := 3, code := jdk_68_method_73_code, exceptionTable := #[], attributes := #[] }
def k15m9 : Method := { name := "putStringAt", desc := "(ILjava/lang/String;)V", sig := { parameters := [.int, (.object "java/lang/String")], returnType := none }, accessFlags := 2, code := some k15c9 }
/-- java/lang/AbstractStringBuilder -/
def k15 : Class := { plain "java/lang/AbstractStringBuilder" (some 0) with
  accessFlags := 1056
  interfaces := #[14, 4]
  cf := some (fileOf pool15 10 #[] #[{ accessFlags := 0, nameIndex := 7, descriptorIndex := 8, attributes := #[] }, { accessFlags := 0, nameIndex := 7, descriptorIndex := 103, attributes := #[] }, { accessFlags := 1, nameIndex := 34, descriptorIndex := 35, attributes := #[] }, { accessFlags := 2, nameIndex := 102, descriptorIndex := 103, attributes := #[] }, { accessFlags := 2, nameIndex := 106, descriptorIndex := 107, attributes := #[] }, { accessFlags := 1, nameIndex := 45, descriptorIndex := 46, attributes := #[] }, { accessFlags := 16, nameIndex := 552, descriptorIndex := 403, attributes := #[] }, { accessFlags := 16, nameIndex := 85, descriptorIndex := 86, attributes := #[] }, { accessFlags := 2, nameIndex := 217, descriptorIndex := 69, attributes := #[] }, { accessFlags := 2, nameIndex := 210, descriptorIndex := 211, attributes := #[] }] 1056 4 #[444, 48] #[{ accessFlags := 0, nameIndex := 17, descriptorIndex := 14, attributes := #[] }, { accessFlags := 0, nameIndex := 24, descriptorIndex := 25, attributes := #[] }, { accessFlags := 0, nameIndex := 75, descriptorIndex := 21, attributes := #[] }, { accessFlags := 0, nameIndex := 81, descriptorIndex := 82, attributes := #[] }, { accessFlags := 26, nameIndex := 13, descriptorIndex := 14, attributes := #[] }])
  fields := #[{ name := "value", type := (.array .byte), accessFlags := 0, slot := 0, constantValue := 0 }, { name := "coder", type := .byte, accessFlags := 0, slot := 1, constantValue := 0 }, { name := "maybeLatin1", type := .boolean, accessFlags := 0, slot := 2, constantValue := 0 }, { name := "count", type := .int, accessFlags := 0, slot := 3, constantValue := 0 }, { name := "EMPTYVALUE", type := (.array .byte), accessFlags := 26, slot := 0, constantValue := 0 }]
  methods := #[k15m0, k15m1, k15m2, k15m3, k15m4, k15m5, k15m6, k15m7, k15m8, k15m9]
  instanceTypes := #[(.array .byte), .byte, .boolean, .int]
  staticTypes := #[(.array .byte)]
  resolved := Array.replicate 609 none
  statics := none }

def pool16 : Array CpInfo := pool [(1, .methodref 2 3), (0, .class_ 4), (0, .nameAndType 5 6), (0, u "java/lang/AbstractStringBuilder"), (0, u "<init>"), (0, u "(I)V"), (11, .class_ 20), (1, u "java/lang/String"), (3, .class_ 26), (1, u "java/lang/StringBuilder"), (0, u "append"), (0, u "(Ljava/lang/String;)Ljava/lang/StringBuilder;"), (0, .methodref 2 30), (0, .nameAndType 27 31), (0, u "(Ljava/lang/String;)Ljava/lang/AbstractStringBuilder;"), (105, .methodref 18 138), (0, .nameAndType 5 139), (0, u "(Ljava/lang/StringBuilder;)V"), (5, u "()V"), (10, u "()I"), (186, .methodref 2 344), (0, .nameAndType 345 156), (0, u "length"), (3, .class_ 350), (0, u "java/lang/Appendable"), (0, .class_ 352), (0, u "java/io/Serializable"), (0, .class_ 354), (0, u "java/lang/Comparable"), (0, .class_ 356), (0, u "java/lang/CharSequence"), (0, u "serialVersionUID"), (0, u "J"), (40, u "toString"), (0, u "()Ljava/lang/String;")] 21

def k16c0 : Code := { maxStack := 2, maxLocals := 1, code := jdk_67_method_1_code, exceptionTable := #[], attributes := #[] }
def k16m0 : Method := { name := "<init>", desc := "()V", sig := { parameters := [], returnType := none }, accessFlags := 1, code := some k16c0 }
def k16c1 : Code := { maxStack := 2, maxLocals := 2, code := jdk_67_method_7_code, exceptionTable := #[], attributes := #[] }
def k16m1 : Method := { name := "append", desc := "(Ljava/lang/String;)Ljava/lang/StringBuilder;", sig := { parameters := [(.object "java/lang/String")], returnType := some (.object "java/lang/StringBuilder") }, accessFlags := 1, code := some k16c1 }
def k16c2 : Code := { maxStack := 3, maxLocals := 1, code := jdk_67_method_42_code, exceptionTable := #[], attributes := #[] }
def k16m2 : Method := { name := "toString", desc := "()Ljava/lang/String;", sig := { parameters := [], returnType := some (.object "java/lang/String") }, accessFlags := 1, code := some k16c2 }
def k16c3 : Code := { maxStack := 1, maxLocals := 1, code := jdk_67_method_93_code, exceptionTable := #[], attributes := #[] }
def k16m3 : Method := { name := "length", desc := "()I", sig := { parameters := [], returnType := some .int }, accessFlags := 4161, code := some k16c3 }
/-- java/lang/StringBuilder -/
def k16 : Class := { plain "java/lang/StringBuilder" (some 15) with
  accessFlags := 49
  interfaces := #[14, 2, 3, 4]
  cf := some (fileOf pool16 24 #[] #[{ accessFlags := 1, nameIndex := 5, descriptorIndex := 145, attributes := #[] }, { accessFlags := 1, nameIndex := 27, descriptorIndex := 28, attributes := #[] }, { accessFlags := 1, nameIndex := 399, descriptorIndex := 400, attributes := #[] }, { accessFlags := 4161, nameIndex := 345, descriptorIndex := 156, attributes := #[] }] 49 2 #[349, 351, 353, 355] #[{ accessFlags := 24, nameIndex := 357, descriptorIndex := 358, attributes := #[] }])
  fields := #[{ name := "serialVersionUID", type := .long, accessFlags := 24, slot := 0, constantValue := 0 }]
  methods := #[k16m0, k16m1, k16m2, k16m3]
  instanceTypes := #[(.array .byte), .byte, .boolean, .int]
  staticTypes := #[.long]
  resolved := Array.replicate 422 none
  statics := none }

def pool17 : Array CpInfo := pool [(9, u "<init>"), (6, .class_ 18), (1, u "java/lang/Object"), (0, u "()V"), (1, .class_ 23), (1, u "jdk/internal/util/ArraysSupport"), (0, u "LOG2_ARRAY_LONG_INDEX_SCALE"), (0, u "I"), (2, u "U"), (0, u "Ljdk/internal/misc/Unsafe;"), (8, u "BIG_ENDIAN"), (0, u "Z"), (8, u "LOG2_BYTE_BIT_SIZE"), (4, u "LOG2_ARRAY_INT_INDEX_SCALE"), (54, u "JLA"), (0, u "Ljdk/internal/access/JavaLangAccess;"), (11, u "LOG2_ARRAY_BOOLEAN_INDEX_SCALE"), (9, u "LOG2_ARRAY_BYTE_INDEX_SCALE"), (5, u "LOG2_ARRAY_CHAR_INDEX_SCALE"), (5, u "LOG2_ARRAY_SHORT_INDEX_SCALE"), (18, u "LOG2_ARRAY_FLOAT_INDEX_SCALE"), (24, u "LOG2_ARRAY_DOUBLE_INDEX_SCALE"), (6, .methodref 195 196), (0, .class_ 197), (0, .nameAndType 198 199), (0, u "java/lang/Math"), (0, u "max"), (0, u "(II)I"), (0, .integer 2147483639), (76, u "T_BOOLEAN"), (2, u "T_CHAR"), (1, u "T_FLOAT"), (1, u "T_DOUBLE"), (1, u "T_BYTE"), (1, u "T_SHORT"), (1, u "T_INT"), (1, u "T_LONG"), (1, u "SOFT_MAX_ARRAY_LENGTH"), (56, u "newLength"), (0, u "(III)I")] 25

def k17m0 : Method := { name := "<init>", desc := "()V", sig := { parameters := [], returnType := none }, accessFlags := 2, code := none }
def k17c1 : Code := { maxStack := 3, maxLocals := 4, code := jdk_48_method_27_code, exceptionTable := #[], attributes := #[] }
def k17m1 : Method := { name := "newLength", desc := "(III)I", sig := { parameters := [.int, .int, .int], returnType := some .int }, accessFlags := 9, code := some k17c1 }
/-- jdk/internal/util/ArraysSupport -/
def k17 : Class := { plain "jdk/internal/util/ArraysSupport" (some 0) with
  accessFlags := 33
  interfaces := #[]
  cf := some (fileOf pool17 21 #[] #[{ accessFlags := 2, nameIndex := 9, descriptorIndex := 19, attributes := #[] }, { accessFlags := 9, nameIndex := 351, descriptorIndex := 352, attributes := #[] }] 33 16 #[] #[{ accessFlags := 24, nameIndex := 28, descriptorIndex := 29, attributes := #[] }, { accessFlags := 26, nameIndex := 38, descriptorIndex := 39, attributes := #[] }, { accessFlags := 25, nameIndex := 121, descriptorIndex := 25, attributes := #[] }, { accessFlags := 25, nameIndex := 131, descriptorIndex := 25, attributes := #[] }, { accessFlags := 25, nameIndex := 137, descriptorIndex := 25, attributes := #[] }, { accessFlags := 25, nameIndex := 143, descriptorIndex := 25, attributes := #[] }, { accessFlags := 25, nameIndex := 53, descriptorIndex := 25, attributes := #[] }, { accessFlags := 25, nameIndex := 24, descriptorIndex := 25, attributes := #[] }, { accessFlags := 25, nameIndex := 162, descriptorIndex := 25, attributes := #[] }, { accessFlags := 25, nameIndex := 187, descriptorIndex := 25, attributes := #[] }, { accessFlags := 26, nameIndex := 48, descriptorIndex := 25, attributes := #[] }, { accessFlags := 25, nameIndex := 277, descriptorIndex := 25, attributes := #[] }, { accessFlags := 25, nameIndex := 280, descriptorIndex := 25, attributes := #[] }, { accessFlags := 25, nameIndex := 282, descriptorIndex := 25, attributes := #[] }, { accessFlags := 25, nameIndex := 284, descriptorIndex := 25, attributes := #[] }, { accessFlags := 25, nameIndex := 286, descriptorIndex := 25, attributes := #[] }, { accessFlags := 25, nameIndex := 288, descriptorIndex := 25, attributes := #[] }, { accessFlags := 25, nameIndex := 290, descriptorIndex := 25, attributes := #[] }, { accessFlags := 25, nameIndex := 292, descriptorIndex := 25, attributes := #[] }, { accessFlags := 26, nameIndex := 108, descriptorIndex := 109, attributes := #[] }, { accessFlags := 25, nameIndex := 294, descriptorIndex := 25, attributes := #[] }])
  fields := #[{ name := "U", type := (.object "jdk/internal/misc/Unsafe"), accessFlags := 24, slot := 0, constantValue := 0 }, { name := "BIG_ENDIAN", type := .boolean, accessFlags := 26, slot := 1, constantValue := 0 }, { name := "LOG2_ARRAY_BOOLEAN_INDEX_SCALE", type := .int, accessFlags := 25, slot := 2, constantValue := 0 }, { name := "LOG2_ARRAY_BYTE_INDEX_SCALE", type := .int, accessFlags := 25, slot := 3, constantValue := 0 }, { name := "LOG2_ARRAY_CHAR_INDEX_SCALE", type := .int, accessFlags := 25, slot := 4, constantValue := 0 }, { name := "LOG2_ARRAY_SHORT_INDEX_SCALE", type := .int, accessFlags := 25, slot := 5, constantValue := 0 }, { name := "LOG2_ARRAY_INT_INDEX_SCALE", type := .int, accessFlags := 25, slot := 6, constantValue := 0 }, { name := "LOG2_ARRAY_LONG_INDEX_SCALE", type := .int, accessFlags := 25, slot := 7, constantValue := 0 }, { name := "LOG2_ARRAY_FLOAT_INDEX_SCALE", type := .int, accessFlags := 25, slot := 8, constantValue := 0 }, { name := "LOG2_ARRAY_DOUBLE_INDEX_SCALE", type := .int, accessFlags := 25, slot := 9, constantValue := 0 }, { name := "LOG2_BYTE_BIT_SIZE", type := .int, accessFlags := 26, slot := 10, constantValue := 0 }, { name := "T_BOOLEAN", type := .int, accessFlags := 25, slot := 11, constantValue := 0 }, { name := "T_CHAR", type := .int, accessFlags := 25, slot := 12, constantValue := 0 }, { name := "T_FLOAT", type := .int, accessFlags := 25, slot := 13, constantValue := 0 }, { name := "T_DOUBLE", type := .int, accessFlags := 25, slot := 14, constantValue := 0 }, { name := "T_BYTE", type := .int, accessFlags := 25, slot := 15, constantValue := 0 }, { name := "T_SHORT", type := .int, accessFlags := 25, slot := 16, constantValue := 0 }, { name := "T_INT", type := .int, accessFlags := 25, slot := 17, constantValue := 0 }, { name := "T_LONG", type := .int, accessFlags := 25, slot := 18, constantValue := 0 }, { name := "JLA", type := (.object "jdk/internal/access/JavaLangAccess"), accessFlags := 26, slot := 19, constantValue := 0 }, { name := "SOFT_MAX_ARRAY_LENGTH", type := .int, accessFlags := 25, slot := 20, constantValue := 0 }]
  methods := #[k17m0, k17m1]
  instanceTypes := #[]
  staticTypes := #[(.object "jdk/internal/misc/Unsafe"), .boolean, .int, .int, .int, .int, .int, .int, .int, .int, .int, .int, .int, .int, .int, .int, .int, .int, .int, (.object "jdk/internal/access/JavaLangAccess"), .int]
  resolved := Array.replicate 378 none
  statics := none }

def pool18 : Array CpInfo := pool [(1, .class_ 2), (0, u "java/lang/Math"), (1, .class_ 6), (1, u "java/lang/Object"), (0, u "<init>"), (0, u "()V"), (89, .class_ 100), (1, u "java/lang/Math$RandomNumberGeneratorHolder"), (71, u "negativeZeroFloatBits"), (0, u "J"), (2, u "negativeZeroDoubleBits"), (21, u "max"), (2, u "min"), (43, u "$assertionsDisabled"), (0, u "Z"), (88, u "(II)I"), (2, u "twoToTheDoubleScaleDown"), (0, u "D"), (4, u "twoToTheDoubleScaleUp"), (9, u "E"), (3, u "PI"), (2, u "TAU"), (2, u "DEGREES_TO_RADIANS"), (0, u "RADIANS_TO_DEGREES")] 94

def k18m0 : Method := { name := "<init>", desc := "()V", sig := { parameters := [], returnType := none }, accessFlags := 2, code := none }
def k18c1 : Code := { maxStack := 2, maxLocals := 2, code := jdk_29_method_65_code, exceptionTable := #[], attributes := #[] }
def k18m1 : Method := { name := "max", desc := "(II)I", sig := { parameters := [.int, .int], returnType := some .int }, accessFlags := 9, code := some k18c1 }
def k18c2 : Code := { maxStack := 2, maxLocals := 2, code := jdk_29_method_69_code, exceptionTable := #[], attributes := #[] }
def k18m2 : Method := { name := "min", desc := "(II)I", sig := { parameters := [.int, .int], returnType := some .int }, accessFlags := 9, code := some k18c2 }
/-- java/lang/Math -/
def k18 : Class := { plain "java/lang/Math" (some 0) with
  accessFlags := 49
  interfaces := #[]
  cf := some (fileOf pool18 1 #[.nestMembers #[98]] #[{ accessFlags := 2, nameIndex := 7, descriptorIndex := 8, attributes := #[] }, { accessFlags := 9, nameIndex := 198, descriptorIndex := 335, attributes := #[] }, { accessFlags := 9, nameIndex := 201, descriptorIndex := 335, attributes := #[] }] 49 4 #[] #[{ accessFlags := 25, nameIndex := 354, descriptorIndex := 339, attributes := #[] }, { accessFlags := 25, nameIndex := 358, descriptorIndex := 339, attributes := #[] }, { accessFlags := 25, nameIndex := 361, descriptorIndex := 339, attributes := #[] }, { accessFlags := 26, nameIndex := 364, descriptorIndex := 339, attributes := #[] }, { accessFlags := 26, nameIndex := 365, descriptorIndex := 339, attributes := #[] }, { accessFlags := 26, nameIndex := 172, descriptorIndex := 173, attributes := #[] }, { accessFlags := 26, nameIndex := 176, descriptorIndex := 173, attributes := #[] }, { accessFlags := 8, nameIndex := 344, descriptorIndex := 339, attributes := #[] }, { accessFlags := 8, nameIndex := 338, descriptorIndex := 339, attributes := #[] }, { accessFlags := 4120, nameIndex := 245, descriptorIndex := 246, attributes := #[] }])
  fields := #[{ name := "E", type := .double, accessFlags := 25, slot := 0, constantValue := 0 }, { name := "PI", type := .double, accessFlags := 25, slot := 1, constantValue := 0 }, { name := "TAU", type := .double, accessFlags := 25, slot := 2, constantValue := 0 }, { name := "DEGREES_TO_RADIANS", type := .double, accessFlags := 26, slot := 3, constantValue := 0 }, { name := "RADIANS_TO_DEGREES", type := .double, accessFlags := 26, slot := 4, constantValue := 0 }, { name := "negativeZeroFloatBits", type := .long, accessFlags := 26, slot := 5, constantValue := 0 }, { name := "negativeZeroDoubleBits", type := .long, accessFlags := 26, slot := 6, constantValue := 0 }, { name := "twoToTheDoubleScaleUp", type := .double, accessFlags := 8, slot := 7, constantValue := 0 }, { name := "twoToTheDoubleScaleDown", type := .double, accessFlags := 8, slot := 8, constantValue := 0 }, { name := "$assertionsDisabled", type := .boolean, accessFlags := 4120, slot := 9, constantValue := 0 }]
  methods := #[k18m0, k18m1, k18m2]
  instanceTypes := #[]
  staticTypes := #[.double, .double, .double, .double, .double, .long, .long, .double, .double, .boolean]
  resolved := Array.replicate 460 none
  statics := none }

def pool19 : Array CpInfo := pool [(2, .class_ 4), (1, u "java/lang/Object"), (0, u "<init>"), (0, u "()V"), (7, .class_ 16), (1, u "java/util/Arrays"), (57, .class_ 76), (1, u "java/util/Arrays$NaturalOrder"), (36, .class_ 115), (1, u "java/util/Arrays$LegacyMergeSort"), (1, u "Z"), (21, u "copyOfRange"), (10, .methodref 151 152), (0, .class_ 153), (0, .nameAndType 154 155), (0, u "java/lang/System"), (0, u "arraycopy"), (0, u "(Ljava/lang/Object;ILjava/lang/Object;II)V"), (146, u "copyOf"), (1, .methodref 305 306), (0, .class_ 307), (0, .nameAndType 308 309), (0, u "java/lang/Math"), (0, u "min"), (0, u "(II)I"), (29, .methodref 14 340), (0, .nameAndType 341 342), (0, u "copyOfRangeByte"), (0, u "([BII)[B"), (0, .methodref 14 344), (0, .nameAndType 345 346), (0, u "checkLength"), (0, u "(II)V"), (28, .class_ 376), (0, u "java/util/Arrays$ArrayList"), (68, u "$assertionsDisabled"), (269, u "MIN_ARRAY_SORT_GRAN"), (0, u "I"), (2, u "INSERTIONSORT_THRESHOLD"), (149, u "([BI)[B"), (105, .class_ 976), (0, u "java/util/Arrays$ArrayItr")] 52

def k19m0 : Method := { name := "<init>", desc := "()V", sig := { parameters := [], returnType := none }, accessFlags := 2, code := none }
def k19c1 : Code := { maxStack := 6, maxLocals := 3, code := jdk_65_method_121_code, exceptionTable := #[], attributes := #[] }
def k19m1 : Method := { name := "copyOf", desc := "([BI)[B", sig := { parameters := [(.array .byte), .int], returnType := some (.array .byte) }, accessFlags := 9, code := some k19c1 }
def k19c2 : Code := { maxStack := 4, maxLocals := 2, code := jdk_65_method_131_code, exceptionTable := #[], attributes := #[] }
def k19m2 : Method := { name := "checkLength", desc := "(II)V", sig := { parameters := [.int, .int], returnType := none }, accessFlags := 10, code := some k19c2 }
def k19c3 : Code := { maxStack := 3, maxLocals := 3, code := jdk_65_method_132_code, exceptionTable := #[], attributes := #[] }
def k19m3 : Method := { name := "copyOfRange", desc := "([BII)[B", sig := { parameters := [(.array .byte), .int, .int], returnType := some (.array .byte) }, accessFlags := 9, code := some k19c3 }
def k19c4 : Code := { maxStack := 6, maxLocals := 5, code := jdk_65_method_133_code, exceptionTable := #[], attributes := #[] }
def k19m4 : Method := { name := "copyOfRangeByte", desc := "([BII)[B", sig := { parameters := [(.array .byte), .int, .int], returnType := some (.array .byte) }, accessFlags := 10, code := some k19c4 }
/-- java/util/Arrays -/
def k19 : Class := { plain "java/util/Arrays" (some 0) with
  accessFlags := 49
  interfaces := #[]
  cf := some (fileOf pool19 14 #[.nestMembers #[975, 375, 113, 74]] #[{ accessFlags := 2, nameIndex := 5, descriptorIndex := 6, attributes := #[] }, { accessFlags := 9, nameIndex := 302, descriptorIndex := 869, attributes := #[] }, { accessFlags := 10, nameIndex := 345, descriptorIndex := 346, attributes := #[] }, { accessFlags := 9, nameIndex := 139, descriptorIndex := 342, attributes := #[] }, { accessFlags := 10, nameIndex := 341, descriptorIndex := 342, attributes := #[] }] 49 2 #[] #[{ accessFlags := 26, nameIndex := 715, descriptorIndex := 716, attributes := #[] }, { accessFlags := 26, nameIndex := 719, descriptorIndex := 716, attributes := #[] }, { accessFlags := 4120, nameIndex := 445, descriptorIndex := 117, attributes := #[] }])
  fields := #[{ name := "MIN_ARRAY_SORT_GRAN", type := .int, accessFlags := 26, slot := 0, constantValue := 0 }, { name := "INSERTIONSORT_THRESHOLD", type := .int, accessFlags := 26, slot := 1, constantValue := 0 }, { name := "$assertionsDisabled", type := .boolean, accessFlags := 4120, slot := 2, constantValue := 0 }]
  methods := #[k19m0, k19m1, k19m2, k19m3, k19m4]
  instanceTypes := #[]
  staticTypes := #[.int, .int, .boolean]
  resolved := Array.replicate 1029 none
  statics := none }

def pool20 : Array CpInfo := pool [(2, .class_ 4), (1, u "java/lang/Object"), (0, u "<init>"), (0, u "()V"), (1, .class_ 10), (1, u "java/lang/System"), (0, u "allowSecurityManager"), (0, u "I"), (16, u "cons"), (0, u "Ljava/io/Console;"), (77, .class_ 110), (1, u "java/lang/System$CallersHolder"), (43, u "initialErrStream"), (0, u "Ljava/io/PrintStream;"), (19, u "security"), (0, u "Ljava/lang/SecurityManager;"), (31, .class_ 209), (0, u "java/lang/System$1"), (7, u "props"), (0, u "Ljava/util/Properties;"), (2, u "lineSeparator"), (0, u "Ljava/lang/String;"), (96, .class_ 321), (1, u "java/lang/System$LoggerFinder"), (5, .class_ 328), (0, u "java/lang/System$Logger"), (67, u "err"), (2, u "out"), (91, u "notSupportedJnuEncoding"), (15, u "in"), (17, u "initialIn"), (0, u "Ljava/io/InputStream;"), (35, u "bootLayer"), (0, u "Ljava/lang/ModuleLayer;"), (99, .class_ 664), (0, u "java/lang/System$2"), (9, u "NEVER"), (2, u "MAYBE"), (49, u "arraycopy"), (0, u "(Ljava/lang/Object;ILjava/lang/Object;II)V"), (72, .class_ 802), (0, u "java/lang/System$Logger$Level")] 31

def k20m0 : Method := { name := "<init>", desc := "()V", sig := { parameters := [], returnType := none }, accessFlags := 2, code := none }
def k20m1 : Method := { name := "arraycopy", desc := "(Ljava/lang/Object;ILjava/lang/Object;II)V", sig := { parameters := [(.object "java/lang/Object"), .int, (.object "java/lang/Object"), .int, .int], returnType := none }, accessFlags := 265, code := none }
/-- java/lang/System -/
def k20 : Class := { plain "java/lang/System" (some 0) with
  accessFlags := 49
  interfaces := #[]
  cf := some (fileOf pool20 8 #[.nestMembers #[319, 327, 801, 108, 663, 208]] #[{ accessFlags := 2, nameIndex := 5, descriptorIndex := 6, attributes := #[] }, { accessFlags := 265, nameIndex := 727, descriptorIndex := 728, attributes := #[] }] 49 2 #[] #[{ accessFlags := 25, nameIndex := 507, descriptorIndex := 526, attributes := #[] }, { accessFlags := 25, nameIndex := 399, descriptorIndex := 155, attributes := #[] }, { accessFlags := 25, nameIndex := 396, descriptorIndex := 155, attributes := #[] }, { accessFlags := 10, nameIndex := 525, descriptorIndex := 526, attributes := #[] }, { accessFlags := 26, nameIndex := 674, descriptorIndex := 12, attributes := #[] }, { accessFlags := 26, nameIndex := 677, descriptorIndex := 12, attributes := #[] }, { accessFlags := 10, nameIndex := 11, descriptorIndex := 12, attributes := #[] }, { accessFlags := 74, nameIndex := 175, descriptorIndex := 176, attributes := #[] }, { accessFlags := 10, nameIndex := 491, descriptorIndex := 222, attributes := #[] }, { accessFlags := 74, nameIndex := 29, descriptorIndex := 30, attributes := #[] }, { accessFlags := 74, nameIndex := 154, descriptorIndex := 155, attributes := #[] }, { accessFlags := 10, nameIndex := 217, descriptorIndex := 218, attributes := #[] }, { accessFlags := 10, nameIndex := 221, descriptorIndex := 222, attributes := #[] }, { accessFlags := 8, nameIndex := 562, descriptorIndex := 563, attributes := #[] }])
  fields := #[{ name := "in", type := (.object "java/io/InputStream"), accessFlags := 25, slot := 0, constantValue := 0 }, { name := "out", type := (.object "java/io/PrintStream"), accessFlags := 25, slot := 1, constantValue := 0 }, { name := "err", type := (.object "java/io/PrintStream"), accessFlags := 25, slot := 2, constantValue := 0 }, { name := "initialIn", type := (.object "java/io/InputStream"), accessFlags := 10, slot := 3, constantValue := 0 }, { name := "NEVER", type := .int, accessFlags := 26, slot := 4, constantValue := 0 }, { name := "MAYBE", type := .int, accessFlags := 26, slot := 5, constantValue := 0 }, { name := "allowSecurityManager", type := .int, accessFlags := 10, slot := 6, constantValue := 0 }, { name := "security", type := (.object "java/lang/SecurityManager"), accessFlags := 74, slot := 7, constantValue := 0 }, { name := "notSupportedJnuEncoding", type := (.object "java/lang/String"), accessFlags := 10, slot := 8, constantValue := 0 }, { name := "cons", type := (.object "java/io/Console"), accessFlags := 74, slot := 9, constantValue := 0 }, { name := "initialErrStream", type := (.object "java/io/PrintStream"), accessFlags := 74, slot := 10, constantValue := 0 }, { name := "props", type := (.object "java/util/Properties"), accessFlags := 10, slot := 11, constantValue := 0 }, { name := "lineSeparator", type := (.object "java/lang/String"), accessFlags := 10, slot := 12, constantValue := 0 }, { name := "bootLayer", type := (.object "java/lang/ModuleLayer"), accessFlags := 8, slot := 13, constantValue := 0 }]
  methods := #[k20m0, k20m1]
  instanceTypes := #[]
  staticTypes := #[(.object "java/io/InputStream"), (.object "java/io/PrintStream"), (.object "java/io/PrintStream"), (.object "java/io/InputStream"), .int, .int, .int, (.object "java/lang/SecurityManager"), (.object "java/lang/String"), (.object "java/io/Console"), (.object "java/io/PrintStream"), (.object "java/util/Properties"), (.object "java/lang/String"), (.object "java/lang/ModuleLayer")]
  resolved := Array.replicate 834 none
  statics := none }

def pool21 : Array CpInfo := pool [(4, .class_ 6), (1, u "java/lang/Object"), (0, u "<init>"), (0, u "()V"), (5, .class_ 16), (1, u "java/lang/StringLatin1"), (104, u "$assertionsDisabled"), (0, u "Z"), (98, .class_ 223), (1, u "java/lang/StringLatin1$LinesSpliterator"), (57, u "equals"), (0, u "([B[B)Z"), (107, .class_ 391), (0, u "java/lang/StringLatin1$CharsSpliterator")] 3

def k21m0 : Method := { name := "<init>", desc := "()V", sig := { parameters := [], returnType := none }, accessFlags := 0, code := none }
def k21c1 : Code := { maxStack := 3, maxLocals := 3, code := jdk_43_method_13_code, exceptionTable := #[], attributes := #[] }
def k21m1 : Method := { name := "equals", desc := "([B[B)Z", sig := { parameters := [(.array .byte), (.array .byte)], returnType := some .boolean }, accessFlags := 9, code := some k21c1 }
/-- java/lang/StringLatin1 -/
def k21 : Class := { plain "java/lang/StringLatin1" (some 0) with
  accessFlags := 48
  interfaces := #[]
  cf := some (fileOf pool21 14 #[.nestMembers #[390, 221]] #[{ accessFlags := 0, nameIndex := 7, descriptorIndex := 8, attributes := #[] }, { accessFlags := 9, nameIndex := 281, descriptorIndex := 282, attributes := #[] }] 48 4 #[] #[{ accessFlags := 4120, nameIndex := 121, descriptorIndex := 122, attributes := #[] }])
  fields := #[{ name := "$assertionsDisabled", type := .boolean, accessFlags := 4120, slot := 0, constantValue := 0 }]
  methods := #[k21m0, k21m1]
  instanceTypes := #[]
  staticTypes := #[.boolean]
  resolved := Array.replicate 395 none
  statics := none }

def pool22 : Array CpInfo := pool [(2, .class_ 4), (1, u "java/lang/Object"), (0, u "<init>"), (0, u "()V"), (17, .class_ 26), (1, u "jdk/internal/util/Preconditions"), (28, .class_ 56), (0, u "jdk/internal/util/Preconditions$4"), (57, .class_ 115), (0, u "jdk/internal/util/Preconditions$1"), (7, u "SIOOBE_FORMATTER"), (0, u "Ljava/util/function/BiFunction;"), (0, .class_ 126), (0, u "jdk/internal/util/Preconditions$2"), (3, u "AIOOBE_FORMATTER"), (0, .class_ 132), (0, u "jdk/internal/util/Preconditions$3"), (3, u "IOOBE_FORMATTER")] 57

def k22m0 : Method := { name := "<init>", desc := "()V", sig := { parameters := [], returnType := none }, accessFlags := 1, code := none }
/-- jdk/internal/util/Preconditions -/
def k22 : Class := { plain "jdk/internal/util/Preconditions" (some 0) with
  accessFlags := 33
  interfaces := #[]
  cf := some (fileOf pool22 24 #[.nestMembers #[55, 131, 125, 114]] #[{ accessFlags := 1, nameIndex := 5, descriptorIndex := 6, attributes := #[] }] 33 2 #[] #[{ accessFlags := 25, nameIndex := 123, descriptorIndex := 124, attributes := #[] }, { accessFlags := 25, nameIndex := 130, descriptorIndex := 124, attributes := #[] }, { accessFlags := 25, nameIndex := 136, descriptorIndex := 124, attributes := #[] }])
  fields := #[{ name := "SIOOBE_FORMATTER", type := (.object "java/util/function/BiFunction"), accessFlags := 25, slot := 0, constantValue := 0 }, { name := "AIOOBE_FORMATTER", type := (.object "java/util/function/BiFunction"), accessFlags := 25, slot := 1, constantValue := 0 }, { name := "IOOBE_FORMATTER", type := (.object "java/util/function/BiFunction"), accessFlags := 25, slot := 2, constantValue := 0 }]
  methods := #[k22m0]
  instanceTypes := #[]
  staticTypes := #[(.object "java/util/function/BiFunction"), (.object "java/util/function/BiFunction"), (.object "java/util/function/BiFunction")]
  resolved := Array.replicate 194 none
  statics := some 2 }

def pool23 : Array CpInfo := pool [(2, .class_ 4), (1, u "java/lang/Object"), (0, u "<init>"), (0, u "()V"), (12, .class_ 20), (0, u "java/util/Collections"), (63, u "r"), (0, u "Ljava/util/Random;"), (80, .class_ 167), (0, u "java/util/Collections$UnmodifiableCollection"), (6, .class_ 175), (0, u "java/util/Collections$UnmodifiableSequencedCollection"), (6, .class_ 183), (0, u "java/util/Collections$UnmodifiableSet"), (6, .class_ 191), (0, u "java/util/Collections$UnmodifiableSequencedSet"), (6, .class_ 199), (0, u "java/util/Collections$UnmodifiableSortedSet"), (6, .class_ 207), (0, u "java/util/Collections$UnmodifiableNavigableSet"), (4, .class_ 213), (0, u "java/util/Collections$UnmodifiableList"), (1, .class_ 216), (0, u "java/util/Collections$UnmodifiableRandomAccessList"), (6, .class_ 224), (0, u "java/util/Collections$UnmodifiableMap"), (6, .class_ 232), (0, u "java/util/Collections$UnmodifiableSequencedMap"), (4, .class_ 238), (0, u "java/util/Collections$UnmodifiableSortedMap"), (6, .class_ 246), (0, u "java/util/Collections$UnmodifiableNavigableMap"), (3, .class_ 251), (0, u "java/util/Collections$SynchronizedCollection"), (4, .class_ 257), (0, u "java/util/Collections$SynchronizedSet"), (4, .class_ 263), (0, u "java/util/Collections$SynchronizedSortedSet"), (1, .class_ 266), (0, u "java/util/Collections$SynchronizedNavigableSet"), (1, .class_ 269), (0, u "java/util/Collections$SynchronizedRandomAccessList"), (1, .class_ 272), (0, u "java/util/Collections$SynchronizedList"), (5, .class_ 279), (0, u "java/util/Collections$SynchronizedMap"), (1, .class_ 282), (0, u "java/util/Collections$SynchronizedSortedMap"), (1, .class_ 285), (0, u "java/util/Collections$SynchronizedNavigableMap"), (1, .class_ 288), (0, u "java/util/Collections$CheckedCollection"), (11, .class_ 301), (0, u "java/util/Collections$CheckedQueue"), (3, .class_ 306), (0, u "java/util/Collections$CheckedSet"), (3, .class_ 311), (0, u "java/util/Collections$CheckedSortedSet"), (3, .class_ 316), (0, u "java/util/Collections$CheckedNavigableSet"), (3, .class_ 321), (0, u "java/util/Collections$CheckedRandomAccessList"), (3, .class_ 326), (0, u "java/util/Collections$CheckedList"), (1, .class_ 329), (0, u "java/util/Collections$CheckedMap"), (3, .class_ 334), (0, u "java/util/Collections$CheckedSortedMap"), (3, .class_ 339), (0, u "java/util/Collections$CheckedNavigableMap"), (4, .class_ 346), (1, u "java/util/Collections$EmptyIterator"), (3, .class_ 352), (1, u "java/util/Collections$EmptyListIterator"), (2, .class_ 357), (1, u "java/util/Collections$EmptyEnumeration"), (4, u "EMPTY_SET"), (0, u "Ljava/util/Set;"), (6, u "EMPTY_LIST"), (0, u "Ljava/util/List;"), (2, u "EMPTY_MAP"), (0, u "Ljava/util/Map;"), (4, .class_ 381), (0, u "java/util/Collections$SingletonSet"), (2, .class_ 385), (0, u "java/util/Collections$1"), (1, .class_ 388), (0, u "java/util/Collections$2"), (1, .class_ 391), (0, u "java/util/Collections$SingletonList"), (1, .class_ 394), (0, u "java/util/Collections$SingletonMap"), (22, .class_ 418), (0, u "java/util/Collections$CopiesList"), (4, .class_ 425), (1, u "java/util/Collections$ReverseComparator"), (8, .class_ 435), (0, u "java/util/Collections$ReverseComparator2"), (6, .class_ 443), (0, u "java/util/Collections$3"), (25, .class_ 470), (0, u "java/util/Collections$SetFromMap"), (2, .class_ 474), (0, u "java/util/Collections$SequencedSetFromMap"), (3, .class_ 479), (0, u "java/util/Collections$AsLIFOQueue"), (11, .class_ 492), (0, u "java/util/Collections$EmptySet"), (1, .class_ 495), (0, u "java/util/Collections$EmptyList"), (1, .class_ 498), (0, u "java/util/Collections$EmptyMap"), (1, u "BINARYSEARCH_THRESHOLD"), (0, u "I"), (2, u "REVERSE_THRESHOLD"), (1, u "SHUFFLE_THRESHOLD"), (1, u "FILL_THRESHOLD"), (1, u "ROTATE_THRESHOLD"), (1, u "COPY_THRESHOLD"), (1, u "REPLACEALL_THRESHOLD"), (1, u "INDEXOFSUBLIST_THRESHOLD"), (333, .class_ 851), (0, u "java/util/Collections$CheckedMap$CheckedEntrySet"), (0, .class_ 853), (0, u "java/util/Collections$CheckedMap$CheckedEntrySet$CheckedEntry"), (0, .class_ 855), (0, u "java/util/Collections$CheckedMap$CheckedEntrySet$1"), (0, .class_ 857), (0, u "java/util/Collections$CheckedList$1"), (0, .class_ 859), (0, u "java/util/Collections$CheckedCollection$1"), (0, .class_ 861), (0, u "java/util/Collections$UnmodifiableNavigableMap$EmptyNavigableMap"), (0, .class_ 863), (0, u "java/util/Collections$UnmodifiableMap$UnmodifiableEntrySet"), (0, .class_ 865), (0, u "java/util/Collections$UnmodifiableMap$UnmodifiableEntrySet$UnmodifiableEntry"), (0, .class_ 867), (0, u "java/util/Collections$UnmodifiableMap$UnmodifiableEntrySet$UnmodifiableEntrySetSpliterator"), (0, .class_ 869), (0, u "java/util/Collections$UnmodifiableMap$UnmodifiableEntrySet$1"), (0, .class_ 871), (0, u "java/util/Collections$UnmodifiableList$1"), (0, .class_ 873), (0, u "java/util/Collections$UnmodifiableNavigableSet$EmptyNavigableSet"), (0, .class_ 875), (0, u "java/util/Collections$UnmodifiableCollection$1")] 57

def k23m0 : Method := { name := "<init>", desc := "()V", sig := { parameters := [], returnType := none }, accessFlags := 2, code := none }
/-- java/util/Collections -/
def k23 : Class := { plain "java/util/Collections" (some 0) with
  accessFlags := 33
  interfaces := #[]
  cf := some (fileOf pool23 19 #[.nestMembers #[478, 473, 469, 434, 423, 417, 393, 390, 380, 497, 494, 491, 355, 350, 344, 338, 333, 328, 850, 852, 854, 320, 325, 856, 315, 310, 305, 300, 287, 858, 284, 281, 278, 268, 271, 265, 262, 256, 250, 245, 860, 237, 231, 223, 862, 864, 866, 868, 215, 212, 870, 206, 872, 198, 190, 182, 174, 166, 874, 442, 387, 384]] #[{ accessFlags := 2, nameIndex := 5, descriptorIndex := 6, attributes := #[] }] 33 2 #[] #[{ accessFlags := 26, nameIndex := 500, descriptorIndex := 501, attributes := #[] }, { accessFlags := 26, nameIndex := 504, descriptorIndex := 501, attributes := #[] }, { accessFlags := 26, nameIndex := 506, descriptorIndex := 501, attributes := #[] }, { accessFlags := 26, nameIndex := 508, descriptorIndex := 501, attributes := #[] }, { accessFlags := 26, nameIndex := 510, descriptorIndex := 501, attributes := #[] }, { accessFlags := 26, nameIndex := 512, descriptorIndex := 501, attributes := #[] }, { accessFlags := 26, nameIndex := 514, descriptorIndex := 501, attributes := #[] }, { accessFlags := 26, nameIndex := 516, descriptorIndex := 501, attributes := #[] }, { accessFlags := 10, nameIndex := 84, descriptorIndex := 85, attributes := #[] }, { accessFlags := 25, nameIndex := 362, descriptorIndex := 363, attributes := #[] }, { accessFlags := 25, nameIndex := 370, descriptorIndex := 371, attributes := #[] }, { accessFlags := 25, nameIndex := 374, descriptorIndex := 375, attributes := #[] }])
  fields := #[{ name := "BINARYSEARCH_THRESHOLD", type := .int, accessFlags := 26, slot := 0, constantValue := 0 }, { name := "REVERSE_THRESHOLD", type := .int, accessFlags := 26, slot := 1, constantValue := 0 }, { name := "SHUFFLE_THRESHOLD", type := .int, accessFlags := 26, slot := 2, constantValue := 0 }, { name := "FILL_THRESHOLD", type := .int, accessFlags := 26, slot := 3, constantValue := 0 }, { name := "ROTATE_THRESHOLD", type := .int, accessFlags := 26, slot := 4, constantValue := 0 }, { name := "COPY_THRESHOLD", type := .int, accessFlags := 26, slot := 5, constantValue := 0 }, { name := "REPLACEALL_THRESHOLD", type := .int, accessFlags := 26, slot := 6, constantValue := 0 }, { name := "INDEXOFSUBLIST_THRESHOLD", type := .int, accessFlags := 26, slot := 7, constantValue := 0 }, { name := "r", type := (.object "java/util/Random"), accessFlags := 10, slot := 8, constantValue := 0 }, { name := "EMPTY_SET", type := (.object "java/util/Set"), accessFlags := 25, slot := 9, constantValue := 0 }, { name := "EMPTY_LIST", type := (.object "java/util/List"), accessFlags := 25, slot := 10, constantValue := 0 }, { name := "EMPTY_MAP", type := (.object "java/util/Map"), accessFlags := 25, slot := 11, constantValue := 0 }]
  methods := #[k23m0]
  instanceTypes := #[]
  staticTypes := #[.int, .int, .int, .int, .int, .int, .int, .int, (.object "java/util/Random"), (.object "java/util/Set"), (.object "java/util/List"), (.object "java/util/Map")]
  resolved := Array.replicate 933 none
  statics := some 3 }

def pool24 : Array CpInfo := pool [(8, .class_ 10), (1, u "java/lang/Iterable"), (24, .class_ 36), (0, u "java/lang/Object")] 25

/-- java/lang/Iterable -/
def k24 : Class := { plain "java/lang/Iterable" (some 0) with
  accessFlags := 1537
  interfaces := #[]
  cf := some (fileOf pool24 8 #[] #[] 1537 35 #[] #[])
  fields := #[]
  methods := #[]
  instanceTypes := #[]
  staticTypes := #[]
  resolved := Array.replicate 62 none
  statics := none }

def pool25 : Array CpInfo := pool [(10, .class_ 12), (1, u "java/util/Collection"), (47, .class_ 61), (0, u "java/lang/Object"), (0, .class_ 63), (0, u "java/lang/Iterable")] 51

/-- java/util/Collection -/
def k25 : Class := { plain "java/util/Collection" (some 0) with
  accessFlags := 1537
  interfaces := #[24]
  cf := some (fileOf pool25 10 #[] #[] 1537 60 #[62] #[])
  fields := #[]
  methods := #[]
  instanceTypes := #[]
  staticTypes := #[]
  resolved := Array.replicate 115 none
  statics := none }

def pool26 : Array CpInfo := pool [(2, .class_ 4), (1, u "java/lang/Object"), (0, u "<init>"), (0, u "()V"), (1, .class_ 10), (1, u "java/util/AbstractCollection"), (66, .class_ 78), (0, u "java/util/Collection")] 81

def k26m0 : Method := { name := "<init>", desc := "()V", sig := { parameters := [], returnType := none }, accessFlags := 4, code := none }
/-- java/util/AbstractCollection -/
def k26 : Class := { plain "java/util/AbstractCollection" (some 0) with
  accessFlags := 1057
  interfaces := #[25]
  cf := some (fileOf pool26 8 #[] #[{ accessFlags := 4, nameIndex := 5, descriptorIndex := 6, attributes := #[] }] 1057 2 #[77] #[])
  fields := #[]
  methods := #[k26m0]
  instanceTypes := #[]
  staticTypes := #[]
  resolved := Array.replicate 160 none
  statics := none }

def pool27 : Array CpInfo := pool [(8, .class_ 10), (1, u "java/util/SequencedCollection"), (15, .class_ 27), (0, u "java/lang/Object"), (0, .class_ 29), (0, u "java/util/Collection")] 27

/-- java/util/SequencedCollection -/
def k27 : Class := { plain "java/util/SequencedCollection" (some 0) with
  accessFlags := 1537
  interfaces := #[25]
  cf := some (fileOf pool27 8 #[] #[] 1537 26 #[28] #[])
  fields := #[]
  methods := #[]
  instanceTypes := #[]
  staticTypes := #[]
  resolved := Array.replicate 57 none
  statics := none }

def pool28 : Array CpInfo := pool [(8, .class_ 10), (1, u "java/util/List"), (92, .class_ 104), (0, u "java/lang/Object"), (15, .class_ 121), (0, u "java/util/SequencedCollection")] 129

/-- java/util/List -/
def k28 : Class := { plain "java/util/List" (some 0) with
  accessFlags := 1537
  interfaces := #[27]
  cf := some (fileOf pool28 8 #[] #[] 1537 103 #[120] #[])
  fields := #[]
  methods := #[]
  instanceTypes := #[]
  staticTypes := #[]
  resolved := Array.replicate 251 none
  statics := none }

def pool29 : Array CpInfo := pool [(2, .class_ 4), (1, u "java/util/AbstractCollection"), (0, u "<init>"), (0, u "()V"), (1, .class_ 10), (1, u "java/util/AbstractList"), (0, u "modCount"), (0, u "I"), (64, .class_ 78), (0, u "java/util/AbstractList$Itr"), (3, .class_ 83), (0, u "java/util/AbstractList$ListItr"), (9, .class_ 94), (0, u "java/util/AbstractList$RandomAccessSubList"), (3, .class_ 99), (0, u "java/util/AbstractList$SubList"), (33, .class_ 134), (0, u "java/util/List"), (73, .class_ 209), (0, u "java/util/AbstractList$SubList$1"), (0, .class_ 211), (0, u "java/util/AbstractList$RandomAccessSpliterator")] 6

def k29m0 : Method := { name := "<init>", desc := "()V", sig := { parameters := [], returnType := none }, accessFlags := 4, code := none }
/-- java/util/AbstractList -/
def k29 : Class := { plain "java/util/AbstractList" (some 26) with
  accessFlags := 1057
  interfaces := #[28]
  cf := some (fileOf pool29 8 #[.nestMembers #[93, 98, 208, 210, 82, 77]] #[{ accessFlags := 4, nameIndex := 5, descriptorIndex := 6, attributes := #[] }] 1057 2 #[133] #[{ accessFlags := 132, nameIndex := 11, descriptorIndex := 12, attributes := #[] }])
  fields := #[{ name := "modCount", type := .int, accessFlags := 132, slot := 0, constantValue := 0 }]
  methods := #[k29m0]
  instanceTypes := #[.int]
  staticTypes := #[]
  resolved := Array.replicate 218 none
  statics := none }

def pool30 : Array CpInfo := pool [(1, .class_ 2), (0, u "java/util/RandomAccess"), (0, .class_ 4), (0, u "java/lang/Object")] 2

/-- java/util/RandomAccess -/
def k30 : Class := { plain "java/util/RandomAccess" (some 0) with
  accessFlags := 1537
  interfaces := #[]
  cf := some (fileOf pool30 1 #[] #[] 1537 3 #[] #[])
  fields := #[]
  methods := #[]
  instanceTypes := #[]
  staticTypes := #[]
  resolved := Array.replicate 7 none
  statics := none }

def pool31 : Array CpInfo := pool [(2, .class_ 4), (1, u "java/util/AbstractList"), (0, u "<init>"), (0, u "()V"), (1, .class_ 10), (1, u "java/util/Collections"), (54, .class_ 66), (0, u "java/util/Collections$EmptyList"), (0, .class_ 68), (0, u "java/util/RandomAccess"), (0, .class_ 70), (0, u "java/io/Serializable"), (0, u "serialVersionUID"), (0, u "J")] 77

def k31m0 : Method := { name := "<init>", desc := "()V", sig := { parameters := [], returnType := none }, accessFlags := 2, code := none }
/-- java/util/Collections$EmptyList -/
def k31 : Class := { plain "java/util/Collections$EmptyList" (some 29) with
  accessFlags := 32
  interfaces := #[30, 2]
  cf := some (fileOf pool31 65 #[.nestHost 8] #[{ accessFlags := 2, nameIndex := 5, descriptorIndex := 6, attributes := #[] }] 32 2 #[67, 69] #[{ accessFlags := 26, nameIndex := 71, descriptorIndex := 72, attributes := #[] }])
  fields := #[{ name := "serialVersionUID", type := .long, accessFlags := 26, slot := 0, constantValue := 0 }]
  methods := #[k31m0]
  instanceTypes := #[.int]
  staticTypes := #[.long]
  resolved := Array.replicate 150 none
  statics := none }

def pool32 : Array CpInfo := pool [(2, .class_ 4), (1, u "java/lang/StackTraceElement"), (0, u "<init>"), (2, .class_ 10), (1, u "java/lang/Object"), (0, u "()V"), (2, u "format"), (0, u "B"), (2, u "classLoaderName"), (0, u "Ljava/lang/String;"), (2, u "moduleName"), (2, u "moduleVersion"), (12, u "declaringClass"), (4, u "methodName"), (2, u "fileName"), (2, u "lineNumber"), (0, u "I"), (65, u "declaringClassObject"), (0, u "Ljava/lang/Class;"), (33, .class_ 153), (1, u "java/lang/StackTraceElement$HashedModules"), (17, .class_ 172), (0, u "java/io/Serializable"), (0, u "NATIVE_METHOD"), (1, u "UNKNOWN_SOURCE"), (2, u "BUILTIN_CLASS_LOADER"), (1, u "JDK_NON_UPGRADEABLE_MODULE"), (1, u "serialVersionUID"), (0, u "J")] 51

def k32m0 : Method := { name := "<init>", desc := "()V", sig := { parameters := [], returnType := none }, accessFlags := 2, code := none }
/-- java/lang/StackTraceElement -/
def k32 : Class := { plain "java/lang/StackTraceElement" (some 0) with
  accessFlags := 49
  interfaces := #[2]
  cf := some (fileOf pool32 2 #[.nestMembers #[151]] #[{ accessFlags := 2, nameIndex := 5, descriptorIndex := 11, attributes := #[] }] 49 8 #[171] #[{ accessFlags := 26, nameIndex := 173, descriptorIndex := 19, attributes := #[] }, { accessFlags := 26, nameIndex := 175, descriptorIndex := 19, attributes := #[] }, { accessFlags := 130, nameIndex := 116, descriptorIndex := 117, attributes := #[] }, { accessFlags := 2, nameIndex := 18, descriptorIndex := 19, attributes := #[] }, { accessFlags := 2, nameIndex := 22, descriptorIndex := 19, attributes := #[] }, { accessFlags := 2, nameIndex := 25, descriptorIndex := 19, attributes := #[] }, { accessFlags := 2, nameIndex := 38, descriptorIndex := 19, attributes := #[] }, { accessFlags := 2, nameIndex := 43, descriptorIndex := 19, attributes := #[] }, { accessFlags := 2, nameIndex := 46, descriptorIndex := 19, attributes := #[] }, { accessFlags := 2, nameIndex := 49, descriptorIndex := 50, attributes := #[] }, { accessFlags := 2, nameIndex := 14, descriptorIndex := 15, attributes := #[] }, { accessFlags := 26, nameIndex := 178, descriptorIndex := 15, attributes := #[] }, { accessFlags := 26, nameIndex := 180, descriptorIndex := 15, attributes := #[] }, { accessFlags := 26, nameIndex := 182, descriptorIndex := 183, attributes := #[] }])
  fields := #[{ name := "NATIVE_METHOD", type := (.object "java/lang/String"), accessFlags := 26, slot := 0, constantValue := 0 }, { name := "UNKNOWN_SOURCE", type := (.object "java/lang/String"), accessFlags := 26, slot := 1, constantValue := 0 }, { name := "declaringClassObject", type := (.object "java/lang/Class"), accessFlags := 130, slot := 0, constantValue := 0 }, { name := "classLoaderName", type := (.object "java/lang/String"), accessFlags := 2, slot := 1, constantValue := 0 }, { name := "moduleName", type := (.object "java/lang/String"), accessFlags := 2, slot := 2, constantValue := 0 }, { name := "moduleVersion", type := (.object "java/lang/String"), accessFlags := 2, slot := 3, constantValue := 0 }, { name := "declaringClass", type := (.object "java/lang/String"), accessFlags := 2, slot := 4, constantValue := 0 }, { name := "methodName", type := (.object "java/lang/String"), accessFlags := 2, slot := 5, constantValue := 0 }, { name := "fileName", type := (.object "java/lang/String"), accessFlags := 2, slot := 6, constantValue := 0 }, { name := "lineNumber", type := .int, accessFlags := 2, slot := 7, constantValue := 0 }, { name := "format", type := .byte, accessFlags := 2, slot := 8, constantValue := 0 }, { name := "BUILTIN_CLASS_LOADER", type := .byte, accessFlags := 26, slot := 2, constantValue := 0 }, { name := "JDK_NON_UPGRADEABLE_MODULE", type := .byte, accessFlags := 26, slot := 3, constantValue := 0 }, { name := "serialVersionUID", type := .long, accessFlags := 26, slot := 4, constantValue := 0 }]
  methods := #[k32m0]
  instanceTypes := #[(.object "java/lang/Class"), (.object "java/lang/String"), (.object "java/lang/String"), (.object "java/lang/String"), (.object "java/lang/String"), (.object "java/lang/String"), (.object "java/lang/String"), .int, .byte]
  staticTypes := #[(.object "java/lang/String"), (.object "java/lang/String"), .byte, .byte, .long]
  resolved := Array.replicate 235 none
  statics := none }

def pool33 : Array CpInfo := pool [(1, u "java/lang/Cloneable"), (0, .class_ 1), (0, u "java/lang/Object"), (0, .class_ 3)] 3

/-- java/lang/Cloneable -/
def k33 : Class := { plain "java/lang/Cloneable" (some 0) with
  accessFlags := 1537
  interfaces := #[]
  cf := some (fileOf pool33 2 #[] #[] 1537 4 #[] #[])
  fields := #[]
  methods := #[]
  instanceTypes := #[]
  staticTypes := #[]
  resolved := Array.replicate 8 none
  statics := none }

/-- the primitive byte -/
def k34 : Class := { plain "byte" none with kind := .primitive 'B', accessFlags := 0x411 }
/-- [B -/
def k35 : Class := { plain "[B" (some 0) with kind := .array 34 .byte, interfaces := #[33, 2], accessFlags := 1041 }

/-- the primitive char -/
def k36 : Class := { plain "char" none with kind := .primitive 'C', accessFlags := 0x411 }
/-- [C -/
def k37 : Class := { plain "[C" (some 0) with kind := .array 36 .char, interfaces := #[33, 2], accessFlags := 1041 }

/-- the primitive int -/
def k38 : Class := { plain "int" none with kind := .primitive 'I', accessFlags := 0x411 }
/-- [I -/
def k39 : Class := { plain "[I" (some 0) with kind := .array 38 .int, interfaces := #[33, 2], accessFlags := 1041 }

/-- [Ljava/lang/Object; -/
def k40 : Class := { plain "[Ljava/lang/Object;" (some 0) with kind := .array 0 (.object "java/lang/Object"), interfaces := #[33, 2], accessFlags := 1041 }

/-- [Ljava/lang/StackTraceElement; -/
def k41 : Class := { plain "[Ljava/lang/StackTraceElement;" (some 0) with kind := .array 32 (.object "java/lang/StackTraceElement"), interfaces := #[33, 2], accessFlags := 1041 }

/-- [Ljava/lang/Throwable; -/
def k42 : Class := { plain "[Ljava/lang/Throwable;" (some 0) with kind := .array 10 (.object "java/lang/Throwable"), interfaces := #[33, 2], accessFlags := 1041 }

def heap : Heap := #[{ cls := 7, slots := #[.long 0, .int 1, .null, .int 0, .null, .int 0, .int 0], vm := .statics 7 },
  { cls := 10, slots := #[.long 0, .ref 4, .ref 5, .null, .null, .null, .null, .ref 6, .int 1], vm := .statics 10 },
  { cls := 22, slots := #[.null, .null, .null], vm := .statics 22 },
  { cls := 23, slots := #[.int 0, .int 0, .int 0, .int 0, .int 0, .int 0, .int 0, .int 0, .null, .null, .ref 5, .null], vm := .statics 23 },
  { cls := 41, slots := #[], vm := .none },
  { cls := 31, slots := #[.int 0], vm := .none },
  { cls := 42, slots := #[], vm := .none }]
def classes : Array Class := #[k0, k1, k2, k3, k4, k5, k6, k7, k8, k9, k10, k11, k12, k13, k14, k15, k16, k17, k18, k19, k20, k21, k22, k23, k24, k25, k26, k27, k28, k29, k30, k31, k32, k33, k34, k35, k36, k37, k38, k39, k40, k41, k42]
def interned : List (Array UInt16 × Addr) := []
def slotsUsed : Nat := 32
def theMethod : MethodId := ⟨1, 1⟩
def args0 : Array Value := #[.int 5, .int 5, .int 5, .int 5]
def aboutOver (below : List Frame) : State where
  vm := { classes := classes, interned := interned.toArray }
  heap := heap
  slotsUsed := slotsUsed
  threads := #[{ frames := .invoking theMethod args0 :: below }]
def below0 : List Frame := [.native { method := ⟨0, 0⟩, args := #[] }]
def about1 : State := aboutOver below0
def p0 : Program := .bare "" "" ""
def e0 : Env := launch0.env 0 0 0
theorem w_frames : about1.frames = Frame.invoking theMethod args0 :: below0 := rfl
set_option maxRecDepth 65536 in
theorem w_args : argsFit about1.vm theMethod args0 = true := by decide +kernel
set_option maxRecDepth 65536 in
theorem w_heap : heapFits about1 = true := by decide +kernel
set_option maxRecDepth 65536 in
theorem w_runnable : about1.curStatus? = some .runnable := by decide +kernel
set_option maxRecDepth 65536 in
theorem w_alone : about1.alone = true := by decide +kernel
set_option maxRecDepth 65536 in
theorem w_named : about1.methodNamed? x = some theMethod := by decide +kernel
set_option maxRecDepth 65536 in
theorem w_hears : about1.hears theMethod below0 = true := by decide +kernel
set_option maxRecDepth 65536 in
theorem w_ripe : about1.ripe theMethod args0 below0 = true := by decide +kernel
theorem w_running : about1.status = .running := rfl
set_option maxRecDepth 65536 in
theorem w_room : about1.hasRoom e0.platform room_1 = true :=
  launch0.hasRoom_least _ room_1 (by decide +kernel) (by decide +kernel) (by decide +kernel) (by decide +kernel) (by decide +kernel) (by decide +kernel)
theorem allAtoms_all (ts : List Jvm.Cond) (a : Array Jvm.Value) (st : Jvm.State) : (allAtoms ts).before a st = ts.all (fun c => c.before a st) := by
  induction ts with
  | nil => rfl
  | cons c t ih =>
    show (Jvm.Cond.and c (allAtoms t)).before a st = _
    rw [Jvm.Cond.before_and, ih, List.all_cons]
def words1 : List Jvm.Cond := Jvm.Cond.code x code maxLocals ret :: tables_1
/-- a 'code' word, met by the world's own term for the bytes: nothing is compared byte by byte -/
theorem code_word {y : MethodName} {bytes : ByteArray} {mx : Nat} {rt : Option FieldType} {a : Array Value} {s : State} {m : MethodId} {meth : Method} {c : Code} (h1 : s.methodNamed? y = some m) (h2 : s.vm.method? m = some meth) (h3 : meth.code = some c) (h4 : c.code = bytes)
    (h5 : (c.maxLocals == mx && c.exceptionTable.isEmpty && decide (c.maxStack ≤ mostOperands) && decide (meth.sig.returnType = rt) && !meth.locks && decide (parseMethodDescriptor y.desc = some meth.sig)) = true) : (Jvm.Cond.code y bytes mx rt).before a s = true := by
  simp only [Bool.and_eq_true, beq_iff_eq, Bool.not_eq_true', decide_eq_true_eq] at h5
  obtain ⟨⟨⟨⟨⟨g1, g2⟩, g3⟩, g4⟩, g5⟩, g6⟩ := h5
  simp [Cond.before, Cond.holds, Cond.value, h1, h2, h3, h4, g1, g2, g3, g4, g5, g6]
def isCode : Jvm.Cond → Bool
  | .code _ _ _ _ => true
  | _ => false
theorem all_split {L : List Jvm.Cond} {P : Jvm.Cond → Bool} (h1 : L.all (fun c => isCode c || P c) = true) (h2 : ∀ c ∈ L.filter isCode, P c = true) : L.all P = true := by
  refine List.all_eq_true.mpr fun c hc => ?_
  have h := List.all_eq_true.mp h1 c hc
  rcases Bool.eq_false_or_eq_true (isCode c) with hi | hi
  · exact h2 c (List.mem_filter.mpr ⟨hc, hi⟩)
  · simpa [hi] using h
set_option maxRecDepth 65536 in
theorem w_c0 : (Jvm.Cond.code x code maxLocals ret).before args0 about1 = true := code_word (m := ⟨1, 1⟩) (meth := k1m1) (c := k1c1) (by decide +kernel) rfl rfl rfl (by decide +kernel)
set_option maxRecDepth 65536 in
theorem w_c1 : (Jvm.Cond.code ({ cls := "java/lang/String", name := "<init>", desc := "([C)V" } : Jvm.MethodName) jdk_42_method_3_code (2 : Nat) (Option.none : Option Jvm.ClassFile.FieldType)).before args0 about1 = true := code_word (m := ⟨7, 1⟩) (meth := k7m1) (c := k7c1) (by decide +kernel) rfl rfl rfl (by decide +kernel)
set_option maxRecDepth 65536 in
theorem w_c2 : (Jvm.Cond.code ({ cls := "java/lang/String", name := "<init>", desc := "([CIILjava/lang/Void;)V" } : Jvm.MethodName) jdk_42_method_149_code (6 : Nat) (Option.none : Option Jvm.ClassFile.FieldType)).before args0 about1 = true := code_word (m := ⟨7, 6⟩) (meth := k7m6) (c := k7c6) (by decide +kernel) rfl rfl rfl (by decide +kernel)
set_option maxRecDepth 65536 in
theorem w_c3 : (Jvm.Cond.code ({ cls := "java/lang/Object", name := "<init>", desc := "()V" } : Jvm.MethodName) object_method_1_code (1 : Nat) (Option.none : Option Jvm.ClassFile.FieldType)).before args0 about1 = true := code_word (m := ⟨0, 0⟩) (meth := k0m0) (c := k0c0) (by decide +kernel) rfl rfl rfl (by decide +kernel)
set_option maxRecDepth 65536 in
theorem w_c4 : (Jvm.Cond.code ({ cls := "java/lang/StringUTF16", name := "compress", desc := "([CII)[B" } : Jvm.MethodName) jdk_52_method_16_code (6 : Nat) (Option.some (Jvm.ClassFile.FieldType.array Jvm.ClassFile.FieldType.byte))).before args0 about1 = true := code_word (m := ⟨8, 2⟩) (meth := k8m2) (c := k8c2) (by decide +kernel) rfl rfl rfl (by decide +kernel)
set_option maxRecDepth 65536 in
theorem w_c5 : (Jvm.Cond.code ({ cls := "java/lang/StringUTF16", name := "compress", desc := "([CI[BII)I" } : Jvm.MethodName) jdk_52_method_21_code (7 : Nat) (Option.some Jvm.ClassFile.FieldType.int)).before args0 about1 = true := code_word (m := ⟨8, 3⟩) (meth := k8m3) (c := k8c3) (by decide +kernel) rfl rfl rfl (by decide +kernel)
set_option maxRecDepth 65536 in
theorem w_c6 : (Jvm.Cond.code ({ cls := "java/lang/StringUTF16", name := "coderFromArrayLen", desc := "([BI)B" } : Jvm.MethodName) jdk_52_method_15_code (2 : Nat) (Option.some Jvm.ClassFile.FieldType.byte)).before args0 about1 = true := code_word (m := ⟨8, 1⟩) (meth := k8m1) (c := k8c1) (by decide +kernel) rfl rfl rfl (by decide +kernel)
set_option maxRecDepth 65536 in
theorem w_c7 : (Jvm.Cond.code ({ cls := "com/example/idlr/idlr/JpqlLexer", name := "refused", desc := "(Ljava/lang/String;Ljava/lang/String;)Ljava/lang/IllegalArgumentException;" } : Jvm.MethodName) prog_2_method_3_code (2 : Nat) (Option.some (Jvm.ClassFile.FieldType.object "java/lang/IllegalArgumentException"))).before args0 about1 = true := code_word (m := ⟨9, 0⟩) (meth := k9m0) (c := k9c0) (by decide +kernel) rfl rfl rfl (by decide +kernel)
set_option maxRecDepth 65536 in
theorem w_c8 : (Jvm.Cond.code ({ cls := "java/lang/StringBuilder", name := "<init>", desc := "()V" } : Jvm.MethodName) jdk_67_method_1_code (1 : Nat) (Option.none : Option Jvm.ClassFile.FieldType)).before args0 about1 = true := code_word (m := ⟨16, 0⟩) (meth := k16m0) (c := k16c0) (by decide +kernel) rfl rfl rfl (by decide +kernel)
set_option maxRecDepth 65536 in
theorem w_c9 : (Jvm.Cond.code ({ cls := "java/lang/AbstractStringBuilder", name := "<init>", desc := "(I)V" } : Jvm.MethodName) jdk_68_method_2_code (2 : Nat) (Option.none : Option Jvm.ClassFile.FieldType)).before args0 about1 = true := code_word (m := ⟨15, 1⟩) (meth := k15m1) (c := k15c1) (by decide +kernel) rfl rfl rfl (by decide +kernel)
set_option maxRecDepth 65536 in
theorem w_c10 : (Jvm.Cond.code ({ cls := "java/lang/StringBuilder", name := "append", desc := "(Ljava/lang/String;)Ljava/lang/StringBuilder;" } : Jvm.MethodName) jdk_67_method_7_code (2 : Nat) (Option.some (Jvm.ClassFile.FieldType.object "java/lang/StringBuilder"))).before args0 about1 = true := code_word (m := ⟨16, 1⟩) (meth := k16m1) (c := k16c1) (by decide +kernel) rfl rfl rfl (by decide +kernel)
set_option maxRecDepth 65536 in
theorem w_c11 : (Jvm.Cond.code ({ cls := "java/lang/AbstractStringBuilder", name := "append", desc := "(Ljava/lang/String;)Ljava/lang/AbstractStringBuilder;" } : Jvm.MethodName) jdk_68_method_22_code (3 : Nat) (Option.some (Jvm.ClassFile.FieldType.object "java/lang/AbstractStringBuilder"))).before args0 about1 = true := code_word (m := ⟨15, 5⟩) (meth := k15m5) (c := k15c5) (by decide +kernel) rfl rfl rfl (by decide +kernel)
set_option maxRecDepth 65536 in
theorem w_c12 : (Jvm.Cond.code ({ cls := "java/lang/String", name := "length", desc := "()I" } : Jvm.MethodName) jdk_42_method_54_code (1 : Nat) (Option.some Jvm.ClassFile.FieldType.int)).before args0 about1 = true := code_word (m := ⟨7, 3⟩) (meth := k7m3) (c := k7c3) (by decide +kernel) rfl rfl rfl (by decide +kernel)
set_option maxRecDepth 65536 in
theorem w_c13 : (Jvm.Cond.code ({ cls := "java/lang/String", name := "coder", desc := "()B" } : Jvm.MethodName) jdk_42_method_152_code (1 : Nat) (Option.some Jvm.ClassFile.FieldType.byte)).before args0 about1 = true := code_word (m := ⟨7, 8⟩) (meth := k7m8) (c := k7c8) (by decide +kernel) rfl rfl rfl (by decide +kernel)
set_option maxRecDepth 65536 in
theorem w_c14 : (Jvm.Cond.code ({ cls := "java/lang/AbstractStringBuilder", name := "ensureCapacityInternal", desc := "(I)V" } : Jvm.MethodName) jdk_68_method_9_code (3 : Nat) (Option.none : Option Jvm.ClassFile.FieldType)).before args0 about1 = true := code_word (m := ⟨15, 3⟩) (meth := k15m3) (c := k15c3) (by decide +kernel) rfl rfl rfl (by decide +kernel)
set_option maxRecDepth 65536 in
theorem w_c15 : (Jvm.Cond.code ({ cls := "java/lang/AbstractStringBuilder", name := "newCapacity", desc := "(I)I" } : Jvm.MethodName) jdk_68_method_10_code (6 : Nat) (Option.some Jvm.ClassFile.FieldType.int)).before args0 about1 = true := code_word (m := ⟨15, 4⟩) (meth := k15m4) (c := k15c4) (by decide +kernel) rfl rfl rfl (by decide +kernel)
set_option maxRecDepth 65536 in
theorem w_c16 : (Jvm.Cond.code ({ cls := "jdk/internal/util/ArraysSupport", name := "newLength", desc := "(III)I" } : Jvm.MethodName) jdk_48_method_27_code (4 : Nat) (Option.some Jvm.ClassFile.FieldType.int)).before args0 about1 = true := code_word (m := ⟨17, 1⟩) (meth := k17m1) (c := k17c1) (by decide +kernel) rfl rfl rfl (by decide +kernel)
set_option maxRecDepth 65536 in
theorem w_c17 : (Jvm.Cond.code ({ cls := "java/lang/Math", name := "max", desc := "(II)I" } : Jvm.MethodName) jdk_29_method_65_code (2 : Nat) (Option.some Jvm.ClassFile.FieldType.int)).before args0 about1 = true := code_word (m := ⟨18, 1⟩) (meth := k18m1) (c := k18c1) (by decide +kernel) rfl rfl rfl (by decide +kernel)
set_option maxRecDepth 65536 in
theorem w_c18 : (Jvm.Cond.code ({ cls := "java/util/Arrays", name := "copyOf", desc := "([BI)[B" } : Jvm.MethodName) jdk_65_method_121_code (3 : Nat) (Option.some (Jvm.ClassFile.FieldType.array Jvm.ClassFile.FieldType.byte))).before args0 about1 = true := code_word (m := ⟨19, 1⟩) (meth := k19m1) (c := k19c1) (by decide +kernel) rfl rfl rfl (by decide +kernel)
set_option maxRecDepth 65536 in
theorem w_c19 : (Jvm.Cond.code ({ cls := "java/lang/Math", name := "min", desc := "(II)I" } : Jvm.MethodName) jdk_29_method_69_code (2 : Nat) (Option.some Jvm.ClassFile.FieldType.int)).before args0 about1 = true := code_word (m := ⟨18, 2⟩) (meth := k18m2) (c := k18c2) (by decide +kernel) rfl rfl rfl (by decide +kernel)
set_option maxRecDepth 65536 in
theorem w_c20 : (Jvm.Cond.code ({ cls := "java/lang/AbstractStringBuilder", name := "putStringAt", desc := "(ILjava/lang/String;)V" } : Jvm.MethodName) jdk_68_method_73_code (3 : Nat) (Option.none : Option Jvm.ClassFile.FieldType)).before args0 about1 = true := code_word (m := ⟨15, 9⟩) (meth := k15m9) (c := k15c9) (by decide +kernel) rfl rfl rfl (by decide +kernel)
set_option maxRecDepth 65536 in
theorem w_c21 : (Jvm.Cond.code ({ cls := "java/lang/AbstractStringBuilder", name := "inflateIfNeededFor", desc := "(Ljava/lang/String;)V" } : Jvm.MethodName) jdk_68_method_71_code (2 : Nat) (Option.none : Option Jvm.ClassFile.FieldType)).before args0 about1 = true := code_word (m := ⟨15, 8⟩) (meth := k15m8) (c := k15c8) (by decide +kernel) rfl rfl rfl (by decide +kernel)
set_option maxRecDepth 65536 in
theorem w_c22 : (Jvm.Cond.code ({ cls := "java/lang/String", name := "getBytes", desc := "([BIB)V" } : Jvm.MethodName) jdk_42_method_147_code (4 : Nat) (Option.none : Option Jvm.ClassFile.FieldType)).before args0 about1 = true := code_word (m := ⟨7, 5⟩) (meth := k7m5) (c := k7c5) (by decide +kernel) rfl rfl rfl (by decide +kernel)
set_option maxRecDepth 65536 in
theorem w_c23 : (Jvm.Cond.code ({ cls := "java/lang/StringBuilder", name := "toString", desc := "()Ljava/lang/String;" } : Jvm.MethodName) jdk_67_method_42_code (1 : Nat) (Option.some (Jvm.ClassFile.FieldType.object "java/lang/String"))).before args0 about1 = true := code_word (m := ⟨16, 2⟩) (meth := k16m2) (c := k16c2) (by decide +kernel) rfl rfl rfl (by decide +kernel)
set_option maxRecDepth 65536 in
theorem w_c24 : (Jvm.Cond.code ({ cls := "java/lang/String", name := "<init>", desc := "(Ljava/lang/StringBuilder;)V" } : Jvm.MethodName) jdk_42_method_53_code (2 : Nat) (Option.none : Option Jvm.ClassFile.FieldType)).before args0 about1 = true := code_word (m := ⟨7, 2⟩) (meth := k7m2) (c := k7c2) (by decide +kernel) rfl rfl rfl (by decide +kernel)
set_option maxRecDepth 65536 in
theorem w_c25 : (Jvm.Cond.code ({ cls := "java/lang/String", name := "<init>", desc := "(Ljava/lang/AbstractStringBuilder;Ljava/lang/Void;)V" } : Jvm.MethodName) jdk_42_method_150_code (5 : Nat) (Option.none : Option Jvm.ClassFile.FieldType)).before args0 about1 = true := code_word (m := ⟨7, 7⟩) (meth := k7m7) (c := k7c7) (by decide +kernel) rfl rfl rfl (by decide +kernel)
set_option maxRecDepth 65536 in
theorem w_c26 : (Jvm.Cond.code ({ cls := "java/lang/AbstractStringBuilder", name := "getValue", desc := "()[B" } : Jvm.MethodName) jdk_68_method_64_code (1 : Nat) (Option.some (Jvm.ClassFile.FieldType.array Jvm.ClassFile.FieldType.byte))).before args0 about1 = true := code_word (m := ⟨15, 6⟩) (meth := k15m6) (c := k15c6) (by decide +kernel) rfl rfl rfl (by decide +kernel)
set_option maxRecDepth 65536 in
theorem w_c27 : (Jvm.Cond.code ({ cls := "java/lang/StringBuilder", name := "length", desc := "()I" } : Jvm.MethodName) jdk_67_method_93_code (1 : Nat) (Option.some Jvm.ClassFile.FieldType.int)).before args0 about1 = true := code_word (m := ⟨16, 3⟩) (meth := k16m3) (c := k16c3) (by decide +kernel) rfl rfl rfl (by decide +kernel)
set_option maxRecDepth 65536 in
theorem w_c28 : (Jvm.Cond.code ({ cls := "java/lang/AbstractStringBuilder", name := "length", desc := "()I" } : Jvm.MethodName) jdk_68_method_6_code (1 : Nat) (Option.some Jvm.ClassFile.FieldType.int)).before args0 about1 = true := code_word (m := ⟨15, 2⟩) (meth := k15m2) (c := k15c2) (by decide +kernel) rfl rfl rfl (by decide +kernel)
set_option maxRecDepth 65536 in
theorem w_c29 : (Jvm.Cond.code ({ cls := "java/lang/AbstractStringBuilder", name := "isLatin1", desc := "()Z" } : Jvm.MethodName) jdk_68_method_68_code (1 : Nat) (Option.some Jvm.ClassFile.FieldType.boolean)).before args0 about1 = true := code_word (m := ⟨15, 7⟩) (meth := k15m7) (c := k15c7) (by decide +kernel) rfl rfl rfl (by decide +kernel)
set_option maxRecDepth 65536 in
theorem w_c30 : (Jvm.Cond.code ({ cls := "java/util/Arrays", name := "copyOfRange", desc := "([BII)[B" } : Jvm.MethodName) jdk_65_method_132_code (3 : Nat) (Option.some (Jvm.ClassFile.FieldType.array Jvm.ClassFile.FieldType.byte))).before args0 about1 = true := code_word (m := ⟨19, 3⟩) (meth := k19m3) (c := k19c3) (by decide +kernel) rfl rfl rfl (by decide +kernel)
set_option maxRecDepth 65536 in
theorem w_c31 : (Jvm.Cond.code ({ cls := "java/util/Arrays", name := "copyOfRangeByte", desc := "([BII)[B" } : Jvm.MethodName) jdk_65_method_133_code (5 : Nat) (Option.some (Jvm.ClassFile.FieldType.array Jvm.ClassFile.FieldType.byte))).before args0 about1 = true := code_word (m := ⟨19, 4⟩) (meth := k19m4) (c := k19c4) (by decide +kernel) rfl rfl rfl (by decide +kernel)
set_option maxRecDepth 65536 in
theorem w_c32 : (Jvm.Cond.code ({ cls := "java/util/Arrays", name := "checkLength", desc := "(II)V" } : Jvm.MethodName) jdk_65_method_131_code (2 : Nat) (Option.none : Option Jvm.ClassFile.FieldType)).before args0 about1 = true := code_word (m := ⟨19, 2⟩) (meth := k19m2) (c := k19c2) (by decide +kernel) rfl rfl rfl (by decide +kernel)
set_option maxRecDepth 65536 in
theorem w_c33 : (Jvm.Cond.code ({ cls := "java/lang/IllegalArgumentException", name := "<init>", desc := "(Ljava/lang/String;)V" } : Jvm.MethodName) jdk_57_method_2_code (2 : Nat) (Option.none : Option Jvm.ClassFile.FieldType)).before args0 about1 = true := code_word (m := ⟨13, 1⟩) (meth := k13m1) (c := k13c1) (by decide +kernel) rfl rfl rfl (by decide +kernel)
set_option maxRecDepth 65536 in
theorem w_c34 : (Jvm.Cond.code ({ cls := "java/lang/RuntimeException", name := "<init>", desc := "(Ljava/lang/String;)V" } : Jvm.MethodName) jdk_58_method_2_code (2 : Nat) (Option.none : Option Jvm.ClassFile.FieldType)).before args0 about1 = true := code_word (m := ⟨12, 1⟩) (meth := k12m1) (c := k12c1) (by decide +kernel) rfl rfl rfl (by decide +kernel)
set_option maxRecDepth 65536 in
theorem w_c35 : (Jvm.Cond.code ({ cls := "java/lang/Exception", name := "<init>", desc := "(Ljava/lang/String;)V" } : Jvm.MethodName) jdk_59_method_2_code (2 : Nat) (Option.none : Option Jvm.ClassFile.FieldType)).before args0 about1 = true := code_word (m := ⟨11, 1⟩) (meth := k11m1) (c := k11c1) (by decide +kernel) rfl rfl rfl (by decide +kernel)
set_option maxRecDepth 65536 in
theorem w_c36 : (Jvm.Cond.code ({ cls := "java/lang/Throwable", name := "<init>", desc := "(Ljava/lang/String;)V" } : Jvm.MethodName) jdk_78_method_2_code (2 : Nat) (Option.none : Option Jvm.ClassFile.FieldType)).before args0 about1 = true := code_word (m := ⟨10, 1⟩) (meth := k10m1) (c := k10c1) (by decide +kernel) rfl rfl rfl (by decide +kernel)
set_option maxRecDepth 65536 in
theorem w_c37 : (Jvm.Cond.code ({ cls := "java/lang/Throwable", name := "<init>", desc := "()V" } : Jvm.MethodName) jdk_78_method_1_code (1 : Nat) (Option.none : Option Jvm.ClassFile.FieldType)).before args0 about1 = true := code_word (m := ⟨10, 0⟩) (meth := k10m0) (c := k10c0) (by decide +kernel) rfl rfl rfl (by decide +kernel)
set_option maxRecDepth 65536 in
theorem w_c38 : (Jvm.Cond.code ({ cls := "java/lang/Throwable", name := "getMessage", desc := "()Ljava/lang/String;" } : Jvm.MethodName) jdk_78_method_6_code (1 : Nat) (Option.some (Jvm.ClassFile.FieldType.object "java/lang/String"))).before args0 about1 = true := code_word (m := ⟨10, 2⟩) (meth := k10m2) (c := k10c2) (by decide +kernel) rfl rfl rfl (by decide +kernel)
set_option maxRecDepth 65536 in
theorem w_c39 : (Jvm.Cond.code ({ cls := "java/lang/String", name := "equals", desc := "(Ljava/lang/Object;)Z" } : Jvm.MethodName) jdk_42_method_66_code (3 : Nat) (Option.some Jvm.ClassFile.FieldType.boolean)).before args0 about1 = true := code_word (m := ⟨7, 4⟩) (meth := k7m4) (c := k7c4) (by decide +kernel) rfl rfl rfl (by decide +kernel)
set_option maxRecDepth 65536 in
theorem w_c40 : (Jvm.Cond.code ({ cls := "java/lang/StringLatin1", name := "equals", desc := "([B[B)Z" } : Jvm.MethodName) jdk_43_method_13_code (3 : Nat) (Option.some Jvm.ClassFile.FieldType.boolean)).before args0 about1 = true := code_word (m := ⟨21, 1⟩) (meth := k21m1) (c := k21c1) (by decide +kernel) rfl rfl rfl (by decide +kernel)
def codes1 : List Jvm.Cond := [Jvm.Cond.code x code maxLocals ret, Jvm.Cond.code ({ cls := "java/lang/String", name := "<init>", desc := "([C)V" } : Jvm.MethodName) jdk_42_method_3_code (2 : Nat) (Option.none : Option Jvm.ClassFile.FieldType), Jvm.Cond.code ({ cls := "java/lang/String", name := "<init>", desc := "([CIILjava/lang/Void;)V" } : Jvm.MethodName) jdk_42_method_149_code (6 : Nat) (Option.none : Option Jvm.ClassFile.FieldType), Jvm.Cond.code ({ cls := "java/lang/Object", name := "<init>", desc := "()V" } : Jvm.MethodName) object_method_1_code (1 : Nat) (Option.none : Option Jvm.ClassFile.FieldType), Jvm.Cond.code ({ cls := "java/lang/StringUTF16", name := "compress", desc := "([CII)[B" } : Jvm.MethodName) jdk_52_method_16_code (6 : Nat) (Option.some (Jvm.ClassFile.FieldType.array Jvm.ClassFile.FieldType.byte)), Jvm.Cond.code ({ cls := "java/lang/StringUTF16", name := "compress", desc := "([CI[BII)I" } : Jvm.MethodName) jdk_52_method_21_code (7 : Nat) (Option.some Jvm.ClassFile.FieldType.int), Jvm.Cond.code ({ cls := "java/lang/StringUTF16", name := "coderFromArrayLen", desc := "([BI)B" } : Jvm.MethodName) jdk_52_method_15_code (2 : Nat) (Option.some Jvm.ClassFile.FieldType.byte), Jvm.Cond.code ({ cls := "com/example/idlr/idlr/JpqlLexer", name := "refused", desc := "(Ljava/lang/String;Ljava/lang/String;)Ljava/lang/IllegalArgumentException;" } : Jvm.MethodName) prog_2_method_3_code (2 : Nat) (Option.some (Jvm.ClassFile.FieldType.object "java/lang/IllegalArgumentException")), Jvm.Cond.code ({ cls := "java/lang/StringBuilder", name := "<init>", desc := "()V" } : Jvm.MethodName) jdk_67_method_1_code (1 : Nat) (Option.none : Option Jvm.ClassFile.FieldType), Jvm.Cond.code ({ cls := "java/lang/AbstractStringBuilder", name := "<init>", desc := "(I)V" } : Jvm.MethodName) jdk_68_method_2_code (2 : Nat) (Option.none : Option Jvm.ClassFile.FieldType), Jvm.Cond.code ({ cls := "java/lang/StringBuilder", name := "append", desc := "(Ljava/lang/String;)Ljava/lang/StringBuilder;" } : Jvm.MethodName) jdk_67_method_7_code (2 : Nat) (Option.some (Jvm.ClassFile.FieldType.object "java/lang/StringBuilder")), Jvm.Cond.code ({ cls := "java/lang/AbstractStringBuilder", name := "append", desc := "(Ljava/lang/String;)Ljava/lang/AbstractStringBuilder;" } : Jvm.MethodName) jdk_68_method_22_code (3 : Nat) (Option.some (Jvm.ClassFile.FieldType.object "java/lang/AbstractStringBuilder")), Jvm.Cond.code ({ cls := "java/lang/String", name := "length", desc := "()I" } : Jvm.MethodName) jdk_42_method_54_code (1 : Nat) (Option.some Jvm.ClassFile.FieldType.int), Jvm.Cond.code ({ cls := "java/lang/String", name := "coder", desc := "()B" } : Jvm.MethodName) jdk_42_method_152_code (1 : Nat) (Option.some Jvm.ClassFile.FieldType.byte), Jvm.Cond.code ({ cls := "java/lang/AbstractStringBuilder", name := "ensureCapacityInternal", desc := "(I)V" } : Jvm.MethodName) jdk_68_method_9_code (3 : Nat) (Option.none : Option Jvm.ClassFile.FieldType), Jvm.Cond.code ({ cls := "java/lang/AbstractStringBuilder", name := "newCapacity", desc := "(I)I" } : Jvm.MethodName) jdk_68_method_10_code (6 : Nat) (Option.some Jvm.ClassFile.FieldType.int), Jvm.Cond.code ({ cls := "jdk/internal/util/ArraysSupport", name := "newLength", desc := "(III)I" } : Jvm.MethodName) jdk_48_method_27_code (4 : Nat) (Option.some Jvm.ClassFile.FieldType.int), Jvm.Cond.code ({ cls := "java/lang/Math", name := "max", desc := "(II)I" } : Jvm.MethodName) jdk_29_method_65_code (2 : Nat) (Option.some Jvm.ClassFile.FieldType.int), Jvm.Cond.code ({ cls := "java/util/Arrays", name := "copyOf", desc := "([BI)[B" } : Jvm.MethodName) jdk_65_method_121_code (3 : Nat) (Option.some (Jvm.ClassFile.FieldType.array Jvm.ClassFile.FieldType.byte)), Jvm.Cond.code ({ cls := "java/lang/Math", name := "min", desc := "(II)I" } : Jvm.MethodName) jdk_29_method_69_code (2 : Nat) (Option.some Jvm.ClassFile.FieldType.int), Jvm.Cond.code ({ cls := "java/lang/AbstractStringBuilder", name := "putStringAt", desc := "(ILjava/lang/String;)V" } : Jvm.MethodName) jdk_68_method_73_code (3 : Nat) (Option.none : Option Jvm.ClassFile.FieldType), Jvm.Cond.code ({ cls := "java/lang/AbstractStringBuilder", name := "inflateIfNeededFor", desc := "(Ljava/lang/String;)V" } : Jvm.MethodName) jdk_68_method_71_code (2 : Nat) (Option.none : Option Jvm.ClassFile.FieldType), Jvm.Cond.code ({ cls := "java/lang/String", name := "getBytes", desc := "([BIB)V" } : Jvm.MethodName) jdk_42_method_147_code (4 : Nat) (Option.none : Option Jvm.ClassFile.FieldType), Jvm.Cond.code ({ cls := "java/lang/StringBuilder", name := "toString", desc := "()Ljava/lang/String;" } : Jvm.MethodName) jdk_67_method_42_code (1 : Nat) (Option.some (Jvm.ClassFile.FieldType.object "java/lang/String")), Jvm.Cond.code ({ cls := "java/lang/String", name := "<init>", desc := "(Ljava/lang/StringBuilder;)V" } : Jvm.MethodName) jdk_42_method_53_code (2 : Nat) (Option.none : Option Jvm.ClassFile.FieldType), Jvm.Cond.code ({ cls := "java/lang/String", name := "<init>", desc := "(Ljava/lang/AbstractStringBuilder;Ljava/lang/Void;)V" } : Jvm.MethodName) jdk_42_method_150_code (5 : Nat) (Option.none : Option Jvm.ClassFile.FieldType), Jvm.Cond.code ({ cls := "java/lang/AbstractStringBuilder", name := "getValue", desc := "()[B" } : Jvm.MethodName) jdk_68_method_64_code (1 : Nat) (Option.some (Jvm.ClassFile.FieldType.array Jvm.ClassFile.FieldType.byte)), Jvm.Cond.code ({ cls := "java/lang/StringBuilder", name := "length", desc := "()I" } : Jvm.MethodName) jdk_67_method_93_code (1 : Nat) (Option.some Jvm.ClassFile.FieldType.int), Jvm.Cond.code ({ cls := "java/lang/AbstractStringBuilder", name := "length", desc := "()I" } : Jvm.MethodName) jdk_68_method_6_code (1 : Nat) (Option.some Jvm.ClassFile.FieldType.int), Jvm.Cond.code ({ cls := "java/lang/AbstractStringBuilder", name := "isLatin1", desc := "()Z" } : Jvm.MethodName) jdk_68_method_68_code (1 : Nat) (Option.some Jvm.ClassFile.FieldType.boolean), Jvm.Cond.code ({ cls := "java/util/Arrays", name := "copyOfRange", desc := "([BII)[B" } : Jvm.MethodName) jdk_65_method_132_code (3 : Nat) (Option.some (Jvm.ClassFile.FieldType.array Jvm.ClassFile.FieldType.byte)), Jvm.Cond.code ({ cls := "java/util/Arrays", name := "copyOfRangeByte", desc := "([BII)[B" } : Jvm.MethodName) jdk_65_method_133_code (5 : Nat) (Option.some (Jvm.ClassFile.FieldType.array Jvm.ClassFile.FieldType.byte)), Jvm.Cond.code ({ cls := "java/util/Arrays", name := "checkLength", desc := "(II)V" } : Jvm.MethodName) jdk_65_method_131_code (2 : Nat) (Option.none : Option Jvm.ClassFile.FieldType), Jvm.Cond.code ({ cls := "java/lang/IllegalArgumentException", name := "<init>", desc := "(Ljava/lang/String;)V" } : Jvm.MethodName) jdk_57_method_2_code (2 : Nat) (Option.none : Option Jvm.ClassFile.FieldType), Jvm.Cond.code ({ cls := "java/lang/RuntimeException", name := "<init>", desc := "(Ljava/lang/String;)V" } : Jvm.MethodName) jdk_58_method_2_code (2 : Nat) (Option.none : Option Jvm.ClassFile.FieldType), Jvm.Cond.code ({ cls := "java/lang/Exception", name := "<init>", desc := "(Ljava/lang/String;)V" } : Jvm.MethodName) jdk_59_method_2_code (2 : Nat) (Option.none : Option Jvm.ClassFile.FieldType), Jvm.Cond.code ({ cls := "java/lang/Throwable", name := "<init>", desc := "(Ljava/lang/String;)V" } : Jvm.MethodName) jdk_78_method_2_code (2 : Nat) (Option.none : Option Jvm.ClassFile.FieldType), Jvm.Cond.code ({ cls := "java/lang/Throwable", name := "<init>", desc := "()V" } : Jvm.MethodName) jdk_78_method_1_code (1 : Nat) (Option.none : Option Jvm.ClassFile.FieldType), Jvm.Cond.code ({ cls := "java/lang/Throwable", name := "getMessage", desc := "()Ljava/lang/String;" } : Jvm.MethodName) jdk_78_method_6_code (1 : Nat) (Option.some (Jvm.ClassFile.FieldType.object "java/lang/String")), Jvm.Cond.code ({ cls := "java/lang/String", name := "equals", desc := "(Ljava/lang/Object;)Z" } : Jvm.MethodName) jdk_42_method_66_code (3 : Nat) (Option.some Jvm.ClassFile.FieldType.boolean), Jvm.Cond.code ({ cls := "java/lang/StringLatin1", name := "equals", desc := "([B[B)Z" } : Jvm.MethodName) jdk_43_method_13_code (3 : Nat) (Option.some Jvm.ClassFile.FieldType.boolean)]
set_option maxRecDepth 65536 in
theorem codes_eq : words1.filter isCode = codes1 := rfl
theorem w_codes : ∀ c ∈ words1.filter isCode, c.before args0 about1 = true := by
  rw [codes_eq]
  intro c hc
  simp only [codes1, List.mem_cons, List.not_mem_nil, or_false] at hc
  rcases hc with rfl | rfl | rfl | rfl | rfl | rfl | rfl | rfl | rfl | rfl | rfl | rfl | rfl | rfl | rfl | rfl | rfl | rfl | rfl | rfl | rfl | rfl | rfl | rfl | rfl | rfl | rfl | rfl | rfl | rfl | rfl | rfl | rfl | rfl | rfl | rfl | rfl | rfl | rfl | rfl | rfl
  · exact w_c0
  · exact w_c1
  · exact w_c2
  · exact w_c3
  · exact w_c4
  · exact w_c5
  · exact w_c6
  · exact w_c7
  · exact w_c8
  · exact w_c9
  · exact w_c10
  · exact w_c11
  · exact w_c12
  · exact w_c13
  · exact w_c14
  · exact w_c15
  · exact w_c16
  · exact w_c17
  · exact w_c18
  · exact w_c19
  · exact w_c20
  · exact w_c21
  · exact w_c22
  · exact w_c23
  · exact w_c24
  · exact w_c25
  · exact w_c26
  · exact w_c27
  · exact w_c28
  · exact w_c29
  · exact w_c30
  · exact w_c31
  · exact w_c32
  · exact w_c33
  · exact w_c34
  · exact w_c35
  · exact w_c36
  · exact w_c37
  · exact w_c38
  · exact w_c39
  · exact w_c40
set_option maxRecDepth 65536 in
theorem w_t1 : (words1.take 24).all (fun c => isCode c || c.before args0 about1) = true := by decide +kernel
set_option maxRecDepth 65536 in
theorem w_t2 : ((words1.drop 24).take 24).all (fun c => isCode c || c.before args0 about1) = true := by decide +kernel
set_option maxRecDepth 65536 in
theorem w_t3 : (((words1.drop 24).drop 24).take 24).all (fun c => isCode c || c.before args0 about1) = true := by decide +kernel
set_option maxRecDepth 65536 in
theorem w_t4 : ((((words1.drop 24).drop 24).drop 24).take 24).all (fun c => isCode c || c.before args0 about1) = true := by decide +kernel
set_option maxRecDepth 65536 in
theorem w_t5 : (((((words1.drop 24).drop 24).drop 24).drop 24).take 24).all (fun c => isCode c || c.before args0 about1) = true := by decide +kernel
set_option maxRecDepth 65536 in
theorem w_t6 : ((((((words1.drop 24).drop 24).drop 24).drop 24).drop 24).take 24).all (fun c => isCode c || c.before args0 about1) = true := by decide +kernel
set_option maxRecDepth 65536 in
theorem w_t7 : (((((((words1.drop 24).drop 24).drop 24).drop 24).drop 24).drop 24).take 24).all (fun c => isCode c || c.before args0 about1) = true := by decide +kernel
set_option maxRecDepth 65536 in
theorem w_t8 : ((((((((words1.drop 24).drop 24).drop 24).drop 24).drop 24).drop 24).drop 24).take 24).all (fun c => isCode c || c.before args0 about1) = true := by decide +kernel
set_option maxRecDepth 65536 in
theorem w_t9 : (((((((((words1.drop 24).drop 24).drop 24).drop 24).drop 24).drop 24).drop 24).drop 24).take 24).all (fun c => isCode c || c.before args0 about1) = true := by decide +kernel
set_option maxRecDepth 65536 in
theorem w_t10 : ((((((((((words1.drop 24).drop 24).drop 24).drop 24).drop 24).drop 24).drop 24).drop 24).drop 24).take 24).all (fun c => isCode c || c.before args0 about1) = true := by decide +kernel
set_option maxRecDepth 65536 in
theorem w_t11 : ((((((((((words1.drop 24).drop 24).drop 24).drop 24).drop 24).drop 24).drop 24).drop 24).drop 24).drop 24).all (fun c => isCode c || c.before args0 about1) = true := by decide +kernel
theorem w_tables : (allAtoms (Jvm.Cond.code x code maxLocals ret :: tables_1)).before args0 about1 = true := by
  rw [allAtoms_all]
  show words1.all (fun c => c.before args0 about1) = true
  refine all_split ?_ w_codes
  rw [← List.take_append_drop 24 words1, List.all_append, w_t1, ← List.take_append_drop 24 (words1.drop 24), List.all_append, w_t2, ← List.take_append_drop 24 ((words1.drop 24).drop 24), List.all_append, w_t3, ← List.take_append_drop 24 (((words1.drop 24).drop 24).drop 24), List.all_append, w_t4, ← List.take_append_drop 24 ((((words1.drop 24).drop 24).drop 24).drop 24), List.all_append, w_t5, ← List.take_append_drop 24 (((((words1.drop 24).drop 24).drop 24).drop 24).drop 24), List.all_append, w_t6, ← List.take_append_drop 24 ((((((words1.drop 24).drop 24).drop 24).drop 24).drop 24).drop 24), List.all_append, w_t7, ← List.take_append_drop 24 (((((((words1.drop 24).drop 24).drop 24).drop 24).drop 24).drop 24).drop 24), List.all_append, w_t8, ← List.take_append_drop 24 ((((((((words1.drop 24).drop 24).drop 24).drop 24).drop 24).drop 24).drop 24).drop 24), List.all_append, w_t9, ← List.take_append_drop 24 (((((((((words1.drop 24).drop 24).drop 24).drop 24).drop 24).drop 24).drop 24).drop 24).drop 24), List.all_append, w_t10, w_t11]
  rfl
set_option maxRecDepth 65536 in
theorem w_rest : rest_1_c.before args0 about1 = true := by decide +kernel
set_option maxRecDepth 65536 in
theorem w_case : (Jvm.Cond.and given_1 narrow_1).before args0 about1 = true := by decide +kernel
set_option maxRecDepth 65536 in
theorem w_consts : constsHeld consts_1 about1 := Jvm.Lit.constsHeldB_iff.mp (by decide +kernel)
theorem w_applies : (headSpec (Jvm.Cond.code x code maxLocals ret :: tables_1) room_1).applies x e0.platform about1 = true :=
  (Spec.applies_iff w_frames).mpr ⟨w_running, w_runnable, w_alone, w_named, w_hears, w_ripe, w_room, w_tables⟩
theorem atStart : AtStart classFile x code maxLocals ret World_1 tables_1 room_1 Calls_1 rest_1 Pre_1 launch0 p0 e0 about1 theMethod args0 below0 :=
  ⟨lists_1, trivial, launch0.admits_env _ _ _, launch0.least_env, fairChoices_fair.cas, fairChoices_fair.clock, w_frames, w_args, w_heap, w_applies, ⟨(by decide +kernel : framesKnown about1 = true), ⟨(by decide +kernel : tablesKnown about1 = true), ⟨w_consts, trivial⟩⟩⟩, w_rest, w_case⟩
end start1
theorem witness_1 : WitnessClaimed_1 := ⟨start1.p0, start1.e0, start1.about1, start1.theMethod, start1.args0, start1.below0, start1.atStart⟩
end Jvm.Pilot.@@N@@
