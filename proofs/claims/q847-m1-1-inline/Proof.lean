import JvmDerived
import JvmDerived.Pilot.@@N@@Statement
import JvmDerived.Pilot.@@N@@Code
set_option linter.unusedVariables false
set_option linter.unusedSimpArgs false
/- laws to paste: Road.backV, Road.eqW, Road.codOf (cut by pick.py; bodies as the Statement names them) -/
namespace Jvm.Pilot.@@N@@
namespace StrChars
open Jvm Sem ClassFile Op Lib Jvm.Stand Jvm.Free.XT Jvm.Free.ALB Jvm.Free.JM Jvm.Free
open Jvm.Lib.Cold (StaticIs)
/-- a char array whose places are chars -/
def Ch (a : Addr) (A : Cell) (U : State) : Prop := Arr .char a A U ∧ Typed .char A
theorem Ch.mv {a : Addr} {A : Cell} {U U' : State} (h : Ch a A U) (hal : U.vm.Alike U'.vm) (hh : U'.heap = U.heap) : Ch a A U' := ⟨h.1.mv hal hh, h.2⟩
theorem Ch.keep {a : Addr} {A : Cell} {U U' : State} (h : Ch a A U) (hal : U.vm.Alike U'.vm) (hk : U'.heap[a]? = some A) : Ch a A U' := ⟨h.1.keep hal hk, h.2⟩
/-- what place i of a char[]'s cell holds -/
def cv (A : Cell) (i : Nat) : Int32 := match A.slots[i]? with | some (.int x) => x | _ => 0
theorem Ch.get {a : Addr} {A : Cell} {U : State} (h : Ch a A U) {i : Nat} (hi : i < A.slots.size) : A.slots[i]? = some (.int (cv A i)) := by
  have e := Array.getElem?_eq_getElem hi
  have f := h.2 i _ e
  unfold cv; rw [e]
  generalize A.slots[i] = v at f
  cases v <;> simp [fits] at f ⊢
/-- the byte that i2b leaves of a char -/
def lo8 (x : Int32) : Int32 := x.toInt8.toInt32
theorem fits_lo8 (y : Int32) : fits .byte (.int (lo8 y)) = true := by
  have h1 := y.toInt8.le_toInt
  have h2 := y.toInt8.toInt_lt
  simp only [lo8, fits, Bool.and_eq_true, decide_eq_true_eq, Int32.le_iff_toInt_le, Int8.toInt_toInt32, show (-128 : Int32).toInt = -128 from by decide, show (127 : Int32).toInt = 127 from by decide]
  omega
/-- A' is A but that each place j of lo .. hi - 1 holds f j -/
def Laid (A A' : Cell) (lo hi : Nat) (f : Nat → Value) : Prop := A'.cls = A.cls ∧ A'.vm = A.vm ∧ A'.slots.size = A.slots.size ∧ ∀ i, A'.slots[i]? = if lo ≤ i ∧ i < hi then some (f i) else A.slots[i]?
theorem Laid.zero (A : Cell) (lo : Nat) (f : Nat → Value) : Laid A A lo (lo + 0) f := ⟨rfl, rfl, rfl, fun i => by rw [if_neg (by omega)]⟩
theorem Laid.step {A Ak : Cell} {lo k : Nat} {f : Nat → Value} {v : Value} (h : Laid A Ak lo k f) (hlo : lo ≤ k) (hk : k < Ak.slots.size) (hv : v = f k) : Laid A (Ak.setSlot k v) lo (k + 1) f := by
  refine ⟨h.1, h.2.1, by simpa [Cell.setSlot] using h.2.2.1, fun i => ?_⟩
  by_cases e : k = i
  · subst e; rw [Cell.slots_setSlot_self v hk, if_pos (by omega), hv]
  · rw [Cell.slots_setSlot_ne v e, h.2.2.2 i]
    by_cases q : lo ≤ i ∧ i < k
    · rw [if_pos q, if_pos (by omega)]
    · rw [if_neg q, if_neg (by omega)]
def U16 : String := "java/lang/StringUTF16"
namespace Cmp5
def yN : MethodName := ⟨"java/lang/StringUTF16", "compress", "([CI[BII)I"⟩
abbrev yB : ByteArray := jdk_52_method_21_code
theorem d0 : decode yB 0 = .ok (.iconst 0, 1) := by decide +kernel
theorem d1 : decode yB 1 = .ok (.istore 5, 2) := by decide +kernel
theorem d3 : decode yB 3 = .ok (.iload 5, 2) := by decide +kernel
theorem d5 : decode yB 5 = .ok (.iload 4, 2) := by decide +kernel
theorem d7 : decode yB 7 = .ok (.if_icmp (.ge) 37, 3) := by decide +kernel
theorem d10 : decode yB 10 = .ok (.aload_n 0, 1) := by decide +kernel
theorem d11 : decode yB 11 = .ok (.iload_n 1, 1) := by decide +kernel
theorem d12 : decode yB 12 = .ok (.caload, 1) := by decide +kernel
theorem d13 : decode yB 13 = .ok (.istore 6, 2) := by decide +kernel
theorem d15 : decode yB 15 = .ok (.iload 6, 2) := by decide +kernel
theorem d17 : decode yB 17 = .ok (.sipush 255, 3) := by decide +kernel
theorem d20 : decode yB 20 = .ok (.if_icmp (.le) 6, 3) := by decide +kernel
theorem d26 : decode yB 26 = .ok (.aload_n 2, 1) := by decide +kernel
theorem d27 : decode yB 27 = .ok (.iload_n 3, 1) := by decide +kernel
theorem d28 : decode yB 28 = .ok (.iload 6, 2) := by decide +kernel
theorem d30 : decode yB 30 = .ok (.i2b, 1) := by decide +kernel
theorem d31 : decode yB 31 = .ok (.bastore, 1) := by decide +kernel
theorem d32 : decode yB 32 = .ok (.iinc 1 1, 3) := by decide +kernel
theorem d35 : decode yB 35 = .ok (.iinc 3 1, 3) := by decide +kernel
theorem d38 : decode yB 38 = .ok (.iinc 5 1, 3) := by decide +kernel
theorem d41 : decode yB 41 = .ok (.goto (-38), 3) := by decide +kernel
theorem d44 : decode yB 44 = .ok (.iload 4, 2) := by decide +kernel
theorem d46 : decode yB 46 = .ok (.ireturn, 1) := by decide +kernel
def site : List Cond := []
def tab : Cond := tabOf yN yB 7 (some .int) site
def P (b : Addr) (A : Cell) (d : Addr) (B : Cell) (o q len : Nat) (args : Array Value) (s : State) : Prop := args = #[.ref b, .int (Int32.ofNat o), .ref d, .int (Int32.ofNat q), .int (Int32.ofNat len)] ∧ Ch b A s ∧ Arr .byte d B s ∧ b ≠ d ∧ o + len ≤ A.slots.size ∧ q + len ≤ B.slots.size ∧ ∀ i, i < len → ¬ 255 < cv A (o + i)
def E (b : Addr) (A : Cell) (d : Addr) (B : Cell) (o q len : Nat) (r : Option Value) (s u : State) : Prop := r = some (.int (Int32.ofNat len)) ∧ ∃ B', Put d B' s u ∧ Laid B B' q (q + len) (fun j => Value.int (lo8 (cv A (o + (j - q)))))
/-- no char of the range above 255: len; the places written hold each char's low byte -/
theorem law (l : Launch) (b : Addr) (A : Cell) (d : Addr) (B : Cell) (o q len : Nat) : Law l yN 5 5 0 0 yB 7 (some .int) site (P b A d B o q len) (E b A d B o q len) (copyLocs d q len) 0 0 := by
  refine Law.of_walk (plainFor_of_name (by decide +kernel)) (by decide +kernel) (by decide +kernel) (by decide) (fun _ _ h => by rw [h.1]; rfl) (fun _ U U' hal hh h => ⟨h.1, h.2.1.mv hal hh, h.2.2.1.mv hal hh, h.2.2.2⟩) (fun r U U' V V' h1 hal h2 h => ⟨h.1, h.2.elim fun B' q => ⟨B', q.1.mv h1 h2, q.2⟩⟩) ?_
  intro p e s m args below meth c s₁ X0 hexec hbytes hml hret hlk hnm hown hh0 W hP
  obtain ⟨rfl, hA, hB, hne, l1, l2, hp⟩ := hP
  have c1 : Steps p.tables e below (s₁.setTop (entryFrame m #[.ref b, .int (Int32.ofNat o), .ref d, .int (Int32.ofNat q), .int (Int32.ofNat len)] 7)) (s₁.setTop (mkF m 0 #[.val (.ref b), .val (.int (Int32.ofNat o)), .val (.ref d), .val (.int (Int32.ofNat q)), .val (.int (Int32.ofNat len)), .unset, .unset] [])) := entry rfl
  have hA0 := hA.1.mv X0.warmed.alike hh0
  have hB0 := hB.mv X0.warmed.alike hh0
  have a31 := hA.1.2.2.2
  have c2 : Steps p.tables e below (s₁.setTop (entryFrame m #[.ref b, .int (Int32.ofNat o), .ref d, .int (Int32.ofNat q), .int (Int32.ofNat len)] 7)) (s₁.setTop (mkF m 3 #[.val (.ref b), .val (.int (Int32.ofNat o)), .val (.ref d), .val (.int (Int32.ofNat q)), .val (.int (Int32.ofNat len)), .val (.int 0), .unset] [])) := c1.trans (by
    refine iconstV X0.here hexec rfl 0 (hb hbytes d0) (by decide) ?_
    refine XS.istore X0.here hexec rfl (hb hbytes d1) rfl rfl ?_
    exact Steps.refl _)
  have loop : ∀ (r i : Nat), i + r = len → ∀ (z : Slot), (z = .unset ∨ ∃ w, z = .val w ∧ w.category = 1) → ∀ (Tl : State) (Bk : Cell), Stand p l e { frames := 0, locals := 0, cells := 0, slots := 0 } s m #[.ref b, .int (Int32.ofNat o), .ref d, .int (Int32.ofNat q), .int (Int32.ofNat len)] below meth c Tl ([] ++ copyLocs d q i) 0 0 → Put d Bk s₁ Tl → Laid B Bk q (q + i) (fun j => Value.int (lo8 (cv A (o + (j - q))))) →
      Steps p.tables e below (s₁.setTop (entryFrame m #[.ref b, .int (Int32.ofNat o), .ref d, .int (Int32.ofNat q), .int (Int32.ofNat len)] 7)) (Tl.setTop (mkF m 3 #[.val (.ref b), .val (.int (Int32.ofNat (o + i))), .val (.ref d), .val (.int (Int32.ofNat (q + i))), .val (.int (Int32.ofNat len)), .val (.int (Int32.ofNat i)), z] [])) → ∃ (T' : State) (B' : Cell) (z' : Slot), Stand p l e { frames := 0, locals := 0, cells := 0, slots := 0 } s m #[.ref b, .int (Int32.ofNat o), .ref d, .int (Int32.ofNat q), .int (Int32.ofNat len)] below meth c T' ([] ++ copyLocs d q len) 0 0 ∧ Put d B' s₁ T' ∧ Laid B B' q (q + len) (fun j => Value.int (lo8 (cv A (o + (j - q))))) ∧
      Steps p.tables e below (s₁.setTop (entryFrame m #[.ref b, .int (Int32.ofNat o), .ref d, .int (Int32.ofNat q), .int (Int32.ofNat len)] 7)) (T'.setTop (mkF m 3 #[.val (.ref b), .val (.int (Int32.ofNat (o + len))), .val (.ref d), .val (.int (Int32.ofNat (q + len))), .val (.int (Int32.ofNat len)), .val (.int (Int32.ofNat len)), z'] [])) := by
    intro r
    induction r with
    | zero =>
      intro i hi z hz Tl Bk Xl pl fl cl
      have hil : i = len := by omega
      rw [hil] at Xl fl cl
      exact ⟨Tl, Bk, z, Xl, pl, fl, cl⟩
    | succ r ih =>
      intro i hi z hz Tl Bk Xl pl fl cl
      have all := X0.warmed.alike.symm.trans Xl.warmed.alike
      have hAl := hA0.keep all (pl.other hne hA0.1)
      have hBk := hB0.like all pl.1 fl.1 fl.2.1 fl.2.2.1
      have hlt : q + i < Bk.slots.size := by rw [fl.2.2.1]; omega
      have c3 : Steps p.tables e below (s₁.setTop (entryFrame m #[.ref b, .int (Int32.ofNat o), .ref d, .int (Int32.ofNat q), .int (Int32.ofNat len)] 7)) (Tl.setTop (mkF m 12 #[.val (.ref b), .val (.int (Int32.ofNat (o + i))), .val (.ref d), .val (.int (Int32.ofNat (q + i))), .val (.int (Int32.ofNat len)), .val (.int (Int32.ofNat i)), z] [.int (Int32.ofNat (o + i)), .ref b])) := cl.trans (by
        refine XS.iload Xl.here hexec rfl (hb hbytes d3) rfl ?_
        refine XS.iload Xl.here hexec rfl (hb hbytes d5) rfl ?_
        refine XS.icmpNo Xl.here hexec rfl (hb hbytes d7) rfl (ii_ge_f (lt32 (by omega) (by omega))) ?_
        refine XS.aloadN Xl.here hexec rfl (hb hbytes d10) rfl rfl ?_
        refine XS.iloadN Xl.here hexec rfl (hb hbytes d11) rfl ?_
        exact Steps.refl _)
      have c4 : Steps p.tables e below (s₁.setTop (entryFrame m #[.ref b, .int (Int32.ofNat o), .ref d, .int (Int32.ofNat q), .int (Int32.ofNat len)] 7)) (Tl.setTop (mkF m 13 #[.val (.ref b), .val (.int (Int32.ofNat (o + i))), .val (.ref d), .val (.int (Int32.ofNat (q + i))), .val (.int (Int32.ofNat len)), .val (.int (Int32.ofNat i)), z] [.int (cv A (o + i))])) := c3.trans (by
        refine Xl.aget hexec hAl rfl (hA.get (i := o + i) (by omega)) rfl rfl (hb hbytes d12) ?_
        exact Steps.refl _)
      have c5 : Steps p.tables e below (s₁.setTop (entryFrame m #[.ref b, .int (Int32.ofNat o), .ref d, .int (Int32.ofNat q), .int (Int32.ofNat len)] 7)) (Tl.setTop (mkF m 15 #[.val (.ref b), .val (.int (Int32.ofNat (o + i))), .val (.ref d), .val (.int (Int32.ofNat (q + i))), .val (.int (Int32.ofNat len)), .val (.int (Int32.ofNat i)), .val (.int (cv A (o + i)))] [])) := c4.trans (by
        refine XS.istoreS Xl.here hexec rfl (hb hbytes d13) rfl rfl hz ?_
        exact Steps.refl _)
      have c6 : Steps p.tables e below (s₁.setTop (entryFrame m #[.ref b, .int (Int32.ofNat o), .ref d, .int (Int32.ofNat q), .int (Int32.ofNat len)] 7)) (Tl.setTop (mkF m 31 #[.val (.ref b), .val (.int (Int32.ofNat (o + i))), .val (.ref d), .val (.int (Int32.ofNat (q + i))), .val (.int (Int32.ofNat len)), .val (.int (Int32.ofNat i)), .val (.int (cv A (o + i)))] [.int (lo8 (cv A (o + i))), .int (Int32.ofNat (q + i)), .ref d])) := c5.trans (by
        refine XS.iload Xl.here hexec rfl (hb hbytes d15) rfl ?_
        refine sipushV Xl.here hexec rfl 255 (hb hbytes d17) (by decide) ?_
        refine XS.icmpYes Xl.here hexec rfl (pc0 := 20) rfl (hb hbytes d20) rfl (ii_le_t (hp i (by omega))) (by decide) rfl ?_
        refine XS.aloadN Xl.here hexec rfl (hb hbytes d26) rfl rfl ?_
        refine XS.iloadN Xl.here hexec rfl (hb hbytes d27) rfl ?_
        refine XS.iload Xl.here hexec rfl (hb hbytes d28) rfl ?_
        refine i2b Xl.here hexec rfl (hb hbytes d30) rfl ?_
        exact Steps.refl _)
      obtain ⟨T7, X7, p7, st7⟩ := Xl.aput hexec hBk rfl hlt rfl (fits_lo8 (cv A (o + i))) (g := (mkF m 31 #[.val (.ref b), .val (.int (Int32.ofNat (o + i))), .val (.ref d), .val (.int (Int32.ofNat (q + i))), .val (.int (Int32.ofNat len)), .val (.int (Int32.ofNat i)), .val (.int (cv A (o + i)))] [.int (lo8 (cv A (o + i))), .int (Int32.ofNat (q + i)), .ref d])) rfl (rest := []) rfl (hb hbytes d31)
      have c8 : Steps p.tables e below (s₁.setTop (entryFrame m #[.ref b, .int (Int32.ofNat o), .ref d, .int (Int32.ofNat q), .int (Int32.ofNat len)] 7)) (T7.setTop (mkF m 32 #[.val (.ref b), .val (.int (Int32.ofNat (o + i))), .val (.ref d), .val (.int (Int32.ofNat (q + i))), .val (.int (Int32.ofNat len)), .val (.int (Int32.ofNat i)), .val (.int (cv A (o + i)))] [])) := c6.trans (st7 _ (Steps.refl _))
      have c9 : Steps p.tables e below (s₁.setTop (entryFrame m #[.ref b, .int (Int32.ofNat o), .ref d, .int (Int32.ofNat q), .int (Int32.ofNat len)] 7)) (T7.setTop (mkF m 3 #[.val (.ref b), .val (.int (Int32.ofNat (o + i) + 1)), .val (.ref d), .val (.int (Int32.ofNat (q + i) + 1)), .val (.int (Int32.ofNat len)), .val (.int (Int32.ofNat i + 1)), .val (.int (cv A (o + i)))] [])) := c8.trans (by
        refine iincV X7.here hexec rfl 1 (hb hbytes d32) (by decide) rfl rfl ?_
        refine iincV X7.here hexec rfl 1 (hb hbytes d35) (by decide) rfl rfl ?_
        refine iincV X7.here hexec rfl 1 (hb hbytes d38) (by decide) rfl rfl ?_
        refine XS.goto X7.here hexec rfl (pc0 := 41) rfl (hb hbytes d41) (by decide) rfl ?_
        exact Steps.refl _)
      have c10 : Steps p.tables e below (s₁.setTop (entryFrame m #[.ref b, .int (Int32.ofNat o), .ref d, .int (Int32.ofNat q), .int (Int32.ofNat len)] 7)) (T7.setTop (mkF m 3 #[.val (.ref b), .val (.int (Int32.ofNat (o + (i + 1)))), .val (.ref d), .val (.int (Int32.ofNat (q + (i + 1)))), .val (.int (Int32.ofNat len)), .val (.int (Int32.ofNat (i + 1))), .val (.int (cv A (o + i)))] [])) := by
        have := c9
        rw [succ32, succ32, succ32] at this
        exact this
      exact ih (i + 1) (by omega) _ (Or.inr ⟨_, rfl, rfl⟩) T7 _ (by rw [copyLocs_step, ← List.append_assoc]; exact X7) (pl.trans p7) (fl.step (by omega) hlt (by simp)) c10
  obtain ⟨T9, B9, z9, X9, p9, f9, g9⟩ := loop len 0 (by omega) .unset (Or.inl rfl) s₁ B (by simpa [copyLocs] using X0) ⟨hB0.1, fun _ _ => rfl, rfl⟩ (Laid.zero _ _ _) c2
  have c11 : Steps p.tables e below (s₁.setTop (entryFrame m #[.ref b, .int (Int32.ofNat o), .ref d, .int (Int32.ofNat q), .int (Int32.ofNat len)] 7)) (T9.setTop (mkF m 46 #[.val (.ref b), .val (.int (Int32.ofNat (o + len))), .val (.ref d), .val (.int (Int32.ofNat (q + len))), .val (.int (Int32.ofNat len)), .val (.int (Int32.ofNat len)), z9] [.int (Int32.ofNat len)])) := g9.trans (by
    refine XS.iload X9.here hexec rfl (hb hbytes d3) rfl ?_
    refine XS.iload X9.here hexec rfl (hb hbytes d5) rfl ?_
    refine XS.icmpYes X9.here hexec rfl (pc0 := 7) rfl (hb hbytes d7) rfl (ii_ge_t (nlt32 (by omega) (Nat.le_refl _))) (by decide) rfl ?_
    refine XS.iload X9.here hexec rfl (hb hbytes d44) rfl ?_
    exact Steps.refl _)
  exact ⟨T9, some (.int (Int32.ofNat len)), _, _, _, X9, by simp, rfl, rfl, (fun h => by cases h), ⟨rfl, B9, p9.from hh0, f9⟩, fun fs hl => c11.trans (X9.ireturnOut hexec hret rfl (Or.inl rfl) (hb hbytes d46) hl)⟩
end Cmp5
namespace Cmp3
def yN : MethodName := ⟨"java/lang/StringUTF16", "compress", "([CII)[B"⟩
abbrev yB : ByteArray := jdk_52_method_16_code
theorem d0 : decode yB 0 = .ok (.iload_n 2, 1) := by decide +kernel
theorem d1 : decode yB 1 = .ok (.newarray .byte, 2) := by decide +kernel
theorem d3 : decode yB 3 = .ok (.astore_n 3, 1) := by decide +kernel
theorem d4 : decode yB 4 = .ok (.aload_n 0, 1) := by decide +kernel
theorem d5 : decode yB 5 = .ok (.iload_n 1, 1) := by decide +kernel
theorem d6 : decode yB 6 = .ok (.aload_n 3, 1) := by decide +kernel
theorem d7 : decode yB 7 = .ok (.iconst 0, 1) := by decide +kernel
theorem d8 : decode yB 8 = .ok (.iload_n 2, 1) := by decide +kernel
theorem d9 : decode yB 9 = .ok (.invokestatic 115, 3) := by decide +kernel
theorem d12 : decode yB 12 = .ok (.istore 4, 2) := by decide +kernel
theorem d14 : decode yB 14 = .ok (.iload 4, 2) := by decide +kernel
theorem d16 : decode yB 16 = .ok (.iload_n 2, 1) := by decide +kernel
theorem d17 : decode yB 17 = .ok (.if_icmp (.eq) 40, 3) := by decide +kernel
theorem d57 : decode yB 57 = .ok (.aload_n 3, 1) := by decide +kernel
theorem d58 : decode yB 58 = .ok (.areturn, 1) := by decide +kernel
def site : List Cond := [.arrayClass .byte, Cmp5.tab] ++ staticW U16 115 Cmp5.yN
def tab : Cond := tabOf yN yB 6 (some (.array .byte)) site
def P (b : Addr) (A : Cell) (o len : Nat) (args : Array Value) (s : State) : Prop := args = #[.ref b, .int (Int32.ofNat o), .int (Int32.ofNat len)] ∧ Ch b A s ∧ o + len ≤ A.slots.size ∧ len ≤ 536870912 ∧ ∀ i, i < len → ¬ 255 < cv A (o + i)
def E (b : Addr) (A : Cell) (o len : Nat) (r : Option Value) (s u : State) : Prop := NewArr .byte "[B" len (fun j => .int (lo8 (cv A (o + j)))) r s u ∧ u.heap.size = s.heap.size + 1
/-- no char of the range above 255: a new byte[] of their low bytes -/
theorem law (l : Launch) (b : Addr) (A : Cell) (o len : Nat) : Law l yN 3 3 1 18 yB 6 (some (.array .byte)) site (P b A o len) (E b A o len) [] 1 len := by
  refine Law.of_walk (plainFor_of_name (by decide +kernel)) (by decide +kernel) (by decide +kernel) (by decide) (fun _ _ h => by rw [h.1]; rfl) (fun _ U U' hal hh h => ⟨h.1, h.2.1.mv hal hh, h.2.2⟩) (fun r U U' V V' h1 hal h2 h => ⟨NewArr.mv r U U' V V' h1 hal h2 h.1, by rw [h1, h2]; exact h.2⟩) ?_
  intro p e s m args below meth c s₁ X0 hexec hbytes hml hret hlk hnm hown hh0 W hP
  obtain ⟨rfl, hA, l1, l2, hp⟩ := hP
  have a31 := hA.1.2.2.2
  have c1 : Steps p.tables e below (s₁.setTop (entryFrame m #[.ref b, .int (Int32.ofNat o), .int (Int32.ofNat len)] 6)) (s₁.setTop (mkF m 0 #[.val (.ref b), .val (.int (Int32.ofNat o)), .val (.int (Int32.ofNat len)), .unset, .unset, .unset] [])) := entry rfl
  have c2 : Steps p.tables e below (s₁.setTop (entryFrame m #[.ref b, .int (Int32.ofNat o), .int (Int32.ofNat len)] 6)) (s₁.setTop (mkF m 1 #[.val (.ref b), .val (.int (Int32.ofNat o)), .val (.int (Int32.ofNat len)), .unset, .unset, .unset] [.int (Int32.ofNat len)])) := c1.trans (by
    refine XS.iloadN X0.here hexec rfl (hb hbytes d0) rfl ?_
    exact Steps.refl _)
  obtain ⟨T3, B3, X3, ba3, bs3, bv3, bh3, bf3, st3⟩ := X0.anew hexec (atype := .byte) (wk W (.arrayClass .byte)) rfl (by show len * 1 ≤ _; omega) (by omega) (g := (mkF m 1 #[.val (.ref b), .val (.int (Int32.ofNat o)), .val (.int (Int32.ofNat len)), .unset, .unset, .unset] [.int (Int32.ofNat len)])) rfl (hb hbytes d1) (rest := []) rfl (Nat.le_refl _) (by show 0 + len ≤ len; omega)
  rw [hh0] at ba3 st3
  have kp3 : XT.Kept s T3 := (XT.Kept.of_eq hh0).push bh3
  have hA3 := hA.keep X3.warmed.alike (kp3 _ _ hA.1.1)
  have hne : b ≠ s.heap.size := hA.1.ne
  have c4 : Steps p.tables e below (s₁.setTop (entryFrame m #[.ref b, .int (Int32.ofNat o), .int (Int32.ofNat len)] 6)) (T3.setTop (mkF m 3 #[.val (.ref b), .val (.int (Int32.ofNat o)), .val (.int (Int32.ofNat len)), .unset, .unset, .unset] [.ref s.heap.size])) := c2.trans (st3 _ (Steps.refl _))
  have c5 : Steps p.tables e below (s₁.setTop (entryFrame m #[.ref b, .int (Int32.ofNat o), .int (Int32.ofNat len)] 6)) (T3.setTop (mkF m 9 #[.val (.ref b), .val (.int (Int32.ofNat o)), .val (.int (Int32.ofNat len)), .val (.ref s.heap.size), .unset, .unset] [.int (Int32.ofNat len), .int 0, .ref s.heap.size, .int (Int32.ofNat o), .ref b])) := c4.trans (by
    refine XS.astoreN X3.here hexec rfl (hb hbytes d3) rfl rfl rfl ?_
    refine XS.aloadN X3.here hexec rfl (hb hbytes d4) rfl rfl ?_
    refine XS.iloadN X3.here hexec rfl (hb hbytes d5) rfl ?_
    refine XS.aloadN X3.here hexec rfl (hb hbytes d6) rfl rfl ?_
    refine iconstV X3.here hexec rfl 0 (hb hbytes d7) (by decide) ?_
    refine XS.iloadN X3.here hexec rfl (hb hbytes d8) rfl ?_
    exact Steps.refl _)
  obtain ⟨v6, T6, X6, E6, g6⟩ := X3.callS hexec (Cmp5.law l b A s.heap.size B3 o 0 len) hown (wks W (staticW U16 115 Cmp5.yN)) (wk W Cmp5.tab) (W := 0) (Nat.le_of_ble_eq_true rfl) (Nat.le_of_ble_eq_true rfl) (Nat.le_refl _) (by show 0 + len + 0 ≤ len; omega) (g := (mkF m 9 #[.val (.ref b), .val (.int (Int32.ofNat o)), .val (.int (Int32.ofNat len)), .val (.ref s.heap.size), .unset, .unset] [.int (Int32.ofNat len), .int (Int32.ofNat 0), .ref s.heap.size, .int (Int32.ofNat o), .ref b])) rfl (by rw [hml]; rfl) c5 (argsL := [.ref b, .int (Int32.ofNat o), .ref s.heap.size, .int (Int32.ofNat 0), .int (Int32.ofNat len)]) (rest := []) rfl rfl (by show 2 * 0 + 0 ≤ _; decide) (hb hbytes d9) (⟨rfl, hA3, ba3, hne, l1, by rw [bs3]; simp, hp⟩)
  obtain ⟨rfl, B6, p6, f6⟩ := E6
  have c7 : Steps p.tables e below (s₁.setTop (entryFrame m #[.ref b, .int (Int32.ofNat o), .int (Int32.ofNat len)] 6)) (T6.setTop (mkF m 12 #[.val (.ref b), .val (.int (Int32.ofNat o)), .val (.int (Int32.ofNat len)), .val (.ref s.heap.size), .unset, .unset] [.int (Int32.ofNat len)])) := g6
  have c8 : Steps p.tables e below (s₁.setTop (entryFrame m #[.ref b, .int (Int32.ofNat o), .int (Int32.ofNat len)] 6)) (T6.setTop (mkF m 58 #[.val (.ref b), .val (.int (Int32.ofNat o)), .val (.int (Int32.ofNat len)), .val (.ref s.heap.size), .val (.int (Int32.ofNat len)), .unset] [.ref s.heap.size])) := c7.trans (by
    refine XS.istore X6.here hexec rfl (hb hbytes d12) rfl rfl ?_
    refine XS.iload X6.here hexec rfl (hb hbytes d14) rfl ?_
    refine XS.iloadN X6.here hexec rfl (hb hbytes d16) rfl ?_
    refine XS.icmpYes X6.here hexec rfl (pc0 := 17) rfl (hb hbytes d17) rfl (ii_eq_t rfl) (by decide) rfl ?_
    refine XS.aloadN X6.here hexec rfl (hb hbytes d57) rfl rfl ?_
    exact Steps.refl _)
  have X8 := X6.wide (L' := []) (cells' := 1) (slots' := len) (fun x hx hlt => by
    simp only [List.nil_append, copyLocs, List.mem_map, List.mem_range] at hx
    obtain ⟨i, -, rfl⟩ := hx
    exact absurd hlt (Nat.lt_irrefl _)) (Nat.le_refl _) (by omega)
  exact ⟨T6, some (.ref s.heap.size), _, _, _, X8, rfl, rfl, rfl, (fun h => by cases h), ⟨⟨rfl, B6, ba3.like (X3.warmed.alike.symm.trans X6.warmed.alike) p6.1 f6.1 f6.2.1 f6.2.2.1, f6.2.1.trans bv3, by rw [X6.warmed.alike.findClass, f6.1]; exact bf3, by rw [f6.2.2.1, bs3]; simp, fun j hj => by rw [f6.2.2.2 j, if_pos (by omega)]; rfl, kp3.put p6 (Nat.le_refl _)⟩, by rw [p6.2.2, bh3, hh0]; simp⟩, fun fs hl => c8.trans (X8.areturnOut hexec rfl hret rfl (hb hbytes d58) hl)⟩
end Cmp3
namespace CodL
def yN : MethodName := ⟨"java/lang/StringUTF16", "coderFromArrayLen", "([BI)B"⟩
abbrev yB : ByteArray := jdk_52_method_15_code
theorem d0 : decode yB 0 = .ok (.iload_n 1, 1) := by decide +kernel
theorem d1 : decode yB 1 = .ok (.aload_n 0, 1) := by decide +kernel
theorem d2 : decode yB 2 = .ok (.arraylength, 1) := by decide +kernel
theorem d3 : decode yB 3 = .ok (.isub, 1) := by decide +kernel
theorem d4 : decode yB 4 = .ok (.bipush 31, 2) := by decide +kernel
theorem d6 : decode yB 6 = .ok (.iushr, 1) := by decide +kernel
theorem d7 : decode yB 7 = .ok (.i2b, 1) := by decide +kernel
theorem d8 : decode yB 8 = .ok (.ireturn, 1) := by decide +kernel
def site : List Cond := []
def tab : Cond := tabOf yN yB 2 (some .byte) site
def P (d : Addr) (B : Cell) (args : Array Value) (s : State) : Prop := args = #[.ref d, .int (Int32.ofNat B.slots.size)] ∧ Arr .byte d B s
def E (r : Option Value) (s u : State) : Prop := XT.PureE (some (.int 0)) r s u
/-- an array as long as the number of chars: LATIN1 -/
theorem law (l : Launch) (d : Addr) (B : Cell) : Law l yN 2 2 0 0 yB 2 (some .byte) site (P d B) E [] 0 0 := by
  refine Law.of_walk (plainFor_of_name (by decide +kernel)) (by decide +kernel) (by decide +kernel) (by decide) (fun _ _ h => by rw [h.1]; rfl) (fun _ U U' hal hh h => ⟨h.1, h.2.mv hal hh⟩) (fun r U U' V V' h1 hal h2 h => XT.PureE.mv r U U' V V' h1 hal h2 h) ?_
  intro p e s m args below meth c s₁ X0 hexec hbytes hml hret hlk hnm hown hh0 W hP
  obtain ⟨rfl, hB⟩ := hP
  have hB0 := hB.mv X0.warmed.alike hh0
  have c1 : Steps p.tables e below (s₁.setTop (entryFrame m #[.ref d, .int (Int32.ofNat B.slots.size)] 2)) (s₁.setTop (mkF m 0 #[.val (.ref d), .val (.int (Int32.ofNat B.slots.size))] [])) := entry rfl
  have c2 : Steps p.tables e below (s₁.setTop (entryFrame m #[.ref d, .int (Int32.ofNat B.slots.size)] 2)) (s₁.setTop (mkF m 2 #[.val (.ref d), .val (.int (Int32.ofNat B.slots.size))] [.ref d, .int (Int32.ofNat B.slots.size)])) := c1.trans (by
    refine XS.iloadN X0.here hexec rfl (hb hbytes d0) rfl ?_
    refine XS.aloadN X0.here hexec rfl (hb hbytes d1) rfl rfl ?_
    exact Steps.refl _)
  have c3 : Steps p.tables e below (s₁.setTop (entryFrame m #[.ref d, .int (Int32.ofNat B.slots.size)] 2)) (s₁.setTop (mkF m 8 #[.val (.ref d), .val (.int (Int32.ofNat B.slots.size))] [.int (lo8 (ushr (Int32.ofNat B.slots.size - Int32.ofNat B.slots.size) 31))])) := c2.trans (by
    refine X0.alen hexec hB0 rfl rfl (hb hbytes d2) ?_
    refine XS.isub X0.here hexec rfl (hb hbytes d3) rfl ?_
    refine bipushV X0.here hexec rfl 31 (hb hbytes d4) (by decide) ?_
    refine iushr X0.here hexec rfl (hb hbytes d6) rfl ?_
    refine i2b X0.here hexec rfl (hb hbytes d7) rfl ?_
    exact Steps.refl _)
  have e0 : lo8 (ushr (Int32.ofNat B.slots.size - Int32.ofNat B.slots.size) 31) = 0 := by rw [Int32.sub_self]; decide
  rw [e0] at c3
  exact ⟨s₁, some (.int 0), _, _, _, X0, rfl, rfl, rfl, (fun h => by cases h), ⟨rfl, hh0⟩, fun fs hl => c3.trans (X0.ireturnOut hexec hret rfl (Or.inr (Or.inr (Or.inl rfl))) (hb hbytes d8) hl)⟩
end CodL
/-- the String at a is Latin-1 over a new byte[] (the heap's one new cell): the low bytes of the len chars of A from o on; every cell but a is kept -/
def Got (a : Addr) (D : Cell) (fV fC : Field) (A : Cell) (o len : Nat) (r : Option Value) (s u : State) : Prop := r = none ∧ ∃ D' V : Cell, Blank "java/lang/String" a D' u ∧ Same D D' [fV.slot, fC.slot] ∧ D'.slots[fV.slot]? = some (.ref s.heap.size) ∧ D'.slots[fC.slot]? = some (.int 0) ∧ Arr .byte s.heap.size V u ∧ V.vm = .none ∧ u.vm.findClass "[B" = some V.cls ∧ V.slots.size = len ∧ (∀ j, j < len → V.slots[j]? = some (.int (lo8 (cv A (o + j))))) ∧ (∀ (y : Addr) (c : Cell), y ≠ a → s.heap[y]? = some c → u.heap[y]? = some c) ∧ u.heap.size = s.heap.size + 1
theorem Got.mv {a : Addr} {D A : Cell} {fV fC : Field} {o len : Nat} : ∀ r (U U' V V' : State), U'.heap = U.heap → V.vm.Alike V'.vm → V'.heap = V.heap → Got a D fV fC A o len r U V → Got a D fV fC A o len r U' V' :=
  fun r U U' V V' h1 hal h2 ⟨e0, D', X, a1, a2, a3, a4, a5, a6, a7, a8, a9, a10, a11⟩ => ⟨e0, D', X, a1.mv hal h2, a2, by rw [h1]; exact a3, a4, by rw [h1]; exact a5.mv hal h2, a6, by rw [hal.findClass]; exact a7, a8, a9, by rw [h1, h2]; exact a10, by rw [h1, h2]; exact a11⟩
namespace New4
def yN : MethodName := ⟨"java/lang/String", "<init>", "([CIILjava/lang/Void;)V"⟩
abbrev yB : ByteArray := jdk_42_method_149_code
theorem d0 : decode yB 0 = .ok (.aload_n 0, 1) := by decide +kernel
theorem d1 : decode yB 1 = .ok (.invokespecial 1, 3) := by decide +kernel
theorem d4 : decode yB 4 = .ok (.iload_n 3, 1) := by decide +kernel
theorem d5 : decode yB 5 = .ok (.ifCond (.ne) 22, 3) := by decide +kernel
theorem d27 : decode yB 27 = .ok (.getstatic 38, 3) := by decide +kernel
theorem d30 : decode yB 30 = .ok (.ifCond (.eq) 28, 3) := by decide +kernel
theorem d33 : decode yB 33 = .ok (.aload_n 1, 1) := by decide +kernel
theorem d34 : decode yB 34 = .ok (.iload_n 2, 1) := by decide +kernel
theorem d35 : decode yB 35 = .ok (.iload_n 3, 1) := by decide +kernel
theorem d36 : decode yB 36 = .ok (.invokestatic 177, 3) := by decide +kernel
theorem d39 : decode yB 39 = .ok (.astore 5, 2) := by decide +kernel
theorem d41 : decode yB 41 = .ok (.aload_n 0, 1) := by decide +kernel
theorem d42 : decode yB 42 = .ok (.aload 5, 2) := by decide +kernel
theorem d44 : decode yB 44 = .ok (.iload_n 3, 1) := by decide +kernel
theorem d45 : decode yB 45 = .ok (.invokestatic 47, 3) := by decide +kernel
theorem d48 : decode yB 48 = .ok (.putfield 15, 3) := by decide +kernel
theorem d51 : decode yB 51 = .ok (.aload_n 0, 1) := by decide +kernel
theorem d52 : decode yB 52 = .ok (.aload 5, 2) := by decide +kernel
theorem d54 : decode yB 54 = .ok (.putfield 9, 3) := by decide +kernel
theorem d57 : decode yB 57 = .ok (.return_, 1) := by decide +kernel
def site : List Cond := [.fieldLink "java/lang/String" 38 "java/lang/String" "COMPACT_STRINGS" "Z", Cmp3.tab, CodL.tab, .laysFinal "java/lang/String" "java/lang/String" "value" "[B", .fieldLink "java/lang/String" 9 "java/lang/String" "value" "[B", .laysFinal "java/lang/String" "java/lang/String" "coder" "B", .fieldLink "java/lang/String" 15 "java/lang/String" "coder" "B"] ++ objW "java/lang/String" 1 ++ staticW "java/lang/String" 177 Cmp3.yN ++ staticW "java/lang/String" 47 CodL.yN
def tab : Cond := tabOf yN yB 6 none site
def P (a : Addr) (D : Cell) (fV fC : Field) (b : Addr) (A : Cell) (z : Int32) (o len : Nat) (args : Array Value) (s : State) : Prop := args = #[.ref a, .ref b, .int (Int32.ofNat o), .int (Int32.ofNat len), .null] ∧ Blank "java/lang/String" a D s ∧ Found "java/lang/String" "value" "[B" fV s ∧ Found "java/lang/String" "coder" "B" fC s ∧ Ch b A s ∧ StaticIs s "java/lang/String" "COMPACT_STRINGS" "Z" (.int z) ∧ ¬ z = 0 ∧ 0 < len ∧ o + len ≤ A.slots.size ∧ len ≤ 536870912 ∧ ∀ i, i < len → ¬ 255 < cv A (o + i)
def E (a : Addr) (D : Cell) (fV fC : Field) (A : Cell) (o len : Nat) (r : Option Value) (s u : State) : Prop := Got a D fV fC A o len r s u
/-- len > 0, no char of the range above 255: a Latin-1 String of their low bytes -/
theorem law (l : Launch) (a : Addr) (D : Cell) (fV fC : Field) (b : Addr) (A : Cell) (z : Int32) (o len : Nat) : Law l yN 5 4 2 35 yB 6 none site (P a D fV fC b A z o len) (E a D fV fC A o len) [⟨a, fC.slot⟩, ⟨a, fV.slot⟩] 1 len := by
  refine Law.of_walk (plainFor_of_name (by decide +kernel)) (by decide +kernel) (by decide +kernel) (by decide) (fun _ _ h => by rw [h.1]; rfl) (fun _ U U' hal hh h => ⟨h.1, h.2.1.mv hal hh, h.2.2.1.al hal, h.2.2.2.1.al hal, h.2.2.2.2.1.mv hal hh, h.2.2.2.2.2.1.there hal hh, h.2.2.2.2.2.2⟩) (fun r U U' V V' h1 hal h2 h => Got.mv r U U' V V' h1 hal h2 h) ?_
  intro p e s m args below meth c s₁ X0 hexec hbytes hml hret hlk hnm hown hh0 W hP
  obtain ⟨rfl, hB, f1, f2, hA, s1, hz, l0, l1, l2, hp⟩ := hP
  have a31 := hA.1.2.2.2
  have c1 : Steps p.tables e below (s₁.setTop (entryFrame m #[.ref a, .ref b, .int (Int32.ofNat o), .int (Int32.ofNat len), .null] 6)) (s₁.setTop (mkF m 0 #[.val (.ref a), .val (.ref b), .val (.int (Int32.ofNat o)), .val (.int (Int32.ofNat len)), .val .null, .unset] [])) := entry rfl
  have c2 : Steps p.tables e below (s₁.setTop (entryFrame m #[.ref a, .ref b, .int (Int32.ofNat o), .int (Int32.ofNat len), .null] 6)) (s₁.setTop (mkF m 1 #[.val (.ref a), .val (.ref b), .val (.int (Int32.ofNat o)), .val (.int (Int32.ofNat len)), .val .null, .unset] [.ref a])) := c1.trans (by
    refine XS.aloadN X0.here hexec rfl (hb hbytes d0) rfl rfl ?_
    exact Steps.refl _)
  obtain ⟨T3, X3, q3, st3⟩ := X0.oinit hexec hown (wks W (objW "java/lang/String" 1)) (g := (mkF m 1 #[.val (.ref a), .val (.ref b), .val (.int (Int32.ofNat o)), .val (.int (Int32.ofNat len)), .val .null, .unset] [.ref a])) rfl (by rw [hml]; rfl) (rest := []) rfl (hb hbytes d1) (W := 0) (by show 2 * 0 + 0 ≤ _; decide) (Nat.le_of_ble_eq_true rfl) (Nat.le_of_ble_eq_true rfl)
  have hh3 := q3.trans hh0
  have c4 : Steps p.tables e below (s₁.setTop (entryFrame m #[.ref a, .ref b, .int (Int32.ofNat o), .int (Int32.ofNat len), .null] 6)) (T3.setTop (mkF m 27 #[.val (.ref a), .val (.ref b), .val (.int (Int32.ofNat o)), .val (.int (Int32.ofNat len)), .val .null, .unset] [])) := (c2.trans (st3 _ (Steps.refl _))).trans (by
    refine XS.iloadN X3.here hexec rfl (hb hbytes d4) rfl ?_
    refine XS.ifYes X3.here hexec rfl (pc0 := 5) rfl (hb hbytes d5) rfl (i0_ne_t (nz32 (by omega) l0)) (by decide) rfl ?_
    exact Steps.refl _)
  obtain ⟨T5, X5, q5, st5⟩ := X3.sget hexec hown (wk W (.fieldLink "java/lang/String" 38 "java/lang/String" "COMPACT_STRINGS" "Z")) s1 (fun _ _ h => by rw [hh3]; exact h) (g := (mkF m 27 #[.val (.ref a), .val (.ref b), .val (.int (Int32.ofNat o)), .val (.int (Int32.ofNat len)), .val .null, .unset] [])) rfl (hb hbytes d27)
  have hh5 := q5.trans hh3
  have c6 : Steps p.tables e below (s₁.setTop (entryFrame m #[.ref a, .ref b, .int (Int32.ofNat o), .int (Int32.ofNat len), .null] 6)) (T5.setTop (mkF m 30 #[.val (.ref a), .val (.ref b), .val (.int (Int32.ofNat o)), .val (.int (Int32.ofNat len)), .val .null, .unset] [.int z])) := c4.trans (st5 _ (Steps.refl _))
  have c7 : Steps p.tables e below (s₁.setTop (entryFrame m #[.ref a, .ref b, .int (Int32.ofNat o), .int (Int32.ofNat len), .null] 6)) (T5.setTop (mkF m 36 #[.val (.ref a), .val (.ref b), .val (.int (Int32.ofNat o)), .val (.int (Int32.ofNat len)), .val .null, .unset] [.int (Int32.ofNat len), .int (Int32.ofNat o), .ref b])) := c6.trans (by
    refine XS.ifNo X5.here hexec rfl (hb hbytes d30) rfl (i0_eq_f hz) ?_
    refine XS.aloadN X5.here hexec rfl (hb hbytes d33) rfl rfl ?_
    refine XS.iloadN X5.here hexec rfl (hb hbytes d34) rfl ?_
    refine XS.iloadN X5.here hexec rfl (hb hbytes d35) rfl ?_
    exact Steps.refl _)
  obtain ⟨v8, T8, X8, E8, g8⟩ := X5.callS hexec (Cmp3.law l b A o len) hown (wks W (staticW "java/lang/String" 177 Cmp3.yN)) (wk W Cmp3.tab) (W := 0) (Nat.le_of_ble_eq_true rfl) (Nat.le_of_ble_eq_true rfl) (Nat.le_refl _) (by show 0 + len ≤ len; omega) (g := (mkF m 36 #[.val (.ref a), .val (.ref b), .val (.int (Int32.ofNat o)), .val (.int (Int32.ofNat len)), .val .null, .unset] [.int (Int32.ofNat len), .int (Int32.ofNat o), .ref b])) rfl (by rw [hml]; rfl) c7 (argsL := [.ref b, .int (Int32.ofNat o), .int (Int32.ofNat len)]) (rest := []) rfl rfl (by show 2 * 0 + 0 ≤ _; decide) (hb hbytes d36) (⟨rfl, hA.mv X5.warmed.alike hh5, l1, l2, hp⟩)
  obtain ⟨e8, z8⟩ := E8
  obtain ⟨rfl, N, n1, n2, n3, n4, n5, n6⟩ := NewArr.mv _ T5 s _ _ hh5.symm (Vm.Alike.refl _) rfl e8
  rw [hh5] at z8
  have hB1 := hB.keep X8.warmed.alike (n6 _ _ hB.1)
  have hne : s.heap.size ≠ a := (Nat.ne_of_lt (Array.getElem?_eq_some_iff.mp hB.1).1).symm
  have c9 : Steps p.tables e below (s₁.setTop (entryFrame m #[.ref a, .ref b, .int (Int32.ofNat o), .int (Int32.ofNat len), .null] 6)) (T8.setTop (mkF m 39 #[.val (.ref a), .val (.ref b), .val (.int (Int32.ofNat o)), .val (.int (Int32.ofNat len)), .val .null, .unset] [.ref s.heap.size])) := g8
  have c10 : Steps p.tables e below (s₁.setTop (entryFrame m #[.ref a, .ref b, .int (Int32.ofNat o), .int (Int32.ofNat len), .null] 6)) (T8.setTop (mkF m 45 #[.val (.ref a), .val (.ref b), .val (.int (Int32.ofNat o)), .val (.int (Int32.ofNat len)), .val .null, .val (.ref s.heap.size)] [.int (Int32.ofNat N.slots.size), .ref s.heap.size, .ref a])) := by
    have hc : Steps p.tables e below (s₁.setTop (entryFrame m #[.ref a, .ref b, .int (Int32.ofNat o), .int (Int32.ofNat len), .null] 6)) (T8.setTop (mkF m 45 #[.val (.ref a), .val (.ref b), .val (.int (Int32.ofNat o)), .val (.int (Int32.ofNat len)), .val .null, .val (.ref s.heap.size)] [.int (Int32.ofNat len), .ref s.heap.size, .ref a])) := c9.trans (by
      refine XS.astore X8.here hexec rfl (hb hbytes d39) rfl rfl rfl ?_
      refine XS.aloadN X8.here hexec rfl (hb hbytes d41) rfl rfl ?_
      refine XS.aload X8.here hexec rfl (hb hbytes d42) rfl rfl ?_
      refine XS.iloadN X8.here hexec rfl (hb hbytes d44) rfl ?_
      exact Steps.refl _)
    rw [n4]; exact hc
  obtain ⟨v11, T11, X11, E11, g11⟩ := X8.callS hexec (CodL.law l s.heap.size N) hown (wks W (staticW "java/lang/String" 47 CodL.yN)) (wk W CodL.tab) (W := 1) (Nat.le_of_ble_eq_true rfl) (Nat.le_of_ble_eq_true rfl) (Nat.le_refl _) (by show 0 + len + 0 ≤ len; omega) (g := (mkF m 45 #[.val (.ref a), .val (.ref b), .val (.int (Int32.ofNat o)), .val (.int (Int32.ofNat len)), .val .null, .val (.ref s.heap.size)] [.int (Int32.ofNat N.slots.size), .ref s.heap.size, .ref a])) rfl (by rw [hml]; rfl) c10 (argsL := [.ref s.heap.size, .int (Int32.ofNat N.slots.size)]) (rest := [.ref a]) rfl rfl (by show 2 * 0 + (1 + 0) ≤ _; decide) (hb hbytes d45) (⟨rfl, n1⟩)
  obtain ⟨rfl, q11⟩ := E11
  have hB11 := hB1.mv (X8.warmed.alike.symm.trans X11.warmed.alike) q11
  have c12 : Steps p.tables e below (s₁.setTop (entryFrame m #[.ref a, .ref b, .int (Int32.ofNat o), .int (Int32.ofNat len), .null] 6)) (T11.setTop (mkF m 48 #[.val (.ref a), .val (.ref b), .val (.int (Int32.ofNat o)), .val (.int (Int32.ofNat len)), .val .null, .val (.ref s.heap.size)] [.int 0, .ref a])) := g11
  obtain ⟨T13, X13, p13, bl13, sl13, st13⟩ := X11.finit hexec hown (wk W (.fieldLink "java/lang/String" 15 "java/lang/String" "coder" "B")) (Or.inr ⟨_, (wk W (.laysFinal "java/lang/String" "java/lang/String" "coder" "B"))⟩) (Or.inl ⟨rfl, hnm⟩) f2 (Or.inl rfl) hB11 (t := .byte) (by decide +kernel) rfl (g := (mkF m 48 #[.val (.ref a), .val (.ref b), .val (.int (Int32.ofNat o)), .val (.int (Int32.ofNat len)), .val .null, .val (.ref s.heap.size)] [.int 0, .ref a])) rfl (rest := []) rfl (hb hbytes d48)
  have c14 : Steps p.tables e below (s₁.setTop (entryFrame m #[.ref a, .ref b, .int (Int32.ofNat o), .int (Int32.ofNat len), .null] 6)) (T13.setTop (mkF m 54 #[.val (.ref a), .val (.ref b), .val (.int (Int32.ofNat o)), .val (.int (Int32.ofNat len)), .val .null, .val (.ref s.heap.size)] [.ref s.heap.size, .ref a])) := (c12.trans (st13 _ (Steps.refl _))).trans (by
    refine XS.aloadN X13.here hexec rfl (hb hbytes d51) rfl rfl ?_
    refine XS.aload X13.here hexec rfl (hb hbytes d52) rfl rfl ?_
    exact Steps.refl _)
  obtain ⟨T15, X15, p15, bl15, sl15, st15⟩ := X13.finit hexec hown (wk W (.fieldLink "java/lang/String" 9 "java/lang/String" "value" "[B")) (Or.inr ⟨_, (wk W (.laysFinal "java/lang/String" "java/lang/String" "value" "[B"))⟩) (Or.inl ⟨rfl, hnm⟩) f1 (Or.inl rfl) bl13 (t := (.array .byte)) (by decide +kernel) rfl (g := (mkF m 54 #[.val (.ref a), .val (.ref b), .val (.int (Int32.ofNat o)), .val (.int (Int32.ofNat len)), .val .null, .val (.ref s.heap.size)] [.ref s.heap.size, .ref a])) rfl (rest := []) rfl (hb hbytes d54)
  have c16 : Steps p.tables e below (s₁.setTop (entryFrame m #[.ref a, .ref b, .int (Int32.ofNat o), .int (Int32.ofNat len), .null] 6)) (T15.setTop (mkF m 57 #[.val (.ref a), .val (.ref b), .val (.int (Int32.ofNat o)), .val (.int (Int32.ofNat len)), .val .null, .val (.ref s.heap.size)] [])) := c14.trans (st15 _ (Steps.refl _))
  have ap := apart (Or.inr ⟨_, (wk W (.laysFinal "java/lang/String" "java/lang/String" "value" "[B"))⟩) (Or.inr ⟨_, (wk W (.laysFinal "java/lang/String" "java/lang/String" "coder" "B"))⟩) f1 f2 (t₁ := .array .byte) (t₂ := .byte) (by decide +kernel) (by decide +kernel) (by decide)
  have al := X8.warmed.alike.symm.trans X15.warmed.alike
  have n7 : T11.heap[s.heap.size]? = some N := by rw [q11]; exact n1.1
  exact ⟨T15, none, _, _, _, X15, by simp, rfl, by omega, (fun _ => rfl), ⟨rfl, _, N, bl15, ((Same.refl D _).set _ (by simp)).set _ (by simp), sl15, (Cell.slots_setSlot_ne _ ap).trans sl13, n1.keep al (p15.other hne (p13.other hne n7)), n2, by rw [al.findClass]; exact n3, n4, n5, fun y c h1 h2 => p15.other h1 (p13.other h1 (by rw [q11]; exact n6 y c h2)), by rw [p15.2.2, p13.2.2, q11]; exact z8⟩, fun fs hl => c16.trans (X15.returnOut hexec hret (hb hbytes d57) hl)⟩
end New4
namespace New1
def yN : MethodName := ⟨"java/lang/String", "<init>", "([C)V"⟩
abbrev yB : ByteArray := jdk_42_method_3_code
theorem d0 : decode yB 0 = .ok (.aload_n 0, 1) := by decide +kernel
theorem d1 : decode yB 1 = .ok (.aload_n 1, 1) := by decide +kernel
theorem d2 : decode yB 2 = .ok (.iconst 0, 1) := by decide +kernel
theorem d3 : decode yB 3 = .ok (.aload_n 1, 1) := by decide +kernel
theorem d4 : decode yB 4 = .ok (.arraylength, 1) := by decide +kernel
theorem d5 : decode yB 5 = .ok (.aconst_null, 1) := by decide +kernel
theorem d6 : decode yB 6 = .ok (.invokespecial 27, 3) := by decide +kernel
theorem d9 : decode yB 9 = .ok (.return_, 1) := by decide +kernel
def site : List Cond := [New4.tab] ++ initW "java/lang/String" 27 New4.yN
def tab : Cond := tabOf yN yB 2 none site
def P (a : Addr) (D : Cell) (fV fC : Field) (b : Addr) (A : Cell) (z : Int32) (args : Array Value) (s : State) : Prop := args = #[.ref a, .ref b] ∧ Blank "java/lang/String" a D s ∧ Found "java/lang/String" "value" "[B" fV s ∧ Found "java/lang/String" "coder" "B" fC s ∧ Ch b A s ∧ StaticIs s "java/lang/String" "COMPACT_STRINGS" "Z" (.int z) ∧ ¬ z = 0 ∧ 0 < A.slots.size ∧ A.slots.size ≤ 536870912 ∧ ∀ i, i < A.slots.size → ¬ 255 < cv A i
def E (a : Addr) (D : Cell) (fV fC : Field) (A : Cell) (r : Option Value) (s u : State) : Prop := Got a D fV fC A 0 A.slots.size r s u
/-- new String(chars), not empty, no char above 255: a Latin-1 String of their low bytes -/
theorem law (l : Launch) (a : Addr) (D : Cell) (fV fC : Field) (b : Addr) (A : Cell) (z : Int32) : Law l yN 2 1 3 52 yB 2 none site (P a D fV fC b A z) (E a D fV fC A) [⟨a, fC.slot⟩, ⟨a, fV.slot⟩] 1 A.slots.size := by
  refine Law.of_walk (plainFor_of_name (by decide +kernel)) (by decide +kernel) (by decide +kernel) (by decide) (fun _ _ h => by rw [h.1]; rfl) (fun _ U U' hal hh h => ⟨h.1, h.2.1.mv hal hh, h.2.2.1.al hal, h.2.2.2.1.al hal, h.2.2.2.2.1.mv hal hh, h.2.2.2.2.2.1.there hal hh, h.2.2.2.2.2.2⟩) (fun r U U' V V' h1 hal h2 h => Got.mv r U U' V V' h1 hal h2 h) ?_
  intro p e s m args below meth c s₁ X0 hexec hbytes hml hret hlk hnm hown hh0 W hP
  obtain ⟨rfl, hB, f1, f2, hA, s1, hz, l0, l2, hp⟩ := hP
  have c1 : Steps p.tables e below (s₁.setTop (entryFrame m #[.ref a, .ref b] 2)) (s₁.setTop (mkF m 0 #[.val (.ref a), .val (.ref b)] [])) := entry rfl
  have c2 : Steps p.tables e below (s₁.setTop (entryFrame m #[.ref a, .ref b] 2)) (s₁.setTop (mkF m 6 #[.val (.ref a), .val (.ref b)] [.null, .int (Int32.ofNat A.slots.size), .int 0, .ref b, .ref a])) := c1.trans (by
    refine XS.aloadN X0.here hexec rfl (hb hbytes d0) rfl rfl ?_
    refine XS.aloadN X0.here hexec rfl (hb hbytes d1) rfl rfl ?_
    refine iconstV X0.here hexec rfl 0 (hb hbytes d2) (by decide) ?_
    refine XS.aloadN X0.here hexec rfl (hb hbytes d3) rfl rfl ?_
    refine X0.alen hexec (hA.1.mv X0.warmed.alike hh0) rfl rfl (hb hbytes d4) ?_
    refine XS.aconstNull X0.here hexec rfl (hb hbytes d5) ?_
    exact Steps.refl _)
  obtain ⟨v3, T3, X3, E3, g3⟩ := X0.callN hexec (New4.law l a D fV fC b A z 0 A.slots.size) rfl hown (wks W (initW "java/lang/String" 27 New4.yN)) (W New4.tab (by simp only [site, List.mem_cons, List.mem_append, true_or, or_true])) (W := 0) (Nat.le_of_ble_eq_true rfl) (Nat.le_of_ble_eq_true rfl) (Nat.le_refl _) (by show 0 + A.slots.size ≤ A.slots.size; omega) (g := (mkF m 6 #[.val (.ref a), .val (.ref b)] [.null, .int (Int32.ofNat A.slots.size), .int (Int32.ofNat 0), .ref b, .ref a])) rfl (by rw [hml]; rfl) c2 (argsL := [.ref b, .int (Int32.ofNat 0), .int (Int32.ofNat A.slots.size), .null]) (rest := []) rfl rfl (by show 2 * 0 + 0 ≤ _; decide) (hb hbytes d6) (⟨rfl, hB.mv X0.warmed.alike hh0, f1.al X0.warmed.alike, f2.al X0.warmed.alike, hA.mv X0.warmed.alike hh0, s1.there X0.warmed.alike hh0, hz, l0, by omega, l2, fun i hi => by rw [Nat.zero_add]; exact hp i hi⟩)
  have e0 := Got.mv _ s₁ s _ _ hh0.symm (Vm.Alike.refl _) rfl E3
  obtain rfl := e0.1
  have c4 : Steps p.tables e below (s₁.setTop (entryFrame m #[.ref a, .ref b] 2)) (T3.setTop (mkF m 9 #[.val (.ref a), .val (.ref b)] [])) := g3
  exact ⟨T3, none, _, _, _, X3, by simp, rfl, by omega, (fun _ => rfl), e0, fun fs hl => c4.trans (X3.returnOut hexec hret (hb hbytes d9) hl)⟩
theorem pays {l : Launch} {R : Room} {p : Program} {e : Env} {below : List Frame} {s : State} {sargs : Array Value} {len W : Nat} (a : Addr) (D : Cell) (fV fC : Field) (b : Addr) (A : Cell) (z : Int32) (htab : tab.before sargs s = true) (hfr : 4 ≤ R.frames) (hlo : W + 65 ≤ R.locals) :
    Back l R p e below s sargs yN len W (fun A₁ a₁ => A₁.cells + 1 ≤ R.cells ∧ A₁.slots + A.slots.size ≤ R.slots ∧ P a D fV fC b A z a₁ A₁.U) (fun A₁ _ v₁ B₁ => E a D fV fC A v₁ A₁.U B₁.U ∧ B₁.locs = A₁.locs ++ [⟨a, fC.slot⟩, ⟨a, fV.slot⟩] ∧ B₁.cells = A₁.cells + 1 ∧ B₁.slots = A₁.slots + A.slots.size) :=
  (law l a D fV fC b A z).pays htab hfr (by omega)
end New1
/-- the byte, read back as charAt reads it, is the char -/
theorem lo8_mask {x : Int32} (h0 : ¬ x < 0) (h1 : ¬ 255 < x) : lo8 x &&& 255 = x := by
  have t : ∀ k : Fin 256, lo8 (Int32.ofNat k.val) &&& 255 = Int32.ofNat k.val := by decide +kernel
  rw [Int32.lt_iff_toInt_lt] at h0 h1
  have e0 : (0 : Int32).toInt = 0 := rfl
  have e1 : (255 : Int32).toInt = 255 := rfl
  obtain ⟨k, hk⟩ : ∃ k : Nat, x.toInt = k := ⟨x.toInt.toNat, by omega⟩
  have hx : x = Int32.ofNat k := Int32.toInt_inj.mp (by rw [hk, Int32.toInt_ofNat_small (by omega)])
  rw [hx]
  exact t ⟨k, by omega⟩
end StrChars
namespace StrChars.Road
open Jvm Sem ClassFile Op Lib Jvm.Stand Jvm.Free Jvm.Free.XT
open Jvm.Lib.Cold (StaticIs)
abbrev ST : String := "java/lang/String"
/-- every table word that New1's law asks, flat -/
abbrev words : List Jvm.Cond := [.code New1.yN New1.yB 2 none, .initialized ST, .methodLink ST 27 New4.yN, .instanceMethod New4.yN,
  .code New4.yN New4.yB 6 none, .fieldLink ST 38 ST "COMPACT_STRINGS" "Z", .laysFinal ST ST "value" "[B", .fieldLink ST 9 ST "value" "[B", .laysFinal ST ST "coder" "B", .fieldLink ST 15 ST "coder" "B",
  .methodLink ST 1 Lib.objectInit, .instanceMethod Lib.objectInit, .code Lib.objectInit ⟨#[0xb1]⟩ 1 none, .methodLink ST 177 Cmp3.yN, .static Cmp3.yN, .methodLink ST 47 CodL.yN, .static CodL.yN,
  .code Cmp3.yN Cmp3.yB 6 (some (.array .byte)), .initialized U16, .arrayClass .byte, .methodLink U16 115 Cmp5.yN, .static Cmp5.yN, .code Cmp5.yN Cmp5.yB 7 (some .int), .code CodL.yN CodL.yB 2 (some .byte)]
theorem tab_of {a : Array Value} {s : State} (h : ∀ w ∈ words, w.before a s = true) : New1.tab.before a s = true := by
  have h5 : Cmp5.tab.before a s = true := unparts (wk h (.code Cmp5.yN Cmp5.yB 7 (some .int))) (wks h (.initialized Cmp5.yN.cls :: Cmp5.site))
  have hc : CodL.tab.before a s = true := unparts (wk h (.code CodL.yN CodL.yB 2 (some .byte))) (wks h (.initialized CodL.yN.cls :: CodL.site))
  have q5 : ∀ w ∈ Cmp5.tab :: words, w.before a s = true := fun w hw => (List.mem_cons.mp hw).elim (fun e => e ▸ h5) (h w)
  have h3 : Cmp3.tab.before a s = true := unparts (wk q5 (.code Cmp3.yN Cmp3.yB 6 (some (.array .byte)))) (wks q5 (.initialized Cmp3.yN.cls :: Cmp3.site))
  have q3 : ∀ w ∈ Cmp3.tab :: CodL.tab :: words, w.before a s = true := fun w hw => (List.mem_cons.mp hw).elim (fun e => e ▸ h3) fun hw => (List.mem_cons.mp hw).elim (fun e => e ▸ hc) (h w)
  have h4 : New4.tab.before a s = true := unparts (wk q3 (.code New4.yN New4.yB 6 none)) (wks q3 (.initialized New4.yN.cls :: New4.site))
  have q4 : ∀ w ∈ New4.tab :: words, w.before a s = true := fun w hw => (List.mem_cons.mp hw).elim (fun e => e ▸ h4) (h w)
  exact unparts (wk q4 (.code New1.yN New1.yB 2 none)) (wks q4 (.initialized New1.yN.cls :: New1.site))
/-- the words ride from the start Z to the walk's own state -/
theorem moved {Z s : State} {a0 args : Array Value} (hZ : Z.Warmed39 s.vm) (hw : ∀ d ∈ words, d.before a0 Z = true) : ∀ d ∈ words, d.before args s = true := fun d hd => by
  have q := hw d hd
  have t : ∀ d ∈ words, d = .arrayClass .byte ∨ (d.onTables && d.keepsFace) = true := by decide +kernel
  rcases t d hd with rfl | t
  · exact RoadKit.mvA hZ q
  · exact RoadKit.mv hZ q t
/-- WHAT COMES BACK, over the tables of the start Z: h the heap at the call, h' behind it -/
def Q (Z : State) (x : Addr) (A : Cell) (h : Heap) (v : Option Value) (h' : Heap) (L : List Loc) : Prop := v = none ∧ (∀ y ∈ L, y.base = x) ∧ RoadKit.Keep h h' [x] ∧ h'.size = h.size + 1 ∧ RoadKit.Exa Z h' x ST ∧ RoadKit.Fld Z h' x ST "value" "[B" (.ref h.size) ∧ RoadKit.Fld Z h' x ST "coder" "B" (.int 0) ∧
  (∃ V : Cell, RoadKit.Arr Z h' h.size V .byte ∧ V.vm = .none ∧ Z.vm.findClass "[B" = some V.cls ∧ V.slots.size = A.slots.size ∧ ∀ j, j < A.slots.size → V.slots[j]? = some (.int (lo8 (cv A j)))) ∧
  ∀ (O n d : String) (w : Value), RoadKit.Fld Z h x O n d w → RoadKit.slotOf Z O n d ≠ RoadKit.slotOf Z ST "value" "[B" → RoadKit.slotOf Z O n d ≠ RoadKit.slotOf Z ST "coder" "B" → RoadKit.Fld Z h' x O n d w
/-- **new String(chars) AT A CALL, IN THE ROAD'S FORM**: for specialBack behind newO: x the fresh String, b the char[] with the cell A -/
theorem back {p : Program} {l : Launch} {e : Env} {R : Room} {s : State} {args : Array Value} {below : List Frame} {len W : Nat} {Z : State} {a0 : Array Value} {h : Heap} (hZ : Z.Warmed39 s.vm) (hw : ∀ d ∈ words, d.before a0 Z = true) {kI : Nat} (wi : (Jvm.Cond.instantiable ST kI).before a0 Z = true)
    {x b : Addr} {A : Cell} {z : Int32} {v0 c0 : Value} (E : RoadKit.Exa Z h x ST) (V : RoadKit.Fld Z h x ST "value" "[B" v0) (C : RoadKit.Fld Z h x ST "coder" "B" c0) (K : RoadKit.Arr Z h b A .char) (hty : Typed .char A) (S : RoadKit.Sta Z h ST "COMPACT_STRINGS" "Z" (.int z)) (hz : ¬ z = 0)
    (l0 : 0 < A.slots.size) (l2 : A.slots.size ≤ 536870912) (hp : ∀ i, i < A.slots.size → ¬ 255 < cv A i) (hfr : 4 ≤ R.frames) (hlo : W + 65 ≤ R.locals) :
    Back l R p e below s args New1.yN len W (fun P a => a = #[.ref x, .ref b] ∧ P.U.heap = h ∧ P.cells + 1 ≤ R.cells ∧ P.slots + A.slots.size ≤ R.slots)
      (fun P _ v B => ∃ L, Q Z x A h v B.U.heap L ∧ B.locs = P.locs ++ L ∧ B.cells = P.cells + 1 ∧ B.slots = P.slots + A.slots.size) := by
  intro m meth c P g ig mk a X hg hsize hdg hW hn hp'
  obtain ⟨rfl, rfl, r1, r2⟩ := hp'
  have al : Z.vm.Alike P.U.vm := hZ.alike.trans X.warmed.alike
  obtain ⟨D, cfV, kV, iV, fV, hD, gV, stV, knV, obV, asV, slV⟩ := id V
  obtain ⟨D', cfC, kC, iC, fC, hD', gC, stC, -, -, asC, slC⟩ := id C
  cases hD.symm.trans hD'
  obtain ⟨D2, kD, e1, e2, e3, e4, e5⟩ := id E
  cases hD.symm.trans e1
  obtain ⟨c2, k2, i1, i2, i3, -⟩ := Cond.instantiable_spec wi
  cases e2.symm.trans i1
  cases e3.symm.trans i2
  obtain ⟨kU, u1, u2⟩ := al.2.2 _ _ e3
  have hB : Blank ST x D P.U := ⟨hD, ⟨knV, fun q hq => by rw [hq] at obV; cases obV⟩, by rw [al.findClass]; exact e2, kU, u1, by rw [u2]; exact i3, by rw [u2]; exact e5 i3⟩
  have F1 : Found ST "value" "[B" fV P.U := ⟨SBG.found_only al ⟨cfV, kV, iV, gV⟩, stV⟩
  have F2 : Found ST "coder" "B" fC P.U := ⟨SBG.found_only al ⟨cfC, kC, iC, gC⟩, stC⟩
  have hA : Ch b A P.U := ⟨⟨K.1, State.isArrayOf_alike al K.2.1, K.2.2, by omega⟩, hty⟩
  have hS : StaticIs P.U ST "COMPACT_STRINGS" "Z" (.int z) := by
    obtain ⟨cfS, iS, kS, fS, st, cS, t1, t2, t3, t4, t5, t6, t7⟩ := S
    exact StaticIs.there (s := { Z with heap := P.U.heap }) ⟨cfS, iS, kS, fS, st, cS, t1, t2, t3, t4, t5, (fun q => by rw [q] at t6; cases t6), t7⟩ al rfl
  obtain ⟨v, B, X', ⟨⟨hv, E', V', q1, q2, q3, q4, q5, q6, q7, q8, q9, q10, q11⟩, hl, hc, hs⟩, st⟩ := New1.pays x D fV fC b A z (tab_of (moved hZ hw)) hfr hlo m meth c P g ig mk _ X hg hsize hdg hW hn ⟨r1, r2, rfl, hB, F1, F2, hA, hS, hz, l0, l2, hp⟩
  have al' : Z.vm.Alike B.U.vm := hZ.alike.trans X'.warmed.alike
  have hsz : E'.slots.size = D.slots.size := by
    obtain ⟨-, -, -, kB, w1, w2, w3⟩ := q1
    obtain ⟨kB', y1, y2⟩ := al'.2.2 _ _ e3
    rw [q2.2.1] at w1
    cases w1.symm.trans y1
    rw [w3, e5 i3, y2]
  refine ⟨v, B, X', ⟨_, ⟨hv, ?_, ⟨by omega, fun y cy hy hn' => q10 y cy (by simpa using hn') hy, fun y cy hy => ?_⟩, q11, ⟨E', _, q1.1, by rw [q2.2.1]; exact e2, by rw [q2.2.1]; exact e3, by rw [q2.1]; exact obV, fun _ => by rw [hsz]; exact e5 i3⟩,
    ⟨E', cfV, kV, iV, fV, q1.1, gV, stV, by rw [q2.1]; exact knV, by rw [q2.1]; exact obV, by rw [q2.2.1]; exact asV, q3⟩, ⟨E', cfC, kC, iC, fC, q1.1, gC, stC, by rw [q2.1]; exact knV, by rw [q2.1]; exact obV, by rw [q2.2.1]; exact asC, q4⟩,
    ⟨V', ⟨q5.1, State.isArrayOf_alike al'.symm q5.2.1, q5.2.2.1⟩, q6, by rw [← al'.findClass]; exact q7, q8, fun j hj => by have := q9 j hj; rwa [Nat.zero_add] at this⟩, fun O n d w F n1 n2 => ?_⟩, hl, hc, hs⟩, st⟩
  · intro y hy
    simp only [List.mem_cons, List.not_mem_nil, or_false] at hy
    rcases hy with rfl | rfl <;> rfl
  · by_cases q : y = x
    · subst q
      cases hD.symm.trans hy
      exact ⟨E', q1.1, q2.2.1, q2.1, hsz⟩
    · exact ⟨cy, q10 y cy q hy, rfl, rfl, rfl⟩
  · obtain ⟨D3, cf, k, i, f, g1, g2, g3, g4, g5, g6, g7⟩ := F
    cases hD.symm.trans g1
    simp only [RoadKit.slotOf, g2, gV, gC, Option.map_some, Option.getD_some] at n1 n2
    exact ⟨E', cf, k, i, f, q1.1, g2, g3, by rw [q2.1]; exact g4, by rw [q2.1]; exact g5, by rw [q2.2.1]; exact g6, by rw [q2.2.2 f.slot (by simp [n1, n2])]; exact g7⟩
end StrChars.Road
namespace StrChars.Road
open Jvm Sem ClassFile Op Lib Jvm.Stand Jvm.Free Jvm.Free.XT
/-- WHAT COMES BACK, the byte[] as a list of values -/
def QA (Z : State) (x : Addr) (zn : Int32) (cs : List Int32) (h : Heap) (v : Option Value) (h' : Heap) (L : List Loc) : Prop := v = none ∧ (∀ y ∈ L, y.base = x) ∧ RoadKit.Keep h h' [x] ∧ h'.size = h.size + 1 ∧ RoadKit.Exa Z h' x ST ∧ RoadKit.Fld Z h' x ST "value" "[B" (.ref h.size) ∧ RoadKit.Fld Z h' x ST "coder" "B" (.int 0) ∧
  (∃ kb, Z.vm.findClass "[B" = some kb ∧ RoadKit.Arv Z h' h.size kb .byte zn (cs.map fun c => .int (lo8 c)) (.int 0)) ∧
  ∀ (O n d : String) (w : Value), RoadKit.Fld Z h x O n d w → RoadKit.slotOf Z O n d ≠ RoadKit.slotOf Z ST "value" "[B" → RoadKit.slotOf Z O n d ≠ RoadKit.slotOf Z ST "coder" "B" → RoadKit.Fld Z h' x O n d w
/-- **new String(chars) AT A CALL, THE ARRAYS AS LISTS**: the char[] at b holds cs, not empty, no char above 255 -/
theorem backArv {p : Program} {l : Launch} {e : Env} {R : Room} {s : State} {args : Array Value} {below : List Frame} {len W : Nat} {Z : State} {a0 : Array Value} {h : Heap} (hZ : Z.Warmed39 s.vm) (hw : ∀ d ∈ words, d.before a0 Z = true) {kI : Nat} (wi : (Jvm.Cond.instantiable ST kI).before a0 Z = true)
    {x b : Addr} {k : ClassId} {zn z : Int32} {cs : List Int32} {dv v0 c0 : Value} (E : RoadKit.Exa Z h x ST) (V : RoadKit.Fld Z h x ST "value" "[B" v0) (C : RoadKit.Fld Z h x ST "coder" "B" c0) (K : RoadKit.Arv Z h b k .char zn (cs.map Value.int) dv) (S : RoadKit.Sta Z h ST "COMPACT_STRINGS" "Z" (.int z)) (hz : ¬ z = 0)
    (hlen : zn.toNatClampNeg = cs.length) (h0 : 0 < cs.length) (hbig : cs.length ≤ 536870912) (hall : ∀ c ∈ cs, ¬ 255 < c) (hfr : 4 ≤ R.frames) (hlo : W + 65 ≤ R.locals) :
    Back l R p e below s args New1.yN len W (fun P a => a = #[.ref x, .ref b] ∧ P.U.heap = h ∧ P.cells + 1 ≤ R.cells ∧ P.slots + cs.length ≤ R.slots)
      (fun P _ v B => ∃ L, QA Z x zn cs h v B.U.heap L ∧ B.locs = P.locs ++ L ∧ B.cells = P.cells + 1 ∧ B.slots = P.slots + cs.length) := by
  obtain ⟨A, K1, K2, K3, K4, K5, K6⟩ := K
  have e : A.slots.size = cs.length := K3.trans hlen
  have hat : ∀ (i : Nat) (hi : i < cs.length), A.slots[i]? = some (.int cs[i]) := fun i hi => by rw [K5 i (by omega)]; simp [List.getD_eq_getElem?_getD, hi]
  have hcv : ∀ (i : Nat) (hi : i < cs.length), cv A i = cs[i] := fun i hi => by unfold cv; rw [hat i hi]
  have hty : Typed .char A := fun i v hv => by
    have hi : i < A.slots.size := (Array.getElem?_eq_some_iff.mp hv).1
    have q := K5 i hi
    rw [hv] at q
    rw [Option.some.inj q]
    exact K6 i hi
  refine Back.mono (back hZ hw wi E V C K1 hty S hz (by omega) (by omega) (fun i hi => by rw [hcv i (by omega)]; exact hall _ (List.getElem_mem _)) hfr hlo) (fun P a hp => ⟨hp.1, hp.2.1, hp.2.2.1, by rw [e]; exact hp.2.2.2⟩) (fun P a v B hp hq => ?_)
  obtain ⟨L, ⟨q1, q2, q3, q4, q5, q6, q7, ⟨V', v1, v2, v3, v4, v5⟩, q9⟩, hl, hc, hs⟩ := hq
  refine ⟨L, ⟨q1, q2, q3, q4, q5, q6, q7, ⟨V'.cls, v3, V', v1, rfl, by rw [v4, e, hlen], K4, fun i hi => ?_, fun i hi => ?_⟩, q9⟩, hl, hc, by rw [hs, e]⟩
  · have hi' : i < cs.length := by omega
    rw [v5 i (by omega), hcv i hi']; simp [List.getD_eq_getElem?_getD, hi']
  · have hi' : i < cs.length := by omega
    simp only [List.getD_eq_getElem?_getD, List.getElem?_map, List.getElem?_eq_getElem hi', Option.map_some, Option.getD_some]
    exact fits_lo8 _
end StrChars.Road
namespace StrChars.Road
open Jvm Sem ClassFile Op Lib Jvm.Stand Jvm.Free Jvm.Free.XT
/-- WHAT COMES BACK, in the writer's own shape -/
def QV (Z : State) (x : Addr) (N : Int32) (bs : List Int32) (h : Heap) (n0 : Nat) (v : Option Value) (h' : Heap) (L : List Loc) : Prop := v = none ∧ RoadKit.Fr n0 L ∧ RoadKit.Keep h h' [x] ∧ RoadKit.Exa Z h' x ST ∧ RoadKit.Fld Z h' x ST "coder" "B" (.int 0) ∧
  ∃ (t : Addr) (kb : ClassId), n0 ≤ t ∧ h.size ≤ t ∧ ¬ t = x ∧ RoadKit.Fld Z h' x ST "value" "[B" (.ref t) ∧ RoadKit.Arv Z h' t kb .byte N (bs.map Value.int) (.int 0)
/-- **new String(chars) AT A CALL, FOR THE WRITER**: a char[] of n known ints, each 0 to 255 -/
theorem backV {p : Program} {l : Launch} {e : Env} {R : Room} {s : State} {args : Array Value} {below : List Frame} {len W : Nat} {Z : State} {a0 : Array Value} {h : Heap} (hZ : Z.Warmed39 s.vm) (hw : ∀ d ∈ words, d.before a0 Z = true) {kI : Nat} (wi : (Jvm.Cond.instantiable ST kI).before a0 Z = true)
    {x b : Addr} {kC : ClassId} {cs bs : List Int32} {d v0 c0 : Value} {z N : Int32} {n n0 : Nat} (hx0 : n0 ≤ x) (hh0 : n0 ≤ h.size) (E : RoadKit.Exa Z h x ST) (V : RoadKit.Fld Z h x ST "value" "[B" v0) (C : RoadKit.Fld Z h x ST "coder" "B" c0) (K : RoadKit.Arv Z h b kC .char N (cs.map Value.int) d) (S : RoadKit.Sta Z h ST "COMPACT_STRINGS" "Z" (.int z)) (hz : ¬ z = 0)
    (hn : cs.length = n) (hN : N = Int32.ofNat n) (l0 : 0 < n) (l2 : n ≤ 4000) (hp : ∀ c ∈ cs, ¬ c < 0 ∧ ¬ (255 : Int32) < c) (hb : bs = cs.map (fun c => c.toInt8.toInt32)) (hfr : 4 ≤ R.frames) (hlo : W + 65 ≤ R.locals) :
    Back l R p e below s args (⟨"java/lang/String", "<init>", "([C)V"⟩ : MethodName) len W (fun P a => a = #[.ref x, .ref b] ∧ P.U.heap = h ∧ P.cells + 1 ≤ R.cells ∧ P.slots + n ≤ R.slots)
      (fun P _ v B => ∃ L, QV Z x N bs h n0 v B.U.heap L ∧ B.locs = P.locs ++ L ∧ B.cells = P.cells + 1 ∧ B.slots = P.slots + n) := by
  subst hn hN hb
  refine Back.mono (backArv hZ hw wi E V C K S hz (n32 (by omega)) l0 (by omega) (fun c hc => (hp c hc).2) hfr hlo) (fun P a hp => hp) (fun P a v B hp hq => ?_)
  obtain ⟨L, ⟨q1, q2, q3, q4, q5, q6, q7, ⟨kb, v1, v2⟩, q9⟩, hl, hc, hs⟩ := hq
  exact ⟨L, ⟨q1, fun y hy => by rw [q2 y hy]; exact hx0, q3, q5, q7, h.size, kb, hh0, Nat.le_refl _, Nat.ne_of_gt E.lt, q6, by rw [List.map_map]; exact v2⟩, hl, hc, hs⟩
end StrChars.Road
namespace StrChars
open Jvm Sem ClassFile Op Lib Jvm.Stand Jvm.Free.XT Jvm.Free.ALB Jvm.Free.JM Jvm.Free
open Jvm.Lib.Cold (StaticIs)
def hi8 (x : Int32) : Int32 := lo8 (x >>> ((8 : Int32) &&& 31))
/-- what StringUTF16.getChar makes of two bytes -/
def pairCh (u v : Int32) : Int32 := (((u &&& 255) <<< ((0 : Int32) &&& 31)) ||| ((v &&& 255) <<< ((8 : Int32) &&& 31))).toUInt32.toUInt16.toUInt32.toInt32
theorem lo8_and (x : Int32) : (lo8 x &&& 255).toBitVec.toNat = x.toBitVec.toNat % 256 := by
  have h : (lo8 x).toBitVec = (x.toBitVec.signExtend 8).signExtend 32 := by rw [lo8, Int8.toBitVec_toInt32, Int32.toBitVec_toInt8]
  rw [Int32.toBitVec_and, BitVec.toNat_and, h]
  have e : ((x.toBitVec.signExtend 8).signExtend 32).toNat % 256 = x.toBitVec.toNat % 256 := by
    rw [BitVec.toNat_signExtend]
    have hlt := x.toBitVec.isLt
    simp only [BitVec.toNat_setWidth, BitVec.toNat_signExtend]
    split <;> split <;> omega
  rw [← e]
  exact Nat.and_two_pow_sub_one_eq_mod _ 8
theorem pair_says {c : Int32} (h0 : ¬ c < 0) (h1 : ¬ 65535 < c) : pairCh (lo8 c) (hi8 c) = c := by
  rw [Int32.lt_iff_toInt_lt] at h0 h1
  have e0 : (0 : Int32).toInt = 0 := rfl
  have e1 : (65535 : Int32).toInt = 65535 := rfl
  have hc : c.toInt = c.toBitVec.toNat := by
    have := c.toBitVec.isLt
    have e : c.toInt = c.toBitVec.toInt := rfl
    rw [e] at h0 h1
    rw [e]
    rw [BitVec.toInt_eq_toNat_cond] at h0 h1 ⊢
    split at h0 <;> split <;> omega
  have hn : c.toBitVec.toNat < 65536 := by omega
  have a1 := lo8_and c
  have a2 : (hi8 c &&& 255).toBitVec.toNat = c.toBitVec.toNat / 256 := by
    rw [hi8, lo8_and]
    have e : ((8 : Int32) &&& 31) = 8 := by decide
    rw [e, Int32.toBitVec_shiftRight]
    have e2 : ((8 : Int32).toBitVec.smod 32) = 8#32 := by decide
    rw [e2, BitVec.sshiftRight_eq', BitVec.toNat_sshiftRight_of_msb_false (by rw [BitVec.msb_eq_false_iff_two_mul_lt]; omega)]
    show c.toBitVec.toNat >>> 8 % 256 = _
    rw [Nat.shiftRight_eq_div_pow]
    omega
  unfold pairCh
  apply Int32.toBitVec_inj.mp
  apply BitVec.eq_of_toNat_eq
  have f0 : ((0 : Int32) &&& 31) = 0 := by decide
  have f8 : ((8 : Int32) &&& 31) = 8 := by decide
  rw [f0, f8]
  have g : (((lo8 c &&& 255) <<< (0 : Int32)) ||| ((hi8 c &&& 255) <<< (8 : Int32))).toBitVec.toNat = c.toBitVec.toNat := by
    rw [Int32.toBitVec_or, Int32.toBitVec_shiftLeft, Int32.toBitVec_shiftLeft]
    have s0 : ((0 : Int32).toBitVec.smod 32) = 0#32 := by decide
    have s8 : ((8 : Int32).toBitVec.smod 32) = 8#32 := by decide
    rw [s0, s8, BitVec.toNat_or]
    simp only [BitVec.shiftLeft_eq', BitVec.toNat_shiftLeft, a1, a2]
    show (c.toBitVec.toNat % 256) <<< 0 % 2 ^ 32 ||| (c.toBitVec.toNat / 256) <<< 8 % 2 ^ 32 = _
    rw [Nat.shiftLeft_zero, Nat.mod_eq_of_lt (show c.toBitVec.toNat % 256 < 2 ^ 32 by omega), Nat.mod_eq_of_lt (show (c.toBitVec.toNat / 256) <<< 8 < 2 ^ 32 by rw [Nat.shiftLeft_eq]; omega), Nat.or_comm, ← Nat.shiftLeft_add_eq_or_of_lt (by omega), Nat.shiftLeft_eq]
    omega
  show BitVec.toNat (((((lo8 c &&& 255) <<< (0 : Int32)) ||| ((hi8 c &&& 255) <<< (8 : Int32))).toBitVec.setWidth 16).setWidth 32) = _
  rw [BitVec.toNat_setWidth, BitVec.toNat_setWidth, g]
  omega
end StrChars
namespace StrChars
open Jvm Sem ClassFile Op Lib Jvm.Stand Jvm.Free.XT Jvm.Free.ALB Jvm.Free.JM Jvm.Free
open Jvm.Lib.Cold (StaticIs)
/-- the array's cell V codes the n chars f 0 .. f (n - 1) by the coder cd, as the JDK does: coder 1 just where some char is above 255 -/
def Cod (cd : Int32) (n : Nat) (f : Nat → Int32) (V : Cell) : Prop := (cd = 0 ∧ V.slots.size = n ∧ ∀ j, j < n → V.slots[j]? = some (.int (lo8 (f j))) ∧ ¬ 255 < f j) ∨ (cd = 1 ∧ V.slots.size = 2 * n ∧ (∀ j, j < n → V.slots[2 * j]? = some (.int (lo8 (f j))) ∧ V.slots[2 * j + 1]? = some (.int (hi8 (f j)))) ∧ ∃ j, j < n ∧ 255 < f j)
/-- **x is a String of the n chars f 0 .. f (n - 1)**, Latin-1 or UTF-16; its array at t has the cell V -/
def Txt (x t : Addr) (V : Cell) (cd : Int32) (n : Nat) (f : Nat → Int32) (U : State) : Prop := Exact "java/lang/String" x U ∧ Has x "java/lang/String" "value" "[B" (.ref t) U ∧ Has x "java/lang/String" "coder" "B" (.int cd) U ∧ XT.Arr .byte t V U ∧ Cod cd n f V ∧ ∀ j, j < n → ¬ f j < 0 ∧ ¬ 65535 < f j
theorem Txt.mv {x t : Addr} {V : Cell} {cd : Int32} {n : Nat} {f : Nat → Int32} {U U' : State} (h : Txt x t V cd n f U) (hal : U.vm.Alike U'.vm) (hh : U'.heap = U.heap) : Txt x t V cd n f U' := ⟨h.1.mv hal hh, h.2.1.mv hal hh, h.2.2.1.mv hal hh, h.2.2.2.1.mv hal hh, h.2.2.2.2⟩
end StrChars
namespace StrChars.Road
open Jvm Sem ClassFile Op Lib Jvm.Stand Jvm.Free Jvm.Free.XT
open Jvm.Lib.Cold (StaticIs)
theorem consq {a : Array Value} {s : State} {c : Jvm.Cond} {L : List Jvm.Cond} (h0 : c.before a s = true) (h : ∀ w ∈ L, w.before a s = true) : ∀ w ∈ c :: L, w.before a s = true := fun w hw => (List.mem_cons.mp hw).elim (fun e => e ▸ h0) (h w)
/-- the bytes of the chars cs, low before high -/
def wideBytes : List Int32 → List Value
  | [] => []
  | c :: cs => .int (lo8 c) :: .int (hi8 c) :: wideBytes cs
theorem wide_lo (d : Value) : ∀ (cs : List Int32) (j : Nat), j < cs.length → (wideBytes cs).getD (2 * j) d = .int (lo8 (cs.getD j 0))
  | [], j, h => absurd h (Nat.not_lt_zero j)
  | c :: cs, 0, _ => rfl
  | c :: cs, j + 1, h => by
    have q := wide_lo d cs j (by simpa using h)
    rw [show 2 * (j + 1) = 2 * j + 1 + 1 from by omega]
    simpa [wideBytes] using q
theorem wide_hi (d : Value) : ∀ (cs : List Int32) (j : Nat), j < cs.length → (wideBytes cs).getD (2 * j + 1) d = .int (hi8 (cs.getD j 0))
  | [], j, h => absurd h (Nat.not_lt_zero j)
  | c :: cs, 0, _ => rfl
  | c :: cs, j + 1, h => by
    have q := wide_hi d cs j (by simpa using h)
    rw [show 2 * (j + 1) + 1 = 2 * j + 1 + 1 + 1 from by omega]
    simpa [wideBytes] using q
theorem low_at (d : Value) (cs : List Int32) (j : Nat) (h : j < cs.length) : (cs.map fun c => Value.int (lo8 c)).getD j d = .int (lo8 (cs.getD j 0)) := by
  simp [List.getD_eq_getElem?_getD, h]
/-- an array of N2 bytes vs codes the chars cs by the coder cd -/
def CodA (cs : List Int32) (cd N2 : Int32) (vs : List Value) : Prop := (cd = 0 ∧ N2 = Int32.ofNat cs.length ∧ vs = (cs.map fun c => Value.int (lo8 c)) ∧ ∀ c ∈ cs, ¬ 255 < c) ∨ (cd = 1 ∧ N2 = Int32.ofNat (2 * cs.length) ∧ vs = wideBytes cs ∧ ∃ c ∈ cs, 255 < c)
theorem CodA.cod {cs : List Int32} {cd N2 : Int32} {vs : List Value} {V : Cell} (h : CodA cs cd N2 vs) (hn : 2 * cs.length < 2 ^ 31) (hs : V.slots.size = N2.toNatClampNeg) (hv : RoadKit.Has V vs (.int 0)) : Cod cd cs.length (fun j => cs.getD j 0) V := by
  rcases h with ⟨rfl, rfl, rfl, h⟩ | ⟨rfl, rfl, rfl, c, hc, hw⟩
  · rw [n32 (by omega)] at hs
    exact Or.inl ⟨rfl, hs, fun j hj => ⟨by rw [hv j (by omega), low_at _ _ _ hj], by
      have e : cs.getD j 0 = cs[j] := by simp [List.getD_eq_getElem?_getD, hj]
      show ¬ 255 < cs.getD j 0
      rw [e]; exact h _ (List.getElem_mem _)⟩⟩
  · rw [n32 (by omega)] at hs
    obtain ⟨j, hj, rfl⟩ := List.getElem_of_mem hc
    exact Or.inr ⟨rfl, hs, fun j hj => ⟨by rw [hv _ (by omega), wide_lo _ _ _ hj], by rw [hv _ (by omega), wide_hi _ _ _ hj]⟩, j, hj, by
      have e : cs.getD j 0 = cs[j] := by simp [List.getD_eq_getElem?_getD, hj]
      show 255 < cs.getD j 0
      rw [e]; exact hw⟩
/-- an object of exactly java/lang/String, its two fields found: as the laws ask it -/
theorem strObj {Z U : State} {a0 : Array Value} {kI : Nat} (wi : (Jvm.Cond.instantiable ST kI).before a0 Z = true) (al : Z.vm.Alike U.vm) {x : Addr} {v0 c0 : Value} (E : RoadKit.Exa Z U.heap x ST) (V : RoadKit.Fld Z U.heap x ST "value" "[B" v0) (C : RoadKit.Fld Z U.heap x ST "coder" "B" c0) :
    ∃ (D : Cell) (fV fC : Field), Blank ST x D U ∧ Found ST "value" "[B" fV U ∧ Found ST "coder" "B" fC U ∧ D.slots[fV.slot]? = some v0 ∧ D.slots[fC.slot]? = some c0 ∧ RoadKit.slotOf Z ST "value" "[B" = fV.slot ∧ RoadKit.slotOf Z ST "coder" "B" = fC.slot := by
  obtain ⟨D, cfV, kV, iV, fV, hD, gV, stV, knV, obV, asV, slV⟩ := V
  obtain ⟨D', cfC, kC, iC, fC, hD', gC, stC, -, -, asC, slC⟩ := C
  cases hD.symm.trans hD'
  obtain ⟨D2, kD, e1, e2, e3, e4, e5⟩ := E
  cases hD.symm.trans e1
  obtain ⟨c2, k2, i1, i2, i3, -⟩ := Cond.instantiable_spec wi
  cases e2.symm.trans i1
  cases e3.symm.trans i2
  obtain ⟨kU, u1, u2⟩ := al.2.2 _ _ e3
  exact ⟨D, fV, fC, ⟨hD, ⟨knV, fun q hq => by rw [hq] at obV; cases obV⟩, by rw [al.findClass]; exact e2, kU, u1, by rw [u2]; exact i3, by rw [u2]; exact e5 i3⟩, ⟨SBG.found_only al ⟨cfV, kV, iV, gV⟩, stV⟩, ⟨SBG.found_only al ⟨cfC, kC, iC, gC⟩, stC⟩, slV, slC, by simp [RoadKit.slotOf, gV], by simp [RoadKit.slotOf, gC]⟩
theorem sta_is {Z U : State} (al : Z.vm.Alike U.vm) {C n d : String} {v : Value} (S : RoadKit.Sta Z U.heap C n d v) : StaticIs U C n d v := by
  obtain ⟨cfS, iS, kS, fS, st, cS, t1, t2, t3, t4, t5, t6, t7⟩ := S
  exact StaticIs.there (s := { Z with heap := U.heap }) ⟨cfS, iS, kS, fS, st, cS, t1, t2, t3, t4, t5, (fun q => by rw [q] at t6; cases t6), t7⟩ al rfl
end StrChars.Road
namespace StrChars
open Jvm Sem ClassFile Op Lib Jvm.Stand Jvm.Free.XT Jvm.Free.ALB Jvm.Free.JM Jvm.Free
open Jvm.Lib.Cold (StaticIs)
/-- what place i of a byte[]'s cell holds -/
def yv (A : Cell) (i : Nat) : Int32 := match A.slots[i]? with | some (.int x) => x | _ => 0
theorem yv_get {a : Addr} {A : Cell} {U : State} (h : XT.Arr .byte a A U) (ht : Typed .byte A) {i : Nat} (hi : i < A.slots.size) : A.slots[i]? = some (.int (yv A i)) := by
  have e := Array.getElem?_eq_getElem hi
  have f := ht i _ e
  unfold yv; rw [e]
  generalize A.slots[i] = v at f
  cases v <;> simp [fits] at f ⊢
/-- the two arrays are equal, place for place -/
def EqC (A B : Cell) : Prop := A.slots.size = B.slots.size ∧ ∀ i, i < A.slots.size → yv A i = yv B i
/-- a boolean that says whether p -/
def Says01 (q : Prop) (r : Option Value) (s u : State) : Prop := ∃ v : Int32, r = some (.int v) ∧ u.heap = s.heap ∧ ((v = 1 ∧ q) ∨ (v = 0 ∧ ¬ q))
theorem Says01.mv {q : Prop} : ∀ r (U U' V V' : State), U'.heap = U.heap → V.vm.Alike V'.vm → V'.heap = V.heap → Says01 q r U V → Says01 q r U' V' :=
  fun r U U' V V' h1 _ h2 ⟨v, a, b, c⟩ => ⟨v, a, by rw [h1, h2]; exact b, c⟩
namespace LEq
def yN : MethodName := ⟨"java/lang/StringLatin1", "equals", "([B[B)Z"⟩
abbrev yB : ByteArray := jdk_43_method_13_code
theorem d0 : decode yB 0 = .ok (.aload_n 0, 1) := by decide +kernel
theorem d1 : decode yB 1 = .ok (.arraylength, 1) := by decide +kernel
theorem d2 : decode yB 2 = .ok (.aload_n 1, 1) := by decide +kernel
theorem d3 : decode yB 3 = .ok (.arraylength, 1) := by decide +kernel
theorem d4 : decode yB 4 = .ok (.if_icmp (.ne) 30, 3) := by decide +kernel
theorem d7 : decode yB 7 = .ok (.iconst 0, 1) := by decide +kernel
theorem d8 : decode yB 8 = .ok (.istore_n 2, 1) := by decide +kernel
theorem d9 : decode yB 9 = .ok (.iload_n 2, 1) := by decide +kernel
theorem d10 : decode yB 10 = .ok (.aload_n 0, 1) := by decide +kernel
theorem d11 : decode yB 11 = .ok (.arraylength, 1) := by decide +kernel
theorem d12 : decode yB 12 = .ok (.if_icmp (.ge) 20, 3) := by decide +kernel
theorem d15 : decode yB 15 = .ok (.aload_n 0, 1) := by decide +kernel
theorem d16 : decode yB 16 = .ok (.iload_n 2, 1) := by decide +kernel
theorem d17 : decode yB 17 = .ok (.baload, 1) := by decide +kernel
theorem d18 : decode yB 18 = .ok (.aload_n 1, 1) := by decide +kernel
theorem d19 : decode yB 19 = .ok (.iload_n 2, 1) := by decide +kernel
theorem d20 : decode yB 20 = .ok (.baload, 1) := by decide +kernel
theorem d21 : decode yB 21 = .ok (.if_icmp (.eq) 5, 3) := by decide +kernel
theorem d24 : decode yB 24 = .ok (.iconst 0, 1) := by decide +kernel
theorem d25 : decode yB 25 = .ok (.ireturn, 1) := by decide +kernel
theorem d26 : decode yB 26 = .ok (.iinc 2 1, 3) := by decide +kernel
theorem d29 : decode yB 29 = .ok (.goto (-20), 3) := by decide +kernel
theorem d32 : decode yB 32 = .ok (.iconst 1, 1) := by decide +kernel
theorem d33 : decode yB 33 = .ok (.ireturn, 1) := by decide +kernel
theorem d34 : decode yB 34 = .ok (.iconst 0, 1) := by decide +kernel
theorem d35 : decode yB 35 = .ok (.ireturn, 1) := by decide +kernel
def site : List Cond := []
def tab : Cond := tabOf yN yB 3 (some .boolean) site
def P (a : Addr) (A : Cell) (b : Addr) (B : Cell) (args : Array Value) (s : State) : Prop := args = #[.ref a, .ref b] ∧ XT.Arr .byte a A s ∧ Typed .byte A ∧ XT.Arr .byte b B s ∧ Typed .byte B
/-- whether two byte[] are equal, place for place -/
theorem law (l : Launch) (a : Addr) (A : Cell) (b : Addr) (B : Cell) : Law l yN 2 2 0 0 yB 3 (some .boolean) site (P a A b B) (Says01 (EqC A B)) [] 0 0 := by
  refine Law.of_walk (plainFor_of_name (by decide +kernel)) (by decide +kernel) (by decide +kernel) (by decide) (fun _ _ h => by rw [h.1]; rfl) (fun _ U U' hal hh h => ⟨h.1, h.2.1.mv hal hh, h.2.2.1, h.2.2.2.1.mv hal hh, h.2.2.2.2⟩) (fun r U U' V V' h1 hal h2 h => Says01.mv r U U' V V' h1 hal h2 h) ?_
  intro p e s m args below meth c s₁ X0 hexec hbytes hml hret hlk hnm hown hh0 W hP
  obtain ⟨rfl, hA, tA, hB, tB⟩ := hP
  have a31 := hA.2.2.2
  have b31 := hB.2.2.2
  have hA0 := hA.mv X0.warmed.alike hh0
  have hB0 := hB.mv X0.warmed.alike hh0
  have c1 : Steps p.tables e below (s₁.setTop (entryFrame m #[.ref a, .ref b] 3)) (s₁.setTop (mkF m 0 #[.val (.ref a), .val (.ref b), .unset] [])) := entry rfl
  have c2 : Steps p.tables e below (s₁.setTop (entryFrame m #[.ref a, .ref b] 3)) (s₁.setTop (mkF m 4 #[.val (.ref a), .val (.ref b), .unset] [.int (Int32.ofNat B.slots.size), .int (Int32.ofNat A.slots.size)])) := c1.trans (by
    refine XS.aloadN X0.here hexec rfl (hb hbytes d0) rfl rfl ?_
    refine X0.alen hexec hA0 rfl rfl (hb hbytes d1) ?_
    refine XS.aloadN X0.here hexec rfl (hb hbytes d2) rfl rfl ?_
    refine X0.alen hexec hB0 rfl rfl (hb hbytes d3) ?_
    exact Steps.refl _)
  by_cases hs : A.slots.size = B.slots.size
  · have c3 : Steps p.tables e below (s₁.setTop (entryFrame m #[.ref a, .ref b] 3)) (s₁.setTop (mkF m 9 #[.val (.ref a), .val (.ref b), .val (.int 0)] [])) := c2.trans (by
      refine XS.icmpNo X0.here hexec rfl (hb hbytes d4) rfl (ii_ne_f (by rw [hs])) ?_
      refine iconstV X0.here hexec rfl 0 (hb hbytes d7) (by decide) ?_
      refine XS.istoreN X0.here hexec rfl (hb hbytes d8) rfl rfl ?_
      exact Steps.refl _)
    have loop : ∀ (r i : Nat), i + r = A.slots.size → (∀ j, j < i → yv A j = yv B j) → Steps p.tables e below (s₁.setTop (entryFrame m #[.ref a, .ref b] 3)) (s₁.setTop (mkF m 9 #[.val (.ref a), .val (.ref b), .val (.int (Int32.ofNat i))] [])) → ∃ (pc : Nat) (Ls : Array Slot) (v : Int32), (pc = 25 ∨ pc = 33) ∧ ((v = 1 ∧ EqC A B) ∨ (v = 0 ∧ ¬ EqC A B)) ∧ Steps p.tables e below (s₁.setTop (entryFrame m #[.ref a, .ref b] 3)) (s₁.setTop (mkF m pc Ls [.int v])) := by
      intro r
      induction r with
      | zero =>
        intro i hi he cl
        exact ⟨33, _, 1, Or.inr rfl, Or.inl ⟨rfl, hs, fun j hj => he j (by omega)⟩, cl.trans (by
          refine XS.iloadN X0.here hexec rfl (hb hbytes d9) rfl ?_
          refine XS.aloadN X0.here hexec rfl (hb hbytes d10) rfl rfl ?_
          refine X0.alen hexec hA0 rfl rfl (hb hbytes d11) ?_
          refine XS.icmpYes X0.here hexec rfl (pc0 := 12) rfl (hb hbytes d12) rfl (ii_ge_t (nlt32 (by omega) (by omega))) (by decide) rfl ?_
          refine iconstV X0.here hexec rfl 1 (hb hbytes d32) (by decide) ?_
          exact Steps.refl _)⟩
      | succ r ih =>
        intro i hi he cl
        have c4 : Steps p.tables e below (s₁.setTop (entryFrame m #[.ref a, .ref b] 3)) (s₁.setTop (mkF m 21 #[.val (.ref a), .val (.ref b), .val (.int (Int32.ofNat i))] [.int (yv B i), .int (yv A i)])) := cl.trans (by
          refine XS.iloadN X0.here hexec rfl (hb hbytes d9) rfl ?_
          refine XS.aloadN X0.here hexec rfl (hb hbytes d10) rfl rfl ?_
          refine X0.alen hexec hA0 rfl rfl (hb hbytes d11) ?_
          refine XS.icmpNo X0.here hexec rfl (hb hbytes d12) rfl (ii_ge_f (lt32 (by omega) (by omega))) ?_
          refine XS.aloadN X0.here hexec rfl (hb hbytes d15) rfl rfl ?_
          refine XS.iloadN X0.here hexec rfl (hb hbytes d16) rfl ?_
          refine X0.aget hexec hA0 rfl (yv_get hA tA (i := i) (by omega)) rfl rfl (hb hbytes d17) ?_
          refine XS.aloadN X0.here hexec rfl (hb hbytes d18) rfl rfl ?_
          refine XS.iloadN X0.here hexec rfl (hb hbytes d19) rfl ?_
          refine X0.aget hexec hB0 rfl (yv_get hB tB (i := i) (by omega)) rfl rfl (hb hbytes d20) ?_
          exact Steps.refl _)
        by_cases hv : yv A i = yv B i
        · have c5 : Steps p.tables e below (s₁.setTop (entryFrame m #[.ref a, .ref b] 3)) (s₁.setTop (mkF m 9 #[.val (.ref a), .val (.ref b), .val (.int (Int32.ofNat i + 1))] [])) := c4.trans (by
            refine XS.icmpYes X0.here hexec rfl (pc0 := 21) rfl (hb hbytes d21) rfl (ii_eq_t hv) (by decide) rfl ?_
            refine iincV X0.here hexec rfl 1 (hb hbytes d26) (by decide) rfl rfl ?_
            refine XS.goto X0.here hexec rfl (pc0 := 29) rfl (hb hbytes d29) (by decide) rfl ?_
            exact Steps.refl _)
          rw [succ32] at c5
          exact ih (i + 1) (by omega) (fun j hj => by
            by_cases e : j = i
            · rw [e]; exact hv
            · exact he j (by omega)) c5
        · exact ⟨25, _, 0, Or.inl rfl, Or.inr ⟨rfl, fun q => hv (q.2 i (by omega))⟩, c4.trans (by
            refine XS.icmpNo X0.here hexec rfl (hb hbytes d21) rfl (ii_eq_f hv) ?_
            refine iconstV X0.here hexec rfl 0 (hb hbytes d24) (by decide) ?_
            exact Steps.refl _)⟩
    obtain ⟨pc, Ls, v, hpc, hv, cz⟩ := loop A.slots.size 0 (by omega) (fun j hj => absurd hj (Nat.not_lt_zero j)) c3
    have nv : narrow .boolean (.int v) = .int v := by rcases hv with ⟨rfl, -⟩ | ⟨rfl, -⟩ <;> rfl
    rcases hpc with rfl | rfl
    · exact ⟨s₁, some (.int v), _, _, _, X0, rfl, rfl, rfl, (fun h => by cases h), ⟨v, rfl, hh0, hv⟩, fun fs hl => cz.trans (X0.ireturnOut hexec hret nv (Or.inr (Or.inl rfl)) (hb hbytes d25) hl)⟩
    · exact ⟨s₁, some (.int v), _, _, _, X0, rfl, rfl, rfl, (fun h => by cases h), ⟨v, rfl, hh0, hv⟩, fun fs hl => cz.trans (X0.ireturnOut hexec hret nv (Or.inr (Or.inl rfl)) (hb hbytes d33) hl)⟩
  · have c3 : Steps p.tables e below (s₁.setTop (entryFrame m #[.ref a, .ref b] 3)) (s₁.setTop (mkF m 35 #[.val (.ref a), .val (.ref b), .unset] [.int 0])) := c2.trans (by
      refine XS.icmpYes X0.here hexec rfl (pc0 := 4) rfl (hb hbytes d4) rfl (ii_ne_t (ne32 a31 b31 hs)) (by decide) rfl ?_
      refine iconstV X0.here hexec rfl 0 (hb hbytes d34) (by decide) ?_
      exact Steps.refl _)
    exact ⟨s₁, some (.int 0), _, _, _, X0, rfl, rfl, rfl, (fun h => by cases h), ⟨0, rfl, hh0, Or.inr ⟨rfl, fun q => hs q.1⟩⟩, fun fs hl => c3.trans (X0.ireturnOut hexec hret rfl (Or.inr (Or.inl rfl)) (hb hbytes d35) hl)⟩
end LEq
theorem Cod.ty {cd : Int32} {n : Nat} {f : Nat → Int32} {V : Cell} (h : Cod cd n f V) : Typed .byte V := fun i v hv => by
  have hi : i < V.slots.size := (Array.getElem?_eq_some_iff.mp hv).1
  rcases h with ⟨-, k1, k2⟩ | ⟨-, k1, k2, -⟩
  · rw [(k2 i (by omega)).1] at hv; cases hv; exact fits_lo8 _
  · rcases Nat.mod_two_eq_zero_or_one i with e | e
    · obtain ⟨j, rfl⟩ : ∃ j, i = 2 * j := ⟨i / 2, by omega⟩
      rw [(k2 j (by omega)).1] at hv; cases hv; exact fits_lo8 _
    · obtain ⟨j, rfl⟩ : ∃ j, i = 2 * j + 1 := ⟨i / 2, by omega⟩
      rw [(k2 j (by omega)).2] at hv; cases hv; exact fits_lo8 _
/-- the same text -/
def SameT (n : Nat) (f : Nat → Int32) (k : Nat) (g : Nat → Int32) : Prop := n = k ∧ ∀ j, j < n → f j = g j
theorem lo8_inj {x y : Int32} (h0 : ¬ x < 0) (h1 : ¬ 255 < x) (k0 : ¬ y < 0) (k1 : ¬ 255 < y) (h : lo8 x = lo8 y) : x = y := by
  rw [← lo8_mask h0 h1, ← lo8_mask k0 k1, h]
/-- arrays coded by one coder are equal just where the texts are -/
theorem Cod.eqv {cd : Int32} {n k : Nat} {f g : Nat → Int32} {V V' : Cell} (h : Cod cd n f V) (h' : Cod cd k g V') (hf : ∀ j, j < n → ¬ f j < 0 ∧ ¬ 65535 < f j) (hg : ∀ j, j < k → ¬ g j < 0 ∧ ¬ 65535 < g j) : EqC V V' ↔ SameT n f k g := by
  have yvv : ∀ {W : Cell} {i : Nat} {x : Int32}, W.slots[i]? = some (.int x) → yv W i = x := fun q => by unfold yv; rw [q]
  rcases h with ⟨rfl, k1, k2⟩ | ⟨rfl, k1, k2, -⟩
  · rcases h' with ⟨-, m1, m2⟩ | ⟨e, -⟩
    · constructor
      · rintro ⟨e1, e2⟩
        refine ⟨by omega, fun j hj => ?_⟩
        have q := e2 j (by omega)
        rw [yvv (k2 j hj).1, yvv (m2 j (by omega)).1] at q
        exact lo8_inj (hf j hj).1 (k2 j hj).2 (hg j (by omega)).1 (m2 j (by omega)).2 q
      · rintro ⟨rfl, e2⟩
        refine ⟨by omega, fun j hj => ?_⟩
        rw [yvv (k2 j (by omega)).1, yvv (m2 j (by omega)).1, e2 j (by omega)]
    · exact absurd e (by decide)
  · rcases h' with ⟨e, -⟩ | ⟨-, m1, m2, -⟩
    · exact absurd e (by decide)
    · constructor
      · rintro ⟨e1, e2⟩
        refine ⟨by omega, fun j hj => ?_⟩
        have q1 := e2 (2 * j) (by omega)
        have q2 := e2 (2 * j + 1) (by omega)
        rw [yvv (k2 j hj).1, yvv (m2 j (by omega)).1] at q1
        rw [yvv (k2 j hj).2, yvv (m2 j (by omega)).2] at q2
        rw [← pair_says (hf j hj).1 (hf j hj).2, ← pair_says (hg j (by omega)).1 (hg j (by omega)).2, q1, q2]
      · rintro ⟨rfl, e2⟩
        refine ⟨by omega, fun i hi => ?_⟩
        rcases Nat.mod_two_eq_zero_or_one i with e | e
        · obtain ⟨j, rfl⟩ : ∃ j, i = 2 * j := ⟨i / 2, by omega⟩
          rw [yvv (k2 j (by omega)).1, yvv (m2 j (by omega)).1, e2 j (by omega)]
        · obtain ⟨j, rfl⟩ : ∃ j, i = 2 * j + 1 := ⟨i / 2, by omega⟩
          rw [yvv (k2 j (by omega)).2, yvv (m2 j (by omega)).2, e2 j (by omega)]
/-- two codings differ: so do the texts -/
theorem Cod.dif {cd cd' : Int32} {n k : Nat} {f g : Nat → Int32} {V V' : Cell} (h : Cod cd n f V) (h' : Cod cd' k g V') (hne : ¬ cd = cd') : ¬ SameT n f k g := by
  rintro ⟨rfl, e⟩
  rcases h with ⟨rfl, -, k2⟩ | ⟨rfl, -, -, j, hj, hw⟩
  · rcases h' with ⟨rfl, -⟩ | ⟨-, -, -, j, hj, hw⟩
    · exact hne rfl
    · exact (k2 j hj).2 (by rw [e j hj]; exact hw)
  · rcases h' with ⟨-, -, m2⟩ | ⟨rfl, -⟩
    · exact (m2 j hj).2 (by rw [← e j hj]; exact hw)
    · exact hne rfl
/-- an object of exactly C is an instance of C -/
theorem cinst {p : Program} {l : Launch} {e : Env} {R : Room} {s : State} {m : MethodId} {args : Array Value} {below : List Frame} {meth : Method} {c : Code} {T : State} {locs : List Loc} {cells slots : Nat} (X : Stand p l e R s m args below meth c T locs cells slots) (hexec : p.tables.exec = Jvm.exec) {own C : String} {index : Nat} (hown : s.vm.findClass own = some m.cls) (hlink : (Cond.classLink own index C).before args s = true) {a : Addr} (hE : Exact C a T)
    {g : JFrame} (hg : g.method = m) {rest : List Value} (hstack : g.stack = .ref a :: rest) (hdg : decode c.code g.pc = .ok (.instanceof index, 3)) :
    ∃ T', Stand p l e R s m args below meth c T' locs cells slots ∧ T'.heap = T.heap ∧ ∀ target, Steps p.tables e below (T'.setTop { g with pc := g.pc + 3, stack := .int 1 :: rest }) target → Steps p.tables e below (T.setTop g) target := by
  obtain ⟨cB, h1, D, h2, h3, h4⟩ := hE
  have h1' : s.vm.findClass C = some cB := by rw [← X.warmed.alike.findClass]; exact h1
  obtain ⟨vm', X', st⟩ := X.instanceofYes hexec hown hlink h2 h4 h1' (by rw [h3]; exact Jvm.Free.SB.assignable_self _ _) hg hstack hdg
  exact ⟨_, X', rfl, st⟩
theorem cself {p : Program} {l : Launch} {e : Env} {R : Room} {s : State} {m : MethodId} {args : Array Value} {below : List Frame} {meth : Method} {c : Code} {T : State} {locs : List Loc} {cells slots : Nat} (X : Stand p l e R s m args below meth c T locs cells slots) (hexec : p.tables.exec = Jvm.exec) {own C : String} {index : Nat} (hown : s.vm.findClass own = some m.cls) (hlink : (Cond.classLink own index C).before args s = true) {a : Addr} (hE : Exact C a T)
    {g : JFrame} (hg : g.method = m) {rest : List Value} (hstack : g.stack = .ref a :: rest) (hdg : decode c.code g.pc = .ok (.checkcast index, 3)) :
    ∃ T', Stand p l e R s m args below meth c T' locs cells slots ∧ T'.heap = T.heap ∧ ∀ target, Steps p.tables e below (T'.setTop { g with pc := g.pc + 3, stack := .ref a :: rest }) target → Steps p.tables e below (T.setTop g) target := by
  obtain ⟨cB, h1, D, h2, h3, h4⟩ := hE
  have h1' : s.vm.findClass C = some cB := by rw [← X.warmed.alike.findClass]; exact h1
  obtain ⟨vm', X', st⟩ := X.checkcastYes hexec hown hlink h2 h4 h1' (by rw [h3]; exact Jvm.Free.SB.assignable_self _ _) hg hstack hdg
  exact ⟨_, X', rfl, fun t h => st t (by rw [← hstack] at h; exact h)⟩
namespace SEq
def yN : MethodName := ⟨"java/lang/String", "equals", "(Ljava/lang/Object;)Z"⟩
abbrev yB : ByteArray := jdk_42_method_66_code
theorem d0 : decode yB 0 = .ok (.aload_n 0, 1) := by decide +kernel
theorem d1 : decode yB 1 = .ok (.aload_n 1, 1) := by decide +kernel
theorem d2 : decode yB 2 = .ok (.if_acmp (.ne) 5, 3) := by decide +kernel
theorem d5 : decode yB 5 = .ok (.iconst 1, 1) := by decide +kernel
theorem d6 : decode yB 6 = .ok (.ireturn, 1) := by decide +kernel
theorem d7 : decode yB 7 = .ok (.aload_n 1, 1) := by decide +kernel
theorem d8 : decode yB 8 = .ok (.instanceof 10, 3) := by decide +kernel
theorem d11 : decode yB 11 = .ok (.ifCond (.eq) 43, 3) := by decide +kernel
theorem d14 : decode yB 14 = .ok (.aload_n 1, 1) := by decide +kernel
theorem d15 : decode yB 15 = .ok (.checkcast 10, 3) := by decide +kernel
theorem d18 : decode yB 18 = .ok (.astore_n 2, 1) := by decide +kernel
theorem d19 : decode yB 19 = .ok (.getstatic 38, 3) := by decide +kernel
theorem d22 : decode yB 22 = .ok (.ifCond (.eq) 14, 3) := by decide +kernel
theorem d25 : decode yB 25 = .ok (.aload_n 0, 1) := by decide +kernel
theorem d26 : decode yB 26 = .ok (.getfield 15, 3) := by decide +kernel
theorem d29 : decode yB 29 = .ok (.aload_n 2, 1) := by decide +kernel
theorem d30 : decode yB 30 = .ok (.getfield 15, 3) := by decide +kernel
theorem d33 : decode yB 33 = .ok (.if_icmp (.ne) 21, 3) := by decide +kernel
theorem d36 : decode yB 36 = .ok (.aload_n 0, 1) := by decide +kernel
theorem d37 : decode yB 37 = .ok (.getfield 9, 3) := by decide +kernel
theorem d40 : decode yB 40 = .ok (.aload_n 2, 1) := by decide +kernel
theorem d41 : decode yB 41 = .ok (.getfield 9, 3) := by decide +kernel
theorem d44 : decode yB 44 = .ok (.invokestatic 541, 3) := by decide +kernel
theorem d47 : decode yB 47 = .ok (.ifCond (.eq) 7, 3) := by decide +kernel
theorem d50 : decode yB 50 = .ok (.iconst 1, 1) := by decide +kernel
theorem d51 : decode yB 51 = .ok (.goto 4, 3) := by decide +kernel
theorem d54 : decode yB 54 = .ok (.iconst 0, 1) := by decide +kernel
theorem d55 : decode yB 55 = .ok (.ireturn, 1) := by decide +kernel
def site : List Cond := [.classLink "java/lang/String" 10 "java/lang/String", .fieldLink "java/lang/String" 38 "java/lang/String" "COMPACT_STRINGS" "Z", .fieldLink "java/lang/String" 15 "java/lang/String" "coder" "B", .fieldLink "java/lang/String" 9 "java/lang/String" "value" "[B", LEq.tab] ++ staticW "java/lang/String" 541 LEq.yN
def tab : Cond := tabOf yN yB 3 (some .boolean) site
def P (x t : Addr) (V : Cell) (cd : Int32) (n : Nat) (f : Nat → Int32) (y t' : Addr) (V' : Cell) (cd' : Int32) (k : Nat) (g : Nat → Int32) (z : Int32) (args : Array Value) (s : State) : Prop := args = #[.ref x, .ref y] ∧ Txt x t V cd n f s ∧ Txt y t' V' cd' k g s ∧ StaticIs s "java/lang/String" "COMPACT_STRINGS" "Z" (.int z) ∧ ¬ z = 0
/-- equals(Object) of two Strings: whether the texts are the same -/
theorem law (l : Launch) (x t : Addr) (V : Cell) (cd : Int32) (n : Nat) (f : Nat → Int32) (y t' : Addr) (V' : Cell) (cd' : Int32) (k : Nat) (g : Nat → Int32) (z : Int32) : Law l yN 2 1 1 14 yB 3 (some .boolean) site (P x t V cd n f y t' V' cd' k g z) (Says01 (SameT n f k g)) [] 0 0 := by
  refine Law.of_walk (plainFor_of_name (by decide +kernel)) (by decide +kernel) (by decide +kernel) (by decide) (fun _ _ h => by rw [h.1]; rfl) (fun _ U U' hal hh h => ⟨h.1, h.2.1.mv hal hh, h.2.2.1.mv hal hh, h.2.2.2.1.there hal hh, h.2.2.2.2⟩) (fun r U U' V V' h1 hal h2 h => Says01.mv r U U' V V' h1 hal h2 h) ?_
  intro p e s m args below meth c s₁ X0 hexec hbytes hml hret hlk hnm hown hh0 W hP
  obtain ⟨rfl, hx, hy, s1, hz⟩ := hP
  have c1 : Steps p.tables e below (s₁.setTop (entryFrame m #[.ref x, .ref y] 3)) (s₁.setTop (mkF m 2 #[.val (.ref x), .val (.ref y), .unset] [.ref y, .ref x])) := Steps.trans (entry rfl) (by
    show Steps p.tables e below (s₁.setTop (mkF m 0 #[.val (.ref x), .val (.ref y), .unset] [])) _
    refine XS.aloadN X0.here hexec rfl (hb hbytes d0) rfl rfl ?_
    refine XS.aloadN X0.here hexec rfl (hb hbytes d1) rfl rfl ?_
    exact Steps.refl _)
  by_cases hxy : x = y
  · have c2 : Steps p.tables e below (s₁.setTop (entryFrame m #[.ref x, .ref y] 3)) (s₁.setTop (mkF m 6 #[.val (.ref x), .val (.ref y), .unset] [.int 1])) := c1.trans (by
      refine acmpNo X0.here hexec rfl (hb hbytes d2) rfl rfl rfl (by simp [acmp, hxy]) ?_
      refine iconstV X0.here hexec rfl 1 (hb hbytes d5) (by decide) ?_
      exact Steps.refl _)
    subst hxy
    have ec : cd = cd' := by
      obtain ⟨D, fd, a1, a2, a3⟩ := hx.2.2.1
      obtain ⟨D', fd', b1, b2, b3⟩ := hy.2.2.1
      cases a1.symm.trans b1
      obtain ⟨q1, q2, q3, q4⟩ := a2.1
      obtain ⟨r1, r2, r3, r4⟩ := b2.1
      cases q4.symm.trans r4
      cases a3.symm.trans b3; rfl
    have et : t = t' := by
      obtain ⟨D, fd, a1, a2, a3⟩ := hx.2.1
      obtain ⟨D', fd', b1, b2, b3⟩ := hy.2.1
      cases a1.symm.trans b1
      obtain ⟨q1, q2, q3, q4⟩ := a2.1
      obtain ⟨r1, r2, r3, r4⟩ := b2.1
      cases q4.symm.trans r4
      cases a3.symm.trans b3; rfl
    subst ec et
    have ev : V = V' := by cases hx.2.2.2.1.1.symm.trans hy.2.2.2.1.1; rfl
    subst ev
    have hs : SameT n f k g := (Cod.eqv hx.2.2.2.2.1 hy.2.2.2.2.1 hx.2.2.2.2.2 hy.2.2.2.2.2).mp ⟨rfl, fun _ _ => rfl⟩
    exact ⟨s₁, some (.int 1), _, _, _, X0, rfl, rfl, rfl, (fun h => by cases h), ⟨1, rfl, hh0, Or.inl ⟨rfl, hs⟩⟩, fun fs hl => c2.trans (X0.ireturnOut hexec hret rfl (Or.inr (Or.inl rfl)) (hb hbytes d6) hl)⟩
  · have c2 : Steps p.tables e below (s₁.setTop (entryFrame m #[.ref x, .ref y] 3)) (s₁.setTop (mkF m 8 #[.val (.ref x), .val (.ref y), .unset] [.ref y])) := c1.trans (by
      refine acmpYes X0.here hexec rfl (pc0 := 2) rfl (hb hbytes d2) rfl rfl rfl (by simp [acmp, hxy]) (by decide) rfl ?_
      refine XS.aloadN X0.here hexec rfl (hb hbytes d7) rfl rfl ?_
      exact Steps.refl _)
    obtain ⟨T3, X3, q3, st3⟩ := cinst X0 hexec hown (wk W (.classLink "java/lang/String" 10 "java/lang/String")) (hy.mv X0.warmed.alike hh0).1 (g := (mkF m 8 #[.val (.ref x), .val (.ref y), .unset] [.ref y])) rfl (rest := []) rfl (hb hbytes d8)
    have hh3 := q3.trans hh0
    have c4 : Steps p.tables e below (s₁.setTop (entryFrame m #[.ref x, .ref y] 3)) (T3.setTop (mkF m 15 #[.val (.ref x), .val (.ref y), .unset] [.ref y])) := (c2.trans (st3 _ (Steps.refl _))).trans (by
      refine XS.ifNo X3.here hexec rfl (hb hbytes d11) rfl (i0_eq_f (by decide)) ?_
      refine XS.aloadN X3.here hexec rfl (hb hbytes d14) rfl rfl ?_
      exact Steps.refl _)
    obtain ⟨T5, X5, q5, st5⟩ := cself X3 hexec hown (wk W (.classLink "java/lang/String" 10 "java/lang/String")) (hy.mv X3.warmed.alike hh3).1 (g := (mkF m 15 #[.val (.ref x), .val (.ref y), .unset] [.ref y])) rfl (rest := []) rfl (hb hbytes d15)
    have hh5 := q5.trans hh3
    have c6 : Steps p.tables e below (s₁.setTop (entryFrame m #[.ref x, .ref y] 3)) (T5.setTop (mkF m 19 #[.val (.ref x), .val (.ref y), .val (.ref y)] [])) := (c4.trans (st5 _ (Steps.refl _))).trans (by
      refine XS.astoreN X5.here hexec rfl (hb hbytes d18) rfl rfl rfl ?_
      exact Steps.refl _)
    obtain ⟨T7, X7, q7, st7⟩ := X5.sget hexec hown (wk W (.fieldLink "java/lang/String" 38 "java/lang/String" "COMPACT_STRINGS" "Z")) s1 (fun _ _ h => by rw [hh5]; exact h) (g := (mkF m 19 #[.val (.ref x), .val (.ref y), .val (.ref y)] [])) rfl (hb hbytes d19)
    have hh7 := q7.trans hh5
    have c8 : Steps p.tables e below (s₁.setTop (entryFrame m #[.ref x, .ref y] 3)) (T7.setTop (mkF m 26 #[.val (.ref x), .val (.ref y), .val (.ref y)] [.ref x])) := (c6.trans (st7 _ (Steps.refl _))).trans (by
      refine XS.ifNo X7.here hexec rfl (hb hbytes d22) rfl (i0_eq_f hz) ?_
      refine XS.aloadN X7.here hexec rfl (hb hbytes d25) rfl rfl ?_
      exact Steps.refl _)
    obtain ⟨T9, X9, q9, st9⟩ := X7.hget hexec hown (wk W (.fieldLink "java/lang/String" 15 "java/lang/String" "coder" "B")) (hx.mv X7.warmed.alike hh7).2.2.1 (g := (mkF m 26 #[.val (.ref x), .val (.ref y), .val (.ref y)] [.ref x])) rfl (rest := []) rfl (hb hbytes d26)
    have hh9 := q9.trans hh7
    have c10 : Steps p.tables e below (s₁.setTop (entryFrame m #[.ref x, .ref y] 3)) (T9.setTop (mkF m 30 #[.val (.ref x), .val (.ref y), .val (.ref y)] [.ref y, .int cd])) := (c8.trans (st9 _ (Steps.refl _))).trans (by
      refine XS.aloadN X9.here hexec rfl (hb hbytes d29) rfl rfl ?_
      exact Steps.refl _)
    obtain ⟨T11, X11, q11, st11⟩ := X9.hget hexec hown (wk W (.fieldLink "java/lang/String" 15 "java/lang/String" "coder" "B")) (hy.mv X9.warmed.alike hh9).2.2.1 (g := (mkF m 30 #[.val (.ref x), .val (.ref y), .val (.ref y)] [.ref y, .int cd])) rfl (rest := [.int cd]) rfl (hb hbytes d30)
    have hh11 := q11.trans hh9
    have c12 : Steps p.tables e below (s₁.setTop (entryFrame m #[.ref x, .ref y] 3)) (T11.setTop (mkF m 33 #[.val (.ref x), .val (.ref y), .val (.ref y)] [.int cd', .int cd])) := c10.trans (st11 _ (Steps.refl _))
    by_cases hcd : cd = cd'
    · subst hcd
      have c13 : Steps p.tables e below (s₁.setTop (entryFrame m #[.ref x, .ref y] 3)) (T11.setTop (mkF m 37 #[.val (.ref x), .val (.ref y), .val (.ref y)] [.ref x])) := c12.trans (by
        refine XS.icmpNo X11.here hexec rfl (hb hbytes d33) rfl (ii_ne_f rfl) ?_
        refine XS.aloadN X11.here hexec rfl (hb hbytes d36) rfl rfl ?_
        exact Steps.refl _)
      obtain ⟨T14, X14, q14, st14⟩ := X11.hget hexec hown (wk W (.fieldLink "java/lang/String" 9 "java/lang/String" "value" "[B")) (hx.mv X11.warmed.alike hh11).2.1 (g := (mkF m 37 #[.val (.ref x), .val (.ref y), .val (.ref y)] [.ref x])) rfl (rest := []) rfl (hb hbytes d37)
      have hh14 := q14.trans hh11
      have c15 : Steps p.tables e below (s₁.setTop (entryFrame m #[.ref x, .ref y] 3)) (T14.setTop (mkF m 41 #[.val (.ref x), .val (.ref y), .val (.ref y)] [.ref y, .ref t])) := (c13.trans (st14 _ (Steps.refl _))).trans (by
        refine XS.aloadN X14.here hexec rfl (hb hbytes d40) rfl rfl ?_
        exact Steps.refl _)
      obtain ⟨T16, X16, q16, st16⟩ := X14.hget hexec hown (wk W (.fieldLink "java/lang/String" 9 "java/lang/String" "value" "[B")) (hy.mv X14.warmed.alike hh14).2.1 (g := (mkF m 41 #[.val (.ref x), .val (.ref y), .val (.ref y)] [.ref y, .ref t])) rfl (rest := [.ref t]) rfl (hb hbytes d41)
      have hh16 := q16.trans hh14
      have c17 : Steps p.tables e below (s₁.setTop (entryFrame m #[.ref x, .ref y] 3)) (T16.setTop (mkF m 44 #[.val (.ref x), .val (.ref y), .val (.ref y)] [.ref t', .ref t])) := c15.trans (st16 _ (Steps.refl _))
      obtain ⟨v18, T18, X18, E18, g18⟩ := X16.callS hexec (LEq.law l t V t' V') hown (wks W (staticW "java/lang/String" 541 LEq.yN)) (wk W LEq.tab) (W := 0) (Nat.le_of_ble_eq_true rfl) (Nat.le_of_ble_eq_true rfl) (Nat.le_refl _) (Nat.le_refl _) (g := (mkF m 44 #[.val (.ref x), .val (.ref y), .val (.ref y)] [.ref t', .ref t])) rfl (by rw [hml]; rfl) c17 (argsL := [.ref t, .ref t']) (rest := []) rfl rfl (by show 2 * 0 + 0 ≤ _; decide) (hb hbytes d44) (⟨rfl, hx.2.2.2.1.mv X16.warmed.alike hh16, hx.2.2.2.2.1.ty, hy.2.2.2.1.mv X16.warmed.alike hh16, hy.2.2.2.2.1.ty⟩)
      obtain ⟨v, rfl, q18, hv⟩ := E18
      have iff := Cod.eqv hx.2.2.2.2.1 hy.2.2.2.2.1 hx.2.2.2.2.2 hy.2.2.2.2.2
      rcases hv with ⟨rfl, he⟩ | ⟨rfl, he⟩
      · have c19 : Steps p.tables e below (s₁.setTop (entryFrame m #[.ref x, .ref y] 3)) (T18.setTop (mkF m 55 #[.val (.ref x), .val (.ref y), .val (.ref y)] [.int 1])) := Steps.trans g18 (by
          refine XS.ifNo X18.here hexec rfl (hb hbytes d47) rfl (i0_eq_f (by decide)) ?_
          refine iconstV X18.here hexec rfl 1 (hb hbytes d50) (by decide) ?_
          refine XS.goto X18.here hexec rfl (pc0 := 51) rfl (hb hbytes d51) (by decide) rfl ?_
          exact Steps.refl _)
        exact ⟨T18, some (.int 1), _, _, _, X18, rfl, rfl, rfl, (fun h => by cases h), ⟨1, rfl, q18.trans hh16, Or.inl ⟨rfl, iff.mp he⟩⟩, fun fs hl => c19.trans (X18.ireturnOut hexec hret rfl (Or.inr (Or.inl rfl)) (hb hbytes d55) hl)⟩
      · have c19 : Steps p.tables e below (s₁.setTop (entryFrame m #[.ref x, .ref y] 3)) (T18.setTop (mkF m 55 #[.val (.ref x), .val (.ref y), .val (.ref y)] [.int 0])) := Steps.trans g18 (by
          refine XS.ifYes X18.here hexec rfl (pc0 := 47) rfl (hb hbytes d47) rfl (i0_eq_t rfl) (by decide) rfl ?_
          refine iconstV X18.here hexec rfl 0 (hb hbytes d54) (by decide) ?_
          exact Steps.refl _)
        exact ⟨T18, some (.int 0), _, _, _, X18, rfl, rfl, rfl, (fun h => by cases h), ⟨0, rfl, q18.trans hh16, Or.inr ⟨rfl, fun q => he (iff.mpr q)⟩⟩, fun fs hl => c19.trans (X18.ireturnOut hexec hret rfl (Or.inr (Or.inl rfl)) (hb hbytes d55) hl)⟩
    · have c13 : Steps p.tables e below (s₁.setTop (entryFrame m #[.ref x, .ref y] 3)) (T11.setTop (mkF m 55 #[.val (.ref x), .val (.ref y), .val (.ref y)] [.int 0])) := c12.trans (by
        refine XS.icmpYes X11.here hexec rfl (pc0 := 33) rfl (hb hbytes d33) rfl (ii_ne_t hcd) (by decide) rfl ?_
        refine iconstV X11.here hexec rfl 0 (hb hbytes d54) (by decide) ?_
        exact Steps.refl _)
      exact ⟨T11, some (.int 0), _, _, _, X11, rfl, rfl, rfl, (fun h => by cases h), ⟨0, rfl, hh11, Or.inr ⟨rfl, Cod.dif hx.2.2.2.2.1 hy.2.2.2.2.1 hcd⟩⟩, fun fs hl => c13.trans (X11.ireturnOut hexec hret rfl (Or.inr (Or.inl rfl)) (hb hbytes d55) hl)⟩
theorem pays {l : Launch} {R : Room} {p : Program} {e : Env} {below : List Frame} {s : State} {sargs : Array Value} {len W : Nat} (x t : Addr) (V : Cell) (cd : Int32) (n : Nat) (f : Nat → Int32) (y t' : Addr) (V' : Cell) (cd' : Int32) (k : Nat) (g : Nat → Int32) (z : Int32) (htab : tab.before sargs s = true) (hfr : 2 ≤ R.frames) (hlo : W + 28 ≤ R.locals) :
    Back l R p e below s sargs yN len W (fun A₁ a₁ => A₁.cells + 0 ≤ R.cells ∧ A₁.slots + 0 ≤ R.slots ∧ P x t V cd n f y t' V' cd' k g z a₁ A₁.U) (fun A₁ _ v₁ B₁ => Says01 (SameT n f k g) v₁ A₁.U B₁.U ∧ B₁.locs = A₁.locs ++ [] ∧ B₁.cells = A₁.cells + 0 ∧ B₁.slots = A₁.slots + 0) :=
  (law l x t V cd n f y t' V' cd' k g z).pays htab hfr (by omega)
end SEq
end StrChars
namespace StrChars.Road
open Jvm Sem ClassFile Op Lib Jvm.Stand Jvm.Free Jvm.Free.XT
open Jvm.Lib.Cold (StaticIs)
/-- the words of String.equals(Object) -/
abbrev wordsEq : List Jvm.Cond := [.code SEq.yN SEq.yB 3 (some .boolean), .initialized ST, .classLink ST 10 ST, .fieldLink ST 38 ST "COMPACT_STRINGS" "Z", .fieldLink ST 15 ST "coder" "B", .fieldLink ST 9 ST "value" "[B", .methodLink ST 541 LEq.yN, .static LEq.yN, .code LEq.yN LEq.yB 3 (some .boolean), .initialized "java/lang/StringLatin1"]
theorem tabEq_of {a : Array Value} {s : State} (h : ∀ w ∈ wordsEq, w.before a s = true) : SEq.tab.before a s = true := by
  have hl : LEq.tab.before a s = true := unparts (wk h (.code LEq.yN LEq.yB 3 (some .boolean))) (wks h (.initialized LEq.yN.cls :: LEq.site))
  have q := consq hl h
  exact unparts (wk q (.code SEq.yN SEq.yB 3 (some .boolean))) (wks q (.initialized SEq.yN.cls :: SEq.site))
theorem movedEq {Z s : State} {a0 args : Array Value} (hZ : Z.Warmed39 s.vm) (hw : ∀ d ∈ wordsEq, d.before a0 Z = true) : ∀ d ∈ wordsEq, d.before args s = true := fun d hd => by
  have t : ∀ d ∈ wordsEq, (d.onTables && d.keepsFace) = true := by decide +kernel
  exact RoadKit.mv hZ (hw d hd) (t d hd)
/-- the road's facts of a String, as the laws ask it -/
theorem txt_of {Z U : State} {a0 : Array Value} {kI : Nat} (wi : (Jvm.Cond.instantiable ST kI).before a0 Z = true) (al : Z.vm.Alike U.vm) {x t : Addr} {kb : ClassId} {cs : List Int32} {cd N2 : Int32} {vs : List Value} (E : RoadKit.Exa Z U.heap x ST) (V : RoadKit.Fld Z U.heap x ST "value" "[B" (.ref t)) (C : RoadKit.Fld Z U.heap x ST "coder" "B" (.int cd)) (K : RoadKit.Arv Z U.heap t kb .byte N2 vs (.int 0)) (hc : CodA cs cd N2 vs) (hb : ∀ c ∈ cs, ¬ c < 0 ∧ ¬ (65535 : Int32) < c) (l2 : cs.length ≤ 4000) :
    ∃ A, Txt x t A cd cs.length (fun j => cs.getD j 0) U := by
  obtain ⟨A, K1, K2, K3, K4, K5, K6⟩ := K
  have hcod := hc.cod (by omega) K3 K5
  obtain ⟨D, fV, fC, hB, F1, F2, g1, g2, -, -⟩ := strObj wi al E V C
  exact ⟨A, ⟨_, hB.2.2.1, D, hB.1, rfl, by cases q : D.vm <;> first | rfl | exact absurd q (hB.2.1.2 _)⟩, Has.of hB F1 g1, Has.of hB F2 g2, ⟨K1.1, State.isArrayOf_alike al K1.2.1, K1.2.2, by rcases hcod with ⟨-, q, -⟩ | ⟨-, q, -⟩ <;> omega⟩, hcod, fun j hj => by
    have e : cs.getD j 0 = cs[j] := by simp [List.getD_eq_getElem?_getD, hj]
    show ¬ cs.getD j 0 < 0 ∧ ¬ 65535 < cs.getD j 0
    rw [e]; exact hb _ (List.getElem_mem _)⟩
theorem same_list (cs ds : List Int32) : SameT cs.length (fun j => cs.getD j 0) ds.length (fun j => ds.getD j 0) ↔ cs = ds := by
  constructor
  · rintro ⟨e, q⟩
    refine List.ext_getElem e fun j h1 h2 => ?_
    have := q j h1
    simpa [List.getD_eq_getElem?_getD, h1, h2] using this
  · rintro rfl
    exact ⟨rfl, fun _ _ => rfl⟩
/-- **equals(Object) OF TWO SUCH STRINGS**: 1 just where the chars are the same -/
theorem eqW {p : Program} {l : Launch} {e : Env} {R : Room} {s : State} {args : Array Value} {below : List Frame} {len W : Nat} {Z : State} {a0 : Array Value} {h : Heap} (hZ : Z.Warmed39 s.vm) (hw : ∀ d ∈ wordsEq, d.before a0 Z = true) {kI : Nat} (wi : (Jvm.Cond.instantiable ST kI).before a0 Z = true)
    {x t : Addr} {kb : ClassId} {cs : List Int32} {cd N2 : Int32} {vs : List Value} (E : RoadKit.Exa Z h x ST) (V : RoadKit.Fld Z h x ST "value" "[B" (.ref t)) (C : RoadKit.Fld Z h x ST "coder" "B" (.int cd)) (K : RoadKit.Arv Z h t kb .byte N2 vs (.int 0)) (hc : CodA cs cd N2 vs) (hb : ∀ c ∈ cs, ¬ c < 0 ∧ ¬ (65535 : Int32) < c) (l2 : cs.length ≤ 4000)
    {y t' : Addr} {kb' : ClassId} {ds : List Int32} {cd' N2' : Int32} {vs' : List Value} (E' : RoadKit.Exa Z h y ST) (V' : RoadKit.Fld Z h y ST "value" "[B" (.ref t')) (C' : RoadKit.Fld Z h y ST "coder" "B" (.int cd')) (K' : RoadKit.Arv Z h t' kb' .byte N2' vs' (.int 0)) (hc' : CodA ds cd' N2' vs') (hb' : ∀ c ∈ ds, ¬ c < 0 ∧ ¬ (65535 : Int32) < c) (l2' : ds.length ≤ 4000)
    {z : Int32} (S : RoadKit.Sta Z h ST "COMPACT_STRINGS" "Z" (.int z)) (hz : ¬ z = 0) (hfr : 2 ≤ R.frames) (hlo : W + 28 ≤ R.locals) :
    Back l R p e below s args (⟨"java/lang/String", "equals", "(Ljava/lang/Object;)Z"⟩ : MethodName) len W (fun P a => a = #[.ref x, .ref y] ∧ P.U.heap = h ∧ P.cells + 0 ≤ R.cells ∧ P.slots + 0 ≤ R.slots)
      (fun P _ v B => ∃ L, (((v = some (.int 1) ∧ cs = ds) ∨ (v = some (.int 0) ∧ ¬ cs = ds)) ∧ L = [] ∧ B.U.heap = h) ∧ B.locs = P.locs ++ L ∧ B.cells = P.cells + 0 ∧ B.slots = P.slots + 0) := by
  intro m meth c P g ig mk a X hg hsize hdg hW hn hp'
  obtain ⟨rfl, rfl, r1, r2⟩ := hp'
  have al : Z.vm.Alike P.U.vm := hZ.alike.trans X.warmed.alike
  obtain ⟨A, hx⟩ := txt_of wi al E V C K hc hb l2
  obtain ⟨A', hy⟩ := txt_of wi al E' V' C' K' hc' hb' l2'
  obtain ⟨v, B, X', ⟨⟨w, hv, hh, hq⟩, hl, hk, hs⟩, st⟩ := SEq.pays x t A cd cs.length (fun j => cs.getD j 0) y t' A' cd' ds.length (fun j => ds.getD j 0) z (tabEq_of (movedEq hZ hw)) hfr hlo m meth c P g ig mk _ X hg hsize hdg hW hn ⟨r1, r2, rfl, hx, hy, sta_is al S, hz⟩
  refine ⟨v, B, X', ⟨[], ⟨?_, rfl, hh⟩, hl, hk, hs⟩, st⟩
  rcases hq with ⟨rfl, q⟩ | ⟨rfl, q⟩
  · exact Or.inl ⟨hv, (same_list cs ds).mp q⟩
  · exact Or.inr ⟨hv, fun e => q ((same_list cs ds).mpr e)⟩
end StrChars.Road
namespace StrChars.Road
open Jvm Sem ClassFile Op Lib Jvm.Stand Jvm.Free Jvm.Free.XT
open Jvm.Lib.Cold (StaticIs)
/-- what backV says of its String, as the contracts of this text ask it: cs's low bytes, coder 0 -/
theorem codOf {cs : List Int32} {n : Nat} (hn : cs.length = n) (hb : ∀ c ∈ cs, ¬ 255 < c) : CodA cs 0 (Int32.ofNat n) ((cs.map lo8).map Value.int) := Or.inl ⟨rfl, by rw [hn], by simp [List.map_map, Function.comp_def], hb⟩
end StrChars.Road
end Jvm.Pilot.@@N@@
namespace Jvm.Pilot.@@N@@
open Jvm Jvm.ClassFile Sem Op Lib Jvm.Free Jvm.Stand Jvm.LawKit Jvm.RoadKit Bundle Jvm.Pilot.@@N@@.Jvm.D
namespace Own
open Jvm Jvm.ClassFile Sem Op Lib Jvm.Free Jvm.Stand Jvm.LawKit Jvm.RoadKit Bundle
/-- the run goes on from A to an end of which Q holds -/
def Goes (tb : Tables) (e : Env) (below : List Frame) (Q : Outcome → State → Prop) (A : State) : Prop := ∃ s₂ o, Steps tb e below A s₂ ∧ s₂.status = .running ∧ Ended s₂ below o ∧ Q o s₂
theorem Goes.via {tb : Tables} {e : Env} {below : List Frame} {Q : Outcome → State → Prop} {A B : State} (h : ∀ t, Steps tb e below B t → Steps tb e below A t) (g : Goes tb e below Q B) : Goes tb e below Q A := by
  obtain ⟨s₂, o, h1, h2⟩ := g
  exact ⟨s₂, o, h _ h1, h2⟩
theorem Goes.aft {tb : Tables} {e : Env} {below : List Frame} {Q : Outcome → State → Prop} {A B : State} (h : Steps tb e below A B) (g : Goes tb e below Q B) : Goes tb e below Q A := by
  obtain ⟨s₂, o, h1, h2⟩ := g
  exact ⟨s₂, o, h.trans h1, h2⟩
/-- what may be written: made since the law began (n0), booked for no literal; of SA0 (handed in) or made since this method began (k) -/
def Sfs (Z : State) (EL : List (String × Nat)) (vm : Vm) (h : Heap) (n0 k : Nat) (SA0 SA : List Addr) : Prop := ∀ x ∈ SA, Safe Z EL vm h x ∧ x < h.size ∧ n0 ≤ x ∧ (x ∈ SA0 ∨ k ≤ x)
/-- where a walk stands, all in one -/
def Wd (p : Program) (l : Launch) (e : Env) (R : Room) (s : State) (m : MethodId) (args : Array Value) (below : List Frame) (meth : Method) (c : Code)
    (Z : State) (a0 : Array Value) (EL : List (String × Nat)) (own : String) (n0 : Nat) (SA0 SA : List Addr) (T : State) (h : Heap) (cells slots : Nat) : Prop :=
  ∃ (vm0 : Vm) (locs : List Loc) (k0 : Nat), Stand p l e R (s.setVm vm0) m args below meth c T locs cells slots ∧ T.heap = h ∧ s.Since vm0 k0 ∧ k0 ≤ h.size ∧ Z.Warmed39 vm0 ∧ vm0.findClass own = some m.cls ∧
    CHr Z EL s.vm s.heap vm0 h ∧ Fr n0 locs ∧ Old Z n0 h ∧ Keep s.heap h SA0 ∧ Sfs Z EL vm0 h n0 s.heap.size SA0 SA ∧ EW Z a0 EL ∧ p.tables.exec = Jvm.exec
section Wide
variable {p : Program} {l : Launch} {e : Env} {R : Room} {s : State} {m : MethodId} {args : Array Value} {below : List Frame} {meth : Method} {c : Code}
variable {Z : State} {a0 : Array Value} {EL : List (String × Nat)} {own : String} {n0 : Nat} {SA0 SA : List Addr} {T : State} {h h' : Heap} {cells slots : Nat} {Q : Outcome → State → Prop} {pc : Nat} {Ls : Array Slot} {st : List Value} {vm0 vm1 : Vm} {a : Addr} {sl : Nat} {v : Value}
theorem Wd.exec (X : Wd p l e R s m args below meth c Z a0 EL own n0 SA0 SA T h cells slots) : p.tables.exec = Jvm.exec := by
  obtain ⟨_, _, _, -, -, -, -, -, -, -, -, -, -, -, -, q⟩ := X; exact q
theorem Wd.here (X : Wd p l e R s m args below meth c Z a0 EL own n0 SA0 SA T h cells slots) : At T m c below := by
  obtain ⟨_, _, _, Y, -⟩ := X; exact Y.here
theorem Wd.old (X : Wd p l e R s m args below meth c Z a0 EL own n0 SA0 SA T h cells slots) : Old Z n0 h := by
  obtain ⟨_, _, _, -, -, -, -, -, -, -, -, q, -⟩ := X; exact q
theorem Wd.kept (X : Wd p l e R s m args below meth c Z a0 EL own n0 SA0 SA T h cells slots) : Keep s.heap h SA0 := by
  obtain ⟨_, _, _, -, -, -, -, -, -, -, -, -, q, -⟩ := X; exact q
theorem Wd.al (X : Wd p l e R s m args below meth c Z a0 EL own n0 SA0 SA T h cells slots) : Z.vm.Alike T.vm := by
  obtain ⟨_, _, _, Y, -, -, -, hZ, -⟩ := X; exact (wtrans (s := s.setVm _) hZ Y.warmed).alike
theorem Wd.n0h (X : Wd p l e R s m args below meth c Z a0 EL own n0 SA0 SA T h cells slots) : n0 ≤ h.size := by
  obtain ⟨q1, q2, -⟩ := X.old; rw [← q1]; exact q2
theorem Wd.saf (X : Wd p l e R s m args below meth c Z a0 EL own n0 SA0 SA T h cells slots) {x : Addr} (q : x ∈ SA) : n0 ≤ x ∧ x < h.size := by
  obtain ⟨_, _, _, -, -, -, -, -, -, -, -, -, -, S, -⟩ := X; exact ⟨(S x q).2.2.1, (S x q).2.1⟩
theorem Sfs.go {k : Nat} (S : Sfs Z EL vm0 h n0 k SA0 SA) (A : CHr Z EL vm0 h vm1 h') : Sfs Z EL vm1 h' n0 k SA0 SA := fun x hx =>
  ⟨A.safe (S x hx).2.1 (S x hx).1, Nat.lt_of_lt_of_le (S x hx).2.1 A.2.1, (S x hx).2.2⟩
/-- fewer may be written -/
theorem Wd.less {SA' : List Addr} (X : Wd p l e R s m args below meth c Z a0 EL own n0 SA0 SA T h cells slots) (q : ∀ x ∈ SA', x ∈ SA) : Wd p l e R s m args below meth c Z a0 EL own n0 SA0 SA' T h cells slots := by
  obtain ⟨vm0, locs, k0, r1, r2, r3, r4, r5, r6, r7, r8, r9, r10, r11, r12, r13⟩ := X
  exact ⟨vm0, locs, k0, r1, r2, r3, r4, r5, r6, r7, r8, r9, r10, fun x hx => r11 x (q x hx), r12, r13⟩
theorem Wd.mono {cells' slots' : Nat} (X : Wd p l e R s m args below meth c Z a0 EL own n0 SA0 SA T h cells slots) (h1 : cells ≤ cells') (h2 : slots ≤ slots') : Wd p l e R s m args below meth c Z a0 EL own n0 SA0 SA T h cells' slots' := by
  obtain ⟨vm0, locs, k0, r1, r⟩ := X
  exact ⟨vm0, locs, k0, r1.mono h1 h2, r⟩
/-- new C -/
theorem Wd.new (X : Wd p l e R s m args below meth c Z a0 EL own n0 SA0 SA T h cells slots) {index n : Nat} {C : String} (w : (Cond.classLink own index C).before a0 Z = true) (wi : (Cond.instantiable C n).before a0 Z = true) (wz : (Cond.initialized C).before a0 Z = true)
    (hd : decode c.code pc = .ok (.new index, 3)) (hc : cells + 1 ≤ R.cells) (hl : slots + n ≤ R.slots)
    (k : ∀ (T' : State) (h' : Heap) (b : Addr), b = h.size → Wd p l e R s m args below meth c Z a0 EL own n0 SA0 (b :: SA) T' h' (cells + 1) (slots + n) → Ext h h' → Exa Z h' b C → (∀ {O nm d : String} {ty : FieldType}, Laid Z a0 C O nm d → parseFieldDescriptor d = some ty → Fld Z h' b O nm d (defaultValue ty)) →
      (∃ cell : Cell, h'[b]? = some cell ∧ cell.vm = .none ∧ cell.monitor = {}) → Goes p.tables e below Q (T'.setTop (mkF m (pc + 3) Ls (.ref b :: st)))) : Goes p.tables e below Q (T.setTop (mkF m pc Ls st)) := by
  obtain ⟨vm0, locs, k0, Y, eT, hS, hk, hZ, hown, hC, N, O, K, S, hEL, hx⟩ := X
  obtain ⟨T', h', Y', e', E, A, D, U, st'⟩ := newO Y hx hZ hown w wi wz eT (g := mkF m pc Ls st) rfl hd hc hl
  have A' := CHr.ext E hC.1
  refine Goes.via st' (k T' h' _ rfl ⟨vm0, locs, k0, Y', e', hS, Nat.le_trans hk E.1, hZ, hown, hC.trans A', N, O.ext E, K.ext E, fun x q => ?_, hEL, hx⟩ E A D U)
  rcases List.mem_cons.mp q with rfl | q
  · exact ⟨(Safe.new (Nat.le_refl _)).ext E hC.1, A.lt, by rw [← O.1]; exact O.2.1, Or.inr K.1⟩
  · exact S.go A' x q
/-- newarray of a primitive kind, its length known -/
theorem Wd.newarr (X : Wd p l e R s m args below meth c Z a0 EL own n0 SA0 SA T h cells slots) {aty : ArrayType} (w : (Cond.arrayClass (newarray.typeOf aty)).before a0 Z = true) {n : Int32} (hd : decode c.code pc = .ok (.newarray aty, 2)) (hn : ¬ n < 0) (cap : Nat) (hcap : n.toNatClampNeg ≤ cap) (hb : cap * 8 ≤ 536870912) (hc : cells + 1 ≤ R.cells) (hl : slots + cap ≤ R.slots)
    (k : ∀ (T' : State) (h' : Heap) (b : Addr) (kb : ClassId), b = h.size → Wd p l e R s m args below meth c Z a0 EL own n0 SA0 (b :: SA) T' h' (cells + 1) (slots + cap) → Ext h h' → Arv Z h' b kb (newarray.typeOf aty) n [] (defaultValue (newarray.typeOf aty)) → Goes p.tables e below Q (T'.setTop (mkF m (pc + 2) Ls (.ref b :: st)))) : Goes p.tables e below Q (T.setTop (mkF m pc Ls (.int n :: st))) := by
  obtain ⟨vm0, locs, k0, Y, eT, hS, hk, hZ, hown, hC, N, O, K, S, hEL, hx⟩ := X
  obtain ⟨T', h', kb, Y', e', E, A, st'⟩ := newP Y hx hZ w eT (g := mkF m pc Ls (.int n :: st)) rfl hd rfl hn hcap hb hc hl
  have A' := CHr.ext E hC.1
  refine Goes.via st' (k T' h' _ kb rfl ⟨vm0, locs, k0, Y', e', hS, Nat.le_trans hk E.1, hZ, hown, hC.trans A', N, O.ext E, K.ext E, fun x q => ?_, hEL, hx⟩ E (Arv.new A hn))
  rcases List.mem_cons.mp q with rfl | q
  · exact ⟨(Safe.new (Nat.le_refl _)).ext E hC.1, A.lt, by rw [← O.1]; exact O.2.1, Or.inr K.1⟩
  · exact S.go A' x q
theorem wrN (hC : CHr Z EL s.vm s.heap vm0 h) (O : Old Z n0 h) (K : Keep s.heap h SA0) (S : Sfs Z EL vm0 h n0 s.heap.size SA0 SA) (q : a ∈ SA) (W : Wr h h' a sl v) :
    CHr Z EL s.vm s.heap vm0 h' ∧ Old Z n0 h' ∧ Keep s.heap h' SA0 ∧ Sfs Z EL vm0 h' n0 s.heap.size SA0 SA ∧ n0 ≤ a ∧ h.size ≤ h'.size := by
  obtain ⟨q1, -, q3, q4⟩ := S a q
  have A := CHr.wr W q1 hC.1
  exact ⟨hC.trans A, O.wr W q3, K.wr W q4, S.go A, q3, A.2.1⟩
/-- putfield -/
theorem Wd.putf (X : Wd p l e R s m args below meth c Z a0 EL own n0 SA0 SA T h cells slots) {R0 O n d C : String} {index kk : Nat} {ty : FieldType} (w : (Cond.fieldLink own index R0 n d).before a0 Z = true) (via : Via Z R0 O n d) {v old : Value} (F : Fld Z h a O n d old) (E : Exa Z h a C)
    (L : (Cond.lays C O n d).before a0 Z = true ∨ ((Cond.laysFinal C O n d).before a0 Z = true ∧ own = O ∧ meth.name = "<init>")) (wi : (Cond.instantiable C kk).before a0 Z = true) (hty : parseFieldDescriptor d = some ty) (hn : narrow ty v = v) (hf : fits ty v = true) (hd : decode c.code pc = .ok (.putfield index, 3)) (q : a ∈ SA)
    (k : ∀ (T' : State) (h' : Heap), Wd p l e R s m args below meth c Z a0 EL own n0 SA0 SA T' h' cells slots → Wr h h' a (Jvm.RoadKit.slotOf Z O n d) v → Goes p.tables e below Q (T'.setTop (mkF m (pc + 3) Ls st))) : Goes p.tables e below Q (T.setTop (mkF m pc Ls (v :: .ref a :: st))) := by
  obtain ⟨vm0, locs, k0, Y, eT, hS, hk, hZ, hown, hC, N, O', K, S, hEL, hx⟩ := X
  obtain ⟨T', h', Y', e', W, st'⟩ := putF Y hx hZ hown (host := "") (Or.inl w) via eT F E L wi hty hn hf (g := mkF m pc Ls (v :: .ref a :: st)) rfl rfl hd
  obtain ⟨q1, q2, q3, q4, q5, q6⟩ := wrN hC O' K S q W
  exact Goes.via st' (k T' h' ⟨vm0, _, k0, Y', e', hS, Nat.le_trans hk q6, hZ, hown, q1, Fr.snoc Y' N q5, q2, q3, q4, hEL, hx⟩ W)
/-- getfield -/
theorem Wd.getf (X : Wd p l e R s m args below meth c Z a0 EL own n0 SA0 SA T h cells slots) {R0 O n d : String} {index : Nat} (w : (Cond.fieldLink own index R0 n d).before a0 Z = true) (via : Via Z R0 O n d) {v : Value} (F : Fld Z h a O n d v) (hd : decode c.code pc = .ok (.getfield index, 3))
    (k : ∀ T' : State, Wd p l e R s m args below meth c Z a0 EL own n0 SA0 SA T' h cells slots → Goes p.tables e below Q (T'.setTop (mkF m (pc + 3) Ls (v :: st)))) : Goes p.tables e below Q (T.setTop (mkF m pc Ls (.ref a :: st))) := by
  obtain ⟨vm0, locs, k0, Y, eT, r2, r3, r4, r5, r⟩ := X
  obtain ⟨T', Y', e', st'⟩ := getF Y r.2.2.2.2.2.2 r4 r5 (host := "") (Or.inl w) via eT F (g := mkF m pc Ls (.ref a :: st)) rfl rfl hd
  exact Goes.via st' (k T' ⟨vm0, locs, k0, Y', e', r2, r3, r4, r5, r⟩)
/-- getstatic -/
theorem Wd.gets (X : Wd p l e R s m args below meth c Z a0 EL own n0 SA0 SA T h cells slots) {R0 O n d : String} {index : Nat} (w : (Cond.fieldLink own index R0 n d).before a0 Z = true) (via : Via Z R0 O n d) {v : Value} (F : Sta Z h O n d v) (hd : decode c.code pc = .ok (.getstatic index, 3))
    (k : ∀ T' : State, Wd p l e R s m args below meth c Z a0 EL own n0 SA0 SA T' h cells slots → Goes p.tables e below Q (T'.setTop (mkF m (pc + 3) Ls (v :: st)))) : Goes p.tables e below Q (T.setTop (mkF m pc Ls st)) := by
  obtain ⟨vm0, locs, k0, Y, eT, r2, r3, r4, r5, r⟩ := X
  obtain ⟨T', Y', e', st'⟩ := getS (host := "") Y r.2.2.2.2.2.2 r4 r5 w via eT F (g := mkF m pc Ls st) rfl hd
  exact Goes.via st' (k T' ⟨vm0, locs, k0, Y', e', r2, r3, r4, r5, r⟩)
/-- Object.<init> -/
theorem Wd.inito (X : Wd p l e R s m args below meth c Z a0 EL own n0 SA0 SA T h cells slots) {idx : Nat} (w1 : (Cond.methodLink own idx Lib.objectInit).before a0 Z = true) (w2 : (Cond.instanceMethod Lib.objectInit).before a0 Z = true) (w3 : (Cond.code Lib.objectInit ⟨#[0xb1]⟩ 1 none).before a0 Z = true)
    (hd : decode c.code pc = .ok (.invokespecial idx, 3)) (hsize : Ls.size = c.maxLocals) (hf : 1 ≤ R.frames) (W : Nat) (hW : (st.map fun v => v.category).sum ≤ W) (hl : W + 12 ≤ R.locals)
    (k : ∀ T' : State, Wd p l e R s m args below meth c Z a0 EL own n0 SA0 SA T' h cells slots → Goes p.tables e below Q (T'.setTop (mkF m (pc + 3) Ls st))) : Goes p.tables e below Q (T.setTop (mkF m pc Ls (.ref a :: st))) := by
  obtain ⟨vm0, locs, k0, Y, eT, r2, r3, r4, r5, r⟩ := X
  obtain ⟨T', Y', e', st'⟩ := initO Y r.2.2.2.2.2.2 r4 r5 w1 w2 w3 eT (g := mkF m pc Ls (.ref a :: st)) rfl hsize rfl hd hf (W := W) (by show 2 * 0 + _ ≤ _; omega) hl
  exact Goes.via st' (k T' ⟨vm0, locs, k0, Y', e', r2, r3, r4, r5, r⟩)
/-- castore -/
theorem Wd.castore (X : Wd p l e R s m args below meth c Z a0 EL own n0 SA0 SA T h cells slots) {kb : ClassId} {n j x : Int32} {vs : List Value} {dv : Value} (V : Arv Z h a kb .char n vs dv) (hj : ¬ j < 0 ∧ j < n) (i : Nat) (hji : j.toNatClampNeg = i) (hi : i < vs.length) (q : a ∈ SA) (hd : decode c.code pc = .ok (.castore, 1))
    (k : ∀ (T' : State) (h' : Heap), Wd p l e R s m args below meth c Z a0 EL own n0 SA0 SA T' h' cells slots → Wr h h' a j.toNatClampNeg (.int (nar .char x)) → Arv Z h' a kb .char n (vs.set i (.int (nar .char x))) dv → Goes p.tables e below Q (T'.setTop (mkF m (pc + 1) Ls st))) : Goes p.tables e below Q (T.setTop (mkF m pc Ls (.int x :: .int j :: .ref a :: st))) := by
  obtain ⟨vm0, locs, k0, Y, eT, hS, hk, hZ, hown, hC, N, O', K, S, hEL, hx⟩ := X
  obtain ⟨cl, A, v1, v2, v3, v4, v5⟩ := V
  obtain ⟨T', h', Y', e', W, st'⟩ := stC Y hx hZ eT A (inb_of v2 hj) (g := mkF m pc Ls (.int x :: .int j :: .ref a :: st)) rfl rfl hd
  obtain ⟨q1, q2, q3, q4, q5, q6⟩ := wrN hC O' K S q W
  exact Goes.via st' (k T' h' ⟨vm0, _, k0, Y', e', hS, Nat.le_trans hk q6, hZ, hown, q1, Fr.snoc Y' N q5, q2, q3, q4, hEL, hx⟩ W (Arv.set A v1 v2 v3 v4 v5 (fits_nar_char _) W i hji hi))
/-- bastore into a byte[] -/
theorem Wd.bastore (X : Wd p l e R s m args below meth c Z a0 EL own n0 SA0 SA T h cells slots) {kb : ClassId} {n j x : Int32} {vs : List Value} {dv : Value} (V : Arv Z h a kb .byte n vs dv) (hj : ¬ j < 0 ∧ j < n) (i : Nat) (hji : j.toNatClampNeg = i) (hi : i < vs.length) (q : a ∈ SA) (hd : decode c.code pc = .ok (.bastore, 1))
    (k : ∀ (T' : State) (h' : Heap), Wd p l e R s m args below meth c Z a0 EL own n0 SA0 SA T' h' cells slots → Wr h h' a j.toNatClampNeg (.int (nar .byte x)) → Arv Z h' a kb .byte n (vs.set i (.int (nar .byte x))) dv → Goes p.tables e below Q (T'.setTop (mkF m (pc + 1) Ls st))) : Goes p.tables e below Q (T.setTop (mkF m pc Ls (.int x :: .int j :: .ref a :: st))) := by
  obtain ⟨vm0, locs, k0, Y, eT, hS, hk, hZ, hown, hC, N, O', K, S, hEL, hx⟩ := X
  obtain ⟨cl, A, v1, v2, v3, v4, v5⟩ := V
  obtain ⟨T', h', Y', e', W, st'⟩ := stB Y hx hZ eT A (inb_of v2 hj) (g := mkF m pc Ls (.int x :: .int j :: .ref a :: st)) rfl rfl hd
  obtain ⟨q1, q2, q3, q4, q5, q6⟩ := wrN hC O' K S q W
  exact Goes.via st' (k T' h' ⟨vm0, _, k0, Y', e', hS, Nat.le_trans hk q6, hZ, hown, q1, Fr.snoc Y' N q5, q2, q3, q4, hEL, hx⟩ W (Arv.set A v1 v2 v3 v4 v5 (fits_nar_byte _) W i hji hi))
/-- caload -/
theorem Wd.caload (X : Wd p l e R s m args below meth c Z a0 EL own n0 SA0 SA T h cells slots) {kb : ClassId} {n j : Int32} {vs : List Value} {dv v : Value} (V : Arv Z h a kb .char n vs dv) (hj : ¬ j < 0 ∧ j < n) (hv : vs.getD j.toNatClampNeg dv = v) (hd : decode c.code pc = .ok (.caload, 1))
    (g : Goes p.tables e below Q (T.setTop (mkF m (pc + 1) Ls (v :: st)))) : Goes p.tables e below Q (T.setTop (mkF m pc Ls (.int j :: .ref a :: st))) := by
  obtain ⟨vm0, locs, k0, Y, eT, r2, r3, r4, r5, r⟩ := X
  obtain ⟨cl, A, v1, v2, v3, v4, v5⟩ := V
  exact Goes.via (fun t => Y.caload r.2.2.2.2.2.2 (by rw [eT]; exact A.1) (State.isArrayOf_alike r4.alike A.2.1) A.2.2 (inb_of v2 hj) (v4.at (inb_of v2 hj) hv) (g := mkF m pc Ls (.int j :: .ref a :: st)) rfl rfl hd t) g
/-- arraylength -/
theorem Wd.alen (X : Wd p l e R s m args below meth c Z a0 EL own n0 SA0 SA T h cells slots) {kb : ClassId} {n : Int32} {vs : List Value} {dv : Value} {ty : FieldType} (V : Arv Z h a kb ty n vs dv) (hd : decode c.code pc = .ok (.arraylength, 1))
    (g : Goes p.tables e below Q (T.setTop (mkF m (pc + 1) Ls (.int n :: st)))) : Goes p.tables e below Q (T.setTop (mkF m pc Ls (.ref a :: st))) := by
  obtain ⟨vm0, locs, k0, Y, eT, r2, r3, r4, r5, r⟩ := X
  obtain ⟨cl, A, v1, v2, v3, v4, v5⟩ := V
  rw [← len_of v2 v3] at g
  exact Goes.via (fun t => Y.arraylength r.2.2.2.2.2.2 (by rw [eT]; exact A.1) (State.isArrayOf_alike r4.alike A.2.1) (g := mkF m pc Ls (.ref a :: st)) rfl rfl hd t) g
/-- ldc of a String constant of EL, read -/
theorem Wd.ldcS (X : Wd p l e R s m args below meth c Z a0 EL own n0 SA0 SA T h cells slots) {index : Nat} {text : String} (w : (Cond.stringLink own index text).before a0 Z = true) (wS : ∀ a ∈ Bundle.stringAtoms, a.before a0 Z = true) (hmem : (own, index) ∈ EL) {vs : List Value} {z : Int32}
    (ht : (∀ c ∈ text.toList, c.toNat < 256) ∧ text.toList.map (fun c => Value.int (Jvm.Lit.byteI c.toNat.toUInt16)) = vs) (hz : ¬ z < 0) (hl : z.toNatClampNeg = vs.length) (hd : decode c.code pc = .ok (.ldc index, 2)) (n : Nat) (hn : 4 * text.toList.length ≤ n) (hbig : n ≤ 536870912) (hc : cells + 2 ≤ R.cells) (hl' : slots + (n + 4) ≤ R.slots)
    (k : ∀ (T' : State) (h' : Heap) (a b : Addr) (kb : ClassId), Wd p l e R s m args below meth c Z a0 EL own n0 SA0 SA T' h' (cells + 2) (slots + (n + 4)) → Ext h h' → Exa Z h' a "java/lang/String" → Fld Z h' a "java/lang/String" "coder" "B" (.int 0) → Fld Z h' a "java/lang/String" "value" "[B" (.ref b) → Arv Z h' b kb .byte z vs (.int 0) → (∀ x ∈ SA, x ≠ a ∧ x ≠ b) →
      Goes p.tables e below Q (T'.setTop (mkF m (pc + 2) Ls (.ref a :: st)))) : Goes p.tables e below Q (T.setTop (mkF m pc Ls st)) := by
  obtain ⟨vm0, locs, k0, Y, eT, hS, hk, hZ, hown, hC, N, O, K, S, hEL, hx⟩ := X
  obtain ⟨a, T', h', k1, b, kb, Y', e', E, hS', hk', hZ', hown', A1, A2, A3, A4, -, -, A5, -, A6, st'⟩ := ldcCH Y hx hZ hown w wS eT hS hk hEL hmem hC.1 ht hz hl (g := mkF m pc Ls st) rfl hd hn hbig hc hl'
  have S' := S.go A5
  exact Goes.via st' (k T' h' a b kb ⟨T'.vm, locs, k1, Y', e', hS', hk', hZ', hown', hC.trans A5, N, O.ext E, K.ext E, S', hEL, hx⟩ E A1 A2 A3 A4 fun x q => A6 x (S' x q).1)
/-- ldc of any String constant, not read -/
theorem Wd.ldcO (X : Wd p l e R s m args below meth c Z a0 EL own n0 SA0 SA T h cells slots) {index : Nat} {text : String} (w : (Cond.stringLink own index text).before a0 Z = true) (wS : ∀ a ∈ Bundle.stringAtoms, a.before a0 Z = true)
    (hd : decode c.code pc = .ok (.ldc index, 2)) (n : Nat) (hn : 4 * text.toList.length ≤ n) (hbig : n ≤ 536870912) (hc : cells + 2 ≤ R.cells) (hl' : slots + (n + 4) ≤ R.slots)
    (k : ∀ (T' : State) (h' : Heap) (a : Addr), Wd p l e R s m args below meth c Z a0 EL own n0 SA0 SA T' h' (cells + 2) (slots + (n + 4)) → Ext h h' →
      Goes p.tables e below Q (T'.setTop (mkF m (pc + 2) Ls (.ref a :: st)))) : Goes p.tables e below Q (T.setTop (mkF m pc Ls st)) := by
  obtain ⟨vm0, locs, k0, Y, eT, hS, hk, hZ, hown, hC, N, O, K, S, hEL, hx⟩ := X
  obtain ⟨a, T', h', k1, Y', e', E, hS', hk', hZ', hown', A5, -, st'⟩ := ldcOH Y hx hZ hown w wS eT hS hk hEL hC.1 (g := mkF m pc Ls st) rfl hd hn hbig hc hl'
  exact Goes.via st' (k T' h' a ⟨T'.vm, locs, k1, Y', e', hS', hk', hZ', hown', hC.trans A5, N, O.ext E, K.ext E, S.go A5, hEL, hx⟩ E)
/-- ldc of an int -/
theorem Wd.ldcI (X : Wd p l e R s m args below meth c Z a0 EL own n0 SA0 SA T h cells slots) {index : Nat} {v : Int32} (w : (Cond.constant own index v).before a0 Z = true) (hd : decode c.code pc = .ok (.ldc index, 2))
    (g : Goes p.tables e below Q (T.setTop (mkF m (pc + 2) Ls (.int v :: st)))) : Goes p.tables e below Q (T.setTop (mkF m pc Ls st)) := by
  obtain ⟨vm0, locs, k0, Y, eT, r2, r3, r4, r5, r⟩ := X
  exact Goes.via (fun t => Y.ldcInt r.2.2.2.2.2.2 r5 (mvT (s := s.setVm vm0) r4 w) (g := mkF m pc Ls st) rfl hd t) g
end Wide
end Own
namespace Own
open Jvm Jvm.ClassFile Sem Op Lib Jvm.Free Jvm.Stand Jvm.LawKit Jvm.RoadKit Bundle
/-- a method's contract: handed as' in the heap h0, it may write SA0 and what it makes; at its end Q0 holds -/
def Ct (l : Launch) (Z : State) (EL : List (String × Nat)) (ws : List Jvm.Cond) (y : MethodName) (bytes : ByteArray) (maxL : Nat) (ret : Option FieldType) (rm : Room) (as' : Array Value) (h0 : Heap) (n0 : Nat) (SA0 : List Addr) (Q0 : Option Value → Heap → Prop) : Prop :=
  MetFree l y (head1 (Jvm.Cond.code y bytes maxL ret :: ws) rm) (fun a U => a = as' ∧ Z.Warmed39 U.vm ∧ U.heap = h0 ∧ CHv Z EL U.vm h0 ∧ Old Z n0 h0 ∧ ∀ x ∈ SA0, Safe Z EL U.vm h0 x ∧ x < h0.size ∧ n0 ≤ x) (fun _ _ _ _ _ => True)
    (fun _ U o U' => ∃ v L, o = .returned v ∧ (Q0 v U'.heap ∧ Fr n0 L ∧ Old Z n0 U'.heap ∧ Keep h0 U'.heap SA0) ∧ CHr Z EL U.vm U.heap U'.vm U'.heap ∧ ReturnedEndW U o U' L rm.cells rm.slots)
/-- what an end must bring -/
def Endq (Z : State) (EL : List (String × Nat)) (s : State) (n0 : Nat) (SA0 : List Addr) (rm : Room) (Q0 : Option Value → Heap → Prop) (o : Outcome) (U' : State) : Prop :=
  ∃ v L, o = .returned v ∧ (Q0 v U'.heap ∧ Fr n0 L ∧ Old Z n0 U'.heap ∧ Keep s.heap U'.heap SA0) ∧ CHr Z EL s.vm s.heap U'.vm U'.heap ∧ ReturnedEndW s o U' L rm.cells rm.slots
section Wide
variable {p : Program} {l : Launch} {e : Env} {R : Room} {s : State} {m : MethodId} {args : Array Value} {below : List Frame} {meth : Method} {c : Code}
variable {Z : State} {a0 : Array Value} {EL : List (String × Nat)} {own : String} {n0 : Nat} {SA0 SA SA' : List Addr} {T : State} {h h' h0 : Heap} {cells slots : Nat} {Q : Outcome → State → Prop} {pc : Nat} {Ls : Array Slot} {st : List Value} {vm0 vm1 : Vm} {a : Addr} {sl : Nat} {v : Value}
variable {ws : List Jvm.Cond} {y z : MethodName} {bytes : ByteArray} {maxL : Nat} {ret : Option FieldType} {rm : Room} {as' : Array Value} {Q0 : Option Value → Heap → Prop}
theorem Ct.enter (pn : plainFor y = true) (hEL : EW Z a0 EL)
    (body : ∀ (p : Program) (e : Env) (s : State) (m : MethodId) (below : List Frame) (meth : Method) (c : Code) (T : State), c.code = bytes → c.maxLocals = maxL → meth.sig.returnType = ret → meth.locks = false → meth.name = y.name → s.heap = h0 → Wd p l e rm s m as' below meth c Z a0 EL y.cls n0 SA0 SA0 T h0 0 0 →
      Goes p.tables e below (Endq Z EL s n0 SA0 rm Q0) (T.setTop (entryFrame m as' maxL))) : Ct l Z EL ws y bytes maxL ret rm as' h0 n0 SA0 Q0 := by
  refine MetFree.of_bodySF pn hisR ?_
  intro p e s m args below meth c s₁ Bd hml0 hP hK
  obtain ⟨rfl, hZ, rfl, H, O, S⟩ := hP
  have Y : Stand p l e rm s m args below meth c s₁ [] 0 0 := Stand.of_body Bd
  have e0 : s₁.heap = s.heap := by rw [Bd.state]; rfl
  obtain ⟨s₂, o, h1, h2, h3, v, L, h4, h5, h6, h7⟩ := body p e s m below meth c s₁ Bd.bytes hml0 Bd.returns (BodyLoose.notSynchronized Bd) (name_of_methodNamed Bd.named Bd.method).1 rfl
    ⟨s.vm, [], 0, Y, e0, (State.WarmedH.refl s).since _, Nat.zero_le _, hZ, findClass_of_methodNamed Bd.named, CHr.refl H, Fr.nil _, O, Keep.refl _ _, fun x q => ⟨(S x q).1, (S x q).2.1, (S x q).2.2, Or.inl q⟩, hEL, Bd.exec⟩
  exact ⟨s₂, o, h1, h2, h3, v, L, h4, h5, h6, h7⟩
theorem Ct.back {len W : Nat} (ct : Ct l Z EL [] y bytes maxL ret rm as' h n0 SA0 Q0) (hZ : Z.Warmed39 vm0) (wc : (Jvm.Cond.code y bytes maxL ret).before a0 Z = true) (wz : (Jvm.Cond.initialized y.cls).before a0 Z = true) (hf : rm.frames + 1 ≤ R.frames) (hl : W + (maxL + 11) + rm.locals ≤ R.locals) (hEL : EW Z a0 EL) (H : CHv Z EL vm0 h) (O : Old Z n0 h)
    (S : ∀ x ∈ SA0, Safe Z EL vm0 h x ∧ x < h.size ∧ n0 ≤ x) :
    BackS l R p e below (s.setVm vm0) args y len W (fun A a => a = as' ∧ A.U.heap = h ∧ A.cells + rm.cells ≤ R.cells ∧ A.slots + rm.slots ≤ R.slots)
      (fun A _ v B => ∃ L, (Q0 v B.U.heap ∧ Fr n0 L ∧ Old Z n0 B.U.heap ∧ Keep h B.U.heap SA0) ∧ B.locs = A.locs ++ L ∧ B.cells = A.cells + rm.cells ∧ B.slots = A.slots + rm.slots ∧ CHr Z EL vm0 h B.U.vm B.U.heap) :=
  BackS.of_freeW (bytes := bytes) (maxL := maxL) (ret := ret) (E := fun _ first o t L k n => k = rm.cells ∧ n = rm.slots ∧ (∃ v, o = .returned v ∧ (Q0 v t.heap ∧ Fr n0 L ∧ Old Z n0 t.heap ∧ Keep h t.heap SA0)) ∧ CHr Z EL first.vm first.heap t.vm t.heap) ct hf hl
    (fun m meth c A a Y hp => have hU : Z.Warmed39 A.U.vm := wtrans (s := s.setVm vm0) hZ Y.warmed
      ⟨by show (Jvm.Cond.and _ .tt).before a A.U = true; rw [Cond.before_and, mv hU wc]; rfl, mv hU wc, mv hU wz, hp.2.2.1, hp.2.2.2⟩)
    (fun m meth c A a g mk Y hp => ⟨hp.1, wtrans (s := s.setVm vm0) hZ Y.warmed, hp.2.1, (CHv.at Y hZ hEL H).1, O, fun x q => ⟨(CHv.at Y hZ hEL H).safe (S x q).2.1 (S x q).1, (S x q).2⟩⟩) (fun _ _ _ _ _ _ _ _ _ => trivial)
    (fun _ _ _ _ ⟨v, L, h1, h2, h3, h4⟩ => ⟨L, _, _, h4, rfl, rfl, ⟨v, h1, h2⟩, h3⟩)
    (fun m meth c A a g mk v t L k n Y hp _ _ ⟨e1, e2, ⟨v', e3, e4⟩, e5⟩ => by
      cases e3; subst e1 e2
      refine ⟨L, e4, rfl, rfl, rfl, (CHv.at Y hZ hEL H).trans ?_⟩
      rw [← hp.2.1]; exact e5)
/-- what stands behind a call by its contract -/
theorem callN {T' : State} {L : List Loc} {k0 cells' slots' : Nat} (hS : s.Since vm0 k0) (hk : k0 ≤ h.size) (hZ : Z.Warmed39 vm0) (hown : vm0.findClass own = some m.cls) (hC : CHr Z EL s.vm s.heap vm0 h) {locs : List Loc} (N : Fr n0 locs) (K : Keep s.heap h SA0) (S : Sfs Z EL vm0 h n0 s.heap.size SA0 SA) (hEL : EW Z a0 EL) (hx : p.tables.exec = Jvm.exec)
    (Y : Stand p l e R ((s.setVm vm0).setVm T'.vm) m args below meth c T' (locs ++ L) cells' slots') (h2 : (s.setVm vm0).Since T'.vm T'.heap.size) (hg : h.size ≤ T'.heap.size) (hL : Fr n0 L) (O' : Old Z n0 T'.heap) (K' : Keep h T'.heap SA') (hsub : ∀ x ∈ SA', x ∈ SA) (A : CHr Z EL vm0 h T'.vm T'.heap) :
    Wd p l e R s m args below meth c Z a0 EL own n0 SA0 SA T' T'.heap cells' slots' := by
  obtain ⟨r1, r2, r3, r4⟩ := rebS (own := own) hS hk Y h2 hg hZ hown
  exact ⟨T'.vm, _, _, r1, rfl, r2, Nat.le_refl _, r3, r4, hC.trans A, N.app hL, O', K.trans K' (fun x q => (S x (hsub x q)).2.2.2), S.go A, hEL, hx⟩
/-- invokestatic by its contract -/
theorem Wd.calls (X : Wd p l e R s m args below meth c Z a0 EL own n0 SA0 SA T h cells slots) (argsL rest : List Value) {idx : Nat} (ct : Ct l Z EL [] y bytes maxL ret rm argsL.toArray h n0 SA' Q0) (w1 : (Jvm.Cond.methodLink own idx y).before a0 Z = true) (w2 : (Jvm.Cond.static y).before a0 Z = true) (w3 : (Jvm.Cond.initialized y.cls).before a0 Z = true) (w4 : (Jvm.Cond.code y bytes maxL ret).before a0 Z = true)
    (hy : y.cls ≠ "java/lang/invoke/MethodHandle" ∧ y.cls ≠ "java/lang/invoke/VarHandle") (hsub : ∀ x ∈ SA', x ∈ SA) (hf : rm.frames + 1 ≤ R.frames) (W : Nat) (hl : W + (maxL + 11) + rm.locals ≤ R.locals) (hcl : cells + rm.cells ≤ R.cells) (hsl : slots + rm.slots ≤ R.slots)
    (hlen : ∀ sig, parseMethodDescriptor y.desc = some sig → argsL.length = sig.parameters.length) (hst : st = argsL.reverse ++ rest) (hW : (rest.map fun v => v.category).sum ≤ W) (hsize : Ls.size = c.maxLocals) (hd : decode c.code pc = .ok (.invokestatic idx, 3))
    (k : ∀ (T' : State) (h' : Heap) (v : Option Value), Wd p l e R s m args below meth c Z a0 EL own n0 SA0 SA T' h' (cells + rm.cells) (slots + rm.slots) → Keep h h' SA' → Q0 v h' → Goes p.tables e below Q (T'.setTop (mkF m (pc + 3) Ls (v.toList ++ rest)))) : Goes p.tables e below Q (T.setTop (mkF m pc Ls st)) := by
  obtain ⟨vm0, locs, k0, Y, eT, hS, hk, hZ, hown, hC, N, O, K, S, hEL, hx⟩ := X
  obtain ⟨v, vm1, ⟨T', L', c', s'⟩, -, Y', h2, hg, ⟨L, ⟨q0, q1, q2, q3⟩, rfl, rfl, rfl, A⟩, st'⟩ := callSS Y hx hown (mvT hZ w1) (mvT hZ w2) (mvT hZ w3) (mvT hZ w4) hy (ct.back (a0 := a0) (W := W) (len := 3) hZ w4 w3 hf hl hEL hC.1 O fun x q => ⟨(S x (hsub x q)).1, (S x (hsub x q)).2.1, (S x (hsub x q)).2.2.1⟩)
    (g := mkF m pc Ls st) rfl hsize (argsL := argsL) (rest := rest) hlen hst (by show 2 * 0 + _ ≤ _; omega) hd (fun _ _ => ⟨rfl, eT, hcl, hsl⟩)
  exact Goes.aft st' (k T' T'.heap v (callN hS hk hZ hown hC N K S hEL hx Y' h2 (by rw [← eT]; exact hg) q1 q2 q3 hsub A) q3 q0)
/-- invokespecial of a constructor by its contract -/
theorem Wd.callc (X : Wd p l e R s m args below meth c Z a0 EL own n0 SA0 SA T h cells slots) (argsL rest : List Value) {idx : Nat} (ct : Ct l Z EL [] y bytes maxL none rm (.ref a :: argsL).toArray h n0 SA' Q0) (hy1 : y.name = "<init>") (w1 : (Jvm.Cond.methodLink own idx y).before a0 Z = true) (w2 : (Jvm.Cond.instanceMethod y).before a0 Z = true) (w3 : (Jvm.Cond.initialized y.cls).before a0 Z = true) (w4 : (Jvm.Cond.code y bytes maxL none).before a0 Z = true)
    (hy : y.cls ≠ "java/lang/invoke/MethodHandle" ∧ y.cls ≠ "java/lang/invoke/VarHandle") (hsub : ∀ x ∈ SA', x ∈ SA) (hf : rm.frames + 1 ≤ R.frames) (W : Nat) (hl : W + (maxL + 11) + rm.locals ≤ R.locals) (hcl : cells + rm.cells ≤ R.cells) (hsl : slots + rm.slots ≤ R.slots)
    (hlen : ∀ sig, parseMethodDescriptor y.desc = some sig → argsL.length = sig.parameters.length) (hst : st = argsL.reverse ++ .ref a :: rest) (hW : (rest.map fun v => v.category).sum ≤ W) (hsize : Ls.size = c.maxLocals) (hd : decode c.code pc = .ok (.invokespecial idx, 3))
    (k : ∀ (T' : State) (h' : Heap) (v : Option Value), Wd p l e R s m args below meth c Z a0 EL own n0 SA0 SA T' h' (cells + rm.cells) (slots + rm.slots) → Keep h h' SA' → Q0 v h' → Goes p.tables e below Q (T'.setTop (mkF m (pc + 3) Ls (v.toList ++ rest)))) : Goes p.tables e below Q (T.setTop (mkF m pc Ls st)) := by
  obtain ⟨vm0, locs, k0, Y, eT, hS, hk, hZ, hown, hC, N, O, K, S, hEL, hx⟩ := X
  obtain ⟨v, vm1, ⟨T', L', c', s'⟩, -, Y', h2, hg, ⟨L, ⟨q0, q1, q2, q3⟩, rfl, rfl, rfl, A⟩, st'⟩ := Y.specialBackS hx hy1 hown (mvT hZ w1) (mvT hZ w2) (mvT hZ w4) hy (ct.back (a0 := a0) (W := W) (len := 3) hZ w4 w3 hf hl hEL hC.1 O fun x q => ⟨(S x (hsub x q)).1, (S x (hsub x q)).2.1, (S x (hsub x q)).2.2.1⟩)
    (g := mkF m pc Ls st) rfl hsize (Steps.refl _) (a := a) (argsL := argsL) (rest := rest) hlen hst (by show 2 * 0 + _ ≤ _; omega) hd (fun _ _ => ⟨rfl, eT, hcl, hsl⟩)
  exact Goes.aft st' (k T' T'.heap v (callN hS hk hZ hown hC N K S hEL hx Y' h2 (by rw [← eT]; exact hg) q1 q2 q3 hsub A) q3 q0)
/-- invokevirtual by its contract: resolved y, selected z on an object that is exactly a C -/
theorem Wd.callv (X : Wd p l e R s m args below meth c Z a0 EL own n0 SA0 SA T h cells slots) (argsL rest : List Value) {idx : Nat} {C : String} (ct : Ct l Z EL [] y bytes maxL ret rm (.ref a :: argsL).toArray h n0 SA' Q0) (E : Exa Z h a C) (w1 : (Jvm.Cond.methodLink own idx y).before a0 Z = true) (w2 : (Jvm.Cond.declares y).before a0 Z = true) (w3 : (Jvm.Cond.selects C y y).before a0 Z = true) (w4 : (Jvm.Cond.instanceMethod y).before a0 Z = true)
    (w5 : (Jvm.Cond.initialized y.cls).before a0 Z = true) (w6 : (Jvm.Cond.code y bytes maxL ret).before a0 Z = true)
    (hy : y.cls ≠ "java/lang/invoke/MethodHandle" ∧ y.cls ≠ "java/lang/invoke/VarHandle") (hsub : ∀ x ∈ SA', x ∈ SA) (hf : rm.frames + 1 ≤ R.frames) (W : Nat) (hl : W + (maxL + 11) + rm.locals ≤ R.locals) (hcl : cells + rm.cells ≤ R.cells) (hsl : slots + rm.slots ≤ R.slots)
    (hlen : ∀ sig, parseMethodDescriptor y.desc = some sig → argsL.length = sig.parameters.length) (hst : st = argsL.reverse ++ .ref a :: rest) (hW : (rest.map fun v => v.category).sum ≤ W) (hsize : Ls.size = c.maxLocals) (hd : decode c.code pc = .ok (.invokevirtual idx, 3))
    (k : ∀ (T' : State) (h' : Heap) (v : Option Value), Wd p l e R s m args below meth c Z a0 EL own n0 SA0 SA T' h' (cells + rm.cells) (slots + rm.slots) → Keep h h' SA' → Q0 v h' → Goes p.tables e below Q (T'.setTop (mkF m (pc + 3) Ls (v.toList ++ rest)))) : Goes p.tables e below Q (T.setTop (mkF m pc Ls st)) := by
  obtain ⟨vm0, locs, k0, Y, eT, hS, hk, hZ, hown, hC, N, O, K, S, hEL, hx⟩ := X
  obtain ⟨cB, kB, u1, -, u3⟩ := isOf (s := s.setVm vm0) hZ eT E
  obtain ⟨v, vm1, ⟨T', L', c', s'⟩, -, Y', h2, hg, ⟨L, ⟨q0, q1, q2, q3⟩, rfl, rfl, rfl, A⟩, st'⟩ := Y.virtualBackS hx hown (mvT hZ w1) (mvT hZ w2) (notFace_of_selects (args := #[]) (mvT hZ w3)) (mvT hZ w3) (mvT hZ w4) hy (ct.back (a0 := a0) (W := W) (len := 3) hZ w6 w5 hf hl hEL hC.1 O fun x q => ⟨(S x (hsub x q)).1, (S x (hsub x q)).2.1, (S x (hsub x q)).2.2.1⟩)
    u1 u3 (g := mkF m pc Ls st) rfl hsize (Steps.refl _) (argsL := argsL) (rest := rest) hlen hst (by show 2 * 0 + _ ≤ _; omega) hd (fun _ _ => ⟨rfl, eT, hcl, hsl⟩)
  exact Goes.aft st' (k T' T'.heap v (callN hS hk hZ hown hC N K S hEL hx Y' h2 (by rw [← eT]; exact hg) q1 q2 q3 hsub A) q3 q0)
/-- what stands behind a call by a law of the narrow kind (nothing interned), that wrote ws -/
theorem backN {T' : State} {L : List Loc} {k0 cells' slots' : Nat} (hS : s.Since vm0 k0) (hk : k0 ≤ h.size) (hZ : Z.Warmed39 vm0) (hown : vm0.findClass own = some m.cls) (hC : CHr Z EL s.vm s.heap vm0 h) {locs : List Loc} (N : Fr n0 locs) (O : Old Z n0 h) (K : Keep s.heap h SA0) (S : Sfs Z EL vm0 h n0 s.heap.size SA0 SA) (hEL : EW Z a0 EL) (hx : p.tables.exec = Jvm.exec)
    (Y : Stand p l e R (s.setVm vm0) m args below meth c T' (locs ++ L) cells' slots') (hL : Fr n0 L) (K' : Keep h T'.heap SA') (hsub : ∀ x ∈ SA', x ∈ SA) :
    Wd p l e R s m args below meth c Z a0 EL own n0 SA0 SA T' T'.heap cells' slots' := by
  have A := CHr.keep K' (fun x q => (S x (hsub x q)).1) hC.1
  exact ⟨vm0, _, k0, Y, rfl, hS, Nat.le_trans hk K'.1, hZ, hown, hC.trans A, N.app hL, O.keep K' (fun x q => (S x (hsub x q)).2.2.1), K.trans K' (fun x q => (S x (hsub x q)).2.2.2), S.go A, hEL, hx⟩
/-- the ends -/
theorem Wd.leave (X : Wd p l e R s m args below meth c Z a0 EL own n0 SA0 SA T h cells slots) (hv : meth.sig.returnType = none → ∀ w, v = w → False) (hlk : meth.locks = false) (hcl : cells ≤ R.cells) (hsl : slots ≤ R.slots) (q : Q0 (some v) h)
    (st' : ∀ fs, (∀ (f : JFrame) (acts : List Action), f.method = m → f.locked = none → f.entered = [] → (doReturn e (T.setTop f) acts (some v)).1 = T.setFrames fs) → ∀ (vm0 : Vm) (locs : List Loc), Stand p l e R (s.setVm vm0) m args below meth c T locs cells slots → Steps p.tables e below (T.setTop (mkF m pc Ls st)) (T.setFrames fs)) :
    Goes p.tables e below (Endq Z EL s n0 SA0 R Q0) (T.setTop (mkF m pc Ls st)) := by
  have X0 := X
  obtain ⟨vm0, locs, k0, Y, eT, hS, hk, hZ, hown, hC, N, O, K, S, hEL, hx⟩ := X
  obtain ⟨fs, hr, hrun, hended, hE⟩ := (Y.mono hcl hsl).leaveW hS (by rw [eT]; exact hk) (v := some v) (fun q => (hv q v rfl).elim) hlk
  refine ⟨_, _, st' fs hr vm0 locs Y, hrun, hended, _, _, rfl, ⟨?_, N, ?_, ?_⟩, ?_, hE⟩
  · show Q0 (some v) T.heap; rw [eT]; exact q
  · show Old Z n0 T.heap; rw [eT]; exact O
  · show Keep s.heap T.heap SA0; rw [eT]; exact K
  · show CHr Z EL s.vm s.heap T.vm T.heap; rw [eT]; exact hC.trans (CHv.at Y hZ hEL hC.1)
theorem Wd.retn (X : Wd p l e R s m args below meth c Z a0 EL own n0 SA0 SA T h cells slots) (hret : meth.sig.returnType = none) (hlk : meth.locks = false) (hd : decode c.code pc = .ok (.return_, 1)) (hcl : cells ≤ R.cells) (hsl : slots ≤ R.slots) (q : Q0 none h) :
    Goes p.tables e below (Endq Z EL s n0 SA0 R Q0) (T.setTop (mkF m pc Ls [])) := by
  obtain ⟨vm0, locs, k0, Y, eT, hS, hk, hZ, hown, hC, N, O, K, S, hEL, hx⟩ := X
  obtain ⟨fs, hr, hrun, hended, hE⟩ := (Y.mono hcl hsl).leaveW hS (by rw [eT]; exact hk) (v := none) (fun _ => rfl) hlk
  refine ⟨_, _, Y.returnOut hx hret hd hr, hrun, hended, _, _, rfl, ⟨?_, N, ?_, ?_⟩, ?_, hE⟩
  · show Q0 none T.heap; rw [eT]; exact q
  · show Old Z n0 T.heap; rw [eT]; exact O
  · show Keep s.heap T.heap SA0; rw [eT]; exact K
  · show CHr Z EL s.vm s.heap T.vm T.heap; rw [eT]; exact hC.trans (CHv.at Y hZ hEL hC.1)
/-- ireturn of a boolean, byte, char or short -/
theorem Wd.reti (X : Wd p l e R s m args below meth c Z a0 EL own n0 SA0 SA T h cells slots) {t : FieldType} {x : Int32} (hret : meth.sig.returnType = some t) (ht : t = .boolean ∨ t = .byte ∨ t = .char ∨ t = .short) (hlk : meth.locks = false) (hd : decode c.code pc = .ok (.ireturn, 1)) (hcl : cells ≤ R.cells) (hsl : slots ≤ R.slots) (q : Q0 (some (.int (nar t x))) h) :
    Goes p.tables e below (Endq Z EL s n0 SA0 R Q0) (T.setTop (mkF m pc Ls (.int x :: st))) :=
  X.leave (fun q => by rw [hret] at q; cases q) hlk hcl hsl q (fun fs hr vm0 locs Y => retN Y X.exec hret ht hd hr)
/-- ireturn of an int -/
theorem Wd.retI (X : Wd p l e R s m args below meth c Z a0 EL own n0 SA0 SA T h cells slots) {x : Int32} (hret : meth.sig.returnType = some .int) (hlk : meth.locks = false) (hd : decode c.code pc = .ok (.ireturn, 1)) (hcl : cells ≤ R.cells) (hsl : slots ≤ R.slots) (q : Q0 (some (.int x)) h) :
    Goes p.tables e below (Endq Z EL s n0 SA0 R Q0) (T.setTop (mkF m pc Ls (.int x :: st))) :=
  X.leave (fun q => by rw [hret] at q; cases q) hlk hcl hsl q (fun fs hr vm0 locs Y => retOut Y X.exec hret rfl (Or.inl ⟨rfl, Or.inl rfl, _, rfl⟩) hd hr)
/-- areturn -/
theorem Wd.retA (X : Wd p l e R s m args below meth c Z a0 EL own n0 SA0 SA T h cells slots) {t : FieldType} {x : Value} (hret : meth.sig.returnType = some t) (ht : t.isReference = true) (hx : x.isRef = true) (hlk : meth.locks = false) (hd : decode c.code pc = .ok (.areturn, 1)) (hcl : cells ≤ R.cells) (hsl : slots ≤ R.slots) (q : Q0 (some x) h) :
    Goes p.tables e below (Endq Z EL s n0 SA0 R Q0) (T.setTop (mkF m pc Ls (x :: st))) :=
  X.leave (fun q => by rw [hret] at q; cases q) hlk hcl hsl q (fun fs hr vm0 locs Y => retOut Y X.exec hret (by cases t <;> cases x <;> first | rfl | cases ht | cases hx) (Or.inr (Or.inr (Or.inr (Or.inr ⟨rfl, ht, hx⟩)))) hd hr)
end Wide
end Own
namespace Own
open Jvm Jvm.ClassFile Sem Op Lib Jvm.Free Jvm.Stand Jvm.LawKit Jvm.RoadKit Bundle
/-- as Ct, and it hands out F: cells that it made and that may be written -/
def CtF (l : Launch) (Z : State) (EL : List (String × Nat)) (ws : List Jvm.Cond) (y : MethodName) (bytes : ByteArray) (maxL : Nat) (ret : Option FieldType) (rm : Room) (as' : Array Value) (h0 : Heap) (n0 : Nat) (SA0 : List Addr) (Q0 : Option Value → Heap → List Addr → Prop) : Prop :=
  MetFree l y (head1 (Jvm.Cond.code y bytes maxL ret :: ws) rm) (fun a U => a = as' ∧ Z.Warmed39 U.vm ∧ U.heap = h0 ∧ CHv Z EL U.vm h0 ∧ Old Z n0 h0 ∧ ∀ x ∈ SA0, Safe Z EL U.vm h0 x ∧ x < h0.size ∧ n0 ≤ x) (fun _ _ _ _ _ => True)
    (fun _ U o U' => ∃ v L, o = .returned v ∧ (∃ F, Q0 v U'.heap F ∧ (Fr n0 L ∧ Old Z n0 U'.heap ∧ Keep h0 U'.heap SA0) ∧ ∀ x ∈ F, Safe Z EL U'.vm U'.heap x ∧ x < U'.heap.size ∧ n0 ≤ x ∧ h0.size ≤ x) ∧ CHr Z EL U.vm U.heap U'.vm U'.heap ∧ ReturnedEndW U o U' L rm.cells rm.slots)
def EndqF (Z : State) (EL : List (String × Nat)) (s : State) (n0 : Nat) (SA0 : List Addr) (rm : Room) (Q0 : Option Value → Heap → List Addr → Prop) (o : Outcome) (U' : State) : Prop :=
  ∃ v L, o = .returned v ∧ (∃ F, Q0 v U'.heap F ∧ (Fr n0 L ∧ Old Z n0 U'.heap ∧ Keep s.heap U'.heap SA0) ∧ ∀ x ∈ F, Safe Z EL U'.vm U'.heap x ∧ x < U'.heap.size ∧ n0 ≤ x ∧ s.heap.size ≤ x) ∧ CHr Z EL s.vm s.heap U'.vm U'.heap ∧ ReturnedEndW s o U' L rm.cells rm.slots
section Wide
variable {p : Program} {l : Launch} {e : Env} {R : Room} {s : State} {m : MethodId} {args : Array Value} {below : List Frame} {meth : Method} {c : Code}
variable {Z : State} {a0 : Array Value} {EL : List (String × Nat)} {own : String} {n0 : Nat} {SA0 SA SA' : List Addr} {T : State} {h h' h0 : Heap} {cells slots : Nat} {Q : Outcome → State → Prop} {pc : Nat} {Ls : Array Slot} {st : List Value} {vm0 vm1 : Vm} {a : Addr} {sl : Nat} {v : Value}
variable {ws : List Jvm.Cond} {y z : MethodName} {bytes : ByteArray} {maxL : Nat} {ret : Option FieldType} {rm : Room} {as' : Array Value} {Q0 : Option Value → Heap → List Addr → Prop} {Q1 : Option Value → Heap → Prop}
theorem CtF.enter (pn : plainFor y = true) (hEL : EW Z a0 EL)
    (body : ∀ (p : Program) (e : Env) (s : State) (m : MethodId) (below : List Frame) (meth : Method) (c : Code) (T : State), c.code = bytes → c.maxLocals = maxL → meth.sig.returnType = ret → meth.locks = false → meth.name = y.name → s.heap = h0 → Wd p l e rm s m as' below meth c Z a0 EL y.cls n0 SA0 SA0 T h0 0 0 →
      Goes p.tables e below (EndqF Z EL s n0 SA0 rm Q0) (T.setTop (entryFrame m as' maxL))) : CtF l Z EL ws y bytes maxL ret rm as' h0 n0 SA0 Q0 := by
  refine MetFree.of_bodySF pn hisR ?_
  intro p e s m args below meth c s₁ Bd hml0 hP hK
  obtain ⟨rfl, hZ, rfl, H, O, S⟩ := hP
  have Y : Stand p l e rm s m args below meth c s₁ [] 0 0 := Stand.of_body Bd
  have e0 : s₁.heap = s.heap := by rw [Bd.state]; rfl
  obtain ⟨s₂, o, h1, h2, h3, v, L, h4, h5, h6, h7⟩ := body p e s m below meth c s₁ Bd.bytes hml0 Bd.returns (BodyLoose.notSynchronized Bd) (name_of_methodNamed Bd.named Bd.method).1 rfl
    ⟨s.vm, [], 0, Y, e0, (State.WarmedH.refl s).since _, Nat.zero_le _, hZ, findClass_of_methodNamed Bd.named, CHr.refl H, Fr.nil _, O, Keep.refl _ _, fun x q => ⟨(S x q).1, (S x q).2.1, (S x q).2.2, Or.inl q⟩, hEL, Bd.exec⟩
  exact ⟨s₂, o, h1, h2, h3, v, L, h4, h5, h6, h7⟩
/-- a contract that hands out nothing, as one that hands out the empty list -/
theorem Ct.toF (ct : Ct l Z EL ws y bytes maxL ret rm as' h0 n0 SA0 Q1) : CtF l Z EL ws y bytes maxL ret rm as' h0 n0 SA0 (fun v h F => F = [] ∧ Q1 v h) := fun p e h1 h2 h3 s m args below h4 h5 h6 h7 => by
  obtain ⟨n, o, g1, g2, g3, v, L, g4, ⟨q1, q2, q3, q4⟩, g5, g6⟩ := ct p e h1 h2 h3 s m args below h4 h5 h6 h7
  exact ⟨n, o, g1, g2, g3, v, L, g4, ⟨[], ⟨rfl, q1⟩, ⟨q2, q3, q4⟩, fun _ q => nomatch q⟩, g5, g6⟩
theorem CtF.back {len W : Nat} (ct : CtF l Z EL [] y bytes maxL ret rm as' h n0 SA0 Q0) (hZ : Z.Warmed39 vm0) (wc : (Jvm.Cond.code y bytes maxL ret).before a0 Z = true) (wz : (Jvm.Cond.initialized y.cls).before a0 Z = true) (hf : rm.frames + 1 ≤ R.frames) (hl : W + (maxL + 11) + rm.locals ≤ R.locals) (hEL : EW Z a0 EL) (H : CHv Z EL vm0 h) (O : Old Z n0 h)
    (S : ∀ x ∈ SA0, Safe Z EL vm0 h x ∧ x < h.size ∧ n0 ≤ x) :
    BackS l R p e below (s.setVm vm0) args y len W (fun A a => a = as' ∧ A.U.heap = h ∧ A.cells + rm.cells ≤ R.cells ∧ A.slots + rm.slots ≤ R.slots)
      (fun A _ v B => ∃ L, (∃ F, Q0 v B.U.heap F ∧ (Fr n0 L ∧ Old Z n0 B.U.heap ∧ Keep h B.U.heap SA0) ∧ ∀ x ∈ F, Safe Z EL B.U.vm B.U.heap x ∧ x < B.U.heap.size ∧ n0 ≤ x ∧ h.size ≤ x) ∧ B.locs = A.locs ++ L ∧ B.cells = A.cells + rm.cells ∧ B.slots = A.slots + rm.slots ∧ CHr Z EL vm0 h B.U.vm B.U.heap) :=
  BackS.of_freeW (bytes := bytes) (maxL := maxL) (ret := ret) (E := fun _ first o t L k n => k = rm.cells ∧ n = rm.slots ∧ (∃ v, o = .returned v ∧ (∃ F, Q0 v t.heap F ∧ (Fr n0 L ∧ Old Z n0 t.heap ∧ Keep h t.heap SA0) ∧ ∀ x ∈ F, Safe Z EL t.vm t.heap x ∧ x < t.heap.size ∧ n0 ≤ x ∧ h.size ≤ x)) ∧ CHr Z EL first.vm first.heap t.vm t.heap) ct hf hl
    (fun m meth c A a Y hp => have hU : Z.Warmed39 A.U.vm := wtrans (s := s.setVm vm0) hZ Y.warmed
      ⟨by show (Jvm.Cond.and _ .tt).before a A.U = true; rw [Cond.before_and, mv hU wc]; rfl, mv hU wc, mv hU wz, hp.2.2.1, hp.2.2.2⟩)
    (fun m meth c A a g mk Y hp => ⟨hp.1, wtrans (s := s.setVm vm0) hZ Y.warmed, hp.2.1, (CHv.at Y hZ hEL H).1, O, fun x q => ⟨(CHv.at Y hZ hEL H).safe (S x q).2.1 (S x q).1, (S x q).2⟩⟩) (fun _ _ _ _ _ _ _ _ _ => trivial)
    (fun _ _ _ _ ⟨v, L, h1, h2, h3, h4⟩ => ⟨L, _, _, h4, rfl, rfl, ⟨v, h1, h2⟩, h3⟩)
    (fun m meth c A a g mk v t L k n Y hp _ _ ⟨e1, e2, ⟨v', e3, e4⟩, e5⟩ => by
      cases e3; subst e1 e2
      refine ⟨L, e4, rfl, rfl, rfl, (CHv.at Y hZ hEL H).trans ?_⟩
      rw [← hp.2.1]; exact e5)
/-- what stands behind a call by such a contract -/
theorem callNF {T' : State} {L : List Loc} {F : List Addr} {k0 cells' slots' : Nat} (hS : s.Since vm0 k0) (hk : k0 ≤ h.size) (hZ : Z.Warmed39 vm0) (hown : vm0.findClass own = some m.cls) (hC : CHr Z EL s.vm s.heap vm0 h) {locs : List Loc} (N : Fr n0 locs) (K : Keep s.heap h SA0) (S : Sfs Z EL vm0 h n0 s.heap.size SA0 SA) (hEL : EW Z a0 EL) (hx : p.tables.exec = Jvm.exec)
    (Y : Stand p l e R ((s.setVm vm0).setVm T'.vm) m args below meth c T' (locs ++ L) cells' slots') (h2 : (s.setVm vm0).Since T'.vm T'.heap.size) (hg : h.size ≤ T'.heap.size) (hL : Fr n0 L) (O' : Old Z n0 T'.heap) (K' : Keep h T'.heap SA') (hsub : ∀ x ∈ SA', x ∈ SA) (A : CHr Z EL vm0 h T'.vm T'.heap)
    (hF : ∀ x ∈ F, Safe Z EL T'.vm T'.heap x ∧ x < T'.heap.size ∧ n0 ≤ x ∧ h.size ≤ x) :
    Wd p l e R s m args below meth c Z a0 EL own n0 SA0 (F ++ SA) T' T'.heap cells' slots' := by
  obtain ⟨r1, r2, r3, r4⟩ := rebS (own := own) hS hk Y h2 hg hZ hown
  refine ⟨T'.vm, _, _, r1, rfl, r2, Nat.le_refl _, r3, r4, hC.trans A, N.app hL, O', K.trans K' (fun x q => (S x (hsub x q)).2.2.2), fun x q => ?_, hEL, hx⟩
  rcases List.mem_append.mp q with q | q
  · exact ⟨(hF x q).1, (hF x q).2.1, (hF x q).2.2.1, Or.inr (Nat.le_trans K.1 (hF x q).2.2.2)⟩
  · exact S.go A x q
theorem Wd.callsF (X : Wd p l e R s m args below meth c Z a0 EL own n0 SA0 SA T h cells slots) (argsL rest : List Value) {idx : Nat} (ct : CtF l Z EL [] y bytes maxL ret rm argsL.toArray h n0 SA' Q0) (w1 : (Jvm.Cond.methodLink own idx y).before a0 Z = true) (w2 : (Jvm.Cond.static y).before a0 Z = true) (w3 : (Jvm.Cond.initialized y.cls).before a0 Z = true) (w4 : (Jvm.Cond.code y bytes maxL ret).before a0 Z = true)
    (hy : y.cls ≠ "java/lang/invoke/MethodHandle" ∧ y.cls ≠ "java/lang/invoke/VarHandle") (hsub : ∀ x ∈ SA', x ∈ SA) (hf : rm.frames + 1 ≤ R.frames) (W : Nat) (hl : W + (maxL + 11) + rm.locals ≤ R.locals) (hcl : cells + rm.cells ≤ R.cells) (hsl : slots + rm.slots ≤ R.slots)
    (hlen : ∀ sig, parseMethodDescriptor y.desc = some sig → argsL.length = sig.parameters.length) (hst : st = argsL.reverse ++ rest) (hW : (rest.map fun v => v.category).sum ≤ W) (hsize : Ls.size = c.maxLocals) (hd : decode c.code pc = .ok (.invokestatic idx, 3))
    (k : ∀ (T' : State) (h' : Heap) (v : Option Value) (F : List Addr), Wd p l e R s m args below meth c Z a0 EL own n0 SA0 (F ++ SA) T' h' (cells + rm.cells) (slots + rm.slots) → Keep h h' SA' → (∀ x ∈ F, h.size ≤ x) → Q0 v h' F → Goes p.tables e below Q (T'.setTop (mkF m (pc + 3) Ls (v.toList ++ rest)))) : Goes p.tables e below Q (T.setTop (mkF m pc Ls st)) := by
  obtain ⟨vm0, locs, k0, Y, eT, hS, hk, hZ, hown, hC, N, O, K, S, hEL, hx⟩ := X
  obtain ⟨v, vm1, ⟨T', L', c', s'⟩, -, Y', h2, hg, ⟨L, ⟨F, q0, ⟨q1, q2, q3⟩, hF⟩, rfl, rfl, rfl, A⟩, st'⟩ := callSS Y hx hown (mvT hZ w1) (mvT hZ w2) (mvT hZ w3) (mvT hZ w4) hy (ct.back (a0 := a0) (W := W) (len := 3) hZ w4 w3 hf hl hEL hC.1 O fun x q => ⟨(S x (hsub x q)).1, (S x (hsub x q)).2.1, (S x (hsub x q)).2.2.1⟩)
    (g := mkF m pc Ls st) rfl hsize (argsL := argsL) (rest := rest) hlen hst (by show 2 * 0 + _ ≤ _; omega) hd (fun _ _ => ⟨rfl, eT, hcl, hsl⟩)
  exact Goes.aft st' (k T' T'.heap v F (callNF hS hk hZ hown hC N K S hEL hx Y' h2 (by rw [← eT]; exact hg) q1 q2 q3 hsub A hF) q3 (fun x q => (hF x q).2.2.2) q0)
theorem Wd.callcF (X : Wd p l e R s m args below meth c Z a0 EL own n0 SA0 SA T h cells slots) (argsL rest : List Value) {idx : Nat} (ct : CtF l Z EL [] y bytes maxL none rm (.ref a :: argsL).toArray h n0 SA' Q0) (hy1 : y.name = "<init>") (w1 : (Jvm.Cond.methodLink own idx y).before a0 Z = true) (w2 : (Jvm.Cond.instanceMethod y).before a0 Z = true) (w3 : (Jvm.Cond.initialized y.cls).before a0 Z = true) (w4 : (Jvm.Cond.code y bytes maxL none).before a0 Z = true)
    (hy : y.cls ≠ "java/lang/invoke/MethodHandle" ∧ y.cls ≠ "java/lang/invoke/VarHandle") (hsub : ∀ x ∈ SA', x ∈ SA) (hf : rm.frames + 1 ≤ R.frames) (W : Nat) (hl : W + (maxL + 11) + rm.locals ≤ R.locals) (hcl : cells + rm.cells ≤ R.cells) (hsl : slots + rm.slots ≤ R.slots)
    (hlen : ∀ sig, parseMethodDescriptor y.desc = some sig → argsL.length = sig.parameters.length) (hst : st = argsL.reverse ++ .ref a :: rest) (hW : (rest.map fun v => v.category).sum ≤ W) (hsize : Ls.size = c.maxLocals) (hd : decode c.code pc = .ok (.invokespecial idx, 3))
    (k : ∀ (T' : State) (h' : Heap) (v : Option Value) (F : List Addr), Wd p l e R s m args below meth c Z a0 EL own n0 SA0 (F ++ SA) T' h' (cells + rm.cells) (slots + rm.slots) → Keep h h' SA' → (∀ x ∈ F, h.size ≤ x) → Q0 v h' F → Goes p.tables e below Q (T'.setTop (mkF m (pc + 3) Ls (v.toList ++ rest)))) : Goes p.tables e below Q (T.setTop (mkF m pc Ls st)) := by
  obtain ⟨vm0, locs, k0, Y, eT, hS, hk, hZ, hown, hC, N, O, K, S, hEL, hx⟩ := X
  obtain ⟨v, vm1, ⟨T', L', c', s'⟩, -, Y', h2, hg, ⟨L, ⟨F, q0, ⟨q1, q2, q3⟩, hF⟩, rfl, rfl, rfl, A⟩, st'⟩ := Y.specialBackS hx hy1 hown (mvT hZ w1) (mvT hZ w2) (mvT hZ w4) hy (ct.back (a0 := a0) (W := W) (len := 3) hZ w4 w3 hf hl hEL hC.1 O fun x q => ⟨(S x (hsub x q)).1, (S x (hsub x q)).2.1, (S x (hsub x q)).2.2.1⟩)
    (g := mkF m pc Ls st) rfl hsize (Steps.refl _) (a := a) (argsL := argsL) (rest := rest) hlen hst (by show 2 * 0 + _ ≤ _; omega) hd (fun _ _ => ⟨rfl, eT, hcl, hsl⟩)
  exact Goes.aft st' (k T' T'.heap v F (callNF hS hk hZ hown hC N K S hEL hx Y' h2 (by rw [← eT]; exact hg) q1 q2 q3 hsub A hF) q3 (fun x q => (hF x q).2.2.2) q0)
theorem Wd.callvF (X : Wd p l e R s m args below meth c Z a0 EL own n0 SA0 SA T h cells slots) (argsL rest : List Value) {idx : Nat} {C : String} (ct : CtF l Z EL [] z bytes maxL ret rm (.ref a :: argsL).toArray h n0 SA' Q0) (E : Exa Z h a C) (w1 : (Jvm.Cond.methodLink own idx y).before a0 Z = true) (w2 : (Jvm.Cond.declares y).before a0 Z = true) (w3 : (Jvm.Cond.selects C y z).before a0 Z = true) (w4 : (Jvm.Cond.instanceMethod z).before a0 Z = true)
    (hnf : NotFace Z y) (w5 : (Jvm.Cond.initialized z.cls).before a0 Z = true) (w6 : (Jvm.Cond.code z bytes maxL ret).before a0 Z = true)
    (hy : y.cls ≠ "java/lang/invoke/MethodHandle" ∧ y.cls ≠ "java/lang/invoke/VarHandle") (hsub : ∀ x ∈ SA', x ∈ SA) (hf : rm.frames + 1 ≤ R.frames) (W : Nat) (hl : W + (maxL + 11) + rm.locals ≤ R.locals) (hcl : cells + rm.cells ≤ R.cells) (hsl : slots + rm.slots ≤ R.slots)
    (hlen : ∀ sig, parseMethodDescriptor y.desc = some sig → argsL.length = sig.parameters.length) (hst : st = argsL.reverse ++ .ref a :: rest) (hW : (rest.map fun v => v.category).sum ≤ W) (hsize : Ls.size = c.maxLocals) (hd : decode c.code pc = .ok (.invokevirtual idx, 3))
    (k : ∀ (T' : State) (h' : Heap) (v : Option Value) (F : List Addr), Wd p l e R s m args below meth c Z a0 EL own n0 SA0 (F ++ SA) T' h' (cells + rm.cells) (slots + rm.slots) → Keep h h' SA' → (∀ x ∈ F, h.size ≤ x) → Q0 v h' F → Goes p.tables e below Q (T'.setTop (mkF m (pc + 3) Ls (v.toList ++ rest)))) : Goes p.tables e below Q (T.setTop (mkF m pc Ls st)) := by
  obtain ⟨vm0, locs, k0, Y, eT, hS, hk, hZ, hown, hC, N, O, K, S, hEL, hx⟩ := X
  obtain ⟨cB, kB, u1, -, u3⟩ := isOf (s := s.setVm vm0) hZ eT E
  have hnf' : NotFace (s.setVm vm0) y := fun r0 h0 => by
    have h0' : Z.methodNamed? y = some r0 := by
      have q : (Z.setVm vm0).methodNamed? y = Z.methodNamed? y := State.methodNamed?_setVm hZ.alike y
      have q' : (Z.setVm vm0).methodNamed? y = (s.setVm vm0).methodNamed? y := rfl
      rw [← q, q']; exact h0
    obtain ⟨k, hk1, hk2⟩ := hnf r0 h0'
    obtain ⟨k', g1, g2⟩ := hZ.alike.2.2 _ _ hk1
    exact ⟨k', g1, by rw [g2]; exact hk2⟩
  obtain ⟨v, vm1, ⟨T', L', c', s'⟩, -, Y', h2, hg, ⟨L, ⟨F, q0, ⟨q1, q2, q3⟩, hF⟩, rfl, rfl, rfl, A⟩, st'⟩ := Y.virtualBackS hx hown (mvT hZ w1) (mvT hZ w2) hnf' (mvT hZ w3) (mvT hZ w4) hy (ct.back (a0 := a0) (W := W) (len := 3) hZ w6 w5 hf hl hEL hC.1 O fun x q => ⟨(S x (hsub x q)).1, (S x (hsub x q)).2.1, (S x (hsub x q)).2.2.1⟩)
    u1 u3 (g := mkF m pc Ls st) rfl hsize (Steps.refl _) (argsL := argsL) (rest := rest) hlen hst (by show 2 * 0 + _ ≤ _; omega) hd (fun _ _ => ⟨rfl, eT, hcl, hsl⟩)
  exact Goes.aft st' (k T' T'.heap v F (callNF hS hk hZ hown hC N K S hEL hx Y' h2 (by rw [← eT]; exact hg) q1 q2 q3 hsub A hF) q3 (fun x q => (hF x q).2.2.2) q0)
theorem decOf {y : MethodName} {bytes : ByteArray} {maxL : Nat} {ret : Option FieldType} (w1 : (Jvm.Cond.instanceMethod y).before a0 Z = true) (w2 : (Jvm.Cond.code y bytes maxL ret).before a0 Z = true) : (Jvm.Cond.declares y).before a0 Z = true := by
  obtain ⟨mk, methM, hnamed, hmethM, hst, -⟩ := Cond.instanceMethod_spec w1
  obtain ⟨m2, cM, q1, -, -, -, -, -, -, hsig⟩ := Cond.code_spec hnamed w2
  cases hmethM.symm.trans q1
  simp [Cond.before, Cond.holds, Cond.value, hnamed, hmethM, hst, hsig]
theorem nfOf {y y' z' : MethodName} {C : String} (ws : (Jvm.Cond.selects C y' z').before a0 Z = true) (e : z'.cls = y.cls) : NotFace Z y := fun r0 h0 => by
  obtain ⟨c2, r2, m2, -, -, q3, -, kP, hkP, hkPi⟩ := Cond.selects_spec ws
  have hc := findClass_of_methodNamed h0
  have hc' := findClass_of_methodNamed q3
  rw [e] at hc'
  have : m2.cls = r0.cls := Option.some.inj (hc'.symm.trans hc)
  exact ⟨kP, by rw [← this]; exact hkP, hkPi⟩
/-- that a class declares y itself and is no interface: what a lookup through it finds -/
theorem smOf {y y' z' : MethodName} {C : String} (w : (Jvm.Cond.instanceMethod y).before a0 Z = true) (ws : (Jvm.Cond.selects C y' z').before a0 Z = true) (e : z'.cls = y.cls) (hy : y.cls ≠ "java/lang/invoke/MethodHandle" ∧ y.cls ≠ "java/lang/invoke/VarHandle") : (Jvm.Cond.sameMethod y.cls y.cls y.name y.desc).before a0 Z = true := by
  obtain ⟨mk, methM, hnamed, hmethM, -, -⟩ := Cond.instanceMethod_spec w
  obtain ⟨c2, r2, m2, -, -, q3, -, kP, hkP, hkPi⟩ := Cond.selects_spec ws
  have hc := findClass_of_methodNamed hnamed
  have hc' := findClass_of_methodNamed q3
  rw [e] at hc'
  have e1 := Option.some.inj (hc.symm.trans hc')
  rw [← e1] at hkP
  have hf := State.methodFound?_of_named hnamed hy
  have hn2 : Z.methodNamed? ⟨y.cls, y.name, y.desc⟩ = some mk := hnamed
  simp [Cond.before, Cond.holds, Cond.value, hc, hf, hn2, hkP, hkPi]
/-- invokespecial of a superclass's method -/
theorem Wd.callu (X : Wd p l e R s m args below meth c Z a0 EL own n0 SA0 SA T h cells slots) (argsL rest : List Value) {idx : Nat} {C : String} (ct : CtF l Z EL [] y bytes maxL ret rm (.ref a :: argsL).toArray h n0 SA' Q0) (E : Exa Z h a C) (w1 : (Jvm.Cond.methodLink own idx y).before a0 Z = true) (w2 : (Jvm.Cond.sameMethod y.cls y.cls y.name y.desc).before a0 Z = true) (w3 : (Jvm.Cond.instanceMethod y).before a0 Z = true) (w4 : (Jvm.Cond.superclass own y.cls).before a0 Z = true) (hn : y.name ≠ "<init>")
    (w5 : (Jvm.Cond.initialized y.cls).before a0 Z = true) (w6 : (Jvm.Cond.code y bytes maxL ret).before a0 Z = true) (hsub : ∀ x ∈ SA', x ∈ SA) (hf : rm.frames + 1 ≤ R.frames) (W : Nat) (hl : W + (maxL + 11) + rm.locals ≤ R.locals) (hcl : cells + rm.cells ≤ R.cells) (hsl : slots + rm.slots ≤ R.slots)
    (hlen : ∀ sig, parseMethodDescriptor y.desc = some sig → argsL.length = sig.parameters.length) (hst : st = argsL.reverse ++ .ref a :: rest) (hW : (rest.map fun v => v.category).sum ≤ W) (hsize : Ls.size = c.maxLocals) (hd : decode c.code pc = .ok (.invokespecial idx, 3))
    (k : ∀ (T' : State) (h' : Heap) (v : Option Value) (F : List Addr), Wd p l e R s m args below meth c Z a0 EL own n0 SA0 (F ++ SA) T' h' (cells + rm.cells) (slots + rm.slots) → Keep h h' SA' → (∀ x ∈ F, h.size ≤ x) → Q0 v h' F → Goes p.tables e below Q (T'.setTop (mkF m (pc + 3) Ls (v.toList ++ rest)))) : Goes p.tables e below Q (T.setTop (mkF m pc Ls st)) := by
  obtain ⟨vm0, locs, k0, Y, eT, hS, hk, hZ, hown, hC, N, O, K, S, hEL, hx⟩ := X
  obtain ⟨v, vm1, ⟨T', L', c', s'⟩, -, Y', h2, hg, ⟨L, ⟨F, q0, ⟨q1, q2, q3⟩, hF⟩, rfl, rfl, rfl, A⟩, st'⟩ := superBackS Y hx hZ hown w1 w2 w3 w4 hn (ct.back (a0 := a0) (W := W) (len := 3) hZ w6 w5 hf hl hEL hC.1 O fun x q => ⟨(S x (hsub x q)).1, (S x (hsub x q)).2.1, (S x (hsub x q)).2.2.1⟩)
    eT (Ins.self E) (g := mkF m pc Ls st) rfl hsize w6 (argsL := argsL) (rest := rest) hlen hst (by show 2 * 0 + _ ≤ _; omega) hd (fun _ _ => ⟨rfl, eT, hcl, hsl⟩)
  exact Goes.aft st' (k T' T'.heap v F (callNF hS hk hZ hown hC N K S hEL hx Y' h2 (by rw [← eT]; exact hg) q1 q2 q3 hsub A hF) q3 (fun x q => (hF x q).2.2.2) q0)
/-- the ends -/
theorem Wd.leaveF (X : Wd p l e R s m args below meth c Z a0 EL own n0 SA0 SA T h cells slots) (F : List Addr) (hF : ∀ x ∈ F, x ∈ SA ∧ s.heap.size ≤ x) {w : Option Value} (hv : meth.sig.returnType = none → w = none) (hlk : meth.locks = false) (hcl : cells ≤ R.cells) (hsl : slots ≤ R.slots) (q : Q0 w h F)
    (st' : ∀ fs, (∀ (f : JFrame) (acts : List Action), f.method = m → f.locked = none → f.entered = [] → (doReturn e (T.setTop f) acts w).1 = T.setFrames fs) → ∀ (vm0 : Vm) (locs : List Loc), Stand p l e R (s.setVm vm0) m args below meth c T locs cells slots → Steps p.tables e below (T.setTop (mkF m pc Ls st)) (T.setFrames fs)) :
    Goes p.tables e below (EndqF Z EL s n0 SA0 R Q0) (T.setTop (mkF m pc Ls st)) := by
  obtain ⟨vm0, locs, k0, Y, eT, hS, hk, hZ, hown, hC, N, O, K, S, hEL, hx⟩ := X
  obtain ⟨fs, hr, hrun, hended, hE⟩ := (Y.mono hcl hsl).leaveW hS (by rw [eT]; exact hk) (v := w) hv hlk
  have A := CHv.at Y hZ hEL hC.1
  refine ⟨_, _, st' fs hr vm0 locs Y, hrun, hended, _, _, rfl, ⟨F, ?_, ⟨N, ?_, ?_⟩, fun x hx => ?_⟩, ?_, hE⟩
  · show Q0 w T.heap F; rw [eT]; exact q
  · show Old Z n0 T.heap; rw [eT]; exact O
  · show Keep s.heap T.heap SA0; rw [eT]; exact K
  · obtain ⟨g1, g2⟩ := hF x hx
    show Safe Z EL T.vm T.heap x ∧ x < T.heap.size ∧ n0 ≤ x ∧ s.heap.size ≤ x
    rw [eT]; exact ⟨A.safe (S x g1).2.1 (S x g1).1, (S x g1).2.1, (S x g1).2.2.1, g2⟩
  · show CHr Z EL s.vm s.heap T.vm T.heap; rw [eT]; exact hC.trans A
theorem Wd.retnF (X : Wd p l e R s m args below meth c Z a0 EL own n0 SA0 SA T h cells slots) (F : List Addr) (hF : ∀ x ∈ F, x ∈ SA ∧ s.heap.size ≤ x) (hret : meth.sig.returnType = none) (hlk : meth.locks = false) (hd : decode c.code pc = .ok (.return_, 1)) (hcl : cells ≤ R.cells) (hsl : slots ≤ R.slots) (q : Q0 none h F) :
    Goes p.tables e below (EndqF Z EL s n0 SA0 R Q0) (T.setTop (mkF m pc Ls [])) :=
  X.leaveF F hF (fun _ => rfl) hlk hcl hsl q (fun fs hr vm0 locs Y => Y.returnOut X.exec hret hd hr)
theorem Wd.retAF (X : Wd p l e R s m args below meth c Z a0 EL own n0 SA0 SA T h cells slots) (F : List Addr) (hF : ∀ x ∈ F, x ∈ SA ∧ s.heap.size ≤ x) {t : FieldType} {x : Value} (hret : meth.sig.returnType = some t) (ht : t.isReference = true) (hx : x.isRef = true) (hlk : meth.locks = false) (hd : decode c.code pc = .ok (.areturn, 1)) (hcl : cells ≤ R.cells) (hsl : slots ≤ R.slots) (q : Q0 (some x) h F) :
    Goes p.tables e below (EndqF Z EL s n0 SA0 R Q0) (T.setTop (mkF m pc Ls (x :: st))) :=
  X.leaveF F hF (fun q => by rw [hret] at q; cases q) hlk hcl hsl q (fun fs hr vm0 locs Y => retOut Y X.exec hret (by cases t <;> cases x <;> first | rfl | cases ht | cases hx) (Or.inr (Or.inr (Or.inr (Or.inr ⟨rfl, ht, hx⟩)))) hd hr)
/-- baload of a byte[] -/
theorem Wd.baload (X : Wd p l e R s m args below meth c Z a0 EL own n0 SA0 SA T h cells slots) {kb : ClassId} {n j : Int32} {vs : List Value} {dv v : Value} (V : Arv Z h a kb .byte n vs dv) (hj : ¬ j < 0 ∧ j < n) (hv : vs.getD j.toNatClampNeg dv = v) (hd : decode c.code pc = .ok (.baload, 1))
    (g : Goes p.tables e below Q (T.setTop (mkF m (pc + 1) Ls (v :: st)))) : Goes p.tables e below Q (T.setTop (mkF m pc Ls (.int j :: .ref a :: st))) := by
  obtain ⟨vm0, locs, k0, Y, eT, r2, r3, r4, r5, r⟩ := X
  obtain ⟨cl, A, v1, v2, v3, v4, v5⟩ := V
  exact Goes.via (fun t => Y.baloadBytes r.2.2.2.2.2.2 (by rw [eT]; exact A.1) (State.isArrayOf_alike r4.alike A.2.1) A.2.2 (inb_of v2 hj) (v4.at (inb_of v2 hj) hv) (g := mkF m pc Ls (.int j :: .ref a :: st)) rfl rfl hd t) g
/-- System.arraycopy of bytes -/
theorem Wd.acopy (X : Wd p l e R s m args below meth c Z a0 EL own n0 SA0 SA T h cells slots) {idx : Nat} {b : Addr} {k1 k2 : ClassId} {z1 z2 sp dp nn : Int32} {vs vd us : List Value} {d1 d2 : Value} (w1 : (Jvm.Cond.methodLink own idx Jvm.Stand.acN).before a0 Z = true) (w2 : (Jvm.Cond.native Jvm.Stand.acN).before a0 Z = true) (w3 : (Jvm.Cond.static Jvm.Stand.acN).before a0 Z = true) (w4 : (Jvm.Cond.initialized "java/lang/System").before a0 Z = true)
    (A : Arv Z h a k1 .byte z1 vs d1) (B : Arv Z h b k2 .byte z2 vd d2) (h1 : ¬ sp < 0) (h2 : ¬ dp < 0) (h3 : ¬ nn < 0) (h4 : sp.toNatClampNeg + nn.toNatClampNeg ≤ z1.toNatClampNeg) (h5 : dp.toNatClampNeg + nn.toNatClampNeg ≤ z2.toNatClampNeg)
    (hus : us = (List.range nn.toNatClampNeg).map fun i => vs.getD (sp.toNatClampNeg + i) d1) (hl : dp.toNatClampNeg + nn.toNatClampNeg ≤ vd.length) (q : b ∈ SA) (hsize : Ls.size = c.maxLocals) (hd : decode c.code pc = .ok (.invokestatic idx, 3)) (hf : 1 ≤ R.frames) (W : Nat) (hW : (st.map fun v => v.category).sum ≤ W) (hlo : W + 18 ≤ R.locals)
    (k : ∀ (T' : State) (h' : Heap), Wd p l e R s m args below meth c Z a0 EL own n0 SA0 SA T' h' cells slots → Keep h h' [b] → Arv Z h' b k2 .byte z2 (vd.take dp.toNatClampNeg ++ us ++ vd.drop (dp.toNatClampNeg + nn.toNatClampNeg)) d2 → Goes p.tables e below Q (T'.setTop (mkF m (pc + 3) Ls st))) : Goes p.tables e below Q (T.setTop (mkF m pc Ls (.int nn :: .int dp :: .ref b :: .int sp :: .ref a :: st))) := by
  have hsa := X.saf q
  obtain ⟨vm0, locs, k0, Y, eT, hS, hk, hZ, hown, hC, N, O, K, S, hEL, hx⟩ := X
  obtain ⟨T', h', L, Y', e', N', K', B', st'⟩ := cpA Y hx hZ hown w1 w2 w3 w4 eT A B (Or.inl ⟨rfl, rfl⟩) h1 h2 h3 h4 h5 hus hl N hsa.1 (g := mkF m pc Ls (.int nn :: .int dp :: .ref b :: .int sp :: .ref a :: st)) rfl hsize rfl hd hf (W := W) (by show 2 * 0 + _ ≤ _; omega) (by show W + (7 + 11) ≤ _; omega)
  have hq : ∀ x ∈ [b], x ∈ SA := fun x hx => by cases List.mem_singleton.mp hx; exact q
  have A' := CHr.keep K' (fun x q => (S x (hq x q)).1) hC.1
  exact Goes.via st' (k T' h' ⟨vm0, L, k0, Y', e', hS, Nat.le_trans hk K'.1, hZ, hown, hC.trans A', N', O.keep K' (fun x q => (S x (hq x q)).2.2.1), K.trans K' (fun x q => (S x (hq x q)).2.2.2), S.go A', hEL, hx⟩ K' B')
end Wide
end Own
namespace Own
open Jvm Jvm.ClassFile Sem Op Lib Jvm.Free Jvm.Stand Jvm.LawKit Jvm.RoadKit Bundle
section Wide
variable {p : Program} {l : Launch} {e : Env} {R : Room} {s : State} {m : MethodId} {args : Array Value} {below : List Frame} {meth : Method} {c : Code}
variable {Z : State} {a0 : Array Value} {EL : List (String × Nat)} {own : String} {n0 : Nat} {SA0 SA : List Addr} {T : State} {h : Heap} {cells slots : Nat} {Q : Outcome → State → Prop} {pc : Nat} {Ls : Array Slot} {st : List Value}
theorem Wd.iloadN (X : Wd p l e R s m args below meth c Z a0 EL own n0 SA0 SA T h cells slots) {k : Fin 4} {x : Int32} (hd : decode c.code pc = .ok (.iload_n k, 1)) (hl : Ls[k.val]? = some (.val (.int x))) (g : Goes p.tables e below Q (T.setTop (mkF m (pc + 1) Ls (.int x :: st)))) : Goes p.tables e below Q (T.setTop (mkF m pc Ls st)) := by
  exact Goes.via (fun t k => XS.iloadN X.here X.exec rfl hd hl k) g
theorem Wd.iload (X : Wd p l e R s m args below meth c Z a0 EL own n0 SA0 SA T h cells slots) {k : Nat} {x : Int32} (hd : decode c.code pc = .ok (.iload k, 2)) (hl : Ls[k]? = some (.val (.int x))) (g : Goes p.tables e below Q (T.setTop (mkF m (pc + 2) Ls (.int x :: st)))) : Goes p.tables e below Q (T.setTop (mkF m pc Ls st)) := by
  exact Goes.via (fun t k => XS.iload X.here X.exec rfl hd hl k) g
theorem Wd.aloadN (X : Wd p l e R s m args below meth c Z a0 EL own n0 SA0 SA T h cells slots) {k : Fin 4} {x : Value} (hd : decode c.code pc = .ok (.aload_n k, 1)) (hl : Ls[k.val]? = some (.val x)) (hv : x.isRef = true) (g : Goes p.tables e below Q (T.setTop (mkF m (pc + 1) Ls (x :: st)))) : Goes p.tables e below Q (T.setTop (mkF m pc Ls st)) := by
  exact Goes.via (fun t k => XS.aloadN X.here X.exec rfl hd hl hv k) g
theorem Wd.aload (X : Wd p l e R s m args below meth c Z a0 EL own n0 SA0 SA T h cells slots) {k : Nat} {x : Value} (hd : decode c.code pc = .ok (.aload k, 2)) (hl : Ls[k]? = some (.val x)) (hv : x.isRef = true) (g : Goes p.tables e below Q (T.setTop (mkF m (pc + 2) Ls (x :: st)))) : Goes p.tables e below Q (T.setTop (mkF m pc Ls st)) := by
  exact Goes.via (fun t k => XS.aload X.here X.exec rfl hd hl hv k) g
theorem Wd.iconst (X : Wd p l e R s m args below meth c Z a0 EL own n0 SA0 SA T h cells slots) {i : Int} {x : Int32} (hd : decode c.code pc = .ok (.iconst i, 1)) (hv : Int32.ofInt i = x) (g : Goes p.tables e below Q (T.setTop (mkF m (pc + 1) Ls (.int x :: st)))) : Goes p.tables e below Q (T.setTop (mkF m pc Ls st)) := by
  subst hv
  exact Goes.via (fun t k => XS.iconst X.here X.exec rfl hd k) g
theorem Wd.bipush (X : Wd p l e R s m args below meth c Z a0 EL own n0 SA0 SA T h cells slots) {i : Int} {x : Int32} (hd : decode c.code pc = .ok (.bipush i, 2)) (hv : (Int8.ofInt i).toInt32 = x) (g : Goes p.tables e below Q (T.setTop (mkF m (pc + 2) Ls (.int x :: st)))) : Goes p.tables e below Q (T.setTop (mkF m pc Ls st)) := by
  subst hv
  exact Goes.via (fun t k => XS.bipush X.here X.exec rfl hd k) g
theorem Wd.sipush (X : Wd p l e R s m args below meth c Z a0 EL own n0 SA0 SA T h cells slots) {i : Int} {x : Int32} (hd : decode c.code pc = .ok (.sipush i, 3)) (hv : (Int16.ofInt i).toInt32 = x) (g : Goes p.tables e below Q (T.setTop (mkF m (pc + 3) Ls (.int x :: st)))) : Goes p.tables e below Q (T.setTop (mkF m pc Ls st)) := by
  subst hv
  exact Goes.via (fun t k => XS.sipush X.here X.exec rfl hd k) g
theorem Wd.anull (X : Wd p l e R s m args below meth c Z a0 EL own n0 SA0 SA T h cells slots)  (hd : decode c.code pc = .ok (.aconst_null, 1))  (g : Goes p.tables e below Q (T.setTop (mkF m (pc + 1) Ls (.null :: st)))) : Goes p.tables e below Q (T.setTop (mkF m pc Ls st)) := by
  exact Goes.via (fun t k => XS.aconstNull X.here X.exec rfl hd k) g
theorem Wd.istoreN (X : Wd p l e R s m args below meth c Z a0 EL own n0 SA0 SA T h cells slots) {k : Fin 4} {x : Int32} (l' : Array Slot) (hd : decode c.code pc = .ok (.istore_n k, 1)) (hl : storeLocals Ls k.val (.int x) = some l') (g : Goes p.tables e below Q (T.setTop (mkF m (pc + 1) l' st))) : Goes p.tables e below Q (T.setTop (mkF m pc Ls (.int x :: st))) := by
  exact Goes.via (fun t k => XS.istoreN X.here X.exec rfl hd rfl hl k) g
theorem Wd.istore (X : Wd p l e R s m args below meth c Z a0 EL own n0 SA0 SA T h cells slots) {k : Nat} {x : Int32} (l' : Array Slot) (hd : decode c.code pc = .ok (.istore k, 2)) (hl : storeLocals Ls k (.int x) = some l') (g : Goes p.tables e below Q (T.setTop (mkF m (pc + 2) l' st))) : Goes p.tables e below Q (T.setTop (mkF m pc Ls (.int x :: st))) := by
  exact Goes.via (fun t k => XS.istore X.here X.exec rfl hd rfl hl k) g
theorem Wd.astoreN (X : Wd p l e R s m args below meth c Z a0 EL own n0 SA0 SA T h cells slots) {k : Fin 4} {x : Value} (l' : Array Slot) (hd : decode c.code pc = .ok (.astore_n k, 1)) (hv : x.isRef = true) (hl : storeLocals Ls k.val x = some l') (g : Goes p.tables e below Q (T.setTop (mkF m (pc + 1) l' st))) : Goes p.tables e below Q (T.setTop (mkF m pc Ls (x :: st))) := by
  exact Goes.via (fun t k => XS.astoreN X.here X.exec rfl hd rfl hv hl k) g
theorem Wd.astore (X : Wd p l e R s m args below meth c Z a0 EL own n0 SA0 SA T h cells slots) {k : Nat} {x : Value} (l' : Array Slot) (hd : decode c.code pc = .ok (.astore k, 2)) (hv : x.isRef = true) (hl : storeLocals Ls k x = some l') (g : Goes p.tables e below Q (T.setTop (mkF m (pc + 2) l' st))) : Goes p.tables e below Q (T.setTop (mkF m pc Ls (x :: st))) := by
  exact Goes.via (fun t k => XS.astore X.here X.exec rfl hd rfl hv hl k) g
theorem Wd.iadd (X : Wd p l e R s m args below meth c Z a0 EL own n0 SA0 SA T h cells slots) {x y : Int32} (hd : decode c.code pc = .ok (.iadd, 1))  (g : Goes p.tables e below Q (T.setTop (mkF m (pc + 1) Ls (.int (x + y) :: st)))) : Goes p.tables e below Q (T.setTop (mkF m pc Ls (.int y :: .int x :: st))) := by
  exact Goes.via (fun t k => XS.iadd X.here X.exec rfl hd rfl k) g
theorem Wd.isub (X : Wd p l e R s m args below meth c Z a0 EL own n0 SA0 SA T h cells slots) {x y : Int32} (hd : decode c.code pc = .ok (.isub, 1))  (g : Goes p.tables e below Q (T.setTop (mkF m (pc + 1) Ls (.int (x - y) :: st)))) : Goes p.tables e below Q (T.setTop (mkF m pc Ls (.int y :: .int x :: st))) := by
  exact Goes.via (fun t k => XS.isub X.here X.exec rfl hd rfl k) g
theorem Wd.iand (X : Wd p l e R s m args below meth c Z a0 EL own n0 SA0 SA T h cells slots) {x y : Int32} (hd : decode c.code pc = .ok (.iand, 1))  (g : Goes p.tables e below Q (T.setTop (mkF m (pc + 1) Ls (.int (x &&& y) :: st)))) : Goes p.tables e below Q (T.setTop (mkF m pc Ls (.int y :: .int x :: st))) := by
  exact Goes.via (fun t k => XS.iand X.here X.exec rfl hd rfl k) g
theorem Wd.imul (X : Wd p l e R s m args below meth c Z a0 EL own n0 SA0 SA T h cells slots) {x y : Int32} (hd : decode c.code pc = .ok (.imul, 1))  (g : Goes p.tables e below Q (T.setTop (mkF m (pc + 1) Ls (.int (x * y) :: st)))) : Goes p.tables e below Q (T.setTop (mkF m pc Ls (.int y :: .int x :: st))) := by
  exact Goes.via (fun t k => XS.imul X.here X.exec rfl hd rfl k) g
theorem Wd.ior (X : Wd p l e R s m args below meth c Z a0 EL own n0 SA0 SA T h cells slots) {x y : Int32} (hd : decode c.code pc = .ok (.ior, 1))  (g : Goes p.tables e below Q (T.setTop (mkF m (pc + 1) Ls (.int (x ||| y) :: st)))) : Goes p.tables e below Q (T.setTop (mkF m pc Ls (.int y :: .int x :: st))) := by
  exact Goes.via (fun t k => XT.ior X.here X.exec rfl hd rfl k) g
theorem Wd.ixor (X : Wd p l e R s m args below meth c Z a0 EL own n0 SA0 SA T h cells slots) {x y : Int32} (hd : decode c.code pc = .ok (.ixor, 1))  (g : Goes p.tables e below Q (T.setTop (mkF m (pc + 1) Ls (.int (x ^^^ y) :: st)))) : Goes p.tables e below Q (T.setTop (mkF m pc Ls (.int y :: .int x :: st))) := by
  exact Goes.via (fun t k => XT.ixor X.here X.exec rfl hd rfl k) g
theorem Wd.ishl (X : Wd p l e R s m args below meth c Z a0 EL own n0 SA0 SA T h cells slots) {x y : Int32} (hd : decode c.code pc = .ok (.ishl, 1))  (g : Goes p.tables e below Q (T.setTop (mkF m (pc + 1) Ls (.int (x <<< (y &&& 31)) :: st)))) : Goes p.tables e below Q (T.setTop (mkF m pc Ls (.int y :: .int x :: st))) := by
  exact Goes.via (fun t k => XT.ishl X.here X.exec rfl hd rfl k) g
theorem Wd.ishr (X : Wd p l e R s m args below meth c Z a0 EL own n0 SA0 SA T h cells slots) {x y : Int32} (hd : decode c.code pc = .ok (.ishr, 1))  (g : Goes p.tables e below Q (T.setTop (mkF m (pc + 1) Ls (.int (x >>> (y &&& 31)) :: st)))) : Goes p.tables e below Q (T.setTop (mkF m pc Ls (.int y :: .int x :: st))) := by
  exact Goes.via (fun t k => XT.ishr X.here X.exec rfl hd rfl k) g
theorem Wd.iushr (X : Wd p l e R s m args below meth c Z a0 EL own n0 SA0 SA T h cells slots) {x y : Int32} (hd : decode c.code pc = .ok (.iushr, 1))  (g : Goes p.tables e below Q (T.setTop (mkF m (pc + 1) Ls (.int (XT.ushr x y) :: st)))) : Goes p.tables e below Q (T.setTop (mkF m pc Ls (.int y :: .int x :: st))) := by
  exact Goes.via (fun t k => XT.iushr X.here X.exec rfl hd rfl k) g
theorem Wd.irem (X : Wd p l e R s m args below meth c Z a0 EL own n0 SA0 SA T h cells slots) {x y : Int32} (hd : decode c.code pc = .ok (.irem, 1)) (hy : y ≠ 0) (g : Goes p.tables e below Q (T.setTop (mkF m (pc + 1) Ls (.int (x % y) :: st)))) : Goes p.tables e below Q (T.setTop (mkF m pc Ls (.int y :: .int x :: st))) := by
  have hx := X.exec
  obtain ⟨vm0, locs, k0, Y, -⟩ := X
  exact Goes.via (fun t k => iremM Y hx (g := mkF m pc Ls (.int y :: .int x :: st)) rfl hd rfl hy k) g
theorem Wd.i2c (X : Wd p l e R s m args below meth c Z a0 EL own n0 SA0 SA T h cells slots) {x : Int32} (hd : decode c.code pc = .ok (.i2c, 1))  (g : Goes p.tables e below Q (T.setTop (mkF m (pc + 1) Ls (.int (x.toUInt32.toUInt16.toUInt32.toInt32) :: st)))) : Goes p.tables e below Q (T.setTop (mkF m pc Ls (.int x :: st))) := by
  exact Goes.via (fun t k => XT.i2c X.here X.exec rfl hd rfl k) g
theorem Wd.i2b (X : Wd p l e R s m args below meth c Z a0 EL own n0 SA0 SA T h cells slots) {x : Int32} (hd : decode c.code pc = .ok (.i2b, 1))  (g : Goes p.tables e below Q (T.setTop (mkF m (pc + 1) Ls (.int (x.toInt8.toInt32) :: st)))) : Goes p.tables e below Q (T.setTop (mkF m pc Ls (.int x :: st))) := by
  exact Goes.via (fun t k => XT.i2b X.here X.exec rfl hd rfl k) g
theorem Wd.dup (X : Wd p l e R s m args below meth c Z a0 EL own n0 SA0 SA T h cells slots) {x : Value} (hd : decode c.code pc = .ok (.dup, 1)) (hv : x.category = 1) (g : Goes p.tables e below Q (T.setTop (mkF m (pc + 1) Ls (x :: x :: st)))) : Goes p.tables e below Q (T.setTop (mkF m pc Ls (x :: st))) := by
  exact Goes.via (fun t k => XS.dup X.here X.exec rfl hd rfl hv k) g
theorem Wd.pop (X : Wd p l e R s m args below meth c Z a0 EL own n0 SA0 SA T h cells slots) {x : Value} (hd : decode c.code pc = .ok (.pop, 1)) (hv : x.category = 1) (g : Goes p.tables e below Q (T.setTop (mkF m (pc + 1) Ls st))) : Goes p.tables e below Q (T.setTop (mkF m pc Ls (x :: st))) := by
  exact Goes.via (fun t k => XT.pop X.here X.exec rfl hd rfl hv k) g
theorem Wd.iinc (X : Wd p l e R s m args below meth c Z a0 EL own n0 SA0 SA T h cells slots) {k : Nat} {cst : Int} {x : Int32} (l' : Array Slot) (hd : decode c.code pc = .ok (.iinc k cst, 3)) (hl : Ls[k]? = some (.val (.int x))) (hl' : storeLocals Ls k (.int (x + Int32.ofInt cst)) = some l') (g : Goes p.tables e below Q (T.setTop (mkF m (pc + 3) l' st))) : Goes p.tables e below Q (T.setTop (mkF m pc Ls st)) := by
  exact Goes.via (fun t k => XS.iinc X.here X.exec rfl hd hl hl' k) g
theorem Wd.goto (X : Wd p l e R s m args below meth c Z a0 EL own n0 SA0 SA T h cells slots) {o : Int} (pc' : Nat) (hd : decode c.code pc = .ok (.goto o, 3)) (hp : 0 ≤ (pc : Int) + o ∧ ((pc : Int) + o).toNat = pc') (g : Goes p.tables e below Q (T.setTop (mkF m pc' Ls st))) : Goes p.tables e below Q (T.setTop (mkF m pc Ls st)) :=
  Goes.via (fun t k => XS.goto X.here X.exec rfl rfl hd hp.1 hp.2 k) g
theorem Wd.if_eq (X : Wd p l e R s m args below meth c Z a0 EL own n0 SA0 SA T h cells slots) {x : Int32} {o : Int} (pc' : Nat) (hd : decode c.code pc = .ok (.ifCond .eq o, 3)) (hp : 0 ≤ (pc : Int) + o ∧ ((pc : Int) + o).toNat = pc') (kt : x = 0 → Goes p.tables e below Q (T.setTop (mkF m pc' Ls st))) (kf : ¬ x = 0 → Goes p.tables e below Q (T.setTop (mkF m (pc + 3) Ls st))) : Goes p.tables e below Q (T.setTop (mkF m pc Ls (.int x :: st))) := by
  by_cases hq : x = 0
  · exact Goes.via (fun t k => XS.ifYes X.here X.exec rfl rfl hd rfl (XT.i0_eq_t hq) hp.1 hp.2 k) (kt hq)
  · exact Goes.via (fun t k => XS.ifNo X.here X.exec rfl hd rfl (XT.i0_eq_f hq) k) (kf hq)
theorem Wd.icmp_eq (X : Wd p l e R s m args below meth c Z a0 EL own n0 SA0 SA T h cells slots) {x y : Int32} {o : Int} (pc' : Nat) (hd : decode c.code pc = .ok (.if_icmp .eq o, 3)) (hp : 0 ≤ (pc : Int) + o ∧ ((pc : Int) + o).toNat = pc') (kt : x = y → Goes p.tables e below Q (T.setTop (mkF m pc' Ls st))) (kf : ¬ x = y → Goes p.tables e below Q (T.setTop (mkF m (pc + 3) Ls st))) : Goes p.tables e below Q (T.setTop (mkF m pc Ls (.int y :: .int x :: st))) := by
  by_cases hq : x = y
  · exact Goes.via (fun t k => XS.icmpYes X.here X.exec rfl rfl hd rfl (XT.ii_eq_t hq) hp.1 hp.2 k) (kt hq)
  · exact Goes.via (fun t k => XS.icmpNo X.here X.exec rfl hd rfl (XT.ii_eq_f hq) k) (kf hq)
theorem Wd.if_ne (X : Wd p l e R s m args below meth c Z a0 EL own n0 SA0 SA T h cells slots) {x : Int32} {o : Int} (pc' : Nat) (hd : decode c.code pc = .ok (.ifCond .ne o, 3)) (hp : 0 ≤ (pc : Int) + o ∧ ((pc : Int) + o).toNat = pc') (kt : ¬ x = 0 → Goes p.tables e below Q (T.setTop (mkF m pc' Ls st))) (kf : x = 0 → Goes p.tables e below Q (T.setTop (mkF m (pc + 3) Ls st))) : Goes p.tables e below Q (T.setTop (mkF m pc Ls (.int x :: st))) := by
  by_cases hq : x = 0
  · exact Goes.via (fun t k => XS.ifNo X.here X.exec rfl hd rfl (XT.i0_ne_f hq) k) (kf hq)
  · exact Goes.via (fun t k => XS.ifYes X.here X.exec rfl rfl hd rfl (XT.i0_ne_t hq) hp.1 hp.2 k) (kt hq)
theorem Wd.icmp_ne (X : Wd p l e R s m args below meth c Z a0 EL own n0 SA0 SA T h cells slots) {x y : Int32} {o : Int} (pc' : Nat) (hd : decode c.code pc = .ok (.if_icmp .ne o, 3)) (hp : 0 ≤ (pc : Int) + o ∧ ((pc : Int) + o).toNat = pc') (kt : ¬ x = y → Goes p.tables e below Q (T.setTop (mkF m pc' Ls st))) (kf : x = y → Goes p.tables e below Q (T.setTop (mkF m (pc + 3) Ls st))) : Goes p.tables e below Q (T.setTop (mkF m pc Ls (.int y :: .int x :: st))) := by
  by_cases hq : x = y
  · exact Goes.via (fun t k => XS.icmpNo X.here X.exec rfl hd rfl (XT.ii_ne_f hq) k) (kf hq)
  · exact Goes.via (fun t k => XS.icmpYes X.here X.exec rfl rfl hd rfl (XT.ii_ne_t hq) hp.1 hp.2 k) (kt hq)
theorem Wd.if_lt (X : Wd p l e R s m args below meth c Z a0 EL own n0 SA0 SA T h cells slots) {x : Int32} {o : Int} (pc' : Nat) (hd : decode c.code pc = .ok (.ifCond .lt o, 3)) (hp : 0 ≤ (pc : Int) + o ∧ ((pc : Int) + o).toNat = pc') (kt : x < 0 → Goes p.tables e below Q (T.setTop (mkF m pc' Ls st))) (kf : ¬ x < 0 → Goes p.tables e below Q (T.setTop (mkF m (pc + 3) Ls st))) : Goes p.tables e below Q (T.setTop (mkF m pc Ls (.int x :: st))) := by
  by_cases hq : x < 0
  · exact Goes.via (fun t k => XS.ifYes X.here X.exec rfl rfl hd rfl (XT.i0_lt_t hq) hp.1 hp.2 k) (kt hq)
  · exact Goes.via (fun t k => XS.ifNo X.here X.exec rfl hd rfl (XT.i0_lt_f hq) k) (kf hq)
theorem Wd.icmp_lt (X : Wd p l e R s m args below meth c Z a0 EL own n0 SA0 SA T h cells slots) {x y : Int32} {o : Int} (pc' : Nat) (hd : decode c.code pc = .ok (.if_icmp .lt o, 3)) (hp : 0 ≤ (pc : Int) + o ∧ ((pc : Int) + o).toNat = pc') (kt : x < y → Goes p.tables e below Q (T.setTop (mkF m pc' Ls st))) (kf : ¬ x < y → Goes p.tables e below Q (T.setTop (mkF m (pc + 3) Ls st))) : Goes p.tables e below Q (T.setTop (mkF m pc Ls (.int y :: .int x :: st))) := by
  by_cases hq : x < y
  · exact Goes.via (fun t k => XS.icmpYes X.here X.exec rfl rfl hd rfl (XT.ii_lt_t hq) hp.1 hp.2 k) (kt hq)
  · exact Goes.via (fun t k => XS.icmpNo X.here X.exec rfl hd rfl (XT.ii_lt_f hq) k) (kf hq)
theorem Wd.if_ge (X : Wd p l e R s m args below meth c Z a0 EL own n0 SA0 SA T h cells slots) {x : Int32} {o : Int} (pc' : Nat) (hd : decode c.code pc = .ok (.ifCond .ge o, 3)) (hp : 0 ≤ (pc : Int) + o ∧ ((pc : Int) + o).toNat = pc') (kt : ¬ x < 0 → Goes p.tables e below Q (T.setTop (mkF m pc' Ls st))) (kf : x < 0 → Goes p.tables e below Q (T.setTop (mkF m (pc + 3) Ls st))) : Goes p.tables e below Q (T.setTop (mkF m pc Ls (.int x :: st))) := by
  by_cases hq : x < 0
  · exact Goes.via (fun t k => XS.ifNo X.here X.exec rfl hd rfl (XT.i0_ge_f hq) k) (kf hq)
  · exact Goes.via (fun t k => XS.ifYes X.here X.exec rfl rfl hd rfl (XT.i0_ge_t hq) hp.1 hp.2 k) (kt hq)
theorem Wd.icmp_ge (X : Wd p l e R s m args below meth c Z a0 EL own n0 SA0 SA T h cells slots) {x y : Int32} {o : Int} (pc' : Nat) (hd : decode c.code pc = .ok (.if_icmp .ge o, 3)) (hp : 0 ≤ (pc : Int) + o ∧ ((pc : Int) + o).toNat = pc') (kt : ¬ x < y → Goes p.tables e below Q (T.setTop (mkF m pc' Ls st))) (kf : x < y → Goes p.tables e below Q (T.setTop (mkF m (pc + 3) Ls st))) : Goes p.tables e below Q (T.setTop (mkF m pc Ls (.int y :: .int x :: st))) := by
  by_cases hq : x < y
  · exact Goes.via (fun t k => XS.icmpNo X.here X.exec rfl hd rfl (XT.ii_ge_f hq) k) (kf hq)
  · exact Goes.via (fun t k => XS.icmpYes X.here X.exec rfl rfl hd rfl (XT.ii_ge_t hq) hp.1 hp.2 k) (kt hq)
theorem Wd.if_gt (X : Wd p l e R s m args below meth c Z a0 EL own n0 SA0 SA T h cells slots) {x : Int32} {o : Int} (pc' : Nat) (hd : decode c.code pc = .ok (.ifCond .gt o, 3)) (hp : 0 ≤ (pc : Int) + o ∧ ((pc : Int) + o).toNat = pc') (kt : 0 < x → Goes p.tables e below Q (T.setTop (mkF m pc' Ls st))) (kf : ¬ 0 < x → Goes p.tables e below Q (T.setTop (mkF m (pc + 3) Ls st))) : Goes p.tables e below Q (T.setTop (mkF m pc Ls (.int x :: st))) := by
  by_cases hq : 0 < x
  · exact Goes.via (fun t k => XS.ifYes X.here X.exec rfl rfl hd rfl (XT.i0_gt_t hq) hp.1 hp.2 k) (kt hq)
  · exact Goes.via (fun t k => XS.ifNo X.here X.exec rfl hd rfl (XT.i0_gt_f hq) k) (kf hq)
theorem Wd.icmp_gt (X : Wd p l e R s m args below meth c Z a0 EL own n0 SA0 SA T h cells slots) {x y : Int32} {o : Int} (pc' : Nat) (hd : decode c.code pc = .ok (.if_icmp .gt o, 3)) (hp : 0 ≤ (pc : Int) + o ∧ ((pc : Int) + o).toNat = pc') (kt : y < x → Goes p.tables e below Q (T.setTop (mkF m pc' Ls st))) (kf : ¬ y < x → Goes p.tables e below Q (T.setTop (mkF m (pc + 3) Ls st))) : Goes p.tables e below Q (T.setTop (mkF m pc Ls (.int y :: .int x :: st))) := by
  by_cases hq : y < x
  · exact Goes.via (fun t k => XS.icmpYes X.here X.exec rfl rfl hd rfl (XT.ii_gt_t hq) hp.1 hp.2 k) (kt hq)
  · exact Goes.via (fun t k => XS.icmpNo X.here X.exec rfl hd rfl (XT.ii_gt_f hq) k) (kf hq)
theorem Wd.if_le (X : Wd p l e R s m args below meth c Z a0 EL own n0 SA0 SA T h cells slots) {x : Int32} {o : Int} (pc' : Nat) (hd : decode c.code pc = .ok (.ifCond .le o, 3)) (hp : 0 ≤ (pc : Int) + o ∧ ((pc : Int) + o).toNat = pc') (kt : ¬ 0 < x → Goes p.tables e below Q (T.setTop (mkF m pc' Ls st))) (kf : 0 < x → Goes p.tables e below Q (T.setTop (mkF m (pc + 3) Ls st))) : Goes p.tables e below Q (T.setTop (mkF m pc Ls (.int x :: st))) := by
  by_cases hq : 0 < x
  · exact Goes.via (fun t k => XS.ifNo X.here X.exec rfl hd rfl (XT.i0_le_f hq) k) (kf hq)
  · exact Goes.via (fun t k => XS.ifYes X.here X.exec rfl rfl hd rfl (XT.i0_le_t hq) hp.1 hp.2 k) (kt hq)
theorem Wd.icmp_le (X : Wd p l e R s m args below meth c Z a0 EL own n0 SA0 SA T h cells slots) {x y : Int32} {o : Int} (pc' : Nat) (hd : decode c.code pc = .ok (.if_icmp .le o, 3)) (hp : 0 ≤ (pc : Int) + o ∧ ((pc : Int) + o).toNat = pc') (kt : ¬ y < x → Goes p.tables e below Q (T.setTop (mkF m pc' Ls st))) (kf : y < x → Goes p.tables e below Q (T.setTop (mkF m (pc + 3) Ls st))) : Goes p.tables e below Q (T.setTop (mkF m pc Ls (.int y :: .int x :: st))) := by
  by_cases hq : y < x
  · exact Goes.via (fun t k => XS.icmpNo X.here X.exec rfl hd rfl (XT.ii_le_f hq) k) (kf hq)
  · exact Goes.via (fun t k => XS.icmpYes X.here X.exec rfl rfl hd rfl (XT.ii_le_t hq) hp.1 hp.2 k) (kt hq)
theorem Wd.ifnullR (X : Wd p l e R s m args below meth c Z a0 EL own n0 SA0 SA T h cells slots) {b : Addr} {o : Int} (hd : decode c.code pc = .ok (.ifnull o, 3)) (g : Goes p.tables e below Q (T.setTop (mkF m (pc + 3) Ls st))) : Goes p.tables e below Q (T.setTop (mkF m pc Ls (.ref b :: st))) :=
  Goes.via (fun t k => XS.ifnullNo X.here X.exec rfl hd rfl k) g
theorem Wd.ifnullN (X : Wd p l e R s m args below meth c Z a0 EL own n0 SA0 SA T h cells slots) {o : Int} (pc' : Nat) (hd : decode c.code pc = .ok (.ifnull o, 3)) (hp : 0 ≤ (pc : Int) + o ∧ ((pc : Int) + o).toNat = pc') (g : Goes p.tables e below Q (T.setTop (mkF m pc' Ls st))) : Goes p.tables e below Q (T.setTop (mkF m pc Ls (.null :: st))) :=
  Goes.via (fun t k => XS.ifnullYes X.here X.exec rfl rfl hd rfl hp.1 hp.2 k) g
theorem Wd.ifnonnullR (X : Wd p l e R s m args below meth c Z a0 EL own n0 SA0 SA T h cells slots) {b : Addr} {o : Int} (pc' : Nat) (hd : decode c.code pc = .ok (.ifnonnull o, 3)) (hp : 0 ≤ (pc : Int) + o ∧ ((pc : Int) + o).toNat = pc') (g : Goes p.tables e below Q (T.setTop (mkF m pc' Ls st))) : Goes p.tables e below Q (T.setTop (mkF m pc Ls (.ref b :: st))) :=
  Goes.via (fun t k => XT.ifnonnullYes X.here X.exec rfl rfl hd rfl hp.1 hp.2 k) g
theorem Wd.ifnonnullN (X : Wd p l e R s m args below meth c Z a0 EL own n0 SA0 SA T h cells slots) {o : Int} (hd : decode c.code pc = .ok (.ifnonnull o, 3)) (g : Goes p.tables e below Q (T.setTop (mkF m (pc + 3) Ls st))) : Goes p.tables e below Q (T.setTop (mkF m pc Ls (.null :: st))) :=
  Goes.via (fun t k => XT.ifnonnullNo X.here X.exec rfl hd rfl k) g
theorem Wd.acmp_eq (X : Wd p l e R s m args below meth c Z a0 EL own n0 SA0 SA T h cells slots) {x y : Value} {o : Int} (pc' : Nat) (hd : decode c.code pc = .ok (.if_acmp .eq o, 3)) (hp : 0 ≤ (pc : Int) + o ∧ ((pc : Int) + o).toNat = pc') (hx : x.isRef = true) (hy : y.isRef = true) (kt : x = y → Goes p.tables e below Q (T.setTop (mkF m pc' Ls st))) (kf : ¬ x = y → Goes p.tables e below Q (T.setTop (mkF m (pc + 3) Ls st))) : Goes p.tables e below Q (T.setTop (mkF m pc Ls (y :: x :: st))) := by
  by_cases hq : x = y
  · exact Goes.via (fun t k => XT.acmpYes X.here X.exec rfl rfl hd rfl hx hy (XT.aa_eq_t hq) hp.1 hp.2 k) (kt hq)
  · exact Goes.via (fun t k => XT.acmpNo X.here X.exec rfl hd rfl hx hy (XT.aa_eq_f hq) k) (kf hq)
theorem Wd.acmp_ne (X : Wd p l e R s m args below meth c Z a0 EL own n0 SA0 SA T h cells slots) {x y : Value} {o : Int} (pc' : Nat) (hd : decode c.code pc = .ok (.if_acmp .ne o, 3)) (hp : 0 ≤ (pc : Int) + o ∧ ((pc : Int) + o).toNat = pc') (hx : x.isRef = true) (hy : y.isRef = true) (kt : ¬ x = y → Goes p.tables e below Q (T.setTop (mkF m pc' Ls st))) (kf : x = y → Goes p.tables e below Q (T.setTop (mkF m (pc + 3) Ls st))) : Goes p.tables e below Q (T.setTop (mkF m pc Ls (y :: x :: st))) := by
  by_cases hq : x = y
  · exact Goes.via (fun t k => XT.acmpNo X.here X.exec rfl hd rfl hx hy (XT.aa_ne_f hq) k) (kf hq)
  · exact Goes.via (fun t k => XT.acmpYes X.here X.exec rfl rfl hd rfl hx hy (XT.aa_ne_t hq) hp.1 hp.2 k) (kt hq)
end Wide
end Own
namespace Own
open Jvm Jvm.ClassFile Sem Op Lib Jvm.Free Jvm.Stand Jvm.LawKit Jvm.RoadKit Bundle
section Facts
variable {Z : State} {h h' : Heap} {a b t x y : Addr} {cs : List Int32} {C : String} {a0 : Array Value} {k k' : ClassId} {ty ty' : FieldType} {n n' : Int32} {vs vs' : List Value} {dv dv' v : Value} {sl : Nat} {ws : List Addr}
theorem arvTy (A : Arv Z h a k ty n vs dv) (B : Arv Z h b k' ty' n' vs' dv') (q : ty ≠ ty') : a ≠ b := fun e => by
  subst e
  obtain ⟨c1, ⟨h1, ⟨-, k1, h2, m1, h3⟩, -⟩, -⟩ := A
  obtain ⟨c2, ⟨g1, ⟨-, k2, g2, m2, g3⟩, -⟩, -⟩ := B
  cases h1.symm.trans g1
  cases h2.symm.trans g2
  rw [h3] at g3
  cases g3
  exact q rfl
theorem narR {t : FieldType} {v : Value} (hv : v.isRef = true) (ht : t.isReference = true := by rfl) : narrow t v = v := by cases t <;> cases v <;> first | rfl | (cases hv; done) | (cases ht; done)
theorem fitR {t : FieldType} {v : Value} (hv : v.isRef = true) (ht : t.isReference = true := by rfl) : fits t v = true := by cases t <;> cases v <;> first | rfl | (cases hv; done) | (cases ht; done)
/-- a is a Latin-1 String that spells cs; its bytes lie at t -/
def OStr (Z : State) (h : Heap) (a t : Addr) (cs : List Int32) : Prop := Exa Z h a "java/lang/String" ∧ (∀ c ∈ cs, ¬ c < 0 ∧ ¬ (255 : Int32) < c) ∧ cs.length ≤ 4000 ∧
  ∃ kb : ClassId, Fld Z h a "java/lang/String" "value" "[B" (.ref t) ∧ Fld Z h a "java/lang/String" "coder" "B" (.int (0 : Int32)) ∧ Arv Z h t kb .byte (Int32.ofNat cs.length) ((cs.map StrChars.lo8).map Value.int) (.int 0)
theorem up16 {cs : List Int32} (hp : ∀ c ∈ cs, ¬ c < 0 ∧ ¬ (255 : Int32) < c) : ∀ c ∈ cs, ¬ c < 0 ∧ ¬ (65535 : Int32) < c := fun c q => ⟨(hp c q).1, fun z => (hp c q).2 (Int32.lt_trans (by decide) z)⟩
theorem OStr.lt (F : OStr Z h a t cs) : a < h.size := F.1.lt
theorem OStr.ltb (F : OStr Z h a t cs) : t < h.size := by obtain ⟨-, -, -, _, -, -, A⟩ := F; exact A.lt
theorem OStr.ext (F : OStr Z h a t cs) (E : Ext h h') : OStr Z h' a t cs := by
  obtain ⟨h1, h2, h3, kb, h4, h5, h6⟩ := F
  exact ⟨h1.ext E, h2, h3, kb, h4.ext E, h5.ext E, h6.ext E⟩
theorem OStr.wr (F : OStr Z h a t cs) (W : Wr h h' x sl v) (q1 : a ≠ x) (q2 : t ≠ x) : OStr Z h' a t cs := by
  obtain ⟨h1, h2, h3, kb, h4, h5, h6⟩ := F
  exact ⟨h1.wr W, h2, h3, kb, h4.other W (Or.inl q1), h5.other W (Or.inl q1), h6.other W q2⟩
theorem OStr.keep (F : OStr Z h a t cs) (K : Keep h h' ws) (q1 : a ∉ ws) (q2 : t ∉ ws) : OStr Z h' a t cs := by
  obtain ⟨h1, h2, h3, kb, h4, h5, h6⟩ := F
  exact ⟨h1.keep K, h2, h3, kb, h4.keep K q1, h5.keep K q1, h6.keep K q2⟩
theorem OStr.neT {kk : Nat} (F : OStr Z h a t cs) (E : Exa Z h x C) (w : (Jvm.Cond.instantiable C kk).before a0 Z = true) : t ≠ x := by
  obtain ⟨-, -, -, kb, -, -, h6⟩ := F
  exact (E.neArv h6 w).symm
theorem OStr.neTA (F : OStr Z h a t cs) (A : Arv Z h x k ty n vs dv) (q : FieldType.byte ≠ ty) : t ≠ x := by
  obtain ⟨-, -, -, kb, -, -, h6⟩ := F
  exact arvTy h6 A q
theorem OStr.mk {kb : ClassId} (E : Exa Z h a "java/lang/String") (V : Fld Z h a "java/lang/String" "value" "[B" (.ref t)) (C : Fld Z h a "java/lang/String" "coder" "B" (.int (0 : Int32))) (A : Arv Z h t kb .byte (Int32.ofNat cs.length) ((cs.map StrChars.lo8).map Value.int) (.int 0)) (hp : ∀ c ∈ cs, ¬ c < 0 ∧ ¬ (255 : Int32) < c) (l2 : cs.length ≤ 4000) : OStr Z h a t cs :=
  ⟨E, hp, l2, kb, V, C, A⟩
end Facts
section Wide
variable {p : Program} {l : Launch} {e : Env} {R : Room} {s : State} {m : MethodId} {args : Array Value} {below : List Frame} {meth : Method} {c : Code}
variable {Z : State} {a0 : Array Value} {EL : List (String × Nat)} {own : String} {n0 : Nat} {SA0 SA : List Addr} {T : State} {h h' : Heap} {cells slots : Nat} {Q : Outcome → State → Prop} {pc : Nat} {Ls : Array Slot} {st : List Value} {vm0 vm1 : Vm} {a b : Addr} {sl : Nat} {v : Value}
abbrev sI1 : MethodName := ⟨"java/lang/String", "<init>", "([C)V"⟩
theorem pdI1 : parseMethodDescriptor "([C)V" = some ⟨[.array .char], none⟩ := by decide +kernel
/-- new String(char[]), one to 4000 chars, each 0 to 255 -/
theorem Wd.newStr (X : Wd p l e R s m args below meth c Z a0 EL own n0 SA0 SA T h cells slots) {idx : Nat} {kC : ClassId} {cs : List Int32} {d v0 c0 : Value} {z N : Int32} (n : Nat) (w1 : (Jvm.Cond.methodLink own idx sI1).before a0 Z = true) (w2 : (Jvm.Cond.instanceMethod sI1).before a0 Z = true)
    (hws : ∀ d ∈ StrChars.Road.words, d.before a0 Z = true) (wi : (Jvm.Cond.instantiable "java/lang/String" 4).before a0 Z = true) (E : Exa Z h a "java/lang/String") (V : Fld Z h a "java/lang/String" "value" "[B" v0) (C : Fld Z h a "java/lang/String" "coder" "B" c0) (K : Arv Z h b kC .char N (cs.map Value.int) d)
    (S0 : Sta Z Z.heap "java/lang/String" "COMPACT_STRINGS" "Z" (.int z)) (hz : ¬ z = 0) (hn : cs.length = n) (hN : N = Int32.ofNat n) (l0 : 0 < n) (l2 : n ≤ 4000) (hp : ∀ c ∈ cs, ¬ c < 0 ∧ ¬ (255 : Int32) < c) (q : a ∈ SA) (hfr : 4 ≤ R.frames) (W : Nat) (hW : (st.map fun v => v.category).sum ≤ W) (hlo : W + 65 ≤ R.locals)
    (hcl : cells + 1 ≤ R.cells) (hsl : slots + n ≤ R.slots) (hsize : Ls.size = c.maxLocals) (hd : decode c.code pc = .ok (.invokespecial idx, 3))
    (k : ∀ (T' : State) (h' : Heap) (t : Addr), Wd p l e R s m args below meth c Z a0 EL own n0 SA0 SA T' h' (cells + 1) (slots + n) → Keep h h' [a] → h.size ≤ t → OStr Z h' a t cs → Goes p.tables e below Q (T'.setTop (mkF m (pc + 3) Ls st))) : Goes p.tables e below Q (T.setTop (mkF m pc Ls (.ref b :: .ref a :: st))) := by
  have hn0 := X.n0h
  have hsa := X.saf q
  obtain ⟨vm0, locs, k0, Y, eT, hS, hk, hZ, hown, hC, N', O, K', S, hEL, hx⟩ := X
  obtain ⟨_, vm1, ⟨T', L', c', s'⟩, -, Y', ⟨L, ⟨rfl, hL, Kp, E', C', t, kb, -, g2, -, V', A'⟩, rfl, rfl, rfl⟩, st'⟩ := Y.specialBack hx (y := sI1) rfl hown (mvT hZ w1) (mvT hZ w2) (mvT hZ (hws _ (List.mem_cons_self ..))) (by decide)
    (StrChars.Road.backV (W := W) (n0 := n0) hZ hws wi hsa.1 hn0 E V C K (Sta.ext O.2 S0) hz hn hN l0 l2 hp rfl hfr hlo) (g := mkF m pc Ls (.ref b :: .ref a :: st)) rfl hsize (Steps.refl _) (a := a) (argsL := [.ref b]) (rest := st) (lenOf pdI1 rfl) rfl (by show 2 * 0 + _ ≤ _; omega) hd (fun _ _ => ⟨rfl, eT, hcl, hsl⟩)
  subst hn hN
  exact Goes.aft st' (k T' T'.heap t (backN hS hk hZ hown hC N' O K' S hEL hx Y' hL Kp (fun x hx => by cases List.mem_singleton.mp hx; exact q)) Kp g2 (OStr.mk E' V' C' A' hp l2))
end Wide
end Own
namespace Own
open Jvm Jvm.ClassFile Sem Op Lib Jvm.Free Jvm.Stand Jvm.LawKit Jvm.RoadKit Bundle
/-- (char) x -/
def i2c (x : Int32) : Int32 := x.toUInt32.toUInt16.toUInt32.toInt32
/-- (char) (x & 255) -/
def c8 (x : Int32) : Int32 := (x &&& (255 : Int32)).toUInt32.toUInt16.toUInt32.toInt32
theorem nar_i2c (x : Int32) : nar .char (i2c x) = i2c x := by
  have q := XT.narrow_c x
  simp only [nar, i2c, UInt32.toUInt32_toInt32, UInt16.toUInt16_toUInt32]
theorem nar_lo8 (x : Int32) : nar .byte (StrChars.lo8 x) = StrChars.lo8 x := by
  show (x.toInt8.toInt32).toInt8.toInt32 = x.toInt8.toInt32
  rw [Int8.toInt8_toInt32]
theorem nar_c8 (x : Int32) : nar .char (c8 x) = c8 x := nar_i2c (x &&& 255)
theorem i2c_nat (x : Int32) : (i2c x).toBitVec.toNat = x.toBitVec.toNat % 65536 := by
  show (x.toUInt32.toUInt16.toUInt32).toNat = _
  simp
  rfl
theorem nat_rng {x : Int32} {n : Nat} (h : x.toBitVec.toNat ≤ n) (hn : n < 2 ^ 31) : x.toInt = x.toBitVec.toNat := by
  show x.toBitVec.toInt = _
  rw [BitVec.toInt_eq_toNat_cond]; split <;> omega
theorem i2c_int (x : Int32) : (i2c x).toInt = ((x.toBitVec.toNat % 65536 : Nat) : Int) := by
  rw [nat_rng (n := 65535) (by rw [i2c_nat]; omega) (by decide), i2c_nat]
theorem i2c_rng (x : Int32) : ¬ i2c x < 0 ∧ ¬ (65535 : Int32) < i2c x := by
  simp only [Int32.lt_iff_toInt_lt, i2c_int, show (0 : Int32).toInt = 0 from rfl, show (65535 : Int32).toInt = 65535 from rfl]
  omega
theorem and_nat (x y : Int32) : (x &&& y).toBitVec.toNat = x.toBitVec.toNat &&& y.toBitVec.toNat := by
  rw [Int32.toBitVec_and, BitVec.toNat_and]
theorem c8_int (x : Int32) : (c8 x).toInt = ((x.toBitVec.toNat % 256 : Nat) : Int) := by
  show (i2c (x &&& 255)).toInt = _
  rw [i2c_int, and_nat, show (255 : Int32).toBitVec.toNat = 2 ^ 8 - 1 from rfl, Nat.and_two_pow_sub_one_eq_mod]
  have : x.toBitVec.toNat % 2 ^ 8 < 256 := Nat.mod_lt _ (by decide)
  rw [Nat.mod_eq_of_lt (a := x.toBitVec.toNat % 2 ^ 8) (by omega)]
theorem c8_rng (x : Int32) : ¬ c8 x < 0 ∧ ¬ (255 : Int32) < c8 x := by
  simp only [Int32.lt_iff_toInt_lt, c8_int, show (0 : Int32).toInt = 0 from rfl, show (255 : Int32).toInt = 255 from rfl]
  omega
theorem hp0 {P : Int32 → Prop} : ∀ c ∈ ([] : List Int32), P c := fun _ q => nomatch q
theorem hpS {P : Int32 → Prop} {x : Int32} {L : List Int32} (q : P x) (r : ∀ c ∈ L, P c) : ∀ c ∈ x :: L, P c := fun c z => (List.mem_cons.mp z).elim (fun u => u ▸ q) (r c)
end Own
namespace Own
open Jvm Jvm.ClassFile Sem Op Lib Jvm.Free Jvm.Stand Jvm.LawKit Jvm.RoadKit Bundle
section Wide
variable {p : Program} {l : Launch} {e : Env} {R : Room} {s : State} {m : MethodId} {args : Array Value} {below : List Frame} {meth : Method} {c : Code}
variable {Z : State} {a0 : Array Value} {EL : List (String × Nat)} {own : String} {n0 : Nat} {SA0 SA : List Addr} {T : State} {h h' : Heap} {cells slots : Nat} {Q : Outcome → State → Prop} {pc : Nat} {Ls : Array Slot} {st : List Value} {vm0 vm1 : Vm} {a b : Addr} {sl : Nat} {v : Value}
theorem backS {T' : State} {k0 cells' slots' : Nat} (hS : s.Since vm0 k0) (hk : k0 ≤ h.size) (hZ : Z.Warmed39 vm0) (hown : vm0.findClass own = some m.cls) (hC : CHr Z EL s.vm s.heap vm0 h) {locs : List Loc} (N : Fr n0 locs) (O : Old Z n0 h) (K : Keep s.heap h SA0) (S : Sfs Z EL vm0 h n0 s.heap.size SA0 SA) (hEL : EW Z a0 EL) (hx : p.tables.exec = Jvm.exec)
    (Y : Stand p l e R (s.setVm vm0) m args below meth c T' (locs ++ []) (cells' + 0) (slots' + 0)) (eh : T'.heap = h) : Wd p l e R s m args below meth c Z a0 EL own n0 SA0 SA T' h cells' slots' := by
  rw [List.append_nil] at Y
  exact ⟨vm0, _, k0, Y, eh, hS, hk, hZ, hown, hC, N, O, K, S, hEL, hx⟩
abbrev sEq : MethodName := ⟨"java/lang/String", "equals", "(Ljava/lang/Object;)Z"⟩
theorem pdEq : parseMethodDescriptor "(Ljava/lang/Object;)Z" = some ⟨[.object "java/lang/Object"], some .boolean⟩ := by decide +kernel
/-- String.equals of two Strings -/
theorem Wd.strEq (X : Wd p l e R s m args below meth c Z a0 EL own n0 SA0 SA T h cells slots) {idx : Nat} {t t' : Addr} {cs ds : List Int32} {z : Int32} (w1 : (Jvm.Cond.methodLink own idx sEq).before a0 Z = true) (w2 : (Jvm.Cond.declares sEq).before a0 Z = true) (w3 : (Jvm.Cond.selects "java/lang/String" sEq sEq).before a0 Z = true) (w4 : (Jvm.Cond.instanceMethod sEq).before a0 Z = true)
    (hws : ∀ d ∈ StrChars.Road.wordsEq, d.before a0 Z = true) (wi : (Jvm.Cond.instantiable "java/lang/String" 4).before a0 Z = true) (F : OStr Z h a t cs) (G : OStr Z h b t' ds) (S0 : Sta Z Z.heap "java/lang/String" "COMPACT_STRINGS" "Z" (.int z)) (hz : ¬ z = 0) (hfr : 2 ≤ R.frames) (W : Nat) (hW : (st.map fun v => v.category).sum ≤ W) (hlo : W + 28 ≤ R.locals)
    (hcl : cells ≤ R.cells) (hsl : slots ≤ R.slots) (hsize : Ls.size = c.maxLocals) (hd : decode c.code pc = .ok (.invokevirtual idx, 3))
    (k1 : ∀ T' : State, Wd p l e R s m args below meth c Z a0 EL own n0 SA0 SA T' h cells slots → cs = ds → Goes p.tables e below Q (T'.setTop (mkF m (pc + 3) Ls (.int 1 :: st))))
    (k0 : ∀ T' : State, Wd p l e R s m args below meth c Z a0 EL own n0 SA0 SA T' h cells slots → ¬ cs = ds → Goes p.tables e below Q (T'.setTop (mkF m (pc + 3) Ls (.int 0 :: st)))) : Goes p.tables e below Q (T.setTop (mkF m pc Ls (.ref b :: .ref a :: st))) := by
  obtain ⟨vm0, locs, kk, Y, eT, hS, hk, hZ, hown, hC, N', O, K', S, hEL, hx⟩ := X
  obtain ⟨f1, f2, f3, kb, f4, f5, f6⟩ := F
  obtain ⟨g1, g2, g3, kb', g4, g5, g6⟩ := G
  obtain ⟨cB, kB, u1, -, u3⟩ := isOf (s := s.setVm vm0) hZ eT f1
  obtain ⟨_, vm1, ⟨T', L', c', s'⟩, -, Y', ⟨L, ⟨hv, rfl, hh⟩, rfl, e1, e2⟩, st'⟩ := Y.virtualBack hx (y := sEq) (z := sEq) hown (mvT hZ w1) (mvT hZ w2) (notFace_of_selects (args := #[]) (mvT hZ w3)) (mvT hZ w3) (mvT hZ w4) (by decide)
    (StrChars.Road.eqW (W := W) hZ hws wi f1 f4 f5 f6 (StrChars.Road.codOf rfl fun c q => (f2 c q).2) (up16 f2) f3 g1 g4 g5 g6 (StrChars.Road.codOf rfl fun c q => (g2 c q).2) (up16 g2) g3 (Sta.ext O.2 S0) hz hfr hlo) u1 u3 (g := mkF m pc Ls (.ref b :: .ref a :: st)) rfl hsize (Steps.refl _) (argsL := [.ref b]) (rest := st) (lenOf pdEq rfl) rfl (by show 2 * 0 + _ ≤ _; omega) hd (fun _ _ => ⟨rfl, eT, hcl, hsl⟩)
  have e1' : c' = cells := e1
  have e2' : s' = slots := e2
  subst e1' e2'
  have X' := backS (own := own) hS hk hZ hown hC N' O K' S hEL hx Y' hh
  rcases hv with ⟨rfl, hv⟩ | ⟨rfl, hv⟩
  · exact Goes.aft st' (k1 T' X' hv)
  · exact Goes.aft st' (k0 T' X' hv)
end Wide
end Own
end Jvm.Pilot.@@N@@
namespace Jvm.Pilot.@@N@@
open Jvm Jvm.ClassFile Sem Op Lib Jvm.Free Jvm.Stand Jvm.LawKit Jvm.RoadKit Bundle Jvm.Pilot.@@N@@.Jvm.D
open Own
theorem hEL_of {Z : State} {a0 : Array Value} (hw : ∀ d ∈ tables_1, d.before a0 Z = true) : EW Z a0 consts_1 := (EW.cons (hw _ (List.mem_of_getElem? (i := 109) rfl)) (by decide) (EW.cons (hw _ (List.mem_of_getElem? (i := 14) rfl)) (by decide) EW.nil))
theorem hwsV : ∀ d ∈ StrChars.Road.words, d ∈ tables_1 := by decide +kernel
theorem hwsE : ∀ d ∈ StrChars.Road.wordsEq, d ∈ tables_1 := by decide +kernel
theorem hwS : ∀ d ∈ Bundle.stringAtoms, d ∈ tables_1 := by decide +kernel
theorem d8_0 : decode jdk_30_method_1_code 0 = .ok (.aload_n 0, 1) := by decide +kernel
theorem d8_1 : decode jdk_30_method_1_code 1 = .ok (.invokespecial 1, 3) := by decide +kernel
theorem d8_4 : decode jdk_30_method_1_code 4 = .ok (.return_, 1) := by decide +kernel
theorem pn_0 : plainName "java/lang/Record" = true := by first | (simp [plainName, overriddenIn]; done) | decide +kernel
set_option maxRecDepth 65536 in
set_option maxHeartbeats 40000000 in
theorem ctRec (l : Launch) (Z : State) (a0 : Array Value) (hw : ∀ d ∈ tables_1, d.before a0 Z = true) (hEL : EW Z a0 consts_1) (z0 : Int32) (S0 : Sta Z Z.heap "java/lang/String" "COMPACT_STRINGS" "Z" (.int z0)) (hz0 : ¬ z0 = 0) (a : Addr) (h0 : Heap) (n0 : Nat)  :
    Ct l Z consts_1 [] (⟨"java/lang/Record", "<init>", "()V"⟩ : MethodName) jdk_30_method_1_code 1 none ({ frames := 1, cells := 0, slots := 0, locals := 12 } : Room) #[(.ref a)] h0 n0 [] (fun v _ => v = none) := by
  have w : ∀ {d : Jvm.Cond} (i : Nat), tables_1[i]? = some d → d.before a0 Z = true := fun i q => hw _ (List.mem_of_getElem? q)
  refine Ct.enter (plainFor_of_name pn_0) hEL ?_
  intro p e sS m below meth c T0 hby hml0 hret hlk hnm hs0 X0
  have hml : c.maxLocals = 1 := hml0
  have D : ∀ {pc : Nat} {r : Except DecodeError (Instr × Nat)}, decode jdk_30_method_1_code pc = r → decode c.code pc = r := fun q => hb hby q
  rw [show entryFrame m #[(.ref a)] 1 = mkF m 0 #[.val (.ref a)] [] from by first | (simp [entryFrame, mkF, argsToLocals, Value.category]; done) | rfl]
  refine X0.aloadN (x := (.ref a)) (D d8_0) rfl rfl ?_
  refine X0.inito (w 47 rfl) (w 12 rfl) (w 13 rfl) (D d8_1) (by rw [hml]; rfl) (by decide) 0 (Nat.le_of_ble_eq_true rfl) (by decide) ?_
  intro T1 X2
  show Goes p.tables e below _ (T1.setTop (mkF m 4 #[.val (.ref a)] []))
  exact X2.retn hret hlk (D d8_4) (by decide) (by decide) (rfl)
theorem d1_0 : decode jdk_42_method_149_code 0 = .ok (.aload_n 0, 1) := by decide +kernel
theorem d1_1 : decode jdk_42_method_149_code 1 = .ok (.invokespecial 1, 3) := by decide +kernel
theorem d1_4 : decode jdk_42_method_149_code 4 = .ok (.iload_n 3, 1) := by decide +kernel
theorem d1_5 : decode jdk_42_method_149_code 5 = .ok (.ifCond .ne 22, 3) := by decide +kernel
theorem d1_8 : decode jdk_42_method_149_code 8 = .ok (.aload_n 0, 1) := by decide +kernel
theorem d1_9 : decode jdk_42_method_149_code 9 = .ok (.ldc 7, 2) := by decide +kernel
theorem d1_11 : decode jdk_42_method_149_code 11 = .ok (.getfield 9, 3) := by decide +kernel
theorem d1_14 : decode jdk_42_method_149_code 14 = .ok (.putfield 9, 3) := by decide +kernel
theorem d1_17 : decode jdk_42_method_149_code 17 = .ok (.aload_n 0, 1) := by decide +kernel
theorem d1_18 : decode jdk_42_method_149_code 18 = .ok (.ldc 7, 2) := by decide +kernel
theorem d1_20 : decode jdk_42_method_149_code 20 = .ok (.getfield 15, 3) := by decide +kernel
theorem d1_23 : decode jdk_42_method_149_code 23 = .ok (.putfield 15, 3) := by decide +kernel
theorem d1_26 : decode jdk_42_method_149_code 26 = .ok (.return_, 1) := by decide +kernel
theorem d1_27 : decode jdk_42_method_149_code 27 = .ok (.getstatic 38, 3) := by decide +kernel
theorem d1_30 : decode jdk_42_method_149_code 30 = .ok (.ifCond .eq 28, 3) := by decide +kernel
theorem d1_33 : decode jdk_42_method_149_code 33 = .ok (.aload_n 1, 1) := by decide +kernel
theorem d1_34 : decode jdk_42_method_149_code 34 = .ok (.iload_n 2, 1) := by decide +kernel
theorem d1_35 : decode jdk_42_method_149_code 35 = .ok (.iload_n 3, 1) := by decide +kernel
theorem d1_36 : decode jdk_42_method_149_code 36 = .ok (.invokestatic 177, 3) := by decide +kernel
theorem d1_39 : decode jdk_42_method_149_code 39 = .ok (.astore 5, 2) := by decide +kernel
theorem d1_41 : decode jdk_42_method_149_code 41 = .ok (.aload_n 0, 1) := by decide +kernel
theorem d1_42 : decode jdk_42_method_149_code 42 = .ok (.aload 5, 2) := by decide +kernel
theorem d1_44 : decode jdk_42_method_149_code 44 = .ok (.iload_n 3, 1) := by decide +kernel
theorem d1_45 : decode jdk_42_method_149_code 45 = .ok (.invokestatic 47, 3) := by decide +kernel
theorem d1_48 : decode jdk_42_method_149_code 48 = .ok (.putfield 15, 3) := by decide +kernel
theorem d1_51 : decode jdk_42_method_149_code 51 = .ok (.aload_n 0, 1) := by decide +kernel
theorem d1_52 : decode jdk_42_method_149_code 52 = .ok (.aload 5, 2) := by decide +kernel
theorem d1_54 : decode jdk_42_method_149_code 54 = .ok (.putfield 9, 3) := by decide +kernel
theorem d1_57 : decode jdk_42_method_149_code 57 = .ok (.return_, 1) := by decide +kernel
theorem d1_58 : decode jdk_42_method_149_code 58 = .ok (.aload_n 0, 1) := by decide +kernel
theorem d1_59 : decode jdk_42_method_149_code 59 = .ok (.iconst 1, 1) := by decide +kernel
theorem d1_60 : decode jdk_42_method_149_code 60 = .ok (.putfield 15, 3) := by decide +kernel
theorem d1_63 : decode jdk_42_method_149_code 63 = .ok (.aload_n 0, 1) := by decide +kernel
theorem d1_64 : decode jdk_42_method_149_code 64 = .ok (.aload_n 1, 1) := by decide +kernel
theorem d1_65 : decode jdk_42_method_149_code 65 = .ok (.iload_n 2, 1) := by decide +kernel
theorem d1_66 : decode jdk_42_method_149_code 66 = .ok (.iload_n 3, 1) := by decide +kernel
theorem d1_67 : decode jdk_42_method_149_code 67 = .ok (.invokestatic 180, 3) := by decide +kernel
theorem d1_70 : decode jdk_42_method_149_code 70 = .ok (.putfield 9, 3) := by decide +kernel
theorem d1_73 : decode jdk_42_method_149_code 73 = .ok (.return_, 1) := by decide +kernel
theorem pn_1 : plainName "java/lang/String" = true := by first | (simp [plainName, overriddenIn]; done) | decide +kernel
set_option maxRecDepth 65536 in
set_option maxHeartbeats 40000000 in
theorem ctE4 (l : Launch) (Z : State) (a0 : Array Value) (hw : ∀ d ∈ tables_1, d.before a0 Z = true) (hEL : EW Z a0 consts_1) (z0 : Int32) (S0 : Sta Z Z.heap "java/lang/String" "COMPACT_STRINGS" "Z" (.int z0)) (hz0 : ¬ z0 = 0) (a b : Addr) (h0 : Heap) (n0 : Nat) (E0 : Exa Z h0 a "java/lang/String") (F0 : Fld Z h0 a "java/lang/String" "value" "[B" .null) (F1 : Fld Z h0 a "java/lang/String" "coder" "B" (.int (0 : Int32))) :
    Ct l Z consts_1 [] (⟨"java/lang/String", "<init>", "([CIILjava/lang/Void;)V"⟩ : MethodName) jdk_42_method_149_code 6 none ({ frames := 1, cells := 4, slots := 8, locals := 12 } : Room) #[(.ref a), (.ref b), (.int (0 : Int32)), (.int (0 : Int32)), .null] h0 n0 [a] (fun v h => v = none ∧ ∃ t : Addr, OStr Z h a t []) := by
  have w : ∀ {d : Jvm.Cond} (i : Nat), tables_1[i]? = some d → d.before a0 Z = true := fun i q => hw _ (List.mem_of_getElem? q)
  refine Ct.enter (plainFor_of_name pn_1) hEL ?_
  intro p e sS m below meth c T0 hby hml0 hret hlk hnm hs0 X0
  have hml : c.maxLocals = 6 := hml0
  have D : ∀ {pc : Nat} {r : Except DecodeError (Instr × Nat)}, decode jdk_42_method_149_code pc = r → decode c.code pc = r := fun q => hb hby q
  rw [show entryFrame m #[(.ref a), (.ref b), (.int (0 : Int32)), (.int (0 : Int32)), .null] 6 = mkF m 0 #[.val (.ref a), .val (.ref b), .val (.int (0 : Int32)), .val (.int (0 : Int32)), .val .null, .unset] [] from by first | (simp [entryFrame, mkF, argsToLocals, Value.category]; done) | rfl]
  refine X0.aloadN (x := (.ref a)) (D d1_0) rfl rfl ?_
  refine X0.inito (w 11 rfl) (w 12 rfl) (w 13 rfl) (D d1_1) (by rw [hml]; rfl) (by decide) 0 (Nat.le_of_ble_eq_true rfl) (by decide) ?_
  intro T3 X4
  show Goes p.tables e below _ (T3.setTop (mkF m 4 #[.val (.ref a), .val (.ref b), .val (.int (0 : Int32)), .val (.int (0 : Int32)), .val .null, .unset] []))
  refine X4.iloadN (x := (0 : Int32)) (D d1_4) rfl ?_
  refine X4.if_ne 27 (D d1_5) ⟨by decide, by decide⟩ (fun hc5 => absurd hc5 (by decide)) (fun hc5 => ?_)
  refine X4.aloadN (x := (.ref a)) (D d1_8) rfl rfl ?_
  refine X4.ldcS (w 14 rfl) (fun d q => hw d (hwS d q)) (by decide) (vs := []) (z := (0 : Int32)) ⟨by decide, by decide⟩ (by decide) rfl (D d1_9) 0 (by decide) (by decide) (by decide) (by decide) ?_
  intro T6 h7 a8 b9 kb10 X11 E12 F13 F14 F15 F16 ne17
  have F18 := E0.ext E12
  have F19 := F0.ext E12
  have F20 := F1.ext E12
  show Goes p.tables e below _ (T6.setTop (mkF m 11 #[.val (.ref a), .val (.ref b), .val (.int (0 : Int32)), .val (.int (0 : Int32)), .val .null, .unset] [(.ref a8), (.ref a)]))
  refine X11.getf (w 20 rfl) Via.refl F15 (D d1_11) ?_
  intro T21 X22
  show Goes p.tables e below _ (T21.setTop (mkF m 14 #[.val (.ref a), .val (.ref b), .val (.int (0 : Int32)), .val (.int (0 : Int32)), .val .null, .unset] [(.ref b9), (.ref a)]))
  refine X22.putf (w 20 rfl) Via.refl F19 F18 (Or.inr ⟨(w 16 rfl), rfl, hnm⟩) (w 2 rfl) (ty := (.array .byte)) (by decide) rfl rfl (D d1_14) (by simp) ?_
  intro T23 h24 X25 W26
  have F27 := F19.same W26
  have F28 := F18.wr W26
  have F29 := F20.other W26 (Or.inr (slot_ne (t := .byte) (t' := (.array .byte)) (Or.inr (w 17 rfl)) (Or.inr (w 16 rfl)) (by decide) (by decide) (by decide)))
  have F30 := F13.wr W26
  have F31 := F14.other W26 (Or.inl (ne17 a (by simp)).1.symm)
  have F32 := F15.other W26 (Or.inl (ne17 a (by simp)).1.symm)
  have F33 := F16.other W26 (ne17 a (by simp)).2.symm
  show Goes p.tables e below _ (T23.setTop (mkF m 17 #[.val (.ref a), .val (.ref b), .val (.int (0 : Int32)), .val (.int (0 : Int32)), .val .null, .unset] []))
  refine X25.aloadN (x := (.ref a)) (D d1_17) rfl rfl ?_
  refine X25.ldcS (w 14 rfl) (fun d q => hw d (hwS d q)) (by decide) (vs := []) (z := (0 : Int32)) ⟨by decide, by decide⟩ (by decide) rfl (D d1_18) 0 (by decide) (by decide) (by decide) (by decide) ?_
  intro T34 h35 a36 b37 kb38 X39 E40 F41 F42 F43 F44 ne45
  have F46 := F28.ext E40
  have F47 := F29.ext E40
  have F48 := F30.ext E40
  have F49 := F31.ext E40
  have F50 := F32.ext E40
  have F51 := F33.ext E40
  have F52 := F27.ext E40
  show Goes p.tables e below _ (T34.setTop (mkF m 20 #[.val (.ref a), .val (.ref b), .val (.int (0 : Int32)), .val (.int (0 : Int32)), .val .null, .unset] [(.ref a36), (.ref a)]))
  refine X39.getf (w 21 rfl) Via.refl F42 (D d1_20) ?_
  intro T53 X54
  show Goes p.tables e below _ (T53.setTop (mkF m 23 #[.val (.ref a), .val (.ref b), .val (.int (0 : Int32)), .val (.int (0 : Int32)), .val .null, .unset] [(.int (0 : Int32)), (.ref a)]))
  refine X54.putf (w 21 rfl) Via.refl F47 F46 (Or.inr ⟨(w 17 rfl), rfl, hnm⟩) (w 2 rfl) (ty := .byte) (by decide) rfl rfl (D d1_23) (by simp) ?_
  intro T55 h56 X57 W58
  have F59 := F47.same W58
  have F60 := F46.wr W58
  have F61 := F48.wr W58
  have F62 := F49.other W58 (Or.inl (ne17 a (by simp)).1.symm)
  have F63 := F50.other W58 (Or.inl (ne17 a (by simp)).1.symm)
  have F64 := F51.other W58 (ne17 a (by simp)).2.symm
  have F65 := F52.other W58 (Or.inr (slot_ne (t := (.array .byte)) (t' := .byte) (Or.inr (w 16 rfl)) (Or.inr (w 17 rfl)) (by decide) (by decide) (by decide)))
  have F66 := F41.wr W58
  have F67 := F42.other W58 (Or.inl (ne45 a (by simp)).1.symm)
  have F68 := F43.other W58 (Or.inl (ne45 a (by simp)).1.symm)
  have F69 := F44.other W58 (ne45 a (by simp)).2.symm
  show Goes p.tables e below _ (T55.setTop (mkF m 26 #[.val (.ref a), .val (.ref b), .val (.int (0 : Int32)), .val (.int (0 : Int32)), .val .null, .unset] []))
  exact X57.retn hret hlk (D d1_26) (by decide) (by decide) (⟨rfl, b9, OStr.mk (cs := []) F60 F65 F59 F64 hp0 (by decide)⟩)
theorem d0_0 : decode jdk_42_method_3_code 0 = .ok (.aload_n 0, 1) := by decide +kernel
theorem d0_1 : decode jdk_42_method_3_code 1 = .ok (.aload_n 1, 1) := by decide +kernel
theorem d0_2 : decode jdk_42_method_3_code 2 = .ok (.iconst 0, 1) := by decide +kernel
theorem d0_3 : decode jdk_42_method_3_code 3 = .ok (.aload_n 1, 1) := by decide +kernel
theorem d0_4 : decode jdk_42_method_3_code 4 = .ok (.arraylength, 1) := by decide +kernel
theorem d0_5 : decode jdk_42_method_3_code 5 = .ok (.aconst_null, 1) := by decide +kernel
theorem d0_6 : decode jdk_42_method_3_code 6 = .ok (.invokespecial 27, 3) := by decide +kernel
theorem d0_9 : decode jdk_42_method_3_code 9 = .ok (.return_, 1) := by decide +kernel
theorem pd_0 : parseMethodDescriptor "([CIILjava/lang/Void;)V" = some ⟨[(.array .char), .int, .int, (.object "java/lang/Void")], none⟩ := by decide +kernel
set_option maxRecDepth 65536 in
set_option maxHeartbeats 40000000 in
theorem ctE1 (l : Launch) (Z : State) (a0 : Array Value) (hw : ∀ d ∈ tables_1, d.before a0 Z = true) (hEL : EW Z a0 consts_1) (z0 : Int32) (S0 : Sta Z Z.heap "java/lang/String" "COMPACT_STRINGS" "Z" (.int z0)) (hz0 : ¬ z0 = 0) (a b : Addr) (kb : ClassId) (dv : Value) (h0 : Heap) (n0 : Nat) (E0 : Exa Z h0 a "java/lang/String") (F0 : Fld Z h0 a "java/lang/String" "value" "[B" .null) (F1 : Fld Z h0 a "java/lang/String" "coder" "B" (.int (0 : Int32))) (A0 : Arv Z h0 b kb .char (0 : Int32) [] dv) :
    Ct l Z consts_1 [] (⟨"java/lang/String", "<init>", "([C)V"⟩ : MethodName) jdk_42_method_3_code 2 none ({ frames := 2, cells := 4, slots := 8, locals := 29 } : Room) #[(.ref a), (.ref b)] h0 n0 [a] (fun v h => v = none ∧ ∃ t : Addr, OStr Z h a t []) := by
  have w : ∀ {d : Jvm.Cond} (i : Nat), tables_1[i]? = some d → d.before a0 Z = true := fun i q => hw _ (List.mem_of_getElem? q)
  refine Ct.enter (plainFor_of_name pn_1) hEL ?_
  intro p e sS m below meth c T0 hby hml0 hret hlk hnm hs0 X0
  have hml : c.maxLocals = 2 := hml0
  have D : ∀ {pc : Nat} {r : Except DecodeError (Instr × Nat)}, decode jdk_42_method_3_code pc = r → decode c.code pc = r := fun q => hb hby q
  rw [show entryFrame m #[(.ref a), (.ref b)] 2 = mkF m 0 #[.val (.ref a), .val (.ref b)] [] from by first | (simp [entryFrame, mkF, argsToLocals, Value.category]; done) | rfl]
  refine X0.aloadN (x := (.ref a)) (D d0_0) rfl rfl ?_
  refine X0.aloadN (x := (.ref b)) (D d0_1) rfl rfl ?_
  refine X0.iconst (x := (0 : Int32)) (D d0_2) rfl ?_
  refine X0.aloadN (x := (.ref b)) (D d0_3) rfl rfl ?_
  refine X0.alen A0 (D d0_4) ?_
  refine X0.anull (D d0_5) ?_
  refine X0.callc (a := a) [(.ref b), (.int (0 : Int32)), (.int (0 : Int32)), .null] [] (ctE4 l Z a0 hw hEL z0 S0 hz0 a b _ _ E0 F0 F1) rfl (w 7 rfl) (w 8 rfl) (w 3 rfl) (w 10 rfl) (by decide) (by simp) (by decide) 0 (by decide) (by decide) (by decide) (lenOf pd_0 rfl) rfl (Nat.le_of_ble_eq_true rfl) (by rw [hml]; rfl) (D d0_6) ?_
  rintro T70 h71 _ X73 K74 ⟨rfl, t, O⟩
  have F75 := E0.keep K74
  have F76 := A0.keep K74 (ninS (Exa.neArv E0 A0 (w 2 rfl)).symm nin0)
  show Goes p.tables e below _ (T70.setTop (mkF m 9 #[.val (.ref a), .val (.ref b)] []))
  exact X73.retn hret hlk (D d0_9) (by decide) (by decide) (⟨rfl, t, O⟩)
theorem slice0 {L : List Value} {n : Nat} {d : Value} (h : L.length = n) : L = (List.range n).map fun i => L.getD (0 + i) d := by
  apply List.ext_getElem
  · simp [h]
  · intro i h1 h2
    simp [List.getD_eq_getElem?_getD, h1]
theorem mlen {cs : List Int32} {n : Nat} (h : cs.length = n) : ((cs.map StrChars.lo8).map Value.int).length = n := by simp [h]
theorem clen {vd us : List Value} {k n N : Nat} (h : vd.length = N) (hu : us.length = n) (hk : k + n ≤ N) : (vd.take k ++ us ++ vd.drop (k + n)).length = N := by simp [h, hu]; omega
theorem d21_0 : decode jdk_42_method_152_code 0 = .ok (.getstatic 38, 3) := by decide +kernel
theorem d21_3 : decode jdk_42_method_152_code 3 = .ok (.ifCond .eq 10, 3) := by decide +kernel
theorem d21_6 : decode jdk_42_method_152_code 6 = .ok (.aload_n 0, 1) := by decide +kernel
theorem d21_7 : decode jdk_42_method_152_code 7 = .ok (.getfield 15, 3) := by decide +kernel
theorem d21_10 : decode jdk_42_method_152_code 10 = .ok (.goto 4, 3) := by decide +kernel
theorem d21_13 : decode jdk_42_method_152_code 13 = .ok (.iconst 1, 1) := by decide +kernel
theorem d21_14 : decode jdk_42_method_152_code 14 = .ok (.ireturn, 1) := by decide +kernel
set_option maxRecDepth 65536 in
set_option maxHeartbeats 40000000 in
theorem ctCdr (l : Launch) (Z : State) (a0 : Array Value) (hw : ∀ d ∈ tables_1, d.before a0 Z = true) (hEL : EW Z a0 consts_1) (z0 : Int32) (S0 : Sta Z Z.heap "java/lang/String" "COMPACT_STRINGS" "Z" (.int z0)) (hz0 : ¬ z0 = 0) (s : Addr) (h0 : Heap) (n0 : Nat) (F0 : Fld Z h0 s "java/lang/String" "coder" "B" (.int (0 : Int32))) :
    Ct l Z consts_1 [] (⟨"java/lang/String", "coder", "()B"⟩ : MethodName) jdk_42_method_152_code 1 (some .byte) ({ frames := 0, cells := 0, slots := 0, locals := 0 } : Room) #[(.ref s)] h0 n0 [] (fun v _ => v = some (.int 0)) := by
  have w : ∀ {d : Jvm.Cond} (i : Nat), tables_1[i]? = some d → d.before a0 Z = true := fun i q => hw _ (List.mem_of_getElem? q)
  refine Ct.enter (plainFor_of_name pn_1) hEL ?_
  intro p e sS m below meth c T0 hby hml0 hret hlk hnm hs0 X0
  have hml : c.maxLocals = 1 := hml0
  have D : ∀ {pc : Nat} {r : Except DecodeError (Instr × Nat)}, decode jdk_42_method_152_code pc = r → decode c.code pc = r := fun q => hb hby q
  rw [show entryFrame m #[(.ref s)] 1 = mkF m 0 #[.val (.ref s)] [] from by first | (simp [entryFrame, mkF, argsToLocals, Value.category]; done) | rfl]
  refine X0.gets (w 22 rfl) Via.refl (Sta.ext X0.old.2 S0) (D d21_0) ?_
  intro T77 X78
  show Goes p.tables e below _ (T77.setTop (mkF m 3 #[.val (.ref s)] [(.int z0)]))
  refine X78.if_eq 13 (D d21_3) ⟨by decide, by decide⟩ (fun hc => (hz0 hc).elim) (fun hn79 => ?_)
  refine X78.aloadN (x := (.ref s)) (D d21_6) rfl rfl ?_
  refine X78.getf (w 21 rfl) Via.refl F0 (D d21_7) ?_
  intro T80 X81
  show Goes p.tables e below _ (T80.setTop (mkF m 10 #[.val (.ref s)] [(.int (0 : Int32))]))
  refine X81.goto 14 (D d21_10) ⟨by decide, by decide⟩ ?_
  exact X81.reti hret (by simp) hlk (D d21_14) (by decide) (by decide) (rfl)
theorem d17_0 : decode jdk_68_method_2_code 0 = .ok (.aload_n 0, 1) := by decide +kernel
theorem d17_1 : decode jdk_68_method_2_code 1 = .ok (.invokespecial 3, 3) := by decide +kernel
theorem d17_4 : decode jdk_68_method_2_code 4 = .ok (.getstatic 18, 3) := by decide +kernel
theorem d17_7 : decode jdk_68_method_2_code 7 = .ok (.ifCond .eq 18, 3) := by decide +kernel
theorem d17_10 : decode jdk_68_method_2_code 10 = .ok (.aload_n 0, 1) := by decide +kernel
theorem d17_11 : decode jdk_68_method_2_code 11 = .ok (.iload_n 1, 1) := by decide +kernel
theorem d17_12 : decode jdk_68_method_2_code 12 = .ok (.newarray .byte, 2) := by decide +kernel
theorem d17_14 : decode jdk_68_method_2_code 14 = .ok (.putfield 15, 3) := by decide +kernel
theorem d17_17 : decode jdk_68_method_2_code 17 = .ok (.aload_n 0, 1) := by decide +kernel
theorem d17_18 : decode jdk_68_method_2_code 18 = .ok (.iconst 0, 1) := by decide +kernel
theorem d17_19 : decode jdk_68_method_2_code 19 = .ok (.putfield 22, 3) := by decide +kernel
theorem d17_22 : decode jdk_68_method_2_code 22 = .ok (.goto 16, 3) := by decide +kernel
theorem d17_25 : decode jdk_68_method_2_code 25 = .ok (.aload_n 0, 1) := by decide +kernel
theorem d17_26 : decode jdk_68_method_2_code 26 = .ok (.iload_n 1, 1) := by decide +kernel
theorem d17_27 : decode jdk_68_method_2_code 27 = .ok (.invokestatic 26, 3) := by decide +kernel
theorem d17_30 : decode jdk_68_method_2_code 30 = .ok (.putfield 15, 3) := by decide +kernel
theorem d17_33 : decode jdk_68_method_2_code 33 = .ok (.aload_n 0, 1) := by decide +kernel
theorem d17_34 : decode jdk_68_method_2_code 34 = .ok (.iconst 1, 1) := by decide +kernel
theorem d17_35 : decode jdk_68_method_2_code 35 = .ok (.putfield 22, 3) := by decide +kernel
theorem d17_38 : decode jdk_68_method_2_code 38 = .ok (.return_, 1) := by decide +kernel
theorem pn_2 : plainName "java/lang/AbstractStringBuilder" = true := by first | (simp [plainName, overriddenIn]; done) | decide +kernel
set_option maxRecDepth 65536 in
set_option maxHeartbeats 40000000 in
theorem ctASB (l : Launch) (Z : State) (a0 : Array Value) (hw : ∀ d ∈ tables_1, d.before a0 Z = true) (hEL : EW Z a0 consts_1) (z0 : Int32) (S0 : Sta Z Z.heap "java/lang/String" "COMPACT_STRINGS" "Z" (.int z0)) (hz0 : ¬ z0 = 0) (a : Addr) (h0 : Heap) (n0 : Nat) (EB : Exa Z h0 a "java/lang/StringBuilder") (FV : Fld Z h0 a "java/lang/AbstractStringBuilder" "value" "[B" .null) (FC : Fld Z h0 a "java/lang/AbstractStringBuilder" "coder" "B" (.int (0 : Int32))) (FN : Fld Z h0 a "java/lang/AbstractStringBuilder" "count" "I" (.int (0 : Int32))) :
    CtF l Z consts_1 [] (⟨"java/lang/AbstractStringBuilder", "<init>", "(I)V"⟩ : MethodName) jdk_68_method_2_code 2 none ({ frames := 1, cells := 1, slots := 16, locals := 12 } : Room) #[(.ref a), (.int (16 : Int32))] h0 n0 [a] (fun v h F => ∃ (d : Addr) (kd : ClassId), v = none ∧ F = [d] ∧ Exa Z h a "java/lang/StringBuilder" ∧ Fld Z h a "java/lang/AbstractStringBuilder" "value" "[B" (.ref d) ∧ Fld Z h a "java/lang/AbstractStringBuilder" "coder" "B" (.int (0 : Int32)) ∧ Fld Z h a "java/lang/AbstractStringBuilder" "count" "I" (.int (0 : Int32)) ∧ Arv Z h d kd .byte (16 : Int32) ([(.int (0 : Int32)), (.int (0 : Int32)), (.int (0 : Int32)), (.int (0 : Int32)), (.int (0 : Int32)), (.int (0 : Int32)), (.int (0 : Int32)), (.int (0 : Int32)), (.int (0 : Int32)), (.int (0 : Int32)), (.int (0 : Int32)), (.int (0 : Int32)), (.int (0 : Int32)), (.int (0 : Int32)), (.int (0 : Int32)), (.int (0 : Int32))] : List Value) (.int 0)) := by
  have w : ∀ {d : Jvm.Cond} (i : Nat), tables_1[i]? = some d → d.before a0 Z = true := fun i q => hw _ (List.mem_of_getElem? q)
  refine CtF.enter (plainFor_of_name pn_2) hEL ?_
  intro p e sS m below meth c T0 hby hml0 hret hlk hnm hs0 X0
  have hml : c.maxLocals = 2 := hml0
  have D : ∀ {pc : Nat} {r : Except DecodeError (Instr × Nat)}, decode jdk_68_method_2_code pc = r → decode c.code pc = r := fun q => hb hby q
  rw [show entryFrame m #[(.ref a), (.int (16 : Int32))] 2 = mkF m 0 #[.val (.ref a), .val (.int (16 : Int32))] [] from by first | (simp [entryFrame, mkF, argsToLocals, Value.category]; done) | rfl]
  refine X0.aloadN (x := (.ref a)) (D d17_0) rfl rfl ?_
  refine X0.inito (w 103 rfl) (w 12 rfl) (w 13 rfl) (D d17_1) (by rw [hml]; rfl) (by decide) 0 (Nat.le_of_ble_eq_true rfl) (by decide) ?_
  intro T82 X83
  show Goes p.tables e below _ (T82.setTop (mkF m 4 #[.val (.ref a), .val (.int (16 : Int32))] []))
  refine X83.gets (w 104 rfl) Via.refl (Sta.ext X83.old.2 S0) (D d17_4) ?_
  intro T84 X85
  show Goes p.tables e below _ (T84.setTop (mkF m 7 #[.val (.ref a), .val (.int (16 : Int32))] [(.int z0)]))
  refine X85.if_eq 25 (D d17_7) ⟨by decide, by decide⟩ (fun hc => (hz0 hc).elim) (fun hn86 => ?_)
  refine X85.aloadN (x := (.ref a)) (D d17_10) rfl rfl ?_
  refine X85.iloadN (x := (16 : Int32)) (D d17_11) rfl ?_
  refine X85.newarr (w 15 rfl) (n := (16 : Int32)) (D d17_12) (by decide) 16 (by decide) (by decide) (by decide) (by decide) ?_
  intro T87 h88 b89 kb90 g91 X92 E93 A94
  have ge95 : sS.heap.size ≤ b89 := by rw [g91]; exact X85.kept.1
  have F96 := EB.ext E93
  have F97 := FV.ext E93
  have F98 := FC.ext E93
  have F99 := FN.ext E93
  have lt100 : a < b89 := by rw [g91]; exact EB.lt
  have F101 : Arv Z h88 b89 kb90 .byte (16 : Int32) [(.int (0 : Int32)), (.int (0 : Int32)), (.int (0 : Int32)), (.int (0 : Int32)), (.int (0 : Int32)), (.int (0 : Int32)), (.int (0 : Int32)), (.int (0 : Int32)), (.int (0 : Int32)), (.int (0 : Int32)), (.int (0 : Int32)), (.int (0 : Int32)), (.int (0 : Int32)), (.int (0 : Int32)), (.int (0 : Int32)), (.int (0 : Int32))] (.int (0 : Int32)) := A94.pad (pad_rep [] (.int (0 : Int32)) 16)
  show Goes p.tables e below _ (T87.setTop (mkF m 14 #[.val (.ref a), .val (.int (16 : Int32))] [(.ref b89), (.ref a)]))
  refine X92.putf (w 105 rfl) Via.refl F97 F96 (Or.inl (w 106 rfl)) (w 92 rfl) (ty := (.array .byte)) (by decide) rfl rfl (D d17_14) (by simp) ?_
  intro T102 h103 X104 W105
  have F106 := F97.same W105
  have F107 := F96.wr W105
  have F108 := F98.other W105 (Or.inr (slot_ne (t := .byte) (t' := (.array .byte)) (Or.inl (w 108 rfl)) (Or.inl (w 106 rfl)) (by decide) (by decide) (by decide)))
  have F109 := F99.other W105 (Or.inr (slot_ne (t := .int) (t' := (.array .byte)) (Or.inl (w 131 rfl)) (Or.inl (w 106 rfl)) (by decide) (by decide) (by decide)))
  have F110 := F101.other W105 (Nat.ne_of_gt lt100)
  show Goes p.tables e below _ (T102.setTop (mkF m 17 #[.val (.ref a), .val (.int (16 : Int32))] []))
  refine X104.aloadN (x := (.ref a)) (D d17_17) rfl rfl ?_
  refine X104.iconst (x := (0 : Int32)) (D d17_18) rfl ?_
  refine X104.putf (w 107 rfl) Via.refl F108 F107 (Or.inl (w 108 rfl)) (w 92 rfl) (ty := .byte) (by decide) rfl rfl (D d17_19) (by simp) ?_
  intro T111 h112 X113 W114
  have F115 := F108.same W114
  have F116 := F107.wr W114
  have F117 := F109.other W114 (Or.inr (slot_ne (t := .int) (t' := .byte) (Or.inl (w 131 rfl)) (Or.inl (w 108 rfl)) (by decide) (by decide) (by decide)))
  have F118 := F110.other W114 (Nat.ne_of_gt lt100)
  have F119 := F106.other W114 (Or.inr (slot_ne (t := (.array .byte)) (t' := .byte) (Or.inl (w 106 rfl)) (Or.inl (w 108 rfl)) (by decide) (by decide) (by decide)))
  show Goes p.tables e below _ (T111.setTop (mkF m 22 #[.val (.ref a), .val (.int (16 : Int32))] []))
  refine X113.goto 38 (D d17_22) ⟨by decide, by decide⟩ ?_
  exact X113.retnF [b89] (fun x q => by simp only [List.mem_cons, List.not_mem_nil, or_false] at q; rcases q with rfl <;> exact ⟨by simp, by assumption⟩) hret hlk (D d17_38) (by decide) (by decide) (⟨b89, _, rfl, rfl, F116, F119, F115, F117, F118⟩)
theorem d16_0 : decode jdk_67_method_1_code 0 = .ok (.aload_n 0, 1) := by decide +kernel
theorem d16_1 : decode jdk_67_method_1_code 1 = .ok (.bipush 16, 2) := by decide +kernel
theorem d16_3 : decode jdk_67_method_1_code 3 = .ok (.invokespecial 1, 3) := by decide +kernel
theorem d16_6 : decode jdk_67_method_1_code 6 = .ok (.return_, 1) := by decide +kernel
theorem pn_3 : plainName "java/lang/StringBuilder" = true := by first | (simp [plainName, overriddenIn]; done) | decide +kernel
theorem pd_1 : parseMethodDescriptor "(I)V" = some ⟨[.int], none⟩ := by decide +kernel
set_option maxRecDepth 65536 in
set_option maxHeartbeats 40000000 in
theorem ctSBi (l : Launch) (Z : State) (a0 : Array Value) (hw : ∀ d ∈ tables_1, d.before a0 Z = true) (hEL : EW Z a0 consts_1) (z0 : Int32) (S0 : Sta Z Z.heap "java/lang/String" "COMPACT_STRINGS" "Z" (.int z0)) (hz0 : ¬ z0 = 0) (a : Addr) (h0 : Heap) (n0 : Nat) (EB : Exa Z h0 a "java/lang/StringBuilder") (FV : Fld Z h0 a "java/lang/AbstractStringBuilder" "value" "[B" .null) (FC : Fld Z h0 a "java/lang/AbstractStringBuilder" "coder" "B" (.int (0 : Int32))) (FN : Fld Z h0 a "java/lang/AbstractStringBuilder" "count" "I" (.int (0 : Int32))) :
    CtF l Z consts_1 [] (⟨"java/lang/StringBuilder", "<init>", "()V"⟩ : MethodName) jdk_67_method_1_code 1 none ({ frames := 2, cells := 1, slots := 16, locals := 25 } : Room) #[(.ref a)] h0 n0 [a] (fun v h F => ∃ (d : Addr) (kd : ClassId), v = none ∧ F = [d] ∧ Exa Z h a "java/lang/StringBuilder" ∧ Fld Z h a "java/lang/AbstractStringBuilder" "value" "[B" (.ref d) ∧ Fld Z h a "java/lang/AbstractStringBuilder" "coder" "B" (.int (0 : Int32)) ∧ Fld Z h a "java/lang/AbstractStringBuilder" "count" "I" (.int (0 : Int32)) ∧ Arv Z h d kd .byte (16 : Int32) ([(.int (0 : Int32)), (.int (0 : Int32)), (.int (0 : Int32)), (.int (0 : Int32)), (.int (0 : Int32)), (.int (0 : Int32)), (.int (0 : Int32)), (.int (0 : Int32)), (.int (0 : Int32)), (.int (0 : Int32)), (.int (0 : Int32)), (.int (0 : Int32)), (.int (0 : Int32)), (.int (0 : Int32)), (.int (0 : Int32)), (.int (0 : Int32))] : List Value) (.int 0)) := by
  have w : ∀ {d : Jvm.Cond} (i : Nat), tables_1[i]? = some d → d.before a0 Z = true := fun i q => hw _ (List.mem_of_getElem? q)
  refine CtF.enter (plainFor_of_name pn_3) hEL ?_
  intro p e sS m below meth c T0 hby hml0 hret hlk hnm hs0 X0
  have hml : c.maxLocals = 1 := hml0
  have D : ∀ {pc : Nat} {r : Except DecodeError (Instr × Nat)}, decode jdk_67_method_1_code pc = r → decode c.code pc = r := fun q => hb hby q
  rw [show entryFrame m #[(.ref a)] 1 = mkF m 0 #[.val (.ref a)] [] from by first | (simp [entryFrame, mkF, argsToLocals, Value.category]; done) | rfl]
  refine X0.aloadN (x := (.ref a)) (D d16_0) rfl rfl ?_
  refine X0.bipush (x := (16 : Int32)) (D d16_1) rfl ?_
  refine X0.callcF (a := a) [(.int (16 : Int32))] [] (ctASB l Z a0 hw hEL z0 S0 hz0 a _ _ EB FV FC FN) rfl (w 97 rfl) (w 98 rfl) (w 101 rfl) (w 102 rfl) (by decide) (by simp) (by decide) 0 (by decide) (by decide) (by decide) (lenOf pd_1 rfl) rfl (Nat.le_of_ble_eq_true rfl) (by rw [hml]; rfl) (D d16_3) ?_
  rintro T120 h121 _ _ X123 K124 hg125 ⟨d, kd, rfl, rfl, E1, V1, C1, N1, A1⟩
  have F126 := EB.keep K124
  have fg127 := hg125 d (by simp)
  have ge128 : sS.heap.size ≤ d := Nat.le_trans X0.kept.1 fg127
  have lt129 : a < d := Nat.lt_of_lt_of_le EB.lt fg127
  show Goes p.tables e below _ (T120.setTop (mkF m 6 #[.val (.ref a)] []))
  exact X123.retnF [d] (fun x q => by simp only [List.mem_cons, List.not_mem_nil, or_false] at q; rcases q with rfl <;> exact ⟨by simp, by assumption⟩) hret hlk (D d16_6) (by decide) (by decide) (⟨d, _, rfl, rfl, E1, V1, C1, N1, A1⟩)
theorem d24_0 : decode jdk_68_method_71_code 0 = .ok (.getstatic 18, 3) := by decide +kernel
theorem d24_3 : decode jdk_68_method_71_code 3 = .ok (.ifCond .eq 18, 3) := by decide +kernel
theorem d24_6 : decode jdk_68_method_71_code 6 = .ok (.aload_n 0, 1) := by decide +kernel
theorem d24_7 : decode jdk_68_method_71_code 7 = .ok (.getfield 22, 3) := by decide +kernel
theorem d24_10 : decode jdk_68_method_71_code 10 = .ok (.aload_n 1, 1) := by decide +kernel
theorem d24_11 : decode jdk_68_method_71_code 11 = .ok (.invokevirtual 40, 3) := by decide +kernel
theorem d24_14 : decode jdk_68_method_71_code 14 = .ok (.if_icmp .eq 7, 3) := by decide +kernel
theorem d24_17 : decode jdk_68_method_71_code 17 = .ok (.aload_n 0, 1) := by decide +kernel
theorem d24_18 : decode jdk_68_method_71_code 18 = .ok (.invokevirtual 195, 3) := by decide +kernel
theorem d24_21 : decode jdk_68_method_71_code 21 = .ok (.return_, 1) := by decide +kernel
theorem pd_2 : parseMethodDescriptor "()B" = some ⟨[], (some .byte)⟩ := by decide +kernel
set_option maxRecDepth 65536 in
set_option maxHeartbeats 40000000 in
theorem ctInf (l : Launch) (Z : State) (a0 : Array Value) (hw : ∀ d ∈ tables_1, d.before a0 Z = true) (hEL : EW Z a0 consts_1) (z0 : Int32) (S0 : Sta Z Z.heap "java/lang/String" "COMPACT_STRINGS" "Z" (.int z0)) (hz0 : ¬ z0 = 0) (b d s : Addr) (h0 : Heap) (n0 : Nat) (EB : Exa Z h0 b "java/lang/StringBuilder") (FV : Fld Z h0 b "java/lang/AbstractStringBuilder" "value" "[B" (.ref d)) (FC : Fld Z h0 b "java/lang/AbstractStringBuilder" "coder" "B" (.int (0 : Int32))) (ES : Exa Z h0 s "java/lang/String") (F0 : Fld Z h0 s "java/lang/String" "coder" "B" (.int (0 : Int32))) :
    Ct l Z consts_1 [] (⟨"java/lang/AbstractStringBuilder", "inflateIfNeededFor", "(Ljava/lang/String;)V"⟩ : MethodName) jdk_68_method_71_code 2 none ({ frames := 1, cells := 0, slots := 0, locals := 13 } : Room) #[(.ref b), (.ref s)] h0 n0 [] (fun v _ => v = none) := by
  have w : ∀ {d : Jvm.Cond} (i : Nat), tables_1[i]? = some d → d.before a0 Z = true := fun i q => hw _ (List.mem_of_getElem? q)
  refine Ct.enter (plainFor_of_name pn_2) hEL ?_
  intro p e sS m below meth c T0 hby hml0 hret hlk hnm hs0 X0
  have hml : c.maxLocals = 2 := hml0
  have D : ∀ {pc : Nat} {r : Except DecodeError (Instr × Nat)}, decode jdk_68_method_71_code pc = r → decode c.code pc = r := fun q => hb hby q
  rw [show entryFrame m #[(.ref b), (.ref s)] 2 = mkF m 0 #[.val (.ref b), .val (.ref s)] [] from by first | (simp [entryFrame, mkF, argsToLocals, Value.category]; done) | rfl]
  refine X0.gets (w 104 rfl) Via.refl (Sta.ext X0.old.2 S0) (D d24_0) ?_
  intro T130 X131
  show Goes p.tables e below _ (T130.setTop (mkF m 3 #[.val (.ref b), .val (.ref s)] [(.int z0)]))
  refine X131.if_eq 21 (D d24_3) ⟨by decide, by decide⟩ (fun hc => (hz0 hc).elim) (fun hn132 => ?_)
  refine X131.aloadN (x := (.ref b)) (D d24_6) rfl rfl ?_
  refine X131.getf (w 107 rfl) Via.refl FC (D d24_7) ?_
  intro T133 X134
  show Goes p.tables e below _ (T133.setTop (mkF m 10 #[.val (.ref b), .val (.ref s)] [(.int (0 : Int32))]))
  refine X134.aloadN (x := (.ref s)) (D d24_10) rfl rfl ?_
  refine X134.callvF (y := (⟨"java/lang/String", "coder", "()B"⟩ : MethodName)) (z := (⟨"java/lang/String", "coder", "()B"⟩ : MethodName)) (a := s) (C := "java/lang/String") [] [(.int (0 : Int32))] (ctCdr l Z a0 hw hEL z0 S0 hz0 s _ _ F0).toF ES (w 147 rfl) (w 126 rfl) (w 128 rfl) (w 127 rfl) (nfOf (w 128 rfl) rfl) (w 3 rfl) (w 129 rfl) (by decide) (fun _ q => nomatch q) (by decide) 1 (by decide) (by decide) (by decide) (lenOf pd_2 rfl) rfl (Nat.le_of_ble_eq_true rfl) (by rw [hml]; rfl) (D d24_11) ?_
  rintro T135 h136 _ _ X138 K139 hg140 ⟨rfl, rfl⟩
  have F141 := EB.keep K139
  have F142 := FV.keep K139 nin0
  have F143 := FC.keep K139 nin0
  have F144 := ES.keep K139
  have F145 := F0.keep K139 nin0
  show Goes p.tables e below _ (T135.setTop (mkF m 14 #[.val (.ref b), .val (.ref s)] [(.int (0 : Int32)), (.int (0 : Int32))]))
  refine X138.icmp_eq 21 (D d24_14) ⟨by decide, by decide⟩ (fun hc146 => ?_) (fun hc146 => absurd hc146 (by decide))
  exact X138.retn hret hlk (D d24_21) (by decide) (by decide) (rfl)
theorem d7_0 : decode prog_6_method_1_code 0 = .ok (.aload_n 0, 1) := by decide +kernel
theorem d7_1 : decode prog_6_method_1_code 1 = .ok (.invokespecial 1, 3) := by decide +kernel
theorem d7_4 : decode prog_6_method_1_code 4 = .ok (.aload_n 0, 1) := by decide +kernel
theorem d7_5 : decode prog_6_method_1_code 5 = .ok (.aload_n 1, 1) := by decide +kernel
theorem d7_6 : decode prog_6_method_1_code 6 = .ok (.putfield 7, 3) := by decide +kernel
theorem d7_9 : decode prog_6_method_1_code 9 = .ok (.aload_n 0, 1) := by decide +kernel
theorem d7_10 : decode prog_6_method_1_code 10 = .ok (.iload_n 2, 1) := by decide +kernel
theorem d7_11 : decode prog_6_method_1_code 11 = .ok (.putfield 13, 3) := by decide +kernel
theorem d7_14 : decode prog_6_method_1_code 14 = .ok (.aload_n 0, 1) := by decide +kernel
theorem d7_15 : decode prog_6_method_1_code 15 = .ok (.aload_n 3, 1) := by decide +kernel
theorem d7_16 : decode prog_6_method_1_code 16 = .ok (.putfield 17, 3) := by decide +kernel
theorem d7_19 : decode prog_6_method_1_code 19 = .ok (.aload_n 0, 1) := by decide +kernel
theorem d7_20 : decode prog_6_method_1_code 20 = .ok (.iload 4, 2) := by decide +kernel
theorem d7_22 : decode prog_6_method_1_code 22 = .ok (.putfield 21, 3) := by decide +kernel
theorem d7_25 : decode prog_6_method_1_code 25 = .ok (.return_, 1) := by decide +kernel
theorem pn_4 : plainName "com/example/greylag/greylag/Decision" = true := by first | (simp [plainName, overriddenIn]; done) | decide +kernel
theorem pd_3 : parseMethodDescriptor "()V" = some ⟨[], none⟩ := by decide +kernel
set_option maxRecDepth 65536 in
set_option maxHeartbeats 40000000 in
theorem ctDec (l : Launch) (Z : State) (a0 : Array Value) (hw : ∀ d ∈ tables_1, d.before a0 Z = true) (hEL : EW Z a0 consts_1) (z0 : Int32) (S0 : Sta Z Z.heap "java/lang/String" "COMPACT_STRINGS" "Z" (.int z0)) (hz0 : ¬ z0 = 0) (a r : Addr) (h0 : Heap) (n0 : Nat) (E0 : Exa Z h0 a "com/example/greylag/greylag/Decision") (F0 : Fld Z h0 a "com/example/greylag/greylag/Decision" "role" "Ljava/lang/String;" .null) (F1 : Fld Z h0 a "com/example/greylag/greylag/Decision" "index" "I" (.int (0 : Int32))) (F2 : Fld Z h0 a "com/example/greylag/greylag/Decision" "permission" "Lcom/example/greylag/greylag/Permission;" .null) (F3 : Fld Z h0 a "com/example/greylag/greylag/Decision" "bypass" "Z" (.int (0 : Int32))) :
    Ct l Z consts_1 [] (⟨"com/example/greylag/greylag/Decision", "<init>", "(Ljava/lang/String;ILcom/example/greylag/greylag/Permission;Z)V"⟩ : MethodName) prog_6_method_1_code 5 none ({ frames := 2, cells := 0, slots := 0, locals := 24 } : Room) #[(.ref a), (.ref r), (.int (-1 : Int32)), .null, (.int (1 : Int32))] h0 n0 [a] (fun v h => v = none ∧ Exa Z h a "com/example/greylag/greylag/Decision" ∧ Fld Z h a "com/example/greylag/greylag/Decision" "role" "Ljava/lang/String;" (.ref r) ∧ Fld Z h a "com/example/greylag/greylag/Decision" "index" "I" (.int (-1 : Int32)) ∧ Fld Z h a "com/example/greylag/greylag/Decision" "permission" "Lcom/example/greylag/greylag/Permission;" .null ∧ Fld Z h a "com/example/greylag/greylag/Decision" "bypass" "Z" (.int (1 : Int32))) := by
  have w : ∀ {d : Jvm.Cond} (i : Nat), tables_1[i]? = some d → d.before a0 Z = true := fun i q => hw _ (List.mem_of_getElem? q)
  refine Ct.enter (plainFor_of_name pn_4) hEL ?_
  intro p e sS m below meth c T0 hby hml0 hret hlk hnm hs0 X0
  have hml : c.maxLocals = 5 := hml0
  have D : ∀ {pc : Nat} {r : Except DecodeError (Instr × Nat)}, decode prog_6_method_1_code pc = r → decode c.code pc = r := fun q => hb hby q
  rw [show entryFrame m #[(.ref a), (.ref r), (.int (-1 : Int32)), .null, (.int (1 : Int32))] 5 = mkF m 0 #[.val (.ref a), .val (.ref r), .val (.int (-1 : Int32)), .val .null, .val (.int (1 : Int32))] [] from by first | (simp [entryFrame, mkF, argsToLocals, Value.category]; done) | rfl]
  refine X0.aloadN (x := (.ref a)) (D d7_0) rfl rfl ?_
  refine X0.callc (a := a) [] [] (ctRec l Z a0 hw hEL z0 S0 hz0 a _ _) rfl (w 42 rfl) (w 43 rfl) (w 45 rfl) (w 46 rfl) (by decide) (fun _ q => nomatch q) (by decide) 0 (by decide) (by decide) (by decide) (lenOf pd_3 rfl) rfl (Nat.le_of_ble_eq_true rfl) (by rw [hml]; rfl) (D d7_1) ?_
  rintro T147 h148 _ X150 K151 rfl
  have F152 := E0.keep K151
  have F153 := F0.keep K151 nin0
  have F154 := F1.keep K151 nin0
  have F155 := F2.keep K151 nin0
  have F156 := F3.keep K151 nin0
  show Goes p.tables e below _ (T147.setTop (mkF m 4 #[.val (.ref a), .val (.ref r), .val (.int (-1 : Int32)), .val .null, .val (.int (1 : Int32))] []))
  refine X150.aloadN (x := (.ref a)) (D d7_4) rfl rfl ?_
  refine X150.aloadN (x := (.ref r)) (D d7_5) rfl rfl ?_
  refine X150.putf (w 48 rfl) Via.refl F153 F152 (Or.inr ⟨(w 49 rfl), rfl, hnm⟩) (w 38 rfl) (ty := (.object "java/lang/String")) (by decide) rfl rfl (D d7_6) (by simp) ?_
  intro T157 h158 X159 W160
  have F161 := F153.same W160
  have F162 := F152.wr W160
  have F163 := F154.other W160 (Or.inr (slot_ne (t := .int) (t' := (.object "java/lang/String")) (Or.inr (w 51 rfl)) (Or.inr (w 49 rfl)) (by decide) (by decide) (by decide)))
  have F164 := F155.other W160 (Or.inr (slot_ne (t := (.object "com/example/greylag/greylag/Permission")) (t' := (.object "java/lang/String")) (Or.inr (w 53 rfl)) (Or.inr (w 49 rfl)) (by decide) (by decide) (by decide)))
  have F165 := F156.other W160 (Or.inr (slot_ne (t := .boolean) (t' := (.object "java/lang/String")) (Or.inr (w 55 rfl)) (Or.inr (w 49 rfl)) (by decide) (by decide) (by decide)))
  show Goes p.tables e below _ (T157.setTop (mkF m 9 #[.val (.ref a), .val (.ref r), .val (.int (-1 : Int32)), .val .null, .val (.int (1 : Int32))] []))
  refine X159.aloadN (x := (.ref a)) (D d7_9) rfl rfl ?_
  refine X159.iloadN (x := (-1 : Int32)) (D d7_10) rfl ?_
  refine X159.putf (w 50 rfl) Via.refl F163 F162 (Or.inr ⟨(w 51 rfl), rfl, hnm⟩) (w 38 rfl) (ty := .int) (by decide) rfl rfl (D d7_11) (by simp) ?_
  intro T166 h167 X168 W169
  have F170 := F163.same W169
  have F171 := F162.wr W169
  have F172 := F164.other W169 (Or.inr (slot_ne (t := (.object "com/example/greylag/greylag/Permission")) (t' := .int) (Or.inr (w 53 rfl)) (Or.inr (w 51 rfl)) (by decide) (by decide) (by decide)))
  have F173 := F165.other W169 (Or.inr (slot_ne (t := .boolean) (t' := .int) (Or.inr (w 55 rfl)) (Or.inr (w 51 rfl)) (by decide) (by decide) (by decide)))
  have F174 := F161.other W169 (Or.inr (slot_ne (t := (.object "java/lang/String")) (t' := .int) (Or.inr (w 49 rfl)) (Or.inr (w 51 rfl)) (by decide) (by decide) (by decide)))
  show Goes p.tables e below _ (T166.setTop (mkF m 14 #[.val (.ref a), .val (.ref r), .val (.int (-1 : Int32)), .val .null, .val (.int (1 : Int32))] []))
  refine X168.aloadN (x := (.ref a)) (D d7_14) rfl rfl ?_
  refine X168.aloadN (x := .null) (D d7_15) rfl rfl ?_
  refine X168.putf (w 52 rfl) Via.refl F172 F171 (Or.inr ⟨(w 53 rfl), rfl, hnm⟩) (w 38 rfl) (ty := (.object "com/example/greylag/greylag/Permission")) (by decide) rfl rfl (D d7_16) (by simp) ?_
  intro T175 h176 X177 W178
  have F179 := F172.same W178
  have F180 := F171.wr W178
  have F181 := F173.other W178 (Or.inr (slot_ne (t := .boolean) (t' := (.object "com/example/greylag/greylag/Permission")) (Or.inr (w 55 rfl)) (Or.inr (w 53 rfl)) (by decide) (by decide) (by decide)))
  have F182 := F174.other W178 (Or.inr (slot_ne (t := (.object "java/lang/String")) (t' := (.object "com/example/greylag/greylag/Permission")) (Or.inr (w 49 rfl)) (Or.inr (w 53 rfl)) (by decide) (by decide) (by decide)))
  have F183 := F170.other W178 (Or.inr (slot_ne (t := .int) (t' := (.object "com/example/greylag/greylag/Permission")) (Or.inr (w 51 rfl)) (Or.inr (w 53 rfl)) (by decide) (by decide) (by decide)))
  show Goes p.tables e below _ (T175.setTop (mkF m 19 #[.val (.ref a), .val (.ref r), .val (.int (-1 : Int32)), .val .null, .val (.int (1 : Int32))] []))
  refine X177.aloadN (x := (.ref a)) (D d7_19) rfl rfl ?_
  refine X177.iload (x := (1 : Int32)) (D d7_20) rfl ?_
  refine X177.putf (w 54 rfl) Via.refl F181 F180 (Or.inr ⟨(w 55 rfl), rfl, hnm⟩) (w 38 rfl) (ty := .boolean) (by decide) rfl rfl (D d7_22) (by simp) ?_
  intro T184 h185 X186 W187
  have F188 := F181.same W187
  have F189 := F180.wr W187
  have F190 := F182.other W187 (Or.inr (slot_ne (t := (.object "java/lang/String")) (t' := .boolean) (Or.inr (w 49 rfl)) (Or.inr (w 55 rfl)) (by decide) (by decide) (by decide)))
  have F191 := F183.other W187 (Or.inr (slot_ne (t := .int) (t' := .boolean) (Or.inr (w 51 rfl)) (Or.inr (w 55 rfl)) (by decide) (by decide) (by decide)))
  have F192 := F179.other W187 (Or.inr (slot_ne (t := (.object "com/example/greylag/greylag/Permission")) (t' := .boolean) (Or.inr (w 53 rfl)) (Or.inr (w 55 rfl)) (by decide) (by decide) (by decide)))
  show Goes p.tables e below _ (T184.setTop (mkF m 25 #[.val (.ref a), .val (.ref r), .val (.int (-1 : Int32)), .val .null, .val (.int (1 : Int32))] []))
  exact X186.retn hret hlk (D d7_25) (by decide) (by decide) (⟨rfl, F189, F190, F191, F192, F188⟩)
theorem d6_0 : decode prog_6_method_2_code 0 = .ok (.new 8, 3) := by decide +kernel
theorem d6_3 : decode prog_6_method_2_code 3 = .ok (.dup, 1) := by decide +kernel
theorem d6_4 : decode prog_6_method_2_code 4 = .ok (.aload_n 0, 1) := by decide +kernel
theorem d6_5 : decode prog_6_method_2_code 5 = .ok (.iconst (-1), 1) := by decide +kernel
theorem d6_6 : decode prog_6_method_2_code 6 = .ok (.aconst_null, 1) := by decide +kernel
theorem d6_7 : decode prog_6_method_2_code 7 = .ok (.iconst 1, 1) := by decide +kernel
theorem d6_8 : decode prog_6_method_2_code 8 = .ok (.invokespecial 25, 3) := by decide +kernel
theorem d6_11 : decode prog_6_method_2_code 11 = .ok (.areturn, 1) := by decide +kernel
theorem pd_4 : parseMethodDescriptor "(Ljava/lang/String;ILcom/example/greylag/greylag/Permission;Z)V" = some ⟨[(.object "java/lang/String"), .int, (.object "com/example/greylag/greylag/Permission"), .boolean], none⟩ := by decide +kernel
set_option maxRecDepth 65536 in
set_option maxHeartbeats 40000000 in
theorem ctBy (l : Launch) (Z : State) (a0 : Array Value) (hw : ∀ d ∈ tables_1, d.before a0 Z = true) (hEL : EW Z a0 consts_1) (z0 : Int32) (S0 : Sta Z Z.heap "java/lang/String" "COMPACT_STRINGS" "Z" (.int z0)) (hz0 : ¬ z0 = 0) (r : Addr) (h0 : Heap) (n0 : Nat)  :
    Ct l Z consts_1 [] (⟨"com/example/greylag/greylag/Decision", "bypassedBy", "(Ljava/lang/String;)Lcom/example/greylag/greylag/Decision;"⟩ : MethodName) prog_6_method_2_code 1 (some (.object "com/example/greylag/greylag/Decision")) ({ frames := 3, cells := 1, slots := 4, locals := 41 } : Room) #[(.ref r)] h0 n0 [] (fun v h => ∃ a : Addr, v = some (.ref a) ∧ Exa Z h a "com/example/greylag/greylag/Decision" ∧ Fld Z h a "com/example/greylag/greylag/Decision" "role" "Ljava/lang/String;" (.ref r) ∧ Fld Z h a "com/example/greylag/greylag/Decision" "index" "I" (.int (-1 : Int32)) ∧ Fld Z h a "com/example/greylag/greylag/Decision" "permission" "Lcom/example/greylag/greylag/Permission;" .null ∧ Fld Z h a "com/example/greylag/greylag/Decision" "bypass" "Z" (.int (1 : Int32))) := by
  have w : ∀ {d : Jvm.Cond} (i : Nat), tables_1[i]? = some d → d.before a0 Z = true := fun i q => hw _ (List.mem_of_getElem? q)
  refine Ct.enter (plainFor_of_name pn_4) hEL ?_
  intro p e sS m below meth c T0 hby hml0 hret hlk hnm hs0 X0
  have hml : c.maxLocals = 1 := hml0
  have D : ∀ {pc : Nat} {r : Except DecodeError (Instr × Nat)}, decode prog_6_method_2_code pc = r → decode c.code pc = r := fun q => hb hby q
  rw [show entryFrame m #[(.ref r)] 1 = mkF m 0 #[.val (.ref r)] [] from by first | (simp [entryFrame, mkF, argsToLocals, Value.category]; done) | rfl]
  refine X0.new (w 37 rfl) (w 38 rfl) (w 35 rfl) (D d6_0) (by decide) (by decide) ?_
  intro T193 h194 b195 g196 X197 E198 A199 D200 U201
  have F202 : Fld Z h194 b195 "com/example/greylag/greylag/Decision" "role" "Ljava/lang/String;" .null := D200 (Or.inr (w 49 rfl)) (ty := (.object "java/lang/String")) (by decide)
  have F203 : Fld Z h194 b195 "com/example/greylag/greylag/Decision" "index" "I" (.int (0 : Int32)) := D200 (Or.inr (w 51 rfl)) (ty := .int) (by decide)
  have F204 : Fld Z h194 b195 "com/example/greylag/greylag/Decision" "permission" "Lcom/example/greylag/greylag/Permission;" .null := D200 (Or.inr (w 53 rfl)) (ty := (.object "com/example/greylag/greylag/Permission")) (by decide)
  have F205 : Fld Z h194 b195 "com/example/greylag/greylag/Decision" "bypass" "Z" (.int (0 : Int32)) := D200 (Or.inr (w 55 rfl)) (ty := .boolean) (by decide)
  show Goes p.tables e below _ (T193.setTop (mkF m 3 #[.val (.ref r)] [(.ref b195)]))
  refine X197.dup (D d6_3) rfl ?_
  refine X197.aloadN (x := (.ref r)) (D d6_4) rfl rfl ?_
  refine X197.iconst (x := (-1 : Int32)) (D d6_5) rfl ?_
  refine X197.anull (D d6_6) ?_
  refine X197.iconst (x := (1 : Int32)) (D d6_7) rfl ?_
  refine X197.callc (a := b195) [(.ref r), (.int (-1 : Int32)), .null, (.int (1 : Int32))] [(.ref b195)] (ctDec l Z a0 hw hEL z0 S0 hz0 b195 r _ _ A199 F202 F203 F204 F205) rfl (w 39 rfl) (w 40 rfl) (w 35 rfl) (w 41 rfl) (by decide) (by simp) (by decide) 1 (by decide) (by decide) (by decide) (lenOf pd_4 rfl) rfl (Nat.le_of_ble_eq_true rfl) (by rw [hml]; rfl) (D d6_8) ?_
  rintro T206 h207 _ X209 K210 ⟨rfl, G0, G1, G2, G3, G4⟩
  have F211 := A199.keep K210
  show Goes p.tables e below _ (T206.setTop (mkF m 11 #[.val (.ref r)] [(.ref b195)]))
  exact X209.retA hret rfl rfl hlk (D d6_11) (by decide) (by decide) (⟨_, rfl, G0, G1, G2, G3, G4⟩)
theorem d9_0 : decode prog_6_method_10_code 0 = .ok (.aload_n 0, 1) := by decide +kernel
theorem d9_1 : decode prog_6_method_10_code 1 = .ok (.getfield 7, 3) := by decide +kernel
theorem d9_4 : decode prog_6_method_10_code 4 = .ok (.areturn, 1) := by decide +kernel
set_option maxRecDepth 65536 in
set_option maxHeartbeats 40000000 in
theorem ctRole (l : Launch) (Z : State) (a0 : Array Value) (hw : ∀ d ∈ tables_1, d.before a0 Z = true) (hEL : EW Z a0 consts_1) (z0 : Int32) (S0 : Sta Z Z.heap "java/lang/String" "COMPACT_STRINGS" "Z" (.int z0)) (hz0 : ¬ z0 = 0) (a r : Addr) (h0 : Heap) (n0 : Nat) (F0 : Fld Z h0 a "com/example/greylag/greylag/Decision" "role" "Ljava/lang/String;" (.ref r)) :
    Ct l Z consts_1 [] (⟨"com/example/greylag/greylag/Decision", "role", "()Ljava/lang/String;"⟩ : MethodName) prog_6_method_10_code 1 (some (.object "java/lang/String")) ({ frames := 0, cells := 0, slots := 0, locals := 0 } : Room) #[(.ref a)] h0 n0 [] (fun v _ => v = some (.ref r)) := by
  have w : ∀ {d : Jvm.Cond} (i : Nat), tables_1[i]? = some d → d.before a0 Z = true := fun i q => hw _ (List.mem_of_getElem? q)
  refine Ct.enter (plainFor_of_name pn_4) hEL ?_
  intro p e sS m below meth c T0 hby hml0 hret hlk hnm hs0 X0
  have hml : c.maxLocals = 1 := hml0
  have D : ∀ {pc : Nat} {r : Except DecodeError (Instr × Nat)}, decode prog_6_method_10_code pc = r → decode c.code pc = r := fun q => hb hby q
  rw [show entryFrame m #[(.ref a)] 1 = mkF m 0 #[.val (.ref a)] [] from by first | (simp [entryFrame, mkF, argsToLocals, Value.category]; done) | rfl]
  refine X0.aloadN (x := (.ref a)) (D d9_0) rfl rfl ?_
  refine X0.getf (w 48 rfl) Via.refl F0 (D d9_1) ?_
  intro T212 X213
  show Goes p.tables e below _ (T212.setTop (mkF m 4 #[.val (.ref a)] [(.ref r)]))
  exact X213.retA hret rfl rfl hlk (D d9_4) (by decide) (by decide) (rfl)
theorem d11_0 : decode prog_6_method_11_code 0 = .ok (.aload_n 0, 1) := by decide +kernel
theorem d11_1 : decode prog_6_method_11_code 1 = .ok (.getfield 13, 3) := by decide +kernel
theorem d11_4 : decode prog_6_method_11_code 4 = .ok (.ireturn, 1) := by decide +kernel
set_option maxRecDepth 65536 in
set_option maxHeartbeats 40000000 in
theorem ctIdx (l : Launch) (Z : State) (a0 : Array Value) (hw : ∀ d ∈ tables_1, d.before a0 Z = true) (hEL : EW Z a0 consts_1) (z0 : Int32) (S0 : Sta Z Z.heap "java/lang/String" "COMPACT_STRINGS" "Z" (.int z0)) (hz0 : ¬ z0 = 0) (a r : Addr) (h0 : Heap) (n0 : Nat) (F0 : Fld Z h0 a "com/example/greylag/greylag/Decision" "index" "I" (.int (-1 : Int32))) :
    Ct l Z consts_1 [] (⟨"com/example/greylag/greylag/Decision", "index", "()I"⟩ : MethodName) prog_6_method_11_code 1 (some .int) ({ frames := 0, cells := 0, slots := 0, locals := 0 } : Room) #[(.ref a)] h0 n0 [] (fun v _ => v = some (.int (-1 : Int32))) := by
  have w : ∀ {d : Jvm.Cond} (i : Nat), tables_1[i]? = some d → d.before a0 Z = true := fun i q => hw _ (List.mem_of_getElem? q)
  refine Ct.enter (plainFor_of_name pn_4) hEL ?_
  intro p e sS m below meth c T0 hby hml0 hret hlk hnm hs0 X0
  have hml : c.maxLocals = 1 := hml0
  have D : ∀ {pc : Nat} {r : Except DecodeError (Instr × Nat)}, decode prog_6_method_11_code pc = r → decode c.code pc = r := fun q => hb hby q
  rw [show entryFrame m #[(.ref a)] 1 = mkF m 0 #[.val (.ref a)] [] from by first | (simp [entryFrame, mkF, argsToLocals, Value.category]; done) | rfl]
  refine X0.aloadN (x := (.ref a)) (D d11_0) rfl rfl ?_
  refine X0.getf (w 50 rfl) Via.refl F0 (D d11_1) ?_
  intro T214 X215
  show Goes p.tables e below _ (T214.setTop (mkF m 4 #[.val (.ref a)] [(.int (-1 : Int32))]))
  exact X215.retI hret hlk (D d11_4) (by decide) (by decide) (rfl)
theorem d12_0 : decode prog_6_method_12_code 0 = .ok (.aload_n 0, 1) := by decide +kernel
theorem d12_1 : decode prog_6_method_12_code 1 = .ok (.getfield 17, 3) := by decide +kernel
theorem d12_4 : decode prog_6_method_12_code 4 = .ok (.areturn, 1) := by decide +kernel
set_option maxRecDepth 65536 in
set_option maxHeartbeats 40000000 in
theorem ctPerm (l : Launch) (Z : State) (a0 : Array Value) (hw : ∀ d ∈ tables_1, d.before a0 Z = true) (hEL : EW Z a0 consts_1) (z0 : Int32) (S0 : Sta Z Z.heap "java/lang/String" "COMPACT_STRINGS" "Z" (.int z0)) (hz0 : ¬ z0 = 0) (a r : Addr) (h0 : Heap) (n0 : Nat) (F0 : Fld Z h0 a "com/example/greylag/greylag/Decision" "permission" "Lcom/example/greylag/greylag/Permission;" .null) :
    Ct l Z consts_1 [] (⟨"com/example/greylag/greylag/Decision", "permission", "()Lcom/example/greylag/greylag/Permission;"⟩ : MethodName) prog_6_method_12_code 1 (some (.object "com/example/greylag/greylag/Permission")) ({ frames := 0, cells := 0, slots := 0, locals := 0 } : Room) #[(.ref a)] h0 n0 [] (fun v _ => v = some .null) := by
  have w : ∀ {d : Jvm.Cond} (i : Nat), tables_1[i]? = some d → d.before a0 Z = true := fun i q => hw _ (List.mem_of_getElem? q)
  refine Ct.enter (plainFor_of_name pn_4) hEL ?_
  intro p e sS m below meth c T0 hby hml0 hret hlk hnm hs0 X0
  have hml : c.maxLocals = 1 := hml0
  have D : ∀ {pc : Nat} {r : Except DecodeError (Instr × Nat)}, decode prog_6_method_12_code pc = r → decode c.code pc = r := fun q => hb hby q
  rw [show entryFrame m #[(.ref a)] 1 = mkF m 0 #[.val (.ref a)] [] from by first | (simp [entryFrame, mkF, argsToLocals, Value.category]; done) | rfl]
  refine X0.aloadN (x := (.ref a)) (D d12_0) rfl rfl ?_
  refine X0.getf (w 52 rfl) Via.refl F0 (D d12_1) ?_
  intro T216 X217
  show Goes p.tables e below _ (T216.setTop (mkF m 4 #[.val (.ref a)] [.null]))
  exact X217.retA hret rfl rfl hlk (D d12_4) (by decide) (by decide) (rfl)
theorem d13_0 : decode prog_6_method_13_code 0 = .ok (.aload_n 0, 1) := by decide +kernel
theorem d13_1 : decode prog_6_method_13_code 1 = .ok (.getfield 21, 3) := by decide +kernel
theorem d13_4 : decode prog_6_method_13_code 4 = .ok (.ireturn, 1) := by decide +kernel
set_option maxRecDepth 65536 in
set_option maxHeartbeats 40000000 in
theorem ctByp (l : Launch) (Z : State) (a0 : Array Value) (hw : ∀ d ∈ tables_1, d.before a0 Z = true) (hEL : EW Z a0 consts_1) (z0 : Int32) (S0 : Sta Z Z.heap "java/lang/String" "COMPACT_STRINGS" "Z" (.int z0)) (hz0 : ¬ z0 = 0) (a r : Addr) (h0 : Heap) (n0 : Nat) (F0 : Fld Z h0 a "com/example/greylag/greylag/Decision" "bypass" "Z" (.int (1 : Int32))) :
    Ct l Z consts_1 [] (⟨"com/example/greylag/greylag/Decision", "bypass", "()Z"⟩ : MethodName) prog_6_method_13_code 1 (some .boolean) ({ frames := 0, cells := 0, slots := 0, locals := 0 } : Room) #[(.ref a)] h0 n0 [] (fun v _ => v = some (.int 1)) := by
  have w : ∀ {d : Jvm.Cond} (i : Nat), tables_1[i]? = some d → d.before a0 Z = true := fun i q => hw _ (List.mem_of_getElem? q)
  refine Ct.enter (plainFor_of_name pn_4) hEL ?_
  intro p e sS m below meth c T0 hby hml0 hret hlk hnm hs0 X0
  have hml : c.maxLocals = 1 := hml0
  have D : ∀ {pc : Nat} {r : Except DecodeError (Instr × Nat)}, decode prog_6_method_13_code pc = r → decode c.code pc = r := fun q => hb hby q
  rw [show entryFrame m #[(.ref a)] 1 = mkF m 0 #[.val (.ref a)] [] from by first | (simp [entryFrame, mkF, argsToLocals, Value.category]; done) | rfl]
  refine X0.aloadN (x := (.ref a)) (D d13_0) rfl rfl ?_
  refine X0.getf (w 54 rfl) Via.refl F0 (D d13_1) ?_
  intro T218 X219
  show Goes p.tables e below _ (T218.setTop (mkF m 4 #[.val (.ref a)] [(.int (1 : Int32))]))
  exact X219.reti hret (by simp) hlk (D d13_4) (by decide) (by decide) (rfl)
theorem d14_0 : decode prog_6_method_3_code 0 = .ok (.aload_n 0, 1) := by decide +kernel
theorem d14_1 : decode prog_6_method_3_code 1 = .ok (.getfield 21, 3) := by decide +kernel
theorem d14_4 : decode prog_6_method_3_code 4 = .ok (.ifCond .ne 23, 3) := by decide +kernel
theorem d14_7 : decode prog_6_method_3_code 7 = .ok (.aload_n 0, 1) := by decide +kernel
theorem d14_8 : decode prog_6_method_3_code 8 = .ok (.getfield 17, 3) := by decide +kernel
theorem d14_11 : decode prog_6_method_3_code 11 = .ok (.ifnull 20, 3) := by decide +kernel
theorem d14_14 : decode prog_6_method_3_code 14 = .ok (.aload_n 0, 1) := by decide +kernel
theorem d14_15 : decode prog_6_method_3_code 15 = .ok (.getfield 17, 3) := by decide +kernel
theorem d14_18 : decode prog_6_method_3_code 18 = .ok (.invokevirtual 28, 3) := by decide +kernel
theorem d14_21 : decode prog_6_method_3_code 21 = .ok (.getstatic 34, 3) := by decide +kernel
theorem d14_24 : decode prog_6_method_3_code 24 = .ok (.if_acmp .ne 7, 3) := by decide +kernel
theorem d14_27 : decode prog_6_method_3_code 27 = .ok (.iconst 1, 1) := by decide +kernel
theorem d14_28 : decode prog_6_method_3_code 28 = .ok (.goto 4, 3) := by decide +kernel
theorem d14_31 : decode prog_6_method_3_code 31 = .ok (.iconst 0, 1) := by decide +kernel
theorem d14_32 : decode prog_6_method_3_code 32 = .ok (.ireturn, 1) := by decide +kernel
set_option maxRecDepth 65536 in
set_option maxHeartbeats 40000000 in
theorem ctAll (l : Launch) (Z : State) (a0 : Array Value) (hw : ∀ d ∈ tables_1, d.before a0 Z = true) (hEL : EW Z a0 consts_1) (z0 : Int32) (S0 : Sta Z Z.heap "java/lang/String" "COMPACT_STRINGS" "Z" (.int z0)) (hz0 : ¬ z0 = 0) (a r : Addr) (h0 : Heap) (n0 : Nat) (F0 : Fld Z h0 a "com/example/greylag/greylag/Decision" "bypass" "Z" (.int (1 : Int32))) :
    Ct l Z consts_1 [] (⟨"com/example/greylag/greylag/Decision", "allowed", "()Z"⟩ : MethodName) prog_6_method_3_code 1 (some .boolean) ({ frames := 0, cells := 0, slots := 0, locals := 0 } : Room) #[(.ref a)] h0 n0 [] (fun v _ => v = some (.int 1)) := by
  have w : ∀ {d : Jvm.Cond} (i : Nat), tables_1[i]? = some d → d.before a0 Z = true := fun i q => hw _ (List.mem_of_getElem? q)
  refine Ct.enter (plainFor_of_name pn_4) hEL ?_
  intro p e sS m below meth c T0 hby hml0 hret hlk hnm hs0 X0
  have hml : c.maxLocals = 1 := hml0
  have D : ∀ {pc : Nat} {r : Except DecodeError (Instr × Nat)}, decode prog_6_method_3_code pc = r → decode c.code pc = r := fun q => hb hby q
  rw [show entryFrame m #[(.ref a)] 1 = mkF m 0 #[.val (.ref a)] [] from by first | (simp [entryFrame, mkF, argsToLocals, Value.category]; done) | rfl]
  refine X0.aloadN (x := (.ref a)) (D d14_0) rfl rfl ?_
  refine X0.getf (w 54 rfl) Via.refl F0 (D d14_1) ?_
  intro T220 X221
  show Goes p.tables e below _ (T220.setTop (mkF m 4 #[.val (.ref a)] [(.int (1 : Int32))]))
  refine X221.if_ne 27 (D d14_4) ⟨by decide, by decide⟩ (fun hc222 => ?_) (fun hc222 => absurd hc222 (by decide))
  refine X221.iconst (x := (1 : Int32)) (D d14_27) rfl ?_
  refine X221.goto 32 (D d14_28) ⟨by decide, by decide⟩ ?_
  exact X221.reti hret (by simp) hlk (D d14_32) (by decide) (by decide) (rfl)
theorem d20_0 : decode jdk_42_method_54_code 0 = .ok (.aload_n 0, 1) := by decide +kernel
theorem d20_1 : decode jdk_42_method_54_code 1 = .ok (.getfield 9, 3) := by decide +kernel
theorem d20_4 : decode jdk_42_method_54_code 4 = .ok (.arraylength, 1) := by decide +kernel
theorem d20_5 : decode jdk_42_method_54_code 5 = .ok (.aload_n 0, 1) := by decide +kernel
theorem d20_6 : decode jdk_42_method_54_code 6 = .ok (.invokevirtual 335, 3) := by decide +kernel
theorem d20_9 : decode jdk_42_method_54_code 9 = .ok (.ishr, 1) := by decide +kernel
theorem d20_10 : decode jdk_42_method_54_code 10 = .ok (.ireturn, 1) := by decide +kernel
set_option maxRecDepth 65536 in
set_option maxHeartbeats 40000000 in
theorem ctLen10 (l : Launch) (Z : State) (a0 : Array Value) (hw : ∀ d ∈ tables_1, d.before a0 Z = true) (hEL : EW Z a0 consts_1) (z0 : Int32) (S0 : Sta Z Z.heap "java/lang/String" "COMPACT_STRINGS" "Z" (.int z0)) (hz0 : ¬ z0 = 0) (s t : Addr) (cs : List Int32) (h0 : Heap) (n0 : Nat) (OS : OStr Z h0 s t cs) (hl_s : cs.length = 10) :
    Ct l Z consts_1 [] (⟨"java/lang/String", "length", "()I"⟩ : MethodName) jdk_42_method_54_code 1 (some .int) ({ frames := 1, cells := 0, slots := 0, locals := 13 } : Room) #[(.ref s)] h0 n0 [] (fun v _ => v = some (.int (10 : Int32))) := by
  have w : ∀ {d : Jvm.Cond} (i : Nat), tables_1[i]? = some d → d.before a0 Z = true := fun i q => hw _ (List.mem_of_getElem? q)
  refine Ct.enter (plainFor_of_name pn_1) hEL ?_
  intro p e sS m below meth c T0 hby hml0 hret hlk hnm hs0 X0
  have hml : c.maxLocals = 1 := hml0
  have D : ∀ {pc : Nat} {r : Except DecodeError (Instr × Nat)}, decode jdk_42_method_54_code pc = r → decode c.code pc = r := fun q => hb hby q
  rw [show entryFrame m #[(.ref s)] 1 = mkF m 0 #[.val (.ref s)] [] from by first | (simp [entryFrame, mkF, argsToLocals, Value.category]; done) | rfl]
  obtain ⟨F223, hp224, hl225, kb226, F227, F228, F229⟩ := id OS
  have F230 : Arv Z h0 t kb226 .byte (10 : Int32) ((cs.map StrChars.lo8).map Value.int) (.int 0) := by have q := F229; rw [hl_s] at q; exact q
  refine X0.aloadN (x := (.ref s)) (D d20_0) rfl rfl ?_
  refine X0.getf (w 20 rfl) Via.refl F227 (D d20_1) ?_
  intro T231 X232
  show Goes p.tables e below _ (T231.setTop (mkF m 4 #[.val (.ref s)] [(.ref t)]))
  refine X232.alen F230 (D d20_4) ?_
  refine X232.aloadN (x := (.ref s)) (D d20_5) rfl rfl ?_
  refine X232.callvF (y := (⟨"java/lang/String", "coder", "()B"⟩ : MethodName)) (z := (⟨"java/lang/String", "coder", "()B"⟩ : MethodName)) (a := s) (C := "java/lang/String") [] [(.int (10 : Int32))] (ctCdr l Z a0 hw hEL z0 S0 hz0 s _ _ F228).toF F223 (w 125 rfl) (w 126 rfl) (w 128 rfl) (w 127 rfl) (nfOf (w 128 rfl) rfl) (w 3 rfl) (w 129 rfl) (by decide) (fun _ q => nomatch q) (by decide) 1 (by decide) (by decide) (by decide) (lenOf pd_2 rfl) rfl (Nat.le_of_ble_eq_true rfl) (by rw [hml]; rfl) (D d20_6) ?_
  rintro T233 h234 _ _ X236 K237 hg238 ⟨rfl, rfl⟩
  have F239 := OS.keep K237 nin0 nin0
  have F240 := F223.keep K237
  have F241 := F227.keep K237 nin0
  have F242 := F228.keep K237 nin0
  have F243 := F230.keep K237 nin0
  show Goes p.tables e below _ (T233.setTop (mkF m 9 #[.val (.ref s)] [(.int (0 : Int32)), (.int (10 : Int32))]))
  refine X236.ishr (D d20_9) ?_
  show Goes p.tables e below _ (T233.setTop (mkF m 10 #[.val (.ref s)] [(.int (10 : Int32))]))
  exact X236.retI hret hlk (D d20_10) (by decide) (by decide) (rfl)
theorem d25_0 : decode jdk_42_method_147_code 0 = .ok (.aload_n 0, 1) := by decide +kernel
theorem d25_1 : decode jdk_42_method_147_code 1 = .ok (.invokevirtual 335, 3) := by decide +kernel
theorem d25_4 : decode jdk_42_method_147_code 4 = .ok (.iload_n 3, 1) := by decide +kernel
theorem d25_5 : decode jdk_42_method_147_code 5 = .ok (.if_icmp .ne 23, 3) := by decide +kernel
theorem d25_8 : decode jdk_42_method_147_code 8 = .ok (.aload_n 0, 1) := by decide +kernel
theorem d25_9 : decode jdk_42_method_147_code 9 = .ok (.getfield 9, 3) := by decide +kernel
theorem d25_12 : decode jdk_42_method_147_code 12 = .ok (.iconst 0, 1) := by decide +kernel
theorem d25_13 : decode jdk_42_method_147_code 13 = .ok (.aload_n 1, 1) := by decide +kernel
theorem d25_14 : decode jdk_42_method_147_code 14 = .ok (.iload_n 2, 1) := by decide +kernel
theorem d25_15 : decode jdk_42_method_147_code 15 = .ok (.iload_n 3, 1) := by decide +kernel
theorem d25_16 : decode jdk_42_method_147_code 16 = .ok (.ishl, 1) := by decide +kernel
theorem d25_17 : decode jdk_42_method_147_code 17 = .ok (.aload_n 0, 1) := by decide +kernel
theorem d25_18 : decode jdk_42_method_147_code 18 = .ok (.getfield 9, 3) := by decide +kernel
theorem d25_21 : decode jdk_42_method_147_code 21 = .ok (.arraylength, 1) := by decide +kernel
theorem d25_22 : decode jdk_42_method_147_code 22 = .ok (.invokestatic 212, 3) := by decide +kernel
theorem d25_25 : decode jdk_42_method_147_code 25 = .ok (.goto 18, 3) := by decide +kernel
theorem d25_28 : decode jdk_42_method_147_code 28 = .ok (.aload_n 0, 1) := by decide +kernel
theorem d25_29 : decode jdk_42_method_147_code 29 = .ok (.getfield 9, 3) := by decide +kernel
theorem d25_32 : decode jdk_42_method_147_code 32 = .ok (.iconst 0, 1) := by decide +kernel
theorem d25_33 : decode jdk_42_method_147_code 33 = .ok (.aload_n 1, 1) := by decide +kernel
theorem d25_34 : decode jdk_42_method_147_code 34 = .ok (.iload_n 2, 1) := by decide +kernel
theorem d25_35 : decode jdk_42_method_147_code 35 = .ok (.aload_n 0, 1) := by decide +kernel
theorem d25_36 : decode jdk_42_method_147_code 36 = .ok (.getfield 9, 3) := by decide +kernel
theorem d25_39 : decode jdk_42_method_147_code 39 = .ok (.arraylength, 1) := by decide +kernel
theorem d25_40 : decode jdk_42_method_147_code 40 = .ok (.invokestatic 106, 3) := by decide +kernel
theorem d25_43 : decode jdk_42_method_147_code 43 = .ok (.return_, 1) := by decide +kernel
set_option maxRecDepth 65536 in
set_option maxHeartbeats 40000000 in
theorem ctGB0_10_16 (l : Launch) (Z : State) (a0 : Array Value) (hw : ∀ d ∈ tables_1, d.before a0 Z = true) (hEL : EW Z a0 consts_1) (z0 : Int32) (S0 : Sta Z Z.heap "java/lang/String" "COMPACT_STRINGS" "Z" (.int z0)) (hz0 : ¬ z0 = 0) (s t d : Addr) (kd : ClassId) (cs : List Int32) (vd : List Value) (h0 : Heap) (n0 : Nat) (OS : OStr Z h0 s t cs) (hl_s : cs.length = 10) (ntd : t ≠ d) (AD : Arv Z h0 d kd .byte (16 : Int32) vd (.int 0)) (hvd : vd.length = 16) :
    Ct l Z consts_1 [] (⟨"java/lang/String", "getBytes", "([BIB)V"⟩ : MethodName) jdk_42_method_147_code 4 none ({ frames := 1, cells := 0, slots := 0, locals := 18 } : Room) #[(.ref s), (.ref d), (.int (0 : Int32)), (.int (0 : Int32))] h0 n0 [d] (fun v h => v = none ∧ Arv Z h d kd .byte (16 : Int32) (vd.take 0 ++ ((cs.map StrChars.lo8).map Value.int) ++ vd.drop (0 + 10)) (.int 0)) := by
  have w : ∀ {d : Jvm.Cond} (i : Nat), tables_1[i]? = some d → d.before a0 Z = true := fun i q => hw _ (List.mem_of_getElem? q)
  refine Ct.enter (plainFor_of_name pn_1) hEL ?_
  intro p e sS m below meth c T0 hby hml0 hret hlk hnm hs0 X0
  have hml : c.maxLocals = 4 := hml0
  have D : ∀ {pc : Nat} {r : Except DecodeError (Instr × Nat)}, decode jdk_42_method_147_code pc = r → decode c.code pc = r := fun q => hb hby q
  rw [show entryFrame m #[(.ref s), (.ref d), (.int (0 : Int32)), (.int (0 : Int32))] 4 = mkF m 0 #[.val (.ref s), .val (.ref d), .val (.int (0 : Int32)), .val (.int (0 : Int32))] [] from by first | (simp [entryFrame, mkF, argsToLocals, Value.category]; done) | rfl]
  obtain ⟨F244, hp245, hl246, kb247, F248, F249, F250⟩ := id OS
  have F251 : Arv Z h0 t kb247 .byte (10 : Int32) ((cs.map StrChars.lo8).map Value.int) (.int 0) := by have q := F250; rw [hl_s] at q; exact q
  refine X0.aloadN (x := (.ref s)) (D d25_0) rfl rfl ?_
  refine X0.callvF (y := (⟨"java/lang/String", "coder", "()B"⟩ : MethodName)) (z := (⟨"java/lang/String", "coder", "()B"⟩ : MethodName)) (a := s) (C := "java/lang/String") [] [] (ctCdr l Z a0 hw hEL z0 S0 hz0 s _ _ F249).toF F244 (w 125 rfl) (w 126 rfl) (w 128 rfl) (w 127 rfl) (nfOf (w 128 rfl) rfl) (w 3 rfl) (w 129 rfl) (by decide) (fun _ q => nomatch q) (by decide) 0 (by decide) (by decide) (by decide) (lenOf pd_2 rfl) rfl (Nat.le_of_ble_eq_true rfl) (by rw [hml]; rfl) (D d25_1) ?_
  rintro T252 h253 _ _ X255 K256 hg257 ⟨rfl, rfl⟩
  have F258 := OS.keep K256 nin0 nin0
  have F259 := AD.keep K256 nin0
  have F260 := F244.keep K256
  have F261 := F248.keep K256 nin0
  have F262 := F249.keep K256 nin0
  have F263 := F251.keep K256 nin0
  show Goes p.tables e below _ (T252.setTop (mkF m 4 #[.val (.ref s), .val (.ref d), .val (.int (0 : Int32)), .val (.int (0 : Int32))] [(.int (0 : Int32))]))
  refine X255.iloadN (x := (0 : Int32)) (D d25_4) rfl ?_
  refine X255.icmp_ne 28 (D d25_5) ⟨by decide, by decide⟩ (fun hc264 => absurd hc264 (by decide)) (fun hc264 => ?_)
  refine X255.aloadN (x := (.ref s)) (D d25_8) rfl rfl ?_
  refine X255.getf (w 20 rfl) Via.refl F261 (D d25_9) ?_
  intro T265 X266
  show Goes p.tables e below _ (T265.setTop (mkF m 12 #[.val (.ref s), .val (.ref d), .val (.int (0 : Int32)), .val (.int (0 : Int32))] [(.ref t)]))
  refine X266.iconst (x := (0 : Int32)) (D d25_12) rfl ?_
  refine X266.aloadN (x := (.ref d)) (D d25_13) rfl rfl ?_
  refine X266.iloadN (x := (0 : Int32)) (D d25_14) rfl ?_
  refine X266.iloadN (x := (0 : Int32)) (D d25_15) rfl ?_
  refine X266.ishl (D d25_16) ?_
  show Goes p.tables e below _ (T265.setTop (mkF m 17 #[.val (.ref s), .val (.ref d), .val (.int (0 : Int32)), .val (.int (0 : Int32))] [(.int (0 : Int32)), (.ref d), (.int (0 : Int32)), (.ref t)]))
  refine X266.aloadN (x := (.ref s)) (D d25_17) rfl rfl ?_
  refine X266.getf (w 20 rfl) Via.refl F261 (D d25_18) ?_
  intro T267 X268
  show Goes p.tables e below _ (T267.setTop (mkF m 21 #[.val (.ref s), .val (.ref d), .val (.int (0 : Int32)), .val (.int (0 : Int32))] [(.ref t), (.int (0 : Int32)), (.ref d), (.int (0 : Int32)), (.ref t)]))
  refine X268.alen F263 (D d25_21) ?_
  show Goes p.tables e below _ (T267.setTop (mkF m 22 #[.val (.ref s), .val (.ref d), .val (.int (0 : Int32)), .val (.int (0 : Int32))] [(.int (10 : Int32)), (.int (0 : Int32)), (.ref d), (.int (0 : Int32)), (.ref t)]))
  refine X268.acopy (us := ((cs.map StrChars.lo8).map Value.int)) (w 153 rfl) (w 156 rfl) (w 154 rfl) (w 155 rfl) F263 F259 (by decide) (by decide) (by decide) (by decide) (by decide) (slice0 (mlen hl_s)) (by rw [hvd]; decide) (by simp) (by rw [hml]; rfl) (D d25_22) (by decide) 0 (Nat.le_of_ble_eq_true rfl) (by decide) ?_
  intro T269 h270 X271 K272 B273
  have F274 := F258.keep K272 (ninS (Exa.neArv F260 F259 (w 2 rfl)) nin0) (ninS ntd nin0)
  have F275 := F260.keep K272
  have F276 := F261.keep K272 (ninS (Exa.neArv F260 F259 (w 2 rfl)) nin0)
  have F277 := F262.keep K272 (ninS (Exa.neArv F260 F259 (w 2 rfl)) nin0)
  have F278 := F263.keep K272 (ninS ntd nin0)
  show Goes p.tables e below _ (T269.setTop (mkF m 25 #[.val (.ref s), .val (.ref d), .val (.int (0 : Int32)), .val (.int (0 : Int32))] []))
  refine X271.goto 43 (D d25_25) ⟨by decide, by decide⟩ ?_
  exact X271.retn hret hlk (D d25_43) (by decide) (by decide) (⟨rfl, B273⟩)
theorem d23_0 : decode jdk_68_method_73_code 0 = .ok (.aload_n 0, 1) := by decide +kernel
theorem d23_1 : decode jdk_68_method_73_code 1 = .ok (.aload_n 2, 1) := by decide +kernel
theorem d23_2 : decode jdk_68_method_73_code 2 = .ok (.invokevirtual 397, 3) := by decide +kernel
theorem d23_5 : decode jdk_68_method_73_code 5 = .ok (.aload_n 2, 1) := by decide +kernel
theorem d23_6 : decode jdk_68_method_73_code 6 = .ok (.aload_n 0, 1) := by decide +kernel
theorem d23_7 : decode jdk_68_method_73_code 7 = .ok (.getfield 15, 3) := by decide +kernel
theorem d23_10 : decode jdk_68_method_73_code 10 = .ok (.iload_n 1, 1) := by decide +kernel
theorem d23_11 : decode jdk_68_method_73_code 11 = .ok (.aload_n 0, 1) := by decide +kernel
theorem d23_12 : decode jdk_68_method_73_code 12 = .ok (.getfield 22, 3) := by decide +kernel
theorem d23_15 : decode jdk_68_method_73_code 15 = .ok (.invokevirtual 399, 3) := by decide +kernel
theorem d23_18 : decode jdk_68_method_73_code 18 = .ok (.return_, 1) := by decide +kernel
theorem pd_5 : parseMethodDescriptor "(Ljava/lang/String;)V" = some ⟨[(.object "java/lang/String")], none⟩ := by decide +kernel
theorem pd_6 : parseMethodDescriptor "([BIB)V" = some ⟨[(.array .byte), .int, .byte], none⟩ := by decide +kernel
set_option maxRecDepth 65536 in
set_option maxHeartbeats 40000000 in
theorem ctPS0_10_16 (l : Launch) (Z : State) (a0 : Array Value) (hw : ∀ d ∈ tables_1, d.before a0 Z = true) (hEL : EW Z a0 consts_1) (z0 : Int32) (S0 : Sta Z Z.heap "java/lang/String" "COMPACT_STRINGS" "Z" (.int z0)) (hz0 : ¬ z0 = 0) (b d s t : Addr) (kd : ClassId) (cs : List Int32) (vd : List Value) (h0 : Heap) (n0 : Nat) (EB : Exa Z h0 b "java/lang/StringBuilder") (FV : Fld Z h0 b "java/lang/AbstractStringBuilder" "value" "[B" (.ref d)) (FC : Fld Z h0 b "java/lang/AbstractStringBuilder" "coder" "B" (.int (0 : Int32))) (AD : Arv Z h0 d kd .byte (16 : Int32) vd (.int 0)) (hvd : vd.length = 16) (OS : OStr Z h0 s t cs) (hl_s : cs.length = 10) (ntd : t ≠ d) :
    Ct l Z consts_1 [] (⟨"java/lang/AbstractStringBuilder", "putStringAt", "(ILjava/lang/String;)V"⟩ : MethodName) jdk_68_method_73_code 3 none ({ frames := 2, cells := 0, slots := 0, locals := 33 } : Room) #[(.ref b), (.int (0 : Int32)), (.ref s)] h0 n0 [d] (fun v h => v = none ∧ Arv Z h d kd .byte (16 : Int32) (vd.take 0 ++ ((cs.map StrChars.lo8).map Value.int) ++ vd.drop (0 + 10)) (.int 0)) := by
  have w : ∀ {d : Jvm.Cond} (i : Nat), tables_1[i]? = some d → d.before a0 Z = true := fun i q => hw _ (List.mem_of_getElem? q)
  refine Ct.enter (plainFor_of_name pn_2) hEL ?_
  intro p e sS m below meth c T0 hby hml0 hret hlk hnm hs0 X0
  have hml : c.maxLocals = 3 := hml0
  have D : ∀ {pc : Nat} {r : Except DecodeError (Instr × Nat)}, decode jdk_68_method_73_code pc = r → decode c.code pc = r := fun q => hb hby q
  rw [show entryFrame m #[(.ref b), (.int (0 : Int32)), (.ref s)] 3 = mkF m 0 #[.val (.ref b), .val (.int (0 : Int32)), .val (.ref s)] [] from by first | (simp [entryFrame, mkF, argsToLocals, Value.category]; done) | rfl]
  obtain ⟨qE, -, -, _, -, qC, -⟩ := id OS
  refine X0.aloadN (x := (.ref b)) (D d23_0) rfl rfl ?_
  refine X0.aloadN (x := (.ref s)) (D d23_1) rfl rfl ?_
  refine X0.callvF (y := (⟨"java/lang/AbstractStringBuilder", "inflateIfNeededFor", "(Ljava/lang/String;)V"⟩ : MethodName)) (z := (⟨"java/lang/AbstractStringBuilder", "inflateIfNeededFor", "(Ljava/lang/String;)V"⟩ : MethodName)) (a := b) (C := "java/lang/StringBuilder") [(.ref s)] [] (ctInf l Z a0 hw hEL z0 S0 hz0 b d s _ _ EB FV FC qE qC).toF EB (w 142 rfl) (decOf (w 143 rfl) (w 146 rfl)) (w 145 rfl) (w 143 rfl) (nfOf (w 145 rfl) rfl) (w 101 rfl) (w 146 rfl) (by decide) (fun _ q => nomatch q) (by decide) 0 (by decide) (by decide) (by decide) (lenOf pd_5 rfl) rfl (Nat.le_of_ble_eq_true rfl) (by rw [hml]; rfl) (D d23_2) ?_
  rintro T279 h280 _ _ X282 K283 hg284 ⟨rfl, rfl⟩
  have F285 := EB.keep K283
  have F286 := FV.keep K283 nin0
  have F287 := FC.keep K283 nin0
  have F288 := AD.keep K283 nin0
  have F289 := OS.keep K283 nin0 nin0
  show Goes p.tables e below _ (T279.setTop (mkF m 5 #[.val (.ref b), .val (.int (0 : Int32)), .val (.ref s)] []))
  refine X282.aloadN (x := (.ref s)) (D d23_5) rfl rfl ?_
  refine X282.aloadN (x := (.ref b)) (D d23_6) rfl rfl ?_
  refine X282.getf (w 105 rfl) Via.refl F286 (D d23_7) ?_
  intro T290 X291
  show Goes p.tables e below _ (T290.setTop (mkF m 10 #[.val (.ref b), .val (.int (0 : Int32)), .val (.ref s)] [(.ref d), (.ref s)]))
  refine X291.iloadN (x := (0 : Int32)) (D d23_10) rfl ?_
  refine X291.aloadN (x := (.ref b)) (D d23_11) rfl rfl ?_
  refine X291.getf (w 107 rfl) Via.refl F287 (D d23_12) ?_
  intro T292 X293
  show Goes p.tables e below _ (T292.setTop (mkF m 15 #[.val (.ref b), .val (.int (0 : Int32)), .val (.ref s)] [(.int (0 : Int32)), (.int (0 : Int32)), (.ref d), (.ref s)]))
  refine X293.callvF (y := (⟨"java/lang/String", "getBytes", "([BIB)V"⟩ : MethodName)) (z := (⟨"java/lang/String", "getBytes", "([BIB)V"⟩ : MethodName)) (a := s) (C := "java/lang/String") [(.ref d), (.int (0 : Int32)), (.int (0 : Int32))] [] (ctGB0_10_16 l Z a0 hw hEL z0 S0 hz0 s t d kd cs vd _ _ F289 hl_s ntd F288 hvd).toF F289.1 (w 148 rfl) (w 149 rfl) (w 151 rfl) (w 150 rfl) (nfOf (w 151 rfl) rfl) (w 3 rfl) (w 152 rfl) (by decide) (by simp) (by decide) 0 (by decide) (by decide) (by decide) (lenOf pd_6 rfl) rfl (Nat.le_of_ble_eq_true rfl) (by rw [hml]; rfl) (D d23_15) ?_
  rintro T294 h295 _ _ X297 K298 hg299 ⟨rfl, rfl, A1⟩
  have F300 := F285.keep K298
  have F301 := F286.keep K298 (ninS (Exa.neArv F285 F288 (w 92 rfl)) nin0)
  have F302 := F287.keep K298 (ninS (Exa.neArv F285 F288 (w 92 rfl)) nin0)
  have F303 := F289.keep K298 (ninS (Exa.neArv F289.1 F288 (w 2 rfl)) nin0) (ninS ntd nin0)
  show Goes p.tables e below _ (T294.setTop (mkF m 18 #[.val (.ref b), .val (.int (0 : Int32)), .val (.ref s)] []))
  exact X297.retn hret hlk (D d23_18) (by decide) (by decide) (⟨rfl, A1⟩)
theorem d22_0 : decode jdk_68_method_9_code 0 = .ok (.aload_n 0, 1) := by decide +kernel
theorem d22_1 : decode jdk_68_method_9_code 1 = .ok (.getfield 15, 3) := by decide +kernel
theorem d22_4 : decode jdk_68_method_9_code 4 = .ok (.arraylength, 1) := by decide +kernel
theorem d22_5 : decode jdk_68_method_9_code 5 = .ok (.aload_n 0, 1) := by decide +kernel
theorem d22_6 : decode jdk_68_method_9_code 6 = .ok (.getfield 22, 3) := by decide +kernel
theorem d22_9 : decode jdk_68_method_9_code 9 = .ok (.ishr, 1) := by decide +kernel
theorem d22_10 : decode jdk_68_method_9_code 10 = .ok (.istore_n 2, 1) := by decide +kernel
theorem d22_11 : decode jdk_68_method_9_code 11 = .ok (.iload_n 1, 1) := by decide +kernel
theorem d22_12 : decode jdk_68_method_9_code 12 = .ok (.iload_n 2, 1) := by decide +kernel
theorem d22_13 : decode jdk_68_method_9_code 13 = .ok (.isub, 1) := by decide +kernel
theorem d22_14 : decode jdk_68_method_9_code 14 = .ok (.ifCond .le 24, 3) := by decide +kernel
theorem d22_17 : decode jdk_68_method_9_code 17 = .ok (.aload_n 0, 1) := by decide +kernel
theorem d22_18 : decode jdk_68_method_9_code 18 = .ok (.aload_n 0, 1) := by decide +kernel
theorem d22_19 : decode jdk_68_method_9_code 19 = .ok (.getfield 15, 3) := by decide +kernel
theorem d22_22 : decode jdk_68_method_9_code 22 = .ok (.aload_n 0, 1) := by decide +kernel
theorem d22_23 : decode jdk_68_method_9_code 23 = .ok (.iload_n 1, 1) := by decide +kernel
theorem d22_24 : decode jdk_68_method_9_code 24 = .ok (.invokevirtual 104, 3) := by decide +kernel
theorem d22_27 : decode jdk_68_method_9_code 27 = .ok (.aload_n 0, 1) := by decide +kernel
theorem d22_28 : decode jdk_68_method_9_code 28 = .ok (.getfield 22, 3) := by decide +kernel
theorem d22_31 : decode jdk_68_method_9_code 31 = .ok (.ishl, 1) := by decide +kernel
theorem d22_32 : decode jdk_68_method_9_code 32 = .ok (.invokestatic 108, 3) := by decide +kernel
theorem d22_35 : decode jdk_68_method_9_code 35 = .ok (.putfield 15, 3) := by decide +kernel
theorem d22_38 : decode jdk_68_method_9_code 38 = .ok (.return_, 1) := by decide +kernel
set_option maxRecDepth 65536 in
set_option maxHeartbeats 40000000 in
theorem ctEC10_16 (l : Launch) (Z : State) (a0 : Array Value) (hw : ∀ d ∈ tables_1, d.before a0 Z = true) (hEL : EW Z a0 consts_1) (z0 : Int32) (S0 : Sta Z Z.heap "java/lang/String" "COMPACT_STRINGS" "Z" (.int z0)) (hz0 : ¬ z0 = 0) (b d : Addr) (kd : ClassId) (vd : List Value) (h0 : Heap) (n0 : Nat) (EB : Exa Z h0 b "java/lang/StringBuilder") (FV : Fld Z h0 b "java/lang/AbstractStringBuilder" "value" "[B" (.ref d)) (FC : Fld Z h0 b "java/lang/AbstractStringBuilder" "coder" "B" (.int (0 : Int32))) (AD : Arv Z h0 d kd .byte (16 : Int32) vd (.int 0)) (hvd : vd.length = 16) :
    Ct l Z consts_1 [] (⟨"java/lang/AbstractStringBuilder", "ensureCapacityInternal", "(I)V"⟩ : MethodName) jdk_68_method_9_code 3 none ({ frames := 0, cells := 0, slots := 0, locals := 0 } : Room) #[(.ref b), (.int (10 : Int32))] h0 n0 [] (fun v _ => v = none) := by
  have w : ∀ {d : Jvm.Cond} (i : Nat), tables_1[i]? = some d → d.before a0 Z = true := fun i q => hw _ (List.mem_of_getElem? q)
  refine Ct.enter (plainFor_of_name pn_2) hEL ?_
  intro p e sS m below meth c T0 hby hml0 hret hlk hnm hs0 X0
  have hml : c.maxLocals = 3 := hml0
  have D : ∀ {pc : Nat} {r : Except DecodeError (Instr × Nat)}, decode jdk_68_method_9_code pc = r → decode c.code pc = r := fun q => hb hby q
  rw [show entryFrame m #[(.ref b), (.int (10 : Int32))] 3 = mkF m 0 #[.val (.ref b), .val (.int (10 : Int32)), .unset] [] from by first | (simp [entryFrame, mkF, argsToLocals, Value.category]; done) | rfl]
  refine X0.aloadN (x := (.ref b)) (D d22_0) rfl rfl ?_
  refine X0.getf (w 105 rfl) Via.refl FV (D d22_1) ?_
  intro T304 X305
  show Goes p.tables e below _ (T304.setTop (mkF m 4 #[.val (.ref b), .val (.int (10 : Int32)), .unset] [(.ref d)]))
  refine X305.alen AD (D d22_4) ?_
  refine X305.aloadN (x := (.ref b)) (D d22_5) rfl rfl ?_
  refine X305.getf (w 107 rfl) Via.refl FC (D d22_6) ?_
  intro T306 X307
  show Goes p.tables e below _ (T306.setTop (mkF m 9 #[.val (.ref b), .val (.int (10 : Int32)), .unset] [(.int (0 : Int32)), (.int (16 : Int32))]))
  refine X307.ishr (D d22_9) ?_
  show Goes p.tables e below _ (T306.setTop (mkF m 10 #[.val (.ref b), .val (.int (10 : Int32)), .unset] [(.int (16 : Int32))]))
  refine X307.istoreN #[.val (.ref b), .val (.int (10 : Int32)), .val (.int (16 : Int32))] (D d22_10) rfl ?_
  refine X307.iloadN (x := (10 : Int32)) (D d22_11) rfl ?_
  refine X307.iloadN (x := (16 : Int32)) (D d22_12) rfl ?_
  refine X307.isub (D d22_13) ?_
  show Goes p.tables e below _ (T306.setTop (mkF m 14 #[.val (.ref b), .val (.int (10 : Int32)), .val (.int (16 : Int32))] [(.int (-6 : Int32))]))
  refine X307.if_le 38 (D d22_14) ⟨by decide, by decide⟩ (fun hc308 => ?_) (fun hc308 => absurd hc308 (by decide))
  exact X307.retn hret hlk (D d22_38) (by decide) (by decide) (rfl)
theorem d19_0 : decode jdk_68_method_22_code 0 = .ok (.aload_n 1, 1) := by decide +kernel
theorem d19_1 : decode jdk_68_method_22_code 1 = .ok (.ifnonnull 8, 3) := by decide +kernel
theorem d19_4 : decode jdk_68_method_22_code 4 = .ok (.aload_n 0, 1) := by decide +kernel
theorem d19_5 : decode jdk_68_method_22_code 5 = .ok (.invokevirtual 204, 3) := by decide +kernel
theorem d19_8 : decode jdk_68_method_22_code 8 = .ok (.areturn, 1) := by decide +kernel
theorem d19_9 : decode jdk_68_method_22_code 9 = .ok (.aload_n 1, 1) := by decide +kernel
theorem d19_10 : decode jdk_68_method_22_code 10 = .ok (.invokevirtual 32, 3) := by decide +kernel
theorem d19_13 : decode jdk_68_method_22_code 13 = .ok (.istore_n 2, 1) := by decide +kernel
theorem d19_14 : decode jdk_68_method_22_code 14 = .ok (.aload_n 0, 1) := by decide +kernel
theorem d19_15 : decode jdk_68_method_22_code 15 = .ok (.aload_n 0, 1) := by decide +kernel
theorem d19_16 : decode jdk_68_method_22_code 16 = .ok (.getfield 79, 3) := by decide +kernel
theorem d19_19 : decode jdk_68_method_22_code 19 = .ok (.iload_n 2, 1) := by decide +kernel
theorem d19_20 : decode jdk_68_method_22_code 20 = .ok (.iadd, 1) := by decide +kernel
theorem d19_21 : decode jdk_68_method_22_code 21 = .ok (.invokevirtual 100, 3) := by decide +kernel
theorem d19_24 : decode jdk_68_method_22_code 24 = .ok (.aload_n 0, 1) := by decide +kernel
theorem d19_25 : decode jdk_68_method_22_code 25 = .ok (.aload_n 0, 1) := by decide +kernel
theorem d19_26 : decode jdk_68_method_22_code 26 = .ok (.getfield 79, 3) := by decide +kernel
theorem d19_29 : decode jdk_68_method_22_code 29 = .ok (.aload_n 1, 1) := by decide +kernel
theorem d19_30 : decode jdk_68_method_22_code 30 = .ok (.invokevirtual 208, 3) := by decide +kernel
theorem d19_33 : decode jdk_68_method_22_code 33 = .ok (.aload_n 0, 1) := by decide +kernel
theorem d19_34 : decode jdk_68_method_22_code 34 = .ok (.dup, 1) := by decide +kernel
theorem d19_35 : decode jdk_68_method_22_code 35 = .ok (.getfield 79, 3) := by decide +kernel
theorem d19_38 : decode jdk_68_method_22_code 38 = .ok (.iload_n 2, 1) := by decide +kernel
theorem d19_39 : decode jdk_68_method_22_code 39 = .ok (.iadd, 1) := by decide +kernel
theorem d19_40 : decode jdk_68_method_22_code 40 = .ok (.putfield 79, 3) := by decide +kernel
theorem d19_43 : decode jdk_68_method_22_code 43 = .ok (.aload_n 0, 1) := by decide +kernel
theorem d19_44 : decode jdk_68_method_22_code 44 = .ok (.areturn, 1) := by decide +kernel
theorem pd_7 : parseMethodDescriptor "()I" = some ⟨[], (some .int)⟩ := by decide +kernel
theorem pd_8 : parseMethodDescriptor "(ILjava/lang/String;)V" = some ⟨[.int, (.object "java/lang/String")], none⟩ := by decide +kernel
set_option maxRecDepth 65536 in
set_option maxHeartbeats 40000000 in
theorem ctAA0_10_16 (l : Launch) (Z : State) (a0 : Array Value) (hw : ∀ d ∈ tables_1, d.before a0 Z = true) (hEL : EW Z a0 consts_1) (z0 : Int32) (S0 : Sta Z Z.heap "java/lang/String" "COMPACT_STRINGS" "Z" (.int z0)) (hz0 : ¬ z0 = 0) (b d s t : Addr) (kd : ClassId) (cs : List Int32) (vd : List Value) (h0 : Heap) (n0 : Nat) (EB : Exa Z h0 b "java/lang/StringBuilder") (FV : Fld Z h0 b "java/lang/AbstractStringBuilder" "value" "[B" (.ref d)) (FC : Fld Z h0 b "java/lang/AbstractStringBuilder" "coder" "B" (.int (0 : Int32))) (FN : Fld Z h0 b "java/lang/AbstractStringBuilder" "count" "I" (.int (0 : Int32))) (AD : Arv Z h0 d kd .byte (16 : Int32) vd (.int 0)) (hvd : vd.length = 16) (OS : OStr Z h0 s t cs) (hl_s : cs.length = 10) (ntd : t ≠ d) :
    Ct l Z consts_1 [] (⟨"java/lang/AbstractStringBuilder", "append", "(Ljava/lang/String;)Ljava/lang/AbstractStringBuilder;"⟩ : MethodName) jdk_68_method_22_code 3 (some (.object "java/lang/AbstractStringBuilder")) ({ frames := 3, cells := 0, slots := 0, locals := 47 } : Room) #[(.ref b), (.ref s)] h0 n0 [b, d] (fun v h => v = some (.ref b) ∧ Exa Z h b "java/lang/StringBuilder" ∧ Fld Z h b "java/lang/AbstractStringBuilder" "value" "[B" (.ref d) ∧ Fld Z h b "java/lang/AbstractStringBuilder" "coder" "B" (.int (0 : Int32)) ∧ Fld Z h b "java/lang/AbstractStringBuilder" "count" "I" (.int (10 : Int32)) ∧ Arv Z h d kd .byte (16 : Int32) (vd.take 0 ++ ((cs.map StrChars.lo8).map Value.int) ++ vd.drop (0 + 10)) (.int 0)) := by
  have w : ∀ {d : Jvm.Cond} (i : Nat), tables_1[i]? = some d → d.before a0 Z = true := fun i q => hw _ (List.mem_of_getElem? q)
  refine Ct.enter (plainFor_of_name pn_2) hEL ?_
  intro p e sS m below meth c T0 hby hml0 hret hlk hnm hs0 X0
  have hml : c.maxLocals = 3 := hml0
  have D : ∀ {pc : Nat} {r : Except DecodeError (Instr × Nat)}, decode jdk_68_method_22_code pc = r → decode c.code pc = r := fun q => hb hby q
  rw [show entryFrame m #[(.ref b), (.ref s)] 3 = mkF m 0 #[.val (.ref b), .val (.ref s), .unset] [] from by first | (simp [entryFrame, mkF, argsToLocals, Value.category]; done) | rfl]
  refine X0.aloadN (x := (.ref s)) (D d19_0) rfl rfl ?_
  refine X0.ifnonnullR 9 (D d19_1) ⟨by decide, by decide⟩ ?_
  refine X0.aloadN (x := (.ref s)) (D d19_9) rfl rfl ?_
  refine X0.callvF (y := (⟨"java/lang/String", "length", "()I"⟩ : MethodName)) (z := (⟨"java/lang/String", "length", "()I"⟩ : MethodName)) (a := s) (C := "java/lang/String") [] [] (ctLen10 l Z a0 hw hEL z0 S0 hz0 s t cs _ _ OS hl_s).toF OS.1 (w 120 rfl) (w 121 rfl) (w 123 rfl) (w 122 rfl) (nfOf (w 123 rfl) rfl) (w 3 rfl) (w 124 rfl) (by decide) (fun _ q => nomatch q) (by decide) 0 (by decide) (by decide) (by decide) (lenOf pd_7 rfl) rfl (Nat.le_of_ble_eq_true rfl) (by rw [hml]; rfl) (D d19_10) ?_
  rintro T309 h310 _ _ X312 K313 hg314 ⟨rfl, rfl⟩
  have F315 := EB.keep K313
  have F316 := FV.keep K313 nin0
  have F317 := FC.keep K313 nin0
  have F318 := FN.keep K313 nin0
  have F319 := AD.keep K313 nin0
  have F320 := OS.keep K313 nin0 nin0
  show Goes p.tables e below _ (T309.setTop (mkF m 13 #[.val (.ref b), .val (.ref s), .unset] [(.int (10 : Int32))]))
  refine X312.istoreN #[.val (.ref b), .val (.ref s), .val (.int (10 : Int32))] (D d19_13) rfl ?_
  refine X312.aloadN (x := (.ref b)) (D d19_14) rfl rfl ?_
  refine X312.aloadN (x := (.ref b)) (D d19_15) rfl rfl ?_
  refine X312.getf (w 130 rfl) Via.refl F318 (D d19_16) ?_
  intro T321 X322
  show Goes p.tables e below _ (T321.setTop (mkF m 19 #[.val (.ref b), .val (.ref s), .val (.int (10 : Int32))] [(.int (0 : Int32)), (.ref b)]))
  refine X322.iloadN (x := (10 : Int32)) (D d19_19) rfl ?_
  refine X322.iadd (D d19_20) ?_
  show Goes p.tables e below _ (T321.setTop (mkF m 21 #[.val (.ref b), .val (.ref s), .val (.int (10 : Int32))] [(.int (10 : Int32)), (.ref b)]))
  refine X322.callvF (y := (⟨"java/lang/AbstractStringBuilder", "ensureCapacityInternal", "(I)V"⟩ : MethodName)) (z := (⟨"java/lang/AbstractStringBuilder", "ensureCapacityInternal", "(I)V"⟩ : MethodName)) (a := b) (C := "java/lang/StringBuilder") [(.int (10 : Int32))] [] (ctEC10_16 l Z a0 hw hEL z0 S0 hz0 b d kd vd _ _ F315 F316 F317 F319 hvd).toF F315 (w 132 rfl) (decOf (w 133 rfl) (w 136 rfl)) (w 135 rfl) (w 133 rfl) (nfOf (w 135 rfl) rfl) (w 101 rfl) (w 136 rfl) (by decide) (fun _ q => nomatch q) (by decide) 0 (by decide) (by decide) (by decide) (lenOf pd_1 rfl) rfl (Nat.le_of_ble_eq_true rfl) (by rw [hml]; rfl) (D d19_21) ?_
  rintro T323 h324 _ _ X326 K327 hg328 ⟨rfl, rfl⟩
  have F329 := F315.keep K327
  have F330 := F316.keep K327 nin0
  have F331 := F317.keep K327 nin0
  have F332 := F318.keep K327 nin0
  have F333 := F319.keep K327 nin0
  have F334 := F320.keep K327 nin0 nin0
  show Goes p.tables e below _ (T323.setTop (mkF m 24 #[.val (.ref b), .val (.ref s), .val (.int (10 : Int32))] []))
  refine X326.aloadN (x := (.ref b)) (D d19_24) rfl rfl ?_
  refine X326.aloadN (x := (.ref b)) (D d19_25) rfl rfl ?_
  refine X326.getf (w 130 rfl) Via.refl F332 (D d19_26) ?_
  intro T335 X336
  show Goes p.tables e below _ (T335.setTop (mkF m 29 #[.val (.ref b), .val (.ref s), .val (.int (10 : Int32))] [(.int (0 : Int32)), (.ref b)]))
  refine X336.aloadN (x := (.ref s)) (D d19_29) rfl rfl ?_
  refine X336.callvF (y := (⟨"java/lang/AbstractStringBuilder", "putStringAt", "(ILjava/lang/String;)V"⟩ : MethodName)) (z := (⟨"java/lang/AbstractStringBuilder", "putStringAt", "(ILjava/lang/String;)V"⟩ : MethodName)) (a := b) (C := "java/lang/StringBuilder") [(.int (0 : Int32)), (.ref s)] [] (ctPS0_10_16 l Z a0 hw hEL z0 S0 hz0 b d s t kd cs vd _ _ F329 F330 F331 F333 hvd F334 hl_s ntd).toF F329 (w 137 rfl) (decOf (w 138 rfl) (w 141 rfl)) (w 140 rfl) (w 138 rfl) (nfOf (w 140 rfl) rfl) (w 101 rfl) (w 141 rfl) (by decide) (by simp) (by decide) 0 (by decide) (by decide) (by decide) (lenOf pd_8 rfl) rfl (Nat.le_of_ble_eq_true rfl) (by rw [hml]; rfl) (D d19_30) ?_
  rintro T337 h338 _ _ X340 K341 hg342 ⟨rfl, rfl, A1⟩
  have F343 := F329.keep K341
  have F344 := F330.keep K341 (ninS (Exa.neArv F329 F333 (w 92 rfl)) nin0)
  have F345 := F331.keep K341 (ninS (Exa.neArv F329 F333 (w 92 rfl)) nin0)
  have F346 := F332.keep K341 (ninS (Exa.neArv F329 F333 (w 92 rfl)) nin0)
  have F347 := F334.keep K341 (ninS (Exa.neArv F334.1 F333 (w 2 rfl)) nin0) (ninS ntd nin0)
  show Goes p.tables e below _ (T337.setTop (mkF m 33 #[.val (.ref b), .val (.ref s), .val (.int (10 : Int32))] []))
  refine X340.aloadN (x := (.ref b)) (D d19_33) rfl rfl ?_
  refine X340.dup (D d19_34) rfl ?_
  refine X340.getf (w 130 rfl) Via.refl F346 (D d19_35) ?_
  intro T348 X349
  show Goes p.tables e below _ (T348.setTop (mkF m 38 #[.val (.ref b), .val (.ref s), .val (.int (10 : Int32))] [(.int (0 : Int32)), (.ref b)]))
  refine X349.iloadN (x := (10 : Int32)) (D d19_38) rfl ?_
  refine X349.iadd (D d19_39) ?_
  show Goes p.tables e below _ (T348.setTop (mkF m 40 #[.val (.ref b), .val (.ref s), .val (.int (10 : Int32))] [(.int (10 : Int32)), (.ref b)]))
  refine X349.putf (w 130 rfl) Via.refl F346 F343 (Or.inl (w 131 rfl)) (w 92 rfl) (ty := .int) (by decide) rfl rfl (D d19_40) (by simp) ?_
  intro T350 h351 X352 W353
  have F354 := F346.same W353
  have F355 := F343.wr W353
  have F356 := F344.other W353 (Or.inr (slot_ne (t := (.array .byte)) (t' := .int) (Or.inl (w 106 rfl)) (Or.inl (w 131 rfl)) (by decide) (by decide) (by decide)))
  have F357 := F345.other W353 (Or.inr (slot_ne (t := .byte) (t' := .int) (Or.inl (w 108 rfl)) (Or.inl (w 131 rfl)) (by decide) (by decide) (by decide)))
  have F358 := F347.wr W353 (Exa.ne F347.1 F343 (by decide)) (OStr.neT F347 F343 (w 92 rfl))
  have F359 := A1.other W353 (Exa.neArv F343 A1 (w 92 rfl)).symm
  show Goes p.tables e below _ (T350.setTop (mkF m 43 #[.val (.ref b), .val (.ref s), .val (.int (10 : Int32))] []))
  refine X352.aloadN (x := (.ref b)) (D d19_43) rfl rfl ?_
  exact X352.retA hret rfl rfl hlk (D d19_44) (by decide) (by decide) (⟨rfl, F355, F356, F357, F354, F359⟩)
theorem d18_0 : decode jdk_67_method_7_code 0 = .ok (.aload_n 0, 1) := by decide +kernel
theorem d18_1 : decode jdk_67_method_7_code 1 = .ok (.aload_n 1, 1) := by decide +kernel
theorem d18_2 : decode jdk_67_method_7_code 2 = .ok (.invokespecial 29, 3) := by decide +kernel
theorem d18_5 : decode jdk_67_method_7_code 5 = .ok (.pop, 1) := by decide +kernel
theorem d18_6 : decode jdk_67_method_7_code 6 = .ok (.aload_n 0, 1) := by decide +kernel
theorem d18_7 : decode jdk_67_method_7_code 7 = .ok (.areturn, 1) := by decide +kernel
theorem pd_9 : parseMethodDescriptor "(Ljava/lang/String;)Ljava/lang/AbstractStringBuilder;" = some ⟨[(.object "java/lang/String")], (some (.object "java/lang/AbstractStringBuilder"))⟩ := by decide +kernel
set_option maxRecDepth 65536 in
set_option maxHeartbeats 40000000 in
theorem ctSBa0_10_16 (l : Launch) (Z : State) (a0 : Array Value) (hw : ∀ d ∈ tables_1, d.before a0 Z = true) (hEL : EW Z a0 consts_1) (z0 : Int32) (S0 : Sta Z Z.heap "java/lang/String" "COMPACT_STRINGS" "Z" (.int z0)) (hz0 : ¬ z0 = 0) (b d s t : Addr) (kd : ClassId) (cs : List Int32) (vd : List Value) (h0 : Heap) (n0 : Nat) (EB : Exa Z h0 b "java/lang/StringBuilder") (FV : Fld Z h0 b "java/lang/AbstractStringBuilder" "value" "[B" (.ref d)) (FC : Fld Z h0 b "java/lang/AbstractStringBuilder" "coder" "B" (.int (0 : Int32))) (FN : Fld Z h0 b "java/lang/AbstractStringBuilder" "count" "I" (.int (0 : Int32))) (AD : Arv Z h0 d kd .byte (16 : Int32) vd (.int 0)) (hvd : vd.length = 16) (OS : OStr Z h0 s t cs) (hl_s : cs.length = 10) (ntd : t ≠ d) :
    Ct l Z consts_1 [] (⟨"java/lang/StringBuilder", "append", "(Ljava/lang/String;)Ljava/lang/StringBuilder;"⟩ : MethodName) jdk_67_method_7_code 2 (some (.object "java/lang/StringBuilder")) ({ frames := 4, cells := 0, slots := 0, locals := 61 } : Room) #[(.ref b), (.ref s)] h0 n0 [b, d] (fun v h => v = some (.ref b) ∧ Exa Z h b "java/lang/StringBuilder" ∧ Fld Z h b "java/lang/AbstractStringBuilder" "value" "[B" (.ref d) ∧ Fld Z h b "java/lang/AbstractStringBuilder" "coder" "B" (.int (0 : Int32)) ∧ Fld Z h b "java/lang/AbstractStringBuilder" "count" "I" (.int (10 : Int32)) ∧ Arv Z h d kd .byte (16 : Int32) (vd.take 0 ++ ((cs.map StrChars.lo8).map Value.int) ++ vd.drop (0 + 10)) (.int 0)) := by
  have w : ∀ {d : Jvm.Cond} (i : Nat), tables_1[i]? = some d → d.before a0 Z = true := fun i q => hw _ (List.mem_of_getElem? q)
  refine Ct.enter (plainFor_of_name pn_3) hEL ?_
  intro p e sS m below meth c T0 hby hml0 hret hlk hnm hs0 X0
  have hml : c.maxLocals = 2 := hml0
  have D : ∀ {pc : Nat} {r : Except DecodeError (Instr × Nat)}, decode jdk_67_method_7_code pc = r → decode c.code pc = r := fun q => hb hby q
  rw [show entryFrame m #[(.ref b), (.ref s)] 2 = mkF m 0 #[.val (.ref b), .val (.ref s)] [] from by first | (simp [entryFrame, mkF, argsToLocals, Value.category]; done) | rfl]
  refine X0.aloadN (x := (.ref b)) (D d18_0) rfl rfl ?_
  refine X0.aloadN (x := (.ref s)) (D d18_1) rfl rfl ?_
  refine X0.callu (a := b) [(.ref s)] [] (ctAA0_10_16 l Z a0 hw hEL z0 S0 hz0 b d s t kd cs vd _ _ EB FV FC FN AD hvd OS hl_s ntd).toF EB (w 115 rfl) (smOf (w 116 rfl) (w 172 rfl) rfl (by decide)) (w 116 rfl) (w 117 rfl) (by decide) (w 101 rfl) (w 119 rfl) (by simp) (by decide) 0 (by decide) (by decide) (by decide) (lenOf pd_9 rfl) rfl (Nat.le_of_ble_eq_true rfl) (by rw [hml]; rfl) (D d18_2) ?_
  rintro T360 h361 _ _ X363 K364 hg365 ⟨rfl, rfl, E1, V1, C1, N1, A1⟩
  have F366 := EB.keep K364
  have F367 := OS.keep K364 (ninS (Exa.ne OS.1 EB (by decide)) (ninS (Exa.neArv OS.1 AD (w 2 rfl)) nin0)) (ninS (OStr.neT OS EB (w 92 rfl)) (ninS ntd nin0))
  show Goes p.tables e below _ (T360.setTop (mkF m 5 #[.val (.ref b), .val (.ref s)] [(.ref b)]))
  refine X363.pop (D d18_5) rfl ?_
  refine X363.aloadN (x := (.ref b)) (D d18_6) rfl rfl ?_
  exact X363.retA hret rfl rfl hlk (D d18_7) (by decide) (by decide) (⟨rfl, E1, V1, C1, N1, A1⟩)
set_option maxRecDepth 65536 in
set_option maxHeartbeats 40000000 in
theorem ctLen0 (l : Launch) (Z : State) (a0 : Array Value) (hw : ∀ d ∈ tables_1, d.before a0 Z = true) (hEL : EW Z a0 consts_1) (z0 : Int32) (S0 : Sta Z Z.heap "java/lang/String" "COMPACT_STRINGS" "Z" (.int z0)) (hz0 : ¬ z0 = 0) (s t : Addr) (cs : List Int32) (h0 : Heap) (n0 : Nat) (OS : OStr Z h0 s t cs) (hl_s : cs.length = 0) :
    Ct l Z consts_1 [] (⟨"java/lang/String", "length", "()I"⟩ : MethodName) jdk_42_method_54_code 1 (some .int) ({ frames := 1, cells := 0, slots := 0, locals := 13 } : Room) #[(.ref s)] h0 n0 [] (fun v _ => v = some (.int (0 : Int32))) := by
  have w : ∀ {d : Jvm.Cond} (i : Nat), tables_1[i]? = some d → d.before a0 Z = true := fun i q => hw _ (List.mem_of_getElem? q)
  refine Ct.enter (plainFor_of_name pn_1) hEL ?_
  intro p e sS m below meth c T0 hby hml0 hret hlk hnm hs0 X0
  have hml : c.maxLocals = 1 := hml0
  have D : ∀ {pc : Nat} {r : Except DecodeError (Instr × Nat)}, decode jdk_42_method_54_code pc = r → decode c.code pc = r := fun q => hb hby q
  rw [show entryFrame m #[(.ref s)] 1 = mkF m 0 #[.val (.ref s)] [] from by first | (simp [entryFrame, mkF, argsToLocals, Value.category]; done) | rfl]
  obtain ⟨F368, hp369, hl370, kb371, F372, F373, F374⟩ := id OS
  have F375 : Arv Z h0 t kb371 .byte (0 : Int32) ((cs.map StrChars.lo8).map Value.int) (.int 0) := by have q := F374; rw [hl_s] at q; exact q
  refine X0.aloadN (x := (.ref s)) (D d20_0) rfl rfl ?_
  refine X0.getf (w 20 rfl) Via.refl F372 (D d20_1) ?_
  intro T376 X377
  show Goes p.tables e below _ (T376.setTop (mkF m 4 #[.val (.ref s)] [(.ref t)]))
  refine X377.alen F375 (D d20_4) ?_
  refine X377.aloadN (x := (.ref s)) (D d20_5) rfl rfl ?_
  refine X377.callvF (y := (⟨"java/lang/String", "coder", "()B"⟩ : MethodName)) (z := (⟨"java/lang/String", "coder", "()B"⟩ : MethodName)) (a := s) (C := "java/lang/String") [] [(.int (0 : Int32))] (ctCdr l Z a0 hw hEL z0 S0 hz0 s _ _ F373).toF F368 (w 125 rfl) (w 126 rfl) (w 128 rfl) (w 127 rfl) (nfOf (w 128 rfl) rfl) (w 3 rfl) (w 129 rfl) (by decide) (fun _ q => nomatch q) (by decide) 1 (by decide) (by decide) (by decide) (lenOf pd_2 rfl) rfl (Nat.le_of_ble_eq_true rfl) (by rw [hml]; rfl) (D d20_6) ?_
  rintro T378 h379 _ _ X381 K382 hg383 ⟨rfl, rfl⟩
  have F384 := OS.keep K382 nin0 nin0
  have F385 := F368.keep K382
  have F386 := F372.keep K382 nin0
  have F387 := F373.keep K382 nin0
  have F388 := F375.keep K382 nin0
  show Goes p.tables e below _ (T378.setTop (mkF m 9 #[.val (.ref s)] [(.int (0 : Int32)), (.int (0 : Int32))]))
  refine X381.ishr (D d20_9) ?_
  show Goes p.tables e below _ (T378.setTop (mkF m 10 #[.val (.ref s)] [(.int (0 : Int32))]))
  exact X381.retI hret hlk (D d20_10) (by decide) (by decide) (rfl)
set_option maxRecDepth 65536 in
set_option maxHeartbeats 40000000 in
theorem ctGB10_0_16 (l : Launch) (Z : State) (a0 : Array Value) (hw : ∀ d ∈ tables_1, d.before a0 Z = true) (hEL : EW Z a0 consts_1) (z0 : Int32) (S0 : Sta Z Z.heap "java/lang/String" "COMPACT_STRINGS" "Z" (.int z0)) (hz0 : ¬ z0 = 0) (s t d : Addr) (kd : ClassId) (cs : List Int32) (vd : List Value) (h0 : Heap) (n0 : Nat) (OS : OStr Z h0 s t cs) (hl_s : cs.length = 0) (ntd : t ≠ d) (AD : Arv Z h0 d kd .byte (16 : Int32) vd (.int 0)) (hvd : vd.length = 16) :
    Ct l Z consts_1 [] (⟨"java/lang/String", "getBytes", "([BIB)V"⟩ : MethodName) jdk_42_method_147_code 4 none ({ frames := 1, cells := 0, slots := 0, locals := 18 } : Room) #[(.ref s), (.ref d), (.int (10 : Int32)), (.int (0 : Int32))] h0 n0 [d] (fun v h => v = none ∧ Arv Z h d kd .byte (16 : Int32) (vd.take 10 ++ ((cs.map StrChars.lo8).map Value.int) ++ vd.drop (10 + 0)) (.int 0)) := by
  have w : ∀ {d : Jvm.Cond} (i : Nat), tables_1[i]? = some d → d.before a0 Z = true := fun i q => hw _ (List.mem_of_getElem? q)
  refine Ct.enter (plainFor_of_name pn_1) hEL ?_
  intro p e sS m below meth c T0 hby hml0 hret hlk hnm hs0 X0
  have hml : c.maxLocals = 4 := hml0
  have D : ∀ {pc : Nat} {r : Except DecodeError (Instr × Nat)}, decode jdk_42_method_147_code pc = r → decode c.code pc = r := fun q => hb hby q
  rw [show entryFrame m #[(.ref s), (.ref d), (.int (10 : Int32)), (.int (0 : Int32))] 4 = mkF m 0 #[.val (.ref s), .val (.ref d), .val (.int (10 : Int32)), .val (.int (0 : Int32))] [] from by first | (simp [entryFrame, mkF, argsToLocals, Value.category]; done) | rfl]
  obtain ⟨F389, hp390, hl391, kb392, F393, F394, F395⟩ := id OS
  have F396 : Arv Z h0 t kb392 .byte (0 : Int32) ((cs.map StrChars.lo8).map Value.int) (.int 0) := by have q := F395; rw [hl_s] at q; exact q
  refine X0.aloadN (x := (.ref s)) (D d25_0) rfl rfl ?_
  refine X0.callvF (y := (⟨"java/lang/String", "coder", "()B"⟩ : MethodName)) (z := (⟨"java/lang/String", "coder", "()B"⟩ : MethodName)) (a := s) (C := "java/lang/String") [] [] (ctCdr l Z a0 hw hEL z0 S0 hz0 s _ _ F394).toF F389 (w 125 rfl) (w 126 rfl) (w 128 rfl) (w 127 rfl) (nfOf (w 128 rfl) rfl) (w 3 rfl) (w 129 rfl) (by decide) (fun _ q => nomatch q) (by decide) 0 (by decide) (by decide) (by decide) (lenOf pd_2 rfl) rfl (Nat.le_of_ble_eq_true rfl) (by rw [hml]; rfl) (D d25_1) ?_
  rintro T397 h398 _ _ X400 K401 hg402 ⟨rfl, rfl⟩
  have F403 := OS.keep K401 nin0 nin0
  have F404 := AD.keep K401 nin0
  have F405 := F389.keep K401
  have F406 := F393.keep K401 nin0
  have F407 := F394.keep K401 nin0
  have F408 := F396.keep K401 nin0
  show Goes p.tables e below _ (T397.setTop (mkF m 4 #[.val (.ref s), .val (.ref d), .val (.int (10 : Int32)), .val (.int (0 : Int32))] [(.int (0 : Int32))]))
  refine X400.iloadN (x := (0 : Int32)) (D d25_4) rfl ?_
  refine X400.icmp_ne 28 (D d25_5) ⟨by decide, by decide⟩ (fun hc409 => absurd hc409 (by decide)) (fun hc409 => ?_)
  refine X400.aloadN (x := (.ref s)) (D d25_8) rfl rfl ?_
  refine X400.getf (w 20 rfl) Via.refl F406 (D d25_9) ?_
  intro T410 X411
  show Goes p.tables e below _ (T410.setTop (mkF m 12 #[.val (.ref s), .val (.ref d), .val (.int (10 : Int32)), .val (.int (0 : Int32))] [(.ref t)]))
  refine X411.iconst (x := (0 : Int32)) (D d25_12) rfl ?_
  refine X411.aloadN (x := (.ref d)) (D d25_13) rfl rfl ?_
  refine X411.iloadN (x := (10 : Int32)) (D d25_14) rfl ?_
  refine X411.iloadN (x := (0 : Int32)) (D d25_15) rfl ?_
  refine X411.ishl (D d25_16) ?_
  show Goes p.tables e below _ (T410.setTop (mkF m 17 #[.val (.ref s), .val (.ref d), .val (.int (10 : Int32)), .val (.int (0 : Int32))] [(.int (10 : Int32)), (.ref d), (.int (0 : Int32)), (.ref t)]))
  refine X411.aloadN (x := (.ref s)) (D d25_17) rfl rfl ?_
  refine X411.getf (w 20 rfl) Via.refl F406 (D d25_18) ?_
  intro T412 X413
  show Goes p.tables e below _ (T412.setTop (mkF m 21 #[.val (.ref s), .val (.ref d), .val (.int (10 : Int32)), .val (.int (0 : Int32))] [(.ref t), (.int (10 : Int32)), (.ref d), (.int (0 : Int32)), (.ref t)]))
  refine X413.alen F408 (D d25_21) ?_
  show Goes p.tables e below _ (T412.setTop (mkF m 22 #[.val (.ref s), .val (.ref d), .val (.int (10 : Int32)), .val (.int (0 : Int32))] [(.int (0 : Int32)), (.int (10 : Int32)), (.ref d), (.int (0 : Int32)), (.ref t)]))
  refine X413.acopy (us := ((cs.map StrChars.lo8).map Value.int)) (w 153 rfl) (w 156 rfl) (w 154 rfl) (w 155 rfl) F408 F404 (by decide) (by decide) (by decide) (by decide) (by decide) (slice0 (mlen hl_s)) (by rw [hvd]; decide) (by simp) (by rw [hml]; rfl) (D d25_22) (by decide) 0 (Nat.le_of_ble_eq_true rfl) (by decide) ?_
  intro T414 h415 X416 K417 B418
  have F419 := F403.keep K417 (ninS (Exa.neArv F405 F404 (w 2 rfl)) nin0) (ninS ntd nin0)
  have F420 := F405.keep K417
  have F421 := F406.keep K417 (ninS (Exa.neArv F405 F404 (w 2 rfl)) nin0)
  have F422 := F407.keep K417 (ninS (Exa.neArv F405 F404 (w 2 rfl)) nin0)
  have F423 := F408.keep K417 (ninS ntd nin0)
  show Goes p.tables e below _ (T414.setTop (mkF m 25 #[.val (.ref s), .val (.ref d), .val (.int (10 : Int32)), .val (.int (0 : Int32))] []))
  refine X416.goto 43 (D d25_25) ⟨by decide, by decide⟩ ?_
  exact X416.retn hret hlk (D d25_43) (by decide) (by decide) (⟨rfl, B418⟩)
set_option maxRecDepth 65536 in
set_option maxHeartbeats 40000000 in
theorem ctPS10_0_16 (l : Launch) (Z : State) (a0 : Array Value) (hw : ∀ d ∈ tables_1, d.before a0 Z = true) (hEL : EW Z a0 consts_1) (z0 : Int32) (S0 : Sta Z Z.heap "java/lang/String" "COMPACT_STRINGS" "Z" (.int z0)) (hz0 : ¬ z0 = 0) (b d s t : Addr) (kd : ClassId) (cs : List Int32) (vd : List Value) (h0 : Heap) (n0 : Nat) (EB : Exa Z h0 b "java/lang/StringBuilder") (FV : Fld Z h0 b "java/lang/AbstractStringBuilder" "value" "[B" (.ref d)) (FC : Fld Z h0 b "java/lang/AbstractStringBuilder" "coder" "B" (.int (0 : Int32))) (AD : Arv Z h0 d kd .byte (16 : Int32) vd (.int 0)) (hvd : vd.length = 16) (OS : OStr Z h0 s t cs) (hl_s : cs.length = 0) (ntd : t ≠ d) :
    Ct l Z consts_1 [] (⟨"java/lang/AbstractStringBuilder", "putStringAt", "(ILjava/lang/String;)V"⟩ : MethodName) jdk_68_method_73_code 3 none ({ frames := 2, cells := 0, slots := 0, locals := 33 } : Room) #[(.ref b), (.int (10 : Int32)), (.ref s)] h0 n0 [d] (fun v h => v = none ∧ Arv Z h d kd .byte (16 : Int32) (vd.take 10 ++ ((cs.map StrChars.lo8).map Value.int) ++ vd.drop (10 + 0)) (.int 0)) := by
  have w : ∀ {d : Jvm.Cond} (i : Nat), tables_1[i]? = some d → d.before a0 Z = true := fun i q => hw _ (List.mem_of_getElem? q)
  refine Ct.enter (plainFor_of_name pn_2) hEL ?_
  intro p e sS m below meth c T0 hby hml0 hret hlk hnm hs0 X0
  have hml : c.maxLocals = 3 := hml0
  have D : ∀ {pc : Nat} {r : Except DecodeError (Instr × Nat)}, decode jdk_68_method_73_code pc = r → decode c.code pc = r := fun q => hb hby q
  rw [show entryFrame m #[(.ref b), (.int (10 : Int32)), (.ref s)] 3 = mkF m 0 #[.val (.ref b), .val (.int (10 : Int32)), .val (.ref s)] [] from by first | (simp [entryFrame, mkF, argsToLocals, Value.category]; done) | rfl]
  obtain ⟨qE, -, -, _, -, qC, -⟩ := id OS
  refine X0.aloadN (x := (.ref b)) (D d23_0) rfl rfl ?_
  refine X0.aloadN (x := (.ref s)) (D d23_1) rfl rfl ?_
  refine X0.callvF (y := (⟨"java/lang/AbstractStringBuilder", "inflateIfNeededFor", "(Ljava/lang/String;)V"⟩ : MethodName)) (z := (⟨"java/lang/AbstractStringBuilder", "inflateIfNeededFor", "(Ljava/lang/String;)V"⟩ : MethodName)) (a := b) (C := "java/lang/StringBuilder") [(.ref s)] [] (ctInf l Z a0 hw hEL z0 S0 hz0 b d s _ _ EB FV FC qE qC).toF EB (w 142 rfl) (decOf (w 143 rfl) (w 146 rfl)) (w 145 rfl) (w 143 rfl) (nfOf (w 145 rfl) rfl) (w 101 rfl) (w 146 rfl) (by decide) (fun _ q => nomatch q) (by decide) 0 (by decide) (by decide) (by decide) (lenOf pd_5 rfl) rfl (Nat.le_of_ble_eq_true rfl) (by rw [hml]; rfl) (D d23_2) ?_
  rintro T424 h425 _ _ X427 K428 hg429 ⟨rfl, rfl⟩
  have F430 := EB.keep K428
  have F431 := FV.keep K428 nin0
  have F432 := FC.keep K428 nin0
  have F433 := AD.keep K428 nin0
  have F434 := OS.keep K428 nin0 nin0
  show Goes p.tables e below _ (T424.setTop (mkF m 5 #[.val (.ref b), .val (.int (10 : Int32)), .val (.ref s)] []))
  refine X427.aloadN (x := (.ref s)) (D d23_5) rfl rfl ?_
  refine X427.aloadN (x := (.ref b)) (D d23_6) rfl rfl ?_
  refine X427.getf (w 105 rfl) Via.refl F431 (D d23_7) ?_
  intro T435 X436
  show Goes p.tables e below _ (T435.setTop (mkF m 10 #[.val (.ref b), .val (.int (10 : Int32)), .val (.ref s)] [(.ref d), (.ref s)]))
  refine X436.iloadN (x := (10 : Int32)) (D d23_10) rfl ?_
  refine X436.aloadN (x := (.ref b)) (D d23_11) rfl rfl ?_
  refine X436.getf (w 107 rfl) Via.refl F432 (D d23_12) ?_
  intro T437 X438
  show Goes p.tables e below _ (T437.setTop (mkF m 15 #[.val (.ref b), .val (.int (10 : Int32)), .val (.ref s)] [(.int (0 : Int32)), (.int (10 : Int32)), (.ref d), (.ref s)]))
  refine X438.callvF (y := (⟨"java/lang/String", "getBytes", "([BIB)V"⟩ : MethodName)) (z := (⟨"java/lang/String", "getBytes", "([BIB)V"⟩ : MethodName)) (a := s) (C := "java/lang/String") [(.ref d), (.int (10 : Int32)), (.int (0 : Int32))] [] (ctGB10_0_16 l Z a0 hw hEL z0 S0 hz0 s t d kd cs vd _ _ F434 hl_s ntd F433 hvd).toF F434.1 (w 148 rfl) (w 149 rfl) (w 151 rfl) (w 150 rfl) (nfOf (w 151 rfl) rfl) (w 3 rfl) (w 152 rfl) (by decide) (by simp) (by decide) 0 (by decide) (by decide) (by decide) (lenOf pd_6 rfl) rfl (Nat.le_of_ble_eq_true rfl) (by rw [hml]; rfl) (D d23_15) ?_
  rintro T439 h440 _ _ X442 K443 hg444 ⟨rfl, rfl, A1⟩
  have F445 := F430.keep K443
  have F446 := F431.keep K443 (ninS (Exa.neArv F430 F433 (w 92 rfl)) nin0)
  have F447 := F432.keep K443 (ninS (Exa.neArv F430 F433 (w 92 rfl)) nin0)
  have F448 := F434.keep K443 (ninS (Exa.neArv F434.1 F433 (w 2 rfl)) nin0) (ninS ntd nin0)
  show Goes p.tables e below _ (T439.setTop (mkF m 18 #[.val (.ref b), .val (.int (10 : Int32)), .val (.ref s)] []))
  exact X442.retn hret hlk (D d23_18) (by decide) (by decide) (⟨rfl, A1⟩)
set_option maxRecDepth 65536 in
set_option maxHeartbeats 40000000 in
theorem ctAA10_0_16 (l : Launch) (Z : State) (a0 : Array Value) (hw : ∀ d ∈ tables_1, d.before a0 Z = true) (hEL : EW Z a0 consts_1) (z0 : Int32) (S0 : Sta Z Z.heap "java/lang/String" "COMPACT_STRINGS" "Z" (.int z0)) (hz0 : ¬ z0 = 0) (b d s t : Addr) (kd : ClassId) (cs : List Int32) (vd : List Value) (h0 : Heap) (n0 : Nat) (EB : Exa Z h0 b "java/lang/StringBuilder") (FV : Fld Z h0 b "java/lang/AbstractStringBuilder" "value" "[B" (.ref d)) (FC : Fld Z h0 b "java/lang/AbstractStringBuilder" "coder" "B" (.int (0 : Int32))) (FN : Fld Z h0 b "java/lang/AbstractStringBuilder" "count" "I" (.int (10 : Int32))) (AD : Arv Z h0 d kd .byte (16 : Int32) vd (.int 0)) (hvd : vd.length = 16) (OS : OStr Z h0 s t cs) (hl_s : cs.length = 0) (ntd : t ≠ d) :
    Ct l Z consts_1 [] (⟨"java/lang/AbstractStringBuilder", "append", "(Ljava/lang/String;)Ljava/lang/AbstractStringBuilder;"⟩ : MethodName) jdk_68_method_22_code 3 (some (.object "java/lang/AbstractStringBuilder")) ({ frames := 3, cells := 0, slots := 0, locals := 47 } : Room) #[(.ref b), (.ref s)] h0 n0 [b, d] (fun v h => v = some (.ref b) ∧ Exa Z h b "java/lang/StringBuilder" ∧ Fld Z h b "java/lang/AbstractStringBuilder" "value" "[B" (.ref d) ∧ Fld Z h b "java/lang/AbstractStringBuilder" "coder" "B" (.int (0 : Int32)) ∧ Fld Z h b "java/lang/AbstractStringBuilder" "count" "I" (.int (10 : Int32)) ∧ Arv Z h d kd .byte (16 : Int32) (vd.take 10 ++ ((cs.map StrChars.lo8).map Value.int) ++ vd.drop (10 + 0)) (.int 0)) := by
  have w : ∀ {d : Jvm.Cond} (i : Nat), tables_1[i]? = some d → d.before a0 Z = true := fun i q => hw _ (List.mem_of_getElem? q)
  refine Ct.enter (plainFor_of_name pn_2) hEL ?_
  intro p e sS m below meth c T0 hby hml0 hret hlk hnm hs0 X0
  have hml : c.maxLocals = 3 := hml0
  have D : ∀ {pc : Nat} {r : Except DecodeError (Instr × Nat)}, decode jdk_68_method_22_code pc = r → decode c.code pc = r := fun q => hb hby q
  rw [show entryFrame m #[(.ref b), (.ref s)] 3 = mkF m 0 #[.val (.ref b), .val (.ref s), .unset] [] from by first | (simp [entryFrame, mkF, argsToLocals, Value.category]; done) | rfl]
  refine X0.aloadN (x := (.ref s)) (D d19_0) rfl rfl ?_
  refine X0.ifnonnullR 9 (D d19_1) ⟨by decide, by decide⟩ ?_
  refine X0.aloadN (x := (.ref s)) (D d19_9) rfl rfl ?_
  refine X0.callvF (y := (⟨"java/lang/String", "length", "()I"⟩ : MethodName)) (z := (⟨"java/lang/String", "length", "()I"⟩ : MethodName)) (a := s) (C := "java/lang/String") [] [] (ctLen0 l Z a0 hw hEL z0 S0 hz0 s t cs _ _ OS hl_s).toF OS.1 (w 120 rfl) (w 121 rfl) (w 123 rfl) (w 122 rfl) (nfOf (w 123 rfl) rfl) (w 3 rfl) (w 124 rfl) (by decide) (fun _ q => nomatch q) (by decide) 0 (by decide) (by decide) (by decide) (lenOf pd_7 rfl) rfl (Nat.le_of_ble_eq_true rfl) (by rw [hml]; rfl) (D d19_10) ?_
  rintro T449 h450 _ _ X452 K453 hg454 ⟨rfl, rfl⟩
  have F455 := EB.keep K453
  have F456 := FV.keep K453 nin0
  have F457 := FC.keep K453 nin0
  have F458 := FN.keep K453 nin0
  have F459 := AD.keep K453 nin0
  have F460 := OS.keep K453 nin0 nin0
  show Goes p.tables e below _ (T449.setTop (mkF m 13 #[.val (.ref b), .val (.ref s), .unset] [(.int (0 : Int32))]))
  refine X452.istoreN #[.val (.ref b), .val (.ref s), .val (.int (0 : Int32))] (D d19_13) rfl ?_
  refine X452.aloadN (x := (.ref b)) (D d19_14) rfl rfl ?_
  refine X452.aloadN (x := (.ref b)) (D d19_15) rfl rfl ?_
  refine X452.getf (w 130 rfl) Via.refl F458 (D d19_16) ?_
  intro T461 X462
  show Goes p.tables e below _ (T461.setTop (mkF m 19 #[.val (.ref b), .val (.ref s), .val (.int (0 : Int32))] [(.int (10 : Int32)), (.ref b)]))
  refine X462.iloadN (x := (0 : Int32)) (D d19_19) rfl ?_
  refine X462.iadd (D d19_20) ?_
  show Goes p.tables e below _ (T461.setTop (mkF m 21 #[.val (.ref b), .val (.ref s), .val (.int (0 : Int32))] [(.int (10 : Int32)), (.ref b)]))
  refine X462.callvF (y := (⟨"java/lang/AbstractStringBuilder", "ensureCapacityInternal", "(I)V"⟩ : MethodName)) (z := (⟨"java/lang/AbstractStringBuilder", "ensureCapacityInternal", "(I)V"⟩ : MethodName)) (a := b) (C := "java/lang/StringBuilder") [(.int (10 : Int32))] [] (ctEC10_16 l Z a0 hw hEL z0 S0 hz0 b d kd vd _ _ F455 F456 F457 F459 hvd).toF F455 (w 132 rfl) (decOf (w 133 rfl) (w 136 rfl)) (w 135 rfl) (w 133 rfl) (nfOf (w 135 rfl) rfl) (w 101 rfl) (w 136 rfl) (by decide) (fun _ q => nomatch q) (by decide) 0 (by decide) (by decide) (by decide) (lenOf pd_1 rfl) rfl (Nat.le_of_ble_eq_true rfl) (by rw [hml]; rfl) (D d19_21) ?_
  rintro T463 h464 _ _ X466 K467 hg468 ⟨rfl, rfl⟩
  have F469 := F455.keep K467
  have F470 := F456.keep K467 nin0
  have F471 := F457.keep K467 nin0
  have F472 := F458.keep K467 nin0
  have F473 := F459.keep K467 nin0
  have F474 := F460.keep K467 nin0 nin0
  show Goes p.tables e below _ (T463.setTop (mkF m 24 #[.val (.ref b), .val (.ref s), .val (.int (0 : Int32))] []))
  refine X466.aloadN (x := (.ref b)) (D d19_24) rfl rfl ?_
  refine X466.aloadN (x := (.ref b)) (D d19_25) rfl rfl ?_
  refine X466.getf (w 130 rfl) Via.refl F472 (D d19_26) ?_
  intro T475 X476
  show Goes p.tables e below _ (T475.setTop (mkF m 29 #[.val (.ref b), .val (.ref s), .val (.int (0 : Int32))] [(.int (10 : Int32)), (.ref b)]))
  refine X476.aloadN (x := (.ref s)) (D d19_29) rfl rfl ?_
  refine X476.callvF (y := (⟨"java/lang/AbstractStringBuilder", "putStringAt", "(ILjava/lang/String;)V"⟩ : MethodName)) (z := (⟨"java/lang/AbstractStringBuilder", "putStringAt", "(ILjava/lang/String;)V"⟩ : MethodName)) (a := b) (C := "java/lang/StringBuilder") [(.int (10 : Int32)), (.ref s)] [] (ctPS10_0_16 l Z a0 hw hEL z0 S0 hz0 b d s t kd cs vd _ _ F469 F470 F471 F473 hvd F474 hl_s ntd).toF F469 (w 137 rfl) (decOf (w 138 rfl) (w 141 rfl)) (w 140 rfl) (w 138 rfl) (nfOf (w 140 rfl) rfl) (w 101 rfl) (w 141 rfl) (by decide) (by simp) (by decide) 0 (by decide) (by decide) (by decide) (lenOf pd_8 rfl) rfl (Nat.le_of_ble_eq_true rfl) (by rw [hml]; rfl) (D d19_30) ?_
  rintro T477 h478 _ _ X480 K481 hg482 ⟨rfl, rfl, A1⟩
  have F483 := F469.keep K481
  have F484 := F470.keep K481 (ninS (Exa.neArv F469 F473 (w 92 rfl)) nin0)
  have F485 := F471.keep K481 (ninS (Exa.neArv F469 F473 (w 92 rfl)) nin0)
  have F486 := F472.keep K481 (ninS (Exa.neArv F469 F473 (w 92 rfl)) nin0)
  have F487 := F474.keep K481 (ninS (Exa.neArv F474.1 F473 (w 2 rfl)) nin0) (ninS ntd nin0)
  show Goes p.tables e below _ (T477.setTop (mkF m 33 #[.val (.ref b), .val (.ref s), .val (.int (0 : Int32))] []))
  refine X480.aloadN (x := (.ref b)) (D d19_33) rfl rfl ?_
  refine X480.dup (D d19_34) rfl ?_
  refine X480.getf (w 130 rfl) Via.refl F486 (D d19_35) ?_
  intro T488 X489
  show Goes p.tables e below _ (T488.setTop (mkF m 38 #[.val (.ref b), .val (.ref s), .val (.int (0 : Int32))] [(.int (10 : Int32)), (.ref b)]))
  refine X489.iloadN (x := (0 : Int32)) (D d19_38) rfl ?_
  refine X489.iadd (D d19_39) ?_
  show Goes p.tables e below _ (T488.setTop (mkF m 40 #[.val (.ref b), .val (.ref s), .val (.int (0 : Int32))] [(.int (10 : Int32)), (.ref b)]))
  refine X489.putf (w 130 rfl) Via.refl F486 F483 (Or.inl (w 131 rfl)) (w 92 rfl) (ty := .int) (by decide) rfl rfl (D d19_40) (by simp) ?_
  intro T490 h491 X492 W493
  have F494 := F486.same W493
  have F495 := F483.wr W493
  have F496 := F484.other W493 (Or.inr (slot_ne (t := (.array .byte)) (t' := .int) (Or.inl (w 106 rfl)) (Or.inl (w 131 rfl)) (by decide) (by decide) (by decide)))
  have F497 := F485.other W493 (Or.inr (slot_ne (t := .byte) (t' := .int) (Or.inl (w 108 rfl)) (Or.inl (w 131 rfl)) (by decide) (by decide) (by decide)))
  have F498 := F487.wr W493 (Exa.ne F487.1 F483 (by decide)) (OStr.neT F487 F483 (w 92 rfl))
  have F499 := A1.other W493 (Exa.neArv F483 A1 (w 92 rfl)).symm
  show Goes p.tables e below _ (T490.setTop (mkF m 43 #[.val (.ref b), .val (.ref s), .val (.int (0 : Int32))] []))
  refine X492.aloadN (x := (.ref b)) (D d19_43) rfl rfl ?_
  exact X492.retA hret rfl rfl hlk (D d19_44) (by decide) (by decide) (⟨rfl, F495, F496, F497, F494, F499⟩)
set_option maxRecDepth 65536 in
set_option maxHeartbeats 40000000 in
theorem ctSBa10_0_16 (l : Launch) (Z : State) (a0 : Array Value) (hw : ∀ d ∈ tables_1, d.before a0 Z = true) (hEL : EW Z a0 consts_1) (z0 : Int32) (S0 : Sta Z Z.heap "java/lang/String" "COMPACT_STRINGS" "Z" (.int z0)) (hz0 : ¬ z0 = 0) (b d s t : Addr) (kd : ClassId) (cs : List Int32) (vd : List Value) (h0 : Heap) (n0 : Nat) (EB : Exa Z h0 b "java/lang/StringBuilder") (FV : Fld Z h0 b "java/lang/AbstractStringBuilder" "value" "[B" (.ref d)) (FC : Fld Z h0 b "java/lang/AbstractStringBuilder" "coder" "B" (.int (0 : Int32))) (FN : Fld Z h0 b "java/lang/AbstractStringBuilder" "count" "I" (.int (10 : Int32))) (AD : Arv Z h0 d kd .byte (16 : Int32) vd (.int 0)) (hvd : vd.length = 16) (OS : OStr Z h0 s t cs) (hl_s : cs.length = 0) (ntd : t ≠ d) :
    Ct l Z consts_1 [] (⟨"java/lang/StringBuilder", "append", "(Ljava/lang/String;)Ljava/lang/StringBuilder;"⟩ : MethodName) jdk_67_method_7_code 2 (some (.object "java/lang/StringBuilder")) ({ frames := 4, cells := 0, slots := 0, locals := 61 } : Room) #[(.ref b), (.ref s)] h0 n0 [b, d] (fun v h => v = some (.ref b) ∧ Exa Z h b "java/lang/StringBuilder" ∧ Fld Z h b "java/lang/AbstractStringBuilder" "value" "[B" (.ref d) ∧ Fld Z h b "java/lang/AbstractStringBuilder" "coder" "B" (.int (0 : Int32)) ∧ Fld Z h b "java/lang/AbstractStringBuilder" "count" "I" (.int (10 : Int32)) ∧ Arv Z h d kd .byte (16 : Int32) (vd.take 10 ++ ((cs.map StrChars.lo8).map Value.int) ++ vd.drop (10 + 0)) (.int 0)) := by
  have w : ∀ {d : Jvm.Cond} (i : Nat), tables_1[i]? = some d → d.before a0 Z = true := fun i q => hw _ (List.mem_of_getElem? q)
  refine Ct.enter (plainFor_of_name pn_3) hEL ?_
  intro p e sS m below meth c T0 hby hml0 hret hlk hnm hs0 X0
  have hml : c.maxLocals = 2 := hml0
  have D : ∀ {pc : Nat} {r : Except DecodeError (Instr × Nat)}, decode jdk_67_method_7_code pc = r → decode c.code pc = r := fun q => hb hby q
  rw [show entryFrame m #[(.ref b), (.ref s)] 2 = mkF m 0 #[.val (.ref b), .val (.ref s)] [] from by first | (simp [entryFrame, mkF, argsToLocals, Value.category]; done) | rfl]
  refine X0.aloadN (x := (.ref b)) (D d18_0) rfl rfl ?_
  refine X0.aloadN (x := (.ref s)) (D d18_1) rfl rfl ?_
  refine X0.callu (a := b) [(.ref s)] [] (ctAA10_0_16 l Z a0 hw hEL z0 S0 hz0 b d s t kd cs vd _ _ EB FV FC FN AD hvd OS hl_s ntd).toF EB (w 115 rfl) (smOf (w 116 rfl) (w 172 rfl) rfl (by decide)) (w 116 rfl) (w 117 rfl) (by decide) (w 101 rfl) (w 119 rfl) (by simp) (by decide) 0 (by decide) (by decide) (by decide) (lenOf pd_9 rfl) rfl (Nat.le_of_ble_eq_true rfl) (by rw [hml]; rfl) (D d18_2) ?_
  rintro T500 h501 _ _ X503 K504 hg505 ⟨rfl, rfl, E1, V1, C1, N1, A1⟩
  have F506 := EB.keep K504
  have F507 := OS.keep K504 (ninS (Exa.ne OS.1 EB (by decide)) (ninS (Exa.neArv OS.1 AD (w 2 rfl)) nin0)) (ninS (OStr.neT OS EB (w 92 rfl)) (ninS ntd nin0))
  show Goes p.tables e below _ (T500.setTop (mkF m 5 #[.val (.ref b), .val (.ref s)] [(.ref b)]))
  refine X503.pop (D d18_5) rfl ?_
  refine X503.aloadN (x := (.ref b)) (D d18_6) rfl rfl ?_
  exact X503.retA hret rfl rfl hlk (D d18_7) (by decide) (by decide) (⟨rfl, E1, V1, C1, N1, A1⟩)
theorem d35_0 : decode jdk_65_method_131_code 0 = .ok (.iload_n 1, 1) := by decide +kernel
theorem d35_1 : decode jdk_65_method_131_code 1 = .ok (.iload_n 0, 1) := by decide +kernel
theorem d35_2 : decode jdk_65_method_131_code 2 = .ok (.if_icmp .ge 35, 3) := by decide +kernel
theorem d35_5 : decode jdk_65_method_131_code 5 = .ok (.new 43, 3) := by decide +kernel
theorem d35_8 : decode jdk_65_method_131_code 8 = .ok (.dup, 1) := by decide +kernel
theorem d35_9 : decode jdk_65_method_131_code 9 = .ok (.new 45, 3) := by decide +kernel
theorem d35_12 : decode jdk_65_method_131_code 12 = .ok (.dup, 1) := by decide +kernel
theorem d35_13 : decode jdk_65_method_131_code 13 = .ok (.invokespecial 47, 3) := by decide +kernel
theorem d35_16 : decode jdk_65_method_131_code 16 = .ok (.iload_n 0, 1) := by decide +kernel
theorem d35_17 : decode jdk_65_method_131_code 17 = .ok (.invokevirtual 54, 3) := by decide +kernel
theorem d35_20 : decode jdk_65_method_131_code 20 = .ok (.ldc_w 337, 3) := by decide +kernel
theorem d35_23 : decode jdk_65_method_131_code 23 = .ok (.invokevirtual 50, 3) := by decide +kernel
theorem d35_26 : decode jdk_65_method_131_code 26 = .ok (.iload_n 1, 1) := by decide +kernel
theorem d35_27 : decode jdk_65_method_131_code 27 = .ok (.invokevirtual 54, 3) := by decide +kernel
theorem d35_30 : decode jdk_65_method_131_code 30 = .ok (.invokevirtual 61, 3) := by decide +kernel
theorem d35_33 : decode jdk_65_method_131_code 33 = .ok (.invokespecial 65, 3) := by decide +kernel
theorem d35_36 : decode jdk_65_method_131_code 36 = .ok (.athrow, 1) := by decide +kernel
theorem d35_37 : decode jdk_65_method_131_code 37 = .ok (.return_, 1) := by decide +kernel
theorem pn_5 : plainName "java/util/Arrays" = true := by first | (simp [plainName, overriddenIn]; done) | decide +kernel
set_option maxRecDepth 65536 in
set_option maxHeartbeats 40000000 in
theorem ctCL10_16 (l : Launch) (Z : State) (a0 : Array Value) (hw : ∀ d ∈ tables_1, d.before a0 Z = true) (hEL : EW Z a0 consts_1) (z0 : Int32) (S0 : Sta Z Z.heap "java/lang/String" "COMPACT_STRINGS" "Z" (.int z0)) (hz0 : ¬ z0 = 0)  (h0 : Heap) (n0 : Nat)  :
    Ct l Z consts_1 [] (⟨"java/util/Arrays", "checkLength", "(II)V"⟩ : MethodName) jdk_65_method_131_code 2 none ({ frames := 0, cells := 0, slots := 0, locals := 0 } : Room) #[(.int (0 : Int32)), (.int (10 : Int32))] h0 n0 [] (fun v _ => v = none) := by
  have w : ∀ {d : Jvm.Cond} (i : Nat), tables_1[i]? = some d → d.before a0 Z = true := fun i q => hw _ (List.mem_of_getElem? q)
  refine Ct.enter (plainFor_of_name pn_5) hEL ?_
  intro p e sS m below meth c T0 hby hml0 hret hlk hnm hs0 X0
  have hml : c.maxLocals = 2 := hml0
  have D : ∀ {pc : Nat} {r : Except DecodeError (Instr × Nat)}, decode jdk_65_method_131_code pc = r → decode c.code pc = r := fun q => hb hby q
  rw [show entryFrame m #[(.int (0 : Int32)), (.int (10 : Int32))] 2 = mkF m 0 #[.val (.int (0 : Int32)), .val (.int (10 : Int32))] [] from by first | (simp [entryFrame, mkF, argsToLocals, Value.category]; done) | rfl]
  refine X0.iloadN (x := (10 : Int32)) (D d35_0) rfl ?_
  refine X0.iloadN (x := (0 : Int32)) (D d35_1) rfl ?_
  refine X0.icmp_ge 37 (D d35_2) ⟨by decide, by decide⟩ (fun hc508 => ?_) (fun hc508 => absurd hc508 (by decide))
  exact X0.retn hret hlk (D d35_37) (by decide) (by decide) (rfl)
theorem d36_0 : decode jdk_29_method_69_code 0 = .ok (.iload_n 0, 1) := by decide +kernel
theorem d36_1 : decode jdk_29_method_69_code 1 = .ok (.iload_n 1, 1) := by decide +kernel
theorem d36_2 : decode jdk_29_method_69_code 2 = .ok (.if_icmp .gt 7, 3) := by decide +kernel
theorem d36_5 : decode jdk_29_method_69_code 5 = .ok (.iload_n 0, 1) := by decide +kernel
theorem d36_6 : decode jdk_29_method_69_code 6 = .ok (.goto 4, 3) := by decide +kernel
theorem d36_9 : decode jdk_29_method_69_code 9 = .ok (.iload_n 1, 1) := by decide +kernel
theorem d36_10 : decode jdk_29_method_69_code 10 = .ok (.ireturn, 1) := by decide +kernel
set_option maxRecDepth 65536 in
set_option maxHeartbeats 40000000 in
theorem ctMn10_16 (l : Launch) (Z : State) (a0 : Array Value) (hw : ∀ d ∈ tables_1, d.before a0 Z = true) (hEL : EW Z a0 consts_1) (z0 : Int32) (S0 : Sta Z Z.heap "java/lang/String" "COMPACT_STRINGS" "Z" (.int z0)) (hz0 : ¬ z0 = 0)  (h0 : Heap) (n0 : Nat)  :
    Ct l Z consts_1 [] (⟨"java/lang/Math", "min", "(II)I"⟩ : MethodName) jdk_29_method_69_code 2 (some .int) ({ frames := 0, cells := 0, slots := 0, locals := 0 } : Room) #[(.int (16 : Int32)), (.int (10 : Int32))] h0 n0 [] (fun v _ => v = some (.int (10 : Int32))) := by
  have w : ∀ {d : Jvm.Cond} (i : Nat), tables_1[i]? = some d → d.before a0 Z = true := fun i q => hw _ (List.mem_of_getElem? q)
  refine Ct.enter (Jvm.Free.JP.mathPlain rfl (by decide)) hEL ?_
  intro p e sS m below meth c T0 hby hml0 hret hlk hnm hs0 X0
  have hml : c.maxLocals = 2 := hml0
  have D : ∀ {pc : Nat} {r : Except DecodeError (Instr × Nat)}, decode jdk_29_method_69_code pc = r → decode c.code pc = r := fun q => hb hby q
  rw [show entryFrame m #[(.int (16 : Int32)), (.int (10 : Int32))] 2 = mkF m 0 #[.val (.int (16 : Int32)), .val (.int (10 : Int32))] [] from by first | (simp [entryFrame, mkF, argsToLocals, Value.category]; done) | rfl]
  refine X0.iloadN (x := (16 : Int32)) (D d36_0) rfl ?_
  refine X0.iloadN (x := (10 : Int32)) (D d36_1) rfl ?_
  refine X0.icmp_gt 9 (D d36_2) ⟨by decide, by decide⟩ (fun hc509 => ?_) (fun hc509 => absurd hc509 (by decide))
  refine X0.iloadN (x := (10 : Int32)) (D d36_9) rfl ?_
  exact X0.retI hret hlk (D d36_10) (by decide) (by decide) (rfl)
theorem d34_0 : decode jdk_65_method_133_code 0 = .ok (.iload_n 1, 1) := by decide +kernel
theorem d34_1 : decode jdk_65_method_133_code 1 = .ok (.iload_n 2, 1) := by decide +kernel
theorem d34_2 : decode jdk_65_method_133_code 2 = .ok (.invokestatic 343, 3) := by decide +kernel
theorem d34_5 : decode jdk_65_method_133_code 5 = .ok (.iload_n 2, 1) := by decide +kernel
theorem d34_6 : decode jdk_65_method_133_code 6 = .ok (.iload_n 1, 1) := by decide +kernel
theorem d34_7 : decode jdk_65_method_133_code 7 = .ok (.isub, 1) := by decide +kernel
theorem d34_8 : decode jdk_65_method_133_code 8 = .ok (.istore_n 3, 1) := by decide +kernel
theorem d34_9 : decode jdk_65_method_133_code 9 = .ok (.iload_n 3, 1) := by decide +kernel
theorem d34_10 : decode jdk_65_method_133_code 10 = .ok (.newarray .byte, 2) := by decide +kernel
theorem d34_12 : decode jdk_65_method_133_code 12 = .ok (.astore 4, 2) := by decide +kernel
theorem d34_14 : decode jdk_65_method_133_code 14 = .ok (.aload_n 0, 1) := by decide +kernel
theorem d34_15 : decode jdk_65_method_133_code 15 = .ok (.iload_n 1, 1) := by decide +kernel
theorem d34_16 : decode jdk_65_method_133_code 16 = .ok (.aload 4, 2) := by decide +kernel
theorem d34_18 : decode jdk_65_method_133_code 18 = .ok (.iconst 0, 1) := by decide +kernel
theorem d34_19 : decode jdk_65_method_133_code 19 = .ok (.aload_n 0, 1) := by decide +kernel
theorem d34_20 : decode jdk_65_method_133_code 20 = .ok (.arraylength, 1) := by decide +kernel
theorem d34_21 : decode jdk_65_method_133_code 21 = .ok (.iload_n 1, 1) := by decide +kernel
theorem d34_22 : decode jdk_65_method_133_code 22 = .ok (.isub, 1) := by decide +kernel
theorem d34_23 : decode jdk_65_method_133_code 23 = .ok (.iload_n 3, 1) := by decide +kernel
theorem d34_24 : decode jdk_65_method_133_code 24 = .ok (.invokestatic 304, 3) := by decide +kernel
theorem d34_27 : decode jdk_65_method_133_code 27 = .ok (.invokestatic 150, 3) := by decide +kernel
theorem d34_30 : decode jdk_65_method_133_code 30 = .ok (.aload 4, 2) := by decide +kernel
theorem d34_32 : decode jdk_65_method_133_code 32 = .ok (.areturn, 1) := by decide +kernel
theorem pd_10 : parseMethodDescriptor "(II)V" = some ⟨[.int, .int], none⟩ := by decide +kernel
theorem pd_11 : parseMethodDescriptor "(II)I" = some ⟨[.int, .int], (some .int)⟩ := by decide +kernel
set_option maxRecDepth 65536 in
set_option maxHeartbeats 40000000 in
theorem ctRB10_16 (l : Launch) (Z : State) (a0 : Array Value) (hw : ∀ d ∈ tables_1, d.before a0 Z = true) (hEL : EW Z a0 consts_1) (z0 : Int32) (S0 : Sta Z Z.heap "java/lang/String" "COMPACT_STRINGS" "Z" (.int z0)) (hz0 : ¬ z0 = 0) (d : Addr) (kd : ClassId) (vd xs : List Value) (h0 : Heap) (n0 : Nat) (AD : Arv Z h0 d kd .byte (16 : Int32) vd (.int 0)) (hxs : xs = (List.range 10).map fun i => vd.getD (0 + i) (.int 0)) :
    Ct l Z consts_1 [] (⟨"java/util/Arrays", "copyOfRangeByte", "([BII)[B"⟩ : MethodName) jdk_65_method_133_code 5 (some (.array .byte)) ({ frames := 1, cells := 1, slots := 10, locals := 18 } : Room) #[(.ref d), (.int (0 : Int32)), (.int (10 : Int32))] h0 n0 [] (fun v h => ∃ (r : Addr) (kr : ClassId), v = some (.ref r) ∧ Arv Z h r kr .byte (10 : Int32) xs (.int 0)) := by
  have w : ∀ {d : Jvm.Cond} (i : Nat), tables_1[i]? = some d → d.before a0 Z = true := fun i q => hw _ (List.mem_of_getElem? q)
  refine Ct.enter (plainFor_of_name pn_5) hEL ?_
  intro p e sS m below meth c T0 hby hml0 hret hlk hnm hs0 X0
  have hml : c.maxLocals = 5 := hml0
  have D : ∀ {pc : Nat} {r : Except DecodeError (Instr × Nat)}, decode jdk_65_method_133_code pc = r → decode c.code pc = r := fun q => hb hby q
  rw [show entryFrame m #[(.ref d), (.int (0 : Int32)), (.int (10 : Int32))] 5 = mkF m 0 #[.val (.ref d), .val (.int (0 : Int32)), .val (.int (10 : Int32)), .unset, .unset] [] from by first | (simp [entryFrame, mkF, argsToLocals, Value.category]; done) | rfl]
  refine X0.iloadN (x := (0 : Int32)) (D d34_0) rfl ?_
  refine X0.iloadN (x := (10 : Int32)) (D d34_1) rfl ?_
  refine X0.callsF [(.int (0 : Int32)), (.int (10 : Int32))] [] (ctCL10_16 l Z a0 hw hEL z0 S0 hz0 _ _).toF (w 194 rfl) (w 195 rfl) (w 189 rfl) (w 196 rfl) (by decide) (fun _ q => nomatch q) (by decide) 0 (by decide) (by decide) (by decide) (lenOf pd_10 rfl) rfl (Nat.le_of_ble_eq_true rfl) (by rw [hml]; rfl) (D d34_2) ?_
  rintro T510 h511 _ _ X513 K514 hg515 ⟨rfl, rfl⟩
  have F516 := AD.keep K514 nin0
  show Goes p.tables e below _ (T510.setTop (mkF m 5 #[.val (.ref d), .val (.int (0 : Int32)), .val (.int (10 : Int32)), .unset, .unset] []))
  refine X513.iloadN (x := (10 : Int32)) (D d34_5) rfl ?_
  refine X513.iloadN (x := (0 : Int32)) (D d34_6) rfl ?_
  refine X513.isub (D d34_7) ?_
  show Goes p.tables e below _ (T510.setTop (mkF m 8 #[.val (.ref d), .val (.int (0 : Int32)), .val (.int (10 : Int32)), .unset, .unset] [(.int (10 : Int32))]))
  refine X513.istoreN #[.val (.ref d), .val (.int (0 : Int32)), .val (.int (10 : Int32)), .val (.int (10 : Int32)), .unset] (D d34_8) rfl ?_
  refine X513.iloadN (x := (10 : Int32)) (D d34_9) rfl ?_
  refine X513.newarr (w 15 rfl) (n := (10 : Int32)) (D d34_10) (by decide) 10 (by decide) (by decide) (by decide) (by decide) ?_
  intro T517 h518 b519 kb520 g521 X522 E523 A524
  have F525 := F516.ext E523
  have lt526 : d < b519 := by rw [g521]; exact F516.lt
  have F527 : Arv Z h518 b519 kb520 .byte (10 : Int32) [(.int (0 : Int32)), (.int (0 : Int32)), (.int (0 : Int32)), (.int (0 : Int32)), (.int (0 : Int32)), (.int (0 : Int32)), (.int (0 : Int32)), (.int (0 : Int32)), (.int (0 : Int32)), (.int (0 : Int32))] (.int (0 : Int32)) := A524.pad (pad_rep [] (.int (0 : Int32)) 10)
  show Goes p.tables e below _ (T517.setTop (mkF m 12 #[.val (.ref d), .val (.int (0 : Int32)), .val (.int (10 : Int32)), .val (.int (10 : Int32)), .unset] [(.ref b519)]))
  refine X522.astore #[.val (.ref d), .val (.int (0 : Int32)), .val (.int (10 : Int32)), .val (.int (10 : Int32)), .val (.ref b519)] (D d34_12) rfl rfl ?_
  refine X522.aloadN (x := (.ref d)) (D d34_14) rfl rfl ?_
  refine X522.iloadN (x := (0 : Int32)) (D d34_15) rfl ?_
  refine X522.aload (x := (.ref b519)) (D d34_16) rfl rfl ?_
  refine X522.iconst (x := (0 : Int32)) (D d34_18) rfl ?_
  refine X522.aloadN (x := (.ref d)) (D d34_19) rfl rfl ?_
  refine X522.alen F525 (D d34_20) ?_
  refine X522.iloadN (x := (0 : Int32)) (D d34_21) rfl ?_
  refine X522.isub (D d34_22) ?_
  show Goes p.tables e below _ (T517.setTop (mkF m 23 #[.val (.ref d), .val (.int (0 : Int32)), .val (.int (10 : Int32)), .val (.int (10 : Int32)), .val (.ref b519)] [(.int (16 : Int32)), (.int (0 : Int32)), (.ref b519), (.int (0 : Int32)), (.ref d)]))
  refine X522.iloadN (x := (10 : Int32)) (D d34_23) rfl ?_
  refine X522.callsF [(.int (16 : Int32)), (.int (10 : Int32))] [(.int (0 : Int32)), (.ref b519), (.int (0 : Int32)), (.ref d)] (ctMn10_16 l Z a0 hw hEL z0 S0 hz0 _ _).toF (w 197 rfl) (w 198 rfl) (w 199 rfl) (w 200 rfl) (by decide) (fun _ q => nomatch q) (by decide) 4 (by decide) (by decide) (by decide) (lenOf pd_11 rfl) rfl (Nat.le_of_ble_eq_true rfl) (by rw [hml]; rfl) (D d34_24) ?_
  rintro T528 h529 _ _ X531 K532 hg533 ⟨rfl, rfl⟩
  have F534 := F525.keep K532 nin0
  have F535 := F527.keep K532 nin0
  show Goes p.tables e below _ (T528.setTop (mkF m 27 #[.val (.ref d), .val (.int (0 : Int32)), .val (.int (10 : Int32)), .val (.int (10 : Int32)), .val (.ref b519)] [(.int (10 : Int32)), (.int (0 : Int32)), (.ref b519), (.int (0 : Int32)), (.ref d)]))
  show Goes p.tables e below _ (T528.setTop (mkF m 27 #[.val (.ref d), .val (.int (0 : Int32)), .val (.int (10 : Int32)), .val (.int (10 : Int32)), .val (.ref b519)] [(.int (10 : Int32)), (.int (0 : Int32)), (.ref b519), (.int (0 : Int32)), (.ref d)]))
  refine X531.acopy (us := xs) (w 201 rfl) (w 156 rfl) (w 154 rfl) (w 155 rfl) F534 F535 (by decide) (by decide) (by decide) (by decide) (by decide) hxs (by decide) (by simp) (by rw [hml]; rfl) (D d34_27) (by decide) 0 (Nat.le_of_ble_eq_true rfl) (by decide) ?_
  intro T536 h537 X538 K539 B540
  have F541 := F534.keep K539 (ninS (Nat.ne_of_lt lt526) nin0)
  show Goes p.tables e below _ (T536.setTop (mkF m 30 #[.val (.ref d), .val (.int (0 : Int32)), .val (.int (10 : Int32)), .val (.int (10 : Int32)), .val (.ref b519)] []))
  refine X538.aload (x := (.ref b519)) (D d34_30) rfl rfl ?_
  have hz : ([(.int (0 : Int32)), (.int (0 : Int32)), (.int (0 : Int32)), (.int (0 : Int32)), (.int (0 : Int32)), (.int (0 : Int32)), (.int (0 : Int32)), (.int (0 : Int32)), (.int (0 : Int32)), (.int (0 : Int32))] : List Value).take 0 ++ xs ++ ([(.int (0 : Int32)), (.int (0 : Int32)), (.int (0 : Int32)), (.int (0 : Int32)), (.int (0 : Int32)), (.int (0 : Int32)), (.int (0 : Int32)), (.int (0 : Int32)), (.int (0 : Int32)), (.int (0 : Int32))] : List Value).drop (0 + 10) = xs := by simp
  exact X538.retA hret rfl rfl hlk (D d34_32) (by decide) (by decide) (⟨_, _, rfl, by have q := B540; rw [← hz]; exact q⟩)
theorem d33_0 : decode jdk_65_method_132_code 0 = .ok (.iload_n 1, 1) := by decide +kernel
theorem d33_1 : decode jdk_65_method_132_code 1 = .ok (.ifCond .ne 9, 3) := by decide +kernel
theorem d33_4 : decode jdk_65_method_132_code 4 = .ok (.iload_n 2, 1) := by decide +kernel
theorem d33_5 : decode jdk_65_method_132_code 5 = .ok (.aload_n 0, 1) := by decide +kernel
theorem d33_6 : decode jdk_65_method_132_code 6 = .ok (.arraylength, 1) := by decide +kernel
theorem d33_7 : decode jdk_65_method_132_code 7 = .ok (.if_icmp .eq 10, 3) := by decide +kernel
theorem d33_10 : decode jdk_65_method_132_code 10 = .ok (.aload_n 0, 1) := by decide +kernel
theorem d33_11 : decode jdk_65_method_132_code 11 = .ok (.iload_n 1, 1) := by decide +kernel
theorem d33_12 : decode jdk_65_method_132_code 12 = .ok (.iload_n 2, 1) := by decide +kernel
theorem d33_13 : decode jdk_65_method_132_code 13 = .ok (.invokestatic 339, 3) := by decide +kernel
theorem d33_16 : decode jdk_65_method_132_code 16 = .ok (.areturn, 1) := by decide +kernel
theorem d33_17 : decode jdk_65_method_132_code 17 = .ok (.aload_n 0, 1) := by decide +kernel
theorem d33_18 : decode jdk_65_method_132_code 18 = .ok (.invokevirtual 310, 3) := by decide +kernel
theorem d33_21 : decode jdk_65_method_132_code 21 = .ok (.checkcast 311, 3) := by decide +kernel
theorem d33_24 : decode jdk_65_method_132_code 24 = .ok (.areturn, 1) := by decide +kernel
theorem pd_12 : parseMethodDescriptor "([BII)[B" = some ⟨[(.array .byte), .int, .int], (some (.array .byte))⟩ := by decide +kernel
set_option maxRecDepth 65536 in
set_option maxHeartbeats 40000000 in
theorem ctCR10_16 (l : Launch) (Z : State) (a0 : Array Value) (hw : ∀ d ∈ tables_1, d.before a0 Z = true) (hEL : EW Z a0 consts_1) (z0 : Int32) (S0 : Sta Z Z.heap "java/lang/String" "COMPACT_STRINGS" "Z" (.int z0)) (hz0 : ¬ z0 = 0) (d : Addr) (kd : ClassId) (vd xs : List Value) (h0 : Heap) (n0 : Nat) (AD : Arv Z h0 d kd .byte (16 : Int32) vd (.int 0)) (hxs : xs = (List.range 10).map fun i => vd.getD (0 + i) (.int 0)) :
    Ct l Z consts_1 [] (⟨"java/util/Arrays", "copyOfRange", "([BII)[B"⟩ : MethodName) jdk_65_method_132_code 3 (some (.array .byte)) ({ frames := 2, cells := 1, slots := 10, locals := 34 } : Room) #[(.ref d), (.int (0 : Int32)), (.int (10 : Int32))] h0 n0 [] (fun v h => ∃ (r : Addr) (kr : ClassId), v = some (.ref r) ∧ Arv Z h r kr .byte (10 : Int32) xs (.int 0)) := by
  have w : ∀ {d : Jvm.Cond} (i : Nat), tables_1[i]? = some d → d.before a0 Z = true := fun i q => hw _ (List.mem_of_getElem? q)
  refine Ct.enter (plainFor_of_name pn_5) hEL ?_
  intro p e sS m below meth c T0 hby hml0 hret hlk hnm hs0 X0
  have hml : c.maxLocals = 3 := hml0
  have D : ∀ {pc : Nat} {r : Except DecodeError (Instr × Nat)}, decode jdk_65_method_132_code pc = r → decode c.code pc = r := fun q => hb hby q
  rw [show entryFrame m #[(.ref d), (.int (0 : Int32)), (.int (10 : Int32))] 3 = mkF m 0 #[.val (.ref d), .val (.int (0 : Int32)), .val (.int (10 : Int32))] [] from by first | (simp [entryFrame, mkF, argsToLocals, Value.category]; done) | rfl]
  refine X0.iloadN (x := (0 : Int32)) (D d33_0) rfl ?_
  refine X0.if_ne 10 (D d33_1) ⟨by decide, by decide⟩ (fun hc542 => absurd hc542 (by decide)) (fun hc542 => ?_)
  refine X0.iloadN (x := (10 : Int32)) (D d33_4) rfl ?_
  refine X0.aloadN (x := (.ref d)) (D d33_5) rfl rfl ?_
  refine X0.alen AD (D d33_6) ?_
  refine X0.icmp_eq 17 (D d33_7) ⟨by decide, by decide⟩ (fun hc543 => absurd hc543 (by decide)) (fun hc543 => ?_)
  refine X0.aloadN (x := (.ref d)) (D d33_10) rfl rfl ?_
  refine X0.iloadN (x := (0 : Int32)) (D d33_11) rfl ?_
  refine X0.iloadN (x := (10 : Int32)) (D d33_12) rfl ?_
  refine X0.callsF [(.ref d), (.int (0 : Int32)), (.int (10 : Int32))] [] (ctRB10_16 l Z a0 hw hEL z0 S0 hz0 d kd vd xs _ _ AD hxs).toF (w 191 rfl) (w 192 rfl) (w 189 rfl) (w 193 rfl) (by decide) (fun _ q => nomatch q) (by decide) 0 (by decide) (by decide) (by decide) (lenOf pd_12 rfl) rfl (Nat.le_of_ble_eq_true rfl) (by rw [hml]; rfl) (D d33_13) ?_
  rintro T544 h545 _ _ X547 K548 hg549 ⟨rfl, r, kr, rfl, A1⟩
  have F550 := AD.keep K548 nin0
  show Goes p.tables e below _ (T544.setTop (mkF m 16 #[.val (.ref d), .val (.int (0 : Int32)), .val (.int (10 : Int32))] [(.ref r)]))
  exact X547.retA hret rfl rfl hlk (D d33_16) (by decide) (by decide) (⟨r, kr, rfl, A1⟩)
theorem d29_0 : decode jdk_68_method_64_code 0 = .ok (.aload_n 0, 1) := by decide +kernel
theorem d29_1 : decode jdk_68_method_64_code 1 = .ok (.getfield 15, 3) := by decide +kernel
theorem d29_4 : decode jdk_68_method_64_code 4 = .ok (.areturn, 1) := by decide +kernel
set_option maxRecDepth 65536 in
set_option maxHeartbeats 40000000 in
theorem ctGV (l : Launch) (Z : State) (a0 : Array Value) (hw : ∀ d ∈ tables_1, d.before a0 Z = true) (hEL : EW Z a0 consts_1) (z0 : Int32) (S0 : Sta Z Z.heap "java/lang/String" "COMPACT_STRINGS" "Z" (.int z0)) (hz0 : ¬ z0 = 0) (b d : Addr) (h0 : Heap) (n0 : Nat) (EB : Exa Z h0 b "java/lang/StringBuilder") (FV : Fld Z h0 b "java/lang/AbstractStringBuilder" "value" "[B" (.ref d)) (FC : Fld Z h0 b "java/lang/AbstractStringBuilder" "coder" "B" (.int (0 : Int32))) :
    Ct l Z consts_1 [] (⟨"java/lang/AbstractStringBuilder", "getValue", "()[B"⟩ : MethodName) jdk_68_method_64_code 1 (some (.array .byte)) ({ frames := 0, cells := 0, slots := 0, locals := 0 } : Room) #[(.ref b)] h0 n0 [] (fun v _ => v = some (.ref d)) := by
  have w : ∀ {d : Jvm.Cond} (i : Nat), tables_1[i]? = some d → d.before a0 Z = true := fun i q => hw _ (List.mem_of_getElem? q)
  refine Ct.enter (plainFor_of_name pn_2) hEL ?_
  intro p e sS m below meth c T0 hby hml0 hret hlk hnm hs0 X0
  have hml : c.maxLocals = 1 := hml0
  have D : ∀ {pc : Nat} {r : Except DecodeError (Instr × Nat)}, decode jdk_68_method_64_code pc = r → decode c.code pc = r := fun q => hb hby q
  rw [show entryFrame m #[(.ref b)] 1 = mkF m 0 #[.val (.ref b)] [] from by first | (simp [entryFrame, mkF, argsToLocals, Value.category]; done) | rfl]
  refine X0.aloadN (x := (.ref b)) (D d29_0) rfl rfl ?_
  refine X0.getf (w 105 rfl) Via.refl FV (D d29_1) ?_
  intro T551 X552
  show Goes p.tables e below _ (T551.setTop (mkF m 4 #[.val (.ref b)] [(.ref d)]))
  exact X552.retA hret rfl rfl hlk (D d29_4) (by decide) (by decide) (rfl)
theorem d32_0 : decode jdk_68_method_68_code 0 = .ok (.getstatic 18, 3) := by decide +kernel
theorem d32_3 : decode jdk_68_method_68_code 3 = .ok (.ifCond .eq 14, 3) := by decide +kernel
theorem d32_6 : decode jdk_68_method_68_code 6 = .ok (.aload_n 0, 1) := by decide +kernel
theorem d32_7 : decode jdk_68_method_68_code 7 = .ok (.getfield 22, 3) := by decide +kernel
theorem d32_10 : decode jdk_68_method_68_code 10 = .ok (.ifCond .ne 7, 3) := by decide +kernel
theorem d32_13 : decode jdk_68_method_68_code 13 = .ok (.iconst 1, 1) := by decide +kernel
theorem d32_14 : decode jdk_68_method_68_code 14 = .ok (.goto 4, 3) := by decide +kernel
theorem d32_17 : decode jdk_68_method_68_code 17 = .ok (.iconst 0, 1) := by decide +kernel
theorem d32_18 : decode jdk_68_method_68_code 18 = .ok (.ireturn, 1) := by decide +kernel
set_option maxRecDepth 65536 in
set_option maxHeartbeats 40000000 in
theorem ctIL (l : Launch) (Z : State) (a0 : Array Value) (hw : ∀ d ∈ tables_1, d.before a0 Z = true) (hEL : EW Z a0 consts_1) (z0 : Int32) (S0 : Sta Z Z.heap "java/lang/String" "COMPACT_STRINGS" "Z" (.int z0)) (hz0 : ¬ z0 = 0) (b d : Addr) (h0 : Heap) (n0 : Nat) (EB : Exa Z h0 b "java/lang/StringBuilder") (FV : Fld Z h0 b "java/lang/AbstractStringBuilder" "value" "[B" (.ref d)) (FC : Fld Z h0 b "java/lang/AbstractStringBuilder" "coder" "B" (.int (0 : Int32))) :
    Ct l Z consts_1 [] (⟨"java/lang/AbstractStringBuilder", "isLatin1", "()Z"⟩ : MethodName) jdk_68_method_68_code 1 (some .boolean) ({ frames := 0, cells := 0, slots := 0, locals := 0 } : Room) #[(.ref b)] h0 n0 [] (fun v _ => v = some (.int 1)) := by
  have w : ∀ {d : Jvm.Cond} (i : Nat), tables_1[i]? = some d → d.before a0 Z = true := fun i q => hw _ (List.mem_of_getElem? q)
  refine Ct.enter (plainFor_of_name pn_2) hEL ?_
  intro p e sS m below meth c T0 hby hml0 hret hlk hnm hs0 X0
  have hml : c.maxLocals = 1 := hml0
  have D : ∀ {pc : Nat} {r : Except DecodeError (Instr × Nat)}, decode jdk_68_method_68_code pc = r → decode c.code pc = r := fun q => hb hby q
  rw [show entryFrame m #[(.ref b)] 1 = mkF m 0 #[.val (.ref b)] [] from by first | (simp [entryFrame, mkF, argsToLocals, Value.category]; done) | rfl]
  refine X0.gets (w 104 rfl) Via.refl (Sta.ext X0.old.2 S0) (D d32_0) ?_
  intro T553 X554
  show Goes p.tables e below _ (T553.setTop (mkF m 3 #[.val (.ref b)] [(.int z0)]))
  refine X554.if_eq 17 (D d32_3) ⟨by decide, by decide⟩ (fun hc => (hz0 hc).elim) (fun hn555 => ?_)
  refine X554.aloadN (x := (.ref b)) (D d32_6) rfl rfl ?_
  refine X554.getf (w 107 rfl) Via.refl FC (D d32_7) ?_
  intro T556 X557
  show Goes p.tables e below _ (T556.setTop (mkF m 10 #[.val (.ref b)] [(.int (0 : Int32))]))
  refine X557.if_ne 17 (D d32_10) ⟨by decide, by decide⟩ (fun hc558 => absurd hc558 (by decide)) (fun hc558 => ?_)
  refine X557.iconst (x := (1 : Int32)) (D d32_13) rfl ?_
  refine X557.goto 18 (D d32_14) ⟨by decide, by decide⟩ ?_
  exact X557.reti hret (by simp) hlk (D d32_18) (by decide) (by decide) (rfl)
theorem d31_0 : decode jdk_68_method_6_code 0 = .ok (.aload_n 0, 1) := by decide +kernel
theorem d31_1 : decode jdk_68_method_6_code 1 = .ok (.getfield 79, 3) := by decide +kernel
theorem d31_4 : decode jdk_68_method_6_code 4 = .ok (.ireturn, 1) := by decide +kernel
set_option maxRecDepth 65536 in
set_option maxHeartbeats 40000000 in
theorem ctAL10 (l : Launch) (Z : State) (a0 : Array Value) (hw : ∀ d ∈ tables_1, d.before a0 Z = true) (hEL : EW Z a0 consts_1) (z0 : Int32) (S0 : Sta Z Z.heap "java/lang/String" "COMPACT_STRINGS" "Z" (.int z0)) (hz0 : ¬ z0 = 0) (b d : Addr) (h0 : Heap) (n0 : Nat) (EB : Exa Z h0 b "java/lang/StringBuilder") (FV : Fld Z h0 b "java/lang/AbstractStringBuilder" "value" "[B" (.ref d)) (FC : Fld Z h0 b "java/lang/AbstractStringBuilder" "coder" "B" (.int (0 : Int32))) (FN : Fld Z h0 b "java/lang/AbstractStringBuilder" "count" "I" (.int (10 : Int32))) :
    Ct l Z consts_1 [] (⟨"java/lang/AbstractStringBuilder", "length", "()I"⟩ : MethodName) jdk_68_method_6_code 1 (some .int) ({ frames := 0, cells := 0, slots := 0, locals := 0 } : Room) #[(.ref b)] h0 n0 [] (fun v _ => v = some (.int (10 : Int32))) := by
  have w : ∀ {d : Jvm.Cond} (i : Nat), tables_1[i]? = some d → d.before a0 Z = true := fun i q => hw _ (List.mem_of_getElem? q)
  refine Ct.enter (plainFor_of_name pn_2) hEL ?_
  intro p e sS m below meth c T0 hby hml0 hret hlk hnm hs0 X0
  have hml : c.maxLocals = 1 := hml0
  have D : ∀ {pc : Nat} {r : Except DecodeError (Instr × Nat)}, decode jdk_68_method_6_code pc = r → decode c.code pc = r := fun q => hb hby q
  rw [show entryFrame m #[(.ref b)] 1 = mkF m 0 #[.val (.ref b)] [] from by first | (simp [entryFrame, mkF, argsToLocals, Value.category]; done) | rfl]
  refine X0.aloadN (x := (.ref b)) (D d31_0) rfl rfl ?_
  refine X0.getf (w 130 rfl) Via.refl FN (D d31_1) ?_
  intro T559 X560
  show Goes p.tables e below _ (T559.setTop (mkF m 4 #[.val (.ref b)] [(.int (10 : Int32))]))
  exact X560.retI hret hlk (D d31_4) (by decide) (by decide) (rfl)
theorem d30_0 : decode jdk_67_method_93_code 0 = .ok (.aload_n 0, 1) := by decide +kernel
theorem d30_1 : decode jdk_67_method_93_code 1 = .ok (.invokespecial 343, 3) := by decide +kernel
theorem d30_4 : decode jdk_67_method_93_code 4 = .ok (.ireturn, 1) := by decide +kernel
set_option maxRecDepth 65536 in
set_option maxHeartbeats 40000000 in
theorem ctSL10 (l : Launch) (Z : State) (a0 : Array Value) (hw : ∀ d ∈ tables_1, d.before a0 Z = true) (hEL : EW Z a0 consts_1) (z0 : Int32) (S0 : Sta Z Z.heap "java/lang/String" "COMPACT_STRINGS" "Z" (.int z0)) (hz0 : ¬ z0 = 0) (b d : Addr) (h0 : Heap) (n0 : Nat) (EB : Exa Z h0 b "java/lang/StringBuilder") (FV : Fld Z h0 b "java/lang/AbstractStringBuilder" "value" "[B" (.ref d)) (FC : Fld Z h0 b "java/lang/AbstractStringBuilder" "coder" "B" (.int (0 : Int32))) (FN : Fld Z h0 b "java/lang/AbstractStringBuilder" "count" "I" (.int (10 : Int32))) :
    Ct l Z consts_1 [] (⟨"java/lang/StringBuilder", "length", "()I"⟩ : MethodName) jdk_67_method_93_code 1 (some .int) ({ frames := 1, cells := 0, slots := 0, locals := 12 } : Room) #[(.ref b)] h0 n0 [] (fun v _ => v = some (.int (10 : Int32))) := by
  have w : ∀ {d : Jvm.Cond} (i : Nat), tables_1[i]? = some d → d.before a0 Z = true := fun i q => hw _ (List.mem_of_getElem? q)
  refine Ct.enter (plainFor_of_name pn_3) hEL ?_
  intro p e sS m below meth c T0 hby hml0 hret hlk hnm hs0 X0
  have hml : c.maxLocals = 1 := hml0
  have D : ∀ {pc : Nat} {r : Except DecodeError (Instr × Nat)}, decode jdk_67_method_93_code pc = r → decode c.code pc = r := fun q => hb hby q
  rw [show entryFrame m #[(.ref b)] 1 = mkF m 0 #[.val (.ref b)] [] from by first | (simp [entryFrame, mkF, argsToLocals, Value.category]; done) | rfl]
  refine X0.aloadN (x := (.ref b)) (D d30_0) rfl rfl ?_
  refine X0.callu (a := b) [] [] (ctAL10 l Z a0 hw hEL z0 S0 hz0 b d _ _ EB FV FC FN).toF EB (w 180 rfl) (smOf (w 176 rfl) (w 172 rfl) rfl (by decide)) (w 176 rfl) (w 117 rfl) (by decide) (w 101 rfl) (w 181 rfl) (fun _ q => nomatch q) (by decide) 0 (by decide) (by decide) (by decide) (lenOf pd_7 rfl) rfl (Nat.le_of_ble_eq_true rfl) (by rw [hml]; rfl) (D d30_1) ?_
  rintro T561 h562 _ _ X564 K565 hg566 ⟨rfl, rfl⟩
  have F567 := EB.keep K565
  have F568 := FV.keep K565 nin0
  have F569 := FC.keep K565 nin0
  have F570 := FN.keep K565 nin0
  show Goes p.tables e below _ (T561.setTop (mkF m 4 #[.val (.ref b)] [(.int (10 : Int32))]))
  exact X564.retI hret hlk (D d30_4) (by decide) (by decide) (rfl)
theorem d28_0 : decode jdk_42_method_150_code 0 = .ok (.aload_n 0, 1) := by decide +kernel
theorem d28_1 : decode jdk_42_method_150_code 1 = .ok (.invokespecial 1, 3) := by decide +kernel
theorem d28_4 : decode jdk_42_method_150_code 4 = .ok (.aload_n 1, 1) := by decide +kernel
theorem d28_5 : decode jdk_42_method_150_code 5 = .ok (.invokevirtual 552, 3) := by decide +kernel
theorem d28_8 : decode jdk_42_method_150_code 8 = .ok (.astore_n 3, 1) := by decide +kernel
theorem d28_9 : decode jdk_42_method_150_code 9 = .ok (.aload_n 1, 1) := by decide +kernel
theorem d28_10 : decode jdk_42_method_150_code 10 = .ok (.invokevirtual 549, 3) := by decide +kernel
theorem d28_13 : decode jdk_42_method_150_code 13 = .ok (.istore 4, 2) := by decide +kernel
theorem d28_15 : decode jdk_42_method_150_code 15 = .ok (.aload_n 1, 1) := by decide +kernel
theorem d28_16 : decode jdk_42_method_150_code 16 = .ok (.invokevirtual 1047, 3) := by decide +kernel
theorem d28_19 : decode jdk_42_method_150_code 19 = .ok (.ifCond .eq 22, 3) := by decide +kernel
theorem d28_22 : decode jdk_42_method_150_code 22 = .ok (.aload_n 0, 1) := by decide +kernel
theorem d28_23 : decode jdk_42_method_150_code 23 = .ok (.iconst 0, 1) := by decide +kernel
theorem d28_24 : decode jdk_42_method_150_code 24 = .ok (.putfield 15, 3) := by decide +kernel
theorem d28_27 : decode jdk_42_method_150_code 27 = .ok (.aload_n 0, 1) := by decide +kernel
theorem d28_28 : decode jdk_42_method_150_code 28 = .ok (.aload_n 3, 1) := by decide +kernel
theorem d28_29 : decode jdk_42_method_150_code 29 = .ok (.iconst 0, 1) := by decide +kernel
theorem d28_30 : decode jdk_42_method_150_code 30 = .ok (.iload 4, 2) := by decide +kernel
theorem d28_32 : decode jdk_42_method_150_code 32 = .ok (.invokestatic 54, 3) := by decide +kernel
theorem d28_35 : decode jdk_42_method_150_code 35 = .ok (.putfield 9, 3) := by decide +kernel
theorem d28_38 : decode jdk_42_method_150_code 38 = .ok (.goto 59, 3) := by decide +kernel
theorem d28_41 : decode jdk_42_method_150_code 41 = .ok (.getstatic 38, 3) := by decide +kernel
theorem d28_44 : decode jdk_42_method_150_code 44 = .ok (.ifCond .eq 35, 3) := by decide +kernel
theorem d28_47 : decode jdk_42_method_150_code 47 = .ok (.aload_n 1, 1) := by decide +kernel
theorem d28_48 : decode jdk_42_method_150_code 48 = .ok (.getfield 1048, 3) := by decide +kernel
theorem d28_51 : decode jdk_42_method_150_code 51 = .ok (.ifCond .eq 28, 3) := by decide +kernel
theorem d28_54 : decode jdk_42_method_150_code 54 = .ok (.aload_n 0, 1) := by decide +kernel
theorem d28_55 : decode jdk_42_method_150_code 55 = .ok (.aload_n 3, 1) := by decide +kernel
theorem d28_56 : decode jdk_42_method_150_code 56 = .ok (.iconst 0, 1) := by decide +kernel
theorem d28_57 : decode jdk_42_method_150_code 57 = .ok (.iload 4, 2) := by decide +kernel
theorem d28_59 : decode jdk_42_method_150_code 59 = .ok (.invokestatic 1051, 3) := by decide +kernel
theorem d28_62 : decode jdk_42_method_150_code 62 = .ok (.putfield 9, 3) := by decide +kernel
theorem d28_65 : decode jdk_42_method_150_code 65 = .ok (.aload_n 0, 1) := by decide +kernel
theorem d28_66 : decode jdk_42_method_150_code 66 = .ok (.aload_n 0, 1) := by decide +kernel
theorem d28_67 : decode jdk_42_method_150_code 67 = .ok (.getfield 9, 3) := by decide +kernel
theorem d28_70 : decode jdk_42_method_150_code 70 = .ok (.iload 4, 2) := by decide +kernel
theorem d28_72 : decode jdk_42_method_150_code 72 = .ok (.invokestatic 47, 3) := by decide +kernel
theorem d28_75 : decode jdk_42_method_150_code 75 = .ok (.putfield 15, 3) := by decide +kernel
theorem d28_78 : decode jdk_42_method_150_code 78 = .ok (.return_, 1) := by decide +kernel
theorem d28_79 : decode jdk_42_method_150_code 79 = .ok (.aload_n 0, 1) := by decide +kernel
theorem d28_80 : decode jdk_42_method_150_code 80 = .ok (.iconst 1, 1) := by decide +kernel
theorem d28_81 : decode jdk_42_method_150_code 81 = .ok (.putfield 15, 3) := by decide +kernel
theorem d28_84 : decode jdk_42_method_150_code 84 = .ok (.aload_n 0, 1) := by decide +kernel
theorem d28_85 : decode jdk_42_method_150_code 85 = .ok (.aload_n 3, 1) := by decide +kernel
theorem d28_86 : decode jdk_42_method_150_code 86 = .ok (.iconst 0, 1) := by decide +kernel
theorem d28_87 : decode jdk_42_method_150_code 87 = .ok (.iload 4, 2) := by decide +kernel
theorem d28_89 : decode jdk_42_method_150_code 89 = .ok (.iconst 1, 1) := by decide +kernel
theorem d28_90 : decode jdk_42_method_150_code 90 = .ok (.ishl, 1) := by decide +kernel
theorem d28_91 : decode jdk_42_method_150_code 91 = .ok (.invokestatic 54, 3) := by decide +kernel
theorem d28_94 : decode jdk_42_method_150_code 94 = .ok (.putfield 9, 3) := by decide +kernel
theorem d28_97 : decode jdk_42_method_150_code 97 = .ok (.return_, 1) := by decide +kernel
theorem pd_13 : parseMethodDescriptor "()[B" = some ⟨[], (some (.array .byte))⟩ := by decide +kernel
theorem pd_14 : parseMethodDescriptor "()Z" = some ⟨[], (some .boolean)⟩ := by decide +kernel
set_option maxRecDepth 65536 in
set_option maxHeartbeats 40000000 in
theorem ctIV10_16 (l : Launch) (Z : State) (a0 : Array Value) (hw : ∀ d ∈ tables_1, d.before a0 Z = true) (hEL : EW Z a0 consts_1) (z0 : Int32) (S0 : Sta Z Z.heap "java/lang/String" "COMPACT_STRINGS" "Z" (.int z0)) (hz0 : ¬ z0 = 0) (a b d : Addr) (kd : ClassId) (vd : List Value) (ds : List Int32) (h0 : Heap) (n0 : Nat) (EB : Exa Z h0 b "java/lang/StringBuilder") (FV : Fld Z h0 b "java/lang/AbstractStringBuilder" "value" "[B" (.ref d)) (FC : Fld Z h0 b "java/lang/AbstractStringBuilder" "coder" "B" (.int (0 : Int32))) (FN : Fld Z h0 b "java/lang/AbstractStringBuilder" "count" "I" (.int (10 : Int32))) (AD : Arv Z h0 d kd .byte (16 : Int32) vd (.int 0)) (hvd : vd.length = 16) (hp : ∀ c ∈ ds, ¬ c < 0 ∧ ¬ (255 : Int32) < c) (hds : ds.length = 10) (hxs : ((ds.map StrChars.lo8).map Value.int) = (List.range 10).map fun i => vd.getD (0 + i) (.int 0)) (E0 : Exa Z h0 a "java/lang/String") (F0 : Fld Z h0 a "java/lang/String" "value" "[B" .null) (F1 : Fld Z h0 a "java/lang/String" "coder" "B" (.int (0 : Int32))) :
    Ct l Z consts_1 [] (⟨"java/lang/String", "<init>", "(Ljava/lang/AbstractStringBuilder;Ljava/lang/Void;)V"⟩ : MethodName) jdk_42_method_150_code 5 none ({ frames := 3, cells := 1, slots := 10, locals := 49 } : Room) #[(.ref a), (.ref b), .null] h0 n0 [a] (fun v h => v = none ∧ ∃ t : Addr, OStr Z h a t ds) := by
  have w : ∀ {d : Jvm.Cond} (i : Nat), tables_1[i]? = some d → d.before a0 Z = true := fun i q => hw _ (List.mem_of_getElem? q)
  refine Ct.enter (plainFor_of_name pn_1) hEL ?_
  intro p e sS m below meth c T0 hby hml0 hret hlk hnm hs0 X0
  have hml : c.maxLocals = 5 := hml0
  have D : ∀ {pc : Nat} {r : Except DecodeError (Instr × Nat)}, decode jdk_42_method_150_code pc = r → decode c.code pc = r := fun q => hb hby q
  rw [show entryFrame m #[(.ref a), (.ref b), .null] 5 = mkF m 0 #[.val (.ref a), .val (.ref b), .val .null, .unset, .unset] [] from by first | (simp [entryFrame, mkF, argsToLocals, Value.category]; done) | rfl]
  refine X0.aloadN (x := (.ref a)) (D d28_0) rfl rfl ?_
  refine X0.inito (w 11 rfl) (w 12 rfl) (w 13 rfl) (D d28_1) (by rw [hml]; rfl) (by decide) 0 (Nat.le_of_ble_eq_true rfl) (by decide) ?_
  intro T571 X572
  show Goes p.tables e below _ (T571.setTop (mkF m 4 #[.val (.ref a), .val (.ref b), .val .null, .unset, .unset] []))
  refine X572.aloadN (x := (.ref b)) (D d28_4) rfl rfl ?_
  refine X572.callvF (y := (⟨"java/lang/AbstractStringBuilder", "getValue", "()[B"⟩ : MethodName)) (z := (⟨"java/lang/AbstractStringBuilder", "getValue", "()[B"⟩ : MethodName)) (a := b) (C := "java/lang/StringBuilder") [] [] (ctGV l Z a0 hw hEL z0 S0 hz0 b d _ _ EB FV FC).toF EB (w 169 rfl) (w 170 rfl) (w 172 rfl) (w 171 rfl) (nfOf (w 172 rfl) rfl) (w 101 rfl) (w 173 rfl) (by decide) (fun _ q => nomatch q) (by decide) 0 (by decide) (by decide) (by decide) (lenOf pd_13 rfl) rfl (Nat.le_of_ble_eq_true rfl) (by rw [hml]; rfl) (D d28_5) ?_
  rintro T573 h574 _ _ X576 K577 hg578 ⟨rfl, rfl⟩
  have F579 := EB.keep K577
  have F580 := FV.keep K577 nin0
  have F581 := FC.keep K577 nin0
  have F582 := FN.keep K577 nin0
  have F583 := AD.keep K577 nin0
  have F584 := E0.keep K577
  have F585 := F0.keep K577 nin0
  have F586 := F1.keep K577 nin0
  show Goes p.tables e below _ (T573.setTop (mkF m 8 #[.val (.ref a), .val (.ref b), .val .null, .unset, .unset] [(.ref d)]))
  refine X576.astoreN #[.val (.ref a), .val (.ref b), .val .null, .val (.ref d), .unset] (D d28_8) rfl rfl ?_
  refine X576.aloadN (x := (.ref b)) (D d28_9) rfl rfl ?_
  refine X576.callvF (y := (⟨"java/lang/AbstractStringBuilder", "length", "()I"⟩ : MethodName)) (z := (⟨"java/lang/StringBuilder", "length", "()I"⟩ : MethodName)) (a := b) (C := "java/lang/StringBuilder") [] [] (ctSL10 l Z a0 hw hEL z0 S0 hz0 b d _ _ F579 F580 F581 F582).toF F579 (w 174 rfl) (w 175 rfl) (w 177 rfl) (w 178 rfl) (nfOf (w 172 rfl) rfl) (w 93 rfl) (w 179 rfl) (by decide) (fun _ q => nomatch q) (by decide) 0 (by decide) (by decide) (by decide) (lenOf pd_7 rfl) rfl (Nat.le_of_ble_eq_true rfl) (by rw [hml]; rfl) (D d28_10) ?_
  rintro T587 h588 _ _ X590 K591 hg592 ⟨rfl, rfl⟩
  have F593 := F579.keep K591
  have F594 := F580.keep K591 nin0
  have F595 := F581.keep K591 nin0
  have F596 := F582.keep K591 nin0
  have F597 := F583.keep K591 nin0
  have F598 := F584.keep K591
  have F599 := F585.keep K591 nin0
  have F600 := F586.keep K591 nin0
  show Goes p.tables e below _ (T587.setTop (mkF m 13 #[.val (.ref a), .val (.ref b), .val .null, .val (.ref d), .unset] [(.int (10 : Int32))]))
  refine X590.istore #[.val (.ref a), .val (.ref b), .val .null, .val (.ref d), .val (.int (10 : Int32))] (D d28_13) rfl ?_
  refine X590.aloadN (x := (.ref b)) (D d28_15) rfl rfl ?_
  refine X590.callvF (y := (⟨"java/lang/AbstractStringBuilder", "isLatin1", "()Z"⟩ : MethodName)) (z := (⟨"java/lang/AbstractStringBuilder", "isLatin1", "()Z"⟩ : MethodName)) (a := b) (C := "java/lang/StringBuilder") [] [] (ctIL l Z a0 hw hEL z0 S0 hz0 b d _ _ F593 F594 F595).toF F593 (w 182 rfl) (w 183 rfl) (w 185 rfl) (w 184 rfl) (nfOf (w 185 rfl) rfl) (w 101 rfl) (w 186 rfl) (by decide) (fun _ q => nomatch q) (by decide) 0 (by decide) (by decide) (by decide) (lenOf pd_14 rfl) rfl (Nat.le_of_ble_eq_true rfl) (by rw [hml]; rfl) (D d28_16) ?_
  rintro T601 h602 _ _ X604 K605 hg606 ⟨rfl, rfl⟩
  have F607 := F593.keep K605
  have F608 := F594.keep K605 nin0
  have F609 := F595.keep K605 nin0
  have F610 := F596.keep K605 nin0
  have F611 := F597.keep K605 nin0
  have F612 := F598.keep K605
  have F613 := F599.keep K605 nin0
  have F614 := F600.keep K605 nin0
  show Goes p.tables e below _ (T601.setTop (mkF m 19 #[.val (.ref a), .val (.ref b), .val .null, .val (.ref d), .val (.int (10 : Int32))] [(.int (1 : Int32))]))
  refine X604.if_eq 41 (D d28_19) ⟨by decide, by decide⟩ (fun hc615 => absurd hc615 (by decide)) (fun hc615 => ?_)
  refine X604.aloadN (x := (.ref a)) (D d28_22) rfl rfl ?_
  refine X604.iconst (x := (0 : Int32)) (D d28_23) rfl ?_
  refine X604.putf (w 21 rfl) Via.refl F614 F612 (Or.inr ⟨(w 17 rfl), rfl, hnm⟩) (w 2 rfl) (ty := .byte) (by decide) rfl rfl (D d28_24) (by simp) ?_
  intro T616 h617 X618 W619
  have F620 := F614.same W619
  have F621 := F607.wr W619
  have F622 := F608.other W619 (Or.inl (Exa.ne F607 F612 (by decide)))
  have F623 := F609.other W619 (Or.inl (Exa.ne F607 F612 (by decide)))
  have F624 := F610.other W619 (Or.inl (Exa.ne F607 F612 (by decide)))
  have F625 := F611.other W619 (Exa.neArv F612 F611 (w 2 rfl)).symm
  have F626 := F612.wr W619
  have F627 := F613.other W619 (Or.inr (slot_ne (t := (.array .byte)) (t' := .byte) (Or.inr (w 16 rfl)) (Or.inr (w 17 rfl)) (by decide) (by decide) (by decide)))
  show Goes p.tables e below _ (T616.setTop (mkF m 27 #[.val (.ref a), .val (.ref b), .val .null, .val (.ref d), .val (.int (10 : Int32))] []))
  refine X618.aloadN (x := (.ref a)) (D d28_27) rfl rfl ?_
  refine X618.aloadN (x := (.ref d)) (D d28_28) rfl rfl ?_
  refine X618.iconst (x := (0 : Int32)) (D d28_29) rfl ?_
  refine X618.iload (x := (10 : Int32)) (D d28_30) rfl ?_
  refine X618.callsF [(.ref d), (.int (0 : Int32)), (.int (10 : Int32))] [(.ref a)] (ctCR10_16 l Z a0 hw hEL z0 S0 hz0 d kd vd _ _ _ F625 hxs).toF (w 187 rfl) (w 188 rfl) (w 189 rfl) (w 190 rfl) (by decide) (fun _ q => nomatch q) (by decide) 1 (by decide) (by decide) (by decide) (lenOf pd_12 rfl) rfl (Nat.le_of_ble_eq_true rfl) (by rw [hml]; rfl) (D d28_32) ?_
  rintro T628 h629 _ _ X631 K632 hg633 ⟨rfl, r, kr, rfl, A1⟩
  have F634 := F621.keep K632
  have F635 := F622.keep K632 nin0
  have F636 := F623.keep K632 nin0
  have F637 := F624.keep K632 nin0
  have F638 := F625.keep K632 nin0
  have F639 := F626.keep K632
  have F640 := F627.keep K632 nin0
  have F641 := F620.keep K632 nin0
  show Goes p.tables e below _ (T628.setTop (mkF m 35 #[.val (.ref a), .val (.ref b), .val .null, .val (.ref d), .val (.int (10 : Int32))] [(.ref r), (.ref a)]))
  refine X631.putf (w 20 rfl) Via.refl F640 F639 (Or.inr ⟨(w 16 rfl), rfl, hnm⟩) (w 2 rfl) (ty := (.array .byte)) (by decide) rfl rfl (D d28_35) (by simp) ?_
  intro T642 h643 X644 W645
  have F646 := F640.same W645
  have F647 := F634.wr W645
  have F648 := F635.other W645 (Or.inl (Exa.ne F634 F639 (by decide)))
  have F649 := F636.other W645 (Or.inl (Exa.ne F634 F639 (by decide)))
  have F650 := F637.other W645 (Or.inl (Exa.ne F634 F639 (by decide)))
  have F651 := F638.other W645 (Exa.neArv F639 F638 (w 2 rfl)).symm
  have F652 := F639.wr W645
  have F653 := F641.other W645 (Or.inr (slot_ne (t := .byte) (t' := (.array .byte)) (Or.inr (w 17 rfl)) (Or.inr (w 16 rfl)) (by decide) (by decide) (by decide)))
  have F654 := A1.other W645 (Exa.neArv F639 A1 (w 2 rfl)).symm
  show Goes p.tables e below _ (T642.setTop (mkF m 38 #[.val (.ref a), .val (.ref b), .val .null, .val (.ref d), .val (.int (10 : Int32))] []))
  refine X644.goto 97 (D d28_38) ⟨by decide, by decide⟩ ?_
  exact X644.retn hret hlk (D d28_97) (by decide) (by decide) (⟨rfl, r, OStr.mk F652 F646 F653 (by rw [hds]; exact F654) hp (by rw [hds]; decide)⟩)
theorem d27_0 : decode jdk_42_method_53_code 0 = .ok (.aload_n 0, 1) := by decide +kernel
theorem d27_1 : decode jdk_42_method_53_code 1 = .ok (.aload_n 1, 1) := by decide +kernel
theorem d27_2 : decode jdk_42_method_53_code 2 = .ok (.aconst_null, 1) := by decide +kernel
theorem d27_3 : decode jdk_42_method_53_code 3 = .ok (.invokespecial 489, 3) := by decide +kernel
theorem d27_6 : decode jdk_42_method_53_code 6 = .ok (.return_, 1) := by decide +kernel
theorem pd_15 : parseMethodDescriptor "(Ljava/lang/AbstractStringBuilder;Ljava/lang/Void;)V" = some ⟨[(.object "java/lang/AbstractStringBuilder"), (.object "java/lang/Void")], none⟩ := by decide +kernel
set_option maxRecDepth 65536 in
set_option maxHeartbeats 40000000 in
theorem ctIS10_16 (l : Launch) (Z : State) (a0 : Array Value) (hw : ∀ d ∈ tables_1, d.before a0 Z = true) (hEL : EW Z a0 consts_1) (z0 : Int32) (S0 : Sta Z Z.heap "java/lang/String" "COMPACT_STRINGS" "Z" (.int z0)) (hz0 : ¬ z0 = 0) (a b d : Addr) (kd : ClassId) (vd : List Value) (ds : List Int32) (h0 : Heap) (n0 : Nat) (EB : Exa Z h0 b "java/lang/StringBuilder") (FV : Fld Z h0 b "java/lang/AbstractStringBuilder" "value" "[B" (.ref d)) (FC : Fld Z h0 b "java/lang/AbstractStringBuilder" "coder" "B" (.int (0 : Int32))) (FN : Fld Z h0 b "java/lang/AbstractStringBuilder" "count" "I" (.int (10 : Int32))) (AD : Arv Z h0 d kd .byte (16 : Int32) vd (.int 0)) (hvd : vd.length = 16) (hp : ∀ c ∈ ds, ¬ c < 0 ∧ ¬ (255 : Int32) < c) (hds : ds.length = 10) (hxs : ((ds.map StrChars.lo8).map Value.int) = (List.range 10).map fun i => vd.getD (0 + i) (.int 0)) (E0 : Exa Z h0 a "java/lang/String") (F0 : Fld Z h0 a "java/lang/String" "value" "[B" .null) (F1 : Fld Z h0 a "java/lang/String" "coder" "B" (.int (0 : Int32))) :
    Ct l Z consts_1 [] (⟨"java/lang/String", "<init>", "(Ljava/lang/StringBuilder;)V"⟩ : MethodName) jdk_42_method_53_code 2 none ({ frames := 4, cells := 1, slots := 10, locals := 65 } : Room) #[(.ref a), (.ref b)] h0 n0 [a] (fun v h => v = none ∧ ∃ t : Addr, OStr Z h a t ds) := by
  have w : ∀ {d : Jvm.Cond} (i : Nat), tables_1[i]? = some d → d.before a0 Z = true := fun i q => hw _ (List.mem_of_getElem? q)
  refine Ct.enter (plainFor_of_name pn_1) hEL ?_
  intro p e sS m below meth c T0 hby hml0 hret hlk hnm hs0 X0
  have hml : c.maxLocals = 2 := hml0
  have D : ∀ {pc : Nat} {r : Except DecodeError (Instr × Nat)}, decode jdk_42_method_53_code pc = r → decode c.code pc = r := fun q => hb hby q
  rw [show entryFrame m #[(.ref a), (.ref b)] 2 = mkF m 0 #[.val (.ref a), .val (.ref b)] [] from by first | (simp [entryFrame, mkF, argsToLocals, Value.category]; done) | rfl]
  refine X0.aloadN (x := (.ref a)) (D d27_0) rfl rfl ?_
  refine X0.aloadN (x := (.ref b)) (D d27_1) rfl rfl ?_
  refine X0.anull (D d27_2) ?_
  refine X0.callcF (a := a) [(.ref b), .null] [] (ctIV10_16 l Z a0 hw hEL z0 S0 hz0 a b d kd vd ds _ _ EB FV FC FN AD hvd hp hds hxs E0 F0 F1).toF rfl (w 166 rfl) (w 167 rfl) (w 3 rfl) (w 168 rfl) (by decide) (by simp) (by decide) 0 (by decide) (by decide) (by decide) (lenOf pd_15 rfl) rfl (Nat.le_of_ble_eq_true rfl) (by rw [hml]; rfl) (D d27_3) ?_
  rintro T655 h656 _ _ X658 K659 hg660 ⟨rfl, rfl, t, O⟩
  have F661 := EB.keep K659
  have F662 := FV.keep K659 (ninS (Exa.ne EB E0 (by decide)) nin0)
  have F663 := FC.keep K659 (ninS (Exa.ne EB E0 (by decide)) nin0)
  have F664 := FN.keep K659 (ninS (Exa.ne EB E0 (by decide)) nin0)
  have F665 := AD.keep K659 (ninS (Exa.neArv E0 AD (w 2 rfl)).symm nin0)
  have F666 := E0.keep K659
  show Goes p.tables e below _ (T655.setTop (mkF m 6 #[.val (.ref a), .val (.ref b)] []))
  exact X658.retn hret hlk (D d27_6) (by decide) (by decide) (⟨rfl, t, O⟩)
theorem d26_0 : decode jdk_67_method_42_code 0 = .ok (.new 18, 3) := by decide +kernel
theorem d26_3 : decode jdk_67_method_42_code 3 = .ok (.dup, 1) := by decide +kernel
theorem d26_4 : decode jdk_67_method_42_code 4 = .ok (.aload_n 0, 1) := by decide +kernel
theorem d26_5 : decode jdk_67_method_42_code 5 = .ok (.invokespecial 137, 3) := by decide +kernel
theorem d26_8 : decode jdk_67_method_42_code 8 = .ok (.areturn, 1) := by decide +kernel
theorem pd_16 : parseMethodDescriptor "(Ljava/lang/StringBuilder;)V" = some ⟨[(.object "java/lang/StringBuilder")], none⟩ := by decide +kernel
set_option maxRecDepth 65536 in
set_option maxHeartbeats 40000000 in
theorem ctTS10_16 (l : Launch) (Z : State) (a0 : Array Value) (hw : ∀ d ∈ tables_1, d.before a0 Z = true) (hEL : EW Z a0 consts_1) (z0 : Int32) (S0 : Sta Z Z.heap "java/lang/String" "COMPACT_STRINGS" "Z" (.int z0)) (hz0 : ¬ z0 = 0) (b d : Addr) (kd : ClassId) (vd : List Value) (ds : List Int32) (h0 : Heap) (n0 : Nat) (EB : Exa Z h0 b "java/lang/StringBuilder") (FV : Fld Z h0 b "java/lang/AbstractStringBuilder" "value" "[B" (.ref d)) (FC : Fld Z h0 b "java/lang/AbstractStringBuilder" "coder" "B" (.int (0 : Int32))) (FN : Fld Z h0 b "java/lang/AbstractStringBuilder" "count" "I" (.int (10 : Int32))) (AD : Arv Z h0 d kd .byte (16 : Int32) vd (.int 0)) (hvd : vd.length = 16) (hp : ∀ c ∈ ds, ¬ c < 0 ∧ ¬ (255 : Int32) < c) (hds : ds.length = 10) (hxs : ((ds.map StrChars.lo8).map Value.int) = (List.range 10).map fun i => vd.getD (0 + i) (.int 0)) :
    Ct l Z consts_1 [] (⟨"java/lang/StringBuilder", "toString", "()Ljava/lang/String;"⟩ : MethodName) jdk_67_method_42_code 1 (some (.object "java/lang/String")) ({ frames := 5, cells := 2, slots := 14, locals := 79 } : Room) #[(.ref b)] h0 n0 [] (fun v h => ∃ s t : Addr, v = some (.ref s) ∧ OStr Z h s t ds) := by
  have w : ∀ {d : Jvm.Cond} (i : Nat), tables_1[i]? = some d → d.before a0 Z = true := fun i q => hw _ (List.mem_of_getElem? q)
  refine Ct.enter (plainFor_of_name pn_3) hEL ?_
  intro p e sS m below meth c T0 hby hml0 hret hlk hnm hs0 X0
  have hml : c.maxLocals = 1 := hml0
  have D : ∀ {pc : Nat} {r : Except DecodeError (Instr × Nat)}, decode jdk_67_method_42_code pc = r → decode c.code pc = r := fun q => hb hby q
  rw [show entryFrame m #[(.ref b)] 1 = mkF m 0 #[.val (.ref b)] [] from by first | (simp [entryFrame, mkF, argsToLocals, Value.category]; done) | rfl]
  refine X0.new (w 162 rfl) (w 2 rfl) (w 3 rfl) (D d26_0) (by decide) (by decide) ?_
  intro T667 h668 b669 g670 X671 E672 A673 D674 U675
  have F676 := EB.ext E672
  have F677 := FV.ext E672
  have F678 := FC.ext E672
  have F679 := FN.ext E672
  have F680 := AD.ext E672
  have lt681 : b < b669 := by rw [g670]; exact EB.lt
  have lt682 : d < b669 := by rw [g670]; exact AD.lt
  have F683 : Fld Z h668 b669 "java/lang/String" "value" "[B" .null := D674 (Or.inr (w 16 rfl)) (ty := (.array .byte)) (by decide)
  have F684 : Fld Z h668 b669 "java/lang/String" "coder" "B" (.int (0 : Int32)) := D674 (Or.inr (w 17 rfl)) (ty := .byte) (by decide)
  show Goes p.tables e below _ (T667.setTop (mkF m 3 #[.val (.ref b)] [(.ref b669)]))
  refine X671.dup (D d26_3) rfl ?_
  refine X671.aloadN (x := (.ref b)) (D d26_4) rfl rfl ?_
  refine X671.callcF (a := b669) [(.ref b)] [(.ref b669)] (ctIS10_16 l Z a0 hw hEL z0 S0 hz0 b669 b d kd vd ds _ _ F676 F677 F678 F679 F680 hvd hp hds hxs A673 F683 F684).toF rfl (w 163 rfl) (w 164 rfl) (w 3 rfl) (w 165 rfl) (by decide) (by simp) (by decide) 1 (by decide) (by decide) (by decide) (lenOf pd_16 rfl) rfl (Nat.le_of_ble_eq_true rfl) (by rw [hml]; rfl) (D d26_5) ?_
  rintro T685 h686 _ _ X688 K689 hg690 ⟨rfl, rfl, t, O⟩
  have F691 := F676.keep K689
  have F692 := F677.keep K689 (ninS (Nat.ne_of_lt lt681) nin0)
  have F693 := F678.keep K689 (ninS (Nat.ne_of_lt lt681) nin0)
  have F694 := F679.keep K689 (ninS (Nat.ne_of_lt lt681) nin0)
  have F695 := F680.keep K689 (ninS (Nat.ne_of_lt lt682) nin0)
  have F696 := A673.keep K689
  show Goes p.tables e below _ (T685.setTop (mkF m 8 #[.val (.ref b)] [(.ref b669)]))
  exact X688.retA hret rfl rfl hlk (D d26_8) (by decide) (by decide) (⟨_, t, rfl, O⟩)
theorem d15_0 : decode prog_6_method_6_code 0 = .ok (.aload_n 0, 1) := by decide +kernel
theorem d15_1 : decode prog_6_method_6_code 1 = .ok (.getfield 21, 3) := by decide +kernel
theorem d15_4 : decode prog_6_method_6_code 4 = .ok (.ifCond .eq 29, 3) := by decide +kernel
theorem d15_7 : decode prog_6_method_6_code 7 = .ok (.new 71, 3) := by decide +kernel
theorem d15_10 : decode prog_6_method_6_code 10 = .ok (.dup, 1) := by decide +kernel
theorem d15_11 : decode prog_6_method_6_code 11 = .ok (.invokespecial 73, 3) := by decide +kernel
theorem d15_14 : decode prog_6_method_6_code 14 = .ok (.ldc 74, 2) := by decide +kernel
theorem d15_16 : decode prog_6_method_6_code 16 = .ok (.invokevirtual 76, 3) := by decide +kernel
theorem d15_19 : decode prog_6_method_6_code 19 = .ok (.aload_n 0, 1) := by decide +kernel
theorem d15_20 : decode prog_6_method_6_code 20 = .ok (.getfield 7, 3) := by decide +kernel
theorem d15_23 : decode prog_6_method_6_code 23 = .ok (.invokevirtual 76, 3) := by decide +kernel
theorem d15_26 : decode prog_6_method_6_code 26 = .ok (.invokevirtual 80, 3) := by decide +kernel
theorem d15_29 : decode prog_6_method_6_code 29 = .ok (.astore_n 1, 1) := by decide +kernel
theorem d15_30 : decode prog_6_method_6_code 30 = .ok (.goto 51, 3) := by decide +kernel
theorem d15_33 : decode prog_6_method_6_code 33 = .ok (.aload_n 0, 1) := by decide +kernel
theorem d15_34 : decode prog_6_method_6_code 34 = .ok (.getfield 17, 3) := by decide +kernel
theorem d15_37 : decode prog_6_method_6_code 37 = .ok (.ifnonnull 9, 3) := by decide +kernel
theorem d15_40 : decode prog_6_method_6_code 40 = .ok (.ldc 84, 2) := by decide +kernel
theorem d15_42 : decode prog_6_method_6_code 42 = .ok (.astore_n 1, 1) := by decide +kernel
theorem d15_43 : decode prog_6_method_6_code 43 = .ok (.goto 38, 3) := by decide +kernel
theorem d15_46 : decode prog_6_method_6_code 46 = .ok (.new 71, 3) := by decide +kernel
theorem d15_49 : decode prog_6_method_6_code 49 = .ok (.dup, 1) := by decide +kernel
theorem d15_50 : decode prog_6_method_6_code 50 = .ok (.invokespecial 73, 3) := by decide +kernel
theorem d15_53 : decode prog_6_method_6_code 53 = .ok (.ldc 86, 2) := by decide +kernel
theorem d15_55 : decode prog_6_method_6_code 55 = .ok (.invokevirtual 76, 3) := by decide +kernel
theorem d15_58 : decode prog_6_method_6_code 58 = .ok (.aload_n 0, 1) := by decide +kernel
theorem d15_59 : decode prog_6_method_6_code 59 = .ok (.getfield 7, 3) := by decide +kernel
theorem d15_62 : decode prog_6_method_6_code 62 = .ok (.invokevirtual 76, 3) := by decide +kernel
theorem d15_65 : decode prog_6_method_6_code 65 = .ok (.ldc 88, 2) := by decide +kernel
theorem d15_67 : decode prog_6_method_6_code 67 = .ok (.invokevirtual 76, 3) := by decide +kernel
theorem d15_70 : decode prog_6_method_6_code 70 = .ok (.aload_n 0, 1) := by decide +kernel
theorem d15_71 : decode prog_6_method_6_code 71 = .ok (.getfield 13, 3) := by decide +kernel
theorem d15_74 : decode prog_6_method_6_code 74 = .ok (.invokevirtual 90, 3) := by decide +kernel
theorem d15_77 : decode prog_6_method_6_code 77 = .ok (.invokevirtual 80, 3) := by decide +kernel
theorem d15_80 : decode prog_6_method_6_code 80 = .ok (.astore_n 1, 1) := by decide +kernel
theorem d15_81 : decode prog_6_method_6_code 81 = .ok (.aload_n 1, 1) := by decide +kernel
theorem d15_82 : decode prog_6_method_6_code 82 = .ok (.areturn, 1) := by decide +kernel
theorem pd_17 : parseMethodDescriptor "(Ljava/lang/String;)Ljava/lang/StringBuilder;" = some ⟨[(.object "java/lang/String")], (some (.object "java/lang/StringBuilder"))⟩ := by decide +kernel
theorem pd_18 : parseMethodDescriptor "()Ljava/lang/String;" = some ⟨[], (some (.object "java/lang/String"))⟩ := by decide +kernel
set_option maxRecDepth 65536 in
set_option maxHeartbeats 40000000 in
theorem ctEx0 (l : Launch) (Z : State) (a0 : Array Value) (hw : ∀ d ∈ tables_1, d.before a0 Z = true) (hEL : EW Z a0 consts_1) (z0 : Int32) (S0 : Sta Z Z.heap "java/lang/String" "COMPACT_STRINGS" "Z" (.int z0)) (hz0 : ¬ z0 = 0) (a r tr : Addr) (h0 : Heap) (n0 : Nat) (EA : Exa Z h0 a "com/example/greylag/greylag/Decision") (F0 : Fld Z h0 a "com/example/greylag/greylag/Decision" "role" "Ljava/lang/String;" (.ref r)) (F3 : Fld Z h0 a "com/example/greylag/greylag/Decision" "bypass" "Z" (.int (1 : Int32))) (OR : OStr Z h0 r tr ([] : List Int32)) :
    Ct l Z consts_1 [] (⟨"com/example/greylag/greylag/Decision", "explanation", "()Ljava/lang/String;"⟩ : MethodName) prog_6_method_6_code 2 (some (.object "java/lang/String")) ({ frames := 6, cells := 6, slots := 78, locals := 91 } : Room) #[(.ref a)] h0 n0 [] (fun v h => ∃ s t : Addr, v = some (.ref s) ∧ OStr Z h s t ([(98 : Int32), (121 : Int32), (32 : Int32), (98 : Int32), (121 : Int32), (112 : Int32), (97 : Int32), (115 : Int32), (115 : Int32), (32 : Int32)] ++ ([] : List Int32))) := by
  have w : ∀ {d : Jvm.Cond} (i : Nat), tables_1[i]? = some d → d.before a0 Z = true := fun i q => hw _ (List.mem_of_getElem? q)
  refine Ct.enter (plainFor_of_name pn_4) hEL ?_
  intro p e sS m below meth c T0 hby hml0 hret hlk hnm hs0 X0
  have hml : c.maxLocals = 2 := hml0
  have D : ∀ {pc : Nat} {r : Except DecodeError (Instr × Nat)}, decode prog_6_method_6_code pc = r → decode c.code pc = r := fun q => hb hby q
  rw [show entryFrame m #[(.ref a)] 2 = mkF m 0 #[.val (.ref a), .unset] [] from by first | (simp [entryFrame, mkF, argsToLocals, Value.category]; done) | rfl]
  refine X0.aloadN (x := (.ref a)) (D d15_0) rfl rfl ?_
  refine X0.getf (w 54 rfl) Via.refl F3 (D d15_1) ?_
  intro T697 X698
  show Goes p.tables e below _ (T697.setTop (mkF m 4 #[.val (.ref a), .unset] [(.int (1 : Int32))]))
  refine X698.if_eq 33 (D d15_4) ⟨by decide, by decide⟩ (fun hc699 => absurd hc699 (by decide)) (fun hc699 => ?_)
  refine X698.new (w 91 rfl) (w 92 rfl) (w 93 rfl) (D d15_7) (by decide) (by decide) ?_
  intro T700 h701 b702 g703 X704 E705 A706 D707 U708
  have F709 := EA.ext E705
  have F710 := F0.ext E705
  have F711 := F3.ext E705
  have F712 := OR.ext E705
  have lt713 : a < b702 := by rw [g703]; exact EA.lt
  have lt714 : r < b702 := by rw [g703]; exact OR.lt
  have lt715 : tr < b702 := by rw [g703]; exact OR.ltb
  have F716 : Fld Z h701 b702 "java/lang/AbstractStringBuilder" "value" "[B" .null := D707 (Or.inl (w 106 rfl)) (ty := (.array .byte)) (by decide)
  have F717 : Fld Z h701 b702 "java/lang/AbstractStringBuilder" "coder" "B" (.int (0 : Int32)) := D707 (Or.inl (w 108 rfl)) (ty := .byte) (by decide)
  have F718 : Fld Z h701 b702 "java/lang/AbstractStringBuilder" "count" "I" (.int (0 : Int32)) := D707 (Or.inl (w 131 rfl)) (ty := .int) (by decide)
  show Goes p.tables e below _ (T700.setTop (mkF m 10 #[.val (.ref a), .unset] [(.ref b702)]))
  refine X704.dup (D d15_10) rfl ?_
  refine X704.callcF (a := b702) [] [(.ref b702)] (ctSBi l Z a0 hw hEL z0 S0 hz0 b702 _ _ A706 F716 F717 F718) rfl (w 94 rfl) (w 95 rfl) (w 93 rfl) (w 96 rfl) (by decide) (by simp) (by decide) 1 (by decide) (by decide) (by decide) (lenOf pd_3 rfl) rfl (Nat.le_of_ble_eq_true rfl) (by rw [hml]; rfl) (D d15_11) ?_
  rintro T719 h720 _ _ X722 K723 hg724 ⟨d, kd, rfl, rfl, E1, V1, C1, N1, A1⟩
  have F725 := F709.keep K723
  have F726 := F710.keep K723 (ninS (Nat.ne_of_lt lt713) nin0)
  have F727 := F711.keep K723 (ninS (Nat.ne_of_lt lt713) nin0)
  have F728 := F712.keep K723 (ninS (Nat.ne_of_lt lt714) nin0) (ninS (Nat.ne_of_lt lt715) nin0)
  have F729 := A706.keep K723
  have fg730 := hg724 d (by simp)
  have lt731 : a < d := Nat.lt_of_lt_of_le F709.lt fg730
  have lt732 : r < d := Nat.lt_of_lt_of_le F712.lt fg730
  have lt733 : tr < d := Nat.lt_of_lt_of_le F712.ltb fg730
  have lt734 : b702 < d := Nat.lt_of_lt_of_le A706.lt fg730
  show Goes p.tables e below _ (T719.setTop (mkF m 14 #[.val (.ref a), .unset] [(.ref b702)]))
  refine X722.ldcS (w 109 rfl) (fun d q => hw d (hwS d q)) (by decide) (vs := [(.int (98 : Int32)), (.int (121 : Int32)), (.int (32 : Int32)), (.int (98 : Int32)), (.int (121 : Int32)), (.int (112 : Int32)), (.int (97 : Int32)), (.int (115 : Int32)), (.int (115 : Int32)), (.int (32 : Int32))]) (z := (10 : Int32)) ⟨by decide, by decide⟩ (by decide) rfl (D d15_14) 40 (by decide) (by decide) (by decide) (by decide) ?_
  intro T735 h736 a737 b738 kb739 X740 E741 F742 F743 F744 F745 ne746
  have F747 := F725.ext E741
  have F748 := F726.ext E741
  have F749 := F727.ext E741
  have F750 := F728.ext E741
  have F751 := E1.ext E741
  have F752 := V1.ext E741
  have F753 := C1.ext E741
  have F754 := N1.ext E741
  have F755 := A1.ext E741
  show Goes p.tables e below _ (T735.setTop (mkF m 16 #[.val (.ref a), .unset] [(.ref a737), (.ref b702)]))
  have O756 : OStr Z h736 a737 b738 [(98 : Int32), (121 : Int32), (32 : Int32), (98 : Int32), (121 : Int32), (112 : Int32), (97 : Int32), (115 : Int32), (115 : Int32), (32 : Int32)] := OStr.mk F742 F744 F743 F745 (by decide) (by decide)
  refine X740.callvF (y := (⟨"java/lang/StringBuilder", "append", "(Ljava/lang/String;)Ljava/lang/StringBuilder;"⟩ : MethodName)) (z := (⟨"java/lang/StringBuilder", "append", "(Ljava/lang/String;)Ljava/lang/StringBuilder;"⟩ : MethodName)) (a := b702) (C := "java/lang/StringBuilder") [(.ref a737)] [] (ctSBa0_10_16 l Z a0 hw hEL z0 S0 hz0 b702 d a737 b738 kd [(98 : Int32), (121 : Int32), (32 : Int32), (98 : Int32), (121 : Int32), (112 : Int32), (97 : Int32), (115 : Int32), (115 : Int32), (32 : Int32)] ([(.int (0 : Int32)), (.int (0 : Int32)), (.int (0 : Int32)), (.int (0 : Int32)), (.int (0 : Int32)), (.int (0 : Int32)), (.int (0 : Int32)), (.int (0 : Int32)), (.int (0 : Int32)), (.int (0 : Int32)), (.int (0 : Int32)), (.int (0 : Int32)), (.int (0 : Int32)), (.int (0 : Int32)), (.int (0 : Int32)), (.int (0 : Int32))] : List Value) _ _ F751 F752 F753 F754 F755 rfl O756 rfl (ne746 d (by simp)).2.symm).toF F751 (w 110 rfl) (w 111 rfl) (w 113 rfl) (w 112 rfl) (nfOf (w 113 rfl) rfl) (w 93 rfl) (w 114 rfl) (by decide) (by simp) (by decide) 0 (by decide) (by decide) (by decide) (lenOf pd_17 rfl) rfl (Nat.le_of_ble_eq_true rfl) (by rw [hml]; rfl) (D d15_16) ?_
  rintro T757 h758 _ _ X760 K761 hg762 ⟨rfl, rfl, E2, V2, C2, N2, A2⟩
  have F763 := F747.keep K761
  have F764 := F748.keep K761 (ninS (Nat.ne_of_lt lt713) (ninS (Nat.ne_of_lt lt731) nin0))
  have F765 := F749.keep K761 (ninS (Nat.ne_of_lt lt713) (ninS (Nat.ne_of_lt lt731) nin0))
  have F766 := F750.keep K761 (ninS (Nat.ne_of_lt lt714) (ninS (Nat.ne_of_lt lt732) nin0)) (ninS (Nat.ne_of_lt lt715) (ninS (Nat.ne_of_lt lt733) nin0))
  have F767 := F751.keep K761
  have F768 := O756.keep K761 (ninS (ne746 b702 (by simp)).1.symm (ninS (ne746 d (by simp)).1.symm nin0)) (ninS (ne746 b702 (by simp)).2.symm (ninS (ne746 d (by simp)).2.symm nin0))
  show Goes p.tables e below _ (T757.setTop (mkF m 19 #[.val (.ref a), .unset] [(.ref b702)]))
  refine X760.aloadN (x := (.ref a)) (D d15_19) rfl rfl ?_
  refine X760.getf (w 48 rfl) Via.refl F764 (D d15_20) ?_
  intro T769 X770
  show Goes p.tables e below _ (T769.setTop (mkF m 23 #[.val (.ref a), .unset] [(.ref r), (.ref b702)]))
  refine X770.callvF (y := (⟨"java/lang/StringBuilder", "append", "(Ljava/lang/String;)Ljava/lang/StringBuilder;"⟩ : MethodName)) (z := (⟨"java/lang/StringBuilder", "append", "(Ljava/lang/String;)Ljava/lang/StringBuilder;"⟩ : MethodName)) (a := b702) (C := "java/lang/StringBuilder") [(.ref r)] [] (ctSBa10_0_16 l Z a0 hw hEL z0 S0 hz0 b702 d r tr kd ([] : List Int32) (([(.int (0 : Int32)), (.int (0 : Int32)), (.int (0 : Int32)), (.int (0 : Int32)), (.int (0 : Int32)), (.int (0 : Int32)), (.int (0 : Int32)), (.int (0 : Int32)), (.int (0 : Int32)), (.int (0 : Int32)), (.int (0 : Int32)), (.int (0 : Int32)), (.int (0 : Int32)), (.int (0 : Int32)), (.int (0 : Int32)), (.int (0 : Int32))] : List Value).take 0 ++ (([(98 : Int32), (121 : Int32), (32 : Int32), (98 : Int32), (121 : Int32), (112 : Int32), (97 : Int32), (115 : Int32), (115 : Int32), (32 : Int32)].map StrChars.lo8).map Value.int) ++ ([(.int (0 : Int32)), (.int (0 : Int32)), (.int (0 : Int32)), (.int (0 : Int32)), (.int (0 : Int32)), (.int (0 : Int32)), (.int (0 : Int32)), (.int (0 : Int32)), (.int (0 : Int32)), (.int (0 : Int32)), (.int (0 : Int32)), (.int (0 : Int32)), (.int (0 : Int32)), (.int (0 : Int32)), (.int (0 : Int32)), (.int (0 : Int32))] : List Value).drop (0 + 10)) _ _ E2 V2 C2 N2 A2 rfl F766 rfl (Nat.ne_of_lt lt733)).toF E2 (w 110 rfl) (w 111 rfl) (w 113 rfl) (w 112 rfl) (nfOf (w 113 rfl) rfl) (w 93 rfl) (w 114 rfl) (by decide) (by simp) (by decide) 0 (by decide) (by decide) (by decide) (lenOf pd_17 rfl) rfl (Nat.le_of_ble_eq_true rfl) (by rw [hml]; rfl) (D d15_23) ?_
  rintro T771 h772 _ _ X774 K775 hg776 ⟨rfl, rfl, E3, V3, C3, N3, A3⟩
  have F777 := F763.keep K775
  have F778 := F764.keep K775 (ninS (Nat.ne_of_lt lt713) (ninS (Nat.ne_of_lt lt731) nin0))
  have F779 := F765.keep K775 (ninS (Nat.ne_of_lt lt713) (ninS (Nat.ne_of_lt lt731) nin0))
  have F780 := F766.keep K775 (ninS (Nat.ne_of_lt lt714) (ninS (Nat.ne_of_lt lt732) nin0)) (ninS (Nat.ne_of_lt lt715) (ninS (Nat.ne_of_lt lt733) nin0))
  have F781 := E2.keep K775
  have F782 := F768.keep K775 (ninS (ne746 b702 (by simp)).1.symm (ninS (ne746 d (by simp)).1.symm nin0)) (ninS (ne746 b702 (by simp)).2.symm (ninS (ne746 d (by simp)).2.symm nin0))
  show Goes p.tables e below _ (T771.setTop (mkF m 26 #[.val (.ref a), .unset] [(.ref b702)]))
  have hpr : ∀ c ∈ [(98 : Int32), (121 : Int32), (32 : Int32), (98 : Int32), (121 : Int32), (112 : Int32), (97 : Int32), (115 : Int32), (115 : Int32), (32 : Int32)] ++ ([] : List Int32), ¬ c < 0 ∧ ¬ (255 : Int32) < c := fun c q => by
    rcases List.mem_append.mp q with q | q
    · exact (by decide : ∀ c ∈ ([(98 : Int32), (121 : Int32), (32 : Int32), (98 : Int32), (121 : Int32), (112 : Int32), (97 : Int32), (115 : Int32), (115 : Int32), (32 : Int32)] : List Int32), ¬ c < 0 ∧ ¬ (255 : Int32) < c) c q
    · exact OR.2.1 c q
  refine X774.callvF (y := (⟨"java/lang/StringBuilder", "toString", "()Ljava/lang/String;"⟩ : MethodName)) (z := (⟨"java/lang/StringBuilder", "toString", "()Ljava/lang/String;"⟩ : MethodName)) (a := b702) (C := "java/lang/StringBuilder") [] [] (ctTS10_16 l Z a0 hw hEL z0 S0 hz0 b702 d kd ((([(.int (0 : Int32)), (.int (0 : Int32)), (.int (0 : Int32)), (.int (0 : Int32)), (.int (0 : Int32)), (.int (0 : Int32)), (.int (0 : Int32)), (.int (0 : Int32)), (.int (0 : Int32)), (.int (0 : Int32)), (.int (0 : Int32)), (.int (0 : Int32)), (.int (0 : Int32)), (.int (0 : Int32)), (.int (0 : Int32)), (.int (0 : Int32))] : List Value).take 0 ++ (([(98 : Int32), (121 : Int32), (32 : Int32), (98 : Int32), (121 : Int32), (112 : Int32), (97 : Int32), (115 : Int32), (115 : Int32), (32 : Int32)].map StrChars.lo8).map Value.int) ++ ([(.int (0 : Int32)), (.int (0 : Int32)), (.int (0 : Int32)), (.int (0 : Int32)), (.int (0 : Int32)), (.int (0 : Int32)), (.int (0 : Int32)), (.int (0 : Int32)), (.int (0 : Int32)), (.int (0 : Int32)), (.int (0 : Int32)), (.int (0 : Int32)), (.int (0 : Int32)), (.int (0 : Int32)), (.int (0 : Int32)), (.int (0 : Int32))] : List Value).drop (0 + 10)).take 10 ++ ((([] : List Int32).map StrChars.lo8).map Value.int) ++ (([(.int (0 : Int32)), (.int (0 : Int32)), (.int (0 : Int32)), (.int (0 : Int32)), (.int (0 : Int32)), (.int (0 : Int32)), (.int (0 : Int32)), (.int (0 : Int32)), (.int (0 : Int32)), (.int (0 : Int32)), (.int (0 : Int32)), (.int (0 : Int32)), (.int (0 : Int32)), (.int (0 : Int32)), (.int (0 : Int32)), (.int (0 : Int32))] : List Value).take 0 ++ (([(98 : Int32), (121 : Int32), (32 : Int32), (98 : Int32), (121 : Int32), (112 : Int32), (97 : Int32), (115 : Int32), (115 : Int32), (32 : Int32)].map StrChars.lo8).map Value.int) ++ ([(.int (0 : Int32)), (.int (0 : Int32)), (.int (0 : Int32)), (.int (0 : Int32)), (.int (0 : Int32)), (.int (0 : Int32)), (.int (0 : Int32)), (.int (0 : Int32)), (.int (0 : Int32)), (.int (0 : Int32)), (.int (0 : Int32)), (.int (0 : Int32)), (.int (0 : Int32)), (.int (0 : Int32)), (.int (0 : Int32)), (.int (0 : Int32))] : List Value).drop (0 + 10)).drop (10 + 0)) ([(98 : Int32), (121 : Int32), (32 : Int32), (98 : Int32), (121 : Int32), (112 : Int32), (97 : Int32), (115 : Int32), (115 : Int32), (32 : Int32)] ++ ([] : List Int32)) _ _ E3 V3 C3 N3 A3 rfl hpr rfl rfl).toF E3 (w 157 rfl) (w 158 rfl) (w 160 rfl) (w 159 rfl) (nfOf (w 160 rfl) rfl) (w 93 rfl) (w 161 rfl) (by decide) (fun _ q => nomatch q) (by decide) 0 (by decide) (by decide) (by decide) (lenOf pd_18 rfl) rfl (Nat.le_of_ble_eq_true rfl) (by rw [hml]; rfl) (D d15_26) ?_
  rintro T783 h784 _ _ X786 K787 hg788 ⟨rfl, s9, t9, rfl, O9⟩
  have F789 := F777.keep K787
  have F790 := F778.keep K787 nin0
  have F791 := F779.keep K787 nin0
  have F792 := F780.keep K787 nin0 nin0
  have F793 := E3.keep K787
  have F794 := F782.keep K787 nin0 nin0
  have F795 := V3.keep K787 nin0
  have F796 := C3.keep K787 nin0
  have F797 := N3.keep K787 nin0
  have F798 := A3.keep K787 nin0
  show Goes p.tables e below _ (T783.setTop (mkF m 29 #[.val (.ref a), .unset] [(.ref s9)]))
  refine X786.astoreN #[.val (.ref a), .val (.ref s9)] (D d15_29) rfl rfl ?_
  refine X786.goto 81 (D d15_30) ⟨by decide, by decide⟩ ?_
  refine X786.aloadN (x := (.ref s9)) (D d15_81) rfl rfl ?_
  exact X786.retA hret rfl rfl hlk (D d15_82) (by decide) (by decide) (⟨s9, t9, rfl, O9⟩)
set_option maxRecDepth 65536 in
set_option maxHeartbeats 40000000 in
theorem ctLen1 (l : Launch) (Z : State) (a0 : Array Value) (hw : ∀ d ∈ tables_1, d.before a0 Z = true) (hEL : EW Z a0 consts_1) (z0 : Int32) (S0 : Sta Z Z.heap "java/lang/String" "COMPACT_STRINGS" "Z" (.int z0)) (hz0 : ¬ z0 = 0) (s t : Addr) (cs : List Int32) (h0 : Heap) (n0 : Nat) (OS : OStr Z h0 s t cs) (hl_s : cs.length = 1) :
    Ct l Z consts_1 [] (⟨"java/lang/String", "length", "()I"⟩ : MethodName) jdk_42_method_54_code 1 (some .int) ({ frames := 1, cells := 0, slots := 0, locals := 13 } : Room) #[(.ref s)] h0 n0 [] (fun v _ => v = some (.int (1 : Int32))) := by
  have w : ∀ {d : Jvm.Cond} (i : Nat), tables_1[i]? = some d → d.before a0 Z = true := fun i q => hw _ (List.mem_of_getElem? q)
  refine Ct.enter (plainFor_of_name pn_1) hEL ?_
  intro p e sS m below meth c T0 hby hml0 hret hlk hnm hs0 X0
  have hml : c.maxLocals = 1 := hml0
  have D : ∀ {pc : Nat} {r : Except DecodeError (Instr × Nat)}, decode jdk_42_method_54_code pc = r → decode c.code pc = r := fun q => hb hby q
  rw [show entryFrame m #[(.ref s)] 1 = mkF m 0 #[.val (.ref s)] [] from by first | (simp [entryFrame, mkF, argsToLocals, Value.category]; done) | rfl]
  obtain ⟨F799, hp800, hl801, kb802, F803, F804, F805⟩ := id OS
  have F806 : Arv Z h0 t kb802 .byte (1 : Int32) ((cs.map StrChars.lo8).map Value.int) (.int 0) := by have q := F805; rw [hl_s] at q; exact q
  refine X0.aloadN (x := (.ref s)) (D d20_0) rfl rfl ?_
  refine X0.getf (w 20 rfl) Via.refl F803 (D d20_1) ?_
  intro T807 X808
  show Goes p.tables e below _ (T807.setTop (mkF m 4 #[.val (.ref s)] [(.ref t)]))
  refine X808.alen F806 (D d20_4) ?_
  refine X808.aloadN (x := (.ref s)) (D d20_5) rfl rfl ?_
  refine X808.callvF (y := (⟨"java/lang/String", "coder", "()B"⟩ : MethodName)) (z := (⟨"java/lang/String", "coder", "()B"⟩ : MethodName)) (a := s) (C := "java/lang/String") [] [(.int (1 : Int32))] (ctCdr l Z a0 hw hEL z0 S0 hz0 s _ _ F804).toF F799 (w 125 rfl) (w 126 rfl) (w 128 rfl) (w 127 rfl) (nfOf (w 128 rfl) rfl) (w 3 rfl) (w 129 rfl) (by decide) (fun _ q => nomatch q) (by decide) 1 (by decide) (by decide) (by decide) (lenOf pd_2 rfl) rfl (Nat.le_of_ble_eq_true rfl) (by rw [hml]; rfl) (D d20_6) ?_
  rintro T809 h810 _ _ X812 K813 hg814 ⟨rfl, rfl⟩
  have F815 := OS.keep K813 nin0 nin0
  have F816 := F799.keep K813
  have F817 := F803.keep K813 nin0
  have F818 := F804.keep K813 nin0
  have F819 := F806.keep K813 nin0
  show Goes p.tables e below _ (T809.setTop (mkF m 9 #[.val (.ref s)] [(.int (0 : Int32)), (.int (1 : Int32))]))
  refine X812.ishr (D d20_9) ?_
  show Goes p.tables e below _ (T809.setTop (mkF m 10 #[.val (.ref s)] [(.int (1 : Int32))]))
  exact X812.retI hret hlk (D d20_10) (by decide) (by decide) (rfl)
set_option maxRecDepth 65536 in
set_option maxHeartbeats 40000000 in
theorem ctGB10_1_16 (l : Launch) (Z : State) (a0 : Array Value) (hw : ∀ d ∈ tables_1, d.before a0 Z = true) (hEL : EW Z a0 consts_1) (z0 : Int32) (S0 : Sta Z Z.heap "java/lang/String" "COMPACT_STRINGS" "Z" (.int z0)) (hz0 : ¬ z0 = 0) (s t d : Addr) (kd : ClassId) (cs : List Int32) (vd : List Value) (h0 : Heap) (n0 : Nat) (OS : OStr Z h0 s t cs) (hl_s : cs.length = 1) (ntd : t ≠ d) (AD : Arv Z h0 d kd .byte (16 : Int32) vd (.int 0)) (hvd : vd.length = 16) :
    Ct l Z consts_1 [] (⟨"java/lang/String", "getBytes", "([BIB)V"⟩ : MethodName) jdk_42_method_147_code 4 none ({ frames := 1, cells := 0, slots := 0, locals := 18 } : Room) #[(.ref s), (.ref d), (.int (10 : Int32)), (.int (0 : Int32))] h0 n0 [d] (fun v h => v = none ∧ Arv Z h d kd .byte (16 : Int32) (vd.take 10 ++ ((cs.map StrChars.lo8).map Value.int) ++ vd.drop (10 + 1)) (.int 0)) := by
  have w : ∀ {d : Jvm.Cond} (i : Nat), tables_1[i]? = some d → d.before a0 Z = true := fun i q => hw _ (List.mem_of_getElem? q)
  refine Ct.enter (plainFor_of_name pn_1) hEL ?_
  intro p e sS m below meth c T0 hby hml0 hret hlk hnm hs0 X0
  have hml : c.maxLocals = 4 := hml0
  have D : ∀ {pc : Nat} {r : Except DecodeError (Instr × Nat)}, decode jdk_42_method_147_code pc = r → decode c.code pc = r := fun q => hb hby q
  rw [show entryFrame m #[(.ref s), (.ref d), (.int (10 : Int32)), (.int (0 : Int32))] 4 = mkF m 0 #[.val (.ref s), .val (.ref d), .val (.int (10 : Int32)), .val (.int (0 : Int32))] [] from by first | (simp [entryFrame, mkF, argsToLocals, Value.category]; done) | rfl]
  obtain ⟨F820, hp821, hl822, kb823, F824, F825, F826⟩ := id OS
  have F827 : Arv Z h0 t kb823 .byte (1 : Int32) ((cs.map StrChars.lo8).map Value.int) (.int 0) := by have q := F826; rw [hl_s] at q; exact q
  refine X0.aloadN (x := (.ref s)) (D d25_0) rfl rfl ?_
  refine X0.callvF (y := (⟨"java/lang/String", "coder", "()B"⟩ : MethodName)) (z := (⟨"java/lang/String", "coder", "()B"⟩ : MethodName)) (a := s) (C := "java/lang/String") [] [] (ctCdr l Z a0 hw hEL z0 S0 hz0 s _ _ F825).toF F820 (w 125 rfl) (w 126 rfl) (w 128 rfl) (w 127 rfl) (nfOf (w 128 rfl) rfl) (w 3 rfl) (w 129 rfl) (by decide) (fun _ q => nomatch q) (by decide) 0 (by decide) (by decide) (by decide) (lenOf pd_2 rfl) rfl (Nat.le_of_ble_eq_true rfl) (by rw [hml]; rfl) (D d25_1) ?_
  rintro T828 h829 _ _ X831 K832 hg833 ⟨rfl, rfl⟩
  have F834 := OS.keep K832 nin0 nin0
  have F835 := AD.keep K832 nin0
  have F836 := F820.keep K832
  have F837 := F824.keep K832 nin0
  have F838 := F825.keep K832 nin0
  have F839 := F827.keep K832 nin0
  show Goes p.tables e below _ (T828.setTop (mkF m 4 #[.val (.ref s), .val (.ref d), .val (.int (10 : Int32)), .val (.int (0 : Int32))] [(.int (0 : Int32))]))
  refine X831.iloadN (x := (0 : Int32)) (D d25_4) rfl ?_
  refine X831.icmp_ne 28 (D d25_5) ⟨by decide, by decide⟩ (fun hc840 => absurd hc840 (by decide)) (fun hc840 => ?_)
  refine X831.aloadN (x := (.ref s)) (D d25_8) rfl rfl ?_
  refine X831.getf (w 20 rfl) Via.refl F837 (D d25_9) ?_
  intro T841 X842
  show Goes p.tables e below _ (T841.setTop (mkF m 12 #[.val (.ref s), .val (.ref d), .val (.int (10 : Int32)), .val (.int (0 : Int32))] [(.ref t)]))
  refine X842.iconst (x := (0 : Int32)) (D d25_12) rfl ?_
  refine X842.aloadN (x := (.ref d)) (D d25_13) rfl rfl ?_
  refine X842.iloadN (x := (10 : Int32)) (D d25_14) rfl ?_
  refine X842.iloadN (x := (0 : Int32)) (D d25_15) rfl ?_
  refine X842.ishl (D d25_16) ?_
  show Goes p.tables e below _ (T841.setTop (mkF m 17 #[.val (.ref s), .val (.ref d), .val (.int (10 : Int32)), .val (.int (0 : Int32))] [(.int (10 : Int32)), (.ref d), (.int (0 : Int32)), (.ref t)]))
  refine X842.aloadN (x := (.ref s)) (D d25_17) rfl rfl ?_
  refine X842.getf (w 20 rfl) Via.refl F837 (D d25_18) ?_
  intro T843 X844
  show Goes p.tables e below _ (T843.setTop (mkF m 21 #[.val (.ref s), .val (.ref d), .val (.int (10 : Int32)), .val (.int (0 : Int32))] [(.ref t), (.int (10 : Int32)), (.ref d), (.int (0 : Int32)), (.ref t)]))
  refine X844.alen F839 (D d25_21) ?_
  show Goes p.tables e below _ (T843.setTop (mkF m 22 #[.val (.ref s), .val (.ref d), .val (.int (10 : Int32)), .val (.int (0 : Int32))] [(.int (1 : Int32)), (.int (10 : Int32)), (.ref d), (.int (0 : Int32)), (.ref t)]))
  refine X844.acopy (us := ((cs.map StrChars.lo8).map Value.int)) (w 153 rfl) (w 156 rfl) (w 154 rfl) (w 155 rfl) F839 F835 (by decide) (by decide) (by decide) (by decide) (by decide) (slice0 (mlen hl_s)) (by rw [hvd]; decide) (by simp) (by rw [hml]; rfl) (D d25_22) (by decide) 0 (Nat.le_of_ble_eq_true rfl) (by decide) ?_
  intro T845 h846 X847 K848 B849
  have F850 := F834.keep K848 (ninS (Exa.neArv F836 F835 (w 2 rfl)) nin0) (ninS ntd nin0)
  have F851 := F836.keep K848
  have F852 := F837.keep K848 (ninS (Exa.neArv F836 F835 (w 2 rfl)) nin0)
  have F853 := F838.keep K848 (ninS (Exa.neArv F836 F835 (w 2 rfl)) nin0)
  have F854 := F839.keep K848 (ninS ntd nin0)
  show Goes p.tables e below _ (T845.setTop (mkF m 25 #[.val (.ref s), .val (.ref d), .val (.int (10 : Int32)), .val (.int (0 : Int32))] []))
  refine X847.goto 43 (D d25_25) ⟨by decide, by decide⟩ ?_
  exact X847.retn hret hlk (D d25_43) (by decide) (by decide) (⟨rfl, B849⟩)
set_option maxRecDepth 65536 in
set_option maxHeartbeats 40000000 in
theorem ctPS10_1_16 (l : Launch) (Z : State) (a0 : Array Value) (hw : ∀ d ∈ tables_1, d.before a0 Z = true) (hEL : EW Z a0 consts_1) (z0 : Int32) (S0 : Sta Z Z.heap "java/lang/String" "COMPACT_STRINGS" "Z" (.int z0)) (hz0 : ¬ z0 = 0) (b d s t : Addr) (kd : ClassId) (cs : List Int32) (vd : List Value) (h0 : Heap) (n0 : Nat) (EB : Exa Z h0 b "java/lang/StringBuilder") (FV : Fld Z h0 b "java/lang/AbstractStringBuilder" "value" "[B" (.ref d)) (FC : Fld Z h0 b "java/lang/AbstractStringBuilder" "coder" "B" (.int (0 : Int32))) (AD : Arv Z h0 d kd .byte (16 : Int32) vd (.int 0)) (hvd : vd.length = 16) (OS : OStr Z h0 s t cs) (hl_s : cs.length = 1) (ntd : t ≠ d) :
    Ct l Z consts_1 [] (⟨"java/lang/AbstractStringBuilder", "putStringAt", "(ILjava/lang/String;)V"⟩ : MethodName) jdk_68_method_73_code 3 none ({ frames := 2, cells := 0, slots := 0, locals := 33 } : Room) #[(.ref b), (.int (10 : Int32)), (.ref s)] h0 n0 [d] (fun v h => v = none ∧ Arv Z h d kd .byte (16 : Int32) (vd.take 10 ++ ((cs.map StrChars.lo8).map Value.int) ++ vd.drop (10 + 1)) (.int 0)) := by
  have w : ∀ {d : Jvm.Cond} (i : Nat), tables_1[i]? = some d → d.before a0 Z = true := fun i q => hw _ (List.mem_of_getElem? q)
  refine Ct.enter (plainFor_of_name pn_2) hEL ?_
  intro p e sS m below meth c T0 hby hml0 hret hlk hnm hs0 X0
  have hml : c.maxLocals = 3 := hml0
  have D : ∀ {pc : Nat} {r : Except DecodeError (Instr × Nat)}, decode jdk_68_method_73_code pc = r → decode c.code pc = r := fun q => hb hby q
  rw [show entryFrame m #[(.ref b), (.int (10 : Int32)), (.ref s)] 3 = mkF m 0 #[.val (.ref b), .val (.int (10 : Int32)), .val (.ref s)] [] from by first | (simp [entryFrame, mkF, argsToLocals, Value.category]; done) | rfl]
  obtain ⟨qE, -, -, _, -, qC, -⟩ := id OS
  refine X0.aloadN (x := (.ref b)) (D d23_0) rfl rfl ?_
  refine X0.aloadN (x := (.ref s)) (D d23_1) rfl rfl ?_
  refine X0.callvF (y := (⟨"java/lang/AbstractStringBuilder", "inflateIfNeededFor", "(Ljava/lang/String;)V"⟩ : MethodName)) (z := (⟨"java/lang/AbstractStringBuilder", "inflateIfNeededFor", "(Ljava/lang/String;)V"⟩ : MethodName)) (a := b) (C := "java/lang/StringBuilder") [(.ref s)] [] (ctInf l Z a0 hw hEL z0 S0 hz0 b d s _ _ EB FV FC qE qC).toF EB (w 142 rfl) (decOf (w 143 rfl) (w 146 rfl)) (w 145 rfl) (w 143 rfl) (nfOf (w 145 rfl) rfl) (w 101 rfl) (w 146 rfl) (by decide) (fun _ q => nomatch q) (by decide) 0 (by decide) (by decide) (by decide) (lenOf pd_5 rfl) rfl (Nat.le_of_ble_eq_true rfl) (by rw [hml]; rfl) (D d23_2) ?_
  rintro T855 h856 _ _ X858 K859 hg860 ⟨rfl, rfl⟩
  have F861 := EB.keep K859
  have F862 := FV.keep K859 nin0
  have F863 := FC.keep K859 nin0
  have F864 := AD.keep K859 nin0
  have F865 := OS.keep K859 nin0 nin0
  show Goes p.tables e below _ (T855.setTop (mkF m 5 #[.val (.ref b), .val (.int (10 : Int32)), .val (.ref s)] []))
  refine X858.aloadN (x := (.ref s)) (D d23_5) rfl rfl ?_
  refine X858.aloadN (x := (.ref b)) (D d23_6) rfl rfl ?_
  refine X858.getf (w 105 rfl) Via.refl F862 (D d23_7) ?_
  intro T866 X867
  show Goes p.tables e below _ (T866.setTop (mkF m 10 #[.val (.ref b), .val (.int (10 : Int32)), .val (.ref s)] [(.ref d), (.ref s)]))
  refine X867.iloadN (x := (10 : Int32)) (D d23_10) rfl ?_
  refine X867.aloadN (x := (.ref b)) (D d23_11) rfl rfl ?_
  refine X867.getf (w 107 rfl) Via.refl F863 (D d23_12) ?_
  intro T868 X869
  show Goes p.tables e below _ (T868.setTop (mkF m 15 #[.val (.ref b), .val (.int (10 : Int32)), .val (.ref s)] [(.int (0 : Int32)), (.int (10 : Int32)), (.ref d), (.ref s)]))
  refine X869.callvF (y := (⟨"java/lang/String", "getBytes", "([BIB)V"⟩ : MethodName)) (z := (⟨"java/lang/String", "getBytes", "([BIB)V"⟩ : MethodName)) (a := s) (C := "java/lang/String") [(.ref d), (.int (10 : Int32)), (.int (0 : Int32))] [] (ctGB10_1_16 l Z a0 hw hEL z0 S0 hz0 s t d kd cs vd _ _ F865 hl_s ntd F864 hvd).toF F865.1 (w 148 rfl) (w 149 rfl) (w 151 rfl) (w 150 rfl) (nfOf (w 151 rfl) rfl) (w 3 rfl) (w 152 rfl) (by decide) (by simp) (by decide) 0 (by decide) (by decide) (by decide) (lenOf pd_6 rfl) rfl (Nat.le_of_ble_eq_true rfl) (by rw [hml]; rfl) (D d23_15) ?_
  rintro T870 h871 _ _ X873 K874 hg875 ⟨rfl, rfl, A1⟩
  have F876 := F861.keep K874
  have F877 := F862.keep K874 (ninS (Exa.neArv F861 F864 (w 92 rfl)) nin0)
  have F878 := F863.keep K874 (ninS (Exa.neArv F861 F864 (w 92 rfl)) nin0)
  have F879 := F865.keep K874 (ninS (Exa.neArv F865.1 F864 (w 2 rfl)) nin0) (ninS ntd nin0)
  show Goes p.tables e below _ (T870.setTop (mkF m 18 #[.val (.ref b), .val (.int (10 : Int32)), .val (.ref s)] []))
  exact X873.retn hret hlk (D d23_18) (by decide) (by decide) (⟨rfl, A1⟩)
set_option maxRecDepth 65536 in
set_option maxHeartbeats 40000000 in
theorem ctEC11_16 (l : Launch) (Z : State) (a0 : Array Value) (hw : ∀ d ∈ tables_1, d.before a0 Z = true) (hEL : EW Z a0 consts_1) (z0 : Int32) (S0 : Sta Z Z.heap "java/lang/String" "COMPACT_STRINGS" "Z" (.int z0)) (hz0 : ¬ z0 = 0) (b d : Addr) (kd : ClassId) (vd : List Value) (h0 : Heap) (n0 : Nat) (EB : Exa Z h0 b "java/lang/StringBuilder") (FV : Fld Z h0 b "java/lang/AbstractStringBuilder" "value" "[B" (.ref d)) (FC : Fld Z h0 b "java/lang/AbstractStringBuilder" "coder" "B" (.int (0 : Int32))) (AD : Arv Z h0 d kd .byte (16 : Int32) vd (.int 0)) (hvd : vd.length = 16) :
    Ct l Z consts_1 [] (⟨"java/lang/AbstractStringBuilder", "ensureCapacityInternal", "(I)V"⟩ : MethodName) jdk_68_method_9_code 3 none ({ frames := 0, cells := 0, slots := 0, locals := 0 } : Room) #[(.ref b), (.int (11 : Int32))] h0 n0 [] (fun v _ => v = none) := by
  have w : ∀ {d : Jvm.Cond} (i : Nat), tables_1[i]? = some d → d.before a0 Z = true := fun i q => hw _ (List.mem_of_getElem? q)
  refine Ct.enter (plainFor_of_name pn_2) hEL ?_
  intro p e sS m below meth c T0 hby hml0 hret hlk hnm hs0 X0
  have hml : c.maxLocals = 3 := hml0
  have D : ∀ {pc : Nat} {r : Except DecodeError (Instr × Nat)}, decode jdk_68_method_9_code pc = r → decode c.code pc = r := fun q => hb hby q
  rw [show entryFrame m #[(.ref b), (.int (11 : Int32))] 3 = mkF m 0 #[.val (.ref b), .val (.int (11 : Int32)), .unset] [] from by first | (simp [entryFrame, mkF, argsToLocals, Value.category]; done) | rfl]
  refine X0.aloadN (x := (.ref b)) (D d22_0) rfl rfl ?_
  refine X0.getf (w 105 rfl) Via.refl FV (D d22_1) ?_
  intro T880 X881
  show Goes p.tables e below _ (T880.setTop (mkF m 4 #[.val (.ref b), .val (.int (11 : Int32)), .unset] [(.ref d)]))
  refine X881.alen AD (D d22_4) ?_
  refine X881.aloadN (x := (.ref b)) (D d22_5) rfl rfl ?_
  refine X881.getf (w 107 rfl) Via.refl FC (D d22_6) ?_
  intro T882 X883
  show Goes p.tables e below _ (T882.setTop (mkF m 9 #[.val (.ref b), .val (.int (11 : Int32)), .unset] [(.int (0 : Int32)), (.int (16 : Int32))]))
  refine X883.ishr (D d22_9) ?_
  show Goes p.tables e below _ (T882.setTop (mkF m 10 #[.val (.ref b), .val (.int (11 : Int32)), .unset] [(.int (16 : Int32))]))
  refine X883.istoreN #[.val (.ref b), .val (.int (11 : Int32)), .val (.int (16 : Int32))] (D d22_10) rfl ?_
  refine X883.iloadN (x := (11 : Int32)) (D d22_11) rfl ?_
  refine X883.iloadN (x := (16 : Int32)) (D d22_12) rfl ?_
  refine X883.isub (D d22_13) ?_
  show Goes p.tables e below _ (T882.setTop (mkF m 14 #[.val (.ref b), .val (.int (11 : Int32)), .val (.int (16 : Int32))] [(.int (-5 : Int32))]))
  refine X883.if_le 38 (D d22_14) ⟨by decide, by decide⟩ (fun hc884 => ?_) (fun hc884 => absurd hc884 (by decide))
  exact X883.retn hret hlk (D d22_38) (by decide) (by decide) (rfl)
set_option maxRecDepth 65536 in
set_option maxHeartbeats 40000000 in
theorem ctAA10_1_16 (l : Launch) (Z : State) (a0 : Array Value) (hw : ∀ d ∈ tables_1, d.before a0 Z = true) (hEL : EW Z a0 consts_1) (z0 : Int32) (S0 : Sta Z Z.heap "java/lang/String" "COMPACT_STRINGS" "Z" (.int z0)) (hz0 : ¬ z0 = 0) (b d s t : Addr) (kd : ClassId) (cs : List Int32) (vd : List Value) (h0 : Heap) (n0 : Nat) (EB : Exa Z h0 b "java/lang/StringBuilder") (FV : Fld Z h0 b "java/lang/AbstractStringBuilder" "value" "[B" (.ref d)) (FC : Fld Z h0 b "java/lang/AbstractStringBuilder" "coder" "B" (.int (0 : Int32))) (FN : Fld Z h0 b "java/lang/AbstractStringBuilder" "count" "I" (.int (10 : Int32))) (AD : Arv Z h0 d kd .byte (16 : Int32) vd (.int 0)) (hvd : vd.length = 16) (OS : OStr Z h0 s t cs) (hl_s : cs.length = 1) (ntd : t ≠ d) :
    Ct l Z consts_1 [] (⟨"java/lang/AbstractStringBuilder", "append", "(Ljava/lang/String;)Ljava/lang/AbstractStringBuilder;"⟩ : MethodName) jdk_68_method_22_code 3 (some (.object "java/lang/AbstractStringBuilder")) ({ frames := 3, cells := 0, slots := 0, locals := 47 } : Room) #[(.ref b), (.ref s)] h0 n0 [b, d] (fun v h => v = some (.ref b) ∧ Exa Z h b "java/lang/StringBuilder" ∧ Fld Z h b "java/lang/AbstractStringBuilder" "value" "[B" (.ref d) ∧ Fld Z h b "java/lang/AbstractStringBuilder" "coder" "B" (.int (0 : Int32)) ∧ Fld Z h b "java/lang/AbstractStringBuilder" "count" "I" (.int (11 : Int32)) ∧ Arv Z h d kd .byte (16 : Int32) (vd.take 10 ++ ((cs.map StrChars.lo8).map Value.int) ++ vd.drop (10 + 1)) (.int 0)) := by
  have w : ∀ {d : Jvm.Cond} (i : Nat), tables_1[i]? = some d → d.before a0 Z = true := fun i q => hw _ (List.mem_of_getElem? q)
  refine Ct.enter (plainFor_of_name pn_2) hEL ?_
  intro p e sS m below meth c T0 hby hml0 hret hlk hnm hs0 X0
  have hml : c.maxLocals = 3 := hml0
  have D : ∀ {pc : Nat} {r : Except DecodeError (Instr × Nat)}, decode jdk_68_method_22_code pc = r → decode c.code pc = r := fun q => hb hby q
  rw [show entryFrame m #[(.ref b), (.ref s)] 3 = mkF m 0 #[.val (.ref b), .val (.ref s), .unset] [] from by first | (simp [entryFrame, mkF, argsToLocals, Value.category]; done) | rfl]
  refine X0.aloadN (x := (.ref s)) (D d19_0) rfl rfl ?_
  refine X0.ifnonnullR 9 (D d19_1) ⟨by decide, by decide⟩ ?_
  refine X0.aloadN (x := (.ref s)) (D d19_9) rfl rfl ?_
  refine X0.callvF (y := (⟨"java/lang/String", "length", "()I"⟩ : MethodName)) (z := (⟨"java/lang/String", "length", "()I"⟩ : MethodName)) (a := s) (C := "java/lang/String") [] [] (ctLen1 l Z a0 hw hEL z0 S0 hz0 s t cs _ _ OS hl_s).toF OS.1 (w 120 rfl) (w 121 rfl) (w 123 rfl) (w 122 rfl) (nfOf (w 123 rfl) rfl) (w 3 rfl) (w 124 rfl) (by decide) (fun _ q => nomatch q) (by decide) 0 (by decide) (by decide) (by decide) (lenOf pd_7 rfl) rfl (Nat.le_of_ble_eq_true rfl) (by rw [hml]; rfl) (D d19_10) ?_
  rintro T885 h886 _ _ X888 K889 hg890 ⟨rfl, rfl⟩
  have F891 := EB.keep K889
  have F892 := FV.keep K889 nin0
  have F893 := FC.keep K889 nin0
  have F894 := FN.keep K889 nin0
  have F895 := AD.keep K889 nin0
  have F896 := OS.keep K889 nin0 nin0
  show Goes p.tables e below _ (T885.setTop (mkF m 13 #[.val (.ref b), .val (.ref s), .unset] [(.int (1 : Int32))]))
  refine X888.istoreN #[.val (.ref b), .val (.ref s), .val (.int (1 : Int32))] (D d19_13) rfl ?_
  refine X888.aloadN (x := (.ref b)) (D d19_14) rfl rfl ?_
  refine X888.aloadN (x := (.ref b)) (D d19_15) rfl rfl ?_
  refine X888.getf (w 130 rfl) Via.refl F894 (D d19_16) ?_
  intro T897 X898
  show Goes p.tables e below _ (T897.setTop (mkF m 19 #[.val (.ref b), .val (.ref s), .val (.int (1 : Int32))] [(.int (10 : Int32)), (.ref b)]))
  refine X898.iloadN (x := (1 : Int32)) (D d19_19) rfl ?_
  refine X898.iadd (D d19_20) ?_
  show Goes p.tables e below _ (T897.setTop (mkF m 21 #[.val (.ref b), .val (.ref s), .val (.int (1 : Int32))] [(.int (11 : Int32)), (.ref b)]))
  refine X898.callvF (y := (⟨"java/lang/AbstractStringBuilder", "ensureCapacityInternal", "(I)V"⟩ : MethodName)) (z := (⟨"java/lang/AbstractStringBuilder", "ensureCapacityInternal", "(I)V"⟩ : MethodName)) (a := b) (C := "java/lang/StringBuilder") [(.int (11 : Int32))] [] (ctEC11_16 l Z a0 hw hEL z0 S0 hz0 b d kd vd _ _ F891 F892 F893 F895 hvd).toF F891 (w 132 rfl) (decOf (w 133 rfl) (w 136 rfl)) (w 135 rfl) (w 133 rfl) (nfOf (w 135 rfl) rfl) (w 101 rfl) (w 136 rfl) (by decide) (fun _ q => nomatch q) (by decide) 0 (by decide) (by decide) (by decide) (lenOf pd_1 rfl) rfl (Nat.le_of_ble_eq_true rfl) (by rw [hml]; rfl) (D d19_21) ?_
  rintro T899 h900 _ _ X902 K903 hg904 ⟨rfl, rfl⟩
  have F905 := F891.keep K903
  have F906 := F892.keep K903 nin0
  have F907 := F893.keep K903 nin0
  have F908 := F894.keep K903 nin0
  have F909 := F895.keep K903 nin0
  have F910 := F896.keep K903 nin0 nin0
  show Goes p.tables e below _ (T899.setTop (mkF m 24 #[.val (.ref b), .val (.ref s), .val (.int (1 : Int32))] []))
  refine X902.aloadN (x := (.ref b)) (D d19_24) rfl rfl ?_
  refine X902.aloadN (x := (.ref b)) (D d19_25) rfl rfl ?_
  refine X902.getf (w 130 rfl) Via.refl F908 (D d19_26) ?_
  intro T911 X912
  show Goes p.tables e below _ (T911.setTop (mkF m 29 #[.val (.ref b), .val (.ref s), .val (.int (1 : Int32))] [(.int (10 : Int32)), (.ref b)]))
  refine X912.aloadN (x := (.ref s)) (D d19_29) rfl rfl ?_
  refine X912.callvF (y := (⟨"java/lang/AbstractStringBuilder", "putStringAt", "(ILjava/lang/String;)V"⟩ : MethodName)) (z := (⟨"java/lang/AbstractStringBuilder", "putStringAt", "(ILjava/lang/String;)V"⟩ : MethodName)) (a := b) (C := "java/lang/StringBuilder") [(.int (10 : Int32)), (.ref s)] [] (ctPS10_1_16 l Z a0 hw hEL z0 S0 hz0 b d s t kd cs vd _ _ F905 F906 F907 F909 hvd F910 hl_s ntd).toF F905 (w 137 rfl) (decOf (w 138 rfl) (w 141 rfl)) (w 140 rfl) (w 138 rfl) (nfOf (w 140 rfl) rfl) (w 101 rfl) (w 141 rfl) (by decide) (by simp) (by decide) 0 (by decide) (by decide) (by decide) (lenOf pd_8 rfl) rfl (Nat.le_of_ble_eq_true rfl) (by rw [hml]; rfl) (D d19_30) ?_
  rintro T913 h914 _ _ X916 K917 hg918 ⟨rfl, rfl, A1⟩
  have F919 := F905.keep K917
  have F920 := F906.keep K917 (ninS (Exa.neArv F905 F909 (w 92 rfl)) nin0)
  have F921 := F907.keep K917 (ninS (Exa.neArv F905 F909 (w 92 rfl)) nin0)
  have F922 := F908.keep K917 (ninS (Exa.neArv F905 F909 (w 92 rfl)) nin0)
  have F923 := F910.keep K917 (ninS (Exa.neArv F910.1 F909 (w 2 rfl)) nin0) (ninS ntd nin0)
  show Goes p.tables e below _ (T913.setTop (mkF m 33 #[.val (.ref b), .val (.ref s), .val (.int (1 : Int32))] []))
  refine X916.aloadN (x := (.ref b)) (D d19_33) rfl rfl ?_
  refine X916.dup (D d19_34) rfl ?_
  refine X916.getf (w 130 rfl) Via.refl F922 (D d19_35) ?_
  intro T924 X925
  show Goes p.tables e below _ (T924.setTop (mkF m 38 #[.val (.ref b), .val (.ref s), .val (.int (1 : Int32))] [(.int (10 : Int32)), (.ref b)]))
  refine X925.iloadN (x := (1 : Int32)) (D d19_38) rfl ?_
  refine X925.iadd (D d19_39) ?_
  show Goes p.tables e below _ (T924.setTop (mkF m 40 #[.val (.ref b), .val (.ref s), .val (.int (1 : Int32))] [(.int (11 : Int32)), (.ref b)]))
  refine X925.putf (w 130 rfl) Via.refl F922 F919 (Or.inl (w 131 rfl)) (w 92 rfl) (ty := .int) (by decide) rfl rfl (D d19_40) (by simp) ?_
  intro T926 h927 X928 W929
  have F930 := F922.same W929
  have F931 := F919.wr W929
  have F932 := F920.other W929 (Or.inr (slot_ne (t := (.array .byte)) (t' := .int) (Or.inl (w 106 rfl)) (Or.inl (w 131 rfl)) (by decide) (by decide) (by decide)))
  have F933 := F921.other W929 (Or.inr (slot_ne (t := .byte) (t' := .int) (Or.inl (w 108 rfl)) (Or.inl (w 131 rfl)) (by decide) (by decide) (by decide)))
  have F934 := F923.wr W929 (Exa.ne F923.1 F919 (by decide)) (OStr.neT F923 F919 (w 92 rfl))
  have F935 := A1.other W929 (Exa.neArv F919 A1 (w 92 rfl)).symm
  show Goes p.tables e below _ (T926.setTop (mkF m 43 #[.val (.ref b), .val (.ref s), .val (.int (1 : Int32))] []))
  refine X928.aloadN (x := (.ref b)) (D d19_43) rfl rfl ?_
  exact X928.retA hret rfl rfl hlk (D d19_44) (by decide) (by decide) (⟨rfl, F931, F932, F933, F930, F935⟩)
set_option maxRecDepth 65536 in
set_option maxHeartbeats 40000000 in
theorem ctSBa10_1_16 (l : Launch) (Z : State) (a0 : Array Value) (hw : ∀ d ∈ tables_1, d.before a0 Z = true) (hEL : EW Z a0 consts_1) (z0 : Int32) (S0 : Sta Z Z.heap "java/lang/String" "COMPACT_STRINGS" "Z" (.int z0)) (hz0 : ¬ z0 = 0) (b d s t : Addr) (kd : ClassId) (cs : List Int32) (vd : List Value) (h0 : Heap) (n0 : Nat) (EB : Exa Z h0 b "java/lang/StringBuilder") (FV : Fld Z h0 b "java/lang/AbstractStringBuilder" "value" "[B" (.ref d)) (FC : Fld Z h0 b "java/lang/AbstractStringBuilder" "coder" "B" (.int (0 : Int32))) (FN : Fld Z h0 b "java/lang/AbstractStringBuilder" "count" "I" (.int (10 : Int32))) (AD : Arv Z h0 d kd .byte (16 : Int32) vd (.int 0)) (hvd : vd.length = 16) (OS : OStr Z h0 s t cs) (hl_s : cs.length = 1) (ntd : t ≠ d) :
    Ct l Z consts_1 [] (⟨"java/lang/StringBuilder", "append", "(Ljava/lang/String;)Ljava/lang/StringBuilder;"⟩ : MethodName) jdk_67_method_7_code 2 (some (.object "java/lang/StringBuilder")) ({ frames := 4, cells := 0, slots := 0, locals := 61 } : Room) #[(.ref b), (.ref s)] h0 n0 [b, d] (fun v h => v = some (.ref b) ∧ Exa Z h b "java/lang/StringBuilder" ∧ Fld Z h b "java/lang/AbstractStringBuilder" "value" "[B" (.ref d) ∧ Fld Z h b "java/lang/AbstractStringBuilder" "coder" "B" (.int (0 : Int32)) ∧ Fld Z h b "java/lang/AbstractStringBuilder" "count" "I" (.int (11 : Int32)) ∧ Arv Z h d kd .byte (16 : Int32) (vd.take 10 ++ ((cs.map StrChars.lo8).map Value.int) ++ vd.drop (10 + 1)) (.int 0)) := by
  have w : ∀ {d : Jvm.Cond} (i : Nat), tables_1[i]? = some d → d.before a0 Z = true := fun i q => hw _ (List.mem_of_getElem? q)
  refine Ct.enter (plainFor_of_name pn_3) hEL ?_
  intro p e sS m below meth c T0 hby hml0 hret hlk hnm hs0 X0
  have hml : c.maxLocals = 2 := hml0
  have D : ∀ {pc : Nat} {r : Except DecodeError (Instr × Nat)}, decode jdk_67_method_7_code pc = r → decode c.code pc = r := fun q => hb hby q
  rw [show entryFrame m #[(.ref b), (.ref s)] 2 = mkF m 0 #[.val (.ref b), .val (.ref s)] [] from by first | (simp [entryFrame, mkF, argsToLocals, Value.category]; done) | rfl]
  refine X0.aloadN (x := (.ref b)) (D d18_0) rfl rfl ?_
  refine X0.aloadN (x := (.ref s)) (D d18_1) rfl rfl ?_
  refine X0.callu (a := b) [(.ref s)] [] (ctAA10_1_16 l Z a0 hw hEL z0 S0 hz0 b d s t kd cs vd _ _ EB FV FC FN AD hvd OS hl_s ntd).toF EB (w 115 rfl) (smOf (w 116 rfl) (w 172 rfl) rfl (by decide)) (w 116 rfl) (w 117 rfl) (by decide) (w 101 rfl) (w 119 rfl) (by simp) (by decide) 0 (by decide) (by decide) (by decide) (lenOf pd_9 rfl) rfl (Nat.le_of_ble_eq_true rfl) (by rw [hml]; rfl) (D d18_2) ?_
  rintro T936 h937 _ _ X939 K940 hg941 ⟨rfl, rfl, E1, V1, C1, N1, A1⟩
  have F942 := EB.keep K940
  have F943 := OS.keep K940 (ninS (Exa.ne OS.1 EB (by decide)) (ninS (Exa.neArv OS.1 AD (w 2 rfl)) nin0)) (ninS (OStr.neT OS EB (w 92 rfl)) (ninS ntd nin0))
  show Goes p.tables e below _ (T936.setTop (mkF m 5 #[.val (.ref b), .val (.ref s)] [(.ref b)]))
  refine X939.pop (D d18_5) rfl ?_
  refine X939.aloadN (x := (.ref b)) (D d18_6) rfl rfl ?_
  exact X939.retA hret rfl rfl hlk (D d18_7) (by decide) (by decide) (⟨rfl, E1, V1, C1, N1, A1⟩)
set_option maxRecDepth 65536 in
set_option maxHeartbeats 40000000 in
theorem ctCL11_16 (l : Launch) (Z : State) (a0 : Array Value) (hw : ∀ d ∈ tables_1, d.before a0 Z = true) (hEL : EW Z a0 consts_1) (z0 : Int32) (S0 : Sta Z Z.heap "java/lang/String" "COMPACT_STRINGS" "Z" (.int z0)) (hz0 : ¬ z0 = 0)  (h0 : Heap) (n0 : Nat)  :
    Ct l Z consts_1 [] (⟨"java/util/Arrays", "checkLength", "(II)V"⟩ : MethodName) jdk_65_method_131_code 2 none ({ frames := 0, cells := 0, slots := 0, locals := 0 } : Room) #[(.int (0 : Int32)), (.int (11 : Int32))] h0 n0 [] (fun v _ => v = none) := by
  have w : ∀ {d : Jvm.Cond} (i : Nat), tables_1[i]? = some d → d.before a0 Z = true := fun i q => hw _ (List.mem_of_getElem? q)
  refine Ct.enter (plainFor_of_name pn_5) hEL ?_
  intro p e sS m below meth c T0 hby hml0 hret hlk hnm hs0 X0
  have hml : c.maxLocals = 2 := hml0
  have D : ∀ {pc : Nat} {r : Except DecodeError (Instr × Nat)}, decode jdk_65_method_131_code pc = r → decode c.code pc = r := fun q => hb hby q
  rw [show entryFrame m #[(.int (0 : Int32)), (.int (11 : Int32))] 2 = mkF m 0 #[.val (.int (0 : Int32)), .val (.int (11 : Int32))] [] from by first | (simp [entryFrame, mkF, argsToLocals, Value.category]; done) | rfl]
  refine X0.iloadN (x := (11 : Int32)) (D d35_0) rfl ?_
  refine X0.iloadN (x := (0 : Int32)) (D d35_1) rfl ?_
  refine X0.icmp_ge 37 (D d35_2) ⟨by decide, by decide⟩ (fun hc944 => ?_) (fun hc944 => absurd hc944 (by decide))
  exact X0.retn hret hlk (D d35_37) (by decide) (by decide) (rfl)
set_option maxRecDepth 65536 in
set_option maxHeartbeats 40000000 in
theorem ctMn11_16 (l : Launch) (Z : State) (a0 : Array Value) (hw : ∀ d ∈ tables_1, d.before a0 Z = true) (hEL : EW Z a0 consts_1) (z0 : Int32) (S0 : Sta Z Z.heap "java/lang/String" "COMPACT_STRINGS" "Z" (.int z0)) (hz0 : ¬ z0 = 0)  (h0 : Heap) (n0 : Nat)  :
    Ct l Z consts_1 [] (⟨"java/lang/Math", "min", "(II)I"⟩ : MethodName) jdk_29_method_69_code 2 (some .int) ({ frames := 0, cells := 0, slots := 0, locals := 0 } : Room) #[(.int (16 : Int32)), (.int (11 : Int32))] h0 n0 [] (fun v _ => v = some (.int (11 : Int32))) := by
  have w : ∀ {d : Jvm.Cond} (i : Nat), tables_1[i]? = some d → d.before a0 Z = true := fun i q => hw _ (List.mem_of_getElem? q)
  refine Ct.enter (Jvm.Free.JP.mathPlain rfl (by decide)) hEL ?_
  intro p e sS m below meth c T0 hby hml0 hret hlk hnm hs0 X0
  have hml : c.maxLocals = 2 := hml0
  have D : ∀ {pc : Nat} {r : Except DecodeError (Instr × Nat)}, decode jdk_29_method_69_code pc = r → decode c.code pc = r := fun q => hb hby q
  rw [show entryFrame m #[(.int (16 : Int32)), (.int (11 : Int32))] 2 = mkF m 0 #[.val (.int (16 : Int32)), .val (.int (11 : Int32))] [] from by first | (simp [entryFrame, mkF, argsToLocals, Value.category]; done) | rfl]
  refine X0.iloadN (x := (16 : Int32)) (D d36_0) rfl ?_
  refine X0.iloadN (x := (11 : Int32)) (D d36_1) rfl ?_
  refine X0.icmp_gt 9 (D d36_2) ⟨by decide, by decide⟩ (fun hc945 => ?_) (fun hc945 => absurd hc945 (by decide))
  refine X0.iloadN (x := (11 : Int32)) (D d36_9) rfl ?_
  exact X0.retI hret hlk (D d36_10) (by decide) (by decide) (rfl)
set_option maxRecDepth 65536 in
set_option maxHeartbeats 40000000 in
theorem ctRB11_16 (l : Launch) (Z : State) (a0 : Array Value) (hw : ∀ d ∈ tables_1, d.before a0 Z = true) (hEL : EW Z a0 consts_1) (z0 : Int32) (S0 : Sta Z Z.heap "java/lang/String" "COMPACT_STRINGS" "Z" (.int z0)) (hz0 : ¬ z0 = 0) (d : Addr) (kd : ClassId) (vd xs : List Value) (h0 : Heap) (n0 : Nat) (AD : Arv Z h0 d kd .byte (16 : Int32) vd (.int 0)) (hxs : xs = (List.range 11).map fun i => vd.getD (0 + i) (.int 0)) :
    Ct l Z consts_1 [] (⟨"java/util/Arrays", "copyOfRangeByte", "([BII)[B"⟩ : MethodName) jdk_65_method_133_code 5 (some (.array .byte)) ({ frames := 1, cells := 1, slots := 11, locals := 18 } : Room) #[(.ref d), (.int (0 : Int32)), (.int (11 : Int32))] h0 n0 [] (fun v h => ∃ (r : Addr) (kr : ClassId), v = some (.ref r) ∧ Arv Z h r kr .byte (11 : Int32) xs (.int 0)) := by
  have w : ∀ {d : Jvm.Cond} (i : Nat), tables_1[i]? = some d → d.before a0 Z = true := fun i q => hw _ (List.mem_of_getElem? q)
  refine Ct.enter (plainFor_of_name pn_5) hEL ?_
  intro p e sS m below meth c T0 hby hml0 hret hlk hnm hs0 X0
  have hml : c.maxLocals = 5 := hml0
  have D : ∀ {pc : Nat} {r : Except DecodeError (Instr × Nat)}, decode jdk_65_method_133_code pc = r → decode c.code pc = r := fun q => hb hby q
  rw [show entryFrame m #[(.ref d), (.int (0 : Int32)), (.int (11 : Int32))] 5 = mkF m 0 #[.val (.ref d), .val (.int (0 : Int32)), .val (.int (11 : Int32)), .unset, .unset] [] from by first | (simp [entryFrame, mkF, argsToLocals, Value.category]; done) | rfl]
  refine X0.iloadN (x := (0 : Int32)) (D d34_0) rfl ?_
  refine X0.iloadN (x := (11 : Int32)) (D d34_1) rfl ?_
  refine X0.callsF [(.int (0 : Int32)), (.int (11 : Int32))] [] (ctCL11_16 l Z a0 hw hEL z0 S0 hz0 _ _).toF (w 194 rfl) (w 195 rfl) (w 189 rfl) (w 196 rfl) (by decide) (fun _ q => nomatch q) (by decide) 0 (by decide) (by decide) (by decide) (lenOf pd_10 rfl) rfl (Nat.le_of_ble_eq_true rfl) (by rw [hml]; rfl) (D d34_2) ?_
  rintro T946 h947 _ _ X949 K950 hg951 ⟨rfl, rfl⟩
  have F952 := AD.keep K950 nin0
  show Goes p.tables e below _ (T946.setTop (mkF m 5 #[.val (.ref d), .val (.int (0 : Int32)), .val (.int (11 : Int32)), .unset, .unset] []))
  refine X949.iloadN (x := (11 : Int32)) (D d34_5) rfl ?_
  refine X949.iloadN (x := (0 : Int32)) (D d34_6) rfl ?_
  refine X949.isub (D d34_7) ?_
  show Goes p.tables e below _ (T946.setTop (mkF m 8 #[.val (.ref d), .val (.int (0 : Int32)), .val (.int (11 : Int32)), .unset, .unset] [(.int (11 : Int32))]))
  refine X949.istoreN #[.val (.ref d), .val (.int (0 : Int32)), .val (.int (11 : Int32)), .val (.int (11 : Int32)), .unset] (D d34_8) rfl ?_
  refine X949.iloadN (x := (11 : Int32)) (D d34_9) rfl ?_
  refine X949.newarr (w 15 rfl) (n := (11 : Int32)) (D d34_10) (by decide) 11 (by decide) (by decide) (by decide) (by decide) ?_
  intro T953 h954 b955 kb956 g957 X958 E959 A960
  have F961 := F952.ext E959
  have lt962 : d < b955 := by rw [g957]; exact F952.lt
  have F963 : Arv Z h954 b955 kb956 .byte (11 : Int32) [(.int (0 : Int32)), (.int (0 : Int32)), (.int (0 : Int32)), (.int (0 : Int32)), (.int (0 : Int32)), (.int (0 : Int32)), (.int (0 : Int32)), (.int (0 : Int32)), (.int (0 : Int32)), (.int (0 : Int32)), (.int (0 : Int32))] (.int (0 : Int32)) := A960.pad (pad_rep [] (.int (0 : Int32)) 11)
  show Goes p.tables e below _ (T953.setTop (mkF m 12 #[.val (.ref d), .val (.int (0 : Int32)), .val (.int (11 : Int32)), .val (.int (11 : Int32)), .unset] [(.ref b955)]))
  refine X958.astore #[.val (.ref d), .val (.int (0 : Int32)), .val (.int (11 : Int32)), .val (.int (11 : Int32)), .val (.ref b955)] (D d34_12) rfl rfl ?_
  refine X958.aloadN (x := (.ref d)) (D d34_14) rfl rfl ?_
  refine X958.iloadN (x := (0 : Int32)) (D d34_15) rfl ?_
  refine X958.aload (x := (.ref b955)) (D d34_16) rfl rfl ?_
  refine X958.iconst (x := (0 : Int32)) (D d34_18) rfl ?_
  refine X958.aloadN (x := (.ref d)) (D d34_19) rfl rfl ?_
  refine X958.alen F961 (D d34_20) ?_
  refine X958.iloadN (x := (0 : Int32)) (D d34_21) rfl ?_
  refine X958.isub (D d34_22) ?_
  show Goes p.tables e below _ (T953.setTop (mkF m 23 #[.val (.ref d), .val (.int (0 : Int32)), .val (.int (11 : Int32)), .val (.int (11 : Int32)), .val (.ref b955)] [(.int (16 : Int32)), (.int (0 : Int32)), (.ref b955), (.int (0 : Int32)), (.ref d)]))
  refine X958.iloadN (x := (11 : Int32)) (D d34_23) rfl ?_
  refine X958.callsF [(.int (16 : Int32)), (.int (11 : Int32))] [(.int (0 : Int32)), (.ref b955), (.int (0 : Int32)), (.ref d)] (ctMn11_16 l Z a0 hw hEL z0 S0 hz0 _ _).toF (w 197 rfl) (w 198 rfl) (w 199 rfl) (w 200 rfl) (by decide) (fun _ q => nomatch q) (by decide) 4 (by decide) (by decide) (by decide) (lenOf pd_11 rfl) rfl (Nat.le_of_ble_eq_true rfl) (by rw [hml]; rfl) (D d34_24) ?_
  rintro T964 h965 _ _ X967 K968 hg969 ⟨rfl, rfl⟩
  have F970 := F961.keep K968 nin0
  have F971 := F963.keep K968 nin0
  show Goes p.tables e below _ (T964.setTop (mkF m 27 #[.val (.ref d), .val (.int (0 : Int32)), .val (.int (11 : Int32)), .val (.int (11 : Int32)), .val (.ref b955)] [(.int (11 : Int32)), (.int (0 : Int32)), (.ref b955), (.int (0 : Int32)), (.ref d)]))
  show Goes p.tables e below _ (T964.setTop (mkF m 27 #[.val (.ref d), .val (.int (0 : Int32)), .val (.int (11 : Int32)), .val (.int (11 : Int32)), .val (.ref b955)] [(.int (11 : Int32)), (.int (0 : Int32)), (.ref b955), (.int (0 : Int32)), (.ref d)]))
  refine X967.acopy (us := xs) (w 201 rfl) (w 156 rfl) (w 154 rfl) (w 155 rfl) F970 F971 (by decide) (by decide) (by decide) (by decide) (by decide) hxs (by decide) (by simp) (by rw [hml]; rfl) (D d34_27) (by decide) 0 (Nat.le_of_ble_eq_true rfl) (by decide) ?_
  intro T972 h973 X974 K975 B976
  have F977 := F970.keep K975 (ninS (Nat.ne_of_lt lt962) nin0)
  show Goes p.tables e below _ (T972.setTop (mkF m 30 #[.val (.ref d), .val (.int (0 : Int32)), .val (.int (11 : Int32)), .val (.int (11 : Int32)), .val (.ref b955)] []))
  refine X974.aload (x := (.ref b955)) (D d34_30) rfl rfl ?_
  have hz : ([(.int (0 : Int32)), (.int (0 : Int32)), (.int (0 : Int32)), (.int (0 : Int32)), (.int (0 : Int32)), (.int (0 : Int32)), (.int (0 : Int32)), (.int (0 : Int32)), (.int (0 : Int32)), (.int (0 : Int32)), (.int (0 : Int32))] : List Value).take 0 ++ xs ++ ([(.int (0 : Int32)), (.int (0 : Int32)), (.int (0 : Int32)), (.int (0 : Int32)), (.int (0 : Int32)), (.int (0 : Int32)), (.int (0 : Int32)), (.int (0 : Int32)), (.int (0 : Int32)), (.int (0 : Int32)), (.int (0 : Int32))] : List Value).drop (0 + 11) = xs := by simp
  exact X974.retA hret rfl rfl hlk (D d34_32) (by decide) (by decide) (⟨_, _, rfl, by have q := B976; rw [← hz]; exact q⟩)
set_option maxRecDepth 65536 in
set_option maxHeartbeats 40000000 in
theorem ctCR11_16 (l : Launch) (Z : State) (a0 : Array Value) (hw : ∀ d ∈ tables_1, d.before a0 Z = true) (hEL : EW Z a0 consts_1) (z0 : Int32) (S0 : Sta Z Z.heap "java/lang/String" "COMPACT_STRINGS" "Z" (.int z0)) (hz0 : ¬ z0 = 0) (d : Addr) (kd : ClassId) (vd xs : List Value) (h0 : Heap) (n0 : Nat) (AD : Arv Z h0 d kd .byte (16 : Int32) vd (.int 0)) (hxs : xs = (List.range 11).map fun i => vd.getD (0 + i) (.int 0)) :
    Ct l Z consts_1 [] (⟨"java/util/Arrays", "copyOfRange", "([BII)[B"⟩ : MethodName) jdk_65_method_132_code 3 (some (.array .byte)) ({ frames := 2, cells := 1, slots := 11, locals := 34 } : Room) #[(.ref d), (.int (0 : Int32)), (.int (11 : Int32))] h0 n0 [] (fun v h => ∃ (r : Addr) (kr : ClassId), v = some (.ref r) ∧ Arv Z h r kr .byte (11 : Int32) xs (.int 0)) := by
  have w : ∀ {d : Jvm.Cond} (i : Nat), tables_1[i]? = some d → d.before a0 Z = true := fun i q => hw _ (List.mem_of_getElem? q)
  refine Ct.enter (plainFor_of_name pn_5) hEL ?_
  intro p e sS m below meth c T0 hby hml0 hret hlk hnm hs0 X0
  have hml : c.maxLocals = 3 := hml0
  have D : ∀ {pc : Nat} {r : Except DecodeError (Instr × Nat)}, decode jdk_65_method_132_code pc = r → decode c.code pc = r := fun q => hb hby q
  rw [show entryFrame m #[(.ref d), (.int (0 : Int32)), (.int (11 : Int32))] 3 = mkF m 0 #[.val (.ref d), .val (.int (0 : Int32)), .val (.int (11 : Int32))] [] from by first | (simp [entryFrame, mkF, argsToLocals, Value.category]; done) | rfl]
  refine X0.iloadN (x := (0 : Int32)) (D d33_0) rfl ?_
  refine X0.if_ne 10 (D d33_1) ⟨by decide, by decide⟩ (fun hc978 => absurd hc978 (by decide)) (fun hc978 => ?_)
  refine X0.iloadN (x := (11 : Int32)) (D d33_4) rfl ?_
  refine X0.aloadN (x := (.ref d)) (D d33_5) rfl rfl ?_
  refine X0.alen AD (D d33_6) ?_
  refine X0.icmp_eq 17 (D d33_7) ⟨by decide, by decide⟩ (fun hc979 => absurd hc979 (by decide)) (fun hc979 => ?_)
  refine X0.aloadN (x := (.ref d)) (D d33_10) rfl rfl ?_
  refine X0.iloadN (x := (0 : Int32)) (D d33_11) rfl ?_
  refine X0.iloadN (x := (11 : Int32)) (D d33_12) rfl ?_
  refine X0.callsF [(.ref d), (.int (0 : Int32)), (.int (11 : Int32))] [] (ctRB11_16 l Z a0 hw hEL z0 S0 hz0 d kd vd xs _ _ AD hxs).toF (w 191 rfl) (w 192 rfl) (w 189 rfl) (w 193 rfl) (by decide) (fun _ q => nomatch q) (by decide) 0 (by decide) (by decide) (by decide) (lenOf pd_12 rfl) rfl (Nat.le_of_ble_eq_true rfl) (by rw [hml]; rfl) (D d33_13) ?_
  rintro T980 h981 _ _ X983 K984 hg985 ⟨rfl, r, kr, rfl, A1⟩
  have F986 := AD.keep K984 nin0
  show Goes p.tables e below _ (T980.setTop (mkF m 16 #[.val (.ref d), .val (.int (0 : Int32)), .val (.int (11 : Int32))] [(.ref r)]))
  exact X983.retA hret rfl rfl hlk (D d33_16) (by decide) (by decide) (⟨r, kr, rfl, A1⟩)
set_option maxRecDepth 65536 in
set_option maxHeartbeats 40000000 in
theorem ctAL11 (l : Launch) (Z : State) (a0 : Array Value) (hw : ∀ d ∈ tables_1, d.before a0 Z = true) (hEL : EW Z a0 consts_1) (z0 : Int32) (S0 : Sta Z Z.heap "java/lang/String" "COMPACT_STRINGS" "Z" (.int z0)) (hz0 : ¬ z0 = 0) (b d : Addr) (h0 : Heap) (n0 : Nat) (EB : Exa Z h0 b "java/lang/StringBuilder") (FV : Fld Z h0 b "java/lang/AbstractStringBuilder" "value" "[B" (.ref d)) (FC : Fld Z h0 b "java/lang/AbstractStringBuilder" "coder" "B" (.int (0 : Int32))) (FN : Fld Z h0 b "java/lang/AbstractStringBuilder" "count" "I" (.int (11 : Int32))) :
    Ct l Z consts_1 [] (⟨"java/lang/AbstractStringBuilder", "length", "()I"⟩ : MethodName) jdk_68_method_6_code 1 (some .int) ({ frames := 0, cells := 0, slots := 0, locals := 0 } : Room) #[(.ref b)] h0 n0 [] (fun v _ => v = some (.int (11 : Int32))) := by
  have w : ∀ {d : Jvm.Cond} (i : Nat), tables_1[i]? = some d → d.before a0 Z = true := fun i q => hw _ (List.mem_of_getElem? q)
  refine Ct.enter (plainFor_of_name pn_2) hEL ?_
  intro p e sS m below meth c T0 hby hml0 hret hlk hnm hs0 X0
  have hml : c.maxLocals = 1 := hml0
  have D : ∀ {pc : Nat} {r : Except DecodeError (Instr × Nat)}, decode jdk_68_method_6_code pc = r → decode c.code pc = r := fun q => hb hby q
  rw [show entryFrame m #[(.ref b)] 1 = mkF m 0 #[.val (.ref b)] [] from by first | (simp [entryFrame, mkF, argsToLocals, Value.category]; done) | rfl]
  refine X0.aloadN (x := (.ref b)) (D d31_0) rfl rfl ?_
  refine X0.getf (w 130 rfl) Via.refl FN (D d31_1) ?_
  intro T987 X988
  show Goes p.tables e below _ (T987.setTop (mkF m 4 #[.val (.ref b)] [(.int (11 : Int32))]))
  exact X988.retI hret hlk (D d31_4) (by decide) (by decide) (rfl)
set_option maxRecDepth 65536 in
set_option maxHeartbeats 40000000 in
theorem ctSL11 (l : Launch) (Z : State) (a0 : Array Value) (hw : ∀ d ∈ tables_1, d.before a0 Z = true) (hEL : EW Z a0 consts_1) (z0 : Int32) (S0 : Sta Z Z.heap "java/lang/String" "COMPACT_STRINGS" "Z" (.int z0)) (hz0 : ¬ z0 = 0) (b d : Addr) (h0 : Heap) (n0 : Nat) (EB : Exa Z h0 b "java/lang/StringBuilder") (FV : Fld Z h0 b "java/lang/AbstractStringBuilder" "value" "[B" (.ref d)) (FC : Fld Z h0 b "java/lang/AbstractStringBuilder" "coder" "B" (.int (0 : Int32))) (FN : Fld Z h0 b "java/lang/AbstractStringBuilder" "count" "I" (.int (11 : Int32))) :
    Ct l Z consts_1 [] (⟨"java/lang/StringBuilder", "length", "()I"⟩ : MethodName) jdk_67_method_93_code 1 (some .int) ({ frames := 1, cells := 0, slots := 0, locals := 12 } : Room) #[(.ref b)] h0 n0 [] (fun v _ => v = some (.int (11 : Int32))) := by
  have w : ∀ {d : Jvm.Cond} (i : Nat), tables_1[i]? = some d → d.before a0 Z = true := fun i q => hw _ (List.mem_of_getElem? q)
  refine Ct.enter (plainFor_of_name pn_3) hEL ?_
  intro p e sS m below meth c T0 hby hml0 hret hlk hnm hs0 X0
  have hml : c.maxLocals = 1 := hml0
  have D : ∀ {pc : Nat} {r : Except DecodeError (Instr × Nat)}, decode jdk_67_method_93_code pc = r → decode c.code pc = r := fun q => hb hby q
  rw [show entryFrame m #[(.ref b)] 1 = mkF m 0 #[.val (.ref b)] [] from by first | (simp [entryFrame, mkF, argsToLocals, Value.category]; done) | rfl]
  refine X0.aloadN (x := (.ref b)) (D d30_0) rfl rfl ?_
  refine X0.callu (a := b) [] [] (ctAL11 l Z a0 hw hEL z0 S0 hz0 b d _ _ EB FV FC FN).toF EB (w 180 rfl) (smOf (w 176 rfl) (w 172 rfl) rfl (by decide)) (w 176 rfl) (w 117 rfl) (by decide) (w 101 rfl) (w 181 rfl) (fun _ q => nomatch q) (by decide) 0 (by decide) (by decide) (by decide) (lenOf pd_7 rfl) rfl (Nat.le_of_ble_eq_true rfl) (by rw [hml]; rfl) (D d30_1) ?_
  rintro T989 h990 _ _ X992 K993 hg994 ⟨rfl, rfl⟩
  have F995 := EB.keep K993
  have F996 := FV.keep K993 nin0
  have F997 := FC.keep K993 nin0
  have F998 := FN.keep K993 nin0
  show Goes p.tables e below _ (T989.setTop (mkF m 4 #[.val (.ref b)] [(.int (11 : Int32))]))
  exact X992.retI hret hlk (D d30_4) (by decide) (by decide) (rfl)
set_option maxRecDepth 65536 in
set_option maxHeartbeats 40000000 in
theorem ctIV11_16 (l : Launch) (Z : State) (a0 : Array Value) (hw : ∀ d ∈ tables_1, d.before a0 Z = true) (hEL : EW Z a0 consts_1) (z0 : Int32) (S0 : Sta Z Z.heap "java/lang/String" "COMPACT_STRINGS" "Z" (.int z0)) (hz0 : ¬ z0 = 0) (a b d : Addr) (kd : ClassId) (vd : List Value) (ds : List Int32) (h0 : Heap) (n0 : Nat) (EB : Exa Z h0 b "java/lang/StringBuilder") (FV : Fld Z h0 b "java/lang/AbstractStringBuilder" "value" "[B" (.ref d)) (FC : Fld Z h0 b "java/lang/AbstractStringBuilder" "coder" "B" (.int (0 : Int32))) (FN : Fld Z h0 b "java/lang/AbstractStringBuilder" "count" "I" (.int (11 : Int32))) (AD : Arv Z h0 d kd .byte (16 : Int32) vd (.int 0)) (hvd : vd.length = 16) (hp : ∀ c ∈ ds, ¬ c < 0 ∧ ¬ (255 : Int32) < c) (hds : ds.length = 11) (hxs : ((ds.map StrChars.lo8).map Value.int) = (List.range 11).map fun i => vd.getD (0 + i) (.int 0)) (E0 : Exa Z h0 a "java/lang/String") (F0 : Fld Z h0 a "java/lang/String" "value" "[B" .null) (F1 : Fld Z h0 a "java/lang/String" "coder" "B" (.int (0 : Int32))) :
    Ct l Z consts_1 [] (⟨"java/lang/String", "<init>", "(Ljava/lang/AbstractStringBuilder;Ljava/lang/Void;)V"⟩ : MethodName) jdk_42_method_150_code 5 none ({ frames := 3, cells := 1, slots := 11, locals := 49 } : Room) #[(.ref a), (.ref b), .null] h0 n0 [a] (fun v h => v = none ∧ ∃ t : Addr, OStr Z h a t ds) := by
  have w : ∀ {d : Jvm.Cond} (i : Nat), tables_1[i]? = some d → d.before a0 Z = true := fun i q => hw _ (List.mem_of_getElem? q)
  refine Ct.enter (plainFor_of_name pn_1) hEL ?_
  intro p e sS m below meth c T0 hby hml0 hret hlk hnm hs0 X0
  have hml : c.maxLocals = 5 := hml0
  have D : ∀ {pc : Nat} {r : Except DecodeError (Instr × Nat)}, decode jdk_42_method_150_code pc = r → decode c.code pc = r := fun q => hb hby q
  rw [show entryFrame m #[(.ref a), (.ref b), .null] 5 = mkF m 0 #[.val (.ref a), .val (.ref b), .val .null, .unset, .unset] [] from by first | (simp [entryFrame, mkF, argsToLocals, Value.category]; done) | rfl]
  refine X0.aloadN (x := (.ref a)) (D d28_0) rfl rfl ?_
  refine X0.inito (w 11 rfl) (w 12 rfl) (w 13 rfl) (D d28_1) (by rw [hml]; rfl) (by decide) 0 (Nat.le_of_ble_eq_true rfl) (by decide) ?_
  intro T999 X1000
  show Goes p.tables e below _ (T999.setTop (mkF m 4 #[.val (.ref a), .val (.ref b), .val .null, .unset, .unset] []))
  refine X1000.aloadN (x := (.ref b)) (D d28_4) rfl rfl ?_
  refine X1000.callvF (y := (⟨"java/lang/AbstractStringBuilder", "getValue", "()[B"⟩ : MethodName)) (z := (⟨"java/lang/AbstractStringBuilder", "getValue", "()[B"⟩ : MethodName)) (a := b) (C := "java/lang/StringBuilder") [] [] (ctGV l Z a0 hw hEL z0 S0 hz0 b d _ _ EB FV FC).toF EB (w 169 rfl) (w 170 rfl) (w 172 rfl) (w 171 rfl) (nfOf (w 172 rfl) rfl) (w 101 rfl) (w 173 rfl) (by decide) (fun _ q => nomatch q) (by decide) 0 (by decide) (by decide) (by decide) (lenOf pd_13 rfl) rfl (Nat.le_of_ble_eq_true rfl) (by rw [hml]; rfl) (D d28_5) ?_
  rintro T1001 h1002 _ _ X1004 K1005 hg1006 ⟨rfl, rfl⟩
  have F1007 := EB.keep K1005
  have F1008 := FV.keep K1005 nin0
  have F1009 := FC.keep K1005 nin0
  have F1010 := FN.keep K1005 nin0
  have F1011 := AD.keep K1005 nin0
  have F1012 := E0.keep K1005
  have F1013 := F0.keep K1005 nin0
  have F1014 := F1.keep K1005 nin0
  show Goes p.tables e below _ (T1001.setTop (mkF m 8 #[.val (.ref a), .val (.ref b), .val .null, .unset, .unset] [(.ref d)]))
  refine X1004.astoreN #[.val (.ref a), .val (.ref b), .val .null, .val (.ref d), .unset] (D d28_8) rfl rfl ?_
  refine X1004.aloadN (x := (.ref b)) (D d28_9) rfl rfl ?_
  refine X1004.callvF (y := (⟨"java/lang/AbstractStringBuilder", "length", "()I"⟩ : MethodName)) (z := (⟨"java/lang/StringBuilder", "length", "()I"⟩ : MethodName)) (a := b) (C := "java/lang/StringBuilder") [] [] (ctSL11 l Z a0 hw hEL z0 S0 hz0 b d _ _ F1007 F1008 F1009 F1010).toF F1007 (w 174 rfl) (w 175 rfl) (w 177 rfl) (w 178 rfl) (nfOf (w 172 rfl) rfl) (w 93 rfl) (w 179 rfl) (by decide) (fun _ q => nomatch q) (by decide) 0 (by decide) (by decide) (by decide) (lenOf pd_7 rfl) rfl (Nat.le_of_ble_eq_true rfl) (by rw [hml]; rfl) (D d28_10) ?_
  rintro T1015 h1016 _ _ X1018 K1019 hg1020 ⟨rfl, rfl⟩
  have F1021 := F1007.keep K1019
  have F1022 := F1008.keep K1019 nin0
  have F1023 := F1009.keep K1019 nin0
  have F1024 := F1010.keep K1019 nin0
  have F1025 := F1011.keep K1019 nin0
  have F1026 := F1012.keep K1019
  have F1027 := F1013.keep K1019 nin0
  have F1028 := F1014.keep K1019 nin0
  show Goes p.tables e below _ (T1015.setTop (mkF m 13 #[.val (.ref a), .val (.ref b), .val .null, .val (.ref d), .unset] [(.int (11 : Int32))]))
  refine X1018.istore #[.val (.ref a), .val (.ref b), .val .null, .val (.ref d), .val (.int (11 : Int32))] (D d28_13) rfl ?_
  refine X1018.aloadN (x := (.ref b)) (D d28_15) rfl rfl ?_
  refine X1018.callvF (y := (⟨"java/lang/AbstractStringBuilder", "isLatin1", "()Z"⟩ : MethodName)) (z := (⟨"java/lang/AbstractStringBuilder", "isLatin1", "()Z"⟩ : MethodName)) (a := b) (C := "java/lang/StringBuilder") [] [] (ctIL l Z a0 hw hEL z0 S0 hz0 b d _ _ F1021 F1022 F1023).toF F1021 (w 182 rfl) (w 183 rfl) (w 185 rfl) (w 184 rfl) (nfOf (w 185 rfl) rfl) (w 101 rfl) (w 186 rfl) (by decide) (fun _ q => nomatch q) (by decide) 0 (by decide) (by decide) (by decide) (lenOf pd_14 rfl) rfl (Nat.le_of_ble_eq_true rfl) (by rw [hml]; rfl) (D d28_16) ?_
  rintro T1029 h1030 _ _ X1032 K1033 hg1034 ⟨rfl, rfl⟩
  have F1035 := F1021.keep K1033
  have F1036 := F1022.keep K1033 nin0
  have F1037 := F1023.keep K1033 nin0
  have F1038 := F1024.keep K1033 nin0
  have F1039 := F1025.keep K1033 nin0
  have F1040 := F1026.keep K1033
  have F1041 := F1027.keep K1033 nin0
  have F1042 := F1028.keep K1033 nin0
  show Goes p.tables e below _ (T1029.setTop (mkF m 19 #[.val (.ref a), .val (.ref b), .val .null, .val (.ref d), .val (.int (11 : Int32))] [(.int (1 : Int32))]))
  refine X1032.if_eq 41 (D d28_19) ⟨by decide, by decide⟩ (fun hc1043 => absurd hc1043 (by decide)) (fun hc1043 => ?_)
  refine X1032.aloadN (x := (.ref a)) (D d28_22) rfl rfl ?_
  refine X1032.iconst (x := (0 : Int32)) (D d28_23) rfl ?_
  refine X1032.putf (w 21 rfl) Via.refl F1042 F1040 (Or.inr ⟨(w 17 rfl), rfl, hnm⟩) (w 2 rfl) (ty := .byte) (by decide) rfl rfl (D d28_24) (by simp) ?_
  intro T1044 h1045 X1046 W1047
  have F1048 := F1042.same W1047
  have F1049 := F1035.wr W1047
  have F1050 := F1036.other W1047 (Or.inl (Exa.ne F1035 F1040 (by decide)))
  have F1051 := F1037.other W1047 (Or.inl (Exa.ne F1035 F1040 (by decide)))
  have F1052 := F1038.other W1047 (Or.inl (Exa.ne F1035 F1040 (by decide)))
  have F1053 := F1039.other W1047 (Exa.neArv F1040 F1039 (w 2 rfl)).symm
  have F1054 := F1040.wr W1047
  have F1055 := F1041.other W1047 (Or.inr (slot_ne (t := (.array .byte)) (t' := .byte) (Or.inr (w 16 rfl)) (Or.inr (w 17 rfl)) (by decide) (by decide) (by decide)))
  show Goes p.tables e below _ (T1044.setTop (mkF m 27 #[.val (.ref a), .val (.ref b), .val .null, .val (.ref d), .val (.int (11 : Int32))] []))
  refine X1046.aloadN (x := (.ref a)) (D d28_27) rfl rfl ?_
  refine X1046.aloadN (x := (.ref d)) (D d28_28) rfl rfl ?_
  refine X1046.iconst (x := (0 : Int32)) (D d28_29) rfl ?_
  refine X1046.iload (x := (11 : Int32)) (D d28_30) rfl ?_
  refine X1046.callsF [(.ref d), (.int (0 : Int32)), (.int (11 : Int32))] [(.ref a)] (ctCR11_16 l Z a0 hw hEL z0 S0 hz0 d kd vd _ _ _ F1053 hxs).toF (w 187 rfl) (w 188 rfl) (w 189 rfl) (w 190 rfl) (by decide) (fun _ q => nomatch q) (by decide) 1 (by decide) (by decide) (by decide) (lenOf pd_12 rfl) rfl (Nat.le_of_ble_eq_true rfl) (by rw [hml]; rfl) (D d28_32) ?_
  rintro T1056 h1057 _ _ X1059 K1060 hg1061 ⟨rfl, r, kr, rfl, A1⟩
  have F1062 := F1049.keep K1060
  have F1063 := F1050.keep K1060 nin0
  have F1064 := F1051.keep K1060 nin0
  have F1065 := F1052.keep K1060 nin0
  have F1066 := F1053.keep K1060 nin0
  have F1067 := F1054.keep K1060
  have F1068 := F1055.keep K1060 nin0
  have F1069 := F1048.keep K1060 nin0
  show Goes p.tables e below _ (T1056.setTop (mkF m 35 #[.val (.ref a), .val (.ref b), .val .null, .val (.ref d), .val (.int (11 : Int32))] [(.ref r), (.ref a)]))
  refine X1059.putf (w 20 rfl) Via.refl F1068 F1067 (Or.inr ⟨(w 16 rfl), rfl, hnm⟩) (w 2 rfl) (ty := (.array .byte)) (by decide) rfl rfl (D d28_35) (by simp) ?_
  intro T1070 h1071 X1072 W1073
  have F1074 := F1068.same W1073
  have F1075 := F1062.wr W1073
  have F1076 := F1063.other W1073 (Or.inl (Exa.ne F1062 F1067 (by decide)))
  have F1077 := F1064.other W1073 (Or.inl (Exa.ne F1062 F1067 (by decide)))
  have F1078 := F1065.other W1073 (Or.inl (Exa.ne F1062 F1067 (by decide)))
  have F1079 := F1066.other W1073 (Exa.neArv F1067 F1066 (w 2 rfl)).symm
  have F1080 := F1067.wr W1073
  have F1081 := F1069.other W1073 (Or.inr (slot_ne (t := .byte) (t' := (.array .byte)) (Or.inr (w 17 rfl)) (Or.inr (w 16 rfl)) (by decide) (by decide) (by decide)))
  have F1082 := A1.other W1073 (Exa.neArv F1067 A1 (w 2 rfl)).symm
  show Goes p.tables e below _ (T1070.setTop (mkF m 38 #[.val (.ref a), .val (.ref b), .val .null, .val (.ref d), .val (.int (11 : Int32))] []))
  refine X1072.goto 97 (D d28_38) ⟨by decide, by decide⟩ ?_
  exact X1072.retn hret hlk (D d28_97) (by decide) (by decide) (⟨rfl, r, OStr.mk F1080 F1074 F1081 (by rw [hds]; exact F1082) hp (by rw [hds]; decide)⟩)
set_option maxRecDepth 65536 in
set_option maxHeartbeats 40000000 in
theorem ctIS11_16 (l : Launch) (Z : State) (a0 : Array Value) (hw : ∀ d ∈ tables_1, d.before a0 Z = true) (hEL : EW Z a0 consts_1) (z0 : Int32) (S0 : Sta Z Z.heap "java/lang/String" "COMPACT_STRINGS" "Z" (.int z0)) (hz0 : ¬ z0 = 0) (a b d : Addr) (kd : ClassId) (vd : List Value) (ds : List Int32) (h0 : Heap) (n0 : Nat) (EB : Exa Z h0 b "java/lang/StringBuilder") (FV : Fld Z h0 b "java/lang/AbstractStringBuilder" "value" "[B" (.ref d)) (FC : Fld Z h0 b "java/lang/AbstractStringBuilder" "coder" "B" (.int (0 : Int32))) (FN : Fld Z h0 b "java/lang/AbstractStringBuilder" "count" "I" (.int (11 : Int32))) (AD : Arv Z h0 d kd .byte (16 : Int32) vd (.int 0)) (hvd : vd.length = 16) (hp : ∀ c ∈ ds, ¬ c < 0 ∧ ¬ (255 : Int32) < c) (hds : ds.length = 11) (hxs : ((ds.map StrChars.lo8).map Value.int) = (List.range 11).map fun i => vd.getD (0 + i) (.int 0)) (E0 : Exa Z h0 a "java/lang/String") (F0 : Fld Z h0 a "java/lang/String" "value" "[B" .null) (F1 : Fld Z h0 a "java/lang/String" "coder" "B" (.int (0 : Int32))) :
    Ct l Z consts_1 [] (⟨"java/lang/String", "<init>", "(Ljava/lang/StringBuilder;)V"⟩ : MethodName) jdk_42_method_53_code 2 none ({ frames := 4, cells := 1, slots := 11, locals := 65 } : Room) #[(.ref a), (.ref b)] h0 n0 [a] (fun v h => v = none ∧ ∃ t : Addr, OStr Z h a t ds) := by
  have w : ∀ {d : Jvm.Cond} (i : Nat), tables_1[i]? = some d → d.before a0 Z = true := fun i q => hw _ (List.mem_of_getElem? q)
  refine Ct.enter (plainFor_of_name pn_1) hEL ?_
  intro p e sS m below meth c T0 hby hml0 hret hlk hnm hs0 X0
  have hml : c.maxLocals = 2 := hml0
  have D : ∀ {pc : Nat} {r : Except DecodeError (Instr × Nat)}, decode jdk_42_method_53_code pc = r → decode c.code pc = r := fun q => hb hby q
  rw [show entryFrame m #[(.ref a), (.ref b)] 2 = mkF m 0 #[.val (.ref a), .val (.ref b)] [] from by first | (simp [entryFrame, mkF, argsToLocals, Value.category]; done) | rfl]
  refine X0.aloadN (x := (.ref a)) (D d27_0) rfl rfl ?_
  refine X0.aloadN (x := (.ref b)) (D d27_1) rfl rfl ?_
  refine X0.anull (D d27_2) ?_
  refine X0.callcF (a := a) [(.ref b), .null] [] (ctIV11_16 l Z a0 hw hEL z0 S0 hz0 a b d kd vd ds _ _ EB FV FC FN AD hvd hp hds hxs E0 F0 F1).toF rfl (w 166 rfl) (w 167 rfl) (w 3 rfl) (w 168 rfl) (by decide) (by simp) (by decide) 0 (by decide) (by decide) (by decide) (lenOf pd_15 rfl) rfl (Nat.le_of_ble_eq_true rfl) (by rw [hml]; rfl) (D d27_3) ?_
  rintro T1083 h1084 _ _ X1086 K1087 hg1088 ⟨rfl, rfl, t, O⟩
  have F1089 := EB.keep K1087
  have F1090 := FV.keep K1087 (ninS (Exa.ne EB E0 (by decide)) nin0)
  have F1091 := FC.keep K1087 (ninS (Exa.ne EB E0 (by decide)) nin0)
  have F1092 := FN.keep K1087 (ninS (Exa.ne EB E0 (by decide)) nin0)
  have F1093 := AD.keep K1087 (ninS (Exa.neArv E0 AD (w 2 rfl)).symm nin0)
  have F1094 := E0.keep K1087
  show Goes p.tables e below _ (T1083.setTop (mkF m 6 #[.val (.ref a), .val (.ref b)] []))
  exact X1086.retn hret hlk (D d27_6) (by decide) (by decide) (⟨rfl, t, O⟩)
set_option maxRecDepth 65536 in
set_option maxHeartbeats 40000000 in
theorem ctTS11_16 (l : Launch) (Z : State) (a0 : Array Value) (hw : ∀ d ∈ tables_1, d.before a0 Z = true) (hEL : EW Z a0 consts_1) (z0 : Int32) (S0 : Sta Z Z.heap "java/lang/String" "COMPACT_STRINGS" "Z" (.int z0)) (hz0 : ¬ z0 = 0) (b d : Addr) (kd : ClassId) (vd : List Value) (ds : List Int32) (h0 : Heap) (n0 : Nat) (EB : Exa Z h0 b "java/lang/StringBuilder") (FV : Fld Z h0 b "java/lang/AbstractStringBuilder" "value" "[B" (.ref d)) (FC : Fld Z h0 b "java/lang/AbstractStringBuilder" "coder" "B" (.int (0 : Int32))) (FN : Fld Z h0 b "java/lang/AbstractStringBuilder" "count" "I" (.int (11 : Int32))) (AD : Arv Z h0 d kd .byte (16 : Int32) vd (.int 0)) (hvd : vd.length = 16) (hp : ∀ c ∈ ds, ¬ c < 0 ∧ ¬ (255 : Int32) < c) (hds : ds.length = 11) (hxs : ((ds.map StrChars.lo8).map Value.int) = (List.range 11).map fun i => vd.getD (0 + i) (.int 0)) :
    Ct l Z consts_1 [] (⟨"java/lang/StringBuilder", "toString", "()Ljava/lang/String;"⟩ : MethodName) jdk_67_method_42_code 1 (some (.object "java/lang/String")) ({ frames := 5, cells := 2, slots := 15, locals := 79 } : Room) #[(.ref b)] h0 n0 [] (fun v h => ∃ s t : Addr, v = some (.ref s) ∧ OStr Z h s t ds) := by
  have w : ∀ {d : Jvm.Cond} (i : Nat), tables_1[i]? = some d → d.before a0 Z = true := fun i q => hw _ (List.mem_of_getElem? q)
  refine Ct.enter (plainFor_of_name pn_3) hEL ?_
  intro p e sS m below meth c T0 hby hml0 hret hlk hnm hs0 X0
  have hml : c.maxLocals = 1 := hml0
  have D : ∀ {pc : Nat} {r : Except DecodeError (Instr × Nat)}, decode jdk_67_method_42_code pc = r → decode c.code pc = r := fun q => hb hby q
  rw [show entryFrame m #[(.ref b)] 1 = mkF m 0 #[.val (.ref b)] [] from by first | (simp [entryFrame, mkF, argsToLocals, Value.category]; done) | rfl]
  refine X0.new (w 162 rfl) (w 2 rfl) (w 3 rfl) (D d26_0) (by decide) (by decide) ?_
  intro T1095 h1096 b1097 g1098 X1099 E1100 A1101 D1102 U1103
  have F1104 := EB.ext E1100
  have F1105 := FV.ext E1100
  have F1106 := FC.ext E1100
  have F1107 := FN.ext E1100
  have F1108 := AD.ext E1100
  have lt1109 : b < b1097 := by rw [g1098]; exact EB.lt
  have lt1110 : d < b1097 := by rw [g1098]; exact AD.lt
  have F1111 : Fld Z h1096 b1097 "java/lang/String" "value" "[B" .null := D1102 (Or.inr (w 16 rfl)) (ty := (.array .byte)) (by decide)
  have F1112 : Fld Z h1096 b1097 "java/lang/String" "coder" "B" (.int (0 : Int32)) := D1102 (Or.inr (w 17 rfl)) (ty := .byte) (by decide)
  show Goes p.tables e below _ (T1095.setTop (mkF m 3 #[.val (.ref b)] [(.ref b1097)]))
  refine X1099.dup (D d26_3) rfl ?_
  refine X1099.aloadN (x := (.ref b)) (D d26_4) rfl rfl ?_
  refine X1099.callcF (a := b1097) [(.ref b)] [(.ref b1097)] (ctIS11_16 l Z a0 hw hEL z0 S0 hz0 b1097 b d kd vd ds _ _ F1104 F1105 F1106 F1107 F1108 hvd hp hds hxs A1101 F1111 F1112).toF rfl (w 163 rfl) (w 164 rfl) (w 3 rfl) (w 165 rfl) (by decide) (by simp) (by decide) 1 (by decide) (by decide) (by decide) (lenOf pd_16 rfl) rfl (Nat.le_of_ble_eq_true rfl) (by rw [hml]; rfl) (D d26_5) ?_
  rintro T1113 h1114 _ _ X1116 K1117 hg1118 ⟨rfl, rfl, t, O⟩
  have F1119 := F1104.keep K1117
  have F1120 := F1105.keep K1117 (ninS (Nat.ne_of_lt lt1109) nin0)
  have F1121 := F1106.keep K1117 (ninS (Nat.ne_of_lt lt1109) nin0)
  have F1122 := F1107.keep K1117 (ninS (Nat.ne_of_lt lt1109) nin0)
  have F1123 := F1108.keep K1117 (ninS (Nat.ne_of_lt lt1110) nin0)
  have F1124 := A1101.keep K1117
  show Goes p.tables e below _ (T1113.setTop (mkF m 8 #[.val (.ref b)] [(.ref b1097)]))
  exact X1116.retA hret rfl rfl hlk (D d26_8) (by decide) (by decide) (⟨_, t, rfl, O⟩)
set_option maxRecDepth 65536 in
set_option maxHeartbeats 40000000 in
theorem ctEx1 (l : Launch) (Z : State) (a0 : Array Value) (hw : ∀ d ∈ tables_1, d.before a0 Z = true) (hEL : EW Z a0 consts_1) (z0 : Int32) (S0 : Sta Z Z.heap "java/lang/String" "COMPACT_STRINGS" "Z" (.int z0)) (hz0 : ¬ z0 = 0) (a r tr : Addr) (c0 : Int32) (h0 : Heap) (n0 : Nat) (EA : Exa Z h0 a "com/example/greylag/greylag/Decision") (F0 : Fld Z h0 a "com/example/greylag/greylag/Decision" "role" "Ljava/lang/String;" (.ref r)) (F3 : Fld Z h0 a "com/example/greylag/greylag/Decision" "bypass" "Z" (.int (1 : Int32))) (OR : OStr Z h0 r tr [c0]) :
    Ct l Z consts_1 [] (⟨"com/example/greylag/greylag/Decision", "explanation", "()Ljava/lang/String;"⟩ : MethodName) prog_6_method_6_code 2 (some (.object "java/lang/String")) ({ frames := 6, cells := 6, slots := 79, locals := 91 } : Room) #[(.ref a)] h0 n0 [] (fun v h => ∃ s t : Addr, v = some (.ref s) ∧ OStr Z h s t ([(98 : Int32), (121 : Int32), (32 : Int32), (98 : Int32), (121 : Int32), (112 : Int32), (97 : Int32), (115 : Int32), (115 : Int32), (32 : Int32)] ++ [c0])) := by
  have w : ∀ {d : Jvm.Cond} (i : Nat), tables_1[i]? = some d → d.before a0 Z = true := fun i q => hw _ (List.mem_of_getElem? q)
  refine Ct.enter (plainFor_of_name pn_4) hEL ?_
  intro p e sS m below meth c T0 hby hml0 hret hlk hnm hs0 X0
  have hml : c.maxLocals = 2 := hml0
  have D : ∀ {pc : Nat} {r : Except DecodeError (Instr × Nat)}, decode prog_6_method_6_code pc = r → decode c.code pc = r := fun q => hb hby q
  rw [show entryFrame m #[(.ref a)] 2 = mkF m 0 #[.val (.ref a), .unset] [] from by first | (simp [entryFrame, mkF, argsToLocals, Value.category]; done) | rfl]
  refine X0.aloadN (x := (.ref a)) (D d15_0) rfl rfl ?_
  refine X0.getf (w 54 rfl) Via.refl F3 (D d15_1) ?_
  intro T1125 X1126
  show Goes p.tables e below _ (T1125.setTop (mkF m 4 #[.val (.ref a), .unset] [(.int (1 : Int32))]))
  refine X1126.if_eq 33 (D d15_4) ⟨by decide, by decide⟩ (fun hc1127 => absurd hc1127 (by decide)) (fun hc1127 => ?_)
  refine X1126.new (w 91 rfl) (w 92 rfl) (w 93 rfl) (D d15_7) (by decide) (by decide) ?_
  intro T1128 h1129 b1130 g1131 X1132 E1133 A1134 D1135 U1136
  have F1137 := EA.ext E1133
  have F1138 := F0.ext E1133
  have F1139 := F3.ext E1133
  have F1140 := OR.ext E1133
  have lt1141 : a < b1130 := by rw [g1131]; exact EA.lt
  have lt1142 : r < b1130 := by rw [g1131]; exact OR.lt
  have lt1143 : tr < b1130 := by rw [g1131]; exact OR.ltb
  have F1144 : Fld Z h1129 b1130 "java/lang/AbstractStringBuilder" "value" "[B" .null := D1135 (Or.inl (w 106 rfl)) (ty := (.array .byte)) (by decide)
  have F1145 : Fld Z h1129 b1130 "java/lang/AbstractStringBuilder" "coder" "B" (.int (0 : Int32)) := D1135 (Or.inl (w 108 rfl)) (ty := .byte) (by decide)
  have F1146 : Fld Z h1129 b1130 "java/lang/AbstractStringBuilder" "count" "I" (.int (0 : Int32)) := D1135 (Or.inl (w 131 rfl)) (ty := .int) (by decide)
  show Goes p.tables e below _ (T1128.setTop (mkF m 10 #[.val (.ref a), .unset] [(.ref b1130)]))
  refine X1132.dup (D d15_10) rfl ?_
  refine X1132.callcF (a := b1130) [] [(.ref b1130)] (ctSBi l Z a0 hw hEL z0 S0 hz0 b1130 _ _ A1134 F1144 F1145 F1146) rfl (w 94 rfl) (w 95 rfl) (w 93 rfl) (w 96 rfl) (by decide) (by simp) (by decide) 1 (by decide) (by decide) (by decide) (lenOf pd_3 rfl) rfl (Nat.le_of_ble_eq_true rfl) (by rw [hml]; rfl) (D d15_11) ?_
  rintro T1147 h1148 _ _ X1150 K1151 hg1152 ⟨d, kd, rfl, rfl, E1, V1, C1, N1, A1⟩
  have F1153 := F1137.keep K1151
  have F1154 := F1138.keep K1151 (ninS (Nat.ne_of_lt lt1141) nin0)
  have F1155 := F1139.keep K1151 (ninS (Nat.ne_of_lt lt1141) nin0)
  have F1156 := F1140.keep K1151 (ninS (Nat.ne_of_lt lt1142) nin0) (ninS (Nat.ne_of_lt lt1143) nin0)
  have F1157 := A1134.keep K1151
  have fg1158 := hg1152 d (by simp)
  have lt1159 : a < d := Nat.lt_of_lt_of_le F1137.lt fg1158
  have lt1160 : r < d := Nat.lt_of_lt_of_le F1140.lt fg1158
  have lt1161 : tr < d := Nat.lt_of_lt_of_le F1140.ltb fg1158
  have lt1162 : b1130 < d := Nat.lt_of_lt_of_le A1134.lt fg1158
  show Goes p.tables e below _ (T1147.setTop (mkF m 14 #[.val (.ref a), .unset] [(.ref b1130)]))
  refine X1150.ldcS (w 109 rfl) (fun d q => hw d (hwS d q)) (by decide) (vs := [(.int (98 : Int32)), (.int (121 : Int32)), (.int (32 : Int32)), (.int (98 : Int32)), (.int (121 : Int32)), (.int (112 : Int32)), (.int (97 : Int32)), (.int (115 : Int32)), (.int (115 : Int32)), (.int (32 : Int32))]) (z := (10 : Int32)) ⟨by decide, by decide⟩ (by decide) rfl (D d15_14) 40 (by decide) (by decide) (by decide) (by decide) ?_
  intro T1163 h1164 a1165 b1166 kb1167 X1168 E1169 F1170 F1171 F1172 F1173 ne1174
  have F1175 := F1153.ext E1169
  have F1176 := F1154.ext E1169
  have F1177 := F1155.ext E1169
  have F1178 := F1156.ext E1169
  have F1179 := E1.ext E1169
  have F1180 := V1.ext E1169
  have F1181 := C1.ext E1169
  have F1182 := N1.ext E1169
  have F1183 := A1.ext E1169
  show Goes p.tables e below _ (T1163.setTop (mkF m 16 #[.val (.ref a), .unset] [(.ref a1165), (.ref b1130)]))
  have O1184 : OStr Z h1164 a1165 b1166 [(98 : Int32), (121 : Int32), (32 : Int32), (98 : Int32), (121 : Int32), (112 : Int32), (97 : Int32), (115 : Int32), (115 : Int32), (32 : Int32)] := OStr.mk F1170 F1172 F1171 F1173 (by decide) (by decide)
  refine X1168.callvF (y := (⟨"java/lang/StringBuilder", "append", "(Ljava/lang/String;)Ljava/lang/StringBuilder;"⟩ : MethodName)) (z := (⟨"java/lang/StringBuilder", "append", "(Ljava/lang/String;)Ljava/lang/StringBuilder;"⟩ : MethodName)) (a := b1130) (C := "java/lang/StringBuilder") [(.ref a1165)] [] (ctSBa0_10_16 l Z a0 hw hEL z0 S0 hz0 b1130 d a1165 b1166 kd [(98 : Int32), (121 : Int32), (32 : Int32), (98 : Int32), (121 : Int32), (112 : Int32), (97 : Int32), (115 : Int32), (115 : Int32), (32 : Int32)] ([(.int (0 : Int32)), (.int (0 : Int32)), (.int (0 : Int32)), (.int (0 : Int32)), (.int (0 : Int32)), (.int (0 : Int32)), (.int (0 : Int32)), (.int (0 : Int32)), (.int (0 : Int32)), (.int (0 : Int32)), (.int (0 : Int32)), (.int (0 : Int32)), (.int (0 : Int32)), (.int (0 : Int32)), (.int (0 : Int32)), (.int (0 : Int32))] : List Value) _ _ F1179 F1180 F1181 F1182 F1183 rfl O1184 rfl (ne1174 d (by simp)).2.symm).toF F1179 (w 110 rfl) (w 111 rfl) (w 113 rfl) (w 112 rfl) (nfOf (w 113 rfl) rfl) (w 93 rfl) (w 114 rfl) (by decide) (by simp) (by decide) 0 (by decide) (by decide) (by decide) (lenOf pd_17 rfl) rfl (Nat.le_of_ble_eq_true rfl) (by rw [hml]; rfl) (D d15_16) ?_
  rintro T1185 h1186 _ _ X1188 K1189 hg1190 ⟨rfl, rfl, E2, V2, C2, N2, A2⟩
  have F1191 := F1175.keep K1189
  have F1192 := F1176.keep K1189 (ninS (Nat.ne_of_lt lt1141) (ninS (Nat.ne_of_lt lt1159) nin0))
  have F1193 := F1177.keep K1189 (ninS (Nat.ne_of_lt lt1141) (ninS (Nat.ne_of_lt lt1159) nin0))
  have F1194 := F1178.keep K1189 (ninS (Nat.ne_of_lt lt1142) (ninS (Nat.ne_of_lt lt1160) nin0)) (ninS (Nat.ne_of_lt lt1143) (ninS (Nat.ne_of_lt lt1161) nin0))
  have F1195 := F1179.keep K1189
  have F1196 := O1184.keep K1189 (ninS (ne1174 b1130 (by simp)).1.symm (ninS (ne1174 d (by simp)).1.symm nin0)) (ninS (ne1174 b1130 (by simp)).2.symm (ninS (ne1174 d (by simp)).2.symm nin0))
  show Goes p.tables e below _ (T1185.setTop (mkF m 19 #[.val (.ref a), .unset] [(.ref b1130)]))
  refine X1188.aloadN (x := (.ref a)) (D d15_19) rfl rfl ?_
  refine X1188.getf (w 48 rfl) Via.refl F1192 (D d15_20) ?_
  intro T1197 X1198
  show Goes p.tables e below _ (T1197.setTop (mkF m 23 #[.val (.ref a), .unset] [(.ref r), (.ref b1130)]))
  refine X1198.callvF (y := (⟨"java/lang/StringBuilder", "append", "(Ljava/lang/String;)Ljava/lang/StringBuilder;"⟩ : MethodName)) (z := (⟨"java/lang/StringBuilder", "append", "(Ljava/lang/String;)Ljava/lang/StringBuilder;"⟩ : MethodName)) (a := b1130) (C := "java/lang/StringBuilder") [(.ref r)] [] (ctSBa10_1_16 l Z a0 hw hEL z0 S0 hz0 b1130 d r tr kd [c0] (([(.int (0 : Int32)), (.int (0 : Int32)), (.int (0 : Int32)), (.int (0 : Int32)), (.int (0 : Int32)), (.int (0 : Int32)), (.int (0 : Int32)), (.int (0 : Int32)), (.int (0 : Int32)), (.int (0 : Int32)), (.int (0 : Int32)), (.int (0 : Int32)), (.int (0 : Int32)), (.int (0 : Int32)), (.int (0 : Int32)), (.int (0 : Int32))] : List Value).take 0 ++ (([(98 : Int32), (121 : Int32), (32 : Int32), (98 : Int32), (121 : Int32), (112 : Int32), (97 : Int32), (115 : Int32), (115 : Int32), (32 : Int32)].map StrChars.lo8).map Value.int) ++ ([(.int (0 : Int32)), (.int (0 : Int32)), (.int (0 : Int32)), (.int (0 : Int32)), (.int (0 : Int32)), (.int (0 : Int32)), (.int (0 : Int32)), (.int (0 : Int32)), (.int (0 : Int32)), (.int (0 : Int32)), (.int (0 : Int32)), (.int (0 : Int32)), (.int (0 : Int32)), (.int (0 : Int32)), (.int (0 : Int32)), (.int (0 : Int32))] : List Value).drop (0 + 10)) _ _ E2 V2 C2 N2 A2 rfl F1194 rfl (Nat.ne_of_lt lt1161)).toF E2 (w 110 rfl) (w 111 rfl) (w 113 rfl) (w 112 rfl) (nfOf (w 113 rfl) rfl) (w 93 rfl) (w 114 rfl) (by decide) (by simp) (by decide) 0 (by decide) (by decide) (by decide) (lenOf pd_17 rfl) rfl (Nat.le_of_ble_eq_true rfl) (by rw [hml]; rfl) (D d15_23) ?_
  rintro T1199 h1200 _ _ X1202 K1203 hg1204 ⟨rfl, rfl, E3, V3, C3, N3, A3⟩
  have F1205 := F1191.keep K1203
  have F1206 := F1192.keep K1203 (ninS (Nat.ne_of_lt lt1141) (ninS (Nat.ne_of_lt lt1159) nin0))
  have F1207 := F1193.keep K1203 (ninS (Nat.ne_of_lt lt1141) (ninS (Nat.ne_of_lt lt1159) nin0))
  have F1208 := F1194.keep K1203 (ninS (Nat.ne_of_lt lt1142) (ninS (Nat.ne_of_lt lt1160) nin0)) (ninS (Nat.ne_of_lt lt1143) (ninS (Nat.ne_of_lt lt1161) nin0))
  have F1209 := E2.keep K1203
  have F1210 := F1196.keep K1203 (ninS (ne1174 b1130 (by simp)).1.symm (ninS (ne1174 d (by simp)).1.symm nin0)) (ninS (ne1174 b1130 (by simp)).2.symm (ninS (ne1174 d (by simp)).2.symm nin0))
  show Goes p.tables e below _ (T1199.setTop (mkF m 26 #[.val (.ref a), .unset] [(.ref b1130)]))
  have hpr : ∀ c ∈ [(98 : Int32), (121 : Int32), (32 : Int32), (98 : Int32), (121 : Int32), (112 : Int32), (97 : Int32), (115 : Int32), (115 : Int32), (32 : Int32)] ++ [c0], ¬ c < 0 ∧ ¬ (255 : Int32) < c := fun c q => by
    rcases List.mem_append.mp q with q | q
    · exact (by decide : ∀ c ∈ ([(98 : Int32), (121 : Int32), (32 : Int32), (98 : Int32), (121 : Int32), (112 : Int32), (97 : Int32), (115 : Int32), (115 : Int32), (32 : Int32)] : List Int32), ¬ c < 0 ∧ ¬ (255 : Int32) < c) c q
    · exact OR.2.1 c q
  refine X1202.callvF (y := (⟨"java/lang/StringBuilder", "toString", "()Ljava/lang/String;"⟩ : MethodName)) (z := (⟨"java/lang/StringBuilder", "toString", "()Ljava/lang/String;"⟩ : MethodName)) (a := b1130) (C := "java/lang/StringBuilder") [] [] (ctTS11_16 l Z a0 hw hEL z0 S0 hz0 b1130 d kd ((([(.int (0 : Int32)), (.int (0 : Int32)), (.int (0 : Int32)), (.int (0 : Int32)), (.int (0 : Int32)), (.int (0 : Int32)), (.int (0 : Int32)), (.int (0 : Int32)), (.int (0 : Int32)), (.int (0 : Int32)), (.int (0 : Int32)), (.int (0 : Int32)), (.int (0 : Int32)), (.int (0 : Int32)), (.int (0 : Int32)), (.int (0 : Int32))] : List Value).take 0 ++ (([(98 : Int32), (121 : Int32), (32 : Int32), (98 : Int32), (121 : Int32), (112 : Int32), (97 : Int32), (115 : Int32), (115 : Int32), (32 : Int32)].map StrChars.lo8).map Value.int) ++ ([(.int (0 : Int32)), (.int (0 : Int32)), (.int (0 : Int32)), (.int (0 : Int32)), (.int (0 : Int32)), (.int (0 : Int32)), (.int (0 : Int32)), (.int (0 : Int32)), (.int (0 : Int32)), (.int (0 : Int32)), (.int (0 : Int32)), (.int (0 : Int32)), (.int (0 : Int32)), (.int (0 : Int32)), (.int (0 : Int32)), (.int (0 : Int32))] : List Value).drop (0 + 10)).take 10 ++ (([c0].map StrChars.lo8).map Value.int) ++ (([(.int (0 : Int32)), (.int (0 : Int32)), (.int (0 : Int32)), (.int (0 : Int32)), (.int (0 : Int32)), (.int (0 : Int32)), (.int (0 : Int32)), (.int (0 : Int32)), (.int (0 : Int32)), (.int (0 : Int32)), (.int (0 : Int32)), (.int (0 : Int32)), (.int (0 : Int32)), (.int (0 : Int32)), (.int (0 : Int32)), (.int (0 : Int32))] : List Value).take 0 ++ (([(98 : Int32), (121 : Int32), (32 : Int32), (98 : Int32), (121 : Int32), (112 : Int32), (97 : Int32), (115 : Int32), (115 : Int32), (32 : Int32)].map StrChars.lo8).map Value.int) ++ ([(.int (0 : Int32)), (.int (0 : Int32)), (.int (0 : Int32)), (.int (0 : Int32)), (.int (0 : Int32)), (.int (0 : Int32)), (.int (0 : Int32)), (.int (0 : Int32)), (.int (0 : Int32)), (.int (0 : Int32)), (.int (0 : Int32)), (.int (0 : Int32)), (.int (0 : Int32)), (.int (0 : Int32)), (.int (0 : Int32)), (.int (0 : Int32))] : List Value).drop (0 + 10)).drop (10 + 1)) ([(98 : Int32), (121 : Int32), (32 : Int32), (98 : Int32), (121 : Int32), (112 : Int32), (97 : Int32), (115 : Int32), (115 : Int32), (32 : Int32)] ++ [c0]) _ _ E3 V3 C3 N3 A3 rfl hpr rfl rfl).toF E3 (w 157 rfl) (w 158 rfl) (w 160 rfl) (w 159 rfl) (nfOf (w 160 rfl) rfl) (w 93 rfl) (w 161 rfl) (by decide) (fun _ q => nomatch q) (by decide) 0 (by decide) (by decide) (by decide) (lenOf pd_18 rfl) rfl (Nat.le_of_ble_eq_true rfl) (by rw [hml]; rfl) (D d15_26) ?_
  rintro T1211 h1212 _ _ X1214 K1215 hg1216 ⟨rfl, s9, t9, rfl, O9⟩
  have F1217 := F1205.keep K1215
  have F1218 := F1206.keep K1215 nin0
  have F1219 := F1207.keep K1215 nin0
  have F1220 := F1208.keep K1215 nin0 nin0
  have F1221 := E3.keep K1215
  have F1222 := F1210.keep K1215 nin0 nin0
  have F1223 := V3.keep K1215 nin0
  have F1224 := C3.keep K1215 nin0
  have F1225 := N3.keep K1215 nin0
  have F1226 := A3.keep K1215 nin0
  show Goes p.tables e below _ (T1211.setTop (mkF m 29 #[.val (.ref a), .unset] [(.ref s9)]))
  refine X1214.astoreN #[.val (.ref a), .val (.ref s9)] (D d15_29) rfl rfl ?_
  refine X1214.goto 81 (D d15_30) ⟨by decide, by decide⟩ ?_
  refine X1214.aloadN (x := (.ref s9)) (D d15_81) rfl rfl ?_
  exact X1214.retA hret rfl rfl hlk (D d15_82) (by decide) (by decide) (⟨s9, t9, rfl, O9⟩)
set_option maxRecDepth 65536 in
set_option maxHeartbeats 40000000 in
theorem ctLen2 (l : Launch) (Z : State) (a0 : Array Value) (hw : ∀ d ∈ tables_1, d.before a0 Z = true) (hEL : EW Z a0 consts_1) (z0 : Int32) (S0 : Sta Z Z.heap "java/lang/String" "COMPACT_STRINGS" "Z" (.int z0)) (hz0 : ¬ z0 = 0) (s t : Addr) (cs : List Int32) (h0 : Heap) (n0 : Nat) (OS : OStr Z h0 s t cs) (hl_s : cs.length = 2) :
    Ct l Z consts_1 [] (⟨"java/lang/String", "length", "()I"⟩ : MethodName) jdk_42_method_54_code 1 (some .int) ({ frames := 1, cells := 0, slots := 0, locals := 13 } : Room) #[(.ref s)] h0 n0 [] (fun v _ => v = some (.int (2 : Int32))) := by
  have w : ∀ {d : Jvm.Cond} (i : Nat), tables_1[i]? = some d → d.before a0 Z = true := fun i q => hw _ (List.mem_of_getElem? q)
  refine Ct.enter (plainFor_of_name pn_1) hEL ?_
  intro p e sS m below meth c T0 hby hml0 hret hlk hnm hs0 X0
  have hml : c.maxLocals = 1 := hml0
  have D : ∀ {pc : Nat} {r : Except DecodeError (Instr × Nat)}, decode jdk_42_method_54_code pc = r → decode c.code pc = r := fun q => hb hby q
  rw [show entryFrame m #[(.ref s)] 1 = mkF m 0 #[.val (.ref s)] [] from by first | (simp [entryFrame, mkF, argsToLocals, Value.category]; done) | rfl]
  obtain ⟨F1227, hp1228, hl1229, kb1230, F1231, F1232, F1233⟩ := id OS
  have F1234 : Arv Z h0 t kb1230 .byte (2 : Int32) ((cs.map StrChars.lo8).map Value.int) (.int 0) := by have q := F1233; rw [hl_s] at q; exact q
  refine X0.aloadN (x := (.ref s)) (D d20_0) rfl rfl ?_
  refine X0.getf (w 20 rfl) Via.refl F1231 (D d20_1) ?_
  intro T1235 X1236
  show Goes p.tables e below _ (T1235.setTop (mkF m 4 #[.val (.ref s)] [(.ref t)]))
  refine X1236.alen F1234 (D d20_4) ?_
  refine X1236.aloadN (x := (.ref s)) (D d20_5) rfl rfl ?_
  refine X1236.callvF (y := (⟨"java/lang/String", "coder", "()B"⟩ : MethodName)) (z := (⟨"java/lang/String", "coder", "()B"⟩ : MethodName)) (a := s) (C := "java/lang/String") [] [(.int (2 : Int32))] (ctCdr l Z a0 hw hEL z0 S0 hz0 s _ _ F1232).toF F1227 (w 125 rfl) (w 126 rfl) (w 128 rfl) (w 127 rfl) (nfOf (w 128 rfl) rfl) (w 3 rfl) (w 129 rfl) (by decide) (fun _ q => nomatch q) (by decide) 1 (by decide) (by decide) (by decide) (lenOf pd_2 rfl) rfl (Nat.le_of_ble_eq_true rfl) (by rw [hml]; rfl) (D d20_6) ?_
  rintro T1237 h1238 _ _ X1240 K1241 hg1242 ⟨rfl, rfl⟩
  have F1243 := OS.keep K1241 nin0 nin0
  have F1244 := F1227.keep K1241
  have F1245 := F1231.keep K1241 nin0
  have F1246 := F1232.keep K1241 nin0
  have F1247 := F1234.keep K1241 nin0
  show Goes p.tables e below _ (T1237.setTop (mkF m 9 #[.val (.ref s)] [(.int (0 : Int32)), (.int (2 : Int32))]))
  refine X1240.ishr (D d20_9) ?_
  show Goes p.tables e below _ (T1237.setTop (mkF m 10 #[.val (.ref s)] [(.int (2 : Int32))]))
  exact X1240.retI hret hlk (D d20_10) (by decide) (by decide) (rfl)
set_option maxRecDepth 65536 in
set_option maxHeartbeats 40000000 in
theorem ctGB10_2_16 (l : Launch) (Z : State) (a0 : Array Value) (hw : ∀ d ∈ tables_1, d.before a0 Z = true) (hEL : EW Z a0 consts_1) (z0 : Int32) (S0 : Sta Z Z.heap "java/lang/String" "COMPACT_STRINGS" "Z" (.int z0)) (hz0 : ¬ z0 = 0) (s t d : Addr) (kd : ClassId) (cs : List Int32) (vd : List Value) (h0 : Heap) (n0 : Nat) (OS : OStr Z h0 s t cs) (hl_s : cs.length = 2) (ntd : t ≠ d) (AD : Arv Z h0 d kd .byte (16 : Int32) vd (.int 0)) (hvd : vd.length = 16) :
    Ct l Z consts_1 [] (⟨"java/lang/String", "getBytes", "([BIB)V"⟩ : MethodName) jdk_42_method_147_code 4 none ({ frames := 1, cells := 0, slots := 0, locals := 18 } : Room) #[(.ref s), (.ref d), (.int (10 : Int32)), (.int (0 : Int32))] h0 n0 [d] (fun v h => v = none ∧ Arv Z h d kd .byte (16 : Int32) (vd.take 10 ++ ((cs.map StrChars.lo8).map Value.int) ++ vd.drop (10 + 2)) (.int 0)) := by
  have w : ∀ {d : Jvm.Cond} (i : Nat), tables_1[i]? = some d → d.before a0 Z = true := fun i q => hw _ (List.mem_of_getElem? q)
  refine Ct.enter (plainFor_of_name pn_1) hEL ?_
  intro p e sS m below meth c T0 hby hml0 hret hlk hnm hs0 X0
  have hml : c.maxLocals = 4 := hml0
  have D : ∀ {pc : Nat} {r : Except DecodeError (Instr × Nat)}, decode jdk_42_method_147_code pc = r → decode c.code pc = r := fun q => hb hby q
  rw [show entryFrame m #[(.ref s), (.ref d), (.int (10 : Int32)), (.int (0 : Int32))] 4 = mkF m 0 #[.val (.ref s), .val (.ref d), .val (.int (10 : Int32)), .val (.int (0 : Int32))] [] from by first | (simp [entryFrame, mkF, argsToLocals, Value.category]; done) | rfl]
  obtain ⟨F1248, hp1249, hl1250, kb1251, F1252, F1253, F1254⟩ := id OS
  have F1255 : Arv Z h0 t kb1251 .byte (2 : Int32) ((cs.map StrChars.lo8).map Value.int) (.int 0) := by have q := F1254; rw [hl_s] at q; exact q
  refine X0.aloadN (x := (.ref s)) (D d25_0) rfl rfl ?_
  refine X0.callvF (y := (⟨"java/lang/String", "coder", "()B"⟩ : MethodName)) (z := (⟨"java/lang/String", "coder", "()B"⟩ : MethodName)) (a := s) (C := "java/lang/String") [] [] (ctCdr l Z a0 hw hEL z0 S0 hz0 s _ _ F1253).toF F1248 (w 125 rfl) (w 126 rfl) (w 128 rfl) (w 127 rfl) (nfOf (w 128 rfl) rfl) (w 3 rfl) (w 129 rfl) (by decide) (fun _ q => nomatch q) (by decide) 0 (by decide) (by decide) (by decide) (lenOf pd_2 rfl) rfl (Nat.le_of_ble_eq_true rfl) (by rw [hml]; rfl) (D d25_1) ?_
  rintro T1256 h1257 _ _ X1259 K1260 hg1261 ⟨rfl, rfl⟩
  have F1262 := OS.keep K1260 nin0 nin0
  have F1263 := AD.keep K1260 nin0
  have F1264 := F1248.keep K1260
  have F1265 := F1252.keep K1260 nin0
  have F1266 := F1253.keep K1260 nin0
  have F1267 := F1255.keep K1260 nin0
  show Goes p.tables e below _ (T1256.setTop (mkF m 4 #[.val (.ref s), .val (.ref d), .val (.int (10 : Int32)), .val (.int (0 : Int32))] [(.int (0 : Int32))]))
  refine X1259.iloadN (x := (0 : Int32)) (D d25_4) rfl ?_
  refine X1259.icmp_ne 28 (D d25_5) ⟨by decide, by decide⟩ (fun hc1268 => absurd hc1268 (by decide)) (fun hc1268 => ?_)
  refine X1259.aloadN (x := (.ref s)) (D d25_8) rfl rfl ?_
  refine X1259.getf (w 20 rfl) Via.refl F1265 (D d25_9) ?_
  intro T1269 X1270
  show Goes p.tables e below _ (T1269.setTop (mkF m 12 #[.val (.ref s), .val (.ref d), .val (.int (10 : Int32)), .val (.int (0 : Int32))] [(.ref t)]))
  refine X1270.iconst (x := (0 : Int32)) (D d25_12) rfl ?_
  refine X1270.aloadN (x := (.ref d)) (D d25_13) rfl rfl ?_
  refine X1270.iloadN (x := (10 : Int32)) (D d25_14) rfl ?_
  refine X1270.iloadN (x := (0 : Int32)) (D d25_15) rfl ?_
  refine X1270.ishl (D d25_16) ?_
  show Goes p.tables e below _ (T1269.setTop (mkF m 17 #[.val (.ref s), .val (.ref d), .val (.int (10 : Int32)), .val (.int (0 : Int32))] [(.int (10 : Int32)), (.ref d), (.int (0 : Int32)), (.ref t)]))
  refine X1270.aloadN (x := (.ref s)) (D d25_17) rfl rfl ?_
  refine X1270.getf (w 20 rfl) Via.refl F1265 (D d25_18) ?_
  intro T1271 X1272
  show Goes p.tables e below _ (T1271.setTop (mkF m 21 #[.val (.ref s), .val (.ref d), .val (.int (10 : Int32)), .val (.int (0 : Int32))] [(.ref t), (.int (10 : Int32)), (.ref d), (.int (0 : Int32)), (.ref t)]))
  refine X1272.alen F1267 (D d25_21) ?_
  show Goes p.tables e below _ (T1271.setTop (mkF m 22 #[.val (.ref s), .val (.ref d), .val (.int (10 : Int32)), .val (.int (0 : Int32))] [(.int (2 : Int32)), (.int (10 : Int32)), (.ref d), (.int (0 : Int32)), (.ref t)]))
  refine X1272.acopy (us := ((cs.map StrChars.lo8).map Value.int)) (w 153 rfl) (w 156 rfl) (w 154 rfl) (w 155 rfl) F1267 F1263 (by decide) (by decide) (by decide) (by decide) (by decide) (slice0 (mlen hl_s)) (by rw [hvd]; decide) (by simp) (by rw [hml]; rfl) (D d25_22) (by decide) 0 (Nat.le_of_ble_eq_true rfl) (by decide) ?_
  intro T1273 h1274 X1275 K1276 B1277
  have F1278 := F1262.keep K1276 (ninS (Exa.neArv F1264 F1263 (w 2 rfl)) nin0) (ninS ntd nin0)
  have F1279 := F1264.keep K1276
  have F1280 := F1265.keep K1276 (ninS (Exa.neArv F1264 F1263 (w 2 rfl)) nin0)
  have F1281 := F1266.keep K1276 (ninS (Exa.neArv F1264 F1263 (w 2 rfl)) nin0)
  have F1282 := F1267.keep K1276 (ninS ntd nin0)
  show Goes p.tables e below _ (T1273.setTop (mkF m 25 #[.val (.ref s), .val (.ref d), .val (.int (10 : Int32)), .val (.int (0 : Int32))] []))
  refine X1275.goto 43 (D d25_25) ⟨by decide, by decide⟩ ?_
  exact X1275.retn hret hlk (D d25_43) (by decide) (by decide) (⟨rfl, B1277⟩)
set_option maxRecDepth 65536 in
set_option maxHeartbeats 40000000 in
theorem ctPS10_2_16 (l : Launch) (Z : State) (a0 : Array Value) (hw : ∀ d ∈ tables_1, d.before a0 Z = true) (hEL : EW Z a0 consts_1) (z0 : Int32) (S0 : Sta Z Z.heap "java/lang/String" "COMPACT_STRINGS" "Z" (.int z0)) (hz0 : ¬ z0 = 0) (b d s t : Addr) (kd : ClassId) (cs : List Int32) (vd : List Value) (h0 : Heap) (n0 : Nat) (EB : Exa Z h0 b "java/lang/StringBuilder") (FV : Fld Z h0 b "java/lang/AbstractStringBuilder" "value" "[B" (.ref d)) (FC : Fld Z h0 b "java/lang/AbstractStringBuilder" "coder" "B" (.int (0 : Int32))) (AD : Arv Z h0 d kd .byte (16 : Int32) vd (.int 0)) (hvd : vd.length = 16) (OS : OStr Z h0 s t cs) (hl_s : cs.length = 2) (ntd : t ≠ d) :
    Ct l Z consts_1 [] (⟨"java/lang/AbstractStringBuilder", "putStringAt", "(ILjava/lang/String;)V"⟩ : MethodName) jdk_68_method_73_code 3 none ({ frames := 2, cells := 0, slots := 0, locals := 33 } : Room) #[(.ref b), (.int (10 : Int32)), (.ref s)] h0 n0 [d] (fun v h => v = none ∧ Arv Z h d kd .byte (16 : Int32) (vd.take 10 ++ ((cs.map StrChars.lo8).map Value.int) ++ vd.drop (10 + 2)) (.int 0)) := by
  have w : ∀ {d : Jvm.Cond} (i : Nat), tables_1[i]? = some d → d.before a0 Z = true := fun i q => hw _ (List.mem_of_getElem? q)
  refine Ct.enter (plainFor_of_name pn_2) hEL ?_
  intro p e sS m below meth c T0 hby hml0 hret hlk hnm hs0 X0
  have hml : c.maxLocals = 3 := hml0
  have D : ∀ {pc : Nat} {r : Except DecodeError (Instr × Nat)}, decode jdk_68_method_73_code pc = r → decode c.code pc = r := fun q => hb hby q
  rw [show entryFrame m #[(.ref b), (.int (10 : Int32)), (.ref s)] 3 = mkF m 0 #[.val (.ref b), .val (.int (10 : Int32)), .val (.ref s)] [] from by first | (simp [entryFrame, mkF, argsToLocals, Value.category]; done) | rfl]
  obtain ⟨qE, -, -, _, -, qC, -⟩ := id OS
  refine X0.aloadN (x := (.ref b)) (D d23_0) rfl rfl ?_
  refine X0.aloadN (x := (.ref s)) (D d23_1) rfl rfl ?_
  refine X0.callvF (y := (⟨"java/lang/AbstractStringBuilder", "inflateIfNeededFor", "(Ljava/lang/String;)V"⟩ : MethodName)) (z := (⟨"java/lang/AbstractStringBuilder", "inflateIfNeededFor", "(Ljava/lang/String;)V"⟩ : MethodName)) (a := b) (C := "java/lang/StringBuilder") [(.ref s)] [] (ctInf l Z a0 hw hEL z0 S0 hz0 b d s _ _ EB FV FC qE qC).toF EB (w 142 rfl) (decOf (w 143 rfl) (w 146 rfl)) (w 145 rfl) (w 143 rfl) (nfOf (w 145 rfl) rfl) (w 101 rfl) (w 146 rfl) (by decide) (fun _ q => nomatch q) (by decide) 0 (by decide) (by decide) (by decide) (lenOf pd_5 rfl) rfl (Nat.le_of_ble_eq_true rfl) (by rw [hml]; rfl) (D d23_2) ?_
  rintro T1283 h1284 _ _ X1286 K1287 hg1288 ⟨rfl, rfl⟩
  have F1289 := EB.keep K1287
  have F1290 := FV.keep K1287 nin0
  have F1291 := FC.keep K1287 nin0
  have F1292 := AD.keep K1287 nin0
  have F1293 := OS.keep K1287 nin0 nin0
  show Goes p.tables e below _ (T1283.setTop (mkF m 5 #[.val (.ref b), .val (.int (10 : Int32)), .val (.ref s)] []))
  refine X1286.aloadN (x := (.ref s)) (D d23_5) rfl rfl ?_
  refine X1286.aloadN (x := (.ref b)) (D d23_6) rfl rfl ?_
  refine X1286.getf (w 105 rfl) Via.refl F1290 (D d23_7) ?_
  intro T1294 X1295
  show Goes p.tables e below _ (T1294.setTop (mkF m 10 #[.val (.ref b), .val (.int (10 : Int32)), .val (.ref s)] [(.ref d), (.ref s)]))
  refine X1295.iloadN (x := (10 : Int32)) (D d23_10) rfl ?_
  refine X1295.aloadN (x := (.ref b)) (D d23_11) rfl rfl ?_
  refine X1295.getf (w 107 rfl) Via.refl F1291 (D d23_12) ?_
  intro T1296 X1297
  show Goes p.tables e below _ (T1296.setTop (mkF m 15 #[.val (.ref b), .val (.int (10 : Int32)), .val (.ref s)] [(.int (0 : Int32)), (.int (10 : Int32)), (.ref d), (.ref s)]))
  refine X1297.callvF (y := (⟨"java/lang/String", "getBytes", "([BIB)V"⟩ : MethodName)) (z := (⟨"java/lang/String", "getBytes", "([BIB)V"⟩ : MethodName)) (a := s) (C := "java/lang/String") [(.ref d), (.int (10 : Int32)), (.int (0 : Int32))] [] (ctGB10_2_16 l Z a0 hw hEL z0 S0 hz0 s t d kd cs vd _ _ F1293 hl_s ntd F1292 hvd).toF F1293.1 (w 148 rfl) (w 149 rfl) (w 151 rfl) (w 150 rfl) (nfOf (w 151 rfl) rfl) (w 3 rfl) (w 152 rfl) (by decide) (by simp) (by decide) 0 (by decide) (by decide) (by decide) (lenOf pd_6 rfl) rfl (Nat.le_of_ble_eq_true rfl) (by rw [hml]; rfl) (D d23_15) ?_
  rintro T1298 h1299 _ _ X1301 K1302 hg1303 ⟨rfl, rfl, A1⟩
  have F1304 := F1289.keep K1302
  have F1305 := F1290.keep K1302 (ninS (Exa.neArv F1289 F1292 (w 92 rfl)) nin0)
  have F1306 := F1291.keep K1302 (ninS (Exa.neArv F1289 F1292 (w 92 rfl)) nin0)
  have F1307 := F1293.keep K1302 (ninS (Exa.neArv F1293.1 F1292 (w 2 rfl)) nin0) (ninS ntd nin0)
  show Goes p.tables e below _ (T1298.setTop (mkF m 18 #[.val (.ref b), .val (.int (10 : Int32)), .val (.ref s)] []))
  exact X1301.retn hret hlk (D d23_18) (by decide) (by decide) (⟨rfl, A1⟩)
set_option maxRecDepth 65536 in
set_option maxHeartbeats 40000000 in
theorem ctEC12_16 (l : Launch) (Z : State) (a0 : Array Value) (hw : ∀ d ∈ tables_1, d.before a0 Z = true) (hEL : EW Z a0 consts_1) (z0 : Int32) (S0 : Sta Z Z.heap "java/lang/String" "COMPACT_STRINGS" "Z" (.int z0)) (hz0 : ¬ z0 = 0) (b d : Addr) (kd : ClassId) (vd : List Value) (h0 : Heap) (n0 : Nat) (EB : Exa Z h0 b "java/lang/StringBuilder") (FV : Fld Z h0 b "java/lang/AbstractStringBuilder" "value" "[B" (.ref d)) (FC : Fld Z h0 b "java/lang/AbstractStringBuilder" "coder" "B" (.int (0 : Int32))) (AD : Arv Z h0 d kd .byte (16 : Int32) vd (.int 0)) (hvd : vd.length = 16) :
    Ct l Z consts_1 [] (⟨"java/lang/AbstractStringBuilder", "ensureCapacityInternal", "(I)V"⟩ : MethodName) jdk_68_method_9_code 3 none ({ frames := 0, cells := 0, slots := 0, locals := 0 } : Room) #[(.ref b), (.int (12 : Int32))] h0 n0 [] (fun v _ => v = none) := by
  have w : ∀ {d : Jvm.Cond} (i : Nat), tables_1[i]? = some d → d.before a0 Z = true := fun i q => hw _ (List.mem_of_getElem? q)
  refine Ct.enter (plainFor_of_name pn_2) hEL ?_
  intro p e sS m below meth c T0 hby hml0 hret hlk hnm hs0 X0
  have hml : c.maxLocals = 3 := hml0
  have D : ∀ {pc : Nat} {r : Except DecodeError (Instr × Nat)}, decode jdk_68_method_9_code pc = r → decode c.code pc = r := fun q => hb hby q
  rw [show entryFrame m #[(.ref b), (.int (12 : Int32))] 3 = mkF m 0 #[.val (.ref b), .val (.int (12 : Int32)), .unset] [] from by first | (simp [entryFrame, mkF, argsToLocals, Value.category]; done) | rfl]
  refine X0.aloadN (x := (.ref b)) (D d22_0) rfl rfl ?_
  refine X0.getf (w 105 rfl) Via.refl FV (D d22_1) ?_
  intro T1308 X1309
  show Goes p.tables e below _ (T1308.setTop (mkF m 4 #[.val (.ref b), .val (.int (12 : Int32)), .unset] [(.ref d)]))
  refine X1309.alen AD (D d22_4) ?_
  refine X1309.aloadN (x := (.ref b)) (D d22_5) rfl rfl ?_
  refine X1309.getf (w 107 rfl) Via.refl FC (D d22_6) ?_
  intro T1310 X1311
  show Goes p.tables e below _ (T1310.setTop (mkF m 9 #[.val (.ref b), .val (.int (12 : Int32)), .unset] [(.int (0 : Int32)), (.int (16 : Int32))]))
  refine X1311.ishr (D d22_9) ?_
  show Goes p.tables e below _ (T1310.setTop (mkF m 10 #[.val (.ref b), .val (.int (12 : Int32)), .unset] [(.int (16 : Int32))]))
  refine X1311.istoreN #[.val (.ref b), .val (.int (12 : Int32)), .val (.int (16 : Int32))] (D d22_10) rfl ?_
  refine X1311.iloadN (x := (12 : Int32)) (D d22_11) rfl ?_
  refine X1311.iloadN (x := (16 : Int32)) (D d22_12) rfl ?_
  refine X1311.isub (D d22_13) ?_
  show Goes p.tables e below _ (T1310.setTop (mkF m 14 #[.val (.ref b), .val (.int (12 : Int32)), .val (.int (16 : Int32))] [(.int (-4 : Int32))]))
  refine X1311.if_le 38 (D d22_14) ⟨by decide, by decide⟩ (fun hc1312 => ?_) (fun hc1312 => absurd hc1312 (by decide))
  exact X1311.retn hret hlk (D d22_38) (by decide) (by decide) (rfl)
set_option maxRecDepth 65536 in
set_option maxHeartbeats 40000000 in
theorem ctAA10_2_16 (l : Launch) (Z : State) (a0 : Array Value) (hw : ∀ d ∈ tables_1, d.before a0 Z = true) (hEL : EW Z a0 consts_1) (z0 : Int32) (S0 : Sta Z Z.heap "java/lang/String" "COMPACT_STRINGS" "Z" (.int z0)) (hz0 : ¬ z0 = 0) (b d s t : Addr) (kd : ClassId) (cs : List Int32) (vd : List Value) (h0 : Heap) (n0 : Nat) (EB : Exa Z h0 b "java/lang/StringBuilder") (FV : Fld Z h0 b "java/lang/AbstractStringBuilder" "value" "[B" (.ref d)) (FC : Fld Z h0 b "java/lang/AbstractStringBuilder" "coder" "B" (.int (0 : Int32))) (FN : Fld Z h0 b "java/lang/AbstractStringBuilder" "count" "I" (.int (10 : Int32))) (AD : Arv Z h0 d kd .byte (16 : Int32) vd (.int 0)) (hvd : vd.length = 16) (OS : OStr Z h0 s t cs) (hl_s : cs.length = 2) (ntd : t ≠ d) :
    Ct l Z consts_1 [] (⟨"java/lang/AbstractStringBuilder", "append", "(Ljava/lang/String;)Ljava/lang/AbstractStringBuilder;"⟩ : MethodName) jdk_68_method_22_code 3 (some (.object "java/lang/AbstractStringBuilder")) ({ frames := 3, cells := 0, slots := 0, locals := 47 } : Room) #[(.ref b), (.ref s)] h0 n0 [b, d] (fun v h => v = some (.ref b) ∧ Exa Z h b "java/lang/StringBuilder" ∧ Fld Z h b "java/lang/AbstractStringBuilder" "value" "[B" (.ref d) ∧ Fld Z h b "java/lang/AbstractStringBuilder" "coder" "B" (.int (0 : Int32)) ∧ Fld Z h b "java/lang/AbstractStringBuilder" "count" "I" (.int (12 : Int32)) ∧ Arv Z h d kd .byte (16 : Int32) (vd.take 10 ++ ((cs.map StrChars.lo8).map Value.int) ++ vd.drop (10 + 2)) (.int 0)) := by
  have w : ∀ {d : Jvm.Cond} (i : Nat), tables_1[i]? = some d → d.before a0 Z = true := fun i q => hw _ (List.mem_of_getElem? q)
  refine Ct.enter (plainFor_of_name pn_2) hEL ?_
  intro p e sS m below meth c T0 hby hml0 hret hlk hnm hs0 X0
  have hml : c.maxLocals = 3 := hml0
  have D : ∀ {pc : Nat} {r : Except DecodeError (Instr × Nat)}, decode jdk_68_method_22_code pc = r → decode c.code pc = r := fun q => hb hby q
  rw [show entryFrame m #[(.ref b), (.ref s)] 3 = mkF m 0 #[.val (.ref b), .val (.ref s), .unset] [] from by first | (simp [entryFrame, mkF, argsToLocals, Value.category]; done) | rfl]
  refine X0.aloadN (x := (.ref s)) (D d19_0) rfl rfl ?_
  refine X0.ifnonnullR 9 (D d19_1) ⟨by decide, by decide⟩ ?_
  refine X0.aloadN (x := (.ref s)) (D d19_9) rfl rfl ?_
  refine X0.callvF (y := (⟨"java/lang/String", "length", "()I"⟩ : MethodName)) (z := (⟨"java/lang/String", "length", "()I"⟩ : MethodName)) (a := s) (C := "java/lang/String") [] [] (ctLen2 l Z a0 hw hEL z0 S0 hz0 s t cs _ _ OS hl_s).toF OS.1 (w 120 rfl) (w 121 rfl) (w 123 rfl) (w 122 rfl) (nfOf (w 123 rfl) rfl) (w 3 rfl) (w 124 rfl) (by decide) (fun _ q => nomatch q) (by decide) 0 (by decide) (by decide) (by decide) (lenOf pd_7 rfl) rfl (Nat.le_of_ble_eq_true rfl) (by rw [hml]; rfl) (D d19_10) ?_
  rintro T1313 h1314 _ _ X1316 K1317 hg1318 ⟨rfl, rfl⟩
  have F1319 := EB.keep K1317
  have F1320 := FV.keep K1317 nin0
  have F1321 := FC.keep K1317 nin0
  have F1322 := FN.keep K1317 nin0
  have F1323 := AD.keep K1317 nin0
  have F1324 := OS.keep K1317 nin0 nin0
  show Goes p.tables e below _ (T1313.setTop (mkF m 13 #[.val (.ref b), .val (.ref s), .unset] [(.int (2 : Int32))]))
  refine X1316.istoreN #[.val (.ref b), .val (.ref s), .val (.int (2 : Int32))] (D d19_13) rfl ?_
  refine X1316.aloadN (x := (.ref b)) (D d19_14) rfl rfl ?_
  refine X1316.aloadN (x := (.ref b)) (D d19_15) rfl rfl ?_
  refine X1316.getf (w 130 rfl) Via.refl F1322 (D d19_16) ?_
  intro T1325 X1326
  show Goes p.tables e below _ (T1325.setTop (mkF m 19 #[.val (.ref b), .val (.ref s), .val (.int (2 : Int32))] [(.int (10 : Int32)), (.ref b)]))
  refine X1326.iloadN (x := (2 : Int32)) (D d19_19) rfl ?_
  refine X1326.iadd (D d19_20) ?_
  show Goes p.tables e below _ (T1325.setTop (mkF m 21 #[.val (.ref b), .val (.ref s), .val (.int (2 : Int32))] [(.int (12 : Int32)), (.ref b)]))
  refine X1326.callvF (y := (⟨"java/lang/AbstractStringBuilder", "ensureCapacityInternal", "(I)V"⟩ : MethodName)) (z := (⟨"java/lang/AbstractStringBuilder", "ensureCapacityInternal", "(I)V"⟩ : MethodName)) (a := b) (C := "java/lang/StringBuilder") [(.int (12 : Int32))] [] (ctEC12_16 l Z a0 hw hEL z0 S0 hz0 b d kd vd _ _ F1319 F1320 F1321 F1323 hvd).toF F1319 (w 132 rfl) (decOf (w 133 rfl) (w 136 rfl)) (w 135 rfl) (w 133 rfl) (nfOf (w 135 rfl) rfl) (w 101 rfl) (w 136 rfl) (by decide) (fun _ q => nomatch q) (by decide) 0 (by decide) (by decide) (by decide) (lenOf pd_1 rfl) rfl (Nat.le_of_ble_eq_true rfl) (by rw [hml]; rfl) (D d19_21) ?_
  rintro T1327 h1328 _ _ X1330 K1331 hg1332 ⟨rfl, rfl⟩
  have F1333 := F1319.keep K1331
  have F1334 := F1320.keep K1331 nin0
  have F1335 := F1321.keep K1331 nin0
  have F1336 := F1322.keep K1331 nin0
  have F1337 := F1323.keep K1331 nin0
  have F1338 := F1324.keep K1331 nin0 nin0
  show Goes p.tables e below _ (T1327.setTop (mkF m 24 #[.val (.ref b), .val (.ref s), .val (.int (2 : Int32))] []))
  refine X1330.aloadN (x := (.ref b)) (D d19_24) rfl rfl ?_
  refine X1330.aloadN (x := (.ref b)) (D d19_25) rfl rfl ?_
  refine X1330.getf (w 130 rfl) Via.refl F1336 (D d19_26) ?_
  intro T1339 X1340
  show Goes p.tables e below _ (T1339.setTop (mkF m 29 #[.val (.ref b), .val (.ref s), .val (.int (2 : Int32))] [(.int (10 : Int32)), (.ref b)]))
  refine X1340.aloadN (x := (.ref s)) (D d19_29) rfl rfl ?_
  refine X1340.callvF (y := (⟨"java/lang/AbstractStringBuilder", "putStringAt", "(ILjava/lang/String;)V"⟩ : MethodName)) (z := (⟨"java/lang/AbstractStringBuilder", "putStringAt", "(ILjava/lang/String;)V"⟩ : MethodName)) (a := b) (C := "java/lang/StringBuilder") [(.int (10 : Int32)), (.ref s)] [] (ctPS10_2_16 l Z a0 hw hEL z0 S0 hz0 b d s t kd cs vd _ _ F1333 F1334 F1335 F1337 hvd F1338 hl_s ntd).toF F1333 (w 137 rfl) (decOf (w 138 rfl) (w 141 rfl)) (w 140 rfl) (w 138 rfl) (nfOf (w 140 rfl) rfl) (w 101 rfl) (w 141 rfl) (by decide) (by simp) (by decide) 0 (by decide) (by decide) (by decide) (lenOf pd_8 rfl) rfl (Nat.le_of_ble_eq_true rfl) (by rw [hml]; rfl) (D d19_30) ?_
  rintro T1341 h1342 _ _ X1344 K1345 hg1346 ⟨rfl, rfl, A1⟩
  have F1347 := F1333.keep K1345
  have F1348 := F1334.keep K1345 (ninS (Exa.neArv F1333 F1337 (w 92 rfl)) nin0)
  have F1349 := F1335.keep K1345 (ninS (Exa.neArv F1333 F1337 (w 92 rfl)) nin0)
  have F1350 := F1336.keep K1345 (ninS (Exa.neArv F1333 F1337 (w 92 rfl)) nin0)
  have F1351 := F1338.keep K1345 (ninS (Exa.neArv F1338.1 F1337 (w 2 rfl)) nin0) (ninS ntd nin0)
  show Goes p.tables e below _ (T1341.setTop (mkF m 33 #[.val (.ref b), .val (.ref s), .val (.int (2 : Int32))] []))
  refine X1344.aloadN (x := (.ref b)) (D d19_33) rfl rfl ?_
  refine X1344.dup (D d19_34) rfl ?_
  refine X1344.getf (w 130 rfl) Via.refl F1350 (D d19_35) ?_
  intro T1352 X1353
  show Goes p.tables e below _ (T1352.setTop (mkF m 38 #[.val (.ref b), .val (.ref s), .val (.int (2 : Int32))] [(.int (10 : Int32)), (.ref b)]))
  refine X1353.iloadN (x := (2 : Int32)) (D d19_38) rfl ?_
  refine X1353.iadd (D d19_39) ?_
  show Goes p.tables e below _ (T1352.setTop (mkF m 40 #[.val (.ref b), .val (.ref s), .val (.int (2 : Int32))] [(.int (12 : Int32)), (.ref b)]))
  refine X1353.putf (w 130 rfl) Via.refl F1350 F1347 (Or.inl (w 131 rfl)) (w 92 rfl) (ty := .int) (by decide) rfl rfl (D d19_40) (by simp) ?_
  intro T1354 h1355 X1356 W1357
  have F1358 := F1350.same W1357
  have F1359 := F1347.wr W1357
  have F1360 := F1348.other W1357 (Or.inr (slot_ne (t := (.array .byte)) (t' := .int) (Or.inl (w 106 rfl)) (Or.inl (w 131 rfl)) (by decide) (by decide) (by decide)))
  have F1361 := F1349.other W1357 (Or.inr (slot_ne (t := .byte) (t' := .int) (Or.inl (w 108 rfl)) (Or.inl (w 131 rfl)) (by decide) (by decide) (by decide)))
  have F1362 := F1351.wr W1357 (Exa.ne F1351.1 F1347 (by decide)) (OStr.neT F1351 F1347 (w 92 rfl))
  have F1363 := A1.other W1357 (Exa.neArv F1347 A1 (w 92 rfl)).symm
  show Goes p.tables e below _ (T1354.setTop (mkF m 43 #[.val (.ref b), .val (.ref s), .val (.int (2 : Int32))] []))
  refine X1356.aloadN (x := (.ref b)) (D d19_43) rfl rfl ?_
  exact X1356.retA hret rfl rfl hlk (D d19_44) (by decide) (by decide) (⟨rfl, F1359, F1360, F1361, F1358, F1363⟩)
set_option maxRecDepth 65536 in
set_option maxHeartbeats 40000000 in
theorem ctSBa10_2_16 (l : Launch) (Z : State) (a0 : Array Value) (hw : ∀ d ∈ tables_1, d.before a0 Z = true) (hEL : EW Z a0 consts_1) (z0 : Int32) (S0 : Sta Z Z.heap "java/lang/String" "COMPACT_STRINGS" "Z" (.int z0)) (hz0 : ¬ z0 = 0) (b d s t : Addr) (kd : ClassId) (cs : List Int32) (vd : List Value) (h0 : Heap) (n0 : Nat) (EB : Exa Z h0 b "java/lang/StringBuilder") (FV : Fld Z h0 b "java/lang/AbstractStringBuilder" "value" "[B" (.ref d)) (FC : Fld Z h0 b "java/lang/AbstractStringBuilder" "coder" "B" (.int (0 : Int32))) (FN : Fld Z h0 b "java/lang/AbstractStringBuilder" "count" "I" (.int (10 : Int32))) (AD : Arv Z h0 d kd .byte (16 : Int32) vd (.int 0)) (hvd : vd.length = 16) (OS : OStr Z h0 s t cs) (hl_s : cs.length = 2) (ntd : t ≠ d) :
    Ct l Z consts_1 [] (⟨"java/lang/StringBuilder", "append", "(Ljava/lang/String;)Ljava/lang/StringBuilder;"⟩ : MethodName) jdk_67_method_7_code 2 (some (.object "java/lang/StringBuilder")) ({ frames := 4, cells := 0, slots := 0, locals := 61 } : Room) #[(.ref b), (.ref s)] h0 n0 [b, d] (fun v h => v = some (.ref b) ∧ Exa Z h b "java/lang/StringBuilder" ∧ Fld Z h b "java/lang/AbstractStringBuilder" "value" "[B" (.ref d) ∧ Fld Z h b "java/lang/AbstractStringBuilder" "coder" "B" (.int (0 : Int32)) ∧ Fld Z h b "java/lang/AbstractStringBuilder" "count" "I" (.int (12 : Int32)) ∧ Arv Z h d kd .byte (16 : Int32) (vd.take 10 ++ ((cs.map StrChars.lo8).map Value.int) ++ vd.drop (10 + 2)) (.int 0)) := by
  have w : ∀ {d : Jvm.Cond} (i : Nat), tables_1[i]? = some d → d.before a0 Z = true := fun i q => hw _ (List.mem_of_getElem? q)
  refine Ct.enter (plainFor_of_name pn_3) hEL ?_
  intro p e sS m below meth c T0 hby hml0 hret hlk hnm hs0 X0
  have hml : c.maxLocals = 2 := hml0
  have D : ∀ {pc : Nat} {r : Except DecodeError (Instr × Nat)}, decode jdk_67_method_7_code pc = r → decode c.code pc = r := fun q => hb hby q
  rw [show entryFrame m #[(.ref b), (.ref s)] 2 = mkF m 0 #[.val (.ref b), .val (.ref s)] [] from by first | (simp [entryFrame, mkF, argsToLocals, Value.category]; done) | rfl]
  refine X0.aloadN (x := (.ref b)) (D d18_0) rfl rfl ?_
  refine X0.aloadN (x := (.ref s)) (D d18_1) rfl rfl ?_
  refine X0.callu (a := b) [(.ref s)] [] (ctAA10_2_16 l Z a0 hw hEL z0 S0 hz0 b d s t kd cs vd _ _ EB FV FC FN AD hvd OS hl_s ntd).toF EB (w 115 rfl) (smOf (w 116 rfl) (w 172 rfl) rfl (by decide)) (w 116 rfl) (w 117 rfl) (by decide) (w 101 rfl) (w 119 rfl) (by simp) (by decide) 0 (by decide) (by decide) (by decide) (lenOf pd_9 rfl) rfl (Nat.le_of_ble_eq_true rfl) (by rw [hml]; rfl) (D d18_2) ?_
  rintro T1364 h1365 _ _ X1367 K1368 hg1369 ⟨rfl, rfl, E1, V1, C1, N1, A1⟩
  have F1370 := EB.keep K1368
  have F1371 := OS.keep K1368 (ninS (Exa.ne OS.1 EB (by decide)) (ninS (Exa.neArv OS.1 AD (w 2 rfl)) nin0)) (ninS (OStr.neT OS EB (w 92 rfl)) (ninS ntd nin0))
  show Goes p.tables e below _ (T1364.setTop (mkF m 5 #[.val (.ref b), .val (.ref s)] [(.ref b)]))
  refine X1367.pop (D d18_5) rfl ?_
  refine X1367.aloadN (x := (.ref b)) (D d18_6) rfl rfl ?_
  exact X1367.retA hret rfl rfl hlk (D d18_7) (by decide) (by decide) (⟨rfl, E1, V1, C1, N1, A1⟩)
set_option maxRecDepth 65536 in
set_option maxHeartbeats 40000000 in
theorem ctCL12_16 (l : Launch) (Z : State) (a0 : Array Value) (hw : ∀ d ∈ tables_1, d.before a0 Z = true) (hEL : EW Z a0 consts_1) (z0 : Int32) (S0 : Sta Z Z.heap "java/lang/String" "COMPACT_STRINGS" "Z" (.int z0)) (hz0 : ¬ z0 = 0)  (h0 : Heap) (n0 : Nat)  :
    Ct l Z consts_1 [] (⟨"java/util/Arrays", "checkLength", "(II)V"⟩ : MethodName) jdk_65_method_131_code 2 none ({ frames := 0, cells := 0, slots := 0, locals := 0 } : Room) #[(.int (0 : Int32)), (.int (12 : Int32))] h0 n0 [] (fun v _ => v = none) := by
  have w : ∀ {d : Jvm.Cond} (i : Nat), tables_1[i]? = some d → d.before a0 Z = true := fun i q => hw _ (List.mem_of_getElem? q)
  refine Ct.enter (plainFor_of_name pn_5) hEL ?_
  intro p e sS m below meth c T0 hby hml0 hret hlk hnm hs0 X0
  have hml : c.maxLocals = 2 := hml0
  have D : ∀ {pc : Nat} {r : Except DecodeError (Instr × Nat)}, decode jdk_65_method_131_code pc = r → decode c.code pc = r := fun q => hb hby q
  rw [show entryFrame m #[(.int (0 : Int32)), (.int (12 : Int32))] 2 = mkF m 0 #[.val (.int (0 : Int32)), .val (.int (12 : Int32))] [] from by first | (simp [entryFrame, mkF, argsToLocals, Value.category]; done) | rfl]
  refine X0.iloadN (x := (12 : Int32)) (D d35_0) rfl ?_
  refine X0.iloadN (x := (0 : Int32)) (D d35_1) rfl ?_
  refine X0.icmp_ge 37 (D d35_2) ⟨by decide, by decide⟩ (fun hc1372 => ?_) (fun hc1372 => absurd hc1372 (by decide))
  exact X0.retn hret hlk (D d35_37) (by decide) (by decide) (rfl)
set_option maxRecDepth 65536 in
set_option maxHeartbeats 40000000 in
theorem ctMn12_16 (l : Launch) (Z : State) (a0 : Array Value) (hw : ∀ d ∈ tables_1, d.before a0 Z = true) (hEL : EW Z a0 consts_1) (z0 : Int32) (S0 : Sta Z Z.heap "java/lang/String" "COMPACT_STRINGS" "Z" (.int z0)) (hz0 : ¬ z0 = 0)  (h0 : Heap) (n0 : Nat)  :
    Ct l Z consts_1 [] (⟨"java/lang/Math", "min", "(II)I"⟩ : MethodName) jdk_29_method_69_code 2 (some .int) ({ frames := 0, cells := 0, slots := 0, locals := 0 } : Room) #[(.int (16 : Int32)), (.int (12 : Int32))] h0 n0 [] (fun v _ => v = some (.int (12 : Int32))) := by
  have w : ∀ {d : Jvm.Cond} (i : Nat), tables_1[i]? = some d → d.before a0 Z = true := fun i q => hw _ (List.mem_of_getElem? q)
  refine Ct.enter (Jvm.Free.JP.mathPlain rfl (by decide)) hEL ?_
  intro p e sS m below meth c T0 hby hml0 hret hlk hnm hs0 X0
  have hml : c.maxLocals = 2 := hml0
  have D : ∀ {pc : Nat} {r : Except DecodeError (Instr × Nat)}, decode jdk_29_method_69_code pc = r → decode c.code pc = r := fun q => hb hby q
  rw [show entryFrame m #[(.int (16 : Int32)), (.int (12 : Int32))] 2 = mkF m 0 #[.val (.int (16 : Int32)), .val (.int (12 : Int32))] [] from by first | (simp [entryFrame, mkF, argsToLocals, Value.category]; done) | rfl]
  refine X0.iloadN (x := (16 : Int32)) (D d36_0) rfl ?_
  refine X0.iloadN (x := (12 : Int32)) (D d36_1) rfl ?_
  refine X0.icmp_gt 9 (D d36_2) ⟨by decide, by decide⟩ (fun hc1373 => ?_) (fun hc1373 => absurd hc1373 (by decide))
  refine X0.iloadN (x := (12 : Int32)) (D d36_9) rfl ?_
  exact X0.retI hret hlk (D d36_10) (by decide) (by decide) (rfl)
set_option maxRecDepth 65536 in
set_option maxHeartbeats 40000000 in
theorem ctRB12_16 (l : Launch) (Z : State) (a0 : Array Value) (hw : ∀ d ∈ tables_1, d.before a0 Z = true) (hEL : EW Z a0 consts_1) (z0 : Int32) (S0 : Sta Z Z.heap "java/lang/String" "COMPACT_STRINGS" "Z" (.int z0)) (hz0 : ¬ z0 = 0) (d : Addr) (kd : ClassId) (vd xs : List Value) (h0 : Heap) (n0 : Nat) (AD : Arv Z h0 d kd .byte (16 : Int32) vd (.int 0)) (hxs : xs = (List.range 12).map fun i => vd.getD (0 + i) (.int 0)) :
    Ct l Z consts_1 [] (⟨"java/util/Arrays", "copyOfRangeByte", "([BII)[B"⟩ : MethodName) jdk_65_method_133_code 5 (some (.array .byte)) ({ frames := 1, cells := 1, slots := 12, locals := 18 } : Room) #[(.ref d), (.int (0 : Int32)), (.int (12 : Int32))] h0 n0 [] (fun v h => ∃ (r : Addr) (kr : ClassId), v = some (.ref r) ∧ Arv Z h r kr .byte (12 : Int32) xs (.int 0)) := by
  have w : ∀ {d : Jvm.Cond} (i : Nat), tables_1[i]? = some d → d.before a0 Z = true := fun i q => hw _ (List.mem_of_getElem? q)
  refine Ct.enter (plainFor_of_name pn_5) hEL ?_
  intro p e sS m below meth c T0 hby hml0 hret hlk hnm hs0 X0
  have hml : c.maxLocals = 5 := hml0
  have D : ∀ {pc : Nat} {r : Except DecodeError (Instr × Nat)}, decode jdk_65_method_133_code pc = r → decode c.code pc = r := fun q => hb hby q
  rw [show entryFrame m #[(.ref d), (.int (0 : Int32)), (.int (12 : Int32))] 5 = mkF m 0 #[.val (.ref d), .val (.int (0 : Int32)), .val (.int (12 : Int32)), .unset, .unset] [] from by first | (simp [entryFrame, mkF, argsToLocals, Value.category]; done) | rfl]
  refine X0.iloadN (x := (0 : Int32)) (D d34_0) rfl ?_
  refine X0.iloadN (x := (12 : Int32)) (D d34_1) rfl ?_
  refine X0.callsF [(.int (0 : Int32)), (.int (12 : Int32))] [] (ctCL12_16 l Z a0 hw hEL z0 S0 hz0 _ _).toF (w 194 rfl) (w 195 rfl) (w 189 rfl) (w 196 rfl) (by decide) (fun _ q => nomatch q) (by decide) 0 (by decide) (by decide) (by decide) (lenOf pd_10 rfl) rfl (Nat.le_of_ble_eq_true rfl) (by rw [hml]; rfl) (D d34_2) ?_
  rintro T1374 h1375 _ _ X1377 K1378 hg1379 ⟨rfl, rfl⟩
  have F1380 := AD.keep K1378 nin0
  show Goes p.tables e below _ (T1374.setTop (mkF m 5 #[.val (.ref d), .val (.int (0 : Int32)), .val (.int (12 : Int32)), .unset, .unset] []))
  refine X1377.iloadN (x := (12 : Int32)) (D d34_5) rfl ?_
  refine X1377.iloadN (x := (0 : Int32)) (D d34_6) rfl ?_
  refine X1377.isub (D d34_7) ?_
  show Goes p.tables e below _ (T1374.setTop (mkF m 8 #[.val (.ref d), .val (.int (0 : Int32)), .val (.int (12 : Int32)), .unset, .unset] [(.int (12 : Int32))]))
  refine X1377.istoreN #[.val (.ref d), .val (.int (0 : Int32)), .val (.int (12 : Int32)), .val (.int (12 : Int32)), .unset] (D d34_8) rfl ?_
  refine X1377.iloadN (x := (12 : Int32)) (D d34_9) rfl ?_
  refine X1377.newarr (w 15 rfl) (n := (12 : Int32)) (D d34_10) (by decide) 12 (by decide) (by decide) (by decide) (by decide) ?_
  intro T1381 h1382 b1383 kb1384 g1385 X1386 E1387 A1388
  have F1389 := F1380.ext E1387
  have lt1390 : d < b1383 := by rw [g1385]; exact F1380.lt
  have F1391 : Arv Z h1382 b1383 kb1384 .byte (12 : Int32) [(.int (0 : Int32)), (.int (0 : Int32)), (.int (0 : Int32)), (.int (0 : Int32)), (.int (0 : Int32)), (.int (0 : Int32)), (.int (0 : Int32)), (.int (0 : Int32)), (.int (0 : Int32)), (.int (0 : Int32)), (.int (0 : Int32)), (.int (0 : Int32))] (.int (0 : Int32)) := A1388.pad (pad_rep [] (.int (0 : Int32)) 12)
  show Goes p.tables e below _ (T1381.setTop (mkF m 12 #[.val (.ref d), .val (.int (0 : Int32)), .val (.int (12 : Int32)), .val (.int (12 : Int32)), .unset] [(.ref b1383)]))
  refine X1386.astore #[.val (.ref d), .val (.int (0 : Int32)), .val (.int (12 : Int32)), .val (.int (12 : Int32)), .val (.ref b1383)] (D d34_12) rfl rfl ?_
  refine X1386.aloadN (x := (.ref d)) (D d34_14) rfl rfl ?_
  refine X1386.iloadN (x := (0 : Int32)) (D d34_15) rfl ?_
  refine X1386.aload (x := (.ref b1383)) (D d34_16) rfl rfl ?_
  refine X1386.iconst (x := (0 : Int32)) (D d34_18) rfl ?_
  refine X1386.aloadN (x := (.ref d)) (D d34_19) rfl rfl ?_
  refine X1386.alen F1389 (D d34_20) ?_
  refine X1386.iloadN (x := (0 : Int32)) (D d34_21) rfl ?_
  refine X1386.isub (D d34_22) ?_
  show Goes p.tables e below _ (T1381.setTop (mkF m 23 #[.val (.ref d), .val (.int (0 : Int32)), .val (.int (12 : Int32)), .val (.int (12 : Int32)), .val (.ref b1383)] [(.int (16 : Int32)), (.int (0 : Int32)), (.ref b1383), (.int (0 : Int32)), (.ref d)]))
  refine X1386.iloadN (x := (12 : Int32)) (D d34_23) rfl ?_
  refine X1386.callsF [(.int (16 : Int32)), (.int (12 : Int32))] [(.int (0 : Int32)), (.ref b1383), (.int (0 : Int32)), (.ref d)] (ctMn12_16 l Z a0 hw hEL z0 S0 hz0 _ _).toF (w 197 rfl) (w 198 rfl) (w 199 rfl) (w 200 rfl) (by decide) (fun _ q => nomatch q) (by decide) 4 (by decide) (by decide) (by decide) (lenOf pd_11 rfl) rfl (Nat.le_of_ble_eq_true rfl) (by rw [hml]; rfl) (D d34_24) ?_
  rintro T1392 h1393 _ _ X1395 K1396 hg1397 ⟨rfl, rfl⟩
  have F1398 := F1389.keep K1396 nin0
  have F1399 := F1391.keep K1396 nin0
  show Goes p.tables e below _ (T1392.setTop (mkF m 27 #[.val (.ref d), .val (.int (0 : Int32)), .val (.int (12 : Int32)), .val (.int (12 : Int32)), .val (.ref b1383)] [(.int (12 : Int32)), (.int (0 : Int32)), (.ref b1383), (.int (0 : Int32)), (.ref d)]))
  show Goes p.tables e below _ (T1392.setTop (mkF m 27 #[.val (.ref d), .val (.int (0 : Int32)), .val (.int (12 : Int32)), .val (.int (12 : Int32)), .val (.ref b1383)] [(.int (12 : Int32)), (.int (0 : Int32)), (.ref b1383), (.int (0 : Int32)), (.ref d)]))
  refine X1395.acopy (us := xs) (w 201 rfl) (w 156 rfl) (w 154 rfl) (w 155 rfl) F1398 F1399 (by decide) (by decide) (by decide) (by decide) (by decide) hxs (by decide) (by simp) (by rw [hml]; rfl) (D d34_27) (by decide) 0 (Nat.le_of_ble_eq_true rfl) (by decide) ?_
  intro T1400 h1401 X1402 K1403 B1404
  have F1405 := F1398.keep K1403 (ninS (Nat.ne_of_lt lt1390) nin0)
  show Goes p.tables e below _ (T1400.setTop (mkF m 30 #[.val (.ref d), .val (.int (0 : Int32)), .val (.int (12 : Int32)), .val (.int (12 : Int32)), .val (.ref b1383)] []))
  refine X1402.aload (x := (.ref b1383)) (D d34_30) rfl rfl ?_
  have hz : ([(.int (0 : Int32)), (.int (0 : Int32)), (.int (0 : Int32)), (.int (0 : Int32)), (.int (0 : Int32)), (.int (0 : Int32)), (.int (0 : Int32)), (.int (0 : Int32)), (.int (0 : Int32)), (.int (0 : Int32)), (.int (0 : Int32)), (.int (0 : Int32))] : List Value).take 0 ++ xs ++ ([(.int (0 : Int32)), (.int (0 : Int32)), (.int (0 : Int32)), (.int (0 : Int32)), (.int (0 : Int32)), (.int (0 : Int32)), (.int (0 : Int32)), (.int (0 : Int32)), (.int (0 : Int32)), (.int (0 : Int32)), (.int (0 : Int32)), (.int (0 : Int32))] : List Value).drop (0 + 12) = xs := by simp
  exact X1402.retA hret rfl rfl hlk (D d34_32) (by decide) (by decide) (⟨_, _, rfl, by have q := B1404; rw [← hz]; exact q⟩)
set_option maxRecDepth 65536 in
set_option maxHeartbeats 40000000 in
theorem ctCR12_16 (l : Launch) (Z : State) (a0 : Array Value) (hw : ∀ d ∈ tables_1, d.before a0 Z = true) (hEL : EW Z a0 consts_1) (z0 : Int32) (S0 : Sta Z Z.heap "java/lang/String" "COMPACT_STRINGS" "Z" (.int z0)) (hz0 : ¬ z0 = 0) (d : Addr) (kd : ClassId) (vd xs : List Value) (h0 : Heap) (n0 : Nat) (AD : Arv Z h0 d kd .byte (16 : Int32) vd (.int 0)) (hxs : xs = (List.range 12).map fun i => vd.getD (0 + i) (.int 0)) :
    Ct l Z consts_1 [] (⟨"java/util/Arrays", "copyOfRange", "([BII)[B"⟩ : MethodName) jdk_65_method_132_code 3 (some (.array .byte)) ({ frames := 2, cells := 1, slots := 12, locals := 34 } : Room) #[(.ref d), (.int (0 : Int32)), (.int (12 : Int32))] h0 n0 [] (fun v h => ∃ (r : Addr) (kr : ClassId), v = some (.ref r) ∧ Arv Z h r kr .byte (12 : Int32) xs (.int 0)) := by
  have w : ∀ {d : Jvm.Cond} (i : Nat), tables_1[i]? = some d → d.before a0 Z = true := fun i q => hw _ (List.mem_of_getElem? q)
  refine Ct.enter (plainFor_of_name pn_5) hEL ?_
  intro p e sS m below meth c T0 hby hml0 hret hlk hnm hs0 X0
  have hml : c.maxLocals = 3 := hml0
  have D : ∀ {pc : Nat} {r : Except DecodeError (Instr × Nat)}, decode jdk_65_method_132_code pc = r → decode c.code pc = r := fun q => hb hby q
  rw [show entryFrame m #[(.ref d), (.int (0 : Int32)), (.int (12 : Int32))] 3 = mkF m 0 #[.val (.ref d), .val (.int (0 : Int32)), .val (.int (12 : Int32))] [] from by first | (simp [entryFrame, mkF, argsToLocals, Value.category]; done) | rfl]
  refine X0.iloadN (x := (0 : Int32)) (D d33_0) rfl ?_
  refine X0.if_ne 10 (D d33_1) ⟨by decide, by decide⟩ (fun hc1406 => absurd hc1406 (by decide)) (fun hc1406 => ?_)
  refine X0.iloadN (x := (12 : Int32)) (D d33_4) rfl ?_
  refine X0.aloadN (x := (.ref d)) (D d33_5) rfl rfl ?_
  refine X0.alen AD (D d33_6) ?_
  refine X0.icmp_eq 17 (D d33_7) ⟨by decide, by decide⟩ (fun hc1407 => absurd hc1407 (by decide)) (fun hc1407 => ?_)
  refine X0.aloadN (x := (.ref d)) (D d33_10) rfl rfl ?_
  refine X0.iloadN (x := (0 : Int32)) (D d33_11) rfl ?_
  refine X0.iloadN (x := (12 : Int32)) (D d33_12) rfl ?_
  refine X0.callsF [(.ref d), (.int (0 : Int32)), (.int (12 : Int32))] [] (ctRB12_16 l Z a0 hw hEL z0 S0 hz0 d kd vd xs _ _ AD hxs).toF (w 191 rfl) (w 192 rfl) (w 189 rfl) (w 193 rfl) (by decide) (fun _ q => nomatch q) (by decide) 0 (by decide) (by decide) (by decide) (lenOf pd_12 rfl) rfl (Nat.le_of_ble_eq_true rfl) (by rw [hml]; rfl) (D d33_13) ?_
  rintro T1408 h1409 _ _ X1411 K1412 hg1413 ⟨rfl, r, kr, rfl, A1⟩
  have F1414 := AD.keep K1412 nin0
  show Goes p.tables e below _ (T1408.setTop (mkF m 16 #[.val (.ref d), .val (.int (0 : Int32)), .val (.int (12 : Int32))] [(.ref r)]))
  exact X1411.retA hret rfl rfl hlk (D d33_16) (by decide) (by decide) (⟨r, kr, rfl, A1⟩)
set_option maxRecDepth 65536 in
set_option maxHeartbeats 40000000 in
theorem ctAL12 (l : Launch) (Z : State) (a0 : Array Value) (hw : ∀ d ∈ tables_1, d.before a0 Z = true) (hEL : EW Z a0 consts_1) (z0 : Int32) (S0 : Sta Z Z.heap "java/lang/String" "COMPACT_STRINGS" "Z" (.int z0)) (hz0 : ¬ z0 = 0) (b d : Addr) (h0 : Heap) (n0 : Nat) (EB : Exa Z h0 b "java/lang/StringBuilder") (FV : Fld Z h0 b "java/lang/AbstractStringBuilder" "value" "[B" (.ref d)) (FC : Fld Z h0 b "java/lang/AbstractStringBuilder" "coder" "B" (.int (0 : Int32))) (FN : Fld Z h0 b "java/lang/AbstractStringBuilder" "count" "I" (.int (12 : Int32))) :
    Ct l Z consts_1 [] (⟨"java/lang/AbstractStringBuilder", "length", "()I"⟩ : MethodName) jdk_68_method_6_code 1 (some .int) ({ frames := 0, cells := 0, slots := 0, locals := 0 } : Room) #[(.ref b)] h0 n0 [] (fun v _ => v = some (.int (12 : Int32))) := by
  have w : ∀ {d : Jvm.Cond} (i : Nat), tables_1[i]? = some d → d.before a0 Z = true := fun i q => hw _ (List.mem_of_getElem? q)
  refine Ct.enter (plainFor_of_name pn_2) hEL ?_
  intro p e sS m below meth c T0 hby hml0 hret hlk hnm hs0 X0
  have hml : c.maxLocals = 1 := hml0
  have D : ∀ {pc : Nat} {r : Except DecodeError (Instr × Nat)}, decode jdk_68_method_6_code pc = r → decode c.code pc = r := fun q => hb hby q
  rw [show entryFrame m #[(.ref b)] 1 = mkF m 0 #[.val (.ref b)] [] from by first | (simp [entryFrame, mkF, argsToLocals, Value.category]; done) | rfl]
  refine X0.aloadN (x := (.ref b)) (D d31_0) rfl rfl ?_
  refine X0.getf (w 130 rfl) Via.refl FN (D d31_1) ?_
  intro T1415 X1416
  show Goes p.tables e below _ (T1415.setTop (mkF m 4 #[.val (.ref b)] [(.int (12 : Int32))]))
  exact X1416.retI hret hlk (D d31_4) (by decide) (by decide) (rfl)
set_option maxRecDepth 65536 in
set_option maxHeartbeats 40000000 in
theorem ctSL12 (l : Launch) (Z : State) (a0 : Array Value) (hw : ∀ d ∈ tables_1, d.before a0 Z = true) (hEL : EW Z a0 consts_1) (z0 : Int32) (S0 : Sta Z Z.heap "java/lang/String" "COMPACT_STRINGS" "Z" (.int z0)) (hz0 : ¬ z0 = 0) (b d : Addr) (h0 : Heap) (n0 : Nat) (EB : Exa Z h0 b "java/lang/StringBuilder") (FV : Fld Z h0 b "java/lang/AbstractStringBuilder" "value" "[B" (.ref d)) (FC : Fld Z h0 b "java/lang/AbstractStringBuilder" "coder" "B" (.int (0 : Int32))) (FN : Fld Z h0 b "java/lang/AbstractStringBuilder" "count" "I" (.int (12 : Int32))) :
    Ct l Z consts_1 [] (⟨"java/lang/StringBuilder", "length", "()I"⟩ : MethodName) jdk_67_method_93_code 1 (some .int) ({ frames := 1, cells := 0, slots := 0, locals := 12 } : Room) #[(.ref b)] h0 n0 [] (fun v _ => v = some (.int (12 : Int32))) := by
  have w : ∀ {d : Jvm.Cond} (i : Nat), tables_1[i]? = some d → d.before a0 Z = true := fun i q => hw _ (List.mem_of_getElem? q)
  refine Ct.enter (plainFor_of_name pn_3) hEL ?_
  intro p e sS m below meth c T0 hby hml0 hret hlk hnm hs0 X0
  have hml : c.maxLocals = 1 := hml0
  have D : ∀ {pc : Nat} {r : Except DecodeError (Instr × Nat)}, decode jdk_67_method_93_code pc = r → decode c.code pc = r := fun q => hb hby q
  rw [show entryFrame m #[(.ref b)] 1 = mkF m 0 #[.val (.ref b)] [] from by first | (simp [entryFrame, mkF, argsToLocals, Value.category]; done) | rfl]
  refine X0.aloadN (x := (.ref b)) (D d30_0) rfl rfl ?_
  refine X0.callu (a := b) [] [] (ctAL12 l Z a0 hw hEL z0 S0 hz0 b d _ _ EB FV FC FN).toF EB (w 180 rfl) (smOf (w 176 rfl) (w 172 rfl) rfl (by decide)) (w 176 rfl) (w 117 rfl) (by decide) (w 101 rfl) (w 181 rfl) (fun _ q => nomatch q) (by decide) 0 (by decide) (by decide) (by decide) (lenOf pd_7 rfl) rfl (Nat.le_of_ble_eq_true rfl) (by rw [hml]; rfl) (D d30_1) ?_
  rintro T1417 h1418 _ _ X1420 K1421 hg1422 ⟨rfl, rfl⟩
  have F1423 := EB.keep K1421
  have F1424 := FV.keep K1421 nin0
  have F1425 := FC.keep K1421 nin0
  have F1426 := FN.keep K1421 nin0
  show Goes p.tables e below _ (T1417.setTop (mkF m 4 #[.val (.ref b)] [(.int (12 : Int32))]))
  exact X1420.retI hret hlk (D d30_4) (by decide) (by decide) (rfl)
set_option maxRecDepth 65536 in
set_option maxHeartbeats 40000000 in
theorem ctIV12_16 (l : Launch) (Z : State) (a0 : Array Value) (hw : ∀ d ∈ tables_1, d.before a0 Z = true) (hEL : EW Z a0 consts_1) (z0 : Int32) (S0 : Sta Z Z.heap "java/lang/String" "COMPACT_STRINGS" "Z" (.int z0)) (hz0 : ¬ z0 = 0) (a b d : Addr) (kd : ClassId) (vd : List Value) (ds : List Int32) (h0 : Heap) (n0 : Nat) (EB : Exa Z h0 b "java/lang/StringBuilder") (FV : Fld Z h0 b "java/lang/AbstractStringBuilder" "value" "[B" (.ref d)) (FC : Fld Z h0 b "java/lang/AbstractStringBuilder" "coder" "B" (.int (0 : Int32))) (FN : Fld Z h0 b "java/lang/AbstractStringBuilder" "count" "I" (.int (12 : Int32))) (AD : Arv Z h0 d kd .byte (16 : Int32) vd (.int 0)) (hvd : vd.length = 16) (hp : ∀ c ∈ ds, ¬ c < 0 ∧ ¬ (255 : Int32) < c) (hds : ds.length = 12) (hxs : ((ds.map StrChars.lo8).map Value.int) = (List.range 12).map fun i => vd.getD (0 + i) (.int 0)) (E0 : Exa Z h0 a "java/lang/String") (F0 : Fld Z h0 a "java/lang/String" "value" "[B" .null) (F1 : Fld Z h0 a "java/lang/String" "coder" "B" (.int (0 : Int32))) :
    Ct l Z consts_1 [] (⟨"java/lang/String", "<init>", "(Ljava/lang/AbstractStringBuilder;Ljava/lang/Void;)V"⟩ : MethodName) jdk_42_method_150_code 5 none ({ frames := 3, cells := 1, slots := 12, locals := 49 } : Room) #[(.ref a), (.ref b), .null] h0 n0 [a] (fun v h => v = none ∧ ∃ t : Addr, OStr Z h a t ds) := by
  have w : ∀ {d : Jvm.Cond} (i : Nat), tables_1[i]? = some d → d.before a0 Z = true := fun i q => hw _ (List.mem_of_getElem? q)
  refine Ct.enter (plainFor_of_name pn_1) hEL ?_
  intro p e sS m below meth c T0 hby hml0 hret hlk hnm hs0 X0
  have hml : c.maxLocals = 5 := hml0
  have D : ∀ {pc : Nat} {r : Except DecodeError (Instr × Nat)}, decode jdk_42_method_150_code pc = r → decode c.code pc = r := fun q => hb hby q
  rw [show entryFrame m #[(.ref a), (.ref b), .null] 5 = mkF m 0 #[.val (.ref a), .val (.ref b), .val .null, .unset, .unset] [] from by first | (simp [entryFrame, mkF, argsToLocals, Value.category]; done) | rfl]
  refine X0.aloadN (x := (.ref a)) (D d28_0) rfl rfl ?_
  refine X0.inito (w 11 rfl) (w 12 rfl) (w 13 rfl) (D d28_1) (by rw [hml]; rfl) (by decide) 0 (Nat.le_of_ble_eq_true rfl) (by decide) ?_
  intro T1427 X1428
  show Goes p.tables e below _ (T1427.setTop (mkF m 4 #[.val (.ref a), .val (.ref b), .val .null, .unset, .unset] []))
  refine X1428.aloadN (x := (.ref b)) (D d28_4) rfl rfl ?_
  refine X1428.callvF (y := (⟨"java/lang/AbstractStringBuilder", "getValue", "()[B"⟩ : MethodName)) (z := (⟨"java/lang/AbstractStringBuilder", "getValue", "()[B"⟩ : MethodName)) (a := b) (C := "java/lang/StringBuilder") [] [] (ctGV l Z a0 hw hEL z0 S0 hz0 b d _ _ EB FV FC).toF EB (w 169 rfl) (w 170 rfl) (w 172 rfl) (w 171 rfl) (nfOf (w 172 rfl) rfl) (w 101 rfl) (w 173 rfl) (by decide) (fun _ q => nomatch q) (by decide) 0 (by decide) (by decide) (by decide) (lenOf pd_13 rfl) rfl (Nat.le_of_ble_eq_true rfl) (by rw [hml]; rfl) (D d28_5) ?_
  rintro T1429 h1430 _ _ X1432 K1433 hg1434 ⟨rfl, rfl⟩
  have F1435 := EB.keep K1433
  have F1436 := FV.keep K1433 nin0
  have F1437 := FC.keep K1433 nin0
  have F1438 := FN.keep K1433 nin0
  have F1439 := AD.keep K1433 nin0
  have F1440 := E0.keep K1433
  have F1441 := F0.keep K1433 nin0
  have F1442 := F1.keep K1433 nin0
  show Goes p.tables e below _ (T1429.setTop (mkF m 8 #[.val (.ref a), .val (.ref b), .val .null, .unset, .unset] [(.ref d)]))
  refine X1432.astoreN #[.val (.ref a), .val (.ref b), .val .null, .val (.ref d), .unset] (D d28_8) rfl rfl ?_
  refine X1432.aloadN (x := (.ref b)) (D d28_9) rfl rfl ?_
  refine X1432.callvF (y := (⟨"java/lang/AbstractStringBuilder", "length", "()I"⟩ : MethodName)) (z := (⟨"java/lang/StringBuilder", "length", "()I"⟩ : MethodName)) (a := b) (C := "java/lang/StringBuilder") [] [] (ctSL12 l Z a0 hw hEL z0 S0 hz0 b d _ _ F1435 F1436 F1437 F1438).toF F1435 (w 174 rfl) (w 175 rfl) (w 177 rfl) (w 178 rfl) (nfOf (w 172 rfl) rfl) (w 93 rfl) (w 179 rfl) (by decide) (fun _ q => nomatch q) (by decide) 0 (by decide) (by decide) (by decide) (lenOf pd_7 rfl) rfl (Nat.le_of_ble_eq_true rfl) (by rw [hml]; rfl) (D d28_10) ?_
  rintro T1443 h1444 _ _ X1446 K1447 hg1448 ⟨rfl, rfl⟩
  have F1449 := F1435.keep K1447
  have F1450 := F1436.keep K1447 nin0
  have F1451 := F1437.keep K1447 nin0
  have F1452 := F1438.keep K1447 nin0
  have F1453 := F1439.keep K1447 nin0
  have F1454 := F1440.keep K1447
  have F1455 := F1441.keep K1447 nin0
  have F1456 := F1442.keep K1447 nin0
  show Goes p.tables e below _ (T1443.setTop (mkF m 13 #[.val (.ref a), .val (.ref b), .val .null, .val (.ref d), .unset] [(.int (12 : Int32))]))
  refine X1446.istore #[.val (.ref a), .val (.ref b), .val .null, .val (.ref d), .val (.int (12 : Int32))] (D d28_13) rfl ?_
  refine X1446.aloadN (x := (.ref b)) (D d28_15) rfl rfl ?_
  refine X1446.callvF (y := (⟨"java/lang/AbstractStringBuilder", "isLatin1", "()Z"⟩ : MethodName)) (z := (⟨"java/lang/AbstractStringBuilder", "isLatin1", "()Z"⟩ : MethodName)) (a := b) (C := "java/lang/StringBuilder") [] [] (ctIL l Z a0 hw hEL z0 S0 hz0 b d _ _ F1449 F1450 F1451).toF F1449 (w 182 rfl) (w 183 rfl) (w 185 rfl) (w 184 rfl) (nfOf (w 185 rfl) rfl) (w 101 rfl) (w 186 rfl) (by decide) (fun _ q => nomatch q) (by decide) 0 (by decide) (by decide) (by decide) (lenOf pd_14 rfl) rfl (Nat.le_of_ble_eq_true rfl) (by rw [hml]; rfl) (D d28_16) ?_
  rintro T1457 h1458 _ _ X1460 K1461 hg1462 ⟨rfl, rfl⟩
  have F1463 := F1449.keep K1461
  have F1464 := F1450.keep K1461 nin0
  have F1465 := F1451.keep K1461 nin0
  have F1466 := F1452.keep K1461 nin0
  have F1467 := F1453.keep K1461 nin0
  have F1468 := F1454.keep K1461
  have F1469 := F1455.keep K1461 nin0
  have F1470 := F1456.keep K1461 nin0
  show Goes p.tables e below _ (T1457.setTop (mkF m 19 #[.val (.ref a), .val (.ref b), .val .null, .val (.ref d), .val (.int (12 : Int32))] [(.int (1 : Int32))]))
  refine X1460.if_eq 41 (D d28_19) ⟨by decide, by decide⟩ (fun hc1471 => absurd hc1471 (by decide)) (fun hc1471 => ?_)
  refine X1460.aloadN (x := (.ref a)) (D d28_22) rfl rfl ?_
  refine X1460.iconst (x := (0 : Int32)) (D d28_23) rfl ?_
  refine X1460.putf (w 21 rfl) Via.refl F1470 F1468 (Or.inr ⟨(w 17 rfl), rfl, hnm⟩) (w 2 rfl) (ty := .byte) (by decide) rfl rfl (D d28_24) (by simp) ?_
  intro T1472 h1473 X1474 W1475
  have F1476 := F1470.same W1475
  have F1477 := F1463.wr W1475
  have F1478 := F1464.other W1475 (Or.inl (Exa.ne F1463 F1468 (by decide)))
  have F1479 := F1465.other W1475 (Or.inl (Exa.ne F1463 F1468 (by decide)))
  have F1480 := F1466.other W1475 (Or.inl (Exa.ne F1463 F1468 (by decide)))
  have F1481 := F1467.other W1475 (Exa.neArv F1468 F1467 (w 2 rfl)).symm
  have F1482 := F1468.wr W1475
  have F1483 := F1469.other W1475 (Or.inr (slot_ne (t := (.array .byte)) (t' := .byte) (Or.inr (w 16 rfl)) (Or.inr (w 17 rfl)) (by decide) (by decide) (by decide)))
  show Goes p.tables e below _ (T1472.setTop (mkF m 27 #[.val (.ref a), .val (.ref b), .val .null, .val (.ref d), .val (.int (12 : Int32))] []))
  refine X1474.aloadN (x := (.ref a)) (D d28_27) rfl rfl ?_
  refine X1474.aloadN (x := (.ref d)) (D d28_28) rfl rfl ?_
  refine X1474.iconst (x := (0 : Int32)) (D d28_29) rfl ?_
  refine X1474.iload (x := (12 : Int32)) (D d28_30) rfl ?_
  refine X1474.callsF [(.ref d), (.int (0 : Int32)), (.int (12 : Int32))] [(.ref a)] (ctCR12_16 l Z a0 hw hEL z0 S0 hz0 d kd vd _ _ _ F1481 hxs).toF (w 187 rfl) (w 188 rfl) (w 189 rfl) (w 190 rfl) (by decide) (fun _ q => nomatch q) (by decide) 1 (by decide) (by decide) (by decide) (lenOf pd_12 rfl) rfl (Nat.le_of_ble_eq_true rfl) (by rw [hml]; rfl) (D d28_32) ?_
  rintro T1484 h1485 _ _ X1487 K1488 hg1489 ⟨rfl, r, kr, rfl, A1⟩
  have F1490 := F1477.keep K1488
  have F1491 := F1478.keep K1488 nin0
  have F1492 := F1479.keep K1488 nin0
  have F1493 := F1480.keep K1488 nin0
  have F1494 := F1481.keep K1488 nin0
  have F1495 := F1482.keep K1488
  have F1496 := F1483.keep K1488 nin0
  have F1497 := F1476.keep K1488 nin0
  show Goes p.tables e below _ (T1484.setTop (mkF m 35 #[.val (.ref a), .val (.ref b), .val .null, .val (.ref d), .val (.int (12 : Int32))] [(.ref r), (.ref a)]))
  refine X1487.putf (w 20 rfl) Via.refl F1496 F1495 (Or.inr ⟨(w 16 rfl), rfl, hnm⟩) (w 2 rfl) (ty := (.array .byte)) (by decide) rfl rfl (D d28_35) (by simp) ?_
  intro T1498 h1499 X1500 W1501
  have F1502 := F1496.same W1501
  have F1503 := F1490.wr W1501
  have F1504 := F1491.other W1501 (Or.inl (Exa.ne F1490 F1495 (by decide)))
  have F1505 := F1492.other W1501 (Or.inl (Exa.ne F1490 F1495 (by decide)))
  have F1506 := F1493.other W1501 (Or.inl (Exa.ne F1490 F1495 (by decide)))
  have F1507 := F1494.other W1501 (Exa.neArv F1495 F1494 (w 2 rfl)).symm
  have F1508 := F1495.wr W1501
  have F1509 := F1497.other W1501 (Or.inr (slot_ne (t := .byte) (t' := (.array .byte)) (Or.inr (w 17 rfl)) (Or.inr (w 16 rfl)) (by decide) (by decide) (by decide)))
  have F1510 := A1.other W1501 (Exa.neArv F1495 A1 (w 2 rfl)).symm
  show Goes p.tables e below _ (T1498.setTop (mkF m 38 #[.val (.ref a), .val (.ref b), .val .null, .val (.ref d), .val (.int (12 : Int32))] []))
  refine X1500.goto 97 (D d28_38) ⟨by decide, by decide⟩ ?_
  exact X1500.retn hret hlk (D d28_97) (by decide) (by decide) (⟨rfl, r, OStr.mk F1508 F1502 F1509 (by rw [hds]; exact F1510) hp (by rw [hds]; decide)⟩)
set_option maxRecDepth 65536 in
set_option maxHeartbeats 40000000 in
theorem ctIS12_16 (l : Launch) (Z : State) (a0 : Array Value) (hw : ∀ d ∈ tables_1, d.before a0 Z = true) (hEL : EW Z a0 consts_1) (z0 : Int32) (S0 : Sta Z Z.heap "java/lang/String" "COMPACT_STRINGS" "Z" (.int z0)) (hz0 : ¬ z0 = 0) (a b d : Addr) (kd : ClassId) (vd : List Value) (ds : List Int32) (h0 : Heap) (n0 : Nat) (EB : Exa Z h0 b "java/lang/StringBuilder") (FV : Fld Z h0 b "java/lang/AbstractStringBuilder" "value" "[B" (.ref d)) (FC : Fld Z h0 b "java/lang/AbstractStringBuilder" "coder" "B" (.int (0 : Int32))) (FN : Fld Z h0 b "java/lang/AbstractStringBuilder" "count" "I" (.int (12 : Int32))) (AD : Arv Z h0 d kd .byte (16 : Int32) vd (.int 0)) (hvd : vd.length = 16) (hp : ∀ c ∈ ds, ¬ c < 0 ∧ ¬ (255 : Int32) < c) (hds : ds.length = 12) (hxs : ((ds.map StrChars.lo8).map Value.int) = (List.range 12).map fun i => vd.getD (0 + i) (.int 0)) (E0 : Exa Z h0 a "java/lang/String") (F0 : Fld Z h0 a "java/lang/String" "value" "[B" .null) (F1 : Fld Z h0 a "java/lang/String" "coder" "B" (.int (0 : Int32))) :
    Ct l Z consts_1 [] (⟨"java/lang/String", "<init>", "(Ljava/lang/StringBuilder;)V"⟩ : MethodName) jdk_42_method_53_code 2 none ({ frames := 4, cells := 1, slots := 12, locals := 65 } : Room) #[(.ref a), (.ref b)] h0 n0 [a] (fun v h => v = none ∧ ∃ t : Addr, OStr Z h a t ds) := by
  have w : ∀ {d : Jvm.Cond} (i : Nat), tables_1[i]? = some d → d.before a0 Z = true := fun i q => hw _ (List.mem_of_getElem? q)
  refine Ct.enter (plainFor_of_name pn_1) hEL ?_
  intro p e sS m below meth c T0 hby hml0 hret hlk hnm hs0 X0
  have hml : c.maxLocals = 2 := hml0
  have D : ∀ {pc : Nat} {r : Except DecodeError (Instr × Nat)}, decode jdk_42_method_53_code pc = r → decode c.code pc = r := fun q => hb hby q
  rw [show entryFrame m #[(.ref a), (.ref b)] 2 = mkF m 0 #[.val (.ref a), .val (.ref b)] [] from by first | (simp [entryFrame, mkF, argsToLocals, Value.category]; done) | rfl]
  refine X0.aloadN (x := (.ref a)) (D d27_0) rfl rfl ?_
  refine X0.aloadN (x := (.ref b)) (D d27_1) rfl rfl ?_
  refine X0.anull (D d27_2) ?_
  refine X0.callcF (a := a) [(.ref b), .null] [] (ctIV12_16 l Z a0 hw hEL z0 S0 hz0 a b d kd vd ds _ _ EB FV FC FN AD hvd hp hds hxs E0 F0 F1).toF rfl (w 166 rfl) (w 167 rfl) (w 3 rfl) (w 168 rfl) (by decide) (by simp) (by decide) 0 (by decide) (by decide) (by decide) (lenOf pd_15 rfl) rfl (Nat.le_of_ble_eq_true rfl) (by rw [hml]; rfl) (D d27_3) ?_
  rintro T1511 h1512 _ _ X1514 K1515 hg1516 ⟨rfl, rfl, t, O⟩
  have F1517 := EB.keep K1515
  have F1518 := FV.keep K1515 (ninS (Exa.ne EB E0 (by decide)) nin0)
  have F1519 := FC.keep K1515 (ninS (Exa.ne EB E0 (by decide)) nin0)
  have F1520 := FN.keep K1515 (ninS (Exa.ne EB E0 (by decide)) nin0)
  have F1521 := AD.keep K1515 (ninS (Exa.neArv E0 AD (w 2 rfl)).symm nin0)
  have F1522 := E0.keep K1515
  show Goes p.tables e below _ (T1511.setTop (mkF m 6 #[.val (.ref a), .val (.ref b)] []))
  exact X1514.retn hret hlk (D d27_6) (by decide) (by decide) (⟨rfl, t, O⟩)
set_option maxRecDepth 65536 in
set_option maxHeartbeats 40000000 in
theorem ctTS12_16 (l : Launch) (Z : State) (a0 : Array Value) (hw : ∀ d ∈ tables_1, d.before a0 Z = true) (hEL : EW Z a0 consts_1) (z0 : Int32) (S0 : Sta Z Z.heap "java/lang/String" "COMPACT_STRINGS" "Z" (.int z0)) (hz0 : ¬ z0 = 0) (b d : Addr) (kd : ClassId) (vd : List Value) (ds : List Int32) (h0 : Heap) (n0 : Nat) (EB : Exa Z h0 b "java/lang/StringBuilder") (FV : Fld Z h0 b "java/lang/AbstractStringBuilder" "value" "[B" (.ref d)) (FC : Fld Z h0 b "java/lang/AbstractStringBuilder" "coder" "B" (.int (0 : Int32))) (FN : Fld Z h0 b "java/lang/AbstractStringBuilder" "count" "I" (.int (12 : Int32))) (AD : Arv Z h0 d kd .byte (16 : Int32) vd (.int 0)) (hvd : vd.length = 16) (hp : ∀ c ∈ ds, ¬ c < 0 ∧ ¬ (255 : Int32) < c) (hds : ds.length = 12) (hxs : ((ds.map StrChars.lo8).map Value.int) = (List.range 12).map fun i => vd.getD (0 + i) (.int 0)) :
    Ct l Z consts_1 [] (⟨"java/lang/StringBuilder", "toString", "()Ljava/lang/String;"⟩ : MethodName) jdk_67_method_42_code 1 (some (.object "java/lang/String")) ({ frames := 5, cells := 2, slots := 16, locals := 79 } : Room) #[(.ref b)] h0 n0 [] (fun v h => ∃ s t : Addr, v = some (.ref s) ∧ OStr Z h s t ds) := by
  have w : ∀ {d : Jvm.Cond} (i : Nat), tables_1[i]? = some d → d.before a0 Z = true := fun i q => hw _ (List.mem_of_getElem? q)
  refine Ct.enter (plainFor_of_name pn_3) hEL ?_
  intro p e sS m below meth c T0 hby hml0 hret hlk hnm hs0 X0
  have hml : c.maxLocals = 1 := hml0
  have D : ∀ {pc : Nat} {r : Except DecodeError (Instr × Nat)}, decode jdk_67_method_42_code pc = r → decode c.code pc = r := fun q => hb hby q
  rw [show entryFrame m #[(.ref b)] 1 = mkF m 0 #[.val (.ref b)] [] from by first | (simp [entryFrame, mkF, argsToLocals, Value.category]; done) | rfl]
  refine X0.new (w 162 rfl) (w 2 rfl) (w 3 rfl) (D d26_0) (by decide) (by decide) ?_
  intro T1523 h1524 b1525 g1526 X1527 E1528 A1529 D1530 U1531
  have F1532 := EB.ext E1528
  have F1533 := FV.ext E1528
  have F1534 := FC.ext E1528
  have F1535 := FN.ext E1528
  have F1536 := AD.ext E1528
  have lt1537 : b < b1525 := by rw [g1526]; exact EB.lt
  have lt1538 : d < b1525 := by rw [g1526]; exact AD.lt
  have F1539 : Fld Z h1524 b1525 "java/lang/String" "value" "[B" .null := D1530 (Or.inr (w 16 rfl)) (ty := (.array .byte)) (by decide)
  have F1540 : Fld Z h1524 b1525 "java/lang/String" "coder" "B" (.int (0 : Int32)) := D1530 (Or.inr (w 17 rfl)) (ty := .byte) (by decide)
  show Goes p.tables e below _ (T1523.setTop (mkF m 3 #[.val (.ref b)] [(.ref b1525)]))
  refine X1527.dup (D d26_3) rfl ?_
  refine X1527.aloadN (x := (.ref b)) (D d26_4) rfl rfl ?_
  refine X1527.callcF (a := b1525) [(.ref b)] [(.ref b1525)] (ctIS12_16 l Z a0 hw hEL z0 S0 hz0 b1525 b d kd vd ds _ _ F1532 F1533 F1534 F1535 F1536 hvd hp hds hxs A1529 F1539 F1540).toF rfl (w 163 rfl) (w 164 rfl) (w 3 rfl) (w 165 rfl) (by decide) (by simp) (by decide) 1 (by decide) (by decide) (by decide) (lenOf pd_16 rfl) rfl (Nat.le_of_ble_eq_true rfl) (by rw [hml]; rfl) (D d26_5) ?_
  rintro T1541 h1542 _ _ X1544 K1545 hg1546 ⟨rfl, rfl, t, O⟩
  have F1547 := F1532.keep K1545
  have F1548 := F1533.keep K1545 (ninS (Nat.ne_of_lt lt1537) nin0)
  have F1549 := F1534.keep K1545 (ninS (Nat.ne_of_lt lt1537) nin0)
  have F1550 := F1535.keep K1545 (ninS (Nat.ne_of_lt lt1537) nin0)
  have F1551 := F1536.keep K1545 (ninS (Nat.ne_of_lt lt1538) nin0)
  have F1552 := A1529.keep K1545
  show Goes p.tables e below _ (T1541.setTop (mkF m 8 #[.val (.ref b)] [(.ref b1525)]))
  exact X1544.retA hret rfl rfl hlk (D d26_8) (by decide) (by decide) (⟨_, t, rfl, O⟩)
set_option maxRecDepth 65536 in
set_option maxHeartbeats 40000000 in
theorem ctEx2 (l : Launch) (Z : State) (a0 : Array Value) (hw : ∀ d ∈ tables_1, d.before a0 Z = true) (hEL : EW Z a0 consts_1) (z0 : Int32) (S0 : Sta Z Z.heap "java/lang/String" "COMPACT_STRINGS" "Z" (.int z0)) (hz0 : ¬ z0 = 0) (a r tr : Addr) (c0 c1 : Int32) (h0 : Heap) (n0 : Nat) (EA : Exa Z h0 a "com/example/greylag/greylag/Decision") (F0 : Fld Z h0 a "com/example/greylag/greylag/Decision" "role" "Ljava/lang/String;" (.ref r)) (F3 : Fld Z h0 a "com/example/greylag/greylag/Decision" "bypass" "Z" (.int (1 : Int32))) (OR : OStr Z h0 r tr [c0, c1]) :
    Ct l Z consts_1 [] (⟨"com/example/greylag/greylag/Decision", "explanation", "()Ljava/lang/String;"⟩ : MethodName) prog_6_method_6_code 2 (some (.object "java/lang/String")) ({ frames := 6, cells := 6, slots := 80, locals := 91 } : Room) #[(.ref a)] h0 n0 [] (fun v h => ∃ s t : Addr, v = some (.ref s) ∧ OStr Z h s t ([(98 : Int32), (121 : Int32), (32 : Int32), (98 : Int32), (121 : Int32), (112 : Int32), (97 : Int32), (115 : Int32), (115 : Int32), (32 : Int32)] ++ [c0, c1])) := by
  have w : ∀ {d : Jvm.Cond} (i : Nat), tables_1[i]? = some d → d.before a0 Z = true := fun i q => hw _ (List.mem_of_getElem? q)
  refine Ct.enter (plainFor_of_name pn_4) hEL ?_
  intro p e sS m below meth c T0 hby hml0 hret hlk hnm hs0 X0
  have hml : c.maxLocals = 2 := hml0
  have D : ∀ {pc : Nat} {r : Except DecodeError (Instr × Nat)}, decode prog_6_method_6_code pc = r → decode c.code pc = r := fun q => hb hby q
  rw [show entryFrame m #[(.ref a)] 2 = mkF m 0 #[.val (.ref a), .unset] [] from by first | (simp [entryFrame, mkF, argsToLocals, Value.category]; done) | rfl]
  refine X0.aloadN (x := (.ref a)) (D d15_0) rfl rfl ?_
  refine X0.getf (w 54 rfl) Via.refl F3 (D d15_1) ?_
  intro T1553 X1554
  show Goes p.tables e below _ (T1553.setTop (mkF m 4 #[.val (.ref a), .unset] [(.int (1 : Int32))]))
  refine X1554.if_eq 33 (D d15_4) ⟨by decide, by decide⟩ (fun hc1555 => absurd hc1555 (by decide)) (fun hc1555 => ?_)
  refine X1554.new (w 91 rfl) (w 92 rfl) (w 93 rfl) (D d15_7) (by decide) (by decide) ?_
  intro T1556 h1557 b1558 g1559 X1560 E1561 A1562 D1563 U1564
  have F1565 := EA.ext E1561
  have F1566 := F0.ext E1561
  have F1567 := F3.ext E1561
  have F1568 := OR.ext E1561
  have lt1569 : a < b1558 := by rw [g1559]; exact EA.lt
  have lt1570 : r < b1558 := by rw [g1559]; exact OR.lt
  have lt1571 : tr < b1558 := by rw [g1559]; exact OR.ltb
  have F1572 : Fld Z h1557 b1558 "java/lang/AbstractStringBuilder" "value" "[B" .null := D1563 (Or.inl (w 106 rfl)) (ty := (.array .byte)) (by decide)
  have F1573 : Fld Z h1557 b1558 "java/lang/AbstractStringBuilder" "coder" "B" (.int (0 : Int32)) := D1563 (Or.inl (w 108 rfl)) (ty := .byte) (by decide)
  have F1574 : Fld Z h1557 b1558 "java/lang/AbstractStringBuilder" "count" "I" (.int (0 : Int32)) := D1563 (Or.inl (w 131 rfl)) (ty := .int) (by decide)
  show Goes p.tables e below _ (T1556.setTop (mkF m 10 #[.val (.ref a), .unset] [(.ref b1558)]))
  refine X1560.dup (D d15_10) rfl ?_
  refine X1560.callcF (a := b1558) [] [(.ref b1558)] (ctSBi l Z a0 hw hEL z0 S0 hz0 b1558 _ _ A1562 F1572 F1573 F1574) rfl (w 94 rfl) (w 95 rfl) (w 93 rfl) (w 96 rfl) (by decide) (by simp) (by decide) 1 (by decide) (by decide) (by decide) (lenOf pd_3 rfl) rfl (Nat.le_of_ble_eq_true rfl) (by rw [hml]; rfl) (D d15_11) ?_
  rintro T1575 h1576 _ _ X1578 K1579 hg1580 ⟨d, kd, rfl, rfl, E1, V1, C1, N1, A1⟩
  have F1581 := F1565.keep K1579
  have F1582 := F1566.keep K1579 (ninS (Nat.ne_of_lt lt1569) nin0)
  have F1583 := F1567.keep K1579 (ninS (Nat.ne_of_lt lt1569) nin0)
  have F1584 := F1568.keep K1579 (ninS (Nat.ne_of_lt lt1570) nin0) (ninS (Nat.ne_of_lt lt1571) nin0)
  have F1585 := A1562.keep K1579
  have fg1586 := hg1580 d (by simp)
  have lt1587 : a < d := Nat.lt_of_lt_of_le F1565.lt fg1586
  have lt1588 : r < d := Nat.lt_of_lt_of_le F1568.lt fg1586
  have lt1589 : tr < d := Nat.lt_of_lt_of_le F1568.ltb fg1586
  have lt1590 : b1558 < d := Nat.lt_of_lt_of_le A1562.lt fg1586
  show Goes p.tables e below _ (T1575.setTop (mkF m 14 #[.val (.ref a), .unset] [(.ref b1558)]))
  refine X1578.ldcS (w 109 rfl) (fun d q => hw d (hwS d q)) (by decide) (vs := [(.int (98 : Int32)), (.int (121 : Int32)), (.int (32 : Int32)), (.int (98 : Int32)), (.int (121 : Int32)), (.int (112 : Int32)), (.int (97 : Int32)), (.int (115 : Int32)), (.int (115 : Int32)), (.int (32 : Int32))]) (z := (10 : Int32)) ⟨by decide, by decide⟩ (by decide) rfl (D d15_14) 40 (by decide) (by decide) (by decide) (by decide) ?_
  intro T1591 h1592 a1593 b1594 kb1595 X1596 E1597 F1598 F1599 F1600 F1601 ne1602
  have F1603 := F1581.ext E1597
  have F1604 := F1582.ext E1597
  have F1605 := F1583.ext E1597
  have F1606 := F1584.ext E1597
  have F1607 := E1.ext E1597
  have F1608 := V1.ext E1597
  have F1609 := C1.ext E1597
  have F1610 := N1.ext E1597
  have F1611 := A1.ext E1597
  show Goes p.tables e below _ (T1591.setTop (mkF m 16 #[.val (.ref a), .unset] [(.ref a1593), (.ref b1558)]))
  have O1612 : OStr Z h1592 a1593 b1594 [(98 : Int32), (121 : Int32), (32 : Int32), (98 : Int32), (121 : Int32), (112 : Int32), (97 : Int32), (115 : Int32), (115 : Int32), (32 : Int32)] := OStr.mk F1598 F1600 F1599 F1601 (by decide) (by decide)
  refine X1596.callvF (y := (⟨"java/lang/StringBuilder", "append", "(Ljava/lang/String;)Ljava/lang/StringBuilder;"⟩ : MethodName)) (z := (⟨"java/lang/StringBuilder", "append", "(Ljava/lang/String;)Ljava/lang/StringBuilder;"⟩ : MethodName)) (a := b1558) (C := "java/lang/StringBuilder") [(.ref a1593)] [] (ctSBa0_10_16 l Z a0 hw hEL z0 S0 hz0 b1558 d a1593 b1594 kd [(98 : Int32), (121 : Int32), (32 : Int32), (98 : Int32), (121 : Int32), (112 : Int32), (97 : Int32), (115 : Int32), (115 : Int32), (32 : Int32)] ([(.int (0 : Int32)), (.int (0 : Int32)), (.int (0 : Int32)), (.int (0 : Int32)), (.int (0 : Int32)), (.int (0 : Int32)), (.int (0 : Int32)), (.int (0 : Int32)), (.int (0 : Int32)), (.int (0 : Int32)), (.int (0 : Int32)), (.int (0 : Int32)), (.int (0 : Int32)), (.int (0 : Int32)), (.int (0 : Int32)), (.int (0 : Int32))] : List Value) _ _ F1607 F1608 F1609 F1610 F1611 rfl O1612 rfl (ne1602 d (by simp)).2.symm).toF F1607 (w 110 rfl) (w 111 rfl) (w 113 rfl) (w 112 rfl) (nfOf (w 113 rfl) rfl) (w 93 rfl) (w 114 rfl) (by decide) (by simp) (by decide) 0 (by decide) (by decide) (by decide) (lenOf pd_17 rfl) rfl (Nat.le_of_ble_eq_true rfl) (by rw [hml]; rfl) (D d15_16) ?_
  rintro T1613 h1614 _ _ X1616 K1617 hg1618 ⟨rfl, rfl, E2, V2, C2, N2, A2⟩
  have F1619 := F1603.keep K1617
  have F1620 := F1604.keep K1617 (ninS (Nat.ne_of_lt lt1569) (ninS (Nat.ne_of_lt lt1587) nin0))
  have F1621 := F1605.keep K1617 (ninS (Nat.ne_of_lt lt1569) (ninS (Nat.ne_of_lt lt1587) nin0))
  have F1622 := F1606.keep K1617 (ninS (Nat.ne_of_lt lt1570) (ninS (Nat.ne_of_lt lt1588) nin0)) (ninS (Nat.ne_of_lt lt1571) (ninS (Nat.ne_of_lt lt1589) nin0))
  have F1623 := F1607.keep K1617
  have F1624 := O1612.keep K1617 (ninS (ne1602 b1558 (by simp)).1.symm (ninS (ne1602 d (by simp)).1.symm nin0)) (ninS (ne1602 b1558 (by simp)).2.symm (ninS (ne1602 d (by simp)).2.symm nin0))
  show Goes p.tables e below _ (T1613.setTop (mkF m 19 #[.val (.ref a), .unset] [(.ref b1558)]))
  refine X1616.aloadN (x := (.ref a)) (D d15_19) rfl rfl ?_
  refine X1616.getf (w 48 rfl) Via.refl F1620 (D d15_20) ?_
  intro T1625 X1626
  show Goes p.tables e below _ (T1625.setTop (mkF m 23 #[.val (.ref a), .unset] [(.ref r), (.ref b1558)]))
  refine X1626.callvF (y := (⟨"java/lang/StringBuilder", "append", "(Ljava/lang/String;)Ljava/lang/StringBuilder;"⟩ : MethodName)) (z := (⟨"java/lang/StringBuilder", "append", "(Ljava/lang/String;)Ljava/lang/StringBuilder;"⟩ : MethodName)) (a := b1558) (C := "java/lang/StringBuilder") [(.ref r)] [] (ctSBa10_2_16 l Z a0 hw hEL z0 S0 hz0 b1558 d r tr kd [c0, c1] (([(.int (0 : Int32)), (.int (0 : Int32)), (.int (0 : Int32)), (.int (0 : Int32)), (.int (0 : Int32)), (.int (0 : Int32)), (.int (0 : Int32)), (.int (0 : Int32)), (.int (0 : Int32)), (.int (0 : Int32)), (.int (0 : Int32)), (.int (0 : Int32)), (.int (0 : Int32)), (.int (0 : Int32)), (.int (0 : Int32)), (.int (0 : Int32))] : List Value).take 0 ++ (([(98 : Int32), (121 : Int32), (32 : Int32), (98 : Int32), (121 : Int32), (112 : Int32), (97 : Int32), (115 : Int32), (115 : Int32), (32 : Int32)].map StrChars.lo8).map Value.int) ++ ([(.int (0 : Int32)), (.int (0 : Int32)), (.int (0 : Int32)), (.int (0 : Int32)), (.int (0 : Int32)), (.int (0 : Int32)), (.int (0 : Int32)), (.int (0 : Int32)), (.int (0 : Int32)), (.int (0 : Int32)), (.int (0 : Int32)), (.int (0 : Int32)), (.int (0 : Int32)), (.int (0 : Int32)), (.int (0 : Int32)), (.int (0 : Int32))] : List Value).drop (0 + 10)) _ _ E2 V2 C2 N2 A2 rfl F1622 rfl (Nat.ne_of_lt lt1589)).toF E2 (w 110 rfl) (w 111 rfl) (w 113 rfl) (w 112 rfl) (nfOf (w 113 rfl) rfl) (w 93 rfl) (w 114 rfl) (by decide) (by simp) (by decide) 0 (by decide) (by decide) (by decide) (lenOf pd_17 rfl) rfl (Nat.le_of_ble_eq_true rfl) (by rw [hml]; rfl) (D d15_23) ?_
  rintro T1627 h1628 _ _ X1630 K1631 hg1632 ⟨rfl, rfl, E3, V3, C3, N3, A3⟩
  have F1633 := F1619.keep K1631
  have F1634 := F1620.keep K1631 (ninS (Nat.ne_of_lt lt1569) (ninS (Nat.ne_of_lt lt1587) nin0))
  have F1635 := F1621.keep K1631 (ninS (Nat.ne_of_lt lt1569) (ninS (Nat.ne_of_lt lt1587) nin0))
  have F1636 := F1622.keep K1631 (ninS (Nat.ne_of_lt lt1570) (ninS (Nat.ne_of_lt lt1588) nin0)) (ninS (Nat.ne_of_lt lt1571) (ninS (Nat.ne_of_lt lt1589) nin0))
  have F1637 := E2.keep K1631
  have F1638 := F1624.keep K1631 (ninS (ne1602 b1558 (by simp)).1.symm (ninS (ne1602 d (by simp)).1.symm nin0)) (ninS (ne1602 b1558 (by simp)).2.symm (ninS (ne1602 d (by simp)).2.symm nin0))
  show Goes p.tables e below _ (T1627.setTop (mkF m 26 #[.val (.ref a), .unset] [(.ref b1558)]))
  have hpr : ∀ c ∈ [(98 : Int32), (121 : Int32), (32 : Int32), (98 : Int32), (121 : Int32), (112 : Int32), (97 : Int32), (115 : Int32), (115 : Int32), (32 : Int32)] ++ [c0, c1], ¬ c < 0 ∧ ¬ (255 : Int32) < c := fun c q => by
    rcases List.mem_append.mp q with q | q
    · exact (by decide : ∀ c ∈ ([(98 : Int32), (121 : Int32), (32 : Int32), (98 : Int32), (121 : Int32), (112 : Int32), (97 : Int32), (115 : Int32), (115 : Int32), (32 : Int32)] : List Int32), ¬ c < 0 ∧ ¬ (255 : Int32) < c) c q
    · exact OR.2.1 c q
  refine X1630.callvF (y := (⟨"java/lang/StringBuilder", "toString", "()Ljava/lang/String;"⟩ : MethodName)) (z := (⟨"java/lang/StringBuilder", "toString", "()Ljava/lang/String;"⟩ : MethodName)) (a := b1558) (C := "java/lang/StringBuilder") [] [] (ctTS12_16 l Z a0 hw hEL z0 S0 hz0 b1558 d kd ((([(.int (0 : Int32)), (.int (0 : Int32)), (.int (0 : Int32)), (.int (0 : Int32)), (.int (0 : Int32)), (.int (0 : Int32)), (.int (0 : Int32)), (.int (0 : Int32)), (.int (0 : Int32)), (.int (0 : Int32)), (.int (0 : Int32)), (.int (0 : Int32)), (.int (0 : Int32)), (.int (0 : Int32)), (.int (0 : Int32)), (.int (0 : Int32))] : List Value).take 0 ++ (([(98 : Int32), (121 : Int32), (32 : Int32), (98 : Int32), (121 : Int32), (112 : Int32), (97 : Int32), (115 : Int32), (115 : Int32), (32 : Int32)].map StrChars.lo8).map Value.int) ++ ([(.int (0 : Int32)), (.int (0 : Int32)), (.int (0 : Int32)), (.int (0 : Int32)), (.int (0 : Int32)), (.int (0 : Int32)), (.int (0 : Int32)), (.int (0 : Int32)), (.int (0 : Int32)), (.int (0 : Int32)), (.int (0 : Int32)), (.int (0 : Int32)), (.int (0 : Int32)), (.int (0 : Int32)), (.int (0 : Int32)), (.int (0 : Int32))] : List Value).drop (0 + 10)).take 10 ++ (([c0, c1].map StrChars.lo8).map Value.int) ++ (([(.int (0 : Int32)), (.int (0 : Int32)), (.int (0 : Int32)), (.int (0 : Int32)), (.int (0 : Int32)), (.int (0 : Int32)), (.int (0 : Int32)), (.int (0 : Int32)), (.int (0 : Int32)), (.int (0 : Int32)), (.int (0 : Int32)), (.int (0 : Int32)), (.int (0 : Int32)), (.int (0 : Int32)), (.int (0 : Int32)), (.int (0 : Int32))] : List Value).take 0 ++ (([(98 : Int32), (121 : Int32), (32 : Int32), (98 : Int32), (121 : Int32), (112 : Int32), (97 : Int32), (115 : Int32), (115 : Int32), (32 : Int32)].map StrChars.lo8).map Value.int) ++ ([(.int (0 : Int32)), (.int (0 : Int32)), (.int (0 : Int32)), (.int (0 : Int32)), (.int (0 : Int32)), (.int (0 : Int32)), (.int (0 : Int32)), (.int (0 : Int32)), (.int (0 : Int32)), (.int (0 : Int32)), (.int (0 : Int32)), (.int (0 : Int32)), (.int (0 : Int32)), (.int (0 : Int32)), (.int (0 : Int32)), (.int (0 : Int32))] : List Value).drop (0 + 10)).drop (10 + 2)) ([(98 : Int32), (121 : Int32), (32 : Int32), (98 : Int32), (121 : Int32), (112 : Int32), (97 : Int32), (115 : Int32), (115 : Int32), (32 : Int32)] ++ [c0, c1]) _ _ E3 V3 C3 N3 A3 rfl hpr rfl rfl).toF E3 (w 157 rfl) (w 158 rfl) (w 160 rfl) (w 159 rfl) (nfOf (w 160 rfl) rfl) (w 93 rfl) (w 161 rfl) (by decide) (fun _ q => nomatch q) (by decide) 0 (by decide) (by decide) (by decide) (lenOf pd_18 rfl) rfl (Nat.le_of_ble_eq_true rfl) (by rw [hml]; rfl) (D d15_26) ?_
  rintro T1639 h1640 _ _ X1642 K1643 hg1644 ⟨rfl, s9, t9, rfl, O9⟩
  have F1645 := F1633.keep K1643
  have F1646 := F1634.keep K1643 nin0
  have F1647 := F1635.keep K1643 nin0
  have F1648 := F1636.keep K1643 nin0 nin0
  have F1649 := E3.keep K1643
  have F1650 := F1638.keep K1643 nin0 nin0
  have F1651 := V3.keep K1643 nin0
  have F1652 := C3.keep K1643 nin0
  have F1653 := N3.keep K1643 nin0
  have F1654 := A3.keep K1643 nin0
  show Goes p.tables e below _ (T1639.setTop (mkF m 29 #[.val (.ref a), .unset] [(.ref s9)]))
  refine X1642.astoreN #[.val (.ref a), .val (.ref s9)] (D d15_29) rfl rfl ?_
  refine X1642.goto 81 (D d15_30) ⟨by decide, by decide⟩ ?_
  refine X1642.aloadN (x := (.ref s9)) (D d15_81) rfl rfl ?_
  exact X1642.retA hret rfl rfl hlk (D d15_82) (by decide) (by decide) (⟨s9, t9, rfl, O9⟩)
set_option maxRecDepth 65536 in
set_option maxHeartbeats 40000000 in
theorem ctLen3 (l : Launch) (Z : State) (a0 : Array Value) (hw : ∀ d ∈ tables_1, d.before a0 Z = true) (hEL : EW Z a0 consts_1) (z0 : Int32) (S0 : Sta Z Z.heap "java/lang/String" "COMPACT_STRINGS" "Z" (.int z0)) (hz0 : ¬ z0 = 0) (s t : Addr) (cs : List Int32) (h0 : Heap) (n0 : Nat) (OS : OStr Z h0 s t cs) (hl_s : cs.length = 3) :
    Ct l Z consts_1 [] (⟨"java/lang/String", "length", "()I"⟩ : MethodName) jdk_42_method_54_code 1 (some .int) ({ frames := 1, cells := 0, slots := 0, locals := 13 } : Room) #[(.ref s)] h0 n0 [] (fun v _ => v = some (.int (3 : Int32))) := by
  have w : ∀ {d : Jvm.Cond} (i : Nat), tables_1[i]? = some d → d.before a0 Z = true := fun i q => hw _ (List.mem_of_getElem? q)
  refine Ct.enter (plainFor_of_name pn_1) hEL ?_
  intro p e sS m below meth c T0 hby hml0 hret hlk hnm hs0 X0
  have hml : c.maxLocals = 1 := hml0
  have D : ∀ {pc : Nat} {r : Except DecodeError (Instr × Nat)}, decode jdk_42_method_54_code pc = r → decode c.code pc = r := fun q => hb hby q
  rw [show entryFrame m #[(.ref s)] 1 = mkF m 0 #[.val (.ref s)] [] from by first | (simp [entryFrame, mkF, argsToLocals, Value.category]; done) | rfl]
  obtain ⟨F1655, hp1656, hl1657, kb1658, F1659, F1660, F1661⟩ := id OS
  have F1662 : Arv Z h0 t kb1658 .byte (3 : Int32) ((cs.map StrChars.lo8).map Value.int) (.int 0) := by have q := F1661; rw [hl_s] at q; exact q
  refine X0.aloadN (x := (.ref s)) (D d20_0) rfl rfl ?_
  refine X0.getf (w 20 rfl) Via.refl F1659 (D d20_1) ?_
  intro T1663 X1664
  show Goes p.tables e below _ (T1663.setTop (mkF m 4 #[.val (.ref s)] [(.ref t)]))
  refine X1664.alen F1662 (D d20_4) ?_
  refine X1664.aloadN (x := (.ref s)) (D d20_5) rfl rfl ?_
  refine X1664.callvF (y := (⟨"java/lang/String", "coder", "()B"⟩ : MethodName)) (z := (⟨"java/lang/String", "coder", "()B"⟩ : MethodName)) (a := s) (C := "java/lang/String") [] [(.int (3 : Int32))] (ctCdr l Z a0 hw hEL z0 S0 hz0 s _ _ F1660).toF F1655 (w 125 rfl) (w 126 rfl) (w 128 rfl) (w 127 rfl) (nfOf (w 128 rfl) rfl) (w 3 rfl) (w 129 rfl) (by decide) (fun _ q => nomatch q) (by decide) 1 (by decide) (by decide) (by decide) (lenOf pd_2 rfl) rfl (Nat.le_of_ble_eq_true rfl) (by rw [hml]; rfl) (D d20_6) ?_
  rintro T1665 h1666 _ _ X1668 K1669 hg1670 ⟨rfl, rfl⟩
  have F1671 := OS.keep K1669 nin0 nin0
  have F1672 := F1655.keep K1669
  have F1673 := F1659.keep K1669 nin0
  have F1674 := F1660.keep K1669 nin0
  have F1675 := F1662.keep K1669 nin0
  show Goes p.tables e below _ (T1665.setTop (mkF m 9 #[.val (.ref s)] [(.int (0 : Int32)), (.int (3 : Int32))]))
  refine X1668.ishr (D d20_9) ?_
  show Goes p.tables e below _ (T1665.setTop (mkF m 10 #[.val (.ref s)] [(.int (3 : Int32))]))
  exact X1668.retI hret hlk (D d20_10) (by decide) (by decide) (rfl)
set_option maxRecDepth 65536 in
set_option maxHeartbeats 40000000 in
theorem ctGB10_3_16 (l : Launch) (Z : State) (a0 : Array Value) (hw : ∀ d ∈ tables_1, d.before a0 Z = true) (hEL : EW Z a0 consts_1) (z0 : Int32) (S0 : Sta Z Z.heap "java/lang/String" "COMPACT_STRINGS" "Z" (.int z0)) (hz0 : ¬ z0 = 0) (s t d : Addr) (kd : ClassId) (cs : List Int32) (vd : List Value) (h0 : Heap) (n0 : Nat) (OS : OStr Z h0 s t cs) (hl_s : cs.length = 3) (ntd : t ≠ d) (AD : Arv Z h0 d kd .byte (16 : Int32) vd (.int 0)) (hvd : vd.length = 16) :
    Ct l Z consts_1 [] (⟨"java/lang/String", "getBytes", "([BIB)V"⟩ : MethodName) jdk_42_method_147_code 4 none ({ frames := 1, cells := 0, slots := 0, locals := 18 } : Room) #[(.ref s), (.ref d), (.int (10 : Int32)), (.int (0 : Int32))] h0 n0 [d] (fun v h => v = none ∧ Arv Z h d kd .byte (16 : Int32) (vd.take 10 ++ ((cs.map StrChars.lo8).map Value.int) ++ vd.drop (10 + 3)) (.int 0)) := by
  have w : ∀ {d : Jvm.Cond} (i : Nat), tables_1[i]? = some d → d.before a0 Z = true := fun i q => hw _ (List.mem_of_getElem? q)
  refine Ct.enter (plainFor_of_name pn_1) hEL ?_
  intro p e sS m below meth c T0 hby hml0 hret hlk hnm hs0 X0
  have hml : c.maxLocals = 4 := hml0
  have D : ∀ {pc : Nat} {r : Except DecodeError (Instr × Nat)}, decode jdk_42_method_147_code pc = r → decode c.code pc = r := fun q => hb hby q
  rw [show entryFrame m #[(.ref s), (.ref d), (.int (10 : Int32)), (.int (0 : Int32))] 4 = mkF m 0 #[.val (.ref s), .val (.ref d), .val (.int (10 : Int32)), .val (.int (0 : Int32))] [] from by first | (simp [entryFrame, mkF, argsToLocals, Value.category]; done) | rfl]
  obtain ⟨F1676, hp1677, hl1678, kb1679, F1680, F1681, F1682⟩ := id OS
  have F1683 : Arv Z h0 t kb1679 .byte (3 : Int32) ((cs.map StrChars.lo8).map Value.int) (.int 0) := by have q := F1682; rw [hl_s] at q; exact q
  refine X0.aloadN (x := (.ref s)) (D d25_0) rfl rfl ?_
  refine X0.callvF (y := (⟨"java/lang/String", "coder", "()B"⟩ : MethodName)) (z := (⟨"java/lang/String", "coder", "()B"⟩ : MethodName)) (a := s) (C := "java/lang/String") [] [] (ctCdr l Z a0 hw hEL z0 S0 hz0 s _ _ F1681).toF F1676 (w 125 rfl) (w 126 rfl) (w 128 rfl) (w 127 rfl) (nfOf (w 128 rfl) rfl) (w 3 rfl) (w 129 rfl) (by decide) (fun _ q => nomatch q) (by decide) 0 (by decide) (by decide) (by decide) (lenOf pd_2 rfl) rfl (Nat.le_of_ble_eq_true rfl) (by rw [hml]; rfl) (D d25_1) ?_
  rintro T1684 h1685 _ _ X1687 K1688 hg1689 ⟨rfl, rfl⟩
  have F1690 := OS.keep K1688 nin0 nin0
  have F1691 := AD.keep K1688 nin0
  have F1692 := F1676.keep K1688
  have F1693 := F1680.keep K1688 nin0
  have F1694 := F1681.keep K1688 nin0
  have F1695 := F1683.keep K1688 nin0
  show Goes p.tables e below _ (T1684.setTop (mkF m 4 #[.val (.ref s), .val (.ref d), .val (.int (10 : Int32)), .val (.int (0 : Int32))] [(.int (0 : Int32))]))
  refine X1687.iloadN (x := (0 : Int32)) (D d25_4) rfl ?_
  refine X1687.icmp_ne 28 (D d25_5) ⟨by decide, by decide⟩ (fun hc1696 => absurd hc1696 (by decide)) (fun hc1696 => ?_)
  refine X1687.aloadN (x := (.ref s)) (D d25_8) rfl rfl ?_
  refine X1687.getf (w 20 rfl) Via.refl F1693 (D d25_9) ?_
  intro T1697 X1698
  show Goes p.tables e below _ (T1697.setTop (mkF m 12 #[.val (.ref s), .val (.ref d), .val (.int (10 : Int32)), .val (.int (0 : Int32))] [(.ref t)]))
  refine X1698.iconst (x := (0 : Int32)) (D d25_12) rfl ?_
  refine X1698.aloadN (x := (.ref d)) (D d25_13) rfl rfl ?_
  refine X1698.iloadN (x := (10 : Int32)) (D d25_14) rfl ?_
  refine X1698.iloadN (x := (0 : Int32)) (D d25_15) rfl ?_
  refine X1698.ishl (D d25_16) ?_
  show Goes p.tables e below _ (T1697.setTop (mkF m 17 #[.val (.ref s), .val (.ref d), .val (.int (10 : Int32)), .val (.int (0 : Int32))] [(.int (10 : Int32)), (.ref d), (.int (0 : Int32)), (.ref t)]))
  refine X1698.aloadN (x := (.ref s)) (D d25_17) rfl rfl ?_
  refine X1698.getf (w 20 rfl) Via.refl F1693 (D d25_18) ?_
  intro T1699 X1700
  show Goes p.tables e below _ (T1699.setTop (mkF m 21 #[.val (.ref s), .val (.ref d), .val (.int (10 : Int32)), .val (.int (0 : Int32))] [(.ref t), (.int (10 : Int32)), (.ref d), (.int (0 : Int32)), (.ref t)]))
  refine X1700.alen F1695 (D d25_21) ?_
  show Goes p.tables e below _ (T1699.setTop (mkF m 22 #[.val (.ref s), .val (.ref d), .val (.int (10 : Int32)), .val (.int (0 : Int32))] [(.int (3 : Int32)), (.int (10 : Int32)), (.ref d), (.int (0 : Int32)), (.ref t)]))
  refine X1700.acopy (us := ((cs.map StrChars.lo8).map Value.int)) (w 153 rfl) (w 156 rfl) (w 154 rfl) (w 155 rfl) F1695 F1691 (by decide) (by decide) (by decide) (by decide) (by decide) (slice0 (mlen hl_s)) (by rw [hvd]; decide) (by simp) (by rw [hml]; rfl) (D d25_22) (by decide) 0 (Nat.le_of_ble_eq_true rfl) (by decide) ?_
  intro T1701 h1702 X1703 K1704 B1705
  have F1706 := F1690.keep K1704 (ninS (Exa.neArv F1692 F1691 (w 2 rfl)) nin0) (ninS ntd nin0)
  have F1707 := F1692.keep K1704
  have F1708 := F1693.keep K1704 (ninS (Exa.neArv F1692 F1691 (w 2 rfl)) nin0)
  have F1709 := F1694.keep K1704 (ninS (Exa.neArv F1692 F1691 (w 2 rfl)) nin0)
  have F1710 := F1695.keep K1704 (ninS ntd nin0)
  show Goes p.tables e below _ (T1701.setTop (mkF m 25 #[.val (.ref s), .val (.ref d), .val (.int (10 : Int32)), .val (.int (0 : Int32))] []))
  refine X1703.goto 43 (D d25_25) ⟨by decide, by decide⟩ ?_
  exact X1703.retn hret hlk (D d25_43) (by decide) (by decide) (⟨rfl, B1705⟩)
set_option maxRecDepth 65536 in
set_option maxHeartbeats 40000000 in
theorem ctPS10_3_16 (l : Launch) (Z : State) (a0 : Array Value) (hw : ∀ d ∈ tables_1, d.before a0 Z = true) (hEL : EW Z a0 consts_1) (z0 : Int32) (S0 : Sta Z Z.heap "java/lang/String" "COMPACT_STRINGS" "Z" (.int z0)) (hz0 : ¬ z0 = 0) (b d s t : Addr) (kd : ClassId) (cs : List Int32) (vd : List Value) (h0 : Heap) (n0 : Nat) (EB : Exa Z h0 b "java/lang/StringBuilder") (FV : Fld Z h0 b "java/lang/AbstractStringBuilder" "value" "[B" (.ref d)) (FC : Fld Z h0 b "java/lang/AbstractStringBuilder" "coder" "B" (.int (0 : Int32))) (AD : Arv Z h0 d kd .byte (16 : Int32) vd (.int 0)) (hvd : vd.length = 16) (OS : OStr Z h0 s t cs) (hl_s : cs.length = 3) (ntd : t ≠ d) :
    Ct l Z consts_1 [] (⟨"java/lang/AbstractStringBuilder", "putStringAt", "(ILjava/lang/String;)V"⟩ : MethodName) jdk_68_method_73_code 3 none ({ frames := 2, cells := 0, slots := 0, locals := 33 } : Room) #[(.ref b), (.int (10 : Int32)), (.ref s)] h0 n0 [d] (fun v h => v = none ∧ Arv Z h d kd .byte (16 : Int32) (vd.take 10 ++ ((cs.map StrChars.lo8).map Value.int) ++ vd.drop (10 + 3)) (.int 0)) := by
  have w : ∀ {d : Jvm.Cond} (i : Nat), tables_1[i]? = some d → d.before a0 Z = true := fun i q => hw _ (List.mem_of_getElem? q)
  refine Ct.enter (plainFor_of_name pn_2) hEL ?_
  intro p e sS m below meth c T0 hby hml0 hret hlk hnm hs0 X0
  have hml : c.maxLocals = 3 := hml0
  have D : ∀ {pc : Nat} {r : Except DecodeError (Instr × Nat)}, decode jdk_68_method_73_code pc = r → decode c.code pc = r := fun q => hb hby q
  rw [show entryFrame m #[(.ref b), (.int (10 : Int32)), (.ref s)] 3 = mkF m 0 #[.val (.ref b), .val (.int (10 : Int32)), .val (.ref s)] [] from by first | (simp [entryFrame, mkF, argsToLocals, Value.category]; done) | rfl]
  obtain ⟨qE, -, -, _, -, qC, -⟩ := id OS
  refine X0.aloadN (x := (.ref b)) (D d23_0) rfl rfl ?_
  refine X0.aloadN (x := (.ref s)) (D d23_1) rfl rfl ?_
  refine X0.callvF (y := (⟨"java/lang/AbstractStringBuilder", "inflateIfNeededFor", "(Ljava/lang/String;)V"⟩ : MethodName)) (z := (⟨"java/lang/AbstractStringBuilder", "inflateIfNeededFor", "(Ljava/lang/String;)V"⟩ : MethodName)) (a := b) (C := "java/lang/StringBuilder") [(.ref s)] [] (ctInf l Z a0 hw hEL z0 S0 hz0 b d s _ _ EB FV FC qE qC).toF EB (w 142 rfl) (decOf (w 143 rfl) (w 146 rfl)) (w 145 rfl) (w 143 rfl) (nfOf (w 145 rfl) rfl) (w 101 rfl) (w 146 rfl) (by decide) (fun _ q => nomatch q) (by decide) 0 (by decide) (by decide) (by decide) (lenOf pd_5 rfl) rfl (Nat.le_of_ble_eq_true rfl) (by rw [hml]; rfl) (D d23_2) ?_
  rintro T1711 h1712 _ _ X1714 K1715 hg1716 ⟨rfl, rfl⟩
  have F1717 := EB.keep K1715
  have F1718 := FV.keep K1715 nin0
  have F1719 := FC.keep K1715 nin0
  have F1720 := AD.keep K1715 nin0
  have F1721 := OS.keep K1715 nin0 nin0
  show Goes p.tables e below _ (T1711.setTop (mkF m 5 #[.val (.ref b), .val (.int (10 : Int32)), .val (.ref s)] []))
  refine X1714.aloadN (x := (.ref s)) (D d23_5) rfl rfl ?_
  refine X1714.aloadN (x := (.ref b)) (D d23_6) rfl rfl ?_
  refine X1714.getf (w 105 rfl) Via.refl F1718 (D d23_7) ?_
  intro T1722 X1723
  show Goes p.tables e below _ (T1722.setTop (mkF m 10 #[.val (.ref b), .val (.int (10 : Int32)), .val (.ref s)] [(.ref d), (.ref s)]))
  refine X1723.iloadN (x := (10 : Int32)) (D d23_10) rfl ?_
  refine X1723.aloadN (x := (.ref b)) (D d23_11) rfl rfl ?_
  refine X1723.getf (w 107 rfl) Via.refl F1719 (D d23_12) ?_
  intro T1724 X1725
  show Goes p.tables e below _ (T1724.setTop (mkF m 15 #[.val (.ref b), .val (.int (10 : Int32)), .val (.ref s)] [(.int (0 : Int32)), (.int (10 : Int32)), (.ref d), (.ref s)]))
  refine X1725.callvF (y := (⟨"java/lang/String", "getBytes", "([BIB)V"⟩ : MethodName)) (z := (⟨"java/lang/String", "getBytes", "([BIB)V"⟩ : MethodName)) (a := s) (C := "java/lang/String") [(.ref d), (.int (10 : Int32)), (.int (0 : Int32))] [] (ctGB10_3_16 l Z a0 hw hEL z0 S0 hz0 s t d kd cs vd _ _ F1721 hl_s ntd F1720 hvd).toF F1721.1 (w 148 rfl) (w 149 rfl) (w 151 rfl) (w 150 rfl) (nfOf (w 151 rfl) rfl) (w 3 rfl) (w 152 rfl) (by decide) (by simp) (by decide) 0 (by decide) (by decide) (by decide) (lenOf pd_6 rfl) rfl (Nat.le_of_ble_eq_true rfl) (by rw [hml]; rfl) (D d23_15) ?_
  rintro T1726 h1727 _ _ X1729 K1730 hg1731 ⟨rfl, rfl, A1⟩
  have F1732 := F1717.keep K1730
  have F1733 := F1718.keep K1730 (ninS (Exa.neArv F1717 F1720 (w 92 rfl)) nin0)
  have F1734 := F1719.keep K1730 (ninS (Exa.neArv F1717 F1720 (w 92 rfl)) nin0)
  have F1735 := F1721.keep K1730 (ninS (Exa.neArv F1721.1 F1720 (w 2 rfl)) nin0) (ninS ntd nin0)
  show Goes p.tables e below _ (T1726.setTop (mkF m 18 #[.val (.ref b), .val (.int (10 : Int32)), .val (.ref s)] []))
  exact X1729.retn hret hlk (D d23_18) (by decide) (by decide) (⟨rfl, A1⟩)
set_option maxRecDepth 65536 in
set_option maxHeartbeats 40000000 in
theorem ctEC13_16 (l : Launch) (Z : State) (a0 : Array Value) (hw : ∀ d ∈ tables_1, d.before a0 Z = true) (hEL : EW Z a0 consts_1) (z0 : Int32) (S0 : Sta Z Z.heap "java/lang/String" "COMPACT_STRINGS" "Z" (.int z0)) (hz0 : ¬ z0 = 0) (b d : Addr) (kd : ClassId) (vd : List Value) (h0 : Heap) (n0 : Nat) (EB : Exa Z h0 b "java/lang/StringBuilder") (FV : Fld Z h0 b "java/lang/AbstractStringBuilder" "value" "[B" (.ref d)) (FC : Fld Z h0 b "java/lang/AbstractStringBuilder" "coder" "B" (.int (0 : Int32))) (AD : Arv Z h0 d kd .byte (16 : Int32) vd (.int 0)) (hvd : vd.length = 16) :
    Ct l Z consts_1 [] (⟨"java/lang/AbstractStringBuilder", "ensureCapacityInternal", "(I)V"⟩ : MethodName) jdk_68_method_9_code 3 none ({ frames := 0, cells := 0, slots := 0, locals := 0 } : Room) #[(.ref b), (.int (13 : Int32))] h0 n0 [] (fun v _ => v = none) := by
  have w : ∀ {d : Jvm.Cond} (i : Nat), tables_1[i]? = some d → d.before a0 Z = true := fun i q => hw _ (List.mem_of_getElem? q)
  refine Ct.enter (plainFor_of_name pn_2) hEL ?_
  intro p e sS m below meth c T0 hby hml0 hret hlk hnm hs0 X0
  have hml : c.maxLocals = 3 := hml0
  have D : ∀ {pc : Nat} {r : Except DecodeError (Instr × Nat)}, decode jdk_68_method_9_code pc = r → decode c.code pc = r := fun q => hb hby q
  rw [show entryFrame m #[(.ref b), (.int (13 : Int32))] 3 = mkF m 0 #[.val (.ref b), .val (.int (13 : Int32)), .unset] [] from by first | (simp [entryFrame, mkF, argsToLocals, Value.category]; done) | rfl]
  refine X0.aloadN (x := (.ref b)) (D d22_0) rfl rfl ?_
  refine X0.getf (w 105 rfl) Via.refl FV (D d22_1) ?_
  intro T1736 X1737
  show Goes p.tables e below _ (T1736.setTop (mkF m 4 #[.val (.ref b), .val (.int (13 : Int32)), .unset] [(.ref d)]))
  refine X1737.alen AD (D d22_4) ?_
  refine X1737.aloadN (x := (.ref b)) (D d22_5) rfl rfl ?_
  refine X1737.getf (w 107 rfl) Via.refl FC (D d22_6) ?_
  intro T1738 X1739
  show Goes p.tables e below _ (T1738.setTop (mkF m 9 #[.val (.ref b), .val (.int (13 : Int32)), .unset] [(.int (0 : Int32)), (.int (16 : Int32))]))
  refine X1739.ishr (D d22_9) ?_
  show Goes p.tables e below _ (T1738.setTop (mkF m 10 #[.val (.ref b), .val (.int (13 : Int32)), .unset] [(.int (16 : Int32))]))
  refine X1739.istoreN #[.val (.ref b), .val (.int (13 : Int32)), .val (.int (16 : Int32))] (D d22_10) rfl ?_
  refine X1739.iloadN (x := (13 : Int32)) (D d22_11) rfl ?_
  refine X1739.iloadN (x := (16 : Int32)) (D d22_12) rfl ?_
  refine X1739.isub (D d22_13) ?_
  show Goes p.tables e below _ (T1738.setTop (mkF m 14 #[.val (.ref b), .val (.int (13 : Int32)), .val (.int (16 : Int32))] [(.int (-3 : Int32))]))
  refine X1739.if_le 38 (D d22_14) ⟨by decide, by decide⟩ (fun hc1740 => ?_) (fun hc1740 => absurd hc1740 (by decide))
  exact X1739.retn hret hlk (D d22_38) (by decide) (by decide) (rfl)
set_option maxRecDepth 65536 in
set_option maxHeartbeats 40000000 in
theorem ctAA10_3_16 (l : Launch) (Z : State) (a0 : Array Value) (hw : ∀ d ∈ tables_1, d.before a0 Z = true) (hEL : EW Z a0 consts_1) (z0 : Int32) (S0 : Sta Z Z.heap "java/lang/String" "COMPACT_STRINGS" "Z" (.int z0)) (hz0 : ¬ z0 = 0) (b d s t : Addr) (kd : ClassId) (cs : List Int32) (vd : List Value) (h0 : Heap) (n0 : Nat) (EB : Exa Z h0 b "java/lang/StringBuilder") (FV : Fld Z h0 b "java/lang/AbstractStringBuilder" "value" "[B" (.ref d)) (FC : Fld Z h0 b "java/lang/AbstractStringBuilder" "coder" "B" (.int (0 : Int32))) (FN : Fld Z h0 b "java/lang/AbstractStringBuilder" "count" "I" (.int (10 : Int32))) (AD : Arv Z h0 d kd .byte (16 : Int32) vd (.int 0)) (hvd : vd.length = 16) (OS : OStr Z h0 s t cs) (hl_s : cs.length = 3) (ntd : t ≠ d) :
    Ct l Z consts_1 [] (⟨"java/lang/AbstractStringBuilder", "append", "(Ljava/lang/String;)Ljava/lang/AbstractStringBuilder;"⟩ : MethodName) jdk_68_method_22_code 3 (some (.object "java/lang/AbstractStringBuilder")) ({ frames := 3, cells := 0, slots := 0, locals := 47 } : Room) #[(.ref b), (.ref s)] h0 n0 [b, d] (fun v h => v = some (.ref b) ∧ Exa Z h b "java/lang/StringBuilder" ∧ Fld Z h b "java/lang/AbstractStringBuilder" "value" "[B" (.ref d) ∧ Fld Z h b "java/lang/AbstractStringBuilder" "coder" "B" (.int (0 : Int32)) ∧ Fld Z h b "java/lang/AbstractStringBuilder" "count" "I" (.int (13 : Int32)) ∧ Arv Z h d kd .byte (16 : Int32) (vd.take 10 ++ ((cs.map StrChars.lo8).map Value.int) ++ vd.drop (10 + 3)) (.int 0)) := by
  have w : ∀ {d : Jvm.Cond} (i : Nat), tables_1[i]? = some d → d.before a0 Z = true := fun i q => hw _ (List.mem_of_getElem? q)
  refine Ct.enter (plainFor_of_name pn_2) hEL ?_
  intro p e sS m below meth c T0 hby hml0 hret hlk hnm hs0 X0
  have hml : c.maxLocals = 3 := hml0
  have D : ∀ {pc : Nat} {r : Except DecodeError (Instr × Nat)}, decode jdk_68_method_22_code pc = r → decode c.code pc = r := fun q => hb hby q
  rw [show entryFrame m #[(.ref b), (.ref s)] 3 = mkF m 0 #[.val (.ref b), .val (.ref s), .unset] [] from by first | (simp [entryFrame, mkF, argsToLocals, Value.category]; done) | rfl]
  refine X0.aloadN (x := (.ref s)) (D d19_0) rfl rfl ?_
  refine X0.ifnonnullR 9 (D d19_1) ⟨by decide, by decide⟩ ?_
  refine X0.aloadN (x := (.ref s)) (D d19_9) rfl rfl ?_
  refine X0.callvF (y := (⟨"java/lang/String", "length", "()I"⟩ : MethodName)) (z := (⟨"java/lang/String", "length", "()I"⟩ : MethodName)) (a := s) (C := "java/lang/String") [] [] (ctLen3 l Z a0 hw hEL z0 S0 hz0 s t cs _ _ OS hl_s).toF OS.1 (w 120 rfl) (w 121 rfl) (w 123 rfl) (w 122 rfl) (nfOf (w 123 rfl) rfl) (w 3 rfl) (w 124 rfl) (by decide) (fun _ q => nomatch q) (by decide) 0 (by decide) (by decide) (by decide) (lenOf pd_7 rfl) rfl (Nat.le_of_ble_eq_true rfl) (by rw [hml]; rfl) (D d19_10) ?_
  rintro T1741 h1742 _ _ X1744 K1745 hg1746 ⟨rfl, rfl⟩
  have F1747 := EB.keep K1745
  have F1748 := FV.keep K1745 nin0
  have F1749 := FC.keep K1745 nin0
  have F1750 := FN.keep K1745 nin0
  have F1751 := AD.keep K1745 nin0
  have F1752 := OS.keep K1745 nin0 nin0
  show Goes p.tables e below _ (T1741.setTop (mkF m 13 #[.val (.ref b), .val (.ref s), .unset] [(.int (3 : Int32))]))
  refine X1744.istoreN #[.val (.ref b), .val (.ref s), .val (.int (3 : Int32))] (D d19_13) rfl ?_
  refine X1744.aloadN (x := (.ref b)) (D d19_14) rfl rfl ?_
  refine X1744.aloadN (x := (.ref b)) (D d19_15) rfl rfl ?_
  refine X1744.getf (w 130 rfl) Via.refl F1750 (D d19_16) ?_
  intro T1753 X1754
  show Goes p.tables e below _ (T1753.setTop (mkF m 19 #[.val (.ref b), .val (.ref s), .val (.int (3 : Int32))] [(.int (10 : Int32)), (.ref b)]))
  refine X1754.iloadN (x := (3 : Int32)) (D d19_19) rfl ?_
  refine X1754.iadd (D d19_20) ?_
  show Goes p.tables e below _ (T1753.setTop (mkF m 21 #[.val (.ref b), .val (.ref s), .val (.int (3 : Int32))] [(.int (13 : Int32)), (.ref b)]))
  refine X1754.callvF (y := (⟨"java/lang/AbstractStringBuilder", "ensureCapacityInternal", "(I)V"⟩ : MethodName)) (z := (⟨"java/lang/AbstractStringBuilder", "ensureCapacityInternal", "(I)V"⟩ : MethodName)) (a := b) (C := "java/lang/StringBuilder") [(.int (13 : Int32))] [] (ctEC13_16 l Z a0 hw hEL z0 S0 hz0 b d kd vd _ _ F1747 F1748 F1749 F1751 hvd).toF F1747 (w 132 rfl) (decOf (w 133 rfl) (w 136 rfl)) (w 135 rfl) (w 133 rfl) (nfOf (w 135 rfl) rfl) (w 101 rfl) (w 136 rfl) (by decide) (fun _ q => nomatch q) (by decide) 0 (by decide) (by decide) (by decide) (lenOf pd_1 rfl) rfl (Nat.le_of_ble_eq_true rfl) (by rw [hml]; rfl) (D d19_21) ?_
  rintro T1755 h1756 _ _ X1758 K1759 hg1760 ⟨rfl, rfl⟩
  have F1761 := F1747.keep K1759
  have F1762 := F1748.keep K1759 nin0
  have F1763 := F1749.keep K1759 nin0
  have F1764 := F1750.keep K1759 nin0
  have F1765 := F1751.keep K1759 nin0
  have F1766 := F1752.keep K1759 nin0 nin0
  show Goes p.tables e below _ (T1755.setTop (mkF m 24 #[.val (.ref b), .val (.ref s), .val (.int (3 : Int32))] []))
  refine X1758.aloadN (x := (.ref b)) (D d19_24) rfl rfl ?_
  refine X1758.aloadN (x := (.ref b)) (D d19_25) rfl rfl ?_
  refine X1758.getf (w 130 rfl) Via.refl F1764 (D d19_26) ?_
  intro T1767 X1768
  show Goes p.tables e below _ (T1767.setTop (mkF m 29 #[.val (.ref b), .val (.ref s), .val (.int (3 : Int32))] [(.int (10 : Int32)), (.ref b)]))
  refine X1768.aloadN (x := (.ref s)) (D d19_29) rfl rfl ?_
  refine X1768.callvF (y := (⟨"java/lang/AbstractStringBuilder", "putStringAt", "(ILjava/lang/String;)V"⟩ : MethodName)) (z := (⟨"java/lang/AbstractStringBuilder", "putStringAt", "(ILjava/lang/String;)V"⟩ : MethodName)) (a := b) (C := "java/lang/StringBuilder") [(.int (10 : Int32)), (.ref s)] [] (ctPS10_3_16 l Z a0 hw hEL z0 S0 hz0 b d s t kd cs vd _ _ F1761 F1762 F1763 F1765 hvd F1766 hl_s ntd).toF F1761 (w 137 rfl) (decOf (w 138 rfl) (w 141 rfl)) (w 140 rfl) (w 138 rfl) (nfOf (w 140 rfl) rfl) (w 101 rfl) (w 141 rfl) (by decide) (by simp) (by decide) 0 (by decide) (by decide) (by decide) (lenOf pd_8 rfl) rfl (Nat.le_of_ble_eq_true rfl) (by rw [hml]; rfl) (D d19_30) ?_
  rintro T1769 h1770 _ _ X1772 K1773 hg1774 ⟨rfl, rfl, A1⟩
  have F1775 := F1761.keep K1773
  have F1776 := F1762.keep K1773 (ninS (Exa.neArv F1761 F1765 (w 92 rfl)) nin0)
  have F1777 := F1763.keep K1773 (ninS (Exa.neArv F1761 F1765 (w 92 rfl)) nin0)
  have F1778 := F1764.keep K1773 (ninS (Exa.neArv F1761 F1765 (w 92 rfl)) nin0)
  have F1779 := F1766.keep K1773 (ninS (Exa.neArv F1766.1 F1765 (w 2 rfl)) nin0) (ninS ntd nin0)
  show Goes p.tables e below _ (T1769.setTop (mkF m 33 #[.val (.ref b), .val (.ref s), .val (.int (3 : Int32))] []))
  refine X1772.aloadN (x := (.ref b)) (D d19_33) rfl rfl ?_
  refine X1772.dup (D d19_34) rfl ?_
  refine X1772.getf (w 130 rfl) Via.refl F1778 (D d19_35) ?_
  intro T1780 X1781
  show Goes p.tables e below _ (T1780.setTop (mkF m 38 #[.val (.ref b), .val (.ref s), .val (.int (3 : Int32))] [(.int (10 : Int32)), (.ref b)]))
  refine X1781.iloadN (x := (3 : Int32)) (D d19_38) rfl ?_
  refine X1781.iadd (D d19_39) ?_
  show Goes p.tables e below _ (T1780.setTop (mkF m 40 #[.val (.ref b), .val (.ref s), .val (.int (3 : Int32))] [(.int (13 : Int32)), (.ref b)]))
  refine X1781.putf (w 130 rfl) Via.refl F1778 F1775 (Or.inl (w 131 rfl)) (w 92 rfl) (ty := .int) (by decide) rfl rfl (D d19_40) (by simp) ?_
  intro T1782 h1783 X1784 W1785
  have F1786 := F1778.same W1785
  have F1787 := F1775.wr W1785
  have F1788 := F1776.other W1785 (Or.inr (slot_ne (t := (.array .byte)) (t' := .int) (Or.inl (w 106 rfl)) (Or.inl (w 131 rfl)) (by decide) (by decide) (by decide)))
  have F1789 := F1777.other W1785 (Or.inr (slot_ne (t := .byte) (t' := .int) (Or.inl (w 108 rfl)) (Or.inl (w 131 rfl)) (by decide) (by decide) (by decide)))
  have F1790 := F1779.wr W1785 (Exa.ne F1779.1 F1775 (by decide)) (OStr.neT F1779 F1775 (w 92 rfl))
  have F1791 := A1.other W1785 (Exa.neArv F1775 A1 (w 92 rfl)).symm
  show Goes p.tables e below _ (T1782.setTop (mkF m 43 #[.val (.ref b), .val (.ref s), .val (.int (3 : Int32))] []))
  refine X1784.aloadN (x := (.ref b)) (D d19_43) rfl rfl ?_
  exact X1784.retA hret rfl rfl hlk (D d19_44) (by decide) (by decide) (⟨rfl, F1787, F1788, F1789, F1786, F1791⟩)
set_option maxRecDepth 65536 in
set_option maxHeartbeats 40000000 in
theorem ctSBa10_3_16 (l : Launch) (Z : State) (a0 : Array Value) (hw : ∀ d ∈ tables_1, d.before a0 Z = true) (hEL : EW Z a0 consts_1) (z0 : Int32) (S0 : Sta Z Z.heap "java/lang/String" "COMPACT_STRINGS" "Z" (.int z0)) (hz0 : ¬ z0 = 0) (b d s t : Addr) (kd : ClassId) (cs : List Int32) (vd : List Value) (h0 : Heap) (n0 : Nat) (EB : Exa Z h0 b "java/lang/StringBuilder") (FV : Fld Z h0 b "java/lang/AbstractStringBuilder" "value" "[B" (.ref d)) (FC : Fld Z h0 b "java/lang/AbstractStringBuilder" "coder" "B" (.int (0 : Int32))) (FN : Fld Z h0 b "java/lang/AbstractStringBuilder" "count" "I" (.int (10 : Int32))) (AD : Arv Z h0 d kd .byte (16 : Int32) vd (.int 0)) (hvd : vd.length = 16) (OS : OStr Z h0 s t cs) (hl_s : cs.length = 3) (ntd : t ≠ d) :
    Ct l Z consts_1 [] (⟨"java/lang/StringBuilder", "append", "(Ljava/lang/String;)Ljava/lang/StringBuilder;"⟩ : MethodName) jdk_67_method_7_code 2 (some (.object "java/lang/StringBuilder")) ({ frames := 4, cells := 0, slots := 0, locals := 61 } : Room) #[(.ref b), (.ref s)] h0 n0 [b, d] (fun v h => v = some (.ref b) ∧ Exa Z h b "java/lang/StringBuilder" ∧ Fld Z h b "java/lang/AbstractStringBuilder" "value" "[B" (.ref d) ∧ Fld Z h b "java/lang/AbstractStringBuilder" "coder" "B" (.int (0 : Int32)) ∧ Fld Z h b "java/lang/AbstractStringBuilder" "count" "I" (.int (13 : Int32)) ∧ Arv Z h d kd .byte (16 : Int32) (vd.take 10 ++ ((cs.map StrChars.lo8).map Value.int) ++ vd.drop (10 + 3)) (.int 0)) := by
  have w : ∀ {d : Jvm.Cond} (i : Nat), tables_1[i]? = some d → d.before a0 Z = true := fun i q => hw _ (List.mem_of_getElem? q)
  refine Ct.enter (plainFor_of_name pn_3) hEL ?_
  intro p e sS m below meth c T0 hby hml0 hret hlk hnm hs0 X0
  have hml : c.maxLocals = 2 := hml0
  have D : ∀ {pc : Nat} {r : Except DecodeError (Instr × Nat)}, decode jdk_67_method_7_code pc = r → decode c.code pc = r := fun q => hb hby q
  rw [show entryFrame m #[(.ref b), (.ref s)] 2 = mkF m 0 #[.val (.ref b), .val (.ref s)] [] from by first | (simp [entryFrame, mkF, argsToLocals, Value.category]; done) | rfl]
  refine X0.aloadN (x := (.ref b)) (D d18_0) rfl rfl ?_
  refine X0.aloadN (x := (.ref s)) (D d18_1) rfl rfl ?_
  refine X0.callu (a := b) [(.ref s)] [] (ctAA10_3_16 l Z a0 hw hEL z0 S0 hz0 b d s t kd cs vd _ _ EB FV FC FN AD hvd OS hl_s ntd).toF EB (w 115 rfl) (smOf (w 116 rfl) (w 172 rfl) rfl (by decide)) (w 116 rfl) (w 117 rfl) (by decide) (w 101 rfl) (w 119 rfl) (by simp) (by decide) 0 (by decide) (by decide) (by decide) (lenOf pd_9 rfl) rfl (Nat.le_of_ble_eq_true rfl) (by rw [hml]; rfl) (D d18_2) ?_
  rintro T1792 h1793 _ _ X1795 K1796 hg1797 ⟨rfl, rfl, E1, V1, C1, N1, A1⟩
  have F1798 := EB.keep K1796
  have F1799 := OS.keep K1796 (ninS (Exa.ne OS.1 EB (by decide)) (ninS (Exa.neArv OS.1 AD (w 2 rfl)) nin0)) (ninS (OStr.neT OS EB (w 92 rfl)) (ninS ntd nin0))
  show Goes p.tables e below _ (T1792.setTop (mkF m 5 #[.val (.ref b), .val (.ref s)] [(.ref b)]))
  refine X1795.pop (D d18_5) rfl ?_
  refine X1795.aloadN (x := (.ref b)) (D d18_6) rfl rfl ?_
  exact X1795.retA hret rfl rfl hlk (D d18_7) (by decide) (by decide) (⟨rfl, E1, V1, C1, N1, A1⟩)
set_option maxRecDepth 65536 in
set_option maxHeartbeats 40000000 in
theorem ctCL13_16 (l : Launch) (Z : State) (a0 : Array Value) (hw : ∀ d ∈ tables_1, d.before a0 Z = true) (hEL : EW Z a0 consts_1) (z0 : Int32) (S0 : Sta Z Z.heap "java/lang/String" "COMPACT_STRINGS" "Z" (.int z0)) (hz0 : ¬ z0 = 0)  (h0 : Heap) (n0 : Nat)  :
    Ct l Z consts_1 [] (⟨"java/util/Arrays", "checkLength", "(II)V"⟩ : MethodName) jdk_65_method_131_code 2 none ({ frames := 0, cells := 0, slots := 0, locals := 0 } : Room) #[(.int (0 : Int32)), (.int (13 : Int32))] h0 n0 [] (fun v _ => v = none) := by
  have w : ∀ {d : Jvm.Cond} (i : Nat), tables_1[i]? = some d → d.before a0 Z = true := fun i q => hw _ (List.mem_of_getElem? q)
  refine Ct.enter (plainFor_of_name pn_5) hEL ?_
  intro p e sS m below meth c T0 hby hml0 hret hlk hnm hs0 X0
  have hml : c.maxLocals = 2 := hml0
  have D : ∀ {pc : Nat} {r : Except DecodeError (Instr × Nat)}, decode jdk_65_method_131_code pc = r → decode c.code pc = r := fun q => hb hby q
  rw [show entryFrame m #[(.int (0 : Int32)), (.int (13 : Int32))] 2 = mkF m 0 #[.val (.int (0 : Int32)), .val (.int (13 : Int32))] [] from by first | (simp [entryFrame, mkF, argsToLocals, Value.category]; done) | rfl]
  refine X0.iloadN (x := (13 : Int32)) (D d35_0) rfl ?_
  refine X0.iloadN (x := (0 : Int32)) (D d35_1) rfl ?_
  refine X0.icmp_ge 37 (D d35_2) ⟨by decide, by decide⟩ (fun hc1800 => ?_) (fun hc1800 => absurd hc1800 (by decide))
  exact X0.retn hret hlk (D d35_37) (by decide) (by decide) (rfl)
set_option maxRecDepth 65536 in
set_option maxHeartbeats 40000000 in
theorem ctMn13_16 (l : Launch) (Z : State) (a0 : Array Value) (hw : ∀ d ∈ tables_1, d.before a0 Z = true) (hEL : EW Z a0 consts_1) (z0 : Int32) (S0 : Sta Z Z.heap "java/lang/String" "COMPACT_STRINGS" "Z" (.int z0)) (hz0 : ¬ z0 = 0)  (h0 : Heap) (n0 : Nat)  :
    Ct l Z consts_1 [] (⟨"java/lang/Math", "min", "(II)I"⟩ : MethodName) jdk_29_method_69_code 2 (some .int) ({ frames := 0, cells := 0, slots := 0, locals := 0 } : Room) #[(.int (16 : Int32)), (.int (13 : Int32))] h0 n0 [] (fun v _ => v = some (.int (13 : Int32))) := by
  have w : ∀ {d : Jvm.Cond} (i : Nat), tables_1[i]? = some d → d.before a0 Z = true := fun i q => hw _ (List.mem_of_getElem? q)
  refine Ct.enter (Jvm.Free.JP.mathPlain rfl (by decide)) hEL ?_
  intro p e sS m below meth c T0 hby hml0 hret hlk hnm hs0 X0
  have hml : c.maxLocals = 2 := hml0
  have D : ∀ {pc : Nat} {r : Except DecodeError (Instr × Nat)}, decode jdk_29_method_69_code pc = r → decode c.code pc = r := fun q => hb hby q
  rw [show entryFrame m #[(.int (16 : Int32)), (.int (13 : Int32))] 2 = mkF m 0 #[.val (.int (16 : Int32)), .val (.int (13 : Int32))] [] from by first | (simp [entryFrame, mkF, argsToLocals, Value.category]; done) | rfl]
  refine X0.iloadN (x := (16 : Int32)) (D d36_0) rfl ?_
  refine X0.iloadN (x := (13 : Int32)) (D d36_1) rfl ?_
  refine X0.icmp_gt 9 (D d36_2) ⟨by decide, by decide⟩ (fun hc1801 => ?_) (fun hc1801 => absurd hc1801 (by decide))
  refine X0.iloadN (x := (13 : Int32)) (D d36_9) rfl ?_
  exact X0.retI hret hlk (D d36_10) (by decide) (by decide) (rfl)
set_option maxRecDepth 65536 in
set_option maxHeartbeats 40000000 in
theorem ctRB13_16 (l : Launch) (Z : State) (a0 : Array Value) (hw : ∀ d ∈ tables_1, d.before a0 Z = true) (hEL : EW Z a0 consts_1) (z0 : Int32) (S0 : Sta Z Z.heap "java/lang/String" "COMPACT_STRINGS" "Z" (.int z0)) (hz0 : ¬ z0 = 0) (d : Addr) (kd : ClassId) (vd xs : List Value) (h0 : Heap) (n0 : Nat) (AD : Arv Z h0 d kd .byte (16 : Int32) vd (.int 0)) (hxs : xs = (List.range 13).map fun i => vd.getD (0 + i) (.int 0)) :
    Ct l Z consts_1 [] (⟨"java/util/Arrays", "copyOfRangeByte", "([BII)[B"⟩ : MethodName) jdk_65_method_133_code 5 (some (.array .byte)) ({ frames := 1, cells := 1, slots := 13, locals := 18 } : Room) #[(.ref d), (.int (0 : Int32)), (.int (13 : Int32))] h0 n0 [] (fun v h => ∃ (r : Addr) (kr : ClassId), v = some (.ref r) ∧ Arv Z h r kr .byte (13 : Int32) xs (.int 0)) := by
  have w : ∀ {d : Jvm.Cond} (i : Nat), tables_1[i]? = some d → d.before a0 Z = true := fun i q => hw _ (List.mem_of_getElem? q)
  refine Ct.enter (plainFor_of_name pn_5) hEL ?_
  intro p e sS m below meth c T0 hby hml0 hret hlk hnm hs0 X0
  have hml : c.maxLocals = 5 := hml0
  have D : ∀ {pc : Nat} {r : Except DecodeError (Instr × Nat)}, decode jdk_65_method_133_code pc = r → decode c.code pc = r := fun q => hb hby q
  rw [show entryFrame m #[(.ref d), (.int (0 : Int32)), (.int (13 : Int32))] 5 = mkF m 0 #[.val (.ref d), .val (.int (0 : Int32)), .val (.int (13 : Int32)), .unset, .unset] [] from by first | (simp [entryFrame, mkF, argsToLocals, Value.category]; done) | rfl]
  refine X0.iloadN (x := (0 : Int32)) (D d34_0) rfl ?_
  refine X0.iloadN (x := (13 : Int32)) (D d34_1) rfl ?_
  refine X0.callsF [(.int (0 : Int32)), (.int (13 : Int32))] [] (ctCL13_16 l Z a0 hw hEL z0 S0 hz0 _ _).toF (w 194 rfl) (w 195 rfl) (w 189 rfl) (w 196 rfl) (by decide) (fun _ q => nomatch q) (by decide) 0 (by decide) (by decide) (by decide) (lenOf pd_10 rfl) rfl (Nat.le_of_ble_eq_true rfl) (by rw [hml]; rfl) (D d34_2) ?_
  rintro T1802 h1803 _ _ X1805 K1806 hg1807 ⟨rfl, rfl⟩
  have F1808 := AD.keep K1806 nin0
  show Goes p.tables e below _ (T1802.setTop (mkF m 5 #[.val (.ref d), .val (.int (0 : Int32)), .val (.int (13 : Int32)), .unset, .unset] []))
  refine X1805.iloadN (x := (13 : Int32)) (D d34_5) rfl ?_
  refine X1805.iloadN (x := (0 : Int32)) (D d34_6) rfl ?_
  refine X1805.isub (D d34_7) ?_
  show Goes p.tables e below _ (T1802.setTop (mkF m 8 #[.val (.ref d), .val (.int (0 : Int32)), .val (.int (13 : Int32)), .unset, .unset] [(.int (13 : Int32))]))
  refine X1805.istoreN #[.val (.ref d), .val (.int (0 : Int32)), .val (.int (13 : Int32)), .val (.int (13 : Int32)), .unset] (D d34_8) rfl ?_
  refine X1805.iloadN (x := (13 : Int32)) (D d34_9) rfl ?_
  refine X1805.newarr (w 15 rfl) (n := (13 : Int32)) (D d34_10) (by decide) 13 (by decide) (by decide) (by decide) (by decide) ?_
  intro T1809 h1810 b1811 kb1812 g1813 X1814 E1815 A1816
  have F1817 := F1808.ext E1815
  have lt1818 : d < b1811 := by rw [g1813]; exact F1808.lt
  have F1819 : Arv Z h1810 b1811 kb1812 .byte (13 : Int32) [(.int (0 : Int32)), (.int (0 : Int32)), (.int (0 : Int32)), (.int (0 : Int32)), (.int (0 : Int32)), (.int (0 : Int32)), (.int (0 : Int32)), (.int (0 : Int32)), (.int (0 : Int32)), (.int (0 : Int32)), (.int (0 : Int32)), (.int (0 : Int32)), (.int (0 : Int32))] (.int (0 : Int32)) := A1816.pad (pad_rep [] (.int (0 : Int32)) 13)
  show Goes p.tables e below _ (T1809.setTop (mkF m 12 #[.val (.ref d), .val (.int (0 : Int32)), .val (.int (13 : Int32)), .val (.int (13 : Int32)), .unset] [(.ref b1811)]))
  refine X1814.astore #[.val (.ref d), .val (.int (0 : Int32)), .val (.int (13 : Int32)), .val (.int (13 : Int32)), .val (.ref b1811)] (D d34_12) rfl rfl ?_
  refine X1814.aloadN (x := (.ref d)) (D d34_14) rfl rfl ?_
  refine X1814.iloadN (x := (0 : Int32)) (D d34_15) rfl ?_
  refine X1814.aload (x := (.ref b1811)) (D d34_16) rfl rfl ?_
  refine X1814.iconst (x := (0 : Int32)) (D d34_18) rfl ?_
  refine X1814.aloadN (x := (.ref d)) (D d34_19) rfl rfl ?_
  refine X1814.alen F1817 (D d34_20) ?_
  refine X1814.iloadN (x := (0 : Int32)) (D d34_21) rfl ?_
  refine X1814.isub (D d34_22) ?_
  show Goes p.tables e below _ (T1809.setTop (mkF m 23 #[.val (.ref d), .val (.int (0 : Int32)), .val (.int (13 : Int32)), .val (.int (13 : Int32)), .val (.ref b1811)] [(.int (16 : Int32)), (.int (0 : Int32)), (.ref b1811), (.int (0 : Int32)), (.ref d)]))
  refine X1814.iloadN (x := (13 : Int32)) (D d34_23) rfl ?_
  refine X1814.callsF [(.int (16 : Int32)), (.int (13 : Int32))] [(.int (0 : Int32)), (.ref b1811), (.int (0 : Int32)), (.ref d)] (ctMn13_16 l Z a0 hw hEL z0 S0 hz0 _ _).toF (w 197 rfl) (w 198 rfl) (w 199 rfl) (w 200 rfl) (by decide) (fun _ q => nomatch q) (by decide) 4 (by decide) (by decide) (by decide) (lenOf pd_11 rfl) rfl (Nat.le_of_ble_eq_true rfl) (by rw [hml]; rfl) (D d34_24) ?_
  rintro T1820 h1821 _ _ X1823 K1824 hg1825 ⟨rfl, rfl⟩
  have F1826 := F1817.keep K1824 nin0
  have F1827 := F1819.keep K1824 nin0
  show Goes p.tables e below _ (T1820.setTop (mkF m 27 #[.val (.ref d), .val (.int (0 : Int32)), .val (.int (13 : Int32)), .val (.int (13 : Int32)), .val (.ref b1811)] [(.int (13 : Int32)), (.int (0 : Int32)), (.ref b1811), (.int (0 : Int32)), (.ref d)]))
  show Goes p.tables e below _ (T1820.setTop (mkF m 27 #[.val (.ref d), .val (.int (0 : Int32)), .val (.int (13 : Int32)), .val (.int (13 : Int32)), .val (.ref b1811)] [(.int (13 : Int32)), (.int (0 : Int32)), (.ref b1811), (.int (0 : Int32)), (.ref d)]))
  refine X1823.acopy (us := xs) (w 201 rfl) (w 156 rfl) (w 154 rfl) (w 155 rfl) F1826 F1827 (by decide) (by decide) (by decide) (by decide) (by decide) hxs (by decide) (by simp) (by rw [hml]; rfl) (D d34_27) (by decide) 0 (Nat.le_of_ble_eq_true rfl) (by decide) ?_
  intro T1828 h1829 X1830 K1831 B1832
  have F1833 := F1826.keep K1831 (ninS (Nat.ne_of_lt lt1818) nin0)
  show Goes p.tables e below _ (T1828.setTop (mkF m 30 #[.val (.ref d), .val (.int (0 : Int32)), .val (.int (13 : Int32)), .val (.int (13 : Int32)), .val (.ref b1811)] []))
  refine X1830.aload (x := (.ref b1811)) (D d34_30) rfl rfl ?_
  have hz : ([(.int (0 : Int32)), (.int (0 : Int32)), (.int (0 : Int32)), (.int (0 : Int32)), (.int (0 : Int32)), (.int (0 : Int32)), (.int (0 : Int32)), (.int (0 : Int32)), (.int (0 : Int32)), (.int (0 : Int32)), (.int (0 : Int32)), (.int (0 : Int32)), (.int (0 : Int32))] : List Value).take 0 ++ xs ++ ([(.int (0 : Int32)), (.int (0 : Int32)), (.int (0 : Int32)), (.int (0 : Int32)), (.int (0 : Int32)), (.int (0 : Int32)), (.int (0 : Int32)), (.int (0 : Int32)), (.int (0 : Int32)), (.int (0 : Int32)), (.int (0 : Int32)), (.int (0 : Int32)), (.int (0 : Int32))] : List Value).drop (0 + 13) = xs := by simp
  exact X1830.retA hret rfl rfl hlk (D d34_32) (by decide) (by decide) (⟨_, _, rfl, by have q := B1832; rw [← hz]; exact q⟩)
set_option maxRecDepth 65536 in
set_option maxHeartbeats 40000000 in
theorem ctCR13_16 (l : Launch) (Z : State) (a0 : Array Value) (hw : ∀ d ∈ tables_1, d.before a0 Z = true) (hEL : EW Z a0 consts_1) (z0 : Int32) (S0 : Sta Z Z.heap "java/lang/String" "COMPACT_STRINGS" "Z" (.int z0)) (hz0 : ¬ z0 = 0) (d : Addr) (kd : ClassId) (vd xs : List Value) (h0 : Heap) (n0 : Nat) (AD : Arv Z h0 d kd .byte (16 : Int32) vd (.int 0)) (hxs : xs = (List.range 13).map fun i => vd.getD (0 + i) (.int 0)) :
    Ct l Z consts_1 [] (⟨"java/util/Arrays", "copyOfRange", "([BII)[B"⟩ : MethodName) jdk_65_method_132_code 3 (some (.array .byte)) ({ frames := 2, cells := 1, slots := 13, locals := 34 } : Room) #[(.ref d), (.int (0 : Int32)), (.int (13 : Int32))] h0 n0 [] (fun v h => ∃ (r : Addr) (kr : ClassId), v = some (.ref r) ∧ Arv Z h r kr .byte (13 : Int32) xs (.int 0)) := by
  have w : ∀ {d : Jvm.Cond} (i : Nat), tables_1[i]? = some d → d.before a0 Z = true := fun i q => hw _ (List.mem_of_getElem? q)
  refine Ct.enter (plainFor_of_name pn_5) hEL ?_
  intro p e sS m below meth c T0 hby hml0 hret hlk hnm hs0 X0
  have hml : c.maxLocals = 3 := hml0
  have D : ∀ {pc : Nat} {r : Except DecodeError (Instr × Nat)}, decode jdk_65_method_132_code pc = r → decode c.code pc = r := fun q => hb hby q
  rw [show entryFrame m #[(.ref d), (.int (0 : Int32)), (.int (13 : Int32))] 3 = mkF m 0 #[.val (.ref d), .val (.int (0 : Int32)), .val (.int (13 : Int32))] [] from by first | (simp [entryFrame, mkF, argsToLocals, Value.category]; done) | rfl]
  refine X0.iloadN (x := (0 : Int32)) (D d33_0) rfl ?_
  refine X0.if_ne 10 (D d33_1) ⟨by decide, by decide⟩ (fun hc1834 => absurd hc1834 (by decide)) (fun hc1834 => ?_)
  refine X0.iloadN (x := (13 : Int32)) (D d33_4) rfl ?_
  refine X0.aloadN (x := (.ref d)) (D d33_5) rfl rfl ?_
  refine X0.alen AD (D d33_6) ?_
  refine X0.icmp_eq 17 (D d33_7) ⟨by decide, by decide⟩ (fun hc1835 => absurd hc1835 (by decide)) (fun hc1835 => ?_)
  refine X0.aloadN (x := (.ref d)) (D d33_10) rfl rfl ?_
  refine X0.iloadN (x := (0 : Int32)) (D d33_11) rfl ?_
  refine X0.iloadN (x := (13 : Int32)) (D d33_12) rfl ?_
  refine X0.callsF [(.ref d), (.int (0 : Int32)), (.int (13 : Int32))] [] (ctRB13_16 l Z a0 hw hEL z0 S0 hz0 d kd vd xs _ _ AD hxs).toF (w 191 rfl) (w 192 rfl) (w 189 rfl) (w 193 rfl) (by decide) (fun _ q => nomatch q) (by decide) 0 (by decide) (by decide) (by decide) (lenOf pd_12 rfl) rfl (Nat.le_of_ble_eq_true rfl) (by rw [hml]; rfl) (D d33_13) ?_
  rintro T1836 h1837 _ _ X1839 K1840 hg1841 ⟨rfl, r, kr, rfl, A1⟩
  have F1842 := AD.keep K1840 nin0
  show Goes p.tables e below _ (T1836.setTop (mkF m 16 #[.val (.ref d), .val (.int (0 : Int32)), .val (.int (13 : Int32))] [(.ref r)]))
  exact X1839.retA hret rfl rfl hlk (D d33_16) (by decide) (by decide) (⟨r, kr, rfl, A1⟩)
set_option maxRecDepth 65536 in
set_option maxHeartbeats 40000000 in
theorem ctAL13 (l : Launch) (Z : State) (a0 : Array Value) (hw : ∀ d ∈ tables_1, d.before a0 Z = true) (hEL : EW Z a0 consts_1) (z0 : Int32) (S0 : Sta Z Z.heap "java/lang/String" "COMPACT_STRINGS" "Z" (.int z0)) (hz0 : ¬ z0 = 0) (b d : Addr) (h0 : Heap) (n0 : Nat) (EB : Exa Z h0 b "java/lang/StringBuilder") (FV : Fld Z h0 b "java/lang/AbstractStringBuilder" "value" "[B" (.ref d)) (FC : Fld Z h0 b "java/lang/AbstractStringBuilder" "coder" "B" (.int (0 : Int32))) (FN : Fld Z h0 b "java/lang/AbstractStringBuilder" "count" "I" (.int (13 : Int32))) :
    Ct l Z consts_1 [] (⟨"java/lang/AbstractStringBuilder", "length", "()I"⟩ : MethodName) jdk_68_method_6_code 1 (some .int) ({ frames := 0, cells := 0, slots := 0, locals := 0 } : Room) #[(.ref b)] h0 n0 [] (fun v _ => v = some (.int (13 : Int32))) := by
  have w : ∀ {d : Jvm.Cond} (i : Nat), tables_1[i]? = some d → d.before a0 Z = true := fun i q => hw _ (List.mem_of_getElem? q)
  refine Ct.enter (plainFor_of_name pn_2) hEL ?_
  intro p e sS m below meth c T0 hby hml0 hret hlk hnm hs0 X0
  have hml : c.maxLocals = 1 := hml0
  have D : ∀ {pc : Nat} {r : Except DecodeError (Instr × Nat)}, decode jdk_68_method_6_code pc = r → decode c.code pc = r := fun q => hb hby q
  rw [show entryFrame m #[(.ref b)] 1 = mkF m 0 #[.val (.ref b)] [] from by first | (simp [entryFrame, mkF, argsToLocals, Value.category]; done) | rfl]
  refine X0.aloadN (x := (.ref b)) (D d31_0) rfl rfl ?_
  refine X0.getf (w 130 rfl) Via.refl FN (D d31_1) ?_
  intro T1843 X1844
  show Goes p.tables e below _ (T1843.setTop (mkF m 4 #[.val (.ref b)] [(.int (13 : Int32))]))
  exact X1844.retI hret hlk (D d31_4) (by decide) (by decide) (rfl)
set_option maxRecDepth 65536 in
set_option maxHeartbeats 40000000 in
theorem ctSL13 (l : Launch) (Z : State) (a0 : Array Value) (hw : ∀ d ∈ tables_1, d.before a0 Z = true) (hEL : EW Z a0 consts_1) (z0 : Int32) (S0 : Sta Z Z.heap "java/lang/String" "COMPACT_STRINGS" "Z" (.int z0)) (hz0 : ¬ z0 = 0) (b d : Addr) (h0 : Heap) (n0 : Nat) (EB : Exa Z h0 b "java/lang/StringBuilder") (FV : Fld Z h0 b "java/lang/AbstractStringBuilder" "value" "[B" (.ref d)) (FC : Fld Z h0 b "java/lang/AbstractStringBuilder" "coder" "B" (.int (0 : Int32))) (FN : Fld Z h0 b "java/lang/AbstractStringBuilder" "count" "I" (.int (13 : Int32))) :
    Ct l Z consts_1 [] (⟨"java/lang/StringBuilder", "length", "()I"⟩ : MethodName) jdk_67_method_93_code 1 (some .int) ({ frames := 1, cells := 0, slots := 0, locals := 12 } : Room) #[(.ref b)] h0 n0 [] (fun v _ => v = some (.int (13 : Int32))) := by
  have w : ∀ {d : Jvm.Cond} (i : Nat), tables_1[i]? = some d → d.before a0 Z = true := fun i q => hw _ (List.mem_of_getElem? q)
  refine Ct.enter (plainFor_of_name pn_3) hEL ?_
  intro p e sS m below meth c T0 hby hml0 hret hlk hnm hs0 X0
  have hml : c.maxLocals = 1 := hml0
  have D : ∀ {pc : Nat} {r : Except DecodeError (Instr × Nat)}, decode jdk_67_method_93_code pc = r → decode c.code pc = r := fun q => hb hby q
  rw [show entryFrame m #[(.ref b)] 1 = mkF m 0 #[.val (.ref b)] [] from by first | (simp [entryFrame, mkF, argsToLocals, Value.category]; done) | rfl]
  refine X0.aloadN (x := (.ref b)) (D d30_0) rfl rfl ?_
  refine X0.callu (a := b) [] [] (ctAL13 l Z a0 hw hEL z0 S0 hz0 b d _ _ EB FV FC FN).toF EB (w 180 rfl) (smOf (w 176 rfl) (w 172 rfl) rfl (by decide)) (w 176 rfl) (w 117 rfl) (by decide) (w 101 rfl) (w 181 rfl) (fun _ q => nomatch q) (by decide) 0 (by decide) (by decide) (by decide) (lenOf pd_7 rfl) rfl (Nat.le_of_ble_eq_true rfl) (by rw [hml]; rfl) (D d30_1) ?_
  rintro T1845 h1846 _ _ X1848 K1849 hg1850 ⟨rfl, rfl⟩
  have F1851 := EB.keep K1849
  have F1852 := FV.keep K1849 nin0
  have F1853 := FC.keep K1849 nin0
  have F1854 := FN.keep K1849 nin0
  show Goes p.tables e below _ (T1845.setTop (mkF m 4 #[.val (.ref b)] [(.int (13 : Int32))]))
  exact X1848.retI hret hlk (D d30_4) (by decide) (by decide) (rfl)
set_option maxRecDepth 65536 in
set_option maxHeartbeats 40000000 in
theorem ctIV13_16 (l : Launch) (Z : State) (a0 : Array Value) (hw : ∀ d ∈ tables_1, d.before a0 Z = true) (hEL : EW Z a0 consts_1) (z0 : Int32) (S0 : Sta Z Z.heap "java/lang/String" "COMPACT_STRINGS" "Z" (.int z0)) (hz0 : ¬ z0 = 0) (a b d : Addr) (kd : ClassId) (vd : List Value) (ds : List Int32) (h0 : Heap) (n0 : Nat) (EB : Exa Z h0 b "java/lang/StringBuilder") (FV : Fld Z h0 b "java/lang/AbstractStringBuilder" "value" "[B" (.ref d)) (FC : Fld Z h0 b "java/lang/AbstractStringBuilder" "coder" "B" (.int (0 : Int32))) (FN : Fld Z h0 b "java/lang/AbstractStringBuilder" "count" "I" (.int (13 : Int32))) (AD : Arv Z h0 d kd .byte (16 : Int32) vd (.int 0)) (hvd : vd.length = 16) (hp : ∀ c ∈ ds, ¬ c < 0 ∧ ¬ (255 : Int32) < c) (hds : ds.length = 13) (hxs : ((ds.map StrChars.lo8).map Value.int) = (List.range 13).map fun i => vd.getD (0 + i) (.int 0)) (E0 : Exa Z h0 a "java/lang/String") (F0 : Fld Z h0 a "java/lang/String" "value" "[B" .null) (F1 : Fld Z h0 a "java/lang/String" "coder" "B" (.int (0 : Int32))) :
    Ct l Z consts_1 [] (⟨"java/lang/String", "<init>", "(Ljava/lang/AbstractStringBuilder;Ljava/lang/Void;)V"⟩ : MethodName) jdk_42_method_150_code 5 none ({ frames := 3, cells := 1, slots := 13, locals := 49 } : Room) #[(.ref a), (.ref b), .null] h0 n0 [a] (fun v h => v = none ∧ ∃ t : Addr, OStr Z h a t ds) := by
  have w : ∀ {d : Jvm.Cond} (i : Nat), tables_1[i]? = some d → d.before a0 Z = true := fun i q => hw _ (List.mem_of_getElem? q)
  refine Ct.enter (plainFor_of_name pn_1) hEL ?_
  intro p e sS m below meth c T0 hby hml0 hret hlk hnm hs0 X0
  have hml : c.maxLocals = 5 := hml0
  have D : ∀ {pc : Nat} {r : Except DecodeError (Instr × Nat)}, decode jdk_42_method_150_code pc = r → decode c.code pc = r := fun q => hb hby q
  rw [show entryFrame m #[(.ref a), (.ref b), .null] 5 = mkF m 0 #[.val (.ref a), .val (.ref b), .val .null, .unset, .unset] [] from by first | (simp [entryFrame, mkF, argsToLocals, Value.category]; done) | rfl]
  refine X0.aloadN (x := (.ref a)) (D d28_0) rfl rfl ?_
  refine X0.inito (w 11 rfl) (w 12 rfl) (w 13 rfl) (D d28_1) (by rw [hml]; rfl) (by decide) 0 (Nat.le_of_ble_eq_true rfl) (by decide) ?_
  intro T1855 X1856
  show Goes p.tables e below _ (T1855.setTop (mkF m 4 #[.val (.ref a), .val (.ref b), .val .null, .unset, .unset] []))
  refine X1856.aloadN (x := (.ref b)) (D d28_4) rfl rfl ?_
  refine X1856.callvF (y := (⟨"java/lang/AbstractStringBuilder", "getValue", "()[B"⟩ : MethodName)) (z := (⟨"java/lang/AbstractStringBuilder", "getValue", "()[B"⟩ : MethodName)) (a := b) (C := "java/lang/StringBuilder") [] [] (ctGV l Z a0 hw hEL z0 S0 hz0 b d _ _ EB FV FC).toF EB (w 169 rfl) (w 170 rfl) (w 172 rfl) (w 171 rfl) (nfOf (w 172 rfl) rfl) (w 101 rfl) (w 173 rfl) (by decide) (fun _ q => nomatch q) (by decide) 0 (by decide) (by decide) (by decide) (lenOf pd_13 rfl) rfl (Nat.le_of_ble_eq_true rfl) (by rw [hml]; rfl) (D d28_5) ?_
  rintro T1857 h1858 _ _ X1860 K1861 hg1862 ⟨rfl, rfl⟩
  have F1863 := EB.keep K1861
  have F1864 := FV.keep K1861 nin0
  have F1865 := FC.keep K1861 nin0
  have F1866 := FN.keep K1861 nin0
  have F1867 := AD.keep K1861 nin0
  have F1868 := E0.keep K1861
  have F1869 := F0.keep K1861 nin0
  have F1870 := F1.keep K1861 nin0
  show Goes p.tables e below _ (T1857.setTop (mkF m 8 #[.val (.ref a), .val (.ref b), .val .null, .unset, .unset] [(.ref d)]))
  refine X1860.astoreN #[.val (.ref a), .val (.ref b), .val .null, .val (.ref d), .unset] (D d28_8) rfl rfl ?_
  refine X1860.aloadN (x := (.ref b)) (D d28_9) rfl rfl ?_
  refine X1860.callvF (y := (⟨"java/lang/AbstractStringBuilder", "length", "()I"⟩ : MethodName)) (z := (⟨"java/lang/StringBuilder", "length", "()I"⟩ : MethodName)) (a := b) (C := "java/lang/StringBuilder") [] [] (ctSL13 l Z a0 hw hEL z0 S0 hz0 b d _ _ F1863 F1864 F1865 F1866).toF F1863 (w 174 rfl) (w 175 rfl) (w 177 rfl) (w 178 rfl) (nfOf (w 172 rfl) rfl) (w 93 rfl) (w 179 rfl) (by decide) (fun _ q => nomatch q) (by decide) 0 (by decide) (by decide) (by decide) (lenOf pd_7 rfl) rfl (Nat.le_of_ble_eq_true rfl) (by rw [hml]; rfl) (D d28_10) ?_
  rintro T1871 h1872 _ _ X1874 K1875 hg1876 ⟨rfl, rfl⟩
  have F1877 := F1863.keep K1875
  have F1878 := F1864.keep K1875 nin0
  have F1879 := F1865.keep K1875 nin0
  have F1880 := F1866.keep K1875 nin0
  have F1881 := F1867.keep K1875 nin0
  have F1882 := F1868.keep K1875
  have F1883 := F1869.keep K1875 nin0
  have F1884 := F1870.keep K1875 nin0
  show Goes p.tables e below _ (T1871.setTop (mkF m 13 #[.val (.ref a), .val (.ref b), .val .null, .val (.ref d), .unset] [(.int (13 : Int32))]))
  refine X1874.istore #[.val (.ref a), .val (.ref b), .val .null, .val (.ref d), .val (.int (13 : Int32))] (D d28_13) rfl ?_
  refine X1874.aloadN (x := (.ref b)) (D d28_15) rfl rfl ?_
  refine X1874.callvF (y := (⟨"java/lang/AbstractStringBuilder", "isLatin1", "()Z"⟩ : MethodName)) (z := (⟨"java/lang/AbstractStringBuilder", "isLatin1", "()Z"⟩ : MethodName)) (a := b) (C := "java/lang/StringBuilder") [] [] (ctIL l Z a0 hw hEL z0 S0 hz0 b d _ _ F1877 F1878 F1879).toF F1877 (w 182 rfl) (w 183 rfl) (w 185 rfl) (w 184 rfl) (nfOf (w 185 rfl) rfl) (w 101 rfl) (w 186 rfl) (by decide) (fun _ q => nomatch q) (by decide) 0 (by decide) (by decide) (by decide) (lenOf pd_14 rfl) rfl (Nat.le_of_ble_eq_true rfl) (by rw [hml]; rfl) (D d28_16) ?_
  rintro T1885 h1886 _ _ X1888 K1889 hg1890 ⟨rfl, rfl⟩
  have F1891 := F1877.keep K1889
  have F1892 := F1878.keep K1889 nin0
  have F1893 := F1879.keep K1889 nin0
  have F1894 := F1880.keep K1889 nin0
  have F1895 := F1881.keep K1889 nin0
  have F1896 := F1882.keep K1889
  have F1897 := F1883.keep K1889 nin0
  have F1898 := F1884.keep K1889 nin0
  show Goes p.tables e below _ (T1885.setTop (mkF m 19 #[.val (.ref a), .val (.ref b), .val .null, .val (.ref d), .val (.int (13 : Int32))] [(.int (1 : Int32))]))
  refine X1888.if_eq 41 (D d28_19) ⟨by decide, by decide⟩ (fun hc1899 => absurd hc1899 (by decide)) (fun hc1899 => ?_)
  refine X1888.aloadN (x := (.ref a)) (D d28_22) rfl rfl ?_
  refine X1888.iconst (x := (0 : Int32)) (D d28_23) rfl ?_
  refine X1888.putf (w 21 rfl) Via.refl F1898 F1896 (Or.inr ⟨(w 17 rfl), rfl, hnm⟩) (w 2 rfl) (ty := .byte) (by decide) rfl rfl (D d28_24) (by simp) ?_
  intro T1900 h1901 X1902 W1903
  have F1904 := F1898.same W1903
  have F1905 := F1891.wr W1903
  have F1906 := F1892.other W1903 (Or.inl (Exa.ne F1891 F1896 (by decide)))
  have F1907 := F1893.other W1903 (Or.inl (Exa.ne F1891 F1896 (by decide)))
  have F1908 := F1894.other W1903 (Or.inl (Exa.ne F1891 F1896 (by decide)))
  have F1909 := F1895.other W1903 (Exa.neArv F1896 F1895 (w 2 rfl)).symm
  have F1910 := F1896.wr W1903
  have F1911 := F1897.other W1903 (Or.inr (slot_ne (t := (.array .byte)) (t' := .byte) (Or.inr (w 16 rfl)) (Or.inr (w 17 rfl)) (by decide) (by decide) (by decide)))
  show Goes p.tables e below _ (T1900.setTop (mkF m 27 #[.val (.ref a), .val (.ref b), .val .null, .val (.ref d), .val (.int (13 : Int32))] []))
  refine X1902.aloadN (x := (.ref a)) (D d28_27) rfl rfl ?_
  refine X1902.aloadN (x := (.ref d)) (D d28_28) rfl rfl ?_
  refine X1902.iconst (x := (0 : Int32)) (D d28_29) rfl ?_
  refine X1902.iload (x := (13 : Int32)) (D d28_30) rfl ?_
  refine X1902.callsF [(.ref d), (.int (0 : Int32)), (.int (13 : Int32))] [(.ref a)] (ctCR13_16 l Z a0 hw hEL z0 S0 hz0 d kd vd _ _ _ F1909 hxs).toF (w 187 rfl) (w 188 rfl) (w 189 rfl) (w 190 rfl) (by decide) (fun _ q => nomatch q) (by decide) 1 (by decide) (by decide) (by decide) (lenOf pd_12 rfl) rfl (Nat.le_of_ble_eq_true rfl) (by rw [hml]; rfl) (D d28_32) ?_
  rintro T1912 h1913 _ _ X1915 K1916 hg1917 ⟨rfl, r, kr, rfl, A1⟩
  have F1918 := F1905.keep K1916
  have F1919 := F1906.keep K1916 nin0
  have F1920 := F1907.keep K1916 nin0
  have F1921 := F1908.keep K1916 nin0
  have F1922 := F1909.keep K1916 nin0
  have F1923 := F1910.keep K1916
  have F1924 := F1911.keep K1916 nin0
  have F1925 := F1904.keep K1916 nin0
  show Goes p.tables e below _ (T1912.setTop (mkF m 35 #[.val (.ref a), .val (.ref b), .val .null, .val (.ref d), .val (.int (13 : Int32))] [(.ref r), (.ref a)]))
  refine X1915.putf (w 20 rfl) Via.refl F1924 F1923 (Or.inr ⟨(w 16 rfl), rfl, hnm⟩) (w 2 rfl) (ty := (.array .byte)) (by decide) rfl rfl (D d28_35) (by simp) ?_
  intro T1926 h1927 X1928 W1929
  have F1930 := F1924.same W1929
  have F1931 := F1918.wr W1929
  have F1932 := F1919.other W1929 (Or.inl (Exa.ne F1918 F1923 (by decide)))
  have F1933 := F1920.other W1929 (Or.inl (Exa.ne F1918 F1923 (by decide)))
  have F1934 := F1921.other W1929 (Or.inl (Exa.ne F1918 F1923 (by decide)))
  have F1935 := F1922.other W1929 (Exa.neArv F1923 F1922 (w 2 rfl)).symm
  have F1936 := F1923.wr W1929
  have F1937 := F1925.other W1929 (Or.inr (slot_ne (t := .byte) (t' := (.array .byte)) (Or.inr (w 17 rfl)) (Or.inr (w 16 rfl)) (by decide) (by decide) (by decide)))
  have F1938 := A1.other W1929 (Exa.neArv F1923 A1 (w 2 rfl)).symm
  show Goes p.tables e below _ (T1926.setTop (mkF m 38 #[.val (.ref a), .val (.ref b), .val .null, .val (.ref d), .val (.int (13 : Int32))] []))
  refine X1928.goto 97 (D d28_38) ⟨by decide, by decide⟩ ?_
  exact X1928.retn hret hlk (D d28_97) (by decide) (by decide) (⟨rfl, r, OStr.mk F1936 F1930 F1937 (by rw [hds]; exact F1938) hp (by rw [hds]; decide)⟩)
set_option maxRecDepth 65536 in
set_option maxHeartbeats 40000000 in
theorem ctIS13_16 (l : Launch) (Z : State) (a0 : Array Value) (hw : ∀ d ∈ tables_1, d.before a0 Z = true) (hEL : EW Z a0 consts_1) (z0 : Int32) (S0 : Sta Z Z.heap "java/lang/String" "COMPACT_STRINGS" "Z" (.int z0)) (hz0 : ¬ z0 = 0) (a b d : Addr) (kd : ClassId) (vd : List Value) (ds : List Int32) (h0 : Heap) (n0 : Nat) (EB : Exa Z h0 b "java/lang/StringBuilder") (FV : Fld Z h0 b "java/lang/AbstractStringBuilder" "value" "[B" (.ref d)) (FC : Fld Z h0 b "java/lang/AbstractStringBuilder" "coder" "B" (.int (0 : Int32))) (FN : Fld Z h0 b "java/lang/AbstractStringBuilder" "count" "I" (.int (13 : Int32))) (AD : Arv Z h0 d kd .byte (16 : Int32) vd (.int 0)) (hvd : vd.length = 16) (hp : ∀ c ∈ ds, ¬ c < 0 ∧ ¬ (255 : Int32) < c) (hds : ds.length = 13) (hxs : ((ds.map StrChars.lo8).map Value.int) = (List.range 13).map fun i => vd.getD (0 + i) (.int 0)) (E0 : Exa Z h0 a "java/lang/String") (F0 : Fld Z h0 a "java/lang/String" "value" "[B" .null) (F1 : Fld Z h0 a "java/lang/String" "coder" "B" (.int (0 : Int32))) :
    Ct l Z consts_1 [] (⟨"java/lang/String", "<init>", "(Ljava/lang/StringBuilder;)V"⟩ : MethodName) jdk_42_method_53_code 2 none ({ frames := 4, cells := 1, slots := 13, locals := 65 } : Room) #[(.ref a), (.ref b)] h0 n0 [a] (fun v h => v = none ∧ ∃ t : Addr, OStr Z h a t ds) := by
  have w : ∀ {d : Jvm.Cond} (i : Nat), tables_1[i]? = some d → d.before a0 Z = true := fun i q => hw _ (List.mem_of_getElem? q)
  refine Ct.enter (plainFor_of_name pn_1) hEL ?_
  intro p e sS m below meth c T0 hby hml0 hret hlk hnm hs0 X0
  have hml : c.maxLocals = 2 := hml0
  have D : ∀ {pc : Nat} {r : Except DecodeError (Instr × Nat)}, decode jdk_42_method_53_code pc = r → decode c.code pc = r := fun q => hb hby q
  rw [show entryFrame m #[(.ref a), (.ref b)] 2 = mkF m 0 #[.val (.ref a), .val (.ref b)] [] from by first | (simp [entryFrame, mkF, argsToLocals, Value.category]; done) | rfl]
  refine X0.aloadN (x := (.ref a)) (D d27_0) rfl rfl ?_
  refine X0.aloadN (x := (.ref b)) (D d27_1) rfl rfl ?_
  refine X0.anull (D d27_2) ?_
  refine X0.callcF (a := a) [(.ref b), .null] [] (ctIV13_16 l Z a0 hw hEL z0 S0 hz0 a b d kd vd ds _ _ EB FV FC FN AD hvd hp hds hxs E0 F0 F1).toF rfl (w 166 rfl) (w 167 rfl) (w 3 rfl) (w 168 rfl) (by decide) (by simp) (by decide) 0 (by decide) (by decide) (by decide) (lenOf pd_15 rfl) rfl (Nat.le_of_ble_eq_true rfl) (by rw [hml]; rfl) (D d27_3) ?_
  rintro T1939 h1940 _ _ X1942 K1943 hg1944 ⟨rfl, rfl, t, O⟩
  have F1945 := EB.keep K1943
  have F1946 := FV.keep K1943 (ninS (Exa.ne EB E0 (by decide)) nin0)
  have F1947 := FC.keep K1943 (ninS (Exa.ne EB E0 (by decide)) nin0)
  have F1948 := FN.keep K1943 (ninS (Exa.ne EB E0 (by decide)) nin0)
  have F1949 := AD.keep K1943 (ninS (Exa.neArv E0 AD (w 2 rfl)).symm nin0)
  have F1950 := E0.keep K1943
  show Goes p.tables e below _ (T1939.setTop (mkF m 6 #[.val (.ref a), .val (.ref b)] []))
  exact X1942.retn hret hlk (D d27_6) (by decide) (by decide) (⟨rfl, t, O⟩)
set_option maxRecDepth 65536 in
set_option maxHeartbeats 40000000 in
theorem ctTS13_16 (l : Launch) (Z : State) (a0 : Array Value) (hw : ∀ d ∈ tables_1, d.before a0 Z = true) (hEL : EW Z a0 consts_1) (z0 : Int32) (S0 : Sta Z Z.heap "java/lang/String" "COMPACT_STRINGS" "Z" (.int z0)) (hz0 : ¬ z0 = 0) (b d : Addr) (kd : ClassId) (vd : List Value) (ds : List Int32) (h0 : Heap) (n0 : Nat) (EB : Exa Z h0 b "java/lang/StringBuilder") (FV : Fld Z h0 b "java/lang/AbstractStringBuilder" "value" "[B" (.ref d)) (FC : Fld Z h0 b "java/lang/AbstractStringBuilder" "coder" "B" (.int (0 : Int32))) (FN : Fld Z h0 b "java/lang/AbstractStringBuilder" "count" "I" (.int (13 : Int32))) (AD : Arv Z h0 d kd .byte (16 : Int32) vd (.int 0)) (hvd : vd.length = 16) (hp : ∀ c ∈ ds, ¬ c < 0 ∧ ¬ (255 : Int32) < c) (hds : ds.length = 13) (hxs : ((ds.map StrChars.lo8).map Value.int) = (List.range 13).map fun i => vd.getD (0 + i) (.int 0)) :
    Ct l Z consts_1 [] (⟨"java/lang/StringBuilder", "toString", "()Ljava/lang/String;"⟩ : MethodName) jdk_67_method_42_code 1 (some (.object "java/lang/String")) ({ frames := 5, cells := 2, slots := 17, locals := 79 } : Room) #[(.ref b)] h0 n0 [] (fun v h => ∃ s t : Addr, v = some (.ref s) ∧ OStr Z h s t ds) := by
  have w : ∀ {d : Jvm.Cond} (i : Nat), tables_1[i]? = some d → d.before a0 Z = true := fun i q => hw _ (List.mem_of_getElem? q)
  refine Ct.enter (plainFor_of_name pn_3) hEL ?_
  intro p e sS m below meth c T0 hby hml0 hret hlk hnm hs0 X0
  have hml : c.maxLocals = 1 := hml0
  have D : ∀ {pc : Nat} {r : Except DecodeError (Instr × Nat)}, decode jdk_67_method_42_code pc = r → decode c.code pc = r := fun q => hb hby q
  rw [show entryFrame m #[(.ref b)] 1 = mkF m 0 #[.val (.ref b)] [] from by first | (simp [entryFrame, mkF, argsToLocals, Value.category]; done) | rfl]
  refine X0.new (w 162 rfl) (w 2 rfl) (w 3 rfl) (D d26_0) (by decide) (by decide) ?_
  intro T1951 h1952 b1953 g1954 X1955 E1956 A1957 D1958 U1959
  have F1960 := EB.ext E1956
  have F1961 := FV.ext E1956
  have F1962 := FC.ext E1956
  have F1963 := FN.ext E1956
  have F1964 := AD.ext E1956
  have lt1965 : b < b1953 := by rw [g1954]; exact EB.lt
  have lt1966 : d < b1953 := by rw [g1954]; exact AD.lt
  have F1967 : Fld Z h1952 b1953 "java/lang/String" "value" "[B" .null := D1958 (Or.inr (w 16 rfl)) (ty := (.array .byte)) (by decide)
  have F1968 : Fld Z h1952 b1953 "java/lang/String" "coder" "B" (.int (0 : Int32)) := D1958 (Or.inr (w 17 rfl)) (ty := .byte) (by decide)
  show Goes p.tables e below _ (T1951.setTop (mkF m 3 #[.val (.ref b)] [(.ref b1953)]))
  refine X1955.dup (D d26_3) rfl ?_
  refine X1955.aloadN (x := (.ref b)) (D d26_4) rfl rfl ?_
  refine X1955.callcF (a := b1953) [(.ref b)] [(.ref b1953)] (ctIS13_16 l Z a0 hw hEL z0 S0 hz0 b1953 b d kd vd ds _ _ F1960 F1961 F1962 F1963 F1964 hvd hp hds hxs A1957 F1967 F1968).toF rfl (w 163 rfl) (w 164 rfl) (w 3 rfl) (w 165 rfl) (by decide) (by simp) (by decide) 1 (by decide) (by decide) (by decide) (lenOf pd_16 rfl) rfl (Nat.le_of_ble_eq_true rfl) (by rw [hml]; rfl) (D d26_5) ?_
  rintro T1969 h1970 _ _ X1972 K1973 hg1974 ⟨rfl, rfl, t, O⟩
  have F1975 := F1960.keep K1973
  have F1976 := F1961.keep K1973 (ninS (Nat.ne_of_lt lt1965) nin0)
  have F1977 := F1962.keep K1973 (ninS (Nat.ne_of_lt lt1965) nin0)
  have F1978 := F1963.keep K1973 (ninS (Nat.ne_of_lt lt1965) nin0)
  have F1979 := F1964.keep K1973 (ninS (Nat.ne_of_lt lt1966) nin0)
  have F1980 := A1957.keep K1973
  show Goes p.tables e below _ (T1969.setTop (mkF m 8 #[.val (.ref b)] [(.ref b1953)]))
  exact X1972.retA hret rfl rfl hlk (D d26_8) (by decide) (by decide) (⟨_, t, rfl, O⟩)
set_option maxRecDepth 65536 in
set_option maxHeartbeats 40000000 in
theorem ctEx3 (l : Launch) (Z : State) (a0 : Array Value) (hw : ∀ d ∈ tables_1, d.before a0 Z = true) (hEL : EW Z a0 consts_1) (z0 : Int32) (S0 : Sta Z Z.heap "java/lang/String" "COMPACT_STRINGS" "Z" (.int z0)) (hz0 : ¬ z0 = 0) (a r tr : Addr) (c0 c1 c2 : Int32) (h0 : Heap) (n0 : Nat) (EA : Exa Z h0 a "com/example/greylag/greylag/Decision") (F0 : Fld Z h0 a "com/example/greylag/greylag/Decision" "role" "Ljava/lang/String;" (.ref r)) (F3 : Fld Z h0 a "com/example/greylag/greylag/Decision" "bypass" "Z" (.int (1 : Int32))) (OR : OStr Z h0 r tr [c0, c1, c2]) :
    Ct l Z consts_1 [] (⟨"com/example/greylag/greylag/Decision", "explanation", "()Ljava/lang/String;"⟩ : MethodName) prog_6_method_6_code 2 (some (.object "java/lang/String")) ({ frames := 6, cells := 6, slots := 81, locals := 91 } : Room) #[(.ref a)] h0 n0 [] (fun v h => ∃ s t : Addr, v = some (.ref s) ∧ OStr Z h s t ([(98 : Int32), (121 : Int32), (32 : Int32), (98 : Int32), (121 : Int32), (112 : Int32), (97 : Int32), (115 : Int32), (115 : Int32), (32 : Int32)] ++ [c0, c1, c2])) := by
  have w : ∀ {d : Jvm.Cond} (i : Nat), tables_1[i]? = some d → d.before a0 Z = true := fun i q => hw _ (List.mem_of_getElem? q)
  refine Ct.enter (plainFor_of_name pn_4) hEL ?_
  intro p e sS m below meth c T0 hby hml0 hret hlk hnm hs0 X0
  have hml : c.maxLocals = 2 := hml0
  have D : ∀ {pc : Nat} {r : Except DecodeError (Instr × Nat)}, decode prog_6_method_6_code pc = r → decode c.code pc = r := fun q => hb hby q
  rw [show entryFrame m #[(.ref a)] 2 = mkF m 0 #[.val (.ref a), .unset] [] from by first | (simp [entryFrame, mkF, argsToLocals, Value.category]; done) | rfl]
  refine X0.aloadN (x := (.ref a)) (D d15_0) rfl rfl ?_
  refine X0.getf (w 54 rfl) Via.refl F3 (D d15_1) ?_
  intro T1981 X1982
  show Goes p.tables e below _ (T1981.setTop (mkF m 4 #[.val (.ref a), .unset] [(.int (1 : Int32))]))
  refine X1982.if_eq 33 (D d15_4) ⟨by decide, by decide⟩ (fun hc1983 => absurd hc1983 (by decide)) (fun hc1983 => ?_)
  refine X1982.new (w 91 rfl) (w 92 rfl) (w 93 rfl) (D d15_7) (by decide) (by decide) ?_
  intro T1984 h1985 b1986 g1987 X1988 E1989 A1990 D1991 U1992
  have F1993 := EA.ext E1989
  have F1994 := F0.ext E1989
  have F1995 := F3.ext E1989
  have F1996 := OR.ext E1989
  have lt1997 : a < b1986 := by rw [g1987]; exact EA.lt
  have lt1998 : r < b1986 := by rw [g1987]; exact OR.lt
  have lt1999 : tr < b1986 := by rw [g1987]; exact OR.ltb
  have F2000 : Fld Z h1985 b1986 "java/lang/AbstractStringBuilder" "value" "[B" .null := D1991 (Or.inl (w 106 rfl)) (ty := (.array .byte)) (by decide)
  have F2001 : Fld Z h1985 b1986 "java/lang/AbstractStringBuilder" "coder" "B" (.int (0 : Int32)) := D1991 (Or.inl (w 108 rfl)) (ty := .byte) (by decide)
  have F2002 : Fld Z h1985 b1986 "java/lang/AbstractStringBuilder" "count" "I" (.int (0 : Int32)) := D1991 (Or.inl (w 131 rfl)) (ty := .int) (by decide)
  show Goes p.tables e below _ (T1984.setTop (mkF m 10 #[.val (.ref a), .unset] [(.ref b1986)]))
  refine X1988.dup (D d15_10) rfl ?_
  refine X1988.callcF (a := b1986) [] [(.ref b1986)] (ctSBi l Z a0 hw hEL z0 S0 hz0 b1986 _ _ A1990 F2000 F2001 F2002) rfl (w 94 rfl) (w 95 rfl) (w 93 rfl) (w 96 rfl) (by decide) (by simp) (by decide) 1 (by decide) (by decide) (by decide) (lenOf pd_3 rfl) rfl (Nat.le_of_ble_eq_true rfl) (by rw [hml]; rfl) (D d15_11) ?_
  rintro T2003 h2004 _ _ X2006 K2007 hg2008 ⟨d, kd, rfl, rfl, E1, V1, C1, N1, A1⟩
  have F2009 := F1993.keep K2007
  have F2010 := F1994.keep K2007 (ninS (Nat.ne_of_lt lt1997) nin0)
  have F2011 := F1995.keep K2007 (ninS (Nat.ne_of_lt lt1997) nin0)
  have F2012 := F1996.keep K2007 (ninS (Nat.ne_of_lt lt1998) nin0) (ninS (Nat.ne_of_lt lt1999) nin0)
  have F2013 := A1990.keep K2007
  have fg2014 := hg2008 d (by simp)
  have lt2015 : a < d := Nat.lt_of_lt_of_le F1993.lt fg2014
  have lt2016 : r < d := Nat.lt_of_lt_of_le F1996.lt fg2014
  have lt2017 : tr < d := Nat.lt_of_lt_of_le F1996.ltb fg2014
  have lt2018 : b1986 < d := Nat.lt_of_lt_of_le A1990.lt fg2014
  show Goes p.tables e below _ (T2003.setTop (mkF m 14 #[.val (.ref a), .unset] [(.ref b1986)]))
  refine X2006.ldcS (w 109 rfl) (fun d q => hw d (hwS d q)) (by decide) (vs := [(.int (98 : Int32)), (.int (121 : Int32)), (.int (32 : Int32)), (.int (98 : Int32)), (.int (121 : Int32)), (.int (112 : Int32)), (.int (97 : Int32)), (.int (115 : Int32)), (.int (115 : Int32)), (.int (32 : Int32))]) (z := (10 : Int32)) ⟨by decide, by decide⟩ (by decide) rfl (D d15_14) 40 (by decide) (by decide) (by decide) (by decide) ?_
  intro T2019 h2020 a2021 b2022 kb2023 X2024 E2025 F2026 F2027 F2028 F2029 ne2030
  have F2031 := F2009.ext E2025
  have F2032 := F2010.ext E2025
  have F2033 := F2011.ext E2025
  have F2034 := F2012.ext E2025
  have F2035 := E1.ext E2025
  have F2036 := V1.ext E2025
  have F2037 := C1.ext E2025
  have F2038 := N1.ext E2025
  have F2039 := A1.ext E2025
  show Goes p.tables e below _ (T2019.setTop (mkF m 16 #[.val (.ref a), .unset] [(.ref a2021), (.ref b1986)]))
  have O2040 : OStr Z h2020 a2021 b2022 [(98 : Int32), (121 : Int32), (32 : Int32), (98 : Int32), (121 : Int32), (112 : Int32), (97 : Int32), (115 : Int32), (115 : Int32), (32 : Int32)] := OStr.mk F2026 F2028 F2027 F2029 (by decide) (by decide)
  refine X2024.callvF (y := (⟨"java/lang/StringBuilder", "append", "(Ljava/lang/String;)Ljava/lang/StringBuilder;"⟩ : MethodName)) (z := (⟨"java/lang/StringBuilder", "append", "(Ljava/lang/String;)Ljava/lang/StringBuilder;"⟩ : MethodName)) (a := b1986) (C := "java/lang/StringBuilder") [(.ref a2021)] [] (ctSBa0_10_16 l Z a0 hw hEL z0 S0 hz0 b1986 d a2021 b2022 kd [(98 : Int32), (121 : Int32), (32 : Int32), (98 : Int32), (121 : Int32), (112 : Int32), (97 : Int32), (115 : Int32), (115 : Int32), (32 : Int32)] ([(.int (0 : Int32)), (.int (0 : Int32)), (.int (0 : Int32)), (.int (0 : Int32)), (.int (0 : Int32)), (.int (0 : Int32)), (.int (0 : Int32)), (.int (0 : Int32)), (.int (0 : Int32)), (.int (0 : Int32)), (.int (0 : Int32)), (.int (0 : Int32)), (.int (0 : Int32)), (.int (0 : Int32)), (.int (0 : Int32)), (.int (0 : Int32))] : List Value) _ _ F2035 F2036 F2037 F2038 F2039 rfl O2040 rfl (ne2030 d (by simp)).2.symm).toF F2035 (w 110 rfl) (w 111 rfl) (w 113 rfl) (w 112 rfl) (nfOf (w 113 rfl) rfl) (w 93 rfl) (w 114 rfl) (by decide) (by simp) (by decide) 0 (by decide) (by decide) (by decide) (lenOf pd_17 rfl) rfl (Nat.le_of_ble_eq_true rfl) (by rw [hml]; rfl) (D d15_16) ?_
  rintro T2041 h2042 _ _ X2044 K2045 hg2046 ⟨rfl, rfl, E2, V2, C2, N2, A2⟩
  have F2047 := F2031.keep K2045
  have F2048 := F2032.keep K2045 (ninS (Nat.ne_of_lt lt1997) (ninS (Nat.ne_of_lt lt2015) nin0))
  have F2049 := F2033.keep K2045 (ninS (Nat.ne_of_lt lt1997) (ninS (Nat.ne_of_lt lt2015) nin0))
  have F2050 := F2034.keep K2045 (ninS (Nat.ne_of_lt lt1998) (ninS (Nat.ne_of_lt lt2016) nin0)) (ninS (Nat.ne_of_lt lt1999) (ninS (Nat.ne_of_lt lt2017) nin0))
  have F2051 := F2035.keep K2045
  have F2052 := O2040.keep K2045 (ninS (ne2030 b1986 (by simp)).1.symm (ninS (ne2030 d (by simp)).1.symm nin0)) (ninS (ne2030 b1986 (by simp)).2.symm (ninS (ne2030 d (by simp)).2.symm nin0))
  show Goes p.tables e below _ (T2041.setTop (mkF m 19 #[.val (.ref a), .unset] [(.ref b1986)]))
  refine X2044.aloadN (x := (.ref a)) (D d15_19) rfl rfl ?_
  refine X2044.getf (w 48 rfl) Via.refl F2048 (D d15_20) ?_
  intro T2053 X2054
  show Goes p.tables e below _ (T2053.setTop (mkF m 23 #[.val (.ref a), .unset] [(.ref r), (.ref b1986)]))
  refine X2054.callvF (y := (⟨"java/lang/StringBuilder", "append", "(Ljava/lang/String;)Ljava/lang/StringBuilder;"⟩ : MethodName)) (z := (⟨"java/lang/StringBuilder", "append", "(Ljava/lang/String;)Ljava/lang/StringBuilder;"⟩ : MethodName)) (a := b1986) (C := "java/lang/StringBuilder") [(.ref r)] [] (ctSBa10_3_16 l Z a0 hw hEL z0 S0 hz0 b1986 d r tr kd [c0, c1, c2] (([(.int (0 : Int32)), (.int (0 : Int32)), (.int (0 : Int32)), (.int (0 : Int32)), (.int (0 : Int32)), (.int (0 : Int32)), (.int (0 : Int32)), (.int (0 : Int32)), (.int (0 : Int32)), (.int (0 : Int32)), (.int (0 : Int32)), (.int (0 : Int32)), (.int (0 : Int32)), (.int (0 : Int32)), (.int (0 : Int32)), (.int (0 : Int32))] : List Value).take 0 ++ (([(98 : Int32), (121 : Int32), (32 : Int32), (98 : Int32), (121 : Int32), (112 : Int32), (97 : Int32), (115 : Int32), (115 : Int32), (32 : Int32)].map StrChars.lo8).map Value.int) ++ ([(.int (0 : Int32)), (.int (0 : Int32)), (.int (0 : Int32)), (.int (0 : Int32)), (.int (0 : Int32)), (.int (0 : Int32)), (.int (0 : Int32)), (.int (0 : Int32)), (.int (0 : Int32)), (.int (0 : Int32)), (.int (0 : Int32)), (.int (0 : Int32)), (.int (0 : Int32)), (.int (0 : Int32)), (.int (0 : Int32)), (.int (0 : Int32))] : List Value).drop (0 + 10)) _ _ E2 V2 C2 N2 A2 rfl F2050 rfl (Nat.ne_of_lt lt2017)).toF E2 (w 110 rfl) (w 111 rfl) (w 113 rfl) (w 112 rfl) (nfOf (w 113 rfl) rfl) (w 93 rfl) (w 114 rfl) (by decide) (by simp) (by decide) 0 (by decide) (by decide) (by decide) (lenOf pd_17 rfl) rfl (Nat.le_of_ble_eq_true rfl) (by rw [hml]; rfl) (D d15_23) ?_
  rintro T2055 h2056 _ _ X2058 K2059 hg2060 ⟨rfl, rfl, E3, V3, C3, N3, A3⟩
  have F2061 := F2047.keep K2059
  have F2062 := F2048.keep K2059 (ninS (Nat.ne_of_lt lt1997) (ninS (Nat.ne_of_lt lt2015) nin0))
  have F2063 := F2049.keep K2059 (ninS (Nat.ne_of_lt lt1997) (ninS (Nat.ne_of_lt lt2015) nin0))
  have F2064 := F2050.keep K2059 (ninS (Nat.ne_of_lt lt1998) (ninS (Nat.ne_of_lt lt2016) nin0)) (ninS (Nat.ne_of_lt lt1999) (ninS (Nat.ne_of_lt lt2017) nin0))
  have F2065 := E2.keep K2059
  have F2066 := F2052.keep K2059 (ninS (ne2030 b1986 (by simp)).1.symm (ninS (ne2030 d (by simp)).1.symm nin0)) (ninS (ne2030 b1986 (by simp)).2.symm (ninS (ne2030 d (by simp)).2.symm nin0))
  show Goes p.tables e below _ (T2055.setTop (mkF m 26 #[.val (.ref a), .unset] [(.ref b1986)]))
  have hpr : ∀ c ∈ [(98 : Int32), (121 : Int32), (32 : Int32), (98 : Int32), (121 : Int32), (112 : Int32), (97 : Int32), (115 : Int32), (115 : Int32), (32 : Int32)] ++ [c0, c1, c2], ¬ c < 0 ∧ ¬ (255 : Int32) < c := fun c q => by
    rcases List.mem_append.mp q with q | q
    · exact (by decide : ∀ c ∈ ([(98 : Int32), (121 : Int32), (32 : Int32), (98 : Int32), (121 : Int32), (112 : Int32), (97 : Int32), (115 : Int32), (115 : Int32), (32 : Int32)] : List Int32), ¬ c < 0 ∧ ¬ (255 : Int32) < c) c q
    · exact OR.2.1 c q
  refine X2058.callvF (y := (⟨"java/lang/StringBuilder", "toString", "()Ljava/lang/String;"⟩ : MethodName)) (z := (⟨"java/lang/StringBuilder", "toString", "()Ljava/lang/String;"⟩ : MethodName)) (a := b1986) (C := "java/lang/StringBuilder") [] [] (ctTS13_16 l Z a0 hw hEL z0 S0 hz0 b1986 d kd ((([(.int (0 : Int32)), (.int (0 : Int32)), (.int (0 : Int32)), (.int (0 : Int32)), (.int (0 : Int32)), (.int (0 : Int32)), (.int (0 : Int32)), (.int (0 : Int32)), (.int (0 : Int32)), (.int (0 : Int32)), (.int (0 : Int32)), (.int (0 : Int32)), (.int (0 : Int32)), (.int (0 : Int32)), (.int (0 : Int32)), (.int (0 : Int32))] : List Value).take 0 ++ (([(98 : Int32), (121 : Int32), (32 : Int32), (98 : Int32), (121 : Int32), (112 : Int32), (97 : Int32), (115 : Int32), (115 : Int32), (32 : Int32)].map StrChars.lo8).map Value.int) ++ ([(.int (0 : Int32)), (.int (0 : Int32)), (.int (0 : Int32)), (.int (0 : Int32)), (.int (0 : Int32)), (.int (0 : Int32)), (.int (0 : Int32)), (.int (0 : Int32)), (.int (0 : Int32)), (.int (0 : Int32)), (.int (0 : Int32)), (.int (0 : Int32)), (.int (0 : Int32)), (.int (0 : Int32)), (.int (0 : Int32)), (.int (0 : Int32))] : List Value).drop (0 + 10)).take 10 ++ (([c0, c1, c2].map StrChars.lo8).map Value.int) ++ (([(.int (0 : Int32)), (.int (0 : Int32)), (.int (0 : Int32)), (.int (0 : Int32)), (.int (0 : Int32)), (.int (0 : Int32)), (.int (0 : Int32)), (.int (0 : Int32)), (.int (0 : Int32)), (.int (0 : Int32)), (.int (0 : Int32)), (.int (0 : Int32)), (.int (0 : Int32)), (.int (0 : Int32)), (.int (0 : Int32)), (.int (0 : Int32))] : List Value).take 0 ++ (([(98 : Int32), (121 : Int32), (32 : Int32), (98 : Int32), (121 : Int32), (112 : Int32), (97 : Int32), (115 : Int32), (115 : Int32), (32 : Int32)].map StrChars.lo8).map Value.int) ++ ([(.int (0 : Int32)), (.int (0 : Int32)), (.int (0 : Int32)), (.int (0 : Int32)), (.int (0 : Int32)), (.int (0 : Int32)), (.int (0 : Int32)), (.int (0 : Int32)), (.int (0 : Int32)), (.int (0 : Int32)), (.int (0 : Int32)), (.int (0 : Int32)), (.int (0 : Int32)), (.int (0 : Int32)), (.int (0 : Int32)), (.int (0 : Int32))] : List Value).drop (0 + 10)).drop (10 + 3)) ([(98 : Int32), (121 : Int32), (32 : Int32), (98 : Int32), (121 : Int32), (112 : Int32), (97 : Int32), (115 : Int32), (115 : Int32), (32 : Int32)] ++ [c0, c1, c2]) _ _ E3 V3 C3 N3 A3 rfl hpr rfl rfl).toF E3 (w 157 rfl) (w 158 rfl) (w 160 rfl) (w 159 rfl) (nfOf (w 160 rfl) rfl) (w 93 rfl) (w 161 rfl) (by decide) (fun _ q => nomatch q) (by decide) 0 (by decide) (by decide) (by decide) (lenOf pd_18 rfl) rfl (Nat.le_of_ble_eq_true rfl) (by rw [hml]; rfl) (D d15_26) ?_
  rintro T2067 h2068 _ _ X2070 K2071 hg2072 ⟨rfl, s9, t9, rfl, O9⟩
  have F2073 := F2061.keep K2071
  have F2074 := F2062.keep K2071 nin0
  have F2075 := F2063.keep K2071 nin0
  have F2076 := F2064.keep K2071 nin0 nin0
  have F2077 := E3.keep K2071
  have F2078 := F2066.keep K2071 nin0 nin0
  have F2079 := V3.keep K2071 nin0
  have F2080 := C3.keep K2071 nin0
  have F2081 := N3.keep K2071 nin0
  have F2082 := A3.keep K2071 nin0
  show Goes p.tables e below _ (T2067.setTop (mkF m 29 #[.val (.ref a), .unset] [(.ref s9)]))
  refine X2070.astoreN #[.val (.ref a), .val (.ref s9)] (D d15_29) rfl rfl ?_
  refine X2070.goto 81 (D d15_30) ⟨by decide, by decide⟩ ?_
  refine X2070.aloadN (x := (.ref s9)) (D d15_81) rfl rfl ?_
  exact X2070.retA hret rfl rfl hlk (D d15_82) (by decide) (by decide) (⟨s9, t9, rfl, O9⟩)
theorem pn_6 : plainName "com/example/greylag/greylag/DecisionBypassedByPinLaw" = true := by first | (simp [plainName, overriddenIn]; done) | decide +kernel
theorem pd_19 : parseMethodDescriptor "([C)V" = some ⟨[(.array .char)], none⟩ := by decide +kernel
theorem pd_20 : parseMethodDescriptor "(Ljava/lang/String;)Lcom/example/greylag/greylag/Decision;" = some ⟨[(.object "java/lang/String")], (some (.object "com/example/greylag/greylag/Decision"))⟩ := by decide +kernel
theorem pd_21 : parseMethodDescriptor "()Lcom/example/greylag/greylag/Permission;" = some ⟨[], (some (.object "com/example/greylag/greylag/Permission"))⟩ := by decide +kernel
set_option maxRecDepth 65536 in
set_option maxHeartbeats 40000000 in
theorem ctLaw (l : Launch) (Z : State) (a0 : Array Value) (hw : ∀ d ∈ tables_1, d.before a0 Z = true) (hEL : EW Z a0 consts_1) (z0 : Int32) (S0 : Sta Z Z.heap "java/lang/String" "COMPACT_STRINGS" "Z" (.int z0)) (hz0 : ¬ z0 = 0) (p0 p1 p2 p3 : Int32) (h0 : Heap) (n0 : Nat)  :
    Ct l Z consts_1 tables_1 x code maxLocals ret room_1 #[(.int p0), (.int p1), (.int p2), (.int p3)] h0 n0 [] (fun v _ => v = some (.int 1)) := by
  have w : ∀ {d : Jvm.Cond} (i : Nat), tables_1[i]? = some d → d.before a0 Z = true := fun i q => hw _ (List.mem_of_getElem? q)
  refine Ct.enter (plainFor_of_name pn_6) hEL ?_
  intro p e sS m below meth c T0 hby hml0 hret hlk hnm hs0 X0
  have hml : c.maxLocals = 13 := hml0
  have D : ∀ {pc : Nat} {r : Except DecodeError (Instr × Nat)}, decode code pc = r → decode c.code pc = r := fun q => hb hby q
  rw [show entryFrame m #[(.int p0), (.int p1), (.int p2), (.int p3)] maxLocals = mkF m 0 #[.val (.int p0), .val (.int p1), .val (.int p2), .val (.int p3), .unset, .unset, .unset, .unset, .unset, .unset, .unset, .unset, .unset] [] from by first | (simp [entryFrame, mkF, argsToLocals, Value.category, maxLocals]; done) | rfl]
  refine X0.iloadN (x := p0) (D at_0) rfl ?_
  refine X0.iconst (x := (3 : Int32)) (D at_1) rfl ?_
  refine X0.iand (D at_2) ?_
  refine X0.istore #[.val (.int p0), .val (.int p1), .val (.int p2), .val (.int p3), .val (.int (p0 &&& (3 : Int32))), .unset, .unset, .unset, .unset, .unset, .unset, .unset, .unset] (D at_3) rfl ?_
  refine X0.iloadN (x := p1) (D at_5) rfl ?_
  refine X0.sipush (x := (255 : Int32)) (D at_6) rfl ?_
  refine X0.iand (D at_9) ?_
  refine X0.i2c (D at_10) ?_
  refine X0.istore #[.val (.int p0), .val (.int p1), .val (.int p2), .val (.int p3), .val (.int (p0 &&& (3 : Int32))), .val (.int (c8 p1)), .unset, .unset, .unset, .unset, .unset, .unset, .unset] (D at_11) rfl ?_
  refine X0.iloadN (x := p2) (D at_13) rfl ?_
  refine X0.sipush (x := (255 : Int32)) (D at_14) rfl ?_
  refine X0.iand (D at_17) ?_
  show Goes p.tables e below _ (T0.setTop (mkF m 18 #[.val (.int p0), .val (.int p1), .val (.int p2), .val (.int p3), .val (.int (p0 &&& (3 : Int32))), .val (.int (c8 p1)), .unset, .unset, .unset, .unset, .unset, .unset, .unset] [(.int (p2 &&& (255 : Int32)))]))
  refine X0.i2c (D at_18) ?_
  refine X0.istore #[.val (.int p0), .val (.int p1), .val (.int p2), .val (.int p3), .val (.int (p0 &&& (3 : Int32))), .val (.int (c8 p1)), .val (.int (c8 p2)), .unset, .unset, .unset, .unset, .unset, .unset] (D at_19) rfl ?_
  refine X0.iloadN (x := p3) (D at_21) rfl ?_
  refine X0.sipush (x := (255 : Int32)) (D at_22) rfl ?_
  refine X0.iand (D at_25) ?_
  refine X0.i2c (D at_26) ?_
  refine X0.istore #[.val (.int p0), .val (.int p1), .val (.int p2), .val (.int p3), .val (.int (p0 &&& (3 : Int32))), .val (.int (c8 p1)), .val (.int (c8 p2)), .val (.int (c8 p3)), .unset, .unset, .unset, .unset, .unset] (D at_27) rfl ?_
  refine X0.iload (x := (p0 &&& (3 : Int32))) (D at_29) rfl ?_
  refine X0.if_ne 102 (D at_31) ⟨by decide, by decide⟩ (fun hc2083 => ?_) (fun hc2083 => ?_)
  · show Goes p.tables e below _ (T0.setTop (mkF m 102 #[.val (.int p0), .val (.int p1), .val (.int p2), .val (.int p3), .val (.int (p0 &&& (3 : Int32))), .val (.int (c8 p1)), .val (.int (c8 p2)), .val (.int (c8 p3)), .unset, .unset, .unset, .unset, .unset] []))
    refine X0.iload (x := (p0 &&& (3 : Int32))) (D at_102) rfl ?_
    refine X0.iconst (x := (1 : Int32)) (D at_104) rfl ?_
    refine X0.icmp_ne 187 (D at_105) ⟨by decide, by decide⟩ (fun hc2189 => ?_) (fun hc2189 => ?_)
    · show Goes p.tables e below _ (T0.setTop (mkF m 187 #[.val (.int p0), .val (.int p1), .val (.int p2), .val (.int p3), .val (.int (p0 &&& (3 : Int32))), .val (.int (c8 p1)), .val (.int (c8 p2)), .val (.int (c8 p3)), .unset, .unset, .unset, .unset, .unset] []))
      refine X0.iload (x := (p0 &&& (3 : Int32))) (D at_187) rfl ?_
      refine X0.iconst (x := (2 : Int32)) (D at_189) rfl ?_
      refine X0.icmp_ne 283 (D at_190) ⟨by decide, by decide⟩ (fun hc2308 => ?_) (fun hc2308 => ?_)
      · show Goes p.tables e below _ (T0.setTop (mkF m 283 #[.val (.int p0), .val (.int p1), .val (.int p2), .val (.int p3), .val (.int (p0 &&& (3 : Int32))), .val (.int (c8 p1)), .val (.int (c8 p2)), .val (.int (c8 p3)), .unset, .unset, .unset, .unset, .unset] []))
        refine X0.iconst (x := (3 : Int32)) (D at_283) rfl ?_
        refine X0.newarr (w 0 rfl) (n := (3 : Int32)) (D at_284) (by decide) 3 (by decide) (by decide) (by decide) (by decide) ?_
        intro T2440 h2441 b2442 kb2443 g2444 X2445 E2446 A2447
        have F2448 : Arv Z h2441 b2442 kb2443 .char (3 : Int32) [(.int (0 : Int32)), (.int (0 : Int32)), (.int (0 : Int32))] (.int (0 : Int32)) := A2447.pad (pad_rep [] (.int (0 : Int32)) 3)
        show Goes p.tables e below _ (T2440.setTop (mkF m 286 #[.val (.int p0), .val (.int p1), .val (.int p2), .val (.int p3), .val (.int (p0 &&& (3 : Int32))), .val (.int (c8 p1)), .val (.int (c8 p2)), .val (.int (c8 p3)), .unset, .unset, .unset, .unset, .unset] [(.ref b2442)]))
        refine X2445.dup (D at_286) rfl ?_
        refine X2445.iconst (x := (0 : Int32)) (D at_287) rfl ?_
        refine X2445.iload (x := (c8 p1)) (D at_288) rfl ?_
        show Goes p.tables e below _ (T2440.setTop (mkF m 290 #[.val (.int p0), .val (.int p1), .val (.int p2), .val (.int p3), .val (.int (p0 &&& (3 : Int32))), .val (.int (c8 p1)), .val (.int (c8 p2)), .val (.int (c8 p3)), .unset, .unset, .unset, .unset, .unset] [(.int (c8 p1)), (.int (0 : Int32)), (.ref b2442), (.ref b2442)]))
        refine X2445.castore F2448 ⟨by decide, by decide⟩ 0 rfl (Nat.le_of_ble_eq_true rfl) (by simp) (D at_290) ?_
        intro T2449 h2450 X2451 W2452 A2453
        have F2454 : Arv Z h2450 b2442 kb2443 .char (3 : Int32) [(.int (c8 p1)), (.int (0 : Int32)), (.int (0 : Int32))] (.int (0 : Int32)) := by rw [nar_c8 p1] at A2453; exact A2453
        show Goes p.tables e below _ (T2449.setTop (mkF m 291 #[.val (.int p0), .val (.int p1), .val (.int p2), .val (.int p3), .val (.int (p0 &&& (3 : Int32))), .val (.int (c8 p1)), .val (.int (c8 p2)), .val (.int (c8 p3)), .unset, .unset, .unset, .unset, .unset] [(.ref b2442)]))
        refine X2451.dup (D at_291) rfl ?_
        refine X2451.iconst (x := (1 : Int32)) (D at_292) rfl ?_
        refine X2451.iload (x := (c8 p2)) (D at_293) rfl ?_
        show Goes p.tables e below _ (T2449.setTop (mkF m 295 #[.val (.int p0), .val (.int p1), .val (.int p2), .val (.int p3), .val (.int (p0 &&& (3 : Int32))), .val (.int (c8 p1)), .val (.int (c8 p2)), .val (.int (c8 p3)), .unset, .unset, .unset, .unset, .unset] [(.int (c8 p2)), (.int (1 : Int32)), (.ref b2442), (.ref b2442)]))
        refine X2451.castore F2454 ⟨by decide, by decide⟩ 1 rfl (Nat.le_of_ble_eq_true rfl) (by simp) (D at_295) ?_
        intro T2455 h2456 X2457 W2458 A2459
        have F2460 : Arv Z h2456 b2442 kb2443 .char (3 : Int32) [(.int (c8 p1)), (.int (c8 p2)), (.int (0 : Int32))] (.int (0 : Int32)) := by rw [nar_c8 p2] at A2459; exact A2459
        show Goes p.tables e below _ (T2455.setTop (mkF m 296 #[.val (.int p0), .val (.int p1), .val (.int p2), .val (.int p3), .val (.int (p0 &&& (3 : Int32))), .val (.int (c8 p1)), .val (.int (c8 p2)), .val (.int (c8 p3)), .unset, .unset, .unset, .unset, .unset] [(.ref b2442)]))
        refine X2457.dup (D at_296) rfl ?_
        refine X2457.iconst (x := (2 : Int32)) (D at_297) rfl ?_
        refine X2457.iload (x := (c8 p3)) (D at_298) rfl ?_
        show Goes p.tables e below _ (T2455.setTop (mkF m 300 #[.val (.int p0), .val (.int p1), .val (.int p2), .val (.int p3), .val (.int (p0 &&& (3 : Int32))), .val (.int (c8 p1)), .val (.int (c8 p2)), .val (.int (c8 p3)), .unset, .unset, .unset, .unset, .unset] [(.int (c8 p3)), (.int (2 : Int32)), (.ref b2442), (.ref b2442)]))
        refine X2457.castore F2460 ⟨by decide, by decide⟩ 2 rfl (Nat.le_of_ble_eq_true rfl) (by simp) (D at_300) ?_
        intro T2461 h2462 X2463 W2464 A2465
        have F2466 : Arv Z h2462 b2442 kb2443 .char (3 : Int32) [(.int (c8 p1)), (.int (c8 p2)), (.int (c8 p3))] (.int (0 : Int32)) := by rw [nar_c8 p3] at A2465; exact A2465
        show Goes p.tables e below _ (T2461.setTop (mkF m 301 #[.val (.int p0), .val (.int p1), .val (.int p2), .val (.int p3), .val (.int (p0 &&& (3 : Int32))), .val (.int (c8 p1)), .val (.int (c8 p2)), .val (.int (c8 p3)), .unset, .unset, .unset, .unset, .unset] [(.ref b2442)]))
        refine X2463.astore #[.val (.int p0), .val (.int p1), .val (.int p2), .val (.int p3), .val (.int (p0 &&& (3 : Int32))), .val (.int (c8 p1)), .val (.int (c8 p2)), .val (.int (c8 p3)), .val (.ref b2442), .unset, .unset, .unset, .unset] (D at_301) rfl rfl ?_
        refine X2463.bipush (x := (13 : Int32)) (D at_303) rfl ?_
        refine X2463.newarr (w 0 rfl) (n := (13 : Int32)) (D at_305) (by decide) 13 (by decide) (by decide) (by decide) (by decide) ?_
        intro T2467 h2468 b2469 kb2470 g2471 X2472 E2473 A2474
        have F2475 := F2466.ext E2473
        have lt2476 : b2442 < b2469 := by rw [g2471]; exact F2466.lt
        have F2477 : Arv Z h2468 b2469 kb2470 .char (13 : Int32) [(.int (0 : Int32)), (.int (0 : Int32)), (.int (0 : Int32)), (.int (0 : Int32)), (.int (0 : Int32)), (.int (0 : Int32)), (.int (0 : Int32)), (.int (0 : Int32)), (.int (0 : Int32)), (.int (0 : Int32)), (.int (0 : Int32)), (.int (0 : Int32)), (.int (0 : Int32))] (.int (0 : Int32)) := A2474.pad (pad_rep [] (.int (0 : Int32)) 13)
        show Goes p.tables e below _ (T2467.setTop (mkF m 307 #[.val (.int p0), .val (.int p1), .val (.int p2), .val (.int p3), .val (.int (p0 &&& (3 : Int32))), .val (.int (c8 p1)), .val (.int (c8 p2)), .val (.int (c8 p3)), .val (.ref b2442), .unset, .unset, .unset, .unset] [(.ref b2469)]))
        refine X2472.dup (D at_307) rfl ?_
        refine X2472.iconst (x := (0 : Int32)) (D at_308) rfl ?_
        refine X2472.bipush (x := (98 : Int32)) (D at_309) rfl ?_
        show Goes p.tables e below _ (T2467.setTop (mkF m 311 #[.val (.int p0), .val (.int p1), .val (.int p2), .val (.int p3), .val (.int (p0 &&& (3 : Int32))), .val (.int (c8 p1)), .val (.int (c8 p2)), .val (.int (c8 p3)), .val (.ref b2442), .unset, .unset, .unset, .unset] [(.int (98 : Int32)), (.int (0 : Int32)), (.ref b2469), (.ref b2469)]))
        refine X2472.castore F2477 ⟨by decide, by decide⟩ 0 rfl (Nat.le_of_ble_eq_true rfl) (by simp) (D at_311) ?_
        intro T2478 h2479 X2480 W2481 A2482
        have F2483 := F2475.other W2481 (Nat.ne_of_lt lt2476)
        have F2484 : Arv Z h2479 b2469 kb2470 .char (13 : Int32) [(.int (98 : Int32)), (.int (0 : Int32)), (.int (0 : Int32)), (.int (0 : Int32)), (.int (0 : Int32)), (.int (0 : Int32)), (.int (0 : Int32)), (.int (0 : Int32)), (.int (0 : Int32)), (.int (0 : Int32)), (.int (0 : Int32)), (.int (0 : Int32)), (.int (0 : Int32))] (.int (0 : Int32)) := by exact A2482
        show Goes p.tables e below _ (T2478.setTop (mkF m 312 #[.val (.int p0), .val (.int p1), .val (.int p2), .val (.int p3), .val (.int (p0 &&& (3 : Int32))), .val (.int (c8 p1)), .val (.int (c8 p2)), .val (.int (c8 p3)), .val (.ref b2442), .unset, .unset, .unset, .unset] [(.ref b2469)]))
        refine X2480.dup (D at_312) rfl ?_
        refine X2480.iconst (x := (1 : Int32)) (D at_313) rfl ?_
        refine X2480.bipush (x := (121 : Int32)) (D at_314) rfl ?_
        show Goes p.tables e below _ (T2478.setTop (mkF m 316 #[.val (.int p0), .val (.int p1), .val (.int p2), .val (.int p3), .val (.int (p0 &&& (3 : Int32))), .val (.int (c8 p1)), .val (.int (c8 p2)), .val (.int (c8 p3)), .val (.ref b2442), .unset, .unset, .unset, .unset] [(.int (121 : Int32)), (.int (1 : Int32)), (.ref b2469), (.ref b2469)]))
        refine X2480.castore F2484 ⟨by decide, by decide⟩ 1 rfl (Nat.le_of_ble_eq_true rfl) (by simp) (D at_316) ?_
        intro T2485 h2486 X2487 W2488 A2489
        have F2490 := F2483.other W2488 (Nat.ne_of_lt lt2476)
        have F2491 : Arv Z h2486 b2469 kb2470 .char (13 : Int32) [(.int (98 : Int32)), (.int (121 : Int32)), (.int (0 : Int32)), (.int (0 : Int32)), (.int (0 : Int32)), (.int (0 : Int32)), (.int (0 : Int32)), (.int (0 : Int32)), (.int (0 : Int32)), (.int (0 : Int32)), (.int (0 : Int32)), (.int (0 : Int32)), (.int (0 : Int32))] (.int (0 : Int32)) := by exact A2489
        show Goes p.tables e below _ (T2485.setTop (mkF m 317 #[.val (.int p0), .val (.int p1), .val (.int p2), .val (.int p3), .val (.int (p0 &&& (3 : Int32))), .val (.int (c8 p1)), .val (.int (c8 p2)), .val (.int (c8 p3)), .val (.ref b2442), .unset, .unset, .unset, .unset] [(.ref b2469)]))
        refine X2487.dup (D at_317) rfl ?_
        refine X2487.iconst (x := (2 : Int32)) (D at_318) rfl ?_
        refine X2487.bipush (x := (32 : Int32)) (D at_319) rfl ?_
        show Goes p.tables e below _ (T2485.setTop (mkF m 321 #[.val (.int p0), .val (.int p1), .val (.int p2), .val (.int p3), .val (.int (p0 &&& (3 : Int32))), .val (.int (c8 p1)), .val (.int (c8 p2)), .val (.int (c8 p3)), .val (.ref b2442), .unset, .unset, .unset, .unset] [(.int (32 : Int32)), (.int (2 : Int32)), (.ref b2469), (.ref b2469)]))
        refine X2487.castore F2491 ⟨by decide, by decide⟩ 2 rfl (Nat.le_of_ble_eq_true rfl) (by simp) (D at_321) ?_
        intro T2492 h2493 X2494 W2495 A2496
        have F2497 := F2490.other W2495 (Nat.ne_of_lt lt2476)
        have F2498 : Arv Z h2493 b2469 kb2470 .char (13 : Int32) [(.int (98 : Int32)), (.int (121 : Int32)), (.int (32 : Int32)), (.int (0 : Int32)), (.int (0 : Int32)), (.int (0 : Int32)), (.int (0 : Int32)), (.int (0 : Int32)), (.int (0 : Int32)), (.int (0 : Int32)), (.int (0 : Int32)), (.int (0 : Int32)), (.int (0 : Int32))] (.int (0 : Int32)) := by exact A2496
        show Goes p.tables e below _ (T2492.setTop (mkF m 322 #[.val (.int p0), .val (.int p1), .val (.int p2), .val (.int p3), .val (.int (p0 &&& (3 : Int32))), .val (.int (c8 p1)), .val (.int (c8 p2)), .val (.int (c8 p3)), .val (.ref b2442), .unset, .unset, .unset, .unset] [(.ref b2469)]))
        refine X2494.dup (D at_322) rfl ?_
        refine X2494.iconst (x := (3 : Int32)) (D at_323) rfl ?_
        refine X2494.bipush (x := (98 : Int32)) (D at_324) rfl ?_
        show Goes p.tables e below _ (T2492.setTop (mkF m 326 #[.val (.int p0), .val (.int p1), .val (.int p2), .val (.int p3), .val (.int (p0 &&& (3 : Int32))), .val (.int (c8 p1)), .val (.int (c8 p2)), .val (.int (c8 p3)), .val (.ref b2442), .unset, .unset, .unset, .unset] [(.int (98 : Int32)), (.int (3 : Int32)), (.ref b2469), (.ref b2469)]))
        refine X2494.castore F2498 ⟨by decide, by decide⟩ 3 rfl (Nat.le_of_ble_eq_true rfl) (by simp) (D at_326) ?_
        intro T2499 h2500 X2501 W2502 A2503
        have F2504 := F2497.other W2502 (Nat.ne_of_lt lt2476)
        have F2505 : Arv Z h2500 b2469 kb2470 .char (13 : Int32) [(.int (98 : Int32)), (.int (121 : Int32)), (.int (32 : Int32)), (.int (98 : Int32)), (.int (0 : Int32)), (.int (0 : Int32)), (.int (0 : Int32)), (.int (0 : Int32)), (.int (0 : Int32)), (.int (0 : Int32)), (.int (0 : Int32)), (.int (0 : Int32)), (.int (0 : Int32))] (.int (0 : Int32)) := by exact A2503
        show Goes p.tables e below _ (T2499.setTop (mkF m 327 #[.val (.int p0), .val (.int p1), .val (.int p2), .val (.int p3), .val (.int (p0 &&& (3 : Int32))), .val (.int (c8 p1)), .val (.int (c8 p2)), .val (.int (c8 p3)), .val (.ref b2442), .unset, .unset, .unset, .unset] [(.ref b2469)]))
        refine X2501.dup (D at_327) rfl ?_
        refine X2501.iconst (x := (4 : Int32)) (D at_328) rfl ?_
        refine X2501.bipush (x := (121 : Int32)) (D at_329) rfl ?_
        show Goes p.tables e below _ (T2499.setTop (mkF m 331 #[.val (.int p0), .val (.int p1), .val (.int p2), .val (.int p3), .val (.int (p0 &&& (3 : Int32))), .val (.int (c8 p1)), .val (.int (c8 p2)), .val (.int (c8 p3)), .val (.ref b2442), .unset, .unset, .unset, .unset] [(.int (121 : Int32)), (.int (4 : Int32)), (.ref b2469), (.ref b2469)]))
        refine X2501.castore F2505 ⟨by decide, by decide⟩ 4 rfl (Nat.le_of_ble_eq_true rfl) (by simp) (D at_331) ?_
        intro T2506 h2507 X2508 W2509 A2510
        have F2511 := F2504.other W2509 (Nat.ne_of_lt lt2476)
        have F2512 : Arv Z h2507 b2469 kb2470 .char (13 : Int32) [(.int (98 : Int32)), (.int (121 : Int32)), (.int (32 : Int32)), (.int (98 : Int32)), (.int (121 : Int32)), (.int (0 : Int32)), (.int (0 : Int32)), (.int (0 : Int32)), (.int (0 : Int32)), (.int (0 : Int32)), (.int (0 : Int32)), (.int (0 : Int32)), (.int (0 : Int32))] (.int (0 : Int32)) := by exact A2510
        show Goes p.tables e below _ (T2506.setTop (mkF m 332 #[.val (.int p0), .val (.int p1), .val (.int p2), .val (.int p3), .val (.int (p0 &&& (3 : Int32))), .val (.int (c8 p1)), .val (.int (c8 p2)), .val (.int (c8 p3)), .val (.ref b2442), .unset, .unset, .unset, .unset] [(.ref b2469)]))
        refine X2508.dup (D at_332) rfl ?_
        refine X2508.iconst (x := (5 : Int32)) (D at_333) rfl ?_
        refine X2508.bipush (x := (112 : Int32)) (D at_334) rfl ?_
        show Goes p.tables e below _ (T2506.setTop (mkF m 336 #[.val (.int p0), .val (.int p1), .val (.int p2), .val (.int p3), .val (.int (p0 &&& (3 : Int32))), .val (.int (c8 p1)), .val (.int (c8 p2)), .val (.int (c8 p3)), .val (.ref b2442), .unset, .unset, .unset, .unset] [(.int (112 : Int32)), (.int (5 : Int32)), (.ref b2469), (.ref b2469)]))
        refine X2508.castore F2512 ⟨by decide, by decide⟩ 5 rfl (Nat.le_of_ble_eq_true rfl) (by simp) (D at_336) ?_
        intro T2513 h2514 X2515 W2516 A2517
        have F2518 := F2511.other W2516 (Nat.ne_of_lt lt2476)
        have F2519 : Arv Z h2514 b2469 kb2470 .char (13 : Int32) [(.int (98 : Int32)), (.int (121 : Int32)), (.int (32 : Int32)), (.int (98 : Int32)), (.int (121 : Int32)), (.int (112 : Int32)), (.int (0 : Int32)), (.int (0 : Int32)), (.int (0 : Int32)), (.int (0 : Int32)), (.int (0 : Int32)), (.int (0 : Int32)), (.int (0 : Int32))] (.int (0 : Int32)) := by exact A2517
        show Goes p.tables e below _ (T2513.setTop (mkF m 337 #[.val (.int p0), .val (.int p1), .val (.int p2), .val (.int p3), .val (.int (p0 &&& (3 : Int32))), .val (.int (c8 p1)), .val (.int (c8 p2)), .val (.int (c8 p3)), .val (.ref b2442), .unset, .unset, .unset, .unset] [(.ref b2469)]))
        refine X2515.dup (D at_337) rfl ?_
        refine X2515.bipush (x := (6 : Int32)) (D at_338) rfl ?_
        refine X2515.bipush (x := (97 : Int32)) (D at_340) rfl ?_
        show Goes p.tables e below _ (T2513.setTop (mkF m 342 #[.val (.int p0), .val (.int p1), .val (.int p2), .val (.int p3), .val (.int (p0 &&& (3 : Int32))), .val (.int (c8 p1)), .val (.int (c8 p2)), .val (.int (c8 p3)), .val (.ref b2442), .unset, .unset, .unset, .unset] [(.int (97 : Int32)), (.int (6 : Int32)), (.ref b2469), (.ref b2469)]))
        refine X2515.castore F2519 ⟨by decide, by decide⟩ 6 rfl (Nat.le_of_ble_eq_true rfl) (by simp) (D at_342) ?_
        intro T2520 h2521 X2522 W2523 A2524
        have F2525 := F2518.other W2523 (Nat.ne_of_lt lt2476)
        have F2526 : Arv Z h2521 b2469 kb2470 .char (13 : Int32) [(.int (98 : Int32)), (.int (121 : Int32)), (.int (32 : Int32)), (.int (98 : Int32)), (.int (121 : Int32)), (.int (112 : Int32)), (.int (97 : Int32)), (.int (0 : Int32)), (.int (0 : Int32)), (.int (0 : Int32)), (.int (0 : Int32)), (.int (0 : Int32)), (.int (0 : Int32))] (.int (0 : Int32)) := by exact A2524
        show Goes p.tables e below _ (T2520.setTop (mkF m 343 #[.val (.int p0), .val (.int p1), .val (.int p2), .val (.int p3), .val (.int (p0 &&& (3 : Int32))), .val (.int (c8 p1)), .val (.int (c8 p2)), .val (.int (c8 p3)), .val (.ref b2442), .unset, .unset, .unset, .unset] [(.ref b2469)]))
        refine X2522.dup (D at_343) rfl ?_
        refine X2522.bipush (x := (7 : Int32)) (D at_344) rfl ?_
        refine X2522.bipush (x := (115 : Int32)) (D at_346) rfl ?_
        show Goes p.tables e below _ (T2520.setTop (mkF m 348 #[.val (.int p0), .val (.int p1), .val (.int p2), .val (.int p3), .val (.int (p0 &&& (3 : Int32))), .val (.int (c8 p1)), .val (.int (c8 p2)), .val (.int (c8 p3)), .val (.ref b2442), .unset, .unset, .unset, .unset] [(.int (115 : Int32)), (.int (7 : Int32)), (.ref b2469), (.ref b2469)]))
        refine X2522.castore F2526 ⟨by decide, by decide⟩ 7 rfl (Nat.le_of_ble_eq_true rfl) (by simp) (D at_348) ?_
        intro T2527 h2528 X2529 W2530 A2531
        have F2532 := F2525.other W2530 (Nat.ne_of_lt lt2476)
        have F2533 : Arv Z h2528 b2469 kb2470 .char (13 : Int32) [(.int (98 : Int32)), (.int (121 : Int32)), (.int (32 : Int32)), (.int (98 : Int32)), (.int (121 : Int32)), (.int (112 : Int32)), (.int (97 : Int32)), (.int (115 : Int32)), (.int (0 : Int32)), (.int (0 : Int32)), (.int (0 : Int32)), (.int (0 : Int32)), (.int (0 : Int32))] (.int (0 : Int32)) := by exact A2531
        show Goes p.tables e below _ (T2527.setTop (mkF m 349 #[.val (.int p0), .val (.int p1), .val (.int p2), .val (.int p3), .val (.int (p0 &&& (3 : Int32))), .val (.int (c8 p1)), .val (.int (c8 p2)), .val (.int (c8 p3)), .val (.ref b2442), .unset, .unset, .unset, .unset] [(.ref b2469)]))
        refine X2529.dup (D at_349) rfl ?_
        refine X2529.bipush (x := (8 : Int32)) (D at_350) rfl ?_
        refine X2529.bipush (x := (115 : Int32)) (D at_352) rfl ?_
        show Goes p.tables e below _ (T2527.setTop (mkF m 354 #[.val (.int p0), .val (.int p1), .val (.int p2), .val (.int p3), .val (.int (p0 &&& (3 : Int32))), .val (.int (c8 p1)), .val (.int (c8 p2)), .val (.int (c8 p3)), .val (.ref b2442), .unset, .unset, .unset, .unset] [(.int (115 : Int32)), (.int (8 : Int32)), (.ref b2469), (.ref b2469)]))
        refine X2529.castore F2533 ⟨by decide, by decide⟩ 8 rfl (Nat.le_of_ble_eq_true rfl) (by simp) (D at_354) ?_
        intro T2534 h2535 X2536 W2537 A2538
        have F2539 := F2532.other W2537 (Nat.ne_of_lt lt2476)
        have F2540 : Arv Z h2535 b2469 kb2470 .char (13 : Int32) [(.int (98 : Int32)), (.int (121 : Int32)), (.int (32 : Int32)), (.int (98 : Int32)), (.int (121 : Int32)), (.int (112 : Int32)), (.int (97 : Int32)), (.int (115 : Int32)), (.int (115 : Int32)), (.int (0 : Int32)), (.int (0 : Int32)), (.int (0 : Int32)), (.int (0 : Int32))] (.int (0 : Int32)) := by exact A2538
        show Goes p.tables e below _ (T2534.setTop (mkF m 355 #[.val (.int p0), .val (.int p1), .val (.int p2), .val (.int p3), .val (.int (p0 &&& (3 : Int32))), .val (.int (c8 p1)), .val (.int (c8 p2)), .val (.int (c8 p3)), .val (.ref b2442), .unset, .unset, .unset, .unset] [(.ref b2469)]))
        refine X2536.dup (D at_355) rfl ?_
        refine X2536.bipush (x := (9 : Int32)) (D at_356) rfl ?_
        refine X2536.bipush (x := (32 : Int32)) (D at_358) rfl ?_
        show Goes p.tables e below _ (T2534.setTop (mkF m 360 #[.val (.int p0), .val (.int p1), .val (.int p2), .val (.int p3), .val (.int (p0 &&& (3 : Int32))), .val (.int (c8 p1)), .val (.int (c8 p2)), .val (.int (c8 p3)), .val (.ref b2442), .unset, .unset, .unset, .unset] [(.int (32 : Int32)), (.int (9 : Int32)), (.ref b2469), (.ref b2469)]))
        refine X2536.castore F2540 ⟨by decide, by decide⟩ 9 rfl (Nat.le_of_ble_eq_true rfl) (by simp) (D at_360) ?_
        intro T2541 h2542 X2543 W2544 A2545
        have F2546 := F2539.other W2544 (Nat.ne_of_lt lt2476)
        have F2547 : Arv Z h2542 b2469 kb2470 .char (13 : Int32) [(.int (98 : Int32)), (.int (121 : Int32)), (.int (32 : Int32)), (.int (98 : Int32)), (.int (121 : Int32)), (.int (112 : Int32)), (.int (97 : Int32)), (.int (115 : Int32)), (.int (115 : Int32)), (.int (32 : Int32)), (.int (0 : Int32)), (.int (0 : Int32)), (.int (0 : Int32))] (.int (0 : Int32)) := by exact A2545
        show Goes p.tables e below _ (T2541.setTop (mkF m 361 #[.val (.int p0), .val (.int p1), .val (.int p2), .val (.int p3), .val (.int (p0 &&& (3 : Int32))), .val (.int (c8 p1)), .val (.int (c8 p2)), .val (.int (c8 p3)), .val (.ref b2442), .unset, .unset, .unset, .unset] [(.ref b2469)]))
        refine X2543.dup (D at_361) rfl ?_
        refine X2543.bipush (x := (10 : Int32)) (D at_362) rfl ?_
        refine X2543.iload (x := (c8 p1)) (D at_364) rfl ?_
        show Goes p.tables e below _ (T2541.setTop (mkF m 366 #[.val (.int p0), .val (.int p1), .val (.int p2), .val (.int p3), .val (.int (p0 &&& (3 : Int32))), .val (.int (c8 p1)), .val (.int (c8 p2)), .val (.int (c8 p3)), .val (.ref b2442), .unset, .unset, .unset, .unset] [(.int (c8 p1)), (.int (10 : Int32)), (.ref b2469), (.ref b2469)]))
        refine X2543.castore F2547 ⟨by decide, by decide⟩ 10 rfl (Nat.le_of_ble_eq_true rfl) (by simp) (D at_366) ?_
        intro T2548 h2549 X2550 W2551 A2552
        have F2553 := F2546.other W2551 (Nat.ne_of_lt lt2476)
        have F2554 : Arv Z h2549 b2469 kb2470 .char (13 : Int32) [(.int (98 : Int32)), (.int (121 : Int32)), (.int (32 : Int32)), (.int (98 : Int32)), (.int (121 : Int32)), (.int (112 : Int32)), (.int (97 : Int32)), (.int (115 : Int32)), (.int (115 : Int32)), (.int (32 : Int32)), (.int (c8 p1)), (.int (0 : Int32)), (.int (0 : Int32))] (.int (0 : Int32)) := by rw [nar_c8 p1] at A2552; exact A2552
        show Goes p.tables e below _ (T2548.setTop (mkF m 367 #[.val (.int p0), .val (.int p1), .val (.int p2), .val (.int p3), .val (.int (p0 &&& (3 : Int32))), .val (.int (c8 p1)), .val (.int (c8 p2)), .val (.int (c8 p3)), .val (.ref b2442), .unset, .unset, .unset, .unset] [(.ref b2469)]))
        refine X2550.dup (D at_367) rfl ?_
        refine X2550.bipush (x := (11 : Int32)) (D at_368) rfl ?_
        refine X2550.iload (x := (c8 p2)) (D at_370) rfl ?_
        show Goes p.tables e below _ (T2548.setTop (mkF m 372 #[.val (.int p0), .val (.int p1), .val (.int p2), .val (.int p3), .val (.int (p0 &&& (3 : Int32))), .val (.int (c8 p1)), .val (.int (c8 p2)), .val (.int (c8 p3)), .val (.ref b2442), .unset, .unset, .unset, .unset] [(.int (c8 p2)), (.int (11 : Int32)), (.ref b2469), (.ref b2469)]))
        refine X2550.castore F2554 ⟨by decide, by decide⟩ 11 rfl (Nat.le_of_ble_eq_true rfl) (by simp) (D at_372) ?_
        intro T2555 h2556 X2557 W2558 A2559
        have F2560 := F2553.other W2558 (Nat.ne_of_lt lt2476)
        have F2561 : Arv Z h2556 b2469 kb2470 .char (13 : Int32) [(.int (98 : Int32)), (.int (121 : Int32)), (.int (32 : Int32)), (.int (98 : Int32)), (.int (121 : Int32)), (.int (112 : Int32)), (.int (97 : Int32)), (.int (115 : Int32)), (.int (115 : Int32)), (.int (32 : Int32)), (.int (c8 p1)), (.int (c8 p2)), (.int (0 : Int32))] (.int (0 : Int32)) := by rw [nar_c8 p2] at A2559; exact A2559
        show Goes p.tables e below _ (T2555.setTop (mkF m 373 #[.val (.int p0), .val (.int p1), .val (.int p2), .val (.int p3), .val (.int (p0 &&& (3 : Int32))), .val (.int (c8 p1)), .val (.int (c8 p2)), .val (.int (c8 p3)), .val (.ref b2442), .unset, .unset, .unset, .unset] [(.ref b2469)]))
        refine X2557.dup (D at_373) rfl ?_
        refine X2557.bipush (x := (12 : Int32)) (D at_374) rfl ?_
        refine X2557.iload (x := (c8 p3)) (D at_376) rfl ?_
        show Goes p.tables e below _ (T2555.setTop (mkF m 378 #[.val (.int p0), .val (.int p1), .val (.int p2), .val (.int p3), .val (.int (p0 &&& (3 : Int32))), .val (.int (c8 p1)), .val (.int (c8 p2)), .val (.int (c8 p3)), .val (.ref b2442), .unset, .unset, .unset, .unset] [(.int (c8 p3)), (.int (12 : Int32)), (.ref b2469), (.ref b2469)]))
        refine X2557.castore F2561 ⟨by decide, by decide⟩ 12 rfl (Nat.le_of_ble_eq_true rfl) (by simp) (D at_378) ?_
        intro T2562 h2563 X2564 W2565 A2566
        have F2567 := F2560.other W2565 (Nat.ne_of_lt lt2476)
        have F2568 : Arv Z h2563 b2469 kb2470 .char (13 : Int32) [(.int (98 : Int32)), (.int (121 : Int32)), (.int (32 : Int32)), (.int (98 : Int32)), (.int (121 : Int32)), (.int (112 : Int32)), (.int (97 : Int32)), (.int (115 : Int32)), (.int (115 : Int32)), (.int (32 : Int32)), (.int (c8 p1)), (.int (c8 p2)), (.int (c8 p3))] (.int (0 : Int32)) := by rw [nar_c8 p3] at A2566; exact A2566
        show Goes p.tables e below _ (T2562.setTop (mkF m 379 #[.val (.int p0), .val (.int p1), .val (.int p2), .val (.int p3), .val (.int (p0 &&& (3 : Int32))), .val (.int (c8 p1)), .val (.int (c8 p2)), .val (.int (c8 p3)), .val (.ref b2442), .unset, .unset, .unset, .unset] [(.ref b2469)]))
        refine X2564.astore #[.val (.int p0), .val (.int p1), .val (.int p2), .val (.int p3), .val (.int (p0 &&& (3 : Int32))), .val (.int (c8 p1)), .val (.int (c8 p2)), .val (.int (c8 p3)), .val (.ref b2442), .val (.ref b2469), .unset, .unset, .unset] (D at_379) rfl rfl ?_
        refine X2564.new (w 1 rfl) (w 2 rfl) (w 3 rfl) (D at_381) (by decide) (by decide) ?_
        intro T2569 h2570 b2571 g2572 X2573 E2574 A2575 D2576 U2577
        have F2578 := F2567.ext E2574
        have F2579 := F2568.ext E2574
        have lt2580 : b2442 < b2571 := by rw [g2572]; exact F2567.lt
        have lt2581 : b2469 < b2571 := by rw [g2572]; exact F2568.lt
        have F2582 : Fld Z h2570 b2571 "java/lang/String" "value" "[B" .null := D2576 (Or.inr (w 16 rfl)) (ty := (.array .byte)) (by decide)
        have F2583 : Fld Z h2570 b2571 "java/lang/String" "coder" "B" (.int (0 : Int32)) := D2576 (Or.inr (w 17 rfl)) (ty := .byte) (by decide)
        show Goes p.tables e below _ (T2569.setTop (mkF m 384 #[.val (.int p0), .val (.int p1), .val (.int p2), .val (.int p3), .val (.int (p0 &&& (3 : Int32))), .val (.int (c8 p1)), .val (.int (c8 p2)), .val (.int (c8 p3)), .val (.ref b2442), .val (.ref b2469), .unset, .unset, .unset] [(.ref b2571)]))
        refine X2573.dup (D at_384) rfl ?_
        refine X2573.aload (x := (.ref b2442)) (D at_385) rfl rfl ?_
        show Goes p.tables e below _ (T2569.setTop (mkF m 387 #[.val (.int p0), .val (.int p1), .val (.int p2), .val (.int p3), .val (.int (p0 &&& (3 : Int32))), .val (.int (c8 p1)), .val (.int (c8 p2)), .val (.int (c8 p3)), .val (.ref b2442), .val (.ref b2469), .unset, .unset, .unset] [(.ref b2442), (.ref b2571), (.ref b2571)]))
        refine X2573.newStr (cs := [(c8 p1), (c8 p2), (c8 p3)]) 3 (w 4 rfl) (w 5 rfl) (fun d q => hw d (hwsV d q)) (w 2 rfl) A2575 F2582 F2583 F2578 S0 hz0 rfl rfl (by decide) (by decide) (hpS (c8_rng p1) (hpS (c8_rng p2) (hpS (c8_rng p3) hp0))) (by simp) (by decide) 1 (Nat.le_of_ble_eq_true rfl) (by decide) (by decide) (by decide) (by rw [hml]; rfl) (D at_387) ?_
        intro T2987 h2988 t2989 X2990 K2991 g2992 O2993
        have F2994 := F2578.keep K2991 (ninS (Nat.ne_of_lt lt2580) nin0)
        have F2995 := F2579.keep K2991 (ninS (Nat.ne_of_lt lt2581) nin0)
        have lt2996 : b2442 < t2989 := Nat.lt_of_lt_of_le F2578.lt g2992
        have lt2997 : b2469 < t2989 := Nat.lt_of_lt_of_le F2579.lt g2992
        have lt2998 : b2571 < t2989 := Nat.lt_of_lt_of_le A2575.lt g2992
        show Goes p.tables e below _ (T2987.setTop (mkF m 390 #[.val (.int p0), .val (.int p1), .val (.int p2), .val (.int p3), .val (.int (p0 &&& (3 : Int32))), .val (.int (c8 p1)), .val (.int (c8 p2)), .val (.int (c8 p3)), .val (.ref b2442), .val (.ref b2469), .unset, .unset, .unset] [(.ref b2571)]))
        refine X2990.astore #[.val (.int p0), .val (.int p1), .val (.int p2), .val (.int p3), .val (.int (p0 &&& (3 : Int32))), .val (.int (c8 p1)), .val (.int (c8 p2)), .val (.int (c8 p3)), .val (.ref b2442), .val (.ref b2469), .val (.ref b2571), .unset, .unset] (D at_390) rfl rfl ?_
        refine X2990.new (w 1 rfl) (w 2 rfl) (w 3 rfl) (D at_392) (by decide) (by decide) ?_
        intro T2999 h3000 b3001 g3002 X3003 E3004 A3005 D3006 U3007
        have F3008 := F2994.ext E3004
        have F3009 := F2995.ext E3004
        have F3010 := O2993.ext E3004
        have lt3011 : b2442 < b3001 := by rw [g3002]; exact F2994.lt
        have lt3012 : b2469 < b3001 := by rw [g3002]; exact F2995.lt
        have lt3013 : b2571 < b3001 := by rw [g3002]; exact O2993.lt
        have lt3014 : t2989 < b3001 := by rw [g3002]; exact O2993.ltb
        have F3015 : Fld Z h3000 b3001 "java/lang/String" "value" "[B" .null := D3006 (Or.inr (w 16 rfl)) (ty := (.array .byte)) (by decide)
        have F3016 : Fld Z h3000 b3001 "java/lang/String" "coder" "B" (.int (0 : Int32)) := D3006 (Or.inr (w 17 rfl)) (ty := .byte) (by decide)
        show Goes p.tables e below _ (T2999.setTop (mkF m 395 #[.val (.int p0), .val (.int p1), .val (.int p2), .val (.int p3), .val (.int (p0 &&& (3 : Int32))), .val (.int (c8 p1)), .val (.int (c8 p2)), .val (.int (c8 p3)), .val (.ref b2442), .val (.ref b2469), .val (.ref b2571), .unset, .unset] [(.ref b3001)]))
        refine X3003.dup (D at_395) rfl ?_
        refine X3003.aload (x := (.ref b2469)) (D at_396) rfl rfl ?_
        show Goes p.tables e below _ (T2999.setTop (mkF m 398 #[.val (.int p0), .val (.int p1), .val (.int p2), .val (.int p3), .val (.int (p0 &&& (3 : Int32))), .val (.int (c8 p1)), .val (.int (c8 p2)), .val (.int (c8 p3)), .val (.ref b2442), .val (.ref b2469), .val (.ref b2571), .unset, .unset] [(.ref b2469), (.ref b3001), (.ref b3001)]))
        refine X3003.newStr (cs := [(98 : Int32), (121 : Int32), (32 : Int32), (98 : Int32), (121 : Int32), (112 : Int32), (97 : Int32), (115 : Int32), (115 : Int32), (32 : Int32), (c8 p1), (c8 p2), (c8 p3)]) 13 (w 4 rfl) (w 5 rfl) (fun d q => hw d (hwsV d q)) (w 2 rfl) A3005 F3015 F3016 F3009 S0 hz0 rfl rfl (by decide) (by decide) (hpS (by decide) (hpS (by decide) (hpS (by decide) (hpS (by decide) (hpS (by decide) (hpS (by decide) (hpS (by decide) (hpS (by decide) (hpS (by decide) (hpS (by decide) (hpS (c8_rng p1) (hpS (c8_rng p2) (hpS (c8_rng p3) hp0))))))))))))) (by simp) (by decide) 1 (Nat.le_of_ble_eq_true rfl) (by decide) (by decide) (by decide) (by rw [hml]; rfl) (D at_398) ?_
        intro T3017 h3018 t3019 X3020 K3021 g3022 O3023
        have F3024 := F3008.keep K3021 (ninS (Nat.ne_of_lt lt3011) nin0)
        have F3025 := F3009.keep K3021 (ninS (Nat.ne_of_lt lt3012) nin0)
        have F3026 := F3010.keep K3021 (ninS (Nat.ne_of_lt lt3013) nin0) (ninS (Nat.ne_of_lt lt3014) nin0)
        have lt3027 : b2442 < t3019 := Nat.lt_of_lt_of_le F3008.lt g3022
        have lt3028 : b2469 < t3019 := Nat.lt_of_lt_of_le F3009.lt g3022
        have lt3029 : b2571 < t3019 := Nat.lt_of_lt_of_le F3010.lt g3022
        have lt3030 : t2989 < t3019 := Nat.lt_of_lt_of_le F3010.ltb g3022
        have lt3031 : b3001 < t3019 := Nat.lt_of_lt_of_le A3005.lt g3022
        show Goes p.tables e below _ (T3017.setTop (mkF m 401 #[.val (.int p0), .val (.int p1), .val (.int p2), .val (.int p3), .val (.int (p0 &&& (3 : Int32))), .val (.int (c8 p1)), .val (.int (c8 p2)), .val (.int (c8 p3)), .val (.ref b2442), .val (.ref b2469), .val (.ref b2571), .unset, .unset] [(.ref b3001)]))
        refine X3020.astore #[.val (.int p0), .val (.int p1), .val (.int p2), .val (.int p3), .val (.int (p0 &&& (3 : Int32))), .val (.int (c8 p1)), .val (.int (c8 p2)), .val (.int (c8 p3)), .val (.ref b2442), .val (.ref b2469), .val (.ref b2571), .val (.ref b3001), .unset] (D at_401) rfl rfl ?_
        refine X3020.aload (x := (.ref b2571)) (D at_403) rfl rfl ?_
        refine X3020.calls [(.ref b2571)] [] (ctBy l Z a0 hw hEL z0 S0 hz0 b2571 _ _) (w 33 rfl) (w 34 rfl) (w 35 rfl) (w 36 rfl) (by decide) (fun _ q => nomatch q) (by decide) 0 (by decide) (by decide) (by decide) (lenOf pd_20 rfl) rfl (Nat.le_of_ble_eq_true rfl) (by rw [hml]; rfl) (D at_405) ?_
        rintro T3032 h3033 _ X3035 K3036 ⟨dd, rfl, G0, G1, G2, G3, G4⟩
        have F3037 := F3026.keep K3036 nin0 nin0
        have F3038 := O3023.keep K3036 nin0 nin0
        show Goes p.tables e below _ (T3032.setTop (mkF m 408 #[.val (.int p0), .val (.int p1), .val (.int p2), .val (.int p3), .val (.int (p0 &&& (3 : Int32))), .val (.int (c8 p1)), .val (.int (c8 p2)), .val (.int (c8 p3)), .val (.ref b2442), .val (.ref b2469), .val (.ref b2571), .val (.ref b3001), .unset] [(.ref dd)]))
        refine X3035.astore #[.val (.int p0), .val (.int p1), .val (.int p2), .val (.int p3), .val (.int (p0 &&& (3 : Int32))), .val (.int (c8 p1)), .val (.int (c8 p2)), .val (.int (c8 p3)), .val (.ref b2442), .val (.ref b2469), .val (.ref b2571), .val (.ref b3001), .val (.ref dd)] (D at_408) rfl rfl ?_
        refine X3035.aload (x := (.ref b2571)) (D at_410) rfl rfl ?_
        refine X3035.aload (x := (.ref dd)) (D at_412) rfl rfl ?_
        refine X3035.callv (y := (⟨"com/example/greylag/greylag/Decision", "role", "()Ljava/lang/String;"⟩ : MethodName)) (a := dd) (C := "com/example/greylag/greylag/Decision") [] [(.ref b2571)] (ctRole l Z a0 hw hEL z0 S0 hz0 dd b2571 _ _ G1) G0 (w 56 rfl) (w 57 rfl) (w 59 rfl) (w 58 rfl) (w 35 rfl) (w 60 rfl) (by decide) (fun _ q => nomatch q) (by decide) 1 (by decide) (by decide) (by decide) (lenOf pd_18 rfl) rfl (Nat.le_of_ble_eq_true rfl) (by rw [hml]; rfl) (D at_414) ?_
        rintro T3039 h3040 _ X3042 K3043 rfl
        have F3044 := F3037.keep K3043 nin0 nin0
        have F3045 := F3038.keep K3043 nin0 nin0
        have F3046 := G0.keep K3043
        have F3047 := G1.keep K3043 nin0
        have F3048 := G2.keep K3043 nin0
        have F3049 := G3.keep K3043 nin0
        have F3050 := G4.keep K3043 nin0
        show Goes p.tables e below _ (T3039.setTop (mkF m 417 #[.val (.int p0), .val (.int p1), .val (.int p2), .val (.int p3), .val (.int (p0 &&& (3 : Int32))), .val (.int (c8 p1)), .val (.int (c8 p2)), .val (.int (c8 p3)), .val (.ref b2442), .val (.ref b2469), .val (.ref b2571), .val (.ref b3001), .val (.ref dd)] [(.ref b2571), (.ref b2571)]))
        show Goes p.tables e below _ (T3039.setTop (mkF m 417 #[.val (.int p0), .val (.int p1), .val (.int p2), .val (.int p3), .val (.int (p0 &&& (3 : Int32))), .val (.int (c8 p1)), .val (.int (c8 p2)), .val (.int (c8 p3)), .val (.ref b2442), .val (.ref b2469), .val (.ref b2571), .val (.ref b3001), .val (.ref dd)] [(.ref b2571), (.ref b2571)]))
        refine X3042.strEq (w 61 rfl) (w 62 rfl) (w 64 rfl) (w 63 rfl) (fun d q => hw d (hwsE d q)) (w 2 rfl) F3044 F3044 S0 hz0 (by decide) 0 (Nat.le_of_ble_eq_true rfl) (by decide) (by decide) (by decide) (by rw [hml]; rfl) (D at_417) (fun T3051 X3052 hc3053 => ?_) (fun T3051 X3052 hc3053 => ?_)
        · show Goes p.tables e below _ (T3051.setTop (mkF m 420 #[.val (.int p0), .val (.int p1), .val (.int p2), .val (.int p3), .val (.int (p0 &&& (3 : Int32))), .val (.int (c8 p1)), .val (.int (c8 p2)), .val (.int (c8 p3)), .val (.ref b2442), .val (.ref b2469), .val (.ref b2571), .val (.ref b3001), .val (.ref dd)] [(.int (1 : Int32))]))
          refine X3052.if_eq 473 (D at_420) ⟨by decide, by decide⟩ (fun hc3054 => absurd hc3054 (by decide)) (fun hc3054 => ?_)
          refine X3052.aload (x := (.ref dd)) (D at_423) rfl rfl ?_
          refine X3052.callv (y := (⟨"com/example/greylag/greylag/Decision", "index", "()I"⟩ : MethodName)) (a := dd) (C := "com/example/greylag/greylag/Decision") [] [] (ctIdx l Z a0 hw hEL z0 S0 hz0 dd b2571 _ _ F3048) F3046 (w 66 rfl) (w 67 rfl) (w 69 rfl) (w 68 rfl) (w 35 rfl) (w 70 rfl) (by decide) (fun _ q => nomatch q) (by decide) 0 (by decide) (by decide) (by decide) (lenOf pd_7 rfl) rfl (Nat.le_of_ble_eq_true rfl) (by rw [hml]; rfl) (D at_425) ?_
          rintro T3055 h3056 _ X3058 K3059 rfl
          have F3060 := F3044.keep K3059 nin0 nin0
          have F3061 := F3045.keep K3059 nin0 nin0
          have F3062 := F3046.keep K3059
          have F3063 := F3047.keep K3059 nin0
          have F3064 := F3048.keep K3059 nin0
          have F3065 := F3049.keep K3059 nin0
          have F3066 := F3050.keep K3059 nin0
          show Goes p.tables e below _ (T3055.setTop (mkF m 428 #[.val (.int p0), .val (.int p1), .val (.int p2), .val (.int p3), .val (.int (p0 &&& (3 : Int32))), .val (.int (c8 p1)), .val (.int (c8 p2)), .val (.int (c8 p3)), .val (.ref b2442), .val (.ref b2469), .val (.ref b2571), .val (.ref b3001), .val (.ref dd)] [(.int (-1 : Int32))]))
          refine X3058.iconst (x := (-1 : Int32)) (D at_428) rfl ?_
          refine X3058.icmp_ne 473 (D at_429) ⟨by decide, by decide⟩ (fun hc3067 => absurd hc3067 (by decide)) (fun hc3067 => ?_)
          refine X3058.aload (x := (.ref dd)) (D at_432) rfl rfl ?_
          refine X3058.callv (y := (⟨"com/example/greylag/greylag/Decision", "permission", "()Lcom/example/greylag/greylag/Permission;"⟩ : MethodName)) (a := dd) (C := "com/example/greylag/greylag/Decision") [] [] (ctPerm l Z a0 hw hEL z0 S0 hz0 dd b2571 _ _ F3065) F3062 (w 71 rfl) (w 72 rfl) (w 74 rfl) (w 73 rfl) (w 35 rfl) (w 75 rfl) (by decide) (fun _ q => nomatch q) (by decide) 0 (by decide) (by decide) (by decide) (lenOf pd_21 rfl) rfl (Nat.le_of_ble_eq_true rfl) (by rw [hml]; rfl) (D at_434) ?_
          rintro T3068 h3069 _ X3071 K3072 rfl
          have F3073 := F3060.keep K3072 nin0 nin0
          have F3074 := F3061.keep K3072 nin0 nin0
          have F3075 := F3062.keep K3072
          have F3076 := F3063.keep K3072 nin0
          have F3077 := F3064.keep K3072 nin0
          have F3078 := F3065.keep K3072 nin0
          have F3079 := F3066.keep K3072 nin0
          show Goes p.tables e below _ (T3068.setTop (mkF m 437 #[.val (.int p0), .val (.int p1), .val (.int p2), .val (.int p3), .val (.int (p0 &&& (3 : Int32))), .val (.int (c8 p1)), .val (.int (c8 p2)), .val (.int (c8 p3)), .val (.ref b2442), .val (.ref b2469), .val (.ref b2571), .val (.ref b3001), .val (.ref dd)] [.null]))
          refine X3071.ifnonnullN (D at_437) ?_
          refine X3071.aload (x := (.ref dd)) (D at_440) rfl rfl ?_
          refine X3071.callv (y := (⟨"com/example/greylag/greylag/Decision", "bypass", "()Z"⟩ : MethodName)) (a := dd) (C := "com/example/greylag/greylag/Decision") [] [] (ctByp l Z a0 hw hEL z0 S0 hz0 dd b2571 _ _ F3079) F3075 (w 76 rfl) (w 77 rfl) (w 79 rfl) (w 78 rfl) (w 35 rfl) (w 80 rfl) (by decide) (fun _ q => nomatch q) (by decide) 0 (by decide) (by decide) (by decide) (lenOf pd_14 rfl) rfl (Nat.le_of_ble_eq_true rfl) (by rw [hml]; rfl) (D at_442) ?_
          rintro T3080 h3081 _ X3083 K3084 rfl
          have F3085 := F3073.keep K3084 nin0 nin0
          have F3086 := F3074.keep K3084 nin0 nin0
          have F3087 := F3075.keep K3084
          have F3088 := F3076.keep K3084 nin0
          have F3089 := F3077.keep K3084 nin0
          have F3090 := F3078.keep K3084 nin0
          have F3091 := F3079.keep K3084 nin0
          show Goes p.tables e below _ (T3080.setTop (mkF m 445 #[.val (.int p0), .val (.int p1), .val (.int p2), .val (.int p3), .val (.int (p0 &&& (3 : Int32))), .val (.int (c8 p1)), .val (.int (c8 p2)), .val (.int (c8 p3)), .val (.ref b2442), .val (.ref b2469), .val (.ref b2571), .val (.ref b3001), .val (.ref dd)] [(.int (1 : Int32))]))
          refine X3083.if_eq 473 (D at_445) ⟨by decide, by decide⟩ (fun hc3092 => absurd hc3092 (by decide)) (fun hc3092 => ?_)
          refine X3083.aload (x := (.ref dd)) (D at_448) rfl rfl ?_
          refine X3083.callv (y := (⟨"com/example/greylag/greylag/Decision", "allowed", "()Z"⟩ : MethodName)) (a := dd) (C := "com/example/greylag/greylag/Decision") [] [] (ctAll l Z a0 hw hEL z0 S0 hz0 dd b2571 _ _ F3091) F3087 (w 81 rfl) (w 82 rfl) (w 84 rfl) (w 83 rfl) (w 35 rfl) (w 85 rfl) (by decide) (fun _ q => nomatch q) (by decide) 0 (by decide) (by decide) (by decide) (lenOf pd_14 rfl) rfl (Nat.le_of_ble_eq_true rfl) (by rw [hml]; rfl) (D at_450) ?_
          rintro T3093 h3094 _ X3096 K3097 rfl
          have F3098 := F3085.keep K3097 nin0 nin0
          have F3099 := F3086.keep K3097 nin0 nin0
          have F3100 := F3087.keep K3097
          have F3101 := F3088.keep K3097 nin0
          have F3102 := F3089.keep K3097 nin0
          have F3103 := F3090.keep K3097 nin0
          have F3104 := F3091.keep K3097 nin0
          show Goes p.tables e below _ (T3093.setTop (mkF m 453 #[.val (.int p0), .val (.int p1), .val (.int p2), .val (.int p3), .val (.int (p0 &&& (3 : Int32))), .val (.int (c8 p1)), .val (.int (c8 p2)), .val (.int (c8 p3)), .val (.ref b2442), .val (.ref b2469), .val (.ref b2571), .val (.ref b3001), .val (.ref dd)] [(.int (1 : Int32))]))
          refine X3096.if_eq 473 (D at_453) ⟨by decide, by decide⟩ (fun hc3105 => absurd hc3105 (by decide)) (fun hc3105 => ?_)
          refine X3096.aload (x := (.ref b3001)) (D at_456) rfl rfl ?_
          refine X3096.aload (x := (.ref dd)) (D at_458) rfl rfl ?_
          refine X3096.callv (y := (⟨"com/example/greylag/greylag/Decision", "explanation", "()Ljava/lang/String;"⟩ : MethodName)) (a := dd) (C := "com/example/greylag/greylag/Decision") [] [(.ref b3001)] (ctEx3 l Z a0 hw hEL z0 S0 hz0 dd b2571 t2989 (c8 p1) (c8 p2) (c8 p3) _ _ F3100 F3101 F3104 F3098) F3100 (w 86 rfl) (w 87 rfl) (w 89 rfl) (w 88 rfl) (w 35 rfl) (w 90 rfl) (by decide) (fun _ q => nomatch q) (by decide) 1 (by decide) (by decide) (by decide) (lenOf pd_18 rfl) rfl (Nat.le_of_ble_eq_true rfl) (by rw [hml]; rfl) (D at_460) ?_
          rintro T3106 h3107 _ X3109 K3110 ⟨s9, t9, rfl, O9⟩
          have F3111 := F3098.keep K3110 nin0 nin0
          have F3112 := F3099.keep K3110 nin0 nin0
          have F3113 := F3100.keep K3110
          have F3114 := F3101.keep K3110 nin0
          have F3115 := F3102.keep K3110 nin0
          have F3116 := F3103.keep K3110 nin0
          have F3117 := F3104.keep K3110 nin0
          show Goes p.tables e below _ (T3106.setTop (mkF m 463 #[.val (.int p0), .val (.int p1), .val (.int p2), .val (.int p3), .val (.int (p0 &&& (3 : Int32))), .val (.int (c8 p1)), .val (.int (c8 p2)), .val (.int (c8 p3)), .val (.ref b2442), .val (.ref b2469), .val (.ref b2571), .val (.ref b3001), .val (.ref dd)] [(.ref s9), (.ref b3001)]))
          show Goes p.tables e below _ (T3106.setTop (mkF m 463 #[.val (.int p0), .val (.int p1), .val (.int p2), .val (.int p3), .val (.int (p0 &&& (3 : Int32))), .val (.int (c8 p1)), .val (.int (c8 p2)), .val (.int (c8 p3)), .val (.ref b2442), .val (.ref b2469), .val (.ref b2571), .val (.ref b3001), .val (.ref dd)] [(.ref s9), (.ref b3001)]))
          refine X3109.strEq (w 61 rfl) (w 62 rfl) (w 64 rfl) (w 63 rfl) (fun d q => hw d (hwsE d q)) (w 2 rfl) F3112 O9 S0 hz0 (by decide) 0 (Nat.le_of_ble_eq_true rfl) (by decide) (by decide) (by decide) (by rw [hml]; rfl) (D at_463) (fun T3118 X3119 hc3120 => ?_) (fun T3118 X3119 hc3120 => ?_)
          · show Goes p.tables e below _ (T3118.setTop (mkF m 466 #[.val (.int p0), .val (.int p1), .val (.int p2), .val (.int p3), .val (.int (p0 &&& (3 : Int32))), .val (.int (c8 p1)), .val (.int (c8 p2)), .val (.int (c8 p3)), .val (.ref b2442), .val (.ref b2469), .val (.ref b2571), .val (.ref b3001), .val (.ref dd)] [(.int (1 : Int32))]))
            refine X3119.if_eq 473 (D at_466) ⟨by decide, by decide⟩ (fun hc3121 => absurd hc3121 (by decide)) (fun hc3121 => ?_)
            refine X3119.iconst (x := (1 : Int32)) (D at_469) rfl ?_
            refine X3119.goto 474 (D at_470) ⟨by decide, by decide⟩ ?_
            exact X3119.reti hret (by simp) hlk (D at_474) (by decide) (by decide) (rfl)
          · show Goes p.tables e below _ (T3118.setTop (mkF m 466 #[.val (.int p0), .val (.int p1), .val (.int p2), .val (.int p3), .val (.int (p0 &&& (3 : Int32))), .val (.int (c8 p1)), .val (.int (c8 p2)), .val (.int (c8 p3)), .val (.ref b2442), .val (.ref b2469), .val (.ref b2571), .val (.ref b3001), .val (.ref dd)] [(.int (0 : Int32))]))
            exact (hc3120 rfl).elim
        · show Goes p.tables e below _ (T3051.setTop (mkF m 420 #[.val (.int p0), .val (.int p1), .val (.int p2), .val (.int p3), .val (.int (p0 &&& (3 : Int32))), .val (.int (c8 p1)), .val (.int (c8 p2)), .val (.int (c8 p3)), .val (.ref b2442), .val (.ref b2469), .val (.ref b2571), .val (.ref b3001), .val (.ref dd)] [(.int (0 : Int32))]))
          exact (hc3053 rfl).elim
      · show Goes p.tables e below _ (T0.setTop (mkF m 193 #[.val (.int p0), .val (.int p1), .val (.int p2), .val (.int p3), .val (.int (p0 &&& (3 : Int32))), .val (.int (c8 p1)), .val (.int (c8 p2)), .val (.int (c8 p3)), .unset, .unset, .unset, .unset, .unset] []))
        refine X0.iconst (x := (2 : Int32)) (D at_193) rfl ?_
        refine X0.newarr (w 0 rfl) (n := (2 : Int32)) (D at_194) (by decide) 2 (by decide) (by decide) (by decide) (by decide) ?_
        intro T2309 h2310 b2311 kb2312 g2313 X2314 E2315 A2316
        have F2317 : Arv Z h2310 b2311 kb2312 .char (2 : Int32) [(.int (0 : Int32)), (.int (0 : Int32))] (.int (0 : Int32)) := A2316.pad (pad_rep [] (.int (0 : Int32)) 2)
        show Goes p.tables e below _ (T2309.setTop (mkF m 196 #[.val (.int p0), .val (.int p1), .val (.int p2), .val (.int p3), .val (.int (p0 &&& (3 : Int32))), .val (.int (c8 p1)), .val (.int (c8 p2)), .val (.int (c8 p3)), .unset, .unset, .unset, .unset, .unset] [(.ref b2311)]))
        refine X2314.dup (D at_196) rfl ?_
        refine X2314.iconst (x := (0 : Int32)) (D at_197) rfl ?_
        refine X2314.iload (x := (c8 p1)) (D at_198) rfl ?_
        show Goes p.tables e below _ (T2309.setTop (mkF m 200 #[.val (.int p0), .val (.int p1), .val (.int p2), .val (.int p3), .val (.int (p0 &&& (3 : Int32))), .val (.int (c8 p1)), .val (.int (c8 p2)), .val (.int (c8 p3)), .unset, .unset, .unset, .unset, .unset] [(.int (c8 p1)), (.int (0 : Int32)), (.ref b2311), (.ref b2311)]))
        refine X2314.castore F2317 ⟨by decide, by decide⟩ 0 rfl (Nat.le_of_ble_eq_true rfl) (by simp) (D at_200) ?_
        intro T2318 h2319 X2320 W2321 A2322
        have F2323 : Arv Z h2319 b2311 kb2312 .char (2 : Int32) [(.int (c8 p1)), (.int (0 : Int32))] (.int (0 : Int32)) := by rw [nar_c8 p1] at A2322; exact A2322
        show Goes p.tables e below _ (T2318.setTop (mkF m 201 #[.val (.int p0), .val (.int p1), .val (.int p2), .val (.int p3), .val (.int (p0 &&& (3 : Int32))), .val (.int (c8 p1)), .val (.int (c8 p2)), .val (.int (c8 p3)), .unset, .unset, .unset, .unset, .unset] [(.ref b2311)]))
        refine X2320.dup (D at_201) rfl ?_
        refine X2320.iconst (x := (1 : Int32)) (D at_202) rfl ?_
        refine X2320.iload (x := (c8 p2)) (D at_203) rfl ?_
        show Goes p.tables e below _ (T2318.setTop (mkF m 205 #[.val (.int p0), .val (.int p1), .val (.int p2), .val (.int p3), .val (.int (p0 &&& (3 : Int32))), .val (.int (c8 p1)), .val (.int (c8 p2)), .val (.int (c8 p3)), .unset, .unset, .unset, .unset, .unset] [(.int (c8 p2)), (.int (1 : Int32)), (.ref b2311), (.ref b2311)]))
        refine X2320.castore F2323 ⟨by decide, by decide⟩ 1 rfl (Nat.le_of_ble_eq_true rfl) (by simp) (D at_205) ?_
        intro T2324 h2325 X2326 W2327 A2328
        have F2329 : Arv Z h2325 b2311 kb2312 .char (2 : Int32) [(.int (c8 p1)), (.int (c8 p2))] (.int (0 : Int32)) := by rw [nar_c8 p2] at A2328; exact A2328
        show Goes p.tables e below _ (T2324.setTop (mkF m 206 #[.val (.int p0), .val (.int p1), .val (.int p2), .val (.int p3), .val (.int (p0 &&& (3 : Int32))), .val (.int (c8 p1)), .val (.int (c8 p2)), .val (.int (c8 p3)), .unset, .unset, .unset, .unset, .unset] [(.ref b2311)]))
        refine X2326.astore #[.val (.int p0), .val (.int p1), .val (.int p2), .val (.int p3), .val (.int (p0 &&& (3 : Int32))), .val (.int (c8 p1)), .val (.int (c8 p2)), .val (.int (c8 p3)), .val (.ref b2311), .unset, .unset, .unset, .unset] (D at_206) rfl rfl ?_
        refine X2326.bipush (x := (12 : Int32)) (D at_208) rfl ?_
        refine X2326.newarr (w 0 rfl) (n := (12 : Int32)) (D at_210) (by decide) 12 (by decide) (by decide) (by decide) (by decide) ?_
        intro T2330 h2331 b2332 kb2333 g2334 X2335 E2336 A2337
        have F2338 := F2329.ext E2336
        have lt2339 : b2311 < b2332 := by rw [g2334]; exact F2329.lt
        have F2340 : Arv Z h2331 b2332 kb2333 .char (12 : Int32) [(.int (0 : Int32)), (.int (0 : Int32)), (.int (0 : Int32)), (.int (0 : Int32)), (.int (0 : Int32)), (.int (0 : Int32)), (.int (0 : Int32)), (.int (0 : Int32)), (.int (0 : Int32)), (.int (0 : Int32)), (.int (0 : Int32)), (.int (0 : Int32))] (.int (0 : Int32)) := A2337.pad (pad_rep [] (.int (0 : Int32)) 12)
        show Goes p.tables e below _ (T2330.setTop (mkF m 212 #[.val (.int p0), .val (.int p1), .val (.int p2), .val (.int p3), .val (.int (p0 &&& (3 : Int32))), .val (.int (c8 p1)), .val (.int (c8 p2)), .val (.int (c8 p3)), .val (.ref b2311), .unset, .unset, .unset, .unset] [(.ref b2332)]))
        refine X2335.dup (D at_212) rfl ?_
        refine X2335.iconst (x := (0 : Int32)) (D at_213) rfl ?_
        refine X2335.bipush (x := (98 : Int32)) (D at_214) rfl ?_
        show Goes p.tables e below _ (T2330.setTop (mkF m 216 #[.val (.int p0), .val (.int p1), .val (.int p2), .val (.int p3), .val (.int (p0 &&& (3 : Int32))), .val (.int (c8 p1)), .val (.int (c8 p2)), .val (.int (c8 p3)), .val (.ref b2311), .unset, .unset, .unset, .unset] [(.int (98 : Int32)), (.int (0 : Int32)), (.ref b2332), (.ref b2332)]))
        refine X2335.castore F2340 ⟨by decide, by decide⟩ 0 rfl (Nat.le_of_ble_eq_true rfl) (by simp) (D at_216) ?_
        intro T2341 h2342 X2343 W2344 A2345
        have F2346 := F2338.other W2344 (Nat.ne_of_lt lt2339)
        have F2347 : Arv Z h2342 b2332 kb2333 .char (12 : Int32) [(.int (98 : Int32)), (.int (0 : Int32)), (.int (0 : Int32)), (.int (0 : Int32)), (.int (0 : Int32)), (.int (0 : Int32)), (.int (0 : Int32)), (.int (0 : Int32)), (.int (0 : Int32)), (.int (0 : Int32)), (.int (0 : Int32)), (.int (0 : Int32))] (.int (0 : Int32)) := by exact A2345
        show Goes p.tables e below _ (T2341.setTop (mkF m 217 #[.val (.int p0), .val (.int p1), .val (.int p2), .val (.int p3), .val (.int (p0 &&& (3 : Int32))), .val (.int (c8 p1)), .val (.int (c8 p2)), .val (.int (c8 p3)), .val (.ref b2311), .unset, .unset, .unset, .unset] [(.ref b2332)]))
        refine X2343.dup (D at_217) rfl ?_
        refine X2343.iconst (x := (1 : Int32)) (D at_218) rfl ?_
        refine X2343.bipush (x := (121 : Int32)) (D at_219) rfl ?_
        show Goes p.tables e below _ (T2341.setTop (mkF m 221 #[.val (.int p0), .val (.int p1), .val (.int p2), .val (.int p3), .val (.int (p0 &&& (3 : Int32))), .val (.int (c8 p1)), .val (.int (c8 p2)), .val (.int (c8 p3)), .val (.ref b2311), .unset, .unset, .unset, .unset] [(.int (121 : Int32)), (.int (1 : Int32)), (.ref b2332), (.ref b2332)]))
        refine X2343.castore F2347 ⟨by decide, by decide⟩ 1 rfl (Nat.le_of_ble_eq_true rfl) (by simp) (D at_221) ?_
        intro T2348 h2349 X2350 W2351 A2352
        have F2353 := F2346.other W2351 (Nat.ne_of_lt lt2339)
        have F2354 : Arv Z h2349 b2332 kb2333 .char (12 : Int32) [(.int (98 : Int32)), (.int (121 : Int32)), (.int (0 : Int32)), (.int (0 : Int32)), (.int (0 : Int32)), (.int (0 : Int32)), (.int (0 : Int32)), (.int (0 : Int32)), (.int (0 : Int32)), (.int (0 : Int32)), (.int (0 : Int32)), (.int (0 : Int32))] (.int (0 : Int32)) := by exact A2352
        show Goes p.tables e below _ (T2348.setTop (mkF m 222 #[.val (.int p0), .val (.int p1), .val (.int p2), .val (.int p3), .val (.int (p0 &&& (3 : Int32))), .val (.int (c8 p1)), .val (.int (c8 p2)), .val (.int (c8 p3)), .val (.ref b2311), .unset, .unset, .unset, .unset] [(.ref b2332)]))
        refine X2350.dup (D at_222) rfl ?_
        refine X2350.iconst (x := (2 : Int32)) (D at_223) rfl ?_
        refine X2350.bipush (x := (32 : Int32)) (D at_224) rfl ?_
        show Goes p.tables e below _ (T2348.setTop (mkF m 226 #[.val (.int p0), .val (.int p1), .val (.int p2), .val (.int p3), .val (.int (p0 &&& (3 : Int32))), .val (.int (c8 p1)), .val (.int (c8 p2)), .val (.int (c8 p3)), .val (.ref b2311), .unset, .unset, .unset, .unset] [(.int (32 : Int32)), (.int (2 : Int32)), (.ref b2332), (.ref b2332)]))
        refine X2350.castore F2354 ⟨by decide, by decide⟩ 2 rfl (Nat.le_of_ble_eq_true rfl) (by simp) (D at_226) ?_
        intro T2355 h2356 X2357 W2358 A2359
        have F2360 := F2353.other W2358 (Nat.ne_of_lt lt2339)
        have F2361 : Arv Z h2356 b2332 kb2333 .char (12 : Int32) [(.int (98 : Int32)), (.int (121 : Int32)), (.int (32 : Int32)), (.int (0 : Int32)), (.int (0 : Int32)), (.int (0 : Int32)), (.int (0 : Int32)), (.int (0 : Int32)), (.int (0 : Int32)), (.int (0 : Int32)), (.int (0 : Int32)), (.int (0 : Int32))] (.int (0 : Int32)) := by exact A2359
        show Goes p.tables e below _ (T2355.setTop (mkF m 227 #[.val (.int p0), .val (.int p1), .val (.int p2), .val (.int p3), .val (.int (p0 &&& (3 : Int32))), .val (.int (c8 p1)), .val (.int (c8 p2)), .val (.int (c8 p3)), .val (.ref b2311), .unset, .unset, .unset, .unset] [(.ref b2332)]))
        refine X2357.dup (D at_227) rfl ?_
        refine X2357.iconst (x := (3 : Int32)) (D at_228) rfl ?_
        refine X2357.bipush (x := (98 : Int32)) (D at_229) rfl ?_
        show Goes p.tables e below _ (T2355.setTop (mkF m 231 #[.val (.int p0), .val (.int p1), .val (.int p2), .val (.int p3), .val (.int (p0 &&& (3 : Int32))), .val (.int (c8 p1)), .val (.int (c8 p2)), .val (.int (c8 p3)), .val (.ref b2311), .unset, .unset, .unset, .unset] [(.int (98 : Int32)), (.int (3 : Int32)), (.ref b2332), (.ref b2332)]))
        refine X2357.castore F2361 ⟨by decide, by decide⟩ 3 rfl (Nat.le_of_ble_eq_true rfl) (by simp) (D at_231) ?_
        intro T2362 h2363 X2364 W2365 A2366
        have F2367 := F2360.other W2365 (Nat.ne_of_lt lt2339)
        have F2368 : Arv Z h2363 b2332 kb2333 .char (12 : Int32) [(.int (98 : Int32)), (.int (121 : Int32)), (.int (32 : Int32)), (.int (98 : Int32)), (.int (0 : Int32)), (.int (0 : Int32)), (.int (0 : Int32)), (.int (0 : Int32)), (.int (0 : Int32)), (.int (0 : Int32)), (.int (0 : Int32)), (.int (0 : Int32))] (.int (0 : Int32)) := by exact A2366
        show Goes p.tables e below _ (T2362.setTop (mkF m 232 #[.val (.int p0), .val (.int p1), .val (.int p2), .val (.int p3), .val (.int (p0 &&& (3 : Int32))), .val (.int (c8 p1)), .val (.int (c8 p2)), .val (.int (c8 p3)), .val (.ref b2311), .unset, .unset, .unset, .unset] [(.ref b2332)]))
        refine X2364.dup (D at_232) rfl ?_
        refine X2364.iconst (x := (4 : Int32)) (D at_233) rfl ?_
        refine X2364.bipush (x := (121 : Int32)) (D at_234) rfl ?_
        show Goes p.tables e below _ (T2362.setTop (mkF m 236 #[.val (.int p0), .val (.int p1), .val (.int p2), .val (.int p3), .val (.int (p0 &&& (3 : Int32))), .val (.int (c8 p1)), .val (.int (c8 p2)), .val (.int (c8 p3)), .val (.ref b2311), .unset, .unset, .unset, .unset] [(.int (121 : Int32)), (.int (4 : Int32)), (.ref b2332), (.ref b2332)]))
        refine X2364.castore F2368 ⟨by decide, by decide⟩ 4 rfl (Nat.le_of_ble_eq_true rfl) (by simp) (D at_236) ?_
        intro T2369 h2370 X2371 W2372 A2373
        have F2374 := F2367.other W2372 (Nat.ne_of_lt lt2339)
        have F2375 : Arv Z h2370 b2332 kb2333 .char (12 : Int32) [(.int (98 : Int32)), (.int (121 : Int32)), (.int (32 : Int32)), (.int (98 : Int32)), (.int (121 : Int32)), (.int (0 : Int32)), (.int (0 : Int32)), (.int (0 : Int32)), (.int (0 : Int32)), (.int (0 : Int32)), (.int (0 : Int32)), (.int (0 : Int32))] (.int (0 : Int32)) := by exact A2373
        show Goes p.tables e below _ (T2369.setTop (mkF m 237 #[.val (.int p0), .val (.int p1), .val (.int p2), .val (.int p3), .val (.int (p0 &&& (3 : Int32))), .val (.int (c8 p1)), .val (.int (c8 p2)), .val (.int (c8 p3)), .val (.ref b2311), .unset, .unset, .unset, .unset] [(.ref b2332)]))
        refine X2371.dup (D at_237) rfl ?_
        refine X2371.iconst (x := (5 : Int32)) (D at_238) rfl ?_
        refine X2371.bipush (x := (112 : Int32)) (D at_239) rfl ?_
        show Goes p.tables e below _ (T2369.setTop (mkF m 241 #[.val (.int p0), .val (.int p1), .val (.int p2), .val (.int p3), .val (.int (p0 &&& (3 : Int32))), .val (.int (c8 p1)), .val (.int (c8 p2)), .val (.int (c8 p3)), .val (.ref b2311), .unset, .unset, .unset, .unset] [(.int (112 : Int32)), (.int (5 : Int32)), (.ref b2332), (.ref b2332)]))
        refine X2371.castore F2375 ⟨by decide, by decide⟩ 5 rfl (Nat.le_of_ble_eq_true rfl) (by simp) (D at_241) ?_
        intro T2376 h2377 X2378 W2379 A2380
        have F2381 := F2374.other W2379 (Nat.ne_of_lt lt2339)
        have F2382 : Arv Z h2377 b2332 kb2333 .char (12 : Int32) [(.int (98 : Int32)), (.int (121 : Int32)), (.int (32 : Int32)), (.int (98 : Int32)), (.int (121 : Int32)), (.int (112 : Int32)), (.int (0 : Int32)), (.int (0 : Int32)), (.int (0 : Int32)), (.int (0 : Int32)), (.int (0 : Int32)), (.int (0 : Int32))] (.int (0 : Int32)) := by exact A2380
        show Goes p.tables e below _ (T2376.setTop (mkF m 242 #[.val (.int p0), .val (.int p1), .val (.int p2), .val (.int p3), .val (.int (p0 &&& (3 : Int32))), .val (.int (c8 p1)), .val (.int (c8 p2)), .val (.int (c8 p3)), .val (.ref b2311), .unset, .unset, .unset, .unset] [(.ref b2332)]))
        refine X2378.dup (D at_242) rfl ?_
        refine X2378.bipush (x := (6 : Int32)) (D at_243) rfl ?_
        refine X2378.bipush (x := (97 : Int32)) (D at_245) rfl ?_
        show Goes p.tables e below _ (T2376.setTop (mkF m 247 #[.val (.int p0), .val (.int p1), .val (.int p2), .val (.int p3), .val (.int (p0 &&& (3 : Int32))), .val (.int (c8 p1)), .val (.int (c8 p2)), .val (.int (c8 p3)), .val (.ref b2311), .unset, .unset, .unset, .unset] [(.int (97 : Int32)), (.int (6 : Int32)), (.ref b2332), (.ref b2332)]))
        refine X2378.castore F2382 ⟨by decide, by decide⟩ 6 rfl (Nat.le_of_ble_eq_true rfl) (by simp) (D at_247) ?_
        intro T2383 h2384 X2385 W2386 A2387
        have F2388 := F2381.other W2386 (Nat.ne_of_lt lt2339)
        have F2389 : Arv Z h2384 b2332 kb2333 .char (12 : Int32) [(.int (98 : Int32)), (.int (121 : Int32)), (.int (32 : Int32)), (.int (98 : Int32)), (.int (121 : Int32)), (.int (112 : Int32)), (.int (97 : Int32)), (.int (0 : Int32)), (.int (0 : Int32)), (.int (0 : Int32)), (.int (0 : Int32)), (.int (0 : Int32))] (.int (0 : Int32)) := by exact A2387
        show Goes p.tables e below _ (T2383.setTop (mkF m 248 #[.val (.int p0), .val (.int p1), .val (.int p2), .val (.int p3), .val (.int (p0 &&& (3 : Int32))), .val (.int (c8 p1)), .val (.int (c8 p2)), .val (.int (c8 p3)), .val (.ref b2311), .unset, .unset, .unset, .unset] [(.ref b2332)]))
        refine X2385.dup (D at_248) rfl ?_
        refine X2385.bipush (x := (7 : Int32)) (D at_249) rfl ?_
        refine X2385.bipush (x := (115 : Int32)) (D at_251) rfl ?_
        show Goes p.tables e below _ (T2383.setTop (mkF m 253 #[.val (.int p0), .val (.int p1), .val (.int p2), .val (.int p3), .val (.int (p0 &&& (3 : Int32))), .val (.int (c8 p1)), .val (.int (c8 p2)), .val (.int (c8 p3)), .val (.ref b2311), .unset, .unset, .unset, .unset] [(.int (115 : Int32)), (.int (7 : Int32)), (.ref b2332), (.ref b2332)]))
        refine X2385.castore F2389 ⟨by decide, by decide⟩ 7 rfl (Nat.le_of_ble_eq_true rfl) (by simp) (D at_253) ?_
        intro T2390 h2391 X2392 W2393 A2394
        have F2395 := F2388.other W2393 (Nat.ne_of_lt lt2339)
        have F2396 : Arv Z h2391 b2332 kb2333 .char (12 : Int32) [(.int (98 : Int32)), (.int (121 : Int32)), (.int (32 : Int32)), (.int (98 : Int32)), (.int (121 : Int32)), (.int (112 : Int32)), (.int (97 : Int32)), (.int (115 : Int32)), (.int (0 : Int32)), (.int (0 : Int32)), (.int (0 : Int32)), (.int (0 : Int32))] (.int (0 : Int32)) := by exact A2394
        show Goes p.tables e below _ (T2390.setTop (mkF m 254 #[.val (.int p0), .val (.int p1), .val (.int p2), .val (.int p3), .val (.int (p0 &&& (3 : Int32))), .val (.int (c8 p1)), .val (.int (c8 p2)), .val (.int (c8 p3)), .val (.ref b2311), .unset, .unset, .unset, .unset] [(.ref b2332)]))
        refine X2392.dup (D at_254) rfl ?_
        refine X2392.bipush (x := (8 : Int32)) (D at_255) rfl ?_
        refine X2392.bipush (x := (115 : Int32)) (D at_257) rfl ?_
        show Goes p.tables e below _ (T2390.setTop (mkF m 259 #[.val (.int p0), .val (.int p1), .val (.int p2), .val (.int p3), .val (.int (p0 &&& (3 : Int32))), .val (.int (c8 p1)), .val (.int (c8 p2)), .val (.int (c8 p3)), .val (.ref b2311), .unset, .unset, .unset, .unset] [(.int (115 : Int32)), (.int (8 : Int32)), (.ref b2332), (.ref b2332)]))
        refine X2392.castore F2396 ⟨by decide, by decide⟩ 8 rfl (Nat.le_of_ble_eq_true rfl) (by simp) (D at_259) ?_
        intro T2397 h2398 X2399 W2400 A2401
        have F2402 := F2395.other W2400 (Nat.ne_of_lt lt2339)
        have F2403 : Arv Z h2398 b2332 kb2333 .char (12 : Int32) [(.int (98 : Int32)), (.int (121 : Int32)), (.int (32 : Int32)), (.int (98 : Int32)), (.int (121 : Int32)), (.int (112 : Int32)), (.int (97 : Int32)), (.int (115 : Int32)), (.int (115 : Int32)), (.int (0 : Int32)), (.int (0 : Int32)), (.int (0 : Int32))] (.int (0 : Int32)) := by exact A2401
        show Goes p.tables e below _ (T2397.setTop (mkF m 260 #[.val (.int p0), .val (.int p1), .val (.int p2), .val (.int p3), .val (.int (p0 &&& (3 : Int32))), .val (.int (c8 p1)), .val (.int (c8 p2)), .val (.int (c8 p3)), .val (.ref b2311), .unset, .unset, .unset, .unset] [(.ref b2332)]))
        refine X2399.dup (D at_260) rfl ?_
        refine X2399.bipush (x := (9 : Int32)) (D at_261) rfl ?_
        refine X2399.bipush (x := (32 : Int32)) (D at_263) rfl ?_
        show Goes p.tables e below _ (T2397.setTop (mkF m 265 #[.val (.int p0), .val (.int p1), .val (.int p2), .val (.int p3), .val (.int (p0 &&& (3 : Int32))), .val (.int (c8 p1)), .val (.int (c8 p2)), .val (.int (c8 p3)), .val (.ref b2311), .unset, .unset, .unset, .unset] [(.int (32 : Int32)), (.int (9 : Int32)), (.ref b2332), (.ref b2332)]))
        refine X2399.castore F2403 ⟨by decide, by decide⟩ 9 rfl (Nat.le_of_ble_eq_true rfl) (by simp) (D at_265) ?_
        intro T2404 h2405 X2406 W2407 A2408
        have F2409 := F2402.other W2407 (Nat.ne_of_lt lt2339)
        have F2410 : Arv Z h2405 b2332 kb2333 .char (12 : Int32) [(.int (98 : Int32)), (.int (121 : Int32)), (.int (32 : Int32)), (.int (98 : Int32)), (.int (121 : Int32)), (.int (112 : Int32)), (.int (97 : Int32)), (.int (115 : Int32)), (.int (115 : Int32)), (.int (32 : Int32)), (.int (0 : Int32)), (.int (0 : Int32))] (.int (0 : Int32)) := by exact A2408
        show Goes p.tables e below _ (T2404.setTop (mkF m 266 #[.val (.int p0), .val (.int p1), .val (.int p2), .val (.int p3), .val (.int (p0 &&& (3 : Int32))), .val (.int (c8 p1)), .val (.int (c8 p2)), .val (.int (c8 p3)), .val (.ref b2311), .unset, .unset, .unset, .unset] [(.ref b2332)]))
        refine X2406.dup (D at_266) rfl ?_
        refine X2406.bipush (x := (10 : Int32)) (D at_267) rfl ?_
        refine X2406.iload (x := (c8 p1)) (D at_269) rfl ?_
        show Goes p.tables e below _ (T2404.setTop (mkF m 271 #[.val (.int p0), .val (.int p1), .val (.int p2), .val (.int p3), .val (.int (p0 &&& (3 : Int32))), .val (.int (c8 p1)), .val (.int (c8 p2)), .val (.int (c8 p3)), .val (.ref b2311), .unset, .unset, .unset, .unset] [(.int (c8 p1)), (.int (10 : Int32)), (.ref b2332), (.ref b2332)]))
        refine X2406.castore F2410 ⟨by decide, by decide⟩ 10 rfl (Nat.le_of_ble_eq_true rfl) (by simp) (D at_271) ?_
        intro T2411 h2412 X2413 W2414 A2415
        have F2416 := F2409.other W2414 (Nat.ne_of_lt lt2339)
        have F2417 : Arv Z h2412 b2332 kb2333 .char (12 : Int32) [(.int (98 : Int32)), (.int (121 : Int32)), (.int (32 : Int32)), (.int (98 : Int32)), (.int (121 : Int32)), (.int (112 : Int32)), (.int (97 : Int32)), (.int (115 : Int32)), (.int (115 : Int32)), (.int (32 : Int32)), (.int (c8 p1)), (.int (0 : Int32))] (.int (0 : Int32)) := by rw [nar_c8 p1] at A2415; exact A2415
        show Goes p.tables e below _ (T2411.setTop (mkF m 272 #[.val (.int p0), .val (.int p1), .val (.int p2), .val (.int p3), .val (.int (p0 &&& (3 : Int32))), .val (.int (c8 p1)), .val (.int (c8 p2)), .val (.int (c8 p3)), .val (.ref b2311), .unset, .unset, .unset, .unset] [(.ref b2332)]))
        refine X2413.dup (D at_272) rfl ?_
        refine X2413.bipush (x := (11 : Int32)) (D at_273) rfl ?_
        refine X2413.iload (x := (c8 p2)) (D at_275) rfl ?_
        show Goes p.tables e below _ (T2411.setTop (mkF m 277 #[.val (.int p0), .val (.int p1), .val (.int p2), .val (.int p3), .val (.int (p0 &&& (3 : Int32))), .val (.int (c8 p1)), .val (.int (c8 p2)), .val (.int (c8 p3)), .val (.ref b2311), .unset, .unset, .unset, .unset] [(.int (c8 p2)), (.int (11 : Int32)), (.ref b2332), (.ref b2332)]))
        refine X2413.castore F2417 ⟨by decide, by decide⟩ 11 rfl (Nat.le_of_ble_eq_true rfl) (by simp) (D at_277) ?_
        intro T2418 h2419 X2420 W2421 A2422
        have F2423 := F2416.other W2421 (Nat.ne_of_lt lt2339)
        have F2424 : Arv Z h2419 b2332 kb2333 .char (12 : Int32) [(.int (98 : Int32)), (.int (121 : Int32)), (.int (32 : Int32)), (.int (98 : Int32)), (.int (121 : Int32)), (.int (112 : Int32)), (.int (97 : Int32)), (.int (115 : Int32)), (.int (115 : Int32)), (.int (32 : Int32)), (.int (c8 p1)), (.int (c8 p2))] (.int (0 : Int32)) := by rw [nar_c8 p2] at A2422; exact A2422
        show Goes p.tables e below _ (T2418.setTop (mkF m 278 #[.val (.int p0), .val (.int p1), .val (.int p2), .val (.int p3), .val (.int (p0 &&& (3 : Int32))), .val (.int (c8 p1)), .val (.int (c8 p2)), .val (.int (c8 p3)), .val (.ref b2311), .unset, .unset, .unset, .unset] [(.ref b2332)]))
        refine X2420.astore #[.val (.int p0), .val (.int p1), .val (.int p2), .val (.int p3), .val (.int (p0 &&& (3 : Int32))), .val (.int (c8 p1)), .val (.int (c8 p2)), .val (.int (c8 p3)), .val (.ref b2311), .val (.ref b2332), .unset, .unset, .unset] (D at_278) rfl rfl ?_
        refine X2420.goto 381 (D at_280) ⟨by decide, by decide⟩ ?_
        refine X2420.new (w 1 rfl) (w 2 rfl) (w 3 rfl) (D at_381) (by decide) (by decide) ?_
        intro T2425 h2426 b2427 g2428 X2429 E2430 A2431 D2432 U2433
        have F2434 := F2423.ext E2430
        have F2435 := F2424.ext E2430
        have lt2436 : b2311 < b2427 := by rw [g2428]; exact F2423.lt
        have lt2437 : b2332 < b2427 := by rw [g2428]; exact F2424.lt
        have F2438 : Fld Z h2426 b2427 "java/lang/String" "value" "[B" .null := D2432 (Or.inr (w 16 rfl)) (ty := (.array .byte)) (by decide)
        have F2439 : Fld Z h2426 b2427 "java/lang/String" "coder" "B" (.int (0 : Int32)) := D2432 (Or.inr (w 17 rfl)) (ty := .byte) (by decide)
        show Goes p.tables e below _ (T2425.setTop (mkF m 384 #[.val (.int p0), .val (.int p1), .val (.int p2), .val (.int p3), .val (.int (p0 &&& (3 : Int32))), .val (.int (c8 p1)), .val (.int (c8 p2)), .val (.int (c8 p3)), .val (.ref b2311), .val (.ref b2332), .unset, .unset, .unset] [(.ref b2427)]))
        refine X2429.dup (D at_384) rfl ?_
        refine X2429.aload (x := (.ref b2311)) (D at_385) rfl rfl ?_
        show Goes p.tables e below _ (T2425.setTop (mkF m 387 #[.val (.int p0), .val (.int p1), .val (.int p2), .val (.int p3), .val (.int (p0 &&& (3 : Int32))), .val (.int (c8 p1)), .val (.int (c8 p2)), .val (.int (c8 p3)), .val (.ref b2311), .val (.ref b2332), .unset, .unset, .unset] [(.ref b2311), (.ref b2427), (.ref b2427)]))
        refine X2429.newStr (cs := [(c8 p1), (c8 p2)]) 2 (w 4 rfl) (w 5 rfl) (fun d q => hw d (hwsV d q)) (w 2 rfl) A2431 F2438 F2439 F2434 S0 hz0 rfl rfl (by decide) (by decide) (hpS (c8_rng p1) (hpS (c8_rng p2) hp0)) (by simp) (by decide) 1 (Nat.le_of_ble_eq_true rfl) (by decide) (by decide) (by decide) (by rw [hml]; rfl) (D at_387) ?_
        intro T2852 h2853 t2854 X2855 K2856 g2857 O2858
        have F2859 := F2434.keep K2856 (ninS (Nat.ne_of_lt lt2436) nin0)
        have F2860 := F2435.keep K2856 (ninS (Nat.ne_of_lt lt2437) nin0)
        have lt2861 : b2311 < t2854 := Nat.lt_of_lt_of_le F2434.lt g2857
        have lt2862 : b2332 < t2854 := Nat.lt_of_lt_of_le F2435.lt g2857
        have lt2863 : b2427 < t2854 := Nat.lt_of_lt_of_le A2431.lt g2857
        show Goes p.tables e below _ (T2852.setTop (mkF m 390 #[.val (.int p0), .val (.int p1), .val (.int p2), .val (.int p3), .val (.int (p0 &&& (3 : Int32))), .val (.int (c8 p1)), .val (.int (c8 p2)), .val (.int (c8 p3)), .val (.ref b2311), .val (.ref b2332), .unset, .unset, .unset] [(.ref b2427)]))
        refine X2855.astore #[.val (.int p0), .val (.int p1), .val (.int p2), .val (.int p3), .val (.int (p0 &&& (3 : Int32))), .val (.int (c8 p1)), .val (.int (c8 p2)), .val (.int (c8 p3)), .val (.ref b2311), .val (.ref b2332), .val (.ref b2427), .unset, .unset] (D at_390) rfl rfl ?_
        refine X2855.new (w 1 rfl) (w 2 rfl) (w 3 rfl) (D at_392) (by decide) (by decide) ?_
        intro T2864 h2865 b2866 g2867 X2868 E2869 A2870 D2871 U2872
        have F2873 := F2859.ext E2869
        have F2874 := F2860.ext E2869
        have F2875 := O2858.ext E2869
        have lt2876 : b2311 < b2866 := by rw [g2867]; exact F2859.lt
        have lt2877 : b2332 < b2866 := by rw [g2867]; exact F2860.lt
        have lt2878 : b2427 < b2866 := by rw [g2867]; exact O2858.lt
        have lt2879 : t2854 < b2866 := by rw [g2867]; exact O2858.ltb
        have F2880 : Fld Z h2865 b2866 "java/lang/String" "value" "[B" .null := D2871 (Or.inr (w 16 rfl)) (ty := (.array .byte)) (by decide)
        have F2881 : Fld Z h2865 b2866 "java/lang/String" "coder" "B" (.int (0 : Int32)) := D2871 (Or.inr (w 17 rfl)) (ty := .byte) (by decide)
        show Goes p.tables e below _ (T2864.setTop (mkF m 395 #[.val (.int p0), .val (.int p1), .val (.int p2), .val (.int p3), .val (.int (p0 &&& (3 : Int32))), .val (.int (c8 p1)), .val (.int (c8 p2)), .val (.int (c8 p3)), .val (.ref b2311), .val (.ref b2332), .val (.ref b2427), .unset, .unset] [(.ref b2866)]))
        refine X2868.dup (D at_395) rfl ?_
        refine X2868.aload (x := (.ref b2332)) (D at_396) rfl rfl ?_
        show Goes p.tables e below _ (T2864.setTop (mkF m 398 #[.val (.int p0), .val (.int p1), .val (.int p2), .val (.int p3), .val (.int (p0 &&& (3 : Int32))), .val (.int (c8 p1)), .val (.int (c8 p2)), .val (.int (c8 p3)), .val (.ref b2311), .val (.ref b2332), .val (.ref b2427), .unset, .unset] [(.ref b2332), (.ref b2866), (.ref b2866)]))
        refine X2868.newStr (cs := [(98 : Int32), (121 : Int32), (32 : Int32), (98 : Int32), (121 : Int32), (112 : Int32), (97 : Int32), (115 : Int32), (115 : Int32), (32 : Int32), (c8 p1), (c8 p2)]) 12 (w 4 rfl) (w 5 rfl) (fun d q => hw d (hwsV d q)) (w 2 rfl) A2870 F2880 F2881 F2874 S0 hz0 rfl rfl (by decide) (by decide) (hpS (by decide) (hpS (by decide) (hpS (by decide) (hpS (by decide) (hpS (by decide) (hpS (by decide) (hpS (by decide) (hpS (by decide) (hpS (by decide) (hpS (by decide) (hpS (c8_rng p1) (hpS (c8_rng p2) hp0)))))))))))) (by simp) (by decide) 1 (Nat.le_of_ble_eq_true rfl) (by decide) (by decide) (by decide) (by rw [hml]; rfl) (D at_398) ?_
        intro T2882 h2883 t2884 X2885 K2886 g2887 O2888
        have F2889 := F2873.keep K2886 (ninS (Nat.ne_of_lt lt2876) nin0)
        have F2890 := F2874.keep K2886 (ninS (Nat.ne_of_lt lt2877) nin0)
        have F2891 := F2875.keep K2886 (ninS (Nat.ne_of_lt lt2878) nin0) (ninS (Nat.ne_of_lt lt2879) nin0)
        have lt2892 : b2311 < t2884 := Nat.lt_of_lt_of_le F2873.lt g2887
        have lt2893 : b2332 < t2884 := Nat.lt_of_lt_of_le F2874.lt g2887
        have lt2894 : b2427 < t2884 := Nat.lt_of_lt_of_le F2875.lt g2887
        have lt2895 : t2854 < t2884 := Nat.lt_of_lt_of_le F2875.ltb g2887
        have lt2896 : b2866 < t2884 := Nat.lt_of_lt_of_le A2870.lt g2887
        show Goes p.tables e below _ (T2882.setTop (mkF m 401 #[.val (.int p0), .val (.int p1), .val (.int p2), .val (.int p3), .val (.int (p0 &&& (3 : Int32))), .val (.int (c8 p1)), .val (.int (c8 p2)), .val (.int (c8 p3)), .val (.ref b2311), .val (.ref b2332), .val (.ref b2427), .unset, .unset] [(.ref b2866)]))
        refine X2885.astore #[.val (.int p0), .val (.int p1), .val (.int p2), .val (.int p3), .val (.int (p0 &&& (3 : Int32))), .val (.int (c8 p1)), .val (.int (c8 p2)), .val (.int (c8 p3)), .val (.ref b2311), .val (.ref b2332), .val (.ref b2427), .val (.ref b2866), .unset] (D at_401) rfl rfl ?_
        refine X2885.aload (x := (.ref b2427)) (D at_403) rfl rfl ?_
        refine X2885.calls [(.ref b2427)] [] (ctBy l Z a0 hw hEL z0 S0 hz0 b2427 _ _) (w 33 rfl) (w 34 rfl) (w 35 rfl) (w 36 rfl) (by decide) (fun _ q => nomatch q) (by decide) 0 (by decide) (by decide) (by decide) (lenOf pd_20 rfl) rfl (Nat.le_of_ble_eq_true rfl) (by rw [hml]; rfl) (D at_405) ?_
        rintro T2897 h2898 _ X2900 K2901 ⟨dd, rfl, G0, G1, G2, G3, G4⟩
        have F2902 := F2891.keep K2901 nin0 nin0
        have F2903 := O2888.keep K2901 nin0 nin0
        show Goes p.tables e below _ (T2897.setTop (mkF m 408 #[.val (.int p0), .val (.int p1), .val (.int p2), .val (.int p3), .val (.int (p0 &&& (3 : Int32))), .val (.int (c8 p1)), .val (.int (c8 p2)), .val (.int (c8 p3)), .val (.ref b2311), .val (.ref b2332), .val (.ref b2427), .val (.ref b2866), .unset] [(.ref dd)]))
        refine X2900.astore #[.val (.int p0), .val (.int p1), .val (.int p2), .val (.int p3), .val (.int (p0 &&& (3 : Int32))), .val (.int (c8 p1)), .val (.int (c8 p2)), .val (.int (c8 p3)), .val (.ref b2311), .val (.ref b2332), .val (.ref b2427), .val (.ref b2866), .val (.ref dd)] (D at_408) rfl rfl ?_
        refine X2900.aload (x := (.ref b2427)) (D at_410) rfl rfl ?_
        refine X2900.aload (x := (.ref dd)) (D at_412) rfl rfl ?_
        refine X2900.callv (y := (⟨"com/example/greylag/greylag/Decision", "role", "()Ljava/lang/String;"⟩ : MethodName)) (a := dd) (C := "com/example/greylag/greylag/Decision") [] [(.ref b2427)] (ctRole l Z a0 hw hEL z0 S0 hz0 dd b2427 _ _ G1) G0 (w 56 rfl) (w 57 rfl) (w 59 rfl) (w 58 rfl) (w 35 rfl) (w 60 rfl) (by decide) (fun _ q => nomatch q) (by decide) 1 (by decide) (by decide) (by decide) (lenOf pd_18 rfl) rfl (Nat.le_of_ble_eq_true rfl) (by rw [hml]; rfl) (D at_414) ?_
        rintro T2904 h2905 _ X2907 K2908 rfl
        have F2909 := F2902.keep K2908 nin0 nin0
        have F2910 := F2903.keep K2908 nin0 nin0
        have F2911 := G0.keep K2908
        have F2912 := G1.keep K2908 nin0
        have F2913 := G2.keep K2908 nin0
        have F2914 := G3.keep K2908 nin0
        have F2915 := G4.keep K2908 nin0
        show Goes p.tables e below _ (T2904.setTop (mkF m 417 #[.val (.int p0), .val (.int p1), .val (.int p2), .val (.int p3), .val (.int (p0 &&& (3 : Int32))), .val (.int (c8 p1)), .val (.int (c8 p2)), .val (.int (c8 p3)), .val (.ref b2311), .val (.ref b2332), .val (.ref b2427), .val (.ref b2866), .val (.ref dd)] [(.ref b2427), (.ref b2427)]))
        show Goes p.tables e below _ (T2904.setTop (mkF m 417 #[.val (.int p0), .val (.int p1), .val (.int p2), .val (.int p3), .val (.int (p0 &&& (3 : Int32))), .val (.int (c8 p1)), .val (.int (c8 p2)), .val (.int (c8 p3)), .val (.ref b2311), .val (.ref b2332), .val (.ref b2427), .val (.ref b2866), .val (.ref dd)] [(.ref b2427), (.ref b2427)]))
        refine X2907.strEq (w 61 rfl) (w 62 rfl) (w 64 rfl) (w 63 rfl) (fun d q => hw d (hwsE d q)) (w 2 rfl) F2909 F2909 S0 hz0 (by decide) 0 (Nat.le_of_ble_eq_true rfl) (by decide) (by decide) (by decide) (by rw [hml]; rfl) (D at_417) (fun T2916 X2917 hc2918 => ?_) (fun T2916 X2917 hc2918 => ?_)
        · show Goes p.tables e below _ (T2916.setTop (mkF m 420 #[.val (.int p0), .val (.int p1), .val (.int p2), .val (.int p3), .val (.int (p0 &&& (3 : Int32))), .val (.int (c8 p1)), .val (.int (c8 p2)), .val (.int (c8 p3)), .val (.ref b2311), .val (.ref b2332), .val (.ref b2427), .val (.ref b2866), .val (.ref dd)] [(.int (1 : Int32))]))
          refine X2917.if_eq 473 (D at_420) ⟨by decide, by decide⟩ (fun hc2919 => absurd hc2919 (by decide)) (fun hc2919 => ?_)
          refine X2917.aload (x := (.ref dd)) (D at_423) rfl rfl ?_
          refine X2917.callv (y := (⟨"com/example/greylag/greylag/Decision", "index", "()I"⟩ : MethodName)) (a := dd) (C := "com/example/greylag/greylag/Decision") [] [] (ctIdx l Z a0 hw hEL z0 S0 hz0 dd b2427 _ _ F2913) F2911 (w 66 rfl) (w 67 rfl) (w 69 rfl) (w 68 rfl) (w 35 rfl) (w 70 rfl) (by decide) (fun _ q => nomatch q) (by decide) 0 (by decide) (by decide) (by decide) (lenOf pd_7 rfl) rfl (Nat.le_of_ble_eq_true rfl) (by rw [hml]; rfl) (D at_425) ?_
          rintro T2920 h2921 _ X2923 K2924 rfl
          have F2925 := F2909.keep K2924 nin0 nin0
          have F2926 := F2910.keep K2924 nin0 nin0
          have F2927 := F2911.keep K2924
          have F2928 := F2912.keep K2924 nin0
          have F2929 := F2913.keep K2924 nin0
          have F2930 := F2914.keep K2924 nin0
          have F2931 := F2915.keep K2924 nin0
          show Goes p.tables e below _ (T2920.setTop (mkF m 428 #[.val (.int p0), .val (.int p1), .val (.int p2), .val (.int p3), .val (.int (p0 &&& (3 : Int32))), .val (.int (c8 p1)), .val (.int (c8 p2)), .val (.int (c8 p3)), .val (.ref b2311), .val (.ref b2332), .val (.ref b2427), .val (.ref b2866), .val (.ref dd)] [(.int (-1 : Int32))]))
          refine X2923.iconst (x := (-1 : Int32)) (D at_428) rfl ?_
          refine X2923.icmp_ne 473 (D at_429) ⟨by decide, by decide⟩ (fun hc2932 => absurd hc2932 (by decide)) (fun hc2932 => ?_)
          refine X2923.aload (x := (.ref dd)) (D at_432) rfl rfl ?_
          refine X2923.callv (y := (⟨"com/example/greylag/greylag/Decision", "permission", "()Lcom/example/greylag/greylag/Permission;"⟩ : MethodName)) (a := dd) (C := "com/example/greylag/greylag/Decision") [] [] (ctPerm l Z a0 hw hEL z0 S0 hz0 dd b2427 _ _ F2930) F2927 (w 71 rfl) (w 72 rfl) (w 74 rfl) (w 73 rfl) (w 35 rfl) (w 75 rfl) (by decide) (fun _ q => nomatch q) (by decide) 0 (by decide) (by decide) (by decide) (lenOf pd_21 rfl) rfl (Nat.le_of_ble_eq_true rfl) (by rw [hml]; rfl) (D at_434) ?_
          rintro T2933 h2934 _ X2936 K2937 rfl
          have F2938 := F2925.keep K2937 nin0 nin0
          have F2939 := F2926.keep K2937 nin0 nin0
          have F2940 := F2927.keep K2937
          have F2941 := F2928.keep K2937 nin0
          have F2942 := F2929.keep K2937 nin0
          have F2943 := F2930.keep K2937 nin0
          have F2944 := F2931.keep K2937 nin0
          show Goes p.tables e below _ (T2933.setTop (mkF m 437 #[.val (.int p0), .val (.int p1), .val (.int p2), .val (.int p3), .val (.int (p0 &&& (3 : Int32))), .val (.int (c8 p1)), .val (.int (c8 p2)), .val (.int (c8 p3)), .val (.ref b2311), .val (.ref b2332), .val (.ref b2427), .val (.ref b2866), .val (.ref dd)] [.null]))
          refine X2936.ifnonnullN (D at_437) ?_
          refine X2936.aload (x := (.ref dd)) (D at_440) rfl rfl ?_
          refine X2936.callv (y := (⟨"com/example/greylag/greylag/Decision", "bypass", "()Z"⟩ : MethodName)) (a := dd) (C := "com/example/greylag/greylag/Decision") [] [] (ctByp l Z a0 hw hEL z0 S0 hz0 dd b2427 _ _ F2944) F2940 (w 76 rfl) (w 77 rfl) (w 79 rfl) (w 78 rfl) (w 35 rfl) (w 80 rfl) (by decide) (fun _ q => nomatch q) (by decide) 0 (by decide) (by decide) (by decide) (lenOf pd_14 rfl) rfl (Nat.le_of_ble_eq_true rfl) (by rw [hml]; rfl) (D at_442) ?_
          rintro T2945 h2946 _ X2948 K2949 rfl
          have F2950 := F2938.keep K2949 nin0 nin0
          have F2951 := F2939.keep K2949 nin0 nin0
          have F2952 := F2940.keep K2949
          have F2953 := F2941.keep K2949 nin0
          have F2954 := F2942.keep K2949 nin0
          have F2955 := F2943.keep K2949 nin0
          have F2956 := F2944.keep K2949 nin0
          show Goes p.tables e below _ (T2945.setTop (mkF m 445 #[.val (.int p0), .val (.int p1), .val (.int p2), .val (.int p3), .val (.int (p0 &&& (3 : Int32))), .val (.int (c8 p1)), .val (.int (c8 p2)), .val (.int (c8 p3)), .val (.ref b2311), .val (.ref b2332), .val (.ref b2427), .val (.ref b2866), .val (.ref dd)] [(.int (1 : Int32))]))
          refine X2948.if_eq 473 (D at_445) ⟨by decide, by decide⟩ (fun hc2957 => absurd hc2957 (by decide)) (fun hc2957 => ?_)
          refine X2948.aload (x := (.ref dd)) (D at_448) rfl rfl ?_
          refine X2948.callv (y := (⟨"com/example/greylag/greylag/Decision", "allowed", "()Z"⟩ : MethodName)) (a := dd) (C := "com/example/greylag/greylag/Decision") [] [] (ctAll l Z a0 hw hEL z0 S0 hz0 dd b2427 _ _ F2956) F2952 (w 81 rfl) (w 82 rfl) (w 84 rfl) (w 83 rfl) (w 35 rfl) (w 85 rfl) (by decide) (fun _ q => nomatch q) (by decide) 0 (by decide) (by decide) (by decide) (lenOf pd_14 rfl) rfl (Nat.le_of_ble_eq_true rfl) (by rw [hml]; rfl) (D at_450) ?_
          rintro T2958 h2959 _ X2961 K2962 rfl
          have F2963 := F2950.keep K2962 nin0 nin0
          have F2964 := F2951.keep K2962 nin0 nin0
          have F2965 := F2952.keep K2962
          have F2966 := F2953.keep K2962 nin0
          have F2967 := F2954.keep K2962 nin0
          have F2968 := F2955.keep K2962 nin0
          have F2969 := F2956.keep K2962 nin0
          show Goes p.tables e below _ (T2958.setTop (mkF m 453 #[.val (.int p0), .val (.int p1), .val (.int p2), .val (.int p3), .val (.int (p0 &&& (3 : Int32))), .val (.int (c8 p1)), .val (.int (c8 p2)), .val (.int (c8 p3)), .val (.ref b2311), .val (.ref b2332), .val (.ref b2427), .val (.ref b2866), .val (.ref dd)] [(.int (1 : Int32))]))
          refine X2961.if_eq 473 (D at_453) ⟨by decide, by decide⟩ (fun hc2970 => absurd hc2970 (by decide)) (fun hc2970 => ?_)
          refine X2961.aload (x := (.ref b2866)) (D at_456) rfl rfl ?_
          refine X2961.aload (x := (.ref dd)) (D at_458) rfl rfl ?_
          refine X2961.callv (y := (⟨"com/example/greylag/greylag/Decision", "explanation", "()Ljava/lang/String;"⟩ : MethodName)) (a := dd) (C := "com/example/greylag/greylag/Decision") [] [(.ref b2866)] (ctEx2 l Z a0 hw hEL z0 S0 hz0 dd b2427 t2854 (c8 p1) (c8 p2) _ _ F2965 F2966 F2969 F2963) F2965 (w 86 rfl) (w 87 rfl) (w 89 rfl) (w 88 rfl) (w 35 rfl) (w 90 rfl) (by decide) (fun _ q => nomatch q) (by decide) 1 (by decide) (by decide) (by decide) (lenOf pd_18 rfl) rfl (Nat.le_of_ble_eq_true rfl) (by rw [hml]; rfl) (D at_460) ?_
          rintro T2971 h2972 _ X2974 K2975 ⟨s9, t9, rfl, O9⟩
          have F2976 := F2963.keep K2975 nin0 nin0
          have F2977 := F2964.keep K2975 nin0 nin0
          have F2978 := F2965.keep K2975
          have F2979 := F2966.keep K2975 nin0
          have F2980 := F2967.keep K2975 nin0
          have F2981 := F2968.keep K2975 nin0
          have F2982 := F2969.keep K2975 nin0
          show Goes p.tables e below _ (T2971.setTop (mkF m 463 #[.val (.int p0), .val (.int p1), .val (.int p2), .val (.int p3), .val (.int (p0 &&& (3 : Int32))), .val (.int (c8 p1)), .val (.int (c8 p2)), .val (.int (c8 p3)), .val (.ref b2311), .val (.ref b2332), .val (.ref b2427), .val (.ref b2866), .val (.ref dd)] [(.ref s9), (.ref b2866)]))
          show Goes p.tables e below _ (T2971.setTop (mkF m 463 #[.val (.int p0), .val (.int p1), .val (.int p2), .val (.int p3), .val (.int (p0 &&& (3 : Int32))), .val (.int (c8 p1)), .val (.int (c8 p2)), .val (.int (c8 p3)), .val (.ref b2311), .val (.ref b2332), .val (.ref b2427), .val (.ref b2866), .val (.ref dd)] [(.ref s9), (.ref b2866)]))
          refine X2974.strEq (w 61 rfl) (w 62 rfl) (w 64 rfl) (w 63 rfl) (fun d q => hw d (hwsE d q)) (w 2 rfl) F2977 O9 S0 hz0 (by decide) 0 (Nat.le_of_ble_eq_true rfl) (by decide) (by decide) (by decide) (by rw [hml]; rfl) (D at_463) (fun T2983 X2984 hc2985 => ?_) (fun T2983 X2984 hc2985 => ?_)
          · show Goes p.tables e below _ (T2983.setTop (mkF m 466 #[.val (.int p0), .val (.int p1), .val (.int p2), .val (.int p3), .val (.int (p0 &&& (3 : Int32))), .val (.int (c8 p1)), .val (.int (c8 p2)), .val (.int (c8 p3)), .val (.ref b2311), .val (.ref b2332), .val (.ref b2427), .val (.ref b2866), .val (.ref dd)] [(.int (1 : Int32))]))
            refine X2984.if_eq 473 (D at_466) ⟨by decide, by decide⟩ (fun hc2986 => absurd hc2986 (by decide)) (fun hc2986 => ?_)
            refine X2984.iconst (x := (1 : Int32)) (D at_469) rfl ?_
            refine X2984.goto 474 (D at_470) ⟨by decide, by decide⟩ ?_
            exact X2984.reti hret (by simp) hlk (D at_474) (by decide) (by decide) (rfl)
          · show Goes p.tables e below _ (T2983.setTop (mkF m 466 #[.val (.int p0), .val (.int p1), .val (.int p2), .val (.int p3), .val (.int (p0 &&& (3 : Int32))), .val (.int (c8 p1)), .val (.int (c8 p2)), .val (.int (c8 p3)), .val (.ref b2311), .val (.ref b2332), .val (.ref b2427), .val (.ref b2866), .val (.ref dd)] [(.int (0 : Int32))]))
            exact (hc2985 rfl).elim
        · show Goes p.tables e below _ (T2916.setTop (mkF m 420 #[.val (.int p0), .val (.int p1), .val (.int p2), .val (.int p3), .val (.int (p0 &&& (3 : Int32))), .val (.int (c8 p1)), .val (.int (c8 p2)), .val (.int (c8 p3)), .val (.ref b2311), .val (.ref b2332), .val (.ref b2427), .val (.ref b2866), .val (.ref dd)] [(.int (0 : Int32))]))
          exact (hc2918 rfl).elim
    · show Goes p.tables e below _ (T0.setTop (mkF m 108 #[.val (.int p0), .val (.int p1), .val (.int p2), .val (.int p3), .val (.int (p0 &&& (3 : Int32))), .val (.int (c8 p1)), .val (.int (c8 p2)), .val (.int (c8 p3)), .unset, .unset, .unset, .unset, .unset] []))
      refine X0.iconst (x := (1 : Int32)) (D at_108) rfl ?_
      refine X0.newarr (w 0 rfl) (n := (1 : Int32)) (D at_109) (by decide) 1 (by decide) (by decide) (by decide) (by decide) ?_
      intro T2190 h2191 b2192 kb2193 g2194 X2195 E2196 A2197
      have F2198 : Arv Z h2191 b2192 kb2193 .char (1 : Int32) [(.int (0 : Int32))] (.int (0 : Int32)) := A2197.pad (pad_rep [] (.int (0 : Int32)) 1)
      show Goes p.tables e below _ (T2190.setTop (mkF m 111 #[.val (.int p0), .val (.int p1), .val (.int p2), .val (.int p3), .val (.int (p0 &&& (3 : Int32))), .val (.int (c8 p1)), .val (.int (c8 p2)), .val (.int (c8 p3)), .unset, .unset, .unset, .unset, .unset] [(.ref b2192)]))
      refine X2195.dup (D at_111) rfl ?_
      refine X2195.iconst (x := (0 : Int32)) (D at_112) rfl ?_
      refine X2195.iload (x := (c8 p1)) (D at_113) rfl ?_
      show Goes p.tables e below _ (T2190.setTop (mkF m 115 #[.val (.int p0), .val (.int p1), .val (.int p2), .val (.int p3), .val (.int (p0 &&& (3 : Int32))), .val (.int (c8 p1)), .val (.int (c8 p2)), .val (.int (c8 p3)), .unset, .unset, .unset, .unset, .unset] [(.int (c8 p1)), (.int (0 : Int32)), (.ref b2192), (.ref b2192)]))
      refine X2195.castore F2198 ⟨by decide, by decide⟩ 0 rfl (Nat.le_of_ble_eq_true rfl) (by simp) (D at_115) ?_
      intro T2199 h2200 X2201 W2202 A2203
      have F2204 : Arv Z h2200 b2192 kb2193 .char (1 : Int32) [(.int (c8 p1))] (.int (0 : Int32)) := by rw [nar_c8 p1] at A2203; exact A2203
      show Goes p.tables e below _ (T2199.setTop (mkF m 116 #[.val (.int p0), .val (.int p1), .val (.int p2), .val (.int p3), .val (.int (p0 &&& (3 : Int32))), .val (.int (c8 p1)), .val (.int (c8 p2)), .val (.int (c8 p3)), .unset, .unset, .unset, .unset, .unset] [(.ref b2192)]))
      refine X2201.astore #[.val (.int p0), .val (.int p1), .val (.int p2), .val (.int p3), .val (.int (p0 &&& (3 : Int32))), .val (.int (c8 p1)), .val (.int (c8 p2)), .val (.int (c8 p3)), .val (.ref b2192), .unset, .unset, .unset, .unset] (D at_116) rfl rfl ?_
      refine X2201.bipush (x := (11 : Int32)) (D at_118) rfl ?_
      refine X2201.newarr (w 0 rfl) (n := (11 : Int32)) (D at_120) (by decide) 11 (by decide) (by decide) (by decide) (by decide) ?_
      intro T2205 h2206 b2207 kb2208 g2209 X2210 E2211 A2212
      have F2213 := F2204.ext E2211
      have lt2214 : b2192 < b2207 := by rw [g2209]; exact F2204.lt
      have F2215 : Arv Z h2206 b2207 kb2208 .char (11 : Int32) [(.int (0 : Int32)), (.int (0 : Int32)), (.int (0 : Int32)), (.int (0 : Int32)), (.int (0 : Int32)), (.int (0 : Int32)), (.int (0 : Int32)), (.int (0 : Int32)), (.int (0 : Int32)), (.int (0 : Int32)), (.int (0 : Int32))] (.int (0 : Int32)) := A2212.pad (pad_rep [] (.int (0 : Int32)) 11)
      show Goes p.tables e below _ (T2205.setTop (mkF m 122 #[.val (.int p0), .val (.int p1), .val (.int p2), .val (.int p3), .val (.int (p0 &&& (3 : Int32))), .val (.int (c8 p1)), .val (.int (c8 p2)), .val (.int (c8 p3)), .val (.ref b2192), .unset, .unset, .unset, .unset] [(.ref b2207)]))
      refine X2210.dup (D at_122) rfl ?_
      refine X2210.iconst (x := (0 : Int32)) (D at_123) rfl ?_
      refine X2210.bipush (x := (98 : Int32)) (D at_124) rfl ?_
      show Goes p.tables e below _ (T2205.setTop (mkF m 126 #[.val (.int p0), .val (.int p1), .val (.int p2), .val (.int p3), .val (.int (p0 &&& (3 : Int32))), .val (.int (c8 p1)), .val (.int (c8 p2)), .val (.int (c8 p3)), .val (.ref b2192), .unset, .unset, .unset, .unset] [(.int (98 : Int32)), (.int (0 : Int32)), (.ref b2207), (.ref b2207)]))
      refine X2210.castore F2215 ⟨by decide, by decide⟩ 0 rfl (Nat.le_of_ble_eq_true rfl) (by simp) (D at_126) ?_
      intro T2216 h2217 X2218 W2219 A2220
      have F2221 := F2213.other W2219 (Nat.ne_of_lt lt2214)
      have F2222 : Arv Z h2217 b2207 kb2208 .char (11 : Int32) [(.int (98 : Int32)), (.int (0 : Int32)), (.int (0 : Int32)), (.int (0 : Int32)), (.int (0 : Int32)), (.int (0 : Int32)), (.int (0 : Int32)), (.int (0 : Int32)), (.int (0 : Int32)), (.int (0 : Int32)), (.int (0 : Int32))] (.int (0 : Int32)) := by exact A2220
      show Goes p.tables e below _ (T2216.setTop (mkF m 127 #[.val (.int p0), .val (.int p1), .val (.int p2), .val (.int p3), .val (.int (p0 &&& (3 : Int32))), .val (.int (c8 p1)), .val (.int (c8 p2)), .val (.int (c8 p3)), .val (.ref b2192), .unset, .unset, .unset, .unset] [(.ref b2207)]))
      refine X2218.dup (D at_127) rfl ?_
      refine X2218.iconst (x := (1 : Int32)) (D at_128) rfl ?_
      refine X2218.bipush (x := (121 : Int32)) (D at_129) rfl ?_
      show Goes p.tables e below _ (T2216.setTop (mkF m 131 #[.val (.int p0), .val (.int p1), .val (.int p2), .val (.int p3), .val (.int (p0 &&& (3 : Int32))), .val (.int (c8 p1)), .val (.int (c8 p2)), .val (.int (c8 p3)), .val (.ref b2192), .unset, .unset, .unset, .unset] [(.int (121 : Int32)), (.int (1 : Int32)), (.ref b2207), (.ref b2207)]))
      refine X2218.castore F2222 ⟨by decide, by decide⟩ 1 rfl (Nat.le_of_ble_eq_true rfl) (by simp) (D at_131) ?_
      intro T2223 h2224 X2225 W2226 A2227
      have F2228 := F2221.other W2226 (Nat.ne_of_lt lt2214)
      have F2229 : Arv Z h2224 b2207 kb2208 .char (11 : Int32) [(.int (98 : Int32)), (.int (121 : Int32)), (.int (0 : Int32)), (.int (0 : Int32)), (.int (0 : Int32)), (.int (0 : Int32)), (.int (0 : Int32)), (.int (0 : Int32)), (.int (0 : Int32)), (.int (0 : Int32)), (.int (0 : Int32))] (.int (0 : Int32)) := by exact A2227
      show Goes p.tables e below _ (T2223.setTop (mkF m 132 #[.val (.int p0), .val (.int p1), .val (.int p2), .val (.int p3), .val (.int (p0 &&& (3 : Int32))), .val (.int (c8 p1)), .val (.int (c8 p2)), .val (.int (c8 p3)), .val (.ref b2192), .unset, .unset, .unset, .unset] [(.ref b2207)]))
      refine X2225.dup (D at_132) rfl ?_
      refine X2225.iconst (x := (2 : Int32)) (D at_133) rfl ?_
      refine X2225.bipush (x := (32 : Int32)) (D at_134) rfl ?_
      show Goes p.tables e below _ (T2223.setTop (mkF m 136 #[.val (.int p0), .val (.int p1), .val (.int p2), .val (.int p3), .val (.int (p0 &&& (3 : Int32))), .val (.int (c8 p1)), .val (.int (c8 p2)), .val (.int (c8 p3)), .val (.ref b2192), .unset, .unset, .unset, .unset] [(.int (32 : Int32)), (.int (2 : Int32)), (.ref b2207), (.ref b2207)]))
      refine X2225.castore F2229 ⟨by decide, by decide⟩ 2 rfl (Nat.le_of_ble_eq_true rfl) (by simp) (D at_136) ?_
      intro T2230 h2231 X2232 W2233 A2234
      have F2235 := F2228.other W2233 (Nat.ne_of_lt lt2214)
      have F2236 : Arv Z h2231 b2207 kb2208 .char (11 : Int32) [(.int (98 : Int32)), (.int (121 : Int32)), (.int (32 : Int32)), (.int (0 : Int32)), (.int (0 : Int32)), (.int (0 : Int32)), (.int (0 : Int32)), (.int (0 : Int32)), (.int (0 : Int32)), (.int (0 : Int32)), (.int (0 : Int32))] (.int (0 : Int32)) := by exact A2234
      show Goes p.tables e below _ (T2230.setTop (mkF m 137 #[.val (.int p0), .val (.int p1), .val (.int p2), .val (.int p3), .val (.int (p0 &&& (3 : Int32))), .val (.int (c8 p1)), .val (.int (c8 p2)), .val (.int (c8 p3)), .val (.ref b2192), .unset, .unset, .unset, .unset] [(.ref b2207)]))
      refine X2232.dup (D at_137) rfl ?_
      refine X2232.iconst (x := (3 : Int32)) (D at_138) rfl ?_
      refine X2232.bipush (x := (98 : Int32)) (D at_139) rfl ?_
      show Goes p.tables e below _ (T2230.setTop (mkF m 141 #[.val (.int p0), .val (.int p1), .val (.int p2), .val (.int p3), .val (.int (p0 &&& (3 : Int32))), .val (.int (c8 p1)), .val (.int (c8 p2)), .val (.int (c8 p3)), .val (.ref b2192), .unset, .unset, .unset, .unset] [(.int (98 : Int32)), (.int (3 : Int32)), (.ref b2207), (.ref b2207)]))
      refine X2232.castore F2236 ⟨by decide, by decide⟩ 3 rfl (Nat.le_of_ble_eq_true rfl) (by simp) (D at_141) ?_
      intro T2237 h2238 X2239 W2240 A2241
      have F2242 := F2235.other W2240 (Nat.ne_of_lt lt2214)
      have F2243 : Arv Z h2238 b2207 kb2208 .char (11 : Int32) [(.int (98 : Int32)), (.int (121 : Int32)), (.int (32 : Int32)), (.int (98 : Int32)), (.int (0 : Int32)), (.int (0 : Int32)), (.int (0 : Int32)), (.int (0 : Int32)), (.int (0 : Int32)), (.int (0 : Int32)), (.int (0 : Int32))] (.int (0 : Int32)) := by exact A2241
      show Goes p.tables e below _ (T2237.setTop (mkF m 142 #[.val (.int p0), .val (.int p1), .val (.int p2), .val (.int p3), .val (.int (p0 &&& (3 : Int32))), .val (.int (c8 p1)), .val (.int (c8 p2)), .val (.int (c8 p3)), .val (.ref b2192), .unset, .unset, .unset, .unset] [(.ref b2207)]))
      refine X2239.dup (D at_142) rfl ?_
      refine X2239.iconst (x := (4 : Int32)) (D at_143) rfl ?_
      refine X2239.bipush (x := (121 : Int32)) (D at_144) rfl ?_
      show Goes p.tables e below _ (T2237.setTop (mkF m 146 #[.val (.int p0), .val (.int p1), .val (.int p2), .val (.int p3), .val (.int (p0 &&& (3 : Int32))), .val (.int (c8 p1)), .val (.int (c8 p2)), .val (.int (c8 p3)), .val (.ref b2192), .unset, .unset, .unset, .unset] [(.int (121 : Int32)), (.int (4 : Int32)), (.ref b2207), (.ref b2207)]))
      refine X2239.castore F2243 ⟨by decide, by decide⟩ 4 rfl (Nat.le_of_ble_eq_true rfl) (by simp) (D at_146) ?_
      intro T2244 h2245 X2246 W2247 A2248
      have F2249 := F2242.other W2247 (Nat.ne_of_lt lt2214)
      have F2250 : Arv Z h2245 b2207 kb2208 .char (11 : Int32) [(.int (98 : Int32)), (.int (121 : Int32)), (.int (32 : Int32)), (.int (98 : Int32)), (.int (121 : Int32)), (.int (0 : Int32)), (.int (0 : Int32)), (.int (0 : Int32)), (.int (0 : Int32)), (.int (0 : Int32)), (.int (0 : Int32))] (.int (0 : Int32)) := by exact A2248
      show Goes p.tables e below _ (T2244.setTop (mkF m 147 #[.val (.int p0), .val (.int p1), .val (.int p2), .val (.int p3), .val (.int (p0 &&& (3 : Int32))), .val (.int (c8 p1)), .val (.int (c8 p2)), .val (.int (c8 p3)), .val (.ref b2192), .unset, .unset, .unset, .unset] [(.ref b2207)]))
      refine X2246.dup (D at_147) rfl ?_
      refine X2246.iconst (x := (5 : Int32)) (D at_148) rfl ?_
      refine X2246.bipush (x := (112 : Int32)) (D at_149) rfl ?_
      show Goes p.tables e below _ (T2244.setTop (mkF m 151 #[.val (.int p0), .val (.int p1), .val (.int p2), .val (.int p3), .val (.int (p0 &&& (3 : Int32))), .val (.int (c8 p1)), .val (.int (c8 p2)), .val (.int (c8 p3)), .val (.ref b2192), .unset, .unset, .unset, .unset] [(.int (112 : Int32)), (.int (5 : Int32)), (.ref b2207), (.ref b2207)]))
      refine X2246.castore F2250 ⟨by decide, by decide⟩ 5 rfl (Nat.le_of_ble_eq_true rfl) (by simp) (D at_151) ?_
      intro T2251 h2252 X2253 W2254 A2255
      have F2256 := F2249.other W2254 (Nat.ne_of_lt lt2214)
      have F2257 : Arv Z h2252 b2207 kb2208 .char (11 : Int32) [(.int (98 : Int32)), (.int (121 : Int32)), (.int (32 : Int32)), (.int (98 : Int32)), (.int (121 : Int32)), (.int (112 : Int32)), (.int (0 : Int32)), (.int (0 : Int32)), (.int (0 : Int32)), (.int (0 : Int32)), (.int (0 : Int32))] (.int (0 : Int32)) := by exact A2255
      show Goes p.tables e below _ (T2251.setTop (mkF m 152 #[.val (.int p0), .val (.int p1), .val (.int p2), .val (.int p3), .val (.int (p0 &&& (3 : Int32))), .val (.int (c8 p1)), .val (.int (c8 p2)), .val (.int (c8 p3)), .val (.ref b2192), .unset, .unset, .unset, .unset] [(.ref b2207)]))
      refine X2253.dup (D at_152) rfl ?_
      refine X2253.bipush (x := (6 : Int32)) (D at_153) rfl ?_
      refine X2253.bipush (x := (97 : Int32)) (D at_155) rfl ?_
      show Goes p.tables e below _ (T2251.setTop (mkF m 157 #[.val (.int p0), .val (.int p1), .val (.int p2), .val (.int p3), .val (.int (p0 &&& (3 : Int32))), .val (.int (c8 p1)), .val (.int (c8 p2)), .val (.int (c8 p3)), .val (.ref b2192), .unset, .unset, .unset, .unset] [(.int (97 : Int32)), (.int (6 : Int32)), (.ref b2207), (.ref b2207)]))
      refine X2253.castore F2257 ⟨by decide, by decide⟩ 6 rfl (Nat.le_of_ble_eq_true rfl) (by simp) (D at_157) ?_
      intro T2258 h2259 X2260 W2261 A2262
      have F2263 := F2256.other W2261 (Nat.ne_of_lt lt2214)
      have F2264 : Arv Z h2259 b2207 kb2208 .char (11 : Int32) [(.int (98 : Int32)), (.int (121 : Int32)), (.int (32 : Int32)), (.int (98 : Int32)), (.int (121 : Int32)), (.int (112 : Int32)), (.int (97 : Int32)), (.int (0 : Int32)), (.int (0 : Int32)), (.int (0 : Int32)), (.int (0 : Int32))] (.int (0 : Int32)) := by exact A2262
      show Goes p.tables e below _ (T2258.setTop (mkF m 158 #[.val (.int p0), .val (.int p1), .val (.int p2), .val (.int p3), .val (.int (p0 &&& (3 : Int32))), .val (.int (c8 p1)), .val (.int (c8 p2)), .val (.int (c8 p3)), .val (.ref b2192), .unset, .unset, .unset, .unset] [(.ref b2207)]))
      refine X2260.dup (D at_158) rfl ?_
      refine X2260.bipush (x := (7 : Int32)) (D at_159) rfl ?_
      refine X2260.bipush (x := (115 : Int32)) (D at_161) rfl ?_
      show Goes p.tables e below _ (T2258.setTop (mkF m 163 #[.val (.int p0), .val (.int p1), .val (.int p2), .val (.int p3), .val (.int (p0 &&& (3 : Int32))), .val (.int (c8 p1)), .val (.int (c8 p2)), .val (.int (c8 p3)), .val (.ref b2192), .unset, .unset, .unset, .unset] [(.int (115 : Int32)), (.int (7 : Int32)), (.ref b2207), (.ref b2207)]))
      refine X2260.castore F2264 ⟨by decide, by decide⟩ 7 rfl (Nat.le_of_ble_eq_true rfl) (by simp) (D at_163) ?_
      intro T2265 h2266 X2267 W2268 A2269
      have F2270 := F2263.other W2268 (Nat.ne_of_lt lt2214)
      have F2271 : Arv Z h2266 b2207 kb2208 .char (11 : Int32) [(.int (98 : Int32)), (.int (121 : Int32)), (.int (32 : Int32)), (.int (98 : Int32)), (.int (121 : Int32)), (.int (112 : Int32)), (.int (97 : Int32)), (.int (115 : Int32)), (.int (0 : Int32)), (.int (0 : Int32)), (.int (0 : Int32))] (.int (0 : Int32)) := by exact A2269
      show Goes p.tables e below _ (T2265.setTop (mkF m 164 #[.val (.int p0), .val (.int p1), .val (.int p2), .val (.int p3), .val (.int (p0 &&& (3 : Int32))), .val (.int (c8 p1)), .val (.int (c8 p2)), .val (.int (c8 p3)), .val (.ref b2192), .unset, .unset, .unset, .unset] [(.ref b2207)]))
      refine X2267.dup (D at_164) rfl ?_
      refine X2267.bipush (x := (8 : Int32)) (D at_165) rfl ?_
      refine X2267.bipush (x := (115 : Int32)) (D at_167) rfl ?_
      show Goes p.tables e below _ (T2265.setTop (mkF m 169 #[.val (.int p0), .val (.int p1), .val (.int p2), .val (.int p3), .val (.int (p0 &&& (3 : Int32))), .val (.int (c8 p1)), .val (.int (c8 p2)), .val (.int (c8 p3)), .val (.ref b2192), .unset, .unset, .unset, .unset] [(.int (115 : Int32)), (.int (8 : Int32)), (.ref b2207), (.ref b2207)]))
      refine X2267.castore F2271 ⟨by decide, by decide⟩ 8 rfl (Nat.le_of_ble_eq_true rfl) (by simp) (D at_169) ?_
      intro T2272 h2273 X2274 W2275 A2276
      have F2277 := F2270.other W2275 (Nat.ne_of_lt lt2214)
      have F2278 : Arv Z h2273 b2207 kb2208 .char (11 : Int32) [(.int (98 : Int32)), (.int (121 : Int32)), (.int (32 : Int32)), (.int (98 : Int32)), (.int (121 : Int32)), (.int (112 : Int32)), (.int (97 : Int32)), (.int (115 : Int32)), (.int (115 : Int32)), (.int (0 : Int32)), (.int (0 : Int32))] (.int (0 : Int32)) := by exact A2276
      show Goes p.tables e below _ (T2272.setTop (mkF m 170 #[.val (.int p0), .val (.int p1), .val (.int p2), .val (.int p3), .val (.int (p0 &&& (3 : Int32))), .val (.int (c8 p1)), .val (.int (c8 p2)), .val (.int (c8 p3)), .val (.ref b2192), .unset, .unset, .unset, .unset] [(.ref b2207)]))
      refine X2274.dup (D at_170) rfl ?_
      refine X2274.bipush (x := (9 : Int32)) (D at_171) rfl ?_
      refine X2274.bipush (x := (32 : Int32)) (D at_173) rfl ?_
      show Goes p.tables e below _ (T2272.setTop (mkF m 175 #[.val (.int p0), .val (.int p1), .val (.int p2), .val (.int p3), .val (.int (p0 &&& (3 : Int32))), .val (.int (c8 p1)), .val (.int (c8 p2)), .val (.int (c8 p3)), .val (.ref b2192), .unset, .unset, .unset, .unset] [(.int (32 : Int32)), (.int (9 : Int32)), (.ref b2207), (.ref b2207)]))
      refine X2274.castore F2278 ⟨by decide, by decide⟩ 9 rfl (Nat.le_of_ble_eq_true rfl) (by simp) (D at_175) ?_
      intro T2279 h2280 X2281 W2282 A2283
      have F2284 := F2277.other W2282 (Nat.ne_of_lt lt2214)
      have F2285 : Arv Z h2280 b2207 kb2208 .char (11 : Int32) [(.int (98 : Int32)), (.int (121 : Int32)), (.int (32 : Int32)), (.int (98 : Int32)), (.int (121 : Int32)), (.int (112 : Int32)), (.int (97 : Int32)), (.int (115 : Int32)), (.int (115 : Int32)), (.int (32 : Int32)), (.int (0 : Int32))] (.int (0 : Int32)) := by exact A2283
      show Goes p.tables e below _ (T2279.setTop (mkF m 176 #[.val (.int p0), .val (.int p1), .val (.int p2), .val (.int p3), .val (.int (p0 &&& (3 : Int32))), .val (.int (c8 p1)), .val (.int (c8 p2)), .val (.int (c8 p3)), .val (.ref b2192), .unset, .unset, .unset, .unset] [(.ref b2207)]))
      refine X2281.dup (D at_176) rfl ?_
      refine X2281.bipush (x := (10 : Int32)) (D at_177) rfl ?_
      refine X2281.iload (x := (c8 p1)) (D at_179) rfl ?_
      show Goes p.tables e below _ (T2279.setTop (mkF m 181 #[.val (.int p0), .val (.int p1), .val (.int p2), .val (.int p3), .val (.int (p0 &&& (3 : Int32))), .val (.int (c8 p1)), .val (.int (c8 p2)), .val (.int (c8 p3)), .val (.ref b2192), .unset, .unset, .unset, .unset] [(.int (c8 p1)), (.int (10 : Int32)), (.ref b2207), (.ref b2207)]))
      refine X2281.castore F2285 ⟨by decide, by decide⟩ 10 rfl (Nat.le_of_ble_eq_true rfl) (by simp) (D at_181) ?_
      intro T2286 h2287 X2288 W2289 A2290
      have F2291 := F2284.other W2289 (Nat.ne_of_lt lt2214)
      have F2292 : Arv Z h2287 b2207 kb2208 .char (11 : Int32) [(.int (98 : Int32)), (.int (121 : Int32)), (.int (32 : Int32)), (.int (98 : Int32)), (.int (121 : Int32)), (.int (112 : Int32)), (.int (97 : Int32)), (.int (115 : Int32)), (.int (115 : Int32)), (.int (32 : Int32)), (.int (c8 p1))] (.int (0 : Int32)) := by rw [nar_c8 p1] at A2290; exact A2290
      show Goes p.tables e below _ (T2286.setTop (mkF m 182 #[.val (.int p0), .val (.int p1), .val (.int p2), .val (.int p3), .val (.int (p0 &&& (3 : Int32))), .val (.int (c8 p1)), .val (.int (c8 p2)), .val (.int (c8 p3)), .val (.ref b2192), .unset, .unset, .unset, .unset] [(.ref b2207)]))
      refine X2288.astore #[.val (.int p0), .val (.int p1), .val (.int p2), .val (.int p3), .val (.int (p0 &&& (3 : Int32))), .val (.int (c8 p1)), .val (.int (c8 p2)), .val (.int (c8 p3)), .val (.ref b2192), .val (.ref b2207), .unset, .unset, .unset] (D at_182) rfl rfl ?_
      refine X2288.goto 381 (D at_184) ⟨by decide, by decide⟩ ?_
      refine X2288.new (w 1 rfl) (w 2 rfl) (w 3 rfl) (D at_381) (by decide) (by decide) ?_
      intro T2293 h2294 b2295 g2296 X2297 E2298 A2299 D2300 U2301
      have F2302 := F2291.ext E2298
      have F2303 := F2292.ext E2298
      have lt2304 : b2192 < b2295 := by rw [g2296]; exact F2291.lt
      have lt2305 : b2207 < b2295 := by rw [g2296]; exact F2292.lt
      have F2306 : Fld Z h2294 b2295 "java/lang/String" "value" "[B" .null := D2300 (Or.inr (w 16 rfl)) (ty := (.array .byte)) (by decide)
      have F2307 : Fld Z h2294 b2295 "java/lang/String" "coder" "B" (.int (0 : Int32)) := D2300 (Or.inr (w 17 rfl)) (ty := .byte) (by decide)
      show Goes p.tables e below _ (T2293.setTop (mkF m 384 #[.val (.int p0), .val (.int p1), .val (.int p2), .val (.int p3), .val (.int (p0 &&& (3 : Int32))), .val (.int (c8 p1)), .val (.int (c8 p2)), .val (.int (c8 p3)), .val (.ref b2192), .val (.ref b2207), .unset, .unset, .unset] [(.ref b2295)]))
      refine X2297.dup (D at_384) rfl ?_
      refine X2297.aload (x := (.ref b2192)) (D at_385) rfl rfl ?_
      show Goes p.tables e below _ (T2293.setTop (mkF m 387 #[.val (.int p0), .val (.int p1), .val (.int p2), .val (.int p3), .val (.int (p0 &&& (3 : Int32))), .val (.int (c8 p1)), .val (.int (c8 p2)), .val (.int (c8 p3)), .val (.ref b2192), .val (.ref b2207), .unset, .unset, .unset] [(.ref b2192), (.ref b2295), (.ref b2295)]))
      refine X2297.newStr (cs := [(c8 p1)]) 1 (w 4 rfl) (w 5 rfl) (fun d q => hw d (hwsV d q)) (w 2 rfl) A2299 F2306 F2307 F2302 S0 hz0 rfl rfl (by decide) (by decide) (hpS (c8_rng p1) hp0) (by simp) (by decide) 1 (Nat.le_of_ble_eq_true rfl) (by decide) (by decide) (by decide) (by rw [hml]; rfl) (D at_387) ?_
      intro T2717 h2718 t2719 X2720 K2721 g2722 O2723
      have F2724 := F2302.keep K2721 (ninS (Nat.ne_of_lt lt2304) nin0)
      have F2725 := F2303.keep K2721 (ninS (Nat.ne_of_lt lt2305) nin0)
      have lt2726 : b2192 < t2719 := Nat.lt_of_lt_of_le F2302.lt g2722
      have lt2727 : b2207 < t2719 := Nat.lt_of_lt_of_le F2303.lt g2722
      have lt2728 : b2295 < t2719 := Nat.lt_of_lt_of_le A2299.lt g2722
      show Goes p.tables e below _ (T2717.setTop (mkF m 390 #[.val (.int p0), .val (.int p1), .val (.int p2), .val (.int p3), .val (.int (p0 &&& (3 : Int32))), .val (.int (c8 p1)), .val (.int (c8 p2)), .val (.int (c8 p3)), .val (.ref b2192), .val (.ref b2207), .unset, .unset, .unset] [(.ref b2295)]))
      refine X2720.astore #[.val (.int p0), .val (.int p1), .val (.int p2), .val (.int p3), .val (.int (p0 &&& (3 : Int32))), .val (.int (c8 p1)), .val (.int (c8 p2)), .val (.int (c8 p3)), .val (.ref b2192), .val (.ref b2207), .val (.ref b2295), .unset, .unset] (D at_390) rfl rfl ?_
      refine X2720.new (w 1 rfl) (w 2 rfl) (w 3 rfl) (D at_392) (by decide) (by decide) ?_
      intro T2729 h2730 b2731 g2732 X2733 E2734 A2735 D2736 U2737
      have F2738 := F2724.ext E2734
      have F2739 := F2725.ext E2734
      have F2740 := O2723.ext E2734
      have lt2741 : b2192 < b2731 := by rw [g2732]; exact F2724.lt
      have lt2742 : b2207 < b2731 := by rw [g2732]; exact F2725.lt
      have lt2743 : b2295 < b2731 := by rw [g2732]; exact O2723.lt
      have lt2744 : t2719 < b2731 := by rw [g2732]; exact O2723.ltb
      have F2745 : Fld Z h2730 b2731 "java/lang/String" "value" "[B" .null := D2736 (Or.inr (w 16 rfl)) (ty := (.array .byte)) (by decide)
      have F2746 : Fld Z h2730 b2731 "java/lang/String" "coder" "B" (.int (0 : Int32)) := D2736 (Or.inr (w 17 rfl)) (ty := .byte) (by decide)
      show Goes p.tables e below _ (T2729.setTop (mkF m 395 #[.val (.int p0), .val (.int p1), .val (.int p2), .val (.int p3), .val (.int (p0 &&& (3 : Int32))), .val (.int (c8 p1)), .val (.int (c8 p2)), .val (.int (c8 p3)), .val (.ref b2192), .val (.ref b2207), .val (.ref b2295), .unset, .unset] [(.ref b2731)]))
      refine X2733.dup (D at_395) rfl ?_
      refine X2733.aload (x := (.ref b2207)) (D at_396) rfl rfl ?_
      show Goes p.tables e below _ (T2729.setTop (mkF m 398 #[.val (.int p0), .val (.int p1), .val (.int p2), .val (.int p3), .val (.int (p0 &&& (3 : Int32))), .val (.int (c8 p1)), .val (.int (c8 p2)), .val (.int (c8 p3)), .val (.ref b2192), .val (.ref b2207), .val (.ref b2295), .unset, .unset] [(.ref b2207), (.ref b2731), (.ref b2731)]))
      refine X2733.newStr (cs := [(98 : Int32), (121 : Int32), (32 : Int32), (98 : Int32), (121 : Int32), (112 : Int32), (97 : Int32), (115 : Int32), (115 : Int32), (32 : Int32), (c8 p1)]) 11 (w 4 rfl) (w 5 rfl) (fun d q => hw d (hwsV d q)) (w 2 rfl) A2735 F2745 F2746 F2739 S0 hz0 rfl rfl (by decide) (by decide) (hpS (by decide) (hpS (by decide) (hpS (by decide) (hpS (by decide) (hpS (by decide) (hpS (by decide) (hpS (by decide) (hpS (by decide) (hpS (by decide) (hpS (by decide) (hpS (c8_rng p1) hp0))))))))))) (by simp) (by decide) 1 (Nat.le_of_ble_eq_true rfl) (by decide) (by decide) (by decide) (by rw [hml]; rfl) (D at_398) ?_
      intro T2747 h2748 t2749 X2750 K2751 g2752 O2753
      have F2754 := F2738.keep K2751 (ninS (Nat.ne_of_lt lt2741) nin0)
      have F2755 := F2739.keep K2751 (ninS (Nat.ne_of_lt lt2742) nin0)
      have F2756 := F2740.keep K2751 (ninS (Nat.ne_of_lt lt2743) nin0) (ninS (Nat.ne_of_lt lt2744) nin0)
      have lt2757 : b2192 < t2749 := Nat.lt_of_lt_of_le F2738.lt g2752
      have lt2758 : b2207 < t2749 := Nat.lt_of_lt_of_le F2739.lt g2752
      have lt2759 : b2295 < t2749 := Nat.lt_of_lt_of_le F2740.lt g2752
      have lt2760 : t2719 < t2749 := Nat.lt_of_lt_of_le F2740.ltb g2752
      have lt2761 : b2731 < t2749 := Nat.lt_of_lt_of_le A2735.lt g2752
      show Goes p.tables e below _ (T2747.setTop (mkF m 401 #[.val (.int p0), .val (.int p1), .val (.int p2), .val (.int p3), .val (.int (p0 &&& (3 : Int32))), .val (.int (c8 p1)), .val (.int (c8 p2)), .val (.int (c8 p3)), .val (.ref b2192), .val (.ref b2207), .val (.ref b2295), .unset, .unset] [(.ref b2731)]))
      refine X2750.astore #[.val (.int p0), .val (.int p1), .val (.int p2), .val (.int p3), .val (.int (p0 &&& (3 : Int32))), .val (.int (c8 p1)), .val (.int (c8 p2)), .val (.int (c8 p3)), .val (.ref b2192), .val (.ref b2207), .val (.ref b2295), .val (.ref b2731), .unset] (D at_401) rfl rfl ?_
      refine X2750.aload (x := (.ref b2295)) (D at_403) rfl rfl ?_
      refine X2750.calls [(.ref b2295)] [] (ctBy l Z a0 hw hEL z0 S0 hz0 b2295 _ _) (w 33 rfl) (w 34 rfl) (w 35 rfl) (w 36 rfl) (by decide) (fun _ q => nomatch q) (by decide) 0 (by decide) (by decide) (by decide) (lenOf pd_20 rfl) rfl (Nat.le_of_ble_eq_true rfl) (by rw [hml]; rfl) (D at_405) ?_
      rintro T2762 h2763 _ X2765 K2766 ⟨dd, rfl, G0, G1, G2, G3, G4⟩
      have F2767 := F2756.keep K2766 nin0 nin0
      have F2768 := O2753.keep K2766 nin0 nin0
      show Goes p.tables e below _ (T2762.setTop (mkF m 408 #[.val (.int p0), .val (.int p1), .val (.int p2), .val (.int p3), .val (.int (p0 &&& (3 : Int32))), .val (.int (c8 p1)), .val (.int (c8 p2)), .val (.int (c8 p3)), .val (.ref b2192), .val (.ref b2207), .val (.ref b2295), .val (.ref b2731), .unset] [(.ref dd)]))
      refine X2765.astore #[.val (.int p0), .val (.int p1), .val (.int p2), .val (.int p3), .val (.int (p0 &&& (3 : Int32))), .val (.int (c8 p1)), .val (.int (c8 p2)), .val (.int (c8 p3)), .val (.ref b2192), .val (.ref b2207), .val (.ref b2295), .val (.ref b2731), .val (.ref dd)] (D at_408) rfl rfl ?_
      refine X2765.aload (x := (.ref b2295)) (D at_410) rfl rfl ?_
      refine X2765.aload (x := (.ref dd)) (D at_412) rfl rfl ?_
      refine X2765.callv (y := (⟨"com/example/greylag/greylag/Decision", "role", "()Ljava/lang/String;"⟩ : MethodName)) (a := dd) (C := "com/example/greylag/greylag/Decision") [] [(.ref b2295)] (ctRole l Z a0 hw hEL z0 S0 hz0 dd b2295 _ _ G1) G0 (w 56 rfl) (w 57 rfl) (w 59 rfl) (w 58 rfl) (w 35 rfl) (w 60 rfl) (by decide) (fun _ q => nomatch q) (by decide) 1 (by decide) (by decide) (by decide) (lenOf pd_18 rfl) rfl (Nat.le_of_ble_eq_true rfl) (by rw [hml]; rfl) (D at_414) ?_
      rintro T2769 h2770 _ X2772 K2773 rfl
      have F2774 := F2767.keep K2773 nin0 nin0
      have F2775 := F2768.keep K2773 nin0 nin0
      have F2776 := G0.keep K2773
      have F2777 := G1.keep K2773 nin0
      have F2778 := G2.keep K2773 nin0
      have F2779 := G3.keep K2773 nin0
      have F2780 := G4.keep K2773 nin0
      show Goes p.tables e below _ (T2769.setTop (mkF m 417 #[.val (.int p0), .val (.int p1), .val (.int p2), .val (.int p3), .val (.int (p0 &&& (3 : Int32))), .val (.int (c8 p1)), .val (.int (c8 p2)), .val (.int (c8 p3)), .val (.ref b2192), .val (.ref b2207), .val (.ref b2295), .val (.ref b2731), .val (.ref dd)] [(.ref b2295), (.ref b2295)]))
      show Goes p.tables e below _ (T2769.setTop (mkF m 417 #[.val (.int p0), .val (.int p1), .val (.int p2), .val (.int p3), .val (.int (p0 &&& (3 : Int32))), .val (.int (c8 p1)), .val (.int (c8 p2)), .val (.int (c8 p3)), .val (.ref b2192), .val (.ref b2207), .val (.ref b2295), .val (.ref b2731), .val (.ref dd)] [(.ref b2295), (.ref b2295)]))
      refine X2772.strEq (w 61 rfl) (w 62 rfl) (w 64 rfl) (w 63 rfl) (fun d q => hw d (hwsE d q)) (w 2 rfl) F2774 F2774 S0 hz0 (by decide) 0 (Nat.le_of_ble_eq_true rfl) (by decide) (by decide) (by decide) (by rw [hml]; rfl) (D at_417) (fun T2781 X2782 hc2783 => ?_) (fun T2781 X2782 hc2783 => ?_)
      · show Goes p.tables e below _ (T2781.setTop (mkF m 420 #[.val (.int p0), .val (.int p1), .val (.int p2), .val (.int p3), .val (.int (p0 &&& (3 : Int32))), .val (.int (c8 p1)), .val (.int (c8 p2)), .val (.int (c8 p3)), .val (.ref b2192), .val (.ref b2207), .val (.ref b2295), .val (.ref b2731), .val (.ref dd)] [(.int (1 : Int32))]))
        refine X2782.if_eq 473 (D at_420) ⟨by decide, by decide⟩ (fun hc2784 => absurd hc2784 (by decide)) (fun hc2784 => ?_)
        refine X2782.aload (x := (.ref dd)) (D at_423) rfl rfl ?_
        refine X2782.callv (y := (⟨"com/example/greylag/greylag/Decision", "index", "()I"⟩ : MethodName)) (a := dd) (C := "com/example/greylag/greylag/Decision") [] [] (ctIdx l Z a0 hw hEL z0 S0 hz0 dd b2295 _ _ F2778) F2776 (w 66 rfl) (w 67 rfl) (w 69 rfl) (w 68 rfl) (w 35 rfl) (w 70 rfl) (by decide) (fun _ q => nomatch q) (by decide) 0 (by decide) (by decide) (by decide) (lenOf pd_7 rfl) rfl (Nat.le_of_ble_eq_true rfl) (by rw [hml]; rfl) (D at_425) ?_
        rintro T2785 h2786 _ X2788 K2789 rfl
        have F2790 := F2774.keep K2789 nin0 nin0
        have F2791 := F2775.keep K2789 nin0 nin0
        have F2792 := F2776.keep K2789
        have F2793 := F2777.keep K2789 nin0
        have F2794 := F2778.keep K2789 nin0
        have F2795 := F2779.keep K2789 nin0
        have F2796 := F2780.keep K2789 nin0
        show Goes p.tables e below _ (T2785.setTop (mkF m 428 #[.val (.int p0), .val (.int p1), .val (.int p2), .val (.int p3), .val (.int (p0 &&& (3 : Int32))), .val (.int (c8 p1)), .val (.int (c8 p2)), .val (.int (c8 p3)), .val (.ref b2192), .val (.ref b2207), .val (.ref b2295), .val (.ref b2731), .val (.ref dd)] [(.int (-1 : Int32))]))
        refine X2788.iconst (x := (-1 : Int32)) (D at_428) rfl ?_
        refine X2788.icmp_ne 473 (D at_429) ⟨by decide, by decide⟩ (fun hc2797 => absurd hc2797 (by decide)) (fun hc2797 => ?_)
        refine X2788.aload (x := (.ref dd)) (D at_432) rfl rfl ?_
        refine X2788.callv (y := (⟨"com/example/greylag/greylag/Decision", "permission", "()Lcom/example/greylag/greylag/Permission;"⟩ : MethodName)) (a := dd) (C := "com/example/greylag/greylag/Decision") [] [] (ctPerm l Z a0 hw hEL z0 S0 hz0 dd b2295 _ _ F2795) F2792 (w 71 rfl) (w 72 rfl) (w 74 rfl) (w 73 rfl) (w 35 rfl) (w 75 rfl) (by decide) (fun _ q => nomatch q) (by decide) 0 (by decide) (by decide) (by decide) (lenOf pd_21 rfl) rfl (Nat.le_of_ble_eq_true rfl) (by rw [hml]; rfl) (D at_434) ?_
        rintro T2798 h2799 _ X2801 K2802 rfl
        have F2803 := F2790.keep K2802 nin0 nin0
        have F2804 := F2791.keep K2802 nin0 nin0
        have F2805 := F2792.keep K2802
        have F2806 := F2793.keep K2802 nin0
        have F2807 := F2794.keep K2802 nin0
        have F2808 := F2795.keep K2802 nin0
        have F2809 := F2796.keep K2802 nin0
        show Goes p.tables e below _ (T2798.setTop (mkF m 437 #[.val (.int p0), .val (.int p1), .val (.int p2), .val (.int p3), .val (.int (p0 &&& (3 : Int32))), .val (.int (c8 p1)), .val (.int (c8 p2)), .val (.int (c8 p3)), .val (.ref b2192), .val (.ref b2207), .val (.ref b2295), .val (.ref b2731), .val (.ref dd)] [.null]))
        refine X2801.ifnonnullN (D at_437) ?_
        refine X2801.aload (x := (.ref dd)) (D at_440) rfl rfl ?_
        refine X2801.callv (y := (⟨"com/example/greylag/greylag/Decision", "bypass", "()Z"⟩ : MethodName)) (a := dd) (C := "com/example/greylag/greylag/Decision") [] [] (ctByp l Z a0 hw hEL z0 S0 hz0 dd b2295 _ _ F2809) F2805 (w 76 rfl) (w 77 rfl) (w 79 rfl) (w 78 rfl) (w 35 rfl) (w 80 rfl) (by decide) (fun _ q => nomatch q) (by decide) 0 (by decide) (by decide) (by decide) (lenOf pd_14 rfl) rfl (Nat.le_of_ble_eq_true rfl) (by rw [hml]; rfl) (D at_442) ?_
        rintro T2810 h2811 _ X2813 K2814 rfl
        have F2815 := F2803.keep K2814 nin0 nin0
        have F2816 := F2804.keep K2814 nin0 nin0
        have F2817 := F2805.keep K2814
        have F2818 := F2806.keep K2814 nin0
        have F2819 := F2807.keep K2814 nin0
        have F2820 := F2808.keep K2814 nin0
        have F2821 := F2809.keep K2814 nin0
        show Goes p.tables e below _ (T2810.setTop (mkF m 445 #[.val (.int p0), .val (.int p1), .val (.int p2), .val (.int p3), .val (.int (p0 &&& (3 : Int32))), .val (.int (c8 p1)), .val (.int (c8 p2)), .val (.int (c8 p3)), .val (.ref b2192), .val (.ref b2207), .val (.ref b2295), .val (.ref b2731), .val (.ref dd)] [(.int (1 : Int32))]))
        refine X2813.if_eq 473 (D at_445) ⟨by decide, by decide⟩ (fun hc2822 => absurd hc2822 (by decide)) (fun hc2822 => ?_)
        refine X2813.aload (x := (.ref dd)) (D at_448) rfl rfl ?_
        refine X2813.callv (y := (⟨"com/example/greylag/greylag/Decision", "allowed", "()Z"⟩ : MethodName)) (a := dd) (C := "com/example/greylag/greylag/Decision") [] [] (ctAll l Z a0 hw hEL z0 S0 hz0 dd b2295 _ _ F2821) F2817 (w 81 rfl) (w 82 rfl) (w 84 rfl) (w 83 rfl) (w 35 rfl) (w 85 rfl) (by decide) (fun _ q => nomatch q) (by decide) 0 (by decide) (by decide) (by decide) (lenOf pd_14 rfl) rfl (Nat.le_of_ble_eq_true rfl) (by rw [hml]; rfl) (D at_450) ?_
        rintro T2823 h2824 _ X2826 K2827 rfl
        have F2828 := F2815.keep K2827 nin0 nin0
        have F2829 := F2816.keep K2827 nin0 nin0
        have F2830 := F2817.keep K2827
        have F2831 := F2818.keep K2827 nin0
        have F2832 := F2819.keep K2827 nin0
        have F2833 := F2820.keep K2827 nin0
        have F2834 := F2821.keep K2827 nin0
        show Goes p.tables e below _ (T2823.setTop (mkF m 453 #[.val (.int p0), .val (.int p1), .val (.int p2), .val (.int p3), .val (.int (p0 &&& (3 : Int32))), .val (.int (c8 p1)), .val (.int (c8 p2)), .val (.int (c8 p3)), .val (.ref b2192), .val (.ref b2207), .val (.ref b2295), .val (.ref b2731), .val (.ref dd)] [(.int (1 : Int32))]))
        refine X2826.if_eq 473 (D at_453) ⟨by decide, by decide⟩ (fun hc2835 => absurd hc2835 (by decide)) (fun hc2835 => ?_)
        refine X2826.aload (x := (.ref b2731)) (D at_456) rfl rfl ?_
        refine X2826.aload (x := (.ref dd)) (D at_458) rfl rfl ?_
        refine X2826.callv (y := (⟨"com/example/greylag/greylag/Decision", "explanation", "()Ljava/lang/String;"⟩ : MethodName)) (a := dd) (C := "com/example/greylag/greylag/Decision") [] [(.ref b2731)] (ctEx1 l Z a0 hw hEL z0 S0 hz0 dd b2295 t2719 (c8 p1) _ _ F2830 F2831 F2834 F2828) F2830 (w 86 rfl) (w 87 rfl) (w 89 rfl) (w 88 rfl) (w 35 rfl) (w 90 rfl) (by decide) (fun _ q => nomatch q) (by decide) 1 (by decide) (by decide) (by decide) (lenOf pd_18 rfl) rfl (Nat.le_of_ble_eq_true rfl) (by rw [hml]; rfl) (D at_460) ?_
        rintro T2836 h2837 _ X2839 K2840 ⟨s9, t9, rfl, O9⟩
        have F2841 := F2828.keep K2840 nin0 nin0
        have F2842 := F2829.keep K2840 nin0 nin0
        have F2843 := F2830.keep K2840
        have F2844 := F2831.keep K2840 nin0
        have F2845 := F2832.keep K2840 nin0
        have F2846 := F2833.keep K2840 nin0
        have F2847 := F2834.keep K2840 nin0
        show Goes p.tables e below _ (T2836.setTop (mkF m 463 #[.val (.int p0), .val (.int p1), .val (.int p2), .val (.int p3), .val (.int (p0 &&& (3 : Int32))), .val (.int (c8 p1)), .val (.int (c8 p2)), .val (.int (c8 p3)), .val (.ref b2192), .val (.ref b2207), .val (.ref b2295), .val (.ref b2731), .val (.ref dd)] [(.ref s9), (.ref b2731)]))
        show Goes p.tables e below _ (T2836.setTop (mkF m 463 #[.val (.int p0), .val (.int p1), .val (.int p2), .val (.int p3), .val (.int (p0 &&& (3 : Int32))), .val (.int (c8 p1)), .val (.int (c8 p2)), .val (.int (c8 p3)), .val (.ref b2192), .val (.ref b2207), .val (.ref b2295), .val (.ref b2731), .val (.ref dd)] [(.ref s9), (.ref b2731)]))
        refine X2839.strEq (w 61 rfl) (w 62 rfl) (w 64 rfl) (w 63 rfl) (fun d q => hw d (hwsE d q)) (w 2 rfl) F2842 O9 S0 hz0 (by decide) 0 (Nat.le_of_ble_eq_true rfl) (by decide) (by decide) (by decide) (by rw [hml]; rfl) (D at_463) (fun T2848 X2849 hc2850 => ?_) (fun T2848 X2849 hc2850 => ?_)
        · show Goes p.tables e below _ (T2848.setTop (mkF m 466 #[.val (.int p0), .val (.int p1), .val (.int p2), .val (.int p3), .val (.int (p0 &&& (3 : Int32))), .val (.int (c8 p1)), .val (.int (c8 p2)), .val (.int (c8 p3)), .val (.ref b2192), .val (.ref b2207), .val (.ref b2295), .val (.ref b2731), .val (.ref dd)] [(.int (1 : Int32))]))
          refine X2849.if_eq 473 (D at_466) ⟨by decide, by decide⟩ (fun hc2851 => absurd hc2851 (by decide)) (fun hc2851 => ?_)
          refine X2849.iconst (x := (1 : Int32)) (D at_469) rfl ?_
          refine X2849.goto 474 (D at_470) ⟨by decide, by decide⟩ ?_
          exact X2849.reti hret (by simp) hlk (D at_474) (by decide) (by decide) (rfl)
        · show Goes p.tables e below _ (T2848.setTop (mkF m 466 #[.val (.int p0), .val (.int p1), .val (.int p2), .val (.int p3), .val (.int (p0 &&& (3 : Int32))), .val (.int (c8 p1)), .val (.int (c8 p2)), .val (.int (c8 p3)), .val (.ref b2192), .val (.ref b2207), .val (.ref b2295), .val (.ref b2731), .val (.ref dd)] [(.int (0 : Int32))]))
          exact (hc2850 rfl).elim
      · show Goes p.tables e below _ (T2781.setTop (mkF m 420 #[.val (.int p0), .val (.int p1), .val (.int p2), .val (.int p3), .val (.int (p0 &&& (3 : Int32))), .val (.int (c8 p1)), .val (.int (c8 p2)), .val (.int (c8 p3)), .val (.ref b2192), .val (.ref b2207), .val (.ref b2295), .val (.ref b2731), .val (.ref dd)] [(.int (0 : Int32))]))
        exact (hc2783 rfl).elim
  · show Goes p.tables e below _ (T0.setTop (mkF m 34 #[.val (.int p0), .val (.int p1), .val (.int p2), .val (.int p3), .val (.int (p0 &&& (3 : Int32))), .val (.int (c8 p1)), .val (.int (c8 p2)), .val (.int (c8 p3)), .unset, .unset, .unset, .unset, .unset] []))
    refine X0.iconst (x := (0 : Int32)) (D at_34) rfl ?_
    refine X0.newarr (w 0 rfl) (n := (0 : Int32)) (D at_35) (by decide) 0 (by decide) (by decide) (by decide) (by decide) ?_
    intro T2084 h2085 b2086 kb2087 g2088 X2089 E2090 A2091
    have F2092 : Arv Z h2085 b2086 kb2087 .char (0 : Int32) [] (.int (0 : Int32)) := A2091
    show Goes p.tables e below _ (T2084.setTop (mkF m 37 #[.val (.int p0), .val (.int p1), .val (.int p2), .val (.int p3), .val (.int (p0 &&& (3 : Int32))), .val (.int (c8 p1)), .val (.int (c8 p2)), .val (.int (c8 p3)), .unset, .unset, .unset, .unset, .unset] [(.ref b2086)]))
    refine X2089.astore #[.val (.int p0), .val (.int p1), .val (.int p2), .val (.int p3), .val (.int (p0 &&& (3 : Int32))), .val (.int (c8 p1)), .val (.int (c8 p2)), .val (.int (c8 p3)), .val (.ref b2086), .unset, .unset, .unset, .unset] (D at_37) rfl rfl ?_
    refine X2089.bipush (x := (10 : Int32)) (D at_39) rfl ?_
    refine X2089.newarr (w 0 rfl) (n := (10 : Int32)) (D at_41) (by decide) 10 (by decide) (by decide) (by decide) (by decide) ?_
    intro T2093 h2094 b2095 kb2096 g2097 X2098 E2099 A2100
    have F2101 := F2092.ext E2099
    have lt2102 : b2086 < b2095 := by rw [g2097]; exact F2092.lt
    have F2103 : Arv Z h2094 b2095 kb2096 .char (10 : Int32) [(.int (0 : Int32)), (.int (0 : Int32)), (.int (0 : Int32)), (.int (0 : Int32)), (.int (0 : Int32)), (.int (0 : Int32)), (.int (0 : Int32)), (.int (0 : Int32)), (.int (0 : Int32)), (.int (0 : Int32))] (.int (0 : Int32)) := A2100.pad (pad_rep [] (.int (0 : Int32)) 10)
    show Goes p.tables e below _ (T2093.setTop (mkF m 43 #[.val (.int p0), .val (.int p1), .val (.int p2), .val (.int p3), .val (.int (p0 &&& (3 : Int32))), .val (.int (c8 p1)), .val (.int (c8 p2)), .val (.int (c8 p3)), .val (.ref b2086), .unset, .unset, .unset, .unset] [(.ref b2095)]))
    refine X2098.dup (D at_43) rfl ?_
    refine X2098.iconst (x := (0 : Int32)) (D at_44) rfl ?_
    refine X2098.bipush (x := (98 : Int32)) (D at_45) rfl ?_
    show Goes p.tables e below _ (T2093.setTop (mkF m 47 #[.val (.int p0), .val (.int p1), .val (.int p2), .val (.int p3), .val (.int (p0 &&& (3 : Int32))), .val (.int (c8 p1)), .val (.int (c8 p2)), .val (.int (c8 p3)), .val (.ref b2086), .unset, .unset, .unset, .unset] [(.int (98 : Int32)), (.int (0 : Int32)), (.ref b2095), (.ref b2095)]))
    refine X2098.castore F2103 ⟨by decide, by decide⟩ 0 rfl (Nat.le_of_ble_eq_true rfl) (by simp) (D at_47) ?_
    intro T2104 h2105 X2106 W2107 A2108
    have F2109 := F2101.other W2107 (Nat.ne_of_lt lt2102)
    have F2110 : Arv Z h2105 b2095 kb2096 .char (10 : Int32) [(.int (98 : Int32)), (.int (0 : Int32)), (.int (0 : Int32)), (.int (0 : Int32)), (.int (0 : Int32)), (.int (0 : Int32)), (.int (0 : Int32)), (.int (0 : Int32)), (.int (0 : Int32)), (.int (0 : Int32))] (.int (0 : Int32)) := by exact A2108
    show Goes p.tables e below _ (T2104.setTop (mkF m 48 #[.val (.int p0), .val (.int p1), .val (.int p2), .val (.int p3), .val (.int (p0 &&& (3 : Int32))), .val (.int (c8 p1)), .val (.int (c8 p2)), .val (.int (c8 p3)), .val (.ref b2086), .unset, .unset, .unset, .unset] [(.ref b2095)]))
    refine X2106.dup (D at_48) rfl ?_
    refine X2106.iconst (x := (1 : Int32)) (D at_49) rfl ?_
    refine X2106.bipush (x := (121 : Int32)) (D at_50) rfl ?_
    show Goes p.tables e below _ (T2104.setTop (mkF m 52 #[.val (.int p0), .val (.int p1), .val (.int p2), .val (.int p3), .val (.int (p0 &&& (3 : Int32))), .val (.int (c8 p1)), .val (.int (c8 p2)), .val (.int (c8 p3)), .val (.ref b2086), .unset, .unset, .unset, .unset] [(.int (121 : Int32)), (.int (1 : Int32)), (.ref b2095), (.ref b2095)]))
    refine X2106.castore F2110 ⟨by decide, by decide⟩ 1 rfl (Nat.le_of_ble_eq_true rfl) (by simp) (D at_52) ?_
    intro T2111 h2112 X2113 W2114 A2115
    have F2116 := F2109.other W2114 (Nat.ne_of_lt lt2102)
    have F2117 : Arv Z h2112 b2095 kb2096 .char (10 : Int32) [(.int (98 : Int32)), (.int (121 : Int32)), (.int (0 : Int32)), (.int (0 : Int32)), (.int (0 : Int32)), (.int (0 : Int32)), (.int (0 : Int32)), (.int (0 : Int32)), (.int (0 : Int32)), (.int (0 : Int32))] (.int (0 : Int32)) := by exact A2115
    show Goes p.tables e below _ (T2111.setTop (mkF m 53 #[.val (.int p0), .val (.int p1), .val (.int p2), .val (.int p3), .val (.int (p0 &&& (3 : Int32))), .val (.int (c8 p1)), .val (.int (c8 p2)), .val (.int (c8 p3)), .val (.ref b2086), .unset, .unset, .unset, .unset] [(.ref b2095)]))
    refine X2113.dup (D at_53) rfl ?_
    refine X2113.iconst (x := (2 : Int32)) (D at_54) rfl ?_
    refine X2113.bipush (x := (32 : Int32)) (D at_55) rfl ?_
    show Goes p.tables e below _ (T2111.setTop (mkF m 57 #[.val (.int p0), .val (.int p1), .val (.int p2), .val (.int p3), .val (.int (p0 &&& (3 : Int32))), .val (.int (c8 p1)), .val (.int (c8 p2)), .val (.int (c8 p3)), .val (.ref b2086), .unset, .unset, .unset, .unset] [(.int (32 : Int32)), (.int (2 : Int32)), (.ref b2095), (.ref b2095)]))
    refine X2113.castore F2117 ⟨by decide, by decide⟩ 2 rfl (Nat.le_of_ble_eq_true rfl) (by simp) (D at_57) ?_
    intro T2118 h2119 X2120 W2121 A2122
    have F2123 := F2116.other W2121 (Nat.ne_of_lt lt2102)
    have F2124 : Arv Z h2119 b2095 kb2096 .char (10 : Int32) [(.int (98 : Int32)), (.int (121 : Int32)), (.int (32 : Int32)), (.int (0 : Int32)), (.int (0 : Int32)), (.int (0 : Int32)), (.int (0 : Int32)), (.int (0 : Int32)), (.int (0 : Int32)), (.int (0 : Int32))] (.int (0 : Int32)) := by exact A2122
    show Goes p.tables e below _ (T2118.setTop (mkF m 58 #[.val (.int p0), .val (.int p1), .val (.int p2), .val (.int p3), .val (.int (p0 &&& (3 : Int32))), .val (.int (c8 p1)), .val (.int (c8 p2)), .val (.int (c8 p3)), .val (.ref b2086), .unset, .unset, .unset, .unset] [(.ref b2095)]))
    refine X2120.dup (D at_58) rfl ?_
    refine X2120.iconst (x := (3 : Int32)) (D at_59) rfl ?_
    refine X2120.bipush (x := (98 : Int32)) (D at_60) rfl ?_
    show Goes p.tables e below _ (T2118.setTop (mkF m 62 #[.val (.int p0), .val (.int p1), .val (.int p2), .val (.int p3), .val (.int (p0 &&& (3 : Int32))), .val (.int (c8 p1)), .val (.int (c8 p2)), .val (.int (c8 p3)), .val (.ref b2086), .unset, .unset, .unset, .unset] [(.int (98 : Int32)), (.int (3 : Int32)), (.ref b2095), (.ref b2095)]))
    refine X2120.castore F2124 ⟨by decide, by decide⟩ 3 rfl (Nat.le_of_ble_eq_true rfl) (by simp) (D at_62) ?_
    intro T2125 h2126 X2127 W2128 A2129
    have F2130 := F2123.other W2128 (Nat.ne_of_lt lt2102)
    have F2131 : Arv Z h2126 b2095 kb2096 .char (10 : Int32) [(.int (98 : Int32)), (.int (121 : Int32)), (.int (32 : Int32)), (.int (98 : Int32)), (.int (0 : Int32)), (.int (0 : Int32)), (.int (0 : Int32)), (.int (0 : Int32)), (.int (0 : Int32)), (.int (0 : Int32))] (.int (0 : Int32)) := by exact A2129
    show Goes p.tables e below _ (T2125.setTop (mkF m 63 #[.val (.int p0), .val (.int p1), .val (.int p2), .val (.int p3), .val (.int (p0 &&& (3 : Int32))), .val (.int (c8 p1)), .val (.int (c8 p2)), .val (.int (c8 p3)), .val (.ref b2086), .unset, .unset, .unset, .unset] [(.ref b2095)]))
    refine X2127.dup (D at_63) rfl ?_
    refine X2127.iconst (x := (4 : Int32)) (D at_64) rfl ?_
    refine X2127.bipush (x := (121 : Int32)) (D at_65) rfl ?_
    show Goes p.tables e below _ (T2125.setTop (mkF m 67 #[.val (.int p0), .val (.int p1), .val (.int p2), .val (.int p3), .val (.int (p0 &&& (3 : Int32))), .val (.int (c8 p1)), .val (.int (c8 p2)), .val (.int (c8 p3)), .val (.ref b2086), .unset, .unset, .unset, .unset] [(.int (121 : Int32)), (.int (4 : Int32)), (.ref b2095), (.ref b2095)]))
    refine X2127.castore F2131 ⟨by decide, by decide⟩ 4 rfl (Nat.le_of_ble_eq_true rfl) (by simp) (D at_67) ?_
    intro T2132 h2133 X2134 W2135 A2136
    have F2137 := F2130.other W2135 (Nat.ne_of_lt lt2102)
    have F2138 : Arv Z h2133 b2095 kb2096 .char (10 : Int32) [(.int (98 : Int32)), (.int (121 : Int32)), (.int (32 : Int32)), (.int (98 : Int32)), (.int (121 : Int32)), (.int (0 : Int32)), (.int (0 : Int32)), (.int (0 : Int32)), (.int (0 : Int32)), (.int (0 : Int32))] (.int (0 : Int32)) := by exact A2136
    show Goes p.tables e below _ (T2132.setTop (mkF m 68 #[.val (.int p0), .val (.int p1), .val (.int p2), .val (.int p3), .val (.int (p0 &&& (3 : Int32))), .val (.int (c8 p1)), .val (.int (c8 p2)), .val (.int (c8 p3)), .val (.ref b2086), .unset, .unset, .unset, .unset] [(.ref b2095)]))
    refine X2134.dup (D at_68) rfl ?_
    refine X2134.iconst (x := (5 : Int32)) (D at_69) rfl ?_
    refine X2134.bipush (x := (112 : Int32)) (D at_70) rfl ?_
    show Goes p.tables e below _ (T2132.setTop (mkF m 72 #[.val (.int p0), .val (.int p1), .val (.int p2), .val (.int p3), .val (.int (p0 &&& (3 : Int32))), .val (.int (c8 p1)), .val (.int (c8 p2)), .val (.int (c8 p3)), .val (.ref b2086), .unset, .unset, .unset, .unset] [(.int (112 : Int32)), (.int (5 : Int32)), (.ref b2095), (.ref b2095)]))
    refine X2134.castore F2138 ⟨by decide, by decide⟩ 5 rfl (Nat.le_of_ble_eq_true rfl) (by simp) (D at_72) ?_
    intro T2139 h2140 X2141 W2142 A2143
    have F2144 := F2137.other W2142 (Nat.ne_of_lt lt2102)
    have F2145 : Arv Z h2140 b2095 kb2096 .char (10 : Int32) [(.int (98 : Int32)), (.int (121 : Int32)), (.int (32 : Int32)), (.int (98 : Int32)), (.int (121 : Int32)), (.int (112 : Int32)), (.int (0 : Int32)), (.int (0 : Int32)), (.int (0 : Int32)), (.int (0 : Int32))] (.int (0 : Int32)) := by exact A2143
    show Goes p.tables e below _ (T2139.setTop (mkF m 73 #[.val (.int p0), .val (.int p1), .val (.int p2), .val (.int p3), .val (.int (p0 &&& (3 : Int32))), .val (.int (c8 p1)), .val (.int (c8 p2)), .val (.int (c8 p3)), .val (.ref b2086), .unset, .unset, .unset, .unset] [(.ref b2095)]))
    refine X2141.dup (D at_73) rfl ?_
    refine X2141.bipush (x := (6 : Int32)) (D at_74) rfl ?_
    refine X2141.bipush (x := (97 : Int32)) (D at_76) rfl ?_
    show Goes p.tables e below _ (T2139.setTop (mkF m 78 #[.val (.int p0), .val (.int p1), .val (.int p2), .val (.int p3), .val (.int (p0 &&& (3 : Int32))), .val (.int (c8 p1)), .val (.int (c8 p2)), .val (.int (c8 p3)), .val (.ref b2086), .unset, .unset, .unset, .unset] [(.int (97 : Int32)), (.int (6 : Int32)), (.ref b2095), (.ref b2095)]))
    refine X2141.castore F2145 ⟨by decide, by decide⟩ 6 rfl (Nat.le_of_ble_eq_true rfl) (by simp) (D at_78) ?_
    intro T2146 h2147 X2148 W2149 A2150
    have F2151 := F2144.other W2149 (Nat.ne_of_lt lt2102)
    have F2152 : Arv Z h2147 b2095 kb2096 .char (10 : Int32) [(.int (98 : Int32)), (.int (121 : Int32)), (.int (32 : Int32)), (.int (98 : Int32)), (.int (121 : Int32)), (.int (112 : Int32)), (.int (97 : Int32)), (.int (0 : Int32)), (.int (0 : Int32)), (.int (0 : Int32))] (.int (0 : Int32)) := by exact A2150
    show Goes p.tables e below _ (T2146.setTop (mkF m 79 #[.val (.int p0), .val (.int p1), .val (.int p2), .val (.int p3), .val (.int (p0 &&& (3 : Int32))), .val (.int (c8 p1)), .val (.int (c8 p2)), .val (.int (c8 p3)), .val (.ref b2086), .unset, .unset, .unset, .unset] [(.ref b2095)]))
    refine X2148.dup (D at_79) rfl ?_
    refine X2148.bipush (x := (7 : Int32)) (D at_80) rfl ?_
    refine X2148.bipush (x := (115 : Int32)) (D at_82) rfl ?_
    show Goes p.tables e below _ (T2146.setTop (mkF m 84 #[.val (.int p0), .val (.int p1), .val (.int p2), .val (.int p3), .val (.int (p0 &&& (3 : Int32))), .val (.int (c8 p1)), .val (.int (c8 p2)), .val (.int (c8 p3)), .val (.ref b2086), .unset, .unset, .unset, .unset] [(.int (115 : Int32)), (.int (7 : Int32)), (.ref b2095), (.ref b2095)]))
    refine X2148.castore F2152 ⟨by decide, by decide⟩ 7 rfl (Nat.le_of_ble_eq_true rfl) (by simp) (D at_84) ?_
    intro T2153 h2154 X2155 W2156 A2157
    have F2158 := F2151.other W2156 (Nat.ne_of_lt lt2102)
    have F2159 : Arv Z h2154 b2095 kb2096 .char (10 : Int32) [(.int (98 : Int32)), (.int (121 : Int32)), (.int (32 : Int32)), (.int (98 : Int32)), (.int (121 : Int32)), (.int (112 : Int32)), (.int (97 : Int32)), (.int (115 : Int32)), (.int (0 : Int32)), (.int (0 : Int32))] (.int (0 : Int32)) := by exact A2157
    show Goes p.tables e below _ (T2153.setTop (mkF m 85 #[.val (.int p0), .val (.int p1), .val (.int p2), .val (.int p3), .val (.int (p0 &&& (3 : Int32))), .val (.int (c8 p1)), .val (.int (c8 p2)), .val (.int (c8 p3)), .val (.ref b2086), .unset, .unset, .unset, .unset] [(.ref b2095)]))
    refine X2155.dup (D at_85) rfl ?_
    refine X2155.bipush (x := (8 : Int32)) (D at_86) rfl ?_
    refine X2155.bipush (x := (115 : Int32)) (D at_88) rfl ?_
    show Goes p.tables e below _ (T2153.setTop (mkF m 90 #[.val (.int p0), .val (.int p1), .val (.int p2), .val (.int p3), .val (.int (p0 &&& (3 : Int32))), .val (.int (c8 p1)), .val (.int (c8 p2)), .val (.int (c8 p3)), .val (.ref b2086), .unset, .unset, .unset, .unset] [(.int (115 : Int32)), (.int (8 : Int32)), (.ref b2095), (.ref b2095)]))
    refine X2155.castore F2159 ⟨by decide, by decide⟩ 8 rfl (Nat.le_of_ble_eq_true rfl) (by simp) (D at_90) ?_
    intro T2160 h2161 X2162 W2163 A2164
    have F2165 := F2158.other W2163 (Nat.ne_of_lt lt2102)
    have F2166 : Arv Z h2161 b2095 kb2096 .char (10 : Int32) [(.int (98 : Int32)), (.int (121 : Int32)), (.int (32 : Int32)), (.int (98 : Int32)), (.int (121 : Int32)), (.int (112 : Int32)), (.int (97 : Int32)), (.int (115 : Int32)), (.int (115 : Int32)), (.int (0 : Int32))] (.int (0 : Int32)) := by exact A2164
    show Goes p.tables e below _ (T2160.setTop (mkF m 91 #[.val (.int p0), .val (.int p1), .val (.int p2), .val (.int p3), .val (.int (p0 &&& (3 : Int32))), .val (.int (c8 p1)), .val (.int (c8 p2)), .val (.int (c8 p3)), .val (.ref b2086), .unset, .unset, .unset, .unset] [(.ref b2095)]))
    refine X2162.dup (D at_91) rfl ?_
    refine X2162.bipush (x := (9 : Int32)) (D at_92) rfl ?_
    refine X2162.bipush (x := (32 : Int32)) (D at_94) rfl ?_
    show Goes p.tables e below _ (T2160.setTop (mkF m 96 #[.val (.int p0), .val (.int p1), .val (.int p2), .val (.int p3), .val (.int (p0 &&& (3 : Int32))), .val (.int (c8 p1)), .val (.int (c8 p2)), .val (.int (c8 p3)), .val (.ref b2086), .unset, .unset, .unset, .unset] [(.int (32 : Int32)), (.int (9 : Int32)), (.ref b2095), (.ref b2095)]))
    refine X2162.castore F2166 ⟨by decide, by decide⟩ 9 rfl (Nat.le_of_ble_eq_true rfl) (by simp) (D at_96) ?_
    intro T2167 h2168 X2169 W2170 A2171
    have F2172 := F2165.other W2170 (Nat.ne_of_lt lt2102)
    have F2173 : Arv Z h2168 b2095 kb2096 .char (10 : Int32) [(.int (98 : Int32)), (.int (121 : Int32)), (.int (32 : Int32)), (.int (98 : Int32)), (.int (121 : Int32)), (.int (112 : Int32)), (.int (97 : Int32)), (.int (115 : Int32)), (.int (115 : Int32)), (.int (32 : Int32))] (.int (0 : Int32)) := by exact A2171
    show Goes p.tables e below _ (T2167.setTop (mkF m 97 #[.val (.int p0), .val (.int p1), .val (.int p2), .val (.int p3), .val (.int (p0 &&& (3 : Int32))), .val (.int (c8 p1)), .val (.int (c8 p2)), .val (.int (c8 p3)), .val (.ref b2086), .unset, .unset, .unset, .unset] [(.ref b2095)]))
    refine X2169.astore #[.val (.int p0), .val (.int p1), .val (.int p2), .val (.int p3), .val (.int (p0 &&& (3 : Int32))), .val (.int (c8 p1)), .val (.int (c8 p2)), .val (.int (c8 p3)), .val (.ref b2086), .val (.ref b2095), .unset, .unset, .unset] (D at_97) rfl rfl ?_
    refine X2169.goto 381 (D at_99) ⟨by decide, by decide⟩ ?_
    refine X2169.new (w 1 rfl) (w 2 rfl) (w 3 rfl) (D at_381) (by decide) (by decide) ?_
    intro T2174 h2175 b2176 g2177 X2178 E2179 A2180 D2181 U2182
    have F2183 := F2172.ext E2179
    have F2184 := F2173.ext E2179
    have lt2185 : b2086 < b2176 := by rw [g2177]; exact F2172.lt
    have lt2186 : b2095 < b2176 := by rw [g2177]; exact F2173.lt
    have F2187 : Fld Z h2175 b2176 "java/lang/String" "value" "[B" .null := D2181 (Or.inr (w 16 rfl)) (ty := (.array .byte)) (by decide)
    have F2188 : Fld Z h2175 b2176 "java/lang/String" "coder" "B" (.int (0 : Int32)) := D2181 (Or.inr (w 17 rfl)) (ty := .byte) (by decide)
    show Goes p.tables e below _ (T2174.setTop (mkF m 384 #[.val (.int p0), .val (.int p1), .val (.int p2), .val (.int p3), .val (.int (p0 &&& (3 : Int32))), .val (.int (c8 p1)), .val (.int (c8 p2)), .val (.int (c8 p3)), .val (.ref b2086), .val (.ref b2095), .unset, .unset, .unset] [(.ref b2176)]))
    refine X2178.dup (D at_384) rfl ?_
    refine X2178.aload (x := (.ref b2086)) (D at_385) rfl rfl ?_
    refine X2178.callc (a := b2176) [(.ref b2086)] [(.ref b2176)] (ctE1 l Z a0 hw hEL z0 S0 hz0 b2176 b2086 _ _ _ _ A2180 F2187 F2188 F2183) rfl (w 4 rfl) (w 5 rfl) (w 3 rfl) (w 6 rfl) (by decide) (by simp) (by decide) 1 (by decide) (by decide) (by decide) (lenOf pd_19 rfl) rfl (Nat.le_of_ble_eq_true rfl) (by rw [hml]; rfl) (D at_387) ?_
    rintro T2586 h2587 _ X2589 K2590 ⟨rfl, t2584, O2585⟩
    have F2591 := F2183.keep K2590 (ninS (Nat.ne_of_lt lt2185) nin0)
    have F2592 := F2184.keep K2590 (ninS (Nat.ne_of_lt lt2186) nin0)
    have F2593 := A2180.keep K2590
    show Goes p.tables e below _ (T2586.setTop (mkF m 390 #[.val (.int p0), .val (.int p1), .val (.int p2), .val (.int p3), .val (.int (p0 &&& (3 : Int32))), .val (.int (c8 p1)), .val (.int (c8 p2)), .val (.int (c8 p3)), .val (.ref b2086), .val (.ref b2095), .unset, .unset, .unset] [(.ref b2176)]))
    refine X2589.astore #[.val (.int p0), .val (.int p1), .val (.int p2), .val (.int p3), .val (.int (p0 &&& (3 : Int32))), .val (.int (c8 p1)), .val (.int (c8 p2)), .val (.int (c8 p3)), .val (.ref b2086), .val (.ref b2095), .val (.ref b2176), .unset, .unset] (D at_390) rfl rfl ?_
    refine X2589.new (w 1 rfl) (w 2 rfl) (w 3 rfl) (D at_392) (by decide) (by decide) ?_
    intro T2594 h2595 b2596 g2597 X2598 E2599 A2600 D2601 U2602
    have F2603 := F2591.ext E2599
    have F2604 := F2592.ext E2599
    have F2605 := O2585.ext E2599
    have lt2606 : b2086 < b2596 := by rw [g2597]; exact F2591.lt
    have lt2607 : b2095 < b2596 := by rw [g2597]; exact F2592.lt
    have lt2608 : b2176 < b2596 := by rw [g2597]; exact O2585.lt
    have lt2609 : t2584 < b2596 := by rw [g2597]; exact O2585.ltb
    have F2610 : Fld Z h2595 b2596 "java/lang/String" "value" "[B" .null := D2601 (Or.inr (w 16 rfl)) (ty := (.array .byte)) (by decide)
    have F2611 : Fld Z h2595 b2596 "java/lang/String" "coder" "B" (.int (0 : Int32)) := D2601 (Or.inr (w 17 rfl)) (ty := .byte) (by decide)
    show Goes p.tables e below _ (T2594.setTop (mkF m 395 #[.val (.int p0), .val (.int p1), .val (.int p2), .val (.int p3), .val (.int (p0 &&& (3 : Int32))), .val (.int (c8 p1)), .val (.int (c8 p2)), .val (.int (c8 p3)), .val (.ref b2086), .val (.ref b2095), .val (.ref b2176), .unset, .unset] [(.ref b2596)]))
    refine X2598.dup (D at_395) rfl ?_
    refine X2598.aload (x := (.ref b2095)) (D at_396) rfl rfl ?_
    show Goes p.tables e below _ (T2594.setTop (mkF m 398 #[.val (.int p0), .val (.int p1), .val (.int p2), .val (.int p3), .val (.int (p0 &&& (3 : Int32))), .val (.int (c8 p1)), .val (.int (c8 p2)), .val (.int (c8 p3)), .val (.ref b2086), .val (.ref b2095), .val (.ref b2176), .unset, .unset] [(.ref b2095), (.ref b2596), (.ref b2596)]))
    refine X2598.newStr (cs := [(98 : Int32), (121 : Int32), (32 : Int32), (98 : Int32), (121 : Int32), (112 : Int32), (97 : Int32), (115 : Int32), (115 : Int32), (32 : Int32)]) 10 (w 4 rfl) (w 5 rfl) (fun d q => hw d (hwsV d q)) (w 2 rfl) A2600 F2610 F2611 F2604 S0 hz0 rfl rfl (by decide) (by decide) (hpS (by decide) (hpS (by decide) (hpS (by decide) (hpS (by decide) (hpS (by decide) (hpS (by decide) (hpS (by decide) (hpS (by decide) (hpS (by decide) (hpS (by decide) hp0)))))))))) (by simp) (by decide) 1 (Nat.le_of_ble_eq_true rfl) (by decide) (by decide) (by decide) (by rw [hml]; rfl) (D at_398) ?_
    intro T2612 h2613 t2614 X2615 K2616 g2617 O2618
    have F2619 := F2603.keep K2616 (ninS (Nat.ne_of_lt lt2606) nin0)
    have F2620 := F2604.keep K2616 (ninS (Nat.ne_of_lt lt2607) nin0)
    have F2621 := F2605.keep K2616 (ninS (Nat.ne_of_lt lt2608) nin0) (ninS (Nat.ne_of_lt lt2609) nin0)
    have lt2622 : b2086 < t2614 := Nat.lt_of_lt_of_le F2603.lt g2617
    have lt2623 : b2095 < t2614 := Nat.lt_of_lt_of_le F2604.lt g2617
    have lt2624 : b2176 < t2614 := Nat.lt_of_lt_of_le F2605.lt g2617
    have lt2625 : t2584 < t2614 := Nat.lt_of_lt_of_le F2605.ltb g2617
    have lt2626 : b2596 < t2614 := Nat.lt_of_lt_of_le A2600.lt g2617
    show Goes p.tables e below _ (T2612.setTop (mkF m 401 #[.val (.int p0), .val (.int p1), .val (.int p2), .val (.int p3), .val (.int (p0 &&& (3 : Int32))), .val (.int (c8 p1)), .val (.int (c8 p2)), .val (.int (c8 p3)), .val (.ref b2086), .val (.ref b2095), .val (.ref b2176), .unset, .unset] [(.ref b2596)]))
    refine X2615.astore #[.val (.int p0), .val (.int p1), .val (.int p2), .val (.int p3), .val (.int (p0 &&& (3 : Int32))), .val (.int (c8 p1)), .val (.int (c8 p2)), .val (.int (c8 p3)), .val (.ref b2086), .val (.ref b2095), .val (.ref b2176), .val (.ref b2596), .unset] (D at_401) rfl rfl ?_
    refine X2615.aload (x := (.ref b2176)) (D at_403) rfl rfl ?_
    refine X2615.calls [(.ref b2176)] [] (ctBy l Z a0 hw hEL z0 S0 hz0 b2176 _ _) (w 33 rfl) (w 34 rfl) (w 35 rfl) (w 36 rfl) (by decide) (fun _ q => nomatch q) (by decide) 0 (by decide) (by decide) (by decide) (lenOf pd_20 rfl) rfl (Nat.le_of_ble_eq_true rfl) (by rw [hml]; rfl) (D at_405) ?_
    rintro T2627 h2628 _ X2630 K2631 ⟨dd, rfl, G0, G1, G2, G3, G4⟩
    have F2632 := F2621.keep K2631 nin0 nin0
    have F2633 := O2618.keep K2631 nin0 nin0
    show Goes p.tables e below _ (T2627.setTop (mkF m 408 #[.val (.int p0), .val (.int p1), .val (.int p2), .val (.int p3), .val (.int (p0 &&& (3 : Int32))), .val (.int (c8 p1)), .val (.int (c8 p2)), .val (.int (c8 p3)), .val (.ref b2086), .val (.ref b2095), .val (.ref b2176), .val (.ref b2596), .unset] [(.ref dd)]))
    refine X2630.astore #[.val (.int p0), .val (.int p1), .val (.int p2), .val (.int p3), .val (.int (p0 &&& (3 : Int32))), .val (.int (c8 p1)), .val (.int (c8 p2)), .val (.int (c8 p3)), .val (.ref b2086), .val (.ref b2095), .val (.ref b2176), .val (.ref b2596), .val (.ref dd)] (D at_408) rfl rfl ?_
    refine X2630.aload (x := (.ref b2176)) (D at_410) rfl rfl ?_
    refine X2630.aload (x := (.ref dd)) (D at_412) rfl rfl ?_
    refine X2630.callv (y := (⟨"com/example/greylag/greylag/Decision", "role", "()Ljava/lang/String;"⟩ : MethodName)) (a := dd) (C := "com/example/greylag/greylag/Decision") [] [(.ref b2176)] (ctRole l Z a0 hw hEL z0 S0 hz0 dd b2176 _ _ G1) G0 (w 56 rfl) (w 57 rfl) (w 59 rfl) (w 58 rfl) (w 35 rfl) (w 60 rfl) (by decide) (fun _ q => nomatch q) (by decide) 1 (by decide) (by decide) (by decide) (lenOf pd_18 rfl) rfl (Nat.le_of_ble_eq_true rfl) (by rw [hml]; rfl) (D at_414) ?_
    rintro T2634 h2635 _ X2637 K2638 rfl
    have F2639 := F2632.keep K2638 nin0 nin0
    have F2640 := F2633.keep K2638 nin0 nin0
    have F2641 := G0.keep K2638
    have F2642 := G1.keep K2638 nin0
    have F2643 := G2.keep K2638 nin0
    have F2644 := G3.keep K2638 nin0
    have F2645 := G4.keep K2638 nin0
    show Goes p.tables e below _ (T2634.setTop (mkF m 417 #[.val (.int p0), .val (.int p1), .val (.int p2), .val (.int p3), .val (.int (p0 &&& (3 : Int32))), .val (.int (c8 p1)), .val (.int (c8 p2)), .val (.int (c8 p3)), .val (.ref b2086), .val (.ref b2095), .val (.ref b2176), .val (.ref b2596), .val (.ref dd)] [(.ref b2176), (.ref b2176)]))
    show Goes p.tables e below _ (T2634.setTop (mkF m 417 #[.val (.int p0), .val (.int p1), .val (.int p2), .val (.int p3), .val (.int (p0 &&& (3 : Int32))), .val (.int (c8 p1)), .val (.int (c8 p2)), .val (.int (c8 p3)), .val (.ref b2086), .val (.ref b2095), .val (.ref b2176), .val (.ref b2596), .val (.ref dd)] [(.ref b2176), (.ref b2176)]))
    refine X2637.strEq (w 61 rfl) (w 62 rfl) (w 64 rfl) (w 63 rfl) (fun d q => hw d (hwsE d q)) (w 2 rfl) F2639 F2639 S0 hz0 (by decide) 0 (Nat.le_of_ble_eq_true rfl) (by decide) (by decide) (by decide) (by rw [hml]; rfl) (D at_417) (fun T2646 X2647 hc2648 => ?_) (fun T2646 X2647 hc2648 => ?_)
    · show Goes p.tables e below _ (T2646.setTop (mkF m 420 #[.val (.int p0), .val (.int p1), .val (.int p2), .val (.int p3), .val (.int (p0 &&& (3 : Int32))), .val (.int (c8 p1)), .val (.int (c8 p2)), .val (.int (c8 p3)), .val (.ref b2086), .val (.ref b2095), .val (.ref b2176), .val (.ref b2596), .val (.ref dd)] [(.int (1 : Int32))]))
      refine X2647.if_eq 473 (D at_420) ⟨by decide, by decide⟩ (fun hc2649 => absurd hc2649 (by decide)) (fun hc2649 => ?_)
      refine X2647.aload (x := (.ref dd)) (D at_423) rfl rfl ?_
      refine X2647.callv (y := (⟨"com/example/greylag/greylag/Decision", "index", "()I"⟩ : MethodName)) (a := dd) (C := "com/example/greylag/greylag/Decision") [] [] (ctIdx l Z a0 hw hEL z0 S0 hz0 dd b2176 _ _ F2643) F2641 (w 66 rfl) (w 67 rfl) (w 69 rfl) (w 68 rfl) (w 35 rfl) (w 70 rfl) (by decide) (fun _ q => nomatch q) (by decide) 0 (by decide) (by decide) (by decide) (lenOf pd_7 rfl) rfl (Nat.le_of_ble_eq_true rfl) (by rw [hml]; rfl) (D at_425) ?_
      rintro T2650 h2651 _ X2653 K2654 rfl
      have F2655 := F2639.keep K2654 nin0 nin0
      have F2656 := F2640.keep K2654 nin0 nin0
      have F2657 := F2641.keep K2654
      have F2658 := F2642.keep K2654 nin0
      have F2659 := F2643.keep K2654 nin0
      have F2660 := F2644.keep K2654 nin0
      have F2661 := F2645.keep K2654 nin0
      show Goes p.tables e below _ (T2650.setTop (mkF m 428 #[.val (.int p0), .val (.int p1), .val (.int p2), .val (.int p3), .val (.int (p0 &&& (3 : Int32))), .val (.int (c8 p1)), .val (.int (c8 p2)), .val (.int (c8 p3)), .val (.ref b2086), .val (.ref b2095), .val (.ref b2176), .val (.ref b2596), .val (.ref dd)] [(.int (-1 : Int32))]))
      refine X2653.iconst (x := (-1 : Int32)) (D at_428) rfl ?_
      refine X2653.icmp_ne 473 (D at_429) ⟨by decide, by decide⟩ (fun hc2662 => absurd hc2662 (by decide)) (fun hc2662 => ?_)
      refine X2653.aload (x := (.ref dd)) (D at_432) rfl rfl ?_
      refine X2653.callv (y := (⟨"com/example/greylag/greylag/Decision", "permission", "()Lcom/example/greylag/greylag/Permission;"⟩ : MethodName)) (a := dd) (C := "com/example/greylag/greylag/Decision") [] [] (ctPerm l Z a0 hw hEL z0 S0 hz0 dd b2176 _ _ F2660) F2657 (w 71 rfl) (w 72 rfl) (w 74 rfl) (w 73 rfl) (w 35 rfl) (w 75 rfl) (by decide) (fun _ q => nomatch q) (by decide) 0 (by decide) (by decide) (by decide) (lenOf pd_21 rfl) rfl (Nat.le_of_ble_eq_true rfl) (by rw [hml]; rfl) (D at_434) ?_
      rintro T2663 h2664 _ X2666 K2667 rfl
      have F2668 := F2655.keep K2667 nin0 nin0
      have F2669 := F2656.keep K2667 nin0 nin0
      have F2670 := F2657.keep K2667
      have F2671 := F2658.keep K2667 nin0
      have F2672 := F2659.keep K2667 nin0
      have F2673 := F2660.keep K2667 nin0
      have F2674 := F2661.keep K2667 nin0
      show Goes p.tables e below _ (T2663.setTop (mkF m 437 #[.val (.int p0), .val (.int p1), .val (.int p2), .val (.int p3), .val (.int (p0 &&& (3 : Int32))), .val (.int (c8 p1)), .val (.int (c8 p2)), .val (.int (c8 p3)), .val (.ref b2086), .val (.ref b2095), .val (.ref b2176), .val (.ref b2596), .val (.ref dd)] [.null]))
      refine X2666.ifnonnullN (D at_437) ?_
      refine X2666.aload (x := (.ref dd)) (D at_440) rfl rfl ?_
      refine X2666.callv (y := (⟨"com/example/greylag/greylag/Decision", "bypass", "()Z"⟩ : MethodName)) (a := dd) (C := "com/example/greylag/greylag/Decision") [] [] (ctByp l Z a0 hw hEL z0 S0 hz0 dd b2176 _ _ F2674) F2670 (w 76 rfl) (w 77 rfl) (w 79 rfl) (w 78 rfl) (w 35 rfl) (w 80 rfl) (by decide) (fun _ q => nomatch q) (by decide) 0 (by decide) (by decide) (by decide) (lenOf pd_14 rfl) rfl (Nat.le_of_ble_eq_true rfl) (by rw [hml]; rfl) (D at_442) ?_
      rintro T2675 h2676 _ X2678 K2679 rfl
      have F2680 := F2668.keep K2679 nin0 nin0
      have F2681 := F2669.keep K2679 nin0 nin0
      have F2682 := F2670.keep K2679
      have F2683 := F2671.keep K2679 nin0
      have F2684 := F2672.keep K2679 nin0
      have F2685 := F2673.keep K2679 nin0
      have F2686 := F2674.keep K2679 nin0
      show Goes p.tables e below _ (T2675.setTop (mkF m 445 #[.val (.int p0), .val (.int p1), .val (.int p2), .val (.int p3), .val (.int (p0 &&& (3 : Int32))), .val (.int (c8 p1)), .val (.int (c8 p2)), .val (.int (c8 p3)), .val (.ref b2086), .val (.ref b2095), .val (.ref b2176), .val (.ref b2596), .val (.ref dd)] [(.int (1 : Int32))]))
      refine X2678.if_eq 473 (D at_445) ⟨by decide, by decide⟩ (fun hc2687 => absurd hc2687 (by decide)) (fun hc2687 => ?_)
      refine X2678.aload (x := (.ref dd)) (D at_448) rfl rfl ?_
      refine X2678.callv (y := (⟨"com/example/greylag/greylag/Decision", "allowed", "()Z"⟩ : MethodName)) (a := dd) (C := "com/example/greylag/greylag/Decision") [] [] (ctAll l Z a0 hw hEL z0 S0 hz0 dd b2176 _ _ F2686) F2682 (w 81 rfl) (w 82 rfl) (w 84 rfl) (w 83 rfl) (w 35 rfl) (w 85 rfl) (by decide) (fun _ q => nomatch q) (by decide) 0 (by decide) (by decide) (by decide) (lenOf pd_14 rfl) rfl (Nat.le_of_ble_eq_true rfl) (by rw [hml]; rfl) (D at_450) ?_
      rintro T2688 h2689 _ X2691 K2692 rfl
      have F2693 := F2680.keep K2692 nin0 nin0
      have F2694 := F2681.keep K2692 nin0 nin0
      have F2695 := F2682.keep K2692
      have F2696 := F2683.keep K2692 nin0
      have F2697 := F2684.keep K2692 nin0
      have F2698 := F2685.keep K2692 nin0
      have F2699 := F2686.keep K2692 nin0
      show Goes p.tables e below _ (T2688.setTop (mkF m 453 #[.val (.int p0), .val (.int p1), .val (.int p2), .val (.int p3), .val (.int (p0 &&& (3 : Int32))), .val (.int (c8 p1)), .val (.int (c8 p2)), .val (.int (c8 p3)), .val (.ref b2086), .val (.ref b2095), .val (.ref b2176), .val (.ref b2596), .val (.ref dd)] [(.int (1 : Int32))]))
      refine X2691.if_eq 473 (D at_453) ⟨by decide, by decide⟩ (fun hc2700 => absurd hc2700 (by decide)) (fun hc2700 => ?_)
      refine X2691.aload (x := (.ref b2596)) (D at_456) rfl rfl ?_
      refine X2691.aload (x := (.ref dd)) (D at_458) rfl rfl ?_
      refine X2691.callv (y := (⟨"com/example/greylag/greylag/Decision", "explanation", "()Ljava/lang/String;"⟩ : MethodName)) (a := dd) (C := "com/example/greylag/greylag/Decision") [] [(.ref b2596)] (ctEx0 l Z a0 hw hEL z0 S0 hz0 dd b2176 t2584 _ _ F2695 F2696 F2699 F2693) F2695 (w 86 rfl) (w 87 rfl) (w 89 rfl) (w 88 rfl) (w 35 rfl) (w 90 rfl) (by decide) (fun _ q => nomatch q) (by decide) 1 (by decide) (by decide) (by decide) (lenOf pd_18 rfl) rfl (Nat.le_of_ble_eq_true rfl) (by rw [hml]; rfl) (D at_460) ?_
      rintro T2701 h2702 _ X2704 K2705 ⟨s9, t9, rfl, O9⟩
      have F2706 := F2693.keep K2705 nin0 nin0
      have F2707 := F2694.keep K2705 nin0 nin0
      have F2708 := F2695.keep K2705
      have F2709 := F2696.keep K2705 nin0
      have F2710 := F2697.keep K2705 nin0
      have F2711 := F2698.keep K2705 nin0
      have F2712 := F2699.keep K2705 nin0
      show Goes p.tables e below _ (T2701.setTop (mkF m 463 #[.val (.int p0), .val (.int p1), .val (.int p2), .val (.int p3), .val (.int (p0 &&& (3 : Int32))), .val (.int (c8 p1)), .val (.int (c8 p2)), .val (.int (c8 p3)), .val (.ref b2086), .val (.ref b2095), .val (.ref b2176), .val (.ref b2596), .val (.ref dd)] [(.ref s9), (.ref b2596)]))
      show Goes p.tables e below _ (T2701.setTop (mkF m 463 #[.val (.int p0), .val (.int p1), .val (.int p2), .val (.int p3), .val (.int (p0 &&& (3 : Int32))), .val (.int (c8 p1)), .val (.int (c8 p2)), .val (.int (c8 p3)), .val (.ref b2086), .val (.ref b2095), .val (.ref b2176), .val (.ref b2596), .val (.ref dd)] [(.ref s9), (.ref b2596)]))
      refine X2704.strEq (w 61 rfl) (w 62 rfl) (w 64 rfl) (w 63 rfl) (fun d q => hw d (hwsE d q)) (w 2 rfl) F2707 O9 S0 hz0 (by decide) 0 (Nat.le_of_ble_eq_true rfl) (by decide) (by decide) (by decide) (by rw [hml]; rfl) (D at_463) (fun T2713 X2714 hc2715 => ?_) (fun T2713 X2714 hc2715 => ?_)
      · show Goes p.tables e below _ (T2713.setTop (mkF m 466 #[.val (.int p0), .val (.int p1), .val (.int p2), .val (.int p3), .val (.int (p0 &&& (3 : Int32))), .val (.int (c8 p1)), .val (.int (c8 p2)), .val (.int (c8 p3)), .val (.ref b2086), .val (.ref b2095), .val (.ref b2176), .val (.ref b2596), .val (.ref dd)] [(.int (1 : Int32))]))
        refine X2714.if_eq 473 (D at_466) ⟨by decide, by decide⟩ (fun hc2716 => absurd hc2716 (by decide)) (fun hc2716 => ?_)
        refine X2714.iconst (x := (1 : Int32)) (D at_469) rfl ?_
        refine X2714.goto 474 (D at_470) ⟨by decide, by decide⟩ ?_
        exact X2714.reti hret (by simp) hlk (D at_474) (by decide) (by decide) (rfl)
      · show Goes p.tables e below _ (T2713.setTop (mkF m 466 #[.val (.int p0), .val (.int p1), .val (.int p2), .val (.int p3), .val (.int (p0 &&& (3 : Int32))), .val (.int (c8 p1)), .val (.int (c8 p2)), .val (.int (c8 p3)), .val (.ref b2086), .val (.ref b2095), .val (.ref b2176), .val (.ref b2596), .val (.ref dd)] [(.int (0 : Int32))]))
        exact (hc2715 rfl).elim
    · show Goes p.tables e below _ (T2646.setTop (mkF m 420 #[.val (.int p0), .val (.int p1), .val (.int p2), .val (.int p3), .val (.int (p0 &&& (3 : Int32))), .val (.int (c8 p1)), .val (.int (c8 p2)), .val (.int (c8 p3)), .val (.ref b2086), .val (.ref b2095), .val (.ref b2176), .val (.ref b2596), .val (.ref dd)] [(.int (0 : Int32))]))
      exact (hc2648 rfl).elim
set_option maxRecDepth 65536 in
set_option maxHeartbeats 40000000 in
theorem comes_1 {Post : Tables → Env → Array Value → State → Outcome → State → Prop} (hpost : ∀ tb e args s v u, (limb_1_1.after args s (.returned v) u = true ∧ limb_1_2.after args s (.returned v) u = true ∧ True) → ReturnedEndW s (.returned v) u (Jvm.fieldLocs frame_1_writes args s ++ Jvm.arrayLocs frame_1_arrays args s ++ Jvm.staticLocs frame_1_statics s) room_1.cells room_1.slots → Post tb e args s (.returned v) u) :
    ArmFor flags0 classFile x code maxLocals ret World_1 tables_1 room_1 Calls_1 rest_1 Pre_1 Post := by
  intro l hfl _ _ p e ha hc hk s m args below hf hA hF happ hP
  obtain ⟨hcalls, hrest, hpre⟩ := hP
  obtain ⟨-, -, -, hnamed, -, -, -, hat⟩ := (Spec.applies_iff hf).mp happ
  obtain ⟨hg, hn⟩ := and_e (Cond.before_iff.mp (show (Jvm.Cond.and given_1 narrow_1).before args s = true from hpre))
  obtain ⟨g0, hg0⟩ := and_e hg
  obtain ⟨g1, hg1⟩ := and_e hg0
  obtain ⟨g2, hg2⟩ := and_e hg1
  obtain ⟨g3, hg3⟩ := and_e hg2
  obtain ⟨w0, w1, w2, w3, rfl⟩ : ∃ w0 w1 w2 w3 : Value, args = #[w0, w1, w2, w3] := by
    have hs : args.size = 4 := by simpa [Cond.value, given_1] using g0
    obtain ⟨L⟩ := args
    match L, hs with
    | [w0, w1, w2, w3], _ => exact ⟨w0, w1, w2, w3, rfl⟩
  have hw := fun d (hd : d ∈ tables_1) => atoms_spec (ws := Jvm.Cond.code x code maxLocals ret :: tables_1) hat d (List.mem_cons_of_mem _ hd)
  have hfit : Fit s := fun {y c} hc i hi => by
    obtain ⟨ha, rfl⟩ := Array.getElem?_eq_some_iff.mp hc
    have q := List.all_eq_true.mp ((Array.all_eq_true_iff_forall_mem.mp hF) _ (Array.getElem_mem ha)) i (List.mem_range.mpr hi)
    simpa [Array.getElem?_eq_getElem hi] using q
  obtain ⟨hsets, hown0⟩ := atoms_of _ (rest_1_c_eq ▸ (show rest_1_c.before _ s = true from hrest))
  obtain ⟨p0, ep0⟩ := is_v g1
  obtain rfl : w0 = (.int p0) := Option.some.inj ep0
  obtain ⟨p1, ep1⟩ := is_v g2
  obtain rfl : w1 = (.int p1) := Option.some.inj ep1
  obtain ⟨p2, ep2⟩ := is_v g3
  obtain rfl : w2 = (.int p2) := Option.some.inj ep2
  obtain ⟨p3, ep3⟩ := is_v hg3
  obtain rfl : w3 = (.int p3) := Option.some.inj ep3
  obtain ⟨z0, ez0⟩ := is_v (Cond.before_iff.mp (hsets (Jvm.Cond.isInt (.static "java/lang/String" "COMPACT_STRINGS" "Z")) (by decide +kernel)))
  have S0 : Sta s s.heap "java/lang/String" "COMPACT_STRINGS" "Z" (.int z0) := Sta.start ez0 (Or.inl (hsets (Jvm.Cond.initializedFor "java/lang/String" "COMPACT_STRINGS" "Z") (by decide +kernel)))
  have hcw := hsets (Jvm.Cond.not (.eq (.static "java/lang/String" "COMPACT_STRINGS" "Z") (.int (0 : Int32)))) (by decide +kernel)
  have hz0 : ¬ z0 = 0 := by
    have q1 := not_v (Cond.before_iff.mp hcw)
    intro q; subst q
    rw [eq_i ez0 (Term.int_eval (0 : Int32)) rfl] at q1; cases q1
  have hEL := hEL_of (Z := s) hw
  have H0 : CHv s consts_1 s.vm s.heap := CHv.start hEL (fun q hq => hcalls.1 q hq) hcw (hw _ (by decide +kernel)) (hw _ (by decide +kernel))
  obtain ⟨n, o, h1, h2, h3, _, L, rfl, ⟨rfl, N, -, -⟩, -, hq⟩ := ctLaw l s _ hw hEL z0 S0 hz0 p0 p1 p2 p3  s.heap s.heap.size  p e ha hc hk s m _ below hf ((Spec.applies_iff_loose hf).mp happ).1 ⟨rfl, State.Warmed39.refl s, rfl, H0, Old.start s, fun _ q => nomatch q⟩ trivial
  exact ⟨n, _, h1, h2, h3, hpost _ _ _ _ _ _ ⟨Cond.after_iff.mpr rfl, Cond.after_iff.mpr (eq_i res_at (Term.int_eval (1)) rfl), trivial⟩ ⟨hq.1, hq.2.1, hq.2.2.1, (hq.2.2.2.sift fun y hy => Or.inr (N y hy))⟩⟩
theorem main_1_1 : Claimed_1_1 := comes_1 fun _ _ _ _ _ _ h hF => ⟨h.1, hF⟩
theorem main_1_2 : Claimed_1_2 := comes_1 fun _ _ _ _ _ _ h hF => ⟨h.2.1, hF⟩
end Jvm.Pilot.@@N@@
namespace Jvm.Pilot.@@N@@
open Jvm Jvm.ClassFile Sem Op Lib Jvm.Free Jvm.Stand Jvm.Pilot.@@N@@.Jvm.D
/-! MADE BY PROGRAM (witnessworld.py) out of the Statement's table words and the real class files: 27 classes; the members and pool entries that the words name. The judged class is class 1, her method 1. -/
namespace start1
open Jvm.ClassFile
def u (s : String) : CpInfo := .utf8 (stringToUtf16 s)
/-- a pool by its gaps: so many unusable entries, then the entry; so many at the end -/
def gap : Nat → List CpInfo → List CpInfo
  | 0, r => r
  | n + 1, r => .unusable :: gap n r
def poolList (es : List (Nat × CpInfo)) (last : Nat) : List CpInfo := es.foldr (fun e r => gap e.1 (e.2 :: r)) (gap last [])
def pool (es : List (Nat × CpInfo)) (last : Nat) : Array CpInfo := ⟨poolList es last⟩
def fileOf (pool : Array CpInfo) (this : Nat) (attrs : Array Attribute := #[]) (ms : Array MethodInfo := #[]) (fl : Nat := 33) (sup : Nat := 0) (ifs : Array Nat := #[]) (fds : Array FieldInfo := #[]) : ClassFile where
  minorVersion := 0
  majorVersion := 65
  constantPool := pool
  accessFlags := fl
  thisClass := this
  superClass := sup
  interfaces := ifs
  fields := fds
  methods := ms
  attributes := attrs
def plain (name : String) (sup : Option ClassId) : Class where
  name := name
  kind := .ordinary
  loader := none
  accessFlags := 33
  super := sup
  interfaces := #[]
  cf := none
  fields := #[]
  methods := #[]
  instanceTypes := #[]
  staticTypes := #[]
  resolved := #[]
  callSites := []
  init := .initialized
  statics := none
  mirror := none

def pool0 : Array CpInfo := pool [(5, u "<init>"), (0, u "()V"), (1, .class_ 10), (1, u "java/lang/Object")] 113

def k0c0 : Code := { maxStack := 0, maxLocals := 1, code := object_method_1_code, exceptionTable := #[], attributes := #[] }
def k0m0 : Method := { name := "<init>", desc := "()V", sig := { parameters := [], returnType := none }, accessFlags := 1, code := some k0c0 }
/-- java/lang/Object -/
def k0 : Class := { plain "java/lang/Object" none with
  accessFlags := 33
  interfaces := #[]
  cf := some (fileOf pool0 8 #[] #[{ accessFlags := 1, nameIndex := 5, descriptorIndex := 6, attributes := #[] }] 33 0 #[] #[])
  fields := #[]
  methods := #[k0m0]
  instanceTypes := #[]
  staticTypes := #[]
  resolved := Array.replicate 124 none
  statics := none }

def pool1 : Array CpInfo := pool [(2, .class_ 4), (1, u "java/lang/Object"), (0, u "<init>"), (0, u "()V"), (0, .class_ 8), (0, u "java/lang/String"), (0, .methodref 7 10), (0, .nameAndType 5 11), (0, u "([C)V"), (0, .methodref 13 14), (0, .class_ 15), (0, .nameAndType 16 17), (0, u "com/example/greylag/greylag/Decision"), (0, u "bypassedBy"), (0, u "(Ljava/lang/String;)Lcom/example/greylag/greylag/Decision;"), (0, .methodref 13 19), (0, .nameAndType 20 21), (0, u "role"), (0, u "()Ljava/lang/String;"), (0, .methodref 7 23), (0, .nameAndType 24 25), (0, u "equals"), (0, u "(Ljava/lang/Object;)Z"), (0, .methodref 13 27), (0, .nameAndType 28 29), (0, u "index"), (0, u "()I"), (0, .methodref 13 31), (0, .nameAndType 32 33), (0, u "permission"), (0, u "()Lcom/example/greylag/greylag/Permission;"), (0, .methodref 13 35), (0, .nameAndType 36 37), (0, u "bypass"), (0, u "()Z"), (0, .methodref 13 39), (0, .nameAndType 40 37), (0, u "allowed"), (0, .methodref 13 42), (0, .nameAndType 43 21), (0, u "explanation"), (0, .class_ 45), (0, u "com/example/greylag/greylag/DecisionBypassedByPinLaw"), (2, u "law"), (0, u "(IIII)Z")] 5

def k1m0 : Method := { name := "<init>", desc := "()V", sig := { parameters := [], returnType := none }, accessFlags := 1, code := none }
def k1c1 : Code := { maxStack := 4, maxLocals := 13, code := code, exceptionTable := #[], attributes := #[] }
def k1m1 : Method := { name := "law", desc := "(IIII)Z", sig := { parameters := [.int, .int, .int, .int], returnType := some .boolean }, accessFlags := 9, code := some k1c1 }
/-- com/example/greylag/greylag/DecisionBypassedByPinLaw -/
def k1 : Class := { plain "com/example/greylag/greylag/DecisionBypassedByPinLaw" (some 0) with
  accessFlags := 49
  interfaces := #[]
  cf := some (fileOf pool1 44 #[] #[{ accessFlags := 1, nameIndex := 5, descriptorIndex := 6, attributes := #[] }, { accessFlags := 9, nameIndex := 48, descriptorIndex := 49, attributes := #[] }] 49 2 #[] #[])
  fields := #[]
  methods := #[k1m0, k1m1]
  instanceTypes := #[]
  staticTypes := #[]
  resolved := Array.replicate 55 none
  statics := none }

def pool2 : Array CpInfo := pool [(1, .class_ 2), (0, u "java/io/Serializable"), (0, .class_ 4), (0, u "java/lang/Object")] 2

/-- java/io/Serializable -/
def k2 : Class := { plain "java/io/Serializable" (some 0) with
  accessFlags := 1537
  interfaces := #[]
  cf := some (fileOf pool2 1 #[] #[] 1537 3 #[] #[])
  fields := #[]
  methods := #[]
  instanceTypes := #[]
  staticTypes := #[]
  resolved := Array.replicate 7 none
  statics := none }

def pool3 : Array CpInfo := pool [(1, .class_ 2), (0, u "java/lang/Comparable"), (0, .class_ 4), (0, u "java/lang/Object")] 7

/-- java/lang/Comparable -/
def k3 : Class := { plain "java/lang/Comparable" (some 0) with
  accessFlags := 1537
  interfaces := #[]
  cf := some (fileOf pool3 1 #[] #[] 1537 3 #[] #[])
  fields := #[]
  methods := #[]
  instanceTypes := #[]
  staticTypes := #[]
  resolved := Array.replicate 12 none
  statics := none }

def pool4 : Array CpInfo := pool [(2, .class_ 4), (1, u "java/lang/CharSequence"), (42, .class_ 48), (0, u "java/lang/CharSequence$1CodePointIterator"), (10, .class_ 60), (0, u "java/lang/CharSequence$1CharIterator"), (5, .class_ 67), (0, u "java/lang/Object")] 63

/-- java/lang/CharSequence -/
def k4 : Class := { plain "java/lang/CharSequence" (some 0) with
  accessFlags := 1537
  interfaces := #[]
  cf := some (fileOf pool4 2 #[.nestMembers #[47, 59]] #[] 1537 66 #[] #[])
  fields := #[]
  methods := #[]
  instanceTypes := #[]
  staticTypes := #[]
  resolved := Array.replicate 131 none
  statics := none }

def pool5 : Array CpInfo := pool [(1, .class_ 2), (0, u "java/lang/constant/Constable"), (0, .class_ 4), (0, u "java/lang/Object")] 6

/-- java/lang/constant/Constable -/
def k5 : Class := { plain "java/lang/constant/Constable" (some 0) with
  accessFlags := 1537
  interfaces := #[]
  cf := some (fileOf pool5 1 #[] #[] 1537 3 #[] #[])
  fields := #[]
  methods := #[]
  instanceTypes := #[]
  staticTypes := #[]
  resolved := Array.replicate 11 none
  statics := none }

def pool6 : Array CpInfo := pool [(1, .class_ 2), (0, u "java/lang/constant/ConstantDesc"), (0, .class_ 4), (0, u "java/lang/Object")] 32

/-- java/lang/constant/ConstantDesc -/
def k6 : Class := { plain "java/lang/constant/ConstantDesc" (some 0) with
  accessFlags := 1537
  interfaces := #[]
  cf := some (fileOf pool6 1 #[] #[] 1537 3 #[] #[])
  fields := #[]
  methods := #[]
  instanceTypes := #[]
  staticTypes := #[]
  resolved := Array.replicate 37 none
  statics := none }

def pool7 : Array CpInfo := pool [(1, .methodref 2 3), (0, .class_ 4), (0, .nameAndType 5 6), (0, u "java/lang/Object"), (0, u "<init>"), (0, u "()V"), (0, .string 8), (0, u ""), (0, .fieldref 10 11), (0, .class_ 12), (0, .nameAndType 13 14), (0, u "java/lang/String"), (0, u "value"), (0, u "[B"), (0, .fieldref 10 16), (0, .nameAndType 17 18), (0, u "coder"), (0, u "B"), (2, u "hash"), (0, u "I"), (2, u "hashIsZero"), (0, u "Z"), (0, .methodref 10 28), (0, .nameAndType 5 29), (0, u "([CIILjava/lang/Void;)V"), (8, .fieldref 10 39), (0, .nameAndType 40 26), (0, u "COMPACT_STRINGS"), (1, .class_ 44), (1, u "java/lang/StringUTF16"), (0, u "compress"), (1, .methodref 42 48), (0, .nameAndType 49 50), (0, u "coderFromArrayLen"), (0, u "([BI)B"), (3, .methodref 55 56), (0, .class_ 57), (0, .nameAndType 58 59), (0, u "java/util/Arrays"), (0, u "copyOfRange"), (0, u "([BII)[B"), (47, .class_ 109), (1, u "java/lang/StringLatin1"), (32, u "()Z"), (34, .methodref 42 178), (0, .nameAndType 45 179), (0, u "([CII)[B"), (13, .class_ 195), (1, u "java/lang/System"), (16, .methodref 193 213), (0, .nameAndType 214 215), (0, u "arraycopy"), (0, u "(Ljava/lang/Object;ILjava/lang/Object;II)V"), (118, u "()I"), (0, .methodref 10 336), (0, .nameAndType 17 337), (0, u "()B"), (2, u "()[B"), (148, .methodref 10 490), (0, .nameAndType 5 491), (0, u "(Ljava/lang/AbstractStringBuilder;Ljava/lang/Void;)V"), (1, .nameAndType 494 142), (0, u "isLatin1"), (11, .nameAndType 507 334), (0, u "length"), (24, u "getBytes"), (8, .methodref 107 542), (0, .nameAndType 543 544), (0, u "equals"), (0, u "([B[B)Z"), (4, .methodref 550 506), (0, .class_ 551), (0, u "java/lang/AbstractStringBuilder"), (0, .methodref 550 553), (0, .nameAndType 554 340), (0, u "getValue"), (18, u "(Ljava/lang/Object;)Z"), (1, .class_ 576), (0, u "java/lang/CharSequence"), (22, u "CASE_INSENSITIVE_ORDER"), (0, u "Ljava/util/Comparator;"), (220, u "([BIB)V"), (188, u "([C)V"), (36, .methodref 550 493), (53, u "serialPersistentFields"), (0, u "[Ljava/io/ObjectStreamField;"), (0, .class_ 1104), (0, u "java/lang/String$CaseInsensitiveComparator"), (1, .class_ 1107), (0, u "java/io/Serializable"), (0, .class_ 1109), (0, u "java/lang/Comparable"), (0, .class_ 1111), (0, u "java/lang/constant/Constable"), (0, .class_ 1113), (0, u "java/lang/constant/ConstantDesc"), (2, u "serialVersionUID"), (0, u "J"), (3, u "REPL"), (0, u "C"), (2, u "LATIN1"), (1, u "UTF16"), (105, u "(Ljava/lang/StringBuilder;)V")] 217

def k7m0 : Method := { name := "<init>", desc := "()V", sig := { parameters := [], returnType := none }, accessFlags := 1, code := none }
def k7c1 : Code := { maxStack := 5, maxLocals := 2, code := jdk_42_method_3_code, exceptionTable := #[], attributes := #[] }
def k7m1 : Method := { name := "<init>", desc := "([C)V", sig := { parameters := [(.array .char)], returnType := none }, accessFlags := 1, code := some k7c1 }
def k7c2 : Code := { maxStack := 3, maxLocals := 2, code := jdk_42_method_53_code, exceptionTable := #[], attributes := #[] }
def k7m2 : Method := { name := "<init>", desc := "(Ljava/lang/StringBuilder;)V", sig := { parameters := [(.object "java/lang/StringBuilder")], returnType := none }, accessFlags := 1, code := some k7c2 }
def k7c3 : Code := { maxStack := 2, maxLocals := 1, code := jdk_42_method_54_code, exceptionTable := #[], attributes := #[] }
def k7m3 : Method := { name := "length", desc := "()I", sig := { parameters := [], returnType := some .int }, accessFlags := 1, code := some k7c3 }
def k7c4 : Code := { maxStack := 2, maxLocals := 3, code := jdk_42_method_66_code, exceptionTable := #[], attributes := #[] }
def k7m4 : Method := { name := "equals", desc := "(Ljava/lang/Object;)Z", sig := { parameters := [(.object "java/lang/Object")], returnType := some .boolean }, accessFlags := 1, code := some k7c4 }
def k7c5 : Code := { maxStack := 5, maxLocals := 4, code := jdk_42_method_147_code, exceptionTable := #[], attributes := #[] }
def k7m5 : Method := { name := "getBytes", desc := "([BIB)V", sig := { parameters := [(.array .byte), .int, .byte], returnType := none }, accessFlags := 0, code := some k7c5 }
def k7c6 : Code := { maxStack := 4, maxLocals := 6, code := jdk_42_method_149_code, exceptionTable := #[], attributes := #[] }
def k7m6 : Method := { name := "<init>", desc := "([CIILjava/lang/Void;)V", sig := { parameters := [(.array .char), .int, .int, (.object "java/lang/Void")], returnType := none }, accessFlags := 2, code := some k7c6 }
def k7c7 : Code := { maxStack := 5, maxLocals := 5, code := jdk_42_method_150_code, exceptionTable := #[], attributes := #[] }
def k7m7 : Method := { name := "<init>", desc := "(Ljava/lang/AbstractStringBuilder;Ljava/lang/Void;)V", sig := { parameters := [(.object "java/lang/AbstractStringBuilder"), (.object "java/lang/Void")], returnType := none }, accessFlags := 0, code := some k7c7 }
def k7c8 : Code := { maxStack := 1, maxLocals := 1, code := jdk_42_method_152_code, exceptionTable := #[], attributes := #[] }
def k7m8 : Method := { name := "coder", desc := "()B", sig := { parameters := [], returnType := some .byte }, accessFlags := 0, code := some k7c8 }
/-- java/lang/String -/
def k7 : Class := { plain "java/lang/String" (some 0) with
  accessFlags := 49
  interfaces := #[2, 3, 4, 5, 6]
  cf := some (fileOf pool7 10 #[.nestMembers #[1103]] #[{ accessFlags := 1, nameIndex := 5, descriptorIndex := 6, attributes := #[] }, { accessFlags := 1, nameIndex := 5, descriptorIndex := 1010, attributes := #[] }, { accessFlags := 1, nameIndex := 5, descriptorIndex := 1233, attributes := #[] }, { accessFlags := 1, nameIndex := 507, descriptorIndex := 334, attributes := #[] }, { accessFlags := 1, nameIndex := 543, descriptorIndex := 573, attributes := #[] }, { accessFlags := 0, nameIndex := 532, descriptorIndex := 821, attributes := #[] }, { accessFlags := 2, nameIndex := 5, descriptorIndex := 29, attributes := #[] }, { accessFlags := 0, nameIndex := 5, descriptorIndex := 491, attributes := #[] }, { accessFlags := 0, nameIndex := 17, descriptorIndex := 337, attributes := #[] }] 49 2 #[1106, 1108, 575, 1110, 1112] #[{ accessFlags := 18, nameIndex := 13, descriptorIndex := 14, attributes := #[] }, { accessFlags := 18, nameIndex := 17, descriptorIndex := 18, attributes := #[] }, { accessFlags := 2, nameIndex := 21, descriptorIndex := 22, attributes := #[] }, { accessFlags := 2, nameIndex := 25, descriptorIndex := 26, attributes := #[] }, { accessFlags := 26, nameIndex := 1116, descriptorIndex := 1117, attributes := #[] }, { accessFlags := 24, nameIndex := 40, descriptorIndex := 26, attributes := #[] }, { accessFlags := 26, nameIndex := 1101, descriptorIndex := 1102, attributes := #[] }, { accessFlags := 26, nameIndex := 1121, descriptorIndex := 1122, attributes := #[] }, { accessFlags := 25, nameIndex := 599, descriptorIndex := 600, attributes := #[] }, { accessFlags := 24, nameIndex := 1125, descriptorIndex := 18, attributes := #[] }, { accessFlags := 24, nameIndex := 1127, descriptorIndex := 18, attributes := #[] }])
  fields := #[{ name := "value", type := (.array .byte), accessFlags := 18, slot := 0, constantValue := 0 }, { name := "coder", type := .byte, accessFlags := 18, slot := 1, constantValue := 0 }, { name := "hash", type := .int, accessFlags := 2, slot := 2, constantValue := 0 }, { name := "hashIsZero", type := .boolean, accessFlags := 2, slot := 3, constantValue := 0 }, { name := "serialVersionUID", type := .long, accessFlags := 26, slot := 0, constantValue := 0 }, { name := "COMPACT_STRINGS", type := .boolean, accessFlags := 24, slot := 1, constantValue := 0 }, { name := "serialPersistentFields", type := (.array (.object "java/io/ObjectStreamField")), accessFlags := 26, slot := 2, constantValue := 0 }, { name := "REPL", type := .char, accessFlags := 26, slot := 3, constantValue := 0 }, { name := "CASE_INSENSITIVE_ORDER", type := (.object "java/util/Comparator"), accessFlags := 25, slot := 4, constantValue := 0 }, { name := "LATIN1", type := .byte, accessFlags := 24, slot := 5, constantValue := 0 }, { name := "UTF16", type := .byte, accessFlags := 24, slot := 6, constantValue := 0 }]
  methods := #[k7m0, k7m1, k7m2, k7m3, k7m4, k7m5, k7m6, k7m7, k7m8]
  instanceTypes := #[(.array .byte), .byte, .int, .boolean]
  staticTypes := #[.long, .boolean, (.array (.object "java/io/ObjectStreamField")), .char, (.object "java/util/Comparator"), .byte, .byte]
  resolved := Array.replicate 1451 none
  statics := some 0 }

def pool8 : Array CpInfo := pool [(6, .class_ 8), (1, u "java/lang/Object"), (0, u "<init>"), (0, u "()V"), (1, .class_ 14), (1, u "java/lang/StringUTF16"), (31, u "$assertionsDisabled"), (0, u "Z"), (13, u "HI_BYTE_SHIFT"), (0, u "I"), (2, u "LO_BYTE_SHIFT"), (49, .methodref 12 116), (0, .nameAndType 117 118), (0, u "compress"), (0, u "([CI[BII)I"), (3, u "([CII)[B"), (138, u "coderFromArrayLen"), (0, u "([BI)B"), (106, .class_ 371), (1, u "java/lang/StringUTF16$LinesSpliterator"), (58, u "MAX_LENGTH"), (196, .class_ 628), (0, u "java/lang/StringUTF16$CodePointsSpliterator"), (0, .class_ 630), (0, u "java/lang/StringUTF16$CharsSpliterator")] 4

def k8m0 : Method := { name := "<init>", desc := "()V", sig := { parameters := [], returnType := none }, accessFlags := 0, code := none }
def k8c1 : Code := { maxStack := 2, maxLocals := 2, code := jdk_52_method_15_code, exceptionTable := #[], attributes := #[] }
def k8m1 : Method := { name := "coderFromArrayLen", desc := "([BI)B", sig := { parameters := [(.array .byte), .int], returnType := some .byte }, accessFlags := 8, code := some k8c1 }
def k8c2 : Code := { maxStack := 5, maxLocals := 6, code := jdk_52_method_16_code, exceptionTable := #[], attributes := #[] }
def k8m2 : Method := { name := "compress", desc := "([CII)[B", sig := { parameters := [(.array .char), .int, .int], returnType := some (.array .byte) }, accessFlags := 9, code := some k8c2 }
def k8c3 : Code := { maxStack := 3, maxLocals := 7, code := jdk_52_method_21_code, exceptionTable := #[], attributes := #[] }
def k8m3 : Method := { name := "compress", desc := "([CI[BII)I", sig := { parameters := [(.array .char), .int, (.array .byte), .int, .int], returnType := some .int }, accessFlags := 9, code := some k8c3 }
/-- java/lang/StringUTF16 -/
def k8 : Class := { plain "java/lang/StringUTF16" (some 0) with
  accessFlags := 48
  interfaces := #[]
  cf := some (fileOf pool8 12 #[.nestMembers #[627, 629, 369]] #[{ accessFlags := 0, nameIndex := 9, descriptorIndex := 10, attributes := #[] }, { accessFlags := 8, nameIndex := 261, descriptorIndex := 262, attributes := #[] }, { accessFlags := 9, nameIndex := 117, descriptorIndex := 122, attributes := #[] }, { accessFlags := 9, nameIndex := 117, descriptorIndex := 118, attributes := #[] }] 48 6 #[] #[{ accessFlags := 26, nameIndex := 61, descriptorIndex := 62, attributes := #[] }, { accessFlags := 26, nameIndex := 65, descriptorIndex := 62, attributes := #[] }, { accessFlags := 24, nameIndex := 430, descriptorIndex := 62, attributes := #[] }, { accessFlags := 4120, nameIndex := 46, descriptorIndex := 47, attributes := #[] }])
  fields := #[{ name := "HI_BYTE_SHIFT", type := .int, accessFlags := 26, slot := 0, constantValue := 0 }, { name := "LO_BYTE_SHIFT", type := .int, accessFlags := 26, slot := 1, constantValue := 0 }, { name := "MAX_LENGTH", type := .int, accessFlags := 24, slot := 2, constantValue := 0 }, { name := "$assertionsDisabled", type := .boolean, accessFlags := 4120, slot := 3, constantValue := 0 }]
  methods := #[k8m0, k8m1, k8m2, k8m3]
  instanceTypes := #[]
  staticTypes := #[.int, .int, .int, .boolean]
  resolved := Array.replicate 635 none
  statics := none }

def pool9 : Array CpInfo := pool [(1, .methodref 2 3), (0, .class_ 4), (0, .nameAndType 5 6), (0, u "java/lang/Object"), (0, u "<init>"), (0, u "()V"), (0, .class_ 8), (0, u "java/lang/Record")] 13

def k9c0 : Code := { maxStack := 1, maxLocals := 1, code := jdk_30_method_1_code, exceptionTable := #[], attributes := #[] }
def k9m0 : Method := { name := "<init>", desc := "()V", sig := { parameters := [], returnType := none }, accessFlags := 4, code := some k9c0 }
/-- java/lang/Record -/
def k9 : Class := { plain "java/lang/Record" (some 0) with
  accessFlags := 1057
  interfaces := #[]
  cf := some (fileOf pool9 7 #[] #[{ accessFlags := 4, nameIndex := 5, descriptorIndex := 6, attributes := #[] }] 1057 2 #[] #[])
  fields := #[]
  methods := #[k9m0]
  instanceTypes := #[]
  staticTypes := #[]
  resolved := Array.replicate 22 none
  statics := none }

def pool10 : Array CpInfo := pool [(1, .methodref 2 3), (0, .class_ 4), (0, .nameAndType 5 6), (0, u "java/lang/Record"), (0, u "<init>"), (0, u "()V"), (0, .fieldref 8 9), (0, .class_ 10), (0, .nameAndType 11 12), (0, u "com/example/greylag/greylag/Decision"), (0, u "role"), (0, u "Ljava/lang/String;"), (0, .fieldref 8 14), (0, .nameAndType 15 16), (0, u "index"), (0, u "I"), (0, .fieldref 8 18), (0, .nameAndType 19 20), (0, u "permission"), (0, u "Lcom/example/greylag/greylag/Permission;"), (0, .fieldref 8 22), (0, .nameAndType 23 24), (0, u "bypass"), (0, u "Z"), (0, .methodref 8 26), (0, .nameAndType 5 27), (0, u "(Ljava/lang/String;ILcom/example/greylag/greylag/Permission;Z)V"), (43, .class_ 72), (0, u "java/lang/StringBuilder"), (0, .methodref 71 3), (0, .string 75), (0, u "by bypass "), (0, .methodref 71 77), (0, .nameAndType 78 79), (0, u "append"), (0, u "(Ljava/lang/String;)Ljava/lang/StringBuilder;"), (0, .methodref 71 81), (0, .nameAndType 82 83), (0, u "toString"), (0, u "()Ljava/lang/String;"), (22, u "NONE"), (0, u "Lcom/example/greylag/greylag/Decision;"), (3, u "bypassedBy"), (0, u "(Ljava/lang/String;)Lcom/example/greylag/greylag/Decision;"), (0, u "allowed"), (0, u "()Z"), (3, u "explanation"), (0, u "()I"), (1, u "()Lcom/example/greylag/greylag/Permission;")] 25

def k10c0 : Code := { maxStack := 2, maxLocals := 5, code := prog_6_method_1_code, exceptionTable := #[], attributes := #[] }
def k10m0 : Method := { name := "<init>", desc := "(Ljava/lang/String;ILcom/example/greylag/greylag/Permission;Z)V", sig := { parameters := [(.object "java/lang/String"), .int, (.object "com/example/greylag/greylag/Permission"), .boolean], returnType := none }, accessFlags := 1, code := some k10c0 }
def k10c1 : Code := { maxStack := 6, maxLocals := 1, code := prog_6_method_2_code, exceptionTable := #[], attributes := #[] }
def k10m1 : Method := { name := "bypassedBy", desc := "(Ljava/lang/String;)Lcom/example/greylag/greylag/Decision;", sig := { parameters := [(.object "java/lang/String")], returnType := some (.object "com/example/greylag/greylag/Decision") }, accessFlags := 9, code := some k10c1 }
def k10c2 : Code := { maxStack := 2, maxLocals := 1, code := prog_6_method_3_code, exceptionTable := #[], attributes := #[] }
def k10m2 : Method := { name := "allowed", desc := "()Z", sig := { parameters := [], returnType := some .boolean }, accessFlags := 1, code := some k10c2 }
def k10c3 : Code := { maxStack := 2, maxLocals := 2, code := prog_6_method_6_code, exceptionTable := #[], attributes := #[] }
def k10m3 : Method := { name := "explanation", desc := "()Ljava/lang/String;", sig := { parameters := [], returnType := some (.object "java/lang/String") }, accessFlags := 1, code := some k10c3 }
def k10c4 : Code := { maxStack := 1, maxLocals := 1, code := prog_6_method_10_code, exceptionTable := #[], attributes := #[] }
def k10m4 : Method := { name := "role", desc := "()Ljava/lang/String;", sig := { parameters := [], returnType := some (.object "java/lang/String") }, accessFlags := 1, code := some k10c4 }
def k10c5 : Code := { maxStack := 1, maxLocals := 1, code := prog_6_method_11_code, exceptionTable := #[], attributes := #[] }
def k10m5 : Method := { name := "index", desc := "()I", sig := { parameters := [], returnType := some .int }, accessFlags := 1, code := some k10c5 }
def k10c6 : Code := { maxStack := 1, maxLocals := 1, code := prog_6_method_12_code, exceptionTable := #[], attributes := #[] }
def k10m6 : Method := { name := "permission", desc := "()Lcom/example/greylag/greylag/Permission;", sig := { parameters := [], returnType := some (.object "com/example/greylag/greylag/Permission") }, accessFlags := 1, code := some k10c6 }
def k10c7 : Code := { maxStack := 1, maxLocals := 1, code := prog_6_method_13_code, exceptionTable := #[], attributes := #[] }
def k10m7 : Method := { name := "bypass", desc := "()Z", sig := { parameters := [], returnType := some .boolean }, accessFlags := 1, code := some k10c7 }
/-- com/example/greylag/greylag/Decision -/
def k10 : Class := { plain "com/example/greylag/greylag/Decision" (some 9) with
  accessFlags := 49
  interfaces := #[]
  cf := some (fileOf pool10 8 #[] #[{ accessFlags := 1, nameIndex := 5, descriptorIndex := 27, attributes := #[] }, { accessFlags := 9, nameIndex := 111, descriptorIndex := 112, attributes := #[] }, { accessFlags := 1, nameIndex := 113, descriptorIndex := 114, attributes := #[] }, { accessFlags := 1, nameIndex := 118, descriptorIndex := 83, attributes := #[] }, { accessFlags := 1, nameIndex := 11, descriptorIndex := 83, attributes := #[] }, { accessFlags := 1, nameIndex := 15, descriptorIndex := 119, attributes := #[] }, { accessFlags := 1, nameIndex := 19, descriptorIndex := 121, attributes := #[] }, { accessFlags := 1, nameIndex := 23, descriptorIndex := 114, attributes := #[] }] 49 2 #[] #[{ accessFlags := 18, nameIndex := 11, descriptorIndex := 12, attributes := #[] }, { accessFlags := 18, nameIndex := 15, descriptorIndex := 16, attributes := #[] }, { accessFlags := 18, nameIndex := 19, descriptorIndex := 20, attributes := #[] }, { accessFlags := 18, nameIndex := 23, descriptorIndex := 24, attributes := #[] }, { accessFlags := 25, nameIndex := 106, descriptorIndex := 107, attributes := #[] }])
  fields := #[{ name := "role", type := (.object "java/lang/String"), accessFlags := 18, slot := 0, constantValue := 0 }, { name := "index", type := .int, accessFlags := 18, slot := 1, constantValue := 0 }, { name := "permission", type := (.object "com/example/greylag/greylag/Permission"), accessFlags := 18, slot := 2, constantValue := 0 }, { name := "bypass", type := .boolean, accessFlags := 18, slot := 3, constantValue := 0 }, { name := "NONE", type := (.object "com/example/greylag/greylag/Decision"), accessFlags := 25, slot := 0, constantValue := 0 }]
  methods := #[k10m0, k10m1, k10m2, k10m3, k10m4, k10m5, k10m6, k10m7]
  instanceTypes := #[(.object "java/lang/String"), .int, (.object "com/example/greylag/greylag/Permission"), .boolean]
  staticTypes := #[(.object "com/example/greylag/greylag/Decision")]
  resolved := Array.replicate 147 none
  statics := none }

def pool11 : Array CpInfo := pool [(1, .class_ 2), (0, u "java/lang/Appendable"), (0, .class_ 4), (0, u "java/lang/Object")] 9

/-- java/lang/Appendable -/
def k11 : Class := { plain "java/lang/Appendable" (some 0) with
  accessFlags := 1537
  interfaces := #[]
  cf := some (fileOf pool11 1 #[] #[] 1537 3 #[] #[])
  fields := #[]
  methods := #[]
  instanceTypes := #[]
  staticTypes := #[]
  resolved := Array.replicate 14 none
  statics := none }

def pool12 : Array CpInfo := pool [(1, .class_ 2), (0, u "java/lang/String"), (0, .methodref 4 5), (0, .class_ 6), (0, .nameAndType 7 8), (0, u "java/lang/Object"), (0, u "<init>"), (0, u "()V"), (1, .class_ 12), (1, u "java/lang/AbstractStringBuilder"), (0, u "EMPTYVALUE"), (0, u "[B"), (0, .fieldref 10 16), (0, .nameAndType 17 14), (0, u "value"), (0, .fieldref 1 19), (0, .nameAndType 20 21), (0, u "COMPACT_STRINGS"), (0, u "Z"), (0, .fieldref 10 23), (0, .nameAndType 24 25), (0, u "coder"), (0, u "B"), (6, .methodref 1 33), (0, .nameAndType 34 35), (0, u "length"), (0, u "()I"), (4, .methodref 1 41), (0, .nameAndType 24 42), (0, u "()B"), (2, u "append"), (0, u "(Ljava/lang/String;)Ljava/lang/AbstractStringBuilder;"), (1, .class_ 49), (0, u "java/lang/CharSequence"), (19, u "(Ljava/lang/String;)V"), (5, u "maybeLatin1"), (3, .fieldref 10 80), (0, .nameAndType 81 82), (0, u "count"), (0, u "I"), (2, u "isLatin1"), (0, u "()Z"), (13, .methodref 10 101), (0, .nameAndType 102 103), (0, u "ensureCapacityInternal"), (0, u "(I)V"), (104, .methodref 10 209), (0, .nameAndType 210 211), (0, u "putStringAt"), (0, u "(ILjava/lang/String;)V"), (5, u "inflateIfNeededFor"), (2, .nameAndType 221 222), (0, u "getBytes"), (0, u "([BIB)V"), (174, .methodref 10 398), (0, .nameAndType 217 69), (0, .methodref 1 220), (3, u "()[B"), (40, .class_ 445), (0, u "java/lang/Appendable"), (106, u "getValue")] 56

def k12m0 : Method := { name := "<init>", desc := "()V", sig := { parameters := [], returnType := none }, accessFlags := 0, code := none }
def k12c1 : Code := { maxStack := 2, maxLocals := 2, code := jdk_68_method_2_code, exceptionTable := #[], attributes := #[] }
def k12m1 : Method := { name := "<init>", desc := "(I)V", sig := { parameters := [.int], returnType := none }, accessFlags := 0, code := some k12c1 }
def k12c2 : Code := { maxStack := 1, maxLocals := 1, code := jdk_68_method_6_code, exceptionTable := #[], attributes := #[] }
def k12m2 : Method := { name := "length", desc := "()I", sig := { parameters := [], returnType := some .int }, accessFlags := 1, code := some k12c2 }
def k12c3 : Code := { maxStack := 4, maxLocals := 3, code := jdk_68_method_9_code, exceptionTable := #[], attributes := #[] }
def k12m3 : Method := { name := "ensureCapacityInternal", desc := "(I)V", sig := { parameters := [.int], returnType := none }, accessFlags := 2, code := some k12c3 }
def k12c4 : Code := { maxStack := 3, maxLocals := 3, code := jdk_68_method_22_code, exceptionTable := #[], attributes := #[] }
def k12m4 : Method := { name := "append", desc := "(Ljava/lang/String;)Ljava/lang/AbstractStringBuilder;", sig := { parameters := [(.object "java/lang/String")], returnType := some (.object "java/lang/AbstractStringBuilder") }, accessFlags := 1, code := some k12c4 }
def k12c5 : Code := { maxStack := 1, maxLocals := 1, code := jdk_68_method_64_code, exceptionTable := #[], attributes := #[] }
def k12m5 : Method := { name := "getValue", desc := "()[B", sig := { parameters := [], returnType := some (.array .byte) }, accessFlags := 16, code := some k12c5 }
def k12c6 : Code := { maxStack := 1, maxLocals := 1, code := jdk_68_method_68_code, exceptionTable := #[], attributes := #[] }
def k12m6 : Method := { name := "isLatin1", desc := "()Z", sig := { parameters := [], returnType := some .boolean }, accessFlags := 16, code := some k12c6 }
def k12c7 : Code := { maxStack := 2, maxLocals := 2, code := jdk_68_method_71_code, exceptionTable := #[], attributes := #[] }
def k12m7 : Method := { name := "inflateIfNeededFor", desc := "(Ljava/lang/String;)V", sig := { parameters := [(.object "java/lang/String")], returnType := none }, accessFlags := 2, code := some k12c7 }
def k12c8 : Code := { maxStack := 4, maxLocals := 3, code := jdk_68_method_73_code, exceptionTable := #[], attributes := #[] }
def k12m8 : Method := { name := "putStringAt", desc := "(ILjava/lang/String;)V", sig := { parameters := [.int, (.object "java/lang/String")], returnType := none }, accessFlags := 2, code := some k12c8 }
/-- java/lang/AbstractStringBuilder -/
def k12 : Class := { plain "java/lang/AbstractStringBuilder" (some 0) with
  accessFlags := 1056
  interfaces := #[11, 4]
  cf := some (fileOf pool12 10 #[] #[{ accessFlags := 0, nameIndex := 7, descriptorIndex := 8, attributes := #[] }, { accessFlags := 0, nameIndex := 7, descriptorIndex := 103, attributes := #[] }, { accessFlags := 1, nameIndex := 34, descriptorIndex := 35, attributes := #[] }, { accessFlags := 2, nameIndex := 102, descriptorIndex := 103, attributes := #[] }, { accessFlags := 1, nameIndex := 45, descriptorIndex := 46, attributes := #[] }, { accessFlags := 16, nameIndex := 552, descriptorIndex := 403, attributes := #[] }, { accessFlags := 16, nameIndex := 85, descriptorIndex := 86, attributes := #[] }, { accessFlags := 2, nameIndex := 217, descriptorIndex := 69, attributes := #[] }, { accessFlags := 2, nameIndex := 210, descriptorIndex := 211, attributes := #[] }] 1056 4 #[444, 48] #[{ accessFlags := 0, nameIndex := 17, descriptorIndex := 14, attributes := #[] }, { accessFlags := 0, nameIndex := 24, descriptorIndex := 25, attributes := #[] }, { accessFlags := 0, nameIndex := 75, descriptorIndex := 21, attributes := #[] }, { accessFlags := 0, nameIndex := 81, descriptorIndex := 82, attributes := #[] }, { accessFlags := 26, nameIndex := 13, descriptorIndex := 14, attributes := #[] }])
  fields := #[{ name := "value", type := (.array .byte), accessFlags := 0, slot := 0, constantValue := 0 }, { name := "coder", type := .byte, accessFlags := 0, slot := 1, constantValue := 0 }, { name := "maybeLatin1", type := .boolean, accessFlags := 0, slot := 2, constantValue := 0 }, { name := "count", type := .int, accessFlags := 0, slot := 3, constantValue := 0 }, { name := "EMPTYVALUE", type := (.array .byte), accessFlags := 26, slot := 0, constantValue := 0 }]
  methods := #[k12m0, k12m1, k12m2, k12m3, k12m4, k12m5, k12m6, k12m7, k12m8]
  instanceTypes := #[(.array .byte), .byte, .boolean, .int]
  staticTypes := #[(.array .byte)]
  resolved := Array.replicate 609 none
  statics := none }

def pool13 : Array CpInfo := pool [(1, .methodref 2 3), (0, .class_ 4), (0, .nameAndType 5 6), (0, u "java/lang/AbstractStringBuilder"), (0, u "<init>"), (0, u "(I)V"), (11, .class_ 20), (1, u "java/lang/String"), (3, .class_ 26), (1, u "java/lang/StringBuilder"), (0, u "append"), (0, u "(Ljava/lang/String;)Ljava/lang/StringBuilder;"), (0, .methodref 2 30), (0, .nameAndType 27 31), (0, u "(Ljava/lang/String;)Ljava/lang/AbstractStringBuilder;"), (105, .methodref 18 138), (0, .nameAndType 5 139), (0, u "(Ljava/lang/StringBuilder;)V"), (5, u "()V"), (10, u "()I"), (186, .methodref 2 344), (0, .nameAndType 345 156), (0, u "length"), (3, .class_ 350), (0, u "java/lang/Appendable"), (0, .class_ 352), (0, u "java/io/Serializable"), (0, .class_ 354), (0, u "java/lang/Comparable"), (0, .class_ 356), (0, u "java/lang/CharSequence"), (0, u "serialVersionUID"), (0, u "J"), (40, u "toString"), (0, u "()Ljava/lang/String;")] 21

def k13c0 : Code := { maxStack := 2, maxLocals := 1, code := jdk_67_method_1_code, exceptionTable := #[], attributes := #[] }
def k13m0 : Method := { name := "<init>", desc := "()V", sig := { parameters := [], returnType := none }, accessFlags := 1, code := some k13c0 }
def k13c1 : Code := { maxStack := 2, maxLocals := 2, code := jdk_67_method_7_code, exceptionTable := #[], attributes := #[] }
def k13m1 : Method := { name := "append", desc := "(Ljava/lang/String;)Ljava/lang/StringBuilder;", sig := { parameters := [(.object "java/lang/String")], returnType := some (.object "java/lang/StringBuilder") }, accessFlags := 1, code := some k13c1 }
def k13c2 : Code := { maxStack := 3, maxLocals := 1, code := jdk_67_method_42_code, exceptionTable := #[], attributes := #[] }
def k13m2 : Method := { name := "toString", desc := "()Ljava/lang/String;", sig := { parameters := [], returnType := some (.object "java/lang/String") }, accessFlags := 1, code := some k13c2 }
def k13c3 : Code := { maxStack := 1, maxLocals := 1, code := jdk_67_method_93_code, exceptionTable := #[], attributes := #[] }
def k13m3 : Method := { name := "length", desc := "()I", sig := { parameters := [], returnType := some .int }, accessFlags := 4161, code := some k13c3 }
/-- java/lang/StringBuilder -/
def k13 : Class := { plain "java/lang/StringBuilder" (some 12) with
  accessFlags := 49
  interfaces := #[11, 2, 3, 4]
  cf := some (fileOf pool13 24 #[] #[{ accessFlags := 1, nameIndex := 5, descriptorIndex := 145, attributes := #[] }, { accessFlags := 1, nameIndex := 27, descriptorIndex := 28, attributes := #[] }, { accessFlags := 1, nameIndex := 399, descriptorIndex := 400, attributes := #[] }, { accessFlags := 4161, nameIndex := 345, descriptorIndex := 156, attributes := #[] }] 49 2 #[349, 351, 353, 355] #[{ accessFlags := 24, nameIndex := 357, descriptorIndex := 358, attributes := #[] }])
  fields := #[{ name := "serialVersionUID", type := .long, accessFlags := 24, slot := 0, constantValue := 0 }]
  methods := #[k13m0, k13m1, k13m2, k13m3]
  instanceTypes := #[(.array .byte), .byte, .boolean, .int]
  staticTypes := #[.long]
  resolved := Array.replicate 422 none
  statics := none }

def pool14 : Array CpInfo := pool [(2, .class_ 4), (1, u "java/lang/Object"), (0, u "<init>"), (0, u "()V"), (1, .class_ 10), (1, u "java/lang/System"), (0, u "allowSecurityManager"), (0, u "I"), (16, u "cons"), (0, u "Ljava/io/Console;"), (77, .class_ 110), (1, u "java/lang/System$CallersHolder"), (43, u "initialErrStream"), (0, u "Ljava/io/PrintStream;"), (19, u "security"), (0, u "Ljava/lang/SecurityManager;"), (31, .class_ 209), (0, u "java/lang/System$1"), (7, u "props"), (0, u "Ljava/util/Properties;"), (2, u "lineSeparator"), (0, u "Ljava/lang/String;"), (96, .class_ 321), (1, u "java/lang/System$LoggerFinder"), (5, .class_ 328), (0, u "java/lang/System$Logger"), (67, u "err"), (2, u "out"), (91, u "notSupportedJnuEncoding"), (15, u "in"), (17, u "initialIn"), (0, u "Ljava/io/InputStream;"), (35, u "bootLayer"), (0, u "Ljava/lang/ModuleLayer;"), (99, .class_ 664), (0, u "java/lang/System$2"), (9, u "NEVER"), (2, u "MAYBE"), (49, u "arraycopy"), (0, u "(Ljava/lang/Object;ILjava/lang/Object;II)V"), (72, .class_ 802), (0, u "java/lang/System$Logger$Level")] 31

def k14m0 : Method := { name := "<init>", desc := "()V", sig := { parameters := [], returnType := none }, accessFlags := 2, code := none }
def k14m1 : Method := { name := "arraycopy", desc := "(Ljava/lang/Object;ILjava/lang/Object;II)V", sig := { parameters := [(.object "java/lang/Object"), .int, (.object "java/lang/Object"), .int, .int], returnType := none }, accessFlags := 265, code := none }
/-- java/lang/System -/
def k14 : Class := { plain "java/lang/System" (some 0) with
  accessFlags := 49
  interfaces := #[]
  cf := some (fileOf pool14 8 #[.nestMembers #[319, 327, 801, 108, 663, 208]] #[{ accessFlags := 2, nameIndex := 5, descriptorIndex := 6, attributes := #[] }, { accessFlags := 265, nameIndex := 727, descriptorIndex := 728, attributes := #[] }] 49 2 #[] #[{ accessFlags := 25, nameIndex := 507, descriptorIndex := 526, attributes := #[] }, { accessFlags := 25, nameIndex := 399, descriptorIndex := 155, attributes := #[] }, { accessFlags := 25, nameIndex := 396, descriptorIndex := 155, attributes := #[] }, { accessFlags := 10, nameIndex := 525, descriptorIndex := 526, attributes := #[] }, { accessFlags := 26, nameIndex := 674, descriptorIndex := 12, attributes := #[] }, { accessFlags := 26, nameIndex := 677, descriptorIndex := 12, attributes := #[] }, { accessFlags := 10, nameIndex := 11, descriptorIndex := 12, attributes := #[] }, { accessFlags := 74, nameIndex := 175, descriptorIndex := 176, attributes := #[] }, { accessFlags := 10, nameIndex := 491, descriptorIndex := 222, attributes := #[] }, { accessFlags := 74, nameIndex := 29, descriptorIndex := 30, attributes := #[] }, { accessFlags := 74, nameIndex := 154, descriptorIndex := 155, attributes := #[] }, { accessFlags := 10, nameIndex := 217, descriptorIndex := 218, attributes := #[] }, { accessFlags := 10, nameIndex := 221, descriptorIndex := 222, attributes := #[] }, { accessFlags := 8, nameIndex := 562, descriptorIndex := 563, attributes := #[] }])
  fields := #[{ name := "in", type := (.object "java/io/InputStream"), accessFlags := 25, slot := 0, constantValue := 0 }, { name := "out", type := (.object "java/io/PrintStream"), accessFlags := 25, slot := 1, constantValue := 0 }, { name := "err", type := (.object "java/io/PrintStream"), accessFlags := 25, slot := 2, constantValue := 0 }, { name := "initialIn", type := (.object "java/io/InputStream"), accessFlags := 10, slot := 3, constantValue := 0 }, { name := "NEVER", type := .int, accessFlags := 26, slot := 4, constantValue := 0 }, { name := "MAYBE", type := .int, accessFlags := 26, slot := 5, constantValue := 0 }, { name := "allowSecurityManager", type := .int, accessFlags := 10, slot := 6, constantValue := 0 }, { name := "security", type := (.object "java/lang/SecurityManager"), accessFlags := 74, slot := 7, constantValue := 0 }, { name := "notSupportedJnuEncoding", type := (.object "java/lang/String"), accessFlags := 10, slot := 8, constantValue := 0 }, { name := "cons", type := (.object "java/io/Console"), accessFlags := 74, slot := 9, constantValue := 0 }, { name := "initialErrStream", type := (.object "java/io/PrintStream"), accessFlags := 74, slot := 10, constantValue := 0 }, { name := "props", type := (.object "java/util/Properties"), accessFlags := 10, slot := 11, constantValue := 0 }, { name := "lineSeparator", type := (.object "java/lang/String"), accessFlags := 10, slot := 12, constantValue := 0 }, { name := "bootLayer", type := (.object "java/lang/ModuleLayer"), accessFlags := 8, slot := 13, constantValue := 0 }]
  methods := #[k14m0, k14m1]
  instanceTypes := #[]
  staticTypes := #[(.object "java/io/InputStream"), (.object "java/io/PrintStream"), (.object "java/io/PrintStream"), (.object "java/io/InputStream"), .int, .int, .int, (.object "java/lang/SecurityManager"), (.object "java/lang/String"), (.object "java/io/Console"), (.object "java/io/PrintStream"), (.object "java/util/Properties"), (.object "java/lang/String"), (.object "java/lang/ModuleLayer")]
  resolved := Array.replicate 834 none
  statics := none }

def pool15 : Array CpInfo := pool [(2, .class_ 4), (1, u "java/lang/Object"), (0, u "<init>"), (0, u "()V"), (7, .class_ 16), (1, u "java/util/Arrays"), (57, .class_ 76), (1, u "java/util/Arrays$NaturalOrder"), (36, .class_ 115), (1, u "java/util/Arrays$LegacyMergeSort"), (1, u "Z"), (21, u "copyOfRange"), (10, .methodref 151 152), (0, .class_ 153), (0, .nameAndType 154 155), (0, u "java/lang/System"), (0, u "arraycopy"), (0, u "(Ljava/lang/Object;ILjava/lang/Object;II)V"), (148, .methodref 305 306), (0, .class_ 307), (0, .nameAndType 308 309), (0, u "java/lang/Math"), (0, u "min"), (0, u "(II)I"), (29, .methodref 14 340), (0, .nameAndType 341 342), (0, u "copyOfRangeByte"), (0, u "([BII)[B"), (0, .methodref 14 344), (0, .nameAndType 345 346), (0, u "checkLength"), (0, u "(II)V"), (28, .class_ 376), (0, u "java/util/Arrays$ArrayList"), (68, u "$assertionsDisabled"), (269, u "MIN_ARRAY_SORT_GRAN"), (0, u "I"), (2, u "INSERTIONSORT_THRESHOLD"), (255, .class_ 976), (0, u "java/util/Arrays$ArrayItr")] 52

def k15m0 : Method := { name := "<init>", desc := "()V", sig := { parameters := [], returnType := none }, accessFlags := 2, code := none }
def k15c1 : Code := { maxStack := 4, maxLocals := 2, code := jdk_65_method_131_code, exceptionTable := #[], attributes := #[] }
def k15m1 : Method := { name := "checkLength", desc := "(II)V", sig := { parameters := [.int, .int], returnType := none }, accessFlags := 10, code := some k15c1 }
def k15c2 : Code := { maxStack := 3, maxLocals := 3, code := jdk_65_method_132_code, exceptionTable := #[], attributes := #[] }
def k15m2 : Method := { name := "copyOfRange", desc := "([BII)[B", sig := { parameters := [(.array .byte), .int, .int], returnType := some (.array .byte) }, accessFlags := 9, code := some k15c2 }
def k15c3 : Code := { maxStack := 6, maxLocals := 5, code := jdk_65_method_133_code, exceptionTable := #[], attributes := #[] }
def k15m3 : Method := { name := "copyOfRangeByte", desc := "([BII)[B", sig := { parameters := [(.array .byte), .int, .int], returnType := some (.array .byte) }, accessFlags := 10, code := some k15c3 }
/-- java/util/Arrays -/
def k15 : Class := { plain "java/util/Arrays" (some 0) with
  accessFlags := 49
  interfaces := #[]
  cf := some (fileOf pool15 14 #[.nestMembers #[975, 375, 113, 74]] #[{ accessFlags := 2, nameIndex := 5, descriptorIndex := 6, attributes := #[] }, { accessFlags := 10, nameIndex := 345, descriptorIndex := 346, attributes := #[] }, { accessFlags := 9, nameIndex := 139, descriptorIndex := 342, attributes := #[] }, { accessFlags := 10, nameIndex := 341, descriptorIndex := 342, attributes := #[] }] 49 2 #[] #[{ accessFlags := 26, nameIndex := 715, descriptorIndex := 716, attributes := #[] }, { accessFlags := 26, nameIndex := 719, descriptorIndex := 716, attributes := #[] }, { accessFlags := 4120, nameIndex := 445, descriptorIndex := 117, attributes := #[] }])
  fields := #[{ name := "MIN_ARRAY_SORT_GRAN", type := .int, accessFlags := 26, slot := 0, constantValue := 0 }, { name := "INSERTIONSORT_THRESHOLD", type := .int, accessFlags := 26, slot := 1, constantValue := 0 }, { name := "$assertionsDisabled", type := .boolean, accessFlags := 4120, slot := 2, constantValue := 0 }]
  methods := #[k15m0, k15m1, k15m2, k15m3]
  instanceTypes := #[]
  staticTypes := #[.int, .int, .boolean]
  resolved := Array.replicate 1029 none
  statics := none }

def pool16 : Array CpInfo := pool [(1, .class_ 2), (0, u "java/lang/Math"), (1, .class_ 6), (1, u "java/lang/Object"), (0, u "<init>"), (0, u "()V"), (89, .class_ 100), (1, u "java/lang/Math$RandomNumberGeneratorHolder"), (71, u "negativeZeroFloatBits"), (0, u "J"), (2, u "negativeZeroDoubleBits"), (24, u "min"), (43, u "$assertionsDisabled"), (0, u "Z"), (88, u "(II)I"), (2, u "twoToTheDoubleScaleDown"), (0, u "D"), (4, u "twoToTheDoubleScaleUp"), (9, u "E"), (3, u "PI"), (2, u "TAU"), (2, u "DEGREES_TO_RADIANS"), (0, u "RADIANS_TO_DEGREES")] 94

def k16m0 : Method := { name := "<init>", desc := "()V", sig := { parameters := [], returnType := none }, accessFlags := 2, code := none }
def k16c1 : Code := { maxStack := 2, maxLocals := 2, code := jdk_29_method_69_code, exceptionTable := #[], attributes := #[] }
def k16m1 : Method := { name := "min", desc := "(II)I", sig := { parameters := [.int, .int], returnType := some .int }, accessFlags := 9, code := some k16c1 }
/-- java/lang/Math -/
def k16 : Class := { plain "java/lang/Math" (some 0) with
  accessFlags := 49
  interfaces := #[]
  cf := some (fileOf pool16 1 #[.nestMembers #[98]] #[{ accessFlags := 2, nameIndex := 7, descriptorIndex := 8, attributes := #[] }, { accessFlags := 9, nameIndex := 201, descriptorIndex := 335, attributes := #[] }] 49 4 #[] #[{ accessFlags := 25, nameIndex := 354, descriptorIndex := 339, attributes := #[] }, { accessFlags := 25, nameIndex := 358, descriptorIndex := 339, attributes := #[] }, { accessFlags := 25, nameIndex := 361, descriptorIndex := 339, attributes := #[] }, { accessFlags := 26, nameIndex := 364, descriptorIndex := 339, attributes := #[] }, { accessFlags := 26, nameIndex := 365, descriptorIndex := 339, attributes := #[] }, { accessFlags := 26, nameIndex := 172, descriptorIndex := 173, attributes := #[] }, { accessFlags := 26, nameIndex := 176, descriptorIndex := 173, attributes := #[] }, { accessFlags := 8, nameIndex := 344, descriptorIndex := 339, attributes := #[] }, { accessFlags := 8, nameIndex := 338, descriptorIndex := 339, attributes := #[] }, { accessFlags := 4120, nameIndex := 245, descriptorIndex := 246, attributes := #[] }])
  fields := #[{ name := "E", type := .double, accessFlags := 25, slot := 0, constantValue := 0 }, { name := "PI", type := .double, accessFlags := 25, slot := 1, constantValue := 0 }, { name := "TAU", type := .double, accessFlags := 25, slot := 2, constantValue := 0 }, { name := "DEGREES_TO_RADIANS", type := .double, accessFlags := 26, slot := 3, constantValue := 0 }, { name := "RADIANS_TO_DEGREES", type := .double, accessFlags := 26, slot := 4, constantValue := 0 }, { name := "negativeZeroFloatBits", type := .long, accessFlags := 26, slot := 5, constantValue := 0 }, { name := "negativeZeroDoubleBits", type := .long, accessFlags := 26, slot := 6, constantValue := 0 }, { name := "twoToTheDoubleScaleUp", type := .double, accessFlags := 8, slot := 7, constantValue := 0 }, { name := "twoToTheDoubleScaleDown", type := .double, accessFlags := 8, slot := 8, constantValue := 0 }, { name := "$assertionsDisabled", type := .boolean, accessFlags := 4120, slot := 9, constantValue := 0 }]
  methods := #[k16m0, k16m1]
  instanceTypes := #[]
  staticTypes := #[.double, .double, .double, .double, .double, .long, .long, .double, .double, .boolean]
  resolved := Array.replicate 460 none
  statics := none }

def pool17 : Array CpInfo := pool [(4, .class_ 6), (1, u "java/lang/Object"), (0, u "<init>"), (0, u "()V"), (5, .class_ 16), (1, u "java/lang/StringLatin1"), (104, u "$assertionsDisabled"), (0, u "Z"), (98, .class_ 223), (1, u "java/lang/StringLatin1$LinesSpliterator"), (57, u "equals"), (0, u "([B[B)Z"), (107, .class_ 391), (0, u "java/lang/StringLatin1$CharsSpliterator")] 3

def k17m0 : Method := { name := "<init>", desc := "()V", sig := { parameters := [], returnType := none }, accessFlags := 0, code := none }
def k17c1 : Code := { maxStack := 3, maxLocals := 3, code := jdk_43_method_13_code, exceptionTable := #[], attributes := #[] }
def k17m1 : Method := { name := "equals", desc := "([B[B)Z", sig := { parameters := [(.array .byte), (.array .byte)], returnType := some .boolean }, accessFlags := 9, code := some k17c1 }
/-- java/lang/StringLatin1 -/
def k17 : Class := { plain "java/lang/StringLatin1" (some 0) with
  accessFlags := 48
  interfaces := #[]
  cf := some (fileOf pool17 14 #[.nestMembers #[390, 221]] #[{ accessFlags := 0, nameIndex := 7, descriptorIndex := 8, attributes := #[] }, { accessFlags := 9, nameIndex := 281, descriptorIndex := 282, attributes := #[] }] 48 4 #[] #[{ accessFlags := 4120, nameIndex := 121, descriptorIndex := 122, attributes := #[] }])
  fields := #[{ name := "$assertionsDisabled", type := .boolean, accessFlags := 4120, slot := 0, constantValue := 0 }]
  methods := #[k17m0, k17m1]
  instanceTypes := #[]
  staticTypes := #[.boolean]
  resolved := Array.replicate 395 none
  statics := none }

def pool18 : Array CpInfo := pool [(2, .class_ 4), (1, u "java/lang/Object"), (0, u "<init>"), (0, u "()V"), (17, .class_ 26), (1, u "jdk/internal/util/Preconditions"), (28, .class_ 56), (0, u "jdk/internal/util/Preconditions$4"), (57, .class_ 115), (0, u "jdk/internal/util/Preconditions$1"), (7, u "SIOOBE_FORMATTER"), (0, u "Ljava/util/function/BiFunction;"), (0, .class_ 126), (0, u "jdk/internal/util/Preconditions$2"), (3, u "AIOOBE_FORMATTER"), (0, .class_ 132), (0, u "jdk/internal/util/Preconditions$3"), (3, u "IOOBE_FORMATTER")] 57

def k18m0 : Method := { name := "<init>", desc := "()V", sig := { parameters := [], returnType := none }, accessFlags := 1, code := none }
/-- jdk/internal/util/Preconditions -/
def k18 : Class := { plain "jdk/internal/util/Preconditions" (some 0) with
  accessFlags := 33
  interfaces := #[]
  cf := some (fileOf pool18 24 #[.nestMembers #[55, 131, 125, 114]] #[{ accessFlags := 1, nameIndex := 5, descriptorIndex := 6, attributes := #[] }] 33 2 #[] #[{ accessFlags := 25, nameIndex := 123, descriptorIndex := 124, attributes := #[] }, { accessFlags := 25, nameIndex := 130, descriptorIndex := 124, attributes := #[] }, { accessFlags := 25, nameIndex := 136, descriptorIndex := 124, attributes := #[] }])
  fields := #[{ name := "SIOOBE_FORMATTER", type := (.object "java/util/function/BiFunction"), accessFlags := 25, slot := 0, constantValue := 0 }, { name := "AIOOBE_FORMATTER", type := (.object "java/util/function/BiFunction"), accessFlags := 25, slot := 1, constantValue := 0 }, { name := "IOOBE_FORMATTER", type := (.object "java/util/function/BiFunction"), accessFlags := 25, slot := 2, constantValue := 0 }]
  methods := #[k18m0]
  instanceTypes := #[]
  staticTypes := #[(.object "java/util/function/BiFunction"), (.object "java/util/function/BiFunction"), (.object "java/util/function/BiFunction")]
  resolved := Array.replicate 194 none
  statics := some 1 }

def pool19 : Array CpInfo := pool [(9, u "<init>"), (6, .class_ 18), (1, u "java/lang/Object"), (0, u "()V"), (1, .class_ 23), (1, u "jdk/internal/util/ArraysSupport"), (0, u "LOG2_ARRAY_LONG_INDEX_SCALE"), (0, u "I"), (2, u "U"), (0, u "Ljdk/internal/misc/Unsafe;"), (8, u "BIG_ENDIAN"), (0, u "Z"), (8, u "LOG2_BYTE_BIT_SIZE"), (4, u "LOG2_ARRAY_INT_INDEX_SCALE"), (54, u "JLA"), (0, u "Ljdk/internal/access/JavaLangAccess;"), (11, u "LOG2_ARRAY_BOOLEAN_INDEX_SCALE"), (9, u "LOG2_ARRAY_BYTE_INDEX_SCALE"), (5, u "LOG2_ARRAY_CHAR_INDEX_SCALE"), (5, u "LOG2_ARRAY_SHORT_INDEX_SCALE"), (18, u "LOG2_ARRAY_FLOAT_INDEX_SCALE"), (24, u "LOG2_ARRAY_DOUBLE_INDEX_SCALE"), (89, u "T_BOOLEAN"), (2, u "T_CHAR"), (1, u "T_FLOAT"), (1, u "T_DOUBLE"), (1, u "T_BYTE"), (1, u "T_SHORT"), (1, u "T_INT"), (1, u "T_LONG"), (1, u "SOFT_MAX_ARRAY_LENGTH")] 83

def k19m0 : Method := { name := "<init>", desc := "()V", sig := { parameters := [], returnType := none }, accessFlags := 2, code := none }
/-- jdk/internal/util/ArraysSupport -/
def k19 : Class := { plain "jdk/internal/util/ArraysSupport" (some 0) with
  accessFlags := 33
  interfaces := #[]
  cf := some (fileOf pool19 21 #[] #[{ accessFlags := 2, nameIndex := 9, descriptorIndex := 19, attributes := #[] }] 33 16 #[] #[{ accessFlags := 24, nameIndex := 28, descriptorIndex := 29, attributes := #[] }, { accessFlags := 26, nameIndex := 38, descriptorIndex := 39, attributes := #[] }, { accessFlags := 25, nameIndex := 121, descriptorIndex := 25, attributes := #[] }, { accessFlags := 25, nameIndex := 131, descriptorIndex := 25, attributes := #[] }, { accessFlags := 25, nameIndex := 137, descriptorIndex := 25, attributes := #[] }, { accessFlags := 25, nameIndex := 143, descriptorIndex := 25, attributes := #[] }, { accessFlags := 25, nameIndex := 53, descriptorIndex := 25, attributes := #[] }, { accessFlags := 25, nameIndex := 24, descriptorIndex := 25, attributes := #[] }, { accessFlags := 25, nameIndex := 162, descriptorIndex := 25, attributes := #[] }, { accessFlags := 25, nameIndex := 187, descriptorIndex := 25, attributes := #[] }, { accessFlags := 26, nameIndex := 48, descriptorIndex := 25, attributes := #[] }, { accessFlags := 25, nameIndex := 277, descriptorIndex := 25, attributes := #[] }, { accessFlags := 25, nameIndex := 280, descriptorIndex := 25, attributes := #[] }, { accessFlags := 25, nameIndex := 282, descriptorIndex := 25, attributes := #[] }, { accessFlags := 25, nameIndex := 284, descriptorIndex := 25, attributes := #[] }, { accessFlags := 25, nameIndex := 286, descriptorIndex := 25, attributes := #[] }, { accessFlags := 25, nameIndex := 288, descriptorIndex := 25, attributes := #[] }, { accessFlags := 25, nameIndex := 290, descriptorIndex := 25, attributes := #[] }, { accessFlags := 25, nameIndex := 292, descriptorIndex := 25, attributes := #[] }, { accessFlags := 26, nameIndex := 108, descriptorIndex := 109, attributes := #[] }, { accessFlags := 25, nameIndex := 294, descriptorIndex := 25, attributes := #[] }])
  fields := #[{ name := "U", type := (.object "jdk/internal/misc/Unsafe"), accessFlags := 24, slot := 0, constantValue := 0 }, { name := "BIG_ENDIAN", type := .boolean, accessFlags := 26, slot := 1, constantValue := 0 }, { name := "LOG2_ARRAY_BOOLEAN_INDEX_SCALE", type := .int, accessFlags := 25, slot := 2, constantValue := 0 }, { name := "LOG2_ARRAY_BYTE_INDEX_SCALE", type := .int, accessFlags := 25, slot := 3, constantValue := 0 }, { name := "LOG2_ARRAY_CHAR_INDEX_SCALE", type := .int, accessFlags := 25, slot := 4, constantValue := 0 }, { name := "LOG2_ARRAY_SHORT_INDEX_SCALE", type := .int, accessFlags := 25, slot := 5, constantValue := 0 }, { name := "LOG2_ARRAY_INT_INDEX_SCALE", type := .int, accessFlags := 25, slot := 6, constantValue := 0 }, { name := "LOG2_ARRAY_LONG_INDEX_SCALE", type := .int, accessFlags := 25, slot := 7, constantValue := 0 }, { name := "LOG2_ARRAY_FLOAT_INDEX_SCALE", type := .int, accessFlags := 25, slot := 8, constantValue := 0 }, { name := "LOG2_ARRAY_DOUBLE_INDEX_SCALE", type := .int, accessFlags := 25, slot := 9, constantValue := 0 }, { name := "LOG2_BYTE_BIT_SIZE", type := .int, accessFlags := 26, slot := 10, constantValue := 0 }, { name := "T_BOOLEAN", type := .int, accessFlags := 25, slot := 11, constantValue := 0 }, { name := "T_CHAR", type := .int, accessFlags := 25, slot := 12, constantValue := 0 }, { name := "T_FLOAT", type := .int, accessFlags := 25, slot := 13, constantValue := 0 }, { name := "T_DOUBLE", type := .int, accessFlags := 25, slot := 14, constantValue := 0 }, { name := "T_BYTE", type := .int, accessFlags := 25, slot := 15, constantValue := 0 }, { name := "T_SHORT", type := .int, accessFlags := 25, slot := 16, constantValue := 0 }, { name := "T_INT", type := .int, accessFlags := 25, slot := 17, constantValue := 0 }, { name := "T_LONG", type := .int, accessFlags := 25, slot := 18, constantValue := 0 }, { name := "JLA", type := (.object "jdk/internal/access/JavaLangAccess"), accessFlags := 26, slot := 19, constantValue := 0 }, { name := "SOFT_MAX_ARRAY_LENGTH", type := .int, accessFlags := 25, slot := 20, constantValue := 0 }]
  methods := #[k19m0]
  instanceTypes := #[]
  staticTypes := #[(.object "jdk/internal/misc/Unsafe"), .boolean, .int, .int, .int, .int, .int, .int, .int, .int, .int, .int, .int, .int, .int, .int, .int, .int, .int, (.object "jdk/internal/access/JavaLangAccess"), .int]
  resolved := Array.replicate 378 none
  statics := none }

def pool20 : Array CpInfo := pool [(1, u "java/lang/Cloneable"), (0, .class_ 1), (0, u "java/lang/Object"), (0, .class_ 3)] 3

/-- java/lang/Cloneable -/
def k20 : Class := { plain "java/lang/Cloneable" (some 0) with
  accessFlags := 1537
  interfaces := #[]
  cf := some (fileOf pool20 2 #[] #[] 1537 4 #[] #[])
  fields := #[]
  methods := #[]
  instanceTypes := #[]
  staticTypes := #[]
  resolved := Array.replicate 8 none
  statics := none }

/-- the primitive byte -/
def k21 : Class := { plain "byte" none with kind := .primitive 'B', accessFlags := 0x411 }
/-- [B -/
def k22 : Class := { plain "[B" (some 0) with kind := .array 21 .byte, interfaces := #[20, 2], accessFlags := 1041 }

/-- the primitive char -/
def k23 : Class := { plain "char" none with kind := .primitive 'C', accessFlags := 0x411 }
/-- [C -/
def k24 : Class := { plain "[C" (some 0) with kind := .array 23 .char, interfaces := #[20, 2], accessFlags := 1041 }

/-- the primitive int -/
def k25 : Class := { plain "int" none with kind := .primitive 'I', accessFlags := 0x411 }
/-- [I -/
def k26 : Class := { plain "[I" (some 0) with kind := .array 25 .int, interfaces := #[20, 2], accessFlags := 1041 }

def heap : Heap := #[{ cls := 7, slots := #[.long 0, .int 1, .null, .int 0, .null, .int 0, .int 0], vm := .statics 7 },
  { cls := 18, slots := #[.null, .null, .null], vm := .statics 18 }]
def classes : Array Class := #[k0, k1, k2, k3, k4, k5, k6, k7, k8, k9, k10, k11, k12, k13, k14, k15, k16, k17, k18, k19, k20, k21, k22, k23, k24, k25, k26]
def interned : List (Array UInt16 × Addr) := []
def slotsUsed : Nat := 10
def theMethod : MethodId := ⟨1, 1⟩
def args0 : Array Value := #[.int 5, .int 5, .int 5, .int 5]
def aboutOver (below : List Frame) : State where
  vm := { classes := classes, interned := interned.toArray }
  heap := heap
  slotsUsed := slotsUsed
  threads := #[{ frames := .invoking theMethod args0 :: below }]
def below0 : List Frame := [.native { method := ⟨0, 0⟩, args := #[] }]
def about1 : State := aboutOver below0
def p0 : Program := .bare "" "" ""
def e0 : Env := launch0.env 0 0 0
theorem w_frames : about1.frames = Frame.invoking theMethod args0 :: below0 := rfl
set_option maxRecDepth 65536 in
theorem w_args : argsFit about1.vm theMethod args0 = true := by decide +kernel
set_option maxRecDepth 65536 in
theorem w_heap : heapFits about1 = true := by decide +kernel
set_option maxRecDepth 65536 in
theorem w_runnable : about1.curStatus? = some .runnable := by decide +kernel
set_option maxRecDepth 65536 in
theorem w_alone : about1.alone = true := by decide +kernel
set_option maxRecDepth 65536 in
theorem w_named : about1.methodNamed? x = some theMethod := by decide +kernel
set_option maxRecDepth 65536 in
theorem w_hears : about1.hears theMethod below0 = true := by decide +kernel
set_option maxRecDepth 65536 in
theorem w_ripe : about1.ripe theMethod args0 below0 = true := by decide +kernel
theorem w_running : about1.status = .running := rfl
set_option maxRecDepth 65536 in
theorem w_room : about1.hasRoom e0.platform room_1 = true :=
  launch0.hasRoom_least _ room_1 (by decide +kernel) (by decide +kernel) (by decide +kernel) (by decide +kernel) (by decide +kernel) (by decide +kernel)
theorem allAtoms_all (ts : List Jvm.Cond) (a : Array Jvm.Value) (st : Jvm.State) : (allAtoms ts).before a st = ts.all (fun c => c.before a st) := by
  induction ts with
  | nil => rfl
  | cons c t ih =>
    show (Jvm.Cond.and c (allAtoms t)).before a st = _
    rw [Jvm.Cond.before_and, ih, List.all_cons]
def words1 : List Jvm.Cond := Jvm.Cond.code x code maxLocals ret :: tables_1
/-- a 'code' word, met by the world's own term for the bytes: nothing is compared byte by byte -/
theorem code_word {y : MethodName} {bytes : ByteArray} {mx : Nat} {rt : Option FieldType} {a : Array Value} {s : State} {m : MethodId} {meth : Method} {c : Code} (h1 : s.methodNamed? y = some m) (h2 : s.vm.method? m = some meth) (h3 : meth.code = some c) (h4 : c.code = bytes)
    (h5 : (c.maxLocals == mx && c.exceptionTable.isEmpty && decide (c.maxStack ≤ mostOperands) && decide (meth.sig.returnType = rt) && !meth.locks && decide (parseMethodDescriptor y.desc = some meth.sig)) = true) : (Jvm.Cond.code y bytes mx rt).before a s = true := by
  simp only [Bool.and_eq_true, beq_iff_eq, Bool.not_eq_true', decide_eq_true_eq] at h5
  obtain ⟨⟨⟨⟨⟨g1, g2⟩, g3⟩, g4⟩, g5⟩, g6⟩ := h5
  simp [Cond.before, Cond.holds, Cond.value, h1, h2, h3, h4, g1, g2, g3, g4, g5, g6]
def isCode : Jvm.Cond → Bool
  | .code _ _ _ _ => true
  | _ => false
theorem all_split {L : List Jvm.Cond} {P : Jvm.Cond → Bool} (h1 : L.all (fun c => isCode c || P c) = true) (h2 : ∀ c ∈ L.filter isCode, P c = true) : L.all P = true := by
  refine List.all_eq_true.mpr fun c hc => ?_
  have h := List.all_eq_true.mp h1 c hc
  rcases Bool.eq_false_or_eq_true (isCode c) with hi | hi
  · exact h2 c (List.mem_filter.mpr ⟨hc, hi⟩)
  · simpa [hi] using h
set_option maxRecDepth 65536 in
theorem w_c0 : (Jvm.Cond.code x code maxLocals ret).before args0 about1 = true := code_word (m := ⟨1, 1⟩) (meth := k1m1) (c := k1c1) (by decide +kernel) rfl rfl rfl (by decide +kernel)
set_option maxRecDepth 65536 in
theorem w_c1 : (Jvm.Cond.code ({ cls := "java/lang/String", name := "<init>", desc := "([C)V" } : Jvm.MethodName) jdk_42_method_3_code (2 : Nat) (Option.none : Option Jvm.ClassFile.FieldType)).before args0 about1 = true := code_word (m := ⟨7, 1⟩) (meth := k7m1) (c := k7c1) (by decide +kernel) rfl rfl rfl (by decide +kernel)
set_option maxRecDepth 65536 in
theorem w_c2 : (Jvm.Cond.code ({ cls := "java/lang/String", name := "<init>", desc := "([CIILjava/lang/Void;)V" } : Jvm.MethodName) jdk_42_method_149_code (6 : Nat) (Option.none : Option Jvm.ClassFile.FieldType)).before args0 about1 = true := code_word (m := ⟨7, 6⟩) (meth := k7m6) (c := k7c6) (by decide +kernel) rfl rfl rfl (by decide +kernel)
set_option maxRecDepth 65536 in
theorem w_c3 : (Jvm.Cond.code ({ cls := "java/lang/Object", name := "<init>", desc := "()V" } : Jvm.MethodName) object_method_1_code (1 : Nat) (Option.none : Option Jvm.ClassFile.FieldType)).before args0 about1 = true := code_word (m := ⟨0, 0⟩) (meth := k0m0) (c := k0c0) (by decide +kernel) rfl rfl rfl (by decide +kernel)
set_option maxRecDepth 65536 in
theorem w_c4 : (Jvm.Cond.code ({ cls := "java/lang/StringUTF16", name := "compress", desc := "([CII)[B" } : Jvm.MethodName) jdk_52_method_16_code (6 : Nat) (Option.some (Jvm.ClassFile.FieldType.array Jvm.ClassFile.FieldType.byte))).before args0 about1 = true := code_word (m := ⟨8, 2⟩) (meth := k8m2) (c := k8c2) (by decide +kernel) rfl rfl rfl (by decide +kernel)
set_option maxRecDepth 65536 in
theorem w_c5 : (Jvm.Cond.code ({ cls := "java/lang/StringUTF16", name := "compress", desc := "([CI[BII)I" } : Jvm.MethodName) jdk_52_method_21_code (7 : Nat) (Option.some Jvm.ClassFile.FieldType.int)).before args0 about1 = true := code_word (m := ⟨8, 3⟩) (meth := k8m3) (c := k8c3) (by decide +kernel) rfl rfl rfl (by decide +kernel)
set_option maxRecDepth 65536 in
theorem w_c6 : (Jvm.Cond.code ({ cls := "java/lang/StringUTF16", name := "coderFromArrayLen", desc := "([BI)B" } : Jvm.MethodName) jdk_52_method_15_code (2 : Nat) (Option.some Jvm.ClassFile.FieldType.byte)).before args0 about1 = true := code_word (m := ⟨8, 1⟩) (meth := k8m1) (c := k8c1) (by decide +kernel) rfl rfl rfl (by decide +kernel)
set_option maxRecDepth 65536 in
theorem w_c7 : (Jvm.Cond.code ({ cls := "com/example/greylag/greylag/Decision", name := "bypassedBy", desc := "(Ljava/lang/String;)Lcom/example/greylag/greylag/Decision;" } : Jvm.MethodName) prog_6_method_2_code (1 : Nat) (Option.some (Jvm.ClassFile.FieldType.object "com/example/greylag/greylag/Decision"))).before args0 about1 = true := code_word (m := ⟨10, 1⟩) (meth := k10m1) (c := k10c1) (by decide +kernel) rfl rfl rfl (by decide +kernel)
set_option maxRecDepth 65536 in
theorem w_c8 : (Jvm.Cond.code ({ cls := "com/example/greylag/greylag/Decision", name := "<init>", desc := "(Ljava/lang/String;ILcom/example/greylag/greylag/Permission;Z)V" } : Jvm.MethodName) prog_6_method_1_code (5 : Nat) (Option.none : Option Jvm.ClassFile.FieldType)).before args0 about1 = true := code_word (m := ⟨10, 0⟩) (meth := k10m0) (c := k10c0) (by decide +kernel) rfl rfl rfl (by decide +kernel)
set_option maxRecDepth 65536 in
theorem w_c9 : (Jvm.Cond.code ({ cls := "java/lang/Record", name := "<init>", desc := "()V" } : Jvm.MethodName) jdk_30_method_1_code (1 : Nat) (Option.none : Option Jvm.ClassFile.FieldType)).before args0 about1 = true := code_word (m := ⟨9, 0⟩) (meth := k9m0) (c := k9c0) (by decide +kernel) rfl rfl rfl (by decide +kernel)
set_option maxRecDepth 65536 in
theorem w_c10 : (Jvm.Cond.code ({ cls := "com/example/greylag/greylag/Decision", name := "role", desc := "()Ljava/lang/String;" } : Jvm.MethodName) prog_6_method_10_code (1 : Nat) (Option.some (Jvm.ClassFile.FieldType.object "java/lang/String"))).before args0 about1 = true := code_word (m := ⟨10, 4⟩) (meth := k10m4) (c := k10c4) (by decide +kernel) rfl rfl rfl (by decide +kernel)
set_option maxRecDepth 65536 in
theorem w_c11 : (Jvm.Cond.code ({ cls := "java/lang/String", name := "equals", desc := "(Ljava/lang/Object;)Z" } : Jvm.MethodName) jdk_42_method_66_code (3 : Nat) (Option.some Jvm.ClassFile.FieldType.boolean)).before args0 about1 = true := code_word (m := ⟨7, 4⟩) (meth := k7m4) (c := k7c4) (by decide +kernel) rfl rfl rfl (by decide +kernel)
set_option maxRecDepth 65536 in
theorem w_c12 : (Jvm.Cond.code ({ cls := "com/example/greylag/greylag/Decision", name := "index", desc := "()I" } : Jvm.MethodName) prog_6_method_11_code (1 : Nat) (Option.some Jvm.ClassFile.FieldType.int)).before args0 about1 = true := code_word (m := ⟨10, 5⟩) (meth := k10m5) (c := k10c5) (by decide +kernel) rfl rfl rfl (by decide +kernel)
set_option maxRecDepth 65536 in
theorem w_c13 : (Jvm.Cond.code ({ cls := "com/example/greylag/greylag/Decision", name := "permission", desc := "()Lcom/example/greylag/greylag/Permission;" } : Jvm.MethodName) prog_6_method_12_code (1 : Nat) (Option.some (Jvm.ClassFile.FieldType.object "com/example/greylag/greylag/Permission"))).before args0 about1 = true := code_word (m := ⟨10, 6⟩) (meth := k10m6) (c := k10c6) (by decide +kernel) rfl rfl rfl (by decide +kernel)
set_option maxRecDepth 65536 in
theorem w_c14 : (Jvm.Cond.code ({ cls := "com/example/greylag/greylag/Decision", name := "bypass", desc := "()Z" } : Jvm.MethodName) prog_6_method_13_code (1 : Nat) (Option.some Jvm.ClassFile.FieldType.boolean)).before args0 about1 = true := code_word (m := ⟨10, 7⟩) (meth := k10m7) (c := k10c7) (by decide +kernel) rfl rfl rfl (by decide +kernel)
set_option maxRecDepth 65536 in
theorem w_c15 : (Jvm.Cond.code ({ cls := "com/example/greylag/greylag/Decision", name := "allowed", desc := "()Z" } : Jvm.MethodName) prog_6_method_3_code (1 : Nat) (Option.some Jvm.ClassFile.FieldType.boolean)).before args0 about1 = true := code_word (m := ⟨10, 2⟩) (meth := k10m2) (c := k10c2) (by decide +kernel) rfl rfl rfl (by decide +kernel)
set_option maxRecDepth 65536 in
theorem w_c16 : (Jvm.Cond.code ({ cls := "com/example/greylag/greylag/Decision", name := "explanation", desc := "()Ljava/lang/String;" } : Jvm.MethodName) prog_6_method_6_code (2 : Nat) (Option.some (Jvm.ClassFile.FieldType.object "java/lang/String"))).before args0 about1 = true := code_word (m := ⟨10, 3⟩) (meth := k10m3) (c := k10c3) (by decide +kernel) rfl rfl rfl (by decide +kernel)
set_option maxRecDepth 65536 in
theorem w_c17 : (Jvm.Cond.code ({ cls := "java/lang/StringBuilder", name := "<init>", desc := "()V" } : Jvm.MethodName) jdk_67_method_1_code (1 : Nat) (Option.none : Option Jvm.ClassFile.FieldType)).before args0 about1 = true := code_word (m := ⟨13, 0⟩) (meth := k13m0) (c := k13c0) (by decide +kernel) rfl rfl rfl (by decide +kernel)
set_option maxRecDepth 65536 in
theorem w_c18 : (Jvm.Cond.code ({ cls := "java/lang/AbstractStringBuilder", name := "<init>", desc := "(I)V" } : Jvm.MethodName) jdk_68_method_2_code (2 : Nat) (Option.none : Option Jvm.ClassFile.FieldType)).before args0 about1 = true := code_word (m := ⟨12, 1⟩) (meth := k12m1) (c := k12c1) (by decide +kernel) rfl rfl rfl (by decide +kernel)
set_option maxRecDepth 65536 in
theorem w_c19 : (Jvm.Cond.code ({ cls := "java/lang/StringBuilder", name := "append", desc := "(Ljava/lang/String;)Ljava/lang/StringBuilder;" } : Jvm.MethodName) jdk_67_method_7_code (2 : Nat) (Option.some (Jvm.ClassFile.FieldType.object "java/lang/StringBuilder"))).before args0 about1 = true := code_word (m := ⟨13, 1⟩) (meth := k13m1) (c := k13c1) (by decide +kernel) rfl rfl rfl (by decide +kernel)
set_option maxRecDepth 65536 in
theorem w_c20 : (Jvm.Cond.code ({ cls := "java/lang/AbstractStringBuilder", name := "append", desc := "(Ljava/lang/String;)Ljava/lang/AbstractStringBuilder;" } : Jvm.MethodName) jdk_68_method_22_code (3 : Nat) (Option.some (Jvm.ClassFile.FieldType.object "java/lang/AbstractStringBuilder"))).before args0 about1 = true := code_word (m := ⟨12, 4⟩) (meth := k12m4) (c := k12c4) (by decide +kernel) rfl rfl rfl (by decide +kernel)
set_option maxRecDepth 65536 in
theorem w_c21 : (Jvm.Cond.code ({ cls := "java/lang/String", name := "length", desc := "()I" } : Jvm.MethodName) jdk_42_method_54_code (1 : Nat) (Option.some Jvm.ClassFile.FieldType.int)).before args0 about1 = true := code_word (m := ⟨7, 3⟩) (meth := k7m3) (c := k7c3) (by decide +kernel) rfl rfl rfl (by decide +kernel)
set_option maxRecDepth 65536 in
theorem w_c22 : (Jvm.Cond.code ({ cls := "java/lang/String", name := "coder", desc := "()B" } : Jvm.MethodName) jdk_42_method_152_code (1 : Nat) (Option.some Jvm.ClassFile.FieldType.byte)).before args0 about1 = true := code_word (m := ⟨7, 8⟩) (meth := k7m8) (c := k7c8) (by decide +kernel) rfl rfl rfl (by decide +kernel)
set_option maxRecDepth 65536 in
theorem w_c23 : (Jvm.Cond.code ({ cls := "java/lang/AbstractStringBuilder", name := "ensureCapacityInternal", desc := "(I)V" } : Jvm.MethodName) jdk_68_method_9_code (3 : Nat) (Option.none : Option Jvm.ClassFile.FieldType)).before args0 about1 = true := code_word (m := ⟨12, 3⟩) (meth := k12m3) (c := k12c3) (by decide +kernel) rfl rfl rfl (by decide +kernel)
set_option maxRecDepth 65536 in
theorem w_c24 : (Jvm.Cond.code ({ cls := "java/lang/AbstractStringBuilder", name := "putStringAt", desc := "(ILjava/lang/String;)V" } : Jvm.MethodName) jdk_68_method_73_code (3 : Nat) (Option.none : Option Jvm.ClassFile.FieldType)).before args0 about1 = true := code_word (m := ⟨12, 8⟩) (meth := k12m8) (c := k12c8) (by decide +kernel) rfl rfl rfl (by decide +kernel)
set_option maxRecDepth 65536 in
theorem w_c25 : (Jvm.Cond.code ({ cls := "java/lang/AbstractStringBuilder", name := "inflateIfNeededFor", desc := "(Ljava/lang/String;)V" } : Jvm.MethodName) jdk_68_method_71_code (2 : Nat) (Option.none : Option Jvm.ClassFile.FieldType)).before args0 about1 = true := code_word (m := ⟨12, 7⟩) (meth := k12m7) (c := k12c7) (by decide +kernel) rfl rfl rfl (by decide +kernel)
set_option maxRecDepth 65536 in
theorem w_c26 : (Jvm.Cond.code ({ cls := "java/lang/String", name := "getBytes", desc := "([BIB)V" } : Jvm.MethodName) jdk_42_method_147_code (4 : Nat) (Option.none : Option Jvm.ClassFile.FieldType)).before args0 about1 = true := code_word (m := ⟨7, 5⟩) (meth := k7m5) (c := k7c5) (by decide +kernel) rfl rfl rfl (by decide +kernel)
set_option maxRecDepth 65536 in
theorem w_c27 : (Jvm.Cond.code ({ cls := "java/lang/StringBuilder", name := "toString", desc := "()Ljava/lang/String;" } : Jvm.MethodName) jdk_67_method_42_code (1 : Nat) (Option.some (Jvm.ClassFile.FieldType.object "java/lang/String"))).before args0 about1 = true := code_word (m := ⟨13, 2⟩) (meth := k13m2) (c := k13c2) (by decide +kernel) rfl rfl rfl (by decide +kernel)
set_option maxRecDepth 65536 in
theorem w_c28 : (Jvm.Cond.code ({ cls := "java/lang/String", name := "<init>", desc := "(Ljava/lang/StringBuilder;)V" } : Jvm.MethodName) jdk_42_method_53_code (2 : Nat) (Option.none : Option Jvm.ClassFile.FieldType)).before args0 about1 = true := code_word (m := ⟨7, 2⟩) (meth := k7m2) (c := k7c2) (by decide +kernel) rfl rfl rfl (by decide +kernel)
set_option maxRecDepth 65536 in
theorem w_c29 : (Jvm.Cond.code ({ cls := "java/lang/String", name := "<init>", desc := "(Ljava/lang/AbstractStringBuilder;Ljava/lang/Void;)V" } : Jvm.MethodName) jdk_42_method_150_code (5 : Nat) (Option.none : Option Jvm.ClassFile.FieldType)).before args0 about1 = true := code_word (m := ⟨7, 7⟩) (meth := k7m7) (c := k7c7) (by decide +kernel) rfl rfl rfl (by decide +kernel)
set_option maxRecDepth 65536 in
theorem w_c30 : (Jvm.Cond.code ({ cls := "java/lang/AbstractStringBuilder", name := "getValue", desc := "()[B" } : Jvm.MethodName) jdk_68_method_64_code (1 : Nat) (Option.some (Jvm.ClassFile.FieldType.array Jvm.ClassFile.FieldType.byte))).before args0 about1 = true := code_word (m := ⟨12, 5⟩) (meth := k12m5) (c := k12c5) (by decide +kernel) rfl rfl rfl (by decide +kernel)
set_option maxRecDepth 65536 in
theorem w_c31 : (Jvm.Cond.code ({ cls := "java/lang/StringBuilder", name := "length", desc := "()I" } : Jvm.MethodName) jdk_67_method_93_code (1 : Nat) (Option.some Jvm.ClassFile.FieldType.int)).before args0 about1 = true := code_word (m := ⟨13, 3⟩) (meth := k13m3) (c := k13c3) (by decide +kernel) rfl rfl rfl (by decide +kernel)
set_option maxRecDepth 65536 in
theorem w_c32 : (Jvm.Cond.code ({ cls := "java/lang/AbstractStringBuilder", name := "length", desc := "()I" } : Jvm.MethodName) jdk_68_method_6_code (1 : Nat) (Option.some Jvm.ClassFile.FieldType.int)).before args0 about1 = true := code_word (m := ⟨12, 2⟩) (meth := k12m2) (c := k12c2) (by decide +kernel) rfl rfl rfl (by decide +kernel)
set_option maxRecDepth 65536 in
theorem w_c33 : (Jvm.Cond.code ({ cls := "java/lang/AbstractStringBuilder", name := "isLatin1", desc := "()Z" } : Jvm.MethodName) jdk_68_method_68_code (1 : Nat) (Option.some Jvm.ClassFile.FieldType.boolean)).before args0 about1 = true := code_word (m := ⟨12, 6⟩) (meth := k12m6) (c := k12c6) (by decide +kernel) rfl rfl rfl (by decide +kernel)
set_option maxRecDepth 65536 in
theorem w_c34 : (Jvm.Cond.code ({ cls := "java/util/Arrays", name := "copyOfRange", desc := "([BII)[B" } : Jvm.MethodName) jdk_65_method_132_code (3 : Nat) (Option.some (Jvm.ClassFile.FieldType.array Jvm.ClassFile.FieldType.byte))).before args0 about1 = true := code_word (m := ⟨15, 2⟩) (meth := k15m2) (c := k15c2) (by decide +kernel) rfl rfl rfl (by decide +kernel)
set_option maxRecDepth 65536 in
theorem w_c35 : (Jvm.Cond.code ({ cls := "java/util/Arrays", name := "copyOfRangeByte", desc := "([BII)[B" } : Jvm.MethodName) jdk_65_method_133_code (5 : Nat) (Option.some (Jvm.ClassFile.FieldType.array Jvm.ClassFile.FieldType.byte))).before args0 about1 = true := code_word (m := ⟨15, 3⟩) (meth := k15m3) (c := k15c3) (by decide +kernel) rfl rfl rfl (by decide +kernel)
set_option maxRecDepth 65536 in
theorem w_c36 : (Jvm.Cond.code ({ cls := "java/util/Arrays", name := "checkLength", desc := "(II)V" } : Jvm.MethodName) jdk_65_method_131_code (2 : Nat) (Option.none : Option Jvm.ClassFile.FieldType)).before args0 about1 = true := code_word (m := ⟨15, 1⟩) (meth := k15m1) (c := k15c1) (by decide +kernel) rfl rfl rfl (by decide +kernel)
set_option maxRecDepth 65536 in
theorem w_c37 : (Jvm.Cond.code ({ cls := "java/lang/Math", name := "min", desc := "(II)I" } : Jvm.MethodName) jdk_29_method_69_code (2 : Nat) (Option.some Jvm.ClassFile.FieldType.int)).before args0 about1 = true := code_word (m := ⟨16, 1⟩) (meth := k16m1) (c := k16c1) (by decide +kernel) rfl rfl rfl (by decide +kernel)
set_option maxRecDepth 65536 in
theorem w_c38 : (Jvm.Cond.code ({ cls := "java/lang/StringLatin1", name := "equals", desc := "([B[B)Z" } : Jvm.MethodName) jdk_43_method_13_code (3 : Nat) (Option.some Jvm.ClassFile.FieldType.boolean)).before args0 about1 = true := code_word (m := ⟨17, 1⟩) (meth := k17m1) (c := k17c1) (by decide +kernel) rfl rfl rfl (by decide +kernel)
def codes1 : List Jvm.Cond := [Jvm.Cond.code x code maxLocals ret, Jvm.Cond.code ({ cls := "java/lang/String", name := "<init>", desc := "([C)V" } : Jvm.MethodName) jdk_42_method_3_code (2 : Nat) (Option.none : Option Jvm.ClassFile.FieldType), Jvm.Cond.code ({ cls := "java/lang/String", name := "<init>", desc := "([CIILjava/lang/Void;)V" } : Jvm.MethodName) jdk_42_method_149_code (6 : Nat) (Option.none : Option Jvm.ClassFile.FieldType), Jvm.Cond.code ({ cls := "java/lang/Object", name := "<init>", desc := "()V" } : Jvm.MethodName) object_method_1_code (1 : Nat) (Option.none : Option Jvm.ClassFile.FieldType), Jvm.Cond.code ({ cls := "java/lang/StringUTF16", name := "compress", desc := "([CII)[B" } : Jvm.MethodName) jdk_52_method_16_code (6 : Nat) (Option.some (Jvm.ClassFile.FieldType.array Jvm.ClassFile.FieldType.byte)), Jvm.Cond.code ({ cls := "java/lang/StringUTF16", name := "compress", desc := "([CI[BII)I" } : Jvm.MethodName) jdk_52_method_21_code (7 : Nat) (Option.some Jvm.ClassFile.FieldType.int), Jvm.Cond.code ({ cls := "java/lang/StringUTF16", name := "coderFromArrayLen", desc := "([BI)B" } : Jvm.MethodName) jdk_52_method_15_code (2 : Nat) (Option.some Jvm.ClassFile.FieldType.byte), Jvm.Cond.code ({ cls := "com/example/greylag/greylag/Decision", name := "bypassedBy", desc := "(Ljava/lang/String;)Lcom/example/greylag/greylag/Decision;" } : Jvm.MethodName) prog_6_method_2_code (1 : Nat) (Option.some (Jvm.ClassFile.FieldType.object "com/example/greylag/greylag/Decision")), Jvm.Cond.code ({ cls := "com/example/greylag/greylag/Decision", name := "<init>", desc := "(Ljava/lang/String;ILcom/example/greylag/greylag/Permission;Z)V" } : Jvm.MethodName) prog_6_method_1_code (5 : Nat) (Option.none : Option Jvm.ClassFile.FieldType), Jvm.Cond.code ({ cls := "java/lang/Record", name := "<init>", desc := "()V" } : Jvm.MethodName) jdk_30_method_1_code (1 : Nat) (Option.none : Option Jvm.ClassFile.FieldType), Jvm.Cond.code ({ cls := "com/example/greylag/greylag/Decision", name := "role", desc := "()Ljava/lang/String;" } : Jvm.MethodName) prog_6_method_10_code (1 : Nat) (Option.some (Jvm.ClassFile.FieldType.object "java/lang/String")), Jvm.Cond.code ({ cls := "java/lang/String", name := "equals", desc := "(Ljava/lang/Object;)Z" } : Jvm.MethodName) jdk_42_method_66_code (3 : Nat) (Option.some Jvm.ClassFile.FieldType.boolean), Jvm.Cond.code ({ cls := "com/example/greylag/greylag/Decision", name := "index", desc := "()I" } : Jvm.MethodName) prog_6_method_11_code (1 : Nat) (Option.some Jvm.ClassFile.FieldType.int), Jvm.Cond.code ({ cls := "com/example/greylag/greylag/Decision", name := "permission", desc := "()Lcom/example/greylag/greylag/Permission;" } : Jvm.MethodName) prog_6_method_12_code (1 : Nat) (Option.some (Jvm.ClassFile.FieldType.object "com/example/greylag/greylag/Permission")), Jvm.Cond.code ({ cls := "com/example/greylag/greylag/Decision", name := "bypass", desc := "()Z" } : Jvm.MethodName) prog_6_method_13_code (1 : Nat) (Option.some Jvm.ClassFile.FieldType.boolean), Jvm.Cond.code ({ cls := "com/example/greylag/greylag/Decision", name := "allowed", desc := "()Z" } : Jvm.MethodName) prog_6_method_3_code (1 : Nat) (Option.some Jvm.ClassFile.FieldType.boolean), Jvm.Cond.code ({ cls := "com/example/greylag/greylag/Decision", name := "explanation", desc := "()Ljava/lang/String;" } : Jvm.MethodName) prog_6_method_6_code (2 : Nat) (Option.some (Jvm.ClassFile.FieldType.object "java/lang/String")), Jvm.Cond.code ({ cls := "java/lang/StringBuilder", name := "<init>", desc := "()V" } : Jvm.MethodName) jdk_67_method_1_code (1 : Nat) (Option.none : Option Jvm.ClassFile.FieldType), Jvm.Cond.code ({ cls := "java/lang/AbstractStringBuilder", name := "<init>", desc := "(I)V" } : Jvm.MethodName) jdk_68_method_2_code (2 : Nat) (Option.none : Option Jvm.ClassFile.FieldType), Jvm.Cond.code ({ cls := "java/lang/StringBuilder", name := "append", desc := "(Ljava/lang/String;)Ljava/lang/StringBuilder;" } : Jvm.MethodName) jdk_67_method_7_code (2 : Nat) (Option.some (Jvm.ClassFile.FieldType.object "java/lang/StringBuilder")), Jvm.Cond.code ({ cls := "java/lang/AbstractStringBuilder", name := "append", desc := "(Ljava/lang/String;)Ljava/lang/AbstractStringBuilder;" } : Jvm.MethodName) jdk_68_method_22_code (3 : Nat) (Option.some (Jvm.ClassFile.FieldType.object "java/lang/AbstractStringBuilder")), Jvm.Cond.code ({ cls := "java/lang/String", name := "length", desc := "()I" } : Jvm.MethodName) jdk_42_method_54_code (1 : Nat) (Option.some Jvm.ClassFile.FieldType.int), Jvm.Cond.code ({ cls := "java/lang/String", name := "coder", desc := "()B" } : Jvm.MethodName) jdk_42_method_152_code (1 : Nat) (Option.some Jvm.ClassFile.FieldType.byte), Jvm.Cond.code ({ cls := "java/lang/AbstractStringBuilder", name := "ensureCapacityInternal", desc := "(I)V" } : Jvm.MethodName) jdk_68_method_9_code (3 : Nat) (Option.none : Option Jvm.ClassFile.FieldType), Jvm.Cond.code ({ cls := "java/lang/AbstractStringBuilder", name := "putStringAt", desc := "(ILjava/lang/String;)V" } : Jvm.MethodName) jdk_68_method_73_code (3 : Nat) (Option.none : Option Jvm.ClassFile.FieldType), Jvm.Cond.code ({ cls := "java/lang/AbstractStringBuilder", name := "inflateIfNeededFor", desc := "(Ljava/lang/String;)V" } : Jvm.MethodName) jdk_68_method_71_code (2 : Nat) (Option.none : Option Jvm.ClassFile.FieldType), Jvm.Cond.code ({ cls := "java/lang/String", name := "getBytes", desc := "([BIB)V" } : Jvm.MethodName) jdk_42_method_147_code (4 : Nat) (Option.none : Option Jvm.ClassFile.FieldType), Jvm.Cond.code ({ cls := "java/lang/StringBuilder", name := "toString", desc := "()Ljava/lang/String;" } : Jvm.MethodName) jdk_67_method_42_code (1 : Nat) (Option.some (Jvm.ClassFile.FieldType.object "java/lang/String")), Jvm.Cond.code ({ cls := "java/lang/String", name := "<init>", desc := "(Ljava/lang/StringBuilder;)V" } : Jvm.MethodName) jdk_42_method_53_code (2 : Nat) (Option.none : Option Jvm.ClassFile.FieldType), Jvm.Cond.code ({ cls := "java/lang/String", name := "<init>", desc := "(Ljava/lang/AbstractStringBuilder;Ljava/lang/Void;)V" } : Jvm.MethodName) jdk_42_method_150_code (5 : Nat) (Option.none : Option Jvm.ClassFile.FieldType), Jvm.Cond.code ({ cls := "java/lang/AbstractStringBuilder", name := "getValue", desc := "()[B" } : Jvm.MethodName) jdk_68_method_64_code (1 : Nat) (Option.some (Jvm.ClassFile.FieldType.array Jvm.ClassFile.FieldType.byte)), Jvm.Cond.code ({ cls := "java/lang/StringBuilder", name := "length", desc := "()I" } : Jvm.MethodName) jdk_67_method_93_code (1 : Nat) (Option.some Jvm.ClassFile.FieldType.int), Jvm.Cond.code ({ cls := "java/lang/AbstractStringBuilder", name := "length", desc := "()I" } : Jvm.MethodName) jdk_68_method_6_code (1 : Nat) (Option.some Jvm.ClassFile.FieldType.int), Jvm.Cond.code ({ cls := "java/lang/AbstractStringBuilder", name := "isLatin1", desc := "()Z" } : Jvm.MethodName) jdk_68_method_68_code (1 : Nat) (Option.some Jvm.ClassFile.FieldType.boolean), Jvm.Cond.code ({ cls := "java/util/Arrays", name := "copyOfRange", desc := "([BII)[B" } : Jvm.MethodName) jdk_65_method_132_code (3 : Nat) (Option.some (Jvm.ClassFile.FieldType.array Jvm.ClassFile.FieldType.byte)), Jvm.Cond.code ({ cls := "java/util/Arrays", name := "copyOfRangeByte", desc := "([BII)[B" } : Jvm.MethodName) jdk_65_method_133_code (5 : Nat) (Option.some (Jvm.ClassFile.FieldType.array Jvm.ClassFile.FieldType.byte)), Jvm.Cond.code ({ cls := "java/util/Arrays", name := "checkLength", desc := "(II)V" } : Jvm.MethodName) jdk_65_method_131_code (2 : Nat) (Option.none : Option Jvm.ClassFile.FieldType), Jvm.Cond.code ({ cls := "java/lang/Math", name := "min", desc := "(II)I" } : Jvm.MethodName) jdk_29_method_69_code (2 : Nat) (Option.some Jvm.ClassFile.FieldType.int), Jvm.Cond.code ({ cls := "java/lang/StringLatin1", name := "equals", desc := "([B[B)Z" } : Jvm.MethodName) jdk_43_method_13_code (3 : Nat) (Option.some Jvm.ClassFile.FieldType.boolean)]
set_option maxRecDepth 65536 in
theorem codes_eq : words1.filter isCode = codes1 := rfl
theorem w_codes : ∀ c ∈ words1.filter isCode, c.before args0 about1 = true := by
  rw [codes_eq]
  intro c hc
  simp only [codes1, List.mem_cons, List.not_mem_nil, or_false] at hc
  rcases hc with rfl | rfl | rfl | rfl | rfl | rfl | rfl | rfl | rfl | rfl | rfl | rfl | rfl | rfl | rfl | rfl | rfl | rfl | rfl | rfl | rfl | rfl | rfl | rfl | rfl | rfl | rfl | rfl | rfl | rfl | rfl | rfl | rfl | rfl | rfl | rfl | rfl | rfl | rfl
  · exact w_c0
  · exact w_c1
  · exact w_c2
  · exact w_c3
  · exact w_c4
  · exact w_c5
  · exact w_c6
  · exact w_c7
  · exact w_c8
  · exact w_c9
  · exact w_c10
  · exact w_c11
  · exact w_c12
  · exact w_c13
  · exact w_c14
  · exact w_c15
  · exact w_c16
  · exact w_c17
  · exact w_c18
  · exact w_c19
  · exact w_c20
  · exact w_c21
  · exact w_c22
  · exact w_c23
  · exact w_c24
  · exact w_c25
  · exact w_c26
  · exact w_c27
  · exact w_c28
  · exact w_c29
  · exact w_c30
  · exact w_c31
  · exact w_c32
  · exact w_c33
  · exact w_c34
  · exact w_c35
  · exact w_c36
  · exact w_c37
  · exact w_c38
set_option maxRecDepth 65536 in
theorem w_t1 : (words1.take 24).all (fun c => isCode c || c.before args0 about1) = true := by decide +kernel
set_option maxRecDepth 65536 in
theorem w_t2 : ((words1.drop 24).take 24).all (fun c => isCode c || c.before args0 about1) = true := by decide +kernel
set_option maxRecDepth 65536 in
theorem w_t3 : (((words1.drop 24).drop 24).take 24).all (fun c => isCode c || c.before args0 about1) = true := by decide +kernel
set_option maxRecDepth 65536 in
theorem w_t4 : ((((words1.drop 24).drop 24).drop 24).take 24).all (fun c => isCode c || c.before args0 about1) = true := by decide +kernel
set_option maxRecDepth 65536 in
theorem w_t5 : (((((words1.drop 24).drop 24).drop 24).drop 24).take 24).all (fun c => isCode c || c.before args0 about1) = true := by decide +kernel
set_option maxRecDepth 65536 in
theorem w_t6 : ((((((words1.drop 24).drop 24).drop 24).drop 24).drop 24).take 24).all (fun c => isCode c || c.before args0 about1) = true := by decide +kernel
set_option maxRecDepth 65536 in
theorem w_t7 : (((((((words1.drop 24).drop 24).drop 24).drop 24).drop 24).drop 24).take 24).all (fun c => isCode c || c.before args0 about1) = true := by decide +kernel
set_option maxRecDepth 65536 in
theorem w_t8 : ((((((((words1.drop 24).drop 24).drop 24).drop 24).drop 24).drop 24).drop 24).take 24).all (fun c => isCode c || c.before args0 about1) = true := by decide +kernel
set_option maxRecDepth 65536 in
theorem w_t9 : ((((((((words1.drop 24).drop 24).drop 24).drop 24).drop 24).drop 24).drop 24).drop 24).all (fun c => isCode c || c.before args0 about1) = true := by decide +kernel
theorem w_tables : (allAtoms (Jvm.Cond.code x code maxLocals ret :: tables_1)).before args0 about1 = true := by
  rw [allAtoms_all]
  show words1.all (fun c => c.before args0 about1) = true
  refine all_split ?_ w_codes
  rw [← List.take_append_drop 24 words1, List.all_append, w_t1, ← List.take_append_drop 24 (words1.drop 24), List.all_append, w_t2, ← List.take_append_drop 24 ((words1.drop 24).drop 24), List.all_append, w_t3, ← List.take_append_drop 24 (((words1.drop 24).drop 24).drop 24), List.all_append, w_t4, ← List.take_append_drop 24 ((((words1.drop 24).drop 24).drop 24).drop 24), List.all_append, w_t5, ← List.take_append_drop 24 (((((words1.drop 24).drop 24).drop 24).drop 24).drop 24), List.all_append, w_t6, ← List.take_append_drop 24 ((((((words1.drop 24).drop 24).drop 24).drop 24).drop 24).drop 24), List.all_append, w_t7, ← List.take_append_drop 24 (((((((words1.drop 24).drop 24).drop 24).drop 24).drop 24).drop 24).drop 24), List.all_append, w_t8, w_t9]
  rfl
set_option maxRecDepth 65536 in
theorem w_rest : rest_1_c.before args0 about1 = true := by decide +kernel
set_option maxRecDepth 65536 in
theorem w_case : (Jvm.Cond.and given_1 narrow_1).before args0 about1 = true := by decide +kernel
set_option maxRecDepth 65536 in
theorem w_consts : constsHeld consts_1 about1 := Jvm.Lit.constsHeldB_iff.mp (by decide +kernel)
theorem w_applies : (headSpec (Jvm.Cond.code x code maxLocals ret :: tables_1) room_1).applies x e0.platform about1 = true :=
  (Spec.applies_iff w_frames).mpr ⟨w_running, w_runnable, w_alone, w_named, w_hears, w_ripe, w_room, w_tables⟩
theorem atStart : AtStart classFile x code maxLocals ret World_1 tables_1 room_1 Calls_1 rest_1 Pre_1 launch0 p0 e0 about1 theMethod args0 below0 :=
  ⟨lists_1, trivial, launch0.admits_env _ _ _, launch0.least_env, fairChoices_fair.cas, fairChoices_fair.clock, w_frames, w_args, w_heap, w_applies, ⟨w_consts, trivial⟩, w_rest, w_case⟩
end start1
theorem witness_1 : WitnessClaimed_1 := ⟨start1.p0, start1.e0, start1.about1, start1.theMethod, start1.args0, start1.below0, start1.atStart⟩
end Jvm.Pilot.@@N@@
