import JvmDerived
import JvmDerived.Pilot.@@N@@Statement
import JvmDerived.Pilot.@@N@@Code
set_option linter.unusedVariables false
set_option linter.unusedSimpArgs false
/- laws to paste: Road.lenW, Road.codOf, pair_says, lo8_mask (cut by pick.py; bodies as the Statement names them) -/
namespace Jvm.Pilot.@@N@@
namespace StrChars
open Jvm Sem ClassFile Op Lib Jvm.Stand Jvm.Free.XT Jvm.Free.ALB Jvm.Free.JM Jvm.Free
open Jvm.Lib.Cold (StaticIs)
/-- a char array whose places are chars -/
def Ch (a : Addr) (A : Cell) (U : State) : Prop := Arr .char a A U ∧ Typed .char A
theorem Ch.mv {a : Addr} {A : Cell} {U U' : State} (h : Ch a A U) (hal : U.vm.Alike U'.vm) (hh : U'.heap = U.heap) : Ch a A U' := ⟨h.1.mv hal hh, h.2⟩
theorem Ch.keep {a : Addr} {A : Cell} {U U' : State} (h : Ch a A U) (hal : U.vm.Alike U'.vm) (hk : U'.heap[a]? = some A) : Ch a A U' := ⟨h.1.keep hal hk, h.2⟩
/-- what place i of a char[]'s cell holds -/
def cv (A : Cell) (i : Nat) : Int32 := match A.slots[i]? with | some (.int x) => x | _ => 0
theorem Ch.get {a : Addr} {A : Cell} {U : State} (h : Ch a A U) {i : Nat} (hi : i < A.slots.size) : A.slots[i]? = some (.int (cv A i)) := by
  have e := Array.getElem?_eq_getElem hi
  have f := h.2 i _ e
  unfold cv; rw [e]
  generalize A.slots[i] = v at f
  cases v <;> simp [fits] at f ⊢
/-- the byte that i2b leaves of a char -/
def lo8 (x : Int32) : Int32 := x.toInt8.toInt32
theorem fits_lo8 (y : Int32) : fits .byte (.int (lo8 y)) = true := by
  have h1 := y.toInt8.le_toInt
  have h2 := y.toInt8.toInt_lt
  simp only [lo8, fits, Bool.and_eq_true, decide_eq_true_eq, Int32.le_iff_toInt_le, Int8.toInt_toInt32, show (-128 : Int32).toInt = -128 from by decide, show (127 : Int32).toInt = 127 from by decide]
  omega
/-- A' is A but that each place j of lo .. hi - 1 holds f j -/
def Laid (A A' : Cell) (lo hi : Nat) (f : Nat → Value) : Prop := A'.cls = A.cls ∧ A'.vm = A.vm ∧ A'.slots.size = A.slots.size ∧ ∀ i, A'.slots[i]? = if lo ≤ i ∧ i < hi then some (f i) else A.slots[i]?
theorem Laid.zero (A : Cell) (lo : Nat) (f : Nat → Value) : Laid A A lo (lo + 0) f := ⟨rfl, rfl, rfl, fun i => by rw [if_neg (by omega)]⟩
theorem Laid.step {A Ak : Cell} {lo k : Nat} {f : Nat → Value} {v : Value} (h : Laid A Ak lo k f) (hlo : lo ≤ k) (hk : k < Ak.slots.size) (hv : v = f k) : Laid A (Ak.setSlot k v) lo (k + 1) f := by
  refine ⟨h.1, h.2.1, by simpa [Cell.setSlot] using h.2.2.1, fun i => ?_⟩
  by_cases e : k = i
  · subst e; rw [Cell.slots_setSlot_self v hk, if_pos (by omega), hv]
  · rw [Cell.slots_setSlot_ne v e, h.2.2.2 i]
    by_cases q : lo ≤ i ∧ i < k
    · rw [if_pos q, if_pos (by omega)]
    · rw [if_neg q, if_neg (by omega)]
def U16 : String := "java/lang/StringUTF16"
namespace Cmp5
def yN : MethodName := ⟨"java/lang/StringUTF16", "compress", "([CI[BII)I"⟩
abbrev yB : ByteArray := jdk_52_method_21_code
theorem d0 : decode yB 0 = .ok (.iconst 0, 1) := by decide +kernel
theorem d1 : decode yB 1 = .ok (.istore 5, 2) := by decide +kernel
theorem d3 : decode yB 3 = .ok (.iload 5, 2) := by decide +kernel
theorem d5 : decode yB 5 = .ok (.iload 4, 2) := by decide +kernel
theorem d7 : decode yB 7 = .ok (.if_icmp (.ge) 37, 3) := by decide +kernel
theorem d10 : decode yB 10 = .ok (.aload_n 0, 1) := by decide +kernel
theorem d11 : decode yB 11 = .ok (.iload_n 1, 1) := by decide +kernel
theorem d12 : decode yB 12 = .ok (.caload, 1) := by decide +kernel
theorem d13 : decode yB 13 = .ok (.istore 6, 2) := by decide +kernel
theorem d15 : decode yB 15 = .ok (.iload 6, 2) := by decide +kernel
theorem d17 : decode yB 17 = .ok (.sipush 255, 3) := by decide +kernel
theorem d20 : decode yB 20 = .ok (.if_icmp (.le) 6, 3) := by decide +kernel
theorem d26 : decode yB 26 = .ok (.aload_n 2, 1) := by decide +kernel
theorem d27 : decode yB 27 = .ok (.iload_n 3, 1) := by decide +kernel
theorem d28 : decode yB 28 = .ok (.iload 6, 2) := by decide +kernel
theorem d30 : decode yB 30 = .ok (.i2b, 1) := by decide +kernel
theorem d31 : decode yB 31 = .ok (.bastore, 1) := by decide +kernel
theorem d32 : decode yB 32 = .ok (.iinc 1 1, 3) := by decide +kernel
theorem d35 : decode yB 35 = .ok (.iinc 3 1, 3) := by decide +kernel
theorem d38 : decode yB 38 = .ok (.iinc 5 1, 3) := by decide +kernel
theorem d41 : decode yB 41 = .ok (.goto (-38), 3) := by decide +kernel
theorem d44 : decode yB 44 = .ok (.iload 4, 2) := by decide +kernel
theorem d46 : decode yB 46 = .ok (.ireturn, 1) := by decide +kernel
def site : List Cond := []
def tab : Cond := tabOf yN yB 7 (some .int) site
def P (b : Addr) (A : Cell) (d : Addr) (B : Cell) (o q len : Nat) (args : Array Value) (s : State) : Prop := args = #[.ref b, .int (Int32.ofNat o), .ref d, .int (Int32.ofNat q), .int (Int32.ofNat len)] ∧ Ch b A s ∧ Arr .byte d B s ∧ b ≠ d ∧ o + len ≤ A.slots.size ∧ q + len ≤ B.slots.size ∧ ∀ i, i < len → ¬ 255 < cv A (o + i)
def E (b : Addr) (A : Cell) (d : Addr) (B : Cell) (o q len : Nat) (r : Option Value) (s u : State) : Prop := r = some (.int (Int32.ofNat len)) ∧ ∃ B', Put d B' s u ∧ Laid B B' q (q + len) (fun j => Value.int (lo8 (cv A (o + (j - q)))))
/-- no char of the range above 255: len; the places written hold each char's low byte -/
theorem law (l : Launch) (b : Addr) (A : Cell) (d : Addr) (B : Cell) (o q len : Nat) : Law l yN 5 5 0 0 yB 7 (some .int) site (P b A d B o q len) (E b A d B o q len) (copyLocs d q len) 0 0 := by
  refine Law.of_walk (plainFor_of_name (by decide +kernel)) (by decide +kernel) (by decide +kernel) (by decide) (fun _ _ h => by rw [h.1]; rfl) (fun _ U U' hal hh h => ⟨h.1, h.2.1.mv hal hh, h.2.2.1.mv hal hh, h.2.2.2⟩) (fun r U U' V V' h1 hal h2 h => ⟨h.1, h.2.elim fun B' q => ⟨B', q.1.mv h1 h2, q.2⟩⟩) ?_
  intro p e s m args below meth c s₁ X0 hexec hbytes hml hret hlk hnm hown hh0 W hP
  obtain ⟨rfl, hA, hB, hne, l1, l2, hp⟩ := hP
  have c1 : Steps p.tables e below (s₁.setTop (entryFrame m #[.ref b, .int (Int32.ofNat o), .ref d, .int (Int32.ofNat q), .int (Int32.ofNat len)] 7)) (s₁.setTop (mkF m 0 #[.val (.ref b), .val (.int (Int32.ofNat o)), .val (.ref d), .val (.int (Int32.ofNat q)), .val (.int (Int32.ofNat len)), .unset, .unset] [])) := entry rfl
  have hA0 := hA.1.mv X0.warmed.alike hh0
  have hB0 := hB.mv X0.warmed.alike hh0
  have a31 := hA.1.2.2.2
  have c2 : Steps p.tables e below (s₁.setTop (entryFrame m #[.ref b, .int (Int32.ofNat o), .ref d, .int (Int32.ofNat q), .int (Int32.ofNat len)] 7)) (s₁.setTop (mkF m 3 #[.val (.ref b), .val (.int (Int32.ofNat o)), .val (.ref d), .val (.int (Int32.ofNat q)), .val (.int (Int32.ofNat len)), .val (.int 0), .unset] [])) := c1.trans (by
    refine iconstV X0.here hexec rfl 0 (hb hbytes d0) (by decide) ?_
    refine XS.istore X0.here hexec rfl (hb hbytes d1) rfl rfl ?_
    exact Steps.refl _)
  have loop : ∀ (r i : Nat), i + r = len → ∀ (z : Slot), (z = .unset ∨ ∃ w, z = .val w ∧ w.category = 1) → ∀ (Tl : State) (Bk : Cell), Stand p l e { frames := 0, locals := 0, cells := 0, slots := 0 } s m #[.ref b, .int (Int32.ofNat o), .ref d, .int (Int32.ofNat q), .int (Int32.ofNat len)] below meth c Tl ([] ++ copyLocs d q i) 0 0 → Put d Bk s₁ Tl → Laid B Bk q (q + i) (fun j => Value.int (lo8 (cv A (o + (j - q))))) →
      Steps p.tables e below (s₁.setTop (entryFrame m #[.ref b, .int (Int32.ofNat o), .ref d, .int (Int32.ofNat q), .int (Int32.ofNat len)] 7)) (Tl.setTop (mkF m 3 #[.val (.ref b), .val (.int (Int32.ofNat (o + i))), .val (.ref d), .val (.int (Int32.ofNat (q + i))), .val (.int (Int32.ofNat len)), .val (.int (Int32.ofNat i)), z] [])) → ∃ (T' : State) (B' : Cell) (z' : Slot), Stand p l e { frames := 0, locals := 0, cells := 0, slots := 0 } s m #[.ref b, .int (Int32.ofNat o), .ref d, .int (Int32.ofNat q), .int (Int32.ofNat len)] below meth c T' ([] ++ copyLocs d q len) 0 0 ∧ Put d B' s₁ T' ∧ Laid B B' q (q + len) (fun j => Value.int (lo8 (cv A (o + (j - q))))) ∧
      Steps p.tables e below (s₁.setTop (entryFrame m #[.ref b, .int (Int32.ofNat o), .ref d, .int (Int32.ofNat q), .int (Int32.ofNat len)] 7)) (T'.setTop (mkF m 3 #[.val (.ref b), .val (.int (Int32.ofNat (o + len))), .val (.ref d), .val (.int (Int32.ofNat (q + len))), .val (.int (Int32.ofNat len)), .val (.int (Int32.ofNat len)), z'] [])) := by
    intro r
    induction r with
    | zero =>
      intro i hi z hz Tl Bk Xl pl fl cl
      have hil : i = len := by omega
      rw [hil] at Xl fl cl
      exact ⟨Tl, Bk, z, Xl, pl, fl, cl⟩
    | succ r ih =>
      intro i hi z hz Tl Bk Xl pl fl cl
      have all := X0.warmed.alike.symm.trans Xl.warmed.alike
      have hAl := hA0.keep all (pl.other hne hA0.1)
      have hBk := hB0.like all pl.1 fl.1 fl.2.1 fl.2.2.1
      have hlt : q + i < Bk.slots.size := by rw [fl.2.2.1]; omega
      have c3 : Steps p.tables e below (s₁.setTop (entryFrame m #[.ref b, .int (Int32.ofNat o), .ref d, .int (Int32.ofNat q), .int (Int32.ofNat len)] 7)) (Tl.setTop (mkF m 12 #[.val (.ref b), .val (.int (Int32.ofNat (o + i))), .val (.ref d), .val (.int (Int32.ofNat (q + i))), .val (.int (Int32.ofNat len)), .val (.int (Int32.ofNat i)), z] [.int (Int32.ofNat (o + i)), .ref b])) := cl.trans (by
        refine XS.iload Xl.here hexec rfl (hb hbytes d3) rfl ?_
        refine XS.iload Xl.here hexec rfl (hb hbytes d5) rfl ?_
        refine XS.icmpNo Xl.here hexec rfl (hb hbytes d7) rfl (ii_ge_f (lt32 (by omega) (by omega))) ?_
        refine XS.aloadN Xl.here hexec rfl (hb hbytes d10) rfl rfl ?_
        refine XS.iloadN Xl.here hexec rfl (hb hbytes d11) rfl ?_
        exact Steps.refl _)
      have c4 : Steps p.tables e below (s₁.setTop (entryFrame m #[.ref b, .int (Int32.ofNat o), .ref d, .int (Int32.ofNat q), .int (Int32.ofNat len)] 7)) (Tl.setTop (mkF m 13 #[.val (.ref b), .val (.int (Int32.ofNat (o + i))), .val (.ref d), .val (.int (Int32.ofNat (q + i))), .val (.int (Int32.ofNat len)), .val (.int (Int32.ofNat i)), z] [.int (cv A (o + i))])) := c3.trans (by
        refine Xl.aget hexec hAl rfl (hA.get (i := o + i) (by omega)) rfl rfl (hb hbytes d12) ?_
        exact Steps.refl _)
      have c5 : Steps p.tables e below (s₁.setTop (entryFrame m #[.ref b, .int (Int32.ofNat o), .ref d, .int (Int32.ofNat q), .int (Int32.ofNat len)] 7)) (Tl.setTop (mkF m 15 #[.val (.ref b), .val (.int (Int32.ofNat (o + i))), .val (.ref d), .val (.int (Int32.ofNat (q + i))), .val (.int (Int32.ofNat len)), .val (.int (Int32.ofNat i)), .val (.int (cv A (o + i)))] [])) := c4.trans (by
        refine XS.istoreS Xl.here hexec rfl (hb hbytes d13) rfl rfl hz ?_
        exact Steps.refl _)
      have c6 : Steps p.tables e below (s₁.setTop (entryFrame m #[.ref b, .int (Int32.ofNat o), .ref d, .int (Int32.ofNat q), .int (Int32.ofNat len)] 7)) (Tl.setTop (mkF m 31 #[.val (.ref b), .val (.int (Int32.ofNat (o + i))), .val (.ref d), .val (.int (Int32.ofNat (q + i))), .val (.int (Int32.ofNat len)), .val (.int (Int32.ofNat i)), .val (.int (cv A (o + i)))] [.int (lo8 (cv A (o + i))), .int (Int32.ofNat (q + i)), .ref d])) := c5.trans (by
        refine XS.iload Xl.here hexec rfl (hb hbytes d15) rfl ?_
        refine sipushV Xl.here hexec rfl 255 (hb hbytes d17) (by decide) ?_
        refine XS.icmpYes Xl.here hexec rfl (pc0 := 20) rfl (hb hbytes d20) rfl (ii_le_t (hp i (by omega))) (by decide) rfl ?_
        refine XS.aloadN Xl.here hexec rfl (hb hbytes d26) rfl rfl ?_
        refine XS.iloadN Xl.here hexec rfl (hb hbytes d27) rfl ?_
        refine XS.iload Xl.here hexec rfl (hb hbytes d28) rfl ?_
        refine i2b Xl.here hexec rfl (hb hbytes d30) rfl ?_
        exact Steps.refl _)
      obtain ⟨T7, X7, p7, st7⟩ := Xl.aput hexec hBk rfl hlt rfl (fits_lo8 (cv A (o + i))) (g := (mkF m 31 #[.val (.ref b), .val (.int (Int32.ofNat (o + i))), .val (.ref d), .val (.int (Int32.ofNat (q + i))), .val (.int (Int32.ofNat len)), .val (.int (Int32.ofNat i)), .val (.int (cv A (o + i)))] [.int (lo8 (cv A (o + i))), .int (Int32.ofNat (q + i)), .ref d])) rfl (rest := []) rfl (hb hbytes d31)
      have c8 : Steps p.tables e below (s₁.setTop (entryFrame m #[.ref b, .int (Int32.ofNat o), .ref d, .int (Int32.ofNat q), .int (Int32.ofNat len)] 7)) (T7.setTop (mkF m 32 #[.val (.ref b), .val (.int (Int32.ofNat (o + i))), .val (.ref d), .val (.int (Int32.ofNat (q + i))), .val (.int (Int32.ofNat len)), .val (.int (Int32.ofNat i)), .val (.int (cv A (o + i)))] [])) := c6.trans (st7 _ (Steps.refl _))
      have c9 : Steps p.tables e below (s₁.setTop (entryFrame m #[.ref b, .int (Int32.ofNat o), .ref d, .int (Int32.ofNat q), .int (Int32.ofNat len)] 7)) (T7.setTop (mkF m 3 #[.val (.ref b), .val (.int (Int32.ofNat (o + i) + 1)), .val (.ref d), .val (.int (Int32.ofNat (q + i) + 1)), .val (.int (Int32.ofNat len)), .val (.int (Int32.ofNat i + 1)), .val (.int (cv A (o + i)))] [])) := c8.trans (by
        refine iincV X7.here hexec rfl 1 (hb hbytes d32) (by decide) rfl rfl ?_
        refine iincV X7.here hexec rfl 1 (hb hbytes d35) (by decide) rfl rfl ?_
        refine iincV X7.here hexec rfl 1 (hb hbytes d38) (by decide) rfl rfl ?_
        refine XS.goto X7.here hexec rfl (pc0 := 41) rfl (hb hbytes d41) (by decide) rfl ?_
        exact Steps.refl _)
      have c10 : Steps p.tables e below (s₁.setTop (entryFrame m #[.ref b, .int (Int32.ofNat o), .ref d, .int (Int32.ofNat q), .int (Int32.ofNat len)] 7)) (T7.setTop (mkF m 3 #[.val (.ref b), .val (.int (Int32.ofNat (o + (i + 1)))), .val (.ref d), .val (.int (Int32.ofNat (q + (i + 1)))), .val (.int (Int32.ofNat len)), .val (.int (Int32.ofNat (i + 1))), .val (.int (cv A (o + i)))] [])) := by
        have := c9
        rw [succ32, succ32, succ32] at this
        exact this
      exact ih (i + 1) (by omega) _ (Or.inr ⟨_, rfl, rfl⟩) T7 _ (by rw [copyLocs_step, ← List.append_assoc]; exact X7) (pl.trans p7) (fl.step (by omega) hlt (by simp)) c10
  obtain ⟨T9, B9, z9, X9, p9, f9, g9⟩ := loop len 0 (by omega) .unset (Or.inl rfl) s₁ B (by simpa [copyLocs] using X0) ⟨hB0.1, fun _ _ => rfl, rfl⟩ (Laid.zero _ _ _) c2
  have c11 : Steps p.tables e below (s₁.setTop (entryFrame m #[.ref b, .int (Int32.ofNat o), .ref d, .int (Int32.ofNat q), .int (Int32.ofNat len)] 7)) (T9.setTop (mkF m 46 #[.val (.ref b), .val (.int (Int32.ofNat (o + len))), .val (.ref d), .val (.int (Int32.ofNat (q + len))), .val (.int (Int32.ofNat len)), .val (.int (Int32.ofNat len)), z9] [.int (Int32.ofNat len)])) := g9.trans (by
    refine XS.iload X9.here hexec rfl (hb hbytes d3) rfl ?_
    refine XS.iload X9.here hexec rfl (hb hbytes d5) rfl ?_
    refine XS.icmpYes X9.here hexec rfl (pc0 := 7) rfl (hb hbytes d7) rfl (ii_ge_t (nlt32 (by omega) (Nat.le_refl _))) (by decide) rfl ?_
    refine XS.iload X9.here hexec rfl (hb hbytes d44) rfl ?_
    exact Steps.refl _)
  exact ⟨T9, some (.int (Int32.ofNat len)), _, _, _, X9, by simp, rfl, rfl, (fun h => by cases h), ⟨rfl, B9, p9.from hh0, f9⟩, fun fs hl => c11.trans (X9.ireturnOut hexec hret rfl (Or.inl rfl) (hb hbytes d46) hl)⟩
end Cmp5
namespace Cmp3
def yN : MethodName := ⟨"java/lang/StringUTF16", "compress", "([CII)[B"⟩
abbrev yB : ByteArray := jdk_52_method_16_code
theorem d0 : decode yB 0 = .ok (.iload_n 2, 1) := by decide +kernel
theorem d1 : decode yB 1 = .ok (.newarray .byte, 2) := by decide +kernel
theorem d3 : decode yB 3 = .ok (.astore_n 3, 1) := by decide +kernel
theorem d4 : decode yB 4 = .ok (.aload_n 0, 1) := by decide +kernel
theorem d5 : decode yB 5 = .ok (.iload_n 1, 1) := by decide +kernel
theorem d6 : decode yB 6 = .ok (.aload_n 3, 1) := by decide +kernel
theorem d7 : decode yB 7 = .ok (.iconst 0, 1) := by decide +kernel
theorem d8 : decode yB 8 = .ok (.iload_n 2, 1) := by decide +kernel
theorem d9 : decode yB 9 = .ok (.invokestatic 115, 3) := by decide +kernel
theorem d12 : decode yB 12 = .ok (.istore 4, 2) := by decide +kernel
theorem d14 : decode yB 14 = .ok (.iload 4, 2) := by decide +kernel
theorem d16 : decode yB 16 = .ok (.iload_n 2, 1) := by decide +kernel
theorem d17 : decode yB 17 = .ok (.if_icmp (.eq) 40, 3) := by decide +kernel
theorem d57 : decode yB 57 = .ok (.aload_n 3, 1) := by decide +kernel
theorem d58 : decode yB 58 = .ok (.areturn, 1) := by decide +kernel
def site : List Cond := [.arrayClass .byte, Cmp5.tab] ++ staticW U16 115 Cmp5.yN
def tab : Cond := tabOf yN yB 6 (some (.array .byte)) site
def P (b : Addr) (A : Cell) (o len : Nat) (args : Array Value) (s : State) : Prop := args = #[.ref b, .int (Int32.ofNat o), .int (Int32.ofNat len)] ∧ Ch b A s ∧ o + len ≤ A.slots.size ∧ len ≤ 536870912 ∧ ∀ i, i < len → ¬ 255 < cv A (o + i)
def E (b : Addr) (A : Cell) (o len : Nat) (r : Option Value) (s u : State) : Prop := NewArr .byte "[B" len (fun j => .int (lo8 (cv A (o + j)))) r s u ∧ u.heap.size = s.heap.size + 1
/-- no char of the range above 255: a new byte[] of their low bytes -/
theorem law (l : Launch) (b : Addr) (A : Cell) (o len : Nat) : Law l yN 3 3 1 18 yB 6 (some (.array .byte)) site (P b A o len) (E b A o len) [] 1 len := by
  refine Law.of_walk (plainFor_of_name (by decide +kernel)) (by decide +kernel) (by decide +kernel) (by decide) (fun _ _ h => by rw [h.1]; rfl) (fun _ U U' hal hh h => ⟨h.1, h.2.1.mv hal hh, h.2.2⟩) (fun r U U' V V' h1 hal h2 h => ⟨NewArr.mv r U U' V V' h1 hal h2 h.1, by rw [h1, h2]; exact h.2⟩) ?_
  intro p e s m args below meth c s₁ X0 hexec hbytes hml hret hlk hnm hown hh0 W hP
  obtain ⟨rfl, hA, l1, l2, hp⟩ := hP
  have a31 := hA.1.2.2.2
  have c1 : Steps p.tables e below (s₁.setTop (entryFrame m #[.ref b, .int (Int32.ofNat o), .int (Int32.ofNat len)] 6)) (s₁.setTop (mkF m 0 #[.val (.ref b), .val (.int (Int32.ofNat o)), .val (.int (Int32.ofNat len)), .unset, .unset, .unset] [])) := entry rfl
  have c2 : Steps p.tables e below (s₁.setTop (entryFrame m #[.ref b, .int (Int32.ofNat o), .int (Int32.ofNat len)] 6)) (s₁.setTop (mkF m 1 #[.val (.ref b), .val (.int (Int32.ofNat o)), .val (.int (Int32.ofNat len)), .unset, .unset, .unset] [.int (Int32.ofNat len)])) := c1.trans (by
    refine XS.iloadN X0.here hexec rfl (hb hbytes d0) rfl ?_
    exact Steps.refl _)
  obtain ⟨T3, B3, X3, ba3, bs3, bv3, bh3, bf3, st3⟩ := X0.anew hexec (atype := .byte) (wk W (.arrayClass .byte)) rfl (by show len * 1 ≤ _; omega) (by omega) (g := (mkF m 1 #[.val (.ref b), .val (.int (Int32.ofNat o)), .val (.int (Int32.ofNat len)), .unset, .unset, .unset] [.int (Int32.ofNat len)])) rfl (hb hbytes d1) (rest := []) rfl (Nat.le_refl _) (by show 0 + len ≤ len; omega)
  rw [hh0] at ba3 st3
  have kp3 : XT.Kept s T3 := (XT.Kept.of_eq hh0).push bh3
  have hA3 := hA.keep X3.warmed.alike (kp3 _ _ hA.1.1)
  have hne : b ≠ s.heap.size := hA.1.ne
  have c4 : Steps p.tables e below (s₁.setTop (entryFrame m #[.ref b, .int (Int32.ofNat o), .int (Int32.ofNat len)] 6)) (T3.setTop (mkF m 3 #[.val (.ref b), .val (.int (Int32.ofNat o)), .val (.int (Int32.ofNat len)), .unset, .unset, .unset] [.ref s.heap.size])) := c2.trans (st3 _ (Steps.refl _))
  have c5 : Steps p.tables e below (s₁.setTop (entryFrame m #[.ref b, .int (Int32.ofNat o), .int (Int32.ofNat len)] 6)) (T3.setTop (mkF m 9 #[.val (.ref b), .val (.int (Int32.ofNat o)), .val (.int (Int32.ofNat len)), .val (.ref s.heap.size), .unset, .unset] [.int (Int32.ofNat len), .int 0, .ref s.heap.size, .int (Int32.ofNat o), .ref b])) := c4.trans (by
    refine XS.astoreN X3.here hexec rfl (hb hbytes d3) rfl rfl rfl ?_
    refine XS.aloadN X3.here hexec rfl (hb hbytes d4) rfl rfl ?_
    refine XS.iloadN X3.here hexec rfl (hb hbytes d5) rfl ?_
    refine XS.aloadN X3.here hexec rfl (hb hbytes d6) rfl rfl ?_
    refine iconstV X3.here hexec rfl 0 (hb hbytes d7) (by decide) ?_
    refine XS.iloadN X3.here hexec rfl (hb hbytes d8) rfl ?_
    exact Steps.refl _)
  obtain ⟨v6, T6, X6, E6, g6⟩ := X3.callS hexec (Cmp5.law l b A s.heap.size B3 o 0 len) hown (wks W (staticW U16 115 Cmp5.yN)) (wk W Cmp5.tab) (W := 0) (Nat.le_of_ble_eq_true rfl) (Nat.le_of_ble_eq_true rfl) (Nat.le_refl _) (by show 0 + len + 0 ≤ len; omega) (g := (mkF m 9 #[.val (.ref b), .val (.int (Int32.ofNat o)), .val (.int (Int32.ofNat len)), .val (.ref s.heap.size), .unset, .unset] [.int (Int32.ofNat len), .int (Int32.ofNat 0), .ref s.heap.size, .int (Int32.ofNat o), .ref b])) rfl (by rw [hml]; rfl) c5 (argsL := [.ref b, .int (Int32.ofNat o), .ref s.heap.size, .int (Int32.ofNat 0), .int (Int32.ofNat len)]) (rest := []) rfl rfl (by show 2 * 0 + 0 ≤ _; decide) (hb hbytes d9) (⟨rfl, hA3, ba3, hne, l1, by rw [bs3]; simp, hp⟩)
  obtain ⟨rfl, B6, p6, f6⟩ := E6
  have c7 : Steps p.tables e below (s₁.setTop (entryFrame m #[.ref b, .int (Int32.ofNat o), .int (Int32.ofNat len)] 6)) (T6.setTop (mkF m 12 #[.val (.ref b), .val (.int (Int32.ofNat o)), .val (.int (Int32.ofNat len)), .val (.ref s.heap.size), .unset, .unset] [.int (Int32.ofNat len)])) := g6
  have c8 : Steps p.tables e below (s₁.setTop (entryFrame m #[.ref b, .int (Int32.ofNat o), .int (Int32.ofNat len)] 6)) (T6.setTop (mkF m 58 #[.val (.ref b), .val (.int (Int32.ofNat o)), .val (.int (Int32.ofNat len)), .val (.ref s.heap.size), .val (.int (Int32.ofNat len)), .unset] [.ref s.heap.size])) := c7.trans (by
    refine XS.istore X6.here hexec rfl (hb hbytes d12) rfl rfl ?_
    refine XS.iload X6.here hexec rfl (hb hbytes d14) rfl ?_
    refine XS.iloadN X6.here hexec rfl (hb hbytes d16) rfl ?_
    refine XS.icmpYes X6.here hexec rfl (pc0 := 17) rfl (hb hbytes d17) rfl (ii_eq_t rfl) (by decide) rfl ?_
    refine XS.aloadN X6.here hexec rfl (hb hbytes d57) rfl rfl ?_
    exact Steps.refl _)
  have X8 := X6.wide (L' := []) (cells' := 1) (slots' := len) (fun x hx hlt => by
    simp only [List.nil_append, copyLocs, List.mem_map, List.mem_range] at hx
    obtain ⟨i, -, rfl⟩ := hx
    exact absurd hlt (Nat.lt_irrefl _)) (Nat.le_refl _) (by omega)
  exact ⟨T6, some (.ref s.heap.size), _, _, _, X8, rfl, rfl, rfl, (fun h => by cases h), ⟨⟨rfl, B6, ba3.like (X3.warmed.alike.symm.trans X6.warmed.alike) p6.1 f6.1 f6.2.1 f6.2.2.1, f6.2.1.trans bv3, by rw [X6.warmed.alike.findClass, f6.1]; exact bf3, by rw [f6.2.2.1, bs3]; simp, fun j hj => by rw [f6.2.2.2 j, if_pos (by omega)]; rfl, kp3.put p6 (Nat.le_refl _)⟩, by rw [p6.2.2, bh3, hh0]; simp⟩, fun fs hl => c8.trans (X8.areturnOut hexec rfl hret rfl (hb hbytes d58) hl)⟩
end Cmp3
namespace CodL
def yN : MethodName := ⟨"java/lang/StringUTF16", "coderFromArrayLen", "([BI)B"⟩
abbrev yB : ByteArray := jdk_52_method_15_code
theorem d0 : decode yB 0 = .ok (.iload_n 1, 1) := by decide +kernel
theorem d1 : decode yB 1 = .ok (.aload_n 0, 1) := by decide +kernel
theorem d2 : decode yB 2 = .ok (.arraylength, 1) := by decide +kernel
theorem d3 : decode yB 3 = .ok (.isub, 1) := by decide +kernel
theorem d4 : decode yB 4 = .ok (.bipush 31, 2) := by decide +kernel
theorem d6 : decode yB 6 = .ok (.iushr, 1) := by decide +kernel
theorem d7 : decode yB 7 = .ok (.i2b, 1) := by decide +kernel
theorem d8 : decode yB 8 = .ok (.ireturn, 1) := by decide +kernel
def site : List Cond := []
def tab : Cond := tabOf yN yB 2 (some .byte) site
def P (d : Addr) (B : Cell) (args : Array Value) (s : State) : Prop := args = #[.ref d, .int (Int32.ofNat B.slots.size)] ∧ Arr .byte d B s
def E (r : Option Value) (s u : State) : Prop := XT.PureE (some (.int 0)) r s u
/-- an array as long as the number of chars: LATIN1 -/
theorem law (l : Launch) (d : Addr) (B : Cell) : Law l yN 2 2 0 0 yB 2 (some .byte) site (P d B) E [] 0 0 := by
  refine Law.of_walk (plainFor_of_name (by decide +kernel)) (by decide +kernel) (by decide +kernel) (by decide) (fun _ _ h => by rw [h.1]; rfl) (fun _ U U' hal hh h => ⟨h.1, h.2.mv hal hh⟩) (fun r U U' V V' h1 hal h2 h => XT.PureE.mv r U U' V V' h1 hal h2 h) ?_
  intro p e s m args below meth c s₁ X0 hexec hbytes hml hret hlk hnm hown hh0 W hP
  obtain ⟨rfl, hB⟩ := hP
  have hB0 := hB.mv X0.warmed.alike hh0
  have c1 : Steps p.tables e below (s₁.setTop (entryFrame m #[.ref d, .int (Int32.ofNat B.slots.size)] 2)) (s₁.setTop (mkF m 0 #[.val (.ref d), .val (.int (Int32.ofNat B.slots.size))] [])) := entry rfl
  have c2 : Steps p.tables e below (s₁.setTop (entryFrame m #[.ref d, .int (Int32.ofNat B.slots.size)] 2)) (s₁.setTop (mkF m 2 #[.val (.ref d), .val (.int (Int32.ofNat B.slots.size))] [.ref d, .int (Int32.ofNat B.slots.size)])) := c1.trans (by
    refine XS.iloadN X0.here hexec rfl (hb hbytes d0) rfl ?_
    refine XS.aloadN X0.here hexec rfl (hb hbytes d1) rfl rfl ?_
    exact Steps.refl _)
  have c3 : Steps p.tables e below (s₁.setTop (entryFrame m #[.ref d, .int (Int32.ofNat B.slots.size)] 2)) (s₁.setTop (mkF m 8 #[.val (.ref d), .val (.int (Int32.ofNat B.slots.size))] [.int (lo8 (ushr (Int32.ofNat B.slots.size - Int32.ofNat B.slots.size) 31))])) := c2.trans (by
    refine X0.alen hexec hB0 rfl rfl (hb hbytes d2) ?_
    refine XS.isub X0.here hexec rfl (hb hbytes d3) rfl ?_
    refine bipushV X0.here hexec rfl 31 (hb hbytes d4) (by decide) ?_
    refine iushr X0.here hexec rfl (hb hbytes d6) rfl ?_
    refine i2b X0.here hexec rfl (hb hbytes d7) rfl ?_
    exact Steps.refl _)
  have e0 : lo8 (ushr (Int32.ofNat B.slots.size - Int32.ofNat B.slots.size) 31) = 0 := by rw [Int32.sub_self]; decide
  rw [e0] at c3
  exact ⟨s₁, some (.int 0), _, _, _, X0, rfl, rfl, rfl, (fun h => by cases h), ⟨rfl, hh0⟩, fun fs hl => c3.trans (X0.ireturnOut hexec hret rfl (Or.inr (Or.inr (Or.inl rfl))) (hb hbytes d8) hl)⟩
end CodL
/-- the String at a is Latin-1 over a new byte[] (the heap's one new cell): the low bytes of the len chars of A from o on; every cell but a is kept -/
def Got (a : Addr) (D : Cell) (fV fC : Field) (A : Cell) (o len : Nat) (r : Option Value) (s u : State) : Prop := r = none ∧ ∃ D' V : Cell, Blank "java/lang/String" a D' u ∧ Same D D' [fV.slot, fC.slot] ∧ D'.slots[fV.slot]? = some (.ref s.heap.size) ∧ D'.slots[fC.slot]? = some (.int 0) ∧ Arr .byte s.heap.size V u ∧ V.vm = .none ∧ u.vm.findClass "[B" = some V.cls ∧ V.slots.size = len ∧ (∀ j, j < len → V.slots[j]? = some (.int (lo8 (cv A (o + j))))) ∧ (∀ (y : Addr) (c : Cell), y ≠ a → s.heap[y]? = some c → u.heap[y]? = some c) ∧ u.heap.size = s.heap.size + 1
theorem Got.mv {a : Addr} {D A : Cell} {fV fC : Field} {o len : Nat} : ∀ r (U U' V V' : State), U'.heap = U.heap → V.vm.Alike V'.vm → V'.heap = V.heap → Got a D fV fC A o len r U V → Got a D fV fC A o len r U' V' :=
  fun r U U' V V' h1 hal h2 ⟨e0, D', X, a1, a2, a3, a4, a5, a6, a7, a8, a9, a10, a11⟩ => ⟨e0, D', X, a1.mv hal h2, a2, by rw [h1]; exact a3, a4, by rw [h1]; exact a5.mv hal h2, a6, by rw [hal.findClass]; exact a7, a8, a9, by rw [h1, h2]; exact a10, by rw [h1, h2]; exact a11⟩
namespace New4
def yN : MethodName := ⟨"java/lang/String", "<init>", "([CIILjava/lang/Void;)V"⟩
abbrev yB : ByteArray := jdk_42_method_149_code
theorem d0 : decode yB 0 = .ok (.aload_n 0, 1) := by decide +kernel
theorem d1 : decode yB 1 = .ok (.invokespecial 1, 3) := by decide +kernel
theorem d4 : decode yB 4 = .ok (.iload_n 3, 1) := by decide +kernel
theorem d5 : decode yB 5 = .ok (.ifCond (.ne) 22, 3) := by decide +kernel
theorem d27 : decode yB 27 = .ok (.getstatic 38, 3) := by decide +kernel
theorem d30 : decode yB 30 = .ok (.ifCond (.eq) 28, 3) := by decide +kernel
theorem d33 : decode yB 33 = .ok (.aload_n 1, 1) := by decide +kernel
theorem d34 : decode yB 34 = .ok (.iload_n 2, 1) := by decide +kernel
theorem d35 : decode yB 35 = .ok (.iload_n 3, 1) := by decide +kernel
theorem d36 : decode yB 36 = .ok (.invokestatic 177, 3) := by decide +kernel
theorem d39 : decode yB 39 = .ok (.astore 5, 2) := by decide +kernel
theorem d41 : decode yB 41 = .ok (.aload_n 0, 1) := by decide +kernel
theorem d42 : decode yB 42 = .ok (.aload 5, 2) := by decide +kernel
theorem d44 : decode yB 44 = .ok (.iload_n 3, 1) := by decide +kernel
theorem d45 : decode yB 45 = .ok (.invokestatic 47, 3) := by decide +kernel
theorem d48 : decode yB 48 = .ok (.putfield 15, 3) := by decide +kernel
theorem d51 : decode yB 51 = .ok (.aload_n 0, 1) := by decide +kernel
theorem d52 : decode yB 52 = .ok (.aload 5, 2) := by decide +kernel
theorem d54 : decode yB 54 = .ok (.putfield 9, 3) := by decide +kernel
theorem d57 : decode yB 57 = .ok (.return_, 1) := by decide +kernel
def site : List Cond := [.fieldLink "java/lang/String" 38 "java/lang/String" "COMPACT_STRINGS" "Z", Cmp3.tab, CodL.tab, .laysFinal "java/lang/String" "java/lang/String" "value" "[B", .fieldLink "java/lang/String" 9 "java/lang/String" "value" "[B", .laysFinal "java/lang/String" "java/lang/String" "coder" "B", .fieldLink "java/lang/String" 15 "java/lang/String" "coder" "B"] ++ objW "java/lang/String" 1 ++ staticW "java/lang/String" 177 Cmp3.yN ++ staticW "java/lang/String" 47 CodL.yN
def tab : Cond := tabOf yN yB 6 none site
def P (a : Addr) (D : Cell) (fV fC : Field) (b : Addr) (A : Cell) (z : Int32) (o len : Nat) (args : Array Value) (s : State) : Prop := args = #[.ref a, .ref b, .int (Int32.ofNat o), .int (Int32.ofNat len), .null] ∧ Blank "java/lang/String" a D s ∧ Found "java/lang/String" "value" "[B" fV s ∧ Found "java/lang/String" "coder" "B" fC s ∧ Ch b A s ∧ StaticIs s "java/lang/String" "COMPACT_STRINGS" "Z" (.int z) ∧ ¬ z = 0 ∧ 0 < len ∧ o + len ≤ A.slots.size ∧ len ≤ 536870912 ∧ ∀ i, i < len → ¬ 255 < cv A (o + i)
def E (a : Addr) (D : Cell) (fV fC : Field) (A : Cell) (o len : Nat) (r : Option Value) (s u : State) : Prop := Got a D fV fC A o len r s u
/-- len > 0, no char of the range above 255: a Latin-1 String of their low bytes -/
theorem law (l : Launch) (a : Addr) (D : Cell) (fV fC : Field) (b : Addr) (A : Cell) (z : Int32) (o len : Nat) : Law l yN 5 4 2 35 yB 6 none site (P a D fV fC b A z o len) (E a D fV fC A o len) [⟨a, fC.slot⟩, ⟨a, fV.slot⟩] 1 len := by
  refine Law.of_walk (plainFor_of_name (by decide +kernel)) (by decide +kernel) (by decide +kernel) (by decide) (fun _ _ h => by rw [h.1]; rfl) (fun _ U U' hal hh h => ⟨h.1, h.2.1.mv hal hh, h.2.2.1.al hal, h.2.2.2.1.al hal, h.2.2.2.2.1.mv hal hh, h.2.2.2.2.2.1.there hal hh, h.2.2.2.2.2.2⟩) (fun r U U' V V' h1 hal h2 h => Got.mv r U U' V V' h1 hal h2 h) ?_
  intro p e s m args below meth c s₁ X0 hexec hbytes hml hret hlk hnm hown hh0 W hP
  obtain ⟨rfl, hB, f1, f2, hA, s1, hz, l0, l1, l2, hp⟩ := hP
  have a31 := hA.1.2.2.2
  have c1 : Steps p.tables e below (s₁.setTop (entryFrame m #[.ref a, .ref b, .int (Int32.ofNat o), .int (Int32.ofNat len), .null] 6)) (s₁.setTop (mkF m 0 #[.val (.ref a), .val (.ref b), .val (.int (Int32.ofNat o)), .val (.int (Int32.ofNat len)), .val .null, .unset] [])) := entry rfl
  have c2 : Steps p.tables e below (s₁.setTop (entryFrame m #[.ref a, .ref b, .int (Int32.ofNat o), .int (Int32.ofNat len), .null] 6)) (s₁.setTop (mkF m 1 #[.val (.ref a), .val (.ref b), .val (.int (Int32.ofNat o)), .val (.int (Int32.ofNat len)), .val .null, .unset] [.ref a])) := c1.trans (by
    refine XS.aloadN X0.here hexec rfl (hb hbytes d0) rfl rfl ?_
    exact Steps.refl _)
  obtain ⟨T3, X3, q3, st3⟩ := X0.oinit hexec hown (wks W (objW "java/lang/String" 1)) (g := (mkF m 1 #[.val (.ref a), .val (.ref b), .val (.int (Int32.ofNat o)), .val (.int (Int32.ofNat len)), .val .null, .unset] [.ref a])) rfl (by rw [hml]; rfl) (rest := []) rfl (hb hbytes d1) (W := 0) (by show 2 * 0 + 0 ≤ _; decide) (Nat.le_of_ble_eq_true rfl) (Nat.le_of_ble_eq_true rfl)
  have hh3 := q3.trans hh0
  have c4 : Steps p.tables e below (s₁.setTop (entryFrame m #[.ref a, .ref b, .int (Int32.ofNat o), .int (Int32.ofNat len), .null] 6)) (T3.setTop (mkF m 27 #[.val (.ref a), .val (.ref b), .val (.int (Int32.ofNat o)), .val (.int (Int32.ofNat len)), .val .null, .unset] [])) := (c2.trans (st3 _ (Steps.refl _))).trans (by
    refine XS.iloadN X3.here hexec rfl (hb hbytes d4) rfl ?_
    refine XS.ifYes X3.here hexec rfl (pc0 := 5) rfl (hb hbytes d5) rfl (i0_ne_t (nz32 (by omega) l0)) (by decide) rfl ?_
    exact Steps.refl _)
  obtain ⟨T5, X5, q5, st5⟩ := X3.sget hexec hown (wk W (.fieldLink "java/lang/String" 38 "java/lang/String" "COMPACT_STRINGS" "Z")) s1 (fun _ _ h => by rw [hh3]; exact h) (g := (mkF m 27 #[.val (.ref a), .val (.ref b), .val (.int (Int32.ofNat o)), .val (.int (Int32.ofNat len)), .val .null, .unset] [])) rfl (hb hbytes d27)
  have hh5 := q5.trans hh3
  have c6 : Steps p.tables e below (s₁.setTop (entryFrame m #[.ref a, .ref b, .int (Int32.ofNat o), .int (Int32.ofNat len), .null] 6)) (T5.setTop (mkF m 30 #[.val (.ref a), .val (.ref b), .val (.int (Int32.ofNat o)), .val (.int (Int32.ofNat len)), .val .null, .unset] [.int z])) := c4.trans (st5 _ (Steps.refl _))
  have c7 : Steps p.tables e below (s₁.setTop (entryFrame m #[.ref a, .ref b, .int (Int32.ofNat o), .int (Int32.ofNat len), .null] 6)) (T5.setTop (mkF m 36 #[.val (.ref a), .val (.ref b), .val (.int (Int32.ofNat o)), .val (.int (Int32.ofNat len)), .val .null, .unset] [.int (Int32.ofNat len), .int (Int32.ofNat o), .ref b])) := c6.trans (by
    refine XS.ifNo X5.here hexec rfl (hb hbytes d30) rfl (i0_eq_f hz) ?_
    refine XS.aloadN X5.here hexec rfl (hb hbytes d33) rfl rfl ?_
    refine XS.iloadN X5.here hexec rfl (hb hbytes d34) rfl ?_
    refine XS.iloadN X5.here hexec rfl (hb hbytes d35) rfl ?_
    exact Steps.refl _)
  obtain ⟨v8, T8, X8, E8, g8⟩ := X5.callS hexec (Cmp3.law l b A o len) hown (wks W (staticW "java/lang/String" 177 Cmp3.yN)) (wk W Cmp3.tab) (W := 0) (Nat.le_of_ble_eq_true rfl) (Nat.le_of_ble_eq_true rfl) (Nat.le_refl _) (by show 0 + len ≤ len; omega) (g := (mkF m 36 #[.val (.ref a), .val (.ref b), .val (.int (Int32.ofNat o)), .val (.int (Int32.ofNat len)), .val .null, .unset] [.int (Int32.ofNat len), .int (Int32.ofNat o), .ref b])) rfl (by rw [hml]; rfl) c7 (argsL := [.ref b, .int (Int32.ofNat o), .int (Int32.ofNat len)]) (rest := []) rfl rfl (by show 2 * 0 + 0 ≤ _; decide) (hb hbytes d36) (⟨rfl, hA.mv X5.warmed.alike hh5, l1, l2, hp⟩)
  obtain ⟨e8, z8⟩ := E8
  obtain ⟨rfl, N, n1, n2, n3, n4, n5, n6⟩ := NewArr.mv _ T5 s _ _ hh5.symm (Vm.Alike.refl _) rfl e8
  rw [hh5] at z8
  have hB1 := hB.keep X8.warmed.alike (n6 _ _ hB.1)
  have hne : s.heap.size ≠ a := (Nat.ne_of_lt (Array.getElem?_eq_some_iff.mp hB.1).1).symm
  have c9 : Steps p.tables e below (s₁.setTop (entryFrame m #[.ref a, .ref b, .int (Int32.ofNat o), .int (Int32.ofNat len), .null] 6)) (T8.setTop (mkF m 39 #[.val (.ref a), .val (.ref b), .val (.int (Int32.ofNat o)), .val (.int (Int32.ofNat len)), .val .null, .unset] [.ref s.heap.size])) := g8
  have c10 : Steps p.tables e below (s₁.setTop (entryFrame m #[.ref a, .ref b, .int (Int32.ofNat o), .int (Int32.ofNat len), .null] 6)) (T8.setTop (mkF m 45 #[.val (.ref a), .val (.ref b), .val (.int (Int32.ofNat o)), .val (.int (Int32.ofNat len)), .val .null, .val (.ref s.heap.size)] [.int (Int32.ofNat N.slots.size), .ref s.heap.size, .ref a])) := by
    have hc : Steps p.tables e below (s₁.setTop (entryFrame m #[.ref a, .ref b, .int (Int32.ofNat o), .int (Int32.ofNat len), .null] 6)) (T8.setTop (mkF m 45 #[.val (.ref a), .val (.ref b), .val (.int (Int32.ofNat o)), .val (.int (Int32.ofNat len)), .val .null, .val (.ref s.heap.size)] [.int (Int32.ofNat len), .ref s.heap.size, .ref a])) := c9.trans (by
      refine XS.astore X8.here hexec rfl (hb hbytes d39) rfl rfl rfl ?_
      refine XS.aloadN X8.here hexec rfl (hb hbytes d41) rfl rfl ?_
      refine XS.aload X8.here hexec rfl (hb hbytes d42) rfl rfl ?_
      refine XS.iloadN X8.here hexec rfl (hb hbytes d44) rfl ?_
      exact Steps.refl _)
    rw [n4]; exact hc
  obtain ⟨v11, T11, X11, E11, g11⟩ := X8.callS hexec (CodL.law l s.heap.size N) hown (wks W (staticW "java/lang/String" 47 CodL.yN)) (wk W CodL.tab) (W := 1) (Nat.le_of_ble_eq_true rfl) (Nat.le_of_ble_eq_true rfl) (Nat.le_refl _) (by show 0 + len + 0 ≤ len; omega) (g := (mkF m 45 #[.val (.ref a), .val (.ref b), .val (.int (Int32.ofNat o)), .val (.int (Int32.ofNat len)), .val .null, .val (.ref s.heap.size)] [.int (Int32.ofNat N.slots.size), .ref s.heap.size, .ref a])) rfl (by rw [hml]; rfl) c10 (argsL := [.ref s.heap.size, .int (Int32.ofNat N.slots.size)]) (rest := [.ref a]) rfl rfl (by show 2 * 0 + (1 + 0) ≤ _; decide) (hb hbytes d45) (⟨rfl, n1⟩)
  obtain ⟨rfl, q11⟩ := E11
  have hB11 := hB1.mv (X8.warmed.alike.symm.trans X11.warmed.alike) q11
  have c12 : Steps p.tables e below (s₁.setTop (entryFrame m #[.ref a, .ref b, .int (Int32.ofNat o), .int (Int32.ofNat len), .null] 6)) (T11.setTop (mkF m 48 #[.val (.ref a), .val (.ref b), .val (.int (Int32.ofNat o)), .val (.int (Int32.ofNat len)), .val .null, .val (.ref s.heap.size)] [.int 0, .ref a])) := g11
  obtain ⟨T13, X13, p13, bl13, sl13, st13⟩ := X11.finit hexec hown (wk W (.fieldLink "java/lang/String" 15 "java/lang/String" "coder" "B")) (Or.inr ⟨_, (wk W (.laysFinal "java/lang/String" "java/lang/String" "coder" "B"))⟩) (Or.inl ⟨rfl, hnm⟩) f2 (Or.inl rfl) hB11 (t := .byte) (by decide +kernel) rfl (g := (mkF m 48 #[.val (.ref a), .val (.ref b), .val (.int (Int32.ofNat o)), .val (.int (Int32.ofNat len)), .val .null, .val (.ref s.heap.size)] [.int 0, .ref a])) rfl (rest := []) rfl (hb hbytes d48)
  have c14 : Steps p.tables e below (s₁.setTop (entryFrame m #[.ref a, .ref b, .int (Int32.ofNat o), .int (Int32.ofNat len), .null] 6)) (T13.setTop (mkF m 54 #[.val (.ref a), .val (.ref b), .val (.int (Int32.ofNat o)), .val (.int (Int32.ofNat len)), .val .null, .val (.ref s.heap.size)] [.ref s.heap.size, .ref a])) := (c12.trans (st13 _ (Steps.refl _))).trans (by
    refine XS.aloadN X13.here hexec rfl (hb hbytes d51) rfl rfl ?_
    refine XS.aload X13.here hexec rfl (hb hbytes d52) rfl rfl ?_
    exact Steps.refl _)
  obtain ⟨T15, X15, p15, bl15, sl15, st15⟩ := X13.finit hexec hown (wk W (.fieldLink "java/lang/String" 9 "java/lang/String" "value" "[B")) (Or.inr ⟨_, (wk W (.laysFinal "java/lang/String" "java/lang/String" "value" "[B"))⟩) (Or.inl ⟨rfl, hnm⟩) f1 (Or.inl rfl) bl13 (t := (.array .byte)) (by decide +kernel) rfl (g := (mkF m 54 #[.val (.ref a), .val (.ref b), .val (.int (Int32.ofNat o)), .val (.int (Int32.ofNat len)), .val .null, .val (.ref s.heap.size)] [.ref s.heap.size, .ref a])) rfl (rest := []) rfl (hb hbytes d54)
  have c16 : Steps p.tables e below (s₁.setTop (entryFrame m #[.ref a, .ref b, .int (Int32.ofNat o), .int (Int32.ofNat len), .null] 6)) (T15.setTop (mkF m 57 #[.val (.ref a), .val (.ref b), .val (.int (Int32.ofNat o)), .val (.int (Int32.ofNat len)), .val .null, .val (.ref s.heap.size)] [])) := c14.trans (st15 _ (Steps.refl _))
  have ap := apart (Or.inr ⟨_, (wk W (.laysFinal "java/lang/String" "java/lang/String" "value" "[B"))⟩) (Or.inr ⟨_, (wk W (.laysFinal "java/lang/String" "java/lang/String" "coder" "B"))⟩) f1 f2 (t₁ := .array .byte) (t₂ := .byte) (by decide +kernel) (by decide +kernel) (by decide)
  have al := X8.warmed.alike.symm.trans X15.warmed.alike
  have n7 : T11.heap[s.heap.size]? = some N := by rw [q11]; exact n1.1
  exact ⟨T15, none, _, _, _, X15, by simp, rfl, by omega, (fun _ => rfl), ⟨rfl, _, N, bl15, ((Same.refl D _).set _ (by simp)).set _ (by simp), sl15, (Cell.slots_setSlot_ne _ ap).trans sl13, n1.keep al (p15.other hne (p13.other hne n7)), n2, by rw [al.findClass]; exact n3, n4, n5, fun y c h1 h2 => p15.other h1 (p13.other h1 (by rw [q11]; exact n6 y c h2)), by rw [p15.2.2, p13.2.2, q11]; exact z8⟩, fun fs hl => c16.trans (X15.returnOut hexec hret (hb hbytes d57) hl)⟩
end New4
namespace New1
def yN : MethodName := ⟨"java/lang/String", "<init>", "([C)V"⟩
abbrev yB : ByteArray := jdk_42_method_3_code
theorem d0 : decode yB 0 = .ok (.aload_n 0, 1) := by decide +kernel
theorem d1 : decode yB 1 = .ok (.aload_n 1, 1) := by decide +kernel
theorem d2 : decode yB 2 = .ok (.iconst 0, 1) := by decide +kernel
theorem d3 : decode yB 3 = .ok (.aload_n 1, 1) := by decide +kernel
theorem d4 : decode yB 4 = .ok (.arraylength, 1) := by decide +kernel
theorem d5 : decode yB 5 = .ok (.aconst_null, 1) := by decide +kernel
theorem d6 : decode yB 6 = .ok (.invokespecial 27, 3) := by decide +kernel
theorem d9 : decode yB 9 = .ok (.return_, 1) := by decide +kernel
def site : List Cond := [New4.tab] ++ initW "java/lang/String" 27 New4.yN
def tab : Cond := tabOf yN yB 2 none site
def P (a : Addr) (D : Cell) (fV fC : Field) (b : Addr) (A : Cell) (z : Int32) (args : Array Value) (s : State) : Prop := args = #[.ref a, .ref b] ∧ Blank "java/lang/String" a D s ∧ Found "java/lang/String" "value" "[B" fV s ∧ Found "java/lang/String" "coder" "B" fC s ∧ Ch b A s ∧ StaticIs s "java/lang/String" "COMPACT_STRINGS" "Z" (.int z) ∧ ¬ z = 0 ∧ 0 < A.slots.size ∧ A.slots.size ≤ 536870912 ∧ ∀ i, i < A.slots.size → ¬ 255 < cv A i
def E (a : Addr) (D : Cell) (fV fC : Field) (A : Cell) (r : Option Value) (s u : State) : Prop := Got a D fV fC A 0 A.slots.size r s u
/-- new String(chars), not empty, no char above 255: a Latin-1 String of their low bytes -/
theorem law (l : Launch) (a : Addr) (D : Cell) (fV fC : Field) (b : Addr) (A : Cell) (z : Int32) : Law l yN 2 1 3 52 yB 2 none site (P a D fV fC b A z) (E a D fV fC A) [⟨a, fC.slot⟩, ⟨a, fV.slot⟩] 1 A.slots.size := by
  refine Law.of_walk (plainFor_of_name (by decide +kernel)) (by decide +kernel) (by decide +kernel) (by decide) (fun _ _ h => by rw [h.1]; rfl) (fun _ U U' hal hh h => ⟨h.1, h.2.1.mv hal hh, h.2.2.1.al hal, h.2.2.2.1.al hal, h.2.2.2.2.1.mv hal hh, h.2.2.2.2.2.1.there hal hh, h.2.2.2.2.2.2⟩) (fun r U U' V V' h1 hal h2 h => Got.mv r U U' V V' h1 hal h2 h) ?_
  intro p e s m args below meth c s₁ X0 hexec hbytes hml hret hlk hnm hown hh0 W hP
  obtain ⟨rfl, hB, f1, f2, hA, s1, hz, l0, l2, hp⟩ := hP
  have c1 : Steps p.tables e below (s₁.setTop (entryFrame m #[.ref a, .ref b] 2)) (s₁.setTop (mkF m 0 #[.val (.ref a), .val (.ref b)] [])) := entry rfl
  have c2 : Steps p.tables e below (s₁.setTop (entryFrame m #[.ref a, .ref b] 2)) (s₁.setTop (mkF m 6 #[.val (.ref a), .val (.ref b)] [.null, .int (Int32.ofNat A.slots.size), .int 0, .ref b, .ref a])) := c1.trans (by
    refine XS.aloadN X0.here hexec rfl (hb hbytes d0) rfl rfl ?_
    refine XS.aloadN X0.here hexec rfl (hb hbytes d1) rfl rfl ?_
    refine iconstV X0.here hexec rfl 0 (hb hbytes d2) (by decide) ?_
    refine XS.aloadN X0.here hexec rfl (hb hbytes d3) rfl rfl ?_
    refine X0.alen hexec (hA.1.mv X0.warmed.alike hh0) rfl rfl (hb hbytes d4) ?_
    refine XS.aconstNull X0.here hexec rfl (hb hbytes d5) ?_
    exact Steps.refl _)
  obtain ⟨v3, T3, X3, E3, g3⟩ := X0.callN hexec (New4.law l a D fV fC b A z 0 A.slots.size) rfl hown (wks W (initW "java/lang/String" 27 New4.yN)) (W New4.tab (by simp only [site, List.mem_cons, List.mem_append, true_or, or_true])) (W := 0) (Nat.le_of_ble_eq_true rfl) (Nat.le_of_ble_eq_true rfl) (Nat.le_refl _) (by show 0 + A.slots.size ≤ A.slots.size; omega) (g := (mkF m 6 #[.val (.ref a), .val (.ref b)] [.null, .int (Int32.ofNat A.slots.size), .int (Int32.ofNat 0), .ref b, .ref a])) rfl (by rw [hml]; rfl) c2 (argsL := [.ref b, .int (Int32.ofNat 0), .int (Int32.ofNat A.slots.size), .null]) (rest := []) rfl rfl (by show 2 * 0 + 0 ≤ _; decide) (hb hbytes d6) (⟨rfl, hB.mv X0.warmed.alike hh0, f1.al X0.warmed.alike, f2.al X0.warmed.alike, hA.mv X0.warmed.alike hh0, s1.there X0.warmed.alike hh0, hz, l0, by omega, l2, fun i hi => by rw [Nat.zero_add]; exact hp i hi⟩)
  have e0 := Got.mv _ s₁ s _ _ hh0.symm (Vm.Alike.refl _) rfl E3
  obtain rfl := e0.1
  have c4 : Steps p.tables e below (s₁.setTop (entryFrame m #[.ref a, .ref b] 2)) (T3.setTop (mkF m 9 #[.val (.ref a), .val (.ref b)] [])) := g3
  exact ⟨T3, none, _, _, _, X3, by simp, rfl, by omega, (fun _ => rfl), e0, fun fs hl => c4.trans (X3.returnOut hexec hret (hb hbytes d9) hl)⟩
theorem pays {l : Launch} {R : Room} {p : Program} {e : Env} {below : List Frame} {s : State} {sargs : Array Value} {len W : Nat} (a : Addr) (D : Cell) (fV fC : Field) (b : Addr) (A : Cell) (z : Int32) (htab : tab.before sargs s = true) (hfr : 4 ≤ R.frames) (hlo : W + 65 ≤ R.locals) :
    Back l R p e below s sargs yN len W (fun A₁ a₁ => A₁.cells + 1 ≤ R.cells ∧ A₁.slots + A.slots.size ≤ R.slots ∧ P a D fV fC b A z a₁ A₁.U) (fun A₁ _ v₁ B₁ => E a D fV fC A v₁ A₁.U B₁.U ∧ B₁.locs = A₁.locs ++ [⟨a, fC.slot⟩, ⟨a, fV.slot⟩] ∧ B₁.cells = A₁.cells + 1 ∧ B₁.slots = A₁.slots + A.slots.size) :=
  (law l a D fV fC b A z).pays htab hfr (by omega)
end New1
/-- the byte, read back as charAt reads it, is the char -/
theorem lo8_mask {x : Int32} (h0 : ¬ x < 0) (h1 : ¬ 255 < x) : lo8 x &&& 255 = x := by
  have t : ∀ k : Fin 256, lo8 (Int32.ofNat k.val) &&& 255 = Int32.ofNat k.val := by decide +kernel
  rw [Int32.lt_iff_toInt_lt] at h0 h1
  have e0 : (0 : Int32).toInt = 0 := rfl
  have e1 : (255 : Int32).toInt = 255 := rfl
  obtain ⟨k, hk⟩ : ∃ k : Nat, x.toInt = k := ⟨x.toInt.toNat, by omega⟩
  have hx : x = Int32.ofNat k := Int32.toInt_inj.mp (by rw [hk, Int32.toInt_ofNat_small (by omega)])
  rw [hx]
  exact t ⟨k, by omega⟩
end StrChars
namespace StrChars.Road
open Jvm Sem ClassFile Op Lib Jvm.Stand Jvm.Free Jvm.Free.XT
open Jvm.Lib.Cold (StaticIs)
abbrev ST : String := "java/lang/String"
/-- every table word that New1's law asks, flat -/
abbrev words : List Jvm.Cond := [.code New1.yN New1.yB 2 none, .initialized ST, .methodLink ST 27 New4.yN, .instanceMethod New4.yN,
  .code New4.yN New4.yB 6 none, .fieldLink ST 38 ST "COMPACT_STRINGS" "Z", .laysFinal ST ST "value" "[B", .fieldLink ST 9 ST "value" "[B", .laysFinal ST ST "coder" "B", .fieldLink ST 15 ST "coder" "B",
  .methodLink ST 1 Lib.objectInit, .instanceMethod Lib.objectInit, .code Lib.objectInit ⟨#[0xb1]⟩ 1 none, .methodLink ST 177 Cmp3.yN, .static Cmp3.yN, .methodLink ST 47 CodL.yN, .static CodL.yN,
  .code Cmp3.yN Cmp3.yB 6 (some (.array .byte)), .initialized U16, .arrayClass .byte, .methodLink U16 115 Cmp5.yN, .static Cmp5.yN, .code Cmp5.yN Cmp5.yB 7 (some .int), .code CodL.yN CodL.yB 2 (some .byte)]
theorem tab_of {a : Array Value} {s : State} (h : ∀ w ∈ words, w.before a s = true) : New1.tab.before a s = true := by
  have h5 : Cmp5.tab.before a s = true := unparts (wk h (.code Cmp5.yN Cmp5.yB 7 (some .int))) (wks h (.initialized Cmp5.yN.cls :: Cmp5.site))
  have hc : CodL.tab.before a s = true := unparts (wk h (.code CodL.yN CodL.yB 2 (some .byte))) (wks h (.initialized CodL.yN.cls :: CodL.site))
  have q5 : ∀ w ∈ Cmp5.tab :: words, w.before a s = true := fun w hw => (List.mem_cons.mp hw).elim (fun e => e ▸ h5) (h w)
  have h3 : Cmp3.tab.before a s = true := unparts (wk q5 (.code Cmp3.yN Cmp3.yB 6 (some (.array .byte)))) (wks q5 (.initialized Cmp3.yN.cls :: Cmp3.site))
  have q3 : ∀ w ∈ Cmp3.tab :: CodL.tab :: words, w.before a s = true := fun w hw => (List.mem_cons.mp hw).elim (fun e => e ▸ h3) fun hw => (List.mem_cons.mp hw).elim (fun e => e ▸ hc) (h w)
  have h4 : New4.tab.before a s = true := unparts (wk q3 (.code New4.yN New4.yB 6 none)) (wks q3 (.initialized New4.yN.cls :: New4.site))
  have q4 : ∀ w ∈ New4.tab :: words, w.before a s = true := fun w hw => (List.mem_cons.mp hw).elim (fun e => e ▸ h4) (h w)
  exact unparts (wk q4 (.code New1.yN New1.yB 2 none)) (wks q4 (.initialized New1.yN.cls :: New1.site))
/-- the words ride from the start Z to the walk's own state -/
theorem moved {Z s : State} {a0 args : Array Value} (hZ : Z.Warmed39 s.vm) (hw : ∀ d ∈ words, d.before a0 Z = true) : ∀ d ∈ words, d.before args s = true := fun d hd => by
  have q := hw d hd
  have t : ∀ d ∈ words, d = .arrayClass .byte ∨ (d.onTables && d.keepsFace) = true := by decide +kernel
  rcases t d hd with rfl | t
  · exact RoadKit.mvA hZ q
  · exact RoadKit.mv hZ q t
/-- WHAT COMES BACK, over the tables of the start Z: h the heap at the call, h' behind it -/
def Q (Z : State) (x : Addr) (A : Cell) (h : Heap) (v : Option Value) (h' : Heap) (L : List Loc) : Prop := v = none ∧ (∀ y ∈ L, y.base = x) ∧ RoadKit.Keep h h' [x] ∧ h'.size = h.size + 1 ∧ RoadKit.Exa Z h' x ST ∧ RoadKit.Fld Z h' x ST "value" "[B" (.ref h.size) ∧ RoadKit.Fld Z h' x ST "coder" "B" (.int 0) ∧
  (∃ V : Cell, RoadKit.Arr Z h' h.size V .byte ∧ V.vm = .none ∧ Z.vm.findClass "[B" = some V.cls ∧ V.slots.size = A.slots.size ∧ ∀ j, j < A.slots.size → V.slots[j]? = some (.int (lo8 (cv A j)))) ∧
  ∀ (O n d : String) (w : Value), RoadKit.Fld Z h x O n d w → RoadKit.slotOf Z O n d ≠ RoadKit.slotOf Z ST "value" "[B" → RoadKit.slotOf Z O n d ≠ RoadKit.slotOf Z ST "coder" "B" → RoadKit.Fld Z h' x O n d w
/-- **new String(chars) AT A CALL, IN THE ROAD'S FORM**: for specialBack behind newO: x the fresh String, b the char[] with the cell A -/
theorem back {p : Program} {l : Launch} {e : Env} {R : Room} {s : State} {args : Array Value} {below : List Frame} {len W : Nat} {Z : State} {a0 : Array Value} {h : Heap} (hZ : Z.Warmed39 s.vm) (hw : ∀ d ∈ words, d.before a0 Z = true) {kI : Nat} (wi : (Jvm.Cond.instantiable ST kI).before a0 Z = true)
    {x b : Addr} {A : Cell} {z : Int32} {v0 c0 : Value} (E : RoadKit.Exa Z h x ST) (V : RoadKit.Fld Z h x ST "value" "[B" v0) (C : RoadKit.Fld Z h x ST "coder" "B" c0) (K : RoadKit.Arr Z h b A .char) (hty : Typed .char A) (S : RoadKit.Sta Z h ST "COMPACT_STRINGS" "Z" (.int z)) (hz : ¬ z = 0)
    (l0 : 0 < A.slots.size) (l2 : A.slots.size ≤ 536870912) (hp : ∀ i, i < A.slots.size → ¬ 255 < cv A i) (hfr : 4 ≤ R.frames) (hlo : W + 65 ≤ R.locals) :
    Back l R p e below s args New1.yN len W (fun P a => a = #[.ref x, .ref b] ∧ P.U.heap = h ∧ P.cells + 1 ≤ R.cells ∧ P.slots + A.slots.size ≤ R.slots)
      (fun P _ v B => ∃ L, Q Z x A h v B.U.heap L ∧ B.locs = P.locs ++ L ∧ B.cells = P.cells + 1 ∧ B.slots = P.slots + A.slots.size) := by
  intro m meth c P g ig mk a X hg hsize hdg hW hn hp'
  obtain ⟨rfl, rfl, r1, r2⟩ := hp'
  have al : Z.vm.Alike P.U.vm := hZ.alike.trans X.warmed.alike
  obtain ⟨D, cfV, kV, iV, fV, hD, gV, stV, knV, obV, asV, slV⟩ := id V
  obtain ⟨D', cfC, kC, iC, fC, hD', gC, stC, -, -, asC, slC⟩ := id C
  cases hD.symm.trans hD'
  obtain ⟨D2, kD, e1, e2, e3, e4, e5⟩ := id E
  cases hD.symm.trans e1
  obtain ⟨c2, k2, i1, i2, i3, -⟩ := Cond.instantiable_spec wi
  cases e2.symm.trans i1
  cases e3.symm.trans i2
  obtain ⟨kU, u1, u2⟩ := al.2.2 _ _ e3
  have hB : Blank ST x D P.U := ⟨hD, ⟨knV, fun q hq => by rw [hq] at obV; cases obV⟩, by rw [al.findClass]; exact e2, kU, u1, by rw [u2]; exact i3, by rw [u2]; exact e5 i3⟩
  have F1 : Found ST "value" "[B" fV P.U := ⟨SBG.found_only al ⟨cfV, kV, iV, gV⟩, stV⟩
  have F2 : Found ST "coder" "B" fC P.U := ⟨SBG.found_only al ⟨cfC, kC, iC, gC⟩, stC⟩
  have hA : Ch b A P.U := ⟨⟨K.1, State.isArrayOf_alike al K.2.1, K.2.2, by omega⟩, hty⟩
  have hS : StaticIs P.U ST "COMPACT_STRINGS" "Z" (.int z) := by
    obtain ⟨cfS, iS, kS, fS, st, cS, t1, t2, t3, t4, t5, t6, t7⟩ := S
    exact StaticIs.there (s := { Z with heap := P.U.heap }) ⟨cfS, iS, kS, fS, st, cS, t1, t2, t3, t4, t5, (fun q => by rw [q] at t6; cases t6), t7⟩ al rfl
  obtain ⟨v, B, X', ⟨⟨hv, E', V', q1, q2, q3, q4, q5, q6, q7, q8, q9, q10, q11⟩, hl, hc, hs⟩, st⟩ := New1.pays x D fV fC b A z (tab_of (moved hZ hw)) hfr hlo m meth c P g ig mk _ X hg hsize hdg hW hn ⟨r1, r2, rfl, hB, F1, F2, hA, hS, hz, l0, l2, hp⟩
  have al' : Z.vm.Alike B.U.vm := hZ.alike.trans X'.warmed.alike
  have hsz : E'.slots.size = D.slots.size := by
    obtain ⟨-, -, -, kB, w1, w2, w3⟩ := q1
    obtain ⟨kB', y1, y2⟩ := al'.2.2 _ _ e3
    rw [q2.2.1] at w1
    cases w1.symm.trans y1
    rw [w3, e5 i3, y2]
  refine ⟨v, B, X', ⟨_, ⟨hv, ?_, ⟨by omega, fun y cy hy hn' => q10 y cy (by simpa using hn') hy, fun y cy hy => ?_⟩, q11, ⟨E', _, q1.1, by rw [q2.2.1]; exact e2, by rw [q2.2.1]; exact e3, by rw [q2.1]; exact obV, fun _ => by rw [hsz]; exact e5 i3⟩,
    ⟨E', cfV, kV, iV, fV, q1.1, gV, stV, by rw [q2.1]; exact knV, by rw [q2.1]; exact obV, by rw [q2.2.1]; exact asV, q3⟩, ⟨E', cfC, kC, iC, fC, q1.1, gC, stC, by rw [q2.1]; exact knV, by rw [q2.1]; exact obV, by rw [q2.2.1]; exact asC, q4⟩,
    ⟨V', ⟨q5.1, State.isArrayOf_alike al'.symm q5.2.1, q5.2.2.1⟩, q6, by rw [← al'.findClass]; exact q7, q8, fun j hj => by have := q9 j hj; rwa [Nat.zero_add] at this⟩, fun O n d w F n1 n2 => ?_⟩, hl, hc, hs⟩, st⟩
  · intro y hy
    simp only [List.mem_cons, List.not_mem_nil, or_false] at hy
    rcases hy with rfl | rfl <;> rfl
  · by_cases q : y = x
    · subst q
      cases hD.symm.trans hy
      exact ⟨E', q1.1, q2.2.1, q2.1, hsz⟩
    · exact ⟨cy, q10 y cy q hy, rfl, rfl, rfl⟩
  · obtain ⟨D3, cf, k, i, f, g1, g2, g3, g4, g5, g6, g7⟩ := F
    cases hD.symm.trans g1
    simp only [RoadKit.slotOf, g2, gV, gC, Option.map_some, Option.getD_some] at n1 n2
    exact ⟨E', cf, k, i, f, q1.1, g2, g3, by rw [q2.1]; exact g4, by rw [q2.1]; exact g5, by rw [q2.2.1]; exact g6, by rw [q2.2.2 f.slot (by simp [n1, n2])]; exact g7⟩
end StrChars.Road
namespace StrChars.Road
open Jvm Sem ClassFile Op Lib Jvm.Stand Jvm.Free Jvm.Free.XT
/-- WHAT COMES BACK, the byte[] as a list of values -/
def QA (Z : State) (x : Addr) (zn : Int32) (cs : List Int32) (h : Heap) (v : Option Value) (h' : Heap) (L : List Loc) : Prop := v = none ∧ (∀ y ∈ L, y.base = x) ∧ RoadKit.Keep h h' [x] ∧ h'.size = h.size + 1 ∧ RoadKit.Exa Z h' x ST ∧ RoadKit.Fld Z h' x ST "value" "[B" (.ref h.size) ∧ RoadKit.Fld Z h' x ST "coder" "B" (.int 0) ∧
  (∃ kb, Z.vm.findClass "[B" = some kb ∧ RoadKit.Arv Z h' h.size kb .byte zn (cs.map fun c => .int (lo8 c)) (.int 0)) ∧
  ∀ (O n d : String) (w : Value), RoadKit.Fld Z h x O n d w → RoadKit.slotOf Z O n d ≠ RoadKit.slotOf Z ST "value" "[B" → RoadKit.slotOf Z O n d ≠ RoadKit.slotOf Z ST "coder" "B" → RoadKit.Fld Z h' x O n d w
/-- **new String(chars) AT A CALL, THE ARRAYS AS LISTS**: the char[] at b holds cs, not empty, no char above 255 -/
theorem backArv {p : Program} {l : Launch} {e : Env} {R : Room} {s : State} {args : Array Value} {below : List Frame} {len W : Nat} {Z : State} {a0 : Array Value} {h : Heap} (hZ : Z.Warmed39 s.vm) (hw : ∀ d ∈ words, d.before a0 Z = true) {kI : Nat} (wi : (Jvm.Cond.instantiable ST kI).before a0 Z = true)
    {x b : Addr} {k : ClassId} {zn z : Int32} {cs : List Int32} {dv v0 c0 : Value} (E : RoadKit.Exa Z h x ST) (V : RoadKit.Fld Z h x ST "value" "[B" v0) (C : RoadKit.Fld Z h x ST "coder" "B" c0) (K : RoadKit.Arv Z h b k .char zn (cs.map Value.int) dv) (S : RoadKit.Sta Z h ST "COMPACT_STRINGS" "Z" (.int z)) (hz : ¬ z = 0)
    (hlen : zn.toNatClampNeg = cs.length) (h0 : 0 < cs.length) (hbig : cs.length ≤ 536870912) (hall : ∀ c ∈ cs, ¬ 255 < c) (hfr : 4 ≤ R.frames) (hlo : W + 65 ≤ R.locals) :
    Back l R p e below s args New1.yN len W (fun P a => a = #[.ref x, .ref b] ∧ P.U.heap = h ∧ P.cells + 1 ≤ R.cells ∧ P.slots + cs.length ≤ R.slots)
      (fun P _ v B => ∃ L, QA Z x zn cs h v B.U.heap L ∧ B.locs = P.locs ++ L ∧ B.cells = P.cells + 1 ∧ B.slots = P.slots + cs.length) := by
  obtain ⟨A, K1, K2, K3, K4, K5, K6⟩ := K
  have e : A.slots.size = cs.length := K3.trans hlen
  have hat : ∀ (i : Nat) (hi : i < cs.length), A.slots[i]? = some (.int cs[i]) := fun i hi => by rw [K5 i (by omega)]; simp [List.getD_eq_getElem?_getD, hi]
  have hcv : ∀ (i : Nat) (hi : i < cs.length), cv A i = cs[i] := fun i hi => by unfold cv; rw [hat i hi]
  have hty : Typed .char A := fun i v hv => by
    have hi : i < A.slots.size := (Array.getElem?_eq_some_iff.mp hv).1
    have q := K5 i hi
    rw [hv] at q
    rw [Option.some.inj q]
    exact K6 i hi
  refine Back.mono (back hZ hw wi E V C K1 hty S hz (by omega) (by omega) (fun i hi => by rw [hcv i (by omega)]; exact hall _ (List.getElem_mem _)) hfr hlo) (fun P a hp => ⟨hp.1, hp.2.1, hp.2.2.1, by rw [e]; exact hp.2.2.2⟩) (fun P a v B hp hq => ?_)
  obtain ⟨L, ⟨q1, q2, q3, q4, q5, q6, q7, ⟨V', v1, v2, v3, v4, v5⟩, q9⟩, hl, hc, hs⟩ := hq
  refine ⟨L, ⟨q1, q2, q3, q4, q5, q6, q7, ⟨V'.cls, v3, V', v1, rfl, by rw [v4, e, hlen], K4, fun i hi => ?_, fun i hi => ?_⟩, q9⟩, hl, hc, by rw [hs, e]⟩
  · have hi' : i < cs.length := by omega
    rw [v5 i (by omega), hcv i hi']; simp [List.getD_eq_getElem?_getD, hi']
  · have hi' : i < cs.length := by omega
    simp only [List.getD_eq_getElem?_getD, List.getElem?_map, List.getElem?_eq_getElem hi', Option.map_some, Option.getD_some]
    exact fits_lo8 _
end StrChars.Road
namespace StrChars.Road
open Jvm Sem ClassFile Op Lib Jvm.Stand Jvm.Free Jvm.Free.XT
/-- WHAT COMES BACK, in the writer's own shape -/
def QV (Z : State) (x : Addr) (N : Int32) (bs : List Int32) (h : Heap) (n0 : Nat) (v : Option Value) (h' : Heap) (L : List Loc) : Prop := v = none ∧ RoadKit.Fr n0 L ∧ RoadKit.Keep h h' [x] ∧ RoadKit.Exa Z h' x ST ∧ RoadKit.Fld Z h' x ST "coder" "B" (.int 0) ∧
  ∃ (t : Addr) (kb : ClassId), n0 ≤ t ∧ h.size ≤ t ∧ ¬ t = x ∧ RoadKit.Fld Z h' x ST "value" "[B" (.ref t) ∧ RoadKit.Arv Z h' t kb .byte N (bs.map Value.int) (.int 0)
/-- **new String(chars) AT A CALL, FOR THE WRITER**: a char[] of n known ints, each 0 to 255 -/
theorem backV {p : Program} {l : Launch} {e : Env} {R : Room} {s : State} {args : Array Value} {below : List Frame} {len W : Nat} {Z : State} {a0 : Array Value} {h : Heap} (hZ : Z.Warmed39 s.vm) (hw : ∀ d ∈ words, d.before a0 Z = true) {kI : Nat} (wi : (Jvm.Cond.instantiable ST kI).before a0 Z = true)
    {x b : Addr} {kC : ClassId} {cs bs : List Int32} {d v0 c0 : Value} {z N : Int32} {n n0 : Nat} (hx0 : n0 ≤ x) (hh0 : n0 ≤ h.size) (E : RoadKit.Exa Z h x ST) (V : RoadKit.Fld Z h x ST "value" "[B" v0) (C : RoadKit.Fld Z h x ST "coder" "B" c0) (K : RoadKit.Arv Z h b kC .char N (cs.map Value.int) d) (S : RoadKit.Sta Z h ST "COMPACT_STRINGS" "Z" (.int z)) (hz : ¬ z = 0)
    (hn : cs.length = n) (hN : N = Int32.ofNat n) (l0 : 0 < n) (l2 : n ≤ 4000) (hp : ∀ c ∈ cs, ¬ c < 0 ∧ ¬ (255 : Int32) < c) (hb : bs = cs.map (fun c => c.toInt8.toInt32)) (hfr : 4 ≤ R.frames) (hlo : W + 65 ≤ R.locals) :
    Back l R p e below s args (⟨"java/lang/String", "<init>", "([C)V"⟩ : MethodName) len W (fun P a => a = #[.ref x, .ref b] ∧ P.U.heap = h ∧ P.cells + 1 ≤ R.cells ∧ P.slots + n ≤ R.slots)
      (fun P _ v B => ∃ L, QV Z x N bs h n0 v B.U.heap L ∧ B.locs = P.locs ++ L ∧ B.cells = P.cells + 1 ∧ B.slots = P.slots + n) := by
  subst hn hN hb
  refine Back.mono (backArv hZ hw wi E V C K S hz (n32 (by omega)) l0 (by omega) (fun c hc => (hp c hc).2) hfr hlo) (fun P a hp => hp) (fun P a v B hp hq => ?_)
  obtain ⟨L, ⟨q1, q2, q3, q4, q5, q6, q7, ⟨kb, v1, v2⟩, q9⟩, hl, hc, hs⟩ := hq
  exact ⟨L, ⟨q1, fun y hy => by rw [q2 y hy]; exact hx0, q3, q5, q7, h.size, kb, hh0, Nat.le_refl _, Nat.ne_of_gt E.lt, q6, by rw [List.map_map]; exact v2⟩, hl, hc, hs⟩
end StrChars.Road
namespace StrChars
open Jvm Sem ClassFile Op Lib Jvm.Stand Jvm.Free.XT Jvm.Free.ALB Jvm.Free.JM Jvm.Free
open Jvm.Lib.Cold (StaticIs)
def hi8 (x : Int32) : Int32 := lo8 (x >>> ((8 : Int32) &&& 31))
/-- what StringUTF16.getChar makes of two bytes -/
def pairCh (u v : Int32) : Int32 := (((u &&& 255) <<< ((0 : Int32) &&& 31)) ||| ((v &&& 255) <<< ((8 : Int32) &&& 31))).toUInt32.toUInt16.toUInt32.toInt32
theorem shr0 (c : Int32) : c >>> ((0 : Int32) &&& 31) = c := by
  have e : ((0 : Int32) &&& 31) = 0 := by decide
  rw [e]
  apply Int32.toBitVec_inj.mp
  rw [Int32.toBitVec_shiftRight]
  have e1 : ((0 : Int32).toBitVec.smod 32) = 0#32 := by decide
  rw [e1, BitVec.sshiftRight_eq']
  exact BitVec.sshiftRight_zero
theorem lo8_and (x : Int32) : (lo8 x &&& 255).toBitVec.toNat = x.toBitVec.toNat % 256 := by
  have h : (lo8 x).toBitVec = (x.toBitVec.signExtend 8).signExtend 32 := by rw [lo8, Int8.toBitVec_toInt32, Int32.toBitVec_toInt8]
  rw [Int32.toBitVec_and, BitVec.toNat_and, h]
  have e : ((x.toBitVec.signExtend 8).signExtend 32).toNat % 256 = x.toBitVec.toNat % 256 := by
    rw [BitVec.toNat_signExtend]
    have hlt := x.toBitVec.isLt
    simp only [BitVec.toNat_setWidth, BitVec.toNat_signExtend]
    split <;> split <;> omega
  rw [← e]
  exact Nat.and_two_pow_sub_one_eq_mod _ 8
theorem pair_says {c : Int32} (h0 : ¬ c < 0) (h1 : ¬ 65535 < c) : pairCh (lo8 c) (hi8 c) = c := by
  rw [Int32.lt_iff_toInt_lt] at h0 h1
  have e0 : (0 : Int32).toInt = 0 := rfl
  have e1 : (65535 : Int32).toInt = 65535 := rfl
  have hc : c.toInt = c.toBitVec.toNat := by
    have := c.toBitVec.isLt
    have e : c.toInt = c.toBitVec.toInt := rfl
    rw [e] at h0 h1
    rw [e]
    rw [BitVec.toInt_eq_toNat_cond] at h0 h1 ⊢
    split at h0 <;> split <;> omega
  have hn : c.toBitVec.toNat < 65536 := by omega
  have a1 := lo8_and c
  have a2 : (hi8 c &&& 255).toBitVec.toNat = c.toBitVec.toNat / 256 := by
    rw [hi8, lo8_and]
    have e : ((8 : Int32) &&& 31) = 8 := by decide
    rw [e, Int32.toBitVec_shiftRight]
    have e2 : ((8 : Int32).toBitVec.smod 32) = 8#32 := by decide
    rw [e2, BitVec.sshiftRight_eq', BitVec.toNat_sshiftRight_of_msb_false (by rw [BitVec.msb_eq_false_iff_two_mul_lt]; omega)]
    show c.toBitVec.toNat >>> 8 % 256 = _
    rw [Nat.shiftRight_eq_div_pow]
    omega
  unfold pairCh
  apply Int32.toBitVec_inj.mp
  apply BitVec.eq_of_toNat_eq
  have f0 : ((0 : Int32) &&& 31) = 0 := by decide
  have f8 : ((8 : Int32) &&& 31) = 8 := by decide
  rw [f0, f8]
  have g : (((lo8 c &&& 255) <<< (0 : Int32)) ||| ((hi8 c &&& 255) <<< (8 : Int32))).toBitVec.toNat = c.toBitVec.toNat := by
    rw [Int32.toBitVec_or, Int32.toBitVec_shiftLeft, Int32.toBitVec_shiftLeft]
    have s0 : ((0 : Int32).toBitVec.smod 32) = 0#32 := by decide
    have s8 : ((8 : Int32).toBitVec.smod 32) = 8#32 := by decide
    rw [s0, s8, BitVec.toNat_or]
    simp only [BitVec.shiftLeft_eq', BitVec.toNat_shiftLeft, a1, a2]
    show (c.toBitVec.toNat % 256) <<< 0 % 2 ^ 32 ||| (c.toBitVec.toNat / 256) <<< 8 % 2 ^ 32 = _
    rw [Nat.shiftLeft_zero, Nat.mod_eq_of_lt (show c.toBitVec.toNat % 256 < 2 ^ 32 by omega), Nat.mod_eq_of_lt (show (c.toBitVec.toNat / 256) <<< 8 < 2 ^ 32 by rw [Nat.shiftLeft_eq]; omega), Nat.or_comm, ← Nat.shiftLeft_add_eq_or_of_lt (by omega), Nat.shiftLeft_eq]
    omega
  show BitVec.toNat (((((lo8 c &&& 255) <<< (0 : Int32)) ||| ((hi8 c &&& 255) <<< (8 : Int32))).toBitVec.setWidth 16).setWidth 32) = _
  rw [BitVec.toNat_setWidth, BitVec.toNat_setWidth, g]
  omega
end StrChars
namespace StrChars
open Jvm Sem ClassFile Op Lib Jvm.Stand Jvm.Free.XT Jvm.Free.ALB Jvm.Free.JM Jvm.Free
open Jvm.Lib.Cold (StaticIs)
theorem shr1 {n : Nat} (h : 2 * n < 2 ^ 31) : Int32.ofNat (2 * n) >>> ((1 : Int32) &&& 31) = Int32.ofNat n := by
  have e : ((1 : Int32) &&& 31) = 1 := by decide
  rw [e]
  apply Int32.toBitVec_inj.mp
  rw [Int32.toBitVec_shiftRight]
  have e1 : ((1 : Int32).toBitVec.smod 32) = 1#32 := by decide
  have hm : (BitVec.ofNat 32 (2 * n)).toNat = 2 * n := by rw [BitVec.toNat_ofNat, Nat.mod_eq_of_lt (by omega)]
  rw [e1, BitVec.sshiftRight_eq']
  apply BitVec.eq_of_toNat_eq
  show ((BitVec.ofNat 32 (2 * n)).sshiftRight 1).toNat = (BitVec.ofNat 32 n).toNat
  rw [BitVec.toNat_sshiftRight_of_msb_false (by rw [BitVec.msb_eq_false_iff_two_mul_lt, hm]; omega), hm, BitVec.toNat_ofNat, Nat.shiftRight_eq_div_pow]
  omega
/-- the array's cell V codes the n chars f 0 .. f (n - 1) by the coder cd, as the JDK does: coder 1 just where some char is above 255 -/
def Cod (cd : Int32) (n : Nat) (f : Nat → Int32) (V : Cell) : Prop := (cd = 0 ∧ V.slots.size = n ∧ ∀ j, j < n → V.slots[j]? = some (.int (lo8 (f j))) ∧ ¬ 255 < f j) ∨ (cd = 1 ∧ V.slots.size = 2 * n ∧ (∀ j, j < n → V.slots[2 * j]? = some (.int (lo8 (f j))) ∧ V.slots[2 * j + 1]? = some (.int (hi8 (f j)))) ∧ ∃ j, j < n ∧ 255 < f j)
theorem Cod.cd {cd : Int32} {n : Nat} {f : Nat → Int32} {V : Cell} (h : Cod cd n f V) : cd = 0 ∨ cd = 1 := h.imp (fun q => q.1) fun q => q.1
theorem Cod.len {cd : Int32} {n : Nat} {f : Nat → Int32} {V : Cell} (h : Cod cd n f V) (hs : V.slots.size < 2 ^ 31) : Int32.ofNat V.slots.size >>> (cd &&& 31) = Int32.ofNat n := by
  rcases h with ⟨rfl, h, -⟩ | ⟨rfl, h, -⟩
  · rw [shr0, h]
  · rw [h, shr1 (by omega)]
/-- **x is a String of the n chars f 0 .. f (n - 1)**, Latin-1 or UTF-16; its array at t has the cell V -/
def Txt (x t : Addr) (V : Cell) (cd : Int32) (n : Nat) (f : Nat → Int32) (U : State) : Prop := Exact "java/lang/String" x U ∧ Has x "java/lang/String" "value" "[B" (.ref t) U ∧ Has x "java/lang/String" "coder" "B" (.int cd) U ∧ XT.Arr .byte t V U ∧ Cod cd n f V ∧ ∀ j, j < n → ¬ f j < 0 ∧ ¬ 65535 < f j
theorem Txt.mv {x t : Addr} {V : Cell} {cd : Int32} {n : Nat} {f : Nat → Int32} {U U' : State} (h : Txt x t V cd n f U) (hal : U.vm.Alike U'.vm) (hh : U'.heap = U.heap) : Txt x t V cd n f U' := ⟨h.1.mv hal hh, h.2.1.mv hal hh, h.2.2.1.mv hal hh, h.2.2.2.1.mv hal hh, h.2.2.2.2⟩
namespace Cdr
def yN : MethodName := ⟨"java/lang/String", "coder", "()B"⟩
abbrev yB : ByteArray := jdk_42_method_152_code
theorem d0 : decode yB 0 = .ok (.getstatic 38, 3) := by decide +kernel
theorem d3 : decode yB 3 = .ok (.ifCond (.eq) 10, 3) := by decide +kernel
theorem d6 : decode yB 6 = .ok (.aload_n 0, 1) := by decide +kernel
theorem d7 : decode yB 7 = .ok (.getfield 15, 3) := by decide +kernel
theorem d10 : decode yB 10 = .ok (.goto 4, 3) := by decide +kernel
theorem d14 : decode yB 14 = .ok (.ireturn, 1) := by decide +kernel
def site : List Cond := [.fieldLink "java/lang/String" 38 "java/lang/String" "COMPACT_STRINGS" "Z", .fieldLink "java/lang/String" 15 "java/lang/String" "coder" "B"]
def tab : Cond := tabOf yN yB 1 (some .byte) site
def P (x : Addr) (cd z : Int32) (args : Array Value) (s : State) : Prop := args = #[.ref x] ∧ Has x "java/lang/String" "coder" "B" (.int cd) s ∧ (cd = 0 ∨ cd = 1) ∧ StaticIs s "java/lang/String" "COMPACT_STRINGS" "Z" (.int z) ∧ ¬ z = 0
def E (cd : Int32) (r : Option Value) (s u : State) : Prop := XT.PureE (some (.int cd)) r s u
theorem law (l : Launch) (x : Addr) (cd z : Int32) : Law l yN 1 0 0 0 yB 1 (some .byte) site (P x cd z) (E cd) [] 0 0 := by
  refine Law.of_walk (plainFor_of_name (by decide +kernel)) (by decide +kernel) (by decide +kernel) (by decide) (fun _ _ h => by rw [h.1]; rfl) (fun _ U U' hal hh h => ⟨h.1, h.2.1.mv hal hh, h.2.2.1, h.2.2.2.1.there hal hh, h.2.2.2.2⟩) (fun r U U' V V' h1 hal h2 h => XT.PureE.mv r U U' V V' h1 hal h2 h) ?_
  intro p e s m args below meth c s₁ X0 hexec hbytes hml hret hlk hnm hown hh0 W hP
  obtain ⟨rfl, hx, hc, s1, hz⟩ := hP
  have c1 : Steps p.tables e below (s₁.setTop (entryFrame m #[.ref x] 1)) (s₁.setTop (mkF m 0 #[.val (.ref x)] [])) := entry rfl
  obtain ⟨T2, X2, q2, st2⟩ := X0.sget hexec hown (wk W (.fieldLink "java/lang/String" 38 "java/lang/String" "COMPACT_STRINGS" "Z")) s1 (fun _ _ h => by rw [hh0]; exact h) (g := (mkF m 0 #[.val (.ref x)] [])) rfl (hb hbytes d0)
  have hh2 := q2.trans hh0
  have c3 : Steps p.tables e below (s₁.setTop (entryFrame m #[.ref x] 1)) (T2.setTop (mkF m 7 #[.val (.ref x)] [.ref x])) := (c1.trans (st2 _ (Steps.refl _))).trans (by
    refine XS.ifNo X2.here hexec rfl (hb hbytes d3) rfl (i0_eq_f hz) ?_
    refine XS.aloadN X2.here hexec rfl (hb hbytes d6) rfl rfl ?_
    exact Steps.refl _)
  obtain ⟨T4, X4, q4, st4⟩ := X2.hget hexec hown (wk W (.fieldLink "java/lang/String" 15 "java/lang/String" "coder" "B")) (hx.mv X2.warmed.alike hh2) (g := (mkF m 7 #[.val (.ref x)] [.ref x])) rfl (rest := []) rfl (hb hbytes d7)
  have c5 : Steps p.tables e below (s₁.setTop (entryFrame m #[.ref x] 1)) (T4.setTop (mkF m 14 #[.val (.ref x)] [.int cd])) := (c3.trans (st4 _ (Steps.refl _))).trans (by
    refine XS.goto X4.here hexec rfl (pc0 := 10) rfl (hb hbytes d10) (by decide) rfl ?_
    exact Steps.refl _)
  exact ⟨T4, some (.int cd), _, _, _, X4, rfl, rfl, rfl, (fun h => by cases h), ⟨rfl, q4.trans hh2⟩, fun fs hl => c5.trans (X4.ireturnOut hexec hret (by rcases hc with rfl | rfl <;> rfl) (Or.inr (Or.inr (Or.inl rfl))) (hb hbytes d14) hl)⟩
end Cdr
namespace Len
def yN : MethodName := ⟨"java/lang/String", "length", "()I"⟩
abbrev yB : ByteArray := jdk_42_method_54_code
theorem d0 : decode yB 0 = .ok (.aload_n 0, 1) := by decide +kernel
theorem d1 : decode yB 1 = .ok (.getfield 9, 3) := by decide +kernel
theorem d4 : decode yB 4 = .ok (.arraylength, 1) := by decide +kernel
theorem d5 : decode yB 5 = .ok (.aload_n 0, 1) := by decide +kernel
theorem d6 : decode yB 6 = .ok (.invokevirtual 335, 3) := by decide +kernel
theorem d9 : decode yB 9 = .ok (.ishr, 1) := by decide +kernel
theorem d10 : decode yB 10 = .ok (.ireturn, 1) := by decide +kernel
def site : List Cond := [.fieldLink "java/lang/String" 9 "java/lang/String" "value" "[B", Cdr.tab] ++ virtW "java/lang/String" 335 "java/lang/String" Cdr.yN Cdr.yN
def tab : Cond := tabOf yN yB 1 (some .int) site
def P (x t : Addr) (V : Cell) (cd : Int32) (n : Nat) (f : Nat → Int32) (z : Int32) (args : Array Value) (s : State) : Prop := args = #[.ref x] ∧ Txt x t V cd n f s ∧ StaticIs s "java/lang/String" "COMPACT_STRINGS" "Z" (.int z) ∧ ¬ z = 0
def E (n : Nat) (r : Option Value) (s u : State) : Prop := XT.PureE (some (.int (Int32.ofNat n))) r s u
/-- length() of a String of n chars, in either coding -/
theorem law (l : Launch) (x t : Addr) (V : Cell) (cd : Int32) (n : Nat) (f : Nat → Int32) (z : Int32) : Law l yN 1 0 1 13 yB 1 (some .int) site (P x t V cd n f z) (E n) [] 0 0 := by
  refine Law.of_walk (plainFor_of_name (by decide +kernel)) (by decide +kernel) (by decide +kernel) (by decide) (fun _ _ h => by rw [h.1]; rfl) (fun _ U U' hal hh h => ⟨h.1, h.2.1.mv hal hh, h.2.2.1.there hal hh, h.2.2.2⟩) (fun r U U' V V' h1 hal h2 h => XT.PureE.mv r U U' V V' h1 hal h2 h) ?_
  intro p e s m args below meth c s₁ X0 hexec hbytes hml hret hlk hnm hown hh0 W hP
  obtain ⟨rfl, hx, s1, hz⟩ := hP
  have v31 := hx.2.2.2.1.2.2.2
  have c1 : Steps p.tables e below (s₁.setTop (entryFrame m #[.ref x] 1)) (s₁.setTop (mkF m 1 #[.val (.ref x)] [.ref x])) := Steps.trans (entry rfl) (by
    show Steps p.tables e below (s₁.setTop (mkF m 0 #[.val (.ref x)] [])) _
    refine XS.aloadN X0.here hexec rfl (hb hbytes d0) rfl rfl ?_
    exact Steps.refl _)
  obtain ⟨T2, X2, q2, st2⟩ := X0.hget hexec hown (wk W (.fieldLink "java/lang/String" 9 "java/lang/String" "value" "[B")) (hx.mv X0.warmed.alike hh0).2.1 (g := (mkF m 1 #[.val (.ref x)] [.ref x])) rfl (rest := []) rfl (hb hbytes d1)
  have hh2 := q2.trans hh0
  have hx2 := hx.mv X2.warmed.alike hh2
  have c3 : Steps p.tables e below (s₁.setTop (entryFrame m #[.ref x] 1)) (T2.setTop (mkF m 6 #[.val (.ref x)] [.ref x, .int (Int32.ofNat V.slots.size)])) := (c1.trans (st2 _ (Steps.refl _))).trans (by
    refine X2.alen hexec hx2.2.2.2.1 rfl rfl (hb hbytes d4) ?_
    refine XS.aloadN X2.here hexec rfl (hb hbytes d5) rfl rfl ?_
    exact Steps.refl _)
  obtain ⟨v4, T4, X4, E4, g4⟩ := X2.callV hexec (Cdr.law l x cd z) hown (wks W (virtW "java/lang/String" 335 "java/lang/String" Cdr.yN Cdr.yN)) rfl (by decide) (wk W Cdr.tab) (W := 1) (Nat.le_of_ble_eq_true rfl) (Nat.le_of_ble_eq_true rfl) (Nat.le_refl _) (Nat.le_refl _) (hx2.1.fc X2.warmed.alike) hx2.1.is (g := (mkF m 6 #[.val (.ref x)] [.ref x, .int (Int32.ofNat V.slots.size)])) rfl (by rw [hml]; rfl) c3 (argsL := []) (rest := [.int (Int32.ofNat V.slots.size)]) rfl rfl (by show 2 * 0 + (1 + 0) ≤ _; decide) (hb hbytes d6) (⟨rfl, hx2.2.2.1, hx.2.2.2.2.1.cd, s1.there X2.warmed.alike hh2, hz⟩)
  obtain ⟨rfl, q4⟩ := E4
  have c5 : Steps p.tables e below (s₁.setTop (entryFrame m #[.ref x] 1)) (T4.setTop (mkF m 10 #[.val (.ref x)] [.int (Int32.ofNat V.slots.size >>> (cd &&& 31))])) := Steps.trans g4 (by
    refine ishr X4.here hexec rfl (hb hbytes d9) rfl ?_
    exact Steps.refl _)
  rw [hx.2.2.2.2.1.len v31] at c5
  exact ⟨T4, some (.int (Int32.ofNat n)), _, _, _, X4, rfl, rfl, rfl, (fun h => by cases h), ⟨rfl, q4.trans hh2⟩, fun fs hl => c5.trans (X4.ireturnOut hexec hret rfl (Or.inl rfl) (hb hbytes d10) hl)⟩
theorem pays {l : Launch} {R : Room} {p : Program} {e : Env} {below : List Frame} {s : State} {sargs : Array Value} {len W : Nat} (x t : Addr) (V : Cell) (cd : Int32) (n : Nat) (f : Nat → Int32) (z : Int32) (htab : tab.before sargs s = true) (hfr : 2 ≤ R.frames) (hlo : W + 25 ≤ R.locals) :
    Back l R p e below s sargs yN len W (fun A₁ a₁ => A₁.cells + 0 ≤ R.cells ∧ A₁.slots + 0 ≤ R.slots ∧ P x t V cd n f z a₁ A₁.U) (fun A₁ _ v₁ B₁ => E n v₁ A₁.U B₁.U ∧ B₁.locs = A₁.locs ++ [] ∧ B₁.cells = A₁.cells + 0 ∧ B₁.slots = A₁.slots + 0) :=
  (law l x t V cd n f z).pays htab hfr (by omega)
end Len
end StrChars
namespace StrChars.Road
open Jvm Sem ClassFile Op Lib Jvm.Stand Jvm.Free Jvm.Free.XT
open Jvm.Lib.Cold (StaticIs)
theorem consq {a : Array Value} {s : State} {c : Jvm.Cond} {L : List Jvm.Cond} (h0 : c.before a s = true) (h : ∀ w ∈ L, w.before a s = true) : ∀ w ∈ c :: L, w.before a s = true := fun w hw => (List.mem_cons.mp hw).elim (fun e => e ▸ h0) (h w)
/-- the words of String.length(), either coding -/
abbrev wordsLen : List Jvm.Cond := [.code Len.yN Len.yB 1 (some .int), .initialized ST, .fieldLink ST 9 ST "value" "[B", .fieldLink ST 38 ST "COMPACT_STRINGS" "Z", .fieldLink ST 15 ST "coder" "B", .code Cdr.yN Cdr.yB 1 (some .byte), .methodLink ST 335 Cdr.yN, .declares Cdr.yN, .selects ST Cdr.yN Cdr.yN, .instanceMethod Cdr.yN]
theorem tabLen_of {a : Array Value} {s : State} (h : ∀ w ∈ wordsLen, w.before a s = true) : Len.tab.before a s = true := by
  have hc : Cdr.tab.before a s = true := unparts (wk h (.code Cdr.yN Cdr.yB 1 (some .byte))) (wks h (.initialized Cdr.yN.cls :: Cdr.site))
  have q := consq hc h
  exact unparts (wk q (.code Len.yN Len.yB 1 (some .int))) (wks q (.initialized Len.yN.cls :: Len.site))
theorem movedLen {Z s : State} {a0 args : Array Value} (hZ : Z.Warmed39 s.vm) (hw : ∀ d ∈ wordsLen, d.before a0 Z = true) : ∀ d ∈ wordsLen, d.before args s = true := fun d hd => by
  have q := hw d hd
  have t : ∀ d ∈ wordsLen, d = .arrayClass .byte ∨ (d.onTables && d.keepsFace) = true := by decide +kernel
  rcases t d hd with rfl | t
  · exact RoadKit.mvA hZ q
  · exact RoadKit.mv hZ q t
/-- the bytes of the chars cs, low before high -/
def wideBytes : List Int32 → List Value
  | [] => []
  | c :: cs => .int (lo8 c) :: .int (hi8 c) :: wideBytes cs
theorem wide_lo (d : Value) : ∀ (cs : List Int32) (j : Nat), j < cs.length → (wideBytes cs).getD (2 * j) d = .int (lo8 (cs.getD j 0))
  | [], j, h => absurd h (Nat.not_lt_zero j)
  | c :: cs, 0, _ => rfl
  | c :: cs, j + 1, h => by
    have q := wide_lo d cs j (by simpa using h)
    rw [show 2 * (j + 1) = 2 * j + 1 + 1 from by omega]
    simpa [wideBytes] using q
theorem wide_hi (d : Value) : ∀ (cs : List Int32) (j : Nat), j < cs.length → (wideBytes cs).getD (2 * j + 1) d = .int (hi8 (cs.getD j 0))
  | [], j, h => absurd h (Nat.not_lt_zero j)
  | c :: cs, 0, _ => rfl
  | c :: cs, j + 1, h => by
    have q := wide_hi d cs j (by simpa using h)
    rw [show 2 * (j + 1) + 1 = 2 * j + 1 + 1 + 1 from by omega]
    simpa [wideBytes] using q
theorem low_at (d : Value) (cs : List Int32) (j : Nat) (h : j < cs.length) : (cs.map fun c => Value.int (lo8 c)).getD j d = .int (lo8 (cs.getD j 0)) := by
  simp [List.getD_eq_getElem?_getD, h]
/-- an array of N2 bytes vs codes the chars cs by the coder cd -/
def CodA (cs : List Int32) (cd N2 : Int32) (vs : List Value) : Prop := (cd = 0 ∧ N2 = Int32.ofNat cs.length ∧ vs = (cs.map fun c => Value.int (lo8 c)) ∧ ∀ c ∈ cs, ¬ 255 < c) ∨ (cd = 1 ∧ N2 = Int32.ofNat (2 * cs.length) ∧ vs = wideBytes cs ∧ ∃ c ∈ cs, 255 < c)
theorem CodA.cod {cs : List Int32} {cd N2 : Int32} {vs : List Value} {V : Cell} (h : CodA cs cd N2 vs) (hn : 2 * cs.length < 2 ^ 31) (hs : V.slots.size = N2.toNatClampNeg) (hv : RoadKit.Has V vs (.int 0)) : Cod cd cs.length (fun j => cs.getD j 0) V := by
  rcases h with ⟨rfl, rfl, rfl, h⟩ | ⟨rfl, rfl, rfl, c, hc, hw⟩
  · rw [n32 (by omega)] at hs
    exact Or.inl ⟨rfl, hs, fun j hj => ⟨by rw [hv j (by omega), low_at _ _ _ hj], by
      have e : cs.getD j 0 = cs[j] := by simp [List.getD_eq_getElem?_getD, hj]
      show ¬ 255 < cs.getD j 0
      rw [e]; exact h _ (List.getElem_mem _)⟩⟩
  · rw [n32 (by omega)] at hs
    obtain ⟨j, hj, rfl⟩ := List.getElem_of_mem hc
    exact Or.inr ⟨rfl, hs, fun j hj => ⟨by rw [hv _ (by omega), wide_lo _ _ _ hj], by rw [hv _ (by omega), wide_hi _ _ _ hj]⟩, j, hj, by
      have e : cs.getD j 0 = cs[j] := by simp [List.getD_eq_getElem?_getD, hj]
      show 255 < cs.getD j 0
      rw [e]; exact hw⟩
/-- an object of exactly java/lang/String, its two fields found: as the laws ask it -/
theorem strObj {Z U : State} {a0 : Array Value} {kI : Nat} (wi : (Jvm.Cond.instantiable ST kI).before a0 Z = true) (al : Z.vm.Alike U.vm) {x : Addr} {v0 c0 : Value} (E : RoadKit.Exa Z U.heap x ST) (V : RoadKit.Fld Z U.heap x ST "value" "[B" v0) (C : RoadKit.Fld Z U.heap x ST "coder" "B" c0) :
    ∃ (D : Cell) (fV fC : Field), Blank ST x D U ∧ Found ST "value" "[B" fV U ∧ Found ST "coder" "B" fC U ∧ D.slots[fV.slot]? = some v0 ∧ D.slots[fC.slot]? = some c0 ∧ RoadKit.slotOf Z ST "value" "[B" = fV.slot ∧ RoadKit.slotOf Z ST "coder" "B" = fC.slot := by
  obtain ⟨D, cfV, kV, iV, fV, hD, gV, stV, knV, obV, asV, slV⟩ := V
  obtain ⟨D', cfC, kC, iC, fC, hD', gC, stC, -, -, asC, slC⟩ := C
  cases hD.symm.trans hD'
  obtain ⟨D2, kD, e1, e2, e3, e4, e5⟩ := E
  cases hD.symm.trans e1
  obtain ⟨c2, k2, i1, i2, i3, -⟩ := Cond.instantiable_spec wi
  cases e2.symm.trans i1
  cases e3.symm.trans i2
  obtain ⟨kU, u1, u2⟩ := al.2.2 _ _ e3
  exact ⟨D, fV, fC, ⟨hD, ⟨knV, fun q hq => by rw [hq] at obV; cases obV⟩, by rw [al.findClass]; exact e2, kU, u1, by rw [u2]; exact i3, by rw [u2]; exact e5 i3⟩, ⟨SBG.found_only al ⟨cfV, kV, iV, gV⟩, stV⟩, ⟨SBG.found_only al ⟨cfC, kC, iC, gC⟩, stC⟩, slV, slC, by simp [RoadKit.slotOf, gV], by simp [RoadKit.slotOf, gC]⟩
theorem sta_is {Z U : State} (al : Z.vm.Alike U.vm) {C n d : String} {v : Value} (S : RoadKit.Sta Z U.heap C n d v) : StaticIs U C n d v := by
  obtain ⟨cfS, iS, kS, fS, st, cS, t1, t2, t3, t4, t5, t6, t7⟩ := S
  exact StaticIs.there (s := { Z with heap := U.heap }) ⟨cfS, iS, kS, fS, st, cS, t1, t2, t3, t4, t5, (fun q => by rw [q] at t6; cases t6), t7⟩ al rfl
/-- **length() OF SUCH A STRING** -/
theorem lenW {p : Program} {l : Launch} {e : Env} {R : Room} {s : State} {args : Array Value} {below : List Frame} {len W : Nat} {Z : State} {a0 : Array Value} {h : Heap} (hZ : Z.Warmed39 s.vm) (hw : ∀ d ∈ wordsLen, d.before a0 Z = true) {kI : Nat} (wi : (Jvm.Cond.instantiable ST kI).before a0 Z = true)
    {x t : Addr} {kb : ClassId} {cs : List Int32} {cd N2 z : Int32} {vs : List Value} (E : RoadKit.Exa Z h x ST) (V : RoadKit.Fld Z h x ST "value" "[B" (.ref t)) (C : RoadKit.Fld Z h x ST "coder" "B" (.int cd)) (K : RoadKit.Arv Z h t kb .byte N2 vs (.int 0)) (hc : CodA cs cd N2 vs) (hb : ∀ c ∈ cs, ¬ c < 0 ∧ ¬ (65535 : Int32) < c)
    (S : RoadKit.Sta Z h ST "COMPACT_STRINGS" "Z" (.int z)) (hz : ¬ z = 0) (l2 : cs.length ≤ 4000) (hfr : 2 ≤ R.frames) (hlo : W + 25 ≤ R.locals) :
    Back l R p e below s args (⟨"java/lang/String", "length", "()I"⟩ : MethodName) len W (fun P a => a = #[.ref x] ∧ P.U.heap = h ∧ P.cells + 0 ≤ R.cells ∧ P.slots + 0 ≤ R.slots)
      (fun P _ v B => ∃ L, (v = some (.int (Int32.ofNat cs.length)) ∧ L = [] ∧ B.U.heap = h) ∧ B.locs = P.locs ++ L ∧ B.cells = P.cells + 0 ∧ B.slots = P.slots + 0) := by
  obtain ⟨A, K1, K2, K3, K4, K5, K6⟩ := K
  have hcod := hc.cod (by omega) K3 K5
  intro m meth c P g ig mk a X hg hsize hdg hW hn hp'
  obtain ⟨rfl, rfl, r1, r2⟩ := hp'
  have al : Z.vm.Alike P.U.vm := hZ.alike.trans X.warmed.alike
  obtain ⟨D, fV, fC, hB, F1, F2, g1, g2, -, -⟩ := strObj wi al E V C
  have hx : Txt x t A cd cs.length (fun j => cs.getD j 0) P.U := ⟨⟨_, hB.2.2.1, D, hB.1, rfl, by cases q : D.vm <;> first | rfl | exact absurd q (hB.2.1.2 _)⟩, Has.of hB F1 g1, Has.of hB F2 g2, ⟨K1.1, State.isArrayOf_alike al K1.2.1, K1.2.2, by rcases hcod with ⟨-, q, -⟩ | ⟨-, q, -⟩ <;> omega⟩, hcod, fun j hj => by
    have e : cs.getD j 0 = cs[j] := by simp [List.getD_eq_getElem?_getD, hj]
    show ¬ cs.getD j 0 < 0 ∧ ¬ 65535 < cs.getD j 0
    rw [e]; exact hb _ (List.getElem_mem _)⟩
  obtain ⟨v, B, X', ⟨⟨hv, hh⟩, hl, hk, hs⟩, st⟩ := Len.pays x t A cd cs.length (fun j => cs.getD j 0) z (tabLen_of (movedLen hZ hw)) hfr hlo m meth c P g ig mk _ X hg hsize hdg hW hn ⟨r1, r2, rfl, hx, sta_is al S, hz⟩
  exact ⟨v, B, X', ⟨[], ⟨hv, rfl, hh⟩, hl, hk, hs⟩, st⟩
end StrChars.Road
namespace StrChars.Road
open Jvm Sem ClassFile Op Lib Jvm.Stand Jvm.Free Jvm.Free.XT
open Jvm.Lib.Cold (StaticIs)
/-- what backV says of its String, as the contracts of this text ask it: cs's low bytes, coder 0 -/
theorem codOf {cs : List Int32} {n : Nat} (hn : cs.length = n) (hb : ∀ c ∈ cs, ¬ 255 < c) : CodA cs 0 (Int32.ofNat n) ((cs.map lo8).map Value.int) := Or.inl ⟨rfl, by rw [hn], by simp [List.map_map, Function.comp_def], hb⟩
end StrChars.Road
end Jvm.Pilot.@@N@@
namespace Jvm.Pilot.@@N@@
open Jvm Jvm.ClassFile Sem Op Lib Jvm.Free Jvm.Stand Jvm.LawKit Jvm.RoadKit Bundle Jvm.Pilot.@@N@@.Jvm.D
abbrev y_0 : MethodName := ⟨"java/lang/StringUTF16", "putChar", "([BII)V"⟩
abbrev y_1 : MethodName := ⟨"java/lang/StringUTF16", "getChar", "([BI)C"⟩
abbrev y_2 : MethodName := ⟨"java/lang/StringUTF16", "newBytesLength", "(I)I"⟩
abbrev y_3 : MethodName := ⟨"java/lang/StringUTF16", "newBytesFor", "(I)[B"⟩
abbrev y_4 : MethodName := ⟨"java/lang/StringUTF16", "toBytes", "([CII)[B"⟩
abbrev y_5 : MethodName := ⟨"java/lang/StringUTF16", "compress", "([CI[BII)I"⟩
abbrev y_6 : MethodName := ⟨"java/lang/StringUTF16", "compress", "([CII)[B"⟩
abbrev y_7 : MethodName := ⟨"java/lang/StringUTF16", "coderFromArrayLen", "([BI)B"⟩
abbrev y_8 : MethodName := ⟨"java/lang/String", "<init>", "([CIILjava/lang/Void;)V"⟩
abbrev y_9 : MethodName := ⟨"java/lang/String", "<init>", "([C)V"⟩
abbrev y_10 : MethodName := ⟨"java/lang/String", "coder", "()B"⟩
abbrev y_11 : MethodName := ⟨"java/lang/AbstractStringBuilder", "isLatin1", "()Z"⟩
abbrev y_12 : MethodName := ⟨"java/lang/String", "length", "()I"⟩
abbrev y_13 : MethodName := ⟨"java/lang/AbstractStringBuilder", "ensureCapacityInternal", "(I)V"⟩
abbrev y_14 : MethodName := ⟨"java/lang/StringUTF16", "length", "([B)I"⟩
abbrev y_15 : MethodName := ⟨"jdk/internal/util/Preconditions", "checkFromIndexSize", "(IIILjava/util/function/BiFunction;)I"⟩
abbrev y_16 : MethodName := ⟨"java/lang/String", "checkBoundsOffCount", "(III)I"⟩
abbrev y_17 : MethodName := ⟨"java/lang/StringUTF16", "checkBoundsOffCount", "(II[B)V"⟩
abbrev y_18 : MethodName := ⟨"java/lang/StringUTF16", "inflate", "([BI[BII)V"⟩
abbrev y_19 : MethodName := ⟨"java/lang/StringLatin1", "inflate", "([BI[BII)V"⟩
abbrev y_20 : MethodName := ⟨"java/lang/AbstractStringBuilder", "inflate", "()V"⟩
abbrev y_21 : MethodName := ⟨"java/lang/AbstractStringBuilder", "inflateIfNeededFor", "(Ljava/lang/String;)V"⟩
abbrev y_22 : MethodName := ⟨"java/lang/String", "getBytes", "([BIB)V"⟩
abbrev y_23 : MethodName := ⟨"java/lang/AbstractStringBuilder", "putStringAt", "(ILjava/lang/String;)V"⟩
abbrev y_24 : MethodName := ⟨"java/lang/AbstractStringBuilder", "append", "(Ljava/lang/String;)Ljava/lang/AbstractStringBuilder;"⟩
abbrev y_25 : MethodName := ⟨"java/lang/StringBuilder", "append", "(Ljava/lang/String;)Ljava/lang/StringBuilder;"⟩
abbrev y_26 : MethodName := ⟨"java/lang/AbstractStringBuilder", "getValue", "()[B"⟩
abbrev y_27 : MethodName := ⟨"java/lang/AbstractStringBuilder", "length", "()I"⟩
abbrev y_28 : MethodName := ⟨"java/lang/StringBuilder", "length", "()I"⟩
abbrev y_29 : MethodName := ⟨"java/util/Arrays", "checkLength", "(II)V"⟩
abbrev y_30 : MethodName := ⟨"java/lang/Math", "min", "(II)I"⟩
abbrev y_31 : MethodName := ⟨"java/util/Arrays", "copyOfRangeByte", "([BII)[B"⟩
abbrev y_32 : MethodName := ⟨"java/util/Arrays", "copyOfRange", "([BII)[B"⟩
abbrev y_33 : MethodName := ⟨"java/lang/String", "<init>", "(Ljava/lang/AbstractStringBuilder;Ljava/lang/Void;)V"⟩
abbrev y_34 : MethodName := ⟨"java/lang/String", "<init>", "(Ljava/lang/StringBuilder;)V"⟩
abbrev y_35 : MethodName := ⟨"java/lang/StringBuilder", "toString", "()Ljava/lang/String;"⟩
abbrev y_36 : MethodName := ⟨"java/lang/AbstractStringBuilder", "<init>", "(I)V"⟩
abbrev y_37 : MethodName := ⟨"java/lang/StringBuilder", "<init>", "()V"⟩
abbrev y_38 : MethodName := ⟨"jdk/internal/util/Preconditions", "checkIndex", "(IILjava/util/function/BiFunction;)I"⟩
abbrev y_39 : MethodName := ⟨"java/lang/String", "checkIndex", "(II)V"⟩
abbrev y_40 : MethodName := ⟨"java/lang/String", "isLatin1", "()Z"⟩
abbrev y_41 : MethodName := ⟨"java/lang/StringLatin1", "charAt", "([BI)C"⟩
abbrev y_42 : MethodName := ⟨"java/lang/StringUTF16", "checkIndex", "(I[B)V"⟩
abbrev y_43 : MethodName := ⟨"java/lang/StringUTF16", "charAt", "([BI)C"⟩
abbrev y_44 : MethodName := ⟨"java/lang/String", "charAt", "(I)C"⟩
abbrev y_45 : MethodName := ⟨"java/lang/StringLatin1", "canEncode", "(C)Z"⟩
abbrev y_46 : MethodName := ⟨"java/lang/StringLatin1", "toBytes", "(C)[B"⟩
abbrev y_47 : MethodName := ⟨"java/lang/StringUTF16", "toBytes", "(C)[B"⟩
abbrev y_48 : MethodName := ⟨"java/lang/String", "<init>", "([BB)V"⟩
abbrev y_49 : MethodName := ⟨"java/lang/String", "valueOf", "(C)Ljava/lang/String;"⟩
abbrev y_50 : MethodName := ⟨"com/example/frist/frist/TableNameQualifiedPinLaw", "mk", "(ICC)Ljava/lang/String;"⟩
abbrev y_51 : MethodName := ⟨"java/lang/Record", "<init>", "()V"⟩
abbrev y_52 : MethodName := ⟨"com/example/frist/frist/TableName", "<init>", "(Ljava/lang/String;Ljava/lang/String;)V"⟩
abbrev y_53 : MethodName := ⟨"com/example/frist/frist/TableName", "qualified", "()Ljava/lang/String;"⟩
abbrev y_54 : MethodName := ⟨"com/example/frist/frist/TableNameQualifiedPinLaw", "ok", "(Ljava/lang/String;IIICCCC)Z"⟩
abbrev r_m0 : Room := { frames := 0, cells := 0, slots := 0, locals := 0 }
abbrev r_m1 : Room := { frames := 1, cells := 1, slots := 4, locals := 12 }
abbrev r_m2 : Room := { frames := 2, cells := 1, slots := 4, locals := 24 }
abbrev r_m3 : Room := { frames := 3, cells := 2, slots := 6, locals := 40 }
abbrev r_m4 : Room := { frames := 4, cells := 2, slots := 6, locals := 57 }
abbrev r_m5 : Room := { frames := 5, cells := 2, slots := 6, locals := 74 }
abbrev r_m6 : Room := { frames := 1, cells := 0, slots := 0, locals := 15 }
abbrev r_m7 : Room := { frames := 2, cells := 0, slots := 0, locals := 30 }
abbrev r_m8 : Room := { frames := 3, cells := 0, slots := 0, locals := 45 }
abbrev r_m9 : Room := { frames := 4, cells := 0, slots := 0, locals := 62 }
abbrev r_m10 : Room := { frames := 1, cells := 1, slots := 36, locals := 12 }
abbrev r_m11 : Room := { frames := 5, cells := 1, slots := 36, locals := 80 }
abbrev r_m12 : Room := { frames := 1, cells := 0, slots := 0, locals := 13 }
abbrev r_m13 : Room := { frames := 6, cells := 1, slots := 36, locals := 95 }
abbrev r_m14 : Room := { frames := 5, cells := 0, slots := 0, locals := 80 }
abbrev r_m15 : Room := { frames := 7, cells := 0, slots := 0, locals := 110 }
abbrev r_m16 : Room := { frames := 8, cells := 0, slots := 0, locals := 126 }
abbrev r_m17 : Room := { frames := 9, cells := 0, slots := 0, locals := 142 }
abbrev r_m18 : Room := { frames := 7, cells := 1, slots := 36, locals := 110 }
abbrev r_m19 : Room := { frames := 8, cells := 1, slots := 36, locals := 126 }
abbrev r_m20 : Room := { frames := 9, cells := 1, slots := 36, locals := 142 }
abbrev r_m21 : Room := { frames := 1, cells := 0, slots := 0, locals := 14 }
abbrev r_m22 : Room := { frames := 1, cells := 1, slots := 36, locals := 40 }
abbrev r_m23 : Room := { frames := 2, cells := 1, slots := 36, locals := 60 }
abbrev r_m24 : Room := { frames := 3, cells := 1, slots := 36, locals := 80 }
abbrev r_m25 : Room := { frames := 4, cells := 1, slots := 36, locals := 100 }
abbrev r_m26 : Room := { frames := 5, cells := 2, slots := 40, locals := 120 }
abbrev r_m27 : Room := { frames := 1, cells := 1, slots := 16, locals := 13 }
abbrev r_m28 : Room := { frames := 2, cells := 1, slots := 16, locals := 30 }
abbrev r_m29 : Room := { frames := 1, cells := 0, slots := 0, locals := 20 }
abbrev r_m30 : Room := { frames := 2, cells := 0, slots := 0, locals := 40 }
abbrev r_m31 : Room := { frames := 3, cells := 0, slots := 0, locals := 60 }
abbrev r_m32 : Room := { frames := 4, cells := 0, slots := 0, locals := 76 }
abbrev r_m33 : Room := { frames := 0, cells := 1, slots := 1, locals := 0 }
abbrev r_m34 : Room := { frames := 1, cells := 1, slots := 2, locals := 20 }
abbrev r_m35 : Room := { frames := 1, cells := 0, slots := 0, locals := 12 }
abbrev r_m36 : Room := { frames := 2, cells := 2, slots := 6, locals := 50 }
abbrev r_m37 : Room := { frames := 1, cells := 2, slots := 4, locals := 12 }
abbrev r_m38 : Room := { frames := 2, cells := 2, slots := 4, locals := 30 }
abbrev r_m39 : Room := { frames := 6, cells := 4, slots := 20, locals := 92 }
abbrev r_m40 : Room := { frames := 10, cells := 7, slots := 120, locals := 160 }
abbrev r_m41 : Room := { frames := 5, cells := 0, slots := 0, locals := 92 }
/-- from the state A the run comes to an end with P -/
def Gl (tb : Tables) (e : Env) (below : List Frame) (P : Outcome → State → Prop) (A : State) : Prop := ∃ U o, Steps tb e below A U ∧ U.status = .running ∧ Ended U below o ∧ P o U
theorem Gl.go {tb : Tables} {e : Env} {below : List Frame} {P : Outcome → State → Prop} {A B : State} (h : ∀ t, Steps tb e below B t → Steps tb e below A t) (k : Gl tb e below P B) : Gl tb e below P A := by
  obtain ⟨U, o, h1, r⟩ := k
  exact ⟨U, o, h U h1, r⟩
theorem Gl.st {tb : Tables} {e : Env} {below : List Frame} {P : Outcome → State → Prop} {A B : State} (h : Steps tb e below A B) (k : Gl tb e below P B) : Gl tb e below P A := by
  obtain ⟨U, o, h1, r⟩ := k
  exact ⟨U, o, h.trans h1, r⟩
/-- from the state A the run comes to the frame F over a state of which P holds -/
def Sg (P : State → Prop) (F : JFrame) (tb : Tables) (e : Env) (below : List Frame) (A : State) : Prop := ∃ T, P T ∧ ∀ t, Steps tb e below (T.setTop F) t → Steps tb e below A t
theorem Sg.go {P : State → Prop} {F : JFrame} {tb : Tables} {e : Env} {below : List Frame} {A B : State} (h : ∀ t, Steps tb e below B t → Steps tb e below A t) (k : Sg P F tb e below B) : Sg P F tb e below A := by
  obtain ⟨T, h1, h2⟩ := k
  exact ⟨T, h1, fun t ht => h t (h2 t ht)⟩
theorem Sg.st {P : State → Prop} {F : JFrame} {tb : Tables} {e : Env} {below : List Frame} {A B : State} (h : Steps tb e below A B) (k : Sg P F tb e below B) : Sg P F tb e below A := by
  obtain ⟨T, h1, h2⟩ := k
  exact ⟨T, h1, fun t ht => h.trans (h2 t ht)⟩
/-- what is shown of a state holds also where the run comes from -/
def Cl (tb : Tables) (e : Env) (below : List Frame) (K : State → Prop) : Prop := ∀ A B, (∀ t, Steps tb e below B t → Steps tb e below A t) → K B → K A
theorem Gl.cl {tb : Tables} {e : Env} {below : List Frame} {P : Outcome → State → Prop} : Cl tb e below (Gl tb e below P) := fun _ _ h k => Gl.go h k
theorem Sg.cl {P : State → Prop} {F : JFrame} {tb : Tables} {e : Env} {below : List Frame} : Cl tb e below (Sg P F tb e below) := fun _ _ h k => Sg.go h k
section Glue
variable {p : Program} {l : Launch} {e : Env} {R : Room} {s : State} {m : MethodId} {args : Array Value} {below : List Frame} {meth : Method} {c : Code} {T : State} {locs : List Loc} {cells slots : Nat} {Z : State} {a0 : Array Value} {h : Heap} {K0 : State → Prop} {pc : Nat} {Ls : Array Slot} {Ks : List Value} {rest : List Value}
theorem gGetF {own R0 O n d host : String} {index : Nat} {a : Addr} {v : Value} (hG : Cl p.tables e below K0) (X : Stand p l e R s m args below meth c T locs cells slots) (hx : p.tables.exec = Jvm.exec) (hZ : Z.Warmed39 s.vm) (hown : s.vm.findClass own = some m.cls) (w : (Cond.fieldLink own index R0 n d).before a0 Z = true ∨ (Cond.fieldLinkNest own index R0 n d host).before a0 Z = true) (via : Via Z R0 O n d) (eT : T.heap = h) (F : Fld Z h a O n d v) (hg : m = m) (hs : Ks = .ref a :: rest) (hd : decode c.code pc = .ok (.getfield index, 3))
    (k : ∀ T', Stand p l e R s m args below meth c T' locs cells slots → T'.heap = h → K0 (T'.setTop (mkF m (pc + 3) (Ls) (v :: rest)))) : K0 (T.setTop (mkF m pc Ls Ks)) := by
  obtain ⟨T', X', e', st⟩ := getF (g := mkF m pc Ls Ks) X hx hZ hown w via eT F hg hs hd
  exact hG _ _ st (k T' X' e')
theorem gGetS {own R0 O n d host : String} {index : Nat} {v : Value} (hG : Cl p.tables e below K0) (X : Stand p l e R s m args below meth c T locs cells slots) (hx : p.tables.exec = Jvm.exec) (hZ : Z.Warmed39 s.vm) (hown : s.vm.findClass own = some m.cls) (w : (Cond.fieldLink own index R0 n d).before a0 Z = true ∨ (Cond.fieldLinkNest own index R0 n d host).before a0 Z = true) (via : Via Z R0 O n d) (eT : T.heap = h) (F : Sta Z h O n d v) (hg : m = m) (hd : decode c.code pc = .ok (.getstatic index, 3))
    (k : ∀ T', Stand p l e R s m args below meth c T' locs cells slots → T'.heap = h → K0 (T'.setTop (mkF m (pc + 3) (Ls) (v :: Ks)))) : K0 (T.setTop (mkF m pc Ls Ks)) := by
  obtain ⟨T', X', e', st⟩ := getS2 (g := mkF m pc Ls Ks) X hx hZ hown w via eT F hg hd
  exact hG _ _ st (k T' X' e')
theorem gPutF {own R0 O n d host C : String} {index kk : Nat} {ty : FieldType} {a : Addr} {v old : Value} (hG : Cl p.tables e below K0) (X : Stand p l e R s m args below meth c T locs cells slots) (hx : p.tables.exec = Jvm.exec) (hZ : Z.Warmed39 s.vm) (hown : s.vm.findClass own = some m.cls) (w : (Cond.fieldLink own index R0 n d).before a0 Z = true ∨ (Cond.fieldLinkNest own index R0 n d host).before a0 Z = true) (via : Via Z R0 O n d) (eT : T.heap = h) (F : Fld Z h a O n d old) (E : Exa Z h a C) (L : (Cond.lays C O n d).before a0 Z = true ∨ ((Cond.laysFinal C O n d).before a0 Z = true ∧ own = O ∧ meth.name = "<init>")) (wi : (Cond.instantiable C kk).before a0 Z = true) (hty : parseFieldDescriptor d = some ty) (hn : narrow ty v = v) (hf : fits ty v = true) (hg : m = m) (hs : Ks = v :: .ref a :: rest) (hd : decode c.code pc = .ok (.putfield index, 3))
    (k : ∀ T' h', Stand p l e R s m args below meth c T' (locs ++ [⟨a, Jvm.RoadKit.slotOf Z O n d⟩]) cells slots → T'.heap = h' → Wr h h' a (Jvm.RoadKit.slotOf Z O n d) v → K0 (T'.setTop (mkF m (pc + 3) (Ls) (rest)))) : K0 (T.setTop (mkF m pc Ls Ks)) := by
  obtain ⟨T', h', X', e', W, st⟩ := putF (g := mkF m pc Ls Ks) X hx hZ hown w via eT F E L wi hty hn hf hg hs hd
  exact hG _ _ st (k T' h' X' e' W)
theorem gPutFN {own R0 O n d C : String} {index kk : Nat} {ty : FieldType} {a : Addr} {v v' old : Value} (hG : Cl p.tables e below K0) (X : Stand p l e R s m args below meth c T locs cells slots) (hx : p.tables.exec = Jvm.exec) (hZ : Z.Warmed39 s.vm) (hown : s.vm.findClass own = some m.cls) (w : (Cond.fieldLink own index R0 n d).before a0 Z = true) (via : Via Z R0 O n d) (eT : T.heap = h) (F : Fld Z h a O n d old) (E : Exa Z h a C) (L : (Cond.lays C O n d).before a0 Z = true ∨ ((Cond.laysFinal C O n d).before a0 Z = true ∧ own = O ∧ meth.name = "<init>")) (wi : (Cond.instantiable C kk).before a0 Z = true) (hty : parseFieldDescriptor d = some ty) (hn : narrow ty v = v') (hf : fits ty v' = true) (hg : m = m) (hs : Ks = v :: .ref a :: rest) (hd : decode c.code pc = .ok (.putfield index, 3))
    (k : ∀ T' h', Stand p l e R s m args below meth c T' (locs ++ [⟨a, Jvm.RoadKit.slotOf Z O n d⟩]) cells slots → T'.heap = h' → Wr h h' a (Jvm.RoadKit.slotOf Z O n d) v' → K0 (T'.setTop (mkF m (pc + 3) (Ls) (rest)))) : K0 (T.setTop (mkF m pc Ls Ks)) := by
  obtain ⟨T', h', X', e', W, st⟩ := putFN (g := mkF m pc Ls Ks) X hx hZ hown w via eT F E L wi hty hn hf hg hs hd
  exact hG _ _ st (k T' h' X' e' W)
theorem gCast {own K : String} {index : Nat} {a : Addr} (hG : Cl p.tables e below K0) (X : Stand p l e R s m args below meth c T locs cells slots) (hx : p.tables.exec = Jvm.exec) (hZ : Z.Warmed39 s.vm) (hown : s.vm.findClass own = some m.cls) (w : (Cond.classLink own index K).before a0 Z = true) (eT : T.heap = h) (F : Ins Z h a K true) (hg : m = m) (hs : Ks = .ref a :: rest) (hd : decode c.code pc = .ok (.checkcast index, 3))
    (k : ∀ T', Stand p l e R s m args below meth c T' locs cells slots → T'.heap = h → K0 (T'.setTop (mkF m (pc + 3) (Ls) (Ks)))) : K0 (T.setTop (mkF m pc Ls Ks)) := by
  obtain ⟨T', X', e', st⟩ := castY (g := mkF m pc Ls Ks) X hx hZ hown w eT F hg hs hd
  exact hG _ _ st (k T' X' e')
theorem gInst {own K : String} {index : Nat} {a : Addr} (hG : Cl p.tables e below K0) (X : Stand p l e R s m args below meth c T locs cells slots) (hx : p.tables.exec = Jvm.exec) (hZ : Z.Warmed39 s.vm) (hown : s.vm.findClass own = some m.cls) (w : (Cond.classLink own index K).before a0 Z = true) (eT : T.heap = h) (F : Ins Z h a K true) (hg : m = m) (hs : Ks = .ref a :: rest) (hd : decode c.code pc = .ok (.instanceof index, 3))
    (k : ∀ T', Stand p l e R s m args below meth c T' locs cells slots → T'.heap = h → K0 (T'.setTop (mkF m (pc + 3) (Ls) (.int 1 :: rest)))) : K0 (T.setTop (mkF m pc Ls Ks)) := by
  obtain ⟨T', X', e', st⟩ := instY (g := mkF m pc Ls Ks) X hx hZ hown w eT F hg hs hd
  exact hG _ _ st (k T' X' e')
theorem gInit {own : String} {idx : Nat} {a : Addr} {W : Nat} (hG : Cl p.tables e below K0) (X : Stand p l e R s m args below meth c T locs cells slots) (hx : p.tables.exec = Jvm.exec) (hZ : Z.Warmed39 s.vm) (hown : s.vm.findClass own = some m.cls) (w1 : (Cond.methodLink own idx Lib.objectInit).before a0 Z = true) (w2 : (Cond.instanceMethod Lib.objectInit).before a0 Z = true) (w3 : (Cond.code Lib.objectInit ⟨#[0xb1]⟩ 1 none).before a0 Z = true) (eT : T.heap = h) (hg : m = m) (hsize : Ls.size = c.maxLocals) (hs : Ks = .ref a :: rest) (hd : decode c.code pc = .ok (.invokespecial idx, 3)) (hf : 1 ≤ R.frames) (hW : 2 * 0 + (rest.map fun v => v.category).sum ≤ W) (hl : W + 12 ≤ R.locals)
    (k : ∀ T', Stand p l e R s m args below meth c T' locs cells slots → T'.heap = h → K0 (T'.setTop (mkF m (pc + 3) (Ls) (rest)))) : K0 (T.setTop (mkF m pc Ls Ks)) := by
  obtain ⟨T', X', e', st⟩ := initO (g := mkF m pc Ls Ks) X hx hZ hown w1 w2 w3 eT hg hsize hs hd hf hW hl
  exact hG _ _ st (k T' X' e')
theorem gNew {own C : String} {index n : Nat} (hG : Cl p.tables e below K0) (X : Stand p l e R s m args below meth c T locs cells slots) (hx : p.tables.exec = Jvm.exec) (hZ : Z.Warmed39 s.vm) (hown : s.vm.findClass own = some m.cls) (w : (Cond.classLink own index C).before a0 Z = true) (wi : (Cond.instantiable C n).before a0 Z = true) (wz : (Cond.initialized C).before a0 Z = true) (eT : T.heap = h) (hg : m = m) (hd : decode c.code pc = .ok (.new index, 3)) (hc : cells + 1 ≤ R.cells) (hl : slots + n ≤ R.slots)
    (k : ∀ T' h' b, b = h.size → Stand p l e R s m args below meth c T' locs (cells + 1) (slots + n) → T'.heap = h' → Ext h h' → Exa Z h' b C → (∀ {O nm d : String} {ty : FieldType}, Laid Z a0 C O nm d → parseFieldDescriptor d = some ty → Fld Z h' b O nm d (defaultValue ty)) → K0 (T'.setTop (mkF m (pc + 3) (Ls) (.ref b :: Ks)))) : K0 (T.setTop (mkF m pc Ls Ks)) := by
  obtain ⟨T', h', X', e', E, A, D, -, st⟩ := newO (g := mkF m pc Ls Ks) X hx hZ hown w wi wz eT hg hd hc hl
  exact hG _ _ st (k T' h' _ rfl X' e' E A D)
theorem gNewP {aty : ArrayType} {n : Int32} {cap : Nat} (hG : Cl p.tables e below K0) (X : Stand p l e R s m args below meth c T locs cells slots) (hx : p.tables.exec = Jvm.exec) (hZ : Z.Warmed39 s.vm) (w : (Cond.arrayClass (newarray.typeOf aty)).before a0 Z = true) (eT : T.heap = h) (hg : m = m) (hd : decode c.code pc = .ok (.newarray aty, 2)) (hs : Ks = .int n :: rest) (hn : ¬ n < 0) (hcap : n.toNatClampNeg ≤ cap) (hb : cap * 8 ≤ 536870912) (hc : cells + 1 ≤ R.cells) (hl : slots + cap ≤ R.slots)
    (k : ∀ T' h' b cA, b = h.size → Stand p l e R s m args below meth c T' locs (cells + 1) (slots + cap) → T'.heap = h' → Ext h h' → Arr Z h' b (newA cA (newarray.typeOf aty) n) (newarray.typeOf aty) → K0 (T'.setTop (mkF m (pc + 2) (Ls) (.ref b :: rest)))) : K0 (T.setTop (mkF m pc Ls Ks)) := by
  obtain ⟨T', h', cA, X', e', E, A, st⟩ := newP (g := mkF m pc Ls Ks) X hx hZ w eT hg hd hs hn hcap hb hc hl
  exact hG _ _ st (k T' h' _ cA rfl X' e' E A)
theorem gNewPE {aty : ArrayType} {n : Int32} {cap : Nat} {ad : String} (hG : Cl p.tables e below K0) (X : Stand p l e R s m args below meth c T locs cells slots) (hx : p.tables.exec = Jvm.exec) (hZ : Z.Warmed39 s.vm) (w : (Cond.arrayClass (newarray.typeOf aty)).before a0 Z = true) (eT : T.heap = h) (hg : m = m) (hd : decode c.code pc = .ok (.newarray aty, 2)) (hs : Ks = .int n :: rest) (hn : ¬ n < 0) (hcap : n.toNatClampNeg ≤ cap) (hb : cap * 8 ≤ 536870912) (hc : cells + 1 ≤ R.cells) (hl : slots + cap ≤ R.slots) (had : "[" ++ (newarray.typeOf aty).toString = ad)
    (k : ∀ T' h' b cA, b = h.size → Stand p l e R s m args below meth c T' locs (cells + 1) (slots + cap) → T'.heap = h' → Ext h h' → Arr Z h' b (newA cA (newarray.typeOf aty) n) (newarray.typeOf aty) → Exa Z h' b ad → K0 (T'.setTop (mkF m (pc + 2) (Ls) (.ref b :: rest)))) : K0 (T.setTop (mkF m pc Ls Ks)) := by
  obtain ⟨T', h', cA, X', e', E, A, B, st⟩ := newPE (g := mkF m pc Ls Ks) X hx hZ w eT hg hd hs hn hcap hb hc hl had
  exact hG _ _ st (k T' h' _ cA rfl X' e' E A B)
theorem gstC {a : Addr} {cl : Cell} {j : Int32} {x : Int32} (hG : Cl p.tables e below K0) (X : Stand p l e R s m args below meth c T locs cells slots) (hx : p.tables.exec = Jvm.exec) (hZ : Z.Warmed39 s.vm) (eT : T.heap = h) (A : Arr Z h a cl .char) (hj : ¬ (j < 0 ∨ cl.slots.size ≤ j.toNatClampNeg)) (hg : m = m) (hs : Ks = .int x :: .int j :: .ref a :: rest) (hd : decode c.code pc = .ok (.castore, 1))
    (k : ∀ T' h', Stand p l e R s m args below meth c T' (locs ++ [⟨a, j.toNatClampNeg⟩]) cells slots → T'.heap = h' → Wr h h' a j.toNatClampNeg (.int (nar .char x)) → K0 (T'.setTop (mkF m (pc + 1) (Ls) (rest)))) : K0 (T.setTop (mkF m pc Ls Ks)) := by
  obtain ⟨T', h', X', e', W, st⟩ := stC (g := mkF m pc Ls Ks) X hx hZ eT A hj hg hs hd
  exact hG _ _ st (k T' h' X' e' W)
theorem gstI {a : Addr} {cl : Cell} {j : Int32} {x : Int32} (hG : Cl p.tables e below K0) (X : Stand p l e R s m args below meth c T locs cells slots) (hx : p.tables.exec = Jvm.exec) (hZ : Z.Warmed39 s.vm) (eT : T.heap = h) (A : Arr Z h a cl .int) (hj : ¬ (j < 0 ∨ cl.slots.size ≤ j.toNatClampNeg)) (hg : m = m) (hs : Ks = .int x :: .int j :: .ref a :: rest) (hd : decode c.code pc = .ok (.iastore, 1))
    (k : ∀ T' h', Stand p l e R s m args below meth c T' (locs ++ [⟨a, j.toNatClampNeg⟩]) cells slots → T'.heap = h' → Wr h h' a j.toNatClampNeg (.int x) → K0 (T'.setTop (mkF m (pc + 1) (Ls) (rest)))) : K0 (T.setTop (mkF m pc Ls Ks)) := by
  obtain ⟨T', h', X', e', W, st⟩ := stI (g := mkF m pc Ls Ks) X hx hZ eT A hj hg hs hd
  exact hG _ _ st (k T' h' X' e' W)
theorem gstB {a : Addr} {cl : Cell} {j : Int32} {x : Int32} (hG : Cl p.tables e below K0) (X : Stand p l e R s m args below meth c T locs cells slots) (hx : p.tables.exec = Jvm.exec) (hZ : Z.Warmed39 s.vm) (eT : T.heap = h) (A : Arr Z h a cl .byte) (hj : ¬ (j < 0 ∨ cl.slots.size ≤ j.toNatClampNeg)) (hg : m = m) (hs : Ks = .int x :: .int j :: .ref a :: rest) (hd : decode c.code pc = .ok (.bastore, 1))
    (k : ∀ T' h', Stand p l e R s m args below meth c T' (locs ++ [⟨a, j.toNatClampNeg⟩]) cells slots → T'.heap = h' → Wr h h' a j.toNatClampNeg (.int (nar .byte x)) → K0 (T'.setTop (mkF m (pc + 1) (Ls) (rest)))) : K0 (T.setTop (mkF m pc Ls Ks)) := by
  obtain ⟨T', h', X', e', W, st⟩ := stB (g := mkF m pc Ls Ks) X hx hZ eT A hj hg hs hd
  exact hG _ _ st (k T' h' X' e' W)
theorem gstJ {a : Addr} {cl : Cell} {j : Int32} {x : Int64} (hG : Cl p.tables e below K0) (X : Stand p l e R s m args below meth c T locs cells slots) (hx : p.tables.exec = Jvm.exec) (hZ : Z.Warmed39 s.vm) (eT : T.heap = h) (A : Arr Z h a cl .long) (hj : ¬ (j < 0 ∨ cl.slots.size ≤ j.toNatClampNeg)) (hg : m = m) (hs : Ks = .long x :: .int j :: .ref a :: rest) (hd : decode c.code pc = .ok (.lastore, 1))
    (k : ∀ T' h', Stand p l e R s m args below meth c T' (locs ++ [⟨a, j.toNatClampNeg⟩]) cells slots → T'.heap = h' → Wr h h' a j.toNatClampNeg (.long x) → K0 (T'.setTop (mkF m (pc + 1) (Ls) (rest)))) : K0 (T.setTop (mkF m pc Ls Ks)) := by
  obtain ⟨T', h', X', e', W, st⟩ := stJ (g := mkF m pc Ls Ks) X hx hZ eT A hj hg hs hd
  exact hG _ _ st (k T' h' X' e' W)
theorem g_iaload {a : Addr} {cl : Cell} {j : Int32} {v : Value} (hG : Cl p.tables e below K0) (X : Stand p l e R s m args below meth c T locs cells slots) (hx : p.tables.exec = Jvm.exec) (hZ : Z.Warmed39 s.vm) (eT : T.heap = h) (A : Arr Z h a cl .int) (hj : ¬ (j < 0 ∨ cl.slots.size ≤ j.toNatClampNeg)) (hv : cl.slots[j.toNatClampNeg]? = some v) (hg : m = m) (hs : Ks = .int j :: .ref a :: rest) (hd : decode c.code pc = .ok (.iaload, 1))
    (k : K0 (T.setTop (mkF m (pc + 1) (Ls) (v :: rest)))) : K0 (T.setTop (mkF m pc Ls Ks)) :=
  hG _ _ (X.iaload (g := mkF m pc Ls Ks) hx (by rw [eT]; exact A.1) (State.isArrayOf_alike hZ.alike A.2.1) A.2.2 hj hv hg hs hd) k
theorem g_laload {a : Addr} {cl : Cell} {j : Int32} {v : Value} (hG : Cl p.tables e below K0) (X : Stand p l e R s m args below meth c T locs cells slots) (hx : p.tables.exec = Jvm.exec) (hZ : Z.Warmed39 s.vm) (eT : T.heap = h) (A : Arr Z h a cl .long) (hj : ¬ (j < 0 ∨ cl.slots.size ≤ j.toNatClampNeg)) (hv : cl.slots[j.toNatClampNeg]? = some v) (hg : m = m) (hs : Ks = .int j :: .ref a :: rest) (hd : decode c.code pc = .ok (.laload, 1))
    (k : K0 (T.setTop (mkF m (pc + 1) (Ls) (v :: rest)))) : K0 (T.setTop (mkF m pc Ls Ks)) :=
  hG _ _ (X.laload (g := mkF m pc Ls Ks) hx (by rw [eT]; exact A.1) (State.isArrayOf_alike hZ.alike A.2.1) A.2.2 hj hv hg hs hd) k
theorem g_caload {a : Addr} {cl : Cell} {j : Int32} {v : Value} (hG : Cl p.tables e below K0) (X : Stand p l e R s m args below meth c T locs cells slots) (hx : p.tables.exec = Jvm.exec) (hZ : Z.Warmed39 s.vm) (eT : T.heap = h) (A : Arr Z h a cl .char) (hj : ¬ (j < 0 ∨ cl.slots.size ≤ j.toNatClampNeg)) (hv : cl.slots[j.toNatClampNeg]? = some v) (hg : m = m) (hs : Ks = .int j :: .ref a :: rest) (hd : decode c.code pc = .ok (.caload, 1))
    (k : K0 (T.setTop (mkF m (pc + 1) (Ls) (v :: rest)))) : K0 (T.setTop (mkF m pc Ls Ks)) :=
  hG _ _ (X.caload (g := mkF m pc Ls Ks) hx (by rw [eT]; exact A.1) (State.isArrayOf_alike hZ.alike A.2.1) A.2.2 hj hv hg hs hd) k
theorem g_baload {a : Addr} {cl : Cell} {j : Int32} {v : Value} (hG : Cl p.tables e below K0) (X : Stand p l e R s m args below meth c T locs cells slots) (hx : p.tables.exec = Jvm.exec) (hZ : Z.Warmed39 s.vm) (eT : T.heap = h) (A : Arr Z h a cl .byte) (hj : ¬ (j < 0 ∨ cl.slots.size ≤ j.toNatClampNeg)) (hv : cl.slots[j.toNatClampNeg]? = some v) (hg : m = m) (hs : Ks = .int j :: .ref a :: rest) (hd : decode c.code pc = .ok (.baload, 1))
    (k : K0 (T.setTop (mkF m (pc + 1) (Ls) (v :: rest)))) : K0 (T.setTop (mkF m pc Ls Ks)) :=
  hG _ _ (X.baloadBytes (g := mkF m pc Ls Ks) hx (by rw [eT]; exact A.1) (State.isArrayOf_alike hZ.alike A.2.1) A.2.2 hj hv hg hs hd) k
theorem g_aaload {a : Addr} {cl : Cell} {j : Int32} {v : Value} {ty : FieldType} (hG : Cl p.tables e below K0) (X : Stand p l e R s m args below meth c T locs cells slots) (hx : p.tables.exec = Jvm.exec) (hZ : Z.Warmed39 s.vm) (eT : T.heap = h) (A : Arr Z h a cl ty) (hty : ty.isReference = true) (hj : ¬ (j < 0 ∨ cl.slots.size ≤ j.toNatClampNeg)) (hv : cl.slots[j.toNatClampNeg]? = some v) (hg : m = m) (hs : Ks = .int j :: .ref a :: rest) (hd : decode c.code pc = .ok (.aaload, 1))
    (k : K0 (T.setTop (mkF m (pc + 1) (Ls) (v :: rest)))) : K0 (T.setTop (mkF m pc Ls Ks)) :=
  hG _ _ (X.aaload (g := mkF m pc Ls Ks) hx (by rw [eT]; exact A.1) (State.isArrayOf_alike hZ.alike A.2.1) hty A.2.2 hj hv hg hs hd) k
theorem gLen {a : Addr} {cl : Cell} {ty : FieldType} {z : Int32} (hG : Cl p.tables e below K0) (X : Stand p l e R s m args below meth c T locs cells slots) (hx : p.tables.exec = Jvm.exec) (hZ : Z.Warmed39 s.vm) (eT : T.heap = h) (A : Arr Z h a cl ty) (S : cl.slots.size = z.toNatClampNeg) (N : ¬ z < 0) (hg : m = m) (hs : Ks = .ref a :: rest) (hd : decode c.code pc = .ok (.arraylength, 1))
    (k : K0 (T.setTop (mkF m (pc + 1) (Ls) (.int z :: rest)))) : K0 (T.setTop (mkF m pc Ls Ks)) := by
  refine hG _ _ (X.arraylength (g := mkF m pc Ls Ks) hx (by rw [eT]; exact A.1) (State.isArrayOf_alike hZ.alike A.2.1) hg hs hd) ?_
  rw [len_of S N]
  exact k
theorem gStaticN {own : String} {index : Nat} {y : MethodName} {bytes : ByteArray} {maxL : Nat} {ret : Option FieldType} {W mc ms : Nat} {as' : Array Value} {Q : Option Value → Heap → List Loc → Prop} {argsL : List Value} (hG : Cl p.tables e below K0) (X : Stand p l e R s m args below meth c T locs cells slots) (hx : p.tables.exec = Jvm.exec) (hZ : Z.Warmed39 s.vm) (hown : s.vm.findClass own = some m.cls) (hlink : (Cond.methodLink own index y).before args s = true) (hstat : (Cond.static y).before args s = true) (hinit : (Cond.initialized y.cls).before args s = true) (hcode : (Cond.code y bytes maxL ret).before args s = true) (hy : y.cls ≠ "java/lang/invoke/MethodHandle" ∧ y.cls ≠ "java/lang/invoke/VarHandle") (hK : Back l R p e below s args y 3 W (fun A a => a = as' ∧ A.U.heap = h ∧ A.cells + mc ≤ R.cells ∧ A.slots + ms ≤ R.slots) (fun A _ v B => ∃ L, Q v B.U.heap L ∧ B.locs = A.locs ++ L ∧ B.cells = A.cells + mc ∧ B.slots = A.slots + ms)) (hg : m = m) (hsize : Ls.size = c.maxLocals) (hlen : ∀ sig, parseMethodDescriptor y.desc = some sig → argsL.length = sig.parameters.length) (hstack : Ks = argsL.reverse ++ rest) (hW : 2 * 0 + (rest.map fun v => v.category).sum ≤ W) (hdg : decode c.code pc = .ok (.invokestatic index, 3)) (has : argsL.toArray = as') (eT : T.heap = h) (hc : cells + mc ≤ R.cells) (hsl : slots + ms ≤ R.slots)
    (k : ∀ (v : Option Value) (T' : State) (L : List Loc), Q v T'.heap L → Stand p l e R s m args below meth c T' (locs ++ L) (cells + mc) (slots + ms) → K0 (T'.setTop (mkF m (pc + 3) (Ls) (v.toList ++ rest)))) : K0 (T.setTop (mkF m pc Ls Ks)) := by
  obtain ⟨v, vm₁, ⟨T', L', k', n'⟩, -, X', ⟨Lc, hQ, h1, h2, h3⟩, st⟩ := Jvm.LawKit.callS (g := mkF m pc Ls Ks) X hx hown hlink hstat hinit hcode hy hK hg hsize hlen hstack hW hdg (fun vm₁ hvm => ⟨has, eT, hc, hsl⟩)
  dsimp only [Pt.U, Pt.locs, Pt.cells, Pt.slots] at X' hQ h1 h2 h3 st
  subst h1 h2 h3
  exact hG _ _ st (k v T' Lc hQ X')
theorem gStaticS {own : String} {index : Nat} {y : MethodName} {bytes : ByteArray} {maxL : Nat} {ret : Option FieldType} {W mc ms : Nat} {as' : Array Value} {Q : Option Value → Heap → List Loc → Prop} {argsL : List Value} {vm0 : Vm} {k0 : Nat} (hG : Cl p.tables e below K0) (X : Stand p l e R (s.setVm vm0) m args below meth c T locs cells slots) (hx : p.tables.exec = Jvm.exec) (hZ : Z.Warmed39 (s.setVm vm0).vm) (hS : s.Since vm0 k0) (hk : k0 ≤ h.size) (hown : (s.setVm vm0).vm.findClass own = some m.cls) (hlink : (Cond.methodLink own index y).before args (s.setVm vm0) = true) (hstat : (Cond.static y).before args (s.setVm vm0) = true) (hinit : (Cond.initialized y.cls).before args (s.setVm vm0) = true) (hcode : (Cond.code y bytes maxL ret).before args (s.setVm vm0) = true) (hy : y.cls ≠ "java/lang/invoke/MethodHandle" ∧ y.cls ≠ "java/lang/invoke/VarHandle") (hK : BackS l R p e below (s.setVm vm0) args y 3 W (fun A a => a = as' ∧ A.U.heap = h ∧ A.cells + mc ≤ R.cells ∧ A.slots + ms ≤ R.slots) (fun A _ v B => ∃ L, Q v B.U.heap L ∧ B.locs = A.locs ++ L ∧ B.cells = A.cells + mc ∧ B.slots = A.slots + ms)) (hg : m = m) (hsize : Ls.size = c.maxLocals) (hlen : ∀ sig, parseMethodDescriptor y.desc = some sig → argsL.length = sig.parameters.length) (hstack : Ks = argsL.reverse ++ rest) (hW : 2 * 0 + (rest.map fun v => v.category).sum ≤ W) (hdg : decode c.code pc = .ok (.invokestatic index, 3)) (has : argsL.toArray = as') (eT : T.heap = h) (hc : cells + mc ≤ R.cells) (hsl : slots + ms ≤ R.slots)
    (k : ∀ (v : Option Value) (T' : State) (L : List Loc), Q v T'.heap L → Stand p l e R (s.setVm T'.vm) m args below meth c T' (locs ++ L) (cells + mc) (slots + ms) → s.Since T'.vm T'.heap.size → Z.Warmed39 (s.setVm T'.vm).vm → (s.setVm T'.vm).vm.findClass own = some m.cls → T'.heap.size ≤ T'.heap.size → K0 (T'.setTop (mkF m (pc + 3) (Ls) (v.toList ++ rest)))) : K0 (T.setTop (mkF m pc Ls Ks)) := by
  obtain ⟨v, vm₁, ⟨T', L', k', n'⟩, -, X', hS', gr, ⟨Lc, hQ, h1, h2, h3⟩, st⟩ := callSS (g := mkF m pc Ls Ks) X hx hown hlink hstat hinit hcode hy hK hg hsize hlen hstack hW hdg (fun vm₁ hvm => ⟨has, eT, hc, hsl⟩)
  dsimp only [Pt.U, Pt.locs, Pt.cells, Pt.slots] at X' hQ h1 h2 h3 st hS' gr
  subst h1 h2 h3
  obtain ⟨X2, hS2, hZ2, hown2⟩ := rebS hS (Nat.le_trans hk (Nat.le_of_eq (congrArg Array.size eT.symm))) X' hS' gr hZ hown
  exact hG _ _ (fun _ q => st.trans q) (k v T' Lc hQ X2 hS2 hZ2 hown2 (Nat.le_refl _))
theorem gStaticJ {own : String} {index : Nat} {y : MethodName} {bytes : ByteArray} {maxL : Nat} {ret : Option FieldType} {W mc ms : Nat} {as' : Array Value} {Q : Option Value → Heap → Vm → List Loc → Prop} {argsL : List Value} {vm0 : Vm} {k0 : Nat} {Φ : Vm → Prop} (hG : Cl p.tables e below K0) (X : Stand p l e R (s.setVm vm0) m args below meth c T locs cells slots) (hx : p.tables.exec = Jvm.exec) (hZ : Z.Warmed39 (s.setVm vm0).vm) (hS : s.Since vm0 k0) (hk : k0 ≤ h.size) (hown : (s.setVm vm0).vm.findClass own = some m.cls) (hlink : (Cond.methodLink own index y).before args (s.setVm vm0) = true) (hstat : (Cond.static y).before args (s.setVm vm0) = true) (hinit : (Cond.initialized y.cls).before args (s.setVm vm0) = true) (hcode : (Cond.code y bytes maxL ret).before args (s.setVm vm0) = true) (hy : y.cls ≠ "java/lang/invoke/MethodHandle" ∧ y.cls ≠ "java/lang/invoke/VarHandle") (hK : BackS l R p e below (s.setVm vm0) args y 3 W (fun A a => a = as' ∧ A.U.heap = h ∧ Φ A.U.vm ∧ A.cells + mc ≤ R.cells ∧ A.slots + ms ≤ R.slots) (fun A _ v B => ∃ L, Q v B.U.heap B.U.vm L ∧ B.locs = A.locs ++ L ∧ B.cells = A.cells + mc ∧ B.slots = A.slots + ms)) (hg : m = m) (hsize : Ls.size = c.maxLocals) (hlen : ∀ sig, parseMethodDescriptor y.desc = some sig → argsL.length = sig.parameters.length) (hstack : Ks = argsL.reverse ++ rest) (hW : 2 * 0 + (rest.map fun v => v.category).sum ≤ W) (hdg : decode c.code pc = .ok (.invokestatic index, 3)) (has : argsL.toArray = as') (eT : T.heap = h) (hΦ : ∀ vm₁, (s.setVm vm0).WarmedH vm₁ → Φ vm₁) (hc : cells + mc ≤ R.cells) (hsl : slots + ms ≤ R.slots)
    (k : ∀ (v : Option Value) (T' : State) (L : List Loc), Q v T'.heap T'.vm L → Stand p l e R (s.setVm T'.vm) m args below meth c T' (locs ++ L) (cells + mc) (slots + ms) → s.Since T'.vm T'.heap.size → Z.Warmed39 (s.setVm T'.vm).vm → (s.setVm T'.vm).vm.findClass own = some m.cls → T'.heap.size ≤ T'.heap.size → K0 (T'.setTop (mkF m (pc + 3) (Ls) (v.toList ++ rest)))) : K0 (T.setTop (mkF m pc Ls Ks)) := by
  obtain ⟨v, vm₁, ⟨T', L', k', n'⟩, -, X', hS', gr, ⟨Lc, hQ, h1, h2, h3⟩, st⟩ := callSS (g := mkF m pc Ls Ks) X hx hown hlink hstat hinit hcode hy hK hg hsize hlen hstack hW hdg (fun vm₁ hvm => ⟨has, eT, hΦ vm₁ hvm, hc, hsl⟩)
  dsimp only [Pt.U, Pt.locs, Pt.cells, Pt.slots] at X' hQ h1 h2 h3 st hS' gr
  subst h1 h2 h3
  obtain ⟨X2, hS2, hZ2, hown2⟩ := rebS hS (Nat.le_trans hk (Nat.le_of_eq (congrArg Array.size eT.symm))) X' hS' gr hZ hown
  exact hG _ _ (fun _ q => st.trans q) (k v T' Lc hQ X2 hS2 hZ2 hown2 (Nat.le_refl _))
theorem gSpecialN {own : String} {index : Nat} {y : MethodName} {bytes : ByteArray} {maxL : Nat} {b : Addr} {W mc ms : Nat} {as' : Array Value} {Q : Option Value → Heap → List Loc → Prop} {argsL : List Value} (hG : Cl p.tables e below K0) (X : Stand p l e R s m args below meth c T locs cells slots) (hx : p.tables.exec = Jvm.exec) (hZ : Z.Warmed39 s.vm) (hown : s.vm.findClass own = some m.cls) (hy1 : y.name = "<init>") (hlink : (Cond.methodLink own index y).before args s = true) (hinst : (Cond.instanceMethod y).before args s = true) (hcode : (Cond.code y bytes maxL none).before args s = true) (hy : y.cls ≠ "java/lang/invoke/MethodHandle" ∧ y.cls ≠ "java/lang/invoke/VarHandle") (hK : Back l R p e below s args y 3 W (fun A a => a = as' ∧ A.U.heap = h ∧ A.cells + mc ≤ R.cells ∧ A.slots + ms ≤ R.slots) (fun A _ v B => ∃ L, Q v B.U.heap L ∧ B.locs = A.locs ++ L ∧ B.cells = A.cells + mc ∧ B.slots = A.slots + ms)) (hg : m = m) (hsize : Ls.size = c.maxLocals) (hlen : ∀ sig, parseMethodDescriptor y.desc = some sig → argsL.length = sig.parameters.length) (hstack : Ks = argsL.reverse ++ .ref b :: rest) (hW : 2 * 0 + (rest.map fun v => v.category).sum ≤ W) (hdg : decode c.code pc = .ok (.invokespecial index, 3)) (has : (.ref b :: argsL).toArray = as') (eT : T.heap = h) (hc : cells + mc ≤ R.cells) (hsl : slots + ms ≤ R.slots)
    (k : ∀ (v : Option Value) (T' : State) (L : List Loc), Q v T'.heap L → Stand p l e R s m args below meth c T' (locs ++ L) (cells + mc) (slots + ms) → K0 (T'.setTop (mkF m (pc + 3) (Ls) (v.toList ++ rest)))) : K0 (T.setTop (mkF m pc Ls Ks)) := by
  obtain ⟨v, vm₁, ⟨T', L', k', n'⟩, -, X', ⟨Lc, hQ, h1, h2, h3⟩, st⟩ := X.specialBack (g := mkF m pc Ls Ks) hx hy1 hown hlink hinst hcode hy hK hg hsize (Steps.refl _) hlen hstack hW hdg (fun vm₁ hvm => ⟨has, eT, hc, hsl⟩)
  dsimp only [Pt.U, Pt.locs, Pt.cells, Pt.slots] at X' hQ h1 h2 h3 st
  subst h1 h2 h3
  exact hG _ _ (fun _ q => st.trans q) (k v T' Lc hQ X')
theorem gSpecialS {own : String} {index : Nat} {y : MethodName} {bytes : ByteArray} {maxL : Nat} {b : Addr} {W mc ms : Nat} {as' : Array Value} {Q : Option Value → Heap → List Loc → Prop} {argsL : List Value} {vm0 : Vm} {k0 : Nat} (hG : Cl p.tables e below K0) (X : Stand p l e R (s.setVm vm0) m args below meth c T locs cells slots) (hx : p.tables.exec = Jvm.exec) (hZ : Z.Warmed39 (s.setVm vm0).vm) (hS : s.Since vm0 k0) (hk : k0 ≤ h.size) (hown : (s.setVm vm0).vm.findClass own = some m.cls) (hy1 : y.name = "<init>") (hlink : (Cond.methodLink own index y).before args (s.setVm vm0) = true) (hinst : (Cond.instanceMethod y).before args (s.setVm vm0) = true) (hcode : (Cond.code y bytes maxL none).before args (s.setVm vm0) = true) (hy : y.cls ≠ "java/lang/invoke/MethodHandle" ∧ y.cls ≠ "java/lang/invoke/VarHandle") (hK : BackS l R p e below (s.setVm vm0) args y 3 W (fun A a => a = as' ∧ A.U.heap = h ∧ A.cells + mc ≤ R.cells ∧ A.slots + ms ≤ R.slots) (fun A _ v B => ∃ L, Q v B.U.heap L ∧ B.locs = A.locs ++ L ∧ B.cells = A.cells + mc ∧ B.slots = A.slots + ms)) (hg : m = m) (hsize : Ls.size = c.maxLocals) (hlen : ∀ sig, parseMethodDescriptor y.desc = some sig → argsL.length = sig.parameters.length) (hstack : Ks = argsL.reverse ++ .ref b :: rest) (hW : 2 * 0 + (rest.map fun v => v.category).sum ≤ W) (hdg : decode c.code pc = .ok (.invokespecial index, 3)) (has : (.ref b :: argsL).toArray = as') (eT : T.heap = h) (hc : cells + mc ≤ R.cells) (hsl : slots + ms ≤ R.slots)
    (k : ∀ (v : Option Value) (T' : State) (L : List Loc), Q v T'.heap L → Stand p l e R (s.setVm T'.vm) m args below meth c T' (locs ++ L) (cells + mc) (slots + ms) → s.Since T'.vm T'.heap.size → Z.Warmed39 (s.setVm T'.vm).vm → (s.setVm T'.vm).vm.findClass own = some m.cls → T'.heap.size ≤ T'.heap.size → K0 (T'.setTop (mkF m (pc + 3) (Ls) (v.toList ++ rest)))) : K0 (T.setTop (mkF m pc Ls Ks)) := by
  obtain ⟨v, vm₁, ⟨T', L', k', n'⟩, -, X', hS', gr, ⟨Lc, hQ, h1, h2, h3⟩, st⟩ := X.specialBackS (g := mkF m pc Ls Ks) hx hy1 hown hlink hinst hcode hy hK hg hsize (Steps.refl _) hlen hstack hW hdg (fun vm₁ hvm => ⟨has, eT, hc, hsl⟩)
  dsimp only [Pt.U, Pt.locs, Pt.cells, Pt.slots] at X' hQ h1 h2 h3 st hS' gr
  subst h1 h2 h3
  obtain ⟨X2, hS2, hZ2, hown2⟩ := rebS hS (Nat.le_trans hk (Nat.le_of_eq (congrArg Array.size eT.symm))) X' hS' gr hZ hown
  exact hG _ _ (fun _ q => st.trans q) (k v T' Lc hQ X2 hS2 hZ2 hown2 (Nat.le_refl _))
theorem gSpecialJ {own : String} {index : Nat} {y : MethodName} {bytes : ByteArray} {maxL : Nat} {b : Addr} {W mc ms : Nat} {as' : Array Value} {Q : Option Value → Heap → Vm → List Loc → Prop} {argsL : List Value} {vm0 : Vm} {k0 : Nat} {Φ : Vm → Prop} (hG : Cl p.tables e below K0) (X : Stand p l e R (s.setVm vm0) m args below meth c T locs cells slots) (hx : p.tables.exec = Jvm.exec) (hZ : Z.Warmed39 (s.setVm vm0).vm) (hS : s.Since vm0 k0) (hk : k0 ≤ h.size) (hown : (s.setVm vm0).vm.findClass own = some m.cls) (hy1 : y.name = "<init>") (hlink : (Cond.methodLink own index y).before args (s.setVm vm0) = true) (hinst : (Cond.instanceMethod y).before args (s.setVm vm0) = true) (hcode : (Cond.code y bytes maxL none).before args (s.setVm vm0) = true) (hy : y.cls ≠ "java/lang/invoke/MethodHandle" ∧ y.cls ≠ "java/lang/invoke/VarHandle") (hK : BackS l R p e below (s.setVm vm0) args y 3 W (fun A a => a = as' ∧ A.U.heap = h ∧ Φ A.U.vm ∧ A.cells + mc ≤ R.cells ∧ A.slots + ms ≤ R.slots) (fun A _ v B => ∃ L, Q v B.U.heap B.U.vm L ∧ B.locs = A.locs ++ L ∧ B.cells = A.cells + mc ∧ B.slots = A.slots + ms)) (hg : m = m) (hsize : Ls.size = c.maxLocals) (hlen : ∀ sig, parseMethodDescriptor y.desc = some sig → argsL.length = sig.parameters.length) (hstack : Ks = argsL.reverse ++ .ref b :: rest) (hW : 2 * 0 + (rest.map fun v => v.category).sum ≤ W) (hdg : decode c.code pc = .ok (.invokespecial index, 3)) (has : (.ref b :: argsL).toArray = as') (eT : T.heap = h) (hΦ : ∀ vm₁, (s.setVm vm0).WarmedH vm₁ → Φ vm₁) (hc : cells + mc ≤ R.cells) (hsl : slots + ms ≤ R.slots)
    (k : ∀ (v : Option Value) (T' : State) (L : List Loc), Q v T'.heap T'.vm L → Stand p l e R (s.setVm T'.vm) m args below meth c T' (locs ++ L) (cells + mc) (slots + ms) → s.Since T'.vm T'.heap.size → Z.Warmed39 (s.setVm T'.vm).vm → (s.setVm T'.vm).vm.findClass own = some m.cls → T'.heap.size ≤ T'.heap.size → K0 (T'.setTop (mkF m (pc + 3) (Ls) (v.toList ++ rest)))) : K0 (T.setTop (mkF m pc Ls Ks)) := by
  obtain ⟨v, vm₁, ⟨T', L', k', n'⟩, -, X', hS', gr, ⟨Lc, hQ, h1, h2, h3⟩, st⟩ := X.specialBackS (g := mkF m pc Ls Ks) hx hy1 hown hlink hinst hcode hy hK hg hsize (Steps.refl _) hlen hstack hW hdg (fun vm₁ hvm => ⟨has, eT, hΦ vm₁ hvm, hc, hsl⟩)
  dsimp only [Pt.U, Pt.locs, Pt.cells, Pt.slots] at X' hQ h1 h2 h3 st hS' gr
  subst h1 h2 h3
  obtain ⟨X2, hS2, hZ2, hown2⟩ := rebS hS (Nat.le_trans hk (Nat.le_of_eq (congrArg Array.size eT.symm))) X' hS' gr hZ hown
  exact hG _ _ (fun _ q => st.trans q) (k v T' Lc hQ X2 hS2 hZ2 hown2 (Nat.le_refl _))
theorem gVirtualN {own C : String} {index : Nat} {y z : MethodName} {b : Addr} {W mc ms : Nat} {as' : Array Value} {Q : Option Value → Heap → List Loc → Prop} {argsL : List Value} (hG : Cl p.tables e below K0) (X : Stand p l e R s m args below meth c T locs cells slots) (hx : p.tables.exec = Jvm.exec) (hZ : Z.Warmed39 s.vm) (hown : s.vm.findClass own = some m.cls) (hlink : (Cond.methodLink own index y).before args s = true) (hdecl : (Cond.declares y).before args s = true) (hnf : NotFace s y) (hsel : (Cond.selects C y z).before args s = true) (hinst : (Cond.instanceMethod z).before args s = true) (hy : y.cls ≠ "java/lang/invoke/MethodHandle" ∧ y.cls ≠ "java/lang/invoke/VarHandle") (E : Exa Z h b C) (hK : Back l R p e below s args z 3 W (fun A a => a = as' ∧ A.U.heap = h ∧ A.cells + mc ≤ R.cells ∧ A.slots + ms ≤ R.slots) (fun A _ v B => ∃ L, Q v B.U.heap L ∧ B.locs = A.locs ++ L ∧ B.cells = A.cells + mc ∧ B.slots = A.slots + ms)) (hg : m = m) (hsize : Ls.size = c.maxLocals) (hlen : ∀ sig, parseMethodDescriptor y.desc = some sig → argsL.length = sig.parameters.length) (hstack : Ks = argsL.reverse ++ .ref b :: rest) (hW : 2 * 0 + (rest.map fun v => v.category).sum ≤ W) (hdg : decode c.code pc = .ok (.invokevirtual index, 3)) (has : (.ref b :: argsL).toArray = as') (eT : T.heap = h) (hc : cells + mc ≤ R.cells) (hsl : slots + ms ≤ R.slots)
    (k : ∀ (v : Option Value) (T' : State) (L : List Loc), Q v T'.heap L → Stand p l e R s m args below meth c T' (locs ++ L) (cells + mc) (slots + ms) → K0 (T'.setTop (mkF m (pc + 3) (Ls) (v.toList ++ rest)))) : K0 (T.setTop (mkF m pc Ls Ks)) := by
  obtain ⟨cq, kq, q1, q2, q3⟩ := isOf hZ eT E
  obtain ⟨v, vm₁, ⟨T', L', k', n'⟩, -, X', ⟨Lc, hQ, h1, h2, h3⟩, st⟩ := X.virtualBack (g := mkF m pc Ls Ks) hx hown hlink hdecl hnf hsel hinst hy hK q1 q3 hg hsize (Steps.refl _) hlen hstack hW hdg (fun vm₁ hvm => ⟨has, eT, hc, hsl⟩)
  dsimp only [Pt.U, Pt.locs, Pt.cells, Pt.slots] at X' hQ h1 h2 h3 st
  subst h1 h2 h3
  exact hG _ _ (fun _ q => st.trans q) (k v T' Lc hQ X')
theorem gVirtualS {own C : String} {index : Nat} {y z : MethodName} {b : Addr} {W mc ms : Nat} {as' : Array Value} {Q : Option Value → Heap → List Loc → Prop} {argsL : List Value} {vm0 : Vm} {k0 : Nat} (hG : Cl p.tables e below K0) (X : Stand p l e R (s.setVm vm0) m args below meth c T locs cells slots) (hx : p.tables.exec = Jvm.exec) (hZ : Z.Warmed39 (s.setVm vm0).vm) (hS : s.Since vm0 k0) (hk : k0 ≤ h.size) (hown : (s.setVm vm0).vm.findClass own = some m.cls) (hlink : (Cond.methodLink own index y).before args (s.setVm vm0) = true) (hdecl : (Cond.declares y).before args (s.setVm vm0) = true) (hnf : NotFace (s.setVm vm0) y) (hsel : (Cond.selects C y z).before args (s.setVm vm0) = true) (hinst : (Cond.instanceMethod z).before args (s.setVm vm0) = true) (hy : y.cls ≠ "java/lang/invoke/MethodHandle" ∧ y.cls ≠ "java/lang/invoke/VarHandle") (E : Exa Z h b C) (hK : BackS l R p e below (s.setVm vm0) args z 3 W (fun A a => a = as' ∧ A.U.heap = h ∧ A.cells + mc ≤ R.cells ∧ A.slots + ms ≤ R.slots) (fun A _ v B => ∃ L, Q v B.U.heap L ∧ B.locs = A.locs ++ L ∧ B.cells = A.cells + mc ∧ B.slots = A.slots + ms)) (hg : m = m) (hsize : Ls.size = c.maxLocals) (hlen : ∀ sig, parseMethodDescriptor y.desc = some sig → argsL.length = sig.parameters.length) (hstack : Ks = argsL.reverse ++ .ref b :: rest) (hW : 2 * 0 + (rest.map fun v => v.category).sum ≤ W) (hdg : decode c.code pc = .ok (.invokevirtual index, 3)) (has : (.ref b :: argsL).toArray = as') (eT : T.heap = h) (hc : cells + mc ≤ R.cells) (hsl : slots + ms ≤ R.slots)
    (k : ∀ (v : Option Value) (T' : State) (L : List Loc), Q v T'.heap L → Stand p l e R (s.setVm T'.vm) m args below meth c T' (locs ++ L) (cells + mc) (slots + ms) → s.Since T'.vm T'.heap.size → Z.Warmed39 (s.setVm T'.vm).vm → (s.setVm T'.vm).vm.findClass own = some m.cls → T'.heap.size ≤ T'.heap.size → K0 (T'.setTop (mkF m (pc + 3) (Ls) (v.toList ++ rest)))) : K0 (T.setTop (mkF m pc Ls Ks)) := by
  obtain ⟨cq, kq, q1, q2, q3⟩ := isOf hZ eT E
  obtain ⟨v, vm₁, ⟨T', L', k', n'⟩, -, X', hS', gr, ⟨Lc, hQ, h1, h2, h3⟩, st⟩ := X.virtualBackS (g := mkF m pc Ls Ks) hx hown hlink hdecl hnf hsel hinst hy hK q1 q3 hg hsize (Steps.refl _) hlen hstack hW hdg (fun vm₁ hvm => ⟨has, eT, hc, hsl⟩)
  dsimp only [Pt.U, Pt.locs, Pt.cells, Pt.slots] at X' hQ h1 h2 h3 st hS' gr
  subst h1 h2 h3
  obtain ⟨X2, hS2, hZ2, hown2⟩ := rebS hS (Nat.le_trans hk (Nat.le_of_eq (congrArg Array.size eT.symm))) X' hS' gr hZ hown
  exact hG _ _ (fun _ q => st.trans q) (k v T' Lc hQ X2 hS2 hZ2 hown2 (Nat.le_refl _))
theorem gVirtualJ {own C : String} {index : Nat} {y z : MethodName} {b : Addr} {W mc ms : Nat} {as' : Array Value} {Q : Option Value → Heap → Vm → List Loc → Prop} {argsL : List Value} {vm0 : Vm} {k0 : Nat} {Φ : Vm → Prop} (hG : Cl p.tables e below K0) (X : Stand p l e R (s.setVm vm0) m args below meth c T locs cells slots) (hx : p.tables.exec = Jvm.exec) (hZ : Z.Warmed39 (s.setVm vm0).vm) (hS : s.Since vm0 k0) (hk : k0 ≤ h.size) (hown : (s.setVm vm0).vm.findClass own = some m.cls) (hlink : (Cond.methodLink own index y).before args (s.setVm vm0) = true) (hdecl : (Cond.declares y).before args (s.setVm vm0) = true) (hnf : NotFace (s.setVm vm0) y) (hsel : (Cond.selects C y z).before args (s.setVm vm0) = true) (hinst : (Cond.instanceMethod z).before args (s.setVm vm0) = true) (hy : y.cls ≠ "java/lang/invoke/MethodHandle" ∧ y.cls ≠ "java/lang/invoke/VarHandle") (E : Exa Z h b C) (hK : BackS l R p e below (s.setVm vm0) args z 3 W (fun A a => a = as' ∧ A.U.heap = h ∧ Φ A.U.vm ∧ A.cells + mc ≤ R.cells ∧ A.slots + ms ≤ R.slots) (fun A _ v B => ∃ L, Q v B.U.heap B.U.vm L ∧ B.locs = A.locs ++ L ∧ B.cells = A.cells + mc ∧ B.slots = A.slots + ms)) (hg : m = m) (hsize : Ls.size = c.maxLocals) (hlen : ∀ sig, parseMethodDescriptor y.desc = some sig → argsL.length = sig.parameters.length) (hstack : Ks = argsL.reverse ++ .ref b :: rest) (hW : 2 * 0 + (rest.map fun v => v.category).sum ≤ W) (hdg : decode c.code pc = .ok (.invokevirtual index, 3)) (has : (.ref b :: argsL).toArray = as') (eT : T.heap = h) (hΦ : ∀ vm₁, (s.setVm vm0).WarmedH vm₁ → Φ vm₁) (hc : cells + mc ≤ R.cells) (hsl : slots + ms ≤ R.slots)
    (k : ∀ (v : Option Value) (T' : State) (L : List Loc), Q v T'.heap T'.vm L → Stand p l e R (s.setVm T'.vm) m args below meth c T' (locs ++ L) (cells + mc) (slots + ms) → s.Since T'.vm T'.heap.size → Z.Warmed39 (s.setVm T'.vm).vm → (s.setVm T'.vm).vm.findClass own = some m.cls → T'.heap.size ≤ T'.heap.size → K0 (T'.setTop (mkF m (pc + 3) (Ls) (v.toList ++ rest)))) : K0 (T.setTop (mkF m pc Ls Ks)) := by
  obtain ⟨cq, kq, q1, q2, q3⟩ := isOf hZ eT E
  obtain ⟨v, vm₁, ⟨T', L', k', n'⟩, -, X', hS', gr, ⟨Lc, hQ, h1, h2, h3⟩, st⟩ := X.virtualBackS (g := mkF m pc Ls Ks) hx hown hlink hdecl hnf hsel hinst hy hK q1 q3 hg hsize (Steps.refl _) hlen hstack hW hdg (fun vm₁ hvm => ⟨has, eT, hΦ vm₁ hvm, hc, hsl⟩)
  dsimp only [Pt.U, Pt.locs, Pt.cells, Pt.slots] at X' hQ h1 h2 h3 st hS' gr
  subst h1 h2 h3
  obtain ⟨X2, hS2, hZ2, hown2⟩ := rebS hS (Nat.le_trans hk (Nat.le_of_eq (congrArg Array.size eT.symm))) X' hS' gr hZ hown
  exact hG _ _ (fun _ q => st.trans q) (k v T' Lc hQ X2 hS2 hZ2 hown2 (Nat.le_refl _))
theorem gVirtualUpN {own C owner : String} {index : Nat} {x y : MethodName} {b : Addr} {W mc ms : Nat} {as' : Array Value} {Q : Option Value → Heap → List Loc → Prop} {argsL : List Value} (hG : Cl p.tables e below K0) (X : Stand p l e R s m args below meth c T locs cells slots) (hx : p.tables.exec = Jvm.exec) (hZ : Z.Warmed39 s.vm) (hown : s.vm.findClass own = some m.cls) (hlink : (Cond.methodLink own index x).before args s = true) (hsame : (Cond.sameMethod x.cls owner x.name x.desc).before args s = true) (hdecl : (Cond.declares ⟨owner, x.name, x.desc⟩).before args s = true) (howner : owner ≠ "java/lang/invoke/MethodHandle" ∧ owner ≠ "java/lang/invoke/VarHandle") (hsel : (Cond.selects C x y).before args s = true) (hinst : (Cond.instanceMethod y).before args s = true) (E : Exa Z h b C) (hK : Back l R p e below s args y 3 W (fun A a => a = as' ∧ A.U.heap = h ∧ A.cells + mc ≤ R.cells ∧ A.slots + ms ≤ R.slots) (fun A _ v B => ∃ L, Q v B.U.heap L ∧ B.locs = A.locs ++ L ∧ B.cells = A.cells + mc ∧ B.slots = A.slots + ms)) (hg : m = m) (hsize : Ls.size = c.maxLocals) (hlen : ∀ sig, parseMethodDescriptor x.desc = some sig → argsL.length = sig.parameters.length) (hstack : Ks = argsL.reverse ++ .ref b :: rest) (hW : 2 * 0 + (rest.map fun v => v.category).sum ≤ W) (hdg : decode c.code pc = .ok (.invokevirtual index, 3)) (has : (.ref b :: argsL).toArray = as') (eT : T.heap = h) (hc : cells + mc ≤ R.cells) (hsl : slots + ms ≤ R.slots)
    (k : ∀ (v : Option Value) (T' : State) (L : List Loc), Q v T'.heap L → Stand p l e R s m args below meth c T' (locs ++ L) (cells + mc) (slots + ms) → K0 (T'.setTop (mkF m (pc + 3) (Ls) (v.toList ++ rest)))) : K0 (T.setTop (mkF m pc Ls Ks)) := by
  obtain ⟨cq, kq, q1, q2, q3⟩ := isOf hZ eT E
  obtain ⟨v, vm₁, ⟨T', L', k', n'⟩, -, X', ⟨Lc, hQ, h1, h2, h3⟩, st⟩ := X.virtualBackUp (g := mkF m pc Ls Ks) hx hown hlink hsame hdecl howner hsel hinst hK q1 q3 hg hsize (Steps.refl _) hlen hstack hW hdg (fun vm₁ hvm => ⟨has, eT, hc, hsl⟩)
  dsimp only [Pt.U, Pt.locs, Pt.cells, Pt.slots] at X' hQ h1 h2 h3 st
  subst h1 h2 h3
  exact hG _ _ (fun _ q => st.trans q) (k v T' Lc hQ X')
theorem gPrivN {own C : String} {index : Nat} {y : MethodName} {bytes : ByteArray} {maxL : Nat} {ret : Option FieldType} {b : Addr} {W mc ms : Nat} {as' : Array Value} {Q : Option Value → Heap → List Loc → Prop} {argsL : List Value} (hG : Cl p.tables e below K0) (X : Stand p l e R s m args below meth c T locs cells slots) (hx : p.tables.exec = Jvm.exec) (hZ : Z.Warmed39 s.vm) (hown : s.vm.findClass own = some m.cls) (hlink : (Cond.methodLink own index y).before args s = true) (hinst : (Cond.instanceMethod y).before args s = true) (hsel : (Cond.selects C y y).before args s = true) (hpriv : (Cond.privateMethod y).before args s = true) (hcode : (Cond.code y bytes maxL ret).before args s = true) (hy : y.cls ≠ "java/lang/invoke/MethodHandle" ∧ y.cls ≠ "java/lang/invoke/VarHandle") (E : Exa Z h b C) (hK : Back l R p e below s args y 3 W (fun A a => a = as' ∧ A.U.heap = h ∧ A.cells + mc ≤ R.cells ∧ A.slots + ms ≤ R.slots) (fun A _ v B => ∃ L, Q v B.U.heap L ∧ B.locs = A.locs ++ L ∧ B.cells = A.cells + mc ∧ B.slots = A.slots + ms)) (hg : m = m) (hsize : Ls.size = c.maxLocals) (hlen : ∀ sig, parseMethodDescriptor y.desc = some sig → argsL.length = sig.parameters.length) (hstack : Ks = argsL.reverse ++ .ref b :: rest) (hW : 2 * 0 + (rest.map fun v => v.category).sum ≤ W) (hdg : decode c.code pc = .ok (.invokevirtual index, 3)) (has : (.ref b :: argsL).toArray = as') (eT : T.heap = h) (hc : cells + mc ≤ R.cells) (hsl : slots + ms ≤ R.slots)
    (k : ∀ (v : Option Value) (T' : State) (L : List Loc), Q v T'.heap L → Stand p l e R s m args below meth c T' (locs ++ L) (cells + mc) (slots + ms) → K0 (T'.setTop (mkF m (pc + 3) (Ls) (v.toList ++ rest)))) : K0 (T.setTop (mkF m pc Ls Ks)) := by
  obtain ⟨cq, kq, q1, q2, cell, hcell, hcls, hstat⟩ := isOf hZ eT E
  obtain ⟨mk, methM, hnamed, hmethM, hstM, habM⟩ := Cond.instanceMethod_spec hinst
  obtain ⟨methM', cM, hmethM', -, -, -, -, -, -, hsigM⟩ := Cond.code_spec hnamed hcode
  cases hmethM.symm.trans hmethM'
  obtain ⟨c2, r2, m2, -, -, q3, -, kP, hkP, hkPi⟩ := Cond.selects_spec hsel
  cases hnamed.symm.trans q3
  have hselP : selectMethod e.platform s.vm cell.cls mk = .method mk := selectMethod_private hmethM (Cond.privateMethod_at hpriv mk methM hnamed hmethM)
  obtain ⟨vm₁, X₁, hstep₁⟩ := X.invokevirtual hx hown hlink hnamed hmethM hstM hkP hkPi hy (a := b) (cell := cell) hcell (fun q e => by rw [e] at hstat; cases hstat) hselP hmethM habM hkP hkPi (g := mkF m pc Ls Ks) hg (argsL := argsL) (rest := rest) (hlen _ hsigM) hstack hdg
  obtain ⟨v, ⟨T', L', k', n'⟩, X', ⟨Lc, hQ, h1, h2, h3⟩, st⟩ := hK m meth c ⟨T.setVm vm₁, locs, cells, slots⟩ (mkF m pc Ls rest) (.invokevirtual index) mk (.ref b :: argsL).toArray X₁ hg hsize hdg hW (X₁.named hnamed) ⟨has, eT, hc, hsl⟩
  dsimp only [Pt.U, Pt.locs, Pt.cells, Pt.slots] at X' hQ h1 h2 h3 st
  subst h1 h2 h3
  exact hG _ _ (fun _ q => (hstep₁ _ fun acts => by rw [doInvoke_state]; exact Steps.refl _).trans (st.trans q)) (k v T' Lc hQ X')
theorem gSuperN {own K : String} {index : Nat} {y : MethodName} {bytes : ByteArray} {maxL : Nat} {ret : Option FieldType} {b : Addr} {W mc ms : Nat} {as' : Array Value} {Q : Option Value → Heap → List Loc → Prop} {argsL : List Value} (hG : Cl p.tables e below K0) (X : Stand p l e R s m args below meth c T locs cells slots) (hx : p.tables.exec = Jvm.exec) (hZ : Z.Warmed39 s.vm) (hown : s.vm.findClass own = some m.cls) (w1 : (Cond.methodLink own index y).before a0 Z = true) (w2 : (Cond.sameMethod y.cls y.cls y.name y.desc).before a0 Z = true) (w3 : (Cond.instanceMethod y).before a0 Z = true) (w4 : (Cond.superclass own y.cls).before a0 Z = true) (hn : y.name ≠ "<init>") (wc : (Cond.code y bytes maxL ret).before a0 Z = true) (F : Ins Z h b K true) (hK : Back l R p e below s args y 3 W (fun A a => a = as' ∧ A.U.heap = h ∧ A.cells + mc ≤ R.cells ∧ A.slots + ms ≤ R.slots) (fun A _ v B => ∃ L, Q v B.U.heap L ∧ B.locs = A.locs ++ L ∧ B.cells = A.cells + mc ∧ B.slots = A.slots + ms)) (hg : m = m) (hsize : Ls.size = c.maxLocals) (hlen : ∀ sig, parseMethodDescriptor y.desc = some sig → argsL.length = sig.parameters.length) (hstack : Ks = argsL.reverse ++ .ref b :: rest) (hW : 2 * 0 + (rest.map fun v => v.category).sum ≤ W) (hdg : decode c.code pc = .ok (.invokespecial index, 3)) (has : (.ref b :: argsL).toArray = as') (eT : T.heap = h) (hc : cells + mc ≤ R.cells) (hsl : slots + ms ≤ R.slots)
    (k : ∀ (v : Option Value) (T' : State) (L : List Loc), Q v T'.heap L → Stand p l e R s m args below meth c T' (locs ++ L) (cells + mc) (slots + ms) → K0 (T'.setTop (mkF m (pc + 3) (Ls) (v.toList ++ rest)))) : K0 (T.setTop (mkF m pc Ls Ks)) := by
  obtain ⟨v, vm₁, ⟨T', L', k', n'⟩, -, X', ⟨Lc, hQ, h1, h2, h3⟩, st⟩ := superBack (g := mkF m pc Ls Ks) X hx hZ hown w1 w2 w3 w4 hn hK eT F hg hsize wc hlen hstack hW hdg (fun vm₁ hvm => ⟨has, eT, hc, hsl⟩)
  dsimp only [Pt.U, Pt.locs, Pt.cells, Pt.slots] at X' hQ h1 h2 h3 st
  subst h1 h2 h3
  exact hG _ _ (fun _ q => st.trans q) (k v T' Lc hQ X')
theorem gCopy {own : String} {index : Nat} {ka k' : ClassId} {ty ty' : FieldType} {z z' sp dp nn : Int32} {vs vd us : List Value} {dv dd : Value} {a b : Addr} {n0 W : Nat} (hG : Cl p.tables e below K0) (X : Stand p l e R s m args below meth c T locs cells slots) (hx : p.tables.exec = Jvm.exec) (hZ : Z.Warmed39 s.vm) (hown : s.vm.findClass own = some m.cls)
    (w1 : (Cond.methodLink own index Jvm.Stand.acN).before a0 Z = true) (w2 : (Cond.native Jvm.Stand.acN).before a0 Z = true) (w3 : (Cond.static Jvm.Stand.acN).before a0 Z = true) (w4 : (Cond.initialized "java/lang/System").before a0 Z = true) (eT : T.heap = h)
    (A : Arv Z h a ka ty z vs dv) (B : Arv Z h b k' ty' z' vd dd) (hty : (ty = ty' ∧ refKind ty = false) ∨ (refKind ty = true ∧ refKind ty' = true ∧ StoL Z h b us))
    (h1 : ¬ sp < 0) (h2 : ¬ dp < 0) (h3 : ¬ nn < 0) (h4 : sp.toNatClampNeg + nn.toNatClampNeg ≤ z.toNatClampNeg) (h5 : dp.toNatClampNeg + nn.toNatClampNeg ≤ z'.toNatClampNeg)
    (hus : us = (List.range nn.toNatClampNeg).map fun i => vs.getD (sp.toNatClampNeg + i) dv) (hl : dp.toNatClampNeg + nn.toNatClampNeg ≤ vd.length) (N : Fr n0 locs) (ge : n0 ≤ b)
    (hg : m = m) (hsize : Ls.size = c.maxLocals) (hs : Ks = .int nn :: .int dp :: .ref b :: .int sp :: .ref a :: rest) (hd : decode c.code pc = .ok (.invokestatic index, 3))
    (hf : 1 ≤ R.frames) (hW : 2 * 0 + (rest.map fun v => v.category).sum ≤ W) (hlo : W + (nativeFrameWords "java/lang/System" "arraycopy" 5 + 11) ≤ R.locals)
    (k : ∀ T' h' L, Stand p l e R s m args below meth c T' L cells slots → T'.heap = h' → Fr n0 L → Keep h h' [b] → Arv Z h' b k' ty' z' (vd.take dp.toNatClampNeg ++ us ++ vd.drop (dp.toNatClampNeg + nn.toNatClampNeg)) dd → K0 (T'.setTop (mkF m (pc + 3) (Ls) (rest)))) : K0 (T.setTop (mkF m pc Ls Ks)) := by
  obtain ⟨T', h', L, X', e', N', K', A', st⟩ := cpA (g := mkF m pc Ls Ks) X hx hZ hown w1 w2 w3 w4 eT A B hty h1 h2 h3 h4 h5 hus hl N ge hg hsize hs hd hf hW hlo
  exact hG _ _ st (k T' h' L X' e' N' K' A')
theorem own_same {C : String} {y z z' : MethodName} (hd : (Cond.declares y).before a0 Z = true) (hs : (Cond.selects C z z').before a0 Z = true) (hc : z'.cls = y.cls) (hy : y.cls ≠ "java/lang/invoke/MethodHandle" ∧ y.cls ≠ "java/lang/invoke/VarHandle") : (Cond.sameMethod y.cls y.cls y.name y.desc).before a0 Z = true := by
  obtain ⟨m, meth, hn, -, -, -⟩ := Cond.declares_spec hd
  obtain ⟨c, r, m', h1, h2, h3, h4, mk, h5, h6⟩ := Cond.selects_spec hs
  have f1 := findClass_of_methodNamed hn
  have f2 := findClass_of_methodNamed h3
  rw [hc, f1] at f2
  have e : m.cls = m'.cls := Option.some.inj f2
  have hf := State.methodFound?_of_named hn hy
  have hn' : Z.methodNamed? ⟨y.cls, y.name, y.desc⟩ = some m := hn
  have h5' : Z.vm.classes[m.cls]? = some mk := by rw [e]; exact h5
  simp only [Cond.before, Cond.holds, Cond.value, f1, hf, hn', h5']
  simp [h6]
theorem own_notFace {s : State} {args : Array Value} {C : String} {y z z' : MethodName} (hs : (Cond.selects C z z').before args s = true) (hc : z'.cls = y.cls) : NotFace s y := fun r0 h0 => by
  obtain ⟨c2, r2, m2, q1, q2, q3, q4, kP, hkP, hkPi⟩ := Cond.selects_spec hs
  have f1 := findClass_of_methodNamed h0
  have f2 := findClass_of_methodNamed q3
  rw [hc, f1] at f2
  have e : r0.cls = m2.cls := Option.some.inj f2
  exact ⟨kP, by rw [e]; exact hkP, hkPi⟩
end Glue
theorem zXS_aconstNull {tb : Tables} [Ours tb] {e : Env} {below : List Frame} {T target : State} {m : MethodId} {c : Code} {pc : Nat} {Ls : Array Slot} {Ks : List Value} (h : At T m c below) (hx : tb.exec = Jvm.exec) (hg : m = m) (hd : decode c.code pc = .ok (.aconst_null, 1)) (hr : Steps tb e below (T.setTop (mkF m (pc + 1) (Ls) (.null :: Ks))) target) : Steps tb e below (T.setTop (mkF m pc Ls Ks)) target :=
  Jvm.Free.XS.aconstNull (g := mkF m pc Ls Ks) h hx hg hd hr
theorem zXS_aload {tb : Tables} [Ours tb] {e : Env} {below : List Frame} {T target : State} {m : MethodId} {c : Code} {pc : Nat} {Ls : Array Slot} {Ks : List Value} (h : At T m c below) (hx : tb.exec = Jvm.exec) (hg : m = m) {k : Nat} {v : Value} (hd : decode c.code pc = .ok (.aload k, 2)) (hl : Ls[k]? = some (.val v)) (hv : v.isRef = true) (hr : Steps tb e below (T.setTop (mkF m (pc + 2) (Ls) (v :: Ks))) target) : Steps tb e below (T.setTop (mkF m pc Ls Ks)) target :=
  Jvm.Free.XS.aload (g := mkF m pc Ls Ks) h hx hg hd hl hv hr
theorem zXS_aloadN {tb : Tables} [Ours tb] {e : Env} {below : List Frame} {T target : State} {m : MethodId} {c : Code} {pc : Nat} {Ls : Array Slot} {Ks : List Value} (h : At T m c below) (hx : tb.exec = Jvm.exec) (hg : m = m) {k : Fin 4} {v : Value} (hd : decode c.code pc = .ok (.aload_n k, 1)) (hl : Ls[k.val]? = some (.val v)) (hv : v.isRef = true) (hr : Steps tb e below (T.setTop (mkF m (pc + 1) (Ls) (v :: Ks))) target) : Steps tb e below (T.setTop (mkF m pc Ls Ks)) target :=
  Jvm.Free.XS.aloadN (g := mkF m pc Ls Ks) h hx hg hd hl hv hr
theorem zXS_astore {tb : Tables} [Ours tb] {e : Env} {below : List Frame} {T target : State} {m : MethodId} {c : Code} {pc : Nat} {Ls : Array Slot} {Ks : List Value} (h : At T m c below) (hx : tb.exec = Jvm.exec) (hg : m = m) {k : Nat} {x : Value} {rest : List Value} {l' : Array Slot} (hd : decode c.code pc = .ok (.astore k, 2)) (hs : Ks = x :: rest) (hv : x.isRef = true) (hl : storeLocals Ls k x = some l') (hr : Steps tb e below (T.setTop (mkF m (pc + 2) (l') (rest))) target) : Steps tb e below (T.setTop (mkF m pc Ls Ks)) target :=
  Jvm.Free.XS.astore (g := mkF m pc Ls Ks) h hx hg hd hs hv hl hr
theorem zXS_astoreN {tb : Tables} [Ours tb] {e : Env} {below : List Frame} {T target : State} {m : MethodId} {c : Code} {pc : Nat} {Ls : Array Slot} {Ks : List Value} (h : At T m c below) (hx : tb.exec = Jvm.exec) (hg : m = m) {k : Fin 4} {x : Value} {rest : List Value} {l' : Array Slot} (hd : decode c.code pc = .ok (.astore_n k, 1)) (hs : Ks = x :: rest) (hv : x.isRef = true) (hl : storeLocals Ls k.val x = some l') (hr : Steps tb e below (T.setTop (mkF m (pc + 1) (l') (rest))) target) : Steps tb e below (T.setTop (mkF m pc Ls Ks)) target :=
  Jvm.Free.XS.astoreN (g := mkF m pc Ls Ks) h hx hg hd hs hv hl hr
theorem zXS_bipush {tb : Tables} [Ours tb] {e : Env} {below : List Frame} {T target : State} {m : MethodId} {c : Code} {pc : Nat} {Ls : Array Slot} {Ks : List Value} (h : At T m c below) (hx : tb.exec = Jvm.exec) (hg : m = m) {i : Int} (hd : decode c.code pc = .ok (.bipush i, 2)) (hr : Steps tb e below (T.setTop (mkF m (pc + 2) (Ls) (.int (Int8.ofInt i).toInt32 :: Ks))) target) : Steps tb e below (T.setTop (mkF m pc Ls Ks)) target :=
  Jvm.Free.XS.bipush (g := mkF m pc Ls Ks) h hx hg hd hr
theorem zXS_dup {tb : Tables} [Ours tb] {e : Env} {below : List Frame} {T target : State} {m : MethodId} {c : Code} {pc : Nat} {Ls : Array Slot} {Ks : List Value} (h : At T m c below) (hx : tb.exec = Jvm.exec) (hg : m = m) {x : Value} {rest : List Value} (hd : decode c.code pc = .ok (.dup, 1)) (hs : Ks = x :: rest) (hc : x.category = 1) (hr : Steps tb e below (T.setTop (mkF m (pc + 1) (Ls) (x :: x :: rest))) target) : Steps tb e below (T.setTop (mkF m pc Ls Ks)) target :=
  Jvm.Free.XS.dup (g := mkF m pc Ls Ks) h hx hg hd hs hc hr
theorem zXS_goto {tb : Tables} [Ours tb] {e : Env} {below : List Frame} {T target : State} {m : MethodId} {c : Code} {pc : Nat} {Ls : Array Slot} {Ks : List Value} (h : At T m c below) (hx : tb.exec = Jvm.exec) (hg : m = m) {o : Int} {pc0 pc' : Nat} (hpc : pc = pc0) (hd : decode c.code pc = .ok (.goto o, 3)) (ho : 0 ≤ (pc0 : Int) + o) (hp : ((pc0 : Int) + o).toNat = pc') (hr : Steps tb e below (T.setTop (mkF m (pc') (Ls) (Ks))) target) : Steps tb e below (T.setTop (mkF m pc Ls Ks)) target :=
  Jvm.Free.XS.goto (g := mkF m pc Ls Ks) h hx hg hpc hd ho hp hr
theorem zXS_iadd {tb : Tables} [Ours tb] {e : Env} {below : List Frame} {T target : State} {m : MethodId} {c : Code} {pc : Nat} {Ls : Array Slot} {Ks : List Value} (h : At T m c below) (hx : tb.exec = Jvm.exec) (hg : m = m) {x y : Int32} {rest : List Value} (hd : decode c.code pc = .ok (.iadd, 1)) (hs : Ks = .int y :: .int x :: rest) (hr : Steps tb e below (T.setTop (mkF m (pc + 1) (Ls) (.int (x + y) :: rest))) target) : Steps tb e below (T.setTop (mkF m pc Ls Ks)) target :=
  Jvm.Free.XS.iadd (g := mkF m pc Ls Ks) h hx hg hd hs hr
theorem zXS_iand {tb : Tables} [Ours tb] {e : Env} {below : List Frame} {T target : State} {m : MethodId} {c : Code} {pc : Nat} {Ls : Array Slot} {Ks : List Value} (h : At T m c below) (hx : tb.exec = Jvm.exec) (hg : m = m) {x y : Int32} {rest : List Value} (hd : decode c.code pc = .ok (.iand, 1)) (hs : Ks = .int y :: .int x :: rest) (hr : Steps tb e below (T.setTop (mkF m (pc + 1) (Ls) (.int (x &&& y) :: rest))) target) : Steps tb e below (T.setTop (mkF m pc Ls Ks)) target :=
  Jvm.Free.XS.iand (g := mkF m pc Ls Ks) h hx hg hd hs hr
theorem zXS_icmpNo {tb : Tables} [Ours tb] {e : Env} {below : List Frame} {T target : State} {m : MethodId} {c : Code} {pc : Nat} {Ls : Array Slot} {Ks : List Value} (h : At T m c below) (hx : tb.exec = Jvm.exec) (hg : m = m) {cd : ClassFile.Cond} {o : Int} {x y : Int32} {rest : List Value} (hd : decode c.code pc = .ok (.if_icmp cd o, 3)) (hs : Ks = .int y :: .int x :: rest) (hc : if_icmp.holds cd x y = false) (hr : Steps tb e below (T.setTop (mkF m (pc + 3) (Ls) (rest))) target) : Steps tb e below (T.setTop (mkF m pc Ls Ks)) target :=
  Jvm.Free.XS.icmpNo (g := mkF m pc Ls Ks) h hx hg hd hs hc hr
theorem zXS_icmpYes {tb : Tables} [Ours tb] {e : Env} {below : List Frame} {T target : State} {m : MethodId} {c : Code} {pc : Nat} {Ls : Array Slot} {Ks : List Value} (h : At T m c below) (hx : tb.exec = Jvm.exec) (hg : m = m) {cd : ClassFile.Cond} {x y : Int32} {rest : List Value} {o : Int} {pc0 pc' : Nat} (hpc : pc = pc0) (hd : decode c.code pc = .ok (.if_icmp cd o, 3)) (hs : Ks = .int y :: .int x :: rest) (hc : if_icmp.holds cd x y = true) (ho : 0 ≤ (pc0 : Int) + o) (hp : ((pc0 : Int) + o).toNat = pc') (hr : Steps tb e below (T.setTop (mkF m (pc') (Ls) (rest))) target) : Steps tb e below (T.setTop (mkF m pc Ls Ks)) target :=
  Jvm.Free.XS.icmpYes (g := mkF m pc Ls Ks) h hx hg hpc hd hs hc ho hp hr
theorem zXS_iconst {tb : Tables} [Ours tb] {e : Env} {below : List Frame} {T target : State} {m : MethodId} {c : Code} {pc : Nat} {Ls : Array Slot} {Ks : List Value} (h : At T m c below) (hx : tb.exec = Jvm.exec) (hg : m = m) {i : Int} (hd : decode c.code pc = .ok (.iconst i, 1)) (hr : Steps tb e below (T.setTop (mkF m (pc + 1) (Ls) (.int (Int32.ofInt i) :: Ks))) target) : Steps tb e below (T.setTop (mkF m pc Ls Ks)) target :=
  Jvm.Free.XS.iconst (g := mkF m pc Ls Ks) h hx hg hd hr
theorem zXS_ifNo {tb : Tables} [Ours tb] {e : Env} {below : List Frame} {T target : State} {m : MethodId} {c : Code} {pc : Nat} {Ls : Array Slot} {Ks : List Value} (h : At T m c below) (hx : tb.exec = Jvm.exec) (hg : m = m) {cd : ClassFile.Cond} {o : Int} {x : Int32} {rest : List Value} (hd : decode c.code pc = .ok (.ifCond cd o, 3)) (hs : Ks = .int x :: rest) (hc : ifCond.holds cd x = false) (hr : Steps tb e below (T.setTop (mkF m (pc + 3) (Ls) (rest))) target) : Steps tb e below (T.setTop (mkF m pc Ls Ks)) target :=
  Jvm.Free.XS.ifNo (g := mkF m pc Ls Ks) h hx hg hd hs hc hr
theorem zXS_ifYes {tb : Tables} [Ours tb] {e : Env} {below : List Frame} {T target : State} {m : MethodId} {c : Code} {pc : Nat} {Ls : Array Slot} {Ks : List Value} (h : At T m c below) (hx : tb.exec = Jvm.exec) (hg : m = m) {cd : ClassFile.Cond} {x : Int32} {rest : List Value} {o : Int} {pc0 pc' : Nat} (hpc : pc = pc0) (hd : decode c.code pc = .ok (.ifCond cd o, 3)) (hs : Ks = .int x :: rest) (hc : ifCond.holds cd x = true) (ho : 0 ≤ (pc0 : Int) + o) (hp : ((pc0 : Int) + o).toNat = pc') (hr : Steps tb e below (T.setTop (mkF m (pc') (Ls) (rest))) target) : Steps tb e below (T.setTop (mkF m pc Ls Ks)) target :=
  Jvm.Free.XS.ifYes (g := mkF m pc Ls Ks) h hx hg hpc hd hs hc ho hp hr
theorem zXS_iinc {tb : Tables} [Ours tb] {e : Env} {below : List Frame} {T target : State} {m : MethodId} {c : Code} {pc : Nat} {Ls : Array Slot} {Ks : List Value} (h : At T m c below) (hx : tb.exec = Jvm.exec) (hg : m = m) {k : Nat} {cst : Int} {x : Int32} {l' : Array Slot} (hd : decode c.code pc = .ok (.iinc k cst, 3)) (hl : Ls[k]? = some (.val (.int x))) (hl' : storeLocals Ls k (.int (x + Int32.ofInt cst)) = some l') (hr : Steps tb e below (T.setTop (mkF m (pc + 3) (l') (Ks))) target) : Steps tb e below (T.setTop (mkF m pc Ls Ks)) target :=
  Jvm.Free.XS.iinc (g := mkF m pc Ls Ks) h hx hg hd hl hl' hr
theorem zXS_iload {tb : Tables} [Ours tb] {e : Env} {below : List Frame} {T target : State} {m : MethodId} {c : Code} {pc : Nat} {Ls : Array Slot} {Ks : List Value} (h : At T m c below) (hx : tb.exec = Jvm.exec) (hg : m = m) {k : Nat} {v : Int32} (hd : decode c.code pc = .ok (.iload k, 2)) (hl : Ls[k]? = some (.val (.int v))) (hr : Steps tb e below (T.setTop (mkF m (pc + 2) (Ls) (.int v :: Ks))) target) : Steps tb e below (T.setTop (mkF m pc Ls Ks)) target :=
  Jvm.Free.XS.iload (g := mkF m pc Ls Ks) h hx hg hd hl hr
theorem zXS_iloadN {tb : Tables} [Ours tb] {e : Env} {below : List Frame} {T target : State} {m : MethodId} {c : Code} {pc : Nat} {Ls : Array Slot} {Ks : List Value} (h : At T m c below) (hx : tb.exec = Jvm.exec) (hg : m = m) {k : Fin 4} {v : Int32} (hd : decode c.code pc = .ok (.iload_n k, 1)) (hl : Ls[k.val]? = some (.val (.int v))) (hr : Steps tb e below (T.setTop (mkF m (pc + 1) (Ls) (.int v :: Ks))) target) : Steps tb e below (T.setTop (mkF m pc Ls Ks)) target :=
  Jvm.Free.XS.iloadN (g := mkF m pc Ls Ks) h hx hg hd hl hr
theorem zXS_istore {tb : Tables} [Ours tb] {e : Env} {below : List Frame} {T target : State} {m : MethodId} {c : Code} {pc : Nat} {Ls : Array Slot} {Ks : List Value} (h : At T m c below) (hx : tb.exec = Jvm.exec) (hg : m = m) {k : Nat} {x : Int32} {rest : List Value} {l' : Array Slot} (hd : decode c.code pc = .ok (.istore k, 2)) (hs : Ks = .int x :: rest) (hl : storeLocals Ls k (.int x) = some l') (hr : Steps tb e below (T.setTop (mkF m (pc + 2) (l') (rest))) target) : Steps tb e below (T.setTop (mkF m pc Ls Ks)) target :=
  Jvm.Free.XS.istore (g := mkF m pc Ls Ks) h hx hg hd hs hl hr
theorem zXS_istoreN {tb : Tables} [Ours tb] {e : Env} {below : List Frame} {T target : State} {m : MethodId} {c : Code} {pc : Nat} {Ls : Array Slot} {Ks : List Value} (h : At T m c below) (hx : tb.exec = Jvm.exec) (hg : m = m) {k : Fin 4} {x : Int32} {rest : List Value} {l' : Array Slot} (hd : decode c.code pc = .ok (.istore_n k, 1)) (hs : Ks = .int x :: rest) (hl : storeLocals Ls k.val (.int x) = some l') (hr : Steps tb e below (T.setTop (mkF m (pc + 1) (l') (rest))) target) : Steps tb e below (T.setTop (mkF m pc Ls Ks)) target :=
  Jvm.Free.XS.istoreN (g := mkF m pc Ls Ks) h hx hg hd hs hl hr
theorem zXS_isub {tb : Tables} [Ours tb] {e : Env} {below : List Frame} {T target : State} {m : MethodId} {c : Code} {pc : Nat} {Ls : Array Slot} {Ks : List Value} (h : At T m c below) (hx : tb.exec = Jvm.exec) (hg : m = m) {x y : Int32} {rest : List Value} (hd : decode c.code pc = .ok (.isub, 1)) (hs : Ks = .int y :: .int x :: rest) (hr : Steps tb e below (T.setTop (mkF m (pc + 1) (Ls) (.int (x - y) :: rest))) target) : Steps tb e below (T.setTop (mkF m pc Ls Ks)) target :=
  Jvm.Free.XS.isub (g := mkF m pc Ls Ks) h hx hg hd hs hr
theorem zXS_sipush {tb : Tables} [Ours tb] {e : Env} {below : List Frame} {T target : State} {m : MethodId} {c : Code} {pc : Nat} {Ls : Array Slot} {Ks : List Value} (h : At T m c below) (hx : tb.exec = Jvm.exec) (hg : m = m) {i : Int} (hd : decode c.code pc = .ok (.sipush i, 3)) (hr : Steps tb e below (T.setTop (mkF m (pc + 3) (Ls) (.int (Int16.ofInt i).toInt32 :: Ks))) target) : Steps tb e below (T.setTop (mkF m pc Ls Ks)) target :=
  Jvm.Free.XS.sipush (g := mkF m pc Ls Ks) h hx hg hd hr
theorem zXT_i2b {tb : Tables} [Ours tb] {e : Env} {below : List Frame} {T target : State} {m : MethodId} {c : Code} {pc : Nat} {Ls : Array Slot} {Ks : List Value} (h : At T m c below) (hx : tb.exec = Jvm.exec) (hg : m = m) {x : Int32} {rest : List Value} (hd : decode c.code pc = .ok (.i2b, 1)) (hs : Ks = .int x :: rest) (hr : Steps tb e below (T.setTop (mkF m (pc + 1) (Ls) (.int (x.toInt8.toInt32) :: rest))) target) : Steps tb e below (T.setTop (mkF m pc Ls Ks)) target :=
  Jvm.Free.XT.i2b (g := mkF m pc Ls Ks) h hx hg hd hs hr
theorem zXT_i2c {tb : Tables} [Ours tb] {e : Env} {below : List Frame} {T target : State} {m : MethodId} {c : Code} {pc : Nat} {Ls : Array Slot} {Ks : List Value} (h : At T m c below) (hx : tb.exec = Jvm.exec) (hg : m = m) {x : Int32} {rest : List Value} (hd : decode c.code pc = .ok (.i2c, 1)) (hs : Ks = .int x :: rest) (hr : Steps tb e below (T.setTop (mkF m (pc + 1) (Ls) (.int (x.toUInt32.toUInt16.toUInt32.toInt32) :: rest))) target) : Steps tb e below (T.setTop (mkF m pc Ls Ks)) target :=
  Jvm.Free.XT.i2c (g := mkF m pc Ls Ks) h hx hg hd hs hr
theorem zXT_ifnonnullYes {tb : Tables} [Ours tb] {e : Env} {below : List Frame} {T target : State} {m : MethodId} {c : Code} {pc : Nat} {Ls : Array Slot} {Ks : List Value} (h : At T m c below) (hx : tb.exec = Jvm.exec) (hg : m = m) {b : Addr} {rest : List Value} {o : Int} {pc0 pc' : Nat} (hpc : pc = pc0) (hd : decode c.code pc = .ok (.ifnonnull o, 3)) (hs : Ks = .ref b :: rest) (ho : 0 ≤ (pc0 : Int) + o) (hp : ((pc0 : Int) + o).toNat = pc') (hr : Steps tb e below (T.setTop (mkF m (pc') (Ls) (rest))) target) : Steps tb e below (T.setTop (mkF m pc Ls Ks)) target :=
  Jvm.Free.XT.ifnonnullYes (g := mkF m pc Ls Ks) h hx hg hpc hd hs ho hp hr
theorem zXT_ior {tb : Tables} [Ours tb] {e : Env} {below : List Frame} {T target : State} {m : MethodId} {c : Code} {pc : Nat} {Ls : Array Slot} {Ks : List Value} (h : At T m c below) (hx : tb.exec = Jvm.exec) (hg : m = m) {x y : Int32} {rest : List Value} (hd : decode c.code pc = .ok (.ior, 1)) (hs : Ks = .int y :: .int x :: rest) (hr : Steps tb e below (T.setTop (mkF m (pc + 1) (Ls) (.int (x ||| y) :: rest))) target) : Steps tb e below (T.setTop (mkF m pc Ls Ks)) target :=
  Jvm.Free.XT.ior (g := mkF m pc Ls Ks) h hx hg hd hs hr
theorem zXT_ishl {tb : Tables} [Ours tb] {e : Env} {below : List Frame} {T target : State} {m : MethodId} {c : Code} {pc : Nat} {Ls : Array Slot} {Ks : List Value} (h : At T m c below) (hx : tb.exec = Jvm.exec) (hg : m = m) {x y : Int32} {rest : List Value} (hd : decode c.code pc = .ok (.ishl, 1)) (hs : Ks = .int y :: .int x :: rest) (hr : Steps tb e below (T.setTop (mkF m (pc + 1) (Ls) (.int (x <<< (y &&& 31)) :: rest))) target) : Steps tb e below (T.setTop (mkF m pc Ls Ks)) target :=
  Jvm.Free.XT.ishl (g := mkF m pc Ls Ks) h hx hg hd hs hr
theorem zXT_ishr {tb : Tables} [Ours tb] {e : Env} {below : List Frame} {T target : State} {m : MethodId} {c : Code} {pc : Nat} {Ls : Array Slot} {Ks : List Value} (h : At T m c below) (hx : tb.exec = Jvm.exec) (hg : m = m) {x y : Int32} {rest : List Value} (hd : decode c.code pc = .ok (.ishr, 1)) (hs : Ks = .int y :: .int x :: rest) (hr : Steps tb e below (T.setTop (mkF m (pc + 1) (Ls) (.int (x >>> (y &&& 31)) :: rest))) target) : Steps tb e below (T.setTop (mkF m pc Ls Ks)) target :=
  Jvm.Free.XT.ishr (g := mkF m pc Ls Ks) h hx hg hd hs hr
theorem zXT_iushr {tb : Tables} [Ours tb] {e : Env} {below : List Frame} {T target : State} {m : MethodId} {c : Code} {pc : Nat} {Ls : Array Slot} {Ks : List Value} (h : At T m c below) (hx : tb.exec = Jvm.exec) (hg : m = m) {x y : Int32} {rest : List Value} (hd : decode c.code pc = .ok (.iushr, 1)) (hs : Ks = .int y :: .int x :: rest) (hr : Steps tb e below (T.setTop (mkF m (pc + 1) (Ls) (.int (Jvm.Free.XT.ushr x y) :: rest))) target) : Steps tb e below (T.setTop (mkF m pc Ls Ks)) target :=
  Jvm.Free.XT.iushr (g := mkF m pc Ls Ks) h hx hg hd hs hr
theorem zXT_pop {tb : Tables} [Ours tb] {e : Env} {below : List Frame} {T target : State} {m : MethodId} {c : Code} {pc : Nat} {Ls : Array Slot} {Ks : List Value} (h : At T m c below) (hx : tb.exec = Jvm.exec) (hg : m = m) {x : Value} {rest : List Value} (hd : decode c.code pc = .ok (.pop, 1)) (hs : Ks = x :: rest) (hc : x.category = 1) (hr : Steps tb e below (T.setTop (mkF m (pc + 1) (Ls) (rest))) target) : Steps tb e below (T.setTop (mkF m pc Ls Ks)) target :=
  Jvm.Free.XT.pop (g := mkF m pc Ls Ks) h hx hg hd hs hc hr
theorem zRW_iremM {p : Program} {l : Launch} {e : Env} {R : Room} {s : State} {m : MethodId} {args : Array Value} {below : List Frame} {meth : Method} {c : Code} {T : State} {locs : List Loc} {cells slots : Nat} {target : State} {pc : Nat} {Ls : Array Slot} {Ks : List Value} (X : Stand p l e R s m args below meth c T locs cells slots) (hx : p.tables.exec = Jvm.exec) (hg : m = m) {x y : Int32} {rest : List Value} (hd : decode c.code pc = .ok (.irem, 1)) (hs : Ks = .int y :: .int x :: rest) (hy : y ≠ 0) (hr : Steps p.tables e below (T.setTop (mkF m (pc + 1) (Ls) (.int (x % y) :: rest))) target) : Steps p.tables e below (T.setTop (mkF m pc Ls Ks)) target :=
  iremM (g := mkF m pc Ls Ks) X hx hg hd hs hy hr
/-- addresses are told to omega as natural numbers -/
theorem own_ane {a b : Addr} (h : ¬ @Eq Nat a b) : a ≠ b := h
theorem own_anes {a b : Addr} (h : ¬ @Eq Nat b a) : a ≠ b := fun q => h q.symm
theorem own_anq {a b : Addr} (h : a ≠ b) : ¬ @Eq Nat a b := h
theorem own_ale {n : Nat} {a : Addr} (h : @LE.le Nat instLENat n a) : n ≤ a := h
theorem own_alt {n : Nat} {a : Addr} (h : a < n) : @LT.lt Nat instLTNat a n := h
theorem own_fr_nil {n0 : Nat} {N : List Loc} (h : Fr n0 N) : Fr n0 (N ++ []) := Fr.app h (Fr.nil n0)
abbrev sU : Slot := .unset
abbrev sS : Slot := .second
abbrev sJ (x : Int64) : Slot := .val (.long x)
abbrev sI (x : Int32) : Slot := .val (.int x)
abbrev sR (x : Addr) : Slot := .val (.ref x)
theorem tw {a0 : Array Value} {Z : State} (hw : ∀ d ∈ tables_1, d.before a0 Z = true) {d : Jvm.Cond} (i : Nat) (h : tables_1[i]? = some d) : d.before a0 Z = true := hw d (List.mem_of_getElem? h)
theorem Gl.cast {tb : Tables} {e : Env} {below : List Frame} {P : Outcome → State → Prop} {T : State} {F F' : JFrame} (h : F = F') (k : Gl tb e below P (T.setTop F')) : Gl tb e below P (T.setTop F) := by rw [h]; exact k
abbrev Lat (c : Int32) : Prop := ¬ c < 0 ∧ ¬ (255 : Int32) < c
abbrev Wid (c : Int32) : Prop := ¬ c < 0 ∧ ¬ (65535 : Int32) < c
theorem own_c0 {P : Int32 → Prop} : ∀ x ∈ ([] : List Int32), P x := fun _ h => nomatch h
theorem own_cS {P : Int32 → Prop} {y : Int32} {L : List Int32} (q : P y) (r : ∀ x ∈ L, P x) : ∀ x ∈ y :: L, P x := List.forall_mem_cons.mpr ⟨q, r⟩
theorem own_up {cs : List Int32} (h : ∀ c ∈ cs, Lat c) : ∀ c ∈ cs, Wid c := fun c hc => ⟨(h c hc).1, fun q => (h c hc).2 (by rw [Int32.lt_iff_toInt_lt] at q ⊢; have e1 : (65535 : Int32).toInt = 65535 := rfl; have e2 : (255 : Int32).toInt = 255 := rfl; omega)⟩
theorem own_and255 (x : Int32) : (x &&& 255) = Int32.ofNat (x &&& 255).toBitVec.toNat ∧ (x &&& 255).toBitVec.toNat < 256 := by
  refine ⟨?_, ?_⟩
  · apply Int32.toBitVec_inj.mp
    show _ = BitVec.ofNat 32 _
    rw [BitVec.ofNat_toNat]; simp
  · simp only [Int32.toBitVec_and, BitVec.toNat_and]
    exact Nat.lt_succ_of_le Nat.and_le_right
theorem own_lat255 (x : Int32) : Lat (nar .char ((x &&& (255 : Int32)).toUInt32.toUInt16.toUInt32.toInt32)) := by
  have t : ∀ k : Fin 256, Lat (nar .char ((Int32.ofNat k.val).toUInt32.toUInt16.toUInt32.toInt32)) := by decide +kernel
  obtain ⟨e, h⟩ := own_and255 x
  rw [e]
  exact t ⟨_, h⟩
/-- the elements of an array that stood at the start, from place k on -/
def OwnEls (args : Array Value) (s : State) (t : Term) : Nat → List Value → Prop
  | _, [] => True
  | k, v :: r => (Term.elem t (.int (Int32.ofNat k))).eval args s none [] s = some v ∧ OwnEls args s t (k + 1) r
theorem own_nat32 {k : Nat} (h : k < 2 ^ 31) : (Int32.ofNat k).toNatClampNeg = k := by
  have e : (Int32.ofNat k).toInt = k := Int32.toInt_ofNat_small h
  simp only [Int32.toNatClampNeg, e]; rfl
theorem own_els {args : Array Value} {s : State} {t : Term} {a : Addr} {cl : Cell} (ht : t.eval args s none [] s = some (.ref a)) (hc : s.heap[a]? = some cl) : ∀ (vs : List Value) (k : Nat), k + vs.length < 2 ^ 31 → OwnEls args s t k vs → HasL cl k vs
  | [], _, _, _ => trivial
  | v :: r, k, hb, h => by
    have hk : k < 2 ^ 31 := by simp only [List.length_cons] at hb; omega
    have q := (elem_in h.1 ht (Term.int_eval _) hc).2
    rw [own_nat32 hk] at q
    exact ⟨q, own_els ht hc r (k + 1) (by simp only [List.length_cons] at hb; omega) h.2⟩
theorem own_oldArr {args : Array Value} {s : State} {t : Term} {a : Addr} {ty : FieldType} {z : Int32} {vs : List Value} {dv : Value} (hf : Fit s) (ht : t.eval args s none [] s = some (.ref a)) (hA : (Cond.arrayOf t ty).value args s none s [] = some true)
    (hL : (Term.length t).eval args s none [] s = some (.int z)) (hz : ¬ z < 0) (hl : z.toNatClampNeg = vs.length) (hb : vs.length < 2 ^ 31) (hE : OwnEls args s t 0 vs) : ∃ k, Arv s s.heap a k ty z vs dv := by
  obtain ⟨c, A⟩ := Arr.start ht hA
  obtain ⟨x, c', e1, h1, -⟩ := Term.length_spec hL
  cases ht.symm.trans e1
  have h2 := A.fin (Vm.Alike.refl _)
  cases h1.symm.trans h2
  have h31 := SBG.length_lt ht h1 hL
  have e : c.slots.size.toInt32 = z := by
    have q : (Term.length t).eval args s none [] s = some (.int (Int32.ofNat c.slots.size)) := by simp [Term.eval, ht, h1, h31]
    have q2 := Option.some.inj (q.symm.trans hL)
    exact Value.int.inj q2
  exact ⟨c.cls, Arv.start hf A h31 e hz hl (own_els ht A.1 vs 0 (by omega) hE)⟩
theorem own_eqI {args : Array Value} {s : State} {t : Term} {z : Int32} (h : (Cond.eq t (.int z)).value args s none s [] = some true) : t.eval args s none [] s = some (.int z) := Cond.eq_int (Cond.before_iff.mpr h) rfl
theorem own_eqR {args : Array Value} {s : State} {t u : Term} {a : Addr} (hu : u.eval args s none [] s = some (.ref a)) (h : (Cond.eq t u).value args s none s [] = some true) : t.eval args s none [] s = some (.ref a) := by
  obtain ⟨x, y, h1, h2, k1, k2⟩ := cmp_v (Or.inl h)
  cases hu.symm.trans h2
  have hx : x.isRef = true := by cases x <;> simp [Kin, Value.isRef] at k1 ⊢
  have q := gotT (eq_R h1 h2 hx rfl) h
  rw [h1, q]
/-- a payer whose premise and promise speak of the tables too -/
theorem backOfJ {p : Program} {l : Launch} {e : Env} {R : Room} {s : State} {args : Array Value} {below : List Frame} {Z : State} {a0 : Array Value} {h : Heap} {y : MethodName} {bytes : ByteArray} {maxL : Nat} {ret : Option FieldType} {rm : Room} {len W : Nat} {as' : Array Value} {Φ : Vm → Prop} {Q : Option Value → Heap → Vm → List Loc → Prop}
    (hM : MetFree l y (head1 [Cond.code y bytes maxL ret] rm) (fun a U => a = as' ∧ Z.Warmed39 U.vm ∧ U.heap = h ∧ Φ U.vm) (fun _ _ _ _ _ => True) (fun _ U o U' => ∃ v L, o = .returned v ∧ Q v U'.heap U'.vm L ∧ ReturnedEndW U o U' L rm.cells rm.slots))
    (hZ : Z.Warmed39 s.vm) (wc : (Cond.code y bytes maxL ret).before a0 Z = true) (wz : (Cond.initialized y.cls).before a0 Z = true) (hf : rm.frames + 1 ≤ R.frames) (hl : W + (maxL + 11) + rm.locals ≤ R.locals) :
    BackS l R p e below s args y len W (fun A a => a = as' ∧ A.U.heap = h ∧ Φ A.U.vm ∧ A.cells + rm.cells ≤ R.cells ∧ A.slots + rm.slots ≤ R.slots)
      (fun A _ v B => ∃ L, Q v B.U.heap B.U.vm L ∧ B.locs = A.locs ++ L ∧ B.cells = A.cells + rm.cells ∧ B.slots = A.slots + rm.slots) := by
  refine BackS.of_freeW (bytes := bytes) (maxL := maxL) (ret := ret) (E := fun _ _ o t L k n => k = rm.cells ∧ n = rm.slots ∧ ∃ v, o = .returned v ∧ Q v t.heap t.vm L) hM hf hl ?_ ?_ ?_ ?_ ?_
  · intro m meth c A a Y hp
    have hU : Z.Warmed39 A.U.vm := wtrans hZ Y.warmed
    exact ⟨by show (Cond.and _ .tt).before a A.U = true; rw [Cond.before_and, mv hU wc]; rfl, mv hU wc, mv hU wz, hp.2.2.2.1, hp.2.2.2.2⟩
  · intro m meth c A a g mk Y hp
    exact ⟨hp.1, wtrans hZ Y.warmed, hp.2.1, hp.2.2.1⟩
  · intro _ _ _ _ _ _ _ _ _
    trivial
  · intro a first o t hq
    obtain ⟨v, L, h1, h2, h3⟩ := hq
    exact ⟨L, _, _, h3, rfl, rfl, v, h1, h2⟩
  · intro m meth c A a g mk v t L k n Y hp h1 h2 hE
    obtain ⟨e1, e2, v', e3, e4⟩ := hE
    cases e3
    subst e1 e2
    exact ⟨L, e4, rfl, rfl, rfl⟩
/-- nothing has been interned since the start, or String's own empty constant is booked and known -/
def EmJ (Z : State) (vm : Vm) (h : Heap) : Prop := IB Z vm [] ∨ IB Z vm [""] ∧ ∃ (a t : Addr) (kb : ClassId), Lit (Z.setVm vm) "java/lang/String" 7 a ∧ Exa Z h a "java/lang/String" ∧ Fld Z h a "java/lang/String" "coder" "B" (.int 0) ∧ Fld Z h a "java/lang/String" "value" "[B" (.ref t) ∧ Arv Z h t kb .byte (0 : Int32) [] (.int 0)
theorem EmJ.keep {Z : State} {vm : Vm} {h h' : Heap} (E : EmJ Z vm h) (K : Keep h h' []) : EmJ Z vm h' := by
  rcases E with I | ⟨I, a, t, kb, L, e1, e2, e3, e4⟩
  · exact Or.inl I
  · exact Or.inr ⟨I, a, t, kb, L, e1.keep K, e2.keep K nin0, e3.keep K nin0, e4.keep K nin0⟩
theorem EmJ.warm {Z s : State} {vm0 vm1 : Vm} {h : Heap} (E : EmJ Z vm0 h) (W : (s.setVm vm0).WarmedH vm1) : EmJ Z vm1 h := by
  rcases E with I | ⟨I, a, t, kb, L, r⟩
  · obtain ⟨more, e1, e2⟩ := I
    exact Or.inl ⟨more, (W.interned_eq).trans e1, e2⟩
  · obtain ⟨more, e1, e2⟩ := I
    exact Or.inr ⟨⟨more, (W.interned_eq).trans e1, e2⟩, a, t, kb, Lit.stays (s := s) (vm0 := vm0) L W.wide, r⟩
theorem EmJ.ib {Z : State} {vm : Vm} {h : Heap} (E : EmJ Z vm h) : IB Z vm [""] := by
  rcases E with ⟨more, e1, e2⟩ | ⟨I, -⟩
  · exact ⟨more, e1, fun q hq => by obtain ⟨t, ht, -⟩ := e2 q hq; exact absurd ht (by simp)⟩
  · exact I
/-- the bytes of Latin-1 chars -/
def lb (cs : List Int32) : List Value := (cs.map fun c => c.toInt8.toInt32).map Value.int
theorem lb_len (cs : List Int32) : (lb cs).length = cs.length := by simp [lb]
theorem lb_app (cs ds : List Int32) : lb (cs ++ ds) = lb cs ++ lb ds := by simp [lb]
theorem own_toI {k : Nat} (h : k < 2 ^ 31) : (Int32.ofNat k).toInt = k := Int32.toInt_ofNat_small h
theorem own_add32 (a b : Nat) : Int32.ofNat a + Int32.ofNat b = Int32.ofNat (a + b) := (Int32.ofNat_add a b).symm
theorem own_shl0 (x : Int32) : x <<< ((0 : Int32) &&& 31) = x := by
  have e : ((0 : Int32) &&& 31) = 0 := rfl
  rw [e]
  apply Int32.toBitVec_inj.mp
  simp
theorem own_sub0 (x : Int32) : x - (0 : Int32) = x := by simp
theorem own_lt32 {a b : Nat} (hb : b < 2 ^ 31) (h : a < b) : Int32.ofNat a < Int32.ofNat b := by
  rw [Int32.lt_iff_toInt_lt, own_toI hb, own_toI (by omega)]; omega
theorem own_nlt32 {a b : Nat} (ha : a < 2 ^ 31) (hb : b < 2 ^ 31) (h : b ≤ a) : ¬ Int32.ofNat a < Int32.ofNat b := by
  rw [Int32.lt_iff_toInt_lt, own_toI hb, own_toI ha]; omega
theorem own_nn {k : Nat} (h : k < 2 ^ 31) : ¬ Int32.ofNat k < 0 := own_nlt32 (b := 0) h (by omega) (Nat.zero_le _)
theorem own_z0 : (0 : Int32).toNatClampNeg = 0 := rfl
theorem own_z16 : (16 : Int32).toNatClampNeg = 16 := rfl
theorem own_ens {k : Nat} (h : k ≤ 16) : ¬ (0 : Int32) < Int32.ofNat k - (16 : Int32) := by
  have t : ∀ j : Fin 17, ¬ (0 : Int32) < Int32.ofNat j.val - (16 : Int32) := by decide
  exact t ⟨k, by omega⟩
theorem own_rng {vs : List Value} {dv : Value} {n : Nat} (h : vs.length = n) : vs = (List.range n).map fun i => vs.getD (0 + i) dv := by
  apply List.ext_getElem
  · simp [h]
  · intro i h1 h2
    simp [List.getD_eq_getElem?_getD, h1]
theorem own_us {vs : List Value} {dv : Value} {n : Nat} (h : vs.length = n) (h31 : n < 2 ^ 31) : vs = (List.range (Int32.ofNat n).toNatClampNeg).map fun i => vs.getD ((0 : Int32).toNatClampNeg + i) dv := by
  rw [own_nat32 h31]; exact own_rng h
theorem own_cat {Z : State} {h : Heap} {a : Addr} {ka : ClassId} {ty : FieldType} {z : Int32} {xs us : List Value} {d : Value} {k n : Nat} (hk : xs.length = k) (k31 : k < 2 ^ 31) (n31 : n < 2 ^ 31)
    (V : Arv Z h a ka ty z ((xs ++ List.replicate 16 d).take (Int32.ofNat k).toNatClampNeg ++ us ++ (xs ++ List.replicate 16 d).drop ((Int32.ofNat k).toNatClampNeg + (Int32.ofNat n).toNatClampNeg)) d) : Arv Z h a ka ty z (xs ++ us) d := by
  rw [own_nat32 k31, own_nat32 n31] at V
  have e1 : (xs ++ List.replicate 16 d).take k = xs := by rw [← hk]; simp
  have e2 : (xs ++ List.replicate 16 d).drop (k + n) = List.replicate (16 - n) d := by rw [← hk, List.drop_append, List.drop_eq_nil_of_le (by omega), List.nil_append, Nat.add_sub_cancel_left, List.drop_replicate]
  rw [e1, e2] at V
  exact V.pad fun i => (pad_rep (xs ++ us) d (16 - n) i).symm
theorem own_cpy {Z : State} {h : Heap} {a : Addr} {ka : ClassId} {ty : FieldType} {z : Int32} {xs : List Value} {d : Value} {k : Nat} (k31 : k < 2 ^ 31)
    (V : Arv Z h a ka ty z (([] ++ List.replicate k d).take (0 : Int32).toNatClampNeg ++ xs ++ ([] ++ List.replicate k d).drop ((0 : Int32).toNatClampNeg + (Int32.ofNat k).toNatClampNeg)) d) : Arv Z h a ka ty z xs d := by
  rw [own_nat32 k31, own_z0] at V
  have e : ([] ++ List.replicate k d).take 0 ++ xs ++ ([] ++ List.replicate k d).drop (0 + k) = xs := by simp
  rw [e] at V
  exact V
theorem own_arvne {Z : State} {h : Heap} {a b : Addr} {k k' : ClassId} {ty ty' : FieldType} {z z' : Int32} {vs vs' : List Value} {d d' : Value} (A : Arv Z h a k ty z vs d) (B : Arv Z h b k' ty' z' vs' d') (hz : z.toNatClampNeg ≠ z'.toNatClampNeg) : ¬ @Eq Nat a b := fun q => by
  have q' : a = b := q
  subst q'
  obtain ⟨c, A1, -, s1, -⟩ := A
  obtain ⟨c', B1, -, s2, -⟩ := B
  have e := A1.1.symm.trans B1.1
  cases e
  exact hz (s1.symm.trans s2)
theorem own_lt (x y : Int32) : x < y ↔ x.toInt < y.toInt := Int32.lt_iff_toInt_lt
theorem own_nar_wid {c : Int32} (h : Wid c) : nar .char c = c := by
  have h1 := h.1
  have h2 := h.2
  have q := c_i2c c
  have e5 : (65535 : Int32).toInt = 65535 := rfl
  have e6 : (0 : Int32).toInt = 0 := rfl
  rw [own_lt] at h1 h2
  apply Int32.toInt_inj.mp
  show (c.toUInt32.toUInt16.toUInt32.toInt32).toInt = c.toInt
  omega
theorem own_fit_wid {c : Int32} (h : Wid c) : fits .char (.int c) = true := by rw [← own_nar_wid h]; exact fits_nar_char _
theorem own_narb (x : Int32) : nar .byte (StrChars.lo8 x) = StrChars.lo8 x := by
  show (x.toInt8.toInt32).toInt8.toInt32 = x.toInt8.toInt32
  rw [Int8.toInt8_toInt32]
theorem own_narh (x : Int32) : nar .byte (StrChars.hi8 x) = StrChars.hi8 x := own_narb _
theorem own_fitb (x : Int32) : fits .byte (.int (StrChars.lo8 x)) = true := fits_nar_byte x
theorem own_fith (x : Int32) : fits .byte (.int (StrChars.hi8 x)) = true := own_fitb _
theorem own_lo (c : Int32) : (c >>> ((0 : Int32) &&& 31)).toInt8.toInt32 = StrChars.lo8 c := by rw [StrChars.shr0]; rfl
theorem own_shl1 {i : Nat} (h : 2 * i < 2 ^ 31) : Int32.ofNat i <<< ((1 : Int32) &&& 31) = Int32.ofNat (2 * i) := by
  have q := c_ishl (Int32.ofNat i) 1 1 rfl
  apply Int32.toInt_inj.mp
  have b := (Int32.ofNat i <<< ((1 : Int32) &&& 31)).toInt_lt
  have b2 := (Int32.ofNat i <<< ((1 : Int32) &&& 31)).le_toInt
  rw [own_toI (k := i) (by omega)] at q
  rw [own_toI h]
  omega
theorem own_widN {k : Nat} (h : k < 65536) : Wid (Int32.ofNat k) := by
  have e5 : (65535 : Int32).toInt = 65535 := rfl
  have e6 : (0 : Int32).toInt = 0 := rfl
  refine ⟨?_, ?_⟩
  · rw [own_lt, own_toI (by omega)]; omega
  · rw [own_lt, own_toI (by omega)]; omega
theorem own_latN {k : Nat} (h : k < 256) : Lat (Int32.ofNat k) := by
  have e5 : (255 : Int32).toInt = 255 := rfl
  have e6 : (0 : Int32).toInt = 0 := rfl
  refine ⟨?_, ?_⟩
  · rw [own_lt, own_toI (by omega)]; omega
  · rw [own_lt, own_toI (by omega)]; omega
theorem own_i2cN {k : Nat} (h : k < 65536) : (Int32.ofNat k).toUInt32.toUInt16.toUInt32.toInt32 = Int32.ofNat k := own_nar_wid (own_widN h)
theorem own_lt32' {a b : Nat} (ha : a < 2 ^ 31) (hb : b < 2 ^ 31) (h : Int32.ofNat a < Int32.ofNat b) : a < b := by
  rw [Int32.lt_iff_toInt_lt, own_toI hb, own_toI ha] at h; omega
theorem own_ge32 {a b : Nat} (ha : a < 2 ^ 31) (hb : b < 2 ^ 31) (h : ¬ Int32.ofNat a < Int32.ofNat b) : b ≤ a := by
  rw [Int32.lt_iff_toInt_lt, own_toI hb, own_toI ha] at h; omega
theorem own_inj32 {a b : Nat} (ha : a < 2 ^ 31) (hb : b < 2 ^ 31) (h : Int32.ofNat a = Int32.ofNat b) : a = b := by
  have q := congrArg Int32.toInt h
  rw [own_toI hb, own_toI ha] at q; omega
theorem own_ne32 {a b : Nat} (ha : a < 2 ^ 31) (hb : b < 2 ^ 31) (h : a ≠ b) : ¬ Int32.ofNat a = Int32.ofNat b := fun q => h (own_inj32 ha hb q)
theorem own_nat_succ (k : Nat) : Int32.ofNat k + 1 = Int32.ofNat (k + 1) := (inc_ofNat k).symm
theorem own_getD_mem {cs : List Int32} {r : Nat} (h : r < cs.length) : cs.getD r 0 ∈ cs := by
  have e : cs.getD r 0 = cs[r] := by simp [List.getD_eq_getElem?_getD, h]
  rw [e]; exact List.getElem_mem h
theorem own_some {x y : Int32} (h : x = y) : some (Value.int x) = some (Value.int y) := by rw [h]
theorem wide_app (xs cs : List Int32) : StrChars.Road.wideBytes (xs ++ cs) = StrChars.Road.wideBytes xs ++ StrChars.Road.wideBytes cs := by
  induction xs with
  | nil => rfl
  | cons x r ih => simp [StrChars.Road.wideBytes, ih]
theorem wide_len (cs : List Int32) : (StrChars.Road.wideBytes cs).length = 2 * cs.length := by
  induction cs with
  | nil => rfl
  | cons x r ih => simp [StrChars.Road.wideBytes, ih]; omega
theorem own_setE (xs : List Value) (k j : Nat) (ys : List Value) (v : Value) (h : xs.length = k) : (xs ++ ys).set (k + j) v = xs ++ ys.set j v := by
  subst h; rw [List.set_append_right _ _ (by omega)]; simp
theorem own_wset {xs : List Int32} {i : Nat} (hx : xs.length = i) (ch : Int32) (d : Value) : ((StrChars.Road.wideBytes xs ++ List.replicate 2 d).set (2 * i) (.int (StrChars.lo8 ch))).set (2 * i + 1) (.int (StrChars.hi8 ch)) = StrChars.Road.wideBytes (xs ++ [ch]) := by
  have h : (StrChars.Road.wideBytes xs).length = 2 * i := by rw [wide_len, hx]
  have q := own_setE _ _ 0 (List.replicate 2 d) (.int (StrChars.lo8 ch)) h
  rw [Nat.add_zero] at q
  rw [q, own_setE _ _ 1 _ _ h, wide_app]
  rfl
theorem own_ensG {k cap : Nat} (h : k ≤ cap) (hc : cap ≤ 18) : ¬ (0 : Int32) < Int32.ofNat k - Int32.ofNat cap := by
  have t : ∀ c : Fin 19, ∀ j : Fin 19, j.val ≤ c.val → ¬ (0 : Int32) < Int32.ofNat j.val - Int32.ofNat c.val := by decide +kernel
  exact t ⟨cap, by omega⟩ ⟨k, by omega⟩ h
theorem own_or3 {a b c : Nat} (ha : a < 2 ^ 31) (hb : b < 2 ^ 31) (hc : c < 2 ^ 31) : ¬ ((Int32.ofNat a ||| Int32.ofNat b) ||| Int32.ofNat c) < 0 := by
  have q := c_or0 (Int32.ofNat a) (Int32.ofNat b) (by rw [own_toI ha]; omega) (by rw [own_toI hb]; omega)
  have q1 : 0 ≤ (Int32.ofNat a ||| Int32.ofNat b).toInt := by rw [own_toI ha] at q; omega
  have q2 := c_or0 (Int32.ofNat a ||| Int32.ofNat b) (Int32.ofNat c) q1 (by rw [own_toI hc]; omega)
  rw [own_lt]
  have e : (0 : Int32).toInt = 0 := rfl
  omega
theorem own_sub32 {a b : Nat} (h : b ≤ a) : Int32.ofNat a - Int32.ofNat b = Int32.ofNat (a - b) := by
  have q := own_add32 (a - b) b
  rw [Nat.sub_add_cancel h] at q
  rw [← q]
  exact Int32.add_sub_cancel _ _
theorem own_catG {Z : State} {h : Heap} {a : Addr} {ka : ClassId} {ty : FieldType} {z : Int32} {xs us : List Value} {d : Value} {k n p : Nat} (hk : xs.length = k) (k31 : k < 2 ^ 31) (n31 : n < 2 ^ 31)
    (V : Arv Z h a ka ty z ((xs ++ List.replicate p d).take (Int32.ofNat k).toNatClampNeg ++ us ++ (xs ++ List.replicate p d).drop ((Int32.ofNat k).toNatClampNeg + (Int32.ofNat n).toNatClampNeg)) d) : Arv Z h a ka ty z (xs ++ us) d := by
  rw [own_nat32 k31, own_nat32 n31] at V
  have e1 : (xs ++ List.replicate p d).take k = xs := by rw [← hk]; simp
  have e2 : (xs ++ List.replicate p d).drop (k + n) = List.replicate (p - n) d := by rw [← hk, List.drop_append, List.drop_eq_nil_of_le (by omega), List.nil_append, Nat.add_sub_cancel_left, List.drop_replicate]
  rw [e1, e2] at V
  exact V.pad fun i => (pad_rep (xs ++ us) d (p - n) i).symm
theorem own_lbat (d : Value) (cs : List Int32) (j : Nat) (h : j < cs.length) : (lb cs).getD j d = .int (StrChars.lo8 (cs.getD j 0)) := by
  simp [lb, List.getD_eq_getElem?_getD, h, StrChars.lo8]
theorem own_latw {c : Int32} (h : Lat c) : Wid c := own_up (cs := [c]) (own_cS h own_c0) c (List.mem_singleton.mpr rfl)
theorem own_chr8 {c : Int32} (h : Lat c) : (StrChars.lo8 c &&& (255 : Int32)) = c := StrChars.lo8_mask h.1 h.2
theorem own_i2cW {c : Int32} (h : Wid c) : c.toUInt32.toUInt16.toUInt32.toInt32 = c := own_nar_wid h
theorem own_takeS (cs : List Int32) (k : Nat) (h : k < cs.length) : cs.take k ++ [cs.getD k 0] = cs.take (k + 1) := by
  have e : cs.getD k 0 = cs[k] := by simp [List.getD_eq_getElem?_getD, h]
  rw [e]
  exact List.take_append_getElem h
theorem own_codC {cs ds : List Int32} (h : ∀ c ∈ cs, Lat c) (g : ∀ c ∈ ds, Lat c) : ∀ c ∈ cs ++ ds, Lat c := fun c hc => by
  rcases List.mem_append.mp hc with q | q
  · exact h c q
  · exact g c q
theorem own_widC {cs ds : List Int32} (h : ∀ c ∈ cs, Wid c) (g : ∀ c ∈ ds, Wid c) : ∀ c ∈ cs ++ ds, Wid c := fun c hc => by
  rcases List.mem_append.mp hc with q | q
  · exact h c q
  · exact g c q
theorem own_exL {cs ds : List Int32} (h : ∃ c ∈ cs, (255 : Int32) < c) : ∃ c ∈ cs ++ ds, (255 : Int32) < c := by
  obtain ⟨c, hc, q⟩ := h
  exact ⟨c, List.mem_append_left _ hc, q⟩
theorem own_exR {cs ds : List Int32} (h : ∃ c ∈ ds, (255 : Int32) < c) : ∃ c ∈ cs ++ ds, (255 : Int32) < c := by
  obtain ⟨c, hc, q⟩ := h
  exact ⟨c, List.mem_append_right _ hc, q⟩
theorem own_latL {cs : List Int32} (w : ∀ c ∈ cs, Wid c) (h : ∀ c ∈ cs, ¬ 255 < c) : ∀ c ∈ cs, Lat c := fun c hc => ⟨(w c hc).1, h c hc⟩
theorem own_lom (cs : List Int32) : (cs.map fun c => Value.int (StrChars.lo8 c)) = lb cs := by simp [lb, StrChars.lo8]
/-- since the start nothing but the empty text has been interned -/
def IbJ (Z : State) (vm : Vm) (h : Heap) : Prop := IB Z vm [""]
theorem IbJ.keep {Z : State} {vm : Vm} {h h' : Heap} (E : IbJ Z vm h) (K : Keep h h' []) : IbJ Z vm h' := E
theorem IbJ.warm {Z s : State} {vm0 vm1 : Vm} {h : Heap} (E : IbJ Z vm0 h) (W : (s.setVm vm0).WarmedH vm1) : IbJ Z vm1 h := by
  obtain ⟨more, e1, e2⟩ := E
  exact ⟨more, (W.interned_eq).trans e1, e2⟩
/-- the chars of the qualified name -/
def rs (ls ln : Nat) (a0 a1 b0 b1 : Int32) : List Int32 := (([a0, a1] : List Int32).take ls ++ [(46 : Int32)]) ++ ([b0, b1] : List Int32).take ln
theorem rs_len {ls ln : Nat} {a0 a1 b0 b1 : Int32} (h : ls ≤ 2) (g : ln ≤ 2) : (rs ls ln a0 a1 b0 b1).length = ls + 1 + ln := by
  simp only [rs, List.length_append, List.length_take, List.length_cons, List.length_nil]; omega
theorem own_le2 {n : Nat} (h : n ≤ 2) : n = 0 ∨ n = 1 ∨ n = 2 := by omega
theorem rs_A {ls ln i : Nat} {a0 a1 b0 b1 : Int32} (h : ls ≤ 2) (g : i < ls) (e : i = 0) : (rs ls ln a0 a1 b0 b1).getD i 0 = a0 := by
  subst e
  rcases own_le2 h with rfl | rfl | rfl
  · omega
  · rfl
  · rfl
theorem rs_B {ls ln i : Nat} {a0 a1 b0 b1 : Int32} (h : ls ≤ 2) (g : i < ls) (e : ¬ i = 0) : (rs ls ln a0 a1 b0 b1).getD i 0 = a1 := by
  have q : i = 1 ∧ ls = 2 := by omega
  obtain ⟨rfl, rfl⟩ := q
  rfl
theorem rs_C {ls ln i : Nat} {a0 a1 b0 b1 : Int32} (h : ls ≤ 2) (e : i = ls) : (rs ls ln a0 a1 b0 b1).getD i 0 = 46 := by
  subst e
  rcases own_le2 h with rfl | rfl | rfl <;> rfl
theorem rs_D {ls ln i : Nat} {a0 a1 b0 b1 : Int32} (h : ls ≤ 2) (g : ln ≤ 2) (e1 : ls < i) (e2 : i - ls - 1 = 0) (e3 : i < ls + 1 + ln) : (rs ls ln a0 a1 b0 b1).getD i 0 = b0 := by
  have q : i = ls + 1 := by omega
  subst q
  rcases own_le2 h with rfl | rfl | rfl <;> rcases own_le2 g with rfl | rfl | rfl <;> first | rfl | omega
theorem rs_E {ls ln i : Nat} {a0 a1 b0 b1 : Int32} (h : ls ≤ 2) (g : ln ≤ 2) (e1 : ls < i) (e2 : ¬ i - ls - 1 = 0) (e3 : i < ls + 1 + ln) : (rs ls ln a0 a1 b0 b1).getD i 0 = b1 := by
  have q : i = ls + 2 ∧ ln = 2 := by omega
  obtain ⟨rfl, rfl⟩ := q
  rcases own_le2 h with rfl | rfl | rfl <;> rfl
theorem own_wid2 {a b : Int32} {n : Nat} (h : Wid a) (g : Wid b) : ∀ c ∈ ([a, b] : List Int32).take n, Wid c := fun c hc => (own_cS (P := Wid) h (own_cS g own_c0)) c (List.mem_of_mem_take hc)
theorem own_len2 {a b : Int32} {n : Nat} : (([a, b] : List Int32).take n).length ≤ 2 := by rw [List.length_take]; exact Nat.min_le_right _ _
theorem rs_wid {ls ln : Nat} {a0 a1 b0 b1 : Int32} (h0 : Wid a0) (h1 : Wid a1) (g0 : Wid b0) (g1 : Wid b1) : ∀ c ∈ rs ls ln a0 a1 b0 b1, Wid c := own_widC (own_widC (own_wid2 h0 h1) (by decide)) (own_wid2 g0 g1)
theorem own_wid_i2c (x : Int32) : Wid (x.toUInt32.toUInt16.toUInt32.toInt32) := by
  have q := c_i2c x
  have e5 : (65535 : Int32).toInt = 65535 := rfl
  have e6 : (0 : Int32).toInt = 0 := rfl
  refine ⟨?_, ?_⟩
  · rw [own_lt]; omega
  · rw [own_lt]; omega
theorem own_m3 (x : Int32) : ∃ n : Nat, (x &&& (3 : Int32)) % (3 : Int32) = Int32.ofNat n ∧ n ≤ 2 := by
  have q := c_and x 3 (by decide)
  have e3 : (3 : Int32).toInt = 3 := rfl
  rw [e3] at q
  have q2 := (c_irem (x &&& 3) 3 3 rfl).1 q.1
  refine ⟨((x &&& (3 : Int32)) % (3 : Int32)).toInt.toNat, ?_, by omega⟩
  apply Int32.toInt_inj.mp
  rw [own_toI (by omega)]
  omega

set_option maxRecDepth 65536 in
theorem own_hln : ∀ d ∈ StrChars.Road.wordsLen, d ∈ tables_1 := by decide +kernel
def Qpch (Z : State) (a : Addr) (ka : ClassId) (nz : Nat) (vs : List Value) (i : Nat) (ch : Int32) (h0 : Heap) (n0 : Nat) (v : Option Value) (h : Heap) (L : List Loc) : Prop := v = none ∧ Fr n0 L ∧ Keep h0 h [a] ∧ (Arv Z h a ka .byte (Int32.ofNat nz) ((vs.set (2 * i) (.int (StrChars.lo8 ch))).set (2 * i + 1) (.int (StrChars.hi8 ch))) (.int 0))
theorem pn_0 : plainName "java/lang/StringUTF16" = true := by first | (simp [plainName, overriddenIn]; done) | decide +kernel
theorem ef_pch (m : MethodId) (x0 : Addr) (x1 : Int32) (x2 : Int32) : entryFrame m #[(.ref x0), (.int x1), (.int x2)] 3 = mkF m 0 #[sR x0, sI x1, sI x2] [] := by first | (simp [entryFrame, mkF, argsToLocals, Value.category]; done) | rfl
theorem d41_0 : decode jdk_52_method_4_code 0 = .ok (.getstatic 44, 3) := by decide +kernel
theorem d41_3 : decode jdk_52_method_4_code 3 = .ok (.ifCond .ne 25, 3) := by decide +kernel
theorem d41_28 : decode jdk_52_method_4_code 28 = .ok (.iload_n 1, 1) := by decide +kernel
theorem d41_29 : decode jdk_52_method_4_code 29 = .ok (.iconst 1, 1) := by decide +kernel
theorem d41_30 : decode jdk_52_method_4_code 30 = .ok (.ishl, 1) := by decide +kernel
theorem d41_31 : decode jdk_52_method_4_code 31 = .ok (.istore_n 1, 1) := by decide +kernel
theorem d41_32 : decode jdk_52_method_4_code 32 = .ok (.aload_n 0, 1) := by decide +kernel
theorem d41_33 : decode jdk_52_method_4_code 33 = .ok (.iload_n 1, 1) := by decide +kernel
theorem d41_34 : decode jdk_52_method_4_code 34 = .ok (.iinc 1 1, 3) := by decide +kernel
theorem d41_37 : decode jdk_52_method_4_code 37 = .ok (.iload_n 2, 1) := by decide +kernel
theorem d41_38 : decode jdk_52_method_4_code 38 = .ok (.getstatic 59, 3) := by decide +kernel
theorem d41_41 : decode jdk_52_method_4_code 41 = .ok (.ishr, 1) := by decide +kernel
theorem d41_42 : decode jdk_52_method_4_code 42 = .ok (.i2b, 1) := by decide +kernel
theorem d41_43 : decode jdk_52_method_4_code 43 = .ok (.bastore, 1) := by decide +kernel
theorem d41_44 : decode jdk_52_method_4_code 44 = .ok (.aload_n 0, 1) := by decide +kernel
theorem d41_45 : decode jdk_52_method_4_code 45 = .ok (.iload_n 1, 1) := by decide +kernel
theorem d41_46 : decode jdk_52_method_4_code 46 = .ok (.iload_n 2, 1) := by decide +kernel
theorem d41_47 : decode jdk_52_method_4_code 47 = .ok (.getstatic 63, 3) := by decide +kernel
theorem d41_50 : decode jdk_52_method_4_code 50 = .ok (.ishr, 1) := by decide +kernel
theorem d41_51 : decode jdk_52_method_4_code 51 = .ok (.i2b, 1) := by decide +kernel
theorem d41_52 : decode jdk_52_method_4_code 52 = .ok (.bastore, 1) := by decide +kernel
theorem d41_53 : decode jdk_52_method_4_code 53 = .ok (.return_, 1) := by decide +kernel
set_option maxRecDepth 65536 in
set_option maxHeartbeats 40000000 in
theorem pch (l : Launch) (Z : State) (a0 : Array Value) (hw : ∀ d ∈ tables_1, d.before a0 Z = true) (ws : List Jvm.Cond) (a : Addr) (ka : ClassId) (nz : Nat) (vs : List Value) (i : Nat) (ch : Int32) (h0 : Heap) (n0 : Nat) (Z0 : n0 ≤ h0.size) (q0 : (Old Z Z.heap.size h0 ∧ @LE.le Nat instLENat Z.heap.size n0)) (q1 : Sta Z Z.heap "java/lang/StringUTF16" "$assertionsDisabled" "Z" (.int (1 : Int32))) (q2 : Sta Z Z.heap "java/lang/StringUTF16" "HI_BYTE_SHIFT" "I" (.int (0 : Int32))) (q3 : Sta Z Z.heap "java/lang/StringUTF16" "LO_BYTE_SHIFT" "I" (.int (8 : Int32))) (q4 : Arv Z h0 a ka .byte (Int32.ofNat nz) vs (.int 0)) (q5 : @LE.le Nat instLENat n0 a) (hii : 2 * i + 1 < nz) (hz : nz ≤ 64) (hvl : 2 * i + 1 < vs.length) :
    MetFree l y_0 (head1 (Jvm.Cond.code y_0 jdk_52_method_4_code 3 none :: ws) r_m0) (fun a_ U_ => a_ = #[(.ref a), (.int (Int32.ofNat i)), (.int ch)] ∧ Z.Warmed39 U_.vm ∧ U_.heap = h0) (fun _ _ _ _ _ => True) (fun _ U_ o_ V_ => ∃ v_ L_, o_ = .returned v_ ∧ Qpch Z a ka nz vs i ch h0 n0 v_ V_.heap L_ ∧ FrameEnd U_ o_ V_ L_ r_m0.cells r_m0.slots) := by
  refine MetFree.of_bodySF (plainFor_of_name pn_0) hisR ?_
  intro p e s m args below meth c s₁ Bd hml0 hP hK
  obtain ⟨rfl, hZ, hh⟩ := hP
  have hx := Bd.exec
  have hby := Bd.bytes
  have hml : c.maxLocals = 3 := hml0
  have hown : s.vm.findClass "java/lang/StringUTF16" = some m.cls := findClass_of_methodNamed Bd.named
  have hnm := (name_of_methodNamed Bd.named Bd.method).1
  have X0 : Stand p l e r_m0 s m #[(.ref a), (.int (Int32.ofNat i)), (.int ch)] below meth c s₁ [] 0 0 := Stand.of_body Bd
  have e0 : s₁.heap = h0 := by rw [← hh, Bd.state]; rfl
  have N0 := Fr.nil n0
  have Oo := q0.1
  have zo := q0.2
  have lt1 := own_alt q4.lt
  refine Gl.go (A := s₁.setTop (entryFrame m #[(.ref a), (.int (Int32.ofNat i)), (.int ch)] 3)) (P := fun o_ U_ => ∃ v_ L_, o_ = .returned v_ ∧ Qpch Z a ka nz vs i ch h0 n0 v_ U_.heap L_ ∧ FrameEnd s o_ U_ L_ r_m0.cells r_m0.slots) (fun t_ k_ => castTop (ef_pch m a (Int32.ofNat i) ch) k_) ?_
  show Gl p.tables e below _ (s₁.setTop (mkF m 0 #[sR a, sI (Int32.ofNat i), sI ch] []))
  refine gGetS (host := "") Gl.cl X0 hx hZ hown (Or.inl (tw hw 209 rfl)) Via.refl e0 (q1.ext Oo.2) rfl (hb hby d41_0) ?_
  intro T2 X2 e2
  refine Gl.go (fun _ hr => zXS_ifYes X2.here hx rfl (pc0 := 3) (pc' := 28) rfl (hb hby d41_3) rfl (XT.i0_ne_t (by decide)) (by decide) (by decide) (zXS_iloadN X2.here hx rfl (hb hby d41_28) rfl (zXS_iconst X2.here hx rfl (hb hby d41_29) (zXT_ishl X2.here hx rfl (hb hby d41_30) rfl hr)))) ?_
  show Gl p.tables e below _ (T2.setTop (mkF m 31 #[sR a, sI (Int32.ofNat i), sI ch] [(.int ((Int32.ofNat i) <<< ((1 : Int32) &&& 31)))]))
  rw [(own_shl1 (i := i) (by omega))]
  show Gl p.tables e below _ (T2.setTop (mkF m 31 #[sR a, sI (Int32.ofNat i), sI ch] [(.int (Int32.ofNat (2 * i)))]))
  refine Gl.go (fun _ hr => zXS_istoreN X2.here hx rfl (hb hby d41_31) rfl (l' := #[sR a, sI (Int32.ofNat (2 * i)), sI ch]) rfl (zXS_aloadN X2.here hx rfl (hb hby d41_32) rfl rfl (zXS_iloadN X2.here hx rfl (hb hby d41_33) rfl (zXS_iinc X2.here hx rfl (hb hby d41_34) rfl (l' := #[sR a, sI ((Int32.ofNat (2 * i)) + (1 : Int32)), sI ch]) rfl hr)))) ?_
  show Gl p.tables e below _ (T2.setTop (mkF m 37 #[sR a, sI ((Int32.ofNat (2 * i)) + (1 : Int32)), sI ch] [(.int (Int32.ofNat (2 * i))), (.ref a)]))
  rw [(own_nat_succ (2 * i))]
  show Gl p.tables e below _ (T2.setTop (mkF m 37 #[sR a, sI (Int32.ofNat (2 * i + 1)), sI ch] [(.int (Int32.ofNat (2 * i))), (.ref a)]))
  refine Gl.go (fun _ hr => zXS_iloadN X2.here hx rfl (hb hby d41_37) rfl hr) ?_
  refine gGetS (host := "") Gl.cl X2 hx hZ hown (Or.inl (tw hw 210 rfl)) Via.refl e2 (q2.ext Oo.2) rfl (hb hby d41_38) ?_
  intro T3 X3 e3
  refine Gl.go (fun _ hr => zXT_ishr X3.here hx rfl (hb hby d41_41) rfl (zXT_i2b X3.here hx rfl (hb hby d41_42) rfl hr)) ?_
  show Gl p.tables e below _ (T3.setTop (mkF m 43 #[sR a, sI (Int32.ofNat (2 * i + 1)), sI ch] [(.int ((ch >>> ((0 : Int32) &&& 31)).toInt8.toInt32)), (.int (Int32.ofNat (2 * i))), (.ref a)]))
  rw [(own_lo ch)]
  show Gl p.tables e below _ (T3.setTop (mkF m 43 #[sR a, sI (Int32.ofNat (2 * i + 1)), sI ch] [(.int (StrChars.lo8 ch)), (.int (Int32.ofNat (2 * i))), (.ref a)]))
  obtain ⟨c4, a4, q4, s4, m4, H4, U4⟩ := id q4
  refine gstB Gl.cl X3 hx hZ e3 a4 (j := (Int32.ofNat (2 * i))) (inb_of s4 ⟨own_nn (by omega), own_lt32 (b := nz) (by omega) (by omega)⟩) rfl rfl (hb hby d41_43) ?_
  intro T4 h4 X4 e4 W4
  have z5 : h0.size ≤ h4.size := (Keep.of_wr W4).1
  rw [(own_narb _)] at W4
  have V4 : Arv Z h4 a ka .byte (Int32.ofNat nz) (vs.set (2 * i) (.int (StrChars.lo8 ch))) (.int 0) := Arv.set a4 q4 s4 m4 H4 U4 (own_fitb _) W4 (2 * i) (own_nat32 (by omega)) (by (try simp only [List.length_set]); omega)
  have om6 : @LE.le Nat instLENat n0 a := by omega
  have N4 := Fr.snoc X4 N0 (own_ale om6)
  refine Gl.go (fun _ hr => zXS_aloadN X4.here hx rfl (hb hby d41_44) rfl rfl (zXS_iloadN X4.here hx rfl (hb hby d41_45) rfl (zXS_iloadN X4.here hx rfl (hb hby d41_46) rfl hr))) ?_
  have om8 : @LE.le Nat instLENat Z.heap.size a := by omega
  have Oc9 := (Oo.wr W4 (own_ale om8))
  refine gGetS (host := "") Gl.cl X4 hx hZ hown (Or.inl (tw hw 211 rfl)) Via.refl e4 (q3.ext Oc9.2) rfl (hb hby d41_47) ?_
  intro T7 X7 e7
  refine Gl.go (fun _ hr => zXT_ishr X7.here hx rfl (hb hby d41_50) rfl (zXT_i2b X7.here hx rfl (hb hby d41_51) rfl hr)) ?_
  show Gl p.tables e below _ (T7.setTop (mkF m 52 #[sR a, sI (Int32.ofNat (2 * i + 1)), sI ch] [(.int ((ch >>> ((8 : Int32) &&& 31)).toInt8.toInt32)), (.int (Int32.ofNat (2 * i + 1))), (.ref a)]))
  show Gl p.tables e below _ (T7.setTop (mkF m 52 #[sR a, sI (Int32.ofNat (2 * i + 1)), sI ch] [(.int (StrChars.hi8 ch)), (.int (Int32.ofNat (2 * i + 1))), (.ref a)]))
  obtain ⟨c10, a10, q10, s10, m10, H10, U10⟩ := id V4
  refine gstB Gl.cl X7 hx hZ e7 a10 (j := (Int32.ofNat (2 * i + 1))) (inb_of s10 ⟨own_nn (by omega), own_lt32 (b := nz) (by omega) (by omega)⟩) rfl rfl (hb hby d41_52) ?_
  intro T10 h10 X10 e10 W10
  have z11 : h4.size ≤ h10.size := (Keep.of_wr W10).1
  rw [(own_narh _)] at W10
  have V10 : Arv Z h10 a ka .byte (Int32.ofNat nz) ((vs.set (2 * i) (.int (StrChars.lo8 ch))).set (2 * i + 1) (.int (StrChars.hi8 ch))) (.int 0) := Arv.set a10 q10 s10 m10 H10 U10 (own_fith _) W10 (2 * i + 1) (own_nat32 (by omega)) (by (try simp only [List.length_set]); omega)
  have N10 := Fr.snoc X10 N4 (own_ale om6)
  obtain ⟨fs, hr, hrun, hended, hW, hsame⟩ := X10.leave (v := none) (fun _ => rfl)
  refine ⟨_, _, X10.returnOut hx Bd.returns (hb hby d41_53) hr, hrun, hended, _, _, rfl, ?_, ⟨⟨_, rfl⟩, hW, hsame.mono (by decide) (by decide)⟩⟩
  show Qpch Z a ka nz vs i ch h0 n0 _ T10.heap _
  rw [e10]
  exact ⟨rfl, N10, (((Keep.refl h0 [a]).wr W4 (Or.inl (by simp))).wr W10 (Or.inl (by simp))), V10⟩
def Qgtc (Z : State) (a : Addr) (ka : ClassId) (cs : List Int32) (i : Nat) (h0 : Heap) (n0 : Nat) (v : Option Value) (h : Heap) (L : List Loc) : Prop := v = some (.int (cs.getD i 0)) ∧ Fr n0 L ∧ h = h0
theorem ef_gtc (m : MethodId) (x0 : Addr) (x1 : Int32) : entryFrame m #[(.ref x0), (.int x1)] 2 = mkF m 0 #[sR x0, sI x1] [] := by first | (simp [entryFrame, mkF, argsToLocals, Value.category]; done) | rfl
theorem d54_0 : decode jdk_52_method_5_code 0 = .ok (.getstatic 44, 3) := by decide +kernel
theorem d54_3 : decode jdk_52_method_5_code 3 = .ok (.ifCond .ne 25, 3) := by decide +kernel
theorem d54_28 : decode jdk_52_method_5_code 28 = .ok (.iload_n 1, 1) := by decide +kernel
theorem d54_29 : decode jdk_52_method_5_code 29 = .ok (.iconst 1, 1) := by decide +kernel
theorem d54_30 : decode jdk_52_method_5_code 30 = .ok (.ishl, 1) := by decide +kernel
theorem d54_31 : decode jdk_52_method_5_code 31 = .ok (.istore_n 1, 1) := by decide +kernel
theorem d54_32 : decode jdk_52_method_5_code 32 = .ok (.aload_n 0, 1) := by decide +kernel
theorem d54_33 : decode jdk_52_method_5_code 33 = .ok (.iload_n 1, 1) := by decide +kernel
theorem d54_34 : decode jdk_52_method_5_code 34 = .ok (.iinc 1 1, 3) := by decide +kernel
theorem d54_37 : decode jdk_52_method_5_code 37 = .ok (.baload, 1) := by decide +kernel
theorem d54_38 : decode jdk_52_method_5_code 38 = .ok (.sipush 255, 3) := by decide +kernel
theorem d54_41 : decode jdk_52_method_5_code 41 = .ok (.iand, 1) := by decide +kernel
theorem d54_42 : decode jdk_52_method_5_code 42 = .ok (.getstatic 59, 3) := by decide +kernel
theorem d54_45 : decode jdk_52_method_5_code 45 = .ok (.ishl, 1) := by decide +kernel
theorem d54_46 : decode jdk_52_method_5_code 46 = .ok (.aload_n 0, 1) := by decide +kernel
theorem d54_47 : decode jdk_52_method_5_code 47 = .ok (.iload_n 1, 1) := by decide +kernel
theorem d54_48 : decode jdk_52_method_5_code 48 = .ok (.baload, 1) := by decide +kernel
theorem d54_49 : decode jdk_52_method_5_code 49 = .ok (.sipush 255, 3) := by decide +kernel
theorem d54_52 : decode jdk_52_method_5_code 52 = .ok (.iand, 1) := by decide +kernel
theorem d54_53 : decode jdk_52_method_5_code 53 = .ok (.getstatic 63, 3) := by decide +kernel
theorem d54_56 : decode jdk_52_method_5_code 56 = .ok (.ishl, 1) := by decide +kernel
theorem d54_57 : decode jdk_52_method_5_code 57 = .ok (.ior, 1) := by decide +kernel
theorem d54_58 : decode jdk_52_method_5_code 58 = .ok (.i2c, 1) := by decide +kernel
theorem d54_59 : decode jdk_52_method_5_code 59 = .ok (.ireturn, 1) := by decide +kernel
set_option maxRecDepth 65536 in
set_option maxHeartbeats 40000000 in
theorem gtc (l : Launch) (Z : State) (a0 : Array Value) (hw : ∀ d ∈ tables_1, d.before a0 Z = true) (ws : List Jvm.Cond) (a : Addr) (ka : ClassId) (cs : List Int32) (i : Nat) (h0 : Heap) (n0 : Nat) (Z0 : n0 ≤ h0.size) (q0 : (Old Z Z.heap.size h0 ∧ @LE.le Nat instLENat Z.heap.size n0)) (q1 : Sta Z Z.heap "java/lang/StringUTF16" "$assertionsDisabled" "Z" (.int (1 : Int32))) (q2 : Sta Z Z.heap "java/lang/StringUTF16" "HI_BYTE_SHIFT" "I" (.int (0 : Int32))) (q3 : Sta Z Z.heap "java/lang/StringUTF16" "LO_BYTE_SHIFT" "I" (.int (8 : Int32))) (q4 : Arv Z h0 a ka .byte (Int32.ofNat (2 * cs.length)) (StrChars.Road.wideBytes cs) (.int 0)) (hii : i < cs.length) (hcl : cs.length ≤ 32) (hbd : ∀ c ∈ cs, Wid c) :
    MetFree l y_1 (head1 (Jvm.Cond.code y_1 jdk_52_method_5_code 2 (some .char) :: ws) r_m0) (fun a_ U_ => a_ = #[(.ref a), (.int (Int32.ofNat i))] ∧ Z.Warmed39 U_.vm ∧ U_.heap = h0) (fun _ _ _ _ _ => True) (fun _ U_ o_ V_ => ∃ v_ L_, o_ = .returned v_ ∧ Qgtc Z a ka cs i h0 n0 v_ V_.heap L_ ∧ FrameEnd U_ o_ V_ L_ r_m0.cells r_m0.slots) := by
  refine MetFree.of_bodySF (plainFor_of_name pn_0) hisR ?_
  intro p e s m args below meth c s₁ Bd hml0 hP hK
  obtain ⟨rfl, hZ, hh⟩ := hP
  have hx := Bd.exec
  have hby := Bd.bytes
  have hml : c.maxLocals = 2 := hml0
  have hown : s.vm.findClass "java/lang/StringUTF16" = some m.cls := findClass_of_methodNamed Bd.named
  have hnm := (name_of_methodNamed Bd.named Bd.method).1
  have X0 : Stand p l e r_m0 s m #[(.ref a), (.int (Int32.ofNat i))] below meth c s₁ [] 0 0 := Stand.of_body Bd
  have e0 : s₁.heap = h0 := by rw [← hh, Bd.state]; rfl
  have N0 := Fr.nil n0
  have Oo := q0.1
  have zo := q0.2
  have lt12 := own_alt q4.lt
  have hwc : Wid (cs.getD i 0) := hbd _ (own_getD_mem hii)
  refine Gl.go (A := s₁.setTop (entryFrame m #[(.ref a), (.int (Int32.ofNat i))] 2)) (P := fun o_ U_ => ∃ v_ L_, o_ = .returned v_ ∧ Qgtc Z a ka cs i h0 n0 v_ U_.heap L_ ∧ FrameEnd s o_ U_ L_ r_m0.cells r_m0.slots) (fun t_ k_ => castTop (ef_gtc m a (Int32.ofNat i)) k_) ?_
  show Gl p.tables e below _ (s₁.setTop (mkF m 0 #[sR a, sI (Int32.ofNat i)] []))
  refine gGetS (host := "") Gl.cl X0 hx hZ hown (Or.inl (tw hw 209 rfl)) Via.refl e0 (q1.ext Oo.2) rfl (hb hby d54_0) ?_
  intro T13 X13 e13
  refine Gl.go (fun _ hr => zXS_ifYes X13.here hx rfl (pc0 := 3) (pc' := 28) rfl (hb hby d54_3) rfl (XT.i0_ne_t (by decide)) (by decide) (by decide) (zXS_iloadN X13.here hx rfl (hb hby d54_28) rfl (zXS_iconst X13.here hx rfl (hb hby d54_29) (zXT_ishl X13.here hx rfl (hb hby d54_30) rfl hr)))) ?_
  show Gl p.tables e below _ (T13.setTop (mkF m 31 #[sR a, sI (Int32.ofNat i)] [(.int ((Int32.ofNat i) <<< ((1 : Int32) &&& 31)))]))
  rw [(own_shl1 (i := i) (by omega))]
  show Gl p.tables e below _ (T13.setTop (mkF m 31 #[sR a, sI (Int32.ofNat i)] [(.int (Int32.ofNat (2 * i)))]))
  refine Gl.go (fun _ hr => zXS_istoreN X13.here hx rfl (hb hby d54_31) rfl (l' := #[sR a, sI (Int32.ofNat (2 * i))]) rfl (zXS_aloadN X13.here hx rfl (hb hby d54_32) rfl rfl (zXS_iloadN X13.here hx rfl (hb hby d54_33) rfl (zXS_iinc X13.here hx rfl (hb hby d54_34) rfl (l' := #[sR a, sI ((Int32.ofNat (2 * i)) + (1 : Int32))]) rfl hr)))) ?_
  show Gl p.tables e below _ (T13.setTop (mkF m 37 #[sR a, sI ((Int32.ofNat (2 * i)) + (1 : Int32))] [(.int (Int32.ofNat (2 * i))), (.ref a)]))
  rw [(own_nat_succ (2 * i))]
  show Gl p.tables e below _ (T13.setTop (mkF m 37 #[sR a, sI (Int32.ofNat (2 * i + 1))] [(.int (Int32.ofNat (2 * i))), (.ref a)]))
  obtain ⟨c14, a14, q14, s14, m14, H14, U14⟩ := id q4
  have i14 := inb_of s14 (j := (Int32.ofNat (2 * i))) ⟨own_nn (by omega), own_lt32 (b := 2 * cs.length) (by omega) (by omega)⟩
  refine g_baload Gl.cl X13 hx hZ e13 a14 i14 (v := (.int (StrChars.lo8 (cs.getD i 0)))) (H14.at i14 (by rw [own_nat32 (by omega)]; exact StrChars.Road.wide_lo _ cs i hii)) rfl rfl (hb hby d54_37) ?_
  refine Gl.go (fun _ hr => zXS_sipush X13.here hx rfl (hb hby d54_38) (zXS_iand X13.here hx rfl (hb hby d54_41) rfl hr)) ?_
  refine gGetS (host := "") Gl.cl X13 hx hZ hown (Or.inl (tw hw 210 rfl)) Via.refl e13 (q2.ext Oo.2) rfl (hb hby d54_42) ?_
  intro T15 X15 e15
  refine Gl.go (fun _ hr => zXT_ishl X15.here hx rfl (hb hby d54_45) rfl (zXS_aloadN X15.here hx rfl (hb hby d54_46) rfl rfl (zXS_iloadN X15.here hx rfl (hb hby d54_47) rfl hr))) ?_
  obtain ⟨c16, a16, q16, s16, m16, H16, U16⟩ := id q4
  have i16 := inb_of s16 (j := (Int32.ofNat (2 * i + 1))) ⟨own_nn (by omega), own_lt32 (b := 2 * cs.length) (by omega) (by omega)⟩
  refine g_baload Gl.cl X15 hx hZ e15 a16 i16 (v := (.int (StrChars.hi8 (cs.getD i 0)))) (H16.at i16 (by rw [own_nat32 (by omega)]; exact StrChars.Road.wide_hi _ cs i hii)) rfl rfl (hb hby d54_48) ?_
  refine Gl.go (fun _ hr => zXS_sipush X15.here hx rfl (hb hby d54_49) (zXS_iand X15.here hx rfl (hb hby d54_52) rfl hr)) ?_
  refine gGetS (host := "") Gl.cl X15 hx hZ hown (Or.inl (tw hw 211 rfl)) Via.refl e15 (q3.ext Oo.2) rfl (hb hby d54_53) ?_
  intro T17 X17 e17
  refine Gl.go (fun _ hr => zXT_ishl X17.here hx rfl (hb hby d54_56) rfl (zXT_ior X17.here hx rfl (hb hby d54_57) rfl (zXT_i2c X17.here hx rfl (hb hby d54_58) rfl hr))) ?_
  show Gl p.tables e below _ (T17.setTop (mkF m 59 #[sR a, sI (Int32.ofNat (2 * i + 1))] [(.int (((((StrChars.lo8 (cs.getD i 0)) &&& (255 : Int32)) <<< ((0 : Int32) &&& 31)) ||| (((StrChars.hi8 (cs.getD i 0)) &&& (255 : Int32)) <<< ((8 : Int32) &&& 31))).toUInt32.toUInt16.toUInt32.toInt32))]))
  have hpr := StrChars.pair_says hwc.1 hwc.2
  unfold StrChars.pairCh at hpr
  rw [hpr]
  show Gl p.tables e below _ (T17.setTop (mkF m 59 #[sR a, sI (Int32.ofNat (2 * i + 1))] [(.int (cs.getD i 0))]))
  obtain ⟨fs, hr, hrun, hended, hW, hsame⟩ := X17.leave (v := some (.int (nar .char (cs.getD i 0)))) (fun h => by rw [Bd.returns] at h; cases h)
  refine ⟨_, _, retN X17 hx (t := .char) Bd.returns (by simp) (hb hby d54_59) hr, hrun, hended, _, _, rfl, ?_, ⟨⟨_, rfl⟩, hW, hsame.mono (by decide) (by decide)⟩⟩
  show Qgtc Z a ka cs i h0 n0 _ T17.heap _
  rw [e17]
  exact ⟨(own_some (own_nar_wid hwc)), N0, rfl⟩
theorem own_upto {cs : List Int32} (h1 : 0 < cs.length) (h4 : cs.length ≤ 2) : (∃ c0, cs = [c0]) ∨ (∃ c0 c1, cs = [c0, c1]) := by
  match cs, h1, h4 with
  | [c0], _, _ => exact Or.inl ⟨c0, rfl⟩
  | [c0, c1], _, _ => exact Or.inr (⟨c0, c1, rfl⟩)
theorem own_cfl0 {n : Nat} (h : n ≤ 4) : nar .byte ((XT.ushr (Int32.ofNat n - Int32.ofNat n) (31 : Int32)).toInt8.toInt32) = 0 := by
  have t : ∀ k : Fin 5, nar .byte ((XT.ushr (Int32.ofNat k.val - Int32.ofNat k.val) (31 : Int32)).toInt8.toInt32) = 0 := by decide +kernel
  exact t ⟨n, by omega⟩
theorem own_cfl1 {n : Nat} (h1 : 0 < n) (h : n ≤ 4) : nar .byte ((XT.ushr (Int32.ofNat n - Int32.ofNat (2 * n)) (31 : Int32)).toInt8.toInt32) = 1 := by
  have t : ∀ k : Fin 5, 0 < k.val → nar .byte ((XT.ushr (Int32.ofNat k.val - Int32.ofNat (2 * k.val)) (31 : Int32)).toInt8.toInt32) = 1 := by decide +kernel
  exact t ⟨n, by omega⟩ h1
def Qnbl1 (Z : State)  (h0 : Heap) (n0 : Nat) (v : Option Value) (h : Heap) (L : List Loc) : Prop := v = some (.int (2 : Int32)) ∧ Fr n0 L ∧ h = h0
theorem ef_nbl1 (m : MethodId) (x0 : Int32) : entryFrame m #[(.int x0)] 1 = mkF m 0 #[sI x0] [] := by first | (simp [entryFrame, mkF, argsToLocals, Value.category]; done) | rfl
theorem d45_0 : decode jdk_52_method_3_code 0 = .ok (.iload_n 0, 1) := by decide +kernel
theorem d45_1 : decode jdk_52_method_3_code 1 = .ok (.ifCond .ge 11, 3) := by decide +kernel
theorem d45_12 : decode jdk_52_method_3_code 12 = .ok (.iload_n 0, 1) := by decide +kernel
theorem d45_13 : decode jdk_52_method_3_code 13 = .ok (.ldc 20, 2) := by decide +kernel
theorem d45_15 : decode jdk_52_method_3_code 15 = .ok (.if_icmp .lt 40, 3) := by decide +kernel
theorem d45_55 : decode jdk_52_method_3_code 55 = .ok (.iload_n 0, 1) := by decide +kernel
theorem d45_56 : decode jdk_52_method_3_code 56 = .ok (.iconst 1, 1) := by decide +kernel
theorem d45_57 : decode jdk_52_method_3_code 57 = .ok (.ishl, 1) := by decide +kernel
theorem d45_58 : decode jdk_52_method_3_code 58 = .ok (.ireturn, 1) := by decide +kernel
set_option maxRecDepth 65536 in
set_option maxHeartbeats 40000000 in
theorem nbl1 (l : Launch) (Z : State) (a0 : Array Value) (hw : ∀ d ∈ tables_1, d.before a0 Z = true) (ws : List Jvm.Cond)  (h0 : Heap) (n0 : Nat) (Z0 : n0 ≤ h0.size) :
    MetFree l y_2 (head1 (Jvm.Cond.code y_2 jdk_52_method_3_code 1 (some .int) :: ws) r_m0) (fun a_ U_ => a_ = #[(.int (1 : Int32))] ∧ Z.Warmed39 U_.vm ∧ U_.heap = h0) (fun _ _ _ _ _ => True) (fun _ U_ o_ V_ => ∃ v_ L_, o_ = .returned v_ ∧ Qnbl1 Z  h0 n0 v_ V_.heap L_ ∧ FrameEnd U_ o_ V_ L_ r_m0.cells r_m0.slots) := by
  refine MetFree.of_bodySF (plainFor_of_name pn_0) hisR ?_
  intro p e s m args below meth c s₁ Bd hml0 hP hK
  obtain ⟨rfl, hZ, hh⟩ := hP
  have hx := Bd.exec
  have hby := Bd.bytes
  have hml : c.maxLocals = 1 := hml0
  have hown : s.vm.findClass "java/lang/StringUTF16" = some m.cls := findClass_of_methodNamed Bd.named
  have hnm := (name_of_methodNamed Bd.named Bd.method).1
  have X0 : Stand p l e r_m0 s m #[(.int (1 : Int32))] below meth c s₁ [] 0 0 := Stand.of_body Bd
  have e0 : s₁.heap = h0 := by rw [← hh, Bd.state]; rfl
  have N0 := Fr.nil n0
  refine Gl.go (A := s₁.setTop (entryFrame m #[(.int (1 : Int32))] 1)) (P := fun o_ U_ => ∃ v_ L_, o_ = .returned v_ ∧ Qnbl1 Z  h0 n0 v_ U_.heap L_ ∧ FrameEnd s o_ U_ L_ r_m0.cells r_m0.slots) (fun t_ k_ => castTop (ef_nbl1 m (1 : Int32)) k_) ?_
  show Gl p.tables e below _ (s₁.setTop (mkF m 0 #[sI 1] []))
  refine Gl.go (fun _ hr => zXS_iloadN X0.here hx rfl (hb hby d45_0) rfl (zXS_ifYes X0.here hx rfl (pc0 := 1) (pc' := 12) rfl (hb hby d45_1) rfl (XT.i0_ge_t (by decide)) (by decide) (by decide) (zXS_iloadN X0.here hx rfl (hb hby d45_12) rfl hr))) ?_
  refine Gl.go (X0.ldcInt hx hown (mvT hZ (tw hw 227 rfl)) rfl (hb hby d45_13)) ?_
  refine Gl.go (fun _ hr => zXS_icmpYes X0.here hx rfl (pc0 := 15) (pc' := 55) rfl (hb hby d45_15) rfl (XT.ii_lt_t (by decide)) (by decide) (by decide) (zXS_iloadN X0.here hx rfl (hb hby d45_55) rfl (zXS_iconst X0.here hx rfl (hb hby d45_56) (zXT_ishl X0.here hx rfl (hb hby d45_57) rfl hr)))) ?_
  obtain ⟨fs, hr, hrun, hended, hW, hsame⟩ := X0.leave (v := some (.int (2 : Int32))) (fun h => by rw [Bd.returns] at h; cases h)
  refine ⟨_, _, retOut X0 hx Bd.returns rfl (Or.inl ⟨rfl, Or.inl rfl, _, rfl⟩) (hb hby d45_58) hr, hrun, hended, _, _, rfl, ?_, ⟨⟨_, rfl⟩, hW, hsame.mono (by decide) (by decide)⟩⟩
  show Qnbl1 Z  h0 n0 _ s₁.heap _
  rw [e0]
  exact ⟨rfl, N0, rfl⟩
def Qnbf1 (Z : State)  (h0 : Heap) (n0 : Nat) (v : Option Value) (h : Heap) (L : List Loc) : Prop := ∃ (r : Addr), ∃ (kr : ClassId), v = some (.ref r) ∧ Fr n0 L ∧ Keep h0 h [] ∧ (Arv Z h r kr .byte (2 : Int32) ([(.int (0 : Int32)), (.int (0 : Int32))]) (.int (0 : Int32))) ∧ (@LE.le Nat instLENat h0.size r)
theorem ef_nbf1 (m : MethodId) (x0 : Int32) : entryFrame m #[(.int x0)] 1 = mkF m 0 #[sI x0] [] := by first | (simp [entryFrame, mkF, argsToLocals, Value.category]; done) | rfl
theorem d44_0 : decode jdk_52_method_2_code 0 = .ok (.iload_n 0, 1) := by decide +kernel
theorem d44_1 : decode jdk_52_method_2_code 1 = .ok (.invokestatic 11, 3) := by decide +kernel
theorem pd_0 : parseMethodDescriptor "(I)I" = some ⟨[.int], some .int⟩ := by decide +kernel
theorem d44_4 : decode jdk_52_method_2_code 4 = .ok (.newarray .byte, 2) := by decide +kernel
theorem d44_6 : decode jdk_52_method_2_code 6 = .ok (.areturn, 1) := by decide +kernel
set_option maxRecDepth 65536 in
set_option maxHeartbeats 40000000 in
theorem nbf1 (l : Launch) (Z : State) (a0 : Array Value) (hw : ∀ d ∈ tables_1, d.before a0 Z = true) (ws : List Jvm.Cond)  (h0 : Heap) (n0 : Nat) (Z0 : n0 ≤ h0.size) :
    MetFree l y_3 (head1 (Jvm.Cond.code y_3 jdk_52_method_2_code 1 (some (.array .byte)) :: ws) r_m1) (fun a_ U_ => a_ = #[(.int (1 : Int32))] ∧ Z.Warmed39 U_.vm ∧ U_.heap = h0) (fun _ _ _ _ _ => True) (fun _ U_ o_ V_ => ∃ v_ L_, o_ = .returned v_ ∧ Qnbf1 Z  h0 n0 v_ V_.heap L_ ∧ FrameEnd U_ o_ V_ L_ r_m1.cells r_m1.slots) := by
  refine MetFree.of_bodySF (plainFor_of_name pn_0) hisR ?_
  intro p e s m args below meth c s₁ Bd hml0 hP hK
  obtain ⟨rfl, hZ, hh⟩ := hP
  have hx := Bd.exec
  have hby := Bd.bytes
  have hml : c.maxLocals = 1 := hml0
  have hown : s.vm.findClass "java/lang/StringUTF16" = some m.cls := findClass_of_methodNamed Bd.named
  have hnm := (name_of_methodNamed Bd.named Bd.method).1
  have X0 : Stand p l e r_m1 s m #[(.int (1 : Int32))] below meth c s₁ [] 0 0 := Stand.of_body Bd
  have e0 : s₁.heap = h0 := by rw [← hh, Bd.state]; rfl
  have N0 := Fr.nil n0
  refine Gl.go (A := s₁.setTop (entryFrame m #[(.int (1 : Int32))] 1)) (P := fun o_ U_ => ∃ v_ L_, o_ = .returned v_ ∧ Qnbf1 Z  h0 n0 v_ U_.heap L_ ∧ FrameEnd s o_ U_ L_ r_m1.cells r_m1.slots) (fun t_ k_ => castTop (ef_nbf1 m (1 : Int32)) k_) ?_
  show Gl p.tables e below _ (s₁.setTop (mkF m 0 #[sI 1] []))
  refine Gl.go (fun _ hr => zXS_iloadN X0.here hx rfl (hb hby d44_0) rfl hr) ?_
  have zz18 : n0 ≤ h0.size := by omega
  refine gStaticN Gl.cl (y := y_2) (argsL := [(.int (1 : Int32))]) (rest := []) (mc := 0) (ms := 0) X0 hx hZ hown (mvT hZ (tw hw 224 rfl)) (mvT hZ (tw hw 225 rfl)) (mvT hZ (tw hw 188 rfl)) (mvT hZ (tw hw 226 rfl)) (by decide) (backOf (W := 0) (nbl1 l Z a0 hw []  h0 n0 zz18 ) hZ (tw hw 226 rfl) (tw hw 188 rfl) (by decide) (by decide)) rfl (by rw [hml]; rfl) (lenOf pd_0 rfl) rfl (by exact Nat.le_of_eq rfl) (hb hby d44_1) rfl e0 (by decide) (by decide) ?_
  intro v18 T18 Lc18 hQ18 X18
  obtain ⟨rfl, Nq18, e18⟩ := hQ18
  have N18 := Fr.app N0 Nq18
  refine gNewP Gl.cl X18 hx hZ (tw hw 20 rfl) e18 rfl (hb hby d44_4) rfl (by decide) (cap := 2) (by decide) (by decide) (by decide) (by decide) ?_
  intro T19 h19 b19 k19 g19 X19 e19 E19 A19
  have z20 : h0.size ≤ h19.size := E19.1
  have lt19 := own_alt A19.lt
  have V19 : Arv Z h19 b19 k19 .byte (2 : Int32) [(.int (0 : Int32)), (.int (0 : Int32))] (.int (0 : Int32)) := (Arv.new A19 (by decide)).pad (pad_rep [] (.int (0 : Int32)) 2)
  obtain ⟨fs, hr, hrun, hended, hW, hsame⟩ := X19.leave (v := some (.ref b19)) (fun h => by rw [Bd.returns] at h; cases h)
  refine ⟨_, _, retOut X19 hx Bd.returns rfl (Or.inr (Or.inr (Or.inr (Or.inr ⟨rfl, rfl, rfl⟩)))) (hb hby d44_6) hr, hrun, hended, _, _, rfl, ?_, ⟨⟨_, rfl⟩, hW, hsame.mono (by decide) (by decide)⟩⟩
  show Qnbf1 Z  h0 n0 _ T19.heap _
  rw [e19]
  exact ⟨b19, k19, rfl, N18, ((Keep.refl h0 []).ext E19), V19, (by omega)⟩
def Qtob1 (Z : State) (b : Addr) (ck : ClassId) (c0 : Int32) (h0 : Heap) (n0 : Nat) (v : Option Value) (h : Heap) (L : List Loc) : Prop := ∃ (r : Addr), ∃ (kr : ClassId), v = some (.ref r) ∧ Fr n0 L ∧ Keep h0 h [] ∧ (Arv Z h r kr .byte (2 : Int32) (StrChars.Road.wideBytes ([c0] : List Int32)) (.int (0 : Int32))) ∧ (@LE.le Nat instLENat h0.size r)
theorem ef_tob1 (m : MethodId) (x0 : Addr) (x1 : Int32) (x2 : Int32) : entryFrame m #[(.ref x0), (.int x1), (.int x2)] 5 = mkF m 0 #[sR x0, sI x1, sI x2, sU, sU] [] := by first | (simp [entryFrame, mkF, argsToLocals, Value.category]; done) | rfl
theorem d55_0 : decode jdk_52_method_14_code 0 = .ok (.iload_n 2, 1) := by decide +kernel
theorem d55_1 : decode jdk_52_method_14_code 1 = .ok (.invokestatic 107, 3) := by decide +kernel
theorem pd_1 : parseMethodDescriptor "(I)[B" = some ⟨[.int], some (.array .byte)⟩ := by decide +kernel
theorem d55_4 : decode jdk_52_method_14_code 4 = .ok (.astore_n 3, 1) := by decide +kernel
theorem d55_5 : decode jdk_52_method_14_code 5 = .ok (.iconst 0, 1) := by decide +kernel
theorem d55_6 : decode jdk_52_method_14_code 6 = .ok (.istore 4, 2) := by decide +kernel
theorem d55_8 : decode jdk_52_method_14_code 8 = .ok (.iload 4, 2) := by decide +kernel
theorem d55_10 : decode jdk_52_method_14_code 10 = .ok (.iload_n 2, 1) := by decide +kernel
theorem d55_11 : decode jdk_52_method_14_code 11 = .ok (.if_icmp .ge 21, 3) := by decide +kernel
theorem d55_14 : decode jdk_52_method_14_code 14 = .ok (.aload_n 3, 1) := by decide +kernel
theorem d55_15 : decode jdk_52_method_14_code 15 = .ok (.iload 4, 2) := by decide +kernel
theorem d55_17 : decode jdk_52_method_14_code 17 = .ok (.aload_n 0, 1) := by decide +kernel
theorem d55_18 : decode jdk_52_method_14_code 18 = .ok (.iload_n 1, 1) := by decide +kernel
theorem d55_19 : decode jdk_52_method_14_code 19 = .ok (.caload, 1) := by decide +kernel
theorem d55_20 : decode jdk_52_method_14_code 20 = .ok (.invokestatic 111, 3) := by decide +kernel
theorem pd_2 : parseMethodDescriptor "([BII)V" = some ⟨[(.array .byte), .int, .int], none⟩ := by decide +kernel
theorem d55_23 : decode jdk_52_method_14_code 23 = .ok (.iinc 1 1, 3) := by decide +kernel
theorem d55_26 : decode jdk_52_method_14_code 26 = .ok (.iinc 4 1, 3) := by decide +kernel
theorem d55_29 : decode jdk_52_method_14_code 29 = .ok (.goto (-21), 3) := by decide +kernel
theorem d55_32 : decode jdk_52_method_14_code 32 = .ok (.aload_n 3, 1) := by decide +kernel
theorem d55_33 : decode jdk_52_method_14_code 33 = .ok (.areturn, 1) := by decide +kernel
set_option maxRecDepth 65536 in
set_option maxHeartbeats 40000000 in
theorem tob1 (l : Launch) (Z : State) (a0 : Array Value) (hw : ∀ d ∈ tables_1, d.before a0 Z = true) (ws : List Jvm.Cond) (b : Addr) (ck : ClassId) (c0 : Int32) (h0 : Heap) (n0 : Nat) (Z0 : n0 ≤ h0.size) (q0 : (Old Z Z.heap.size h0 ∧ @LE.le Nat instLENat Z.heap.size n0)) (q1 : Sta Z Z.heap "java/lang/StringUTF16" "$assertionsDisabled" "Z" (.int (1 : Int32))) (q2 : Sta Z Z.heap "java/lang/StringUTF16" "HI_BYTE_SHIFT" "I" (.int (0 : Int32))) (q3 : Sta Z Z.heap "java/lang/StringUTF16" "LO_BYTE_SHIFT" "I" (.int (8 : Int32))) (q4 : Arv Z h0 b ck .char (1 : Int32) ([(.int c0)]) (.int (0 : Int32))) :
    MetFree l y_4 (head1 (Jvm.Cond.code y_4 jdk_52_method_14_code 5 (some (.array .byte)) :: ws) r_m2) (fun a_ U_ => a_ = #[(.ref b), (.int (0 : Int32)), (.int (1 : Int32))] ∧ Z.Warmed39 U_.vm ∧ U_.heap = h0) (fun _ _ _ _ _ => True) (fun _ U_ o_ V_ => ∃ v_ L_, o_ = .returned v_ ∧ Qtob1 Z b ck c0 h0 n0 v_ V_.heap L_ ∧ FrameEnd U_ o_ V_ L_ r_m2.cells r_m2.slots) := by
  refine MetFree.of_bodySF (plainFor_of_name pn_0) hisR ?_
  intro p e s m args below meth c s₁ Bd hml0 hP hK
  obtain ⟨rfl, hZ, hh⟩ := hP
  have hx := Bd.exec
  have hby := Bd.bytes
  have hml : c.maxLocals = 5 := hml0
  have hown : s.vm.findClass "java/lang/StringUTF16" = some m.cls := findClass_of_methodNamed Bd.named
  have hnm := (name_of_methodNamed Bd.named Bd.method).1
  have X0 : Stand p l e r_m2 s m #[(.ref b), (.int (0 : Int32)), (.int (1 : Int32))] below meth c s₁ [] 0 0 := Stand.of_body Bd
  have e0 : s₁.heap = h0 := by rw [← hh, Bd.state]; rfl
  have N0 := Fr.nil n0
  have Oo := q0.1
  have zo := q0.2
  have lt21 := own_alt q4.lt
  refine Gl.go (A := s₁.setTop (entryFrame m #[(.ref b), (.int (0 : Int32)), (.int (1 : Int32))] 5)) (P := fun o_ U_ => ∃ v_ L_, o_ = .returned v_ ∧ Qtob1 Z b ck c0 h0 n0 v_ U_.heap L_ ∧ FrameEnd s o_ U_ L_ r_m2.cells r_m2.slots) (fun t_ k_ => castTop (ef_tob1 m b (0 : Int32) (1 : Int32)) k_) ?_
  show Gl p.tables e below _ (s₁.setTop (mkF m 0 #[sR b, sI 0, sI 1, sU, sU] []))
  refine Gl.go (fun _ hr => zXS_iloadN X0.here hx rfl (hb hby d55_0) rfl hr) ?_
  have zz22 : n0 ≤ h0.size := by omega
  refine gStaticN Gl.cl (y := y_3) (argsL := [(.int (1 : Int32))]) (rest := []) (mc := 1) (ms := 4) X0 hx hZ hown (mvT hZ (tw hw 261 rfl)) (mvT hZ (tw hw 222 rfl)) (mvT hZ (tw hw 188 rfl)) (mvT hZ (tw hw 223 rfl)) (by decide) (backOf (W := 0) (nbf1 l Z a0 hw []  h0 n0 zz22 ) hZ (tw hw 223 rfl) (tw hw 188 rfl) (by decide) (by decide)) rfl (by rw [hml]; rfl) (lenOf pd_1 rfl) rfl (by exact Nat.le_of_eq rfl) (hb hby d55_1) rfl e0 (by decide) (by decide) ?_
  intro v22 T22 Lc22 hQ22 X22
  obtain ⟨r_22, kr_22, rfl, Nq22, K22, f22_0, f22_1⟩ := hQ22
  have z23 : h0.size ≤ T22.heap.size := K22.1
  have N22 := Fr.app N0 Nq22
  have lt24 := own_alt f22_0.lt
  refine Gl.go (fun _ hr => zXS_astoreN X22.here hx rfl (hb hby d55_4) rfl rfl (l' := #[sR b, sI 0, sI 1, sR r_22, sU]) rfl (zXS_iconst X22.here hx rfl (hb hby d55_5) (zXS_istore X22.here hx rfl (hb hby d55_6) rfl (l' := #[sR b, sI 0, sI 1, sR r_22, sI 0]) rfl (zXS_iload X22.here hx rfl (hb hby d55_8) rfl (zXS_iloadN X22.here hx rfl (hb hby d55_10) rfl (zXS_icmpNo X22.here hx rfl (hb hby d55_11) rfl (XT.ii_ge_f (by decide)) (zXS_aloadN X22.here hx rfl (hb hby d55_14) rfl rfl (zXS_iload X22.here hx rfl (hb hby d55_15) rfl (zXS_aloadN X22.here hx rfl (hb hby d55_17) rfl rfl (zXS_iloadN X22.here hx rfl (hb hby d55_18) rfl hr)))))))))) ?_
  have Vc25 := (q4.keep K22 nin0)
  obtain ⟨c26, a26, q26, s26, m26, H26, U26⟩ := id Vc25
  have i26 := inb_of s26 (j := (0 : Int32)) ⟨(by decide), (by decide)⟩
  refine g_caload Gl.cl X22 hx hZ (rfl : T22.heap = T22.heap) a26 i26 (v := (.int c0)) (H26.at i26 rfl) rfl rfl (hb hby d55_19) ?_
  have Oc28 := (Oo.keep K22 all0)
  have zz27 : n0 ≤ T22.heap.size := by omega
  refine gStaticN Gl.cl (y := y_0) (argsL := [(.ref r_22), (.int (0 : Int32)), (.int c0)]) (rest := []) (mc := 0) (ms := 0) X22 hx hZ hown (mvT hZ (tw hw 206 rfl)) (mvT hZ (tw hw 207 rfl)) (mvT hZ (tw hw 188 rfl)) (mvT hZ (tw hw 208 rfl)) (by decide) (backOf (W := 0) (pch l Z a0 hw [] r_22 kr_22 2 ([(.int (0 : Int32)), (.int (0 : Int32))]) 0 c0 T22.heap n0 zz27 ⟨Oc28, (by omega)⟩ q1 q2 q3 f22_0 (by omega) (by decide) (by decide) (Nat.le_of_ble_eq_true rfl)) hZ (tw hw 208 rfl) (tw hw 188 rfl) (by decide) (by decide)) rfl (by rw [hml]; rfl) (lenOf pd_2 rfl) rfl (by exact Nat.le_of_eq rfl) (hb hby d55_20) rfl (rfl : T22.heap = T22.heap) (by decide) (by decide) ?_
  intro v27 T27 Lc27 hQ27 X27
  obtain ⟨rfl, Nq27, K27, f27_0⟩ := hQ27
  have z29 : T22.heap.size ≤ T27.heap.size := K27.1
  have N27 := Fr.app N22 Nq27
  have lt30 := own_alt f27_0.lt
  refine Gl.go (fun _ hr => zXS_iinc X27.here hx rfl (hb hby d55_23) rfl (l' := #[sR b, sI 1, sI 1, sR r_22, sI 0]) rfl (zXS_iinc X27.here hx rfl (hb hby d55_26) rfl (l' := #[sR b, sI 1, sI 1, sR r_22, sI 1]) rfl (zXS_goto X27.here hx rfl (pc0 := 29) (pc' := 8) rfl (hb hby d55_29) (by decide) (by decide) (zXS_iload X27.here hx rfl (hb hby d55_8) rfl (zXS_iloadN X27.here hx rfl (hb hby d55_10) rfl (zXS_icmpYes X27.here hx rfl (pc0 := 11) (pc' := 32) rfl (hb hby d55_11) rfl (XT.ii_ge_t (by decide)) (by decide) (by decide) (zXS_aloadN X27.here hx rfl (hb hby d55_32) rfl rfl hr))))))) ?_
  obtain ⟨fs, hr, hrun, hended, hW, hsame⟩ := X27.leave (v := some (.ref r_22)) (fun h => by rw [Bd.returns] at h; cases h)
  have om31 : @LE.le Nat instLENat h0.size r_22 := by omega
  refine ⟨_, _, retOut X27 hx Bd.returns rfl (Or.inr (Or.inr (Or.inr (Or.inr ⟨rfl, rfl, rfl⟩)))) (hb hby d55_33) hr, hrun, hended, _, _, rfl, ?_, ⟨⟨_, rfl⟩, hW, hsame.mono (by decide) (by decide)⟩⟩
  show Qtob1 Z b ck c0 h0 n0 _ T27.heap _
  exact ⟨r_22, kr_22, rfl, N27, (((Keep.refl h0 []).trans K22 all0).trans K27 (allS (P := fun x_ => x_ ∈ ([] : List Addr) ∨ h0.size ≤ x_) (Or.inr (own_ale om31)) all0)), f27_0, (by omega)⟩
def Qcmq1 (Z : State) (b : Addr) (ck : ClassId) (a : Addr) (ka : ClassId) (c0 : Int32) (h0 : Heap) (n0 : Nat) (v : Option Value) (h : Heap) (L : List Loc) : Prop := ∃ (r : Nat), ∃ (ys : List Value), v = some (.int (Int32.ofNat r)) ∧ Fr n0 L ∧ Keep h0 h [a] ∧ (Arv Z h a ka .byte (1 : Int32) ys (.int (0 : Int32))) ∧ ((r = 1 ∧ ys = [(.int (StrChars.lo8 c0))] ∧ ∀ c ∈ ([c0] : List Int32), ¬ (255 : Int32) < c) ∨ (r < 1 ∧ (255 : Int32) < ([c0] : List Int32).getD r 0))
theorem ef_cmq1 (m : MethodId) (x0 : Addr) (x1 : Int32) (x2 : Addr) (x3 : Int32) (x4 : Int32) : entryFrame m #[(.ref x0), (.int x1), (.ref x2), (.int x3), (.int x4)] 7 = mkF m 0 #[sR x0, sI x1, sR x2, sI x3, sI x4, sU, sU] [] := by first | (simp [entryFrame, mkF, argsToLocals, Value.category]; done) | rfl
theorem d36_0 : decode jdk_52_method_21_code 0 = .ok (.iconst 0, 1) := by decide +kernel
theorem d36_1 : decode jdk_52_method_21_code 1 = .ok (.istore 5, 2) := by decide +kernel
theorem d36_3 : decode jdk_52_method_21_code 3 = .ok (.iload 5, 2) := by decide +kernel
theorem d36_5 : decode jdk_52_method_21_code 5 = .ok (.iload 4, 2) := by decide +kernel
theorem d36_7 : decode jdk_52_method_21_code 7 = .ok (.if_icmp .ge 37, 3) := by decide +kernel
theorem d36_10 : decode jdk_52_method_21_code 10 = .ok (.aload_n 0, 1) := by decide +kernel
theorem d36_11 : decode jdk_52_method_21_code 11 = .ok (.iload_n 1, 1) := by decide +kernel
theorem d36_12 : decode jdk_52_method_21_code 12 = .ok (.caload, 1) := by decide +kernel
theorem d36_13 : decode jdk_52_method_21_code 13 = .ok (.istore 6, 2) := by decide +kernel
theorem d36_15 : decode jdk_52_method_21_code 15 = .ok (.iload 6, 2) := by decide +kernel
theorem d36_17 : decode jdk_52_method_21_code 17 = .ok (.sipush 255, 3) := by decide +kernel
theorem d36_20 : decode jdk_52_method_21_code 20 = .ok (.if_icmp .le 6, 3) := by decide +kernel
theorem d36_23 : decode jdk_52_method_21_code 23 = .ok (.iload 5, 2) := by decide +kernel
theorem d36_25 : decode jdk_52_method_21_code 25 = .ok (.ireturn, 1) := by decide +kernel
theorem d36_26 : decode jdk_52_method_21_code 26 = .ok (.aload_n 2, 1) := by decide +kernel
theorem d36_27 : decode jdk_52_method_21_code 27 = .ok (.iload_n 3, 1) := by decide +kernel
theorem d36_28 : decode jdk_52_method_21_code 28 = .ok (.iload 6, 2) := by decide +kernel
theorem d36_30 : decode jdk_52_method_21_code 30 = .ok (.i2b, 1) := by decide +kernel
theorem d36_31 : decode jdk_52_method_21_code 31 = .ok (.bastore, 1) := by decide +kernel
theorem d36_32 : decode jdk_52_method_21_code 32 = .ok (.iinc 1 1, 3) := by decide +kernel
theorem d36_35 : decode jdk_52_method_21_code 35 = .ok (.iinc 3 1, 3) := by decide +kernel
theorem d36_38 : decode jdk_52_method_21_code 38 = .ok (.iinc 5 1, 3) := by decide +kernel
theorem d36_41 : decode jdk_52_method_21_code 41 = .ok (.goto (-38), 3) := by decide +kernel
theorem d36_44 : decode jdk_52_method_21_code 44 = .ok (.iload 4, 2) := by decide +kernel
theorem d36_46 : decode jdk_52_method_21_code 46 = .ok (.ireturn, 1) := by decide +kernel
set_option maxRecDepth 65536 in
set_option maxHeartbeats 40000000 in
theorem cmq1 (l : Launch) (Z : State) (a0 : Array Value) (hw : ∀ d ∈ tables_1, d.before a0 Z = true) (ws : List Jvm.Cond) (b : Addr) (ck : ClassId) (a : Addr) (ka : ClassId) (c0 : Int32) (h0 : Heap) (n0 : Nat) (Z0 : n0 ≤ h0.size) (q0 : Arv Z h0 b ck .char (1 : Int32) ([(.int c0)]) (.int (0 : Int32))) (q1 : Arv Z h0 a ka .byte (1 : Int32) ([(.int (0 : Int32))]) (.int (0 : Int32))) (q2 : @LE.le Nat instLENat n0 a) (q3 : ¬ @Eq Nat a b) :
    MetFree l y_5 (head1 (Jvm.Cond.code y_5 jdk_52_method_21_code 7 (some .int) :: ws) r_m0) (fun a_ U_ => a_ = #[(.ref b), (.int (0 : Int32)), (.ref a), (.int (0 : Int32)), (.int (1 : Int32))] ∧ Z.Warmed39 U_.vm ∧ U_.heap = h0) (fun _ _ _ _ _ => True) (fun _ U_ o_ V_ => ∃ v_ L_, o_ = .returned v_ ∧ Qcmq1 Z b ck a ka c0 h0 n0 v_ V_.heap L_ ∧ FrameEnd U_ o_ V_ L_ r_m0.cells r_m0.slots) := by
  refine MetFree.of_bodySF (plainFor_of_name pn_0) hisR ?_
  intro p e s m args below meth c s₁ Bd hml0 hP hK
  obtain ⟨rfl, hZ, hh⟩ := hP
  have hx := Bd.exec
  have hby := Bd.bytes
  have hml : c.maxLocals = 7 := hml0
  have hown : s.vm.findClass "java/lang/StringUTF16" = some m.cls := findClass_of_methodNamed Bd.named
  have hnm := (name_of_methodNamed Bd.named Bd.method).1
  have X0 : Stand p l e r_m0 s m #[(.ref b), (.int (0 : Int32)), (.ref a), (.int (0 : Int32)), (.int (1 : Int32))] below meth c s₁ [] 0 0 := Stand.of_body Bd
  have e0 : s₁.heap = h0 := by rw [← hh, Bd.state]; rfl
  have N0 := Fr.nil n0
  have lt32 := own_alt q0.lt
  have lt33 := own_alt q1.lt
  refine Gl.go (A := s₁.setTop (entryFrame m #[(.ref b), (.int (0 : Int32)), (.ref a), (.int (0 : Int32)), (.int (1 : Int32))] 7)) (P := fun o_ U_ => ∃ v_ L_, o_ = .returned v_ ∧ Qcmq1 Z b ck a ka c0 h0 n0 v_ U_.heap L_ ∧ FrameEnd s o_ U_ L_ r_m0.cells r_m0.slots) (fun t_ k_ => castTop (ef_cmq1 m b (0 : Int32) a (0 : Int32) (1 : Int32)) k_) ?_
  show Gl p.tables e below _ (s₁.setTop (mkF m 0 #[sR b, sI 0, sR a, sI 0, sI 1, sU, sU] []))
  refine Gl.go (fun _ hr => zXS_iconst X0.here hx rfl (hb hby d36_0) (zXS_istore X0.here hx rfl (hb hby d36_1) rfl (l' := #[sR b, sI 0, sR a, sI 0, sI 1, sI 0, sU]) rfl (zXS_iload X0.here hx rfl (hb hby d36_3) rfl (zXS_iload X0.here hx rfl (hb hby d36_5) rfl (zXS_icmpNo X0.here hx rfl (hb hby d36_7) rfl (XT.ii_ge_f (by decide)) (zXS_aloadN X0.here hx rfl (hb hby d36_10) rfl rfl (zXS_iloadN X0.here hx rfl (hb hby d36_11) rfl hr))))))) ?_
  obtain ⟨c34, a34, q34, s34, m34, H34, U34⟩ := id q0
  have i34 := inb_of s34 (j := (0 : Int32)) ⟨(by decide), (by decide)⟩
  refine g_caload Gl.cl X0 hx hZ e0 a34 i34 (v := (.int c0)) (H34.at i34 rfl) rfl rfl (hb hby d36_12) ?_
  refine Gl.go (fun _ hr => zXS_istore X0.here hx rfl (hb hby d36_13) rfl (l' := #[sR b, sI 0, sR a, sI 0, sI 1, sI 0, sI c0]) rfl (zXS_iload X0.here hx rfl (hb hby d36_15) rfl (zXS_sipush X0.here hx rfl (hb hby d36_17) hr))) ?_
  by_cases hc35 : (255 : Int32) < c0
  · refine Gl.go (fun _ hr => zXS_icmpNo X0.here hx rfl (hb hby d36_20) rfl (XT.ii_le_f hc35) (zXS_iload X0.here hx rfl (hb hby d36_23) rfl hr)) ?_
    obtain ⟨fs, hr, hrun, hended, hW, hsame⟩ := X0.leave (v := some (.int (0 : Int32))) (fun h => by rw [Bd.returns] at h; cases h)
    refine ⟨_, _, retOut X0 hx Bd.returns rfl (Or.inl ⟨rfl, Or.inl rfl, _, rfl⟩) (hb hby d36_25) hr, hrun, hended, _, _, rfl, ?_, ⟨⟨_, rfl⟩, hW, hsame.mono (by decide) (by decide)⟩⟩
    show Qcmq1 Z b ck a ka c0 h0 n0 _ s₁.heap _
    rw [e0]
    exact ⟨0, [(.int (0 : Int32))], rfl, N0, (Keep.refl h0 [a]), q1, (Or.inr ⟨by decide, hc35⟩)⟩
  · refine Gl.go (fun _ hr => zXS_icmpYes X0.here hx rfl (pc0 := 20) (pc' := 26) rfl (hb hby d36_20) rfl (XT.ii_le_t hc35) (by decide) (by decide) (zXS_aloadN X0.here hx rfl (hb hby d36_26) rfl rfl (zXS_iloadN X0.here hx rfl (hb hby d36_27) rfl (zXS_iload X0.here hx rfl (hb hby d36_28) rfl (zXT_i2b X0.here hx rfl (hb hby d36_30) rfl hr))))) ?_
    show Gl p.tables e below _ (s₁.setTop (mkF m 31 #[sR b, sI 0, sR a, sI 0, sI 1, sI 0, sI c0] [(.int (c0.toInt8.toInt32)), (.int (0 : Int32)), (.ref a)]))
    show Gl p.tables e below _ (s₁.setTop (mkF m 31 #[sR b, sI 0, sR a, sI 0, sI 1, sI 0, sI c0] [(.int (StrChars.lo8 c0)), (.int (0 : Int32)), (.ref a)]))
    obtain ⟨c36, a36, q36, s36, m36, H36, U36⟩ := id q1
    refine gstB Gl.cl X0 hx hZ e0 a36 (j := (0 : Int32)) (inb_of s36 ⟨(by decide), (by decide)⟩) rfl rfl (hb hby d36_31) ?_
    intro T36 h36 X36 e36 W36
    have z37 : h0.size ≤ h36.size := (Keep.of_wr W36).1
    rw [(own_narb _)] at W36
    have V36 : Arv Z h36 a ka .byte (1 : Int32) [(.int (StrChars.lo8 c0))] (.int (0 : Int32)) := Arv.set a36 q36 s36 m36 H36 U36 (own_fitb _) W36 0 rfl (Nat.le_of_ble_eq_true rfl)
    have om38 : @LE.le Nat instLENat n0 a := by omega
    have N36 := Fr.snoc X36 N0 (own_ale om38)
    refine Gl.go (fun _ hr => zXS_iinc X36.here hx rfl (hb hby d36_32) rfl (l' := #[sR b, sI 1, sR a, sI 0, sI 1, sI 0, sI c0]) rfl (zXS_iinc X36.here hx rfl (hb hby d36_35) rfl (l' := #[sR b, sI 1, sR a, sI 1, sI 1, sI 0, sI c0]) rfl (zXS_iinc X36.here hx rfl (hb hby d36_38) rfl (l' := #[sR b, sI 1, sR a, sI 1, sI 1, sI 1, sI c0]) rfl (zXS_goto X36.here hx rfl (pc0 := 41) (pc' := 3) rfl (hb hby d36_41) (by decide) (by decide) (zXS_iload X36.here hx rfl (hb hby d36_3) rfl (zXS_iload X36.here hx rfl (hb hby d36_5) rfl (zXS_icmpYes X36.here hx rfl (pc0 := 7) (pc' := 44) rfl (hb hby d36_7) rfl (XT.ii_ge_t (by decide)) (by decide) (by decide) (zXS_iload X36.here hx rfl (hb hby d36_44) rfl hr)))))))) ?_
    obtain ⟨fs, hr, hrun, hended, hW, hsame⟩ := X36.leave (v := some (.int (1 : Int32))) (fun h => by rw [Bd.returns] at h; cases h)
    refine ⟨_, _, retOut X36 hx Bd.returns rfl (Or.inl ⟨rfl, Or.inl rfl, _, rfl⟩) (hb hby d36_46) hr, hrun, hended, _, _, rfl, ?_, ⟨⟨_, rfl⟩, hW, hsame.mono (by decide) (by decide)⟩⟩
    show Qcmq1 Z b ck a ka c0 h0 n0 _ T36.heap _
    rw [e36]
    exact ⟨1, [(.int (StrChars.lo8 c0))], rfl, N36, ((Keep.refl h0 [a]).wr W36 (Or.inl (by simp))), V36, (Or.inl ⟨rfl, rfl, (own_cS (P := fun c => ¬ (255 : Int32) < c) hc35 own_c0)⟩)⟩
def Qnbl2 (Z : State)  (h0 : Heap) (n0 : Nat) (v : Option Value) (h : Heap) (L : List Loc) : Prop := v = some (.int (4 : Int32)) ∧ Fr n0 L ∧ h = h0
theorem ef_nbl2 (m : MethodId) (x0 : Int32) : entryFrame m #[(.int x0)] 1 = mkF m 0 #[sI x0] [] := by first | (simp [entryFrame, mkF, argsToLocals, Value.category]; done) | rfl
set_option maxRecDepth 65536 in
set_option maxHeartbeats 40000000 in
theorem nbl2 (l : Launch) (Z : State) (a0 : Array Value) (hw : ∀ d ∈ tables_1, d.before a0 Z = true) (ws : List Jvm.Cond)  (h0 : Heap) (n0 : Nat) (Z0 : n0 ≤ h0.size) :
    MetFree l y_2 (head1 (Jvm.Cond.code y_2 jdk_52_method_3_code 1 (some .int) :: ws) r_m0) (fun a_ U_ => a_ = #[(.int (2 : Int32))] ∧ Z.Warmed39 U_.vm ∧ U_.heap = h0) (fun _ _ _ _ _ => True) (fun _ U_ o_ V_ => ∃ v_ L_, o_ = .returned v_ ∧ Qnbl2 Z  h0 n0 v_ V_.heap L_ ∧ FrameEnd U_ o_ V_ L_ r_m0.cells r_m0.slots) := by
  refine MetFree.of_bodySF (plainFor_of_name pn_0) hisR ?_
  intro p e s m args below meth c s₁ Bd hml0 hP hK
  obtain ⟨rfl, hZ, hh⟩ := hP
  have hx := Bd.exec
  have hby := Bd.bytes
  have hml : c.maxLocals = 1 := hml0
  have hown : s.vm.findClass "java/lang/StringUTF16" = some m.cls := findClass_of_methodNamed Bd.named
  have hnm := (name_of_methodNamed Bd.named Bd.method).1
  have X0 : Stand p l e r_m0 s m #[(.int (2 : Int32))] below meth c s₁ [] 0 0 := Stand.of_body Bd
  have e0 : s₁.heap = h0 := by rw [← hh, Bd.state]; rfl
  have N0 := Fr.nil n0
  refine Gl.go (A := s₁.setTop (entryFrame m #[(.int (2 : Int32))] 1)) (P := fun o_ U_ => ∃ v_ L_, o_ = .returned v_ ∧ Qnbl2 Z  h0 n0 v_ U_.heap L_ ∧ FrameEnd s o_ U_ L_ r_m0.cells r_m0.slots) (fun t_ k_ => castTop (ef_nbl2 m (2 : Int32)) k_) ?_
  show Gl p.tables e below _ (s₁.setTop (mkF m 0 #[sI 2] []))
  refine Gl.go (fun _ hr => zXS_iloadN X0.here hx rfl (hb hby d45_0) rfl (zXS_ifYes X0.here hx rfl (pc0 := 1) (pc' := 12) rfl (hb hby d45_1) rfl (XT.i0_ge_t (by decide)) (by decide) (by decide) (zXS_iloadN X0.here hx rfl (hb hby d45_12) rfl hr))) ?_
  refine Gl.go (X0.ldcInt hx hown (mvT hZ (tw hw 227 rfl)) rfl (hb hby d45_13)) ?_
  refine Gl.go (fun _ hr => zXS_icmpYes X0.here hx rfl (pc0 := 15) (pc' := 55) rfl (hb hby d45_15) rfl (XT.ii_lt_t (by decide)) (by decide) (by decide) (zXS_iloadN X0.here hx rfl (hb hby d45_55) rfl (zXS_iconst X0.here hx rfl (hb hby d45_56) (zXT_ishl X0.here hx rfl (hb hby d45_57) rfl hr)))) ?_
  obtain ⟨fs, hr, hrun, hended, hW, hsame⟩ := X0.leave (v := some (.int (4 : Int32))) (fun h => by rw [Bd.returns] at h; cases h)
  refine ⟨_, _, retOut X0 hx Bd.returns rfl (Or.inl ⟨rfl, Or.inl rfl, _, rfl⟩) (hb hby d45_58) hr, hrun, hended, _, _, rfl, ?_, ⟨⟨_, rfl⟩, hW, hsame.mono (by decide) (by decide)⟩⟩
  show Qnbl2 Z  h0 n0 _ s₁.heap _
  rw [e0]
  exact ⟨rfl, N0, rfl⟩
def Qnbf2 (Z : State)  (h0 : Heap) (n0 : Nat) (v : Option Value) (h : Heap) (L : List Loc) : Prop := ∃ (r : Addr), ∃ (kr : ClassId), v = some (.ref r) ∧ Fr n0 L ∧ Keep h0 h [] ∧ (Arv Z h r kr .byte (4 : Int32) ([(.int (0 : Int32)), (.int (0 : Int32)), (.int (0 : Int32)), (.int (0 : Int32))]) (.int (0 : Int32))) ∧ (@LE.le Nat instLENat h0.size r)
theorem ef_nbf2 (m : MethodId) (x0 : Int32) : entryFrame m #[(.int x0)] 1 = mkF m 0 #[sI x0] [] := by first | (simp [entryFrame, mkF, argsToLocals, Value.category]; done) | rfl
set_option maxRecDepth 65536 in
set_option maxHeartbeats 40000000 in
theorem nbf2 (l : Launch) (Z : State) (a0 : Array Value) (hw : ∀ d ∈ tables_1, d.before a0 Z = true) (ws : List Jvm.Cond)  (h0 : Heap) (n0 : Nat) (Z0 : n0 ≤ h0.size) :
    MetFree l y_3 (head1 (Jvm.Cond.code y_3 jdk_52_method_2_code 1 (some (.array .byte)) :: ws) r_m1) (fun a_ U_ => a_ = #[(.int (2 : Int32))] ∧ Z.Warmed39 U_.vm ∧ U_.heap = h0) (fun _ _ _ _ _ => True) (fun _ U_ o_ V_ => ∃ v_ L_, o_ = .returned v_ ∧ Qnbf2 Z  h0 n0 v_ V_.heap L_ ∧ FrameEnd U_ o_ V_ L_ r_m1.cells r_m1.slots) := by
  refine MetFree.of_bodySF (plainFor_of_name pn_0) hisR ?_
  intro p e s m args below meth c s₁ Bd hml0 hP hK
  obtain ⟨rfl, hZ, hh⟩ := hP
  have hx := Bd.exec
  have hby := Bd.bytes
  have hml : c.maxLocals = 1 := hml0
  have hown : s.vm.findClass "java/lang/StringUTF16" = some m.cls := findClass_of_methodNamed Bd.named
  have hnm := (name_of_methodNamed Bd.named Bd.method).1
  have X0 : Stand p l e r_m1 s m #[(.int (2 : Int32))] below meth c s₁ [] 0 0 := Stand.of_body Bd
  have e0 : s₁.heap = h0 := by rw [← hh, Bd.state]; rfl
  have N0 := Fr.nil n0
  refine Gl.go (A := s₁.setTop (entryFrame m #[(.int (2 : Int32))] 1)) (P := fun o_ U_ => ∃ v_ L_, o_ = .returned v_ ∧ Qnbf2 Z  h0 n0 v_ U_.heap L_ ∧ FrameEnd s o_ U_ L_ r_m1.cells r_m1.slots) (fun t_ k_ => castTop (ef_nbf2 m (2 : Int32)) k_) ?_
  show Gl p.tables e below _ (s₁.setTop (mkF m 0 #[sI 2] []))
  refine Gl.go (fun _ hr => zXS_iloadN X0.here hx rfl (hb hby d44_0) rfl hr) ?_
  have zz39 : n0 ≤ h0.size := by omega
  refine gStaticN Gl.cl (y := y_2) (argsL := [(.int (2 : Int32))]) (rest := []) (mc := 0) (ms := 0) X0 hx hZ hown (mvT hZ (tw hw 224 rfl)) (mvT hZ (tw hw 225 rfl)) (mvT hZ (tw hw 188 rfl)) (mvT hZ (tw hw 226 rfl)) (by decide) (backOf (W := 0) (nbl2 l Z a0 hw []  h0 n0 zz39 ) hZ (tw hw 226 rfl) (tw hw 188 rfl) (by decide) (by decide)) rfl (by rw [hml]; rfl) (lenOf pd_0 rfl) rfl (by exact Nat.le_of_eq rfl) (hb hby d44_1) rfl e0 (by decide) (by decide) ?_
  intro v39 T39 Lc39 hQ39 X39
  obtain ⟨rfl, Nq39, e39⟩ := hQ39
  have N39 := Fr.app N0 Nq39
  refine gNewP Gl.cl X39 hx hZ (tw hw 20 rfl) e39 rfl (hb hby d44_4) rfl (by decide) (cap := 4) (by decide) (by decide) (by decide) (by decide) ?_
  intro T40 h40 b40 k40 g40 X40 e40 E40 A40
  have z41 : h0.size ≤ h40.size := E40.1
  have lt40 := own_alt A40.lt
  have V40 : Arv Z h40 b40 k40 .byte (4 : Int32) [(.int (0 : Int32)), (.int (0 : Int32)), (.int (0 : Int32)), (.int (0 : Int32))] (.int (0 : Int32)) := (Arv.new A40 (by decide)).pad (pad_rep [] (.int (0 : Int32)) 4)
  obtain ⟨fs, hr, hrun, hended, hW, hsame⟩ := X40.leave (v := some (.ref b40)) (fun h => by rw [Bd.returns] at h; cases h)
  refine ⟨_, _, retOut X40 hx Bd.returns rfl (Or.inr (Or.inr (Or.inr (Or.inr ⟨rfl, rfl, rfl⟩)))) (hb hby d44_6) hr, hrun, hended, _, _, rfl, ?_, ⟨⟨_, rfl⟩, hW, hsame.mono (by decide) (by decide)⟩⟩
  show Qnbf2 Z  h0 n0 _ T40.heap _
  rw [e40]
  exact ⟨b40, k40, rfl, N39, ((Keep.refl h0 []).ext E40), V40, (by omega)⟩
def Qtob2 (Z : State) (b : Addr) (ck : ClassId) (c0 : Int32) (c1 : Int32) (h0 : Heap) (n0 : Nat) (v : Option Value) (h : Heap) (L : List Loc) : Prop := ∃ (r : Addr), ∃ (kr : ClassId), v = some (.ref r) ∧ Fr n0 L ∧ Keep h0 h [] ∧ (Arv Z h r kr .byte (4 : Int32) (StrChars.Road.wideBytes ([c0, c1] : List Int32)) (.int (0 : Int32))) ∧ (@LE.le Nat instLENat h0.size r)
theorem ef_tob2 (m : MethodId) (x0 : Addr) (x1 : Int32) (x2 : Int32) : entryFrame m #[(.ref x0), (.int x1), (.int x2)] 5 = mkF m 0 #[sR x0, sI x1, sI x2, sU, sU] [] := by first | (simp [entryFrame, mkF, argsToLocals, Value.category]; done) | rfl
set_option maxRecDepth 65536 in
set_option maxHeartbeats 40000000 in
theorem tob2 (l : Launch) (Z : State) (a0 : Array Value) (hw : ∀ d ∈ tables_1, d.before a0 Z = true) (ws : List Jvm.Cond) (b : Addr) (ck : ClassId) (c0 : Int32) (c1 : Int32) (h0 : Heap) (n0 : Nat) (Z0 : n0 ≤ h0.size) (q0 : (Old Z Z.heap.size h0 ∧ @LE.le Nat instLENat Z.heap.size n0)) (q1 : Sta Z Z.heap "java/lang/StringUTF16" "$assertionsDisabled" "Z" (.int (1 : Int32))) (q2 : Sta Z Z.heap "java/lang/StringUTF16" "HI_BYTE_SHIFT" "I" (.int (0 : Int32))) (q3 : Sta Z Z.heap "java/lang/StringUTF16" "LO_BYTE_SHIFT" "I" (.int (8 : Int32))) (q4 : Arv Z h0 b ck .char (2 : Int32) ([(.int c0), (.int c1)]) (.int (0 : Int32))) :
    MetFree l y_4 (head1 (Jvm.Cond.code y_4 jdk_52_method_14_code 5 (some (.array .byte)) :: ws) r_m2) (fun a_ U_ => a_ = #[(.ref b), (.int (0 : Int32)), (.int (2 : Int32))] ∧ Z.Warmed39 U_.vm ∧ U_.heap = h0) (fun _ _ _ _ _ => True) (fun _ U_ o_ V_ => ∃ v_ L_, o_ = .returned v_ ∧ Qtob2 Z b ck c0 c1 h0 n0 v_ V_.heap L_ ∧ FrameEnd U_ o_ V_ L_ r_m2.cells r_m2.slots) := by
  refine MetFree.of_bodySF (plainFor_of_name pn_0) hisR ?_
  intro p e s m args below meth c s₁ Bd hml0 hP hK
  obtain ⟨rfl, hZ, hh⟩ := hP
  have hx := Bd.exec
  have hby := Bd.bytes
  have hml : c.maxLocals = 5 := hml0
  have hown : s.vm.findClass "java/lang/StringUTF16" = some m.cls := findClass_of_methodNamed Bd.named
  have hnm := (name_of_methodNamed Bd.named Bd.method).1
  have X0 : Stand p l e r_m2 s m #[(.ref b), (.int (0 : Int32)), (.int (2 : Int32))] below meth c s₁ [] 0 0 := Stand.of_body Bd
  have e0 : s₁.heap = h0 := by rw [← hh, Bd.state]; rfl
  have N0 := Fr.nil n0
  have Oo := q0.1
  have zo := q0.2
  have lt42 := own_alt q4.lt
  refine Gl.go (A := s₁.setTop (entryFrame m #[(.ref b), (.int (0 : Int32)), (.int (2 : Int32))] 5)) (P := fun o_ U_ => ∃ v_ L_, o_ = .returned v_ ∧ Qtob2 Z b ck c0 c1 h0 n0 v_ U_.heap L_ ∧ FrameEnd s o_ U_ L_ r_m2.cells r_m2.slots) (fun t_ k_ => castTop (ef_tob2 m b (0 : Int32) (2 : Int32)) k_) ?_
  show Gl p.tables e below _ (s₁.setTop (mkF m 0 #[sR b, sI 0, sI 2, sU, sU] []))
  refine Gl.go (fun _ hr => zXS_iloadN X0.here hx rfl (hb hby d55_0) rfl hr) ?_
  have zz43 : n0 ≤ h0.size := by omega
  refine gStaticN Gl.cl (y := y_3) (argsL := [(.int (2 : Int32))]) (rest := []) (mc := 1) (ms := 4) X0 hx hZ hown (mvT hZ (tw hw 261 rfl)) (mvT hZ (tw hw 222 rfl)) (mvT hZ (tw hw 188 rfl)) (mvT hZ (tw hw 223 rfl)) (by decide) (backOf (W := 0) (nbf2 l Z a0 hw []  h0 n0 zz43 ) hZ (tw hw 223 rfl) (tw hw 188 rfl) (by decide) (by decide)) rfl (by rw [hml]; rfl) (lenOf pd_1 rfl) rfl (by exact Nat.le_of_eq rfl) (hb hby d55_1) rfl e0 (by decide) (by decide) ?_
  intro v43 T43 Lc43 hQ43 X43
  obtain ⟨r_43, kr_43, rfl, Nq43, K43, f43_0, f43_1⟩ := hQ43
  have z44 : h0.size ≤ T43.heap.size := K43.1
  have N43 := Fr.app N0 Nq43
  have lt45 := own_alt f43_0.lt
  refine Gl.go (fun _ hr => zXS_astoreN X43.here hx rfl (hb hby d55_4) rfl rfl (l' := #[sR b, sI 0, sI 2, sR r_43, sU]) rfl (zXS_iconst X43.here hx rfl (hb hby d55_5) (zXS_istore X43.here hx rfl (hb hby d55_6) rfl (l' := #[sR b, sI 0, sI 2, sR r_43, sI 0]) rfl (zXS_iload X43.here hx rfl (hb hby d55_8) rfl (zXS_iloadN X43.here hx rfl (hb hby d55_10) rfl (zXS_icmpNo X43.here hx rfl (hb hby d55_11) rfl (XT.ii_ge_f (by decide)) (zXS_aloadN X43.here hx rfl (hb hby d55_14) rfl rfl (zXS_iload X43.here hx rfl (hb hby d55_15) rfl (zXS_aloadN X43.here hx rfl (hb hby d55_17) rfl rfl (zXS_iloadN X43.here hx rfl (hb hby d55_18) rfl hr)))))))))) ?_
  have Vc46 := (q4.keep K43 nin0)
  obtain ⟨c47, a47, q47, s47, m47, H47, U47⟩ := id Vc46
  have i47 := inb_of s47 (j := (0 : Int32)) ⟨(by decide), (by decide)⟩
  refine g_caload Gl.cl X43 hx hZ (rfl : T43.heap = T43.heap) a47 i47 (v := (.int c0)) (H47.at i47 rfl) rfl rfl (hb hby d55_19) ?_
  have Oc49 := (Oo.keep K43 all0)
  have zz48 : n0 ≤ T43.heap.size := by omega
  refine gStaticN Gl.cl (y := y_0) (argsL := [(.ref r_43), (.int (0 : Int32)), (.int c0)]) (rest := []) (mc := 0) (ms := 0) X43 hx hZ hown (mvT hZ (tw hw 206 rfl)) (mvT hZ (tw hw 207 rfl)) (mvT hZ (tw hw 188 rfl)) (mvT hZ (tw hw 208 rfl)) (by decide) (backOf (W := 0) (pch l Z a0 hw [] r_43 kr_43 4 ([(.int (0 : Int32)), (.int (0 : Int32)), (.int (0 : Int32)), (.int (0 : Int32))]) 0 c0 T43.heap n0 zz48 ⟨Oc49, (by omega)⟩ q1 q2 q3 f43_0 (by omega) (by decide) (by decide) (Nat.le_of_ble_eq_true rfl)) hZ (tw hw 208 rfl) (tw hw 188 rfl) (by decide) (by decide)) rfl (by rw [hml]; rfl) (lenOf pd_2 rfl) rfl (by exact Nat.le_of_eq rfl) (hb hby d55_20) rfl (rfl : T43.heap = T43.heap) (by decide) (by decide) ?_
  intro v48 T48 Lc48 hQ48 X48
  obtain ⟨rfl, Nq48, K48, f48_0⟩ := hQ48
  have z50 : T43.heap.size ≤ T48.heap.size := K48.1
  have N48 := Fr.app N43 Nq48
  have lt51 := own_alt f48_0.lt
  refine Gl.go (fun _ hr => zXS_iinc X48.here hx rfl (hb hby d55_23) rfl (l' := #[sR b, sI 1, sI 2, sR r_43, sI 0]) rfl (zXS_iinc X48.here hx rfl (hb hby d55_26) rfl (l' := #[sR b, sI 1, sI 2, sR r_43, sI 1]) rfl (zXS_goto X48.here hx rfl (pc0 := 29) (pc' := 8) rfl (hb hby d55_29) (by decide) (by decide) (zXS_iload X48.here hx rfl (hb hby d55_8) rfl (zXS_iloadN X48.here hx rfl (hb hby d55_10) rfl (zXS_icmpNo X48.here hx rfl (hb hby d55_11) rfl (XT.ii_ge_f (by decide)) (zXS_aloadN X48.here hx rfl (hb hby d55_14) rfl rfl (zXS_iload X48.here hx rfl (hb hby d55_15) rfl (zXS_aloadN X48.here hx rfl (hb hby d55_17) rfl rfl (zXS_iloadN X48.here hx rfl (hb hby d55_18) rfl hr)))))))))) ?_
  have om52 : ¬ @Eq Nat b r_43 := by omega
  have Vc53 := (Vc46.keep K48 (ninS (own_ane om52) nin0))
  obtain ⟨c54, a54, q54, s54, m54, H54, U54⟩ := id Vc53
  have i54 := inb_of s54 (j := (1 : Int32)) ⟨(by decide), (by decide)⟩
  refine g_caload Gl.cl X48 hx hZ (rfl : T48.heap = T48.heap) a54 i54 (v := (.int c1)) (H54.at i54 rfl) rfl rfl (hb hby d55_19) ?_
  have om56 : @LE.le Nat instLENat Z.heap.size r_43 := by omega
  have Oc57 := (Oc49.keep K48 (allS (own_ale om56) all0))
  have zz55 : n0 ≤ T48.heap.size := by omega
  refine gStaticN Gl.cl (y := y_0) (argsL := [(.ref r_43), (.int (1 : Int32)), (.int c1)]) (rest := []) (mc := 0) (ms := 0) X48 hx hZ hown (mvT hZ (tw hw 206 rfl)) (mvT hZ (tw hw 207 rfl)) (mvT hZ (tw hw 188 rfl)) (mvT hZ (tw hw 208 rfl)) (by decide) (backOf (W := 0) (pch l Z a0 hw [] r_43 kr_43 4 (([(.int (0 : Int32)), (.int (0 : Int32)), (.int (0 : Int32)), (.int (0 : Int32))].set (2 * 0) (.int (StrChars.lo8 c0))).set (2 * 0 + 1) (.int (StrChars.hi8 c0))) 1 c1 T48.heap n0 zz55 ⟨Oc57, (by omega)⟩ q1 q2 q3 f48_0 (by omega) (by decide) (by decide) (Nat.le_of_ble_eq_true rfl)) hZ (tw hw 208 rfl) (tw hw 188 rfl) (by decide) (by decide)) rfl (by rw [hml]; rfl) (lenOf pd_2 rfl) rfl (by exact Nat.le_of_eq rfl) (hb hby d55_20) rfl (rfl : T48.heap = T48.heap) (by decide) (by decide) ?_
  intro v55 T55 Lc55 hQ55 X55
  obtain ⟨rfl, Nq55, K55, f55_0⟩ := hQ55
  have z58 : T48.heap.size ≤ T55.heap.size := K55.1
  have N55 := Fr.app N48 Nq55
  have lt59 := own_alt f55_0.lt
  refine Gl.go (fun _ hr => zXS_iinc X55.here hx rfl (hb hby d55_23) rfl (l' := #[sR b, sI 2, sI 2, sR r_43, sI 1]) rfl (zXS_iinc X55.here hx rfl (hb hby d55_26) rfl (l' := #[sR b, sI 2, sI 2, sR r_43, sI 2]) rfl (zXS_goto X55.here hx rfl (pc0 := 29) (pc' := 8) rfl (hb hby d55_29) (by decide) (by decide) (zXS_iload X55.here hx rfl (hb hby d55_8) rfl (zXS_iloadN X55.here hx rfl (hb hby d55_10) rfl (zXS_icmpYes X55.here hx rfl (pc0 := 11) (pc' := 32) rfl (hb hby d55_11) rfl (XT.ii_ge_t (by decide)) (by decide) (by decide) (zXS_aloadN X55.here hx rfl (hb hby d55_32) rfl rfl hr))))))) ?_
  obtain ⟨fs, hr, hrun, hended, hW, hsame⟩ := X55.leave (v := some (.ref r_43)) (fun h => by rw [Bd.returns] at h; cases h)
  have om60 : @LE.le Nat instLENat h0.size r_43 := by omega
  refine ⟨_, _, retOut X55 hx Bd.returns rfl (Or.inr (Or.inr (Or.inr (Or.inr ⟨rfl, rfl, rfl⟩)))) (hb hby d55_33) hr, hrun, hended, _, _, rfl, ?_, ⟨⟨_, rfl⟩, hW, hsame.mono (by decide) (by decide)⟩⟩
  show Qtob2 Z b ck c0 c1 h0 n0 _ T55.heap _
  exact ⟨r_43, kr_43, rfl, N55, ((((Keep.refl h0 []).trans K43 all0).trans K48 (allS (P := fun x_ => x_ ∈ ([] : List Addr) ∨ h0.size ≤ x_) (Or.inr (own_ale om60)) all0)).trans K55 (allS (P := fun x_ => x_ ∈ ([] : List Addr) ∨ h0.size ≤ x_) (Or.inr (own_ale om60)) all0)), f55_0, (by omega)⟩
def Qcmq2 (Z : State) (b : Addr) (ck : ClassId) (a : Addr) (ka : ClassId) (c0 : Int32) (c1 : Int32) (h0 : Heap) (n0 : Nat) (v : Option Value) (h : Heap) (L : List Loc) : Prop := ∃ (r : Nat), ∃ (ys : List Value), v = some (.int (Int32.ofNat r)) ∧ Fr n0 L ∧ Keep h0 h [a] ∧ (Arv Z h a ka .byte (2 : Int32) ys (.int (0 : Int32))) ∧ ((r = 2 ∧ ys = [(.int (StrChars.lo8 c0)), (.int (StrChars.lo8 c1))] ∧ ∀ c ∈ ([c0, c1] : List Int32), ¬ (255 : Int32) < c) ∨ (r < 2 ∧ (255 : Int32) < ([c0, c1] : List Int32).getD r 0))
theorem ef_cmq2 (m : MethodId) (x0 : Addr) (x1 : Int32) (x2 : Addr) (x3 : Int32) (x4 : Int32) : entryFrame m #[(.ref x0), (.int x1), (.ref x2), (.int x3), (.int x4)] 7 = mkF m 0 #[sR x0, sI x1, sR x2, sI x3, sI x4, sU, sU] [] := by first | (simp [entryFrame, mkF, argsToLocals, Value.category]; done) | rfl
set_option maxRecDepth 65536 in
set_option maxHeartbeats 40000000 in
theorem cmq2 (l : Launch) (Z : State) (a0 : Array Value) (hw : ∀ d ∈ tables_1, d.before a0 Z = true) (ws : List Jvm.Cond) (b : Addr) (ck : ClassId) (a : Addr) (ka : ClassId) (c0 : Int32) (c1 : Int32) (h0 : Heap) (n0 : Nat) (Z0 : n0 ≤ h0.size) (q0 : Arv Z h0 b ck .char (2 : Int32) ([(.int c0), (.int c1)]) (.int (0 : Int32))) (q1 : Arv Z h0 a ka .byte (2 : Int32) ([(.int (0 : Int32)), (.int (0 : Int32))]) (.int (0 : Int32))) (q2 : @LE.le Nat instLENat n0 a) (q3 : ¬ @Eq Nat a b) :
    MetFree l y_5 (head1 (Jvm.Cond.code y_5 jdk_52_method_21_code 7 (some .int) :: ws) r_m0) (fun a_ U_ => a_ = #[(.ref b), (.int (0 : Int32)), (.ref a), (.int (0 : Int32)), (.int (2 : Int32))] ∧ Z.Warmed39 U_.vm ∧ U_.heap = h0) (fun _ _ _ _ _ => True) (fun _ U_ o_ V_ => ∃ v_ L_, o_ = .returned v_ ∧ Qcmq2 Z b ck a ka c0 c1 h0 n0 v_ V_.heap L_ ∧ FrameEnd U_ o_ V_ L_ r_m0.cells r_m0.slots) := by
  refine MetFree.of_bodySF (plainFor_of_name pn_0) hisR ?_
  intro p e s m args below meth c s₁ Bd hml0 hP hK
  obtain ⟨rfl, hZ, hh⟩ := hP
  have hx := Bd.exec
  have hby := Bd.bytes
  have hml : c.maxLocals = 7 := hml0
  have hown : s.vm.findClass "java/lang/StringUTF16" = some m.cls := findClass_of_methodNamed Bd.named
  have hnm := (name_of_methodNamed Bd.named Bd.method).1
  have X0 : Stand p l e r_m0 s m #[(.ref b), (.int (0 : Int32)), (.ref a), (.int (0 : Int32)), (.int (2 : Int32))] below meth c s₁ [] 0 0 := Stand.of_body Bd
  have e0 : s₁.heap = h0 := by rw [← hh, Bd.state]; rfl
  have N0 := Fr.nil n0
  have lt61 := own_alt q0.lt
  have lt62 := own_alt q1.lt
  refine Gl.go (A := s₁.setTop (entryFrame m #[(.ref b), (.int (0 : Int32)), (.ref a), (.int (0 : Int32)), (.int (2 : Int32))] 7)) (P := fun o_ U_ => ∃ v_ L_, o_ = .returned v_ ∧ Qcmq2 Z b ck a ka c0 c1 h0 n0 v_ U_.heap L_ ∧ FrameEnd s o_ U_ L_ r_m0.cells r_m0.slots) (fun t_ k_ => castTop (ef_cmq2 m b (0 : Int32) a (0 : Int32) (2 : Int32)) k_) ?_
  show Gl p.tables e below _ (s₁.setTop (mkF m 0 #[sR b, sI 0, sR a, sI 0, sI 2, sU, sU] []))
  refine Gl.go (fun _ hr => zXS_iconst X0.here hx rfl (hb hby d36_0) (zXS_istore X0.here hx rfl (hb hby d36_1) rfl (l' := #[sR b, sI 0, sR a, sI 0, sI 2, sI 0, sU]) rfl (zXS_iload X0.here hx rfl (hb hby d36_3) rfl (zXS_iload X0.here hx rfl (hb hby d36_5) rfl (zXS_icmpNo X0.here hx rfl (hb hby d36_7) rfl (XT.ii_ge_f (by decide)) (zXS_aloadN X0.here hx rfl (hb hby d36_10) rfl rfl (zXS_iloadN X0.here hx rfl (hb hby d36_11) rfl hr))))))) ?_
  obtain ⟨c63, a63, q63, s63, m63, H63, U63⟩ := id q0
  have i63 := inb_of s63 (j := (0 : Int32)) ⟨(by decide), (by decide)⟩
  refine g_caload Gl.cl X0 hx hZ e0 a63 i63 (v := (.int c0)) (H63.at i63 rfl) rfl rfl (hb hby d36_12) ?_
  refine Gl.go (fun _ hr => zXS_istore X0.here hx rfl (hb hby d36_13) rfl (l' := #[sR b, sI 0, sR a, sI 0, sI 2, sI 0, sI c0]) rfl (zXS_iload X0.here hx rfl (hb hby d36_15) rfl (zXS_sipush X0.here hx rfl (hb hby d36_17) hr))) ?_
  by_cases hc64 : (255 : Int32) < c0
  · refine Gl.go (fun _ hr => zXS_icmpNo X0.here hx rfl (hb hby d36_20) rfl (XT.ii_le_f hc64) (zXS_iload X0.here hx rfl (hb hby d36_23) rfl hr)) ?_
    obtain ⟨fs, hr, hrun, hended, hW, hsame⟩ := X0.leave (v := some (.int (0 : Int32))) (fun h => by rw [Bd.returns] at h; cases h)
    refine ⟨_, _, retOut X0 hx Bd.returns rfl (Or.inl ⟨rfl, Or.inl rfl, _, rfl⟩) (hb hby d36_25) hr, hrun, hended, _, _, rfl, ?_, ⟨⟨_, rfl⟩, hW, hsame.mono (by decide) (by decide)⟩⟩
    show Qcmq2 Z b ck a ka c0 c1 h0 n0 _ s₁.heap _
    rw [e0]
    exact ⟨0, [(.int (0 : Int32)), (.int (0 : Int32))], rfl, N0, (Keep.refl h0 [a]), q1, (Or.inr ⟨by decide, hc64⟩)⟩
  · refine Gl.go (fun _ hr => zXS_icmpYes X0.here hx rfl (pc0 := 20) (pc' := 26) rfl (hb hby d36_20) rfl (XT.ii_le_t hc64) (by decide) (by decide) (zXS_aloadN X0.here hx rfl (hb hby d36_26) rfl rfl (zXS_iloadN X0.here hx rfl (hb hby d36_27) rfl (zXS_iload X0.here hx rfl (hb hby d36_28) rfl (zXT_i2b X0.here hx rfl (hb hby d36_30) rfl hr))))) ?_
    show Gl p.tables e below _ (s₁.setTop (mkF m 31 #[sR b, sI 0, sR a, sI 0, sI 2, sI 0, sI c0] [(.int (c0.toInt8.toInt32)), (.int (0 : Int32)), (.ref a)]))
    show Gl p.tables e below _ (s₁.setTop (mkF m 31 #[sR b, sI 0, sR a, sI 0, sI 2, sI 0, sI c0] [(.int (StrChars.lo8 c0)), (.int (0 : Int32)), (.ref a)]))
    obtain ⟨c65, a65, q65, s65, m65, H65, U65⟩ := id q1
    refine gstB Gl.cl X0 hx hZ e0 a65 (j := (0 : Int32)) (inb_of s65 ⟨(by decide), (by decide)⟩) rfl rfl (hb hby d36_31) ?_
    intro T65 h65 X65 e65 W65
    have z66 : h0.size ≤ h65.size := (Keep.of_wr W65).1
    rw [(own_narb _)] at W65
    have V65 : Arv Z h65 a ka .byte (2 : Int32) [(.int (StrChars.lo8 c0)), (.int (0 : Int32))] (.int (0 : Int32)) := Arv.set a65 q65 s65 m65 H65 U65 (own_fitb _) W65 0 rfl (Nat.le_of_ble_eq_true rfl)
    have om67 : @LE.le Nat instLENat n0 a := by omega
    have N65 := Fr.snoc X65 N0 (own_ale om67)
    refine Gl.go (fun _ hr => zXS_iinc X65.here hx rfl (hb hby d36_32) rfl (l' := #[sR b, sI 1, sR a, sI 0, sI 2, sI 0, sI c0]) rfl (zXS_iinc X65.here hx rfl (hb hby d36_35) rfl (l' := #[sR b, sI 1, sR a, sI 1, sI 2, sI 0, sI c0]) rfl (zXS_iinc X65.here hx rfl (hb hby d36_38) rfl (l' := #[sR b, sI 1, sR a, sI 1, sI 2, sI 1, sI c0]) rfl (zXS_goto X65.here hx rfl (pc0 := 41) (pc' := 3) rfl (hb hby d36_41) (by decide) (by decide) (zXS_iload X65.here hx rfl (hb hby d36_3) rfl (zXS_iload X65.here hx rfl (hb hby d36_5) rfl (zXS_icmpNo X65.here hx rfl (hb hby d36_7) rfl (XT.ii_ge_f (by decide)) (zXS_aloadN X65.here hx rfl (hb hby d36_10) rfl rfl (zXS_iloadN X65.here hx rfl (hb hby d36_11) rfl hr))))))))) ?_
    have om68 : ¬ @Eq Nat b a := by omega
    have Vc69 := (q0.other W65 (own_ane om68))
    obtain ⟨c70, a70, q70, s70, m70, H70, U70⟩ := id Vc69
    have i70 := inb_of s70 (j := (1 : Int32)) ⟨(by decide), (by decide)⟩
    refine g_caload Gl.cl X65 hx hZ e65 a70 i70 (v := (.int c1)) (H70.at i70 rfl) rfl rfl (hb hby d36_12) ?_
    refine Gl.go (fun _ hr => zXS_istore X65.here hx rfl (hb hby d36_13) rfl (l' := #[sR b, sI 1, sR a, sI 1, sI 2, sI 1, sI c1]) rfl (zXS_iload X65.here hx rfl (hb hby d36_15) rfl (zXS_sipush X65.here hx rfl (hb hby d36_17) hr))) ?_
    by_cases hc71 : (255 : Int32) < c1
    · refine Gl.go (fun _ hr => zXS_icmpNo X65.here hx rfl (hb hby d36_20) rfl (XT.ii_le_f hc71) (zXS_iload X65.here hx rfl (hb hby d36_23) rfl hr)) ?_
      obtain ⟨fs, hr, hrun, hended, hW, hsame⟩ := X65.leave (v := some (.int (1 : Int32))) (fun h => by rw [Bd.returns] at h; cases h)
      refine ⟨_, _, retOut X65 hx Bd.returns rfl (Or.inl ⟨rfl, Or.inl rfl, _, rfl⟩) (hb hby d36_25) hr, hrun, hended, _, _, rfl, ?_, ⟨⟨_, rfl⟩, hW, hsame.mono (by decide) (by decide)⟩⟩
      show Qcmq2 Z b ck a ka c0 c1 h0 n0 _ T65.heap _
      rw [e65]
      exact ⟨1, [(.int (StrChars.lo8 c0)), (.int (0 : Int32))], rfl, N65, ((Keep.refl h0 [a]).wr W65 (Or.inl (by simp))), V65, (Or.inr ⟨by decide, hc71⟩)⟩
    · refine Gl.go (fun _ hr => zXS_icmpYes X65.here hx rfl (pc0 := 20) (pc' := 26) rfl (hb hby d36_20) rfl (XT.ii_le_t hc71) (by decide) (by decide) (zXS_aloadN X65.here hx rfl (hb hby d36_26) rfl rfl (zXS_iloadN X65.here hx rfl (hb hby d36_27) rfl (zXS_iload X65.here hx rfl (hb hby d36_28) rfl (zXT_i2b X65.here hx rfl (hb hby d36_30) rfl hr))))) ?_
      show Gl p.tables e below _ (T65.setTop (mkF m 31 #[sR b, sI 1, sR a, sI 1, sI 2, sI 1, sI c1] [(.int (c1.toInt8.toInt32)), (.int (1 : Int32)), (.ref a)]))
      show Gl p.tables e below _ (T65.setTop (mkF m 31 #[sR b, sI 1, sR a, sI 1, sI 2, sI 1, sI c1] [(.int (StrChars.lo8 c1)), (.int (1 : Int32)), (.ref a)]))
      obtain ⟨c72, a72, q72, s72, m72, H72, U72⟩ := id V65
      refine gstB Gl.cl X65 hx hZ e65 a72 (j := (1 : Int32)) (inb_of s72 ⟨(by decide), (by decide)⟩) rfl rfl (hb hby d36_31) ?_
      intro T72 h72 X72 e72 W72
      have z73 : h65.size ≤ h72.size := (Keep.of_wr W72).1
      rw [(own_narb _)] at W72
      have V72 : Arv Z h72 a ka .byte (2 : Int32) [(.int (StrChars.lo8 c0)), (.int (StrChars.lo8 c1))] (.int (0 : Int32)) := Arv.set a72 q72 s72 m72 H72 U72 (own_fitb _) W72 1 rfl (Nat.le_of_ble_eq_true rfl)
      have N72 := Fr.snoc X72 N65 (own_ale om67)
      refine Gl.go (fun _ hr => zXS_iinc X72.here hx rfl (hb hby d36_32) rfl (l' := #[sR b, sI 2, sR a, sI 1, sI 2, sI 1, sI c1]) rfl (zXS_iinc X72.here hx rfl (hb hby d36_35) rfl (l' := #[sR b, sI 2, sR a, sI 2, sI 2, sI 1, sI c1]) rfl (zXS_iinc X72.here hx rfl (hb hby d36_38) rfl (l' := #[sR b, sI 2, sR a, sI 2, sI 2, sI 2, sI c1]) rfl (zXS_goto X72.here hx rfl (pc0 := 41) (pc' := 3) rfl (hb hby d36_41) (by decide) (by decide) (zXS_iload X72.here hx rfl (hb hby d36_3) rfl (zXS_iload X72.here hx rfl (hb hby d36_5) rfl (zXS_icmpYes X72.here hx rfl (pc0 := 7) (pc' := 44) rfl (hb hby d36_7) rfl (XT.ii_ge_t (by decide)) (by decide) (by decide) (zXS_iload X72.here hx rfl (hb hby d36_44) rfl hr)))))))) ?_
      obtain ⟨fs, hr, hrun, hended, hW, hsame⟩ := X72.leave (v := some (.int (2 : Int32))) (fun h => by rw [Bd.returns] at h; cases h)
      refine ⟨_, _, retOut X72 hx Bd.returns rfl (Or.inl ⟨rfl, Or.inl rfl, _, rfl⟩) (hb hby d36_46) hr, hrun, hended, _, _, rfl, ?_, ⟨⟨_, rfl⟩, hW, hsame.mono (by decide) (by decide)⟩⟩
      show Qcmq2 Z b ck a ka c0 c1 h0 n0 _ T72.heap _
      rw [e72]
      exact ⟨2, [(.int (StrChars.lo8 c0)), (.int (StrChars.lo8 c1))], rfl, N72, (((Keep.refl h0 [a]).wr W65 (Or.inl (by simp))).wr W72 (Or.inl (by simp))), V72, (Or.inl ⟨rfl, rfl, (own_cS (P := fun c => ¬ (255 : Int32) < c) hc64 (own_cS (P := fun c => ¬ (255 : Int32) < c) hc71 own_c0))⟩)⟩
def QtobL (Z : State) (b : Addr) (ck : ClassId) (cs : List Int32) (h0 : Heap) (n0 : Nat) (v : Option Value) (h : Heap) (L : List Loc) : Prop := ∃ (r : Addr), ∃ (kr : ClassId), v = some (.ref r) ∧ Fr n0 L ∧ Keep h0 h [] ∧ (Arv Z h r kr .byte (Int32.ofNat (2 * cs.length)) (StrChars.Road.wideBytes cs) (.int (0 : Int32))) ∧ (@LE.le Nat instLENat h0.size r)
set_option maxRecDepth 65536 in
set_option maxHeartbeats 40000000 in
theorem tobL (l : Launch) (Z : State) (a0 : Array Value) (hw : ∀ d ∈ tables_1, d.before a0 Z = true) (ws : List Jvm.Cond) (b : Addr) (ck : ClassId) (cs : List Int32) (h0 : Heap) (n0 : Nat) (Z0 : n0 ≤ h0.size) (q0 : (Old Z Z.heap.size h0 ∧ @LE.le Nat instLENat Z.heap.size n0)) (q1 : Sta Z Z.heap "java/lang/StringUTF16" "$assertionsDisabled" "Z" (.int (1 : Int32))) (q2 : Sta Z Z.heap "java/lang/StringUTF16" "HI_BYTE_SHIFT" "I" (.int (0 : Int32))) (q3 : Sta Z Z.heap "java/lang/StringUTF16" "LO_BYTE_SHIFT" "I" (.int (8 : Int32))) (q4 : Arv Z h0 b ck .char (Int32.ofNat cs.length) (cs.map Value.int) (.int (0 : Int32))) (h1 : 0 < cs.length) (h4 : cs.length ≤ 2) :
    MetFree l y_4 (head1 (Jvm.Cond.code y_4 jdk_52_method_14_code 5 (some (.array .byte)) :: ws) r_m2) (fun a_ U_ => a_ = #[(.ref b), (.int (0 : Int32)), (.int (Int32.ofNat cs.length))] ∧ Z.Warmed39 U_.vm ∧ U_.heap = h0) (fun _ _ _ _ _ => True) (fun _ U_ o_ V_ => ∃ v_ L_, o_ = .returned v_ ∧ QtobL Z b ck cs h0 n0 v_ V_.heap L_ ∧ FrameEnd U_ o_ V_ L_ r_m2.cells r_m2.slots) := by
  rcases own_upto h1 h4 with ⟨c0, rfl⟩ | ⟨c0, c1, rfl⟩
  · exact tob1 l Z a0 hw ws b ck c0 h0 n0 Z0 q0 q1 q2 q3 q4
  · exact tob2 l Z a0 hw ws b ck c0 c1 h0 n0 Z0 q0 q1 q2 q3 q4
def QcmqL (Z : State) (b : Addr) (ck : ClassId) (a : Addr) (ka : ClassId) (cs : List Int32) (h0 : Heap) (n0 : Nat) (v : Option Value) (h : Heap) (L : List Loc) : Prop := ∃ (r : Nat), ∃ (ys : List Value), v = some (.int (Int32.ofNat r)) ∧ Fr n0 L ∧ Keep h0 h [a] ∧ (Arv Z h a ka .byte (Int32.ofNat cs.length) ys (.int (0 : Int32))) ∧ ((r = cs.length ∧ ys = (cs.map fun c => Value.int (StrChars.lo8 c)) ∧ ∀ c ∈ cs, ¬ (255 : Int32) < c) ∨ (r < cs.length ∧ (255 : Int32) < cs.getD r 0))
set_option maxRecDepth 65536 in
set_option maxHeartbeats 40000000 in
theorem cmqL (l : Launch) (Z : State) (a0 : Array Value) (hw : ∀ d ∈ tables_1, d.before a0 Z = true) (ws : List Jvm.Cond) (b : Addr) (ck : ClassId) (a : Addr) (ka : ClassId) (cs : List Int32) (h0 : Heap) (n0 : Nat) (Z0 : n0 ≤ h0.size) (q0 : Arv Z h0 b ck .char (Int32.ofNat cs.length) (cs.map Value.int) (.int (0 : Int32))) (q1 : Arv Z h0 a ka .byte (Int32.ofNat cs.length) ([]) (.int (0 : Int32))) (q2 : @LE.le Nat instLENat n0 a) (q3 : ¬ @Eq Nat a b) (h1 : 0 < cs.length) (h4 : cs.length ≤ 2) :
    MetFree l y_5 (head1 (Jvm.Cond.code y_5 jdk_52_method_21_code 7 (some .int) :: ws) r_m0) (fun a_ U_ => a_ = #[(.ref b), (.int (0 : Int32)), (.ref a), (.int (0 : Int32)), (.int (Int32.ofNat cs.length))] ∧ Z.Warmed39 U_.vm ∧ U_.heap = h0) (fun _ _ _ _ _ => True) (fun _ U_ o_ V_ => ∃ v_ L_, o_ = .returned v_ ∧ QcmqL Z b ck a ka cs h0 n0 v_ V_.heap L_ ∧ FrameEnd U_ o_ V_ L_ r_m0.cells r_m0.slots) := by
  rcases own_upto h1 h4 with ⟨c0, rfl⟩ | ⟨c0, c1, rfl⟩
  · exact cmq1 l Z a0 hw ws b ck a ka c0 h0 n0 Z0 q0 (q1.pad (pad_rep [] (.int (0 : Int32)) 1)) q2 q3
  · exact cmq2 l Z a0 hw ws b ck a ka c0 c1 h0 n0 Z0 q0 (q1.pad (pad_rep [] (.int (0 : Int32)) 2)) q2 q3
def QcmpL (Z : State) (b : Addr) (ck : ClassId) (cs : List Int32) (h0 : Heap) (n0 : Nat) (v : Option Value) (h : Heap) (L : List Loc) : Prop := ∃ (r : Addr), ∃ (kr : ClassId), ∃ (cd : Int32), ∃ (N2 : Int32), ∃ (vs : List Value), v = some (.ref r) ∧ Fr n0 L ∧ Keep h0 h [] ∧ (Arv Z h r kr .byte N2 vs (.int (0 : Int32))) ∧ (@LE.le Nat instLENat h0.size r) ∧ (StrChars.Road.CodA cs cd N2 vs)
theorem ef_cmpL (m : MethodId) (x0 : Addr) (x1 : Int32) (x2 : Int32) : entryFrame m #[(.ref x0), (.int x1), (.int x2)] 6 = mkF m 0 #[sR x0, sI x1, sI x2, sU, sU, sU] [] := by first | (simp [entryFrame, mkF, argsToLocals, Value.category]; done) | rfl
theorem d35_0 : decode jdk_52_method_16_code 0 = .ok (.iload_n 2, 1) := by decide +kernel
theorem d35_1 : decode jdk_52_method_16_code 1 = .ok (.newarray .byte, 2) := by decide +kernel
theorem d35_3 : decode jdk_52_method_16_code 3 = .ok (.astore_n 3, 1) := by decide +kernel
theorem d35_4 : decode jdk_52_method_16_code 4 = .ok (.aload_n 0, 1) := by decide +kernel
theorem d35_5 : decode jdk_52_method_16_code 5 = .ok (.iload_n 1, 1) := by decide +kernel
theorem d35_6 : decode jdk_52_method_16_code 6 = .ok (.aload_n 3, 1) := by decide +kernel
theorem d35_7 : decode jdk_52_method_16_code 7 = .ok (.iconst 0, 1) := by decide +kernel
theorem d35_8 : decode jdk_52_method_16_code 8 = .ok (.iload_n 2, 1) := by decide +kernel
theorem d35_9 : decode jdk_52_method_16_code 9 = .ok (.invokestatic 115, 3) := by decide +kernel
theorem pd_3 : parseMethodDescriptor "([CI[BII)I" = some ⟨[(.array .char), .int, (.array .byte), .int, .int], some .int⟩ := by decide +kernel
theorem d35_12 : decode jdk_52_method_16_code 12 = .ok (.istore 4, 2) := by decide +kernel
theorem d35_14 : decode jdk_52_method_16_code 14 = .ok (.iload 4, 2) := by decide +kernel
theorem d35_16 : decode jdk_52_method_16_code 16 = .ok (.iload_n 2, 1) := by decide +kernel
theorem d35_17 : decode jdk_52_method_16_code 17 = .ok (.if_icmp .eq 40, 3) := by decide +kernel
theorem d35_57 : decode jdk_52_method_16_code 57 = .ok (.aload_n 3, 1) := by decide +kernel
theorem d35_58 : decode jdk_52_method_16_code 58 = .ok (.areturn, 1) := by decide +kernel
theorem d35_20 : decode jdk_52_method_16_code 20 = .ok (.aload_n 0, 1) := by decide +kernel
theorem d35_21 : decode jdk_52_method_16_code 21 = .ok (.iload_n 1, 1) := by decide +kernel
theorem d35_22 : decode jdk_52_method_16_code 22 = .ok (.iload_n 2, 1) := by decide +kernel
theorem d35_23 : decode jdk_52_method_16_code 23 = .ok (.invokestatic 119, 3) := by decide +kernel
theorem pd_4 : parseMethodDescriptor "([CII)[B" = some ⟨[(.array .char), .int, .int], some (.array .byte)⟩ := by decide +kernel
theorem d35_26 : decode jdk_52_method_16_code 26 = .ok (.astore 5, 2) := by decide +kernel
theorem d35_28 : decode jdk_52_method_16_code 28 = .ok (.aload 5, 2) := by decide +kernel
theorem d35_30 : decode jdk_52_method_16_code 30 = .ok (.iload 4, 2) := by decide +kernel
theorem d35_32 : decode jdk_52_method_16_code 32 = .ok (.invokestatic 71, 3) := by decide +kernel
theorem pd_5 : parseMethodDescriptor "([BI)C" = some ⟨[(.array .byte), .int], some .char⟩ := by decide +kernel
theorem d35_35 : decode jdk_52_method_16_code 35 = .ok (.sipush 255, 3) := by decide +kernel
theorem d35_38 : decode jdk_52_method_16_code 38 = .ok (.if_icmp .gt 16, 3) := by decide +kernel
theorem d35_54 : decode jdk_52_method_16_code 54 = .ok (.aload 5, 2) := by decide +kernel
theorem d35_56 : decode jdk_52_method_16_code 56 = .ok (.areturn, 1) := by decide +kernel
set_option maxRecDepth 65536 in
set_option maxHeartbeats 40000000 in
theorem cmpL (l : Launch) (Z : State) (a0 : Array Value) (hw : ∀ d ∈ tables_1, d.before a0 Z = true) (ws : List Jvm.Cond) (b : Addr) (ck : ClassId) (cs : List Int32) (h0 : Heap) (n0 : Nat) (Z0 : n0 ≤ h0.size) (q0 : (Old Z Z.heap.size h0 ∧ @LE.le Nat instLENat Z.heap.size n0)) (q1 : Sta Z Z.heap "java/lang/StringUTF16" "$assertionsDisabled" "Z" (.int (1 : Int32))) (q2 : Sta Z Z.heap "java/lang/StringUTF16" "HI_BYTE_SHIFT" "I" (.int (0 : Int32))) (q3 : Sta Z Z.heap "java/lang/StringUTF16" "LO_BYTE_SHIFT" "I" (.int (8 : Int32))) (q4 : Arv Z h0 b ck .char (Int32.ofNat cs.length) (cs.map Value.int) (.int (0 : Int32))) (hbd : ∀ c ∈ cs, Wid c) (h1 : 0 < cs.length) (h4 : cs.length ≤ 2) :
    MetFree l y_6 (head1 (Jvm.Cond.code y_6 jdk_52_method_16_code 6 (some (.array .byte)) :: ws) r_m3) (fun a_ U_ => a_ = #[(.ref b), (.int (0 : Int32)), (.int (Int32.ofNat cs.length))] ∧ Z.Warmed39 U_.vm ∧ U_.heap = h0) (fun _ _ _ _ _ => True) (fun _ U_ o_ V_ => ∃ v_ L_, o_ = .returned v_ ∧ QcmpL Z b ck cs h0 n0 v_ V_.heap L_ ∧ FrameEnd U_ o_ V_ L_ r_m3.cells r_m3.slots) := by
  refine MetFree.of_bodySF (plainFor_of_name pn_0) hisR ?_
  intro p e s m args below meth c s₁ Bd hml0 hP hK
  obtain ⟨rfl, hZ, hh⟩ := hP
  have hx := Bd.exec
  have hby := Bd.bytes
  have hml : c.maxLocals = 6 := hml0
  have hown : s.vm.findClass "java/lang/StringUTF16" = some m.cls := findClass_of_methodNamed Bd.named
  have hnm := (name_of_methodNamed Bd.named Bd.method).1
  have X0 : Stand p l e r_m3 s m #[(.ref b), (.int (0 : Int32)), (.int (Int32.ofNat cs.length))] below meth c s₁ [] 0 0 := Stand.of_body Bd
  have e0 : s₁.heap = h0 := by rw [← hh, Bd.state]; rfl
  have N0 := Fr.nil n0
  have Oo := q0.1
  have zo := q0.2
  have lt74 := own_alt q4.lt
  refine Gl.go (A := s₁.setTop (entryFrame m #[(.ref b), (.int (0 : Int32)), (.int (Int32.ofNat cs.length))] 6)) (P := fun o_ U_ => ∃ v_ L_, o_ = .returned v_ ∧ QcmpL Z b ck cs h0 n0 v_ U_.heap L_ ∧ FrameEnd s o_ U_ L_ r_m3.cells r_m3.slots) (fun t_ k_ => castTop (ef_cmpL m b (0 : Int32) (Int32.ofNat cs.length)) k_) ?_
  show Gl p.tables e below _ (s₁.setTop (mkF m 0 #[sR b, sI 0, sI (Int32.ofNat cs.length), sU, sU, sU] []))
  refine Gl.go (fun _ hr => zXS_iloadN X0.here hx rfl (hb hby d35_0) rfl hr) ?_
  refine gNewP Gl.cl X0 hx hZ (tw hw 20 rfl) e0 rfl (hb hby d35_1) rfl (own_nn (by omega)) (cap := 2) (by rw [own_nat32 (by omega)]; omega) (by decide) (by decide) (by decide) ?_
  intro T75 h75 b75 k75 g75 X75 e75 E75 A75
  have z76 : h0.size ≤ h75.size := E75.1
  have lt75 := own_alt A75.lt
  have V75 : Arv Z h75 b75 k75 .byte (Int32.ofNat cs.length) [] (.int (0 : Int32)) := (Arv.new A75 (own_nn (by omega))).pad (pad_rep [] (.int (0 : Int32)) 0)
  refine Gl.go (fun _ hr => zXS_astoreN X75.here hx rfl (hb hby d35_3) rfl rfl (l' := #[sR b, sI 0, sI (Int32.ofNat cs.length), sR b75, sU, sU]) rfl (zXS_aloadN X75.here hx rfl (hb hby d35_4) rfl rfl (zXS_iloadN X75.here hx rfl (hb hby d35_5) rfl (zXS_aloadN X75.here hx rfl (hb hby d35_6) rfl rfl (zXS_iconst X75.here hx rfl (hb hby d35_7) (zXS_iloadN X75.here hx rfl (hb hby d35_8) rfl hr)))))) ?_
  have Vc78 := (q4.ext E75)
  have zz77 : n0 ≤ h75.size := by omega
  refine gStaticN Gl.cl (y := y_5) (argsL := [(.ref b), (.int (0 : Int32)), (.ref b75), (.int (0 : Int32)), (.int (Int32.ofNat cs.length))]) (rest := []) (mc := 0) (ms := 0) X75 hx hZ hown (mvT hZ (tw hw 190 rfl)) (mvT hZ (tw hw 191 rfl)) (mvT hZ (tw hw 188 rfl)) (mvT hZ (tw hw 192 rfl)) (by decide) (backOf (W := 0) (cmqL l Z a0 hw [] b ck b75 k75 cs h75 n0 zz77 Vc78 V75 (by omega) (by omega) (by assumption) (by assumption)) hZ (tw hw 192 rfl) (tw hw 188 rfl) (by decide) (by decide)) rfl (by rw [hml]; rfl) (lenOf pd_3 rfl) rfl (by exact Nat.le_of_eq rfl) (hb hby d35_9) rfl e75 (by decide) (by decide) ?_
  intro v77 T77 Lc77 hQ77 X77
  obtain ⟨r_77, ys_77, rfl, Nq77, K77, f77_0, p77_res⟩ := hQ77
  have z79 : h75.size ≤ T77.heap.size := K77.1
  have N77 := Fr.app N0 Nq77
  have lt80 := own_alt f77_0.lt
  refine Gl.go (fun _ hr => zXS_istore X77.here hx rfl (hb hby d35_12) rfl (l' := #[sR b, sI 0, sI (Int32.ofNat cs.length), sR b75, sI (Int32.ofNat r_77), sU]) rfl hr) ?_
  show Gl p.tables e below _ (T77.setTop (mkF m 14 #[sR b, sI 0, sI (Int32.ofNat cs.length), sR b75, sI (Int32.ofNat r_77), sU] []))
  rcases p77_res with ⟨rfl, rfl, hl⟩ | ⟨hrl, h255⟩
  · show Gl p.tables e below _ (T77.setTop (mkF m 14 #[sR b, sI 0, sI (Int32.ofNat cs.length), sR b75, sI (Int32.ofNat cs.length), sU] []))
    refine Gl.go (fun _ hr => zXS_iload X77.here hx rfl (hb hby d35_14) rfl (zXS_iloadN X77.here hx rfl (hb hby d35_16) rfl hr)) ?_
    refine Gl.go (fun _ hr => zXS_icmpYes X77.here hx rfl (pc0 := 17) (pc' := 57) rfl (hb hby d35_17) rfl (XT.ii_eq_t rfl) (by decide) (by decide) (zXS_aloadN X77.here hx rfl (hb hby d35_57) rfl rfl hr)) ?_
    obtain ⟨fs, hr, hrun, hended, hW, hsame⟩ := X77.leave (v := some (.ref b75)) (fun h => by rw [Bd.returns] at h; cases h)
    have om81 : @LE.le Nat instLENat h0.size b75 := by omega
    refine ⟨_, _, retOut X77 hx Bd.returns rfl (Or.inr (Or.inr (Or.inr (Or.inr ⟨rfl, rfl, rfl⟩)))) (hb hby d35_58) hr, hrun, hended, _, _, rfl, ?_, ⟨⟨_, rfl⟩, hW, hsame.mono (by decide) (by decide)⟩⟩
    show QcmpL Z b ck cs h0 n0 _ T77.heap _
    exact ⟨b75, k75, 0, (Int32.ofNat cs.length), (cs.map fun c => Value.int (StrChars.lo8 c)), rfl, N77, (((Keep.refl h0 []).ext E75).trans K77 (allS (P := fun x_ => x_ ∈ ([] : List Addr) ∨ h0.size ≤ x_) (Or.inr (own_ale om81)) all0)), f77_0, (by omega), (Or.inl ⟨rfl, rfl, rfl, hl⟩)⟩
  · show Gl p.tables e below _ (T77.setTop (mkF m 14 #[sR b, sI 0, sI (Int32.ofNat cs.length), sR b75, sI (Int32.ofNat r_77), sU] []))
    refine Gl.go (fun _ hr => zXS_iload X77.here hx rfl (hb hby d35_14) rfl (zXS_iloadN X77.here hx rfl (hb hby d35_16) rfl hr)) ?_
    refine Gl.go (fun _ hr => zXS_icmpNo X77.here hx rfl (hb hby d35_17) rfl (XT.ii_eq_f (own_ne32 (b := cs.length) (by omega) (by omega) (by omega))) (zXS_aloadN X77.here hx rfl (hb hby d35_20) rfl rfl (zXS_iloadN X77.here hx rfl (hb hby d35_21) rfl (zXS_iloadN X77.here hx rfl (hb hby d35_22) rfl hr)))) ?_
    have om83 : @LE.le Nat instLENat Z.heap.size b75 := by omega
    have Oc84 := ((Oo.ext E75).keep K77 (allS (own_ale om83) all0))
    have om85 : ¬ @Eq Nat b b75 := by omega
    have Vc86 := (Vc78.keep K77 (ninS (own_ane om85) nin0))
    have zz82 : n0 ≤ T77.heap.size := by omega
    refine gStaticN Gl.cl (y := y_4) (argsL := [(.ref b), (.int (0 : Int32)), (.int (Int32.ofNat cs.length))]) (rest := []) (mc := 1) (ms := 4) X77 hx hZ hown (mvT hZ (tw hw 258 rfl)) (mvT hZ (tw hw 259 rfl)) (mvT hZ (tw hw 188 rfl)) (mvT hZ (tw hw 260 rfl)) (by decide) (backOf (W := 0) (tobL l Z a0 hw [] b ck cs T77.heap n0 zz82 ⟨Oc84, (by omega)⟩ q1 q2 q3 Vc86 (by assumption) (by assumption)) hZ (tw hw 260 rfl) (tw hw 188 rfl) (by decide) (by decide)) rfl (by rw [hml]; rfl) (lenOf pd_4 rfl) rfl (by exact Nat.le_of_eq rfl) (hb hby d35_23) rfl (rfl : T77.heap = T77.heap) (by decide) (by decide) ?_
    intro v82 T82 Lc82 hQ82 X82
    obtain ⟨r_82, kr_82, rfl, Nq82, K82, f82_0, f82_1⟩ := hQ82
    have z87 : T77.heap.size ≤ T82.heap.size := K82.1
    have N82 := Fr.app N77 Nq82
    have lt88 := own_alt f82_0.lt
    refine Gl.go (fun _ hr => zXS_astore X82.here hx rfl (hb hby d35_26) rfl rfl (l' := #[sR b, sI 0, sI (Int32.ofNat cs.length), sR b75, sI (Int32.ofNat r_77), sR r_82]) rfl (zXS_aload X82.here hx rfl (hb hby d35_28) rfl rfl (zXS_iload X82.here hx rfl (hb hby d35_30) rfl hr))) ?_
    have Oc90 := (Oc84.keep K82 all0)
    have zz89 : n0 ≤ T82.heap.size := by omega
    refine gStaticN Gl.cl (y := y_1) (argsL := [(.ref r_82), (.int (Int32.ofNat r_77))]) (rest := []) (mc := 0) (ms := 0) X82 hx hZ hown (mvT hZ (tw hw 255 rfl)) (mvT hZ (tw hw 256 rfl)) (mvT hZ (tw hw 188 rfl)) (mvT hZ (tw hw 257 rfl)) (by decide) (backOf (W := 0) (gtc l Z a0 hw [] r_82 kr_82 cs r_77 T82.heap n0 zz89 ⟨Oc90, (by omega)⟩ q1 q2 q3 f82_0 hrl (by omega) hbd) hZ (tw hw 257 rfl) (tw hw 188 rfl) (by decide) (by decide)) rfl (by rw [hml]; rfl) (lenOf pd_5 rfl) rfl (by exact Nat.le_of_eq rfl) (hb hby d35_32) rfl (rfl : T82.heap = T82.heap) (by decide) (by decide) ?_
    intro v89 T89 Lc89 hQ89 X89
    obtain ⟨rfl, Nq89, e89⟩ := hQ89
    have N89 := Fr.app N82 Nq89
    refine Gl.go (fun _ hr => zXS_sipush X89.here hx rfl (hb hby d35_35) hr) ?_
    refine Gl.go (fun _ hr => zXS_icmpYes X89.here hx rfl (pc0 := 38) (pc' := 54) rfl (hb hby d35_38) rfl (XT.ii_gt_t h255) (by decide) (by decide) (zXS_aload X89.here hx rfl (hb hby d35_54) rfl rfl hr)) ?_
    obtain ⟨fs, hr, hrun, hended, hW, hsame⟩ := X89.leave (v := some (.ref r_82)) (fun h => by rw [Bd.returns] at h; cases h)
    have om91 : @LE.le Nat instLENat h0.size b75 := by omega
    refine ⟨_, _, retOut X89 hx Bd.returns rfl (Or.inr (Or.inr (Or.inr (Or.inr ⟨rfl, rfl, rfl⟩)))) (hb hby d35_56) hr, hrun, hended, _, _, rfl, ?_, ⟨⟨_, rfl⟩, hW, hsame.mono (by decide) (by decide)⟩⟩
    show QcmpL Z b ck cs h0 n0 _ T89.heap _
    rw [e89]
    exact ⟨r_82, kr_82, 1, (Int32.ofNat (2 * cs.length)), (StrChars.Road.wideBytes cs), rfl, N89, ((((Keep.refl h0 []).ext E75).trans K77 (allS (P := fun x_ => x_ ∈ ([] : List Addr) ∨ h0.size ≤ x_) (Or.inr (own_ale om91)) all0)).trans K82 all0), f82_0, (by omega), (Or.inr ⟨rfl, rfl, rfl, _, own_getD_mem hrl, h255⟩)⟩
def Qcfl0 (Z : State) (a : Addr) (ka : ClassId) (vs : List Value) (n : Nat) (h0 : Heap) (n0 : Nat) (v : Option Value) (h : Heap) (L : List Loc) : Prop := v = some (.int (0 : Int32)) ∧ Fr n0 L ∧ h = h0
theorem ef_cfl0 (m : MethodId) (x0 : Addr) (x1 : Int32) : entryFrame m #[(.ref x0), (.int x1)] 2 = mkF m 0 #[sR x0, sI x1] [] := by first | (simp [entryFrame, mkF, argsToLocals, Value.category]; done) | rfl
theorem d37_0 : decode jdk_52_method_15_code 0 = .ok (.iload_n 1, 1) := by decide +kernel
theorem d37_1 : decode jdk_52_method_15_code 1 = .ok (.aload_n 0, 1) := by decide +kernel
theorem d37_2 : decode jdk_52_method_15_code 2 = .ok (.arraylength, 1) := by decide +kernel
theorem d37_3 : decode jdk_52_method_15_code 3 = .ok (.isub, 1) := by decide +kernel
theorem d37_4 : decode jdk_52_method_15_code 4 = .ok (.bipush 31, 2) := by decide +kernel
theorem d37_6 : decode jdk_52_method_15_code 6 = .ok (.iushr, 1) := by decide +kernel
theorem d37_7 : decode jdk_52_method_15_code 7 = .ok (.i2b, 1) := by decide +kernel
theorem d37_8 : decode jdk_52_method_15_code 8 = .ok (.ireturn, 1) := by decide +kernel
set_option maxRecDepth 65536 in
set_option maxHeartbeats 40000000 in
theorem cfl0 (l : Launch) (Z : State) (a0 : Array Value) (hw : ∀ d ∈ tables_1, d.before a0 Z = true) (ws : List Jvm.Cond) (a : Addr) (ka : ClassId) (vs : List Value) (n : Nat) (h0 : Heap) (n0 : Nat) (Z0 : n0 ≤ h0.size) (q0 : Arv Z h0 a ka .byte (Int32.ofNat n) vs (.int (0 : Int32))) (h1 : 0 < n) (h4 : n ≤ 4) :
    MetFree l y_7 (head1 (Jvm.Cond.code y_7 jdk_52_method_15_code 2 (some .byte) :: ws) r_m0) (fun a_ U_ => a_ = #[(.ref a), (.int (Int32.ofNat n))] ∧ Z.Warmed39 U_.vm ∧ U_.heap = h0) (fun _ _ _ _ _ => True) (fun _ U_ o_ V_ => ∃ v_ L_, o_ = .returned v_ ∧ Qcfl0 Z a ka vs n h0 n0 v_ V_.heap L_ ∧ FrameEnd U_ o_ V_ L_ r_m0.cells r_m0.slots) := by
  refine MetFree.of_bodySF (plainFor_of_name pn_0) hisR ?_
  intro p e s m args below meth c s₁ Bd hml0 hP hK
  obtain ⟨rfl, hZ, hh⟩ := hP
  have hx := Bd.exec
  have hby := Bd.bytes
  have hml : c.maxLocals = 2 := hml0
  have hown : s.vm.findClass "java/lang/StringUTF16" = some m.cls := findClass_of_methodNamed Bd.named
  have hnm := (name_of_methodNamed Bd.named Bd.method).1
  have X0 : Stand p l e r_m0 s m #[(.ref a), (.int (Int32.ofNat n))] below meth c s₁ [] 0 0 := Stand.of_body Bd
  have e0 : s₁.heap = h0 := by rw [← hh, Bd.state]; rfl
  have N0 := Fr.nil n0
  have lt92 := own_alt q0.lt
  refine Gl.go (A := s₁.setTop (entryFrame m #[(.ref a), (.int (Int32.ofNat n))] 2)) (P := fun o_ U_ => ∃ v_ L_, o_ = .returned v_ ∧ Qcfl0 Z a ka vs n h0 n0 v_ U_.heap L_ ∧ FrameEnd s o_ U_ L_ r_m0.cells r_m0.slots) (fun t_ k_ => castTop (ef_cfl0 m a (Int32.ofNat n)) k_) ?_
  show Gl p.tables e below _ (s₁.setTop (mkF m 0 #[sR a, sI (Int32.ofNat n)] []))
  refine Gl.go (fun _ hr => zXS_iloadN X0.here hx rfl (hb hby d37_0) rfl (zXS_aloadN X0.here hx rfl (hb hby d37_1) rfl rfl hr)) ?_
  obtain ⟨c93, a93, q93, s93, m93, H93, U93⟩ := id q0
  refine gLen Gl.cl X0 hx hZ e0 a93 s93 m93 rfl rfl (hb hby d37_2) ?_
  refine Gl.go (fun _ hr => zXS_isub X0.here hx rfl (hb hby d37_3) rfl (zXS_bipush X0.here hx rfl (hb hby d37_4) (zXT_iushr X0.here hx rfl (hb hby d37_6) rfl (zXT_i2b X0.here hx rfl (hb hby d37_7) rfl hr)))) ?_
  obtain ⟨fs, hr, hrun, hended, hW, hsame⟩ := X0.leave (v := some (.int (nar .byte ((XT.ushr ((Int32.ofNat n) - (Int32.ofNat n)) (31 : Int32)).toInt8.toInt32)))) (fun h => by rw [Bd.returns] at h; cases h)
  refine ⟨_, _, retN X0 hx (t := .byte) Bd.returns (by simp) (hb hby d37_8) hr, hrun, hended, _, _, rfl, ?_, ⟨⟨_, rfl⟩, hW, hsame.mono (by decide) (by decide)⟩⟩
  show Qcfl0 Z a ka vs n h0 n0 _ s₁.heap _
  rw [e0]
  exact ⟨(own_some (own_cfl0 h4)), N0, rfl⟩
def Qcfl1 (Z : State) (a : Addr) (ka : ClassId) (vs : List Value) (n : Nat) (h0 : Heap) (n0 : Nat) (v : Option Value) (h : Heap) (L : List Loc) : Prop := v = some (.int (1 : Int32)) ∧ Fr n0 L ∧ h = h0
theorem ef_cfl1 (m : MethodId) (x0 : Addr) (x1 : Int32) : entryFrame m #[(.ref x0), (.int x1)] 2 = mkF m 0 #[sR x0, sI x1] [] := by first | (simp [entryFrame, mkF, argsToLocals, Value.category]; done) | rfl
set_option maxRecDepth 65536 in
set_option maxHeartbeats 40000000 in
theorem cfl1 (l : Launch) (Z : State) (a0 : Array Value) (hw : ∀ d ∈ tables_1, d.before a0 Z = true) (ws : List Jvm.Cond) (a : Addr) (ka : ClassId) (vs : List Value) (n : Nat) (h0 : Heap) (n0 : Nat) (Z0 : n0 ≤ h0.size) (q0 : Arv Z h0 a ka .byte (Int32.ofNat (2 * n)) vs (.int (0 : Int32))) (h1 : 0 < n) (h4 : n ≤ 4) :
    MetFree l y_7 (head1 (Jvm.Cond.code y_7 jdk_52_method_15_code 2 (some .byte) :: ws) r_m0) (fun a_ U_ => a_ = #[(.ref a), (.int (Int32.ofNat n))] ∧ Z.Warmed39 U_.vm ∧ U_.heap = h0) (fun _ _ _ _ _ => True) (fun _ U_ o_ V_ => ∃ v_ L_, o_ = .returned v_ ∧ Qcfl1 Z a ka vs n h0 n0 v_ V_.heap L_ ∧ FrameEnd U_ o_ V_ L_ r_m0.cells r_m0.slots) := by
  refine MetFree.of_bodySF (plainFor_of_name pn_0) hisR ?_
  intro p e s m args below meth c s₁ Bd hml0 hP hK
  obtain ⟨rfl, hZ, hh⟩ := hP
  have hx := Bd.exec
  have hby := Bd.bytes
  have hml : c.maxLocals = 2 := hml0
  have hown : s.vm.findClass "java/lang/StringUTF16" = some m.cls := findClass_of_methodNamed Bd.named
  have hnm := (name_of_methodNamed Bd.named Bd.method).1
  have X0 : Stand p l e r_m0 s m #[(.ref a), (.int (Int32.ofNat n))] below meth c s₁ [] 0 0 := Stand.of_body Bd
  have e0 : s₁.heap = h0 := by rw [← hh, Bd.state]; rfl
  have N0 := Fr.nil n0
  have lt94 := own_alt q0.lt
  refine Gl.go (A := s₁.setTop (entryFrame m #[(.ref a), (.int (Int32.ofNat n))] 2)) (P := fun o_ U_ => ∃ v_ L_, o_ = .returned v_ ∧ Qcfl1 Z a ka vs n h0 n0 v_ U_.heap L_ ∧ FrameEnd s o_ U_ L_ r_m0.cells r_m0.slots) (fun t_ k_ => castTop (ef_cfl1 m a (Int32.ofNat n)) k_) ?_
  show Gl p.tables e below _ (s₁.setTop (mkF m 0 #[sR a, sI (Int32.ofNat n)] []))
  refine Gl.go (fun _ hr => zXS_iloadN X0.here hx rfl (hb hby d37_0) rfl (zXS_aloadN X0.here hx rfl (hb hby d37_1) rfl rfl hr)) ?_
  obtain ⟨c95, a95, q95, s95, m95, H95, U95⟩ := id q0
  refine gLen Gl.cl X0 hx hZ e0 a95 s95 m95 rfl rfl (hb hby d37_2) ?_
  refine Gl.go (fun _ hr => zXS_isub X0.here hx rfl (hb hby d37_3) rfl (zXS_bipush X0.here hx rfl (hb hby d37_4) (zXT_iushr X0.here hx rfl (hb hby d37_6) rfl (zXT_i2b X0.here hx rfl (hb hby d37_7) rfl hr)))) ?_
  obtain ⟨fs, hr, hrun, hended, hW, hsame⟩ := X0.leave (v := some (.int (nar .byte ((XT.ushr ((Int32.ofNat n) - (Int32.ofNat (2 * n))) (31 : Int32)).toInt8.toInt32)))) (fun h => by rw [Bd.returns] at h; cases h)
  refine ⟨_, _, retN X0 hx (t := .byte) Bd.returns (by simp) (hb hby d37_8) hr, hrun, hended, _, _, rfl, ?_, ⟨⟨_, rfl⟩, hW, hsame.mono (by decide) (by decide)⟩⟩
  show Qcfl1 Z a ka vs n h0 n0 _ s₁.heap _
  rw [e0]
  exact ⟨(own_some (own_cfl1 h1 h4)), N0, rfl⟩
def QinwL (Z : State) (x : Addr) (b : Addr) (ck : ClassId) (cs : List Int32) (G1 : Int32) (h0 : Heap) (n0 : Nat) (v : Option Value) (h : Heap) (L : List Loc) : Prop := ∃ (t : Addr), ∃ (kb : ClassId), ∃ (cd : Int32), ∃ (N2 : Int32), ∃ (vs : List Value), v = none ∧ Fr n0 L ∧ Keep h0 h [x] ∧ (Exa Z h x "java/lang/String") ∧ (Fld Z h x "java/lang/String" "value" "[B" (.ref t)) ∧ (Fld Z h x "java/lang/String" "coder" "B" (.int cd)) ∧ (Arv Z h t kb .byte N2 vs (.int 0)) ∧ (@LE.le Nat instLENat h0.size t) ∧ (StrChars.Road.CodA cs cd N2 vs)
theorem pn_1 : plainName "java/lang/String" = true := by first | (simp [plainName, overriddenIn]; done) | decide +kernel
theorem ef_inwL (m : MethodId) (x0 : Addr) (x1 : Addr) (x2 : Int32) (x3 : Int32) : entryFrame m #[(.ref x0), (.ref x1), (.int x2), (.int x3), .null] 6 = mkF m 0 #[sR x0, sR x1, sI x2, sI x3, .val .null, sU] [] := by first | (simp [entryFrame, mkF, argsToLocals, Value.category]; done) | rfl
theorem d3_0 : decode jdk_42_method_149_code 0 = .ok (.aload_n 0, 1) := by decide +kernel
theorem d3_1 : decode jdk_42_method_149_code 1 = .ok (.invokespecial 1, 3) := by decide +kernel
theorem d3_4 : decode jdk_42_method_149_code 4 = .ok (.iload_n 3, 1) := by decide +kernel
theorem d3_5 : decode jdk_42_method_149_code 5 = .ok (.ifCond .ne 22, 3) := by decide +kernel
theorem d3_27 : decode jdk_42_method_149_code 27 = .ok (.getstatic 38, 3) := by decide +kernel
theorem d3_30 : decode jdk_42_method_149_code 30 = .ok (.ifCond .eq 28, 3) := by decide +kernel
theorem d3_33 : decode jdk_42_method_149_code 33 = .ok (.aload_n 1, 1) := by decide +kernel
theorem d3_34 : decode jdk_42_method_149_code 34 = .ok (.iload_n 2, 1) := by decide +kernel
theorem d3_35 : decode jdk_42_method_149_code 35 = .ok (.iload_n 3, 1) := by decide +kernel
theorem d3_36 : decode jdk_42_method_149_code 36 = .ok (.invokestatic 177, 3) := by decide +kernel
theorem d3_39 : decode jdk_42_method_149_code 39 = .ok (.astore 5, 2) := by decide +kernel
theorem d3_41 : decode jdk_42_method_149_code 41 = .ok (.aload_n 0, 1) := by decide +kernel
theorem d3_42 : decode jdk_42_method_149_code 42 = .ok (.aload 5, 2) := by decide +kernel
theorem d3_44 : decode jdk_42_method_149_code 44 = .ok (.iload_n 3, 1) := by decide +kernel
theorem d3_45 : decode jdk_42_method_149_code 45 = .ok (.invokestatic 47, 3) := by decide +kernel
theorem pd_6 : parseMethodDescriptor "([BI)B" = some ⟨[(.array .byte), .int], some .byte⟩ := by decide +kernel
theorem d3_48 : decode jdk_42_method_149_code 48 = .ok (.putfield 15, 3) := by decide +kernel
theorem d3_51 : decode jdk_42_method_149_code 51 = .ok (.aload_n 0, 1) := by decide +kernel
theorem d3_52 : decode jdk_42_method_149_code 52 = .ok (.aload 5, 2) := by decide +kernel
theorem d3_54 : decode jdk_42_method_149_code 54 = .ok (.putfield 9, 3) := by decide +kernel
theorem d3_57 : decode jdk_42_method_149_code 57 = .ok (.return_, 1) := by decide +kernel
set_option maxRecDepth 65536 in
set_option maxHeartbeats 40000000 in
theorem inwL (l : Launch) (Z : State) (a0 : Array Value) (hw : ∀ d ∈ tables_1, d.before a0 Z = true) (ws : List Jvm.Cond) (x : Addr) (b : Addr) (ck : ClassId) (cs : List Int32) (G1 : Int32) (h0 : Heap) (n0 : Nat) (Z0 : n0 ≤ h0.size) (q0 : Sta Z Z.heap "java/lang/String" "COMPACT_STRINGS" "Z" (.int G1)) (P5 : ¬ (G1 = (0 : Int32))) (q2 : (Old Z Z.heap.size h0 ∧ @LE.le Nat instLENat Z.heap.size n0)) (q3 : Sta Z Z.heap "java/lang/StringUTF16" "$assertionsDisabled" "Z" (.int (1 : Int32))) (q4 : Sta Z Z.heap "java/lang/StringUTF16" "HI_BYTE_SHIFT" "I" (.int (0 : Int32))) (q5 : Sta Z Z.heap "java/lang/StringUTF16" "LO_BYTE_SHIFT" "I" (.int (8 : Int32))) (q6 : @LE.le Nat instLENat n0 x) (q7 : Exa Z h0 x "java/lang/String") (q8 : Fld Z h0 x "java/lang/String" "value" "[B" .null) (q9 : Fld Z h0 x "java/lang/String" "coder" "B" (.int (0 : Int32))) (q10 : Arv Z h0 b ck .char (Int32.ofNat cs.length) (cs.map Value.int) (.int (0 : Int32))) (hbd : ∀ c ∈ cs, Wid c) (h1 : 0 < cs.length) (h4 : cs.length ≤ 2) :
    MetFree l y_8 (head1 (Jvm.Cond.code y_8 jdk_42_method_149_code 6 none :: ws) r_m4) (fun a_ U_ => a_ = #[(.ref x), (.ref b), (.int (0 : Int32)), (.int (Int32.ofNat cs.length)), .null] ∧ Z.Warmed39 U_.vm ∧ U_.heap = h0) (fun _ _ _ _ _ => True) (fun _ U_ o_ V_ => ∃ v_ L_, o_ = .returned v_ ∧ QinwL Z x b ck cs G1 h0 n0 v_ V_.heap L_ ∧ FrameEnd U_ o_ V_ L_ r_m4.cells r_m4.slots) := by
  refine MetFree.of_bodySF (plainFor_of_name pn_1) hisR ?_
  intro p e s m args below meth c s₁ Bd hml0 hP hK
  obtain ⟨rfl, hZ, hh⟩ := hP
  have hx := Bd.exec
  have hby := Bd.bytes
  have hml : c.maxLocals = 6 := hml0
  have hown : s.vm.findClass "java/lang/String" = some m.cls := findClass_of_methodNamed Bd.named
  have hnm := (name_of_methodNamed Bd.named Bd.method).1
  have X0 : Stand p l e r_m4 s m #[(.ref x), (.ref b), (.int (0 : Int32)), (.int (Int32.ofNat cs.length)), .null] below meth c s₁ [] 0 0 := Stand.of_body Bd
  have e0 : s₁.heap = h0 := by rw [← hh, Bd.state]; rfl
  have N0 := Fr.nil n0
  have Oo := q2.1
  have zo := q2.2
  have lt96 := own_alt q7.lt
  have lt97 := own_alt q8.lt
  have lt98 := own_alt q9.lt
  have lt99 := own_alt q10.lt
  refine Gl.go (A := s₁.setTop (entryFrame m #[(.ref x), (.ref b), (.int (0 : Int32)), (.int (Int32.ofNat cs.length)), .null] 6)) (P := fun o_ U_ => ∃ v_ L_, o_ = .returned v_ ∧ QinwL Z x b ck cs G1 h0 n0 v_ U_.heap L_ ∧ FrameEnd s o_ U_ L_ r_m4.cells r_m4.slots) (fun t_ k_ => castTop (ef_inwL m x b (0 : Int32) (Int32.ofNat cs.length)) k_) ?_
  show Gl p.tables e below _ (s₁.setTop (mkF m 0 #[sR x, sR b, sI 0, sI (Int32.ofNat cs.length), .val .null, sU] []))
  refine Gl.go (fun _ hr => zXS_aloadN X0.here hx rfl (hb hby d3_0) rfl rfl hr) ?_
  refine gInit Gl.cl (W := 0) X0 hx hZ hown (tw hw 16 rfl) (tw hw 17 rfl) (tw hw 18 rfl) e0 rfl (by rw [hml]; rfl) rfl (hb hby d3_1) (by decide) (by exact Nat.le_of_eq rfl) (by decide) ?_
  intro T100 X100 e100
  refine Gl.go (fun _ hr => zXS_iloadN X100.here hx rfl (hb hby d3_4) rfl hr) ?_
  refine Gl.go (fun _ hr => zXS_ifYes X100.here hx rfl (pc0 := 5) (pc' := 27) rfl (hb hby d3_5) rfl (XT.i0_ne_t (own_ne32 (b := 0) (by omega) (by decide) (by omega))) (by decide) (by decide) hr) ?_
  refine gGetS (host := "") Gl.cl X100 hx hZ hown (Or.inl (tw hw 86 rfl)) Via.refl e100 (q0.ext Oo.2) rfl (hb hby d3_27) ?_
  intro T101 X101 e101
  refine Gl.go (fun _ hr => zXS_ifNo X101.here hx rfl (hb hby d3_30) rfl (XT.i0_eq_f P5) (zXS_aloadN X101.here hx rfl (hb hby d3_33) rfl rfl (zXS_iloadN X101.here hx rfl (hb hby d3_34) rfl (zXS_iloadN X101.here hx rfl (hb hby d3_35) rfl hr)))) ?_
  have zz102 : n0 ≤ h0.size := by omega
  refine gStaticN Gl.cl (y := y_6) (argsL := [(.ref b), (.int (0 : Int32)), (.int (Int32.ofNat cs.length))]) (rest := []) (mc := 2) (ms := 6) X101 hx hZ hown (mvT hZ (tw hw 186 rfl)) (mvT hZ (tw hw 187 rfl)) (mvT hZ (tw hw 188 rfl)) (mvT hZ (tw hw 189 rfl)) (by decide) (backOf (W := 0) (cmpL l Z a0 hw [] b ck cs h0 n0 zz102 ⟨Oo, (by omega)⟩ q3 q4 q5 q10 (by assumption) (by assumption) (by assumption)) hZ (tw hw 189 rfl) (tw hw 188 rfl) (by decide) (by decide)) rfl (by rw [hml]; rfl) (lenOf pd_4 rfl) rfl (by exact Nat.le_of_eq rfl) (hb hby d3_36) rfl e101 (by decide) (by decide) ?_
  intro v102 T102 Lc102 hQ102 X102
  obtain ⟨r_102, kr_102, cd_102, N2_102, vs_102, rfl, Nq102, K102, f102_0, f102_1, p102_cod⟩ := hQ102
  have z103 : h0.size ≤ T102.heap.size := K102.1
  have N102 := Fr.app N0 Nq102
  have lt104 := own_alt f102_0.lt
  refine Gl.go (fun _ hr => zXS_astore X102.here hx rfl (hb hby d3_39) rfl rfl (l' := #[sR x, sR b, sI 0, sI (Int32.ofNat cs.length), .val .null, sR r_102]) rfl hr) ?_
  show Gl p.tables e below _ (T102.setTop (mkF m 41 #[sR x, sR b, sI 0, sI (Int32.ofNat cs.length), .val .null, sR r_102] []))
  rcases p102_cod with ⟨rfl, rfl, rfl, hl⟩ | ⟨rfl, rfl, rfl, hl⟩
  · show Gl p.tables e below _ (T102.setTop (mkF m 41 #[sR x, sR b, sI 0, sI (Int32.ofNat cs.length), .val .null, sR r_102] []))
    refine Gl.go (fun _ hr => zXS_aloadN X102.here hx rfl (hb hby d3_41) rfl rfl (zXS_aload X102.here hx rfl (hb hby d3_42) rfl rfl (zXS_iloadN X102.here hx rfl (hb hby d3_44) rfl hr))) ?_
    have zz105 : n0 ≤ T102.heap.size := by omega
    refine gStaticN Gl.cl (y := y_7) (argsL := [(.ref r_102), (.int (Int32.ofNat cs.length))]) (rest := [(.ref x)]) (mc := 0) (ms := 0) X102 hx hZ hown (mvT hZ (tw hw 193 rfl)) (mvT hZ (tw hw 194 rfl)) (mvT hZ (tw hw 188 rfl)) (mvT hZ (tw hw 195 rfl)) (by decide) (backOf (W := 1) (cfl0 l Z a0 hw [] r_102 kr_102 (cs.map fun c => Value.int (StrChars.lo8 c)) cs.length T102.heap n0 zz105 f102_0 h1 (by omega)) hZ (tw hw 195 rfl) (tw hw 188 rfl) (by decide) (by decide)) rfl (by rw [hml]; rfl) (lenOf pd_6 rfl) rfl (by exact Nat.le_of_eq rfl) (hb hby d3_45) rfl (rfl : T102.heap = T102.heap) (by decide) (by decide) ?_
    intro v105 T105 Lc105 hQ105 X105
    obtain ⟨rfl, Nq105, e105⟩ := hQ105
    have N105 := Fr.app N102 Nq105
    have Fc106 := (q9.keep K102 nin0)
    have Ec107 := (q7.keep K102)
    refine gPutF (host := "") Gl.cl X105 hx hZ hown (Or.inl (tw hw 26 rfl)) Via.refl e105 Fc106 Ec107 (Or.inr ⟨(tw hw 22 rfl), rfl, hnm⟩) (tw hw 6 rfl) (ty := .byte) (by decide) rfl rfl rfl rfl (hb hby d3_48) ?_
    intro T108 h108 X108 e108 W108
    have z109 : T102.heap.size ≤ h108.size := (Keep.of_wr W108).1
    have Fw108 := Fc106.same W108
    have om110 : @LE.le Nat instLENat n0 x := by omega
    have N108 := Fr.snoc X108 N105 (own_ale om110)
    refine Gl.go (fun _ hr => zXS_aloadN X108.here hx rfl (hb hby d3_51) rfl rfl (zXS_aload X108.here hx rfl (hb hby d3_52) rfl rfl hr)) ?_
    have Fc111 := ((q8.keep K102 nin0).other W108 (Or.inr (slot_ne (Or.inr (tw hw 21 rfl)) (Or.inr (tw hw 22 rfl)) (by decide) (t := (.array .byte)) (t' := .byte) (by decide) (by decide))))
    have Ec112 := (Ec107.wr W108)
    refine gPutF (host := "") Gl.cl X108 hx hZ hown (Or.inl (tw hw 25 rfl)) Via.refl e108 Fc111 Ec112 (Or.inr ⟨(tw hw 21 rfl), rfl, hnm⟩) (tw hw 6 rfl) (ty := (.array .byte)) (by decide) rfl rfl rfl rfl (hb hby d3_54) ?_
    intro T113 h113 X113 e113 W113
    have z114 : h108.size ≤ h113.size := (Keep.of_wr W113).1
    have Fw113 := Fc111.same W113
    have N113 := Fr.snoc X113 N108 (own_ale om110)
    have Ec115 := (Ec112.wr W113)
    have Fc116 := (Fw108.other W113 (Or.inr (slot_ne (Or.inr (tw hw 22 rfl)) (Or.inr (tw hw 21 rfl)) (by decide) (t := .byte) (t' := (.array .byte)) (by decide) (by decide))))
    have om117 : ¬ @Eq Nat r_102 x := by omega
    have Vc118 := ((f102_0.other W108 (own_ane om117)).other W113 (own_ane om117))
    obtain ⟨fs, hr, hrun, hended, hW, hsame⟩ := X113.leave (v := none) (fun _ => rfl)
    refine ⟨_, _, X113.returnOut hx Bd.returns (hb hby d3_57) hr, hrun, hended, _, _, rfl, ?_, ⟨⟨_, rfl⟩, hW, hsame.mono (by decide) (by decide)⟩⟩
    show QinwL Z x b ck cs G1 h0 n0 _ T113.heap _
    rw [e113]
    exact ⟨r_102, kr_102, 0, (Int32.ofNat cs.length), (cs.map fun c => Value.int (StrChars.lo8 c)), rfl, N113, ((((Keep.refl h0 [x]).trans K102 all0).wr W108 (Or.inl (by simp))).wr W113 (Or.inl (by simp))), Ec115, Fw113, Fc116, Vc118, (by omega), (Or.inl ⟨rfl, rfl, rfl, hl⟩)⟩
  · show Gl p.tables e below _ (T102.setTop (mkF m 41 #[sR x, sR b, sI 0, sI (Int32.ofNat cs.length), .val .null, sR r_102] []))
    refine Gl.go (fun _ hr => zXS_aloadN X102.here hx rfl (hb hby d3_41) rfl rfl (zXS_aload X102.here hx rfl (hb hby d3_42) rfl rfl (zXS_iloadN X102.here hx rfl (hb hby d3_44) rfl hr))) ?_
    have zz119 : n0 ≤ T102.heap.size := by omega
    refine gStaticN Gl.cl (y := y_7) (argsL := [(.ref r_102), (.int (Int32.ofNat cs.length))]) (rest := [(.ref x)]) (mc := 0) (ms := 0) X102 hx hZ hown (mvT hZ (tw hw 193 rfl)) (mvT hZ (tw hw 194 rfl)) (mvT hZ (tw hw 188 rfl)) (mvT hZ (tw hw 195 rfl)) (by decide) (backOf (W := 1) (cfl1 l Z a0 hw [] r_102 kr_102 (StrChars.Road.wideBytes cs) cs.length T102.heap n0 zz119 f102_0 h1 (by omega)) hZ (tw hw 195 rfl) (tw hw 188 rfl) (by decide) (by decide)) rfl (by rw [hml]; rfl) (lenOf pd_6 rfl) rfl (by exact Nat.le_of_eq rfl) (hb hby d3_45) rfl (rfl : T102.heap = T102.heap) (by decide) (by decide) ?_
    intro v119 T119 Lc119 hQ119 X119
    obtain ⟨rfl, Nq119, e119⟩ := hQ119
    have N119 := Fr.app N102 Nq119
    have Fc120 := (q9.keep K102 nin0)
    have Ec121 := (q7.keep K102)
    refine gPutF (host := "") Gl.cl X119 hx hZ hown (Or.inl (tw hw 26 rfl)) Via.refl e119 Fc120 Ec121 (Or.inr ⟨(tw hw 22 rfl), rfl, hnm⟩) (tw hw 6 rfl) (ty := .byte) (by decide) rfl rfl rfl rfl (hb hby d3_48) ?_
    intro T122 h122 X122 e122 W122
    have z123 : T102.heap.size ≤ h122.size := (Keep.of_wr W122).1
    have Fw122 := Fc120.same W122
    have om124 : @LE.le Nat instLENat n0 x := by omega
    have N122 := Fr.snoc X122 N119 (own_ale om124)
    refine Gl.go (fun _ hr => zXS_aloadN X122.here hx rfl (hb hby d3_51) rfl rfl (zXS_aload X122.here hx rfl (hb hby d3_52) rfl rfl hr)) ?_
    have Fc125 := ((q8.keep K102 nin0).other W122 (Or.inr (slot_ne (Or.inr (tw hw 21 rfl)) (Or.inr (tw hw 22 rfl)) (by decide) (t := (.array .byte)) (t' := .byte) (by decide) (by decide))))
    have Ec126 := (Ec121.wr W122)
    refine gPutF (host := "") Gl.cl X122 hx hZ hown (Or.inl (tw hw 25 rfl)) Via.refl e122 Fc125 Ec126 (Or.inr ⟨(tw hw 21 rfl), rfl, hnm⟩) (tw hw 6 rfl) (ty := (.array .byte)) (by decide) rfl rfl rfl rfl (hb hby d3_54) ?_
    intro T127 h127 X127 e127 W127
    have z128 : h122.size ≤ h127.size := (Keep.of_wr W127).1
    have Fw127 := Fc125.same W127
    have N127 := Fr.snoc X127 N122 (own_ale om124)
    have Ec129 := (Ec126.wr W127)
    have Fc130 := (Fw122.other W127 (Or.inr (slot_ne (Or.inr (tw hw 22 rfl)) (Or.inr (tw hw 21 rfl)) (by decide) (t := .byte) (t' := (.array .byte)) (by decide) (by decide))))
    have om131 : ¬ @Eq Nat r_102 x := by omega
    have Vc132 := ((f102_0.other W122 (own_ane om131)).other W127 (own_ane om131))
    obtain ⟨fs, hr, hrun, hended, hW, hsame⟩ := X127.leave (v := none) (fun _ => rfl)
    refine ⟨_, _, X127.returnOut hx Bd.returns (hb hby d3_57) hr, hrun, hended, _, _, rfl, ?_, ⟨⟨_, rfl⟩, hW, hsame.mono (by decide) (by decide)⟩⟩
    show QinwL Z x b ck cs G1 h0 n0 _ T127.heap _
    rw [e127]
    exact ⟨r_102, kr_102, 1, (Int32.ofNat (2 * cs.length)), (StrChars.Road.wideBytes cs), rfl, N127, ((((Keep.refl h0 [x]).trans K102 all0).wr W122 (Or.inl (by simp))).wr W127 (Or.inl (by simp))), Ec129, Fw127, Fc130, Vc132, (by omega), (Or.inr ⟨rfl, rfl, rfl, hl⟩)⟩
def QinvL (Z : State) (x : Addr) (b : Addr) (ck : ClassId) (cs : List Int32) (G1 : Int32) (h0 : Heap) (n0 : Nat) (v : Option Value) (h : Heap) (L : List Loc) : Prop := ∃ (t : Addr), ∃ (kb : ClassId), ∃ (cd : Int32), ∃ (N2 : Int32), ∃ (vs : List Value), v = none ∧ Fr n0 L ∧ Keep h0 h [x] ∧ (Exa Z h x "java/lang/String") ∧ (Fld Z h x "java/lang/String" "value" "[B" (.ref t)) ∧ (Fld Z h x "java/lang/String" "coder" "B" (.int cd)) ∧ (Arv Z h t kb .byte N2 vs (.int 0)) ∧ (@LE.le Nat instLENat h0.size t) ∧ (StrChars.Road.CodA cs cd N2 vs)
theorem ef_invL (m : MethodId) (x0 : Addr) (x1 : Addr) : entryFrame m #[(.ref x0), (.ref x1)] 2 = mkF m 0 #[sR x0, sR x1] [] := by first | (simp [entryFrame, mkF, argsToLocals, Value.category]; done) | rfl
theorem d2_0 : decode jdk_42_method_3_code 0 = .ok (.aload_n 0, 1) := by decide +kernel
theorem d2_1 : decode jdk_42_method_3_code 1 = .ok (.aload_n 1, 1) := by decide +kernel
theorem d2_2 : decode jdk_42_method_3_code 2 = .ok (.iconst 0, 1) := by decide +kernel
theorem d2_3 : decode jdk_42_method_3_code 3 = .ok (.aload_n 1, 1) := by decide +kernel
theorem d2_4 : decode jdk_42_method_3_code 4 = .ok (.arraylength, 1) := by decide +kernel
theorem d2_5 : decode jdk_42_method_3_code 5 = .ok (.aconst_null, 1) := by decide +kernel
theorem d2_6 : decode jdk_42_method_3_code 6 = .ok (.invokespecial 27, 3) := by decide +kernel
theorem pd_7 : parseMethodDescriptor "([CIILjava/lang/Void;)V" = some ⟨[(.array .char), .int, .int, (.object "java/lang/Void")], none⟩ := by decide +kernel
theorem d2_9 : decode jdk_42_method_3_code 9 = .ok (.return_, 1) := by decide +kernel
set_option maxRecDepth 65536 in
set_option maxHeartbeats 40000000 in
theorem invL (l : Launch) (Z : State) (a0 : Array Value) (hw : ∀ d ∈ tables_1, d.before a0 Z = true) (ws : List Jvm.Cond) (x : Addr) (b : Addr) (ck : ClassId) (cs : List Int32) (G1 : Int32) (h0 : Heap) (n0 : Nat) (Z0 : n0 ≤ h0.size) (q0 : Sta Z Z.heap "java/lang/String" "COMPACT_STRINGS" "Z" (.int G1)) (P5 : ¬ (G1 = (0 : Int32))) (q2 : (Old Z Z.heap.size h0 ∧ @LE.le Nat instLENat Z.heap.size n0)) (q3 : Sta Z Z.heap "java/lang/StringUTF16" "$assertionsDisabled" "Z" (.int (1 : Int32))) (q4 : Sta Z Z.heap "java/lang/StringUTF16" "HI_BYTE_SHIFT" "I" (.int (0 : Int32))) (q5 : Sta Z Z.heap "java/lang/StringUTF16" "LO_BYTE_SHIFT" "I" (.int (8 : Int32))) (q6 : @LE.le Nat instLENat n0 x) (q7 : Exa Z h0 x "java/lang/String") (q8 : Fld Z h0 x "java/lang/String" "value" "[B" .null) (q9 : Fld Z h0 x "java/lang/String" "coder" "B" (.int (0 : Int32))) (q10 : Arv Z h0 b ck .char (Int32.ofNat cs.length) (cs.map Value.int) (.int (0 : Int32))) (hbd : ∀ c ∈ cs, Wid c) (h1 : 0 < cs.length) (h4 : cs.length ≤ 2) :
    MetFree l y_9 (head1 (Jvm.Cond.code y_9 jdk_42_method_3_code 2 none :: ws) r_m5) (fun a_ U_ => a_ = #[(.ref x), (.ref b)] ∧ Z.Warmed39 U_.vm ∧ U_.heap = h0) (fun _ _ _ _ _ => True) (fun _ U_ o_ V_ => ∃ v_ L_, o_ = .returned v_ ∧ QinvL Z x b ck cs G1 h0 n0 v_ V_.heap L_ ∧ FrameEnd U_ o_ V_ L_ r_m5.cells r_m5.slots) := by
  refine MetFree.of_bodySF (plainFor_of_name pn_1) hisR ?_
  intro p e s m args below meth c s₁ Bd hml0 hP hK
  obtain ⟨rfl, hZ, hh⟩ := hP
  have hx := Bd.exec
  have hby := Bd.bytes
  have hml : c.maxLocals = 2 := hml0
  have hown : s.vm.findClass "java/lang/String" = some m.cls := findClass_of_methodNamed Bd.named
  have hnm := (name_of_methodNamed Bd.named Bd.method).1
  have X0 : Stand p l e r_m5 s m #[(.ref x), (.ref b)] below meth c s₁ [] 0 0 := Stand.of_body Bd
  have e0 : s₁.heap = h0 := by rw [← hh, Bd.state]; rfl
  have N0 := Fr.nil n0
  have Oo := q2.1
  have zo := q2.2
  have lt133 := own_alt q7.lt
  have lt134 := own_alt q8.lt
  have lt135 := own_alt q9.lt
  have lt136 := own_alt q10.lt
  refine Gl.go (A := s₁.setTop (entryFrame m #[(.ref x), (.ref b)] 2)) (P := fun o_ U_ => ∃ v_ L_, o_ = .returned v_ ∧ QinvL Z x b ck cs G1 h0 n0 v_ U_.heap L_ ∧ FrameEnd s o_ U_ L_ r_m5.cells r_m5.slots) (fun t_ k_ => castTop (ef_invL m x b) k_) ?_
  show Gl p.tables e below _ (s₁.setTop (mkF m 0 #[sR x, sR b] []))
  refine Gl.go (fun _ hr => zXS_aloadN X0.here hx rfl (hb hby d2_0) rfl rfl (zXS_aloadN X0.here hx rfl (hb hby d2_1) rfl rfl (zXS_iconst X0.here hx rfl (hb hby d2_2) (zXS_aloadN X0.here hx rfl (hb hby d2_3) rfl rfl hr)))) ?_
  obtain ⟨c137, a137, q137, s137, m137, H137, U137⟩ := id q10
  refine gLen Gl.cl X0 hx hZ e0 a137 s137 m137 rfl rfl (hb hby d2_4) ?_
  refine Gl.go (fun _ hr => zXS_aconstNull X0.here hx rfl (hb hby d2_5) hr) ?_
  have zz138 : n0 ≤ h0.size := by omega
  refine gSpecialN Gl.cl (y := y_8) (b := x) (argsL := [(.ref b), (.int (0 : Int32)), (.int (Int32.ofNat cs.length)), .null]) (rest := []) (mc := 2) (ms := 6) X0 hx hZ hown rfl (mvT hZ (tw hw 12 rfl)) (mvT hZ (tw hw 13 rfl)) (mvT hZ (tw hw 15 rfl)) (by decide) (backOf (W := 0) (inwL l Z a0 hw [] x b ck cs G1 h0 n0 zz138 q0 (by assumption) ⟨Oo, (by omega)⟩ q3 q4 q5 (by omega) q7 q8 q9 q10 (by assumption) (by assumption) (by assumption)) hZ (tw hw 15 rfl) (tw hw 7 rfl) (by decide) (by decide)) rfl (by rw [hml]; rfl) (lenOf pd_7 rfl) rfl (by exact Nat.le_of_eq rfl) (hb hby d2_6) rfl e0 (by decide) (by decide) ?_
  intro v138 T138 Lc138 hQ138 X138
  obtain ⟨t_138, kb_138, cd_138, N2_138, vs_138, rfl, Nq138, K138, f138_0, f138_1, f138_2, f138_3, f138_4, p138_cod⟩ := hQ138
  have z139 : h0.size ≤ T138.heap.size := K138.1
  have N138 := Fr.app N0 Nq138
  have lt140 := own_alt f138_0.lt
  have lt141 := own_alt f138_1.lt
  have lt142 := own_alt f138_2.lt
  have lt143 := own_alt f138_3.lt
  obtain ⟨fs, hr, hrun, hended, hW, hsame⟩ := X138.leave (v := none) (fun _ => rfl)
  refine ⟨_, _, X138.returnOut hx Bd.returns (hb hby d2_9) hr, hrun, hended, _, _, rfl, ?_, ⟨⟨_, rfl⟩, hW, hsame.mono (by decide) (by decide)⟩⟩
  show QinvL Z x b ck cs G1 h0 n0 _ T138.heap _
  exact ⟨t_138, kb_138, cd_138, N2_138, vs_138, rfl, N138, ((Keep.refl h0 [x]).trans K138 (allS (P := fun x_ => x_ ∈ ([x] : List Addr) ∨ h0.size ≤ x_) (Or.inl (by simp)) all0)), f138_0, f138_1, f138_2, f138_3, (by omega), (by first | rfl | assumption)⟩
def Qcod0 (Z : State) (x : Addr) (G1 : Int32) (h0 : Heap) (n0 : Nat) (v : Option Value) (h : Heap) (L : List Loc) : Prop := v = some (.int (0 : Int32)) ∧ Fr n0 L ∧ h = h0
theorem ef_cod0 (m : MethodId) (x0 : Addr) : entryFrame m #[(.ref x0)] 1 = mkF m 0 #[sR x0] [] := by first | (simp [entryFrame, mkF, argsToLocals, Value.category]; done) | rfl
theorem d13_0 : decode jdk_42_method_152_code 0 = .ok (.getstatic 38, 3) := by decide +kernel
theorem d13_3 : decode jdk_42_method_152_code 3 = .ok (.ifCond .eq 10, 3) := by decide +kernel
theorem d13_6 : decode jdk_42_method_152_code 6 = .ok (.aload_n 0, 1) := by decide +kernel
theorem d13_7 : decode jdk_42_method_152_code 7 = .ok (.getfield 15, 3) := by decide +kernel
theorem d13_10 : decode jdk_42_method_152_code 10 = .ok (.goto 4, 3) := by decide +kernel
theorem d13_14 : decode jdk_42_method_152_code 14 = .ok (.ireturn, 1) := by decide +kernel
set_option maxRecDepth 65536 in
set_option maxHeartbeats 40000000 in
theorem cod0 (l : Launch) (Z : State) (a0 : Array Value) (hw : ∀ d ∈ tables_1, d.before a0 Z = true) (ws : List Jvm.Cond) (x : Addr) (G1 : Int32) (h0 : Heap) (n0 : Nat) (Z0 : n0 ≤ h0.size) (q0 : Sta Z Z.heap "java/lang/String" "COMPACT_STRINGS" "Z" (.int G1)) (P5 : ¬ (G1 = (0 : Int32))) (q2 : (Old Z Z.heap.size h0 ∧ @LE.le Nat instLENat Z.heap.size n0)) (q3 : Fld Z h0 x "java/lang/String" "coder" "B" (.int (0 : Int32))) :
    MetFree l y_10 (head1 (Jvm.Cond.code y_10 jdk_42_method_152_code 1 (some .byte) :: ws) r_m0) (fun a_ U_ => a_ = #[(.ref x)] ∧ Z.Warmed39 U_.vm ∧ U_.heap = h0) (fun _ _ _ _ _ => True) (fun _ U_ o_ V_ => ∃ v_ L_, o_ = .returned v_ ∧ Qcod0 Z x G1 h0 n0 v_ V_.heap L_ ∧ FrameEnd U_ o_ V_ L_ r_m0.cells r_m0.slots) := by
  refine MetFree.of_bodySF (plainFor_of_name pn_1) hisR ?_
  intro p e s m args below meth c s₁ Bd hml0 hP hK
  obtain ⟨rfl, hZ, hh⟩ := hP
  have hx := Bd.exec
  have hby := Bd.bytes
  have hml : c.maxLocals = 1 := hml0
  have hown : s.vm.findClass "java/lang/String" = some m.cls := findClass_of_methodNamed Bd.named
  have hnm := (name_of_methodNamed Bd.named Bd.method).1
  have X0 : Stand p l e r_m0 s m #[(.ref x)] below meth c s₁ [] 0 0 := Stand.of_body Bd
  have e0 : s₁.heap = h0 := by rw [← hh, Bd.state]; rfl
  have N0 := Fr.nil n0
  have Oo := q2.1
  have zo := q2.2
  have lt144 := own_alt q3.lt
  refine Gl.go (A := s₁.setTop (entryFrame m #[(.ref x)] 1)) (P := fun o_ U_ => ∃ v_ L_, o_ = .returned v_ ∧ Qcod0 Z x G1 h0 n0 v_ U_.heap L_ ∧ FrameEnd s o_ U_ L_ r_m0.cells r_m0.slots) (fun t_ k_ => castTop (ef_cod0 m x) k_) ?_
  show Gl p.tables e below _ (s₁.setTop (mkF m 0 #[sR x] []))
  refine gGetS (host := "") Gl.cl X0 hx hZ hown (Or.inl (tw hw 86 rfl)) Via.refl e0 (q0.ext Oo.2) rfl (hb hby d13_0) ?_
  intro T145 X145 e145
  refine Gl.go (fun _ hr => zXS_ifNo X145.here hx rfl (hb hby d13_3) rfl (XT.i0_eq_f P5) (zXS_aloadN X145.here hx rfl (hb hby d13_6) rfl rfl hr)) ?_
  refine gGetF (host := "") Gl.cl X145 hx hZ hown (Or.inl (tw hw 26 rfl)) Via.refl e145 q3 rfl rfl (hb hby d13_7) ?_
  intro T146 X146 e146
  refine Gl.go (fun _ hr => zXS_goto X146.here hx rfl (pc0 := 10) (pc' := 14) rfl (hb hby d13_10) (by decide) (by decide) hr) ?_
  obtain ⟨fs, hr, hrun, hended, hW, hsame⟩ := X146.leave (v := some (.int (0 : Int32))) (fun h => by rw [Bd.returns] at h; cases h)
  refine ⟨_, _, retN X146 hx (t := .byte) Bd.returns (by simp) (hb hby d13_14) hr, hrun, hended, _, _, rfl, ?_, ⟨⟨_, rfl⟩, hW, hsame.mono (by decide) (by decide)⟩⟩
  show Qcod0 Z x G1 h0 n0 _ T146.heap _
  rw [e146]
  exact ⟨rfl, N0, rfl⟩
def Qbl0 (Z : State) (b : Addr) (G1 : Int32) (h0 : Heap) (n0 : Nat) (v : Option Value) (h : Heap) (L : List Loc) : Prop := v = some (.int (1 : Int32)) ∧ Fr n0 L ∧ h = h0
theorem pn_2 : plainName "java/lang/AbstractStringBuilder" = true := by first | (simp [plainName, overriddenIn]; done) | decide +kernel
theorem ef_bl0 (m : MethodId) (x0 : Addr) : entryFrame m #[(.ref x0)] 1 = mkF m 0 #[sR x0] [] := by first | (simp [entryFrame, mkF, argsToLocals, Value.category]; done) | rfl
theorem d24_0 : decode jdk_68_method_68_code 0 = .ok (.getstatic 18, 3) := by decide +kernel
theorem d24_3 : decode jdk_68_method_68_code 3 = .ok (.ifCond .eq 14, 3) := by decide +kernel
theorem d24_6 : decode jdk_68_method_68_code 6 = .ok (.aload_n 0, 1) := by decide +kernel
theorem d24_7 : decode jdk_68_method_68_code 7 = .ok (.getfield 22, 3) := by decide +kernel
theorem d24_10 : decode jdk_68_method_68_code 10 = .ok (.ifCond .ne 7, 3) := by decide +kernel
theorem d24_13 : decode jdk_68_method_68_code 13 = .ok (.iconst 1, 1) := by decide +kernel
theorem d24_14 : decode jdk_68_method_68_code 14 = .ok (.goto 4, 3) := by decide +kernel
theorem d24_18 : decode jdk_68_method_68_code 18 = .ok (.ireturn, 1) := by decide +kernel
set_option maxRecDepth 65536 in
set_option maxHeartbeats 40000000 in
theorem bl0 (l : Launch) (Z : State) (a0 : Array Value) (hw : ∀ d ∈ tables_1, d.before a0 Z = true) (ws : List Jvm.Cond) (b : Addr) (G1 : Int32) (h0 : Heap) (n0 : Nat) (Z0 : n0 ≤ h0.size) (q0 : Sta Z Z.heap "java/lang/String" "COMPACT_STRINGS" "Z" (.int G1)) (P5 : ¬ (G1 = (0 : Int32))) (q2 : (Old Z Z.heap.size h0 ∧ @LE.le Nat instLENat Z.heap.size n0)) (q3 : Fld Z h0 b "java/lang/AbstractStringBuilder" "coder" "B" (.int (0 : Int32))) :
    MetFree l y_11 (head1 (Jvm.Cond.code y_11 jdk_68_method_68_code 1 (some .boolean) :: ws) r_m0) (fun a_ U_ => a_ = #[(.ref b)] ∧ Z.Warmed39 U_.vm ∧ U_.heap = h0) (fun _ _ _ _ _ => True) (fun _ U_ o_ V_ => ∃ v_ L_, o_ = .returned v_ ∧ Qbl0 Z b G1 h0 n0 v_ V_.heap L_ ∧ FrameEnd U_ o_ V_ L_ r_m0.cells r_m0.slots) := by
  refine MetFree.of_bodySF (plainFor_of_name pn_2) hisR ?_
  intro p e s m args below meth c s₁ Bd hml0 hP hK
  obtain ⟨rfl, hZ, hh⟩ := hP
  have hx := Bd.exec
  have hby := Bd.bytes
  have hml : c.maxLocals = 1 := hml0
  have hown : s.vm.findClass "java/lang/AbstractStringBuilder" = some m.cls := findClass_of_methodNamed Bd.named
  have hnm := (name_of_methodNamed Bd.named Bd.method).1
  have X0 : Stand p l e r_m0 s m #[(.ref b)] below meth c s₁ [] 0 0 := Stand.of_body Bd
  have e0 : s₁.heap = h0 := by rw [← hh, Bd.state]; rfl
  have N0 := Fr.nil n0
  have Oo := q2.1
  have zo := q2.2
  have lt147 := own_alt q3.lt
  refine Gl.go (A := s₁.setTop (entryFrame m #[(.ref b)] 1)) (P := fun o_ U_ => ∃ v_ L_, o_ = .returned v_ ∧ Qbl0 Z b G1 h0 n0 v_ U_.heap L_ ∧ FrameEnd s o_ U_ L_ r_m0.cells r_m0.slots) (fun t_ k_ => castTop (ef_bl0 m b) k_) ?_
  show Gl p.tables e below _ (s₁.setTop (mkF m 0 #[sR b] []))
  refine gGetS (host := "") Gl.cl X0 hx hZ hown (Or.inl (tw hw 61 rfl)) Via.refl e0 (q0.ext Oo.2) rfl (hb hby d24_0) ?_
  intro T148 X148 e148
  refine Gl.go (fun _ hr => zXS_ifNo X148.here hx rfl (hb hby d24_3) rfl (XT.i0_eq_f P5) (zXS_aloadN X148.here hx rfl (hb hby d24_6) rfl rfl hr)) ?_
  refine gGetF (host := "") Gl.cl X148 hx hZ hown (Or.inl (tw hw 64 rfl)) Via.refl e148 q3 rfl rfl (hb hby d24_7) ?_
  intro T149 X149 e149
  refine Gl.go (fun _ hr => zXS_ifNo X149.here hx rfl (hb hby d24_10) rfl (XT.i0_ne_f (by decide)) (zXS_iconst X149.here hx rfl (hb hby d24_13) (zXS_goto X149.here hx rfl (pc0 := 14) (pc' := 18) rfl (hb hby d24_14) (by decide) (by decide) hr))) ?_
  obtain ⟨fs, hr, hrun, hended, hW, hsame⟩ := X149.leave (v := some (.int (1 : Int32))) (fun h => by rw [Bd.returns] at h; cases h)
  refine ⟨_, _, retN X149 hx (t := .boolean) Bd.returns (by simp) (hb hby d24_18) hr, hrun, hended, _, _, rfl, ?_, ⟨⟨_, rfl⟩, hW, hsame.mono (by decide) (by decide)⟩⟩
  show Qbl0 Z b G1 h0 n0 _ T149.heap _
  rw [e149]
  exact ⟨rfl, N0, rfl⟩
def Qcod1 (Z : State) (x : Addr) (G1 : Int32) (h0 : Heap) (n0 : Nat) (v : Option Value) (h : Heap) (L : List Loc) : Prop := v = some (.int (1 : Int32)) ∧ Fr n0 L ∧ h = h0
theorem ef_cod1 (m : MethodId) (x0 : Addr) : entryFrame m #[(.ref x0)] 1 = mkF m 0 #[sR x0] [] := by first | (simp [entryFrame, mkF, argsToLocals, Value.category]; done) | rfl
set_option maxRecDepth 65536 in
set_option maxHeartbeats 40000000 in
theorem cod1 (l : Launch) (Z : State) (a0 : Array Value) (hw : ∀ d ∈ tables_1, d.before a0 Z = true) (ws : List Jvm.Cond) (x : Addr) (G1 : Int32) (h0 : Heap) (n0 : Nat) (Z0 : n0 ≤ h0.size) (q0 : Sta Z Z.heap "java/lang/String" "COMPACT_STRINGS" "Z" (.int G1)) (P5 : ¬ (G1 = (0 : Int32))) (q2 : (Old Z Z.heap.size h0 ∧ @LE.le Nat instLENat Z.heap.size n0)) (q3 : Fld Z h0 x "java/lang/String" "coder" "B" (.int (1 : Int32))) :
    MetFree l y_10 (head1 (Jvm.Cond.code y_10 jdk_42_method_152_code 1 (some .byte) :: ws) r_m0) (fun a_ U_ => a_ = #[(.ref x)] ∧ Z.Warmed39 U_.vm ∧ U_.heap = h0) (fun _ _ _ _ _ => True) (fun _ U_ o_ V_ => ∃ v_ L_, o_ = .returned v_ ∧ Qcod1 Z x G1 h0 n0 v_ V_.heap L_ ∧ FrameEnd U_ o_ V_ L_ r_m0.cells r_m0.slots) := by
  refine MetFree.of_bodySF (plainFor_of_name pn_1) hisR ?_
  intro p e s m args below meth c s₁ Bd hml0 hP hK
  obtain ⟨rfl, hZ, hh⟩ := hP
  have hx := Bd.exec
  have hby := Bd.bytes
  have hml : c.maxLocals = 1 := hml0
  have hown : s.vm.findClass "java/lang/String" = some m.cls := findClass_of_methodNamed Bd.named
  have hnm := (name_of_methodNamed Bd.named Bd.method).1
  have X0 : Stand p l e r_m0 s m #[(.ref x)] below meth c s₁ [] 0 0 := Stand.of_body Bd
  have e0 : s₁.heap = h0 := by rw [← hh, Bd.state]; rfl
  have N0 := Fr.nil n0
  have Oo := q2.1
  have zo := q2.2
  have lt150 := own_alt q3.lt
  refine Gl.go (A := s₁.setTop (entryFrame m #[(.ref x)] 1)) (P := fun o_ U_ => ∃ v_ L_, o_ = .returned v_ ∧ Qcod1 Z x G1 h0 n0 v_ U_.heap L_ ∧ FrameEnd s o_ U_ L_ r_m0.cells r_m0.slots) (fun t_ k_ => castTop (ef_cod1 m x) k_) ?_
  show Gl p.tables e below _ (s₁.setTop (mkF m 0 #[sR x] []))
  refine gGetS (host := "") Gl.cl X0 hx hZ hown (Or.inl (tw hw 86 rfl)) Via.refl e0 (q0.ext Oo.2) rfl (hb hby d13_0) ?_
  intro T151 X151 e151
  refine Gl.go (fun _ hr => zXS_ifNo X151.here hx rfl (hb hby d13_3) rfl (XT.i0_eq_f P5) (zXS_aloadN X151.here hx rfl (hb hby d13_6) rfl rfl hr)) ?_
  refine gGetF (host := "") Gl.cl X151 hx hZ hown (Or.inl (tw hw 26 rfl)) Via.refl e151 q3 rfl rfl (hb hby d13_7) ?_
  intro T152 X152 e152
  refine Gl.go (fun _ hr => zXS_goto X152.here hx rfl (pc0 := 10) (pc' := 14) rfl (hb hby d13_10) (by decide) (by decide) hr) ?_
  obtain ⟨fs, hr, hrun, hended, hW, hsame⟩ := X152.leave (v := some (.int (1 : Int32))) (fun h => by rw [Bd.returns] at h; cases h)
  refine ⟨_, _, retN X152 hx (t := .byte) Bd.returns (by simp) (hb hby d13_14) hr, hrun, hended, _, _, rfl, ?_, ⟨⟨_, rfl⟩, hW, hsame.mono (by decide) (by decide)⟩⟩
  show Qcod1 Z x G1 h0 n0 _ T152.heap _
  rw [e152]
  exact ⟨rfl, N0, rfl⟩
def Qbl1 (Z : State) (b : Addr) (G1 : Int32) (h0 : Heap) (n0 : Nat) (v : Option Value) (h : Heap) (L : List Loc) : Prop := v = some (.int (0 : Int32)) ∧ Fr n0 L ∧ h = h0
theorem ef_bl1 (m : MethodId) (x0 : Addr) : entryFrame m #[(.ref x0)] 1 = mkF m 0 #[sR x0] [] := by first | (simp [entryFrame, mkF, argsToLocals, Value.category]; done) | rfl
theorem d24_17 : decode jdk_68_method_68_code 17 = .ok (.iconst 0, 1) := by decide +kernel
set_option maxRecDepth 65536 in
set_option maxHeartbeats 40000000 in
theorem bl1 (l : Launch) (Z : State) (a0 : Array Value) (hw : ∀ d ∈ tables_1, d.before a0 Z = true) (ws : List Jvm.Cond) (b : Addr) (G1 : Int32) (h0 : Heap) (n0 : Nat) (Z0 : n0 ≤ h0.size) (q0 : Sta Z Z.heap "java/lang/String" "COMPACT_STRINGS" "Z" (.int G1)) (P5 : ¬ (G1 = (0 : Int32))) (q2 : (Old Z Z.heap.size h0 ∧ @LE.le Nat instLENat Z.heap.size n0)) (q3 : Fld Z h0 b "java/lang/AbstractStringBuilder" "coder" "B" (.int (1 : Int32))) :
    MetFree l y_11 (head1 (Jvm.Cond.code y_11 jdk_68_method_68_code 1 (some .boolean) :: ws) r_m0) (fun a_ U_ => a_ = #[(.ref b)] ∧ Z.Warmed39 U_.vm ∧ U_.heap = h0) (fun _ _ _ _ _ => True) (fun _ U_ o_ V_ => ∃ v_ L_, o_ = .returned v_ ∧ Qbl1 Z b G1 h0 n0 v_ V_.heap L_ ∧ FrameEnd U_ o_ V_ L_ r_m0.cells r_m0.slots) := by
  refine MetFree.of_bodySF (plainFor_of_name pn_2) hisR ?_
  intro p e s m args below meth c s₁ Bd hml0 hP hK
  obtain ⟨rfl, hZ, hh⟩ := hP
  have hx := Bd.exec
  have hby := Bd.bytes
  have hml : c.maxLocals = 1 := hml0
  have hown : s.vm.findClass "java/lang/AbstractStringBuilder" = some m.cls := findClass_of_methodNamed Bd.named
  have hnm := (name_of_methodNamed Bd.named Bd.method).1
  have X0 : Stand p l e r_m0 s m #[(.ref b)] below meth c s₁ [] 0 0 := Stand.of_body Bd
  have e0 : s₁.heap = h0 := by rw [← hh, Bd.state]; rfl
  have N0 := Fr.nil n0
  have Oo := q2.1
  have zo := q2.2
  have lt153 := own_alt q3.lt
  refine Gl.go (A := s₁.setTop (entryFrame m #[(.ref b)] 1)) (P := fun o_ U_ => ∃ v_ L_, o_ = .returned v_ ∧ Qbl1 Z b G1 h0 n0 v_ U_.heap L_ ∧ FrameEnd s o_ U_ L_ r_m0.cells r_m0.slots) (fun t_ k_ => castTop (ef_bl1 m b) k_) ?_
  show Gl p.tables e below _ (s₁.setTop (mkF m 0 #[sR b] []))
  refine gGetS (host := "") Gl.cl X0 hx hZ hown (Or.inl (tw hw 61 rfl)) Via.refl e0 (q0.ext Oo.2) rfl (hb hby d24_0) ?_
  intro T154 X154 e154
  refine Gl.go (fun _ hr => zXS_ifNo X154.here hx rfl (hb hby d24_3) rfl (XT.i0_eq_f P5) (zXS_aloadN X154.here hx rfl (hb hby d24_6) rfl rfl hr)) ?_
  refine gGetF (host := "") Gl.cl X154 hx hZ hown (Or.inl (tw hw 64 rfl)) Via.refl e154 q3 rfl rfl (hb hby d24_7) ?_
  intro T155 X155 e155
  refine Gl.go (fun _ hr => zXS_ifYes X155.here hx rfl (pc0 := 10) (pc' := 17) rfl (hb hby d24_10) rfl (XT.i0_ne_t (by decide)) (by decide) (by decide) (zXS_iconst X155.here hx rfl (hb hby d24_17) hr)) ?_
  obtain ⟨fs, hr, hrun, hended, hW, hsame⟩ := X155.leave (v := some (.int (0 : Int32))) (fun h => by rw [Bd.returns] at h; cases h)
  refine ⟨_, _, retN X155 hx (t := .boolean) Bd.returns (by simp) (hb hby d24_18) hr, hrun, hended, _, _, rfl, ?_, ⟨⟨_, rfl⟩, hW, hsame.mono (by decide) (by decide)⟩⟩
  show Qbl1 Z b G1 h0 n0 _ T155.heap _
  rw [e155]
  exact ⟨rfl, N0, rfl⟩
def Qsl0 (Z : State) (x : Addr) (t : Addr) (kb : ClassId) (vs : List Value) (ds : List Int32) (G1 : Int32) (h0 : Heap) (n0 : Nat) (v : Option Value) (h : Heap) (L : List Loc) : Prop := v = some (.int (Int32.ofNat ds.length)) ∧ Fr n0 L ∧ h = h0
theorem ef_sl0 (m : MethodId) (x0 : Addr) : entryFrame m #[(.ref x0)] 1 = mkF m 0 #[sR x0] [] := by first | (simp [entryFrame, mkF, argsToLocals, Value.category]; done) | rfl
theorem d12_0 : decode jdk_42_method_54_code 0 = .ok (.aload_n 0, 1) := by decide +kernel
theorem d12_1 : decode jdk_42_method_54_code 1 = .ok (.getfield 9, 3) := by decide +kernel
theorem d12_4 : decode jdk_42_method_54_code 4 = .ok (.arraylength, 1) := by decide +kernel
theorem d12_5 : decode jdk_42_method_54_code 5 = .ok (.aload_n 0, 1) := by decide +kernel
theorem d12_6 : decode jdk_42_method_54_code 6 = .ok (.invokevirtual 335, 3) := by decide +kernel
theorem pd_8 : parseMethodDescriptor "()B" = some ⟨[], some .byte⟩ := by decide +kernel
theorem d12_9 : decode jdk_42_method_54_code 9 = .ok (.ishr, 1) := by decide +kernel
theorem d12_10 : decode jdk_42_method_54_code 10 = .ok (.ireturn, 1) := by decide +kernel
set_option maxRecDepth 65536 in
set_option maxHeartbeats 40000000 in
theorem sl0 (l : Launch) (Z : State) (a0 : Array Value) (hw : ∀ d ∈ tables_1, d.before a0 Z = true) (ws : List Jvm.Cond) (x : Addr) (t : Addr) (kb : ClassId) (vs : List Value) (ds : List Int32) (G1 : Int32) (h0 : Heap) (n0 : Nat) (Z0 : n0 ≤ h0.size) (q0 : Sta Z Z.heap "java/lang/String" "COMPACT_STRINGS" "Z" (.int G1)) (P5 : ¬ (G1 = (0 : Int32))) (q2 : (Old Z Z.heap.size h0 ∧ @LE.le Nat instLENat Z.heap.size n0)) (q3 : Exa Z h0 x "java/lang/String") (q4 : Fld Z h0 x "java/lang/String" "value" "[B" (.ref t)) (q5 : Fld Z h0 x "java/lang/String" "coder" "B" (.int (0 : Int32))) (q6 : Arv Z h0 t kb .byte (Int32.ofNat ds.length) vs (.int (0 : Int32))) (hd : ds.length ≤ 32) :
    MetFree l y_12 (head1 (Jvm.Cond.code y_12 jdk_42_method_54_code 1 (some .int) :: ws) r_m6) (fun a_ U_ => a_ = #[(.ref x)] ∧ Z.Warmed39 U_.vm ∧ U_.heap = h0) (fun _ _ _ _ _ => True) (fun _ U_ o_ V_ => ∃ v_ L_, o_ = .returned v_ ∧ Qsl0 Z x t kb vs ds G1 h0 n0 v_ V_.heap L_ ∧ FrameEnd U_ o_ V_ L_ r_m6.cells r_m6.slots) := by
  refine MetFree.of_bodySF (plainFor_of_name pn_1) hisR ?_
  intro p e s m args below meth c s₁ Bd hml0 hP hK
  obtain ⟨rfl, hZ, hh⟩ := hP
  have hx := Bd.exec
  have hby := Bd.bytes
  have hml : c.maxLocals = 1 := hml0
  have hown : s.vm.findClass "java/lang/String" = some m.cls := findClass_of_methodNamed Bd.named
  have hnm := (name_of_methodNamed Bd.named Bd.method).1
  have X0 : Stand p l e r_m6 s m #[(.ref x)] below meth c s₁ [] 0 0 := Stand.of_body Bd
  have e0 : s₁.heap = h0 := by rw [← hh, Bd.state]; rfl
  have N0 := Fr.nil n0
  have Oo := q2.1
  have zo := q2.2
  have lt156 := own_alt q3.lt
  have lt157 := own_alt q4.lt
  have lt158 := own_alt q5.lt
  have lt159 := own_alt q6.lt
  refine Gl.go (A := s₁.setTop (entryFrame m #[(.ref x)] 1)) (P := fun o_ U_ => ∃ v_ L_, o_ = .returned v_ ∧ Qsl0 Z x t kb vs ds G1 h0 n0 v_ U_.heap L_ ∧ FrameEnd s o_ U_ L_ r_m6.cells r_m6.slots) (fun t_ k_ => castTop (ef_sl0 m x) k_) ?_
  show Gl p.tables e below _ (s₁.setTop (mkF m 0 #[sR x] []))
  refine Gl.go (fun _ hr => zXS_aloadN X0.here hx rfl (hb hby d12_0) rfl rfl hr) ?_
  refine gGetF (host := "") Gl.cl X0 hx hZ hown (Or.inl (tw hw 25 rfl)) Via.refl e0 q4 rfl rfl (hb hby d12_1) ?_
  intro T160 X160 e160
  obtain ⟨c161, a161, q161, s161, m161, H161, U161⟩ := id q6
  refine gLen Gl.cl X160 hx hZ e160 a161 s161 m161 rfl rfl (hb hby d12_4) ?_
  refine Gl.go (fun _ hr => zXS_aloadN X160.here hx rfl (hb hby d12_5) rfl rfl hr) ?_
  have zz162 : n0 ≤ h0.size := by omega
  refine gVirtualN Gl.cl (y := y_10) (z := y_10) (b := x) (argsL := []) (rest := [(.int (Int32.ofNat ds.length))]) (mc := 0) (ms := 0) X160 hx hZ hown (mvT hZ (tw hw 81 rfl)) (mvT hZ (tw hw 82 rfl)) (notFace_of_selects (args := #[]) (mvT hZ (tw hw 84 rfl))) (mvT hZ (tw hw 84 rfl)) (mvT hZ (tw hw 83 rfl)) (by decide) q3 (backOf (W := 1) (cod0 l Z a0 hw [] x G1 h0 n0 zz162 q0 (by assumption) ⟨Oo, (by omega)⟩ q5) hZ (tw hw 85 rfl) (tw hw 7 rfl) (by decide) (by decide)) rfl (by rw [hml]; rfl) (lenOf pd_8 rfl) rfl (by exact Nat.le_of_eq rfl) (hb hby d12_6) rfl e160 (by decide) (by decide) ?_
  intro v162 T162 Lc162 hQ162 X162
  obtain ⟨rfl, Nq162, e162⟩ := hQ162
  have N162 := Fr.app N0 Nq162
  refine Gl.go (fun _ hr => zXT_ishr X162.here hx rfl (hb hby d12_9) rfl hr) ?_
  show Gl p.tables e below _ (T162.setTop (mkF m 10 #[sR x] [(.int ((Int32.ofNat ds.length) >>> ((0 : Int32) &&& 31)))]))
  rw [(StrChars.shr0 _)]
  show Gl p.tables e below _ (T162.setTop (mkF m 10 #[sR x] [(.int (Int32.ofNat ds.length))]))
  obtain ⟨fs, hr, hrun, hended, hW, hsame⟩ := X162.leave (v := some (.int (Int32.ofNat ds.length))) (fun h => by rw [Bd.returns] at h; cases h)
  refine ⟨_, _, retOut X162 hx Bd.returns rfl (Or.inl ⟨rfl, Or.inl rfl, _, rfl⟩) (hb hby d12_10) hr, hrun, hended, _, _, rfl, ?_, ⟨⟨_, rfl⟩, hW, hsame.mono (by decide) (by decide)⟩⟩
  show Qsl0 Z x t kb vs ds G1 h0 n0 _ T162.heap _
  rw [e162]
  exact ⟨rfl, N162, rfl⟩
def Qens0 (Z : State) (b : Addr) (a : Addr) (ka : ClassId) (cap : Nat) (vs : List Value) (k : Nat) (h0 : Heap) (n0 : Nat) (v : Option Value) (h : Heap) (L : List Loc) : Prop := v = none ∧ Fr n0 L ∧ h = h0
theorem ef_ens0 (m : MethodId) (x0 : Addr) (x1 : Int32) : entryFrame m #[(.ref x0), (.int x1)] 3 = mkF m 0 #[sR x0, sI x1, sU] [] := by first | (simp [entryFrame, mkF, argsToLocals, Value.category]; done) | rfl
theorem d14_0 : decode jdk_68_method_9_code 0 = .ok (.aload_n 0, 1) := by decide +kernel
theorem d14_1 : decode jdk_68_method_9_code 1 = .ok (.getfield 15, 3) := by decide +kernel
theorem d14_4 : decode jdk_68_method_9_code 4 = .ok (.arraylength, 1) := by decide +kernel
theorem d14_5 : decode jdk_68_method_9_code 5 = .ok (.aload_n 0, 1) := by decide +kernel
theorem d14_6 : decode jdk_68_method_9_code 6 = .ok (.getfield 22, 3) := by decide +kernel
theorem d14_9 : decode jdk_68_method_9_code 9 = .ok (.ishr, 1) := by decide +kernel
theorem d14_10 : decode jdk_68_method_9_code 10 = .ok (.istore_n 2, 1) := by decide +kernel
theorem d14_11 : decode jdk_68_method_9_code 11 = .ok (.iload_n 1, 1) := by decide +kernel
theorem d14_12 : decode jdk_68_method_9_code 12 = .ok (.iload_n 2, 1) := by decide +kernel
theorem d14_13 : decode jdk_68_method_9_code 13 = .ok (.isub, 1) := by decide +kernel
theorem d14_14 : decode jdk_68_method_9_code 14 = .ok (.ifCond .le 24, 3) := by decide +kernel
theorem d14_38 : decode jdk_68_method_9_code 38 = .ok (.return_, 1) := by decide +kernel
set_option maxRecDepth 65536 in
set_option maxHeartbeats 40000000 in
theorem ens0 (l : Launch) (Z : State) (a0 : Array Value) (hw : ∀ d ∈ tables_1, d.before a0 Z = true) (ws : List Jvm.Cond) (b : Addr) (a : Addr) (ka : ClassId) (cap : Nat) (vs : List Value) (k : Nat) (h0 : Heap) (n0 : Nat) (Z0 : n0 ≤ h0.size) (q0 : Fld Z h0 b "java/lang/AbstractStringBuilder" "value" "[B" (.ref a)) (q1 : Fld Z h0 b "java/lang/AbstractStringBuilder" "coder" "B" (.int (0 : Int32))) (q2 : Arv Z h0 a ka .byte (Int32.ofNat cap) vs (.int (0 : Int32))) (hk : k ≤ cap) (hcap : cap ≤ 18) :
    MetFree l y_13 (head1 (Jvm.Cond.code y_13 jdk_68_method_9_code 3 none :: ws) r_m0) (fun a_ U_ => a_ = #[(.ref b), (.int (Int32.ofNat k))] ∧ Z.Warmed39 U_.vm ∧ U_.heap = h0) (fun _ _ _ _ _ => True) (fun _ U_ o_ V_ => ∃ v_ L_, o_ = .returned v_ ∧ Qens0 Z b a ka cap vs k h0 n0 v_ V_.heap L_ ∧ FrameEnd U_ o_ V_ L_ r_m0.cells r_m0.slots) := by
  refine MetFree.of_bodySF (plainFor_of_name pn_2) hisR ?_
  intro p e s m args below meth c s₁ Bd hml0 hP hK
  obtain ⟨rfl, hZ, hh⟩ := hP
  have hx := Bd.exec
  have hby := Bd.bytes
  have hml : c.maxLocals = 3 := hml0
  have hown : s.vm.findClass "java/lang/AbstractStringBuilder" = some m.cls := findClass_of_methodNamed Bd.named
  have hnm := (name_of_methodNamed Bd.named Bd.method).1
  have X0 : Stand p l e r_m0 s m #[(.ref b), (.int (Int32.ofNat k))] below meth c s₁ [] 0 0 := Stand.of_body Bd
  have e0 : s₁.heap = h0 := by rw [← hh, Bd.state]; rfl
  have N0 := Fr.nil n0
  have lt163 := own_alt q0.lt
  have lt164 := own_alt q1.lt
  have lt165 := own_alt q2.lt
  refine Gl.go (A := s₁.setTop (entryFrame m #[(.ref b), (.int (Int32.ofNat k))] 3)) (P := fun o_ U_ => ∃ v_ L_, o_ = .returned v_ ∧ Qens0 Z b a ka cap vs k h0 n0 v_ U_.heap L_ ∧ FrameEnd s o_ U_ L_ r_m0.cells r_m0.slots) (fun t_ k_ => castTop (ef_ens0 m b (Int32.ofNat k)) k_) ?_
  show Gl p.tables e below _ (s₁.setTop (mkF m 0 #[sR b, sI (Int32.ofNat k), sU] []))
  refine Gl.go (fun _ hr => zXS_aloadN X0.here hx rfl (hb hby d14_0) rfl rfl hr) ?_
  refine gGetF (host := "") Gl.cl X0 hx hZ hown (Or.inl (tw hw 62 rfl)) Via.refl e0 q0 rfl rfl (hb hby d14_1) ?_
  intro T166 X166 e166
  obtain ⟨c167, a167, q167, s167, m167, H167, U167⟩ := id q2
  refine gLen Gl.cl X166 hx hZ e166 a167 s167 m167 rfl rfl (hb hby d14_4) ?_
  refine Gl.go (fun _ hr => zXS_aloadN X166.here hx rfl (hb hby d14_5) rfl rfl hr) ?_
  refine gGetF (host := "") Gl.cl X166 hx hZ hown (Or.inl (tw hw 64 rfl)) Via.refl e166 q1 rfl rfl (hb hby d14_6) ?_
  intro T168 X168 e168
  refine Gl.go (fun _ hr => zXT_ishr X168.here hx rfl (hb hby d14_9) rfl hr) ?_
  show Gl p.tables e below _ (T168.setTop (mkF m 10 #[sR b, sI (Int32.ofNat k), sU] [(.int ((Int32.ofNat cap) >>> ((0 : Int32) &&& 31)))]))
  rw [(StrChars.shr0 _)]
  show Gl p.tables e below _ (T168.setTop (mkF m 10 #[sR b, sI (Int32.ofNat k), sU] [(.int (Int32.ofNat cap))]))
  refine Gl.go (fun _ hr => zXS_istoreN X168.here hx rfl (hb hby d14_10) rfl (l' := #[sR b, sI (Int32.ofNat k), sI (Int32.ofNat cap)]) rfl (zXS_iloadN X168.here hx rfl (hb hby d14_11) rfl (zXS_iloadN X168.here hx rfl (hb hby d14_12) rfl (zXS_isub X168.here hx rfl (hb hby d14_13) rfl hr)))) ?_
  refine Gl.go (fun _ hr => zXS_ifYes X168.here hx rfl (pc0 := 14) (pc' := 38) rfl (hb hby d14_14) rfl (XT.i0_le_t (own_ensG hk hcap)) (by decide) (by decide) hr) ?_
  obtain ⟨fs, hr, hrun, hended, hW, hsame⟩ := X168.leave (v := none) (fun _ => rfl)
  refine ⟨_, _, X168.returnOut hx Bd.returns (hb hby d14_38) hr, hrun, hended, _, _, rfl, ?_, ⟨⟨_, rfl⟩, hW, hsame.mono (by decide) (by decide)⟩⟩
  show Qens0 Z b a ka cap vs k h0 n0 _ T168.heap _
  rw [e168]
  exact ⟨rfl, N0, rfl⟩
def Qsl1 (Z : State) (x : Addr) (t : Addr) (kb : ClassId) (vs : List Value) (ds : List Int32) (G1 : Int32) (h0 : Heap) (n0 : Nat) (v : Option Value) (h : Heap) (L : List Loc) : Prop := v = some (.int (Int32.ofNat ds.length)) ∧ Fr n0 L ∧ h = h0
theorem ef_sl1 (m : MethodId) (x0 : Addr) : entryFrame m #[(.ref x0)] 1 = mkF m 0 #[sR x0] [] := by first | (simp [entryFrame, mkF, argsToLocals, Value.category]; done) | rfl
set_option maxRecDepth 65536 in
set_option maxHeartbeats 40000000 in
theorem sl1 (l : Launch) (Z : State) (a0 : Array Value) (hw : ∀ d ∈ tables_1, d.before a0 Z = true) (ws : List Jvm.Cond) (x : Addr) (t : Addr) (kb : ClassId) (vs : List Value) (ds : List Int32) (G1 : Int32) (h0 : Heap) (n0 : Nat) (Z0 : n0 ≤ h0.size) (q0 : Sta Z Z.heap "java/lang/String" "COMPACT_STRINGS" "Z" (.int G1)) (P5 : ¬ (G1 = (0 : Int32))) (q2 : (Old Z Z.heap.size h0 ∧ @LE.le Nat instLENat Z.heap.size n0)) (q3 : Exa Z h0 x "java/lang/String") (q4 : Fld Z h0 x "java/lang/String" "value" "[B" (.ref t)) (q5 : Fld Z h0 x "java/lang/String" "coder" "B" (.int (1 : Int32))) (q6 : Arv Z h0 t kb .byte (Int32.ofNat (2 * ds.length)) vs (.int (0 : Int32))) (hd : ds.length ≤ 32) :
    MetFree l y_12 (head1 (Jvm.Cond.code y_12 jdk_42_method_54_code 1 (some .int) :: ws) r_m6) (fun a_ U_ => a_ = #[(.ref x)] ∧ Z.Warmed39 U_.vm ∧ U_.heap = h0) (fun _ _ _ _ _ => True) (fun _ U_ o_ V_ => ∃ v_ L_, o_ = .returned v_ ∧ Qsl1 Z x t kb vs ds G1 h0 n0 v_ V_.heap L_ ∧ FrameEnd U_ o_ V_ L_ r_m6.cells r_m6.slots) := by
  refine MetFree.of_bodySF (plainFor_of_name pn_1) hisR ?_
  intro p e s m args below meth c s₁ Bd hml0 hP hK
  obtain ⟨rfl, hZ, hh⟩ := hP
  have hx := Bd.exec
  have hby := Bd.bytes
  have hml : c.maxLocals = 1 := hml0
  have hown : s.vm.findClass "java/lang/String" = some m.cls := findClass_of_methodNamed Bd.named
  have hnm := (name_of_methodNamed Bd.named Bd.method).1
  have X0 : Stand p l e r_m6 s m #[(.ref x)] below meth c s₁ [] 0 0 := Stand.of_body Bd
  have e0 : s₁.heap = h0 := by rw [← hh, Bd.state]; rfl
  have N0 := Fr.nil n0
  have Oo := q2.1
  have zo := q2.2
  have lt169 := own_alt q3.lt
  have lt170 := own_alt q4.lt
  have lt171 := own_alt q5.lt
  have lt172 := own_alt q6.lt
  refine Gl.go (A := s₁.setTop (entryFrame m #[(.ref x)] 1)) (P := fun o_ U_ => ∃ v_ L_, o_ = .returned v_ ∧ Qsl1 Z x t kb vs ds G1 h0 n0 v_ U_.heap L_ ∧ FrameEnd s o_ U_ L_ r_m6.cells r_m6.slots) (fun t_ k_ => castTop (ef_sl1 m x) k_) ?_
  show Gl p.tables e below _ (s₁.setTop (mkF m 0 #[sR x] []))
  refine Gl.go (fun _ hr => zXS_aloadN X0.here hx rfl (hb hby d12_0) rfl rfl hr) ?_
  refine gGetF (host := "") Gl.cl X0 hx hZ hown (Or.inl (tw hw 25 rfl)) Via.refl e0 q4 rfl rfl (hb hby d12_1) ?_
  intro T173 X173 e173
  obtain ⟨c174, a174, q174, s174, m174, H174, U174⟩ := id q6
  refine gLen Gl.cl X173 hx hZ e173 a174 s174 m174 rfl rfl (hb hby d12_4) ?_
  refine Gl.go (fun _ hr => zXS_aloadN X173.here hx rfl (hb hby d12_5) rfl rfl hr) ?_
  have zz175 : n0 ≤ h0.size := by omega
  refine gVirtualN Gl.cl (y := y_10) (z := y_10) (b := x) (argsL := []) (rest := [(.int (Int32.ofNat (2 * ds.length)))]) (mc := 0) (ms := 0) X173 hx hZ hown (mvT hZ (tw hw 81 rfl)) (mvT hZ (tw hw 82 rfl)) (notFace_of_selects (args := #[]) (mvT hZ (tw hw 84 rfl))) (mvT hZ (tw hw 84 rfl)) (mvT hZ (tw hw 83 rfl)) (by decide) q3 (backOf (W := 1) (cod1 l Z a0 hw [] x G1 h0 n0 zz175 q0 (by assumption) ⟨Oo, (by omega)⟩ q5) hZ (tw hw 85 rfl) (tw hw 7 rfl) (by decide) (by decide)) rfl (by rw [hml]; rfl) (lenOf pd_8 rfl) rfl (by exact Nat.le_of_eq rfl) (hb hby d12_6) rfl e173 (by decide) (by decide) ?_
  intro v175 T175 Lc175 hQ175 X175
  obtain ⟨rfl, Nq175, e175⟩ := hQ175
  have N175 := Fr.app N0 Nq175
  refine Gl.go (fun _ hr => zXT_ishr X175.here hx rfl (hb hby d12_9) rfl hr) ?_
  show Gl p.tables e below _ (T175.setTop (mkF m 10 #[sR x] [(.int ((Int32.ofNat (2 * ds.length)) >>> ((1 : Int32) &&& 31)))]))
  rw [(StrChars.shr1 (n := ds.length) (by omega))]
  show Gl p.tables e below _ (T175.setTop (mkF m 10 #[sR x] [(.int (Int32.ofNat ds.length))]))
  obtain ⟨fs, hr, hrun, hended, hW, hsame⟩ := X175.leave (v := some (.int (Int32.ofNat ds.length))) (fun h => by rw [Bd.returns] at h; cases h)
  refine ⟨_, _, retOut X175 hx Bd.returns rfl (Or.inl ⟨rfl, Or.inl rfl, _, rfl⟩) (hb hby d12_10) hr, hrun, hended, _, _, rfl, ?_, ⟨⟨_, rfl⟩, hW, hsame.mono (by decide) (by decide)⟩⟩
  show Qsl1 Z x t kb vs ds G1 h0 n0 _ T175.heap _
  rw [e175]
  exact ⟨rfl, N175, rfl⟩
def Qens1 (Z : State) (b : Addr) (a : Addr) (ka : ClassId) (cap : Nat) (vs : List Value) (k : Nat) (h0 : Heap) (n0 : Nat) (v : Option Value) (h : Heap) (L : List Loc) : Prop := v = none ∧ Fr n0 L ∧ h = h0
theorem ef_ens1 (m : MethodId) (x0 : Addr) (x1 : Int32) : entryFrame m #[(.ref x0), (.int x1)] 3 = mkF m 0 #[sR x0, sI x1, sU] [] := by first | (simp [entryFrame, mkF, argsToLocals, Value.category]; done) | rfl
set_option maxRecDepth 65536 in
set_option maxHeartbeats 40000000 in
theorem ens1 (l : Launch) (Z : State) (a0 : Array Value) (hw : ∀ d ∈ tables_1, d.before a0 Z = true) (ws : List Jvm.Cond) (b : Addr) (a : Addr) (ka : ClassId) (cap : Nat) (vs : List Value) (k : Nat) (h0 : Heap) (n0 : Nat) (Z0 : n0 ≤ h0.size) (q0 : Fld Z h0 b "java/lang/AbstractStringBuilder" "value" "[B" (.ref a)) (q1 : Fld Z h0 b "java/lang/AbstractStringBuilder" "coder" "B" (.int (1 : Int32))) (q2 : Arv Z h0 a ka .byte (Int32.ofNat (2 * cap)) vs (.int (0 : Int32))) (hk : k ≤ cap) (hcap : cap ≤ 18) :
    MetFree l y_13 (head1 (Jvm.Cond.code y_13 jdk_68_method_9_code 3 none :: ws) r_m0) (fun a_ U_ => a_ = #[(.ref b), (.int (Int32.ofNat k))] ∧ Z.Warmed39 U_.vm ∧ U_.heap = h0) (fun _ _ _ _ _ => True) (fun _ U_ o_ V_ => ∃ v_ L_, o_ = .returned v_ ∧ Qens1 Z b a ka cap vs k h0 n0 v_ V_.heap L_ ∧ FrameEnd U_ o_ V_ L_ r_m0.cells r_m0.slots) := by
  refine MetFree.of_bodySF (plainFor_of_name pn_2) hisR ?_
  intro p e s m args below meth c s₁ Bd hml0 hP hK
  obtain ⟨rfl, hZ, hh⟩ := hP
  have hx := Bd.exec
  have hby := Bd.bytes
  have hml : c.maxLocals = 3 := hml0
  have hown : s.vm.findClass "java/lang/AbstractStringBuilder" = some m.cls := findClass_of_methodNamed Bd.named
  have hnm := (name_of_methodNamed Bd.named Bd.method).1
  have X0 : Stand p l e r_m0 s m #[(.ref b), (.int (Int32.ofNat k))] below meth c s₁ [] 0 0 := Stand.of_body Bd
  have e0 : s₁.heap = h0 := by rw [← hh, Bd.state]; rfl
  have N0 := Fr.nil n0
  have lt176 := own_alt q0.lt
  have lt177 := own_alt q1.lt
  have lt178 := own_alt q2.lt
  refine Gl.go (A := s₁.setTop (entryFrame m #[(.ref b), (.int (Int32.ofNat k))] 3)) (P := fun o_ U_ => ∃ v_ L_, o_ = .returned v_ ∧ Qens1 Z b a ka cap vs k h0 n0 v_ U_.heap L_ ∧ FrameEnd s o_ U_ L_ r_m0.cells r_m0.slots) (fun t_ k_ => castTop (ef_ens1 m b (Int32.ofNat k)) k_) ?_
  show Gl p.tables e below _ (s₁.setTop (mkF m 0 #[sR b, sI (Int32.ofNat k), sU] []))
  refine Gl.go (fun _ hr => zXS_aloadN X0.here hx rfl (hb hby d14_0) rfl rfl hr) ?_
  refine gGetF (host := "") Gl.cl X0 hx hZ hown (Or.inl (tw hw 62 rfl)) Via.refl e0 q0 rfl rfl (hb hby d14_1) ?_
  intro T179 X179 e179
  obtain ⟨c180, a180, q180, s180, m180, H180, U180⟩ := id q2
  refine gLen Gl.cl X179 hx hZ e179 a180 s180 m180 rfl rfl (hb hby d14_4) ?_
  refine Gl.go (fun _ hr => zXS_aloadN X179.here hx rfl (hb hby d14_5) rfl rfl hr) ?_
  refine gGetF (host := "") Gl.cl X179 hx hZ hown (Or.inl (tw hw 64 rfl)) Via.refl e179 q1 rfl rfl (hb hby d14_6) ?_
  intro T181 X181 e181
  refine Gl.go (fun _ hr => zXT_ishr X181.here hx rfl (hb hby d14_9) rfl hr) ?_
  show Gl p.tables e below _ (T181.setTop (mkF m 10 #[sR b, sI (Int32.ofNat k), sU] [(.int ((Int32.ofNat (2 * cap)) >>> ((1 : Int32) &&& 31)))]))
  rw [(StrChars.shr1 (n := cap) (by omega))]
  show Gl p.tables e below _ (T181.setTop (mkF m 10 #[sR b, sI (Int32.ofNat k), sU] [(.int (Int32.ofNat cap))]))
  refine Gl.go (fun _ hr => zXS_istoreN X181.here hx rfl (hb hby d14_10) rfl (l' := #[sR b, sI (Int32.ofNat k), sI (Int32.ofNat cap)]) rfl (zXS_iloadN X181.here hx rfl (hb hby d14_11) rfl (zXS_iloadN X181.here hx rfl (hb hby d14_12) rfl (zXS_isub X181.here hx rfl (hb hby d14_13) rfl hr)))) ?_
  refine Gl.go (fun _ hr => zXS_ifYes X181.here hx rfl (pc0 := 14) (pc' := 38) rfl (hb hby d14_14) rfl (XT.i0_le_t (own_ensG hk hcap)) (by decide) (by decide) hr) ?_
  obtain ⟨fs, hr, hrun, hended, hW, hsame⟩ := X181.leave (v := none) (fun _ => rfl)
  refine ⟨_, _, X181.returnOut hx Bd.returns (hb hby d14_38) hr, hrun, hended, _, _, rfl, ?_, ⟨⟨_, rfl⟩, hW, hsame.mono (by decide) (by decide)⟩⟩
  show Qens1 Z b a ka cap vs k h0 n0 _ T181.heap _
  rw [e181]
  exact ⟨rfl, N0, rfl⟩
def Qu16l (Z : State) (a : Addr) (ka : ClassId) (n2 : Nat) (vs : List Value) (h0 : Heap) (n0 : Nat) (v : Option Value) (h : Heap) (L : List Loc) : Prop := v = some (.int (Int32.ofNat n2)) ∧ Fr n0 L ∧ h = h0
theorem ef_u16l (m : MethodId) (x0 : Addr) : entryFrame m #[(.ref x0)] 1 = mkF m 0 #[sR x0] [] := by first | (simp [entryFrame, mkF, argsToLocals, Value.category]; done) | rfl
theorem d49_0 : decode jdk_52_method_6_code 0 = .ok (.aload_n 0, 1) := by decide +kernel
theorem d49_1 : decode jdk_52_method_6_code 1 = .ok (.arraylength, 1) := by decide +kernel
theorem d49_2 : decode jdk_52_method_6_code 2 = .ok (.iconst 1, 1) := by decide +kernel
theorem d49_3 : decode jdk_52_method_6_code 3 = .ok (.ishr, 1) := by decide +kernel
theorem d49_4 : decode jdk_52_method_6_code 4 = .ok (.ireturn, 1) := by decide +kernel
set_option maxRecDepth 65536 in
set_option maxHeartbeats 40000000 in
theorem u16l (l : Launch) (Z : State) (a0 : Array Value) (hw : ∀ d ∈ tables_1, d.before a0 Z = true) (ws : List Jvm.Cond) (a : Addr) (ka : ClassId) (n2 : Nat) (vs : List Value) (h0 : Heap) (n0 : Nat) (Z0 : n0 ≤ h0.size) (q0 : Arv Z h0 a ka .byte (Int32.ofNat (2 * n2)) vs (.int (0 : Int32))) (hn2 : n2 ≤ 64) :
    MetFree l y_14 (head1 (Jvm.Cond.code y_14 jdk_52_method_6_code 1 (some .int) :: ws) r_m0) (fun a_ U_ => a_ = #[(.ref a)] ∧ Z.Warmed39 U_.vm ∧ U_.heap = h0) (fun _ _ _ _ _ => True) (fun _ U_ o_ V_ => ∃ v_ L_, o_ = .returned v_ ∧ Qu16l Z a ka n2 vs h0 n0 v_ V_.heap L_ ∧ FrameEnd U_ o_ V_ L_ r_m0.cells r_m0.slots) := by
  refine MetFree.of_bodySF (plainFor_of_name pn_0) hisR ?_
  intro p e s m args below meth c s₁ Bd hml0 hP hK
  obtain ⟨rfl, hZ, hh⟩ := hP
  have hx := Bd.exec
  have hby := Bd.bytes
  have hml : c.maxLocals = 1 := hml0
  have hown : s.vm.findClass "java/lang/StringUTF16" = some m.cls := findClass_of_methodNamed Bd.named
  have hnm := (name_of_methodNamed Bd.named Bd.method).1
  have X0 : Stand p l e r_m0 s m #[(.ref a)] below meth c s₁ [] 0 0 := Stand.of_body Bd
  have e0 : s₁.heap = h0 := by rw [← hh, Bd.state]; rfl
  have N0 := Fr.nil n0
  have lt182 := own_alt q0.lt
  refine Gl.go (A := s₁.setTop (entryFrame m #[(.ref a)] 1)) (P := fun o_ U_ => ∃ v_ L_, o_ = .returned v_ ∧ Qu16l Z a ka n2 vs h0 n0 v_ U_.heap L_ ∧ FrameEnd s o_ U_ L_ r_m0.cells r_m0.slots) (fun t_ k_ => castTop (ef_u16l m a) k_) ?_
  show Gl p.tables e below _ (s₁.setTop (mkF m 0 #[sR a] []))
  refine Gl.go (fun _ hr => zXS_aloadN X0.here hx rfl (hb hby d49_0) rfl rfl hr) ?_
  obtain ⟨c183, a183, q183, s183, m183, H183, U183⟩ := id q0
  refine gLen Gl.cl X0 hx hZ e0 a183 s183 m183 rfl rfl (hb hby d49_1) ?_
  refine Gl.go (fun _ hr => zXS_iconst X0.here hx rfl (hb hby d49_2) (zXT_ishr X0.here hx rfl (hb hby d49_3) rfl hr)) ?_
  show Gl p.tables e below _ (s₁.setTop (mkF m 4 #[sR a] [(.int ((Int32.ofNat (2 * n2)) >>> ((1 : Int32) &&& 31)))]))
  rw [(StrChars.shr1 (n := n2) (by omega))]
  show Gl p.tables e below _ (s₁.setTop (mkF m 4 #[sR a] [(.int (Int32.ofNat n2))]))
  obtain ⟨fs, hr, hrun, hended, hW, hsame⟩ := X0.leave (v := some (.int (Int32.ofNat n2))) (fun h => by rw [Bd.returns] at h; cases h)
  refine ⟨_, _, retOut X0 hx Bd.returns rfl (Or.inl ⟨rfl, Or.inl rfl, _, rfl⟩) (hb hby d49_4) hr, hrun, hended, _, _, rfl, ?_, ⟨⟨_, rfl⟩, hW, hsame.mono (by decide) (by decide)⟩⟩
  show Qu16l Z a ka n2 vs h0 n0 _ s₁.heap _
  rw [e0]
  exact ⟨rfl, N0, rfl⟩
def Qcfs (Z : State) (off : Nat) (cnt : Nat) (n2 : Nat) (G3 : Value) (h0 : Heap) (n0 : Nat) (v : Option Value) (h : Heap) (L : List Loc) : Prop := v = some (.int (Int32.ofNat off)) ∧ Fr n0 L ∧ h = h0
theorem pn_3 : plainName "jdk/internal/util/Preconditions" = true := by first | (simp [plainName, overriddenIn]; done) | decide +kernel
theorem ef_cfs (m : MethodId) (x0 : Int32) (x1 : Int32) (x2 : Int32) (x3 : Value) (hx3 : x3.isRef = true) : entryFrame m #[(.int x0), (.int x1), (.int x2), x3] 4 = mkF m 0 #[sI x0, sI x1, sI x2, .val x3] [] := by
  cases x3 <;> first | rfl | exact Bool.noConfusion hx3 | (simp [entryFrame, mkF, argsToLocals, Value.category]; done)
theorem d51_0 : decode jdk_41_method_13_code 0 = .ok (.iload_n 2, 1) := by decide +kernel
theorem d51_1 : decode jdk_41_method_13_code 1 = .ok (.iload_n 0, 1) := by decide +kernel
theorem d51_2 : decode jdk_41_method_13_code 2 = .ok (.ior, 1) := by decide +kernel
theorem d51_3 : decode jdk_41_method_13_code 3 = .ok (.iload_n 1, 1) := by decide +kernel
theorem d51_4 : decode jdk_41_method_13_code 4 = .ok (.ior, 1) := by decide +kernel
theorem d51_5 : decode jdk_41_method_13_code 5 = .ok (.ifCond .lt 10, 3) := by decide +kernel
theorem d51_8 : decode jdk_41_method_13_code 8 = .ok (.iload_n 1, 1) := by decide +kernel
theorem d51_9 : decode jdk_41_method_13_code 9 = .ok (.iload_n 2, 1) := by decide +kernel
theorem d51_10 : decode jdk_41_method_13_code 10 = .ok (.iload_n 0, 1) := by decide +kernel
theorem d51_11 : decode jdk_41_method_13_code 11 = .ok (.isub, 1) := by decide +kernel
theorem d51_12 : decode jdk_41_method_13_code 12 = .ok (.if_icmp .le 11, 3) := by decide +kernel
theorem d51_23 : decode jdk_41_method_13_code 23 = .ok (.iload_n 0, 1) := by decide +kernel
theorem d51_24 : decode jdk_41_method_13_code 24 = .ok (.ireturn, 1) := by decide +kernel
set_option maxRecDepth 65536 in
set_option maxHeartbeats 40000000 in
theorem cfs (l : Launch) (Z : State) (a0 : Array Value) (hw : ∀ d ∈ tables_1, d.before a0 Z = true) (ws : List Jvm.Cond) (off : Nat) (cnt : Nat) (n2 : Nat) (G3 : Value) (h0 : Heap) (n0 : Nat) (Z0 : n0 ≤ h0.size) (rG3 : G3.isRef = true) (hob : off + cnt ≤ n2) (hn2 : n2 ≤ 64) :
    MetFree l y_15 (head1 (Jvm.Cond.code y_15 jdk_41_method_13_code 4 (some .int) :: ws) r_m0) (fun a_ U_ => a_ = #[(.int (Int32.ofNat off)), (.int (Int32.ofNat cnt)), (.int (Int32.ofNat n2)), G3] ∧ Z.Warmed39 U_.vm ∧ U_.heap = h0) (fun _ _ _ _ _ => True) (fun _ U_ o_ V_ => ∃ v_ L_, o_ = .returned v_ ∧ Qcfs Z off cnt n2 G3 h0 n0 v_ V_.heap L_ ∧ FrameEnd U_ o_ V_ L_ r_m0.cells r_m0.slots) := by
  refine MetFree.of_bodySF (plainFor_of_name pn_3) hisR ?_
  intro p e s m args below meth c s₁ Bd hml0 hP hK
  obtain ⟨rfl, hZ, hh⟩ := hP
  have hx := Bd.exec
  have hby := Bd.bytes
  have hml : c.maxLocals = 4 := hml0
  have hown : s.vm.findClass "jdk/internal/util/Preconditions" = some m.cls := findClass_of_methodNamed Bd.named
  have hnm := (name_of_methodNamed Bd.named Bd.method).1
  have X0 : Stand p l e r_m0 s m #[(.int (Int32.ofNat off)), (.int (Int32.ofNat cnt)), (.int (Int32.ofNat n2)), G3] below meth c s₁ [] 0 0 := Stand.of_body Bd
  have e0 : s₁.heap = h0 := by rw [← hh, Bd.state]; rfl
  have N0 := Fr.nil n0
  refine Gl.go (A := s₁.setTop (entryFrame m #[(.int (Int32.ofNat off)), (.int (Int32.ofNat cnt)), (.int (Int32.ofNat n2)), G3] 4)) (P := fun o_ U_ => ∃ v_ L_, o_ = .returned v_ ∧ Qcfs Z off cnt n2 G3 h0 n0 v_ U_.heap L_ ∧ FrameEnd s o_ U_ L_ r_m0.cells r_m0.slots) (fun t_ k_ => castTop (ef_cfs m (Int32.ofNat off) (Int32.ofNat cnt) (Int32.ofNat n2) G3 (by assumption)) k_) ?_
  show Gl p.tables e below _ (s₁.setTop (mkF m 0 #[sI (Int32.ofNat off), sI (Int32.ofNat cnt), sI (Int32.ofNat n2), .val G3] []))
  refine Gl.go (fun _ hr => zXS_iloadN X0.here hx rfl (hb hby d51_0) rfl (zXS_iloadN X0.here hx rfl (hb hby d51_1) rfl (zXT_ior X0.here hx rfl (hb hby d51_2) rfl (zXS_iloadN X0.here hx rfl (hb hby d51_3) rfl (zXT_ior X0.here hx rfl (hb hby d51_4) rfl hr))))) ?_
  refine Gl.go (fun _ hr => zXS_ifNo X0.here hx rfl (hb hby d51_5) rfl (XT.i0_lt_f (own_or3 (by omega) (by omega) (by omega))) (zXS_iloadN X0.here hx rfl (hb hby d51_8) rfl (zXS_iloadN X0.here hx rfl (hb hby d51_9) rfl (zXS_iloadN X0.here hx rfl (hb hby d51_10) rfl (zXS_isub X0.here hx rfl (hb hby d51_11) rfl hr))))) ?_
  show Gl p.tables e below _ (s₁.setTop (mkF m 12 #[sI (Int32.ofNat off), sI (Int32.ofNat cnt), sI (Int32.ofNat n2), .val G3] [(.int ((Int32.ofNat n2) - (Int32.ofNat off))), (.int (Int32.ofNat cnt))]))
  rw [(own_sub32 (by omega))]
  show Gl p.tables e below _ (s₁.setTop (mkF m 12 #[sI (Int32.ofNat off), sI (Int32.ofNat cnt), sI (Int32.ofNat n2), .val G3] [(.int (Int32.ofNat (n2 - off))), (.int (Int32.ofNat cnt))]))
  refine Gl.go (fun _ hr => zXS_icmpYes X0.here hx rfl (pc0 := 12) (pc' := 23) rfl (hb hby d51_12) rfl (XT.ii_le_t (own_nlt32 (by omega) (by omega) (by omega))) (by decide) (by decide) (zXS_iloadN X0.here hx rfl (hb hby d51_23) rfl hr)) ?_
  obtain ⟨fs, hr, hrun, hended, hW, hsame⟩ := X0.leave (v := some (.int (Int32.ofNat off))) (fun h => by rw [Bd.returns] at h; cases h)
  refine ⟨_, _, retOut X0 hx Bd.returns rfl (Or.inl ⟨rfl, Or.inl rfl, _, rfl⟩) (hb hby d51_24) hr, hrun, hended, _, _, rfl, ?_, ⟨⟨_, rfl⟩, hW, hsame.mono (by decide) (by decide)⟩⟩
  show Qcfs Z off cnt n2 G3 h0 n0 _ s₁.heap _
  rw [e0]
  exact ⟨rfl, N0, rfl⟩
def Qsbo (Z : State) (off : Nat) (cnt : Nat) (n2 : Nat) (G3 : Value) (h0 : Heap) (n0 : Nat) (v : Option Value) (h : Heap) (L : List Loc) : Prop := v = some (.int (Int32.ofNat off)) ∧ Fr n0 L ∧ h = h0
theorem ef_sbo (m : MethodId) (x0 : Int32) (x1 : Int32) (x2 : Int32) : entryFrame m #[(.int x0), (.int x1), (.int x2)] 3 = mkF m 0 #[sI x0, sI x1, sI x2] [] := by first | (simp [entryFrame, mkF, argsToLocals, Value.category]; done) | rfl
theorem d50_0 : decode jdk_42_method_157_code 0 = .ok (.iload_n 0, 1) := by decide +kernel
theorem d50_1 : decode jdk_42_method_157_code 1 = .ok (.iload_n 1, 1) := by decide +kernel
theorem d50_2 : decode jdk_42_method_157_code 2 = .ok (.iload_n 2, 1) := by decide +kernel
theorem d50_3 : decode jdk_42_method_157_code 3 = .ok (.getstatic 1053, 3) := by decide +kernel
theorem d50_6 : decode jdk_42_method_157_code 6 = .ok (.invokestatic 1065, 3) := by decide +kernel
theorem pd_9 : parseMethodDescriptor "(IIILjava/util/function/BiFunction;)I" = some ⟨[.int, .int, .int, (.object "java/util/function/BiFunction")], some .int⟩ := by decide +kernel
theorem d50_9 : decode jdk_42_method_157_code 9 = .ok (.ireturn, 1) := by decide +kernel
set_option maxRecDepth 65536 in
set_option maxHeartbeats 40000000 in
theorem sbo (l : Launch) (Z : State) (a0 : Array Value) (hw : ∀ d ∈ tables_1, d.before a0 Z = true) (ws : List Jvm.Cond) (off : Nat) (cnt : Nat) (n2 : Nat) (G3 : Value) (h0 : Heap) (n0 : Nat) (Z0 : n0 ≤ h0.size) (q0 : (Old Z Z.heap.size h0 ∧ @LE.le Nat instLENat Z.heap.size n0)) (q1 : Sta Z Z.heap "jdk/internal/util/Preconditions" "SIOOBE_FORMATTER" "Ljava/util/function/BiFunction;" G3) (rG3 : G3.isRef = true) (hob : off + cnt ≤ n2) (hn2 : n2 ≤ 64) :
    MetFree l y_16 (head1 (Jvm.Cond.code y_16 jdk_42_method_157_code 3 (some .int) :: ws) r_m6) (fun a_ U_ => a_ = #[(.int (Int32.ofNat off)), (.int (Int32.ofNat cnt)), (.int (Int32.ofNat n2))] ∧ Z.Warmed39 U_.vm ∧ U_.heap = h0) (fun _ _ _ _ _ => True) (fun _ U_ o_ V_ => ∃ v_ L_, o_ = .returned v_ ∧ Qsbo Z off cnt n2 G3 h0 n0 v_ V_.heap L_ ∧ FrameEnd U_ o_ V_ L_ r_m6.cells r_m6.slots) := by
  refine MetFree.of_bodySF (plainFor_of_name pn_1) hisR ?_
  intro p e s m args below meth c s₁ Bd hml0 hP hK
  obtain ⟨rfl, hZ, hh⟩ := hP
  have hx := Bd.exec
  have hby := Bd.bytes
  have hml : c.maxLocals = 3 := hml0
  have hown : s.vm.findClass "java/lang/String" = some m.cls := findClass_of_methodNamed Bd.named
  have hnm := (name_of_methodNamed Bd.named Bd.method).1
  have X0 : Stand p l e r_m6 s m #[(.int (Int32.ofNat off)), (.int (Int32.ofNat cnt)), (.int (Int32.ofNat n2))] below meth c s₁ [] 0 0 := Stand.of_body Bd
  have e0 : s₁.heap = h0 := by rw [← hh, Bd.state]; rfl
  have N0 := Fr.nil n0
  have Oo := q0.1
  have zo := q0.2
  refine Gl.go (A := s₁.setTop (entryFrame m #[(.int (Int32.ofNat off)), (.int (Int32.ofNat cnt)), (.int (Int32.ofNat n2))] 3)) (P := fun o_ U_ => ∃ v_ L_, o_ = .returned v_ ∧ Qsbo Z off cnt n2 G3 h0 n0 v_ U_.heap L_ ∧ FrameEnd s o_ U_ L_ r_m6.cells r_m6.slots) (fun t_ k_ => castTop (ef_sbo m (Int32.ofNat off) (Int32.ofNat cnt) (Int32.ofNat n2)) k_) ?_
  show Gl p.tables e below _ (s₁.setTop (mkF m 0 #[sI (Int32.ofNat off), sI (Int32.ofNat cnt), sI (Int32.ofNat n2)] []))
  refine Gl.go (fun _ hr => zXS_iloadN X0.here hx rfl (hb hby d50_0) rfl (zXS_iloadN X0.here hx rfl (hb hby d50_1) rfl (zXS_iloadN X0.here hx rfl (hb hby d50_2) rfl hr))) ?_
  refine gGetS (host := "") Gl.cl X0 hx hZ hown (Or.inl (tw hw 181 rfl)) Via.refl e0 (q1.ext Oo.2) rfl (hb hby d50_3) ?_
  intro T184 X184 e184
  have zz185 : n0 ≤ h0.size := by omega
  refine gStaticN Gl.cl (y := y_15) (argsL := [(.int (Int32.ofNat off)), (.int (Int32.ofNat cnt)), (.int (Int32.ofNat n2)), G3]) (rest := []) (mc := 0) (ms := 0) X184 hx hZ hown (mvT hZ (tw hw 243 rfl)) (mvT hZ (tw hw 244 rfl)) (mvT hZ (tw hw 182 rfl)) (mvT hZ (tw hw 245 rfl)) (by decide) (backOf (W := 0) (cfs l Z a0 hw [] off cnt n2 G3 h0 n0 zz185 (by assumption) (by assumption) (by assumption)) hZ (tw hw 245 rfl) (tw hw 182 rfl) (by decide) (by decide)) rfl (by rw [hml]; rfl) (lenOf pd_9 rfl) rfl (by exact Nat.le_of_eq rfl) (hb hby d50_6) rfl e184 (by decide) (by decide) ?_
  intro v185 T185 Lc185 hQ185 X185
  obtain ⟨rfl, Nq185, e185⟩ := hQ185
  have N185 := Fr.app N0 Nq185
  obtain ⟨fs, hr, hrun, hended, hW, hsame⟩ := X185.leave (v := some (.int (Int32.ofNat off))) (fun h => by rw [Bd.returns] at h; cases h)
  refine ⟨_, _, retOut X185 hx Bd.returns rfl (Or.inl ⟨rfl, Or.inl rfl, _, rfl⟩) (hb hby d50_9) hr, hrun, hended, _, _, rfl, ?_, ⟨⟨_, rfl⟩, hW, hsame.mono (by decide) (by decide)⟩⟩
  show Qsbo Z off cnt n2 G3 h0 n0 _ T185.heap _
  rw [e185]
  exact ⟨rfl, N185, rfl⟩
def Qubo (Z : State) (off : Nat) (cnt : Nat) (n2 : Nat) (a : Addr) (ka : ClassId) (vs : List Value) (G3 : Value) (h0 : Heap) (n0 : Nat) (v : Option Value) (h : Heap) (L : List Loc) : Prop := v = none ∧ Fr n0 L ∧ h = h0
theorem ef_ubo (m : MethodId) (x0 : Int32) (x1 : Int32) (x2 : Addr) : entryFrame m #[(.int x0), (.int x1), (.ref x2)] 3 = mkF m 0 #[sI x0, sI x1, sR x2] [] := by first | (simp [entryFrame, mkF, argsToLocals, Value.category]; done) | rfl
theorem d48_0 : decode jdk_52_method_94_code 0 = .ok (.iload_n 0, 1) := by decide +kernel
theorem d48_1 : decode jdk_52_method_94_code 1 = .ok (.iload_n 1, 1) := by decide +kernel
theorem d48_2 : decode jdk_52_method_94_code 2 = .ok (.aload_n 2, 1) := by decide +kernel
theorem d48_3 : decode jdk_52_method_94_code 3 = .ok (.invokestatic 48, 3) := by decide +kernel
theorem pd_10 : parseMethodDescriptor "([B)I" = some ⟨[(.array .byte)], some .int⟩ := by decide +kernel
theorem d48_6 : decode jdk_52_method_94_code 6 = .ok (.invokestatic 419, 3) := by decide +kernel
theorem pd_11 : parseMethodDescriptor "(III)I" = some ⟨[.int, .int, .int], some .int⟩ := by decide +kernel
theorem d48_9 : decode jdk_52_method_94_code 9 = .ok (.pop, 1) := by decide +kernel
theorem d48_10 : decode jdk_52_method_94_code 10 = .ok (.return_, 1) := by decide +kernel
set_option maxRecDepth 65536 in
set_option maxHeartbeats 40000000 in
theorem ubo (l : Launch) (Z : State) (a0 : Array Value) (hw : ∀ d ∈ tables_1, d.before a0 Z = true) (ws : List Jvm.Cond) (off : Nat) (cnt : Nat) (n2 : Nat) (a : Addr) (ka : ClassId) (vs : List Value) (G3 : Value) (h0 : Heap) (n0 : Nat) (Z0 : n0 ≤ h0.size) (q0 : (Old Z Z.heap.size h0 ∧ @LE.le Nat instLENat Z.heap.size n0)) (q1 : Sta Z Z.heap "jdk/internal/util/Preconditions" "SIOOBE_FORMATTER" "Ljava/util/function/BiFunction;" G3) (rG3 : G3.isRef = true) (q3 : Arv Z h0 a ka .byte (Int32.ofNat (2 * n2)) vs (.int (0 : Int32))) (hob : off + cnt ≤ n2) (hn2 : n2 ≤ 64) :
    MetFree l y_17 (head1 (Jvm.Cond.code y_17 jdk_52_method_94_code 3 none :: ws) r_m7) (fun a_ U_ => a_ = #[(.int (Int32.ofNat off)), (.int (Int32.ofNat cnt)), (.ref a)] ∧ Z.Warmed39 U_.vm ∧ U_.heap = h0) (fun _ _ _ _ _ => True) (fun _ U_ o_ V_ => ∃ v_ L_, o_ = .returned v_ ∧ Qubo Z off cnt n2 a ka vs G3 h0 n0 v_ V_.heap L_ ∧ FrameEnd U_ o_ V_ L_ r_m7.cells r_m7.slots) := by
  refine MetFree.of_bodySF (plainFor_of_name pn_0) hisR ?_
  intro p e s m args below meth c s₁ Bd hml0 hP hK
  obtain ⟨rfl, hZ, hh⟩ := hP
  have hx := Bd.exec
  have hby := Bd.bytes
  have hml : c.maxLocals = 3 := hml0
  have hown : s.vm.findClass "java/lang/StringUTF16" = some m.cls := findClass_of_methodNamed Bd.named
  have hnm := (name_of_methodNamed Bd.named Bd.method).1
  have X0 : Stand p l e r_m7 s m #[(.int (Int32.ofNat off)), (.int (Int32.ofNat cnt)), (.ref a)] below meth c s₁ [] 0 0 := Stand.of_body Bd
  have e0 : s₁.heap = h0 := by rw [← hh, Bd.state]; rfl
  have N0 := Fr.nil n0
  have Oo := q0.1
  have zo := q0.2
  have lt186 := own_alt q3.lt
  refine Gl.go (A := s₁.setTop (entryFrame m #[(.int (Int32.ofNat off)), (.int (Int32.ofNat cnt)), (.ref a)] 3)) (P := fun o_ U_ => ∃ v_ L_, o_ = .returned v_ ∧ Qubo Z off cnt n2 a ka vs G3 h0 n0 v_ U_.heap L_ ∧ FrameEnd s o_ U_ L_ r_m7.cells r_m7.slots) (fun t_ k_ => castTop (ef_ubo m (Int32.ofNat off) (Int32.ofNat cnt) a) k_) ?_
  show Gl p.tables e below _ (s₁.setTop (mkF m 0 #[sI (Int32.ofNat off), sI (Int32.ofNat cnt), sR a] []))
  refine Gl.go (fun _ hr => zXS_iloadN X0.here hx rfl (hb hby d48_0) rfl (zXS_iloadN X0.here hx rfl (hb hby d48_1) rfl (zXS_aloadN X0.here hx rfl (hb hby d48_2) rfl rfl hr))) ?_
  have zz187 : n0 ≤ h0.size := by omega
  refine gStaticN Gl.cl (y := y_14) (argsL := [(.ref a)]) (rest := [(.int (Int32.ofNat cnt)), (.int (Int32.ofNat off))]) (mc := 0) (ms := 0) X0 hx hZ hown (mvT hZ (tw hw 237 rfl)) (mvT hZ (tw hw 238 rfl)) (mvT hZ (tw hw 188 rfl)) (mvT hZ (tw hw 239 rfl)) (by decide) (backOf (W := 2) (u16l l Z a0 hw [] a ka n2 vs h0 n0 zz187 q3 (by omega)) hZ (tw hw 239 rfl) (tw hw 188 rfl) (by decide) (by decide)) rfl (by rw [hml]; rfl) (lenOf pd_10 rfl) rfl (by exact Nat.le_of_eq rfl) (hb hby d48_3) rfl e0 (by decide) (by decide) ?_
  intro v187 T187 Lc187 hQ187 X187
  obtain ⟨rfl, Nq187, e187⟩ := hQ187
  have N187 := Fr.app N0 Nq187
  have zz188 : n0 ≤ h0.size := by omega
  refine gStaticN Gl.cl (y := y_16) (argsL := [(.int (Int32.ofNat off)), (.int (Int32.ofNat cnt)), (.int (Int32.ofNat n2))]) (rest := []) (mc := 0) (ms := 0) X187 hx hZ hown (mvT hZ (tw hw 240 rfl)) (mvT hZ (tw hw 241 rfl)) (mvT hZ (tw hw 7 rfl)) (mvT hZ (tw hw 242 rfl)) (by decide) (backOf (W := 0) (sbo l Z a0 hw [] off cnt n2 G3 h0 n0 zz188 ⟨Oo, (by omega)⟩ q1 (by assumption) (by assumption) (by assumption)) hZ (tw hw 242 rfl) (tw hw 7 rfl) (by decide) (by decide)) rfl (by rw [hml]; rfl) (lenOf pd_11 rfl) rfl (by exact Nat.le_of_eq rfl) (hb hby d48_6) rfl e187 (by decide) (by decide) ?_
  intro v188 T188 Lc188 hQ188 X188
  obtain ⟨rfl, Nq188, e188⟩ := hQ188
  have N188 := Fr.app N187 Nq188
  refine Gl.go (fun _ hr => zXT_pop X188.here hx rfl (hb hby d48_9) rfl rfl hr) ?_
  obtain ⟨fs, hr, hrun, hended, hW, hsame⟩ := X188.leave (v := none) (fun _ => rfl)
  refine ⟨_, _, X188.returnOut hx Bd.returns (hb hby d48_10) hr, hrun, hended, _, _, rfl, ?_, ⟨⟨_, rfl⟩, hW, hsame.mono (by decide) (by decide)⟩⟩
  show Qubo Z off cnt n2 a ka vs G3 h0 n0 _ T188.heap _
  rw [e188]
  exact ⟨rfl, N188, rfl⟩
def Qpcw (Z : State) (a : Addr) (ka : ClassId) (nz : Nat) (xs : List Int32) (ch : Int32) (h0 : Heap) (n0 : Nat) (v : Option Value) (h : Heap) (L : List Loc) : Prop := v = none ∧ Fr n0 L ∧ Keep h0 h [a] ∧ (Arv Z h a ka .byte (Int32.ofNat nz) (StrChars.Road.wideBytes (xs ++ [ch])) (.int (0 : Int32)))
theorem ef_pcw (m : MethodId) (x0 : Addr) (x1 : Int32) (x2 : Int32) : entryFrame m #[(.ref x0), (.int x1), (.int x2)] 3 = mkF m 0 #[sR x0, sI x1, sI x2] [] := by first | (simp [entryFrame, mkF, argsToLocals, Value.category]; done) | rfl
set_option maxRecDepth 65536 in
set_option maxHeartbeats 40000000 in
theorem pcw (l : Launch) (Z : State) (a0 : Array Value) (hw : ∀ d ∈ tables_1, d.before a0 Z = true) (ws : List Jvm.Cond) (a : Addr) (ka : ClassId) (nz : Nat) (xs : List Int32) (ch : Int32) (h0 : Heap) (n0 : Nat) (Z0 : n0 ≤ h0.size) (q0 : (Old Z Z.heap.size h0 ∧ @LE.le Nat instLENat Z.heap.size n0)) (q1 : Sta Z Z.heap "java/lang/StringUTF16" "$assertionsDisabled" "Z" (.int (1 : Int32))) (q2 : Sta Z Z.heap "java/lang/StringUTF16" "HI_BYTE_SHIFT" "I" (.int (0 : Int32))) (q3 : Sta Z Z.heap "java/lang/StringUTF16" "LO_BYTE_SHIFT" "I" (.int (8 : Int32))) (q4 : Arv Z h0 a ka .byte (Int32.ofNat nz) (StrChars.Road.wideBytes xs) (.int (0 : Int32))) (q5 : @LE.le Nat instLENat n0 a) (hii : 2 * xs.length + 1 < nz) (hz : nz ≤ 64) :
    MetFree l y_0 (head1 (Jvm.Cond.code y_0 jdk_52_method_4_code 3 none :: ws) r_m0) (fun a_ U_ => a_ = #[(.ref a), (.int (Int32.ofNat xs.length)), (.int ch)] ∧ Z.Warmed39 U_.vm ∧ U_.heap = h0) (fun _ _ _ _ _ => True) (fun _ U_ o_ V_ => ∃ v_ L_, o_ = .returned v_ ∧ Qpcw Z a ka nz xs ch h0 n0 v_ V_.heap L_ ∧ FrameEnd U_ o_ V_ L_ r_m0.cells r_m0.slots) := by
  refine MetFree.of_bodySF (plainFor_of_name pn_0) hisR ?_
  intro p e s m args below meth c s₁ Bd hml0 hP hK
  obtain ⟨rfl, hZ, hh⟩ := hP
  have hx := Bd.exec
  have hby := Bd.bytes
  have hml : c.maxLocals = 3 := hml0
  have hown : s.vm.findClass "java/lang/StringUTF16" = some m.cls := findClass_of_methodNamed Bd.named
  have hnm := (name_of_methodNamed Bd.named Bd.method).1
  have X0 : Stand p l e r_m0 s m #[(.ref a), (.int (Int32.ofNat xs.length)), (.int ch)] below meth c s₁ [] 0 0 := Stand.of_body Bd
  have e0 : s₁.heap = h0 := by rw [← hh, Bd.state]; rfl
  have N0 := Fr.nil n0
  have Oo := q0.1
  have zo := q0.2
  have lt189 := own_alt q4.lt
  refine Gl.go (A := s₁.setTop (entryFrame m #[(.ref a), (.int (Int32.ofNat xs.length)), (.int ch)] 3)) (P := fun o_ U_ => ∃ v_ L_, o_ = .returned v_ ∧ Qpcw Z a ka nz xs ch h0 n0 v_ U_.heap L_ ∧ FrameEnd s o_ U_ L_ r_m0.cells r_m0.slots) (fun t_ k_ => castTop (ef_pcw m a (Int32.ofNat xs.length) ch) k_) ?_
  show Gl p.tables e below _ (s₁.setTop (mkF m 0 #[sR a, sI (Int32.ofNat xs.length), sI ch] []))
  have Vp := q4.pad (pad_rep (StrChars.Road.wideBytes xs) (.int (0 : Int32)) 2)
  refine gGetS (host := "") Gl.cl X0 hx hZ hown (Or.inl (tw hw 209 rfl)) Via.refl e0 (q1.ext Oo.2) rfl (hb hby d41_0) ?_
  intro T190 X190 e190
  refine Gl.go (fun _ hr => zXS_ifYes X190.here hx rfl (pc0 := 3) (pc' := 28) rfl (hb hby d41_3) rfl (XT.i0_ne_t (by decide)) (by decide) (by decide) (zXS_iloadN X190.here hx rfl (hb hby d41_28) rfl (zXS_iconst X190.here hx rfl (hb hby d41_29) (zXT_ishl X190.here hx rfl (hb hby d41_30) rfl hr)))) ?_
  show Gl p.tables e below _ (T190.setTop (mkF m 31 #[sR a, sI (Int32.ofNat xs.length), sI ch] [(.int ((Int32.ofNat xs.length) <<< ((1 : Int32) &&& 31)))]))
  rw [(own_shl1 (i := xs.length) (by omega))]
  show Gl p.tables e below _ (T190.setTop (mkF m 31 #[sR a, sI (Int32.ofNat xs.length), sI ch] [(.int (Int32.ofNat (2 * xs.length)))]))
  refine Gl.go (fun _ hr => zXS_istoreN X190.here hx rfl (hb hby d41_31) rfl (l' := #[sR a, sI (Int32.ofNat (2 * xs.length)), sI ch]) rfl (zXS_aloadN X190.here hx rfl (hb hby d41_32) rfl rfl (zXS_iloadN X190.here hx rfl (hb hby d41_33) rfl (zXS_iinc X190.here hx rfl (hb hby d41_34) rfl (l' := #[sR a, sI ((Int32.ofNat (2 * xs.length)) + (1 : Int32)), sI ch]) rfl hr)))) ?_
  show Gl p.tables e below _ (T190.setTop (mkF m 37 #[sR a, sI ((Int32.ofNat (2 * xs.length)) + (1 : Int32)), sI ch] [(.int (Int32.ofNat (2 * xs.length))), (.ref a)]))
  rw [(own_nat_succ (2 * xs.length))]
  show Gl p.tables e below _ (T190.setTop (mkF m 37 #[sR a, sI (Int32.ofNat (2 * xs.length + 1)), sI ch] [(.int (Int32.ofNat (2 * xs.length))), (.ref a)]))
  refine Gl.go (fun _ hr => zXS_iloadN X190.here hx rfl (hb hby d41_37) rfl hr) ?_
  refine gGetS (host := "") Gl.cl X190 hx hZ hown (Or.inl (tw hw 210 rfl)) Via.refl e190 (q2.ext Oo.2) rfl (hb hby d41_38) ?_
  intro T191 X191 e191
  refine Gl.go (fun _ hr => zXT_ishr X191.here hx rfl (hb hby d41_41) rfl (zXT_i2b X191.here hx rfl (hb hby d41_42) rfl hr)) ?_
  show Gl p.tables e below _ (T191.setTop (mkF m 43 #[sR a, sI (Int32.ofNat (2 * xs.length + 1)), sI ch] [(.int ((ch >>> ((0 : Int32) &&& 31)).toInt8.toInt32)), (.int (Int32.ofNat (2 * xs.length))), (.ref a)]))
  rw [(own_lo ch)]
  show Gl p.tables e below _ (T191.setTop (mkF m 43 #[sR a, sI (Int32.ofNat (2 * xs.length + 1)), sI ch] [(.int (StrChars.lo8 ch)), (.int (Int32.ofNat (2 * xs.length))), (.ref a)]))
  obtain ⟨c192, a192, q192, s192, m192, H192, U192⟩ := id Vp
  refine gstB Gl.cl X191 hx hZ e191 a192 (j := (Int32.ofNat (2 * xs.length))) (inb_of s192 ⟨own_nn (by omega), own_lt32 (b := nz) (by omega) (by omega)⟩) rfl rfl (hb hby d41_43) ?_
  intro T192 h192 X192 e192 W192
  have z193 : h0.size ≤ h192.size := (Keep.of_wr W192).1
  rw [(own_narb _)] at W192
  have V192 : Arv Z h192 a ka .byte (Int32.ofNat nz) ((StrChars.Road.wideBytes xs ++ List.replicate 2 (Value.int (0 : Int32))).set (2 * xs.length) (.int (StrChars.lo8 ch))) (.int (0 : Int32)) := Arv.set a192 q192 s192 m192 H192 U192 (own_fitb _) W192 (2 * xs.length) (own_nat32 (by omega)) (by (try simp only [List.length_set]); rw [List.length_append, wide_len, List.length_replicate]; omega)
  have om194 : @LE.le Nat instLENat n0 a := by omega
  have N192 := Fr.snoc X192 N0 (own_ale om194)
  refine Gl.go (fun _ hr => zXS_aloadN X192.here hx rfl (hb hby d41_44) rfl rfl (zXS_iloadN X192.here hx rfl (hb hby d41_45) rfl (zXS_iloadN X192.here hx rfl (hb hby d41_46) rfl hr))) ?_
  have om196 : @LE.le Nat instLENat Z.heap.size a := by omega
  have Oc197 := (Oo.wr W192 (own_ale om196))
  refine gGetS (host := "") Gl.cl X192 hx hZ hown (Or.inl (tw hw 211 rfl)) Via.refl e192 (q3.ext Oc197.2) rfl (hb hby d41_47) ?_
  intro T195 X195 e195
  refine Gl.go (fun _ hr => zXT_ishr X195.here hx rfl (hb hby d41_50) rfl (zXT_i2b X195.here hx rfl (hb hby d41_51) rfl hr)) ?_
  show Gl p.tables e below _ (T195.setTop (mkF m 52 #[sR a, sI (Int32.ofNat (2 * xs.length + 1)), sI ch] [(.int ((ch >>> ((8 : Int32) &&& 31)).toInt8.toInt32)), (.int (Int32.ofNat (2 * xs.length + 1))), (.ref a)]))
  show Gl p.tables e below _ (T195.setTop (mkF m 52 #[sR a, sI (Int32.ofNat (2 * xs.length + 1)), sI ch] [(.int (StrChars.hi8 ch)), (.int (Int32.ofNat (2 * xs.length + 1))), (.ref a)]))
  obtain ⟨c198, a198, q198, s198, m198, H198, U198⟩ := id V192
  refine gstB Gl.cl X195 hx hZ e195 a198 (j := (Int32.ofNat (2 * xs.length + 1))) (inb_of s198 ⟨own_nn (by omega), own_lt32 (b := nz) (by omega) (by omega)⟩) rfl rfl (hb hby d41_52) ?_
  intro T198 h198 X198 e198 W198
  have z199 : h192.size ≤ h198.size := (Keep.of_wr W198).1
  rw [(own_narh _)] at W198
  have V198 : Arv Z h198 a ka .byte (Int32.ofNat nz) (((StrChars.Road.wideBytes xs ++ List.replicate 2 (Value.int (0 : Int32))).set (2 * xs.length) (.int (StrChars.lo8 ch))).set (2 * xs.length + 1) (.int (StrChars.hi8 ch))) (.int (0 : Int32)) := Arv.set a198 q198 s198 m198 H198 U198 (own_fith _) W198 (2 * xs.length + 1) (own_nat32 (by omega)) (by (try simp only [List.length_set]); rw [List.length_append, wide_len, List.length_replicate]; omega)
  have N198 := Fr.snoc X198 N192 (own_ale om194)
  obtain ⟨fs, hr, hrun, hended, hW, hsame⟩ := X198.leave (v := none) (fun _ => rfl)
  refine ⟨_, _, X198.returnOut hx Bd.returns (hb hby d41_53) hr, hrun, hended, _, _, rfl, ?_, ⟨⟨_, rfl⟩, hW, hsame.mono (by decide) (by decide)⟩⟩
  show Qpcw Z a ka nz xs ch h0 n0 _ T198.heap _
  rw [e198]
  exact ⟨rfl, N198, (((Keep.refl h0 [a]).wr W192 (Or.inl (by simp))).wr W198 (Or.inl (by simp))), (by have q := V198; rw [own_wset rfl] at q; exact q)⟩
def Qufl (Z : State) (src : Addr) (ks : ClassId) (nz : Nat) (ds : List Int32) (a : Addr) (ka : ClassId) (cap : Nat) (cs : List Int32) (G3 : Value) (h0 : Heap) (n0 : Nat) (v : Option Value) (h : Heap) (L : List Loc) : Prop := v = none ∧ Fr n0 L ∧ Keep h0 h [a] ∧ (Arv Z h a ka .byte (Int32.ofNat (2 * cap)) (StrChars.Road.wideBytes (cs ++ ds)) (.int (0 : Int32)))
theorem ef_ufl (m : MethodId) (x0 : Addr) (x1 : Int32) (x2 : Addr) (x3 : Int32) (x4 : Int32) : entryFrame m #[(.ref x0), (.int x1), (.ref x2), (.int x3), (.int x4)] 6 = mkF m 0 #[sR x0, sI x1, sR x2, sI x3, sI x4, sU] [] := by first | (simp [entryFrame, mkF, argsToLocals, Value.category]; done) | rfl
theorem d47_10 : decode jdk_52_method_86_code 10 = .ok (.iload 5, 2) := by decide +kernel
theorem d47_12 : decode jdk_52_method_86_code 12 = .ok (.iload 4, 2) := by decide +kernel
theorem d47_14 : decode jdk_52_method_86_code 14 = .ok (.if_icmp .ge 27, 3) := by decide +kernel
theorem d47_41 : decode jdk_52_method_86_code 41 = .ok (.return_, 1) := by decide +kernel
theorem d47_17 : decode jdk_52_method_86_code 17 = .ok (.aload_n 2, 1) := by decide +kernel
theorem d47_18 : decode jdk_52_method_86_code 18 = .ok (.iload_n 3, 1) := by decide +kernel
theorem d47_19 : decode jdk_52_method_86_code 19 = .ok (.iinc 3 1, 3) := by decide +kernel
theorem d47_22 : decode jdk_52_method_86_code 22 = .ok (.aload_n 0, 1) := by decide +kernel
theorem d47_23 : decode jdk_52_method_86_code 23 = .ok (.iload_n 1, 1) := by decide +kernel
theorem d47_24 : decode jdk_52_method_86_code 24 = .ok (.iinc 1 1, 3) := by decide +kernel
theorem d47_27 : decode jdk_52_method_86_code 27 = .ok (.baload, 1) := by decide +kernel
theorem d47_28 : decode jdk_52_method_86_code 28 = .ok (.sipush 255, 3) := by decide +kernel
theorem d47_31 : decode jdk_52_method_86_code 31 = .ok (.iand, 1) := by decide +kernel
theorem d47_32 : decode jdk_52_method_86_code 32 = .ok (.invokestatic 111, 3) := by decide +kernel
theorem d47_35 : decode jdk_52_method_86_code 35 = .ok (.iinc 5 1, 3) := by decide +kernel
theorem d47_38 : decode jdk_52_method_86_code 38 = .ok (.goto (-28), 3) := by decide +kernel
theorem d47_0 : decode jdk_52_method_86_code 0 = .ok (.iload_n 3, 1) := by decide +kernel
theorem d47_1 : decode jdk_52_method_86_code 1 = .ok (.iload 4, 2) := by decide +kernel
theorem d47_3 : decode jdk_52_method_86_code 3 = .ok (.aload_n 2, 1) := by decide +kernel
theorem d47_4 : decode jdk_52_method_86_code 4 = .ok (.invokestatic 173, 3) := by decide +kernel
theorem pd_12 : parseMethodDescriptor "(II[B)V" = some ⟨[.int, .int, (.array .byte)], none⟩ := by decide +kernel
theorem d47_7 : decode jdk_52_method_86_code 7 = .ok (.iconst 0, 1) := by decide +kernel
theorem d47_8 : decode jdk_52_method_86_code 8 = .ok (.istore 5, 2) := by decide +kernel
set_option maxRecDepth 65536 in
set_option maxHeartbeats 40000000 in
theorem ufl (l : Launch) (Z : State) (a0 : Array Value) (hw : ∀ d ∈ tables_1, d.before a0 Z = true) (ws : List Jvm.Cond) (src : Addr) (ks : ClassId) (nz : Nat) (ds : List Int32) (a : Addr) (ka : ClassId) (cap : Nat) (cs : List Int32) (G3 : Value) (h0 : Heap) (n0 : Nat) (Z0 : n0 ≤ h0.size) (q0 : (Old Z Z.heap.size h0 ∧ @LE.le Nat instLENat Z.heap.size n0)) (q1 : Sta Z Z.heap "jdk/internal/util/Preconditions" "SIOOBE_FORMATTER" "Ljava/util/function/BiFunction;" G3) (rG3 : G3.isRef = true) (q3 : Sta Z Z.heap "java/lang/StringUTF16" "$assertionsDisabled" "Z" (.int (1 : Int32))) (q4 : Sta Z Z.heap "java/lang/StringUTF16" "HI_BYTE_SHIFT" "I" (.int (0 : Int32))) (q5 : Sta Z Z.heap "java/lang/StringUTF16" "LO_BYTE_SHIFT" "I" (.int (8 : Int32))) (q6 : Arv Z h0 src ks .byte (Int32.ofNat nz) (lb ds) (.int (0 : Int32))) (q7 : Arv Z h0 a ka .byte (Int32.ofNat (2 * cap)) (StrChars.Road.wideBytes cs) (.int (0 : Int32))) (q8 : @LE.le Nat instLENat n0 a) (q9 : ¬ @Eq Nat a src) (hld : ∀ c ∈ ds, Lat c) (hfit : cs.length + ds.length ≤ cap) (hcap : cap ≤ 18) (hnz : ds.length ≤ nz) (hnz2 : nz ≤ 40) :
    MetFree l y_18 (head1 (Jvm.Cond.code y_18 jdk_52_method_86_code 6 none :: ws) r_m8) (fun a_ U_ => a_ = #[(.ref src), (.int (0 : Int32)), (.ref a), (.int (Int32.ofNat cs.length)), (.int (Int32.ofNat ds.length))] ∧ Z.Warmed39 U_.vm ∧ U_.heap = h0) (fun _ _ _ _ _ => True) (fun _ U_ o_ V_ => ∃ v_ L_, o_ = .returned v_ ∧ Qufl Z src ks nz ds a ka cap cs G3 h0 n0 v_ V_.heap L_ ∧ FrameEnd U_ o_ V_ L_ r_m8.cells r_m8.slots) := by
  refine MetFree.of_bodySF (plainFor_of_name pn_0) hisR ?_
  intro p e s m args below meth c s₁ Bd hml0 hP hK
  obtain ⟨rfl, hZ, hh⟩ := hP
  have hx := Bd.exec
  have hby := Bd.bytes
  have hml : c.maxLocals = 6 := hml0
  have hown : s.vm.findClass "java/lang/StringUTF16" = some m.cls := findClass_of_methodNamed Bd.named
  have hnm := (name_of_methodNamed Bd.named Bd.method).1
  have X0 : Stand p l e r_m8 s m #[(.ref src), (.int (0 : Int32)), (.ref a), (.int (Int32.ofNat cs.length)), (.int (Int32.ofNat ds.length))] below meth c s₁ [] 0 0 := Stand.of_body Bd
  have e0 : s₁.heap = h0 := by rw [← hh, Bd.state]; rfl
  have N0 := Fr.nil n0
  have Oo := q0.1
  have zo := q0.2
  have lt200 := own_alt q6.lt
  have lt201 := own_alt q7.lt
  refine Gl.go (A := s₁.setTop (entryFrame m #[(.ref src), (.int (0 : Int32)), (.ref a), (.int (Int32.ofNat cs.length)), (.int (Int32.ofNat ds.length))] 6)) (P := fun o_ U_ => ∃ v_ L_, o_ = .returned v_ ∧ Qufl Z src ks nz ds a ka cap cs G3 h0 n0 v_ U_.heap L_ ∧ FrameEnd s o_ U_ L_ r_m8.cells r_m8.slots) (fun t_ k_ => castTop (ef_ufl m src (0 : Int32) a (Int32.ofNat cs.length) (Int32.ofNat ds.length)) k_) ?_
  show Gl p.tables e below _ (s₁.setTop (mkF m 0 #[sR src, sI 0, sR a, sI (Int32.ofNat cs.length), sI (Int32.ofNat ds.length), sU] []))
  have lp : ∀ (r_ : Nat) (T : State) (hc : Heap) (lc : List Loc) (k : Nat), Fr n0 lc → Stand p l e r_m8 s m #[(.ref src), (.int (0 : Int32)), (.ref a), (.int (Int32.ofNat cs.length)), (.int (Int32.ofNat ds.length))] below meth c T lc 0 0 → T.heap = hc → Keep h0 hc [a] → Arv Z hc a ka .byte (Int32.ofNat (2 * cap)) (StrChars.Road.wideBytes (cs ++ ds.take k)) (.int (0 : Int32)) → (k + r_ = ds.length) → Gl p.tables e below (fun o_ U_ => ∃ v_ L_, o_ = .returned v_ ∧ Qufl Z src ks nz ds a ka cap cs G3 h0 n0 v_ U_.heap L_ ∧ FrameEnd s o_ U_ L_ r_m8.cells r_m8.slots) (T.setTop (mkF m 10 #[sR src, sI (Int32.ofNat k), sR a, sI (Int32.ofNat (cs.length + k)), sI (Int32.ofNat ds.length), sI (Int32.ofNat k)] [])) := by
    intro r_
    induction r_ with
    | zero =>
      intro T hc lc k Nc Xc ec Kc cf0 hkr
      have zc : h0.size ≤ hc.size := Kc.1
      have lt202 := own_alt cf0.lt
      have hkn : ds.length ≤ k := by omega
      show Gl p.tables e below _ (T.setTop (mkF m 10 #[sR src, sI (Int32.ofNat k), sR a, sI (Int32.ofNat (cs.length + k)), sI (Int32.ofNat ds.length), sI (Int32.ofNat k)] []))
      refine Gl.go (fun _ hr => zXS_iload Xc.here hx rfl (hb hby d47_10) rfl (zXS_iload Xc.here hx rfl (hb hby d47_12) rfl hr)) ?_
      refine Gl.go (fun _ hr => zXS_icmpYes Xc.here hx rfl (pc0 := 14) (pc' := 41) rfl (hb hby d47_14) rfl (XT.ii_ge_t (own_nlt32 (by omega) (by omega) hkn)) (by decide) (by decide) hr) ?_
      obtain ⟨fs, hr, hrun, hended, hW, hsame⟩ := Xc.leave (v := none) (fun _ => rfl)
      refine ⟨_, _, Xc.returnOut hx Bd.returns (hb hby d47_41) hr, hrun, hended, _, _, rfl, ?_, ⟨⟨_, rfl⟩, hW, hsame.mono (by decide) (by decide)⟩⟩
      show Qufl Z src ks nz ds a ka cap cs G3 h0 n0 _ T.heap _
      rw [ec]
      exact ⟨rfl, Nc, ((Keep.refl h0 [a]).trans Kc (allS (P := fun x_ => x_ ∈ ([a] : List Addr) ∨ h0.size ≤ x_) (Or.inl (by simp)) all0)), (by have q := cf0; rw [List.take_of_length_le hkn] at q; exact q)⟩
    | succ r_ ih =>
      intro T hc lc k Nc Xc ec Kc cf0 hkr
      have zc : h0.size ≤ hc.size := Kc.1
      have lt203 := own_alt cf0.lt
      have hkn : k < ds.length := by omega
      have hkl : (cs ++ ds.take k).length = cs.length + k := by rw [List.length_append, List.length_take, Nat.min_eq_left (by omega)]
      show Gl p.tables e below _ (T.setTop (mkF m 10 #[sR src, sI (Int32.ofNat k), sR a, sI (Int32.ofNat (cs.length + k)), sI (Int32.ofNat ds.length), sI (Int32.ofNat k)] []))
      refine Gl.go (fun _ hr => zXS_iload Xc.here hx rfl (hb hby d47_10) rfl (zXS_iload Xc.here hx rfl (hb hby d47_12) rfl hr)) ?_
      refine Gl.go (fun _ hr => zXS_icmpNo Xc.here hx rfl (hb hby d47_14) rfl (XT.ii_ge_f (own_lt32 (by omega) hkn)) (zXS_aloadN Xc.here hx rfl (hb hby d47_17) rfl rfl (zXS_iloadN Xc.here hx rfl (hb hby d47_18) rfl (zXS_iinc Xc.here hx rfl (hb hby d47_19) rfl (l' := #[sR src, sI (Int32.ofNat k), sR a, sI ((Int32.ofNat (cs.length + k)) + (1 : Int32)), sI (Int32.ofNat ds.length), sI (Int32.ofNat k)]) rfl hr)))) ?_
      show Gl p.tables e below _ (T.setTop (mkF m 22 #[sR src, sI (Int32.ofNat k), sR a, sI ((Int32.ofNat (cs.length + k)) + (1 : Int32)), sI (Int32.ofNat ds.length), sI (Int32.ofNat k)] [(.int (Int32.ofNat (cs.length + k))), (.ref a)]))
      rw [(own_nat_succ (cs.length + k))]
      show Gl p.tables e below _ (T.setTop (mkF m 22 #[sR src, sI (Int32.ofNat k), sR a, sI (Int32.ofNat (cs.length + k + 1)), sI (Int32.ofNat ds.length), sI (Int32.ofNat k)] [(.int (Int32.ofNat (cs.length + k))), (.ref a)]))
      refine Gl.go (fun _ hr => zXS_aloadN Xc.here hx rfl (hb hby d47_22) rfl rfl (zXS_iloadN Xc.here hx rfl (hb hby d47_23) rfl (zXS_iinc Xc.here hx rfl (hb hby d47_24) rfl (l' := #[sR src, sI ((Int32.ofNat k) + (1 : Int32)), sR a, sI (Int32.ofNat (cs.length + k + 1)), sI (Int32.ofNat ds.length), sI (Int32.ofNat k)]) rfl hr))) ?_
      show Gl p.tables e below _ (T.setTop (mkF m 27 #[sR src, sI ((Int32.ofNat k) + (1 : Int32)), sR a, sI (Int32.ofNat (cs.length + k + 1)), sI (Int32.ofNat ds.length), sI (Int32.ofNat k)] [(.int (Int32.ofNat k)), (.ref src), (.int (Int32.ofNat (cs.length + k))), (.ref a)]))
      rw [(own_nat_succ k)]
      show Gl p.tables e below _ (T.setTop (mkF m 27 #[sR src, sI (Int32.ofNat (k + 1)), sR a, sI (Int32.ofNat (cs.length + k + 1)), sI (Int32.ofNat ds.length), sI (Int32.ofNat k)] [(.int (Int32.ofNat k)), (.ref src), (.int (Int32.ofNat (cs.length + k))), (.ref a)]))
      have om204 : ¬ @Eq Nat src a := by omega
      have Vc205 := (q6.keep Kc (ninS (own_ane om204) nin0))
      obtain ⟨c206, a206, q206, s206, m206, H206, U206⟩ := id Vc205
      have i206 := inb_of s206 (j := (Int32.ofNat k)) ⟨own_nn (by omega), own_lt32 (b := nz) (by omega) (by omega)⟩
      refine g_baload Gl.cl Xc hx hZ ec a206 i206 (v := (.int (StrChars.lo8 (ds.getD k 0)))) (H206.at i206 (by rw [own_nat32 (by omega)]; exact own_lbat _ ds k hkn)) rfl rfl (hb hby d47_27) ?_
      refine Gl.go (fun _ hr => zXS_sipush Xc.here hx rfl (hb hby d47_28) (zXS_iand Xc.here hx rfl (hb hby d47_31) rfl hr)) ?_
      show Gl p.tables e below _ (T.setTop (mkF m 32 #[sR src, sI (Int32.ofNat (k + 1)), sR a, sI (Int32.ofNat (cs.length + k + 1)), sI (Int32.ofNat ds.length), sI (Int32.ofNat k)] [(.int ((StrChars.lo8 (ds.getD k 0)) &&& (255 : Int32))), (.int (Int32.ofNat (cs.length + k))), (.ref a)]))
      rw [(own_chr8 (hld _ (own_getD_mem hkn)))]
      show Gl p.tables e below _ (T.setTop (mkF m 32 #[sR src, sI (Int32.ofNat (k + 1)), sR a, sI (Int32.ofNat (cs.length + k + 1)), sI (Int32.ofNat ds.length), sI (Int32.ofNat k)] [(.int (ds.getD k 0)), (.int (Int32.ofNat (cs.length + k))), (.ref a)]))
      rw [(congrArg Int32.ofNat hkl.symm)]
      show Gl p.tables e below _ (T.setTop (mkF m 32 #[sR src, sI (Int32.ofNat (k + 1)), sR a, sI (Int32.ofNat (cs.length + k + 1)), sI (Int32.ofNat ds.length), sI (Int32.ofNat k)] [(.int (ds.getD k 0)), (.int (Int32.ofNat (cs ++ ds.take k).length)), (.ref a)]))
      have om208 : @LE.le Nat instLENat Z.heap.size a := by omega
      have Oc209 := (Oo.keep Kc (allS (own_ale om208) all0))
      have zz207 : n0 ≤ hc.size := by omega
      refine gStaticN Gl.cl (y := y_0) (argsL := [(.ref a), (.int (Int32.ofNat (cs ++ ds.take k).length)), (.int (ds.getD k 0))]) (rest := []) (mc := 0) (ms := 0) Xc hx hZ hown (mvT hZ (tw hw 206 rfl)) (mvT hZ (tw hw 207 rfl)) (mvT hZ (tw hw 188 rfl)) (mvT hZ (tw hw 208 rfl)) (by decide) (backOf (W := 0) (pcw l Z a0 hw [] a ka (2 * cap) (cs ++ ds.take k) (ds.getD k 0) hc n0 zz207 ⟨Oc209, (by omega)⟩ q3 q4 q5 cf0 (by omega) (by omega) (by omega)) hZ (tw hw 208 rfl) (tw hw 188 rfl) (by decide) (by decide)) rfl (by rw [hml]; rfl) (lenOf pd_2 rfl) rfl (by exact Nat.le_of_eq rfl) (hb hby d47_32) rfl ec (by decide) (by decide) ?_
      intro v207 T207 Lc207 hQ207 X207
      obtain ⟨rfl, Nq207, K207, f207_0⟩ := hQ207
      have z210 : hc.size ≤ T207.heap.size := K207.1
      have N207 := Fr.app Nc Nq207
      have lt211 := own_alt f207_0.lt
      refine Gl.go (fun _ hr => zXS_iinc X207.here hx rfl (hb hby d47_35) rfl (l' := #[sR src, sI (Int32.ofNat (k + 1)), sR a, sI (Int32.ofNat (cs.length + k + 1)), sI (Int32.ofNat ds.length), sI ((Int32.ofNat k) + (1 : Int32))]) rfl (zXS_goto X207.here hx rfl (pc0 := 38) (pc' := 10) rfl (hb hby d47_38) (by decide) (by decide) hr)) ?_
      show Gl p.tables e below _ (T207.setTop (mkF m 10 #[sR src, sI (Int32.ofNat (k + 1)), sR a, sI (Int32.ofNat (cs.length + k + 1)), sI (Int32.ofNat ds.length), sI ((Int32.ofNat k) + (1 : Int32))] []))
      rw [(own_nat_succ k)]
      show Gl p.tables e below _ (T207.setTop (mkF m 10 #[sR src, sI (Int32.ofNat (k + 1)), sR a, sI (Int32.ofNat (cs.length + k + 1)), sI (Int32.ofNat ds.length), sI (Int32.ofNat (k + 1))] []))
      exact ih T207 T207.heap _ (k + 1) N207 (X207.more (by decide) (by decide)) (rfl : T207.heap = T207.heap) (((Keep.refl h0 [a]).trans Kc (allS (P := fun x_ => x_ ∈ ([a] : List Addr) ∨ h0.size ≤ x_) (Or.inl (by simp)) all0)).trans K207 (allS (P := fun x_ => x_ ∈ ([a] : List Addr) ∨ h0.size ≤ x_) (Or.inl (by simp)) all0)) (by have q := f207_0; rw [List.append_assoc, own_takeS ds k hkn] at q; exact q) (by omega)
  refine Gl.go (fun _ hr => zXS_iloadN X0.here hx rfl (hb hby d47_0) rfl (zXS_iload X0.here hx rfl (hb hby d47_1) rfl (zXS_aloadN X0.here hx rfl (hb hby d47_3) rfl rfl hr))) ?_
  have zz212 : n0 ≤ h0.size := by omega
  refine gStaticN Gl.cl (y := y_17) (argsL := [(.int (Int32.ofNat cs.length)), (.int (Int32.ofNat ds.length)), (.ref a)]) (rest := []) (mc := 0) (ms := 0) X0 hx hZ hown (mvT hZ (tw hw 234 rfl)) (mvT hZ (tw hw 235 rfl)) (mvT hZ (tw hw 188 rfl)) (mvT hZ (tw hw 236 rfl)) (by decide) (backOf (W := 0) (ubo l Z a0 hw [] cs.length ds.length cap a ka (StrChars.Road.wideBytes cs) G3 h0 n0 zz212 ⟨Oo, (by omega)⟩ q1 (by assumption) q7 hfit (by omega)) hZ (tw hw 236 rfl) (tw hw 188 rfl) (by decide) (by decide)) rfl (by rw [hml]; rfl) (lenOf pd_12 rfl) rfl (by exact Nat.le_of_eq rfl) (hb hby d47_4) rfl e0 (by decide) (by decide) ?_
  intro v212 T212 Lc212 hQ212 X212
  obtain ⟨rfl, Nq212, e212⟩ := hQ212
  have N212 := Fr.app N0 Nq212
  refine Gl.go (fun _ hr => zXS_iconst X212.here hx rfl (hb hby d47_7) (zXS_istore X212.here hx rfl (hb hby d47_8) rfl (l' := #[sR src, sI 0, sR a, sI (Int32.ofNat cs.length), sI (Int32.ofNat ds.length), sI 0]) rfl hr)) ?_
  exact lp ds.length T212 h0 _ 0 N212 (X212.more (by decide) (by decide)) e212 (Keep.refl h0 [a]) (by rw [List.take_zero, List.append_nil]; exact q7) (by omega)
def Qlif (Z : State) (src : Addr) (ks : ClassId) (nz : Nat) (ds : List Int32) (a : Addr) (ka : ClassId) (cap : Nat) (cs : List Int32) (G3 : Value) (h0 : Heap) (n0 : Nat) (v : Option Value) (h : Heap) (L : List Loc) : Prop := v = none ∧ Fr n0 L ∧ Keep h0 h [a] ∧ (Arv Z h a ka .byte (Int32.ofNat (2 * cap)) (StrChars.Road.wideBytes (cs ++ ds)) (.int (0 : Int32)))
theorem pn_4 : plainName "java/lang/StringLatin1" = true := by first | (simp [plainName, overriddenIn]; done) | decide +kernel
theorem ef_lif (m : MethodId) (x0 : Addr) (x1 : Int32) (x2 : Addr) (x3 : Int32) (x4 : Int32) : entryFrame m #[(.ref x0), (.int x1), (.ref x2), (.int x3), (.int x4)] 5 = mkF m 0 #[sR x0, sI x1, sR x2, sI x3, sI x4] [] := by first | (simp [entryFrame, mkF, argsToLocals, Value.category]; done) | rfl
theorem d46_0 : decode jdk_43_method_50_code 0 = .ok (.aload_n 0, 1) := by decide +kernel
theorem d46_1 : decode jdk_43_method_50_code 1 = .ok (.iload_n 1, 1) := by decide +kernel
theorem d46_2 : decode jdk_43_method_50_code 2 = .ok (.aload_n 2, 1) := by decide +kernel
theorem d46_3 : decode jdk_43_method_50_code 3 = .ok (.iload_n 3, 1) := by decide +kernel
theorem d46_4 : decode jdk_43_method_50_code 4 = .ok (.iload 4, 2) := by decide +kernel
theorem d46_6 : decode jdk_43_method_50_code 6 = .ok (.invokestatic 240, 3) := by decide +kernel
theorem pd_13 : parseMethodDescriptor "([BI[BII)V" = some ⟨[(.array .byte), .int, (.array .byte), .int, .int], none⟩ := by decide +kernel
theorem d46_9 : decode jdk_43_method_50_code 9 = .ok (.return_, 1) := by decide +kernel
set_option maxRecDepth 65536 in
set_option maxHeartbeats 40000000 in
theorem lif (l : Launch) (Z : State) (a0 : Array Value) (hw : ∀ d ∈ tables_1, d.before a0 Z = true) (ws : List Jvm.Cond) (src : Addr) (ks : ClassId) (nz : Nat) (ds : List Int32) (a : Addr) (ka : ClassId) (cap : Nat) (cs : List Int32) (G3 : Value) (h0 : Heap) (n0 : Nat) (Z0 : n0 ≤ h0.size) (q0 : (Old Z Z.heap.size h0 ∧ @LE.le Nat instLENat Z.heap.size n0)) (q1 : Sta Z Z.heap "jdk/internal/util/Preconditions" "SIOOBE_FORMATTER" "Ljava/util/function/BiFunction;" G3) (rG3 : G3.isRef = true) (q3 : Sta Z Z.heap "java/lang/StringUTF16" "$assertionsDisabled" "Z" (.int (1 : Int32))) (q4 : Sta Z Z.heap "java/lang/StringUTF16" "HI_BYTE_SHIFT" "I" (.int (0 : Int32))) (q5 : Sta Z Z.heap "java/lang/StringUTF16" "LO_BYTE_SHIFT" "I" (.int (8 : Int32))) (q6 : Arv Z h0 src ks .byte (Int32.ofNat nz) (lb ds) (.int (0 : Int32))) (q7 : Arv Z h0 a ka .byte (Int32.ofNat (2 * cap)) (StrChars.Road.wideBytes cs) (.int (0 : Int32))) (q8 : @LE.le Nat instLENat n0 a) (q9 : ¬ @Eq Nat a src) (hld : ∀ c ∈ ds, Lat c) (hfit : cs.length + ds.length ≤ cap) (hcap : cap ≤ 18) (hnz : ds.length ≤ nz) (hnz2 : nz ≤ 40) :
    MetFree l y_19 (head1 (Jvm.Cond.code y_19 jdk_43_method_50_code 5 none :: ws) r_m9) (fun a_ U_ => a_ = #[(.ref src), (.int (0 : Int32)), (.ref a), (.int (Int32.ofNat cs.length)), (.int (Int32.ofNat ds.length))] ∧ Z.Warmed39 U_.vm ∧ U_.heap = h0) (fun _ _ _ _ _ => True) (fun _ U_ o_ V_ => ∃ v_ L_, o_ = .returned v_ ∧ Qlif Z src ks nz ds a ka cap cs G3 h0 n0 v_ V_.heap L_ ∧ FrameEnd U_ o_ V_ L_ r_m9.cells r_m9.slots) := by
  refine MetFree.of_bodySF (plainFor_of_name pn_4) hisR ?_
  intro p e s m args below meth c s₁ Bd hml0 hP hK
  obtain ⟨rfl, hZ, hh⟩ := hP
  have hx := Bd.exec
  have hby := Bd.bytes
  have hml : c.maxLocals = 5 := hml0
  have hown : s.vm.findClass "java/lang/StringLatin1" = some m.cls := findClass_of_methodNamed Bd.named
  have hnm := (name_of_methodNamed Bd.named Bd.method).1
  have X0 : Stand p l e r_m9 s m #[(.ref src), (.int (0 : Int32)), (.ref a), (.int (Int32.ofNat cs.length)), (.int (Int32.ofNat ds.length))] below meth c s₁ [] 0 0 := Stand.of_body Bd
  have e0 : s₁.heap = h0 := by rw [← hh, Bd.state]; rfl
  have N0 := Fr.nil n0
  have Oo := q0.1
  have zo := q0.2
  have lt213 := own_alt q6.lt
  have lt214 := own_alt q7.lt
  refine Gl.go (A := s₁.setTop (entryFrame m #[(.ref src), (.int (0 : Int32)), (.ref a), (.int (Int32.ofNat cs.length)), (.int (Int32.ofNat ds.length))] 5)) (P := fun o_ U_ => ∃ v_ L_, o_ = .returned v_ ∧ Qlif Z src ks nz ds a ka cap cs G3 h0 n0 v_ U_.heap L_ ∧ FrameEnd s o_ U_ L_ r_m9.cells r_m9.slots) (fun t_ k_ => castTop (ef_lif m src (0 : Int32) a (Int32.ofNat cs.length) (Int32.ofNat ds.length)) k_) ?_
  show Gl p.tables e below _ (s₁.setTop (mkF m 0 #[sR src, sI 0, sR a, sI (Int32.ofNat cs.length), sI (Int32.ofNat ds.length)] []))
  refine Gl.go (fun _ hr => zXS_aloadN X0.here hx rfl (hb hby d46_0) rfl rfl (zXS_iloadN X0.here hx rfl (hb hby d46_1) rfl (zXS_aloadN X0.here hx rfl (hb hby d46_2) rfl rfl (zXS_iloadN X0.here hx rfl (hb hby d46_3) rfl (zXS_iload X0.here hx rfl (hb hby d46_4) rfl hr))))) ?_
  have zz215 : n0 ≤ h0.size := by omega
  refine gStaticN Gl.cl (y := y_18) (argsL := [(.ref src), (.int (0 : Int32)), (.ref a), (.int (Int32.ofNat cs.length)), (.int (Int32.ofNat ds.length))]) (rest := []) (mc := 0) (ms := 0) X0 hx hZ hown (mvT hZ (tw hw 231 rfl)) (mvT hZ (tw hw 232 rfl)) (mvT hZ (tw hw 188 rfl)) (mvT hZ (tw hw 233 rfl)) (by decide) (backOf (W := 0) (ufl l Z a0 hw [] src ks nz ds a ka cap cs G3 h0 n0 zz215 ⟨Oo, (by omega)⟩ q1 (by assumption) q3 q4 q5 q6 q7 (by omega) (by omega) (by assumption) (by assumption) (by assumption) (by assumption) (by assumption)) hZ (tw hw 233 rfl) (tw hw 188 rfl) (by decide) (by decide)) rfl (by rw [hml]; rfl) (lenOf pd_13 rfl) rfl (by exact Nat.le_of_eq rfl) (hb hby d46_6) rfl e0 (by decide) (by decide) ?_
  intro v215 T215 Lc215 hQ215 X215
  obtain ⟨rfl, Nq215, K215, f215_0⟩ := hQ215
  have z216 : h0.size ≤ T215.heap.size := K215.1
  have N215 := Fr.app N0 Nq215
  have lt217 := own_alt f215_0.lt
  obtain ⟨fs, hr, hrun, hended, hW, hsame⟩ := X215.leave (v := none) (fun _ => rfl)
  refine ⟨_, _, X215.returnOut hx Bd.returns (hb hby d46_9) hr, hrun, hended, _, _, rfl, ?_, ⟨⟨_, rfl⟩, hW, hsame.mono (by decide) (by decide)⟩⟩
  show Qlif Z src ks nz ds a ka cap cs G3 h0 n0 _ T215.heap _
  exact ⟨rfl, N215, ((Keep.refl h0 [a]).trans K215 (allS (P := fun x_ => x_ ∈ ([a] : List Addr) ∨ h0.size ≤ x_) (Or.inl (by simp)) all0)), f215_0⟩
def QnblG (Z : State) (n : Nat) (h0 : Heap) (n0 : Nat) (v : Option Value) (h : Heap) (L : List Loc) : Prop := v = some (.int (Int32.ofNat (2 * n))) ∧ Fr n0 L ∧ h = h0
theorem ef_nblG (m : MethodId) (x0 : Int32) : entryFrame m #[(.int x0)] 1 = mkF m 0 #[sI x0] [] := by first | (simp [entryFrame, mkF, argsToLocals, Value.category]; done) | rfl
set_option maxRecDepth 65536 in
set_option maxHeartbeats 40000000 in
theorem nblG (l : Launch) (Z : State) (a0 : Array Value) (hw : ∀ d ∈ tables_1, d.before a0 Z = true) (ws : List Jvm.Cond) (n : Nat) (h0 : Heap) (n0 : Nat) (Z0 : n0 ≤ h0.size) (hn : n ≤ 18) :
    MetFree l y_2 (head1 (Jvm.Cond.code y_2 jdk_52_method_3_code 1 (some .int) :: ws) r_m0) (fun a_ U_ => a_ = #[(.int (Int32.ofNat n))] ∧ Z.Warmed39 U_.vm ∧ U_.heap = h0) (fun _ _ _ _ _ => True) (fun _ U_ o_ V_ => ∃ v_ L_, o_ = .returned v_ ∧ QnblG Z n h0 n0 v_ V_.heap L_ ∧ FrameEnd U_ o_ V_ L_ r_m0.cells r_m0.slots) := by
  refine MetFree.of_bodySF (plainFor_of_name pn_0) hisR ?_
  intro p e s m args below meth c s₁ Bd hml0 hP hK
  obtain ⟨rfl, hZ, hh⟩ := hP
  have hx := Bd.exec
  have hby := Bd.bytes
  have hml : c.maxLocals = 1 := hml0
  have hown : s.vm.findClass "java/lang/StringUTF16" = some m.cls := findClass_of_methodNamed Bd.named
  have hnm := (name_of_methodNamed Bd.named Bd.method).1
  have X0 : Stand p l e r_m0 s m #[(.int (Int32.ofNat n))] below meth c s₁ [] 0 0 := Stand.of_body Bd
  have e0 : s₁.heap = h0 := by rw [← hh, Bd.state]; rfl
  have N0 := Fr.nil n0
  refine Gl.go (A := s₁.setTop (entryFrame m #[(.int (Int32.ofNat n))] 1)) (P := fun o_ U_ => ∃ v_ L_, o_ = .returned v_ ∧ QnblG Z n h0 n0 v_ U_.heap L_ ∧ FrameEnd s o_ U_ L_ r_m0.cells r_m0.slots) (fun t_ k_ => castTop (ef_nblG m (Int32.ofNat n)) k_) ?_
  show Gl p.tables e below _ (s₁.setTop (mkF m 0 #[sI (Int32.ofNat n)] []))
  refine Gl.go (fun _ hr => zXS_iloadN X0.here hx rfl (hb hby d45_0) rfl hr) ?_
  refine Gl.go (fun _ hr => zXS_ifYes X0.here hx rfl (pc0 := 1) (pc' := 12) rfl (hb hby d45_1) rfl (XT.i0_ge_t (own_nn (by omega))) (by decide) (by decide) (zXS_iloadN X0.here hx rfl (hb hby d45_12) rfl hr)) ?_
  refine Gl.go (X0.ldcInt hx hown (mvT hZ (tw hw 227 rfl)) rfl (hb hby d45_13)) ?_
  refine Gl.go (fun _ hr => zXS_icmpYes X0.here hx rfl (pc0 := 15) (pc' := 55) rfl (hb hby d45_15) rfl (XT.ii_lt_t (own_lt32 (b := 1073741823) (by decide) (by omega))) (by decide) (by decide) (zXS_iloadN X0.here hx rfl (hb hby d45_55) rfl (zXS_iconst X0.here hx rfl (hb hby d45_56) (zXT_ishl X0.here hx rfl (hb hby d45_57) rfl hr)))) ?_
  show Gl p.tables e below _ (s₁.setTop (mkF m 58 #[sI (Int32.ofNat n)] [(.int ((Int32.ofNat n) <<< ((1 : Int32) &&& 31)))]))
  rw [(own_shl1 (i := n) (by omega))]
  show Gl p.tables e below _ (s₁.setTop (mkF m 58 #[sI (Int32.ofNat n)] [(.int (Int32.ofNat (2 * n)))]))
  obtain ⟨fs, hr, hrun, hended, hW, hsame⟩ := X0.leave (v := some (.int (Int32.ofNat (2 * n)))) (fun h => by rw [Bd.returns] at h; cases h)
  refine ⟨_, _, retOut X0 hx Bd.returns rfl (Or.inl ⟨rfl, Or.inl rfl, _, rfl⟩) (hb hby d45_58) hr, hrun, hended, _, _, rfl, ?_, ⟨⟨_, rfl⟩, hW, hsame.mono (by decide) (by decide)⟩⟩
  show QnblG Z n h0 n0 _ s₁.heap _
  rw [e0]
  exact ⟨rfl, N0, rfl⟩
def QnbfG (Z : State) (n : Nat) (h0 : Heap) (n0 : Nat) (v : Option Value) (h : Heap) (L : List Loc) : Prop := ∃ (r : Addr), ∃ (kr : ClassId), v = some (.ref r) ∧ Fr n0 L ∧ Keep h0 h [] ∧ (Arv Z h r kr .byte (Int32.ofNat (2 * n)) ([]) (.int (0 : Int32))) ∧ (@LE.le Nat instLENat h0.size r)
theorem ef_nbfG (m : MethodId) (x0 : Int32) : entryFrame m #[(.int x0)] 1 = mkF m 0 #[sI x0] [] := by first | (simp [entryFrame, mkF, argsToLocals, Value.category]; done) | rfl
set_option maxRecDepth 65536 in
set_option maxHeartbeats 40000000 in
theorem nbfG (l : Launch) (Z : State) (a0 : Array Value) (hw : ∀ d ∈ tables_1, d.before a0 Z = true) (ws : List Jvm.Cond) (n : Nat) (h0 : Heap) (n0 : Nat) (Z0 : n0 ≤ h0.size) (hn : n ≤ 18) :
    MetFree l y_3 (head1 (Jvm.Cond.code y_3 jdk_52_method_2_code 1 (some (.array .byte)) :: ws) r_m10) (fun a_ U_ => a_ = #[(.int (Int32.ofNat n))] ∧ Z.Warmed39 U_.vm ∧ U_.heap = h0) (fun _ _ _ _ _ => True) (fun _ U_ o_ V_ => ∃ v_ L_, o_ = .returned v_ ∧ QnbfG Z n h0 n0 v_ V_.heap L_ ∧ FrameEnd U_ o_ V_ L_ r_m10.cells r_m10.slots) := by
  refine MetFree.of_bodySF (plainFor_of_name pn_0) hisR ?_
  intro p e s m args below meth c s₁ Bd hml0 hP hK
  obtain ⟨rfl, hZ, hh⟩ := hP
  have hx := Bd.exec
  have hby := Bd.bytes
  have hml : c.maxLocals = 1 := hml0
  have hown : s.vm.findClass "java/lang/StringUTF16" = some m.cls := findClass_of_methodNamed Bd.named
  have hnm := (name_of_methodNamed Bd.named Bd.method).1
  have X0 : Stand p l e r_m10 s m #[(.int (Int32.ofNat n))] below meth c s₁ [] 0 0 := Stand.of_body Bd
  have e0 : s₁.heap = h0 := by rw [← hh, Bd.state]; rfl
  have N0 := Fr.nil n0
  refine Gl.go (A := s₁.setTop (entryFrame m #[(.int (Int32.ofNat n))] 1)) (P := fun o_ U_ => ∃ v_ L_, o_ = .returned v_ ∧ QnbfG Z n h0 n0 v_ U_.heap L_ ∧ FrameEnd s o_ U_ L_ r_m10.cells r_m10.slots) (fun t_ k_ => castTop (ef_nbfG m (Int32.ofNat n)) k_) ?_
  show Gl p.tables e below _ (s₁.setTop (mkF m 0 #[sI (Int32.ofNat n)] []))
  refine Gl.go (fun _ hr => zXS_iloadN X0.here hx rfl (hb hby d44_0) rfl hr) ?_
  have zz218 : n0 ≤ h0.size := by omega
  refine gStaticN Gl.cl (y := y_2) (argsL := [(.int (Int32.ofNat n))]) (rest := []) (mc := 0) (ms := 0) X0 hx hZ hown (mvT hZ (tw hw 224 rfl)) (mvT hZ (tw hw 225 rfl)) (mvT hZ (tw hw 188 rfl)) (mvT hZ (tw hw 226 rfl)) (by decide) (backOf (W := 0) (nblG l Z a0 hw [] n h0 n0 zz218 (by assumption)) hZ (tw hw 226 rfl) (tw hw 188 rfl) (by decide) (by decide)) rfl (by rw [hml]; rfl) (lenOf pd_0 rfl) rfl (by exact Nat.le_of_eq rfl) (hb hby d44_1) rfl e0 (by decide) (by decide) ?_
  intro v218 T218 Lc218 hQ218 X218
  obtain ⟨rfl, Nq218, e218⟩ := hQ218
  have N218 := Fr.app N0 Nq218
  refine gNewP Gl.cl X218 hx hZ (tw hw 20 rfl) e218 rfl (hb hby d44_4) rfl (own_nn (by omega)) (cap := 36) (by rw [own_nat32 (by omega)]; omega) (by decide) (by decide) (by decide) ?_
  intro T219 h219 b219 k219 g219 X219 e219 E219 A219
  have z220 : h0.size ≤ h219.size := E219.1
  have lt219 := own_alt A219.lt
  have V219 : Arv Z h219 b219 k219 .byte (Int32.ofNat (2 * n)) [] (.int (0 : Int32)) := (Arv.new A219 (own_nn (by omega))).pad (pad_rep [] (.int (0 : Int32)) 0)
  obtain ⟨fs, hr, hrun, hended, hW, hsame⟩ := X219.leave (v := some (.ref b219)) (fun h => by rw [Bd.returns] at h; cases h)
  refine ⟨_, _, retOut X219 hx Bd.returns rfl (Or.inr (Or.inr (Or.inr (Or.inr ⟨rfl, rfl, rfl⟩)))) (hb hby d44_6) hr, hrun, hended, _, _, rfl, ?_, ⟨⟨_, rfl⟩, hW, hsame.mono (by decide) (by decide)⟩⟩
  show QnbfG Z n h0 n0 _ T219.heap _
  rw [e219]
  exact ⟨b219, k219, rfl, N218, ((Keep.refl h0 []).ext E219), V219, (by omega)⟩
def Qasi (Z : State) (b : Addr) (a : Addr) (ka : ClassId) (cap : Nat) (cs : List Int32) (G1 : Int32) (G3 : Value) (h0 : Heap) (n0 : Nat) (v : Option Value) (h : Heap) (L : List Loc) : Prop := ∃ (a2 : Addr), ∃ (k2 : ClassId), v = none ∧ Fr n0 L ∧ Keep h0 h [b] ∧ (Exa Z h b "java/lang/StringBuilder") ∧ (Fld Z h b "java/lang/AbstractStringBuilder" "value" "[B" (.ref a2)) ∧ (Fld Z h b "java/lang/AbstractStringBuilder" "coder" "B" (.int (1 : Int32))) ∧ (Fld Z h b "java/lang/AbstractStringBuilder" "count" "I" (.int (Int32.ofNat cs.length))) ∧ (Fld Z h b "java/lang/AbstractStringBuilder" "maybeLatin1" "Z" (.int (0 : Int32))) ∧ (Arv Z h a2 k2 .byte (Int32.ofNat (2 * cap)) (StrChars.Road.wideBytes cs) (.int (0 : Int32))) ∧ (@LE.le Nat instLENat h0.size a2)
theorem ef_asi (m : MethodId) (x0 : Addr) : entryFrame m #[(.ref x0)] 2 = mkF m 0 #[sR x0, sU] [] := by first | (simp [entryFrame, mkF, argsToLocals, Value.category]; done) | rfl
theorem d43_0 : decode jdk_68_method_11_code 0 = .ok (.aload_n 0, 1) := by decide +kernel
theorem d43_1 : decode jdk_68_method_11_code 1 = .ok (.invokevirtual 83, 3) := by decide +kernel
theorem pd_14 : parseMethodDescriptor "()Z" = some ⟨[], some .boolean⟩ := by decide +kernel
theorem d43_4 : decode jdk_68_method_11_code 4 = .ok (.ifCond .ne 4, 3) := by decide +kernel
theorem d43_8 : decode jdk_68_method_11_code 8 = .ok (.aload_n 0, 1) := by decide +kernel
theorem d43_9 : decode jdk_68_method_11_code 9 = .ok (.getfield 15, 3) := by decide +kernel
theorem d43_12 : decode jdk_68_method_11_code 12 = .ok (.arraylength, 1) := by decide +kernel
theorem d43_13 : decode jdk_68_method_11_code 13 = .ok (.invokestatic 26, 3) := by decide +kernel
theorem d43_16 : decode jdk_68_method_11_code 16 = .ok (.astore_n 1, 1) := by decide +kernel
theorem d43_17 : decode jdk_68_method_11_code 17 = .ok (.aload_n 0, 1) := by decide +kernel
theorem d43_18 : decode jdk_68_method_11_code 18 = .ok (.getfield 15, 3) := by decide +kernel
theorem d43_21 : decode jdk_68_method_11_code 21 = .ok (.iconst 0, 1) := by decide +kernel
theorem d43_22 : decode jdk_68_method_11_code 22 = .ok (.aload_n 1, 1) := by decide +kernel
theorem d43_23 : decode jdk_68_method_11_code 23 = .ok (.iconst 0, 1) := by decide +kernel
theorem d43_24 : decode jdk_68_method_11_code 24 = .ok (.aload_n 0, 1) := by decide +kernel
theorem d43_25 : decode jdk_68_method_11_code 25 = .ok (.getfield 79, 3) := by decide +kernel
theorem d43_28 : decode jdk_68_method_11_code 28 = .ok (.invokestatic 125, 3) := by decide +kernel
theorem d43_31 : decode jdk_68_method_11_code 31 = .ok (.aload_n 0, 1) := by decide +kernel
theorem d43_32 : decode jdk_68_method_11_code 32 = .ok (.aload_n 1, 1) := by decide +kernel
theorem d43_33 : decode jdk_68_method_11_code 33 = .ok (.putfield 15, 3) := by decide +kernel
theorem d43_36 : decode jdk_68_method_11_code 36 = .ok (.aload_n 0, 1) := by decide +kernel
theorem d43_37 : decode jdk_68_method_11_code 37 = .ok (.iconst 1, 1) := by decide +kernel
theorem d43_38 : decode jdk_68_method_11_code 38 = .ok (.putfield 22, 3) := by decide +kernel
theorem d43_41 : decode jdk_68_method_11_code 41 = .ok (.return_, 1) := by decide +kernel
set_option maxRecDepth 65536 in
set_option maxHeartbeats 40000000 in
theorem asi (l : Launch) (Z : State) (a0 : Array Value) (hw : ∀ d ∈ tables_1, d.before a0 Z = true) (ws : List Jvm.Cond) (b : Addr) (a : Addr) (ka : ClassId) (cap : Nat) (cs : List Int32) (G1 : Int32) (G3 : Value) (h0 : Heap) (n0 : Nat) (Z0 : n0 ≤ h0.size) (q0 : Sta Z Z.heap "java/lang/String" "COMPACT_STRINGS" "Z" (.int G1)) (P5 : ¬ (G1 = (0 : Int32))) (q2 : (Old Z Z.heap.size h0 ∧ @LE.le Nat instLENat Z.heap.size n0)) (q3 : Sta Z Z.heap "jdk/internal/util/Preconditions" "SIOOBE_FORMATTER" "Ljava/util/function/BiFunction;" G3) (rG3 : G3.isRef = true) (q5 : Sta Z Z.heap "java/lang/StringUTF16" "$assertionsDisabled" "Z" (.int (1 : Int32))) (q6 : Sta Z Z.heap "java/lang/StringUTF16" "HI_BYTE_SHIFT" "I" (.int (0 : Int32))) (q7 : Sta Z Z.heap "java/lang/StringUTF16" "LO_BYTE_SHIFT" "I" (.int (8 : Int32))) (q8 : Exa Z h0 b "java/lang/StringBuilder") (q9 : Fld Z h0 b "java/lang/AbstractStringBuilder" "value" "[B" (.ref a)) (q10 : Fld Z h0 b "java/lang/AbstractStringBuilder" "coder" "B" (.int (0 : Int32))) (q11 : Fld Z h0 b "java/lang/AbstractStringBuilder" "count" "I" (.int (Int32.ofNat cs.length))) (q12 : Fld Z h0 b "java/lang/AbstractStringBuilder" "maybeLatin1" "Z" (.int (0 : Int32))) (q13 : Arv Z h0 a ka .byte (Int32.ofNat cap) (lb cs) (.int (0 : Int32))) (q14 : @LE.le Nat instLENat n0 a) (q15 : @LE.le Nat instLENat n0 b) (q16 : ¬ @Eq Nat a b) (hcap : cap ≤ 18) (hlc : ∀ c ∈ cs, Lat c) (hcl : cs.length ≤ cap) :
    MetFree l y_20 (head1 (Jvm.Cond.code y_20 jdk_68_method_11_code 2 none :: ws) r_m11) (fun a_ U_ => a_ = #[(.ref b)] ∧ Z.Warmed39 U_.vm ∧ U_.heap = h0) (fun _ _ _ _ _ => True) (fun _ U_ o_ V_ => ∃ v_ L_, o_ = .returned v_ ∧ Qasi Z b a ka cap cs G1 G3 h0 n0 v_ V_.heap L_ ∧ FrameEnd U_ o_ V_ L_ r_m11.cells r_m11.slots) := by
  refine MetFree.of_bodySF (plainFor_of_name pn_2) hisR ?_
  intro p e s m args below meth c s₁ Bd hml0 hP hK
  obtain ⟨rfl, hZ, hh⟩ := hP
  have hx := Bd.exec
  have hby := Bd.bytes
  have hml : c.maxLocals = 2 := hml0
  have hown : s.vm.findClass "java/lang/AbstractStringBuilder" = some m.cls := findClass_of_methodNamed Bd.named
  have hnm := (name_of_methodNamed Bd.named Bd.method).1
  have X0 : Stand p l e r_m11 s m #[(.ref b)] below meth c s₁ [] 0 0 := Stand.of_body Bd
  have e0 : s₁.heap = h0 := by rw [← hh, Bd.state]; rfl
  have N0 := Fr.nil n0
  have Oo := q2.1
  have zo := q2.2
  have lt221 := own_alt q8.lt
  have lt222 := own_alt q9.lt
  have lt223 := own_alt q10.lt
  have lt224 := own_alt q11.lt
  have lt225 := own_alt q12.lt
  have lt226 := own_alt q13.lt
  refine Gl.go (A := s₁.setTop (entryFrame m #[(.ref b)] 2)) (P := fun o_ U_ => ∃ v_ L_, o_ = .returned v_ ∧ Qasi Z b a ka cap cs G1 G3 h0 n0 v_ U_.heap L_ ∧ FrameEnd s o_ U_ L_ r_m11.cells r_m11.slots) (fun t_ k_ => castTop (ef_asi m b) k_) ?_
  show Gl p.tables e below _ (s₁.setTop (mkF m 0 #[sR b, sU] []))
  refine Gl.go (fun _ hr => zXS_aloadN X0.here hx rfl (hb hby d43_0) rfl rfl hr) ?_
  have zz227 : n0 ≤ h0.size := by omega
  refine gVirtualN Gl.cl (y := y_11) (z := y_11) (b := b) (argsL := []) (rest := []) (mc := 0) (ms := 0) X0 hx hZ hown (mvT hZ (tw hw 220 rfl)) (mvT hZ (tw hw 141 rfl)) (notFace_of_selects (args := #[]) (mvT hZ (tw hw 143 rfl))) (mvT hZ (tw hw 143 rfl)) (mvT hZ (tw hw 142 rfl)) (by decide) q8 (backOf (W := 0) (bl0 l Z a0 hw [] b G1 h0 n0 zz227 q0 (by assumption) ⟨Oo, (by omega)⟩ q10) hZ (tw hw 144 rfl) (tw hw 58 rfl) (by decide) (by decide)) rfl (by rw [hml]; rfl) (lenOf pd_14 rfl) rfl (by exact Nat.le_of_eq rfl) (hb hby d43_1) rfl e0 (by decide) (by decide) ?_
  intro v227 T227 Lc227 hQ227 X227
  obtain ⟨rfl, Nq227, e227⟩ := hQ227
  have N227 := Fr.app N0 Nq227
  refine Gl.go (fun _ hr => zXS_ifYes X227.here hx rfl (pc0 := 4) (pc' := 8) rfl (hb hby d43_4) rfl (XT.i0_ne_t (by decide)) (by decide) (by decide) (zXS_aloadN X227.here hx rfl (hb hby d43_8) rfl rfl hr)) ?_
  refine gGetF (host := "") Gl.cl X227 hx hZ hown (Or.inl (tw hw 62 rfl)) Via.refl e227 q9 rfl rfl (hb hby d43_9) ?_
  intro T228 X228 e228
  obtain ⟨c229, a229, q229, s229, m229, H229, U229⟩ := id q13
  refine gLen Gl.cl X228 hx hZ e228 a229 s229 m229 rfl rfl (hb hby d43_12) ?_
  have zz230 : n0 ≤ h0.size := by omega
  refine gStaticN Gl.cl (y := y_3) (argsL := [(.int (Int32.ofNat cap))]) (rest := []) (mc := 1) (ms := 36) X228 hx hZ hown (mvT hZ (tw hw 221 rfl)) (mvT hZ (tw hw 222 rfl)) (mvT hZ (tw hw 188 rfl)) (mvT hZ (tw hw 223 rfl)) (by decide) (backOf (W := 0) (nbfG l Z a0 hw [] cap h0 n0 zz230 hcap) hZ (tw hw 223 rfl) (tw hw 188 rfl) (by decide) (by decide)) rfl (by rw [hml]; rfl) (lenOf pd_1 rfl) rfl (by exact Nat.le_of_eq rfl) (hb hby d43_13) rfl e228 (by decide) (by decide) ?_
  intro v230 T230 Lc230 hQ230 X230
  obtain ⟨r_230, kr_230, rfl, Nq230, K230, f230_0, f230_1⟩ := hQ230
  have z231 : h0.size ≤ T230.heap.size := K230.1
  have N230 := Fr.app N227 Nq230
  have lt232 := own_alt f230_0.lt
  refine Gl.go (fun _ hr => zXS_astoreN X230.here hx rfl (hb hby d43_16) rfl rfl (l' := #[sR b, sR r_230]) rfl (zXS_aloadN X230.here hx rfl (hb hby d43_17) rfl rfl hr)) ?_
  have Fc233 := (q9.keep K230 nin0)
  refine gGetF (host := "") Gl.cl X230 hx hZ hown (Or.inl (tw hw 62 rfl)) Via.refl (rfl : T230.heap = T230.heap) Fc233 rfl rfl (hb hby d43_18) ?_
  intro T234 X234 e234
  refine Gl.go (fun _ hr => zXS_iconst X234.here hx rfl (hb hby d43_21) (zXS_aloadN X234.here hx rfl (hb hby d43_22) rfl rfl (zXS_iconst X234.here hx rfl (hb hby d43_23) (zXS_aloadN X234.here hx rfl (hb hby d43_24) rfl rfl hr)))) ?_
  have Fc235 := (q11.keep K230 nin0)
  refine gGetF (host := "") Gl.cl X234 hx hZ hown (Or.inl (tw hw 87 rfl)) Via.refl e234 Fc235 rfl rfl (hb hby d43_25) ?_
  intro T236 X236 e236
  have Oc238 := (Oo.keep K230 all0)
  have Vc239 := (q13.keep K230 nin0)
  have zz237 : n0 ≤ T230.heap.size := by omega
  refine gStaticN Gl.cl (y := y_19) (argsL := [(.ref a), (.int (0 : Int32)), (.ref r_230), (.int (0 : Int32)), (.int (Int32.ofNat cs.length))]) (rest := []) (mc := 0) (ms := 0) X236 hx hZ hown (mvT hZ (tw hw 228 rfl)) (mvT hZ (tw hw 229 rfl)) (mvT hZ (tw hw 176 rfl)) (mvT hZ (tw hw 230 rfl)) (by decide) (backOf (W := 0) (lif l Z a0 hw [] a ka cap cs r_230 kr_230 cap ([] : List Int32) G3 T230.heap n0 zz237 ⟨Oc238, (by omega)⟩ q3 (by assumption) q5 q6 q7 Vc239 f230_0 (by omega) (by omega) hlc (by simp only [List.length_nil]; omega) hcap hcl (by omega)) hZ (tw hw 230 rfl) (tw hw 176 rfl) (by decide) (by decide)) rfl (by rw [hml]; rfl) (lenOf pd_13 rfl) rfl (by exact Nat.le_of_eq rfl) (hb hby d43_28) rfl e236 (by decide) (by decide) ?_
  intro v237 T237 Lc237 hQ237 X237
  obtain ⟨rfl, Nq237, K237, f237_0⟩ := hQ237
  have z240 : T230.heap.size ≤ T237.heap.size := K237.1
  have N237 := Fr.app N230 Nq237
  have lt241 := own_alt f237_0.lt
  refine Gl.go (fun _ hr => zXS_aloadN X237.here hx rfl (hb hby d43_31) rfl rfl (zXS_aloadN X237.here hx rfl (hb hby d43_32) rfl rfl hr)) ?_
  have om242 : ¬ @Eq Nat b r_230 := by omega
  have Fc243 := (Fc233.keep K237 (ninS (own_ane om242) nin0))
  have Ec244 := ((q8.keep K230).keep K237)
  refine gPutF (host := "") Gl.cl X237 hx hZ hown (Or.inl (tw hw 62 rfl)) Via.refl (rfl : T237.heap = T237.heap) Fc243 Ec244 (Or.inl (tw hw 63 rfl)) (tw hw 49 rfl) (ty := (.array .byte)) (by decide) rfl rfl rfl rfl (hb hby d43_33) ?_
  intro T245 h245 X245 e245 W245
  have z246 : T237.heap.size ≤ h245.size := (Keep.of_wr W245).1
  have Fw245 := Fc243.same W245
  have om247 : @LE.le Nat instLENat n0 b := by omega
  have N245 := Fr.snoc X245 N237 (own_ale om247)
  refine Gl.go (fun _ hr => zXS_aloadN X245.here hx rfl (hb hby d43_36) rfl rfl (zXS_iconst X245.here hx rfl (hb hby d43_37) hr)) ?_
  have Fc248 := (((q10.keep K230 nin0).keep K237 (ninS (own_ane om242) nin0)).other W245 (Or.inr (slot_ne (Or.inl (tw hw 65 rfl)) (Or.inl (tw hw 63 rfl)) (by decide) (t := .byte) (t' := (.array .byte)) (by decide) (by decide))))
  have Ec249 := (Ec244.wr W245)
  refine gPutF (host := "") Gl.cl X245 hx hZ hown (Or.inl (tw hw 64 rfl)) Via.refl e245 Fc248 Ec249 (Or.inl (tw hw 65 rfl)) (tw hw 49 rfl) (ty := .byte) (by decide) rfl rfl rfl rfl (hb hby d43_38) ?_
  intro T250 h250 X250 e250 W250
  have z251 : h245.size ≤ h250.size := (Keep.of_wr W250).1
  have Fw250 := Fc248.same W250
  have N250 := Fr.snoc X250 N245 (own_ale om247)
  have Ec252 := (Ec249.wr W250)
  have Fc253 := (Fw245.other W250 (Or.inr (slot_ne (Or.inl (tw hw 63 rfl)) (Or.inl (tw hw 65 rfl)) (by decide) (t := (.array .byte)) (t' := .byte) (by decide) (by decide))))
  have Fc254 := (((Fc235.keep K237 (ninS (own_ane om242) nin0)).other W245 (Or.inr (slot_ne (Or.inl (tw hw 88 rfl)) (Or.inl (tw hw 63 rfl)) (by decide) (t := .int) (t' := (.array .byte)) (by decide) (by decide)))).other W250 (Or.inr (slot_ne (Or.inl (tw hw 88 rfl)) (Or.inl (tw hw 65 rfl)) (by decide) (t := .int) (t' := .byte) (by decide) (by decide))))
  have Fc255 := ((((q12.keep K230 nin0).keep K237 (ninS (own_ane om242) nin0)).other W245 (Or.inr (slot_ne (Or.inl (tw hw 247 rfl)) (Or.inl (tw hw 63 rfl)) (by decide) (t := .boolean) (t' := (.array .byte)) (by decide) (by decide)))).other W250 (Or.inr (slot_ne (Or.inl (tw hw 247 rfl)) (Or.inl (tw hw 65 rfl)) (by decide) (t := .boolean) (t' := .byte) (by decide) (by decide))))
  have Vc256 := ((f237_0.other W245 (own_anes om242)).other W250 (own_anes om242))
  obtain ⟨fs, hr, hrun, hended, hW, hsame⟩ := X250.leave (v := none) (fun _ => rfl)
  have om257 : @LE.le Nat instLENat h0.size r_230 := by omega
  refine ⟨_, _, X250.returnOut hx Bd.returns (hb hby d43_41) hr, hrun, hended, _, _, rfl, ?_, ⟨⟨_, rfl⟩, hW, hsame.mono (by decide) (by decide)⟩⟩
  show Qasi Z b a ka cap cs G1 G3 h0 n0 _ T250.heap _
  rw [e250]
  exact ⟨r_230, kr_230, rfl, N250, (((((Keep.refl h0 [b]).trans K230 all0).trans K237 (allS (P := fun x_ => x_ ∈ ([b] : List Addr) ∨ h0.size ≤ x_) (Or.inr (own_ale om257)) all0)).wr W245 (Or.inl (by simp))).wr W250 (Or.inl (by simp))), Ec252, Fc253, Fw250, Fc254, Fc255, Vc256, (by omega)⟩
def Qasj (Z : State) (b : Addr) (G1 : Int32) (h0 : Heap) (n0 : Nat) (v : Option Value) (h : Heap) (L : List Loc) : Prop := v = none ∧ Fr n0 L ∧ h = h0
theorem ef_asj (m : MethodId) (x0 : Addr) : entryFrame m #[(.ref x0)] 2 = mkF m 0 #[sR x0, sU] [] := by first | (simp [entryFrame, mkF, argsToLocals, Value.category]; done) | rfl
theorem d43_7 : decode jdk_68_method_11_code 7 = .ok (.return_, 1) := by decide +kernel
set_option maxRecDepth 65536 in
set_option maxHeartbeats 40000000 in
theorem asj (l : Launch) (Z : State) (a0 : Array Value) (hw : ∀ d ∈ tables_1, d.before a0 Z = true) (ws : List Jvm.Cond) (b : Addr) (G1 : Int32) (h0 : Heap) (n0 : Nat) (Z0 : n0 ≤ h0.size) (q0 : Sta Z Z.heap "java/lang/String" "COMPACT_STRINGS" "Z" (.int G1)) (P5 : ¬ (G1 = (0 : Int32))) (q2 : (Old Z Z.heap.size h0 ∧ @LE.le Nat instLENat Z.heap.size n0)) (q3 : Exa Z h0 b "java/lang/StringBuilder") (q4 : Fld Z h0 b "java/lang/AbstractStringBuilder" "coder" "B" (.int (1 : Int32))) :
    MetFree l y_20 (head1 (Jvm.Cond.code y_20 jdk_68_method_11_code 2 none :: ws) r_m12) (fun a_ U_ => a_ = #[(.ref b)] ∧ Z.Warmed39 U_.vm ∧ U_.heap = h0) (fun _ _ _ _ _ => True) (fun _ U_ o_ V_ => ∃ v_ L_, o_ = .returned v_ ∧ Qasj Z b G1 h0 n0 v_ V_.heap L_ ∧ FrameEnd U_ o_ V_ L_ r_m12.cells r_m12.slots) := by
  refine MetFree.of_bodySF (plainFor_of_name pn_2) hisR ?_
  intro p e s m args below meth c s₁ Bd hml0 hP hK
  obtain ⟨rfl, hZ, hh⟩ := hP
  have hx := Bd.exec
  have hby := Bd.bytes
  have hml : c.maxLocals = 2 := hml0
  have hown : s.vm.findClass "java/lang/AbstractStringBuilder" = some m.cls := findClass_of_methodNamed Bd.named
  have hnm := (name_of_methodNamed Bd.named Bd.method).1
  have X0 : Stand p l e r_m12 s m #[(.ref b)] below meth c s₁ [] 0 0 := Stand.of_body Bd
  have e0 : s₁.heap = h0 := by rw [← hh, Bd.state]; rfl
  have N0 := Fr.nil n0
  have Oo := q2.1
  have zo := q2.2
  have lt258 := own_alt q3.lt
  have lt259 := own_alt q4.lt
  refine Gl.go (A := s₁.setTop (entryFrame m #[(.ref b)] 2)) (P := fun o_ U_ => ∃ v_ L_, o_ = .returned v_ ∧ Qasj Z b G1 h0 n0 v_ U_.heap L_ ∧ FrameEnd s o_ U_ L_ r_m12.cells r_m12.slots) (fun t_ k_ => castTop (ef_asj m b) k_) ?_
  show Gl p.tables e below _ (s₁.setTop (mkF m 0 #[sR b, sU] []))
  refine Gl.go (fun _ hr => zXS_aloadN X0.here hx rfl (hb hby d43_0) rfl rfl hr) ?_
  have zz260 : n0 ≤ h0.size := by omega
  refine gVirtualN Gl.cl (y := y_11) (z := y_11) (b := b) (argsL := []) (rest := []) (mc := 0) (ms := 0) X0 hx hZ hown (mvT hZ (tw hw 220 rfl)) (mvT hZ (tw hw 141 rfl)) (notFace_of_selects (args := #[]) (mvT hZ (tw hw 143 rfl))) (mvT hZ (tw hw 143 rfl)) (mvT hZ (tw hw 142 rfl)) (by decide) q3 (backOf (W := 0) (bl1 l Z a0 hw [] b G1 h0 n0 zz260 q0 (by assumption) ⟨Oo, (by omega)⟩ q4) hZ (tw hw 144 rfl) (tw hw 58 rfl) (by decide) (by decide)) rfl (by rw [hml]; rfl) (lenOf pd_14 rfl) rfl (by exact Nat.le_of_eq rfl) (hb hby d43_1) rfl e0 (by decide) (by decide) ?_
  intro v260 T260 Lc260 hQ260 X260
  obtain ⟨rfl, Nq260, e260⟩ := hQ260
  have N260 := Fr.app N0 Nq260
  refine Gl.go (fun _ hr => zXS_ifNo X260.here hx rfl (hb hby d43_4) rfl (XT.i0_ne_f (by decide)) hr) ?_
  obtain ⟨fs, hr, hrun, hended, hW, hsame⟩ := X260.leave (v := none) (fun _ => rfl)
  refine ⟨_, _, X260.returnOut hx Bd.returns (hb hby d43_7) hr, hrun, hended, _, _, rfl, ?_, ⟨⟨_, rfl⟩, hW, hsame.mono (by decide) (by decide)⟩⟩
  show Qasj Z b G1 h0 n0 _ T260.heap _
  rw [e260]
  exact ⟨rfl, N260, rfl⟩
def Qinf00 (Z : State) (b : Addr) (x : Addr) (G1 : Int32) (h0 : Heap) (n0 : Nat) (v : Option Value) (h : Heap) (L : List Loc) : Prop := v = none ∧ Fr n0 L ∧ h = h0
theorem ef_inf00 (m : MethodId) (x0 : Addr) (x1 : Addr) : entryFrame m #[(.ref x0), (.ref x1)] 2 = mkF m 0 #[sR x0, sR x1] [] := by first | (simp [entryFrame, mkF, argsToLocals, Value.category]; done) | rfl
theorem d16_0 : decode jdk_68_method_71_code 0 = .ok (.getstatic 18, 3) := by decide +kernel
theorem d16_3 : decode jdk_68_method_71_code 3 = .ok (.ifCond .eq 18, 3) := by decide +kernel
theorem d16_6 : decode jdk_68_method_71_code 6 = .ok (.aload_n 0, 1) := by decide +kernel
theorem d16_7 : decode jdk_68_method_71_code 7 = .ok (.getfield 22, 3) := by decide +kernel
theorem d16_10 : decode jdk_68_method_71_code 10 = .ok (.aload_n 1, 1) := by decide +kernel
theorem d16_11 : decode jdk_68_method_71_code 11 = .ok (.invokevirtual 40, 3) := by decide +kernel
theorem d16_14 : decode jdk_68_method_71_code 14 = .ok (.if_icmp .eq 7, 3) := by decide +kernel
theorem d16_21 : decode jdk_68_method_71_code 21 = .ok (.return_, 1) := by decide +kernel
set_option maxRecDepth 65536 in
set_option maxHeartbeats 40000000 in
theorem inf00 (l : Launch) (Z : State) (a0 : Array Value) (hw : ∀ d ∈ tables_1, d.before a0 Z = true) (ws : List Jvm.Cond) (b : Addr) (x : Addr) (G1 : Int32) (h0 : Heap) (n0 : Nat) (Z0 : n0 ≤ h0.size) (q0 : Sta Z Z.heap "java/lang/String" "COMPACT_STRINGS" "Z" (.int G1)) (P5 : ¬ (G1 = (0 : Int32))) (q2 : (Old Z Z.heap.size h0 ∧ @LE.le Nat instLENat Z.heap.size n0)) (q3 : Exa Z h0 b "java/lang/StringBuilder") (q4 : Fld Z h0 b "java/lang/AbstractStringBuilder" "coder" "B" (.int (0 : Int32))) (q5 : Exa Z h0 x "java/lang/String") (q6 : Fld Z h0 x "java/lang/String" "coder" "B" (.int (0 : Int32))) :
    MetFree l y_21 (head1 (Jvm.Cond.code y_21 jdk_68_method_71_code 2 none :: ws) r_m7) (fun a_ U_ => a_ = #[(.ref b), (.ref x)] ∧ Z.Warmed39 U_.vm ∧ U_.heap = h0) (fun _ _ _ _ _ => True) (fun _ U_ o_ V_ => ∃ v_ L_, o_ = .returned v_ ∧ Qinf00 Z b x G1 h0 n0 v_ V_.heap L_ ∧ FrameEnd U_ o_ V_ L_ r_m7.cells r_m7.slots) := by
  refine MetFree.of_bodySF (plainFor_of_name pn_2) hisR ?_
  intro p e s m args below meth c s₁ Bd hml0 hP hK
  obtain ⟨rfl, hZ, hh⟩ := hP
  have hx := Bd.exec
  have hby := Bd.bytes
  have hml : c.maxLocals = 2 := hml0
  have hown : s.vm.findClass "java/lang/AbstractStringBuilder" = some m.cls := findClass_of_methodNamed Bd.named
  have hnm := (name_of_methodNamed Bd.named Bd.method).1
  have X0 : Stand p l e r_m7 s m #[(.ref b), (.ref x)] below meth c s₁ [] 0 0 := Stand.of_body Bd
  have e0 : s₁.heap = h0 := by rw [← hh, Bd.state]; rfl
  have N0 := Fr.nil n0
  have Oo := q2.1
  have zo := q2.2
  have lt261 := own_alt q3.lt
  have lt262 := own_alt q4.lt
  have lt263 := own_alt q5.lt
  have lt264 := own_alt q6.lt
  refine Gl.go (A := s₁.setTop (entryFrame m #[(.ref b), (.ref x)] 2)) (P := fun o_ U_ => ∃ v_ L_, o_ = .returned v_ ∧ Qinf00 Z b x G1 h0 n0 v_ U_.heap L_ ∧ FrameEnd s o_ U_ L_ r_m7.cells r_m7.slots) (fun t_ k_ => castTop (ef_inf00 m b x) k_) ?_
  show Gl p.tables e below _ (s₁.setTop (mkF m 0 #[sR b, sR x] []))
  refine gGetS (host := "") Gl.cl X0 hx hZ hown (Or.inl (tw hw 61 rfl)) Via.refl e0 (q0.ext Oo.2) rfl (hb hby d16_0) ?_
  intro T265 X265 e265
  refine Gl.go (fun _ hr => zXS_ifNo X265.here hx rfl (hb hby d16_3) rfl (XT.i0_eq_f P5) (zXS_aloadN X265.here hx rfl (hb hby d16_6) rfl rfl hr)) ?_
  refine gGetF (host := "") Gl.cl X265 hx hZ hown (Or.inl (tw hw 64 rfl)) Via.refl e265 q4 rfl rfl (hb hby d16_7) ?_
  intro T266 X266 e266
  refine Gl.go (fun _ hr => zXS_aloadN X266.here hx rfl (hb hby d16_10) rfl rfl hr) ?_
  have zz267 : n0 ≤ h0.size := by omega
  refine gVirtualN Gl.cl (y := y_10) (z := y_10) (b := x) (argsL := []) (rest := [(.int (0 : Int32))]) (mc := 0) (ms := 0) X266 hx hZ hown (mvT hZ (tw hw 104 rfl)) (mvT hZ (tw hw 82 rfl)) (notFace_of_selects (args := #[]) (mvT hZ (tw hw 84 rfl))) (mvT hZ (tw hw 84 rfl)) (mvT hZ (tw hw 83 rfl)) (by decide) q5 (backOf (W := 1) (cod0 l Z a0 hw [] x G1 h0 n0 zz267 q0 (by assumption) ⟨Oo, (by omega)⟩ q6) hZ (tw hw 85 rfl) (tw hw 7 rfl) (by decide) (by decide)) rfl (by rw [hml]; rfl) (lenOf pd_8 rfl) rfl (by exact Nat.le_of_eq rfl) (hb hby d16_11) rfl e266 (by decide) (by decide) ?_
  intro v267 T267 Lc267 hQ267 X267
  obtain ⟨rfl, Nq267, e267⟩ := hQ267
  have N267 := Fr.app N0 Nq267
  refine Gl.go (fun _ hr => zXS_icmpYes X267.here hx rfl (pc0 := 14) (pc' := 21) rfl (hb hby d16_14) rfl (XT.ii_eq_t (by decide)) (by decide) (by decide) hr) ?_
  obtain ⟨fs, hr, hrun, hended, hW, hsame⟩ := X267.leave (v := none) (fun _ => rfl)
  refine ⟨_, _, X267.returnOut hx Bd.returns (hb hby d16_21) hr, hrun, hended, _, _, rfl, ?_, ⟨⟨_, rfl⟩, hW, hsame.mono (by decide) (by decide)⟩⟩
  show Qinf00 Z b x G1 h0 n0 _ T267.heap _
  rw [e267]
  exact ⟨rfl, N267, rfl⟩
def Qinf01 (Z : State) (b : Addr) (a : Addr) (ka : ClassId) (cap : Nat) (cs : List Int32) (x : Addr) (G1 : Int32) (G3 : Value) (h0 : Heap) (n0 : Nat) (v : Option Value) (h : Heap) (L : List Loc) : Prop := ∃ (a2 : Addr), ∃ (k2 : ClassId), v = none ∧ Fr n0 L ∧ Keep h0 h [b] ∧ (Exa Z h b "java/lang/StringBuilder") ∧ (Fld Z h b "java/lang/AbstractStringBuilder" "value" "[B" (.ref a2)) ∧ (Fld Z h b "java/lang/AbstractStringBuilder" "coder" "B" (.int (1 : Int32))) ∧ (Fld Z h b "java/lang/AbstractStringBuilder" "count" "I" (.int (Int32.ofNat cs.length))) ∧ (Fld Z h b "java/lang/AbstractStringBuilder" "maybeLatin1" "Z" (.int (0 : Int32))) ∧ (Arv Z h a2 k2 .byte (Int32.ofNat (2 * cap)) (StrChars.Road.wideBytes cs) (.int (0 : Int32))) ∧ (@LE.le Nat instLENat h0.size a2)
theorem ef_inf01 (m : MethodId) (x0 : Addr) (x1 : Addr) : entryFrame m #[(.ref x0), (.ref x1)] 2 = mkF m 0 #[sR x0, sR x1] [] := by first | (simp [entryFrame, mkF, argsToLocals, Value.category]; done) | rfl
theorem d16_17 : decode jdk_68_method_71_code 17 = .ok (.aload_n 0, 1) := by decide +kernel
theorem d16_18 : decode jdk_68_method_71_code 18 = .ok (.invokevirtual 195, 3) := by decide +kernel
theorem pd_15 : parseMethodDescriptor "()V" = some ⟨[], none⟩ := by decide +kernel
set_option maxRecDepth 65536 in
set_option maxHeartbeats 40000000 in
theorem inf01 (l : Launch) (Z : State) (a0 : Array Value) (hw : ∀ d ∈ tables_1, d.before a0 Z = true) (ws : List Jvm.Cond) (b : Addr) (a : Addr) (ka : ClassId) (cap : Nat) (cs : List Int32) (x : Addr) (G1 : Int32) (G3 : Value) (h0 : Heap) (n0 : Nat) (Z0 : n0 ≤ h0.size) (q0 : Sta Z Z.heap "java/lang/String" "COMPACT_STRINGS" "Z" (.int G1)) (P5 : ¬ (G1 = (0 : Int32))) (q2 : (Old Z Z.heap.size h0 ∧ @LE.le Nat instLENat Z.heap.size n0)) (q3 : Sta Z Z.heap "jdk/internal/util/Preconditions" "SIOOBE_FORMATTER" "Ljava/util/function/BiFunction;" G3) (rG3 : G3.isRef = true) (q5 : Sta Z Z.heap "java/lang/StringUTF16" "$assertionsDisabled" "Z" (.int (1 : Int32))) (q6 : Sta Z Z.heap "java/lang/StringUTF16" "HI_BYTE_SHIFT" "I" (.int (0 : Int32))) (q7 : Sta Z Z.heap "java/lang/StringUTF16" "LO_BYTE_SHIFT" "I" (.int (8 : Int32))) (q8 : Exa Z h0 b "java/lang/StringBuilder") (q9 : Fld Z h0 b "java/lang/AbstractStringBuilder" "value" "[B" (.ref a)) (q10 : Fld Z h0 b "java/lang/AbstractStringBuilder" "coder" "B" (.int (0 : Int32))) (q11 : Fld Z h0 b "java/lang/AbstractStringBuilder" "count" "I" (.int (Int32.ofNat cs.length))) (q12 : Fld Z h0 b "java/lang/AbstractStringBuilder" "maybeLatin1" "Z" (.int (0 : Int32))) (q13 : Arv Z h0 a ka .byte (Int32.ofNat cap) (lb cs) (.int (0 : Int32))) (q14 : @LE.le Nat instLENat n0 a) (q15 : @LE.le Nat instLENat n0 b) (q16 : ¬ @Eq Nat a b) (hcap : cap ≤ 18) (hlc : ∀ c ∈ cs, Lat c) (hcl : cs.length ≤ cap) (q20 : Exa Z h0 x "java/lang/String") (q21 : Fld Z h0 x "java/lang/String" "coder" "B" (.int (1 : Int32))) (q22 : ¬ @Eq Nat b x) :
    MetFree l y_21 (head1 (Jvm.Cond.code y_21 jdk_68_method_71_code 2 none :: ws) r_m13) (fun a_ U_ => a_ = #[(.ref b), (.ref x)] ∧ Z.Warmed39 U_.vm ∧ U_.heap = h0) (fun _ _ _ _ _ => True) (fun _ U_ o_ V_ => ∃ v_ L_, o_ = .returned v_ ∧ Qinf01 Z b a ka cap cs x G1 G3 h0 n0 v_ V_.heap L_ ∧ FrameEnd U_ o_ V_ L_ r_m13.cells r_m13.slots) := by
  refine MetFree.of_bodySF (plainFor_of_name pn_2) hisR ?_
  intro p e s m args below meth c s₁ Bd hml0 hP hK
  obtain ⟨rfl, hZ, hh⟩ := hP
  have hx := Bd.exec
  have hby := Bd.bytes
  have hml : c.maxLocals = 2 := hml0
  have hown : s.vm.findClass "java/lang/AbstractStringBuilder" = some m.cls := findClass_of_methodNamed Bd.named
  have hnm := (name_of_methodNamed Bd.named Bd.method).1
  have X0 : Stand p l e r_m13 s m #[(.ref b), (.ref x)] below meth c s₁ [] 0 0 := Stand.of_body Bd
  have e0 : s₁.heap = h0 := by rw [← hh, Bd.state]; rfl
  have N0 := Fr.nil n0
  have Oo := q2.1
  have zo := q2.2
  have lt268 := own_alt q8.lt
  have lt269 := own_alt q9.lt
  have lt270 := own_alt q10.lt
  have lt271 := own_alt q11.lt
  have lt272 := own_alt q12.lt
  have lt273 := own_alt q13.lt
  have lt274 := own_alt q20.lt
  have lt275 := own_alt q21.lt
  refine Gl.go (A := s₁.setTop (entryFrame m #[(.ref b), (.ref x)] 2)) (P := fun o_ U_ => ∃ v_ L_, o_ = .returned v_ ∧ Qinf01 Z b a ka cap cs x G1 G3 h0 n0 v_ U_.heap L_ ∧ FrameEnd s o_ U_ L_ r_m13.cells r_m13.slots) (fun t_ k_ => castTop (ef_inf01 m b x) k_) ?_
  show Gl p.tables e below _ (s₁.setTop (mkF m 0 #[sR b, sR x] []))
  refine gGetS (host := "") Gl.cl X0 hx hZ hown (Or.inl (tw hw 61 rfl)) Via.refl e0 (q0.ext Oo.2) rfl (hb hby d16_0) ?_
  intro T276 X276 e276
  refine Gl.go (fun _ hr => zXS_ifNo X276.here hx rfl (hb hby d16_3) rfl (XT.i0_eq_f P5) (zXS_aloadN X276.here hx rfl (hb hby d16_6) rfl rfl hr)) ?_
  refine gGetF (host := "") Gl.cl X276 hx hZ hown (Or.inl (tw hw 64 rfl)) Via.refl e276 q10 rfl rfl (hb hby d16_7) ?_
  intro T277 X277 e277
  refine Gl.go (fun _ hr => zXS_aloadN X277.here hx rfl (hb hby d16_10) rfl rfl hr) ?_
  have zz278 : n0 ≤ h0.size := by omega
  refine gVirtualN Gl.cl (y := y_10) (z := y_10) (b := x) (argsL := []) (rest := [(.int (0 : Int32))]) (mc := 0) (ms := 0) X277 hx hZ hown (mvT hZ (tw hw 104 rfl)) (mvT hZ (tw hw 82 rfl)) (notFace_of_selects (args := #[]) (mvT hZ (tw hw 84 rfl))) (mvT hZ (tw hw 84 rfl)) (mvT hZ (tw hw 83 rfl)) (by decide) q20 (backOf (W := 1) (cod1 l Z a0 hw [] x G1 h0 n0 zz278 q0 (by assumption) ⟨Oo, (by omega)⟩ q21) hZ (tw hw 85 rfl) (tw hw 7 rfl) (by decide) (by decide)) rfl (by rw [hml]; rfl) (lenOf pd_8 rfl) rfl (by exact Nat.le_of_eq rfl) (hb hby d16_11) rfl e277 (by decide) (by decide) ?_
  intro v278 T278 Lc278 hQ278 X278
  obtain ⟨rfl, Nq278, e278⟩ := hQ278
  have N278 := Fr.app N0 Nq278
  refine Gl.go (fun _ hr => zXS_icmpNo X278.here hx rfl (hb hby d16_14) rfl (XT.ii_eq_f (by decide)) (zXS_aloadN X278.here hx rfl (hb hby d16_17) rfl rfl hr)) ?_
  have zz279 : n0 ≤ h0.size := by omega
  refine gPrivN Gl.cl (y := y_20) (b := b) (argsL := []) (rest := []) (mc := 1) (ms := 36) X278 hx hZ hown (mvT hZ (tw hw 215 rfl)) (mvT hZ (tw hw 216 rfl)) (mvT hZ (tw hw 218 rfl)) (mvP hZ (tw hw 217 rfl)) (mvT hZ (tw hw 219 rfl)) (by decide) q8 (backOf (W := 0) (asi l Z a0 hw [] b a ka cap cs G1 G3 h0 n0 zz279 q0 (by assumption) ⟨Oo, (by omega)⟩ q3 (by assumption) q5 q6 q7 q8 q9 q10 q11 q12 q13 (by omega) (by omega) (by omega) (by assumption) (by assumption) (by omega)) hZ (tw hw 219 rfl) (tw hw 58 rfl) (by decide) (by decide)) rfl (by rw [hml]; rfl) (lenOf pd_15 rfl) rfl (by exact Nat.le_of_eq rfl) (hb hby d16_18) rfl e278 (by decide) (by decide) ?_
  intro v279 T279 Lc279 hQ279 X279
  obtain ⟨a2_279, k2_279, rfl, Nq279, K279, f279_0, f279_1, f279_2, f279_3, f279_4, f279_5, f279_6⟩ := hQ279
  have z280 : h0.size ≤ T279.heap.size := K279.1
  have N279 := Fr.app N278 Nq279
  have lt281 := own_alt f279_0.lt
  have lt282 := own_alt f279_1.lt
  have lt283 := own_alt f279_2.lt
  have lt284 := own_alt f279_3.lt
  have lt285 := own_alt f279_4.lt
  have lt286 := own_alt f279_5.lt
  obtain ⟨fs, hr, hrun, hended, hW, hsame⟩ := X279.leave (v := none) (fun _ => rfl)
  refine ⟨_, _, X279.returnOut hx Bd.returns (hb hby d16_21) hr, hrun, hended, _, _, rfl, ?_, ⟨⟨_, rfl⟩, hW, hsame.mono (by decide) (by decide)⟩⟩
  show Qinf01 Z b a ka cap cs x G1 G3 h0 n0 _ T279.heap _
  exact ⟨a2_279, k2_279, rfl, N279, ((Keep.refl h0 [b]).trans K279 (allS (P := fun x_ => x_ ∈ ([b] : List Addr) ∨ h0.size ≤ x_) (Or.inl (by simp)) all0)), f279_0, f279_1, f279_2, f279_3, f279_4, f279_5, (by omega)⟩
def Qinf10 (Z : State) (b : Addr) (x : Addr) (G1 : Int32) (h0 : Heap) (n0 : Nat) (v : Option Value) (h : Heap) (L : List Loc) : Prop := v = none ∧ Fr n0 L ∧ h = h0
theorem ef_inf10 (m : MethodId) (x0 : Addr) (x1 : Addr) : entryFrame m #[(.ref x0), (.ref x1)] 2 = mkF m 0 #[sR x0, sR x1] [] := by first | (simp [entryFrame, mkF, argsToLocals, Value.category]; done) | rfl
set_option maxRecDepth 65536 in
set_option maxHeartbeats 40000000 in
theorem inf10 (l : Launch) (Z : State) (a0 : Array Value) (hw : ∀ d ∈ tables_1, d.before a0 Z = true) (ws : List Jvm.Cond) (b : Addr) (x : Addr) (G1 : Int32) (h0 : Heap) (n0 : Nat) (Z0 : n0 ≤ h0.size) (q0 : Sta Z Z.heap "java/lang/String" "COMPACT_STRINGS" "Z" (.int G1)) (P5 : ¬ (G1 = (0 : Int32))) (q2 : (Old Z Z.heap.size h0 ∧ @LE.le Nat instLENat Z.heap.size n0)) (q3 : Exa Z h0 b "java/lang/StringBuilder") (q4 : Fld Z h0 b "java/lang/AbstractStringBuilder" "coder" "B" (.int (1 : Int32))) (q5 : Exa Z h0 x "java/lang/String") (q6 : Fld Z h0 x "java/lang/String" "coder" "B" (.int (0 : Int32))) :
    MetFree l y_21 (head1 (Jvm.Cond.code y_21 jdk_68_method_71_code 2 none :: ws) r_m7) (fun a_ U_ => a_ = #[(.ref b), (.ref x)] ∧ Z.Warmed39 U_.vm ∧ U_.heap = h0) (fun _ _ _ _ _ => True) (fun _ U_ o_ V_ => ∃ v_ L_, o_ = .returned v_ ∧ Qinf10 Z b x G1 h0 n0 v_ V_.heap L_ ∧ FrameEnd U_ o_ V_ L_ r_m7.cells r_m7.slots) := by
  refine MetFree.of_bodySF (plainFor_of_name pn_2) hisR ?_
  intro p e s m args below meth c s₁ Bd hml0 hP hK
  obtain ⟨rfl, hZ, hh⟩ := hP
  have hx := Bd.exec
  have hby := Bd.bytes
  have hml : c.maxLocals = 2 := hml0
  have hown : s.vm.findClass "java/lang/AbstractStringBuilder" = some m.cls := findClass_of_methodNamed Bd.named
  have hnm := (name_of_methodNamed Bd.named Bd.method).1
  have X0 : Stand p l e r_m7 s m #[(.ref b), (.ref x)] below meth c s₁ [] 0 0 := Stand.of_body Bd
  have e0 : s₁.heap = h0 := by rw [← hh, Bd.state]; rfl
  have N0 := Fr.nil n0
  have Oo := q2.1
  have zo := q2.2
  have lt287 := own_alt q3.lt
  have lt288 := own_alt q4.lt
  have lt289 := own_alt q5.lt
  have lt290 := own_alt q6.lt
  refine Gl.go (A := s₁.setTop (entryFrame m #[(.ref b), (.ref x)] 2)) (P := fun o_ U_ => ∃ v_ L_, o_ = .returned v_ ∧ Qinf10 Z b x G1 h0 n0 v_ U_.heap L_ ∧ FrameEnd s o_ U_ L_ r_m7.cells r_m7.slots) (fun t_ k_ => castTop (ef_inf10 m b x) k_) ?_
  show Gl p.tables e below _ (s₁.setTop (mkF m 0 #[sR b, sR x] []))
  refine gGetS (host := "") Gl.cl X0 hx hZ hown (Or.inl (tw hw 61 rfl)) Via.refl e0 (q0.ext Oo.2) rfl (hb hby d16_0) ?_
  intro T291 X291 e291
  refine Gl.go (fun _ hr => zXS_ifNo X291.here hx rfl (hb hby d16_3) rfl (XT.i0_eq_f P5) (zXS_aloadN X291.here hx rfl (hb hby d16_6) rfl rfl hr)) ?_
  refine gGetF (host := "") Gl.cl X291 hx hZ hown (Or.inl (tw hw 64 rfl)) Via.refl e291 q4 rfl rfl (hb hby d16_7) ?_
  intro T292 X292 e292
  refine Gl.go (fun _ hr => zXS_aloadN X292.here hx rfl (hb hby d16_10) rfl rfl hr) ?_
  have zz293 : n0 ≤ h0.size := by omega
  refine gVirtualN Gl.cl (y := y_10) (z := y_10) (b := x) (argsL := []) (rest := [(.int (1 : Int32))]) (mc := 0) (ms := 0) X292 hx hZ hown (mvT hZ (tw hw 104 rfl)) (mvT hZ (tw hw 82 rfl)) (notFace_of_selects (args := #[]) (mvT hZ (tw hw 84 rfl))) (mvT hZ (tw hw 84 rfl)) (mvT hZ (tw hw 83 rfl)) (by decide) q5 (backOf (W := 1) (cod0 l Z a0 hw [] x G1 h0 n0 zz293 q0 (by assumption) ⟨Oo, (by omega)⟩ q6) hZ (tw hw 85 rfl) (tw hw 7 rfl) (by decide) (by decide)) rfl (by rw [hml]; rfl) (lenOf pd_8 rfl) rfl (by exact Nat.le_of_eq rfl) (hb hby d16_11) rfl e292 (by decide) (by decide) ?_
  intro v293 T293 Lc293 hQ293 X293
  obtain ⟨rfl, Nq293, e293⟩ := hQ293
  have N293 := Fr.app N0 Nq293
  refine Gl.go (fun _ hr => zXS_icmpNo X293.here hx rfl (hb hby d16_14) rfl (XT.ii_eq_f (by decide)) (zXS_aloadN X293.here hx rfl (hb hby d16_17) rfl rfl hr)) ?_
  have zz294 : n0 ≤ h0.size := by omega
  refine gPrivN Gl.cl (y := y_20) (b := b) (argsL := []) (rest := []) (mc := 0) (ms := 0) X293 hx hZ hown (mvT hZ (tw hw 215 rfl)) (mvT hZ (tw hw 216 rfl)) (mvT hZ (tw hw 218 rfl)) (mvP hZ (tw hw 217 rfl)) (mvT hZ (tw hw 219 rfl)) (by decide) q3 (backOf (W := 0) (asj l Z a0 hw [] b G1 h0 n0 zz294 q0 (by assumption) ⟨Oo, (by omega)⟩ q3 q4) hZ (tw hw 219 rfl) (tw hw 58 rfl) (by decide) (by decide)) rfl (by rw [hml]; rfl) (lenOf pd_15 rfl) rfl (by exact Nat.le_of_eq rfl) (hb hby d16_18) rfl e293 (by decide) (by decide) ?_
  intro v294 T294 Lc294 hQ294 X294
  obtain ⟨rfl, Nq294, e294⟩ := hQ294
  have N294 := Fr.app N293 Nq294
  obtain ⟨fs, hr, hrun, hended, hW, hsame⟩ := X294.leave (v := none) (fun _ => rfl)
  refine ⟨_, _, X294.returnOut hx Bd.returns (hb hby d16_21) hr, hrun, hended, _, _, rfl, ?_, ⟨⟨_, rfl⟩, hW, hsame.mono (by decide) (by decide)⟩⟩
  show Qinf10 Z b x G1 h0 n0 _ T294.heap _
  rw [e294]
  exact ⟨rfl, N294, rfl⟩
def Qinf11 (Z : State) (b : Addr) (x : Addr) (G1 : Int32) (h0 : Heap) (n0 : Nat) (v : Option Value) (h : Heap) (L : List Loc) : Prop := v = none ∧ Fr n0 L ∧ h = h0
theorem ef_inf11 (m : MethodId) (x0 : Addr) (x1 : Addr) : entryFrame m #[(.ref x0), (.ref x1)] 2 = mkF m 0 #[sR x0, sR x1] [] := by first | (simp [entryFrame, mkF, argsToLocals, Value.category]; done) | rfl
set_option maxRecDepth 65536 in
set_option maxHeartbeats 40000000 in
theorem inf11 (l : Launch) (Z : State) (a0 : Array Value) (hw : ∀ d ∈ tables_1, d.before a0 Z = true) (ws : List Jvm.Cond) (b : Addr) (x : Addr) (G1 : Int32) (h0 : Heap) (n0 : Nat) (Z0 : n0 ≤ h0.size) (q0 : Sta Z Z.heap "java/lang/String" "COMPACT_STRINGS" "Z" (.int G1)) (P5 : ¬ (G1 = (0 : Int32))) (q2 : (Old Z Z.heap.size h0 ∧ @LE.le Nat instLENat Z.heap.size n0)) (q3 : Exa Z h0 b "java/lang/StringBuilder") (q4 : Fld Z h0 b "java/lang/AbstractStringBuilder" "coder" "B" (.int (1 : Int32))) (q5 : Exa Z h0 x "java/lang/String") (q6 : Fld Z h0 x "java/lang/String" "coder" "B" (.int (1 : Int32))) :
    MetFree l y_21 (head1 (Jvm.Cond.code y_21 jdk_68_method_71_code 2 none :: ws) r_m7) (fun a_ U_ => a_ = #[(.ref b), (.ref x)] ∧ Z.Warmed39 U_.vm ∧ U_.heap = h0) (fun _ _ _ _ _ => True) (fun _ U_ o_ V_ => ∃ v_ L_, o_ = .returned v_ ∧ Qinf11 Z b x G1 h0 n0 v_ V_.heap L_ ∧ FrameEnd U_ o_ V_ L_ r_m7.cells r_m7.slots) := by
  refine MetFree.of_bodySF (plainFor_of_name pn_2) hisR ?_
  intro p e s m args below meth c s₁ Bd hml0 hP hK
  obtain ⟨rfl, hZ, hh⟩ := hP
  have hx := Bd.exec
  have hby := Bd.bytes
  have hml : c.maxLocals = 2 := hml0
  have hown : s.vm.findClass "java/lang/AbstractStringBuilder" = some m.cls := findClass_of_methodNamed Bd.named
  have hnm := (name_of_methodNamed Bd.named Bd.method).1
  have X0 : Stand p l e r_m7 s m #[(.ref b), (.ref x)] below meth c s₁ [] 0 0 := Stand.of_body Bd
  have e0 : s₁.heap = h0 := by rw [← hh, Bd.state]; rfl
  have N0 := Fr.nil n0
  have Oo := q2.1
  have zo := q2.2
  have lt295 := own_alt q3.lt
  have lt296 := own_alt q4.lt
  have lt297 := own_alt q5.lt
  have lt298 := own_alt q6.lt
  refine Gl.go (A := s₁.setTop (entryFrame m #[(.ref b), (.ref x)] 2)) (P := fun o_ U_ => ∃ v_ L_, o_ = .returned v_ ∧ Qinf11 Z b x G1 h0 n0 v_ U_.heap L_ ∧ FrameEnd s o_ U_ L_ r_m7.cells r_m7.slots) (fun t_ k_ => castTop (ef_inf11 m b x) k_) ?_
  show Gl p.tables e below _ (s₁.setTop (mkF m 0 #[sR b, sR x] []))
  refine gGetS (host := "") Gl.cl X0 hx hZ hown (Or.inl (tw hw 61 rfl)) Via.refl e0 (q0.ext Oo.2) rfl (hb hby d16_0) ?_
  intro T299 X299 e299
  refine Gl.go (fun _ hr => zXS_ifNo X299.here hx rfl (hb hby d16_3) rfl (XT.i0_eq_f P5) (zXS_aloadN X299.here hx rfl (hb hby d16_6) rfl rfl hr)) ?_
  refine gGetF (host := "") Gl.cl X299 hx hZ hown (Or.inl (tw hw 64 rfl)) Via.refl e299 q4 rfl rfl (hb hby d16_7) ?_
  intro T300 X300 e300
  refine Gl.go (fun _ hr => zXS_aloadN X300.here hx rfl (hb hby d16_10) rfl rfl hr) ?_
  have zz301 : n0 ≤ h0.size := by omega
  refine gVirtualN Gl.cl (y := y_10) (z := y_10) (b := x) (argsL := []) (rest := [(.int (1 : Int32))]) (mc := 0) (ms := 0) X300 hx hZ hown (mvT hZ (tw hw 104 rfl)) (mvT hZ (tw hw 82 rfl)) (notFace_of_selects (args := #[]) (mvT hZ (tw hw 84 rfl))) (mvT hZ (tw hw 84 rfl)) (mvT hZ (tw hw 83 rfl)) (by decide) q5 (backOf (W := 1) (cod1 l Z a0 hw [] x G1 h0 n0 zz301 q0 (by assumption) ⟨Oo, (by omega)⟩ q6) hZ (tw hw 85 rfl) (tw hw 7 rfl) (by decide) (by decide)) rfl (by rw [hml]; rfl) (lenOf pd_8 rfl) rfl (by exact Nat.le_of_eq rfl) (hb hby d16_11) rfl e300 (by decide) (by decide) ?_
  intro v301 T301 Lc301 hQ301 X301
  obtain ⟨rfl, Nq301, e301⟩ := hQ301
  have N301 := Fr.app N0 Nq301
  refine Gl.go (fun _ hr => zXS_icmpYes X301.here hx rfl (pc0 := 14) (pc' := 21) rfl (hb hby d16_14) rfl (XT.ii_eq_t (by decide)) (by decide) (by decide) hr) ?_
  obtain ⟨fs, hr, hrun, hended, hW, hsame⟩ := X301.leave (v := none) (fun _ => rfl)
  refine ⟨_, _, X301.returnOut hx Bd.returns (hb hby d16_21) hr, hrun, hended, _, _, rfl, ?_, ⟨⟨_, rfl⟩, hW, hsame.mono (by decide) (by decide)⟩⟩
  show Qinf11 Z b x G1 h0 n0 _ T301.heap _
  rw [e301]
  exact ⟨rfl, N301, rfl⟩
def Qgb00 (Z : State) (x : Addr) (t : Addr) (kb : ClassId) (ds : List Int32) (a : Addr) (ka : ClassId) (cap : Nat) (cs : List Int32) (G1 : Int32) (G3 : Value) (h0 : Heap) (n0 : Nat) (v : Option Value) (h : Heap) (L : List Loc) : Prop := v = none ∧ Fr n0 L ∧ Keep h0 h [a] ∧ (Arv Z h a ka .byte (Int32.ofNat cap) (lb (cs ++ ds)) (.int (0 : Int32)))
theorem ef_gb00 (m : MethodId) (x0 : Addr) (x1 : Addr) (x2 : Int32) (x3 : Int32) : entryFrame m #[(.ref x0), (.ref x1), (.int x2), (.int x3)] 4 = mkF m 0 #[sR x0, sR x1, sI x2, sI x3] [] := by first | (simp [entryFrame, mkF, argsToLocals, Value.category]; done) | rfl
theorem d17_0 : decode jdk_42_method_147_code 0 = .ok (.aload_n 0, 1) := by decide +kernel
theorem d17_1 : decode jdk_42_method_147_code 1 = .ok (.invokevirtual 335, 3) := by decide +kernel
theorem d17_4 : decode jdk_42_method_147_code 4 = .ok (.iload_n 3, 1) := by decide +kernel
theorem d17_5 : decode jdk_42_method_147_code 5 = .ok (.if_icmp .ne 23, 3) := by decide +kernel
theorem d17_8 : decode jdk_42_method_147_code 8 = .ok (.aload_n 0, 1) := by decide +kernel
theorem d17_9 : decode jdk_42_method_147_code 9 = .ok (.getfield 9, 3) := by decide +kernel
theorem d17_12 : decode jdk_42_method_147_code 12 = .ok (.iconst 0, 1) := by decide +kernel
theorem d17_13 : decode jdk_42_method_147_code 13 = .ok (.aload_n 1, 1) := by decide +kernel
theorem d17_14 : decode jdk_42_method_147_code 14 = .ok (.iload_n 2, 1) := by decide +kernel
theorem d17_15 : decode jdk_42_method_147_code 15 = .ok (.iload_n 3, 1) := by decide +kernel
theorem d17_16 : decode jdk_42_method_147_code 16 = .ok (.ishl, 1) := by decide +kernel
theorem d17_17 : decode jdk_42_method_147_code 17 = .ok (.aload_n 0, 1) := by decide +kernel
theorem d17_18 : decode jdk_42_method_147_code 18 = .ok (.getfield 9, 3) := by decide +kernel
theorem d17_21 : decode jdk_42_method_147_code 21 = .ok (.arraylength, 1) := by decide +kernel
theorem d17_22 : decode jdk_42_method_147_code 22 = .ok (.invokestatic 212, 3) := by decide +kernel
theorem d17_25 : decode jdk_42_method_147_code 25 = .ok (.goto 18, 3) := by decide +kernel
theorem d17_43 : decode jdk_42_method_147_code 43 = .ok (.return_, 1) := by decide +kernel
set_option maxRecDepth 65536 in
set_option maxHeartbeats 40000000 in
theorem gb00 (l : Launch) (Z : State) (a0 : Array Value) (hw : ∀ d ∈ tables_1, d.before a0 Z = true) (ws : List Jvm.Cond) (x : Addr) (t : Addr) (kb : ClassId) (ds : List Int32) (a : Addr) (ka : ClassId) (cap : Nat) (cs : List Int32) (G1 : Int32) (G3 : Value) (h0 : Heap) (n0 : Nat) (Z0 : n0 ≤ h0.size) (q0 : Sta Z Z.heap "java/lang/String" "COMPACT_STRINGS" "Z" (.int G1)) (P5 : ¬ (G1 = (0 : Int32))) (q2 : (Old Z Z.heap.size h0 ∧ @LE.le Nat instLENat Z.heap.size n0)) (q3 : Sta Z Z.heap "jdk/internal/util/Preconditions" "SIOOBE_FORMATTER" "Ljava/util/function/BiFunction;" G3) (rG3 : G3.isRef = true) (q5 : Sta Z Z.heap "java/lang/StringUTF16" "$assertionsDisabled" "Z" (.int (1 : Int32))) (q6 : Sta Z Z.heap "java/lang/StringUTF16" "HI_BYTE_SHIFT" "I" (.int (0 : Int32))) (q7 : Sta Z Z.heap "java/lang/StringUTF16" "LO_BYTE_SHIFT" "I" (.int (8 : Int32))) (q8 : Exa Z h0 x "java/lang/String") (q9 : Fld Z h0 x "java/lang/String" "value" "[B" (.ref t)) (q10 : Fld Z h0 x "java/lang/String" "coder" "B" (.int (0 : Int32))) (q11 : Arv Z h0 t kb .byte (Int32.ofNat ds.length) (lb ds) (.int (0 : Int32))) (q12 : Arv Z h0 a ka .byte (Int32.ofNat cap) (lb cs) (.int (0 : Int32))) (q13 : @LE.le Nat instLENat n0 a) (q14 : ¬ @Eq Nat a x) (q15 : ¬ @Eq Nat a t) (hcap : cap ≤ 18) (hfit : cs.length + ds.length ≤ cap) (hld : ∀ c ∈ ds, Lat c) :
    MetFree l y_22 (head1 (Jvm.Cond.code y_22 jdk_42_method_147_code 4 none :: ws) r_m14) (fun a_ U_ => a_ = #[(.ref x), (.ref a), (.int (Int32.ofNat cs.length)), (.int (0 : Int32))] ∧ Z.Warmed39 U_.vm ∧ U_.heap = h0) (fun _ _ _ _ _ => True) (fun _ U_ o_ V_ => ∃ v_ L_, o_ = .returned v_ ∧ Qgb00 Z x t kb ds a ka cap cs G1 G3 h0 n0 v_ V_.heap L_ ∧ FrameEnd U_ o_ V_ L_ r_m14.cells r_m14.slots) := by
  refine MetFree.of_bodySF (plainFor_of_name pn_1) hisR ?_
  intro p e s m args below meth c s₁ Bd hml0 hP hK
  obtain ⟨rfl, hZ, hh⟩ := hP
  have hx := Bd.exec
  have hby := Bd.bytes
  have hml : c.maxLocals = 4 := hml0
  have hown : s.vm.findClass "java/lang/String" = some m.cls := findClass_of_methodNamed Bd.named
  have hnm := (name_of_methodNamed Bd.named Bd.method).1
  have X0 : Stand p l e r_m14 s m #[(.ref x), (.ref a), (.int (Int32.ofNat cs.length)), (.int (0 : Int32))] below meth c s₁ [] 0 0 := Stand.of_body Bd
  have e0 : s₁.heap = h0 := by rw [← hh, Bd.state]; rfl
  have N0 := Fr.nil n0
  have Oo := q2.1
  have zo := q2.2
  have lt302 := own_alt q8.lt
  have lt303 := own_alt q9.lt
  have lt304 := own_alt q10.lt
  have lt305 := own_alt q11.lt
  have lt306 := own_alt q12.lt
  refine Gl.go (A := s₁.setTop (entryFrame m #[(.ref x), (.ref a), (.int (Int32.ofNat cs.length)), (.int (0 : Int32))] 4)) (P := fun o_ U_ => ∃ v_ L_, o_ = .returned v_ ∧ Qgb00 Z x t kb ds a ka cap cs G1 G3 h0 n0 v_ U_.heap L_ ∧ FrameEnd s o_ U_ L_ r_m14.cells r_m14.slots) (fun t_ k_ => castTop (ef_gb00 m x a (Int32.ofNat cs.length) (0 : Int32)) k_) ?_
  show Gl p.tables e below _ (s₁.setTop (mkF m 0 #[sR x, sR a, sI (Int32.ofNat cs.length), sI 0] []))
  refine Gl.go (fun _ hr => zXS_aloadN X0.here hx rfl (hb hby d17_0) rfl rfl hr) ?_
  have zz307 : n0 ≤ h0.size := by omega
  refine gVirtualN Gl.cl (y := y_10) (z := y_10) (b := x) (argsL := []) (rest := []) (mc := 0) (ms := 0) X0 hx hZ hown (mvT hZ (tw hw 81 rfl)) (mvT hZ (tw hw 82 rfl)) (notFace_of_selects (args := #[]) (mvT hZ (tw hw 84 rfl))) (mvT hZ (tw hw 84 rfl)) (mvT hZ (tw hw 83 rfl)) (by decide) q8 (backOf (W := 0) (cod0 l Z a0 hw [] x G1 h0 n0 zz307 q0 (by assumption) ⟨Oo, (by omega)⟩ q10) hZ (tw hw 85 rfl) (tw hw 7 rfl) (by decide) (by decide)) rfl (by rw [hml]; rfl) (lenOf pd_8 rfl) rfl (by exact Nat.le_of_eq rfl) (hb hby d17_1) rfl e0 (by decide) (by decide) ?_
  intro v307 T307 Lc307 hQ307 X307
  obtain ⟨rfl, Nq307, e307⟩ := hQ307
  have N307 := Fr.app N0 Nq307
  refine Gl.go (fun _ hr => zXS_iloadN X307.here hx rfl (hb hby d17_4) rfl (zXS_icmpNo X307.here hx rfl (hb hby d17_5) rfl (XT.ii_ne_f (by decide)) (zXS_aloadN X307.here hx rfl (hb hby d17_8) rfl rfl hr))) ?_
  refine gGetF (host := "") Gl.cl X307 hx hZ hown (Or.inl (tw hw 25 rfl)) Via.refl e307 q9 rfl rfl (hb hby d17_9) ?_
  intro T308 X308 e308
  refine Gl.go (fun _ hr => zXS_iconst X308.here hx rfl (hb hby d17_12) (zXS_aloadN X308.here hx rfl (hb hby d17_13) rfl rfl (zXS_iloadN X308.here hx rfl (hb hby d17_14) rfl (zXS_iloadN X308.here hx rfl (hb hby d17_15) rfl (zXT_ishl X308.here hx rfl (hb hby d17_16) rfl hr))))) ?_
  show Gl p.tables e below _ (T308.setTop (mkF m 17 #[sR x, sR a, sI (Int32.ofNat cs.length), sI 0] [(.int ((Int32.ofNat cs.length) <<< ((0 : Int32) &&& 31))), (.ref a), (.int (0 : Int32)), (.ref t)]))
  rw [own_shl0]
  show Gl p.tables e below _ (T308.setTop (mkF m 17 #[sR x, sR a, sI (Int32.ofNat cs.length), sI 0] [(.int (Int32.ofNat cs.length)), (.ref a), (.int (0 : Int32)), (.ref t)]))
  refine Gl.go (fun _ hr => zXS_aloadN X308.here hx rfl (hb hby d17_17) rfl rfl hr) ?_
  refine gGetF (host := "") Gl.cl X308 hx hZ hown (Or.inl (tw hw 25 rfl)) Via.refl e308 q9 rfl rfl (hb hby d17_18) ?_
  intro T309 X309 e309
  obtain ⟨c310, a310, q310, s310, m310, H310, U310⟩ := id q11
  refine gLen Gl.cl X309 hx hZ e309 a310 s310 m310 rfl rfl (hb hby d17_21) ?_
  refine gCopy Gl.cl (us := lb ds) (n0 := n0) (W := 0) X309 hx hZ hown (tw hw 110 rfl) (tw hw 113 rfl) (tw hw 111 rfl) (tw hw 112 rfl) e309 q11 (q12.pad (pad_rep (lb cs) (.int (0 : Int32)) 36)) (Or.inl ⟨rfl, rfl⟩) (by decide) (own_nn (by omega)) (own_nn (by omega)) (by rw [own_z0, Nat.zero_add]; exact Nat.le_refl _) (by rw [own_nat32 (by omega), own_nat32 (by omega), own_nat32 (by omega)]; omega) (own_us (lb_len ds) (by omega)) (by rw [own_nat32 (by omega), own_nat32 (by omega), List.length_append, List.length_replicate, lb_len]; omega) N307 (by omega) rfl (by rw [hml]; rfl) rfl (hb hby d17_22) (by decide) (by exact Nat.le_of_eq rfl) (by decide) ?_
  intro T311 h311 L311 X311 e311 N311 K311 Vr311
  have z312 : h0.size ≤ h311.size := K311.1
  have V311 : Arv Z h311 a ka .byte (Int32.ofNat cap) (lb (cs ++ ds)) (.int (0 : Int32)) := (by have q := own_catG (lb_len cs) (by omega) (by omega) Vr311; rw [← lb_app] at q; exact q)
  refine Gl.go (fun _ hr => zXS_goto X311.here hx rfl (pc0 := 25) (pc' := 43) rfl (hb hby d17_25) (by decide) (by decide) hr) ?_
  obtain ⟨fs, hr, hrun, hended, hW, hsame⟩ := X311.leave (v := none) (fun _ => rfl)
  refine ⟨_, _, X311.returnOut hx Bd.returns (hb hby d17_43) hr, hrun, hended, _, _, rfl, ?_, ⟨⟨_, rfl⟩, hW, hsame.mono (by decide) (by decide)⟩⟩
  show Qgb00 Z x t kb ds a ka cap cs G1 G3 h0 n0 _ T311.heap _
  rw [e311]
  exact ⟨rfl, N311, ((Keep.refl h0 [a]).trans K311 (allS (P := fun x_ => x_ ∈ ([a] : List Addr) ∨ h0.size ≤ x_) (Or.inl (by simp)) all0)), V311⟩
def Qgb10 (Z : State) (x : Addr) (t : Addr) (kb : ClassId) (ds : List Int32) (a : Addr) (ka : ClassId) (cap : Nat) (cs : List Int32) (G1 : Int32) (G3 : Value) (h0 : Heap) (n0 : Nat) (v : Option Value) (h : Heap) (L : List Loc) : Prop := v = none ∧ Fr n0 L ∧ Keep h0 h [a] ∧ (Arv Z h a ka .byte (Int32.ofNat (2 * cap)) (StrChars.Road.wideBytes (cs ++ ds)) (.int (0 : Int32)))
theorem ef_gb10 (m : MethodId) (x0 : Addr) (x1 : Addr) (x2 : Int32) (x3 : Int32) : entryFrame m #[(.ref x0), (.ref x1), (.int x2), (.int x3)] 4 = mkF m 0 #[sR x0, sR x1, sI x2, sI x3] [] := by first | (simp [entryFrame, mkF, argsToLocals, Value.category]; done) | rfl
theorem d17_28 : decode jdk_42_method_147_code 28 = .ok (.aload_n 0, 1) := by decide +kernel
theorem d17_29 : decode jdk_42_method_147_code 29 = .ok (.getfield 9, 3) := by decide +kernel
theorem d17_32 : decode jdk_42_method_147_code 32 = .ok (.iconst 0, 1) := by decide +kernel
theorem d17_33 : decode jdk_42_method_147_code 33 = .ok (.aload_n 1, 1) := by decide +kernel
theorem d17_34 : decode jdk_42_method_147_code 34 = .ok (.iload_n 2, 1) := by decide +kernel
theorem d17_35 : decode jdk_42_method_147_code 35 = .ok (.aload_n 0, 1) := by decide +kernel
theorem d17_36 : decode jdk_42_method_147_code 36 = .ok (.getfield 9, 3) := by decide +kernel
theorem d17_39 : decode jdk_42_method_147_code 39 = .ok (.arraylength, 1) := by decide +kernel
theorem d17_40 : decode jdk_42_method_147_code 40 = .ok (.invokestatic 106, 3) := by decide +kernel
set_option maxRecDepth 65536 in
set_option maxHeartbeats 40000000 in
theorem gb10 (l : Launch) (Z : State) (a0 : Array Value) (hw : ∀ d ∈ tables_1, d.before a0 Z = true) (ws : List Jvm.Cond) (x : Addr) (t : Addr) (kb : ClassId) (ds : List Int32) (a : Addr) (ka : ClassId) (cap : Nat) (cs : List Int32) (G1 : Int32) (G3 : Value) (h0 : Heap) (n0 : Nat) (Z0 : n0 ≤ h0.size) (q0 : Sta Z Z.heap "java/lang/String" "COMPACT_STRINGS" "Z" (.int G1)) (P5 : ¬ (G1 = (0 : Int32))) (q2 : (Old Z Z.heap.size h0 ∧ @LE.le Nat instLENat Z.heap.size n0)) (q3 : Sta Z Z.heap "jdk/internal/util/Preconditions" "SIOOBE_FORMATTER" "Ljava/util/function/BiFunction;" G3) (rG3 : G3.isRef = true) (q5 : Sta Z Z.heap "java/lang/StringUTF16" "$assertionsDisabled" "Z" (.int (1 : Int32))) (q6 : Sta Z Z.heap "java/lang/StringUTF16" "HI_BYTE_SHIFT" "I" (.int (0 : Int32))) (q7 : Sta Z Z.heap "java/lang/StringUTF16" "LO_BYTE_SHIFT" "I" (.int (8 : Int32))) (q8 : Exa Z h0 x "java/lang/String") (q9 : Fld Z h0 x "java/lang/String" "value" "[B" (.ref t)) (q10 : Fld Z h0 x "java/lang/String" "coder" "B" (.int (0 : Int32))) (q11 : Arv Z h0 t kb .byte (Int32.ofNat ds.length) (lb ds) (.int (0 : Int32))) (q12 : Arv Z h0 a ka .byte (Int32.ofNat (2 * cap)) (StrChars.Road.wideBytes cs) (.int (0 : Int32))) (q13 : @LE.le Nat instLENat n0 a) (q14 : ¬ @Eq Nat a x) (q15 : ¬ @Eq Nat a t) (hcap : cap ≤ 18) (hfit : cs.length + ds.length ≤ cap) (hld : ∀ c ∈ ds, Lat c) :
    MetFree l y_22 (head1 (Jvm.Cond.code y_22 jdk_42_method_147_code 4 none :: ws) r_m14) (fun a_ U_ => a_ = #[(.ref x), (.ref a), (.int (Int32.ofNat cs.length)), (.int (1 : Int32))] ∧ Z.Warmed39 U_.vm ∧ U_.heap = h0) (fun _ _ _ _ _ => True) (fun _ U_ o_ V_ => ∃ v_ L_, o_ = .returned v_ ∧ Qgb10 Z x t kb ds a ka cap cs G1 G3 h0 n0 v_ V_.heap L_ ∧ FrameEnd U_ o_ V_ L_ r_m14.cells r_m14.slots) := by
  refine MetFree.of_bodySF (plainFor_of_name pn_1) hisR ?_
  intro p e s m args below meth c s₁ Bd hml0 hP hK
  obtain ⟨rfl, hZ, hh⟩ := hP
  have hx := Bd.exec
  have hby := Bd.bytes
  have hml : c.maxLocals = 4 := hml0
  have hown : s.vm.findClass "java/lang/String" = some m.cls := findClass_of_methodNamed Bd.named
  have hnm := (name_of_methodNamed Bd.named Bd.method).1
  have X0 : Stand p l e r_m14 s m #[(.ref x), (.ref a), (.int (Int32.ofNat cs.length)), (.int (1 : Int32))] below meth c s₁ [] 0 0 := Stand.of_body Bd
  have e0 : s₁.heap = h0 := by rw [← hh, Bd.state]; rfl
  have N0 := Fr.nil n0
  have Oo := q2.1
  have zo := q2.2
  have lt313 := own_alt q8.lt
  have lt314 := own_alt q9.lt
  have lt315 := own_alt q10.lt
  have lt316 := own_alt q11.lt
  have lt317 := own_alt q12.lt
  refine Gl.go (A := s₁.setTop (entryFrame m #[(.ref x), (.ref a), (.int (Int32.ofNat cs.length)), (.int (1 : Int32))] 4)) (P := fun o_ U_ => ∃ v_ L_, o_ = .returned v_ ∧ Qgb10 Z x t kb ds a ka cap cs G1 G3 h0 n0 v_ U_.heap L_ ∧ FrameEnd s o_ U_ L_ r_m14.cells r_m14.slots) (fun t_ k_ => castTop (ef_gb10 m x a (Int32.ofNat cs.length) (1 : Int32)) k_) ?_
  show Gl p.tables e below _ (s₁.setTop (mkF m 0 #[sR x, sR a, sI (Int32.ofNat cs.length), sI 1] []))
  refine Gl.go (fun _ hr => zXS_aloadN X0.here hx rfl (hb hby d17_0) rfl rfl hr) ?_
  have zz318 : n0 ≤ h0.size := by omega
  refine gVirtualN Gl.cl (y := y_10) (z := y_10) (b := x) (argsL := []) (rest := []) (mc := 0) (ms := 0) X0 hx hZ hown (mvT hZ (tw hw 81 rfl)) (mvT hZ (tw hw 82 rfl)) (notFace_of_selects (args := #[]) (mvT hZ (tw hw 84 rfl))) (mvT hZ (tw hw 84 rfl)) (mvT hZ (tw hw 83 rfl)) (by decide) q8 (backOf (W := 0) (cod0 l Z a0 hw [] x G1 h0 n0 zz318 q0 (by assumption) ⟨Oo, (by omega)⟩ q10) hZ (tw hw 85 rfl) (tw hw 7 rfl) (by decide) (by decide)) rfl (by rw [hml]; rfl) (lenOf pd_8 rfl) rfl (by exact Nat.le_of_eq rfl) (hb hby d17_1) rfl e0 (by decide) (by decide) ?_
  intro v318 T318 Lc318 hQ318 X318
  obtain ⟨rfl, Nq318, e318⟩ := hQ318
  have N318 := Fr.app N0 Nq318
  refine Gl.go (fun _ hr => zXS_iloadN X318.here hx rfl (hb hby d17_4) rfl (zXS_icmpYes X318.here hx rfl (pc0 := 5) (pc' := 28) rfl (hb hby d17_5) rfl (XT.ii_ne_t (by decide)) (by decide) (by decide) (zXS_aloadN X318.here hx rfl (hb hby d17_28) rfl rfl hr))) ?_
  refine gGetF (host := "") Gl.cl X318 hx hZ hown (Or.inl (tw hw 25 rfl)) Via.refl e318 q9 rfl rfl (hb hby d17_29) ?_
  intro T319 X319 e319
  refine Gl.go (fun _ hr => zXS_iconst X319.here hx rfl (hb hby d17_32) (zXS_aloadN X319.here hx rfl (hb hby d17_33) rfl rfl (zXS_iloadN X319.here hx rfl (hb hby d17_34) rfl (zXS_aloadN X319.here hx rfl (hb hby d17_35) rfl rfl hr)))) ?_
  refine gGetF (host := "") Gl.cl X319 hx hZ hown (Or.inl (tw hw 25 rfl)) Via.refl e319 q9 rfl rfl (hb hby d17_36) ?_
  intro T320 X320 e320
  obtain ⟨c321, a321, q321, s321, m321, H321, U321⟩ := id q11
  refine gLen Gl.cl X320 hx hZ e320 a321 s321 m321 rfl rfl (hb hby d17_39) ?_
  have zz322 : n0 ≤ h0.size := by omega
  refine gStaticN Gl.cl (y := y_19) (argsL := [(.ref t), (.int (0 : Int32)), (.ref a), (.int (Int32.ofNat cs.length)), (.int (Int32.ofNat ds.length))]) (rest := []) (mc := 0) (ms := 0) X320 hx hZ hown (mvT hZ (tw hw 262 rfl)) (mvT hZ (tw hw 229 rfl)) (mvT hZ (tw hw 176 rfl)) (mvT hZ (tw hw 230 rfl)) (by decide) (backOf (W := 0) (lif l Z a0 hw [] t kb ds.length ds a ka cap cs G3 h0 n0 zz322 ⟨Oo, (by omega)⟩ q3 (by assumption) q5 q6 q7 q11 q12 (by omega) (by omega) hld hfit hcap (Nat.le_refl _) (by omega)) hZ (tw hw 230 rfl) (tw hw 176 rfl) (by decide) (by decide)) rfl (by rw [hml]; rfl) (lenOf pd_13 rfl) rfl (by exact Nat.le_of_eq rfl) (hb hby d17_40) rfl e320 (by decide) (by decide) ?_
  intro v322 T322 Lc322 hQ322 X322
  obtain ⟨rfl, Nq322, K322, f322_0⟩ := hQ322
  have z323 : h0.size ≤ T322.heap.size := K322.1
  have N322 := Fr.app N318 Nq322
  have lt324 := own_alt f322_0.lt
  obtain ⟨fs, hr, hrun, hended, hW, hsame⟩ := X322.leave (v := none) (fun _ => rfl)
  refine ⟨_, _, X322.returnOut hx Bd.returns (hb hby d17_43) hr, hrun, hended, _, _, rfl, ?_, ⟨⟨_, rfl⟩, hW, hsame.mono (by decide) (by decide)⟩⟩
  show Qgb10 Z x t kb ds a ka cap cs G1 G3 h0 n0 _ T322.heap _
  exact ⟨rfl, N322, ((Keep.refl h0 [a]).trans K322 (allS (P := fun x_ => x_ ∈ ([a] : List Addr) ∨ h0.size ≤ x_) (Or.inl (by simp)) all0)), f322_0⟩
def Qgb11 (Z : State) (x : Addr) (t : Addr) (kb : ClassId) (ds : List Int32) (a : Addr) (ka : ClassId) (cap : Nat) (cs : List Int32) (G1 : Int32) (G3 : Value) (h0 : Heap) (n0 : Nat) (v : Option Value) (h : Heap) (L : List Loc) : Prop := v = none ∧ Fr n0 L ∧ Keep h0 h [a] ∧ (Arv Z h a ka .byte (Int32.ofNat (2 * cap)) (StrChars.Road.wideBytes (cs ++ ds)) (.int (0 : Int32)))
theorem ef_gb11 (m : MethodId) (x0 : Addr) (x1 : Addr) (x2 : Int32) (x3 : Int32) : entryFrame m #[(.ref x0), (.ref x1), (.int x2), (.int x3)] 4 = mkF m 0 #[sR x0, sR x1, sI x2, sI x3] [] := by first | (simp [entryFrame, mkF, argsToLocals, Value.category]; done) | rfl
set_option maxRecDepth 65536 in
set_option maxHeartbeats 40000000 in
theorem gb11 (l : Launch) (Z : State) (a0 : Array Value) (hw : ∀ d ∈ tables_1, d.before a0 Z = true) (ws : List Jvm.Cond) (x : Addr) (t : Addr) (kb : ClassId) (ds : List Int32) (a : Addr) (ka : ClassId) (cap : Nat) (cs : List Int32) (G1 : Int32) (G3 : Value) (h0 : Heap) (n0 : Nat) (Z0 : n0 ≤ h0.size) (q0 : Sta Z Z.heap "java/lang/String" "COMPACT_STRINGS" "Z" (.int G1)) (P5 : ¬ (G1 = (0 : Int32))) (q2 : (Old Z Z.heap.size h0 ∧ @LE.le Nat instLENat Z.heap.size n0)) (q3 : Sta Z Z.heap "jdk/internal/util/Preconditions" "SIOOBE_FORMATTER" "Ljava/util/function/BiFunction;" G3) (rG3 : G3.isRef = true) (q5 : Sta Z Z.heap "java/lang/StringUTF16" "$assertionsDisabled" "Z" (.int (1 : Int32))) (q6 : Sta Z Z.heap "java/lang/StringUTF16" "HI_BYTE_SHIFT" "I" (.int (0 : Int32))) (q7 : Sta Z Z.heap "java/lang/StringUTF16" "LO_BYTE_SHIFT" "I" (.int (8 : Int32))) (q8 : Exa Z h0 x "java/lang/String") (q9 : Fld Z h0 x "java/lang/String" "value" "[B" (.ref t)) (q10 : Fld Z h0 x "java/lang/String" "coder" "B" (.int (1 : Int32))) (q11 : Arv Z h0 t kb .byte (Int32.ofNat (2 * ds.length)) (StrChars.Road.wideBytes ds) (.int (0 : Int32))) (q12 : Arv Z h0 a ka .byte (Int32.ofNat (2 * cap)) (StrChars.Road.wideBytes cs) (.int (0 : Int32))) (q13 : @LE.le Nat instLENat n0 a) (q14 : ¬ @Eq Nat a x) (q15 : ¬ @Eq Nat a t) (hcap : cap ≤ 18) (hfit : cs.length + ds.length ≤ cap) :
    MetFree l y_22 (head1 (Jvm.Cond.code y_22 jdk_42_method_147_code 4 none :: ws) r_m14) (fun a_ U_ => a_ = #[(.ref x), (.ref a), (.int (Int32.ofNat cs.length)), (.int (1 : Int32))] ∧ Z.Warmed39 U_.vm ∧ U_.heap = h0) (fun _ _ _ _ _ => True) (fun _ U_ o_ V_ => ∃ v_ L_, o_ = .returned v_ ∧ Qgb11 Z x t kb ds a ka cap cs G1 G3 h0 n0 v_ V_.heap L_ ∧ FrameEnd U_ o_ V_ L_ r_m14.cells r_m14.slots) := by
  refine MetFree.of_bodySF (plainFor_of_name pn_1) hisR ?_
  intro p e s m args below meth c s₁ Bd hml0 hP hK
  obtain ⟨rfl, hZ, hh⟩ := hP
  have hx := Bd.exec
  have hby := Bd.bytes
  have hml : c.maxLocals = 4 := hml0
  have hown : s.vm.findClass "java/lang/String" = some m.cls := findClass_of_methodNamed Bd.named
  have hnm := (name_of_methodNamed Bd.named Bd.method).1
  have X0 : Stand p l e r_m14 s m #[(.ref x), (.ref a), (.int (Int32.ofNat cs.length)), (.int (1 : Int32))] below meth c s₁ [] 0 0 := Stand.of_body Bd
  have e0 : s₁.heap = h0 := by rw [← hh, Bd.state]; rfl
  have N0 := Fr.nil n0
  have Oo := q2.1
  have zo := q2.2
  have lt325 := own_alt q8.lt
  have lt326 := own_alt q9.lt
  have lt327 := own_alt q10.lt
  have lt328 := own_alt q11.lt
  have lt329 := own_alt q12.lt
  refine Gl.go (A := s₁.setTop (entryFrame m #[(.ref x), (.ref a), (.int (Int32.ofNat cs.length)), (.int (1 : Int32))] 4)) (P := fun o_ U_ => ∃ v_ L_, o_ = .returned v_ ∧ Qgb11 Z x t kb ds a ka cap cs G1 G3 h0 n0 v_ U_.heap L_ ∧ FrameEnd s o_ U_ L_ r_m14.cells r_m14.slots) (fun t_ k_ => castTop (ef_gb11 m x a (Int32.ofNat cs.length) (1 : Int32)) k_) ?_
  show Gl p.tables e below _ (s₁.setTop (mkF m 0 #[sR x, sR a, sI (Int32.ofNat cs.length), sI 1] []))
  refine Gl.go (fun _ hr => zXS_aloadN X0.here hx rfl (hb hby d17_0) rfl rfl hr) ?_
  have zz330 : n0 ≤ h0.size := by omega
  refine gVirtualN Gl.cl (y := y_10) (z := y_10) (b := x) (argsL := []) (rest := []) (mc := 0) (ms := 0) X0 hx hZ hown (mvT hZ (tw hw 81 rfl)) (mvT hZ (tw hw 82 rfl)) (notFace_of_selects (args := #[]) (mvT hZ (tw hw 84 rfl))) (mvT hZ (tw hw 84 rfl)) (mvT hZ (tw hw 83 rfl)) (by decide) q8 (backOf (W := 0) (cod1 l Z a0 hw [] x G1 h0 n0 zz330 q0 (by assumption) ⟨Oo, (by omega)⟩ q10) hZ (tw hw 85 rfl) (tw hw 7 rfl) (by decide) (by decide)) rfl (by rw [hml]; rfl) (lenOf pd_8 rfl) rfl (by exact Nat.le_of_eq rfl) (hb hby d17_1) rfl e0 (by decide) (by decide) ?_
  intro v330 T330 Lc330 hQ330 X330
  obtain ⟨rfl, Nq330, e330⟩ := hQ330
  have N330 := Fr.app N0 Nq330
  refine Gl.go (fun _ hr => zXS_iloadN X330.here hx rfl (hb hby d17_4) rfl (zXS_icmpNo X330.here hx rfl (hb hby d17_5) rfl (XT.ii_ne_f (by decide)) (zXS_aloadN X330.here hx rfl (hb hby d17_8) rfl rfl hr))) ?_
  refine gGetF (host := "") Gl.cl X330 hx hZ hown (Or.inl (tw hw 25 rfl)) Via.refl e330 q9 rfl rfl (hb hby d17_9) ?_
  intro T331 X331 e331
  refine Gl.go (fun _ hr => zXS_iconst X331.here hx rfl (hb hby d17_12) (zXS_aloadN X331.here hx rfl (hb hby d17_13) rfl rfl (zXS_iloadN X331.here hx rfl (hb hby d17_14) rfl (zXS_iloadN X331.here hx rfl (hb hby d17_15) rfl (zXT_ishl X331.here hx rfl (hb hby d17_16) rfl hr))))) ?_
  show Gl p.tables e below _ (T331.setTop (mkF m 17 #[sR x, sR a, sI (Int32.ofNat cs.length), sI 1] [(.int ((Int32.ofNat cs.length) <<< ((1 : Int32) &&& 31))), (.ref a), (.int (0 : Int32)), (.ref t)]))
  rw [(own_shl1 (i := cs.length) (by omega))]
  show Gl p.tables e below _ (T331.setTop (mkF m 17 #[sR x, sR a, sI (Int32.ofNat cs.length), sI 1] [(.int (Int32.ofNat (2 * cs.length))), (.ref a), (.int (0 : Int32)), (.ref t)]))
  refine Gl.go (fun _ hr => zXS_aloadN X331.here hx rfl (hb hby d17_17) rfl rfl hr) ?_
  refine gGetF (host := "") Gl.cl X331 hx hZ hown (Or.inl (tw hw 25 rfl)) Via.refl e331 q9 rfl rfl (hb hby d17_18) ?_
  intro T332 X332 e332
  obtain ⟨c333, a333, q333, s333, m333, H333, U333⟩ := id q11
  refine gLen Gl.cl X332 hx hZ e332 a333 s333 m333 rfl rfl (hb hby d17_21) ?_
  refine gCopy Gl.cl (us := StrChars.Road.wideBytes ds) (n0 := n0) (W := 0) X332 hx hZ hown (tw hw 110 rfl) (tw hw 113 rfl) (tw hw 111 rfl) (tw hw 112 rfl) e332 q11 (q12.pad (pad_rep (StrChars.Road.wideBytes cs) (.int (0 : Int32)) 36)) (Or.inl ⟨rfl, rfl⟩) (by decide) (own_nn (by omega)) (own_nn (by omega)) (by rw [own_z0, Nat.zero_add]; exact Nat.le_refl _) (by rw [own_nat32 (by omega), own_nat32 (by omega), own_nat32 (by omega)]; omega) (own_us (wide_len ds) (by omega)) (by rw [own_nat32 (by omega), own_nat32 (by omega), List.length_append, List.length_replicate, wide_len]; omega) N330 (by omega) rfl (by rw [hml]; rfl) rfl (hb hby d17_22) (by decide) (by exact Nat.le_of_eq rfl) (by decide) ?_
  intro T334 h334 L334 X334 e334 N334 K334 Vr334
  have z335 : h0.size ≤ h334.size := K334.1
  have V334 : Arv Z h334 a ka .byte (Int32.ofNat (2 * cap)) (StrChars.Road.wideBytes (cs ++ ds)) (.int (0 : Int32)) := (by have q := own_catG (wide_len cs) (by omega) (by omega) Vr334; rw [← wide_app] at q; exact q)
  refine Gl.go (fun _ hr => zXS_goto X334.here hx rfl (pc0 := 25) (pc' := 43) rfl (hb hby d17_25) (by decide) (by decide) hr) ?_
  obtain ⟨fs, hr, hrun, hended, hW, hsame⟩ := X334.leave (v := none) (fun _ => rfl)
  refine ⟨_, _, X334.returnOut hx Bd.returns (hb hby d17_43) hr, hrun, hended, _, _, rfl, ?_, ⟨⟨_, rfl⟩, hW, hsame.mono (by decide) (by decide)⟩⟩
  show Qgb11 Z x t kb ds a ka cap cs G1 G3 h0 n0 _ T334.heap _
  rw [e334]
  exact ⟨rfl, N334, ((Keep.refl h0 [a]).trans K334 (allS (P := fun x_ => x_ ∈ ([a] : List Addr) ∨ h0.size ≤ x_) (Or.inl (by simp)) all0)), V334⟩
def Qpsa00 (Z : State) (b : Addr) (a : Addr) (ka : ClassId) (cap : Nat) (cs : List Int32) (x : Addr) (t : Addr) (kb : ClassId) (ds : List Int32) (G1 : Int32) (G3 : Value) (h0 : Heap) (n0 : Nat) (v : Option Value) (h : Heap) (L : List Loc) : Prop := v = none ∧ Fr n0 L ∧ Keep h0 h [a] ∧ (Arv Z h a ka .byte (Int32.ofNat cap) (lb (cs ++ ds)) (.int (0 : Int32)))
theorem ef_psa00 (m : MethodId) (x0 : Addr) (x1 : Int32) (x2 : Addr) : entryFrame m #[(.ref x0), (.int x1), (.ref x2)] 3 = mkF m 0 #[sR x0, sI x1, sR x2] [] := by first | (simp [entryFrame, mkF, argsToLocals, Value.category]; done) | rfl
theorem d15_0 : decode jdk_68_method_73_code 0 = .ok (.aload_n 0, 1) := by decide +kernel
theorem d15_1 : decode jdk_68_method_73_code 1 = .ok (.aload_n 2, 1) := by decide +kernel
theorem d15_2 : decode jdk_68_method_73_code 2 = .ok (.invokevirtual 397, 3) := by decide +kernel
theorem pd_16 : parseMethodDescriptor "(Ljava/lang/String;)V" = some ⟨[(.object "java/lang/String")], none⟩ := by decide +kernel
theorem d15_5 : decode jdk_68_method_73_code 5 = .ok (.aload_n 2, 1) := by decide +kernel
theorem d15_6 : decode jdk_68_method_73_code 6 = .ok (.aload_n 0, 1) := by decide +kernel
theorem d15_7 : decode jdk_68_method_73_code 7 = .ok (.getfield 15, 3) := by decide +kernel
theorem d15_10 : decode jdk_68_method_73_code 10 = .ok (.iload_n 1, 1) := by decide +kernel
theorem d15_11 : decode jdk_68_method_73_code 11 = .ok (.aload_n 0, 1) := by decide +kernel
theorem d15_12 : decode jdk_68_method_73_code 12 = .ok (.getfield 22, 3) := by decide +kernel
theorem d15_15 : decode jdk_68_method_73_code 15 = .ok (.invokevirtual 399, 3) := by decide +kernel
theorem pd_17 : parseMethodDescriptor "([BIB)V" = some ⟨[(.array .byte), .int, .byte], none⟩ := by decide +kernel
theorem d15_18 : decode jdk_68_method_73_code 18 = .ok (.return_, 1) := by decide +kernel
set_option maxRecDepth 65536 in
set_option maxHeartbeats 40000000 in
theorem psa00 (l : Launch) (Z : State) (a0 : Array Value) (hw : ∀ d ∈ tables_1, d.before a0 Z = true) (ws : List Jvm.Cond) (b : Addr) (a : Addr) (ka : ClassId) (cap : Nat) (cs : List Int32) (x : Addr) (t : Addr) (kb : ClassId) (ds : List Int32) (G1 : Int32) (G3 : Value) (h0 : Heap) (n0 : Nat) (Z0 : n0 ≤ h0.size) (q0 : Sta Z Z.heap "java/lang/String" "COMPACT_STRINGS" "Z" (.int G1)) (P5 : ¬ (G1 = (0 : Int32))) (q2 : (Old Z Z.heap.size h0 ∧ @LE.le Nat instLENat Z.heap.size n0)) (q3 : Sta Z Z.heap "jdk/internal/util/Preconditions" "SIOOBE_FORMATTER" "Ljava/util/function/BiFunction;" G3) (rG3 : G3.isRef = true) (q5 : Sta Z Z.heap "java/lang/StringUTF16" "$assertionsDisabled" "Z" (.int (1 : Int32))) (q6 : Sta Z Z.heap "java/lang/StringUTF16" "HI_BYTE_SHIFT" "I" (.int (0 : Int32))) (q7 : Sta Z Z.heap "java/lang/StringUTF16" "LO_BYTE_SHIFT" "I" (.int (8 : Int32))) (q8 : Exa Z h0 b "java/lang/StringBuilder") (q9 : Fld Z h0 b "java/lang/AbstractStringBuilder" "value" "[B" (.ref a)) (q10 : Fld Z h0 b "java/lang/AbstractStringBuilder" "coder" "B" (.int (0 : Int32))) (q11 : Fld Z h0 b "java/lang/AbstractStringBuilder" "count" "I" (.int (Int32.ofNat cs.length))) (q12 : Fld Z h0 b "java/lang/AbstractStringBuilder" "maybeLatin1" "Z" (.int (0 : Int32))) (q13 : Arv Z h0 a ka .byte (Int32.ofNat cap) (lb cs) (.int (0 : Int32))) (q14 : @LE.le Nat instLENat n0 a) (q15 : @LE.le Nat instLENat n0 b) (q16 : ¬ @Eq Nat a b) (hcap : cap ≤ 18) (q18 : Exa Z h0 x "java/lang/String") (q19 : Fld Z h0 x "java/lang/String" "value" "[B" (.ref t)) (q20 : Fld Z h0 x "java/lang/String" "coder" "B" (.int (0 : Int32))) (q21 : Arv Z h0 t kb .byte (Int32.ofNat ds.length) (lb ds) (.int (0 : Int32))) (q22 : ¬ @Eq Nat a x) (q23 : ¬ @Eq Nat a t) (q24 : ¬ @Eq Nat b x) (q25 : ¬ @Eq Nat b t) (hfit : cs.length + ds.length ≤ cap) (hld : ∀ c ∈ ds, Lat c) :
    MetFree l y_23 (head1 (Jvm.Cond.code y_23 jdk_68_method_73_code 3 none :: ws) r_m15) (fun a_ U_ => a_ = #[(.ref b), (.int (Int32.ofNat cs.length)), (.ref x)] ∧ Z.Warmed39 U_.vm ∧ U_.heap = h0) (fun _ _ _ _ _ => True) (fun _ U_ o_ V_ => ∃ v_ L_, o_ = .returned v_ ∧ Qpsa00 Z b a ka cap cs x t kb ds G1 G3 h0 n0 v_ V_.heap L_ ∧ FrameEnd U_ o_ V_ L_ r_m15.cells r_m15.slots) := by
  refine MetFree.of_bodySF (plainFor_of_name pn_2) hisR ?_
  intro p e s m args below meth c s₁ Bd hml0 hP hK
  obtain ⟨rfl, hZ, hh⟩ := hP
  have hx := Bd.exec
  have hby := Bd.bytes
  have hml : c.maxLocals = 3 := hml0
  have hown : s.vm.findClass "java/lang/AbstractStringBuilder" = some m.cls := findClass_of_methodNamed Bd.named
  have hnm := (name_of_methodNamed Bd.named Bd.method).1
  have X0 : Stand p l e r_m15 s m #[(.ref b), (.int (Int32.ofNat cs.length)), (.ref x)] below meth c s₁ [] 0 0 := Stand.of_body Bd
  have e0 : s₁.heap = h0 := by rw [← hh, Bd.state]; rfl
  have N0 := Fr.nil n0
  have Oo := q2.1
  have zo := q2.2
  have lt336 := own_alt q8.lt
  have lt337 := own_alt q9.lt
  have lt338 := own_alt q10.lt
  have lt339 := own_alt q11.lt
  have lt340 := own_alt q12.lt
  have lt341 := own_alt q13.lt
  have lt342 := own_alt q18.lt
  have lt343 := own_alt q19.lt
  have lt344 := own_alt q20.lt
  have lt345 := own_alt q21.lt
  refine Gl.go (A := s₁.setTop (entryFrame m #[(.ref b), (.int (Int32.ofNat cs.length)), (.ref x)] 3)) (P := fun o_ U_ => ∃ v_ L_, o_ = .returned v_ ∧ Qpsa00 Z b a ka cap cs x t kb ds G1 G3 h0 n0 v_ U_.heap L_ ∧ FrameEnd s o_ U_ L_ r_m15.cells r_m15.slots) (fun t_ k_ => castTop (ef_psa00 m b (Int32.ofNat cs.length) x) k_) ?_
  show Gl p.tables e below _ (s₁.setTop (mkF m 0 #[sR b, sI (Int32.ofNat cs.length), sR x] []))
  refine Gl.go (fun _ hr => zXS_aloadN X0.here hx rfl (hb hby d15_0) rfl rfl (zXS_aloadN X0.here hx rfl (hb hby d15_1) rfl rfl hr)) ?_
  have zz346 : n0 ≤ h0.size := by omega
  refine gPrivN Gl.cl (y := y_21) (b := b) (argsL := [(.ref x)]) (rest := []) (mc := 0) (ms := 0) X0 hx hZ hown (mvT hZ (tw hw 99 rfl)) (mvT hZ (tw hw 100 rfl)) (mvT hZ (tw hw 102 rfl)) (mvP hZ (tw hw 101 rfl)) (mvT hZ (tw hw 103 rfl)) (by decide) q8 (backOf (W := 0) (inf00 l Z a0 hw [] b x G1 h0 n0 zz346 q0 (by assumption) ⟨Oo, (by omega)⟩ q8 q10 q18 q20) hZ (tw hw 103 rfl) (tw hw 58 rfl) (by decide) (by decide)) rfl (by rw [hml]; rfl) (lenOf pd_16 rfl) rfl (by exact Nat.le_of_eq rfl) (hb hby d15_2) rfl e0 (by decide) (by decide) ?_
  intro v346 T346 Lc346 hQ346 X346
  obtain ⟨rfl, Nq346, e346⟩ := hQ346
  have N346 := Fr.app N0 Nq346
  refine Gl.go (fun _ hr => zXS_aloadN X346.here hx rfl (hb hby d15_5) rfl rfl (zXS_aloadN X346.here hx rfl (hb hby d15_6) rfl rfl hr)) ?_
  refine gGetF (host := "") Gl.cl X346 hx hZ hown (Or.inl (tw hw 62 rfl)) Via.refl e346 q9 rfl rfl (hb hby d15_7) ?_
  intro T347 X347 e347
  refine Gl.go (fun _ hr => zXS_iloadN X347.here hx rfl (hb hby d15_10) rfl (zXS_aloadN X347.here hx rfl (hb hby d15_11) rfl rfl hr)) ?_
  refine gGetF (host := "") Gl.cl X347 hx hZ hown (Or.inl (tw hw 64 rfl)) Via.refl e347 q10 rfl rfl (hb hby d15_12) ?_
  intro T348 X348 e348
  have zz349 : n0 ≤ h0.size := by omega
  refine gVirtualN Gl.cl (y := y_22) (z := y_22) (b := x) (argsL := [(.ref a), (.int (Int32.ofNat cs.length)), (.int (0 : Int32))]) (rest := []) (mc := 0) (ms := 0) X348 hx hZ hown (mvT hZ (tw hw 105 rfl)) (mvT hZ (tw hw 106 rfl)) (notFace_of_selects (args := #[]) (mvT hZ (tw hw 108 rfl))) (mvT hZ (tw hw 108 rfl)) (mvT hZ (tw hw 107 rfl)) (by decide) q18 (backOf (W := 0) (gb00 l Z a0 hw [] x t kb ds a ka cap cs G1 G3 h0 n0 zz349 q0 (by assumption) ⟨Oo, (by omega)⟩ q3 (by assumption) q5 q6 q7 q18 q19 q20 q21 q13 (by omega) (by omega) (by omega) (by assumption) (by assumption) (by assumption)) hZ (tw hw 109 rfl) (tw hw 7 rfl) (by decide) (by decide)) rfl (by rw [hml]; rfl) (lenOf pd_17 rfl) rfl (by exact Nat.le_of_eq rfl) (hb hby d15_15) rfl e348 (by decide) (by decide) ?_
  intro v349 T349 Lc349 hQ349 X349
  obtain ⟨rfl, Nq349, K349, f349_0⟩ := hQ349
  have z350 : h0.size ≤ T349.heap.size := K349.1
  have N349 := Fr.app N346 Nq349
  have lt351 := own_alt f349_0.lt
  obtain ⟨fs, hr, hrun, hended, hW, hsame⟩ := X349.leave (v := none) (fun _ => rfl)
  refine ⟨_, _, X349.returnOut hx Bd.returns (hb hby d15_18) hr, hrun, hended, _, _, rfl, ?_, ⟨⟨_, rfl⟩, hW, hsame.mono (by decide) (by decide)⟩⟩
  show Qpsa00 Z b a ka cap cs x t kb ds G1 G3 h0 n0 _ T349.heap _
  exact ⟨rfl, N349, ((Keep.refl h0 [a]).trans K349 (allS (P := fun x_ => x_ ∈ ([a] : List Addr) ∨ h0.size ≤ x_) (Or.inl (by simp)) all0)), f349_0⟩
def Qaps00 (Z : State) (b : Addr) (a : Addr) (ka : ClassId) (cap : Nat) (cs : List Int32) (x : Addr) (t : Addr) (kb : ClassId) (ds : List Int32) (G1 : Int32) (G3 : Value) (h0 : Heap) (n0 : Nat) (v : Option Value) (h : Heap) (L : List Loc) : Prop := v = some (.ref b) ∧ Fr n0 L ∧ Keep h0 h [b, a] ∧ (Exa Z h b "java/lang/StringBuilder") ∧ (Fld Z h b "java/lang/AbstractStringBuilder" "value" "[B" (.ref a)) ∧ (Fld Z h b "java/lang/AbstractStringBuilder" "coder" "B" (.int (0 : Int32))) ∧ (Fld Z h b "java/lang/AbstractStringBuilder" "count" "I" (.int (Int32.ofNat (cs ++ ds).length))) ∧ (Fld Z h b "java/lang/AbstractStringBuilder" "maybeLatin1" "Z" (.int (0 : Int32))) ∧ (Arv Z h a ka .byte (Int32.ofNat cap) (lb (cs ++ ds)) (.int (0 : Int32)))
theorem ef_aps00 (m : MethodId) (x0 : Addr) (x1 : Addr) : entryFrame m #[(.ref x0), (.ref x1)] 3 = mkF m 0 #[sR x0, sR x1, sU] [] := by first | (simp [entryFrame, mkF, argsToLocals, Value.category]; done) | rfl
theorem d11_0 : decode jdk_68_method_22_code 0 = .ok (.aload_n 1, 1) := by decide +kernel
theorem d11_1 : decode jdk_68_method_22_code 1 = .ok (.ifnonnull 8, 3) := by decide +kernel
theorem d11_9 : decode jdk_68_method_22_code 9 = .ok (.aload_n 1, 1) := by decide +kernel
theorem d11_10 : decode jdk_68_method_22_code 10 = .ok (.invokevirtual 32, 3) := by decide +kernel
theorem pd_18 : parseMethodDescriptor "()I" = some ⟨[], some .int⟩ := by decide +kernel
theorem d11_13 : decode jdk_68_method_22_code 13 = .ok (.istore_n 2, 1) := by decide +kernel
theorem d11_14 : decode jdk_68_method_22_code 14 = .ok (.aload_n 0, 1) := by decide +kernel
theorem d11_15 : decode jdk_68_method_22_code 15 = .ok (.aload_n 0, 1) := by decide +kernel
theorem d11_16 : decode jdk_68_method_22_code 16 = .ok (.getfield 79, 3) := by decide +kernel
theorem d11_19 : decode jdk_68_method_22_code 19 = .ok (.iload_n 2, 1) := by decide +kernel
theorem d11_20 : decode jdk_68_method_22_code 20 = .ok (.iadd, 1) := by decide +kernel
theorem d11_21 : decode jdk_68_method_22_code 21 = .ok (.invokevirtual 100, 3) := by decide +kernel
theorem pd_19 : parseMethodDescriptor "(I)V" = some ⟨[.int], none⟩ := by decide +kernel
theorem d11_24 : decode jdk_68_method_22_code 24 = .ok (.aload_n 0, 1) := by decide +kernel
theorem d11_25 : decode jdk_68_method_22_code 25 = .ok (.aload_n 0, 1) := by decide +kernel
theorem d11_26 : decode jdk_68_method_22_code 26 = .ok (.getfield 79, 3) := by decide +kernel
theorem d11_29 : decode jdk_68_method_22_code 29 = .ok (.aload_n 1, 1) := by decide +kernel
theorem d11_30 : decode jdk_68_method_22_code 30 = .ok (.invokevirtual 208, 3) := by decide +kernel
theorem pd_20 : parseMethodDescriptor "(ILjava/lang/String;)V" = some ⟨[.int, (.object "java/lang/String")], none⟩ := by decide +kernel
theorem d11_33 : decode jdk_68_method_22_code 33 = .ok (.aload_n 0, 1) := by decide +kernel
theorem d11_34 : decode jdk_68_method_22_code 34 = .ok (.dup, 1) := by decide +kernel
theorem d11_35 : decode jdk_68_method_22_code 35 = .ok (.getfield 79, 3) := by decide +kernel
theorem d11_38 : decode jdk_68_method_22_code 38 = .ok (.iload_n 2, 1) := by decide +kernel
theorem d11_39 : decode jdk_68_method_22_code 39 = .ok (.iadd, 1) := by decide +kernel
theorem d11_40 : decode jdk_68_method_22_code 40 = .ok (.putfield 79, 3) := by decide +kernel
theorem d11_43 : decode jdk_68_method_22_code 43 = .ok (.aload_n 0, 1) := by decide +kernel
theorem d11_44 : decode jdk_68_method_22_code 44 = .ok (.areturn, 1) := by decide +kernel
set_option maxRecDepth 65536 in
set_option maxHeartbeats 40000000 in
theorem aps00 (l : Launch) (Z : State) (a0 : Array Value) (hw : ∀ d ∈ tables_1, d.before a0 Z = true) (ws : List Jvm.Cond) (b : Addr) (a : Addr) (ka : ClassId) (cap : Nat) (cs : List Int32) (x : Addr) (t : Addr) (kb : ClassId) (ds : List Int32) (G1 : Int32) (G3 : Value) (h0 : Heap) (n0 : Nat) (Z0 : n0 ≤ h0.size) (q0 : Sta Z Z.heap "java/lang/String" "COMPACT_STRINGS" "Z" (.int G1)) (P5 : ¬ (G1 = (0 : Int32))) (q2 : (Old Z Z.heap.size h0 ∧ @LE.le Nat instLENat Z.heap.size n0)) (q3 : Sta Z Z.heap "jdk/internal/util/Preconditions" "SIOOBE_FORMATTER" "Ljava/util/function/BiFunction;" G3) (rG3 : G3.isRef = true) (q5 : Sta Z Z.heap "java/lang/StringUTF16" "$assertionsDisabled" "Z" (.int (1 : Int32))) (q6 : Sta Z Z.heap "java/lang/StringUTF16" "HI_BYTE_SHIFT" "I" (.int (0 : Int32))) (q7 : Sta Z Z.heap "java/lang/StringUTF16" "LO_BYTE_SHIFT" "I" (.int (8 : Int32))) (q8 : Exa Z h0 b "java/lang/StringBuilder") (q9 : Fld Z h0 b "java/lang/AbstractStringBuilder" "value" "[B" (.ref a)) (q10 : Fld Z h0 b "java/lang/AbstractStringBuilder" "coder" "B" (.int (0 : Int32))) (q11 : Fld Z h0 b "java/lang/AbstractStringBuilder" "count" "I" (.int (Int32.ofNat cs.length))) (q12 : Fld Z h0 b "java/lang/AbstractStringBuilder" "maybeLatin1" "Z" (.int (0 : Int32))) (q13 : Arv Z h0 a ka .byte (Int32.ofNat cap) (lb cs) (.int (0 : Int32))) (q14 : @LE.le Nat instLENat n0 a) (q15 : @LE.le Nat instLENat n0 b) (q16 : ¬ @Eq Nat a b) (hcap : cap ≤ 18) (q18 : Exa Z h0 x "java/lang/String") (q19 : Fld Z h0 x "java/lang/String" "value" "[B" (.ref t)) (q20 : Fld Z h0 x "java/lang/String" "coder" "B" (.int (0 : Int32))) (q21 : Arv Z h0 t kb .byte (Int32.ofNat ds.length) (lb ds) (.int (0 : Int32))) (q22 : ¬ @Eq Nat a x) (q23 : ¬ @Eq Nat a t) (q24 : ¬ @Eq Nat b x) (q25 : ¬ @Eq Nat b t) (hfit : cs.length + ds.length ≤ cap) (hld : ∀ c ∈ ds, Lat c) :
    MetFree l y_24 (head1 (Jvm.Cond.code y_24 jdk_68_method_22_code 3 (some (.object "java/lang/AbstractStringBuilder")) :: ws) r_m16) (fun a_ U_ => a_ = #[(.ref b), (.ref x)] ∧ Z.Warmed39 U_.vm ∧ U_.heap = h0) (fun _ _ _ _ _ => True) (fun _ U_ o_ V_ => ∃ v_ L_, o_ = .returned v_ ∧ Qaps00 Z b a ka cap cs x t kb ds G1 G3 h0 n0 v_ V_.heap L_ ∧ FrameEnd U_ o_ V_ L_ r_m16.cells r_m16.slots) := by
  refine MetFree.of_bodySF (plainFor_of_name pn_2) hisR ?_
  intro p e s m args below meth c s₁ Bd hml0 hP hK
  obtain ⟨rfl, hZ, hh⟩ := hP
  have hx := Bd.exec
  have hby := Bd.bytes
  have hml : c.maxLocals = 3 := hml0
  have hown : s.vm.findClass "java/lang/AbstractStringBuilder" = some m.cls := findClass_of_methodNamed Bd.named
  have hnm := (name_of_methodNamed Bd.named Bd.method).1
  have X0 : Stand p l e r_m16 s m #[(.ref b), (.ref x)] below meth c s₁ [] 0 0 := Stand.of_body Bd
  have e0 : s₁.heap = h0 := by rw [← hh, Bd.state]; rfl
  have N0 := Fr.nil n0
  have Oo := q2.1
  have zo := q2.2
  have lt352 := own_alt q8.lt
  have lt353 := own_alt q9.lt
  have lt354 := own_alt q10.lt
  have lt355 := own_alt q11.lt
  have lt356 := own_alt q12.lt
  have lt357 := own_alt q13.lt
  have lt358 := own_alt q18.lt
  have lt359 := own_alt q19.lt
  have lt360 := own_alt q20.lt
  have lt361 := own_alt q21.lt
  refine Gl.go (A := s₁.setTop (entryFrame m #[(.ref b), (.ref x)] 3)) (P := fun o_ U_ => ∃ v_ L_, o_ = .returned v_ ∧ Qaps00 Z b a ka cap cs x t kb ds G1 G3 h0 n0 v_ U_.heap L_ ∧ FrameEnd s o_ U_ L_ r_m16.cells r_m16.slots) (fun t_ k_ => castTop (ef_aps00 m b x) k_) ?_
  show Gl p.tables e below _ (s₁.setTop (mkF m 0 #[sR b, sR x, sU] []))
  refine Gl.go (fun _ hr => zXS_aloadN X0.here hx rfl (hb hby d11_0) rfl rfl (zXT_ifnonnullYes X0.here hx rfl (pc0 := 1) (pc' := 9) rfl (hb hby d11_1) rfl (by decide) (by decide) (zXS_aloadN X0.here hx rfl (hb hby d11_9) rfl rfl hr))) ?_
  have zz362 : n0 ≤ h0.size := by omega
  refine gVirtualN Gl.cl (y := y_12) (z := y_12) (b := x) (argsL := []) (rest := []) (mc := 0) (ms := 0) X0 hx hZ hown (mvT hZ (tw hw 76 rfl)) (mvT hZ (tw hw 77 rfl)) (notFace_of_selects (args := #[]) (mvT hZ (tw hw 79 rfl))) (mvT hZ (tw hw 79 rfl)) (mvT hZ (tw hw 78 rfl)) (by decide) q18 (backOf (W := 0) (sl0 l Z a0 hw [] x t kb (lb ds) ds G1 h0 n0 zz362 q0 (by assumption) ⟨Oo, (by omega)⟩ q18 q19 q20 q21 (by omega)) hZ (tw hw 80 rfl) (tw hw 7 rfl) (by decide) (by decide)) rfl (by rw [hml]; rfl) (lenOf pd_18 rfl) rfl (by exact Nat.le_of_eq rfl) (hb hby d11_10) rfl e0 (by decide) (by decide) ?_
  intro v362 T362 Lc362 hQ362 X362
  obtain ⟨rfl, Nq362, e362⟩ := hQ362
  have N362 := Fr.app N0 Nq362
  refine Gl.go (fun _ hr => zXS_istoreN X362.here hx rfl (hb hby d11_13) rfl (l' := #[sR b, sR x, sI (Int32.ofNat ds.length)]) rfl (zXS_aloadN X362.here hx rfl (hb hby d11_14) rfl rfl (zXS_aloadN X362.here hx rfl (hb hby d11_15) rfl rfl hr))) ?_
  refine gGetF (host := "") Gl.cl X362 hx hZ hown (Or.inl (tw hw 87 rfl)) Via.refl e362 q11 rfl rfl (hb hby d11_16) ?_
  intro T363 X363 e363
  refine Gl.go (fun _ hr => zXS_iloadN X363.here hx rfl (hb hby d11_19) rfl (zXS_iadd X363.here hx rfl (hb hby d11_20) rfl hr)) ?_
  show Gl p.tables e below _ (T363.setTop (mkF m 21 #[sR b, sR x, sI (Int32.ofNat ds.length)] [(.int ((Int32.ofNat cs.length) + (Int32.ofNat ds.length))), (.ref b)]))
  rw [own_add32]
  show Gl p.tables e below _ (T363.setTop (mkF m 21 #[sR b, sR x, sI (Int32.ofNat ds.length)] [(.int (Int32.ofNat (cs.length + ds.length))), (.ref b)]))
  have zz364 : n0 ≤ h0.size := by omega
  refine gPrivN Gl.cl (y := y_13) (b := b) (argsL := [(.int (Int32.ofNat (cs.length + ds.length)))]) (rest := []) (mc := 0) (ms := 0) X363 hx hZ hown (mvT hZ (tw hw 89 rfl)) (mvT hZ (tw hw 90 rfl)) (mvT hZ (tw hw 92 rfl)) (mvP hZ (tw hw 91 rfl)) (mvT hZ (tw hw 93 rfl)) (by decide) q8 (backOf (W := 0) (ens0 l Z a0 hw [] b a ka cap (lb cs) (cs.length + ds.length) h0 n0 zz364 q9 q10 q13 hfit hcap) hZ (tw hw 93 rfl) (tw hw 58 rfl) (by decide) (by decide)) rfl (by rw [hml]; rfl) (lenOf pd_19 rfl) rfl (by exact Nat.le_of_eq rfl) (hb hby d11_21) rfl e363 (by decide) (by decide) ?_
  intro v364 T364 Lc364 hQ364 X364
  obtain ⟨rfl, Nq364, e364⟩ := hQ364
  have N364 := Fr.app N362 Nq364
  refine Gl.go (fun _ hr => zXS_aloadN X364.here hx rfl (hb hby d11_24) rfl rfl (zXS_aloadN X364.here hx rfl (hb hby d11_25) rfl rfl hr)) ?_
  refine gGetF (host := "") Gl.cl X364 hx hZ hown (Or.inl (tw hw 87 rfl)) Via.refl e364 q11 rfl rfl (hb hby d11_26) ?_
  intro T365 X365 e365
  refine Gl.go (fun _ hr => zXS_aloadN X365.here hx rfl (hb hby d11_29) rfl rfl hr) ?_
  have zz366 : n0 ≤ h0.size := by omega
  refine gPrivN Gl.cl (y := y_23) (b := b) (argsL := [(.int (Int32.ofNat cs.length)), (.ref x)]) (rest := []) (mc := 0) (ms := 0) X365 hx hZ hown (mvT hZ (tw hw 94 rfl)) (mvT hZ (tw hw 95 rfl)) (mvT hZ (tw hw 97 rfl)) (mvP hZ (tw hw 96 rfl)) (mvT hZ (tw hw 98 rfl)) (by decide) q8 (backOf (W := 0) (psa00 l Z a0 hw [] b a ka cap cs x t kb ds G1 G3 h0 n0 zz366 q0 (by assumption) ⟨Oo, (by omega)⟩ q3 (by assumption) q5 q6 q7 q8 q9 q10 q11 q12 q13 (by omega) (by omega) (by omega) (by assumption) q18 q19 q20 q21 (by omega) (by omega) (by omega) (by omega) (by assumption) (by assumption)) hZ (tw hw 98 rfl) (tw hw 58 rfl) (by decide) (by decide)) rfl (by rw [hml]; rfl) (lenOf pd_20 rfl) rfl (by exact Nat.le_of_eq rfl) (hb hby d11_30) rfl e365 (by decide) (by decide) ?_
  intro v366 T366 Lc366 hQ366 X366
  obtain ⟨rfl, Nq366, K366, f366_0⟩ := hQ366
  have z367 : h0.size ≤ T366.heap.size := K366.1
  have N366 := Fr.app N364 Nq366
  have lt368 := own_alt f366_0.lt
  refine Gl.go (fun _ hr => zXS_aloadN X366.here hx rfl (hb hby d11_33) rfl rfl (zXS_dup X366.here hx rfl (hb hby d11_34) rfl rfl hr)) ?_
  have om369 : ¬ @Eq Nat b a := by omega
  have Fc370 := (q11.keep K366 (ninS (own_ane om369) nin0))
  refine gGetF (host := "") Gl.cl X366 hx hZ hown (Or.inl (tw hw 87 rfl)) Via.refl (rfl : T366.heap = T366.heap) Fc370 rfl rfl (hb hby d11_35) ?_
  intro T371 X371 e371
  refine Gl.go (fun _ hr => zXS_iloadN X371.here hx rfl (hb hby d11_38) rfl (zXS_iadd X371.here hx rfl (hb hby d11_39) rfl hr)) ?_
  show Gl p.tables e below _ (T371.setTop (mkF m 40 #[sR b, sR x, sI (Int32.ofNat ds.length)] [(.int ((Int32.ofNat cs.length) + (Int32.ofNat ds.length))), (.ref b)]))
  rw [(show Int32.ofNat cs.length + Int32.ofNat ds.length = Int32.ofNat (cs ++ ds).length from by rw [own_add32, List.length_append])]
  show Gl p.tables e below _ (T371.setTop (mkF m 40 #[sR b, sR x, sI (Int32.ofNat ds.length)] [(.int (Int32.ofNat (cs ++ ds).length)), (.ref b)]))
  have Ec372 := (q8.keep K366)
  refine gPutF (host := "") Gl.cl X371 hx hZ hown (Or.inl (tw hw 87 rfl)) Via.refl e371 Fc370 Ec372 (Or.inl (tw hw 88 rfl)) (tw hw 49 rfl) (ty := .int) (by decide) rfl rfl rfl rfl (hb hby d11_40) ?_
  intro T373 h373 X373 e373 W373
  have z374 : T366.heap.size ≤ h373.size := (Keep.of_wr W373).1
  have Fw373 := Fc370.same W373
  have om375 : @LE.le Nat instLENat n0 b := by omega
  have N373 := Fr.snoc X373 N366 (own_ale om375)
  refine Gl.go (fun _ hr => zXS_aloadN X373.here hx rfl (hb hby d11_43) rfl rfl hr) ?_
  have Ec376 := (Ec372.wr W373)
  have Fc377 := ((q9.keep K366 (ninS (own_ane om369) nin0)).other W373 (Or.inr (slot_ne (Or.inl (tw hw 63 rfl)) (Or.inl (tw hw 88 rfl)) (by decide) (t := (.array .byte)) (t' := .int) (by decide) (by decide))))
  have Fc378 := ((q10.keep K366 (ninS (own_ane om369) nin0)).other W373 (Or.inr (slot_ne (Or.inl (tw hw 65 rfl)) (Or.inl (tw hw 88 rfl)) (by decide) (t := .byte) (t' := .int) (by decide) (by decide))))
  have Fc379 := ((q12.keep K366 (ninS (own_ane om369) nin0)).other W373 (Or.inr (slot_ne (Or.inl (tw hw 247 rfl)) (Or.inl (tw hw 88 rfl)) (by decide) (t := .boolean) (t' := .int) (by decide) (by decide))))
  have Vc380 := (f366_0.other W373 (own_anes om369))
  obtain ⟨fs, hr, hrun, hended, hW, hsame⟩ := X373.leave (v := some (.ref b)) (fun h => by rw [Bd.returns] at h; cases h)
  refine ⟨_, _, retOut X373 hx Bd.returns rfl (Or.inr (Or.inr (Or.inr (Or.inr ⟨rfl, rfl, rfl⟩)))) (hb hby d11_44) hr, hrun, hended, _, _, rfl, ?_, ⟨⟨_, rfl⟩, hW, hsame.mono (by decide) (by decide)⟩⟩
  show Qaps00 Z b a ka cap cs x t kb ds G1 G3 h0 n0 _ T373.heap _
  rw [e373]
  exact ⟨rfl, N373, (((Keep.refl h0 [b, a]).trans K366 (allS (P := fun x_ => x_ ∈ ([b, a] : List Addr) ∨ h0.size ≤ x_) (Or.inl (by simp)) all0)).wr W373 (Or.inl (by simp))), Ec376, Fc377, Fc378, Fw373, Fc379, Vc380⟩
def Qsbs00 (Z : State) (b : Addr) (a : Addr) (ka : ClassId) (cap : Nat) (cs : List Int32) (x : Addr) (t : Addr) (kb : ClassId) (ds : List Int32) (G1 : Int32) (G3 : Value) (h0 : Heap) (n0 : Nat) (v : Option Value) (h : Heap) (L : List Loc) : Prop := v = some (.ref b) ∧ Fr n0 L ∧ Keep h0 h [b, a] ∧ (Exa Z h b "java/lang/StringBuilder") ∧ (Fld Z h b "java/lang/AbstractStringBuilder" "value" "[B" (.ref a)) ∧ (Fld Z h b "java/lang/AbstractStringBuilder" "coder" "B" (.int (0 : Int32))) ∧ (Fld Z h b "java/lang/AbstractStringBuilder" "count" "I" (.int (Int32.ofNat (cs ++ ds).length))) ∧ (Fld Z h b "java/lang/AbstractStringBuilder" "maybeLatin1" "Z" (.int (0 : Int32))) ∧ (Arv Z h a ka .byte (Int32.ofNat cap) (lb (cs ++ ds)) (.int (0 : Int32)))
theorem pn_5 : plainName "java/lang/StringBuilder" = true := by first | (simp [plainName, overriddenIn]; done) | decide +kernel
theorem ef_sbs00 (m : MethodId) (x0 : Addr) (x1 : Addr) : entryFrame m #[(.ref x0), (.ref x1)] 2 = mkF m 0 #[sR x0, sR x1] [] := by first | (simp [entryFrame, mkF, argsToLocals, Value.category]; done) | rfl
theorem d10_0 : decode jdk_67_method_7_code 0 = .ok (.aload_n 0, 1) := by decide +kernel
theorem d10_1 : decode jdk_67_method_7_code 1 = .ok (.aload_n 1, 1) := by decide +kernel
theorem d10_2 : decode jdk_67_method_7_code 2 = .ok (.invokespecial 29, 3) := by decide +kernel
theorem pd_21 : parseMethodDescriptor "(Ljava/lang/String;)Ljava/lang/AbstractStringBuilder;" = some ⟨[(.object "java/lang/String")], some (.object "java/lang/AbstractStringBuilder")⟩ := by decide +kernel
theorem d10_5 : decode jdk_67_method_7_code 5 = .ok (.pop, 1) := by decide +kernel
theorem d10_6 : decode jdk_67_method_7_code 6 = .ok (.aload_n 0, 1) := by decide +kernel
theorem d10_7 : decode jdk_67_method_7_code 7 = .ok (.areturn, 1) := by decide +kernel
set_option maxRecDepth 65536 in
set_option maxHeartbeats 40000000 in
theorem sbs00 (l : Launch) (Z : State) (a0 : Array Value) (hw : ∀ d ∈ tables_1, d.before a0 Z = true) (ws : List Jvm.Cond) (b : Addr) (a : Addr) (ka : ClassId) (cap : Nat) (cs : List Int32) (x : Addr) (t : Addr) (kb : ClassId) (ds : List Int32) (G1 : Int32) (G3 : Value) (h0 : Heap) (n0 : Nat) (Z0 : n0 ≤ h0.size) (q0 : Sta Z Z.heap "java/lang/String" "COMPACT_STRINGS" "Z" (.int G1)) (P5 : ¬ (G1 = (0 : Int32))) (q2 : (Old Z Z.heap.size h0 ∧ @LE.le Nat instLENat Z.heap.size n0)) (q3 : Sta Z Z.heap "jdk/internal/util/Preconditions" "SIOOBE_FORMATTER" "Ljava/util/function/BiFunction;" G3) (rG3 : G3.isRef = true) (q5 : Sta Z Z.heap "java/lang/StringUTF16" "$assertionsDisabled" "Z" (.int (1 : Int32))) (q6 : Sta Z Z.heap "java/lang/StringUTF16" "HI_BYTE_SHIFT" "I" (.int (0 : Int32))) (q7 : Sta Z Z.heap "java/lang/StringUTF16" "LO_BYTE_SHIFT" "I" (.int (8 : Int32))) (q8 : Exa Z h0 b "java/lang/StringBuilder") (q9 : Fld Z h0 b "java/lang/AbstractStringBuilder" "value" "[B" (.ref a)) (q10 : Fld Z h0 b "java/lang/AbstractStringBuilder" "coder" "B" (.int (0 : Int32))) (q11 : Fld Z h0 b "java/lang/AbstractStringBuilder" "count" "I" (.int (Int32.ofNat cs.length))) (q12 : Fld Z h0 b "java/lang/AbstractStringBuilder" "maybeLatin1" "Z" (.int (0 : Int32))) (q13 : Arv Z h0 a ka .byte (Int32.ofNat cap) (lb cs) (.int (0 : Int32))) (q14 : @LE.le Nat instLENat n0 a) (q15 : @LE.le Nat instLENat n0 b) (q16 : ¬ @Eq Nat a b) (hcap : cap ≤ 18) (q18 : Exa Z h0 x "java/lang/String") (q19 : Fld Z h0 x "java/lang/String" "value" "[B" (.ref t)) (q20 : Fld Z h0 x "java/lang/String" "coder" "B" (.int (0 : Int32))) (q21 : Arv Z h0 t kb .byte (Int32.ofNat ds.length) (lb ds) (.int (0 : Int32))) (q22 : ¬ @Eq Nat a x) (q23 : ¬ @Eq Nat a t) (q24 : ¬ @Eq Nat b x) (q25 : ¬ @Eq Nat b t) (hfit : cs.length + ds.length ≤ cap) (hld : ∀ c ∈ ds, Lat c) :
    MetFree l y_25 (head1 (Jvm.Cond.code y_25 jdk_67_method_7_code 2 (some (.object "java/lang/StringBuilder")) :: ws) r_m17) (fun a_ U_ => a_ = #[(.ref b), (.ref x)] ∧ Z.Warmed39 U_.vm ∧ U_.heap = h0) (fun _ _ _ _ _ => True) (fun _ U_ o_ V_ => ∃ v_ L_, o_ = .returned v_ ∧ Qsbs00 Z b a ka cap cs x t kb ds G1 G3 h0 n0 v_ V_.heap L_ ∧ FrameEnd U_ o_ V_ L_ r_m17.cells r_m17.slots) := by
  refine MetFree.of_bodySF (plainFor_of_name pn_5) hisR ?_
  intro p e s m args below meth c s₁ Bd hml0 hP hK
  obtain ⟨rfl, hZ, hh⟩ := hP
  have hx := Bd.exec
  have hby := Bd.bytes
  have hml : c.maxLocals = 2 := hml0
  have hown : s.vm.findClass "java/lang/StringBuilder" = some m.cls := findClass_of_methodNamed Bd.named
  have hnm := (name_of_methodNamed Bd.named Bd.method).1
  have X0 : Stand p l e r_m17 s m #[(.ref b), (.ref x)] below meth c s₁ [] 0 0 := Stand.of_body Bd
  have e0 : s₁.heap = h0 := by rw [← hh, Bd.state]; rfl
  have N0 := Fr.nil n0
  have Oo := q2.1
  have zo := q2.2
  have lt381 := own_alt q8.lt
  have lt382 := own_alt q9.lt
  have lt383 := own_alt q10.lt
  have lt384 := own_alt q11.lt
  have lt385 := own_alt q12.lt
  have lt386 := own_alt q13.lt
  have lt387 := own_alt q18.lt
  have lt388 := own_alt q19.lt
  have lt389 := own_alt q20.lt
  have lt390 := own_alt q21.lt
  refine Gl.go (A := s₁.setTop (entryFrame m #[(.ref b), (.ref x)] 2)) (P := fun o_ U_ => ∃ v_ L_, o_ = .returned v_ ∧ Qsbs00 Z b a ka cap cs x t kb ds G1 G3 h0 n0 v_ U_.heap L_ ∧ FrameEnd s o_ U_ L_ r_m17.cells r_m17.slots) (fun t_ k_ => castTop (ef_sbs00 m b x) k_) ?_
  show Gl p.tables e below _ (s₁.setTop (mkF m 0 #[sR b, sR x] []))
  refine Gl.go (fun _ hr => zXS_aloadN X0.here hx rfl (hb hby d10_0) rfl rfl (zXS_aloadN X0.here hx rfl (hb hby d10_1) rfl rfl hr)) ?_
  have zz391 : n0 ≤ h0.size := by omega
  refine gSuperN Gl.cl (y := y_24) (b := b) (argsL := [(.ref x)]) (rest := []) (mc := 0) (ms := 0) X0 hx hZ hown (tw hw 71 rfl) (own_same (y := y_24) (tw hw 74 rfl) (tw hw 92 rfl) rfl (by decide)) (tw hw 72 rfl) (tw hw 73 rfl) (by decide) (tw hw 75 rfl) (Ins.self q8) (backOf (W := 0) (aps00 l Z a0 hw [] b a ka cap cs x t kb ds G1 G3 h0 n0 zz391 q0 (by assumption) ⟨Oo, (by omega)⟩ q3 (by assumption) q5 q6 q7 q8 q9 q10 q11 q12 q13 (by omega) (by omega) (by omega) (by assumption) q18 q19 q20 q21 (by omega) (by omega) (by omega) (by omega) (by assumption) (by assumption)) hZ (tw hw 75 rfl) (tw hw 58 rfl) (by decide) (by decide)) rfl (by rw [hml]; rfl) (lenOf pd_21 rfl) rfl (by exact Nat.le_of_eq rfl) (hb hby d10_2) rfl e0 (by decide) (by decide) ?_
  intro v391 T391 Lc391 hQ391 X391
  obtain ⟨rfl, Nq391, K391, f391_0, f391_1, f391_2, f391_3, f391_4, f391_5⟩ := hQ391
  have z392 : h0.size ≤ T391.heap.size := K391.1
  have N391 := Fr.app N0 Nq391
  have lt393 := own_alt f391_0.lt
  have lt394 := own_alt f391_1.lt
  have lt395 := own_alt f391_2.lt
  have lt396 := own_alt f391_3.lt
  have lt397 := own_alt f391_4.lt
  have lt398 := own_alt f391_5.lt
  refine Gl.go (fun _ hr => zXT_pop X391.here hx rfl (hb hby d10_5) rfl rfl (zXS_aloadN X391.here hx rfl (hb hby d10_6) rfl rfl hr)) ?_
  obtain ⟨fs, hr, hrun, hended, hW, hsame⟩ := X391.leave (v := some (.ref b)) (fun h => by rw [Bd.returns] at h; cases h)
  refine ⟨_, _, retOut X391 hx Bd.returns rfl (Or.inr (Or.inr (Or.inr (Or.inr ⟨rfl, rfl, rfl⟩)))) (hb hby d10_7) hr, hrun, hended, _, _, rfl, ?_, ⟨⟨_, rfl⟩, hW, hsame.mono (by decide) (by decide)⟩⟩
  show Qsbs00 Z b a ka cap cs x t kb ds G1 G3 h0 n0 _ T391.heap _
  exact ⟨rfl, N391, ((Keep.refl h0 [b, a]).trans K391 (allS (P := fun x_ => x_ ∈ ([b, a] : List Addr) ∨ h0.size ≤ x_) (Or.inl (by simp)) (allS (P := fun x_ => x_ ∈ ([b, a] : List Addr) ∨ h0.size ≤ x_) (Or.inl (by simp)) all0))), f391_0, f391_1, f391_2, f391_3, f391_4, f391_5⟩
def Qpsa01 (Z : State) (b : Addr) (a : Addr) (ka : ClassId) (cap : Nat) (cs : List Int32) (x : Addr) (t : Addr) (kb : ClassId) (ds : List Int32) (G1 : Int32) (G3 : Value) (h0 : Heap) (n0 : Nat) (v : Option Value) (h : Heap) (L : List Loc) : Prop := ∃ (a2 : Addr), ∃ (k2 : ClassId), v = none ∧ Fr n0 L ∧ Keep h0 h [b] ∧ (Exa Z h b "java/lang/StringBuilder") ∧ (Fld Z h b "java/lang/AbstractStringBuilder" "value" "[B" (.ref a2)) ∧ (Fld Z h b "java/lang/AbstractStringBuilder" "coder" "B" (.int (1 : Int32))) ∧ (Fld Z h b "java/lang/AbstractStringBuilder" "count" "I" (.int (Int32.ofNat cs.length))) ∧ (Fld Z h b "java/lang/AbstractStringBuilder" "maybeLatin1" "Z" (.int (0 : Int32))) ∧ (Arv Z h a2 k2 .byte (Int32.ofNat (2 * cap)) (StrChars.Road.wideBytes (cs ++ ds)) (.int (0 : Int32))) ∧ (@LE.le Nat instLENat h0.size a2)
theorem ef_psa01 (m : MethodId) (x0 : Addr) (x1 : Int32) (x2 : Addr) : entryFrame m #[(.ref x0), (.int x1), (.ref x2)] 3 = mkF m 0 #[sR x0, sI x1, sR x2] [] := by first | (simp [entryFrame, mkF, argsToLocals, Value.category]; done) | rfl
set_option maxRecDepth 65536 in
set_option maxHeartbeats 40000000 in
theorem psa01 (l : Launch) (Z : State) (a0 : Array Value) (hw : ∀ d ∈ tables_1, d.before a0 Z = true) (ws : List Jvm.Cond) (b : Addr) (a : Addr) (ka : ClassId) (cap : Nat) (cs : List Int32) (x : Addr) (t : Addr) (kb : ClassId) (ds : List Int32) (G1 : Int32) (G3 : Value) (h0 : Heap) (n0 : Nat) (Z0 : n0 ≤ h0.size) (q0 : Sta Z Z.heap "java/lang/String" "COMPACT_STRINGS" "Z" (.int G1)) (P5 : ¬ (G1 = (0 : Int32))) (q2 : (Old Z Z.heap.size h0 ∧ @LE.le Nat instLENat Z.heap.size n0)) (q3 : Sta Z Z.heap "jdk/internal/util/Preconditions" "SIOOBE_FORMATTER" "Ljava/util/function/BiFunction;" G3) (rG3 : G3.isRef = true) (q5 : Sta Z Z.heap "java/lang/StringUTF16" "$assertionsDisabled" "Z" (.int (1 : Int32))) (q6 : Sta Z Z.heap "java/lang/StringUTF16" "HI_BYTE_SHIFT" "I" (.int (0 : Int32))) (q7 : Sta Z Z.heap "java/lang/StringUTF16" "LO_BYTE_SHIFT" "I" (.int (8 : Int32))) (q8 : Exa Z h0 b "java/lang/StringBuilder") (q9 : Fld Z h0 b "java/lang/AbstractStringBuilder" "value" "[B" (.ref a)) (q10 : Fld Z h0 b "java/lang/AbstractStringBuilder" "coder" "B" (.int (0 : Int32))) (q11 : Fld Z h0 b "java/lang/AbstractStringBuilder" "count" "I" (.int (Int32.ofNat cs.length))) (q12 : Fld Z h0 b "java/lang/AbstractStringBuilder" "maybeLatin1" "Z" (.int (0 : Int32))) (q13 : Arv Z h0 a ka .byte (Int32.ofNat cap) (lb cs) (.int (0 : Int32))) (q14 : @LE.le Nat instLENat n0 a) (q15 : @LE.le Nat instLENat n0 b) (q16 : ¬ @Eq Nat a b) (hcap : cap ≤ 18) (q18 : Exa Z h0 x "java/lang/String") (q19 : Fld Z h0 x "java/lang/String" "value" "[B" (.ref t)) (q20 : Fld Z h0 x "java/lang/String" "coder" "B" (.int (1 : Int32))) (q21 : Arv Z h0 t kb .byte (Int32.ofNat (2 * ds.length)) (StrChars.Road.wideBytes ds) (.int (0 : Int32))) (q22 : ¬ @Eq Nat a x) (q23 : ¬ @Eq Nat a t) (q24 : ¬ @Eq Nat b x) (q25 : ¬ @Eq Nat b t) (hfit : cs.length + ds.length ≤ cap) (hlc : ∀ c ∈ cs, Lat c) :
    MetFree l y_23 (head1 (Jvm.Cond.code y_23 jdk_68_method_73_code 3 none :: ws) r_m18) (fun a_ U_ => a_ = #[(.ref b), (.int (Int32.ofNat cs.length)), (.ref x)] ∧ Z.Warmed39 U_.vm ∧ U_.heap = h0) (fun _ _ _ _ _ => True) (fun _ U_ o_ V_ => ∃ v_ L_, o_ = .returned v_ ∧ Qpsa01 Z b a ka cap cs x t kb ds G1 G3 h0 n0 v_ V_.heap L_ ∧ FrameEnd U_ o_ V_ L_ r_m18.cells r_m18.slots) := by
  refine MetFree.of_bodySF (plainFor_of_name pn_2) hisR ?_
  intro p e s m args below meth c s₁ Bd hml0 hP hK
  obtain ⟨rfl, hZ, hh⟩ := hP
  have hx := Bd.exec
  have hby := Bd.bytes
  have hml : c.maxLocals = 3 := hml0
  have hown : s.vm.findClass "java/lang/AbstractStringBuilder" = some m.cls := findClass_of_methodNamed Bd.named
  have hnm := (name_of_methodNamed Bd.named Bd.method).1
  have X0 : Stand p l e r_m18 s m #[(.ref b), (.int (Int32.ofNat cs.length)), (.ref x)] below meth c s₁ [] 0 0 := Stand.of_body Bd
  have e0 : s₁.heap = h0 := by rw [← hh, Bd.state]; rfl
  have N0 := Fr.nil n0
  have Oo := q2.1
  have zo := q2.2
  have lt399 := own_alt q8.lt
  have lt400 := own_alt q9.lt
  have lt401 := own_alt q10.lt
  have lt402 := own_alt q11.lt
  have lt403 := own_alt q12.lt
  have lt404 := own_alt q13.lt
  have lt405 := own_alt q18.lt
  have lt406 := own_alt q19.lt
  have lt407 := own_alt q20.lt
  have lt408 := own_alt q21.lt
  refine Gl.go (A := s₁.setTop (entryFrame m #[(.ref b), (.int (Int32.ofNat cs.length)), (.ref x)] 3)) (P := fun o_ U_ => ∃ v_ L_, o_ = .returned v_ ∧ Qpsa01 Z b a ka cap cs x t kb ds G1 G3 h0 n0 v_ U_.heap L_ ∧ FrameEnd s o_ U_ L_ r_m18.cells r_m18.slots) (fun t_ k_ => castTop (ef_psa01 m b (Int32.ofNat cs.length) x) k_) ?_
  show Gl p.tables e below _ (s₁.setTop (mkF m 0 #[sR b, sI (Int32.ofNat cs.length), sR x] []))
  refine Gl.go (fun _ hr => zXS_aloadN X0.here hx rfl (hb hby d15_0) rfl rfl (zXS_aloadN X0.here hx rfl (hb hby d15_1) rfl rfl hr)) ?_
  have zz409 : n0 ≤ h0.size := by omega
  refine gPrivN Gl.cl (y := y_21) (b := b) (argsL := [(.ref x)]) (rest := []) (mc := 1) (ms := 36) X0 hx hZ hown (mvT hZ (tw hw 99 rfl)) (mvT hZ (tw hw 100 rfl)) (mvT hZ (tw hw 102 rfl)) (mvP hZ (tw hw 101 rfl)) (mvT hZ (tw hw 103 rfl)) (by decide) q8 (backOf (W := 0) (inf01 l Z a0 hw [] b a ka cap cs x G1 G3 h0 n0 zz409 q0 (by assumption) ⟨Oo, (by omega)⟩ q3 (by assumption) q5 q6 q7 q8 q9 q10 q11 q12 q13 (by omega) (by omega) (by omega) (by assumption) (by assumption) (by omega) q18 q20 (by omega)) hZ (tw hw 103 rfl) (tw hw 58 rfl) (by decide) (by decide)) rfl (by rw [hml]; rfl) (lenOf pd_16 rfl) rfl (by exact Nat.le_of_eq rfl) (hb hby d15_2) rfl e0 (by decide) (by decide) ?_
  intro v409 T409 Lc409 hQ409 X409
  obtain ⟨a2_409, k2_409, rfl, Nq409, K409, f409_0, f409_1, f409_2, f409_3, f409_4, f409_5, f409_6⟩ := hQ409
  have z410 : h0.size ≤ T409.heap.size := K409.1
  have N409 := Fr.app N0 Nq409
  have lt411 := own_alt f409_0.lt
  have lt412 := own_alt f409_1.lt
  have lt413 := own_alt f409_2.lt
  have lt414 := own_alt f409_3.lt
  have lt415 := own_alt f409_4.lt
  have lt416 := own_alt f409_5.lt
  refine Gl.go (fun _ hr => zXS_aloadN X409.here hx rfl (hb hby d15_5) rfl rfl (zXS_aloadN X409.here hx rfl (hb hby d15_6) rfl rfl hr)) ?_
  refine gGetF (host := "") Gl.cl X409 hx hZ hown (Or.inl (tw hw 62 rfl)) Via.refl (rfl : T409.heap = T409.heap) f409_1 rfl rfl (hb hby d15_7) ?_
  intro T417 X417 e417
  refine Gl.go (fun _ hr => zXS_iloadN X417.here hx rfl (hb hby d15_10) rfl (zXS_aloadN X417.here hx rfl (hb hby d15_11) rfl rfl hr)) ?_
  refine gGetF (host := "") Gl.cl X417 hx hZ hown (Or.inl (tw hw 64 rfl)) Via.refl e417 f409_2 rfl rfl (hb hby d15_12) ?_
  intro T418 X418 e418
  have om420 : @LE.le Nat instLENat Z.heap.size b := by omega
  have Oc421 := (Oo.keep K409 (allS (own_ale om420) all0))
  have Ec422 := (q18.keep K409)
  have om423 : ¬ @Eq Nat x b := by omega
  have Fc424 := (q19.keep K409 (ninS (own_ane om423) nin0))
  have Fc425 := (q20.keep K409 (ninS (own_ane om423) nin0))
  have om426 : ¬ @Eq Nat t b := by omega
  have Vc427 := (q21.keep K409 (ninS (own_ane om426) nin0))
  have zz419 : n0 ≤ T409.heap.size := by omega
  refine gVirtualN Gl.cl (y := y_22) (z := y_22) (b := x) (argsL := [(.ref a2_409), (.int (Int32.ofNat cs.length)), (.int (1 : Int32))]) (rest := []) (mc := 0) (ms := 0) X418 hx hZ hown (mvT hZ (tw hw 105 rfl)) (mvT hZ (tw hw 106 rfl)) (notFace_of_selects (args := #[]) (mvT hZ (tw hw 108 rfl))) (mvT hZ (tw hw 108 rfl)) (mvT hZ (tw hw 107 rfl)) (by decide) Ec422 (backOf (W := 0) (gb11 l Z a0 hw [] x t kb ds a2_409 k2_409 cap cs G1 G3 T409.heap n0 zz419 q0 (by assumption) ⟨Oc421, (by omega)⟩ q3 (by assumption) q5 q6 q7 Ec422 Fc424 Fc425 Vc427 f409_5 (by omega) (by omega) (by omega) (by assumption) (by assumption)) hZ (tw hw 109 rfl) (tw hw 7 rfl) (by decide) (by decide)) rfl (by rw [hml]; rfl) (lenOf pd_17 rfl) rfl (by exact Nat.le_of_eq rfl) (hb hby d15_15) rfl e418 (by decide) (by decide) ?_
  intro v419 T419 Lc419 hQ419 X419
  obtain ⟨rfl, Nq419, K419, f419_0⟩ := hQ419
  have z428 : T409.heap.size ≤ T419.heap.size := K419.1
  have N419 := Fr.app N409 Nq419
  have lt429 := own_alt f419_0.lt
  have Ec430 := (f409_0.keep K419)
  have om431 : ¬ @Eq Nat b a2_409 := by omega
  have Fc432 := (f409_1.keep K419 (ninS (own_ane om431) nin0))
  have Fc433 := (f409_2.keep K419 (ninS (own_ane om431) nin0))
  have Fc434 := (f409_3.keep K419 (ninS (own_ane om431) nin0))
  have Fc435 := (f409_4.keep K419 (ninS (own_ane om431) nin0))
  obtain ⟨fs, hr, hrun, hended, hW, hsame⟩ := X419.leave (v := none) (fun _ => rfl)
  have om436 : @LE.le Nat instLENat h0.size a2_409 := by omega
  refine ⟨_, _, X419.returnOut hx Bd.returns (hb hby d15_18) hr, hrun, hended, _, _, rfl, ?_, ⟨⟨_, rfl⟩, hW, hsame.mono (by decide) (by decide)⟩⟩
  show Qpsa01 Z b a ka cap cs x t kb ds G1 G3 h0 n0 _ T419.heap _
  exact ⟨a2_409, k2_409, rfl, N419, (((Keep.refl h0 [b]).trans K409 (allS (P := fun x_ => x_ ∈ ([b] : List Addr) ∨ h0.size ≤ x_) (Or.inl (by simp)) all0)).trans K419 (allS (P := fun x_ => x_ ∈ ([b] : List Addr) ∨ h0.size ≤ x_) (Or.inr (own_ale om436)) all0)), Ec430, Fc432, Fc433, Fc434, Fc435, f419_0, (by omega)⟩
def Qaps01 (Z : State) (b : Addr) (a : Addr) (ka : ClassId) (cap : Nat) (cs : List Int32) (x : Addr) (t : Addr) (kb : ClassId) (ds : List Int32) (G1 : Int32) (G3 : Value) (h0 : Heap) (n0 : Nat) (v : Option Value) (h : Heap) (L : List Loc) : Prop := ∃ (a2 : Addr), ∃ (k2 : ClassId), v = some (.ref b) ∧ Fr n0 L ∧ Keep h0 h [b] ∧ (Exa Z h b "java/lang/StringBuilder") ∧ (Fld Z h b "java/lang/AbstractStringBuilder" "value" "[B" (.ref a2)) ∧ (Fld Z h b "java/lang/AbstractStringBuilder" "coder" "B" (.int (1 : Int32))) ∧ (Fld Z h b "java/lang/AbstractStringBuilder" "count" "I" (.int (Int32.ofNat (cs ++ ds).length))) ∧ (Fld Z h b "java/lang/AbstractStringBuilder" "maybeLatin1" "Z" (.int (0 : Int32))) ∧ (Arv Z h a2 k2 .byte (Int32.ofNat (2 * cap)) (StrChars.Road.wideBytes (cs ++ ds)) (.int (0 : Int32))) ∧ (@LE.le Nat instLENat h0.size a2)
theorem ef_aps01 (m : MethodId) (x0 : Addr) (x1 : Addr) : entryFrame m #[(.ref x0), (.ref x1)] 3 = mkF m 0 #[sR x0, sR x1, sU] [] := by first | (simp [entryFrame, mkF, argsToLocals, Value.category]; done) | rfl
set_option maxRecDepth 65536 in
set_option maxHeartbeats 40000000 in
theorem aps01 (l : Launch) (Z : State) (a0 : Array Value) (hw : ∀ d ∈ tables_1, d.before a0 Z = true) (ws : List Jvm.Cond) (b : Addr) (a : Addr) (ka : ClassId) (cap : Nat) (cs : List Int32) (x : Addr) (t : Addr) (kb : ClassId) (ds : List Int32) (G1 : Int32) (G3 : Value) (h0 : Heap) (n0 : Nat) (Z0 : n0 ≤ h0.size) (q0 : Sta Z Z.heap "java/lang/String" "COMPACT_STRINGS" "Z" (.int G1)) (P5 : ¬ (G1 = (0 : Int32))) (q2 : (Old Z Z.heap.size h0 ∧ @LE.le Nat instLENat Z.heap.size n0)) (q3 : Sta Z Z.heap "jdk/internal/util/Preconditions" "SIOOBE_FORMATTER" "Ljava/util/function/BiFunction;" G3) (rG3 : G3.isRef = true) (q5 : Sta Z Z.heap "java/lang/StringUTF16" "$assertionsDisabled" "Z" (.int (1 : Int32))) (q6 : Sta Z Z.heap "java/lang/StringUTF16" "HI_BYTE_SHIFT" "I" (.int (0 : Int32))) (q7 : Sta Z Z.heap "java/lang/StringUTF16" "LO_BYTE_SHIFT" "I" (.int (8 : Int32))) (q8 : Exa Z h0 b "java/lang/StringBuilder") (q9 : Fld Z h0 b "java/lang/AbstractStringBuilder" "value" "[B" (.ref a)) (q10 : Fld Z h0 b "java/lang/AbstractStringBuilder" "coder" "B" (.int (0 : Int32))) (q11 : Fld Z h0 b "java/lang/AbstractStringBuilder" "count" "I" (.int (Int32.ofNat cs.length))) (q12 : Fld Z h0 b "java/lang/AbstractStringBuilder" "maybeLatin1" "Z" (.int (0 : Int32))) (q13 : Arv Z h0 a ka .byte (Int32.ofNat cap) (lb cs) (.int (0 : Int32))) (q14 : @LE.le Nat instLENat n0 a) (q15 : @LE.le Nat instLENat n0 b) (q16 : ¬ @Eq Nat a b) (hcap : cap ≤ 18) (q18 : Exa Z h0 x "java/lang/String") (q19 : Fld Z h0 x "java/lang/String" "value" "[B" (.ref t)) (q20 : Fld Z h0 x "java/lang/String" "coder" "B" (.int (1 : Int32))) (q21 : Arv Z h0 t kb .byte (Int32.ofNat (2 * ds.length)) (StrChars.Road.wideBytes ds) (.int (0 : Int32))) (q22 : ¬ @Eq Nat a x) (q23 : ¬ @Eq Nat a t) (q24 : ¬ @Eq Nat b x) (q25 : ¬ @Eq Nat b t) (hfit : cs.length + ds.length ≤ cap) (hlc : ∀ c ∈ cs, Lat c) :
    MetFree l y_24 (head1 (Jvm.Cond.code y_24 jdk_68_method_22_code 3 (some (.object "java/lang/AbstractStringBuilder")) :: ws) r_m19) (fun a_ U_ => a_ = #[(.ref b), (.ref x)] ∧ Z.Warmed39 U_.vm ∧ U_.heap = h0) (fun _ _ _ _ _ => True) (fun _ U_ o_ V_ => ∃ v_ L_, o_ = .returned v_ ∧ Qaps01 Z b a ka cap cs x t kb ds G1 G3 h0 n0 v_ V_.heap L_ ∧ FrameEnd U_ o_ V_ L_ r_m19.cells r_m19.slots) := by
  refine MetFree.of_bodySF (plainFor_of_name pn_2) hisR ?_
  intro p e s m args below meth c s₁ Bd hml0 hP hK
  obtain ⟨rfl, hZ, hh⟩ := hP
  have hx := Bd.exec
  have hby := Bd.bytes
  have hml : c.maxLocals = 3 := hml0
  have hown : s.vm.findClass "java/lang/AbstractStringBuilder" = some m.cls := findClass_of_methodNamed Bd.named
  have hnm := (name_of_methodNamed Bd.named Bd.method).1
  have X0 : Stand p l e r_m19 s m #[(.ref b), (.ref x)] below meth c s₁ [] 0 0 := Stand.of_body Bd
  have e0 : s₁.heap = h0 := by rw [← hh, Bd.state]; rfl
  have N0 := Fr.nil n0
  have Oo := q2.1
  have zo := q2.2
  have lt437 := own_alt q8.lt
  have lt438 := own_alt q9.lt
  have lt439 := own_alt q10.lt
  have lt440 := own_alt q11.lt
  have lt441 := own_alt q12.lt
  have lt442 := own_alt q13.lt
  have lt443 := own_alt q18.lt
  have lt444 := own_alt q19.lt
  have lt445 := own_alt q20.lt
  have lt446 := own_alt q21.lt
  refine Gl.go (A := s₁.setTop (entryFrame m #[(.ref b), (.ref x)] 3)) (P := fun o_ U_ => ∃ v_ L_, o_ = .returned v_ ∧ Qaps01 Z b a ka cap cs x t kb ds G1 G3 h0 n0 v_ U_.heap L_ ∧ FrameEnd s o_ U_ L_ r_m19.cells r_m19.slots) (fun t_ k_ => castTop (ef_aps01 m b x) k_) ?_
  show Gl p.tables e below _ (s₁.setTop (mkF m 0 #[sR b, sR x, sU] []))
  refine Gl.go (fun _ hr => zXS_aloadN X0.here hx rfl (hb hby d11_0) rfl rfl (zXT_ifnonnullYes X0.here hx rfl (pc0 := 1) (pc' := 9) rfl (hb hby d11_1) rfl (by decide) (by decide) (zXS_aloadN X0.here hx rfl (hb hby d11_9) rfl rfl hr))) ?_
  have zz447 : n0 ≤ h0.size := by omega
  refine gVirtualN Gl.cl (y := y_12) (z := y_12) (b := x) (argsL := []) (rest := []) (mc := 0) (ms := 0) X0 hx hZ hown (mvT hZ (tw hw 76 rfl)) (mvT hZ (tw hw 77 rfl)) (notFace_of_selects (args := #[]) (mvT hZ (tw hw 79 rfl))) (mvT hZ (tw hw 79 rfl)) (mvT hZ (tw hw 78 rfl)) (by decide) q18 (backOf (W := 0) (sl1 l Z a0 hw [] x t kb (StrChars.Road.wideBytes ds) ds G1 h0 n0 zz447 q0 (by assumption) ⟨Oo, (by omega)⟩ q18 q19 q20 q21 (by omega)) hZ (tw hw 80 rfl) (tw hw 7 rfl) (by decide) (by decide)) rfl (by rw [hml]; rfl) (lenOf pd_18 rfl) rfl (by exact Nat.le_of_eq rfl) (hb hby d11_10) rfl e0 (by decide) (by decide) ?_
  intro v447 T447 Lc447 hQ447 X447
  obtain ⟨rfl, Nq447, e447⟩ := hQ447
  have N447 := Fr.app N0 Nq447
  refine Gl.go (fun _ hr => zXS_istoreN X447.here hx rfl (hb hby d11_13) rfl (l' := #[sR b, sR x, sI (Int32.ofNat ds.length)]) rfl (zXS_aloadN X447.here hx rfl (hb hby d11_14) rfl rfl (zXS_aloadN X447.here hx rfl (hb hby d11_15) rfl rfl hr))) ?_
  refine gGetF (host := "") Gl.cl X447 hx hZ hown (Or.inl (tw hw 87 rfl)) Via.refl e447 q11 rfl rfl (hb hby d11_16) ?_
  intro T448 X448 e448
  refine Gl.go (fun _ hr => zXS_iloadN X448.here hx rfl (hb hby d11_19) rfl (zXS_iadd X448.here hx rfl (hb hby d11_20) rfl hr)) ?_
  show Gl p.tables e below _ (T448.setTop (mkF m 21 #[sR b, sR x, sI (Int32.ofNat ds.length)] [(.int ((Int32.ofNat cs.length) + (Int32.ofNat ds.length))), (.ref b)]))
  rw [own_add32]
  show Gl p.tables e below _ (T448.setTop (mkF m 21 #[sR b, sR x, sI (Int32.ofNat ds.length)] [(.int (Int32.ofNat (cs.length + ds.length))), (.ref b)]))
  have zz449 : n0 ≤ h0.size := by omega
  refine gPrivN Gl.cl (y := y_13) (b := b) (argsL := [(.int (Int32.ofNat (cs.length + ds.length)))]) (rest := []) (mc := 0) (ms := 0) X448 hx hZ hown (mvT hZ (tw hw 89 rfl)) (mvT hZ (tw hw 90 rfl)) (mvT hZ (tw hw 92 rfl)) (mvP hZ (tw hw 91 rfl)) (mvT hZ (tw hw 93 rfl)) (by decide) q8 (backOf (W := 0) (ens0 l Z a0 hw [] b a ka cap (lb cs) (cs.length + ds.length) h0 n0 zz449 q9 q10 q13 hfit hcap) hZ (tw hw 93 rfl) (tw hw 58 rfl) (by decide) (by decide)) rfl (by rw [hml]; rfl) (lenOf pd_19 rfl) rfl (by exact Nat.le_of_eq rfl) (hb hby d11_21) rfl e448 (by decide) (by decide) ?_
  intro v449 T449 Lc449 hQ449 X449
  obtain ⟨rfl, Nq449, e449⟩ := hQ449
  have N449 := Fr.app N447 Nq449
  refine Gl.go (fun _ hr => zXS_aloadN X449.here hx rfl (hb hby d11_24) rfl rfl (zXS_aloadN X449.here hx rfl (hb hby d11_25) rfl rfl hr)) ?_
  refine gGetF (host := "") Gl.cl X449 hx hZ hown (Or.inl (tw hw 87 rfl)) Via.refl e449 q11 rfl rfl (hb hby d11_26) ?_
  intro T450 X450 e450
  refine Gl.go (fun _ hr => zXS_aloadN X450.here hx rfl (hb hby d11_29) rfl rfl hr) ?_
  have zz451 : n0 ≤ h0.size := by omega
  refine gPrivN Gl.cl (y := y_23) (b := b) (argsL := [(.int (Int32.ofNat cs.length)), (.ref x)]) (rest := []) (mc := 1) (ms := 36) X450 hx hZ hown (mvT hZ (tw hw 94 rfl)) (mvT hZ (tw hw 95 rfl)) (mvT hZ (tw hw 97 rfl)) (mvP hZ (tw hw 96 rfl)) (mvT hZ (tw hw 98 rfl)) (by decide) q8 (backOf (W := 0) (psa01 l Z a0 hw [] b a ka cap cs x t kb ds G1 G3 h0 n0 zz451 q0 (by assumption) ⟨Oo, (by omega)⟩ q3 (by assumption) q5 q6 q7 q8 q9 q10 q11 q12 q13 (by omega) (by omega) (by omega) (by assumption) q18 q19 q20 q21 (by omega) (by omega) (by omega) (by omega) (by assumption) (by assumption)) hZ (tw hw 98 rfl) (tw hw 58 rfl) (by decide) (by decide)) rfl (by rw [hml]; rfl) (lenOf pd_20 rfl) rfl (by exact Nat.le_of_eq rfl) (hb hby d11_30) rfl e450 (by decide) (by decide) ?_
  intro v451 T451 Lc451 hQ451 X451
  obtain ⟨a2_451, k2_451, rfl, Nq451, K451, f451_0, f451_1, f451_2, f451_3, f451_4, f451_5, f451_6⟩ := hQ451
  have z452 : h0.size ≤ T451.heap.size := K451.1
  have N451 := Fr.app N449 Nq451
  have lt453 := own_alt f451_0.lt
  have lt454 := own_alt f451_1.lt
  have lt455 := own_alt f451_2.lt
  have lt456 := own_alt f451_3.lt
  have lt457 := own_alt f451_4.lt
  have lt458 := own_alt f451_5.lt
  refine Gl.go (fun _ hr => zXS_aloadN X451.here hx rfl (hb hby d11_33) rfl rfl (zXS_dup X451.here hx rfl (hb hby d11_34) rfl rfl hr)) ?_
  refine gGetF (host := "") Gl.cl X451 hx hZ hown (Or.inl (tw hw 87 rfl)) Via.refl (rfl : T451.heap = T451.heap) f451_3 rfl rfl (hb hby d11_35) ?_
  intro T459 X459 e459
  refine Gl.go (fun _ hr => zXS_iloadN X459.here hx rfl (hb hby d11_38) rfl (zXS_iadd X459.here hx rfl (hb hby d11_39) rfl hr)) ?_
  show Gl p.tables e below _ (T459.setTop (mkF m 40 #[sR b, sR x, sI (Int32.ofNat ds.length)] [(.int ((Int32.ofNat cs.length) + (Int32.ofNat ds.length))), (.ref b)]))
  rw [(show Int32.ofNat cs.length + Int32.ofNat ds.length = Int32.ofNat (cs ++ ds).length from by rw [own_add32, List.length_append])]
  show Gl p.tables e below _ (T459.setTop (mkF m 40 #[sR b, sR x, sI (Int32.ofNat ds.length)] [(.int (Int32.ofNat (cs ++ ds).length)), (.ref b)]))
  refine gPutF (host := "") Gl.cl X459 hx hZ hown (Or.inl (tw hw 87 rfl)) Via.refl e459 f451_3 f451_0 (Or.inl (tw hw 88 rfl)) (tw hw 49 rfl) (ty := .int) (by decide) rfl rfl rfl rfl (hb hby d11_40) ?_
  intro T460 h460 X460 e460 W460
  have z461 : T451.heap.size ≤ h460.size := (Keep.of_wr W460).1
  have Fw460 := f451_3.same W460
  have om462 : @LE.le Nat instLENat n0 b := by omega
  have N460 := Fr.snoc X460 N451 (own_ale om462)
  refine Gl.go (fun _ hr => zXS_aloadN X460.here hx rfl (hb hby d11_43) rfl rfl hr) ?_
  have Ec463 := (f451_0.wr W460)
  have Fc464 := (f451_1.other W460 (Or.inr (slot_ne (Or.inl (tw hw 63 rfl)) (Or.inl (tw hw 88 rfl)) (by decide) (t := (.array .byte)) (t' := .int) (by decide) (by decide))))
  have Fc465 := (f451_2.other W460 (Or.inr (slot_ne (Or.inl (tw hw 65 rfl)) (Or.inl (tw hw 88 rfl)) (by decide) (t := .byte) (t' := .int) (by decide) (by decide))))
  have Fc466 := (f451_4.other W460 (Or.inr (slot_ne (Or.inl (tw hw 247 rfl)) (Or.inl (tw hw 88 rfl)) (by decide) (t := .boolean) (t' := .int) (by decide) (by decide))))
  have om467 : ¬ @Eq Nat a2_451 b := by omega
  have Vc468 := (f451_5.other W460 (own_ane om467))
  obtain ⟨fs, hr, hrun, hended, hW, hsame⟩ := X460.leave (v := some (.ref b)) (fun h => by rw [Bd.returns] at h; cases h)
  refine ⟨_, _, retOut X460 hx Bd.returns rfl (Or.inr (Or.inr (Or.inr (Or.inr ⟨rfl, rfl, rfl⟩)))) (hb hby d11_44) hr, hrun, hended, _, _, rfl, ?_, ⟨⟨_, rfl⟩, hW, hsame.mono (by decide) (by decide)⟩⟩
  show Qaps01 Z b a ka cap cs x t kb ds G1 G3 h0 n0 _ T460.heap _
  rw [e460]
  exact ⟨a2_451, k2_451, rfl, N460, (((Keep.refl h0 [b]).trans K451 (allS (P := fun x_ => x_ ∈ ([b] : List Addr) ∨ h0.size ≤ x_) (Or.inl (by simp)) all0)).wr W460 (Or.inl (by simp))), Ec463, Fc464, Fc465, Fw460, Fc466, Vc468, (by omega)⟩
def Qsbs01 (Z : State) (b : Addr) (a : Addr) (ka : ClassId) (cap : Nat) (cs : List Int32) (x : Addr) (t : Addr) (kb : ClassId) (ds : List Int32) (G1 : Int32) (G3 : Value) (h0 : Heap) (n0 : Nat) (v : Option Value) (h : Heap) (L : List Loc) : Prop := ∃ (a2 : Addr), ∃ (k2 : ClassId), v = some (.ref b) ∧ Fr n0 L ∧ Keep h0 h [b] ∧ (Exa Z h b "java/lang/StringBuilder") ∧ (Fld Z h b "java/lang/AbstractStringBuilder" "value" "[B" (.ref a2)) ∧ (Fld Z h b "java/lang/AbstractStringBuilder" "coder" "B" (.int (1 : Int32))) ∧ (Fld Z h b "java/lang/AbstractStringBuilder" "count" "I" (.int (Int32.ofNat (cs ++ ds).length))) ∧ (Fld Z h b "java/lang/AbstractStringBuilder" "maybeLatin1" "Z" (.int (0 : Int32))) ∧ (Arv Z h a2 k2 .byte (Int32.ofNat (2 * cap)) (StrChars.Road.wideBytes (cs ++ ds)) (.int (0 : Int32))) ∧ (@LE.le Nat instLENat h0.size a2)
theorem ef_sbs01 (m : MethodId) (x0 : Addr) (x1 : Addr) : entryFrame m #[(.ref x0), (.ref x1)] 2 = mkF m 0 #[sR x0, sR x1] [] := by first | (simp [entryFrame, mkF, argsToLocals, Value.category]; done) | rfl
set_option maxRecDepth 65536 in
set_option maxHeartbeats 40000000 in
theorem sbs01 (l : Launch) (Z : State) (a0 : Array Value) (hw : ∀ d ∈ tables_1, d.before a0 Z = true) (ws : List Jvm.Cond) (b : Addr) (a : Addr) (ka : ClassId) (cap : Nat) (cs : List Int32) (x : Addr) (t : Addr) (kb : ClassId) (ds : List Int32) (G1 : Int32) (G3 : Value) (h0 : Heap) (n0 : Nat) (Z0 : n0 ≤ h0.size) (q0 : Sta Z Z.heap "java/lang/String" "COMPACT_STRINGS" "Z" (.int G1)) (P5 : ¬ (G1 = (0 : Int32))) (q2 : (Old Z Z.heap.size h0 ∧ @LE.le Nat instLENat Z.heap.size n0)) (q3 : Sta Z Z.heap "jdk/internal/util/Preconditions" "SIOOBE_FORMATTER" "Ljava/util/function/BiFunction;" G3) (rG3 : G3.isRef = true) (q5 : Sta Z Z.heap "java/lang/StringUTF16" "$assertionsDisabled" "Z" (.int (1 : Int32))) (q6 : Sta Z Z.heap "java/lang/StringUTF16" "HI_BYTE_SHIFT" "I" (.int (0 : Int32))) (q7 : Sta Z Z.heap "java/lang/StringUTF16" "LO_BYTE_SHIFT" "I" (.int (8 : Int32))) (q8 : Exa Z h0 b "java/lang/StringBuilder") (q9 : Fld Z h0 b "java/lang/AbstractStringBuilder" "value" "[B" (.ref a)) (q10 : Fld Z h0 b "java/lang/AbstractStringBuilder" "coder" "B" (.int (0 : Int32))) (q11 : Fld Z h0 b "java/lang/AbstractStringBuilder" "count" "I" (.int (Int32.ofNat cs.length))) (q12 : Fld Z h0 b "java/lang/AbstractStringBuilder" "maybeLatin1" "Z" (.int (0 : Int32))) (q13 : Arv Z h0 a ka .byte (Int32.ofNat cap) (lb cs) (.int (0 : Int32))) (q14 : @LE.le Nat instLENat n0 a) (q15 : @LE.le Nat instLENat n0 b) (q16 : ¬ @Eq Nat a b) (hcap : cap ≤ 18) (q18 : Exa Z h0 x "java/lang/String") (q19 : Fld Z h0 x "java/lang/String" "value" "[B" (.ref t)) (q20 : Fld Z h0 x "java/lang/String" "coder" "B" (.int (1 : Int32))) (q21 : Arv Z h0 t kb .byte (Int32.ofNat (2 * ds.length)) (StrChars.Road.wideBytes ds) (.int (0 : Int32))) (q22 : ¬ @Eq Nat a x) (q23 : ¬ @Eq Nat a t) (q24 : ¬ @Eq Nat b x) (q25 : ¬ @Eq Nat b t) (hfit : cs.length + ds.length ≤ cap) (hlc : ∀ c ∈ cs, Lat c) :
    MetFree l y_25 (head1 (Jvm.Cond.code y_25 jdk_67_method_7_code 2 (some (.object "java/lang/StringBuilder")) :: ws) r_m20) (fun a_ U_ => a_ = #[(.ref b), (.ref x)] ∧ Z.Warmed39 U_.vm ∧ U_.heap = h0) (fun _ _ _ _ _ => True) (fun _ U_ o_ V_ => ∃ v_ L_, o_ = .returned v_ ∧ Qsbs01 Z b a ka cap cs x t kb ds G1 G3 h0 n0 v_ V_.heap L_ ∧ FrameEnd U_ o_ V_ L_ r_m20.cells r_m20.slots) := by
  refine MetFree.of_bodySF (plainFor_of_name pn_5) hisR ?_
  intro p e s m args below meth c s₁ Bd hml0 hP hK
  obtain ⟨rfl, hZ, hh⟩ := hP
  have hx := Bd.exec
  have hby := Bd.bytes
  have hml : c.maxLocals = 2 := hml0
  have hown : s.vm.findClass "java/lang/StringBuilder" = some m.cls := findClass_of_methodNamed Bd.named
  have hnm := (name_of_methodNamed Bd.named Bd.method).1
  have X0 : Stand p l e r_m20 s m #[(.ref b), (.ref x)] below meth c s₁ [] 0 0 := Stand.of_body Bd
  have e0 : s₁.heap = h0 := by rw [← hh, Bd.state]; rfl
  have N0 := Fr.nil n0
  have Oo := q2.1
  have zo := q2.2
  have lt469 := own_alt q8.lt
  have lt470 := own_alt q9.lt
  have lt471 := own_alt q10.lt
  have lt472 := own_alt q11.lt
  have lt473 := own_alt q12.lt
  have lt474 := own_alt q13.lt
  have lt475 := own_alt q18.lt
  have lt476 := own_alt q19.lt
  have lt477 := own_alt q20.lt
  have lt478 := own_alt q21.lt
  refine Gl.go (A := s₁.setTop (entryFrame m #[(.ref b), (.ref x)] 2)) (P := fun o_ U_ => ∃ v_ L_, o_ = .returned v_ ∧ Qsbs01 Z b a ka cap cs x t kb ds G1 G3 h0 n0 v_ U_.heap L_ ∧ FrameEnd s o_ U_ L_ r_m20.cells r_m20.slots) (fun t_ k_ => castTop (ef_sbs01 m b x) k_) ?_
  show Gl p.tables e below _ (s₁.setTop (mkF m 0 #[sR b, sR x] []))
  refine Gl.go (fun _ hr => zXS_aloadN X0.here hx rfl (hb hby d10_0) rfl rfl (zXS_aloadN X0.here hx rfl (hb hby d10_1) rfl rfl hr)) ?_
  have zz479 : n0 ≤ h0.size := by omega
  refine gSuperN Gl.cl (y := y_24) (b := b) (argsL := [(.ref x)]) (rest := []) (mc := 1) (ms := 36) X0 hx hZ hown (tw hw 71 rfl) (own_same (y := y_24) (tw hw 74 rfl) (tw hw 92 rfl) rfl (by decide)) (tw hw 72 rfl) (tw hw 73 rfl) (by decide) (tw hw 75 rfl) (Ins.self q8) (backOf (W := 0) (aps01 l Z a0 hw [] b a ka cap cs x t kb ds G1 G3 h0 n0 zz479 q0 (by assumption) ⟨Oo, (by omega)⟩ q3 (by assumption) q5 q6 q7 q8 q9 q10 q11 q12 q13 (by omega) (by omega) (by omega) (by assumption) q18 q19 q20 q21 (by omega) (by omega) (by omega) (by omega) (by assumption) (by assumption)) hZ (tw hw 75 rfl) (tw hw 58 rfl) (by decide) (by decide)) rfl (by rw [hml]; rfl) (lenOf pd_21 rfl) rfl (by exact Nat.le_of_eq rfl) (hb hby d10_2) rfl e0 (by decide) (by decide) ?_
  intro v479 T479 Lc479 hQ479 X479
  obtain ⟨a2_479, k2_479, rfl, Nq479, K479, f479_0, f479_1, f479_2, f479_3, f479_4, f479_5, f479_6⟩ := hQ479
  have z480 : h0.size ≤ T479.heap.size := K479.1
  have N479 := Fr.app N0 Nq479
  have lt481 := own_alt f479_0.lt
  have lt482 := own_alt f479_1.lt
  have lt483 := own_alt f479_2.lt
  have lt484 := own_alt f479_3.lt
  have lt485 := own_alt f479_4.lt
  have lt486 := own_alt f479_5.lt
  refine Gl.go (fun _ hr => zXT_pop X479.here hx rfl (hb hby d10_5) rfl rfl (zXS_aloadN X479.here hx rfl (hb hby d10_6) rfl rfl hr)) ?_
  obtain ⟨fs, hr, hrun, hended, hW, hsame⟩ := X479.leave (v := some (.ref b)) (fun h => by rw [Bd.returns] at h; cases h)
  refine ⟨_, _, retOut X479 hx Bd.returns rfl (Or.inr (Or.inr (Or.inr (Or.inr ⟨rfl, rfl, rfl⟩)))) (hb hby d10_7) hr, hrun, hended, _, _, rfl, ?_, ⟨⟨_, rfl⟩, hW, hsame.mono (by decide) (by decide)⟩⟩
  show Qsbs01 Z b a ka cap cs x t kb ds G1 G3 h0 n0 _ T479.heap _
  exact ⟨a2_479, k2_479, rfl, N479, ((Keep.refl h0 [b]).trans K479 (allS (P := fun x_ => x_ ∈ ([b] : List Addr) ∨ h0.size ≤ x_) (Or.inl (by simp)) all0)), f479_0, f479_1, f479_2, f479_3, f479_4, f479_5, (by omega)⟩
def Qpsa10 (Z : State) (b : Addr) (a : Addr) (ka : ClassId) (cap : Nat) (cs : List Int32) (x : Addr) (t : Addr) (kb : ClassId) (ds : List Int32) (G1 : Int32) (G3 : Value) (h0 : Heap) (n0 : Nat) (v : Option Value) (h : Heap) (L : List Loc) : Prop := v = none ∧ Fr n0 L ∧ Keep h0 h [a] ∧ (Arv Z h a ka .byte (Int32.ofNat (2 * cap)) (StrChars.Road.wideBytes (cs ++ ds)) (.int (0 : Int32)))
theorem ef_psa10 (m : MethodId) (x0 : Addr) (x1 : Int32) (x2 : Addr) : entryFrame m #[(.ref x0), (.int x1), (.ref x2)] 3 = mkF m 0 #[sR x0, sI x1, sR x2] [] := by first | (simp [entryFrame, mkF, argsToLocals, Value.category]; done) | rfl
set_option maxRecDepth 65536 in
set_option maxHeartbeats 40000000 in
theorem psa10 (l : Launch) (Z : State) (a0 : Array Value) (hw : ∀ d ∈ tables_1, d.before a0 Z = true) (ws : List Jvm.Cond) (b : Addr) (a : Addr) (ka : ClassId) (cap : Nat) (cs : List Int32) (x : Addr) (t : Addr) (kb : ClassId) (ds : List Int32) (G1 : Int32) (G3 : Value) (h0 : Heap) (n0 : Nat) (Z0 : n0 ≤ h0.size) (q0 : Sta Z Z.heap "java/lang/String" "COMPACT_STRINGS" "Z" (.int G1)) (P5 : ¬ (G1 = (0 : Int32))) (q2 : (Old Z Z.heap.size h0 ∧ @LE.le Nat instLENat Z.heap.size n0)) (q3 : Sta Z Z.heap "jdk/internal/util/Preconditions" "SIOOBE_FORMATTER" "Ljava/util/function/BiFunction;" G3) (rG3 : G3.isRef = true) (q5 : Sta Z Z.heap "java/lang/StringUTF16" "$assertionsDisabled" "Z" (.int (1 : Int32))) (q6 : Sta Z Z.heap "java/lang/StringUTF16" "HI_BYTE_SHIFT" "I" (.int (0 : Int32))) (q7 : Sta Z Z.heap "java/lang/StringUTF16" "LO_BYTE_SHIFT" "I" (.int (8 : Int32))) (q8 : Exa Z h0 b "java/lang/StringBuilder") (q9 : Fld Z h0 b "java/lang/AbstractStringBuilder" "value" "[B" (.ref a)) (q10 : Fld Z h0 b "java/lang/AbstractStringBuilder" "coder" "B" (.int (1 : Int32))) (q11 : Fld Z h0 b "java/lang/AbstractStringBuilder" "count" "I" (.int (Int32.ofNat cs.length))) (q12 : Fld Z h0 b "java/lang/AbstractStringBuilder" "maybeLatin1" "Z" (.int (0 : Int32))) (q13 : Arv Z h0 a ka .byte (Int32.ofNat (2 * cap)) (StrChars.Road.wideBytes cs) (.int (0 : Int32))) (q14 : @LE.le Nat instLENat n0 a) (q15 : @LE.le Nat instLENat n0 b) (q16 : ¬ @Eq Nat a b) (hcap : cap ≤ 18) (q18 : Exa Z h0 x "java/lang/String") (q19 : Fld Z h0 x "java/lang/String" "value" "[B" (.ref t)) (q20 : Fld Z h0 x "java/lang/String" "coder" "B" (.int (0 : Int32))) (q21 : Arv Z h0 t kb .byte (Int32.ofNat ds.length) (lb ds) (.int (0 : Int32))) (q22 : ¬ @Eq Nat a x) (q23 : ¬ @Eq Nat a t) (q24 : ¬ @Eq Nat b x) (q25 : ¬ @Eq Nat b t) (hfit : cs.length + ds.length ≤ cap) (hld : ∀ c ∈ ds, Lat c) :
    MetFree l y_23 (head1 (Jvm.Cond.code y_23 jdk_68_method_73_code 3 none :: ws) r_m15) (fun a_ U_ => a_ = #[(.ref b), (.int (Int32.ofNat cs.length)), (.ref x)] ∧ Z.Warmed39 U_.vm ∧ U_.heap = h0) (fun _ _ _ _ _ => True) (fun _ U_ o_ V_ => ∃ v_ L_, o_ = .returned v_ ∧ Qpsa10 Z b a ka cap cs x t kb ds G1 G3 h0 n0 v_ V_.heap L_ ∧ FrameEnd U_ o_ V_ L_ r_m15.cells r_m15.slots) := by
  refine MetFree.of_bodySF (plainFor_of_name pn_2) hisR ?_
  intro p e s m args below meth c s₁ Bd hml0 hP hK
  obtain ⟨rfl, hZ, hh⟩ := hP
  have hx := Bd.exec
  have hby := Bd.bytes
  have hml : c.maxLocals = 3 := hml0
  have hown : s.vm.findClass "java/lang/AbstractStringBuilder" = some m.cls := findClass_of_methodNamed Bd.named
  have hnm := (name_of_methodNamed Bd.named Bd.method).1
  have X0 : Stand p l e r_m15 s m #[(.ref b), (.int (Int32.ofNat cs.length)), (.ref x)] below meth c s₁ [] 0 0 := Stand.of_body Bd
  have e0 : s₁.heap = h0 := by rw [← hh, Bd.state]; rfl
  have N0 := Fr.nil n0
  have Oo := q2.1
  have zo := q2.2
  have lt487 := own_alt q8.lt
  have lt488 := own_alt q9.lt
  have lt489 := own_alt q10.lt
  have lt490 := own_alt q11.lt
  have lt491 := own_alt q12.lt
  have lt492 := own_alt q13.lt
  have lt493 := own_alt q18.lt
  have lt494 := own_alt q19.lt
  have lt495 := own_alt q20.lt
  have lt496 := own_alt q21.lt
  refine Gl.go (A := s₁.setTop (entryFrame m #[(.ref b), (.int (Int32.ofNat cs.length)), (.ref x)] 3)) (P := fun o_ U_ => ∃ v_ L_, o_ = .returned v_ ∧ Qpsa10 Z b a ka cap cs x t kb ds G1 G3 h0 n0 v_ U_.heap L_ ∧ FrameEnd s o_ U_ L_ r_m15.cells r_m15.slots) (fun t_ k_ => castTop (ef_psa10 m b (Int32.ofNat cs.length) x) k_) ?_
  show Gl p.tables e below _ (s₁.setTop (mkF m 0 #[sR b, sI (Int32.ofNat cs.length), sR x] []))
  refine Gl.go (fun _ hr => zXS_aloadN X0.here hx rfl (hb hby d15_0) rfl rfl (zXS_aloadN X0.here hx rfl (hb hby d15_1) rfl rfl hr)) ?_
  have zz497 : n0 ≤ h0.size := by omega
  refine gPrivN Gl.cl (y := y_21) (b := b) (argsL := [(.ref x)]) (rest := []) (mc := 0) (ms := 0) X0 hx hZ hown (mvT hZ (tw hw 99 rfl)) (mvT hZ (tw hw 100 rfl)) (mvT hZ (tw hw 102 rfl)) (mvP hZ (tw hw 101 rfl)) (mvT hZ (tw hw 103 rfl)) (by decide) q8 (backOf (W := 0) (inf10 l Z a0 hw [] b x G1 h0 n0 zz497 q0 (by assumption) ⟨Oo, (by omega)⟩ q8 q10 q18 q20) hZ (tw hw 103 rfl) (tw hw 58 rfl) (by decide) (by decide)) rfl (by rw [hml]; rfl) (lenOf pd_16 rfl) rfl (by exact Nat.le_of_eq rfl) (hb hby d15_2) rfl e0 (by decide) (by decide) ?_
  intro v497 T497 Lc497 hQ497 X497
  obtain ⟨rfl, Nq497, e497⟩ := hQ497
  have N497 := Fr.app N0 Nq497
  refine Gl.go (fun _ hr => zXS_aloadN X497.here hx rfl (hb hby d15_5) rfl rfl (zXS_aloadN X497.here hx rfl (hb hby d15_6) rfl rfl hr)) ?_
  refine gGetF (host := "") Gl.cl X497 hx hZ hown (Or.inl (tw hw 62 rfl)) Via.refl e497 q9 rfl rfl (hb hby d15_7) ?_
  intro T498 X498 e498
  refine Gl.go (fun _ hr => zXS_iloadN X498.here hx rfl (hb hby d15_10) rfl (zXS_aloadN X498.here hx rfl (hb hby d15_11) rfl rfl hr)) ?_
  refine gGetF (host := "") Gl.cl X498 hx hZ hown (Or.inl (tw hw 64 rfl)) Via.refl e498 q10 rfl rfl (hb hby d15_12) ?_
  intro T499 X499 e499
  have zz500 : n0 ≤ h0.size := by omega
  refine gVirtualN Gl.cl (y := y_22) (z := y_22) (b := x) (argsL := [(.ref a), (.int (Int32.ofNat cs.length)), (.int (1 : Int32))]) (rest := []) (mc := 0) (ms := 0) X499 hx hZ hown (mvT hZ (tw hw 105 rfl)) (mvT hZ (tw hw 106 rfl)) (notFace_of_selects (args := #[]) (mvT hZ (tw hw 108 rfl))) (mvT hZ (tw hw 108 rfl)) (mvT hZ (tw hw 107 rfl)) (by decide) q18 (backOf (W := 0) (gb10 l Z a0 hw [] x t kb ds a ka cap cs G1 G3 h0 n0 zz500 q0 (by assumption) ⟨Oo, (by omega)⟩ q3 (by assumption) q5 q6 q7 q18 q19 q20 q21 q13 (by omega) (by omega) (by omega) (by assumption) (by assumption) (by assumption)) hZ (tw hw 109 rfl) (tw hw 7 rfl) (by decide) (by decide)) rfl (by rw [hml]; rfl) (lenOf pd_17 rfl) rfl (by exact Nat.le_of_eq rfl) (hb hby d15_15) rfl e499 (by decide) (by decide) ?_
  intro v500 T500 Lc500 hQ500 X500
  obtain ⟨rfl, Nq500, K500, f500_0⟩ := hQ500
  have z501 : h0.size ≤ T500.heap.size := K500.1
  have N500 := Fr.app N497 Nq500
  have lt502 := own_alt f500_0.lt
  obtain ⟨fs, hr, hrun, hended, hW, hsame⟩ := X500.leave (v := none) (fun _ => rfl)
  refine ⟨_, _, X500.returnOut hx Bd.returns (hb hby d15_18) hr, hrun, hended, _, _, rfl, ?_, ⟨⟨_, rfl⟩, hW, hsame.mono (by decide) (by decide)⟩⟩
  show Qpsa10 Z b a ka cap cs x t kb ds G1 G3 h0 n0 _ T500.heap _
  exact ⟨rfl, N500, ((Keep.refl h0 [a]).trans K500 (allS (P := fun x_ => x_ ∈ ([a] : List Addr) ∨ h0.size ≤ x_) (Or.inl (by simp)) all0)), f500_0⟩
def Qaps10 (Z : State) (b : Addr) (a : Addr) (ka : ClassId) (cap : Nat) (cs : List Int32) (x : Addr) (t : Addr) (kb : ClassId) (ds : List Int32) (G1 : Int32) (G3 : Value) (h0 : Heap) (n0 : Nat) (v : Option Value) (h : Heap) (L : List Loc) : Prop := v = some (.ref b) ∧ Fr n0 L ∧ Keep h0 h [b, a] ∧ (Exa Z h b "java/lang/StringBuilder") ∧ (Fld Z h b "java/lang/AbstractStringBuilder" "value" "[B" (.ref a)) ∧ (Fld Z h b "java/lang/AbstractStringBuilder" "coder" "B" (.int (1 : Int32))) ∧ (Fld Z h b "java/lang/AbstractStringBuilder" "count" "I" (.int (Int32.ofNat (cs ++ ds).length))) ∧ (Fld Z h b "java/lang/AbstractStringBuilder" "maybeLatin1" "Z" (.int (0 : Int32))) ∧ (Arv Z h a ka .byte (Int32.ofNat (2 * cap)) (StrChars.Road.wideBytes (cs ++ ds)) (.int (0 : Int32)))
theorem ef_aps10 (m : MethodId) (x0 : Addr) (x1 : Addr) : entryFrame m #[(.ref x0), (.ref x1)] 3 = mkF m 0 #[sR x0, sR x1, sU] [] := by first | (simp [entryFrame, mkF, argsToLocals, Value.category]; done) | rfl
set_option maxRecDepth 65536 in
set_option maxHeartbeats 40000000 in
theorem aps10 (l : Launch) (Z : State) (a0 : Array Value) (hw : ∀ d ∈ tables_1, d.before a0 Z = true) (ws : List Jvm.Cond) (b : Addr) (a : Addr) (ka : ClassId) (cap : Nat) (cs : List Int32) (x : Addr) (t : Addr) (kb : ClassId) (ds : List Int32) (G1 : Int32) (G3 : Value) (h0 : Heap) (n0 : Nat) (Z0 : n0 ≤ h0.size) (q0 : Sta Z Z.heap "java/lang/String" "COMPACT_STRINGS" "Z" (.int G1)) (P5 : ¬ (G1 = (0 : Int32))) (q2 : (Old Z Z.heap.size h0 ∧ @LE.le Nat instLENat Z.heap.size n0)) (q3 : Sta Z Z.heap "jdk/internal/util/Preconditions" "SIOOBE_FORMATTER" "Ljava/util/function/BiFunction;" G3) (rG3 : G3.isRef = true) (q5 : Sta Z Z.heap "java/lang/StringUTF16" "$assertionsDisabled" "Z" (.int (1 : Int32))) (q6 : Sta Z Z.heap "java/lang/StringUTF16" "HI_BYTE_SHIFT" "I" (.int (0 : Int32))) (q7 : Sta Z Z.heap "java/lang/StringUTF16" "LO_BYTE_SHIFT" "I" (.int (8 : Int32))) (q8 : Exa Z h0 b "java/lang/StringBuilder") (q9 : Fld Z h0 b "java/lang/AbstractStringBuilder" "value" "[B" (.ref a)) (q10 : Fld Z h0 b "java/lang/AbstractStringBuilder" "coder" "B" (.int (1 : Int32))) (q11 : Fld Z h0 b "java/lang/AbstractStringBuilder" "count" "I" (.int (Int32.ofNat cs.length))) (q12 : Fld Z h0 b "java/lang/AbstractStringBuilder" "maybeLatin1" "Z" (.int (0 : Int32))) (q13 : Arv Z h0 a ka .byte (Int32.ofNat (2 * cap)) (StrChars.Road.wideBytes cs) (.int (0 : Int32))) (q14 : @LE.le Nat instLENat n0 a) (q15 : @LE.le Nat instLENat n0 b) (q16 : ¬ @Eq Nat a b) (hcap : cap ≤ 18) (q18 : Exa Z h0 x "java/lang/String") (q19 : Fld Z h0 x "java/lang/String" "value" "[B" (.ref t)) (q20 : Fld Z h0 x "java/lang/String" "coder" "B" (.int (0 : Int32))) (q21 : Arv Z h0 t kb .byte (Int32.ofNat ds.length) (lb ds) (.int (0 : Int32))) (q22 : ¬ @Eq Nat a x) (q23 : ¬ @Eq Nat a t) (q24 : ¬ @Eq Nat b x) (q25 : ¬ @Eq Nat b t) (hfit : cs.length + ds.length ≤ cap) (hld : ∀ c ∈ ds, Lat c) :
    MetFree l y_24 (head1 (Jvm.Cond.code y_24 jdk_68_method_22_code 3 (some (.object "java/lang/AbstractStringBuilder")) :: ws) r_m16) (fun a_ U_ => a_ = #[(.ref b), (.ref x)] ∧ Z.Warmed39 U_.vm ∧ U_.heap = h0) (fun _ _ _ _ _ => True) (fun _ U_ o_ V_ => ∃ v_ L_, o_ = .returned v_ ∧ Qaps10 Z b a ka cap cs x t kb ds G1 G3 h0 n0 v_ V_.heap L_ ∧ FrameEnd U_ o_ V_ L_ r_m16.cells r_m16.slots) := by
  refine MetFree.of_bodySF (plainFor_of_name pn_2) hisR ?_
  intro p e s m args below meth c s₁ Bd hml0 hP hK
  obtain ⟨rfl, hZ, hh⟩ := hP
  have hx := Bd.exec
  have hby := Bd.bytes
  have hml : c.maxLocals = 3 := hml0
  have hown : s.vm.findClass "java/lang/AbstractStringBuilder" = some m.cls := findClass_of_methodNamed Bd.named
  have hnm := (name_of_methodNamed Bd.named Bd.method).1
  have X0 : Stand p l e r_m16 s m #[(.ref b), (.ref x)] below meth c s₁ [] 0 0 := Stand.of_body Bd
  have e0 : s₁.heap = h0 := by rw [← hh, Bd.state]; rfl
  have N0 := Fr.nil n0
  have Oo := q2.1
  have zo := q2.2
  have lt503 := own_alt q8.lt
  have lt504 := own_alt q9.lt
  have lt505 := own_alt q10.lt
  have lt506 := own_alt q11.lt
  have lt507 := own_alt q12.lt
  have lt508 := own_alt q13.lt
  have lt509 := own_alt q18.lt
  have lt510 := own_alt q19.lt
  have lt511 := own_alt q20.lt
  have lt512 := own_alt q21.lt
  refine Gl.go (A := s₁.setTop (entryFrame m #[(.ref b), (.ref x)] 3)) (P := fun o_ U_ => ∃ v_ L_, o_ = .returned v_ ∧ Qaps10 Z b a ka cap cs x t kb ds G1 G3 h0 n0 v_ U_.heap L_ ∧ FrameEnd s o_ U_ L_ r_m16.cells r_m16.slots) (fun t_ k_ => castTop (ef_aps10 m b x) k_) ?_
  show Gl p.tables e below _ (s₁.setTop (mkF m 0 #[sR b, sR x, sU] []))
  refine Gl.go (fun _ hr => zXS_aloadN X0.here hx rfl (hb hby d11_0) rfl rfl (zXT_ifnonnullYes X0.here hx rfl (pc0 := 1) (pc' := 9) rfl (hb hby d11_1) rfl (by decide) (by decide) (zXS_aloadN X0.here hx rfl (hb hby d11_9) rfl rfl hr))) ?_
  have zz513 : n0 ≤ h0.size := by omega
  refine gVirtualN Gl.cl (y := y_12) (z := y_12) (b := x) (argsL := []) (rest := []) (mc := 0) (ms := 0) X0 hx hZ hown (mvT hZ (tw hw 76 rfl)) (mvT hZ (tw hw 77 rfl)) (notFace_of_selects (args := #[]) (mvT hZ (tw hw 79 rfl))) (mvT hZ (tw hw 79 rfl)) (mvT hZ (tw hw 78 rfl)) (by decide) q18 (backOf (W := 0) (sl0 l Z a0 hw [] x t kb (lb ds) ds G1 h0 n0 zz513 q0 (by assumption) ⟨Oo, (by omega)⟩ q18 q19 q20 q21 (by omega)) hZ (tw hw 80 rfl) (tw hw 7 rfl) (by decide) (by decide)) rfl (by rw [hml]; rfl) (lenOf pd_18 rfl) rfl (by exact Nat.le_of_eq rfl) (hb hby d11_10) rfl e0 (by decide) (by decide) ?_
  intro v513 T513 Lc513 hQ513 X513
  obtain ⟨rfl, Nq513, e513⟩ := hQ513
  have N513 := Fr.app N0 Nq513
  refine Gl.go (fun _ hr => zXS_istoreN X513.here hx rfl (hb hby d11_13) rfl (l' := #[sR b, sR x, sI (Int32.ofNat ds.length)]) rfl (zXS_aloadN X513.here hx rfl (hb hby d11_14) rfl rfl (zXS_aloadN X513.here hx rfl (hb hby d11_15) rfl rfl hr))) ?_
  refine gGetF (host := "") Gl.cl X513 hx hZ hown (Or.inl (tw hw 87 rfl)) Via.refl e513 q11 rfl rfl (hb hby d11_16) ?_
  intro T514 X514 e514
  refine Gl.go (fun _ hr => zXS_iloadN X514.here hx rfl (hb hby d11_19) rfl (zXS_iadd X514.here hx rfl (hb hby d11_20) rfl hr)) ?_
  show Gl p.tables e below _ (T514.setTop (mkF m 21 #[sR b, sR x, sI (Int32.ofNat ds.length)] [(.int ((Int32.ofNat cs.length) + (Int32.ofNat ds.length))), (.ref b)]))
  rw [own_add32]
  show Gl p.tables e below _ (T514.setTop (mkF m 21 #[sR b, sR x, sI (Int32.ofNat ds.length)] [(.int (Int32.ofNat (cs.length + ds.length))), (.ref b)]))
  have zz515 : n0 ≤ h0.size := by omega
  refine gPrivN Gl.cl (y := y_13) (b := b) (argsL := [(.int (Int32.ofNat (cs.length + ds.length)))]) (rest := []) (mc := 0) (ms := 0) X514 hx hZ hown (mvT hZ (tw hw 89 rfl)) (mvT hZ (tw hw 90 rfl)) (mvT hZ (tw hw 92 rfl)) (mvP hZ (tw hw 91 rfl)) (mvT hZ (tw hw 93 rfl)) (by decide) q8 (backOf (W := 0) (ens1 l Z a0 hw [] b a ka cap (StrChars.Road.wideBytes cs) (cs.length + ds.length) h0 n0 zz515 q9 q10 q13 hfit hcap) hZ (tw hw 93 rfl) (tw hw 58 rfl) (by decide) (by decide)) rfl (by rw [hml]; rfl) (lenOf pd_19 rfl) rfl (by exact Nat.le_of_eq rfl) (hb hby d11_21) rfl e514 (by decide) (by decide) ?_
  intro v515 T515 Lc515 hQ515 X515
  obtain ⟨rfl, Nq515, e515⟩ := hQ515
  have N515 := Fr.app N513 Nq515
  refine Gl.go (fun _ hr => zXS_aloadN X515.here hx rfl (hb hby d11_24) rfl rfl (zXS_aloadN X515.here hx rfl (hb hby d11_25) rfl rfl hr)) ?_
  refine gGetF (host := "") Gl.cl X515 hx hZ hown (Or.inl (tw hw 87 rfl)) Via.refl e515 q11 rfl rfl (hb hby d11_26) ?_
  intro T516 X516 e516
  refine Gl.go (fun _ hr => zXS_aloadN X516.here hx rfl (hb hby d11_29) rfl rfl hr) ?_
  have zz517 : n0 ≤ h0.size := by omega
  refine gPrivN Gl.cl (y := y_23) (b := b) (argsL := [(.int (Int32.ofNat cs.length)), (.ref x)]) (rest := []) (mc := 0) (ms := 0) X516 hx hZ hown (mvT hZ (tw hw 94 rfl)) (mvT hZ (tw hw 95 rfl)) (mvT hZ (tw hw 97 rfl)) (mvP hZ (tw hw 96 rfl)) (mvT hZ (tw hw 98 rfl)) (by decide) q8 (backOf (W := 0) (psa10 l Z a0 hw [] b a ka cap cs x t kb ds G1 G3 h0 n0 zz517 q0 (by assumption) ⟨Oo, (by omega)⟩ q3 (by assumption) q5 q6 q7 q8 q9 q10 q11 q12 q13 (by omega) (by omega) (by omega) (by assumption) q18 q19 q20 q21 (by omega) (by omega) (by omega) (by omega) (by assumption) (by assumption)) hZ (tw hw 98 rfl) (tw hw 58 rfl) (by decide) (by decide)) rfl (by rw [hml]; rfl) (lenOf pd_20 rfl) rfl (by exact Nat.le_of_eq rfl) (hb hby d11_30) rfl e516 (by decide) (by decide) ?_
  intro v517 T517 Lc517 hQ517 X517
  obtain ⟨rfl, Nq517, K517, f517_0⟩ := hQ517
  have z518 : h0.size ≤ T517.heap.size := K517.1
  have N517 := Fr.app N515 Nq517
  have lt519 := own_alt f517_0.lt
  refine Gl.go (fun _ hr => zXS_aloadN X517.here hx rfl (hb hby d11_33) rfl rfl (zXS_dup X517.here hx rfl (hb hby d11_34) rfl rfl hr)) ?_
  have om520 : ¬ @Eq Nat b a := by omega
  have Fc521 := (q11.keep K517 (ninS (own_ane om520) nin0))
  refine gGetF (host := "") Gl.cl X517 hx hZ hown (Or.inl (tw hw 87 rfl)) Via.refl (rfl : T517.heap = T517.heap) Fc521 rfl rfl (hb hby d11_35) ?_
  intro T522 X522 e522
  refine Gl.go (fun _ hr => zXS_iloadN X522.here hx rfl (hb hby d11_38) rfl (zXS_iadd X522.here hx rfl (hb hby d11_39) rfl hr)) ?_
  show Gl p.tables e below _ (T522.setTop (mkF m 40 #[sR b, sR x, sI (Int32.ofNat ds.length)] [(.int ((Int32.ofNat cs.length) + (Int32.ofNat ds.length))), (.ref b)]))
  rw [(show Int32.ofNat cs.length + Int32.ofNat ds.length = Int32.ofNat (cs ++ ds).length from by rw [own_add32, List.length_append])]
  show Gl p.tables e below _ (T522.setTop (mkF m 40 #[sR b, sR x, sI (Int32.ofNat ds.length)] [(.int (Int32.ofNat (cs ++ ds).length)), (.ref b)]))
  have Ec523 := (q8.keep K517)
  refine gPutF (host := "") Gl.cl X522 hx hZ hown (Or.inl (tw hw 87 rfl)) Via.refl e522 Fc521 Ec523 (Or.inl (tw hw 88 rfl)) (tw hw 49 rfl) (ty := .int) (by decide) rfl rfl rfl rfl (hb hby d11_40) ?_
  intro T524 h524 X524 e524 W524
  have z525 : T517.heap.size ≤ h524.size := (Keep.of_wr W524).1
  have Fw524 := Fc521.same W524
  have om526 : @LE.le Nat instLENat n0 b := by omega
  have N524 := Fr.snoc X524 N517 (own_ale om526)
  refine Gl.go (fun _ hr => zXS_aloadN X524.here hx rfl (hb hby d11_43) rfl rfl hr) ?_
  have Ec527 := (Ec523.wr W524)
  have Fc528 := ((q9.keep K517 (ninS (own_ane om520) nin0)).other W524 (Or.inr (slot_ne (Or.inl (tw hw 63 rfl)) (Or.inl (tw hw 88 rfl)) (by decide) (t := (.array .byte)) (t' := .int) (by decide) (by decide))))
  have Fc529 := ((q10.keep K517 (ninS (own_ane om520) nin0)).other W524 (Or.inr (slot_ne (Or.inl (tw hw 65 rfl)) (Or.inl (tw hw 88 rfl)) (by decide) (t := .byte) (t' := .int) (by decide) (by decide))))
  have Fc530 := ((q12.keep K517 (ninS (own_ane om520) nin0)).other W524 (Or.inr (slot_ne (Or.inl (tw hw 247 rfl)) (Or.inl (tw hw 88 rfl)) (by decide) (t := .boolean) (t' := .int) (by decide) (by decide))))
  have Vc531 := (f517_0.other W524 (own_anes om520))
  obtain ⟨fs, hr, hrun, hended, hW, hsame⟩ := X524.leave (v := some (.ref b)) (fun h => by rw [Bd.returns] at h; cases h)
  refine ⟨_, _, retOut X524 hx Bd.returns rfl (Or.inr (Or.inr (Or.inr (Or.inr ⟨rfl, rfl, rfl⟩)))) (hb hby d11_44) hr, hrun, hended, _, _, rfl, ?_, ⟨⟨_, rfl⟩, hW, hsame.mono (by decide) (by decide)⟩⟩
  show Qaps10 Z b a ka cap cs x t kb ds G1 G3 h0 n0 _ T524.heap _
  rw [e524]
  exact ⟨rfl, N524, (((Keep.refl h0 [b, a]).trans K517 (allS (P := fun x_ => x_ ∈ ([b, a] : List Addr) ∨ h0.size ≤ x_) (Or.inl (by simp)) all0)).wr W524 (Or.inl (by simp))), Ec527, Fc528, Fc529, Fw524, Fc530, Vc531⟩
def Qsbs10 (Z : State) (b : Addr) (a : Addr) (ka : ClassId) (cap : Nat) (cs : List Int32) (x : Addr) (t : Addr) (kb : ClassId) (ds : List Int32) (G1 : Int32) (G3 : Value) (h0 : Heap) (n0 : Nat) (v : Option Value) (h : Heap) (L : List Loc) : Prop := v = some (.ref b) ∧ Fr n0 L ∧ Keep h0 h [b, a] ∧ (Exa Z h b "java/lang/StringBuilder") ∧ (Fld Z h b "java/lang/AbstractStringBuilder" "value" "[B" (.ref a)) ∧ (Fld Z h b "java/lang/AbstractStringBuilder" "coder" "B" (.int (1 : Int32))) ∧ (Fld Z h b "java/lang/AbstractStringBuilder" "count" "I" (.int (Int32.ofNat (cs ++ ds).length))) ∧ (Fld Z h b "java/lang/AbstractStringBuilder" "maybeLatin1" "Z" (.int (0 : Int32))) ∧ (Arv Z h a ka .byte (Int32.ofNat (2 * cap)) (StrChars.Road.wideBytes (cs ++ ds)) (.int (0 : Int32)))
theorem ef_sbs10 (m : MethodId) (x0 : Addr) (x1 : Addr) : entryFrame m #[(.ref x0), (.ref x1)] 2 = mkF m 0 #[sR x0, sR x1] [] := by first | (simp [entryFrame, mkF, argsToLocals, Value.category]; done) | rfl
set_option maxRecDepth 65536 in
set_option maxHeartbeats 40000000 in
theorem sbs10 (l : Launch) (Z : State) (a0 : Array Value) (hw : ∀ d ∈ tables_1, d.before a0 Z = true) (ws : List Jvm.Cond) (b : Addr) (a : Addr) (ka : ClassId) (cap : Nat) (cs : List Int32) (x : Addr) (t : Addr) (kb : ClassId) (ds : List Int32) (G1 : Int32) (G3 : Value) (h0 : Heap) (n0 : Nat) (Z0 : n0 ≤ h0.size) (q0 : Sta Z Z.heap "java/lang/String" "COMPACT_STRINGS" "Z" (.int G1)) (P5 : ¬ (G1 = (0 : Int32))) (q2 : (Old Z Z.heap.size h0 ∧ @LE.le Nat instLENat Z.heap.size n0)) (q3 : Sta Z Z.heap "jdk/internal/util/Preconditions" "SIOOBE_FORMATTER" "Ljava/util/function/BiFunction;" G3) (rG3 : G3.isRef = true) (q5 : Sta Z Z.heap "java/lang/StringUTF16" "$assertionsDisabled" "Z" (.int (1 : Int32))) (q6 : Sta Z Z.heap "java/lang/StringUTF16" "HI_BYTE_SHIFT" "I" (.int (0 : Int32))) (q7 : Sta Z Z.heap "java/lang/StringUTF16" "LO_BYTE_SHIFT" "I" (.int (8 : Int32))) (q8 : Exa Z h0 b "java/lang/StringBuilder") (q9 : Fld Z h0 b "java/lang/AbstractStringBuilder" "value" "[B" (.ref a)) (q10 : Fld Z h0 b "java/lang/AbstractStringBuilder" "coder" "B" (.int (1 : Int32))) (q11 : Fld Z h0 b "java/lang/AbstractStringBuilder" "count" "I" (.int (Int32.ofNat cs.length))) (q12 : Fld Z h0 b "java/lang/AbstractStringBuilder" "maybeLatin1" "Z" (.int (0 : Int32))) (q13 : Arv Z h0 a ka .byte (Int32.ofNat (2 * cap)) (StrChars.Road.wideBytes cs) (.int (0 : Int32))) (q14 : @LE.le Nat instLENat n0 a) (q15 : @LE.le Nat instLENat n0 b) (q16 : ¬ @Eq Nat a b) (hcap : cap ≤ 18) (q18 : Exa Z h0 x "java/lang/String") (q19 : Fld Z h0 x "java/lang/String" "value" "[B" (.ref t)) (q20 : Fld Z h0 x "java/lang/String" "coder" "B" (.int (0 : Int32))) (q21 : Arv Z h0 t kb .byte (Int32.ofNat ds.length) (lb ds) (.int (0 : Int32))) (q22 : ¬ @Eq Nat a x) (q23 : ¬ @Eq Nat a t) (q24 : ¬ @Eq Nat b x) (q25 : ¬ @Eq Nat b t) (hfit : cs.length + ds.length ≤ cap) (hld : ∀ c ∈ ds, Lat c) :
    MetFree l y_25 (head1 (Jvm.Cond.code y_25 jdk_67_method_7_code 2 (some (.object "java/lang/StringBuilder")) :: ws) r_m17) (fun a_ U_ => a_ = #[(.ref b), (.ref x)] ∧ Z.Warmed39 U_.vm ∧ U_.heap = h0) (fun _ _ _ _ _ => True) (fun _ U_ o_ V_ => ∃ v_ L_, o_ = .returned v_ ∧ Qsbs10 Z b a ka cap cs x t kb ds G1 G3 h0 n0 v_ V_.heap L_ ∧ FrameEnd U_ o_ V_ L_ r_m17.cells r_m17.slots) := by
  refine MetFree.of_bodySF (plainFor_of_name pn_5) hisR ?_
  intro p e s m args below meth c s₁ Bd hml0 hP hK
  obtain ⟨rfl, hZ, hh⟩ := hP
  have hx := Bd.exec
  have hby := Bd.bytes
  have hml : c.maxLocals = 2 := hml0
  have hown : s.vm.findClass "java/lang/StringBuilder" = some m.cls := findClass_of_methodNamed Bd.named
  have hnm := (name_of_methodNamed Bd.named Bd.method).1
  have X0 : Stand p l e r_m17 s m #[(.ref b), (.ref x)] below meth c s₁ [] 0 0 := Stand.of_body Bd
  have e0 : s₁.heap = h0 := by rw [← hh, Bd.state]; rfl
  have N0 := Fr.nil n0
  have Oo := q2.1
  have zo := q2.2
  have lt532 := own_alt q8.lt
  have lt533 := own_alt q9.lt
  have lt534 := own_alt q10.lt
  have lt535 := own_alt q11.lt
  have lt536 := own_alt q12.lt
  have lt537 := own_alt q13.lt
  have lt538 := own_alt q18.lt
  have lt539 := own_alt q19.lt
  have lt540 := own_alt q20.lt
  have lt541 := own_alt q21.lt
  refine Gl.go (A := s₁.setTop (entryFrame m #[(.ref b), (.ref x)] 2)) (P := fun o_ U_ => ∃ v_ L_, o_ = .returned v_ ∧ Qsbs10 Z b a ka cap cs x t kb ds G1 G3 h0 n0 v_ U_.heap L_ ∧ FrameEnd s o_ U_ L_ r_m17.cells r_m17.slots) (fun t_ k_ => castTop (ef_sbs10 m b x) k_) ?_
  show Gl p.tables e below _ (s₁.setTop (mkF m 0 #[sR b, sR x] []))
  refine Gl.go (fun _ hr => zXS_aloadN X0.here hx rfl (hb hby d10_0) rfl rfl (zXS_aloadN X0.here hx rfl (hb hby d10_1) rfl rfl hr)) ?_
  have zz542 : n0 ≤ h0.size := by omega
  refine gSuperN Gl.cl (y := y_24) (b := b) (argsL := [(.ref x)]) (rest := []) (mc := 0) (ms := 0) X0 hx hZ hown (tw hw 71 rfl) (own_same (y := y_24) (tw hw 74 rfl) (tw hw 92 rfl) rfl (by decide)) (tw hw 72 rfl) (tw hw 73 rfl) (by decide) (tw hw 75 rfl) (Ins.self q8) (backOf (W := 0) (aps10 l Z a0 hw [] b a ka cap cs x t kb ds G1 G3 h0 n0 zz542 q0 (by assumption) ⟨Oo, (by omega)⟩ q3 (by assumption) q5 q6 q7 q8 q9 q10 q11 q12 q13 (by omega) (by omega) (by omega) (by assumption) q18 q19 q20 q21 (by omega) (by omega) (by omega) (by omega) (by assumption) (by assumption)) hZ (tw hw 75 rfl) (tw hw 58 rfl) (by decide) (by decide)) rfl (by rw [hml]; rfl) (lenOf pd_21 rfl) rfl (by exact Nat.le_of_eq rfl) (hb hby d10_2) rfl e0 (by decide) (by decide) ?_
  intro v542 T542 Lc542 hQ542 X542
  obtain ⟨rfl, Nq542, K542, f542_0, f542_1, f542_2, f542_3, f542_4, f542_5⟩ := hQ542
  have z543 : h0.size ≤ T542.heap.size := K542.1
  have N542 := Fr.app N0 Nq542
  have lt544 := own_alt f542_0.lt
  have lt545 := own_alt f542_1.lt
  have lt546 := own_alt f542_2.lt
  have lt547 := own_alt f542_3.lt
  have lt548 := own_alt f542_4.lt
  have lt549 := own_alt f542_5.lt
  refine Gl.go (fun _ hr => zXT_pop X542.here hx rfl (hb hby d10_5) rfl rfl (zXS_aloadN X542.here hx rfl (hb hby d10_6) rfl rfl hr)) ?_
  obtain ⟨fs, hr, hrun, hended, hW, hsame⟩ := X542.leave (v := some (.ref b)) (fun h => by rw [Bd.returns] at h; cases h)
  refine ⟨_, _, retOut X542 hx Bd.returns rfl (Or.inr (Or.inr (Or.inr (Or.inr ⟨rfl, rfl, rfl⟩)))) (hb hby d10_7) hr, hrun, hended, _, _, rfl, ?_, ⟨⟨_, rfl⟩, hW, hsame.mono (by decide) (by decide)⟩⟩
  show Qsbs10 Z b a ka cap cs x t kb ds G1 G3 h0 n0 _ T542.heap _
  exact ⟨rfl, N542, ((Keep.refl h0 [b, a]).trans K542 (allS (P := fun x_ => x_ ∈ ([b, a] : List Addr) ∨ h0.size ≤ x_) (Or.inl (by simp)) (allS (P := fun x_ => x_ ∈ ([b, a] : List Addr) ∨ h0.size ≤ x_) (Or.inl (by simp)) all0))), f542_0, f542_1, f542_2, f542_3, f542_4, f542_5⟩
def Qpsa11 (Z : State) (b : Addr) (a : Addr) (ka : ClassId) (cap : Nat) (cs : List Int32) (x : Addr) (t : Addr) (kb : ClassId) (ds : List Int32) (G1 : Int32) (G3 : Value) (h0 : Heap) (n0 : Nat) (v : Option Value) (h : Heap) (L : List Loc) : Prop := v = none ∧ Fr n0 L ∧ Keep h0 h [a] ∧ (Arv Z h a ka .byte (Int32.ofNat (2 * cap)) (StrChars.Road.wideBytes (cs ++ ds)) (.int (0 : Int32)))
theorem ef_psa11 (m : MethodId) (x0 : Addr) (x1 : Int32) (x2 : Addr) : entryFrame m #[(.ref x0), (.int x1), (.ref x2)] 3 = mkF m 0 #[sR x0, sI x1, sR x2] [] := by first | (simp [entryFrame, mkF, argsToLocals, Value.category]; done) | rfl
set_option maxRecDepth 65536 in
set_option maxHeartbeats 40000000 in
theorem psa11 (l : Launch) (Z : State) (a0 : Array Value) (hw : ∀ d ∈ tables_1, d.before a0 Z = true) (ws : List Jvm.Cond) (b : Addr) (a : Addr) (ka : ClassId) (cap : Nat) (cs : List Int32) (x : Addr) (t : Addr) (kb : ClassId) (ds : List Int32) (G1 : Int32) (G3 : Value) (h0 : Heap) (n0 : Nat) (Z0 : n0 ≤ h0.size) (q0 : Sta Z Z.heap "java/lang/String" "COMPACT_STRINGS" "Z" (.int G1)) (P5 : ¬ (G1 = (0 : Int32))) (q2 : (Old Z Z.heap.size h0 ∧ @LE.le Nat instLENat Z.heap.size n0)) (q3 : Sta Z Z.heap "jdk/internal/util/Preconditions" "SIOOBE_FORMATTER" "Ljava/util/function/BiFunction;" G3) (rG3 : G3.isRef = true) (q5 : Sta Z Z.heap "java/lang/StringUTF16" "$assertionsDisabled" "Z" (.int (1 : Int32))) (q6 : Sta Z Z.heap "java/lang/StringUTF16" "HI_BYTE_SHIFT" "I" (.int (0 : Int32))) (q7 : Sta Z Z.heap "java/lang/StringUTF16" "LO_BYTE_SHIFT" "I" (.int (8 : Int32))) (q8 : Exa Z h0 b "java/lang/StringBuilder") (q9 : Fld Z h0 b "java/lang/AbstractStringBuilder" "value" "[B" (.ref a)) (q10 : Fld Z h0 b "java/lang/AbstractStringBuilder" "coder" "B" (.int (1 : Int32))) (q11 : Fld Z h0 b "java/lang/AbstractStringBuilder" "count" "I" (.int (Int32.ofNat cs.length))) (q12 : Fld Z h0 b "java/lang/AbstractStringBuilder" "maybeLatin1" "Z" (.int (0 : Int32))) (q13 : Arv Z h0 a ka .byte (Int32.ofNat (2 * cap)) (StrChars.Road.wideBytes cs) (.int (0 : Int32))) (q14 : @LE.le Nat instLENat n0 a) (q15 : @LE.le Nat instLENat n0 b) (q16 : ¬ @Eq Nat a b) (hcap : cap ≤ 18) (q18 : Exa Z h0 x "java/lang/String") (q19 : Fld Z h0 x "java/lang/String" "value" "[B" (.ref t)) (q20 : Fld Z h0 x "java/lang/String" "coder" "B" (.int (1 : Int32))) (q21 : Arv Z h0 t kb .byte (Int32.ofNat (2 * ds.length)) (StrChars.Road.wideBytes ds) (.int (0 : Int32))) (q22 : ¬ @Eq Nat a x) (q23 : ¬ @Eq Nat a t) (q24 : ¬ @Eq Nat b x) (q25 : ¬ @Eq Nat b t) (hfit : cs.length + ds.length ≤ cap) :
    MetFree l y_23 (head1 (Jvm.Cond.code y_23 jdk_68_method_73_code 3 none :: ws) r_m15) (fun a_ U_ => a_ = #[(.ref b), (.int (Int32.ofNat cs.length)), (.ref x)] ∧ Z.Warmed39 U_.vm ∧ U_.heap = h0) (fun _ _ _ _ _ => True) (fun _ U_ o_ V_ => ∃ v_ L_, o_ = .returned v_ ∧ Qpsa11 Z b a ka cap cs x t kb ds G1 G3 h0 n0 v_ V_.heap L_ ∧ FrameEnd U_ o_ V_ L_ r_m15.cells r_m15.slots) := by
  refine MetFree.of_bodySF (plainFor_of_name pn_2) hisR ?_
  intro p e s m args below meth c s₁ Bd hml0 hP hK
  obtain ⟨rfl, hZ, hh⟩ := hP
  have hx := Bd.exec
  have hby := Bd.bytes
  have hml : c.maxLocals = 3 := hml0
  have hown : s.vm.findClass "java/lang/AbstractStringBuilder" = some m.cls := findClass_of_methodNamed Bd.named
  have hnm := (name_of_methodNamed Bd.named Bd.method).1
  have X0 : Stand p l e r_m15 s m #[(.ref b), (.int (Int32.ofNat cs.length)), (.ref x)] below meth c s₁ [] 0 0 := Stand.of_body Bd
  have e0 : s₁.heap = h0 := by rw [← hh, Bd.state]; rfl
  have N0 := Fr.nil n0
  have Oo := q2.1
  have zo := q2.2
  have lt550 := own_alt q8.lt
  have lt551 := own_alt q9.lt
  have lt552 := own_alt q10.lt
  have lt553 := own_alt q11.lt
  have lt554 := own_alt q12.lt
  have lt555 := own_alt q13.lt
  have lt556 := own_alt q18.lt
  have lt557 := own_alt q19.lt
  have lt558 := own_alt q20.lt
  have lt559 := own_alt q21.lt
  refine Gl.go (A := s₁.setTop (entryFrame m #[(.ref b), (.int (Int32.ofNat cs.length)), (.ref x)] 3)) (P := fun o_ U_ => ∃ v_ L_, o_ = .returned v_ ∧ Qpsa11 Z b a ka cap cs x t kb ds G1 G3 h0 n0 v_ U_.heap L_ ∧ FrameEnd s o_ U_ L_ r_m15.cells r_m15.slots) (fun t_ k_ => castTop (ef_psa11 m b (Int32.ofNat cs.length) x) k_) ?_
  show Gl p.tables e below _ (s₁.setTop (mkF m 0 #[sR b, sI (Int32.ofNat cs.length), sR x] []))
  refine Gl.go (fun _ hr => zXS_aloadN X0.here hx rfl (hb hby d15_0) rfl rfl (zXS_aloadN X0.here hx rfl (hb hby d15_1) rfl rfl hr)) ?_
  have zz560 : n0 ≤ h0.size := by omega
  refine gPrivN Gl.cl (y := y_21) (b := b) (argsL := [(.ref x)]) (rest := []) (mc := 0) (ms := 0) X0 hx hZ hown (mvT hZ (tw hw 99 rfl)) (mvT hZ (tw hw 100 rfl)) (mvT hZ (tw hw 102 rfl)) (mvP hZ (tw hw 101 rfl)) (mvT hZ (tw hw 103 rfl)) (by decide) q8 (backOf (W := 0) (inf11 l Z a0 hw [] b x G1 h0 n0 zz560 q0 (by assumption) ⟨Oo, (by omega)⟩ q8 q10 q18 q20) hZ (tw hw 103 rfl) (tw hw 58 rfl) (by decide) (by decide)) rfl (by rw [hml]; rfl) (lenOf pd_16 rfl) rfl (by exact Nat.le_of_eq rfl) (hb hby d15_2) rfl e0 (by decide) (by decide) ?_
  intro v560 T560 Lc560 hQ560 X560
  obtain ⟨rfl, Nq560, e560⟩ := hQ560
  have N560 := Fr.app N0 Nq560
  refine Gl.go (fun _ hr => zXS_aloadN X560.here hx rfl (hb hby d15_5) rfl rfl (zXS_aloadN X560.here hx rfl (hb hby d15_6) rfl rfl hr)) ?_
  refine gGetF (host := "") Gl.cl X560 hx hZ hown (Or.inl (tw hw 62 rfl)) Via.refl e560 q9 rfl rfl (hb hby d15_7) ?_
  intro T561 X561 e561
  refine Gl.go (fun _ hr => zXS_iloadN X561.here hx rfl (hb hby d15_10) rfl (zXS_aloadN X561.here hx rfl (hb hby d15_11) rfl rfl hr)) ?_
  refine gGetF (host := "") Gl.cl X561 hx hZ hown (Or.inl (tw hw 64 rfl)) Via.refl e561 q10 rfl rfl (hb hby d15_12) ?_
  intro T562 X562 e562
  have zz563 : n0 ≤ h0.size := by omega
  refine gVirtualN Gl.cl (y := y_22) (z := y_22) (b := x) (argsL := [(.ref a), (.int (Int32.ofNat cs.length)), (.int (1 : Int32))]) (rest := []) (mc := 0) (ms := 0) X562 hx hZ hown (mvT hZ (tw hw 105 rfl)) (mvT hZ (tw hw 106 rfl)) (notFace_of_selects (args := #[]) (mvT hZ (tw hw 108 rfl))) (mvT hZ (tw hw 108 rfl)) (mvT hZ (tw hw 107 rfl)) (by decide) q18 (backOf (W := 0) (gb11 l Z a0 hw [] x t kb ds a ka cap cs G1 G3 h0 n0 zz563 q0 (by assumption) ⟨Oo, (by omega)⟩ q3 (by assumption) q5 q6 q7 q18 q19 q20 q21 q13 (by omega) (by omega) (by omega) (by assumption) (by assumption)) hZ (tw hw 109 rfl) (tw hw 7 rfl) (by decide) (by decide)) rfl (by rw [hml]; rfl) (lenOf pd_17 rfl) rfl (by exact Nat.le_of_eq rfl) (hb hby d15_15) rfl e562 (by decide) (by decide) ?_
  intro v563 T563 Lc563 hQ563 X563
  obtain ⟨rfl, Nq563, K563, f563_0⟩ := hQ563
  have z564 : h0.size ≤ T563.heap.size := K563.1
  have N563 := Fr.app N560 Nq563
  have lt565 := own_alt f563_0.lt
  obtain ⟨fs, hr, hrun, hended, hW, hsame⟩ := X563.leave (v := none) (fun _ => rfl)
  refine ⟨_, _, X563.returnOut hx Bd.returns (hb hby d15_18) hr, hrun, hended, _, _, rfl, ?_, ⟨⟨_, rfl⟩, hW, hsame.mono (by decide) (by decide)⟩⟩
  show Qpsa11 Z b a ka cap cs x t kb ds G1 G3 h0 n0 _ T563.heap _
  exact ⟨rfl, N563, ((Keep.refl h0 [a]).trans K563 (allS (P := fun x_ => x_ ∈ ([a] : List Addr) ∨ h0.size ≤ x_) (Or.inl (by simp)) all0)), f563_0⟩
def Qaps11 (Z : State) (b : Addr) (a : Addr) (ka : ClassId) (cap : Nat) (cs : List Int32) (x : Addr) (t : Addr) (kb : ClassId) (ds : List Int32) (G1 : Int32) (G3 : Value) (h0 : Heap) (n0 : Nat) (v : Option Value) (h : Heap) (L : List Loc) : Prop := v = some (.ref b) ∧ Fr n0 L ∧ Keep h0 h [b, a] ∧ (Exa Z h b "java/lang/StringBuilder") ∧ (Fld Z h b "java/lang/AbstractStringBuilder" "value" "[B" (.ref a)) ∧ (Fld Z h b "java/lang/AbstractStringBuilder" "coder" "B" (.int (1 : Int32))) ∧ (Fld Z h b "java/lang/AbstractStringBuilder" "count" "I" (.int (Int32.ofNat (cs ++ ds).length))) ∧ (Fld Z h b "java/lang/AbstractStringBuilder" "maybeLatin1" "Z" (.int (0 : Int32))) ∧ (Arv Z h a ka .byte (Int32.ofNat (2 * cap)) (StrChars.Road.wideBytes (cs ++ ds)) (.int (0 : Int32)))
theorem ef_aps11 (m : MethodId) (x0 : Addr) (x1 : Addr) : entryFrame m #[(.ref x0), (.ref x1)] 3 = mkF m 0 #[sR x0, sR x1, sU] [] := by first | (simp [entryFrame, mkF, argsToLocals, Value.category]; done) | rfl
set_option maxRecDepth 65536 in
set_option maxHeartbeats 40000000 in
theorem aps11 (l : Launch) (Z : State) (a0 : Array Value) (hw : ∀ d ∈ tables_1, d.before a0 Z = true) (ws : List Jvm.Cond) (b : Addr) (a : Addr) (ka : ClassId) (cap : Nat) (cs : List Int32) (x : Addr) (t : Addr) (kb : ClassId) (ds : List Int32) (G1 : Int32) (G3 : Value) (h0 : Heap) (n0 : Nat) (Z0 : n0 ≤ h0.size) (q0 : Sta Z Z.heap "java/lang/String" "COMPACT_STRINGS" "Z" (.int G1)) (P5 : ¬ (G1 = (0 : Int32))) (q2 : (Old Z Z.heap.size h0 ∧ @LE.le Nat instLENat Z.heap.size n0)) (q3 : Sta Z Z.heap "jdk/internal/util/Preconditions" "SIOOBE_FORMATTER" "Ljava/util/function/BiFunction;" G3) (rG3 : G3.isRef = true) (q5 : Sta Z Z.heap "java/lang/StringUTF16" "$assertionsDisabled" "Z" (.int (1 : Int32))) (q6 : Sta Z Z.heap "java/lang/StringUTF16" "HI_BYTE_SHIFT" "I" (.int (0 : Int32))) (q7 : Sta Z Z.heap "java/lang/StringUTF16" "LO_BYTE_SHIFT" "I" (.int (8 : Int32))) (q8 : Exa Z h0 b "java/lang/StringBuilder") (q9 : Fld Z h0 b "java/lang/AbstractStringBuilder" "value" "[B" (.ref a)) (q10 : Fld Z h0 b "java/lang/AbstractStringBuilder" "coder" "B" (.int (1 : Int32))) (q11 : Fld Z h0 b "java/lang/AbstractStringBuilder" "count" "I" (.int (Int32.ofNat cs.length))) (q12 : Fld Z h0 b "java/lang/AbstractStringBuilder" "maybeLatin1" "Z" (.int (0 : Int32))) (q13 : Arv Z h0 a ka .byte (Int32.ofNat (2 * cap)) (StrChars.Road.wideBytes cs) (.int (0 : Int32))) (q14 : @LE.le Nat instLENat n0 a) (q15 : @LE.le Nat instLENat n0 b) (q16 : ¬ @Eq Nat a b) (hcap : cap ≤ 18) (q18 : Exa Z h0 x "java/lang/String") (q19 : Fld Z h0 x "java/lang/String" "value" "[B" (.ref t)) (q20 : Fld Z h0 x "java/lang/String" "coder" "B" (.int (1 : Int32))) (q21 : Arv Z h0 t kb .byte (Int32.ofNat (2 * ds.length)) (StrChars.Road.wideBytes ds) (.int (0 : Int32))) (q22 : ¬ @Eq Nat a x) (q23 : ¬ @Eq Nat a t) (q24 : ¬ @Eq Nat b x) (q25 : ¬ @Eq Nat b t) (hfit : cs.length + ds.length ≤ cap) :
    MetFree l y_24 (head1 (Jvm.Cond.code y_24 jdk_68_method_22_code 3 (some (.object "java/lang/AbstractStringBuilder")) :: ws) r_m16) (fun a_ U_ => a_ = #[(.ref b), (.ref x)] ∧ Z.Warmed39 U_.vm ∧ U_.heap = h0) (fun _ _ _ _ _ => True) (fun _ U_ o_ V_ => ∃ v_ L_, o_ = .returned v_ ∧ Qaps11 Z b a ka cap cs x t kb ds G1 G3 h0 n0 v_ V_.heap L_ ∧ FrameEnd U_ o_ V_ L_ r_m16.cells r_m16.slots) := by
  refine MetFree.of_bodySF (plainFor_of_name pn_2) hisR ?_
  intro p e s m args below meth c s₁ Bd hml0 hP hK
  obtain ⟨rfl, hZ, hh⟩ := hP
  have hx := Bd.exec
  have hby := Bd.bytes
  have hml : c.maxLocals = 3 := hml0
  have hown : s.vm.findClass "java/lang/AbstractStringBuilder" = some m.cls := findClass_of_methodNamed Bd.named
  have hnm := (name_of_methodNamed Bd.named Bd.method).1
  have X0 : Stand p l e r_m16 s m #[(.ref b), (.ref x)] below meth c s₁ [] 0 0 := Stand.of_body Bd
  have e0 : s₁.heap = h0 := by rw [← hh, Bd.state]; rfl
  have N0 := Fr.nil n0
  have Oo := q2.1
  have zo := q2.2
  have lt566 := own_alt q8.lt
  have lt567 := own_alt q9.lt
  have lt568 := own_alt q10.lt
  have lt569 := own_alt q11.lt
  have lt570 := own_alt q12.lt
  have lt571 := own_alt q13.lt
  have lt572 := own_alt q18.lt
  have lt573 := own_alt q19.lt
  have lt574 := own_alt q20.lt
  have lt575 := own_alt q21.lt
  refine Gl.go (A := s₁.setTop (entryFrame m #[(.ref b), (.ref x)] 3)) (P := fun o_ U_ => ∃ v_ L_, o_ = .returned v_ ∧ Qaps11 Z b a ka cap cs x t kb ds G1 G3 h0 n0 v_ U_.heap L_ ∧ FrameEnd s o_ U_ L_ r_m16.cells r_m16.slots) (fun t_ k_ => castTop (ef_aps11 m b x) k_) ?_
  show Gl p.tables e below _ (s₁.setTop (mkF m 0 #[sR b, sR x, sU] []))
  refine Gl.go (fun _ hr => zXS_aloadN X0.here hx rfl (hb hby d11_0) rfl rfl (zXT_ifnonnullYes X0.here hx rfl (pc0 := 1) (pc' := 9) rfl (hb hby d11_1) rfl (by decide) (by decide) (zXS_aloadN X0.here hx rfl (hb hby d11_9) rfl rfl hr))) ?_
  have zz576 : n0 ≤ h0.size := by omega
  refine gVirtualN Gl.cl (y := y_12) (z := y_12) (b := x) (argsL := []) (rest := []) (mc := 0) (ms := 0) X0 hx hZ hown (mvT hZ (tw hw 76 rfl)) (mvT hZ (tw hw 77 rfl)) (notFace_of_selects (args := #[]) (mvT hZ (tw hw 79 rfl))) (mvT hZ (tw hw 79 rfl)) (mvT hZ (tw hw 78 rfl)) (by decide) q18 (backOf (W := 0) (sl1 l Z a0 hw [] x t kb (StrChars.Road.wideBytes ds) ds G1 h0 n0 zz576 q0 (by assumption) ⟨Oo, (by omega)⟩ q18 q19 q20 q21 (by omega)) hZ (tw hw 80 rfl) (tw hw 7 rfl) (by decide) (by decide)) rfl (by rw [hml]; rfl) (lenOf pd_18 rfl) rfl (by exact Nat.le_of_eq rfl) (hb hby d11_10) rfl e0 (by decide) (by decide) ?_
  intro v576 T576 Lc576 hQ576 X576
  obtain ⟨rfl, Nq576, e576⟩ := hQ576
  have N576 := Fr.app N0 Nq576
  refine Gl.go (fun _ hr => zXS_istoreN X576.here hx rfl (hb hby d11_13) rfl (l' := #[sR b, sR x, sI (Int32.ofNat ds.length)]) rfl (zXS_aloadN X576.here hx rfl (hb hby d11_14) rfl rfl (zXS_aloadN X576.here hx rfl (hb hby d11_15) rfl rfl hr))) ?_
  refine gGetF (host := "") Gl.cl X576 hx hZ hown (Or.inl (tw hw 87 rfl)) Via.refl e576 q11 rfl rfl (hb hby d11_16) ?_
  intro T577 X577 e577
  refine Gl.go (fun _ hr => zXS_iloadN X577.here hx rfl (hb hby d11_19) rfl (zXS_iadd X577.here hx rfl (hb hby d11_20) rfl hr)) ?_
  show Gl p.tables e below _ (T577.setTop (mkF m 21 #[sR b, sR x, sI (Int32.ofNat ds.length)] [(.int ((Int32.ofNat cs.length) + (Int32.ofNat ds.length))), (.ref b)]))
  rw [own_add32]
  show Gl p.tables e below _ (T577.setTop (mkF m 21 #[sR b, sR x, sI (Int32.ofNat ds.length)] [(.int (Int32.ofNat (cs.length + ds.length))), (.ref b)]))
  have zz578 : n0 ≤ h0.size := by omega
  refine gPrivN Gl.cl (y := y_13) (b := b) (argsL := [(.int (Int32.ofNat (cs.length + ds.length)))]) (rest := []) (mc := 0) (ms := 0) X577 hx hZ hown (mvT hZ (tw hw 89 rfl)) (mvT hZ (tw hw 90 rfl)) (mvT hZ (tw hw 92 rfl)) (mvP hZ (tw hw 91 rfl)) (mvT hZ (tw hw 93 rfl)) (by decide) q8 (backOf (W := 0) (ens1 l Z a0 hw [] b a ka cap (StrChars.Road.wideBytes cs) (cs.length + ds.length) h0 n0 zz578 q9 q10 q13 hfit hcap) hZ (tw hw 93 rfl) (tw hw 58 rfl) (by decide) (by decide)) rfl (by rw [hml]; rfl) (lenOf pd_19 rfl) rfl (by exact Nat.le_of_eq rfl) (hb hby d11_21) rfl e577 (by decide) (by decide) ?_
  intro v578 T578 Lc578 hQ578 X578
  obtain ⟨rfl, Nq578, e578⟩ := hQ578
  have N578 := Fr.app N576 Nq578
  refine Gl.go (fun _ hr => zXS_aloadN X578.here hx rfl (hb hby d11_24) rfl rfl (zXS_aloadN X578.here hx rfl (hb hby d11_25) rfl rfl hr)) ?_
  refine gGetF (host := "") Gl.cl X578 hx hZ hown (Or.inl (tw hw 87 rfl)) Via.refl e578 q11 rfl rfl (hb hby d11_26) ?_
  intro T579 X579 e579
  refine Gl.go (fun _ hr => zXS_aloadN X579.here hx rfl (hb hby d11_29) rfl rfl hr) ?_
  have zz580 : n0 ≤ h0.size := by omega
  refine gPrivN Gl.cl (y := y_23) (b := b) (argsL := [(.int (Int32.ofNat cs.length)), (.ref x)]) (rest := []) (mc := 0) (ms := 0) X579 hx hZ hown (mvT hZ (tw hw 94 rfl)) (mvT hZ (tw hw 95 rfl)) (mvT hZ (tw hw 97 rfl)) (mvP hZ (tw hw 96 rfl)) (mvT hZ (tw hw 98 rfl)) (by decide) q8 (backOf (W := 0) (psa11 l Z a0 hw [] b a ka cap cs x t kb ds G1 G3 h0 n0 zz580 q0 (by assumption) ⟨Oo, (by omega)⟩ q3 (by assumption) q5 q6 q7 q8 q9 q10 q11 q12 q13 (by omega) (by omega) (by omega) (by assumption) q18 q19 q20 q21 (by omega) (by omega) (by omega) (by omega) (by assumption)) hZ (tw hw 98 rfl) (tw hw 58 rfl) (by decide) (by decide)) rfl (by rw [hml]; rfl) (lenOf pd_20 rfl) rfl (by exact Nat.le_of_eq rfl) (hb hby d11_30) rfl e579 (by decide) (by decide) ?_
  intro v580 T580 Lc580 hQ580 X580
  obtain ⟨rfl, Nq580, K580, f580_0⟩ := hQ580
  have z581 : h0.size ≤ T580.heap.size := K580.1
  have N580 := Fr.app N578 Nq580
  have lt582 := own_alt f580_0.lt
  refine Gl.go (fun _ hr => zXS_aloadN X580.here hx rfl (hb hby d11_33) rfl rfl (zXS_dup X580.here hx rfl (hb hby d11_34) rfl rfl hr)) ?_
  have om583 : ¬ @Eq Nat b a := by omega
  have Fc584 := (q11.keep K580 (ninS (own_ane om583) nin0))
  refine gGetF (host := "") Gl.cl X580 hx hZ hown (Or.inl (tw hw 87 rfl)) Via.refl (rfl : T580.heap = T580.heap) Fc584 rfl rfl (hb hby d11_35) ?_
  intro T585 X585 e585
  refine Gl.go (fun _ hr => zXS_iloadN X585.here hx rfl (hb hby d11_38) rfl (zXS_iadd X585.here hx rfl (hb hby d11_39) rfl hr)) ?_
  show Gl p.tables e below _ (T585.setTop (mkF m 40 #[sR b, sR x, sI (Int32.ofNat ds.length)] [(.int ((Int32.ofNat cs.length) + (Int32.ofNat ds.length))), (.ref b)]))
  rw [(show Int32.ofNat cs.length + Int32.ofNat ds.length = Int32.ofNat (cs ++ ds).length from by rw [own_add32, List.length_append])]
  show Gl p.tables e below _ (T585.setTop (mkF m 40 #[sR b, sR x, sI (Int32.ofNat ds.length)] [(.int (Int32.ofNat (cs ++ ds).length)), (.ref b)]))
  have Ec586 := (q8.keep K580)
  refine gPutF (host := "") Gl.cl X585 hx hZ hown (Or.inl (tw hw 87 rfl)) Via.refl e585 Fc584 Ec586 (Or.inl (tw hw 88 rfl)) (tw hw 49 rfl) (ty := .int) (by decide) rfl rfl rfl rfl (hb hby d11_40) ?_
  intro T587 h587 X587 e587 W587
  have z588 : T580.heap.size ≤ h587.size := (Keep.of_wr W587).1
  have Fw587 := Fc584.same W587
  have om589 : @LE.le Nat instLENat n0 b := by omega
  have N587 := Fr.snoc X587 N580 (own_ale om589)
  refine Gl.go (fun _ hr => zXS_aloadN X587.here hx rfl (hb hby d11_43) rfl rfl hr) ?_
  have Ec590 := (Ec586.wr W587)
  have Fc591 := ((q9.keep K580 (ninS (own_ane om583) nin0)).other W587 (Or.inr (slot_ne (Or.inl (tw hw 63 rfl)) (Or.inl (tw hw 88 rfl)) (by decide) (t := (.array .byte)) (t' := .int) (by decide) (by decide))))
  have Fc592 := ((q10.keep K580 (ninS (own_ane om583) nin0)).other W587 (Or.inr (slot_ne (Or.inl (tw hw 65 rfl)) (Or.inl (tw hw 88 rfl)) (by decide) (t := .byte) (t' := .int) (by decide) (by decide))))
  have Fc593 := ((q12.keep K580 (ninS (own_ane om583) nin0)).other W587 (Or.inr (slot_ne (Or.inl (tw hw 247 rfl)) (Or.inl (tw hw 88 rfl)) (by decide) (t := .boolean) (t' := .int) (by decide) (by decide))))
  have Vc594 := (f580_0.other W587 (own_anes om583))
  obtain ⟨fs, hr, hrun, hended, hW, hsame⟩ := X587.leave (v := some (.ref b)) (fun h => by rw [Bd.returns] at h; cases h)
  refine ⟨_, _, retOut X587 hx Bd.returns rfl (Or.inr (Or.inr (Or.inr (Or.inr ⟨rfl, rfl, rfl⟩)))) (hb hby d11_44) hr, hrun, hended, _, _, rfl, ?_, ⟨⟨_, rfl⟩, hW, hsame.mono (by decide) (by decide)⟩⟩
  show Qaps11 Z b a ka cap cs x t kb ds G1 G3 h0 n0 _ T587.heap _
  rw [e587]
  exact ⟨rfl, N587, (((Keep.refl h0 [b, a]).trans K580 (allS (P := fun x_ => x_ ∈ ([b, a] : List Addr) ∨ h0.size ≤ x_) (Or.inl (by simp)) all0)).wr W587 (Or.inl (by simp))), Ec590, Fc591, Fc592, Fw587, Fc593, Vc594⟩
def Qsbs11 (Z : State) (b : Addr) (a : Addr) (ka : ClassId) (cap : Nat) (cs : List Int32) (x : Addr) (t : Addr) (kb : ClassId) (ds : List Int32) (G1 : Int32) (G3 : Value) (h0 : Heap) (n0 : Nat) (v : Option Value) (h : Heap) (L : List Loc) : Prop := v = some (.ref b) ∧ Fr n0 L ∧ Keep h0 h [b, a] ∧ (Exa Z h b "java/lang/StringBuilder") ∧ (Fld Z h b "java/lang/AbstractStringBuilder" "value" "[B" (.ref a)) ∧ (Fld Z h b "java/lang/AbstractStringBuilder" "coder" "B" (.int (1 : Int32))) ∧ (Fld Z h b "java/lang/AbstractStringBuilder" "count" "I" (.int (Int32.ofNat (cs ++ ds).length))) ∧ (Fld Z h b "java/lang/AbstractStringBuilder" "maybeLatin1" "Z" (.int (0 : Int32))) ∧ (Arv Z h a ka .byte (Int32.ofNat (2 * cap)) (StrChars.Road.wideBytes (cs ++ ds)) (.int (0 : Int32)))
theorem ef_sbs11 (m : MethodId) (x0 : Addr) (x1 : Addr) : entryFrame m #[(.ref x0), (.ref x1)] 2 = mkF m 0 #[sR x0, sR x1] [] := by first | (simp [entryFrame, mkF, argsToLocals, Value.category]; done) | rfl
set_option maxRecDepth 65536 in
set_option maxHeartbeats 40000000 in
theorem sbs11 (l : Launch) (Z : State) (a0 : Array Value) (hw : ∀ d ∈ tables_1, d.before a0 Z = true) (ws : List Jvm.Cond) (b : Addr) (a : Addr) (ka : ClassId) (cap : Nat) (cs : List Int32) (x : Addr) (t : Addr) (kb : ClassId) (ds : List Int32) (G1 : Int32) (G3 : Value) (h0 : Heap) (n0 : Nat) (Z0 : n0 ≤ h0.size) (q0 : Sta Z Z.heap "java/lang/String" "COMPACT_STRINGS" "Z" (.int G1)) (P5 : ¬ (G1 = (0 : Int32))) (q2 : (Old Z Z.heap.size h0 ∧ @LE.le Nat instLENat Z.heap.size n0)) (q3 : Sta Z Z.heap "jdk/internal/util/Preconditions" "SIOOBE_FORMATTER" "Ljava/util/function/BiFunction;" G3) (rG3 : G3.isRef = true) (q5 : Sta Z Z.heap "java/lang/StringUTF16" "$assertionsDisabled" "Z" (.int (1 : Int32))) (q6 : Sta Z Z.heap "java/lang/StringUTF16" "HI_BYTE_SHIFT" "I" (.int (0 : Int32))) (q7 : Sta Z Z.heap "java/lang/StringUTF16" "LO_BYTE_SHIFT" "I" (.int (8 : Int32))) (q8 : Exa Z h0 b "java/lang/StringBuilder") (q9 : Fld Z h0 b "java/lang/AbstractStringBuilder" "value" "[B" (.ref a)) (q10 : Fld Z h0 b "java/lang/AbstractStringBuilder" "coder" "B" (.int (1 : Int32))) (q11 : Fld Z h0 b "java/lang/AbstractStringBuilder" "count" "I" (.int (Int32.ofNat cs.length))) (q12 : Fld Z h0 b "java/lang/AbstractStringBuilder" "maybeLatin1" "Z" (.int (0 : Int32))) (q13 : Arv Z h0 a ka .byte (Int32.ofNat (2 * cap)) (StrChars.Road.wideBytes cs) (.int (0 : Int32))) (q14 : @LE.le Nat instLENat n0 a) (q15 : @LE.le Nat instLENat n0 b) (q16 : ¬ @Eq Nat a b) (hcap : cap ≤ 18) (q18 : Exa Z h0 x "java/lang/String") (q19 : Fld Z h0 x "java/lang/String" "value" "[B" (.ref t)) (q20 : Fld Z h0 x "java/lang/String" "coder" "B" (.int (1 : Int32))) (q21 : Arv Z h0 t kb .byte (Int32.ofNat (2 * ds.length)) (StrChars.Road.wideBytes ds) (.int (0 : Int32))) (q22 : ¬ @Eq Nat a x) (q23 : ¬ @Eq Nat a t) (q24 : ¬ @Eq Nat b x) (q25 : ¬ @Eq Nat b t) (hfit : cs.length + ds.length ≤ cap) :
    MetFree l y_25 (head1 (Jvm.Cond.code y_25 jdk_67_method_7_code 2 (some (.object "java/lang/StringBuilder")) :: ws) r_m17) (fun a_ U_ => a_ = #[(.ref b), (.ref x)] ∧ Z.Warmed39 U_.vm ∧ U_.heap = h0) (fun _ _ _ _ _ => True) (fun _ U_ o_ V_ => ∃ v_ L_, o_ = .returned v_ ∧ Qsbs11 Z b a ka cap cs x t kb ds G1 G3 h0 n0 v_ V_.heap L_ ∧ FrameEnd U_ o_ V_ L_ r_m17.cells r_m17.slots) := by
  refine MetFree.of_bodySF (plainFor_of_name pn_5) hisR ?_
  intro p e s m args below meth c s₁ Bd hml0 hP hK
  obtain ⟨rfl, hZ, hh⟩ := hP
  have hx := Bd.exec
  have hby := Bd.bytes
  have hml : c.maxLocals = 2 := hml0
  have hown : s.vm.findClass "java/lang/StringBuilder" = some m.cls := findClass_of_methodNamed Bd.named
  have hnm := (name_of_methodNamed Bd.named Bd.method).1
  have X0 : Stand p l e r_m17 s m #[(.ref b), (.ref x)] below meth c s₁ [] 0 0 := Stand.of_body Bd
  have e0 : s₁.heap = h0 := by rw [← hh, Bd.state]; rfl
  have N0 := Fr.nil n0
  have Oo := q2.1
  have zo := q2.2
  have lt595 := own_alt q8.lt
  have lt596 := own_alt q9.lt
  have lt597 := own_alt q10.lt
  have lt598 := own_alt q11.lt
  have lt599 := own_alt q12.lt
  have lt600 := own_alt q13.lt
  have lt601 := own_alt q18.lt
  have lt602 := own_alt q19.lt
  have lt603 := own_alt q20.lt
  have lt604 := own_alt q21.lt
  refine Gl.go (A := s₁.setTop (entryFrame m #[(.ref b), (.ref x)] 2)) (P := fun o_ U_ => ∃ v_ L_, o_ = .returned v_ ∧ Qsbs11 Z b a ka cap cs x t kb ds G1 G3 h0 n0 v_ U_.heap L_ ∧ FrameEnd s o_ U_ L_ r_m17.cells r_m17.slots) (fun t_ k_ => castTop (ef_sbs11 m b x) k_) ?_
  show Gl p.tables e below _ (s₁.setTop (mkF m 0 #[sR b, sR x] []))
  refine Gl.go (fun _ hr => zXS_aloadN X0.here hx rfl (hb hby d10_0) rfl rfl (zXS_aloadN X0.here hx rfl (hb hby d10_1) rfl rfl hr)) ?_
  have zz605 : n0 ≤ h0.size := by omega
  refine gSuperN Gl.cl (y := y_24) (b := b) (argsL := [(.ref x)]) (rest := []) (mc := 0) (ms := 0) X0 hx hZ hown (tw hw 71 rfl) (own_same (y := y_24) (tw hw 74 rfl) (tw hw 92 rfl) rfl (by decide)) (tw hw 72 rfl) (tw hw 73 rfl) (by decide) (tw hw 75 rfl) (Ins.self q8) (backOf (W := 0) (aps11 l Z a0 hw [] b a ka cap cs x t kb ds G1 G3 h0 n0 zz605 q0 (by assumption) ⟨Oo, (by omega)⟩ q3 (by assumption) q5 q6 q7 q8 q9 q10 q11 q12 q13 (by omega) (by omega) (by omega) (by assumption) q18 q19 q20 q21 (by omega) (by omega) (by omega) (by omega) (by assumption)) hZ (tw hw 75 rfl) (tw hw 58 rfl) (by decide) (by decide)) rfl (by rw [hml]; rfl) (lenOf pd_21 rfl) rfl (by exact Nat.le_of_eq rfl) (hb hby d10_2) rfl e0 (by decide) (by decide) ?_
  intro v605 T605 Lc605 hQ605 X605
  obtain ⟨rfl, Nq605, K605, f605_0, f605_1, f605_2, f605_3, f605_4, f605_5⟩ := hQ605
  have z606 : h0.size ≤ T605.heap.size := K605.1
  have N605 := Fr.app N0 Nq605
  have lt607 := own_alt f605_0.lt
  have lt608 := own_alt f605_1.lt
  have lt609 := own_alt f605_2.lt
  have lt610 := own_alt f605_3.lt
  have lt611 := own_alt f605_4.lt
  have lt612 := own_alt f605_5.lt
  refine Gl.go (fun _ hr => zXT_pop X605.here hx rfl (hb hby d10_5) rfl rfl (zXS_aloadN X605.here hx rfl (hb hby d10_6) rfl rfl hr)) ?_
  obtain ⟨fs, hr, hrun, hended, hW, hsame⟩ := X605.leave (v := some (.ref b)) (fun h => by rw [Bd.returns] at h; cases h)
  refine ⟨_, _, retOut X605 hx Bd.returns rfl (Or.inr (Or.inr (Or.inr (Or.inr ⟨rfl, rfl, rfl⟩)))) (hb hby d10_7) hr, hrun, hended, _, _, rfl, ?_, ⟨⟨_, rfl⟩, hW, hsame.mono (by decide) (by decide)⟩⟩
  show Qsbs11 Z b a ka cap cs x t kb ds G1 G3 h0 n0 _ T605.heap _
  exact ⟨rfl, N605, ((Keep.refl h0 [b, a]).trans K605 (allS (P := fun x_ => x_ ∈ ([b, a] : List Addr) ∨ h0.size ≤ x_) (Or.inl (by simp)) (allS (P := fun x_ => x_ ∈ ([b, a] : List Addr) ∨ h0.size ≤ x_) (Or.inl (by simp)) all0))), f605_0, f605_1, f605_2, f605_3, f605_4, f605_5⟩
def Qgv (Z : State) (b : Addr) (a : Addr) (h0 : Heap) (n0 : Nat) (v : Option Value) (h : Heap) (L : List Loc) : Prop := v = some (.ref a) ∧ Fr n0 L ∧ h = h0
theorem ef_gv (m : MethodId) (x0 : Addr) : entryFrame m #[(.ref x0)] 1 = mkF m 0 #[sR x0] [] := by first | (simp [entryFrame, mkF, argsToLocals, Value.category]; done) | rfl
theorem d21_0 : decode jdk_68_method_64_code 0 = .ok (.aload_n 0, 1) := by decide +kernel
theorem d21_1 : decode jdk_68_method_64_code 1 = .ok (.getfield 15, 3) := by decide +kernel
theorem d21_4 : decode jdk_68_method_64_code 4 = .ok (.areturn, 1) := by decide +kernel
set_option maxRecDepth 65536 in
set_option maxHeartbeats 40000000 in
theorem gv (l : Launch) (Z : State) (a0 : Array Value) (hw : ∀ d ∈ tables_1, d.before a0 Z = true) (ws : List Jvm.Cond) (b : Addr) (a : Addr) (h0 : Heap) (n0 : Nat) (Z0 : n0 ≤ h0.size) (q0 : Fld Z h0 b "java/lang/AbstractStringBuilder" "value" "[B" (.ref a)) :
    MetFree l y_26 (head1 (Jvm.Cond.code y_26 jdk_68_method_64_code 1 (some (.array .byte)) :: ws) r_m0) (fun a_ U_ => a_ = #[(.ref b)] ∧ Z.Warmed39 U_.vm ∧ U_.heap = h0) (fun _ _ _ _ _ => True) (fun _ U_ o_ V_ => ∃ v_ L_, o_ = .returned v_ ∧ Qgv Z b a h0 n0 v_ V_.heap L_ ∧ FrameEnd U_ o_ V_ L_ r_m0.cells r_m0.slots) := by
  refine MetFree.of_bodySF (plainFor_of_name pn_2) hisR ?_
  intro p e s m args below meth c s₁ Bd hml0 hP hK
  obtain ⟨rfl, hZ, hh⟩ := hP
  have hx := Bd.exec
  have hby := Bd.bytes
  have hml : c.maxLocals = 1 := hml0
  have hown : s.vm.findClass "java/lang/AbstractStringBuilder" = some m.cls := findClass_of_methodNamed Bd.named
  have hnm := (name_of_methodNamed Bd.named Bd.method).1
  have X0 : Stand p l e r_m0 s m #[(.ref b)] below meth c s₁ [] 0 0 := Stand.of_body Bd
  have e0 : s₁.heap = h0 := by rw [← hh, Bd.state]; rfl
  have N0 := Fr.nil n0
  have lt613 := own_alt q0.lt
  refine Gl.go (A := s₁.setTop (entryFrame m #[(.ref b)] 1)) (P := fun o_ U_ => ∃ v_ L_, o_ = .returned v_ ∧ Qgv Z b a h0 n0 v_ U_.heap L_ ∧ FrameEnd s o_ U_ L_ r_m0.cells r_m0.slots) (fun t_ k_ => castTop (ef_gv m b) k_) ?_
  show Gl p.tables e below _ (s₁.setTop (mkF m 0 #[sR b] []))
  refine Gl.go (fun _ hr => zXS_aloadN X0.here hx rfl (hb hby d21_0) rfl rfl hr) ?_
  refine gGetF (host := "") Gl.cl X0 hx hZ hown (Or.inl (tw hw 62 rfl)) Via.refl e0 q0 rfl rfl (hb hby d21_1) ?_
  intro T614 X614 e614
  obtain ⟨fs, hr, hrun, hended, hW, hsame⟩ := X614.leave (v := some (.ref a)) (fun h => by rw [Bd.returns] at h; cases h)
  refine ⟨_, _, retOut X614 hx Bd.returns rfl (Or.inr (Or.inr (Or.inr (Or.inr ⟨rfl, rfl, rfl⟩)))) (hb hby d21_4) hr, hrun, hended, _, _, rfl, ?_, ⟨⟨_, rfl⟩, hW, hsame.mono (by decide) (by decide)⟩⟩
  show Qgv Z b a h0 n0 _ T614.heap _
  rw [e614]
  exact ⟨rfl, N0, rfl⟩
def Qasl (Z : State) (b : Addr) (n : Int32) (h0 : Heap) (n0 : Nat) (v : Option Value) (h : Heap) (L : List Loc) : Prop := v = some (.int n) ∧ Fr n0 L ∧ h = h0
theorem ef_asl (m : MethodId) (x0 : Addr) : entryFrame m #[(.ref x0)] 1 = mkF m 0 #[sR x0] [] := by first | (simp [entryFrame, mkF, argsToLocals, Value.category]; done) | rfl
theorem d23_0 : decode jdk_68_method_6_code 0 = .ok (.aload_n 0, 1) := by decide +kernel
theorem d23_1 : decode jdk_68_method_6_code 1 = .ok (.getfield 79, 3) := by decide +kernel
theorem d23_4 : decode jdk_68_method_6_code 4 = .ok (.ireturn, 1) := by decide +kernel
set_option maxRecDepth 65536 in
set_option maxHeartbeats 40000000 in
theorem asl (l : Launch) (Z : State) (a0 : Array Value) (hw : ∀ d ∈ tables_1, d.before a0 Z = true) (ws : List Jvm.Cond) (b : Addr) (n : Int32) (h0 : Heap) (n0 : Nat) (Z0 : n0 ≤ h0.size) (q0 : Fld Z h0 b "java/lang/AbstractStringBuilder" "count" "I" (.int n)) :
    MetFree l y_27 (head1 (Jvm.Cond.code y_27 jdk_68_method_6_code 1 (some .int) :: ws) r_m0) (fun a_ U_ => a_ = #[(.ref b)] ∧ Z.Warmed39 U_.vm ∧ U_.heap = h0) (fun _ _ _ _ _ => True) (fun _ U_ o_ V_ => ∃ v_ L_, o_ = .returned v_ ∧ Qasl Z b n h0 n0 v_ V_.heap L_ ∧ FrameEnd U_ o_ V_ L_ r_m0.cells r_m0.slots) := by
  refine MetFree.of_bodySF (plainFor_of_name pn_2) hisR ?_
  intro p e s m args below meth c s₁ Bd hml0 hP hK
  obtain ⟨rfl, hZ, hh⟩ := hP
  have hx := Bd.exec
  have hby := Bd.bytes
  have hml : c.maxLocals = 1 := hml0
  have hown : s.vm.findClass "java/lang/AbstractStringBuilder" = some m.cls := findClass_of_methodNamed Bd.named
  have hnm := (name_of_methodNamed Bd.named Bd.method).1
  have X0 : Stand p l e r_m0 s m #[(.ref b)] below meth c s₁ [] 0 0 := Stand.of_body Bd
  have e0 : s₁.heap = h0 := by rw [← hh, Bd.state]; rfl
  have N0 := Fr.nil n0
  have lt615 := own_alt q0.lt
  refine Gl.go (A := s₁.setTop (entryFrame m #[(.ref b)] 1)) (P := fun o_ U_ => ∃ v_ L_, o_ = .returned v_ ∧ Qasl Z b n h0 n0 v_ U_.heap L_ ∧ FrameEnd s o_ U_ L_ r_m0.cells r_m0.slots) (fun t_ k_ => castTop (ef_asl m b) k_) ?_
  show Gl p.tables e below _ (s₁.setTop (mkF m 0 #[sR b] []))
  refine Gl.go (fun _ hr => zXS_aloadN X0.here hx rfl (hb hby d23_0) rfl rfl hr) ?_
  refine gGetF (host := "") Gl.cl X0 hx hZ hown (Or.inl (tw hw 87 rfl)) Via.refl e0 q0 rfl rfl (hb hby d23_1) ?_
  intro T616 X616 e616
  obtain ⟨fs, hr, hrun, hended, hW, hsame⟩ := X616.leave (v := some (.int n)) (fun h => by rw [Bd.returns] at h; cases h)
  refine ⟨_, _, retOut X616 hx Bd.returns rfl (Or.inl ⟨rfl, Or.inl rfl, _, rfl⟩) (hb hby d23_4) hr, hrun, hended, _, _, rfl, ?_, ⟨⟨_, rfl⟩, hW, hsame.mono (by decide) (by decide)⟩⟩
  show Qasl Z b n h0 n0 _ T616.heap _
  rw [e616]
  exact ⟨rfl, N0, rfl⟩
def Qsbl (Z : State) (b : Addr) (n : Int32) (h0 : Heap) (n0 : Nat) (v : Option Value) (h : Heap) (L : List Loc) : Prop := v = some (.int n) ∧ Fr n0 L ∧ h = h0
theorem ef_sbl (m : MethodId) (x0 : Addr) : entryFrame m #[(.ref x0)] 1 = mkF m 0 #[sR x0] [] := by first | (simp [entryFrame, mkF, argsToLocals, Value.category]; done) | rfl
theorem d22_0 : decode jdk_67_method_93_code 0 = .ok (.aload_n 0, 1) := by decide +kernel
theorem d22_1 : decode jdk_67_method_93_code 1 = .ok (.invokespecial 343, 3) := by decide +kernel
theorem d22_4 : decode jdk_67_method_93_code 4 = .ok (.ireturn, 1) := by decide +kernel
set_option maxRecDepth 65536 in
set_option maxHeartbeats 40000000 in
theorem sbl (l : Launch) (Z : State) (a0 : Array Value) (hw : ∀ d ∈ tables_1, d.before a0 Z = true) (ws : List Jvm.Cond) (b : Addr) (n : Int32) (h0 : Heap) (n0 : Nat) (Z0 : n0 ≤ h0.size) (q0 : Exa Z h0 b "java/lang/StringBuilder") (q1 : Fld Z h0 b "java/lang/AbstractStringBuilder" "count" "I" (.int n)) :
    MetFree l y_28 (head1 (Jvm.Cond.code y_28 jdk_67_method_93_code 1 (some .int) :: ws) r_m21) (fun a_ U_ => a_ = #[(.ref b)] ∧ Z.Warmed39 U_.vm ∧ U_.heap = h0) (fun _ _ _ _ _ => True) (fun _ U_ o_ V_ => ∃ v_ L_, o_ = .returned v_ ∧ Qsbl Z b n h0 n0 v_ V_.heap L_ ∧ FrameEnd U_ o_ V_ L_ r_m21.cells r_m21.slots) := by
  refine MetFree.of_bodySF (plainFor_of_name pn_5) hisR ?_
  intro p e s m args below meth c s₁ Bd hml0 hP hK
  obtain ⟨rfl, hZ, hh⟩ := hP
  have hx := Bd.exec
  have hby := Bd.bytes
  have hml : c.maxLocals = 1 := hml0
  have hown : s.vm.findClass "java/lang/StringBuilder" = some m.cls := findClass_of_methodNamed Bd.named
  have hnm := (name_of_methodNamed Bd.named Bd.method).1
  have X0 : Stand p l e r_m21 s m #[(.ref b)] below meth c s₁ [] 0 0 := Stand.of_body Bd
  have e0 : s₁.heap = h0 := by rw [← hh, Bd.state]; rfl
  have N0 := Fr.nil n0
  have lt617 := own_alt q0.lt
  have lt618 := own_alt q1.lt
  refine Gl.go (A := s₁.setTop (entryFrame m #[(.ref b)] 1)) (P := fun o_ U_ => ∃ v_ L_, o_ = .returned v_ ∧ Qsbl Z b n h0 n0 v_ U_.heap L_ ∧ FrameEnd s o_ U_ L_ r_m21.cells r_m21.slots) (fun t_ k_ => castTop (ef_sbl m b) k_) ?_
  show Gl p.tables e below _ (s₁.setTop (mkF m 0 #[sR b] []))
  refine Gl.go (fun _ hr => zXS_aloadN X0.here hx rfl (hb hby d22_0) rfl rfl hr) ?_
  have zz619 : n0 ≤ h0.size := by omega
  refine gSuperN Gl.cl (y := y_27) (b := b) (argsL := []) (rest := []) (mc := 0) (ms := 0) X0 hx hZ hown (tw hw 138 rfl) (own_same (y := y_27) (tw hw 133 rfl) (tw hw 92 rfl) rfl (by decide)) (tw hw 134 rfl) (tw hw 73 rfl) (by decide) (tw hw 139 rfl) (Ins.self q0) (backOf (W := 0) (asl l Z a0 hw [] b n h0 n0 zz619 q1) hZ (tw hw 139 rfl) (tw hw 58 rfl) (by decide) (by decide)) rfl (by rw [hml]; rfl) (lenOf pd_18 rfl) rfl (by exact Nat.le_of_eq rfl) (hb hby d22_1) rfl e0 (by decide) (by decide) ?_
  intro v619 T619 Lc619 hQ619 X619
  obtain ⟨rfl, Nq619, e619⟩ := hQ619
  have N619 := Fr.app N0 Nq619
  obtain ⟨fs, hr, hrun, hended, hW, hsame⟩ := X619.leave (v := some (.int n)) (fun h => by rw [Bd.returns] at h; cases h)
  refine ⟨_, _, retOut X619 hx Bd.returns rfl (Or.inl ⟨rfl, Or.inl rfl, _, rfl⟩) (hb hby d22_4) hr, hrun, hended, _, _, rfl, ?_, ⟨⟨_, rfl⟩, hW, hsame.mono (by decide) (by decide)⟩⟩
  show Qsbl Z b n h0 n0 _ T619.heap _
  rw [e619]
  exact ⟨rfl, N619, rfl⟩
def Qcl (Z : State) (k : Nat) (zz : Nat) (h0 : Heap) (n0 : Nat) (v : Option Value) (h : Heap) (L : List Loc) : Prop := v = none ∧ Fr n0 L ∧ h = h0
theorem pn_6 : plainName "java/util/Arrays" = true := by first | (simp [plainName, overriddenIn]; done) | decide +kernel
theorem ef_cl (m : MethodId) (x0 : Int32) (x1 : Int32) : entryFrame m #[(.int x0), (.int x1)] 2 = mkF m 0 #[sI x0, sI x1] [] := by first | (simp [entryFrame, mkF, argsToLocals, Value.category]; done) | rfl
theorem d27_0 : decode jdk_65_method_131_code 0 = .ok (.iload_n 1, 1) := by decide +kernel
theorem d27_1 : decode jdk_65_method_131_code 1 = .ok (.iload_n 0, 1) := by decide +kernel
theorem d27_2 : decode jdk_65_method_131_code 2 = .ok (.if_icmp .ge 35, 3) := by decide +kernel
theorem d27_37 : decode jdk_65_method_131_code 37 = .ok (.return_, 1) := by decide +kernel
set_option maxRecDepth 65536 in
set_option maxHeartbeats 40000000 in
theorem cl (l : Launch) (Z : State) (a0 : Array Value) (hw : ∀ d ∈ tables_1, d.before a0 Z = true) (ws : List Jvm.Cond) (k : Nat) (zz : Nat) (h0 : Heap) (n0 : Nat) (Z0 : n0 ≤ h0.size) (hk : k < zz) (hzz : zz ≤ 36) :
    MetFree l y_29 (head1 (Jvm.Cond.code y_29 jdk_65_method_131_code 2 none :: ws) r_m0) (fun a_ U_ => a_ = #[(.int (0 : Int32)), (.int (Int32.ofNat k))] ∧ Z.Warmed39 U_.vm ∧ U_.heap = h0) (fun _ _ _ _ _ => True) (fun _ U_ o_ V_ => ∃ v_ L_, o_ = .returned v_ ∧ Qcl Z k zz h0 n0 v_ V_.heap L_ ∧ FrameEnd U_ o_ V_ L_ r_m0.cells r_m0.slots) := by
  refine MetFree.of_bodySF (plainFor_of_name pn_6) hisR ?_
  intro p e s m args below meth c s₁ Bd hml0 hP hK
  obtain ⟨rfl, hZ, hh⟩ := hP
  have hx := Bd.exec
  have hby := Bd.bytes
  have hml : c.maxLocals = 2 := hml0
  have hown : s.vm.findClass "java/util/Arrays" = some m.cls := findClass_of_methodNamed Bd.named
  have hnm := (name_of_methodNamed Bd.named Bd.method).1
  have X0 : Stand p l e r_m0 s m #[(.int (0 : Int32)), (.int (Int32.ofNat k))] below meth c s₁ [] 0 0 := Stand.of_body Bd
  have e0 : s₁.heap = h0 := by rw [← hh, Bd.state]; rfl
  have N0 := Fr.nil n0
  refine Gl.go (A := s₁.setTop (entryFrame m #[(.int (0 : Int32)), (.int (Int32.ofNat k))] 2)) (P := fun o_ U_ => ∃ v_ L_, o_ = .returned v_ ∧ Qcl Z k zz h0 n0 v_ U_.heap L_ ∧ FrameEnd s o_ U_ L_ r_m0.cells r_m0.slots) (fun t_ k_ => castTop (ef_cl m (0 : Int32) (Int32.ofNat k)) k_) ?_
  show Gl p.tables e below _ (s₁.setTop (mkF m 0 #[sI 0, sI (Int32.ofNat k)] []))
  refine Gl.go (fun _ hr => zXS_iloadN X0.here hx rfl (hb hby d27_0) rfl (zXS_iloadN X0.here hx rfl (hb hby d27_1) rfl hr)) ?_
  refine Gl.go (fun _ hr => zXS_icmpYes X0.here hx rfl (pc0 := 2) (pc' := 37) rfl (hb hby d27_2) rfl (XT.ii_ge_t (own_nn (by omega))) (by decide) (by decide) hr) ?_
  obtain ⟨fs, hr, hrun, hended, hW, hsame⟩ := X0.leave (v := none) (fun _ => rfl)
  refine ⟨_, _, X0.returnOut hx Bd.returns (hb hby d27_37) hr, hrun, hended, _, _, rfl, ?_, ⟨⟨_, rfl⟩, hW, hsame.mono (by decide) (by decide)⟩⟩
  show Qcl Z k zz h0 n0 _ s₁.heap _
  rw [e0]
  exact ⟨rfl, N0, rfl⟩
def Qmn (Z : State) (zz : Nat) (k : Nat) (h0 : Heap) (n0 : Nat) (v : Option Value) (h : Heap) (L : List Loc) : Prop := v = some (.int (Int32.ofNat k)) ∧ Fr n0 L ∧ h = h0
theorem ef_mn (m : MethodId) (x0 : Int32) (x1 : Int32) : entryFrame m #[(.int x0), (.int x1)] 2 = mkF m 0 #[sI x0, sI x1] [] := by first | (simp [entryFrame, mkF, argsToLocals, Value.category]; done) | rfl
theorem d28_0 : decode jdk_29_method_69_code 0 = .ok (.iload_n 0, 1) := by decide +kernel
theorem d28_1 : decode jdk_29_method_69_code 1 = .ok (.iload_n 1, 1) := by decide +kernel
theorem d28_2 : decode jdk_29_method_69_code 2 = .ok (.if_icmp .gt 7, 3) := by decide +kernel
theorem d28_9 : decode jdk_29_method_69_code 9 = .ok (.iload_n 1, 1) := by decide +kernel
theorem d28_10 : decode jdk_29_method_69_code 10 = .ok (.ireturn, 1) := by decide +kernel
set_option maxRecDepth 65536 in
set_option maxHeartbeats 40000000 in
theorem mn (l : Launch) (Z : State) (a0 : Array Value) (hw : ∀ d ∈ tables_1, d.before a0 Z = true) (ws : List Jvm.Cond) (zz : Nat) (k : Nat) (h0 : Heap) (n0 : Nat) (Z0 : n0 ≤ h0.size) (hk : k < zz) (hzz : zz ≤ 36) :
    MetFree l y_30 (head1 (Jvm.Cond.code y_30 jdk_29_method_69_code 2 (some .int) :: ws) r_m0) (fun a_ U_ => a_ = #[(.int (Int32.ofNat zz)), (.int (Int32.ofNat k))] ∧ Z.Warmed39 U_.vm ∧ U_.heap = h0) (fun _ _ _ _ _ => True) (fun _ U_ o_ V_ => ∃ v_ L_, o_ = .returned v_ ∧ Qmn Z zz k h0 n0 v_ V_.heap L_ ∧ FrameEnd U_ o_ V_ L_ r_m0.cells r_m0.slots) := by
  refine MetFree.of_bodySF (Jvm.Free.JP.mathPlain rfl (by decide +kernel)) hisR ?_
  intro p e s m args below meth c s₁ Bd hml0 hP hK
  obtain ⟨rfl, hZ, hh⟩ := hP
  have hx := Bd.exec
  have hby := Bd.bytes
  have hml : c.maxLocals = 2 := hml0
  have hown : s.vm.findClass "java/lang/Math" = some m.cls := findClass_of_methodNamed Bd.named
  have hnm := (name_of_methodNamed Bd.named Bd.method).1
  have X0 : Stand p l e r_m0 s m #[(.int (Int32.ofNat zz)), (.int (Int32.ofNat k))] below meth c s₁ [] 0 0 := Stand.of_body Bd
  have e0 : s₁.heap = h0 := by rw [← hh, Bd.state]; rfl
  have N0 := Fr.nil n0
  refine Gl.go (A := s₁.setTop (entryFrame m #[(.int (Int32.ofNat zz)), (.int (Int32.ofNat k))] 2)) (P := fun o_ U_ => ∃ v_ L_, o_ = .returned v_ ∧ Qmn Z zz k h0 n0 v_ U_.heap L_ ∧ FrameEnd s o_ U_ L_ r_m0.cells r_m0.slots) (fun t_ k_ => castTop (ef_mn m (Int32.ofNat zz) (Int32.ofNat k)) k_) ?_
  show Gl p.tables e below _ (s₁.setTop (mkF m 0 #[sI (Int32.ofNat zz), sI (Int32.ofNat k)] []))
  refine Gl.go (fun _ hr => zXS_iloadN X0.here hx rfl (hb hby d28_0) rfl (zXS_iloadN X0.here hx rfl (hb hby d28_1) rfl hr)) ?_
  refine Gl.go (fun _ hr => zXS_icmpYes X0.here hx rfl (pc0 := 2) (pc' := 9) rfl (hb hby d28_2) rfl (XT.ii_gt_t (own_lt32 (by omega) hk)) (by decide) (by decide) (zXS_iloadN X0.here hx rfl (hb hby d28_9) rfl hr)) ?_
  obtain ⟨fs, hr, hrun, hended, hW, hsame⟩ := X0.leave (v := some (.int (Int32.ofNat k))) (fun h => by rw [Bd.returns] at h; cases h)
  refine ⟨_, _, retOut X0 hx Bd.returns rfl (Or.inl ⟨rfl, Or.inl rfl, _, rfl⟩) (hb hby d28_10) hr, hrun, hended, _, _, rfl, ?_, ⟨⟨_, rfl⟩, hW, hsame.mono (by decide) (by decide)⟩⟩
  show Qmn Z zz k h0 n0 _ s₁.heap _
  rw [e0]
  exact ⟨rfl, N0, rfl⟩
def Qcrb (Z : State) (a : Addr) (ka : ClassId) (zz : Nat) (k : Nat) (xs : List Value) (h0 : Heap) (n0 : Nat) (v : Option Value) (h : Heap) (L : List Loc) : Prop := ∃ (r : Addr), ∃ (kr : ClassId), v = some (.ref r) ∧ Fr n0 L ∧ Keep h0 h [] ∧ (Arv Z h r kr .byte (Int32.ofNat k) xs (.int (0 : Int32))) ∧ (@LE.le Nat instLENat h0.size r)
theorem ef_crb (m : MethodId) (x0 : Addr) (x1 : Int32) (x2 : Int32) : entryFrame m #[(.ref x0), (.int x1), (.int x2)] 5 = mkF m 0 #[sR x0, sI x1, sI x2, sU, sU] [] := by first | (simp [entryFrame, mkF, argsToLocals, Value.category]; done) | rfl
theorem d26_0 : decode jdk_65_method_133_code 0 = .ok (.iload_n 1, 1) := by decide +kernel
theorem d26_1 : decode jdk_65_method_133_code 1 = .ok (.iload_n 2, 1) := by decide +kernel
theorem d26_2 : decode jdk_65_method_133_code 2 = .ok (.invokestatic 343, 3) := by decide +kernel
theorem pd_22 : parseMethodDescriptor "(II)V" = some ⟨[.int, .int], none⟩ := by decide +kernel
theorem d26_5 : decode jdk_65_method_133_code 5 = .ok (.iload_n 2, 1) := by decide +kernel
theorem d26_6 : decode jdk_65_method_133_code 6 = .ok (.iload_n 1, 1) := by decide +kernel
theorem d26_7 : decode jdk_65_method_133_code 7 = .ok (.isub, 1) := by decide +kernel
theorem d26_8 : decode jdk_65_method_133_code 8 = .ok (.istore_n 3, 1) := by decide +kernel
theorem d26_9 : decode jdk_65_method_133_code 9 = .ok (.iload_n 3, 1) := by decide +kernel
theorem d26_10 : decode jdk_65_method_133_code 10 = .ok (.newarray .byte, 2) := by decide +kernel
theorem d26_12 : decode jdk_65_method_133_code 12 = .ok (.astore 4, 2) := by decide +kernel
theorem d26_14 : decode jdk_65_method_133_code 14 = .ok (.aload_n 0, 1) := by decide +kernel
theorem d26_15 : decode jdk_65_method_133_code 15 = .ok (.iload_n 1, 1) := by decide +kernel
theorem d26_16 : decode jdk_65_method_133_code 16 = .ok (.aload 4, 2) := by decide +kernel
theorem d26_18 : decode jdk_65_method_133_code 18 = .ok (.iconst 0, 1) := by decide +kernel
theorem d26_19 : decode jdk_65_method_133_code 19 = .ok (.aload_n 0, 1) := by decide +kernel
theorem d26_20 : decode jdk_65_method_133_code 20 = .ok (.arraylength, 1) := by decide +kernel
theorem d26_21 : decode jdk_65_method_133_code 21 = .ok (.iload_n 1, 1) := by decide +kernel
theorem d26_22 : decode jdk_65_method_133_code 22 = .ok (.isub, 1) := by decide +kernel
theorem d26_23 : decode jdk_65_method_133_code 23 = .ok (.iload_n 3, 1) := by decide +kernel
theorem d26_24 : decode jdk_65_method_133_code 24 = .ok (.invokestatic 304, 3) := by decide +kernel
theorem pd_23 : parseMethodDescriptor "(II)I" = some ⟨[.int, .int], some .int⟩ := by decide +kernel
theorem d26_27 : decode jdk_65_method_133_code 27 = .ok (.invokestatic 150, 3) := by decide +kernel
theorem d26_30 : decode jdk_65_method_133_code 30 = .ok (.aload 4, 2) := by decide +kernel
theorem d26_32 : decode jdk_65_method_133_code 32 = .ok (.areturn, 1) := by decide +kernel
set_option maxRecDepth 65536 in
set_option maxHeartbeats 40000000 in
theorem crb (l : Launch) (Z : State) (a0 : Array Value) (hw : ∀ d ∈ tables_1, d.before a0 Z = true) (ws : List Jvm.Cond) (a : Addr) (ka : ClassId) (zz : Nat) (k : Nat) (xs : List Value) (h0 : Heap) (n0 : Nat) (Z0 : n0 ≤ h0.size) (q0 : Arv Z h0 a ka .byte (Int32.ofNat zz) xs (.int (0 : Int32))) (hxl : xs.length = k) (hk : k < zz) (hzz : zz ≤ 36) :
    MetFree l y_31 (head1 (Jvm.Cond.code y_31 jdk_65_method_133_code 5 (some (.array .byte)) :: ws) r_m22) (fun a_ U_ => a_ = #[(.ref a), (.int (0 : Int32)), (.int (Int32.ofNat k))] ∧ Z.Warmed39 U_.vm ∧ U_.heap = h0) (fun _ _ _ _ _ => True) (fun _ U_ o_ V_ => ∃ v_ L_, o_ = .returned v_ ∧ Qcrb Z a ka zz k xs h0 n0 v_ V_.heap L_ ∧ FrameEnd U_ o_ V_ L_ r_m22.cells r_m22.slots) := by
  refine MetFree.of_bodySF (plainFor_of_name pn_6) hisR ?_
  intro p e s m args below meth c s₁ Bd hml0 hP hK
  obtain ⟨rfl, hZ, hh⟩ := hP
  have hx := Bd.exec
  have hby := Bd.bytes
  have hml : c.maxLocals = 5 := hml0
  have hown : s.vm.findClass "java/util/Arrays" = some m.cls := findClass_of_methodNamed Bd.named
  have hnm := (name_of_methodNamed Bd.named Bd.method).1
  have X0 : Stand p l e r_m22 s m #[(.ref a), (.int (0 : Int32)), (.int (Int32.ofNat k))] below meth c s₁ [] 0 0 := Stand.of_body Bd
  have e0 : s₁.heap = h0 := by rw [← hh, Bd.state]; rfl
  have N0 := Fr.nil n0
  have lt620 := own_alt q0.lt
  refine Gl.go (A := s₁.setTop (entryFrame m #[(.ref a), (.int (0 : Int32)), (.int (Int32.ofNat k))] 5)) (P := fun o_ U_ => ∃ v_ L_, o_ = .returned v_ ∧ Qcrb Z a ka zz k xs h0 n0 v_ U_.heap L_ ∧ FrameEnd s o_ U_ L_ r_m22.cells r_m22.slots) (fun t_ k_ => castTop (ef_crb m a (0 : Int32) (Int32.ofNat k)) k_) ?_
  show Gl p.tables e below _ (s₁.setTop (mkF m 0 #[sR a, sI 0, sI (Int32.ofNat k), sU, sU] []))
  refine Gl.go (fun _ hr => zXS_iloadN X0.here hx rfl (hb hby d26_0) rfl (zXS_iloadN X0.here hx rfl (hb hby d26_1) rfl hr)) ?_
  have zz621 : n0 ≤ h0.size := by omega
  refine gStaticN Gl.cl (y := y_29) (argsL := [(.int (0 : Int32)), (.int (Int32.ofNat k))]) (rest := []) (mc := 0) (ms := 0) X0 hx hZ hown (mvT hZ (tw hw 152 rfl)) (mvT hZ (tw hw 153 rfl)) (mvT hZ (tw hw 147 rfl)) (mvT hZ (tw hw 154 rfl)) (by decide) (backOf (W := 0) (cl l Z a0 hw [] k zz h0 n0 zz621 (by assumption) (by assumption)) hZ (tw hw 154 rfl) (tw hw 147 rfl) (by decide) (by decide)) rfl (by rw [hml]; rfl) (lenOf pd_22 rfl) rfl (by exact Nat.le_of_eq rfl) (hb hby d26_2) rfl e0 (by decide) (by decide) ?_
  intro v621 T621 Lc621 hQ621 X621
  obtain ⟨rfl, Nq621, e621⟩ := hQ621
  have N621 := Fr.app N0 Nq621
  refine Gl.go (fun _ hr => zXS_iloadN X621.here hx rfl (hb hby d26_5) rfl (zXS_iloadN X621.here hx rfl (hb hby d26_6) rfl (zXS_isub X621.here hx rfl (hb hby d26_7) rfl hr))) ?_
  show Gl p.tables e below _ (T621.setTop (mkF m 8 #[sR a, sI 0, sI (Int32.ofNat k), sU, sU] [(.int ((Int32.ofNat k) - (0 : Int32)))]))
  rw [own_sub0]
  show Gl p.tables e below _ (T621.setTop (mkF m 8 #[sR a, sI 0, sI (Int32.ofNat k), sU, sU] [(.int (Int32.ofNat k))]))
  refine Gl.go (fun _ hr => zXS_istoreN X621.here hx rfl (hb hby d26_8) rfl (l' := #[sR a, sI 0, sI (Int32.ofNat k), sI (Int32.ofNat k), sU]) rfl (zXS_iloadN X621.here hx rfl (hb hby d26_9) rfl hr)) ?_
  refine gNewP Gl.cl X621 hx hZ (tw hw 20 rfl) e621 rfl (hb hby d26_10) rfl (own_nn (by omega)) (cap := 36) (by rw [own_nat32 (by omega)]; omega) (by decide) (by decide) (by decide) ?_
  intro T622 h622 b622 k622 g622 X622 e622 E622 A622
  have z623 : h0.size ≤ h622.size := E622.1
  have lt622 := own_alt A622.lt
  have V622 : Arv Z h622 b622 k622 .byte (Int32.ofNat k) [] (.int (0 : Int32)) := (Arv.new A622 (own_nn (by omega))).pad (pad_rep [] (.int (0 : Int32)) 0)
  refine Gl.go (fun _ hr => zXS_astore X622.here hx rfl (hb hby d26_12) rfl rfl (l' := #[sR a, sI 0, sI (Int32.ofNat k), sI (Int32.ofNat k), sR b622]) rfl (zXS_aloadN X622.here hx rfl (hb hby d26_14) rfl rfl (zXS_iloadN X622.here hx rfl (hb hby d26_15) rfl (zXS_aload X622.here hx rfl (hb hby d26_16) rfl rfl (zXS_iconst X622.here hx rfl (hb hby d26_18) (zXS_aloadN X622.here hx rfl (hb hby d26_19) rfl rfl hr)))))) ?_
  have Vc624 := (q0.ext E622)
  obtain ⟨c625, a625, q625, s625, m625, H625, U625⟩ := id Vc624
  refine gLen Gl.cl X622 hx hZ e622 a625 s625 m625 rfl rfl (hb hby d26_20) ?_
  refine Gl.go (fun _ hr => zXS_iloadN X622.here hx rfl (hb hby d26_21) rfl (zXS_isub X622.here hx rfl (hb hby d26_22) rfl hr)) ?_
  show Gl p.tables e below _ (T622.setTop (mkF m 23 #[sR a, sI 0, sI (Int32.ofNat k), sI (Int32.ofNat k), sR b622] [(.int ((Int32.ofNat zz) - (0 : Int32))), (.int (0 : Int32)), (.ref b622), (.int (0 : Int32)), (.ref a)]))
  rw [own_sub0]
  show Gl p.tables e below _ (T622.setTop (mkF m 23 #[sR a, sI 0, sI (Int32.ofNat k), sI (Int32.ofNat k), sR b622] [(.int (Int32.ofNat zz)), (.int (0 : Int32)), (.ref b622), (.int (0 : Int32)), (.ref a)]))
  refine Gl.go (fun _ hr => zXS_iloadN X622.here hx rfl (hb hby d26_23) rfl hr) ?_
  have zz626 : n0 ≤ h622.size := by omega
  refine gStaticN Gl.cl (y := y_30) (argsL := [(.int (Int32.ofNat zz)), (.int (Int32.ofNat k))]) (rest := [(.int (0 : Int32)), (.ref b622), (.int (0 : Int32)), (.ref a)]) (mc := 0) (ms := 0) X622 hx hZ hown (mvT hZ (tw hw 155 rfl)) (mvT hZ (tw hw 156 rfl)) (mvT hZ (tw hw 157 rfl)) (mvT hZ (tw hw 158 rfl)) (by decide) (backOf (W := 4) (mn l Z a0 hw [] zz k h622 n0 zz626 (by assumption) (by assumption)) hZ (tw hw 158 rfl) (tw hw 157 rfl) (by decide) (by decide)) rfl (by rw [hml]; rfl) (lenOf pd_23 rfl) rfl (by exact Nat.le_of_eq rfl) (hb hby d26_24) rfl e622 (by decide) (by decide) ?_
  intro v626 T626 Lc626 hQ626 X626
  obtain ⟨rfl, Nq626, e626⟩ := hQ626
  have N626 := Fr.app N621 Nq626
  refine gCopy Gl.cl (us := xs) (n0 := n0) (W := 0) X626 hx hZ hown (tw hw 159 rfl) (tw hw 113 rfl) (tw hw 111 rfl) (tw hw 112 rfl) e626 Vc624 (V622.pad (pad_rep ([]) (.int (0 : Int32)) k)) (Or.inl ⟨rfl, rfl⟩) (by decide) (by decide) (own_nn (by omega)) (by rw [own_z0, own_nat32 (by omega), own_nat32 (by omega)]; omega) (by rw [own_z0, Nat.zero_add]; exact Nat.le_refl _) (own_us hxl (by omega)) (by rw [own_z0, own_nat32 (by omega)]; simp) N626 (by omega) rfl (by rw [hml]; rfl) rfl (hb hby d26_27) (by decide) (by exact Nat.le_of_eq rfl) (by decide) ?_
  intro T627 h627 L627 X627 e627 N627 K627 Vr627
  have z628 : h622.size ≤ h627.size := K627.1
  have V627 : Arv Z h627 b622 k622 .byte (Int32.ofNat k) xs (.int (0 : Int32)) := own_cpy (by omega) Vr627
  refine Gl.go (fun _ hr => zXS_aload X627.here hx rfl (hb hby d26_30) rfl rfl hr) ?_
  obtain ⟨fs, hr, hrun, hended, hW, hsame⟩ := X627.leave (v := some (.ref b622)) (fun h => by rw [Bd.returns] at h; cases h)
  have om629 : @LE.le Nat instLENat h0.size b622 := by omega
  refine ⟨_, _, retOut X627 hx Bd.returns rfl (Or.inr (Or.inr (Or.inr (Or.inr ⟨rfl, rfl, rfl⟩)))) (hb hby d26_32) hr, hrun, hended, _, _, rfl, ?_, ⟨⟨_, rfl⟩, hW, hsame.mono (by decide) (by decide)⟩⟩
  show Qcrb Z a ka zz k xs h0 n0 _ T627.heap _
  rw [e627]
  exact ⟨b622, k622, rfl, N627, (((Keep.refl h0 []).ext E622).trans K627 (allS (P := fun x_ => x_ ∈ ([] : List Addr) ∨ h0.size ≤ x_) (Or.inr (own_ale om629)) all0)), V627, (by omega)⟩
def Qcor (Z : State) (a : Addr) (ka : ClassId) (zz : Nat) (k : Nat) (xs : List Value) (h0 : Heap) (n0 : Nat) (v : Option Value) (h : Heap) (L : List Loc) : Prop := ∃ (r : Addr), ∃ (kr : ClassId), v = some (.ref r) ∧ Fr n0 L ∧ Keep h0 h [] ∧ (Arv Z h r kr .byte (Int32.ofNat k) xs (.int (0 : Int32))) ∧ (@LE.le Nat instLENat h0.size r)
theorem ef_cor (m : MethodId) (x0 : Addr) (x1 : Int32) (x2 : Int32) : entryFrame m #[(.ref x0), (.int x1), (.int x2)] 3 = mkF m 0 #[sR x0, sI x1, sI x2] [] := by first | (simp [entryFrame, mkF, argsToLocals, Value.category]; done) | rfl
theorem d25_0 : decode jdk_65_method_132_code 0 = .ok (.iload_n 1, 1) := by decide +kernel
theorem d25_1 : decode jdk_65_method_132_code 1 = .ok (.ifCond .ne 9, 3) := by decide +kernel
theorem d25_4 : decode jdk_65_method_132_code 4 = .ok (.iload_n 2, 1) := by decide +kernel
theorem d25_5 : decode jdk_65_method_132_code 5 = .ok (.aload_n 0, 1) := by decide +kernel
theorem d25_6 : decode jdk_65_method_132_code 6 = .ok (.arraylength, 1) := by decide +kernel
theorem d25_7 : decode jdk_65_method_132_code 7 = .ok (.if_icmp .eq 10, 3) := by decide +kernel
theorem d25_10 : decode jdk_65_method_132_code 10 = .ok (.aload_n 0, 1) := by decide +kernel
theorem d25_11 : decode jdk_65_method_132_code 11 = .ok (.iload_n 1, 1) := by decide +kernel
theorem d25_12 : decode jdk_65_method_132_code 12 = .ok (.iload_n 2, 1) := by decide +kernel
theorem d25_13 : decode jdk_65_method_132_code 13 = .ok (.invokestatic 339, 3) := by decide +kernel
theorem pd_24 : parseMethodDescriptor "([BII)[B" = some ⟨[(.array .byte), .int, .int], some (.array .byte)⟩ := by decide +kernel
theorem d25_16 : decode jdk_65_method_132_code 16 = .ok (.areturn, 1) := by decide +kernel
set_option maxRecDepth 65536 in
set_option maxHeartbeats 40000000 in
theorem cor (l : Launch) (Z : State) (a0 : Array Value) (hw : ∀ d ∈ tables_1, d.before a0 Z = true) (ws : List Jvm.Cond) (a : Addr) (ka : ClassId) (zz : Nat) (k : Nat) (xs : List Value) (h0 : Heap) (n0 : Nat) (Z0 : n0 ≤ h0.size) (q0 : Arv Z h0 a ka .byte (Int32.ofNat zz) xs (.int (0 : Int32))) (hxl : xs.length = k) (hk : k < zz) (hzz : zz ≤ 36) :
    MetFree l y_32 (head1 (Jvm.Cond.code y_32 jdk_65_method_132_code 3 (some (.array .byte)) :: ws) r_m23) (fun a_ U_ => a_ = #[(.ref a), (.int (0 : Int32)), (.int (Int32.ofNat k))] ∧ Z.Warmed39 U_.vm ∧ U_.heap = h0) (fun _ _ _ _ _ => True) (fun _ U_ o_ V_ => ∃ v_ L_, o_ = .returned v_ ∧ Qcor Z a ka zz k xs h0 n0 v_ V_.heap L_ ∧ FrameEnd U_ o_ V_ L_ r_m23.cells r_m23.slots) := by
  refine MetFree.of_bodySF (plainFor_of_name pn_6) hisR ?_
  intro p e s m args below meth c s₁ Bd hml0 hP hK
  obtain ⟨rfl, hZ, hh⟩ := hP
  have hx := Bd.exec
  have hby := Bd.bytes
  have hml : c.maxLocals = 3 := hml0
  have hown : s.vm.findClass "java/util/Arrays" = some m.cls := findClass_of_methodNamed Bd.named
  have hnm := (name_of_methodNamed Bd.named Bd.method).1
  have X0 : Stand p l e r_m23 s m #[(.ref a), (.int (0 : Int32)), (.int (Int32.ofNat k))] below meth c s₁ [] 0 0 := Stand.of_body Bd
  have e0 : s₁.heap = h0 := by rw [← hh, Bd.state]; rfl
  have N0 := Fr.nil n0
  have lt630 := own_alt q0.lt
  refine Gl.go (A := s₁.setTop (entryFrame m #[(.ref a), (.int (0 : Int32)), (.int (Int32.ofNat k))] 3)) (P := fun o_ U_ => ∃ v_ L_, o_ = .returned v_ ∧ Qcor Z a ka zz k xs h0 n0 v_ U_.heap L_ ∧ FrameEnd s o_ U_ L_ r_m23.cells r_m23.slots) (fun t_ k_ => castTop (ef_cor m a (0 : Int32) (Int32.ofNat k)) k_) ?_
  show Gl p.tables e below _ (s₁.setTop (mkF m 0 #[sR a, sI 0, sI (Int32.ofNat k)] []))
  refine Gl.go (fun _ hr => zXS_iloadN X0.here hx rfl (hb hby d25_0) rfl (zXS_ifNo X0.here hx rfl (hb hby d25_1) rfl (XT.i0_ne_f (by decide)) (zXS_iloadN X0.here hx rfl (hb hby d25_4) rfl (zXS_aloadN X0.here hx rfl (hb hby d25_5) rfl rfl hr)))) ?_
  obtain ⟨c631, a631, q631, s631, m631, H631, U631⟩ := id q0
  refine gLen Gl.cl X0 hx hZ e0 a631 s631 m631 rfl rfl (hb hby d25_6) ?_
  refine Gl.go (fun _ hr => zXS_icmpNo X0.here hx rfl (hb hby d25_7) rfl (XT.ii_eq_f (own_ne32 (by omega) (by omega) (by omega))) (zXS_aloadN X0.here hx rfl (hb hby d25_10) rfl rfl (zXS_iloadN X0.here hx rfl (hb hby d25_11) rfl (zXS_iloadN X0.here hx rfl (hb hby d25_12) rfl hr)))) ?_
  have zz632 : n0 ≤ h0.size := by omega
  refine gStaticN Gl.cl (y := y_31) (argsL := [(.ref a), (.int (0 : Int32)), (.int (Int32.ofNat k))]) (rest := []) (mc := 1) (ms := 36) X0 hx hZ hown (mvT hZ (tw hw 149 rfl)) (mvT hZ (tw hw 150 rfl)) (mvT hZ (tw hw 147 rfl)) (mvT hZ (tw hw 151 rfl)) (by decide) (backOf (W := 0) (crb l Z a0 hw [] a ka zz k xs h0 n0 zz632 q0 (by assumption) (by assumption) (by assumption)) hZ (tw hw 151 rfl) (tw hw 147 rfl) (by decide) (by decide)) rfl (by rw [hml]; rfl) (lenOf pd_24 rfl) rfl (by exact Nat.le_of_eq rfl) (hb hby d25_13) rfl e0 (by decide) (by decide) ?_
  intro v632 T632 Lc632 hQ632 X632
  obtain ⟨r_632, kr_632, rfl, Nq632, K632, f632_0, f632_1⟩ := hQ632
  have z633 : h0.size ≤ T632.heap.size := K632.1
  have N632 := Fr.app N0 Nq632
  have lt634 := own_alt f632_0.lt
  obtain ⟨fs, hr, hrun, hended, hW, hsame⟩ := X632.leave (v := some (.ref r_632)) (fun h => by rw [Bd.returns] at h; cases h)
  refine ⟨_, _, retOut X632 hx Bd.returns rfl (Or.inr (Or.inr (Or.inr (Or.inr ⟨rfl, rfl, rfl⟩)))) (hb hby d25_16) hr, hrun, hended, _, _, rfl, ?_, ⟨⟨_, rfl⟩, hW, hsame.mono (by decide) (by decide)⟩⟩
  show Qcor Z a ka zz k xs h0 n0 _ T632.heap _
  exact ⟨r_632, kr_632, rfl, N632, ((Keep.refl h0 []).trans K632 all0), f632_0, (by omega)⟩
def Qsi20 (Z : State) (x : Addr) (b : Addr) (a : Addr) (ka : ClassId) (cap : Nat) (cs : List Int32) (G1 : Int32) (h0 : Heap) (n0 : Nat) (v : Option Value) (h : Heap) (L : List Loc) : Prop := ∃ (r : Addr), ∃ (kr : ClassId), v = none ∧ Fr n0 L ∧ Keep h0 h [x] ∧ (Exa Z h x "java/lang/String") ∧ (Fld Z h x "java/lang/String" "value" "[B" (.ref r)) ∧ (Fld Z h x "java/lang/String" "coder" "B" (.int (0 : Int32))) ∧ (Arv Z h r kr .byte (Int32.ofNat cs.length) (lb cs) (.int (0 : Int32))) ∧ (@LE.le Nat instLENat h0.size r)
theorem ef_si20 (m : MethodId) (x0 : Addr) (x1 : Addr) : entryFrame m #[(.ref x0), (.ref x1), .null] 5 = mkF m 0 #[sR x0, sR x1, .val .null, sU, sU] [] := by first | (simp [entryFrame, mkF, argsToLocals, Value.category]; done) | rfl
theorem d20_0 : decode jdk_42_method_150_code 0 = .ok (.aload_n 0, 1) := by decide +kernel
theorem d20_1 : decode jdk_42_method_150_code 1 = .ok (.invokespecial 1, 3) := by decide +kernel
theorem d20_4 : decode jdk_42_method_150_code 4 = .ok (.aload_n 1, 1) := by decide +kernel
theorem d20_5 : decode jdk_42_method_150_code 5 = .ok (.invokevirtual 552, 3) := by decide +kernel
theorem pd_25 : parseMethodDescriptor "()[B" = some ⟨[], some (.array .byte)⟩ := by decide +kernel
theorem d20_8 : decode jdk_42_method_150_code 8 = .ok (.astore_n 3, 1) := by decide +kernel
theorem d20_9 : decode jdk_42_method_150_code 9 = .ok (.aload_n 1, 1) := by decide +kernel
theorem d20_10 : decode jdk_42_method_150_code 10 = .ok (.invokevirtual 549, 3) := by decide +kernel
theorem d20_13 : decode jdk_42_method_150_code 13 = .ok (.istore 4, 2) := by decide +kernel
theorem d20_15 : decode jdk_42_method_150_code 15 = .ok (.aload_n 1, 1) := by decide +kernel
theorem d20_16 : decode jdk_42_method_150_code 16 = .ok (.invokevirtual 1047, 3) := by decide +kernel
theorem d20_19 : decode jdk_42_method_150_code 19 = .ok (.ifCond .eq 22, 3) := by decide +kernel
theorem d20_22 : decode jdk_42_method_150_code 22 = .ok (.aload_n 0, 1) := by decide +kernel
theorem d20_23 : decode jdk_42_method_150_code 23 = .ok (.iconst 0, 1) := by decide +kernel
theorem d20_24 : decode jdk_42_method_150_code 24 = .ok (.putfield 15, 3) := by decide +kernel
theorem d20_27 : decode jdk_42_method_150_code 27 = .ok (.aload_n 0, 1) := by decide +kernel
theorem d20_28 : decode jdk_42_method_150_code 28 = .ok (.aload_n 3, 1) := by decide +kernel
theorem d20_29 : decode jdk_42_method_150_code 29 = .ok (.iconst 0, 1) := by decide +kernel
theorem d20_30 : decode jdk_42_method_150_code 30 = .ok (.iload 4, 2) := by decide +kernel
theorem d20_32 : decode jdk_42_method_150_code 32 = .ok (.invokestatic 54, 3) := by decide +kernel
theorem d20_35 : decode jdk_42_method_150_code 35 = .ok (.putfield 9, 3) := by decide +kernel
theorem d20_38 : decode jdk_42_method_150_code 38 = .ok (.goto 59, 3) := by decide +kernel
theorem d20_97 : decode jdk_42_method_150_code 97 = .ok (.return_, 1) := by decide +kernel
set_option maxRecDepth 65536 in
set_option maxHeartbeats 40000000 in
theorem si20 (l : Launch) (Z : State) (a0 : Array Value) (hw : ∀ d ∈ tables_1, d.before a0 Z = true) (ws : List Jvm.Cond) (x : Addr) (b : Addr) (a : Addr) (ka : ClassId) (cap : Nat) (cs : List Int32) (G1 : Int32) (h0 : Heap) (n0 : Nat) (Z0 : n0 ≤ h0.size) (q0 : Sta Z Z.heap "java/lang/String" "COMPACT_STRINGS" "Z" (.int G1)) (P5 : ¬ (G1 = (0 : Int32))) (q2 : (Old Z Z.heap.size h0 ∧ @LE.le Nat instLENat Z.heap.size n0)) (q3 : @LE.le Nat instLENat n0 x) (q4 : Exa Z h0 x "java/lang/String") (q5 : Fld Z h0 x "java/lang/String" "value" "[B" .null) (q6 : Fld Z h0 x "java/lang/String" "coder" "B" (.int (0 : Int32))) (q7 : Exa Z h0 b "java/lang/StringBuilder") (q8 : Fld Z h0 b "java/lang/AbstractStringBuilder" "value" "[B" (.ref a)) (q9 : Fld Z h0 b "java/lang/AbstractStringBuilder" "coder" "B" (.int (0 : Int32))) (q10 : Fld Z h0 b "java/lang/AbstractStringBuilder" "count" "I" (.int (Int32.ofNat cs.length))) (q11 : Fld Z h0 b "java/lang/AbstractStringBuilder" "maybeLatin1" "Z" (.int (0 : Int32))) (q12 : Arv Z h0 a ka .byte (Int32.ofNat cap) (lb cs) (.int (0 : Int32))) (q13 : ¬ @Eq Nat x b) (q14 : ¬ @Eq Nat x a) (hcap : cap ≤ 18) (hlt : cs.length < cap) :
    MetFree l y_33 (head1 (Jvm.Cond.code y_33 jdk_42_method_150_code 5 none :: ws) r_m24) (fun a_ U_ => a_ = #[(.ref x), (.ref b), .null] ∧ Z.Warmed39 U_.vm ∧ U_.heap = h0) (fun _ _ _ _ _ => True) (fun _ U_ o_ V_ => ∃ v_ L_, o_ = .returned v_ ∧ Qsi20 Z x b a ka cap cs G1 h0 n0 v_ V_.heap L_ ∧ FrameEnd U_ o_ V_ L_ r_m24.cells r_m24.slots) := by
  refine MetFree.of_bodySF (plainFor_of_name pn_1) hisR ?_
  intro p e s m args below meth c s₁ Bd hml0 hP hK
  obtain ⟨rfl, hZ, hh⟩ := hP
  have hx := Bd.exec
  have hby := Bd.bytes
  have hml : c.maxLocals = 5 := hml0
  have hown : s.vm.findClass "java/lang/String" = some m.cls := findClass_of_methodNamed Bd.named
  have hnm := (name_of_methodNamed Bd.named Bd.method).1
  have X0 : Stand p l e r_m24 s m #[(.ref x), (.ref b), .null] below meth c s₁ [] 0 0 := Stand.of_body Bd
  have e0 : s₁.heap = h0 := by rw [← hh, Bd.state]; rfl
  have N0 := Fr.nil n0
  have Oo := q2.1
  have zo := q2.2
  have lt635 := own_alt q4.lt
  have lt636 := own_alt q5.lt
  have lt637 := own_alt q6.lt
  have lt638 := own_alt q7.lt
  have lt639 := own_alt q8.lt
  have lt640 := own_alt q9.lt
  have lt641 := own_alt q10.lt
  have lt642 := own_alt q11.lt
  have lt643 := own_alt q12.lt
  refine Gl.go (A := s₁.setTop (entryFrame m #[(.ref x), (.ref b), .null] 5)) (P := fun o_ U_ => ∃ v_ L_, o_ = .returned v_ ∧ Qsi20 Z x b a ka cap cs G1 h0 n0 v_ U_.heap L_ ∧ FrameEnd s o_ U_ L_ r_m24.cells r_m24.slots) (fun t_ k_ => castTop (ef_si20 m x b) k_) ?_
  show Gl p.tables e below _ (s₁.setTop (mkF m 0 #[sR x, sR b, .val .null, sU, sU] []))
  refine Gl.go (fun _ hr => zXS_aloadN X0.here hx rfl (hb hby d20_0) rfl rfl hr) ?_
  refine gInit Gl.cl (W := 0) X0 hx hZ hown (tw hw 16 rfl) (tw hw 17 rfl) (tw hw 18 rfl) e0 rfl (by rw [hml]; rfl) rfl (hb hby d20_1) (by decide) (by exact Nat.le_of_eq rfl) (by decide) ?_
  intro T644 X644 e644
  refine Gl.go (fun _ hr => zXS_aloadN X644.here hx rfl (hb hby d20_4) rfl rfl hr) ?_
  have zz645 : n0 ≤ h0.size := by omega
  refine gVirtualN Gl.cl (y := y_26) (z := y_26) (b := b) (argsL := []) (rest := []) (mc := 0) (ms := 0) X644 hx hZ hown (mvT hZ (tw hw 127 rfl)) (mvT hZ (tw hw 128 rfl)) (notFace_of_selects (args := #[]) (mvT hZ (tw hw 130 rfl))) (mvT hZ (tw hw 130 rfl)) (mvT hZ (tw hw 129 rfl)) (by decide) q7 (backOf (W := 0) (gv l Z a0 hw [] b a h0 n0 zz645 q8) hZ (tw hw 131 rfl) (tw hw 58 rfl) (by decide) (by decide)) rfl (by rw [hml]; rfl) (lenOf pd_25 rfl) rfl (by exact Nat.le_of_eq rfl) (hb hby d20_5) rfl e644 (by decide) (by decide) ?_
  intro v645 T645 Lc645 hQ645 X645
  obtain ⟨rfl, Nq645, e645⟩ := hQ645
  have N645 := Fr.app N0 Nq645
  refine Gl.go (fun _ hr => zXS_astoreN X645.here hx rfl (hb hby d20_8) rfl rfl (l' := #[sR x, sR b, .val .null, sR a, sU]) rfl (zXS_aloadN X645.here hx rfl (hb hby d20_9) rfl rfl hr)) ?_
  have zz646 : n0 ≤ h0.size := by omega
  refine gVirtualN Gl.cl (y := y_27) (z := y_28) (b := b) (argsL := []) (rest := []) (mc := 0) (ms := 0) X645 hx hZ hown (mvT hZ (tw hw 132 rfl)) (mvT hZ (tw hw 133 rfl)) (own_notFace (args := #[]) (mvT hZ (tw hw 92 rfl)) rfl) (mvT hZ (tw hw 135 rfl)) (mvT hZ (tw hw 136 rfl)) (by decide) q7 (backOf (W := 0) (sbl l Z a0 hw [] b (Int32.ofNat cs.length) h0 n0 zz646 q7 q10) hZ (tw hw 137 rfl) (tw hw 50 rfl) (by decide) (by decide)) rfl (by rw [hml]; rfl) (lenOf pd_18 rfl) rfl (by exact Nat.le_of_eq rfl) (hb hby d20_10) rfl e645 (by decide) (by decide) ?_
  intro v646 T646 Lc646 hQ646 X646
  obtain ⟨rfl, Nq646, e646⟩ := hQ646
  have N646 := Fr.app N645 Nq646
  refine Gl.go (fun _ hr => zXS_istore X646.here hx rfl (hb hby d20_13) rfl (l' := #[sR x, sR b, .val .null, sR a, sI (Int32.ofNat cs.length)]) rfl (zXS_aloadN X646.here hx rfl (hb hby d20_15) rfl rfl hr)) ?_
  have zz647 : n0 ≤ h0.size := by omega
  refine gVirtualN Gl.cl (y := y_11) (z := y_11) (b := b) (argsL := []) (rest := []) (mc := 0) (ms := 0) X646 hx hZ hown (mvT hZ (tw hw 140 rfl)) (mvT hZ (tw hw 141 rfl)) (notFace_of_selects (args := #[]) (mvT hZ (tw hw 143 rfl))) (mvT hZ (tw hw 143 rfl)) (mvT hZ (tw hw 142 rfl)) (by decide) q7 (backOf (W := 0) (bl0 l Z a0 hw [] b G1 h0 n0 zz647 q0 (by assumption) ⟨Oo, (by omega)⟩ q9) hZ (tw hw 144 rfl) (tw hw 58 rfl) (by decide) (by decide)) rfl (by rw [hml]; rfl) (lenOf pd_14 rfl) rfl (by exact Nat.le_of_eq rfl) (hb hby d20_16) rfl e646 (by decide) (by decide) ?_
  intro v647 T647 Lc647 hQ647 X647
  obtain ⟨rfl, Nq647, e647⟩ := hQ647
  have N647 := Fr.app N646 Nq647
  refine Gl.go (fun _ hr => zXS_ifNo X647.here hx rfl (hb hby d20_19) rfl (XT.i0_eq_f (by decide)) (zXS_aloadN X647.here hx rfl (hb hby d20_22) rfl rfl (zXS_iconst X647.here hx rfl (hb hby d20_23) hr))) ?_
  refine gPutF (host := "") Gl.cl X647 hx hZ hown (Or.inl (tw hw 26 rfl)) Via.refl e647 q6 q4 (Or.inr ⟨(tw hw 22 rfl), rfl, hnm⟩) (tw hw 6 rfl) (ty := .byte) (by decide) rfl rfl rfl rfl (hb hby d20_24) ?_
  intro T648 h648 X648 e648 W648
  have z649 : h0.size ≤ h648.size := (Keep.of_wr W648).1
  have Fw648 := q6.same W648
  have om650 : @LE.le Nat instLENat n0 x := by omega
  have N648 := Fr.snoc X648 N647 (own_ale om650)
  refine Gl.go (fun _ hr => zXS_aloadN X648.here hx rfl (hb hby d20_27) rfl rfl (zXS_aloadN X648.here hx rfl (hb hby d20_28) rfl rfl (zXS_iconst X648.here hx rfl (hb hby d20_29) (zXS_iload X648.here hx rfl (hb hby d20_30) rfl hr)))) ?_
  have om652 : ¬ @Eq Nat a x := by omega
  have Vc653 := (q12.other W648 (own_ane om652))
  have zz651 : n0 ≤ h648.size := by omega
  refine gStaticN Gl.cl (y := y_32) (argsL := [(.ref a), (.int (0 : Int32)), (.int (Int32.ofNat cs.length))]) (rest := [(.ref x)]) (mc := 1) (ms := 36) X648 hx hZ hown (mvT hZ (tw hw 145 rfl)) (mvT hZ (tw hw 146 rfl)) (mvT hZ (tw hw 147 rfl)) (mvT hZ (tw hw 148 rfl)) (by decide) (backOf (W := 1) (cor l Z a0 hw [] a ka cap cs.length (lb cs) h648 n0 zz651 Vc653 (lb_len cs) (by omega) (by omega)) hZ (tw hw 148 rfl) (tw hw 147 rfl) (by decide) (by decide)) rfl (by rw [hml]; rfl) (lenOf pd_24 rfl) rfl (by exact Nat.le_of_eq rfl) (hb hby d20_32) rfl e648 (by decide) (by decide) ?_
  intro v651 T651 Lc651 hQ651 X651
  obtain ⟨r_651, kr_651, rfl, Nq651, K651, f651_0, f651_1⟩ := hQ651
  have z654 : h648.size ≤ T651.heap.size := K651.1
  have N651 := Fr.app N648 Nq651
  have lt655 := own_alt f651_0.lt
  have Fc656 := ((q5.other W648 (Or.inr (slot_ne (Or.inr (tw hw 21 rfl)) (Or.inr (tw hw 22 rfl)) (by decide) (t := (.array .byte)) (t' := .byte) (by decide) (by decide)))).keep K651 nin0)
  have Ec657 := ((q4.wr W648).keep K651)
  refine gPutF (host := "") Gl.cl X651 hx hZ hown (Or.inl (tw hw 25 rfl)) Via.refl (rfl : T651.heap = T651.heap) Fc656 Ec657 (Or.inr ⟨(tw hw 21 rfl), rfl, hnm⟩) (tw hw 6 rfl) (ty := (.array .byte)) (by decide) rfl rfl rfl rfl (hb hby d20_35) ?_
  intro T658 h658 X658 e658 W658
  have z659 : T651.heap.size ≤ h658.size := (Keep.of_wr W658).1
  have Fw658 := Fc656.same W658
  have N658 := Fr.snoc X658 N651 (own_ale om650)
  refine Gl.go (fun _ hr => zXS_goto X658.here hx rfl (pc0 := 38) (pc' := 97) rfl (hb hby d20_38) (by decide) (by decide) hr) ?_
  have Ec660 := (Ec657.wr W658)
  have Fc661 := ((Fw648.keep K651 nin0).other W658 (Or.inr (slot_ne (Or.inr (tw hw 22 rfl)) (Or.inr (tw hw 21 rfl)) (by decide) (t := .byte) (t' := (.array .byte)) (by decide) (by decide))))
  have om662 : ¬ @Eq Nat r_651 x := by omega
  have Vc663 := (f651_0.other W658 (own_ane om662))
  obtain ⟨fs, hr, hrun, hended, hW, hsame⟩ := X658.leave (v := none) (fun _ => rfl)
  refine ⟨_, _, X658.returnOut hx Bd.returns (hb hby d20_97) hr, hrun, hended, _, _, rfl, ?_, ⟨⟨_, rfl⟩, hW, hsame.mono (by decide) (by decide)⟩⟩
  show Qsi20 Z x b a ka cap cs G1 h0 n0 _ T658.heap _
  rw [e658]
  exact ⟨r_651, kr_651, rfl, N658, ((((Keep.refl h0 [x]).wr W648 (Or.inl (by simp))).trans K651 all0).wr W658 (Or.inl (by simp))), Ec660, Fw658, Fc661, Vc663, (by omega)⟩
def Qsi10 (Z : State) (x : Addr) (b : Addr) (a : Addr) (ka : ClassId) (cap : Nat) (cs : List Int32) (G1 : Int32) (h0 : Heap) (n0 : Nat) (v : Option Value) (h : Heap) (L : List Loc) : Prop := ∃ (r : Addr), ∃ (kr : ClassId), v = none ∧ Fr n0 L ∧ Keep h0 h [x] ∧ (Exa Z h x "java/lang/String") ∧ (Fld Z h x "java/lang/String" "value" "[B" (.ref r)) ∧ (Fld Z h x "java/lang/String" "coder" "B" (.int (0 : Int32))) ∧ (Arv Z h r kr .byte (Int32.ofNat cs.length) (lb cs) (.int (0 : Int32))) ∧ (@LE.le Nat instLENat h0.size r)
theorem ef_si10 (m : MethodId) (x0 : Addr) (x1 : Addr) : entryFrame m #[(.ref x0), (.ref x1)] 2 = mkF m 0 #[sR x0, sR x1] [] := by first | (simp [entryFrame, mkF, argsToLocals, Value.category]; done) | rfl
theorem d19_0 : decode jdk_42_method_53_code 0 = .ok (.aload_n 0, 1) := by decide +kernel
theorem d19_1 : decode jdk_42_method_53_code 1 = .ok (.aload_n 1, 1) := by decide +kernel
theorem d19_2 : decode jdk_42_method_53_code 2 = .ok (.aconst_null, 1) := by decide +kernel
theorem d19_3 : decode jdk_42_method_53_code 3 = .ok (.invokespecial 489, 3) := by decide +kernel
theorem pd_26 : parseMethodDescriptor "(Ljava/lang/AbstractStringBuilder;Ljava/lang/Void;)V" = some ⟨[(.object "java/lang/AbstractStringBuilder"), (.object "java/lang/Void")], none⟩ := by decide +kernel
theorem d19_6 : decode jdk_42_method_53_code 6 = .ok (.return_, 1) := by decide +kernel
set_option maxRecDepth 65536 in
set_option maxHeartbeats 40000000 in
theorem si10 (l : Launch) (Z : State) (a0 : Array Value) (hw : ∀ d ∈ tables_1, d.before a0 Z = true) (ws : List Jvm.Cond) (x : Addr) (b : Addr) (a : Addr) (ka : ClassId) (cap : Nat) (cs : List Int32) (G1 : Int32) (h0 : Heap) (n0 : Nat) (Z0 : n0 ≤ h0.size) (q0 : Sta Z Z.heap "java/lang/String" "COMPACT_STRINGS" "Z" (.int G1)) (P5 : ¬ (G1 = (0 : Int32))) (q2 : (Old Z Z.heap.size h0 ∧ @LE.le Nat instLENat Z.heap.size n0)) (q3 : @LE.le Nat instLENat n0 x) (q4 : Exa Z h0 x "java/lang/String") (q5 : Fld Z h0 x "java/lang/String" "value" "[B" .null) (q6 : Fld Z h0 x "java/lang/String" "coder" "B" (.int (0 : Int32))) (q7 : Exa Z h0 b "java/lang/StringBuilder") (q8 : Fld Z h0 b "java/lang/AbstractStringBuilder" "value" "[B" (.ref a)) (q9 : Fld Z h0 b "java/lang/AbstractStringBuilder" "coder" "B" (.int (0 : Int32))) (q10 : Fld Z h0 b "java/lang/AbstractStringBuilder" "count" "I" (.int (Int32.ofNat cs.length))) (q11 : Fld Z h0 b "java/lang/AbstractStringBuilder" "maybeLatin1" "Z" (.int (0 : Int32))) (q12 : Arv Z h0 a ka .byte (Int32.ofNat cap) (lb cs) (.int (0 : Int32))) (q13 : ¬ @Eq Nat x b) (q14 : ¬ @Eq Nat x a) (hcap : cap ≤ 18) (hlt : cs.length < cap) :
    MetFree l y_34 (head1 (Jvm.Cond.code y_34 jdk_42_method_53_code 2 none :: ws) r_m25) (fun a_ U_ => a_ = #[(.ref x), (.ref b)] ∧ Z.Warmed39 U_.vm ∧ U_.heap = h0) (fun _ _ _ _ _ => True) (fun _ U_ o_ V_ => ∃ v_ L_, o_ = .returned v_ ∧ Qsi10 Z x b a ka cap cs G1 h0 n0 v_ V_.heap L_ ∧ FrameEnd U_ o_ V_ L_ r_m25.cells r_m25.slots) := by
  refine MetFree.of_bodySF (plainFor_of_name pn_1) hisR ?_
  intro p e s m args below meth c s₁ Bd hml0 hP hK
  obtain ⟨rfl, hZ, hh⟩ := hP
  have hx := Bd.exec
  have hby := Bd.bytes
  have hml : c.maxLocals = 2 := hml0
  have hown : s.vm.findClass "java/lang/String" = some m.cls := findClass_of_methodNamed Bd.named
  have hnm := (name_of_methodNamed Bd.named Bd.method).1
  have X0 : Stand p l e r_m25 s m #[(.ref x), (.ref b)] below meth c s₁ [] 0 0 := Stand.of_body Bd
  have e0 : s₁.heap = h0 := by rw [← hh, Bd.state]; rfl
  have N0 := Fr.nil n0
  have Oo := q2.1
  have zo := q2.2
  have lt664 := own_alt q4.lt
  have lt665 := own_alt q5.lt
  have lt666 := own_alt q6.lt
  have lt667 := own_alt q7.lt
  have lt668 := own_alt q8.lt
  have lt669 := own_alt q9.lt
  have lt670 := own_alt q10.lt
  have lt671 := own_alt q11.lt
  have lt672 := own_alt q12.lt
  refine Gl.go (A := s₁.setTop (entryFrame m #[(.ref x), (.ref b)] 2)) (P := fun o_ U_ => ∃ v_ L_, o_ = .returned v_ ∧ Qsi10 Z x b a ka cap cs G1 h0 n0 v_ U_.heap L_ ∧ FrameEnd s o_ U_ L_ r_m25.cells r_m25.slots) (fun t_ k_ => castTop (ef_si10 m x b) k_) ?_
  show Gl p.tables e below _ (s₁.setTop (mkF m 0 #[sR x, sR b] []))
  refine Gl.go (fun _ hr => zXS_aloadN X0.here hx rfl (hb hby d19_0) rfl rfl (zXS_aloadN X0.here hx rfl (hb hby d19_1) rfl rfl (zXS_aconstNull X0.here hx rfl (hb hby d19_2) hr))) ?_
  have zz673 : n0 ≤ h0.size := by omega
  refine gSpecialN Gl.cl (y := y_33) (b := x) (argsL := [(.ref b), .null]) (rest := []) (mc := 1) (ms := 36) X0 hx hZ hown rfl (mvT hZ (tw hw 124 rfl)) (mvT hZ (tw hw 125 rfl)) (mvT hZ (tw hw 126 rfl)) (by decide) (backOf (W := 0) (si20 l Z a0 hw [] x b a ka cap cs G1 h0 n0 zz673 q0 (by assumption) ⟨Oo, (by omega)⟩ (by omega) q4 q5 q6 q7 q8 q9 q10 q11 q12 (by omega) (by omega) (by assumption) (by assumption)) hZ (tw hw 126 rfl) (tw hw 7 rfl) (by decide) (by decide)) rfl (by rw [hml]; rfl) (lenOf pd_26 rfl) rfl (by exact Nat.le_of_eq rfl) (hb hby d19_3) rfl e0 (by decide) (by decide) ?_
  intro v673 T673 Lc673 hQ673 X673
  obtain ⟨r_673, kr_673, rfl, Nq673, K673, f673_0, f673_1, f673_2, f673_3, f673_4⟩ := hQ673
  have z674 : h0.size ≤ T673.heap.size := K673.1
  have N673 := Fr.app N0 Nq673
  have lt675 := own_alt f673_0.lt
  have lt676 := own_alt f673_1.lt
  have lt677 := own_alt f673_2.lt
  have lt678 := own_alt f673_3.lt
  obtain ⟨fs, hr, hrun, hended, hW, hsame⟩ := X673.leave (v := none) (fun _ => rfl)
  refine ⟨_, _, X673.returnOut hx Bd.returns (hb hby d19_6) hr, hrun, hended, _, _, rfl, ?_, ⟨⟨_, rfl⟩, hW, hsame.mono (by decide) (by decide)⟩⟩
  show Qsi10 Z x b a ka cap cs G1 h0 n0 _ T673.heap _
  exact ⟨r_673, kr_673, rfl, N673, ((Keep.refl h0 [x]).trans K673 (allS (P := fun x_ => x_ ∈ ([x] : List Addr) ∨ h0.size ≤ x_) (Or.inl (by simp)) all0)), f673_0, f673_1, f673_2, f673_3, (by omega)⟩
def Qts0 (Z : State) (b : Addr) (a : Addr) (ka : ClassId) (cap : Nat) (cs : List Int32) (G1 : Int32) (h0 : Heap) (n0 : Nat) (v : Option Value) (h : Heap) (L : List Loc) : Prop := ∃ (r : Addr), ∃ (t : Addr), ∃ (kr : ClassId), v = some (.ref r) ∧ Fr n0 L ∧ Keep h0 h [] ∧ (Exa Z h r "java/lang/String") ∧ (Fld Z h r "java/lang/String" "value" "[B" (.ref t)) ∧ (Fld Z h r "java/lang/String" "coder" "B" (.int (0 : Int32))) ∧ (Arv Z h t kr .byte (Int32.ofNat cs.length) (lb cs) (.int (0 : Int32))) ∧ (@LE.le Nat instLENat h0.size r ∧ @LE.le Nat instLENat h0.size t)
theorem ef_ts0 (m : MethodId) (x0 : Addr) : entryFrame m #[(.ref x0)] 1 = mkF m 0 #[sR x0] [] := by first | (simp [entryFrame, mkF, argsToLocals, Value.category]; done) | rfl
theorem d18_0 : decode jdk_67_method_42_code 0 = .ok (.new 18, 3) := by decide +kernel
theorem d18_3 : decode jdk_67_method_42_code 3 = .ok (.dup, 1) := by decide +kernel
theorem d18_4 : decode jdk_67_method_42_code 4 = .ok (.aload_n 0, 1) := by decide +kernel
theorem d18_5 : decode jdk_67_method_42_code 5 = .ok (.invokespecial 137, 3) := by decide +kernel
theorem pd_27 : parseMethodDescriptor "(Ljava/lang/StringBuilder;)V" = some ⟨[(.object "java/lang/StringBuilder")], none⟩ := by decide +kernel
theorem d18_8 : decode jdk_67_method_42_code 8 = .ok (.areturn, 1) := by decide +kernel
set_option maxRecDepth 65536 in
set_option maxHeartbeats 40000000 in
theorem ts0 (l : Launch) (Z : State) (a0 : Array Value) (hw : ∀ d ∈ tables_1, d.before a0 Z = true) (ws : List Jvm.Cond) (b : Addr) (a : Addr) (ka : ClassId) (cap : Nat) (cs : List Int32) (G1 : Int32) (h0 : Heap) (n0 : Nat) (Z0 : n0 ≤ h0.size) (q0 : Sta Z Z.heap "java/lang/String" "COMPACT_STRINGS" "Z" (.int G1)) (P5 : ¬ (G1 = (0 : Int32))) (q2 : (Old Z Z.heap.size h0 ∧ @LE.le Nat instLENat Z.heap.size n0)) (q3 : Exa Z h0 b "java/lang/StringBuilder") (q4 : Fld Z h0 b "java/lang/AbstractStringBuilder" "value" "[B" (.ref a)) (q5 : Fld Z h0 b "java/lang/AbstractStringBuilder" "coder" "B" (.int (0 : Int32))) (q6 : Fld Z h0 b "java/lang/AbstractStringBuilder" "count" "I" (.int (Int32.ofNat cs.length))) (q7 : Fld Z h0 b "java/lang/AbstractStringBuilder" "maybeLatin1" "Z" (.int (0 : Int32))) (q8 : Arv Z h0 a ka .byte (Int32.ofNat cap) (lb cs) (.int (0 : Int32))) (hcap : cap ≤ 18) (hlt : cs.length < cap) :
    MetFree l y_35 (head1 (Jvm.Cond.code y_35 jdk_67_method_42_code 1 (some (.object "java/lang/String")) :: ws) r_m26) (fun a_ U_ => a_ = #[(.ref b)] ∧ Z.Warmed39 U_.vm ∧ U_.heap = h0) (fun _ _ _ _ _ => True) (fun _ U_ o_ V_ => ∃ v_ L_, o_ = .returned v_ ∧ Qts0 Z b a ka cap cs G1 h0 n0 v_ V_.heap L_ ∧ FrameEnd U_ o_ V_ L_ r_m26.cells r_m26.slots) := by
  refine MetFree.of_bodySF (plainFor_of_name pn_5) hisR ?_
  intro p e s m args below meth c s₁ Bd hml0 hP hK
  obtain ⟨rfl, hZ, hh⟩ := hP
  have hx := Bd.exec
  have hby := Bd.bytes
  have hml : c.maxLocals = 1 := hml0
  have hown : s.vm.findClass "java/lang/StringBuilder" = some m.cls := findClass_of_methodNamed Bd.named
  have hnm := (name_of_methodNamed Bd.named Bd.method).1
  have X0 : Stand p l e r_m26 s m #[(.ref b)] below meth c s₁ [] 0 0 := Stand.of_body Bd
  have e0 : s₁.heap = h0 := by rw [← hh, Bd.state]; rfl
  have N0 := Fr.nil n0
  have Oo := q2.1
  have zo := q2.2
  have lt679 := own_alt q3.lt
  have lt680 := own_alt q4.lt
  have lt681 := own_alt q5.lt
  have lt682 := own_alt q6.lt
  have lt683 := own_alt q7.lt
  have lt684 := own_alt q8.lt
  refine Gl.go (A := s₁.setTop (entryFrame m #[(.ref b)] 1)) (P := fun o_ U_ => ∃ v_ L_, o_ = .returned v_ ∧ Qts0 Z b a ka cap cs G1 h0 n0 v_ U_.heap L_ ∧ FrameEnd s o_ U_ L_ r_m26.cells r_m26.slots) (fun t_ k_ => castTop (ef_ts0 m b) k_) ?_
  show Gl p.tables e below _ (s₁.setTop (mkF m 0 #[sR b] []))
  refine gNew Gl.cl X0 hx hZ hown (tw hw 120 rfl) (tw hw 6 rfl) (tw hw 7 rfl) e0 rfl (hb hby d18_0) (by decide) (by decide) ?_
  intro T685 h685 b685 g685 X685 e685 E685 A685 D685
  have z686 : h0.size ≤ h685.size := E685.1
  have lt685 := own_alt A685.lt
  have F685_value : Fld Z h685 b685 "java/lang/String" "value" "[B" .null := D685 (Or.inr (tw hw 21 rfl)) (ty := (.array .byte)) (by decide)
  have F685_coder : Fld Z h685 b685 "java/lang/String" "coder" "B" (.int (0 : Int32)) := D685 (Or.inr (tw hw 22 rfl)) (ty := .byte) (by decide)
  refine Gl.go (fun _ hr => zXS_dup X685.here hx rfl (hb hby d18_3) rfl rfl (zXS_aloadN X685.here hx rfl (hb hby d18_4) rfl rfl hr)) ?_
  have Oc688 := (Oo.ext E685)
  have Ec689 := (q3.ext E685)
  have Fc690 := (q4.ext E685)
  have Fc691 := (q5.ext E685)
  have Fc692 := (q6.ext E685)
  have Fc693 := (q7.ext E685)
  have Vc694 := (q8.ext E685)
  have zz687 : n0 ≤ h685.size := by omega
  refine gSpecialN Gl.cl (y := y_34) (b := b685) (argsL := [(.ref b)]) (rest := [(.ref b685)]) (mc := 1) (ms := 36) X685 hx hZ hown rfl (mvT hZ (tw hw 121 rfl)) (mvT hZ (tw hw 122 rfl)) (mvT hZ (tw hw 123 rfl)) (by decide) (backOf (W := 1) (si10 l Z a0 hw [] b685 b a ka cap cs G1 h685 n0 zz687 q0 (by assumption) ⟨Oc688, (by omega)⟩ (by omega) A685 F685_value F685_coder Ec689 Fc690 Fc691 Fc692 Fc693 Vc694 (by omega) (by omega) (by assumption) (by assumption)) hZ (tw hw 123 rfl) (tw hw 7 rfl) (by decide) (by decide)) rfl (by rw [hml]; rfl) (lenOf pd_27 rfl) rfl (by exact Nat.le_of_eq rfl) (hb hby d18_5) rfl e685 (by decide) (by decide) ?_
  intro v687 T687 Lc687 hQ687 X687
  obtain ⟨r_687, kr_687, rfl, Nq687, K687, f687_0, f687_1, f687_2, f687_3, f687_4⟩ := hQ687
  have z695 : h685.size ≤ T687.heap.size := K687.1
  have N687 := Fr.app N0 Nq687
  have lt696 := own_alt f687_0.lt
  have lt697 := own_alt f687_1.lt
  have lt698 := own_alt f687_2.lt
  have lt699 := own_alt f687_3.lt
  obtain ⟨fs, hr, hrun, hended, hW, hsame⟩ := X687.leave (v := some (.ref b685)) (fun h => by rw [Bd.returns] at h; cases h)
  have om700 : @LE.le Nat instLENat h0.size b685 := by omega
  refine ⟨_, _, retOut X687 hx Bd.returns rfl (Or.inr (Or.inr (Or.inr (Or.inr ⟨rfl, rfl, rfl⟩)))) (hb hby d18_8) hr, hrun, hended, _, _, rfl, ?_, ⟨⟨_, rfl⟩, hW, hsame.mono (by decide) (by decide)⟩⟩
  show Qts0 Z b a ka cap cs G1 h0 n0 _ T687.heap _
  exact ⟨b685, r_687, kr_687, rfl, N687, (((Keep.refl h0 []).ext E685).trans K687 (allS (P := fun x_ => x_ ∈ ([] : List Addr) ∨ h0.size ≤ x_) (Or.inr (own_ale om700)) all0)), f687_0, f687_1, f687_2, f687_3, ⟨by omega, by omega⟩⟩
def Qsi21 (Z : State) (x : Addr) (b : Addr) (a : Addr) (ka : ClassId) (cap : Nat) (cs : List Int32) (G1 : Int32) (h0 : Heap) (n0 : Nat) (v : Option Value) (h : Heap) (L : List Loc) : Prop := ∃ (r : Addr), ∃ (kr : ClassId), v = none ∧ Fr n0 L ∧ Keep h0 h [x] ∧ (Exa Z h x "java/lang/String") ∧ (Fld Z h x "java/lang/String" "value" "[B" (.ref r)) ∧ (Fld Z h x "java/lang/String" "coder" "B" (.int (1 : Int32))) ∧ (Arv Z h r kr .byte (Int32.ofNat (2 * cs.length)) (StrChars.Road.wideBytes cs) (.int (0 : Int32))) ∧ (@LE.le Nat instLENat h0.size r)
theorem ef_si21 (m : MethodId) (x0 : Addr) (x1 : Addr) : entryFrame m #[(.ref x0), (.ref x1), .null] 5 = mkF m 0 #[sR x0, sR x1, .val .null, sU, sU] [] := by first | (simp [entryFrame, mkF, argsToLocals, Value.category]; done) | rfl
theorem d20_41 : decode jdk_42_method_150_code 41 = .ok (.getstatic 38, 3) := by decide +kernel
theorem d20_44 : decode jdk_42_method_150_code 44 = .ok (.ifCond .eq 35, 3) := by decide +kernel
theorem d20_47 : decode jdk_42_method_150_code 47 = .ok (.aload_n 1, 1) := by decide +kernel
theorem d20_48 : decode jdk_42_method_150_code 48 = .ok (.getfield 1048, 3) := by decide +kernel
theorem d20_51 : decode jdk_42_method_150_code 51 = .ok (.ifCond .eq 28, 3) := by decide +kernel
theorem d20_79 : decode jdk_42_method_150_code 79 = .ok (.aload_n 0, 1) := by decide +kernel
theorem d20_80 : decode jdk_42_method_150_code 80 = .ok (.iconst 1, 1) := by decide +kernel
theorem d20_81 : decode jdk_42_method_150_code 81 = .ok (.putfield 15, 3) := by decide +kernel
theorem d20_84 : decode jdk_42_method_150_code 84 = .ok (.aload_n 0, 1) := by decide +kernel
theorem d20_85 : decode jdk_42_method_150_code 85 = .ok (.aload_n 3, 1) := by decide +kernel
theorem d20_86 : decode jdk_42_method_150_code 86 = .ok (.iconst 0, 1) := by decide +kernel
theorem d20_87 : decode jdk_42_method_150_code 87 = .ok (.iload 4, 2) := by decide +kernel
theorem d20_89 : decode jdk_42_method_150_code 89 = .ok (.iconst 1, 1) := by decide +kernel
theorem d20_90 : decode jdk_42_method_150_code 90 = .ok (.ishl, 1) := by decide +kernel
theorem d20_91 : decode jdk_42_method_150_code 91 = .ok (.invokestatic 54, 3) := by decide +kernel
theorem d20_94 : decode jdk_42_method_150_code 94 = .ok (.putfield 9, 3) := by decide +kernel
set_option maxRecDepth 65536 in
set_option maxHeartbeats 40000000 in
theorem si21 (l : Launch) (Z : State) (a0 : Array Value) (hw : ∀ d ∈ tables_1, d.before a0 Z = true) (ws : List Jvm.Cond) (x : Addr) (b : Addr) (a : Addr) (ka : ClassId) (cap : Nat) (cs : List Int32) (G1 : Int32) (h0 : Heap) (n0 : Nat) (Z0 : n0 ≤ h0.size) (q0 : Sta Z Z.heap "java/lang/String" "COMPACT_STRINGS" "Z" (.int G1)) (P5 : ¬ (G1 = (0 : Int32))) (q2 : (Old Z Z.heap.size h0 ∧ @LE.le Nat instLENat Z.heap.size n0)) (q3 : @LE.le Nat instLENat n0 x) (q4 : Exa Z h0 x "java/lang/String") (q5 : Fld Z h0 x "java/lang/String" "value" "[B" .null) (q6 : Fld Z h0 x "java/lang/String" "coder" "B" (.int (0 : Int32))) (q7 : Exa Z h0 b "java/lang/StringBuilder") (q8 : Fld Z h0 b "java/lang/AbstractStringBuilder" "value" "[B" (.ref a)) (q9 : Fld Z h0 b "java/lang/AbstractStringBuilder" "coder" "B" (.int (1 : Int32))) (q10 : Fld Z h0 b "java/lang/AbstractStringBuilder" "count" "I" (.int (Int32.ofNat cs.length))) (q11 : Fld Z h0 b "java/lang/AbstractStringBuilder" "maybeLatin1" "Z" (.int (0 : Int32))) (q12 : Arv Z h0 a ka .byte (Int32.ofNat (2 * cap)) (StrChars.Road.wideBytes cs) (.int (0 : Int32))) (q13 : ¬ @Eq Nat x b) (q14 : ¬ @Eq Nat x a) (hcap : cap ≤ 18) (hlt : cs.length < cap) :
    MetFree l y_33 (head1 (Jvm.Cond.code y_33 jdk_42_method_150_code 5 none :: ws) r_m24) (fun a_ U_ => a_ = #[(.ref x), (.ref b), .null] ∧ Z.Warmed39 U_.vm ∧ U_.heap = h0) (fun _ _ _ _ _ => True) (fun _ U_ o_ V_ => ∃ v_ L_, o_ = .returned v_ ∧ Qsi21 Z x b a ka cap cs G1 h0 n0 v_ V_.heap L_ ∧ FrameEnd U_ o_ V_ L_ r_m24.cells r_m24.slots) := by
  refine MetFree.of_bodySF (plainFor_of_name pn_1) hisR ?_
  intro p e s m args below meth c s₁ Bd hml0 hP hK
  obtain ⟨rfl, hZ, hh⟩ := hP
  have hx := Bd.exec
  have hby := Bd.bytes
  have hml : c.maxLocals = 5 := hml0
  have hown : s.vm.findClass "java/lang/String" = some m.cls := findClass_of_methodNamed Bd.named
  have hnm := (name_of_methodNamed Bd.named Bd.method).1
  have X0 : Stand p l e r_m24 s m #[(.ref x), (.ref b), .null] below meth c s₁ [] 0 0 := Stand.of_body Bd
  have e0 : s₁.heap = h0 := by rw [← hh, Bd.state]; rfl
  have N0 := Fr.nil n0
  have Oo := q2.1
  have zo := q2.2
  have lt701 := own_alt q4.lt
  have lt702 := own_alt q5.lt
  have lt703 := own_alt q6.lt
  have lt704 := own_alt q7.lt
  have lt705 := own_alt q8.lt
  have lt706 := own_alt q9.lt
  have lt707 := own_alt q10.lt
  have lt708 := own_alt q11.lt
  have lt709 := own_alt q12.lt
  refine Gl.go (A := s₁.setTop (entryFrame m #[(.ref x), (.ref b), .null] 5)) (P := fun o_ U_ => ∃ v_ L_, o_ = .returned v_ ∧ Qsi21 Z x b a ka cap cs G1 h0 n0 v_ U_.heap L_ ∧ FrameEnd s o_ U_ L_ r_m24.cells r_m24.slots) (fun t_ k_ => castTop (ef_si21 m x b) k_) ?_
  show Gl p.tables e below _ (s₁.setTop (mkF m 0 #[sR x, sR b, .val .null, sU, sU] []))
  refine Gl.go (fun _ hr => zXS_aloadN X0.here hx rfl (hb hby d20_0) rfl rfl hr) ?_
  refine gInit Gl.cl (W := 0) X0 hx hZ hown (tw hw 16 rfl) (tw hw 17 rfl) (tw hw 18 rfl) e0 rfl (by rw [hml]; rfl) rfl (hb hby d20_1) (by decide) (by exact Nat.le_of_eq rfl) (by decide) ?_
  intro T710 X710 e710
  refine Gl.go (fun _ hr => zXS_aloadN X710.here hx rfl (hb hby d20_4) rfl rfl hr) ?_
  have zz711 : n0 ≤ h0.size := by omega
  refine gVirtualN Gl.cl (y := y_26) (z := y_26) (b := b) (argsL := []) (rest := []) (mc := 0) (ms := 0) X710 hx hZ hown (mvT hZ (tw hw 127 rfl)) (mvT hZ (tw hw 128 rfl)) (notFace_of_selects (args := #[]) (mvT hZ (tw hw 130 rfl))) (mvT hZ (tw hw 130 rfl)) (mvT hZ (tw hw 129 rfl)) (by decide) q7 (backOf (W := 0) (gv l Z a0 hw [] b a h0 n0 zz711 q8) hZ (tw hw 131 rfl) (tw hw 58 rfl) (by decide) (by decide)) rfl (by rw [hml]; rfl) (lenOf pd_25 rfl) rfl (by exact Nat.le_of_eq rfl) (hb hby d20_5) rfl e710 (by decide) (by decide) ?_
  intro v711 T711 Lc711 hQ711 X711
  obtain ⟨rfl, Nq711, e711⟩ := hQ711
  have N711 := Fr.app N0 Nq711
  refine Gl.go (fun _ hr => zXS_astoreN X711.here hx rfl (hb hby d20_8) rfl rfl (l' := #[sR x, sR b, .val .null, sR a, sU]) rfl (zXS_aloadN X711.here hx rfl (hb hby d20_9) rfl rfl hr)) ?_
  have zz712 : n0 ≤ h0.size := by omega
  refine gVirtualN Gl.cl (y := y_27) (z := y_28) (b := b) (argsL := []) (rest := []) (mc := 0) (ms := 0) X711 hx hZ hown (mvT hZ (tw hw 132 rfl)) (mvT hZ (tw hw 133 rfl)) (own_notFace (args := #[]) (mvT hZ (tw hw 92 rfl)) rfl) (mvT hZ (tw hw 135 rfl)) (mvT hZ (tw hw 136 rfl)) (by decide) q7 (backOf (W := 0) (sbl l Z a0 hw [] b (Int32.ofNat cs.length) h0 n0 zz712 q7 q10) hZ (tw hw 137 rfl) (tw hw 50 rfl) (by decide) (by decide)) rfl (by rw [hml]; rfl) (lenOf pd_18 rfl) rfl (by exact Nat.le_of_eq rfl) (hb hby d20_10) rfl e711 (by decide) (by decide) ?_
  intro v712 T712 Lc712 hQ712 X712
  obtain ⟨rfl, Nq712, e712⟩ := hQ712
  have N712 := Fr.app N711 Nq712
  refine Gl.go (fun _ hr => zXS_istore X712.here hx rfl (hb hby d20_13) rfl (l' := #[sR x, sR b, .val .null, sR a, sI (Int32.ofNat cs.length)]) rfl (zXS_aloadN X712.here hx rfl (hb hby d20_15) rfl rfl hr)) ?_
  have zz713 : n0 ≤ h0.size := by omega
  refine gVirtualN Gl.cl (y := y_11) (z := y_11) (b := b) (argsL := []) (rest := []) (mc := 0) (ms := 0) X712 hx hZ hown (mvT hZ (tw hw 140 rfl)) (mvT hZ (tw hw 141 rfl)) (notFace_of_selects (args := #[]) (mvT hZ (tw hw 143 rfl))) (mvT hZ (tw hw 143 rfl)) (mvT hZ (tw hw 142 rfl)) (by decide) q7 (backOf (W := 0) (bl1 l Z a0 hw [] b G1 h0 n0 zz713 q0 (by assumption) ⟨Oo, (by omega)⟩ q9) hZ (tw hw 144 rfl) (tw hw 58 rfl) (by decide) (by decide)) rfl (by rw [hml]; rfl) (lenOf pd_14 rfl) rfl (by exact Nat.le_of_eq rfl) (hb hby d20_16) rfl e712 (by decide) (by decide) ?_
  intro v713 T713 Lc713 hQ713 X713
  obtain ⟨rfl, Nq713, e713⟩ := hQ713
  have N713 := Fr.app N712 Nq713
  refine Gl.go (fun _ hr => zXS_ifYes X713.here hx rfl (pc0 := 19) (pc' := 41) rfl (hb hby d20_19) rfl (XT.i0_eq_t (by decide)) (by decide) (by decide) hr) ?_
  refine gGetS (host := "") Gl.cl X713 hx hZ hown (Or.inl (tw hw 86 rfl)) Via.refl e713 (q0.ext Oo.2) rfl (hb hby d20_41) ?_
  intro T714 X714 e714
  refine Gl.go (fun _ hr => zXS_ifNo X714.here hx rfl (hb hby d20_44) rfl (XT.i0_eq_f P5) (zXS_aloadN X714.here hx rfl (hb hby d20_47) rfl rfl hr)) ?_
  refine gGetF (host := "") Gl.cl X714 hx hZ hown (Or.inl (tw hw 246 rfl)) Via.refl e714 q11 rfl rfl (hb hby d20_48) ?_
  intro T715 X715 e715
  refine Gl.go (fun _ hr => zXS_ifYes X715.here hx rfl (pc0 := 51) (pc' := 79) rfl (hb hby d20_51) rfl (XT.i0_eq_t (by decide)) (by decide) (by decide) (zXS_aloadN X715.here hx rfl (hb hby d20_79) rfl rfl (zXS_iconst X715.here hx rfl (hb hby d20_80) hr))) ?_
  refine gPutF (host := "") Gl.cl X715 hx hZ hown (Or.inl (tw hw 26 rfl)) Via.refl e715 q6 q4 (Or.inr ⟨(tw hw 22 rfl), rfl, hnm⟩) (tw hw 6 rfl) (ty := .byte) (by decide) rfl rfl rfl rfl (hb hby d20_81) ?_
  intro T716 h716 X716 e716 W716
  have z717 : h0.size ≤ h716.size := (Keep.of_wr W716).1
  have Fw716 := q6.same W716
  have om718 : @LE.le Nat instLENat n0 x := by omega
  have N716 := Fr.snoc X716 N713 (own_ale om718)
  refine Gl.go (fun _ hr => zXS_aloadN X716.here hx rfl (hb hby d20_84) rfl rfl (zXS_aloadN X716.here hx rfl (hb hby d20_85) rfl rfl (zXS_iconst X716.here hx rfl (hb hby d20_86) (zXS_iload X716.here hx rfl (hb hby d20_87) rfl (zXS_iconst X716.here hx rfl (hb hby d20_89) (zXT_ishl X716.here hx rfl (hb hby d20_90) rfl hr)))))) ?_
  show Gl p.tables e below _ (T716.setTop (mkF m 91 #[sR x, sR b, .val .null, sR a, sI (Int32.ofNat cs.length)] [(.int ((Int32.ofNat cs.length) <<< ((1 : Int32) &&& 31))), (.int (0 : Int32)), (.ref a), (.ref x)]))
  rw [(own_shl1 (i := cs.length) (by omega))]
  show Gl p.tables e below _ (T716.setTop (mkF m 91 #[sR x, sR b, .val .null, sR a, sI (Int32.ofNat cs.length)] [(.int (Int32.ofNat (2 * cs.length))), (.int (0 : Int32)), (.ref a), (.ref x)]))
  have om720 : ¬ @Eq Nat a x := by omega
  have Vc721 := (q12.other W716 (own_ane om720))
  have zz719 : n0 ≤ h716.size := by omega
  refine gStaticN Gl.cl (y := y_32) (argsL := [(.ref a), (.int (0 : Int32)), (.int (Int32.ofNat (2 * cs.length)))]) (rest := [(.ref x)]) (mc := 1) (ms := 36) X716 hx hZ hown (mvT hZ (tw hw 145 rfl)) (mvT hZ (tw hw 146 rfl)) (mvT hZ (tw hw 147 rfl)) (mvT hZ (tw hw 148 rfl)) (by decide) (backOf (W := 1) (cor l Z a0 hw [] a ka (2 * cap) (2 * cs.length) (StrChars.Road.wideBytes cs) h716 n0 zz719 Vc721 (wide_len cs) (by omega) (by omega)) hZ (tw hw 148 rfl) (tw hw 147 rfl) (by decide) (by decide)) rfl (by rw [hml]; rfl) (lenOf pd_24 rfl) rfl (by exact Nat.le_of_eq rfl) (hb hby d20_91) rfl e716 (by decide) (by decide) ?_
  intro v719 T719 Lc719 hQ719 X719
  obtain ⟨r_719, kr_719, rfl, Nq719, K719, f719_0, f719_1⟩ := hQ719
  have z722 : h716.size ≤ T719.heap.size := K719.1
  have N719 := Fr.app N716 Nq719
  have lt723 := own_alt f719_0.lt
  have Fc724 := ((q5.other W716 (Or.inr (slot_ne (Or.inr (tw hw 21 rfl)) (Or.inr (tw hw 22 rfl)) (by decide) (t := (.array .byte)) (t' := .byte) (by decide) (by decide)))).keep K719 nin0)
  have Ec725 := ((q4.wr W716).keep K719)
  refine gPutF (host := "") Gl.cl X719 hx hZ hown (Or.inl (tw hw 25 rfl)) Via.refl (rfl : T719.heap = T719.heap) Fc724 Ec725 (Or.inr ⟨(tw hw 21 rfl), rfl, hnm⟩) (tw hw 6 rfl) (ty := (.array .byte)) (by decide) rfl rfl rfl rfl (hb hby d20_94) ?_
  intro T726 h726 X726 e726 W726
  have z727 : T719.heap.size ≤ h726.size := (Keep.of_wr W726).1
  have Fw726 := Fc724.same W726
  have N726 := Fr.snoc X726 N719 (own_ale om718)
  have Ec728 := (Ec725.wr W726)
  have Fc729 := ((Fw716.keep K719 nin0).other W726 (Or.inr (slot_ne (Or.inr (tw hw 22 rfl)) (Or.inr (tw hw 21 rfl)) (by decide) (t := .byte) (t' := (.array .byte)) (by decide) (by decide))))
  have om730 : ¬ @Eq Nat r_719 x := by omega
  have Vc731 := (f719_0.other W726 (own_ane om730))
  obtain ⟨fs, hr, hrun, hended, hW, hsame⟩ := X726.leave (v := none) (fun _ => rfl)
  refine ⟨_, _, X726.returnOut hx Bd.returns (hb hby d20_97) hr, hrun, hended, _, _, rfl, ?_, ⟨⟨_, rfl⟩, hW, hsame.mono (by decide) (by decide)⟩⟩
  show Qsi21 Z x b a ka cap cs G1 h0 n0 _ T726.heap _
  rw [e726]
  exact ⟨r_719, kr_719, rfl, N726, ((((Keep.refl h0 [x]).wr W716 (Or.inl (by simp))).trans K719 all0).wr W726 (Or.inl (by simp))), Ec728, Fw726, Fc729, Vc731, (by omega)⟩
def Qsi11 (Z : State) (x : Addr) (b : Addr) (a : Addr) (ka : ClassId) (cap : Nat) (cs : List Int32) (G1 : Int32) (h0 : Heap) (n0 : Nat) (v : Option Value) (h : Heap) (L : List Loc) : Prop := ∃ (r : Addr), ∃ (kr : ClassId), v = none ∧ Fr n0 L ∧ Keep h0 h [x] ∧ (Exa Z h x "java/lang/String") ∧ (Fld Z h x "java/lang/String" "value" "[B" (.ref r)) ∧ (Fld Z h x "java/lang/String" "coder" "B" (.int (1 : Int32))) ∧ (Arv Z h r kr .byte (Int32.ofNat (2 * cs.length)) (StrChars.Road.wideBytes cs) (.int (0 : Int32))) ∧ (@LE.le Nat instLENat h0.size r)
theorem ef_si11 (m : MethodId) (x0 : Addr) (x1 : Addr) : entryFrame m #[(.ref x0), (.ref x1)] 2 = mkF m 0 #[sR x0, sR x1] [] := by first | (simp [entryFrame, mkF, argsToLocals, Value.category]; done) | rfl
set_option maxRecDepth 65536 in
set_option maxHeartbeats 40000000 in
theorem si11 (l : Launch) (Z : State) (a0 : Array Value) (hw : ∀ d ∈ tables_1, d.before a0 Z = true) (ws : List Jvm.Cond) (x : Addr) (b : Addr) (a : Addr) (ka : ClassId) (cap : Nat) (cs : List Int32) (G1 : Int32) (h0 : Heap) (n0 : Nat) (Z0 : n0 ≤ h0.size) (q0 : Sta Z Z.heap "java/lang/String" "COMPACT_STRINGS" "Z" (.int G1)) (P5 : ¬ (G1 = (0 : Int32))) (q2 : (Old Z Z.heap.size h0 ∧ @LE.le Nat instLENat Z.heap.size n0)) (q3 : @LE.le Nat instLENat n0 x) (q4 : Exa Z h0 x "java/lang/String") (q5 : Fld Z h0 x "java/lang/String" "value" "[B" .null) (q6 : Fld Z h0 x "java/lang/String" "coder" "B" (.int (0 : Int32))) (q7 : Exa Z h0 b "java/lang/StringBuilder") (q8 : Fld Z h0 b "java/lang/AbstractStringBuilder" "value" "[B" (.ref a)) (q9 : Fld Z h0 b "java/lang/AbstractStringBuilder" "coder" "B" (.int (1 : Int32))) (q10 : Fld Z h0 b "java/lang/AbstractStringBuilder" "count" "I" (.int (Int32.ofNat cs.length))) (q11 : Fld Z h0 b "java/lang/AbstractStringBuilder" "maybeLatin1" "Z" (.int (0 : Int32))) (q12 : Arv Z h0 a ka .byte (Int32.ofNat (2 * cap)) (StrChars.Road.wideBytes cs) (.int (0 : Int32))) (q13 : ¬ @Eq Nat x b) (q14 : ¬ @Eq Nat x a) (hcap : cap ≤ 18) (hlt : cs.length < cap) :
    MetFree l y_34 (head1 (Jvm.Cond.code y_34 jdk_42_method_53_code 2 none :: ws) r_m25) (fun a_ U_ => a_ = #[(.ref x), (.ref b)] ∧ Z.Warmed39 U_.vm ∧ U_.heap = h0) (fun _ _ _ _ _ => True) (fun _ U_ o_ V_ => ∃ v_ L_, o_ = .returned v_ ∧ Qsi11 Z x b a ka cap cs G1 h0 n0 v_ V_.heap L_ ∧ FrameEnd U_ o_ V_ L_ r_m25.cells r_m25.slots) := by
  refine MetFree.of_bodySF (plainFor_of_name pn_1) hisR ?_
  intro p e s m args below meth c s₁ Bd hml0 hP hK
  obtain ⟨rfl, hZ, hh⟩ := hP
  have hx := Bd.exec
  have hby := Bd.bytes
  have hml : c.maxLocals = 2 := hml0
  have hown : s.vm.findClass "java/lang/String" = some m.cls := findClass_of_methodNamed Bd.named
  have hnm := (name_of_methodNamed Bd.named Bd.method).1
  have X0 : Stand p l e r_m25 s m #[(.ref x), (.ref b)] below meth c s₁ [] 0 0 := Stand.of_body Bd
  have e0 : s₁.heap = h0 := by rw [← hh, Bd.state]; rfl
  have N0 := Fr.nil n0
  have Oo := q2.1
  have zo := q2.2
  have lt732 := own_alt q4.lt
  have lt733 := own_alt q5.lt
  have lt734 := own_alt q6.lt
  have lt735 := own_alt q7.lt
  have lt736 := own_alt q8.lt
  have lt737 := own_alt q9.lt
  have lt738 := own_alt q10.lt
  have lt739 := own_alt q11.lt
  have lt740 := own_alt q12.lt
  refine Gl.go (A := s₁.setTop (entryFrame m #[(.ref x), (.ref b)] 2)) (P := fun o_ U_ => ∃ v_ L_, o_ = .returned v_ ∧ Qsi11 Z x b a ka cap cs G1 h0 n0 v_ U_.heap L_ ∧ FrameEnd s o_ U_ L_ r_m25.cells r_m25.slots) (fun t_ k_ => castTop (ef_si11 m x b) k_) ?_
  show Gl p.tables e below _ (s₁.setTop (mkF m 0 #[sR x, sR b] []))
  refine Gl.go (fun _ hr => zXS_aloadN X0.here hx rfl (hb hby d19_0) rfl rfl (zXS_aloadN X0.here hx rfl (hb hby d19_1) rfl rfl (zXS_aconstNull X0.here hx rfl (hb hby d19_2) hr))) ?_
  have zz741 : n0 ≤ h0.size := by omega
  refine gSpecialN Gl.cl (y := y_33) (b := x) (argsL := [(.ref b), .null]) (rest := []) (mc := 1) (ms := 36) X0 hx hZ hown rfl (mvT hZ (tw hw 124 rfl)) (mvT hZ (tw hw 125 rfl)) (mvT hZ (tw hw 126 rfl)) (by decide) (backOf (W := 0) (si21 l Z a0 hw [] x b a ka cap cs G1 h0 n0 zz741 q0 (by assumption) ⟨Oo, (by omega)⟩ (by omega) q4 q5 q6 q7 q8 q9 q10 q11 q12 (by omega) (by omega) (by assumption) (by assumption)) hZ (tw hw 126 rfl) (tw hw 7 rfl) (by decide) (by decide)) rfl (by rw [hml]; rfl) (lenOf pd_26 rfl) rfl (by exact Nat.le_of_eq rfl) (hb hby d19_3) rfl e0 (by decide) (by decide) ?_
  intro v741 T741 Lc741 hQ741 X741
  obtain ⟨r_741, kr_741, rfl, Nq741, K741, f741_0, f741_1, f741_2, f741_3, f741_4⟩ := hQ741
  have z742 : h0.size ≤ T741.heap.size := K741.1
  have N741 := Fr.app N0 Nq741
  have lt743 := own_alt f741_0.lt
  have lt744 := own_alt f741_1.lt
  have lt745 := own_alt f741_2.lt
  have lt746 := own_alt f741_3.lt
  obtain ⟨fs, hr, hrun, hended, hW, hsame⟩ := X741.leave (v := none) (fun _ => rfl)
  refine ⟨_, _, X741.returnOut hx Bd.returns (hb hby d19_6) hr, hrun, hended, _, _, rfl, ?_, ⟨⟨_, rfl⟩, hW, hsame.mono (by decide) (by decide)⟩⟩
  show Qsi11 Z x b a ka cap cs G1 h0 n0 _ T741.heap _
  exact ⟨r_741, kr_741, rfl, N741, ((Keep.refl h0 [x]).trans K741 (allS (P := fun x_ => x_ ∈ ([x] : List Addr) ∨ h0.size ≤ x_) (Or.inl (by simp)) all0)), f741_0, f741_1, f741_2, f741_3, (by omega)⟩
def Qts1 (Z : State) (b : Addr) (a : Addr) (ka : ClassId) (cap : Nat) (cs : List Int32) (G1 : Int32) (h0 : Heap) (n0 : Nat) (v : Option Value) (h : Heap) (L : List Loc) : Prop := ∃ (r : Addr), ∃ (t : Addr), ∃ (kr : ClassId), v = some (.ref r) ∧ Fr n0 L ∧ Keep h0 h [] ∧ (Exa Z h r "java/lang/String") ∧ (Fld Z h r "java/lang/String" "value" "[B" (.ref t)) ∧ (Fld Z h r "java/lang/String" "coder" "B" (.int (1 : Int32))) ∧ (Arv Z h t kr .byte (Int32.ofNat (2 * cs.length)) (StrChars.Road.wideBytes cs) (.int (0 : Int32))) ∧ (@LE.le Nat instLENat h0.size r ∧ @LE.le Nat instLENat h0.size t)
theorem ef_ts1 (m : MethodId) (x0 : Addr) : entryFrame m #[(.ref x0)] 1 = mkF m 0 #[sR x0] [] := by first | (simp [entryFrame, mkF, argsToLocals, Value.category]; done) | rfl
set_option maxRecDepth 65536 in
set_option maxHeartbeats 40000000 in
theorem ts1 (l : Launch) (Z : State) (a0 : Array Value) (hw : ∀ d ∈ tables_1, d.before a0 Z = true) (ws : List Jvm.Cond) (b : Addr) (a : Addr) (ka : ClassId) (cap : Nat) (cs : List Int32) (G1 : Int32) (h0 : Heap) (n0 : Nat) (Z0 : n0 ≤ h0.size) (q0 : Sta Z Z.heap "java/lang/String" "COMPACT_STRINGS" "Z" (.int G1)) (P5 : ¬ (G1 = (0 : Int32))) (q2 : (Old Z Z.heap.size h0 ∧ @LE.le Nat instLENat Z.heap.size n0)) (q3 : Exa Z h0 b "java/lang/StringBuilder") (q4 : Fld Z h0 b "java/lang/AbstractStringBuilder" "value" "[B" (.ref a)) (q5 : Fld Z h0 b "java/lang/AbstractStringBuilder" "coder" "B" (.int (1 : Int32))) (q6 : Fld Z h0 b "java/lang/AbstractStringBuilder" "count" "I" (.int (Int32.ofNat cs.length))) (q7 : Fld Z h0 b "java/lang/AbstractStringBuilder" "maybeLatin1" "Z" (.int (0 : Int32))) (q8 : Arv Z h0 a ka .byte (Int32.ofNat (2 * cap)) (StrChars.Road.wideBytes cs) (.int (0 : Int32))) (hcap : cap ≤ 18) (hlt : cs.length < cap) :
    MetFree l y_35 (head1 (Jvm.Cond.code y_35 jdk_67_method_42_code 1 (some (.object "java/lang/String")) :: ws) r_m26) (fun a_ U_ => a_ = #[(.ref b)] ∧ Z.Warmed39 U_.vm ∧ U_.heap = h0) (fun _ _ _ _ _ => True) (fun _ U_ o_ V_ => ∃ v_ L_, o_ = .returned v_ ∧ Qts1 Z b a ka cap cs G1 h0 n0 v_ V_.heap L_ ∧ FrameEnd U_ o_ V_ L_ r_m26.cells r_m26.slots) := by
  refine MetFree.of_bodySF (plainFor_of_name pn_5) hisR ?_
  intro p e s m args below meth c s₁ Bd hml0 hP hK
  obtain ⟨rfl, hZ, hh⟩ := hP
  have hx := Bd.exec
  have hby := Bd.bytes
  have hml : c.maxLocals = 1 := hml0
  have hown : s.vm.findClass "java/lang/StringBuilder" = some m.cls := findClass_of_methodNamed Bd.named
  have hnm := (name_of_methodNamed Bd.named Bd.method).1
  have X0 : Stand p l e r_m26 s m #[(.ref b)] below meth c s₁ [] 0 0 := Stand.of_body Bd
  have e0 : s₁.heap = h0 := by rw [← hh, Bd.state]; rfl
  have N0 := Fr.nil n0
  have Oo := q2.1
  have zo := q2.2
  have lt747 := own_alt q3.lt
  have lt748 := own_alt q4.lt
  have lt749 := own_alt q5.lt
  have lt750 := own_alt q6.lt
  have lt751 := own_alt q7.lt
  have lt752 := own_alt q8.lt
  refine Gl.go (A := s₁.setTop (entryFrame m #[(.ref b)] 1)) (P := fun o_ U_ => ∃ v_ L_, o_ = .returned v_ ∧ Qts1 Z b a ka cap cs G1 h0 n0 v_ U_.heap L_ ∧ FrameEnd s o_ U_ L_ r_m26.cells r_m26.slots) (fun t_ k_ => castTop (ef_ts1 m b) k_) ?_
  show Gl p.tables e below _ (s₁.setTop (mkF m 0 #[sR b] []))
  refine gNew Gl.cl X0 hx hZ hown (tw hw 120 rfl) (tw hw 6 rfl) (tw hw 7 rfl) e0 rfl (hb hby d18_0) (by decide) (by decide) ?_
  intro T753 h753 b753 g753 X753 e753 E753 A753 D753
  have z754 : h0.size ≤ h753.size := E753.1
  have lt753 := own_alt A753.lt
  have F753_value : Fld Z h753 b753 "java/lang/String" "value" "[B" .null := D753 (Or.inr (tw hw 21 rfl)) (ty := (.array .byte)) (by decide)
  have F753_coder : Fld Z h753 b753 "java/lang/String" "coder" "B" (.int (0 : Int32)) := D753 (Or.inr (tw hw 22 rfl)) (ty := .byte) (by decide)
  refine Gl.go (fun _ hr => zXS_dup X753.here hx rfl (hb hby d18_3) rfl rfl (zXS_aloadN X753.here hx rfl (hb hby d18_4) rfl rfl hr)) ?_
  have Oc756 := (Oo.ext E753)
  have Ec757 := (q3.ext E753)
  have Fc758 := (q4.ext E753)
  have Fc759 := (q5.ext E753)
  have Fc760 := (q6.ext E753)
  have Fc761 := (q7.ext E753)
  have Vc762 := (q8.ext E753)
  have zz755 : n0 ≤ h753.size := by omega
  refine gSpecialN Gl.cl (y := y_34) (b := b753) (argsL := [(.ref b)]) (rest := [(.ref b753)]) (mc := 1) (ms := 36) X753 hx hZ hown rfl (mvT hZ (tw hw 121 rfl)) (mvT hZ (tw hw 122 rfl)) (mvT hZ (tw hw 123 rfl)) (by decide) (backOf (W := 1) (si11 l Z a0 hw [] b753 b a ka cap cs G1 h753 n0 zz755 q0 (by assumption) ⟨Oc756, (by omega)⟩ (by omega) A753 F753_value F753_coder Ec757 Fc758 Fc759 Fc760 Fc761 Vc762 (by omega) (by omega) (by assumption) (by assumption)) hZ (tw hw 123 rfl) (tw hw 7 rfl) (by decide) (by decide)) rfl (by rw [hml]; rfl) (lenOf pd_27 rfl) rfl (by exact Nat.le_of_eq rfl) (hb hby d18_5) rfl e753 (by decide) (by decide) ?_
  intro v755 T755 Lc755 hQ755 X755
  obtain ⟨r_755, kr_755, rfl, Nq755, K755, f755_0, f755_1, f755_2, f755_3, f755_4⟩ := hQ755
  have z763 : h753.size ≤ T755.heap.size := K755.1
  have N755 := Fr.app N0 Nq755
  have lt764 := own_alt f755_0.lt
  have lt765 := own_alt f755_1.lt
  have lt766 := own_alt f755_2.lt
  have lt767 := own_alt f755_3.lt
  obtain ⟨fs, hr, hrun, hended, hW, hsame⟩ := X755.leave (v := some (.ref b753)) (fun h => by rw [Bd.returns] at h; cases h)
  have om768 : @LE.le Nat instLENat h0.size b753 := by omega
  refine ⟨_, _, retOut X755 hx Bd.returns rfl (Or.inr (Or.inr (Or.inr (Or.inr ⟨rfl, rfl, rfl⟩)))) (hb hby d18_8) hr, hrun, hended, _, _, rfl, ?_, ⟨⟨_, rfl⟩, hW, hsame.mono (by decide) (by decide)⟩⟩
  show Qts1 Z b a ka cap cs G1 h0 n0 _ T755.heap _
  exact ⟨b753, r_755, kr_755, rfl, N755, (((Keep.refl h0 []).ext E753).trans K755 (allS (P := fun x_ => x_ ∈ ([] : List Addr) ∨ h0.size ≤ x_) (Or.inr (own_ale om768)) all0)), f755_0, f755_1, f755_2, f755_3, ⟨by omega, by omega⟩⟩
def Qai (Z : State) (b : Addr) (G1 : Int32) (h0 : Heap) (n0 : Nat) (v : Option Value) (h : Heap) (L : List Loc) : Prop := ∃ (a : Addr), ∃ (ka : ClassId), v = none ∧ Fr n0 L ∧ Keep h0 h [b] ∧ (@LE.le Nat instLENat h0.size a) ∧ (Exa Z h b "java/lang/StringBuilder") ∧ (Fld Z h b "java/lang/AbstractStringBuilder" "value" "[B" (.ref a)) ∧ (Fld Z h b "java/lang/AbstractStringBuilder" "coder" "B" (.int (0 : Int32))) ∧ (Fld Z h b "java/lang/AbstractStringBuilder" "count" "I" (.int (0 : Int32))) ∧ (Fld Z h b "java/lang/AbstractStringBuilder" "maybeLatin1" "Z" (.int (0 : Int32))) ∧ (Arv Z h a ka .byte (16 : Int32) ([]) (.int (0 : Int32)))
theorem ef_ai (m : MethodId) (x0 : Addr) (x1 : Int32) : entryFrame m #[(.ref x0), (.int x1)] 2 = mkF m 0 #[sR x0, sI x1] [] := by first | (simp [entryFrame, mkF, argsToLocals, Value.category]; done) | rfl
theorem d9_0 : decode jdk_68_method_2_code 0 = .ok (.aload_n 0, 1) := by decide +kernel
theorem d9_1 : decode jdk_68_method_2_code 1 = .ok (.invokespecial 3, 3) := by decide +kernel
theorem d9_4 : decode jdk_68_method_2_code 4 = .ok (.getstatic 18, 3) := by decide +kernel
theorem d9_7 : decode jdk_68_method_2_code 7 = .ok (.ifCond .eq 18, 3) := by decide +kernel
theorem d9_10 : decode jdk_68_method_2_code 10 = .ok (.aload_n 0, 1) := by decide +kernel
theorem d9_11 : decode jdk_68_method_2_code 11 = .ok (.iload_n 1, 1) := by decide +kernel
theorem d9_12 : decode jdk_68_method_2_code 12 = .ok (.newarray .byte, 2) := by decide +kernel
theorem d9_14 : decode jdk_68_method_2_code 14 = .ok (.putfield 15, 3) := by decide +kernel
theorem d9_17 : decode jdk_68_method_2_code 17 = .ok (.aload_n 0, 1) := by decide +kernel
theorem d9_18 : decode jdk_68_method_2_code 18 = .ok (.iconst 0, 1) := by decide +kernel
theorem d9_19 : decode jdk_68_method_2_code 19 = .ok (.putfield 22, 3) := by decide +kernel
theorem d9_22 : decode jdk_68_method_2_code 22 = .ok (.goto 16, 3) := by decide +kernel
theorem d9_38 : decode jdk_68_method_2_code 38 = .ok (.return_, 1) := by decide +kernel
set_option maxRecDepth 65536 in
set_option maxHeartbeats 40000000 in
theorem ai (l : Launch) (Z : State) (a0 : Array Value) (hw : ∀ d ∈ tables_1, d.before a0 Z = true) (ws : List Jvm.Cond) (b : Addr) (G1 : Int32) (h0 : Heap) (n0 : Nat) (Z0 : n0 ≤ h0.size) (q0 : Sta Z Z.heap "java/lang/String" "COMPACT_STRINGS" "Z" (.int G1)) (P5 : ¬ (G1 = (0 : Int32))) (q2 : (Old Z Z.heap.size h0 ∧ @LE.le Nat instLENat Z.heap.size n0)) (q3 : @LE.le Nat instLENat n0 b) (q4 : Exa Z h0 b "java/lang/StringBuilder") (q5 : Fld Z h0 b "java/lang/AbstractStringBuilder" "value" "[B" .null) (q6 : Fld Z h0 b "java/lang/AbstractStringBuilder" "coder" "B" (.int (0 : Int32))) (q7 : Fld Z h0 b "java/lang/AbstractStringBuilder" "count" "I" (.int (0 : Int32))) (q8 : Fld Z h0 b "java/lang/AbstractStringBuilder" "maybeLatin1" "Z" (.int (0 : Int32))) :
    MetFree l y_36 (head1 (Jvm.Cond.code y_36 jdk_68_method_2_code 2 none :: ws) r_m27) (fun a_ U_ => a_ = #[(.ref b), (.int (16 : Int32))] ∧ Z.Warmed39 U_.vm ∧ U_.heap = h0) (fun _ _ _ _ _ => True) (fun _ U_ o_ V_ => ∃ v_ L_, o_ = .returned v_ ∧ Qai Z b G1 h0 n0 v_ V_.heap L_ ∧ FrameEnd U_ o_ V_ L_ r_m27.cells r_m27.slots) := by
  refine MetFree.of_bodySF (plainFor_of_name pn_2) hisR ?_
  intro p e s m args below meth c s₁ Bd hml0 hP hK
  obtain ⟨rfl, hZ, hh⟩ := hP
  have hx := Bd.exec
  have hby := Bd.bytes
  have hml : c.maxLocals = 2 := hml0
  have hown : s.vm.findClass "java/lang/AbstractStringBuilder" = some m.cls := findClass_of_methodNamed Bd.named
  have hnm := (name_of_methodNamed Bd.named Bd.method).1
  have X0 : Stand p l e r_m27 s m #[(.ref b), (.int (16 : Int32))] below meth c s₁ [] 0 0 := Stand.of_body Bd
  have e0 : s₁.heap = h0 := by rw [← hh, Bd.state]; rfl
  have N0 := Fr.nil n0
  have Oo := q2.1
  have zo := q2.2
  have lt769 := own_alt q4.lt
  have lt770 := own_alt q5.lt
  have lt771 := own_alt q6.lt
  have lt772 := own_alt q7.lt
  have lt773 := own_alt q8.lt
  refine Gl.go (A := s₁.setTop (entryFrame m #[(.ref b), (.int (16 : Int32))] 2)) (P := fun o_ U_ => ∃ v_ L_, o_ = .returned v_ ∧ Qai Z b G1 h0 n0 v_ U_.heap L_ ∧ FrameEnd s o_ U_ L_ r_m27.cells r_m27.slots) (fun t_ k_ => castTop (ef_ai m b (16 : Int32)) k_) ?_
  show Gl p.tables e below _ (s₁.setTop (mkF m 0 #[sR b, sI 16] []))
  refine Gl.go (fun _ hr => zXS_aloadN X0.here hx rfl (hb hby d9_0) rfl rfl hr) ?_
  refine gInit Gl.cl (W := 0) X0 hx hZ hown (tw hw 60 rfl) (tw hw 17 rfl) (tw hw 18 rfl) e0 rfl (by rw [hml]; rfl) rfl (hb hby d9_1) (by decide) (by exact Nat.le_of_eq rfl) (by decide) ?_
  intro T774 X774 e774
  refine gGetS (host := "") Gl.cl X774 hx hZ hown (Or.inl (tw hw 61 rfl)) Via.refl e774 (q0.ext Oo.2) rfl (hb hby d9_4) ?_
  intro T775 X775 e775
  refine Gl.go (fun _ hr => zXS_ifNo X775.here hx rfl (hb hby d9_7) rfl (XT.i0_eq_f P5) (zXS_aloadN X775.here hx rfl (hb hby d9_10) rfl rfl (zXS_iloadN X775.here hx rfl (hb hby d9_11) rfl hr))) ?_
  refine gNewP Gl.cl X775 hx hZ (tw hw 20 rfl) e775 rfl (hb hby d9_12) rfl (by decide) (cap := 16) (by decide) (by decide) (by decide) (by decide) ?_
  intro T776 h776 b776 k776 g776 X776 e776 E776 A776
  have z777 : h0.size ≤ h776.size := E776.1
  have lt776 := own_alt A776.lt
  have V776 : Arv Z h776 b776 k776 .byte (16 : Int32) [] (.int (0 : Int32)) := (Arv.new A776 (by decide)).pad (pad_rep [] (.int (0 : Int32)) 0)
  have Fc778 := (q5.ext E776)
  have Ec779 := (q4.ext E776)
  refine gPutF (host := "") Gl.cl X776 hx hZ hown (Or.inl (tw hw 62 rfl)) Via.refl e776 Fc778 Ec779 (Or.inl (tw hw 63 rfl)) (tw hw 49 rfl) (ty := (.array .byte)) (by decide) rfl rfl rfl rfl (hb hby d9_14) ?_
  intro T780 h780 X780 e780 W780
  have z781 : h776.size ≤ h780.size := (Keep.of_wr W780).1
  have Fw780 := Fc778.same W780
  have om782 : @LE.le Nat instLENat n0 b := by omega
  have N780 := Fr.snoc X780 N0 (own_ale om782)
  refine Gl.go (fun _ hr => zXS_aloadN X780.here hx rfl (hb hby d9_17) rfl rfl (zXS_iconst X780.here hx rfl (hb hby d9_18) hr)) ?_
  have Fc783 := ((q6.ext E776).other W780 (Or.inr (slot_ne (Or.inl (tw hw 65 rfl)) (Or.inl (tw hw 63 rfl)) (by decide) (t := .byte) (t' := (.array .byte)) (by decide) (by decide))))
  have Ec784 := (Ec779.wr W780)
  refine gPutF (host := "") Gl.cl X780 hx hZ hown (Or.inl (tw hw 64 rfl)) Via.refl e780 Fc783 Ec784 (Or.inl (tw hw 65 rfl)) (tw hw 49 rfl) (ty := .byte) (by decide) rfl rfl rfl rfl (hb hby d9_19) ?_
  intro T785 h785 X785 e785 W785
  have z786 : h780.size ≤ h785.size := (Keep.of_wr W785).1
  have Fw785 := Fc783.same W785
  have N785 := Fr.snoc X785 N780 (own_ale om782)
  refine Gl.go (fun _ hr => zXS_goto X785.here hx rfl (pc0 := 22) (pc' := 38) rfl (hb hby d9_22) (by decide) (by decide) hr) ?_
  have Ec787 := (Ec784.wr W785)
  have Fc788 := (Fw780.other W785 (Or.inr (slot_ne (Or.inl (tw hw 63 rfl)) (Or.inl (tw hw 65 rfl)) (by decide) (t := (.array .byte)) (t' := .byte) (by decide) (by decide))))
  have Fc789 := (((q7.ext E776).other W780 (Or.inr (slot_ne (Or.inl (tw hw 88 rfl)) (Or.inl (tw hw 63 rfl)) (by decide) (t := .int) (t' := (.array .byte)) (by decide) (by decide)))).other W785 (Or.inr (slot_ne (Or.inl (tw hw 88 rfl)) (Or.inl (tw hw 65 rfl)) (by decide) (t := .int) (t' := .byte) (by decide) (by decide))))
  have Fc790 := (((q8.ext E776).other W780 (Or.inr (slot_ne (Or.inl (tw hw 247 rfl)) (Or.inl (tw hw 63 rfl)) (by decide) (t := .boolean) (t' := (.array .byte)) (by decide) (by decide)))).other W785 (Or.inr (slot_ne (Or.inl (tw hw 247 rfl)) (Or.inl (tw hw 65 rfl)) (by decide) (t := .boolean) (t' := .byte) (by decide) (by decide))))
  have om791 : ¬ @Eq Nat b776 b := by omega
  have Vc792 := ((V776.other W780 (own_ane om791)).other W785 (own_ane om791))
  obtain ⟨fs, hr, hrun, hended, hW, hsame⟩ := X785.leave (v := none) (fun _ => rfl)
  refine ⟨_, _, X785.returnOut hx Bd.returns (hb hby d9_38) hr, hrun, hended, _, _, rfl, ?_, ⟨⟨_, rfl⟩, hW, hsame.mono (by decide) (by decide)⟩⟩
  show Qai Z b G1 h0 n0 _ T785.heap _
  rw [e785]
  exact ⟨b776, k776, rfl, N785, ((((Keep.refl h0 [b]).ext E776).wr W780 (Or.inl (by simp))).wr W785 (Or.inl (by simp))), (by omega), Ec787, Fc788, Fw785, Fc789, Fc790, Vc792⟩
def Qsbi (Z : State) (b : Addr) (G1 : Int32) (h0 : Heap) (n0 : Nat) (v : Option Value) (h : Heap) (L : List Loc) : Prop := ∃ (a : Addr), ∃ (ka : ClassId), v = none ∧ Fr n0 L ∧ Keep h0 h [b] ∧ (@LE.le Nat instLENat h0.size a) ∧ (Exa Z h b "java/lang/StringBuilder") ∧ (Fld Z h b "java/lang/AbstractStringBuilder" "value" "[B" (.ref a)) ∧ (Fld Z h b "java/lang/AbstractStringBuilder" "coder" "B" (.int (0 : Int32))) ∧ (Fld Z h b "java/lang/AbstractStringBuilder" "count" "I" (.int (0 : Int32))) ∧ (Fld Z h b "java/lang/AbstractStringBuilder" "maybeLatin1" "Z" (.int (0 : Int32))) ∧ (Arv Z h a ka .byte (16 : Int32) ([]) (.int (0 : Int32)))
theorem ef_sbi (m : MethodId) (x0 : Addr) : entryFrame m #[(.ref x0)] 1 = mkF m 0 #[sR x0] [] := by first | (simp [entryFrame, mkF, argsToLocals, Value.category]; done) | rfl
theorem d8_0 : decode jdk_67_method_1_code 0 = .ok (.aload_n 0, 1) := by decide +kernel
theorem d8_1 : decode jdk_67_method_1_code 1 = .ok (.bipush 16, 2) := by decide +kernel
theorem d8_3 : decode jdk_67_method_1_code 3 = .ok (.invokespecial 1, 3) := by decide +kernel
theorem d8_6 : decode jdk_67_method_1_code 6 = .ok (.return_, 1) := by decide +kernel
set_option maxRecDepth 65536 in
set_option maxHeartbeats 40000000 in
theorem sbi (l : Launch) (Z : State) (a0 : Array Value) (hw : ∀ d ∈ tables_1, d.before a0 Z = true) (ws : List Jvm.Cond) (b : Addr) (G1 : Int32) (h0 : Heap) (n0 : Nat) (Z0 : n0 ≤ h0.size) (q0 : Sta Z Z.heap "java/lang/String" "COMPACT_STRINGS" "Z" (.int G1)) (P5 : ¬ (G1 = (0 : Int32))) (q2 : (Old Z Z.heap.size h0 ∧ @LE.le Nat instLENat Z.heap.size n0)) (q3 : @LE.le Nat instLENat n0 b) (q4 : Exa Z h0 b "java/lang/StringBuilder") (q5 : Fld Z h0 b "java/lang/AbstractStringBuilder" "value" "[B" .null) (q6 : Fld Z h0 b "java/lang/AbstractStringBuilder" "coder" "B" (.int (0 : Int32))) (q7 : Fld Z h0 b "java/lang/AbstractStringBuilder" "count" "I" (.int (0 : Int32))) (q8 : Fld Z h0 b "java/lang/AbstractStringBuilder" "maybeLatin1" "Z" (.int (0 : Int32))) :
    MetFree l y_37 (head1 (Jvm.Cond.code y_37 jdk_67_method_1_code 1 none :: ws) r_m28) (fun a_ U_ => a_ = #[(.ref b)] ∧ Z.Warmed39 U_.vm ∧ U_.heap = h0) (fun _ _ _ _ _ => True) (fun _ U_ o_ V_ => ∃ v_ L_, o_ = .returned v_ ∧ Qsbi Z b G1 h0 n0 v_ V_.heap L_ ∧ FrameEnd U_ o_ V_ L_ r_m28.cells r_m28.slots) := by
  refine MetFree.of_bodySF (plainFor_of_name pn_5) hisR ?_
  intro p e s m args below meth c s₁ Bd hml0 hP hK
  obtain ⟨rfl, hZ, hh⟩ := hP
  have hx := Bd.exec
  have hby := Bd.bytes
  have hml : c.maxLocals = 1 := hml0
  have hown : s.vm.findClass "java/lang/StringBuilder" = some m.cls := findClass_of_methodNamed Bd.named
  have hnm := (name_of_methodNamed Bd.named Bd.method).1
  have X0 : Stand p l e r_m28 s m #[(.ref b)] below meth c s₁ [] 0 0 := Stand.of_body Bd
  have e0 : s₁.heap = h0 := by rw [← hh, Bd.state]; rfl
  have N0 := Fr.nil n0
  have Oo := q2.1
  have zo := q2.2
  have lt793 := own_alt q4.lt
  have lt794 := own_alt q5.lt
  have lt795 := own_alt q6.lt
  have lt796 := own_alt q7.lt
  have lt797 := own_alt q8.lt
  refine Gl.go (A := s₁.setTop (entryFrame m #[(.ref b)] 1)) (P := fun o_ U_ => ∃ v_ L_, o_ = .returned v_ ∧ Qsbi Z b G1 h0 n0 v_ U_.heap L_ ∧ FrameEnd s o_ U_ L_ r_m28.cells r_m28.slots) (fun t_ k_ => castTop (ef_sbi m b) k_) ?_
  show Gl p.tables e below _ (s₁.setTop (mkF m 0 #[sR b] []))
  refine Gl.go (fun _ hr => zXS_aloadN X0.here hx rfl (hb hby d8_0) rfl rfl (zXS_bipush X0.here hx rfl (hb hby d8_1) hr)) ?_
  have zz798 : n0 ≤ h0.size := by omega
  refine gSpecialN Gl.cl (y := y_36) (b := b) (argsL := [(.int (16 : Int32))]) (rest := []) (mc := 1) (ms := 16) X0 hx hZ hown rfl (mvT hZ (tw hw 54 rfl)) (mvT hZ (tw hw 55 rfl)) (mvT hZ (tw hw 59 rfl)) (by decide) (backOf (W := 0) (ai l Z a0 hw [] b G1 h0 n0 zz798 q0 (by assumption) ⟨Oo, (by omega)⟩ (by omega) q4 q5 q6 q7 q8) hZ (tw hw 59 rfl) (tw hw 58 rfl) (by decide) (by decide)) rfl (by rw [hml]; rfl) (lenOf pd_19 rfl) rfl (by exact Nat.le_of_eq rfl) (hb hby d8_3) rfl e0 (by decide) (by decide) ?_
  intro v798 T798 Lc798 hQ798 X798
  obtain ⟨a_798, ka_798, rfl, Nq798, K798, f798_0, f798_1, f798_2, f798_3, f798_4, f798_5, f798_6⟩ := hQ798
  have z799 : h0.size ≤ T798.heap.size := K798.1
  have N798 := Fr.app N0 Nq798
  have lt800 := own_alt f798_1.lt
  have lt801 := own_alt f798_2.lt
  have lt802 := own_alt f798_3.lt
  have lt803 := own_alt f798_4.lt
  have lt804 := own_alt f798_5.lt
  have lt805 := own_alt f798_6.lt
  obtain ⟨fs, hr, hrun, hended, hW, hsame⟩ := X798.leave (v := none) (fun _ => rfl)
  refine ⟨_, _, X798.returnOut hx Bd.returns (hb hby d8_6) hr, hrun, hended, _, _, rfl, ?_, ⟨⟨_, rfl⟩, hW, hsame.mono (by decide) (by decide)⟩⟩
  show Qsbi Z b G1 h0 n0 _ T798.heap _
  exact ⟨a_798, ka_798, rfl, N798, ((Keep.refl h0 [b]).trans K798 (allS (P := fun x_ => x_ ∈ ([b] : List Addr) ∨ h0.size ≤ x_) (Or.inl (by simp)) all0)), (by omega), f798_1, f798_2, f798_3, f798_4, f798_5, f798_6⟩
def Qpci (Z : State) (i : Nat) (nz : Nat) (G3 : Value) (h0 : Heap) (n0 : Nat) (v : Option Value) (h : Heap) (L : List Loc) : Prop := v = some (.int (Int32.ofNat i)) ∧ Fr n0 L ∧ h = h0
theorem ef_pci (m : MethodId) (x0 : Int32) (x1 : Int32) (x2 : Value) (hx2 : x2.isRef = true) : entryFrame m #[(.int x0), (.int x1), x2] 3 = mkF m 0 #[sI x0, sI x1, .val x2] [] := by
  cases x2 <;> first | rfl | exact Bool.noConfusion hx2 | (simp [entryFrame, mkF, argsToLocals, Value.category]; done)
theorem d34_0 : decode jdk_41_method_11_code 0 = .ok (.iload_n 0, 1) := by decide +kernel
theorem d34_1 : decode jdk_41_method_11_code 1 = .ok (.ifCond .lt 8, 3) := by decide +kernel
theorem d34_4 : decode jdk_41_method_11_code 4 = .ok (.iload_n 0, 1) := by decide +kernel
theorem d34_5 : decode jdk_41_method_11_code 5 = .ok (.iload_n 1, 1) := by decide +kernel
theorem d34_6 : decode jdk_41_method_11_code 6 = .ok (.if_icmp .lt 10, 3) := by decide +kernel
theorem d34_16 : decode jdk_41_method_11_code 16 = .ok (.iload_n 0, 1) := by decide +kernel
theorem d34_17 : decode jdk_41_method_11_code 17 = .ok (.ireturn, 1) := by decide +kernel
set_option maxRecDepth 65536 in
set_option maxHeartbeats 40000000 in
theorem pci (l : Launch) (Z : State) (a0 : Array Value) (hw : ∀ d ∈ tables_1, d.before a0 Z = true) (ws : List Jvm.Cond) (i : Nat) (nz : Nat) (G3 : Value) (h0 : Heap) (n0 : Nat) (Z0 : n0 ≤ h0.size) (rG3 : G3.isRef = true) (hii : i < nz) (hnz : nz < 2 ^ 31) :
    MetFree l y_38 (head1 (Jvm.Cond.code y_38 jdk_41_method_11_code 3 (some .int) :: ws) r_m0) (fun a_ U_ => a_ = #[(.int (Int32.ofNat i)), (.int (Int32.ofNat nz)), G3] ∧ Z.Warmed39 U_.vm ∧ U_.heap = h0) (fun _ _ _ _ _ => True) (fun _ U_ o_ V_ => ∃ v_ L_, o_ = .returned v_ ∧ Qpci Z i nz G3 h0 n0 v_ V_.heap L_ ∧ FrameEnd U_ o_ V_ L_ r_m0.cells r_m0.slots) := by
  refine MetFree.of_bodySF (plainFor_of_name pn_3) hisR ?_
  intro p e s m args below meth c s₁ Bd hml0 hP hK
  obtain ⟨rfl, hZ, hh⟩ := hP
  have hx := Bd.exec
  have hby := Bd.bytes
  have hml : c.maxLocals = 3 := hml0
  have hown : s.vm.findClass "jdk/internal/util/Preconditions" = some m.cls := findClass_of_methodNamed Bd.named
  have hnm := (name_of_methodNamed Bd.named Bd.method).1
  have X0 : Stand p l e r_m0 s m #[(.int (Int32.ofNat i)), (.int (Int32.ofNat nz)), G3] below meth c s₁ [] 0 0 := Stand.of_body Bd
  have e0 : s₁.heap = h0 := by rw [← hh, Bd.state]; rfl
  have N0 := Fr.nil n0
  refine Gl.go (A := s₁.setTop (entryFrame m #[(.int (Int32.ofNat i)), (.int (Int32.ofNat nz)), G3] 3)) (P := fun o_ U_ => ∃ v_ L_, o_ = .returned v_ ∧ Qpci Z i nz G3 h0 n0 v_ U_.heap L_ ∧ FrameEnd s o_ U_ L_ r_m0.cells r_m0.slots) (fun t_ k_ => castTop (ef_pci m (Int32.ofNat i) (Int32.ofNat nz) G3 (by assumption)) k_) ?_
  show Gl p.tables e below _ (s₁.setTop (mkF m 0 #[sI (Int32.ofNat i), sI (Int32.ofNat nz), .val G3] []))
  refine Gl.go (fun _ hr => zXS_iloadN X0.here hx rfl (hb hby d34_0) rfl hr) ?_
  refine Gl.go (fun _ hr => zXS_ifNo X0.here hx rfl (hb hby d34_1) rfl (XT.i0_lt_f (own_nn (by omega))) (zXS_iloadN X0.here hx rfl (hb hby d34_4) rfl (zXS_iloadN X0.here hx rfl (hb hby d34_5) rfl hr))) ?_
  refine Gl.go (fun _ hr => zXS_icmpYes X0.here hx rfl (pc0 := 6) (pc' := 16) rfl (hb hby d34_6) rfl (XT.ii_lt_t (own_lt32 hnz hii)) (by decide) (by decide) (zXS_iloadN X0.here hx rfl (hb hby d34_16) rfl hr)) ?_
  obtain ⟨fs, hr, hrun, hended, hW, hsame⟩ := X0.leave (v := some (.int (Int32.ofNat i))) (fun h => by rw [Bd.returns] at h; cases h)
  refine ⟨_, _, retOut X0 hx Bd.returns rfl (Or.inl ⟨rfl, Or.inl rfl, _, rfl⟩) (hb hby d34_17) hr, hrun, hended, _, _, rfl, ?_, ⟨⟨_, rfl⟩, hW, hsame.mono (by decide) (by decide)⟩⟩
  show Qpci Z i nz G3 h0 n0 _ s₁.heap _
  rw [e0]
  exact ⟨rfl, N0, rfl⟩
def Qsci (Z : State) (i : Nat) (nz : Nat) (G3 : Value) (h0 : Heap) (n0 : Nat) (v : Option Value) (h : Heap) (L : List Loc) : Prop := v = none ∧ Fr n0 L ∧ h = h0
theorem ef_sci (m : MethodId) (x0 : Int32) (x1 : Int32) : entryFrame m #[(.int x0), (.int x1)] 2 = mkF m 0 #[sI x0, sI x1] [] := by first | (simp [entryFrame, mkF, argsToLocals, Value.category]; done) | rfl
theorem d33_0 : decode jdk_42_method_155_code 0 = .ok (.iload_n 0, 1) := by decide +kernel
theorem d33_1 : decode jdk_42_method_155_code 1 = .ok (.iload_n 1, 1) := by decide +kernel
theorem d33_2 : decode jdk_42_method_155_code 2 = .ok (.getstatic 1053, 3) := by decide +kernel
theorem d33_5 : decode jdk_42_method_155_code 5 = .ok (.invokestatic 1059, 3) := by decide +kernel
theorem pd_28 : parseMethodDescriptor "(IILjava/util/function/BiFunction;)I" = some ⟨[.int, .int, (.object "java/util/function/BiFunction")], some .int⟩ := by decide +kernel
theorem d33_8 : decode jdk_42_method_155_code 8 = .ok (.pop, 1) := by decide +kernel
theorem d33_9 : decode jdk_42_method_155_code 9 = .ok (.return_, 1) := by decide +kernel
set_option maxRecDepth 65536 in
set_option maxHeartbeats 40000000 in
theorem sci (l : Launch) (Z : State) (a0 : Array Value) (hw : ∀ d ∈ tables_1, d.before a0 Z = true) (ws : List Jvm.Cond) (i : Nat) (nz : Nat) (G3 : Value) (h0 : Heap) (n0 : Nat) (Z0 : n0 ≤ h0.size) (q0 : (Old Z Z.heap.size h0 ∧ @LE.le Nat instLENat Z.heap.size n0)) (q1 : Sta Z Z.heap "jdk/internal/util/Preconditions" "SIOOBE_FORMATTER" "Ljava/util/function/BiFunction;" G3) (rG3 : G3.isRef = true) (hii : i < nz) (hnz : nz < 2 ^ 31) :
    MetFree l y_39 (head1 (Jvm.Cond.code y_39 jdk_42_method_155_code 2 none :: ws) r_m29) (fun a_ U_ => a_ = #[(.int (Int32.ofNat i)), (.int (Int32.ofNat nz))] ∧ Z.Warmed39 U_.vm ∧ U_.heap = h0) (fun _ _ _ _ _ => True) (fun _ U_ o_ V_ => ∃ v_ L_, o_ = .returned v_ ∧ Qsci Z i nz G3 h0 n0 v_ V_.heap L_ ∧ FrameEnd U_ o_ V_ L_ r_m29.cells r_m29.slots) := by
  refine MetFree.of_bodySF (plainFor_of_name pn_1) hisR ?_
  intro p e s m args below meth c s₁ Bd hml0 hP hK
  obtain ⟨rfl, hZ, hh⟩ := hP
  have hx := Bd.exec
  have hby := Bd.bytes
  have hml : c.maxLocals = 2 := hml0
  have hown : s.vm.findClass "java/lang/String" = some m.cls := findClass_of_methodNamed Bd.named
  have hnm := (name_of_methodNamed Bd.named Bd.method).1
  have X0 : Stand p l e r_m29 s m #[(.int (Int32.ofNat i)), (.int (Int32.ofNat nz))] below meth c s₁ [] 0 0 := Stand.of_body Bd
  have e0 : s₁.heap = h0 := by rw [← hh, Bd.state]; rfl
  have N0 := Fr.nil n0
  have Oo := q0.1
  have zo := q0.2
  refine Gl.go (A := s₁.setTop (entryFrame m #[(.int (Int32.ofNat i)), (.int (Int32.ofNat nz))] 2)) (P := fun o_ U_ => ∃ v_ L_, o_ = .returned v_ ∧ Qsci Z i nz G3 h0 n0 v_ U_.heap L_ ∧ FrameEnd s o_ U_ L_ r_m29.cells r_m29.slots) (fun t_ k_ => castTop (ef_sci m (Int32.ofNat i) (Int32.ofNat nz)) k_) ?_
  show Gl p.tables e below _ (s₁.setTop (mkF m 0 #[sI (Int32.ofNat i), sI (Int32.ofNat nz)] []))
  refine Gl.go (fun _ hr => zXS_iloadN X0.here hx rfl (hb hby d33_0) rfl (zXS_iloadN X0.here hx rfl (hb hby d33_1) rfl hr)) ?_
  refine gGetS (host := "") Gl.cl X0 hx hZ hown (Or.inl (tw hw 181 rfl)) Via.refl e0 (q1.ext Oo.2) rfl (hb hby d33_2) ?_
  intro T806 X806 e806
  have zz807 : n0 ≤ h0.size := by omega
  refine gStaticN Gl.cl (y := y_38) (argsL := [(.int (Int32.ofNat i)), (.int (Int32.ofNat nz)), G3]) (rest := []) (mc := 0) (ms := 0) X806 hx hZ hown (mvT hZ (tw hw 183 rfl)) (mvT hZ (tw hw 184 rfl)) (mvT hZ (tw hw 182 rfl)) (mvT hZ (tw hw 185 rfl)) (by decide) (backOf (W := 0) (pci l Z a0 hw [] i nz G3 h0 n0 zz807 (by assumption) (by assumption) (by assumption)) hZ (tw hw 185 rfl) (tw hw 182 rfl) (by decide) (by decide)) rfl (by rw [hml]; rfl) (lenOf pd_28 rfl) rfl (by exact Nat.le_of_eq rfl) (hb hby d33_5) rfl e806 (by decide) (by decide) ?_
  intro v807 T807 Lc807 hQ807 X807
  obtain ⟨rfl, Nq807, e807⟩ := hQ807
  have N807 := Fr.app N0 Nq807
  refine Gl.go (fun _ hr => zXT_pop X807.here hx rfl (hb hby d33_8) rfl rfl hr) ?_
  obtain ⟨fs, hr, hrun, hended, hW, hsame⟩ := X807.leave (v := none) (fun _ => rfl)
  refine ⟨_, _, X807.returnOut hx Bd.returns (hb hby d33_9) hr, hrun, hended, _, _, rfl, ?_, ⟨⟨_, rfl⟩, hW, hsame.mono (by decide) (by decide)⟩⟩
  show Qsci Z i nz G3 h0 n0 _ T807.heap _
  rw [e807]
  exact ⟨rfl, N807, rfl⟩
def Qisl0 (Z : State) (x : Addr) (G1 : Int32) (h0 : Heap) (n0 : Nat) (v : Option Value) (h : Heap) (L : List Loc) : Prop := v = some (.int (1 : Int32)) ∧ Fr n0 L ∧ h = h0
theorem ef_isl0 (m : MethodId) (x0 : Addr) : entryFrame m #[(.ref x0)] 1 = mkF m 0 #[sR x0] [] := by first | (simp [entryFrame, mkF, argsToLocals, Value.category]; done) | rfl
theorem d31_0 : decode jdk_42_method_154_code 0 = .ok (.getstatic 38, 3) := by decide +kernel
theorem d31_3 : decode jdk_42_method_154_code 3 = .ok (.ifCond .eq 14, 3) := by decide +kernel
theorem d31_6 : decode jdk_42_method_154_code 6 = .ok (.aload_n 0, 1) := by decide +kernel
theorem d31_7 : decode jdk_42_method_154_code 7 = .ok (.getfield 15, 3) := by decide +kernel
theorem d31_10 : decode jdk_42_method_154_code 10 = .ok (.ifCond .ne 7, 3) := by decide +kernel
theorem d31_13 : decode jdk_42_method_154_code 13 = .ok (.iconst 1, 1) := by decide +kernel
theorem d31_14 : decode jdk_42_method_154_code 14 = .ok (.goto 4, 3) := by decide +kernel
theorem d31_18 : decode jdk_42_method_154_code 18 = .ok (.ireturn, 1) := by decide +kernel
set_option maxRecDepth 65536 in
set_option maxHeartbeats 40000000 in
theorem isl0 (l : Launch) (Z : State) (a0 : Array Value) (hw : ∀ d ∈ tables_1, d.before a0 Z = true) (ws : List Jvm.Cond) (x : Addr) (G1 : Int32) (h0 : Heap) (n0 : Nat) (Z0 : n0 ≤ h0.size) (q0 : Sta Z Z.heap "java/lang/String" "COMPACT_STRINGS" "Z" (.int G1)) (P5 : ¬ (G1 = (0 : Int32))) (q2 : (Old Z Z.heap.size h0 ∧ @LE.le Nat instLENat Z.heap.size n0)) (q3 : Fld Z h0 x "java/lang/String" "coder" "B" (.int (0 : Int32))) :
    MetFree l y_40 (head1 (Jvm.Cond.code y_40 jdk_42_method_154_code 1 (some .boolean) :: ws) r_m0) (fun a_ U_ => a_ = #[(.ref x)] ∧ Z.Warmed39 U_.vm ∧ U_.heap = h0) (fun _ _ _ _ _ => True) (fun _ U_ o_ V_ => ∃ v_ L_, o_ = .returned v_ ∧ Qisl0 Z x G1 h0 n0 v_ V_.heap L_ ∧ FrameEnd U_ o_ V_ L_ r_m0.cells r_m0.slots) := by
  refine MetFree.of_bodySF (plainFor_of_name pn_1) hisR ?_
  intro p e s m args below meth c s₁ Bd hml0 hP hK
  obtain ⟨rfl, hZ, hh⟩ := hP
  have hx := Bd.exec
  have hby := Bd.bytes
  have hml : c.maxLocals = 1 := hml0
  have hown : s.vm.findClass "java/lang/String" = some m.cls := findClass_of_methodNamed Bd.named
  have hnm := (name_of_methodNamed Bd.named Bd.method).1
  have X0 : Stand p l e r_m0 s m #[(.ref x)] below meth c s₁ [] 0 0 := Stand.of_body Bd
  have e0 : s₁.heap = h0 := by rw [← hh, Bd.state]; rfl
  have N0 := Fr.nil n0
  have Oo := q2.1
  have zo := q2.2
  have lt808 := own_alt q3.lt
  refine Gl.go (A := s₁.setTop (entryFrame m #[(.ref x)] 1)) (P := fun o_ U_ => ∃ v_ L_, o_ = .returned v_ ∧ Qisl0 Z x G1 h0 n0 v_ U_.heap L_ ∧ FrameEnd s o_ U_ L_ r_m0.cells r_m0.slots) (fun t_ k_ => castTop (ef_isl0 m x) k_) ?_
  show Gl p.tables e below _ (s₁.setTop (mkF m 0 #[sR x] []))
  refine gGetS (host := "") Gl.cl X0 hx hZ hown (Or.inl (tw hw 86 rfl)) Via.refl e0 (q0.ext Oo.2) rfl (hb hby d31_0) ?_
  intro T809 X809 e809
  refine Gl.go (fun _ hr => zXS_ifNo X809.here hx rfl (hb hby d31_3) rfl (XT.i0_eq_f P5) (zXS_aloadN X809.here hx rfl (hb hby d31_6) rfl rfl hr)) ?_
  refine gGetF (host := "") Gl.cl X809 hx hZ hown (Or.inl (tw hw 26 rfl)) Via.refl e809 q3 rfl rfl (hb hby d31_7) ?_
  intro T810 X810 e810
  refine Gl.go (fun _ hr => zXS_ifNo X810.here hx rfl (hb hby d31_10) rfl (XT.i0_ne_f (by decide)) (zXS_iconst X810.here hx rfl (hb hby d31_13) (zXS_goto X810.here hx rfl (pc0 := 14) (pc' := 18) rfl (hb hby d31_14) (by decide) (by decide) hr))) ?_
  obtain ⟨fs, hr, hrun, hended, hW, hsame⟩ := X810.leave (v := some (.int (1 : Int32))) (fun h => by rw [Bd.returns] at h; cases h)
  refine ⟨_, _, retN X810 hx (t := .boolean) Bd.returns (by simp) (hb hby d31_18) hr, hrun, hended, _, _, rfl, ?_, ⟨⟨_, rfl⟩, hW, hsame.mono (by decide) (by decide)⟩⟩
  show Qisl0 Z x G1 h0 n0 _ T810.heap _
  rw [e810]
  exact ⟨rfl, N0, rfl⟩
def Qisl1 (Z : State) (x : Addr) (G1 : Int32) (h0 : Heap) (n0 : Nat) (v : Option Value) (h : Heap) (L : List Loc) : Prop := v = some (.int (0 : Int32)) ∧ Fr n0 L ∧ h = h0
theorem ef_isl1 (m : MethodId) (x0 : Addr) : entryFrame m #[(.ref x0)] 1 = mkF m 0 #[sR x0] [] := by first | (simp [entryFrame, mkF, argsToLocals, Value.category]; done) | rfl
theorem d31_17 : decode jdk_42_method_154_code 17 = .ok (.iconst 0, 1) := by decide +kernel
set_option maxRecDepth 65536 in
set_option maxHeartbeats 40000000 in
theorem isl1 (l : Launch) (Z : State) (a0 : Array Value) (hw : ∀ d ∈ tables_1, d.before a0 Z = true) (ws : List Jvm.Cond) (x : Addr) (G1 : Int32) (h0 : Heap) (n0 : Nat) (Z0 : n0 ≤ h0.size) (q0 : Sta Z Z.heap "java/lang/String" "COMPACT_STRINGS" "Z" (.int G1)) (P5 : ¬ (G1 = (0 : Int32))) (q2 : (Old Z Z.heap.size h0 ∧ @LE.le Nat instLENat Z.heap.size n0)) (q3 : Fld Z h0 x "java/lang/String" "coder" "B" (.int (1 : Int32))) :
    MetFree l y_40 (head1 (Jvm.Cond.code y_40 jdk_42_method_154_code 1 (some .boolean) :: ws) r_m0) (fun a_ U_ => a_ = #[(.ref x)] ∧ Z.Warmed39 U_.vm ∧ U_.heap = h0) (fun _ _ _ _ _ => True) (fun _ U_ o_ V_ => ∃ v_ L_, o_ = .returned v_ ∧ Qisl1 Z x G1 h0 n0 v_ V_.heap L_ ∧ FrameEnd U_ o_ V_ L_ r_m0.cells r_m0.slots) := by
  refine MetFree.of_bodySF (plainFor_of_name pn_1) hisR ?_
  intro p e s m args below meth c s₁ Bd hml0 hP hK
  obtain ⟨rfl, hZ, hh⟩ := hP
  have hx := Bd.exec
  have hby := Bd.bytes
  have hml : c.maxLocals = 1 := hml0
  have hown : s.vm.findClass "java/lang/String" = some m.cls := findClass_of_methodNamed Bd.named
  have hnm := (name_of_methodNamed Bd.named Bd.method).1
  have X0 : Stand p l e r_m0 s m #[(.ref x)] below meth c s₁ [] 0 0 := Stand.of_body Bd
  have e0 : s₁.heap = h0 := by rw [← hh, Bd.state]; rfl
  have N0 := Fr.nil n0
  have Oo := q2.1
  have zo := q2.2
  have lt811 := own_alt q3.lt
  refine Gl.go (A := s₁.setTop (entryFrame m #[(.ref x)] 1)) (P := fun o_ U_ => ∃ v_ L_, o_ = .returned v_ ∧ Qisl1 Z x G1 h0 n0 v_ U_.heap L_ ∧ FrameEnd s o_ U_ L_ r_m0.cells r_m0.slots) (fun t_ k_ => castTop (ef_isl1 m x) k_) ?_
  show Gl p.tables e below _ (s₁.setTop (mkF m 0 #[sR x] []))
  refine gGetS (host := "") Gl.cl X0 hx hZ hown (Or.inl (tw hw 86 rfl)) Via.refl e0 (q0.ext Oo.2) rfl (hb hby d31_0) ?_
  intro T812 X812 e812
  refine Gl.go (fun _ hr => zXS_ifNo X812.here hx rfl (hb hby d31_3) rfl (XT.i0_eq_f P5) (zXS_aloadN X812.here hx rfl (hb hby d31_6) rfl rfl hr)) ?_
  refine gGetF (host := "") Gl.cl X812 hx hZ hown (Or.inl (tw hw 26 rfl)) Via.refl e812 q3 rfl rfl (hb hby d31_7) ?_
  intro T813 X813 e813
  refine Gl.go (fun _ hr => zXS_ifYes X813.here hx rfl (pc0 := 10) (pc' := 17) rfl (hb hby d31_10) rfl (XT.i0_ne_t (by decide)) (by decide) (by decide) (zXS_iconst X813.here hx rfl (hb hby d31_17) hr)) ?_
  obtain ⟨fs, hr, hrun, hended, hW, hsame⟩ := X813.leave (v := some (.int (0 : Int32))) (fun h => by rw [Bd.returns] at h; cases h)
  refine ⟨_, _, retN X813 hx (t := .boolean) Bd.returns (by simp) (hb hby d31_18) hr, hrun, hended, _, _, rfl, ?_, ⟨⟨_, rfl⟩, hW, hsame.mono (by decide) (by decide)⟩⟩
  show Qisl1 Z x G1 h0 n0 _ T813.heap _
  rw [e813]
  exact ⟨rfl, N0, rfl⟩
def Qlch (Z : State) (a : Addr) (ka : ClassId) (cs : List Int32) (i : Nat) (G3 : Value) (h0 : Heap) (n0 : Nat) (v : Option Value) (h : Heap) (L : List Loc) : Prop := v = some (.int (cs.getD i 0)) ∧ Fr n0 L ∧ h = h0
theorem ef_lch (m : MethodId) (x0 : Addr) (x1 : Int32) : entryFrame m #[(.ref x0), (.int x1)] 2 = mkF m 0 #[sR x0, sI x1] [] := by first | (simp [entryFrame, mkF, argsToLocals, Value.category]; done) | rfl
theorem d32_0 : decode jdk_43_method_2_code 0 = .ok (.iload_n 1, 1) := by decide +kernel
theorem d32_1 : decode jdk_43_method_2_code 1 = .ok (.aload_n 0, 1) := by decide +kernel
theorem d32_2 : decode jdk_43_method_2_code 2 = .ok (.arraylength, 1) := by decide +kernel
theorem d32_3 : decode jdk_43_method_2_code 3 = .ok (.invokestatic 9, 3) := by decide +kernel
theorem d32_6 : decode jdk_43_method_2_code 6 = .ok (.aload_n 0, 1) := by decide +kernel
theorem d32_7 : decode jdk_43_method_2_code 7 = .ok (.iload_n 1, 1) := by decide +kernel
theorem d32_8 : decode jdk_43_method_2_code 8 = .ok (.baload, 1) := by decide +kernel
theorem d32_9 : decode jdk_43_method_2_code 9 = .ok (.sipush 255, 3) := by decide +kernel
theorem d32_12 : decode jdk_43_method_2_code 12 = .ok (.iand, 1) := by decide +kernel
theorem d32_13 : decode jdk_43_method_2_code 13 = .ok (.i2c, 1) := by decide +kernel
theorem d32_14 : decode jdk_43_method_2_code 14 = .ok (.ireturn, 1) := by decide +kernel
set_option maxRecDepth 65536 in
set_option maxHeartbeats 40000000 in
theorem lch (l : Launch) (Z : State) (a0 : Array Value) (hw : ∀ d ∈ tables_1, d.before a0 Z = true) (ws : List Jvm.Cond) (a : Addr) (ka : ClassId) (cs : List Int32) (i : Nat) (G3 : Value) (h0 : Heap) (n0 : Nat) (Z0 : n0 ≤ h0.size) (q0 : (Old Z Z.heap.size h0 ∧ @LE.le Nat instLENat Z.heap.size n0)) (q1 : Sta Z Z.heap "jdk/internal/util/Preconditions" "SIOOBE_FORMATTER" "Ljava/util/function/BiFunction;" G3) (rG3 : G3.isRef = true) (q3 : Arv Z h0 a ka .byte (Int32.ofNat cs.length) (lb cs) (.int (0 : Int32))) (hlc : ∀ c ∈ cs, Lat c) (hii : i < cs.length) (hcl : cs.length ≤ 32) :
    MetFree l y_41 (head1 (Jvm.Cond.code y_41 jdk_43_method_2_code 2 (some .char) :: ws) r_m30) (fun a_ U_ => a_ = #[(.ref a), (.int (Int32.ofNat i))] ∧ Z.Warmed39 U_.vm ∧ U_.heap = h0) (fun _ _ _ _ _ => True) (fun _ U_ o_ V_ => ∃ v_ L_, o_ = .returned v_ ∧ Qlch Z a ka cs i G3 h0 n0 v_ V_.heap L_ ∧ FrameEnd U_ o_ V_ L_ r_m30.cells r_m30.slots) := by
  refine MetFree.of_bodySF (plainFor_of_name pn_4) hisR ?_
  intro p e s m args below meth c s₁ Bd hml0 hP hK
  obtain ⟨rfl, hZ, hh⟩ := hP
  have hx := Bd.exec
  have hby := Bd.bytes
  have hml : c.maxLocals = 2 := hml0
  have hown : s.vm.findClass "java/lang/StringLatin1" = some m.cls := findClass_of_methodNamed Bd.named
  have hnm := (name_of_methodNamed Bd.named Bd.method).1
  have X0 : Stand p l e r_m30 s m #[(.ref a), (.int (Int32.ofNat i))] below meth c s₁ [] 0 0 := Stand.of_body Bd
  have e0 : s₁.heap = h0 := by rw [← hh, Bd.state]; rfl
  have N0 := Fr.nil n0
  have Oo := q0.1
  have zo := q0.2
  have lt814 := own_alt q3.lt
  have hq := hlc _ (own_getD_mem hii)
  refine Gl.go (A := s₁.setTop (entryFrame m #[(.ref a), (.int (Int32.ofNat i))] 2)) (P := fun o_ U_ => ∃ v_ L_, o_ = .returned v_ ∧ Qlch Z a ka cs i G3 h0 n0 v_ U_.heap L_ ∧ FrameEnd s o_ U_ L_ r_m30.cells r_m30.slots) (fun t_ k_ => castTop (ef_lch m a (Int32.ofNat i)) k_) ?_
  show Gl p.tables e below _ (s₁.setTop (mkF m 0 #[sR a, sI (Int32.ofNat i)] []))
  refine Gl.go (fun _ hr => zXS_iloadN X0.here hx rfl (hb hby d32_0) rfl (zXS_aloadN X0.here hx rfl (hb hby d32_1) rfl rfl hr)) ?_
  obtain ⟨c815, a815, q815, s815, m815, H815, U815⟩ := id q3
  refine gLen Gl.cl X0 hx hZ e0 a815 s815 m815 rfl rfl (hb hby d32_2) ?_
  have zz816 : n0 ≤ h0.size := by omega
  refine gStaticN Gl.cl (y := y_39) (argsL := [(.int (Int32.ofNat i)), (.int (Int32.ofNat cs.length))]) (rest := []) (mc := 0) (ms := 0) X0 hx hZ hown (mvT hZ (tw hw 178 rfl)) (mvT hZ (tw hw 179 rfl)) (mvT hZ (tw hw 7 rfl)) (mvT hZ (tw hw 180 rfl)) (by decide) (backOf (W := 0) (sci l Z a0 hw [] i cs.length G3 h0 n0 zz816 ⟨Oo, (by omega)⟩ q1 (by assumption) hii (by omega)) hZ (tw hw 180 rfl) (tw hw 7 rfl) (by decide) (by decide)) rfl (by rw [hml]; rfl) (lenOf pd_22 rfl) rfl (by exact Nat.le_of_eq rfl) (hb hby d32_3) rfl e0 (by decide) (by decide) ?_
  intro v816 T816 Lc816 hQ816 X816
  obtain ⟨rfl, Nq816, e816⟩ := hQ816
  have N816 := Fr.app N0 Nq816
  refine Gl.go (fun _ hr => zXS_aloadN X816.here hx rfl (hb hby d32_6) rfl rfl (zXS_iloadN X816.here hx rfl (hb hby d32_7) rfl hr)) ?_
  obtain ⟨c817, a817, q817, s817, m817, H817, U817⟩ := id q3
  have i817 := inb_of s817 (j := (Int32.ofNat i)) ⟨own_nn (by omega), own_lt32 (b := cs.length) (by omega) hii⟩
  refine g_baload Gl.cl X816 hx hZ e816 a817 i817 (v := (.int (StrChars.lo8 (cs.getD i 0)))) (H817.at i817 (by rw [own_nat32 (by omega)]; exact own_lbat _ cs i hii)) rfl rfl (hb hby d32_8) ?_
  refine Gl.go (fun _ hr => zXS_sipush X816.here hx rfl (hb hby d32_9) (zXS_iand X816.here hx rfl (hb hby d32_12) rfl hr)) ?_
  show Gl p.tables e below _ (T816.setTop (mkF m 13 #[sR a, sI (Int32.ofNat i)] [(.int ((StrChars.lo8 (cs.getD i 0)) &&& (255 : Int32)))]))
  rw [(own_chr8 hq)]
  show Gl p.tables e below _ (T816.setTop (mkF m 13 #[sR a, sI (Int32.ofNat i)] [(.int (cs.getD i 0))]))
  refine Gl.go (fun _ hr => zXT_i2c X816.here hx rfl (hb hby d32_13) rfl hr) ?_
  show Gl p.tables e below _ (T816.setTop (mkF m 14 #[sR a, sI (Int32.ofNat i)] [(.int ((cs.getD i 0).toUInt32.toUInt16.toUInt32.toInt32))]))
  rw [(own_i2cW (own_latw hq))]
  show Gl p.tables e below _ (T816.setTop (mkF m 14 #[sR a, sI (Int32.ofNat i)] [(.int (cs.getD i 0))]))
  obtain ⟨fs, hr, hrun, hended, hW, hsame⟩ := X816.leave (v := some (.int (nar .char (cs.getD i 0)))) (fun h => by rw [Bd.returns] at h; cases h)
  refine ⟨_, _, retN X816 hx (t := .char) Bd.returns (by simp) (hb hby d32_14) hr, hrun, hended, _, _, rfl, ?_, ⟨⟨_, rfl⟩, hW, hsame.mono (by decide) (by decide)⟩⟩
  show Qlch Z a ka cs i G3 h0 n0 _ T816.heap _
  rw [e816]
  exact ⟨(own_some (own_nar_wid (own_latw hq))), N816, rfl⟩
def Quci (Z : State) (a : Addr) (ka : ClassId) (cs : List Int32) (i : Nat) (G3 : Value) (h0 : Heap) (n0 : Nat) (v : Option Value) (h : Heap) (L : List Loc) : Prop := v = none ∧ Fr n0 L ∧ h = h0
theorem ef_uci (m : MethodId) (x0 : Int32) (x1 : Addr) : entryFrame m #[(.int x0), (.ref x1)] 2 = mkF m 0 #[sI x0, sR x1] [] := by first | (simp [entryFrame, mkF, argsToLocals, Value.category]; done) | rfl
theorem d53_0 : decode jdk_52_method_91_code 0 = .ok (.iload_n 0, 1) := by decide +kernel
theorem d53_1 : decode jdk_52_method_91_code 1 = .ok (.aload_n 1, 1) := by decide +kernel
theorem d53_2 : decode jdk_52_method_91_code 2 = .ok (.invokestatic 48, 3) := by decide +kernel
theorem d53_5 : decode jdk_52_method_91_code 5 = .ok (.invokestatic 414, 3) := by decide +kernel
theorem d53_8 : decode jdk_52_method_91_code 8 = .ok (.return_, 1) := by decide +kernel
set_option maxRecDepth 65536 in
set_option maxHeartbeats 40000000 in
theorem uci (l : Launch) (Z : State) (a0 : Array Value) (hw : ∀ d ∈ tables_1, d.before a0 Z = true) (ws : List Jvm.Cond) (a : Addr) (ka : ClassId) (cs : List Int32) (i : Nat) (G3 : Value) (h0 : Heap) (n0 : Nat) (Z0 : n0 ≤ h0.size) (q0 : (Old Z Z.heap.size h0 ∧ @LE.le Nat instLENat Z.heap.size n0)) (q1 : Sta Z Z.heap "jdk/internal/util/Preconditions" "SIOOBE_FORMATTER" "Ljava/util/function/BiFunction;" G3) (rG3 : G3.isRef = true) (q3 : Arv Z h0 a ka .byte (Int32.ofNat (2 * cs.length)) (StrChars.Road.wideBytes cs) (.int (0 : Int32))) (hii : i < cs.length) (hcl : cs.length ≤ 32) :
    MetFree l y_42 (head1 (Jvm.Cond.code y_42 jdk_52_method_91_code 2 none :: ws) r_m30) (fun a_ U_ => a_ = #[(.int (Int32.ofNat i)), (.ref a)] ∧ Z.Warmed39 U_.vm ∧ U_.heap = h0) (fun _ _ _ _ _ => True) (fun _ U_ o_ V_ => ∃ v_ L_, o_ = .returned v_ ∧ Quci Z a ka cs i G3 h0 n0 v_ V_.heap L_ ∧ FrameEnd U_ o_ V_ L_ r_m30.cells r_m30.slots) := by
  refine MetFree.of_bodySF (plainFor_of_name pn_0) hisR ?_
  intro p e s m args below meth c s₁ Bd hml0 hP hK
  obtain ⟨rfl, hZ, hh⟩ := hP
  have hx := Bd.exec
  have hby := Bd.bytes
  have hml : c.maxLocals = 2 := hml0
  have hown : s.vm.findClass "java/lang/StringUTF16" = some m.cls := findClass_of_methodNamed Bd.named
  have hnm := (name_of_methodNamed Bd.named Bd.method).1
  have X0 : Stand p l e r_m30 s m #[(.int (Int32.ofNat i)), (.ref a)] below meth c s₁ [] 0 0 := Stand.of_body Bd
  have e0 : s₁.heap = h0 := by rw [← hh, Bd.state]; rfl
  have N0 := Fr.nil n0
  have Oo := q0.1
  have zo := q0.2
  have lt818 := own_alt q3.lt
  refine Gl.go (A := s₁.setTop (entryFrame m #[(.int (Int32.ofNat i)), (.ref a)] 2)) (P := fun o_ U_ => ∃ v_ L_, o_ = .returned v_ ∧ Quci Z a ka cs i G3 h0 n0 v_ U_.heap L_ ∧ FrameEnd s o_ U_ L_ r_m30.cells r_m30.slots) (fun t_ k_ => castTop (ef_uci m (Int32.ofNat i) a) k_) ?_
  show Gl p.tables e below _ (s₁.setTop (mkF m 0 #[sI (Int32.ofNat i), sR a] []))
  refine Gl.go (fun _ hr => zXS_iloadN X0.here hx rfl (hb hby d53_0) rfl (zXS_aloadN X0.here hx rfl (hb hby d53_1) rfl rfl hr)) ?_
  have zz819 : n0 ≤ h0.size := by omega
  refine gStaticN Gl.cl (y := y_14) (argsL := [(.ref a)]) (rest := [(.int (Int32.ofNat i))]) (mc := 0) (ms := 0) X0 hx hZ hown (mvT hZ (tw hw 237 rfl)) (mvT hZ (tw hw 238 rfl)) (mvT hZ (tw hw 188 rfl)) (mvT hZ (tw hw 239 rfl)) (by decide) (backOf (W := 1) (u16l l Z a0 hw [] a ka cs.length (StrChars.Road.wideBytes cs) h0 n0 zz819 q3 (by omega)) hZ (tw hw 239 rfl) (tw hw 188 rfl) (by decide) (by decide)) rfl (by rw [hml]; rfl) (lenOf pd_10 rfl) rfl (by exact Nat.le_of_eq rfl) (hb hby d53_2) rfl e0 (by decide) (by decide) ?_
  intro v819 T819 Lc819 hQ819 X819
  obtain ⟨rfl, Nq819, e819⟩ := hQ819
  have N819 := Fr.app N0 Nq819
  have zz820 : n0 ≤ h0.size := by omega
  refine gStaticN Gl.cl (y := y_39) (argsL := [(.int (Int32.ofNat i)), (.int (Int32.ofNat cs.length))]) (rest := []) (mc := 0) (ms := 0) X819 hx hZ hown (mvT hZ (tw hw 254 rfl)) (mvT hZ (tw hw 179 rfl)) (mvT hZ (tw hw 7 rfl)) (mvT hZ (tw hw 180 rfl)) (by decide) (backOf (W := 0) (sci l Z a0 hw [] i cs.length G3 h0 n0 zz820 ⟨Oo, (by omega)⟩ q1 (by assumption) hii (by omega)) hZ (tw hw 180 rfl) (tw hw 7 rfl) (by decide) (by decide)) rfl (by rw [hml]; rfl) (lenOf pd_22 rfl) rfl (by exact Nat.le_of_eq rfl) (hb hby d53_5) rfl e819 (by decide) (by decide) ?_
  intro v820 T820 Lc820 hQ820 X820
  obtain ⟨rfl, Nq820, e820⟩ := hQ820
  have N820 := Fr.app N819 Nq820
  obtain ⟨fs, hr, hrun, hended, hW, hsame⟩ := X820.leave (v := none) (fun _ => rfl)
  refine ⟨_, _, X820.returnOut hx Bd.returns (hb hby d53_8) hr, hrun, hended, _, _, rfl, ?_, ⟨⟨_, rfl⟩, hW, hsame.mono (by decide) (by decide)⟩⟩
  show Quci Z a ka cs i G3 h0 n0 _ T820.heap _
  rw [e820]
  exact ⟨rfl, N820, rfl⟩
def Quch (Z : State) (a : Addr) (ka : ClassId) (cs : List Int32) (i : Nat) (G3 : Value) (h0 : Heap) (n0 : Nat) (v : Option Value) (h : Heap) (L : List Loc) : Prop := v = some (.int (cs.getD i 0)) ∧ Fr n0 L ∧ h = h0
theorem ef_uch (m : MethodId) (x0 : Addr) (x1 : Int32) : entryFrame m #[(.ref x0), (.int x1)] 2 = mkF m 0 #[sR x0, sI x1] [] := by first | (simp [entryFrame, mkF, argsToLocals, Value.category]; done) | rfl
theorem d52_0 : decode jdk_52_method_83_code 0 = .ok (.iload_n 1, 1) := by decide +kernel
theorem d52_1 : decode jdk_52_method_83_code 1 = .ok (.aload_n 0, 1) := by decide +kernel
theorem d52_2 : decode jdk_52_method_83_code 2 = .ok (.invokestatic 67, 3) := by decide +kernel
theorem pd_29 : parseMethodDescriptor "(I[B)V" = some ⟨[.int, (.array .byte)], none⟩ := by decide +kernel
theorem d52_5 : decode jdk_52_method_83_code 5 = .ok (.aload_n 0, 1) := by decide +kernel
theorem d52_6 : decode jdk_52_method_83_code 6 = .ok (.iload_n 1, 1) := by decide +kernel
theorem d52_7 : decode jdk_52_method_83_code 7 = .ok (.invokestatic 71, 3) := by decide +kernel
theorem d52_10 : decode jdk_52_method_83_code 10 = .ok (.ireturn, 1) := by decide +kernel
set_option maxRecDepth 65536 in
set_option maxHeartbeats 40000000 in
theorem uch (l : Launch) (Z : State) (a0 : Array Value) (hw : ∀ d ∈ tables_1, d.before a0 Z = true) (ws : List Jvm.Cond) (a : Addr) (ka : ClassId) (cs : List Int32) (i : Nat) (G3 : Value) (h0 : Heap) (n0 : Nat) (Z0 : n0 ≤ h0.size) (q0 : (Old Z Z.heap.size h0 ∧ @LE.le Nat instLENat Z.heap.size n0)) (q1 : Sta Z Z.heap "jdk/internal/util/Preconditions" "SIOOBE_FORMATTER" "Ljava/util/function/BiFunction;" G3) (rG3 : G3.isRef = true) (q3 : Sta Z Z.heap "java/lang/StringUTF16" "$assertionsDisabled" "Z" (.int (1 : Int32))) (q4 : Sta Z Z.heap "java/lang/StringUTF16" "HI_BYTE_SHIFT" "I" (.int (0 : Int32))) (q5 : Sta Z Z.heap "java/lang/StringUTF16" "LO_BYTE_SHIFT" "I" (.int (8 : Int32))) (q6 : Arv Z h0 a ka .byte (Int32.ofNat (2 * cs.length)) (StrChars.Road.wideBytes cs) (.int (0 : Int32))) (hbd : ∀ c ∈ cs, Wid c) (hii : i < cs.length) (hcl : cs.length ≤ 32) :
    MetFree l y_43 (head1 (Jvm.Cond.code y_43 jdk_52_method_83_code 2 (some .char) :: ws) r_m31) (fun a_ U_ => a_ = #[(.ref a), (.int (Int32.ofNat i))] ∧ Z.Warmed39 U_.vm ∧ U_.heap = h0) (fun _ _ _ _ _ => True) (fun _ U_ o_ V_ => ∃ v_ L_, o_ = .returned v_ ∧ Quch Z a ka cs i G3 h0 n0 v_ V_.heap L_ ∧ FrameEnd U_ o_ V_ L_ r_m31.cells r_m31.slots) := by
  refine MetFree.of_bodySF (plainFor_of_name pn_0) hisR ?_
  intro p e s m args below meth c s₁ Bd hml0 hP hK
  obtain ⟨rfl, hZ, hh⟩ := hP
  have hx := Bd.exec
  have hby := Bd.bytes
  have hml : c.maxLocals = 2 := hml0
  have hown : s.vm.findClass "java/lang/StringUTF16" = some m.cls := findClass_of_methodNamed Bd.named
  have hnm := (name_of_methodNamed Bd.named Bd.method).1
  have X0 : Stand p l e r_m31 s m #[(.ref a), (.int (Int32.ofNat i))] below meth c s₁ [] 0 0 := Stand.of_body Bd
  have e0 : s₁.heap = h0 := by rw [← hh, Bd.state]; rfl
  have N0 := Fr.nil n0
  have Oo := q0.1
  have zo := q0.2
  have lt821 := own_alt q6.lt
  refine Gl.go (A := s₁.setTop (entryFrame m #[(.ref a), (.int (Int32.ofNat i))] 2)) (P := fun o_ U_ => ∃ v_ L_, o_ = .returned v_ ∧ Quch Z a ka cs i G3 h0 n0 v_ U_.heap L_ ∧ FrameEnd s o_ U_ L_ r_m31.cells r_m31.slots) (fun t_ k_ => castTop (ef_uch m a (Int32.ofNat i)) k_) ?_
  show Gl p.tables e below _ (s₁.setTop (mkF m 0 #[sR a, sI (Int32.ofNat i)] []))
  refine Gl.go (fun _ hr => zXS_iloadN X0.here hx rfl (hb hby d52_0) rfl (zXS_aloadN X0.here hx rfl (hb hby d52_1) rfl rfl hr)) ?_
  have zz822 : n0 ≤ h0.size := by omega
  refine gStaticN Gl.cl (y := y_42) (argsL := [(.int (Int32.ofNat i)), (.ref a)]) (rest := []) (mc := 0) (ms := 0) X0 hx hZ hown (mvT hZ (tw hw 251 rfl)) (mvT hZ (tw hw 252 rfl)) (mvT hZ (tw hw 188 rfl)) (mvT hZ (tw hw 253 rfl)) (by decide) (backOf (W := 0) (uci l Z a0 hw [] a ka cs i G3 h0 n0 zz822 ⟨Oo, (by omega)⟩ q1 (by assumption) q6 (by assumption) (by assumption)) hZ (tw hw 253 rfl) (tw hw 188 rfl) (by decide) (by decide)) rfl (by rw [hml]; rfl) (lenOf pd_29 rfl) rfl (by exact Nat.le_of_eq rfl) (hb hby d52_2) rfl e0 (by decide) (by decide) ?_
  intro v822 T822 Lc822 hQ822 X822
  obtain ⟨rfl, Nq822, e822⟩ := hQ822
  have N822 := Fr.app N0 Nq822
  refine Gl.go (fun _ hr => zXS_aloadN X822.here hx rfl (hb hby d52_5) rfl rfl (zXS_iloadN X822.here hx rfl (hb hby d52_6) rfl hr)) ?_
  have zz823 : n0 ≤ h0.size := by omega
  refine gStaticN Gl.cl (y := y_1) (argsL := [(.ref a), (.int (Int32.ofNat i))]) (rest := []) (mc := 0) (ms := 0) X822 hx hZ hown (mvT hZ (tw hw 255 rfl)) (mvT hZ (tw hw 256 rfl)) (mvT hZ (tw hw 188 rfl)) (mvT hZ (tw hw 257 rfl)) (by decide) (backOf (W := 0) (gtc l Z a0 hw [] a ka cs i h0 n0 zz823 ⟨Oo, (by omega)⟩ q3 q4 q5 q6 (by assumption) (by assumption) (by assumption)) hZ (tw hw 257 rfl) (tw hw 188 rfl) (by decide) (by decide)) rfl (by rw [hml]; rfl) (lenOf pd_5 rfl) rfl (by exact Nat.le_of_eq rfl) (hb hby d52_7) rfl e822 (by decide) (by decide) ?_
  intro v823 T823 Lc823 hQ823 X823
  obtain ⟨rfl, Nq823, e823⟩ := hQ823
  have N823 := Fr.app N822 Nq823
  obtain ⟨fs, hr, hrun, hended, hW, hsame⟩ := X823.leave (v := some (.int (nar .char (cs.getD i 0)))) (fun h => by rw [Bd.returns] at h; cases h)
  refine ⟨_, _, retN X823 hx (t := .char) Bd.returns (by simp) (hb hby d52_10) hr, hrun, hended, _, _, rfl, ?_, ⟨⟨_, rfl⟩, hW, hsame.mono (by decide) (by decide)⟩⟩
  show Quch Z a ka cs i G3 h0 n0 _ T823.heap _
  rw [e823]
  exact ⟨(own_some (own_nar_wid (hbd _ (own_getD_mem hii)))), N823, rfl⟩
def Qcha (Z : State) (x : Addr) (t : Addr) (kb : ClassId) (cd : Int32) (N : Int32) (vs : List Value) (cs : List Int32) (i : Nat) (G1 : Int32) (G3 : Value) (h0 : Heap) (n0 : Nat) (v : Option Value) (h : Heap) (L : List Loc) : Prop := v = some (.int (cs.getD i 0)) ∧ Fr n0 L ∧ h = h0
theorem ef_cha (m : MethodId) (x0 : Addr) (x1 : Int32) : entryFrame m #[(.ref x0), (.int x1)] 2 = mkF m 0 #[sR x0, sI x1] [] := by first | (simp [entryFrame, mkF, argsToLocals, Value.category]; done) | rfl
theorem d30_0 : decode jdk_42_method_56_code 0 = .ok (.aload_n 0, 1) := by decide +kernel
theorem d30_1 : decode jdk_42_method_56_code 1 = .ok (.invokevirtual 492, 3) := by decide +kernel
theorem d30_4 : decode jdk_42_method_56_code 4 = .ok (.ifCond .eq 12, 3) := by decide +kernel
theorem d30_7 : decode jdk_42_method_56_code 7 = .ok (.aload_n 0, 1) := by decide +kernel
theorem d30_8 : decode jdk_42_method_56_code 8 = .ok (.getfield 9, 3) := by decide +kernel
theorem d30_11 : decode jdk_42_method_56_code 11 = .ok (.iload_n 1, 1) := by decide +kernel
theorem d30_12 : decode jdk_42_method_56_code 12 = .ok (.invokestatic 495, 3) := by decide +kernel
theorem d30_15 : decode jdk_42_method_56_code 15 = .ok (.ireturn, 1) := by decide +kernel
theorem d30_16 : decode jdk_42_method_56_code 16 = .ok (.aload_n 0, 1) := by decide +kernel
theorem d30_17 : decode jdk_42_method_56_code 17 = .ok (.getfield 9, 3) := by decide +kernel
theorem d30_20 : decode jdk_42_method_56_code 20 = .ok (.iload_n 1, 1) := by decide +kernel
theorem d30_21 : decode jdk_42_method_56_code 21 = .ok (.invokestatic 498, 3) := by decide +kernel
theorem d30_24 : decode jdk_42_method_56_code 24 = .ok (.ireturn, 1) := by decide +kernel
set_option maxRecDepth 65536 in
set_option maxHeartbeats 40000000 in
theorem cha (l : Launch) (Z : State) (a0 : Array Value) (hw : ∀ d ∈ tables_1, d.before a0 Z = true) (ws : List Jvm.Cond) (x : Addr) (t : Addr) (kb : ClassId) (cd : Int32) (N : Int32) (vs : List Value) (cs : List Int32) (i : Nat) (G1 : Int32) (G3 : Value) (h0 : Heap) (n0 : Nat) (Z0 : n0 ≤ h0.size) (q0 : Sta Z Z.heap "java/lang/String" "COMPACT_STRINGS" "Z" (.int G1)) (P5 : ¬ (G1 = (0 : Int32))) (q2 : (Old Z Z.heap.size h0 ∧ @LE.le Nat instLENat Z.heap.size n0)) (q3 : Sta Z Z.heap "jdk/internal/util/Preconditions" "SIOOBE_FORMATTER" "Ljava/util/function/BiFunction;" G3) (rG3 : G3.isRef = true) (q5 : Sta Z Z.heap "java/lang/StringUTF16" "$assertionsDisabled" "Z" (.int (1 : Int32))) (q6 : Sta Z Z.heap "java/lang/StringUTF16" "HI_BYTE_SHIFT" "I" (.int (0 : Int32))) (q7 : Sta Z Z.heap "java/lang/StringUTF16" "LO_BYTE_SHIFT" "I" (.int (8 : Int32))) (q8 : Exa Z h0 x "java/lang/String") (q9 : Fld Z h0 x "java/lang/String" "value" "[B" (.ref t)) (q10 : Fld Z h0 x "java/lang/String" "coder" "B" (.int cd)) (q11 : Arv Z h0 t kb .byte N vs (.int (0 : Int32))) (cod : StrChars.Road.CodA cs cd N vs) (hbd : ∀ c ∈ cs, Wid c) (hii : i < cs.length) (hcl : cs.length ≤ 32) :
    MetFree l y_44 (head1 (Jvm.Cond.code y_44 jdk_42_method_56_code 2 (some .char) :: ws) r_m32) (fun a_ U_ => a_ = #[(.ref x), (.int (Int32.ofNat i))] ∧ Z.Warmed39 U_.vm ∧ U_.heap = h0) (fun _ _ _ _ _ => True) (fun _ U_ o_ V_ => ∃ v_ L_, o_ = .returned v_ ∧ Qcha Z x t kb cd N vs cs i G1 G3 h0 n0 v_ V_.heap L_ ∧ FrameEnd U_ o_ V_ L_ r_m32.cells r_m32.slots) := by
  refine MetFree.of_bodySF (plainFor_of_name pn_1) hisR ?_
  intro p e s m args below meth c s₁ Bd hml0 hP hK
  obtain ⟨rfl, hZ, hh⟩ := hP
  have hx := Bd.exec
  have hby := Bd.bytes
  have hml : c.maxLocals = 2 := hml0
  have hown : s.vm.findClass "java/lang/String" = some m.cls := findClass_of_methodNamed Bd.named
  have hnm := (name_of_methodNamed Bd.named Bd.method).1
  have X0 : Stand p l e r_m32 s m #[(.ref x), (.int (Int32.ofNat i))] below meth c s₁ [] 0 0 := Stand.of_body Bd
  have e0 : s₁.heap = h0 := by rw [← hh, Bd.state]; rfl
  have N0 := Fr.nil n0
  have Oo := q2.1
  have zo := q2.2
  have lt824 := own_alt q8.lt
  have lt825 := own_alt q9.lt
  have lt826 := own_alt q10.lt
  have lt827 := own_alt q11.lt
  refine Gl.go (A := s₁.setTop (entryFrame m #[(.ref x), (.int (Int32.ofNat i))] 2)) (P := fun o_ U_ => ∃ v_ L_, o_ = .returned v_ ∧ Qcha Z x t kb cd N vs cs i G1 G3 h0 n0 v_ U_.heap L_ ∧ FrameEnd s o_ U_ L_ r_m32.cells r_m32.slots) (fun t_ k_ => castTop (ef_cha m x (Int32.ofNat i)) k_) ?_
  show Gl p.tables e below _ (s₁.setTop (mkF m 0 #[sR x, sI (Int32.ofNat i)] []))
  rcases id cod with ⟨e1, e2, e3, e4⟩ | ⟨e1, e2, e3, e4⟩
  · have Fk := q10
    rw [e1] at Fk
    have Vk := q11
    rw [e2, e3, own_lom] at Vk
    have hlc : ∀ c ∈ cs, Lat c := own_latL hbd e4
    show Gl p.tables e below _ (s₁.setTop (mkF m 0 #[sR x, sI (Int32.ofNat i)] []))
    refine Gl.go (fun _ hr => zXS_aloadN X0.here hx rfl (hb hby d30_0) rfl rfl hr) ?_
    have zz828 : n0 ≤ h0.size := by omega
    refine gVirtualN Gl.cl (y := y_40) (z := y_40) (b := x) (argsL := []) (rest := []) (mc := 0) (ms := 0) X0 hx hZ hown (mvT hZ (tw hw 169 rfl)) (mvT hZ (tw hw 170 rfl)) (notFace_of_selects (args := #[]) (mvT hZ (tw hw 172 rfl))) (mvT hZ (tw hw 172 rfl)) (mvT hZ (tw hw 171 rfl)) (by decide) q8 (backOf (W := 0) (isl0 l Z a0 hw [] x G1 h0 n0 zz828 q0 (by assumption) ⟨Oo, (by omega)⟩ Fk) hZ (tw hw 173 rfl) (tw hw 7 rfl) (by decide) (by decide)) rfl (by rw [hml]; rfl) (lenOf pd_14 rfl) rfl (by exact Nat.le_of_eq rfl) (hb hby d30_1) rfl e0 (by decide) (by decide) ?_
    intro v828 T828 Lc828 hQ828 X828
    obtain ⟨rfl, Nq828, e828⟩ := hQ828
    have N828 := Fr.app N0 Nq828
    refine Gl.go (fun _ hr => zXS_ifNo X828.here hx rfl (hb hby d30_4) rfl (XT.i0_eq_f (by decide)) (zXS_aloadN X828.here hx rfl (hb hby d30_7) rfl rfl hr)) ?_
    refine gGetF (host := "") Gl.cl X828 hx hZ hown (Or.inl (tw hw 25 rfl)) Via.refl e828 q9 rfl rfl (hb hby d30_8) ?_
    intro T829 X829 e829
    refine Gl.go (fun _ hr => zXS_iloadN X829.here hx rfl (hb hby d30_11) rfl hr) ?_
    have zz830 : n0 ≤ h0.size := by omega
    refine gStaticN Gl.cl (y := y_41) (argsL := [(.ref t), (.int (Int32.ofNat i))]) (rest := []) (mc := 0) (ms := 0) X829 hx hZ hown (mvT hZ (tw hw 174 rfl)) (mvT hZ (tw hw 175 rfl)) (mvT hZ (tw hw 176 rfl)) (mvT hZ (tw hw 177 rfl)) (by decide) (backOf (W := 0) (lch l Z a0 hw [] t kb cs i G3 h0 n0 zz830 ⟨Oo, (by omega)⟩ q3 (by assumption) Vk (by assumption) (by assumption) (by assumption)) hZ (tw hw 177 rfl) (tw hw 176 rfl) (by decide) (by decide)) rfl (by rw [hml]; rfl) (lenOf pd_5 rfl) rfl (by exact Nat.le_of_eq rfl) (hb hby d30_12) rfl e829 (by decide) (by decide) ?_
    intro v830 T830 Lc830 hQ830 X830
    obtain ⟨rfl, Nq830, e830⟩ := hQ830
    have N830 := Fr.app N828 Nq830
    obtain ⟨fs, hr, hrun, hended, hW, hsame⟩ := X830.leave (v := some (.int (nar .char (cs.getD i 0)))) (fun h => by rw [Bd.returns] at h; cases h)
    refine ⟨_, _, retN X830 hx (t := .char) Bd.returns (by simp) (hb hby d30_15) hr, hrun, hended, _, _, rfl, ?_, ⟨⟨_, rfl⟩, hW, hsame.mono (by decide) (by decide)⟩⟩
    show Qcha Z x t kb cd N vs cs i G1 G3 h0 n0 _ T830.heap _
    rw [e830]
    exact ⟨(own_some (own_nar_wid (hbd _ (own_getD_mem hii)))), N830, rfl⟩
  · have Fk := q10
    rw [e1] at Fk
    have Vk := q11
    rw [e2, e3] at Vk
    show Gl p.tables e below _ (s₁.setTop (mkF m 0 #[sR x, sI (Int32.ofNat i)] []))
    refine Gl.go (fun _ hr => zXS_aloadN X0.here hx rfl (hb hby d30_0) rfl rfl hr) ?_
    have zz831 : n0 ≤ h0.size := by omega
    refine gVirtualN Gl.cl (y := y_40) (z := y_40) (b := x) (argsL := []) (rest := []) (mc := 0) (ms := 0) X0 hx hZ hown (mvT hZ (tw hw 169 rfl)) (mvT hZ (tw hw 170 rfl)) (notFace_of_selects (args := #[]) (mvT hZ (tw hw 172 rfl))) (mvT hZ (tw hw 172 rfl)) (mvT hZ (tw hw 171 rfl)) (by decide) q8 (backOf (W := 0) (isl1 l Z a0 hw [] x G1 h0 n0 zz831 q0 (by assumption) ⟨Oo, (by omega)⟩ Fk) hZ (tw hw 173 rfl) (tw hw 7 rfl) (by decide) (by decide)) rfl (by rw [hml]; rfl) (lenOf pd_14 rfl) rfl (by exact Nat.le_of_eq rfl) (hb hby d30_1) rfl e0 (by decide) (by decide) ?_
    intro v831 T831 Lc831 hQ831 X831
    obtain ⟨rfl, Nq831, e831⟩ := hQ831
    have N831 := Fr.app N0 Nq831
    refine Gl.go (fun _ hr => zXS_ifYes X831.here hx rfl (pc0 := 4) (pc' := 16) rfl (hb hby d30_4) rfl (XT.i0_eq_t (by decide)) (by decide) (by decide) (zXS_aloadN X831.here hx rfl (hb hby d30_16) rfl rfl hr)) ?_
    refine gGetF (host := "") Gl.cl X831 hx hZ hown (Or.inl (tw hw 25 rfl)) Via.refl e831 q9 rfl rfl (hb hby d30_17) ?_
    intro T832 X832 e832
    refine Gl.go (fun _ hr => zXS_iloadN X832.here hx rfl (hb hby d30_20) rfl hr) ?_
    have zz833 : n0 ≤ h0.size := by omega
    refine gStaticN Gl.cl (y := y_43) (argsL := [(.ref t), (.int (Int32.ofNat i))]) (rest := []) (mc := 0) (ms := 0) X832 hx hZ hown (mvT hZ (tw hw 248 rfl)) (mvT hZ (tw hw 249 rfl)) (mvT hZ (tw hw 188 rfl)) (mvT hZ (tw hw 250 rfl)) (by decide) (backOf (W := 0) (uch l Z a0 hw [] t kb cs i G3 h0 n0 zz833 ⟨Oo, (by omega)⟩ q3 (by assumption) q5 q6 q7 Vk (by assumption) (by assumption) (by assumption)) hZ (tw hw 250 rfl) (tw hw 188 rfl) (by decide) (by decide)) rfl (by rw [hml]; rfl) (lenOf pd_5 rfl) rfl (by exact Nat.le_of_eq rfl) (hb hby d30_21) rfl e832 (by decide) (by decide) ?_
    intro v833 T833 Lc833 hQ833 X833
    obtain ⟨rfl, Nq833, e833⟩ := hQ833
    have N833 := Fr.app N831 Nq833
    obtain ⟨fs, hr, hrun, hended, hW, hsame⟩ := X833.leave (v := some (.int (nar .char (cs.getD i 0)))) (fun h => by rw [Bd.returns] at h; cases h)
    refine ⟨_, _, retN X833 hx (t := .char) Bd.returns (by simp) (hb hby d30_24) hr, hrun, hended, _, _, rfl, ?_, ⟨⟨_, rfl⟩, hW, hsame.mono (by decide) (by decide)⟩⟩
    show Qcha Z x t kb cd N vs cs i G1 G3 h0 n0 _ T833.heap _
    rw [e833]
    exact ⟨(own_some (own_nar_wid (hbd _ (own_getD_mem hii)))), N833, rfl⟩
def Qcen0 (Z : State) (ch : Int32) (h0 : Heap) (n0 : Nat) (v : Option Value) (h : Heap) (L : List Loc) : Prop := v = some (.int (0 : Int32)) ∧ Fr n0 L ∧ h = h0
theorem ef_cen0 (m : MethodId) (x0 : Int32) : entryFrame m #[(.int x0)] 1 = mkF m 0 #[sI x0] [] := by first | (simp [entryFrame, mkF, argsToLocals, Value.category]; done) | rfl
theorem d39_0 : decode jdk_43_method_3_code 0 = .ok (.iload_n 0, 1) := by decide +kernel
theorem d39_1 : decode jdk_43_method_3_code 1 = .ok (.sipush 255, 3) := by decide +kernel
theorem d39_4 : decode jdk_43_method_3_code 4 = .ok (.if_icmp .gt 7, 3) := by decide +kernel
theorem d39_11 : decode jdk_43_method_3_code 11 = .ok (.iconst 0, 1) := by decide +kernel
theorem d39_12 : decode jdk_43_method_3_code 12 = .ok (.ireturn, 1) := by decide +kernel
set_option maxRecDepth 65536 in
set_option maxHeartbeats 40000000 in
theorem cen0 (l : Launch) (Z : State) (a0 : Array Value) (hw : ∀ d ∈ tables_1, d.before a0 Z = true) (ws : List Jvm.Cond) (ch : Int32) (h0 : Heap) (n0 : Nat) (Z0 : n0 ≤ h0.size) (h255 : (255 : Int32) < ch) :
    MetFree l y_45 (head1 (Jvm.Cond.code y_45 jdk_43_method_3_code 1 (some .boolean) :: ws) r_m0) (fun a_ U_ => a_ = #[(.int ch)] ∧ Z.Warmed39 U_.vm ∧ U_.heap = h0) (fun _ _ _ _ _ => True) (fun _ U_ o_ V_ => ∃ v_ L_, o_ = .returned v_ ∧ Qcen0 Z ch h0 n0 v_ V_.heap L_ ∧ FrameEnd U_ o_ V_ L_ r_m0.cells r_m0.slots) := by
  refine MetFree.of_bodySF (plainFor_of_name pn_4) hisR ?_
  intro p e s m args below meth c s₁ Bd hml0 hP hK
  obtain ⟨rfl, hZ, hh⟩ := hP
  have hx := Bd.exec
  have hby := Bd.bytes
  have hml : c.maxLocals = 1 := hml0
  have hown : s.vm.findClass "java/lang/StringLatin1" = some m.cls := findClass_of_methodNamed Bd.named
  have hnm := (name_of_methodNamed Bd.named Bd.method).1
  have X0 : Stand p l e r_m0 s m #[(.int ch)] below meth c s₁ [] 0 0 := Stand.of_body Bd
  have e0 : s₁.heap = h0 := by rw [← hh, Bd.state]; rfl
  have N0 := Fr.nil n0
  refine Gl.go (A := s₁.setTop (entryFrame m #[(.int ch)] 1)) (P := fun o_ U_ => ∃ v_ L_, o_ = .returned v_ ∧ Qcen0 Z ch h0 n0 v_ U_.heap L_ ∧ FrameEnd s o_ U_ L_ r_m0.cells r_m0.slots) (fun t_ k_ => castTop (ef_cen0 m ch) k_) ?_
  show Gl p.tables e below _ (s₁.setTop (mkF m 0 #[sI ch] []))
  refine Gl.go (fun _ hr => zXS_iloadN X0.here hx rfl (hb hby d39_0) rfl (zXS_sipush X0.here hx rfl (hb hby d39_1) hr)) ?_
  refine Gl.go (fun _ hr => zXS_icmpYes X0.here hx rfl (pc0 := 4) (pc' := 11) rfl (hb hby d39_4) rfl (XT.ii_gt_t h255) (by decide) (by decide) (zXS_iconst X0.here hx rfl (hb hby d39_11) hr)) ?_
  obtain ⟨fs, hr, hrun, hended, hW, hsame⟩ := X0.leave (v := some (.int (0 : Int32))) (fun h => by rw [Bd.returns] at h; cases h)
  refine ⟨_, _, retN X0 hx (t := .boolean) Bd.returns (by simp) (hb hby d39_12) hr, hrun, hended, _, _, rfl, ?_, ⟨⟨_, rfl⟩, hW, hsame.mono (by decide) (by decide)⟩⟩
  show Qcen0 Z ch h0 n0 _ s₁.heap _
  rw [e0]
  exact ⟨rfl, N0, rfl⟩
def Qcen1 (Z : State) (ch : Int32) (h0 : Heap) (n0 : Nat) (v : Option Value) (h : Heap) (L : List Loc) : Prop := v = some (.int (1 : Int32)) ∧ Fr n0 L ∧ h = h0
theorem ef_cen1 (m : MethodId) (x0 : Int32) : entryFrame m #[(.int x0)] 1 = mkF m 0 #[sI x0] [] := by first | (simp [entryFrame, mkF, argsToLocals, Value.category]; done) | rfl
theorem d39_7 : decode jdk_43_method_3_code 7 = .ok (.iconst 1, 1) := by decide +kernel
theorem d39_8 : decode jdk_43_method_3_code 8 = .ok (.goto 4, 3) := by decide +kernel
set_option maxRecDepth 65536 in
set_option maxHeartbeats 40000000 in
theorem cen1 (l : Launch) (Z : State) (a0 : Array Value) (hw : ∀ d ∈ tables_1, d.before a0 Z = true) (ws : List Jvm.Cond) (ch : Int32) (h0 : Heap) (n0 : Nat) (Z0 : n0 ≤ h0.size) (h255 : ¬ (255 : Int32) < ch) :
    MetFree l y_45 (head1 (Jvm.Cond.code y_45 jdk_43_method_3_code 1 (some .boolean) :: ws) r_m0) (fun a_ U_ => a_ = #[(.int ch)] ∧ Z.Warmed39 U_.vm ∧ U_.heap = h0) (fun _ _ _ _ _ => True) (fun _ U_ o_ V_ => ∃ v_ L_, o_ = .returned v_ ∧ Qcen1 Z ch h0 n0 v_ V_.heap L_ ∧ FrameEnd U_ o_ V_ L_ r_m0.cells r_m0.slots) := by
  refine MetFree.of_bodySF (plainFor_of_name pn_4) hisR ?_
  intro p e s m args below meth c s₁ Bd hml0 hP hK
  obtain ⟨rfl, hZ, hh⟩ := hP
  have hx := Bd.exec
  have hby := Bd.bytes
  have hml : c.maxLocals = 1 := hml0
  have hown : s.vm.findClass "java/lang/StringLatin1" = some m.cls := findClass_of_methodNamed Bd.named
  have hnm := (name_of_methodNamed Bd.named Bd.method).1
  have X0 : Stand p l e r_m0 s m #[(.int ch)] below meth c s₁ [] 0 0 := Stand.of_body Bd
  have e0 : s₁.heap = h0 := by rw [← hh, Bd.state]; rfl
  have N0 := Fr.nil n0
  refine Gl.go (A := s₁.setTop (entryFrame m #[(.int ch)] 1)) (P := fun o_ U_ => ∃ v_ L_, o_ = .returned v_ ∧ Qcen1 Z ch h0 n0 v_ U_.heap L_ ∧ FrameEnd s o_ U_ L_ r_m0.cells r_m0.slots) (fun t_ k_ => castTop (ef_cen1 m ch) k_) ?_
  show Gl p.tables e below _ (s₁.setTop (mkF m 0 #[sI ch] []))
  refine Gl.go (fun _ hr => zXS_iloadN X0.here hx rfl (hb hby d39_0) rfl (zXS_sipush X0.here hx rfl (hb hby d39_1) hr)) ?_
  refine Gl.go (fun _ hr => zXS_icmpNo X0.here hx rfl (hb hby d39_4) rfl (XT.ii_gt_f h255) (zXS_iconst X0.here hx rfl (hb hby d39_7) (zXS_goto X0.here hx rfl (pc0 := 8) (pc' := 12) rfl (hb hby d39_8) (by decide) (by decide) hr))) ?_
  obtain ⟨fs, hr, hrun, hended, hW, hsame⟩ := X0.leave (v := some (.int (1 : Int32))) (fun h => by rw [Bd.returns] at h; cases h)
  refine ⟨_, _, retN X0 hx (t := .boolean) Bd.returns (by simp) (hb hby d39_12) hr, hrun, hended, _, _, rfl, ?_, ⟨⟨_, rfl⟩, hW, hsame.mono (by decide) (by decide)⟩⟩
  show Qcen1 Z ch h0 n0 _ s₁.heap _
  rw [e0]
  exact ⟨rfl, N0, rfl⟩
def Qltb (Z : State) (ch : Int32) (h0 : Heap) (n0 : Nat) (v : Option Value) (h : Heap) (L : List Loc) : Prop := ∃ (r : Addr), ∃ (kr : ClassId), v = some (.ref r) ∧ Fr n0 L ∧ Keep h0 h [] ∧ (Arv Z h r kr .byte (1 : Int32) ([(.int (StrChars.lo8 ch))]) (.int (0 : Int32))) ∧ (@LE.le Nat instLENat h0.size r)
theorem ef_ltb (m : MethodId) (x0 : Int32) : entryFrame m #[(.int x0)] 1 = mkF m 0 #[sI x0] [] := by first | (simp [entryFrame, mkF, argsToLocals, Value.category]; done) | rfl
theorem d56_0 : decode jdk_43_method_46_code 0 = .ok (.iconst 1, 1) := by decide +kernel
theorem d56_1 : decode jdk_43_method_46_code 1 = .ok (.newarray .byte, 2) := by decide +kernel
theorem d56_3 : decode jdk_43_method_46_code 3 = .ok (.dup, 1) := by decide +kernel
theorem d56_4 : decode jdk_43_method_46_code 4 = .ok (.iconst 0, 1) := by decide +kernel
theorem d56_5 : decode jdk_43_method_46_code 5 = .ok (.iload_n 0, 1) := by decide +kernel
theorem d56_6 : decode jdk_43_method_46_code 6 = .ok (.i2b, 1) := by decide +kernel
theorem d56_7 : decode jdk_43_method_46_code 7 = .ok (.bastore, 1) := by decide +kernel
theorem d56_8 : decode jdk_43_method_46_code 8 = .ok (.areturn, 1) := by decide +kernel
set_option maxRecDepth 65536 in
set_option maxHeartbeats 40000000 in
theorem ltb (l : Launch) (Z : State) (a0 : Array Value) (hw : ∀ d ∈ tables_1, d.before a0 Z = true) (ws : List Jvm.Cond) (ch : Int32) (h0 : Heap) (n0 : Nat) (Z0 : n0 ≤ h0.size) :
    MetFree l y_46 (head1 (Jvm.Cond.code y_46 jdk_43_method_46_code 1 (some (.array .byte)) :: ws) r_m33) (fun a_ U_ => a_ = #[(.int ch)] ∧ Z.Warmed39 U_.vm ∧ U_.heap = h0) (fun _ _ _ _ _ => True) (fun _ U_ o_ V_ => ∃ v_ L_, o_ = .returned v_ ∧ Qltb Z ch h0 n0 v_ V_.heap L_ ∧ FrameEnd U_ o_ V_ L_ r_m33.cells r_m33.slots) := by
  refine MetFree.of_bodySF (plainFor_of_name pn_4) hisR ?_
  intro p e s m args below meth c s₁ Bd hml0 hP hK
  obtain ⟨rfl, hZ, hh⟩ := hP
  have hx := Bd.exec
  have hby := Bd.bytes
  have hml : c.maxLocals = 1 := hml0
  have hown : s.vm.findClass "java/lang/StringLatin1" = some m.cls := findClass_of_methodNamed Bd.named
  have hnm := (name_of_methodNamed Bd.named Bd.method).1
  have X0 : Stand p l e r_m33 s m #[(.int ch)] below meth c s₁ [] 0 0 := Stand.of_body Bd
  have e0 : s₁.heap = h0 := by rw [← hh, Bd.state]; rfl
  have N0 := Fr.nil n0
  refine Gl.go (A := s₁.setTop (entryFrame m #[(.int ch)] 1)) (P := fun o_ U_ => ∃ v_ L_, o_ = .returned v_ ∧ Qltb Z ch h0 n0 v_ U_.heap L_ ∧ FrameEnd s o_ U_ L_ r_m33.cells r_m33.slots) (fun t_ k_ => castTop (ef_ltb m ch) k_) ?_
  show Gl p.tables e below _ (s₁.setTop (mkF m 0 #[sI ch] []))
  refine Gl.go (fun _ hr => zXS_iconst X0.here hx rfl (hb hby d56_0) hr) ?_
  refine gNewP Gl.cl X0 hx hZ (tw hw 20 rfl) e0 rfl (hb hby d56_1) rfl (by decide) (cap := 1) (by decide) (by decide) (by decide) (by decide) ?_
  intro T834 h834 b834 k834 g834 X834 e834 E834 A834
  have z835 : h0.size ≤ h834.size := E834.1
  have lt834 := own_alt A834.lt
  have V834 : Arv Z h834 b834 k834 .byte (1 : Int32) [(.int (0 : Int32))] (.int (0 : Int32)) := (Arv.new A834 (by decide)).pad (pad_rep [] (.int (0 : Int32)) 1)
  refine Gl.go (fun _ hr => zXS_dup X834.here hx rfl (hb hby d56_3) rfl rfl (zXS_iconst X834.here hx rfl (hb hby d56_4) (zXS_iloadN X834.here hx rfl (hb hby d56_5) rfl (zXT_i2b X834.here hx rfl (hb hby d56_6) rfl hr)))) ?_
  show Gl p.tables e below _ (T834.setTop (mkF m 7 #[sI ch] [(.int (ch.toInt8.toInt32)), (.int (0 : Int32)), (.ref b834), (.ref b834)]))
  show Gl p.tables e below _ (T834.setTop (mkF m 7 #[sI ch] [(.int (StrChars.lo8 ch)), (.int (0 : Int32)), (.ref b834), (.ref b834)]))
  obtain ⟨c836, a836, q836, s836, m836, H836, U836⟩ := id V834
  refine gstB Gl.cl X834 hx hZ e834 a836 (j := (0 : Int32)) (inb_of s836 ⟨(by decide), (by decide)⟩) rfl rfl (hb hby d56_7) ?_
  intro T836 h836 X836 e836 W836
  have z837 : h834.size ≤ h836.size := (Keep.of_wr W836).1
  rw [(own_narb _)] at W836
  have V836 : Arv Z h836 b834 k834 .byte (1 : Int32) [(.int (StrChars.lo8 ch))] (.int (0 : Int32)) := Arv.set a836 q836 s836 m836 H836 U836 (own_fitb _) W836 0 rfl (Nat.le_of_ble_eq_true rfl)
  have om838 : @LE.le Nat instLENat n0 b834 := by omega
  have N836 := Fr.snoc X836 N0 (own_ale om838)
  obtain ⟨fs, hr, hrun, hended, hW, hsame⟩ := X836.leave (v := some (.ref b834)) (fun h => by rw [Bd.returns] at h; cases h)
  have om839 : @LE.le Nat instLENat h0.size b834 := by omega
  refine ⟨_, _, retOut X836 hx Bd.returns rfl (Or.inr (Or.inr (Or.inr (Or.inr ⟨rfl, rfl, rfl⟩)))) (hb hby d56_8) hr, hrun, hended, _, _, rfl, ?_, ⟨⟨_, rfl⟩, hW, hsame.mono (by decide) (by decide)⟩⟩
  show Qltb Z ch h0 n0 _ T836.heap _
  rw [e836]
  exact ⟨b834, k834, rfl, N836, (((Keep.refl h0 []).ext E834).wr W836 (Or.inr (own_ale om839))), V836, (by omega)⟩
def Qutb (Z : State) (ch : Int32) (h0 : Heap) (n0 : Nat) (v : Option Value) (h : Heap) (L : List Loc) : Prop := ∃ (r : Addr), ∃ (kr : ClassId), v = some (.ref r) ∧ Fr n0 L ∧ Keep h0 h [] ∧ (Arv Z h r kr .byte (2 : Int32) (StrChars.Road.wideBytes [ch]) (.int (0 : Int32))) ∧ (@LE.le Nat instLENat h0.size r)
theorem ef_utb (m : MethodId) (x0 : Int32) : entryFrame m #[(.int x0)] 2 = mkF m 0 #[sI x0, sU] [] := by first | (simp [entryFrame, mkF, argsToLocals, Value.category]; done) | rfl
theorem d40_0 : decode jdk_52_method_24_code 0 = .ok (.iconst 2, 1) := by decide +kernel
theorem d40_1 : decode jdk_52_method_24_code 1 = .ok (.newarray .byte, 2) := by decide +kernel
theorem d40_3 : decode jdk_52_method_24_code 3 = .ok (.astore_n 1, 1) := by decide +kernel
theorem d40_4 : decode jdk_52_method_24_code 4 = .ok (.aload_n 1, 1) := by decide +kernel
theorem d40_5 : decode jdk_52_method_24_code 5 = .ok (.iconst 0, 1) := by decide +kernel
theorem d40_6 : decode jdk_52_method_24_code 6 = .ok (.iload_n 0, 1) := by decide +kernel
theorem d40_7 : decode jdk_52_method_24_code 7 = .ok (.invokestatic 111, 3) := by decide +kernel
theorem d40_10 : decode jdk_52_method_24_code 10 = .ok (.aload_n 1, 1) := by decide +kernel
theorem d40_11 : decode jdk_52_method_24_code 11 = .ok (.areturn, 1) := by decide +kernel
set_option maxRecDepth 65536 in
set_option maxHeartbeats 40000000 in
theorem utb (l : Launch) (Z : State) (a0 : Array Value) (hw : ∀ d ∈ tables_1, d.before a0 Z = true) (ws : List Jvm.Cond) (ch : Int32) (h0 : Heap) (n0 : Nat) (Z0 : n0 ≤ h0.size) (q0 : (Old Z Z.heap.size h0 ∧ @LE.le Nat instLENat Z.heap.size n0)) (q1 : Sta Z Z.heap "java/lang/StringUTF16" "$assertionsDisabled" "Z" (.int (1 : Int32))) (q2 : Sta Z Z.heap "java/lang/StringUTF16" "HI_BYTE_SHIFT" "I" (.int (0 : Int32))) (q3 : Sta Z Z.heap "java/lang/StringUTF16" "LO_BYTE_SHIFT" "I" (.int (8 : Int32))) :
    MetFree l y_47 (head1 (Jvm.Cond.code y_47 jdk_52_method_24_code 2 (some (.array .byte)) :: ws) r_m34) (fun a_ U_ => a_ = #[(.int ch)] ∧ Z.Warmed39 U_.vm ∧ U_.heap = h0) (fun _ _ _ _ _ => True) (fun _ U_ o_ V_ => ∃ v_ L_, o_ = .returned v_ ∧ Qutb Z ch h0 n0 v_ V_.heap L_ ∧ FrameEnd U_ o_ V_ L_ r_m34.cells r_m34.slots) := by
  refine MetFree.of_bodySF (plainFor_of_name pn_0) hisR ?_
  intro p e s m args below meth c s₁ Bd hml0 hP hK
  obtain ⟨rfl, hZ, hh⟩ := hP
  have hx := Bd.exec
  have hby := Bd.bytes
  have hml : c.maxLocals = 2 := hml0
  have hown : s.vm.findClass "java/lang/StringUTF16" = some m.cls := findClass_of_methodNamed Bd.named
  have hnm := (name_of_methodNamed Bd.named Bd.method).1
  have X0 : Stand p l e r_m34 s m #[(.int ch)] below meth c s₁ [] 0 0 := Stand.of_body Bd
  have e0 : s₁.heap = h0 := by rw [← hh, Bd.state]; rfl
  have N0 := Fr.nil n0
  have Oo := q0.1
  have zo := q0.2
  refine Gl.go (A := s₁.setTop (entryFrame m #[(.int ch)] 2)) (P := fun o_ U_ => ∃ v_ L_, o_ = .returned v_ ∧ Qutb Z ch h0 n0 v_ U_.heap L_ ∧ FrameEnd s o_ U_ L_ r_m34.cells r_m34.slots) (fun t_ k_ => castTop (ef_utb m ch) k_) ?_
  show Gl p.tables e below _ (s₁.setTop (mkF m 0 #[sI ch, sU] []))
  refine Gl.go (fun _ hr => zXS_iconst X0.here hx rfl (hb hby d40_0) hr) ?_
  refine gNewP Gl.cl X0 hx hZ (tw hw 20 rfl) e0 rfl (hb hby d40_1) rfl (by decide) (cap := 2) (by decide) (by decide) (by decide) (by decide) ?_
  intro T840 h840 b840 k840 g840 X840 e840 E840 A840
  have z841 : h0.size ≤ h840.size := E840.1
  have lt840 := own_alt A840.lt
  have V840 : Arv Z h840 b840 k840 .byte (2 : Int32) [(.int (0 : Int32)), (.int (0 : Int32))] (.int (0 : Int32)) := (Arv.new A840 (by decide)).pad (pad_rep [] (.int (0 : Int32)) 2)
  refine Gl.go (fun _ hr => zXS_astoreN X840.here hx rfl (hb hby d40_3) rfl rfl (l' := #[sI ch, sR b840]) rfl (zXS_aloadN X840.here hx rfl (hb hby d40_4) rfl rfl (zXS_iconst X840.here hx rfl (hb hby d40_5) (zXS_iloadN X840.here hx rfl (hb hby d40_6) rfl hr)))) ?_
  have Oc843 := (Oo.ext E840)
  have zz842 : n0 ≤ h840.size := by omega
  refine gStaticN Gl.cl (y := y_0) (argsL := [(.ref b840), (.int (0 : Int32)), (.int ch)]) (rest := []) (mc := 0) (ms := 0) X840 hx hZ hown (mvT hZ (tw hw 206 rfl)) (mvT hZ (tw hw 207 rfl)) (mvT hZ (tw hw 188 rfl)) (mvT hZ (tw hw 208 rfl)) (by decide) (backOf (W := 0) (pch l Z a0 hw [] b840 k840 2 ([(.int (0 : Int32)), (.int (0 : Int32))]) 0 ch h840 n0 zz842 ⟨Oc843, (by omega)⟩ q1 q2 q3 V840 (by omega) (by decide) (by decide) (Nat.le_of_ble_eq_true rfl)) hZ (tw hw 208 rfl) (tw hw 188 rfl) (by decide) (by decide)) rfl (by rw [hml]; rfl) (lenOf pd_2 rfl) rfl (by exact Nat.le_of_eq rfl) (hb hby d40_7) rfl e840 (by decide) (by decide) ?_
  intro v842 T842 Lc842 hQ842 X842
  obtain ⟨rfl, Nq842, K842, f842_0⟩ := hQ842
  have z844 : h840.size ≤ T842.heap.size := K842.1
  have N842 := Fr.app N0 Nq842
  have lt845 := own_alt f842_0.lt
  refine Gl.go (fun _ hr => zXS_aloadN X842.here hx rfl (hb hby d40_10) rfl rfl hr) ?_
  obtain ⟨fs, hr, hrun, hended, hW, hsame⟩ := X842.leave (v := some (.ref b840)) (fun h => by rw [Bd.returns] at h; cases h)
  have om846 : @LE.le Nat instLENat h0.size b840 := by omega
  refine ⟨_, _, retOut X842 hx Bd.returns rfl (Or.inr (Or.inr (Or.inr (Or.inr ⟨rfl, rfl, rfl⟩)))) (hb hby d40_11) hr, hrun, hended, _, _, rfl, ?_, ⟨⟨_, rfl⟩, hW, hsame.mono (by decide) (by decide)⟩⟩
  show Qutb Z ch h0 n0 _ T842.heap _
  exact ⟨b840, k840, rfl, N842, (((Keep.refl h0 []).ext E840).trans K842 (allS (P := fun x_ => x_ ∈ ([] : List Addr) ∨ h0.size ≤ x_) (Or.inr (own_ale om846)) all0)), f842_0, (by omega)⟩
def Qsbb0 (Z : State) (x : Addr) (t : Addr) (h0 : Heap) (n0 : Nat) (v : Option Value) (h : Heap) (L : List Loc) : Prop := v = none ∧ Fr n0 L ∧ Keep h0 h [x] ∧ (Exa Z h x "java/lang/String") ∧ (Fld Z h x "java/lang/String" "value" "[B" (.ref t)) ∧ (Fld Z h x "java/lang/String" "coder" "B" (.int (0 : Int32)))
theorem ef_sbb0 (m : MethodId) (x0 : Addr) (x1 : Addr) (x2 : Int32) : entryFrame m #[(.ref x0), (.ref x1), (.int x2)] 3 = mkF m 0 #[sR x0, sR x1, sI x2] [] := by first | (simp [entryFrame, mkF, argsToLocals, Value.category]; done) | rfl
theorem d42_0 : decode jdk_42_method_151_code 0 = .ok (.aload_n 0, 1) := by decide +kernel
theorem d42_1 : decode jdk_42_method_151_code 1 = .ok (.invokespecial 1, 3) := by decide +kernel
theorem d42_4 : decode jdk_42_method_151_code 4 = .ok (.aload_n 0, 1) := by decide +kernel
theorem d42_5 : decode jdk_42_method_151_code 5 = .ok (.aload_n 1, 1) := by decide +kernel
theorem d42_6 : decode jdk_42_method_151_code 6 = .ok (.putfield 9, 3) := by decide +kernel
theorem d42_9 : decode jdk_42_method_151_code 9 = .ok (.aload_n 0, 1) := by decide +kernel
theorem d42_10 : decode jdk_42_method_151_code 10 = .ok (.iload_n 2, 1) := by decide +kernel
theorem d42_11 : decode jdk_42_method_151_code 11 = .ok (.putfield 15, 3) := by decide +kernel
theorem d42_14 : decode jdk_42_method_151_code 14 = .ok (.return_, 1) := by decide +kernel
set_option maxRecDepth 65536 in
set_option maxHeartbeats 40000000 in
theorem sbb0 (l : Launch) (Z : State) (a0 : Array Value) (hw : ∀ d ∈ tables_1, d.before a0 Z = true) (ws : List Jvm.Cond) (x : Addr) (t : Addr) (h0 : Heap) (n0 : Nat) (Z0 : n0 ≤ h0.size) (q0 : @LE.le Nat instLENat n0 x) (q1 : Exa Z h0 x "java/lang/String") (q2 : Fld Z h0 x "java/lang/String" "value" "[B" .null) (q3 : Fld Z h0 x "java/lang/String" "coder" "B" (.int (0 : Int32))) :
    MetFree l y_48 (head1 (Jvm.Cond.code y_48 jdk_42_method_151_code 3 none :: ws) r_m35) (fun a_ U_ => a_ = #[(.ref x), (.ref t), (.int (0 : Int32))] ∧ Z.Warmed39 U_.vm ∧ U_.heap = h0) (fun _ _ _ _ _ => True) (fun _ U_ o_ V_ => ∃ v_ L_, o_ = .returned v_ ∧ Qsbb0 Z x t h0 n0 v_ V_.heap L_ ∧ FrameEnd U_ o_ V_ L_ r_m35.cells r_m35.slots) := by
  refine MetFree.of_bodySF (plainFor_of_name pn_1) hisR ?_
  intro p e s m args below meth c s₁ Bd hml0 hP hK
  obtain ⟨rfl, hZ, hh⟩ := hP
  have hx := Bd.exec
  have hby := Bd.bytes
  have hml : c.maxLocals = 3 := hml0
  have hown : s.vm.findClass "java/lang/String" = some m.cls := findClass_of_methodNamed Bd.named
  have hnm := (name_of_methodNamed Bd.named Bd.method).1
  have X0 : Stand p l e r_m35 s m #[(.ref x), (.ref t), (.int (0 : Int32))] below meth c s₁ [] 0 0 := Stand.of_body Bd
  have e0 : s₁.heap = h0 := by rw [← hh, Bd.state]; rfl
  have N0 := Fr.nil n0
  have lt847 := own_alt q1.lt
  have lt848 := own_alt q2.lt
  have lt849 := own_alt q3.lt
  refine Gl.go (A := s₁.setTop (entryFrame m #[(.ref x), (.ref t), (.int (0 : Int32))] 3)) (P := fun o_ U_ => ∃ v_ L_, o_ = .returned v_ ∧ Qsbb0 Z x t h0 n0 v_ U_.heap L_ ∧ FrameEnd s o_ U_ L_ r_m35.cells r_m35.slots) (fun t_ k_ => castTop (ef_sbb0 m x t (0 : Int32)) k_) ?_
  show Gl p.tables e below _ (s₁.setTop (mkF m 0 #[sR x, sR t, sI 0] []))
  refine Gl.go (fun _ hr => zXS_aloadN X0.here hx rfl (hb hby d42_0) rfl rfl hr) ?_
  refine gInit Gl.cl (W := 0) X0 hx hZ hown (tw hw 16 rfl) (tw hw 17 rfl) (tw hw 18 rfl) e0 rfl (by rw [hml]; rfl) rfl (hb hby d42_1) (by decide) (by exact Nat.le_of_eq rfl) (by decide) ?_
  intro T850 X850 e850
  refine Gl.go (fun _ hr => zXS_aloadN X850.here hx rfl (hb hby d42_4) rfl rfl (zXS_aloadN X850.here hx rfl (hb hby d42_5) rfl rfl hr)) ?_
  refine gPutF (host := "") Gl.cl X850 hx hZ hown (Or.inl (tw hw 25 rfl)) Via.refl e850 q2 q1 (Or.inr ⟨(tw hw 21 rfl), rfl, hnm⟩) (tw hw 6 rfl) (ty := (.array .byte)) (by decide) rfl rfl rfl rfl (hb hby d42_6) ?_
  intro T851 h851 X851 e851 W851
  have z852 : h0.size ≤ h851.size := (Keep.of_wr W851).1
  have Fw851 := q2.same W851
  have om853 : @LE.le Nat instLENat n0 x := by omega
  have N851 := Fr.snoc X851 N0 (own_ale om853)
  refine Gl.go (fun _ hr => zXS_aloadN X851.here hx rfl (hb hby d42_9) rfl rfl (zXS_iloadN X851.here hx rfl (hb hby d42_10) rfl hr)) ?_
  have Fc854 := (q3.other W851 (Or.inr (slot_ne (Or.inr (tw hw 22 rfl)) (Or.inr (tw hw 21 rfl)) (by decide) (t := .byte) (t' := (.array .byte)) (by decide) (by decide))))
  have Ec855 := (q1.wr W851)
  refine gPutF (host := "") Gl.cl X851 hx hZ hown (Or.inl (tw hw 26 rfl)) Via.refl e851 Fc854 Ec855 (Or.inr ⟨(tw hw 22 rfl), rfl, hnm⟩) (tw hw 6 rfl) (ty := .byte) (by decide) rfl rfl rfl rfl (hb hby d42_11) ?_
  intro T856 h856 X856 e856 W856
  have z857 : h851.size ≤ h856.size := (Keep.of_wr W856).1
  have Fw856 := Fc854.same W856
  have N856 := Fr.snoc X856 N851 (own_ale om853)
  have Ec858 := (Ec855.wr W856)
  have Fc859 := (Fw851.other W856 (Or.inr (slot_ne (Or.inr (tw hw 21 rfl)) (Or.inr (tw hw 22 rfl)) (by decide) (t := (.array .byte)) (t' := .byte) (by decide) (by decide))))
  obtain ⟨fs, hr, hrun, hended, hW, hsame⟩ := X856.leave (v := none) (fun _ => rfl)
  refine ⟨_, _, X856.returnOut hx Bd.returns (hb hby d42_14) hr, hrun, hended, _, _, rfl, ?_, ⟨⟨_, rfl⟩, hW, hsame.mono (by decide) (by decide)⟩⟩
  show Qsbb0 Z x t h0 n0 _ T856.heap _
  rw [e856]
  exact ⟨rfl, N856, (((Keep.refl h0 [x]).wr W851 (Or.inl (by simp))).wr W856 (Or.inl (by simp))), Ec858, Fc859, Fw856⟩
def Qsbb1 (Z : State) (x : Addr) (t : Addr) (h0 : Heap) (n0 : Nat) (v : Option Value) (h : Heap) (L : List Loc) : Prop := v = none ∧ Fr n0 L ∧ Keep h0 h [x] ∧ (Exa Z h x "java/lang/String") ∧ (Fld Z h x "java/lang/String" "value" "[B" (.ref t)) ∧ (Fld Z h x "java/lang/String" "coder" "B" (.int (1 : Int32)))
theorem ef_sbb1 (m : MethodId) (x0 : Addr) (x1 : Addr) (x2 : Int32) : entryFrame m #[(.ref x0), (.ref x1), (.int x2)] 3 = mkF m 0 #[sR x0, sR x1, sI x2] [] := by first | (simp [entryFrame, mkF, argsToLocals, Value.category]; done) | rfl
set_option maxRecDepth 65536 in
set_option maxHeartbeats 40000000 in
theorem sbb1 (l : Launch) (Z : State) (a0 : Array Value) (hw : ∀ d ∈ tables_1, d.before a0 Z = true) (ws : List Jvm.Cond) (x : Addr) (t : Addr) (h0 : Heap) (n0 : Nat) (Z0 : n0 ≤ h0.size) (q0 : @LE.le Nat instLENat n0 x) (q1 : Exa Z h0 x "java/lang/String") (q2 : Fld Z h0 x "java/lang/String" "value" "[B" .null) (q3 : Fld Z h0 x "java/lang/String" "coder" "B" (.int (0 : Int32))) :
    MetFree l y_48 (head1 (Jvm.Cond.code y_48 jdk_42_method_151_code 3 none :: ws) r_m35) (fun a_ U_ => a_ = #[(.ref x), (.ref t), (.int (1 : Int32))] ∧ Z.Warmed39 U_.vm ∧ U_.heap = h0) (fun _ _ _ _ _ => True) (fun _ U_ o_ V_ => ∃ v_ L_, o_ = .returned v_ ∧ Qsbb1 Z x t h0 n0 v_ V_.heap L_ ∧ FrameEnd U_ o_ V_ L_ r_m35.cells r_m35.slots) := by
  refine MetFree.of_bodySF (plainFor_of_name pn_1) hisR ?_
  intro p e s m args below meth c s₁ Bd hml0 hP hK
  obtain ⟨rfl, hZ, hh⟩ := hP
  have hx := Bd.exec
  have hby := Bd.bytes
  have hml : c.maxLocals = 3 := hml0
  have hown : s.vm.findClass "java/lang/String" = some m.cls := findClass_of_methodNamed Bd.named
  have hnm := (name_of_methodNamed Bd.named Bd.method).1
  have X0 : Stand p l e r_m35 s m #[(.ref x), (.ref t), (.int (1 : Int32))] below meth c s₁ [] 0 0 := Stand.of_body Bd
  have e0 : s₁.heap = h0 := by rw [← hh, Bd.state]; rfl
  have N0 := Fr.nil n0
  have lt860 := own_alt q1.lt
  have lt861 := own_alt q2.lt
  have lt862 := own_alt q3.lt
  refine Gl.go (A := s₁.setTop (entryFrame m #[(.ref x), (.ref t), (.int (1 : Int32))] 3)) (P := fun o_ U_ => ∃ v_ L_, o_ = .returned v_ ∧ Qsbb1 Z x t h0 n0 v_ U_.heap L_ ∧ FrameEnd s o_ U_ L_ r_m35.cells r_m35.slots) (fun t_ k_ => castTop (ef_sbb1 m x t (1 : Int32)) k_) ?_
  show Gl p.tables e below _ (s₁.setTop (mkF m 0 #[sR x, sR t, sI 1] []))
  refine Gl.go (fun _ hr => zXS_aloadN X0.here hx rfl (hb hby d42_0) rfl rfl hr) ?_
  refine gInit Gl.cl (W := 0) X0 hx hZ hown (tw hw 16 rfl) (tw hw 17 rfl) (tw hw 18 rfl) e0 rfl (by rw [hml]; rfl) rfl (hb hby d42_1) (by decide) (by exact Nat.le_of_eq rfl) (by decide) ?_
  intro T863 X863 e863
  refine Gl.go (fun _ hr => zXS_aloadN X863.here hx rfl (hb hby d42_4) rfl rfl (zXS_aloadN X863.here hx rfl (hb hby d42_5) rfl rfl hr)) ?_
  refine gPutF (host := "") Gl.cl X863 hx hZ hown (Or.inl (tw hw 25 rfl)) Via.refl e863 q2 q1 (Or.inr ⟨(tw hw 21 rfl), rfl, hnm⟩) (tw hw 6 rfl) (ty := (.array .byte)) (by decide) rfl rfl rfl rfl (hb hby d42_6) ?_
  intro T864 h864 X864 e864 W864
  have z865 : h0.size ≤ h864.size := (Keep.of_wr W864).1
  have Fw864 := q2.same W864
  have om866 : @LE.le Nat instLENat n0 x := by omega
  have N864 := Fr.snoc X864 N0 (own_ale om866)
  refine Gl.go (fun _ hr => zXS_aloadN X864.here hx rfl (hb hby d42_9) rfl rfl (zXS_iloadN X864.here hx rfl (hb hby d42_10) rfl hr)) ?_
  have Fc867 := (q3.other W864 (Or.inr (slot_ne (Or.inr (tw hw 22 rfl)) (Or.inr (tw hw 21 rfl)) (by decide) (t := .byte) (t' := (.array .byte)) (by decide) (by decide))))
  have Ec868 := (q1.wr W864)
  refine gPutF (host := "") Gl.cl X864 hx hZ hown (Or.inl (tw hw 26 rfl)) Via.refl e864 Fc867 Ec868 (Or.inr ⟨(tw hw 22 rfl), rfl, hnm⟩) (tw hw 6 rfl) (ty := .byte) (by decide) rfl rfl rfl rfl (hb hby d42_11) ?_
  intro T869 h869 X869 e869 W869
  have z870 : h864.size ≤ h869.size := (Keep.of_wr W869).1
  have Fw869 := Fc867.same W869
  have N869 := Fr.snoc X869 N864 (own_ale om866)
  have Ec871 := (Ec868.wr W869)
  have Fc872 := (Fw864.other W869 (Or.inr (slot_ne (Or.inr (tw hw 21 rfl)) (Or.inr (tw hw 22 rfl)) (by decide) (t := (.array .byte)) (t' := .byte) (by decide) (by decide))))
  obtain ⟨fs, hr, hrun, hended, hW, hsame⟩ := X869.leave (v := none) (fun _ => rfl)
  refine ⟨_, _, X869.returnOut hx Bd.returns (hb hby d42_14) hr, hrun, hended, _, _, rfl, ?_, ⟨⟨_, rfl⟩, hW, hsame.mono (by decide) (by decide)⟩⟩
  show Qsbb1 Z x t h0 n0 _ T869.heap _
  rw [e869]
  exact ⟨rfl, N869, (((Keep.refl h0 [x]).wr W864 (Or.inl (by simp))).wr W869 (Or.inl (by simp))), Ec871, Fc872, Fw869⟩
def Qvof (Z : State) (ch : Int32) (G1 : Int32) (h0 : Heap) (n0 : Nat) (v : Option Value) (h : Heap) (L : List Loc) : Prop := ∃ (r : Addr), ∃ (t : Addr), ∃ (kb : ClassId), ∃ (cd : Int32), ∃ (N2 : Int32), ∃ (vs : List Value), v = some (.ref r) ∧ Fr n0 L ∧ Keep h0 h [] ∧ (Exa Z h r "java/lang/String") ∧ (Fld Z h r "java/lang/String" "value" "[B" (.ref t)) ∧ (Fld Z h r "java/lang/String" "coder" "B" (.int cd)) ∧ (Arv Z h t kb .byte N2 vs (.int (0 : Int32))) ∧ (@LE.le Nat instLENat h0.size r) ∧ (StrChars.Road.CodA [ch] cd N2 vs)
theorem ef_vof (m : MethodId) (x0 : Int32) : entryFrame m #[(.int x0)] 1 = mkF m 0 #[sI x0] [] := by first | (simp [entryFrame, mkF, argsToLocals, Value.category]; done) | rfl
theorem d38_0 : decode jdk_42_method_139_code 0 = .ok (.getstatic 38, 3) := by decide +kernel
theorem d38_3 : decode jdk_42_method_139_code 3 = .ok (.ifCond .eq 23, 3) := by decide +kernel
theorem d38_6 : decode jdk_42_method_139_code 6 = .ok (.iload_n 0, 1) := by decide +kernel
theorem d38_7 : decode jdk_42_method_139_code 7 = .ok (.invokestatic 1015, 3) := by decide +kernel
theorem pd_30 : parseMethodDescriptor "(C)Z" = some ⟨[.char], some .boolean⟩ := by decide +kernel
theorem d38_10 : decode jdk_42_method_139_code 10 = .ok (.ifCond .eq 16, 3) := by decide +kernel
theorem d38_26 : decode jdk_42_method_139_code 26 = .ok (.new 10, 3) := by decide +kernel
theorem d38_29 : decode jdk_42_method_139_code 29 = .ok (.dup, 1) := by decide +kernel
theorem d38_30 : decode jdk_42_method_139_code 30 = .ok (.iload_n 0, 1) := by decide +kernel
theorem d38_31 : decode jdk_42_method_139_code 31 = .ok (.invokestatic 1021, 3) := by decide +kernel
theorem pd_31 : parseMethodDescriptor "(C)[B" = some ⟨[.char], some (.array .byte)⟩ := by decide +kernel
theorem d38_34 : decode jdk_42_method_139_code 34 = .ok (.iconst 1, 1) := by decide +kernel
theorem d38_35 : decode jdk_42_method_139_code 35 = .ok (.invokespecial 209, 3) := by decide +kernel
theorem pd_32 : parseMethodDescriptor "([BB)V" = some ⟨[(.array .byte), .byte], none⟩ := by decide +kernel
theorem d38_38 : decode jdk_42_method_139_code 38 = .ok (.areturn, 1) := by decide +kernel
theorem d38_13 : decode jdk_42_method_139_code 13 = .ok (.new 10, 3) := by decide +kernel
theorem d38_16 : decode jdk_42_method_139_code 16 = .ok (.dup, 1) := by decide +kernel
theorem d38_17 : decode jdk_42_method_139_code 17 = .ok (.iload_n 0, 1) := by decide +kernel
theorem d38_18 : decode jdk_42_method_139_code 18 = .ok (.invokestatic 1018, 3) := by decide +kernel
theorem d38_21 : decode jdk_42_method_139_code 21 = .ok (.iconst 0, 1) := by decide +kernel
theorem d38_22 : decode jdk_42_method_139_code 22 = .ok (.invokespecial 209, 3) := by decide +kernel
theorem d38_25 : decode jdk_42_method_139_code 25 = .ok (.areturn, 1) := by decide +kernel
set_option maxRecDepth 65536 in
set_option maxHeartbeats 40000000 in
theorem vof (l : Launch) (Z : State) (a0 : Array Value) (hw : ∀ d ∈ tables_1, d.before a0 Z = true) (ws : List Jvm.Cond) (ch : Int32) (G1 : Int32) (h0 : Heap) (n0 : Nat) (Z0 : n0 ≤ h0.size) (q0 : Sta Z Z.heap "java/lang/String" "COMPACT_STRINGS" "Z" (.int G1)) (P5 : ¬ (G1 = (0 : Int32))) (q2 : (Old Z Z.heap.size h0 ∧ @LE.le Nat instLENat Z.heap.size n0)) (q3 : Sta Z Z.heap "java/lang/StringUTF16" "$assertionsDisabled" "Z" (.int (1 : Int32))) (q4 : Sta Z Z.heap "java/lang/StringUTF16" "HI_BYTE_SHIFT" "I" (.int (0 : Int32))) (q5 : Sta Z Z.heap "java/lang/StringUTF16" "LO_BYTE_SHIFT" "I" (.int (8 : Int32))) :
    MetFree l y_49 (head1 (Jvm.Cond.code y_49 jdk_42_method_139_code 1 (some (.object "java/lang/String")) :: ws) r_m36) (fun a_ U_ => a_ = #[(.int ch)] ∧ Z.Warmed39 U_.vm ∧ U_.heap = h0) (fun _ _ _ _ _ => True) (fun _ U_ o_ V_ => ∃ v_ L_, o_ = .returned v_ ∧ Qvof Z ch G1 h0 n0 v_ V_.heap L_ ∧ FrameEnd U_ o_ V_ L_ r_m36.cells r_m36.slots) := by
  refine MetFree.of_bodySF (plainFor_of_name pn_1) hisR ?_
  intro p e s m args below meth c s₁ Bd hml0 hP hK
  obtain ⟨rfl, hZ, hh⟩ := hP
  have hx := Bd.exec
  have hby := Bd.bytes
  have hml : c.maxLocals = 1 := hml0
  have hown : s.vm.findClass "java/lang/String" = some m.cls := findClass_of_methodNamed Bd.named
  have hnm := (name_of_methodNamed Bd.named Bd.method).1
  have X0 : Stand p l e r_m36 s m #[(.int ch)] below meth c s₁ [] 0 0 := Stand.of_body Bd
  have e0 : s₁.heap = h0 := by rw [← hh, Bd.state]; rfl
  have N0 := Fr.nil n0
  have Oo := q2.1
  have zo := q2.2
  refine Gl.go (A := s₁.setTop (entryFrame m #[(.int ch)] 1)) (P := fun o_ U_ => ∃ v_ L_, o_ = .returned v_ ∧ Qvof Z ch G1 h0 n0 v_ U_.heap L_ ∧ FrameEnd s o_ U_ L_ r_m36.cells r_m36.slots) (fun t_ k_ => castTop (ef_vof m ch) k_) ?_
  show Gl p.tables e below _ (s₁.setTop (mkF m 0 #[sI ch] []))
  refine gGetS (host := "") Gl.cl X0 hx hZ hown (Or.inl (tw hw 86 rfl)) Via.refl e0 (q0.ext Oo.2) rfl (hb hby d38_0) ?_
  intro T873 X873 e873
  refine Gl.go (fun _ hr => zXS_ifNo X873.here hx rfl (hb hby d38_3) rfl (XT.i0_eq_f P5) hr) ?_
  show Gl p.tables e below _ (T873.setTop (mkF m 6 #[sI ch] []))
  by_cases h255 : (255 : Int32) < ch
  · show Gl p.tables e below _ (T873.setTop (mkF m 6 #[sI ch] []))
    refine Gl.go (fun _ hr => zXS_iloadN X873.here hx rfl (hb hby d38_6) rfl hr) ?_
    have zz874 : n0 ≤ h0.size := by omega
    refine gStaticN Gl.cl (y := y_45) (argsL := [(.int ch)]) (rest := []) (mc := 0) (ms := 0) X873 hx hZ hown (mvT hZ (tw hw 199 rfl)) (mvT hZ (tw hw 200 rfl)) (mvT hZ (tw hw 176 rfl)) (mvT hZ (tw hw 201 rfl)) (by decide) (backOf (W := 0) (cen0 l Z a0 hw [] ch h0 n0 zz874 h255) hZ (tw hw 201 rfl) (tw hw 176 rfl) (by decide) (by decide)) rfl (by rw [hml]; rfl) (lenOf pd_30 rfl) rfl (by exact Nat.le_of_eq rfl) (hb hby d38_7) rfl e873 (by decide) (by decide) ?_
    intro v874 T874 Lc874 hQ874 X874
    obtain ⟨rfl, Nq874, e874⟩ := hQ874
    have N874 := Fr.app N0 Nq874
    refine Gl.go (fun _ hr => zXS_ifYes X874.here hx rfl (pc0 := 10) (pc' := 26) rfl (hb hby d38_10) rfl (XT.i0_eq_t (by decide)) (by decide) (by decide) hr) ?_
    refine gNew Gl.cl X874 hx hZ hown (tw hw 202 rfl) (tw hw 6 rfl) (tw hw 7 rfl) e874 rfl (hb hby d38_26) (by decide) (by decide) ?_
    intro T875 h875 b875 g875 X875 e875 E875 A875 D875
    have z876 : h0.size ≤ h875.size := E875.1
    have lt875 := own_alt A875.lt
    have F875_value : Fld Z h875 b875 "java/lang/String" "value" "[B" .null := D875 (Or.inr (tw hw 21 rfl)) (ty := (.array .byte)) (by decide)
    have F875_coder : Fld Z h875 b875 "java/lang/String" "coder" "B" (.int (0 : Int32)) := D875 (Or.inr (tw hw 22 rfl)) (ty := .byte) (by decide)
    refine Gl.go (fun _ hr => zXS_dup X875.here hx rfl (hb hby d38_29) rfl rfl (zXS_iloadN X875.here hx rfl (hb hby d38_30) rfl hr)) ?_
    have Oc878 := (Oo.ext E875)
    have zz877 : n0 ≤ h875.size := by omega
    refine gStaticN Gl.cl (y := y_47) (argsL := [(.int ch)]) (rest := [(.ref b875), (.ref b875)]) (mc := 1) (ms := 2) X875 hx hZ hown (mvT hZ (tw hw 203 rfl)) (mvT hZ (tw hw 204 rfl)) (mvT hZ (tw hw 188 rfl)) (mvT hZ (tw hw 205 rfl)) (by decide) (backOf (W := 2) (utb l Z a0 hw [] ch h875 n0 zz877 ⟨Oc878, (by omega)⟩ q3 q4 q5) hZ (tw hw 205 rfl) (tw hw 188 rfl) (by decide) (by decide)) rfl (by rw [hml]; rfl) (lenOf pd_31 rfl) rfl (by exact Nat.le_of_eq rfl) (hb hby d38_31) rfl e875 (by decide) (by decide) ?_
    intro v877 T877 Lc877 hQ877 X877
    obtain ⟨r_877, kr_877, rfl, Nq877, K877, f877_0, f877_1⟩ := hQ877
    have z879 : h875.size ≤ T877.heap.size := K877.1
    have N877 := Fr.app N874 Nq877
    have lt880 := own_alt f877_0.lt
    refine Gl.go (fun _ hr => zXS_iconst X877.here hx rfl (hb hby d38_34) hr) ?_
    have Ec882 := (A875.keep K877)
    have Fc883 := (F875_value.keep K877 nin0)
    have Fc884 := (F875_coder.keep K877 nin0)
    have zz881 : n0 ≤ T877.heap.size := by omega
    refine gSpecialN Gl.cl (y := y_48) (b := b875) (argsL := [(.ref r_877), (.int (1 : Int32))]) (rest := [(.ref b875)]) (mc := 0) (ms := 0) X877 hx hZ hown rfl (mvT hZ (tw hw 212 rfl)) (mvT hZ (tw hw 213 rfl)) (mvT hZ (tw hw 214 rfl)) (by decide) (backOf (W := 1) (sbb1 l Z a0 hw [] b875 r_877 T877.heap n0 zz881 (by omega) Ec882 Fc883 Fc884) hZ (tw hw 214 rfl) (tw hw 7 rfl) (by decide) (by decide)) rfl (by rw [hml]; rfl) (lenOf pd_32 rfl) rfl (by exact Nat.le_of_eq rfl) (hb hby d38_35) rfl (rfl : T877.heap = T877.heap) (by decide) (by decide) ?_
    intro v881 T881 Lc881 hQ881 X881
    obtain ⟨rfl, Nq881, K881, f881_0, f881_1, f881_2⟩ := hQ881
    have z885 : T877.heap.size ≤ T881.heap.size := K881.1
    have N881 := Fr.app N877 Nq881
    have lt886 := own_alt f881_0.lt
    have lt887 := own_alt f881_1.lt
    have lt888 := own_alt f881_2.lt
    have om889 : ¬ @Eq Nat r_877 b875 := by omega
    have Vc890 := (f877_0.keep K881 (ninS (own_ane om889) nin0))
    obtain ⟨fs, hr, hrun, hended, hW, hsame⟩ := X881.leave (v := some (.ref b875)) (fun h => by rw [Bd.returns] at h; cases h)
    have om891 : @LE.le Nat instLENat h0.size b875 := by omega
    refine ⟨_, _, retOut X881 hx Bd.returns rfl (Or.inr (Or.inr (Or.inr (Or.inr ⟨rfl, rfl, rfl⟩)))) (hb hby d38_38) hr, hrun, hended, _, _, rfl, ?_, ⟨⟨_, rfl⟩, hW, hsame.mono (by decide) (by decide)⟩⟩
    show Qvof Z ch G1 h0 n0 _ T881.heap _
    exact ⟨b875, r_877, kr_877, 1, (2 : Int32), (StrChars.Road.wideBytes [ch]), rfl, N881, ((((Keep.refl h0 []).ext E875).trans K877 all0).trans K881 (allS (P := fun x_ => x_ ∈ ([] : List Addr) ∨ h0.size ≤ x_) (Or.inr (own_ale om891)) all0)), f881_0, f881_1, f881_2, Vc890, (by omega), (Or.inr ⟨rfl, rfl, rfl, ch, List.mem_singleton.mpr rfl, h255⟩)⟩
  · show Gl p.tables e below _ (T873.setTop (mkF m 6 #[sI ch] []))
    refine Gl.go (fun _ hr => zXS_iloadN X873.here hx rfl (hb hby d38_6) rfl hr) ?_
    have zz892 : n0 ≤ h0.size := by omega
    refine gStaticN Gl.cl (y := y_45) (argsL := [(.int ch)]) (rest := []) (mc := 0) (ms := 0) X873 hx hZ hown (mvT hZ (tw hw 199 rfl)) (mvT hZ (tw hw 200 rfl)) (mvT hZ (tw hw 176 rfl)) (mvT hZ (tw hw 201 rfl)) (by decide) (backOf (W := 0) (cen1 l Z a0 hw [] ch h0 n0 zz892 h255) hZ (tw hw 201 rfl) (tw hw 176 rfl) (by decide) (by decide)) rfl (by rw [hml]; rfl) (lenOf pd_30 rfl) rfl (by exact Nat.le_of_eq rfl) (hb hby d38_7) rfl e873 (by decide) (by decide) ?_
    intro v892 T892 Lc892 hQ892 X892
    obtain ⟨rfl, Nq892, e892⟩ := hQ892
    have N892 := Fr.app N0 Nq892
    refine Gl.go (fun _ hr => zXS_ifNo X892.here hx rfl (hb hby d38_10) rfl (XT.i0_eq_f (by decide)) hr) ?_
    refine gNew Gl.cl X892 hx hZ hown (tw hw 202 rfl) (tw hw 6 rfl) (tw hw 7 rfl) e892 rfl (hb hby d38_13) (by decide) (by decide) ?_
    intro T893 h893 b893 g893 X893 e893 E893 A893 D893
    have z894 : h0.size ≤ h893.size := E893.1
    have lt893 := own_alt A893.lt
    have F893_value : Fld Z h893 b893 "java/lang/String" "value" "[B" .null := D893 (Or.inr (tw hw 21 rfl)) (ty := (.array .byte)) (by decide)
    have F893_coder : Fld Z h893 b893 "java/lang/String" "coder" "B" (.int (0 : Int32)) := D893 (Or.inr (tw hw 22 rfl)) (ty := .byte) (by decide)
    refine Gl.go (fun _ hr => zXS_dup X893.here hx rfl (hb hby d38_16) rfl rfl (zXS_iloadN X893.here hx rfl (hb hby d38_17) rfl hr)) ?_
    have zz895 : n0 ≤ h893.size := by omega
    refine gStaticN Gl.cl (y := y_46) (argsL := [(.int ch)]) (rest := [(.ref b893), (.ref b893)]) (mc := 1) (ms := 1) X893 hx hZ hown (mvT hZ (tw hw 263 rfl)) (mvT hZ (tw hw 264 rfl)) (mvT hZ (tw hw 176 rfl)) (mvT hZ (tw hw 265 rfl)) (by decide) (backOf (W := 2) (ltb l Z a0 hw [] ch h893 n0 zz895 ) hZ (tw hw 265 rfl) (tw hw 176 rfl) (by decide) (by decide)) rfl (by rw [hml]; rfl) (lenOf pd_31 rfl) rfl (by exact Nat.le_of_eq rfl) (hb hby d38_18) rfl e893 (by decide) (by decide) ?_
    intro v895 T895 Lc895 hQ895 X895
    obtain ⟨r_895, kr_895, rfl, Nq895, K895, f895_0, f895_1⟩ := hQ895
    have z896 : h893.size ≤ T895.heap.size := K895.1
    have N895 := Fr.app N892 Nq895
    have lt897 := own_alt f895_0.lt
    refine Gl.go (fun _ hr => zXS_iconst X895.here hx rfl (hb hby d38_21) hr) ?_
    have Ec899 := (A893.keep K895)
    have Fc900 := (F893_value.keep K895 nin0)
    have Fc901 := (F893_coder.keep K895 nin0)
    have zz898 : n0 ≤ T895.heap.size := by omega
    refine gSpecialN Gl.cl (y := y_48) (b := b893) (argsL := [(.ref r_895), (.int (0 : Int32))]) (rest := [(.ref b893)]) (mc := 0) (ms := 0) X895 hx hZ hown rfl (mvT hZ (tw hw 212 rfl)) (mvT hZ (tw hw 213 rfl)) (mvT hZ (tw hw 214 rfl)) (by decide) (backOf (W := 1) (sbb0 l Z a0 hw [] b893 r_895 T895.heap n0 zz898 (by omega) Ec899 Fc900 Fc901) hZ (tw hw 214 rfl) (tw hw 7 rfl) (by decide) (by decide)) rfl (by rw [hml]; rfl) (lenOf pd_32 rfl) rfl (by exact Nat.le_of_eq rfl) (hb hby d38_22) rfl (rfl : T895.heap = T895.heap) (by decide) (by decide) ?_
    intro v898 T898 Lc898 hQ898 X898
    obtain ⟨rfl, Nq898, K898, f898_0, f898_1, f898_2⟩ := hQ898
    have z902 : T895.heap.size ≤ T898.heap.size := K898.1
    have N898 := Fr.app N895 Nq898
    have lt903 := own_alt f898_0.lt
    have lt904 := own_alt f898_1.lt
    have lt905 := own_alt f898_2.lt
    have om906 : ¬ @Eq Nat r_895 b893 := by omega
    have Vc907 := (f895_0.keep K898 (ninS (own_ane om906) nin0))
    obtain ⟨fs, hr, hrun, hended, hW, hsame⟩ := X898.leave (v := some (.ref b893)) (fun h => by rw [Bd.returns] at h; cases h)
    have om908 : @LE.le Nat instLENat h0.size b893 := by omega
    refine ⟨_, _, retOut X898 hx Bd.returns rfl (Or.inr (Or.inr (Or.inr (Or.inr ⟨rfl, rfl, rfl⟩)))) (hb hby d38_25) hr, hrun, hended, _, _, rfl, ?_, ⟨⟨_, rfl⟩, hW, hsame.mono (by decide) (by decide)⟩⟩
    show Qvof Z ch G1 h0 n0 _ T898.heap _
    exact ⟨b893, r_895, kr_895, 0, (1 : Int32), [(.int (StrChars.lo8 ch))], rfl, N898, ((((Keep.refl h0 []).ext E893).trans K895 all0).trans K898 (allS (P := fun x_ => x_ ∈ ([] : List Addr) ∨ h0.size ≤ x_) (Or.inr (own_ale om908)) all0)), f898_0, f898_1, f898_2, Vc907, (by omega), (Or.inl ⟨rfl, rfl, rfl, own_cS (P := fun c => ¬ (255 : Int32) < c) h255 own_c0⟩)⟩
def Qe4 (Z : State) (x : Addr) (b : Addr) (h0 : Heap) (n0 : Nat) (v : Option Value) (h : Heap) (vm : Vm) (L : List Loc) : Prop := ∃ (t : Addr), ∃ (kb : ClassId), v = none ∧ Fr n0 L ∧ Keep h0 h [x] ∧ (Exa Z h x "java/lang/String") ∧ (Fld Z h x "java/lang/String" "value" "[B" (.ref t)) ∧ (Fld Z h x "java/lang/String" "coder" "B" (.int (0 : Int32))) ∧ (Arv Z h t kb .byte (0 : Int32) ([]) (.int 0)) ∧ (¬ @Eq Nat t x) ∧ (EmJ Z vm h)
set_option maxRecDepth 65536 in
theorem own_hstr : ∀ d ∈ Bundle.stringAtoms, d ∈ tables_1 := by decide +kernel
theorem ef_e4 (m : MethodId) (x0 : Addr) (x1 : Addr) (x2 : Int32) (x3 : Int32) : entryFrame m #[(.ref x0), (.ref x1), (.int x2), (.int x3), .null] 6 = mkF m 0 #[sR x0, sR x1, sI x2, sI x3, .val .null, sU] [] := by first | (simp [entryFrame, mkF, argsToLocals, Value.category]; done) | rfl
theorem d3_8 : decode jdk_42_method_149_code 8 = .ok (.aload_n 0, 1) := by decide +kernel
theorem d3_9 : decode jdk_42_method_149_code 9 = .ok (.ldc 7, 2) := by decide +kernel
theorem d3_11 : decode jdk_42_method_149_code 11 = .ok (.getfield 9, 3) := by decide +kernel
theorem d3_14 : decode jdk_42_method_149_code 14 = .ok (.putfield 9, 3) := by decide +kernel
theorem d3_17 : decode jdk_42_method_149_code 17 = .ok (.aload_n 0, 1) := by decide +kernel
theorem d3_18 : decode jdk_42_method_149_code 18 = .ok (.ldc 7, 2) := by decide +kernel
theorem d3_20 : decode jdk_42_method_149_code 20 = .ok (.getfield 15, 3) := by decide +kernel
theorem d3_23 : decode jdk_42_method_149_code 23 = .ok (.putfield 15, 3) := by decide +kernel
theorem d3_26 : decode jdk_42_method_149_code 26 = .ok (.return_, 1) := by decide +kernel
set_option maxRecDepth 65536 in
set_option maxHeartbeats 40000000 in
theorem e4 (l : Launch) (Z : State) (a0 : Array Value) (hw : ∀ d ∈ tables_1, d.before a0 Z = true) (ws : List Jvm.Cond) (x : Addr) (b : Addr) (h0 : Heap) (n0 : Nat) (Z0 : n0 ≤ h0.size) (q0 : (Old Z Z.heap.size h0 ∧ @LE.le Nat instLENat Z.heap.size n0)) (hcw : Jvm.Lit.compactW.before a0 Z = true) (hc7 : Jvm.Lit.constHeld Z "java/lang/String" 7) (q3 : @LE.le Nat instLENat n0 x) (q4 : Exa Z h0 x "java/lang/String") (q5 : Fld Z h0 x "java/lang/String" "value" "[B" .null) (q6 : Fld Z h0 x "java/lang/String" "coder" "B" (.int (0 : Int32))) :
    MetFree l y_8 (head1 (Jvm.Cond.code y_8 jdk_42_method_149_code 6 none :: ws) r_m37) (fun a_ U_ => a_ = #[(.ref x), (.ref b), (.int (0 : Int32)), (.int (0 : Int32)), .null] ∧ Z.Warmed39 U_.vm ∧ U_.heap = h0 ∧ EmJ Z U_.vm h0) (fun _ _ _ _ _ => True) (fun _ U_ o_ V_ => ∃ v_ L_, o_ = .returned v_ ∧ Qe4 Z x b h0 n0 v_ V_.heap V_.vm L_ ∧ ReturnedEndW U_ o_ V_ L_ r_m37.cells r_m37.slots) := by
  refine MetFree.of_bodySF (plainFor_of_name pn_1) hisR ?_
  intro p e s m args below meth c s₁ Bd hml0 hP hK
  obtain ⟨rfl, hZ, hh, hphi_em⟩ := hP
  have hx := Bd.exec
  have hby := Bd.bytes
  have hml : c.maxLocals = 6 := hml0
  have hown : s.vm.findClass "java/lang/String" = some m.cls := findClass_of_methodNamed Bd.named
  have hnm := (name_of_methodNamed Bd.named Bd.method).1
  have X0 : Stand p l e r_m37 (s.setVm s.vm) m #[(.ref x), (.ref b), (.int (0 : Int32)), (.int (0 : Int32)), .null] below meth c s₁ [] 0 0 := Stand.of_body Bd
  have e0 : s₁.heap = h0 := by rw [← hh, Bd.state]; rfl
  have N0 := Fr.nil n0
  have hS0 : s.Since s.vm h0.size := (State.WarmedH.refl s).since _
  have hk0 : h0.size ≤ h0.size := Nat.le_refl _
  have Oo := q0.1
  have zo := q0.2
  have lt909 := own_alt q4.lt
  have lt910 := own_alt q5.lt
  have lt911 := own_alt q6.lt
  have hstr : ∀ d ∈ Bundle.stringAtoms, d.before a0 Z = true := fun d hd => hw d (own_hstr d hd)
  refine Gl.go (A := s₁.setTop (entryFrame m #[(.ref x), (.ref b), (.int (0 : Int32)), (.int (0 : Int32)), .null] 6)) (P := fun o_ U_ => ∃ v_ L_, o_ = .returned v_ ∧ Qe4 Z x b h0 n0 v_ U_.heap U_.vm L_ ∧ ReturnedEndW s o_ U_ L_ r_m37.cells r_m37.slots) (fun t_ k_ => castTop (ef_e4 m x b (0 : Int32) (0 : Int32)) k_) ?_
  show Gl p.tables e below _ (s₁.setTop (mkF m 0 #[sR x, sR b, sI 0, sI 0, .val .null, sU] []))
  refine Gl.go (fun _ hr => zXS_aloadN X0.here hx rfl (hb hby d3_0) rfl rfl hr) ?_
  refine gInit Gl.cl (W := 0) X0 hx hZ hown (tw hw 16 rfl) (tw hw 17 rfl) (tw hw 18 rfl) e0 rfl (by rw [hml]; rfl) rfl (hb hby d3_1) (by decide) (by exact Nat.le_of_eq rfl) (by decide) ?_
  intro T912 X912 e912
  refine Gl.go (fun _ hr => zXS_iloadN X912.here hx rfl (hb hby d3_4) rfl (zXS_ifNo X912.here hx rfl (hb hby d3_5) rfl (XT.i0_ne_f (by decide)) (zXS_aloadN X912.here hx rfl (hb hby d3_8) rfl rfl hr))) ?_
  rcases id hphi_em with I913 | ⟨lI, la, lt, lk, LL, lE, lC, lV, lA⟩
  · obtain ⟨a913, T913, h913, k913, t913, kb913, X913, e913, E913, hS913, hk913, hZ913, hown913, lE913, lC913, lV913, lA913, -, -, IB913, LL913, st913⟩ := ldcSVL X912 hx hZ hown (tw hw 19 rfl) hstr e912 hS0 (by have q := hk0; omega) (Fr.nil _) (fun b cl q => hh ▸ Oo.2.2 _ _ q) I913 (by simp) hc7 hcw (vs := []) (z := (0 : Int32)) ⟨by decide, rfl⟩ (by decide) rfl (g := (mkF m 9 #[sR x, sR b, sI 0, sI 0, .val .null, sU] [(.ref x)])) rfl (hb hby d3_9) (n := 0) (by decide) (by decide) (by decide) (by decide)
    have z914 : h0.size ≤ h913.size := E913.1
    have lt915 := own_alt lE913.lt
    have lt916 := own_alt lC913.lt
    have lt917 := own_alt lV913.lt
    have lt918 := own_alt lA913.lt
    have Ec919 := (q4.ext E913)
    have Fc920 := (q5.ext E913)
    have ne921 := own_anq (a := a913) (b := x) (Fld.ne lV913 Fc920 nofun)
    have ne922 := own_anq (a := t913) (b := x) (Exa.neArv Ec919 lA913 (tw hw 6 rfl)).symm
    refine Gl.go st913 ?_
    show Gl p.tables e below _ (T913.setTop (mkF m 11 #[sR x, sR b, sI 0, sI 0, .val .null, sU] [(.ref a913), (.ref x)]))
    refine gGetF (host := "") Gl.cl X913 hx hZ913 hown913 (Or.inl (tw hw 25 rfl)) Via.refl e913 lV913 rfl rfl (hb hby d3_11) ?_
    intro T923 X923 e923
    refine gPutF (host := "") Gl.cl X923 hx hZ913 hown913 (Or.inl (tw hw 25 rfl)) Via.refl e923 Fc920 Ec919 (Or.inr ⟨(tw hw 21 rfl), rfl, hnm⟩) (tw hw 6 rfl) (ty := (.array .byte)) (by decide) rfl rfl rfl rfl (hb hby d3_14) ?_
    intro T924 h924 X924 e924 W924
    have z925 : h913.size ≤ h924.size := (Keep.of_wr W924).1
    have Fw924 := Fc920.same W924
    have om926 : @LE.le Nat instLENat n0 x := by omega
    have N924 := Fr.snoc X924 N0 (own_ale om926)
    refine Gl.go (fun _ hr => zXS_aloadN X924.here hx rfl (hb hby d3_17) rfl rfl hr) ?_
    refine Gl.go (ldcAgain X924 hx hZ913 hown913 (tw hw 19 rfl) LL913 (g := (mkF m 18 #[sR x, sR b, sI 0, sI 0, .val .null, sU] [(.ref x)])) rfl (hb hby d3_18)) ?_
    show Gl p.tables e below _ (T924.setTop (mkF m 20 #[sR x, sR b, sI 0, sI 0, .val .null, sU] [(.ref a913), (.ref x)]))
    have om927 : ¬ @Eq Nat a913 x := by omega
    have Fc928 := (lC913.other W924 (Or.inl (own_ane om927)))
    refine gGetF (host := "") Gl.cl X924 hx hZ913 hown913 (Or.inl (tw hw 26 rfl)) Via.refl e924 Fc928 rfl rfl (hb hby d3_20) ?_
    intro T929 X929 e929
    have Fc930 := ((q6.ext E913).other W924 (Or.inr (slot_ne (Or.inr (tw hw 22 rfl)) (Or.inr (tw hw 21 rfl)) (by decide) (t := .byte) (t' := (.array .byte)) (by decide) (by decide))))
    have Ec931 := (Ec919.wr W924)
    refine gPutF (host := "") Gl.cl X929 hx hZ913 hown913 (Or.inl (tw hw 26 rfl)) Via.refl e929 Fc930 Ec931 (Or.inr ⟨(tw hw 22 rfl), rfl, hnm⟩) (tw hw 6 rfl) (ty := .byte) (by decide) rfl rfl rfl rfl (hb hby d3_23) ?_
    intro T932 h932 X932 e932 W932
    have z933 : h924.size ≤ h932.size := (Keep.of_wr W932).1
    have Fw932 := Fc930.same W932
    have N932 := Fr.snoc X932 N924 (own_ale om926)
    have Ec934 := (Ec931.wr W932)
    have Fc935 := (Fw924.other W932 (Or.inr (slot_ne (Or.inr (tw hw 21 rfl)) (Or.inr (tw hw 22 rfl)) (by decide) (t := (.array .byte)) (t' := .byte) (by decide) (by decide))))
    have om936 : ¬ @Eq Nat t913 x := by omega
    have Vc937 := ((lA913.other W924 (own_ane om936)).other W932 (own_ane om936))
    obtain ⟨fs, hr, hrun, hended, hE⟩ := X932.leaveW hS913 (by have q := congrArg Array.size e932; have q2 := hk913; omega) (v := none) (fun _ => rfl)
    refine ⟨_, _, X932.returnOut hx Bd.returns (hb hby d3_26) hr, hrun, hended, _, _, rfl, ?_, ⟨hE.1, hE.2.1, hE.2.2.1, hE.2.2.2.mono (by decide) (by decide)⟩⟩
    show Qe4 Z x b h0 n0 _ T932.heap T932.vm _
    rw [e932]
    have Ec939 := ((lE913.wr W924).wr W932)
    have Fc940 := (Fc928.other W932 (Or.inl (own_ane om927)))
    have Fc941 := ((lV913.other W924 (Or.inl (own_ane om927))).other W932 (Or.inl (own_ane om927)))
    have ph938 : EmJ Z T913.vm h932 := Or.inr ⟨IB913, a913, t913, kb913, LL913, Ec939, Fc940, Fc941, Vc937⟩
    exact ⟨t913, kb913, rfl, N932, ((((Keep.refl h0 [x]).ext E913).wr W924 (Or.inl (by simp))).wr W932 (Or.inl (by simp))), Ec934, Fc935, Fw932, Vc937, (by omega), (ph938.warm X932.warmed)⟩
  · have lt942 := own_alt lE.lt
    have lt943 := own_alt lC.lt
    have lt944 := own_alt lV.lt
    have lt945 := own_alt lA.lt
    have ne946 := own_anq (a := la) (b := x) (Fld.ne lV q5 nofun)
    have ne947 := own_anq (a := lt) (b := x) (Exa.neArv q4 lA (tw hw 6 rfl)).symm
    refine Gl.go (ldcAgain X912 hx hZ hown (tw hw 19 rfl) LL (g := (mkF m 9 #[sR x, sR b, sI 0, sI 0, .val .null, sU] [(.ref x)])) rfl (hb hby d3_9)) ?_
    show Gl p.tables e below _ (T912.setTop (mkF m 11 #[sR x, sR b, sI 0, sI 0, .val .null, sU] [(.ref la), (.ref x)]))
    refine gGetF (host := "") Gl.cl X912 hx hZ hown (Or.inl (tw hw 25 rfl)) Via.refl e912 lV rfl rfl (hb hby d3_11) ?_
    intro T948 X948 e948
    refine gPutF (host := "") Gl.cl X948 hx hZ hown (Or.inl (tw hw 25 rfl)) Via.refl e948 q5 q4 (Or.inr ⟨(tw hw 21 rfl), rfl, hnm⟩) (tw hw 6 rfl) (ty := (.array .byte)) (by decide) rfl rfl rfl rfl (hb hby d3_14) ?_
    intro T949 h949 X949 e949 W949
    have z950 : h0.size ≤ h949.size := (Keep.of_wr W949).1
    have Fw949 := q5.same W949
    have om951 : @LE.le Nat instLENat n0 x := by omega
    have N949 := Fr.snoc X949 N0 (own_ale om951)
    refine Gl.go (fun _ hr => zXS_aloadN X949.here hx rfl (hb hby d3_17) rfl rfl hr) ?_
    refine Gl.go (ldcAgain X949 hx hZ hown (tw hw 19 rfl) LL (g := (mkF m 18 #[sR x, sR b, sI 0, sI 0, .val .null, sU] [(.ref x)])) rfl (hb hby d3_18)) ?_
    show Gl p.tables e below _ (T949.setTop (mkF m 20 #[sR x, sR b, sI 0, sI 0, .val .null, sU] [(.ref la), (.ref x)]))
    have om952 : ¬ @Eq Nat la x := by omega
    have Fc953 := (lC.other W949 (Or.inl (own_ane om952)))
    refine gGetF (host := "") Gl.cl X949 hx hZ hown (Or.inl (tw hw 26 rfl)) Via.refl e949 Fc953 rfl rfl (hb hby d3_20) ?_
    intro T954 X954 e954
    have Fc955 := (q6.other W949 (Or.inr (slot_ne (Or.inr (tw hw 22 rfl)) (Or.inr (tw hw 21 rfl)) (by decide) (t := .byte) (t' := (.array .byte)) (by decide) (by decide))))
    have Ec956 := (q4.wr W949)
    refine gPutF (host := "") Gl.cl X954 hx hZ hown (Or.inl (tw hw 26 rfl)) Via.refl e954 Fc955 Ec956 (Or.inr ⟨(tw hw 22 rfl), rfl, hnm⟩) (tw hw 6 rfl) (ty := .byte) (by decide) rfl rfl rfl rfl (hb hby d3_23) ?_
    intro T957 h957 X957 e957 W957
    have z958 : h949.size ≤ h957.size := (Keep.of_wr W957).1
    have Fw957 := Fc955.same W957
    have N957 := Fr.snoc X957 N949 (own_ale om951)
    have Ec959 := (Ec956.wr W957)
    have Fc960 := (Fw949.other W957 (Or.inr (slot_ne (Or.inr (tw hw 21 rfl)) (Or.inr (tw hw 22 rfl)) (by decide) (t := (.array .byte)) (t' := .byte) (by decide) (by decide))))
    have om961 : ¬ @Eq Nat lt x := by omega
    have Vc962 := ((lA.other W949 (own_ane om961)).other W957 (own_ane om961))
    obtain ⟨fs, hr, hrun, hended, hE⟩ := X957.leaveW hS0 (by have q := congrArg Array.size e957; have q2 := hk0; omega) (v := none) (fun _ => rfl)
    refine ⟨_, _, X957.returnOut hx Bd.returns (hb hby d3_26) hr, hrun, hended, _, _, rfl, ?_, ⟨hE.1, hE.2.1, hE.2.2.1, hE.2.2.2.mono (by decide) (by decide)⟩⟩
    show Qe4 Z x b h0 n0 _ T957.heap T957.vm _
    rw [e957]
    have Ec964 := ((lE.wr W949).wr W957)
    have Fc965 := (Fc953.other W957 (Or.inl (own_ane om952)))
    have Fc966 := ((lV.other W949 (Or.inl (own_ane om952))).other W957 (Or.inl (own_ane om952)))
    have ph963 : EmJ Z s.vm h957 := Or.inr ⟨lI, la, lt, lk, LL, Ec964, Fc965, Fc966, Vc962⟩
    exact ⟨lt, lk, rfl, N957, (((Keep.refl h0 [x]).wr W949 (Or.inl (by simp))).wr W957 (Or.inl (by simp))), Ec959, Fc960, Fw957, Vc962, (by omega), (ph963.warm X957.warmed)⟩
def Qe1 (Z : State) (x : Addr) (b : Addr) (ck : ClassId) (h0 : Heap) (n0 : Nat) (v : Option Value) (h : Heap) (vm : Vm) (L : List Loc) : Prop := ∃ (t : Addr), ∃ (kb : ClassId), v = none ∧ Fr n0 L ∧ Keep h0 h [x] ∧ (Exa Z h x "java/lang/String") ∧ (Fld Z h x "java/lang/String" "value" "[B" (.ref t)) ∧ (Fld Z h x "java/lang/String" "coder" "B" (.int (0 : Int32))) ∧ (Arv Z h t kb .byte (0 : Int32) ([]) (.int 0)) ∧ (¬ @Eq Nat t x) ∧ (EmJ Z vm h)
theorem ef_e1 (m : MethodId) (x0 : Addr) (x1 : Addr) : entryFrame m #[(.ref x0), (.ref x1)] 2 = mkF m 0 #[sR x0, sR x1] [] := by first | (simp [entryFrame, mkF, argsToLocals, Value.category]; done) | rfl
set_option maxRecDepth 65536 in
set_option maxHeartbeats 40000000 in
theorem e1 (l : Launch) (Z : State) (a0 : Array Value) (hw : ∀ d ∈ tables_1, d.before a0 Z = true) (ws : List Jvm.Cond) (x : Addr) (b : Addr) (ck : ClassId) (h0 : Heap) (n0 : Nat) (Z0 : n0 ≤ h0.size) (q0 : (Old Z Z.heap.size h0 ∧ @LE.le Nat instLENat Z.heap.size n0)) (hcw : Jvm.Lit.compactW.before a0 Z = true) (hc7 : Jvm.Lit.constHeld Z "java/lang/String" 7) (q3 : @LE.le Nat instLENat n0 x) (q4 : Exa Z h0 x "java/lang/String") (q5 : Fld Z h0 x "java/lang/String" "value" "[B" .null) (q6 : Fld Z h0 x "java/lang/String" "coder" "B" (.int (0 : Int32))) (q7 : Arv Z h0 b ck .char (0 : Int32) ([]) (.int (0 : Int32))) :
    MetFree l y_9 (head1 (Jvm.Cond.code y_9 jdk_42_method_3_code 2 none :: ws) r_m38) (fun a_ U_ => a_ = #[(.ref x), (.ref b)] ∧ Z.Warmed39 U_.vm ∧ U_.heap = h0 ∧ EmJ Z U_.vm h0) (fun _ _ _ _ _ => True) (fun _ U_ o_ V_ => ∃ v_ L_, o_ = .returned v_ ∧ Qe1 Z x b ck h0 n0 v_ V_.heap V_.vm L_ ∧ ReturnedEndW U_ o_ V_ L_ r_m38.cells r_m38.slots) := by
  refine MetFree.of_bodySF (plainFor_of_name pn_1) hisR ?_
  intro p e s m args below meth c s₁ Bd hml0 hP hK
  obtain ⟨rfl, hZ, hh, hphi_em⟩ := hP
  have hx := Bd.exec
  have hby := Bd.bytes
  have hml : c.maxLocals = 2 := hml0
  have hown : s.vm.findClass "java/lang/String" = some m.cls := findClass_of_methodNamed Bd.named
  have hnm := (name_of_methodNamed Bd.named Bd.method).1
  have X0 : Stand p l e r_m38 (s.setVm s.vm) m #[(.ref x), (.ref b)] below meth c s₁ [] 0 0 := Stand.of_body Bd
  have e0 : s₁.heap = h0 := by rw [← hh, Bd.state]; rfl
  have N0 := Fr.nil n0
  have hS0 : s.Since s.vm h0.size := (State.WarmedH.refl s).since _
  have hk0 : h0.size ≤ h0.size := Nat.le_refl _
  have Oo := q0.1
  have zo := q0.2
  have lt967 := own_alt q4.lt
  have lt968 := own_alt q5.lt
  have lt969 := own_alt q6.lt
  have lt970 := own_alt q7.lt
  have hstr : ∀ d ∈ Bundle.stringAtoms, d.before a0 Z = true := fun d hd => hw d (own_hstr d hd)
  refine Gl.go (A := s₁.setTop (entryFrame m #[(.ref x), (.ref b)] 2)) (P := fun o_ U_ => ∃ v_ L_, o_ = .returned v_ ∧ Qe1 Z x b ck h0 n0 v_ U_.heap U_.vm L_ ∧ ReturnedEndW s o_ U_ L_ r_m38.cells r_m38.slots) (fun t_ k_ => castTop (ef_e1 m x b) k_) ?_
  show Gl p.tables e below _ (s₁.setTop (mkF m 0 #[sR x, sR b] []))
  refine Gl.go (fun _ hr => zXS_aloadN X0.here hx rfl (hb hby d2_0) rfl rfl (zXS_aloadN X0.here hx rfl (hb hby d2_1) rfl rfl (zXS_iconst X0.here hx rfl (hb hby d2_2) (zXS_aloadN X0.here hx rfl (hb hby d2_3) rfl rfl hr)))) ?_
  obtain ⟨c971, a971, q971, s971, m971, H971, U971⟩ := id q7
  refine gLen Gl.cl X0 hx hZ e0 a971 s971 m971 rfl rfl (hb hby d2_4) ?_
  refine Gl.go (fun _ hr => zXS_aconstNull X0.here hx rfl (hb hby d2_5) hr) ?_
  have zz972 : n0 ≤ h0.size := by omega
  refine gSpecialJ Gl.cl (y := y_8) (b := x) (argsL := [(.ref b), (.int (0 : Int32)), (.int (0 : Int32)), .null]) (rest := []) (mc := 2) (ms := 4) (Φ := fun vm => EmJ Z vm h0) X0 hx hZ hS0 (by have q := hk0; omega) hown rfl (mvT hZ (tw hw 12 rfl)) (mvT hZ (tw hw 13 rfl)) (mvT hZ (tw hw 15 rfl)) (by decide) (backOfJ (Φ := fun vm => EmJ Z vm h0) (W := 0) (e4 l Z a0 hw [] x b h0 n0 zz972 ⟨Oo, (by omega)⟩ (by assumption) (by assumption) (by omega) q4 q5 q6) hZ (tw hw 15 rfl) (tw hw 7 rfl) (by decide) (by decide)) rfl (by rw [hml]; rfl) (lenOf pd_7 rfl) rfl (by exact Nat.le_of_eq rfl) (hb hby d2_6) rfl e0 (fun vm₁ hvm => hphi_em.warm hvm) (by decide) (by decide) ?_
  intro v972 T972 Lc972 hQ972 X972 hS972 hZ972 hown972 hk972
  obtain ⟨t_972, kb_972, rfl, Nq972, K972, f972_0, f972_1, f972_2, f972_3, f972_4, ph972_em⟩ := hQ972
  have z973 : h0.size ≤ T972.heap.size := K972.1
  have N972 := Fr.app N0 Nq972
  have lt974 := own_alt f972_0.lt
  have lt975 := own_alt f972_1.lt
  have lt976 := own_alt f972_2.lt
  have lt977 := own_alt f972_3.lt
  obtain ⟨fs, hr, hrun, hended, hE⟩ := X972.leaveW hS972 (by have q := congrArg Array.size (rfl : T972.heap = T972.heap); have q2 := hk972; omega) (v := none) (fun _ => rfl)
  refine ⟨_, _, X972.returnOut hx Bd.returns (hb hby d2_9) hr, hrun, hended, _, _, rfl, ?_, ⟨hE.1, hE.2.1, hE.2.2.1, hE.2.2.2.mono (by decide) (by decide)⟩⟩
  show Qe1 Z x b ck h0 n0 _ T972.heap T972.vm _
  exact ⟨t_972, kb_972, rfl, N972, ((Keep.refl h0 [x]).trans K972 (allS (P := fun x_ => x_ ∈ ([x] : List Addr) ∨ h0.size ≤ x_) (Or.inl (by simp)) all0)), f972_0, f972_1, f972_2, f972_3, (by omega), (ph972_em.warm X972.warmed)⟩
def Qmks (Z : State) (ls : Nat) (c0 : Int32) (c1 : Int32) (G1 : Int32) (h0 : Heap) (n0 : Nat) (v : Option Value) (h : Heap) (vm : Vm) (L : List Loc) : Prop := ∃ (r : Addr), ∃ (t : Addr), ∃ (kb : ClassId), ∃ (cd : Int32), ∃ (N2 : Int32), ∃ (vs : List Value), v = some (.ref r) ∧ Fr n0 L ∧ Keep h0 h [] ∧ (Exa Z h r "java/lang/String") ∧ (Fld Z h r "java/lang/String" "value" "[B" (.ref t)) ∧ (Fld Z h r "java/lang/String" "coder" "B" (.int cd)) ∧ (Arv Z h t kb .byte N2 vs (.int (0 : Int32))) ∧ (@LE.le Nat instLENat h0.size r) ∧ (StrChars.Road.CodA (([c0, c1] : List Int32).take ls) cd N2 vs) ∧ (EmJ Z vm h)
theorem pn_7 : plainName "com/example/frist/frist/TableNameQualifiedPinLaw" = true := by first | (simp [plainName, overriddenIn]; done) | decide +kernel
theorem ef_mks (m : MethodId) (x0 : Int32) (x1 : Int32) (x2 : Int32) : entryFrame m #[(.int x0), (.int x1), (.int x2)] 4 = mkF m 0 #[sI x0, sI x1, sI x2, sU] [] := by first | (simp [entryFrame, mkF, argsToLocals, Value.category]; done) | rfl
theorem d1_0 : decode method_3_code 0 = .ok (.iload_n 0, 1) := by decide +kernel
theorem d1_1 : decode method_3_code 1 = .ok (.ifCond .ne 14, 3) := by decide +kernel
theorem d1_4 : decode method_3_code 4 = .ok (.new 24, 3) := by decide +kernel
theorem d1_7 : decode method_3_code 7 = .ok (.dup, 1) := by decide +kernel
theorem d1_8 : decode method_3_code 8 = .ok (.iconst 0, 1) := by decide +kernel
theorem d1_9 : decode method_3_code 9 = .ok (.newarray .char, 2) := by decide +kernel
theorem d1_11 : decode method_3_code 11 = .ok (.invokespecial 33, 3) := by decide +kernel
theorem pd_33 : parseMethodDescriptor "([C)V" = some ⟨[(.array .char)], none⟩ := by decide +kernel
theorem d1_14 : decode method_3_code 14 = .ok (.areturn, 1) := by decide +kernel
theorem d1_15 : decode method_3_code 15 = .ok (.iload_n 0, 1) := by decide +kernel
theorem d1_16 : decode method_3_code 16 = .ok (.iconst 1, 1) := by decide +kernel
theorem d1_17 : decode method_3_code 17 = .ok (.if_icmp .ne 8, 3) := by decide +kernel
theorem d1_20 : decode method_3_code 20 = .ok (.iload_n 1, 1) := by decide +kernel
theorem d1_21 : decode method_3_code 21 = .ok (.invokestatic 36, 3) := by decide +kernel
theorem pd_34 : parseMethodDescriptor "(C)Ljava/lang/String;" = some ⟨[.char], some (.object "java/lang/String")⟩ := by decide +kernel
theorem d1_24 : decode method_3_code 24 = .ok (.areturn, 1) := by decide +kernel
theorem d1_25 : decode method_3_code 25 = .ok (.iconst 2, 1) := by decide +kernel
theorem d1_26 : decode method_3_code 26 = .ok (.newarray .char, 2) := by decide +kernel
theorem d1_28 : decode method_3_code 28 = .ok (.astore_n 3, 1) := by decide +kernel
theorem d1_29 : decode method_3_code 29 = .ok (.aload_n 3, 1) := by decide +kernel
theorem d1_30 : decode method_3_code 30 = .ok (.iconst 0, 1) := by decide +kernel
theorem d1_31 : decode method_3_code 31 = .ok (.iload_n 1, 1) := by decide +kernel
theorem d1_32 : decode method_3_code 32 = .ok (.castore, 1) := by decide +kernel
theorem d1_33 : decode method_3_code 33 = .ok (.aload_n 3, 1) := by decide +kernel
theorem d1_34 : decode method_3_code 34 = .ok (.iconst 1, 1) := by decide +kernel
theorem d1_35 : decode method_3_code 35 = .ok (.iload_n 2, 1) := by decide +kernel
theorem d1_36 : decode method_3_code 36 = .ok (.castore, 1) := by decide +kernel
theorem d1_37 : decode method_3_code 37 = .ok (.new 24, 3) := by decide +kernel
theorem d1_40 : decode method_3_code 40 = .ok (.dup, 1) := by decide +kernel
theorem d1_41 : decode method_3_code 41 = .ok (.aload_n 3, 1) := by decide +kernel
theorem d1_42 : decode method_3_code 42 = .ok (.invokespecial 33, 3) := by decide +kernel
theorem d1_45 : decode method_3_code 45 = .ok (.areturn, 1) := by decide +kernel
set_option maxRecDepth 65536 in
set_option maxHeartbeats 40000000 in
theorem mks (l : Launch) (Z : State) (a0 : Array Value) (hw : ∀ d ∈ tables_1, d.before a0 Z = true) (ws : List Jvm.Cond) (ls : Nat) (c0 : Int32) (c1 : Int32) (G1 : Int32) (h0 : Heap) (n0 : Nat) (Z0 : n0 ≤ h0.size) (q0 : Sta Z Z.heap "java/lang/String" "COMPACT_STRINGS" "Z" (.int G1)) (P5 : ¬ (G1 = (0 : Int32))) (q2 : (Old Z Z.heap.size h0 ∧ @LE.le Nat instLENat Z.heap.size n0)) (q3 : Sta Z Z.heap "java/lang/StringUTF16" "$assertionsDisabled" "Z" (.int (1 : Int32))) (q4 : Sta Z Z.heap "java/lang/StringUTF16" "HI_BYTE_SHIFT" "I" (.int (0 : Int32))) (q5 : Sta Z Z.heap "java/lang/StringUTF16" "LO_BYTE_SHIFT" "I" (.int (8 : Int32))) (hcw : Jvm.Lit.compactW.before a0 Z = true) (hc7 : Jvm.Lit.constHeld Z "java/lang/String" 7) (hls : ls ≤ 2) (hc0 : Wid c0) (hc1 : Wid c1) :
    MetFree l y_50 (head1 (Jvm.Cond.code y_50 method_3_code 4 (some (.object "java/lang/String")) :: ws) r_m39) (fun a_ U_ => a_ = #[(.int (Int32.ofNat ls)), (.int c0), (.int c1)] ∧ Z.Warmed39 U_.vm ∧ U_.heap = h0 ∧ EmJ Z U_.vm h0) (fun _ _ _ _ _ => True) (fun _ U_ o_ V_ => ∃ v_ L_, o_ = .returned v_ ∧ Qmks Z ls c0 c1 G1 h0 n0 v_ V_.heap V_.vm L_ ∧ ReturnedEndW U_ o_ V_ L_ r_m39.cells r_m39.slots) := by
  refine MetFree.of_bodySF (plainFor_of_name pn_7) hisR ?_
  intro p e s m args below meth c s₁ Bd hml0 hP hK
  obtain ⟨rfl, hZ, hh, hphi_em⟩ := hP
  have hx := Bd.exec
  have hby := Bd.bytes
  have hml : c.maxLocals = 4 := hml0
  have hown : s.vm.findClass "com/example/frist/frist/TableNameQualifiedPinLaw" = some m.cls := findClass_of_methodNamed Bd.named
  have hnm := (name_of_methodNamed Bd.named Bd.method).1
  have X0 : Stand p l e r_m39 (s.setVm s.vm) m #[(.int (Int32.ofNat ls)), (.int c0), (.int c1)] below meth c s₁ [] 0 0 := Stand.of_body Bd
  have e0 : s₁.heap = h0 := by rw [← hh, Bd.state]; rfl
  have N0 := Fr.nil n0
  have hS0 : s.Since s.vm h0.size := (State.WarmedH.refl s).since _
  have hk0 : h0.size ≤ h0.size := Nat.le_refl _
  have Oo := q2.1
  have zo := q2.2
  have hstr : ∀ d ∈ Bundle.stringAtoms, d.before a0 Z = true := fun d hd => hw d (own_hstr d hd)
  refine Gl.go (A := s₁.setTop (entryFrame m #[(.int (Int32.ofNat ls)), (.int c0), (.int c1)] 4)) (P := fun o_ U_ => ∃ v_ L_, o_ = .returned v_ ∧ Qmks Z ls c0 c1 G1 h0 n0 v_ U_.heap U_.vm L_ ∧ ReturnedEndW s o_ U_ L_ r_m39.cells r_m39.slots) (fun t_ k_ => castTop (ef_mks m (Int32.ofNat ls) c0 c1) k_) ?_
  show Gl p.tables e below _ (s₁.setTop (mkF m 0 #[sI (Int32.ofNat ls), sI c0, sI c1, sU] []))
  rcases own_le2 hls with hn1 | hn1 | hn1
  · refine Gl.cast (F' := (mkF m 0 #[sI 0, sI c0, sI c1, sU] [])) (by rw [hn1]; first | done | rfl) ?_
    show Gl p.tables e below _ (s₁.setTop (mkF m 0 #[sI 0, sI c0, sI c1, sU] []))
    refine Gl.go (fun _ hr => zXS_iloadN X0.here hx rfl (hb hby d1_0) rfl (zXS_ifNo X0.here hx rfl (hb hby d1_1) rfl (XT.i0_ne_f (by decide)) hr)) ?_
    refine gNew Gl.cl X0 hx hZ hown (tw hw 5 rfl) (tw hw 6 rfl) (tw hw 7 rfl) e0 rfl (hb hby d1_4) (by decide) (by decide) ?_
    intro T978 h978 b978 g978 X978 e978 E978 A978 D978
    have z979 : h0.size ≤ h978.size := E978.1
    have lt978 := own_alt A978.lt
    have F978_value : Fld Z h978 b978 "java/lang/String" "value" "[B" .null := D978 (Or.inr (tw hw 21 rfl)) (ty := (.array .byte)) (by decide)
    have F978_coder : Fld Z h978 b978 "java/lang/String" "coder" "B" (.int (0 : Int32)) := D978 (Or.inr (tw hw 22 rfl)) (ty := .byte) (by decide)
    refine Gl.go (fun _ hr => zXS_dup X978.here hx rfl (hb hby d1_7) rfl rfl (zXS_iconst X978.here hx rfl (hb hby d1_8) hr)) ?_
    refine gNewP Gl.cl X978 hx hZ (tw hw 8 rfl) e978 rfl (hb hby d1_9) rfl (by decide) (cap := 0) (by decide) (by decide) (by decide) (by decide) ?_
    intro T980 h980 b980 k980 g980 X980 e980 E980 A980
    have z981 : h978.size ≤ h980.size := E980.1
    have lt980 := own_alt A980.lt
    have V980 : Arv Z h980 b980 k980 .char (0 : Int32) [] (.int (0 : Int32)) := (Arv.new A980 (by decide)).pad (pad_rep [] (.int (0 : Int32)) 0)
    have Oc983 := ((Oo.ext E978).ext E980)
    have Ec984 := (A978.ext E980)
    have Fc985 := (F978_value.ext E980)
    have Fc986 := (F978_coder.ext E980)
    have zz982 : n0 ≤ h980.size := by omega
    have ph987 := hphi_em.keep (((Keep.refl h0 []).ext E978).ext E980)
    refine gSpecialJ Gl.cl (y := y_9) (b := b978) (argsL := [(.ref b980)]) (rest := [(.ref b978)]) (mc := 2) (ms := 4) (Φ := fun vm => EmJ Z vm h980) X980 hx hZ hS0 (by have q := hk0; omega) hown rfl (mvT hZ (tw hw 9 rfl)) (mvT hZ (tw hw 10 rfl)) (mvT hZ (tw hw 11 rfl)) (by decide) (backOfJ (Φ := fun vm => EmJ Z vm h980) (W := 1) (e1 l Z a0 hw [] b978 b980 k980 h980 n0 zz982 ⟨Oc983, (by omega)⟩ (by assumption) (by assumption) (by omega) Ec984 Fc985 Fc986 V980) hZ (tw hw 11 rfl) (tw hw 7 rfl) (by decide) (by decide)) rfl (by rw [hml]; rfl) (lenOf pd_33 rfl) rfl (by exact Nat.le_of_eq rfl) (hb hby d1_11) rfl e980 (fun vm₁ hvm => ph987.warm hvm) (by decide) (by decide) ?_
    intro v982 T982 Lc982 hQ982 X982 hS982 hZ982 hown982 hk982
    obtain ⟨t_982, kb_982, rfl, Nq982, K982, f982_0, f982_1, f982_2, f982_3, f982_4, ph982_em⟩ := hQ982
    have z988 : h980.size ≤ T982.heap.size := K982.1
    have N982 := Fr.app N0 Nq982
    have lt989 := own_alt f982_0.lt
    have lt990 := own_alt f982_1.lt
    have lt991 := own_alt f982_2.lt
    have lt992 := own_alt f982_3.lt
    obtain ⟨fs, hr, hrun, hended, hE⟩ := X982.leaveW hS982 (by have q := congrArg Array.size (rfl : T982.heap = T982.heap); have q2 := hk982; omega) (v := some (.ref b978)) (fun h => by rw [Bd.returns] at h; cases h)
    have om993 : @LE.le Nat instLENat h0.size b978 := by omega
    refine ⟨_, _, retOut X982 hx Bd.returns rfl (Or.inr (Or.inr (Or.inr (Or.inr ⟨rfl, rfl, rfl⟩)))) (hb hby d1_14) hr, hrun, hended, _, _, rfl, ?_, ⟨hE.1, hE.2.1, hE.2.2.1, hE.2.2.2.mono (by decide) (by decide)⟩⟩
    show Qmks Z ls c0 c1 G1 h0 n0 _ T982.heap T982.vm _
    exact ⟨b978, t_982, kb_982, 0, (0 : Int32), [], rfl, N982, ((((Keep.refl h0 []).ext E978).ext E980).trans K982 (allS (P := fun x_ => x_ ∈ ([] : List Addr) ∨ h0.size ≤ x_) (Or.inr (own_ale om993)) all0)), f982_0, f982_1, f982_2, f982_3, (by omega), (by rw [hn1]; exact (show StrChars.Road.CodA [] 0 _ _ from Or.inl ⟨rfl, rfl, rfl, own_c0⟩)), (ph982_em.warm X982.warmed)⟩
  · refine Gl.cast (F' := (mkF m 0 #[sI 1, sI c0, sI c1, sU] [])) (by rw [hn1]; first | done | rfl) ?_
    show Gl p.tables e below _ (s₁.setTop (mkF m 0 #[sI 1, sI c0, sI c1, sU] []))
    refine Gl.go (fun _ hr => zXS_iloadN X0.here hx rfl (hb hby d1_0) rfl (zXS_ifYes X0.here hx rfl (pc0 := 1) (pc' := 15) rfl (hb hby d1_1) rfl (XT.i0_ne_t (by decide)) (by decide) (by decide) (zXS_iloadN X0.here hx rfl (hb hby d1_15) rfl (zXS_iconst X0.here hx rfl (hb hby d1_16) (zXS_icmpNo X0.here hx rfl (hb hby d1_17) rfl (XT.ii_ne_f (by decide)) (zXS_iloadN X0.here hx rfl (hb hby d1_20) rfl hr)))))) ?_
    have zz994 : n0 ≤ h0.size := by omega
    refine gStaticN Gl.cl (y := y_49) (argsL := [(.int c0)]) (rest := []) (mc := 2) (ms := 6) X0 hx hZ hown (mvT hZ (tw hw 196 rfl)) (mvT hZ (tw hw 197 rfl)) (mvT hZ (tw hw 7 rfl)) (mvT hZ (tw hw 198 rfl)) (by decide) (backOf (W := 0) (vof l Z a0 hw [] c0 G1 h0 n0 zz994 q0 (by assumption) ⟨Oo, (by omega)⟩ q3 q4 q5) hZ (tw hw 198 rfl) (tw hw 7 rfl) (by decide) (by decide)) rfl (by rw [hml]; rfl) (lenOf pd_34 rfl) rfl (by exact Nat.le_of_eq rfl) (hb hby d1_21) rfl e0 (by decide) (by decide) ?_
    intro v994 T994 Lc994 hQ994 X994
    obtain ⟨r_994, t_994, kb_994, cd_994, N2_994, vs_994, rfl, Nq994, K994, f994_0, f994_1, f994_2, f994_3, f994_4, p994_cod⟩ := hQ994
    have z995 : h0.size ≤ T994.heap.size := K994.1
    have N994 := Fr.app N0 Nq994
    have lt996 := own_alt f994_0.lt
    have lt997 := own_alt f994_1.lt
    have lt998 := own_alt f994_2.lt
    have lt999 := own_alt f994_3.lt
    obtain ⟨fs, hr, hrun, hended, hE⟩ := X994.leaveW hS0 (by have q := congrArg Array.size (rfl : T994.heap = T994.heap); have q2 := hk0; omega) (v := some (.ref r_994)) (fun h => by rw [Bd.returns] at h; cases h)
    refine ⟨_, _, retOut X994 hx Bd.returns rfl (Or.inr (Or.inr (Or.inr (Or.inr ⟨rfl, rfl, rfl⟩)))) (hb hby d1_24) hr, hrun, hended, _, _, rfl, ?_, ⟨hE.1, hE.2.1, hE.2.2.1, hE.2.2.2.mono (by decide) (by decide)⟩⟩
    show Qmks Z ls c0 c1 G1 h0 n0 _ T994.heap T994.vm _
    have ph1000 := hphi_em.keep ((Keep.refl h0 []).trans K994 all0)
    exact ⟨r_994, t_994, kb_994, cd_994, N2_994, vs_994, rfl, N994, ((Keep.refl h0 []).trans K994 all0), f994_0, f994_1, f994_2, f994_3, (by omega), (by rw [hn1]; exact p994_cod), (ph1000.warm X994.warmed)⟩
  · refine Gl.cast (F' := (mkF m 0 #[sI 2, sI c0, sI c1, sU] [])) (by rw [hn1]; first | done | rfl) ?_
    show Gl p.tables e below _ (s₁.setTop (mkF m 0 #[sI 2, sI c0, sI c1, sU] []))
    refine Gl.go (fun _ hr => zXS_iloadN X0.here hx rfl (hb hby d1_0) rfl (zXS_ifYes X0.here hx rfl (pc0 := 1) (pc' := 15) rfl (hb hby d1_1) rfl (XT.i0_ne_t (by decide)) (by decide) (by decide) (zXS_iloadN X0.here hx rfl (hb hby d1_15) rfl (zXS_iconst X0.here hx rfl (hb hby d1_16) (zXS_icmpYes X0.here hx rfl (pc0 := 17) (pc' := 25) rfl (hb hby d1_17) rfl (XT.ii_ne_t (by decide)) (by decide) (by decide) (zXS_iconst X0.here hx rfl (hb hby d1_25) hr)))))) ?_
    refine gNewP Gl.cl X0 hx hZ (tw hw 8 rfl) e0 rfl (hb hby d1_26) rfl (by decide) (cap := 2) (by decide) (by decide) (by decide) (by decide) ?_
    intro T1001 h1001 b1001 k1001 g1001 X1001 e1001 E1001 A1001
    have z1002 : h0.size ≤ h1001.size := E1001.1
    have lt1001 := own_alt A1001.lt
    have V1001 : Arv Z h1001 b1001 k1001 .char (2 : Int32) [(.int (0 : Int32)), (.int (0 : Int32))] (.int (0 : Int32)) := (Arv.new A1001 (by decide)).pad (pad_rep [] (.int (0 : Int32)) 2)
    refine Gl.go (fun _ hr => zXS_astoreN X1001.here hx rfl (hb hby d1_28) rfl rfl (l' := #[sI 2, sI c0, sI c1, sR b1001]) rfl (zXS_aloadN X1001.here hx rfl (hb hby d1_29) rfl rfl (zXS_iconst X1001.here hx rfl (hb hby d1_30) (zXS_iloadN X1001.here hx rfl (hb hby d1_31) rfl hr)))) ?_
    obtain ⟨c1003, a1003, q1003, s1003, m1003, H1003, U1003⟩ := id V1001
    refine gstC Gl.cl X1001 hx hZ e1001 a1003 (j := (0 : Int32)) (inb_of s1003 ⟨(by decide), (by decide)⟩) rfl rfl (hb hby d1_32) ?_
    intro T1003 h1003 X1003 e1003 W1003
    have z1004 : h1001.size ≤ h1003.size := (Keep.of_wr W1003).1
    rw [(own_nar_wid hc0)] at W1003
    have V1003 : Arv Z h1003 b1001 k1001 .char (2 : Int32) [(.int c0), (.int (0 : Int32))] (.int (0 : Int32)) := Arv.set a1003 q1003 s1003 m1003 H1003 U1003 (own_fit_wid hc0) W1003 0 rfl (Nat.le_of_ble_eq_true rfl)
    have om1005 : @LE.le Nat instLENat n0 b1001 := by omega
    have N1003 := Fr.snoc X1003 N0 (own_ale om1005)
    refine Gl.go (fun _ hr => zXS_aloadN X1003.here hx rfl (hb hby d1_33) rfl rfl (zXS_iconst X1003.here hx rfl (hb hby d1_34) (zXS_iloadN X1003.here hx rfl (hb hby d1_35) rfl hr))) ?_
    obtain ⟨c1006, a1006, q1006, s1006, m1006, H1006, U1006⟩ := id V1003
    refine gstC Gl.cl X1003 hx hZ e1003 a1006 (j := (1 : Int32)) (inb_of s1006 ⟨(by decide), (by decide)⟩) rfl rfl (hb hby d1_36) ?_
    intro T1006 h1006 X1006 e1006 W1006
    have z1007 : h1003.size ≤ h1006.size := (Keep.of_wr W1006).1
    rw [(own_nar_wid hc1)] at W1006
    have V1006 : Arv Z h1006 b1001 k1001 .char (2 : Int32) [(.int c0), (.int c1)] (.int (0 : Int32)) := Arv.set a1006 q1006 s1006 m1006 H1006 U1006 (own_fit_wid hc1) W1006 1 rfl (Nat.le_of_ble_eq_true rfl)
    have N1006 := Fr.snoc X1006 N1003 (own_ale om1005)
    refine gNew Gl.cl X1006 hx hZ hown (tw hw 5 rfl) (tw hw 6 rfl) (tw hw 7 rfl) e1006 rfl (hb hby d1_37) (by decide) (by decide) ?_
    intro T1008 h1008 b1008 g1008 X1008 e1008 E1008 A1008 D1008
    have z1009 : h1006.size ≤ h1008.size := E1008.1
    have lt1008 := own_alt A1008.lt
    have F1008_value : Fld Z h1008 b1008 "java/lang/String" "value" "[B" .null := D1008 (Or.inr (tw hw 21 rfl)) (ty := (.array .byte)) (by decide)
    have F1008_coder : Fld Z h1008 b1008 "java/lang/String" "coder" "B" (.int (0 : Int32)) := D1008 (Or.inr (tw hw 22 rfl)) (ty := .byte) (by decide)
    refine Gl.go (fun _ hr => zXS_dup X1008.here hx rfl (hb hby d1_40) rfl rfl (zXS_aloadN X1008.here hx rfl (hb hby d1_41) rfl rfl hr)) ?_
    have hp1010 : ∀ c ∈ ([c0, c1] : List Int32), Wid c := (own_cS (P := Wid) hc0 (own_cS (P := Wid) hc1 own_c0))
    have om1011 : @LE.le Nat instLENat Z.heap.size b1001 := by omega
    have Oc1012 := ((((Oo.ext E1001).wr W1003 (own_ale om1011)).wr W1006 (own_ale om1011)).ext E1008)
    have Vc1013 := (V1006.ext E1008)
    have zz1010 : n0 ≤ h1008.size := by omega
    refine gSpecialN Gl.cl (y := y_9) (b := b1008) (argsL := [(.ref b1001)]) (rest := [(.ref b1008)]) (mc := 2) (ms := 6) X1008 hx hZ hown rfl (mvT hZ (tw hw 9 rfl)) (mvT hZ (tw hw 10 rfl)) (mvT hZ (tw hw 11 rfl)) (by decide) (backOf (W := 1) (invL l Z a0 hw [] b1008 b1001 k1001 ([c0, c1] : List Int32) G1 h1008 n0 zz1010 q0 (by assumption) ⟨Oc1012, (by omega)⟩ q3 q4 q5 (by omega) A1008 F1008_value F1008_coder Vc1013 hp1010 (Nat.le_of_ble_eq_true rfl) (Nat.le_of_ble_eq_true rfl)) hZ (tw hw 11 rfl) (tw hw 7 rfl) (by decide) (by decide)) rfl (by rw [hml]; rfl) (lenOf pd_33 rfl) rfl (by exact Nat.le_of_eq rfl) (hb hby d1_42) rfl e1008 (by decide) (by decide) ?_
    intro v1010 T1010 Lc1010 hQ1010 X1010
    obtain ⟨t_1010, kb_1010, cd_1010, N2_1010, vs_1010, rfl, Nq1010, K1010, f1010_0, f1010_1, f1010_2, f1010_3, f1010_4, p1010_cod⟩ := hQ1010
    have z1014 : h1008.size ≤ T1010.heap.size := K1010.1
    have N1010 := Fr.app N1006 Nq1010
    have lt1015 := own_alt f1010_0.lt
    have lt1016 := own_alt f1010_1.lt
    have lt1017 := own_alt f1010_2.lt
    have lt1018 := own_alt f1010_3.lt
    obtain ⟨fs, hr, hrun, hended, hE⟩ := X1010.leaveW hS0 (by have q := congrArg Array.size (rfl : T1010.heap = T1010.heap); have q2 := hk0; omega) (v := some (.ref b1008)) (fun h => by rw [Bd.returns] at h; cases h)
    have om1019 : @LE.le Nat instLENat h0.size b1001 := by omega
    have om1020 : @LE.le Nat instLENat h0.size b1008 := by omega
    refine ⟨_, _, retOut X1010 hx Bd.returns rfl (Or.inr (Or.inr (Or.inr (Or.inr ⟨rfl, rfl, rfl⟩)))) (hb hby d1_45) hr, hrun, hended, _, _, rfl, ?_, ⟨hE.1, hE.2.1, hE.2.2.1, hE.2.2.2.mono (by decide) (by decide)⟩⟩
    show Qmks Z ls c0 c1 G1 h0 n0 _ T1010.heap T1010.vm _
    have ph1021 := hphi_em.keep ((((((Keep.refl h0 []).ext E1001).wr W1003 (Or.inr (own_ale om1019))).wr W1006 (Or.inr (own_ale om1019))).ext E1008).trans K1010 (allS (P := fun x_ => x_ ∈ ([] : List Addr) ∨ h0.size ≤ x_) (Or.inr (own_ale om1020)) all0))
    exact ⟨b1008, t_1010, kb_1010, cd_1010, N2_1010, vs_1010, rfl, N1010, ((((((Keep.refl h0 []).ext E1001).wr W1003 (Or.inr (own_ale om1019))).wr W1006 (Or.inr (own_ale om1019))).ext E1008).trans K1010 (allS (P := fun x_ => x_ ∈ ([] : List Addr) ∨ h0.size ≤ x_) (Or.inr (own_ale om1020)) all0)), f1010_0, f1010_1, f1010_2, f1010_3, (by omega), (by rw [hn1]; exact p1010_cod), (ph1021.warm X1010.warmed)⟩
def Qrec (Z : State) (a : Addr) (h0 : Heap) (n0 : Nat) (v : Option Value) (h : Heap) (L : List Loc) : Prop := v = none ∧ Fr n0 L ∧ h = h0
theorem pn_8 : plainName "java/lang/Record" = true := by first | (simp [plainName, overriddenIn]; done) | decide +kernel
theorem ef_rec (m : MethodId) (x0 : Addr) : entryFrame m #[(.ref x0)] 1 = mkF m 0 #[sR x0] [] := by first | (simp [entryFrame, mkF, argsToLocals, Value.category]; done) | rfl
theorem d6_0 : decode jdk_30_method_1_code 0 = .ok (.aload_n 0, 1) := by decide +kernel
theorem d6_1 : decode jdk_30_method_1_code 1 = .ok (.invokespecial 1, 3) := by decide +kernel
theorem d6_4 : decode jdk_30_method_1_code 4 = .ok (.return_, 1) := by decide +kernel
set_option maxRecDepth 65536 in
set_option maxHeartbeats 40000000 in
theorem rec (l : Launch) (Z : State) (a0 : Array Value) (hw : ∀ d ∈ tables_1, d.before a0 Z = true) (ws : List Jvm.Cond) (a : Addr) (h0 : Heap) (n0 : Nat) (Z0 : n0 ≤ h0.size) :
    MetFree l y_51 (head1 (Jvm.Cond.code y_51 jdk_30_method_1_code 1 none :: ws) r_m35) (fun a_ U_ => a_ = #[(.ref a)] ∧ Z.Warmed39 U_.vm ∧ U_.heap = h0) (fun _ _ _ _ _ => True) (fun _ U_ o_ V_ => ∃ v_ L_, o_ = .returned v_ ∧ Qrec Z a h0 n0 v_ V_.heap L_ ∧ FrameEnd U_ o_ V_ L_ r_m35.cells r_m35.slots) := by
  refine MetFree.of_bodySF (plainFor_of_name pn_8) hisR ?_
  intro p e s m args below meth c s₁ Bd hml0 hP hK
  obtain ⟨rfl, hZ, hh⟩ := hP
  have hx := Bd.exec
  have hby := Bd.bytes
  have hml : c.maxLocals = 1 := hml0
  have hown : s.vm.findClass "java/lang/Record" = some m.cls := findClass_of_methodNamed Bd.named
  have hnm := (name_of_methodNamed Bd.named Bd.method).1
  have X0 : Stand p l e r_m35 s m #[(.ref a)] below meth c s₁ [] 0 0 := Stand.of_body Bd
  have e0 : s₁.heap = h0 := by rw [← hh, Bd.state]; rfl
  have N0 := Fr.nil n0
  refine Gl.go (A := s₁.setTop (entryFrame m #[(.ref a)] 1)) (P := fun o_ U_ => ∃ v_ L_, o_ = .returned v_ ∧ Qrec Z a h0 n0 v_ U_.heap L_ ∧ FrameEnd s o_ U_ L_ r_m35.cells r_m35.slots) (fun t_ k_ => castTop (ef_rec m a) k_) ?_
  show Gl p.tables e below _ (s₁.setTop (mkF m 0 #[sR a] []))
  refine Gl.go (fun _ hr => zXS_aloadN X0.here hx rfl (hb hby d6_0) rfl rfl hr) ?_
  refine gInit Gl.cl (W := 0) X0 hx hZ hown (tw hw 38 rfl) (tw hw 17 rfl) (tw hw 18 rfl) e0 rfl (by rw [hml]; rfl) rfl (hb hby d6_1) (by decide) (by exact Nat.le_of_eq rfl) (by decide) ?_
  intro T1022 X1022 e1022
  obtain ⟨fs, hr, hrun, hended, hW, hsame⟩ := X1022.leave (v := none) (fun _ => rfl)
  refine ⟨_, _, X1022.returnOut hx Bd.returns (hb hby d6_4) hr, hrun, hended, _, _, rfl, ?_, ⟨⟨_, rfl⟩, hW, hsame.mono (by decide) (by decide)⟩⟩
  show Qrec Z a h0 n0 _ T1022.heap _
  rw [e1022]
  exact ⟨rfl, N0, rfl⟩
def Qtni (Z : State) (a : Addr) (x : Addr) (y : Addr) (h0 : Heap) (n0 : Nat) (v : Option Value) (h : Heap) (L : List Loc) : Prop := v = none ∧ Fr n0 L ∧ Keep h0 h [a] ∧ (Exa Z h a "com/example/frist/frist/TableName") ∧ (Fld Z h a "com/example/frist/frist/TableName" "schema" "Ljava/lang/String;" (.ref x)) ∧ (Fld Z h a "com/example/frist/frist/TableName" "name" "Ljava/lang/String;" (.ref y))
theorem pn_9 : plainName "com/example/frist/frist/TableName" = true := by first | (simp [plainName, overriddenIn]; done) | decide +kernel
theorem ef_tni (m : MethodId) (x0 : Addr) (x1 : Addr) (x2 : Addr) : entryFrame m #[(.ref x0), (.ref x1), (.ref x2)] 3 = mkF m 0 #[sR x0, sR x1, sR x2] [] := by first | (simp [entryFrame, mkF, argsToLocals, Value.category]; done) | rfl
theorem d5_0 : decode prog_7_method_1_code 0 = .ok (.aload_n 0, 1) := by decide +kernel
theorem d5_1 : decode prog_7_method_1_code 1 = .ok (.invokespecial 1, 3) := by decide +kernel
theorem d5_4 : decode prog_7_method_1_code 4 = .ok (.aload_n 0, 1) := by decide +kernel
theorem d5_5 : decode prog_7_method_1_code 5 = .ok (.aload_n 1, 1) := by decide +kernel
theorem d5_6 : decode prog_7_method_1_code 6 = .ok (.putfield 7, 3) := by decide +kernel
theorem d5_9 : decode prog_7_method_1_code 9 = .ok (.aload_n 0, 1) := by decide +kernel
theorem d5_10 : decode prog_7_method_1_code 10 = .ok (.aload_n 2, 1) := by decide +kernel
theorem d5_11 : decode prog_7_method_1_code 11 = .ok (.putfield 13, 3) := by decide +kernel
theorem d5_14 : decode prog_7_method_1_code 14 = .ok (.return_, 1) := by decide +kernel
set_option maxRecDepth 65536 in
set_option maxHeartbeats 40000000 in
theorem tni (l : Launch) (Z : State) (a0 : Array Value) (hw : ∀ d ∈ tables_1, d.before a0 Z = true) (ws : List Jvm.Cond) (a : Addr) (x : Addr) (y : Addr) (h0 : Heap) (n0 : Nat) (Z0 : n0 ≤ h0.size) (q0 : @LE.le Nat instLENat n0 a) (q1 : Exa Z h0 a "com/example/frist/frist/TableName") (q2 : Fld Z h0 a "com/example/frist/frist/TableName" "schema" "Ljava/lang/String;" .null) (q3 : Fld Z h0 a "com/example/frist/frist/TableName" "name" "Ljava/lang/String;" .null) :
    MetFree l y_52 (head1 (Jvm.Cond.code y_52 prog_7_method_1_code 3 none :: ws) r_m7) (fun a_ U_ => a_ = #[(.ref a), (.ref x), (.ref y)] ∧ Z.Warmed39 U_.vm ∧ U_.heap = h0) (fun _ _ _ _ _ => True) (fun _ U_ o_ V_ => ∃ v_ L_, o_ = .returned v_ ∧ Qtni Z a x y h0 n0 v_ V_.heap L_ ∧ FrameEnd U_ o_ V_ L_ r_m7.cells r_m7.slots) := by
  refine MetFree.of_bodySF (plainFor_of_name pn_9) hisR ?_
  intro p e s m args below meth c s₁ Bd hml0 hP hK
  obtain ⟨rfl, hZ, hh⟩ := hP
  have hx := Bd.exec
  have hby := Bd.bytes
  have hml : c.maxLocals = 3 := hml0
  have hown : s.vm.findClass "com/example/frist/frist/TableName" = some m.cls := findClass_of_methodNamed Bd.named
  have hnm := (name_of_methodNamed Bd.named Bd.method).1
  have X0 : Stand p l e r_m7 s m #[(.ref a), (.ref x), (.ref y)] below meth c s₁ [] 0 0 := Stand.of_body Bd
  have e0 : s₁.heap = h0 := by rw [← hh, Bd.state]; rfl
  have N0 := Fr.nil n0
  have lt1023 := own_alt q1.lt
  have lt1024 := own_alt q2.lt
  have lt1025 := own_alt q3.lt
  refine Gl.go (A := s₁.setTop (entryFrame m #[(.ref a), (.ref x), (.ref y)] 3)) (P := fun o_ U_ => ∃ v_ L_, o_ = .returned v_ ∧ Qtni Z a x y h0 n0 v_ U_.heap L_ ∧ FrameEnd s o_ U_ L_ r_m7.cells r_m7.slots) (fun t_ k_ => castTop (ef_tni m a x y) k_) ?_
  show Gl p.tables e below _ (s₁.setTop (mkF m 0 #[sR a, sR x, sR y] []))
  refine Gl.go (fun _ hr => zXS_aloadN X0.here hx rfl (hb hby d5_0) rfl rfl hr) ?_
  have zz1026 : n0 ≤ h0.size := by omega
  refine gSpecialN Gl.cl (y := y_51) (b := a) (argsL := []) (rest := []) (mc := 0) (ms := 0) X0 hx hZ hown rfl (mvT hZ (tw hw 33 rfl)) (mvT hZ (tw hw 34 rfl)) (mvT hZ (tw hw 37 rfl)) (by decide) (backOf (W := 0) (rec l Z a0 hw [] a h0 n0 zz1026 ) hZ (tw hw 37 rfl) (tw hw 36 rfl) (by decide) (by decide)) rfl (by rw [hml]; rfl) (lenOf pd_15 rfl) rfl (by exact Nat.le_of_eq rfl) (hb hby d5_1) rfl e0 (by decide) (by decide) ?_
  intro v1026 T1026 Lc1026 hQ1026 X1026
  obtain ⟨rfl, Nq1026, e1026⟩ := hQ1026
  have N1026 := Fr.app N0 Nq1026
  refine Gl.go (fun _ hr => zXS_aloadN X1026.here hx rfl (hb hby d5_4) rfl rfl (zXS_aloadN X1026.here hx rfl (hb hby d5_5) rfl rfl hr)) ?_
  refine gPutF (host := "") Gl.cl X1026 hx hZ hown (Or.inl (tw hw 39 rfl)) Via.refl e1026 q2 q1 (Or.inr ⟨(tw hw 40 rfl), rfl, hnm⟩) (tw hw 28 rfl) (ty := (.object "java/lang/String")) (by decide) rfl rfl rfl rfl (hb hby d5_6) ?_
  intro T1027 h1027 X1027 e1027 W1027
  have z1028 : h0.size ≤ h1027.size := (Keep.of_wr W1027).1
  have Fw1027 := q2.same W1027
  have om1029 : @LE.le Nat instLENat n0 a := by omega
  have N1027 := Fr.snoc X1027 N1026 (own_ale om1029)
  refine Gl.go (fun _ hr => zXS_aloadN X1027.here hx rfl (hb hby d5_9) rfl rfl (zXS_aloadN X1027.here hx rfl (hb hby d5_10) rfl rfl hr)) ?_
  have Fc1030 := (q3.other W1027 (Or.inr (slot_ne (Or.inr (tw hw 42 rfl)) (Or.inr (tw hw 40 rfl)) (by decide) (t := (.object "java/lang/String")) (t' := (.object "java/lang/String")) (by decide) (by decide))))
  have Ec1031 := (q1.wr W1027)
  refine gPutF (host := "") Gl.cl X1027 hx hZ hown (Or.inl (tw hw 41 rfl)) Via.refl e1027 Fc1030 Ec1031 (Or.inr ⟨(tw hw 42 rfl), rfl, hnm⟩) (tw hw 28 rfl) (ty := (.object "java/lang/String")) (by decide) rfl rfl rfl rfl (hb hby d5_11) ?_
  intro T1032 h1032 X1032 e1032 W1032
  have z1033 : h1027.size ≤ h1032.size := (Keep.of_wr W1032).1
  have Fw1032 := Fc1030.same W1032
  have N1032 := Fr.snoc X1032 N1027 (own_ale om1029)
  have Ec1034 := (Ec1031.wr W1032)
  have Fc1035 := (Fw1027.other W1032 (Or.inr (slot_ne (Or.inr (tw hw 40 rfl)) (Or.inr (tw hw 42 rfl)) (by decide) (t := (.object "java/lang/String")) (t' := (.object "java/lang/String")) (by decide) (by decide))))
  obtain ⟨fs, hr, hrun, hended, hW, hsame⟩ := X1032.leave (v := none) (fun _ => rfl)
  refine ⟨_, _, X1032.returnOut hx Bd.returns (hb hby d5_14) hr, hrun, hended, _, _, rfl, ?_, ⟨⟨_, rfl⟩, hW, hsame.mono (by decide) (by decide)⟩⟩
  show Qtni Z a x y h0 n0 _ T1032.heap _
  rw [e1032]
  exact ⟨rfl, N1032, (((Keep.refl h0 [a]).wr W1027 (Or.inl (by simp))).wr W1032 (Or.inl (by simp))), Ec1034, Fc1035, Fw1032⟩
def Qqua (Z : State) (a : Addr) (x : Addr) (t : Addr) (kb : ClassId) (cd : Int32) (N : Int32) (vs : List Value) (hs : List Int32) (y : Addr) (u : Addr) (kd : ClassId) (ce : Int32) (M : Int32) (ws_ : List Value) (ns : List Int32) (G1 : Int32) (G3 : Value) (h0 : Heap) (n0 : Nat) (v : Option Value) (h : Heap) (vm : Vm) (L : List Loc) : Prop := ∃ (r : Addr), ∃ (tr : Addr), ∃ (kbr : ClassId), ∃ (cdr : Int32), ∃ (N2 : Int32), ∃ (vsr : List Value), v = some (.ref r) ∧ Fr n0 L ∧ Keep h0 h [] ∧ (Exa Z h r "java/lang/String") ∧ (Fld Z h r "java/lang/String" "value" "[B" (.ref tr)) ∧ (Fld Z h r "java/lang/String" "coder" "B" (.int cdr)) ∧ (Arv Z h tr kbr .byte N2 vsr (.int (0 : Int32))) ∧ (@LE.le Nat instLENat h0.size r) ∧ (StrChars.Road.CodA ((hs ++ [(46 : Int32)]) ++ ns) cdr N2 vsr)
theorem ef_qua (m : MethodId) (x0 : Addr) : entryFrame m #[(.ref x0)] 1 = mkF m 0 #[sR x0] [] := by first | (simp [entryFrame, mkF, argsToLocals, Value.category]; done) | rfl
theorem d7_0 : decode prog_7_method_3_code 0 = .ok (.new 30, 3) := by decide +kernel
theorem d7_3 : decode prog_7_method_3_code 3 = .ok (.dup, 1) := by decide +kernel
theorem d7_4 : decode prog_7_method_3_code 4 = .ok (.invokespecial 32, 3) := by decide +kernel
theorem d7_7 : decode prog_7_method_3_code 7 = .ok (.aload_n 0, 1) := by decide +kernel
theorem d7_8 : decode prog_7_method_3_code 8 = .ok (.getfield 7, 3) := by decide +kernel
theorem d7_11 : decode prog_7_method_3_code 11 = .ok (.invokevirtual 35, 3) := by decide +kernel
theorem pd_35 : parseMethodDescriptor "(Ljava/lang/String;)Ljava/lang/StringBuilder;" = some ⟨[(.object "java/lang/String")], some (.object "java/lang/StringBuilder")⟩ := by decide +kernel
theorem d7_14 : decode prog_7_method_3_code 14 = .ok (.ldc 53, 2) := by decide +kernel
theorem d7_16 : decode prog_7_method_3_code 16 = .ok (.invokevirtual 35, 3) := by decide +kernel
theorem d7_19 : decode prog_7_method_3_code 19 = .ok (.aload_n 0, 1) := by decide +kernel
theorem d7_20 : decode prog_7_method_3_code 20 = .ok (.getfield 13, 3) := by decide +kernel
theorem d7_23 : decode prog_7_method_3_code 23 = .ok (.invokevirtual 35, 3) := by decide +kernel
theorem d7_26 : decode prog_7_method_3_code 26 = .ok (.invokevirtual 41, 3) := by decide +kernel
theorem pd_36 : parseMethodDescriptor "()Ljava/lang/String;" = some ⟨[], some (.object "java/lang/String")⟩ := by decide +kernel
theorem d7_29 : decode prog_7_method_3_code 29 = .ok (.areturn, 1) := by decide +kernel
set_option maxRecDepth 65536 in
set_option maxHeartbeats 40000000 in
theorem qua (l : Launch) (Z : State) (a0 : Array Value) (hw : ∀ d ∈ tables_1, d.before a0 Z = true) (ws : List Jvm.Cond) (a : Addr) (x : Addr) (t : Addr) (kb : ClassId) (cd : Int32) (N : Int32) (vs : List Value) (hs : List Int32) (y : Addr) (u : Addr) (kd : ClassId) (ce : Int32) (M : Int32) (ws_ : List Value) (ns : List Int32) (G1 : Int32) (G3 : Value) (h0 : Heap) (n0 : Nat) (Z0 : n0 ≤ h0.size) (q0 : Sta Z Z.heap "java/lang/String" "COMPACT_STRINGS" "Z" (.int G1)) (P5 : ¬ (G1 = (0 : Int32))) (q2 : (Old Z Z.heap.size h0 ∧ @LE.le Nat instLENat Z.heap.size n0)) (q3 : Sta Z Z.heap "jdk/internal/util/Preconditions" "SIOOBE_FORMATTER" "Ljava/util/function/BiFunction;" G3) (rG3 : G3.isRef = true) (q5 : Sta Z Z.heap "java/lang/StringUTF16" "$assertionsDisabled" "Z" (.int (1 : Int32))) (q6 : Sta Z Z.heap "java/lang/StringUTF16" "HI_BYTE_SHIFT" "I" (.int (0 : Int32))) (q7 : Sta Z Z.heap "java/lang/StringUTF16" "LO_BYTE_SHIFT" "I" (.int (8 : Int32))) (hcw : Jvm.Lit.compactW.before a0 Z = true) (hc53 : Jvm.Lit.constHeld Z "com/example/frist/frist/TableName" 53) (q10 : Exa Z h0 a "com/example/frist/frist/TableName") (q11 : Fld Z h0 a "com/example/frist/frist/TableName" "schema" "Ljava/lang/String;" (.ref x)) (q12 : Fld Z h0 a "com/example/frist/frist/TableName" "name" "Ljava/lang/String;" (.ref y)) (q13 : Exa Z h0 x "java/lang/String") (q14 : Fld Z h0 x "java/lang/String" "value" "[B" (.ref t)) (q15 : Fld Z h0 x "java/lang/String" "coder" "B" (.int cd)) (q16 : Arv Z h0 t kb .byte N vs (.int (0 : Int32))) (cod_x : StrChars.Road.CodA hs cd N vs) (hb_x : ∀ c ∈ hs, Wid c) (hl_x : hs.length ≤ 2) (q20 : Exa Z h0 y "java/lang/String") (q21 : Fld Z h0 y "java/lang/String" "value" "[B" (.ref u)) (q22 : Fld Z h0 y "java/lang/String" "coder" "B" (.int ce)) (q23 : Arv Z h0 u kd .byte M ws_ (.int (0 : Int32))) (cod_y : StrChars.Road.CodA ns ce M ws_) (hb_y : ∀ c ∈ ns, Wid c) (hl_y : ns.length ≤ 2) :
    MetFree l y_53 (head1 (Jvm.Cond.code y_53 prog_7_method_3_code 1 (some (.object "java/lang/String")) :: ws) r_m40) (fun a_ U_ => a_ = #[(.ref a)] ∧ Z.Warmed39 U_.vm ∧ U_.heap = h0 ∧ IbJ Z U_.vm h0) (fun _ _ _ _ _ => True) (fun _ U_ o_ V_ => ∃ v_ L_, o_ = .returned v_ ∧ Qqua Z a x t kb cd N vs hs y u kd ce M ws_ ns G1 G3 h0 n0 v_ V_.heap V_.vm L_ ∧ ReturnedEndW U_ o_ V_ L_ r_m40.cells r_m40.slots) := by
  refine MetFree.of_bodySF (plainFor_of_name pn_9) hisR ?_
  intro p e s m args below meth c s₁ Bd hml0 hP hK
  obtain ⟨rfl, hZ, hh, hphi_ib⟩ := hP
  have hx := Bd.exec
  have hby := Bd.bytes
  have hml : c.maxLocals = 1 := hml0
  have hown : s.vm.findClass "com/example/frist/frist/TableName" = some m.cls := findClass_of_methodNamed Bd.named
  have hnm := (name_of_methodNamed Bd.named Bd.method).1
  have X0 : Stand p l e r_m40 (s.setVm s.vm) m #[(.ref a)] below meth c s₁ [] 0 0 := Stand.of_body Bd
  have e0 : s₁.heap = h0 := by rw [← hh, Bd.state]; rfl
  obtain ⟨n1, hn1⟩ : ∃ n, n = h0.size := ⟨_, rfl⟩
  have N0 := Fr.nil n1
  have hS0 : s.Since s.vm h0.size := (State.WarmedH.refl s).since _
  have hk0 : h0.size ≤ h0.size := Nat.le_refl _
  have Oo := q2.1
  have zo := q2.2
  have lt1036 := own_alt q10.lt
  have lt1037 := own_alt q11.lt
  have lt1038 := own_alt q12.lt
  have lt1039 := own_alt q13.lt
  have lt1040 := own_alt q14.lt
  have lt1041 := own_alt q15.lt
  have lt1042 := own_alt q16.lt
  have lt1043 := own_alt q20.lt
  have lt1044 := own_alt q21.lt
  have lt1045 := own_alt q22.lt
  have lt1046 := own_alt q23.lt
  have hstr : ∀ d ∈ Bundle.stringAtoms, d.before a0 Z = true := fun d hd => hw d (own_hstr d hd)
  refine Gl.go (A := s₁.setTop (entryFrame m #[(.ref a)] 1)) (P := fun o_ U_ => ∃ v_ L_, o_ = .returned v_ ∧ Qqua Z a x t kb cd N vs hs y u kd ce M ws_ ns G1 G3 h0 n0 v_ U_.heap U_.vm L_ ∧ ReturnedEndW s o_ U_ L_ r_m40.cells r_m40.slots) (fun t_ k_ => castTop (ef_qua m a) k_) ?_
  show Gl p.tables e below _ (s₁.setTop (mkF m 0 #[sR a] []))
  rcases id cod_x with ⟨e11, e21, e31, e41⟩ | ⟨e11, e21, e31, e41⟩
  · have Fk1 := q15
    rw [e11] at Fk1
    have Vk1 := q16
    rw [e21, e31, own_lom] at Vk1
    have hl1 : ∀ c ∈ hs, Lat c := own_latL hb_x e41
    show Gl p.tables e below _ (s₁.setTop (mkF m 0 #[sR a] []))
    refine gNew Gl.cl X0 hx hZ hown (tw hw 48 rfl) (tw hw 49 rfl) (tw hw 50 rfl) e0 rfl (hb hby d7_0) (by decide) (by decide) ?_
    intro T1047 h1047 b1047 g1047 X1047 e1047 E1047 A1047 D1047
    have z1048 : h0.size ≤ h1047.size := E1047.1
    have lt1047 := own_alt A1047.lt
    have F1047_value : Fld Z h1047 b1047 "java/lang/AbstractStringBuilder" "value" "[B" .null := D1047 (Or.inl (tw hw 63 rfl)) (ty := (.array .byte)) (by decide)
    have F1047_coder : Fld Z h1047 b1047 "java/lang/AbstractStringBuilder" "coder" "B" (.int (0 : Int32)) := D1047 (Or.inl (tw hw 65 rfl)) (ty := .byte) (by decide)
    have F1047_count : Fld Z h1047 b1047 "java/lang/AbstractStringBuilder" "count" "I" (.int (0 : Int32)) := D1047 (Or.inl (tw hw 88 rfl)) (ty := .int) (by decide)
    have F1047_maybeLatin1 : Fld Z h1047 b1047 "java/lang/AbstractStringBuilder" "maybeLatin1" "Z" (.int (0 : Int32)) := D1047 (Or.inl (tw hw 247 rfl)) (ty := .boolean) (by decide)
    refine Gl.go (fun _ hr => zXS_dup X1047.here hx rfl (hb hby d7_3) rfl rfl hr) ?_
    have Oc1050 := (Oo.ext E1047)
    have zz1049 : n1 ≤ h1047.size := by omega
    refine gSpecialN Gl.cl (y := y_37) (b := b1047) (argsL := []) (rest := [(.ref b1047)]) (mc := 1) (ms := 16) X1047 hx hZ hown rfl (mvT hZ (tw hw 51 rfl)) (mvT hZ (tw hw 52 rfl)) (mvT hZ (tw hw 53 rfl)) (by decide) (backOf (W := 1) (sbi l Z a0 hw [] b1047 G1 h1047 n1 zz1049 q0 (by assumption) ⟨Oc1050, (by omega)⟩ (by omega) A1047 F1047_value F1047_coder F1047_count F1047_maybeLatin1) hZ (tw hw 53 rfl) (tw hw 50 rfl) (by decide) (by decide)) rfl (by rw [hml]; rfl) (lenOf pd_15 rfl) rfl (by exact Nat.le_of_eq rfl) (hb hby d7_4) rfl e1047 (by decide) (by decide) ?_
    intro v1049 T1049 Lc1049 hQ1049 X1049
    obtain ⟨a_1049, ka_1049, rfl, Nq1049, K1049, f1049_0, f1049_1, f1049_2, f1049_3, f1049_4, f1049_5, f1049_6⟩ := hQ1049
    have z1051 : h1047.size ≤ T1049.heap.size := K1049.1
    have N1049 := Fr.app N0 Nq1049
    have lt1052 := own_alt f1049_1.lt
    have lt1053 := own_alt f1049_2.lt
    have lt1054 := own_alt f1049_3.lt
    have lt1055 := own_alt f1049_4.lt
    have lt1056 := own_alt f1049_5.lt
    have lt1057 := own_alt f1049_6.lt
    refine Gl.go (fun _ hr => zXS_aloadN X1049.here hx rfl (hb hby d7_7) rfl rfl hr) ?_
    have om1058 : ¬ @Eq Nat a b1047 := by omega
    have Fc1059 := ((q11.ext E1047).keep K1049 (ninS (own_ane om1058) nin0))
    refine gGetF (host := "") Gl.cl X1049 hx hZ hown (Or.inl (tw hw 39 rfl)) Via.refl (rfl : T1049.heap = T1049.heap) Fc1059 rfl rfl (hb hby d7_8) ?_
    intro T1060 X1060 e1060
    have om1062 : @LE.le Nat instLENat Z.heap.size b1047 := by omega
    have Oc1063 := (Oc1050.keep K1049 (allS (own_ale om1062) all0))
    have Ec1064 := ((q13.ext E1047).keep K1049)
    have om1065 : ¬ @Eq Nat x b1047 := by omega
    have Fc1066 := ((q14.ext E1047).keep K1049 (ninS (own_ane om1065) nin0))
    have Fc1067 := ((Fk1.ext E1047).keep K1049 (ninS (own_ane om1065) nin0))
    have om1068 : ¬ @Eq Nat t b1047 := by omega
    have Vc1069 := ((Vk1.ext E1047).keep K1049 (ninS (own_ane om1068) nin0))
    have zz1061 : n1 ≤ T1049.heap.size := by omega
    refine gVirtualN Gl.cl (y := y_25) (z := y_25) (b := b1047) (argsL := [(.ref x)]) (rest := []) (mc := 0) (ms := 0) X1060 hx hZ hown (mvT hZ (tw hw 66 rfl)) (mvT hZ (tw hw 67 rfl)) (notFace_of_selects (args := #[]) (mvT hZ (tw hw 69 rfl))) (mvT hZ (tw hw 69 rfl)) (mvT hZ (tw hw 68 rfl)) (by decide) f1049_1 (backOf (W := 0) (sbs00 l Z a0 hw [] b1047 a_1049 ka_1049 16 ([] : List Int32) x t kb hs G1 G3 T1049.heap n1 zz1061 q0 (by assumption) ⟨Oc1063, (by omega)⟩ q3 (by assumption) q5 q6 q7 f1049_1 f1049_2 f1049_3 f1049_4 f1049_5 f1049_6 (by omega) (by omega) (by omega) (by decide) Ec1064 Fc1066 Fc1067 Vc1069 (by omega) (by omega) (by omega) (by omega) (by simp only [List.length_append, List.length_cons, List.length_nil]; omega) hl1) hZ (tw hw 70 rfl) (tw hw 50 rfl) (by decide) (by decide)) rfl (by rw [hml]; rfl) (lenOf pd_35 rfl) rfl (by exact Nat.le_of_eq rfl) (hb hby d7_11) rfl e1060 (by decide) (by decide) ?_
    intro v1061 T1061 Lc1061 hQ1061 X1061
    obtain ⟨rfl, Nq1061, K1061, f1061_0, f1061_1, f1061_2, f1061_3, f1061_4, f1061_5⟩ := hQ1061
    have z1070 : T1049.heap.size ≤ T1061.heap.size := K1061.1
    have N1061 := Fr.app N1049 Nq1061
    have lt1071 := own_alt f1061_0.lt
    have lt1072 := own_alt f1061_1.lt
    have lt1073 := own_alt f1061_2.lt
    have lt1074 := own_alt f1061_3.lt
    have lt1075 := own_alt f1061_4.lt
    have lt1076 := own_alt f1061_5.lt
    have om1079 : @LE.le Nat instLENat h0.size b1047 := by omega
    have om1080 : @LE.le Nat instLENat h0.size a_1049 := by omega
    have ph1078 := hphi_ib.keep ((((Keep.refl h0 []).ext E1047).trans K1049 (allS (P := fun x_ => x_ ∈ ([] : List Addr) ∨ h0.size ≤ x_) (Or.inr (own_ale om1079)) all0)).trans K1061 (allS (P := fun x_ => x_ ∈ ([] : List Addr) ∨ h0.size ≤ x_) (Or.inr (own_ale om1079)) (allS (P := fun x_ => x_ ∈ ([] : List Addr) ∨ h0.size ≤ x_) (Or.inr (own_ale om1080)) all0)))
    obtain ⟨a1077, T1077, h1077, k1077, t1077, kb1077, X1077, e1077, E1077, hS1077, hk1077, hZ1077, hown1077, lE1077, lC1077, lV1077, lA1077, -, -, -, st1077⟩ := ldcSV X1061 hx hZ hown (tw hw 114 rfl) hstr (rfl : T1061.heap = T1061.heap) hS0 (by have q := hk0; omega) (by have q := N1061; rw [hn1, ← hh] at q; exact q) (fun b cl q => hh ▸ Oo.2.2 _ _ q) ph1078 (by decide) hc53 hcw (vs := ((([(46 : Int32)] : List Int32).map (fun c => c.toInt8.toInt32)).map Value.int)) (z := (1 : Int32)) ⟨by decide +kernel, by decide +kernel⟩ (by decide) rfl (g := (mkF m 14 #[sR a] [(.ref b1047)])) rfl (hb hby d7_14) (n := 4) (by decide +kernel) (by decide) (by decide) (by decide)
    have z1081 : T1061.heap.size ≤ h1077.size := E1077.1
    have lt1082 := own_alt lE1077.lt
    have lt1083 := own_alt lC1077.lt
    have lt1084 := own_alt lV1077.lt
    have lt1085 := own_alt lA1077.lt
    have hp1086 : ∀ c ∈ ([(46 : Int32)] : List Int32), Lat c := by decide
    have hcd1086 : StrChars.Road.CodA ([(46 : Int32)] : List Int32) 0 (1 : Int32) ((([(46 : Int32)] : List Int32).map (fun c => c.toInt8.toInt32)).map Value.int) := StrChars.Road.codOf (n := 1) rfl (fun c hc => (hp1086 c hc).2)
    have hbd1086 : ∀ c ∈ ([(46 : Int32)] : List Int32), Wid c := own_up hp1086
    refine Gl.go st1077 ?_
    show Gl p.tables e below _ (T1077.setTop (mkF m 16 #[sR a] [(.ref a1077), (.ref b1047)]))
    have Ec1087 := (f1061_0.ext E1077)
    have Vc1088 := (f1061_5.ext E1077)
    have ne1089 := own_anq (Exa.ne Ec1087 lE1077 (by decide))
    have ne1090 := own_anq (Exa.neArv Ec1087 lA1077 (tw hw 49 rfl))
    have ne1091 := own_anq (Exa.neArv lE1077 Vc1088 (tw hw 6 rfl))
    have ne1092 := own_arvne Vc1088 lA1077 (by decide)
    have om1094 : @LE.le Nat instLENat Z.heap.size a_1049 := by omega
    have Oc1095 := ((Oc1063.keep K1061 (allS (own_ale om1062) (allS (own_ale om1094) all0))).ext E1077)
    have Fc1096 := (f1061_1.ext E1077)
    have Fc1097 := (f1061_2.ext E1077)
    have Fc1098 := (f1061_3.ext E1077)
    have Fc1099 := (f1061_4.ext E1077)
    have zz1093 : n1 ≤ h1077.size := by omega
    refine gVirtualN Gl.cl (y := y_25) (z := y_25) (b := b1047) (argsL := [(.ref a1077)]) (rest := []) (mc := 0) (ms := 0) X1077 hx hZ1077 hown1077 (mvT hZ1077 (tw hw 66 rfl)) (mvT hZ1077 (tw hw 67 rfl)) (notFace_of_selects (args := #[]) (mvT hZ1077 (tw hw 69 rfl))) (mvT hZ1077 (tw hw 69 rfl)) (mvT hZ1077 (tw hw 68 rfl)) (by decide) Ec1087 (backOf (W := 0) (sbs00 l Z a0 hw [] b1047 a_1049 ka_1049 16 (([] : List Int32) ++ hs) a1077 t1077 kb1077 ([(46 : Int32)] : List Int32) G1 G3 h1077 n1 zz1093 q0 (by assumption) ⟨Oc1095, (by omega)⟩ q3 (by assumption) q5 q6 q7 Ec1087 Fc1096 Fc1097 Fc1098 Fc1099 Vc1088 (by omega) (by omega) (by omega) (by decide) lE1077 lV1077 lC1077 lA1077 (by omega) (by omega) (by omega) (by omega) (by simp only [List.length_append, List.length_cons, List.length_nil]; omega) (by decide)) hZ1077 (tw hw 70 rfl) (tw hw 50 rfl) (by decide) (by decide)) rfl (by rw [hml]; rfl) (lenOf pd_35 rfl) rfl (by exact Nat.le_of_eq rfl) (hb hby d7_16) rfl e1077 (by decide) (by decide) ?_
    intro v1093 T1093 Lc1093 hQ1093 X1093
    obtain ⟨rfl, Nq1093, K1093, f1093_0, f1093_1, f1093_2, f1093_3, f1093_4, f1093_5⟩ := hQ1093
    have z1100 : h1077.size ≤ T1093.heap.size := K1093.1
    have N1093 := Fr.app N1061 Nq1093
    have lt1101 := own_alt f1093_0.lt
    have lt1102 := own_alt f1093_1.lt
    have lt1103 := own_alt f1093_2.lt
    have lt1104 := own_alt f1093_3.lt
    have lt1105 := own_alt f1093_4.lt
    have lt1106 := own_alt f1093_5.lt
    show Gl p.tables e below _ (T1093.setTop (mkF m 19 #[sR a] [(.ref b1047)]))
    rcases id cod_y with ⟨e12, e22, e32, e42⟩ | ⟨e12, e22, e32, e42⟩
    · have om1107 : ¬ @Eq Nat y b1047 := by omega
      have om1108 : ¬ @Eq Nat y a_1049 := by omega
      have Fc1109 := (((((q22.ext E1047).keep K1049 (ninS (own_ane om1107) nin0)).keep K1061 (ninS (own_ane om1107) (ninS (own_ane om1108) nin0))).ext E1077).keep K1093 (ninS (own_ane om1107) (ninS (own_ane om1108) nin0)))
      have om1110 : ¬ @Eq Nat u b1047 := by omega
      have om1111 : ¬ @Eq Nat u a_1049 := by omega
      have Vc1112 := (((((q23.ext E1047).keep K1049 (ninS (own_ane om1110) nin0)).keep K1061 (ninS (own_ane om1110) (ninS (own_ane om1111) nin0))).ext E1077).keep K1093 (ninS (own_ane om1110) (ninS (own_ane om1111) nin0)))
      have Fk2 := Fc1109
      rw [e12] at Fk2
      have Vk2 := Vc1112
      rw [e22, e32, own_lom] at Vk2
      have hl2 : ∀ c ∈ ns, Lat c := own_latL hb_y e42
      show Gl p.tables e below _ (T1093.setTop (mkF m 19 #[sR a] [(.ref b1047)]))
      refine Gl.go (fun _ hr => zXS_aloadN X1093.here hx rfl (hb hby d7_19) rfl rfl hr) ?_
      have om1113 : ¬ @Eq Nat a a_1049 := by omega
      have Fc1114 := (((((q12.ext E1047).keep K1049 (ninS (own_ane om1058) nin0)).keep K1061 (ninS (own_ane om1058) (ninS (own_ane om1113) nin0))).ext E1077).keep K1093 (ninS (own_ane om1058) (ninS (own_ane om1113) nin0)))
      refine gGetF (host := "") Gl.cl X1093 hx hZ1077 hown1077 (Or.inl (tw hw 41 rfl)) Via.refl (rfl : T1093.heap = T1093.heap) Fc1114 rfl rfl (hb hby d7_20) ?_
      intro T1115 X1115 e1115
      have Oc1117 := (Oc1095.keep K1093 (allS (own_ale om1062) (allS (own_ale om1094) all0)))
      have Ec1118 := (((((q20.ext E1047).keep K1049).keep K1061).ext E1077).keep K1093)
      have Fc1119 := (((((q21.ext E1047).keep K1049 (ninS (own_ane om1107) nin0)).keep K1061 (ninS (own_ane om1107) (ninS (own_ane om1108) nin0))).ext E1077).keep K1093 (ninS (own_ane om1107) (ninS (own_ane om1108) nin0)))
      have zz1116 : n1 ≤ T1093.heap.size := by omega
      refine gVirtualN Gl.cl (y := y_25) (z := y_25) (b := b1047) (argsL := [(.ref y)]) (rest := []) (mc := 0) (ms := 0) X1115 hx hZ1077 hown1077 (mvT hZ1077 (tw hw 66 rfl)) (mvT hZ1077 (tw hw 67 rfl)) (notFace_of_selects (args := #[]) (mvT hZ1077 (tw hw 69 rfl))) (mvT hZ1077 (tw hw 69 rfl)) (mvT hZ1077 (tw hw 68 rfl)) (by decide) f1093_0 (backOf (W := 0) (sbs00 l Z a0 hw [] b1047 a_1049 ka_1049 16 ((([] : List Int32) ++ hs) ++ ([(46 : Int32)] : List Int32)) y u kd ns G1 G3 T1093.heap n1 zz1116 q0 (by assumption) ⟨Oc1117, (by omega)⟩ q3 (by assumption) q5 q6 q7 f1093_0 f1093_1 f1093_2 f1093_3 f1093_4 f1093_5 (by omega) (by omega) (by omega) (by decide) Ec1118 Fc1119 Fk2 Vk2 (by omega) (by omega) (by omega) (by omega) (by simp only [List.length_append, List.length_cons, List.length_nil]; omega) hl2) hZ1077 (tw hw 70 rfl) (tw hw 50 rfl) (by decide) (by decide)) rfl (by rw [hml]; rfl) (lenOf pd_35 rfl) rfl (by exact Nat.le_of_eq rfl) (hb hby d7_23) rfl e1115 (by decide) (by decide) ?_
      intro v1116 T1116 Lc1116 hQ1116 X1116
      obtain ⟨rfl, Nq1116, K1116, f1116_0, f1116_1, f1116_2, f1116_3, f1116_4, f1116_5⟩ := hQ1116
      have z1120 : T1093.heap.size ≤ T1116.heap.size := K1116.1
      have N1116 := Fr.app N1093 Nq1116
      have lt1121 := own_alt f1116_0.lt
      have lt1122 := own_alt f1116_1.lt
      have lt1123 := own_alt f1116_2.lt
      have lt1124 := own_alt f1116_3.lt
      have lt1125 := own_alt f1116_4.lt
      have lt1126 := own_alt f1116_5.lt
      have Oc1128 := (Oc1117.keep K1116 (allS (own_ale om1062) (allS (own_ale om1094) all0)))
      have zz1127 : n1 ≤ T1116.heap.size := by omega
      refine gVirtualN Gl.cl (y := y_35) (z := y_35) (b := b1047) (argsL := []) (rest := []) (mc := 2) (ms := 40) X1116 hx hZ1077 hown1077 (mvT hZ1077 (tw hw 115 rfl)) (mvT hZ1077 (tw hw 116 rfl)) (notFace_of_selects (args := #[]) (mvT hZ1077 (tw hw 118 rfl))) (mvT hZ1077 (tw hw 118 rfl)) (mvT hZ1077 (tw hw 117 rfl)) (by decide) f1116_0 (backOf (W := 0) (ts0 l Z a0 hw [] b1047 a_1049 ka_1049 16 (((([] : List Int32) ++ hs) ++ ([(46 : Int32)] : List Int32)) ++ ns) G1 T1116.heap n1 zz1127 q0 (by assumption) ⟨Oc1128, (by omega)⟩ f1116_0 f1116_1 f1116_2 f1116_3 f1116_4 f1116_5 (by decide) (by simp only [List.length_append, List.length_cons, List.length_nil]; omega)) hZ1077 (tw hw 119 rfl) (tw hw 50 rfl) (by decide) (by decide)) rfl (by rw [hml]; rfl) (lenOf pd_36 rfl) rfl (by exact Nat.le_of_eq rfl) (hb hby d7_26) rfl (rfl : T1116.heap = T1116.heap) (by decide) (by decide) ?_
      intro v1127 T1127 Lc1127 hQ1127 X1127
      obtain ⟨r_1127, t_1127, kr_1127, rfl, Nq1127, K1127, f1127_0, f1127_1, f1127_2, f1127_3, f1127_4⟩ := hQ1127
      have z1129 : T1116.heap.size ≤ T1127.heap.size := K1127.1
      have N1127 := Fr.app N1116 Nq1127
      have lt1130 := own_alt f1127_0.lt
      have lt1131 := own_alt f1127_1.lt
      have lt1132 := own_alt f1127_2.lt
      have lt1133 := own_alt f1127_3.lt
      obtain ⟨fs, hr, hrun, hended, hE⟩ := X1127.leaveW hS1077 (by have q := congrArg Array.size (rfl : T1127.heap = T1127.heap); have q2 := hk1077; omega) (v := some (.ref r_1127)) (fun h => by rw [Bd.returns] at h; cases h)
      refine ⟨_, _, retOut X1127 hx Bd.returns rfl (Or.inr (Or.inr (Or.inr (Or.inr ⟨rfl, rfl, rfl⟩)))) (hb hby d7_29) hr, hrun, hended, _, _, rfl, ?_, ⟨hE.1, hE.2.1, hE.2.2.1, hE.2.2.2.mono (by decide) (by decide)⟩⟩
      show Qqua Z a x t kb cd N vs hs y u kd ce M ws_ ns G1 G3 h0 n0 _ T1127.heap T1127.vm _
      exact ⟨r_1127, t_1127, kr_1127, 0, (Int32.ofNat (((([] : List Int32) ++ hs) ++ ([(46 : Int32)] : List Int32)) ++ ns).length), (lb (((([] : List Int32) ++ hs) ++ ([(46 : Int32)] : List Int32)) ++ ns)), rfl, (fun y hy => Nat.le_trans (by omega : n0 ≤ n1) (N1127 y hy)), ((((((((Keep.refl h0 []).ext E1047).trans K1049 (allS (P := fun x_ => x_ ∈ ([] : List Addr) ∨ h0.size ≤ x_) (Or.inr (own_ale om1079)) all0)).trans K1061 (allS (P := fun x_ => x_ ∈ ([] : List Addr) ∨ h0.size ≤ x_) (Or.inr (own_ale om1079)) (allS (P := fun x_ => x_ ∈ ([] : List Addr) ∨ h0.size ≤ x_) (Or.inr (own_ale om1080)) all0))).ext E1077).trans K1093 (allS (P := fun x_ => x_ ∈ ([] : List Addr) ∨ h0.size ≤ x_) (Or.inr (own_ale om1079)) (allS (P := fun x_ => x_ ∈ ([] : List Addr) ∨ h0.size ≤ x_) (Or.inr (own_ale om1080)) all0))).trans K1116 (allS (P := fun x_ => x_ ∈ ([] : List Addr) ∨ h0.size ≤ x_) (Or.inr (own_ale om1079)) (allS (P := fun x_ => x_ ∈ ([] : List Addr) ∨ h0.size ≤ x_) (Or.inr (own_ale om1080)) all0))).trans K1127 all0), f1127_0, f1127_1, f1127_2, f1127_3, (by omega), (Or.inl ⟨rfl, rfl, (own_lom _).symm, fun c hc => ((own_codC (own_codC (own_codC own_c0 hl1) (by decide)) hl2) c hc).2⟩)⟩
    · have om1134 : ¬ @Eq Nat y b1047 := by omega
      have om1135 : ¬ @Eq Nat y a_1049 := by omega
      have Fc1136 := (((((q22.ext E1047).keep K1049 (ninS (own_ane om1134) nin0)).keep K1061 (ninS (own_ane om1134) (ninS (own_ane om1135) nin0))).ext E1077).keep K1093 (ninS (own_ane om1134) (ninS (own_ane om1135) nin0)))
      have om1137 : ¬ @Eq Nat u b1047 := by omega
      have om1138 : ¬ @Eq Nat u a_1049 := by omega
      have Vc1139 := (((((q23.ext E1047).keep K1049 (ninS (own_ane om1137) nin0)).keep K1061 (ninS (own_ane om1137) (ninS (own_ane om1138) nin0))).ext E1077).keep K1093 (ninS (own_ane om1137) (ninS (own_ane om1138) nin0)))
      have Fk2 := Fc1136
      rw [e12] at Fk2
      have Vk2 := Vc1139
      rw [e22, e32] at Vk2
      show Gl p.tables e below _ (T1093.setTop (mkF m 19 #[sR a] [(.ref b1047)]))
      refine Gl.go (fun _ hr => zXS_aloadN X1093.here hx rfl (hb hby d7_19) rfl rfl hr) ?_
      have om1140 : ¬ @Eq Nat a a_1049 := by omega
      have Fc1141 := (((((q12.ext E1047).keep K1049 (ninS (own_ane om1058) nin0)).keep K1061 (ninS (own_ane om1058) (ninS (own_ane om1140) nin0))).ext E1077).keep K1093 (ninS (own_ane om1058) (ninS (own_ane om1140) nin0)))
      refine gGetF (host := "") Gl.cl X1093 hx hZ1077 hown1077 (Or.inl (tw hw 41 rfl)) Via.refl (rfl : T1093.heap = T1093.heap) Fc1141 rfl rfl (hb hby d7_20) ?_
      intro T1142 X1142 e1142
      have Oc1144 := (Oc1095.keep K1093 (allS (own_ale om1062) (allS (own_ale om1094) all0)))
      have Ec1145 := (((((q20.ext E1047).keep K1049).keep K1061).ext E1077).keep K1093)
      have Fc1146 := (((((q21.ext E1047).keep K1049 (ninS (own_ane om1134) nin0)).keep K1061 (ninS (own_ane om1134) (ninS (own_ane om1135) nin0))).ext E1077).keep K1093 (ninS (own_ane om1134) (ninS (own_ane om1135) nin0)))
      have zz1143 : n1 ≤ T1093.heap.size := by omega
      refine gVirtualN Gl.cl (y := y_25) (z := y_25) (b := b1047) (argsL := [(.ref y)]) (rest := []) (mc := 1) (ms := 36) X1142 hx hZ1077 hown1077 (mvT hZ1077 (tw hw 66 rfl)) (mvT hZ1077 (tw hw 67 rfl)) (notFace_of_selects (args := #[]) (mvT hZ1077 (tw hw 69 rfl))) (mvT hZ1077 (tw hw 69 rfl)) (mvT hZ1077 (tw hw 68 rfl)) (by decide) f1093_0 (backOf (W := 0) (sbs01 l Z a0 hw [] b1047 a_1049 ka_1049 16 ((([] : List Int32) ++ hs) ++ ([(46 : Int32)] : List Int32)) y u kd ns G1 G3 T1093.heap n1 zz1143 q0 (by assumption) ⟨Oc1144, (by omega)⟩ q3 (by assumption) q5 q6 q7 f1093_0 f1093_1 f1093_2 f1093_3 f1093_4 f1093_5 (by omega) (by omega) (by omega) (by decide) Ec1145 Fc1146 Fk2 Vk2 (by omega) (by omega) (by omega) (by omega) (by simp only [List.length_append, List.length_cons, List.length_nil]; omega) (own_codC (own_codC own_c0 hl1) (by decide))) hZ1077 (tw hw 70 rfl) (tw hw 50 rfl) (by decide) (by decide)) rfl (by rw [hml]; rfl) (lenOf pd_35 rfl) rfl (by exact Nat.le_of_eq rfl) (hb hby d7_23) rfl e1142 (by decide) (by decide) ?_
      intro v1143 T1143 Lc1143 hQ1143 X1143
      obtain ⟨a2_1143, k2_1143, rfl, Nq1143, K1143, f1143_0, f1143_1, f1143_2, f1143_3, f1143_4, f1143_5, f1143_6⟩ := hQ1143
      have z1147 : T1093.heap.size ≤ T1143.heap.size := K1143.1
      have N1143 := Fr.app N1093 Nq1143
      have lt1148 := own_alt f1143_0.lt
      have lt1149 := own_alt f1143_1.lt
      have lt1150 := own_alt f1143_2.lt
      have lt1151 := own_alt f1143_3.lt
      have lt1152 := own_alt f1143_4.lt
      have lt1153 := own_alt f1143_5.lt
      have Oc1155 := (Oc1144.keep K1143 (allS (own_ale om1062) all0))
      have zz1154 : n1 ≤ T1143.heap.size := by omega
      refine gVirtualN Gl.cl (y := y_35) (z := y_35) (b := b1047) (argsL := []) (rest := []) (mc := 2) (ms := 40) X1143 hx hZ1077 hown1077 (mvT hZ1077 (tw hw 115 rfl)) (mvT hZ1077 (tw hw 116 rfl)) (notFace_of_selects (args := #[]) (mvT hZ1077 (tw hw 118 rfl))) (mvT hZ1077 (tw hw 118 rfl)) (mvT hZ1077 (tw hw 117 rfl)) (by decide) f1143_0 (backOf (W := 0) (ts1 l Z a0 hw [] b1047 a2_1143 k2_1143 16 (((([] : List Int32) ++ hs) ++ ([(46 : Int32)] : List Int32)) ++ ns) G1 T1143.heap n1 zz1154 q0 (by assumption) ⟨Oc1155, (by omega)⟩ f1143_0 f1143_1 f1143_2 f1143_3 f1143_4 f1143_5 (by decide) (by simp only [List.length_append, List.length_cons, List.length_nil]; omega)) hZ1077 (tw hw 119 rfl) (tw hw 50 rfl) (by decide) (by decide)) rfl (by rw [hml]; rfl) (lenOf pd_36 rfl) rfl (by exact Nat.le_of_eq rfl) (hb hby d7_26) rfl (rfl : T1143.heap = T1143.heap) (by decide) (by decide) ?_
      intro v1154 T1154 Lc1154 hQ1154 X1154
      obtain ⟨r_1154, t_1154, kr_1154, rfl, Nq1154, K1154, f1154_0, f1154_1, f1154_2, f1154_3, f1154_4⟩ := hQ1154
      have z1156 : T1143.heap.size ≤ T1154.heap.size := K1154.1
      have N1154 := Fr.app N1143 Nq1154
      have lt1157 := own_alt f1154_0.lt
      have lt1158 := own_alt f1154_1.lt
      have lt1159 := own_alt f1154_2.lt
      have lt1160 := own_alt f1154_3.lt
      obtain ⟨fs, hr, hrun, hended, hE⟩ := X1154.leaveW hS1077 (by have q := congrArg Array.size (rfl : T1154.heap = T1154.heap); have q2 := hk1077; omega) (v := some (.ref r_1154)) (fun h => by rw [Bd.returns] at h; cases h)
      refine ⟨_, _, retOut X1154 hx Bd.returns rfl (Or.inr (Or.inr (Or.inr (Or.inr ⟨rfl, rfl, rfl⟩)))) (hb hby d7_29) hr, hrun, hended, _, _, rfl, ?_, ⟨hE.1, hE.2.1, hE.2.2.1, hE.2.2.2.mono (by decide) (by decide)⟩⟩
      show Qqua Z a x t kb cd N vs hs y u kd ce M ws_ ns G1 G3 h0 n0 _ T1154.heap T1154.vm _
      exact ⟨r_1154, t_1154, kr_1154, 1, (Int32.ofNat (2 * (((([] : List Int32) ++ hs) ++ ([(46 : Int32)] : List Int32)) ++ ns).length)), (StrChars.Road.wideBytes (((([] : List Int32) ++ hs) ++ ([(46 : Int32)] : List Int32)) ++ ns)), rfl, (fun y hy => Nat.le_trans (by omega : n0 ≤ n1) (N1154 y hy)), ((((((((Keep.refl h0 []).ext E1047).trans K1049 (allS (P := fun x_ => x_ ∈ ([] : List Addr) ∨ h0.size ≤ x_) (Or.inr (own_ale om1079)) all0)).trans K1061 (allS (P := fun x_ => x_ ∈ ([] : List Addr) ∨ h0.size ≤ x_) (Or.inr (own_ale om1079)) (allS (P := fun x_ => x_ ∈ ([] : List Addr) ∨ h0.size ≤ x_) (Or.inr (own_ale om1080)) all0))).ext E1077).trans K1093 (allS (P := fun x_ => x_ ∈ ([] : List Addr) ∨ h0.size ≤ x_) (Or.inr (own_ale om1079)) (allS (P := fun x_ => x_ ∈ ([] : List Addr) ∨ h0.size ≤ x_) (Or.inr (own_ale om1080)) all0))).trans K1143 (allS (P := fun x_ => x_ ∈ ([] : List Addr) ∨ h0.size ≤ x_) (Or.inr (own_ale om1079)) all0)).trans K1154 all0), f1154_0, f1154_1, f1154_2, f1154_3, (by omega), (Or.inr ⟨rfl, rfl, rfl, own_exR e42⟩)⟩
  · have Fk1 := q15
    rw [e11] at Fk1
    have Vk1 := q16
    rw [e21, e31] at Vk1
    show Gl p.tables e below _ (s₁.setTop (mkF m 0 #[sR a] []))
    refine gNew Gl.cl X0 hx hZ hown (tw hw 48 rfl) (tw hw 49 rfl) (tw hw 50 rfl) e0 rfl (hb hby d7_0) (by decide) (by decide) ?_
    intro T1161 h1161 b1161 g1161 X1161 e1161 E1161 A1161 D1161
    have z1162 : h0.size ≤ h1161.size := E1161.1
    have lt1161 := own_alt A1161.lt
    have F1161_value : Fld Z h1161 b1161 "java/lang/AbstractStringBuilder" "value" "[B" .null := D1161 (Or.inl (tw hw 63 rfl)) (ty := (.array .byte)) (by decide)
    have F1161_coder : Fld Z h1161 b1161 "java/lang/AbstractStringBuilder" "coder" "B" (.int (0 : Int32)) := D1161 (Or.inl (tw hw 65 rfl)) (ty := .byte) (by decide)
    have F1161_count : Fld Z h1161 b1161 "java/lang/AbstractStringBuilder" "count" "I" (.int (0 : Int32)) := D1161 (Or.inl (tw hw 88 rfl)) (ty := .int) (by decide)
    have F1161_maybeLatin1 : Fld Z h1161 b1161 "java/lang/AbstractStringBuilder" "maybeLatin1" "Z" (.int (0 : Int32)) := D1161 (Or.inl (tw hw 247 rfl)) (ty := .boolean) (by decide)
    refine Gl.go (fun _ hr => zXS_dup X1161.here hx rfl (hb hby d7_3) rfl rfl hr) ?_
    have Oc1164 := (Oo.ext E1161)
    have zz1163 : n1 ≤ h1161.size := by omega
    refine gSpecialN Gl.cl (y := y_37) (b := b1161) (argsL := []) (rest := [(.ref b1161)]) (mc := 1) (ms := 16) X1161 hx hZ hown rfl (mvT hZ (tw hw 51 rfl)) (mvT hZ (tw hw 52 rfl)) (mvT hZ (tw hw 53 rfl)) (by decide) (backOf (W := 1) (sbi l Z a0 hw [] b1161 G1 h1161 n1 zz1163 q0 (by assumption) ⟨Oc1164, (by omega)⟩ (by omega) A1161 F1161_value F1161_coder F1161_count F1161_maybeLatin1) hZ (tw hw 53 rfl) (tw hw 50 rfl) (by decide) (by decide)) rfl (by rw [hml]; rfl) (lenOf pd_15 rfl) rfl (by exact Nat.le_of_eq rfl) (hb hby d7_4) rfl e1161 (by decide) (by decide) ?_
    intro v1163 T1163 Lc1163 hQ1163 X1163
    obtain ⟨a_1163, ka_1163, rfl, Nq1163, K1163, f1163_0, f1163_1, f1163_2, f1163_3, f1163_4, f1163_5, f1163_6⟩ := hQ1163
    have z1165 : h1161.size ≤ T1163.heap.size := K1163.1
    have N1163 := Fr.app N0 Nq1163
    have lt1166 := own_alt f1163_1.lt
    have lt1167 := own_alt f1163_2.lt
    have lt1168 := own_alt f1163_3.lt
    have lt1169 := own_alt f1163_4.lt
    have lt1170 := own_alt f1163_5.lt
    have lt1171 := own_alt f1163_6.lt
    refine Gl.go (fun _ hr => zXS_aloadN X1163.here hx rfl (hb hby d7_7) rfl rfl hr) ?_
    have om1172 : ¬ @Eq Nat a b1161 := by omega
    have Fc1173 := ((q11.ext E1161).keep K1163 (ninS (own_ane om1172) nin0))
    refine gGetF (host := "") Gl.cl X1163 hx hZ hown (Or.inl (tw hw 39 rfl)) Via.refl (rfl : T1163.heap = T1163.heap) Fc1173 rfl rfl (hb hby d7_8) ?_
    intro T1174 X1174 e1174
    have om1176 : @LE.le Nat instLENat Z.heap.size b1161 := by omega
    have Oc1177 := (Oc1164.keep K1163 (allS (own_ale om1176) all0))
    have Ec1178 := ((q13.ext E1161).keep K1163)
    have om1179 : ¬ @Eq Nat x b1161 := by omega
    have Fc1180 := ((q14.ext E1161).keep K1163 (ninS (own_ane om1179) nin0))
    have Fc1181 := ((Fk1.ext E1161).keep K1163 (ninS (own_ane om1179) nin0))
    have om1182 : ¬ @Eq Nat t b1161 := by omega
    have Vc1183 := ((Vk1.ext E1161).keep K1163 (ninS (own_ane om1182) nin0))
    have zz1175 : n1 ≤ T1163.heap.size := by omega
    refine gVirtualN Gl.cl (y := y_25) (z := y_25) (b := b1161) (argsL := [(.ref x)]) (rest := []) (mc := 1) (ms := 36) X1174 hx hZ hown (mvT hZ (tw hw 66 rfl)) (mvT hZ (tw hw 67 rfl)) (notFace_of_selects (args := #[]) (mvT hZ (tw hw 69 rfl))) (mvT hZ (tw hw 69 rfl)) (mvT hZ (tw hw 68 rfl)) (by decide) f1163_1 (backOf (W := 0) (sbs01 l Z a0 hw [] b1161 a_1163 ka_1163 16 ([] : List Int32) x t kb hs G1 G3 T1163.heap n1 zz1175 q0 (by assumption) ⟨Oc1177, (by omega)⟩ q3 (by assumption) q5 q6 q7 f1163_1 f1163_2 f1163_3 f1163_4 f1163_5 f1163_6 (by omega) (by omega) (by omega) (by decide) Ec1178 Fc1180 Fc1181 Vc1183 (by omega) (by omega) (by omega) (by omega) (by simp only [List.length_append, List.length_cons, List.length_nil]; omega) own_c0) hZ (tw hw 70 rfl) (tw hw 50 rfl) (by decide) (by decide)) rfl (by rw [hml]; rfl) (lenOf pd_35 rfl) rfl (by exact Nat.le_of_eq rfl) (hb hby d7_11) rfl e1174 (by decide) (by decide) ?_
    intro v1175 T1175 Lc1175 hQ1175 X1175
    obtain ⟨a2_1175, k2_1175, rfl, Nq1175, K1175, f1175_0, f1175_1, f1175_2, f1175_3, f1175_4, f1175_5, f1175_6⟩ := hQ1175
    have z1184 : T1163.heap.size ≤ T1175.heap.size := K1175.1
    have N1175 := Fr.app N1163 Nq1175
    have lt1185 := own_alt f1175_0.lt
    have lt1186 := own_alt f1175_1.lt
    have lt1187 := own_alt f1175_2.lt
    have lt1188 := own_alt f1175_3.lt
    have lt1189 := own_alt f1175_4.lt
    have lt1190 := own_alt f1175_5.lt
    have om1193 : @LE.le Nat instLENat h0.size b1161 := by omega
    have ph1192 := hphi_ib.keep ((((Keep.refl h0 []).ext E1161).trans K1163 (allS (P := fun x_ => x_ ∈ ([] : List Addr) ∨ h0.size ≤ x_) (Or.inr (own_ale om1193)) all0)).trans K1175 (allS (P := fun x_ => x_ ∈ ([] : List Addr) ∨ h0.size ≤ x_) (Or.inr (own_ale om1193)) all0))
    obtain ⟨a1191, T1191, h1191, k1191, t1191, kb1191, X1191, e1191, E1191, hS1191, hk1191, hZ1191, hown1191, lE1191, lC1191, lV1191, lA1191, -, -, -, st1191⟩ := ldcSV X1175 hx hZ hown (tw hw 114 rfl) hstr (rfl : T1175.heap = T1175.heap) hS0 (by have q := hk0; omega) (by have q := N1175; rw [hn1, ← hh] at q; exact q) (fun b cl q => hh ▸ Oo.2.2 _ _ q) ph1192 (by decide) hc53 hcw (vs := ((([(46 : Int32)] : List Int32).map (fun c => c.toInt8.toInt32)).map Value.int)) (z := (1 : Int32)) ⟨by decide +kernel, by decide +kernel⟩ (by decide) rfl (g := (mkF m 14 #[sR a] [(.ref b1161)])) rfl (hb hby d7_14) (n := 4) (by decide +kernel) (by decide) (by decide) (by decide)
    have z1194 : T1175.heap.size ≤ h1191.size := E1191.1
    have lt1195 := own_alt lE1191.lt
    have lt1196 := own_alt lC1191.lt
    have lt1197 := own_alt lV1191.lt
    have lt1198 := own_alt lA1191.lt
    have hp1199 : ∀ c ∈ ([(46 : Int32)] : List Int32), Lat c := by decide
    have hcd1199 : StrChars.Road.CodA ([(46 : Int32)] : List Int32) 0 (1 : Int32) ((([(46 : Int32)] : List Int32).map (fun c => c.toInt8.toInt32)).map Value.int) := StrChars.Road.codOf (n := 1) rfl (fun c hc => (hp1199 c hc).2)
    have hbd1199 : ∀ c ∈ ([(46 : Int32)] : List Int32), Wid c := own_up hp1199
    refine Gl.go st1191 ?_
    show Gl p.tables e below _ (T1191.setTop (mkF m 16 #[sR a] [(.ref a1191), (.ref b1161)]))
    have Ec1200 := (f1175_0.ext E1191)
    have Vc1201 := (f1175_5.ext E1191)
    have ne1202 := own_anq (Exa.ne Ec1200 lE1191 (by decide))
    have ne1203 := own_anq (Exa.neArv Ec1200 lA1191 (tw hw 49 rfl))
    have ne1204 := own_anq (Exa.neArv lE1191 Vc1201 (tw hw 6 rfl))
    have ne1205 := own_arvne Vc1201 lA1191 (by decide)
    have Oc1207 := ((Oc1177.keep K1175 (allS (own_ale om1176) all0)).ext E1191)
    have Fc1208 := (f1175_1.ext E1191)
    have Fc1209 := (f1175_2.ext E1191)
    have Fc1210 := (f1175_3.ext E1191)
    have Fc1211 := (f1175_4.ext E1191)
    have zz1206 : n1 ≤ h1191.size := by omega
    refine gVirtualN Gl.cl (y := y_25) (z := y_25) (b := b1161) (argsL := [(.ref a1191)]) (rest := []) (mc := 0) (ms := 0) X1191 hx hZ1191 hown1191 (mvT hZ1191 (tw hw 66 rfl)) (mvT hZ1191 (tw hw 67 rfl)) (notFace_of_selects (args := #[]) (mvT hZ1191 (tw hw 69 rfl))) (mvT hZ1191 (tw hw 69 rfl)) (mvT hZ1191 (tw hw 68 rfl)) (by decide) Ec1200 (backOf (W := 0) (sbs10 l Z a0 hw [] b1161 a2_1175 k2_1175 16 (([] : List Int32) ++ hs) a1191 t1191 kb1191 ([(46 : Int32)] : List Int32) G1 G3 h1191 n1 zz1206 q0 (by assumption) ⟨Oc1207, (by omega)⟩ q3 (by assumption) q5 q6 q7 Ec1200 Fc1208 Fc1209 Fc1210 Fc1211 Vc1201 (by omega) (by omega) (by omega) (by decide) lE1191 lV1191 lC1191 lA1191 (by omega) (by omega) (by omega) (by omega) (by simp only [List.length_append, List.length_cons, List.length_nil]; omega) (by decide)) hZ1191 (tw hw 70 rfl) (tw hw 50 rfl) (by decide) (by decide)) rfl (by rw [hml]; rfl) (lenOf pd_35 rfl) rfl (by exact Nat.le_of_eq rfl) (hb hby d7_16) rfl e1191 (by decide) (by decide) ?_
    intro v1206 T1206 Lc1206 hQ1206 X1206
    obtain ⟨rfl, Nq1206, K1206, f1206_0, f1206_1, f1206_2, f1206_3, f1206_4, f1206_5⟩ := hQ1206
    have z1212 : h1191.size ≤ T1206.heap.size := K1206.1
    have N1206 := Fr.app N1175 Nq1206
    have lt1213 := own_alt f1206_0.lt
    have lt1214 := own_alt f1206_1.lt
    have lt1215 := own_alt f1206_2.lt
    have lt1216 := own_alt f1206_3.lt
    have lt1217 := own_alt f1206_4.lt
    have lt1218 := own_alt f1206_5.lt
    show Gl p.tables e below _ (T1206.setTop (mkF m 19 #[sR a] [(.ref b1161)]))
    rcases id cod_y with ⟨e12, e22, e32, e42⟩ | ⟨e12, e22, e32, e42⟩
    · have om1219 : ¬ @Eq Nat y b1161 := by omega
      have om1220 : ¬ @Eq Nat y a2_1175 := by omega
      have Fc1221 := (((((q22.ext E1161).keep K1163 (ninS (own_ane om1219) nin0)).keep K1175 (ninS (own_ane om1219) nin0)).ext E1191).keep K1206 (ninS (own_ane om1219) (ninS (own_ane om1220) nin0)))
      have om1222 : ¬ @Eq Nat u b1161 := by omega
      have om1223 : ¬ @Eq Nat u a2_1175 := by omega
      have Vc1224 := (((((q23.ext E1161).keep K1163 (ninS (own_ane om1222) nin0)).keep K1175 (ninS (own_ane om1222) nin0)).ext E1191).keep K1206 (ninS (own_ane om1222) (ninS (own_ane om1223) nin0)))
      have Fk2 := Fc1221
      rw [e12] at Fk2
      have Vk2 := Vc1224
      rw [e22, e32, own_lom] at Vk2
      have hl2 : ∀ c ∈ ns, Lat c := own_latL hb_y e42
      show Gl p.tables e below _ (T1206.setTop (mkF m 19 #[sR a] [(.ref b1161)]))
      refine Gl.go (fun _ hr => zXS_aloadN X1206.here hx rfl (hb hby d7_19) rfl rfl hr) ?_
      have om1225 : ¬ @Eq Nat a a2_1175 := by omega
      have Fc1226 := (((((q12.ext E1161).keep K1163 (ninS (own_ane om1172) nin0)).keep K1175 (ninS (own_ane om1172) nin0)).ext E1191).keep K1206 (ninS (own_ane om1172) (ninS (own_ane om1225) nin0)))
      refine gGetF (host := "") Gl.cl X1206 hx hZ1191 hown1191 (Or.inl (tw hw 41 rfl)) Via.refl (rfl : T1206.heap = T1206.heap) Fc1226 rfl rfl (hb hby d7_20) ?_
      intro T1227 X1227 e1227
      have om1229 : @LE.le Nat instLENat Z.heap.size a2_1175 := by omega
      have Oc1230 := (Oc1207.keep K1206 (allS (own_ale om1176) (allS (own_ale om1229) all0)))
      have Ec1231 := (((((q20.ext E1161).keep K1163).keep K1175).ext E1191).keep K1206)
      have Fc1232 := (((((q21.ext E1161).keep K1163 (ninS (own_ane om1219) nin0)).keep K1175 (ninS (own_ane om1219) nin0)).ext E1191).keep K1206 (ninS (own_ane om1219) (ninS (own_ane om1220) nin0)))
      have zz1228 : n1 ≤ T1206.heap.size := by omega
      refine gVirtualN Gl.cl (y := y_25) (z := y_25) (b := b1161) (argsL := [(.ref y)]) (rest := []) (mc := 0) (ms := 0) X1227 hx hZ1191 hown1191 (mvT hZ1191 (tw hw 66 rfl)) (mvT hZ1191 (tw hw 67 rfl)) (notFace_of_selects (args := #[]) (mvT hZ1191 (tw hw 69 rfl))) (mvT hZ1191 (tw hw 69 rfl)) (mvT hZ1191 (tw hw 68 rfl)) (by decide) f1206_0 (backOf (W := 0) (sbs10 l Z a0 hw [] b1161 a2_1175 k2_1175 16 ((([] : List Int32) ++ hs) ++ ([(46 : Int32)] : List Int32)) y u kd ns G1 G3 T1206.heap n1 zz1228 q0 (by assumption) ⟨Oc1230, (by omega)⟩ q3 (by assumption) q5 q6 q7 f1206_0 f1206_1 f1206_2 f1206_3 f1206_4 f1206_5 (by omega) (by omega) (by omega) (by decide) Ec1231 Fc1232 Fk2 Vk2 (by omega) (by omega) (by omega) (by omega) (by simp only [List.length_append, List.length_cons, List.length_nil]; omega) hl2) hZ1191 (tw hw 70 rfl) (tw hw 50 rfl) (by decide) (by decide)) rfl (by rw [hml]; rfl) (lenOf pd_35 rfl) rfl (by exact Nat.le_of_eq rfl) (hb hby d7_23) rfl e1227 (by decide) (by decide) ?_
      intro v1228 T1228 Lc1228 hQ1228 X1228
      obtain ⟨rfl, Nq1228, K1228, f1228_0, f1228_1, f1228_2, f1228_3, f1228_4, f1228_5⟩ := hQ1228
      have z1233 : T1206.heap.size ≤ T1228.heap.size := K1228.1
      have N1228 := Fr.app N1206 Nq1228
      have lt1234 := own_alt f1228_0.lt
      have lt1235 := own_alt f1228_1.lt
      have lt1236 := own_alt f1228_2.lt
      have lt1237 := own_alt f1228_3.lt
      have lt1238 := own_alt f1228_4.lt
      have lt1239 := own_alt f1228_5.lt
      have Oc1241 := (Oc1230.keep K1228 (allS (own_ale om1176) (allS (own_ale om1229) all0)))
      have zz1240 : n1 ≤ T1228.heap.size := by omega
      refine gVirtualN Gl.cl (y := y_35) (z := y_35) (b := b1161) (argsL := []) (rest := []) (mc := 2) (ms := 40) X1228 hx hZ1191 hown1191 (mvT hZ1191 (tw hw 115 rfl)) (mvT hZ1191 (tw hw 116 rfl)) (notFace_of_selects (args := #[]) (mvT hZ1191 (tw hw 118 rfl))) (mvT hZ1191 (tw hw 118 rfl)) (mvT hZ1191 (tw hw 117 rfl)) (by decide) f1228_0 (backOf (W := 0) (ts1 l Z a0 hw [] b1161 a2_1175 k2_1175 16 (((([] : List Int32) ++ hs) ++ ([(46 : Int32)] : List Int32)) ++ ns) G1 T1228.heap n1 zz1240 q0 (by assumption) ⟨Oc1241, (by omega)⟩ f1228_0 f1228_1 f1228_2 f1228_3 f1228_4 f1228_5 (by decide) (by simp only [List.length_append, List.length_cons, List.length_nil]; omega)) hZ1191 (tw hw 119 rfl) (tw hw 50 rfl) (by decide) (by decide)) rfl (by rw [hml]; rfl) (lenOf pd_36 rfl) rfl (by exact Nat.le_of_eq rfl) (hb hby d7_26) rfl (rfl : T1228.heap = T1228.heap) (by decide) (by decide) ?_
      intro v1240 T1240 Lc1240 hQ1240 X1240
      obtain ⟨r_1240, t_1240, kr_1240, rfl, Nq1240, K1240, f1240_0, f1240_1, f1240_2, f1240_3, f1240_4⟩ := hQ1240
      have z1242 : T1228.heap.size ≤ T1240.heap.size := K1240.1
      have N1240 := Fr.app N1228 Nq1240
      have lt1243 := own_alt f1240_0.lt
      have lt1244 := own_alt f1240_1.lt
      have lt1245 := own_alt f1240_2.lt
      have lt1246 := own_alt f1240_3.lt
      obtain ⟨fs, hr, hrun, hended, hE⟩ := X1240.leaveW hS1191 (by have q := congrArg Array.size (rfl : T1240.heap = T1240.heap); have q2 := hk1191; omega) (v := some (.ref r_1240)) (fun h => by rw [Bd.returns] at h; cases h)
      have om1247 : @LE.le Nat instLENat h0.size a2_1175 := by omega
      refine ⟨_, _, retOut X1240 hx Bd.returns rfl (Or.inr (Or.inr (Or.inr (Or.inr ⟨rfl, rfl, rfl⟩)))) (hb hby d7_29) hr, hrun, hended, _, _, rfl, ?_, ⟨hE.1, hE.2.1, hE.2.2.1, hE.2.2.2.mono (by decide) (by decide)⟩⟩
      show Qqua Z a x t kb cd N vs hs y u kd ce M ws_ ns G1 G3 h0 n0 _ T1240.heap T1240.vm _
      exact ⟨r_1240, t_1240, kr_1240, 1, (Int32.ofNat (2 * (((([] : List Int32) ++ hs) ++ ([(46 : Int32)] : List Int32)) ++ ns).length)), (StrChars.Road.wideBytes (((([] : List Int32) ++ hs) ++ ([(46 : Int32)] : List Int32)) ++ ns)), rfl, (fun y hy => Nat.le_trans (by omega : n0 ≤ n1) (N1240 y hy)), ((((((((Keep.refl h0 []).ext E1161).trans K1163 (allS (P := fun x_ => x_ ∈ ([] : List Addr) ∨ h0.size ≤ x_) (Or.inr (own_ale om1193)) all0)).trans K1175 (allS (P := fun x_ => x_ ∈ ([] : List Addr) ∨ h0.size ≤ x_) (Or.inr (own_ale om1193)) all0)).ext E1191).trans K1206 (allS (P := fun x_ => x_ ∈ ([] : List Addr) ∨ h0.size ≤ x_) (Or.inr (own_ale om1193)) (allS (P := fun x_ => x_ ∈ ([] : List Addr) ∨ h0.size ≤ x_) (Or.inr (own_ale om1247)) all0))).trans K1228 (allS (P := fun x_ => x_ ∈ ([] : List Addr) ∨ h0.size ≤ x_) (Or.inr (own_ale om1193)) (allS (P := fun x_ => x_ ∈ ([] : List Addr) ∨ h0.size ≤ x_) (Or.inr (own_ale om1247)) all0))).trans K1240 all0), f1240_0, f1240_1, f1240_2, f1240_3, (by omega), (Or.inr ⟨rfl, rfl, rfl, own_exL (own_exL e41)⟩)⟩
    · have om1248 : ¬ @Eq Nat y b1161 := by omega
      have om1249 : ¬ @Eq Nat y a2_1175 := by omega
      have Fc1250 := (((((q22.ext E1161).keep K1163 (ninS (own_ane om1248) nin0)).keep K1175 (ninS (own_ane om1248) nin0)).ext E1191).keep K1206 (ninS (own_ane om1248) (ninS (own_ane om1249) nin0)))
      have om1251 : ¬ @Eq Nat u b1161 := by omega
      have om1252 : ¬ @Eq Nat u a2_1175 := by omega
      have Vc1253 := (((((q23.ext E1161).keep K1163 (ninS (own_ane om1251) nin0)).keep K1175 (ninS (own_ane om1251) nin0)).ext E1191).keep K1206 (ninS (own_ane om1251) (ninS (own_ane om1252) nin0)))
      have Fk2 := Fc1250
      rw [e12] at Fk2
      have Vk2 := Vc1253
      rw [e22, e32] at Vk2
      show Gl p.tables e below _ (T1206.setTop (mkF m 19 #[sR a] [(.ref b1161)]))
      refine Gl.go (fun _ hr => zXS_aloadN X1206.here hx rfl (hb hby d7_19) rfl rfl hr) ?_
      have om1254 : ¬ @Eq Nat a a2_1175 := by omega
      have Fc1255 := (((((q12.ext E1161).keep K1163 (ninS (own_ane om1172) nin0)).keep K1175 (ninS (own_ane om1172) nin0)).ext E1191).keep K1206 (ninS (own_ane om1172) (ninS (own_ane om1254) nin0)))
      refine gGetF (host := "") Gl.cl X1206 hx hZ1191 hown1191 (Or.inl (tw hw 41 rfl)) Via.refl (rfl : T1206.heap = T1206.heap) Fc1255 rfl rfl (hb hby d7_20) ?_
      intro T1256 X1256 e1256
      have om1258 : @LE.le Nat instLENat Z.heap.size a2_1175 := by omega
      have Oc1259 := (Oc1207.keep K1206 (allS (own_ale om1176) (allS (own_ale om1258) all0)))
      have Ec1260 := (((((q20.ext E1161).keep K1163).keep K1175).ext E1191).keep K1206)
      have Fc1261 := (((((q21.ext E1161).keep K1163 (ninS (own_ane om1248) nin0)).keep K1175 (ninS (own_ane om1248) nin0)).ext E1191).keep K1206 (ninS (own_ane om1248) (ninS (own_ane om1249) nin0)))
      have zz1257 : n1 ≤ T1206.heap.size := by omega
      refine gVirtualN Gl.cl (y := y_25) (z := y_25) (b := b1161) (argsL := [(.ref y)]) (rest := []) (mc := 0) (ms := 0) X1256 hx hZ1191 hown1191 (mvT hZ1191 (tw hw 66 rfl)) (mvT hZ1191 (tw hw 67 rfl)) (notFace_of_selects (args := #[]) (mvT hZ1191 (tw hw 69 rfl))) (mvT hZ1191 (tw hw 69 rfl)) (mvT hZ1191 (tw hw 68 rfl)) (by decide) f1206_0 (backOf (W := 0) (sbs11 l Z a0 hw [] b1161 a2_1175 k2_1175 16 ((([] : List Int32) ++ hs) ++ ([(46 : Int32)] : List Int32)) y u kd ns G1 G3 T1206.heap n1 zz1257 q0 (by assumption) ⟨Oc1259, (by omega)⟩ q3 (by assumption) q5 q6 q7 f1206_0 f1206_1 f1206_2 f1206_3 f1206_4 f1206_5 (by omega) (by omega) (by omega) (by decide) Ec1260 Fc1261 Fk2 Vk2 (by omega) (by omega) (by omega) (by omega) (by simp only [List.length_append, List.length_cons, List.length_nil]; omega)) hZ1191 (tw hw 70 rfl) (tw hw 50 rfl) (by decide) (by decide)) rfl (by rw [hml]; rfl) (lenOf pd_35 rfl) rfl (by exact Nat.le_of_eq rfl) (hb hby d7_23) rfl e1256 (by decide) (by decide) ?_
      intro v1257 T1257 Lc1257 hQ1257 X1257
      obtain ⟨rfl, Nq1257, K1257, f1257_0, f1257_1, f1257_2, f1257_3, f1257_4, f1257_5⟩ := hQ1257
      have z1262 : T1206.heap.size ≤ T1257.heap.size := K1257.1
      have N1257 := Fr.app N1206 Nq1257
      have lt1263 := own_alt f1257_0.lt
      have lt1264 := own_alt f1257_1.lt
      have lt1265 := own_alt f1257_2.lt
      have lt1266 := own_alt f1257_3.lt
      have lt1267 := own_alt f1257_4.lt
      have lt1268 := own_alt f1257_5.lt
      have Oc1270 := (Oc1259.keep K1257 (allS (own_ale om1176) (allS (own_ale om1258) all0)))
      have zz1269 : n1 ≤ T1257.heap.size := by omega
      refine gVirtualN Gl.cl (y := y_35) (z := y_35) (b := b1161) (argsL := []) (rest := []) (mc := 2) (ms := 40) X1257 hx hZ1191 hown1191 (mvT hZ1191 (tw hw 115 rfl)) (mvT hZ1191 (tw hw 116 rfl)) (notFace_of_selects (args := #[]) (mvT hZ1191 (tw hw 118 rfl))) (mvT hZ1191 (tw hw 118 rfl)) (mvT hZ1191 (tw hw 117 rfl)) (by decide) f1257_0 (backOf (W := 0) (ts1 l Z a0 hw [] b1161 a2_1175 k2_1175 16 (((([] : List Int32) ++ hs) ++ ([(46 : Int32)] : List Int32)) ++ ns) G1 T1257.heap n1 zz1269 q0 (by assumption) ⟨Oc1270, (by omega)⟩ f1257_0 f1257_1 f1257_2 f1257_3 f1257_4 f1257_5 (by decide) (by simp only [List.length_append, List.length_cons, List.length_nil]; omega)) hZ1191 (tw hw 119 rfl) (tw hw 50 rfl) (by decide) (by decide)) rfl (by rw [hml]; rfl) (lenOf pd_36 rfl) rfl (by exact Nat.le_of_eq rfl) (hb hby d7_26) rfl (rfl : T1257.heap = T1257.heap) (by decide) (by decide) ?_
      intro v1269 T1269 Lc1269 hQ1269 X1269
      obtain ⟨r_1269, t_1269, kr_1269, rfl, Nq1269, K1269, f1269_0, f1269_1, f1269_2, f1269_3, f1269_4⟩ := hQ1269
      have z1271 : T1257.heap.size ≤ T1269.heap.size := K1269.1
      have N1269 := Fr.app N1257 Nq1269
      have lt1272 := own_alt f1269_0.lt
      have lt1273 := own_alt f1269_1.lt
      have lt1274 := own_alt f1269_2.lt
      have lt1275 := own_alt f1269_3.lt
      obtain ⟨fs, hr, hrun, hended, hE⟩ := X1269.leaveW hS1191 (by have q := congrArg Array.size (rfl : T1269.heap = T1269.heap); have q2 := hk1191; omega) (v := some (.ref r_1269)) (fun h => by rw [Bd.returns] at h; cases h)
      have om1276 : @LE.le Nat instLENat h0.size a2_1175 := by omega
      refine ⟨_, _, retOut X1269 hx Bd.returns rfl (Or.inr (Or.inr (Or.inr (Or.inr ⟨rfl, rfl, rfl⟩)))) (hb hby d7_29) hr, hrun, hended, _, _, rfl, ?_, ⟨hE.1, hE.2.1, hE.2.2.1, hE.2.2.2.mono (by decide) (by decide)⟩⟩
      show Qqua Z a x t kb cd N vs hs y u kd ce M ws_ ns G1 G3 h0 n0 _ T1269.heap T1269.vm _
      exact ⟨r_1269, t_1269, kr_1269, 1, (Int32.ofNat (2 * (((([] : List Int32) ++ hs) ++ ([(46 : Int32)] : List Int32)) ++ ns).length)), (StrChars.Road.wideBytes (((([] : List Int32) ++ hs) ++ ([(46 : Int32)] : List Int32)) ++ ns)), rfl, (fun y hy => Nat.le_trans (by omega : n0 ≤ n1) (N1269 y hy)), ((((((((Keep.refl h0 []).ext E1161).trans K1163 (allS (P := fun x_ => x_ ∈ ([] : List Addr) ∨ h0.size ≤ x_) (Or.inr (own_ale om1193)) all0)).trans K1175 (allS (P := fun x_ => x_ ∈ ([] : List Addr) ∨ h0.size ≤ x_) (Or.inr (own_ale om1193)) all0)).ext E1191).trans K1206 (allS (P := fun x_ => x_ ∈ ([] : List Addr) ∨ h0.size ≤ x_) (Or.inr (own_ale om1193)) (allS (P := fun x_ => x_ ∈ ([] : List Addr) ∨ h0.size ≤ x_) (Or.inr (own_ale om1276)) all0))).trans K1257 (allS (P := fun x_ => x_ ∈ ([] : List Addr) ∨ h0.size ≤ x_) (Or.inr (own_ale om1193)) (allS (P := fun x_ => x_ ∈ ([] : List Addr) ∨ h0.size ≤ x_) (Or.inr (own_ale om1276)) all0))).trans K1269 all0), f1269_0, f1269_1, f1269_2, f1269_3, (by omega), (Or.inr ⟨rfl, rfl, rfl, own_exL (own_exL e41)⟩)⟩
def Qokc (Z : State) (x : Addr) (t : Addr) (kb : ClassId) (cd : Int32) (N : Int32) (vs : List Value) (ls : Nat) (ln : Nat) (ii : Nat) (a0_ : Int32) (a1 : Int32) (b0 : Int32) (b1 : Int32) (G1 : Int32) (G3 : Value) (h0 : Heap) (n0 : Nat) (v : Option Value) (h : Heap) (L : List Loc) : Prop := v = some (.int (1 : Int32)) ∧ Fr n0 L ∧ h = h0
theorem ef_okc (m : MethodId) (x0 : Addr) (x1 : Int32) (x2 : Int32) (x3 : Int32) (x4 : Int32) (x5 : Int32) (x6 : Int32) (x7 : Int32) : entryFrame m #[(.ref x0), (.int x1), (.int x2), (.int x3), (.int x4), (.int x5), (.int x6), (.int x7)] 10 = mkF m 0 #[sR x0, sI x1, sI x2, sI x3, sI x4, sI x5, sI x6, sI x7, sU, sU] [] := by first | (simp [entryFrame, mkF, argsToLocals, Value.category]; done) | rfl
theorem d29_0 : decode method_4_code 0 = .ok (.iload_n 1, 1) := by decide +kernel
theorem d29_1 : decode method_4_code 1 = .ok (.iload_n 2, 1) := by decide +kernel
theorem d29_2 : decode method_4_code 2 = .ok (.if_icmp .lt 5, 3) := by decide +kernel
theorem d29_7 : decode method_4_code 7 = .ok (.iload_n 1, 1) := by decide +kernel
theorem d29_8 : decode method_4_code 8 = .ok (.iload_n 3, 1) := by decide +kernel
theorem d29_9 : decode method_4_code 9 = .ok (.if_icmp .ge 19, 3) := by decide +kernel
theorem d29_12 : decode method_4_code 12 = .ok (.iload_n 1, 1) := by decide +kernel
theorem d29_13 : decode method_4_code 13 = .ok (.ifCond .ne 8, 3) := by decide +kernel
theorem d29_16 : decode method_4_code 16 = .ok (.iload 4, 2) := by decide +kernel
theorem d29_18 : decode method_4_code 18 = .ok (.goto 5, 3) := by decide +kernel
theorem d29_23 : decode method_4_code 23 = .ok (.istore 8, 2) := by decide +kernel
theorem d29_25 : decode method_4_code 25 = .ok (.goto 36, 3) := by decide +kernel
theorem d29_61 : decode method_4_code 61 = .ok (.aload_n 0, 1) := by decide +kernel
theorem d29_62 : decode method_4_code 62 = .ok (.iload_n 1, 1) := by decide +kernel
theorem d29_63 : decode method_4_code 63 = .ok (.invokevirtual 40, 3) := by decide +kernel
theorem pd_37 : parseMethodDescriptor "(I)C" = some ⟨[.int], some .char⟩ := by decide +kernel
theorem d29_66 : decode method_4_code 66 = .ok (.iload 8, 2) := by decide +kernel
theorem d29_68 : decode method_4_code 68 = .ok (.if_icmp .ne 7, 3) := by decide +kernel
theorem d29_71 : decode method_4_code 71 = .ok (.iconst 1, 1) := by decide +kernel
theorem d29_72 : decode method_4_code 72 = .ok (.goto 4, 3) := by decide +kernel
theorem d29_76 : decode method_4_code 76 = .ok (.ireturn, 1) := by decide +kernel
theorem d29_21 : decode method_4_code 21 = .ok (.iload 5, 2) := by decide +kernel
theorem d29_28 : decode method_4_code 28 = .ok (.iload_n 1, 1) := by decide +kernel
theorem d29_29 : decode method_4_code 29 = .ok (.iload_n 3, 1) := by decide +kernel
theorem d29_30 : decode method_4_code 30 = .ok (.if_icmp .ne 10, 3) := by decide +kernel
theorem d29_33 : decode method_4_code 33 = .ok (.bipush 46, 2) := by decide +kernel
theorem d29_35 : decode method_4_code 35 = .ok (.istore 8, 2) := by decide +kernel
theorem d29_37 : decode method_4_code 37 = .ok (.goto 24, 3) := by decide +kernel
theorem d29_40 : decode method_4_code 40 = .ok (.iload_n 1, 1) := by decide +kernel
theorem d29_41 : decode method_4_code 41 = .ok (.iload_n 3, 1) := by decide +kernel
theorem d29_42 : decode method_4_code 42 = .ok (.isub, 1) := by decide +kernel
theorem d29_43 : decode method_4_code 43 = .ok (.iconst 1, 1) := by decide +kernel
theorem d29_44 : decode method_4_code 44 = .ok (.isub, 1) := by decide +kernel
theorem d29_45 : decode method_4_code 45 = .ok (.istore 9, 2) := by decide +kernel
theorem d29_47 : decode method_4_code 47 = .ok (.iload 9, 2) := by decide +kernel
theorem d29_49 : decode method_4_code 49 = .ok (.ifCond .ne 8, 3) := by decide +kernel
theorem d29_52 : decode method_4_code 52 = .ok (.iload 6, 2) := by decide +kernel
theorem d29_54 : decode method_4_code 54 = .ok (.goto 5, 3) := by decide +kernel
theorem d29_59 : decode method_4_code 59 = .ok (.istore 8, 2) := by decide +kernel
theorem d29_57 : decode method_4_code 57 = .ok (.iload 7, 2) := by decide +kernel
theorem d29_5 : decode method_4_code 5 = .ok (.iconst 1, 1) := by decide +kernel
theorem d29_6 : decode method_4_code 6 = .ok (.ireturn, 1) := by decide +kernel
set_option maxRecDepth 65536 in
set_option maxHeartbeats 40000000 in
theorem okc (l : Launch) (Z : State) (a0 : Array Value) (hw : ∀ d ∈ tables_1, d.before a0 Z = true) (ws : List Jvm.Cond) (x : Addr) (t : Addr) (kb : ClassId) (cd : Int32) (N : Int32) (vs : List Value) (ls : Nat) (ln : Nat) (ii : Nat) (a0_ : Int32) (a1 : Int32) (b0 : Int32) (b1 : Int32) (G1 : Int32) (G3 : Value) (h0 : Heap) (n0 : Nat) (Z0 : n0 ≤ h0.size) (q0 : Sta Z Z.heap "java/lang/String" "COMPACT_STRINGS" "Z" (.int G1)) (P5 : ¬ (G1 = (0 : Int32))) (q2 : (Old Z Z.heap.size h0 ∧ @LE.le Nat instLENat Z.heap.size n0)) (q3 : Sta Z Z.heap "jdk/internal/util/Preconditions" "SIOOBE_FORMATTER" "Ljava/util/function/BiFunction;" G3) (rG3 : G3.isRef = true) (q5 : Sta Z Z.heap "java/lang/StringUTF16" "$assertionsDisabled" "Z" (.int (1 : Int32))) (q6 : Sta Z Z.heap "java/lang/StringUTF16" "HI_BYTE_SHIFT" "I" (.int (0 : Int32))) (q7 : Sta Z Z.heap "java/lang/StringUTF16" "LO_BYTE_SHIFT" "I" (.int (8 : Int32))) (q8 : Exa Z h0 x "java/lang/String") (q9 : Fld Z h0 x "java/lang/String" "value" "[B" (.ref t)) (q10 : Fld Z h0 x "java/lang/String" "coder" "B" (.int cd)) (q11 : Arv Z h0 t kb .byte N vs (.int (0 : Int32))) (cod : StrChars.Road.CodA (rs ls ln a0_ a1 b0 b1) cd N vs) (hbd : ∀ c ∈ (rs ls ln a0_ a1 b0 b1), Wid c) (hls : ls ≤ 2) (hln_ : ln ≤ 2) (hi5 : ii < 5) :
    MetFree l y_54 (head1 (Jvm.Cond.code y_54 method_4_code 10 (some .boolean) :: ws) r_m41) (fun a_ U_ => a_ = #[(.ref x), (.int (Int32.ofNat ii)), (.int (Int32.ofNat (ls + 1 + ln))), (.int (Int32.ofNat ls)), (.int a0_), (.int a1), (.int b0), (.int b1)] ∧ Z.Warmed39 U_.vm ∧ U_.heap = h0) (fun _ _ _ _ _ => True) (fun _ U_ o_ V_ => ∃ v_ L_, o_ = .returned v_ ∧ Qokc Z x t kb cd N vs ls ln ii a0_ a1 b0 b1 G1 G3 h0 n0 v_ V_.heap L_ ∧ FrameEnd U_ o_ V_ L_ r_m41.cells r_m41.slots) := by
  refine MetFree.of_bodySF (plainFor_of_name pn_7) hisR ?_
  intro p e s m args below meth c s₁ Bd hml0 hP hK
  obtain ⟨rfl, hZ, hh⟩ := hP
  have hx := Bd.exec
  have hby := Bd.bytes
  have hml : c.maxLocals = 10 := hml0
  have hown : s.vm.findClass "com/example/frist/frist/TableNameQualifiedPinLaw" = some m.cls := findClass_of_methodNamed Bd.named
  have hnm := (name_of_methodNamed Bd.named Bd.method).1
  have X0 : Stand p l e r_m41 s m #[(.ref x), (.int (Int32.ofNat ii)), (.int (Int32.ofNat (ls + 1 + ln))), (.int (Int32.ofNat ls)), (.int a0_), (.int a1), (.int b0), (.int b1)] below meth c s₁ [] 0 0 := Stand.of_body Bd
  have e0 : s₁.heap = h0 := by rw [← hh, Bd.state]; rfl
  have N0 := Fr.nil n0
  have Oo := q2.1
  have zo := q2.2
  have lt1277 := own_alt q8.lt
  have lt1278 := own_alt q9.lt
  have lt1279 := own_alt q10.lt
  have lt1280 := own_alt q11.lt
  refine Gl.go (A := s₁.setTop (entryFrame m #[(.ref x), (.int (Int32.ofNat ii)), (.int (Int32.ofNat (ls + 1 + ln))), (.int (Int32.ofNat ls)), (.int a0_), (.int a1), (.int b0), (.int b1)] 10)) (P := fun o_ U_ => ∃ v_ L_, o_ = .returned v_ ∧ Qokc Z x t kb cd N vs ls ln ii a0_ a1 b0 b1 G1 G3 h0 n0 v_ U_.heap L_ ∧ FrameEnd s o_ U_ L_ r_m41.cells r_m41.slots) (fun t_ k_ => castTop (ef_okc m x (Int32.ofNat ii) (Int32.ofNat (ls + 1 + ln)) (Int32.ofNat ls) a0_ a1 b0 b1) k_) ?_
  show Gl p.tables e below _ (s₁.setTop (mkF m 0 #[sR x, sI (Int32.ofNat ii), sI (Int32.ofNat (ls + 1 + ln)), sI (Int32.ofNat ls), sI a0_, sI a1, sI b0, sI b1, sU, sU] []))
  refine Gl.go (fun _ hr => zXS_iloadN X0.here hx rfl (hb hby d29_0) rfl (zXS_iloadN X0.here hx rfl (hb hby d29_1) rfl hr)) ?_
  by_cases hc1281 : (Int32.ofNat ii) < (Int32.ofNat (ls + 1 + ln))
  · refine Gl.go (fun _ hr => zXS_icmpYes X0.here hx rfl (pc0 := 2) (pc' := 7) rfl (hb hby d29_2) rfl (XT.ii_lt_t hc1281) (by decide) (by decide) hr) ?_
    have g2 : ii < (ls + 1 + ln) := own_lt32' (a := ii) (b := (ls + 1 + ln)) (by omega) (by omega) hc1281
    refine Gl.go (fun _ hr => zXS_iloadN X0.here hx rfl (hb hby d29_7) rfl (zXS_iloadN X0.here hx rfl (hb hby d29_8) rfl hr)) ?_
    by_cases hc1282 : (Int32.ofNat ii) < (Int32.ofNat ls)
    · refine Gl.go (fun _ hr => zXS_icmpNo X0.here hx rfl (hb hby d29_9) rfl (XT.ii_ge_f hc1282) hr) ?_
      have g9 : ii < ls := own_lt32' (a := ii) (b := ls) (by omega) (by omega) hc1282
      refine Gl.go (fun _ hr => zXS_iloadN X0.here hx rfl (hb hby d29_12) rfl hr) ?_
      by_cases hc1283 : (Int32.ofNat ii) = (0 : Int32)
      · refine Gl.go (fun _ hr => zXS_ifNo X0.here hx rfl (hb hby d29_13) rfl (XT.i0_ne_f hc1283) hr) ?_
        have g13 : ii = 0 := own_inj32 (a := ii) (b := 0) (by omega) (by omega) hc1283
        refine Gl.go (fun _ hr => zXS_iload X0.here hx rfl (hb hby d29_16) rfl (zXS_goto X0.here hx rfl (pc0 := 18) (pc' := 23) rfl (hb hby d29_18) (by decide) (by decide) (zXS_istore X0.here hx rfl (hb hby d29_23) rfl (l' := #[sR x, sI (Int32.ofNat ii), sI (Int32.ofNat (ls + 1 + ln)), sI (Int32.ofNat ls), sI a0_, sI a1, sI b0, sI b1, sI a0_, sU]) rfl (zXS_goto X0.here hx rfl (pc0 := 25) (pc' := 61) rfl (hb hby d29_25) (by decide) (by decide) (zXS_aloadN X0.here hx rfl (hb hby d29_61) rfl rfl (zXS_iloadN X0.here hx rfl (hb hby d29_62) rfl hr)))))) ?_
        have zz1284 : n0 ≤ h0.size := by omega
        refine gVirtualN Gl.cl (y := y_44) (z := y_44) (b := x) (argsL := [(.int (Int32.ofNat ii))]) (rest := []) (mc := 0) (ms := 0) X0 hx hZ hown (mvT hZ (tw hw 164 rfl)) (mvT hZ (tw hw 165 rfl)) (notFace_of_selects (args := #[]) (mvT hZ (tw hw 167 rfl))) (mvT hZ (tw hw 167 rfl)) (mvT hZ (tw hw 166 rfl)) (by decide) q8 (backOf (W := 0) (cha l Z a0 hw [] x t kb cd N vs (rs ls ln a0_ a1 b0 b1) ii G1 G3 h0 n0 zz1284 q0 (by assumption) ⟨Oo, (by omega)⟩ q3 (by assumption) q5 q6 q7 q8 q9 q10 q11 cod hbd (by rw [rs_len hls hln_]; exact g2) (by rw [rs_len hls hln_]; omega)) hZ (tw hw 168 rfl) (tw hw 7 rfl) (by decide) (by decide)) rfl (by rw [hml]; rfl) (lenOf pd_37 rfl) rfl (by exact Nat.le_of_eq rfl) (hb hby d29_63) rfl e0 (by decide) (by decide) ?_
        intro v1284 T1284 Lc1284 hQ1284 X1284
        obtain ⟨rfl, Nq1284, e1284⟩ := hQ1284
        have N1284 := Fr.app N0 Nq1284
        refine Gl.go (fun _ hr => zXS_iload X1284.here hx rfl (hb hby d29_66) rfl hr) ?_
        refine Gl.go (fun _ hr => zXS_icmpNo X1284.here hx rfl (hb hby d29_68) rfl (XT.ii_ne_f (rs_A hls g9 g13)) (zXS_iconst X1284.here hx rfl (hb hby d29_71) (zXS_goto X1284.here hx rfl (pc0 := 72) (pc' := 76) rfl (hb hby d29_72) (by decide) (by decide) hr))) ?_
        obtain ⟨fs, hr, hrun, hended, hW, hsame⟩ := X1284.leave (v := some (.int (1 : Int32))) (fun h => by rw [Bd.returns] at h; cases h)
        refine ⟨_, _, retN X1284 hx (t := .boolean) Bd.returns (by simp) (hb hby d29_76) hr, hrun, hended, _, _, rfl, ?_, ⟨⟨_, rfl⟩, hW, hsame.mono (by decide) (by decide)⟩⟩
        show Qokc Z x t kb cd N vs ls ln ii a0_ a1 b0 b1 G1 G3 h0 n0 _ T1284.heap _
        rw [e1284]
        exact ⟨rfl, N1284, rfl⟩
      · refine Gl.go (fun _ hr => zXS_ifYes X0.here hx rfl (pc0 := 13) (pc' := 21) rfl (hb hby d29_13) rfl (XT.i0_ne_t hc1283) (by decide) (by decide) hr) ?_
        have g13 : ¬ ii = 0 := fun q => hc1283 (congrArg Int32.ofNat q)
        refine Gl.go (fun _ hr => zXS_iload X0.here hx rfl (hb hby d29_21) rfl (zXS_istore X0.here hx rfl (hb hby d29_23) rfl (l' := #[sR x, sI (Int32.ofNat ii), sI (Int32.ofNat (ls + 1 + ln)), sI (Int32.ofNat ls), sI a0_, sI a1, sI b0, sI b1, sI a1, sU]) rfl (zXS_goto X0.here hx rfl (pc0 := 25) (pc' := 61) rfl (hb hby d29_25) (by decide) (by decide) (zXS_aloadN X0.here hx rfl (hb hby d29_61) rfl rfl (zXS_iloadN X0.here hx rfl (hb hby d29_62) rfl hr))))) ?_
        have zz1285 : n0 ≤ h0.size := by omega
        refine gVirtualN Gl.cl (y := y_44) (z := y_44) (b := x) (argsL := [(.int (Int32.ofNat ii))]) (rest := []) (mc := 0) (ms := 0) X0 hx hZ hown (mvT hZ (tw hw 164 rfl)) (mvT hZ (tw hw 165 rfl)) (notFace_of_selects (args := #[]) (mvT hZ (tw hw 167 rfl))) (mvT hZ (tw hw 167 rfl)) (mvT hZ (tw hw 166 rfl)) (by decide) q8 (backOf (W := 0) (cha l Z a0 hw [] x t kb cd N vs (rs ls ln a0_ a1 b0 b1) ii G1 G3 h0 n0 zz1285 q0 (by assumption) ⟨Oo, (by omega)⟩ q3 (by assumption) q5 q6 q7 q8 q9 q10 q11 cod hbd (by rw [rs_len hls hln_]; exact g2) (by rw [rs_len hls hln_]; omega)) hZ (tw hw 168 rfl) (tw hw 7 rfl) (by decide) (by decide)) rfl (by rw [hml]; rfl) (lenOf pd_37 rfl) rfl (by exact Nat.le_of_eq rfl) (hb hby d29_63) rfl e0 (by decide) (by decide) ?_
        intro v1285 T1285 Lc1285 hQ1285 X1285
        obtain ⟨rfl, Nq1285, e1285⟩ := hQ1285
        have N1285 := Fr.app N0 Nq1285
        refine Gl.go (fun _ hr => zXS_iload X1285.here hx rfl (hb hby d29_66) rfl hr) ?_
        refine Gl.go (fun _ hr => zXS_icmpNo X1285.here hx rfl (hb hby d29_68) rfl (XT.ii_ne_f (rs_B hls g9 g13)) (zXS_iconst X1285.here hx rfl (hb hby d29_71) (zXS_goto X1285.here hx rfl (pc0 := 72) (pc' := 76) rfl (hb hby d29_72) (by decide) (by decide) hr))) ?_
        obtain ⟨fs, hr, hrun, hended, hW, hsame⟩ := X1285.leave (v := some (.int (1 : Int32))) (fun h => by rw [Bd.returns] at h; cases h)
        refine ⟨_, _, retN X1285 hx (t := .boolean) Bd.returns (by simp) (hb hby d29_76) hr, hrun, hended, _, _, rfl, ?_, ⟨⟨_, rfl⟩, hW, hsame.mono (by decide) (by decide)⟩⟩
        show Qokc Z x t kb cd N vs ls ln ii a0_ a1 b0 b1 G1 G3 h0 n0 _ T1285.heap _
        rw [e1285]
        exact ⟨rfl, N1285, rfl⟩
    · refine Gl.go (fun _ hr => zXS_icmpYes X0.here hx rfl (pc0 := 9) (pc' := 28) rfl (hb hby d29_9) rfl (XT.ii_ge_t hc1282) (by decide) (by decide) hr) ?_
      have g9 : ls ≤ ii := own_ge32 (a := ii) (b := ls) (by omega) (by omega) hc1282
      refine Gl.go (fun _ hr => zXS_iloadN X0.here hx rfl (hb hby d29_28) rfl (zXS_iloadN X0.here hx rfl (hb hby d29_29) rfl hr)) ?_
      by_cases hc1286 : (Int32.ofNat ii) = (Int32.ofNat ls)
      · refine Gl.go (fun _ hr => zXS_icmpNo X0.here hx rfl (hb hby d29_30) rfl (XT.ii_ne_f hc1286) hr) ?_
        have g30 : ii = ls := own_inj32 (a := ii) (b := ls) (by omega) (by omega) hc1286
        refine Gl.go (fun _ hr => zXS_bipush X0.here hx rfl (hb hby d29_33) (zXS_istore X0.here hx rfl (hb hby d29_35) rfl (l' := #[sR x, sI (Int32.ofNat ii), sI (Int32.ofNat (ls + 1 + ln)), sI (Int32.ofNat ls), sI a0_, sI a1, sI b0, sI b1, sI 46, sU]) rfl (zXS_goto X0.here hx rfl (pc0 := 37) (pc' := 61) rfl (hb hby d29_37) (by decide) (by decide) (zXS_aloadN X0.here hx rfl (hb hby d29_61) rfl rfl (zXS_iloadN X0.here hx rfl (hb hby d29_62) rfl hr))))) ?_
        have zz1287 : n0 ≤ h0.size := by omega
        refine gVirtualN Gl.cl (y := y_44) (z := y_44) (b := x) (argsL := [(.int (Int32.ofNat ii))]) (rest := []) (mc := 0) (ms := 0) X0 hx hZ hown (mvT hZ (tw hw 164 rfl)) (mvT hZ (tw hw 165 rfl)) (notFace_of_selects (args := #[]) (mvT hZ (tw hw 167 rfl))) (mvT hZ (tw hw 167 rfl)) (mvT hZ (tw hw 166 rfl)) (by decide) q8 (backOf (W := 0) (cha l Z a0 hw [] x t kb cd N vs (rs ls ln a0_ a1 b0 b1) ii G1 G3 h0 n0 zz1287 q0 (by assumption) ⟨Oo, (by omega)⟩ q3 (by assumption) q5 q6 q7 q8 q9 q10 q11 cod hbd (by rw [rs_len hls hln_]; exact g2) (by rw [rs_len hls hln_]; omega)) hZ (tw hw 168 rfl) (tw hw 7 rfl) (by decide) (by decide)) rfl (by rw [hml]; rfl) (lenOf pd_37 rfl) rfl (by exact Nat.le_of_eq rfl) (hb hby d29_63) rfl e0 (by decide) (by decide) ?_
        intro v1287 T1287 Lc1287 hQ1287 X1287
        obtain ⟨rfl, Nq1287, e1287⟩ := hQ1287
        have N1287 := Fr.app N0 Nq1287
        refine Gl.go (fun _ hr => zXS_iload X1287.here hx rfl (hb hby d29_66) rfl hr) ?_
        refine Gl.go (fun _ hr => zXS_icmpNo X1287.here hx rfl (hb hby d29_68) rfl (XT.ii_ne_f (rs_C hls g30)) (zXS_iconst X1287.here hx rfl (hb hby d29_71) (zXS_goto X1287.here hx rfl (pc0 := 72) (pc' := 76) rfl (hb hby d29_72) (by decide) (by decide) hr))) ?_
        obtain ⟨fs, hr, hrun, hended, hW, hsame⟩ := X1287.leave (v := some (.int (1 : Int32))) (fun h => by rw [Bd.returns] at h; cases h)
        refine ⟨_, _, retN X1287 hx (t := .boolean) Bd.returns (by simp) (hb hby d29_76) hr, hrun, hended, _, _, rfl, ?_, ⟨⟨_, rfl⟩, hW, hsame.mono (by decide) (by decide)⟩⟩
        show Qokc Z x t kb cd N vs ls ln ii a0_ a1 b0 b1 G1 G3 h0 n0 _ T1287.heap _
        rw [e1287]
        exact ⟨rfl, N1287, rfl⟩
      · refine Gl.go (fun _ hr => zXS_icmpYes X0.here hx rfl (pc0 := 30) (pc' := 40) rfl (hb hby d29_30) rfl (XT.ii_ne_t hc1286) (by decide) (by decide) hr) ?_
        have g30 : ¬ ii = ls := fun q => hc1286 (congrArg Int32.ofNat q)
        refine Gl.go (fun _ hr => zXS_iloadN X0.here hx rfl (hb hby d29_40) rfl (zXS_iloadN X0.here hx rfl (hb hby d29_41) rfl (zXS_isub X0.here hx rfl (hb hby d29_42) rfl (zXS_iconst X0.here hx rfl (hb hby d29_43) (zXS_isub X0.here hx rfl (hb hby d29_44) rfl hr))))) ?_
        show Gl p.tables e below _ (s₁.setTop (mkF m 45 #[sR x, sI (Int32.ofNat ii), sI (Int32.ofNat (ls + 1 + ln)), sI (Int32.ofNat ls), sI a0_, sI a1, sI b0, sI b1, sU, sU] [(.int (((Int32.ofNat ii) - (Int32.ofNat ls)) - (1 : Int32)))]))
        rw [(show Int32.ofNat ii - Int32.ofNat ls - (1 : Int32) = Int32.ofNat (ii - ls - 1) from by rw [own_sub32 (by omega)]; exact own_sub32 (b := 1) (by omega))]
        show Gl p.tables e below _ (s₁.setTop (mkF m 45 #[sR x, sI (Int32.ofNat ii), sI (Int32.ofNat (ls + 1 + ln)), sI (Int32.ofNat ls), sI a0_, sI a1, sI b0, sI b1, sU, sU] [(.int (Int32.ofNat (ii - ls - 1)))]))
        refine Gl.go (fun _ hr => zXS_istore X0.here hx rfl (hb hby d29_45) rfl (l' := #[sR x, sI (Int32.ofNat ii), sI (Int32.ofNat (ls + 1 + ln)), sI (Int32.ofNat ls), sI a0_, sI a1, sI b0, sI b1, sU, sI (Int32.ofNat (ii - ls - 1))]) rfl (zXS_iload X0.here hx rfl (hb hby d29_47) rfl hr)) ?_
        by_cases hc1288 : (Int32.ofNat (ii - ls - 1)) = (0 : Int32)
        · refine Gl.go (fun _ hr => zXS_ifNo X0.here hx rfl (hb hby d29_49) rfl (XT.i0_ne_f hc1288) hr) ?_
          have g49 : (ii - ls - 1) = 0 := own_inj32 (a := (ii - ls - 1)) (b := 0) (by omega) (by omega) hc1288
          refine Gl.go (fun _ hr => zXS_iload X0.here hx rfl (hb hby d29_52) rfl (zXS_goto X0.here hx rfl (pc0 := 54) (pc' := 59) rfl (hb hby d29_54) (by decide) (by decide) (zXS_istore X0.here hx rfl (hb hby d29_59) rfl (l' := #[sR x, sI (Int32.ofNat ii), sI (Int32.ofNat (ls + 1 + ln)), sI (Int32.ofNat ls), sI a0_, sI a1, sI b0, sI b1, sI b0, sI (Int32.ofNat (ii - ls - 1))]) rfl (zXS_aloadN X0.here hx rfl (hb hby d29_61) rfl rfl (zXS_iloadN X0.here hx rfl (hb hby d29_62) rfl hr))))) ?_
          have zz1289 : n0 ≤ h0.size := by omega
          refine gVirtualN Gl.cl (y := y_44) (z := y_44) (b := x) (argsL := [(.int (Int32.ofNat ii))]) (rest := []) (mc := 0) (ms := 0) X0 hx hZ hown (mvT hZ (tw hw 164 rfl)) (mvT hZ (tw hw 165 rfl)) (notFace_of_selects (args := #[]) (mvT hZ (tw hw 167 rfl))) (mvT hZ (tw hw 167 rfl)) (mvT hZ (tw hw 166 rfl)) (by decide) q8 (backOf (W := 0) (cha l Z a0 hw [] x t kb cd N vs (rs ls ln a0_ a1 b0 b1) ii G1 G3 h0 n0 zz1289 q0 (by assumption) ⟨Oo, (by omega)⟩ q3 (by assumption) q5 q6 q7 q8 q9 q10 q11 cod hbd (by rw [rs_len hls hln_]; exact g2) (by rw [rs_len hls hln_]; omega)) hZ (tw hw 168 rfl) (tw hw 7 rfl) (by decide) (by decide)) rfl (by rw [hml]; rfl) (lenOf pd_37 rfl) rfl (by exact Nat.le_of_eq rfl) (hb hby d29_63) rfl e0 (by decide) (by decide) ?_
          intro v1289 T1289 Lc1289 hQ1289 X1289
          obtain ⟨rfl, Nq1289, e1289⟩ := hQ1289
          have N1289 := Fr.app N0 Nq1289
          refine Gl.go (fun _ hr => zXS_iload X1289.here hx rfl (hb hby d29_66) rfl hr) ?_
          refine Gl.go (fun _ hr => zXS_icmpNo X1289.here hx rfl (hb hby d29_68) rfl (XT.ii_ne_f (rs_D hls hln_ (by omega) g49 g2)) (zXS_iconst X1289.here hx rfl (hb hby d29_71) (zXS_goto X1289.here hx rfl (pc0 := 72) (pc' := 76) rfl (hb hby d29_72) (by decide) (by decide) hr))) ?_
          obtain ⟨fs, hr, hrun, hended, hW, hsame⟩ := X1289.leave (v := some (.int (1 : Int32))) (fun h => by rw [Bd.returns] at h; cases h)
          refine ⟨_, _, retN X1289 hx (t := .boolean) Bd.returns (by simp) (hb hby d29_76) hr, hrun, hended, _, _, rfl, ?_, ⟨⟨_, rfl⟩, hW, hsame.mono (by decide) (by decide)⟩⟩
          show Qokc Z x t kb cd N vs ls ln ii a0_ a1 b0 b1 G1 G3 h0 n0 _ T1289.heap _
          rw [e1289]
          exact ⟨rfl, N1289, rfl⟩
        · refine Gl.go (fun _ hr => zXS_ifYes X0.here hx rfl (pc0 := 49) (pc' := 57) rfl (hb hby d29_49) rfl (XT.i0_ne_t hc1288) (by decide) (by decide) hr) ?_
          have g49 : ¬ (ii - ls - 1) = 0 := fun q => hc1288 (congrArg Int32.ofNat q)
          refine Gl.go (fun _ hr => zXS_iload X0.here hx rfl (hb hby d29_57) rfl (zXS_istore X0.here hx rfl (hb hby d29_59) rfl (l' := #[sR x, sI (Int32.ofNat ii), sI (Int32.ofNat (ls + 1 + ln)), sI (Int32.ofNat ls), sI a0_, sI a1, sI b0, sI b1, sI b1, sI (Int32.ofNat (ii - ls - 1))]) rfl (zXS_aloadN X0.here hx rfl (hb hby d29_61) rfl rfl (zXS_iloadN X0.here hx rfl (hb hby d29_62) rfl hr)))) ?_
          have zz1290 : n0 ≤ h0.size := by omega
          refine gVirtualN Gl.cl (y := y_44) (z := y_44) (b := x) (argsL := [(.int (Int32.ofNat ii))]) (rest := []) (mc := 0) (ms := 0) X0 hx hZ hown (mvT hZ (tw hw 164 rfl)) (mvT hZ (tw hw 165 rfl)) (notFace_of_selects (args := #[]) (mvT hZ (tw hw 167 rfl))) (mvT hZ (tw hw 167 rfl)) (mvT hZ (tw hw 166 rfl)) (by decide) q8 (backOf (W := 0) (cha l Z a0 hw [] x t kb cd N vs (rs ls ln a0_ a1 b0 b1) ii G1 G3 h0 n0 zz1290 q0 (by assumption) ⟨Oo, (by omega)⟩ q3 (by assumption) q5 q6 q7 q8 q9 q10 q11 cod hbd (by rw [rs_len hls hln_]; exact g2) (by rw [rs_len hls hln_]; omega)) hZ (tw hw 168 rfl) (tw hw 7 rfl) (by decide) (by decide)) rfl (by rw [hml]; rfl) (lenOf pd_37 rfl) rfl (by exact Nat.le_of_eq rfl) (hb hby d29_63) rfl e0 (by decide) (by decide) ?_
          intro v1290 T1290 Lc1290 hQ1290 X1290
          obtain ⟨rfl, Nq1290, e1290⟩ := hQ1290
          have N1290 := Fr.app N0 Nq1290
          refine Gl.go (fun _ hr => zXS_iload X1290.here hx rfl (hb hby d29_66) rfl hr) ?_
          refine Gl.go (fun _ hr => zXS_icmpNo X1290.here hx rfl (hb hby d29_68) rfl (XT.ii_ne_f (rs_E hls hln_ (by omega) g49 g2)) (zXS_iconst X1290.here hx rfl (hb hby d29_71) (zXS_goto X1290.here hx rfl (pc0 := 72) (pc' := 76) rfl (hb hby d29_72) (by decide) (by decide) hr))) ?_
          obtain ⟨fs, hr, hrun, hended, hW, hsame⟩ := X1290.leave (v := some (.int (1 : Int32))) (fun h => by rw [Bd.returns] at h; cases h)
          refine ⟨_, _, retN X1290 hx (t := .boolean) Bd.returns (by simp) (hb hby d29_76) hr, hrun, hended, _, _, rfl, ?_, ⟨⟨_, rfl⟩, hW, hsame.mono (by decide) (by decide)⟩⟩
          show Qokc Z x t kb cd N vs ls ln ii a0_ a1 b0 b1 G1 G3 h0 n0 _ T1290.heap _
          rw [e1290]
          exact ⟨rfl, N1290, rfl⟩
  · refine Gl.go (fun _ hr => zXS_icmpNo X0.here hx rfl (hb hby d29_2) rfl (XT.ii_lt_f hc1281) hr) ?_
    have g2 : (ls + 1 + ln) ≤ ii := own_ge32 (a := ii) (b := (ls + 1 + ln)) (by omega) (by omega) hc1281
    refine Gl.go (fun _ hr => zXS_iconst X0.here hx rfl (hb hby d29_5) hr) ?_
    obtain ⟨fs, hr, hrun, hended, hW, hsame⟩ := X0.leave (v := some (.int (1 : Int32))) (fun h => by rw [Bd.returns] at h; cases h)
    refine ⟨_, _, retN X0 hx (t := .boolean) Bd.returns (by simp) (hb hby d29_6) hr, hrun, hended, _, _, rfl, ?_, ⟨⟨_, rfl⟩, hW, hsame.mono (by decide) (by decide)⟩⟩
    show Qokc Z x t kb cd N vs ls ln ii a0_ a1 b0 b1 G1 G3 h0 n0 _ s₁.heap _
    rw [e0]
    exact ⟨rfl, N0, rfl⟩
def Qlawrm (Z : State) (i0 : Int32) (i1 : Int32) (i2 : Int32) (i3 : Int32) (i4 : Int32) (G1 : Int32) (G3 : Value) (h0 : Heap) (n0 : Nat) (v : Option Value) (h : Heap) (vm : Vm) (L : List Loc) : Prop := v = some (.int (1 : Int32)) ∧ Fr n0 L ∧ Keep h0 h []
theorem ef_lawrm (m : MethodId) (x0 : Int32) (x1 : Int32) (x2 : Int32) (x3 : Int32) (x4 : Int32) : entryFrame m #[(.int x0), (.int x1), (.int x2), (.int x3), (.int x4)] maxLocals = mkF m 0 #[sI x0, sI x1, sI x2, sI x3, sI x4, sU, sU, sU, sU, sU, sU, sU, sU, sU, sU] [] := by first | (simp [entryFrame, mkF, argsToLocals, Value.category, maxLocals]; done) | rfl
theorem pd_38 : parseMethodDescriptor "(ICC)Ljava/lang/String;" = some ⟨[.int, .char, .char], some (.object "java/lang/String")⟩ := by decide +kernel
theorem pd_39 : parseMethodDescriptor "(Ljava/lang/String;Ljava/lang/String;)V" = some ⟨[(.object "java/lang/String"), (.object "java/lang/String")], none⟩ := by decide +kernel
theorem pd_40 : parseMethodDescriptor "(Ljava/lang/String;IIICCCC)Z" = some ⟨[(.object "java/lang/String"), .int, .int, .int, .char, .char, .char, .char], some .boolean⟩ := by decide +kernel
set_option maxRecDepth 65536 in
set_option maxHeartbeats 40000000 in
theorem lawrm (l : Launch) (Z : State) (a0 : Array Value) (hw : ∀ d ∈ tables_1, d.before a0 Z = true) (ws : List Jvm.Cond) (i0 : Int32) (i1 : Int32) (i2 : Int32) (i3 : Int32) (i4 : Int32) (G1 : Int32) (G3 : Value) (h0 : Heap) (n0 : Nat) (Z0 : n0 ≤ h0.size) (q0 : Sta Z Z.heap "java/lang/String" "COMPACT_STRINGS" "Z" (.int G1)) (P5 : ¬ (G1 = (0 : Int32))) (q2 : (Old Z Z.heap.size h0 ∧ @LE.le Nat instLENat Z.heap.size n0)) (q3 : Sta Z Z.heap "jdk/internal/util/Preconditions" "SIOOBE_FORMATTER" "Ljava/util/function/BiFunction;" G3) (rG3 : G3.isRef = true) (q5 : Sta Z Z.heap "java/lang/StringUTF16" "$assertionsDisabled" "Z" (.int (1 : Int32))) (q6 : Sta Z Z.heap "java/lang/StringUTF16" "HI_BYTE_SHIFT" "I" (.int (0 : Int32))) (q7 : Sta Z Z.heap "java/lang/StringUTF16" "LO_BYTE_SHIFT" "I" (.int (8 : Int32))) (hcw : Jvm.Lit.compactW.before a0 Z = true) (hc7 : Jvm.Lit.constHeld Z "java/lang/String" 7) (hc53 : Jvm.Lit.constHeld Z "com/example/frist/frist/TableName" 53) :
    MetFree l x (head1 (Jvm.Cond.code x code maxLocals ret :: ws) room_1) (fun a_ U_ => a_ = #[(.int i0), (.int i1), (.int i2), (.int i3), (.int i4)] ∧ Z.Warmed39 U_.vm ∧ U_.heap = h0 ∧ EmJ Z U_.vm h0) (fun _ _ _ _ _ => True) (fun _ U_ o_ V_ => ∃ v_ L_, o_ = .returned v_ ∧ Qlawrm Z i0 i1 i2 i3 i4 G1 G3 h0 n0 v_ V_.heap V_.vm L_ ∧ ReturnedEndW U_ o_ V_ L_ 40 2304) := by
  refine MetFree.of_bodySF (plainFor_of_name pn_7) hisR ?_
  intro p e s m args below meth c s₁ Bd hml0 hP hK
  obtain ⟨rfl, hZ, hh, hphi_em⟩ := hP
  have hx := Bd.exec
  have hby := Bd.bytes
  have hml : c.maxLocals = 15 := hml0
  have hown : s.vm.findClass "com/example/frist/frist/TableNameQualifiedPinLaw" = some m.cls := findClass_of_methodNamed Bd.named
  have hnm := (name_of_methodNamed Bd.named Bd.method).1
  have X0 : Stand p l e room_1 (s.setVm s.vm) m #[(.int i0), (.int i1), (.int i2), (.int i3), (.int i4)] below meth c s₁ [] 0 0 := Stand.of_body Bd
  have e0 : s₁.heap = h0 := by rw [← hh, Bd.state]; rfl
  have N0 := Fr.nil n0
  have hS0 : s.Since s.vm h0.size := (State.WarmedH.refl s).since _
  have hk0 : h0.size ≤ h0.size := Nat.le_refl _
  have Oo := q2.1
  have zo := q2.2
  have hstr : ∀ d ∈ Bundle.stringAtoms, d.before a0 Z = true := fun d hd => hw d (own_hstr d hd)
  have hln : ∀ d ∈ StrChars.Road.wordsLen, d.before a0 Z = true := fun d hd => hw d (own_hln d hd)
  refine Gl.go (A := s₁.setTop (entryFrame m #[(.int i0), (.int i1), (.int i2), (.int i3), (.int i4)] maxLocals)) (P := fun o_ U_ => ∃ v_ L_, o_ = .returned v_ ∧ Qlawrm Z i0 i1 i2 i3 i4 G1 G3 h0 n0 v_ U_.heap U_.vm L_ ∧ ReturnedEndW s o_ U_ L_ 40 2304) (fun t_ k_ => castTop (ef_lawrm m i0 i1 i2 i3 i4) k_) ?_
  show Gl p.tables e below _ (s₁.setTop (mkF m 0 #[sI i0, sI i1, sI i2, sI i3, sI i4, sU, sU, sU, sU, sU, sU, sU, sU, sU, sU] []))
  refine Gl.go (fun _ hr => zXS_iloadN X0.here hx rfl (hb hby at_0) rfl (zXS_iconst X0.here hx rfl (hb hby at_1) (zXS_iand X0.here hx rfl (hb hby at_2) rfl (zXS_iconst X0.here hx rfl (hb hby at_3) (zRW_iremM X0 hx rfl (hb hby at_4) rfl (by decide) hr))))) ?_
  show Gl p.tables e below _ (s₁.setTop (mkF m 5 #[sI i0, sI i1, sI i2, sI i3, sI i4, sU, sU, sU, sU, sU, sU, sU, sU, sU, sU] [(.int ((i0 &&& (3 : Int32)) % (3 : Int32)))]))
  obtain ⟨ls, e_ls, h_ls⟩ := own_m3 i0
  rw [e_ls]
  show Gl p.tables e below _ (s₁.setTop (mkF m 5 #[sI i0, sI i1, sI i2, sI i3, sI i4, sU, sU, sU, sU, sU, sU, sU, sU, sU, sU] [(.int (Int32.ofNat ls))]))
  refine Gl.go (fun _ hr => zXS_istore X0.here hx rfl (hb hby at_5) rfl (l' := #[sI i0, sI i1, sI i2, sI i3, sI i4, sI (Int32.ofNat ls), sU, sU, sU, sU, sU, sU, sU, sU, sU]) rfl (zXS_iloadN X0.here hx rfl (hb hby at_7) rfl (zXS_iconst X0.here hx rfl (hb hby at_8) (zXT_iushr X0.here hx rfl (hb hby at_9) rfl (zXS_iconst X0.here hx rfl (hb hby at_10) (zXS_iand X0.here hx rfl (hb hby at_11) rfl (zXS_iconst X0.here hx rfl (hb hby at_12) (zRW_iremM X0 hx rfl (hb hby at_13) rfl (by decide) hr)))))))) ?_
  show Gl p.tables e below _ (s₁.setTop (mkF m 14 #[sI i0, sI i1, sI i2, sI i3, sI i4, sI (Int32.ofNat ls), sU, sU, sU, sU, sU, sU, sU, sU, sU] [(.int (((XT.ushr i0 (2 : Int32)) &&& (3 : Int32)) % (3 : Int32)))]))
  obtain ⟨ln, e_ln, h_ln⟩ := own_m3 (XT.ushr i0 (2 : Int32))
  rw [e_ln]
  show Gl p.tables e below _ (s₁.setTop (mkF m 14 #[sI i0, sI i1, sI i2, sI i3, sI i4, sI (Int32.ofNat ls), sU, sU, sU, sU, sU, sU, sU, sU, sU] [(.int (Int32.ofNat ln))]))
  refine Gl.go (fun _ hr => zXS_istore X0.here hx rfl (hb hby at_14) rfl (l' := #[sI i0, sI i1, sI i2, sI i3, sI i4, sI (Int32.ofNat ls), sI (Int32.ofNat ln), sU, sU, sU, sU, sU, sU, sU, sU]) rfl (zXS_iloadN X0.here hx rfl (hb hby at_16) rfl hr)) ?_
  refine Gl.go (X0.ldcInt hx hown (mvT hZ (tw hw 0 rfl)) rfl (hb hby at_17)) ?_
  refine Gl.go (fun _ hr => zXS_iand X0.here hx rfl (hb hby at_19) rfl (zXT_i2c X0.here hx rfl (hb hby at_20) rfl hr)) ?_
  show Gl p.tables e below _ (s₁.setTop (mkF m 21 #[sI i0, sI i1, sI i2, sI i3, sI i4, sI (Int32.ofNat ls), sI (Int32.ofNat ln), sU, sU, sU, sU, sU, sU, sU, sU] [(.int ((i1 &&& (65535 : Int32)).toUInt32.toUInt16.toUInt32.toInt32))]))
  obtain ⟨a0_, e_a0_, hw_a0_⟩ : ∃ q, ((i1 &&& (65535 : Int32)).toUInt32.toUInt16.toUInt32.toInt32) = q ∧ Wid q := ⟨_, rfl, own_wid_i2c _⟩
  rw [e_a0_]
  show Gl p.tables e below _ (s₁.setTop (mkF m 21 #[sI i0, sI i1, sI i2, sI i3, sI i4, sI (Int32.ofNat ls), sI (Int32.ofNat ln), sU, sU, sU, sU, sU, sU, sU, sU] [(.int a0_)]))
  refine Gl.go (fun _ hr => zXS_istore X0.here hx rfl (hb hby at_21) rfl (l' := #[sI i0, sI i1, sI i2, sI i3, sI i4, sI (Int32.ofNat ls), sI (Int32.ofNat ln), sI a0_, sU, sU, sU, sU, sU, sU, sU]) rfl (zXS_iloadN X0.here hx rfl (hb hby at_23) rfl hr)) ?_
  refine Gl.go (X0.ldcInt hx hown (mvT hZ (tw hw 0 rfl)) rfl (hb hby at_24)) ?_
  refine Gl.go (fun _ hr => zXS_iand X0.here hx rfl (hb hby at_26) rfl (zXT_i2c X0.here hx rfl (hb hby at_27) rfl hr)) ?_
  show Gl p.tables e below _ (s₁.setTop (mkF m 28 #[sI i0, sI i1, sI i2, sI i3, sI i4, sI (Int32.ofNat ls), sI (Int32.ofNat ln), sI a0_, sU, sU, sU, sU, sU, sU, sU] [(.int ((i2 &&& (65535 : Int32)).toUInt32.toUInt16.toUInt32.toInt32))]))
  obtain ⟨a1, e_a1, hw_a1⟩ : ∃ q, ((i2 &&& (65535 : Int32)).toUInt32.toUInt16.toUInt32.toInt32) = q ∧ Wid q := ⟨_, rfl, own_wid_i2c _⟩
  rw [e_a1]
  show Gl p.tables e below _ (s₁.setTop (mkF m 28 #[sI i0, sI i1, sI i2, sI i3, sI i4, sI (Int32.ofNat ls), sI (Int32.ofNat ln), sI a0_, sU, sU, sU, sU, sU, sU, sU] [(.int a1)]))
  refine Gl.go (fun _ hr => zXS_istore X0.here hx rfl (hb hby at_28) rfl (l' := #[sI i0, sI i1, sI i2, sI i3, sI i4, sI (Int32.ofNat ls), sI (Int32.ofNat ln), sI a0_, sI a1, sU, sU, sU, sU, sU, sU]) rfl (zXS_iloadN X0.here hx rfl (hb hby at_30) rfl hr)) ?_
  refine Gl.go (X0.ldcInt hx hown (mvT hZ (tw hw 0 rfl)) rfl (hb hby at_31)) ?_
  refine Gl.go (fun _ hr => zXS_iand X0.here hx rfl (hb hby at_33) rfl (zXT_i2c X0.here hx rfl (hb hby at_34) rfl hr)) ?_
  show Gl p.tables e below _ (s₁.setTop (mkF m 35 #[sI i0, sI i1, sI i2, sI i3, sI i4, sI (Int32.ofNat ls), sI (Int32.ofNat ln), sI a0_, sI a1, sU, sU, sU, sU, sU, sU] [(.int ((i3 &&& (65535 : Int32)).toUInt32.toUInt16.toUInt32.toInt32))]))
  obtain ⟨b0, e_b0, hw_b0⟩ : ∃ q, ((i3 &&& (65535 : Int32)).toUInt32.toUInt16.toUInt32.toInt32) = q ∧ Wid q := ⟨_, rfl, own_wid_i2c _⟩
  rw [e_b0]
  show Gl p.tables e below _ (s₁.setTop (mkF m 35 #[sI i0, sI i1, sI i2, sI i3, sI i4, sI (Int32.ofNat ls), sI (Int32.ofNat ln), sI a0_, sI a1, sU, sU, sU, sU, sU, sU] [(.int b0)]))
  refine Gl.go (fun _ hr => zXS_istore X0.here hx rfl (hb hby at_35) rfl (l' := #[sI i0, sI i1, sI i2, sI i3, sI i4, sI (Int32.ofNat ls), sI (Int32.ofNat ln), sI a0_, sI a1, sI b0, sU, sU, sU, sU, sU]) rfl (zXS_iload X0.here hx rfl (hb hby at_37) rfl hr)) ?_
  refine Gl.go (X0.ldcInt hx hown (mvT hZ (tw hw 0 rfl)) rfl (hb hby at_39)) ?_
  refine Gl.go (fun _ hr => zXS_iand X0.here hx rfl (hb hby at_41) rfl (zXT_i2c X0.here hx rfl (hb hby at_42) rfl hr)) ?_
  show Gl p.tables e below _ (s₁.setTop (mkF m 43 #[sI i0, sI i1, sI i2, sI i3, sI i4, sI (Int32.ofNat ls), sI (Int32.ofNat ln), sI a0_, sI a1, sI b0, sU, sU, sU, sU, sU] [(.int ((i4 &&& (65535 : Int32)).toUInt32.toUInt16.toUInt32.toInt32))]))
  obtain ⟨b1, e_b1, hw_b1⟩ : ∃ q, ((i4 &&& (65535 : Int32)).toUInt32.toUInt16.toUInt32.toInt32) = q ∧ Wid q := ⟨_, rfl, own_wid_i2c _⟩
  rw [e_b1]
  show Gl p.tables e below _ (s₁.setTop (mkF m 43 #[sI i0, sI i1, sI i2, sI i3, sI i4, sI (Int32.ofNat ls), sI (Int32.ofNat ln), sI a0_, sI a1, sI b0, sU, sU, sU, sU, sU] [(.int b1)]))
  refine Gl.go (fun _ hr => zXS_istore X0.here hx rfl (hb hby at_43) rfl (l' := #[sI i0, sI i1, sI i2, sI i3, sI i4, sI (Int32.ofNat ls), sI (Int32.ofNat ln), sI a0_, sI a1, sI b0, sI b1, sU, sU, sU, sU]) rfl (zXS_iload X0.here hx rfl (hb hby at_45) rfl (zXS_iload X0.here hx rfl (hb hby at_47) rfl (zXS_iload X0.here hx rfl (hb hby at_49) rfl hr)))) ?_
  have zz1291 : n0 ≤ h0.size := by omega
  refine gStaticJ Gl.cl (y := y_50) (argsL := [(.int (Int32.ofNat ls)), (.int a0_), (.int a1)]) (rest := []) (mc := 4) (ms := 20) (Φ := fun vm => EmJ Z vm h0) X0 hx hZ hS0 (by have q := hk0; omega) hown (mvT hZ (tw hw 1 rfl)) (mvT hZ (tw hw 2 rfl)) (mvT hZ (tw hw 3 rfl)) (mvT hZ (tw hw 4 rfl)) (by decide) (backOfJ (Φ := fun vm => EmJ Z vm h0) (W := 0) (mks l Z a0 hw [] ls a0_ a1 G1 h0 n0 zz1291 q0 (by assumption) ⟨Oo, (by omega)⟩ q5 q6 q7 (by assumption) (by assumption) h_ls hw_a0_ hw_a1) hZ (tw hw 4 rfl) (tw hw 3 rfl) (by decide) (by decide)) rfl (by rw [hml]; rfl) (lenOf pd_38 rfl) rfl (by exact Nat.le_of_eq rfl) (hb hby at_51) rfl e0 (fun vm₁ hvm => hphi_em.warm hvm) (by decide) (by decide) ?_
  intro v1291 T1291 Lc1291 hQ1291 X1291 hS1291 hZ1291 hown1291 hk1291
  obtain ⟨r_1291, t_1291, kb_1291, cd_1291, N2_1291, vs_1291, rfl, Nq1291, K1291, f1291_0, f1291_1, f1291_2, f1291_3, f1291_4, p1291_cod, ph1291_em⟩ := hQ1291
  have z1292 : h0.size ≤ T1291.heap.size := K1291.1
  have N1291 := Fr.app N0 Nq1291
  have lt1293 := own_alt f1291_0.lt
  have lt1294 := own_alt f1291_1.lt
  have lt1295 := own_alt f1291_2.lt
  have lt1296 := own_alt f1291_3.lt
  refine Gl.go (fun _ hr => zXS_astore X1291.here hx rfl (hb hby at_54) rfl rfl (l' := #[sI i0, sI i1, sI i2, sI i3, sI i4, sI (Int32.ofNat ls), sI (Int32.ofNat ln), sI a0_, sI a1, sI b0, sI b1, sR r_1291, sU, sU, sU]) rfl (zXS_iload X1291.here hx rfl (hb hby at_56) rfl (zXS_iload X1291.here hx rfl (hb hby at_58) rfl (zXS_iload X1291.here hx rfl (hb hby at_60) rfl hr)))) ?_
  have Oc1298 := (Oo.keep K1291 all0)
  have zz1297 : n0 ≤ T1291.heap.size := by omega
  refine gStaticJ Gl.cl (y := y_50) (argsL := [(.int (Int32.ofNat ln)), (.int b0), (.int b1)]) (rest := []) (mc := 4) (ms := 20) (Φ := fun vm => EmJ Z vm T1291.heap) X1291 hx hZ1291 hS1291 (by have q := hk1291; omega) hown1291 (mvT hZ1291 (tw hw 1 rfl)) (mvT hZ1291 (tw hw 2 rfl)) (mvT hZ1291 (tw hw 3 rfl)) (mvT hZ1291 (tw hw 4 rfl)) (by decide) (backOfJ (Φ := fun vm => EmJ Z vm T1291.heap) (W := 0) (mks l Z a0 hw [] ln b0 b1 G1 T1291.heap n0 zz1297 q0 (by assumption) ⟨Oc1298, (by omega)⟩ q5 q6 q7 (by assumption) (by assumption) h_ln hw_b0 hw_b1) hZ1291 (tw hw 4 rfl) (tw hw 3 rfl) (by decide) (by decide)) rfl (by rw [hml]; rfl) (lenOf pd_38 rfl) rfl (by exact Nat.le_of_eq rfl) (hb hby at_62) rfl (rfl : T1291.heap = T1291.heap) (fun vm₁ hvm => ph1291_em.warm hvm) (by decide) (by decide) ?_
  intro v1297 T1297 Lc1297 hQ1297 X1297 hS1297 hZ1297 hown1297 hk1297
  obtain ⟨r_1297, t_1297, kb_1297, cd_1297, N2_1297, vs_1297, rfl, Nq1297, K1297, f1297_0, f1297_1, f1297_2, f1297_3, f1297_4, p1297_cod, ph1297_em⟩ := hQ1297
  have z1299 : T1291.heap.size ≤ T1297.heap.size := K1297.1
  have N1297 := Fr.app N1291 Nq1297
  have lt1300 := own_alt f1297_0.lt
  have lt1301 := own_alt f1297_1.lt
  have lt1302 := own_alt f1297_2.lt
  have lt1303 := own_alt f1297_3.lt
  refine Gl.go (fun _ hr => zXS_astore X1297.here hx rfl (hb hby at_65) rfl rfl (l' := #[sI i0, sI i1, sI i2, sI i3, sI i4, sI (Int32.ofNat ls), sI (Int32.ofNat ln), sI a0_, sI a1, sI b0, sI b1, sR r_1291, sR r_1297, sU, sU]) rfl hr) ?_
  refine gNew Gl.cl X1297 hx hZ1297 hown1297 (tw hw 27 rfl) (tw hw 28 rfl) (tw hw 29 rfl) (rfl : T1297.heap = T1297.heap) rfl (hb hby at_67) (by decide) (by decide) ?_
  intro T1304 h1304 b1304 g1304 X1304 e1304 E1304 A1304 D1304
  have z1305 : T1297.heap.size ≤ h1304.size := E1304.1
  have lt1304 := own_alt A1304.lt
  have F1304_schema : Fld Z h1304 b1304 "com/example/frist/frist/TableName" "schema" "Ljava/lang/String;" .null := D1304 (Or.inr (tw hw 40 rfl)) (ty := (.object "java/lang/String")) (by decide)
  have F1304_name : Fld Z h1304 b1304 "com/example/frist/frist/TableName" "name" "Ljava/lang/String;" .null := D1304 (Or.inr (tw hw 42 rfl)) (ty := (.object "java/lang/String")) (by decide)
  refine Gl.go (fun _ hr => zXS_dup X1304.here hx rfl (hb hby at_70) rfl rfl (zXS_aload X1304.here hx rfl (hb hby at_71) rfl rfl (zXS_aload X1304.here hx rfl (hb hby at_73) rfl rfl hr))) ?_
  have zz1306 : n0 ≤ h1304.size := by omega
  refine gSpecialN Gl.cl (y := y_52) (b := b1304) (argsL := [(.ref r_1291), (.ref r_1297)]) (rest := [(.ref b1304)]) (mc := 0) (ms := 0) X1304 hx hZ1297 hown1297 rfl (mvT hZ1297 (tw hw 30 rfl)) (mvT hZ1297 (tw hw 31 rfl)) (mvT hZ1297 (tw hw 32 rfl)) (by decide) (backOf (W := 1) (tni l Z a0 hw [] b1304 r_1291 r_1297 h1304 n0 zz1306 (by omega) A1304 F1304_schema F1304_name) hZ1297 (tw hw 32 rfl) (tw hw 29 rfl) (by decide) (by decide)) rfl (by rw [hml]; rfl) (lenOf pd_39 rfl) rfl (by exact Nat.le_of_eq rfl) (hb hby at_75) rfl e1304 (by decide) (by decide) ?_
  intro v1306 T1306 Lc1306 hQ1306 X1306
  obtain ⟨rfl, Nq1306, K1306, f1306_0, f1306_1, f1306_2⟩ := hQ1306
  have z1307 : h1304.size ≤ T1306.heap.size := K1306.1
  have N1306 := Fr.app N1297 Nq1306
  have lt1308 := own_alt f1306_0.lt
  have lt1309 := own_alt f1306_1.lt
  have lt1310 := own_alt f1306_2.lt
  have om1312 : @LE.le Nat instLENat Z.heap.size b1304 := by omega
  have Oc1313 := (((Oc1298.keep K1297 all0).ext E1304).keep K1306 (allS (own_ale om1312) all0))
  have Ec1314 := (((f1291_0.keep K1297).ext E1304).keep K1306)
  have om1315 : ¬ @Eq Nat r_1291 b1304 := by omega
  have Fc1316 := (((f1291_1.keep K1297 nin0).ext E1304).keep K1306 (ninS (own_ane om1315) nin0))
  have Fc1317 := (((f1291_2.keep K1297 nin0).ext E1304).keep K1306 (ninS (own_ane om1315) nin0))
  have om1318 : ¬ @Eq Nat t_1291 b1304 := by omega
  have Vc1319 := (((f1291_3.keep K1297 nin0).ext E1304).keep K1306 (ninS (own_ane om1318) nin0))
  have Ec1320 := ((f1297_0.ext E1304).keep K1306)
  have om1321 : ¬ @Eq Nat r_1297 b1304 := by omega
  have Fc1322 := ((f1297_1.ext E1304).keep K1306 (ninS (own_ane om1321) nin0))
  have Fc1323 := ((f1297_2.ext E1304).keep K1306 (ninS (own_ane om1321) nin0))
  have om1324 : ¬ @Eq Nat t_1297 b1304 := by omega
  have Vc1325 := ((f1297_3.ext E1304).keep K1306 (ninS (own_ane om1324) nin0))
  have zz1311 : n0 ≤ T1306.heap.size := by omega
  have om1328 : @LE.le Nat instLENat T1297.heap.size b1304 := by omega
  have ph1327 := ph1297_em.keep (((Keep.refl T1297.heap []).ext E1304).trans K1306 (allS (P := fun x_ => x_ ∈ ([] : List Addr) ∨ T1297.heap.size ≤ x_) (Or.inr (own_ale om1328)) all0))
  have ph1326 : IbJ Z T1297.vm T1306.heap := ph1327.ib
  refine gVirtualJ Gl.cl (y := y_53) (z := y_53) (b := b1304) (argsL := []) (rest := []) (mc := 7) (ms := 120) (Φ := fun vm => IbJ Z vm T1306.heap) X1306 hx hZ1297 hS1297 (by have q := hk1297; omega) hown1297 (mvT hZ1297 (tw hw 43 rfl)) (mvT hZ1297 (tw hw 44 rfl)) (notFace_of_selects (args := #[]) (mvT hZ1297 (tw hw 46 rfl))) (mvT hZ1297 (tw hw 46 rfl)) (mvT hZ1297 (tw hw 45 rfl)) (by decide) f1306_0 (backOfJ (Φ := fun vm => IbJ Z vm T1306.heap) (W := 0) (qua l Z a0 hw [] b1304 r_1291 t_1291 kb_1291 cd_1291 N2_1291 vs_1291 (([a0_, a1] : List Int32).take ls) r_1297 t_1297 kb_1297 cd_1297 N2_1297 vs_1297 (([b0, b1] : List Int32).take ln) G1 G3 T1306.heap n0 zz1311 q0 (by assumption) ⟨Oc1313, (by omega)⟩ q3 (by assumption) q5 q6 q7 (by assumption) (by assumption) f1306_0 f1306_1 f1306_2 Ec1314 Fc1316 Fc1317 Vc1319 p1291_cod (own_wid2 hw_a0_ hw_a1) own_len2 Ec1320 Fc1322 Fc1323 Vc1325 p1297_cod (own_wid2 hw_b0 hw_b1) own_len2) hZ1297 (tw hw 47 rfl) (tw hw 29 rfl) (by decide) (by decide)) rfl (by rw [hml]; rfl) (lenOf pd_36 rfl) rfl (by exact Nat.le_of_eq rfl) (hb hby at_78) rfl (rfl : T1306.heap = T1306.heap) (fun vm₁ hvm => ph1326.warm hvm) (by decide) (by decide) ?_
  intro v1311 T1311 Lc1311 hQ1311 X1311 hS1311 hZ1311 hown1311 hk1311
  obtain ⟨r_1311, tr_1311, kbr_1311, cdr_1311, N2_1311, vsr_1311, rfl, Nq1311, K1311, f1311_0, f1311_1, f1311_2, f1311_3, f1311_4, p1311_cod⟩ := hQ1311
  have z1329 : T1306.heap.size ≤ T1311.heap.size := K1311.1
  have N1311 := Fr.app N1306 Nq1311
  have lt1330 := own_alt f1311_0.lt
  have lt1331 := own_alt f1311_1.lt
  have lt1332 := own_alt f1311_2.lt
  have lt1333 := own_alt f1311_3.lt
  have hcr : StrChars.Road.CodA (rs ls ln a0_ a1 b0 b1) cdr_1311 N2_1311 vsr_1311 := p1311_cod
  have hbr : ∀ c ∈ rs ls ln a0_ a1 b0 b1, Wid c := rs_wid hw_a0_ hw_a1 hw_b0 hw_b1
  have hlr : (rs ls ln a0_ a1 b0 b1).length ≤ 4000 := by rw [rs_len h_ls h_ln]; omega
  refine Gl.go (fun _ hr => zXS_astore X1311.here hx rfl (hb hby at_81) rfl rfl (l' := #[sI i0, sI i1, sI i2, sI i3, sI i4, sI (Int32.ofNat ls), sI (Int32.ofNat ln), sI a0_, sI a1, sI b0, sI b1, sR r_1291, sR r_1297, sR r_1311, sU]) rfl (zXS_aload X1311.here hx rfl (hb hby at_83) rfl rfl (zXT_ifnonnullYes X1311.here hx rfl (pc0 := 85) (pc' := 90) rfl (hb hby at_85) rfl (by decide) (by decide) (zXS_iload X1311.here hx rfl (hb hby at_90) rfl (zXS_iconst X1311.here hx rfl (hb hby at_92) (zXS_iadd X1311.here hx rfl (hb hby at_93) rfl (zXS_iload X1311.here hx rfl (hb hby at_94) rfl (zXS_iadd X1311.here hx rfl (hb hby at_96) rfl hr)))))))) ?_
  show Gl p.tables e below _ (T1311.setTop (mkF m 97 #[sI i0, sI i1, sI i2, sI i3, sI i4, sI (Int32.ofNat ls), sI (Int32.ofNat ln), sI a0_, sI a1, sI b0, sI b1, sR r_1291, sR r_1297, sR r_1311, sU] [(.int (((Int32.ofNat ls) + (1 : Int32)) + (Int32.ofNat ln)))]))
  rw [(show Int32.ofNat ls + (1 : Int32) + Int32.ofNat ln = Int32.ofNat (ls + 1 + ln) from by rw [own_nat_succ, own_add32])]
  show Gl p.tables e below _ (T1311.setTop (mkF m 97 #[sI i0, sI i1, sI i2, sI i3, sI i4, sI (Int32.ofNat ls), sI (Int32.ofNat ln), sI a0_, sI a1, sI b0, sI b1, sR r_1291, sR r_1297, sR r_1311, sU] [(.int (Int32.ofNat (ls + 1 + ln)))]))
  refine Gl.go (fun _ hr => zXS_istore X1311.here hx rfl (hb hby at_97) rfl (l' := #[sI i0, sI i1, sI i2, sI i3, sI i4, sI (Int32.ofNat ls), sI (Int32.ofNat ln), sI a0_, sI a1, sI b0, sI b1, sR r_1291, sR r_1297, sR r_1311, sI (Int32.ofNat (ls + 1 + ln))]) rfl (zXS_aload X1311.here hx rfl (hb hby at_99) rfl rfl hr)) ?_
  have Oc1335 := (Oc1313.keep K1311 all0)
  refine gVirtualN Gl.cl (y := y_12) (z := y_12) (b := r_1311) (argsL := []) (rest := []) (mc := 0) (ms := 0) (Q := fun v h' L => v = some (.int (Int32.ofNat (rs ls ln a0_ a1 b0 b1).length)) ∧ L = [] ∧ h' = T1311.heap) X1311 hx hZ1311 hown1311 (mvT hZ1311 (tw hw 160 rfl)) (mvT hZ1311 (tw hw 77 rfl)) (notFace_of_selects (args := #[]) (mvT hZ1311 (tw hw 79 rfl))) (mvT hZ1311 (tw hw 79 rfl)) (mvT hZ1311 (tw hw 78 rfl)) (by decide) f1311_0 (StrChars.Road.lenW (W := 0) hZ1311 hln (kI := 4) (tw hw 6 rfl) f1311_0 f1311_1 f1311_2 f1311_3 hcr hbr (q0.ext Oc1335.2) P5 hlr (by decide) (by decide)) rfl (by rw [hml]; rfl) (lenOf pd_18 rfl) rfl (by exact Nat.le_of_eq rfl) (hb hby at_101) rfl (rfl : T1311.heap = T1311.heap) (by decide) (by decide) ?_
  intro v1334 T1334 Lc1334 hQ1334 X1334
  obtain ⟨rfl, rfl, e1334⟩ := hQ1334
  have N1334 := own_fr_nil N1311
  refine Gl.go (fun _ hr => zXS_iload X1334.here hx rfl (hb hby at_104) rfl hr) ?_
  refine Gl.go (fun _ hr => zXS_icmpYes X1334.here hx rfl (pc0 := 106) (pc' := 111) rfl (hb hby at_106) rfl (XT.ii_eq_t (congrArg Int32.ofNat (rs_len h_ls h_ln))) (by decide) (by decide) (zXS_aload X1334.here hx rfl (hb hby at_111) rfl rfl (zXS_iconst X1334.here hx rfl (hb hby at_113) (zXS_iload X1334.here hx rfl (hb hby at_114) rfl (zXS_iload X1334.here hx rfl (hb hby at_116) rfl (zXS_iload X1334.here hx rfl (hb hby at_118) rfl (zXS_iload X1334.here hx rfl (hb hby at_120) rfl (zXS_iload X1334.here hx rfl (hb hby at_122) rfl (zXS_iload X1334.here hx rfl (hb hby at_124) rfl hr))))))))) ?_
  have zz1336 : n0 ≤ T1311.heap.size := by omega
  refine gStaticN Gl.cl (y := y_54) (argsL := [(.ref r_1311), (.int (0 : Int32)), (.int (Int32.ofNat (ls + 1 + ln))), (.int (Int32.ofNat ls)), (.int a0_), (.int a1), (.int b0), (.int b1)]) (rest := []) (mc := 0) (ms := 0) X1334 hx hZ1311 hown1311 (mvT hZ1311 (tw hw 161 rfl)) (mvT hZ1311 (tw hw 162 rfl)) (mvT hZ1311 (tw hw 3 rfl)) (mvT hZ1311 (tw hw 163 rfl)) (by decide) (backOf (W := 0) (okc l Z a0 hw [] r_1311 tr_1311 kbr_1311 cdr_1311 N2_1311 vsr_1311 ls ln 0 a0_ a1 b0 b1 G1 G3 T1311.heap n0 zz1336 q0 (by assumption) ⟨Oc1335, (by omega)⟩ q3 (by assumption) q5 q6 q7 f1311_0 f1311_1 f1311_2 f1311_3 hcr hbr h_ls h_ln (by decide)) hZ1311 (tw hw 163 rfl) (tw hw 3 rfl) (by decide) (by decide)) rfl (by rw [hml]; rfl) (lenOf pd_40 rfl) rfl (by exact Nat.le_of_eq rfl) (hb hby at_126) rfl e1334 (by decide) (by decide) ?_
  intro v1336 T1336 Lc1336 hQ1336 X1336
  obtain ⟨rfl, Nq1336, e1336⟩ := hQ1336
  have N1336 := Fr.app N1334 Nq1336
  refine Gl.go (fun _ hr => zXS_ifNo X1336.here hx rfl (hb hby at_129) rfl (XT.i0_eq_f (by decide)) (zXS_aload X1336.here hx rfl (hb hby at_132) rfl rfl (zXS_iconst X1336.here hx rfl (hb hby at_134) (zXS_iload X1336.here hx rfl (hb hby at_135) rfl (zXS_iload X1336.here hx rfl (hb hby at_137) rfl (zXS_iload X1336.here hx rfl (hb hby at_139) rfl (zXS_iload X1336.here hx rfl (hb hby at_141) rfl (zXS_iload X1336.here hx rfl (hb hby at_143) rfl (zXS_iload X1336.here hx rfl (hb hby at_145) rfl hr))))))))) ?_
  have zz1337 : n0 ≤ T1311.heap.size := by omega
  refine gStaticN Gl.cl (y := y_54) (argsL := [(.ref r_1311), (.int (1 : Int32)), (.int (Int32.ofNat (ls + 1 + ln))), (.int (Int32.ofNat ls)), (.int a0_), (.int a1), (.int b0), (.int b1)]) (rest := []) (mc := 0) (ms := 0) X1336 hx hZ1311 hown1311 (mvT hZ1311 (tw hw 161 rfl)) (mvT hZ1311 (tw hw 162 rfl)) (mvT hZ1311 (tw hw 3 rfl)) (mvT hZ1311 (tw hw 163 rfl)) (by decide) (backOf (W := 0) (okc l Z a0 hw [] r_1311 tr_1311 kbr_1311 cdr_1311 N2_1311 vsr_1311 ls ln 1 a0_ a1 b0 b1 G1 G3 T1311.heap n0 zz1337 q0 (by assumption) ⟨Oc1335, (by omega)⟩ q3 (by assumption) q5 q6 q7 f1311_0 f1311_1 f1311_2 f1311_3 hcr hbr h_ls h_ln (by decide)) hZ1311 (tw hw 163 rfl) (tw hw 3 rfl) (by decide) (by decide)) rfl (by rw [hml]; rfl) (lenOf pd_40 rfl) rfl (by exact Nat.le_of_eq rfl) (hb hby at_147) rfl e1336 (by decide) (by decide) ?_
  intro v1337 T1337 Lc1337 hQ1337 X1337
  obtain ⟨rfl, Nq1337, e1337⟩ := hQ1337
  have N1337 := Fr.app N1336 Nq1337
  refine Gl.go (fun _ hr => zXS_ifNo X1337.here hx rfl (hb hby at_150) rfl (XT.i0_eq_f (by decide)) (zXS_aload X1337.here hx rfl (hb hby at_153) rfl rfl (zXS_iconst X1337.here hx rfl (hb hby at_155) (zXS_iload X1337.here hx rfl (hb hby at_156) rfl (zXS_iload X1337.here hx rfl (hb hby at_158) rfl (zXS_iload X1337.here hx rfl (hb hby at_160) rfl (zXS_iload X1337.here hx rfl (hb hby at_162) rfl (zXS_iload X1337.here hx rfl (hb hby at_164) rfl (zXS_iload X1337.here hx rfl (hb hby at_166) rfl hr))))))))) ?_
  have zz1338 : n0 ≤ T1311.heap.size := by omega
  refine gStaticN Gl.cl (y := y_54) (argsL := [(.ref r_1311), (.int (2 : Int32)), (.int (Int32.ofNat (ls + 1 + ln))), (.int (Int32.ofNat ls)), (.int a0_), (.int a1), (.int b0), (.int b1)]) (rest := []) (mc := 0) (ms := 0) X1337 hx hZ1311 hown1311 (mvT hZ1311 (tw hw 161 rfl)) (mvT hZ1311 (tw hw 162 rfl)) (mvT hZ1311 (tw hw 3 rfl)) (mvT hZ1311 (tw hw 163 rfl)) (by decide) (backOf (W := 0) (okc l Z a0 hw [] r_1311 tr_1311 kbr_1311 cdr_1311 N2_1311 vsr_1311 ls ln 2 a0_ a1 b0 b1 G1 G3 T1311.heap n0 zz1338 q0 (by assumption) ⟨Oc1335, (by omega)⟩ q3 (by assumption) q5 q6 q7 f1311_0 f1311_1 f1311_2 f1311_3 hcr hbr h_ls h_ln (by decide)) hZ1311 (tw hw 163 rfl) (tw hw 3 rfl) (by decide) (by decide)) rfl (by rw [hml]; rfl) (lenOf pd_40 rfl) rfl (by exact Nat.le_of_eq rfl) (hb hby at_168) rfl e1337 (by decide) (by decide) ?_
  intro v1338 T1338 Lc1338 hQ1338 X1338
  obtain ⟨rfl, Nq1338, e1338⟩ := hQ1338
  have N1338 := Fr.app N1337 Nq1338
  refine Gl.go (fun _ hr => zXS_ifNo X1338.here hx rfl (hb hby at_171) rfl (XT.i0_eq_f (by decide)) (zXS_aload X1338.here hx rfl (hb hby at_174) rfl rfl (zXS_iconst X1338.here hx rfl (hb hby at_176) (zXS_iload X1338.here hx rfl (hb hby at_177) rfl (zXS_iload X1338.here hx rfl (hb hby at_179) rfl (zXS_iload X1338.here hx rfl (hb hby at_181) rfl (zXS_iload X1338.here hx rfl (hb hby at_183) rfl (zXS_iload X1338.here hx rfl (hb hby at_185) rfl (zXS_iload X1338.here hx rfl (hb hby at_187) rfl hr))))))))) ?_
  have zz1339 : n0 ≤ T1311.heap.size := by omega
  refine gStaticN Gl.cl (y := y_54) (argsL := [(.ref r_1311), (.int (3 : Int32)), (.int (Int32.ofNat (ls + 1 + ln))), (.int (Int32.ofNat ls)), (.int a0_), (.int a1), (.int b0), (.int b1)]) (rest := []) (mc := 0) (ms := 0) X1338 hx hZ1311 hown1311 (mvT hZ1311 (tw hw 161 rfl)) (mvT hZ1311 (tw hw 162 rfl)) (mvT hZ1311 (tw hw 3 rfl)) (mvT hZ1311 (tw hw 163 rfl)) (by decide) (backOf (W := 0) (okc l Z a0 hw [] r_1311 tr_1311 kbr_1311 cdr_1311 N2_1311 vsr_1311 ls ln 3 a0_ a1 b0 b1 G1 G3 T1311.heap n0 zz1339 q0 (by assumption) ⟨Oc1335, (by omega)⟩ q3 (by assumption) q5 q6 q7 f1311_0 f1311_1 f1311_2 f1311_3 hcr hbr h_ls h_ln (by decide)) hZ1311 (tw hw 163 rfl) (tw hw 3 rfl) (by decide) (by decide)) rfl (by rw [hml]; rfl) (lenOf pd_40 rfl) rfl (by exact Nat.le_of_eq rfl) (hb hby at_189) rfl e1338 (by decide) (by decide) ?_
  intro v1339 T1339 Lc1339 hQ1339 X1339
  obtain ⟨rfl, Nq1339, e1339⟩ := hQ1339
  have N1339 := Fr.app N1338 Nq1339
  refine Gl.go (fun _ hr => zXS_ifNo X1339.here hx rfl (hb hby at_192) rfl (XT.i0_eq_f (by decide)) (zXS_aload X1339.here hx rfl (hb hby at_195) rfl rfl (zXS_iconst X1339.here hx rfl (hb hby at_197) (zXS_iload X1339.here hx rfl (hb hby at_198) rfl (zXS_iload X1339.here hx rfl (hb hby at_200) rfl (zXS_iload X1339.here hx rfl (hb hby at_202) rfl (zXS_iload X1339.here hx rfl (hb hby at_204) rfl (zXS_iload X1339.here hx rfl (hb hby at_206) rfl (zXS_iload X1339.here hx rfl (hb hby at_208) rfl hr))))))))) ?_
  have zz1340 : n0 ≤ T1311.heap.size := by omega
  refine gStaticN Gl.cl (y := y_54) (argsL := [(.ref r_1311), (.int (4 : Int32)), (.int (Int32.ofNat (ls + 1 + ln))), (.int (Int32.ofNat ls)), (.int a0_), (.int a1), (.int b0), (.int b1)]) (rest := []) (mc := 0) (ms := 0) X1339 hx hZ1311 hown1311 (mvT hZ1311 (tw hw 161 rfl)) (mvT hZ1311 (tw hw 162 rfl)) (mvT hZ1311 (tw hw 3 rfl)) (mvT hZ1311 (tw hw 163 rfl)) (by decide) (backOf (W := 0) (okc l Z a0 hw [] r_1311 tr_1311 kbr_1311 cdr_1311 N2_1311 vsr_1311 ls ln 4 a0_ a1 b0 b1 G1 G3 T1311.heap n0 zz1340 q0 (by assumption) ⟨Oc1335, (by omega)⟩ q3 (by assumption) q5 q6 q7 f1311_0 f1311_1 f1311_2 f1311_3 hcr hbr h_ls h_ln (by decide)) hZ1311 (tw hw 163 rfl) (tw hw 3 rfl) (by decide) (by decide)) rfl (by rw [hml]; rfl) (lenOf pd_40 rfl) rfl (by exact Nat.le_of_eq rfl) (hb hby at_210) rfl e1339 (by decide) (by decide) ?_
  intro v1340 T1340 Lc1340 hQ1340 X1340
  obtain ⟨rfl, Nq1340, e1340⟩ := hQ1340
  have N1340 := Fr.app N1339 Nq1340
  refine Gl.go (fun _ hr => zXS_ifNo X1340.here hx rfl (hb hby at_213) rfl (XT.i0_eq_f (by decide)) (zXS_iconst X1340.here hx rfl (hb hby at_216) (zXS_goto X1340.here hx rfl (pc0 := 217) (pc' := 221) rfl (hb hby at_217) (by decide) (by decide) hr))) ?_
  obtain ⟨fs, hr, hrun, hended, hE⟩ := X1340.leaveW hS1311 (by have q := congrArg Array.size e1340; have q2 := hk1311; omega) (v := some (.int (1 : Int32))) (fun h => by rw [Bd.returns] at h; cases h)
  have om1341 : @LE.le Nat instLENat h0.size b1304 := by omega
  refine ⟨_, _, retN X1340 hx (t := .boolean) Bd.returns (by simp) (hb hby at_221) hr, hrun, hended, _, _, rfl, ?_, ⟨hE.1, hE.2.1, hE.2.2.1, hE.2.2.2.mono (by decide) (by decide)⟩⟩
  show Qlawrm Z i0 i1 i2 i3 i4 G1 G3 h0 n0 _ T1340.heap T1340.vm _
  rw [e1340]
  exact ⟨rfl, N1340, ((((((Keep.refl h0 []).trans K1291 all0).trans K1297 all0).ext E1304).trans K1306 (allS (P := fun x_ => x_ ∈ ([] : List Addr) ∨ h0.size ≤ x_) (Or.inr (own_ale om1341)) all0)).trans K1311 all0)⟩
set_option maxRecDepth 65536 in
set_option maxHeartbeats 40000000 in
theorem comes_1 {Post : Tables → Env → Array Value → State → Outcome → State → Prop} (hpost : ∀ tb e args s v u, (limb_1_1.after args s (.returned v) u = true ∧ limb_1_2.after args s (.returned v) u = true ∧ True) → ReturnedEndW s (.returned v) u (Jvm.fieldLocs frame_1_writes args s ++ Jvm.arrayLocs frame_1_arrays args s ++ Jvm.staticLocs frame_1_statics s) 40 2304 → Post tb e args s (.returned v) u) :
    ArmFor flags0 classFile x code maxLocals ret World_1 tables_1 room_1 Calls_1 rest_1 Pre_1 Post := by
  intro l hfl _ _ p e ha hc hk s m args below hf hA hF happ hP
  obtain ⟨hcalls, hrest, hpre⟩ := hP
  obtain ⟨-, -, -, hnamed, -, -, -, hat⟩ := (Spec.applies_iff hf).mp happ
  obtain ⟨hg, hn⟩ := and_e (Cond.before_iff.mp (show (Jvm.Cond.and given_1 narrow_1).before args s = true from hpre))
  obtain ⟨hcount, hgs⟩ := and_e hg
  obtain ⟨w0, w1, w2, w3, w4, rfl⟩ : ∃ w0 w1 w2 w3 w4 : Value, args = #[w0, w1, w2, w3, w4] := by
    have hs : args.size = 5 := by simpa [Cond.value, given_1] using hcount
    obtain ⟨L⟩ := args
    match L, hs with
    | [w0, w1, w2, w3, w4], _ => exact ⟨w0, w1, w2, w3, w4, rfl⟩
  obtain ⟨ha0, hr0⟩ := and_e hgs
  obtain ⟨i0, ei0⟩ := is_v ha0
  obtain rfl : w0 = (.int i0) := Option.some.inj ei0
  obtain ⟨ha1, hr1⟩ := and_e hr0
  obtain ⟨i1, ei1⟩ := is_v ha1
  obtain rfl : w1 = (.int i1) := Option.some.inj ei1
  obtain ⟨ha2, hr2⟩ := and_e hr1
  obtain ⟨i2, ei2⟩ := is_v ha2
  obtain rfl : w2 = (.int i2) := Option.some.inj ei2
  obtain ⟨ha3, hr3⟩ := and_e hr2
  obtain ⟨i3, ei3⟩ := is_v ha3
  obtain rfl : w3 = (.int i3) := Option.some.inj ei3
  obtain ⟨i4, ei4⟩ := is_v hr3
  obtain rfl : w4 = (.int i4) := Option.some.inj ei4
  have hw := fun d (hd : d ∈ tables_1) => atoms_spec (ws := Jvm.Cond.code x code maxLocals ret :: tables_1) hat d (List.mem_cons_of_mem _ hd)
  have hfit : Fit s := fun {y c} hc i hi => by
    obtain ⟨ha, rfl⟩ := Array.getElem?_eq_some_iff.mp hc
    have q := List.all_eq_true.mp ((Array.all_eq_true_iff_forall_mem.mp hF) _ (Array.getElem_mem ha)) i (List.mem_range.mpr hi)
    simpa [Array.getElem?_eq_getElem hi] using q
  obtain ⟨hsets, hown0⟩ := atoms_of _ (rest_1_c_eq ▸ (show rest_1_c.before _ s = true from hrest))
  have hr0 := Cond.before_iff.mp hown0
  have n3 := not_v (Cond.before_iff.mp (hsets _ (List.mem_of_getElem? (i := 2) rfl)))
  obtain ⟨G1, eG1⟩ := is_v (Cond.before_iff.mp (hsets _ (List.mem_of_getElem? (i := 1) rfl)))
  have SG1 : Sta s s.heap "java/lang/String" "COMPACT_STRINGS" "Z" (.int G1) := Sta.start eG1 (Or.inl (hsets _ (List.mem_of_getElem? (i := 0) rfl)))
  have cG1 : ¬ (G1 = (0 : Int32)) := gotF (Cond.eq_ints eG1 (Term.int_eval (0))) n3
  obtain ⟨G3, eG3, rG3⟩ := isR_v (Cond.before_iff.mp (hsets _ (List.mem_of_getElem? (i := 8) rfl)))
  have SG3 : Sta s s.heap "jdk/internal/util/Preconditions" "SIOOBE_FORMATTER" "Ljava/util/function/BiFunction;" G3 := Sta.start eG3 (Or.inl (hsets _ (List.mem_of_getElem? (i := 7) rfl)))
  have SU1 : Sta s s.heap "java/lang/StringUTF16" "$assertionsDisabled" "Z" (.int 1) := Sta.start (own_eqI (Cond.before_iff.mp (hsets _ (List.mem_of_getElem? (i := 12) rfl)))) (Or.inl (hsets _ (List.mem_of_getElem? (i := 11) rfl)))
  have SU2 : Sta s s.heap "java/lang/StringUTF16" "HI_BYTE_SHIFT" "I" (.int 0) := Sta.start (own_eqI (Cond.before_iff.mp (hsets _ (List.mem_of_getElem? (i := 15) rfl)))) (Or.inl (hsets _ (List.mem_of_getElem? (i := 14) rfl)))
  have SU3 : Sta s s.heap "java/lang/StringUTF16" "LO_BYTE_SHIFT" "I" (.int 8) := Sta.start (own_eqI (Cond.before_iff.mp (hsets _ (List.mem_of_getElem? (i := 18) rfl)))) (Or.inl (hsets _ (List.mem_of_getElem? (i := 17) rfl)))
  have hcw : Jvm.Lit.compactW.before _ s = true := (hsets _ (List.mem_of_getElem? (i := 2) rfl))
  have hc53 : Jvm.Lit.constHeld s "com/example/frist/frist/TableName" 53 := hcalls.1 _ (List.mem_of_getElem? (i := 0) rfl)
  have hc7 : Jvm.Lit.constHeld s "java/lang/String" 7 := hcalls.1 _ (List.mem_of_getElem? (i := 1) rfl)
  obtain ⟨n, o, h1, h2, h3, _, L, rfl, ⟨rfl, N, -⟩, hq⟩ := lawrm l s _ hw tables_1 i0 i1 i2 i3 i4 G1 G3 s.heap s.heap.size (Nat.le_refl _) SG1 cG1 ⟨Old.start s, Nat.le_refl _⟩ SG3 rG3 SU1 SU2 SU3 hcw hc7 hc53 p e ha hc hk s m _ below hf ((Spec.applies_iff_loose hf).mp happ).1 ⟨rfl, State.Warmed39.refl s, rfl, (Or.inl IB.start)⟩ trivial
  refine ⟨n, _, h1, h2, h3, hpost _ _ _ _ _ _ ⟨Cond.after_iff.mpr rfl, Cond.after_iff.mpr (eq_i res_at (Term.int_eval (1)) rfl), trivial⟩ ⟨hq.1, hq.2.1, hq.2.2.1, (hq.2.2.2.sift fun y hy => Or.inr (N y hy)).mono (by decide) (by decide)⟩⟩
theorem main_1_1 : Claimed_1_1 := comes_1 fun _ _ _ _ _ _ h hF => ⟨h.1, hF⟩
theorem main_1_2 : Claimed_1_2 := comes_1 fun _ _ _ _ _ _ h hF => ⟨h.2.1, hF⟩
end Jvm.Pilot.@@N@@
namespace Jvm.Pilot.@@N@@
open Jvm Jvm.ClassFile Sem Op Lib Jvm.Free Jvm.Stand Jvm.Pilot.@@N@@.Jvm.D
/-! MADE BY PROGRAM (witnessworld.py) out of the Statement's table words and the real class files: 25 classes; the members and pool entries that the words name. The judged class is class 1, her method 1. -/
namespace start1
open Jvm.ClassFile
def u (s : String) : CpInfo := .utf8 (stringToUtf16 s)
/-- a pool by its gaps: so many unusable entries, then the entry; so many at the end -/
def gap : Nat → List CpInfo → List CpInfo
  | 0, r => r
  | n + 1, r => .unusable :: gap n r
def poolList (es : List (Nat × CpInfo)) (last : Nat) : List CpInfo := es.foldr (fun e r => gap e.1 (e.2 :: r)) (gap last [])
def pool (es : List (Nat × CpInfo)) (last : Nat) : Array CpInfo := ⟨poolList es last⟩
def fileOf (pool : Array CpInfo) (this : Nat) (attrs : Array Attribute := #[]) (ms : Array MethodInfo := #[]) (fl : Nat := 33) (sup : Nat := 0) (ifs : Array Nat := #[]) (fds : Array FieldInfo := #[]) : ClassFile where
  minorVersion := 0
  majorVersion := 65
  constantPool := pool
  accessFlags := fl
  thisClass := this
  superClass := sup
  interfaces := ifs
  fields := fds
  methods := ms
  attributes := attrs
def plain (name : String) (sup : Option ClassId) : Class where
  name := name
  kind := .ordinary
  loader := none
  accessFlags := 33
  super := sup
  interfaces := #[]
  cf := none
  fields := #[]
  methods := #[]
  instanceTypes := #[]
  staticTypes := #[]
  resolved := #[]
  callSites := []
  init := .initialized
  statics := none
  mirror := none

def pool0 : Array CpInfo := pool [(5, u "<init>"), (0, u "()V"), (1, .class_ 10), (1, u "java/lang/Object")] 113

def k0c0 : Code := { maxStack := 0, maxLocals := 1, code := object_method_1_code, exceptionTable := #[], attributes := #[] }
def k0m0 : Method := { name := "<init>", desc := "()V", sig := { parameters := [], returnType := none }, accessFlags := 1, code := some k0c0 }
/-- java/lang/Object -/
def k0 : Class := { plain "java/lang/Object" none with
  accessFlags := 33
  interfaces := #[]
  cf := some (fileOf pool0 8 #[] #[{ accessFlags := 1, nameIndex := 5, descriptorIndex := 6, attributes := #[] }] 33 0 #[] #[])
  fields := #[]
  methods := #[k0m0]
  instanceTypes := #[]
  staticTypes := #[]
  resolved := Array.replicate 124 none
  statics := none }

def pool1 : Array CpInfo := pool [(2, .class_ 4), (1, u "java/lang/Object"), (0, u "<init>"), (0, u "()V"), (0, .integer 65535), (0, .methodref 9 10), (0, .class_ 11), (0, .nameAndType 12 13), (0, u "com/example/frist/frist/TableNameQualifiedPinLaw"), (0, u "mk"), (0, u "(ICC)Ljava/lang/String;"), (0, .class_ 15), (0, u "com/example/frist/frist/TableName"), (0, .methodref 14 17), (0, .nameAndType 5 18), (0, u "(Ljava/lang/String;Ljava/lang/String;)V"), (0, .methodref 14 20), (0, .nameAndType 21 22), (0, u "qualified"), (0, u "()Ljava/lang/String;"), (0, .methodref 24 25), (0, .class_ 26), (0, .nameAndType 27 28), (0, u "java/lang/String"), (0, u "length"), (0, u "()I"), (0, .methodref 9 30), (0, .nameAndType 31 32), (0, u "ok"), (0, u "(Ljava/lang/String;IIICCCC)Z"), (0, .methodref 24 34), (0, .nameAndType 5 35), (0, u "([C)V"), (0, .methodref 24 37), (0, .nameAndType 38 39), (0, u "valueOf"), (0, u "(C)Ljava/lang/String;"), (0, .methodref 24 41), (0, .nameAndType 42 43), (0, u "charAt"), (0, u "(I)C"), (2, u "law"), (0, u "(IIIII)Z")] 3

def k1m0 : Method := { name := "<init>", desc := "()V", sig := { parameters := [], returnType := none }, accessFlags := 1, code := none }
def k1c1 : Code := { maxStack := 8, maxLocals := 15, code := code, exceptionTable := #[], attributes := #[] }
def k1m1 : Method := { name := "law", desc := "(IIIII)Z", sig := { parameters := [.int, .int, .int, .int, .int], returnType := some .boolean }, accessFlags := 9, code := some k1c1 }
def k1c2 : Code := { maxStack := 3, maxLocals := 4, code := method_3_code, exceptionTable := #[], attributes := #[] }
def k1m2 : Method := { name := "mk", desc := "(ICC)Ljava/lang/String;", sig := { parameters := [.int, .char, .char], returnType := some (.object "java/lang/String") }, accessFlags := 10, code := some k1c2 }
def k1c3 : Code := { maxStack := 2, maxLocals := 10, code := method_4_code, exceptionTable := #[], attributes := #[] }
def k1m3 : Method := { name := "ok", desc := "(Ljava/lang/String;IIICCCC)Z", sig := { parameters := [(.object "java/lang/String"), .int, .int, .int, .char, .char, .char, .char], returnType := some .boolean }, accessFlags := 10, code := some k1c3 }
/-- com/example/frist/frist/TableNameQualifiedPinLaw -/
def k1 : Class := { plain "com/example/frist/frist/TableNameQualifiedPinLaw" (some 0) with
  accessFlags := 49
  interfaces := #[]
  cf := some (fileOf pool1 9 #[] #[{ accessFlags := 1, nameIndex := 5, descriptorIndex := 6, attributes := #[] }, { accessFlags := 9, nameIndex := 46, descriptorIndex := 47, attributes := #[] }, { accessFlags := 10, nameIndex := 12, descriptorIndex := 13, attributes := #[] }, { accessFlags := 10, nameIndex := 31, descriptorIndex := 32, attributes := #[] }] 49 2 #[] #[])
  fields := #[]
  methods := #[k1m0, k1m1, k1m2, k1m3]
  instanceTypes := #[]
  staticTypes := #[]
  resolved := Array.replicate 51 none
  statics := none }

def pool2 : Array CpInfo := pool [(1, .class_ 2), (0, u "java/io/Serializable"), (0, .class_ 4), (0, u "java/lang/Object")] 2

/-- java/io/Serializable -/
def k2 : Class := { plain "java/io/Serializable" (some 0) with
  accessFlags := 1537
  interfaces := #[]
  cf := some (fileOf pool2 1 #[] #[] 1537 3 #[] #[])
  fields := #[]
  methods := #[]
  instanceTypes := #[]
  staticTypes := #[]
  resolved := Array.replicate 7 none
  statics := none }

def pool3 : Array CpInfo := pool [(1, .class_ 2), (0, u "java/lang/Comparable"), (0, .class_ 4), (0, u "java/lang/Object")] 7

/-- java/lang/Comparable -/
def k3 : Class := { plain "java/lang/Comparable" (some 0) with
  accessFlags := 1537
  interfaces := #[]
  cf := some (fileOf pool3 1 #[] #[] 1537 3 #[] #[])
  fields := #[]
  methods := #[]
  instanceTypes := #[]
  staticTypes := #[]
  resolved := Array.replicate 12 none
  statics := none }

def pool4 : Array CpInfo := pool [(2, .class_ 4), (1, u "java/lang/CharSequence"), (42, .class_ 48), (0, u "java/lang/CharSequence$1CodePointIterator"), (10, .class_ 60), (0, u "java/lang/CharSequence$1CharIterator"), (5, .class_ 67), (0, u "java/lang/Object")] 63

/-- java/lang/CharSequence -/
def k4 : Class := { plain "java/lang/CharSequence" (some 0) with
  accessFlags := 1537
  interfaces := #[]
  cf := some (fileOf pool4 2 #[.nestMembers #[47, 59]] #[] 1537 66 #[] #[])
  fields := #[]
  methods := #[]
  instanceTypes := #[]
  staticTypes := #[]
  resolved := Array.replicate 131 none
  statics := none }

def pool5 : Array CpInfo := pool [(1, .class_ 2), (0, u "java/lang/constant/Constable"), (0, .class_ 4), (0, u "java/lang/Object")] 6

/-- java/lang/constant/Constable -/
def k5 : Class := { plain "java/lang/constant/Constable" (some 0) with
  accessFlags := 1537
  interfaces := #[]
  cf := some (fileOf pool5 1 #[] #[] 1537 3 #[] #[])
  fields := #[]
  methods := #[]
  instanceTypes := #[]
  staticTypes := #[]
  resolved := Array.replicate 11 none
  statics := none }

def pool6 : Array CpInfo := pool [(1, .class_ 2), (0, u "java/lang/constant/ConstantDesc"), (0, .class_ 4), (0, u "java/lang/Object")] 32

/-- java/lang/constant/ConstantDesc -/
def k6 : Class := { plain "java/lang/constant/ConstantDesc" (some 0) with
  accessFlags := 1537
  interfaces := #[]
  cf := some (fileOf pool6 1 #[] #[] 1537 3 #[] #[])
  fields := #[]
  methods := #[]
  instanceTypes := #[]
  staticTypes := #[]
  resolved := Array.replicate 37 none
  statics := none }

def pool7 : Array CpInfo := pool [(1, .methodref 2 3), (0, .class_ 4), (0, .nameAndType 5 6), (0, u "java/lang/Object"), (0, u "<init>"), (0, u "()V"), (0, .string 8), (0, u ""), (0, .fieldref 10 11), (0, .class_ 12), (0, .nameAndType 13 14), (0, u "java/lang/String"), (0, u "value"), (0, u "[B"), (0, .fieldref 10 16), (0, .nameAndType 17 18), (0, u "coder"), (0, u "B"), (2, u "hash"), (0, u "I"), (2, u "hashIsZero"), (0, u "Z"), (0, .methodref 10 28), (0, .nameAndType 5 29), (0, u "([CIILjava/lang/Void;)V"), (6, u "checkBoundsOffCount"), (0, u "(III)I"), (0, .fieldref 10 39), (0, .nameAndType 40 26), (0, u "COMPACT_STRINGS"), (1, .class_ 44), (1, u "java/lang/StringUTF16"), (0, u "compress"), (1, .methodref 42 48), (0, .nameAndType 49 50), (0, u "coderFromArrayLen"), (0, u "([BI)B"), (2, u "toBytes"), (0, .methodref 55 56), (0, .class_ 57), (0, .nameAndType 58 59), (0, u "java/util/Arrays"), (0, u "copyOfRange"), (0, u "([BII)[B"), (46, .methodref 107 108), (0, .class_ 109), (0, .nameAndType 110 111), (0, u "java/lang/StringLatin1"), (0, u "inflate"), (0, u "([BI[BII)V"), (30, u "()Z"), (34, .methodref 42 178), (0, .nameAndType 45 179), (0, u "([CII)[B"), (13, .class_ 195), (1, u "java/lang/System"), (13, .methodref 10 210), (0, .nameAndType 5 211), (0, u "([BB)V"), (0, .methodref 193 213), (0, .nameAndType 214 215), (0, u "arraycopy"), (0, u "(Ljava/lang/Object;ILjava/lang/Object;II)V"), (118, u "()I"), (0, .methodref 10 336), (0, .nameAndType 17 337), (0, u "()B"), (2, u "()[B"), (22, u "([BI)C"), (5, u "(C)Z"), (21, u "(II)V"), (35, u "(I)C"), (61, .methodref 10 490), (0, .nameAndType 5 491), (0, u "(Ljava/lang/AbstractStringBuilder;Ljava/lang/Void;)V"), (0, .methodref 10 493), (0, .nameAndType 494 142), (0, u "isLatin1"), (0, .methodref 107 496), (0, .nameAndType 497 363), (0, u "charAt"), (0, .methodref 42 496), (2, u "checkIndex"), (4, .nameAndType 507 334), (0, u "length"), (24, u "getBytes"), (16, .methodref 550 506), (0, .class_ 551), (0, u "java/lang/AbstractStringBuilder"), (0, .methodref 550 553), (0, .nameAndType 554 340), (0, u "getValue"), (20, .class_ 576), (0, u "java/lang/CharSequence"), (22, u "CASE_INSENSITIVE_ORDER"), (0, u "Ljava/util/Comparator;"), (181, u "valueOf"), (0, u "(C)Ljava/lang/String;"), (37, u "([BIB)V"), (188, u "([C)V"), (4, .methodref 107 1016), (0, .nameAndType 1017 369), (0, u "canEncode"), (0, .methodref 107 1019), (0, .nameAndType 53 1020), (0, u "(C)[B"), (0, .methodref 42 1019), (25, .methodref 550 493), (0, .fieldref 550 1049), (0, .nameAndType 1050 26), (0, u "maybeLatin1"), (2, .fieldref 1054 1055), (0, .class_ 1056), (0, .nameAndType 1057 1058), (0, u "jdk/internal/util/Preconditions"), (0, u "SIOOBE_FORMATTER"), (0, u "Ljava/util/function/BiFunction;"), (0, .methodref 1054 1060), (0, .nameAndType 501 1061), (0, u "(IILjava/util/function/BiFunction;)I"), (2, u "(IIILjava/util/function/BiFunction;)I"), (0, .methodref 1054 1066), (0, .nameAndType 1067 1064), (0, u "checkFromIndexSize"), (33, u "serialPersistentFields"), (0, u "[Ljava/io/ObjectStreamField;"), (0, .class_ 1104), (0, u "java/lang/String$CaseInsensitiveComparator"), (1, .class_ 1107), (0, u "java/io/Serializable"), (0, .class_ 1109), (0, u "java/lang/Comparable"), (0, .class_ 1111), (0, u "java/lang/constant/Constable"), (0, .class_ 1113), (0, u "java/lang/constant/ConstantDesc"), (2, u "serialVersionUID"), (0, u "J"), (3, u "REPL"), (0, u "C"), (2, u "LATIN1"), (1, u "UTF16"), (105, u "(Ljava/lang/StringBuilder;)V")] 217

def k7m0 : Method := { name := "<init>", desc := "()V", sig := { parameters := [], returnType := none }, accessFlags := 1, code := none }
def k7c1 : Code := { maxStack := 5, maxLocals := 2, code := jdk_42_method_3_code, exceptionTable := #[], attributes := #[] }
def k7m1 : Method := { name := "<init>", desc := "([C)V", sig := { parameters := [(.array .char)], returnType := none }, accessFlags := 1, code := some k7c1 }
def k7c2 : Code := { maxStack := 3, maxLocals := 2, code := jdk_42_method_53_code, exceptionTable := #[], attributes := #[] }
def k7m2 : Method := { name := "<init>", desc := "(Ljava/lang/StringBuilder;)V", sig := { parameters := [(.object "java/lang/StringBuilder")], returnType := none }, accessFlags := 1, code := some k7c2 }
def k7c3 : Code := { maxStack := 2, maxLocals := 1, code := jdk_42_method_54_code, exceptionTable := #[], attributes := #[] }
def k7m3 : Method := { name := "length", desc := "()I", sig := { parameters := [], returnType := some .int }, accessFlags := 1, code := some k7c3 }
def k7c4 : Code := { maxStack := 2, maxLocals := 2, code := jdk_42_method_56_code, exceptionTable := #[], attributes := #[] }
def k7m4 : Method := { name := "charAt", desc := "(I)C", sig := { parameters := [.int], returnType := some .char }, accessFlags := 1, code := some k7c4 }
def k7c5 : Code := { maxStack := 4, maxLocals := 1, code := jdk_42_method_139_code, exceptionTable := #[], attributes := #[] }
def k7m5 : Method := { name := "valueOf", desc := "(C)Ljava/lang/String;", sig := { parameters := [.char], returnType := some (.object "java/lang/String") }, accessFlags := 9, code := some k7c5 }
def k7c6 : Code := { maxStack := 5, maxLocals := 4, code := jdk_42_method_147_code, exceptionTable := #[], attributes := #[] }
def k7m6 : Method := { name := "getBytes", desc := "([BIB)V", sig := { parameters := [(.array .byte), .int, .byte], returnType := none }, accessFlags := 0, code := some k7c6 }
def k7c7 : Code := { maxStack := 4, maxLocals := 6, code := jdk_42_method_149_code, exceptionTable := #[], attributes := #[] }
def k7m7 : Method := { name := "<init>", desc := "([CIILjava/lang/Void;)V", sig := { parameters := [(.array .char), .int, .int, (.object "java/lang/Void")], returnType := none }, accessFlags := 2, code := some k7c7 }
def k7c8 : Code := { maxStack := 5, maxLocals := 5, code := jdk_42_method_150_code, exceptionTable := #[], attributes := #[] }
def k7m8 : Method := { name := "<init>", desc := "(Ljava/lang/AbstractStringBuilder;Ljava/lang/Void;)V", sig := { parameters := [(.object "java/lang/AbstractStringBuilder"), (.object "java/lang/Void")], returnType := none }, accessFlags := 0, code := some k7c8 }
def k7c9 : Code := { maxStack := 2, maxLocals := 3, code := jdk_42_method_151_code, exceptionTable := #[], attributes := #[] }
def k7m9 : Method := { name := "<init>", desc := "([BB)V", sig := { parameters := [(.array .byte), .byte], returnType := none }, accessFlags := 0, code := some k7c9 }
def k7c10 : Code := { maxStack := 1, maxLocals := 1, code := jdk_42_method_152_code, exceptionTable := #[], attributes := #[] }
def k7m10 : Method := { name := "coder", desc := "()B", sig := { parameters := [], returnType := some .byte }, accessFlags := 0, code := some k7c10 }
def k7c11 : Code := { maxStack := 1, maxLocals := 1, code := jdk_42_method_154_code, exceptionTable := #[], attributes := #[] }
def k7m11 : Method := { name := "isLatin1", desc := "()Z", sig := { parameters := [], returnType := some .boolean }, accessFlags := 0, code := some k7c11 }
def k7c12 : Code := { maxStack := 3, maxLocals := 2, code := jdk_42_method_155_code, exceptionTable := #[], attributes := #[] }
def k7m12 : Method := { name := "checkIndex", desc := "(II)V", sig := { parameters := [.int, .int], returnType := none }, accessFlags := 8, code := some k7c12 }
def k7c13 : Code := { maxStack := 4, maxLocals := 3, code := jdk_42_method_157_code, exceptionTable := #[], attributes := #[] }
def k7m13 : Method := { name := "checkBoundsOffCount", desc := "(III)I", sig := { parameters := [.int, .int, .int], returnType := some .int }, accessFlags := 8, code := some k7c13 }
/-- java/lang/String -/
def k7 : Class := { plain "java/lang/String" (some 0) with
  accessFlags := 49
  interfaces := #[2, 3, 4, 5, 6]
  cf := some (fileOf pool7 10 #[.nestMembers #[1103]] #[{ accessFlags := 1, nameIndex := 5, descriptorIndex := 6, attributes := #[] }, { accessFlags := 1, nameIndex := 5, descriptorIndex := 1010, attributes := #[] }, { accessFlags := 1, nameIndex := 5, descriptorIndex := 1233, attributes := #[] }, { accessFlags := 1, nameIndex := 507, descriptorIndex := 334, attributes := #[] }, { accessFlags := 1, nameIndex := 497, descriptorIndex := 427, attributes := #[] }, { accessFlags := 9, nameIndex := 782, descriptorIndex := 783, attributes := #[] }, { accessFlags := 0, nameIndex := 532, descriptorIndex := 821, attributes := #[] }, { accessFlags := 2, nameIndex := 5, descriptorIndex := 29, attributes := #[] }, { accessFlags := 0, nameIndex := 5, descriptorIndex := 491, attributes := #[] }, { accessFlags := 0, nameIndex := 5, descriptorIndex := 211, attributes := #[] }, { accessFlags := 0, nameIndex := 17, descriptorIndex := 337, attributes := #[] }, { accessFlags := 0, nameIndex := 494, descriptorIndex := 142, attributes := #[] }, { accessFlags := 8, nameIndex := 501, descriptorIndex := 391, attributes := #[] }, { accessFlags := 8, nameIndex := 36, descriptorIndex := 37, attributes := #[] }] 49 2 #[1106, 1108, 575, 1110, 1112] #[{ accessFlags := 18, nameIndex := 13, descriptorIndex := 14, attributes := #[] }, { accessFlags := 18, nameIndex := 17, descriptorIndex := 18, attributes := #[] }, { accessFlags := 2, nameIndex := 21, descriptorIndex := 22, attributes := #[] }, { accessFlags := 2, nameIndex := 25, descriptorIndex := 26, attributes := #[] }, { accessFlags := 26, nameIndex := 1116, descriptorIndex := 1117, attributes := #[] }, { accessFlags := 24, nameIndex := 40, descriptorIndex := 26, attributes := #[] }, { accessFlags := 26, nameIndex := 1101, descriptorIndex := 1102, attributes := #[] }, { accessFlags := 26, nameIndex := 1121, descriptorIndex := 1122, attributes := #[] }, { accessFlags := 25, nameIndex := 599, descriptorIndex := 600, attributes := #[] }, { accessFlags := 24, nameIndex := 1125, descriptorIndex := 18, attributes := #[] }, { accessFlags := 24, nameIndex := 1127, descriptorIndex := 18, attributes := #[] }])
  fields := #[{ name := "value", type := (.array .byte), accessFlags := 18, slot := 0, constantValue := 0 }, { name := "coder", type := .byte, accessFlags := 18, slot := 1, constantValue := 0 }, { name := "hash", type := .int, accessFlags := 2, slot := 2, constantValue := 0 }, { name := "hashIsZero", type := .boolean, accessFlags := 2, slot := 3, constantValue := 0 }, { name := "serialVersionUID", type := .long, accessFlags := 26, slot := 0, constantValue := 0 }, { name := "COMPACT_STRINGS", type := .boolean, accessFlags := 24, slot := 1, constantValue := 0 }, { name := "serialPersistentFields", type := (.array (.object "java/io/ObjectStreamField")), accessFlags := 26, slot := 2, constantValue := 0 }, { name := "REPL", type := .char, accessFlags := 26, slot := 3, constantValue := 0 }, { name := "CASE_INSENSITIVE_ORDER", type := (.object "java/util/Comparator"), accessFlags := 25, slot := 4, constantValue := 0 }, { name := "LATIN1", type := .byte, accessFlags := 24, slot := 5, constantValue := 0 }, { name := "UTF16", type := .byte, accessFlags := 24, slot := 6, constantValue := 0 }]
  methods := #[k7m0, k7m1, k7m2, k7m3, k7m4, k7m5, k7m6, k7m7, k7m8, k7m9, k7m10, k7m11, k7m12, k7m13]
  instanceTypes := #[(.array .byte), .byte, .int, .boolean]
  staticTypes := #[.long, .boolean, (.array (.object "java/io/ObjectStreamField")), .char, (.object "java/util/Comparator"), .byte, .byte]
  resolved := Array.replicate 1451 none
  statics := some 0 }

def pool8 : Array CpInfo := pool [(1, .methodref 2 3), (0, .class_ 4), (0, .nameAndType 5 6), (0, u "java/lang/Object"), (0, u "<init>"), (0, u "()V"), (0, .class_ 8), (0, u "java/lang/Record")] 13

def k8c0 : Code := { maxStack := 1, maxLocals := 1, code := jdk_30_method_1_code, exceptionTable := #[], attributes := #[] }
def k8m0 : Method := { name := "<init>", desc := "()V", sig := { parameters := [], returnType := none }, accessFlags := 4, code := some k8c0 }
/-- java/lang/Record -/
def k8 : Class := { plain "java/lang/Record" (some 0) with
  accessFlags := 1057
  interfaces := #[]
  cf := some (fileOf pool8 7 #[] #[{ accessFlags := 4, nameIndex := 5, descriptorIndex := 6, attributes := #[] }] 1057 2 #[] #[])
  fields := #[]
  methods := #[k8m0]
  instanceTypes := #[]
  staticTypes := #[]
  resolved := Array.replicate 22 none
  statics := none }

def pool9 : Array CpInfo := pool [(1, .methodref 2 3), (0, .class_ 4), (0, .nameAndType 5 6), (0, u "java/lang/Record"), (0, u "<init>"), (0, u "()V"), (0, .fieldref 8 9), (0, .class_ 10), (0, .nameAndType 11 12), (0, u "com/example/frist/frist/TableName"), (0, u "schema"), (0, u "Ljava/lang/String;"), (0, .fieldref 8 14), (0, .nameAndType 15 12), (0, u "name"), (14, .class_ 31), (0, u "java/lang/StringBuilder"), (0, .methodref 30 3), (2, .methodref 30 36), (0, .nameAndType 37 38), (0, u "append"), (0, u "(Ljava/lang/String;)Ljava/lang/StringBuilder;"), (2, .methodref 30 42), (0, .nameAndType 43 44), (0, u "toString"), (0, u "()Ljava/lang/String;"), (7, u "(Ljava/lang/String;Ljava/lang/String;)V"), (0, .string 54), (0, u "."), (14, u "qualified"), (8, u "DEFAULT_SCHEMA")] 33

def k9c0 : Code := { maxStack := 2, maxLocals := 3, code := prog_7_method_1_code, exceptionTable := #[], attributes := #[] }
def k9m0 : Method := { name := "<init>", desc := "(Ljava/lang/String;Ljava/lang/String;)V", sig := { parameters := [(.object "java/lang/String"), (.object "java/lang/String")], returnType := none }, accessFlags := 0, code := some k9c0 }
def k9c1 : Code := { maxStack := 2, maxLocals := 1, code := prog_7_method_3_code, exceptionTable := #[], attributes := #[] }
def k9m1 : Method := { name := "qualified", desc := "()Ljava/lang/String;", sig := { parameters := [], returnType := some (.object "java/lang/String") }, accessFlags := 0, code := some k9c1 }
/-- com/example/frist/frist/TableName -/
def k9 : Class := { plain "com/example/frist/frist/TableName" (some 8) with
  accessFlags := 48
  interfaces := #[]
  cf := some (fileOf pool9 8 #[] #[{ accessFlags := 0, nameIndex := 5, descriptorIndex := 52, attributes := #[] }, { accessFlags := 0, nameIndex := 69, descriptorIndex := 44, attributes := #[] }] 48 2 #[] #[{ accessFlags := 18, nameIndex := 11, descriptorIndex := 12, attributes := #[] }, { accessFlags := 18, nameIndex := 15, descriptorIndex := 12, attributes := #[] }, { accessFlags := 26, nameIndex := 78, descriptorIndex := 12, attributes := #[] }])
  fields := #[{ name := "schema", type := (.object "java/lang/String"), accessFlags := 18, slot := 0, constantValue := 0 }, { name := "name", type := (.object "java/lang/String"), accessFlags := 18, slot := 1, constantValue := 0 }, { name := "DEFAULT_SCHEMA", type := (.object "java/lang/String"), accessFlags := 26, slot := 0, constantValue := 0 }]
  methods := #[k9m0, k9m1]
  instanceTypes := #[(.object "java/lang/String"), (.object "java/lang/String")]
  staticTypes := #[(.object "java/lang/String")]
  resolved := Array.replicate 112 none
  statics := none }

def pool10 : Array CpInfo := pool [(1, .class_ 2), (0, u "java/lang/Appendable"), (0, .class_ 4), (0, u "java/lang/Object")] 9

/-- java/lang/Appendable -/
def k10 : Class := { plain "java/lang/Appendable" (some 0) with
  accessFlags := 1537
  interfaces := #[]
  cf := some (fileOf pool10 1 #[] #[] 1537 3 #[] #[])
  fields := #[]
  methods := #[]
  instanceTypes := #[]
  staticTypes := #[]
  resolved := Array.replicate 14 none
  statics := none }

def pool11 : Array CpInfo := pool [(1, .class_ 2), (0, u "java/lang/String"), (0, .methodref 4 5), (0, .class_ 6), (0, .nameAndType 7 8), (0, u "java/lang/Object"), (0, u "<init>"), (0, u "()V"), (1, .class_ 12), (1, u "java/lang/AbstractStringBuilder"), (0, u "EMPTYVALUE"), (0, u "[B"), (0, .fieldref 10 16), (0, .nameAndType 17 14), (0, u "value"), (0, .fieldref 1 19), (0, .nameAndType 20 21), (0, u "COMPACT_STRINGS"), (0, u "Z"), (0, .fieldref 10 23), (0, .nameAndType 24 25), (0, u "coder"), (0, u "B"), (0, .methodref 27 28), (0, .class_ 29), (0, .nameAndType 30 31), (0, u "java/lang/StringUTF16"), (0, u "newBytesFor"), (0, u "(I)[B"), (0, .methodref 1 33), (0, .nameAndType 34 35), (0, u "length"), (0, u "()I"), (4, .methodref 1 41), (0, .nameAndType 24 42), (0, u "()B"), (2, u "append"), (0, u "(Ljava/lang/String;)Ljava/lang/AbstractStringBuilder;"), (1, .class_ 49), (0, u "java/lang/CharSequence"), (19, u "(Ljava/lang/String;)V"), (5, u "maybeLatin1"), (3, .fieldref 10 80), (0, .nameAndType 81 82), (0, u "count"), (0, u "I"), (0, .methodref 10 84), (0, .nameAndType 85 86), (0, u "isLatin1"), (0, u "()Z"), (1, .class_ 90), (1, u "java/lang/StringLatin1"), (9, .methodref 10 101), (0, .nameAndType 102 103), (0, u "ensureCapacityInternal"), (0, u "(I)V"), (21, .methodref 88 126), (0, .nameAndType 127 128), (0, u "inflate"), (0, u "([BI[BII)V"), (66, .methodref 10 196), (0, .nameAndType 127 8), (11, .methodref 10 209), (0, .nameAndType 210 211), (0, u "putStringAt"), (0, u "(ILjava/lang/String;)V"), (5, u "inflateIfNeededFor"), (2, .nameAndType 221 222), (0, u "getBytes"), (0, u "([BIB)V"), (174, .methodref 10 398), (0, .nameAndType 217 69), (0, .methodref 1 220), (3, u "()[B"), (40, .class_ 445), (0, u "java/lang/Appendable"), (106, u "getValue")] 56

def k11m0 : Method := { name := "<init>", desc := "()V", sig := { parameters := [], returnType := none }, accessFlags := 0, code := none }
def k11c1 : Code := { maxStack := 2, maxLocals := 2, code := jdk_68_method_2_code, exceptionTable := #[], attributes := #[] }
def k11m1 : Method := { name := "<init>", desc := "(I)V", sig := { parameters := [.int], returnType := none }, accessFlags := 0, code := some k11c1 }
def k11c2 : Code := { maxStack := 1, maxLocals := 1, code := jdk_68_method_6_code, exceptionTable := #[], attributes := #[] }
def k11m2 : Method := { name := "length", desc := "()I", sig := { parameters := [], returnType := some .int }, accessFlags := 1, code := some k11c2 }
def k11c3 : Code := { maxStack := 4, maxLocals := 3, code := jdk_68_method_9_code, exceptionTable := #[], attributes := #[] }
def k11m3 : Method := { name := "ensureCapacityInternal", desc := "(I)V", sig := { parameters := [.int], returnType := none }, accessFlags := 2, code := some k11c3 }
def k11c4 : Code := { maxStack := 5, maxLocals := 2, code := jdk_68_method_11_code, exceptionTable := #[], attributes := #[] }
def k11m4 : Method := { name := "inflate", desc := "()V", sig := { parameters := [], returnType := none }, accessFlags := 2, code := some k11c4 }
def k11c5 : Code := { maxStack := 3, maxLocals := 3, code := jdk_68_method_22_code, exceptionTable := #[], attributes := #[] }
def k11m5 : Method := { name := "append", desc := "(Ljava/lang/String;)Ljava/lang/AbstractStringBuilder;", sig := { parameters := [(.object "java/lang/String")], returnType := some (.object "java/lang/AbstractStringBuilder") }, accessFlags := 1, code := some k11c5 }
def k11c6 : Code := { maxStack := 1, maxLocals := 1, code := jdk_68_method_64_code, exceptionTable := #[], attributes := #[] }
def k11m6 : Method := { name := "getValue", desc := "()[B", sig := { parameters := [], returnType := some (.array .byte) }, accessFlags := 16, code := some k11c6 }
def k11c7 : Code := { maxStack := 1, maxLocals := 1, code := jdk_68_method_68_code, exceptionTable := #[], attributes := #[] }
def k11m7 : Method := { name := "isLatin1", desc := "()Z", sig := { parameters := [], returnType := some .boolean }, accessFlags := 16, code := some k11c7 }
def k11c8 : Code := { maxStack := 2, maxLocals := 2, code := jdk_68_method_71_code, exceptionTable := #[], attributes := #[] }
def k11m8 : Method := { name := "inflateIfNeededFor", desc := "(Ljava/lang/String;)V", sig := { parameters := [(.object "java/lang/String")], returnType := none }, accessFlags := 2, code := some k11c8 }
def k11c9 : Code := { maxStack := 4, maxLocals := 3, code := jdk_68_method_73_code, exceptionTable := #[], attributes := #[] }
def k11m9 : Method := { name := "putStringAt", desc := "(ILjava/lang/String;)V", sig := { parameters := [.int, (.object "java/lang/String")], returnType := none }, accessFlags := 2, code := some k11c9 }
/-- java/lang/AbstractStringBuilder -/
def k11 : Class := { plain "java/lang/AbstractStringBuilder" (some 0) with
  accessFlags := 1056
  interfaces := #[10, 4]
  cf := some (fileOf pool11 10 #[] #[{ accessFlags := 0, nameIndex := 7, descriptorIndex := 8, attributes := #[] }, { accessFlags := 0, nameIndex := 7, descriptorIndex := 103, attributes := #[] }, { accessFlags := 1, nameIndex := 34, descriptorIndex := 35, attributes := #[] }, { accessFlags := 2, nameIndex := 102, descriptorIndex := 103, attributes := #[] }, { accessFlags := 2, nameIndex := 127, descriptorIndex := 8, attributes := #[] }, { accessFlags := 1, nameIndex := 45, descriptorIndex := 46, attributes := #[] }, { accessFlags := 16, nameIndex := 552, descriptorIndex := 403, attributes := #[] }, { accessFlags := 16, nameIndex := 85, descriptorIndex := 86, attributes := #[] }, { accessFlags := 2, nameIndex := 217, descriptorIndex := 69, attributes := #[] }, { accessFlags := 2, nameIndex := 210, descriptorIndex := 211, attributes := #[] }] 1056 4 #[444, 48] #[{ accessFlags := 0, nameIndex := 17, descriptorIndex := 14, attributes := #[] }, { accessFlags := 0, nameIndex := 24, descriptorIndex := 25, attributes := #[] }, { accessFlags := 0, nameIndex := 75, descriptorIndex := 21, attributes := #[] }, { accessFlags := 0, nameIndex := 81, descriptorIndex := 82, attributes := #[] }, { accessFlags := 26, nameIndex := 13, descriptorIndex := 14, attributes := #[] }])
  fields := #[{ name := "value", type := (.array .byte), accessFlags := 0, slot := 0, constantValue := 0 }, { name := "coder", type := .byte, accessFlags := 0, slot := 1, constantValue := 0 }, { name := "maybeLatin1", type := .boolean, accessFlags := 0, slot := 2, constantValue := 0 }, { name := "count", type := .int, accessFlags := 0, slot := 3, constantValue := 0 }, { name := "EMPTYVALUE", type := (.array .byte), accessFlags := 26, slot := 0, constantValue := 0 }]
  methods := #[k11m0, k11m1, k11m2, k11m3, k11m4, k11m5, k11m6, k11m7, k11m8, k11m9]
  instanceTypes := #[(.array .byte), .byte, .boolean, .int]
  staticTypes := #[(.array .byte)]
  resolved := Array.replicate 609 none
  statics := none }

def pool12 : Array CpInfo := pool [(1, .methodref 2 3), (0, .class_ 4), (0, .nameAndType 5 6), (0, u "java/lang/AbstractStringBuilder"), (0, u "<init>"), (0, u "(I)V"), (11, .class_ 20), (1, u "java/lang/String"), (3, .class_ 26), (1, u "java/lang/StringBuilder"), (0, u "append"), (0, u "(Ljava/lang/String;)Ljava/lang/StringBuilder;"), (0, .methodref 2 30), (0, .nameAndType 27 31), (0, u "(Ljava/lang/String;)Ljava/lang/AbstractStringBuilder;"), (105, .methodref 18 138), (0, .nameAndType 5 139), (0, u "(Ljava/lang/StringBuilder;)V"), (5, u "()V"), (10, u "()I"), (186, .methodref 2 344), (0, .nameAndType 345 156), (0, u "length"), (3, .class_ 350), (0, u "java/lang/Appendable"), (0, .class_ 352), (0, u "java/io/Serializable"), (0, .class_ 354), (0, u "java/lang/Comparable"), (0, .class_ 356), (0, u "java/lang/CharSequence"), (0, u "serialVersionUID"), (0, u "J"), (40, u "toString"), (0, u "()Ljava/lang/String;")] 21

def k12c0 : Code := { maxStack := 2, maxLocals := 1, code := jdk_67_method_1_code, exceptionTable := #[], attributes := #[] }
def k12m0 : Method := { name := "<init>", desc := "()V", sig := { parameters := [], returnType := none }, accessFlags := 1, code := some k12c0 }
def k12c1 : Code := { maxStack := 2, maxLocals := 2, code := jdk_67_method_7_code, exceptionTable := #[], attributes := #[] }
def k12m1 : Method := { name := "append", desc := "(Ljava/lang/String;)Ljava/lang/StringBuilder;", sig := { parameters := [(.object "java/lang/String")], returnType := some (.object "java/lang/StringBuilder") }, accessFlags := 1, code := some k12c1 }
def k12c2 : Code := { maxStack := 3, maxLocals := 1, code := jdk_67_method_42_code, exceptionTable := #[], attributes := #[] }
def k12m2 : Method := { name := "toString", desc := "()Ljava/lang/String;", sig := { parameters := [], returnType := some (.object "java/lang/String") }, accessFlags := 1, code := some k12c2 }
def k12c3 : Code := { maxStack := 1, maxLocals := 1, code := jdk_67_method_93_code, exceptionTable := #[], attributes := #[] }
def k12m3 : Method := { name := "length", desc := "()I", sig := { parameters := [], returnType := some .int }, accessFlags := 4161, code := some k12c3 }
/-- java/lang/StringBuilder -/
def k12 : Class := { plain "java/lang/StringBuilder" (some 11) with
  accessFlags := 49
  interfaces := #[10, 2, 3, 4]
  cf := some (fileOf pool12 24 #[] #[{ accessFlags := 1, nameIndex := 5, descriptorIndex := 145, attributes := #[] }, { accessFlags := 1, nameIndex := 27, descriptorIndex := 28, attributes := #[] }, { accessFlags := 1, nameIndex := 399, descriptorIndex := 400, attributes := #[] }, { accessFlags := 4161, nameIndex := 345, descriptorIndex := 156, attributes := #[] }] 49 2 #[349, 351, 353, 355] #[{ accessFlags := 24, nameIndex := 357, descriptorIndex := 358, attributes := #[] }])
  fields := #[{ name := "serialVersionUID", type := .long, accessFlags := 24, slot := 0, constantValue := 0 }]
  methods := #[k12m0, k12m1, k12m2, k12m3]
  instanceTypes := #[(.array .byte), .byte, .boolean, .int]
  staticTypes := #[.long]
  resolved := Array.replicate 422 none
  statics := none }

def pool13 : Array CpInfo := pool [(2, .class_ 4), (1, u "java/lang/Object"), (0, u "<init>"), (0, u "()V"), (1, .class_ 10), (1, u "java/lang/System"), (0, u "allowSecurityManager"), (0, u "I"), (16, u "cons"), (0, u "Ljava/io/Console;"), (77, .class_ 110), (1, u "java/lang/System$CallersHolder"), (43, u "initialErrStream"), (0, u "Ljava/io/PrintStream;"), (19, u "security"), (0, u "Ljava/lang/SecurityManager;"), (31, .class_ 209), (0, u "java/lang/System$1"), (7, u "props"), (0, u "Ljava/util/Properties;"), (2, u "lineSeparator"), (0, u "Ljava/lang/String;"), (96, .class_ 321), (1, u "java/lang/System$LoggerFinder"), (5, .class_ 328), (0, u "java/lang/System$Logger"), (67, u "err"), (2, u "out"), (91, u "notSupportedJnuEncoding"), (15, u "in"), (17, u "initialIn"), (0, u "Ljava/io/InputStream;"), (35, u "bootLayer"), (0, u "Ljava/lang/ModuleLayer;"), (99, .class_ 664), (0, u "java/lang/System$2"), (9, u "NEVER"), (2, u "MAYBE"), (49, u "arraycopy"), (0, u "(Ljava/lang/Object;ILjava/lang/Object;II)V"), (72, .class_ 802), (0, u "java/lang/System$Logger$Level")] 31

def k13m0 : Method := { name := "<init>", desc := "()V", sig := { parameters := [], returnType := none }, accessFlags := 2, code := none }
def k13m1 : Method := { name := "arraycopy", desc := "(Ljava/lang/Object;ILjava/lang/Object;II)V", sig := { parameters := [(.object "java/lang/Object"), .int, (.object "java/lang/Object"), .int, .int], returnType := none }, accessFlags := 265, code := none }
/-- java/lang/System -/
def k13 : Class := { plain "java/lang/System" (some 0) with
  accessFlags := 49
  interfaces := #[]
  cf := some (fileOf pool13 8 #[.nestMembers #[319, 327, 801, 108, 663, 208]] #[{ accessFlags := 2, nameIndex := 5, descriptorIndex := 6, attributes := #[] }, { accessFlags := 265, nameIndex := 727, descriptorIndex := 728, attributes := #[] }] 49 2 #[] #[{ accessFlags := 25, nameIndex := 507, descriptorIndex := 526, attributes := #[] }, { accessFlags := 25, nameIndex := 399, descriptorIndex := 155, attributes := #[] }, { accessFlags := 25, nameIndex := 396, descriptorIndex := 155, attributes := #[] }, { accessFlags := 10, nameIndex := 525, descriptorIndex := 526, attributes := #[] }, { accessFlags := 26, nameIndex := 674, descriptorIndex := 12, attributes := #[] }, { accessFlags := 26, nameIndex := 677, descriptorIndex := 12, attributes := #[] }, { accessFlags := 10, nameIndex := 11, descriptorIndex := 12, attributes := #[] }, { accessFlags := 74, nameIndex := 175, descriptorIndex := 176, attributes := #[] }, { accessFlags := 10, nameIndex := 491, descriptorIndex := 222, attributes := #[] }, { accessFlags := 74, nameIndex := 29, descriptorIndex := 30, attributes := #[] }, { accessFlags := 74, nameIndex := 154, descriptorIndex := 155, attributes := #[] }, { accessFlags := 10, nameIndex := 217, descriptorIndex := 218, attributes := #[] }, { accessFlags := 10, nameIndex := 221, descriptorIndex := 222, attributes := #[] }, { accessFlags := 8, nameIndex := 562, descriptorIndex := 563, attributes := #[] }])
  fields := #[{ name := "in", type := (.object "java/io/InputStream"), accessFlags := 25, slot := 0, constantValue := 0 }, { name := "out", type := (.object "java/io/PrintStream"), accessFlags := 25, slot := 1, constantValue := 0 }, { name := "err", type := (.object "java/io/PrintStream"), accessFlags := 25, slot := 2, constantValue := 0 }, { name := "initialIn", type := (.object "java/io/InputStream"), accessFlags := 10, slot := 3, constantValue := 0 }, { name := "NEVER", type := .int, accessFlags := 26, slot := 4, constantValue := 0 }, { name := "MAYBE", type := .int, accessFlags := 26, slot := 5, constantValue := 0 }, { name := "allowSecurityManager", type := .int, accessFlags := 10, slot := 6, constantValue := 0 }, { name := "security", type := (.object "java/lang/SecurityManager"), accessFlags := 74, slot := 7, constantValue := 0 }, { name := "notSupportedJnuEncoding", type := (.object "java/lang/String"), accessFlags := 10, slot := 8, constantValue := 0 }, { name := "cons", type := (.object "java/io/Console"), accessFlags := 74, slot := 9, constantValue := 0 }, { name := "initialErrStream", type := (.object "java/io/PrintStream"), accessFlags := 74, slot := 10, constantValue := 0 }, { name := "props", type := (.object "java/util/Properties"), accessFlags := 10, slot := 11, constantValue := 0 }, { name := "lineSeparator", type := (.object "java/lang/String"), accessFlags := 10, slot := 12, constantValue := 0 }, { name := "bootLayer", type := (.object "java/lang/ModuleLayer"), accessFlags := 8, slot := 13, constantValue := 0 }]
  methods := #[k13m0, k13m1]
  instanceTypes := #[]
  staticTypes := #[(.object "java/io/InputStream"), (.object "java/io/PrintStream"), (.object "java/io/PrintStream"), (.object "java/io/InputStream"), .int, .int, .int, (.object "java/lang/SecurityManager"), (.object "java/lang/String"), (.object "java/io/Console"), (.object "java/io/PrintStream"), (.object "java/util/Properties"), (.object "java/lang/String"), (.object "java/lang/ModuleLayer")]
  resolved := Array.replicate 834 none
  statics := none }

def pool14 : Array CpInfo := pool [(2, .class_ 4), (1, u "java/lang/Object"), (0, u "<init>"), (0, u "()V"), (7, .class_ 16), (1, u "java/util/Arrays"), (57, .class_ 76), (1, u "java/util/Arrays$NaturalOrder"), (36, .class_ 115), (1, u "java/util/Arrays$LegacyMergeSort"), (1, u "Z"), (21, u "copyOfRange"), (10, .methodref 151 152), (0, .class_ 153), (0, .nameAndType 154 155), (0, u "java/lang/System"), (0, u "arraycopy"), (0, u "(Ljava/lang/Object;ILjava/lang/Object;II)V"), (148, .methodref 305 306), (0, .class_ 307), (0, .nameAndType 308 309), (0, u "java/lang/Math"), (0, u "min"), (0, u "(II)I"), (29, .methodref 14 340), (0, .nameAndType 341 342), (0, u "copyOfRangeByte"), (0, u "([BII)[B"), (0, .methodref 14 344), (0, .nameAndType 345 346), (0, u "checkLength"), (0, u "(II)V"), (28, .class_ 376), (0, u "java/util/Arrays$ArrayList"), (68, u "$assertionsDisabled"), (269, u "MIN_ARRAY_SORT_GRAN"), (0, u "I"), (2, u "INSERTIONSORT_THRESHOLD"), (255, .class_ 976), (0, u "java/util/Arrays$ArrayItr")] 52

def k14m0 : Method := { name := "<init>", desc := "()V", sig := { parameters := [], returnType := none }, accessFlags := 2, code := none }
def k14c1 : Code := { maxStack := 4, maxLocals := 2, code := jdk_65_method_131_code, exceptionTable := #[], attributes := #[] }
def k14m1 : Method := { name := "checkLength", desc := "(II)V", sig := { parameters := [.int, .int], returnType := none }, accessFlags := 10, code := some k14c1 }
def k14c2 : Code := { maxStack := 3, maxLocals := 3, code := jdk_65_method_132_code, exceptionTable := #[], attributes := #[] }
def k14m2 : Method := { name := "copyOfRange", desc := "([BII)[B", sig := { parameters := [(.array .byte), .int, .int], returnType := some (.array .byte) }, accessFlags := 9, code := some k14c2 }
def k14c3 : Code := { maxStack := 6, maxLocals := 5, code := jdk_65_method_133_code, exceptionTable := #[], attributes := #[] }
def k14m3 : Method := { name := "copyOfRangeByte", desc := "([BII)[B", sig := { parameters := [(.array .byte), .int, .int], returnType := some (.array .byte) }, accessFlags := 10, code := some k14c3 }
/-- java/util/Arrays -/
def k14 : Class := { plain "java/util/Arrays" (some 0) with
  accessFlags := 49
  interfaces := #[]
  cf := some (fileOf pool14 14 #[.nestMembers #[975, 375, 113, 74]] #[{ accessFlags := 2, nameIndex := 5, descriptorIndex := 6, attributes := #[] }, { accessFlags := 10, nameIndex := 345, descriptorIndex := 346, attributes := #[] }, { accessFlags := 9, nameIndex := 139, descriptorIndex := 342, attributes := #[] }, { accessFlags := 10, nameIndex := 341, descriptorIndex := 342, attributes := #[] }] 49 2 #[] #[{ accessFlags := 26, nameIndex := 715, descriptorIndex := 716, attributes := #[] }, { accessFlags := 26, nameIndex := 719, descriptorIndex := 716, attributes := #[] }, { accessFlags := 4120, nameIndex := 445, descriptorIndex := 117, attributes := #[] }])
  fields := #[{ name := "MIN_ARRAY_SORT_GRAN", type := .int, accessFlags := 26, slot := 0, constantValue := 0 }, { name := "INSERTIONSORT_THRESHOLD", type := .int, accessFlags := 26, slot := 1, constantValue := 0 }, { name := "$assertionsDisabled", type := .boolean, accessFlags := 4120, slot := 2, constantValue := 0 }]
  methods := #[k14m0, k14m1, k14m2, k14m3]
  instanceTypes := #[]
  staticTypes := #[.int, .int, .boolean]
  resolved := Array.replicate 1029 none
  statics := none }

def pool15 : Array CpInfo := pool [(1, .class_ 2), (0, u "java/lang/Math"), (1, .class_ 6), (1, u "java/lang/Object"), (0, u "<init>"), (0, u "()V"), (89, .class_ 100), (1, u "java/lang/Math$RandomNumberGeneratorHolder"), (71, u "negativeZeroFloatBits"), (0, u "J"), (2, u "negativeZeroDoubleBits"), (24, u "min"), (43, u "$assertionsDisabled"), (0, u "Z"), (88, u "(II)I"), (2, u "twoToTheDoubleScaleDown"), (0, u "D"), (4, u "twoToTheDoubleScaleUp"), (9, u "E"), (3, u "PI"), (2, u "TAU"), (2, u "DEGREES_TO_RADIANS"), (0, u "RADIANS_TO_DEGREES")] 94

def k15m0 : Method := { name := "<init>", desc := "()V", sig := { parameters := [], returnType := none }, accessFlags := 2, code := none }
def k15c1 : Code := { maxStack := 2, maxLocals := 2, code := jdk_29_method_69_code, exceptionTable := #[], attributes := #[] }
def k15m1 : Method := { name := "min", desc := "(II)I", sig := { parameters := [.int, .int], returnType := some .int }, accessFlags := 9, code := some k15c1 }
/-- java/lang/Math -/
def k15 : Class := { plain "java/lang/Math" (some 0) with
  accessFlags := 49
  interfaces := #[]
  cf := some (fileOf pool15 1 #[.nestMembers #[98]] #[{ accessFlags := 2, nameIndex := 7, descriptorIndex := 8, attributes := #[] }, { accessFlags := 9, nameIndex := 201, descriptorIndex := 335, attributes := #[] }] 49 4 #[] #[{ accessFlags := 25, nameIndex := 354, descriptorIndex := 339, attributes := #[] }, { accessFlags := 25, nameIndex := 358, descriptorIndex := 339, attributes := #[] }, { accessFlags := 25, nameIndex := 361, descriptorIndex := 339, attributes := #[] }, { accessFlags := 26, nameIndex := 364, descriptorIndex := 339, attributes := #[] }, { accessFlags := 26, nameIndex := 365, descriptorIndex := 339, attributes := #[] }, { accessFlags := 26, nameIndex := 172, descriptorIndex := 173, attributes := #[] }, { accessFlags := 26, nameIndex := 176, descriptorIndex := 173, attributes := #[] }, { accessFlags := 8, nameIndex := 344, descriptorIndex := 339, attributes := #[] }, { accessFlags := 8, nameIndex := 338, descriptorIndex := 339, attributes := #[] }, { accessFlags := 4120, nameIndex := 245, descriptorIndex := 246, attributes := #[] }])
  fields := #[{ name := "E", type := .double, accessFlags := 25, slot := 0, constantValue := 0 }, { name := "PI", type := .double, accessFlags := 25, slot := 1, constantValue := 0 }, { name := "TAU", type := .double, accessFlags := 25, slot := 2, constantValue := 0 }, { name := "DEGREES_TO_RADIANS", type := .double, accessFlags := 26, slot := 3, constantValue := 0 }, { name := "RADIANS_TO_DEGREES", type := .double, accessFlags := 26, slot := 4, constantValue := 0 }, { name := "negativeZeroFloatBits", type := .long, accessFlags := 26, slot := 5, constantValue := 0 }, { name := "negativeZeroDoubleBits", type := .long, accessFlags := 26, slot := 6, constantValue := 0 }, { name := "twoToTheDoubleScaleUp", type := .double, accessFlags := 8, slot := 7, constantValue := 0 }, { name := "twoToTheDoubleScaleDown", type := .double, accessFlags := 8, slot := 8, constantValue := 0 }, { name := "$assertionsDisabled", type := .boolean, accessFlags := 4120, slot := 9, constantValue := 0 }]
  methods := #[k15m0, k15m1]
  instanceTypes := #[]
  staticTypes := #[.double, .double, .double, .double, .double, .long, .long, .double, .double, .boolean]
  resolved := Array.replicate 460 none
  statics := none }

def pool16 : Array CpInfo := pool [(1, .class_ 2), (0, u "java/lang/String"), (1, .class_ 6), (1, u "java/lang/Object"), (0, u "<init>"), (0, u "()V"), (0, .methodref 1 10), (0, .nameAndType 11 12), (0, u "checkIndex"), (0, u "(II)V"), (1, .class_ 16), (1, u "java/lang/StringLatin1"), (0, u "inflate"), (2, .class_ 22), (1, u "java/lang/StringUTF16"), (3, .nameAndType 17 27), (0, u "([BI[BII)V"), (25, u "([BI)C"), (36, u "canEncode"), (14, u "(C)Z"), (15, u "$assertionsDisabled"), (0, u "Z"), (98, .class_ 223), (1, u "java/lang/StringLatin1$LinesSpliterator"), (16, .methodref 20 26), (11, u "charAt"), (127, u "toBytes"), (1, u "(C)[B"), (7, .class_ 391), (0, u "java/lang/StringLatin1$CharsSpliterator")] 3

def k16m0 : Method := { name := "<init>", desc := "()V", sig := { parameters := [], returnType := none }, accessFlags := 0, code := none }
def k16c1 : Code := { maxStack := 2, maxLocals := 2, code := jdk_43_method_2_code, exceptionTable := #[], attributes := #[] }
def k16m1 : Method := { name := "charAt", desc := "([BI)C", sig := { parameters := [(.array .byte), .int], returnType := some .char }, accessFlags := 9, code := some k16c1 }
def k16c2 : Code := { maxStack := 2, maxLocals := 1, code := jdk_43_method_3_code, exceptionTable := #[], attributes := #[] }
def k16m2 : Method := { name := "canEncode", desc := "(C)Z", sig := { parameters := [.char], returnType := some .boolean }, accessFlags := 9, code := some k16c2 }
def k16c3 : Code := { maxStack := 4, maxLocals := 1, code := jdk_43_method_46_code, exceptionTable := #[], attributes := #[] }
def k16m3 : Method := { name := "toBytes", desc := "(C)[B", sig := { parameters := [.char], returnType := some (.array .byte) }, accessFlags := 9, code := some k16c3 }
def k16c4 : Code := { maxStack := 5, maxLocals := 5, code := jdk_43_method_50_code, exceptionTable := #[], attributes := #[] }
def k16m4 : Method := { name := "inflate", desc := "([BI[BII)V", sig := { parameters := [(.array .byte), .int, (.array .byte), .int, .int], returnType := none }, accessFlags := 9, code := some k16c4 }
/-- java/lang/StringLatin1 -/
def k16 : Class := { plain "java/lang/StringLatin1" (some 0) with
  accessFlags := 48
  interfaces := #[]
  cf := some (fileOf pool16 14 #[.nestMembers #[390, 221]] #[{ accessFlags := 0, nameIndex := 7, descriptorIndex := 8, attributes := #[] }, { accessFlags := 9, nameIndex := 252, descriptorIndex := 53, attributes := #[] }, { accessFlags := 9, nameIndex := 90, descriptorIndex := 105, attributes := #[] }, { accessFlags := 9, nameIndex := 380, descriptorIndex := 382, attributes := #[] }, { accessFlags := 9, nameIndex := 17, descriptorIndex := 27, attributes := #[] }] 48 4 #[] #[{ accessFlags := 4120, nameIndex := 121, descriptorIndex := 122, attributes := #[] }])
  fields := #[{ name := "$assertionsDisabled", type := .boolean, accessFlags := 4120, slot := 0, constantValue := 0 }]
  methods := #[k16m0, k16m1, k16m2, k16m3, k16m4]
  instanceTypes := #[]
  staticTypes := #[.boolean]
  resolved := Array.replicate 395 none
  statics := none }

def pool17 : Array CpInfo := pool [(2, .class_ 4), (1, u "java/lang/Object"), (0, u "<init>"), (0, u "()V"), (17, .class_ 26), (1, u "jdk/internal/util/Preconditions"), (6, u "checkIndex"), (15, u "checkFromIndexSize"), (5, .class_ 56), (0, u "jdk/internal/util/Preconditions$4"), (57, .class_ 115), (0, u "jdk/internal/util/Preconditions$1"), (7, u "SIOOBE_FORMATTER"), (0, u "Ljava/util/function/BiFunction;"), (0, .class_ 126), (0, u "jdk/internal/util/Preconditions$2"), (3, u "AIOOBE_FORMATTER"), (0, .class_ 132), (0, u "jdk/internal/util/Preconditions$3"), (3, u "IOOBE_FORMATTER"), (41, u "(IILjava/util/function/BiFunction;)I"), (4, u "(IIILjava/util/function/BiFunction;)I")] 10

def k17m0 : Method := { name := "<init>", desc := "()V", sig := { parameters := [], returnType := none }, accessFlags := 1, code := none }
def k17c1 : Code := { maxStack := 3, maxLocals := 3, code := jdk_41_method_11_code, exceptionTable := #[], attributes := #[] }
def k17m1 : Method := { name := "checkIndex", desc := "(IILjava/util/function/BiFunction;)I", sig := { parameters := [.int, .int, (.object "java/util/function/BiFunction")], returnType := some .int }, accessFlags := 9, code := some k17c1 }
def k17c2 : Code := { maxStack := 4, maxLocals := 4, code := jdk_41_method_13_code, exceptionTable := #[], attributes := #[] }
def k17m2 : Method := { name := "checkFromIndexSize", desc := "(IIILjava/util/function/BiFunction;)I", sig := { parameters := [.int, .int, .int, (.object "java/util/function/BiFunction")], returnType := some .int }, accessFlags := 9, code := some k17c2 }
/-- jdk/internal/util/Preconditions -/
def k17 : Class := { plain "jdk/internal/util/Preconditions" (some 0) with
  accessFlags := 33
  interfaces := #[]
  cf := some (fileOf pool17 24 #[.nestMembers #[55, 131, 125, 114]] #[{ accessFlags := 1, nameIndex := 5, descriptorIndex := 6, attributes := #[] }, { accessFlags := 9, nameIndex := 33, descriptorIndex := 178, attributes := #[] }, { accessFlags := 9, nameIndex := 49, descriptorIndex := 183, attributes := #[] }] 33 2 #[] #[{ accessFlags := 25, nameIndex := 123, descriptorIndex := 124, attributes := #[] }, { accessFlags := 25, nameIndex := 130, descriptorIndex := 124, attributes := #[] }, { accessFlags := 25, nameIndex := 136, descriptorIndex := 124, attributes := #[] }])
  fields := #[{ name := "SIOOBE_FORMATTER", type := (.object "java/util/function/BiFunction"), accessFlags := 25, slot := 0, constantValue := 0 }, { name := "AIOOBE_FORMATTER", type := (.object "java/util/function/BiFunction"), accessFlags := 25, slot := 1, constantValue := 0 }, { name := "IOOBE_FORMATTER", type := (.object "java/util/function/BiFunction"), accessFlags := 25, slot := 2, constantValue := 0 }]
  methods := #[k17m0, k17m1, k17m2]
  instanceTypes := #[]
  staticTypes := #[(.object "java/util/function/BiFunction"), (.object "java/util/function/BiFunction"), (.object "java/util/function/BiFunction")]
  resolved := Array.replicate 194 none
  statics := some 1 }

def pool18 : Array CpInfo := pool [(3, .class_ 4), (0, u "java/lang/String"), (1, .class_ 8), (1, u "java/lang/Object"), (0, u "<init>"), (0, u "()V"), (0, .methodref 12 13), (0, .class_ 14), (0, .nameAndType 15 16), (0, u "java/lang/StringUTF16"), (0, u "newBytesLength"), (0, u "(I)I"), (3, .integer 1073741823), (23, .fieldref 12 45), (0, .nameAndType 46 47), (0, u "$assertionsDisabled"), (0, u "Z"), (0, .methodref 12 49), (0, .nameAndType 50 51), (0, u "length"), (0, u "([B)I"), (7, .fieldref 12 60), (0, .nameAndType 61 62), (0, u "HI_BYTE_SHIFT"), (0, u "I"), (0, .fieldref 12 64), (0, .nameAndType 65 62), (0, u "LO_BYTE_SHIFT"), (1, .methodref 12 68), (0, .nameAndType 69 70), (0, u "checkIndex"), (0, u "(I[B)V"), (0, .methodref 12 72), (0, .nameAndType 73 74), (0, u "getChar"), (0, u "([BI)C"), (24, u "(II[B)V"), (7, .methodref 12 108), (0, .nameAndType 109 110), (0, u "newBytesFor"), (0, u "(I)[B"), (0, .methodref 12 112), (0, .nameAndType 113 114), (0, u "putChar"), (0, u "([BII)V"), (0, .methodref 12 116), (0, .nameAndType 117 118), (0, u "compress"), (0, u "([CI[BII)I"), (0, .methodref 12 120), (0, .nameAndType 121 122), (0, u "toBytes"), (0, u "([CII)[B"), (17, u "inflate"), (0, u "([BI[BII)V"), (31, .methodref 12 174), (0, .nameAndType 175 99), (0, u "checkBoundsOffCount"), (85, u "coderFromArrayLen"), (0, u "([BI)B"), (18, u "(III)I"), (87, .class_ 371), (1, u "java/lang/StringUTF16$LinesSpliterator"), (20, u "charAt"), (21, .methodref 3 415), (0, .nameAndType 69 416), (0, u "(II)V"), (2, .methodref 3 420), (0, .nameAndType 175 281), (9, u "MAX_LENGTH"), (44, u "(C)[B"), (151, .class_ 628), (0, u "java/lang/StringUTF16$CodePointsSpliterator"), (0, .class_ 630), (0, u "java/lang/StringUTF16$CharsSpliterator")] 4

def k18m0 : Method := { name := "<init>", desc := "()V", sig := { parameters := [], returnType := none }, accessFlags := 0, code := none }
def k18c1 : Code := { maxStack := 1, maxLocals := 1, code := jdk_52_method_2_code, exceptionTable := #[], attributes := #[] }
def k18m1 : Method := { name := "newBytesFor", desc := "(I)[B", sig := { parameters := [.int], returnType := some (.array .byte) }, accessFlags := 9, code := some k18c1 }
def k18c2 : Code := { maxStack := 4, maxLocals := 1, code := jdk_52_method_3_code, exceptionTable := #[], attributes := #[] }
def k18m2 : Method := { name := "newBytesLength", desc := "(I)I", sig := { parameters := [.int], returnType := some .int }, accessFlags := 9, code := some k18c2 }
def k18c3 : Code := { maxStack := 4, maxLocals := 3, code := jdk_52_method_4_code, exceptionTable := #[], attributes := #[] }
def k18m3 : Method := { name := "putChar", desc := "([BII)V", sig := { parameters := [(.array .byte), .int, .int], returnType := none }, accessFlags := 8, code := some k18c3 }
def k18c4 : Code := { maxStack := 3, maxLocals := 2, code := jdk_52_method_5_code, exceptionTable := #[], attributes := #[] }
def k18m4 : Method := { name := "getChar", desc := "([BI)C", sig := { parameters := [(.array .byte), .int], returnType := some .char }, accessFlags := 8, code := some k18c4 }
def k18c5 : Code := { maxStack := 2, maxLocals := 1, code := jdk_52_method_6_code, exceptionTable := #[], attributes := #[] }
def k18m5 : Method := { name := "length", desc := "([B)I", sig := { parameters := [(.array .byte)], returnType := some .int }, accessFlags := 9, code := some k18c5 }
def k18c6 : Code := { maxStack := 4, maxLocals := 5, code := jdk_52_method_14_code, exceptionTable := #[], attributes := #[] }
def k18m6 : Method := { name := "toBytes", desc := "([CII)[B", sig := { parameters := [(.array .char), .int, .int], returnType := some (.array .byte) }, accessFlags := 9, code := some k18c6 }
def k18c7 : Code := { maxStack := 2, maxLocals := 2, code := jdk_52_method_15_code, exceptionTable := #[], attributes := #[] }
def k18m7 : Method := { name := "coderFromArrayLen", desc := "([BI)B", sig := { parameters := [(.array .byte), .int], returnType := some .byte }, accessFlags := 8, code := some k18c7 }
def k18c8 : Code := { maxStack := 5, maxLocals := 6, code := jdk_52_method_16_code, exceptionTable := #[], attributes := #[] }
def k18m8 : Method := { name := "compress", desc := "([CII)[B", sig := { parameters := [(.array .char), .int, .int], returnType := some (.array .byte) }, accessFlags := 9, code := some k18c8 }
def k18c9 : Code := { maxStack := 3, maxLocals := 7, code := jdk_52_method_21_code, exceptionTable := #[], attributes := #[] }
def k18m9 : Method := { name := "compress", desc := "([CI[BII)I", sig := { parameters := [(.array .char), .int, (.array .byte), .int, .int], returnType := some .int }, accessFlags := 9, code := some k18c9 }
def k18c10 : Code := { maxStack := 3, maxLocals := 2, code := jdk_52_method_24_code, exceptionTable := #[], attributes := #[] }
def k18m10 : Method := { name := "toBytes", desc := "(C)[B", sig := { parameters := [.char], returnType := some (.array .byte) }, accessFlags := 9, code := some k18c10 }
def k18c11 : Code := { maxStack := 2, maxLocals := 2, code := jdk_52_method_83_code, exceptionTable := #[], attributes := #[] }
def k18m11 : Method := { name := "charAt", desc := "([BI)C", sig := { parameters := [(.array .byte), .int], returnType := some .char }, accessFlags := 9, code := some k18c11 }
def k18c12 : Code := { maxStack := 4, maxLocals := 6, code := jdk_52_method_86_code, exceptionTable := #[], attributes := #[] }
def k18m12 : Method := { name := "inflate", desc := "([BI[BII)V", sig := { parameters := [(.array .byte), .int, (.array .byte), .int, .int], returnType := none }, accessFlags := 9, code := some k18c12 }
def k18c13 : Code := { maxStack := 2, maxLocals := 2, code := jdk_52_method_91_code, exceptionTable := #[], attributes := #[] }
def k18m13 : Method := { name := "checkIndex", desc := "(I[B)V", sig := { parameters := [.int, (.array .byte)], returnType := none }, accessFlags := 9, code := some k18c13 }
def k18c14 : Code := { maxStack := 3, maxLocals := 3, code := jdk_52_method_94_code, exceptionTable := #[], attributes := #[] }
def k18m14 : Method := { name := "checkBoundsOffCount", desc := "(II[B)V", sig := { parameters := [.int, .int, (.array .byte)], returnType := none }, accessFlags := 9, code := some k18c14 }
/-- java/lang/StringUTF16 -/
def k18 : Class := { plain "java/lang/StringUTF16" (some 0) with
  accessFlags := 48
  interfaces := #[]
  cf := some (fileOf pool18 12 #[.nestMembers #[627, 629, 369]] #[{ accessFlags := 0, nameIndex := 9, descriptorIndex := 10, attributes := #[] }, { accessFlags := 9, nameIndex := 109, descriptorIndex := 110, attributes := #[] }, { accessFlags := 9, nameIndex := 15, descriptorIndex := 16, attributes := #[] }, { accessFlags := 8, nameIndex := 113, descriptorIndex := 114, attributes := #[] }, { accessFlags := 8, nameIndex := 73, descriptorIndex := 74, attributes := #[] }, { accessFlags := 9, nameIndex := 50, descriptorIndex := 51, attributes := #[] }, { accessFlags := 9, nameIndex := 121, descriptorIndex := 122, attributes := #[] }, { accessFlags := 8, nameIndex := 261, descriptorIndex := 262, attributes := #[] }, { accessFlags := 9, nameIndex := 117, descriptorIndex := 122, attributes := #[] }, { accessFlags := 9, nameIndex := 117, descriptorIndex := 118, attributes := #[] }, { accessFlags := 9, nameIndex := 121, descriptorIndex := 475, attributes := #[] }, { accessFlags := 9, nameIndex := 392, descriptorIndex := 74, attributes := #[] }, { accessFlags := 9, nameIndex := 140, descriptorIndex := 141, attributes := #[] }, { accessFlags := 9, nameIndex := 69, descriptorIndex := 70, attributes := #[] }, { accessFlags := 9, nameIndex := 175, descriptorIndex := 99, attributes := #[] }] 48 6 #[] #[{ accessFlags := 26, nameIndex := 61, descriptorIndex := 62, attributes := #[] }, { accessFlags := 26, nameIndex := 65, descriptorIndex := 62, attributes := #[] }, { accessFlags := 24, nameIndex := 430, descriptorIndex := 62, attributes := #[] }, { accessFlags := 4120, nameIndex := 46, descriptorIndex := 47, attributes := #[] }])
  fields := #[{ name := "HI_BYTE_SHIFT", type := .int, accessFlags := 26, slot := 0, constantValue := 0 }, { name := "LO_BYTE_SHIFT", type := .int, accessFlags := 26, slot := 1, constantValue := 0 }, { name := "MAX_LENGTH", type := .int, accessFlags := 24, slot := 2, constantValue := 0 }, { name := "$assertionsDisabled", type := .boolean, accessFlags := 4120, slot := 3, constantValue := 0 }]
  methods := #[k18m0, k18m1, k18m2, k18m3, k18m4, k18m5, k18m6, k18m7, k18m8, k18m9, k18m10, k18m11, k18m12, k18m13, k18m14]
  instanceTypes := #[]
  staticTypes := #[.int, .int, .int, .boolean]
  resolved := Array.replicate 635 none
  statics := some 2 }

def pool19 : Array CpInfo := pool [(9, u "<init>"), (6, .class_ 18), (1, u "java/lang/Object"), (0, u "()V"), (1, .class_ 23), (1, u "jdk/internal/util/ArraysSupport"), (0, u "LOG2_ARRAY_LONG_INDEX_SCALE"), (0, u "I"), (2, u "U"), (0, u "Ljdk/internal/misc/Unsafe;"), (8, u "BIG_ENDIAN"), (0, u "Z"), (8, u "LOG2_BYTE_BIT_SIZE"), (4, u "LOG2_ARRAY_INT_INDEX_SCALE"), (54, u "JLA"), (0, u "Ljdk/internal/access/JavaLangAccess;"), (11, u "LOG2_ARRAY_BOOLEAN_INDEX_SCALE"), (9, u "LOG2_ARRAY_BYTE_INDEX_SCALE"), (5, u "LOG2_ARRAY_CHAR_INDEX_SCALE"), (5, u "LOG2_ARRAY_SHORT_INDEX_SCALE"), (18, u "LOG2_ARRAY_FLOAT_INDEX_SCALE"), (24, u "LOG2_ARRAY_DOUBLE_INDEX_SCALE"), (89, u "T_BOOLEAN"), (2, u "T_CHAR"), (1, u "T_FLOAT"), (1, u "T_DOUBLE"), (1, u "T_BYTE"), (1, u "T_SHORT"), (1, u "T_INT"), (1, u "T_LONG"), (1, u "SOFT_MAX_ARRAY_LENGTH")] 83

def k19m0 : Method := { name := "<init>", desc := "()V", sig := { parameters := [], returnType := none }, accessFlags := 2, code := none }
/-- jdk/internal/util/ArraysSupport -/
def k19 : Class := { plain "jdk/internal/util/ArraysSupport" (some 0) with
  accessFlags := 33
  interfaces := #[]
  cf := some (fileOf pool19 21 #[] #[{ accessFlags := 2, nameIndex := 9, descriptorIndex := 19, attributes := #[] }] 33 16 #[] #[{ accessFlags := 24, nameIndex := 28, descriptorIndex := 29, attributes := #[] }, { accessFlags := 26, nameIndex := 38, descriptorIndex := 39, attributes := #[] }, { accessFlags := 25, nameIndex := 121, descriptorIndex := 25, attributes := #[] }, { accessFlags := 25, nameIndex := 131, descriptorIndex := 25, attributes := #[] }, { accessFlags := 25, nameIndex := 137, descriptorIndex := 25, attributes := #[] }, { accessFlags := 25, nameIndex := 143, descriptorIndex := 25, attributes := #[] }, { accessFlags := 25, nameIndex := 53, descriptorIndex := 25, attributes := #[] }, { accessFlags := 25, nameIndex := 24, descriptorIndex := 25, attributes := #[] }, { accessFlags := 25, nameIndex := 162, descriptorIndex := 25, attributes := #[] }, { accessFlags := 25, nameIndex := 187, descriptorIndex := 25, attributes := #[] }, { accessFlags := 26, nameIndex := 48, descriptorIndex := 25, attributes := #[] }, { accessFlags := 25, nameIndex := 277, descriptorIndex := 25, attributes := #[] }, { accessFlags := 25, nameIndex := 280, descriptorIndex := 25, attributes := #[] }, { accessFlags := 25, nameIndex := 282, descriptorIndex := 25, attributes := #[] }, { accessFlags := 25, nameIndex := 284, descriptorIndex := 25, attributes := #[] }, { accessFlags := 25, nameIndex := 286, descriptorIndex := 25, attributes := #[] }, { accessFlags := 25, nameIndex := 288, descriptorIndex := 25, attributes := #[] }, { accessFlags := 25, nameIndex := 290, descriptorIndex := 25, attributes := #[] }, { accessFlags := 25, nameIndex := 292, descriptorIndex := 25, attributes := #[] }, { accessFlags := 26, nameIndex := 108, descriptorIndex := 109, attributes := #[] }, { accessFlags := 25, nameIndex := 294, descriptorIndex := 25, attributes := #[] }])
  fields := #[{ name := "U", type := (.object "jdk/internal/misc/Unsafe"), accessFlags := 24, slot := 0, constantValue := 0 }, { name := "BIG_ENDIAN", type := .boolean, accessFlags := 26, slot := 1, constantValue := 0 }, { name := "LOG2_ARRAY_BOOLEAN_INDEX_SCALE", type := .int, accessFlags := 25, slot := 2, constantValue := 0 }, { name := "LOG2_ARRAY_BYTE_INDEX_SCALE", type := .int, accessFlags := 25, slot := 3, constantValue := 0 }, { name := "LOG2_ARRAY_CHAR_INDEX_SCALE", type := .int, accessFlags := 25, slot := 4, constantValue := 0 }, { name := "LOG2_ARRAY_SHORT_INDEX_SCALE", type := .int, accessFlags := 25, slot := 5, constantValue := 0 }, { name := "LOG2_ARRAY_INT_INDEX_SCALE", type := .int, accessFlags := 25, slot := 6, constantValue := 0 }, { name := "LOG2_ARRAY_LONG_INDEX_SCALE", type := .int, accessFlags := 25, slot := 7, constantValue := 0 }, { name := "LOG2_ARRAY_FLOAT_INDEX_SCALE", type := .int, accessFlags := 25, slot := 8, constantValue := 0 }, { name := "LOG2_ARRAY_DOUBLE_INDEX_SCALE", type := .int, accessFlags := 25, slot := 9, constantValue := 0 }, { name := "LOG2_BYTE_BIT_SIZE", type := .int, accessFlags := 26, slot := 10, constantValue := 0 }, { name := "T_BOOLEAN", type := .int, accessFlags := 25, slot := 11, constantValue := 0 }, { name := "T_CHAR", type := .int, accessFlags := 25, slot := 12, constantValue := 0 }, { name := "T_FLOAT", type := .int, accessFlags := 25, slot := 13, constantValue := 0 }, { name := "T_DOUBLE", type := .int, accessFlags := 25, slot := 14, constantValue := 0 }, { name := "T_BYTE", type := .int, accessFlags := 25, slot := 15, constantValue := 0 }, { name := "T_SHORT", type := .int, accessFlags := 25, slot := 16, constantValue := 0 }, { name := "T_INT", type := .int, accessFlags := 25, slot := 17, constantValue := 0 }, { name := "T_LONG", type := .int, accessFlags := 25, slot := 18, constantValue := 0 }, { name := "JLA", type := (.object "jdk/internal/access/JavaLangAccess"), accessFlags := 26, slot := 19, constantValue := 0 }, { name := "SOFT_MAX_ARRAY_LENGTH", type := .int, accessFlags := 25, slot := 20, constantValue := 0 }]
  methods := #[k19m0]
  instanceTypes := #[]
  staticTypes := #[(.object "jdk/internal/misc/Unsafe"), .boolean, .int, .int, .int, .int, .int, .int, .int, .int, .int, .int, .int, .int, .int, .int, .int, .int, .int, (.object "jdk/internal/access/JavaLangAccess"), .int]
  resolved := Array.replicate 378 none
  statics := none }

def pool20 : Array CpInfo := pool [(1, u "java/lang/Cloneable"), (0, .class_ 1), (0, u "java/lang/Object"), (0, .class_ 3)] 3

/-- java/lang/Cloneable -/
def k20 : Class := { plain "java/lang/Cloneable" (some 0) with
  accessFlags := 1537
  interfaces := #[]
  cf := some (fileOf pool20 2 #[] #[] 1537 4 #[] #[])
  fields := #[]
  methods := #[]
  instanceTypes := #[]
  staticTypes := #[]
  resolved := Array.replicate 8 none
  statics := none }

/-- the primitive byte -/
def k21 : Class := { plain "byte" none with kind := .primitive 'B', accessFlags := 0x411 }
/-- [B -/
def k22 : Class := { plain "[B" (some 0) with kind := .array 21 .byte, interfaces := #[20, 2], accessFlags := 1041 }

/-- the primitive char -/
def k23 : Class := { plain "char" none with kind := .primitive 'C', accessFlags := 0x411 }
/-- [C -/
def k24 : Class := { plain "[C" (some 0) with kind := .array 23 .char, interfaces := #[20, 2], accessFlags := 1041 }

def heap : Heap := #[{ cls := 7, slots := #[.long 0, .int 1, .null, .int 0, .null, .int 0, .int 0], vm := .statics 7 },
  { cls := 17, slots := #[.null, .null, .null], vm := .statics 17 },
  { cls := 18, slots := #[.int 0, .int 8, .int 0, .int 1], vm := .statics 18 }]
def classes : Array Class := #[k0, k1, k2, k3, k4, k5, k6, k7, k8, k9, k10, k11, k12, k13, k14, k15, k16, k17, k18, k19, k20, k21, k22, k23, k24]
def interned : List (Array UInt16 × Addr) := []
def slotsUsed : Nat := 14
def theMethod : MethodId := ⟨1, 1⟩
def args0 : Array Value := #[.int 9, .int 65, .int 66, .int 67, .int 68]
def aboutOver (below : List Frame) : State where
  vm := { classes := classes, interned := interned.toArray }
  heap := heap
  slotsUsed := slotsUsed
  threads := #[{ frames := .invoking theMethod args0 :: below }]
def below0 : List Frame := [.native { method := ⟨0, 0⟩, args := #[] }]
def about1 : State := aboutOver below0
def p0 : Program := .bare "" "" ""
def e0 : Env := launch0.env 0 0 0
theorem w_frames : about1.frames = Frame.invoking theMethod args0 :: below0 := rfl
set_option maxRecDepth 65536 in
theorem w_args : argsFit about1.vm theMethod args0 = true := by decide +kernel
set_option maxRecDepth 65536 in
theorem w_heap : heapFits about1 = true := by decide +kernel
set_option maxRecDepth 65536 in
theorem w_runnable : about1.curStatus? = some .runnable := by decide +kernel
set_option maxRecDepth 65536 in
theorem w_alone : about1.alone = true := by decide +kernel
set_option maxRecDepth 65536 in
theorem w_named : about1.methodNamed? x = some theMethod := by decide +kernel
set_option maxRecDepth 65536 in
theorem w_hears : about1.hears theMethod below0 = true := by decide +kernel
set_option maxRecDepth 65536 in
theorem w_ripe : about1.ripe theMethod args0 below0 = true := by decide +kernel
theorem w_running : about1.status = .running := rfl
set_option maxRecDepth 65536 in
theorem w_room : about1.hasRoom e0.platform room_1 = true :=
  launch0.hasRoom_least _ room_1 (by decide +kernel) (by decide +kernel) (by decide +kernel) (by decide +kernel) (by decide +kernel) (by decide +kernel)
theorem allAtoms_all (ts : List Jvm.Cond) (a : Array Jvm.Value) (st : Jvm.State) : (allAtoms ts).before a st = ts.all (fun c => c.before a st) := by
  induction ts with
  | nil => rfl
  | cons c t ih =>
    show (Jvm.Cond.and c (allAtoms t)).before a st = _
    rw [Jvm.Cond.before_and, ih, List.all_cons]
def words1 : List Jvm.Cond := Jvm.Cond.code x code maxLocals ret :: tables_1
/-- a 'code' word, met by the world's own term for the bytes: nothing is compared byte by byte -/
theorem code_word {y : MethodName} {bytes : ByteArray} {mx : Nat} {rt : Option FieldType} {a : Array Value} {s : State} {m : MethodId} {meth : Method} {c : Code} (h1 : s.methodNamed? y = some m) (h2 : s.vm.method? m = some meth) (h3 : meth.code = some c) (h4 : c.code = bytes)
    (h5 : (c.maxLocals == mx && c.exceptionTable.isEmpty && decide (c.maxStack ≤ mostOperands) && decide (meth.sig.returnType = rt) && !meth.locks && decide (parseMethodDescriptor y.desc = some meth.sig)) = true) : (Jvm.Cond.code y bytes mx rt).before a s = true := by
  simp only [Bool.and_eq_true, beq_iff_eq, Bool.not_eq_true', decide_eq_true_eq] at h5
  obtain ⟨⟨⟨⟨⟨g1, g2⟩, g3⟩, g4⟩, g5⟩, g6⟩ := h5
  simp [Cond.before, Cond.holds, Cond.value, h1, h2, h3, h4, g1, g2, g3, g4, g5, g6]
def isCode : Jvm.Cond → Bool
  | .code _ _ _ _ => true
  | _ => false
theorem all_split {L : List Jvm.Cond} {P : Jvm.Cond → Bool} (h1 : L.all (fun c => isCode c || P c) = true) (h2 : ∀ c ∈ L.filter isCode, P c = true) : L.all P = true := by
  refine List.all_eq_true.mpr fun c hc => ?_
  have h := List.all_eq_true.mp h1 c hc
  rcases Bool.eq_false_or_eq_true (isCode c) with hi | hi
  · exact h2 c (List.mem_filter.mpr ⟨hc, hi⟩)
  · simpa [hi] using h
set_option maxRecDepth 65536 in
theorem w_c0 : (Jvm.Cond.code x code maxLocals ret).before args0 about1 = true := code_word (m := ⟨1, 1⟩) (meth := k1m1) (c := k1c1) (by decide +kernel) rfl rfl rfl (by decide +kernel)
set_option maxRecDepth 65536 in
theorem w_c1 : (Jvm.Cond.code ({ cls := "com/example/frist/frist/TableNameQualifiedPinLaw", name := "mk", desc := "(ICC)Ljava/lang/String;" } : Jvm.MethodName) method_3_code (4 : Nat) (Option.some (Jvm.ClassFile.FieldType.object "java/lang/String"))).before args0 about1 = true := code_word (m := ⟨1, 2⟩) (meth := k1m2) (c := k1c2) (by decide +kernel) rfl rfl rfl (by decide +kernel)
set_option maxRecDepth 65536 in
theorem w_c2 : (Jvm.Cond.code ({ cls := "java/lang/String", name := "<init>", desc := "([C)V" } : Jvm.MethodName) jdk_42_method_3_code (2 : Nat) (Option.none : Option Jvm.ClassFile.FieldType)).before args0 about1 = true := code_word (m := ⟨7, 1⟩) (meth := k7m1) (c := k7c1) (by decide +kernel) rfl rfl rfl (by decide +kernel)
set_option maxRecDepth 65536 in
theorem w_c3 : (Jvm.Cond.code ({ cls := "java/lang/String", name := "<init>", desc := "([CIILjava/lang/Void;)V" } : Jvm.MethodName) jdk_42_method_149_code (6 : Nat) (Option.none : Option Jvm.ClassFile.FieldType)).before args0 about1 = true := code_word (m := ⟨7, 7⟩) (meth := k7m7) (c := k7c7) (by decide +kernel) rfl rfl rfl (by decide +kernel)
set_option maxRecDepth 65536 in
theorem w_c4 : (Jvm.Cond.code ({ cls := "java/lang/Object", name := "<init>", desc := "()V" } : Jvm.MethodName) object_method_1_code (1 : Nat) (Option.none : Option Jvm.ClassFile.FieldType)).before args0 about1 = true := code_word (m := ⟨0, 0⟩) (meth := k0m0) (c := k0c0) (by decide +kernel) rfl rfl rfl (by decide +kernel)
set_option maxRecDepth 65536 in
theorem w_c5 : (Jvm.Cond.code ({ cls := "com/example/frist/frist/TableName", name := "<init>", desc := "(Ljava/lang/String;Ljava/lang/String;)V" } : Jvm.MethodName) prog_7_method_1_code (3 : Nat) (Option.none : Option Jvm.ClassFile.FieldType)).before args0 about1 = true := code_word (m := ⟨9, 0⟩) (meth := k9m0) (c := k9c0) (by decide +kernel) rfl rfl rfl (by decide +kernel)
set_option maxRecDepth 65536 in
theorem w_c6 : (Jvm.Cond.code ({ cls := "java/lang/Record", name := "<init>", desc := "()V" } : Jvm.MethodName) jdk_30_method_1_code (1 : Nat) (Option.none : Option Jvm.ClassFile.FieldType)).before args0 about1 = true := code_word (m := ⟨8, 0⟩) (meth := k8m0) (c := k8c0) (by decide +kernel) rfl rfl rfl (by decide +kernel)
set_option maxRecDepth 65536 in
theorem w_c7 : (Jvm.Cond.code ({ cls := "com/example/frist/frist/TableName", name := "qualified", desc := "()Ljava/lang/String;" } : Jvm.MethodName) prog_7_method_3_code (1 : Nat) (Option.some (Jvm.ClassFile.FieldType.object "java/lang/String"))).before args0 about1 = true := code_word (m := ⟨9, 1⟩) (meth := k9m1) (c := k9c1) (by decide +kernel) rfl rfl rfl (by decide +kernel)
set_option maxRecDepth 65536 in
theorem w_c8 : (Jvm.Cond.code ({ cls := "java/lang/StringBuilder", name := "<init>", desc := "()V" } : Jvm.MethodName) jdk_67_method_1_code (1 : Nat) (Option.none : Option Jvm.ClassFile.FieldType)).before args0 about1 = true := code_word (m := ⟨12, 0⟩) (meth := k12m0) (c := k12c0) (by decide +kernel) rfl rfl rfl (by decide +kernel)
set_option maxRecDepth 65536 in
theorem w_c9 : (Jvm.Cond.code ({ cls := "java/lang/AbstractStringBuilder", name := "<init>", desc := "(I)V" } : Jvm.MethodName) jdk_68_method_2_code (2 : Nat) (Option.none : Option Jvm.ClassFile.FieldType)).before args0 about1 = true := code_word (m := ⟨11, 1⟩) (meth := k11m1) (c := k11c1) (by decide +kernel) rfl rfl rfl (by decide +kernel)
set_option maxRecDepth 65536 in
theorem w_c10 : (Jvm.Cond.code ({ cls := "java/lang/StringBuilder", name := "append", desc := "(Ljava/lang/String;)Ljava/lang/StringBuilder;" } : Jvm.MethodName) jdk_67_method_7_code (2 : Nat) (Option.some (Jvm.ClassFile.FieldType.object "java/lang/StringBuilder"))).before args0 about1 = true := code_word (m := ⟨12, 1⟩) (meth := k12m1) (c := k12c1) (by decide +kernel) rfl rfl rfl (by decide +kernel)
set_option maxRecDepth 65536 in
theorem w_c11 : (Jvm.Cond.code ({ cls := "java/lang/AbstractStringBuilder", name := "append", desc := "(Ljava/lang/String;)Ljava/lang/AbstractStringBuilder;" } : Jvm.MethodName) jdk_68_method_22_code (3 : Nat) (Option.some (Jvm.ClassFile.FieldType.object "java/lang/AbstractStringBuilder"))).before args0 about1 = true := code_word (m := ⟨11, 5⟩) (meth := k11m5) (c := k11c5) (by decide +kernel) rfl rfl rfl (by decide +kernel)
set_option maxRecDepth 65536 in
theorem w_c12 : (Jvm.Cond.code ({ cls := "java/lang/String", name := "length", desc := "()I" } : Jvm.MethodName) jdk_42_method_54_code (1 : Nat) (Option.some Jvm.ClassFile.FieldType.int)).before args0 about1 = true := code_word (m := ⟨7, 3⟩) (meth := k7m3) (c := k7c3) (by decide +kernel) rfl rfl rfl (by decide +kernel)
set_option maxRecDepth 65536 in
theorem w_c13 : (Jvm.Cond.code ({ cls := "java/lang/String", name := "coder", desc := "()B" } : Jvm.MethodName) jdk_42_method_152_code (1 : Nat) (Option.some Jvm.ClassFile.FieldType.byte)).before args0 about1 = true := code_word (m := ⟨7, 10⟩) (meth := k7m10) (c := k7c10) (by decide +kernel) rfl rfl rfl (by decide +kernel)
set_option maxRecDepth 65536 in
theorem w_c14 : (Jvm.Cond.code ({ cls := "java/lang/AbstractStringBuilder", name := "ensureCapacityInternal", desc := "(I)V" } : Jvm.MethodName) jdk_68_method_9_code (3 : Nat) (Option.none : Option Jvm.ClassFile.FieldType)).before args0 about1 = true := code_word (m := ⟨11, 3⟩) (meth := k11m3) (c := k11c3) (by decide +kernel) rfl rfl rfl (by decide +kernel)
set_option maxRecDepth 65536 in
theorem w_c15 : (Jvm.Cond.code ({ cls := "java/lang/AbstractStringBuilder", name := "putStringAt", desc := "(ILjava/lang/String;)V" } : Jvm.MethodName) jdk_68_method_73_code (3 : Nat) (Option.none : Option Jvm.ClassFile.FieldType)).before args0 about1 = true := code_word (m := ⟨11, 9⟩) (meth := k11m9) (c := k11c9) (by decide +kernel) rfl rfl rfl (by decide +kernel)
set_option maxRecDepth 65536 in
theorem w_c16 : (Jvm.Cond.code ({ cls := "java/lang/AbstractStringBuilder", name := "inflateIfNeededFor", desc := "(Ljava/lang/String;)V" } : Jvm.MethodName) jdk_68_method_71_code (2 : Nat) (Option.none : Option Jvm.ClassFile.FieldType)).before args0 about1 = true := code_word (m := ⟨11, 8⟩) (meth := k11m8) (c := k11c8) (by decide +kernel) rfl rfl rfl (by decide +kernel)
set_option maxRecDepth 65536 in
theorem w_c17 : (Jvm.Cond.code ({ cls := "java/lang/String", name := "getBytes", desc := "([BIB)V" } : Jvm.MethodName) jdk_42_method_147_code (4 : Nat) (Option.none : Option Jvm.ClassFile.FieldType)).before args0 about1 = true := code_word (m := ⟨7, 6⟩) (meth := k7m6) (c := k7c6) (by decide +kernel) rfl rfl rfl (by decide +kernel)
set_option maxRecDepth 65536 in
theorem w_c18 : (Jvm.Cond.code ({ cls := "java/lang/StringBuilder", name := "toString", desc := "()Ljava/lang/String;" } : Jvm.MethodName) jdk_67_method_42_code (1 : Nat) (Option.some (Jvm.ClassFile.FieldType.object "java/lang/String"))).before args0 about1 = true := code_word (m := ⟨12, 2⟩) (meth := k12m2) (c := k12c2) (by decide +kernel) rfl rfl rfl (by decide +kernel)
set_option maxRecDepth 65536 in
theorem w_c19 : (Jvm.Cond.code ({ cls := "java/lang/String", name := "<init>", desc := "(Ljava/lang/StringBuilder;)V" } : Jvm.MethodName) jdk_42_method_53_code (2 : Nat) (Option.none : Option Jvm.ClassFile.FieldType)).before args0 about1 = true := code_word (m := ⟨7, 2⟩) (meth := k7m2) (c := k7c2) (by decide +kernel) rfl rfl rfl (by decide +kernel)
set_option maxRecDepth 65536 in
theorem w_c20 : (Jvm.Cond.code ({ cls := "java/lang/String", name := "<init>", desc := "(Ljava/lang/AbstractStringBuilder;Ljava/lang/Void;)V" } : Jvm.MethodName) jdk_42_method_150_code (5 : Nat) (Option.none : Option Jvm.ClassFile.FieldType)).before args0 about1 = true := code_word (m := ⟨7, 8⟩) (meth := k7m8) (c := k7c8) (by decide +kernel) rfl rfl rfl (by decide +kernel)
set_option maxRecDepth 65536 in
theorem w_c21 : (Jvm.Cond.code ({ cls := "java/lang/AbstractStringBuilder", name := "getValue", desc := "()[B" } : Jvm.MethodName) jdk_68_method_64_code (1 : Nat) (Option.some (Jvm.ClassFile.FieldType.array Jvm.ClassFile.FieldType.byte))).before args0 about1 = true := code_word (m := ⟨11, 6⟩) (meth := k11m6) (c := k11c6) (by decide +kernel) rfl rfl rfl (by decide +kernel)
set_option maxRecDepth 65536 in
theorem w_c22 : (Jvm.Cond.code ({ cls := "java/lang/StringBuilder", name := "length", desc := "()I" } : Jvm.MethodName) jdk_67_method_93_code (1 : Nat) (Option.some Jvm.ClassFile.FieldType.int)).before args0 about1 = true := code_word (m := ⟨12, 3⟩) (meth := k12m3) (c := k12c3) (by decide +kernel) rfl rfl rfl (by decide +kernel)
set_option maxRecDepth 65536 in
theorem w_c23 : (Jvm.Cond.code ({ cls := "java/lang/AbstractStringBuilder", name := "length", desc := "()I" } : Jvm.MethodName) jdk_68_method_6_code (1 : Nat) (Option.some Jvm.ClassFile.FieldType.int)).before args0 about1 = true := code_word (m := ⟨11, 2⟩) (meth := k11m2) (c := k11c2) (by decide +kernel) rfl rfl rfl (by decide +kernel)
set_option maxRecDepth 65536 in
theorem w_c24 : (Jvm.Cond.code ({ cls := "java/lang/AbstractStringBuilder", name := "isLatin1", desc := "()Z" } : Jvm.MethodName) jdk_68_method_68_code (1 : Nat) (Option.some Jvm.ClassFile.FieldType.boolean)).before args0 about1 = true := code_word (m := ⟨11, 7⟩) (meth := k11m7) (c := k11c7) (by decide +kernel) rfl rfl rfl (by decide +kernel)
set_option maxRecDepth 65536 in
theorem w_c25 : (Jvm.Cond.code ({ cls := "java/util/Arrays", name := "copyOfRange", desc := "([BII)[B" } : Jvm.MethodName) jdk_65_method_132_code (3 : Nat) (Option.some (Jvm.ClassFile.FieldType.array Jvm.ClassFile.FieldType.byte))).before args0 about1 = true := code_word (m := ⟨14, 2⟩) (meth := k14m2) (c := k14c2) (by decide +kernel) rfl rfl rfl (by decide +kernel)
set_option maxRecDepth 65536 in
theorem w_c26 : (Jvm.Cond.code ({ cls := "java/util/Arrays", name := "copyOfRangeByte", desc := "([BII)[B" } : Jvm.MethodName) jdk_65_method_133_code (5 : Nat) (Option.some (Jvm.ClassFile.FieldType.array Jvm.ClassFile.FieldType.byte))).before args0 about1 = true := code_word (m := ⟨14, 3⟩) (meth := k14m3) (c := k14c3) (by decide +kernel) rfl rfl rfl (by decide +kernel)
set_option maxRecDepth 65536 in
theorem w_c27 : (Jvm.Cond.code ({ cls := "java/util/Arrays", name := "checkLength", desc := "(II)V" } : Jvm.MethodName) jdk_65_method_131_code (2 : Nat) (Option.none : Option Jvm.ClassFile.FieldType)).before args0 about1 = true := code_word (m := ⟨14, 1⟩) (meth := k14m1) (c := k14c1) (by decide +kernel) rfl rfl rfl (by decide +kernel)
set_option maxRecDepth 65536 in
theorem w_c28 : (Jvm.Cond.code ({ cls := "java/lang/Math", name := "min", desc := "(II)I" } : Jvm.MethodName) jdk_29_method_69_code (2 : Nat) (Option.some Jvm.ClassFile.FieldType.int)).before args0 about1 = true := code_word (m := ⟨15, 1⟩) (meth := k15m1) (c := k15c1) (by decide +kernel) rfl rfl rfl (by decide +kernel)
set_option maxRecDepth 65536 in
theorem w_c29 : (Jvm.Cond.code ({ cls := "com/example/frist/frist/TableNameQualifiedPinLaw", name := "ok", desc := "(Ljava/lang/String;IIICCCC)Z" } : Jvm.MethodName) method_4_code (10 : Nat) (Option.some Jvm.ClassFile.FieldType.boolean)).before args0 about1 = true := code_word (m := ⟨1, 3⟩) (meth := k1m3) (c := k1c3) (by decide +kernel) rfl rfl rfl (by decide +kernel)
set_option maxRecDepth 65536 in
theorem w_c30 : (Jvm.Cond.code ({ cls := "java/lang/String", name := "charAt", desc := "(I)C" } : Jvm.MethodName) jdk_42_method_56_code (2 : Nat) (Option.some Jvm.ClassFile.FieldType.char)).before args0 about1 = true := code_word (m := ⟨7, 4⟩) (meth := k7m4) (c := k7c4) (by decide +kernel) rfl rfl rfl (by decide +kernel)
set_option maxRecDepth 65536 in
theorem w_c31 : (Jvm.Cond.code ({ cls := "java/lang/String", name := "isLatin1", desc := "()Z" } : Jvm.MethodName) jdk_42_method_154_code (1 : Nat) (Option.some Jvm.ClassFile.FieldType.boolean)).before args0 about1 = true := code_word (m := ⟨7, 11⟩) (meth := k7m11) (c := k7c11) (by decide +kernel) rfl rfl rfl (by decide +kernel)
set_option maxRecDepth 65536 in
theorem w_c32 : (Jvm.Cond.code ({ cls := "java/lang/StringLatin1", name := "charAt", desc := "([BI)C" } : Jvm.MethodName) jdk_43_method_2_code (2 : Nat) (Option.some Jvm.ClassFile.FieldType.char)).before args0 about1 = true := code_word (m := ⟨16, 1⟩) (meth := k16m1) (c := k16c1) (by decide +kernel) rfl rfl rfl (by decide +kernel)
set_option maxRecDepth 65536 in
theorem w_c33 : (Jvm.Cond.code ({ cls := "java/lang/String", name := "checkIndex", desc := "(II)V" } : Jvm.MethodName) jdk_42_method_155_code (2 : Nat) (Option.none : Option Jvm.ClassFile.FieldType)).before args0 about1 = true := code_word (m := ⟨7, 12⟩) (meth := k7m12) (c := k7c12) (by decide +kernel) rfl rfl rfl (by decide +kernel)
set_option maxRecDepth 65536 in
theorem w_c34 : (Jvm.Cond.code ({ cls := "jdk/internal/util/Preconditions", name := "checkIndex", desc := "(IILjava/util/function/BiFunction;)I" } : Jvm.MethodName) jdk_41_method_11_code (3 : Nat) (Option.some Jvm.ClassFile.FieldType.int)).before args0 about1 = true := code_word (m := ⟨17, 1⟩) (meth := k17m1) (c := k17c1) (by decide +kernel) rfl rfl rfl (by decide +kernel)
set_option maxRecDepth 65536 in
theorem w_c35 : (Jvm.Cond.code ({ cls := "java/lang/StringUTF16", name := "compress", desc := "([CII)[B" } : Jvm.MethodName) jdk_52_method_16_code (6 : Nat) (Option.some (Jvm.ClassFile.FieldType.array Jvm.ClassFile.FieldType.byte))).before args0 about1 = true := code_word (m := ⟨18, 8⟩) (meth := k18m8) (c := k18c8) (by decide +kernel) rfl rfl rfl (by decide +kernel)
set_option maxRecDepth 65536 in
theorem w_c36 : (Jvm.Cond.code ({ cls := "java/lang/StringUTF16", name := "compress", desc := "([CI[BII)I" } : Jvm.MethodName) jdk_52_method_21_code (7 : Nat) (Option.some Jvm.ClassFile.FieldType.int)).before args0 about1 = true := code_word (m := ⟨18, 9⟩) (meth := k18m9) (c := k18c9) (by decide +kernel) rfl rfl rfl (by decide +kernel)
set_option maxRecDepth 65536 in
theorem w_c37 : (Jvm.Cond.code ({ cls := "java/lang/StringUTF16", name := "coderFromArrayLen", desc := "([BI)B" } : Jvm.MethodName) jdk_52_method_15_code (2 : Nat) (Option.some Jvm.ClassFile.FieldType.byte)).before args0 about1 = true := code_word (m := ⟨18, 7⟩) (meth := k18m7) (c := k18c7) (by decide +kernel) rfl rfl rfl (by decide +kernel)
set_option maxRecDepth 65536 in
theorem w_c38 : (Jvm.Cond.code ({ cls := "java/lang/String", name := "valueOf", desc := "(C)Ljava/lang/String;" } : Jvm.MethodName) jdk_42_method_139_code (1 : Nat) (Option.some (Jvm.ClassFile.FieldType.object "java/lang/String"))).before args0 about1 = true := code_word (m := ⟨7, 5⟩) (meth := k7m5) (c := k7c5) (by decide +kernel) rfl rfl rfl (by decide +kernel)
set_option maxRecDepth 65536 in
theorem w_c39 : (Jvm.Cond.code ({ cls := "java/lang/StringLatin1", name := "canEncode", desc := "(C)Z" } : Jvm.MethodName) jdk_43_method_3_code (1 : Nat) (Option.some Jvm.ClassFile.FieldType.boolean)).before args0 about1 = true := code_word (m := ⟨16, 2⟩) (meth := k16m2) (c := k16c2) (by decide +kernel) rfl rfl rfl (by decide +kernel)
set_option maxRecDepth 65536 in
theorem w_c40 : (Jvm.Cond.code ({ cls := "java/lang/StringUTF16", name := "toBytes", desc := "(C)[B" } : Jvm.MethodName) jdk_52_method_24_code (2 : Nat) (Option.some (Jvm.ClassFile.FieldType.array Jvm.ClassFile.FieldType.byte))).before args0 about1 = true := code_word (m := ⟨18, 10⟩) (meth := k18m10) (c := k18c10) (by decide +kernel) rfl rfl rfl (by decide +kernel)
set_option maxRecDepth 65536 in
theorem w_c41 : (Jvm.Cond.code ({ cls := "java/lang/StringUTF16", name := "putChar", desc := "([BII)V" } : Jvm.MethodName) jdk_52_method_4_code (3 : Nat) (Option.none : Option Jvm.ClassFile.FieldType)).before args0 about1 = true := code_word (m := ⟨18, 3⟩) (meth := k18m3) (c := k18c3) (by decide +kernel) rfl rfl rfl (by decide +kernel)
set_option maxRecDepth 65536 in
theorem w_c42 : (Jvm.Cond.code ({ cls := "java/lang/String", name := "<init>", desc := "([BB)V" } : Jvm.MethodName) jdk_42_method_151_code (3 : Nat) (Option.none : Option Jvm.ClassFile.FieldType)).before args0 about1 = true := code_word (m := ⟨7, 9⟩) (meth := k7m9) (c := k7c9) (by decide +kernel) rfl rfl rfl (by decide +kernel)
set_option maxRecDepth 65536 in
theorem w_c43 : (Jvm.Cond.code ({ cls := "java/lang/AbstractStringBuilder", name := "inflate", desc := "()V" } : Jvm.MethodName) jdk_68_method_11_code (2 : Nat) (Option.none : Option Jvm.ClassFile.FieldType)).before args0 about1 = true := code_word (m := ⟨11, 4⟩) (meth := k11m4) (c := k11c4) (by decide +kernel) rfl rfl rfl (by decide +kernel)
set_option maxRecDepth 65536 in
theorem w_c44 : (Jvm.Cond.code ({ cls := "java/lang/StringUTF16", name := "newBytesFor", desc := "(I)[B" } : Jvm.MethodName) jdk_52_method_2_code (1 : Nat) (Option.some (Jvm.ClassFile.FieldType.array Jvm.ClassFile.FieldType.byte))).before args0 about1 = true := code_word (m := ⟨18, 1⟩) (meth := k18m1) (c := k18c1) (by decide +kernel) rfl rfl rfl (by decide +kernel)
set_option maxRecDepth 65536 in
theorem w_c45 : (Jvm.Cond.code ({ cls := "java/lang/StringUTF16", name := "newBytesLength", desc := "(I)I" } : Jvm.MethodName) jdk_52_method_3_code (1 : Nat) (Option.some Jvm.ClassFile.FieldType.int)).before args0 about1 = true := code_word (m := ⟨18, 2⟩) (meth := k18m2) (c := k18c2) (by decide +kernel) rfl rfl rfl (by decide +kernel)
set_option maxRecDepth 65536 in
theorem w_c46 : (Jvm.Cond.code ({ cls := "java/lang/StringLatin1", name := "inflate", desc := "([BI[BII)V" } : Jvm.MethodName) jdk_43_method_50_code (5 : Nat) (Option.none : Option Jvm.ClassFile.FieldType)).before args0 about1 = true := code_word (m := ⟨16, 4⟩) (meth := k16m4) (c := k16c4) (by decide +kernel) rfl rfl rfl (by decide +kernel)
set_option maxRecDepth 65536 in
theorem w_c47 : (Jvm.Cond.code ({ cls := "java/lang/StringUTF16", name := "inflate", desc := "([BI[BII)V" } : Jvm.MethodName) jdk_52_method_86_code (6 : Nat) (Option.none : Option Jvm.ClassFile.FieldType)).before args0 about1 = true := code_word (m := ⟨18, 12⟩) (meth := k18m12) (c := k18c12) (by decide +kernel) rfl rfl rfl (by decide +kernel)
set_option maxRecDepth 65536 in
theorem w_c48 : (Jvm.Cond.code ({ cls := "java/lang/StringUTF16", name := "checkBoundsOffCount", desc := "(II[B)V" } : Jvm.MethodName) jdk_52_method_94_code (3 : Nat) (Option.none : Option Jvm.ClassFile.FieldType)).before args0 about1 = true := code_word (m := ⟨18, 14⟩) (meth := k18m14) (c := k18c14) (by decide +kernel) rfl rfl rfl (by decide +kernel)
set_option maxRecDepth 65536 in
theorem w_c49 : (Jvm.Cond.code ({ cls := "java/lang/StringUTF16", name := "length", desc := "([B)I" } : Jvm.MethodName) jdk_52_method_6_code (1 : Nat) (Option.some Jvm.ClassFile.FieldType.int)).before args0 about1 = true := code_word (m := ⟨18, 5⟩) (meth := k18m5) (c := k18c5) (by decide +kernel) rfl rfl rfl (by decide +kernel)
set_option maxRecDepth 65536 in
theorem w_c50 : (Jvm.Cond.code ({ cls := "java/lang/String", name := "checkBoundsOffCount", desc := "(III)I" } : Jvm.MethodName) jdk_42_method_157_code (3 : Nat) (Option.some Jvm.ClassFile.FieldType.int)).before args0 about1 = true := code_word (m := ⟨7, 13⟩) (meth := k7m13) (c := k7c13) (by decide +kernel) rfl rfl rfl (by decide +kernel)
set_option maxRecDepth 65536 in
theorem w_c51 : (Jvm.Cond.code ({ cls := "jdk/internal/util/Preconditions", name := "checkFromIndexSize", desc := "(IIILjava/util/function/BiFunction;)I" } : Jvm.MethodName) jdk_41_method_13_code (4 : Nat) (Option.some Jvm.ClassFile.FieldType.int)).before args0 about1 = true := code_word (m := ⟨17, 2⟩) (meth := k17m2) (c := k17c2) (by decide +kernel) rfl rfl rfl (by decide +kernel)
set_option maxRecDepth 65536 in
theorem w_c52 : (Jvm.Cond.code ({ cls := "java/lang/StringUTF16", name := "charAt", desc := "([BI)C" } : Jvm.MethodName) jdk_52_method_83_code (2 : Nat) (Option.some Jvm.ClassFile.FieldType.char)).before args0 about1 = true := code_word (m := ⟨18, 11⟩) (meth := k18m11) (c := k18c11) (by decide +kernel) rfl rfl rfl (by decide +kernel)
set_option maxRecDepth 65536 in
theorem w_c53 : (Jvm.Cond.code ({ cls := "java/lang/StringUTF16", name := "checkIndex", desc := "(I[B)V" } : Jvm.MethodName) jdk_52_method_91_code (2 : Nat) (Option.none : Option Jvm.ClassFile.FieldType)).before args0 about1 = true := code_word (m := ⟨18, 13⟩) (meth := k18m13) (c := k18c13) (by decide +kernel) rfl rfl rfl (by decide +kernel)
set_option maxRecDepth 65536 in
theorem w_c54 : (Jvm.Cond.code ({ cls := "java/lang/StringUTF16", name := "getChar", desc := "([BI)C" } : Jvm.MethodName) jdk_52_method_5_code (2 : Nat) (Option.some Jvm.ClassFile.FieldType.char)).before args0 about1 = true := code_word (m := ⟨18, 4⟩) (meth := k18m4) (c := k18c4) (by decide +kernel) rfl rfl rfl (by decide +kernel)
set_option maxRecDepth 65536 in
theorem w_c55 : (Jvm.Cond.code ({ cls := "java/lang/StringUTF16", name := "toBytes", desc := "([CII)[B" } : Jvm.MethodName) jdk_52_method_14_code (5 : Nat) (Option.some (Jvm.ClassFile.FieldType.array Jvm.ClassFile.FieldType.byte))).before args0 about1 = true := code_word (m := ⟨18, 6⟩) (meth := k18m6) (c := k18c6) (by decide +kernel) rfl rfl rfl (by decide +kernel)
set_option maxRecDepth 65536 in
theorem w_c56 : (Jvm.Cond.code ({ cls := "java/lang/StringLatin1", name := "toBytes", desc := "(C)[B" } : Jvm.MethodName) jdk_43_method_46_code (1 : Nat) (Option.some (Jvm.ClassFile.FieldType.array Jvm.ClassFile.FieldType.byte))).before args0 about1 = true := code_word (m := ⟨16, 3⟩) (meth := k16m3) (c := k16c3) (by decide +kernel) rfl rfl rfl (by decide +kernel)
def codes1 : List Jvm.Cond := [Jvm.Cond.code x code maxLocals ret, Jvm.Cond.code ({ cls := "com/example/frist/frist/TableNameQualifiedPinLaw", name := "mk", desc := "(ICC)Ljava/lang/String;" } : Jvm.MethodName) method_3_code (4 : Nat) (Option.some (Jvm.ClassFile.FieldType.object "java/lang/String")), Jvm.Cond.code ({ cls := "java/lang/String", name := "<init>", desc := "([C)V" } : Jvm.MethodName) jdk_42_method_3_code (2 : Nat) (Option.none : Option Jvm.ClassFile.FieldType), Jvm.Cond.code ({ cls := "java/lang/String", name := "<init>", desc := "([CIILjava/lang/Void;)V" } : Jvm.MethodName) jdk_42_method_149_code (6 : Nat) (Option.none : Option Jvm.ClassFile.FieldType), Jvm.Cond.code ({ cls := "java/lang/Object", name := "<init>", desc := "()V" } : Jvm.MethodName) object_method_1_code (1 : Nat) (Option.none : Option Jvm.ClassFile.FieldType), Jvm.Cond.code ({ cls := "com/example/frist/frist/TableName", name := "<init>", desc := "(Ljava/lang/String;Ljava/lang/String;)V" } : Jvm.MethodName) prog_7_method_1_code (3 : Nat) (Option.none : Option Jvm.ClassFile.FieldType), Jvm.Cond.code ({ cls := "java/lang/Record", name := "<init>", desc := "()V" } : Jvm.MethodName) jdk_30_method_1_code (1 : Nat) (Option.none : Option Jvm.ClassFile.FieldType), Jvm.Cond.code ({ cls := "com/example/frist/frist/TableName", name := "qualified", desc := "()Ljava/lang/String;" } : Jvm.MethodName) prog_7_method_3_code (1 : Nat) (Option.some (Jvm.ClassFile.FieldType.object "java/lang/String")), Jvm.Cond.code ({ cls := "java/lang/StringBuilder", name := "<init>", desc := "()V" } : Jvm.MethodName) jdk_67_method_1_code (1 : Nat) (Option.none : Option Jvm.ClassFile.FieldType), Jvm.Cond.code ({ cls := "java/lang/AbstractStringBuilder", name := "<init>", desc := "(I)V" } : Jvm.MethodName) jdk_68_method_2_code (2 : Nat) (Option.none : Option Jvm.ClassFile.FieldType), Jvm.Cond.code ({ cls := "java/lang/StringBuilder", name := "append", desc := "(Ljava/lang/String;)Ljava/lang/StringBuilder;" } : Jvm.MethodName) jdk_67_method_7_code (2 : Nat) (Option.some (Jvm.ClassFile.FieldType.object "java/lang/StringBuilder")), Jvm.Cond.code ({ cls := "java/lang/AbstractStringBuilder", name := "append", desc := "(Ljava/lang/String;)Ljava/lang/AbstractStringBuilder;" } : Jvm.MethodName) jdk_68_method_22_code (3 : Nat) (Option.some (Jvm.ClassFile.FieldType.object "java/lang/AbstractStringBuilder")), Jvm.Cond.code ({ cls := "java/lang/String", name := "length", desc := "()I" } : Jvm.MethodName) jdk_42_method_54_code (1 : Nat) (Option.some Jvm.ClassFile.FieldType.int), Jvm.Cond.code ({ cls := "java/lang/String", name := "coder", desc := "()B" } : Jvm.MethodName) jdk_42_method_152_code (1 : Nat) (Option.some Jvm.ClassFile.FieldType.byte), Jvm.Cond.code ({ cls := "java/lang/AbstractStringBuilder", name := "ensureCapacityInternal", desc := "(I)V" } : Jvm.MethodName) jdk_68_method_9_code (3 : Nat) (Option.none : Option Jvm.ClassFile.FieldType), Jvm.Cond.code ({ cls := "java/lang/AbstractStringBuilder", name := "putStringAt", desc := "(ILjava/lang/String;)V" } : Jvm.MethodName) jdk_68_method_73_code (3 : Nat) (Option.none : Option Jvm.ClassFile.FieldType), Jvm.Cond.code ({ cls := "java/lang/AbstractStringBuilder", name := "inflateIfNeededFor", desc := "(Ljava/lang/String;)V" } : Jvm.MethodName) jdk_68_method_71_code (2 : Nat) (Option.none : Option Jvm.ClassFile.FieldType), Jvm.Cond.code ({ cls := "java/lang/String", name := "getBytes", desc := "([BIB)V" } : Jvm.MethodName) jdk_42_method_147_code (4 : Nat) (Option.none : Option Jvm.ClassFile.FieldType), Jvm.Cond.code ({ cls := "java/lang/StringBuilder", name := "toString", desc := "()Ljava/lang/String;" } : Jvm.MethodName) jdk_67_method_42_code (1 : Nat) (Option.some (Jvm.ClassFile.FieldType.object "java/lang/String")), Jvm.Cond.code ({ cls := "java/lang/String", name := "<init>", desc := "(Ljava/lang/StringBuilder;)V" } : Jvm.MethodName) jdk_42_method_53_code (2 : Nat) (Option.none : Option Jvm.ClassFile.FieldType), Jvm.Cond.code ({ cls := "java/lang/String", name := "<init>", desc := "(Ljava/lang/AbstractStringBuilder;Ljava/lang/Void;)V" } : Jvm.MethodName) jdk_42_method_150_code (5 : Nat) (Option.none : Option Jvm.ClassFile.FieldType), Jvm.Cond.code ({ cls := "java/lang/AbstractStringBuilder", name := "getValue", desc := "()[B" } : Jvm.MethodName) jdk_68_method_64_code (1 : Nat) (Option.some (Jvm.ClassFile.FieldType.array Jvm.ClassFile.FieldType.byte)), Jvm.Cond.code ({ cls := "java/lang/StringBuilder", name := "length", desc := "()I" } : Jvm.MethodName) jdk_67_method_93_code (1 : Nat) (Option.some Jvm.ClassFile.FieldType.int), Jvm.Cond.code ({ cls := "java/lang/AbstractStringBuilder", name := "length", desc := "()I" } : Jvm.MethodName) jdk_68_method_6_code (1 : Nat) (Option.some Jvm.ClassFile.FieldType.int), Jvm.Cond.code ({ cls := "java/lang/AbstractStringBuilder", name := "isLatin1", desc := "()Z" } : Jvm.MethodName) jdk_68_method_68_code (1 : Nat) (Option.some Jvm.ClassFile.FieldType.boolean), Jvm.Cond.code ({ cls := "java/util/Arrays", name := "copyOfRange", desc := "([BII)[B" } : Jvm.MethodName) jdk_65_method_132_code (3 : Nat) (Option.some (Jvm.ClassFile.FieldType.array Jvm.ClassFile.FieldType.byte)), Jvm.Cond.code ({ cls := "java/util/Arrays", name := "copyOfRangeByte", desc := "([BII)[B" } : Jvm.MethodName) jdk_65_method_133_code (5 : Nat) (Option.some (Jvm.ClassFile.FieldType.array Jvm.ClassFile.FieldType.byte)), Jvm.Cond.code ({ cls := "java/util/Arrays", name := "checkLength", desc := "(II)V" } : Jvm.MethodName) jdk_65_method_131_code (2 : Nat) (Option.none : Option Jvm.ClassFile.FieldType), Jvm.Cond.code ({ cls := "java/lang/Math", name := "min", desc := "(II)I" } : Jvm.MethodName) jdk_29_method_69_code (2 : Nat) (Option.some Jvm.ClassFile.FieldType.int), Jvm.Cond.code ({ cls := "com/example/frist/frist/TableNameQualifiedPinLaw", name := "ok", desc := "(Ljava/lang/String;IIICCCC)Z" } : Jvm.MethodName) method_4_code (10 : Nat) (Option.some Jvm.ClassFile.FieldType.boolean), Jvm.Cond.code ({ cls := "java/lang/String", name := "charAt", desc := "(I)C" } : Jvm.MethodName) jdk_42_method_56_code (2 : Nat) (Option.some Jvm.ClassFile.FieldType.char), Jvm.Cond.code ({ cls := "java/lang/String", name := "isLatin1", desc := "()Z" } : Jvm.MethodName) jdk_42_method_154_code (1 : Nat) (Option.some Jvm.ClassFile.FieldType.boolean), Jvm.Cond.code ({ cls := "java/lang/StringLatin1", name := "charAt", desc := "([BI)C" } : Jvm.MethodName) jdk_43_method_2_code (2 : Nat) (Option.some Jvm.ClassFile.FieldType.char), Jvm.Cond.code ({ cls := "java/lang/String", name := "checkIndex", desc := "(II)V" } : Jvm.MethodName) jdk_42_method_155_code (2 : Nat) (Option.none : Option Jvm.ClassFile.FieldType), Jvm.Cond.code ({ cls := "jdk/internal/util/Preconditions", name := "checkIndex", desc := "(IILjava/util/function/BiFunction;)I" } : Jvm.MethodName) jdk_41_method_11_code (3 : Nat) (Option.some Jvm.ClassFile.FieldType.int), Jvm.Cond.code ({ cls := "java/lang/StringUTF16", name := "compress", desc := "([CII)[B" } : Jvm.MethodName) jdk_52_method_16_code (6 : Nat) (Option.some (Jvm.ClassFile.FieldType.array Jvm.ClassFile.FieldType.byte)), Jvm.Cond.code ({ cls := "java/lang/StringUTF16", name := "compress", desc := "([CI[BII)I" } : Jvm.MethodName) jdk_52_method_21_code (7 : Nat) (Option.some Jvm.ClassFile.FieldType.int), Jvm.Cond.code ({ cls := "java/lang/StringUTF16", name := "coderFromArrayLen", desc := "([BI)B" } : Jvm.MethodName) jdk_52_method_15_code (2 : Nat) (Option.some Jvm.ClassFile.FieldType.byte), Jvm.Cond.code ({ cls := "java/lang/String", name := "valueOf", desc := "(C)Ljava/lang/String;" } : Jvm.MethodName) jdk_42_method_139_code (1 : Nat) (Option.some (Jvm.ClassFile.FieldType.object "java/lang/String")), Jvm.Cond.code ({ cls := "java/lang/StringLatin1", name := "canEncode", desc := "(C)Z" } : Jvm.MethodName) jdk_43_method_3_code (1 : Nat) (Option.some Jvm.ClassFile.FieldType.boolean), Jvm.Cond.code ({ cls := "java/lang/StringUTF16", name := "toBytes", desc := "(C)[B" } : Jvm.MethodName) jdk_52_method_24_code (2 : Nat) (Option.some (Jvm.ClassFile.FieldType.array Jvm.ClassFile.FieldType.byte)), Jvm.Cond.code ({ cls := "java/lang/StringUTF16", name := "putChar", desc := "([BII)V" } : Jvm.MethodName) jdk_52_method_4_code (3 : Nat) (Option.none : Option Jvm.ClassFile.FieldType), Jvm.Cond.code ({ cls := "java/lang/String", name := "<init>", desc := "([BB)V" } : Jvm.MethodName) jdk_42_method_151_code (3 : Nat) (Option.none : Option Jvm.ClassFile.FieldType), Jvm.Cond.code ({ cls := "java/lang/AbstractStringBuilder", name := "inflate", desc := "()V" } : Jvm.MethodName) jdk_68_method_11_code (2 : Nat) (Option.none : Option Jvm.ClassFile.FieldType), Jvm.Cond.code ({ cls := "java/lang/StringUTF16", name := "newBytesFor", desc := "(I)[B" } : Jvm.MethodName) jdk_52_method_2_code (1 : Nat) (Option.some (Jvm.ClassFile.FieldType.array Jvm.ClassFile.FieldType.byte)), Jvm.Cond.code ({ cls := "java/lang/StringUTF16", name := "newBytesLength", desc := "(I)I" } : Jvm.MethodName) jdk_52_method_3_code (1 : Nat) (Option.some Jvm.ClassFile.FieldType.int), Jvm.Cond.code ({ cls := "java/lang/StringLatin1", name := "inflate", desc := "([BI[BII)V" } : Jvm.MethodName) jdk_43_method_50_code (5 : Nat) (Option.none : Option Jvm.ClassFile.FieldType), Jvm.Cond.code ({ cls := "java/lang/StringUTF16", name := "inflate", desc := "([BI[BII)V" } : Jvm.MethodName) jdk_52_method_86_code (6 : Nat) (Option.none : Option Jvm.ClassFile.FieldType), Jvm.Cond.code ({ cls := "java/lang/StringUTF16", name := "checkBoundsOffCount", desc := "(II[B)V" } : Jvm.MethodName) jdk_52_method_94_code (3 : Nat) (Option.none : Option Jvm.ClassFile.FieldType), Jvm.Cond.code ({ cls := "java/lang/StringUTF16", name := "length", desc := "([B)I" } : Jvm.MethodName) jdk_52_method_6_code (1 : Nat) (Option.some Jvm.ClassFile.FieldType.int), Jvm.Cond.code ({ cls := "java/lang/String", name := "checkBoundsOffCount", desc := "(III)I" } : Jvm.MethodName) jdk_42_method_157_code (3 : Nat) (Option.some Jvm.ClassFile.FieldType.int), Jvm.Cond.code ({ cls := "jdk/internal/util/Preconditions", name := "checkFromIndexSize", desc := "(IIILjava/util/function/BiFunction;)I" } : Jvm.MethodName) jdk_41_method_13_code (4 : Nat) (Option.some Jvm.ClassFile.FieldType.int), Jvm.Cond.code ({ cls := "java/lang/StringUTF16", name := "charAt", desc := "([BI)C" } : Jvm.MethodName) jdk_52_method_83_code (2 : Nat) (Option.some Jvm.ClassFile.FieldType.char), Jvm.Cond.code ({ cls := "java/lang/StringUTF16", name := "checkIndex", desc := "(I[B)V" } : Jvm.MethodName) jdk_52_method_91_code (2 : Nat) (Option.none : Option Jvm.ClassFile.FieldType), Jvm.Cond.code ({ cls := "java/lang/StringUTF16", name := "getChar", desc := "([BI)C" } : Jvm.MethodName) jdk_52_method_5_code (2 : Nat) (Option.some Jvm.ClassFile.FieldType.char), Jvm.Cond.code ({ cls := "java/lang/StringUTF16", name := "toBytes", desc := "([CII)[B" } : Jvm.MethodName) jdk_52_method_14_code (5 : Nat) (Option.some (Jvm.ClassFile.FieldType.array Jvm.ClassFile.FieldType.byte)), Jvm.Cond.code ({ cls := "java/lang/StringLatin1", name := "toBytes", desc := "(C)[B" } : Jvm.MethodName) jdk_43_method_46_code (1 : Nat) (Option.some (Jvm.ClassFile.FieldType.array Jvm.ClassFile.FieldType.byte))]
set_option maxRecDepth 65536 in
theorem codes_eq : words1.filter isCode = codes1 := rfl
theorem w_codes : ∀ c ∈ words1.filter isCode, c.before args0 about1 = true := by
  rw [codes_eq]
  intro c hc
  simp only [codes1, List.mem_cons, List.not_mem_nil, or_false] at hc
  rcases hc with rfl | rfl | rfl | rfl | rfl | rfl | rfl | rfl | rfl | rfl | rfl | rfl | rfl | rfl | rfl | rfl | rfl | rfl | rfl | rfl | rfl | rfl | rfl | rfl | rfl | rfl | rfl | rfl | rfl | rfl | rfl | rfl | rfl | rfl | rfl | rfl | rfl | rfl | rfl | rfl | rfl | rfl | rfl | rfl | rfl | rfl | rfl | rfl | rfl | rfl | rfl | rfl | rfl | rfl | rfl | rfl | rfl
  · exact w_c0
  · exact w_c1
  · exact w_c2
  · exact w_c3
  · exact w_c4
  · exact w_c5
  · exact w_c6
  · exact w_c7
  · exact w_c8
  · exact w_c9
  · exact w_c10
  · exact w_c11
  · exact w_c12
  · exact w_c13
  · exact w_c14
  · exact w_c15
  · exact w_c16
  · exact w_c17
  · exact w_c18
  · exact w_c19
  · exact w_c20
  · exact w_c21
  · exact w_c22
  · exact w_c23
  · exact w_c24
  · exact w_c25
  · exact w_c26
  · exact w_c27
  · exact w_c28
  · exact w_c29
  · exact w_c30
  · exact w_c31
  · exact w_c32
  · exact w_c33
  · exact w_c34
  · exact w_c35
  · exact w_c36
  · exact w_c37
  · exact w_c38
  · exact w_c39
  · exact w_c40
  · exact w_c41
  · exact w_c42
  · exact w_c43
  · exact w_c44
  · exact w_c45
  · exact w_c46
  · exact w_c47
  · exact w_c48
  · exact w_c49
  · exact w_c50
  · exact w_c51
  · exact w_c52
  · exact w_c53
  · exact w_c54
  · exact w_c55
  · exact w_c56
set_option maxRecDepth 65536 in
theorem w_t1 : (words1.take 24).all (fun c => isCode c || c.before args0 about1) = true := by decide +kernel
set_option maxRecDepth 65536 in
theorem w_t2 : ((words1.drop 24).take 24).all (fun c => isCode c || c.before args0 about1) = true := by decide +kernel
set_option maxRecDepth 65536 in
theorem w_t3 : (((words1.drop 24).drop 24).take 24).all (fun c => isCode c || c.before args0 about1) = true := by decide +kernel
set_option maxRecDepth 65536 in
theorem w_t4 : ((((words1.drop 24).drop 24).drop 24).take 24).all (fun c => isCode c || c.before args0 about1) = true := by decide +kernel
set_option maxRecDepth 65536 in
theorem w_t5 : (((((words1.drop 24).drop 24).drop 24).drop 24).take 24).all (fun c => isCode c || c.before args0 about1) = true := by decide +kernel
set_option maxRecDepth 65536 in
theorem w_t6 : ((((((words1.drop 24).drop 24).drop 24).drop 24).drop 24).take 24).all (fun c => isCode c || c.before args0 about1) = true := by decide +kernel
set_option maxRecDepth 65536 in
theorem w_t7 : (((((((words1.drop 24).drop 24).drop 24).drop 24).drop 24).drop 24).take 24).all (fun c => isCode c || c.before args0 about1) = true := by decide +kernel
set_option maxRecDepth 65536 in
theorem w_t8 : ((((((((words1.drop 24).drop 24).drop 24).drop 24).drop 24).drop 24).drop 24).take 24).all (fun c => isCode c || c.before args0 about1) = true := by decide +kernel
set_option maxRecDepth 65536 in
theorem w_t9 : (((((((((words1.drop 24).drop 24).drop 24).drop 24).drop 24).drop 24).drop 24).drop 24).take 24).all (fun c => isCode c || c.before args0 about1) = true := by decide +kernel
set_option maxRecDepth 65536 in
theorem w_t10 : ((((((((((words1.drop 24).drop 24).drop 24).drop 24).drop 24).drop 24).drop 24).drop 24).drop 24).take 24).all (fun c => isCode c || c.before args0 about1) = true := by decide +kernel
set_option maxRecDepth 65536 in
theorem w_t11 : (((((((((((words1.drop 24).drop 24).drop 24).drop 24).drop 24).drop 24).drop 24).drop 24).drop 24).drop 24).take 24).all (fun c => isCode c || c.before args0 about1) = true := by decide +kernel
set_option maxRecDepth 65536 in
theorem w_t12 : (((((((((((words1.drop 24).drop 24).drop 24).drop 24).drop 24).drop 24).drop 24).drop 24).drop 24).drop 24).drop 24).all (fun c => isCode c || c.before args0 about1) = true := by decide +kernel
theorem w_tables : (allAtoms (Jvm.Cond.code x code maxLocals ret :: tables_1)).before args0 about1 = true := by
  rw [allAtoms_all]
  show words1.all (fun c => c.before args0 about1) = true
  refine all_split ?_ w_codes
  rw [← List.take_append_drop 24 words1, List.all_append, w_t1, ← List.take_append_drop 24 (words1.drop 24), List.all_append, w_t2, ← List.take_append_drop 24 ((words1.drop 24).drop 24), List.all_append, w_t3, ← List.take_append_drop 24 (((words1.drop 24).drop 24).drop 24), List.all_append, w_t4, ← List.take_append_drop 24 ((((words1.drop 24).drop 24).drop 24).drop 24), List.all_append, w_t5, ← List.take_append_drop 24 (((((words1.drop 24).drop 24).drop 24).drop 24).drop 24), List.all_append, w_t6, ← List.take_append_drop 24 ((((((words1.drop 24).drop 24).drop 24).drop 24).drop 24).drop 24), List.all_append, w_t7, ← List.take_append_drop 24 (((((((words1.drop 24).drop 24).drop 24).drop 24).drop 24).drop 24).drop 24), List.all_append, w_t8, ← List.take_append_drop 24 ((((((((words1.drop 24).drop 24).drop 24).drop 24).drop 24).drop 24).drop 24).drop 24), List.all_append, w_t9, ← List.take_append_drop 24 (((((((((words1.drop 24).drop 24).drop 24).drop 24).drop 24).drop 24).drop 24).drop 24).drop 24), List.all_append, w_t10, ← List.take_append_drop 24 ((((((((((words1.drop 24).drop 24).drop 24).drop 24).drop 24).drop 24).drop 24).drop 24).drop 24).drop 24), List.all_append, w_t11, w_t12]
  rfl
set_option maxRecDepth 65536 in
theorem w_rest : rest_1_c.before args0 about1 = true := by decide +kernel
set_option maxRecDepth 65536 in
theorem w_case : (Jvm.Cond.and given_1 narrow_1).before args0 about1 = true := by decide +kernel
set_option maxRecDepth 65536 in
theorem w_consts : constsHeld consts_1 about1 := Jvm.Lit.constsHeldB_iff.mp (by decide +kernel)
theorem w_applies : (headSpec (Jvm.Cond.code x code maxLocals ret :: tables_1) room_1).applies x e0.platform about1 = true :=
  (Spec.applies_iff w_frames).mpr ⟨w_running, w_runnable, w_alone, w_named, w_hears, w_ripe, w_room, w_tables⟩
theorem atStart : AtStart classFile x code maxLocals ret World_1 tables_1 room_1 Calls_1 rest_1 Pre_1 launch0 p0 e0 about1 theMethod args0 below0 :=
  ⟨lists_1, trivial, launch0.admits_env _ _ _, launch0.least_env, fairChoices_fair.cas, fairChoices_fair.clock, w_frames, w_args, w_heap, w_applies, ⟨w_consts, trivial⟩, w_rest, w_case⟩
end start1
theorem witness_1 : WitnessClaimed_1 := ⟨start1.p0, start1.e0, start1.about1, start1.theMethod, start1.args0, start1.below0, start1.atStart⟩
end Jvm.Pilot.@@N@@
