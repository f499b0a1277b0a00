import JvmDerived
import JvmDerived.Pilot.@@N@@Statement
import JvmDerived.Pilot.@@N@@Code
set_option linter.unusedVariables false
set_option linter.unusedSimpArgs false
/- laws to paste: Road.backV, Road.lenW, Road.chN, Road.codOf (cut by pick.py; bodies as the Statement names them) -/
namespace Jvm.Pilot.@@N@@
namespace StrChars
open Jvm Sem ClassFile Op Lib Jvm.Stand Jvm.Free.XT Jvm.Free.ALB Jvm.Free.JM Jvm.Free
open Jvm.Lib.Cold (StaticIs)
/-- a char array whose places are chars -/
def Ch (a : Addr) (A : Cell) (U : State) : Prop := Arr .char a A U ∧ Typed .char A
theorem Ch.mv {a : Addr} {A : Cell} {U U' : State} (h : Ch a A U) (hal : U.vm.Alike U'.vm) (hh : U'.heap = U.heap) : Ch a A U' := ⟨h.1.mv hal hh, h.2⟩
theorem Ch.keep {a : Addr} {A : Cell} {U U' : State} (h : Ch a A U) (hal : U.vm.Alike U'.vm) (hk : U'.heap[a]? = some A) : Ch a A U' := ⟨h.1.keep hal hk, h.2⟩
/-- what place i of a char[]'s cell holds -/
def cv (A : Cell) (i : Nat) : Int32 := match A.slots[i]? with | some (.int x) => x | _ => 0
theorem Ch.get {a : Addr} {A : Cell} {U : State} (h : Ch a A U) {i : Nat} (hi : i < A.slots.size) : A.slots[i]? = some (.int (cv A i)) := by
  have e := Array.getElem?_eq_getElem hi
  have f := h.2 i _ e
  unfold cv; rw [e]
  generalize A.slots[i] = v at f
  cases v <;> simp [fits] at f ⊢
/-- the byte that i2b leaves of a char -/
def lo8 (x : Int32) : Int32 := x.toInt8.toInt32
theorem fits_lo8 (y : Int32) : fits .byte (.int (lo8 y)) = true := by
  have h1 := y.toInt8.le_toInt
  have h2 := y.toInt8.toInt_lt
  simp only [lo8, fits, Bool.and_eq_true, decide_eq_true_eq, Int32.le_iff_toInt_le, Int8.toInt_toInt32, show (-128 : Int32).toInt = -128 from by decide, show (127 : Int32).toInt = 127 from by decide]
  omega
/-- A' is A but that each place j of lo .. hi - 1 holds f j -/
def Laid (A A' : Cell) (lo hi : Nat) (f : Nat → Value) : Prop := A'.cls = A.cls ∧ A'.vm = A.vm ∧ A'.slots.size = A.slots.size ∧ ∀ i, A'.slots[i]? = if lo ≤ i ∧ i < hi then some (f i) else A.slots[i]?
theorem Laid.zero (A : Cell) (lo : Nat) (f : Nat → Value) : Laid A A lo (lo + 0) f := ⟨rfl, rfl, rfl, fun i => by rw [if_neg (by omega)]⟩
theorem Laid.step {A Ak : Cell} {lo k : Nat} {f : Nat → Value} {v : Value} (h : Laid A Ak lo k f) (hlo : lo ≤ k) (hk : k < Ak.slots.size) (hv : v = f k) : Laid A (Ak.setSlot k v) lo (k + 1) f := by
  refine ⟨h.1, h.2.1, by simpa [Cell.setSlot] using h.2.2.1, fun i => ?_⟩
  by_cases e : k = i
  · subst e; rw [Cell.slots_setSlot_self v hk, if_pos (by omega), hv]
  · rw [Cell.slots_setSlot_ne v e, h.2.2.2 i]
    by_cases q : lo ≤ i ∧ i < k
    · rw [if_pos q, if_pos (by omega)]
    · rw [if_neg q, if_neg (by omega)]
def U16 : String := "java/lang/StringUTF16"
namespace Cmp5
def yN : MethodName := ⟨"java/lang/StringUTF16", "compress", "([CI[BII)I"⟩
abbrev yB : ByteArray := jdk_52_method_21_code
theorem d0 : decode yB 0 = .ok (.iconst 0, 1) := by decide +kernel
theorem d1 : decode yB 1 = .ok (.istore 5, 2) := by decide +kernel
theorem d3 : decode yB 3 = .ok (.iload 5, 2) := by decide +kernel
theorem d5 : decode yB 5 = .ok (.iload 4, 2) := by decide +kernel
theorem d7 : decode yB 7 = .ok (.if_icmp (.ge) 37, 3) := by decide +kernel
theorem d10 : decode yB 10 = .ok (.aload_n 0, 1) := by decide +kernel
theorem d11 : decode yB 11 = .ok (.iload_n 1, 1) := by decide +kernel
theorem d12 : decode yB 12 = .ok (.caload, 1) := by decide +kernel
theorem d13 : decode yB 13 = .ok (.istore 6, 2) := by decide +kernel
theorem d15 : decode yB 15 = .ok (.iload 6, 2) := by decide +kernel
theorem d17 : decode yB 17 = .ok (.sipush 255, 3) := by decide +kernel
theorem d20 : decode yB 20 = .ok (.if_icmp (.le) 6, 3) := by decide +kernel
theorem d26 : decode yB 26 = .ok (.aload_n 2, 1) := by decide +kernel
theorem d27 : decode yB 27 = .ok (.iload_n 3, 1) := by decide +kernel
theorem d28 : decode yB 28 = .ok (.iload 6, 2) := by decide +kernel
theorem d30 : decode yB 30 = .ok (.i2b, 1) := by decide +kernel
theorem d31 : decode yB 31 = .ok (.bastore, 1) := by decide +kernel
theorem d32 : decode yB 32 = .ok (.iinc 1 1, 3) := by decide +kernel
theorem d35 : decode yB 35 = .ok (.iinc 3 1, 3) := by decide +kernel
theorem d38 : decode yB 38 = .ok (.iinc 5 1, 3) := by decide +kernel
theorem d41 : decode yB 41 = .ok (.goto (-38), 3) := by decide +kernel
theorem d44 : decode yB 44 = .ok (.iload 4, 2) := by decide +kernel
theorem d46 : decode yB 46 = .ok (.ireturn, 1) := by decide +kernel
def site : List Cond := []
def tab : Cond := tabOf yN yB 7 (some .int) site
def P (b : Addr) (A : Cell) (d : Addr) (B : Cell) (o q len : Nat) (args : Array Value) (s : State) : Prop := args = #[.ref b, .int (Int32.ofNat o), .ref d, .int (Int32.ofNat q), .int (Int32.ofNat len)] ∧ Ch b A s ∧ Arr .byte d B s ∧ b ≠ d ∧ o + len ≤ A.slots.size ∧ q + len ≤ B.slots.size ∧ ∀ i, i < len → ¬ 255 < cv A (o + i)
def E (b : Addr) (A : Cell) (d : Addr) (B : Cell) (o q len : Nat) (r : Option Value) (s u : State) : Prop := r = some (.int (Int32.ofNat len)) ∧ ∃ B', Put d B' s u ∧ Laid B B' q (q + len) (fun j => Value.int (lo8 (cv A (o + (j - q)))))
/-- no char of the range above 255: len; the places written hold each char's low byte -/
theorem law (l : Launch) (b : Addr) (A : Cell) (d : Addr) (B : Cell) (o q len : Nat) : Law l yN 5 5 0 0 yB 7 (some .int) site (P b A d B o q len) (E b A d B o q len) (copyLocs d q len) 0 0 := by
  refine Law.of_walk (plainFor_of_name (by decide +kernel)) (by decide +kernel) (by decide +kernel) (by decide) (fun _ _ h => by rw [h.1]; rfl) (fun _ U U' hal hh h => ⟨h.1, h.2.1.mv hal hh, h.2.2.1.mv hal hh, h.2.2.2⟩) (fun r U U' V V' h1 hal h2 h => ⟨h.1, h.2.elim fun B' q => ⟨B', q.1.mv h1 h2, q.2⟩⟩) ?_
  intro p e s m args below meth c s₁ X0 hexec hbytes hml hret hlk hnm hown hh0 W hP
  obtain ⟨rfl, hA, hB, hne, l1, l2, hp⟩ := hP
  have c1 : Steps p.tables e below (s₁.setTop (entryFrame m #[.ref b, .int (Int32.ofNat o), .ref d, .int (Int32.ofNat q), .int (Int32.ofNat len)] 7)) (s₁.setTop (mkF m 0 #[.val (.ref b), .val (.int (Int32.ofNat o)), .val (.ref d), .val (.int (Int32.ofNat q)), .val (.int (Int32.ofNat len)), .unset, .unset] [])) := entry rfl
  have hA0 := hA.1.mv X0.warmed.alike hh0
  have hB0 := hB.mv X0.warmed.alike hh0
  have a31 := hA.1.2.2.2
  have c2 : Steps p.tables e below (s₁.setTop (entryFrame m #[.ref b, .int (Int32.ofNat o), .ref d, .int (Int32.ofNat q), .int (Int32.ofNat len)] 7)) (s₁.setTop (mkF m 3 #[.val (.ref b), .val (.int (Int32.ofNat o)), .val (.ref d), .val (.int (Int32.ofNat q)), .val (.int (Int32.ofNat len)), .val (.int 0), .unset] [])) := c1.trans (by
    refine iconstV X0.here hexec rfl 0 (hb hbytes d0) (by decide) ?_
    refine XS.istore X0.here hexec rfl (hb hbytes d1) rfl rfl ?_
    exact Steps.refl _)
  have loop : ∀ (r i : Nat), i + r = len → ∀ (z : Slot), (z = .unset ∨ ∃ w, z = .val w ∧ w.category = 1) → ∀ (Tl : State) (Bk : Cell), Stand p l e { frames := 0, locals := 0, cells := 0, slots := 0 } s m #[.ref b, .int (Int32.ofNat o), .ref d, .int (Int32.ofNat q), .int (Int32.ofNat len)] below meth c Tl ([] ++ copyLocs d q i) 0 0 → Put d Bk s₁ Tl → Laid B Bk q (q + i) (fun j => Value.int (lo8 (cv A (o + (j - q))))) →
      Steps p.tables e below (s₁.setTop (entryFrame m #[.ref b, .int (Int32.ofNat o), .ref d, .int (Int32.ofNat q), .int (Int32.ofNat len)] 7)) (Tl.setTop (mkF m 3 #[.val (.ref b), .val (.int (Int32.ofNat (o + i))), .val (.ref d), .val (.int (Int32.ofNat (q + i))), .val (.int (Int32.ofNat len)), .val (.int (Int32.ofNat i)), z] [])) → ∃ (T' : State) (B' : Cell) (z' : Slot), Stand p l e { frames := 0, locals := 0, cells := 0, slots := 0 } s m #[.ref b, .int (Int32.ofNat o), .ref d, .int (Int32.ofNat q), .int (Int32.ofNat len)] below meth c T' ([] ++ copyLocs d q len) 0 0 ∧ Put d B' s₁ T' ∧ Laid B B' q (q + len) (fun j => Value.int (lo8 (cv A (o + (j - q))))) ∧
      Steps p.tables e below (s₁.setTop (entryFrame m #[.ref b, .int (Int32.ofNat o), .ref d, .int (Int32.ofNat q), .int (Int32.ofNat len)] 7)) (T'.setTop (mkF m 3 #[.val (.ref b), .val (.int (Int32.ofNat (o + len))), .val (.ref d), .val (.int (Int32.ofNat (q + len))), .val (.int (Int32.ofNat len)), .val (.int (Int32.ofNat len)), z'] [])) := by
    intro r
    induction r with
    | zero =>
      intro i hi z hz Tl Bk Xl pl fl cl
      have hil : i = len := by omega
      rw [hil] at Xl fl cl
      exact ⟨Tl, Bk, z, Xl, pl, fl, cl⟩
    | succ r ih =>
      intro i hi z hz Tl Bk Xl pl fl cl
      have all := X0.warmed.alike.symm.trans Xl.warmed.alike
      have hAl := hA0.keep all (pl.other hne hA0.1)
      have hBk := hB0.like all pl.1 fl.1 fl.2.1 fl.2.2.1
      have hlt : q + i < Bk.slots.size := by rw [fl.2.2.1]; omega
      have c3 : Steps p.tables e below (s₁.setTop (entryFrame m #[.ref b, .int (Int32.ofNat o), .ref d, .int (Int32.ofNat q), .int (Int32.ofNat len)] 7)) (Tl.setTop (mkF m 12 #[.val (.ref b), .val (.int (Int32.ofNat (o + i))), .val (.ref d), .val (.int (Int32.ofNat (q + i))), .val (.int (Int32.ofNat len)), .val (.int (Int32.ofNat i)), z] [.int (Int32.ofNat (o + i)), .ref b])) := cl.trans (by
        refine XS.iload Xl.here hexec rfl (hb hbytes d3) rfl ?_
        refine XS.iload Xl.here hexec rfl (hb hbytes d5) rfl ?_
        refine XS.icmpNo Xl.here hexec rfl (hb hbytes d7) rfl (ii_ge_f (lt32 (by omega) (by omega))) ?_
        refine XS.aloadN Xl.here hexec rfl (hb hbytes d10) rfl rfl ?_
        refine XS.iloadN Xl.here hexec rfl (hb hbytes d11) rfl ?_
        exact Steps.refl _)
      have c4 : Steps p.tables e below (s₁.setTop (entryFrame m #[.ref b, .int (Int32.ofNat o), .ref d, .int (Int32.ofNat q), .int (Int32.ofNat len)] 7)) (Tl.setTop (mkF m 13 #[.val (.ref b), .val (.int (Int32.ofNat (o + i))), .val (.ref d), .val (.int (Int32.ofNat (q + i))), .val (.int (Int32.ofNat len)), .val (.int (Int32.ofNat i)), z] [.int (cv A (o + i))])) := c3.trans (by
        refine Xl.aget hexec hAl rfl (hA.get (i := o + i) (by omega)) rfl rfl (hb hbytes d12) ?_
        exact Steps.refl _)
      have c5 : Steps p.tables e below (s₁.setTop (entryFrame m #[.ref b, .int (Int32.ofNat o), .ref d, .int (Int32.ofNat q), .int (Int32.ofNat len)] 7)) (Tl.setTop (mkF m 15 #[.val (.ref b), .val (.int (Int32.ofNat (o + i))), .val (.ref d), .val (.int (Int32.ofNat (q + i))), .val (.int (Int32.ofNat len)), .val (.int (Int32.ofNat i)), .val (.int (cv A (o + i)))] [])) := c4.trans (by
        refine XS.istoreS Xl.here hexec rfl (hb hbytes d13) rfl rfl hz ?_
        exact Steps.refl _)
      have c6 : Steps p.tables e below (s₁.setTop (entryFrame m #[.ref b, .int (Int32.ofNat o), .ref d, .int (Int32.ofNat q), .int (Int32.ofNat len)] 7)) (Tl.setTop (mkF m 31 #[.val (.ref b), .val (.int (Int32.ofNat (o + i))), .val (.ref d), .val (.int (Int32.ofNat (q + i))), .val (.int (Int32.ofNat len)), .val (.int (Int32.ofNat i)), .val (.int (cv A (o + i)))] [.int (lo8 (cv A (o + i))), .int (Int32.ofNat (q + i)), .ref d])) := c5.trans (by
        refine XS.iload Xl.here hexec rfl (hb hbytes d15) rfl ?_
        refine sipushV Xl.here hexec rfl 255 (hb hbytes d17) (by decide) ?_
        refine XS.icmpYes Xl.here hexec rfl (pc0 := 20) rfl (hb hbytes d20) rfl (ii_le_t (hp i (by omega))) (by decide) rfl ?_
        refine XS.aloadN Xl.here hexec rfl (hb hbytes d26) rfl rfl ?_
        refine XS.iloadN Xl.here hexec rfl (hb hbytes d27) rfl ?_
        refine XS.iload Xl.here hexec rfl (hb hbytes d28) rfl ?_
        refine i2b Xl.here hexec rfl (hb hbytes d30) rfl ?_
        exact Steps.refl _)
      obtain ⟨T7, X7, p7, st7⟩ := Xl.aput hexec hBk rfl hlt rfl (fits_lo8 (cv A (o + i))) (g := (mkF m 31 #[.val (.ref b), .val (.int (Int32.ofNat (o + i))), .val (.ref d), .val (.int (Int32.ofNat (q + i))), .val (.int (Int32.ofNat len)), .val (.int (Int32.ofNat i)), .val (.int (cv A (o + i)))] [.int (lo8 (cv A (o + i))), .int (Int32.ofNat (q + i)), .ref d])) rfl (rest := []) rfl (hb hbytes d31)
      have c8 : Steps p.tables e below (s₁.setTop (entryFrame m #[.ref b, .int (Int32.ofNat o), .ref d, .int (Int32.ofNat q), .int (Int32.ofNat len)] 7)) (T7.setTop (mkF m 32 #[.val (.ref b), .val (.int (Int32.ofNat (o + i))), .val (.ref d), .val (.int (Int32.ofNat (q + i))), .val (.int (Int32.ofNat len)), .val (.int (Int32.ofNat i)), .val (.int (cv A (o + i)))] [])) := c6.trans (st7 _ (Steps.refl _))
      have c9 : Steps p.tables e below (s₁.setTop (entryFrame m #[.ref b, .int (Int32.ofNat o), .ref d, .int (Int32.ofNat q), .int (Int32.ofNat len)] 7)) (T7.setTop (mkF m 3 #[.val (.ref b), .val (.int (Int32.ofNat (o + i) + 1)), .val (.ref d), .val (.int (Int32.ofNat (q + i) + 1)), .val (.int (Int32.ofNat len)), .val (.int (Int32.ofNat i + 1)), .val (.int (cv A (o + i)))] [])) := c8.trans (by
        refine iincV X7.here hexec rfl 1 (hb hbytes d32) (by decide) rfl rfl ?_
        refine iincV X7.here hexec rfl 1 (hb hbytes d35) (by decide) rfl rfl ?_
        refine iincV X7.here hexec rfl 1 (hb hbytes d38) (by decide) rfl rfl ?_
        refine XS.goto X7.here hexec rfl (pc0 := 41) rfl (hb hbytes d41) (by decide) rfl ?_
        exact Steps.refl _)
      have c10 : Steps p.tables e below (s₁.setTop (entryFrame m #[.ref b, .int (Int32.ofNat o), .ref d, .int (Int32.ofNat q), .int (Int32.ofNat len)] 7)) (T7.setTop (mkF m 3 #[.val (.ref b), .val (.int (Int32.ofNat (o + (i + 1)))), .val (.ref d), .val (.int (Int32.ofNat (q + (i + 1)))), .val (.int (Int32.ofNat len)), .val (.int (Int32.ofNat (i + 1))), .val (.int (cv A (o + i)))] [])) := by
        have := c9
        rw [succ32, succ32, succ32] at this
        exact this
      exact ih (i + 1) (by omega) _ (Or.inr ⟨_, rfl, rfl⟩) T7 _ (by rw [copyLocs_step, ← List.append_assoc]; exact X7) (pl.trans p7) (fl.step (by omega) hlt (by simp)) c10
  obtain ⟨T9, B9, z9, X9, p9, f9, g9⟩ := loop len 0 (by omega) .unset (Or.inl rfl) s₁ B (by simpa [copyLocs] using X0) ⟨hB0.1, fun _ _ => rfl, rfl⟩ (Laid.zero _ _ _) c2
  have c11 : Steps p.tables e below (s₁.setTop (entryFrame m #[.ref b, .int (Int32.ofNat o), .ref d, .int (Int32.ofNat q), .int (Int32.ofNat len)] 7)) (T9.setTop (mkF m 46 #[.val (.ref b), .val (.int (Int32.ofNat (o + len))), .val (.ref d), .val (.int (Int32.ofNat (q + len))), .val (.int (Int32.ofNat len)), .val (.int (Int32.ofNat len)), z9] [.int (Int32.ofNat len)])) := g9.trans (by
    refine XS.iload X9.here hexec rfl (hb hbytes d3) rfl ?_
    refine XS.iload X9.here hexec rfl (hb hbytes d5) rfl ?_
    refine XS.icmpYes X9.here hexec rfl (pc0 := 7) rfl (hb hbytes d7) rfl (ii_ge_t (nlt32 (by omega) (Nat.le_refl _))) (by decide) rfl ?_
    refine XS.iload X9.here hexec rfl (hb hbytes d44) rfl ?_
    exact Steps.refl _)
  exact ⟨T9, some (.int (Int32.ofNat len)), _, _, _, X9, by simp, rfl, rfl, (fun h => by cases h), ⟨rfl, B9, p9.from hh0, f9⟩, fun fs hl => c11.trans (X9.ireturnOut hexec hret rfl (Or.inl rfl) (hb hbytes d46) hl)⟩
end Cmp5
namespace Cmp3
def yN : MethodName := ⟨"java/lang/StringUTF16", "compress", "([CII)[B"⟩
abbrev yB : ByteArray := jdk_52_method_16_code
theorem d0 : decode yB 0 = .ok (.iload_n 2, 1) := by decide +kernel
theorem d1 : decode yB 1 = .ok (.newarray .byte, 2) := by decide +kernel
theorem d3 : decode yB 3 = .ok (.astore_n 3, 1) := by decide +kernel
theorem d4 : decode yB 4 = .ok (.aload_n 0, 1) := by decide +kernel
theorem d5 : decode yB 5 = .ok (.iload_n 1, 1) := by decide +kernel
theorem d6 : decode yB 6 = .ok (.aload_n 3, 1) := by decide +kernel
theorem d7 : decode yB 7 = .ok (.iconst 0, 1) := by decide +kernel
theorem d8 : decode yB 8 = .ok (.iload_n 2, 1) := by decide +kernel
theorem d9 : decode yB 9 = .ok (.invokestatic 115, 3) := by decide +kernel
theorem d12 : decode yB 12 = .ok (.istore 4, 2) := by decide +kernel
theorem d14 : decode yB 14 = .ok (.iload 4, 2) := by decide +kernel
theorem d16 : decode yB 16 = .ok (.iload_n 2, 1) := by decide +kernel
theorem d17 : decode yB 17 = .ok (.if_icmp (.eq) 40, 3) := by decide +kernel
theorem d57 : decode yB 57 = .ok (.aload_n 3, 1) := by decide +kernel
theorem d58 : decode yB 58 = .ok (.areturn, 1) := by decide +kernel
def site : List Cond := [.arrayClass .byte, Cmp5.tab] ++ staticW U16 115 Cmp5.yN
def tab : Cond := tabOf yN yB 6 (some (.array .byte)) site
def P (b : Addr) (A : Cell) (o len : Nat) (args : Array Value) (s : State) : Prop := args = #[.ref b, .int (Int32.ofNat o), .int (Int32.ofNat len)] ∧ Ch b A s ∧ o + len ≤ A.slots.size ∧ len ≤ 536870912 ∧ ∀ i, i < len → ¬ 255 < cv A (o + i)
def E (b : Addr) (A : Cell) (o len : Nat) (r : Option Value) (s u : State) : Prop := NewArr .byte "[B" len (fun j => .int (lo8 (cv A (o + j)))) r s u ∧ u.heap.size = s.heap.size + 1
/-- no char of the range above 255: a new byte[] of their low bytes -/
theorem law (l : Launch) (b : Addr) (A : Cell) (o len : Nat) : Law l yN 3 3 1 18 yB 6 (some (.array .byte)) site (P b A o len) (E b A o len) [] 1 len := by
  refine Law.of_walk (plainFor_of_name (by decide +kernel)) (by decide +kernel) (by decide +kernel) (by decide) (fun _ _ h => by rw [h.1]; rfl) (fun _ U U' hal hh h => ⟨h.1, h.2.1.mv hal hh, h.2.2⟩) (fun r U U' V V' h1 hal h2 h => ⟨NewArr.mv r U U' V V' h1 hal h2 h.1, by rw [h1, h2]; exact h.2⟩) ?_
  intro p e s m args below meth c s₁ X0 hexec hbytes hml hret hlk hnm hown hh0 W hP
  obtain ⟨rfl, hA, l1, l2, hp⟩ := hP
  have a31 := hA.1.2.2.2
  have c1 : Steps p.tables e below (s₁.setTop (entryFrame m #[.ref b, .int (Int32.ofNat o), .int (Int32.ofNat len)] 6)) (s₁.setTop (mkF m 0 #[.val (.ref b), .val (.int (Int32.ofNat o)), .val (.int (Int32.ofNat len)), .unset, .unset, .unset] [])) := entry rfl
  have c2 : Steps p.tables e below (s₁.setTop (entryFrame m #[.ref b, .int (Int32.ofNat o), .int (Int32.ofNat len)] 6)) (s₁.setTop (mkF m 1 #[.val (.ref b), .val (.int (Int32.ofNat o)), .val (.int (Int32.ofNat len)), .unset, .unset, .unset] [.int (Int32.ofNat len)])) := c1.trans (by
    refine XS.iloadN X0.here hexec rfl (hb hbytes d0) rfl ?_
    exact Steps.refl _)
  obtain ⟨T3, B3, X3, ba3, bs3, bv3, bh3, bf3, st3⟩ := X0.anew hexec (atype := .byte) (wk W (.arrayClass .byte)) rfl (by show len * 1 ≤ _; omega) (by omega) (g := (mkF m 1 #[.val (.ref b), .val (.int (Int32.ofNat o)), .val (.int (Int32.ofNat len)), .unset, .unset, .unset] [.int (Int32.ofNat len)])) rfl (hb hbytes d1) (rest := []) rfl (Nat.le_refl _) (by show 0 + len ≤ len; omega)
  rw [hh0] at ba3 st3
  have kp3 : XT.Kept s T3 := (XT.Kept.of_eq hh0).push bh3
  have hA3 := hA.keep X3.warmed.alike (kp3 _ _ hA.1.1)
  have hne : b ≠ s.heap.size := hA.1.ne
  have c4 : Steps p.tables e below (s₁.setTop (entryFrame m #[.ref b, .int (Int32.ofNat o), .int (Int32.ofNat len)] 6)) (T3.setTop (mkF m 3 #[.val (.ref b), .val (.int (Int32.ofNat o)), .val (.int (Int32.ofNat len)), .unset, .unset, .unset] [.ref s.heap.size])) := c2.trans (st3 _ (Steps.refl _))
  have c5 : Steps p.tables e below (s₁.setTop (entryFrame m #[.ref b, .int (Int32.ofNat o), .int (Int32.ofNat len)] 6)) (T3.setTop (mkF m 9 #[.val (.ref b), .val (.int (Int32.ofNat o)), .val (.int (Int32.ofNat len)), .val (.ref s.heap.size), .unset, .unset] [.int (Int32.ofNat len), .int 0, .ref s.heap.size, .int (Int32.ofNat o), .ref b])) := c4.trans (by
    refine XS.astoreN X3.here hexec rfl (hb hbytes d3) rfl rfl rfl ?_
    refine XS.aloadN X3.here hexec rfl (hb hbytes d4) rfl rfl ?_
    refine XS.iloadN X3.here hexec rfl (hb hbytes d5) rfl ?_
    refine XS.aloadN X3.here hexec rfl (hb hbytes d6) rfl rfl ?_
    refine iconstV X3.here hexec rfl 0 (hb hbytes d7) (by decide) ?_
    refine XS.iloadN X3.here hexec rfl (hb hbytes d8) rfl ?_
    exact Steps.refl _)
  obtain ⟨v6, T6, X6, E6, g6⟩ := X3.callS hexec (Cmp5.law l b A s.heap.size B3 o 0 len) hown (wks W (staticW U16 115 Cmp5.yN)) (wk W Cmp5.tab) (W := 0) (Nat.le_of_ble_eq_true rfl) (Nat.le_of_ble_eq_true rfl) (Nat.le_refl _) (by show 0 + len + 0 ≤ len; omega) (g := (mkF m 9 #[.val (.ref b), .val (.int (Int32.ofNat o)), .val (.int (Int32.ofNat len)), .val (.ref s.heap.size), .unset, .unset] [.int (Int32.ofNat len), .int (Int32.ofNat 0), .ref s.heap.size, .int (Int32.ofNat o), .ref b])) rfl (by rw [hml]; rfl) c5 (argsL := [.ref b, .int (Int32.ofNat o), .ref s.heap.size, .int (Int32.ofNat 0), .int (Int32.ofNat len)]) (rest := []) rfl rfl (by show 2 * 0 + 0 ≤ _; decide) (hb hbytes d9) (⟨rfl, hA3, ba3, hne, l1, by rw [bs3]; simp, hp⟩)
  obtain ⟨rfl, B6, p6, f6⟩ := E6
  have c7 : Steps p.tables e below (s₁.setTop (entryFrame m #[.ref b, .int (Int32.ofNat o), .int (Int32.ofNat len)] 6)) (T6.setTop (mkF m 12 #[.val (.ref b), .val (.int (Int32.ofNat o)), .val (.int (Int32.ofNat len)), .val (.ref s.heap.size), .unset, .unset] [.int (Int32.ofNat len)])) := g6
  have c8 : Steps p.tables e below (s₁.setTop (entryFrame m #[.ref b, .int (Int32.ofNat o), .int (Int32.ofNat len)] 6)) (T6.setTop (mkF m 58 #[.val (.ref b), .val (.int (Int32.ofNat o)), .val (.int (Int32.ofNat len)), .val (.ref s.heap.size), .val (.int (Int32.ofNat len)), .unset] [.ref s.heap.size])) := c7.trans (by
    refine XS.istore X6.here hexec rfl (hb hbytes d12) rfl rfl ?_
    refine XS.iload X6.here hexec rfl (hb hbytes d14) rfl ?_
    refine XS.iloadN X6.here hexec rfl (hb hbytes d16) rfl ?_
    refine XS.icmpYes X6.here hexec rfl (pc0 := 17) rfl (hb hbytes d17) rfl (ii_eq_t rfl) (by decide) rfl ?_
    refine XS.aloadN X6.here hexec rfl (hb hbytes d57) rfl rfl ?_
    exact Steps.refl _)
  have X8 := X6.wide (L' := []) (cells' := 1) (slots' := len) (fun x hx hlt => by
    simp only [List.nil_append, copyLocs, List.mem_map, List.mem_range] at hx
    obtain ⟨i, -, rfl⟩ := hx
    exact absurd hlt (Nat.lt_irrefl _)) (Nat.le_refl _) (by omega)
  exact ⟨T6, some (.ref s.heap.size), _, _, _, X8, rfl, rfl, rfl, (fun h => by cases h), ⟨⟨rfl, B6, ba3.like (X3.warmed.alike.symm.trans X6.warmed.alike) p6.1 f6.1 f6.2.1 f6.2.2.1, f6.2.1.trans bv3, by rw [X6.warmed.alike.findClass, f6.1]; exact bf3, by rw [f6.2.2.1, bs3]; simp, fun j hj => by rw [f6.2.2.2 j, if_pos (by omega)]; rfl, kp3.put p6 (Nat.le_refl _)⟩, by rw [p6.2.2, bh3, hh0]; simp⟩, fun fs hl => c8.trans (X8.areturnOut hexec rfl hret rfl (hb hbytes d58) hl)⟩
end Cmp3
namespace CodL
def yN : MethodName := ⟨"java/lang/StringUTF16", "coderFromArrayLen", "([BI)B"⟩
abbrev yB : ByteArray := jdk_52_method_15_code
theorem d0 : decode yB 0 = .ok (.iload_n 1, 1) := by decide +kernel
theorem d1 : decode yB 1 = .ok (.aload_n 0, 1) := by decide +kernel
theorem d2 : decode yB 2 = .ok (.arraylength, 1) := by decide +kernel
theorem d3 : decode yB 3 = .ok (.isub, 1) := by decide +kernel
theorem d4 : decode yB 4 = .ok (.bipush 31, 2) := by decide +kernel
theorem d6 : decode yB 6 = .ok (.iushr, 1) := by decide +kernel
theorem d7 : decode yB 7 = .ok (.i2b, 1) := by decide +kernel
theorem d8 : decode yB 8 = .ok (.ireturn, 1) := by decide +kernel
def site : List Cond := []
def tab : Cond := tabOf yN yB 2 (some .byte) site
def P (d : Addr) (B : Cell) (args : Array Value) (s : State) : Prop := args = #[.ref d, .int (Int32.ofNat B.slots.size)] ∧ Arr .byte d B s
def E (r : Option Value) (s u : State) : Prop := XT.PureE (some (.int 0)) r s u
/-- an array as long as the number of chars: LATIN1 -/
theorem law (l : Launch) (d : Addr) (B : Cell) : Law l yN 2 2 0 0 yB 2 (some .byte) site (P d B) E [] 0 0 := by
  refine Law.of_walk (plainFor_of_name (by decide +kernel)) (by decide +kernel) (by decide +kernel) (by decide) (fun _ _ h => by rw [h.1]; rfl) (fun _ U U' hal hh h => ⟨h.1, h.2.mv hal hh⟩) (fun r U U' V V' h1 hal h2 h => XT.PureE.mv r U U' V V' h1 hal h2 h) ?_
  intro p e s m args below meth c s₁ X0 hexec hbytes hml hret hlk hnm hown hh0 W hP
  obtain ⟨rfl, hB⟩ := hP
  have hB0 := hB.mv X0.warmed.alike hh0
  have c1 : Steps p.tables e below (s₁.setTop (entryFrame m #[.ref d, .int (Int32.ofNat B.slots.size)] 2)) (s₁.setTop (mkF m 0 #[.val (.ref d), .val (.int (Int32.ofNat B.slots.size))] [])) := entry rfl
  have c2 : Steps p.tables e below (s₁.setTop (entryFrame m #[.ref d, .int (Int32.ofNat B.slots.size)] 2)) (s₁.setTop (mkF m 2 #[.val (.ref d), .val (.int (Int32.ofNat B.slots.size))] [.ref d, .int (Int32.ofNat B.slots.size)])) := c1.trans (by
    refine XS.iloadN X0.here hexec rfl (hb hbytes d0) rfl ?_
    refine XS.aloadN X0.here hexec rfl (hb hbytes d1) rfl rfl ?_
    exact Steps.refl _)
  have c3 : Steps p.tables e below (s₁.setTop (entryFrame m #[.ref d, .int (Int32.ofNat B.slots.size)] 2)) (s₁.setTop (mkF m 8 #[.val (.ref d), .val (.int (Int32.ofNat B.slots.size))] [.int (lo8 (ushr (Int32.ofNat B.slots.size - Int32.ofNat B.slots.size) 31))])) := c2.trans (by
    refine X0.alen hexec hB0 rfl rfl (hb hbytes d2) ?_
    refine XS.isub X0.here hexec rfl (hb hbytes d3) rfl ?_
    refine bipushV X0.here hexec rfl 31 (hb hbytes d4) (by decide) ?_
    refine iushr X0.here hexec rfl (hb hbytes d6) rfl ?_
    refine i2b X0.here hexec rfl (hb hbytes d7) rfl ?_
    exact Steps.refl _)
  have e0 : lo8 (ushr (Int32.ofNat B.slots.size - Int32.ofNat B.slots.size) 31) = 0 := by rw [Int32.sub_self]; decide
  rw [e0] at c3
  exact ⟨s₁, some (.int 0), _, _, _, X0, rfl, rfl, rfl, (fun h => by cases h), ⟨rfl, hh0⟩, fun fs hl => c3.trans (X0.ireturnOut hexec hret rfl (Or.inr (Or.inr (Or.inl rfl))) (hb hbytes d8) hl)⟩
end CodL
/-- the String at a is Latin-1 over a new byte[] (the heap's one new cell): the low bytes of the len chars of A from o on; every cell but a is kept -/
def Got (a : Addr) (D : Cell) (fV fC : Field) (A : Cell) (o len : Nat) (r : Option Value) (s u : State) : Prop := r = none ∧ ∃ D' V : Cell, Blank "java/lang/String" a D' u ∧ Same D D' [fV.slot, fC.slot] ∧ D'.slots[fV.slot]? = some (.ref s.heap.size) ∧ D'.slots[fC.slot]? = some (.int 0) ∧ Arr .byte s.heap.size V u ∧ V.vm = .none ∧ u.vm.findClass "[B" = some V.cls ∧ V.slots.size = len ∧ (∀ j, j < len → V.slots[j]? = some (.int (lo8 (cv A (o + j))))) ∧ (∀ (y : Addr) (c : Cell), y ≠ a → s.heap[y]? = some c → u.heap[y]? = some c) ∧ u.heap.size = s.heap.size + 1
theorem Got.mv {a : Addr} {D A : Cell} {fV fC : Field} {o len : Nat} : ∀ r (U U' V V' : State), U'.heap = U.heap → V.vm.Alike V'.vm → V'.heap = V.heap → Got a D fV fC A o len r U V → Got a D fV fC A o len r U' V' :=
  fun r U U' V V' h1 hal h2 ⟨e0, D', X, a1, a2, a3, a4, a5, a6, a7, a8, a9, a10, a11⟩ => ⟨e0, D', X, a1.mv hal h2, a2, by rw [h1]; exact a3, a4, by rw [h1]; exact a5.mv hal h2, a6, by rw [hal.findClass]; exact a7, a8, a9, by rw [h1, h2]; exact a10, by rw [h1, h2]; exact a11⟩
namespace New4
def yN : MethodName := ⟨"java/lang/String", "<init>", "([CIILjava/lang/Void;)V"⟩
abbrev yB : ByteArray := jdk_42_method_149_code
theorem d0 : decode yB 0 = .ok (.aload_n 0, 1) := by decide +kernel
theorem d1 : decode yB 1 = .ok (.invokespecial 1, 3) := by decide +kernel
theorem d4 : decode yB 4 = .ok (.iload_n 3, 1) := by decide +kernel
theorem d5 : decode yB 5 = .ok (.ifCond (.ne) 22, 3) := by decide +kernel
theorem d27 : decode yB 27 = .ok (.getstatic 38, 3) := by decide +kernel
theorem d30 : decode yB 30 = .ok (.ifCond (.eq) 28, 3) := by decide +kernel
theorem d33 : decode yB 33 = .ok (.aload_n 1, 1) := by decide +kernel
theorem d34 : decode yB 34 = .ok (.iload_n 2, 1) := by decide +kernel
theorem d35 : decode yB 35 = .ok (.iload_n 3, 1) := by decide +kernel
theorem d36 : decode yB 36 = .ok (.invokestatic 177, 3) := by decide +kernel
theorem d39 : decode yB 39 = .ok (.astore 5, 2) := by decide +kernel
theorem d41 : decode yB 41 = .ok (.aload_n 0, 1) := by decide +kernel
theorem d42 : decode yB 42 = .ok (.aload 5, 2) := by decide +kernel
theorem d44 : decode yB 44 = .ok (.iload_n 3, 1) := by decide +kernel
theorem d45 : decode yB 45 = .ok (.invokestatic 47, 3) := by decide +kernel
theorem d48 : decode yB 48 = .ok (.putfield 15, 3) := by decide +kernel
theorem d51 : decode yB 51 = .ok (.aload_n 0, 1) := by decide +kernel
theorem d52 : decode yB 52 = .ok (.aload 5, 2) := by decide +kernel
theorem d54 : decode yB 54 = .ok (.putfield 9, 3) := by decide +kernel
theorem d57 : decode yB 57 = .ok (.return_, 1) := by decide +kernel
def site : List Cond := [.fieldLink "java/lang/String" 38 "java/lang/String" "COMPACT_STRINGS" "Z", Cmp3.tab, CodL.tab, .laysFinal "java/lang/String" "java/lang/String" "value" "[B", .fieldLink "java/lang/String" 9 "java/lang/String" "value" "[B", .laysFinal "java/lang/String" "java/lang/String" "coder" "B", .fieldLink "java/lang/String" 15 "java/lang/String" "coder" "B"] ++ objW "java/lang/String" 1 ++ staticW "java/lang/String" 177 Cmp3.yN ++ staticW "java/lang/String" 47 CodL.yN
def tab : Cond := tabOf yN yB 6 none site
def P (a : Addr) (D : Cell) (fV fC : Field) (b : Addr) (A : Cell) (z : Int32) (o len : Nat) (args : Array Value) (s : State) : Prop := args = #[.ref a, .ref b, .int (Int32.ofNat o), .int (Int32.ofNat len), .null] ∧ Blank "java/lang/String" a D s ∧ Found "java/lang/String" "value" "[B" fV s ∧ Found "java/lang/String" "coder" "B" fC s ∧ Ch b A s ∧ StaticIs s "java/lang/String" "COMPACT_STRINGS" "Z" (.int z) ∧ ¬ z = 0 ∧ 0 < len ∧ o + len ≤ A.slots.size ∧ len ≤ 536870912 ∧ ∀ i, i < len → ¬ 255 < cv A (o + i)
def E (a : Addr) (D : Cell) (fV fC : Field) (A : Cell) (o len : Nat) (r : Option Value) (s u : State) : Prop := Got a D fV fC A o len r s u
/-- len > 0, no char of the range above 255: a Latin-1 String of their low bytes -/
theorem law (l : Launch) (a : Addr) (D : Cell) (fV fC : Field) (b : Addr) (A : Cell) (z : Int32) (o len : Nat) : Law l yN 5 4 2 35 yB 6 none site (P a D fV fC b A z o len) (E a D fV fC A o len) [⟨a, fC.slot⟩, ⟨a, fV.slot⟩] 1 len := by
  refine Law.of_walk (plainFor_of_name (by decide +kernel)) (by decide +kernel) (by decide +kernel) (by decide) (fun _ _ h => by rw [h.1]; rfl) (fun _ U U' hal hh h => ⟨h.1, h.2.1.mv hal hh, h.2.2.1.al hal, h.2.2.2.1.al hal, h.2.2.2.2.1.mv hal hh, h.2.2.2.2.2.1.there hal hh, h.2.2.2.2.2.2⟩) (fun r U U' V V' h1 hal h2 h => Got.mv r U U' V V' h1 hal h2 h) ?_
  intro p e s m args below meth c s₁ X0 hexec hbytes hml hret hlk hnm hown hh0 W hP
  obtain ⟨rfl, hB, f1, f2, hA, s1, hz, l0, l1, l2, hp⟩ := hP
  have a31 := hA.1.2.2.2
  have c1 : Steps p.tables e below (s₁.setTop (entryFrame m #[.ref a, .ref b, .int (Int32.ofNat o), .int (Int32.ofNat len), .null] 6)) (s₁.setTop (mkF m 0 #[.val (.ref a), .val (.ref b), .val (.int (Int32.ofNat o)), .val (.int (Int32.ofNat len)), .val .null, .unset] [])) := entry rfl
  have c2 : Steps p.tables e below (s₁.setTop (entryFrame m #[.ref a, .ref b, .int (Int32.ofNat o), .int (Int32.ofNat len), .null] 6)) (s₁.setTop (mkF m 1 #[.val (.ref a), .val (.ref b), .val (.int (Int32.ofNat o)), .val (.int (Int32.ofNat len)), .val .null, .unset] [.ref a])) := c1.trans (by
    refine XS.aloadN X0.here hexec rfl (hb hbytes d0) rfl rfl ?_
    exact Steps.refl _)
  obtain ⟨T3, X3, q3, st3⟩ := X0.oinit hexec hown (wks W (objW "java/lang/String" 1)) (g := (mkF m 1 #[.val (.ref a), .val (.ref b), .val (.int (Int32.ofNat o)), .val (.int (Int32.ofNat len)), .val .null, .unset] [.ref a])) rfl (by rw [hml]; rfl) (rest := []) rfl (hb hbytes d1) (W := 0) (by show 2 * 0 + 0 ≤ _; decide) (Nat.le_of_ble_eq_true rfl) (Nat.le_of_ble_eq_true rfl)
  have hh3 := q3.trans hh0
  have c4 : Steps p.tables e below (s₁.setTop (entryFrame m #[.ref a, .ref b, .int (Int32.ofNat o), .int (Int32.ofNat len), .null] 6)) (T3.setTop (mkF m 27 #[.val (.ref a), .val (.ref b), .val (.int (Int32.ofNat o)), .val (.int (Int32.ofNat len)), .val .null, .unset] [])) := (c2.trans (st3 _ (Steps.refl _))).trans (by
    refine XS.iloadN X3.here hexec rfl (hb hbytes d4) rfl ?_
    refine XS.ifYes X3.here hexec rfl (pc0 := 5) rfl (hb hbytes d5) rfl (i0_ne_t (nz32 (by omega) l0)) (by decide) rfl ?_
    exact Steps.refl _)
  obtain ⟨T5, X5, q5, st5⟩ := X3.sget hexec hown (wk W (.fieldLink "java/lang/String" 38 "java/lang/String" "COMPACT_STRINGS" "Z")) s1 (fun _ _ h => by rw [hh3]; exact h) (g := (mkF m 27 #[.val (.ref a), .val (.ref b), .val (.int (Int32.ofNat o)), .val (.int (Int32.ofNat len)), .val .null, .unset] [])) rfl (hb hbytes d27)
  have hh5 := q5.trans hh3
  have c6 : Steps p.tables e below (s₁.setTop (entryFrame m #[.ref a, .ref b, .int (Int32.ofNat o), .int (Int32.ofNat len), .null] 6)) (T5.setTop (mkF m 30 #[.val (.ref a), .val (.ref b), .val (.int (Int32.ofNat o)), .val (.int (Int32.ofNat len)), .val .null, .unset] [.int z])) := c4.trans (st5 _ (Steps.refl _))
  have c7 : Steps p.tables e below (s₁.setTop (entryFrame m #[.ref a, .ref b, .int (Int32.ofNat o), .int (Int32.ofNat len), .null] 6)) (T5.setTop (mkF m 36 #[.val (.ref a), .val (.ref b), .val (.int (Int32.ofNat o)), .val (.int (Int32.ofNat len)), .val .null, .unset] [.int (Int32.ofNat len), .int (Int32.ofNat o), .ref b])) := c6.trans (by
    refine XS.ifNo X5.here hexec rfl (hb hbytes d30) rfl (i0_eq_f hz) ?_
    refine XS.aloadN X5.here hexec rfl (hb hbytes d33) rfl rfl ?_
    refine XS.iloadN X5.here hexec rfl (hb hbytes d34) rfl ?_
    refine XS.iloadN X5.here hexec rfl (hb hbytes d35) rfl ?_
    exact Steps.refl _)
  obtain ⟨v8, T8, X8, E8, g8⟩ := X5.callS hexec (Cmp3.law l b A o len) hown (wks W (staticW "java/lang/String" 177 Cmp3.yN)) (wk W Cmp3.tab) (W := 0) (Nat.le_of_ble_eq_true rfl) (Nat.le_of_ble_eq_true rfl) (Nat.le_refl _) (by show 0 + len ≤ len; omega) (g := (mkF m 36 #[.val (.ref a), .val (.ref b), .val (.int (Int32.ofNat o)), .val (.int (Int32.ofNat len)), .val .null, .unset] [.int (Int32.ofNat len), .int (Int32.ofNat o), .ref b])) rfl (by rw [hml]; rfl) c7 (argsL := [.ref b, .int (Int32.ofNat o), .int (Int32.ofNat len)]) (rest := []) rfl rfl (by show 2 * 0 + 0 ≤ _; decide) (hb hbytes d36) (⟨rfl, hA.mv X5.warmed.alike hh5, l1, l2, hp⟩)
  obtain ⟨e8, z8⟩ := E8
  obtain ⟨rfl, N, n1, n2, n3, n4, n5, n6⟩ := NewArr.mv _ T5 s _ _ hh5.symm (Vm.Alike.refl _) rfl e8
  rw [hh5] at z8
  have hB1 := hB.keep X8.warmed.alike (n6 _ _ hB.1)
  have hne : s.heap.size ≠ a := (Nat.ne_of_lt (Array.getElem?_eq_some_iff.mp hB.1).1).symm
  have c9 : Steps p.tables e below (s₁.setTop (entryFrame m #[.ref a, .ref b, .int (Int32.ofNat o), .int (Int32.ofNat len), .null] 6)) (T8.setTop (mkF m 39 #[.val (.ref a), .val (.ref b), .val (.int (Int32.ofNat o)), .val (.int (Int32.ofNat len)), .val .null, .unset] [.ref s.heap.size])) := g8
  have c10 : Steps p.tables e below (s₁.setTop (entryFrame m #[.ref a, .ref b, .int (Int32.ofNat o), .int (Int32.ofNat len), .null] 6)) (T8.setTop (mkF m 45 #[.val (.ref a), .val (.ref b), .val (.int (Int32.ofNat o)), .val (.int (Int32.ofNat len)), .val .null, .val (.ref s.heap.size)] [.int (Int32.ofNat N.slots.size), .ref s.heap.size, .ref a])) := by
    have hc : Steps p.tables e below (s₁.setTop (entryFrame m #[.ref a, .ref b, .int (Int32.ofNat o), .int (Int32.ofNat len), .null] 6)) (T8.setTop (mkF m 45 #[.val (.ref a), .val (.ref b), .val (.int (Int32.ofNat o)), .val (.int (Int32.ofNat len)), .val .null, .val (.ref s.heap.size)] [.int (Int32.ofNat len), .ref s.heap.size, .ref a])) := c9.trans (by
      refine XS.astore X8.here hexec rfl (hb hbytes d39) rfl rfl rfl ?_
      refine XS.aloadN X8.here hexec rfl (hb hbytes d41) rfl rfl ?_
      refine XS.aload X8.here hexec rfl (hb hbytes d42) rfl rfl ?_
      refine XS.iloadN X8.here hexec rfl (hb hbytes d44) rfl ?_
      exact Steps.refl _)
    rw [n4]; exact hc
  obtain ⟨v11, T11, X11, E11, g11⟩ := X8.callS hexec (CodL.law l s.heap.size N) hown (wks W (staticW "java/lang/String" 47 CodL.yN)) (wk W CodL.tab) (W := 1) (Nat.le_of_ble_eq_true rfl) (Nat.le_of_ble_eq_true rfl) (Nat.le_refl _) (by show 0 + len + 0 ≤ len; omega) (g := (mkF m 45 #[.val (.ref a), .val (.ref b), .val (.int (Int32.ofNat o)), .val (.int (Int32.ofNat len)), .val .null, .val (.ref s.heap.size)] [.int (Int32.ofNat N.slots.size), .ref s.heap.size, .ref a])) rfl (by rw [hml]; rfl) c10 (argsL := [.ref s.heap.size, .int (Int32.ofNat N.slots.size)]) (rest := [.ref a]) rfl rfl (by show 2 * 0 + (1 + 0) ≤ _; decide) (hb hbytes d45) (⟨rfl, n1⟩)
  obtain ⟨rfl, q11⟩ := E11
  have hB11 := hB1.mv (X8.warmed.alike.symm.trans X11.warmed.alike) q11
  have c12 : Steps p.tables e below (s₁.setTop (entryFrame m #[.ref a, .ref b, .int (Int32.ofNat o), .int (Int32.ofNat len), .null] 6)) (T11.setTop (mkF m 48 #[.val (.ref a), .val (.ref b), .val (.int (Int32.ofNat o)), .val (.int (Int32.ofNat len)), .val .null, .val (.ref s.heap.size)] [.int 0, .ref a])) := g11
  obtain ⟨T13, X13, p13, bl13, sl13, st13⟩ := X11.finit hexec hown (wk W (.fieldLink "java/lang/String" 15 "java/lang/String" "coder" "B")) (Or.inr ⟨_, (wk W (.laysFinal "java/lang/String" "java/lang/String" "coder" "B"))⟩) (Or.inl ⟨rfl, hnm⟩) f2 (Or.inl rfl) hB11 (t := .byte) (by decide +kernel) rfl (g := (mkF m 48 #[.val (.ref a), .val (.ref b), .val (.int (Int32.ofNat o)), .val (.int (Int32.ofNat len)), .val .null, .val (.ref s.heap.size)] [.int 0, .ref a])) rfl (rest := []) rfl (hb hbytes d48)
  have c14 : Steps p.tables e below (s₁.setTop (entryFrame m #[.ref a, .ref b, .int (Int32.ofNat o), .int (Int32.ofNat len), .null] 6)) (T13.setTop (mkF m 54 #[.val (.ref a), .val (.ref b), .val (.int (Int32.ofNat o)), .val (.int (Int32.ofNat len)), .val .null, .val (.ref s.heap.size)] [.ref s.heap.size, .ref a])) := (c12.trans (st13 _ (Steps.refl _))).trans (by
    refine XS.aloadN X13.here hexec rfl (hb hbytes d51) rfl rfl ?_
    refine XS.aload X13.here hexec rfl (hb hbytes d52) rfl rfl ?_
    exact Steps.refl _)
  obtain ⟨T15, X15, p15, bl15, sl15, st15⟩ := X13.finit hexec hown (wk W (.fieldLink "java/lang/String" 9 "java/lang/String" "value" "[B")) (Or.inr ⟨_, (wk W (.laysFinal "java/lang/String" "java/lang/String" "value" "[B"))⟩) (Or.inl ⟨rfl, hnm⟩) f1 (Or.inl rfl) bl13 (t := (.array .byte)) (by decide +kernel) rfl (g := (mkF m 54 #[.val (.ref a), .val (.ref b), .val (.int (Int32.ofNat o)), .val (.int (Int32.ofNat len)), .val .null, .val (.ref s.heap.size)] [.ref s.heap.size, .ref a])) rfl (rest := []) rfl (hb hbytes d54)
  have c16 : Steps p.tables e below (s₁.setTop (entryFrame m #[.ref a, .ref b, .int (Int32.ofNat o), .int (Int32.ofNat len), .null] 6)) (T15.setTop (mkF m 57 #[.val (.ref a), .val (.ref b), .val (.int (Int32.ofNat o)), .val (.int (Int32.ofNat len)), .val .null, .val (.ref s.heap.size)] [])) := c14.trans (st15 _ (Steps.refl _))
  have ap := apart (Or.inr ⟨_, (wk W (.laysFinal "java/lang/String" "java/lang/String" "value" "[B"))⟩) (Or.inr ⟨_, (wk W (.laysFinal "java/lang/String" "java/lang/String" "coder" "B"))⟩) f1 f2 (t₁ := .array .byte) (t₂ := .byte) (by decide +kernel) (by decide +kernel) (by decide)
  have al := X8.warmed.alike.symm.trans X15.warmed.alike
  have n7 : T11.heap[s.heap.size]? = some N := by rw [q11]; exact n1.1
  exact ⟨T15, none, _, _, _, X15, by simp, rfl, by omega, (fun _ => rfl), ⟨rfl, _, N, bl15, ((Same.refl D _).set _ (by simp)).set _ (by simp), sl15, (Cell.slots_setSlot_ne _ ap).trans sl13, n1.keep al (p15.other hne (p13.other hne n7)), n2, by rw [al.findClass]; exact n3, n4, n5, fun y c h1 h2 => p15.other h1 (p13.other h1 (by rw [q11]; exact n6 y c h2)), by rw [p15.2.2, p13.2.2, q11]; exact z8⟩, fun fs hl => c16.trans (X15.returnOut hexec hret (hb hbytes d57) hl)⟩
end New4
namespace New1
def yN : MethodName := ⟨"java/lang/String", "<init>", "([C)V"⟩
abbrev yB : ByteArray := jdk_42_method_3_code
theorem d0 : decode yB 0 = .ok (.aload_n 0, 1) := by decide +kernel
theorem d1 : decode yB 1 = .ok (.aload_n 1, 1) := by decide +kernel
theorem d2 : decode yB 2 = .ok (.iconst 0, 1) := by decide +kernel
theorem d3 : decode yB 3 = .ok (.aload_n 1, 1) := by decide +kernel
theorem d4 : decode yB 4 = .ok (.arraylength, 1) := by decide +kernel
theorem d5 : decode yB 5 = .ok (.aconst_null, 1) := by decide +kernel
theorem d6 : decode yB 6 = .ok (.invokespecial 27, 3) := by decide +kernel
theorem d9 : decode yB 9 = .ok (.return_, 1) := by decide +kernel
def site : List Cond := [New4.tab] ++ initW "java/lang/String" 27 New4.yN
def tab : Cond := tabOf yN yB 2 none site
def P (a : Addr) (D : Cell) (fV fC : Field) (b : Addr) (A : Cell) (z : Int32) (args : Array Value) (s : State) : Prop := args = #[.ref a, .ref b] ∧ Blank "java/lang/String" a D s ∧ Found "java/lang/String" "value" "[B" fV s ∧ Found "java/lang/String" "coder" "B" fC s ∧ Ch b A s ∧ StaticIs s "java/lang/String" "COMPACT_STRINGS" "Z" (.int z) ∧ ¬ z = 0 ∧ 0 < A.slots.size ∧ A.slots.size ≤ 536870912 ∧ ∀ i, i < A.slots.size → ¬ 255 < cv A i
def E (a : Addr) (D : Cell) (fV fC : Field) (A : Cell) (r : Option Value) (s u : State) : Prop := Got a D fV fC A 0 A.slots.size r s u
/-- new String(chars), not empty, no char above 255: a Latin-1 String of their low bytes -/
theorem law (l : Launch) (a : Addr) (D : Cell) (fV fC : Field) (b : Addr) (A : Cell) (z : Int32) : Law l yN 2 1 3 52 yB 2 none site (P a D fV fC b A z) (E a D fV fC A) [⟨a, fC.slot⟩, ⟨a, fV.slot⟩] 1 A.slots.size := by
  refine Law.of_walk (plainFor_of_name (by decide +kernel)) (by decide +kernel) (by decide +kernel) (by decide) (fun _ _ h => by rw [h.1]; rfl) (fun _ U U' hal hh h => ⟨h.1, h.2.1.mv hal hh, h.2.2.1.al hal, h.2.2.2.1.al hal, h.2.2.2.2.1.mv hal hh, h.2.2.2.2.2.1.there hal hh, h.2.2.2.2.2.2⟩) (fun r U U' V V' h1 hal h2 h => Got.mv r U U' V V' h1 hal h2 h) ?_
  intro p e s m args below meth c s₁ X0 hexec hbytes hml hret hlk hnm hown hh0 W hP
  obtain ⟨rfl, hB, f1, f2, hA, s1, hz, l0, l2, hp⟩ := hP
  have c1 : Steps p.tables e below (s₁.setTop (entryFrame m #[.ref a, .ref b] 2)) (s₁.setTop (mkF m 0 #[.val (.ref a), .val (.ref b)] [])) := entry rfl
  have c2 : Steps p.tables e below (s₁.setTop (entryFrame m #[.ref a, .ref b] 2)) (s₁.setTop (mkF m 6 #[.val (.ref a), .val (.ref b)] [.null, .int (Int32.ofNat A.slots.size), .int 0, .ref b, .ref a])) := c1.trans (by
    refine XS.aloadN X0.here hexec rfl (hb hbytes d0) rfl rfl ?_
    refine XS.aloadN X0.here hexec rfl (hb hbytes d1) rfl rfl ?_
    refine iconstV X0.here hexec rfl 0 (hb hbytes d2) (by decide) ?_
    refine XS.aloadN X0.here hexec rfl (hb hbytes d3) rfl rfl ?_
    refine X0.alen hexec (hA.1.mv X0.warmed.alike hh0) rfl rfl (hb hbytes d4) ?_
    refine XS.aconstNull X0.here hexec rfl (hb hbytes d5) ?_
    exact Steps.refl _)
  obtain ⟨v3, T3, X3, E3, g3⟩ := X0.callN hexec (New4.law l a D fV fC b A z 0 A.slots.size) rfl hown (wks W (initW "java/lang/String" 27 New4.yN)) (W New4.tab (by simp only [site, List.mem_cons, List.mem_append, true_or, or_true])) (W := 0) (Nat.le_of_ble_eq_true rfl) (Nat.le_of_ble_eq_true rfl) (Nat.le_refl _) (by show 0 + A.slots.size ≤ A.slots.size; omega) (g := (mkF m 6 #[.val (.ref a), .val (.ref b)] [.null, .int (Int32.ofNat A.slots.size), .int (Int32.ofNat 0), .ref b, .ref a])) rfl (by rw [hml]; rfl) c2 (argsL := [.ref b, .int (Int32.ofNat 0), .int (Int32.ofNat A.slots.size), .null]) (rest := []) rfl rfl (by show 2 * 0 + 0 ≤ _; decide) (hb hbytes d6) (⟨rfl, hB.mv X0.warmed.alike hh0, f1.al X0.warmed.alike, f2.al X0.warmed.alike, hA.mv X0.warmed.alike hh0, s1.there X0.warmed.alike hh0, hz, l0, by omega, l2, fun i hi => by rw [Nat.zero_add]; exact hp i hi⟩)
  have e0 := Got.mv _ s₁ s _ _ hh0.symm (Vm.Alike.refl _) rfl E3
  obtain rfl := e0.1
  have c4 : Steps p.tables e below (s₁.setTop (entryFrame m #[.ref a, .ref b] 2)) (T3.setTop (mkF m 9 #[.val (.ref a), .val (.ref b)] [])) := g3
  exact ⟨T3, none, _, _, _, X3, by simp, rfl, by omega, (fun _ => rfl), e0, fun fs hl => c4.trans (X3.returnOut hexec hret (hb hbytes d9) hl)⟩
theorem pays {l : Launch} {R : Room} {p : Program} {e : Env} {below : List Frame} {s : State} {sargs : Array Value} {len W : Nat} (a : Addr) (D : Cell) (fV fC : Field) (b : Addr) (A : Cell) (z : Int32) (htab : tab.before sargs s = true) (hfr : 4 ≤ R.frames) (hlo : W + 65 ≤ R.locals) :
    Back l R p e below s sargs yN len W (fun A₁ a₁ => A₁.cells + 1 ≤ R.cells ∧ A₁.slots + A.slots.size ≤ R.slots ∧ P a D fV fC b A z a₁ A₁.U) (fun A₁ _ v₁ B₁ => E a D fV fC A v₁ A₁.U B₁.U ∧ B₁.locs = A₁.locs ++ [⟨a, fC.slot⟩, ⟨a, fV.slot⟩] ∧ B₁.cells = A₁.cells + 1 ∧ B₁.slots = A₁.slots + A.slots.size) :=
  (law l a D fV fC b A z).pays htab hfr (by omega)
end New1
/-- the byte, read back as charAt reads it, is the char -/
theorem lo8_mask {x : Int32} (h0 : ¬ x < 0) (h1 : ¬ 255 < x) : lo8 x &&& 255 = x := by
  have t : ∀ k : Fin 256, lo8 (Int32.ofNat k.val) &&& 255 = Int32.ofNat k.val := by decide +kernel
  rw [Int32.lt_iff_toInt_lt] at h0 h1
  have e0 : (0 : Int32).toInt = 0 := rfl
  have e1 : (255 : Int32).toInt = 255 := rfl
  obtain ⟨k, hk⟩ : ∃ k : Nat, x.toInt = k := ⟨x.toInt.toNat, by omega⟩
  have hx : x = Int32.ofNat k := Int32.toInt_inj.mp (by rw [hk, Int32.toInt_ofNat_small (by omega)])
  rw [hx]
  exact t ⟨k, by omega⟩
end StrChars
namespace StrChars.Road
open Jvm Sem ClassFile Op Lib Jvm.Stand Jvm.Free Jvm.Free.XT
open Jvm.Lib.Cold (StaticIs)
abbrev ST : String := "java/lang/String"
/-- every table word that New1's law asks, flat -/
abbrev words : List Jvm.Cond := [.code New1.yN New1.yB 2 none, .initialized ST, .methodLink ST 27 New4.yN, .instanceMethod New4.yN,
  .code New4.yN New4.yB 6 none, .fieldLink ST 38 ST "COMPACT_STRINGS" "Z", .laysFinal ST ST "value" "[B", .fieldLink ST 9 ST "value" "[B", .laysFinal ST ST "coder" "B", .fieldLink ST 15 ST "coder" "B",
  .methodLink ST 1 Lib.objectInit, .instanceMethod Lib.objectInit, .code Lib.objectInit ⟨#[0xb1]⟩ 1 none, .methodLink ST 177 Cmp3.yN, .static Cmp3.yN, .methodLink ST 47 CodL.yN, .static CodL.yN,
  .code Cmp3.yN Cmp3.yB 6 (some (.array .byte)), .initialized U16, .arrayClass .byte, .methodLink U16 115 Cmp5.yN, .static Cmp5.yN, .code Cmp5.yN Cmp5.yB 7 (some .int), .code CodL.yN CodL.yB 2 (some .byte)]
theorem tab_of {a : Array Value} {s : State} (h : ∀ w ∈ words, w.before a s = true) : New1.tab.before a s = true := by
  have h5 : Cmp5.tab.before a s = true := unparts (wk h (.code Cmp5.yN Cmp5.yB 7 (some .int))) (wks h (.initialized Cmp5.yN.cls :: Cmp5.site))
  have hc : CodL.tab.before a s = true := unparts (wk h (.code CodL.yN CodL.yB 2 (some .byte))) (wks h (.initialized CodL.yN.cls :: CodL.site))
  have q5 : ∀ w ∈ Cmp5.tab :: words, w.before a s = true := fun w hw => (List.mem_cons.mp hw).elim (fun e => e ▸ h5) (h w)
  have h3 : Cmp3.tab.before a s = true := unparts (wk q5 (.code Cmp3.yN Cmp3.yB 6 (some (.array .byte)))) (wks q5 (.initialized Cmp3.yN.cls :: Cmp3.site))
  have q3 : ∀ w ∈ Cmp3.tab :: CodL.tab :: words, w.before a s = true := fun w hw => (List.mem_cons.mp hw).elim (fun e => e ▸ h3) fun hw => (List.mem_cons.mp hw).elim (fun e => e ▸ hc) (h w)
  have h4 : New4.tab.before a s = true := unparts (wk q3 (.code New4.yN New4.yB 6 none)) (wks q3 (.initialized New4.yN.cls :: New4.site))
  have q4 : ∀ w ∈ New4.tab :: words, w.before a s = true := fun w hw => (List.mem_cons.mp hw).elim (fun e => e ▸ h4) (h w)
  exact unparts (wk q4 (.code New1.yN New1.yB 2 none)) (wks q4 (.initialized New1.yN.cls :: New1.site))
/-- the words ride from the start Z to the walk's own state -/
theorem moved {Z s : State} {a0 args : Array Value} (hZ : Z.Warmed39 s.vm) (hw : ∀ d ∈ words, d.before a0 Z = true) : ∀ d ∈ words, d.before args s = true := fun d hd => by
  have q := hw d hd
  have t : ∀ d ∈ words, d = .arrayClass .byte ∨ (d.onTables && d.keepsFace) = true := by decide +kernel
  rcases t d hd with rfl | t
  · exact RoadKit.mvA hZ q
  · exact RoadKit.mv hZ q t
/-- WHAT COMES BACK, over the tables of the start Z: h the heap at the call, h' behind it -/
def Q (Z : State) (x : Addr) (A : Cell) (h : Heap) (v : Option Value) (h' : Heap) (L : List Loc) : Prop := v = none ∧ (∀ y ∈ L, y.base = x) ∧ RoadKit.Keep h h' [x] ∧ h'.size = h.size + 1 ∧ RoadKit.Exa Z h' x ST ∧ RoadKit.Fld Z h' x ST "value" "[B" (.ref h.size) ∧ RoadKit.Fld Z h' x ST "coder" "B" (.int 0) ∧
  (∃ V : Cell, RoadKit.Arr Z h' h.size V .byte ∧ V.vm = .none ∧ Z.vm.findClass "[B" = some V.cls ∧ V.slots.size = A.slots.size ∧ ∀ j, j < A.slots.size → V.slots[j]? = some (.int (lo8 (cv A j)))) ∧
  ∀ (O n d : String) (w : Value), RoadKit.Fld Z h x O n d w → RoadKit.slotOf Z O n d ≠ RoadKit.slotOf Z ST "value" "[B" → RoadKit.slotOf Z O n d ≠ RoadKit.slotOf Z ST "coder" "B" → RoadKit.Fld Z h' x O n d w
/-- **new String(chars) AT A CALL, IN THE ROAD'S FORM**: for specialBack behind newO: x the fresh String, b the char[] with the cell A -/
theorem back {p : Program} {l : Launch} {e : Env} {R : Room} {s : State} {args : Array Value} {below : List Frame} {len W : Nat} {Z : State} {a0 : Array Value} {h : Heap} (hZ : Z.Warmed39 s.vm) (hw : ∀ d ∈ words, d.before a0 Z = true) {kI : Nat} (wi : (Jvm.Cond.instantiable ST kI).before a0 Z = true)
    {x b : Addr} {A : Cell} {z : Int32} {v0 c0 : Value} (E : RoadKit.Exa Z h x ST) (V : RoadKit.Fld Z h x ST "value" "[B" v0) (C : RoadKit.Fld Z h x ST "coder" "B" c0) (K : RoadKit.Arr Z h b A .char) (hty : Typed .char A) (S : RoadKit.Sta Z h ST "COMPACT_STRINGS" "Z" (.int z)) (hz : ¬ z = 0)
    (l0 : 0 < A.slots.size) (l2 : A.slots.size ≤ 536870912) (hp : ∀ i, i < A.slots.size → ¬ 255 < cv A i) (hfr : 4 ≤ R.frames) (hlo : W + 65 ≤ R.locals) :
    Back l R p e below s args New1.yN len W (fun P a => a = #[.ref x, .ref b] ∧ P.U.heap = h ∧ P.cells + 1 ≤ R.cells ∧ P.slots + A.slots.size ≤ R.slots)
      (fun P _ v B => ∃ L, Q Z x A h v B.U.heap L ∧ B.locs = P.locs ++ L ∧ B.cells = P.cells + 1 ∧ B.slots = P.slots + A.slots.size) := by
  intro m meth c P g ig mk a X hg hsize hdg hW hn hp'
  obtain ⟨rfl, rfl, r1, r2⟩ := hp'
  have al : Z.vm.Alike P.U.vm := hZ.alike.trans X.warmed.alike
  obtain ⟨D, cfV, kV, iV, fV, hD, gV, stV, knV, obV, asV, slV⟩ := id V
  obtain ⟨D', cfC, kC, iC, fC, hD', gC, stC, -, -, asC, slC⟩ := id C
  cases hD.symm.trans hD'
  obtain ⟨D2, kD, e1, e2, e3, e4, e5⟩ := id E
  cases hD.symm.trans e1
  obtain ⟨c2, k2, i1, i2, i3, -⟩ := Cond.instantiable_spec wi
  cases e2.symm.trans i1
  cases e3.symm.trans i2
  obtain ⟨kU, u1, u2⟩ := al.2.2 _ _ e3
  have hB : Blank ST x D P.U := ⟨hD, ⟨knV, fun q hq => by rw [hq] at obV; cases obV⟩, by rw [al.findClass]; exact e2, kU, u1, by rw [u2]; exact i3, by rw [u2]; exact e5 i3⟩
  have F1 : Found ST "value" "[B" fV P.U := ⟨SBG.found_only al ⟨cfV, kV, iV, gV⟩, stV⟩
  have F2 : Found ST "coder" "B" fC P.U := ⟨SBG.found_only al ⟨cfC, kC, iC, gC⟩, stC⟩
  have hA : Ch b A P.U := ⟨⟨K.1, State.isArrayOf_alike al K.2.1, K.2.2, by omega⟩, hty⟩
  have hS : StaticIs P.U ST "COMPACT_STRINGS" "Z" (.int z) := by
    obtain ⟨cfS, iS, kS, fS, st, cS, t1, t2, t3, t4, t5, t6, t7⟩ := S
    exact StaticIs.there (s := { Z with heap := P.U.heap }) ⟨cfS, iS, kS, fS, st, cS, t1, t2, t3, t4, t5, (fun q => by rw [q] at t6; cases t6), t7⟩ al rfl
  obtain ⟨v, B, X', ⟨⟨hv, E', V', q1, q2, q3, q4, q5, q6, q7, q8, q9, q10, q11⟩, hl, hc, hs⟩, st⟩ := New1.pays x D fV fC b A z (tab_of (moved hZ hw)) hfr hlo m meth c P g ig mk _ X hg hsize hdg hW hn ⟨r1, r2, rfl, hB, F1, F2, hA, hS, hz, l0, l2, hp⟩
  have al' : Z.vm.Alike B.U.vm := hZ.alike.trans X'.warmed.alike
  have hsz : E'.slots.size = D.slots.size := by
    obtain ⟨-, -, -, kB, w1, w2, w3⟩ := q1
    obtain ⟨kB', y1, y2⟩ := al'.2.2 _ _ e3
    rw [q2.2.1] at w1
    cases w1.symm.trans y1
    rw [w3, e5 i3, y2]
  refine ⟨v, B, X', ⟨_, ⟨hv, ?_, ⟨by omega, fun y cy hy hn' => q10 y cy (by simpa using hn') hy, fun y cy hy => ?_⟩, q11, ⟨E', _, q1.1, by rw [q2.2.1]; exact e2, by rw [q2.2.1]; exact e3, by rw [q2.1]; exact obV, fun _ => by rw [hsz]; exact e5 i3⟩,
    ⟨E', cfV, kV, iV, fV, q1.1, gV, stV, by rw [q2.1]; exact knV, by rw [q2.1]; exact obV, by rw [q2.2.1]; exact asV, q3⟩, ⟨E', cfC, kC, iC, fC, q1.1, gC, stC, by rw [q2.1]; exact knV, by rw [q2.1]; exact obV, by rw [q2.2.1]; exact asC, q4⟩,
    ⟨V', ⟨q5.1, State.isArrayOf_alike al'.symm q5.2.1, q5.2.2.1⟩, q6, by rw [← al'.findClass]; exact q7, q8, fun j hj => by have := q9 j hj; rwa [Nat.zero_add] at this⟩, fun O n d w F n1 n2 => ?_⟩, hl, hc, hs⟩, st⟩
  · intro y hy
    simp only [List.mem_cons, List.not_mem_nil, or_false] at hy
    rcases hy with rfl | rfl <;> rfl
  · by_cases q : y = x
    · subst q
      cases hD.symm.trans hy
      exact ⟨E', q1.1, q2.2.1, q2.1, hsz⟩
    · exact ⟨cy, q10 y cy q hy, rfl, rfl, rfl⟩
  · obtain ⟨D3, cf, k, i, f, g1, g2, g3, g4, g5, g6, g7⟩ := F
    cases hD.symm.trans g1
    simp only [RoadKit.slotOf, g2, gV, gC, Option.map_some, Option.getD_some] at n1 n2
    exact ⟨E', cf, k, i, f, q1.1, g2, g3, by rw [q2.1]; exact g4, by rw [q2.1]; exact g5, by rw [q2.2.1]; exact g6, by rw [q2.2.2 f.slot (by simp [n1, n2])]; exact g7⟩
end StrChars.Road
namespace StrChars.Road
open Jvm Sem ClassFile Op Lib Jvm.Stand Jvm.Free Jvm.Free.XT
/-- WHAT COMES BACK, the byte[] as a list of values -/
def QA (Z : State) (x : Addr) (zn : Int32) (cs : List Int32) (h : Heap) (v : Option Value) (h' : Heap) (L : List Loc) : Prop := v = none ∧ (∀ y ∈ L, y.base = x) ∧ RoadKit.Keep h h' [x] ∧ h'.size = h.size + 1 ∧ RoadKit.Exa Z h' x ST ∧ RoadKit.Fld Z h' x ST "value" "[B" (.ref h.size) ∧ RoadKit.Fld Z h' x ST "coder" "B" (.int 0) ∧
  (∃ kb, Z.vm.findClass "[B" = some kb ∧ RoadKit.Arv Z h' h.size kb .byte zn (cs.map fun c => .int (lo8 c)) (.int 0)) ∧
  ∀ (O n d : String) (w : Value), RoadKit.Fld Z h x O n d w → RoadKit.slotOf Z O n d ≠ RoadKit.slotOf Z ST "value" "[B" → RoadKit.slotOf Z O n d ≠ RoadKit.slotOf Z ST "coder" "B" → RoadKit.Fld Z h' x O n d w
/-- **new String(chars) AT A CALL, THE ARRAYS AS LISTS**: the char[] at b holds cs, not empty, no char above 255 -/
theorem backArv {p : Program} {l : Launch} {e : Env} {R : Room} {s : State} {args : Array Value} {below : List Frame} {len W : Nat} {Z : State} {a0 : Array Value} {h : Heap} (hZ : Z.Warmed39 s.vm) (hw : ∀ d ∈ words, d.before a0 Z = true) {kI : Nat} (wi : (Jvm.Cond.instantiable ST kI).before a0 Z = true)
    {x b : Addr} {k : ClassId} {zn z : Int32} {cs : List Int32} {dv v0 c0 : Value} (E : RoadKit.Exa Z h x ST) (V : RoadKit.Fld Z h x ST "value" "[B" v0) (C : RoadKit.Fld Z h x ST "coder" "B" c0) (K : RoadKit.Arv Z h b k .char zn (cs.map Value.int) dv) (S : RoadKit.Sta Z h ST "COMPACT_STRINGS" "Z" (.int z)) (hz : ¬ z = 0)
    (hlen : zn.toNatClampNeg = cs.length) (h0 : 0 < cs.length) (hbig : cs.length ≤ 536870912) (hall : ∀ c ∈ cs, ¬ 255 < c) (hfr : 4 ≤ R.frames) (hlo : W + 65 ≤ R.locals) :
    Back l R p e below s args New1.yN len W (fun P a => a = #[.ref x, .ref b] ∧ P.U.heap = h ∧ P.cells + 1 ≤ R.cells ∧ P.slots + cs.length ≤ R.slots)
      (fun P _ v B => ∃ L, QA Z x zn cs h v B.U.heap L ∧ B.locs = P.locs ++ L ∧ B.cells = P.cells + 1 ∧ B.slots = P.slots + cs.length) := by
  obtain ⟨A, K1, K2, K3, K4, K5, K6⟩ := K
  have e : A.slots.size = cs.length := K3.trans hlen
  have hat : ∀ (i : Nat) (hi : i < cs.length), A.slots[i]? = some (.int cs[i]) := fun i hi => by rw [K5 i (by omega)]; simp [List.getD_eq_getElem?_getD, hi]
  have hcv : ∀ (i : Nat) (hi : i < cs.length), cv A i = cs[i] := fun i hi => by unfold cv; rw [hat i hi]
  have hty : Typed .char A := fun i v hv => by
    have hi : i < A.slots.size := (Array.getElem?_eq_some_iff.mp hv).1
    have q := K5 i hi
    rw [hv] at q
    rw [Option.some.inj q]
    exact K6 i hi
  refine Back.mono (back hZ hw wi E V C K1 hty S hz (by omega) (by omega) (fun i hi => by rw [hcv i (by omega)]; exact hall _ (List.getElem_mem _)) hfr hlo) (fun P a hp => ⟨hp.1, hp.2.1, hp.2.2.1, by rw [e]; exact hp.2.2.2⟩) (fun P a v B hp hq => ?_)
  obtain ⟨L, ⟨q1, q2, q3, q4, q5, q6, q7, ⟨V', v1, v2, v3, v4, v5⟩, q9⟩, hl, hc, hs⟩ := hq
  refine ⟨L, ⟨q1, q2, q3, q4, q5, q6, q7, ⟨V'.cls, v3, V', v1, rfl, by rw [v4, e, hlen], K4, fun i hi => ?_, fun i hi => ?_⟩, q9⟩, hl, hc, by rw [hs, e]⟩
  · have hi' : i < cs.length := by omega
    rw [v5 i (by omega), hcv i hi']; simp [List.getD_eq_getElem?_getD, hi']
  · have hi' : i < cs.length := by omega
    simp only [List.getD_eq_getElem?_getD, List.getElem?_map, List.getElem?_eq_getElem hi', Option.map_some, Option.getD_some]
    exact fits_lo8 _
end StrChars.Road
namespace StrChars.Road
open Jvm Sem ClassFile Op Lib Jvm.Stand Jvm.Free Jvm.Free.XT
/-- WHAT COMES BACK, in the writer's own shape -/
def QV (Z : State) (x : Addr) (N : Int32) (bs : List Int32) (h : Heap) (n0 : Nat) (v : Option Value) (h' : Heap) (L : List Loc) : Prop := v = none ∧ RoadKit.Fr n0 L ∧ RoadKit.Keep h h' [x] ∧ RoadKit.Exa Z h' x ST ∧ RoadKit.Fld Z h' x ST "coder" "B" (.int 0) ∧
  ∃ (t : Addr) (kb : ClassId), n0 ≤ t ∧ h.size ≤ t ∧ ¬ t = x ∧ RoadKit.Fld Z h' x ST "value" "[B" (.ref t) ∧ RoadKit.Arv Z h' t kb .byte N (bs.map Value.int) (.int 0)
/-- **new String(chars) AT A CALL, FOR THE WRITER**: a char[] of n known ints, each 0 to 255 -/
theorem backV {p : Program} {l : Launch} {e : Env} {R : Room} {s : State} {args : Array Value} {below : List Frame} {len W : Nat} {Z : State} {a0 : Array Value} {h : Heap} (hZ : Z.Warmed39 s.vm) (hw : ∀ d ∈ words, d.before a0 Z = true) {kI : Nat} (wi : (Jvm.Cond.instantiable ST kI).before a0 Z = true)
    {x b : Addr} {kC : ClassId} {cs bs : List Int32} {d v0 c0 : Value} {z N : Int32} {n n0 : Nat} (hx0 : n0 ≤ x) (hh0 : n0 ≤ h.size) (E : RoadKit.Exa Z h x ST) (V : RoadKit.Fld Z h x ST "value" "[B" v0) (C : RoadKit.Fld Z h x ST "coder" "B" c0) (K : RoadKit.Arv Z h b kC .char N (cs.map Value.int) d) (S : RoadKit.Sta Z h ST "COMPACT_STRINGS" "Z" (.int z)) (hz : ¬ z = 0)
    (hn : cs.length = n) (hN : N = Int32.ofNat n) (l0 : 0 < n) (l2 : n ≤ 4000) (hp : ∀ c ∈ cs, ¬ c < 0 ∧ ¬ (255 : Int32) < c) (hb : bs = cs.map (fun c => c.toInt8.toInt32)) (hfr : 4 ≤ R.frames) (hlo : W + 65 ≤ R.locals) :
    Back l R p e below s args (⟨"java/lang/String", "<init>", "([C)V"⟩ : MethodName) len W (fun P a => a = #[.ref x, .ref b] ∧ P.U.heap = h ∧ P.cells + 1 ≤ R.cells ∧ P.slots + n ≤ R.slots)
      (fun P _ v B => ∃ L, QV Z x N bs h n0 v B.U.heap L ∧ B.locs = P.locs ++ L ∧ B.cells = P.cells + 1 ∧ B.slots = P.slots + n) := by
  subst hn hN hb
  refine Back.mono (backArv hZ hw wi E V C K S hz (n32 (by omega)) l0 (by omega) (fun c hc => (hp c hc).2) hfr hlo) (fun P a hp => hp) (fun P a v B hp hq => ?_)
  obtain ⟨L, ⟨q1, q2, q3, q4, q5, q6, q7, ⟨kb, v1, v2⟩, q9⟩, hl, hc, hs⟩ := hq
  exact ⟨L, ⟨q1, fun y hy => by rw [q2 y hy]; exact hx0, q3, q5, q7, h.size, kb, hh0, Nat.le_refl _, Nat.ne_of_gt E.lt, q6, by rw [List.map_map]; exact v2⟩, hl, hc, hs⟩
end StrChars.Road
namespace StrChars
open Jvm Sem ClassFile Op Lib Jvm.Stand Jvm.Free.XT Jvm.Free.ALB Jvm.Free.JM Jvm.Free
open Jvm.Lib.Cold (StaticIs)
def hi8 (x : Int32) : Int32 := lo8 (x >>> ((8 : Int32) &&& 31))
/-- what StringUTF16.getChar makes of two bytes -/
def pairCh (u v : Int32) : Int32 := (((u &&& 255) <<< ((0 : Int32) &&& 31)) ||| ((v &&& 255) <<< ((8 : Int32) &&& 31))).toUInt32.toUInt16.toUInt32.toInt32
theorem shr0 (c : Int32) : c >>> ((0 : Int32) &&& 31) = c := by
  have e : ((0 : Int32) &&& 31) = 0 := by decide
  rw [e]
  apply Int32.toBitVec_inj.mp
  rw [Int32.toBitVec_shiftRight]
  have e1 : ((0 : Int32).toBitVec.smod 32) = 0#32 := by decide
  rw [e1, BitVec.sshiftRight_eq']
  exact BitVec.sshiftRight_zero
theorem lo8_and (x : Int32) : (lo8 x &&& 255).toBitVec.toNat = x.toBitVec.toNat % 256 := by
  have h : (lo8 x).toBitVec = (x.toBitVec.signExtend 8).signExtend 32 := by rw [lo8, Int8.toBitVec_toInt32, Int32.toBitVec_toInt8]
  rw [Int32.toBitVec_and, BitVec.toNat_and, h]
  have e : ((x.toBitVec.signExtend 8).signExtend 32).toNat % 256 = x.toBitVec.toNat % 256 := by
    rw [BitVec.toNat_signExtend]
    have hlt := x.toBitVec.isLt
    simp only [BitVec.toNat_setWidth, BitVec.toNat_signExtend]
    split <;> split <;> omega
  rw [← e]
  exact Nat.and_two_pow_sub_one_eq_mod _ 8
theorem pair_says {c : Int32} (h0 : ¬ c < 0) (h1 : ¬ 65535 < c) : pairCh (lo8 c) (hi8 c) = c := by
  rw [Int32.lt_iff_toInt_lt] at h0 h1
  have e0 : (0 : Int32).toInt = 0 := rfl
  have e1 : (65535 : Int32).toInt = 65535 := rfl
  have hc : c.toInt = c.toBitVec.toNat := by
    have := c.toBitVec.isLt
    have e : c.toInt = c.toBitVec.toInt := rfl
    rw [e] at h0 h1
    rw [e]
    rw [BitVec.toInt_eq_toNat_cond] at h0 h1 ⊢
    split at h0 <;> split <;> omega
  have hn : c.toBitVec.toNat < 65536 := by omega
  have a1 := lo8_and c
  have a2 : (hi8 c &&& 255).toBitVec.toNat = c.toBitVec.toNat / 256 := by
    rw [hi8, lo8_and]
    have e : ((8 : Int32) &&& 31) = 8 := by decide
    rw [e, Int32.toBitVec_shiftRight]
    have e2 : ((8 : Int32).toBitVec.smod 32) = 8#32 := by decide
    rw [e2, BitVec.sshiftRight_eq', BitVec.toNat_sshiftRight_of_msb_false (by rw [BitVec.msb_eq_false_iff_two_mul_lt]; omega)]
    show c.toBitVec.toNat >>> 8 % 256 = _
    rw [Nat.shiftRight_eq_div_pow]
    omega
  unfold pairCh
  apply Int32.toBitVec_inj.mp
  apply BitVec.eq_of_toNat_eq
  have f0 : ((0 : Int32) &&& 31) = 0 := by decide
  have f8 : ((8 : Int32) &&& 31) = 8 := by decide
  rw [f0, f8]
  have g : (((lo8 c &&& 255) <<< (0 : Int32)) ||| ((hi8 c &&& 255) <<< (8 : Int32))).toBitVec.toNat = c.toBitVec.toNat := by
    rw [Int32.toBitVec_or, Int32.toBitVec_shiftLeft, Int32.toBitVec_shiftLeft]
    have s0 : ((0 : Int32).toBitVec.smod 32) = 0#32 := by decide
    have s8 : ((8 : Int32).toBitVec.smod 32) = 8#32 := by decide
    rw [s0, s8, BitVec.toNat_or]
    simp only [BitVec.shiftLeft_eq', BitVec.toNat_shiftLeft, a1, a2]
    show (c.toBitVec.toNat % 256) <<< 0 % 2 ^ 32 ||| (c.toBitVec.toNat / 256) <<< 8 % 2 ^ 32 = _
    rw [Nat.shiftLeft_zero, Nat.mod_eq_of_lt (show c.toBitVec.toNat % 256 < 2 ^ 32 by omega), Nat.mod_eq_of_lt (show (c.toBitVec.toNat / 256) <<< 8 < 2 ^ 32 by rw [Nat.shiftLeft_eq]; omega), Nat.or_comm, ← Nat.shiftLeft_add_eq_or_of_lt (by omega), Nat.shiftLeft_eq]
    omega
  show BitVec.toNat (((((lo8 c &&& 255) <<< (0 : Int32)) ||| ((hi8 c &&& 255) <<< (8 : Int32))).toBitVec.setWidth 16).setWidth 32) = _
  rw [BitVec.toNat_setWidth, BitVec.toNat_setWidth, g]
  omega
end StrChars
namespace StrChars
open Jvm Sem ClassFile Op Lib Jvm.Stand Jvm.Free.XT Jvm.Free.ALB Jvm.Free.JM Jvm.Free
open Jvm.Lib.Cold (StaticIs)
theorem shr1 {n : Nat} (h : 2 * n < 2 ^ 31) : Int32.ofNat (2 * n) >>> ((1 : Int32) &&& 31) = Int32.ofNat n := by
  have e : ((1 : Int32) &&& 31) = 1 := by decide
  rw [e]
  apply Int32.toBitVec_inj.mp
  rw [Int32.toBitVec_shiftRight]
  have e1 : ((1 : Int32).toBitVec.smod 32) = 1#32 := by decide
  have hm : (BitVec.ofNat 32 (2 * n)).toNat = 2 * n := by rw [BitVec.toNat_ofNat, Nat.mod_eq_of_lt (by omega)]
  rw [e1, BitVec.sshiftRight_eq']
  apply BitVec.eq_of_toNat_eq
  show ((BitVec.ofNat 32 (2 * n)).sshiftRight 1).toNat = (BitVec.ofNat 32 n).toNat
  rw [BitVec.toNat_sshiftRight_of_msb_false (by rw [BitVec.msb_eq_false_iff_two_mul_lt, hm]; omega), hm, BitVec.toNat_ofNat, Nat.shiftRight_eq_div_pow]
  omega
/-- charAt's cast of a byte read back -/
def chr8 (u : Int32) : Int32 := (u &&& 255).toUInt32.toUInt16.toUInt32.toInt32
theorem chr8_lo8 {c : Int32} (h0 : ¬ c < 0) (h1 : ¬ 255 < c) : chr8 (lo8 c) = c := by
  have t : ∀ k : Fin 256, (Int32.ofNat k.val).toUInt32.toUInt16.toUInt32.toInt32 = Int32.ofNat k.val := by decide +kernel
  unfold chr8
  rw [lo8_mask h0 h1]
  rw [Int32.lt_iff_toInt_lt] at h0 h1
  have e0 : (0 : Int32).toInt = 0 := rfl
  have e1 : (255 : Int32).toInt = 255 := rfl
  obtain ⟨k, hk⟩ : ∃ k : Nat, c.toInt = k := ⟨c.toInt.toNat, by omega⟩
  have hx : c = Int32.ofNat k := Int32.toInt_inj.mp (by rw [hk, Int32.toInt_ofNat_small (by omega)])
  rw [hx]
  exact t ⟨k, by omega⟩
theorem narrow_ch {c : Int32} (h0 : ¬ c < 0) (h1 : ¬ 65535 < c) : narrow .char (.int c) = .int c := by
  have q : narrow .char (.int (pairCh (lo8 c) (hi8 c))) = .int (pairCh (lo8 c) (hi8 c)) := narrow_c _
  rwa [pair_says h0 h1] at q
/-- the array's cell V codes the n chars f 0 .. f (n - 1) by the coder cd, as the JDK does: coder 1 just where some char is above 255 -/
def Cod (cd : Int32) (n : Nat) (f : Nat → Int32) (V : Cell) : Prop := (cd = 0 ∧ V.slots.size = n ∧ ∀ j, j < n → V.slots[j]? = some (.int (lo8 (f j))) ∧ ¬ 255 < f j) ∨ (cd = 1 ∧ V.slots.size = 2 * n ∧ (∀ j, j < n → V.slots[2 * j]? = some (.int (lo8 (f j))) ∧ V.slots[2 * j + 1]? = some (.int (hi8 (f j)))) ∧ ∃ j, j < n ∧ 255 < f j)
theorem Cod.cd {cd : Int32} {n : Nat} {f : Nat → Int32} {V : Cell} (h : Cod cd n f V) : cd = 0 ∨ cd = 1 := h.imp (fun q => q.1) fun q => q.1
theorem Cod.len {cd : Int32} {n : Nat} {f : Nat → Int32} {V : Cell} (h : Cod cd n f V) (hs : V.slots.size < 2 ^ 31) : Int32.ofNat V.slots.size >>> (cd &&& 31) = Int32.ofNat n := by
  rcases h with ⟨rfl, h, -⟩ | ⟨rfl, h, -⟩
  · rw [shr0, h]
  · rw [h, shr1 (by omega)]
/-- **x is a String of the n chars f 0 .. f (n - 1)**, Latin-1 or UTF-16; its array at t has the cell V -/
def Txt (x t : Addr) (V : Cell) (cd : Int32) (n : Nat) (f : Nat → Int32) (U : State) : Prop := Exact "java/lang/String" x U ∧ Has x "java/lang/String" "value" "[B" (.ref t) U ∧ Has x "java/lang/String" "coder" "B" (.int cd) U ∧ XT.Arr .byte t V U ∧ Cod cd n f V ∧ ∀ j, j < n → ¬ f j < 0 ∧ ¬ 65535 < f j
theorem Txt.mv {x t : Addr} {V : Cell} {cd : Int32} {n : Nat} {f : Nat → Int32} {U U' : State} (h : Txt x t V cd n f U) (hal : U.vm.Alike U'.vm) (hh : U'.heap = U.heap) : Txt x t V cd n f U' := ⟨h.1.mv hal hh, h.2.1.mv hal hh, h.2.2.1.mv hal hh, h.2.2.2.1.mv hal hh, h.2.2.2.2⟩
namespace Cdr
def yN : MethodName := ⟨"java/lang/String", "coder", "()B"⟩
abbrev yB : ByteArray := jdk_42_method_152_code
theorem d0 : decode yB 0 = .ok (.getstatic 38, 3) := by decide +kernel
theorem d3 : decode yB 3 = .ok (.ifCond (.eq) 10, 3) := by decide +kernel
theorem d6 : decode yB 6 = .ok (.aload_n 0, 1) := by decide +kernel
theorem d7 : decode yB 7 = .ok (.getfield 15, 3) := by decide +kernel
theorem d10 : decode yB 10 = .ok (.goto 4, 3) := by decide +kernel
theorem d14 : decode yB 14 = .ok (.ireturn, 1) := by decide +kernel
def site : List Cond := [.fieldLink "java/lang/String" 38 "java/lang/String" "COMPACT_STRINGS" "Z", .fieldLink "java/lang/String" 15 "java/lang/String" "coder" "B"]
def tab : Cond := tabOf yN yB 1 (some .byte) site
def P (x : Addr) (cd z : Int32) (args : Array Value) (s : State) : Prop := args = #[.ref x] ∧ Has x "java/lang/String" "coder" "B" (.int cd) s ∧ (cd = 0 ∨ cd = 1) ∧ StaticIs s "java/lang/String" "COMPACT_STRINGS" "Z" (.int z) ∧ ¬ z = 0
def E (cd : Int32) (r : Option Value) (s u : State) : Prop := XT.PureE (some (.int cd)) r s u
theorem law (l : Launch) (x : Addr) (cd z : Int32) : Law l yN 1 0 0 0 yB 1 (some .byte) site (P x cd z) (E cd) [] 0 0 := by
  refine Law.of_walk (plainFor_of_name (by decide +kernel)) (by decide +kernel) (by decide +kernel) (by decide) (fun _ _ h => by rw [h.1]; rfl) (fun _ U U' hal hh h => ⟨h.1, h.2.1.mv hal hh, h.2.2.1, h.2.2.2.1.there hal hh, h.2.2.2.2⟩) (fun r U U' V V' h1 hal h2 h => XT.PureE.mv r U U' V V' h1 hal h2 h) ?_
  intro p e s m args below meth c s₁ X0 hexec hbytes hml hret hlk hnm hown hh0 W hP
  obtain ⟨rfl, hx, hc, s1, hz⟩ := hP
  have c1 : Steps p.tables e below (s₁.setTop (entryFrame m #[.ref x] 1)) (s₁.setTop (mkF m 0 #[.val (.ref x)] [])) := entry rfl
  obtain ⟨T2, X2, q2, st2⟩ := X0.sget hexec hown (wk W (.fieldLink "java/lang/String" 38 "java/lang/String" "COMPACT_STRINGS" "Z")) s1 (fun _ _ h => by rw [hh0]; exact h) (g := (mkF m 0 #[.val (.ref x)] [])) rfl (hb hbytes d0)
  have hh2 := q2.trans hh0
  have c3 : Steps p.tables e below (s₁.setTop (entryFrame m #[.ref x] 1)) (T2.setTop (mkF m 7 #[.val (.ref x)] [.ref x])) := (c1.trans (st2 _ (Steps.refl _))).trans (by
    refine XS.ifNo X2.here hexec rfl (hb hbytes d3) rfl (i0_eq_f hz) ?_
    refine XS.aloadN X2.here hexec rfl (hb hbytes d6) rfl rfl ?_
    exact Steps.refl _)
  obtain ⟨T4, X4, q4, st4⟩ := X2.hget hexec hown (wk W (.fieldLink "java/lang/String" 15 "java/lang/String" "coder" "B")) (hx.mv X2.warmed.alike hh2) (g := (mkF m 7 #[.val (.ref x)] [.ref x])) rfl (rest := []) rfl (hb hbytes d7)
  have c5 : Steps p.tables e below (s₁.setTop (entryFrame m #[.ref x] 1)) (T4.setTop (mkF m 14 #[.val (.ref x)] [.int cd])) := (c3.trans (st4 _ (Steps.refl _))).trans (by
    refine XS.goto X4.here hexec rfl (pc0 := 10) rfl (hb hbytes d10) (by decide) rfl ?_
    exact Steps.refl _)
  exact ⟨T4, some (.int cd), _, _, _, X4, rfl, rfl, rfl, (fun h => by cases h), ⟨rfl, q4.trans hh2⟩, fun fs hl => c5.trans (X4.ireturnOut hexec hret (by rcases hc with rfl | rfl <;> rfl) (Or.inr (Or.inr (Or.inl rfl))) (hb hbytes d14) hl)⟩
end Cdr
namespace Len
def yN : MethodName := ⟨"java/lang/String", "length", "()I"⟩
abbrev yB : ByteArray := jdk_42_method_54_code
theorem d0 : decode yB 0 = .ok (.aload_n 0, 1) := by decide +kernel
theorem d1 : decode yB 1 = .ok (.getfield 9, 3) := by decide +kernel
theorem d4 : decode yB 4 = .ok (.arraylength, 1) := by decide +kernel
theorem d5 : decode yB 5 = .ok (.aload_n 0, 1) := by decide +kernel
theorem d6 : decode yB 6 = .ok (.invokevirtual 335, 3) := by decide +kernel
theorem d9 : decode yB 9 = .ok (.ishr, 1) := by decide +kernel
theorem d10 : decode yB 10 = .ok (.ireturn, 1) := by decide +kernel
def site : List Cond := [.fieldLink "java/lang/String" 9 "java/lang/String" "value" "[B", Cdr.tab] ++ virtW "java/lang/String" 335 "java/lang/String" Cdr.yN Cdr.yN
def tab : Cond := tabOf yN yB 1 (some .int) site
def P (x t : Addr) (V : Cell) (cd : Int32) (n : Nat) (f : Nat → Int32) (z : Int32) (args : Array Value) (s : State) : Prop := args = #[.ref x] ∧ Txt x t V cd n f s ∧ StaticIs s "java/lang/String" "COMPACT_STRINGS" "Z" (.int z) ∧ ¬ z = 0
def E (n : Nat) (r : Option Value) (s u : State) : Prop := XT.PureE (some (.int (Int32.ofNat n))) r s u
/-- length() of a String of n chars, in either coding -/
theorem law (l : Launch) (x t : Addr) (V : Cell) (cd : Int32) (n : Nat) (f : Nat → Int32) (z : Int32) : Law l yN 1 0 1 13 yB 1 (some .int) site (P x t V cd n f z) (E n) [] 0 0 := by
  refine Law.of_walk (plainFor_of_name (by decide +kernel)) (by decide +kernel) (by decide +kernel) (by decide) (fun _ _ h => by rw [h.1]; rfl) (fun _ U U' hal hh h => ⟨h.1, h.2.1.mv hal hh, h.2.2.1.there hal hh, h.2.2.2⟩) (fun r U U' V V' h1 hal h2 h => XT.PureE.mv r U U' V V' h1 hal h2 h) ?_
  intro p e s m args below meth c s₁ X0 hexec hbytes hml hret hlk hnm hown hh0 W hP
  obtain ⟨rfl, hx, s1, hz⟩ := hP
  have v31 := hx.2.2.2.1.2.2.2
  have c1 : Steps p.tables e below (s₁.setTop (entryFrame m #[.ref x] 1)) (s₁.setTop (mkF m 1 #[.val (.ref x)] [.ref x])) := Steps.trans (entry rfl) (by
    show Steps p.tables e below (s₁.setTop (mkF m 0 #[.val (.ref x)] [])) _
    refine XS.aloadN X0.here hexec rfl (hb hbytes d0) rfl rfl ?_
    exact Steps.refl _)
  obtain ⟨T2, X2, q2, st2⟩ := X0.hget hexec hown (wk W (.fieldLink "java/lang/String" 9 "java/lang/String" "value" "[B")) (hx.mv X0.warmed.alike hh0).2.1 (g := (mkF m 1 #[.val (.ref x)] [.ref x])) rfl (rest := []) rfl (hb hbytes d1)
  have hh2 := q2.trans hh0
  have hx2 := hx.mv X2.warmed.alike hh2
  have c3 : Steps p.tables e below (s₁.setTop (entryFrame m #[.ref x] 1)) (T2.setTop (mkF m 6 #[.val (.ref x)] [.ref x, .int (Int32.ofNat V.slots.size)])) := (c1.trans (st2 _ (Steps.refl _))).trans (by
    refine X2.alen hexec hx2.2.2.2.1 rfl rfl (hb hbytes d4) ?_
    refine XS.aloadN X2.here hexec rfl (hb hbytes d5) rfl rfl ?_
    exact Steps.refl _)
  obtain ⟨v4, T4, X4, E4, g4⟩ := X2.callV hexec (Cdr.law l x cd z) hown (wks W (virtW "java/lang/String" 335 "java/lang/String" Cdr.yN Cdr.yN)) rfl (by decide) (wk W Cdr.tab) (W := 1) (Nat.le_of_ble_eq_true rfl) (Nat.le_of_ble_eq_true rfl) (Nat.le_refl _) (Nat.le_refl _) (hx2.1.fc X2.warmed.alike) hx2.1.is (g := (mkF m 6 #[.val (.ref x)] [.ref x, .int (Int32.ofNat V.slots.size)])) rfl (by rw [hml]; rfl) c3 (argsL := []) (rest := [.int (Int32.ofNat V.slots.size)]) rfl rfl (by show 2 * 0 + (1 + 0) ≤ _; decide) (hb hbytes d6) (⟨rfl, hx2.2.2.1, hx.2.2.2.2.1.cd, s1.there X2.warmed.alike hh2, hz⟩)
  obtain ⟨rfl, q4⟩ := E4
  have c5 : Steps p.tables e below (s₁.setTop (entryFrame m #[.ref x] 1)) (T4.setTop (mkF m 10 #[.val (.ref x)] [.int (Int32.ofNat V.slots.size >>> (cd &&& 31))])) := Steps.trans g4 (by
    refine ishr X4.here hexec rfl (hb hbytes d9) rfl ?_
    exact Steps.refl _)
  rw [hx.2.2.2.2.1.len v31] at c5
  exact ⟨T4, some (.int (Int32.ofNat n)), _, _, _, X4, rfl, rfl, rfl, (fun h => by cases h), ⟨rfl, q4.trans hh2⟩, fun fs hl => c5.trans (X4.ireturnOut hexec hret rfl (Or.inl rfl) (hb hbytes d10) hl)⟩
theorem pays {l : Launch} {R : Room} {p : Program} {e : Env} {below : List Frame} {s : State} {sargs : Array Value} {len W : Nat} (x t : Addr) (V : Cell) (cd : Int32) (n : Nat) (f : Nat → Int32) (z : Int32) (htab : tab.before sargs s = true) (hfr : 2 ≤ R.frames) (hlo : W + 25 ≤ R.locals) :
    Back l R p e below s sargs yN len W (fun A₁ a₁ => A₁.cells + 0 ≤ R.cells ∧ A₁.slots + 0 ≤ R.slots ∧ P x t V cd n f z a₁ A₁.U) (fun A₁ _ v₁ B₁ => E n v₁ A₁.U B₁.U ∧ B₁.locs = A₁.locs ++ [] ∧ B₁.cells = A₁.cells + 0 ∧ B₁.slots = A₁.slots + 0) :=
  (law l x t V cd n f z).pays htab hfr (by omega)
end Len
namespace IsL
def yN : MethodName := ⟨"java/lang/String", "isLatin1", "()Z"⟩
abbrev yB : ByteArray := jdk_42_method_154_code
theorem d0 : decode yB 0 = .ok (.getstatic 38, 3) := by decide +kernel
theorem d3 : decode yB 3 = .ok (.ifCond (.eq) 14, 3) := by decide +kernel
theorem d6 : decode yB 6 = .ok (.aload_n 0, 1) := by decide +kernel
theorem d7 : decode yB 7 = .ok (.getfield 15, 3) := by decide +kernel
theorem d10 : decode yB 10 = .ok (.ifCond (.ne) 7, 3) := by decide +kernel
theorem d13 : decode yB 13 = .ok (.iconst 1, 1) := by decide +kernel
theorem d14 : decode yB 14 = .ok (.goto 4, 3) := by decide +kernel
theorem d17 : decode yB 17 = .ok (.iconst 0, 1) := by decide +kernel
theorem d18 : decode yB 18 = .ok (.ireturn, 1) := by decide +kernel
def site : List Cond := [.fieldLink "java/lang/String" 38 "java/lang/String" "COMPACT_STRINGS" "Z", .fieldLink "java/lang/String" 15 "java/lang/String" "coder" "B"]
def tab : Cond := tabOf yN yB 1 (some .boolean) site
def P (x : Addr) (cd z : Int32) (args : Array Value) (s : State) : Prop := args = #[.ref x] ∧ Has x "java/lang/String" "coder" "B" (.int cd) s ∧ (cd = 0 ∨ cd = 1) ∧ StaticIs s "java/lang/String" "COMPACT_STRINGS" "Z" (.int z) ∧ ¬ z = 0
def E (cd : Int32) (r : Option Value) (s u : State) : Prop := XT.PureE (some (.int (1 - cd))) r s u
theorem law (l : Launch) (x : Addr) (cd z : Int32) : Law l yN 1 0 0 0 yB 1 (some .boolean) site (P x cd z) (E cd) [] 0 0 := by
  refine Law.of_walk (plainFor_of_name (by decide +kernel)) (by decide +kernel) (by decide +kernel) (by decide) (fun _ _ h => by rw [h.1]; rfl) (fun _ U U' hal hh h => ⟨h.1, h.2.1.mv hal hh, h.2.2.1, h.2.2.2.1.there hal hh, h.2.2.2.2⟩) (fun r U U' V V' h1 hal h2 h => XT.PureE.mv r U U' V V' h1 hal h2 h) ?_
  intro p e s m args below meth c s₁ X0 hexec hbytes hml hret hlk hnm hown hh0 W hP
  obtain ⟨rfl, hx, hc, s1, hz⟩ := hP
  have c1 : Steps p.tables e below (s₁.setTop (entryFrame m #[.ref x] 1)) (s₁.setTop (mkF m 0 #[.val (.ref x)] [])) := entry rfl
  obtain ⟨T2, X2, q2, st2⟩ := X0.sget hexec hown (wk W (.fieldLink "java/lang/String" 38 "java/lang/String" "COMPACT_STRINGS" "Z")) s1 (fun _ _ h => by rw [hh0]; exact h) (g := (mkF m 0 #[.val (.ref x)] [])) rfl (hb hbytes d0)
  have hh2 := q2.trans hh0
  have c3 : Steps p.tables e below (s₁.setTop (entryFrame m #[.ref x] 1)) (T2.setTop (mkF m 7 #[.val (.ref x)] [.ref x])) := (c1.trans (st2 _ (Steps.refl _))).trans (by
    refine XS.ifNo X2.here hexec rfl (hb hbytes d3) rfl (i0_eq_f hz) ?_
    refine XS.aloadN X2.here hexec rfl (hb hbytes d6) rfl rfl ?_
    exact Steps.refl _)
  obtain ⟨T4, X4, q4, st4⟩ := X2.hget hexec hown (wk W (.fieldLink "java/lang/String" 15 "java/lang/String" "coder" "B")) (hx.mv X2.warmed.alike hh2) (g := (mkF m 7 #[.val (.ref x)] [.ref x])) rfl (rest := []) rfl (hb hbytes d7)
  have c5 : Steps p.tables e below (s₁.setTop (entryFrame m #[.ref x] 1)) (T4.setTop (mkF m 10 #[.val (.ref x)] [.int cd])) := c3.trans (st4 _ (Steps.refl _))
  have c6 : Steps p.tables e below (s₁.setTop (entryFrame m #[.ref x] 1)) (T4.setTop (mkF m 18 #[.val (.ref x)] [.int (1 - cd)])) := by
    rcases hc with rfl | rfl
    · exact c5.trans (by
        refine XS.ifNo X4.here hexec rfl (hb hbytes d10) rfl (i0_ne_f rfl) ?_
        refine iconstV X4.here hexec rfl 1 (hb hbytes d13) (by decide) ?_
        refine XS.goto X4.here hexec rfl (pc0 := 14) rfl (hb hbytes d14) (by decide) rfl ?_
        exact Steps.refl _)
    · exact c5.trans (by
        refine XS.ifYes X4.here hexec rfl (pc0 := 10) rfl (hb hbytes d10) rfl (i0_ne_t (by decide)) (by decide) rfl ?_
        refine iconstV X4.here hexec rfl 0 (hb hbytes d17) (by decide) ?_
        exact Steps.refl _)
  exact ⟨T4, some (.int (1 - cd)), _, _, _, X4, rfl, rfl, rfl, (fun h => by cases h), ⟨rfl, q4.trans hh2⟩, fun fs hl => c6.trans (X4.ireturnOut hexec hret (by rcases hc with rfl | rfl <;> rfl) (Or.inr (Or.inl rfl)) (hb hbytes d18) hl)⟩
end IsL
namespace LChA
def yN : MethodName := ⟨"java/lang/StringLatin1", "charAt", "([BI)C"⟩
abbrev yB : ByteArray := jdk_43_method_2_code
theorem d0 : decode yB 0 = .ok (.iload_n 1, 1) := by decide +kernel
theorem d1 : decode yB 1 = .ok (.aload_n 0, 1) := by decide +kernel
theorem d2 : decode yB 2 = .ok (.arraylength, 1) := by decide +kernel
theorem d3 : decode yB 3 = .ok (.invokestatic 9, 3) := by decide +kernel
theorem d6 : decode yB 6 = .ok (.aload_n 0, 1) := by decide +kernel
theorem d7 : decode yB 7 = .ok (.iload_n 1, 1) := by decide +kernel
theorem d8 : decode yB 8 = .ok (.baload, 1) := by decide +kernel
theorem d9 : decode yB 9 = .ok (.sipush 255, 3) := by decide +kernel
theorem d12 : decode yB 12 = .ok (.iand, 1) := by decide +kernel
theorem d13 : decode yB 13 = .ok (.i2c, 1) := by decide +kernel
theorem d14 : decode yB 14 = .ok (.ireturn, 1) := by decide +kernel
def site : List Cond := [JO.Str_checkIndex.tab] ++ staticW "java/lang/StringLatin1" 9 JO.Str_checkIndex.yN
def tab : Cond := tabOf yN yB 2 (some .char) site
def P (t : Addr) (V : Cell) (i : Nat) (u : Int32) (fm : Value) (args : Array Value) (s : State) : Prop := args = #[.ref t, .int (Int32.ofNat i)] ∧ XT.Arr .byte t V s ∧ V.slots[i]? = some (.int u) ∧ (StaticIs s "jdk/internal/util/Preconditions" "SIOOBE_FORMATTER" "Ljava/util/function/BiFunction;" fm ∧ fm.isRef = true)
def E (u : Int32) (r : Option Value) (s w : State) : Prop := XT.PureE (some (.int (chr8 u))) r s w
theorem law (l : Launch) (t : Addr) (V : Cell) (i : Nat) (u : Int32) (fm : Value) : Law l yN 2 2 2 27 yB 2 (some .char) site (P t V i u fm) (E u) [] 0 0 := by
  refine Law.of_walk (plainFor_of_name (by decide +kernel)) (by decide +kernel) (by decide +kernel) (by decide) (fun _ _ h => by rw [h.1]; rfl) (fun _ U U' hal hh h => ⟨h.1, h.2.1.mv hal hh, h.2.2.1, h.2.2.2.1.there hal hh, h.2.2.2.2⟩) (fun r U U' V V' h1 hal h2 h => XT.PureE.mv r U U' V V' h1 hal h2 h) ?_
  intro p e s m args below meth c s₁ X0 hexec hbytes hml hret hlk hnm hown hh0 W hP
  obtain ⟨rfl, hV, hu, s1, rf⟩ := hP
  have v31 := hV.2.2.2
  have hi : i < V.slots.size := (Array.getElem?_eq_some_iff.mp hu).1
  have c1 : Steps p.tables e below (s₁.setTop (entryFrame m #[.ref t, .int (Int32.ofNat i)] 2)) (s₁.setTop (mkF m 0 #[.val (.ref t), .val (.int (Int32.ofNat i))] [])) := entry rfl
  have c2 : Steps p.tables e below (s₁.setTop (entryFrame m #[.ref t, .int (Int32.ofNat i)] 2)) (s₁.setTop (mkF m 3 #[.val (.ref t), .val (.int (Int32.ofNat i))] [.int (Int32.ofNat V.slots.size), .int (Int32.ofNat i)])) := c1.trans (by
    refine XS.iloadN X0.here hexec rfl (hb hbytes d0) rfl ?_
    refine XS.aloadN X0.here hexec rfl (hb hbytes d1) rfl rfl ?_
    refine X0.alen hexec (hV.mv X0.warmed.alike hh0) rfl rfl (hb hbytes d2) ?_
    exact Steps.refl _)
  obtain ⟨v3, T3, X3, E3, g3⟩ := X0.callS hexec (JO.Str_checkIndex.law l (Int32.ofNat i) (Int32.ofNat V.slots.size) fm) hown (wks W (staticW "java/lang/StringLatin1" 9 JO.Str_checkIndex.yN)) (wk W JO.Str_checkIndex.tab) (W := 0) (Nat.le_of_ble_eq_true rfl) (Nat.le_of_ble_eq_true rfl) (Nat.le_refl _) (Nat.le_refl _) (g := (mkF m 3 #[.val (.ref t), .val (.int (Int32.ofNat i))] [.int (Int32.ofNat V.slots.size), .int (Int32.ofNat i)])) rfl (by rw [hml]; rfl) c2 (argsL := [.int (Int32.ofNat i), .int (Int32.ofNat V.slots.size)]) (rest := []) rfl rfl (by show 2 * 0 + 0 ≤ _; decide) (hb hbytes d3) (⟨rfl, rf, s1.there X0.warmed.alike hh0, Int32.ofNat_not_neg (by omega), lt32 v31 hi⟩)
  obtain ⟨rfl, q3⟩ := E3
  have hh3 := q3.trans hh0
  have c4 : Steps p.tables e below (s₁.setTop (entryFrame m #[.ref t, .int (Int32.ofNat i)] 2)) (T3.setTop (mkF m 14 #[.val (.ref t), .val (.int (Int32.ofNat i))] [.int (chr8 u)])) := Steps.trans g3 (by
    refine XS.aloadN X3.here hexec rfl (hb hbytes d6) rfl rfl ?_
    refine XS.iloadN X3.here hexec rfl (hb hbytes d7) rfl ?_
    refine X3.aget hexec (hV.mv X3.warmed.alike hh3) rfl hu rfl rfl (hb hbytes d8) ?_
    refine sipushV X3.here hexec rfl 255 (hb hbytes d9) (by decide) ?_
    refine XS.iand X3.here hexec rfl (hb hbytes d12) rfl ?_
    refine i2c X3.here hexec rfl (hb hbytes d13) rfl ?_
    exact Steps.refl _)
  exact ⟨T3, some (.int (chr8 u)), _, _, _, X3, rfl, rfl, rfl, (fun h => by cases h), ⟨rfl, hh3⟩, fun fs hl => c4.trans (X3.ireturnOut hexec hret (narrow_c _) (Or.inr (Or.inr (Or.inr (Or.inl rfl)))) (hb hbytes d14) hl)⟩
end LChA
end StrChars
namespace StrChars.Road
open Jvm Sem ClassFile Op Lib Jvm.Stand Jvm.Free Jvm.Free.XT
open Jvm.Lib.Cold (StaticIs)
theorem consq {a : Array Value} {s : State} {c : Jvm.Cond} {L : List Jvm.Cond} (h0 : c.before a s = true) (h : ∀ w ∈ L, w.before a s = true) : ∀ w ∈ c :: L, w.before a s = true := fun w hw => (List.mem_cons.mp hw).elim (fun e => e ▸ h0) (h w)
/-- the words of String.length(), either coding -/
abbrev wordsLen : List Jvm.Cond := [.code Len.yN Len.yB 1 (some .int), .initialized ST, .fieldLink ST 9 ST "value" "[B", .fieldLink ST 38 ST "COMPACT_STRINGS" "Z", .fieldLink ST 15 ST "coder" "B", .code Cdr.yN Cdr.yB 1 (some .byte), .methodLink ST 335 Cdr.yN, .declares Cdr.yN, .selects ST Cdr.yN Cdr.yN, .instanceMethod Cdr.yN]
theorem tabLen_of {a : Array Value} {s : State} (h : ∀ w ∈ wordsLen, w.before a s = true) : Len.tab.before a s = true := by
  have hc : Cdr.tab.before a s = true := unparts (wk h (.code Cdr.yN Cdr.yB 1 (some .byte))) (wks h (.initialized Cdr.yN.cls :: Cdr.site))
  have q := consq hc h
  exact unparts (wk q (.code Len.yN Len.yB 1 (some .int))) (wks q (.initialized Len.yN.cls :: Len.site))
theorem movedLen {Z s : State} {a0 args : Array Value} (hZ : Z.Warmed39 s.vm) (hw : ∀ d ∈ wordsLen, d.before a0 Z = true) : ∀ d ∈ wordsLen, d.before args s = true := fun d hd => by
  have q := hw d hd
  have t : ∀ d ∈ wordsLen, d = .arrayClass .byte ∨ (d.onTables && d.keepsFace) = true := by decide +kernel
  rcases t d hd with rfl | t
  · exact RoadKit.mvA hZ q
  · exact RoadKit.mv hZ q t
/-- the bytes of the chars cs, low before high -/
def wideBytes : List Int32 → List Value
  | [] => []
  | c :: cs => .int (lo8 c) :: .int (hi8 c) :: wideBytes cs
theorem wide_lo (d : Value) : ∀ (cs : List Int32) (j : Nat), j < cs.length → (wideBytes cs).getD (2 * j) d = .int (lo8 (cs.getD j 0))
  | [], j, h => absurd h (Nat.not_lt_zero j)
  | c :: cs, 0, _ => rfl
  | c :: cs, j + 1, h => by
    have q := wide_lo d cs j (by simpa using h)
    rw [show 2 * (j + 1) = 2 * j + 1 + 1 from by omega]
    simpa [wideBytes] using q
theorem wide_hi (d : Value) : ∀ (cs : List Int32) (j : Nat), j < cs.length → (wideBytes cs).getD (2 * j + 1) d = .int (hi8 (cs.getD j 0))
  | [], j, h => absurd h (Nat.not_lt_zero j)
  | c :: cs, 0, _ => rfl
  | c :: cs, j + 1, h => by
    have q := wide_hi d cs j (by simpa using h)
    rw [show 2 * (j + 1) + 1 = 2 * j + 1 + 1 + 1 from by omega]
    simpa [wideBytes] using q
theorem low_at (d : Value) (cs : List Int32) (j : Nat) (h : j < cs.length) : (cs.map fun c => Value.int (lo8 c)).getD j d = .int (lo8 (cs.getD j 0)) := by
  simp [List.getD_eq_getElem?_getD, h]
/-- an array of N2 bytes vs codes the chars cs by the coder cd -/
def CodA (cs : List Int32) (cd N2 : Int32) (vs : List Value) : Prop := (cd = 0 ∧ N2 = Int32.ofNat cs.length ∧ vs = (cs.map fun c => Value.int (lo8 c)) ∧ ∀ c ∈ cs, ¬ 255 < c) ∨ (cd = 1 ∧ N2 = Int32.ofNat (2 * cs.length) ∧ vs = wideBytes cs ∧ ∃ c ∈ cs, 255 < c)
theorem CodA.cod {cs : List Int32} {cd N2 : Int32} {vs : List Value} {V : Cell} (h : CodA cs cd N2 vs) (hn : 2 * cs.length < 2 ^ 31) (hs : V.slots.size = N2.toNatClampNeg) (hv : RoadKit.Has V vs (.int 0)) : Cod cd cs.length (fun j => cs.getD j 0) V := by
  rcases h with ⟨rfl, rfl, rfl, h⟩ | ⟨rfl, rfl, rfl, c, hc, hw⟩
  · rw [n32 (by omega)] at hs
    exact Or.inl ⟨rfl, hs, fun j hj => ⟨by rw [hv j (by omega), low_at _ _ _ hj], by
      have e : cs.getD j 0 = cs[j] := by simp [List.getD_eq_getElem?_getD, hj]
      show ¬ 255 < cs.getD j 0
      rw [e]; exact h _ (List.getElem_mem _)⟩⟩
  · rw [n32 (by omega)] at hs
    obtain ⟨j, hj, rfl⟩ := List.getElem_of_mem hc
    exact Or.inr ⟨rfl, hs, fun j hj => ⟨by rw [hv _ (by omega), wide_lo _ _ _ hj], by rw [hv _ (by omega), wide_hi _ _ _ hj]⟩, j, hj, by
      have e : cs.getD j 0 = cs[j] := by simp [List.getD_eq_getElem?_getD, hj]
      show 255 < cs.getD j 0
      rw [e]; exact hw⟩
/-- an object of exactly java/lang/String, its two fields found: as the laws ask it -/
theorem strObj {Z U : State} {a0 : Array Value} {kI : Nat} (wi : (Jvm.Cond.instantiable ST kI).before a0 Z = true) (al : Z.vm.Alike U.vm) {x : Addr} {v0 c0 : Value} (E : RoadKit.Exa Z U.heap x ST) (V : RoadKit.Fld Z U.heap x ST "value" "[B" v0) (C : RoadKit.Fld Z U.heap x ST "coder" "B" c0) :
    ∃ (D : Cell) (fV fC : Field), Blank ST x D U ∧ Found ST "value" "[B" fV U ∧ Found ST "coder" "B" fC U ∧ D.slots[fV.slot]? = some v0 ∧ D.slots[fC.slot]? = some c0 ∧ RoadKit.slotOf Z ST "value" "[B" = fV.slot ∧ RoadKit.slotOf Z ST "coder" "B" = fC.slot := by
  obtain ⟨D, cfV, kV, iV, fV, hD, gV, stV, knV, obV, asV, slV⟩ := V
  obtain ⟨D', cfC, kC, iC, fC, hD', gC, stC, -, -, asC, slC⟩ := C
  cases hD.symm.trans hD'
  obtain ⟨D2, kD, e1, e2, e3, e4, e5⟩ := E
  cases hD.symm.trans e1
  obtain ⟨c2, k2, i1, i2, i3, -⟩ := Cond.instantiable_spec wi
  cases e2.symm.trans i1
  cases e3.symm.trans i2
  obtain ⟨kU, u1, u2⟩ := al.2.2 _ _ e3
  exact ⟨D, fV, fC, ⟨hD, ⟨knV, fun q hq => by rw [hq] at obV; cases obV⟩, by rw [al.findClass]; exact e2, kU, u1, by rw [u2]; exact i3, by rw [u2]; exact e5 i3⟩, ⟨SBG.found_only al ⟨cfV, kV, iV, gV⟩, stV⟩, ⟨SBG.found_only al ⟨cfC, kC, iC, gC⟩, stC⟩, slV, slC, by simp [RoadKit.slotOf, gV], by simp [RoadKit.slotOf, gC]⟩
theorem sta_is {Z U : State} (al : Z.vm.Alike U.vm) {C n d : String} {v : Value} (S : RoadKit.Sta Z U.heap C n d v) : StaticIs U C n d v := by
  obtain ⟨cfS, iS, kS, fS, st, cS, t1, t2, t3, t4, t5, t6, t7⟩ := S
  exact StaticIs.there (s := { Z with heap := U.heap }) ⟨cfS, iS, kS, fS, st, cS, t1, t2, t3, t4, t5, (fun q => by rw [q] at t6; cases t6), t7⟩ al rfl
/-- **length() OF SUCH A STRING** -/
theorem lenW {p : Program} {l : Launch} {e : Env} {R : Room} {s : State} {args : Array Value} {below : List Frame} {len W : Nat} {Z : State} {a0 : Array Value} {h : Heap} (hZ : Z.Warmed39 s.vm) (hw : ∀ d ∈ wordsLen, d.before a0 Z = true) {kI : Nat} (wi : (Jvm.Cond.instantiable ST kI).before a0 Z = true)
    {x t : Addr} {kb : ClassId} {cs : List Int32} {cd N2 z : Int32} {vs : List Value} (E : RoadKit.Exa Z h x ST) (V : RoadKit.Fld Z h x ST "value" "[B" (.ref t)) (C : RoadKit.Fld Z h x ST "coder" "B" (.int cd)) (K : RoadKit.Arv Z h t kb .byte N2 vs (.int 0)) (hc : CodA cs cd N2 vs) (hb : ∀ c ∈ cs, ¬ c < 0 ∧ ¬ (65535 : Int32) < c)
    (S : RoadKit.Sta Z h ST "COMPACT_STRINGS" "Z" (.int z)) (hz : ¬ z = 0) (l2 : cs.length ≤ 4000) (hfr : 2 ≤ R.frames) (hlo : W + 25 ≤ R.locals) :
    Back l R p e below s args (⟨"java/lang/String", "length", "()I"⟩ : MethodName) len W (fun P a => a = #[.ref x] ∧ P.U.heap = h ∧ P.cells + 0 ≤ R.cells ∧ P.slots + 0 ≤ R.slots)
      (fun P _ v B => ∃ L, (v = some (.int (Int32.ofNat cs.length)) ∧ L = [] ∧ B.U.heap = h) ∧ B.locs = P.locs ++ L ∧ B.cells = P.cells + 0 ∧ B.slots = P.slots + 0) := by
  obtain ⟨A, K1, K2, K3, K4, K5, K6⟩ := K
  have hcod := hc.cod (by omega) K3 K5
  intro m meth c P g ig mk a X hg hsize hdg hW hn hp'
  obtain ⟨rfl, rfl, r1, r2⟩ := hp'
  have al : Z.vm.Alike P.U.vm := hZ.alike.trans X.warmed.alike
  obtain ⟨D, fV, fC, hB, F1, F2, g1, g2, -, -⟩ := strObj wi al E V C
  have hx : Txt x t A cd cs.length (fun j => cs.getD j 0) P.U := ⟨⟨_, hB.2.2.1, D, hB.1, rfl, by cases q : D.vm <;> first | rfl | exact absurd q (hB.2.1.2 _)⟩, Has.of hB F1 g1, Has.of hB F2 g2, ⟨K1.1, State.isArrayOf_alike al K1.2.1, K1.2.2, by rcases hcod with ⟨-, q, -⟩ | ⟨-, q, -⟩ <;> omega⟩, hcod, fun j hj => by
    have e : cs.getD j 0 = cs[j] := by simp [List.getD_eq_getElem?_getD, hj]
    show ¬ cs.getD j 0 < 0 ∧ ¬ 65535 < cs.getD j 0
    rw [e]; exact hb _ (List.getElem_mem _)⟩
  obtain ⟨v, B, X', ⟨⟨hv, hh⟩, hl, hk, hs⟩, st⟩ := Len.pays x t A cd cs.length (fun j => cs.getD j 0) z (tabLen_of (movedLen hZ hw)) hfr hlo m meth c P g ig mk _ X hg hsize hdg hW hn ⟨r1, r2, rfl, hx, sta_is al S, hz⟩
  exact ⟨v, B, X', ⟨[], ⟨hv, rfl, hh⟩, hl, hk, hs⟩, st⟩
end StrChars.Road
namespace StrChars.Road
open Jvm Sem ClassFile Op Lib Jvm.Stand Jvm.Free Jvm.Free.XT
open Jvm.Lib.Cold (StaticIs)
/-- the road's facts of a String, as the laws ask it -/
theorem txt_of {Z U : State} {a0 : Array Value} {kI : Nat} (wi : (Jvm.Cond.instantiable ST kI).before a0 Z = true) (al : Z.vm.Alike U.vm) {x t : Addr} {kb : ClassId} {cs : List Int32} {cd N2 : Int32} {vs : List Value} (E : RoadKit.Exa Z U.heap x ST) (V : RoadKit.Fld Z U.heap x ST "value" "[B" (.ref t)) (C : RoadKit.Fld Z U.heap x ST "coder" "B" (.int cd)) (K : RoadKit.Arv Z U.heap t kb .byte N2 vs (.int 0)) (hc : CodA cs cd N2 vs) (hb : ∀ c ∈ cs, ¬ c < 0 ∧ ¬ (65535 : Int32) < c) (l2 : cs.length ≤ 4000) :
    ∃ A, Txt x t A cd cs.length (fun j => cs.getD j 0) U := by
  obtain ⟨A, K1, K2, K3, K4, K5, K6⟩ := K
  have hcod := hc.cod (by omega) K3 K5
  obtain ⟨D, fV, fC, hB, F1, F2, g1, g2, -, -⟩ := strObj wi al E V C
  exact ⟨A, ⟨_, hB.2.2.1, D, hB.1, rfl, by cases q : D.vm <;> first | rfl | exact absurd q (hB.2.1.2 _)⟩, Has.of hB F1 g1, Has.of hB F2 g2, ⟨K1.1, State.isArrayOf_alike al K1.2.1, K1.2.2, by rcases hcod with ⟨-, q, -⟩ | ⟨-, q, -⟩ <;> omega⟩, hcod, fun j hj => by
    have e : cs.getD j 0 = cs[j] := by simp [List.getD_eq_getElem?_getD, hj]
    show ¬ cs.getD j 0 < 0 ∧ ¬ 65535 < cs.getD j 0
    rw [e]; exact hb _ (List.getElem_mem _)⟩
end StrChars.Road
namespace StrChars
open Jvm Sem ClassFile Op Lib Jvm.Stand Jvm.Free.XT Jvm.Free.ALB Jvm.Free.JM Jvm.Free
open Jvm.Lib.Cold (StaticIs)
namespace ChN
def yN : MethodName := ⟨"java/lang/String", "charAt", "(I)C"⟩
abbrev yB : ByteArray := jdk_42_method_56_code
theorem d0 : decode yB 0 = .ok (.aload_n 0, 1) := by decide +kernel
theorem d1 : decode yB 1 = .ok (.invokevirtual 492, 3) := by decide +kernel
theorem d4 : decode yB 4 = .ok (.ifCond (.eq) 12, 3) := by decide +kernel
theorem d7 : decode yB 7 = .ok (.aload_n 0, 1) := by decide +kernel
theorem d8 : decode yB 8 = .ok (.getfield 9, 3) := by decide +kernel
theorem d11 : decode yB 11 = .ok (.iload_n 1, 1) := by decide +kernel
theorem d12 : decode yB 12 = .ok (.invokestatic 495, 3) := by decide +kernel
theorem d15 : decode yB 15 = .ok (.ireturn, 1) := by decide +kernel
def site : List Cond := [.fieldLink "java/lang/String" 9 "java/lang/String" "value" "[B", IsL.tab, LChA.tab] ++ virtW "java/lang/String" 492 "java/lang/String" IsL.yN IsL.yN ++ staticW "java/lang/String" 495 LChA.yN
def tab : Cond := tabOf yN yB 2 (some .char) site
def P (x t : Addr) (V : Cell) (n : Nat) (f : Nat → Int32) (z : Int32) (fm : Value) (i : Nat) (args : Array Value) (s : State) : Prop := args = #[.ref x, .int (Int32.ofNat i)] ∧ Txt x t V 0 n f s ∧ i < n ∧ StaticIs s "java/lang/String" "COMPACT_STRINGS" "Z" (.int z) ∧ ¬ z = 0 ∧ StaticIs s "jdk/internal/util/Preconditions" "SIOOBE_FORMATTER" "Ljava/util/function/BiFunction;" fm ∧ fm.isRef = true
def E (f : Nat → Int32) (i : Nat) (r : Option Value) (s u : State) : Prop := XT.PureE (some (.int (f i))) r s u
/-- charAt(i) of a Latin-1 String of n chars, i < n: f i -/
theorem law (l : Launch) (x t : Addr) (V : Cell) (n : Nat) (f : Nat → Int32) (z : Int32) (fm : Value) (i : Nat) : Law l yN 2 1 3 40 yB 2 (some .char) site (P x t V n f z fm i) (E f i) [] 0 0 := by
  refine Law.of_walk (plainFor_of_name (by decide +kernel)) (by decide +kernel) (by decide +kernel) (by decide) (fun _ _ h => by rw [h.1]; rfl) (fun _ U U' hal hh h => ⟨h.1, h.2.1.mv hal hh, h.2.2.1, h.2.2.2.1.there hal hh, h.2.2.2.2.1, h.2.2.2.2.2.1.there hal hh, h.2.2.2.2.2.2⟩) (fun r U U' V V' h1 hal h2 h => XT.PureE.mv r U U' V V' h1 hal h2 h) ?_
  intro p e s m args below meth c s₁ X0 hexec hbytes hml hret hlk hnm hown hh0 W hP
  obtain ⟨rfl, hx, hi, s1, hz, s3, rf⟩ := hP
  have v31 := hx.2.2.2.1.2.2.2
  have hr := hx.2.2.2.2.2 i hi
  have hx0 := hx.mv X0.warmed.alike hh0
  have c1 : Steps p.tables e below (s₁.setTop (entryFrame m #[.ref x, .int (Int32.ofNat i)] 2)) (s₁.setTop (mkF m 1 #[.val (.ref x), .val (.int (Int32.ofNat i))] [.ref x])) := Steps.trans (entry rfl) (by
    show Steps p.tables e below (s₁.setTop (mkF m 0 #[.val (.ref x), .val (.int (Int32.ofNat i))] [])) _
    refine XS.aloadN X0.here hexec rfl (hb hbytes d0) rfl rfl ?_
    exact Steps.refl _)
  obtain ⟨v2, T2, X2, E2, g2⟩ := X0.callV hexec (IsL.law l x 0 z) hown (wks W (virtW "java/lang/String" 492 "java/lang/String" IsL.yN IsL.yN)) rfl (by decide) (wk W IsL.tab) (W := 0) (Nat.le_of_ble_eq_true rfl) (Nat.le_of_ble_eq_true rfl) (Nat.le_refl _) (Nat.le_refl _) (hx0.1.fc X0.warmed.alike) hx0.1.is (g := (mkF m 1 #[.val (.ref x), .val (.int (Int32.ofNat i))] [.ref x])) rfl (by rw [hml]; rfl) c1 (argsL := []) (rest := []) rfl rfl (by show 2 * 0 + 0 ≤ _; decide) (hb hbytes d1) (⟨rfl, hx0.2.2.1, hx.2.2.2.2.1.cd, s1.there X0.warmed.alike hh0, hz⟩)
  obtain ⟨rfl, q2⟩ := E2
  have hh2 := q2.trans hh0
  have hx2 := hx.mv X2.warmed.alike hh2
  obtain ⟨-, k1, k2⟩ | ⟨k0, -⟩ := hx.2.2.2.2.1
  · have c3 : Steps p.tables e below (s₁.setTop (entryFrame m #[.ref x, .int (Int32.ofNat i)] 2)) (T2.setTop (mkF m 8 #[.val (.ref x), .val (.int (Int32.ofNat i))] [.ref x])) := Steps.trans g2 (by
      refine XS.ifNo X2.here hexec rfl (hb hbytes d4) rfl (i0_eq_f (by decide)) ?_
      refine XS.aloadN X2.here hexec rfl (hb hbytes d7) rfl rfl ?_
      exact Steps.refl _)
    obtain ⟨T4, X4, q4, st4⟩ := X2.hget hexec hown (wk W (.fieldLink "java/lang/String" 9 "java/lang/String" "value" "[B")) hx2.2.1 (g := (mkF m 8 #[.val (.ref x), .val (.int (Int32.ofNat i))] [.ref x])) rfl (rest := []) rfl (hb hbytes d8)
    have hh4 := q4.trans hh2
    have c5 : Steps p.tables e below (s₁.setTop (entryFrame m #[.ref x, .int (Int32.ofNat i)] 2)) (T4.setTop (mkF m 12 #[.val (.ref x), .val (.int (Int32.ofNat i))] [.int (Int32.ofNat i), .ref t])) := (c3.trans (st4 _ (Steps.refl _))).trans (by
      refine XS.iloadN X4.here hexec rfl (hb hbytes d11) rfl ?_
      exact Steps.refl _)
    obtain ⟨v6, T6, X6, E6, g6⟩ := X4.callS hexec (LChA.law l t V i (lo8 (f i)) fm) hown (wks W (staticW "java/lang/String" 495 LChA.yN)) (wk W LChA.tab) (W := 0) (Nat.le_of_ble_eq_true rfl) (Nat.le_of_ble_eq_true rfl) (Nat.le_refl _) (Nat.le_refl _) (g := (mkF m 12 #[.val (.ref x), .val (.int (Int32.ofNat i))] [.int (Int32.ofNat i), .ref t])) rfl (by rw [hml]; rfl) c5 (argsL := [.ref t, .int (Int32.ofNat i)]) (rest := []) rfl rfl (by show 2 * 0 + 0 ≤ _; decide) (hb hbytes d12) (⟨rfl, hx.2.2.2.1.mv X4.warmed.alike hh4, (k2 i hi).1, s3.there X4.warmed.alike hh4, rf⟩)
    obtain ⟨rfl, q6⟩ := E6
    rw [chr8_lo8 hr.1 (k2 i hi).2] at g6
    exact ⟨T6, some (.int (f i)), _, _, _, X6, rfl, rfl, rfl, (fun h => by cases h), ⟨rfl, q6.trans hh4⟩, fun fs hl => Steps.trans g6 (X6.ireturnOut hexec hret (narrow_ch hr.1 hr.2) (Or.inr (Or.inr (Or.inr (Or.inl rfl)))) (hb hbytes d15) hl)⟩
  · exact absurd k0 (by decide)
theorem pays {l : Launch} {R : Room} {p : Program} {e : Env} {below : List Frame} {s : State} {sargs : Array Value} {len W : Nat} (x t : Addr) (V : Cell) (n : Nat) (f : Nat → Int32) (z : Int32) (fm : Value) (i : Nat) (htab : tab.before sargs s = true) (hfr : 4 ≤ R.frames) (hlo : W + 53 ≤ R.locals) :
    Back l R p e below s sargs yN len W (fun A₁ a₁ => A₁.cells + 0 ≤ R.cells ∧ A₁.slots + 0 ≤ R.slots ∧ P x t V n f z fm i a₁ A₁.U) (fun A₁ _ v₁ B₁ => E f i v₁ A₁.U B₁.U ∧ B₁.locs = A₁.locs ++ [] ∧ B₁.cells = A₁.cells + 0 ∧ B₁.slots = A₁.slots + 0) :=
  (law l x t V n f z fm i).pays htab hfr (by omega)
end ChN
end StrChars
namespace StrChars.Road
open Jvm Sem ClassFile Op Lib Jvm.Stand Jvm.Free Jvm.Free.XT
open Jvm.Lib.Cold (StaticIs)
/-- the words of String.charAt(int), the Latin-1 road alone -/
abbrev wordsChN : List Jvm.Cond := [.code ChN.yN ChN.yB 2 (some .char), .initialized ST, .fieldLink ST 9 ST "value" "[B", .fieldLink ST 38 ST "COMPACT_STRINGS" "Z", .fieldLink ST 15 ST "coder" "B", .code IsL.yN IsL.yB 1 (some .boolean), .methodLink ST 492 IsL.yN, .declares IsL.yN, .selects ST IsL.yN IsL.yN, .instanceMethod IsL.yN,
  .methodLink ST 495 LChA.yN, .static LChA.yN, .code LChA.yN LChA.yB 2 (some .char), .initialized "java/lang/StringLatin1", .methodLink "java/lang/StringLatin1" 9 JO.Str_checkIndex.yN, .static JO.Str_checkIndex.yN, .code JO.Str_checkIndex.yN JO.Str_checkIndex.yB 2 none,
  .fieldLink ST 1053 "jdk/internal/util/Preconditions" "SIOOBE_FORMATTER" "Ljava/util/function/BiFunction;", .methodLink ST 1059 JC.PreCheck.yN, .static JC.PreCheck.yN, .code JC.PreCheck.yN JC.PreCheck.yB 3 (some .int), .initialized "jdk/internal/util/Preconditions"]
theorem tabChN_of {a : Array Value} {s : State} (h : ∀ w ∈ wordsChN, w.before a s = true) : ChN.tab.before a s = true := by
  have hp : JC.PreCheck.tab.before a s = true := unparts (wk h (.code JC.PreCheck.yN JC.PreCheck.yB 3 (some .int))) (wks h (.initialized JC.PreCheck.yN.cls :: JC.PreCheck.site))
  have qk := consq hp h
  have hk : JO.Str_checkIndex.tab.before a s = true := unparts (wk qk (.code JO.Str_checkIndex.yN JO.Str_checkIndex.yB 2 none)) (wks qk (.initialized JO.Str_checkIndex.yN.cls :: JO.Str_checkIndex.site))
  have ql := consq hk h
  have hl : LChA.tab.before a s = true := unparts (wk ql (.code LChA.yN LChA.yB 2 (some .char))) (wks ql (.initialized LChA.yN.cls :: LChA.site))
  have hi : IsL.tab.before a s = true := unparts (wk h (.code IsL.yN IsL.yB 1 (some .boolean))) (wks h (.initialized IsL.yN.cls :: IsL.site))
  have q := consq hi (consq hl h)
  exact unparts (wk q (.code ChN.yN ChN.yB 2 (some .char))) (wks q (.initialized ChN.yN.cls :: ChN.site))
theorem movedChN {Z s : State} {a0 args : Array Value} (hZ : Z.Warmed39 s.vm) (hw : ∀ d ∈ wordsChN, d.before a0 Z = true) : ∀ d ∈ wordsChN, d.before args s = true := fun d hd => by
  have t : ∀ d ∈ wordsChN, (d.onTables && d.keepsFace) = true := by decide +kernel
  exact RoadKit.mv hZ (hw d hd) (t d hd)
/-- **charAt(i) OF A LATIN-1 STRING**, i < n: the char -/
theorem chN {p : Program} {l : Launch} {e : Env} {R : Room} {s : State} {args : Array Value} {below : List Frame} {len W : Nat} {Z : State} {a0 : Array Value} {h : Heap} (hZ : Z.Warmed39 s.vm) (hw : ∀ d ∈ wordsChN, d.before a0 Z = true) {kI : Nat} (wi : (Jvm.Cond.instantiable ST kI).before a0 Z = true)
    {x t : Addr} {kb : ClassId} {cs : List Int32} {N2 z : Int32} {vs : List Value} {fm : Value} {i : Nat} {j : Int32} (E : RoadKit.Exa Z h x ST) (V : RoadKit.Fld Z h x ST "value" "[B" (.ref t)) (C : RoadKit.Fld Z h x ST "coder" "B" (.int 0)) (K : RoadKit.Arv Z h t kb .byte N2 vs (.int 0)) (hc : CodA cs 0 N2 vs) (hb : ∀ c ∈ cs, ¬ c < 0 ∧ ¬ (65535 : Int32) < c)
    (S : RoadKit.Sta Z h ST "COMPACT_STRINGS" "Z" (.int z)) (hz : ¬ z = 0) (F : RoadKit.Sta Z h "jdk/internal/util/Preconditions" "SIOOBE_FORMATTER" "Ljava/util/function/BiFunction;" fm) (rf : fm.isRef = true) (l2 : cs.length ≤ 4000) (hi : i < cs.length) (hj : j = Int32.ofNat i) (hfr : 4 ≤ R.frames) (hlo : W + 53 ≤ R.locals) :
    Back l R p e below s args (⟨"java/lang/String", "charAt", "(I)C"⟩ : MethodName) len W (fun P a => a = #[.ref x, .int j] ∧ P.U.heap = h ∧ P.cells + 0 ≤ R.cells ∧ P.slots + 0 ≤ R.slots)
      (fun P _ v B => ∃ L, (v = some (.int (cs.getD i 0)) ∧ L = [] ∧ B.U.heap = h) ∧ B.locs = P.locs ++ L ∧ B.cells = P.cells + 0 ∧ B.slots = P.slots + 0) := by
  subst hj
  intro m meth c P g ig mk a X hg hsize hdg hW hn hp'
  obtain ⟨rfl, rfl, r1, r2⟩ := hp'
  have al : Z.vm.Alike P.U.vm := hZ.alike.trans X.warmed.alike
  obtain ⟨A, hx⟩ := txt_of wi al E V C K hc hb l2
  obtain ⟨v, B, X', ⟨⟨hv, hh⟩, hl, hk, hs⟩, st⟩ := ChN.pays x t A cs.length (fun j => cs.getD j 0) z fm i (tabChN_of (movedChN hZ hw)) hfr hlo m meth c P g ig mk _ X hg hsize hdg hW hn ⟨r1, r2, rfl, hx, hi, sta_is al S, hz, sta_is al F, rf⟩
  exact ⟨v, B, X', ⟨[], ⟨hv, rfl, hh⟩, hl, hk, hs⟩, st⟩
/-- what backV says of its String, as the contracts of this text ask it: cs's low bytes, coder 0 -/
theorem codOf {cs : List Int32} {n : Nat} (hn : cs.length = n) (hb : ∀ c ∈ cs, ¬ 255 < c) : CodA cs 0 (Int32.ofNat n) ((cs.map lo8).map Value.int) := Or.inl ⟨rfl, by rw [hn], by simp [List.map_map, Function.comp_def], hb⟩
end StrChars.Road
end Jvm.Pilot.@@N@@
namespace Jvm.Pilot.@@N@@
open Jvm Jvm.ClassFile Sem Op Lib Jvm.Free Jvm.Stand Jvm.LawKit Jvm.RoadKit Bundle Jvm.Pilot.@@N@@.Jvm.D
/-- from the state A the run comes to an end with P -/
def Gl (tb : Tables) (e : Env) (below : List Frame) (P : Outcome → State → Prop) (A : State) : Prop := ∃ U o, Steps tb e below A U ∧ U.status = .running ∧ Ended U below o ∧ P o U
theorem Gl.go {tb : Tables} {e : Env} {below : List Frame} {P : Outcome → State → Prop} {A B : State} (h : ∀ t, Steps tb e below B t → Steps tb e below A t) (k : Gl tb e below P B) : Gl tb e below P A := by
  obtain ⟨U, o, h1, r⟩ := k
  exact ⟨U, o, h U h1, r⟩
theorem Gl.st {tb : Tables} {e : Env} {below : List Frame} {P : Outcome → State → Prop} {A B : State} (h : Steps tb e below A B) (k : Gl tb e below P B) : Gl tb e below P A := by
  obtain ⟨U, o, h1, r⟩ := k
  exact ⟨U, o, h.trans h1, r⟩
/-- from the state A the run comes to the frame F over a state of which P holds -/
def Sg (P : State → Prop) (F : JFrame) (tb : Tables) (e : Env) (below : List Frame) (A : State) : Prop := ∃ T, P T ∧ ∀ t, Steps tb e below (T.setTop F) t → Steps tb e below A t
theorem Sg.go {P : State → Prop} {F : JFrame} {tb : Tables} {e : Env} {below : List Frame} {A B : State} (h : ∀ t, Steps tb e below B t → Steps tb e below A t) (k : Sg P F tb e below B) : Sg P F tb e below A := by
  obtain ⟨T, h1, h2⟩ := k
  exact ⟨T, h1, fun t ht => h t (h2 t ht)⟩
theorem Sg.st {P : State → Prop} {F : JFrame} {tb : Tables} {e : Env} {below : List Frame} {A B : State} (h : Steps tb e below A B) (k : Sg P F tb e below B) : Sg P F tb e below A := by
  obtain ⟨T, h1, h2⟩ := k
  exact ⟨T, h1, fun t ht => h.trans (h2 t ht)⟩
/-- what is shown of a state holds also where the run comes from -/
def Cl (tb : Tables) (e : Env) (below : List Frame) (K : State → Prop) : Prop := ∀ A B, (∀ t, Steps tb e below B t → Steps tb e below A t) → K B → K A
theorem Gl.cl {tb : Tables} {e : Env} {below : List Frame} {P : Outcome → State → Prop} : Cl tb e below (Gl tb e below P) := fun _ _ h k => Gl.go h k
theorem Sg.cl {P : State → Prop} {F : JFrame} {tb : Tables} {e : Env} {below : List Frame} : Cl tb e below (Sg P F tb e below) := fun _ _ h k => Sg.go h k
section Glue
variable {p : Program} {l : Launch} {e : Env} {R : Room} {s : State} {m : MethodId} {args : Array Value} {below : List Frame} {meth : Method} {c : Code} {T : State} {locs : List Loc} {cells slots : Nat} {Z : State} {a0 : Array Value} {h : Heap} {K0 : State → Prop} {pc : Nat} {Ls : Array Slot} {Ks : List Value} {rest : List Value}
theorem gGetF {own R0 O n d host : String} {index : Nat} {a : Addr} {v : Value} (hG : Cl p.tables e below K0) (X : Stand p l e R s m args below meth c T locs cells slots) (hx : p.tables.exec = Jvm.exec) (hZ : Z.Warmed39 s.vm) (hown : s.vm.findClass own = some m.cls) (w : (Cond.fieldLink own index R0 n d).before a0 Z = true ∨ (Cond.fieldLinkNest own index R0 n d host).before a0 Z = true) (via : Via Z R0 O n d) (eT : T.heap = h) (F : Fld Z h a O n d v) (hg : m = m) (hs : Ks = .ref a :: rest) (hd : decode c.code pc = .ok (.getfield index, 3))
    (k : ∀ T', Stand p l e R s m args below meth c T' locs cells slots → T'.heap = h → K0 (T'.setTop (mkF m (pc + 3) (Ls) (v :: rest)))) : K0 (T.setTop (mkF m pc Ls Ks)) := by
  obtain ⟨T', X', e', st⟩ := getF (g := mkF m pc Ls Ks) X hx hZ hown w via eT F hg hs hd
  exact hG _ _ st (k T' X' e')
theorem gGetS {own R0 O n d host : String} {index : Nat} {v : Value} (hG : Cl p.tables e below K0) (X : Stand p l e R s m args below meth c T locs cells slots) (hx : p.tables.exec = Jvm.exec) (hZ : Z.Warmed39 s.vm) (hown : s.vm.findClass own = some m.cls) (w : (Cond.fieldLink own index R0 n d).before a0 Z = true ∨ (Cond.fieldLinkNest own index R0 n d host).before a0 Z = true) (via : Via Z R0 O n d) (eT : T.heap = h) (F : Sta Z h O n d v) (hg : m = m) (hd : decode c.code pc = .ok (.getstatic index, 3))
    (k : ∀ T', Stand p l e R s m args below meth c T' locs cells slots → T'.heap = h → K0 (T'.setTop (mkF m (pc + 3) (Ls) (v :: Ks)))) : K0 (T.setTop (mkF m pc Ls Ks)) := by
  obtain ⟨T', X', e', st⟩ := getS2 (g := mkF m pc Ls Ks) X hx hZ hown w via eT F hg hd
  exact hG _ _ st (k T' X' e')
theorem gPutF {own R0 O n d host C : String} {index kk : Nat} {ty : FieldType} {a : Addr} {v old : Value} (hG : Cl p.tables e below K0) (X : Stand p l e R s m args below meth c T locs cells slots) (hx : p.tables.exec = Jvm.exec) (hZ : Z.Warmed39 s.vm) (hown : s.vm.findClass own = some m.cls) (w : (Cond.fieldLink own index R0 n d).before a0 Z = true ∨ (Cond.fieldLinkNest own index R0 n d host).before a0 Z = true) (via : Via Z R0 O n d) (eT : T.heap = h) (F : Fld Z h a O n d old) (E : Exa Z h a C) (L : (Cond.lays C O n d).before a0 Z = true ∨ ((Cond.laysFinal C O n d).before a0 Z = true ∧ own = O ∧ meth.name = "<init>")) (wi : (Cond.instantiable C kk).before a0 Z = true) (hty : parseFieldDescriptor d = some ty) (hn : narrow ty v = v) (hf : fits ty v = true) (hg : m = m) (hs : Ks = v :: .ref a :: rest) (hd : decode c.code pc = .ok (.putfield index, 3))
    (k : ∀ T' h', Stand p l e R s m args below meth c T' (locs ++ [⟨a, Jvm.RoadKit.slotOf Z O n d⟩]) cells slots → T'.heap = h' → Wr h h' a (Jvm.RoadKit.slotOf Z O n d) v → K0 (T'.setTop (mkF m (pc + 3) (Ls) (rest)))) : K0 (T.setTop (mkF m pc Ls Ks)) := by
  obtain ⟨T', h', X', e', W, st⟩ := putF (g := mkF m pc Ls Ks) X hx hZ hown w via eT F E L wi hty hn hf hg hs hd
  exact hG _ _ st (k T' h' X' e' W)
theorem gPutFN {own R0 O n d C : String} {index kk : Nat} {ty : FieldType} {a : Addr} {v v' old : Value} (hG : Cl p.tables e below K0) (X : Stand p l e R s m args below meth c T locs cells slots) (hx : p.tables.exec = Jvm.exec) (hZ : Z.Warmed39 s.vm) (hown : s.vm.findClass own = some m.cls) (w : (Cond.fieldLink own index R0 n d).before a0 Z = true) (via : Via Z R0 O n d) (eT : T.heap = h) (F : Fld Z h a O n d old) (E : Exa Z h a C) (L : (Cond.lays C O n d).before a0 Z = true ∨ ((Cond.laysFinal C O n d).before a0 Z = true ∧ own = O ∧ meth.name = "<init>")) (wi : (Cond.instantiable C kk).before a0 Z = true) (hty : parseFieldDescriptor d = some ty) (hn : narrow ty v = v') (hf : fits ty v' = true) (hg : m = m) (hs : Ks = v :: .ref a :: rest) (hd : decode c.code pc = .ok (.putfield index, 3))
    (k : ∀ T' h', Stand p l e R s m args below meth c T' (locs ++ [⟨a, Jvm.RoadKit.slotOf Z O n d⟩]) cells slots → T'.heap = h' → Wr h h' a (Jvm.RoadKit.slotOf Z O n d) v' → K0 (T'.setTop (mkF m (pc + 3) (Ls) (rest)))) : K0 (T.setTop (mkF m pc Ls Ks)) := by
  obtain ⟨T', h', X', e', W, st⟩ := putFN (g := mkF m pc Ls Ks) X hx hZ hown w via eT F E L wi hty hn hf hg hs hd
  exact hG _ _ st (k T' h' X' e' W)
theorem gCast {own K : String} {index : Nat} {a : Addr} (hG : Cl p.tables e below K0) (X : Stand p l e R s m args below meth c T locs cells slots) (hx : p.tables.exec = Jvm.exec) (hZ : Z.Warmed39 s.vm) (hown : s.vm.findClass own = some m.cls) (w : (Cond.classLink own index K).before a0 Z = true) (eT : T.heap = h) (F : Ins Z h a K true) (hg : m = m) (hs : Ks = .ref a :: rest) (hd : decode c.code pc = .ok (.checkcast index, 3))
    (k : ∀ T', Stand p l e R s m args below meth c T' locs cells slots → T'.heap = h → K0 (T'.setTop (mkF m (pc + 3) (Ls) (Ks)))) : K0 (T.setTop (mkF m pc Ls Ks)) := by
  obtain ⟨T', X', e', st⟩ := castY (g := mkF m pc Ls Ks) X hx hZ hown w eT F hg hs hd
  exact hG _ _ st (k T' X' e')
theorem gInst {own K : String} {index : Nat} {a : Addr} (hG : Cl p.tables e below K0) (X : Stand p l e R s m args below meth c T locs cells slots) (hx : p.tables.exec = Jvm.exec) (hZ : Z.Warmed39 s.vm) (hown : s.vm.findClass own = some m.cls) (w : (Cond.classLink own index K).before a0 Z = true) (eT : T.heap = h) (F : Ins Z h a K true) (hg : m = m) (hs : Ks = .ref a :: rest) (hd : decode c.code pc = .ok (.instanceof index, 3))
    (k : ∀ T', Stand p l e R s m args below meth c T' locs cells slots → T'.heap = h → K0 (T'.setTop (mkF m (pc + 3) (Ls) (.int 1 :: rest)))) : K0 (T.setTop (mkF m pc Ls Ks)) := by
  obtain ⟨T', X', e', st⟩ := instY (g := mkF m pc Ls Ks) X hx hZ hown w eT F hg hs hd
  exact hG _ _ st (k T' X' e')
theorem gInit {own : String} {idx : Nat} {a : Addr} {W : Nat} (hG : Cl p.tables e below K0) (X : Stand p l e R s m args below meth c T locs cells slots) (hx : p.tables.exec = Jvm.exec) (hZ : Z.Warmed39 s.vm) (hown : s.vm.findClass own = some m.cls) (w1 : (Cond.methodLink own idx Lib.objectInit).before a0 Z = true) (w2 : (Cond.instanceMethod Lib.objectInit).before a0 Z = true) (w3 : (Cond.code Lib.objectInit ⟨#[0xb1]⟩ 1 none).before a0 Z = true) (eT : T.heap = h) (hg : m = m) (hsize : Ls.size = c.maxLocals) (hs : Ks = .ref a :: rest) (hd : decode c.code pc = .ok (.invokespecial idx, 3)) (hf : 1 ≤ R.frames) (hW : 2 * 0 + (rest.map fun v => v.category).sum ≤ W) (hl : W + 12 ≤ R.locals)
    (k : ∀ T', Stand p l e R s m args below meth c T' locs cells slots → T'.heap = h → K0 (T'.setTop (mkF m (pc + 3) (Ls) (rest)))) : K0 (T.setTop (mkF m pc Ls Ks)) := by
  obtain ⟨T', X', e', st⟩ := initO (g := mkF m pc Ls Ks) X hx hZ hown w1 w2 w3 eT hg hsize hs hd hf hW hl
  exact hG _ _ st (k T' X' e')
theorem gNew {own C : String} {index n : Nat} (hG : Cl p.tables e below K0) (X : Stand p l e R s m args below meth c T locs cells slots) (hx : p.tables.exec = Jvm.exec) (hZ : Z.Warmed39 s.vm) (hown : s.vm.findClass own = some m.cls) (w : (Cond.classLink own index C).before a0 Z = true) (wi : (Cond.instantiable C n).before a0 Z = true) (wz : (Cond.initialized C).before a0 Z = true) (eT : T.heap = h) (hg : m = m) (hd : decode c.code pc = .ok (.new index, 3)) (hc : cells + 1 ≤ R.cells) (hl : slots + n ≤ R.slots)
    (k : ∀ T' h' b, b = h.size → Stand p l e R s m args below meth c T' locs (cells + 1) (slots + n) → T'.heap = h' → Ext h h' → Exa Z h' b C → (∀ {O nm d : String} {ty : FieldType}, Laid Z a0 C O nm d → parseFieldDescriptor d = some ty → Fld Z h' b O nm d (defaultValue ty)) → K0 (T'.setTop (mkF m (pc + 3) (Ls) (.ref b :: Ks)))) : K0 (T.setTop (mkF m pc Ls Ks)) := by
  obtain ⟨T', h', X', e', E, A, D, -, st⟩ := newO (g := mkF m pc Ls Ks) X hx hZ hown w wi wz eT hg hd hc hl
  exact hG _ _ st (k T' h' _ rfl X' e' E A D)
theorem gNewP {aty : ArrayType} {n : Int32} {cap : Nat} (hG : Cl p.tables e below K0) (X : Stand p l e R s m args below meth c T locs cells slots) (hx : p.tables.exec = Jvm.exec) (hZ : Z.Warmed39 s.vm) (w : (Cond.arrayClass (newarray.typeOf aty)).before a0 Z = true) (eT : T.heap = h) (hg : m = m) (hd : decode c.code pc = .ok (.newarray aty, 2)) (hs : Ks = .int n :: rest) (hn : ¬ n < 0) (hcap : n.toNatClampNeg ≤ cap) (hb : cap * 8 ≤ 536870912) (hc : cells + 1 ≤ R.cells) (hl : slots + cap ≤ R.slots)
    (k : ∀ T' h' b cA, b = h.size → Stand p l e R s m args below meth c T' locs (cells + 1) (slots + cap) → T'.heap = h' → Ext h h' → Arr Z h' b (newA cA (newarray.typeOf aty) n) (newarray.typeOf aty) → K0 (T'.setTop (mkF m (pc + 2) (Ls) (.ref b :: rest)))) : K0 (T.setTop (mkF m pc Ls Ks)) := by
  obtain ⟨T', h', cA, X', e', E, A, st⟩ := newP (g := mkF m pc Ls Ks) X hx hZ w eT hg hd hs hn hcap hb hc hl
  exact hG _ _ st (k T' h' _ cA rfl X' e' E A)
theorem gNewPE {aty : ArrayType} {n : Int32} {cap : Nat} {ad : String} (hG : Cl p.tables e below K0) (X : Stand p l e R s m args below meth c T locs cells slots) (hx : p.tables.exec = Jvm.exec) (hZ : Z.Warmed39 s.vm) (w : (Cond.arrayClass (newarray.typeOf aty)).before a0 Z = true) (eT : T.heap = h) (hg : m = m) (hd : decode c.code pc = .ok (.newarray aty, 2)) (hs : Ks = .int n :: rest) (hn : ¬ n < 0) (hcap : n.toNatClampNeg ≤ cap) (hb : cap * 8 ≤ 536870912) (hc : cells + 1 ≤ R.cells) (hl : slots + cap ≤ R.slots) (had : "[" ++ (newarray.typeOf aty).toString = ad)
    (k : ∀ T' h' b cA, b = h.size → Stand p l e R s m args below meth c T' locs (cells + 1) (slots + cap) → T'.heap = h' → Ext h h' → Arr Z h' b (newA cA (newarray.typeOf aty) n) (newarray.typeOf aty) → Exa Z h' b ad → K0 (T'.setTop (mkF m (pc + 2) (Ls) (.ref b :: rest)))) : K0 (T.setTop (mkF m pc Ls Ks)) := by
  obtain ⟨T', h', cA, X', e', E, A, B, st⟩ := newPE (g := mkF m pc Ls Ks) X hx hZ w eT hg hd hs hn hcap hb hc hl had
  exact hG _ _ st (k T' h' _ cA rfl X' e' E A B)
theorem gstC {a : Addr} {cl : Cell} {j : Int32} {x : Int32} (hG : Cl p.tables e below K0) (X : Stand p l e R s m args below meth c T locs cells slots) (hx : p.tables.exec = Jvm.exec) (hZ : Z.Warmed39 s.vm) (eT : T.heap = h) (A : Arr Z h a cl .char) (hj : ¬ (j < 0 ∨ cl.slots.size ≤ j.toNatClampNeg)) (hg : m = m) (hs : Ks = .int x :: .int j :: .ref a :: rest) (hd : decode c.code pc = .ok (.castore, 1))
    (k : ∀ T' h', Stand p l e R s m args below meth c T' (locs ++ [⟨a, j.toNatClampNeg⟩]) cells slots → T'.heap = h' → Wr h h' a j.toNatClampNeg (.int (nar .char x)) → K0 (T'.setTop (mkF m (pc + 1) (Ls) (rest)))) : K0 (T.setTop (mkF m pc Ls Ks)) := by
  obtain ⟨T', h', X', e', W, st⟩ := stC (g := mkF m pc Ls Ks) X hx hZ eT A hj hg hs hd
  exact hG _ _ st (k T' h' X' e' W)
theorem gstI {a : Addr} {cl : Cell} {j : Int32} {x : Int32} (hG : Cl p.tables e below K0) (X : Stand p l e R s m args below meth c T locs cells slots) (hx : p.tables.exec = Jvm.exec) (hZ : Z.Warmed39 s.vm) (eT : T.heap = h) (A : Arr Z h a cl .int) (hj : ¬ (j < 0 ∨ cl.slots.size ≤ j.toNatClampNeg)) (hg : m = m) (hs : Ks = .int x :: .int j :: .ref a :: rest) (hd : decode c.code pc = .ok (.iastore, 1))
    (k : ∀ T' h', Stand p l e R s m args below meth c T' (locs ++ [⟨a, j.toNatClampNeg⟩]) cells slots → T'.heap = h' → Wr h h' a j.toNatClampNeg (.int x) → K0 (T'.setTop (mkF m (pc + 1) (Ls) (rest)))) : K0 (T.setTop (mkF m pc Ls Ks)) := by
  obtain ⟨T', h', X', e', W, st⟩ := stI (g := mkF m pc Ls Ks) X hx hZ eT A hj hg hs hd
  exact hG _ _ st (k T' h' X' e' W)
theorem gstB {a : Addr} {cl : Cell} {j : Int32} {x : Int32} (hG : Cl p.tables e below K0) (X : Stand p l e R s m args below meth c T locs cells slots) (hx : p.tables.exec = Jvm.exec) (hZ : Z.Warmed39 s.vm) (eT : T.heap = h) (A : Arr Z h a cl .byte) (hj : ¬ (j < 0 ∨ cl.slots.size ≤ j.toNatClampNeg)) (hg : m = m) (hs : Ks = .int x :: .int j :: .ref a :: rest) (hd : decode c.code pc = .ok (.bastore, 1))
    (k : ∀ T' h', Stand p l e R s m args below meth c T' (locs ++ [⟨a, j.toNatClampNeg⟩]) cells slots → T'.heap = h' → Wr h h' a j.toNatClampNeg (.int (nar .byte x)) → K0 (T'.setTop (mkF m (pc + 1) (Ls) (rest)))) : K0 (T.setTop (mkF m pc Ls Ks)) := by
  obtain ⟨T', h', X', e', W, st⟩ := stB (g := mkF m pc Ls Ks) X hx hZ eT A hj hg hs hd
  exact hG _ _ st (k T' h' X' e' W)
theorem gstJ {a : Addr} {cl : Cell} {j : Int32} {x : Int64} (hG : Cl p.tables e below K0) (X : Stand p l e R s m args below meth c T locs cells slots) (hx : p.tables.exec = Jvm.exec) (hZ : Z.Warmed39 s.vm) (eT : T.heap = h) (A : Arr Z h a cl .long) (hj : ¬ (j < 0 ∨ cl.slots.size ≤ j.toNatClampNeg)) (hg : m = m) (hs : Ks = .long x :: .int j :: .ref a :: rest) (hd : decode c.code pc = .ok (.lastore, 1))
    (k : ∀ T' h', Stand p l e R s m args below meth c T' (locs ++ [⟨a, j.toNatClampNeg⟩]) cells slots → T'.heap = h' → Wr h h' a j.toNatClampNeg (.long x) → K0 (T'.setTop (mkF m (pc + 1) (Ls) (rest)))) : K0 (T.setTop (mkF m pc Ls Ks)) := by
  obtain ⟨T', h', X', e', W, st⟩ := stJ (g := mkF m pc Ls Ks) X hx hZ eT A hj hg hs hd
  exact hG _ _ st (k T' h' X' e' W)
theorem g_iaload {a : Addr} {cl : Cell} {j : Int32} {v : Value} (hG : Cl p.tables e below K0) (X : Stand p l e R s m args below meth c T locs cells slots) (hx : p.tables.exec = Jvm.exec) (hZ : Z.Warmed39 s.vm) (eT : T.heap = h) (A : Arr Z h a cl .int) (hj : ¬ (j < 0 ∨ cl.slots.size ≤ j.toNatClampNeg)) (hv : cl.slots[j.toNatClampNeg]? = some v) (hg : m = m) (hs : Ks = .int j :: .ref a :: rest) (hd : decode c.code pc = .ok (.iaload, 1))
    (k : K0 (T.setTop (mkF m (pc + 1) (Ls) (v :: rest)))) : K0 (T.setTop (mkF m pc Ls Ks)) :=
  hG _ _ (X.iaload (g := mkF m pc Ls Ks) hx (by rw [eT]; exact A.1) (State.isArrayOf_alike hZ.alike A.2.1) A.2.2 hj hv hg hs hd) k
theorem g_laload {a : Addr} {cl : Cell} {j : Int32} {v : Value} (hG : Cl p.tables e below K0) (X : Stand p l e R s m args below meth c T locs cells slots) (hx : p.tables.exec = Jvm.exec) (hZ : Z.Warmed39 s.vm) (eT : T.heap = h) (A : Arr Z h a cl .long) (hj : ¬ (j < 0 ∨ cl.slots.size ≤ j.toNatClampNeg)) (hv : cl.slots[j.toNatClampNeg]? = some v) (hg : m = m) (hs : Ks = .int j :: .ref a :: rest) (hd : decode c.code pc = .ok (.laload, 1))
    (k : K0 (T.setTop (mkF m (pc + 1) (Ls) (v :: rest)))) : K0 (T.setTop (mkF m pc Ls Ks)) :=
  hG _ _ (X.laload (g := mkF m pc Ls Ks) hx (by rw [eT]; exact A.1) (State.isArrayOf_alike hZ.alike A.2.1) A.2.2 hj hv hg hs hd) k
theorem g_caload {a : Addr} {cl : Cell} {j : Int32} {v : Value} (hG : Cl p.tables e below K0) (X : Stand p l e R s m args below meth c T locs cells slots) (hx : p.tables.exec = Jvm.exec) (hZ : Z.Warmed39 s.vm) (eT : T.heap = h) (A : Arr Z h a cl .char) (hj : ¬ (j < 0 ∨ cl.slots.size ≤ j.toNatClampNeg)) (hv : cl.slots[j.toNatClampNeg]? = some v) (hg : m = m) (hs : Ks = .int j :: .ref a :: rest) (hd : decode c.code pc = .ok (.caload, 1))
    (k : K0 (T.setTop (mkF m (pc + 1) (Ls) (v :: rest)))) : K0 (T.setTop (mkF m pc Ls Ks)) :=
  hG _ _ (X.caload (g := mkF m pc Ls Ks) hx (by rw [eT]; exact A.1) (State.isArrayOf_alike hZ.alike A.2.1) A.2.2 hj hv hg hs hd) k
theorem g_baload {a : Addr} {cl : Cell} {j : Int32} {v : Value} (hG : Cl p.tables e below K0) (X : Stand p l e R s m args below meth c T locs cells slots) (hx : p.tables.exec = Jvm.exec) (hZ : Z.Warmed39 s.vm) (eT : T.heap = h) (A : Arr Z h a cl .byte) (hj : ¬ (j < 0 ∨ cl.slots.size ≤ j.toNatClampNeg)) (hv : cl.slots[j.toNatClampNeg]? = some v) (hg : m = m) (hs : Ks = .int j :: .ref a :: rest) (hd : decode c.code pc = .ok (.baload, 1))
    (k : K0 (T.setTop (mkF m (pc + 1) (Ls) (v :: rest)))) : K0 (T.setTop (mkF m pc Ls Ks)) :=
  hG _ _ (X.baloadBytes (g := mkF m pc Ls Ks) hx (by rw [eT]; exact A.1) (State.isArrayOf_alike hZ.alike A.2.1) A.2.2 hj hv hg hs hd) k
theorem g_aaload {a : Addr} {cl : Cell} {j : Int32} {v : Value} {ty : FieldType} (hG : Cl p.tables e below K0) (X : Stand p l e R s m args below meth c T locs cells slots) (hx : p.tables.exec = Jvm.exec) (hZ : Z.Warmed39 s.vm) (eT : T.heap = h) (A : Arr Z h a cl ty) (hty : ty.isReference = true) (hj : ¬ (j < 0 ∨ cl.slots.size ≤ j.toNatClampNeg)) (hv : cl.slots[j.toNatClampNeg]? = some v) (hg : m = m) (hs : Ks = .int j :: .ref a :: rest) (hd : decode c.code pc = .ok (.aaload, 1))
    (k : K0 (T.setTop (mkF m (pc + 1) (Ls) (v :: rest)))) : K0 (T.setTop (mkF m pc Ls Ks)) :=
  hG _ _ (X.aaload (g := mkF m pc Ls Ks) hx (by rw [eT]; exact A.1) (State.isArrayOf_alike hZ.alike A.2.1) hty A.2.2 hj hv hg hs hd) k
theorem gLen {a : Addr} {cl : Cell} {ty : FieldType} {z : Int32} (hG : Cl p.tables e below K0) (X : Stand p l e R s m args below meth c T locs cells slots) (hx : p.tables.exec = Jvm.exec) (hZ : Z.Warmed39 s.vm) (eT : T.heap = h) (A : Arr Z h a cl ty) (S : cl.slots.size = z.toNatClampNeg) (N : ¬ z < 0) (hg : m = m) (hs : Ks = .ref a :: rest) (hd : decode c.code pc = .ok (.arraylength, 1))
    (k : K0 (T.setTop (mkF m (pc + 1) (Ls) (.int z :: rest)))) : K0 (T.setTop (mkF m pc Ls Ks)) := by
  refine hG _ _ (X.arraylength (g := mkF m pc Ls Ks) hx (by rw [eT]; exact A.1) (State.isArrayOf_alike hZ.alike A.2.1) hg hs hd) ?_
  rw [len_of S N]
  exact k
theorem gStaticN {own : String} {index : Nat} {y : MethodName} {bytes : ByteArray} {maxL : Nat} {ret : Option FieldType} {W mc ms : Nat} {as' : Array Value} {Q : Option Value → Heap → List Loc → Prop} {argsL : List Value} (hG : Cl p.tables e below K0) (X : Stand p l e R s m args below meth c T locs cells slots) (hx : p.tables.exec = Jvm.exec) (hZ : Z.Warmed39 s.vm) (hown : s.vm.findClass own = some m.cls) (hlink : (Cond.methodLink own index y).before args s = true) (hstat : (Cond.static y).before args s = true) (hinit : (Cond.initialized y.cls).before args s = true) (hcode : (Cond.code y bytes maxL ret).before args s = true) (hy : y.cls ≠ "java/lang/invoke/MethodHandle" ∧ y.cls ≠ "java/lang/invoke/VarHandle") (hK : Back l R p e below s args y 3 W (fun A a => a = as' ∧ A.U.heap = h ∧ A.cells + mc ≤ R.cells ∧ A.slots + ms ≤ R.slots) (fun A _ v B => ∃ L, Q v B.U.heap L ∧ B.locs = A.locs ++ L ∧ B.cells = A.cells + mc ∧ B.slots = A.slots + ms)) (hg : m = m) (hsize : Ls.size = c.maxLocals) (hlen : ∀ sig, parseMethodDescriptor y.desc = some sig → argsL.length = sig.parameters.length) (hstack : Ks = argsL.reverse ++ rest) (hW : 2 * 0 + (rest.map fun v => v.category).sum ≤ W) (hdg : decode c.code pc = .ok (.invokestatic index, 3)) (has : argsL.toArray = as') (eT : T.heap = h) (hc : cells + mc ≤ R.cells) (hsl : slots + ms ≤ R.slots)
    (k : ∀ (v : Option Value) (T' : State) (L : List Loc), Q v T'.heap L → Stand p l e R s m args below meth c T' (locs ++ L) (cells + mc) (slots + ms) → K0 (T'.setTop (mkF m (pc + 3) (Ls) (v.toList ++ rest)))) : K0 (T.setTop (mkF m pc Ls Ks)) := by
  obtain ⟨v, vm₁, ⟨T', L', k', n'⟩, -, X', ⟨Lc, hQ, h1, h2, h3⟩, st⟩ := Jvm.LawKit.callS (g := mkF m pc Ls Ks) X hx hown hlink hstat hinit hcode hy hK hg hsize hlen hstack hW hdg (fun vm₁ hvm => ⟨has, eT, hc, hsl⟩)
  dsimp only [Pt.U, Pt.locs, Pt.cells, Pt.slots] at X' hQ h1 h2 h3 st
  subst h1 h2 h3
  exact hG _ _ st (k v T' Lc hQ X')
theorem gStaticS {own : String} {index : Nat} {y : MethodName} {bytes : ByteArray} {maxL : Nat} {ret : Option FieldType} {W mc ms : Nat} {as' : Array Value} {Q : Option Value → Heap → List Loc → Prop} {argsL : List Value} {vm0 : Vm} {k0 : Nat} (hG : Cl p.tables e below K0) (X : Stand p l e R (s.setVm vm0) m args below meth c T locs cells slots) (hx : p.tables.exec = Jvm.exec) (hZ : Z.Warmed39 (s.setVm vm0).vm) (hS : s.Since vm0 k0) (hk : k0 ≤ h.size) (hown : (s.setVm vm0).vm.findClass own = some m.cls) (hlink : (Cond.methodLink own index y).before args (s.setVm vm0) = true) (hstat : (Cond.static y).before args (s.setVm vm0) = true) (hinit : (Cond.initialized y.cls).before args (s.setVm vm0) = true) (hcode : (Cond.code y bytes maxL ret).before args (s.setVm vm0) = true) (hy : y.cls ≠ "java/lang/invoke/MethodHandle" ∧ y.cls ≠ "java/lang/invoke/VarHandle") (hK : BackS l R p e below (s.setVm vm0) args y 3 W (fun A a => a = as' ∧ A.U.heap = h ∧ A.cells + mc ≤ R.cells ∧ A.slots + ms ≤ R.slots) (fun A _ v B => ∃ L, Q v B.U.heap L ∧ B.locs = A.locs ++ L ∧ B.cells = A.cells + mc ∧ B.slots = A.slots + ms)) (hg : m = m) (hsize : Ls.size = c.maxLocals) (hlen : ∀ sig, parseMethodDescriptor y.desc = some sig → argsL.length = sig.parameters.length) (hstack : Ks = argsL.reverse ++ rest) (hW : 2 * 0 + (rest.map fun v => v.category).sum ≤ W) (hdg : decode c.code pc = .ok (.invokestatic index, 3)) (has : argsL.toArray = as') (eT : T.heap = h) (hc : cells + mc ≤ R.cells) (hsl : slots + ms ≤ R.slots)
    (k : ∀ (v : Option Value) (T' : State) (L : List Loc), Q v T'.heap L → Stand p l e R (s.setVm T'.vm) m args below meth c T' (locs ++ L) (cells + mc) (slots + ms) → s.Since T'.vm T'.heap.size → Z.Warmed39 (s.setVm T'.vm).vm → (s.setVm T'.vm).vm.findClass own = some m.cls → T'.heap.size ≤ T'.heap.size → K0 (T'.setTop (mkF m (pc + 3) (Ls) (v.toList ++ rest)))) : K0 (T.setTop (mkF m pc Ls Ks)) := by
  obtain ⟨v, vm₁, ⟨T', L', k', n'⟩, -, X', hS', gr, ⟨Lc, hQ, h1, h2, h3⟩, st⟩ := callSS (g := mkF m pc Ls Ks) X hx hown hlink hstat hinit hcode hy hK hg hsize hlen hstack hW hdg (fun vm₁ hvm => ⟨has, eT, hc, hsl⟩)
  dsimp only [Pt.U, Pt.locs, Pt.cells, Pt.slots] at X' hQ h1 h2 h3 st hS' gr
  subst h1 h2 h3
  obtain ⟨X2, hS2, hZ2, hown2⟩ := rebS hS (Nat.le_trans hk (Nat.le_of_eq (congrArg Array.size eT.symm))) X' hS' gr hZ hown
  exact hG _ _ (fun _ q => st.trans q) (k v T' Lc hQ X2 hS2 hZ2 hown2 (Nat.le_refl _))
theorem gStaticJ {own : String} {index : Nat} {y : MethodName} {bytes : ByteArray} {maxL : Nat} {ret : Option FieldType} {W mc ms : Nat} {as' : Array Value} {Q : Option Value → Heap → Vm → List Loc → Prop} {argsL : List Value} {vm0 : Vm} {k0 : Nat} {Φ : Vm → Prop} (hG : Cl p.tables e below K0) (X : Stand p l e R (s.setVm vm0) m args below meth c T locs cells slots) (hx : p.tables.exec = Jvm.exec) (hZ : Z.Warmed39 (s.setVm vm0).vm) (hS : s.Since vm0 k0) (hk : k0 ≤ h.size) (hown : (s.setVm vm0).vm.findClass own = some m.cls) (hlink : (Cond.methodLink own index y).before args (s.setVm vm0) = true) (hstat : (Cond.static y).before args (s.setVm vm0) = true) (hinit : (Cond.initialized y.cls).before args (s.setVm vm0) = true) (hcode : (Cond.code y bytes maxL ret).before args (s.setVm vm0) = true) (hy : y.cls ≠ "java/lang/invoke/MethodHandle" ∧ y.cls ≠ "java/lang/invoke/VarHandle") (hK : BackS l R p e below (s.setVm vm0) args y 3 W (fun A a => a = as' ∧ A.U.heap = h ∧ Φ A.U.vm ∧ A.cells + mc ≤ R.cells ∧ A.slots + ms ≤ R.slots) (fun A _ v B => ∃ L, Q v B.U.heap B.U.vm L ∧ B.locs = A.locs ++ L ∧ B.cells = A.cells + mc ∧ B.slots = A.slots + ms)) (hg : m = m) (hsize : Ls.size = c.maxLocals) (hlen : ∀ sig, parseMethodDescriptor y.desc = some sig → argsL.length = sig.parameters.length) (hstack : Ks = argsL.reverse ++ rest) (hW : 2 * 0 + (rest.map fun v => v.category).sum ≤ W) (hdg : decode c.code pc = .ok (.invokestatic index, 3)) (has : argsL.toArray = as') (eT : T.heap = h) (hΦ : ∀ vm₁, (s.setVm vm0).WarmedH vm₁ → Φ vm₁) (hc : cells + mc ≤ R.cells) (hsl : slots + ms ≤ R.slots)
    (k : ∀ (v : Option Value) (T' : State) (L : List Loc), Q v T'.heap T'.vm L → Stand p l e R (s.setVm T'.vm) m args below meth c T' (locs ++ L) (cells + mc) (slots + ms) → s.Since T'.vm T'.heap.size → Z.Warmed39 (s.setVm T'.vm).vm → (s.setVm T'.vm).vm.findClass own = some m.cls → T'.heap.size ≤ T'.heap.size → K0 (T'.setTop (mkF m (pc + 3) (Ls) (v.toList ++ rest)))) : K0 (T.setTop (mkF m pc Ls Ks)) := by
  obtain ⟨v, vm₁, ⟨T', L', k', n'⟩, -, X', hS', gr, ⟨Lc, hQ, h1, h2, h3⟩, st⟩ := callSS (g := mkF m pc Ls Ks) X hx hown hlink hstat hinit hcode hy hK hg hsize hlen hstack hW hdg (fun vm₁ hvm => ⟨has, eT, hΦ vm₁ hvm, hc, hsl⟩)
  dsimp only [Pt.U, Pt.locs, Pt.cells, Pt.slots] at X' hQ h1 h2 h3 st hS' gr
  subst h1 h2 h3
  obtain ⟨X2, hS2, hZ2, hown2⟩ := rebS hS (Nat.le_trans hk (Nat.le_of_eq (congrArg Array.size eT.symm))) X' hS' gr hZ hown
  exact hG _ _ (fun _ q => st.trans q) (k v T' Lc hQ X2 hS2 hZ2 hown2 (Nat.le_refl _))
theorem gSpecialN {own : String} {index : Nat} {y : MethodName} {bytes : ByteArray} {maxL : Nat} {b : Addr} {W mc ms : Nat} {as' : Array Value} {Q : Option Value → Heap → List Loc → Prop} {argsL : List Value} (hG : Cl p.tables e below K0) (X : Stand p l e R s m args below meth c T locs cells slots) (hx : p.tables.exec = Jvm.exec) (hZ : Z.Warmed39 s.vm) (hown : s.vm.findClass own = some m.cls) (hy1 : y.name = "<init>") (hlink : (Cond.methodLink own index y).before args s = true) (hinst : (Cond.instanceMethod y).before args s = true) (hcode : (Cond.code y bytes maxL none).before args s = true) (hy : y.cls ≠ "java/lang/invoke/MethodHandle" ∧ y.cls ≠ "java/lang/invoke/VarHandle") (hK : Back l R p e below s args y 3 W (fun A a => a = as' ∧ A.U.heap = h ∧ A.cells + mc ≤ R.cells ∧ A.slots + ms ≤ R.slots) (fun A _ v B => ∃ L, Q v B.U.heap L ∧ B.locs = A.locs ++ L ∧ B.cells = A.cells + mc ∧ B.slots = A.slots + ms)) (hg : m = m) (hsize : Ls.size = c.maxLocals) (hlen : ∀ sig, parseMethodDescriptor y.desc = some sig → argsL.length = sig.parameters.length) (hstack : Ks = argsL.reverse ++ .ref b :: rest) (hW : 2 * 0 + (rest.map fun v => v.category).sum ≤ W) (hdg : decode c.code pc = .ok (.invokespecial index, 3)) (has : (.ref b :: argsL).toArray = as') (eT : T.heap = h) (hc : cells + mc ≤ R.cells) (hsl : slots + ms ≤ R.slots)
    (k : ∀ (v : Option Value) (T' : State) (L : List Loc), Q v T'.heap L → Stand p l e R s m args below meth c T' (locs ++ L) (cells + mc) (slots + ms) → K0 (T'.setTop (mkF m (pc + 3) (Ls) (v.toList ++ rest)))) : K0 (T.setTop (mkF m pc Ls Ks)) := by
  obtain ⟨v, vm₁, ⟨T', L', k', n'⟩, -, X', ⟨Lc, hQ, h1, h2, h3⟩, st⟩ := X.specialBack (g := mkF m pc Ls Ks) hx hy1 hown hlink hinst hcode hy hK hg hsize (Steps.refl _) hlen hstack hW hdg (fun vm₁ hvm => ⟨has, eT, hc, hsl⟩)
  dsimp only [Pt.U, Pt.locs, Pt.cells, Pt.slots] at X' hQ h1 h2 h3 st
  subst h1 h2 h3
  exact hG _ _ (fun _ q => st.trans q) (k v T' Lc hQ X')
theorem gSpecialS {own : String} {index : Nat} {y : MethodName} {bytes : ByteArray} {maxL : Nat} {b : Addr} {W mc ms : Nat} {as' : Array Value} {Q : Option Value → Heap → List Loc → Prop} {argsL : List Value} {vm0 : Vm} {k0 : Nat} (hG : Cl p.tables e below K0) (X : Stand p l e R (s.setVm vm0) m args below meth c T locs cells slots) (hx : p.tables.exec = Jvm.exec) (hZ : Z.Warmed39 (s.setVm vm0).vm) (hS : s.Since vm0 k0) (hk : k0 ≤ h.size) (hown : (s.setVm vm0).vm.findClass own = some m.cls) (hy1 : y.name = "<init>") (hlink : (Cond.methodLink own index y).before args (s.setVm vm0) = true) (hinst : (Cond.instanceMethod y).before args (s.setVm vm0) = true) (hcode : (Cond.code y bytes maxL none).before args (s.setVm vm0) = true) (hy : y.cls ≠ "java/lang/invoke/MethodHandle" ∧ y.cls ≠ "java/lang/invoke/VarHandle") (hK : BackS l R p e below (s.setVm vm0) args y 3 W (fun A a => a = as' ∧ A.U.heap = h ∧ A.cells + mc ≤ R.cells ∧ A.slots + ms ≤ R.slots) (fun A _ v B => ∃ L, Q v B.U.heap L ∧ B.locs = A.locs ++ L ∧ B.cells = A.cells + mc ∧ B.slots = A.slots + ms)) (hg : m = m) (hsize : Ls.size = c.maxLocals) (hlen : ∀ sig, parseMethodDescriptor y.desc = some sig → argsL.length = sig.parameters.length) (hstack : Ks = argsL.reverse ++ .ref b :: rest) (hW : 2 * 0 + (rest.map fun v => v.category).sum ≤ W) (hdg : decode c.code pc = .ok (.invokespecial index, 3)) (has : (.ref b :: argsL).toArray = as') (eT : T.heap = h) (hc : cells + mc ≤ R.cells) (hsl : slots + ms ≤ R.slots)
    (k : ∀ (v : Option Value) (T' : State) (L : List Loc), Q v T'.heap L → Stand p l e R (s.setVm T'.vm) m args below meth c T' (locs ++ L) (cells + mc) (slots + ms) → s.Since T'.vm T'.heap.size → Z.Warmed39 (s.setVm T'.vm).vm → (s.setVm T'.vm).vm.findClass own = some m.cls → T'.heap.size ≤ T'.heap.size → K0 (T'.setTop (mkF m (pc + 3) (Ls) (v.toList ++ rest)))) : K0 (T.setTop (mkF m pc Ls Ks)) := by
  obtain ⟨v, vm₁, ⟨T', L', k', n'⟩, -, X', hS', gr, ⟨Lc, hQ, h1, h2, h3⟩, st⟩ := X.specialBackS (g := mkF m pc Ls Ks) hx hy1 hown hlink hinst hcode hy hK hg hsize (Steps.refl _) hlen hstack hW hdg (fun vm₁ hvm => ⟨has, eT, hc, hsl⟩)
  dsimp only [Pt.U, Pt.locs, Pt.cells, Pt.slots] at X' hQ h1 h2 h3 st hS' gr
  subst h1 h2 h3
  obtain ⟨X2, hS2, hZ2, hown2⟩ := rebS hS (Nat.le_trans hk (Nat.le_of_eq (congrArg Array.size eT.symm))) X' hS' gr hZ hown
  exact hG _ _ (fun _ q => st.trans q) (k v T' Lc hQ X2 hS2 hZ2 hown2 (Nat.le_refl _))
theorem gSpecialJ {own : String} {index : Nat} {y : MethodName} {bytes : ByteArray} {maxL : Nat} {b : Addr} {W mc ms : Nat} {as' : Array Value} {Q : Option Value → Heap → Vm → List Loc → Prop} {argsL : List Value} {vm0 : Vm} {k0 : Nat} {Φ : Vm → Prop} (hG : Cl p.tables e below K0) (X : Stand p l e R (s.setVm vm0) m args below meth c T locs cells slots) (hx : p.tables.exec = Jvm.exec) (hZ : Z.Warmed39 (s.setVm vm0).vm) (hS : s.Since vm0 k0) (hk : k0 ≤ h.size) (hown : (s.setVm vm0).vm.findClass own = some m.cls) (hy1 : y.name = "<init>") (hlink : (Cond.methodLink own index y).before args (s.setVm vm0) = true) (hinst : (Cond.instanceMethod y).before args (s.setVm vm0) = true) (hcode : (Cond.code y bytes maxL none).before args (s.setVm vm0) = true) (hy : y.cls ≠ "java/lang/invoke/MethodHandle" ∧ y.cls ≠ "java/lang/invoke/VarHandle") (hK : BackS l R p e below (s.setVm vm0) args y 3 W (fun A a => a = as' ∧ A.U.heap = h ∧ Φ A.U.vm ∧ A.cells + mc ≤ R.cells ∧ A.slots + ms ≤ R.slots) (fun A _ v B => ∃ L, Q v B.U.heap B.U.vm L ∧ B.locs = A.locs ++ L ∧ B.cells = A.cells + mc ∧ B.slots = A.slots + ms)) (hg : m = m) (hsize : Ls.size = c.maxLocals) (hlen : ∀ sig, parseMethodDescriptor y.desc = some sig → argsL.length = sig.parameters.length) (hstack : Ks = argsL.reverse ++ .ref b :: rest) (hW : 2 * 0 + (rest.map fun v => v.category).sum ≤ W) (hdg : decode c.code pc = .ok (.invokespecial index, 3)) (has : (.ref b :: argsL).toArray = as') (eT : T.heap = h) (hΦ : ∀ vm₁, (s.setVm vm0).WarmedH vm₁ → Φ vm₁) (hc : cells + mc ≤ R.cells) (hsl : slots + ms ≤ R.slots)
    (k : ∀ (v : Option Value) (T' : State) (L : List Loc), Q v T'.heap T'.vm L → Stand p l e R (s.setVm T'.vm) m args below meth c T' (locs ++ L) (cells + mc) (slots + ms) → s.Since T'.vm T'.heap.size → Z.Warmed39 (s.setVm T'.vm).vm → (s.setVm T'.vm).vm.findClass own = some m.cls → T'.heap.size ≤ T'.heap.size → K0 (T'.setTop (mkF m (pc + 3) (Ls) (v.toList ++ rest)))) : K0 (T.setTop (mkF m pc Ls Ks)) := by
  obtain ⟨v, vm₁, ⟨T', L', k', n'⟩, -, X', hS', gr, ⟨Lc, hQ, h1, h2, h3⟩, st⟩ := X.specialBackS (g := mkF m pc Ls Ks) hx hy1 hown hlink hinst hcode hy hK hg hsize (Steps.refl _) hlen hstack hW hdg (fun vm₁ hvm => ⟨has, eT, hΦ vm₁ hvm, hc, hsl⟩)
  dsimp only [Pt.U, Pt.locs, Pt.cells, Pt.slots] at X' hQ h1 h2 h3 st hS' gr
  subst h1 h2 h3
  obtain ⟨X2, hS2, hZ2, hown2⟩ := rebS hS (Nat.le_trans hk (Nat.le_of_eq (congrArg Array.size eT.symm))) X' hS' gr hZ hown
  exact hG _ _ (fun _ q => st.trans q) (k v T' Lc hQ X2 hS2 hZ2 hown2 (Nat.le_refl _))
theorem gVirtualN {own C : String} {index : Nat} {y z : MethodName} {b : Addr} {W mc ms : Nat} {as' : Array Value} {Q : Option Value → Heap → List Loc → Prop} {argsL : List Value} (hG : Cl p.tables e below K0) (X : Stand p l e R s m args below meth c T locs cells slots) (hx : p.tables.exec = Jvm.exec) (hZ : Z.Warmed39 s.vm) (hown : s.vm.findClass own = some m.cls) (hlink : (Cond.methodLink own index y).before args s = true) (hdecl : (Cond.declares y).before args s = true) (hnf : NotFace s y) (hsel : (Cond.selects C y z).before args s = true) (hinst : (Cond.instanceMethod z).before args s = true) (hy : y.cls ≠ "java/lang/invoke/MethodHandle" ∧ y.cls ≠ "java/lang/invoke/VarHandle") (E : Exa Z h b C) (hK : Back l R p e below s args z 3 W (fun A a => a = as' ∧ A.U.heap = h ∧ A.cells + mc ≤ R.cells ∧ A.slots + ms ≤ R.slots) (fun A _ v B => ∃ L, Q v B.U.heap L ∧ B.locs = A.locs ++ L ∧ B.cells = A.cells + mc ∧ B.slots = A.slots + ms)) (hg : m = m) (hsize : Ls.size = c.maxLocals) (hlen : ∀ sig, parseMethodDescriptor y.desc = some sig → argsL.length = sig.parameters.length) (hstack : Ks = argsL.reverse ++ .ref b :: rest) (hW : 2 * 0 + (rest.map fun v => v.category).sum ≤ W) (hdg : decode c.code pc = .ok (.invokevirtual index, 3)) (has : (.ref b :: argsL).toArray = as') (eT : T.heap = h) (hc : cells + mc ≤ R.cells) (hsl : slots + ms ≤ R.slots)
    (k : ∀ (v : Option Value) (T' : State) (L : List Loc), Q v T'.heap L → Stand p l e R s m args below meth c T' (locs ++ L) (cells + mc) (slots + ms) → K0 (T'.setTop (mkF m (pc + 3) (Ls) (v.toList ++ rest)))) : K0 (T.setTop (mkF m pc Ls Ks)) := by
  obtain ⟨cq, kq, q1, q2, q3⟩ := isOf hZ eT E
  obtain ⟨v, vm₁, ⟨T', L', k', n'⟩, -, X', ⟨Lc, hQ, h1, h2, h3⟩, st⟩ := X.virtualBack (g := mkF m pc Ls Ks) hx hown hlink hdecl hnf hsel hinst hy hK q1 q3 hg hsize (Steps.refl _) hlen hstack hW hdg (fun vm₁ hvm => ⟨has, eT, hc, hsl⟩)
  dsimp only [Pt.U, Pt.locs, Pt.cells, Pt.slots] at X' hQ h1 h2 h3 st
  subst h1 h2 h3
  exact hG _ _ (fun _ q => st.trans q) (k v T' Lc hQ X')
theorem gVirtualS {own C : String} {index : Nat} {y z : MethodName} {b : Addr} {W mc ms : Nat} {as' : Array Value} {Q : Option Value → Heap → List Loc → Prop} {argsL : List Value} {vm0 : Vm} {k0 : Nat} (hG : Cl p.tables e below K0) (X : Stand p l e R (s.setVm vm0) m args below meth c T locs cells slots) (hx : p.tables.exec = Jvm.exec) (hZ : Z.Warmed39 (s.setVm vm0).vm) (hS : s.Since vm0 k0) (hk : k0 ≤ h.size) (hown : (s.setVm vm0).vm.findClass own = some m.cls) (hlink : (Cond.methodLink own index y).before args (s.setVm vm0) = true) (hdecl : (Cond.declares y).before args (s.setVm vm0) = true) (hnf : NotFace (s.setVm vm0) y) (hsel : (Cond.selects C y z).before args (s.setVm vm0) = true) (hinst : (Cond.instanceMethod z).before args (s.setVm vm0) = true) (hy : y.cls ≠ "java/lang/invoke/MethodHandle" ∧ y.cls ≠ "java/lang/invoke/VarHandle") (E : Exa Z h b C) (hK : BackS l R p e below (s.setVm vm0) args z 3 W (fun A a => a = as' ∧ A.U.heap = h ∧ A.cells + mc ≤ R.cells ∧ A.slots + ms ≤ R.slots) (fun A _ v B => ∃ L, Q v B.U.heap L ∧ B.locs = A.locs ++ L ∧ B.cells = A.cells + mc ∧ B.slots = A.slots + ms)) (hg : m = m) (hsize : Ls.size = c.maxLocals) (hlen : ∀ sig, parseMethodDescriptor y.desc = some sig → argsL.length = sig.parameters.length) (hstack : Ks = argsL.reverse ++ .ref b :: rest) (hW : 2 * 0 + (rest.map fun v => v.category).sum ≤ W) (hdg : decode c.code pc = .ok (.invokevirtual index, 3)) (has : (.ref b :: argsL).toArray = as') (eT : T.heap = h) (hc : cells + mc ≤ R.cells) (hsl : slots + ms ≤ R.slots)
    (k : ∀ (v : Option Value) (T' : State) (L : List Loc), Q v T'.heap L → Stand p l e R (s.setVm T'.vm) m args below meth c T' (locs ++ L) (cells + mc) (slots + ms) → s.Since T'.vm T'.heap.size → Z.Warmed39 (s.setVm T'.vm).vm → (s.setVm T'.vm).vm.findClass own = some m.cls → T'.heap.size ≤ T'.heap.size → K0 (T'.setTop (mkF m (pc + 3) (Ls) (v.toList ++ rest)))) : K0 (T.setTop (mkF m pc Ls Ks)) := by
  obtain ⟨cq, kq, q1, q2, q3⟩ := isOf hZ eT E
  obtain ⟨v, vm₁, ⟨T', L', k', n'⟩, -, X', hS', gr, ⟨Lc, hQ, h1, h2, h3⟩, st⟩ := X.virtualBackS (g := mkF m pc Ls Ks) hx hown hlink hdecl hnf hsel hinst hy hK q1 q3 hg hsize (Steps.refl _) hlen hstack hW hdg (fun vm₁ hvm => ⟨has, eT, hc, hsl⟩)
  dsimp only [Pt.U, Pt.locs, Pt.cells, Pt.slots] at X' hQ h1 h2 h3 st hS' gr
  subst h1 h2 h3
  obtain ⟨X2, hS2, hZ2, hown2⟩ := rebS hS (Nat.le_trans hk (Nat.le_of_eq (congrArg Array.size eT.symm))) X' hS' gr hZ hown
  exact hG _ _ (fun _ q => st.trans q) (k v T' Lc hQ X2 hS2 hZ2 hown2 (Nat.le_refl _))
theorem gVirtualJ {own C : String} {index : Nat} {y z : MethodName} {b : Addr} {W mc ms : Nat} {as' : Array Value} {Q : Option Value → Heap → Vm → List Loc → Prop} {argsL : List Value} {vm0 : Vm} {k0 : Nat} {Φ : Vm → Prop} (hG : Cl p.tables e below K0) (X : Stand p l e R (s.setVm vm0) m args below meth c T locs cells slots) (hx : p.tables.exec = Jvm.exec) (hZ : Z.Warmed39 (s.setVm vm0).vm) (hS : s.Since vm0 k0) (hk : k0 ≤ h.size) (hown : (s.setVm vm0).vm.findClass own = some m.cls) (hlink : (Cond.methodLink own index y).before args (s.setVm vm0) = true) (hdecl : (Cond.declares y).before args (s.setVm vm0) = true) (hnf : NotFace (s.setVm vm0) y) (hsel : (Cond.selects C y z).before args (s.setVm vm0) = true) (hinst : (Cond.instanceMethod z).before args (s.setVm vm0) = true) (hy : y.cls ≠ "java/lang/invoke/MethodHandle" ∧ y.cls ≠ "java/lang/invoke/VarHandle") (E : Exa Z h b C) (hK : BackS l R p e below (s.setVm vm0) args z 3 W (fun A a => a = as' ∧ A.U.heap = h ∧ Φ A.U.vm ∧ A.cells + mc ≤ R.cells ∧ A.slots + ms ≤ R.slots) (fun A _ v B => ∃ L, Q v B.U.heap B.U.vm L ∧ B.locs = A.locs ++ L ∧ B.cells = A.cells + mc ∧ B.slots = A.slots + ms)) (hg : m = m) (hsize : Ls.size = c.maxLocals) (hlen : ∀ sig, parseMethodDescriptor y.desc = some sig → argsL.length = sig.parameters.length) (hstack : Ks = argsL.reverse ++ .ref b :: rest) (hW : 2 * 0 + (rest.map fun v => v.category).sum ≤ W) (hdg : decode c.code pc = .ok (.invokevirtual index, 3)) (has : (.ref b :: argsL).toArray = as') (eT : T.heap = h) (hΦ : ∀ vm₁, (s.setVm vm0).WarmedH vm₁ → Φ vm₁) (hc : cells + mc ≤ R.cells) (hsl : slots + ms ≤ R.slots)
    (k : ∀ (v : Option Value) (T' : State) (L : List Loc), Q v T'.heap T'.vm L → Stand p l e R (s.setVm T'.vm) m args below meth c T' (locs ++ L) (cells + mc) (slots + ms) → s.Since T'.vm T'.heap.size → Z.Warmed39 (s.setVm T'.vm).vm → (s.setVm T'.vm).vm.findClass own = some m.cls → T'.heap.size ≤ T'.heap.size → K0 (T'.setTop (mkF m (pc + 3) (Ls) (v.toList ++ rest)))) : K0 (T.setTop (mkF m pc Ls Ks)) := by
  obtain ⟨cq, kq, q1, q2, q3⟩ := isOf hZ eT E
  obtain ⟨v, vm₁, ⟨T', L', k', n'⟩, -, X', hS', gr, ⟨Lc, hQ, h1, h2, h3⟩, st⟩ := X.virtualBackS (g := mkF m pc Ls Ks) hx hown hlink hdecl hnf hsel hinst hy hK q1 q3 hg hsize (Steps.refl _) hlen hstack hW hdg (fun vm₁ hvm => ⟨has, eT, hΦ vm₁ hvm, hc, hsl⟩)
  dsimp only [Pt.U, Pt.locs, Pt.cells, Pt.slots] at X' hQ h1 h2 h3 st hS' gr
  subst h1 h2 h3
  obtain ⟨X2, hS2, hZ2, hown2⟩ := rebS hS (Nat.le_trans hk (Nat.le_of_eq (congrArg Array.size eT.symm))) X' hS' gr hZ hown
  exact hG _ _ (fun _ q => st.trans q) (k v T' Lc hQ X2 hS2 hZ2 hown2 (Nat.le_refl _))
theorem gVirtualUpN {own C owner : String} {index : Nat} {x y : MethodName} {b : Addr} {W mc ms : Nat} {as' : Array Value} {Q : Option Value → Heap → List Loc → Prop} {argsL : List Value} (hG : Cl p.tables e below K0) (X : Stand p l e R s m args below meth c T locs cells slots) (hx : p.tables.exec = Jvm.exec) (hZ : Z.Warmed39 s.vm) (hown : s.vm.findClass own = some m.cls) (hlink : (Cond.methodLink own index x).before args s = true) (hsame : (Cond.sameMethod x.cls owner x.name x.desc).before args s = true) (hdecl : (Cond.declares ⟨owner, x.name, x.desc⟩).before args s = true) (howner : owner ≠ "java/lang/invoke/MethodHandle" ∧ owner ≠ "java/lang/invoke/VarHandle") (hsel : (Cond.selects C x y).before args s = true) (hinst : (Cond.instanceMethod y).before args s = true) (E : Exa Z h b C) (hK : Back l R p e below s args y 3 W (fun A a => a = as' ∧ A.U.heap = h ∧ A.cells + mc ≤ R.cells ∧ A.slots + ms ≤ R.slots) (fun A _ v B => ∃ L, Q v B.U.heap L ∧ B.locs = A.locs ++ L ∧ B.cells = A.cells + mc ∧ B.slots = A.slots + ms)) (hg : m = m) (hsize : Ls.size = c.maxLocals) (hlen : ∀ sig, parseMethodDescriptor x.desc = some sig → argsL.length = sig.parameters.length) (hstack : Ks = argsL.reverse ++ .ref b :: rest) (hW : 2 * 0 + (rest.map fun v => v.category).sum ≤ W) (hdg : decode c.code pc = .ok (.invokevirtual index, 3)) (has : (.ref b :: argsL).toArray = as') (eT : T.heap = h) (hc : cells + mc ≤ R.cells) (hsl : slots + ms ≤ R.slots)
    (k : ∀ (v : Option Value) (T' : State) (L : List Loc), Q v T'.heap L → Stand p l e R s m args below meth c T' (locs ++ L) (cells + mc) (slots + ms) → K0 (T'.setTop (mkF m (pc + 3) (Ls) (v.toList ++ rest)))) : K0 (T.setTop (mkF m pc Ls Ks)) := by
  obtain ⟨cq, kq, q1, q2, q3⟩ := isOf hZ eT E
  obtain ⟨v, vm₁, ⟨T', L', k', n'⟩, -, X', ⟨Lc, hQ, h1, h2, h3⟩, st⟩ := X.virtualBackUp (g := mkF m pc Ls Ks) hx hown hlink hsame hdecl howner hsel hinst hK q1 q3 hg hsize (Steps.refl _) hlen hstack hW hdg (fun vm₁ hvm => ⟨has, eT, hc, hsl⟩)
  dsimp only [Pt.U, Pt.locs, Pt.cells, Pt.slots] at X' hQ h1 h2 h3 st
  subst h1 h2 h3
  exact hG _ _ (fun _ q => st.trans q) (k v T' Lc hQ X')
theorem gPrivN {own C : String} {index : Nat} {y : MethodName} {bytes : ByteArray} {maxL : Nat} {ret : Option FieldType} {b : Addr} {W mc ms : Nat} {as' : Array Value} {Q : Option Value → Heap → List Loc → Prop} {argsL : List Value} (hG : Cl p.tables e below K0) (X : Stand p l e R s m args below meth c T locs cells slots) (hx : p.tables.exec = Jvm.exec) (hZ : Z.Warmed39 s.vm) (hown : s.vm.findClass own = some m.cls) (hlink : (Cond.methodLink own index y).before args s = true) (hinst : (Cond.instanceMethod y).before args s = true) (hsel : (Cond.selects C y y).before args s = true) (hpriv : (Cond.privateMethod y).before args s = true) (hcode : (Cond.code y bytes maxL ret).before args s = true) (hy : y.cls ≠ "java/lang/invoke/MethodHandle" ∧ y.cls ≠ "java/lang/invoke/VarHandle") (E : Exa Z h b C) (hK : Back l R p e below s args y 3 W (fun A a => a = as' ∧ A.U.heap = h ∧ A.cells + mc ≤ R.cells ∧ A.slots + ms ≤ R.slots) (fun A _ v B => ∃ L, Q v B.U.heap L ∧ B.locs = A.locs ++ L ∧ B.cells = A.cells + mc ∧ B.slots = A.slots + ms)) (hg : m = m) (hsize : Ls.size = c.maxLocals) (hlen : ∀ sig, parseMethodDescriptor y.desc = some sig → argsL.length = sig.parameters.length) (hstack : Ks = argsL.reverse ++ .ref b :: rest) (hW : 2 * 0 + (rest.map fun v => v.category).sum ≤ W) (hdg : decode c.code pc = .ok (.invokevirtual index, 3)) (has : (.ref b :: argsL).toArray = as') (eT : T.heap = h) (hc : cells + mc ≤ R.cells) (hsl : slots + ms ≤ R.slots)
    (k : ∀ (v : Option Value) (T' : State) (L : List Loc), Q v T'.heap L → Stand p l e R s m args below meth c T' (locs ++ L) (cells + mc) (slots + ms) → K0 (T'.setTop (mkF m (pc + 3) (Ls) (v.toList ++ rest)))) : K0 (T.setTop (mkF m pc Ls Ks)) := by
  obtain ⟨cq, kq, q1, q2, cell, hcell, hcls, hstat⟩ := isOf hZ eT E
  obtain ⟨mk, methM, hnamed, hmethM, hstM, habM⟩ := Cond.instanceMethod_spec hinst
  obtain ⟨methM', cM, hmethM', -, -, -, -, -, -, hsigM⟩ := Cond.code_spec hnamed hcode
  cases hmethM.symm.trans hmethM'
  obtain ⟨c2, r2, m2, -, -, q3, -, kP, hkP, hkPi⟩ := Cond.selects_spec hsel
  cases hnamed.symm.trans q3
  have hselP : selectMethod e.platform s.vm cell.cls mk = .method mk := selectMethod_private hmethM (Cond.privateMethod_at hpriv mk methM hnamed hmethM)
  obtain ⟨vm₁, X₁, hstep₁⟩ := X.invokevirtual hx hown hlink hnamed hmethM hstM hkP hkPi hy (a := b) (cell := cell) hcell (fun q e => by rw [e] at hstat; cases hstat) hselP hmethM habM hkP hkPi (g := mkF m pc Ls Ks) hg (argsL := argsL) (rest := rest) (hlen _ hsigM) hstack hdg
  obtain ⟨v, ⟨T', L', k', n'⟩, X', ⟨Lc, hQ, h1, h2, h3⟩, st⟩ := hK m meth c ⟨T.setVm vm₁, locs, cells, slots⟩ (mkF m pc Ls rest) (.invokevirtual index) mk (.ref b :: argsL).toArray X₁ hg hsize hdg hW (X₁.named hnamed) ⟨has, eT, hc, hsl⟩
  dsimp only [Pt.U, Pt.locs, Pt.cells, Pt.slots] at X' hQ h1 h2 h3 st
  subst h1 h2 h3
  exact hG _ _ (fun _ q => (hstep₁ _ fun acts => by rw [doInvoke_state]; exact Steps.refl _).trans (st.trans q)) (k v T' Lc hQ X')
theorem gSuperN {own K : String} {index : Nat} {y : MethodName} {bytes : ByteArray} {maxL : Nat} {ret : Option FieldType} {b : Addr} {W mc ms : Nat} {as' : Array Value} {Q : Option Value → Heap → List Loc → Prop} {argsL : List Value} (hG : Cl p.tables e below K0) (X : Stand p l e R s m args below meth c T locs cells slots) (hx : p.tables.exec = Jvm.exec) (hZ : Z.Warmed39 s.vm) (hown : s.vm.findClass own = some m.cls) (w1 : (Cond.methodLink own index y).before a0 Z = true) (w2 : (Cond.sameMethod y.cls y.cls y.name y.desc).before a0 Z = true) (w3 : (Cond.instanceMethod y).before a0 Z = true) (w4 : (Cond.superclass own y.cls).before a0 Z = true) (hn : y.name ≠ "<init>") (wc : (Cond.code y bytes maxL ret).before a0 Z = true) (F : Ins Z h b K true) (hK : Back l R p e below s args y 3 W (fun A a => a = as' ∧ A.U.heap = h ∧ A.cells + mc ≤ R.cells ∧ A.slots + ms ≤ R.slots) (fun A _ v B => ∃ L, Q v B.U.heap L ∧ B.locs = A.locs ++ L ∧ B.cells = A.cells + mc ∧ B.slots = A.slots + ms)) (hg : m = m) (hsize : Ls.size = c.maxLocals) (hlen : ∀ sig, parseMethodDescriptor y.desc = some sig → argsL.length = sig.parameters.length) (hstack : Ks = argsL.reverse ++ .ref b :: rest) (hW : 2 * 0 + (rest.map fun v => v.category).sum ≤ W) (hdg : decode c.code pc = .ok (.invokespecial index, 3)) (has : (.ref b :: argsL).toArray = as') (eT : T.heap = h) (hc : cells + mc ≤ R.cells) (hsl : slots + ms ≤ R.slots)
    (k : ∀ (v : Option Value) (T' : State) (L : List Loc), Q v T'.heap L → Stand p l e R s m args below meth c T' (locs ++ L) (cells + mc) (slots + ms) → K0 (T'.setTop (mkF m (pc + 3) (Ls) (v.toList ++ rest)))) : K0 (T.setTop (mkF m pc Ls Ks)) := by
  obtain ⟨v, vm₁, ⟨T', L', k', n'⟩, -, X', ⟨Lc, hQ, h1, h2, h3⟩, st⟩ := superBack (g := mkF m pc Ls Ks) X hx hZ hown w1 w2 w3 w4 hn hK eT F hg hsize wc hlen hstack hW hdg (fun vm₁ hvm => ⟨has, eT, hc, hsl⟩)
  dsimp only [Pt.U, Pt.locs, Pt.cells, Pt.slots] at X' hQ h1 h2 h3 st
  subst h1 h2 h3
  exact hG _ _ (fun _ q => st.trans q) (k v T' Lc hQ X')
theorem gCopy {own : String} {index : Nat} {ka k' : ClassId} {ty ty' : FieldType} {z z' sp dp nn : Int32} {vs vd us : List Value} {dv dd : Value} {a b : Addr} {n0 W : Nat} (hG : Cl p.tables e below K0) (X : Stand p l e R s m args below meth c T locs cells slots) (hx : p.tables.exec = Jvm.exec) (hZ : Z.Warmed39 s.vm) (hown : s.vm.findClass own = some m.cls)
    (w1 : (Cond.methodLink own index Jvm.Stand.acN).before a0 Z = true) (w2 : (Cond.native Jvm.Stand.acN).before a0 Z = true) (w3 : (Cond.static Jvm.Stand.acN).before a0 Z = true) (w4 : (Cond.initialized "java/lang/System").before a0 Z = true) (eT : T.heap = h)
    (A : Arv Z h a ka ty z vs dv) (B : Arv Z h b k' ty' z' vd dd) (hty : (ty = ty' ∧ refKind ty = false) ∨ (refKind ty = true ∧ refKind ty' = true ∧ StoL Z h b us))
    (h1 : ¬ sp < 0) (h2 : ¬ dp < 0) (h3 : ¬ nn < 0) (h4 : sp.toNatClampNeg + nn.toNatClampNeg ≤ z.toNatClampNeg) (h5 : dp.toNatClampNeg + nn.toNatClampNeg ≤ z'.toNatClampNeg)
    (hus : us = (List.range nn.toNatClampNeg).map fun i => vs.getD (sp.toNatClampNeg + i) dv) (hl : dp.toNatClampNeg + nn.toNatClampNeg ≤ vd.length) (N : Fr n0 locs) (ge : n0 ≤ b)
    (hg : m = m) (hsize : Ls.size = c.maxLocals) (hs : Ks = .int nn :: .int dp :: .ref b :: .int sp :: .ref a :: rest) (hd : decode c.code pc = .ok (.invokestatic index, 3))
    (hf : 1 ≤ R.frames) (hW : 2 * 0 + (rest.map fun v => v.category).sum ≤ W) (hlo : W + (nativeFrameWords "java/lang/System" "arraycopy" 5 + 11) ≤ R.locals)
    (k : ∀ T' h' L, Stand p l e R s m args below meth c T' L cells slots → T'.heap = h' → Fr n0 L → Keep h h' [b] → Arv Z h' b k' ty' z' (vd.take dp.toNatClampNeg ++ us ++ vd.drop (dp.toNatClampNeg + nn.toNatClampNeg)) dd → K0 (T'.setTop (mkF m (pc + 3) (Ls) (rest)))) : K0 (T.setTop (mkF m pc Ls Ks)) := by
  obtain ⟨T', h', L, X', e', N', K', A', st⟩ := cpA (g := mkF m pc Ls Ks) X hx hZ hown w1 w2 w3 w4 eT A B hty h1 h2 h3 h4 h5 hus hl N ge hg hsize hs hd hf hW hlo
  exact hG _ _ st (k T' h' L X' e' N' K' A')
theorem own_same {C : String} {y z z' : MethodName} (hd : (Cond.declares y).before a0 Z = true) (hs : (Cond.selects C z z').before a0 Z = true) (hc : z'.cls = y.cls) (hy : y.cls ≠ "java/lang/invoke/MethodHandle" ∧ y.cls ≠ "java/lang/invoke/VarHandle") : (Cond.sameMethod y.cls y.cls y.name y.desc).before a0 Z = true := by
  obtain ⟨m, meth, hn, -, -, -⟩ := Cond.declares_spec hd
  obtain ⟨c, r, m', h1, h2, h3, h4, mk, h5, h6⟩ := Cond.selects_spec hs
  have f1 := findClass_of_methodNamed hn
  have f2 := findClass_of_methodNamed h3
  rw [hc, f1] at f2
  have e : m.cls = m'.cls := Option.some.inj f2
  have hf := State.methodFound?_of_named hn hy
  have hn' : Z.methodNamed? ⟨y.cls, y.name, y.desc⟩ = some m := hn
  have h5' : Z.vm.classes[m.cls]? = some mk := by rw [e]; exact h5
  simp only [Cond.before, Cond.holds, Cond.value, f1, hf, hn', h5']
  simp [h6]
theorem own_notFace {s : State} {args : Array Value} {C : String} {y z z' : MethodName} (hs : (Cond.selects C z z').before args s = true) (hc : z'.cls = y.cls) : NotFace s y := fun r0 h0 => by
  obtain ⟨c2, r2, m2, q1, q2, q3, q4, kP, hkP, hkPi⟩ := Cond.selects_spec hs
  have f1 := findClass_of_methodNamed h0
  have f2 := findClass_of_methodNamed q3
  rw [hc, f1] at f2
  have e : r0.cls = m2.cls := Option.some.inj f2
  exact ⟨kP, by rw [e]; exact hkP, hkPi⟩
end Glue
theorem zXS_aconstNull {tb : Tables} [Ours tb] {e : Env} {below : List Frame} {T target : State} {m : MethodId} {c : Code} {pc : Nat} {Ls : Array Slot} {Ks : List Value} (h : At T m c below) (hx : tb.exec = Jvm.exec) (hg : m = m) (hd : decode c.code pc = .ok (.aconst_null, 1)) (hr : Steps tb e below (T.setTop (mkF m (pc + 1) (Ls) (.null :: Ks))) target) : Steps tb e below (T.setTop (mkF m pc Ls Ks)) target :=
  Jvm.Free.XS.aconstNull (g := mkF m pc Ls Ks) h hx hg hd hr
theorem zXS_aload {tb : Tables} [Ours tb] {e : Env} {below : List Frame} {T target : State} {m : MethodId} {c : Code} {pc : Nat} {Ls : Array Slot} {Ks : List Value} (h : At T m c below) (hx : tb.exec = Jvm.exec) (hg : m = m) {k : Nat} {v : Value} (hd : decode c.code pc = .ok (.aload k, 2)) (hl : Ls[k]? = some (.val v)) (hv : v.isRef = true) (hr : Steps tb e below (T.setTop (mkF m (pc + 2) (Ls) (v :: Ks))) target) : Steps tb e below (T.setTop (mkF m pc Ls Ks)) target :=
  Jvm.Free.XS.aload (g := mkF m pc Ls Ks) h hx hg hd hl hv hr
theorem zXS_aloadN {tb : Tables} [Ours tb] {e : Env} {below : List Frame} {T target : State} {m : MethodId} {c : Code} {pc : Nat} {Ls : Array Slot} {Ks : List Value} (h : At T m c below) (hx : tb.exec = Jvm.exec) (hg : m = m) {k : Fin 4} {v : Value} (hd : decode c.code pc = .ok (.aload_n k, 1)) (hl : Ls[k.val]? = some (.val v)) (hv : v.isRef = true) (hr : Steps tb e below (T.setTop (mkF m (pc + 1) (Ls) (v :: Ks))) target) : Steps tb e below (T.setTop (mkF m pc Ls Ks)) target :=
  Jvm.Free.XS.aloadN (g := mkF m pc Ls Ks) h hx hg hd hl hv hr
theorem zXS_astore {tb : Tables} [Ours tb] {e : Env} {below : List Frame} {T target : State} {m : MethodId} {c : Code} {pc : Nat} {Ls : Array Slot} {Ks : List Value} (h : At T m c below) (hx : tb.exec = Jvm.exec) (hg : m = m) {k : Nat} {x : Value} {rest : List Value} {l' : Array Slot} (hd : decode c.code pc = .ok (.astore k, 2)) (hs : Ks = x :: rest) (hv : x.isRef = true) (hl : storeLocals Ls k x = some l') (hr : Steps tb e below (T.setTop (mkF m (pc + 2) (l') (rest))) target) : Steps tb e below (T.setTop (mkF m pc Ls Ks)) target :=
  Jvm.Free.XS.astore (g := mkF m pc Ls Ks) h hx hg hd hs hv hl hr
theorem zXS_astoreN {tb : Tables} [Ours tb] {e : Env} {below : List Frame} {T target : State} {m : MethodId} {c : Code} {pc : Nat} {Ls : Array Slot} {Ks : List Value} (h : At T m c below) (hx : tb.exec = Jvm.exec) (hg : m = m) {k : Fin 4} {x : Value} {rest : List Value} {l' : Array Slot} (hd : decode c.code pc = .ok (.astore_n k, 1)) (hs : Ks = x :: rest) (hv : x.isRef = true) (hl : storeLocals Ls k.val x = some l') (hr : Steps tb e below (T.setTop (mkF m (pc + 1) (l') (rest))) target) : Steps tb e below (T.setTop (mkF m pc Ls Ks)) target :=
  Jvm.Free.XS.astoreN (g := mkF m pc Ls Ks) h hx hg hd hs hv hl hr
theorem zXS_bipush {tb : Tables} [Ours tb] {e : Env} {below : List Frame} {T target : State} {m : MethodId} {c : Code} {pc : Nat} {Ls : Array Slot} {Ks : List Value} (h : At T m c below) (hx : tb.exec = Jvm.exec) (hg : m = m) {i : Int} (hd : decode c.code pc = .ok (.bipush i, 2)) (hr : Steps tb e below (T.setTop (mkF m (pc + 2) (Ls) (.int (Int8.ofInt i).toInt32 :: Ks))) target) : Steps tb e below (T.setTop (mkF m pc Ls Ks)) target :=
  Jvm.Free.XS.bipush (g := mkF m pc Ls Ks) h hx hg hd hr
theorem zXS_dup {tb : Tables} [Ours tb] {e : Env} {below : List Frame} {T target : State} {m : MethodId} {c : Code} {pc : Nat} {Ls : Array Slot} {Ks : List Value} (h : At T m c below) (hx : tb.exec = Jvm.exec) (hg : m = m) {x : Value} {rest : List Value} (hd : decode c.code pc = .ok (.dup, 1)) (hs : Ks = x :: rest) (hc : x.category = 1) (hr : Steps tb e below (T.setTop (mkF m (pc + 1) (Ls) (x :: x :: rest))) target) : Steps tb e below (T.setTop (mkF m pc Ls Ks)) target :=
  Jvm.Free.XS.dup (g := mkF m pc Ls Ks) h hx hg hd hs hc hr
theorem zXS_goto {tb : Tables} [Ours tb] {e : Env} {below : List Frame} {T target : State} {m : MethodId} {c : Code} {pc : Nat} {Ls : Array Slot} {Ks : List Value} (h : At T m c below) (hx : tb.exec = Jvm.exec) (hg : m = m) {o : Int} {pc0 pc' : Nat} (hpc : pc = pc0) (hd : decode c.code pc = .ok (.goto o, 3)) (ho : 0 ≤ (pc0 : Int) + o) (hp : ((pc0 : Int) + o).toNat = pc') (hr : Steps tb e below (T.setTop (mkF m (pc') (Ls) (Ks))) target) : Steps tb e below (T.setTop (mkF m pc Ls Ks)) target :=
  Jvm.Free.XS.goto (g := mkF m pc Ls Ks) h hx hg hpc hd ho hp hr
theorem zXS_iadd {tb : Tables} [Ours tb] {e : Env} {below : List Frame} {T target : State} {m : MethodId} {c : Code} {pc : Nat} {Ls : Array Slot} {Ks : List Value} (h : At T m c below) (hx : tb.exec = Jvm.exec) (hg : m = m) {x y : Int32} {rest : List Value} (hd : decode c.code pc = .ok (.iadd, 1)) (hs : Ks = .int y :: .int x :: rest) (hr : Steps tb e below (T.setTop (mkF m (pc + 1) (Ls) (.int (x + y) :: rest))) target) : Steps tb e below (T.setTop (mkF m pc Ls Ks)) target :=
  Jvm.Free.XS.iadd (g := mkF m pc Ls Ks) h hx hg hd hs hr
theorem zXS_iand {tb : Tables} [Ours tb] {e : Env} {below : List Frame} {T target : State} {m : MethodId} {c : Code} {pc : Nat} {Ls : Array Slot} {Ks : List Value} (h : At T m c below) (hx : tb.exec = Jvm.exec) (hg : m = m) {x y : Int32} {rest : List Value} (hd : decode c.code pc = .ok (.iand, 1)) (hs : Ks = .int y :: .int x :: rest) (hr : Steps tb e below (T.setTop (mkF m (pc + 1) (Ls) (.int (x &&& y) :: rest))) target) : Steps tb e below (T.setTop (mkF m pc Ls Ks)) target :=
  Jvm.Free.XS.iand (g := mkF m pc Ls Ks) h hx hg hd hs hr
theorem zXS_icmpNo {tb : Tables} [Ours tb] {e : Env} {below : List Frame} {T target : State} {m : MethodId} {c : Code} {pc : Nat} {Ls : Array Slot} {Ks : List Value} (h : At T m c below) (hx : tb.exec = Jvm.exec) (hg : m = m) {cd : ClassFile.Cond} {o : Int} {x y : Int32} {rest : List Value} (hd : decode c.code pc = .ok (.if_icmp cd o, 3)) (hs : Ks = .int y :: .int x :: rest) (hc : if_icmp.holds cd x y = false) (hr : Steps tb e below (T.setTop (mkF m (pc + 3) (Ls) (rest))) target) : Steps tb e below (T.setTop (mkF m pc Ls Ks)) target :=
  Jvm.Free.XS.icmpNo (g := mkF m pc Ls Ks) h hx hg hd hs hc hr
theorem zXS_icmpYes {tb : Tables} [Ours tb] {e : Env} {below : List Frame} {T target : State} {m : MethodId} {c : Code} {pc : Nat} {Ls : Array Slot} {Ks : List Value} (h : At T m c below) (hx : tb.exec = Jvm.exec) (hg : m = m) {cd : ClassFile.Cond} {x y : Int32} {rest : List Value} {o : Int} {pc0 pc' : Nat} (hpc : pc = pc0) (hd : decode c.code pc = .ok (.if_icmp cd o, 3)) (hs : Ks = .int y :: .int x :: rest) (hc : if_icmp.holds cd x y = true) (ho : 0 ≤ (pc0 : Int) + o) (hp : ((pc0 : Int) + o).toNat = pc') (hr : Steps tb e below (T.setTop (mkF m (pc') (Ls) (rest))) target) : Steps tb e below (T.setTop (mkF m pc Ls Ks)) target :=
  Jvm.Free.XS.icmpYes (g := mkF m pc Ls Ks) h hx hg hpc hd hs hc ho hp hr
theorem zXS_iconst {tb : Tables} [Ours tb] {e : Env} {below : List Frame} {T target : State} {m : MethodId} {c : Code} {pc : Nat} {Ls : Array Slot} {Ks : List Value} (h : At T m c below) (hx : tb.exec = Jvm.exec) (hg : m = m) {i : Int} (hd : decode c.code pc = .ok (.iconst i, 1)) (hr : Steps tb e below (T.setTop (mkF m (pc + 1) (Ls) (.int (Int32.ofInt i) :: Ks))) target) : Steps tb e below (T.setTop (mkF m pc Ls Ks)) target :=
  Jvm.Free.XS.iconst (g := mkF m pc Ls Ks) h hx hg hd hr
theorem zXS_idiv {tb : Tables} [Ours tb] {e : Env} {below : List Frame} {T target : State} {m : MethodId} {c : Code} {pc : Nat} {Ls : Array Slot} {Ks : List Value} (h : At T m c below) (hx : tb.exec = Jvm.exec) (hg : m = m) {x y : Int32} {rest : List Value} (hd : decode c.code pc = .ok (.idiv, 1)) (hs : Ks = .int y :: .int x :: rest) (hy : y ≠ 0) (hr : Steps tb e below (T.setTop (mkF m (pc + 1) (Ls) (.int (x / y) :: rest))) target) : Steps tb e below (T.setTop (mkF m pc Ls Ks)) target :=
  Jvm.Free.XS.idiv (g := mkF m pc Ls Ks) h hx hg hd hs hy hr
theorem zXS_ifNo {tb : Tables} [Ours tb] {e : Env} {below : List Frame} {T target : State} {m : MethodId} {c : Code} {pc : Nat} {Ls : Array Slot} {Ks : List Value} (h : At T m c below) (hx : tb.exec = Jvm.exec) (hg : m = m) {cd : ClassFile.Cond} {o : Int} {x : Int32} {rest : List Value} (hd : decode c.code pc = .ok (.ifCond cd o, 3)) (hs : Ks = .int x :: rest) (hc : ifCond.holds cd x = false) (hr : Steps tb e below (T.setTop (mkF m (pc + 3) (Ls) (rest))) target) : Steps tb e below (T.setTop (mkF m pc Ls Ks)) target :=
  Jvm.Free.XS.ifNo (g := mkF m pc Ls Ks) h hx hg hd hs hc hr
theorem zXS_ifYes {tb : Tables} [Ours tb] {e : Env} {below : List Frame} {T target : State} {m : MethodId} {c : Code} {pc : Nat} {Ls : Array Slot} {Ks : List Value} (h : At T m c below) (hx : tb.exec = Jvm.exec) (hg : m = m) {cd : ClassFile.Cond} {x : Int32} {rest : List Value} {o : Int} {pc0 pc' : Nat} (hpc : pc = pc0) (hd : decode c.code pc = .ok (.ifCond cd o, 3)) (hs : Ks = .int x :: rest) (hc : ifCond.holds cd x = true) (ho : 0 ≤ (pc0 : Int) + o) (hp : ((pc0 : Int) + o).toNat = pc') (hr : Steps tb e below (T.setTop (mkF m (pc') (Ls) (rest))) target) : Steps tb e below (T.setTop (mkF m pc Ls Ks)) target :=
  Jvm.Free.XS.ifYes (g := mkF m pc Ls Ks) h hx hg hpc hd hs hc ho hp hr
theorem zXS_iinc {tb : Tables} [Ours tb] {e : Env} {below : List Frame} {T target : State} {m : MethodId} {c : Code} {pc : Nat} {Ls : Array Slot} {Ks : List Value} (h : At T m c below) (hx : tb.exec = Jvm.exec) (hg : m = m) {k : Nat} {cst : Int} {x : Int32} {l' : Array Slot} (hd : decode c.code pc = .ok (.iinc k cst, 3)) (hl : Ls[k]? = some (.val (.int x))) (hl' : storeLocals Ls k (.int (x + Int32.ofInt cst)) = some l') (hr : Steps tb e below (T.setTop (mkF m (pc + 3) (l') (Ks))) target) : Steps tb e below (T.setTop (mkF m pc Ls Ks)) target :=
  Jvm.Free.XS.iinc (g := mkF m pc Ls Ks) h hx hg hd hl hl' hr
theorem zXS_iload {tb : Tables} [Ours tb] {e : Env} {below : List Frame} {T target : State} {m : MethodId} {c : Code} {pc : Nat} {Ls : Array Slot} {Ks : List Value} (h : At T m c below) (hx : tb.exec = Jvm.exec) (hg : m = m) {k : Nat} {v : Int32} (hd : decode c.code pc = .ok (.iload k, 2)) (hl : Ls[k]? = some (.val (.int v))) (hr : Steps tb e below (T.setTop (mkF m (pc + 2) (Ls) (.int v :: Ks))) target) : Steps tb e below (T.setTop (mkF m pc Ls Ks)) target :=
  Jvm.Free.XS.iload (g := mkF m pc Ls Ks) h hx hg hd hl hr
theorem zXS_iloadN {tb : Tables} [Ours tb] {e : Env} {below : List Frame} {T target : State} {m : MethodId} {c : Code} {pc : Nat} {Ls : Array Slot} {Ks : List Value} (h : At T m c below) (hx : tb.exec = Jvm.exec) (hg : m = m) {k : Fin 4} {v : Int32} (hd : decode c.code pc = .ok (.iload_n k, 1)) (hl : Ls[k.val]? = some (.val (.int v))) (hr : Steps tb e below (T.setTop (mkF m (pc + 1) (Ls) (.int v :: Ks))) target) : Steps tb e below (T.setTop (mkF m pc Ls Ks)) target :=
  Jvm.Free.XS.iloadN (g := mkF m pc Ls Ks) h hx hg hd hl hr
theorem zXS_imul {tb : Tables} [Ours tb] {e : Env} {below : List Frame} {T target : State} {m : MethodId} {c : Code} {pc : Nat} {Ls : Array Slot} {Ks : List Value} (h : At T m c below) (hx : tb.exec = Jvm.exec) (hg : m = m) {x y : Int32} {rest : List Value} (hd : decode c.code pc = .ok (.imul, 1)) (hs : Ks = .int y :: .int x :: rest) (hr : Steps tb e below (T.setTop (mkF m (pc + 1) (Ls) (.int (x * y) :: rest))) target) : Steps tb e below (T.setTop (mkF m pc Ls Ks)) target :=
  Jvm.Free.XS.imul (g := mkF m pc Ls Ks) h hx hg hd hs hr
theorem zXS_ineg {tb : Tables} [Ours tb] {e : Env} {below : List Frame} {T target : State} {m : MethodId} {c : Code} {pc : Nat} {Ls : Array Slot} {Ks : List Value} (h : At T m c below) (hx : tb.exec = Jvm.exec) (hg : m = m) {x : Int32} {rest : List Value} (hd : decode c.code pc = .ok (.ineg, 1)) (hs : Ks = .int x :: rest) (hr : Steps tb e below (T.setTop (mkF m (pc + 1) (Ls) (.int (-x) :: rest))) target) : Steps tb e below (T.setTop (mkF m pc Ls Ks)) target :=
  Jvm.Free.XS.ineg (g := mkF m pc Ls Ks) h hx hg hd hs hr
theorem zXS_istore {tb : Tables} [Ours tb] {e : Env} {below : List Frame} {T target : State} {m : MethodId} {c : Code} {pc : Nat} {Ls : Array Slot} {Ks : List Value} (h : At T m c below) (hx : tb.exec = Jvm.exec) (hg : m = m) {k : Nat} {x : Int32} {rest : List Value} {l' : Array Slot} (hd : decode c.code pc = .ok (.istore k, 2)) (hs : Ks = .int x :: rest) (hl : storeLocals Ls k (.int x) = some l') (hr : Steps tb e below (T.setTop (mkF m (pc + 2) (l') (rest))) target) : Steps tb e below (T.setTop (mkF m pc Ls Ks)) target :=
  Jvm.Free.XS.istore (g := mkF m pc Ls Ks) h hx hg hd hs hl hr
theorem zXS_istoreN {tb : Tables} [Ours tb] {e : Env} {below : List Frame} {T target : State} {m : MethodId} {c : Code} {pc : Nat} {Ls : Array Slot} {Ks : List Value} (h : At T m c below) (hx : tb.exec = Jvm.exec) (hg : m = m) {k : Fin 4} {x : Int32} {rest : List Value} {l' : Array Slot} (hd : decode c.code pc = .ok (.istore_n k, 1)) (hs : Ks = .int x :: rest) (hl : storeLocals Ls k.val (.int x) = some l') (hr : Steps tb e below (T.setTop (mkF m (pc + 1) (l') (rest))) target) : Steps tb e below (T.setTop (mkF m pc Ls Ks)) target :=
  Jvm.Free.XS.istoreN (g := mkF m pc Ls Ks) h hx hg hd hs hl hr
theorem zXS_isub {tb : Tables} [Ours tb] {e : Env} {below : List Frame} {T target : State} {m : MethodId} {c : Code} {pc : Nat} {Ls : Array Slot} {Ks : List Value} (h : At T m c below) (hx : tb.exec = Jvm.exec) (hg : m = m) {x y : Int32} {rest : List Value} (hd : decode c.code pc = .ok (.isub, 1)) (hs : Ks = .int y :: .int x :: rest) (hr : Steps tb e below (T.setTop (mkF m (pc + 1) (Ls) (.int (x - y) :: rest))) target) : Steps tb e below (T.setTop (mkF m pc Ls Ks)) target :=
  Jvm.Free.XS.isub (g := mkF m pc Ls Ks) h hx hg hd hs hr
theorem zXS_sipush {tb : Tables} [Ours tb] {e : Env} {below : List Frame} {T target : State} {m : MethodId} {c : Code} {pc : Nat} {Ls : Array Slot} {Ks : List Value} (h : At T m c below) (hx : tb.exec = Jvm.exec) (hg : m = m) {i : Int} (hd : decode c.code pc = .ok (.sipush i, 3)) (hr : Steps tb e below (T.setTop (mkF m (pc + 3) (Ls) (.int (Int16.ofInt i).toInt32 :: Ks))) target) : Steps tb e below (T.setTop (mkF m pc Ls Ks)) target :=
  Jvm.Free.XS.sipush (g := mkF m pc Ls Ks) h hx hg hd hr
theorem zXT_i2c {tb : Tables} [Ours tb] {e : Env} {below : List Frame} {T target : State} {m : MethodId} {c : Code} {pc : Nat} {Ls : Array Slot} {Ks : List Value} (h : At T m c below) (hx : tb.exec = Jvm.exec) (hg : m = m) {x : Int32} {rest : List Value} (hd : decode c.code pc = .ok (.i2c, 1)) (hs : Ks = .int x :: rest) (hr : Steps tb e below (T.setTop (mkF m (pc + 1) (Ls) (.int (x.toUInt32.toUInt16.toUInt32.toInt32) :: rest))) target) : Steps tb e below (T.setTop (mkF m pc Ls Ks)) target :=
  Jvm.Free.XT.i2c (g := mkF m pc Ls Ks) h hx hg hd hs hr
theorem zXT_ifnonnullYes {tb : Tables} [Ours tb] {e : Env} {below : List Frame} {T target : State} {m : MethodId} {c : Code} {pc : Nat} {Ls : Array Slot} {Ks : List Value} (h : At T m c below) (hx : tb.exec = Jvm.exec) (hg : m = m) {b : Addr} {rest : List Value} {o : Int} {pc0 pc' : Nat} (hpc : pc = pc0) (hd : decode c.code pc = .ok (.ifnonnull o, 3)) (hs : Ks = .ref b :: rest) (ho : 0 ≤ (pc0 : Int) + o) (hp : ((pc0 : Int) + o).toNat = pc') (hr : Steps tb e below (T.setTop (mkF m (pc') (Ls) (rest))) target) : Steps tb e below (T.setTop (mkF m pc Ls Ks)) target :=
  Jvm.Free.XT.ifnonnullYes (g := mkF m pc Ls Ks) h hx hg hpc hd hs ho hp hr
theorem zXT_ishl {tb : Tables} [Ours tb] {e : Env} {below : List Frame} {T target : State} {m : MethodId} {c : Code} {pc : Nat} {Ls : Array Slot} {Ks : List Value} (h : At T m c below) (hx : tb.exec = Jvm.exec) (hg : m = m) {x y : Int32} {rest : List Value} (hd : decode c.code pc = .ok (.ishl, 1)) (hs : Ks = .int y :: .int x :: rest) (hr : Steps tb e below (T.setTop (mkF m (pc + 1) (Ls) (.int (x <<< (y &&& 31)) :: rest))) target) : Steps tb e below (T.setTop (mkF m pc Ls Ks)) target :=
  Jvm.Free.XT.ishl (g := mkF m pc Ls Ks) h hx hg hd hs hr
theorem zXT_ishr {tb : Tables} [Ours tb] {e : Env} {below : List Frame} {T target : State} {m : MethodId} {c : Code} {pc : Nat} {Ls : Array Slot} {Ks : List Value} (h : At T m c below) (hx : tb.exec = Jvm.exec) (hg : m = m) {x y : Int32} {rest : List Value} (hd : decode c.code pc = .ok (.ishr, 1)) (hs : Ks = .int y :: .int x :: rest) (hr : Steps tb e below (T.setTop (mkF m (pc + 1) (Ls) (.int (x >>> (y &&& 31)) :: rest))) target) : Steps tb e below (T.setTop (mkF m pc Ls Ks)) target :=
  Jvm.Free.XT.ishr (g := mkF m pc Ls Ks) h hx hg hd hs hr
theorem zXT_pop {tb : Tables} [Ours tb] {e : Env} {below : List Frame} {T target : State} {m : MethodId} {c : Code} {pc : Nat} {Ls : Array Slot} {Ks : List Value} (h : At T m c below) (hx : tb.exec = Jvm.exec) (hg : m = m) {x : Value} {rest : List Value} (hd : decode c.code pc = .ok (.pop, 1)) (hs : Ks = x :: rest) (hc : x.category = 1) (hr : Steps tb e below (T.setTop (mkF m (pc + 1) (Ls) (rest))) target) : Steps tb e below (T.setTop (mkF m pc Ls Ks)) target :=
  Jvm.Free.XT.pop (g := mkF m pc Ls Ks) h hx hg hd hs hc hr
theorem zRW_iremM {p : Program} {l : Launch} {e : Env} {R : Room} {s : State} {m : MethodId} {args : Array Value} {below : List Frame} {meth : Method} {c : Code} {T : State} {locs : List Loc} {cells slots : Nat} {target : State} {pc : Nat} {Ls : Array Slot} {Ks : List Value} (X : Stand p l e R s m args below meth c T locs cells slots) (hx : p.tables.exec = Jvm.exec) (hg : m = m) {x y : Int32} {rest : List Value} (hd : decode c.code pc = .ok (.irem, 1)) (hs : Ks = .int y :: .int x :: rest) (hy : y ≠ 0) (hr : Steps p.tables e below (T.setTop (mkF m (pc + 1) (Ls) (.int (x % y) :: rest))) target) : Steps p.tables e below (T.setTop (mkF m pc Ls Ks)) target :=
  iremM (g := mkF m pc Ls Ks) X hx hg hd hs hy hr
/-- addresses are told to omega as natural numbers -/
theorem own_ane {a b : Addr} (h : ¬ @Eq Nat a b) : a ≠ b := h
theorem own_anes {a b : Addr} (h : ¬ @Eq Nat b a) : a ≠ b := fun q => h q.symm
theorem own_anq {a b : Addr} (h : a ≠ b) : ¬ @Eq Nat a b := h
theorem own_ale {n : Nat} {a : Addr} (h : @LE.le Nat instLENat n a) : n ≤ a := h
theorem own_alt {n : Nat} {a : Addr} (h : a < n) : @LT.lt Nat instLTNat a n := h
theorem own_fr_nil {n0 : Nat} {N : List Loc} (h : Fr n0 N) : Fr n0 (N ++ []) := Fr.app h (Fr.nil n0)
abbrev sU : Slot := .unset
abbrev sS : Slot := .second
abbrev sJ (x : Int64) : Slot := .val (.long x)
abbrev sI (x : Int32) : Slot := .val (.int x)
abbrev sR (x : Addr) : Slot := .val (.ref x)
theorem tw {a0 : Array Value} {Z : State} (hw : ∀ d ∈ tables_1, d.before a0 Z = true) {d : Jvm.Cond} (i : Nat) (h : tables_1[i]? = some d) : d.before a0 Z = true := hw d (List.mem_of_getElem? h)
abbrev Lat (c : Int32) : Prop := ¬ c < 0 ∧ ¬ (255 : Int32) < c
abbrev Wid (c : Int32) : Prop := ¬ c < 0 ∧ ¬ (65535 : Int32) < c
theorem own_c0 {P : Int32 → Prop} : ∀ x ∈ ([] : List Int32), P x := fun _ h => nomatch h
theorem own_cS {P : Int32 → Prop} {y : Int32} {L : List Int32} (q : P y) (r : ∀ x ∈ L, P x) : ∀ x ∈ y :: L, P x := List.forall_mem_cons.mpr ⟨q, r⟩
theorem own_up {cs : List Int32} (h : ∀ c ∈ cs, Lat c) : ∀ c ∈ cs, Wid c := fun c hc => ⟨(h c hc).1, fun q => (h c hc).2 (by rw [Int32.lt_iff_toInt_lt] at q ⊢; have e1 : (65535 : Int32).toInt = 65535 := rfl; have e2 : (255 : Int32).toInt = 255 := rfl; omega)⟩
theorem own_and255 (x : Int32) : (x &&& 255) = Int32.ofNat (x &&& 255).toBitVec.toNat ∧ (x &&& 255).toBitVec.toNat < 256 := by
  refine ⟨?_, ?_⟩
  · apply Int32.toBitVec_inj.mp
    show _ = BitVec.ofNat 32 _
    rw [BitVec.ofNat_toNat]; simp
  · simp only [Int32.toBitVec_and, BitVec.toNat_and]
    exact Nat.lt_succ_of_le Nat.and_le_right
theorem own_lat255 (x : Int32) : Lat (nar .char ((x &&& (255 : Int32)).toUInt32.toUInt16.toUInt32.toInt32)) := by
  have t : ∀ k : Fin 256, Lat (nar .char ((Int32.ofNat k.val).toUInt32.toUInt16.toUInt32.toInt32)) := by decide +kernel
  obtain ⟨e, h⟩ := own_and255 x
  rw [e]
  exact t ⟨_, h⟩
/-- the elements of an array that stood at the start, from place k on -/
def OwnEls (args : Array Value) (s : State) (t : Term) : Nat → List Value → Prop
  | _, [] => True
  | k, v :: r => (Term.elem t (.int (Int32.ofNat k))).eval args s none [] s = some v ∧ OwnEls args s t (k + 1) r
theorem own_nat32 {k : Nat} (h : k < 2 ^ 31) : (Int32.ofNat k).toNatClampNeg = k := by
  have e : (Int32.ofNat k).toInt = k := Int32.toInt_ofNat_small h
  simp only [Int32.toNatClampNeg, e]; rfl
theorem own_els {args : Array Value} {s : State} {t : Term} {a : Addr} {cl : Cell} (ht : t.eval args s none [] s = some (.ref a)) (hc : s.heap[a]? = some cl) : ∀ (vs : List Value) (k : Nat), k + vs.length < 2 ^ 31 → OwnEls args s t k vs → HasL cl k vs
  | [], _, _, _ => trivial
  | v :: r, k, hb, h => by
    have hk : k < 2 ^ 31 := by simp only [List.length_cons] at hb; omega
    have q := (elem_in h.1 ht (Term.int_eval _) hc).2
    rw [own_nat32 hk] at q
    exact ⟨q, own_els ht hc r (k + 1) (by simp only [List.length_cons] at hb; omega) h.2⟩
theorem own_oldArr {args : Array Value} {s : State} {t : Term} {a : Addr} {ty : FieldType} {z : Int32} {vs : List Value} {dv : Value} (hf : Fit s) (ht : t.eval args s none [] s = some (.ref a)) (hA : (Cond.arrayOf t ty).value args s none s [] = some true)
    (hL : (Term.length t).eval args s none [] s = some (.int z)) (hz : ¬ z < 0) (hl : z.toNatClampNeg = vs.length) (hb : vs.length < 2 ^ 31) (hE : OwnEls args s t 0 vs) : ∃ k, Arv s s.heap a k ty z vs dv := by
  obtain ⟨c, A⟩ := Arr.start ht hA
  obtain ⟨x, c', e1, h1, -⟩ := Term.length_spec hL
  cases ht.symm.trans e1
  have h2 := A.fin (Vm.Alike.refl _)
  cases h1.symm.trans h2
  have h31 := SBG.length_lt ht h1 hL
  have e : c.slots.size.toInt32 = z := by
    have q : (Term.length t).eval args s none [] s = some (.int (Int32.ofNat c.slots.size)) := by simp [Term.eval, ht, h1, h31]
    have q2 := Option.some.inj (q.symm.trans hL)
    exact Value.int.inj q2
  exact ⟨c.cls, Arv.start hf A h31 e hz hl (own_els ht A.1 vs 0 (by omega) hE)⟩
theorem own_eqI {args : Array Value} {s : State} {t : Term} {z : Int32} (h : (Cond.eq t (.int z)).value args s none s [] = some true) : t.eval args s none [] s = some (.int z) := Cond.eq_int (Cond.before_iff.mpr h) rfl
theorem own_eqR {args : Array Value} {s : State} {t u : Term} {a : Addr} (hu : u.eval args s none [] s = some (.ref a)) (h : (Cond.eq t u).value args s none s [] = some true) : t.eval args s none [] s = some (.ref a) := by
  obtain ⟨x, y, h1, h2, k1, k2⟩ := cmp_v (Or.inl h)
  cases hu.symm.trans h2
  have hx : x.isRef = true := by cases x <;> simp [Kin, Value.isRef] at k1 ⊢
  have q := gotT (eq_R h1 h2 hx rfl) h
  rw [h1, q]
/-- a payer whose premise and promise speak of the tables too -/
theorem backOfJ {p : Program} {l : Launch} {e : Env} {R : Room} {s : State} {args : Array Value} {below : List Frame} {Z : State} {a0 : Array Value} {h : Heap} {y : MethodName} {bytes : ByteArray} {maxL : Nat} {ret : Option FieldType} {rm : Room} {len W : Nat} {as' : Array Value} {Φ : Vm → Prop} {Q : Option Value → Heap → Vm → List Loc → Prop}
    (hM : MetFree l y (head1 [Cond.code y bytes maxL ret] rm) (fun a U => a = as' ∧ Z.Warmed39 U.vm ∧ U.heap = h ∧ Φ U.vm) (fun _ _ _ _ _ => True) (fun _ U o U' => ∃ v L, o = .returned v ∧ Q v U'.heap U'.vm L ∧ ReturnedEndW U o U' L rm.cells rm.slots))
    (hZ : Z.Warmed39 s.vm) (wc : (Cond.code y bytes maxL ret).before a0 Z = true) (wz : (Cond.initialized y.cls).before a0 Z = true) (hf : rm.frames + 1 ≤ R.frames) (hl : W + (maxL + 11) + rm.locals ≤ R.locals) :
    BackS l R p e below s args y len W (fun A a => a = as' ∧ A.U.heap = h ∧ Φ A.U.vm ∧ A.cells + rm.cells ≤ R.cells ∧ A.slots + rm.slots ≤ R.slots)
      (fun A _ v B => ∃ L, Q v B.U.heap B.U.vm L ∧ B.locs = A.locs ++ L ∧ B.cells = A.cells + rm.cells ∧ B.slots = A.slots + rm.slots) := by
  refine BackS.of_freeW (bytes := bytes) (maxL := maxL) (ret := ret) (E := fun _ _ o t L k n => k = rm.cells ∧ n = rm.slots ∧ ∃ v, o = .returned v ∧ Q v t.heap t.vm L) hM hf hl ?_ ?_ ?_ ?_ ?_
  · intro m meth c A a Y hp
    have hU : Z.Warmed39 A.U.vm := wtrans hZ Y.warmed
    exact ⟨by show (Cond.and _ .tt).before a A.U = true; rw [Cond.before_and, mv hU wc]; rfl, mv hU wc, mv hU wz, hp.2.2.2.1, hp.2.2.2.2⟩
  · intro m meth c A a g mk Y hp
    exact ⟨hp.1, wtrans hZ Y.warmed, hp.2.1, hp.2.2.1⟩
  · intro _ _ _ _ _ _ _ _ _
    trivial
  · intro a first o t hq
    obtain ⟨v, L, h1, h2, h3⟩ := hq
    exact ⟨L, _, _, h3, rfl, rfl, v, h1, h2⟩
  · intro m meth c A a g mk v t L k n Y hp h1 h2 hE
    obtain ⟨e1, e2, v', e3, e4⟩ := hE
    cases e3
    subst e1 e2
    exact ⟨L, e4, rfl, rfl, rfl⟩
/-- nothing has been interned since the start, or String's own empty constant is booked and known -/
def EmJ (Z : State) (vm : Vm) (h : Heap) : Prop := IB Z vm [] ∨ IB Z vm [""] ∧ ∃ (a t : Addr) (kb : ClassId), Lit (Z.setVm vm) "java/lang/String" 7 a ∧ Exa Z h a "java/lang/String" ∧ Fld Z h a "java/lang/String" "coder" "B" (.int 0) ∧ Fld Z h a "java/lang/String" "value" "[B" (.ref t) ∧ Arv Z h t kb .byte (0 : Int32) [] (.int 0)
theorem EmJ.keep {Z : State} {vm : Vm} {h h' : Heap} (E : EmJ Z vm h) (K : Keep h h' []) : EmJ Z vm h' := by
  rcases E with I | ⟨I, a, t, kb, L, e1, e2, e3, e4⟩
  · exact Or.inl I
  · exact Or.inr ⟨I, a, t, kb, L, e1.keep K, e2.keep K nin0, e3.keep K nin0, e4.keep K nin0⟩
theorem EmJ.warm {Z s : State} {vm0 vm1 : Vm} {h : Heap} (E : EmJ Z vm0 h) (W : (s.setVm vm0).WarmedH vm1) : EmJ Z vm1 h := by
  rcases E with I | ⟨I, a, t, kb, L, r⟩
  · obtain ⟨more, e1, e2⟩ := I
    exact Or.inl ⟨more, (W.interned_eq).trans e1, e2⟩
  · obtain ⟨more, e1, e2⟩ := I
    exact Or.inr ⟨⟨more, (W.interned_eq).trans e1, e2⟩, a, t, kb, Lit.stays (s := s) (vm0 := vm0) L W.wide, r⟩
theorem EmJ.ib {Z : State} {vm : Vm} {h : Heap} (E : EmJ Z vm h) : IB Z vm [""] := by
  rcases E with ⟨more, e1, e2⟩ | ⟨I, -⟩
  · exact ⟨more, e1, fun q hq => by obtain ⟨t, ht, -⟩ := e2 q hq; exact absurd ht (by simp)⟩
  · exact I
/-- the bytes of Latin-1 chars -/
def lb (cs : List Int32) : List Value := (cs.map fun c => c.toInt8.toInt32).map Value.int
theorem lb_len (cs : List Int32) : (lb cs).length = cs.length := by simp [lb]
theorem lb_app (cs ds : List Int32) : lb (cs ++ ds) = lb cs ++ lb ds := by simp [lb]
theorem own_toI {k : Nat} (h : k < 2 ^ 31) : (Int32.ofNat k).toInt = k := Int32.toInt_ofNat_small h
theorem own_add32 (a b : Nat) : Int32.ofNat a + Int32.ofNat b = Int32.ofNat (a + b) := (Int32.ofNat_add a b).symm
theorem own_shl0 (x : Int32) : x <<< ((0 : Int32) &&& 31) = x := by
  have e : ((0 : Int32) &&& 31) = 0 := rfl
  rw [e]
  apply Int32.toBitVec_inj.mp
  simp
theorem own_sub0 (x : Int32) : x - (0 : Int32) = x := by simp
theorem own_lt32 {a b : Nat} (hb : b < 2 ^ 31) (h : a < b) : Int32.ofNat a < Int32.ofNat b := by
  rw [Int32.lt_iff_toInt_lt, own_toI hb, own_toI (by omega)]; omega
theorem own_nlt32 {a b : Nat} (ha : a < 2 ^ 31) (hb : b < 2 ^ 31) (h : b ≤ a) : ¬ Int32.ofNat a < Int32.ofNat b := by
  rw [Int32.lt_iff_toInt_lt, own_toI hb, own_toI ha]; omega
theorem own_nn {k : Nat} (h : k < 2 ^ 31) : ¬ Int32.ofNat k < 0 := own_nlt32 (b := 0) h (by omega) (Nat.zero_le _)
theorem own_z0 : (0 : Int32).toNatClampNeg = 0 := rfl
theorem own_z16 : (16 : Int32).toNatClampNeg = 16 := rfl
theorem own_ens {k : Nat} (h : k ≤ 16) : ¬ (0 : Int32) < Int32.ofNat k - (16 : Int32) := by
  have t : ∀ j : Fin 17, ¬ (0 : Int32) < Int32.ofNat j.val - (16 : Int32) := by decide
  exact t ⟨k, by omega⟩
theorem own_rng {vs : List Value} {dv : Value} {n : Nat} (h : vs.length = n) : vs = (List.range n).map fun i => vs.getD (0 + i) dv := by
  apply List.ext_getElem
  · simp [h]
  · intro i h1 h2
    simp [List.getD_eq_getElem?_getD, h1]
theorem own_us {vs : List Value} {dv : Value} {n : Nat} (h : vs.length = n) (h31 : n < 2 ^ 31) : vs = (List.range (Int32.ofNat n).toNatClampNeg).map fun i => vs.getD ((0 : Int32).toNatClampNeg + i) dv := by
  rw [own_nat32 h31]; exact own_rng h
theorem own_cat {Z : State} {h : Heap} {a : Addr} {ka : ClassId} {ty : FieldType} {z : Int32} {xs us : List Value} {d : Value} {k n : Nat} (hk : xs.length = k) (k31 : k < 2 ^ 31) (n31 : n < 2 ^ 31)
    (V : Arv Z h a ka ty z ((xs ++ List.replicate 16 d).take (Int32.ofNat k).toNatClampNeg ++ us ++ (xs ++ List.replicate 16 d).drop ((Int32.ofNat k).toNatClampNeg + (Int32.ofNat n).toNatClampNeg)) d) : Arv Z h a ka ty z (xs ++ us) d := by
  rw [own_nat32 k31, own_nat32 n31] at V
  have e1 : (xs ++ List.replicate 16 d).take k = xs := by rw [← hk]; simp
  have e2 : (xs ++ List.replicate 16 d).drop (k + n) = List.replicate (16 - n) d := by rw [← hk, List.drop_append, List.drop_eq_nil_of_le (by omega), List.nil_append, Nat.add_sub_cancel_left, List.drop_replicate]
  rw [e1, e2] at V
  exact V.pad fun i => (pad_rep (xs ++ us) d (16 - n) i).symm
theorem own_cpy {Z : State} {h : Heap} {a : Addr} {ka : ClassId} {ty : FieldType} {z : Int32} {xs : List Value} {d : Value} {k : Nat} (k31 : k < 2 ^ 31)
    (V : Arv Z h a ka ty z (([] ++ List.replicate k d).take (0 : Int32).toNatClampNeg ++ xs ++ ([] ++ List.replicate k d).drop ((0 : Int32).toNatClampNeg + (Int32.ofNat k).toNatClampNeg)) d) : Arv Z h a ka ty z xs d := by
  rw [own_nat32 k31, own_z0] at V
  have e : ([] ++ List.replicate k d).take 0 ++ xs ++ ([] ++ List.replicate k d).drop (0 + k) = xs := by simp
  rw [e] at V
  exact V
theorem own_arvne {Z : State} {h : Heap} {a b : Addr} {k k' : ClassId} {ty ty' : FieldType} {z z' : Int32} {vs vs' : List Value} {d d' : Value} (A : Arv Z h a k ty z vs d) (B : Arv Z h b k' ty' z' vs' d') (hz : z.toNatClampNeg ≠ z'.toNatClampNeg) : ¬ @Eq Nat a b := fun q => by
  have q' : a = b := q
  subst q'
  obtain ⟨c, A1, -, s1, -⟩ := A
  obtain ⟨c', B1, -, s2, -⟩ := B
  have e := A1.1.symm.trans B1.1
  cases e
  exact hz (s1.symm.trans s2)

set_option maxRecDepth 65536 in
theorem own_hws : ∀ d ∈ StrChars.Road.words, d ∈ tables_1 := by decide +kernel
set_option maxRecDepth 65536 in
theorem own_hln : ∀ d ∈ StrChars.Road.wordsLen, d ∈ tables_1 := by decide +kernel
set_option maxRecDepth 65536 in
theorem own_hch : ∀ d ∈ StrChars.Road.wordsChN, d ∈ tables_1 := by decide +kernel
def Qcod (Z : State) (x : Addr) (G1 : Int32) (h0 : Heap) (n0 : Nat) (v : Option Value) (h : Heap) (L : List Loc) : Prop := v = some (.int (0 : Int32)) ∧ Fr n0 L ∧ h = h0
theorem pn_0 : plainName "java/lang/String" = true := by first | (simp [plainName, overriddenIn]; done) | decide +kernel
theorem ef_cod (m : MethodId) (x0 : Addr) : entryFrame m #[(.ref x0)] 1 = mkF m 0 #[sR x0] [] := by first | (simp [entryFrame, mkF, argsToLocals, Value.category]; done) | rfl
theorem d12_0 : decode jdk_42_method_152_code 0 = .ok (.getstatic 38, 3) := by decide +kernel
theorem d12_3 : decode jdk_42_method_152_code 3 = .ok (.ifCond .eq 10, 3) := by decide +kernel
theorem d12_6 : decode jdk_42_method_152_code 6 = .ok (.aload_n 0, 1) := by decide +kernel
theorem d12_7 : decode jdk_42_method_152_code 7 = .ok (.getfield 15, 3) := by decide +kernel
theorem d12_10 : decode jdk_42_method_152_code 10 = .ok (.goto 4, 3) := by decide +kernel
theorem d12_14 : decode jdk_42_method_152_code 14 = .ok (.ireturn, 1) := by decide +kernel
set_option maxRecDepth 65536 in
set_option maxHeartbeats 40000000 in
theorem cod (l : Launch) (Z : State) (a0 : Array Value) (hw : ∀ d ∈ tables_1, d.before a0 Z = true) (ws : List Jvm.Cond) (x : Addr) (G1 : Int32) (h0 : Heap) (n0 : Nat) (Z0 : n0 ≤ h0.size) (q0 : Sta Z Z.heap "java/lang/String" "COMPACT_STRINGS" "Z" (.int G1)) (P5 : ¬ (G1 = (0 : Int32))) (q2 : (Old Z Z.heap.size h0 ∧ @LE.le Nat instLENat Z.heap.size n0)) (q3 : Fld Z h0 x "java/lang/String" "coder" "B" (.int (0 : Int32))) :
    MetFree l (⟨"java/lang/String", "coder", "()B"⟩ : MethodName) (head1 (Jvm.Cond.code (⟨"java/lang/String", "coder", "()B"⟩ : MethodName) jdk_42_method_152_code 1 (some .byte) :: ws) ({ frames := 0, cells := 0, slots := 0, locals := 0 } : Room)) (fun a_ U_ => a_ = #[(.ref x)] ∧ Z.Warmed39 U_.vm ∧ U_.heap = h0) (fun _ _ _ _ _ => True) (fun _ U_ o_ V_ => ∃ v_ L_, o_ = .returned v_ ∧ Qcod Z x G1 h0 n0 v_ V_.heap L_ ∧ FrameEnd U_ o_ V_ L_ ({ frames := 0, cells := 0, slots := 0, locals := 0 } : Room).cells ({ frames := 0, cells := 0, slots := 0, locals := 0 } : Room).slots) := by
  refine MetFree.of_bodySF (plainFor_of_name pn_0) hisR ?_
  intro p e s m args below meth c s₁ Bd hml0 hP hK
  obtain ⟨rfl, hZ, hh⟩ := hP
  have hx := Bd.exec
  have hby := Bd.bytes
  have hml : c.maxLocals = 1 := hml0
  have hown : s.vm.findClass "java/lang/String" = some m.cls := findClass_of_methodNamed Bd.named
  have hnm := (name_of_methodNamed Bd.named Bd.method).1
  have X0 : Stand p l e ({ frames := 0, cells := 0, slots := 0, locals := 0 } : Room) s m #[(.ref x)] below meth c s₁ [] 0 0 := Stand.of_body Bd
  have e0 : s₁.heap = h0 := by rw [← hh, Bd.state]; rfl
  have N0 := Fr.nil n0
  have Oo := q2.1
  have zo := q2.2
  have lt1 := own_alt q3.lt
  refine Gl.go (A := s₁.setTop (entryFrame m #[(.ref x)] 1)) (P := fun o_ U_ => ∃ v_ L_, o_ = .returned v_ ∧ Qcod Z x G1 h0 n0 v_ U_.heap L_ ∧ FrameEnd s o_ U_ L_ ({ frames := 0, cells := 0, slots := 0, locals := 0 } : Room).cells ({ frames := 0, cells := 0, slots := 0, locals := 0 } : Room).slots) (fun t_ k_ => castTop (ef_cod m x) k_) ?_
  show Gl p.tables e below _ (s₁.setTop (mkF m 0 #[sR x] []))
  refine gGetS (host := "") Gl.cl X0 hx hZ hown (Or.inl (tw hw 83 rfl)) Via.refl e0 (q0.ext Oo.2) rfl (hb hby d12_0) ?_
  intro T2 X2 e2
  refine Gl.go (fun _ hr => zXS_ifNo X2.here hx rfl (hb hby d12_3) rfl (XT.i0_eq_f P5) (zXS_aloadN X2.here hx rfl (hb hby d12_6) rfl rfl hr)) ?_
  refine gGetF (host := "") Gl.cl X2 hx hZ hown (Or.inl (tw hw 21 rfl)) Via.refl e2 q3 rfl rfl (hb hby d12_7) ?_
  intro T3 X3 e3
  refine Gl.go (fun _ hr => zXS_goto X3.here hx rfl (pc0 := 10) (pc' := 14) rfl (hb hby d12_10) (by decide) (by decide) hr) ?_
  obtain ⟨fs, hr, hrun, hended, hW, hsame⟩ := X3.leave (v := some (.int (0 : Int32))) (fun h => by rw [Bd.returns] at h; cases h)
  refine ⟨_, _, retN X3 hx (t := .byte) Bd.returns (by simp) (hb hby d12_14) hr, hrun, hended, _, _, rfl, ?_, ⟨⟨_, rfl⟩, hW, hsame.mono (by decide) (by decide)⟩⟩
  show Qcod Z x G1 h0 n0 _ T3.heap _
  rw [e3]
  exact ⟨rfl, N0, rfl⟩
def Qil1 (Z : State) (b : Addr) (G1 : Int32) (h0 : Heap) (n0 : Nat) (v : Option Value) (h : Heap) (L : List Loc) : Prop := v = some (.int (1 : Int32)) ∧ Fr n0 L ∧ h = h0
theorem pn_1 : plainName "java/lang/AbstractStringBuilder" = true := by first | (simp [plainName, overriddenIn]; done) | decide +kernel
theorem ef_il1 (m : MethodId) (x0 : Addr) : entryFrame m #[(.ref x0)] 1 = mkF m 0 #[sR x0] [] := by first | (simp [entryFrame, mkF, argsToLocals, Value.category]; done) | rfl
theorem d20_0 : decode jdk_68_method_68_code 0 = .ok (.getstatic 18, 3) := by decide +kernel
theorem d20_3 : decode jdk_68_method_68_code 3 = .ok (.ifCond .eq 14, 3) := by decide +kernel
theorem d20_6 : decode jdk_68_method_68_code 6 = .ok (.aload_n 0, 1) := by decide +kernel
theorem d20_7 : decode jdk_68_method_68_code 7 = .ok (.getfield 22, 3) := by decide +kernel
theorem d20_10 : decode jdk_68_method_68_code 10 = .ok (.ifCond .ne 7, 3) := by decide +kernel
theorem d20_13 : decode jdk_68_method_68_code 13 = .ok (.iconst 1, 1) := by decide +kernel
theorem d20_14 : decode jdk_68_method_68_code 14 = .ok (.goto 4, 3) := by decide +kernel
theorem d20_18 : decode jdk_68_method_68_code 18 = .ok (.ireturn, 1) := by decide +kernel
set_option maxRecDepth 65536 in
set_option maxHeartbeats 40000000 in
theorem il1 (l : Launch) (Z : State) (a0 : Array Value) (hw : ∀ d ∈ tables_1, d.before a0 Z = true) (ws : List Jvm.Cond) (b : Addr) (G1 : Int32) (h0 : Heap) (n0 : Nat) (Z0 : n0 ≤ h0.size) (q0 : Sta Z Z.heap "java/lang/String" "COMPACT_STRINGS" "Z" (.int G1)) (P5 : ¬ (G1 = (0 : Int32))) (q2 : (Old Z Z.heap.size h0 ∧ @LE.le Nat instLENat Z.heap.size n0)) (q3 : Fld Z h0 b "java/lang/AbstractStringBuilder" "coder" "B" (.int (0 : Int32))) :
    MetFree l (⟨"java/lang/AbstractStringBuilder", "isLatin1", "()Z"⟩ : MethodName) (head1 (Jvm.Cond.code (⟨"java/lang/AbstractStringBuilder", "isLatin1", "()Z"⟩ : MethodName) jdk_68_method_68_code 1 (some .boolean) :: ws) ({ frames := 0, cells := 0, slots := 0, locals := 0 } : Room)) (fun a_ U_ => a_ = #[(.ref b)] ∧ Z.Warmed39 U_.vm ∧ U_.heap = h0) (fun _ _ _ _ _ => True) (fun _ U_ o_ V_ => ∃ v_ L_, o_ = .returned v_ ∧ Qil1 Z b G1 h0 n0 v_ V_.heap L_ ∧ FrameEnd U_ o_ V_ L_ ({ frames := 0, cells := 0, slots := 0, locals := 0 } : Room).cells ({ frames := 0, cells := 0, slots := 0, locals := 0 } : Room).slots) := by
  refine MetFree.of_bodySF (plainFor_of_name pn_1) hisR ?_
  intro p e s m args below meth c s₁ Bd hml0 hP hK
  obtain ⟨rfl, hZ, hh⟩ := hP
  have hx := Bd.exec
  have hby := Bd.bytes
  have hml : c.maxLocals = 1 := hml0
  have hown : s.vm.findClass "java/lang/AbstractStringBuilder" = some m.cls := findClass_of_methodNamed Bd.named
  have hnm := (name_of_methodNamed Bd.named Bd.method).1
  have X0 : Stand p l e ({ frames := 0, cells := 0, slots := 0, locals := 0 } : Room) s m #[(.ref b)] below meth c s₁ [] 0 0 := Stand.of_body Bd
  have e0 : s₁.heap = h0 := by rw [← hh, Bd.state]; rfl
  have N0 := Fr.nil n0
  have Oo := q2.1
  have zo := q2.2
  have lt4 := own_alt q3.lt
  refine Gl.go (A := s₁.setTop (entryFrame m #[(.ref b)] 1)) (P := fun o_ U_ => ∃ v_ L_, o_ = .returned v_ ∧ Qil1 Z b G1 h0 n0 v_ U_.heap L_ ∧ FrameEnd s o_ U_ L_ ({ frames := 0, cells := 0, slots := 0, locals := 0 } : Room).cells ({ frames := 0, cells := 0, slots := 0, locals := 0 } : Room).slots) (fun t_ k_ => castTop (ef_il1 m b) k_) ?_
  show Gl p.tables e below _ (s₁.setTop (mkF m 0 #[sR b] []))
  refine gGetS (host := "") Gl.cl X0 hx hZ hown (Or.inl (tw hw 58 rfl)) Via.refl e0 (q0.ext Oo.2) rfl (hb hby d20_0) ?_
  intro T5 X5 e5
  refine Gl.go (fun _ hr => zXS_ifNo X5.here hx rfl (hb hby d20_3) rfl (XT.i0_eq_f P5) (zXS_aloadN X5.here hx rfl (hb hby d20_6) rfl rfl hr)) ?_
  refine gGetF (host := "") Gl.cl X5 hx hZ hown (Or.inl (tw hw 61 rfl)) Via.refl e5 q3 rfl rfl (hb hby d20_7) ?_
  intro T6 X6 e6
  refine Gl.go (fun _ hr => zXS_ifNo X6.here hx rfl (hb hby d20_10) rfl (XT.i0_ne_f (by decide)) (zXS_iconst X6.here hx rfl (hb hby d20_13) (zXS_goto X6.here hx rfl (pc0 := 14) (pc' := 18) rfl (hb hby d20_14) (by decide) (by decide) hr))) ?_
  obtain ⟨fs, hr, hrun, hended, hW, hsame⟩ := X6.leave (v := some (.int (1 : Int32))) (fun h => by rw [Bd.returns] at h; cases h)
  refine ⟨_, _, retN X6 hx (t := .boolean) Bd.returns (by simp) (hb hby d20_18) hr, hrun, hended, _, _, rfl, ?_, ⟨⟨_, rfl⟩, hW, hsame.mono (by decide) (by decide)⟩⟩
  show Qil1 Z b G1 h0 n0 _ T6.heap _
  rw [e6]
  exact ⟨rfl, N0, rfl⟩
def Qens (Z : State) (b : Addr) (a : Addr) (ka : ClassId) (k : Nat) (xs : List Value) (h0 : Heap) (n0 : Nat) (v : Option Value) (h : Heap) (L : List Loc) : Prop := v = none ∧ Fr n0 L ∧ h = h0
theorem ef_ens (m : MethodId) (x0 : Addr) (x1 : Int32) : entryFrame m #[(.ref x0), (.int x1)] 3 = mkF m 0 #[sR x0, sI x1, sU] [] := by first | (simp [entryFrame, mkF, argsToLocals, Value.category]; done) | rfl
theorem d13_0 : decode jdk_68_method_9_code 0 = .ok (.aload_n 0, 1) := by decide +kernel
theorem d13_1 : decode jdk_68_method_9_code 1 = .ok (.getfield 15, 3) := by decide +kernel
theorem d13_4 : decode jdk_68_method_9_code 4 = .ok (.arraylength, 1) := by decide +kernel
theorem d13_5 : decode jdk_68_method_9_code 5 = .ok (.aload_n 0, 1) := by decide +kernel
theorem d13_6 : decode jdk_68_method_9_code 6 = .ok (.getfield 22, 3) := by decide +kernel
theorem d13_9 : decode jdk_68_method_9_code 9 = .ok (.ishr, 1) := by decide +kernel
theorem d13_10 : decode jdk_68_method_9_code 10 = .ok (.istore_n 2, 1) := by decide +kernel
theorem d13_11 : decode jdk_68_method_9_code 11 = .ok (.iload_n 1, 1) := by decide +kernel
theorem d13_12 : decode jdk_68_method_9_code 12 = .ok (.iload_n 2, 1) := by decide +kernel
theorem d13_13 : decode jdk_68_method_9_code 13 = .ok (.isub, 1) := by decide +kernel
theorem d13_14 : decode jdk_68_method_9_code 14 = .ok (.ifCond .le 24, 3) := by decide +kernel
theorem d13_38 : decode jdk_68_method_9_code 38 = .ok (.return_, 1) := by decide +kernel
set_option maxRecDepth 65536 in
set_option maxHeartbeats 40000000 in
theorem ens (l : Launch) (Z : State) (a0 : Array Value) (hw : ∀ d ∈ tables_1, d.before a0 Z = true) (ws : List Jvm.Cond) (b : Addr) (a : Addr) (ka : ClassId) (k : Nat) (xs : List Value) (h0 : Heap) (n0 : Nat) (Z0 : n0 ≤ h0.size) (q0 : Fld Z h0 b "java/lang/AbstractStringBuilder" "value" "[B" (.ref a)) (q1 : Fld Z h0 b "java/lang/AbstractStringBuilder" "coder" "B" (.int (0 : Int32))) (q2 : Arv Z h0 a ka .byte (16 : Int32) xs (.int 0)) (hk : k ≤ 16) :
    MetFree l (⟨"java/lang/AbstractStringBuilder", "ensureCapacityInternal", "(I)V"⟩ : MethodName) (head1 (Jvm.Cond.code (⟨"java/lang/AbstractStringBuilder", "ensureCapacityInternal", "(I)V"⟩ : MethodName) jdk_68_method_9_code 3 none :: ws) ({ frames := 0, cells := 0, slots := 0, locals := 0 } : Room)) (fun a_ U_ => a_ = #[(.ref b), (.int (Int32.ofNat k))] ∧ Z.Warmed39 U_.vm ∧ U_.heap = h0) (fun _ _ _ _ _ => True) (fun _ U_ o_ V_ => ∃ v_ L_, o_ = .returned v_ ∧ Qens Z b a ka k xs h0 n0 v_ V_.heap L_ ∧ FrameEnd U_ o_ V_ L_ ({ frames := 0, cells := 0, slots := 0, locals := 0 } : Room).cells ({ frames := 0, cells := 0, slots := 0, locals := 0 } : Room).slots) := by
  refine MetFree.of_bodySF (plainFor_of_name pn_1) hisR ?_
  intro p e s m args below meth c s₁ Bd hml0 hP hK
  obtain ⟨rfl, hZ, hh⟩ := hP
  have hx := Bd.exec
  have hby := Bd.bytes
  have hml : c.maxLocals = 3 := hml0
  have hown : s.vm.findClass "java/lang/AbstractStringBuilder" = some m.cls := findClass_of_methodNamed Bd.named
  have hnm := (name_of_methodNamed Bd.named Bd.method).1
  have X0 : Stand p l e ({ frames := 0, cells := 0, slots := 0, locals := 0 } : Room) s m #[(.ref b), (.int (Int32.ofNat k))] below meth c s₁ [] 0 0 := Stand.of_body Bd
  have e0 : s₁.heap = h0 := by rw [← hh, Bd.state]; rfl
  have N0 := Fr.nil n0
  have lt7 := own_alt q0.lt
  have lt8 := own_alt q1.lt
  have lt9 := own_alt q2.lt
  refine Gl.go (A := s₁.setTop (entryFrame m #[(.ref b), (.int (Int32.ofNat k))] 3)) (P := fun o_ U_ => ∃ v_ L_, o_ = .returned v_ ∧ Qens Z b a ka k xs h0 n0 v_ U_.heap L_ ∧ FrameEnd s o_ U_ L_ ({ frames := 0, cells := 0, slots := 0, locals := 0 } : Room).cells ({ frames := 0, cells := 0, slots := 0, locals := 0 } : Room).slots) (fun t_ k_ => castTop (ef_ens m b (Int32.ofNat k)) k_) ?_
  show Gl p.tables e below _ (s₁.setTop (mkF m 0 #[sR b, sI (Int32.ofNat k), sU] []))
  refine Gl.go (fun _ hr => zXS_aloadN X0.here hx rfl (hb hby d13_0) rfl rfl hr) ?_
  refine gGetF (host := "") Gl.cl X0 hx hZ hown (Or.inl (tw hw 59 rfl)) Via.refl e0 q0 rfl rfl (hb hby d13_1) ?_
  intro T10 X10 e10
  obtain ⟨c11, a11, q11, s11, m11, H11, U11⟩ := id q2
  refine gLen Gl.cl X10 hx hZ e10 a11 s11 m11 rfl rfl (hb hby d13_4) ?_
  refine Gl.go (fun _ hr => zXS_aloadN X10.here hx rfl (hb hby d13_5) rfl rfl hr) ?_
  refine gGetF (host := "") Gl.cl X10 hx hZ hown (Or.inl (tw hw 61 rfl)) Via.refl e10 q1 rfl rfl (hb hby d13_6) ?_
  intro T12 X12 e12
  refine Gl.go (fun _ hr => zXT_ishr X12.here hx rfl (hb hby d13_9) rfl (zXS_istoreN X12.here hx rfl (hb hby d13_10) rfl (l' := #[sR b, sI (Int32.ofNat k), sI 16]) rfl (zXS_iloadN X12.here hx rfl (hb hby d13_11) rfl (zXS_iloadN X12.here hx rfl (hb hby d13_12) rfl (zXS_isub X12.here hx rfl (hb hby d13_13) rfl hr))))) ?_
  refine Gl.go (fun _ hr => zXS_ifYes X12.here hx rfl (pc0 := 14) (pc' := 38) rfl (hb hby d13_14) rfl (XT.i0_le_t (own_ens hk)) (by decide) (by decide) hr) ?_
  obtain ⟨fs, hr, hrun, hended, hW, hsame⟩ := X12.leave (v := none) (fun _ => rfl)
  refine ⟨_, _, X12.returnOut hx Bd.returns (hb hby d13_38) hr, hrun, hended, _, _, rfl, ?_, ⟨⟨_, rfl⟩, hW, hsame.mono (by decide) (by decide)⟩⟩
  show Qens Z b a ka k xs h0 n0 _ T12.heap _
  rw [e12]
  exact ⟨rfl, N0, rfl⟩
def Qinf (Z : State) (b : Addr) (x : Addr) (G1 : Int32) (h0 : Heap) (n0 : Nat) (v : Option Value) (h : Heap) (L : List Loc) : Prop := v = none ∧ Fr n0 L ∧ h = h0
theorem ef_inf (m : MethodId) (x0 : Addr) (x1 : Addr) : entryFrame m #[(.ref x0), (.ref x1)] 2 = mkF m 0 #[sR x0, sR x1] [] := by first | (simp [entryFrame, mkF, argsToLocals, Value.category]; done) | rfl
theorem d15_0 : decode jdk_68_method_71_code 0 = .ok (.getstatic 18, 3) := by decide +kernel
theorem d15_3 : decode jdk_68_method_71_code 3 = .ok (.ifCond .eq 18, 3) := by decide +kernel
theorem d15_6 : decode jdk_68_method_71_code 6 = .ok (.aload_n 0, 1) := by decide +kernel
theorem d15_7 : decode jdk_68_method_71_code 7 = .ok (.getfield 22, 3) := by decide +kernel
theorem d15_10 : decode jdk_68_method_71_code 10 = .ok (.aload_n 1, 1) := by decide +kernel
theorem d15_11 : decode jdk_68_method_71_code 11 = .ok (.invokevirtual 40, 3) := by decide +kernel
theorem pd_0 : parseMethodDescriptor "()B" = some ⟨[], some .byte⟩ := by decide +kernel
theorem d15_14 : decode jdk_68_method_71_code 14 = .ok (.if_icmp .eq 7, 3) := by decide +kernel
theorem d15_21 : decode jdk_68_method_71_code 21 = .ok (.return_, 1) := by decide +kernel
set_option maxRecDepth 65536 in
set_option maxHeartbeats 40000000 in
theorem inf (l : Launch) (Z : State) (a0 : Array Value) (hw : ∀ d ∈ tables_1, d.before a0 Z = true) (ws : List Jvm.Cond) (b : Addr) (x : Addr) (G1 : Int32) (h0 : Heap) (n0 : Nat) (Z0 : n0 ≤ h0.size) (q0 : Sta Z Z.heap "java/lang/String" "COMPACT_STRINGS" "Z" (.int G1)) (P5 : ¬ (G1 = (0 : Int32))) (q2 : (Old Z Z.heap.size h0 ∧ @LE.le Nat instLENat Z.heap.size n0)) (q3 : Fld Z h0 b "java/lang/AbstractStringBuilder" "coder" "B" (.int (0 : Int32))) (q4 : Exa Z h0 x "java/lang/String") (q5 : Fld Z h0 x "java/lang/String" "coder" "B" (.int (0 : Int32))) :
    MetFree l (⟨"java/lang/AbstractStringBuilder", "inflateIfNeededFor", "(Ljava/lang/String;)V"⟩ : MethodName) (head1 (Jvm.Cond.code (⟨"java/lang/AbstractStringBuilder", "inflateIfNeededFor", "(Ljava/lang/String;)V"⟩ : MethodName) jdk_68_method_71_code 2 none :: ws) ({ frames := 1, cells := 0, slots := 0, locals := 14 } : Room)) (fun a_ U_ => a_ = #[(.ref b), (.ref x)] ∧ Z.Warmed39 U_.vm ∧ U_.heap = h0) (fun _ _ _ _ _ => True) (fun _ U_ o_ V_ => ∃ v_ L_, o_ = .returned v_ ∧ Qinf Z b x G1 h0 n0 v_ V_.heap L_ ∧ FrameEnd U_ o_ V_ L_ ({ frames := 1, cells := 0, slots := 0, locals := 14 } : Room).cells ({ frames := 1, cells := 0, slots := 0, locals := 14 } : Room).slots) := by
  refine MetFree.of_bodySF (plainFor_of_name pn_1) hisR ?_
  intro p e s m args below meth c s₁ Bd hml0 hP hK
  obtain ⟨rfl, hZ, hh⟩ := hP
  have hx := Bd.exec
  have hby := Bd.bytes
  have hml : c.maxLocals = 2 := hml0
  have hown : s.vm.findClass "java/lang/AbstractStringBuilder" = some m.cls := findClass_of_methodNamed Bd.named
  have hnm := (name_of_methodNamed Bd.named Bd.method).1
  have X0 : Stand p l e ({ frames := 1, cells := 0, slots := 0, locals := 14 } : Room) s m #[(.ref b), (.ref x)] below meth c s₁ [] 0 0 := Stand.of_body Bd
  have e0 : s₁.heap = h0 := by rw [← hh, Bd.state]; rfl
  have N0 := Fr.nil n0
  have Oo := q2.1
  have zo := q2.2
  have lt13 := own_alt q3.lt
  have lt14 := own_alt q4.lt
  have lt15 := own_alt q5.lt
  refine Gl.go (A := s₁.setTop (entryFrame m #[(.ref b), (.ref x)] 2)) (P := fun o_ U_ => ∃ v_ L_, o_ = .returned v_ ∧ Qinf Z b x G1 h0 n0 v_ U_.heap L_ ∧ FrameEnd s o_ U_ L_ ({ frames := 1, cells := 0, slots := 0, locals := 14 } : Room).cells ({ frames := 1, cells := 0, slots := 0, locals := 14 } : Room).slots) (fun t_ k_ => castTop (ef_inf m b x) k_) ?_
  show Gl p.tables e below _ (s₁.setTop (mkF m 0 #[sR b, sR x] []))
  refine gGetS (host := "") Gl.cl X0 hx hZ hown (Or.inl (tw hw 58 rfl)) Via.refl e0 (q0.ext Oo.2) rfl (hb hby d15_0) ?_
  intro T16 X16 e16
  refine Gl.go (fun _ hr => zXS_ifNo X16.here hx rfl (hb hby d15_3) rfl (XT.i0_eq_f P5) (zXS_aloadN X16.here hx rfl (hb hby d15_6) rfl rfl hr)) ?_
  refine gGetF (host := "") Gl.cl X16 hx hZ hown (Or.inl (tw hw 61 rfl)) Via.refl e16 q3 rfl rfl (hb hby d15_7) ?_
  intro T17 X17 e17
  refine Gl.go (fun _ hr => zXS_aloadN X17.here hx rfl (hb hby d15_10) rfl rfl hr) ?_
  have zz18 : n0 ≤ h0.size := by omega
  refine gVirtualN Gl.cl (y := (⟨"java/lang/String", "coder", "()B"⟩ : MethodName)) (z := (⟨"java/lang/String", "coder", "()B"⟩ : MethodName)) (b := x) (argsL := []) (rest := [(.int (0 : Int32))]) (mc := 0) (ms := 0) X17 hx hZ hown (mvT hZ (tw hw 101 rfl)) (mvT hZ (tw hw 79 rfl)) (notFace_of_selects (args := #[]) (mvT hZ (tw hw 81 rfl))) (mvT hZ (tw hw 81 rfl)) (mvT hZ (tw hw 80 rfl)) (by decide) q4 (backOf (W := 1) (cod l Z a0 hw [] x G1 h0 n0 zz18 q0 (by assumption) ⟨Oo, (by omega)⟩ q5) hZ (tw hw 82 rfl) (tw hw 3 rfl) (by decide) (by decide)) rfl (by rw [hml]; rfl) (lenOf pd_0 rfl) rfl (by show 2 * 0 + _ ≤ _; exact Nat.le_of_eq rfl) (hb hby d15_11) rfl e17 (by decide) (by decide) ?_
  intro v18 T18 Lc18 hQ18 X18
  obtain ⟨rfl, Nq18, e18⟩ := hQ18
  have N18 := Fr.app N0 Nq18
  refine Gl.go (fun _ hr => zXS_icmpYes X18.here hx rfl (pc0 := 14) (pc' := 21) rfl (hb hby d15_14) rfl (XT.ii_eq_t (by decide)) (by decide) (by decide) hr) ?_
  obtain ⟨fs, hr, hrun, hended, hW, hsame⟩ := X18.leave (v := none) (fun _ => rfl)
  refine ⟨_, _, X18.returnOut hx Bd.returns (hb hby d15_21) hr, hrun, hended, _, _, rfl, ?_, ⟨⟨_, rfl⟩, hW, hsame.mono (by decide) (by decide)⟩⟩
  show Qinf Z b x G1 h0 n0 _ T18.heap _
  rw [e18]
  exact ⟨rfl, N18, rfl⟩
def Qgb (Z : State) (x : Addr) (t : Addr) (kb : ClassId) (cs : List Int32) (a : Addr) (ka : ClassId) (k : Nat) (xs : List Value) (G1 : Int32) (h0 : Heap) (n0 : Nat) (v : Option Value) (h : Heap) (L : List Loc) : Prop := v = none ∧ Fr n0 L ∧ Keep h0 h [a] ∧ (Arv Z h a ka .byte (16 : Int32) (xs ++ lb cs) (.int 0))
theorem ef_gb (m : MethodId) (x0 : Addr) (x1 : Addr) (x2 : Int32) (x3 : Int32) : entryFrame m #[(.ref x0), (.ref x1), (.int x2), (.int x3)] 4 = mkF m 0 #[sR x0, sR x1, sI x2, sI x3] [] := by first | (simp [entryFrame, mkF, argsToLocals, Value.category]; done) | rfl
theorem d16_0 : decode jdk_42_method_147_code 0 = .ok (.aload_n 0, 1) := by decide +kernel
theorem d16_1 : decode jdk_42_method_147_code 1 = .ok (.invokevirtual 335, 3) := by decide +kernel
theorem d16_4 : decode jdk_42_method_147_code 4 = .ok (.iload_n 3, 1) := by decide +kernel
theorem d16_5 : decode jdk_42_method_147_code 5 = .ok (.if_icmp .ne 23, 3) := by decide +kernel
theorem d16_8 : decode jdk_42_method_147_code 8 = .ok (.aload_n 0, 1) := by decide +kernel
theorem d16_9 : decode jdk_42_method_147_code 9 = .ok (.getfield 9, 3) := by decide +kernel
theorem d16_12 : decode jdk_42_method_147_code 12 = .ok (.iconst 0, 1) := by decide +kernel
theorem d16_13 : decode jdk_42_method_147_code 13 = .ok (.aload_n 1, 1) := by decide +kernel
theorem d16_14 : decode jdk_42_method_147_code 14 = .ok (.iload_n 2, 1) := by decide +kernel
theorem d16_15 : decode jdk_42_method_147_code 15 = .ok (.iload_n 3, 1) := by decide +kernel
theorem d16_16 : decode jdk_42_method_147_code 16 = .ok (.ishl, 1) := by decide +kernel
theorem d16_17 : decode jdk_42_method_147_code 17 = .ok (.aload_n 0, 1) := by decide +kernel
theorem d16_18 : decode jdk_42_method_147_code 18 = .ok (.getfield 9, 3) := by decide +kernel
theorem d16_21 : decode jdk_42_method_147_code 21 = .ok (.arraylength, 1) := by decide +kernel
theorem d16_22 : decode jdk_42_method_147_code 22 = .ok (.invokestatic 212, 3) := by decide +kernel
theorem d16_25 : decode jdk_42_method_147_code 25 = .ok (.goto 18, 3) := by decide +kernel
theorem d16_43 : decode jdk_42_method_147_code 43 = .ok (.return_, 1) := by decide +kernel
set_option maxRecDepth 65536 in
set_option maxHeartbeats 40000000 in
theorem gb (l : Launch) (Z : State) (a0 : Array Value) (hw : ∀ d ∈ tables_1, d.before a0 Z = true) (ws : List Jvm.Cond) (x : Addr) (t : Addr) (kb : ClassId) (cs : List Int32) (a : Addr) (ka : ClassId) (k : Nat) (xs : List Value) (G1 : Int32) (h0 : Heap) (n0 : Nat) (Z0 : n0 ≤ h0.size) (q0 : Sta Z Z.heap "java/lang/String" "COMPACT_STRINGS" "Z" (.int G1)) (P5 : ¬ (G1 = (0 : Int32))) (q2 : (Old Z Z.heap.size h0 ∧ @LE.le Nat instLENat Z.heap.size n0)) (q3 : Exa Z h0 x "java/lang/String") (q4 : Fld Z h0 x "java/lang/String" "value" "[B" (.ref t)) (q5 : Fld Z h0 x "java/lang/String" "coder" "B" (.int (0 : Int32))) (q6 : Arv Z h0 t kb .byte (Int32.ofNat cs.length) (lb cs) (.int 0)) (q7 : Arv Z h0 a ka .byte (16 : Int32) xs (.int 0)) (q8 : @LE.le Nat instLENat n0 a) (q9 : ¬ @Eq Nat a x) (q10 : ¬ @Eq Nat a t) (hxl : xs.length = k) (hfit : k + cs.length ≤ 16) :
    MetFree l (⟨"java/lang/String", "getBytes", "([BIB)V"⟩ : MethodName) (head1 (Jvm.Cond.code (⟨"java/lang/String", "getBytes", "([BIB)V"⟩ : MethodName) jdk_42_method_147_code 4 none :: ws) ({ frames := 1, cells := 0, slots := 0, locals := 40 } : Room)) (fun a_ U_ => a_ = #[(.ref x), (.ref a), (.int (Int32.ofNat k)), (.int (0 : Int32))] ∧ Z.Warmed39 U_.vm ∧ U_.heap = h0) (fun _ _ _ _ _ => True) (fun _ U_ o_ V_ => ∃ v_ L_, o_ = .returned v_ ∧ Qgb Z x t kb cs a ka k xs G1 h0 n0 v_ V_.heap L_ ∧ FrameEnd U_ o_ V_ L_ ({ frames := 1, cells := 0, slots := 0, locals := 40 } : Room).cells ({ frames := 1, cells := 0, slots := 0, locals := 40 } : Room).slots) := by
  refine MetFree.of_bodySF (plainFor_of_name pn_0) hisR ?_
  intro p e s m args below meth c s₁ Bd hml0 hP hK
  obtain ⟨rfl, hZ, hh⟩ := hP
  have hx := Bd.exec
  have hby := Bd.bytes
  have hml : c.maxLocals = 4 := hml0
  have hown : s.vm.findClass "java/lang/String" = some m.cls := findClass_of_methodNamed Bd.named
  have hnm := (name_of_methodNamed Bd.named Bd.method).1
  have X0 : Stand p l e ({ frames := 1, cells := 0, slots := 0, locals := 40 } : Room) s m #[(.ref x), (.ref a), (.int (Int32.ofNat k)), (.int (0 : Int32))] below meth c s₁ [] 0 0 := Stand.of_body Bd
  have e0 : s₁.heap = h0 := by rw [← hh, Bd.state]; rfl
  have N0 := Fr.nil n0
  have Oo := q2.1
  have zo := q2.2
  have lt19 := own_alt q3.lt
  have lt20 := own_alt q4.lt
  have lt21 := own_alt q5.lt
  have lt22 := own_alt q6.lt
  have lt23 := own_alt q7.lt
  refine Gl.go (A := s₁.setTop (entryFrame m #[(.ref x), (.ref a), (.int (Int32.ofNat k)), (.int (0 : Int32))] 4)) (P := fun o_ U_ => ∃ v_ L_, o_ = .returned v_ ∧ Qgb Z x t kb cs a ka k xs G1 h0 n0 v_ U_.heap L_ ∧ FrameEnd s o_ U_ L_ ({ frames := 1, cells := 0, slots := 0, locals := 40 } : Room).cells ({ frames := 1, cells := 0, slots := 0, locals := 40 } : Room).slots) (fun t_ k_ => castTop (ef_gb m x a (Int32.ofNat k) (0 : Int32)) k_) ?_
  show Gl p.tables e below _ (s₁.setTop (mkF m 0 #[sR x, sR a, sI (Int32.ofNat k), sI 0] []))
  refine Gl.go (fun _ hr => zXS_aloadN X0.here hx rfl (hb hby d16_0) rfl rfl hr) ?_
  have zz24 : n0 ≤ h0.size := by omega
  refine gVirtualN Gl.cl (y := (⟨"java/lang/String", "coder", "()B"⟩ : MethodName)) (z := (⟨"java/lang/String", "coder", "()B"⟩ : MethodName)) (b := x) (argsL := []) (rest := []) (mc := 0) (ms := 0) X0 hx hZ hown (mvT hZ (tw hw 78 rfl)) (mvT hZ (tw hw 79 rfl)) (notFace_of_selects (args := #[]) (mvT hZ (tw hw 81 rfl))) (mvT hZ (tw hw 81 rfl)) (mvT hZ (tw hw 80 rfl)) (by decide) q3 (backOf (W := 0) (cod l Z a0 hw [] x G1 h0 n0 zz24 q0 (by assumption) ⟨Oo, (by omega)⟩ q5) hZ (tw hw 82 rfl) (tw hw 3 rfl) (by decide) (by decide)) rfl (by rw [hml]; rfl) (lenOf pd_0 rfl) rfl (by show 2 * 0 + _ ≤ _; exact Nat.le_of_eq rfl) (hb hby d16_1) rfl e0 (by decide) (by decide) ?_
  intro v24 T24 Lc24 hQ24 X24
  obtain ⟨rfl, Nq24, e24⟩ := hQ24
  have N24 := Fr.app N0 Nq24
  refine Gl.go (fun _ hr => zXS_iloadN X24.here hx rfl (hb hby d16_4) rfl (zXS_icmpNo X24.here hx rfl (hb hby d16_5) rfl (XT.ii_ne_f (by decide)) (zXS_aloadN X24.here hx rfl (hb hby d16_8) rfl rfl hr))) ?_
  refine gGetF (host := "") Gl.cl X24 hx hZ hown (Or.inl (tw hw 20 rfl)) Via.refl e24 q4 rfl rfl (hb hby d16_9) ?_
  intro T25 X25 e25
  refine Gl.go (fun _ hr => zXS_iconst X25.here hx rfl (hb hby d16_12) (zXS_aloadN X25.here hx rfl (hb hby d16_13) rfl rfl (zXS_iloadN X25.here hx rfl (hb hby d16_14) rfl (zXS_iloadN X25.here hx rfl (hb hby d16_15) rfl (zXT_ishl X25.here hx rfl (hb hby d16_16) rfl hr))))) ?_
  show Gl p.tables e below _ (T25.setTop (mkF m 17 #[sR x, sR a, sI (Int32.ofNat k), sI 0] [(.int ((Int32.ofNat k) <<< ((0 : Int32) &&& 31))), (.ref a), (.int (0 : Int32)), (.ref t)]))
  rw [own_shl0]
  show Gl p.tables e below _ (T25.setTop (mkF m 17 #[sR x, sR a, sI (Int32.ofNat k), sI 0] [(.int (Int32.ofNat k)), (.ref a), (.int (0 : Int32)), (.ref t)]))
  refine Gl.go (fun _ hr => zXS_aloadN X25.here hx rfl (hb hby d16_17) rfl rfl hr) ?_
  refine gGetF (host := "") Gl.cl X25 hx hZ hown (Or.inl (tw hw 20 rfl)) Via.refl e25 q4 rfl rfl (hb hby d16_18) ?_
  intro T26 X26 e26
  obtain ⟨c27, a27, q27, s27, m27, H27, U27⟩ := id q6
  refine gLen Gl.cl X26 hx hZ e26 a27 s27 m27 rfl rfl (hb hby d16_21) ?_
  refine gCopy Gl.cl (us := lb cs) (n0 := n0) (W := 0) X26 hx hZ hown (tw hw 107 rfl) (tw hw 110 rfl) (tw hw 108 rfl) (tw hw 109 rfl) e26 q6 (q7.pad (pad_rep xs (.int 0) 16)) (Or.inl ⟨rfl, rfl⟩) (by decide) (own_nn (by omega)) (own_nn (by omega)) (by rw [own_z0, Nat.zero_add]; exact Nat.le_refl _) (by rw [own_nat32 (by omega), own_nat32 (by omega), own_z16]; exact hfit) (own_us (lb_len cs) (by omega)) (by rw [own_nat32 (by omega), own_nat32 (by omega), List.length_append, List.length_replicate]; omega) N24 (by omega) rfl (by rw [hml]; rfl) rfl (hb hby d16_22) (by decide) (by show 2 * 0 + _ ≤ _; exact Nat.le_of_eq rfl) (by decide) ?_
  intro T28 h28 L28 X28 e28 N28 K28 Vr28
  have z29 : h0.size ≤ h28.size := K28.1
  have V28 : Arv Z h28 a ka .byte (16 : Int32) (xs ++ lb cs) (.int 0) := own_cat hxl (by omega) (by omega) Vr28
  refine Gl.go (fun _ hr => zXS_goto X28.here hx rfl (pc0 := 25) (pc' := 43) rfl (hb hby d16_25) (by decide) (by decide) hr) ?_
  obtain ⟨fs, hr, hrun, hended, hW, hsame⟩ := X28.leave (v := none) (fun _ => rfl)
  refine ⟨_, _, X28.returnOut hx Bd.returns (hb hby d16_43) hr, hrun, hended, _, _, rfl, ?_, ⟨⟨_, rfl⟩, hW, hsame.mono (by decide) (by decide)⟩⟩
  show Qgb Z x t kb cs a ka k xs G1 h0 n0 _ T28.heap _
  rw [e28]
  exact ⟨rfl, N28, ((Keep.refl h0 [a]).trans K28 (allS (P := fun x_ => x_ ∈ ([a] : List Addr) ∨ h0.size ≤ x_) (Or.inl (by simp)) all0)), V28⟩
def Qpsa (Z : State) (b : Addr) (a : Addr) (ka : ClassId) (k : Nat) (xs : List Value) (x : Addr) (t : Addr) (kb : ClassId) (cs : List Int32) (G1 : Int32) (h0 : Heap) (n0 : Nat) (v : Option Value) (h : Heap) (L : List Loc) : Prop := v = none ∧ Fr n0 L ∧ Keep h0 h [a] ∧ (Arv Z h a ka .byte (16 : Int32) (xs ++ lb cs) (.int 0))
theorem ef_psa (m : MethodId) (x0 : Addr) (x1 : Int32) (x2 : Addr) : entryFrame m #[(.ref x0), (.int x1), (.ref x2)] 3 = mkF m 0 #[sR x0, sI x1, sR x2] [] := by first | (simp [entryFrame, mkF, argsToLocals, Value.category]; done) | rfl
theorem d14_0 : decode jdk_68_method_73_code 0 = .ok (.aload_n 0, 1) := by decide +kernel
theorem d14_1 : decode jdk_68_method_73_code 1 = .ok (.aload_n 2, 1) := by decide +kernel
theorem d14_2 : decode jdk_68_method_73_code 2 = .ok (.invokevirtual 397, 3) := by decide +kernel
theorem pd_1 : parseMethodDescriptor "(Ljava/lang/String;)V" = some ⟨[(.object "java/lang/String")], none⟩ := by decide +kernel
theorem d14_5 : decode jdk_68_method_73_code 5 = .ok (.aload_n 2, 1) := by decide +kernel
theorem d14_6 : decode jdk_68_method_73_code 6 = .ok (.aload_n 0, 1) := by decide +kernel
theorem d14_7 : decode jdk_68_method_73_code 7 = .ok (.getfield 15, 3) := by decide +kernel
theorem d14_10 : decode jdk_68_method_73_code 10 = .ok (.iload_n 1, 1) := by decide +kernel
theorem d14_11 : decode jdk_68_method_73_code 11 = .ok (.aload_n 0, 1) := by decide +kernel
theorem d14_12 : decode jdk_68_method_73_code 12 = .ok (.getfield 22, 3) := by decide +kernel
theorem d14_15 : decode jdk_68_method_73_code 15 = .ok (.invokevirtual 399, 3) := by decide +kernel
theorem pd_2 : parseMethodDescriptor "([BIB)V" = some ⟨[(.array .byte), .int, .byte], none⟩ := by decide +kernel
theorem d14_18 : decode jdk_68_method_73_code 18 = .ok (.return_, 1) := by decide +kernel
set_option maxRecDepth 65536 in
set_option maxHeartbeats 40000000 in
theorem psa (l : Launch) (Z : State) (a0 : Array Value) (hw : ∀ d ∈ tables_1, d.before a0 Z = true) (ws : List Jvm.Cond) (b : Addr) (a : Addr) (ka : ClassId) (k : Nat) (xs : List Value) (x : Addr) (t : Addr) (kb : ClassId) (cs : List Int32) (G1 : Int32) (h0 : Heap) (n0 : Nat) (Z0 : n0 ≤ h0.size) (q0 : Sta Z Z.heap "java/lang/String" "COMPACT_STRINGS" "Z" (.int G1)) (P5 : ¬ (G1 = (0 : Int32))) (q2 : (Old Z Z.heap.size h0 ∧ @LE.le Nat instLENat Z.heap.size n0)) (q3 : Exa Z h0 b "java/lang/StringBuilder") (q4 : Fld Z h0 b "java/lang/AbstractStringBuilder" "value" "[B" (.ref a)) (q5 : Fld Z h0 b "java/lang/AbstractStringBuilder" "coder" "B" (.int (0 : Int32))) (q6 : Arv Z h0 a ka .byte (16 : Int32) xs (.int 0)) (q7 : @LE.le Nat instLENat n0 a) (q8 : @LE.le Nat instLENat n0 b) (q9 : ¬ @Eq Nat a b) (hxl : xs.length = k) (q11 : Exa Z h0 x "java/lang/String") (q12 : Fld Z h0 x "java/lang/String" "value" "[B" (.ref t)) (q13 : Fld Z h0 x "java/lang/String" "coder" "B" (.int (0 : Int32))) (q14 : Arv Z h0 t kb .byte (Int32.ofNat cs.length) (lb cs) (.int 0)) (q15 : ¬ @Eq Nat a x) (q16 : ¬ @Eq Nat a t) (q17 : ¬ @Eq Nat b x) (q18 : ¬ @Eq Nat b t) (hfit : k + cs.length ≤ 16) :
    MetFree l (⟨"java/lang/AbstractStringBuilder", "putStringAt", "(ILjava/lang/String;)V"⟩ : MethodName) (head1 (Jvm.Cond.code (⟨"java/lang/AbstractStringBuilder", "putStringAt", "(ILjava/lang/String;)V"⟩ : MethodName) jdk_68_method_73_code 3 none :: ws) ({ frames := 2, cells := 0, slots := 0, locals := 60 } : Room)) (fun a_ U_ => a_ = #[(.ref b), (.int (Int32.ofNat k)), (.ref x)] ∧ Z.Warmed39 U_.vm ∧ U_.heap = h0) (fun _ _ _ _ _ => True) (fun _ U_ o_ V_ => ∃ v_ L_, o_ = .returned v_ ∧ Qpsa Z b a ka k xs x t kb cs G1 h0 n0 v_ V_.heap L_ ∧ FrameEnd U_ o_ V_ L_ ({ frames := 2, cells := 0, slots := 0, locals := 60 } : Room).cells ({ frames := 2, cells := 0, slots := 0, locals := 60 } : Room).slots) := by
  refine MetFree.of_bodySF (plainFor_of_name pn_1) hisR ?_
  intro p e s m args below meth c s₁ Bd hml0 hP hK
  obtain ⟨rfl, hZ, hh⟩ := hP
  have hx := Bd.exec
  have hby := Bd.bytes
  have hml : c.maxLocals = 3 := hml0
  have hown : s.vm.findClass "java/lang/AbstractStringBuilder" = some m.cls := findClass_of_methodNamed Bd.named
  have hnm := (name_of_methodNamed Bd.named Bd.method).1
  have X0 : Stand p l e ({ frames := 2, cells := 0, slots := 0, locals := 60 } : Room) s m #[(.ref b), (.int (Int32.ofNat k)), (.ref x)] below meth c s₁ [] 0 0 := Stand.of_body Bd
  have e0 : s₁.heap = h0 := by rw [← hh, Bd.state]; rfl
  have N0 := Fr.nil n0
  have Oo := q2.1
  have zo := q2.2
  have lt30 := own_alt q3.lt
  have lt31 := own_alt q4.lt
  have lt32 := own_alt q5.lt
  have lt33 := own_alt q6.lt
  have lt34 := own_alt q11.lt
  have lt35 := own_alt q12.lt
  have lt36 := own_alt q13.lt
  have lt37 := own_alt q14.lt
  refine Gl.go (A := s₁.setTop (entryFrame m #[(.ref b), (.int (Int32.ofNat k)), (.ref x)] 3)) (P := fun o_ U_ => ∃ v_ L_, o_ = .returned v_ ∧ Qpsa Z b a ka k xs x t kb cs G1 h0 n0 v_ U_.heap L_ ∧ FrameEnd s o_ U_ L_ ({ frames := 2, cells := 0, slots := 0, locals := 60 } : Room).cells ({ frames := 2, cells := 0, slots := 0, locals := 60 } : Room).slots) (fun t_ k_ => castTop (ef_psa m b (Int32.ofNat k) x) k_) ?_
  show Gl p.tables e below _ (s₁.setTop (mkF m 0 #[sR b, sI (Int32.ofNat k), sR x] []))
  refine Gl.go (fun _ hr => zXS_aloadN X0.here hx rfl (hb hby d14_0) rfl rfl (zXS_aloadN X0.here hx rfl (hb hby d14_1) rfl rfl hr)) ?_
  have zz38 : n0 ≤ h0.size := by omega
  refine gPrivN Gl.cl (y := (⟨"java/lang/AbstractStringBuilder", "inflateIfNeededFor", "(Ljava/lang/String;)V"⟩ : MethodName)) (b := b) (argsL := [(.ref x)]) (rest := []) (mc := 0) (ms := 0) X0 hx hZ hown (mvT hZ (tw hw 96 rfl)) (mvT hZ (tw hw 97 rfl)) (mvT hZ (tw hw 99 rfl)) (mvP hZ (tw hw 98 rfl)) (mvT hZ (tw hw 100 rfl)) (by decide) q3 (backOf (W := 0) (inf l Z a0 hw [] b x G1 h0 n0 zz38 q0 (by assumption) ⟨Oo, (by omega)⟩ q5 q11 q13) hZ (tw hw 100 rfl) (tw hw 55 rfl) (by decide) (by decide)) rfl (by rw [hml]; rfl) (lenOf pd_1 rfl) rfl (by show 2 * 0 + _ ≤ _; exact Nat.le_of_eq rfl) (hb hby d14_2) rfl e0 (by decide) (by decide) ?_
  intro v38 T38 Lc38 hQ38 X38
  obtain ⟨rfl, Nq38, e38⟩ := hQ38
  have N38 := Fr.app N0 Nq38
  refine Gl.go (fun _ hr => zXS_aloadN X38.here hx rfl (hb hby d14_5) rfl rfl (zXS_aloadN X38.here hx rfl (hb hby d14_6) rfl rfl hr)) ?_
  refine gGetF (host := "") Gl.cl X38 hx hZ hown (Or.inl (tw hw 59 rfl)) Via.refl e38 q4 rfl rfl (hb hby d14_7) ?_
  intro T39 X39 e39
  refine Gl.go (fun _ hr => zXS_iloadN X39.here hx rfl (hb hby d14_10) rfl (zXS_aloadN X39.here hx rfl (hb hby d14_11) rfl rfl hr)) ?_
  refine gGetF (host := "") Gl.cl X39 hx hZ hown (Or.inl (tw hw 61 rfl)) Via.refl e39 q5 rfl rfl (hb hby d14_12) ?_
  intro T40 X40 e40
  have zz41 : n0 ≤ h0.size := by omega
  refine gVirtualN Gl.cl (y := (⟨"java/lang/String", "getBytes", "([BIB)V"⟩ : MethodName)) (z := (⟨"java/lang/String", "getBytes", "([BIB)V"⟩ : MethodName)) (b := x) (argsL := [(.ref a), (.int (Int32.ofNat k)), (.int (0 : Int32))]) (rest := []) (mc := 0) (ms := 0) X40 hx hZ hown (mvT hZ (tw hw 102 rfl)) (mvT hZ (tw hw 103 rfl)) (notFace_of_selects (args := #[]) (mvT hZ (tw hw 105 rfl))) (mvT hZ (tw hw 105 rfl)) (mvT hZ (tw hw 104 rfl)) (by decide) q11 (backOf (W := 0) (gb l Z a0 hw [] x t kb cs a ka k xs G1 h0 n0 zz41 q0 (by assumption) ⟨Oo, (by omega)⟩ q11 q12 q13 q14 q6 (by omega) (by omega) (by omega) hxl hfit) hZ (tw hw 106 rfl) (tw hw 3 rfl) (by decide) (by decide)) rfl (by rw [hml]; rfl) (lenOf pd_2 rfl) rfl (by show 2 * 0 + _ ≤ _; exact Nat.le_of_eq rfl) (hb hby d14_15) rfl e40 (by decide) (by decide) ?_
  intro v41 T41 Lc41 hQ41 X41
  obtain ⟨rfl, Nq41, K41, f41_0⟩ := hQ41
  have z42 : h0.size ≤ T41.heap.size := K41.1
  have N41 := Fr.app N38 Nq41
  have lt43 := own_alt f41_0.lt
  obtain ⟨fs, hr, hrun, hended, hW, hsame⟩ := X41.leave (v := none) (fun _ => rfl)
  refine ⟨_, _, X41.returnOut hx Bd.returns (hb hby d14_18) hr, hrun, hended, _, _, rfl, ?_, ⟨⟨_, rfl⟩, hW, hsame.mono (by decide) (by decide)⟩⟩
  show Qpsa Z b a ka k xs x t kb cs G1 h0 n0 _ T41.heap _
  exact ⟨rfl, N41, ((Keep.refl h0 [a]).trans K41 (allS (P := fun x_ => x_ ∈ ([a] : List Addr) ∨ h0.size ≤ x_) (Or.inl (by simp)) all0)), f41_0⟩
def Qaps (Z : State) (b : Addr) (a : Addr) (ka : ClassId) (k : Nat) (xs : List Value) (x : Addr) (t : Addr) (kb : ClassId) (cs : List Int32) (G1 : Int32) (h0 : Heap) (n0 : Nat) (v : Option Value) (h : Heap) (L : List Loc) : Prop := v = some (.ref b) ∧ Fr n0 L ∧ Keep h0 h [b, a] ∧ (Exa Z h b "java/lang/StringBuilder") ∧ (Fld Z h b "java/lang/AbstractStringBuilder" "value" "[B" (.ref a)) ∧ (Fld Z h b "java/lang/AbstractStringBuilder" "coder" "B" (.int (0 : Int32))) ∧ (Fld Z h b "java/lang/AbstractStringBuilder" "count" "I" (.int (Int32.ofNat (k + cs.length)))) ∧ (Arv Z h a ka .byte (16 : Int32) (xs ++ lb cs) (.int 0))
theorem ef_aps (m : MethodId) (x0 : Addr) (x1 : Addr) : entryFrame m #[(.ref x0), (.ref x1)] 3 = mkF m 0 #[sR x0, sR x1, sU] [] := by first | (simp [entryFrame, mkF, argsToLocals, Value.category]; done) | rfl
theorem d10_0 : decode jdk_68_method_22_code 0 = .ok (.aload_n 1, 1) := by decide +kernel
theorem d10_1 : decode jdk_68_method_22_code 1 = .ok (.ifnonnull 8, 3) := by decide +kernel
theorem d10_9 : decode jdk_68_method_22_code 9 = .ok (.aload_n 1, 1) := by decide +kernel
theorem d10_10 : decode jdk_68_method_22_code 10 = .ok (.invokevirtual 32, 3) := by decide +kernel
theorem pd_3 : parseMethodDescriptor "()I" = some ⟨[], some .int⟩ := by decide +kernel
theorem d10_13 : decode jdk_68_method_22_code 13 = .ok (.istore_n 2, 1) := by decide +kernel
theorem d10_14 : decode jdk_68_method_22_code 14 = .ok (.aload_n 0, 1) := by decide +kernel
theorem d10_15 : decode jdk_68_method_22_code 15 = .ok (.aload_n 0, 1) := by decide +kernel
theorem d10_16 : decode jdk_68_method_22_code 16 = .ok (.getfield 79, 3) := by decide +kernel
theorem d10_19 : decode jdk_68_method_22_code 19 = .ok (.iload_n 2, 1) := by decide +kernel
theorem d10_20 : decode jdk_68_method_22_code 20 = .ok (.iadd, 1) := by decide +kernel
theorem d10_21 : decode jdk_68_method_22_code 21 = .ok (.invokevirtual 100, 3) := by decide +kernel
theorem pd_4 : parseMethodDescriptor "(I)V" = some ⟨[.int], none⟩ := by decide +kernel
theorem d10_24 : decode jdk_68_method_22_code 24 = .ok (.aload_n 0, 1) := by decide +kernel
theorem d10_25 : decode jdk_68_method_22_code 25 = .ok (.aload_n 0, 1) := by decide +kernel
theorem d10_26 : decode jdk_68_method_22_code 26 = .ok (.getfield 79, 3) := by decide +kernel
theorem d10_29 : decode jdk_68_method_22_code 29 = .ok (.aload_n 1, 1) := by decide +kernel
theorem d10_30 : decode jdk_68_method_22_code 30 = .ok (.invokevirtual 208, 3) := by decide +kernel
theorem pd_5 : parseMethodDescriptor "(ILjava/lang/String;)V" = some ⟨[.int, (.object "java/lang/String")], none⟩ := by decide +kernel
theorem d10_33 : decode jdk_68_method_22_code 33 = .ok (.aload_n 0, 1) := by decide +kernel
theorem d10_34 : decode jdk_68_method_22_code 34 = .ok (.dup, 1) := by decide +kernel
theorem d10_35 : decode jdk_68_method_22_code 35 = .ok (.getfield 79, 3) := by decide +kernel
theorem d10_38 : decode jdk_68_method_22_code 38 = .ok (.iload_n 2, 1) := by decide +kernel
theorem d10_39 : decode jdk_68_method_22_code 39 = .ok (.iadd, 1) := by decide +kernel
theorem d10_40 : decode jdk_68_method_22_code 40 = .ok (.putfield 79, 3) := by decide +kernel
theorem d10_43 : decode jdk_68_method_22_code 43 = .ok (.aload_n 0, 1) := by decide +kernel
theorem d10_44 : decode jdk_68_method_22_code 44 = .ok (.areturn, 1) := by decide +kernel
set_option maxRecDepth 65536 in
set_option maxHeartbeats 40000000 in
theorem aps (l : Launch) (Z : State) (a0 : Array Value) (hw : ∀ d ∈ tables_1, d.before a0 Z = true) (ws : List Jvm.Cond) (b : Addr) (a : Addr) (ka : ClassId) (k : Nat) (xs : List Value) (x : Addr) (t : Addr) (kb : ClassId) (cs : List Int32) (G1 : Int32) (h0 : Heap) (n0 : Nat) (Z0 : n0 ≤ h0.size) (q0 : Sta Z Z.heap "java/lang/String" "COMPACT_STRINGS" "Z" (.int G1)) (P5 : ¬ (G1 = (0 : Int32))) (q2 : (Old Z Z.heap.size h0 ∧ @LE.le Nat instLENat Z.heap.size n0)) (q3 : Exa Z h0 b "java/lang/StringBuilder") (q4 : Fld Z h0 b "java/lang/AbstractStringBuilder" "value" "[B" (.ref a)) (q5 : Fld Z h0 b "java/lang/AbstractStringBuilder" "coder" "B" (.int (0 : Int32))) (q6 : Fld Z h0 b "java/lang/AbstractStringBuilder" "count" "I" (.int (Int32.ofNat k))) (q7 : Arv Z h0 a ka .byte (16 : Int32) xs (.int 0)) (q8 : @LE.le Nat instLENat n0 a) (q9 : @LE.le Nat instLENat n0 b) (q10 : ¬ @Eq Nat a b) (hxl : xs.length = k) (q12 : Exa Z h0 x "java/lang/String") (q13 : Fld Z h0 x "java/lang/String" "value" "[B" (.ref t)) (q14 : Fld Z h0 x "java/lang/String" "coder" "B" (.int (0 : Int32))) (q15 : Arv Z h0 t kb .byte (Int32.ofNat cs.length) (lb cs) (.int 0)) (q16 : ¬ @Eq Nat a x) (q17 : ¬ @Eq Nat a t) (q18 : ¬ @Eq Nat b x) (q19 : ¬ @Eq Nat b t) (hfit : k + cs.length ≤ 16) (hlat : ∀ c ∈ cs, Lat c) :
    MetFree l (⟨"java/lang/AbstractStringBuilder", "append", "(Ljava/lang/String;)Ljava/lang/AbstractStringBuilder;"⟩ : MethodName) (head1 (Jvm.Cond.code (⟨"java/lang/AbstractStringBuilder", "append", "(Ljava/lang/String;)Ljava/lang/AbstractStringBuilder;"⟩ : MethodName) jdk_68_method_22_code 3 (some (.object "java/lang/AbstractStringBuilder")) :: ws) ({ frames := 3, cells := 0, slots := 0, locals := 80 } : Room)) (fun a_ U_ => a_ = #[(.ref b), (.ref x)] ∧ Z.Warmed39 U_.vm ∧ U_.heap = h0) (fun _ _ _ _ _ => True) (fun _ U_ o_ V_ => ∃ v_ L_, o_ = .returned v_ ∧ Qaps Z b a ka k xs x t kb cs G1 h0 n0 v_ V_.heap L_ ∧ FrameEnd U_ o_ V_ L_ ({ frames := 3, cells := 0, slots := 0, locals := 80 } : Room).cells ({ frames := 3, cells := 0, slots := 0, locals := 80 } : Room).slots) := by
  refine MetFree.of_bodySF (plainFor_of_name pn_1) hisR ?_
  intro p e s m args below meth c s₁ Bd hml0 hP hK
  obtain ⟨rfl, hZ, hh⟩ := hP
  have hx := Bd.exec
  have hby := Bd.bytes
  have hml : c.maxLocals = 3 := hml0
  have hown : s.vm.findClass "java/lang/AbstractStringBuilder" = some m.cls := findClass_of_methodNamed Bd.named
  have hnm := (name_of_methodNamed Bd.named Bd.method).1
  have X0 : Stand p l e ({ frames := 3, cells := 0, slots := 0, locals := 80 } : Room) s m #[(.ref b), (.ref x)] below meth c s₁ [] 0 0 := Stand.of_body Bd
  have e0 : s₁.heap = h0 := by rw [← hh, Bd.state]; rfl
  have N0 := Fr.nil n0
  have Oo := q2.1
  have zo := q2.2
  have lt44 := own_alt q3.lt
  have lt45 := own_alt q4.lt
  have lt46 := own_alt q5.lt
  have lt47 := own_alt q6.lt
  have lt48 := own_alt q7.lt
  have lt49 := own_alt q12.lt
  have lt50 := own_alt q13.lt
  have lt51 := own_alt q14.lt
  have lt52 := own_alt q15.lt
  have hln : ∀ d ∈ StrChars.Road.wordsLen, d.before a0 Z = true := fun d hd => hw d (own_hln d hd)
  have hcd : StrChars.Road.CodA cs 0 (Int32.ofNat cs.length) (lb cs) := StrChars.Road.codOf rfl (fun c hc => (hlat c hc).2)
  have hbd : ∀ c ∈ cs, Wid c := own_up hlat
  have hln4 : cs.length ≤ 4000 := by omega
  refine Gl.go (A := s₁.setTop (entryFrame m #[(.ref b), (.ref x)] 3)) (P := fun o_ U_ => ∃ v_ L_, o_ = .returned v_ ∧ Qaps Z b a ka k xs x t kb cs G1 h0 n0 v_ U_.heap L_ ∧ FrameEnd s o_ U_ L_ ({ frames := 3, cells := 0, slots := 0, locals := 80 } : Room).cells ({ frames := 3, cells := 0, slots := 0, locals := 80 } : Room).slots) (fun t_ k_ => castTop (ef_aps m b x) k_) ?_
  show Gl p.tables e below _ (s₁.setTop (mkF m 0 #[sR b, sR x, sU] []))
  refine Gl.go (fun _ hr => zXS_aloadN X0.here hx rfl (hb hby d10_0) rfl rfl (zXT_ifnonnullYes X0.here hx rfl (pc0 := 1) (pc' := 9) rfl (hb hby d10_1) rfl (by decide) (by decide) (zXS_aloadN X0.here hx rfl (hb hby d10_9) rfl rfl hr))) ?_
  refine gVirtualN Gl.cl (y := (⟨"java/lang/String", "length", "()I"⟩ : MethodName)) (z := (⟨"java/lang/String", "length", "()I"⟩ : MethodName)) (b := x) (argsL := []) (rest := []) (mc := 0) (ms := 0) (Q := fun v h' L => v = some (.int (Int32.ofNat cs.length)) ∧ L = [] ∧ h' = h0) X0 hx hZ hown (mvT hZ (tw hw 73 rfl)) (mvT hZ (tw hw 74 rfl)) (notFace_of_selects (args := #[]) (mvT hZ (tw hw 76 rfl))) (mvT hZ (tw hw 76 rfl)) (mvT hZ (tw hw 75 rfl)) (by decide) q12 (StrChars.Road.lenW (W := 0) hZ hln (kI := 4) (tw hw 2 rfl) q12 q13 q14 q15 hcd hbd (q0.ext Oo.2) P5 hln4 (by decide) (by decide)) rfl (by rw [hml]; rfl) (lenOf pd_3 rfl) rfl (by show 2 * 0 + _ ≤ _; exact Nat.le_of_eq rfl) (hb hby d10_10) rfl e0 (by decide) (by decide) ?_
  intro v53 T53 Lc53 hQ53 X53
  obtain ⟨rfl, rfl, e53⟩ := hQ53
  have N53 := own_fr_nil N0
  refine Gl.go (fun _ hr => zXS_istoreN X53.here hx rfl (hb hby d10_13) rfl (l' := #[sR b, sR x, sI (Int32.ofNat cs.length)]) rfl (zXS_aloadN X53.here hx rfl (hb hby d10_14) rfl rfl (zXS_aloadN X53.here hx rfl (hb hby d10_15) rfl rfl hr))) ?_
  refine gGetF (host := "") Gl.cl X53 hx hZ hown (Or.inl (tw hw 84 rfl)) Via.refl e53 q6 rfl rfl (hb hby d10_16) ?_
  intro T54 X54 e54
  refine Gl.go (fun _ hr => zXS_iloadN X54.here hx rfl (hb hby d10_19) rfl (zXS_iadd X54.here hx rfl (hb hby d10_20) rfl hr)) ?_
  show Gl p.tables e below _ (T54.setTop (mkF m 21 #[sR b, sR x, sI (Int32.ofNat cs.length)] [(.int ((Int32.ofNat k) + (Int32.ofNat cs.length))), (.ref b)]))
  rw [own_add32]
  show Gl p.tables e below _ (T54.setTop (mkF m 21 #[sR b, sR x, sI (Int32.ofNat cs.length)] [(.int (Int32.ofNat (k + cs.length))), (.ref b)]))
  have zz55 : n0 ≤ h0.size := by omega
  refine gPrivN Gl.cl (y := (⟨"java/lang/AbstractStringBuilder", "ensureCapacityInternal", "(I)V"⟩ : MethodName)) (b := b) (argsL := [(.int (Int32.ofNat (k + cs.length)))]) (rest := []) (mc := 0) (ms := 0) X54 hx hZ hown (mvT hZ (tw hw 86 rfl)) (mvT hZ (tw hw 87 rfl)) (mvT hZ (tw hw 89 rfl)) (mvP hZ (tw hw 88 rfl)) (mvT hZ (tw hw 90 rfl)) (by decide) q3 (backOf (W := 0) (ens l Z a0 hw [] b a ka (k + cs.length) xs h0 n0 zz55 q4 q5 q7 (by omega)) hZ (tw hw 90 rfl) (tw hw 55 rfl) (by decide) (by decide)) rfl (by rw [hml]; rfl) (lenOf pd_4 rfl) rfl (by show 2 * 0 + _ ≤ _; exact Nat.le_of_eq rfl) (hb hby d10_21) rfl e54 (by decide) (by decide) ?_
  intro v55 T55 Lc55 hQ55 X55
  obtain ⟨rfl, Nq55, e55⟩ := hQ55
  have N55 := Fr.app N53 Nq55
  refine Gl.go (fun _ hr => zXS_aloadN X55.here hx rfl (hb hby d10_24) rfl rfl (zXS_aloadN X55.here hx rfl (hb hby d10_25) rfl rfl hr)) ?_
  refine gGetF (host := "") Gl.cl X55 hx hZ hown (Or.inl (tw hw 84 rfl)) Via.refl e55 q6 rfl rfl (hb hby d10_26) ?_
  intro T56 X56 e56
  refine Gl.go (fun _ hr => zXS_aloadN X56.here hx rfl (hb hby d10_29) rfl rfl hr) ?_
  have zz57 : n0 ≤ h0.size := by omega
  refine gPrivN Gl.cl (y := (⟨"java/lang/AbstractStringBuilder", "putStringAt", "(ILjava/lang/String;)V"⟩ : MethodName)) (b := b) (argsL := [(.int (Int32.ofNat k)), (.ref x)]) (rest := []) (mc := 0) (ms := 0) X56 hx hZ hown (mvT hZ (tw hw 91 rfl)) (mvT hZ (tw hw 92 rfl)) (mvT hZ (tw hw 94 rfl)) (mvP hZ (tw hw 93 rfl)) (mvT hZ (tw hw 95 rfl)) (by decide) q3 (backOf (W := 0) (psa l Z a0 hw [] b a ka k xs x t kb cs G1 h0 n0 zz57 q0 (by assumption) ⟨Oo, (by omega)⟩ q3 q4 q5 q7 (by omega) (by omega) (by omega) hxl q12 q13 q14 q15 (by omega) (by omega) (by omega) (by omega) hfit) hZ (tw hw 95 rfl) (tw hw 55 rfl) (by decide) (by decide)) rfl (by rw [hml]; rfl) (lenOf pd_5 rfl) rfl (by show 2 * 0 + _ ≤ _; exact Nat.le_of_eq rfl) (hb hby d10_30) rfl e56 (by decide) (by decide) ?_
  intro v57 T57 Lc57 hQ57 X57
  obtain ⟨rfl, Nq57, K57, f57_0⟩ := hQ57
  have z58 : h0.size ≤ T57.heap.size := K57.1
  have N57 := Fr.app N55 Nq57
  have lt59 := own_alt f57_0.lt
  refine Gl.go (fun _ hr => zXS_aloadN X57.here hx rfl (hb hby d10_33) rfl rfl (zXS_dup X57.here hx rfl (hb hby d10_34) rfl rfl hr)) ?_
  have om60 : ¬ @Eq Nat b a := by omega
  have Fc61 := (q6.keep K57 (ninS (own_ane om60) nin0))
  refine gGetF (host := "") Gl.cl X57 hx hZ hown (Or.inl (tw hw 84 rfl)) Via.refl (rfl : T57.heap = T57.heap) Fc61 rfl rfl (hb hby d10_35) ?_
  intro T62 X62 e62
  refine Gl.go (fun _ hr => zXS_iloadN X62.here hx rfl (hb hby d10_38) rfl (zXS_iadd X62.here hx rfl (hb hby d10_39) rfl hr)) ?_
  show Gl p.tables e below _ (T62.setTop (mkF m 40 #[sR b, sR x, sI (Int32.ofNat cs.length)] [(.int ((Int32.ofNat k) + (Int32.ofNat cs.length))), (.ref b)]))
  rw [own_add32]
  show Gl p.tables e below _ (T62.setTop (mkF m 40 #[sR b, sR x, sI (Int32.ofNat cs.length)] [(.int (Int32.ofNat (k + cs.length))), (.ref b)]))
  have Ec63 := (q3.keep K57)
  refine gPutF (host := "") Gl.cl X62 hx hZ hown (Or.inl (tw hw 84 rfl)) Via.refl e62 Fc61 Ec63 (Or.inl (tw hw 85 rfl)) (tw hw 46 rfl) (ty := .int) (by decide) rfl rfl rfl rfl (hb hby d10_40) ?_
  intro T64 h64 X64 e64 W64
  have z65 : T57.heap.size ≤ h64.size := (Keep.of_wr W64).1
  have Fw64 := Fc61.same W64
  have om66 : @LE.le Nat instLENat n0 b := by omega
  have N64 := Fr.snoc X64 N57 (own_ale om66)
  refine Gl.go (fun _ hr => zXS_aloadN X64.here hx rfl (hb hby d10_43) rfl rfl hr) ?_
  have Ec67 := (Ec63.wr W64)
  have Fc68 := ((q4.keep K57 (ninS (own_ane om60) nin0)).other W64 (Or.inr (slot_ne (Or.inl (tw hw 60 rfl)) (Or.inl (tw hw 85 rfl)) (by decide) (t := (.array .byte)) (t' := .int) (by decide) (by decide))))
  have Fc69 := ((q5.keep K57 (ninS (own_ane om60) nin0)).other W64 (Or.inr (slot_ne (Or.inl (tw hw 62 rfl)) (Or.inl (tw hw 85 rfl)) (by decide) (t := .byte) (t' := .int) (by decide) (by decide))))
  have Vc70 := (f57_0.other W64 (own_anes om60))
  obtain ⟨fs, hr, hrun, hended, hW, hsame⟩ := X64.leave (v := some (.ref b)) (fun h => by rw [Bd.returns] at h; cases h)
  refine ⟨_, _, retOut X64 hx Bd.returns rfl (Or.inr (Or.inr (Or.inr (Or.inr ⟨rfl, rfl, rfl⟩)))) (hb hby d10_44) hr, hrun, hended, _, _, rfl, ?_, ⟨⟨_, rfl⟩, hW, hsame.mono (by decide) (by decide)⟩⟩
  show Qaps Z b a ka k xs x t kb cs G1 h0 n0 _ T64.heap _
  rw [e64]
  exact ⟨rfl, N64, (((Keep.refl h0 [b, a]).trans K57 (allS (P := fun x_ => x_ ∈ ([b, a] : List Addr) ∨ h0.size ≤ x_) (Or.inl (by simp)) all0)).wr W64 (Or.inl (by simp))), Ec67, Fc68, Fc69, Fw64, Vc70⟩
def Qsbs (Z : State) (b : Addr) (a : Addr) (ka : ClassId) (k : Nat) (xs : List Value) (x : Addr) (t : Addr) (kb : ClassId) (cs : List Int32) (G1 : Int32) (h0 : Heap) (n0 : Nat) (v : Option Value) (h : Heap) (L : List Loc) : Prop := v = some (.ref b) ∧ Fr n0 L ∧ Keep h0 h [b, a] ∧ (Exa Z h b "java/lang/StringBuilder") ∧ (Fld Z h b "java/lang/AbstractStringBuilder" "value" "[B" (.ref a)) ∧ (Fld Z h b "java/lang/AbstractStringBuilder" "coder" "B" (.int (0 : Int32))) ∧ (Fld Z h b "java/lang/AbstractStringBuilder" "count" "I" (.int (Int32.ofNat (k + cs.length)))) ∧ (Arv Z h a ka .byte (16 : Int32) (xs ++ lb cs) (.int 0))
theorem pn_2 : plainName "java/lang/StringBuilder" = true := by first | (simp [plainName, overriddenIn]; done) | decide +kernel
theorem ef_sbs (m : MethodId) (x0 : Addr) (x1 : Addr) : entryFrame m #[(.ref x0), (.ref x1)] 2 = mkF m 0 #[sR x0, sR x1] [] := by first | (simp [entryFrame, mkF, argsToLocals, Value.category]; done) | rfl
theorem d9_0 : decode jdk_67_method_7_code 0 = .ok (.aload_n 0, 1) := by decide +kernel
theorem d9_1 : decode jdk_67_method_7_code 1 = .ok (.aload_n 1, 1) := by decide +kernel
theorem d9_2 : decode jdk_67_method_7_code 2 = .ok (.invokespecial 29, 3) := by decide +kernel
theorem pd_6 : parseMethodDescriptor "(Ljava/lang/String;)Ljava/lang/AbstractStringBuilder;" = some ⟨[(.object "java/lang/String")], some (.object "java/lang/AbstractStringBuilder")⟩ := by decide +kernel
theorem d9_5 : decode jdk_67_method_7_code 5 = .ok (.pop, 1) := by decide +kernel
theorem d9_6 : decode jdk_67_method_7_code 6 = .ok (.aload_n 0, 1) := by decide +kernel
theorem d9_7 : decode jdk_67_method_7_code 7 = .ok (.areturn, 1) := by decide +kernel
set_option maxRecDepth 65536 in
set_option maxHeartbeats 40000000 in
theorem sbs (l : Launch) (Z : State) (a0 : Array Value) (hw : ∀ d ∈ tables_1, d.before a0 Z = true) (ws : List Jvm.Cond) (b : Addr) (a : Addr) (ka : ClassId) (k : Nat) (xs : List Value) (x : Addr) (t : Addr) (kb : ClassId) (cs : List Int32) (G1 : Int32) (h0 : Heap) (n0 : Nat) (Z0 : n0 ≤ h0.size) (q0 : Sta Z Z.heap "java/lang/String" "COMPACT_STRINGS" "Z" (.int G1)) (P5 : ¬ (G1 = (0 : Int32))) (q2 : (Old Z Z.heap.size h0 ∧ @LE.le Nat instLENat Z.heap.size n0)) (q3 : Exa Z h0 b "java/lang/StringBuilder") (q4 : Fld Z h0 b "java/lang/AbstractStringBuilder" "value" "[B" (.ref a)) (q5 : Fld Z h0 b "java/lang/AbstractStringBuilder" "coder" "B" (.int (0 : Int32))) (q6 : Fld Z h0 b "java/lang/AbstractStringBuilder" "count" "I" (.int (Int32.ofNat k))) (q7 : Arv Z h0 a ka .byte (16 : Int32) xs (.int 0)) (q8 : @LE.le Nat instLENat n0 a) (q9 : @LE.le Nat instLENat n0 b) (q10 : ¬ @Eq Nat a b) (hxl : xs.length = k) (q12 : Exa Z h0 x "java/lang/String") (q13 : Fld Z h0 x "java/lang/String" "value" "[B" (.ref t)) (q14 : Fld Z h0 x "java/lang/String" "coder" "B" (.int (0 : Int32))) (q15 : Arv Z h0 t kb .byte (Int32.ofNat cs.length) (lb cs) (.int 0)) (q16 : ¬ @Eq Nat a x) (q17 : ¬ @Eq Nat a t) (q18 : ¬ @Eq Nat b x) (q19 : ¬ @Eq Nat b t) (hfit : k + cs.length ≤ 16) (hlat : ∀ c ∈ cs, Lat c) :
    MetFree l (⟨"java/lang/StringBuilder", "append", "(Ljava/lang/String;)Ljava/lang/StringBuilder;"⟩ : MethodName) (head1 (Jvm.Cond.code (⟨"java/lang/StringBuilder", "append", "(Ljava/lang/String;)Ljava/lang/StringBuilder;"⟩ : MethodName) jdk_67_method_7_code 2 (some (.object "java/lang/StringBuilder")) :: ws) ({ frames := 4, cells := 0, slots := 0, locals := 96 } : Room)) (fun a_ U_ => a_ = #[(.ref b), (.ref x)] ∧ Z.Warmed39 U_.vm ∧ U_.heap = h0) (fun _ _ _ _ _ => True) (fun _ U_ o_ V_ => ∃ v_ L_, o_ = .returned v_ ∧ Qsbs Z b a ka k xs x t kb cs G1 h0 n0 v_ V_.heap L_ ∧ FrameEnd U_ o_ V_ L_ ({ frames := 4, cells := 0, slots := 0, locals := 96 } : Room).cells ({ frames := 4, cells := 0, slots := 0, locals := 96 } : Room).slots) := by
  refine MetFree.of_bodySF (plainFor_of_name pn_2) hisR ?_
  intro p e s m args below meth c s₁ Bd hml0 hP hK
  obtain ⟨rfl, hZ, hh⟩ := hP
  have hx := Bd.exec
  have hby := Bd.bytes
  have hml : c.maxLocals = 2 := hml0
  have hown : s.vm.findClass "java/lang/StringBuilder" = some m.cls := findClass_of_methodNamed Bd.named
  have hnm := (name_of_methodNamed Bd.named Bd.method).1
  have X0 : Stand p l e ({ frames := 4, cells := 0, slots := 0, locals := 96 } : Room) s m #[(.ref b), (.ref x)] below meth c s₁ [] 0 0 := Stand.of_body Bd
  have e0 : s₁.heap = h0 := by rw [← hh, Bd.state]; rfl
  have N0 := Fr.nil n0
  have Oo := q2.1
  have zo := q2.2
  have lt71 := own_alt q3.lt
  have lt72 := own_alt q4.lt
  have lt73 := own_alt q5.lt
  have lt74 := own_alt q6.lt
  have lt75 := own_alt q7.lt
  have lt76 := own_alt q12.lt
  have lt77 := own_alt q13.lt
  have lt78 := own_alt q14.lt
  have lt79 := own_alt q15.lt
  have hcd : StrChars.Road.CodA cs 0 (Int32.ofNat cs.length) (lb cs) := StrChars.Road.codOf rfl (fun c hc => (hlat c hc).2)
  have hbd : ∀ c ∈ cs, Wid c := own_up hlat
  have hln4 : cs.length ≤ 4000 := by omega
  refine Gl.go (A := s₁.setTop (entryFrame m #[(.ref b), (.ref x)] 2)) (P := fun o_ U_ => ∃ v_ L_, o_ = .returned v_ ∧ Qsbs Z b a ka k xs x t kb cs G1 h0 n0 v_ U_.heap L_ ∧ FrameEnd s o_ U_ L_ ({ frames := 4, cells := 0, slots := 0, locals := 96 } : Room).cells ({ frames := 4, cells := 0, slots := 0, locals := 96 } : Room).slots) (fun t_ k_ => castTop (ef_sbs m b x) k_) ?_
  show Gl p.tables e below _ (s₁.setTop (mkF m 0 #[sR b, sR x] []))
  refine Gl.go (fun _ hr => zXS_aloadN X0.here hx rfl (hb hby d9_0) rfl rfl (zXS_aloadN X0.here hx rfl (hb hby d9_1) rfl rfl hr)) ?_
  have zz80 : n0 ≤ h0.size := by omega
  refine gSuperN Gl.cl (y := (⟨"java/lang/AbstractStringBuilder", "append", "(Ljava/lang/String;)Ljava/lang/AbstractStringBuilder;"⟩ : MethodName)) (b := b) (argsL := [(.ref x)]) (rest := []) (mc := 0) (ms := 0) X0 hx hZ hown (tw hw 68 rfl) (own_same (y := (⟨"java/lang/AbstractStringBuilder", "append", "(Ljava/lang/String;)Ljava/lang/AbstractStringBuilder;"⟩ : MethodName)) (tw hw 71 rfl) (tw hw 89 rfl) rfl (by decide)) (tw hw 69 rfl) (tw hw 70 rfl) (by decide) (tw hw 72 rfl) (Ins.self q3) (backOf (W := 0) (aps l Z a0 hw [] b a ka k xs x t kb cs G1 h0 n0 zz80 q0 (by assumption) ⟨Oo, (by omega)⟩ q3 q4 q5 q6 q7 (by omega) (by omega) (by omega) hxl q12 q13 q14 q15 (by omega) (by omega) (by omega) (by omega) hfit hlat) hZ (tw hw 72 rfl) (tw hw 55 rfl) (by decide) (by decide)) rfl (by rw [hml]; rfl) (lenOf pd_6 rfl) rfl (by show 2 * 0 + _ ≤ _; exact Nat.le_of_eq rfl) (hb hby d9_2) rfl e0 (by decide) (by decide) ?_
  intro v80 T80 Lc80 hQ80 X80
  obtain ⟨rfl, Nq80, K80, f80_0, f80_1, f80_2, f80_3, f80_4⟩ := hQ80
  have z81 : h0.size ≤ T80.heap.size := K80.1
  have N80 := Fr.app N0 Nq80
  have lt82 := own_alt f80_0.lt
  have lt83 := own_alt f80_1.lt
  have lt84 := own_alt f80_2.lt
  have lt85 := own_alt f80_3.lt
  have lt86 := own_alt f80_4.lt
  refine Gl.go (fun _ hr => zXT_pop X80.here hx rfl (hb hby d9_5) rfl rfl (zXS_aloadN X80.here hx rfl (hb hby d9_6) rfl rfl hr)) ?_
  obtain ⟨fs, hr, hrun, hended, hW, hsame⟩ := X80.leave (v := some (.ref b)) (fun h => by rw [Bd.returns] at h; cases h)
  refine ⟨_, _, retOut X80 hx Bd.returns rfl (Or.inr (Or.inr (Or.inr (Or.inr ⟨rfl, rfl, rfl⟩)))) (hb hby d9_7) hr, hrun, hended, _, _, rfl, ?_, ⟨⟨_, rfl⟩, hW, hsame.mono (by decide) (by decide)⟩⟩
  show Qsbs Z b a ka k xs x t kb cs G1 h0 n0 _ T80.heap _
  exact ⟨rfl, N80, ((Keep.refl h0 [b, a]).trans K80 (allS (P := fun x_ => x_ ∈ ([b, a] : List Addr) ∨ h0.size ≤ x_) (Or.inl (by simp)) (allS (P := fun x_ => x_ ∈ ([b, a] : List Addr) ∨ h0.size ≤ x_) (Or.inl (by simp)) all0))), f80_0, f80_1, f80_2, f80_3, f80_4⟩
def Qgv (Z : State) (b : Addr) (a : Addr) (h0 : Heap) (n0 : Nat) (v : Option Value) (h : Heap) (L : List Loc) : Prop := v = some (.ref a) ∧ Fr n0 L ∧ h = h0
theorem ef_gv (m : MethodId) (x0 : Addr) : entryFrame m #[(.ref x0)] 1 = mkF m 0 #[sR x0] [] := by first | (simp [entryFrame, mkF, argsToLocals, Value.category]; done) | rfl
theorem d25_0 : decode jdk_68_method_64_code 0 = .ok (.aload_n 0, 1) := by decide +kernel
theorem d25_1 : decode jdk_68_method_64_code 1 = .ok (.getfield 15, 3) := by decide +kernel
theorem d25_4 : decode jdk_68_method_64_code 4 = .ok (.areturn, 1) := by decide +kernel
set_option maxRecDepth 65536 in
set_option maxHeartbeats 40000000 in
theorem gv (l : Launch) (Z : State) (a0 : Array Value) (hw : ∀ d ∈ tables_1, d.before a0 Z = true) (ws : List Jvm.Cond) (b : Addr) (a : Addr) (h0 : Heap) (n0 : Nat) (Z0 : n0 ≤ h0.size) (q0 : Fld Z h0 b "java/lang/AbstractStringBuilder" "value" "[B" (.ref a)) :
    MetFree l (⟨"java/lang/AbstractStringBuilder", "getValue", "()[B"⟩ : MethodName) (head1 (Jvm.Cond.code (⟨"java/lang/AbstractStringBuilder", "getValue", "()[B"⟩ : MethodName) jdk_68_method_64_code 1 (some (.array .byte)) :: ws) ({ frames := 0, cells := 0, slots := 0, locals := 0 } : Room)) (fun a_ U_ => a_ = #[(.ref b)] ∧ Z.Warmed39 U_.vm ∧ U_.heap = h0) (fun _ _ _ _ _ => True) (fun _ U_ o_ V_ => ∃ v_ L_, o_ = .returned v_ ∧ Qgv Z b a h0 n0 v_ V_.heap L_ ∧ FrameEnd U_ o_ V_ L_ ({ frames := 0, cells := 0, slots := 0, locals := 0 } : Room).cells ({ frames := 0, cells := 0, slots := 0, locals := 0 } : Room).slots) := by
  refine MetFree.of_bodySF (plainFor_of_name pn_1) hisR ?_
  intro p e s m args below meth c s₁ Bd hml0 hP hK
  obtain ⟨rfl, hZ, hh⟩ := hP
  have hx := Bd.exec
  have hby := Bd.bytes
  have hml : c.maxLocals = 1 := hml0
  have hown : s.vm.findClass "java/lang/AbstractStringBuilder" = some m.cls := findClass_of_methodNamed Bd.named
  have hnm := (name_of_methodNamed Bd.named Bd.method).1
  have X0 : Stand p l e ({ frames := 0, cells := 0, slots := 0, locals := 0 } : Room) s m #[(.ref b)] below meth c s₁ [] 0 0 := Stand.of_body Bd
  have e0 : s₁.heap = h0 := by rw [← hh, Bd.state]; rfl
  have N0 := Fr.nil n0
  have lt87 := own_alt q0.lt
  refine Gl.go (A := s₁.setTop (entryFrame m #[(.ref b)] 1)) (P := fun o_ U_ => ∃ v_ L_, o_ = .returned v_ ∧ Qgv Z b a h0 n0 v_ U_.heap L_ ∧ FrameEnd s o_ U_ L_ ({ frames := 0, cells := 0, slots := 0, locals := 0 } : Room).cells ({ frames := 0, cells := 0, slots := 0, locals := 0 } : Room).slots) (fun t_ k_ => castTop (ef_gv m b) k_) ?_
  show Gl p.tables e below _ (s₁.setTop (mkF m 0 #[sR b] []))
  refine Gl.go (fun _ hr => zXS_aloadN X0.here hx rfl (hb hby d25_0) rfl rfl hr) ?_
  refine gGetF (host := "") Gl.cl X0 hx hZ hown (Or.inl (tw hw 59 rfl)) Via.refl e0 q0 rfl rfl (hb hby d25_1) ?_
  intro T88 X88 e88
  obtain ⟨fs, hr, hrun, hended, hW, hsame⟩ := X88.leave (v := some (.ref a)) (fun h => by rw [Bd.returns] at h; cases h)
  refine ⟨_, _, retOut X88 hx Bd.returns rfl (Or.inr (Or.inr (Or.inr (Or.inr ⟨rfl, rfl, rfl⟩)))) (hb hby d25_4) hr, hrun, hended, _, _, rfl, ?_, ⟨⟨_, rfl⟩, hW, hsame.mono (by decide) (by decide)⟩⟩
  show Qgv Z b a h0 n0 _ T88.heap _
  rw [e88]
  exact ⟨rfl, N0, rfl⟩
def Qasl (Z : State) (b : Addr) (n : Int32) (h0 : Heap) (n0 : Nat) (v : Option Value) (h : Heap) (L : List Loc) : Prop := v = some (.int n) ∧ Fr n0 L ∧ h = h0
theorem ef_asl (m : MethodId) (x0 : Addr) : entryFrame m #[(.ref x0)] 1 = mkF m 0 #[sR x0] [] := by first | (simp [entryFrame, mkF, argsToLocals, Value.category]; done) | rfl
theorem d27_0 : decode jdk_68_method_6_code 0 = .ok (.aload_n 0, 1) := by decide +kernel
theorem d27_1 : decode jdk_68_method_6_code 1 = .ok (.getfield 79, 3) := by decide +kernel
theorem d27_4 : decode jdk_68_method_6_code 4 = .ok (.ireturn, 1) := by decide +kernel
set_option maxRecDepth 65536 in
set_option maxHeartbeats 40000000 in
theorem asl (l : Launch) (Z : State) (a0 : Array Value) (hw : ∀ d ∈ tables_1, d.before a0 Z = true) (ws : List Jvm.Cond) (b : Addr) (n : Int32) (h0 : Heap) (n0 : Nat) (Z0 : n0 ≤ h0.size) (q0 : Fld Z h0 b "java/lang/AbstractStringBuilder" "count" "I" (.int n)) :
    MetFree l (⟨"java/lang/AbstractStringBuilder", "length", "()I"⟩ : MethodName) (head1 (Jvm.Cond.code (⟨"java/lang/AbstractStringBuilder", "length", "()I"⟩ : MethodName) jdk_68_method_6_code 1 (some .int) :: ws) ({ frames := 0, cells := 0, slots := 0, locals := 0 } : Room)) (fun a_ U_ => a_ = #[(.ref b)] ∧ Z.Warmed39 U_.vm ∧ U_.heap = h0) (fun _ _ _ _ _ => True) (fun _ U_ o_ V_ => ∃ v_ L_, o_ = .returned v_ ∧ Qasl Z b n h0 n0 v_ V_.heap L_ ∧ FrameEnd U_ o_ V_ L_ ({ frames := 0, cells := 0, slots := 0, locals := 0 } : Room).cells ({ frames := 0, cells := 0, slots := 0, locals := 0 } : Room).slots) := by
  refine MetFree.of_bodySF (plainFor_of_name pn_1) hisR ?_
  intro p e s m args below meth c s₁ Bd hml0 hP hK
  obtain ⟨rfl, hZ, hh⟩ := hP
  have hx := Bd.exec
  have hby := Bd.bytes
  have hml : c.maxLocals = 1 := hml0
  have hown : s.vm.findClass "java/lang/AbstractStringBuilder" = some m.cls := findClass_of_methodNamed Bd.named
  have hnm := (name_of_methodNamed Bd.named Bd.method).1
  have X0 : Stand p l e ({ frames := 0, cells := 0, slots := 0, locals := 0 } : Room) s m #[(.ref b)] below meth c s₁ [] 0 0 := Stand.of_body Bd
  have e0 : s₁.heap = h0 := by rw [← hh, Bd.state]; rfl
  have N0 := Fr.nil n0
  have lt89 := own_alt q0.lt
  refine Gl.go (A := s₁.setTop (entryFrame m #[(.ref b)] 1)) (P := fun o_ U_ => ∃ v_ L_, o_ = .returned v_ ∧ Qasl Z b n h0 n0 v_ U_.heap L_ ∧ FrameEnd s o_ U_ L_ ({ frames := 0, cells := 0, slots := 0, locals := 0 } : Room).cells ({ frames := 0, cells := 0, slots := 0, locals := 0 } : Room).slots) (fun t_ k_ => castTop (ef_asl m b) k_) ?_
  show Gl p.tables e below _ (s₁.setTop (mkF m 0 #[sR b] []))
  refine Gl.go (fun _ hr => zXS_aloadN X0.here hx rfl (hb hby d27_0) rfl rfl hr) ?_
  refine gGetF (host := "") Gl.cl X0 hx hZ hown (Or.inl (tw hw 84 rfl)) Via.refl e0 q0 rfl rfl (hb hby d27_1) ?_
  intro T90 X90 e90
  obtain ⟨fs, hr, hrun, hended, hW, hsame⟩ := X90.leave (v := some (.int n)) (fun h => by rw [Bd.returns] at h; cases h)
  refine ⟨_, _, retOut X90 hx Bd.returns rfl (Or.inl ⟨rfl, Or.inl rfl, _, rfl⟩) (hb hby d27_4) hr, hrun, hended, _, _, rfl, ?_, ⟨⟨_, rfl⟩, hW, hsame.mono (by decide) (by decide)⟩⟩
  show Qasl Z b n h0 n0 _ T90.heap _
  rw [e90]
  exact ⟨rfl, N0, rfl⟩
def Qsbl (Z : State) (b : Addr) (n : Int32) (h0 : Heap) (n0 : Nat) (v : Option Value) (h : Heap) (L : List Loc) : Prop := v = some (.int n) ∧ Fr n0 L ∧ h = h0
theorem ef_sbl (m : MethodId) (x0 : Addr) : entryFrame m #[(.ref x0)] 1 = mkF m 0 #[sR x0] [] := by first | (simp [entryFrame, mkF, argsToLocals, Value.category]; done) | rfl
theorem d26_0 : decode jdk_67_method_93_code 0 = .ok (.aload_n 0, 1) := by decide +kernel
theorem d26_1 : decode jdk_67_method_93_code 1 = .ok (.invokespecial 343, 3) := by decide +kernel
theorem d26_4 : decode jdk_67_method_93_code 4 = .ok (.ireturn, 1) := by decide +kernel
set_option maxRecDepth 65536 in
set_option maxHeartbeats 40000000 in
theorem sbl (l : Launch) (Z : State) (a0 : Array Value) (hw : ∀ d ∈ tables_1, d.before a0 Z = true) (ws : List Jvm.Cond) (b : Addr) (n : Int32) (h0 : Heap) (n0 : Nat) (Z0 : n0 ≤ h0.size) (q0 : Exa Z h0 b "java/lang/StringBuilder") (q1 : Fld Z h0 b "java/lang/AbstractStringBuilder" "count" "I" (.int n)) :
    MetFree l (⟨"java/lang/StringBuilder", "length", "()I"⟩ : MethodName) (head1 (Jvm.Cond.code (⟨"java/lang/StringBuilder", "length", "()I"⟩ : MethodName) jdk_67_method_93_code 1 (some .int) :: ws) ({ frames := 1, cells := 0, slots := 0, locals := 14 } : Room)) (fun a_ U_ => a_ = #[(.ref b)] ∧ Z.Warmed39 U_.vm ∧ U_.heap = h0) (fun _ _ _ _ _ => True) (fun _ U_ o_ V_ => ∃ v_ L_, o_ = .returned v_ ∧ Qsbl Z b n h0 n0 v_ V_.heap L_ ∧ FrameEnd U_ o_ V_ L_ ({ frames := 1, cells := 0, slots := 0, locals := 14 } : Room).cells ({ frames := 1, cells := 0, slots := 0, locals := 14 } : Room).slots) := by
  refine MetFree.of_bodySF (plainFor_of_name pn_2) hisR ?_
  intro p e s m args below meth c s₁ Bd hml0 hP hK
  obtain ⟨rfl, hZ, hh⟩ := hP
  have hx := Bd.exec
  have hby := Bd.bytes
  have hml : c.maxLocals = 1 := hml0
  have hown : s.vm.findClass "java/lang/StringBuilder" = some m.cls := findClass_of_methodNamed Bd.named
  have hnm := (name_of_methodNamed Bd.named Bd.method).1
  have X0 : Stand p l e ({ frames := 1, cells := 0, slots := 0, locals := 14 } : Room) s m #[(.ref b)] below meth c s₁ [] 0 0 := Stand.of_body Bd
  have e0 : s₁.heap = h0 := by rw [← hh, Bd.state]; rfl
  have N0 := Fr.nil n0
  have lt91 := own_alt q0.lt
  have lt92 := own_alt q1.lt
  refine Gl.go (A := s₁.setTop (entryFrame m #[(.ref b)] 1)) (P := fun o_ U_ => ∃ v_ L_, o_ = .returned v_ ∧ Qsbl Z b n h0 n0 v_ U_.heap L_ ∧ FrameEnd s o_ U_ L_ ({ frames := 1, cells := 0, slots := 0, locals := 14 } : Room).cells ({ frames := 1, cells := 0, slots := 0, locals := 14 } : Room).slots) (fun t_ k_ => castTop (ef_sbl m b) k_) ?_
  show Gl p.tables e below _ (s₁.setTop (mkF m 0 #[sR b] []))
  refine Gl.go (fun _ hr => zXS_aloadN X0.here hx rfl (hb hby d26_0) rfl rfl hr) ?_
  have zz93 : n0 ≤ h0.size := by omega
  refine gSuperN Gl.cl (y := (⟨"java/lang/AbstractStringBuilder", "length", "()I"⟩ : MethodName)) (b := b) (argsL := []) (rest := []) (mc := 0) (ms := 0) X0 hx hZ hown (tw hw 157 rfl) (own_same (y := (⟨"java/lang/AbstractStringBuilder", "length", "()I"⟩ : MethodName)) (tw hw 152 rfl) (tw hw 89 rfl) rfl (by decide)) (tw hw 153 rfl) (tw hw 70 rfl) (by decide) (tw hw 158 rfl) (Ins.self q0) (backOf (W := 0) (asl l Z a0 hw [] b n h0 n0 zz93 q1) hZ (tw hw 158 rfl) (tw hw 55 rfl) (by decide) (by decide)) rfl (by rw [hml]; rfl) (lenOf pd_3 rfl) rfl (by show 2 * 0 + _ ≤ _; exact Nat.le_of_eq rfl) (hb hby d26_1) rfl e0 (by decide) (by decide) ?_
  intro v93 T93 Lc93 hQ93 X93
  obtain ⟨rfl, Nq93, e93⟩ := hQ93
  have N93 := Fr.app N0 Nq93
  obtain ⟨fs, hr, hrun, hended, hW, hsame⟩ := X93.leave (v := some (.int n)) (fun h => by rw [Bd.returns] at h; cases h)
  refine ⟨_, _, retOut X93 hx Bd.returns rfl (Or.inl ⟨rfl, Or.inl rfl, _, rfl⟩) (hb hby d26_4) hr, hrun, hended, _, _, rfl, ?_, ⟨⟨_, rfl⟩, hW, hsame.mono (by decide) (by decide)⟩⟩
  show Qsbl Z b n h0 n0 _ T93.heap _
  rw [e93]
  exact ⟨rfl, N93, rfl⟩
def Qcl (Z : State) (k : Nat) (h0 : Heap) (n0 : Nat) (v : Option Value) (h : Heap) (L : List Loc) : Prop := v = none ∧ Fr n0 L ∧ h = h0
theorem pn_3 : plainName "java/util/Arrays" = true := by first | (simp [plainName, overriddenIn]; done) | decide +kernel
theorem ef_cl (m : MethodId) (x0 : Int32) (x1 : Int32) : entryFrame m #[(.int x0), (.int x1)] 2 = mkF m 0 #[sI x0, sI x1] [] := by first | (simp [entryFrame, mkF, argsToLocals, Value.category]; done) | rfl
theorem d30_0 : decode jdk_65_method_131_code 0 = .ok (.iload_n 1, 1) := by decide +kernel
theorem d30_1 : decode jdk_65_method_131_code 1 = .ok (.iload_n 0, 1) := by decide +kernel
theorem d30_2 : decode jdk_65_method_131_code 2 = .ok (.if_icmp .ge 35, 3) := by decide +kernel
theorem d30_37 : decode jdk_65_method_131_code 37 = .ok (.return_, 1) := by decide +kernel
set_option maxRecDepth 65536 in
set_option maxHeartbeats 40000000 in
theorem cl (l : Launch) (Z : State) (a0 : Array Value) (hw : ∀ d ∈ tables_1, d.before a0 Z = true) (ws : List Jvm.Cond) (k : Nat) (h0 : Heap) (n0 : Nat) (Z0 : n0 ≤ h0.size) (hk : k < 16) :
    MetFree l (⟨"java/util/Arrays", "checkLength", "(II)V"⟩ : MethodName) (head1 (Jvm.Cond.code (⟨"java/util/Arrays", "checkLength", "(II)V"⟩ : MethodName) jdk_65_method_131_code 2 none :: ws) ({ frames := 0, cells := 0, slots := 0, locals := 0 } : Room)) (fun a_ U_ => a_ = #[(.int (0 : Int32)), (.int (Int32.ofNat k))] ∧ Z.Warmed39 U_.vm ∧ U_.heap = h0) (fun _ _ _ _ _ => True) (fun _ U_ o_ V_ => ∃ v_ L_, o_ = .returned v_ ∧ Qcl Z k h0 n0 v_ V_.heap L_ ∧ FrameEnd U_ o_ V_ L_ ({ frames := 0, cells := 0, slots := 0, locals := 0 } : Room).cells ({ frames := 0, cells := 0, slots := 0, locals := 0 } : Room).slots) := by
  refine MetFree.of_bodySF (plainFor_of_name pn_3) hisR ?_
  intro p e s m args below meth c s₁ Bd hml0 hP hK
  obtain ⟨rfl, hZ, hh⟩ := hP
  have hx := Bd.exec
  have hby := Bd.bytes
  have hml : c.maxLocals = 2 := hml0
  have hown : s.vm.findClass "java/util/Arrays" = some m.cls := findClass_of_methodNamed Bd.named
  have hnm := (name_of_methodNamed Bd.named Bd.method).1
  have X0 : Stand p l e ({ frames := 0, cells := 0, slots := 0, locals := 0 } : Room) s m #[(.int (0 : Int32)), (.int (Int32.ofNat k))] below meth c s₁ [] 0 0 := Stand.of_body Bd
  have e0 : s₁.heap = h0 := by rw [← hh, Bd.state]; rfl
  have N0 := Fr.nil n0
  refine Gl.go (A := s₁.setTop (entryFrame m #[(.int (0 : Int32)), (.int (Int32.ofNat k))] 2)) (P := fun o_ U_ => ∃ v_ L_, o_ = .returned v_ ∧ Qcl Z k h0 n0 v_ U_.heap L_ ∧ FrameEnd s o_ U_ L_ ({ frames := 0, cells := 0, slots := 0, locals := 0 } : Room).cells ({ frames := 0, cells := 0, slots := 0, locals := 0 } : Room).slots) (fun t_ k_ => castTop (ef_cl m (0 : Int32) (Int32.ofNat k)) k_) ?_
  show Gl p.tables e below _ (s₁.setTop (mkF m 0 #[sI 0, sI (Int32.ofNat k)] []))
  refine Gl.go (fun _ hr => zXS_iloadN X0.here hx rfl (hb hby d30_0) rfl (zXS_iloadN X0.here hx rfl (hb hby d30_1) rfl hr)) ?_
  refine Gl.go (fun _ hr => zXS_icmpYes X0.here hx rfl (pc0 := 2) (pc' := 37) rfl (hb hby d30_2) rfl (XT.ii_ge_t (own_nn (by omega))) (by decide) (by decide) hr) ?_
  obtain ⟨fs, hr, hrun, hended, hW, hsame⟩ := X0.leave (v := none) (fun _ => rfl)
  refine ⟨_, _, X0.returnOut hx Bd.returns (hb hby d30_37) hr, hrun, hended, _, _, rfl, ?_, ⟨⟨_, rfl⟩, hW, hsame.mono (by decide) (by decide)⟩⟩
  show Qcl Z k h0 n0 _ s₁.heap _
  rw [e0]
  exact ⟨rfl, N0, rfl⟩
def Qmn (Z : State) (k : Nat) (h0 : Heap) (n0 : Nat) (v : Option Value) (h : Heap) (L : List Loc) : Prop := v = some (.int (Int32.ofNat k)) ∧ Fr n0 L ∧ h = h0
theorem ef_mn (m : MethodId) (x0 : Int32) (x1 : Int32) : entryFrame m #[(.int x0), (.int x1)] 2 = mkF m 0 #[sI x0, sI x1] [] := by first | (simp [entryFrame, mkF, argsToLocals, Value.category]; done) | rfl
theorem d31_0 : decode jdk_29_method_69_code 0 = .ok (.iload_n 0, 1) := by decide +kernel
theorem d31_1 : decode jdk_29_method_69_code 1 = .ok (.iload_n 1, 1) := by decide +kernel
theorem d31_2 : decode jdk_29_method_69_code 2 = .ok (.if_icmp .gt 7, 3) := by decide +kernel
theorem d31_9 : decode jdk_29_method_69_code 9 = .ok (.iload_n 1, 1) := by decide +kernel
theorem d31_10 : decode jdk_29_method_69_code 10 = .ok (.ireturn, 1) := by decide +kernel
set_option maxRecDepth 65536 in
set_option maxHeartbeats 40000000 in
theorem mn (l : Launch) (Z : State) (a0 : Array Value) (hw : ∀ d ∈ tables_1, d.before a0 Z = true) (ws : List Jvm.Cond) (k : Nat) (h0 : Heap) (n0 : Nat) (Z0 : n0 ≤ h0.size) (hk : k < 16) :
    MetFree l (⟨"java/lang/Math", "min", "(II)I"⟩ : MethodName) (head1 (Jvm.Cond.code (⟨"java/lang/Math", "min", "(II)I"⟩ : MethodName) jdk_29_method_69_code 2 (some .int) :: ws) ({ frames := 0, cells := 0, slots := 0, locals := 0 } : Room)) (fun a_ U_ => a_ = #[(.int (16 : Int32)), (.int (Int32.ofNat k))] ∧ Z.Warmed39 U_.vm ∧ U_.heap = h0) (fun _ _ _ _ _ => True) (fun _ U_ o_ V_ => ∃ v_ L_, o_ = .returned v_ ∧ Qmn Z k h0 n0 v_ V_.heap L_ ∧ FrameEnd U_ o_ V_ L_ ({ frames := 0, cells := 0, slots := 0, locals := 0 } : Room).cells ({ frames := 0, cells := 0, slots := 0, locals := 0 } : Room).slots) := by
  refine MetFree.of_bodySF (Jvm.Free.JP.mathPlain rfl (by decide +kernel)) hisR ?_
  intro p e s m args below meth c s₁ Bd hml0 hP hK
  obtain ⟨rfl, hZ, hh⟩ := hP
  have hx := Bd.exec
  have hby := Bd.bytes
  have hml : c.maxLocals = 2 := hml0
  have hown : s.vm.findClass "java/lang/Math" = some m.cls := findClass_of_methodNamed Bd.named
  have hnm := (name_of_methodNamed Bd.named Bd.method).1
  have X0 : Stand p l e ({ frames := 0, cells := 0, slots := 0, locals := 0 } : Room) s m #[(.int (16 : Int32)), (.int (Int32.ofNat k))] below meth c s₁ [] 0 0 := Stand.of_body Bd
  have e0 : s₁.heap = h0 := by rw [← hh, Bd.state]; rfl
  have N0 := Fr.nil n0
  refine Gl.go (A := s₁.setTop (entryFrame m #[(.int (16 : Int32)), (.int (Int32.ofNat k))] 2)) (P := fun o_ U_ => ∃ v_ L_, o_ = .returned v_ ∧ Qmn Z k h0 n0 v_ U_.heap L_ ∧ FrameEnd s o_ U_ L_ ({ frames := 0, cells := 0, slots := 0, locals := 0 } : Room).cells ({ frames := 0, cells := 0, slots := 0, locals := 0 } : Room).slots) (fun t_ k_ => castTop (ef_mn m (16 : Int32) (Int32.ofNat k)) k_) ?_
  show Gl p.tables e below _ (s₁.setTop (mkF m 0 #[sI 16, sI (Int32.ofNat k)] []))
  refine Gl.go (fun _ hr => zXS_iloadN X0.here hx rfl (hb hby d31_0) rfl (zXS_iloadN X0.here hx rfl (hb hby d31_1) rfl hr)) ?_
  refine Gl.go (fun _ hr => zXS_icmpYes X0.here hx rfl (pc0 := 2) (pc' := 9) rfl (hb hby d31_2) rfl (XT.ii_gt_t (own_lt32 (b := 16) (by omega) hk)) (by decide) (by decide) (zXS_iloadN X0.here hx rfl (hb hby d31_9) rfl hr)) ?_
  obtain ⟨fs, hr, hrun, hended, hW, hsame⟩ := X0.leave (v := some (.int (Int32.ofNat k))) (fun h => by rw [Bd.returns] at h; cases h)
  refine ⟨_, _, retOut X0 hx Bd.returns rfl (Or.inl ⟨rfl, Or.inl rfl, _, rfl⟩) (hb hby d31_10) hr, hrun, hended, _, _, rfl, ?_, ⟨⟨_, rfl⟩, hW, hsame.mono (by decide) (by decide)⟩⟩
  show Qmn Z k h0 n0 _ s₁.heap _
  rw [e0]
  exact ⟨rfl, N0, rfl⟩
def Qcrb (Z : State) (a : Addr) (ka : ClassId) (k : Nat) (xs : List Value) (h0 : Heap) (n0 : Nat) (v : Option Value) (h : Heap) (L : List Loc) : Prop := ∃ (r : Addr), ∃ (kr : ClassId), v = some (.ref r) ∧ Fr n0 L ∧ Keep h0 h [] ∧ (@LE.le Nat instLENat n0 r) ∧ (Arv Z h r kr .byte (Int32.ofNat k) xs (.int 0)) ∧ (@LE.le Nat instLENat h0.size r)
theorem ef_crb (m : MethodId) (x0 : Addr) (x1 : Int32) (x2 : Int32) : entryFrame m #[(.ref x0), (.int x1), (.int x2)] 5 = mkF m 0 #[sR x0, sI x1, sI x2, sU, sU] [] := by first | (simp [entryFrame, mkF, argsToLocals, Value.category]; done) | rfl
theorem d29_0 : decode jdk_65_method_133_code 0 = .ok (.iload_n 1, 1) := by decide +kernel
theorem d29_1 : decode jdk_65_method_133_code 1 = .ok (.iload_n 2, 1) := by decide +kernel
theorem d29_2 : decode jdk_65_method_133_code 2 = .ok (.invokestatic 343, 3) := by decide +kernel
theorem pd_7 : parseMethodDescriptor "(II)V" = some ⟨[.int, .int], none⟩ := by decide +kernel
theorem d29_5 : decode jdk_65_method_133_code 5 = .ok (.iload_n 2, 1) := by decide +kernel
theorem d29_6 : decode jdk_65_method_133_code 6 = .ok (.iload_n 1, 1) := by decide +kernel
theorem d29_7 : decode jdk_65_method_133_code 7 = .ok (.isub, 1) := by decide +kernel
theorem d29_8 : decode jdk_65_method_133_code 8 = .ok (.istore_n 3, 1) := by decide +kernel
theorem d29_9 : decode jdk_65_method_133_code 9 = .ok (.iload_n 3, 1) := by decide +kernel
theorem d29_10 : decode jdk_65_method_133_code 10 = .ok (.newarray .byte, 2) := by decide +kernel
theorem d29_12 : decode jdk_65_method_133_code 12 = .ok (.astore 4, 2) := by decide +kernel
theorem d29_14 : decode jdk_65_method_133_code 14 = .ok (.aload_n 0, 1) := by decide +kernel
theorem d29_15 : decode jdk_65_method_133_code 15 = .ok (.iload_n 1, 1) := by decide +kernel
theorem d29_16 : decode jdk_65_method_133_code 16 = .ok (.aload 4, 2) := by decide +kernel
theorem d29_18 : decode jdk_65_method_133_code 18 = .ok (.iconst 0, 1) := by decide +kernel
theorem d29_19 : decode jdk_65_method_133_code 19 = .ok (.aload_n 0, 1) := by decide +kernel
theorem d29_20 : decode jdk_65_method_133_code 20 = .ok (.arraylength, 1) := by decide +kernel
theorem d29_21 : decode jdk_65_method_133_code 21 = .ok (.iload_n 1, 1) := by decide +kernel
theorem d29_22 : decode jdk_65_method_133_code 22 = .ok (.isub, 1) := by decide +kernel
theorem d29_23 : decode jdk_65_method_133_code 23 = .ok (.iload_n 3, 1) := by decide +kernel
theorem d29_24 : decode jdk_65_method_133_code 24 = .ok (.invokestatic 304, 3) := by decide +kernel
theorem pd_8 : parseMethodDescriptor "(II)I" = some ⟨[.int, .int], some .int⟩ := by decide +kernel
theorem d29_27 : decode jdk_65_method_133_code 27 = .ok (.invokestatic 150, 3) := by decide +kernel
theorem d29_30 : decode jdk_65_method_133_code 30 = .ok (.aload 4, 2) := by decide +kernel
theorem d29_32 : decode jdk_65_method_133_code 32 = .ok (.areturn, 1) := by decide +kernel
set_option maxRecDepth 65536 in
set_option maxHeartbeats 40000000 in
theorem crb (l : Launch) (Z : State) (a0 : Array Value) (hw : ∀ d ∈ tables_1, d.before a0 Z = true) (ws : List Jvm.Cond) (a : Addr) (ka : ClassId) (k : Nat) (xs : List Value) (h0 : Heap) (n0 : Nat) (Z0 : n0 ≤ h0.size) (q0 : Arv Z h0 a ka .byte (16 : Int32) xs (.int 0)) (hxl : xs.length = k) (hk : k < 16) :
    MetFree l (⟨"java/util/Arrays", "copyOfRangeByte", "([BII)[B"⟩ : MethodName) (head1 (Jvm.Cond.code (⟨"java/util/Arrays", "copyOfRangeByte", "([BII)[B"⟩ : MethodName) jdk_65_method_133_code 5 (some (.array .byte)) :: ws) ({ frames := 1, cells := 1, slots := 16, locals := 40 } : Room)) (fun a_ U_ => a_ = #[(.ref a), (.int (0 : Int32)), (.int (Int32.ofNat k))] ∧ Z.Warmed39 U_.vm ∧ U_.heap = h0) (fun _ _ _ _ _ => True) (fun _ U_ o_ V_ => ∃ v_ L_, o_ = .returned v_ ∧ Qcrb Z a ka k xs h0 n0 v_ V_.heap L_ ∧ FrameEnd U_ o_ V_ L_ ({ frames := 1, cells := 1, slots := 16, locals := 40 } : Room).cells ({ frames := 1, cells := 1, slots := 16, locals := 40 } : Room).slots) := by
  refine MetFree.of_bodySF (plainFor_of_name pn_3) hisR ?_
  intro p e s m args below meth c s₁ Bd hml0 hP hK
  obtain ⟨rfl, hZ, hh⟩ := hP
  have hx := Bd.exec
  have hby := Bd.bytes
  have hml : c.maxLocals = 5 := hml0
  have hown : s.vm.findClass "java/util/Arrays" = some m.cls := findClass_of_methodNamed Bd.named
  have hnm := (name_of_methodNamed Bd.named Bd.method).1
  have X0 : Stand p l e ({ frames := 1, cells := 1, slots := 16, locals := 40 } : Room) s m #[(.ref a), (.int (0 : Int32)), (.int (Int32.ofNat k))] below meth c s₁ [] 0 0 := Stand.of_body Bd
  have e0 : s₁.heap = h0 := by rw [← hh, Bd.state]; rfl
  have N0 := Fr.nil n0
  have lt94 := own_alt q0.lt
  refine Gl.go (A := s₁.setTop (entryFrame m #[(.ref a), (.int (0 : Int32)), (.int (Int32.ofNat k))] 5)) (P := fun o_ U_ => ∃ v_ L_, o_ = .returned v_ ∧ Qcrb Z a ka k xs h0 n0 v_ U_.heap L_ ∧ FrameEnd s o_ U_ L_ ({ frames := 1, cells := 1, slots := 16, locals := 40 } : Room).cells ({ frames := 1, cells := 1, slots := 16, locals := 40 } : Room).slots) (fun t_ k_ => castTop (ef_crb m a (0 : Int32) (Int32.ofNat k)) k_) ?_
  show Gl p.tables e below _ (s₁.setTop (mkF m 0 #[sR a, sI 0, sI (Int32.ofNat k), sU, sU] []))
  refine Gl.go (fun _ hr => zXS_iloadN X0.here hx rfl (hb hby d29_0) rfl (zXS_iloadN X0.here hx rfl (hb hby d29_1) rfl hr)) ?_
  have zz95 : n0 ≤ h0.size := by omega
  refine gStaticN Gl.cl (y := (⟨"java/util/Arrays", "checkLength", "(II)V"⟩ : MethodName)) (argsL := [(.int (0 : Int32)), (.int (Int32.ofNat k))]) (rest := []) (mc := 0) (ms := 0) X0 hx hZ hown (mvT hZ (tw hw 167 rfl)) (mvT hZ (tw hw 168 rfl)) (mvT hZ (tw hw 162 rfl)) (mvT hZ (tw hw 169 rfl)) (by decide) (backOf (W := 0) (cl l Z a0 hw [] k h0 n0 zz95 hk) hZ (tw hw 169 rfl) (tw hw 162 rfl) (by decide) (by decide)) rfl (by rw [hml]; rfl) (lenOf pd_7 rfl) rfl (by show 2 * 0 + _ ≤ _; exact Nat.le_of_eq rfl) (hb hby d29_2) rfl e0 (by decide) (by decide) ?_
  intro v95 T95 Lc95 hQ95 X95
  obtain ⟨rfl, Nq95, e95⟩ := hQ95
  have N95 := Fr.app N0 Nq95
  refine Gl.go (fun _ hr => zXS_iloadN X95.here hx rfl (hb hby d29_5) rfl (zXS_iloadN X95.here hx rfl (hb hby d29_6) rfl (zXS_isub X95.here hx rfl (hb hby d29_7) rfl hr))) ?_
  show Gl p.tables e below _ (T95.setTop (mkF m 8 #[sR a, sI 0, sI (Int32.ofNat k), sU, sU] [(.int ((Int32.ofNat k) - (0 : Int32)))]))
  rw [own_sub0]
  show Gl p.tables e below _ (T95.setTop (mkF m 8 #[sR a, sI 0, sI (Int32.ofNat k), sU, sU] [(.int (Int32.ofNat k))]))
  refine Gl.go (fun _ hr => zXS_istoreN X95.here hx rfl (hb hby d29_8) rfl (l' := #[sR a, sI 0, sI (Int32.ofNat k), sI (Int32.ofNat k), sU]) rfl (zXS_iloadN X95.here hx rfl (hb hby d29_9) rfl hr)) ?_
  refine gNewP Gl.cl X95 hx hZ (tw hw 15 rfl) e95 rfl (hb hby d29_10) rfl (own_nn (by omega)) (cap := 16) (by rw [own_nat32 (by omega)]; omega) (by decide) (by decide) (by decide) ?_
  intro T96 h96 b96 k96 g96 X96 e96 E96 A96
  have z97 : h0.size ≤ h96.size := E96.1
  have lt96 := own_alt A96.lt
  have V96 : Arv Z h96 b96 k96 .byte (Int32.ofNat k) [] (.int (0 : Int32)) := (Arv.new A96 (own_nn (by omega))).pad (pad_rep [] (.int (0 : Int32)) 0)
  refine Gl.go (fun _ hr => zXS_astore X96.here hx rfl (hb hby d29_12) rfl rfl (l' := #[sR a, sI 0, sI (Int32.ofNat k), sI (Int32.ofNat k), sR b96]) rfl (zXS_aloadN X96.here hx rfl (hb hby d29_14) rfl rfl (zXS_iloadN X96.here hx rfl (hb hby d29_15) rfl (zXS_aload X96.here hx rfl (hb hby d29_16) rfl rfl (zXS_iconst X96.here hx rfl (hb hby d29_18) (zXS_aloadN X96.here hx rfl (hb hby d29_19) rfl rfl hr)))))) ?_
  have Vc98 := (q0.ext E96)
  obtain ⟨c99, a99, q99, s99, m99, H99, U99⟩ := id Vc98
  refine gLen Gl.cl X96 hx hZ e96 a99 s99 m99 rfl rfl (hb hby d29_20) ?_
  refine Gl.go (fun _ hr => zXS_iloadN X96.here hx rfl (hb hby d29_21) rfl (zXS_isub X96.here hx rfl (hb hby d29_22) rfl (zXS_iloadN X96.here hx rfl (hb hby d29_23) rfl hr))) ?_
  have zz100 : n0 ≤ h96.size := by omega
  refine gStaticN Gl.cl (y := (⟨"java/lang/Math", "min", "(II)I"⟩ : MethodName)) (argsL := [(.int (16 : Int32)), (.int (Int32.ofNat k))]) (rest := [(.int (0 : Int32)), (.ref b96), (.int (0 : Int32)), (.ref a)]) (mc := 0) (ms := 0) X96 hx hZ hown (mvT hZ (tw hw 170 rfl)) (mvT hZ (tw hw 171 rfl)) (mvT hZ (tw hw 172 rfl)) (mvT hZ (tw hw 173 rfl)) (by decide) (backOf (W := 4) (mn l Z a0 hw [] k h96 n0 zz100 hk) hZ (tw hw 173 rfl) (tw hw 172 rfl) (by decide) (by decide)) rfl (by rw [hml]; rfl) (lenOf pd_8 rfl) rfl (by show 2 * 0 + _ ≤ _; exact Nat.le_of_eq rfl) (hb hby d29_24) rfl e96 (by decide) (by decide) ?_
  intro v100 T100 Lc100 hQ100 X100
  obtain ⟨rfl, Nq100, e100⟩ := hQ100
  have N100 := Fr.app N95 Nq100
  refine gCopy Gl.cl (us := xs) (n0 := n0) (W := 0) X100 hx hZ hown (tw hw 174 rfl) (tw hw 110 rfl) (tw hw 108 rfl) (tw hw 109 rfl) e100 Vc98 (V96.pad (pad_rep ([]) (.int (0 : Int32)) k)) (Or.inl ⟨rfl, rfl⟩) (by decide) (by decide) (own_nn (by omega)) (by rw [own_z0, own_z16, own_nat32 (by omega)]; omega) (by rw [own_z0, Nat.zero_add]; exact Nat.le_refl _) (own_us hxl (by omega)) (by rw [own_z0, own_nat32 (by omega)]; simp) N100 (by omega) rfl (by rw [hml]; rfl) rfl (hb hby d29_27) (by decide) (by show 2 * 0 + _ ≤ _; exact Nat.le_of_eq rfl) (by decide) ?_
  intro T101 h101 L101 X101 e101 N101 K101 Vr101
  have z102 : h96.size ≤ h101.size := K101.1
  have V101 : Arv Z h101 b96 k96 .byte (Int32.ofNat k) xs (.int (0 : Int32)) := own_cpy (by omega) Vr101
  refine Gl.go (fun _ hr => zXS_aload X101.here hx rfl (hb hby d29_30) rfl rfl hr) ?_
  obtain ⟨fs, hr, hrun, hended, hW, hsame⟩ := X101.leave (v := some (.ref b96)) (fun h => by rw [Bd.returns] at h; cases h)
  have om103 : @LE.le Nat instLENat h0.size b96 := by omega
  refine ⟨_, _, retOut X101 hx Bd.returns rfl (Or.inr (Or.inr (Or.inr (Or.inr ⟨rfl, rfl, rfl⟩)))) (hb hby d29_32) hr, hrun, hended, _, _, rfl, ?_, ⟨⟨_, rfl⟩, hW, hsame.mono (by decide) (by decide)⟩⟩
  show Qcrb Z a ka k xs h0 n0 _ T101.heap _
  rw [e101]
  exact ⟨b96, k96, rfl, N101, (((Keep.refl h0 []).ext E96).trans K101 (allS (P := fun x_ => x_ ∈ ([] : List Addr) ∨ h0.size ≤ x_) (Or.inr (own_ale om103)) all0)), (by omega), V101, (by omega)⟩
def Qcor (Z : State) (a : Addr) (ka : ClassId) (k : Nat) (xs : List Value) (h0 : Heap) (n0 : Nat) (v : Option Value) (h : Heap) (L : List Loc) : Prop := ∃ (r : Addr), ∃ (kr : ClassId), v = some (.ref r) ∧ Fr n0 L ∧ Keep h0 h [] ∧ (@LE.le Nat instLENat n0 r) ∧ (Arv Z h r kr .byte (Int32.ofNat k) xs (.int 0)) ∧ (@LE.le Nat instLENat h0.size r)
theorem ef_cor (m : MethodId) (x0 : Addr) (x1 : Int32) (x2 : Int32) : entryFrame m #[(.ref x0), (.int x1), (.int x2)] 3 = mkF m 0 #[sR x0, sI x1, sI x2] [] := by first | (simp [entryFrame, mkF, argsToLocals, Value.category]; done) | rfl
theorem d28_0 : decode jdk_65_method_132_code 0 = .ok (.iload_n 1, 1) := by decide +kernel
theorem d28_1 : decode jdk_65_method_132_code 1 = .ok (.ifCond .ne 9, 3) := by decide +kernel
theorem d28_4 : decode jdk_65_method_132_code 4 = .ok (.iload_n 2, 1) := by decide +kernel
theorem d28_5 : decode jdk_65_method_132_code 5 = .ok (.aload_n 0, 1) := by decide +kernel
theorem d28_6 : decode jdk_65_method_132_code 6 = .ok (.arraylength, 1) := by decide +kernel
theorem d28_7 : decode jdk_65_method_132_code 7 = .ok (.if_icmp .eq 10, 3) := by decide +kernel
theorem d28_10 : decode jdk_65_method_132_code 10 = .ok (.aload_n 0, 1) := by decide +kernel
theorem d28_11 : decode jdk_65_method_132_code 11 = .ok (.iload_n 1, 1) := by decide +kernel
theorem d28_12 : decode jdk_65_method_132_code 12 = .ok (.iload_n 2, 1) := by decide +kernel
theorem d28_13 : decode jdk_65_method_132_code 13 = .ok (.invokestatic 339, 3) := by decide +kernel
theorem pd_9 : parseMethodDescriptor "([BII)[B" = some ⟨[(.array .byte), .int, .int], some (.array .byte)⟩ := by decide +kernel
theorem d28_16 : decode jdk_65_method_132_code 16 = .ok (.areturn, 1) := by decide +kernel
set_option maxRecDepth 65536 in
set_option maxHeartbeats 40000000 in
theorem cor (l : Launch) (Z : State) (a0 : Array Value) (hw : ∀ d ∈ tables_1, d.before a0 Z = true) (ws : List Jvm.Cond) (a : Addr) (ka : ClassId) (k : Nat) (xs : List Value) (h0 : Heap) (n0 : Nat) (Z0 : n0 ≤ h0.size) (q0 : Arv Z h0 a ka .byte (16 : Int32) xs (.int 0)) (hxl : xs.length = k) (hk : k < 16) :
    MetFree l (⟨"java/util/Arrays", "copyOfRange", "([BII)[B"⟩ : MethodName) (head1 (Jvm.Cond.code (⟨"java/util/Arrays", "copyOfRange", "([BII)[B"⟩ : MethodName) jdk_65_method_132_code 3 (some (.array .byte)) :: ws) ({ frames := 2, cells := 1, slots := 16, locals := 60 } : Room)) (fun a_ U_ => a_ = #[(.ref a), (.int (0 : Int32)), (.int (Int32.ofNat k))] ∧ Z.Warmed39 U_.vm ∧ U_.heap = h0) (fun _ _ _ _ _ => True) (fun _ U_ o_ V_ => ∃ v_ L_, o_ = .returned v_ ∧ Qcor Z a ka k xs h0 n0 v_ V_.heap L_ ∧ FrameEnd U_ o_ V_ L_ ({ frames := 2, cells := 1, slots := 16, locals := 60 } : Room).cells ({ frames := 2, cells := 1, slots := 16, locals := 60 } : Room).slots) := by
  refine MetFree.of_bodySF (plainFor_of_name pn_3) hisR ?_
  intro p e s m args below meth c s₁ Bd hml0 hP hK
  obtain ⟨rfl, hZ, hh⟩ := hP
  have hx := Bd.exec
  have hby := Bd.bytes
  have hml : c.maxLocals = 3 := hml0
  have hown : s.vm.findClass "java/util/Arrays" = some m.cls := findClass_of_methodNamed Bd.named
  have hnm := (name_of_methodNamed Bd.named Bd.method).1
  have X0 : Stand p l e ({ frames := 2, cells := 1, slots := 16, locals := 60 } : Room) s m #[(.ref a), (.int (0 : Int32)), (.int (Int32.ofNat k))] below meth c s₁ [] 0 0 := Stand.of_body Bd
  have e0 : s₁.heap = h0 := by rw [← hh, Bd.state]; rfl
  have N0 := Fr.nil n0
  have lt104 := own_alt q0.lt
  refine Gl.go (A := s₁.setTop (entryFrame m #[(.ref a), (.int (0 : Int32)), (.int (Int32.ofNat k))] 3)) (P := fun o_ U_ => ∃ v_ L_, o_ = .returned v_ ∧ Qcor Z a ka k xs h0 n0 v_ U_.heap L_ ∧ FrameEnd s o_ U_ L_ ({ frames := 2, cells := 1, slots := 16, locals := 60 } : Room).cells ({ frames := 2, cells := 1, slots := 16, locals := 60 } : Room).slots) (fun t_ k_ => castTop (ef_cor m a (0 : Int32) (Int32.ofNat k)) k_) ?_
  show Gl p.tables e below _ (s₁.setTop (mkF m 0 #[sR a, sI 0, sI (Int32.ofNat k)] []))
  refine Gl.go (fun _ hr => zXS_iloadN X0.here hx rfl (hb hby d28_0) rfl (zXS_ifNo X0.here hx rfl (hb hby d28_1) rfl (XT.i0_ne_f (by decide)) (zXS_iloadN X0.here hx rfl (hb hby d28_4) rfl (zXS_aloadN X0.here hx rfl (hb hby d28_5) rfl rfl hr)))) ?_
  obtain ⟨c105, a105, q105, s105, m105, H105, U105⟩ := id q0
  refine gLen Gl.cl X0 hx hZ e0 a105 s105 m105 rfl rfl (hb hby d28_6) ?_
  refine Gl.go (fun _ hr => zXS_icmpNo X0.here hx rfl (hb hby d28_7) rfl (XT.ii_eq_f (fun q => absurd (own_lt32 (b := 16) (by omega) hk) (by rw [q]; decide))) (zXS_aloadN X0.here hx rfl (hb hby d28_10) rfl rfl (zXS_iloadN X0.here hx rfl (hb hby d28_11) rfl (zXS_iloadN X0.here hx rfl (hb hby d28_12) rfl hr)))) ?_
  have zz106 : n0 ≤ h0.size := by omega
  refine gStaticN Gl.cl (y := (⟨"java/util/Arrays", "copyOfRangeByte", "([BII)[B"⟩ : MethodName)) (argsL := [(.ref a), (.int (0 : Int32)), (.int (Int32.ofNat k))]) (rest := []) (mc := 1) (ms := 16) X0 hx hZ hown (mvT hZ (tw hw 164 rfl)) (mvT hZ (tw hw 165 rfl)) (mvT hZ (tw hw 162 rfl)) (mvT hZ (tw hw 166 rfl)) (by decide) (backOf (W := 0) (crb l Z a0 hw [] a ka k xs h0 n0 zz106 q0 hxl hk) hZ (tw hw 166 rfl) (tw hw 162 rfl) (by decide) (by decide)) rfl (by rw [hml]; rfl) (lenOf pd_9 rfl) rfl (by show 2 * 0 + _ ≤ _; exact Nat.le_of_eq rfl) (hb hby d28_13) rfl e0 (by decide) (by decide) ?_
  intro v106 T106 Lc106 hQ106 X106
  obtain ⟨r_106, kr_106, rfl, Nq106, K106, f106_0, f106_1, f106_2⟩ := hQ106
  have z107 : h0.size ≤ T106.heap.size := K106.1
  have N106 := Fr.app N0 Nq106
  have lt108 := own_alt f106_1.lt
  obtain ⟨fs, hr, hrun, hended, hW, hsame⟩ := X106.leave (v := some (.ref r_106)) (fun h => by rw [Bd.returns] at h; cases h)
  refine ⟨_, _, retOut X106 hx Bd.returns rfl (Or.inr (Or.inr (Or.inr (Or.inr ⟨rfl, rfl, rfl⟩)))) (hb hby d28_16) hr, hrun, hended, _, _, rfl, ?_, ⟨⟨_, rfl⟩, hW, hsame.mono (by decide) (by decide)⟩⟩
  show Qcor Z a ka k xs h0 n0 _ T106.heap _
  exact ⟨r_106, kr_106, rfl, N106, ((Keep.refl h0 []).trans K106 all0), (by omega), f106_1, (by omega)⟩
def Qsi2 (Z : State) (x : Addr) (b : Addr) (a : Addr) (ka : ClassId) (k : Nat) (xs : List Value) (G1 : Int32) (h0 : Heap) (n0 : Nat) (v : Option Value) (h : Heap) (L : List Loc) : Prop := ∃ (r : Addr), ∃ (kr : ClassId), v = none ∧ Fr n0 L ∧ Keep h0 h [x] ∧ (Exa Z h x "java/lang/String") ∧ (Fld Z h x "java/lang/String" "value" "[B" (.ref r)) ∧ (Fld Z h x "java/lang/String" "coder" "B" (.int (0 : Int32))) ∧ (Arv Z h r kr .byte (Int32.ofNat k) xs (.int 0)) ∧ (@LE.le Nat instLENat h0.size r)
theorem ef_si2 (m : MethodId) (x0 : Addr) (x1 : Addr) : entryFrame m #[(.ref x0), (.ref x1), .null] 5 = mkF m 0 #[sR x0, sR x1, .val .null, sU, sU] [] := by first | (simp [entryFrame, mkF, argsToLocals, Value.category]; done) | rfl
theorem d24_0 : decode jdk_42_method_150_code 0 = .ok (.aload_n 0, 1) := by decide +kernel
theorem d24_1 : decode jdk_42_method_150_code 1 = .ok (.invokespecial 1, 3) := by decide +kernel
theorem d24_4 : decode jdk_42_method_150_code 4 = .ok (.aload_n 1, 1) := by decide +kernel
theorem d24_5 : decode jdk_42_method_150_code 5 = .ok (.invokevirtual 552, 3) := by decide +kernel
theorem pd_10 : parseMethodDescriptor "()[B" = some ⟨[], some (.array .byte)⟩ := by decide +kernel
theorem d24_8 : decode jdk_42_method_150_code 8 = .ok (.astore_n 3, 1) := by decide +kernel
theorem d24_9 : decode jdk_42_method_150_code 9 = .ok (.aload_n 1, 1) := by decide +kernel
theorem d24_10 : decode jdk_42_method_150_code 10 = .ok (.invokevirtual 549, 3) := by decide +kernel
theorem d24_13 : decode jdk_42_method_150_code 13 = .ok (.istore 4, 2) := by decide +kernel
theorem d24_15 : decode jdk_42_method_150_code 15 = .ok (.aload_n 1, 1) := by decide +kernel
theorem d24_16 : decode jdk_42_method_150_code 16 = .ok (.invokevirtual 1047, 3) := by decide +kernel
theorem pd_11 : parseMethodDescriptor "()Z" = some ⟨[], some .boolean⟩ := by decide +kernel
theorem d24_19 : decode jdk_42_method_150_code 19 = .ok (.ifCond .eq 22, 3) := by decide +kernel
theorem d24_22 : decode jdk_42_method_150_code 22 = .ok (.aload_n 0, 1) := by decide +kernel
theorem d24_23 : decode jdk_42_method_150_code 23 = .ok (.iconst 0, 1) := by decide +kernel
theorem d24_24 : decode jdk_42_method_150_code 24 = .ok (.putfield 15, 3) := by decide +kernel
theorem d24_27 : decode jdk_42_method_150_code 27 = .ok (.aload_n 0, 1) := by decide +kernel
theorem d24_28 : decode jdk_42_method_150_code 28 = .ok (.aload_n 3, 1) := by decide +kernel
theorem d24_29 : decode jdk_42_method_150_code 29 = .ok (.iconst 0, 1) := by decide +kernel
theorem d24_30 : decode jdk_42_method_150_code 30 = .ok (.iload 4, 2) := by decide +kernel
theorem d24_32 : decode jdk_42_method_150_code 32 = .ok (.invokestatic 54, 3) := by decide +kernel
theorem d24_35 : decode jdk_42_method_150_code 35 = .ok (.putfield 9, 3) := by decide +kernel
theorem d24_38 : decode jdk_42_method_150_code 38 = .ok (.goto 59, 3) := by decide +kernel
theorem d24_97 : decode jdk_42_method_150_code 97 = .ok (.return_, 1) := by decide +kernel
set_option maxRecDepth 65536 in
set_option maxHeartbeats 40000000 in
theorem si2 (l : Launch) (Z : State) (a0 : Array Value) (hw : ∀ d ∈ tables_1, d.before a0 Z = true) (ws : List Jvm.Cond) (x : Addr) (b : Addr) (a : Addr) (ka : ClassId) (k : Nat) (xs : List Value) (G1 : Int32) (h0 : Heap) (n0 : Nat) (Z0 : n0 ≤ h0.size) (q0 : Sta Z Z.heap "java/lang/String" "COMPACT_STRINGS" "Z" (.int G1)) (P5 : ¬ (G1 = (0 : Int32))) (q2 : (Old Z Z.heap.size h0 ∧ @LE.le Nat instLENat Z.heap.size n0)) (q3 : @LE.le Nat instLENat n0 x) (q4 : Exa Z h0 x "java/lang/String") (q5 : Fld Z h0 x "java/lang/String" "value" "[B" .null) (q6 : Fld Z h0 x "java/lang/String" "coder" "B" (.int (0 : Int32))) (q7 : Exa Z h0 b "java/lang/StringBuilder") (q8 : Fld Z h0 b "java/lang/AbstractStringBuilder" "value" "[B" (.ref a)) (q9 : Fld Z h0 b "java/lang/AbstractStringBuilder" "coder" "B" (.int (0 : Int32))) (q10 : Fld Z h0 b "java/lang/AbstractStringBuilder" "count" "I" (.int (Int32.ofNat k))) (q11 : Arv Z h0 a ka .byte (16 : Int32) xs (.int 0)) (q12 : ¬ @Eq Nat x b) (q13 : ¬ @Eq Nat x a) (hxl : xs.length = k) (hk : k < 16) :
    MetFree l (⟨"java/lang/String", "<init>", "(Ljava/lang/AbstractStringBuilder;Ljava/lang/Void;)V"⟩ : MethodName) (head1 (Jvm.Cond.code (⟨"java/lang/String", "<init>", "(Ljava/lang/AbstractStringBuilder;Ljava/lang/Void;)V"⟩ : MethodName) jdk_42_method_150_code 5 none :: ws) ({ frames := 3, cells := 1, slots := 16, locals := 80 } : Room)) (fun a_ U_ => a_ = #[(.ref x), (.ref b), .null] ∧ Z.Warmed39 U_.vm ∧ U_.heap = h0) (fun _ _ _ _ _ => True) (fun _ U_ o_ V_ => ∃ v_ L_, o_ = .returned v_ ∧ Qsi2 Z x b a ka k xs G1 h0 n0 v_ V_.heap L_ ∧ FrameEnd U_ o_ V_ L_ ({ frames := 3, cells := 1, slots := 16, locals := 80 } : Room).cells ({ frames := 3, cells := 1, slots := 16, locals := 80 } : Room).slots) := by
  refine MetFree.of_bodySF (plainFor_of_name pn_0) hisR ?_
  intro p e s m args below meth c s₁ Bd hml0 hP hK
  obtain ⟨rfl, hZ, hh⟩ := hP
  have hx := Bd.exec
  have hby := Bd.bytes
  have hml : c.maxLocals = 5 := hml0
  have hown : s.vm.findClass "java/lang/String" = some m.cls := findClass_of_methodNamed Bd.named
  have hnm := (name_of_methodNamed Bd.named Bd.method).1
  have X0 : Stand p l e ({ frames := 3, cells := 1, slots := 16, locals := 80 } : Room) s m #[(.ref x), (.ref b), .null] below meth c s₁ [] 0 0 := Stand.of_body Bd
  have e0 : s₁.heap = h0 := by rw [← hh, Bd.state]; rfl
  have N0 := Fr.nil n0
  have Oo := q2.1
  have zo := q2.2
  have lt109 := own_alt q4.lt
  have lt110 := own_alt q5.lt
  have lt111 := own_alt q6.lt
  have lt112 := own_alt q7.lt
  have lt113 := own_alt q8.lt
  have lt114 := own_alt q9.lt
  have lt115 := own_alt q10.lt
  have lt116 := own_alt q11.lt
  refine Gl.go (A := s₁.setTop (entryFrame m #[(.ref x), (.ref b), .null] 5)) (P := fun o_ U_ => ∃ v_ L_, o_ = .returned v_ ∧ Qsi2 Z x b a ka k xs G1 h0 n0 v_ U_.heap L_ ∧ FrameEnd s o_ U_ L_ ({ frames := 3, cells := 1, slots := 16, locals := 80 } : Room).cells ({ frames := 3, cells := 1, slots := 16, locals := 80 } : Room).slots) (fun t_ k_ => castTop (ef_si2 m x b) k_) ?_
  show Gl p.tables e below _ (s₁.setTop (mkF m 0 #[sR x, sR b, .val .null, sU, sU] []))
  refine Gl.go (fun _ hr => zXS_aloadN X0.here hx rfl (hb hby d24_0) rfl rfl hr) ?_
  refine gInit Gl.cl (W := 0) X0 hx hZ hown (tw hw 11 rfl) (tw hw 12 rfl) (tw hw 13 rfl) e0 rfl (by rw [hml]; rfl) rfl (hb hby d24_1) (by decide) (by show 2 * 0 + _ ≤ _; exact Nat.le_of_eq rfl) (by decide) ?_
  intro T117 X117 e117
  refine Gl.go (fun _ hr => zXS_aloadN X117.here hx rfl (hb hby d24_4) rfl rfl hr) ?_
  have zz118 : n0 ≤ h0.size := by omega
  refine gVirtualN Gl.cl (y := (⟨"java/lang/AbstractStringBuilder", "getValue", "()[B"⟩ : MethodName)) (z := (⟨"java/lang/AbstractStringBuilder", "getValue", "()[B"⟩ : MethodName)) (b := b) (argsL := []) (rest := []) (mc := 0) (ms := 0) X117 hx hZ hown (mvT hZ (tw hw 146 rfl)) (mvT hZ (tw hw 147 rfl)) (notFace_of_selects (args := #[]) (mvT hZ (tw hw 149 rfl))) (mvT hZ (tw hw 149 rfl)) (mvT hZ (tw hw 148 rfl)) (by decide) q7 (backOf (W := 0) (gv l Z a0 hw [] b a h0 n0 zz118 q8) hZ (tw hw 150 rfl) (tw hw 55 rfl) (by decide) (by decide)) rfl (by rw [hml]; rfl) (lenOf pd_10 rfl) rfl (by show 2 * 0 + _ ≤ _; exact Nat.le_of_eq rfl) (hb hby d24_5) rfl e117 (by decide) (by decide) ?_
  intro v118 T118 Lc118 hQ118 X118
  obtain ⟨rfl, Nq118, e118⟩ := hQ118
  have N118 := Fr.app N0 Nq118
  refine Gl.go (fun _ hr => zXS_astoreN X118.here hx rfl (hb hby d24_8) rfl rfl (l' := #[sR x, sR b, .val .null, sR a, sU]) rfl (zXS_aloadN X118.here hx rfl (hb hby d24_9) rfl rfl hr)) ?_
  have zz119 : n0 ≤ h0.size := by omega
  refine gVirtualN Gl.cl (y := (⟨"java/lang/AbstractStringBuilder", "length", "()I"⟩ : MethodName)) (z := (⟨"java/lang/StringBuilder", "length", "()I"⟩ : MethodName)) (b := b) (argsL := []) (rest := []) (mc := 0) (ms := 0) X118 hx hZ hown (mvT hZ (tw hw 151 rfl)) (mvT hZ (tw hw 152 rfl)) (own_notFace (args := #[]) (mvT hZ (tw hw 89 rfl)) rfl) (mvT hZ (tw hw 154 rfl)) (mvT hZ (tw hw 155 rfl)) (by decide) q7 (backOf (W := 0) (sbl l Z a0 hw [] b (Int32.ofNat k) h0 n0 zz119 q7 q10) hZ (tw hw 156 rfl) (tw hw 47 rfl) (by decide) (by decide)) rfl (by rw [hml]; rfl) (lenOf pd_3 rfl) rfl (by show 2 * 0 + _ ≤ _; exact Nat.le_of_eq rfl) (hb hby d24_10) rfl e118 (by decide) (by decide) ?_
  intro v119 T119 Lc119 hQ119 X119
  obtain ⟨rfl, Nq119, e119⟩ := hQ119
  have N119 := Fr.app N118 Nq119
  refine Gl.go (fun _ hr => zXS_istore X119.here hx rfl (hb hby d24_13) rfl (l' := #[sR x, sR b, .val .null, sR a, sI (Int32.ofNat k)]) rfl (zXS_aloadN X119.here hx rfl (hb hby d24_15) rfl rfl hr)) ?_
  have zz120 : n0 ≤ h0.size := by omega
  refine gVirtualN Gl.cl (y := (⟨"java/lang/AbstractStringBuilder", "isLatin1", "()Z"⟩ : MethodName)) (z := (⟨"java/lang/AbstractStringBuilder", "isLatin1", "()Z"⟩ : MethodName)) (b := b) (argsL := []) (rest := []) (mc := 0) (ms := 0) X119 hx hZ hown (mvT hZ (tw hw 159 rfl)) (mvT hZ (tw hw 126 rfl)) (notFace_of_selects (args := #[]) (mvT hZ (tw hw 128 rfl))) (mvT hZ (tw hw 128 rfl)) (mvT hZ (tw hw 127 rfl)) (by decide) q7 (backOf (W := 0) (il1 l Z a0 hw [] b G1 h0 n0 zz120 q0 (by assumption) ⟨Oo, (by omega)⟩ q9) hZ (tw hw 129 rfl) (tw hw 55 rfl) (by decide) (by decide)) rfl (by rw [hml]; rfl) (lenOf pd_11 rfl) rfl (by show 2 * 0 + _ ≤ _; exact Nat.le_of_eq rfl) (hb hby d24_16) rfl e119 (by decide) (by decide) ?_
  intro v120 T120 Lc120 hQ120 X120
  obtain ⟨rfl, Nq120, e120⟩ := hQ120
  have N120 := Fr.app N119 Nq120
  refine Gl.go (fun _ hr => zXS_ifNo X120.here hx rfl (hb hby d24_19) rfl (XT.i0_eq_f (by decide)) (zXS_aloadN X120.here hx rfl (hb hby d24_22) rfl rfl (zXS_iconst X120.here hx rfl (hb hby d24_23) hr))) ?_
  refine gPutF (host := "") Gl.cl X120 hx hZ hown (Or.inl (tw hw 21 rfl)) Via.refl e120 q6 q4 (Or.inr ⟨(tw hw 17 rfl), rfl, hnm⟩) (tw hw 2 rfl) (ty := .byte) (by decide) rfl rfl rfl rfl (hb hby d24_24) ?_
  intro T121 h121 X121 e121 W121
  have z122 : h0.size ≤ h121.size := (Keep.of_wr W121).1
  have Fw121 := q6.same W121
  have om123 : @LE.le Nat instLENat n0 x := by omega
  have N121 := Fr.snoc X121 N120 (own_ale om123)
  refine Gl.go (fun _ hr => zXS_aloadN X121.here hx rfl (hb hby d24_27) rfl rfl (zXS_aloadN X121.here hx rfl (hb hby d24_28) rfl rfl (zXS_iconst X121.here hx rfl (hb hby d24_29) (zXS_iload X121.here hx rfl (hb hby d24_30) rfl hr)))) ?_
  have om125 : ¬ @Eq Nat a x := by omega
  have Vc126 := (q11.other W121 (own_ane om125))
  have zz124 : n0 ≤ h121.size := by omega
  refine gStaticN Gl.cl (y := (⟨"java/util/Arrays", "copyOfRange", "([BII)[B"⟩ : MethodName)) (argsL := [(.ref a), (.int (0 : Int32)), (.int (Int32.ofNat k))]) (rest := [(.ref x)]) (mc := 1) (ms := 16) X121 hx hZ hown (mvT hZ (tw hw 160 rfl)) (mvT hZ (tw hw 161 rfl)) (mvT hZ (tw hw 162 rfl)) (mvT hZ (tw hw 163 rfl)) (by decide) (backOf (W := 1) (cor l Z a0 hw [] a ka k xs h121 n0 zz124 Vc126 hxl hk) hZ (tw hw 163 rfl) (tw hw 162 rfl) (by decide) (by decide)) rfl (by rw [hml]; rfl) (lenOf pd_9 rfl) rfl (by show 2 * 0 + _ ≤ _; exact Nat.le_of_eq rfl) (hb hby d24_32) rfl e121 (by decide) (by decide) ?_
  intro v124 T124 Lc124 hQ124 X124
  obtain ⟨r_124, kr_124, rfl, Nq124, K124, f124_0, f124_1, f124_2⟩ := hQ124
  have z127 : h121.size ≤ T124.heap.size := K124.1
  have N124 := Fr.app N121 Nq124
  have lt128 := own_alt f124_1.lt
  have Fc129 := ((q5.other W121 (Or.inr (slot_ne (Or.inr (tw hw 16 rfl)) (Or.inr (tw hw 17 rfl)) (by decide) (t := (.array .byte)) (t' := .byte) (by decide) (by decide)))).keep K124 nin0)
  have Ec130 := ((q4.wr W121).keep K124)
  refine gPutF (host := "") Gl.cl X124 hx hZ hown (Or.inl (tw hw 20 rfl)) Via.refl (rfl : T124.heap = T124.heap) Fc129 Ec130 (Or.inr ⟨(tw hw 16 rfl), rfl, hnm⟩) (tw hw 2 rfl) (ty := (.array .byte)) (by decide) rfl rfl rfl rfl (hb hby d24_35) ?_
  intro T131 h131 X131 e131 W131
  have z132 : T124.heap.size ≤ h131.size := (Keep.of_wr W131).1
  have Fw131 := Fc129.same W131
  have N131 := Fr.snoc X131 N124 (own_ale om123)
  refine Gl.go (fun _ hr => zXS_goto X131.here hx rfl (pc0 := 38) (pc' := 97) rfl (hb hby d24_38) (by decide) (by decide) hr) ?_
  have Ec133 := (Ec130.wr W131)
  have Fc134 := ((Fw121.keep K124 nin0).other W131 (Or.inr (slot_ne (Or.inr (tw hw 17 rfl)) (Or.inr (tw hw 16 rfl)) (by decide) (t := .byte) (t' := (.array .byte)) (by decide) (by decide))))
  have om135 : ¬ @Eq Nat r_124 x := by omega
  have Vc136 := (f124_1.other W131 (own_ane om135))
  obtain ⟨fs, hr, hrun, hended, hW, hsame⟩ := X131.leave (v := none) (fun _ => rfl)
  refine ⟨_, _, X131.returnOut hx Bd.returns (hb hby d24_97) hr, hrun, hended, _, _, rfl, ?_, ⟨⟨_, rfl⟩, hW, hsame.mono (by decide) (by decide)⟩⟩
  show Qsi2 Z x b a ka k xs G1 h0 n0 _ T131.heap _
  rw [e131]
  exact ⟨r_124, kr_124, rfl, N131, ((((Keep.refl h0 [x]).wr W121 (Or.inl (by simp))).trans K124 all0).wr W131 (Or.inl (by simp))), Ec133, Fw131, Fc134, Vc136, (by omega)⟩
def Qsi1 (Z : State) (x : Addr) (b : Addr) (a : Addr) (ka : ClassId) (k : Nat) (xs : List Value) (G1 : Int32) (h0 : Heap) (n0 : Nat) (v : Option Value) (h : Heap) (L : List Loc) : Prop := ∃ (r : Addr), ∃ (kr : ClassId), v = none ∧ Fr n0 L ∧ Keep h0 h [x] ∧ (Exa Z h x "java/lang/String") ∧ (Fld Z h x "java/lang/String" "value" "[B" (.ref r)) ∧ (Fld Z h x "java/lang/String" "coder" "B" (.int (0 : Int32))) ∧ (Arv Z h r kr .byte (Int32.ofNat k) xs (.int 0)) ∧ (@LE.le Nat instLENat h0.size r)
theorem ef_si1 (m : MethodId) (x0 : Addr) (x1 : Addr) : entryFrame m #[(.ref x0), (.ref x1)] 2 = mkF m 0 #[sR x0, sR x1] [] := by first | (simp [entryFrame, mkF, argsToLocals, Value.category]; done) | rfl
theorem d23_0 : decode jdk_42_method_53_code 0 = .ok (.aload_n 0, 1) := by decide +kernel
theorem d23_1 : decode jdk_42_method_53_code 1 = .ok (.aload_n 1, 1) := by decide +kernel
theorem d23_2 : decode jdk_42_method_53_code 2 = .ok (.aconst_null, 1) := by decide +kernel
theorem d23_3 : decode jdk_42_method_53_code 3 = .ok (.invokespecial 489, 3) := by decide +kernel
theorem pd_12 : parseMethodDescriptor "(Ljava/lang/AbstractStringBuilder;Ljava/lang/Void;)V" = some ⟨[(.object "java/lang/AbstractStringBuilder"), (.object "java/lang/Void")], none⟩ := by decide +kernel
theorem d23_6 : decode jdk_42_method_53_code 6 = .ok (.return_, 1) := by decide +kernel
set_option maxRecDepth 65536 in
set_option maxHeartbeats 40000000 in
theorem si1 (l : Launch) (Z : State) (a0 : Array Value) (hw : ∀ d ∈ tables_1, d.before a0 Z = true) (ws : List Jvm.Cond) (x : Addr) (b : Addr) (a : Addr) (ka : ClassId) (k : Nat) (xs : List Value) (G1 : Int32) (h0 : Heap) (n0 : Nat) (Z0 : n0 ≤ h0.size) (q0 : Sta Z Z.heap "java/lang/String" "COMPACT_STRINGS" "Z" (.int G1)) (P5 : ¬ (G1 = (0 : Int32))) (q2 : (Old Z Z.heap.size h0 ∧ @LE.le Nat instLENat Z.heap.size n0)) (q3 : @LE.le Nat instLENat n0 x) (q4 : Exa Z h0 x "java/lang/String") (q5 : Fld Z h0 x "java/lang/String" "value" "[B" .null) (q6 : Fld Z h0 x "java/lang/String" "coder" "B" (.int (0 : Int32))) (q7 : Exa Z h0 b "java/lang/StringBuilder") (q8 : Fld Z h0 b "java/lang/AbstractStringBuilder" "value" "[B" (.ref a)) (q9 : Fld Z h0 b "java/lang/AbstractStringBuilder" "coder" "B" (.int (0 : Int32))) (q10 : Fld Z h0 b "java/lang/AbstractStringBuilder" "count" "I" (.int (Int32.ofNat k))) (q11 : Arv Z h0 a ka .byte (16 : Int32) xs (.int 0)) (q12 : ¬ @Eq Nat x b) (q13 : ¬ @Eq Nat x a) (hxl : xs.length = k) (hk : k < 16) :
    MetFree l (⟨"java/lang/String", "<init>", "(Ljava/lang/StringBuilder;)V"⟩ : MethodName) (head1 (Jvm.Cond.code (⟨"java/lang/String", "<init>", "(Ljava/lang/StringBuilder;)V"⟩ : MethodName) jdk_42_method_53_code 2 none :: ws) ({ frames := 4, cells := 1, slots := 16, locals := 100 } : Room)) (fun a_ U_ => a_ = #[(.ref x), (.ref b)] ∧ Z.Warmed39 U_.vm ∧ U_.heap = h0) (fun _ _ _ _ _ => True) (fun _ U_ o_ V_ => ∃ v_ L_, o_ = .returned v_ ∧ Qsi1 Z x b a ka k xs G1 h0 n0 v_ V_.heap L_ ∧ FrameEnd U_ o_ V_ L_ ({ frames := 4, cells := 1, slots := 16, locals := 100 } : Room).cells ({ frames := 4, cells := 1, slots := 16, locals := 100 } : Room).slots) := by
  refine MetFree.of_bodySF (plainFor_of_name pn_0) hisR ?_
  intro p e s m args below meth c s₁ Bd hml0 hP hK
  obtain ⟨rfl, hZ, hh⟩ := hP
  have hx := Bd.exec
  have hby := Bd.bytes
  have hml : c.maxLocals = 2 := hml0
  have hown : s.vm.findClass "java/lang/String" = some m.cls := findClass_of_methodNamed Bd.named
  have hnm := (name_of_methodNamed Bd.named Bd.method).1
  have X0 : Stand p l e ({ frames := 4, cells := 1, slots := 16, locals := 100 } : Room) s m #[(.ref x), (.ref b)] below meth c s₁ [] 0 0 := Stand.of_body Bd
  have e0 : s₁.heap = h0 := by rw [← hh, Bd.state]; rfl
  have N0 := Fr.nil n0
  have Oo := q2.1
  have zo := q2.2
  have lt137 := own_alt q4.lt
  have lt138 := own_alt q5.lt
  have lt139 := own_alt q6.lt
  have lt140 := own_alt q7.lt
  have lt141 := own_alt q8.lt
  have lt142 := own_alt q9.lt
  have lt143 := own_alt q10.lt
  have lt144 := own_alt q11.lt
  refine Gl.go (A := s₁.setTop (entryFrame m #[(.ref x), (.ref b)] 2)) (P := fun o_ U_ => ∃ v_ L_, o_ = .returned v_ ∧ Qsi1 Z x b a ka k xs G1 h0 n0 v_ U_.heap L_ ∧ FrameEnd s o_ U_ L_ ({ frames := 4, cells := 1, slots := 16, locals := 100 } : Room).cells ({ frames := 4, cells := 1, slots := 16, locals := 100 } : Room).slots) (fun t_ k_ => castTop (ef_si1 m x b) k_) ?_
  show Gl p.tables e below _ (s₁.setTop (mkF m 0 #[sR x, sR b] []))
  refine Gl.go (fun _ hr => zXS_aloadN X0.here hx rfl (hb hby d23_0) rfl rfl (zXS_aloadN X0.here hx rfl (hb hby d23_1) rfl rfl (zXS_aconstNull X0.here hx rfl (hb hby d23_2) hr))) ?_
  have zz145 : n0 ≤ h0.size := by omega
  refine gSpecialN Gl.cl (y := (⟨"java/lang/String", "<init>", "(Ljava/lang/AbstractStringBuilder;Ljava/lang/Void;)V"⟩ : MethodName)) (b := x) (argsL := [(.ref b), .null]) (rest := []) (mc := 1) (ms := 16) X0 hx hZ hown rfl (mvT hZ (tw hw 143 rfl)) (mvT hZ (tw hw 144 rfl)) (mvT hZ (tw hw 145 rfl)) (by decide) (backOf (W := 0) (si2 l Z a0 hw [] x b a ka k xs G1 h0 n0 zz145 q0 (by assumption) ⟨Oo, (by omega)⟩ (by omega) q4 q5 q6 q7 q8 q9 q10 q11 (by omega) (by omega) hxl hk) hZ (tw hw 145 rfl) (tw hw 3 rfl) (by decide) (by decide)) rfl (by rw [hml]; rfl) (lenOf pd_12 rfl) rfl (by show 2 * 0 + _ ≤ _; exact Nat.le_of_eq rfl) (hb hby d23_3) rfl e0 (by decide) (by decide) ?_
  intro v145 T145 Lc145 hQ145 X145
  obtain ⟨r_145, kr_145, rfl, Nq145, K145, f145_0, f145_1, f145_2, f145_3, f145_4⟩ := hQ145
  have z146 : h0.size ≤ T145.heap.size := K145.1
  have N145 := Fr.app N0 Nq145
  have lt147 := own_alt f145_0.lt
  have lt148 := own_alt f145_1.lt
  have lt149 := own_alt f145_2.lt
  have lt150 := own_alt f145_3.lt
  obtain ⟨fs, hr, hrun, hended, hW, hsame⟩ := X145.leave (v := none) (fun _ => rfl)
  refine ⟨_, _, X145.returnOut hx Bd.returns (hb hby d23_6) hr, hrun, hended, _, _, rfl, ?_, ⟨⟨_, rfl⟩, hW, hsame.mono (by decide) (by decide)⟩⟩
  show Qsi1 Z x b a ka k xs G1 h0 n0 _ T145.heap _
  exact ⟨r_145, kr_145, rfl, N145, ((Keep.refl h0 [x]).trans K145 (allS (P := fun x_ => x_ ∈ ([x] : List Addr) ∨ h0.size ≤ x_) (Or.inl (by simp)) all0)), f145_0, f145_1, f145_2, f145_3, (by omega)⟩
def Qts (Z : State) (b : Addr) (a : Addr) (ka : ClassId) (k : Nat) (xs : List Value) (G1 : Int32) (h0 : Heap) (n0 : Nat) (v : Option Value) (h : Heap) (L : List Loc) : Prop := ∃ (r : Addr), ∃ (t : Addr), ∃ (kr : ClassId), v = some (.ref r) ∧ Fr n0 L ∧ Keep h0 h [] ∧ (@LE.le Nat instLENat n0 r) ∧ (Exa Z h r "java/lang/String") ∧ (Fld Z h r "java/lang/String" "value" "[B" (.ref t)) ∧ (Fld Z h r "java/lang/String" "coder" "B" (.int (0 : Int32))) ∧ (Arv Z h t kr .byte (Int32.ofNat k) xs (.int 0)) ∧ (@LE.le Nat instLENat h0.size r ∧ @LE.le Nat instLENat h0.size t)
theorem ef_ts (m : MethodId) (x0 : Addr) : entryFrame m #[(.ref x0)] 1 = mkF m 0 #[sR x0] [] := by first | (simp [entryFrame, mkF, argsToLocals, Value.category]; done) | rfl
theorem d22_0 : decode jdk_67_method_42_code 0 = .ok (.new 18, 3) := by decide +kernel
theorem d22_3 : decode jdk_67_method_42_code 3 = .ok (.dup, 1) := by decide +kernel
theorem d22_4 : decode jdk_67_method_42_code 4 = .ok (.aload_n 0, 1) := by decide +kernel
theorem d22_5 : decode jdk_67_method_42_code 5 = .ok (.invokespecial 137, 3) := by decide +kernel
theorem pd_13 : parseMethodDescriptor "(Ljava/lang/StringBuilder;)V" = some ⟨[(.object "java/lang/StringBuilder")], none⟩ := by decide +kernel
theorem d22_8 : decode jdk_67_method_42_code 8 = .ok (.areturn, 1) := by decide +kernel
set_option maxRecDepth 65536 in
set_option maxHeartbeats 40000000 in
theorem ts (l : Launch) (Z : State) (a0 : Array Value) (hw : ∀ d ∈ tables_1, d.before a0 Z = true) (ws : List Jvm.Cond) (b : Addr) (a : Addr) (ka : ClassId) (k : Nat) (xs : List Value) (G1 : Int32) (h0 : Heap) (n0 : Nat) (Z0 : n0 ≤ h0.size) (q0 : Sta Z Z.heap "java/lang/String" "COMPACT_STRINGS" "Z" (.int G1)) (P5 : ¬ (G1 = (0 : Int32))) (q2 : (Old Z Z.heap.size h0 ∧ @LE.le Nat instLENat Z.heap.size n0)) (q3 : Exa Z h0 b "java/lang/StringBuilder") (q4 : Fld Z h0 b "java/lang/AbstractStringBuilder" "value" "[B" (.ref a)) (q5 : Fld Z h0 b "java/lang/AbstractStringBuilder" "coder" "B" (.int (0 : Int32))) (q6 : Fld Z h0 b "java/lang/AbstractStringBuilder" "count" "I" (.int (Int32.ofNat k))) (q7 : Arv Z h0 a ka .byte (16 : Int32) xs (.int 0)) (hxl : xs.length = k) (hk : k < 16) :
    MetFree l (⟨"java/lang/StringBuilder", "toString", "()Ljava/lang/String;"⟩ : MethodName) (head1 (Jvm.Cond.code (⟨"java/lang/StringBuilder", "toString", "()Ljava/lang/String;"⟩ : MethodName) jdk_67_method_42_code 1 (some (.object "java/lang/String")) :: ws) ({ frames := 5, cells := 2, slots := 20, locals := 120 } : Room)) (fun a_ U_ => a_ = #[(.ref b)] ∧ Z.Warmed39 U_.vm ∧ U_.heap = h0) (fun _ _ _ _ _ => True) (fun _ U_ o_ V_ => ∃ v_ L_, o_ = .returned v_ ∧ Qts Z b a ka k xs G1 h0 n0 v_ V_.heap L_ ∧ FrameEnd U_ o_ V_ L_ ({ frames := 5, cells := 2, slots := 20, locals := 120 } : Room).cells ({ frames := 5, cells := 2, slots := 20, locals := 120 } : Room).slots) := by
  refine MetFree.of_bodySF (plainFor_of_name pn_2) hisR ?_
  intro p e s m args below meth c s₁ Bd hml0 hP hK
  obtain ⟨rfl, hZ, hh⟩ := hP
  have hx := Bd.exec
  have hby := Bd.bytes
  have hml : c.maxLocals = 1 := hml0
  have hown : s.vm.findClass "java/lang/StringBuilder" = some m.cls := findClass_of_methodNamed Bd.named
  have hnm := (name_of_methodNamed Bd.named Bd.method).1
  have X0 : Stand p l e ({ frames := 5, cells := 2, slots := 20, locals := 120 } : Room) s m #[(.ref b)] below meth c s₁ [] 0 0 := Stand.of_body Bd
  have e0 : s₁.heap = h0 := by rw [← hh, Bd.state]; rfl
  have N0 := Fr.nil n0
  have Oo := q2.1
  have zo := q2.2
  have lt151 := own_alt q3.lt
  have lt152 := own_alt q4.lt
  have lt153 := own_alt q5.lt
  have lt154 := own_alt q6.lt
  have lt155 := own_alt q7.lt
  refine Gl.go (A := s₁.setTop (entryFrame m #[(.ref b)] 1)) (P := fun o_ U_ => ∃ v_ L_, o_ = .returned v_ ∧ Qts Z b a ka k xs G1 h0 n0 v_ U_.heap L_ ∧ FrameEnd s o_ U_ L_ ({ frames := 5, cells := 2, slots := 20, locals := 120 } : Room).cells ({ frames := 5, cells := 2, slots := 20, locals := 120 } : Room).slots) (fun t_ k_ => castTop (ef_ts m b) k_) ?_
  show Gl p.tables e below _ (s₁.setTop (mkF m 0 #[sR b] []))
  refine gNew Gl.cl X0 hx hZ hown (tw hw 139 rfl) (tw hw 2 rfl) (tw hw 3 rfl) e0 rfl (hb hby d22_0) (by decide) (by decide) ?_
  intro T156 h156 b156 g156 X156 e156 E156 A156 D156
  have z157 : h0.size ≤ h156.size := E156.1
  have lt156 := own_alt A156.lt
  have F156_value : Fld Z h156 b156 "java/lang/String" "value" "[B" .null := D156 (Or.inr (tw hw 16 rfl)) (ty := (.array .byte)) (by decide)
  have F156_coder : Fld Z h156 b156 "java/lang/String" "coder" "B" (.int (0 : Int32)) := D156 (Or.inr (tw hw 17 rfl)) (ty := .byte) (by decide)
  refine Gl.go (fun _ hr => zXS_dup X156.here hx rfl (hb hby d22_3) rfl rfl (zXS_aloadN X156.here hx rfl (hb hby d22_4) rfl rfl hr)) ?_
  have Oc159 := (Oo.ext E156)
  have Ec160 := (q3.ext E156)
  have Fc161 := (q4.ext E156)
  have Fc162 := (q5.ext E156)
  have Fc163 := (q6.ext E156)
  have Vc164 := (q7.ext E156)
  have zz158 : n0 ≤ h156.size := by omega
  refine gSpecialN Gl.cl (y := (⟨"java/lang/String", "<init>", "(Ljava/lang/StringBuilder;)V"⟩ : MethodName)) (b := b156) (argsL := [(.ref b)]) (rest := [(.ref b156)]) (mc := 1) (ms := 16) X156 hx hZ hown rfl (mvT hZ (tw hw 140 rfl)) (mvT hZ (tw hw 141 rfl)) (mvT hZ (tw hw 142 rfl)) (by decide) (backOf (W := 1) (si1 l Z a0 hw [] b156 b a ka k xs G1 h156 n0 zz158 q0 (by assumption) ⟨Oc159, (by omega)⟩ (by omega) A156 F156_value F156_coder Ec160 Fc161 Fc162 Fc163 Vc164 (by omega) (by omega) hxl hk) hZ (tw hw 142 rfl) (tw hw 3 rfl) (by decide) (by decide)) rfl (by rw [hml]; rfl) (lenOf pd_13 rfl) rfl (by show 2 * 0 + _ ≤ _; exact Nat.le_of_eq rfl) (hb hby d22_5) rfl e156 (by decide) (by decide) ?_
  intro v158 T158 Lc158 hQ158 X158
  obtain ⟨r_158, kr_158, rfl, Nq158, K158, f158_0, f158_1, f158_2, f158_3, f158_4⟩ := hQ158
  have z165 : h156.size ≤ T158.heap.size := K158.1
  have N158 := Fr.app N0 Nq158
  have lt166 := own_alt f158_0.lt
  have lt167 := own_alt f158_1.lt
  have lt168 := own_alt f158_2.lt
  have lt169 := own_alt f158_3.lt
  obtain ⟨fs, hr, hrun, hended, hW, hsame⟩ := X158.leave (v := some (.ref b156)) (fun h => by rw [Bd.returns] at h; cases h)
  have om170 : @LE.le Nat instLENat h0.size b156 := by omega
  refine ⟨_, _, retOut X158 hx Bd.returns rfl (Or.inr (Or.inr (Or.inr (Or.inr ⟨rfl, rfl, rfl⟩)))) (hb hby d22_8) hr, hrun, hended, _, _, rfl, ?_, ⟨⟨_, rfl⟩, hW, hsame.mono (by decide) (by decide)⟩⟩
  show Qts Z b a ka k xs G1 h0 n0 _ T158.heap _
  exact ⟨b156, r_158, kr_158, rfl, N158, (((Keep.refl h0 []).ext E156).trans K158 (allS (P := fun x_ => x_ ∈ ([] : List Addr) ∨ h0.size ≤ x_) (Or.inr (own_ale om170)) all0)), (by omega), f158_0, f158_1, f158_2, f158_3, ⟨by omega, by omega⟩⟩
def Qai (Z : State) (b : Addr) (G1 : Int32) (h0 : Heap) (n0 : Nat) (v : Option Value) (h : Heap) (L : List Loc) : Prop := ∃ (a : Addr), ∃ (ka : ClassId), v = none ∧ Fr n0 L ∧ Keep h0 h [b] ∧ (@LE.le Nat instLENat n0 a) ∧ (@LE.le Nat instLENat h0.size a) ∧ (Exa Z h b "java/lang/StringBuilder") ∧ (Fld Z h b "java/lang/AbstractStringBuilder" "value" "[B" (.ref a)) ∧ (Fld Z h b "java/lang/AbstractStringBuilder" "coder" "B" (.int (0 : Int32))) ∧ (Fld Z h b "java/lang/AbstractStringBuilder" "count" "I" (.int (0 : Int32))) ∧ (Arv Z h a ka .byte (16 : Int32) ([]) (.int 0))
theorem ef_ai (m : MethodId) (x0 : Addr) (x1 : Int32) : entryFrame m #[(.ref x0), (.int x1)] 2 = mkF m 0 #[sR x0, sI x1] [] := by first | (simp [entryFrame, mkF, argsToLocals, Value.category]; done) | rfl
theorem d8_0 : decode jdk_68_method_2_code 0 = .ok (.aload_n 0, 1) := by decide +kernel
theorem d8_1 : decode jdk_68_method_2_code 1 = .ok (.invokespecial 3, 3) := by decide +kernel
theorem d8_4 : decode jdk_68_method_2_code 4 = .ok (.getstatic 18, 3) := by decide +kernel
theorem d8_7 : decode jdk_68_method_2_code 7 = .ok (.ifCond .eq 18, 3) := by decide +kernel
theorem d8_10 : decode jdk_68_method_2_code 10 = .ok (.aload_n 0, 1) := by decide +kernel
theorem d8_11 : decode jdk_68_method_2_code 11 = .ok (.iload_n 1, 1) := by decide +kernel
theorem d8_12 : decode jdk_68_method_2_code 12 = .ok (.newarray .byte, 2) := by decide +kernel
theorem d8_14 : decode jdk_68_method_2_code 14 = .ok (.putfield 15, 3) := by decide +kernel
theorem d8_17 : decode jdk_68_method_2_code 17 = .ok (.aload_n 0, 1) := by decide +kernel
theorem d8_18 : decode jdk_68_method_2_code 18 = .ok (.iconst 0, 1) := by decide +kernel
theorem d8_19 : decode jdk_68_method_2_code 19 = .ok (.putfield 22, 3) := by decide +kernel
theorem d8_22 : decode jdk_68_method_2_code 22 = .ok (.goto 16, 3) := by decide +kernel
theorem d8_38 : decode jdk_68_method_2_code 38 = .ok (.return_, 1) := by decide +kernel
set_option maxRecDepth 65536 in
set_option maxHeartbeats 40000000 in
theorem ai (l : Launch) (Z : State) (a0 : Array Value) (hw : ∀ d ∈ tables_1, d.before a0 Z = true) (ws : List Jvm.Cond) (b : Addr) (G1 : Int32) (h0 : Heap) (n0 : Nat) (Z0 : n0 ≤ h0.size) (q0 : Sta Z Z.heap "java/lang/String" "COMPACT_STRINGS" "Z" (.int G1)) (P5 : ¬ (G1 = (0 : Int32))) (q2 : (Old Z Z.heap.size h0 ∧ @LE.le Nat instLENat Z.heap.size n0)) (q3 : @LE.le Nat instLENat n0 b) (q4 : Exa Z h0 b "java/lang/StringBuilder") (q5 : Fld Z h0 b "java/lang/AbstractStringBuilder" "value" "[B" .null) (q6 : Fld Z h0 b "java/lang/AbstractStringBuilder" "coder" "B" (.int (0 : Int32))) (q7 : Fld Z h0 b "java/lang/AbstractStringBuilder" "count" "I" (.int (0 : Int32))) :
    MetFree l (⟨"java/lang/AbstractStringBuilder", "<init>", "(I)V"⟩ : MethodName) (head1 (Jvm.Cond.code (⟨"java/lang/AbstractStringBuilder", "<init>", "(I)V"⟩ : MethodName) jdk_68_method_2_code 2 none :: ws) ({ frames := 1, cells := 1, slots := 16, locals := 13 } : Room)) (fun a_ U_ => a_ = #[(.ref b), (.int (16 : Int32))] ∧ Z.Warmed39 U_.vm ∧ U_.heap = h0) (fun _ _ _ _ _ => True) (fun _ U_ o_ V_ => ∃ v_ L_, o_ = .returned v_ ∧ Qai Z b G1 h0 n0 v_ V_.heap L_ ∧ FrameEnd U_ o_ V_ L_ ({ frames := 1, cells := 1, slots := 16, locals := 13 } : Room).cells ({ frames := 1, cells := 1, slots := 16, locals := 13 } : Room).slots) := by
  refine MetFree.of_bodySF (plainFor_of_name pn_1) hisR ?_
  intro p e s m args below meth c s₁ Bd hml0 hP hK
  obtain ⟨rfl, hZ, hh⟩ := hP
  have hx := Bd.exec
  have hby := Bd.bytes
  have hml : c.maxLocals = 2 := hml0
  have hown : s.vm.findClass "java/lang/AbstractStringBuilder" = some m.cls := findClass_of_methodNamed Bd.named
  have hnm := (name_of_methodNamed Bd.named Bd.method).1
  have X0 : Stand p l e ({ frames := 1, cells := 1, slots := 16, locals := 13 } : Room) s m #[(.ref b), (.int (16 : Int32))] below meth c s₁ [] 0 0 := Stand.of_body Bd
  have e0 : s₁.heap = h0 := by rw [← hh, Bd.state]; rfl
  have N0 := Fr.nil n0
  have Oo := q2.1
  have zo := q2.2
  have lt171 := own_alt q4.lt
  have lt172 := own_alt q5.lt
  have lt173 := own_alt q6.lt
  have lt174 := own_alt q7.lt
  refine Gl.go (A := s₁.setTop (entryFrame m #[(.ref b), (.int (16 : Int32))] 2)) (P := fun o_ U_ => ∃ v_ L_, o_ = .returned v_ ∧ Qai Z b G1 h0 n0 v_ U_.heap L_ ∧ FrameEnd s o_ U_ L_ ({ frames := 1, cells := 1, slots := 16, locals := 13 } : Room).cells ({ frames := 1, cells := 1, slots := 16, locals := 13 } : Room).slots) (fun t_ k_ => castTop (ef_ai m b (16 : Int32)) k_) ?_
  show Gl p.tables e below _ (s₁.setTop (mkF m 0 #[sR b, sI 16] []))
  refine Gl.go (fun _ hr => zXS_aloadN X0.here hx rfl (hb hby d8_0) rfl rfl hr) ?_
  refine gInit Gl.cl (W := 0) X0 hx hZ hown (tw hw 57 rfl) (tw hw 12 rfl) (tw hw 13 rfl) e0 rfl (by rw [hml]; rfl) rfl (hb hby d8_1) (by decide) (by show 2 * 0 + _ ≤ _; exact Nat.le_of_eq rfl) (by decide) ?_
  intro T175 X175 e175
  refine gGetS (host := "") Gl.cl X175 hx hZ hown (Or.inl (tw hw 58 rfl)) Via.refl e175 (q0.ext Oo.2) rfl (hb hby d8_4) ?_
  intro T176 X176 e176
  refine Gl.go (fun _ hr => zXS_ifNo X176.here hx rfl (hb hby d8_7) rfl (XT.i0_eq_f P5) (zXS_aloadN X176.here hx rfl (hb hby d8_10) rfl rfl (zXS_iloadN X176.here hx rfl (hb hby d8_11) rfl hr))) ?_
  refine gNewP Gl.cl X176 hx hZ (tw hw 15 rfl) e176 rfl (hb hby d8_12) rfl (by decide) (cap := 16) (by decide) (by decide) (by decide) (by decide) ?_
  intro T177 h177 b177 k177 g177 X177 e177 E177 A177
  have z178 : h0.size ≤ h177.size := E177.1
  have lt177 := own_alt A177.lt
  have V177 : Arv Z h177 b177 k177 .byte (16 : Int32) [] (.int (0 : Int32)) := (Arv.new A177 (by decide)).pad (pad_rep [] (.int (0 : Int32)) 0)
  have Fc179 := (q5.ext E177)
  have Ec180 := (q4.ext E177)
  refine gPutF (host := "") Gl.cl X177 hx hZ hown (Or.inl (tw hw 59 rfl)) Via.refl e177 Fc179 Ec180 (Or.inl (tw hw 60 rfl)) (tw hw 46 rfl) (ty := (.array .byte)) (by decide) rfl rfl rfl rfl (hb hby d8_14) ?_
  intro T181 h181 X181 e181 W181
  have z182 : h177.size ≤ h181.size := (Keep.of_wr W181).1
  have Fw181 := Fc179.same W181
  have om183 : @LE.le Nat instLENat n0 b := by omega
  have N181 := Fr.snoc X181 N0 (own_ale om183)
  refine Gl.go (fun _ hr => zXS_aloadN X181.here hx rfl (hb hby d8_17) rfl rfl (zXS_iconst X181.here hx rfl (hb hby d8_18) hr)) ?_
  have Fc184 := ((q6.ext E177).other W181 (Or.inr (slot_ne (Or.inl (tw hw 62 rfl)) (Or.inl (tw hw 60 rfl)) (by decide) (t := .byte) (t' := (.array .byte)) (by decide) (by decide))))
  have Ec185 := (Ec180.wr W181)
  refine gPutF (host := "") Gl.cl X181 hx hZ hown (Or.inl (tw hw 61 rfl)) Via.refl e181 Fc184 Ec185 (Or.inl (tw hw 62 rfl)) (tw hw 46 rfl) (ty := .byte) (by decide) rfl rfl rfl rfl (hb hby d8_19) ?_
  intro T186 h186 X186 e186 W186
  have z187 : h181.size ≤ h186.size := (Keep.of_wr W186).1
  have Fw186 := Fc184.same W186
  have N186 := Fr.snoc X186 N181 (own_ale om183)
  refine Gl.go (fun _ hr => zXS_goto X186.here hx rfl (pc0 := 22) (pc' := 38) rfl (hb hby d8_22) (by decide) (by decide) hr) ?_
  have Ec188 := (Ec185.wr W186)
  have Fc189 := (Fw181.other W186 (Or.inr (slot_ne (Or.inl (tw hw 60 rfl)) (Or.inl (tw hw 62 rfl)) (by decide) (t := (.array .byte)) (t' := .byte) (by decide) (by decide))))
  have Fc190 := (((q7.ext E177).other W181 (Or.inr (slot_ne (Or.inl (tw hw 85 rfl)) (Or.inl (tw hw 60 rfl)) (by decide) (t := .int) (t' := (.array .byte)) (by decide) (by decide)))).other W186 (Or.inr (slot_ne (Or.inl (tw hw 85 rfl)) (Or.inl (tw hw 62 rfl)) (by decide) (t := .int) (t' := .byte) (by decide) (by decide))))
  have om191 : ¬ @Eq Nat b177 b := by omega
  have Vc192 := ((V177.other W181 (own_ane om191)).other W186 (own_ane om191))
  obtain ⟨fs, hr, hrun, hended, hW, hsame⟩ := X186.leave (v := none) (fun _ => rfl)
  refine ⟨_, _, X186.returnOut hx Bd.returns (hb hby d8_38) hr, hrun, hended, _, _, rfl, ?_, ⟨⟨_, rfl⟩, hW, hsame.mono (by decide) (by decide)⟩⟩
  show Qai Z b G1 h0 n0 _ T186.heap _
  rw [e186]
  exact ⟨b177, k177, rfl, N186, ((((Keep.refl h0 [b]).ext E177).wr W181 (Or.inl (by simp))).wr W186 (Or.inl (by simp))), (by omega), (by omega), Ec188, Fc189, Fw186, Fc190, Vc192⟩
def Qsbi (Z : State) (b : Addr) (G1 : Int32) (h0 : Heap) (n0 : Nat) (v : Option Value) (h : Heap) (L : List Loc) : Prop := ∃ (a : Addr), ∃ (ka : ClassId), v = none ∧ Fr n0 L ∧ Keep h0 h [b] ∧ (@LE.le Nat instLENat n0 a) ∧ (@LE.le Nat instLENat h0.size a) ∧ (Exa Z h b "java/lang/StringBuilder") ∧ (Fld Z h b "java/lang/AbstractStringBuilder" "value" "[B" (.ref a)) ∧ (Fld Z h b "java/lang/AbstractStringBuilder" "coder" "B" (.int (0 : Int32))) ∧ (Fld Z h b "java/lang/AbstractStringBuilder" "count" "I" (.int (0 : Int32))) ∧ (Arv Z h a ka .byte (16 : Int32) ([]) (.int 0))
theorem ef_sbi (m : MethodId) (x0 : Addr) : entryFrame m #[(.ref x0)] 1 = mkF m 0 #[sR x0] [] := by first | (simp [entryFrame, mkF, argsToLocals, Value.category]; done) | rfl
theorem d7_0 : decode jdk_67_method_1_code 0 = .ok (.aload_n 0, 1) := by decide +kernel
theorem d7_1 : decode jdk_67_method_1_code 1 = .ok (.bipush 16, 2) := by decide +kernel
theorem d7_3 : decode jdk_67_method_1_code 3 = .ok (.invokespecial 1, 3) := by decide +kernel
theorem d7_6 : decode jdk_67_method_1_code 6 = .ok (.return_, 1) := by decide +kernel
set_option maxRecDepth 65536 in
set_option maxHeartbeats 40000000 in
theorem sbi (l : Launch) (Z : State) (a0 : Array Value) (hw : ∀ d ∈ tables_1, d.before a0 Z = true) (ws : List Jvm.Cond) (b : Addr) (G1 : Int32) (h0 : Heap) (n0 : Nat) (Z0 : n0 ≤ h0.size) (q0 : Sta Z Z.heap "java/lang/String" "COMPACT_STRINGS" "Z" (.int G1)) (P5 : ¬ (G1 = (0 : Int32))) (q2 : (Old Z Z.heap.size h0 ∧ @LE.le Nat instLENat Z.heap.size n0)) (q3 : @LE.le Nat instLENat n0 b) (q4 : Exa Z h0 b "java/lang/StringBuilder") (q5 : Fld Z h0 b "java/lang/AbstractStringBuilder" "value" "[B" .null) (q6 : Fld Z h0 b "java/lang/AbstractStringBuilder" "coder" "B" (.int (0 : Int32))) (q7 : Fld Z h0 b "java/lang/AbstractStringBuilder" "count" "I" (.int (0 : Int32))) :
    MetFree l (⟨"java/lang/StringBuilder", "<init>", "()V"⟩ : MethodName) (head1 (Jvm.Cond.code (⟨"java/lang/StringBuilder", "<init>", "()V"⟩ : MethodName) jdk_67_method_1_code 1 none :: ws) ({ frames := 2, cells := 1, slots := 16, locals := 30 } : Room)) (fun a_ U_ => a_ = #[(.ref b)] ∧ Z.Warmed39 U_.vm ∧ U_.heap = h0) (fun _ _ _ _ _ => True) (fun _ U_ o_ V_ => ∃ v_ L_, o_ = .returned v_ ∧ Qsbi Z b G1 h0 n0 v_ V_.heap L_ ∧ FrameEnd U_ o_ V_ L_ ({ frames := 2, cells := 1, slots := 16, locals := 30 } : Room).cells ({ frames := 2, cells := 1, slots := 16, locals := 30 } : Room).slots) := by
  refine MetFree.of_bodySF (plainFor_of_name pn_2) hisR ?_
  intro p e s m args below meth c s₁ Bd hml0 hP hK
  obtain ⟨rfl, hZ, hh⟩ := hP
  have hx := Bd.exec
  have hby := Bd.bytes
  have hml : c.maxLocals = 1 := hml0
  have hown : s.vm.findClass "java/lang/StringBuilder" = some m.cls := findClass_of_methodNamed Bd.named
  have hnm := (name_of_methodNamed Bd.named Bd.method).1
  have X0 : Stand p l e ({ frames := 2, cells := 1, slots := 16, locals := 30 } : Room) s m #[(.ref b)] below meth c s₁ [] 0 0 := Stand.of_body Bd
  have e0 : s₁.heap = h0 := by rw [← hh, Bd.state]; rfl
  have N0 := Fr.nil n0
  have Oo := q2.1
  have zo := q2.2
  have lt193 := own_alt q4.lt
  have lt194 := own_alt q5.lt
  have lt195 := own_alt q6.lt
  have lt196 := own_alt q7.lt
  refine Gl.go (A := s₁.setTop (entryFrame m #[(.ref b)] 1)) (P := fun o_ U_ => ∃ v_ L_, o_ = .returned v_ ∧ Qsbi Z b G1 h0 n0 v_ U_.heap L_ ∧ FrameEnd s o_ U_ L_ ({ frames := 2, cells := 1, slots := 16, locals := 30 } : Room).cells ({ frames := 2, cells := 1, slots := 16, locals := 30 } : Room).slots) (fun t_ k_ => castTop (ef_sbi m b) k_) ?_
  show Gl p.tables e below _ (s₁.setTop (mkF m 0 #[sR b] []))
  refine Gl.go (fun _ hr => zXS_aloadN X0.here hx rfl (hb hby d7_0) rfl rfl (zXS_bipush X0.here hx rfl (hb hby d7_1) hr)) ?_
  have zz197 : n0 ≤ h0.size := by omega
  refine gSpecialN Gl.cl (y := (⟨"java/lang/AbstractStringBuilder", "<init>", "(I)V"⟩ : MethodName)) (b := b) (argsL := [(.int (16 : Int32))]) (rest := []) (mc := 1) (ms := 16) X0 hx hZ hown rfl (mvT hZ (tw hw 51 rfl)) (mvT hZ (tw hw 52 rfl)) (mvT hZ (tw hw 56 rfl)) (by decide) (backOf (W := 0) (ai l Z a0 hw [] b G1 h0 n0 zz197 q0 (by assumption) ⟨Oo, (by omega)⟩ (by omega) q4 q5 q6 q7) hZ (tw hw 56 rfl) (tw hw 55 rfl) (by decide) (by decide)) rfl (by rw [hml]; rfl) (lenOf pd_4 rfl) rfl (by show 2 * 0 + _ ≤ _; exact Nat.le_of_eq rfl) (hb hby d7_3) rfl e0 (by decide) (by decide) ?_
  intro v197 T197 Lc197 hQ197 X197
  obtain ⟨a_197, ka_197, rfl, Nq197, K197, f197_0, f197_1, f197_2, f197_3, f197_4, f197_5, f197_6⟩ := hQ197
  have z198 : h0.size ≤ T197.heap.size := K197.1
  have N197 := Fr.app N0 Nq197
  have lt199 := own_alt f197_2.lt
  have lt200 := own_alt f197_3.lt
  have lt201 := own_alt f197_4.lt
  have lt202 := own_alt f197_5.lt
  have lt203 := own_alt f197_6.lt
  obtain ⟨fs, hr, hrun, hended, hW, hsame⟩ := X197.leave (v := none) (fun _ => rfl)
  refine ⟨_, _, X197.returnOut hx Bd.returns (hb hby d7_6) hr, hrun, hended, _, _, rfl, ?_, ⟨⟨_, rfl⟩, hW, hsame.mono (by decide) (by decide)⟩⟩
  show Qsbi Z b G1 h0 n0 _ T197.heap _
  exact ⟨a_197, ka_197, rfl, N197, ((Keep.refl h0 [b]).trans K197 (allS (P := fun x_ => x_ ∈ ([b] : List Addr) ∨ h0.size ≤ x_) (Or.inl (by simp)) all0)), (by omega), (by omega), f197_2, f197_3, f197_4, f197_5, f197_6⟩
/-- the number of decimal digits, the digit's char, the digits -/
def nd (p : Nat) : Nat := if p < 10 then 1 else if p < 100 then 2 else if p < 1000 then 3 else if p < 10000 then 4 else 5
def dch (x : Nat) : Int32 := Int32.ofNat (48 + x % 10)
def digs (p : Nat) : List Int32 := if p < 10 then [dch p] else if p < 100 then [dch (p / 10), dch p] else if p < 1000 then [dch (p / 100), dch (p / 10), dch p] else if p < 10000 then [dch (p / 1000), dch (p / 100), dch (p / 10), dch p] else [dch (p / 10000), dch (p / 1000), dch (p / 100), dch (p / 10), dch p]
theorem own_five (p : Nat) : (p < 10 ∧ nd p = 1) ∨ ((10 ≤ p ∧ p < 100) ∧ nd p = 2) ∨ ((100 ≤ p ∧ p < 1000) ∧ nd p = 3) ∨ ((1000 ≤ p ∧ p < 10000) ∧ nd p = 4) ∨ (10000 ≤ p ∧ nd p = 5) := by
  unfold nd
  repeat' split
  all_goals omega
theorem nd_le (p : Nat) : nd p ≤ 5 := by have := own_five p; omega
theorem digs_len (p : Nat) : (digs p).length = nd p := by
  unfold digs nd
  repeat' split
  all_goals rfl
theorem own_tenth (P : Int32 → Prop) (h : ∀ k : Fin 10, P (Int32.ofNat (48 + k.val))) (x : Nat) : P (dch x) := h ⟨x % 10, Nat.mod_lt _ (by decide)⟩
theorem dch_lat (x : Nat) : Lat (dch x) := own_tenth Lat (by decide) x
theorem dch_byte (x : Nat) : (dch x).toInt8.toInt32 = dch x := own_tenth (fun c => c.toInt8.toInt32 = c) (by decide) x
theorem dch_nar (x : Nat) : nar .byte (dch x) = dch x := own_tenth (fun c => nar .byte c = c) (by decide) x
theorem dch_fit (x : Nat) : fits .byte (.int (dch x)) = true := by rw [← dch_nar]; exact fits_nar_byte _
theorem digs_lat (p : Nat) : ∀ c ∈ digs p, Lat c := by
  unfold digs
  repeat' split
  all_goals (intro c hc; simp only [List.mem_cons, List.not_mem_nil, or_false] at hc; rcases hc with rfl | rfl | rfl | rfl | rfl <;> exact dch_lat _)
/-- Integer's two tables -/
def ones : List Value := (List.range 100).map fun i => Value.int (Int32.ofNat (48 + i % 10))
def tens : List Value := (List.range 100).map fun i => Value.int (Int32.ofNat (48 + i / 10))
theorem own_on {r x : Nat} {d : Value} (hr : r < 100) (e : r % 10 = x % 10) : ones.getD (Int32.ofNat r).toNatClampNeg d = .int (dch x) := by
  rw [own_nat32 (by omega)]
  simp [ones, List.getD_eq_getElem?_getD, hr, dch, e]
theorem own_te {r x : Nat} {d : Value} (hr : r < 100) (e : r / 10 = x % 10) : tens.getD (Int32.ofNat r).toNatClampNeg d = .int (dch x) := by
  rw [own_nat32 (by omega)]
  simp [tens, List.getD_eq_getElem?_getD, hr, dch, e]
theorem own_negI {m : Nat} (h : m < 2 ^ 31) : (-(Int32.ofNat m)).toInt = -(m : Int) := by
  rw [Int32.toInt_neg, own_toI h]
  exact Int.bmod_eq_of_le (by omega) (by omega)
theorem own_gtN {m c : Nat} {l : Int32} (hl : l.toInt = -(c : Int)) (h31 : m < 2 ^ 31) (h : m < c) : l < -(Int32.ofNat m) := by
  rw [Int32.lt_iff_toInt_lt, own_negI h31, hl]; omega
theorem own_ngtN {m c : Nat} {l : Int32} (hl : l.toInt = -(c : Int)) (h31 : m < 2 ^ 31) (h : c ≤ m) : ¬ l < -(Int32.ofNat m) := by
  rw [Int32.lt_iff_toInt_lt, own_negI h31, hl]; omega
theorem own_ltN9 {m : Nat} (h31 : m < 2 ^ 31) (h : 9 < m) : -(Int32.ofNat m) < (-9 : Int32) := by
  rw [Int32.lt_iff_toInt_lt, own_negI h31]; have e : (-9 : Int32).toInt = -9 := rfl; omega
theorem own_nltN9 {m : Nat} (h31 : m < 2 ^ 31) (h : m ≤ 9) : ¬ -(Int32.ofNat m) < (-9 : Int32) := by
  rw [Int32.lt_iff_toInt_lt, own_negI h31]; have e : (-9 : Int32).toInt = -9 := rfl; omega
theorem own_div100 {m : Nat} (h : m < 65536) : -(Int32.ofNat m) / (100 : Int32) = -(Int32.ofNat (m / 100)) := by
  apply Int32.toInt_inj.mp
  rw [Int32.toInt_div, own_negI (by omega), own_negI (by omega)]
  have e : (100 : Int32).toInt = 100 := rfl
  rw [e]
  have e2 : (-(m : Int)).tdiv 100 = -((m / 100 : Nat) : Int) := by rw [Int.neg_tdiv]; simp
  rw [e2]
  exact Int.bmod_eq_of_le (by omega) (by omega)
theorem own_mod100 {m : Nat} (h : m < 65536) : -(Int32.ofNat (m / 100)) * (100 : Int32) - -(Int32.ofNat m) = Int32.ofNat (m % 100) := by
  have e : Int32.ofNat m = Int32.ofNat (m / 100) * (100 : Int32) + Int32.ofNat (m % 100) := by
    have q : m = m / 100 * 100 + m % 100 := by omega
    have q2 := congrArg Int32.ofNat q
    rw [Int32.ofNat_add, Int32.ofNat_mul] at q2
    exact q2
  rw [e, Int32.neg_mul, Int32.sub_eq_add_neg, Int32.neg_neg, ← Int32.add_assoc]
  rw [Int32.add_left_neg, Int32.zero_add]
theorem own_dec (a : Nat) : Int32.ofNat (a + 1) + (-1 : Int32) = Int32.ofNat a := by
  rw [Int32.ofNat_add, Int32.add_assoc]
  have e : Int32.ofNat 1 + (-1 : Int32) = 0 := rfl
  rw [e, Int32.add_zero]
/-- what getChars lays into the bytes -/
def putD (ys : List Value) (k p : Nat) : List Value :=
  if p < 10 then ys.set k (.int (dch p)) else if p < 100 then (ys.set (k + 1) (.int (dch p))).set k (.int (dch (p / 10)))
  else if p < 1000 then ((ys.set (k + 2) (.int (dch p))).set (k + 1) (.int (dch (p / 10)))).set k (.int (dch (p / 100)))
  else if p < 10000 then (((ys.set (k + 3) (.int (dch p))).set (k + 2) (.int (dch (p / 10)))).set (k + 1) (.int (dch (p / 100)))).set k (.int (dch (p / 1000)))
  else ((((ys.set (k + 4) (.int (dch p))).set (k + 3) (.int (dch (p / 10)))).set (k + 2) (.int (dch (p / 100)))).set (k + 1) (.int (dch (p / 1000)))).set k (.int (dch (p / 10000)))
theorem own_setR (xs : List Value) (k j : Nat) (ys : List Value) (v : Value) (h : xs.length = k) : (xs ++ ys).set (k + j) v = xs ++ ys.set j v := by
  subst h; rw [List.set_append_right _ _ (by omega)]; simp
theorem own_setR0 (xs : List Value) (k : Nat) (ys : List Value) (v : Value) (h : xs.length = k) : (xs ++ ys).set k v = xs ++ ys.set 0 v := own_setR xs k 0 ys v h
theorem putD_app {xs : List Value} {k p : Nat} (hx : xs.length = k) : putD (xs ++ List.replicate 16 (.int 0)) k p = xs ++ lb (digs p) ++ List.replicate (16 - nd p) (.int 0) := by
  unfold putD digs nd
  repeat' split
  all_goals (simp only [own_setR _ _ _ _ _ hx, own_setR0 _ _ _ _ hx, List.append_assoc]; congr 1; simp [lb, dch_byte, List.replicate])

def Qssz (Z : State) (po : Nat) (h0 : Heap) (n0 : Nat) (v : Option Value) (h : Heap) (L : List Loc) : Prop := v = some (.int (Int32.ofNat (nd po))) ∧ Fr n0 L ∧ h = h0
theorem pn_4 : plainName "java/lang/Integer" = true := by first | (simp [plainName, overriddenIn]; done) | decide +kernel
theorem ef_ssz (m : MethodId) (x0 : Int32) : entryFrame m #[(.int x0)] 4 = mkF m 0 #[sI x0, sU, sU, sU] [] := by first | (simp [entryFrame, mkF, argsToLocals, Value.category]; done) | rfl
theorem d19_0 : decode jdk_33_method_13_code 0 = .ok (.iconst 1, 1) := by decide +kernel
theorem d19_1 : decode jdk_33_method_13_code 1 = .ok (.istore_n 1, 1) := by decide +kernel
theorem d19_2 : decode jdk_33_method_13_code 2 = .ok (.iload_n 0, 1) := by decide +kernel
theorem d19_3 : decode jdk_33_method_13_code 3 = .ok (.ifCond .lt 8, 3) := by decide +kernel
theorem d19_6 : decode jdk_33_method_13_code 6 = .ok (.iconst 0, 1) := by decide +kernel
theorem d19_7 : decode jdk_33_method_13_code 7 = .ok (.istore_n 1, 1) := by decide +kernel
theorem d19_8 : decode jdk_33_method_13_code 8 = .ok (.iload_n 0, 1) := by decide +kernel
theorem d19_9 : decode jdk_33_method_13_code 9 = .ok (.ineg, 1) := by decide +kernel
theorem d19_10 : decode jdk_33_method_13_code 10 = .ok (.istore_n 0, 1) := by decide +kernel
theorem d19_11 : decode jdk_33_method_13_code 11 = .ok (.bipush (-10), 2) := by decide +kernel
theorem d19_13 : decode jdk_33_method_13_code 13 = .ok (.istore_n 2, 1) := by decide +kernel
theorem d19_14 : decode jdk_33_method_13_code 14 = .ok (.iconst 1, 1) := by decide +kernel
theorem d19_15 : decode jdk_33_method_13_code 15 = .ok (.istore_n 3, 1) := by decide +kernel
theorem d19_16 : decode jdk_33_method_13_code 16 = .ok (.iload_n 3, 1) := by decide +kernel
theorem d19_17 : decode jdk_33_method_13_code 17 = .ok (.bipush 10, 2) := by decide +kernel
theorem d19_19 : decode jdk_33_method_13_code 19 = .ok (.if_icmp .ge 23, 3) := by decide +kernel
theorem d19_22 : decode jdk_33_method_13_code 22 = .ok (.iload_n 0, 1) := by decide +kernel
theorem d19_23 : decode jdk_33_method_13_code 23 = .ok (.iload_n 2, 1) := by decide +kernel
theorem d19_24 : decode jdk_33_method_13_code 24 = .ok (.if_icmp .le 7, 3) := by decide +kernel
theorem d19_27 : decode jdk_33_method_13_code 27 = .ok (.iload_n 3, 1) := by decide +kernel
theorem d19_28 : decode jdk_33_method_13_code 28 = .ok (.iload_n 1, 1) := by decide +kernel
theorem d19_29 : decode jdk_33_method_13_code 29 = .ok (.iadd, 1) := by decide +kernel
theorem d19_30 : decode jdk_33_method_13_code 30 = .ok (.ireturn, 1) := by decide +kernel
theorem d19_31 : decode jdk_33_method_13_code 31 = .ok (.bipush 10, 2) := by decide +kernel
theorem d19_33 : decode jdk_33_method_13_code 33 = .ok (.iload_n 2, 1) := by decide +kernel
theorem d19_34 : decode jdk_33_method_13_code 34 = .ok (.imul, 1) := by decide +kernel
theorem d19_35 : decode jdk_33_method_13_code 35 = .ok (.istore_n 2, 1) := by decide +kernel
theorem d19_36 : decode jdk_33_method_13_code 36 = .ok (.iinc 3 1, 3) := by decide +kernel
theorem d19_39 : decode jdk_33_method_13_code 39 = .ok (.goto (-23), 3) := by decide +kernel
set_option maxRecDepth 65536 in
set_option maxHeartbeats 40000000 in
theorem ssz (l : Launch) (Z : State) (a0 : Array Value) (hw : ∀ d ∈ tables_1, d.before a0 Z = true) (ws : List Jvm.Cond) (po : Nat) (h0 : Heap) (n0 : Nat) (Z0 : n0 ≤ h0.size) (hp : po < 65536) :
    MetFree l (⟨"java/lang/Integer", "stringSize", "(I)I"⟩ : MethodName) (head1 (Jvm.Cond.code (⟨"java/lang/Integer", "stringSize", "(I)I"⟩ : MethodName) jdk_33_method_13_code 4 (some .int) :: ws) ({ frames := 0, cells := 0, slots := 0, locals := 0 } : Room)) (fun a_ U_ => a_ = #[(.int (Int32.ofNat po))] ∧ Z.Warmed39 U_.vm ∧ U_.heap = h0) (fun _ _ _ _ _ => True) (fun _ U_ o_ V_ => ∃ v_ L_, o_ = .returned v_ ∧ Qssz Z po h0 n0 v_ V_.heap L_ ∧ FrameEnd U_ o_ V_ L_ ({ frames := 0, cells := 0, slots := 0, locals := 0 } : Room).cells ({ frames := 0, cells := 0, slots := 0, locals := 0 } : Room).slots) := by
  refine MetFree.of_bodySF (plainFor_of_name pn_4) hisR ?_
  intro p e s m args below meth c s₁ Bd hml0 hP hK
  obtain ⟨rfl, hZ, hh⟩ := hP
  have hx := Bd.exec
  have hby := Bd.bytes
  have hml : c.maxLocals = 4 := hml0
  have hown : s.vm.findClass "java/lang/Integer" = some m.cls := findClass_of_methodNamed Bd.named
  have hnm := (name_of_methodNamed Bd.named Bd.method).1
  have X0 : Stand p l e ({ frames := 0, cells := 0, slots := 0, locals := 0 } : Room) s m #[(.int (Int32.ofNat po))] below meth c s₁ [] 0 0 := Stand.of_body Bd
  have e0 : s₁.heap = h0 := by rw [← hh, Bd.state]; rfl
  have N0 := Fr.nil n0
  have hp31 : po < 2 ^ 31 := by omega
  refine Gl.go (A := s₁.setTop (entryFrame m #[(.int (Int32.ofNat po))] 4)) (P := fun o_ U_ => ∃ v_ L_, o_ = .returned v_ ∧ Qssz Z po h0 n0 v_ U_.heap L_ ∧ FrameEnd s o_ U_ L_ ({ frames := 0, cells := 0, slots := 0, locals := 0 } : Room).cells ({ frames := 0, cells := 0, slots := 0, locals := 0 } : Room).slots) (fun t_ k_ => castTop (ef_ssz m (Int32.ofNat po)) k_) ?_
  show Gl p.tables e below _ (s₁.setTop (mkF m 0 #[sI (Int32.ofNat po), sU, sU, sU] []))
  refine Gl.go (fun _ hr => zXS_iconst X0.here hx rfl (hb hby d19_0) (zXS_istoreN X0.here hx rfl (hb hby d19_1) rfl (l' := #[sI (Int32.ofNat po), sI 1, sU, sU]) rfl (zXS_iloadN X0.here hx rfl (hb hby d19_2) rfl hr))) ?_
  refine Gl.go (fun _ hr => zXS_ifNo X0.here hx rfl (hb hby d19_3) rfl (XT.i0_lt_f (own_nn hp31)) (zXS_iconst X0.here hx rfl (hb hby d19_6) (zXS_istoreN X0.here hx rfl (hb hby d19_7) rfl (l' := #[sI (Int32.ofNat po), sI 0, sU, sU]) rfl (zXS_iloadN X0.here hx rfl (hb hby d19_8) rfl (zXS_ineg X0.here hx rfl (hb hby d19_9) rfl (zXS_istoreN X0.here hx rfl (hb hby d19_10) rfl (l' := #[sI (-(Int32.ofNat po)), sI 0, sU, sU]) rfl (zXS_bipush X0.here hx rfl (hb hby d19_11) (zXS_istoreN X0.here hx rfl (hb hby d19_13) rfl (l' := #[sI (-(Int32.ofNat po)), sI 0, sI (-10), sU]) rfl (zXS_iconst X0.here hx rfl (hb hby d19_14) (zXS_istoreN X0.here hx rfl (hb hby d19_15) rfl (l' := #[sI (-(Int32.ofNat po)), sI 0, sI (-10), sI 1]) rfl hr)))))))))) ?_
  refine Gl.go (fun _ hr => zXS_iloadN X0.here hx rfl (hb hby d19_16) rfl (zXS_bipush X0.here hx rfl (hb hby d19_17) (zXS_icmpNo X0.here hx rfl (hb hby d19_19) rfl (XT.ii_ge_f (by decide)) (zXS_iloadN X0.here hx rfl (hb hby d19_22) rfl (zXS_iloadN X0.here hx rfl (hb hby d19_23) rfl hr))))) ?_
  by_cases hc204 : (-10 : Int32) < (-(Int32.ofNat po))
  · refine Gl.go (fun _ hr => zXS_icmpNo X0.here hx rfl (hb hby d19_24) rfl (XT.ii_le_f hc204) hr) ?_
    have hz10 : po < 10 := (by by_cases q : po < 10; exact q; exact absurd hc204 (own_ngtN (c := 10) rfl hp31 (by omega)))
    refine Gl.go (fun _ hr => zXS_iloadN X0.here hx rfl (hb hby d19_27) rfl (zXS_iloadN X0.here hx rfl (hb hby d19_28) rfl (zXS_iadd X0.here hx rfl (hb hby d19_29) rfl hr))) ?_
    obtain ⟨fs, hr, hrun, hended, hW, hsame⟩ := X0.leave (v := some (.int (1 : Int32))) (fun h => by rw [Bd.returns] at h; cases h)
    refine ⟨_, _, retOut X0 hx Bd.returns rfl (Or.inl ⟨rfl, Or.inl rfl, _, rfl⟩) (hb hby d19_30) hr, hrun, hended, _, _, rfl, ?_, ⟨⟨_, rfl⟩, hW, hsame.mono (by decide) (by decide)⟩⟩
    show Qssz Z po h0 n0 _ s₁.heap _
    rw [e0]
    exact ⟨(by rcases own_five po with ⟨q, e⟩ | ⟨q, e⟩ | ⟨q, e⟩ | ⟨q, e⟩ | ⟨q, e⟩ <;> first | omega | (rw [e]; rfl)), N0, rfl⟩
  · refine Gl.go (fun _ hr => zXS_icmpYes X0.here hx rfl (pc0 := 24) (pc' := 31) rfl (hb hby d19_24) rfl (XT.ii_le_t hc204) (by decide) (by decide) hr) ?_
    have hz10 : 10 ≤ po := (by by_cases q : po < 10; exact absurd (own_gtN (c := 10) rfl hp31 q) hc204; omega)
    refine Gl.go (fun _ hr => zXS_bipush X0.here hx rfl (hb hby d19_31) (zXS_iloadN X0.here hx rfl (hb hby d19_33) rfl (zXS_imul X0.here hx rfl (hb hby d19_34) rfl (zXS_istoreN X0.here hx rfl (hb hby d19_35) rfl (l' := #[sI (-(Int32.ofNat po)), sI 0, sI (-100), sI 1]) rfl (zXS_iinc X0.here hx rfl (hb hby d19_36) rfl (l' := #[sI (-(Int32.ofNat po)), sI 0, sI (-100), sI 2]) rfl (zXS_goto X0.here hx rfl (pc0 := 39) (pc' := 16) rfl (hb hby d19_39) (by decide) (by decide) (zXS_iloadN X0.here hx rfl (hb hby d19_16) rfl (zXS_bipush X0.here hx rfl (hb hby d19_17) (zXS_icmpNo X0.here hx rfl (hb hby d19_19) rfl (XT.ii_ge_f (by decide)) (zXS_iloadN X0.here hx rfl (hb hby d19_22) rfl hr)))))))))) ?_
    refine Gl.go (fun _ hr => zXS_iloadN X0.here hx rfl (hb hby d19_23) rfl hr) ?_
    by_cases hc205 : (-100 : Int32) < (-(Int32.ofNat po))
    · refine Gl.go (fun _ hr => zXS_icmpNo X0.here hx rfl (hb hby d19_24) rfl (XT.ii_le_f hc205) hr) ?_
      have hz100 : po < 100 := (by by_cases q : po < 100; exact q; exact absurd hc205 (own_ngtN (c := 100) rfl hp31 (by omega)))
      refine Gl.go (fun _ hr => zXS_iloadN X0.here hx rfl (hb hby d19_27) rfl (zXS_iloadN X0.here hx rfl (hb hby d19_28) rfl (zXS_iadd X0.here hx rfl (hb hby d19_29) rfl hr))) ?_
      obtain ⟨fs, hr, hrun, hended, hW, hsame⟩ := X0.leave (v := some (.int (2 : Int32))) (fun h => by rw [Bd.returns] at h; cases h)
      refine ⟨_, _, retOut X0 hx Bd.returns rfl (Or.inl ⟨rfl, Or.inl rfl, _, rfl⟩) (hb hby d19_30) hr, hrun, hended, _, _, rfl, ?_, ⟨⟨_, rfl⟩, hW, hsame.mono (by decide) (by decide)⟩⟩
      show Qssz Z po h0 n0 _ s₁.heap _
      rw [e0]
      exact ⟨(by rcases own_five po with ⟨q, e⟩ | ⟨q, e⟩ | ⟨q, e⟩ | ⟨q, e⟩ | ⟨q, e⟩ <;> first | omega | (rw [e]; rfl)), N0, rfl⟩
    · refine Gl.go (fun _ hr => zXS_icmpYes X0.here hx rfl (pc0 := 24) (pc' := 31) rfl (hb hby d19_24) rfl (XT.ii_le_t hc205) (by decide) (by decide) hr) ?_
      have hz100 : 100 ≤ po := (by by_cases q : po < 100; exact absurd (own_gtN (c := 100) rfl hp31 q) hc205; omega)
      refine Gl.go (fun _ hr => zXS_bipush X0.here hx rfl (hb hby d19_31) (zXS_iloadN X0.here hx rfl (hb hby d19_33) rfl (zXS_imul X0.here hx rfl (hb hby d19_34) rfl (zXS_istoreN X0.here hx rfl (hb hby d19_35) rfl (l' := #[sI (-(Int32.ofNat po)), sI 0, sI (-1000), sI 2]) rfl (zXS_iinc X0.here hx rfl (hb hby d19_36) rfl (l' := #[sI (-(Int32.ofNat po)), sI 0, sI (-1000), sI 3]) rfl (zXS_goto X0.here hx rfl (pc0 := 39) (pc' := 16) rfl (hb hby d19_39) (by decide) (by decide) (zXS_iloadN X0.here hx rfl (hb hby d19_16) rfl (zXS_bipush X0.here hx rfl (hb hby d19_17) (zXS_icmpNo X0.here hx rfl (hb hby d19_19) rfl (XT.ii_ge_f (by decide)) (zXS_iloadN X0.here hx rfl (hb hby d19_22) rfl hr)))))))))) ?_
      refine Gl.go (fun _ hr => zXS_iloadN X0.here hx rfl (hb hby d19_23) rfl hr) ?_
      by_cases hc206 : (-1000 : Int32) < (-(Int32.ofNat po))
      · refine Gl.go (fun _ hr => zXS_icmpNo X0.here hx rfl (hb hby d19_24) rfl (XT.ii_le_f hc206) hr) ?_
        have hz1000 : po < 1000 := (by by_cases q : po < 1000; exact q; exact absurd hc206 (own_ngtN (c := 1000) rfl hp31 (by omega)))
        refine Gl.go (fun _ hr => zXS_iloadN X0.here hx rfl (hb hby d19_27) rfl (zXS_iloadN X0.here hx rfl (hb hby d19_28) rfl (zXS_iadd X0.here hx rfl (hb hby d19_29) rfl hr))) ?_
        obtain ⟨fs, hr, hrun, hended, hW, hsame⟩ := X0.leave (v := some (.int (3 : Int32))) (fun h => by rw [Bd.returns] at h; cases h)
        refine ⟨_, _, retOut X0 hx Bd.returns rfl (Or.inl ⟨rfl, Or.inl rfl, _, rfl⟩) (hb hby d19_30) hr, hrun, hended, _, _, rfl, ?_, ⟨⟨_, rfl⟩, hW, hsame.mono (by decide) (by decide)⟩⟩
        show Qssz Z po h0 n0 _ s₁.heap _
        rw [e0]
        exact ⟨(by rcases own_five po with ⟨q, e⟩ | ⟨q, e⟩ | ⟨q, e⟩ | ⟨q, e⟩ | ⟨q, e⟩ <;> first | omega | (rw [e]; rfl)), N0, rfl⟩
      · refine Gl.go (fun _ hr => zXS_icmpYes X0.here hx rfl (pc0 := 24) (pc' := 31) rfl (hb hby d19_24) rfl (XT.ii_le_t hc206) (by decide) (by decide) hr) ?_
        have hz1000 : 1000 ≤ po := (by by_cases q : po < 1000; exact absurd (own_gtN (c := 1000) rfl hp31 q) hc206; omega)
        refine Gl.go (fun _ hr => zXS_bipush X0.here hx rfl (hb hby d19_31) (zXS_iloadN X0.here hx rfl (hb hby d19_33) rfl (zXS_imul X0.here hx rfl (hb hby d19_34) rfl (zXS_istoreN X0.here hx rfl (hb hby d19_35) rfl (l' := #[sI (-(Int32.ofNat po)), sI 0, sI (-10000), sI 3]) rfl (zXS_iinc X0.here hx rfl (hb hby d19_36) rfl (l' := #[sI (-(Int32.ofNat po)), sI 0, sI (-10000), sI 4]) rfl (zXS_goto X0.here hx rfl (pc0 := 39) (pc' := 16) rfl (hb hby d19_39) (by decide) (by decide) (zXS_iloadN X0.here hx rfl (hb hby d19_16) rfl (zXS_bipush X0.here hx rfl (hb hby d19_17) (zXS_icmpNo X0.here hx rfl (hb hby d19_19) rfl (XT.ii_ge_f (by decide)) (zXS_iloadN X0.here hx rfl (hb hby d19_22) rfl hr)))))))))) ?_
        refine Gl.go (fun _ hr => zXS_iloadN X0.here hx rfl (hb hby d19_23) rfl hr) ?_
        by_cases hc207 : (-10000 : Int32) < (-(Int32.ofNat po))
        · refine Gl.go (fun _ hr => zXS_icmpNo X0.here hx rfl (hb hby d19_24) rfl (XT.ii_le_f hc207) hr) ?_
          have hz10000 : po < 10000 := (by by_cases q : po < 10000; exact q; exact absurd hc207 (own_ngtN (c := 10000) rfl hp31 (by omega)))
          refine Gl.go (fun _ hr => zXS_iloadN X0.here hx rfl (hb hby d19_27) rfl (zXS_iloadN X0.here hx rfl (hb hby d19_28) rfl (zXS_iadd X0.here hx rfl (hb hby d19_29) rfl hr))) ?_
          obtain ⟨fs, hr, hrun, hended, hW, hsame⟩ := X0.leave (v := some (.int (4 : Int32))) (fun h => by rw [Bd.returns] at h; cases h)
          refine ⟨_, _, retOut X0 hx Bd.returns rfl (Or.inl ⟨rfl, Or.inl rfl, _, rfl⟩) (hb hby d19_30) hr, hrun, hended, _, _, rfl, ?_, ⟨⟨_, rfl⟩, hW, hsame.mono (by decide) (by decide)⟩⟩
          show Qssz Z po h0 n0 _ s₁.heap _
          rw [e0]
          exact ⟨(by rcases own_five po with ⟨q, e⟩ | ⟨q, e⟩ | ⟨q, e⟩ | ⟨q, e⟩ | ⟨q, e⟩ <;> first | omega | (rw [e]; rfl)), N0, rfl⟩
        · refine Gl.go (fun _ hr => zXS_icmpYes X0.here hx rfl (pc0 := 24) (pc' := 31) rfl (hb hby d19_24) rfl (XT.ii_le_t hc207) (by decide) (by decide) hr) ?_
          have hz10000 : 10000 ≤ po := (by by_cases q : po < 10000; exact absurd (own_gtN (c := 10000) rfl hp31 q) hc207; omega)
          refine Gl.go (fun _ hr => zXS_bipush X0.here hx rfl (hb hby d19_31) (zXS_iloadN X0.here hx rfl (hb hby d19_33) rfl (zXS_imul X0.here hx rfl (hb hby d19_34) rfl (zXS_istoreN X0.here hx rfl (hb hby d19_35) rfl (l' := #[sI (-(Int32.ofNat po)), sI 0, sI (-100000), sI 4]) rfl (zXS_iinc X0.here hx rfl (hb hby d19_36) rfl (l' := #[sI (-(Int32.ofNat po)), sI 0, sI (-100000), sI 5]) rfl (zXS_goto X0.here hx rfl (pc0 := 39) (pc' := 16) rfl (hb hby d19_39) (by decide) (by decide) (zXS_iloadN X0.here hx rfl (hb hby d19_16) rfl (zXS_bipush X0.here hx rfl (hb hby d19_17) (zXS_icmpNo X0.here hx rfl (hb hby d19_19) rfl (XT.ii_ge_f (by decide)) (zXS_iloadN X0.here hx rfl (hb hby d19_22) rfl hr)))))))))) ?_
          show Gl p.tables e below _ (s₁.setTop (mkF m 23 #[sI (-(Int32.ofNat po)), sI 0, sI (-100000), sI 5] [(.int (-(Int32.ofNat po)))]))
          refine Gl.go (fun _ hr => zXS_iloadN X0.here hx rfl (hb hby d19_23) rfl hr) ?_
          refine Gl.go (fun _ hr => zXS_icmpNo X0.here hx rfl (hb hby d19_24) rfl (XT.ii_le_f (own_gtN (c := 100000) rfl hp31 (by omega))) (zXS_iloadN X0.here hx rfl (hb hby d19_27) rfl (zXS_iloadN X0.here hx rfl (hb hby d19_28) rfl (zXS_iadd X0.here hx rfl (hb hby d19_29) rfl hr)))) ?_
          obtain ⟨fs, hr, hrun, hended, hW, hsame⟩ := X0.leave (v := some (.int (5 : Int32))) (fun h => by rw [Bd.returns] at h; cases h)
          refine ⟨_, _, retOut X0 hx Bd.returns rfl (Or.inl ⟨rfl, Or.inl rfl, _, rfl⟩) (hb hby d19_30) hr, hrun, hended, _, _, rfl, ?_, ⟨⟨_, rfl⟩, hW, hsame.mono (by decide) (by decide)⟩⟩
          show Qssz Z po h0 n0 _ s₁.heap _
          rw [e0]
          exact ⟨(by rcases own_five po with ⟨q, e⟩ | ⟨q, e⟩ | ⟨q, e⟩ | ⟨q, e⟩ | ⟨q, e⟩ <;> first | omega | (rw [e]; rfl)), N0, rfl⟩
def Qgch (Z : State) (po : Nat) (k : Nat) (a : Addr) (ka : ClassId) (ys : List Value) (d1 : Addr) (d2 : Addr) (k1 : ClassId) (k2 : ClassId) (h0 : Heap) (n0 : Nat) (v : Option Value) (h : Heap) (L : List Loc) : Prop := v = some (.int (Int32.ofNat k)) ∧ Fr n0 L ∧ Keep h0 h [a] ∧ (Arv Z h a ka .byte (16 : Int32) (putD ys k po) (.int 0))
theorem ef_gch (m : MethodId) (x0 : Int32) (x1 : Int32) (x2 : Addr) : entryFrame m #[(.int x0), (.int x1), (.ref x2)] 7 = mkF m 0 #[sI x0, sI x1, sR x2, sU, sU, sU, sU] [] := by first | (simp [entryFrame, mkF, argsToLocals, Value.category]; done) | rfl
theorem d21_0 : decode jdk_33_method_12_code 0 = .ok (.iload_n 1, 1) := by decide +kernel
theorem d21_1 : decode jdk_33_method_12_code 1 = .ok (.istore 5, 2) := by decide +kernel
theorem d21_3 : decode jdk_33_method_12_code 3 = .ok (.iload_n 0, 1) := by decide +kernel
theorem d21_4 : decode jdk_33_method_12_code 4 = .ok (.ifCond .ge 7, 3) := by decide +kernel
theorem d21_11 : decode jdk_33_method_12_code 11 = .ok (.iconst 0, 1) := by decide +kernel
theorem d21_12 : decode jdk_33_method_12_code 12 = .ok (.istore 6, 2) := by decide +kernel
theorem d21_14 : decode jdk_33_method_12_code 14 = .ok (.iload 6, 2) := by decide +kernel
theorem d21_16 : decode jdk_33_method_12_code 16 = .ok (.ifCond .ne 6, 3) := by decide +kernel
theorem d21_19 : decode jdk_33_method_12_code 19 = .ok (.iload_n 0, 1) := by decide +kernel
theorem d21_20 : decode jdk_33_method_12_code 20 = .ok (.ineg, 1) := by decide +kernel
theorem d21_21 : decode jdk_33_method_12_code 21 = .ok (.istore_n 0, 1) := by decide +kernel
theorem d21_22 : decode jdk_33_method_12_code 22 = .ok (.iload_n 0, 1) := by decide +kernel
theorem d21_23 : decode jdk_33_method_12_code 23 = .ok (.bipush (-100), 2) := by decide +kernel
theorem d21_25 : decode jdk_33_method_12_code 25 = .ok (.if_icmp .gt 47, 3) := by decide +kernel
theorem d21_72 : decode jdk_33_method_12_code 72 = .ok (.aload_n 2, 1) := by decide +kernel
theorem d21_73 : decode jdk_33_method_12_code 73 = .ok (.iinc 5 (-1), 3) := by decide +kernel
theorem d21_76 : decode jdk_33_method_12_code 76 = .ok (.iload 5, 2) := by decide +kernel
theorem d21_78 : decode jdk_33_method_12_code 78 = .ok (.getstatic 83, 3) := by decide +kernel
theorem d21_81 : decode jdk_33_method_12_code 81 = .ok (.iload_n 0, 1) := by decide +kernel
theorem d21_82 : decode jdk_33_method_12_code 82 = .ok (.ineg, 1) := by decide +kernel
theorem d21_83 : decode jdk_33_method_12_code 83 = .ok (.baload, 1) := by decide +kernel
theorem d21_84 : decode jdk_33_method_12_code 84 = .ok (.bastore, 1) := by decide +kernel
theorem d21_85 : decode jdk_33_method_12_code 85 = .ok (.iload_n 0, 1) := by decide +kernel
theorem d21_86 : decode jdk_33_method_12_code 86 = .ok (.bipush (-9), 2) := by decide +kernel
theorem d21_88 : decode jdk_33_method_12_code 88 = .ok (.if_icmp .ge 16, 3) := by decide +kernel
theorem d21_104 : decode jdk_33_method_12_code 104 = .ok (.iload 6, 2) := by decide +kernel
theorem d21_106 : decode jdk_33_method_12_code 106 = .ok (.ifCond .eq 12, 3) := by decide +kernel
theorem d21_118 : decode jdk_33_method_12_code 118 = .ok (.iload 5, 2) := by decide +kernel
theorem d21_120 : decode jdk_33_method_12_code 120 = .ok (.ireturn, 1) := by decide +kernel
theorem d21_91 : decode jdk_33_method_12_code 91 = .ok (.aload_n 2, 1) := by decide +kernel
theorem d21_92 : decode jdk_33_method_12_code 92 = .ok (.iinc 5 (-1), 3) := by decide +kernel
theorem d21_95 : decode jdk_33_method_12_code 95 = .ok (.iload 5, 2) := by decide +kernel
theorem d21_97 : decode jdk_33_method_12_code 97 = .ok (.getstatic 87, 3) := by decide +kernel
theorem d21_100 : decode jdk_33_method_12_code 100 = .ok (.iload_n 0, 1) := by decide +kernel
theorem d21_101 : decode jdk_33_method_12_code 101 = .ok (.ineg, 1) := by decide +kernel
theorem d21_102 : decode jdk_33_method_12_code 102 = .ok (.baload, 1) := by decide +kernel
theorem d21_103 : decode jdk_33_method_12_code 103 = .ok (.bastore, 1) := by decide +kernel
theorem d21_28 : decode jdk_33_method_12_code 28 = .ok (.iload_n 0, 1) := by decide +kernel
theorem d21_29 : decode jdk_33_method_12_code 29 = .ok (.bipush 100, 2) := by decide +kernel
theorem d21_31 : decode jdk_33_method_12_code 31 = .ok (.idiv, 1) := by decide +kernel
theorem d21_32 : decode jdk_33_method_12_code 32 = .ok (.istore_n 3, 1) := by decide +kernel
theorem d21_33 : decode jdk_33_method_12_code 33 = .ok (.iload_n 3, 1) := by decide +kernel
theorem d21_34 : decode jdk_33_method_12_code 34 = .ok (.bipush 100, 2) := by decide +kernel
theorem d21_36 : decode jdk_33_method_12_code 36 = .ok (.imul, 1) := by decide +kernel
theorem d21_37 : decode jdk_33_method_12_code 37 = .ok (.iload_n 0, 1) := by decide +kernel
theorem d21_38 : decode jdk_33_method_12_code 38 = .ok (.isub, 1) := by decide +kernel
theorem d21_39 : decode jdk_33_method_12_code 39 = .ok (.istore 4, 2) := by decide +kernel
theorem d21_41 : decode jdk_33_method_12_code 41 = .ok (.iload_n 3, 1) := by decide +kernel
theorem d21_42 : decode jdk_33_method_12_code 42 = .ok (.istore_n 0, 1) := by decide +kernel
theorem d21_43 : decode jdk_33_method_12_code 43 = .ok (.aload_n 2, 1) := by decide +kernel
theorem d21_44 : decode jdk_33_method_12_code 44 = .ok (.iinc 5 (-1), 3) := by decide +kernel
theorem d21_47 : decode jdk_33_method_12_code 47 = .ok (.iload 5, 2) := by decide +kernel
theorem d21_49 : decode jdk_33_method_12_code 49 = .ok (.getstatic 83, 3) := by decide +kernel
theorem d21_52 : decode jdk_33_method_12_code 52 = .ok (.iload 4, 2) := by decide +kernel
theorem d21_54 : decode jdk_33_method_12_code 54 = .ok (.baload, 1) := by decide +kernel
theorem d21_55 : decode jdk_33_method_12_code 55 = .ok (.bastore, 1) := by decide +kernel
theorem d21_56 : decode jdk_33_method_12_code 56 = .ok (.aload_n 2, 1) := by decide +kernel
theorem d21_57 : decode jdk_33_method_12_code 57 = .ok (.iinc 5 (-1), 3) := by decide +kernel
theorem d21_60 : decode jdk_33_method_12_code 60 = .ok (.iload 5, 2) := by decide +kernel
theorem d21_62 : decode jdk_33_method_12_code 62 = .ok (.getstatic 87, 3) := by decide +kernel
theorem d21_65 : decode jdk_33_method_12_code 65 = .ok (.iload 4, 2) := by decide +kernel
theorem d21_67 : decode jdk_33_method_12_code 67 = .ok (.baload, 1) := by decide +kernel
theorem d21_68 : decode jdk_33_method_12_code 68 = .ok (.bastore, 1) := by decide +kernel
theorem d21_69 : decode jdk_33_method_12_code 69 = .ok (.goto (-47), 3) := by decide +kernel
set_option maxRecDepth 65536 in
set_option maxHeartbeats 40000000 in
theorem gch (l : Launch) (Z : State) (a0 : Array Value) (hw : ∀ d ∈ tables_1, d.before a0 Z = true) (ws : List Jvm.Cond) (po : Nat) (k : Nat) (a : Addr) (ka : ClassId) (ys : List Value) (d1 : Addr) (d2 : Addr) (k1 : ClassId) (k2 : ClassId) (h0 : Heap) (n0 : Nat) (Z0 : n0 ≤ h0.size) (q0 : (Old Z Z.heap.size h0 ∧ @LE.le Nat instLENat Z.heap.size n0)) (q1 : Sta Z Z.heap "java/lang/Integer" "DigitOnes" "[B" (.ref d1)) (q2 : Sta Z Z.heap "java/lang/Integer" "DigitTens" "[B" (.ref d2)) (q3 : Arv Z Z.heap d1 k1 .byte (100 : Int32) ones (.int 0)) (q4 : Arv Z Z.heap d2 k2 .byte (100 : Int32) tens (.int 0)) (q5 : Arv Z h0 a ka .byte (16 : Int32) ys (.int 0)) (q6 : @LE.le Nat instLENat n0 a) (hp : po < 65536) (hys : k + 5 ≤ ys.length) (hkd : k + nd po ≤ 16) :
    MetFree l (⟨"java/lang/Integer", "getChars", "(II[B)I"⟩ : MethodName) (head1 (Jvm.Cond.code (⟨"java/lang/Integer", "getChars", "(II[B)I"⟩ : MethodName) jdk_33_method_12_code 7 (some .int) :: ws) ({ frames := 0, cells := 0, slots := 0, locals := 0 } : Room)) (fun a_ U_ => a_ = #[(.int (Int32.ofNat po)), (.int (Int32.ofNat (k + nd po))), (.ref a)] ∧ Z.Warmed39 U_.vm ∧ U_.heap = h0) (fun _ _ _ _ _ => True) (fun _ U_ o_ V_ => ∃ v_ L_, o_ = .returned v_ ∧ Qgch Z po k a ka ys d1 d2 k1 k2 h0 n0 v_ V_.heap L_ ∧ FrameEnd U_ o_ V_ L_ ({ frames := 0, cells := 0, slots := 0, locals := 0 } : Room).cells ({ frames := 0, cells := 0, slots := 0, locals := 0 } : Room).slots) := by
  refine MetFree.of_bodySF (plainFor_of_name pn_4) hisR ?_
  intro p e s m args below meth c s₁ Bd hml0 hP hK
  obtain ⟨rfl, hZ, hh⟩ := hP
  have hx := Bd.exec
  have hby := Bd.bytes
  have hml : c.maxLocals = 7 := hml0
  have hown : s.vm.findClass "java/lang/Integer" = some m.cls := findClass_of_methodNamed Bd.named
  have hnm := (name_of_methodNamed Bd.named Bd.method).1
  have X0 : Stand p l e ({ frames := 0, cells := 0, slots := 0, locals := 0 } : Room) s m #[(.int (Int32.ofNat po)), (.int (Int32.ofNat (k + nd po))), (.ref a)] below meth c s₁ [] 0 0 := Stand.of_body Bd
  have e0 : s₁.heap = h0 := by rw [← hh, Bd.state]; rfl
  have N0 := Fr.nil n0
  have Oo := q0.1
  have zo := q0.2
  have lt208 := own_alt q3.lt
  have lt209 := own_alt q4.lt
  have lt210 := own_alt q5.lt
  have hp31 : po < 2 ^ 31 := by omega
  refine Gl.go (A := s₁.setTop (entryFrame m #[(.int (Int32.ofNat po)), (.int (Int32.ofNat (k + nd po))), (.ref a)] 7)) (P := fun o_ U_ => ∃ v_ L_, o_ = .returned v_ ∧ Qgch Z po k a ka ys d1 d2 k1 k2 h0 n0 v_ U_.heap L_ ∧ FrameEnd s o_ U_ L_ ({ frames := 0, cells := 0, slots := 0, locals := 0 } : Room).cells ({ frames := 0, cells := 0, slots := 0, locals := 0 } : Room).slots) (fun t_ k_ => castTop (ef_gch m (Int32.ofNat po) (Int32.ofNat (k + nd po)) a) k_) ?_
  show Gl p.tables e below _ (s₁.setTop (mkF m 0 #[sI (Int32.ofNat po), sI (Int32.ofNat (k + nd po)), sR a, sU, sU, sU, sU] []))
  rcases own_five po with ⟨hb1, hnd⟩ | ⟨hb1, hnd⟩ | ⟨hb1, hnd⟩ | ⟨hb1, hnd⟩ | ⟨hb1, hnd⟩
  · rw [hnd] at hkd
    rw [hnd]
    show Gl p.tables e below _ (s₁.setTop (mkF m 0 #[sI (Int32.ofNat po), sI (Int32.ofNat (k + 1)), sR a, sU, sU, sU, sU] []))
    refine Gl.go (fun _ hr => zXS_iloadN X0.here hx rfl (hb hby d21_0) rfl (zXS_istore X0.here hx rfl (hb hby d21_1) rfl (l' := #[sI (Int32.ofNat po), sI (Int32.ofNat (k + 1)), sR a, sU, sU, sI (Int32.ofNat (k + 1)), sU]) rfl (zXS_iloadN X0.here hx rfl (hb hby d21_3) rfl hr))) ?_
    refine Gl.go (fun _ hr => zXS_ifYes X0.here hx rfl (pc0 := 4) (pc' := 11) rfl (hb hby d21_4) rfl (XT.i0_ge_t (own_nn hp31)) (by decide) (by decide) (zXS_iconst X0.here hx rfl (hb hby d21_11) (zXS_istore X0.here hx rfl (hb hby d21_12) rfl (l' := #[sI (Int32.ofNat po), sI (Int32.ofNat (k + 1)), sR a, sU, sU, sI (Int32.ofNat (k + 1)), sI 0]) rfl (zXS_iload X0.here hx rfl (hb hby d21_14) rfl (zXS_ifNo X0.here hx rfl (hb hby d21_16) rfl (XT.i0_ne_f (by decide)) (zXS_iloadN X0.here hx rfl (hb hby d21_19) rfl (zXS_ineg X0.here hx rfl (hb hby d21_20) rfl (zXS_istoreN X0.here hx rfl (hb hby d21_21) rfl (l' := #[sI (-(Int32.ofNat po)), sI (Int32.ofNat (k + 1)), sR a, sU, sU, sI (Int32.ofNat (k + 1)), sI 0]) rfl (zXS_iloadN X0.here hx rfl (hb hby d21_22) rfl (zXS_bipush X0.here hx rfl (hb hby d21_23) hr)))))))))) ?_
    refine Gl.go (fun _ hr => zXS_icmpYes X0.here hx rfl (pc0 := 25) (pc' := 72) rfl (hb hby d21_25) rfl (XT.ii_gt_t (own_gtN (c := 100) rfl (by omega) (by omega))) (by decide) (by decide) (zXS_aloadN X0.here hx rfl (hb hby d21_72) rfl rfl (zXS_iinc X0.here hx rfl (hb hby d21_73) rfl (l' := #[sI (-(Int32.ofNat po)), sI (Int32.ofNat (k + 1)), sR a, sU, sU, sI ((Int32.ofNat (k + 1)) + (-1 : Int32)), sI 0]) rfl hr))) ?_
    show Gl p.tables e below _ (s₁.setTop (mkF m 76 #[sI (-(Int32.ofNat po)), sI (Int32.ofNat (k + 1)), sR a, sU, sU, sI ((Int32.ofNat (k + 1)) + (-1 : Int32)), sI 0] [(.ref a)]))
    rw [(show Int32.ofNat (k + 1) + (-1 : Int32) = Int32.ofNat k from own_dec k)]
    show Gl p.tables e below _ (s₁.setTop (mkF m 76 #[sI (-(Int32.ofNat po)), sI (Int32.ofNat (k + 1)), sR a, sU, sU, sI (Int32.ofNat k), sI 0] [(.ref a)]))
    refine Gl.go (fun _ hr => zXS_iload X0.here hx rfl (hb hby d21_76) rfl hr) ?_
    refine gGetS (host := "") Gl.cl X0 hx hZ hown (Or.inl (tw hw 133 rfl)) Via.refl e0 (q1.ext Oo.2) rfl (hb hby d21_78) ?_
    intro T211 X211 e211
    refine Gl.go (fun _ hr => zXS_iloadN X211.here hx rfl (hb hby d21_81) rfl (zXS_ineg X211.here hx rfl (hb hby d21_82) rfl hr)) ?_
    show Gl p.tables e below _ (T211.setTop (mkF m 83 #[sI (-(Int32.ofNat po)), sI (Int32.ofNat (k + 1)), sR a, sU, sU, sI (Int32.ofNat k), sI 0] [(.int (-(-(Int32.ofNat po)))), (.ref d1), (.int (Int32.ofNat k)), (.ref a)]))
    rw [Int32.neg_neg]
    show Gl p.tables e below _ (T211.setTop (mkF m 83 #[sI (-(Int32.ofNat po)), sI (Int32.ofNat (k + 1)), sR a, sU, sU, sI (Int32.ofNat k), sI 0] [(.int (Int32.ofNat po)), (.ref d1), (.int (Int32.ofNat k)), (.ref a)]))
    obtain ⟨c212, a212, q212, s212, m212, H212, U212⟩ := id (q3.ext Oo.2)
    have i212 := inb_of s212 (j := (Int32.ofNat po)) ⟨own_nn (by omega), own_lt32 (b := 100) (by omega) (by omega)⟩
    refine g_baload Gl.cl X211 hx hZ e211 a212 i212 (v := (.int (dch po))) (H212.at i212 (own_on (x := po) (by omega) (by omega))) rfl rfl (hb hby d21_83) ?_
    obtain ⟨c213, a213, q213, s213, m213, H213, U213⟩ := id q5
    refine gstB Gl.cl X211 hx hZ e211 a213 (j := (Int32.ofNat k)) (inb_of s213 ⟨own_nn (by omega), own_lt32 (b := 16) (by omega) (by omega)⟩) rfl rfl (hb hby d21_84) ?_
    intro T213 h213 X213 e213 W213
    have z214 : h0.size ≤ h213.size := (Keep.of_wr W213).1
    rw [(dch_nar _)] at W213
    have V213 : Arv Z h213 a ka .byte (16 : Int32) (ys.set k (.int (dch po))) (.int 0) := Arv.set a213 q213 s213 m213 H213 U213 (dch_fit _) W213 k (own_nat32 (by omega)) (by (try simp only [List.length_set]); omega)
    have om215 : @LE.le Nat instLENat n0 a := by omega
    have N213 := Fr.snoc X213 N0 (own_ale om215)
    refine Gl.go (fun _ hr => zXS_iloadN X213.here hx rfl (hb hby d21_85) rfl (zXS_bipush X213.here hx rfl (hb hby d21_86) hr)) ?_
    refine Gl.go (fun _ hr => zXS_icmpYes X213.here hx rfl (pc0 := 88) (pc' := 104) rfl (hb hby d21_88) rfl (XT.ii_ge_t (own_nltN9 (by omega) (by omega))) (by decide) (by decide) (zXS_iload X213.here hx rfl (hb hby d21_104) rfl (zXS_ifYes X213.here hx rfl (pc0 := 106) (pc' := 118) rfl (hb hby d21_106) rfl (XT.i0_eq_t (by decide)) (by decide) (by decide) (zXS_iload X213.here hx rfl (hb hby d21_118) rfl hr)))) ?_
    obtain ⟨fs, hr, hrun, hended, hW, hsame⟩ := X213.leave (v := some (.int (Int32.ofNat k))) (fun h => by rw [Bd.returns] at h; cases h)
    refine ⟨_, _, retOut X213 hx Bd.returns rfl (Or.inl ⟨rfl, Or.inl rfl, _, rfl⟩) (hb hby d21_120) hr, hrun, hended, _, _, rfl, ?_, ⟨⟨_, rfl⟩, hW, hsame.mono (by decide) (by decide)⟩⟩
    show Qgch Z po k a ka ys d1 d2 k1 k2 h0 n0 _ T213.heap _
    rw [e213]
    exact ⟨rfl, N213, ((Keep.refl h0 [a]).wr W213 (Or.inl (by simp))), (by rw [putD, if_pos (by omega)]; exact V213)⟩
  · rw [hnd] at hkd
    rw [hnd]
    show Gl p.tables e below _ (s₁.setTop (mkF m 0 #[sI (Int32.ofNat po), sI (Int32.ofNat (k + 2)), sR a, sU, sU, sU, sU] []))
    refine Gl.go (fun _ hr => zXS_iloadN X0.here hx rfl (hb hby d21_0) rfl (zXS_istore X0.here hx rfl (hb hby d21_1) rfl (l' := #[sI (Int32.ofNat po), sI (Int32.ofNat (k + 2)), sR a, sU, sU, sI (Int32.ofNat (k + 2)), sU]) rfl (zXS_iloadN X0.here hx rfl (hb hby d21_3) rfl hr))) ?_
    refine Gl.go (fun _ hr => zXS_ifYes X0.here hx rfl (pc0 := 4) (pc' := 11) rfl (hb hby d21_4) rfl (XT.i0_ge_t (own_nn hp31)) (by decide) (by decide) (zXS_iconst X0.here hx rfl (hb hby d21_11) (zXS_istore X0.here hx rfl (hb hby d21_12) rfl (l' := #[sI (Int32.ofNat po), sI (Int32.ofNat (k + 2)), sR a, sU, sU, sI (Int32.ofNat (k + 2)), sI 0]) rfl (zXS_iload X0.here hx rfl (hb hby d21_14) rfl (zXS_ifNo X0.here hx rfl (hb hby d21_16) rfl (XT.i0_ne_f (by decide)) (zXS_iloadN X0.here hx rfl (hb hby d21_19) rfl (zXS_ineg X0.here hx rfl (hb hby d21_20) rfl (zXS_istoreN X0.here hx rfl (hb hby d21_21) rfl (l' := #[sI (-(Int32.ofNat po)), sI (Int32.ofNat (k + 2)), sR a, sU, sU, sI (Int32.ofNat (k + 2)), sI 0]) rfl (zXS_iloadN X0.here hx rfl (hb hby d21_22) rfl (zXS_bipush X0.here hx rfl (hb hby d21_23) hr)))))))))) ?_
    refine Gl.go (fun _ hr => zXS_icmpYes X0.here hx rfl (pc0 := 25) (pc' := 72) rfl (hb hby d21_25) rfl (XT.ii_gt_t (own_gtN (c := 100) rfl (by omega) (by omega))) (by decide) (by decide) (zXS_aloadN X0.here hx rfl (hb hby d21_72) rfl rfl (zXS_iinc X0.here hx rfl (hb hby d21_73) rfl (l' := #[sI (-(Int32.ofNat po)), sI (Int32.ofNat (k + 2)), sR a, sU, sU, sI ((Int32.ofNat (k + 2)) + (-1 : Int32)), sI 0]) rfl hr))) ?_
    show Gl p.tables e below _ (s₁.setTop (mkF m 76 #[sI (-(Int32.ofNat po)), sI (Int32.ofNat (k + 2)), sR a, sU, sU, sI ((Int32.ofNat (k + 2)) + (-1 : Int32)), sI 0] [(.ref a)]))
    rw [(show Int32.ofNat (k + 2) + (-1 : Int32) = Int32.ofNat (k + 1) from own_dec (k + 1))]
    show Gl p.tables e below _ (s₁.setTop (mkF m 76 #[sI (-(Int32.ofNat po)), sI (Int32.ofNat (k + 2)), sR a, sU, sU, sI (Int32.ofNat (k + 1)), sI 0] [(.ref a)]))
    refine Gl.go (fun _ hr => zXS_iload X0.here hx rfl (hb hby d21_76) rfl hr) ?_
    refine gGetS (host := "") Gl.cl X0 hx hZ hown (Or.inl (tw hw 133 rfl)) Via.refl e0 (q1.ext Oo.2) rfl (hb hby d21_78) ?_
    intro T216 X216 e216
    refine Gl.go (fun _ hr => zXS_iloadN X216.here hx rfl (hb hby d21_81) rfl (zXS_ineg X216.here hx rfl (hb hby d21_82) rfl hr)) ?_
    show Gl p.tables e below _ (T216.setTop (mkF m 83 #[sI (-(Int32.ofNat po)), sI (Int32.ofNat (k + 2)), sR a, sU, sU, sI (Int32.ofNat (k + 1)), sI 0] [(.int (-(-(Int32.ofNat po)))), (.ref d1), (.int (Int32.ofNat (k + 1))), (.ref a)]))
    rw [Int32.neg_neg]
    show Gl p.tables e below _ (T216.setTop (mkF m 83 #[sI (-(Int32.ofNat po)), sI (Int32.ofNat (k + 2)), sR a, sU, sU, sI (Int32.ofNat (k + 1)), sI 0] [(.int (Int32.ofNat po)), (.ref d1), (.int (Int32.ofNat (k + 1))), (.ref a)]))
    obtain ⟨c217, a217, q217, s217, m217, H217, U217⟩ := id (q3.ext Oo.2)
    have i217 := inb_of s217 (j := (Int32.ofNat po)) ⟨own_nn (by omega), own_lt32 (b := 100) (by omega) (by omega)⟩
    refine g_baload Gl.cl X216 hx hZ e216 a217 i217 (v := (.int (dch po))) (H217.at i217 (own_on (x := po) (by omega) (by omega))) rfl rfl (hb hby d21_83) ?_
    obtain ⟨c218, a218, q218, s218, m218, H218, U218⟩ := id q5
    refine gstB Gl.cl X216 hx hZ e216 a218 (j := (Int32.ofNat (k + 1))) (inb_of s218 ⟨own_nn (by omega), own_lt32 (b := 16) (by omega) (by omega)⟩) rfl rfl (hb hby d21_84) ?_
    intro T218 h218 X218 e218 W218
    have z219 : h0.size ≤ h218.size := (Keep.of_wr W218).1
    rw [(dch_nar _)] at W218
    have V218 : Arv Z h218 a ka .byte (16 : Int32) (ys.set (k + 1) (.int (dch po))) (.int 0) := Arv.set a218 q218 s218 m218 H218 U218 (dch_fit _) W218 (k + 1) (own_nat32 (by omega)) (by (try simp only [List.length_set]); omega)
    have om220 : @LE.le Nat instLENat n0 a := by omega
    have N218 := Fr.snoc X218 N0 (own_ale om220)
    refine Gl.go (fun _ hr => zXS_iloadN X218.here hx rfl (hb hby d21_85) rfl (zXS_bipush X218.here hx rfl (hb hby d21_86) hr)) ?_
    refine Gl.go (fun _ hr => zXS_icmpNo X218.here hx rfl (hb hby d21_88) rfl (XT.ii_ge_f (own_ltN9 (by omega) (by omega))) (zXS_aloadN X218.here hx rfl (hb hby d21_91) rfl rfl (zXS_iinc X218.here hx rfl (hb hby d21_92) rfl (l' := #[sI (-(Int32.ofNat po)), sI (Int32.ofNat (k + 2)), sR a, sU, sU, sI ((Int32.ofNat (k + 1)) + (-1 : Int32)), sI 0]) rfl hr))) ?_
    show Gl p.tables e below _ (T218.setTop (mkF m 95 #[sI (-(Int32.ofNat po)), sI (Int32.ofNat (k + 2)), sR a, sU, sU, sI ((Int32.ofNat (k + 1)) + (-1 : Int32)), sI 0] [(.ref a)]))
    rw [(show Int32.ofNat (k + 1) + (-1 : Int32) = Int32.ofNat k from own_dec k)]
    show Gl p.tables e below _ (T218.setTop (mkF m 95 #[sI (-(Int32.ofNat po)), sI (Int32.ofNat (k + 2)), sR a, sU, sU, sI (Int32.ofNat k), sI 0] [(.ref a)]))
    refine Gl.go (fun _ hr => zXS_iload X218.here hx rfl (hb hby d21_95) rfl hr) ?_
    have om222 : @LE.le Nat instLENat Z.heap.size a := by omega
    have Oc223 := (Oo.wr W218 (own_ale om222))
    refine gGetS (host := "") Gl.cl X218 hx hZ hown (Or.inl (tw hw 213 rfl)) Via.refl e218 (q2.ext Oc223.2) rfl (hb hby d21_97) ?_
    intro T221 X221 e221
    refine Gl.go (fun _ hr => zXS_iloadN X221.here hx rfl (hb hby d21_100) rfl (zXS_ineg X221.here hx rfl (hb hby d21_101) rfl hr)) ?_
    show Gl p.tables e below _ (T221.setTop (mkF m 102 #[sI (-(Int32.ofNat po)), sI (Int32.ofNat (k + 2)), sR a, sU, sU, sI (Int32.ofNat k), sI 0] [(.int (-(-(Int32.ofNat po)))), (.ref d2), (.int (Int32.ofNat k)), (.ref a)]))
    rw [Int32.neg_neg]
    show Gl p.tables e below _ (T221.setTop (mkF m 102 #[sI (-(Int32.ofNat po)), sI (Int32.ofNat (k + 2)), sR a, sU, sU, sI (Int32.ofNat k), sI 0] [(.int (Int32.ofNat po)), (.ref d2), (.int (Int32.ofNat k)), (.ref a)]))
    obtain ⟨c224, a224, q224, s224, m224, H224, U224⟩ := id (q4.ext Oc223.2)
    have i224 := inb_of s224 (j := (Int32.ofNat po)) ⟨own_nn (by omega), own_lt32 (b := 100) (by omega) (by omega)⟩
    refine g_baload Gl.cl X221 hx hZ e221 a224 i224 (v := (.int (dch (po / 10)))) (H224.at i224 (own_te (x := (po / 10)) (by omega) (by omega))) rfl rfl (hb hby d21_102) ?_
    obtain ⟨c225, a225, q225, s225, m225, H225, U225⟩ := id V218
    refine gstB Gl.cl X221 hx hZ e221 a225 (j := (Int32.ofNat k)) (inb_of s225 ⟨own_nn (by omega), own_lt32 (b := 16) (by omega) (by omega)⟩) rfl rfl (hb hby d21_103) ?_
    intro T225 h225 X225 e225 W225
    have z226 : h218.size ≤ h225.size := (Keep.of_wr W225).1
    rw [(dch_nar _)] at W225
    have V225 : Arv Z h225 a ka .byte (16 : Int32) ((ys.set (k + 1) (.int (dch po))).set k (.int (dch (po / 10)))) (.int 0) := Arv.set a225 q225 s225 m225 H225 U225 (dch_fit _) W225 k (own_nat32 (by omega)) (by (try simp only [List.length_set]); omega)
    have N225 := Fr.snoc X225 N218 (own_ale om220)
    refine Gl.go (fun _ hr => zXS_iload X225.here hx rfl (hb hby d21_104) rfl (zXS_ifYes X225.here hx rfl (pc0 := 106) (pc' := 118) rfl (hb hby d21_106) rfl (XT.i0_eq_t (by decide)) (by decide) (by decide) (zXS_iload X225.here hx rfl (hb hby d21_118) rfl hr))) ?_
    obtain ⟨fs, hr, hrun, hended, hW, hsame⟩ := X225.leave (v := some (.int (Int32.ofNat k))) (fun h => by rw [Bd.returns] at h; cases h)
    refine ⟨_, _, retOut X225 hx Bd.returns rfl (Or.inl ⟨rfl, Or.inl rfl, _, rfl⟩) (hb hby d21_120) hr, hrun, hended, _, _, rfl, ?_, ⟨⟨_, rfl⟩, hW, hsame.mono (by decide) (by decide)⟩⟩
    show Qgch Z po k a ka ys d1 d2 k1 k2 h0 n0 _ T225.heap _
    rw [e225]
    exact ⟨rfl, N225, (((Keep.refl h0 [a]).wr W218 (Or.inl (by simp))).wr W225 (Or.inl (by simp))), (by rw [putD, if_neg (by omega), if_pos (by omega)]; exact V225)⟩
  · rw [hnd] at hkd
    rw [hnd]
    show Gl p.tables e below _ (s₁.setTop (mkF m 0 #[sI (Int32.ofNat po), sI (Int32.ofNat (k + 3)), sR a, sU, sU, sU, sU] []))
    refine Gl.go (fun _ hr => zXS_iloadN X0.here hx rfl (hb hby d21_0) rfl (zXS_istore X0.here hx rfl (hb hby d21_1) rfl (l' := #[sI (Int32.ofNat po), sI (Int32.ofNat (k + 3)), sR a, sU, sU, sI (Int32.ofNat (k + 3)), sU]) rfl (zXS_iloadN X0.here hx rfl (hb hby d21_3) rfl hr))) ?_
    refine Gl.go (fun _ hr => zXS_ifYes X0.here hx rfl (pc0 := 4) (pc' := 11) rfl (hb hby d21_4) rfl (XT.i0_ge_t (own_nn hp31)) (by decide) (by decide) (zXS_iconst X0.here hx rfl (hb hby d21_11) (zXS_istore X0.here hx rfl (hb hby d21_12) rfl (l' := #[sI (Int32.ofNat po), sI (Int32.ofNat (k + 3)), sR a, sU, sU, sI (Int32.ofNat (k + 3)), sI 0]) rfl (zXS_iload X0.here hx rfl (hb hby d21_14) rfl (zXS_ifNo X0.here hx rfl (hb hby d21_16) rfl (XT.i0_ne_f (by decide)) (zXS_iloadN X0.here hx rfl (hb hby d21_19) rfl (zXS_ineg X0.here hx rfl (hb hby d21_20) rfl (zXS_istoreN X0.here hx rfl (hb hby d21_21) rfl (l' := #[sI (-(Int32.ofNat po)), sI (Int32.ofNat (k + 3)), sR a, sU, sU, sI (Int32.ofNat (k + 3)), sI 0]) rfl (zXS_iloadN X0.here hx rfl (hb hby d21_22) rfl (zXS_bipush X0.here hx rfl (hb hby d21_23) hr)))))))))) ?_
    refine Gl.go (fun _ hr => zXS_icmpNo X0.here hx rfl (hb hby d21_25) rfl (XT.ii_gt_f (own_ngtN (c := 100) rfl (by omega) (by omega))) (zXS_iloadN X0.here hx rfl (hb hby d21_28) rfl (zXS_bipush X0.here hx rfl (hb hby d21_29) (zXS_idiv X0.here hx rfl (hb hby d21_31) rfl (by decide) hr)))) ?_
    show Gl p.tables e below _ (s₁.setTop (mkF m 32 #[sI (-(Int32.ofNat po)), sI (Int32.ofNat (k + 3)), sR a, sU, sU, sI (Int32.ofNat (k + 3)), sI 0] [(.int ((-(Int32.ofNat po)) / (100 : Int32)))]))
    rw [(own_div100 (m := po) (by omega))]
    show Gl p.tables e below _ (s₁.setTop (mkF m 32 #[sI (-(Int32.ofNat po)), sI (Int32.ofNat (k + 3)), sR a, sU, sU, sI (Int32.ofNat (k + 3)), sI 0] [(.int (-(Int32.ofNat (po / 100))))]))
    refine Gl.go (fun _ hr => zXS_istoreN X0.here hx rfl (hb hby d21_32) rfl (l' := #[sI (-(Int32.ofNat po)), sI (Int32.ofNat (k + 3)), sR a, sI (-(Int32.ofNat (po / 100))), sU, sI (Int32.ofNat (k + 3)), sI 0]) rfl (zXS_iloadN X0.here hx rfl (hb hby d21_33) rfl (zXS_bipush X0.here hx rfl (hb hby d21_34) (zXS_imul X0.here hx rfl (hb hby d21_36) rfl (zXS_iloadN X0.here hx rfl (hb hby d21_37) rfl (zXS_isub X0.here hx rfl (hb hby d21_38) rfl hr)))))) ?_
    show Gl p.tables e below _ (s₁.setTop (mkF m 39 #[sI (-(Int32.ofNat po)), sI (Int32.ofNat (k + 3)), sR a, sI (-(Int32.ofNat (po / 100))), sU, sI (Int32.ofNat (k + 3)), sI 0] [(.int (((-(Int32.ofNat (po / 100))) * (100 : Int32)) - (-(Int32.ofNat po))))]))
    rw [(own_mod100 (m := po) (by omega))]
    show Gl p.tables e below _ (s₁.setTop (mkF m 39 #[sI (-(Int32.ofNat po)), sI (Int32.ofNat (k + 3)), sR a, sI (-(Int32.ofNat (po / 100))), sU, sI (Int32.ofNat (k + 3)), sI 0] [(.int (Int32.ofNat (po % 100)))]))
    refine Gl.go (fun _ hr => zXS_istore X0.here hx rfl (hb hby d21_39) rfl (l' := #[sI (-(Int32.ofNat po)), sI (Int32.ofNat (k + 3)), sR a, sI (-(Int32.ofNat (po / 100))), sI (Int32.ofNat (po % 100)), sI (Int32.ofNat (k + 3)), sI 0]) rfl (zXS_iloadN X0.here hx rfl (hb hby d21_41) rfl (zXS_istoreN X0.here hx rfl (hb hby d21_42) rfl (l' := #[sI (-(Int32.ofNat (po / 100))), sI (Int32.ofNat (k + 3)), sR a, sI (-(Int32.ofNat (po / 100))), sI (Int32.ofNat (po % 100)), sI (Int32.ofNat (k + 3)), sI 0]) rfl (zXS_aloadN X0.here hx rfl (hb hby d21_43) rfl rfl (zXS_iinc X0.here hx rfl (hb hby d21_44) rfl (l' := #[sI (-(Int32.ofNat (po / 100))), sI (Int32.ofNat (k + 3)), sR a, sI (-(Int32.ofNat (po / 100))), sI (Int32.ofNat (po % 100)), sI ((Int32.ofNat (k + 3)) + (-1 : Int32)), sI 0]) rfl hr))))) ?_
    show Gl p.tables e below _ (s₁.setTop (mkF m 47 #[sI (-(Int32.ofNat (po / 100))), sI (Int32.ofNat (k + 3)), sR a, sI (-(Int32.ofNat (po / 100))), sI (Int32.ofNat (po % 100)), sI ((Int32.ofNat (k + 3)) + (-1 : Int32)), sI 0] [(.ref a)]))
    rw [(show Int32.ofNat (k + 3) + (-1 : Int32) = Int32.ofNat (k + 2) from own_dec (k + 2))]
    show Gl p.tables e below _ (s₁.setTop (mkF m 47 #[sI (-(Int32.ofNat (po / 100))), sI (Int32.ofNat (k + 3)), sR a, sI (-(Int32.ofNat (po / 100))), sI (Int32.ofNat (po % 100)), sI (Int32.ofNat (k + 2)), sI 0] [(.ref a)]))
    refine Gl.go (fun _ hr => zXS_iload X0.here hx rfl (hb hby d21_47) rfl hr) ?_
    refine gGetS (host := "") Gl.cl X0 hx hZ hown (Or.inl (tw hw 133 rfl)) Via.refl e0 (q1.ext Oo.2) rfl (hb hby d21_49) ?_
    intro T227 X227 e227
    refine Gl.go (fun _ hr => zXS_iload X227.here hx rfl (hb hby d21_52) rfl hr) ?_
    obtain ⟨c228, a228, q228, s228, m228, H228, U228⟩ := id (q3.ext Oo.2)
    have i228 := inb_of s228 (j := (Int32.ofNat (po % 100))) ⟨own_nn (by omega), own_lt32 (b := 100) (by omega) (by omega)⟩
    refine g_baload Gl.cl X227 hx hZ e227 a228 i228 (v := (.int (dch po))) (H228.at i228 (own_on (x := po) (by omega) (by omega))) rfl rfl (hb hby d21_54) ?_
    obtain ⟨c229, a229, q229, s229, m229, H229, U229⟩ := id q5
    refine gstB Gl.cl X227 hx hZ e227 a229 (j := (Int32.ofNat (k + 2))) (inb_of s229 ⟨own_nn (by omega), own_lt32 (b := 16) (by omega) (by omega)⟩) rfl rfl (hb hby d21_55) ?_
    intro T229 h229 X229 e229 W229
    have z230 : h0.size ≤ h229.size := (Keep.of_wr W229).1
    rw [(dch_nar _)] at W229
    have V229 : Arv Z h229 a ka .byte (16 : Int32) (ys.set (k + 2) (.int (dch po))) (.int 0) := Arv.set a229 q229 s229 m229 H229 U229 (dch_fit _) W229 (k + 2) (own_nat32 (by omega)) (by (try simp only [List.length_set]); omega)
    have om231 : @LE.le Nat instLENat n0 a := by omega
    have N229 := Fr.snoc X229 N0 (own_ale om231)
    refine Gl.go (fun _ hr => zXS_aloadN X229.here hx rfl (hb hby d21_56) rfl rfl (zXS_iinc X229.here hx rfl (hb hby d21_57) rfl (l' := #[sI (-(Int32.ofNat (po / 100))), sI (Int32.ofNat (k + 3)), sR a, sI (-(Int32.ofNat (po / 100))), sI (Int32.ofNat (po % 100)), sI ((Int32.ofNat (k + 2)) + (-1 : Int32)), sI 0]) rfl hr)) ?_
    show Gl p.tables e below _ (T229.setTop (mkF m 60 #[sI (-(Int32.ofNat (po / 100))), sI (Int32.ofNat (k + 3)), sR a, sI (-(Int32.ofNat (po / 100))), sI (Int32.ofNat (po % 100)), sI ((Int32.ofNat (k + 2)) + (-1 : Int32)), sI 0] [(.ref a)]))
    rw [(show Int32.ofNat (k + 2) + (-1 : Int32) = Int32.ofNat (k + 1) from own_dec (k + 1))]
    show Gl p.tables e below _ (T229.setTop (mkF m 60 #[sI (-(Int32.ofNat (po / 100))), sI (Int32.ofNat (k + 3)), sR a, sI (-(Int32.ofNat (po / 100))), sI (Int32.ofNat (po % 100)), sI (Int32.ofNat (k + 1)), sI 0] [(.ref a)]))
    refine Gl.go (fun _ hr => zXS_iload X229.here hx rfl (hb hby d21_60) rfl hr) ?_
    have om233 : @LE.le Nat instLENat Z.heap.size a := by omega
    have Oc234 := (Oo.wr W229 (own_ale om233))
    refine gGetS (host := "") Gl.cl X229 hx hZ hown (Or.inl (tw hw 213 rfl)) Via.refl e229 (q2.ext Oc234.2) rfl (hb hby d21_62) ?_
    intro T232 X232 e232
    refine Gl.go (fun _ hr => zXS_iload X232.here hx rfl (hb hby d21_65) rfl hr) ?_
    obtain ⟨c235, a235, q235, s235, m235, H235, U235⟩ := id (q4.ext Oc234.2)
    have i235 := inb_of s235 (j := (Int32.ofNat (po % 100))) ⟨own_nn (by omega), own_lt32 (b := 100) (by omega) (by omega)⟩
    refine g_baload Gl.cl X232 hx hZ e232 a235 i235 (v := (.int (dch (po / 10)))) (H235.at i235 (own_te (x := (po / 10)) (by omega) (by omega))) rfl rfl (hb hby d21_67) ?_
    obtain ⟨c236, a236, q236, s236, m236, H236, U236⟩ := id V229
    refine gstB Gl.cl X232 hx hZ e232 a236 (j := (Int32.ofNat (k + 1))) (inb_of s236 ⟨own_nn (by omega), own_lt32 (b := 16) (by omega) (by omega)⟩) rfl rfl (hb hby d21_68) ?_
    intro T236 h236 X236 e236 W236
    have z237 : h229.size ≤ h236.size := (Keep.of_wr W236).1
    rw [(dch_nar _)] at W236
    have V236 : Arv Z h236 a ka .byte (16 : Int32) ((ys.set (k + 2) (.int (dch po))).set (k + 1) (.int (dch (po / 10)))) (.int 0) := Arv.set a236 q236 s236 m236 H236 U236 (dch_fit _) W236 (k + 1) (own_nat32 (by omega)) (by (try simp only [List.length_set]); omega)
    have N236 := Fr.snoc X236 N229 (own_ale om231)
    refine Gl.go (fun _ hr => zXS_goto X236.here hx rfl (pc0 := 69) (pc' := 22) rfl (hb hby d21_69) (by decide) (by decide) (zXS_iloadN X236.here hx rfl (hb hby d21_22) rfl (zXS_bipush X236.here hx rfl (hb hby d21_23) hr))) ?_
    refine Gl.go (fun _ hr => zXS_icmpYes X236.here hx rfl (pc0 := 25) (pc' := 72) rfl (hb hby d21_25) rfl (XT.ii_gt_t (own_gtN (c := 100) rfl (by omega) (by omega))) (by decide) (by decide) (zXS_aloadN X236.here hx rfl (hb hby d21_72) rfl rfl (zXS_iinc X236.here hx rfl (hb hby d21_73) rfl (l' := #[sI (-(Int32.ofNat (po / 100))), sI (Int32.ofNat (k + 3)), sR a, sI (-(Int32.ofNat (po / 100))), sI (Int32.ofNat (po % 100)), sI ((Int32.ofNat (k + 1)) + (-1 : Int32)), sI 0]) rfl hr))) ?_
    show Gl p.tables e below _ (T236.setTop (mkF m 76 #[sI (-(Int32.ofNat (po / 100))), sI (Int32.ofNat (k + 3)), sR a, sI (-(Int32.ofNat (po / 100))), sI (Int32.ofNat (po % 100)), sI ((Int32.ofNat (k + 1)) + (-1 : Int32)), sI 0] [(.ref a)]))
    rw [(show Int32.ofNat (k + 1) + (-1 : Int32) = Int32.ofNat k from own_dec k)]
    show Gl p.tables e below _ (T236.setTop (mkF m 76 #[sI (-(Int32.ofNat (po / 100))), sI (Int32.ofNat (k + 3)), sR a, sI (-(Int32.ofNat (po / 100))), sI (Int32.ofNat (po % 100)), sI (Int32.ofNat k), sI 0] [(.ref a)]))
    refine Gl.go (fun _ hr => zXS_iload X236.here hx rfl (hb hby d21_76) rfl hr) ?_
    have Oc239 := (Oc234.wr W236 (own_ale om233))
    refine gGetS (host := "") Gl.cl X236 hx hZ hown (Or.inl (tw hw 133 rfl)) Via.refl e236 (q1.ext Oc239.2) rfl (hb hby d21_78) ?_
    intro T238 X238 e238
    refine Gl.go (fun _ hr => zXS_iloadN X238.here hx rfl (hb hby d21_81) rfl (zXS_ineg X238.here hx rfl (hb hby d21_82) rfl hr)) ?_
    show Gl p.tables e below _ (T238.setTop (mkF m 83 #[sI (-(Int32.ofNat (po / 100))), sI (Int32.ofNat (k + 3)), sR a, sI (-(Int32.ofNat (po / 100))), sI (Int32.ofNat (po % 100)), sI (Int32.ofNat k), sI 0] [(.int (-(-(Int32.ofNat (po / 100))))), (.ref d1), (.int (Int32.ofNat k)), (.ref a)]))
    rw [Int32.neg_neg]
    show Gl p.tables e below _ (T238.setTop (mkF m 83 #[sI (-(Int32.ofNat (po / 100))), sI (Int32.ofNat (k + 3)), sR a, sI (-(Int32.ofNat (po / 100))), sI (Int32.ofNat (po % 100)), sI (Int32.ofNat k), sI 0] [(.int (Int32.ofNat (po / 100))), (.ref d1), (.int (Int32.ofNat k)), (.ref a)]))
    obtain ⟨c240, a240, q240, s240, m240, H240, U240⟩ := id (q3.ext Oc239.2)
    have i240 := inb_of s240 (j := (Int32.ofNat (po / 100))) ⟨own_nn (by omega), own_lt32 (b := 100) (by omega) (by omega)⟩
    refine g_baload Gl.cl X238 hx hZ e238 a240 i240 (v := (.int (dch (po / 100)))) (H240.at i240 (own_on (x := (po / 100)) (by omega) (by omega))) rfl rfl (hb hby d21_83) ?_
    obtain ⟨c241, a241, q241, s241, m241, H241, U241⟩ := id V236
    refine gstB Gl.cl X238 hx hZ e238 a241 (j := (Int32.ofNat k)) (inb_of s241 ⟨own_nn (by omega), own_lt32 (b := 16) (by omega) (by omega)⟩) rfl rfl (hb hby d21_84) ?_
    intro T241 h241 X241 e241 W241
    have z242 : h236.size ≤ h241.size := (Keep.of_wr W241).1
    rw [(dch_nar _)] at W241
    have V241 : Arv Z h241 a ka .byte (16 : Int32) (((ys.set (k + 2) (.int (dch po))).set (k + 1) (.int (dch (po / 10)))).set k (.int (dch (po / 100)))) (.int 0) := Arv.set a241 q241 s241 m241 H241 U241 (dch_fit _) W241 k (own_nat32 (by omega)) (by (try simp only [List.length_set]); omega)
    have N241 := Fr.snoc X241 N236 (own_ale om231)
    refine Gl.go (fun _ hr => zXS_iloadN X241.here hx rfl (hb hby d21_85) rfl (zXS_bipush X241.here hx rfl (hb hby d21_86) hr)) ?_
    refine Gl.go (fun _ hr => zXS_icmpYes X241.here hx rfl (pc0 := 88) (pc' := 104) rfl (hb hby d21_88) rfl (XT.ii_ge_t (own_nltN9 (by omega) (by omega))) (by decide) (by decide) (zXS_iload X241.here hx rfl (hb hby d21_104) rfl (zXS_ifYes X241.here hx rfl (pc0 := 106) (pc' := 118) rfl (hb hby d21_106) rfl (XT.i0_eq_t (by decide)) (by decide) (by decide) (zXS_iload X241.here hx rfl (hb hby d21_118) rfl hr)))) ?_
    obtain ⟨fs, hr, hrun, hended, hW, hsame⟩ := X241.leave (v := some (.int (Int32.ofNat k))) (fun h => by rw [Bd.returns] at h; cases h)
    refine ⟨_, _, retOut X241 hx Bd.returns rfl (Or.inl ⟨rfl, Or.inl rfl, _, rfl⟩) (hb hby d21_120) hr, hrun, hended, _, _, rfl, ?_, ⟨⟨_, rfl⟩, hW, hsame.mono (by decide) (by decide)⟩⟩
    show Qgch Z po k a ka ys d1 d2 k1 k2 h0 n0 _ T241.heap _
    rw [e241]
    exact ⟨rfl, N241, ((((Keep.refl h0 [a]).wr W229 (Or.inl (by simp))).wr W236 (Or.inl (by simp))).wr W241 (Or.inl (by simp))), (by rw [putD, if_neg (by omega), if_neg (by omega), if_pos (by omega)]; exact V241)⟩
  · rw [hnd] at hkd
    rw [hnd]
    show Gl p.tables e below _ (s₁.setTop (mkF m 0 #[sI (Int32.ofNat po), sI (Int32.ofNat (k + 4)), sR a, sU, sU, sU, sU] []))
    refine Gl.go (fun _ hr => zXS_iloadN X0.here hx rfl (hb hby d21_0) rfl (zXS_istore X0.here hx rfl (hb hby d21_1) rfl (l' := #[sI (Int32.ofNat po), sI (Int32.ofNat (k + 4)), sR a, sU, sU, sI (Int32.ofNat (k + 4)), sU]) rfl (zXS_iloadN X0.here hx rfl (hb hby d21_3) rfl hr))) ?_
    refine Gl.go (fun _ hr => zXS_ifYes X0.here hx rfl (pc0 := 4) (pc' := 11) rfl (hb hby d21_4) rfl (XT.i0_ge_t (own_nn hp31)) (by decide) (by decide) (zXS_iconst X0.here hx rfl (hb hby d21_11) (zXS_istore X0.here hx rfl (hb hby d21_12) rfl (l' := #[sI (Int32.ofNat po), sI (Int32.ofNat (k + 4)), sR a, sU, sU, sI (Int32.ofNat (k + 4)), sI 0]) rfl (zXS_iload X0.here hx rfl (hb hby d21_14) rfl (zXS_ifNo X0.here hx rfl (hb hby d21_16) rfl (XT.i0_ne_f (by decide)) (zXS_iloadN X0.here hx rfl (hb hby d21_19) rfl (zXS_ineg X0.here hx rfl (hb hby d21_20) rfl (zXS_istoreN X0.here hx rfl (hb hby d21_21) rfl (l' := #[sI (-(Int32.ofNat po)), sI (Int32.ofNat (k + 4)), sR a, sU, sU, sI (Int32.ofNat (k + 4)), sI 0]) rfl (zXS_iloadN X0.here hx rfl (hb hby d21_22) rfl (zXS_bipush X0.here hx rfl (hb hby d21_23) hr)))))))))) ?_
    refine Gl.go (fun _ hr => zXS_icmpNo X0.here hx rfl (hb hby d21_25) rfl (XT.ii_gt_f (own_ngtN (c := 100) rfl (by omega) (by omega))) (zXS_iloadN X0.here hx rfl (hb hby d21_28) rfl (zXS_bipush X0.here hx rfl (hb hby d21_29) (zXS_idiv X0.here hx rfl (hb hby d21_31) rfl (by decide) hr)))) ?_
    show Gl p.tables e below _ (s₁.setTop (mkF m 32 #[sI (-(Int32.ofNat po)), sI (Int32.ofNat (k + 4)), sR a, sU, sU, sI (Int32.ofNat (k + 4)), sI 0] [(.int ((-(Int32.ofNat po)) / (100 : Int32)))]))
    rw [(own_div100 (m := po) (by omega))]
    show Gl p.tables e below _ (s₁.setTop (mkF m 32 #[sI (-(Int32.ofNat po)), sI (Int32.ofNat (k + 4)), sR a, sU, sU, sI (Int32.ofNat (k + 4)), sI 0] [(.int (-(Int32.ofNat (po / 100))))]))
    refine Gl.go (fun _ hr => zXS_istoreN X0.here hx rfl (hb hby d21_32) rfl (l' := #[sI (-(Int32.ofNat po)), sI (Int32.ofNat (k + 4)), sR a, sI (-(Int32.ofNat (po / 100))), sU, sI (Int32.ofNat (k + 4)), sI 0]) rfl (zXS_iloadN X0.here hx rfl (hb hby d21_33) rfl (zXS_bipush X0.here hx rfl (hb hby d21_34) (zXS_imul X0.here hx rfl (hb hby d21_36) rfl (zXS_iloadN X0.here hx rfl (hb hby d21_37) rfl (zXS_isub X0.here hx rfl (hb hby d21_38) rfl hr)))))) ?_
    show Gl p.tables e below _ (s₁.setTop (mkF m 39 #[sI (-(Int32.ofNat po)), sI (Int32.ofNat (k + 4)), sR a, sI (-(Int32.ofNat (po / 100))), sU, sI (Int32.ofNat (k + 4)), sI 0] [(.int (((-(Int32.ofNat (po / 100))) * (100 : Int32)) - (-(Int32.ofNat po))))]))
    rw [(own_mod100 (m := po) (by omega))]
    show Gl p.tables e below _ (s₁.setTop (mkF m 39 #[sI (-(Int32.ofNat po)), sI (Int32.ofNat (k + 4)), sR a, sI (-(Int32.ofNat (po / 100))), sU, sI (Int32.ofNat (k + 4)), sI 0] [(.int (Int32.ofNat (po % 100)))]))
    refine Gl.go (fun _ hr => zXS_istore X0.here hx rfl (hb hby d21_39) rfl (l' := #[sI (-(Int32.ofNat po)), sI (Int32.ofNat (k + 4)), sR a, sI (-(Int32.ofNat (po / 100))), sI (Int32.ofNat (po % 100)), sI (Int32.ofNat (k + 4)), sI 0]) rfl (zXS_iloadN X0.here hx rfl (hb hby d21_41) rfl (zXS_istoreN X0.here hx rfl (hb hby d21_42) rfl (l' := #[sI (-(Int32.ofNat (po / 100))), sI (Int32.ofNat (k + 4)), sR a, sI (-(Int32.ofNat (po / 100))), sI (Int32.ofNat (po % 100)), sI (Int32.ofNat (k + 4)), sI 0]) rfl (zXS_aloadN X0.here hx rfl (hb hby d21_43) rfl rfl (zXS_iinc X0.here hx rfl (hb hby d21_44) rfl (l' := #[sI (-(Int32.ofNat (po / 100))), sI (Int32.ofNat (k + 4)), sR a, sI (-(Int32.ofNat (po / 100))), sI (Int32.ofNat (po % 100)), sI ((Int32.ofNat (k + 4)) + (-1 : Int32)), sI 0]) rfl hr))))) ?_
    show Gl p.tables e below _ (s₁.setTop (mkF m 47 #[sI (-(Int32.ofNat (po / 100))), sI (Int32.ofNat (k + 4)), sR a, sI (-(Int32.ofNat (po / 100))), sI (Int32.ofNat (po % 100)), sI ((Int32.ofNat (k + 4)) + (-1 : Int32)), sI 0] [(.ref a)]))
    rw [(show Int32.ofNat (k + 4) + (-1 : Int32) = Int32.ofNat (k + 3) from own_dec (k + 3))]
    show Gl p.tables e below _ (s₁.setTop (mkF m 47 #[sI (-(Int32.ofNat (po / 100))), sI (Int32.ofNat (k + 4)), sR a, sI (-(Int32.ofNat (po / 100))), sI (Int32.ofNat (po % 100)), sI (Int32.ofNat (k + 3)), sI 0] [(.ref a)]))
    refine Gl.go (fun _ hr => zXS_iload X0.here hx rfl (hb hby d21_47) rfl hr) ?_
    refine gGetS (host := "") Gl.cl X0 hx hZ hown (Or.inl (tw hw 133 rfl)) Via.refl e0 (q1.ext Oo.2) rfl (hb hby d21_49) ?_
    intro T243 X243 e243
    refine Gl.go (fun _ hr => zXS_iload X243.here hx rfl (hb hby d21_52) rfl hr) ?_
    obtain ⟨c244, a244, q244, s244, m244, H244, U244⟩ := id (q3.ext Oo.2)
    have i244 := inb_of s244 (j := (Int32.ofNat (po % 100))) ⟨own_nn (by omega), own_lt32 (b := 100) (by omega) (by omega)⟩
    refine g_baload Gl.cl X243 hx hZ e243 a244 i244 (v := (.int (dch po))) (H244.at i244 (own_on (x := po) (by omega) (by omega))) rfl rfl (hb hby d21_54) ?_
    obtain ⟨c245, a245, q245, s245, m245, H245, U245⟩ := id q5
    refine gstB Gl.cl X243 hx hZ e243 a245 (j := (Int32.ofNat (k + 3))) (inb_of s245 ⟨own_nn (by omega), own_lt32 (b := 16) (by omega) (by omega)⟩) rfl rfl (hb hby d21_55) ?_
    intro T245 h245 X245 e245 W245
    have z246 : h0.size ≤ h245.size := (Keep.of_wr W245).1
    rw [(dch_nar _)] at W245
    have V245 : Arv Z h245 a ka .byte (16 : Int32) (ys.set (k + 3) (.int (dch po))) (.int 0) := Arv.set a245 q245 s245 m245 H245 U245 (dch_fit _) W245 (k + 3) (own_nat32 (by omega)) (by (try simp only [List.length_set]); omega)
    have om247 : @LE.le Nat instLENat n0 a := by omega
    have N245 := Fr.snoc X245 N0 (own_ale om247)
    refine Gl.go (fun _ hr => zXS_aloadN X245.here hx rfl (hb hby d21_56) rfl rfl (zXS_iinc X245.here hx rfl (hb hby d21_57) rfl (l' := #[sI (-(Int32.ofNat (po / 100))), sI (Int32.ofNat (k + 4)), sR a, sI (-(Int32.ofNat (po / 100))), sI (Int32.ofNat (po % 100)), sI ((Int32.ofNat (k + 3)) + (-1 : Int32)), sI 0]) rfl hr)) ?_
    show Gl p.tables e below _ (T245.setTop (mkF m 60 #[sI (-(Int32.ofNat (po / 100))), sI (Int32.ofNat (k + 4)), sR a, sI (-(Int32.ofNat (po / 100))), sI (Int32.ofNat (po % 100)), sI ((Int32.ofNat (k + 3)) + (-1 : Int32)), sI 0] [(.ref a)]))
    rw [(show Int32.ofNat (k + 3) + (-1 : Int32) = Int32.ofNat (k + 2) from own_dec (k + 2))]
    show Gl p.tables e below _ (T245.setTop (mkF m 60 #[sI (-(Int32.ofNat (po / 100))), sI (Int32.ofNat (k + 4)), sR a, sI (-(Int32.ofNat (po / 100))), sI (Int32.ofNat (po % 100)), sI (Int32.ofNat (k + 2)), sI 0] [(.ref a)]))
    refine Gl.go (fun _ hr => zXS_iload X245.here hx rfl (hb hby d21_60) rfl hr) ?_
    have om249 : @LE.le Nat instLENat Z.heap.size a := by omega
    have Oc250 := (Oo.wr W245 (own_ale om249))
    refine gGetS (host := "") Gl.cl X245 hx hZ hown (Or.inl (tw hw 213 rfl)) Via.refl e245 (q2.ext Oc250.2) rfl (hb hby d21_62) ?_
    intro T248 X248 e248
    refine Gl.go (fun _ hr => zXS_iload X248.here hx rfl (hb hby d21_65) rfl hr) ?_
    obtain ⟨c251, a251, q251, s251, m251, H251, U251⟩ := id (q4.ext Oc250.2)
    have i251 := inb_of s251 (j := (Int32.ofNat (po % 100))) ⟨own_nn (by omega), own_lt32 (b := 100) (by omega) (by omega)⟩
    refine g_baload Gl.cl X248 hx hZ e248 a251 i251 (v := (.int (dch (po / 10)))) (H251.at i251 (own_te (x := (po / 10)) (by omega) (by omega))) rfl rfl (hb hby d21_67) ?_
    obtain ⟨c252, a252, q252, s252, m252, H252, U252⟩ := id V245
    refine gstB Gl.cl X248 hx hZ e248 a252 (j := (Int32.ofNat (k + 2))) (inb_of s252 ⟨own_nn (by omega), own_lt32 (b := 16) (by omega) (by omega)⟩) rfl rfl (hb hby d21_68) ?_
    intro T252 h252 X252 e252 W252
    have z253 : h245.size ≤ h252.size := (Keep.of_wr W252).1
    rw [(dch_nar _)] at W252
    have V252 : Arv Z h252 a ka .byte (16 : Int32) ((ys.set (k + 3) (.int (dch po))).set (k + 2) (.int (dch (po / 10)))) (.int 0) := Arv.set a252 q252 s252 m252 H252 U252 (dch_fit _) W252 (k + 2) (own_nat32 (by omega)) (by (try simp only [List.length_set]); omega)
    have N252 := Fr.snoc X252 N245 (own_ale om247)
    refine Gl.go (fun _ hr => zXS_goto X252.here hx rfl (pc0 := 69) (pc' := 22) rfl (hb hby d21_69) (by decide) (by decide) (zXS_iloadN X252.here hx rfl (hb hby d21_22) rfl (zXS_bipush X252.here hx rfl (hb hby d21_23) hr))) ?_
    refine Gl.go (fun _ hr => zXS_icmpYes X252.here hx rfl (pc0 := 25) (pc' := 72) rfl (hb hby d21_25) rfl (XT.ii_gt_t (own_gtN (c := 100) rfl (by omega) (by omega))) (by decide) (by decide) (zXS_aloadN X252.here hx rfl (hb hby d21_72) rfl rfl (zXS_iinc X252.here hx rfl (hb hby d21_73) rfl (l' := #[sI (-(Int32.ofNat (po / 100))), sI (Int32.ofNat (k + 4)), sR a, sI (-(Int32.ofNat (po / 100))), sI (Int32.ofNat (po % 100)), sI ((Int32.ofNat (k + 2)) + (-1 : Int32)), sI 0]) rfl hr))) ?_
    show Gl p.tables e below _ (T252.setTop (mkF m 76 #[sI (-(Int32.ofNat (po / 100))), sI (Int32.ofNat (k + 4)), sR a, sI (-(Int32.ofNat (po / 100))), sI (Int32.ofNat (po % 100)), sI ((Int32.ofNat (k + 2)) + (-1 : Int32)), sI 0] [(.ref a)]))
    rw [(show Int32.ofNat (k + 2) + (-1 : Int32) = Int32.ofNat (k + 1) from own_dec (k + 1))]
    show Gl p.tables e below _ (T252.setTop (mkF m 76 #[sI (-(Int32.ofNat (po / 100))), sI (Int32.ofNat (k + 4)), sR a, sI (-(Int32.ofNat (po / 100))), sI (Int32.ofNat (po % 100)), sI (Int32.ofNat (k + 1)), sI 0] [(.ref a)]))
    refine Gl.go (fun _ hr => zXS_iload X252.here hx rfl (hb hby d21_76) rfl hr) ?_
    have Oc255 := (Oc250.wr W252 (own_ale om249))
    refine gGetS (host := "") Gl.cl X252 hx hZ hown (Or.inl (tw hw 133 rfl)) Via.refl e252 (q1.ext Oc255.2) rfl (hb hby d21_78) ?_
    intro T254 X254 e254
    refine Gl.go (fun _ hr => zXS_iloadN X254.here hx rfl (hb hby d21_81) rfl (zXS_ineg X254.here hx rfl (hb hby d21_82) rfl hr)) ?_
    show Gl p.tables e below _ (T254.setTop (mkF m 83 #[sI (-(Int32.ofNat (po / 100))), sI (Int32.ofNat (k + 4)), sR a, sI (-(Int32.ofNat (po / 100))), sI (Int32.ofNat (po % 100)), sI (Int32.ofNat (k + 1)), sI 0] [(.int (-(-(Int32.ofNat (po / 100))))), (.ref d1), (.int (Int32.ofNat (k + 1))), (.ref a)]))
    rw [Int32.neg_neg]
    show Gl p.tables e below _ (T254.setTop (mkF m 83 #[sI (-(Int32.ofNat (po / 100))), sI (Int32.ofNat (k + 4)), sR a, sI (-(Int32.ofNat (po / 100))), sI (Int32.ofNat (po % 100)), sI (Int32.ofNat (k + 1)), sI 0] [(.int (Int32.ofNat (po / 100))), (.ref d1), (.int (Int32.ofNat (k + 1))), (.ref a)]))
    obtain ⟨c256, a256, q256, s256, m256, H256, U256⟩ := id (q3.ext Oc255.2)
    have i256 := inb_of s256 (j := (Int32.ofNat (po / 100))) ⟨own_nn (by omega), own_lt32 (b := 100) (by omega) (by omega)⟩
    refine g_baload Gl.cl X254 hx hZ e254 a256 i256 (v := (.int (dch (po / 100)))) (H256.at i256 (own_on (x := (po / 100)) (by omega) (by omega))) rfl rfl (hb hby d21_83) ?_
    obtain ⟨c257, a257, q257, s257, m257, H257, U257⟩ := id V252
    refine gstB Gl.cl X254 hx hZ e254 a257 (j := (Int32.ofNat (k + 1))) (inb_of s257 ⟨own_nn (by omega), own_lt32 (b := 16) (by omega) (by omega)⟩) rfl rfl (hb hby d21_84) ?_
    intro T257 h257 X257 e257 W257
    have z258 : h252.size ≤ h257.size := (Keep.of_wr W257).1
    rw [(dch_nar _)] at W257
    have V257 : Arv Z h257 a ka .byte (16 : Int32) (((ys.set (k + 3) (.int (dch po))).set (k + 2) (.int (dch (po / 10)))).set (k + 1) (.int (dch (po / 100)))) (.int 0) := Arv.set a257 q257 s257 m257 H257 U257 (dch_fit _) W257 (k + 1) (own_nat32 (by omega)) (by (try simp only [List.length_set]); omega)
    have N257 := Fr.snoc X257 N252 (own_ale om247)
    refine Gl.go (fun _ hr => zXS_iloadN X257.here hx rfl (hb hby d21_85) rfl (zXS_bipush X257.here hx rfl (hb hby d21_86) hr)) ?_
    refine Gl.go (fun _ hr => zXS_icmpNo X257.here hx rfl (hb hby d21_88) rfl (XT.ii_ge_f (own_ltN9 (by omega) (by omega))) (zXS_aloadN X257.here hx rfl (hb hby d21_91) rfl rfl (zXS_iinc X257.here hx rfl (hb hby d21_92) rfl (l' := #[sI (-(Int32.ofNat (po / 100))), sI (Int32.ofNat (k + 4)), sR a, sI (-(Int32.ofNat (po / 100))), sI (Int32.ofNat (po % 100)), sI ((Int32.ofNat (k + 1)) + (-1 : Int32)), sI 0]) rfl hr))) ?_
    show Gl p.tables e below _ (T257.setTop (mkF m 95 #[sI (-(Int32.ofNat (po / 100))), sI (Int32.ofNat (k + 4)), sR a, sI (-(Int32.ofNat (po / 100))), sI (Int32.ofNat (po % 100)), sI ((Int32.ofNat (k + 1)) + (-1 : Int32)), sI 0] [(.ref a)]))
    rw [(show Int32.ofNat (k + 1) + (-1 : Int32) = Int32.ofNat k from own_dec k)]
    show Gl p.tables e below _ (T257.setTop (mkF m 95 #[sI (-(Int32.ofNat (po / 100))), sI (Int32.ofNat (k + 4)), sR a, sI (-(Int32.ofNat (po / 100))), sI (Int32.ofNat (po % 100)), sI (Int32.ofNat k), sI 0] [(.ref a)]))
    refine Gl.go (fun _ hr => zXS_iload X257.here hx rfl (hb hby d21_95) rfl hr) ?_
    have Oc260 := (Oc255.wr W257 (own_ale om249))
    refine gGetS (host := "") Gl.cl X257 hx hZ hown (Or.inl (tw hw 213 rfl)) Via.refl e257 (q2.ext Oc260.2) rfl (hb hby d21_97) ?_
    intro T259 X259 e259
    refine Gl.go (fun _ hr => zXS_iloadN X259.here hx rfl (hb hby d21_100) rfl (zXS_ineg X259.here hx rfl (hb hby d21_101) rfl hr)) ?_
    show Gl p.tables e below _ (T259.setTop (mkF m 102 #[sI (-(Int32.ofNat (po / 100))), sI (Int32.ofNat (k + 4)), sR a, sI (-(Int32.ofNat (po / 100))), sI (Int32.ofNat (po % 100)), sI (Int32.ofNat k), sI 0] [(.int (-(-(Int32.ofNat (po / 100))))), (.ref d2), (.int (Int32.ofNat k)), (.ref a)]))
    rw [Int32.neg_neg]
    show Gl p.tables e below _ (T259.setTop (mkF m 102 #[sI (-(Int32.ofNat (po / 100))), sI (Int32.ofNat (k + 4)), sR a, sI (-(Int32.ofNat (po / 100))), sI (Int32.ofNat (po % 100)), sI (Int32.ofNat k), sI 0] [(.int (Int32.ofNat (po / 100))), (.ref d2), (.int (Int32.ofNat k)), (.ref a)]))
    obtain ⟨c261, a261, q261, s261, m261, H261, U261⟩ := id (q4.ext Oc260.2)
    have i261 := inb_of s261 (j := (Int32.ofNat (po / 100))) ⟨own_nn (by omega), own_lt32 (b := 100) (by omega) (by omega)⟩
    refine g_baload Gl.cl X259 hx hZ e259 a261 i261 (v := (.int (dch (po / 1000)))) (H261.at i261 (own_te (x := (po / 1000)) (by omega) (by omega))) rfl rfl (hb hby d21_102) ?_
    obtain ⟨c262, a262, q262, s262, m262, H262, U262⟩ := id V257
    refine gstB Gl.cl X259 hx hZ e259 a262 (j := (Int32.ofNat k)) (inb_of s262 ⟨own_nn (by omega), own_lt32 (b := 16) (by omega) (by omega)⟩) rfl rfl (hb hby d21_103) ?_
    intro T262 h262 X262 e262 W262
    have z263 : h257.size ≤ h262.size := (Keep.of_wr W262).1
    rw [(dch_nar _)] at W262
    have V262 : Arv Z h262 a ka .byte (16 : Int32) ((((ys.set (k + 3) (.int (dch po))).set (k + 2) (.int (dch (po / 10)))).set (k + 1) (.int (dch (po / 100)))).set k (.int (dch (po / 1000)))) (.int 0) := Arv.set a262 q262 s262 m262 H262 U262 (dch_fit _) W262 k (own_nat32 (by omega)) (by (try simp only [List.length_set]); omega)
    have N262 := Fr.snoc X262 N257 (own_ale om247)
    refine Gl.go (fun _ hr => zXS_iload X262.here hx rfl (hb hby d21_104) rfl (zXS_ifYes X262.here hx rfl (pc0 := 106) (pc' := 118) rfl (hb hby d21_106) rfl (XT.i0_eq_t (by decide)) (by decide) (by decide) (zXS_iload X262.here hx rfl (hb hby d21_118) rfl hr))) ?_
    obtain ⟨fs, hr, hrun, hended, hW, hsame⟩ := X262.leave (v := some (.int (Int32.ofNat k))) (fun h => by rw [Bd.returns] at h; cases h)
    refine ⟨_, _, retOut X262 hx Bd.returns rfl (Or.inl ⟨rfl, Or.inl rfl, _, rfl⟩) (hb hby d21_120) hr, hrun, hended, _, _, rfl, ?_, ⟨⟨_, rfl⟩, hW, hsame.mono (by decide) (by decide)⟩⟩
    show Qgch Z po k a ka ys d1 d2 k1 k2 h0 n0 _ T262.heap _
    rw [e262]
    exact ⟨rfl, N262, (((((Keep.refl h0 [a]).wr W245 (Or.inl (by simp))).wr W252 (Or.inl (by simp))).wr W257 (Or.inl (by simp))).wr W262 (Or.inl (by simp))), (by rw [putD, if_neg (by omega), if_neg (by omega), if_neg (by omega), if_pos (by omega)]; exact V262)⟩
  · rw [hnd] at hkd
    rw [hnd]
    show Gl p.tables e below _ (s₁.setTop (mkF m 0 #[sI (Int32.ofNat po), sI (Int32.ofNat (k + 5)), sR a, sU, sU, sU, sU] []))
    refine Gl.go (fun _ hr => zXS_iloadN X0.here hx rfl (hb hby d21_0) rfl (zXS_istore X0.here hx rfl (hb hby d21_1) rfl (l' := #[sI (Int32.ofNat po), sI (Int32.ofNat (k + 5)), sR a, sU, sU, sI (Int32.ofNat (k + 5)), sU]) rfl (zXS_iloadN X0.here hx rfl (hb hby d21_3) rfl hr))) ?_
    refine Gl.go (fun _ hr => zXS_ifYes X0.here hx rfl (pc0 := 4) (pc' := 11) rfl (hb hby d21_4) rfl (XT.i0_ge_t (own_nn hp31)) (by decide) (by decide) (zXS_iconst X0.here hx rfl (hb hby d21_11) (zXS_istore X0.here hx rfl (hb hby d21_12) rfl (l' := #[sI (Int32.ofNat po), sI (Int32.ofNat (k + 5)), sR a, sU, sU, sI (Int32.ofNat (k + 5)), sI 0]) rfl (zXS_iload X0.here hx rfl (hb hby d21_14) rfl (zXS_ifNo X0.here hx rfl (hb hby d21_16) rfl (XT.i0_ne_f (by decide)) (zXS_iloadN X0.here hx rfl (hb hby d21_19) rfl (zXS_ineg X0.here hx rfl (hb hby d21_20) rfl (zXS_istoreN X0.here hx rfl (hb hby d21_21) rfl (l' := #[sI (-(Int32.ofNat po)), sI (Int32.ofNat (k + 5)), sR a, sU, sU, sI (Int32.ofNat (k + 5)), sI 0]) rfl (zXS_iloadN X0.here hx rfl (hb hby d21_22) rfl (zXS_bipush X0.here hx rfl (hb hby d21_23) hr)))))))))) ?_
    refine Gl.go (fun _ hr => zXS_icmpNo X0.here hx rfl (hb hby d21_25) rfl (XT.ii_gt_f (own_ngtN (c := 100) rfl (by omega) (by omega))) (zXS_iloadN X0.here hx rfl (hb hby d21_28) rfl (zXS_bipush X0.here hx rfl (hb hby d21_29) (zXS_idiv X0.here hx rfl (hb hby d21_31) rfl (by decide) hr)))) ?_
    show Gl p.tables e below _ (s₁.setTop (mkF m 32 #[sI (-(Int32.ofNat po)), sI (Int32.ofNat (k + 5)), sR a, sU, sU, sI (Int32.ofNat (k + 5)), sI 0] [(.int ((-(Int32.ofNat po)) / (100 : Int32)))]))
    rw [(own_div100 (m := po) (by omega))]
    show Gl p.tables e below _ (s₁.setTop (mkF m 32 #[sI (-(Int32.ofNat po)), sI (Int32.ofNat (k + 5)), sR a, sU, sU, sI (Int32.ofNat (k + 5)), sI 0] [(.int (-(Int32.ofNat (po / 100))))]))
    refine Gl.go (fun _ hr => zXS_istoreN X0.here hx rfl (hb hby d21_32) rfl (l' := #[sI (-(Int32.ofNat po)), sI (Int32.ofNat (k + 5)), sR a, sI (-(Int32.ofNat (po / 100))), sU, sI (Int32.ofNat (k + 5)), sI 0]) rfl (zXS_iloadN X0.here hx rfl (hb hby d21_33) rfl (zXS_bipush X0.here hx rfl (hb hby d21_34) (zXS_imul X0.here hx rfl (hb hby d21_36) rfl (zXS_iloadN X0.here hx rfl (hb hby d21_37) rfl (zXS_isub X0.here hx rfl (hb hby d21_38) rfl hr)))))) ?_
    show Gl p.tables e below _ (s₁.setTop (mkF m 39 #[sI (-(Int32.ofNat po)), sI (Int32.ofNat (k + 5)), sR a, sI (-(Int32.ofNat (po / 100))), sU, sI (Int32.ofNat (k + 5)), sI 0] [(.int (((-(Int32.ofNat (po / 100))) * (100 : Int32)) - (-(Int32.ofNat po))))]))
    rw [(own_mod100 (m := po) (by omega))]
    show Gl p.tables e below _ (s₁.setTop (mkF m 39 #[sI (-(Int32.ofNat po)), sI (Int32.ofNat (k + 5)), sR a, sI (-(Int32.ofNat (po / 100))), sU, sI (Int32.ofNat (k + 5)), sI 0] [(.int (Int32.ofNat (po % 100)))]))
    refine Gl.go (fun _ hr => zXS_istore X0.here hx rfl (hb hby d21_39) rfl (l' := #[sI (-(Int32.ofNat po)), sI (Int32.ofNat (k + 5)), sR a, sI (-(Int32.ofNat (po / 100))), sI (Int32.ofNat (po % 100)), sI (Int32.ofNat (k + 5)), sI 0]) rfl (zXS_iloadN X0.here hx rfl (hb hby d21_41) rfl (zXS_istoreN X0.here hx rfl (hb hby d21_42) rfl (l' := #[sI (-(Int32.ofNat (po / 100))), sI (Int32.ofNat (k + 5)), sR a, sI (-(Int32.ofNat (po / 100))), sI (Int32.ofNat (po % 100)), sI (Int32.ofNat (k + 5)), sI 0]) rfl (zXS_aloadN X0.here hx rfl (hb hby d21_43) rfl rfl (zXS_iinc X0.here hx rfl (hb hby d21_44) rfl (l' := #[sI (-(Int32.ofNat (po / 100))), sI (Int32.ofNat (k + 5)), sR a, sI (-(Int32.ofNat (po / 100))), sI (Int32.ofNat (po % 100)), sI ((Int32.ofNat (k + 5)) + (-1 : Int32)), sI 0]) rfl hr))))) ?_
    show Gl p.tables e below _ (s₁.setTop (mkF m 47 #[sI (-(Int32.ofNat (po / 100))), sI (Int32.ofNat (k + 5)), sR a, sI (-(Int32.ofNat (po / 100))), sI (Int32.ofNat (po % 100)), sI ((Int32.ofNat (k + 5)) + (-1 : Int32)), sI 0] [(.ref a)]))
    rw [(show Int32.ofNat (k + 5) + (-1 : Int32) = Int32.ofNat (k + 4) from own_dec (k + 4))]
    show Gl p.tables e below _ (s₁.setTop (mkF m 47 #[sI (-(Int32.ofNat (po / 100))), sI (Int32.ofNat (k + 5)), sR a, sI (-(Int32.ofNat (po / 100))), sI (Int32.ofNat (po % 100)), sI (Int32.ofNat (k + 4)), sI 0] [(.ref a)]))
    refine Gl.go (fun _ hr => zXS_iload X0.here hx rfl (hb hby d21_47) rfl hr) ?_
    refine gGetS (host := "") Gl.cl X0 hx hZ hown (Or.inl (tw hw 133 rfl)) Via.refl e0 (q1.ext Oo.2) rfl (hb hby d21_49) ?_
    intro T264 X264 e264
    refine Gl.go (fun _ hr => zXS_iload X264.here hx rfl (hb hby d21_52) rfl hr) ?_
    obtain ⟨c265, a265, q265, s265, m265, H265, U265⟩ := id (q3.ext Oo.2)
    have i265 := inb_of s265 (j := (Int32.ofNat (po % 100))) ⟨own_nn (by omega), own_lt32 (b := 100) (by omega) (by omega)⟩
    refine g_baload Gl.cl X264 hx hZ e264 a265 i265 (v := (.int (dch po))) (H265.at i265 (own_on (x := po) (by omega) (by omega))) rfl rfl (hb hby d21_54) ?_
    obtain ⟨c266, a266, q266, s266, m266, H266, U266⟩ := id q5
    refine gstB Gl.cl X264 hx hZ e264 a266 (j := (Int32.ofNat (k + 4))) (inb_of s266 ⟨own_nn (by omega), own_lt32 (b := 16) (by omega) (by omega)⟩) rfl rfl (hb hby d21_55) ?_
    intro T266 h266 X266 e266 W266
    have z267 : h0.size ≤ h266.size := (Keep.of_wr W266).1
    rw [(dch_nar _)] at W266
    have V266 : Arv Z h266 a ka .byte (16 : Int32) (ys.set (k + 4) (.int (dch po))) (.int 0) := Arv.set a266 q266 s266 m266 H266 U266 (dch_fit _) W266 (k + 4) (own_nat32 (by omega)) (by (try simp only [List.length_set]); omega)
    have om268 : @LE.le Nat instLENat n0 a := by omega
    have N266 := Fr.snoc X266 N0 (own_ale om268)
    refine Gl.go (fun _ hr => zXS_aloadN X266.here hx rfl (hb hby d21_56) rfl rfl (zXS_iinc X266.here hx rfl (hb hby d21_57) rfl (l' := #[sI (-(Int32.ofNat (po / 100))), sI (Int32.ofNat (k + 5)), sR a, sI (-(Int32.ofNat (po / 100))), sI (Int32.ofNat (po % 100)), sI ((Int32.ofNat (k + 4)) + (-1 : Int32)), sI 0]) rfl hr)) ?_
    show Gl p.tables e below _ (T266.setTop (mkF m 60 #[sI (-(Int32.ofNat (po / 100))), sI (Int32.ofNat (k + 5)), sR a, sI (-(Int32.ofNat (po / 100))), sI (Int32.ofNat (po % 100)), sI ((Int32.ofNat (k + 4)) + (-1 : Int32)), sI 0] [(.ref a)]))
    rw [(show Int32.ofNat (k + 4) + (-1 : Int32) = Int32.ofNat (k + 3) from own_dec (k + 3))]
    show Gl p.tables e below _ (T266.setTop (mkF m 60 #[sI (-(Int32.ofNat (po / 100))), sI (Int32.ofNat (k + 5)), sR a, sI (-(Int32.ofNat (po / 100))), sI (Int32.ofNat (po % 100)), sI (Int32.ofNat (k + 3)), sI 0] [(.ref a)]))
    refine Gl.go (fun _ hr => zXS_iload X266.here hx rfl (hb hby d21_60) rfl hr) ?_
    have om270 : @LE.le Nat instLENat Z.heap.size a := by omega
    have Oc271 := (Oo.wr W266 (own_ale om270))
    refine gGetS (host := "") Gl.cl X266 hx hZ hown (Or.inl (tw hw 213 rfl)) Via.refl e266 (q2.ext Oc271.2) rfl (hb hby d21_62) ?_
    intro T269 X269 e269
    refine Gl.go (fun _ hr => zXS_iload X269.here hx rfl (hb hby d21_65) rfl hr) ?_
    obtain ⟨c272, a272, q272, s272, m272, H272, U272⟩ := id (q4.ext Oc271.2)
    have i272 := inb_of s272 (j := (Int32.ofNat (po % 100))) ⟨own_nn (by omega), own_lt32 (b := 100) (by omega) (by omega)⟩
    refine g_baload Gl.cl X269 hx hZ e269 a272 i272 (v := (.int (dch (po / 10)))) (H272.at i272 (own_te (x := (po / 10)) (by omega) (by omega))) rfl rfl (hb hby d21_67) ?_
    obtain ⟨c273, a273, q273, s273, m273, H273, U273⟩ := id V266
    refine gstB Gl.cl X269 hx hZ e269 a273 (j := (Int32.ofNat (k + 3))) (inb_of s273 ⟨own_nn (by omega), own_lt32 (b := 16) (by omega) (by omega)⟩) rfl rfl (hb hby d21_68) ?_
    intro T273 h273 X273 e273 W273
    have z274 : h266.size ≤ h273.size := (Keep.of_wr W273).1
    rw [(dch_nar _)] at W273
    have V273 : Arv Z h273 a ka .byte (16 : Int32) ((ys.set (k + 4) (.int (dch po))).set (k + 3) (.int (dch (po / 10)))) (.int 0) := Arv.set a273 q273 s273 m273 H273 U273 (dch_fit _) W273 (k + 3) (own_nat32 (by omega)) (by (try simp only [List.length_set]); omega)
    have N273 := Fr.snoc X273 N266 (own_ale om268)
    refine Gl.go (fun _ hr => zXS_goto X273.here hx rfl (pc0 := 69) (pc' := 22) rfl (hb hby d21_69) (by decide) (by decide) (zXS_iloadN X273.here hx rfl (hb hby d21_22) rfl (zXS_bipush X273.here hx rfl (hb hby d21_23) hr))) ?_
    refine Gl.go (fun _ hr => zXS_icmpNo X273.here hx rfl (hb hby d21_25) rfl (XT.ii_gt_f (own_ngtN (c := 100) rfl (by omega) (by omega))) (zXS_iloadN X273.here hx rfl (hb hby d21_28) rfl (zXS_bipush X273.here hx rfl (hb hby d21_29) (zXS_idiv X273.here hx rfl (hb hby d21_31) rfl (by decide) hr)))) ?_
    show Gl p.tables e below _ (T273.setTop (mkF m 32 #[sI (-(Int32.ofNat (po / 100))), sI (Int32.ofNat (k + 5)), sR a, sI (-(Int32.ofNat (po / 100))), sI (Int32.ofNat (po % 100)), sI (Int32.ofNat (k + 3)), sI 0] [(.int ((-(Int32.ofNat (po / 100))) / (100 : Int32)))]))
    rw [(own_div100 (m := (po / 100)) (by omega))]
    show Gl p.tables e below _ (T273.setTop (mkF m 32 #[sI (-(Int32.ofNat (po / 100))), sI (Int32.ofNat (k + 5)), sR a, sI (-(Int32.ofNat (po / 100))), sI (Int32.ofNat (po % 100)), sI (Int32.ofNat (k + 3)), sI 0] [(.int (-(Int32.ofNat ((po / 100) / 100))))]))
    refine Gl.go (fun _ hr => zXS_istoreN X273.here hx rfl (hb hby d21_32) rfl (l' := #[sI (-(Int32.ofNat (po / 100))), sI (Int32.ofNat (k + 5)), sR a, sI (-(Int32.ofNat ((po / 100) / 100))), sI (Int32.ofNat (po % 100)), sI (Int32.ofNat (k + 3)), sI 0]) rfl (zXS_iloadN X273.here hx rfl (hb hby d21_33) rfl (zXS_bipush X273.here hx rfl (hb hby d21_34) (zXS_imul X273.here hx rfl (hb hby d21_36) rfl (zXS_iloadN X273.here hx rfl (hb hby d21_37) rfl (zXS_isub X273.here hx rfl (hb hby d21_38) rfl hr)))))) ?_
    show Gl p.tables e below _ (T273.setTop (mkF m 39 #[sI (-(Int32.ofNat (po / 100))), sI (Int32.ofNat (k + 5)), sR a, sI (-(Int32.ofNat ((po / 100) / 100))), sI (Int32.ofNat (po % 100)), sI (Int32.ofNat (k + 3)), sI 0] [(.int (((-(Int32.ofNat ((po / 100) / 100))) * (100 : Int32)) - (-(Int32.ofNat (po / 100)))))]))
    rw [(own_mod100 (m := (po / 100)) (by omega))]
    show Gl p.tables e below _ (T273.setTop (mkF m 39 #[sI (-(Int32.ofNat (po / 100))), sI (Int32.ofNat (k + 5)), sR a, sI (-(Int32.ofNat ((po / 100) / 100))), sI (Int32.ofNat (po % 100)), sI (Int32.ofNat (k + 3)), sI 0] [(.int (Int32.ofNat ((po / 100) % 100)))]))
    refine Gl.go (fun _ hr => zXS_istore X273.here hx rfl (hb hby d21_39) rfl (l' := #[sI (-(Int32.ofNat (po / 100))), sI (Int32.ofNat (k + 5)), sR a, sI (-(Int32.ofNat ((po / 100) / 100))), sI (Int32.ofNat ((po / 100) % 100)), sI (Int32.ofNat (k + 3)), sI 0]) rfl (zXS_iloadN X273.here hx rfl (hb hby d21_41) rfl (zXS_istoreN X273.here hx rfl (hb hby d21_42) rfl (l' := #[sI (-(Int32.ofNat ((po / 100) / 100))), sI (Int32.ofNat (k + 5)), sR a, sI (-(Int32.ofNat ((po / 100) / 100))), sI (Int32.ofNat ((po / 100) % 100)), sI (Int32.ofNat (k + 3)), sI 0]) rfl (zXS_aloadN X273.here hx rfl (hb hby d21_43) rfl rfl (zXS_iinc X273.here hx rfl (hb hby d21_44) rfl (l' := #[sI (-(Int32.ofNat ((po / 100) / 100))), sI (Int32.ofNat (k + 5)), sR a, sI (-(Int32.ofNat ((po / 100) / 100))), sI (Int32.ofNat ((po / 100) % 100)), sI ((Int32.ofNat (k + 3)) + (-1 : Int32)), sI 0]) rfl hr))))) ?_
    show Gl p.tables e below _ (T273.setTop (mkF m 47 #[sI (-(Int32.ofNat ((po / 100) / 100))), sI (Int32.ofNat (k + 5)), sR a, sI (-(Int32.ofNat ((po / 100) / 100))), sI (Int32.ofNat ((po / 100) % 100)), sI ((Int32.ofNat (k + 3)) + (-1 : Int32)), sI 0] [(.ref a)]))
    rw [(show Int32.ofNat (k + 3) + (-1 : Int32) = Int32.ofNat (k + 2) from own_dec (k + 2))]
    show Gl p.tables e below _ (T273.setTop (mkF m 47 #[sI (-(Int32.ofNat ((po / 100) / 100))), sI (Int32.ofNat (k + 5)), sR a, sI (-(Int32.ofNat ((po / 100) / 100))), sI (Int32.ofNat ((po / 100) % 100)), sI (Int32.ofNat (k + 2)), sI 0] [(.ref a)]))
    refine Gl.go (fun _ hr => zXS_iload X273.here hx rfl (hb hby d21_47) rfl hr) ?_
    have Oc276 := (Oc271.wr W273 (own_ale om270))
    refine gGetS (host := "") Gl.cl X273 hx hZ hown (Or.inl (tw hw 133 rfl)) Via.refl e273 (q1.ext Oc276.2) rfl (hb hby d21_49) ?_
    intro T275 X275 e275
    refine Gl.go (fun _ hr => zXS_iload X275.here hx rfl (hb hby d21_52) rfl hr) ?_
    obtain ⟨c277, a277, q277, s277, m277, H277, U277⟩ := id (q3.ext Oc276.2)
    have i277 := inb_of s277 (j := (Int32.ofNat ((po / 100) % 100))) ⟨own_nn (by omega), own_lt32 (b := 100) (by omega) (by omega)⟩
    refine g_baload Gl.cl X275 hx hZ e275 a277 i277 (v := (.int (dch (po / 100)))) (H277.at i277 (own_on (x := (po / 100)) (by omega) (by omega))) rfl rfl (hb hby d21_54) ?_
    obtain ⟨c278, a278, q278, s278, m278, H278, U278⟩ := id V273
    refine gstB Gl.cl X275 hx hZ e275 a278 (j := (Int32.ofNat (k + 2))) (inb_of s278 ⟨own_nn (by omega), own_lt32 (b := 16) (by omega) (by omega)⟩) rfl rfl (hb hby d21_55) ?_
    intro T278 h278 X278 e278 W278
    have z279 : h273.size ≤ h278.size := (Keep.of_wr W278).1
    rw [(dch_nar _)] at W278
    have V278 : Arv Z h278 a ka .byte (16 : Int32) (((ys.set (k + 4) (.int (dch po))).set (k + 3) (.int (dch (po / 10)))).set (k + 2) (.int (dch (po / 100)))) (.int 0) := Arv.set a278 q278 s278 m278 H278 U278 (dch_fit _) W278 (k + 2) (own_nat32 (by omega)) (by (try simp only [List.length_set]); omega)
    have N278 := Fr.snoc X278 N273 (own_ale om268)
    refine Gl.go (fun _ hr => zXS_aloadN X278.here hx rfl (hb hby d21_56) rfl rfl (zXS_iinc X278.here hx rfl (hb hby d21_57) rfl (l' := #[sI (-(Int32.ofNat ((po / 100) / 100))), sI (Int32.ofNat (k + 5)), sR a, sI (-(Int32.ofNat ((po / 100) / 100))), sI (Int32.ofNat ((po / 100) % 100)), sI ((Int32.ofNat (k + 2)) + (-1 : Int32)), sI 0]) rfl hr)) ?_
    show Gl p.tables e below _ (T278.setTop (mkF m 60 #[sI (-(Int32.ofNat ((po / 100) / 100))), sI (Int32.ofNat (k + 5)), sR a, sI (-(Int32.ofNat ((po / 100) / 100))), sI (Int32.ofNat ((po / 100) % 100)), sI ((Int32.ofNat (k + 2)) + (-1 : Int32)), sI 0] [(.ref a)]))
    rw [(show Int32.ofNat (k + 2) + (-1 : Int32) = Int32.ofNat (k + 1) from own_dec (k + 1))]
    show Gl p.tables e below _ (T278.setTop (mkF m 60 #[sI (-(Int32.ofNat ((po / 100) / 100))), sI (Int32.ofNat (k + 5)), sR a, sI (-(Int32.ofNat ((po / 100) / 100))), sI (Int32.ofNat ((po / 100) % 100)), sI (Int32.ofNat (k + 1)), sI 0] [(.ref a)]))
    refine Gl.go (fun _ hr => zXS_iload X278.here hx rfl (hb hby d21_60) rfl hr) ?_
    have Oc281 := (Oc276.wr W278 (own_ale om270))
    refine gGetS (host := "") Gl.cl X278 hx hZ hown (Or.inl (tw hw 213 rfl)) Via.refl e278 (q2.ext Oc281.2) rfl (hb hby d21_62) ?_
    intro T280 X280 e280
    refine Gl.go (fun _ hr => zXS_iload X280.here hx rfl (hb hby d21_65) rfl hr) ?_
    obtain ⟨c282, a282, q282, s282, m282, H282, U282⟩ := id (q4.ext Oc281.2)
    have i282 := inb_of s282 (j := (Int32.ofNat ((po / 100) % 100))) ⟨own_nn (by omega), own_lt32 (b := 100) (by omega) (by omega)⟩
    refine g_baload Gl.cl X280 hx hZ e280 a282 i282 (v := (.int (dch (po / 1000)))) (H282.at i282 (own_te (x := (po / 1000)) (by omega) (by omega))) rfl rfl (hb hby d21_67) ?_
    obtain ⟨c283, a283, q283, s283, m283, H283, U283⟩ := id V278
    refine gstB Gl.cl X280 hx hZ e280 a283 (j := (Int32.ofNat (k + 1))) (inb_of s283 ⟨own_nn (by omega), own_lt32 (b := 16) (by omega) (by omega)⟩) rfl rfl (hb hby d21_68) ?_
    intro T283 h283 X283 e283 W283
    have z284 : h278.size ≤ h283.size := (Keep.of_wr W283).1
    rw [(dch_nar _)] at W283
    have V283 : Arv Z h283 a ka .byte (16 : Int32) ((((ys.set (k + 4) (.int (dch po))).set (k + 3) (.int (dch (po / 10)))).set (k + 2) (.int (dch (po / 100)))).set (k + 1) (.int (dch (po / 1000)))) (.int 0) := Arv.set a283 q283 s283 m283 H283 U283 (dch_fit _) W283 (k + 1) (own_nat32 (by omega)) (by (try simp only [List.length_set]); omega)
    have N283 := Fr.snoc X283 N278 (own_ale om268)
    refine Gl.go (fun _ hr => zXS_goto X283.here hx rfl (pc0 := 69) (pc' := 22) rfl (hb hby d21_69) (by decide) (by decide) (zXS_iloadN X283.here hx rfl (hb hby d21_22) rfl (zXS_bipush X283.here hx rfl (hb hby d21_23) hr))) ?_
    refine Gl.go (fun _ hr => zXS_icmpYes X283.here hx rfl (pc0 := 25) (pc' := 72) rfl (hb hby d21_25) rfl (XT.ii_gt_t (own_gtN (c := 100) rfl (by omega) (by omega))) (by decide) (by decide) (zXS_aloadN X283.here hx rfl (hb hby d21_72) rfl rfl (zXS_iinc X283.here hx rfl (hb hby d21_73) rfl (l' := #[sI (-(Int32.ofNat ((po / 100) / 100))), sI (Int32.ofNat (k + 5)), sR a, sI (-(Int32.ofNat ((po / 100) / 100))), sI (Int32.ofNat ((po / 100) % 100)), sI ((Int32.ofNat (k + 1)) + (-1 : Int32)), sI 0]) rfl hr))) ?_
    show Gl p.tables e below _ (T283.setTop (mkF m 76 #[sI (-(Int32.ofNat ((po / 100) / 100))), sI (Int32.ofNat (k + 5)), sR a, sI (-(Int32.ofNat ((po / 100) / 100))), sI (Int32.ofNat ((po / 100) % 100)), sI ((Int32.ofNat (k + 1)) + (-1 : Int32)), sI 0] [(.ref a)]))
    rw [(show Int32.ofNat (k + 1) + (-1 : Int32) = Int32.ofNat k from own_dec k)]
    show Gl p.tables e below _ (T283.setTop (mkF m 76 #[sI (-(Int32.ofNat ((po / 100) / 100))), sI (Int32.ofNat (k + 5)), sR a, sI (-(Int32.ofNat ((po / 100) / 100))), sI (Int32.ofNat ((po / 100) % 100)), sI (Int32.ofNat k), sI 0] [(.ref a)]))
    refine Gl.go (fun _ hr => zXS_iload X283.here hx rfl (hb hby d21_76) rfl hr) ?_
    have Oc286 := (Oc281.wr W283 (own_ale om270))
    refine gGetS (host := "") Gl.cl X283 hx hZ hown (Or.inl (tw hw 133 rfl)) Via.refl e283 (q1.ext Oc286.2) rfl (hb hby d21_78) ?_
    intro T285 X285 e285
    refine Gl.go (fun _ hr => zXS_iloadN X285.here hx rfl (hb hby d21_81) rfl (zXS_ineg X285.here hx rfl (hb hby d21_82) rfl hr)) ?_
    show Gl p.tables e below _ (T285.setTop (mkF m 83 #[sI (-(Int32.ofNat ((po / 100) / 100))), sI (Int32.ofNat (k + 5)), sR a, sI (-(Int32.ofNat ((po / 100) / 100))), sI (Int32.ofNat ((po / 100) % 100)), sI (Int32.ofNat k), sI 0] [(.int (-(-(Int32.ofNat ((po / 100) / 100))))), (.ref d1), (.int (Int32.ofNat k)), (.ref a)]))
    rw [Int32.neg_neg]
    show Gl p.tables e below _ (T285.setTop (mkF m 83 #[sI (-(Int32.ofNat ((po / 100) / 100))), sI (Int32.ofNat (k + 5)), sR a, sI (-(Int32.ofNat ((po / 100) / 100))), sI (Int32.ofNat ((po / 100) % 100)), sI (Int32.ofNat k), sI 0] [(.int (Int32.ofNat ((po / 100) / 100))), (.ref d1), (.int (Int32.ofNat k)), (.ref a)]))
    obtain ⟨c287, a287, q287, s287, m287, H287, U287⟩ := id (q3.ext Oc286.2)
    have i287 := inb_of s287 (j := (Int32.ofNat ((po / 100) / 100))) ⟨own_nn (by omega), own_lt32 (b := 100) (by omega) (by omega)⟩
    refine g_baload Gl.cl X285 hx hZ e285 a287 i287 (v := (.int (dch (po / 10000)))) (H287.at i287 (own_on (x := (po / 10000)) (by omega) (by omega))) rfl rfl (hb hby d21_83) ?_
    obtain ⟨c288, a288, q288, s288, m288, H288, U288⟩ := id V283
    refine gstB Gl.cl X285 hx hZ e285 a288 (j := (Int32.ofNat k)) (inb_of s288 ⟨own_nn (by omega), own_lt32 (b := 16) (by omega) (by omega)⟩) rfl rfl (hb hby d21_84) ?_
    intro T288 h288 X288 e288 W288
    have z289 : h283.size ≤ h288.size := (Keep.of_wr W288).1
    rw [(dch_nar _)] at W288
    have V288 : Arv Z h288 a ka .byte (16 : Int32) (((((ys.set (k + 4) (.int (dch po))).set (k + 3) (.int (dch (po / 10)))).set (k + 2) (.int (dch (po / 100)))).set (k + 1) (.int (dch (po / 1000)))).set k (.int (dch (po / 10000)))) (.int 0) := Arv.set a288 q288 s288 m288 H288 U288 (dch_fit _) W288 k (own_nat32 (by omega)) (by (try simp only [List.length_set]); omega)
    have N288 := Fr.snoc X288 N283 (own_ale om268)
    refine Gl.go (fun _ hr => zXS_iloadN X288.here hx rfl (hb hby d21_85) rfl (zXS_bipush X288.here hx rfl (hb hby d21_86) hr)) ?_
    refine Gl.go (fun _ hr => zXS_icmpYes X288.here hx rfl (pc0 := 88) (pc' := 104) rfl (hb hby d21_88) rfl (XT.ii_ge_t (own_nltN9 (by omega) (by omega))) (by decide) (by decide) (zXS_iload X288.here hx rfl (hb hby d21_104) rfl (zXS_ifYes X288.here hx rfl (pc0 := 106) (pc' := 118) rfl (hb hby d21_106) rfl (XT.i0_eq_t (by decide)) (by decide) (by decide) (zXS_iload X288.here hx rfl (hb hby d21_118) rfl hr)))) ?_
    obtain ⟨fs, hr, hrun, hended, hW, hsame⟩ := X288.leave (v := some (.int (Int32.ofNat k))) (fun h => by rw [Bd.returns] at h; cases h)
    refine ⟨_, _, retOut X288 hx Bd.returns rfl (Or.inl ⟨rfl, Or.inl rfl, _, rfl⟩) (hb hby d21_120) hr, hrun, hended, _, _, rfl, ?_, ⟨⟨_, rfl⟩, hW, hsame.mono (by decide) (by decide)⟩⟩
    show Qgch Z po k a ka ys d1 d2 k1 k2 h0 n0 _ T288.heap _
    rw [e288]
    exact ⟨rfl, N288, ((((((Keep.refl h0 [a]).wr W266 (Or.inl (by simp))).wr W273 (Or.inl (by simp))).wr W278 (Or.inl (by simp))).wr W283 (Or.inl (by simp))).wr W288 (Or.inl (by simp))), (by rw [putD, if_neg (by omega), if_neg (by omega), if_neg (by omega), if_neg (by omega)]; exact V288)⟩
def Qapi (Z : State) (b : Addr) (a : Addr) (ka : ClassId) (k : Nat) (xs : List Value) (po : Nat) (G1 : Int32) (d1 : Addr) (d2 : Addr) (k1 : ClassId) (k2 : ClassId) (h0 : Heap) (n0 : Nat) (v : Option Value) (h : Heap) (L : List Loc) : Prop := v = some (.ref b) ∧ Fr n0 L ∧ Keep h0 h [b, a] ∧ (Exa Z h b "java/lang/StringBuilder") ∧ (Fld Z h b "java/lang/AbstractStringBuilder" "value" "[B" (.ref a)) ∧ (Fld Z h b "java/lang/AbstractStringBuilder" "coder" "B" (.int (0 : Int32))) ∧ (Fld Z h b "java/lang/AbstractStringBuilder" "count" "I" (.int (Int32.ofNat (k + nd po)))) ∧ (Arv Z h a ka .byte (16 : Int32) (xs ++ lb (digs po)) (.int 0))
theorem ef_api (m : MethodId) (x0 : Addr) (x1 : Int32) : entryFrame m #[(.ref x0), (.int x1)] 4 = mkF m 0 #[sR x0, sI x1, sU, sU] [] := by first | (simp [entryFrame, mkF, argsToLocals, Value.category]; done) | rfl
theorem d18_0 : decode jdk_68_method_32_code 0 = .ok (.aload_n 0, 1) := by decide +kernel
theorem d18_1 : decode jdk_68_method_32_code 1 = .ok (.getfield 79, 3) := by decide +kernel
theorem d18_4 : decode jdk_68_method_32_code 4 = .ok (.istore_n 2, 1) := by decide +kernel
theorem d18_5 : decode jdk_68_method_32_code 5 = .ok (.iload_n 2, 1) := by decide +kernel
theorem d18_6 : decode jdk_68_method_32_code 6 = .ok (.iload_n 1, 1) := by decide +kernel
theorem d18_7 : decode jdk_68_method_32_code 7 = .ok (.invokestatic 245, 3) := by decide +kernel
theorem pd_14 : parseMethodDescriptor "(I)I" = some ⟨[.int], some .int⟩ := by decide +kernel
theorem d18_10 : decode jdk_68_method_32_code 10 = .ok (.iadd, 1) := by decide +kernel
theorem d18_11 : decode jdk_68_method_32_code 11 = .ok (.istore_n 3, 1) := by decide +kernel
theorem d18_12 : decode jdk_68_method_32_code 12 = .ok (.aload_n 0, 1) := by decide +kernel
theorem d18_13 : decode jdk_68_method_32_code 13 = .ok (.iload_n 3, 1) := by decide +kernel
theorem d18_14 : decode jdk_68_method_32_code 14 = .ok (.invokevirtual 100, 3) := by decide +kernel
theorem d18_17 : decode jdk_68_method_32_code 17 = .ok (.aload_n 0, 1) := by decide +kernel
theorem d18_18 : decode jdk_68_method_32_code 18 = .ok (.invokevirtual 83, 3) := by decide +kernel
theorem d18_21 : decode jdk_68_method_32_code 21 = .ok (.ifCond .eq 16, 3) := by decide +kernel
theorem d18_24 : decode jdk_68_method_32_code 24 = .ok (.iload_n 1, 1) := by decide +kernel
theorem d18_25 : decode jdk_68_method_32_code 25 = .ok (.iload_n 3, 1) := by decide +kernel
theorem d18_26 : decode jdk_68_method_32_code 26 = .ok (.aload_n 0, 1) := by decide +kernel
theorem d18_27 : decode jdk_68_method_32_code 27 = .ok (.getfield 15, 3) := by decide +kernel
theorem d18_30 : decode jdk_68_method_32_code 30 = .ok (.invokestatic 248, 3) := by decide +kernel
theorem pd_15 : parseMethodDescriptor "(II[B)I" = some ⟨[.int, .int, (.array .byte)], some .int⟩ := by decide +kernel
theorem d18_33 : decode jdk_68_method_32_code 33 = .ok (.pop, 1) := by decide +kernel
theorem d18_34 : decode jdk_68_method_32_code 34 = .ok (.goto 14, 3) := by decide +kernel
theorem d18_48 : decode jdk_68_method_32_code 48 = .ok (.aload_n 0, 1) := by decide +kernel
theorem d18_49 : decode jdk_68_method_32_code 49 = .ok (.iload_n 3, 1) := by decide +kernel
theorem d18_50 : decode jdk_68_method_32_code 50 = .ok (.putfield 79, 3) := by decide +kernel
theorem d18_53 : decode jdk_68_method_32_code 53 = .ok (.aload_n 0, 1) := by decide +kernel
theorem d18_54 : decode jdk_68_method_32_code 54 = .ok (.areturn, 1) := by decide +kernel
set_option maxRecDepth 65536 in
set_option maxHeartbeats 40000000 in
theorem api (l : Launch) (Z : State) (a0 : Array Value) (hw : ∀ d ∈ tables_1, d.before a0 Z = true) (ws : List Jvm.Cond) (b : Addr) (a : Addr) (ka : ClassId) (k : Nat) (xs : List Value) (po : Nat) (G1 : Int32) (d1 : Addr) (d2 : Addr) (k1 : ClassId) (k2 : ClassId) (h0 : Heap) (n0 : Nat) (Z0 : n0 ≤ h0.size) (q0 : Sta Z Z.heap "java/lang/String" "COMPACT_STRINGS" "Z" (.int G1)) (P5 : ¬ (G1 = (0 : Int32))) (q2 : (Old Z Z.heap.size h0 ∧ @LE.le Nat instLENat Z.heap.size n0)) (q3 : Sta Z Z.heap "java/lang/Integer" "DigitOnes" "[B" (.ref d1)) (q4 : Sta Z Z.heap "java/lang/Integer" "DigitTens" "[B" (.ref d2)) (q5 : Arv Z Z.heap d1 k1 .byte (100 : Int32) ones (.int 0)) (q6 : Arv Z Z.heap d2 k2 .byte (100 : Int32) tens (.int 0)) (q7 : Exa Z h0 b "java/lang/StringBuilder") (q8 : Fld Z h0 b "java/lang/AbstractStringBuilder" "value" "[B" (.ref a)) (q9 : Fld Z h0 b "java/lang/AbstractStringBuilder" "coder" "B" (.int (0 : Int32))) (q10 : Fld Z h0 b "java/lang/AbstractStringBuilder" "count" "I" (.int (Int32.ofNat k))) (q11 : Arv Z h0 a ka .byte (16 : Int32) xs (.int 0)) (q12 : @LE.le Nat instLENat n0 a) (q13 : @LE.le Nat instLENat n0 b) (q14 : ¬ @Eq Nat a b) (hxl : xs.length = k) (hp : po < 65536) (hkd : k + nd po ≤ 16) :
    MetFree l (⟨"java/lang/AbstractStringBuilder", "append", "(I)Ljava/lang/AbstractStringBuilder;"⟩ : MethodName) (head1 (Jvm.Cond.code (⟨"java/lang/AbstractStringBuilder", "append", "(I)Ljava/lang/AbstractStringBuilder;"⟩ : MethodName) jdk_68_method_32_code 4 (some (.object "java/lang/AbstractStringBuilder")) :: ws) ({ frames := 1, cells := 0, slots := 0, locals := 20 } : Room)) (fun a_ U_ => a_ = #[(.ref b), (.int (Int32.ofNat po))] ∧ Z.Warmed39 U_.vm ∧ U_.heap = h0) (fun _ _ _ _ _ => True) (fun _ U_ o_ V_ => ∃ v_ L_, o_ = .returned v_ ∧ Qapi Z b a ka k xs po G1 d1 d2 k1 k2 h0 n0 v_ V_.heap L_ ∧ FrameEnd U_ o_ V_ L_ ({ frames := 1, cells := 0, slots := 0, locals := 20 } : Room).cells ({ frames := 1, cells := 0, slots := 0, locals := 20 } : Room).slots) := by
  refine MetFree.of_bodySF (plainFor_of_name pn_1) hisR ?_
  intro p e s m args below meth c s₁ Bd hml0 hP hK
  obtain ⟨rfl, hZ, hh⟩ := hP
  have hx := Bd.exec
  have hby := Bd.bytes
  have hml : c.maxLocals = 4 := hml0
  have hown : s.vm.findClass "java/lang/AbstractStringBuilder" = some m.cls := findClass_of_methodNamed Bd.named
  have hnm := (name_of_methodNamed Bd.named Bd.method).1
  have X0 : Stand p l e ({ frames := 1, cells := 0, slots := 0, locals := 20 } : Room) s m #[(.ref b), (.int (Int32.ofNat po))] below meth c s₁ [] 0 0 := Stand.of_body Bd
  have e0 : s₁.heap = h0 := by rw [← hh, Bd.state]; rfl
  have N0 := Fr.nil n0
  have Oo := q2.1
  have zo := q2.2
  have lt290 := own_alt q5.lt
  have lt291 := own_alt q6.lt
  have lt292 := own_alt q7.lt
  have lt293 := own_alt q8.lt
  have lt294 := own_alt q9.lt
  have lt295 := own_alt q10.lt
  have lt296 := own_alt q11.lt
  have hnd5 := nd_le po
  refine Gl.go (A := s₁.setTop (entryFrame m #[(.ref b), (.int (Int32.ofNat po))] 4)) (P := fun o_ U_ => ∃ v_ L_, o_ = .returned v_ ∧ Qapi Z b a ka k xs po G1 d1 d2 k1 k2 h0 n0 v_ U_.heap L_ ∧ FrameEnd s o_ U_ L_ ({ frames := 1, cells := 0, slots := 0, locals := 20 } : Room).cells ({ frames := 1, cells := 0, slots := 0, locals := 20 } : Room).slots) (fun t_ k_ => castTop (ef_api m b (Int32.ofNat po)) k_) ?_
  show Gl p.tables e below _ (s₁.setTop (mkF m 0 #[sR b, sI (Int32.ofNat po), sU, sU] []))
  refine Gl.go (fun _ hr => zXS_aloadN X0.here hx rfl (hb hby d18_0) rfl rfl hr) ?_
  refine gGetF (host := "") Gl.cl X0 hx hZ hown (Or.inl (tw hw 84 rfl)) Via.refl e0 q10 rfl rfl (hb hby d18_1) ?_
  intro T297 X297 e297
  refine Gl.go (fun _ hr => zXS_istoreN X297.here hx rfl (hb hby d18_4) rfl (l' := #[sR b, sI (Int32.ofNat po), sI (Int32.ofNat k), sU]) rfl (zXS_iloadN X297.here hx rfl (hb hby d18_5) rfl (zXS_iloadN X297.here hx rfl (hb hby d18_6) rfl hr))) ?_
  have zz298 : n0 ≤ h0.size := by omega
  refine gStaticN Gl.cl (y := (⟨"java/lang/Integer", "stringSize", "(I)I"⟩ : MethodName)) (argsL := [(.int (Int32.ofNat po))]) (rest := [(.int (Int32.ofNat k))]) (mc := 0) (ms := 0) X297 hx hZ hown (mvT hZ (tw hw 121 rfl)) (mvT hZ (tw hw 122 rfl)) (mvT hZ (tw hw 123 rfl)) (mvT hZ (tw hw 124 rfl)) (by decide) (backOf (W := 1) (ssz l Z a0 hw [] po h0 n0 zz298 hp) hZ (tw hw 124 rfl) (tw hw 123 rfl) (by decide) (by decide)) rfl (by rw [hml]; rfl) (lenOf pd_14 rfl) rfl (by show 2 * 0 + _ ≤ _; exact Nat.le_of_eq rfl) (hb hby d18_7) rfl e297 (by decide) (by decide) ?_
  intro v298 T298 Lc298 hQ298 X298
  obtain ⟨rfl, Nq298, e298⟩ := hQ298
  have N298 := Fr.app N0 Nq298
  refine Gl.go (fun _ hr => zXS_iadd X298.here hx rfl (hb hby d18_10) rfl hr) ?_
  show Gl p.tables e below _ (T298.setTop (mkF m 11 #[sR b, sI (Int32.ofNat po), sI (Int32.ofNat k), sU] [(.int ((Int32.ofNat k) + (Int32.ofNat (nd po))))]))
  rw [own_add32]
  show Gl p.tables e below _ (T298.setTop (mkF m 11 #[sR b, sI (Int32.ofNat po), sI (Int32.ofNat k), sU] [(.int (Int32.ofNat (k + nd po)))]))
  refine Gl.go (fun _ hr => zXS_istoreN X298.here hx rfl (hb hby d18_11) rfl (l' := #[sR b, sI (Int32.ofNat po), sI (Int32.ofNat k), sI (Int32.ofNat (k + nd po))]) rfl (zXS_aloadN X298.here hx rfl (hb hby d18_12) rfl rfl (zXS_iloadN X298.here hx rfl (hb hby d18_13) rfl hr))) ?_
  have zz299 : n0 ≤ h0.size := by omega
  refine gPrivN Gl.cl (y := (⟨"java/lang/AbstractStringBuilder", "ensureCapacityInternal", "(I)V"⟩ : MethodName)) (b := b) (argsL := [(.int (Int32.ofNat (k + nd po)))]) (rest := []) (mc := 0) (ms := 0) X298 hx hZ hown (mvT hZ (tw hw 86 rfl)) (mvT hZ (tw hw 87 rfl)) (mvT hZ (tw hw 89 rfl)) (mvP hZ (tw hw 88 rfl)) (mvT hZ (tw hw 90 rfl)) (by decide) q7 (backOf (W := 0) (ens l Z a0 hw [] b a ka (k + nd po) xs h0 n0 zz299 q8 q9 q11 (by omega)) hZ (tw hw 90 rfl) (tw hw 55 rfl) (by decide) (by decide)) rfl (by rw [hml]; rfl) (lenOf pd_4 rfl) rfl (by show 2 * 0 + _ ≤ _; exact Nat.le_of_eq rfl) (hb hby d18_14) rfl e298 (by decide) (by decide) ?_
  intro v299 T299 Lc299 hQ299 X299
  obtain ⟨rfl, Nq299, e299⟩ := hQ299
  have N299 := Fr.app N298 Nq299
  refine Gl.go (fun _ hr => zXS_aloadN X299.here hx rfl (hb hby d18_17) rfl rfl hr) ?_
  have zz300 : n0 ≤ h0.size := by omega
  refine gVirtualN Gl.cl (y := (⟨"java/lang/AbstractStringBuilder", "isLatin1", "()Z"⟩ : MethodName)) (z := (⟨"java/lang/AbstractStringBuilder", "isLatin1", "()Z"⟩ : MethodName)) (b := b) (argsL := []) (rest := []) (mc := 0) (ms := 0) X299 hx hZ hown (mvT hZ (tw hw 125 rfl)) (mvT hZ (tw hw 126 rfl)) (notFace_of_selects (args := #[]) (mvT hZ (tw hw 128 rfl))) (mvT hZ (tw hw 128 rfl)) (mvT hZ (tw hw 127 rfl)) (by decide) q7 (backOf (W := 0) (il1 l Z a0 hw [] b G1 h0 n0 zz300 q0 (by assumption) ⟨Oo, (by omega)⟩ q9) hZ (tw hw 129 rfl) (tw hw 55 rfl) (by decide) (by decide)) rfl (by rw [hml]; rfl) (lenOf pd_11 rfl) rfl (by show 2 * 0 + _ ≤ _; exact Nat.le_of_eq rfl) (hb hby d18_18) rfl e299 (by decide) (by decide) ?_
  intro v300 T300 Lc300 hQ300 X300
  obtain ⟨rfl, Nq300, e300⟩ := hQ300
  have N300 := Fr.app N299 Nq300
  refine Gl.go (fun _ hr => zXS_ifNo X300.here hx rfl (hb hby d18_21) rfl (XT.i0_eq_f (by decide)) (zXS_iloadN X300.here hx rfl (hb hby d18_24) rfl (zXS_iloadN X300.here hx rfl (hb hby d18_25) rfl (zXS_aloadN X300.here hx rfl (hb hby d18_26) rfl rfl hr)))) ?_
  refine gGetF (host := "") Gl.cl X300 hx hZ hown (Or.inl (tw hw 59 rfl)) Via.refl e300 q8 rfl rfl (hb hby d18_27) ?_
  intro T301 X301 e301
  have Vp303 : Arv Z h0 a ka .byte (16 : Int32) (xs ++ List.replicate 16 (.int 0)) (.int 0) := q11.pad (pad_rep xs (.int 0) 16)
  have zz302 : n0 ≤ h0.size := by omega
  refine gStaticN Gl.cl (y := (⟨"java/lang/Integer", "getChars", "(II[B)I"⟩ : MethodName)) (argsL := [(.int (Int32.ofNat po)), (.int (Int32.ofNat (k + nd po))), (.ref a)]) (rest := []) (mc := 0) (ms := 0) X301 hx hZ hown (mvT hZ (tw hw 130 rfl)) (mvT hZ (tw hw 131 rfl)) (mvT hZ (tw hw 123 rfl)) (mvT hZ (tw hw 132 rfl)) (by decide) (backOf (W := 0) (gch l Z a0 hw [] po k a ka (xs ++ List.replicate 16 (.int 0)) d1 d2 k1 k2 h0 n0 zz302 ⟨Oo, (by omega)⟩ q3 q4 q5 q6 Vp303 (by omega) hp (by rw [List.length_append, List.length_replicate]; omega) (by omega)) hZ (tw hw 132 rfl) (tw hw 123 rfl) (by decide) (by decide)) rfl (by rw [hml]; rfl) (lenOf pd_15 rfl) rfl (by show 2 * 0 + _ ≤ _; exact Nat.le_of_eq rfl) (hb hby d18_30) rfl e301 (by decide) (by decide) ?_
  intro v302 T302 Lc302 hQ302 X302
  obtain ⟨rfl, Nq302, K302, f302_0⟩ := hQ302
  have z304 : h0.size ≤ T302.heap.size := K302.1
  have N302 := Fr.app N300 Nq302
  have lt305 := own_alt f302_0.lt
  have Vq306 : Arv Z T302.heap a ka .byte (16 : Int32) (xs ++ lb (digs po)) (.int 0) := by have q := f302_0; rw [putD_app hxl] at q; exact q.pad fun i => (pad_rep _ _ _ i).symm
  refine Gl.go (fun _ hr => zXT_pop X302.here hx rfl (hb hby d18_33) rfl rfl (zXS_goto X302.here hx rfl (pc0 := 34) (pc' := 48) rfl (hb hby d18_34) (by decide) (by decide) (zXS_aloadN X302.here hx rfl (hb hby d18_48) rfl rfl (zXS_iloadN X302.here hx rfl (hb hby d18_49) rfl hr)))) ?_
  have om307 : ¬ @Eq Nat b a := by omega
  have Fc308 := (q10.keep K302 (ninS (own_ane om307) nin0))
  have Ec309 := (q7.keep K302)
  refine gPutF (host := "") Gl.cl X302 hx hZ hown (Or.inl (tw hw 84 rfl)) Via.refl (rfl : T302.heap = T302.heap) Fc308 Ec309 (Or.inl (tw hw 85 rfl)) (tw hw 46 rfl) (ty := .int) (by decide) rfl rfl rfl rfl (hb hby d18_50) ?_
  intro T310 h310 X310 e310 W310
  have z311 : T302.heap.size ≤ h310.size := (Keep.of_wr W310).1
  have Fw310 := Fc308.same W310
  have om312 : @LE.le Nat instLENat n0 b := by omega
  have N310 := Fr.snoc X310 N302 (own_ale om312)
  refine Gl.go (fun _ hr => zXS_aloadN X310.here hx rfl (hb hby d18_53) rfl rfl hr) ?_
  have Ec313 := (Ec309.wr W310)
  have Fc314 := ((q8.keep K302 (ninS (own_ane om307) nin0)).other W310 (Or.inr (slot_ne (Or.inl (tw hw 60 rfl)) (Or.inl (tw hw 85 rfl)) (by decide) (t := (.array .byte)) (t' := .int) (by decide) (by decide))))
  have Fc315 := ((q9.keep K302 (ninS (own_ane om307) nin0)).other W310 (Or.inr (slot_ne (Or.inl (tw hw 62 rfl)) (Or.inl (tw hw 85 rfl)) (by decide) (t := .byte) (t' := .int) (by decide) (by decide))))
  have Vc316 := (Vq306.other W310 (own_anes om307))
  obtain ⟨fs, hr, hrun, hended, hW, hsame⟩ := X310.leave (v := some (.ref b)) (fun h => by rw [Bd.returns] at h; cases h)
  refine ⟨_, _, retOut X310 hx Bd.returns rfl (Or.inr (Or.inr (Or.inr (Or.inr ⟨rfl, rfl, rfl⟩)))) (hb hby d18_54) hr, hrun, hended, _, _, rfl, ?_, ⟨⟨_, rfl⟩, hW, hsame.mono (by decide) (by decide)⟩⟩
  show Qapi Z b a ka k xs po G1 d1 d2 k1 k2 h0 n0 _ T310.heap _
  rw [e310]
  exact ⟨rfl, N310, (((Keep.refl h0 [b, a]).trans K302 (allS (P := fun x_ => x_ ∈ ([b, a] : List Addr) ∨ h0.size ≤ x_) (Or.inl (by simp)) all0)).wr W310 (Or.inl (by simp))), Ec313, Fc314, Fc315, Fw310, Vc316⟩
def Qsba (Z : State) (b : Addr) (a : Addr) (ka : ClassId) (k : Nat) (xs : List Value) (po : Nat) (G1 : Int32) (d1 : Addr) (d2 : Addr) (k1 : ClassId) (k2 : ClassId) (h0 : Heap) (n0 : Nat) (v : Option Value) (h : Heap) (L : List Loc) : Prop := v = some (.ref b) ∧ Fr n0 L ∧ Keep h0 h [b, a] ∧ (Exa Z h b "java/lang/StringBuilder") ∧ (Fld Z h b "java/lang/AbstractStringBuilder" "value" "[B" (.ref a)) ∧ (Fld Z h b "java/lang/AbstractStringBuilder" "coder" "B" (.int (0 : Int32))) ∧ (Fld Z h b "java/lang/AbstractStringBuilder" "count" "I" (.int (Int32.ofNat (k + nd po)))) ∧ (Arv Z h a ka .byte (16 : Int32) (xs ++ lb (digs po)) (.int 0))
theorem ef_sba (m : MethodId) (x0 : Addr) (x1 : Int32) : entryFrame m #[(.ref x0), (.int x1)] 2 = mkF m 0 #[sR x0, sI x1] [] := by first | (simp [entryFrame, mkF, argsToLocals, Value.category]; done) | rfl
theorem d17_0 : decode jdk_67_method_15_code 0 = .ok (.aload_n 0, 1) := by decide +kernel
theorem d17_1 : decode jdk_67_method_15_code 1 = .ok (.iload_n 1, 1) := by decide +kernel
theorem d17_2 : decode jdk_67_method_15_code 2 = .ok (.invokespecial 53, 3) := by decide +kernel
theorem pd_16 : parseMethodDescriptor "(I)Ljava/lang/AbstractStringBuilder;" = some ⟨[.int], some (.object "java/lang/AbstractStringBuilder")⟩ := by decide +kernel
theorem d17_5 : decode jdk_67_method_15_code 5 = .ok (.pop, 1) := by decide +kernel
theorem d17_6 : decode jdk_67_method_15_code 6 = .ok (.aload_n 0, 1) := by decide +kernel
theorem d17_7 : decode jdk_67_method_15_code 7 = .ok (.areturn, 1) := by decide +kernel
set_option maxRecDepth 65536 in
set_option maxHeartbeats 40000000 in
theorem sba (l : Launch) (Z : State) (a0 : Array Value) (hw : ∀ d ∈ tables_1, d.before a0 Z = true) (ws : List Jvm.Cond) (b : Addr) (a : Addr) (ka : ClassId) (k : Nat) (xs : List Value) (po : Nat) (G1 : Int32) (d1 : Addr) (d2 : Addr) (k1 : ClassId) (k2 : ClassId) (h0 : Heap) (n0 : Nat) (Z0 : n0 ≤ h0.size) (q0 : Sta Z Z.heap "java/lang/String" "COMPACT_STRINGS" "Z" (.int G1)) (P5 : ¬ (G1 = (0 : Int32))) (q2 : (Old Z Z.heap.size h0 ∧ @LE.le Nat instLENat Z.heap.size n0)) (q3 : Sta Z Z.heap "java/lang/Integer" "DigitOnes" "[B" (.ref d1)) (q4 : Sta Z Z.heap "java/lang/Integer" "DigitTens" "[B" (.ref d2)) (q5 : Arv Z Z.heap d1 k1 .byte (100 : Int32) ones (.int 0)) (q6 : Arv Z Z.heap d2 k2 .byte (100 : Int32) tens (.int 0)) (q7 : Exa Z h0 b "java/lang/StringBuilder") (q8 : Fld Z h0 b "java/lang/AbstractStringBuilder" "value" "[B" (.ref a)) (q9 : Fld Z h0 b "java/lang/AbstractStringBuilder" "coder" "B" (.int (0 : Int32))) (q10 : Fld Z h0 b "java/lang/AbstractStringBuilder" "count" "I" (.int (Int32.ofNat k))) (q11 : Arv Z h0 a ka .byte (16 : Int32) xs (.int 0)) (q12 : @LE.le Nat instLENat n0 a) (q13 : @LE.le Nat instLENat n0 b) (q14 : ¬ @Eq Nat a b) (hxl : xs.length = k) (hp : po < 65536) (hkd : k + nd po ≤ 16) :
    MetFree l (⟨"java/lang/StringBuilder", "append", "(I)Ljava/lang/StringBuilder;"⟩ : MethodName) (head1 (Jvm.Cond.code (⟨"java/lang/StringBuilder", "append", "(I)Ljava/lang/StringBuilder;"⟩ : MethodName) jdk_67_method_15_code 2 (some (.object "java/lang/StringBuilder")) :: ws) ({ frames := 2, cells := 0, slots := 0, locals := 36 } : Room)) (fun a_ U_ => a_ = #[(.ref b), (.int (Int32.ofNat po))] ∧ Z.Warmed39 U_.vm ∧ U_.heap = h0) (fun _ _ _ _ _ => True) (fun _ U_ o_ V_ => ∃ v_ L_, o_ = .returned v_ ∧ Qsba Z b a ka k xs po G1 d1 d2 k1 k2 h0 n0 v_ V_.heap L_ ∧ FrameEnd U_ o_ V_ L_ ({ frames := 2, cells := 0, slots := 0, locals := 36 } : Room).cells ({ frames := 2, cells := 0, slots := 0, locals := 36 } : Room).slots) := by
  refine MetFree.of_bodySF (plainFor_of_name pn_2) hisR ?_
  intro p e s m args below meth c s₁ Bd hml0 hP hK
  obtain ⟨rfl, hZ, hh⟩ := hP
  have hx := Bd.exec
  have hby := Bd.bytes
  have hml : c.maxLocals = 2 := hml0
  have hown : s.vm.findClass "java/lang/StringBuilder" = some m.cls := findClass_of_methodNamed Bd.named
  have hnm := (name_of_methodNamed Bd.named Bd.method).1
  have X0 : Stand p l e ({ frames := 2, cells := 0, slots := 0, locals := 36 } : Room) s m #[(.ref b), (.int (Int32.ofNat po))] below meth c s₁ [] 0 0 := Stand.of_body Bd
  have e0 : s₁.heap = h0 := by rw [← hh, Bd.state]; rfl
  have N0 := Fr.nil n0
  have Oo := q2.1
  have zo := q2.2
  have lt317 := own_alt q5.lt
  have lt318 := own_alt q6.lt
  have lt319 := own_alt q7.lt
  have lt320 := own_alt q8.lt
  have lt321 := own_alt q9.lt
  have lt322 := own_alt q10.lt
  have lt323 := own_alt q11.lt
  refine Gl.go (A := s₁.setTop (entryFrame m #[(.ref b), (.int (Int32.ofNat po))] 2)) (P := fun o_ U_ => ∃ v_ L_, o_ = .returned v_ ∧ Qsba Z b a ka k xs po G1 d1 d2 k1 k2 h0 n0 v_ U_.heap L_ ∧ FrameEnd s o_ U_ L_ ({ frames := 2, cells := 0, slots := 0, locals := 36 } : Room).cells ({ frames := 2, cells := 0, slots := 0, locals := 36 } : Room).slots) (fun t_ k_ => castTop (ef_sba m b (Int32.ofNat po)) k_) ?_
  show Gl p.tables e below _ (s₁.setTop (mkF m 0 #[sR b, sI (Int32.ofNat po)] []))
  refine Gl.go (fun _ hr => zXS_aloadN X0.here hx rfl (hb hby d17_0) rfl rfl (zXS_iloadN X0.here hx rfl (hb hby d17_1) rfl hr)) ?_
  have zz324 : n0 ≤ h0.size := by omega
  refine gSuperN Gl.cl (y := (⟨"java/lang/AbstractStringBuilder", "append", "(I)Ljava/lang/AbstractStringBuilder;"⟩ : MethodName)) (b := b) (argsL := [(.int (Int32.ofNat po))]) (rest := []) (mc := 0) (ms := 0) X0 hx hZ hown (tw hw 117 rfl) (own_same (y := (⟨"java/lang/AbstractStringBuilder", "append", "(I)Ljava/lang/AbstractStringBuilder;"⟩ : MethodName)) (tw hw 119 rfl) (tw hw 89 rfl) rfl (by decide)) (tw hw 118 rfl) (tw hw 70 rfl) (by decide) (tw hw 120 rfl) (Ins.self q7) (backOf (W := 0) (api l Z a0 hw [] b a ka k xs po G1 d1 d2 k1 k2 h0 n0 zz324 q0 (by assumption) ⟨Oo, (by omega)⟩ q3 q4 q5 q6 q7 q8 q9 q10 q11 (by omega) (by omega) (by omega) hxl hp hkd) hZ (tw hw 120 rfl) (tw hw 55 rfl) (by decide) (by decide)) rfl (by rw [hml]; rfl) (lenOf pd_16 rfl) rfl (by show 2 * 0 + _ ≤ _; exact Nat.le_of_eq rfl) (hb hby d17_2) rfl e0 (by decide) (by decide) ?_
  intro v324 T324 Lc324 hQ324 X324
  obtain ⟨rfl, Nq324, K324, f324_0, f324_1, f324_2, f324_3, f324_4⟩ := hQ324
  have z325 : h0.size ≤ T324.heap.size := K324.1
  have N324 := Fr.app N0 Nq324
  have lt326 := own_alt f324_0.lt
  have lt327 := own_alt f324_1.lt
  have lt328 := own_alt f324_2.lt
  have lt329 := own_alt f324_3.lt
  have lt330 := own_alt f324_4.lt
  refine Gl.go (fun _ hr => zXT_pop X324.here hx rfl (hb hby d17_5) rfl rfl (zXS_aloadN X324.here hx rfl (hb hby d17_6) rfl rfl hr)) ?_
  obtain ⟨fs, hr, hrun, hended, hW, hsame⟩ := X324.leave (v := some (.ref b)) (fun h => by rw [Bd.returns] at h; cases h)
  refine ⟨_, _, retOut X324 hx Bd.returns rfl (Or.inr (Or.inr (Or.inr (Or.inr ⟨rfl, rfl, rfl⟩)))) (hb hby d17_7) hr, hrun, hended, _, _, rfl, ?_, ⟨⟨_, rfl⟩, hW, hsame.mono (by decide) (by decide)⟩⟩
  show Qsba Z b a ka k xs po G1 d1 d2 k1 k2 h0 n0 _ T324.heap _
  exact ⟨rfl, N324, ((Keep.refl h0 [b, a]).trans K324 (allS (P := fun x_ => x_ ∈ ([b, a] : List Addr) ∨ h0.size ≤ x_) (Or.inl (by simp)) (allS (P := fun x_ => x_ ∈ ([b, a] : List Addr) ∨ h0.size ≤ x_) (Or.inl (by simp)) all0))), f324_0, f324_1, f324_2, f324_3, f324_4⟩
/-- since the start nothing but the empty text has been interned -/
def IbJ (Z : State) (vm : Vm) (h : Heap) : Prop := IB Z vm [""]
theorem IbJ.keep {Z : State} {vm : Vm} {h h' : Heap} (E : IbJ Z vm h) (K : Keep h h' []) : IbJ Z vm h' := E
theorem IbJ.warm {Z s : State} {vm0 vm1 : Vm} {h : Heap} (E : IbJ Z vm0 h) (W : (s.setVm vm0).WarmedH vm1) : IbJ Z vm1 h := by
  obtain ⟨more, e1, e2⟩ := E
  exact ⟨more, (W.interned_eq).trans e1, e2⟩
/-- the text of a NodeAddress -/
abbrev naT (hs : List Int32) (po : Nat) : List Int32 := hs ++ (58 : Int32) :: digs po
theorem naT_lat {hs : List Int32} {po : Nat} (h : ∀ c ∈ hs, Lat c) : ∀ c ∈ naT hs po, Lat c := fun c hc => by
  rcases List.mem_append.mp hc with q | q
  · exact h c q
  · rcases List.mem_cons.mp q with rfl | q
    · decide
    · exact digs_lat po c q
theorem naT_cod {hs : List Int32} {po : Nat} (h : ∀ c ∈ hs, Lat c) : StrChars.Road.CodA (naT hs po) 0 (Int32.ofNat (((0 + hs.length) + ([(58 : Int32)] : List Int32).length) + nd po)) ((([] ++ lb hs) ++ lb ([(58 : Int32)] : List Int32)) ++ lb (digs po)) := by
  have q := StrChars.Road.codOf (cs := naT hs po) rfl (fun c hc => (naT_lat h c hc).2)
  have e1 : (naT hs po).length = ((0 + hs.length) + ([(58 : Int32)] : List Int32).length) + nd po := by
    simp only [naT, List.length_append, List.length_cons, digs_len, List.length_nil]; omega
  have e2 : ((naT hs po).map StrChars.lo8).map Value.int = (([] ++ lb hs) ++ lb ([(58 : Int32)] : List Int32)) ++ lb (digs po) := by
    show lb (naT hs po) = _
    rw [naT, lb_app, show (58 : Int32) :: digs po = [(58 : Int32)] ++ digs po from rfl, lb_app, List.nil_append, List.append_assoc]
  rw [e1] at q
  exact e2 ▸ q

def Qrec (Z : State) (a : Addr) (h0 : Heap) (n0 : Nat) (v : Option Value) (h : Heap) (L : List Loc) : Prop := v = none ∧ Fr n0 L ∧ h = h0
theorem pn_5 : plainName "java/lang/Record" = true := by first | (simp [plainName, overriddenIn]; done) | decide +kernel
theorem ef_rec (m : MethodId) (x0 : Addr) : entryFrame m #[(.ref x0)] 1 = mkF m 0 #[sR x0] [] := by first | (simp [entryFrame, mkF, argsToLocals, Value.category]; done) | rfl
theorem d5_0 : decode jdk_30_method_1_code 0 = .ok (.aload_n 0, 1) := by decide +kernel
theorem d5_1 : decode jdk_30_method_1_code 1 = .ok (.invokespecial 1, 3) := by decide +kernel
theorem d5_4 : decode jdk_30_method_1_code 4 = .ok (.return_, 1) := by decide +kernel
set_option maxRecDepth 65536 in
set_option maxHeartbeats 40000000 in
theorem rec (l : Launch) (Z : State) (a0 : Array Value) (hw : ∀ d ∈ tables_1, d.before a0 Z = true) (ws : List Jvm.Cond) (a : Addr) (h0 : Heap) (n0 : Nat) (Z0 : n0 ≤ h0.size) :
    MetFree l (⟨"java/lang/Record", "<init>", "()V"⟩ : MethodName) (head1 (Jvm.Cond.code (⟨"java/lang/Record", "<init>", "()V"⟩ : MethodName) jdk_30_method_1_code 1 none :: ws) ({ frames := 1, cells := 0, slots := 0, locals := 12 } : Room)) (fun a_ U_ => a_ = #[(.ref a)] ∧ Z.Warmed39 U_.vm ∧ U_.heap = h0) (fun _ _ _ _ _ => True) (fun _ U_ o_ V_ => ∃ v_ L_, o_ = .returned v_ ∧ Qrec Z a h0 n0 v_ V_.heap L_ ∧ FrameEnd U_ o_ V_ L_ ({ frames := 1, cells := 0, slots := 0, locals := 12 } : Room).cells ({ frames := 1, cells := 0, slots := 0, locals := 12 } : Room).slots) := by
  refine MetFree.of_bodySF (plainFor_of_name pn_5) hisR ?_
  intro p e s m args below meth c s₁ Bd hml0 hP hK
  obtain ⟨rfl, hZ, hh⟩ := hP
  have hx := Bd.exec
  have hby := Bd.bytes
  have hml : c.maxLocals = 1 := hml0
  have hown : s.vm.findClass "java/lang/Record" = some m.cls := findClass_of_methodNamed Bd.named
  have hnm := (name_of_methodNamed Bd.named Bd.method).1
  have X0 : Stand p l e ({ frames := 1, cells := 0, slots := 0, locals := 12 } : Room) s m #[(.ref a)] below meth c s₁ [] 0 0 := Stand.of_body Bd
  have e0 : s₁.heap = h0 := by rw [← hh, Bd.state]; rfl
  have N0 := Fr.nil n0
  refine Gl.go (A := s₁.setTop (entryFrame m #[(.ref a)] 1)) (P := fun o_ U_ => ∃ v_ L_, o_ = .returned v_ ∧ Qrec Z a h0 n0 v_ U_.heap L_ ∧ FrameEnd s o_ U_ L_ ({ frames := 1, cells := 0, slots := 0, locals := 12 } : Room).cells ({ frames := 1, cells := 0, slots := 0, locals := 12 } : Room).slots) (fun t_ k_ => castTop (ef_rec m a) k_) ?_
  show Gl p.tables e below _ (s₁.setTop (mkF m 0 #[sR a] []))
  refine Gl.go (fun _ hr => zXS_aloadN X0.here hx rfl (hb hby d5_0) rfl rfl hr) ?_
  refine gInit Gl.cl (W := 0) X0 hx hZ hown (tw hw 35 rfl) (tw hw 12 rfl) (tw hw 13 rfl) e0 rfl (by rw [hml]; rfl) rfl (hb hby d5_1) (by decide) (by show 2 * 0 + _ ≤ _; exact Nat.le_of_eq rfl) (by decide) ?_
  intro T331 X331 e331
  obtain ⟨fs, hr, hrun, hended, hW, hsame⟩ := X331.leave (v := none) (fun _ => rfl)
  refine ⟨_, _, X331.returnOut hx Bd.returns (hb hby d5_4) hr, hrun, hended, _, _, rfl, ?_, ⟨⟨_, rfl⟩, hW, hsame.mono (by decide) (by decide)⟩⟩
  show Qrec Z a h0 n0 _ T331.heap _
  rw [e331]
  exact ⟨rfl, N0, rfl⟩
def Qnai (Z : State) (a : Addr) (x : Addr) (po : Nat) (h0 : Heap) (n0 : Nat) (v : Option Value) (h : Heap) (L : List Loc) : Prop := v = none ∧ Fr n0 L ∧ Keep h0 h [a] ∧ (Exa Z h a "org/latchkey/redis/NodeAddress") ∧ (Fld Z h a "org/latchkey/redis/NodeAddress" "host" "Ljava/lang/String;" (.ref x)) ∧ (Fld Z h a "org/latchkey/redis/NodeAddress" "port" "I" (.int (Int32.ofNat po)))
theorem pn_6 : plainName "org/latchkey/redis/NodeAddress" = true := by first | (simp [plainName, overriddenIn]; done) | decide +kernel
theorem ef_nai (m : MethodId) (x0 : Addr) (x1 : Addr) (x2 : Int32) : entryFrame m #[(.ref x0), (.ref x1), (.int x2)] 3 = mkF m 0 #[sR x0, sR x1, sI x2] [] := by first | (simp [entryFrame, mkF, argsToLocals, Value.category]; done) | rfl
theorem d4_0 : decode prog_17_method_1_code 0 = .ok (.aload_n 0, 1) := by decide +kernel
theorem d4_1 : decode prog_17_method_1_code 1 = .ok (.invokespecial 1, 3) := by decide +kernel
theorem pd_17 : parseMethodDescriptor "()V" = some ⟨[], none⟩ := by decide +kernel
theorem d4_4 : decode prog_17_method_1_code 4 = .ok (.aload_n 0, 1) := by decide +kernel
theorem d4_5 : decode prog_17_method_1_code 5 = .ok (.aload_n 1, 1) := by decide +kernel
theorem d4_6 : decode prog_17_method_1_code 6 = .ok (.putfield 7, 3) := by decide +kernel
theorem d4_9 : decode prog_17_method_1_code 9 = .ok (.aload_n 0, 1) := by decide +kernel
theorem d4_10 : decode prog_17_method_1_code 10 = .ok (.iload_n 2, 1) := by decide +kernel
theorem d4_11 : decode prog_17_method_1_code 11 = .ok (.putfield 13, 3) := by decide +kernel
theorem d4_14 : decode prog_17_method_1_code 14 = .ok (.return_, 1) := by decide +kernel
set_option maxRecDepth 65536 in
set_option maxHeartbeats 40000000 in
theorem nai (l : Launch) (Z : State) (a0 : Array Value) (hw : ∀ d ∈ tables_1, d.before a0 Z = true) (ws : List Jvm.Cond) (a : Addr) (x : Addr) (po : Nat) (h0 : Heap) (n0 : Nat) (Z0 : n0 ≤ h0.size) (q0 : @LE.le Nat instLENat n0 a) (q1 : Exa Z h0 a "org/latchkey/redis/NodeAddress") (q2 : Fld Z h0 a "org/latchkey/redis/NodeAddress" "host" "Ljava/lang/String;" .null) (q3 : Fld Z h0 a "org/latchkey/redis/NodeAddress" "port" "I" (.int (0 : Int32))) (q4 : Exa Z h0 x "java/lang/String") :
    MetFree l (⟨"org/latchkey/redis/NodeAddress", "<init>", "(Ljava/lang/String;I)V"⟩ : MethodName) (head1 (Jvm.Cond.code (⟨"org/latchkey/redis/NodeAddress", "<init>", "(Ljava/lang/String;I)V"⟩ : MethodName) prog_17_method_1_code 3 none :: ws) ({ frames := 2, cells := 0, slots := 0, locals := 30 } : Room)) (fun a_ U_ => a_ = #[(.ref a), (.ref x), (.int (Int32.ofNat po))] ∧ Z.Warmed39 U_.vm ∧ U_.heap = h0) (fun _ _ _ _ _ => True) (fun _ U_ o_ V_ => ∃ v_ L_, o_ = .returned v_ ∧ Qnai Z a x po h0 n0 v_ V_.heap L_ ∧ FrameEnd U_ o_ V_ L_ ({ frames := 2, cells := 0, slots := 0, locals := 30 } : Room).cells ({ frames := 2, cells := 0, slots := 0, locals := 30 } : Room).slots) := by
  refine MetFree.of_bodySF (plainFor_of_name pn_6) hisR ?_
  intro p e s m args below meth c s₁ Bd hml0 hP hK
  obtain ⟨rfl, hZ, hh⟩ := hP
  have hx := Bd.exec
  have hby := Bd.bytes
  have hml : c.maxLocals = 3 := hml0
  have hown : s.vm.findClass "org/latchkey/redis/NodeAddress" = some m.cls := findClass_of_methodNamed Bd.named
  have hnm := (name_of_methodNamed Bd.named Bd.method).1
  have X0 : Stand p l e ({ frames := 2, cells := 0, slots := 0, locals := 30 } : Room) s m #[(.ref a), (.ref x), (.int (Int32.ofNat po))] below meth c s₁ [] 0 0 := Stand.of_body Bd
  have e0 : s₁.heap = h0 := by rw [← hh, Bd.state]; rfl
  have N0 := Fr.nil n0
  have lt332 := own_alt q1.lt
  have lt333 := own_alt q2.lt
  have lt334 := own_alt q3.lt
  have lt335 := own_alt q4.lt
  refine Gl.go (A := s₁.setTop (entryFrame m #[(.ref a), (.ref x), (.int (Int32.ofNat po))] 3)) (P := fun o_ U_ => ∃ v_ L_, o_ = .returned v_ ∧ Qnai Z a x po h0 n0 v_ U_.heap L_ ∧ FrameEnd s o_ U_ L_ ({ frames := 2, cells := 0, slots := 0, locals := 30 } : Room).cells ({ frames := 2, cells := 0, slots := 0, locals := 30 } : Room).slots) (fun t_ k_ => castTop (ef_nai m a x (Int32.ofNat po)) k_) ?_
  show Gl p.tables e below _ (s₁.setTop (mkF m 0 #[sR a, sR x, sI (Int32.ofNat po)] []))
  refine Gl.go (fun _ hr => zXS_aloadN X0.here hx rfl (hb hby d4_0) rfl rfl hr) ?_
  have zz336 : n0 ≤ h0.size := by omega
  refine gSpecialN Gl.cl (y := (⟨"java/lang/Record", "<init>", "()V"⟩ : MethodName)) (b := a) (argsL := []) (rest := []) (mc := 0) (ms := 0) X0 hx hZ hown rfl (mvT hZ (tw hw 30 rfl)) (mvT hZ (tw hw 31 rfl)) (mvT hZ (tw hw 34 rfl)) (by decide) (backOf (W := 0) (rec l Z a0 hw [] a h0 n0 zz336 ) hZ (tw hw 34 rfl) (tw hw 33 rfl) (by decide) (by decide)) rfl (by rw [hml]; rfl) (lenOf pd_17 rfl) rfl (by show 2 * 0 + _ ≤ _; exact Nat.le_of_eq rfl) (hb hby d4_1) rfl e0 (by decide) (by decide) ?_
  intro v336 T336 Lc336 hQ336 X336
  obtain ⟨rfl, Nq336, e336⟩ := hQ336
  have N336 := Fr.app N0 Nq336
  refine Gl.go (fun _ hr => zXS_aloadN X336.here hx rfl (hb hby d4_4) rfl rfl (zXS_aloadN X336.here hx rfl (hb hby d4_5) rfl rfl hr)) ?_
  refine gPutF (host := "") Gl.cl X336 hx hZ hown (Or.inl (tw hw 36 rfl)) Via.refl e336 q2 q1 (Or.inr ⟨(tw hw 37 rfl), rfl, hnm⟩) (tw hw 25 rfl) (ty := (.object "java/lang/String")) (by decide) rfl rfl rfl rfl (hb hby d4_6) ?_
  intro T337 h337 X337 e337 W337
  have z338 : h0.size ≤ h337.size := (Keep.of_wr W337).1
  have Fw337 := q2.same W337
  have om339 : @LE.le Nat instLENat n0 a := by omega
  have N337 := Fr.snoc X337 N336 (own_ale om339)
  refine Gl.go (fun _ hr => zXS_aloadN X337.here hx rfl (hb hby d4_9) rfl rfl (zXS_iloadN X337.here hx rfl (hb hby d4_10) rfl hr)) ?_
  have Fc340 := (q3.other W337 (Or.inr (slot_ne (Or.inr (tw hw 39 rfl)) (Or.inr (tw hw 37 rfl)) (by decide) (t := .int) (t' := (.object "java/lang/String")) (by decide) (by decide))))
  have Ec341 := (q1.wr W337)
  refine gPutF (host := "") Gl.cl X337 hx hZ hown (Or.inl (tw hw 38 rfl)) Via.refl e337 Fc340 Ec341 (Or.inr ⟨(tw hw 39 rfl), rfl, hnm⟩) (tw hw 25 rfl) (ty := .int) (by decide) rfl rfl rfl rfl (hb hby d4_11) ?_
  intro T342 h342 X342 e342 W342
  have z343 : h337.size ≤ h342.size := (Keep.of_wr W342).1
  have Fw342 := Fc340.same W342
  have N342 := Fr.snoc X342 N337 (own_ale om339)
  have Ec344 := (Ec341.wr W342)
  have Fc345 := (Fw337.other W342 (Or.inr (slot_ne (Or.inr (tw hw 37 rfl)) (Or.inr (tw hw 39 rfl)) (by decide) (t := (.object "java/lang/String")) (t' := .int) (by decide) (by decide))))
  obtain ⟨fs, hr, hrun, hended, hW, hsame⟩ := X342.leave (v := none) (fun _ => rfl)
  refine ⟨_, _, X342.returnOut hx Bd.returns (hb hby d4_14) hr, hrun, hended, _, _, rfl, ?_, ⟨⟨_, rfl⟩, hW, hsame.mono (by decide) (by decide)⟩⟩
  show Qnai Z a x po h0 n0 _ T342.heap _
  rw [e342]
  exact ⟨rfl, N342, (((Keep.refl h0 [a]).wr W337 (Or.inl (by simp))).wr W342 (Or.inl (by simp))), Ec344, Fc345, Fw342⟩
def Qtos (Z : State) (a : Addr) (x : Addr) (t : Addr) (kb : ClassId) (hs : List Int32) (po : Nat) (G1 : Int32) (d1 : Addr) (d2 : Addr) (k1 : ClassId) (k2 : ClassId) (h0 : Heap) (n0 : Nat) (v : Option Value) (h : Heap) (vm : Vm) (L : List Loc) : Prop := ∃ (r : Addr), ∃ (t2 : Addr), ∃ (kr : ClassId), ∃ (N2 : Int32), ∃ (vs2 : List Value), v = some (.ref r) ∧ Fr n0 L ∧ Keep h0 h [] ∧ (@LE.le Nat instLENat n0 r) ∧ (Exa Z h r "java/lang/String") ∧ (Fld Z h r "java/lang/String" "value" "[B" (.ref t2)) ∧ (Fld Z h r "java/lang/String" "coder" "B" (.int (0 : Int32))) ∧ (Arv Z h t2 kr .byte N2 vs2 (.int 0)) ∧ (StrChars.Road.CodA (naT hs po) 0 N2 vs2) ∧ (@LE.le Nat instLENat h0.size r ∧ @LE.le Nat instLENat h0.size t2)
set_option maxRecDepth 65536 in
theorem own_hstr : ∀ d ∈ Bundle.stringAtoms, d ∈ tables_1 := by decide +kernel
theorem ef_tos (m : MethodId) (x0 : Addr) : entryFrame m #[(.ref x0)] 1 = mkF m 0 #[sR x0] [] := by first | (simp [entryFrame, mkF, argsToLocals, Value.category]; done) | rfl
theorem d6_0 : decode prog_17_method_3_code 0 = .ok (.new 48, 3) := by decide +kernel
theorem d6_3 : decode prog_17_method_3_code 3 = .ok (.dup, 1) := by decide +kernel
theorem d6_4 : decode prog_17_method_3_code 4 = .ok (.invokespecial 50, 3) := by decide +kernel
theorem d6_7 : decode prog_17_method_3_code 7 = .ok (.aload_n 0, 1) := by decide +kernel
theorem d6_8 : decode prog_17_method_3_code 8 = .ok (.getfield 7, 3) := by decide +kernel
theorem d6_11 : decode prog_17_method_3_code 11 = .ok (.invokevirtual 53, 3) := by decide +kernel
theorem pd_18 : parseMethodDescriptor "(Ljava/lang/String;)Ljava/lang/StringBuilder;" = some ⟨[(.object "java/lang/String")], some (.object "java/lang/StringBuilder")⟩ := by decide +kernel
theorem d6_14 : decode prog_17_method_3_code 14 = .ok (.ldc 66, 2) := by decide +kernel
theorem d6_16 : decode prog_17_method_3_code 16 = .ok (.invokevirtual 53, 3) := by decide +kernel
theorem d6_19 : decode prog_17_method_3_code 19 = .ok (.aload_n 0, 1) := by decide +kernel
theorem d6_20 : decode prog_17_method_3_code 20 = .ok (.getfield 13, 3) := by decide +kernel
theorem d6_23 : decode prog_17_method_3_code 23 = .ok (.invokevirtual 68, 3) := by decide +kernel
theorem pd_19 : parseMethodDescriptor "(I)Ljava/lang/StringBuilder;" = some ⟨[.int], some (.object "java/lang/StringBuilder")⟩ := by decide +kernel
theorem d6_26 : decode prog_17_method_3_code 26 = .ok (.invokevirtual 59, 3) := by decide +kernel
theorem pd_20 : parseMethodDescriptor "()Ljava/lang/String;" = some ⟨[], some (.object "java/lang/String")⟩ := by decide +kernel
theorem d6_29 : decode prog_17_method_3_code 29 = .ok (.areturn, 1) := by decide +kernel
set_option maxRecDepth 65536 in
set_option maxHeartbeats 40000000 in
theorem tos (l : Launch) (Z : State) (a0 : Array Value) (hw : ∀ d ∈ tables_1, d.before a0 Z = true) (ws : List Jvm.Cond) (a : Addr) (x : Addr) (t : Addr) (kb : ClassId) (hs : List Int32) (po : Nat) (G1 : Int32) (d1 : Addr) (d2 : Addr) (k1 : ClassId) (k2 : ClassId) (h0 : Heap) (n0 : Nat) (Z0 : n0 ≤ h0.size) (q0 : Sta Z Z.heap "java/lang/String" "COMPACT_STRINGS" "Z" (.int G1)) (P5 : ¬ (G1 = (0 : Int32))) (q2 : (Old Z Z.heap.size h0 ∧ @LE.le Nat instLENat Z.heap.size n0)) (q3 : Sta Z Z.heap "java/lang/Integer" "DigitOnes" "[B" (.ref d1)) (q4 : Sta Z Z.heap "java/lang/Integer" "DigitTens" "[B" (.ref d2)) (q5 : Arv Z Z.heap d1 k1 .byte (100 : Int32) ones (.int 0)) (q6 : Arv Z Z.heap d2 k2 .byte (100 : Int32) tens (.int 0)) (hcw : Jvm.Lit.compactW.before a0 Z = true) (hc66 : Jvm.Lit.constHeld Z "org/latchkey/redis/NodeAddress" 66) (q9 : Exa Z h0 a "org/latchkey/redis/NodeAddress") (q10 : Fld Z h0 a "org/latchkey/redis/NodeAddress" "host" "Ljava/lang/String;" (.ref x)) (q11 : Fld Z h0 a "org/latchkey/redis/NodeAddress" "port" "I" (.int (Int32.ofNat po))) (q12 : Exa Z h0 x "java/lang/String") (q13 : Fld Z h0 x "java/lang/String" "value" "[B" (.ref t)) (q14 : Fld Z h0 x "java/lang/String" "coder" "B" (.int (0 : Int32))) (q15 : Arv Z h0 t kb .byte (Int32.ofNat hs.length) (lb hs) (.int 0)) (hlat : ∀ c ∈ hs, Lat c) (hh3 : hs.length ≤ 3) (hp : po < 65536) :
    MetFree l (⟨"org/latchkey/redis/NodeAddress", "toString", "()Ljava/lang/String;"⟩ : MethodName) (head1 (Jvm.Cond.code (⟨"org/latchkey/redis/NodeAddress", "toString", "()Ljava/lang/String;"⟩ : MethodName) prog_17_method_3_code 1 (some (.object "java/lang/String")) :: ws) ({ frames := 6, cells := 8, slots := 80, locals := 140 } : Room)) (fun a_ U_ => a_ = #[(.ref a)] ∧ Z.Warmed39 U_.vm ∧ U_.heap = h0 ∧ IbJ Z U_.vm h0) (fun _ _ _ _ _ => True) (fun _ U_ o_ V_ => ∃ v_ L_, o_ = .returned v_ ∧ Qtos Z a x t kb hs po G1 d1 d2 k1 k2 h0 n0 v_ V_.heap V_.vm L_ ∧ ReturnedEndW U_ o_ V_ L_ ({ frames := 6, cells := 8, slots := 80, locals := 140 } : Room).cells ({ frames := 6, cells := 8, slots := 80, locals := 140 } : Room).slots) := by
  refine MetFree.of_bodySF (plainFor_of_name pn_6) hisR ?_
  intro p e s m args below meth c s₁ Bd hml0 hP hK
  obtain ⟨rfl, hZ, hh, hphi_ib⟩ := hP
  have hx := Bd.exec
  have hby := Bd.bytes
  have hml : c.maxLocals = 1 := hml0
  have hown : s.vm.findClass "org/latchkey/redis/NodeAddress" = some m.cls := findClass_of_methodNamed Bd.named
  have hnm := (name_of_methodNamed Bd.named Bd.method).1
  have X0 : Stand p l e ({ frames := 6, cells := 8, slots := 80, locals := 140 } : Room) (s.setVm s.vm) m #[(.ref a)] below meth c s₁ [] 0 0 := Stand.of_body Bd
  have e0 : s₁.heap = h0 := by rw [← hh, Bd.state]; rfl
  obtain ⟨n1, hn1⟩ : ∃ n, n = h0.size := ⟨_, rfl⟩
  have N0 := Fr.nil n1
  have hS0 : s.Since s.vm h0.size := (State.WarmedH.refl s).since _
  have hk0 : h0.size ≤ h0.size := Nat.le_refl _
  have Oo := q2.1
  have zo := q2.2
  have lt346 := own_alt q5.lt
  have lt347 := own_alt q6.lt
  have lt348 := own_alt q9.lt
  have lt349 := own_alt q10.lt
  have lt350 := own_alt q11.lt
  have lt351 := own_alt q12.lt
  have lt352 := own_alt q13.lt
  have lt353 := own_alt q14.lt
  have lt354 := own_alt q15.lt
  have hstr : ∀ d ∈ Bundle.stringAtoms, d.before a0 Z = true := fun d hd => hw d (own_hstr d hd)
  have hcd : StrChars.Road.CodA hs 0 (Int32.ofNat hs.length) (lb hs) := StrChars.Road.codOf rfl (fun c hc => (hlat c hc).2)
  have hbd : ∀ c ∈ hs, Wid c := own_up hlat
  have hln4 : hs.length ≤ 4000 := by omega
  have hnd5 := nd_le po
  refine Gl.go (A := s₁.setTop (entryFrame m #[(.ref a)] 1)) (P := fun o_ U_ => ∃ v_ L_, o_ = .returned v_ ∧ Qtos Z a x t kb hs po G1 d1 d2 k1 k2 h0 n0 v_ U_.heap U_.vm L_ ∧ ReturnedEndW s o_ U_ L_ ({ frames := 6, cells := 8, slots := 80, locals := 140 } : Room).cells ({ frames := 6, cells := 8, slots := 80, locals := 140 } : Room).slots) (fun t_ k_ => castTop (ef_tos m a) k_) ?_
  show Gl p.tables e below _ (s₁.setTop (mkF m 0 #[sR a] []))
  refine gNew Gl.cl X0 hx hZ hown (tw hw 45 rfl) (tw hw 46 rfl) (tw hw 47 rfl) e0 rfl (hb hby d6_0) (by decide) (by decide) ?_
  intro T355 h355 b355 g355 X355 e355 E355 A355 D355
  have z356 : h0.size ≤ h355.size := E355.1
  have lt355 := own_alt A355.lt
  have F355_value : Fld Z h355 b355 "java/lang/AbstractStringBuilder" "value" "[B" .null := D355 (Or.inl (tw hw 60 rfl)) (ty := (.array .byte)) (by decide)
  have F355_coder : Fld Z h355 b355 "java/lang/AbstractStringBuilder" "coder" "B" (.int (0 : Int32)) := D355 (Or.inl (tw hw 62 rfl)) (ty := .byte) (by decide)
  have F355_count : Fld Z h355 b355 "java/lang/AbstractStringBuilder" "count" "I" (.int (0 : Int32)) := D355 (Or.inl (tw hw 85 rfl)) (ty := .int) (by decide)
  refine Gl.go (fun _ hr => zXS_dup X355.here hx rfl (hb hby d6_3) rfl rfl hr) ?_
  have Oc358 := (Oo.ext E355)
  have zz357 : n1 ≤ h355.size := by omega
  refine gSpecialN Gl.cl (y := (⟨"java/lang/StringBuilder", "<init>", "()V"⟩ : MethodName)) (b := b355) (argsL := []) (rest := [(.ref b355)]) (mc := 1) (ms := 16) X355 hx hZ hown rfl (mvT hZ (tw hw 48 rfl)) (mvT hZ (tw hw 49 rfl)) (mvT hZ (tw hw 50 rfl)) (by decide) (backOf (W := 1) (sbi l Z a0 hw [] b355 G1 h355 n1 zz357 q0 (by assumption) ⟨Oc358, (by omega)⟩ (by omega) A355 F355_value F355_coder F355_count) hZ (tw hw 50 rfl) (tw hw 47 rfl) (by decide) (by decide)) rfl (by rw [hml]; rfl) (lenOf pd_17 rfl) rfl (by show 2 * 0 + _ ≤ _; exact Nat.le_of_eq rfl) (hb hby d6_4) rfl e355 (by decide) (by decide) ?_
  intro v357 T357 Lc357 hQ357 X357
  obtain ⟨a_357, ka_357, rfl, Nq357, K357, f357_0, f357_1, f357_2, f357_3, f357_4, f357_5, f357_6⟩ := hQ357
  have z359 : h355.size ≤ T357.heap.size := K357.1
  have N357 := Fr.app N0 Nq357
  have lt360 := own_alt f357_2.lt
  have lt361 := own_alt f357_3.lt
  have lt362 := own_alt f357_4.lt
  have lt363 := own_alt f357_5.lt
  have lt364 := own_alt f357_6.lt
  refine Gl.go (fun _ hr => zXS_aloadN X357.here hx rfl (hb hby d6_7) rfl rfl hr) ?_
  have om365 : ¬ @Eq Nat a b355 := by omega
  have Fc366 := ((q10.ext E355).keep K357 (ninS (own_ane om365) nin0))
  refine gGetF (host := "") Gl.cl X357 hx hZ hown (Or.inl (tw hw 36 rfl)) Via.refl (rfl : T357.heap = T357.heap) Fc366 rfl rfl (hb hby d6_8) ?_
  intro T367 X367 e367
  have om369 : @LE.le Nat instLENat Z.heap.size b355 := by omega
  have Oc370 := (Oc358.keep K357 (allS (own_ale om369) all0))
  have Ec371 := ((q12.ext E355).keep K357)
  have om372 : ¬ @Eq Nat x b355 := by omega
  have Fc373 := ((q13.ext E355).keep K357 (ninS (own_ane om372) nin0))
  have Fc374 := ((q14.ext E355).keep K357 (ninS (own_ane om372) nin0))
  have om375 : ¬ @Eq Nat t b355 := by omega
  have Vc376 := ((q15.ext E355).keep K357 (ninS (own_ane om375) nin0))
  have zz368 : n1 ≤ T357.heap.size := by omega
  refine gVirtualN Gl.cl (y := (⟨"java/lang/StringBuilder", "append", "(Ljava/lang/String;)Ljava/lang/StringBuilder;"⟩ : MethodName)) (z := (⟨"java/lang/StringBuilder", "append", "(Ljava/lang/String;)Ljava/lang/StringBuilder;"⟩ : MethodName)) (b := b355) (argsL := [(.ref x)]) (rest := []) (mc := 0) (ms := 0) X367 hx hZ hown (mvT hZ (tw hw 63 rfl)) (mvT hZ (tw hw 64 rfl)) (notFace_of_selects (args := #[]) (mvT hZ (tw hw 66 rfl))) (mvT hZ (tw hw 66 rfl)) (mvT hZ (tw hw 65 rfl)) (by decide) f357_2 (backOf (W := 0) (sbs l Z a0 hw [] b355 a_357 ka_357 0 ([]) x t kb hs G1 T357.heap n1 zz368 q0 (by assumption) ⟨Oc370, (by omega)⟩ f357_2 f357_3 f357_4 f357_5 f357_6 (by omega) (by omega) (by omega) rfl Ec371 Fc373 Fc374 Vc376 (by omega) (by omega) (by omega) (by omega) (by omega) hlat) hZ (tw hw 67 rfl) (tw hw 47 rfl) (by decide) (by decide)) rfl (by rw [hml]; rfl) (lenOf pd_18 rfl) rfl (by show 2 * 0 + _ ≤ _; exact Nat.le_of_eq rfl) (hb hby d6_11) rfl e367 (by decide) (by decide) ?_
  intro v368 T368 Lc368 hQ368 X368
  obtain ⟨rfl, Nq368, K368, f368_0, f368_1, f368_2, f368_3, f368_4⟩ := hQ368
  have z377 : T357.heap.size ≤ T368.heap.size := K368.1
  have N368 := Fr.app N357 Nq368
  have lt378 := own_alt f368_0.lt
  have lt379 := own_alt f368_1.lt
  have lt380 := own_alt f368_2.lt
  have lt381 := own_alt f368_3.lt
  have lt382 := own_alt f368_4.lt
  have om385 : @LE.le Nat instLENat h0.size b355 := by omega
  have om386 : @LE.le Nat instLENat h0.size a_357 := by omega
  have ph384 := hphi_ib.keep ((((Keep.refl h0 []).ext E355).trans K357 (allS (P := fun x_ => x_ ∈ ([] : List Addr) ∨ h0.size ≤ x_) (Or.inr (own_ale om385)) all0)).trans K368 (allS (P := fun x_ => x_ ∈ ([] : List Addr) ∨ h0.size ≤ x_) (Or.inr (own_ale om385)) (allS (P := fun x_ => x_ ∈ ([] : List Addr) ∨ h0.size ≤ x_) (Or.inr (own_ale om386)) all0)))
  obtain ⟨a383, T383, h383, k383, t383, kb383, X383, e383, E383, hS383, hk383, hZ383, hown383, lE383, lC383, lV383, lA383, -, -, -, st383⟩ := ldcSV X368 hx hZ hown (tw hw 111 rfl) hstr (rfl : T368.heap = T368.heap) hS0 (by have q := hk0; omega) (by have q := N368; rw [hn1, ← hh] at q; exact q) (fun b cl q => hh ▸ Oo.2.2 _ _ q) ph384 (by decide) hc66 hcw (vs := ((([(58 : Int32)] : List Int32).map (fun c => c.toInt8.toInt32)).map Value.int)) (z := (1 : Int32)) ⟨by decide +kernel, by decide +kernel⟩ (by decide) rfl (g := (mkF m 14 #[sR a] [(.ref b355)])) rfl (hb hby d6_14) (n := 4) (by decide +kernel) (by decide) (by decide) (by decide)
  have z387 : T368.heap.size ≤ h383.size := E383.1
  have lt388 := own_alt lE383.lt
  have lt389 := own_alt lC383.lt
  have lt390 := own_alt lV383.lt
  have lt391 := own_alt lA383.lt
  have hp392 : ∀ c ∈ ([(58 : Int32)] : List Int32), Lat c := by decide
  have hcd392 : StrChars.Road.CodA ([(58 : Int32)] : List Int32) 0 (1 : Int32) ((([(58 : Int32)] : List Int32).map (fun c => c.toInt8.toInt32)).map Value.int) := StrChars.Road.codOf (n := 1) rfl (fun c hc => (hp392 c hc).2)
  have hbd392 : ∀ c ∈ ([(58 : Int32)] : List Int32), Wid c := own_up hp392
  refine Gl.go st383 ?_
  show Gl p.tables e below _ (T383.setTop (mkF m 16 #[sR a] [(.ref a383), (.ref b355)]))
  have Ec393 := (f368_0.ext E383)
  have Vc394 := (f368_4.ext E383)
  have ne395 := own_anq (Exa.ne Ec393 lE383 (by decide))
  have ne396 := own_anq (Exa.neArv Ec393 lA383 (tw hw 46 rfl))
  have ne397 := own_anq (Exa.neArv lE383 Vc394 (tw hw 2 rfl))
  have ne398 := own_arvne Vc394 lA383 (by decide)
  have om400 : @LE.le Nat instLENat Z.heap.size a_357 := by omega
  have Oc401 := ((Oc370.keep K368 (allS (own_ale om369) (allS (own_ale om400) all0))).ext E383)
  have Fc402 := (f368_1.ext E383)
  have Fc403 := (f368_2.ext E383)
  have Fc404 := (f368_3.ext E383)
  have zz399 : n1 ≤ h383.size := by omega
  refine gVirtualN Gl.cl (y := (⟨"java/lang/StringBuilder", "append", "(Ljava/lang/String;)Ljava/lang/StringBuilder;"⟩ : MethodName)) (z := (⟨"java/lang/StringBuilder", "append", "(Ljava/lang/String;)Ljava/lang/StringBuilder;"⟩ : MethodName)) (b := b355) (argsL := [(.ref a383)]) (rest := []) (mc := 0) (ms := 0) X383 hx hZ383 hown383 (mvT hZ383 (tw hw 63 rfl)) (mvT hZ383 (tw hw 64 rfl)) (notFace_of_selects (args := #[]) (mvT hZ383 (tw hw 66 rfl))) (mvT hZ383 (tw hw 66 rfl)) (mvT hZ383 (tw hw 65 rfl)) (by decide) Ec393 (backOf (W := 0) (sbs l Z a0 hw [] b355 a_357 ka_357 (0 + hs.length) ([] ++ lb hs) a383 t383 kb383 ([(58 : Int32)] : List Int32) G1 h383 n1 zz399 q0 (by assumption) ⟨Oc401, (by omega)⟩ Ec393 Fc402 Fc403 Fc404 Vc394 (by omega) (by omega) (by omega) (by simp [lb_len]) lE383 lV383 lC383 lA383 (by omega) (by omega) (by omega) (by omega) (by simp only [List.length_cons, List.length_nil]; omega) hp392) hZ383 (tw hw 67 rfl) (tw hw 47 rfl) (by decide) (by decide)) rfl (by rw [hml]; rfl) (lenOf pd_18 rfl) rfl (by show 2 * 0 + _ ≤ _; exact Nat.le_of_eq rfl) (hb hby d6_16) rfl e383 (by decide) (by decide) ?_
  intro v399 T399 Lc399 hQ399 X399
  obtain ⟨rfl, Nq399, K399, f399_0, f399_1, f399_2, f399_3, f399_4⟩ := hQ399
  have z405 : h383.size ≤ T399.heap.size := K399.1
  have N399 := Fr.app N368 Nq399
  have lt406 := own_alt f399_0.lt
  have lt407 := own_alt f399_1.lt
  have lt408 := own_alt f399_2.lt
  have lt409 := own_alt f399_3.lt
  have lt410 := own_alt f399_4.lt
  refine Gl.go (fun _ hr => zXS_aloadN X399.here hx rfl (hb hby d6_19) rfl rfl hr) ?_
  have om411 : ¬ @Eq Nat a a_357 := by omega
  have Fc412 := (((((q11.ext E355).keep K357 (ninS (own_ane om365) nin0)).keep K368 (ninS (own_ane om365) (ninS (own_ane om411) nin0))).ext E383).keep K399 (ninS (own_ane om365) (ninS (own_ane om411) nin0)))
  refine gGetF (host := "") Gl.cl X399 hx hZ383 hown383 (Or.inl (tw hw 38 rfl)) Via.refl (rfl : T399.heap = T399.heap) Fc412 rfl rfl (hb hby d6_20) ?_
  intro T413 X413 e413
  have Oc415 := (Oc401.keep K399 (allS (own_ale om369) (allS (own_ale om400) all0)))
  have zz414 : n1 ≤ T399.heap.size := by omega
  refine gVirtualN Gl.cl (y := (⟨"java/lang/StringBuilder", "append", "(I)Ljava/lang/StringBuilder;"⟩ : MethodName)) (z := (⟨"java/lang/StringBuilder", "append", "(I)Ljava/lang/StringBuilder;"⟩ : MethodName)) (b := b355) (argsL := [(.int (Int32.ofNat po))]) (rest := []) (mc := 0) (ms := 0) X413 hx hZ383 hown383 (mvT hZ383 (tw hw 112 rfl)) (mvT hZ383 (tw hw 113 rfl)) (notFace_of_selects (args := #[]) (mvT hZ383 (tw hw 115 rfl))) (mvT hZ383 (tw hw 115 rfl)) (mvT hZ383 (tw hw 114 rfl)) (by decide) f399_0 (backOf (W := 0) (sba l Z a0 hw [] b355 a_357 ka_357 ((0 + hs.length) + ([(58 : Int32)] : List Int32).length) (([] ++ lb hs) ++ lb ([(58 : Int32)] : List Int32)) po G1 d1 d2 k1 k2 T399.heap n1 zz414 q0 (by assumption) ⟨Oc415, (by omega)⟩ q3 q4 q5 q6 f399_0 f399_1 f399_2 f399_3 f399_4 (by omega) (by omega) (by omega) (by simp [lb_len]) hp (by simp only [List.length_cons, List.length_nil]; omega)) hZ383 (tw hw 116 rfl) (tw hw 47 rfl) (by decide) (by decide)) rfl (by rw [hml]; rfl) (lenOf pd_19 rfl) rfl (by show 2 * 0 + _ ≤ _; exact Nat.le_of_eq rfl) (hb hby d6_23) rfl e413 (by decide) (by decide) ?_
  intro v414 T414 Lc414 hQ414 X414
  obtain ⟨rfl, Nq414, K414, f414_0, f414_1, f414_2, f414_3, f414_4⟩ := hQ414
  have z416 : T399.heap.size ≤ T414.heap.size := K414.1
  have N414 := Fr.app N399 Nq414
  have lt417 := own_alt f414_0.lt
  have lt418 := own_alt f414_1.lt
  have lt419 := own_alt f414_2.lt
  have lt420 := own_alt f414_3.lt
  have lt421 := own_alt f414_4.lt
  have Oc423 := (Oc415.keep K414 (allS (own_ale om369) (allS (own_ale om400) all0)))
  have zz422 : n1 ≤ T414.heap.size := by omega
  refine gVirtualN Gl.cl (y := (⟨"java/lang/StringBuilder", "toString", "()Ljava/lang/String;"⟩ : MethodName)) (z := (⟨"java/lang/StringBuilder", "toString", "()Ljava/lang/String;"⟩ : MethodName)) (b := b355) (argsL := []) (rest := []) (mc := 2) (ms := 20) X414 hx hZ383 hown383 (mvT hZ383 (tw hw 134 rfl)) (mvT hZ383 (tw hw 135 rfl)) (notFace_of_selects (args := #[]) (mvT hZ383 (tw hw 137 rfl))) (mvT hZ383 (tw hw 137 rfl)) (mvT hZ383 (tw hw 136 rfl)) (by decide) f414_0 (backOf (W := 0) (ts l Z a0 hw [] b355 a_357 ka_357 (((0 + hs.length) + ([(58 : Int32)] : List Int32).length) + nd po) ((([] ++ lb hs) ++ lb ([(58 : Int32)] : List Int32)) ++ lb (digs po)) G1 T414.heap n1 zz422 q0 (by assumption) ⟨Oc423, (by omega)⟩ f414_0 f414_1 f414_2 f414_3 f414_4 (by simp only [List.length_append, List.length_nil, lb_len, digs_len]) (by simp only [List.length_cons, List.length_nil]; omega)) hZ383 (tw hw 138 rfl) (tw hw 47 rfl) (by decide) (by decide)) rfl (by rw [hml]; rfl) (lenOf pd_20 rfl) rfl (by show 2 * 0 + _ ≤ _; exact Nat.le_of_eq rfl) (hb hby d6_26) rfl (rfl : T414.heap = T414.heap) (by decide) (by decide) ?_
  intro v422 T422 Lc422 hQ422 X422
  obtain ⟨r_422, t_422, kr_422, rfl, Nq422, K422, f422_0, f422_1, f422_2, f422_3, f422_4, f422_5⟩ := hQ422
  have z424 : T414.heap.size ≤ T422.heap.size := K422.1
  have N422 := Fr.app N414 Nq422
  have lt425 := own_alt f422_1.lt
  have lt426 := own_alt f422_2.lt
  have lt427 := own_alt f422_3.lt
  have lt428 := own_alt f422_4.lt
  obtain ⟨fs, hr, hrun, hended, hE⟩ := X422.leaveW hS383 (by have q := congrArg Array.size (rfl : T422.heap = T422.heap); have q2 := hk383; omega) (v := some (.ref r_422)) (fun h => by rw [Bd.returns] at h; cases h)
  refine ⟨_, _, retOut X422 hx Bd.returns rfl (Or.inr (Or.inr (Or.inr (Or.inr ⟨rfl, rfl, rfl⟩)))) (hb hby d6_29) hr, hrun, hended, _, _, rfl, ?_, ⟨hE.1, hE.2.1, hE.2.2.1, hE.2.2.2.mono (by decide) (by decide)⟩⟩
  show Qtos Z a x t kb hs po G1 d1 d2 k1 k2 h0 n0 _ T422.heap T422.vm _
  exact ⟨r_422, t_422, kr_422, (Int32.ofNat (((0 + hs.length) + ([(58 : Int32)] : List Int32).length) + nd po)), ((([] ++ lb hs) ++ lb ([(58 : Int32)] : List Int32)) ++ lb (digs po)), rfl, (fun y hy => Nat.le_trans (by omega : n0 ≤ n1) (N422 y hy)), ((((((((Keep.refl h0 []).ext E355).trans K357 (allS (P := fun x_ => x_ ∈ ([] : List Addr) ∨ h0.size ≤ x_) (Or.inr (own_ale om385)) all0)).trans K368 (allS (P := fun x_ => x_ ∈ ([] : List Addr) ∨ h0.size ≤ x_) (Or.inr (own_ale om385)) (allS (P := fun x_ => x_ ∈ ([] : List Addr) ∨ h0.size ≤ x_) (Or.inr (own_ale om386)) all0))).ext E383).trans K399 (allS (P := fun x_ => x_ ∈ ([] : List Addr) ∨ h0.size ≤ x_) (Or.inr (own_ale om385)) (allS (P := fun x_ => x_ ∈ ([] : List Addr) ∨ h0.size ≤ x_) (Or.inr (own_ale om386)) all0))).trans K414 (allS (P := fun x_ => x_ ∈ ([] : List Addr) ∨ h0.size ≤ x_) (Or.inr (own_ale om385)) (allS (P := fun x_ => x_ ∈ ([] : List Addr) ∨ h0.size ≤ x_) (Or.inr (own_ale om386)) all0))).trans K422 all0), (by omega), f422_1, f422_2, f422_3, f422_4, (naT_cod hlat), ⟨by omega, by omega⟩⟩
theorem own_lt32' {a b : Nat} (ha : a < 2 ^ 31) (hb : b < 2 ^ 31) (h : Int32.ofNat a < Int32.ofNat b) : a < b := by
  rw [Int32.lt_iff_toInt_lt, own_toI hb, own_toI ha] at h; omega
theorem own_nar_i2c (x : Int32) : nar .char (x.toUInt32.toUInt16.toUInt32.toInt32) = x.toUInt32.toUInt16.toUInt32.toInt32 := by
  apply Int32.toInt_inj.mp
  have q1 := c_i2c x
  have q2 := c_i2c (x.toUInt32.toUInt16.toUInt32.toInt32)
  show ((x.toUInt32.toUInt16.toUInt32.toInt32).toUInt32.toUInt16.toUInt32.toInt32).toInt = _
  omega
theorem own_fit_i2c (x : Int32) : fits .char (.int (x.toUInt32.toUInt16.toUInt32.toInt32)) = true := by rw [← own_nar_i2c]; exact fits_nar_char _
theorem own_lat (x : Int32) : Lat ((x &&& (255 : Int32)).toUInt32.toUInt16.toUInt32.toInt32) := by rw [← own_nar_i2c]; exact own_lat255 x
theorem own_fitn {c : Int32} (h : nar .char c = c) : fits .char (.int c) = true := by rw [← h]; exact fits_nar_char _
theorem dch_narc (x : Nat) : nar .char (dch x) = dch x := own_tenth (fun c => nar .char c = c) (by decide) x
theorem dch_fitc (x : Nat) : fits .char (.int (dch x)) = true := by rw [← dch_narc]; exact fits_nar_char _
theorem own_chr (x : Nat) : ((48 : Int32) + Int32.ofNat (x % 10)).toUInt32.toUInt16.toUInt32.toInt32 = dch x := by
  have t : ∀ k : Fin 10, ((48 : Int32) + Int32.ofNat k.val).toUInt32.toUInt16.toUInt32.toInt32 = Int32.ofNat (48 + k.val) := by decide
  exact t ⟨x % 10, Nat.mod_lt _ (by decide)⟩
theorem own_dm {p c : Nat} {l : Int32} (hl : l.toInt = c) (hc : 0 < c) (hp : p < 65536) : (Int32.ofNat p / l) % (10 : Int32) = Int32.ofNat (p / c % 10) := by
  obtain ⟨q, hq⟩ : ∃ q, q = p / c := ⟨_, rfl⟩
  have hle : q ≤ p := by rw [hq]; exact Nat.div_le_self p c
  have d : Int32.ofNat p / l = Int32.ofNat q := by
    apply Int32.toInt_inj.mp
    rw [Int32.toInt_div, own_toI (by omega), own_toI (k := q) (by omega), hl]
    have e2 : (p : Int).tdiv (c : Int) = (q : Int) := by rw [hq, Int.tdiv_eq_ediv_of_nonneg (by omega)]; simp
    rw [e2]
    exact Int.bmod_eq_of_le (by omega) (by omega)
  rw [d, ← hq]
  have q1 := (c_irem (Int32.ofNat q) 10 10 rfl).1 (by rw [own_toI (by omega)]; omega)
  apply Int32.toInt_inj.mp
  rw [q1, own_toI (by omega), own_toI (by omega)]
  simp
theorem own_dm1 {p : Nat} (hp : p < 65536) : Int32.ofNat p % (10 : Int32) = Int32.ofNat (p % 10) := by
  have q := (c_irem (Int32.ofNat p) 10 10 rfl).1 (by rw [own_toI (by omega)]; omega)
  apply Int32.toInt_inj.mp
  rw [q, own_toI (by omega), own_toI (by omega)]
  simp
theorem own_port (x : Int32) : ∃ po : Nat, ((x &&& (2147483647 : Int32)) % (65535 : Int32)) + (1 : Int32) = Int32.ofNat po ∧ 0 < po ∧ po < 65536 := by
  have h0 := (c_and x 2147483647 (by decide)).1
  have q := (c_irem (x &&& 2147483647) 65535 65535 rfl).1 h0
  have b1 : 0 ≤ ((x &&& (2147483647 : Int32)) % (65535 : Int32)).toInt := by rw [q]; exact Int.emod_nonneg _ (by omega)
  have b2 : ((x &&& (2147483647 : Int32)) % (65535 : Int32)).toInt < 65535 := by rw [q]; exact Int.emod_lt_of_pos _ (by omega)
  refine ⟨((x &&& (2147483647 : Int32)) % (65535 : Int32)).toInt.toNat + 1, ?_, by omega, by omega⟩
  rw [Int32.ofNat_add]
  congr 1
  apply Int32.toInt_inj.mp
  rw [own_toI (by omega)]
  omega
theorem own_and3 (x : Int32) : (x &&& (3 : Int32)) = 0 ∨ (x &&& (3 : Int32)) = 1 ∨ (x &&& (3 : Int32)) = 2 ∨ (x &&& (3 : Int32)) = 3 := by
  have t : ∀ k : Fin 4, (Int32.ofNat k.val = 0 ∨ Int32.ofNat k.val = 1 ∨ Int32.ofNat k.val = 2 ∨ Int32.ofNat k.val = (3 : Int32)) := by decide
  have h : (x &&& 3).toBitVec.toNat < 4 := by
    simp only [Int32.toBitVec_and, BitVec.toNat_and]
    exact Nat.lt_succ_of_le Nat.and_le_right
  have e : (x &&& 3) = Int32.ofNat (x &&& 3).toBitVec.toNat := by
    apply Int32.toBitVec_inj.mp
    show _ = BitVec.ofNat 32 _
    rw [BitVec.ofNat_toNat]; simp
  rw [e]
  exact t ⟨_, h⟩

def Qokc (Z : State) (x : Addr) (t : Addr) (kb : ClassId) (N : Int32) (vs : List Value) (cs : List Int32) (ea : Addr) (ke : ClassId) (es : List Value) (ii : Nat) (tot : Nat) (G1 : Int32) (G3 : Value) (h0 : Heap) (n0 : Nat) (v : Option Value) (h : Heap) (L : List Loc) : Prop := v = some (.int (1 : Int32)) ∧ Fr n0 L ∧ h = h0
theorem pn_7 : plainName "org/latchkey/redis/NodeAddressToStringPinLaw" = true := by first | (simp [plainName, overriddenIn]; done) | decide +kernel
theorem ef_okc (m : MethodId) (x0 : Addr) (x1 : Int32) (x2 : Int32) (x3 : Addr) : entryFrame m #[(.ref x0), (.int x1), (.int x2), (.ref x3)] 4 = mkF m 0 #[sR x0, sI x1, sI x2, sR x3] [] := by first | (simp [entryFrame, mkF, argsToLocals, Value.category]; done) | rfl
theorem d32_0 : decode method_3_code 0 = .ok (.iload_n 1, 1) := by decide +kernel
theorem d32_1 : decode method_3_code 1 = .ok (.iload_n 2, 1) := by decide +kernel
theorem d32_2 : decode method_3_code 2 = .ok (.if_icmp .ge 14, 3) := by decide +kernel
theorem d32_5 : decode method_3_code 5 = .ok (.aload_n 0, 1) := by decide +kernel
theorem d32_6 : decode method_3_code 6 = .ok (.iload_n 1, 1) := by decide +kernel
theorem d32_7 : decode method_3_code 7 = .ok (.invokevirtual 33, 3) := by decide +kernel
theorem pd_21 : parseMethodDescriptor "(I)C" = some ⟨[.int], some .char⟩ := by decide +kernel
theorem d32_10 : decode method_3_code 10 = .ok (.aload_n 3, 1) := by decide +kernel
theorem d32_11 : decode method_3_code 11 = .ok (.iload_n 1, 1) := by decide +kernel
theorem d32_12 : decode method_3_code 12 = .ok (.caload, 1) := by decide +kernel
theorem d32_13 : decode method_3_code 13 = .ok (.if_icmp .ne 7, 3) := by decide +kernel
theorem d32_16 : decode method_3_code 16 = .ok (.iconst 1, 1) := by decide +kernel
theorem d32_17 : decode method_3_code 17 = .ok (.goto 4, 3) := by decide +kernel
theorem d32_21 : decode method_3_code 21 = .ok (.ireturn, 1) := by decide +kernel
set_option maxRecDepth 65536 in
set_option maxHeartbeats 40000000 in
theorem okc (l : Launch) (Z : State) (a0 : Array Value) (hw : ∀ d ∈ tables_1, d.before a0 Z = true) (ws : List Jvm.Cond) (x : Addr) (t : Addr) (kb : ClassId) (N : Int32) (vs : List Value) (cs : List Int32) (ea : Addr) (ke : ClassId) (es : List Value) (ii : Nat) (tot : Nat) (G1 : Int32) (G3 : Value) (h0 : Heap) (n0 : Nat) (Z0 : n0 ≤ h0.size) (q0 : Sta Z Z.heap "java/lang/String" "COMPACT_STRINGS" "Z" (.int G1)) (P5 : ¬ (G1 = (0 : Int32))) (q2 : (Old Z Z.heap.size h0 ∧ @LE.le Nat instLENat Z.heap.size n0)) (q3 : Sta Z Z.heap "jdk/internal/util/Preconditions" "SIOOBE_FORMATTER" "Ljava/util/function/BiFunction;" G3) (rG3 : G3.isRef = true) (q5 : Exa Z h0 x "java/lang/String") (q6 : Fld Z h0 x "java/lang/String" "value" "[B" (.ref t)) (q7 : Fld Z h0 x "java/lang/String" "coder" "B" (.int (0 : Int32))) (q8 : Arv Z h0 t kb .byte N vs (.int 0)) (q9 : Arv Z h0 ea ke .char (9 : Int32) es (.int 0)) (cod : StrChars.Road.CodA cs 0 N vs) (hlat : ∀ c ∈ cs, Lat c) (htot : cs.length = tot) (ht9 : tot ≤ 9) (hes : ∀ j, j < tot → es.getD j (.int 0) = .int (cs.getD j 0)) (hi9 : ii < 9) :
    MetFree l (⟨"org/latchkey/redis/NodeAddressToStringPinLaw", "ok", "(Ljava/lang/String;II[C)Z"⟩ : MethodName) (head1 (Jvm.Cond.code (⟨"org/latchkey/redis/NodeAddressToStringPinLaw", "ok", "(Ljava/lang/String;II[C)Z"⟩ : MethodName) method_3_code 4 (some .boolean) :: ws) ({ frames := 4, cells := 0, slots := 0, locals := 55 } : Room)) (fun a_ U_ => a_ = #[(.ref x), (.int (Int32.ofNat ii)), (.int (Int32.ofNat tot)), (.ref ea)] ∧ Z.Warmed39 U_.vm ∧ U_.heap = h0) (fun _ _ _ _ _ => True) (fun _ U_ o_ V_ => ∃ v_ L_, o_ = .returned v_ ∧ Qokc Z x t kb N vs cs ea ke es ii tot G1 G3 h0 n0 v_ V_.heap L_ ∧ FrameEnd U_ o_ V_ L_ ({ frames := 4, cells := 0, slots := 0, locals := 55 } : Room).cells ({ frames := 4, cells := 0, slots := 0, locals := 55 } : Room).slots) := by
  refine MetFree.of_bodySF (plainFor_of_name pn_7) hisR ?_
  intro p e s m args below meth c s₁ Bd hml0 hP hK
  obtain ⟨rfl, hZ, hh⟩ := hP
  have hx := Bd.exec
  have hby := Bd.bytes
  have hml : c.maxLocals = 4 := hml0
  have hown : s.vm.findClass "org/latchkey/redis/NodeAddressToStringPinLaw" = some m.cls := findClass_of_methodNamed Bd.named
  have hnm := (name_of_methodNamed Bd.named Bd.method).1
  have X0 : Stand p l e ({ frames := 4, cells := 0, slots := 0, locals := 55 } : Room) s m #[(.ref x), (.int (Int32.ofNat ii)), (.int (Int32.ofNat tot)), (.ref ea)] below meth c s₁ [] 0 0 := Stand.of_body Bd
  have e0 : s₁.heap = h0 := by rw [← hh, Bd.state]; rfl
  have N0 := Fr.nil n0
  have Oo := q2.1
  have zo := q2.2
  have lt429 := own_alt q5.lt
  have lt430 := own_alt q6.lt
  have lt431 := own_alt q7.lt
  have lt432 := own_alt q8.lt
  have lt433 := own_alt q9.lt
  have hch : ∀ d ∈ StrChars.Road.wordsChN, d.before a0 Z = true := fun d hd => hw d (own_hch d hd)
  have hbd : ∀ c ∈ cs, Wid c := own_up hlat
  have hln4 : cs.length ≤ 4000 := by omega
  refine Gl.go (A := s₁.setTop (entryFrame m #[(.ref x), (.int (Int32.ofNat ii)), (.int (Int32.ofNat tot)), (.ref ea)] 4)) (P := fun o_ U_ => ∃ v_ L_, o_ = .returned v_ ∧ Qokc Z x t kb N vs cs ea ke es ii tot G1 G3 h0 n0 v_ U_.heap L_ ∧ FrameEnd s o_ U_ L_ ({ frames := 4, cells := 0, slots := 0, locals := 55 } : Room).cells ({ frames := 4, cells := 0, slots := 0, locals := 55 } : Room).slots) (fun t_ k_ => castTop (ef_okc m x (Int32.ofNat ii) (Int32.ofNat tot) ea) k_) ?_
  show Gl p.tables e below _ (s₁.setTop (mkF m 0 #[sR x, sI (Int32.ofNat ii), sI (Int32.ofNat tot), sR ea] []))
  refine Gl.go (fun _ hr => zXS_iloadN X0.here hx rfl (hb hby d32_0) rfl (zXS_iloadN X0.here hx rfl (hb hby d32_1) rfl hr)) ?_
  by_cases hc434 : (Int32.ofNat ii) < (Int32.ofNat tot)
  · refine Gl.go (fun _ hr => zXS_icmpNo X0.here hx rfl (hb hby d32_2) rfl (XT.ii_ge_f hc434) hr) ?_
    have hit : ii < tot := own_lt32' (by omega) (by omega) hc434
    refine Gl.go (fun _ hr => zXS_aloadN X0.here hx rfl (hb hby d32_5) rfl rfl (zXS_iloadN X0.here hx rfl (hb hby d32_6) rfl hr)) ?_
    refine gVirtualN Gl.cl (y := (⟨"java/lang/String", "charAt", "(I)C"⟩ : MethodName)) (z := (⟨"java/lang/String", "charAt", "(I)C"⟩ : MethodName)) (b := x) (argsL := [(.int (Int32.ofNat ii))]) (rest := []) (mc := 0) (ms := 0) (Q := fun v h' L => v = some (.int (cs.getD ii 0)) ∧ L = [] ∧ h' = h0) X0 hx hZ hown (mvT hZ (tw hw 181 rfl)) (mvT hZ (tw hw 182 rfl)) (notFace_of_selects (args := #[]) (mvT hZ (tw hw 184 rfl))) (mvT hZ (tw hw 184 rfl)) (mvT hZ (tw hw 183 rfl)) (by decide) q5 (StrChars.Road.chN (W := 0) hZ hch (kI := 4) (tw hw 2 rfl) q5 q6 q7 q8 cod hbd (q0.ext Oo.2) P5 (q3.ext Oo.2) rG3 hln4 (i := ii) (by omega) (j := (Int32.ofNat ii)) rfl (by decide) (by decide)) rfl (by rw [hml]; rfl) (lenOf pd_21 rfl) rfl (by show 2 * 0 + _ ≤ _; exact Nat.le_of_eq rfl) (hb hby d32_7) rfl e0 (by decide) (by decide) ?_
    intro v435 T435 Lc435 hQ435 X435
    obtain ⟨rfl, rfl, e435⟩ := hQ435
    have N435 := own_fr_nil N0
    refine Gl.go (fun _ hr => zXS_aloadN X435.here hx rfl (hb hby d32_10) rfl rfl (zXS_iloadN X435.here hx rfl (hb hby d32_11) rfl hr)) ?_
    obtain ⟨c436, a436, q436, s436, m436, H436, U436⟩ := id q9
    have i436 := inb_of s436 (j := (Int32.ofNat ii)) ⟨own_nn (by omega), own_lt32 (b := 9) (by omega) (by omega)⟩
    refine g_caload Gl.cl X435 hx hZ e435 a436 i436 (v := (.int (cs.getD ii 0))) (H436.at i436 (by rw [own_nat32 (by omega)]; exact hes ii hit)) rfl rfl (hb hby d32_12) ?_
    refine Gl.go (fun _ hr => zXS_icmpNo X435.here hx rfl (hb hby d32_13) rfl (XT.ii_ne_f rfl) (zXS_iconst X435.here hx rfl (hb hby d32_16) (zXS_goto X435.here hx rfl (pc0 := 17) (pc' := 21) rfl (hb hby d32_17) (by decide) (by decide) hr))) ?_
    obtain ⟨fs, hr, hrun, hended, hW, hsame⟩ := X435.leave (v := some (.int (1 : Int32))) (fun h => by rw [Bd.returns] at h; cases h)
    refine ⟨_, _, retN X435 hx (t := .boolean) Bd.returns (by simp) (hb hby d32_21) hr, hrun, hended, _, _, rfl, ?_, ⟨⟨_, rfl⟩, hW, hsame.mono (by decide) (by decide)⟩⟩
    show Qokc Z x t kb N vs cs ea ke es ii tot G1 G3 h0 n0 _ T435.heap _
    rw [e435]
    exact ⟨rfl, N435, rfl⟩
  · refine Gl.go (fun _ hr => zXS_icmpYes X0.here hx rfl (pc0 := 2) (pc' := 16) rfl (hb hby d32_2) rfl (XT.ii_ge_t hc434) (by decide) (by decide) (zXS_iconst X0.here hx rfl (hb hby d32_16) (zXS_goto X0.here hx rfl (pc0 := 17) (pc' := 21) rfl (hb hby d32_17) (by decide) (by decide) hr))) ?_
    obtain ⟨fs, hr, hrun, hended, hW, hsame⟩ := X0.leave (v := some (.int (1 : Int32))) (fun h => by rw [Bd.returns] at h; cases h)
    refine ⟨_, _, retN X0 hx (t := .boolean) Bd.returns (by simp) (hb hby d32_21) hr, hrun, hended, _, _, rfl, ?_, ⟨⟨_, rfl⟩, hW, hsame.mono (by decide) (by decide)⟩⟩
    show Qokc Z x t kb N vs cs ea ke es ii tot G1 G3 h0 n0 _ s₁.heap _
    rw [e0]
    exact ⟨rfl, N0, rfl⟩
def Qe4 (Z : State) (x : Addr) (b : Addr) (h0 : Heap) (n0 : Nat) (v : Option Value) (h : Heap) (vm : Vm) (L : List Loc) : Prop := ∃ (t : Addr), ∃ (kb : ClassId), v = none ∧ Fr n0 L ∧ Keep h0 h [x] ∧ (Exa Z h x "java/lang/String") ∧ (Fld Z h x "java/lang/String" "value" "[B" (.ref t)) ∧ (Fld Z h x "java/lang/String" "coder" "B" (.int (0 : Int32))) ∧ (Arv Z h t kb .byte (0 : Int32) ([]) (.int 0)) ∧ (¬ @Eq Nat t x) ∧ (EmJ Z vm h)
theorem ef_e4 (m : MethodId) (x0 : Addr) (x1 : Addr) (x2 : Int32) (x3 : Int32) : entryFrame m #[(.ref x0), (.ref x1), (.int x2), (.int x3), .null] 6 = mkF m 0 #[sR x0, sR x1, sI x2, sI x3, .val .null, sU] [] := by first | (simp [entryFrame, mkF, argsToLocals, Value.category]; done) | rfl
theorem d2_0 : decode jdk_42_method_149_code 0 = .ok (.aload_n 0, 1) := by decide +kernel
theorem d2_1 : decode jdk_42_method_149_code 1 = .ok (.invokespecial 1, 3) := by decide +kernel
theorem d2_4 : decode jdk_42_method_149_code 4 = .ok (.iload_n 3, 1) := by decide +kernel
theorem d2_5 : decode jdk_42_method_149_code 5 = .ok (.ifCond .ne 22, 3) := by decide +kernel
theorem d2_8 : decode jdk_42_method_149_code 8 = .ok (.aload_n 0, 1) := by decide +kernel
theorem d2_9 : decode jdk_42_method_149_code 9 = .ok (.ldc 7, 2) := by decide +kernel
theorem d2_11 : decode jdk_42_method_149_code 11 = .ok (.getfield 9, 3) := by decide +kernel
theorem d2_14 : decode jdk_42_method_149_code 14 = .ok (.putfield 9, 3) := by decide +kernel
theorem d2_17 : decode jdk_42_method_149_code 17 = .ok (.aload_n 0, 1) := by decide +kernel
theorem d2_18 : decode jdk_42_method_149_code 18 = .ok (.ldc 7, 2) := by decide +kernel
theorem d2_20 : decode jdk_42_method_149_code 20 = .ok (.getfield 15, 3) := by decide +kernel
theorem d2_23 : decode jdk_42_method_149_code 23 = .ok (.putfield 15, 3) := by decide +kernel
theorem d2_26 : decode jdk_42_method_149_code 26 = .ok (.return_, 1) := by decide +kernel
set_option maxRecDepth 65536 in
set_option maxHeartbeats 40000000 in
theorem e4 (l : Launch) (Z : State) (a0 : Array Value) (hw : ∀ d ∈ tables_1, d.before a0 Z = true) (ws : List Jvm.Cond) (x : Addr) (b : Addr) (h0 : Heap) (n0 : Nat) (Z0 : n0 ≤ h0.size) (q0 : (Old Z Z.heap.size h0 ∧ @LE.le Nat instLENat Z.heap.size n0)) (hcw : Jvm.Lit.compactW.before a0 Z = true) (hc7 : Jvm.Lit.constHeld Z "java/lang/String" 7) (q3 : @LE.le Nat instLENat n0 x) (q4 : Exa Z h0 x "java/lang/String") (q5 : Fld Z h0 x "java/lang/String" "value" "[B" .null) (q6 : Fld Z h0 x "java/lang/String" "coder" "B" (.int (0 : Int32))) :
    MetFree l (⟨"java/lang/String", "<init>", "([CIILjava/lang/Void;)V"⟩ : MethodName) (head1 (Jvm.Cond.code (⟨"java/lang/String", "<init>", "([CIILjava/lang/Void;)V"⟩ : MethodName) jdk_42_method_149_code 6 none :: ws) ({ frames := 1, cells := 2, slots := 4, locals := 12 } : Room)) (fun a_ U_ => a_ = #[(.ref x), (.ref b), (.int (0 : Int32)), (.int (0 : Int32)), .null] ∧ Z.Warmed39 U_.vm ∧ U_.heap = h0 ∧ EmJ Z U_.vm h0) (fun _ _ _ _ _ => True) (fun _ U_ o_ V_ => ∃ v_ L_, o_ = .returned v_ ∧ Qe4 Z x b h0 n0 v_ V_.heap V_.vm L_ ∧ ReturnedEndW U_ o_ V_ L_ ({ frames := 1, cells := 2, slots := 4, locals := 12 } : Room).cells ({ frames := 1, cells := 2, slots := 4, locals := 12 } : Room).slots) := by
  refine MetFree.of_bodySF (plainFor_of_name pn_0) hisR ?_
  intro p e s m args below meth c s₁ Bd hml0 hP hK
  obtain ⟨rfl, hZ, hh, hphi_em⟩ := hP
  have hx := Bd.exec
  have hby := Bd.bytes
  have hml : c.maxLocals = 6 := hml0
  have hown : s.vm.findClass "java/lang/String" = some m.cls := findClass_of_methodNamed Bd.named
  have hnm := (name_of_methodNamed Bd.named Bd.method).1
  have X0 : Stand p l e ({ frames := 1, cells := 2, slots := 4, locals := 12 } : Room) (s.setVm s.vm) m #[(.ref x), (.ref b), (.int (0 : Int32)), (.int (0 : Int32)), .null] below meth c s₁ [] 0 0 := Stand.of_body Bd
  have e0 : s₁.heap = h0 := by rw [← hh, Bd.state]; rfl
  have N0 := Fr.nil n0
  have hS0 : s.Since s.vm h0.size := (State.WarmedH.refl s).since _
  have hk0 : h0.size ≤ h0.size := Nat.le_refl _
  have Oo := q0.1
  have zo := q0.2
  have lt437 := own_alt q4.lt
  have lt438 := own_alt q5.lt
  have lt439 := own_alt q6.lt
  have hstr : ∀ d ∈ Bundle.stringAtoms, d.before a0 Z = true := fun d hd => hw d (own_hstr d hd)
  refine Gl.go (A := s₁.setTop (entryFrame m #[(.ref x), (.ref b), (.int (0 : Int32)), (.int (0 : Int32)), .null] 6)) (P := fun o_ U_ => ∃ v_ L_, o_ = .returned v_ ∧ Qe4 Z x b h0 n0 v_ U_.heap U_.vm L_ ∧ ReturnedEndW s o_ U_ L_ ({ frames := 1, cells := 2, slots := 4, locals := 12 } : Room).cells ({ frames := 1, cells := 2, slots := 4, locals := 12 } : Room).slots) (fun t_ k_ => castTop (ef_e4 m x b (0 : Int32) (0 : Int32)) k_) ?_
  show Gl p.tables e below _ (s₁.setTop (mkF m 0 #[sR x, sR b, sI 0, sI 0, .val .null, sU] []))
  refine Gl.go (fun _ hr => zXS_aloadN X0.here hx rfl (hb hby d2_0) rfl rfl hr) ?_
  refine gInit Gl.cl (W := 0) X0 hx hZ hown (tw hw 11 rfl) (tw hw 12 rfl) (tw hw 13 rfl) e0 rfl (by rw [hml]; rfl) rfl (hb hby d2_1) (by decide) (by show 2 * 0 + _ ≤ _; exact Nat.le_of_eq rfl) (by decide) ?_
  intro T440 X440 e440
  refine Gl.go (fun _ hr => zXS_iloadN X440.here hx rfl (hb hby d2_4) rfl (zXS_ifNo X440.here hx rfl (hb hby d2_5) rfl (XT.i0_ne_f (by decide)) (zXS_aloadN X440.here hx rfl (hb hby d2_8) rfl rfl hr))) ?_
  rcases id hphi_em with I441 | ⟨lI, la, lt, lk, LL, lE, lC, lV, lA⟩
  · obtain ⟨a441, T441, h441, k441, t441, kb441, X441, e441, E441, hS441, hk441, hZ441, hown441, lE441, lC441, lV441, lA441, -, -, IB441, LL441, st441⟩ := ldcSVL X440 hx hZ hown (tw hw 14 rfl) hstr e440 hS0 (by have q := hk0; omega) (Fr.nil _) (fun b cl q => hh ▸ Oo.2.2 _ _ q) I441 (by simp) hc7 hcw (vs := []) (z := (0 : Int32)) ⟨by decide, rfl⟩ (by decide) rfl (g := (mkF m 9 #[sR x, sR b, sI 0, sI 0, .val .null, sU] [(.ref x)])) rfl (hb hby d2_9) (n := 0) (by decide) (by decide) (by decide) (by decide)
    have z442 : h0.size ≤ h441.size := E441.1
    have lt443 := own_alt lE441.lt
    have lt444 := own_alt lC441.lt
    have lt445 := own_alt lV441.lt
    have lt446 := own_alt lA441.lt
    have Ec447 := (q4.ext E441)
    have Fc448 := (q5.ext E441)
    have ne449 := own_anq (a := a441) (b := x) (Fld.ne lV441 Fc448 nofun)
    have ne450 := own_anq (a := t441) (b := x) (Exa.neArv Ec447 lA441 (tw hw 2 rfl)).symm
    refine Gl.go st441 ?_
    show Gl p.tables e below _ (T441.setTop (mkF m 11 #[sR x, sR b, sI 0, sI 0, .val .null, sU] [(.ref a441), (.ref x)]))
    refine gGetF (host := "") Gl.cl X441 hx hZ441 hown441 (Or.inl (tw hw 20 rfl)) Via.refl e441 lV441 rfl rfl (hb hby d2_11) ?_
    intro T451 X451 e451
    refine gPutF (host := "") Gl.cl X451 hx hZ441 hown441 (Or.inl (tw hw 20 rfl)) Via.refl e451 Fc448 Ec447 (Or.inr ⟨(tw hw 16 rfl), rfl, hnm⟩) (tw hw 2 rfl) (ty := (.array .byte)) (by decide) rfl rfl rfl rfl (hb hby d2_14) ?_
    intro T452 h452 X452 e452 W452
    have z453 : h441.size ≤ h452.size := (Keep.of_wr W452).1
    have Fw452 := Fc448.same W452
    have om454 : @LE.le Nat instLENat n0 x := by omega
    have N452 := Fr.snoc X452 N0 (own_ale om454)
    refine Gl.go (fun _ hr => zXS_aloadN X452.here hx rfl (hb hby d2_17) rfl rfl hr) ?_
    refine Gl.go (ldcAgain X452 hx hZ441 hown441 (tw hw 14 rfl) LL441 (g := (mkF m 18 #[sR x, sR b, sI 0, sI 0, .val .null, sU] [(.ref x)])) rfl (hb hby d2_18)) ?_
    show Gl p.tables e below _ (T452.setTop (mkF m 20 #[sR x, sR b, sI 0, sI 0, .val .null, sU] [(.ref a441), (.ref x)]))
    have om455 : ¬ @Eq Nat a441 x := by omega
    have Fc456 := (lC441.other W452 (Or.inl (own_ane om455)))
    refine gGetF (host := "") Gl.cl X452 hx hZ441 hown441 (Or.inl (tw hw 21 rfl)) Via.refl e452 Fc456 rfl rfl (hb hby d2_20) ?_
    intro T457 X457 e457
    have Fc458 := ((q6.ext E441).other W452 (Or.inr (slot_ne (Or.inr (tw hw 17 rfl)) (Or.inr (tw hw 16 rfl)) (by decide) (t := .byte) (t' := (.array .byte)) (by decide) (by decide))))
    have Ec459 := (Ec447.wr W452)
    refine gPutF (host := "") Gl.cl X457 hx hZ441 hown441 (Or.inl (tw hw 21 rfl)) Via.refl e457 Fc458 Ec459 (Or.inr ⟨(tw hw 17 rfl), rfl, hnm⟩) (tw hw 2 rfl) (ty := .byte) (by decide) rfl rfl rfl rfl (hb hby d2_23) ?_
    intro T460 h460 X460 e460 W460
    have z461 : h452.size ≤ h460.size := (Keep.of_wr W460).1
    have Fw460 := Fc458.same W460
    have N460 := Fr.snoc X460 N452 (own_ale om454)
    have Ec462 := (Ec459.wr W460)
    have Fc463 := (Fw452.other W460 (Or.inr (slot_ne (Or.inr (tw hw 16 rfl)) (Or.inr (tw hw 17 rfl)) (by decide) (t := (.array .byte)) (t' := .byte) (by decide) (by decide))))
    have om464 : ¬ @Eq Nat t441 x := by omega
    have Vc465 := ((lA441.other W452 (own_ane om464)).other W460 (own_ane om464))
    obtain ⟨fs, hr, hrun, hended, hE⟩ := X460.leaveW hS441 (by have q := congrArg Array.size e460; have q2 := hk441; omega) (v := none) (fun _ => rfl)
    refine ⟨_, _, X460.returnOut hx Bd.returns (hb hby d2_26) hr, hrun, hended, _, _, rfl, ?_, ⟨hE.1, hE.2.1, hE.2.2.1, hE.2.2.2.mono (by decide) (by decide)⟩⟩
    show Qe4 Z x b h0 n0 _ T460.heap T460.vm _
    rw [e460]
    have Ec467 := ((lE441.wr W452).wr W460)
    have Fc468 := (Fc456.other W460 (Or.inl (own_ane om455)))
    have Fc469 := ((lV441.other W452 (Or.inl (own_ane om455))).other W460 (Or.inl (own_ane om455)))
    have ph466 : EmJ Z T441.vm h460 := Or.inr ⟨IB441, a441, t441, kb441, LL441, Ec467, Fc468, Fc469, Vc465⟩
    exact ⟨t441, kb441, rfl, N460, ((((Keep.refl h0 [x]).ext E441).wr W452 (Or.inl (by simp))).wr W460 (Or.inl (by simp))), Ec462, Fc463, Fw460, Vc465, (by omega), (ph466.warm X460.warmed)⟩
  · have lt470 := own_alt lE.lt
    have lt471 := own_alt lC.lt
    have lt472 := own_alt lV.lt
    have lt473 := own_alt lA.lt
    have ne474 := own_anq (a := la) (b := x) (Fld.ne lV q5 nofun)
    have ne475 := own_anq (a := lt) (b := x) (Exa.neArv q4 lA (tw hw 2 rfl)).symm
    refine Gl.go (ldcAgain X440 hx hZ hown (tw hw 14 rfl) LL (g := (mkF m 9 #[sR x, sR b, sI 0, sI 0, .val .null, sU] [(.ref x)])) rfl (hb hby d2_9)) ?_
    show Gl p.tables e below _ (T440.setTop (mkF m 11 #[sR x, sR b, sI 0, sI 0, .val .null, sU] [(.ref la), (.ref x)]))
    refine gGetF (host := "") Gl.cl X440 hx hZ hown (Or.inl (tw hw 20 rfl)) Via.refl e440 lV rfl rfl (hb hby d2_11) ?_
    intro T476 X476 e476
    refine gPutF (host := "") Gl.cl X476 hx hZ hown (Or.inl (tw hw 20 rfl)) Via.refl e476 q5 q4 (Or.inr ⟨(tw hw 16 rfl), rfl, hnm⟩) (tw hw 2 rfl) (ty := (.array .byte)) (by decide) rfl rfl rfl rfl (hb hby d2_14) ?_
    intro T477 h477 X477 e477 W477
    have z478 : h0.size ≤ h477.size := (Keep.of_wr W477).1
    have Fw477 := q5.same W477
    have om479 : @LE.le Nat instLENat n0 x := by omega
    have N477 := Fr.snoc X477 N0 (own_ale om479)
    refine Gl.go (fun _ hr => zXS_aloadN X477.here hx rfl (hb hby d2_17) rfl rfl hr) ?_
    refine Gl.go (ldcAgain X477 hx hZ hown (tw hw 14 rfl) LL (g := (mkF m 18 #[sR x, sR b, sI 0, sI 0, .val .null, sU] [(.ref x)])) rfl (hb hby d2_18)) ?_
    show Gl p.tables e below _ (T477.setTop (mkF m 20 #[sR x, sR b, sI 0, sI 0, .val .null, sU] [(.ref la), (.ref x)]))
    have om480 : ¬ @Eq Nat la x := by omega
    have Fc481 := (lC.other W477 (Or.inl (own_ane om480)))
    refine gGetF (host := "") Gl.cl X477 hx hZ hown (Or.inl (tw hw 21 rfl)) Via.refl e477 Fc481 rfl rfl (hb hby d2_20) ?_
    intro T482 X482 e482
    have Fc483 := (q6.other W477 (Or.inr (slot_ne (Or.inr (tw hw 17 rfl)) (Or.inr (tw hw 16 rfl)) (by decide) (t := .byte) (t' := (.array .byte)) (by decide) (by decide))))
    have Ec484 := (q4.wr W477)
    refine gPutF (host := "") Gl.cl X482 hx hZ hown (Or.inl (tw hw 21 rfl)) Via.refl e482 Fc483 Ec484 (Or.inr ⟨(tw hw 17 rfl), rfl, hnm⟩) (tw hw 2 rfl) (ty := .byte) (by decide) rfl rfl rfl rfl (hb hby d2_23) ?_
    intro T485 h485 X485 e485 W485
    have z486 : h477.size ≤ h485.size := (Keep.of_wr W485).1
    have Fw485 := Fc483.same W485
    have N485 := Fr.snoc X485 N477 (own_ale om479)
    have Ec487 := (Ec484.wr W485)
    have Fc488 := (Fw477.other W485 (Or.inr (slot_ne (Or.inr (tw hw 16 rfl)) (Or.inr (tw hw 17 rfl)) (by decide) (t := (.array .byte)) (t' := .byte) (by decide) (by decide))))
    have om489 : ¬ @Eq Nat lt x := by omega
    have Vc490 := ((lA.other W477 (own_ane om489)).other W485 (own_ane om489))
    obtain ⟨fs, hr, hrun, hended, hE⟩ := X485.leaveW hS0 (by have q := congrArg Array.size e485; have q2 := hk0; omega) (v := none) (fun _ => rfl)
    refine ⟨_, _, X485.returnOut hx Bd.returns (hb hby d2_26) hr, hrun, hended, _, _, rfl, ?_, ⟨hE.1, hE.2.1, hE.2.2.1, hE.2.2.2.mono (by decide) (by decide)⟩⟩
    show Qe4 Z x b h0 n0 _ T485.heap T485.vm _
    rw [e485]
    have Ec492 := ((lE.wr W477).wr W485)
    have Fc493 := (Fc481.other W485 (Or.inl (own_ane om480)))
    have Fc494 := ((lV.other W477 (Or.inl (own_ane om480))).other W485 (Or.inl (own_ane om480)))
    have ph491 : EmJ Z s.vm h485 := Or.inr ⟨lI, la, lt, lk, LL, Ec492, Fc493, Fc494, Vc490⟩
    exact ⟨lt, lk, rfl, N485, (((Keep.refl h0 [x]).wr W477 (Or.inl (by simp))).wr W485 (Or.inl (by simp))), Ec487, Fc488, Fw485, Vc490, (by omega), (ph491.warm X485.warmed)⟩
def Qe1 (Z : State) (x : Addr) (b : Addr) (ck : ClassId) (h0 : Heap) (n0 : Nat) (v : Option Value) (h : Heap) (vm : Vm) (L : List Loc) : Prop := ∃ (t : Addr), ∃ (kb : ClassId), v = none ∧ Fr n0 L ∧ Keep h0 h [x] ∧ (Exa Z h x "java/lang/String") ∧ (Fld Z h x "java/lang/String" "value" "[B" (.ref t)) ∧ (Fld Z h x "java/lang/String" "coder" "B" (.int (0 : Int32))) ∧ (Arv Z h t kb .byte (0 : Int32) ([]) (.int 0)) ∧ (¬ @Eq Nat t x) ∧ (EmJ Z vm h)
theorem ef_e1 (m : MethodId) (x0 : Addr) (x1 : Addr) : entryFrame m #[(.ref x0), (.ref x1)] 2 = mkF m 0 #[sR x0, sR x1] [] := by first | (simp [entryFrame, mkF, argsToLocals, Value.category]; done) | rfl
theorem d1_0 : decode jdk_42_method_3_code 0 = .ok (.aload_n 0, 1) := by decide +kernel
theorem d1_1 : decode jdk_42_method_3_code 1 = .ok (.aload_n 1, 1) := by decide +kernel
theorem d1_2 : decode jdk_42_method_3_code 2 = .ok (.iconst 0, 1) := by decide +kernel
theorem d1_3 : decode jdk_42_method_3_code 3 = .ok (.aload_n 1, 1) := by decide +kernel
theorem d1_4 : decode jdk_42_method_3_code 4 = .ok (.arraylength, 1) := by decide +kernel
theorem d1_5 : decode jdk_42_method_3_code 5 = .ok (.aconst_null, 1) := by decide +kernel
theorem d1_6 : decode jdk_42_method_3_code 6 = .ok (.invokespecial 27, 3) := by decide +kernel
theorem pd_22 : parseMethodDescriptor "([CIILjava/lang/Void;)V" = some ⟨[(.array .char), .int, .int, (.object "java/lang/Void")], none⟩ := by decide +kernel
theorem d1_9 : decode jdk_42_method_3_code 9 = .ok (.return_, 1) := by decide +kernel
set_option maxRecDepth 65536 in
set_option maxHeartbeats 40000000 in
theorem e1 (l : Launch) (Z : State) (a0 : Array Value) (hw : ∀ d ∈ tables_1, d.before a0 Z = true) (ws : List Jvm.Cond) (x : Addr) (b : Addr) (ck : ClassId) (h0 : Heap) (n0 : Nat) (Z0 : n0 ≤ h0.size) (q0 : (Old Z Z.heap.size h0 ∧ @LE.le Nat instLENat Z.heap.size n0)) (hcw : Jvm.Lit.compactW.before a0 Z = true) (hc7 : Jvm.Lit.constHeld Z "java/lang/String" 7) (q3 : @LE.le Nat instLENat n0 x) (q4 : Exa Z h0 x "java/lang/String") (q5 : Fld Z h0 x "java/lang/String" "value" "[B" .null) (q6 : Fld Z h0 x "java/lang/String" "coder" "B" (.int (0 : Int32))) (q7 : Arv Z h0 b ck .char (0 : Int32) ([]) (.int (0 : Int32))) :
    MetFree l (⟨"java/lang/String", "<init>", "([C)V"⟩ : MethodName) (head1 (Jvm.Cond.code (⟨"java/lang/String", "<init>", "([C)V"⟩ : MethodName) jdk_42_method_3_code 2 none :: ws) ({ frames := 2, cells := 2, slots := 4, locals := 30 } : Room)) (fun a_ U_ => a_ = #[(.ref x), (.ref b)] ∧ Z.Warmed39 U_.vm ∧ U_.heap = h0 ∧ EmJ Z U_.vm h0) (fun _ _ _ _ _ => True) (fun _ U_ o_ V_ => ∃ v_ L_, o_ = .returned v_ ∧ Qe1 Z x b ck h0 n0 v_ V_.heap V_.vm L_ ∧ ReturnedEndW U_ o_ V_ L_ ({ frames := 2, cells := 2, slots := 4, locals := 30 } : Room).cells ({ frames := 2, cells := 2, slots := 4, locals := 30 } : Room).slots) := by
  refine MetFree.of_bodySF (plainFor_of_name pn_0) hisR ?_
  intro p e s m args below meth c s₁ Bd hml0 hP hK
  obtain ⟨rfl, hZ, hh, hphi_em⟩ := hP
  have hx := Bd.exec
  have hby := Bd.bytes
  have hml : c.maxLocals = 2 := hml0
  have hown : s.vm.findClass "java/lang/String" = some m.cls := findClass_of_methodNamed Bd.named
  have hnm := (name_of_methodNamed Bd.named Bd.method).1
  have X0 : Stand p l e ({ frames := 2, cells := 2, slots := 4, locals := 30 } : Room) (s.setVm s.vm) m #[(.ref x), (.ref b)] below meth c s₁ [] 0 0 := Stand.of_body Bd
  have e0 : s₁.heap = h0 := by rw [← hh, Bd.state]; rfl
  have N0 := Fr.nil n0
  have hS0 : s.Since s.vm h0.size := (State.WarmedH.refl s).since _
  have hk0 : h0.size ≤ h0.size := Nat.le_refl _
  have Oo := q0.1
  have zo := q0.2
  have lt495 := own_alt q4.lt
  have lt496 := own_alt q5.lt
  have lt497 := own_alt q6.lt
  have lt498 := own_alt q7.lt
  have hstr : ∀ d ∈ Bundle.stringAtoms, d.before a0 Z = true := fun d hd => hw d (own_hstr d hd)
  refine Gl.go (A := s₁.setTop (entryFrame m #[(.ref x), (.ref b)] 2)) (P := fun o_ U_ => ∃ v_ L_, o_ = .returned v_ ∧ Qe1 Z x b ck h0 n0 v_ U_.heap U_.vm L_ ∧ ReturnedEndW s o_ U_ L_ ({ frames := 2, cells := 2, slots := 4, locals := 30 } : Room).cells ({ frames := 2, cells := 2, slots := 4, locals := 30 } : Room).slots) (fun t_ k_ => castTop (ef_e1 m x b) k_) ?_
  show Gl p.tables e below _ (s₁.setTop (mkF m 0 #[sR x, sR b] []))
  refine Gl.go (fun _ hr => zXS_aloadN X0.here hx rfl (hb hby d1_0) rfl rfl (zXS_aloadN X0.here hx rfl (hb hby d1_1) rfl rfl (zXS_iconst X0.here hx rfl (hb hby d1_2) (zXS_aloadN X0.here hx rfl (hb hby d1_3) rfl rfl hr)))) ?_
  obtain ⟨c499, a499, q499, s499, m499, H499, U499⟩ := id q7
  refine gLen Gl.cl X0 hx hZ e0 a499 s499 m499 rfl rfl (hb hby d1_4) ?_
  refine Gl.go (fun _ hr => zXS_aconstNull X0.here hx rfl (hb hby d1_5) hr) ?_
  have zz500 : n0 ≤ h0.size := by omega
  refine gSpecialJ Gl.cl (y := (⟨"java/lang/String", "<init>", "([CIILjava/lang/Void;)V"⟩ : MethodName)) (b := x) (argsL := [(.ref b), (.int (0 : Int32)), (.int (0 : Int32)), .null]) (rest := []) (mc := 2) (ms := 4) (Φ := fun vm => EmJ Z vm h0) X0 hx hZ hS0 (by have q := hk0; omega) hown rfl (mvT hZ (tw hw 7 rfl)) (mvT hZ (tw hw 8 rfl)) (mvT hZ (tw hw 10 rfl)) (by decide) (backOfJ (Φ := fun vm => EmJ Z vm h0) (W := 0) (e4 l Z a0 hw [] x b h0 n0 zz500 ⟨Oo, (by omega)⟩ (by assumption) (by assumption) (by omega) q4 q5 q6) hZ (tw hw 10 rfl) (tw hw 3 rfl) (by decide) (by decide)) rfl (by rw [hml]; rfl) (lenOf pd_22 rfl) rfl (by show 2 * 0 + _ ≤ _; exact Nat.le_of_eq rfl) (hb hby d1_6) rfl e0 (fun vm₁ hvm => hphi_em.warm hvm) (by decide) (by decide) ?_
  intro v500 T500 Lc500 hQ500 X500 hS500 hZ500 hown500 hk500
  obtain ⟨t_500, kb_500, rfl, Nq500, K500, f500_0, f500_1, f500_2, f500_3, f500_4, ph500_em⟩ := hQ500
  have z501 : h0.size ≤ T500.heap.size := K500.1
  have N500 := Fr.app N0 Nq500
  have lt502 := own_alt f500_0.lt
  have lt503 := own_alt f500_1.lt
  have lt504 := own_alt f500_2.lt
  have lt505 := own_alt f500_3.lt
  obtain ⟨fs, hr, hrun, hended, hE⟩ := X500.leaveW hS500 (by have q := congrArg Array.size (rfl : T500.heap = T500.heap); have q2 := hk500; omega) (v := none) (fun _ => rfl)
  refine ⟨_, _, X500.returnOut hx Bd.returns (hb hby d1_9) hr, hrun, hended, _, _, rfl, ?_, ⟨hE.1, hE.2.1, hE.2.2.1, hE.2.2.2.mono (by decide) (by decide)⟩⟩
  show Qe1 Z x b ck h0 n0 _ T500.heap T500.vm _
  exact ⟨t_500, kb_500, rfl, N500, ((Keep.refl h0 [x]).trans K500 (allS (P := fun x_ => x_ ∈ ([x] : List Addr) ∨ h0.size ≤ x_) (Or.inl (by simp)) all0)), f500_0, f500_1, f500_2, f500_3, (by omega), (ph500_em.warm X500.warmed)⟩
theorem own_four {n : Nat} (h : n ≤ 3) : n = 0 ∨ n = 1 ∨ n = 2 ∨ n = 3 := by omega
theorem own_hes {es zs : List Value} {cs : List Int32} {tot : Nat} (h : es = cs.map Value.int ++ zs) (ht : cs.length = tot) : ∀ j, j < tot → es.getD j (.int 0) = .int (cs.getD j 0) := by
  intro j hj
  have hj' : j < cs.length := by omega
  rw [h]
  simp [List.getD_eq_getElem?_getD, hj', List.getElem?_append]
theorem own_len3 {a b c : Int32} {n : Nat} : (([a, b, c] : List Int32).take n).length ≤ 3 := by rw [List.length_take]; exact Nat.min_le_right _ _
theorem own_lat3 {a b c : Int32} {n : Nat} (ha : Lat a) (hb : Lat b) (hc : Lat c) : ∀ x ∈ (([a, b, c] : List Int32).take n), Lat x := fun x hx => by
  have q := List.mem_of_mem_take hx
  simp only [List.mem_cons, List.not_mem_nil, or_false] at q
  rcases q with rfl | rfl | rfl
  · exact ha
  · exact hb
  · exact hc

def Qlawrm (Z : State) (i0 : Int32) (i1 : Int32) (i2 : Int32) (i3 : Int32) (i4 : Int32) (G1 : Int32) (G3 : Value) (d1 : Addr) (d2 : Addr) (k1 : ClassId) (k2 : ClassId) (h0 : Heap) (n0 : Nat) (v : Option Value) (h : Heap) (vm : Vm) (L : List Loc) : Prop := v = some (.int (1 : Int32)) ∧ Fr n0 L ∧ Keep h0 h []
theorem ef_lawrm (m : MethodId) (x0 : Int32) (x1 : Int32) (x2 : Int32) (x3 : Int32) (x4 : Int32) : entryFrame m #[(.int x0), (.int x1), (.int x2), (.int x3), (.int x4)] maxLocals = mkF m 0 #[sI x0, sI x1, sI x2, sI x3, sI x4, sU, sU, sU, sU, sU, sU, sU, sU, sU, sU, sU, sU] [] := by first | (simp [entryFrame, mkF, argsToLocals, Value.category, maxLocals]; done) | rfl
theorem pd_23 : parseMethodDescriptor "(Ljava/lang/String;II[C)Z" = some ⟨[(.object "java/lang/String"), .int, .int, (.array .char)], some .boolean⟩ := by decide +kernel
theorem pd_24 : parseMethodDescriptor "(Ljava/lang/String;I)V" = some ⟨[(.object "java/lang/String"), .int], none⟩ := by decide +kernel
theorem pd_25 : parseMethodDescriptor "([C)V" = some ⟨[(.array .char)], none⟩ := by decide +kernel
set_option maxRecDepth 65536 in
set_option maxHeartbeats 40000000 in
theorem lawrm (l : Launch) (Z : State) (a0 : Array Value) (hw : ∀ d ∈ tables_1, d.before a0 Z = true) (ws : List Jvm.Cond) (i0 : Int32) (i1 : Int32) (i2 : Int32) (i3 : Int32) (i4 : Int32) (G1 : Int32) (G3 : Value) (d1 : Addr) (d2 : Addr) (k1 : ClassId) (k2 : ClassId) (h0 : Heap) (n0 : Nat) (Z0 : n0 ≤ h0.size) (q0 : Sta Z Z.heap "java/lang/String" "COMPACT_STRINGS" "Z" (.int G1)) (P5 : ¬ (G1 = (0 : Int32))) (q2 : (Old Z Z.heap.size h0 ∧ @LE.le Nat instLENat Z.heap.size n0)) (q3 : Sta Z Z.heap "jdk/internal/util/Preconditions" "SIOOBE_FORMATTER" "Ljava/util/function/BiFunction;" G3) (rG3 : G3.isRef = true) (q5 : Sta Z Z.heap "java/lang/Integer" "DigitOnes" "[B" (.ref d1)) (q6 : Sta Z Z.heap "java/lang/Integer" "DigitTens" "[B" (.ref d2)) (q7 : Arv Z Z.heap d1 k1 .byte (100 : Int32) ones (.int 0)) (q8 : Arv Z Z.heap d2 k2 .byte (100 : Int32) tens (.int 0)) (hcw : Jvm.Lit.compactW.before a0 Z = true) (hc7 : Jvm.Lit.constHeld Z "java/lang/String" 7) (hc66 : Jvm.Lit.constHeld Z "org/latchkey/redis/NodeAddress" 66) :
    MetFree l x (head1 (Jvm.Cond.code x code maxLocals ret :: ws) room_1) (fun a_ U_ => a_ = #[(.int i0), (.int i1), (.int i2), (.int i3), (.int i4)] ∧ Z.Warmed39 U_.vm ∧ U_.heap = h0 ∧ EmJ Z U_.vm h0) (fun _ _ _ _ _ => True) (fun _ U_ o_ V_ => ∃ v_ L_, o_ = .returned v_ ∧ Qlawrm Z i0 i1 i2 i3 i4 G1 G3 d1 d2 k1 k2 h0 n0 v_ V_.heap V_.vm L_ ∧ ReturnedEndW U_ o_ V_ L_ 32 2240) := by
  refine MetFree.of_bodySF (plainFor_of_name pn_7) hisR ?_
  intro p e s m args below meth c s₁ Bd hml0 hP hK
  obtain ⟨rfl, hZ, hh, hphi_em⟩ := hP
  have hx := Bd.exec
  have hby := Bd.bytes
  have hml : c.maxLocals = 17 := hml0
  have hown : s.vm.findClass "org/latchkey/redis/NodeAddressToStringPinLaw" = some m.cls := findClass_of_methodNamed Bd.named
  have hnm := (name_of_methodNamed Bd.named Bd.method).1
  have X0 : Stand p l e room_1 (s.setVm s.vm) m #[(.int i0), (.int i1), (.int i2), (.int i3), (.int i4)] below meth c s₁ [] 0 0 := Stand.of_body Bd
  have e0 : s₁.heap = h0 := by rw [← hh, Bd.state]; rfl
  have N0 := Fr.nil n0
  have hS0 : s.Since s.vm h0.size := (State.WarmedH.refl s).since _
  have hk0 : h0.size ≤ h0.size := Nat.le_refl _
  have Oo := q2.1
  have zo := q2.2
  have lt506 := own_alt q7.lt
  have lt507 := own_alt q8.lt
  have hstr : ∀ d ∈ Bundle.stringAtoms, d.before a0 Z = true := fun d hd => hw d (own_hstr d hd)
  have hws : ∀ d ∈ StrChars.Road.words, d.before a0 Z = true := fun d hd => hw d (own_hws d hd)
  have hln : ∀ d ∈ StrChars.Road.wordsLen, d.before a0 Z = true := fun d hd => hw d (own_hln d hd)
  have hch : ∀ d ∈ StrChars.Road.wordsChN, d.before a0 Z = true := fun d hd => hw d (own_hch d hd)
  refine Gl.go (A := s₁.setTop (entryFrame m #[(.int i0), (.int i1), (.int i2), (.int i3), (.int i4)] maxLocals)) (P := fun o_ U_ => ∃ v_ L_, o_ = .returned v_ ∧ Qlawrm Z i0 i1 i2 i3 i4 G1 G3 d1 d2 k1 k2 h0 n0 v_ U_.heap U_.vm L_ ∧ ReturnedEndW s o_ U_ L_ 32 2240) (fun t_ k_ => castTop (ef_lawrm m i0 i1 i2 i3 i4) k_) ?_
  show Gl p.tables e below _ (s₁.setTop (mkF m 0 #[sI i0, sI i1, sI i2, sI i3, sI i4, sU, sU, sU, sU, sU, sU, sU, sU, sU, sU, sU, sU] []))
  have tB : ∀ (T : State) (hc : Heap) (lc : List Loc) (vmc : Vm) (kc : Nat) (r : Addr) (t : Addr) (kb : ClassId) (N : Int32) (vs : List Value) (cs : List Int32) (ea : Addr) (ke : ClassId) (es : List Value) (tot : Nat) (s5 : Slot) (s6 : Slot) (s7 : Slot) (s8 : Slot) (s9 : Slot) (s10 : Slot) (s11 : Slot) (s13 : Slot) (s14 : Slot), Fr n0 lc → Stand p l e room_1 (s.setVm vmc) m #[(.int i0), (.int i1), (.int i2), (.int i3), (.int i4)] below meth c T lc 30 600 → T.heap = hc → Keep h0 hc [] → s.Since vmc kc → kc ≤ hc.size → Z.Warmed39 (s.setVm vmc).vm → (s.setVm vmc).vm.findClass "org/latchkey/redis/NodeAddressToStringPinLaw" = some m.cls → Exa Z hc r "java/lang/String" → Fld Z hc r "java/lang/String" "value" "[B" (.ref t) → Fld Z hc r "java/lang/String" "coder" "B" (.int (0 : Int32)) → Arv Z hc t kb .byte N vs (.int 0) → Arv Z hc ea ke .char (9 : Int32) es (.int 0) → (StrChars.Road.CodA cs 0 N vs) → (∀ c ∈ cs, Lat c) → (cs.length = tot) → (tot ≤ 9) → (∀ j, j < tot → es.getD j (.int 0) = .int (cs.getD j 0)) → Gl p.tables e below (fun o_ U_ => ∃ v_ L_, o_ = .returned v_ ∧ Qlawrm Z i0 i1 i2 i3 i4 G1 G3 d1 d2 k1 k2 h0 n0 v_ U_.heap U_.vm L_ ∧ ReturnedEndW s o_ U_ L_ 32 2240) (T.setTop (mkF m 433 #[sI i0, sI i1, sI i2, sI i3, sI i4, s5, s6, s7, s8, s9, s10, s11, sR r, s13, s14, sR ea, sI (Int32.ofNat tot)] [])) := by
    intro T hc lc vmc kc r t kb N vs cs ea ke es tot s5 s6 s7 s8 s9 s10 s11 s13 s14 Nc Xc ec Kc hSc hkc hZc hownc cf0 cf1 cf2 cf3 cf4 cod hlat htot ht9 hes
    have zc : h0.size ≤ hc.size := Kc.1
    have lt508 := own_alt cf0.lt
    have lt509 := own_alt cf1.lt
    have lt510 := own_alt cf2.lt
    have lt511 := own_alt cf3.lt
    have lt512 := own_alt cf4.lt
    have hbd : ∀ c ∈ cs, Wid c := own_up hlat
    have hln4 : cs.length ≤ 4000 := by omega
    show Gl p.tables e below _ (T.setTop (mkF m 433 #[sI i0, sI i1, sI i2, sI i3, sI i4, s5, s6, s7, s8, s9, s10, s11, sR r, s13, s14, sR ea, sI (Int32.ofNat tot)] []))
    refine Gl.go (fun _ hr => zXS_aload Xc.here hx rfl (hb hby at_433) rfl rfl hr) ?_
    have Oc514 := (Oo.keep Kc all0)
    refine gVirtualN Gl.cl (y := (⟨"java/lang/String", "length", "()I"⟩ : MethodName)) (z := (⟨"java/lang/String", "length", "()I"⟩ : MethodName)) (b := r) (argsL := []) (rest := []) (mc := 0) (ms := 0) (Q := fun v h' L => v = some (.int (Int32.ofNat cs.length)) ∧ L = [] ∧ h' = hc) Xc hx hZc hownc (mvT hZc (tw hw 176 rfl)) (mvT hZc (tw hw 74 rfl)) (notFace_of_selects (args := #[]) (mvT hZc (tw hw 76 rfl))) (mvT hZc (tw hw 76 rfl)) (mvT hZc (tw hw 75 rfl)) (by decide) cf0 (StrChars.Road.lenW (W := 0) hZc hln (kI := 4) (tw hw 2 rfl) cf0 cf1 cf2 cf3 cod hbd (q0.ext Oc514.2) P5 hln4 (by decide) (by decide)) rfl (by rw [hml]; rfl) (lenOf pd_3 rfl) rfl (by show 2 * 0 + _ ≤ _; exact Nat.le_of_eq rfl) (hb hby at_435) rfl ec (by decide) (by decide) ?_
    intro v513 T513 Lc513 hQ513 X513
    obtain ⟨rfl, rfl, e513⟩ := hQ513
    have N513 := own_fr_nil Nc
    refine Gl.go (fun _ hr => zXS_iload X513.here hx rfl (hb hby at_438) rfl hr) ?_
    refine Gl.go (fun _ hr => zXS_icmpYes X513.here hx rfl (pc0 := 440) (pc' := 445) rfl (hb hby at_440) rfl (XT.ii_eq_t (congrArg Int32.ofNat htot)) (by decide) (by decide) (zXS_aload X513.here hx rfl (hb hby at_445) rfl rfl (zXS_iconst X513.here hx rfl (hb hby at_447) (zXS_iload X513.here hx rfl (hb hby at_448) rfl (zXS_aload X513.here hx rfl (hb hby at_450) rfl rfl hr))))) ?_
    have zz515 : n0 ≤ hc.size := by omega
    refine gStaticN Gl.cl (y := (⟨"org/latchkey/redis/NodeAddressToStringPinLaw", "ok", "(Ljava/lang/String;II[C)Z"⟩ : MethodName)) (argsL := [(.ref r), (.int (0 : Int32)), (.int (Int32.ofNat tot)), (.ref ea)]) (rest := []) (mc := 0) (ms := 0) X513 hx hZc hownc (mvT hZc (tw hw 177 rfl)) (mvT hZc (tw hw 178 rfl)) (mvT hZc (tw hw 179 rfl)) (mvT hZc (tw hw 180 rfl)) (by decide) (backOf (W := 0) (okc l Z a0 hw [] r t kb N vs cs ea ke es 0 tot G1 G3 hc n0 zz515 q0 (by assumption) ⟨Oc514, (by omega)⟩ q3 (by assumption) cf0 cf1 cf2 cf3 cf4 cod hlat htot ht9 hes (by decide)) hZc (tw hw 180 rfl) (tw hw 179 rfl) (by decide) (by decide)) rfl (by rw [hml]; rfl) (lenOf pd_23 rfl) rfl (by show 2 * 0 + _ ≤ _; exact Nat.le_of_eq rfl) (hb hby at_452) rfl e513 (by decide) (by decide) ?_
    intro v515 T515 Lc515 hQ515 X515
    obtain ⟨rfl, Nq515, e515⟩ := hQ515
    have N515 := Fr.app N513 Nq515
    refine Gl.go (fun _ hr => zXS_ifNo X515.here hx rfl (hb hby at_455) rfl (XT.i0_eq_f (by decide)) (zXS_aload X515.here hx rfl (hb hby at_458) rfl rfl (zXS_iconst X515.here hx rfl (hb hby at_460) (zXS_iload X515.here hx rfl (hb hby at_461) rfl (zXS_aload X515.here hx rfl (hb hby at_463) rfl rfl hr))))) ?_
    have zz516 : n0 ≤ hc.size := by omega
    refine gStaticN Gl.cl (y := (⟨"org/latchkey/redis/NodeAddressToStringPinLaw", "ok", "(Ljava/lang/String;II[C)Z"⟩ : MethodName)) (argsL := [(.ref r), (.int (1 : Int32)), (.int (Int32.ofNat tot)), (.ref ea)]) (rest := []) (mc := 0) (ms := 0) X515 hx hZc hownc (mvT hZc (tw hw 177 rfl)) (mvT hZc (tw hw 178 rfl)) (mvT hZc (tw hw 179 rfl)) (mvT hZc (tw hw 180 rfl)) (by decide) (backOf (W := 0) (okc l Z a0 hw [] r t kb N vs cs ea ke es 1 tot G1 G3 hc n0 zz516 q0 (by assumption) ⟨Oc514, (by omega)⟩ q3 (by assumption) cf0 cf1 cf2 cf3 cf4 cod hlat htot ht9 hes (by decide)) hZc (tw hw 180 rfl) (tw hw 179 rfl) (by decide) (by decide)) rfl (by rw [hml]; rfl) (lenOf pd_23 rfl) rfl (by show 2 * 0 + _ ≤ _; exact Nat.le_of_eq rfl) (hb hby at_465) rfl e515 (by decide) (by decide) ?_
    intro v516 T516 Lc516 hQ516 X516
    obtain ⟨rfl, Nq516, e516⟩ := hQ516
    have N516 := Fr.app N515 Nq516
    refine Gl.go (fun _ hr => zXS_ifNo X516.here hx rfl (hb hby at_468) rfl (XT.i0_eq_f (by decide)) (zXS_aload X516.here hx rfl (hb hby at_471) rfl rfl (zXS_iconst X516.here hx rfl (hb hby at_473) (zXS_iload X516.here hx rfl (hb hby at_474) rfl (zXS_aload X516.here hx rfl (hb hby at_476) rfl rfl hr))))) ?_
    have zz517 : n0 ≤ hc.size := by omega
    refine gStaticN Gl.cl (y := (⟨"org/latchkey/redis/NodeAddressToStringPinLaw", "ok", "(Ljava/lang/String;II[C)Z"⟩ : MethodName)) (argsL := [(.ref r), (.int (2 : Int32)), (.int (Int32.ofNat tot)), (.ref ea)]) (rest := []) (mc := 0) (ms := 0) X516 hx hZc hownc (mvT hZc (tw hw 177 rfl)) (mvT hZc (tw hw 178 rfl)) (mvT hZc (tw hw 179 rfl)) (mvT hZc (tw hw 180 rfl)) (by decide) (backOf (W := 0) (okc l Z a0 hw [] r t kb N vs cs ea ke es 2 tot G1 G3 hc n0 zz517 q0 (by assumption) ⟨Oc514, (by omega)⟩ q3 (by assumption) cf0 cf1 cf2 cf3 cf4 cod hlat htot ht9 hes (by decide)) hZc (tw hw 180 rfl) (tw hw 179 rfl) (by decide) (by decide)) rfl (by rw [hml]; rfl) (lenOf pd_23 rfl) rfl (by show 2 * 0 + _ ≤ _; exact Nat.le_of_eq rfl) (hb hby at_478) rfl e516 (by decide) (by decide) ?_
    intro v517 T517 Lc517 hQ517 X517
    obtain ⟨rfl, Nq517, e517⟩ := hQ517
    have N517 := Fr.app N516 Nq517
    refine Gl.go (fun _ hr => zXS_ifNo X517.here hx rfl (hb hby at_481) rfl (XT.i0_eq_f (by decide)) (zXS_aload X517.here hx rfl (hb hby at_484) rfl rfl (zXS_iconst X517.here hx rfl (hb hby at_486) (zXS_iload X517.here hx rfl (hb hby at_487) rfl (zXS_aload X517.here hx rfl (hb hby at_489) rfl rfl hr))))) ?_
    have zz518 : n0 ≤ hc.size := by omega
    refine gStaticN Gl.cl (y := (⟨"org/latchkey/redis/NodeAddressToStringPinLaw", "ok", "(Ljava/lang/String;II[C)Z"⟩ : MethodName)) (argsL := [(.ref r), (.int (3 : Int32)), (.int (Int32.ofNat tot)), (.ref ea)]) (rest := []) (mc := 0) (ms := 0) X517 hx hZc hownc (mvT hZc (tw hw 177 rfl)) (mvT hZc (tw hw 178 rfl)) (mvT hZc (tw hw 179 rfl)) (mvT hZc (tw hw 180 rfl)) (by decide) (backOf (W := 0) (okc l Z a0 hw [] r t kb N vs cs ea ke es 3 tot G1 G3 hc n0 zz518 q0 (by assumption) ⟨Oc514, (by omega)⟩ q3 (by assumption) cf0 cf1 cf2 cf3 cf4 cod hlat htot ht9 hes (by decide)) hZc (tw hw 180 rfl) (tw hw 179 rfl) (by decide) (by decide)) rfl (by rw [hml]; rfl) (lenOf pd_23 rfl) rfl (by show 2 * 0 + _ ≤ _; exact Nat.le_of_eq rfl) (hb hby at_491) rfl e517 (by decide) (by decide) ?_
    intro v518 T518 Lc518 hQ518 X518
    obtain ⟨rfl, Nq518, e518⟩ := hQ518
    have N518 := Fr.app N517 Nq518
    refine Gl.go (fun _ hr => zXS_ifNo X518.here hx rfl (hb hby at_494) rfl (XT.i0_eq_f (by decide)) (zXS_aload X518.here hx rfl (hb hby at_497) rfl rfl (zXS_iconst X518.here hx rfl (hb hby at_499) (zXS_iload X518.here hx rfl (hb hby at_500) rfl (zXS_aload X518.here hx rfl (hb hby at_502) rfl rfl hr))))) ?_
    have zz519 : n0 ≤ hc.size := by omega
    refine gStaticN Gl.cl (y := (⟨"org/latchkey/redis/NodeAddressToStringPinLaw", "ok", "(Ljava/lang/String;II[C)Z"⟩ : MethodName)) (argsL := [(.ref r), (.int (4 : Int32)), (.int (Int32.ofNat tot)), (.ref ea)]) (rest := []) (mc := 0) (ms := 0) X518 hx hZc hownc (mvT hZc (tw hw 177 rfl)) (mvT hZc (tw hw 178 rfl)) (mvT hZc (tw hw 179 rfl)) (mvT hZc (tw hw 180 rfl)) (by decide) (backOf (W := 0) (okc l Z a0 hw [] r t kb N vs cs ea ke es 4 tot G1 G3 hc n0 zz519 q0 (by assumption) ⟨Oc514, (by omega)⟩ q3 (by assumption) cf0 cf1 cf2 cf3 cf4 cod hlat htot ht9 hes (by decide)) hZc (tw hw 180 rfl) (tw hw 179 rfl) (by decide) (by decide)) rfl (by rw [hml]; rfl) (lenOf pd_23 rfl) rfl (by show 2 * 0 + _ ≤ _; exact Nat.le_of_eq rfl) (hb hby at_504) rfl e518 (by decide) (by decide) ?_
    intro v519 T519 Lc519 hQ519 X519
    obtain ⟨rfl, Nq519, e519⟩ := hQ519
    have N519 := Fr.app N518 Nq519
    refine Gl.go (fun _ hr => zXS_ifNo X519.here hx rfl (hb hby at_507) rfl (XT.i0_eq_f (by decide)) (zXS_aload X519.here hx rfl (hb hby at_510) rfl rfl (zXS_iconst X519.here hx rfl (hb hby at_512) (zXS_iload X519.here hx rfl (hb hby at_513) rfl (zXS_aload X519.here hx rfl (hb hby at_515) rfl rfl hr))))) ?_
    have zz520 : n0 ≤ hc.size := by omega
    refine gStaticN Gl.cl (y := (⟨"org/latchkey/redis/NodeAddressToStringPinLaw", "ok", "(Ljava/lang/String;II[C)Z"⟩ : MethodName)) (argsL := [(.ref r), (.int (5 : Int32)), (.int (Int32.ofNat tot)), (.ref ea)]) (rest := []) (mc := 0) (ms := 0) X519 hx hZc hownc (mvT hZc (tw hw 177 rfl)) (mvT hZc (tw hw 178 rfl)) (mvT hZc (tw hw 179 rfl)) (mvT hZc (tw hw 180 rfl)) (by decide) (backOf (W := 0) (okc l Z a0 hw [] r t kb N vs cs ea ke es 5 tot G1 G3 hc n0 zz520 q0 (by assumption) ⟨Oc514, (by omega)⟩ q3 (by assumption) cf0 cf1 cf2 cf3 cf4 cod hlat htot ht9 hes (by decide)) hZc (tw hw 180 rfl) (tw hw 179 rfl) (by decide) (by decide)) rfl (by rw [hml]; rfl) (lenOf pd_23 rfl) rfl (by show 2 * 0 + _ ≤ _; exact Nat.le_of_eq rfl) (hb hby at_517) rfl e519 (by decide) (by decide) ?_
    intro v520 T520 Lc520 hQ520 X520
    obtain ⟨rfl, Nq520, e520⟩ := hQ520
    have N520 := Fr.app N519 Nq520
    refine Gl.go (fun _ hr => zXS_ifNo X520.here hx rfl (hb hby at_520) rfl (XT.i0_eq_f (by decide)) (zXS_aload X520.here hx rfl (hb hby at_523) rfl rfl (zXS_bipush X520.here hx rfl (hb hby at_525) (zXS_iload X520.here hx rfl (hb hby at_527) rfl (zXS_aload X520.here hx rfl (hb hby at_529) rfl rfl hr))))) ?_
    have zz521 : n0 ≤ hc.size := by omega
    refine gStaticN Gl.cl (y := (⟨"org/latchkey/redis/NodeAddressToStringPinLaw", "ok", "(Ljava/lang/String;II[C)Z"⟩ : MethodName)) (argsL := [(.ref r), (.int (6 : Int32)), (.int (Int32.ofNat tot)), (.ref ea)]) (rest := []) (mc := 0) (ms := 0) X520 hx hZc hownc (mvT hZc (tw hw 177 rfl)) (mvT hZc (tw hw 178 rfl)) (mvT hZc (tw hw 179 rfl)) (mvT hZc (tw hw 180 rfl)) (by decide) (backOf (W := 0) (okc l Z a0 hw [] r t kb N vs cs ea ke es 6 tot G1 G3 hc n0 zz521 q0 (by assumption) ⟨Oc514, (by omega)⟩ q3 (by assumption) cf0 cf1 cf2 cf3 cf4 cod hlat htot ht9 hes (by decide)) hZc (tw hw 180 rfl) (tw hw 179 rfl) (by decide) (by decide)) rfl (by rw [hml]; rfl) (lenOf pd_23 rfl) rfl (by show 2 * 0 + _ ≤ _; exact Nat.le_of_eq rfl) (hb hby at_531) rfl e520 (by decide) (by decide) ?_
    intro v521 T521 Lc521 hQ521 X521
    obtain ⟨rfl, Nq521, e521⟩ := hQ521
    have N521 := Fr.app N520 Nq521
    refine Gl.go (fun _ hr => zXS_ifNo X521.here hx rfl (hb hby at_534) rfl (XT.i0_eq_f (by decide)) (zXS_aload X521.here hx rfl (hb hby at_537) rfl rfl (zXS_bipush X521.here hx rfl (hb hby at_539) (zXS_iload X521.here hx rfl (hb hby at_541) rfl (zXS_aload X521.here hx rfl (hb hby at_543) rfl rfl hr))))) ?_
    have zz522 : n0 ≤ hc.size := by omega
    refine gStaticN Gl.cl (y := (⟨"org/latchkey/redis/NodeAddressToStringPinLaw", "ok", "(Ljava/lang/String;II[C)Z"⟩ : MethodName)) (argsL := [(.ref r), (.int (7 : Int32)), (.int (Int32.ofNat tot)), (.ref ea)]) (rest := []) (mc := 0) (ms := 0) X521 hx hZc hownc (mvT hZc (tw hw 177 rfl)) (mvT hZc (tw hw 178 rfl)) (mvT hZc (tw hw 179 rfl)) (mvT hZc (tw hw 180 rfl)) (by decide) (backOf (W := 0) (okc l Z a0 hw [] r t kb N vs cs ea ke es 7 tot G1 G3 hc n0 zz522 q0 (by assumption) ⟨Oc514, (by omega)⟩ q3 (by assumption) cf0 cf1 cf2 cf3 cf4 cod hlat htot ht9 hes (by decide)) hZc (tw hw 180 rfl) (tw hw 179 rfl) (by decide) (by decide)) rfl (by rw [hml]; rfl) (lenOf pd_23 rfl) rfl (by show 2 * 0 + _ ≤ _; exact Nat.le_of_eq rfl) (hb hby at_545) rfl e521 (by decide) (by decide) ?_
    intro v522 T522 Lc522 hQ522 X522
    obtain ⟨rfl, Nq522, e522⟩ := hQ522
    have N522 := Fr.app N521 Nq522
    refine Gl.go (fun _ hr => zXS_ifNo X522.here hx rfl (hb hby at_548) rfl (XT.i0_eq_f (by decide)) (zXS_aload X522.here hx rfl (hb hby at_551) rfl rfl (zXS_bipush X522.here hx rfl (hb hby at_553) (zXS_iload X522.here hx rfl (hb hby at_555) rfl (zXS_aload X522.here hx rfl (hb hby at_557) rfl rfl hr))))) ?_
    have zz523 : n0 ≤ hc.size := by omega
    refine gStaticN Gl.cl (y := (⟨"org/latchkey/redis/NodeAddressToStringPinLaw", "ok", "(Ljava/lang/String;II[C)Z"⟩ : MethodName)) (argsL := [(.ref r), (.int (8 : Int32)), (.int (Int32.ofNat tot)), (.ref ea)]) (rest := []) (mc := 0) (ms := 0) X522 hx hZc hownc (mvT hZc (tw hw 177 rfl)) (mvT hZc (tw hw 178 rfl)) (mvT hZc (tw hw 179 rfl)) (mvT hZc (tw hw 180 rfl)) (by decide) (backOf (W := 0) (okc l Z a0 hw [] r t kb N vs cs ea ke es 8 tot G1 G3 hc n0 zz523 q0 (by assumption) ⟨Oc514, (by omega)⟩ q3 (by assumption) cf0 cf1 cf2 cf3 cf4 cod hlat htot ht9 hes (by decide)) hZc (tw hw 180 rfl) (tw hw 179 rfl) (by decide) (by decide)) rfl (by rw [hml]; rfl) (lenOf pd_23 rfl) rfl (by show 2 * 0 + _ ≤ _; exact Nat.le_of_eq rfl) (hb hby at_559) rfl e522 (by decide) (by decide) ?_
    intro v523 T523 Lc523 hQ523 X523
    obtain ⟨rfl, Nq523, e523⟩ := hQ523
    have N523 := Fr.app N522 Nq523
    refine Gl.go (fun _ hr => zXS_ifNo X523.here hx rfl (hb hby at_562) rfl (XT.i0_eq_f (by decide)) (zXS_iconst X523.here hx rfl (hb hby at_565) (zXS_goto X523.here hx rfl (pc0 := 566) (pc' := 570) rfl (hb hby at_566) (by decide) (by decide) hr))) ?_
    show Gl p.tables e below _ (T523.setTop (mkF m 570 #[sI i0, sI i1, sI i2, sI i3, sI i4, s5, s6, s7, s8, s9, s10, s11, sR r, s13, s14, sR ea, sI (Int32.ofNat tot)] [(.int (1 : Int32))]))
    obtain ⟨fs, hr, hrun, hended, hE⟩ := X523.leaveW hSc (by have q := congrArg Array.size e523; have q2 := hkc; omega) (v := some (.int (1 : Int32))) (fun h => by rw [Bd.returns] at h; cases h)
    refine ⟨_, _, retN X523 hx (t := .boolean) Bd.returns (by simp) (hb hby at_570) hr, hrun, hended, _, _, rfl, ?_, ⟨hE.1, hE.2.1, hE.2.2.1, hE.2.2.2.mono (by decide) (by decide)⟩⟩
    show Qlawrm Z i0 i1 i2 i3 i4 G1 G3 d1 d2 k1 k2 h0 n0 _ T523.heap T523.vm _
    rw [e523]
    exact ⟨rfl, N523, ((Keep.refl h0 []).trans Kc all0)⟩
  have tA : ∀ (T : State) (hc : Heap) (lc : List Loc) (vmc : Vm) (kc : Nat) (nn : Nat) (hs : List Int32) (x : Addr) (t : Addr) (kb : ClassId) (s9 : Slot) (ca : Int32) (cb : Int32) (cc : Int32), Fr n0 lc → Stand p l e room_1 (s.setVm vmc) m #[(.int i0), (.int i1), (.int i2), (.int i3), (.int i4)] below meth c T lc 8 60 → T.heap = hc → Keep h0 hc [] → s.Since vmc kc → kc ≤ hc.size → Z.Warmed39 (s.setVm vmc).vm → (s.setVm vmc).vm.findClass "org/latchkey/redis/NodeAddressToStringPinLaw" = some m.cls → EmJ Z vmc hc → Exa Z hc x "java/lang/String" → Fld Z hc x "java/lang/String" "value" "[B" (.ref t) → Fld Z hc x "java/lang/String" "coder" "B" (.int (0 : Int32)) → Arv Z hc t kb .byte (Int32.ofNat hs.length) (lb hs) (.int 0) → (nn ≤ 3) → (hs = ([ca, cb, cc] : List Int32).take nn) → (Lat ca ∧ nar .char ca = ca) → (Lat cb ∧ nar .char cb = cb) → (Lat cc ∧ nar .char cc = cc) → Gl p.tables e below (fun o_ U_ => ∃ v_ L_, o_ = .returned v_ ∧ Qlawrm Z i0 i1 i2 i3 i4 G1 G3 d1 d2 k1 k2 h0 n0 v_ U_.heap U_.vm L_ ∧ ReturnedEndW s o_ U_ L_ 32 2240) (T.setTop (mkF m 114 #[sI i0, sI i1, sI i2, sI i3, sI i4, sI (Int32.ofNat nn), sI ca, sI cb, sI cc, s9, sU, sU, sU, sU, sU, sU, sU] [(.ref x)])) := by
    intro T hc lc vmc kc nn hs x t kb s9 ca cb cc Nc Xc ec Kc hSc hkc hZc hownc phc_em cf0 cf1 cf2 cf3 hnn hhs hca hcb hcc
    have zc : h0.size ≤ hc.size := Kc.1
    have lt524 := own_alt cf0.lt
    have lt525 := own_alt cf1.lt
    have lt526 := own_alt cf2.lt
    have lt527 := own_alt cf3.lt
    have hlatA : ∀ c ∈ hs, Lat c := by rw [hhs]; exact own_lat3 hca.1 hcb.1 hcc.1
    have hh3 : hs.length ≤ 3 := by rw [hhs]; exact own_len3
    show Gl p.tables e below _ (T.setTop (mkF m 114 #[sI i0, sI i1, sI i2, sI i3, sI i4, sI (Int32.ofNat nn), sI ca, sI cb, sI cc, s9, sU, sU, sU, sU, sU, sU, sU] [(.ref x)]))
    refine Gl.go (fun _ hr => zXS_astore Xc.here hx rfl (hb hby at_114) rfl rfl (l' := #[sI i0, sI i1, sI i2, sI i3, sI i4, sI (Int32.ofNat nn), sI ca, sI cb, sI cc, s9, sR x, sU, sU, sU, sU, sU, sU]) rfl (zXS_iload Xc.here hx rfl (hb hby at_116) rfl hr)) ?_
    refine Gl.go (Xc.ldcInt hx hownc (mvT hZc (tw hw 22 rfl)) rfl (hb hby at_118)) ?_
    refine Gl.go (fun _ hr => zXS_iand Xc.here hx rfl (hb hby at_120) rfl hr) ?_
    refine Gl.go (Xc.ldcInt hx hownc (mvT hZc (tw hw 23 rfl)) rfl (hb hby at_121)) ?_
    refine Gl.go (fun _ hr => zRW_iremM Xc hx rfl (hb hby at_123) rfl (by decide) (zXS_iconst Xc.here hx rfl (hb hby at_124) (zXS_iadd Xc.here hx rfl (hb hby at_125) rfl hr))) ?_
    show Gl p.tables e below _ (T.setTop (mkF m 126 #[sI i0, sI i1, sI i2, sI i3, sI i4, sI (Int32.ofNat nn), sI ca, sI cb, sI cc, s9, sR x, sU, sU, sU, sU, sU, sU] [(.int (((i4 &&& (2147483647 : Int32)) % (65535 : Int32)) + (1 : Int32)))]))
    obtain ⟨po, hpo, hp1, hp⟩ := own_port i4
    rw [hpo]
    show Gl p.tables e below _ (T.setTop (mkF m 126 #[sI i0, sI i1, sI i2, sI i3, sI i4, sI (Int32.ofNat nn), sI ca, sI cb, sI cc, s9, sR x, sU, sU, sU, sU, sU, sU] [(.int (Int32.ofNat po))]))
    refine Gl.go (fun _ hr => zXS_istore Xc.here hx rfl (hb hby at_126) rfl (l' := #[sI i0, sI i1, sI i2, sI i3, sI i4, sI (Int32.ofNat nn), sI ca, sI cb, sI cc, s9, sR x, sI (Int32.ofNat po), sU, sU, sU, sU, sU]) rfl hr) ?_
    refine gNew Gl.cl Xc hx hZc hownc (tw hw 24 rfl) (tw hw 25 rfl) (tw hw 26 rfl) ec rfl (hb hby at_128) (by decide) (by decide) ?_
    intro T528 h528 b528 g528 X528 e528 E528 A528 D528
    have z529 : hc.size ≤ h528.size := E528.1
    have lt528 := own_alt A528.lt
    have F528_host : Fld Z h528 b528 "org/latchkey/redis/NodeAddress" "host" "Ljava/lang/String;" .null := D528 (Or.inr (tw hw 37 rfl)) (ty := (.object "java/lang/String")) (by decide)
    have F528_port : Fld Z h528 b528 "org/latchkey/redis/NodeAddress" "port" "I" (.int (0 : Int32)) := D528 (Or.inr (tw hw 39 rfl)) (ty := .int) (by decide)
    refine Gl.go (fun _ hr => zXS_dup X528.here hx rfl (hb hby at_131) rfl rfl (zXS_aload X528.here hx rfl (hb hby at_132) rfl rfl (zXS_iload X528.here hx rfl (hb hby at_134) rfl hr))) ?_
    have Ec531 := (cf0.ext E528)
    have zz530 : n0 ≤ h528.size := by omega
    refine gSpecialN Gl.cl (y := (⟨"org/latchkey/redis/NodeAddress", "<init>", "(Ljava/lang/String;I)V"⟩ : MethodName)) (b := b528) (argsL := [(.ref x), (.int (Int32.ofNat po))]) (rest := [(.ref b528)]) (mc := 0) (ms := 0) X528 hx hZc hownc rfl (mvT hZc (tw hw 27 rfl)) (mvT hZc (tw hw 28 rfl)) (mvT hZc (tw hw 29 rfl)) (by decide) (backOf (W := 1) (nai l Z a0 hw [] b528 x po h528 n0 zz530 (by omega) A528 F528_host F528_port Ec531) hZc (tw hw 29 rfl) (tw hw 26 rfl) (by decide) (by decide)) rfl (by rw [hml]; rfl) (lenOf pd_24 rfl) rfl (by show 2 * 0 + _ ≤ _; exact Nat.le_of_eq rfl) (hb hby at_136) rfl e528 (by decide) (by decide) ?_
    intro v530 T530 Lc530 hQ530 X530
    obtain ⟨rfl, Nq530, K530, f530_0, f530_1, f530_2⟩ := hQ530
    have z532 : h528.size ≤ T530.heap.size := K530.1
    have N530 := Fr.app Nc Nq530
    have lt533 := own_alt f530_0.lt
    have lt534 := own_alt f530_1.lt
    have lt535 := own_alt f530_2.lt
    have om537 : @LE.le Nat instLENat Z.heap.size b528 := by omega
    have Oc538 := (((Oo.keep Kc all0).ext E528).keep K530 (allS (own_ale om537) all0))
    have Ec539 := (Ec531.keep K530)
    have om540 : ¬ @Eq Nat x b528 := by omega
    have Fc541 := ((cf1.ext E528).keep K530 (ninS (own_ane om540) nin0))
    have Fc542 := ((cf2.ext E528).keep K530 (ninS (own_ane om540) nin0))
    have om543 : ¬ @Eq Nat t b528 := by omega
    have Vc544 := ((cf3.ext E528).keep K530 (ninS (own_ane om543) nin0))
    have zz536 : n0 ≤ T530.heap.size := by omega
    have om547 : @LE.le Nat instLENat hc.size b528 := by omega
    have ph546 := phc_em.keep (((Keep.refl hc []).ext E528).trans K530 (allS (P := fun x_ => x_ ∈ ([] : List Addr) ∨ hc.size ≤ x_) (Or.inr (own_ale om547)) all0))
    have ph545 : IbJ Z vmc T530.heap := ph546.ib
    refine gVirtualJ Gl.cl (y := (⟨"org/latchkey/redis/NodeAddress", "toString", "()Ljava/lang/String;"⟩ : MethodName)) (z := (⟨"org/latchkey/redis/NodeAddress", "toString", "()Ljava/lang/String;"⟩ : MethodName)) (b := b528) (argsL := []) (rest := []) (mc := 8) (ms := 80) (Φ := fun vm => IbJ Z vm T530.heap) X530 hx hZc hSc (by have q := hkc; omega) hownc (mvT hZc (tw hw 40 rfl)) (mvT hZc (tw hw 41 rfl)) (notFace_of_selects (args := #[]) (mvT hZc (tw hw 43 rfl))) (mvT hZc (tw hw 43 rfl)) (mvT hZc (tw hw 42 rfl)) (by decide) f530_0 (backOfJ (Φ := fun vm => IbJ Z vm T530.heap) (W := 0) (tos l Z a0 hw [] b528 x t kb hs po G1 d1 d2 k1 k2 T530.heap n0 zz536 q0 (by assumption) ⟨Oc538, (by omega)⟩ q5 q6 q7 q8 (by assumption) (by assumption) f530_0 f530_1 f530_2 Ec539 Fc541 Fc542 Vc544 hlatA hh3 hp) hZc (tw hw 44 rfl) (tw hw 26 rfl) (by decide) (by decide)) rfl (by rw [hml]; rfl) (lenOf pd_20 rfl) rfl (by show 2 * 0 + _ ≤ _; exact Nat.le_of_eq rfl) (hb hby at_139) rfl (rfl : T530.heap = T530.heap) (fun vm₁ hvm => ph545.warm hvm) (by decide) (by decide) ?_
    intro v536 T536 Lc536 hQ536 X536 hS536 hZ536 hown536 hk536
    obtain ⟨r_536, t2_536, kr_536, N2_536, vs2_536, rfl, Nq536, K536, f536_0, f536_1, f536_2, f536_3, f536_4, f536_5, f536_6⟩ := hQ536
    have z548 : T530.heap.size ≤ T536.heap.size := K536.1
    have N536 := Fr.app N530 Nq536
    have lt549 := own_alt f536_1.lt
    have lt550 := own_alt f536_2.lt
    have lt551 := own_alt f536_3.lt
    have lt552 := own_alt f536_4.lt
    have hbd536 := own_up (naT_lat (po := po) hlatA)
    have hl536 : (naT hs po).length ≤ 4000 := by have q := digs_len po; have q2 := nd_le po; simp only [naT, List.length_append, List.length_cons]; omega
    refine Gl.go (fun _ hr => zXS_astore X536.here hx rfl (hb hby at_142) rfl rfl (l' := #[sI i0, sI i1, sI i2, sI i3, sI i4, sI (Int32.ofNat nn), sI ca, sI cb, sI cc, s9, sR x, sI (Int32.ofNat po), sR r_536, sU, sU, sU, sU]) rfl hr) ?_
    show Gl p.tables e below _ (T536.setTop (mkF m 144 #[sI i0, sI i1, sI i2, sI i3, sI i4, sI (Int32.ofNat nn), sI ca, sI cb, sI cc, s9, sR x, sI (Int32.ofNat po), sR r_536, sU, sU, sU, sU] []))
    obtain ⟨T553, ⟨lc553, N553, X553, e553⟩, st553⟩ : Sg (fun U => ∃ lc, Fr n0 lc ∧ Stand p l e room_1 (s.setVm T536.vm) m #[(.int i0), (.int i1), (.int i2), (.int i3), (.int i4)] below meth c U lc 17 142 ∧ U.heap = T536.heap) (mkF m 191 #[sI i0, sI i1, sI i2, sI i3, sI i4, sI (Int32.ofNat nn), sI ca, sI cb, sI cc, s9, sR x, sI (Int32.ofNat po), sR r_536, sU, sU, sU, sU] [(.int (Int32.ofNat (nd po)))]) p.tables e below (T536.setTop (mkF m 144 #[sI i0, sI i1, sI i2, sI i3, sI i4, sI (Int32.ofNat nn), sI ca, sI cb, sI cc, s9, sR x, sI (Int32.ofNat po), sR r_536, sU, sU, sU, sU] [])) := by
      rcases own_five po with ⟨hb1, hnd⟩ | ⟨hb1, hnd⟩ | ⟨hb1, hnd⟩ | ⟨hb1, hnd⟩ | ⟨hb1, hnd⟩
      · show Sg _ _ p.tables e below (T536.setTop (mkF m 144 #[sI i0, sI i1, sI i2, sI i3, sI i4, sI (Int32.ofNat nn), sI ca, sI cb, sI cc, s9, sR x, sI (Int32.ofNat po), sR r_536, sU, sU, sU, sU] []))
        refine Sg.go (fun _ hr => zXS_iload X536.here hx rfl (hb hby at_144) rfl (zXS_sipush X536.here hx rfl (hb hby at_146) hr)) ?_
        refine Sg.go (fun _ hr => zXS_icmpYes X536.here hx rfl (pc0 := 149) (pc' := 156) rfl (hb hby at_149) rfl (XT.ii_lt_t (own_lt32 (b := 10000) (by omega) (by omega))) (by decide) (by decide) (zXS_iload X536.here hx rfl (hb hby at_156) rfl (zXS_sipush X536.here hx rfl (hb hby at_158) hr))) ?_
        refine Sg.go (fun _ hr => zXS_icmpYes X536.here hx rfl (pc0 := 161) (pc' := 168) rfl (hb hby at_161) rfl (XT.ii_lt_t (own_lt32 (b := 1000) (by omega) (by omega))) (by decide) (by decide) (zXS_iload X536.here hx rfl (hb hby at_168) rfl (zXS_bipush X536.here hx rfl (hb hby at_170) hr))) ?_
        refine Sg.go (fun _ hr => zXS_icmpYes X536.here hx rfl (pc0 := 172) (pc' := 179) rfl (hb hby at_172) rfl (XT.ii_lt_t (own_lt32 (b := 100) (by omega) (by omega))) (by decide) (by decide) (zXS_iload X536.here hx rfl (hb hby at_179) rfl (zXS_bipush X536.here hx rfl (hb hby at_181) hr))) ?_
        refine Sg.go (fun _ hr => zXS_icmpYes X536.here hx rfl (pc0 := 183) (pc' := 190) rfl (hb hby at_183) rfl (XT.ii_lt_t (own_lt32 (b := 10) (by omega) (by omega))) (by decide) (by decide) (zXS_iconst X536.here hx rfl (hb hby at_190) hr)) ?_
        show Sg _ _ p.tables e below (T536.setTop (mkF m 191 #[sI i0, sI i1, sI i2, sI i3, sI i4, sI (Int32.ofNat nn), sI ca, sI cb, sI cc, s9, sR x, sI (Int32.ofNat po), sR r_536, sU, sU, sU, sU] [(.int (1 : Int32))]))
        exact ⟨T536, ⟨_, N536, X536, (rfl : T536.heap = T536.heap)⟩, fun _ hr => by rw [hnd] at hr; exact hr⟩
      · show Sg _ _ p.tables e below (T536.setTop (mkF m 144 #[sI i0, sI i1, sI i2, sI i3, sI i4, sI (Int32.ofNat nn), sI ca, sI cb, sI cc, s9, sR x, sI (Int32.ofNat po), sR r_536, sU, sU, sU, sU] []))
        refine Sg.go (fun _ hr => zXS_iload X536.here hx rfl (hb hby at_144) rfl (zXS_sipush X536.here hx rfl (hb hby at_146) hr)) ?_
        refine Sg.go (fun _ hr => zXS_icmpYes X536.here hx rfl (pc0 := 149) (pc' := 156) rfl (hb hby at_149) rfl (XT.ii_lt_t (own_lt32 (b := 10000) (by omega) (by omega))) (by decide) (by decide) (zXS_iload X536.here hx rfl (hb hby at_156) rfl (zXS_sipush X536.here hx rfl (hb hby at_158) hr))) ?_
        refine Sg.go (fun _ hr => zXS_icmpYes X536.here hx rfl (pc0 := 161) (pc' := 168) rfl (hb hby at_161) rfl (XT.ii_lt_t (own_lt32 (b := 1000) (by omega) (by omega))) (by decide) (by decide) (zXS_iload X536.here hx rfl (hb hby at_168) rfl (zXS_bipush X536.here hx rfl (hb hby at_170) hr))) ?_
        refine Sg.go (fun _ hr => zXS_icmpYes X536.here hx rfl (pc0 := 172) (pc' := 179) rfl (hb hby at_172) rfl (XT.ii_lt_t (own_lt32 (b := 100) (by omega) (by omega))) (by decide) (by decide) (zXS_iload X536.here hx rfl (hb hby at_179) rfl (zXS_bipush X536.here hx rfl (hb hby at_181) hr))) ?_
        refine Sg.go (fun _ hr => zXS_icmpNo X536.here hx rfl (hb hby at_183) rfl (XT.ii_lt_f (own_nlt32 (b := 10) (by omega) (by omega) (by omega))) (zXS_iconst X536.here hx rfl (hb hby at_186) (zXS_goto X536.here hx rfl (pc0 := 187) (pc' := 191) rfl (hb hby at_187) (by decide) (by decide) hr))) ?_
        show Sg _ _ p.tables e below (T536.setTop (mkF m 191 #[sI i0, sI i1, sI i2, sI i3, sI i4, sI (Int32.ofNat nn), sI ca, sI cb, sI cc, s9, sR x, sI (Int32.ofNat po), sR r_536, sU, sU, sU, sU] [(.int (2 : Int32))]))
        exact ⟨T536, ⟨_, N536, X536, (rfl : T536.heap = T536.heap)⟩, fun _ hr => by rw [hnd] at hr; exact hr⟩
      · show Sg _ _ p.tables e below (T536.setTop (mkF m 144 #[sI i0, sI i1, sI i2, sI i3, sI i4, sI (Int32.ofNat nn), sI ca, sI cb, sI cc, s9, sR x, sI (Int32.ofNat po), sR r_536, sU, sU, sU, sU] []))
        refine Sg.go (fun _ hr => zXS_iload X536.here hx rfl (hb hby at_144) rfl (zXS_sipush X536.here hx rfl (hb hby at_146) hr)) ?_
        refine Sg.go (fun _ hr => zXS_icmpYes X536.here hx rfl (pc0 := 149) (pc' := 156) rfl (hb hby at_149) rfl (XT.ii_lt_t (own_lt32 (b := 10000) (by omega) (by omega))) (by decide) (by decide) (zXS_iload X536.here hx rfl (hb hby at_156) rfl (zXS_sipush X536.here hx rfl (hb hby at_158) hr))) ?_
        refine Sg.go (fun _ hr => zXS_icmpYes X536.here hx rfl (pc0 := 161) (pc' := 168) rfl (hb hby at_161) rfl (XT.ii_lt_t (own_lt32 (b := 1000) (by omega) (by omega))) (by decide) (by decide) (zXS_iload X536.here hx rfl (hb hby at_168) rfl (zXS_bipush X536.here hx rfl (hb hby at_170) hr))) ?_
        refine Sg.go (fun _ hr => zXS_icmpNo X536.here hx rfl (hb hby at_172) rfl (XT.ii_lt_f (own_nlt32 (b := 100) (by omega) (by omega) (by omega))) (zXS_iconst X536.here hx rfl (hb hby at_175) (zXS_goto X536.here hx rfl (pc0 := 176) (pc' := 191) rfl (hb hby at_176) (by decide) (by decide) hr))) ?_
        show Sg _ _ p.tables e below (T536.setTop (mkF m 191 #[sI i0, sI i1, sI i2, sI i3, sI i4, sI (Int32.ofNat nn), sI ca, sI cb, sI cc, s9, sR x, sI (Int32.ofNat po), sR r_536, sU, sU, sU, sU] [(.int (3 : Int32))]))
        exact ⟨T536, ⟨_, N536, X536, (rfl : T536.heap = T536.heap)⟩, fun _ hr => by rw [hnd] at hr; exact hr⟩
      · show Sg _ _ p.tables e below (T536.setTop (mkF m 144 #[sI i0, sI i1, sI i2, sI i3, sI i4, sI (Int32.ofNat nn), sI ca, sI cb, sI cc, s9, sR x, sI (Int32.ofNat po), sR r_536, sU, sU, sU, sU] []))
        refine Sg.go (fun _ hr => zXS_iload X536.here hx rfl (hb hby at_144) rfl (zXS_sipush X536.here hx rfl (hb hby at_146) hr)) ?_
        refine Sg.go (fun _ hr => zXS_icmpYes X536.here hx rfl (pc0 := 149) (pc' := 156) rfl (hb hby at_149) rfl (XT.ii_lt_t (own_lt32 (b := 10000) (by omega) (by omega))) (by decide) (by decide) (zXS_iload X536.here hx rfl (hb hby at_156) rfl (zXS_sipush X536.here hx rfl (hb hby at_158) hr))) ?_
        refine Sg.go (fun _ hr => zXS_icmpNo X536.here hx rfl (hb hby at_161) rfl (XT.ii_lt_f (own_nlt32 (b := 1000) (by omega) (by omega) (by omega))) (zXS_iconst X536.here hx rfl (hb hby at_164) (zXS_goto X536.here hx rfl (pc0 := 165) (pc' := 191) rfl (hb hby at_165) (by decide) (by decide) hr))) ?_
        show Sg _ _ p.tables e below (T536.setTop (mkF m 191 #[sI i0, sI i1, sI i2, sI i3, sI i4, sI (Int32.ofNat nn), sI ca, sI cb, sI cc, s9, sR x, sI (Int32.ofNat po), sR r_536, sU, sU, sU, sU] [(.int (4 : Int32))]))
        exact ⟨T536, ⟨_, N536, X536, (rfl : T536.heap = T536.heap)⟩, fun _ hr => by rw [hnd] at hr; exact hr⟩
      · show Sg _ _ p.tables e below (T536.setTop (mkF m 144 #[sI i0, sI i1, sI i2, sI i3, sI i4, sI (Int32.ofNat nn), sI ca, sI cb, sI cc, s9, sR x, sI (Int32.ofNat po), sR r_536, sU, sU, sU, sU] []))
        refine Sg.go (fun _ hr => zXS_iload X536.here hx rfl (hb hby at_144) rfl (zXS_sipush X536.here hx rfl (hb hby at_146) hr)) ?_
        refine Sg.go (fun _ hr => zXS_icmpNo X536.here hx rfl (hb hby at_149) rfl (XT.ii_lt_f (own_nlt32 (b := 10000) (by omega) (by omega) (by omega))) (zXS_iconst X536.here hx rfl (hb hby at_152) (zXS_goto X536.here hx rfl (pc0 := 153) (pc' := 191) rfl (hb hby at_153) (by decide) (by decide) hr))) ?_
        show Sg _ _ p.tables e below (T536.setTop (mkF m 191 #[sI i0, sI i1, sI i2, sI i3, sI i4, sI (Int32.ofNat nn), sI ca, sI cb, sI cc, s9, sR x, sI (Int32.ofNat po), sR r_536, sU, sU, sU, sU] [(.int (5 : Int32))]))
        exact ⟨T536, ⟨_, N536, X536, (rfl : T536.heap = T536.heap)⟩, fun _ hr => by rw [hnd] at hr; exact hr⟩
    refine Gl.go st553 ?_
    show Gl p.tables e below _ (T553.setTop (mkF m 191 #[sI i0, sI i1, sI i2, sI i3, sI i4, sI (Int32.ofNat nn), sI ca, sI cb, sI cc, s9, sR x, sI (Int32.ofNat po), sR r_536, sU, sU, sU, sU] [(.int (Int32.ofNat (nd po)))]))
    refine Gl.go (fun _ hr => zXS_istore X553.here hx rfl (hb hby at_191) rfl (l' := #[sI i0, sI i1, sI i2, sI i3, sI i4, sI (Int32.ofNat nn), sI ca, sI cb, sI cc, s9, sR x, sI (Int32.ofNat po), sR r_536, sI (Int32.ofNat (nd po)), sU, sU, sU]) rfl (zXS_iconst X553.here hx rfl (hb hby at_193) hr)) ?_
    refine gNewP Gl.cl X553 hx hZ536 (tw hw 175 rfl) e553 rfl (hb hby at_194) rfl (by decide) (cap := 5) (by decide) (by decide) (by decide) (by decide) ?_
    intro T554 h554 b554 k554 g554 X554 e554 E554 A554
    have z555 : T536.heap.size ≤ h554.size := E554.1
    have lt554 := own_alt A554.lt
    have V554 : Arv Z h554 b554 k554 .int (5 : Int32) [(.int (0 : Int32)), (.int (0 : Int32)), (.int (0 : Int32)), (.int (0 : Int32)), (.int (0 : Int32))] (.int (0 : Int32)) := (Arv.new A554 (by decide)).pad (pad_rep [] (.int (0 : Int32)) 5)
    refine Gl.go (fun _ hr => zXS_dup X554.here hx rfl (hb hby at_196) rfl rfl (zXS_iconst X554.here hx rfl (hb hby at_197) (zXS_iload X554.here hx rfl (hb hby at_198) rfl (zXS_sipush X554.here hx rfl (hb hby at_200) (zXS_idiv X554.here hx rfl (hb hby at_203) rfl (by decide) (zXS_bipush X554.here hx rfl (hb hby at_204) (zRW_iremM X554 hx rfl (hb hby at_206) rfl (by decide) hr))))))) ?_
    show Gl p.tables e below _ (T554.setTop (mkF m 207 #[sI i0, sI i1, sI i2, sI i3, sI i4, sI (Int32.ofNat nn), sI ca, sI cb, sI cc, s9, sR x, sI (Int32.ofNat po), sR r_536, sI (Int32.ofNat (nd po)), sU, sU, sU] [(.int (((Int32.ofNat po) / (10000 : Int32)) % (10 : Int32))), (.int (0 : Int32)), (.ref b554), (.ref b554)]))
    rw [(own_dm (p := po) (c := 10000) rfl (by decide) hp)]
    show Gl p.tables e below _ (T554.setTop (mkF m 207 #[sI i0, sI i1, sI i2, sI i3, sI i4, sI (Int32.ofNat nn), sI ca, sI cb, sI cc, s9, sR x, sI (Int32.ofNat po), sR r_536, sI (Int32.ofNat (nd po)), sU, sU, sU] [(.int (Int32.ofNat (po / 10000 % 10))), (.int (0 : Int32)), (.ref b554), (.ref b554)]))
    obtain ⟨c556, a556, q556, s556, m556, H556, U556⟩ := id V554
    refine gstI Gl.cl X554 hx hZ536 e554 a556 (j := (0 : Int32)) (inb_of s556 ⟨(by decide), (by decide)⟩) rfl rfl (hb hby at_207) ?_
    intro T556 h556 X556 e556 W556
    have z557 : h554.size ≤ h556.size := (Keep.of_wr W556).1
    have V556 : Arv Z h556 b554 k554 .int (5 : Int32) [(.int (Int32.ofNat (po / 10000 % 10))), (.int (0 : Int32)), (.int (0 : Int32)), (.int (0 : Int32)), (.int (0 : Int32))] (.int (0 : Int32)) := Arv.set a556 q556 s556 m556 H556 U556 rfl W556 0 rfl (Nat.le_of_ble_eq_true rfl)
    have om558 : @LE.le Nat instLENat n0 b554 := by omega
    have N556 := Fr.snoc X556 N553 (own_ale om558)
    refine Gl.go (fun _ hr => zXS_dup X556.here hx rfl (hb hby at_208) rfl rfl (zXS_iconst X556.here hx rfl (hb hby at_209) (zXS_iload X556.here hx rfl (hb hby at_210) rfl (zXS_sipush X556.here hx rfl (hb hby at_212) (zXS_idiv X556.here hx rfl (hb hby at_215) rfl (by decide) (zXS_bipush X556.here hx rfl (hb hby at_216) (zRW_iremM X556 hx rfl (hb hby at_218) rfl (by decide) hr))))))) ?_
    show Gl p.tables e below _ (T556.setTop (mkF m 219 #[sI i0, sI i1, sI i2, sI i3, sI i4, sI (Int32.ofNat nn), sI ca, sI cb, sI cc, s9, sR x, sI (Int32.ofNat po), sR r_536, sI (Int32.ofNat (nd po)), sU, sU, sU] [(.int (((Int32.ofNat po) / (1000 : Int32)) % (10 : Int32))), (.int (1 : Int32)), (.ref b554), (.ref b554)]))
    rw [(own_dm (p := po) (c := 1000) rfl (by decide) hp)]
    show Gl p.tables e below _ (T556.setTop (mkF m 219 #[sI i0, sI i1, sI i2, sI i3, sI i4, sI (Int32.ofNat nn), sI ca, sI cb, sI cc, s9, sR x, sI (Int32.ofNat po), sR r_536, sI (Int32.ofNat (nd po)), sU, sU, sU] [(.int (Int32.ofNat (po / 1000 % 10))), (.int (1 : Int32)), (.ref b554), (.ref b554)]))
    obtain ⟨c559, a559, q559, s559, m559, H559, U559⟩ := id V556
    refine gstI Gl.cl X556 hx hZ536 e556 a559 (j := (1 : Int32)) (inb_of s559 ⟨(by decide), (by decide)⟩) rfl rfl (hb hby at_219) ?_
    intro T559 h559 X559 e559 W559
    have z560 : h556.size ≤ h559.size := (Keep.of_wr W559).1
    have V559 : Arv Z h559 b554 k554 .int (5 : Int32) [(.int (Int32.ofNat (po / 10000 % 10))), (.int (Int32.ofNat (po / 1000 % 10))), (.int (0 : Int32)), (.int (0 : Int32)), (.int (0 : Int32))] (.int (0 : Int32)) := Arv.set a559 q559 s559 m559 H559 U559 rfl W559 1 rfl (Nat.le_of_ble_eq_true rfl)
    have N559 := Fr.snoc X559 N556 (own_ale om558)
    refine Gl.go (fun _ hr => zXS_dup X559.here hx rfl (hb hby at_220) rfl rfl (zXS_iconst X559.here hx rfl (hb hby at_221) (zXS_iload X559.here hx rfl (hb hby at_222) rfl (zXS_bipush X559.here hx rfl (hb hby at_224) (zXS_idiv X559.here hx rfl (hb hby at_226) rfl (by decide) (zXS_bipush X559.here hx rfl (hb hby at_227) (zRW_iremM X559 hx rfl (hb hby at_229) rfl (by decide) hr))))))) ?_
    show Gl p.tables e below _ (T559.setTop (mkF m 230 #[sI i0, sI i1, sI i2, sI i3, sI i4, sI (Int32.ofNat nn), sI ca, sI cb, sI cc, s9, sR x, sI (Int32.ofNat po), sR r_536, sI (Int32.ofNat (nd po)), sU, sU, sU] [(.int (((Int32.ofNat po) / (100 : Int32)) % (10 : Int32))), (.int (2 : Int32)), (.ref b554), (.ref b554)]))
    rw [(own_dm (p := po) (c := 100) rfl (by decide) hp)]
    show Gl p.tables e below _ (T559.setTop (mkF m 230 #[sI i0, sI i1, sI i2, sI i3, sI i4, sI (Int32.ofNat nn), sI ca, sI cb, sI cc, s9, sR x, sI (Int32.ofNat po), sR r_536, sI (Int32.ofNat (nd po)), sU, sU, sU] [(.int (Int32.ofNat (po / 100 % 10))), (.int (2 : Int32)), (.ref b554), (.ref b554)]))
    obtain ⟨c561, a561, q561, s561, m561, H561, U561⟩ := id V559
    refine gstI Gl.cl X559 hx hZ536 e559 a561 (j := (2 : Int32)) (inb_of s561 ⟨(by decide), (by decide)⟩) rfl rfl (hb hby at_230) ?_
    intro T561 h561 X561 e561 W561
    have z562 : h559.size ≤ h561.size := (Keep.of_wr W561).1
    have V561 : Arv Z h561 b554 k554 .int (5 : Int32) [(.int (Int32.ofNat (po / 10000 % 10))), (.int (Int32.ofNat (po / 1000 % 10))), (.int (Int32.ofNat (po / 100 % 10))), (.int (0 : Int32)), (.int (0 : Int32))] (.int (0 : Int32)) := Arv.set a561 q561 s561 m561 H561 U561 rfl W561 2 rfl (Nat.le_of_ble_eq_true rfl)
    have N561 := Fr.snoc X561 N559 (own_ale om558)
    refine Gl.go (fun _ hr => zXS_dup X561.here hx rfl (hb hby at_231) rfl rfl (zXS_iconst X561.here hx rfl (hb hby at_232) (zXS_iload X561.here hx rfl (hb hby at_233) rfl (zXS_bipush X561.here hx rfl (hb hby at_235) (zXS_idiv X561.here hx rfl (hb hby at_237) rfl (by decide) (zXS_bipush X561.here hx rfl (hb hby at_238) (zRW_iremM X561 hx rfl (hb hby at_240) rfl (by decide) hr))))))) ?_
    show Gl p.tables e below _ (T561.setTop (mkF m 241 #[sI i0, sI i1, sI i2, sI i3, sI i4, sI (Int32.ofNat nn), sI ca, sI cb, sI cc, s9, sR x, sI (Int32.ofNat po), sR r_536, sI (Int32.ofNat (nd po)), sU, sU, sU] [(.int (((Int32.ofNat po) / (10 : Int32)) % (10 : Int32))), (.int (3 : Int32)), (.ref b554), (.ref b554)]))
    rw [(own_dm (p := po) (c := 10) rfl (by decide) hp)]
    show Gl p.tables e below _ (T561.setTop (mkF m 241 #[sI i0, sI i1, sI i2, sI i3, sI i4, sI (Int32.ofNat nn), sI ca, sI cb, sI cc, s9, sR x, sI (Int32.ofNat po), sR r_536, sI (Int32.ofNat (nd po)), sU, sU, sU] [(.int (Int32.ofNat (po / 10 % 10))), (.int (3 : Int32)), (.ref b554), (.ref b554)]))
    obtain ⟨c563, a563, q563, s563, m563, H563, U563⟩ := id V561
    refine gstI Gl.cl X561 hx hZ536 e561 a563 (j := (3 : Int32)) (inb_of s563 ⟨(by decide), (by decide)⟩) rfl rfl (hb hby at_241) ?_
    intro T563 h563 X563 e563 W563
    have z564 : h561.size ≤ h563.size := (Keep.of_wr W563).1
    have V563 : Arv Z h563 b554 k554 .int (5 : Int32) [(.int (Int32.ofNat (po / 10000 % 10))), (.int (Int32.ofNat (po / 1000 % 10))), (.int (Int32.ofNat (po / 100 % 10))), (.int (Int32.ofNat (po / 10 % 10))), (.int (0 : Int32))] (.int (0 : Int32)) := Arv.set a563 q563 s563 m563 H563 U563 rfl W563 3 rfl (Nat.le_of_ble_eq_true rfl)
    have N563 := Fr.snoc X563 N561 (own_ale om558)
    refine Gl.go (fun _ hr => zXS_dup X563.here hx rfl (hb hby at_242) rfl rfl (zXS_iconst X563.here hx rfl (hb hby at_243) (zXS_iload X563.here hx rfl (hb hby at_244) rfl (zXS_bipush X563.here hx rfl (hb hby at_246) (zRW_iremM X563 hx rfl (hb hby at_248) rfl (by decide) hr))))) ?_
    show Gl p.tables e below _ (T563.setTop (mkF m 249 #[sI i0, sI i1, sI i2, sI i3, sI i4, sI (Int32.ofNat nn), sI ca, sI cb, sI cc, s9, sR x, sI (Int32.ofNat po), sR r_536, sI (Int32.ofNat (nd po)), sU, sU, sU] [(.int ((Int32.ofNat po) % (10 : Int32))), (.int (4 : Int32)), (.ref b554), (.ref b554)]))
    rw [(own_dm1 (p := po) hp)]
    show Gl p.tables e below _ (T563.setTop (mkF m 249 #[sI i0, sI i1, sI i2, sI i3, sI i4, sI (Int32.ofNat nn), sI ca, sI cb, sI cc, s9, sR x, sI (Int32.ofNat po), sR r_536, sI (Int32.ofNat (nd po)), sU, sU, sU] [(.int (Int32.ofNat (po % 10))), (.int (4 : Int32)), (.ref b554), (.ref b554)]))
    obtain ⟨c565, a565, q565, s565, m565, H565, U565⟩ := id V563
    refine gstI Gl.cl X563 hx hZ536 e563 a565 (j := (4 : Int32)) (inb_of s565 ⟨(by decide), (by decide)⟩) rfl rfl (hb hby at_249) ?_
    intro T565 h565 X565 e565 W565
    have z566 : h563.size ≤ h565.size := (Keep.of_wr W565).1
    have V565 : Arv Z h565 b554 k554 .int (5 : Int32) [(.int (Int32.ofNat (po / 10000 % 10))), (.int (Int32.ofNat (po / 1000 % 10))), (.int (Int32.ofNat (po / 100 % 10))), (.int (Int32.ofNat (po / 10 % 10))), (.int (Int32.ofNat (po % 10)))] (.int (0 : Int32)) := Arv.set a565 q565 s565 m565 H565 U565 rfl W565 4 rfl (Nat.le_of_ble_eq_true rfl)
    have N565 := Fr.snoc X565 N563 (own_ale om558)
    refine Gl.go (fun _ hr => zXS_astore X565.here hx rfl (hb hby at_250) rfl rfl (l' := #[sI i0, sI i1, sI i2, sI i3, sI i4, sI (Int32.ofNat nn), sI ca, sI cb, sI cc, s9, sR x, sI (Int32.ofNat po), sR r_536, sI (Int32.ofNat (nd po)), sR b554, sU, sU]) rfl hr) ?_
    show Gl p.tables e below _ (T565.setTop (mkF m 252 #[sI i0, sI i1, sI i2, sI i3, sI i4, sI (Int32.ofNat nn), sI ca, sI cb, sI cc, s9, sR x, sI (Int32.ofNat po), sR r_536, sI (Int32.ofNat (nd po)), sR b554, sU, sU] []))
    rcases own_four hnn with rfl | rfl | rfl | rfl
    · show Gl p.tables e below _ (T565.setTop (mkF m 252 #[sI i0, sI i1, sI i2, sI i3, sI i4, sI 0, sI ca, sI cb, sI cc, s9, sR x, sI (Int32.ofNat po), sR r_536, sI (Int32.ofNat (nd po)), sR b554, sU, sU] []))
      refine Gl.go (fun _ hr => zXS_bipush X565.here hx rfl (hb hby at_252) hr) ?_
      refine gNewP Gl.cl X565 hx hZ536 (tw hw 0 rfl) e565 rfl (hb hby at_254) rfl (by decide) (cap := 9) (by decide) (by decide) (by decide) (by decide) ?_
      intro T567 h567 b567 k567 g567 X567 e567 E567 A567
      have z568 : h565.size ≤ h567.size := E567.1
      have lt567 := own_alt A567.lt
      have V567 : Arv Z h567 b567 k567 .char (9 : Int32) [(.int (0 : Int32)), (.int (0 : Int32)), (.int (0 : Int32)), (.int (0 : Int32)), (.int (0 : Int32)), (.int (0 : Int32)), (.int (0 : Int32)), (.int (0 : Int32)), (.int (0 : Int32))] (.int (0 : Int32)) := (Arv.new A567 (by decide)).pad (pad_rep [] (.int (0 : Int32)) 9)
      refine Gl.go (fun _ hr => zXS_astore X567.here hx rfl (hb hby at_256) rfl rfl (l' := #[sI i0, sI i1, sI i2, sI i3, sI i4, sI 0, sI ca, sI cb, sI cc, s9, sR x, sI (Int32.ofNat po), sR r_536, sI (Int32.ofNat (nd po)), sR b554, sR b567, sU]) rfl hr) ?_
      have om569 : ¬ @Eq Nat r_536 b567 := by omega
      have om570 : ¬ @Eq Nat t2_536 b567 := by omega
      have om571 : @LE.le Nat instLENat n0 b567 := by omega
      have om572 : @LE.le Nat instLENat h0.size b567 := by omega
      have om573 : @LE.le Nat instLENat Z.heap.size b567 := by omega
      refine Gl.go (fun _ hr => zXS_iload X567.here hx rfl (hb hby at_258) rfl (zXS_ifYes X567.here hx rfl (pc0 := 260) (pc' := 269) rfl (hb hby at_260) rfl (XT.i0_le_t (by decide)) (by decide) (by decide) (zXS_iload X567.here hx rfl (hb hby at_269) rfl (zXS_iconst X567.here hx rfl (hb hby at_271) (zXS_icmpYes X567.here hx rfl (pc0 := 272) (pc' := 281) rfl (hb hby at_272) rfl (XT.ii_le_t (by decide)) (by decide) (by decide) (zXS_iload X567.here hx rfl (hb hby at_281) rfl (zXS_iconst X567.here hx rfl (hb hby at_283) (zXS_icmpYes X567.here hx rfl (pc0 := 284) (pc' := 293) rfl (hb hby at_284) rfl (XT.ii_le_t (by decide)) (by decide) (by decide) (zXS_aload X567.here hx rfl (hb hby at_293) rfl rfl (zXS_iload X567.here hx rfl (hb hby at_295) rfl hr)))))))))) ?_
      refine Gl.go (fun _ hr => zXS_bipush X567.here hx rfl (hb hby at_297) hr) ?_
      obtain ⟨c574, a574, q574, s574, m574, H574, U574⟩ := id V567
      refine gstC Gl.cl X567 hx hZ536 e567 a574 (j := (0 : Int32)) (inb_of s574 ⟨(by decide), (by decide)⟩) rfl rfl (hb hby at_299) ?_
      intro T574 h574 X574 e574 W574
      have z575 : h567.size ≤ h574.size := (Keep.of_wr W574).1
      have V574 : Arv Z h574 b567 k567 .char (9 : Int32) [(.int (58 : Int32)), (.int (0 : Int32)), (.int (0 : Int32)), (.int (0 : Int32)), (.int (0 : Int32)), (.int (0 : Int32)), (.int (0 : Int32)), (.int (0 : Int32)), (.int (0 : Int32))] (.int (0 : Int32)) := Arv.set a574 q574 s574 m574 H574 U574 rfl W574 0 rfl (Nat.le_of_ble_eq_true rfl)
      have N574 := Fr.snoc X574 N565 (own_ale om571)
      show Gl p.tables e below _ (T574.setTop (mkF m 300 #[sI i0, sI i1, sI i2, sI i3, sI i4, sI 0, sI ca, sI cb, sI cc, s9, sR x, sI (Int32.ofNat po), sR r_536, sI (Int32.ofNat (nd po)), sR b554, sR b567, sU] []))
      rcases own_five po with ⟨hb1, hnd⟩ | ⟨hb1, hnd⟩ | ⟨hb1, hnd⟩ | ⟨hb1, hnd⟩ | ⟨hb1, hnd⟩
      · rw [hnd]
        show Gl p.tables e below _ (T574.setTop (mkF m 300 #[sI i0, sI i1, sI i2, sI i3, sI i4, sI 0, sI ca, sI cb, sI cc, s9, sR x, sI (Int32.ofNat po), sR r_536, sI 1, sR b554, sR b567, sU] []))
        refine Gl.go (fun _ hr => zXS_iconst X574.here hx rfl (hb hby at_300) (zXS_iload X574.here hx rfl (hb hby at_301) rfl (zXS_icmpNo X574.here hx rfl (hb hby at_303) rfl (XT.ii_ge_f (by decide)) (zXS_aload X574.here hx rfl (hb hby at_306) rfl rfl (zXS_iload X574.here hx rfl (hb hby at_308) rfl (zXS_iconst X574.here hx rfl (hb hby at_310) (zXS_iadd X574.here hx rfl (hb hby at_311) rfl (zXS_bipush X574.here hx rfl (hb hby at_312) (zXS_aload X574.here hx rfl (hb hby at_314) rfl rfl (zXS_iconst X574.here hx rfl (hb hby at_316) hr)))))))))) ?_
        refine Gl.go (fun _ hr => zXS_iload X574.here hx rfl (hb hby at_317) rfl (zXS_isub X574.here hx rfl (hb hby at_319) rfl hr)) ?_
        have om576 : ¬ @Eq Nat b554 b567 := by omega
        have Vc577 := ((V565.ext E567).other W574 (own_ane om576))
        obtain ⟨c578, a578, q578, s578, m578, H578, U578⟩ := id Vc577
        have i578 := inb_of s578 (j := (4 : Int32)) ⟨(by decide), (by decide)⟩
        refine g_iaload Gl.cl X574 hx hZ536 e574 a578 i578 (v := (.int (Int32.ofNat (po % 10)))) (H578.at i578 rfl) rfl rfl (hb hby at_320) ?_
        refine Gl.go (fun _ hr => zXS_iadd X574.here hx rfl (hb hby at_321) rfl (zXT_i2c X574.here hx rfl (hb hby at_322) rfl hr)) ?_
        show Gl p.tables e below _ (T574.setTop (mkF m 323 #[sI i0, sI i1, sI i2, sI i3, sI i4, sI 0, sI ca, sI cb, sI cc, s9, sR x, sI (Int32.ofNat po), sR r_536, sI 1, sR b554, sR b567, sU] [(.int (((48 : Int32) + (Int32.ofNat (po % 10))).toUInt32.toUInt16.toUInt32.toInt32)), (.int (1 : Int32)), (.ref b567)]))
        rw [(own_chr po)]
        show Gl p.tables e below _ (T574.setTop (mkF m 323 #[sI i0, sI i1, sI i2, sI i3, sI i4, sI 0, sI ca, sI cb, sI cc, s9, sR x, sI (Int32.ofNat po), sR r_536, sI 1, sR b554, sR b567, sU] [(.int (dch po)), (.int (1 : Int32)), (.ref b567)]))
        obtain ⟨c579, a579, q579, s579, m579, H579, U579⟩ := id V574
        refine gstC Gl.cl X574 hx hZ536 e574 a579 (j := (1 : Int32)) (inb_of s579 ⟨(by decide), (by decide)⟩) rfl rfl (hb hby at_323) ?_
        intro T579 h579 X579 e579 W579
        have z580 : h574.size ≤ h579.size := (Keep.of_wr W579).1
        rw [(dch_narc _)] at W579
        have V579 : Arv Z h579 b567 k567 .char (9 : Int32) [(.int (58 : Int32)), (.int (dch po)), (.int (0 : Int32)), (.int (0 : Int32)), (.int (0 : Int32)), (.int (0 : Int32)), (.int (0 : Int32)), (.int (0 : Int32)), (.int (0 : Int32))] (.int (0 : Int32)) := Arv.set a579 q579 s579 m579 H579 U579 (dch_fitc _) W579 1 rfl (Nat.le_of_ble_eq_true rfl)
        have N579 := Fr.snoc X579 N574 (own_ale om571)
        refine Gl.go (fun _ hr => zXS_iconst X579.here hx rfl (hb hby at_324) (zXS_iload X579.here hx rfl (hb hby at_325) rfl (zXS_icmpYes X579.here hx rfl (pc0 := 327) (pc' := 349) rfl (hb hby at_327) rfl (XT.ii_ge_t (by decide)) (by decide) (by decide) (zXS_iconst X579.here hx rfl (hb hby at_349) (zXS_iload X579.here hx rfl (hb hby at_350) rfl (zXS_icmpYes X579.here hx rfl (pc0 := 352) (pc' := 374) rfl (hb hby at_352) rfl (XT.ii_ge_t (by decide)) (by decide) (by decide) (zXS_iconst X579.here hx rfl (hb hby at_374) (zXS_iload X579.here hx rfl (hb hby at_375) rfl (zXS_icmpYes X579.here hx rfl (pc0 := 377) (pc' := 399) rfl (hb hby at_377) rfl (XT.ii_ge_t (by decide)) (by decide) (by decide) (zXS_iconst X579.here hx rfl (hb hby at_399) hr)))))))))) ?_
        refine Gl.go (fun _ hr => zXS_iload X579.here hx rfl (hb hby at_400) rfl (zXS_icmpYes X579.here hx rfl (pc0 := 402) (pc' := 424) rfl (hb hby at_402) rfl (XT.ii_ge_t (by decide)) (by decide) (by decide) (zXS_iload X579.here hx rfl (hb hby at_424) rfl (zXS_iconst X579.here hx rfl (hb hby at_426) (zXS_iadd X579.here hx rfl (hb hby at_427) rfl (zXS_iload X579.here hx rfl (hb hby at_428) rfl (zXS_iadd X579.here hx rfl (hb hby at_430) rfl (zXS_istore X579.here hx rfl (hb hby at_431) rfl (l' := #[sI i0, sI i1, sI i2, sI i3, sI i4, sI 0, sI ca, sI cb, sI cc, s9, sR x, sI (Int32.ofNat po), sR r_536, sI 1, sR b554, sR b567, sI 2]) rfl hr)))))))) ?_
        have hto : (naT hs po).length = 2 := by rw [hhs, naT, show digs po = [dch po] from by rw [digs, if_pos (by omega)]]; rfl
        have om581 : @LE.le Nat instLENat h0.size b528 := by omega
        have om582 : @LE.le Nat instLENat h0.size b554 := by omega
        have Ec583 := (((((((((f536_1.ext E554).wr W556).wr W559).wr W561).wr W563).wr W565).ext E567).wr W574).wr W579)
        have om584 : ¬ @Eq Nat r_536 b554 := by omega
        have Fc585 := (((((((((f536_2.ext E554).other W556 (Or.inl (own_ane om584))).other W559 (Or.inl (own_ane om584))).other W561 (Or.inl (own_ane om584))).other W563 (Or.inl (own_ane om584))).other W565 (Or.inl (own_ane om584))).ext E567).other W574 (Or.inl (own_ane om569))).other W579 (Or.inl (own_ane om569)))
        have Fc586 := (((((((((f536_3.ext E554).other W556 (Or.inl (own_ane om584))).other W559 (Or.inl (own_ane om584))).other W561 (Or.inl (own_ane om584))).other W563 (Or.inl (own_ane om584))).other W565 (Or.inl (own_ane om584))).ext E567).other W574 (Or.inl (own_ane om569))).other W579 (Or.inl (own_ane om569)))
        have om587 : ¬ @Eq Nat t2_536 b554 := by omega
        have Vc588 := (((((((((f536_4.ext E554).other W556 (own_ane om587)).other W559 (own_ane om587)).other W561 (own_ane om587)).other W563 (own_ane om587)).other W565 (own_ane om587)).ext E567).other W574 (own_ane om570)).other W579 (own_ane om570))
        exact tB T579 h579 _ T536.vm _ r_536 t2_536 kr_536 N2_536 vs2_536 (naT hs po) b567 k567 ([(.int (58 : Int32)), (.int (dch po)), (.int (0 : Int32)), (.int (0 : Int32)), (.int (0 : Int32)), (.int (0 : Int32)), (.int (0 : Int32)), (.int (0 : Int32)), (.int (0 : Int32))]) 2 (sI 0) (sI ca) (sI cb) (sI cc) s9 (sR x) (sI (Int32.ofNat po)) (sI 1) (sR b554) N579 (X579.more (by decide) (by decide)) e579 ((((((((((((((Keep.refl h0 []).trans Kc all0).ext E528).trans K530 (allS (P := fun x_ => x_ ∈ ([] : List Addr) ∨ h0.size ≤ x_) (Or.inr (own_ale om581)) all0)).trans K536 all0).ext E554).wr W556 (Or.inr (own_ale om582))).wr W559 (Or.inr (own_ale om582))).wr W561 (Or.inr (own_ale om582))).wr W563 (Or.inr (own_ale om582))).wr W565 (Or.inr (own_ale om582))).ext E567).wr W574 (Or.inr (own_ale om572))).wr W579 (Or.inr (own_ale om572))) hS536 (by have q := hk536; omega) hZ536 hown536 Ec583 Fc585 Fc586 Vc588 V579 f536_5 (naT_lat hlatA) hto (by decide) (own_hes (zs := List.replicate 7 (.int 0)) (by rw [hhs, naT, show digs po = [dch po] from by rw [digs, if_pos (by omega)]]; rfl) hto)
      · rw [hnd]
        show Gl p.tables e below _ (T574.setTop (mkF m 300 #[sI i0, sI i1, sI i2, sI i3, sI i4, sI 0, sI ca, sI cb, sI cc, s9, sR x, sI (Int32.ofNat po), sR r_536, sI 2, sR b554, sR b567, sU] []))
        refine Gl.go (fun _ hr => zXS_iconst X574.here hx rfl (hb hby at_300) (zXS_iload X574.here hx rfl (hb hby at_301) rfl (zXS_icmpNo X574.here hx rfl (hb hby at_303) rfl (XT.ii_ge_f (by decide)) (zXS_aload X574.here hx rfl (hb hby at_306) rfl rfl (zXS_iload X574.here hx rfl (hb hby at_308) rfl (zXS_iconst X574.here hx rfl (hb hby at_310) (zXS_iadd X574.here hx rfl (hb hby at_311) rfl (zXS_bipush X574.here hx rfl (hb hby at_312) (zXS_aload X574.here hx rfl (hb hby at_314) rfl rfl (zXS_iconst X574.here hx rfl (hb hby at_316) hr)))))))))) ?_
        refine Gl.go (fun _ hr => zXS_iload X574.here hx rfl (hb hby at_317) rfl (zXS_isub X574.here hx rfl (hb hby at_319) rfl hr)) ?_
        have om589 : ¬ @Eq Nat b554 b567 := by omega
        have Vc590 := ((V565.ext E567).other W574 (own_ane om589))
        obtain ⟨c591, a591, q591, s591, m591, H591, U591⟩ := id Vc590
        have i591 := inb_of s591 (j := (3 : Int32)) ⟨(by decide), (by decide)⟩
        refine g_iaload Gl.cl X574 hx hZ536 e574 a591 i591 (v := (.int (Int32.ofNat (po / 10 % 10)))) (H591.at i591 rfl) rfl rfl (hb hby at_320) ?_
        refine Gl.go (fun _ hr => zXS_iadd X574.here hx rfl (hb hby at_321) rfl (zXT_i2c X574.here hx rfl (hb hby at_322) rfl hr)) ?_
        show Gl p.tables e below _ (T574.setTop (mkF m 323 #[sI i0, sI i1, sI i2, sI i3, sI i4, sI 0, sI ca, sI cb, sI cc, s9, sR x, sI (Int32.ofNat po), sR r_536, sI 2, sR b554, sR b567, sU] [(.int (((48 : Int32) + (Int32.ofNat (po / 10 % 10))).toUInt32.toUInt16.toUInt32.toInt32)), (.int (1 : Int32)), (.ref b567)]))
        rw [(own_chr (po / 10))]
        show Gl p.tables e below _ (T574.setTop (mkF m 323 #[sI i0, sI i1, sI i2, sI i3, sI i4, sI 0, sI ca, sI cb, sI cc, s9, sR x, sI (Int32.ofNat po), sR r_536, sI 2, sR b554, sR b567, sU] [(.int (dch (po / 10))), (.int (1 : Int32)), (.ref b567)]))
        obtain ⟨c592, a592, q592, s592, m592, H592, U592⟩ := id V574
        refine gstC Gl.cl X574 hx hZ536 e574 a592 (j := (1 : Int32)) (inb_of s592 ⟨(by decide), (by decide)⟩) rfl rfl (hb hby at_323) ?_
        intro T592 h592 X592 e592 W592
        have z593 : h574.size ≤ h592.size := (Keep.of_wr W592).1
        rw [(dch_narc _)] at W592
        have V592 : Arv Z h592 b567 k567 .char (9 : Int32) [(.int (58 : Int32)), (.int (dch (po / 10))), (.int (0 : Int32)), (.int (0 : Int32)), (.int (0 : Int32)), (.int (0 : Int32)), (.int (0 : Int32)), (.int (0 : Int32)), (.int (0 : Int32))] (.int (0 : Int32)) := Arv.set a592 q592 s592 m592 H592 U592 (dch_fitc _) W592 1 rfl (Nat.le_of_ble_eq_true rfl)
        have N592 := Fr.snoc X592 N574 (own_ale om571)
        refine Gl.go (fun _ hr => zXS_iconst X592.here hx rfl (hb hby at_324) (zXS_iload X592.here hx rfl (hb hby at_325) rfl (zXS_icmpNo X592.here hx rfl (hb hby at_327) rfl (XT.ii_ge_f (by decide)) (zXS_aload X592.here hx rfl (hb hby at_330) rfl rfl (zXS_iload X592.here hx rfl (hb hby at_332) rfl (zXS_iconst X592.here hx rfl (hb hby at_334) (zXS_iadd X592.here hx rfl (hb hby at_335) rfl (zXS_bipush X592.here hx rfl (hb hby at_336) (zXS_aload X592.here hx rfl (hb hby at_338) rfl rfl (zXS_bipush X592.here hx rfl (hb hby at_340) hr)))))))))) ?_
        refine Gl.go (fun _ hr => zXS_iload X592.here hx rfl (hb hby at_342) rfl (zXS_isub X592.here hx rfl (hb hby at_344) rfl hr)) ?_
        have Vc594 := (Vc590.other W592 (own_ane om589))
        obtain ⟨c595, a595, q595, s595, m595, H595, U595⟩ := id Vc594
        have i595 := inb_of s595 (j := (4 : Int32)) ⟨(by decide), (by decide)⟩
        refine g_iaload Gl.cl X592 hx hZ536 e592 a595 i595 (v := (.int (Int32.ofNat (po % 10)))) (H595.at i595 rfl) rfl rfl (hb hby at_345) ?_
        refine Gl.go (fun _ hr => zXS_iadd X592.here hx rfl (hb hby at_346) rfl (zXT_i2c X592.here hx rfl (hb hby at_347) rfl hr)) ?_
        show Gl p.tables e below _ (T592.setTop (mkF m 348 #[sI i0, sI i1, sI i2, sI i3, sI i4, sI 0, sI ca, sI cb, sI cc, s9, sR x, sI (Int32.ofNat po), sR r_536, sI 2, sR b554, sR b567, sU] [(.int (((48 : Int32) + (Int32.ofNat (po % 10))).toUInt32.toUInt16.toUInt32.toInt32)), (.int (2 : Int32)), (.ref b567)]))
        rw [(own_chr po)]
        show Gl p.tables e below _ (T592.setTop (mkF m 348 #[sI i0, sI i1, sI i2, sI i3, sI i4, sI 0, sI ca, sI cb, sI cc, s9, sR x, sI (Int32.ofNat po), sR r_536, sI 2, sR b554, sR b567, sU] [(.int (dch po)), (.int (2 : Int32)), (.ref b567)]))
        obtain ⟨c596, a596, q596, s596, m596, H596, U596⟩ := id V592
        refine gstC Gl.cl X592 hx hZ536 e592 a596 (j := (2 : Int32)) (inb_of s596 ⟨(by decide), (by decide)⟩) rfl rfl (hb hby at_348) ?_
        intro T596 h596 X596 e596 W596
        have z597 : h592.size ≤ h596.size := (Keep.of_wr W596).1
        rw [(dch_narc _)] at W596
        have V596 : Arv Z h596 b567 k567 .char (9 : Int32) [(.int (58 : Int32)), (.int (dch (po / 10))), (.int (dch po)), (.int (0 : Int32)), (.int (0 : Int32)), (.int (0 : Int32)), (.int (0 : Int32)), (.int (0 : Int32)), (.int (0 : Int32))] (.int (0 : Int32)) := Arv.set a596 q596 s596 m596 H596 U596 (dch_fitc _) W596 2 rfl (Nat.le_of_ble_eq_true rfl)
        have N596 := Fr.snoc X596 N592 (own_ale om571)
        refine Gl.go (fun _ hr => zXS_iconst X596.here hx rfl (hb hby at_349) (zXS_iload X596.here hx rfl (hb hby at_350) rfl (zXS_icmpYes X596.here hx rfl (pc0 := 352) (pc' := 374) rfl (hb hby at_352) rfl (XT.ii_ge_t (by decide)) (by decide) (by decide) (zXS_iconst X596.here hx rfl (hb hby at_374) (zXS_iload X596.here hx rfl (hb hby at_375) rfl (zXS_icmpYes X596.here hx rfl (pc0 := 377) (pc' := 399) rfl (hb hby at_377) rfl (XT.ii_ge_t (by decide)) (by decide) (by decide) (zXS_iconst X596.here hx rfl (hb hby at_399) (zXS_iload X596.here hx rfl (hb hby at_400) rfl (zXS_icmpYes X596.here hx rfl (pc0 := 402) (pc' := 424) rfl (hb hby at_402) rfl (XT.ii_ge_t (by decide)) (by decide) (by decide) (zXS_iload X596.here hx rfl (hb hby at_424) rfl hr)))))))))) ?_
        refine Gl.go (fun _ hr => zXS_iconst X596.here hx rfl (hb hby at_426) (zXS_iadd X596.here hx rfl (hb hby at_427) rfl (zXS_iload X596.here hx rfl (hb hby at_428) rfl (zXS_iadd X596.here hx rfl (hb hby at_430) rfl (zXS_istore X596.here hx rfl (hb hby at_431) rfl (l' := #[sI i0, sI i1, sI i2, sI i3, sI i4, sI 0, sI ca, sI cb, sI cc, s9, sR x, sI (Int32.ofNat po), sR r_536, sI 2, sR b554, sR b567, sI 3]) rfl hr))))) ?_
        have hto : (naT hs po).length = 3 := by rw [hhs, naT, show digs po = [dch (po / 10), dch po] from by rw [digs, if_neg (by omega), if_pos (by omega)]]; rfl
        have om598 : @LE.le Nat instLENat h0.size b528 := by omega
        have om599 : @LE.le Nat instLENat h0.size b554 := by omega
        have Ec600 := ((((((((((f536_1.ext E554).wr W556).wr W559).wr W561).wr W563).wr W565).ext E567).wr W574).wr W592).wr W596)
        have om601 : ¬ @Eq Nat r_536 b554 := by omega
        have Fc602 := ((((((((((f536_2.ext E554).other W556 (Or.inl (own_ane om601))).other W559 (Or.inl (own_ane om601))).other W561 (Or.inl (own_ane om601))).other W563 (Or.inl (own_ane om601))).other W565 (Or.inl (own_ane om601))).ext E567).other W574 (Or.inl (own_ane om569))).other W592 (Or.inl (own_ane om569))).other W596 (Or.inl (own_ane om569)))
        have Fc603 := ((((((((((f536_3.ext E554).other W556 (Or.inl (own_ane om601))).other W559 (Or.inl (own_ane om601))).other W561 (Or.inl (own_ane om601))).other W563 (Or.inl (own_ane om601))).other W565 (Or.inl (own_ane om601))).ext E567).other W574 (Or.inl (own_ane om569))).other W592 (Or.inl (own_ane om569))).other W596 (Or.inl (own_ane om569)))
        have om604 : ¬ @Eq Nat t2_536 b554 := by omega
        have Vc605 := ((((((((((f536_4.ext E554).other W556 (own_ane om604)).other W559 (own_ane om604)).other W561 (own_ane om604)).other W563 (own_ane om604)).other W565 (own_ane om604)).ext E567).other W574 (own_ane om570)).other W592 (own_ane om570)).other W596 (own_ane om570))
        exact tB T596 h596 _ T536.vm _ r_536 t2_536 kr_536 N2_536 vs2_536 (naT hs po) b567 k567 ([(.int (58 : Int32)), (.int (dch (po / 10))), (.int (dch po)), (.int (0 : Int32)), (.int (0 : Int32)), (.int (0 : Int32)), (.int (0 : Int32)), (.int (0 : Int32)), (.int (0 : Int32))]) 3 (sI 0) (sI ca) (sI cb) (sI cc) s9 (sR x) (sI (Int32.ofNat po)) (sI 2) (sR b554) N596 (X596.more (by decide) (by decide)) e596 (((((((((((((((Keep.refl h0 []).trans Kc all0).ext E528).trans K530 (allS (P := fun x_ => x_ ∈ ([] : List Addr) ∨ h0.size ≤ x_) (Or.inr (own_ale om598)) all0)).trans K536 all0).ext E554).wr W556 (Or.inr (own_ale om599))).wr W559 (Or.inr (own_ale om599))).wr W561 (Or.inr (own_ale om599))).wr W563 (Or.inr (own_ale om599))).wr W565 (Or.inr (own_ale om599))).ext E567).wr W574 (Or.inr (own_ale om572))).wr W592 (Or.inr (own_ale om572))).wr W596 (Or.inr (own_ale om572))) hS536 (by have q := hk536; omega) hZ536 hown536 Ec600 Fc602 Fc603 Vc605 V596 f536_5 (naT_lat hlatA) hto (by decide) (own_hes (zs := List.replicate 6 (.int 0)) (by rw [hhs, naT, show digs po = [dch (po / 10), dch po] from by rw [digs, if_neg (by omega), if_pos (by omega)]]; rfl) hto)
      · rw [hnd]
        show Gl p.tables e below _ (T574.setTop (mkF m 300 #[sI i0, sI i1, sI i2, sI i3, sI i4, sI 0, sI ca, sI cb, sI cc, s9, sR x, sI (Int32.ofNat po), sR r_536, sI 3, sR b554, sR b567, sU] []))
        refine Gl.go (fun _ hr => zXS_iconst X574.here hx rfl (hb hby at_300) (zXS_iload X574.here hx rfl (hb hby at_301) rfl (zXS_icmpNo X574.here hx rfl (hb hby at_303) rfl (XT.ii_ge_f (by decide)) (zXS_aload X574.here hx rfl (hb hby at_306) rfl rfl (zXS_iload X574.here hx rfl (hb hby at_308) rfl (zXS_iconst X574.here hx rfl (hb hby at_310) (zXS_iadd X574.here hx rfl (hb hby at_311) rfl (zXS_bipush X574.here hx rfl (hb hby at_312) (zXS_aload X574.here hx rfl (hb hby at_314) rfl rfl (zXS_iconst X574.here hx rfl (hb hby at_316) hr)))))))))) ?_
        refine Gl.go (fun _ hr => zXS_iload X574.here hx rfl (hb hby at_317) rfl (zXS_isub X574.here hx rfl (hb hby at_319) rfl hr)) ?_
        have om606 : ¬ @Eq Nat b554 b567 := by omega
        have Vc607 := ((V565.ext E567).other W574 (own_ane om606))
        obtain ⟨c608, a608, q608, s608, m608, H608, U608⟩ := id Vc607
        have i608 := inb_of s608 (j := (2 : Int32)) ⟨(by decide), (by decide)⟩
        refine g_iaload Gl.cl X574 hx hZ536 e574 a608 i608 (v := (.int (Int32.ofNat (po / 100 % 10)))) (H608.at i608 rfl) rfl rfl (hb hby at_320) ?_
        refine Gl.go (fun _ hr => zXS_iadd X574.here hx rfl (hb hby at_321) rfl (zXT_i2c X574.here hx rfl (hb hby at_322) rfl hr)) ?_
        show Gl p.tables e below _ (T574.setTop (mkF m 323 #[sI i0, sI i1, sI i2, sI i3, sI i4, sI 0, sI ca, sI cb, sI cc, s9, sR x, sI (Int32.ofNat po), sR r_536, sI 3, sR b554, sR b567, sU] [(.int (((48 : Int32) + (Int32.ofNat (po / 100 % 10))).toUInt32.toUInt16.toUInt32.toInt32)), (.int (1 : Int32)), (.ref b567)]))
        rw [(own_chr (po / 100))]
        show Gl p.tables e below _ (T574.setTop (mkF m 323 #[sI i0, sI i1, sI i2, sI i3, sI i4, sI 0, sI ca, sI cb, sI cc, s9, sR x, sI (Int32.ofNat po), sR r_536, sI 3, sR b554, sR b567, sU] [(.int (dch (po / 100))), (.int (1 : Int32)), (.ref b567)]))
        obtain ⟨c609, a609, q609, s609, m609, H609, U609⟩ := id V574
        refine gstC Gl.cl X574 hx hZ536 e574 a609 (j := (1 : Int32)) (inb_of s609 ⟨(by decide), (by decide)⟩) rfl rfl (hb hby at_323) ?_
        intro T609 h609 X609 e609 W609
        have z610 : h574.size ≤ h609.size := (Keep.of_wr W609).1
        rw [(dch_narc _)] at W609
        have V609 : Arv Z h609 b567 k567 .char (9 : Int32) [(.int (58 : Int32)), (.int (dch (po / 100))), (.int (0 : Int32)), (.int (0 : Int32)), (.int (0 : Int32)), (.int (0 : Int32)), (.int (0 : Int32)), (.int (0 : Int32)), (.int (0 : Int32))] (.int (0 : Int32)) := Arv.set a609 q609 s609 m609 H609 U609 (dch_fitc _) W609 1 rfl (Nat.le_of_ble_eq_true rfl)
        have N609 := Fr.snoc X609 N574 (own_ale om571)
        refine Gl.go (fun _ hr => zXS_iconst X609.here hx rfl (hb hby at_324) (zXS_iload X609.here hx rfl (hb hby at_325) rfl (zXS_icmpNo X609.here hx rfl (hb hby at_327) rfl (XT.ii_ge_f (by decide)) (zXS_aload X609.here hx rfl (hb hby at_330) rfl rfl (zXS_iload X609.here hx rfl (hb hby at_332) rfl (zXS_iconst X609.here hx rfl (hb hby at_334) (zXS_iadd X609.here hx rfl (hb hby at_335) rfl (zXS_bipush X609.here hx rfl (hb hby at_336) (zXS_aload X609.here hx rfl (hb hby at_338) rfl rfl (zXS_bipush X609.here hx rfl (hb hby at_340) hr)))))))))) ?_
        refine Gl.go (fun _ hr => zXS_iload X609.here hx rfl (hb hby at_342) rfl (zXS_isub X609.here hx rfl (hb hby at_344) rfl hr)) ?_
        have Vc611 := (Vc607.other W609 (own_ane om606))
        obtain ⟨c612, a612, q612, s612, m612, H612, U612⟩ := id Vc611
        have i612 := inb_of s612 (j := (3 : Int32)) ⟨(by decide), (by decide)⟩
        refine g_iaload Gl.cl X609 hx hZ536 e609 a612 i612 (v := (.int (Int32.ofNat (po / 10 % 10)))) (H612.at i612 rfl) rfl rfl (hb hby at_345) ?_
        refine Gl.go (fun _ hr => zXS_iadd X609.here hx rfl (hb hby at_346) rfl (zXT_i2c X609.here hx rfl (hb hby at_347) rfl hr)) ?_
        show Gl p.tables e below _ (T609.setTop (mkF m 348 #[sI i0, sI i1, sI i2, sI i3, sI i4, sI 0, sI ca, sI cb, sI cc, s9, sR x, sI (Int32.ofNat po), sR r_536, sI 3, sR b554, sR b567, sU] [(.int (((48 : Int32) + (Int32.ofNat (po / 10 % 10))).toUInt32.toUInt16.toUInt32.toInt32)), (.int (2 : Int32)), (.ref b567)]))
        rw [(own_chr (po / 10))]
        show Gl p.tables e below _ (T609.setTop (mkF m 348 #[sI i0, sI i1, sI i2, sI i3, sI i4, sI 0, sI ca, sI cb, sI cc, s9, sR x, sI (Int32.ofNat po), sR r_536, sI 3, sR b554, sR b567, sU] [(.int (dch (po / 10))), (.int (2 : Int32)), (.ref b567)]))
        obtain ⟨c613, a613, q613, s613, m613, H613, U613⟩ := id V609
        refine gstC Gl.cl X609 hx hZ536 e609 a613 (j := (2 : Int32)) (inb_of s613 ⟨(by decide), (by decide)⟩) rfl rfl (hb hby at_348) ?_
        intro T613 h613 X613 e613 W613
        have z614 : h609.size ≤ h613.size := (Keep.of_wr W613).1
        rw [(dch_narc _)] at W613
        have V613 : Arv Z h613 b567 k567 .char (9 : Int32) [(.int (58 : Int32)), (.int (dch (po / 100))), (.int (dch (po / 10))), (.int (0 : Int32)), (.int (0 : Int32)), (.int (0 : Int32)), (.int (0 : Int32)), (.int (0 : Int32)), (.int (0 : Int32))] (.int (0 : Int32)) := Arv.set a613 q613 s613 m613 H613 U613 (dch_fitc _) W613 2 rfl (Nat.le_of_ble_eq_true rfl)
        have N613 := Fr.snoc X613 N609 (own_ale om571)
        refine Gl.go (fun _ hr => zXS_iconst X613.here hx rfl (hb hby at_349) (zXS_iload X613.here hx rfl (hb hby at_350) rfl (zXS_icmpNo X613.here hx rfl (hb hby at_352) rfl (XT.ii_ge_f (by decide)) (zXS_aload X613.here hx rfl (hb hby at_355) rfl rfl (zXS_iload X613.here hx rfl (hb hby at_357) rfl (zXS_iconst X613.here hx rfl (hb hby at_359) (zXS_iadd X613.here hx rfl (hb hby at_360) rfl (zXS_bipush X613.here hx rfl (hb hby at_361) (zXS_aload X613.here hx rfl (hb hby at_363) rfl rfl (zXS_bipush X613.here hx rfl (hb hby at_365) hr)))))))))) ?_
        refine Gl.go (fun _ hr => zXS_iload X613.here hx rfl (hb hby at_367) rfl (zXS_isub X613.here hx rfl (hb hby at_369) rfl hr)) ?_
        have Vc615 := (Vc611.other W613 (own_ane om606))
        obtain ⟨c616, a616, q616, s616, m616, H616, U616⟩ := id Vc615
        have i616 := inb_of s616 (j := (4 : Int32)) ⟨(by decide), (by decide)⟩
        refine g_iaload Gl.cl X613 hx hZ536 e613 a616 i616 (v := (.int (Int32.ofNat (po % 10)))) (H616.at i616 rfl) rfl rfl (hb hby at_370) ?_
        refine Gl.go (fun _ hr => zXS_iadd X613.here hx rfl (hb hby at_371) rfl (zXT_i2c X613.here hx rfl (hb hby at_372) rfl hr)) ?_
        show Gl p.tables e below _ (T613.setTop (mkF m 373 #[sI i0, sI i1, sI i2, sI i3, sI i4, sI 0, sI ca, sI cb, sI cc, s9, sR x, sI (Int32.ofNat po), sR r_536, sI 3, sR b554, sR b567, sU] [(.int (((48 : Int32) + (Int32.ofNat (po % 10))).toUInt32.toUInt16.toUInt32.toInt32)), (.int (3 : Int32)), (.ref b567)]))
        rw [(own_chr po)]
        show Gl p.tables e below _ (T613.setTop (mkF m 373 #[sI i0, sI i1, sI i2, sI i3, sI i4, sI 0, sI ca, sI cb, sI cc, s9, sR x, sI (Int32.ofNat po), sR r_536, sI 3, sR b554, sR b567, sU] [(.int (dch po)), (.int (3 : Int32)), (.ref b567)]))
        obtain ⟨c617, a617, q617, s617, m617, H617, U617⟩ := id V613
        refine gstC Gl.cl X613 hx hZ536 e613 a617 (j := (3 : Int32)) (inb_of s617 ⟨(by decide), (by decide)⟩) rfl rfl (hb hby at_373) ?_
        intro T617 h617 X617 e617 W617
        have z618 : h613.size ≤ h617.size := (Keep.of_wr W617).1
        rw [(dch_narc _)] at W617
        have V617 : Arv Z h617 b567 k567 .char (9 : Int32) [(.int (58 : Int32)), (.int (dch (po / 100))), (.int (dch (po / 10))), (.int (dch po)), (.int (0 : Int32)), (.int (0 : Int32)), (.int (0 : Int32)), (.int (0 : Int32)), (.int (0 : Int32))] (.int (0 : Int32)) := Arv.set a617 q617 s617 m617 H617 U617 (dch_fitc _) W617 3 rfl (Nat.le_of_ble_eq_true rfl)
        have N617 := Fr.snoc X617 N613 (own_ale om571)
        refine Gl.go (fun _ hr => zXS_iconst X617.here hx rfl (hb hby at_374) (zXS_iload X617.here hx rfl (hb hby at_375) rfl (zXS_icmpYes X617.here hx rfl (pc0 := 377) (pc' := 399) rfl (hb hby at_377) rfl (XT.ii_ge_t (by decide)) (by decide) (by decide) (zXS_iconst X617.here hx rfl (hb hby at_399) (zXS_iload X617.here hx rfl (hb hby at_400) rfl (zXS_icmpYes X617.here hx rfl (pc0 := 402) (pc' := 424) rfl (hb hby at_402) rfl (XT.ii_ge_t (by decide)) (by decide) (by decide) (zXS_iload X617.here hx rfl (hb hby at_424) rfl (zXS_iconst X617.here hx rfl (hb hby at_426) (zXS_iadd X617.here hx rfl (hb hby at_427) rfl (zXS_iload X617.here hx rfl (hb hby at_428) rfl hr)))))))))) ?_
        refine Gl.go (fun _ hr => zXS_iadd X617.here hx rfl (hb hby at_430) rfl (zXS_istore X617.here hx rfl (hb hby at_431) rfl (l' := #[sI i0, sI i1, sI i2, sI i3, sI i4, sI 0, sI ca, sI cb, sI cc, s9, sR x, sI (Int32.ofNat po), sR r_536, sI 3, sR b554, sR b567, sI 4]) rfl hr)) ?_
        have hto : (naT hs po).length = 4 := by rw [hhs, naT, show digs po = [dch (po / 100), dch (po / 10), dch po] from by rw [digs, if_neg (by omega), if_neg (by omega), if_pos (by omega)]]; rfl
        have om619 : @LE.le Nat instLENat h0.size b528 := by omega
        have om620 : @LE.le Nat instLENat h0.size b554 := by omega
        have Ec621 := (((((((((((f536_1.ext E554).wr W556).wr W559).wr W561).wr W563).wr W565).ext E567).wr W574).wr W609).wr W613).wr W617)
        have om622 : ¬ @Eq Nat r_536 b554 := by omega
        have Fc623 := (((((((((((f536_2.ext E554).other W556 (Or.inl (own_ane om622))).other W559 (Or.inl (own_ane om622))).other W561 (Or.inl (own_ane om622))).other W563 (Or.inl (own_ane om622))).other W565 (Or.inl (own_ane om622))).ext E567).other W574 (Or.inl (own_ane om569))).other W609 (Or.inl (own_ane om569))).other W613 (Or.inl (own_ane om569))).other W617 (Or.inl (own_ane om569)))
        have Fc624 := (((((((((((f536_3.ext E554).other W556 (Or.inl (own_ane om622))).other W559 (Or.inl (own_ane om622))).other W561 (Or.inl (own_ane om622))).other W563 (Or.inl (own_ane om622))).other W565 (Or.inl (own_ane om622))).ext E567).other W574 (Or.inl (own_ane om569))).other W609 (Or.inl (own_ane om569))).other W613 (Or.inl (own_ane om569))).other W617 (Or.inl (own_ane om569)))
        have om625 : ¬ @Eq Nat t2_536 b554 := by omega
        have Vc626 := (((((((((((f536_4.ext E554).other W556 (own_ane om625)).other W559 (own_ane om625)).other W561 (own_ane om625)).other W563 (own_ane om625)).other W565 (own_ane om625)).ext E567).other W574 (own_ane om570)).other W609 (own_ane om570)).other W613 (own_ane om570)).other W617 (own_ane om570))
        exact tB T617 h617 _ T536.vm _ r_536 t2_536 kr_536 N2_536 vs2_536 (naT hs po) b567 k567 ([(.int (58 : Int32)), (.int (dch (po / 100))), (.int (dch (po / 10))), (.int (dch po)), (.int (0 : Int32)), (.int (0 : Int32)), (.int (0 : Int32)), (.int (0 : Int32)), (.int (0 : Int32))]) 4 (sI 0) (sI ca) (sI cb) (sI cc) s9 (sR x) (sI (Int32.ofNat po)) (sI 3) (sR b554) N617 (X617.more (by decide) (by decide)) e617 ((((((((((((((((Keep.refl h0 []).trans Kc all0).ext E528).trans K530 (allS (P := fun x_ => x_ ∈ ([] : List Addr) ∨ h0.size ≤ x_) (Or.inr (own_ale om619)) all0)).trans K536 all0).ext E554).wr W556 (Or.inr (own_ale om620))).wr W559 (Or.inr (own_ale om620))).wr W561 (Or.inr (own_ale om620))).wr W563 (Or.inr (own_ale om620))).wr W565 (Or.inr (own_ale om620))).ext E567).wr W574 (Or.inr (own_ale om572))).wr W609 (Or.inr (own_ale om572))).wr W613 (Or.inr (own_ale om572))).wr W617 (Or.inr (own_ale om572))) hS536 (by have q := hk536; omega) hZ536 hown536 Ec621 Fc623 Fc624 Vc626 V617 f536_5 (naT_lat hlatA) hto (by decide) (own_hes (zs := List.replicate 5 (.int 0)) (by rw [hhs, naT, show digs po = [dch (po / 100), dch (po / 10), dch po] from by rw [digs, if_neg (by omega), if_neg (by omega), if_pos (by omega)]]; rfl) hto)
      · rw [hnd]
        show Gl p.tables e below _ (T574.setTop (mkF m 300 #[sI i0, sI i1, sI i2, sI i3, sI i4, sI 0, sI ca, sI cb, sI cc, s9, sR x, sI (Int32.ofNat po), sR r_536, sI 4, sR b554, sR b567, sU] []))
        refine Gl.go (fun _ hr => zXS_iconst X574.here hx rfl (hb hby at_300) (zXS_iload X574.here hx rfl (hb hby at_301) rfl (zXS_icmpNo X574.here hx rfl (hb hby at_303) rfl (XT.ii_ge_f (by decide)) (zXS_aload X574.here hx rfl (hb hby at_306) rfl rfl (zXS_iload X574.here hx rfl (hb hby at_308) rfl (zXS_iconst X574.here hx rfl (hb hby at_310) (zXS_iadd X574.here hx rfl (hb hby at_311) rfl (zXS_bipush X574.here hx rfl (hb hby at_312) (zXS_aload X574.here hx rfl (hb hby at_314) rfl rfl (zXS_iconst X574.here hx rfl (hb hby at_316) hr)))))))))) ?_
        refine Gl.go (fun _ hr => zXS_iload X574.here hx rfl (hb hby at_317) rfl (zXS_isub X574.here hx rfl (hb hby at_319) rfl hr)) ?_
        have om627 : ¬ @Eq Nat b554 b567 := by omega
        have Vc628 := ((V565.ext E567).other W574 (own_ane om627))
        obtain ⟨c629, a629, q629, s629, m629, H629, U629⟩ := id Vc628
        have i629 := inb_of s629 (j := (1 : Int32)) ⟨(by decide), (by decide)⟩
        refine g_iaload Gl.cl X574 hx hZ536 e574 a629 i629 (v := (.int (Int32.ofNat (po / 1000 % 10)))) (H629.at i629 rfl) rfl rfl (hb hby at_320) ?_
        refine Gl.go (fun _ hr => zXS_iadd X574.here hx rfl (hb hby at_321) rfl (zXT_i2c X574.here hx rfl (hb hby at_322) rfl hr)) ?_
        show Gl p.tables e below _ (T574.setTop (mkF m 323 #[sI i0, sI i1, sI i2, sI i3, sI i4, sI 0, sI ca, sI cb, sI cc, s9, sR x, sI (Int32.ofNat po), sR r_536, sI 4, sR b554, sR b567, sU] [(.int (((48 : Int32) + (Int32.ofNat (po / 1000 % 10))).toUInt32.toUInt16.toUInt32.toInt32)), (.int (1 : Int32)), (.ref b567)]))
        rw [(own_chr (po / 1000))]
        show Gl p.tables e below _ (T574.setTop (mkF m 323 #[sI i0, sI i1, sI i2, sI i3, sI i4, sI 0, sI ca, sI cb, sI cc, s9, sR x, sI (Int32.ofNat po), sR r_536, sI 4, sR b554, sR b567, sU] [(.int (dch (po / 1000))), (.int (1 : Int32)), (.ref b567)]))
        obtain ⟨c630, a630, q630, s630, m630, H630, U630⟩ := id V574
        refine gstC Gl.cl X574 hx hZ536 e574 a630 (j := (1 : Int32)) (inb_of s630 ⟨(by decide), (by decide)⟩) rfl rfl (hb hby at_323) ?_
        intro T630 h630 X630 e630 W630
        have z631 : h574.size ≤ h630.size := (Keep.of_wr W630).1
        rw [(dch_narc _)] at W630
        have V630 : Arv Z h630 b567 k567 .char (9 : Int32) [(.int (58 : Int32)), (.int (dch (po / 1000))), (.int (0 : Int32)), (.int (0 : Int32)), (.int (0 : Int32)), (.int (0 : Int32)), (.int (0 : Int32)), (.int (0 : Int32)), (.int (0 : Int32))] (.int (0 : Int32)) := Arv.set a630 q630 s630 m630 H630 U630 (dch_fitc _) W630 1 rfl (Nat.le_of_ble_eq_true rfl)
        have N630 := Fr.snoc X630 N574 (own_ale om571)
        refine Gl.go (fun _ hr => zXS_iconst X630.here hx rfl (hb hby at_324) (zXS_iload X630.here hx rfl (hb hby at_325) rfl (zXS_icmpNo X630.here hx rfl (hb hby at_327) rfl (XT.ii_ge_f (by decide)) (zXS_aload X630.here hx rfl (hb hby at_330) rfl rfl (zXS_iload X630.here hx rfl (hb hby at_332) rfl (zXS_iconst X630.here hx rfl (hb hby at_334) (zXS_iadd X630.here hx rfl (hb hby at_335) rfl (zXS_bipush X630.here hx rfl (hb hby at_336) (zXS_aload X630.here hx rfl (hb hby at_338) rfl rfl (zXS_bipush X630.here hx rfl (hb hby at_340) hr)))))))))) ?_
        refine Gl.go (fun _ hr => zXS_iload X630.here hx rfl (hb hby at_342) rfl (zXS_isub X630.here hx rfl (hb hby at_344) rfl hr)) ?_
        have Vc632 := (Vc628.other W630 (own_ane om627))
        obtain ⟨c633, a633, q633, s633, m633, H633, U633⟩ := id Vc632
        have i633 := inb_of s633 (j := (2 : Int32)) ⟨(by decide), (by decide)⟩
        refine g_iaload Gl.cl X630 hx hZ536 e630 a633 i633 (v := (.int (Int32.ofNat (po / 100 % 10)))) (H633.at i633 rfl) rfl rfl (hb hby at_345) ?_
        refine Gl.go (fun _ hr => zXS_iadd X630.here hx rfl (hb hby at_346) rfl (zXT_i2c X630.here hx rfl (hb hby at_347) rfl hr)) ?_
        show Gl p.tables e below _ (T630.setTop (mkF m 348 #[sI i0, sI i1, sI i2, sI i3, sI i4, sI 0, sI ca, sI cb, sI cc, s9, sR x, sI (Int32.ofNat po), sR r_536, sI 4, sR b554, sR b567, sU] [(.int (((48 : Int32) + (Int32.ofNat (po / 100 % 10))).toUInt32.toUInt16.toUInt32.toInt32)), (.int (2 : Int32)), (.ref b567)]))
        rw [(own_chr (po / 100))]
        show Gl p.tables e below _ (T630.setTop (mkF m 348 #[sI i0, sI i1, sI i2, sI i3, sI i4, sI 0, sI ca, sI cb, sI cc, s9, sR x, sI (Int32.ofNat po), sR r_536, sI 4, sR b554, sR b567, sU] [(.int (dch (po / 100))), (.int (2 : Int32)), (.ref b567)]))
        obtain ⟨c634, a634, q634, s634, m634, H634, U634⟩ := id V630
        refine gstC Gl.cl X630 hx hZ536 e630 a634 (j := (2 : Int32)) (inb_of s634 ⟨(by decide), (by decide)⟩) rfl rfl (hb hby at_348) ?_
        intro T634 h634 X634 e634 W634
        have z635 : h630.size ≤ h634.size := (Keep.of_wr W634).1
        rw [(dch_narc _)] at W634
        have V634 : Arv Z h634 b567 k567 .char (9 : Int32) [(.int (58 : Int32)), (.int (dch (po / 1000))), (.int (dch (po / 100))), (.int (0 : Int32)), (.int (0 : Int32)), (.int (0 : Int32)), (.int (0 : Int32)), (.int (0 : Int32)), (.int (0 : Int32))] (.int (0 : Int32)) := Arv.set a634 q634 s634 m634 H634 U634 (dch_fitc _) W634 2 rfl (Nat.le_of_ble_eq_true rfl)
        have N634 := Fr.snoc X634 N630 (own_ale om571)
        refine Gl.go (fun _ hr => zXS_iconst X634.here hx rfl (hb hby at_349) (zXS_iload X634.here hx rfl (hb hby at_350) rfl (zXS_icmpNo X634.here hx rfl (hb hby at_352) rfl (XT.ii_ge_f (by decide)) (zXS_aload X634.here hx rfl (hb hby at_355) rfl rfl (zXS_iload X634.here hx rfl (hb hby at_357) rfl (zXS_iconst X634.here hx rfl (hb hby at_359) (zXS_iadd X634.here hx rfl (hb hby at_360) rfl (zXS_bipush X634.here hx rfl (hb hby at_361) (zXS_aload X634.here hx rfl (hb hby at_363) rfl rfl (zXS_bipush X634.here hx rfl (hb hby at_365) hr)))))))))) ?_
        refine Gl.go (fun _ hr => zXS_iload X634.here hx rfl (hb hby at_367) rfl (zXS_isub X634.here hx rfl (hb hby at_369) rfl hr)) ?_
        have Vc636 := (Vc632.other W634 (own_ane om627))
        obtain ⟨c637, a637, q637, s637, m637, H637, U637⟩ := id Vc636
        have i637 := inb_of s637 (j := (3 : Int32)) ⟨(by decide), (by decide)⟩
        refine g_iaload Gl.cl X634 hx hZ536 e634 a637 i637 (v := (.int (Int32.ofNat (po / 10 % 10)))) (H637.at i637 rfl) rfl rfl (hb hby at_370) ?_
        refine Gl.go (fun _ hr => zXS_iadd X634.here hx rfl (hb hby at_371) rfl (zXT_i2c X634.here hx rfl (hb hby at_372) rfl hr)) ?_
        show Gl p.tables e below _ (T634.setTop (mkF m 373 #[sI i0, sI i1, sI i2, sI i3, sI i4, sI 0, sI ca, sI cb, sI cc, s9, sR x, sI (Int32.ofNat po), sR r_536, sI 4, sR b554, sR b567, sU] [(.int (((48 : Int32) + (Int32.ofNat (po / 10 % 10))).toUInt32.toUInt16.toUInt32.toInt32)), (.int (3 : Int32)), (.ref b567)]))
        rw [(own_chr (po / 10))]
        show Gl p.tables e below _ (T634.setTop (mkF m 373 #[sI i0, sI i1, sI i2, sI i3, sI i4, sI 0, sI ca, sI cb, sI cc, s9, sR x, sI (Int32.ofNat po), sR r_536, sI 4, sR b554, sR b567, sU] [(.int (dch (po / 10))), (.int (3 : Int32)), (.ref b567)]))
        obtain ⟨c638, a638, q638, s638, m638, H638, U638⟩ := id V634
        refine gstC Gl.cl X634 hx hZ536 e634 a638 (j := (3 : Int32)) (inb_of s638 ⟨(by decide), (by decide)⟩) rfl rfl (hb hby at_373) ?_
        intro T638 h638 X638 e638 W638
        have z639 : h634.size ≤ h638.size := (Keep.of_wr W638).1
        rw [(dch_narc _)] at W638
        have V638 : Arv Z h638 b567 k567 .char (9 : Int32) [(.int (58 : Int32)), (.int (dch (po / 1000))), (.int (dch (po / 100))), (.int (dch (po / 10))), (.int (0 : Int32)), (.int (0 : Int32)), (.int (0 : Int32)), (.int (0 : Int32)), (.int (0 : Int32))] (.int (0 : Int32)) := Arv.set a638 q638 s638 m638 H638 U638 (dch_fitc _) W638 3 rfl (Nat.le_of_ble_eq_true rfl)
        have N638 := Fr.snoc X638 N634 (own_ale om571)
        refine Gl.go (fun _ hr => zXS_iconst X638.here hx rfl (hb hby at_374) (zXS_iload X638.here hx rfl (hb hby at_375) rfl (zXS_icmpNo X638.here hx rfl (hb hby at_377) rfl (XT.ii_ge_f (by decide)) (zXS_aload X638.here hx rfl (hb hby at_380) rfl rfl (zXS_iload X638.here hx rfl (hb hby at_382) rfl (zXS_iconst X638.here hx rfl (hb hby at_384) (zXS_iadd X638.here hx rfl (hb hby at_385) rfl (zXS_bipush X638.here hx rfl (hb hby at_386) (zXS_aload X638.here hx rfl (hb hby at_388) rfl rfl (zXS_bipush X638.here hx rfl (hb hby at_390) hr)))))))))) ?_
        refine Gl.go (fun _ hr => zXS_iload X638.here hx rfl (hb hby at_392) rfl (zXS_isub X638.here hx rfl (hb hby at_394) rfl hr)) ?_
        have Vc640 := (Vc636.other W638 (own_ane om627))
        obtain ⟨c641, a641, q641, s641, m641, H641, U641⟩ := id Vc640
        have i641 := inb_of s641 (j := (4 : Int32)) ⟨(by decide), (by decide)⟩
        refine g_iaload Gl.cl X638 hx hZ536 e638 a641 i641 (v := (.int (Int32.ofNat (po % 10)))) (H641.at i641 rfl) rfl rfl (hb hby at_395) ?_
        refine Gl.go (fun _ hr => zXS_iadd X638.here hx rfl (hb hby at_396) rfl (zXT_i2c X638.here hx rfl (hb hby at_397) rfl hr)) ?_
        show Gl p.tables e below _ (T638.setTop (mkF m 398 #[sI i0, sI i1, sI i2, sI i3, sI i4, sI 0, sI ca, sI cb, sI cc, s9, sR x, sI (Int32.ofNat po), sR r_536, sI 4, sR b554, sR b567, sU] [(.int (((48 : Int32) + (Int32.ofNat (po % 10))).toUInt32.toUInt16.toUInt32.toInt32)), (.int (4 : Int32)), (.ref b567)]))
        rw [(own_chr po)]
        show Gl p.tables e below _ (T638.setTop (mkF m 398 #[sI i0, sI i1, sI i2, sI i3, sI i4, sI 0, sI ca, sI cb, sI cc, s9, sR x, sI (Int32.ofNat po), sR r_536, sI 4, sR b554, sR b567, sU] [(.int (dch po)), (.int (4 : Int32)), (.ref b567)]))
        obtain ⟨c642, a642, q642, s642, m642, H642, U642⟩ := id V638
        refine gstC Gl.cl X638 hx hZ536 e638 a642 (j := (4 : Int32)) (inb_of s642 ⟨(by decide), (by decide)⟩) rfl rfl (hb hby at_398) ?_
        intro T642 h642 X642 e642 W642
        have z643 : h638.size ≤ h642.size := (Keep.of_wr W642).1
        rw [(dch_narc _)] at W642
        have V642 : Arv Z h642 b567 k567 .char (9 : Int32) [(.int (58 : Int32)), (.int (dch (po / 1000))), (.int (dch (po / 100))), (.int (dch (po / 10))), (.int (dch po)), (.int (0 : Int32)), (.int (0 : Int32)), (.int (0 : Int32)), (.int (0 : Int32))] (.int (0 : Int32)) := Arv.set a642 q642 s642 m642 H642 U642 (dch_fitc _) W642 4 rfl (Nat.le_of_ble_eq_true rfl)
        have N642 := Fr.snoc X642 N638 (own_ale om571)
        refine Gl.go (fun _ hr => zXS_iconst X642.here hx rfl (hb hby at_399) (zXS_iload X642.here hx rfl (hb hby at_400) rfl (zXS_icmpYes X642.here hx rfl (pc0 := 402) (pc' := 424) rfl (hb hby at_402) rfl (XT.ii_ge_t (by decide)) (by decide) (by decide) (zXS_iload X642.here hx rfl (hb hby at_424) rfl (zXS_iconst X642.here hx rfl (hb hby at_426) (zXS_iadd X642.here hx rfl (hb hby at_427) rfl (zXS_iload X642.here hx rfl (hb hby at_428) rfl (zXS_iadd X642.here hx rfl (hb hby at_430) rfl (zXS_istore X642.here hx rfl (hb hby at_431) rfl (l' := #[sI i0, sI i1, sI i2, sI i3, sI i4, sI 0, sI ca, sI cb, sI cc, s9, sR x, sI (Int32.ofNat po), sR r_536, sI 4, sR b554, sR b567, sI 5]) rfl hr))))))))) ?_
        have hto : (naT hs po).length = 5 := by rw [hhs, naT, show digs po = [dch (po / 1000), dch (po / 100), dch (po / 10), dch po] from by rw [digs, if_neg (by omega), if_neg (by omega), if_neg (by omega), if_pos (by omega)]]; rfl
        have om644 : @LE.le Nat instLENat h0.size b528 := by omega
        have om645 : @LE.le Nat instLENat h0.size b554 := by omega
        have Ec646 := ((((((((((((f536_1.ext E554).wr W556).wr W559).wr W561).wr W563).wr W565).ext E567).wr W574).wr W630).wr W634).wr W638).wr W642)
        have om647 : ¬ @Eq Nat r_536 b554 := by omega
        have Fc648 := ((((((((((((f536_2.ext E554).other W556 (Or.inl (own_ane om647))).other W559 (Or.inl (own_ane om647))).other W561 (Or.inl (own_ane om647))).other W563 (Or.inl (own_ane om647))).other W565 (Or.inl (own_ane om647))).ext E567).other W574 (Or.inl (own_ane om569))).other W630 (Or.inl (own_ane om569))).other W634 (Or.inl (own_ane om569))).other W638 (Or.inl (own_ane om569))).other W642 (Or.inl (own_ane om569)))
        have Fc649 := ((((((((((((f536_3.ext E554).other W556 (Or.inl (own_ane om647))).other W559 (Or.inl (own_ane om647))).other W561 (Or.inl (own_ane om647))).other W563 (Or.inl (own_ane om647))).other W565 (Or.inl (own_ane om647))).ext E567).other W574 (Or.inl (own_ane om569))).other W630 (Or.inl (own_ane om569))).other W634 (Or.inl (own_ane om569))).other W638 (Or.inl (own_ane om569))).other W642 (Or.inl (own_ane om569)))
        have om650 : ¬ @Eq Nat t2_536 b554 := by omega
        have Vc651 := ((((((((((((f536_4.ext E554).other W556 (own_ane om650)).other W559 (own_ane om650)).other W561 (own_ane om650)).other W563 (own_ane om650)).other W565 (own_ane om650)).ext E567).other W574 (own_ane om570)).other W630 (own_ane om570)).other W634 (own_ane om570)).other W638 (own_ane om570)).other W642 (own_ane om570))
        exact tB T642 h642 _ T536.vm _ r_536 t2_536 kr_536 N2_536 vs2_536 (naT hs po) b567 k567 ([(.int (58 : Int32)), (.int (dch (po / 1000))), (.int (dch (po / 100))), (.int (dch (po / 10))), (.int (dch po)), (.int (0 : Int32)), (.int (0 : Int32)), (.int (0 : Int32)), (.int (0 : Int32))]) 5 (sI 0) (sI ca) (sI cb) (sI cc) s9 (sR x) (sI (Int32.ofNat po)) (sI 4) (sR b554) N642 (X642.more (by decide) (by decide)) e642 (((((((((((((((((Keep.refl h0 []).trans Kc all0).ext E528).trans K530 (allS (P := fun x_ => x_ ∈ ([] : List Addr) ∨ h0.size ≤ x_) (Or.inr (own_ale om644)) all0)).trans K536 all0).ext E554).wr W556 (Or.inr (own_ale om645))).wr W559 (Or.inr (own_ale om645))).wr W561 (Or.inr (own_ale om645))).wr W563 (Or.inr (own_ale om645))).wr W565 (Or.inr (own_ale om645))).ext E567).wr W574 (Or.inr (own_ale om572))).wr W630 (Or.inr (own_ale om572))).wr W634 (Or.inr (own_ale om572))).wr W638 (Or.inr (own_ale om572))).wr W642 (Or.inr (own_ale om572))) hS536 (by have q := hk536; omega) hZ536 hown536 Ec646 Fc648 Fc649 Vc651 V642 f536_5 (naT_lat hlatA) hto (by decide) (own_hes (zs := List.replicate 4 (.int 0)) (by rw [hhs, naT, show digs po = [dch (po / 1000), dch (po / 100), dch (po / 10), dch po] from by rw [digs, if_neg (by omega), if_neg (by omega), if_neg (by omega), if_pos (by omega)]]; rfl) hto)
      · rw [hnd]
        show Gl p.tables e below _ (T574.setTop (mkF m 300 #[sI i0, sI i1, sI i2, sI i3, sI i4, sI 0, sI ca, sI cb, sI cc, s9, sR x, sI (Int32.ofNat po), sR r_536, sI 5, sR b554, sR b567, sU] []))
        refine Gl.go (fun _ hr => zXS_iconst X574.here hx rfl (hb hby at_300) (zXS_iload X574.here hx rfl (hb hby at_301) rfl (zXS_icmpNo X574.here hx rfl (hb hby at_303) rfl (XT.ii_ge_f (by decide)) (zXS_aload X574.here hx rfl (hb hby at_306) rfl rfl (zXS_iload X574.here hx rfl (hb hby at_308) rfl (zXS_iconst X574.here hx rfl (hb hby at_310) (zXS_iadd X574.here hx rfl (hb hby at_311) rfl (zXS_bipush X574.here hx rfl (hb hby at_312) (zXS_aload X574.here hx rfl (hb hby at_314) rfl rfl (zXS_iconst X574.here hx rfl (hb hby at_316) hr)))))))))) ?_
        refine Gl.go (fun _ hr => zXS_iload X574.here hx rfl (hb hby at_317) rfl (zXS_isub X574.here hx rfl (hb hby at_319) rfl hr)) ?_
        have om652 : ¬ @Eq Nat b554 b567 := by omega
        have Vc653 := ((V565.ext E567).other W574 (own_ane om652))
        obtain ⟨c654, a654, q654, s654, m654, H654, U654⟩ := id Vc653
        have i654 := inb_of s654 (j := (0 : Int32)) ⟨(by decide), (by decide)⟩
        refine g_iaload Gl.cl X574 hx hZ536 e574 a654 i654 (v := (.int (Int32.ofNat (po / 10000 % 10)))) (H654.at i654 rfl) rfl rfl (hb hby at_320) ?_
        refine Gl.go (fun _ hr => zXS_iadd X574.here hx rfl (hb hby at_321) rfl (zXT_i2c X574.here hx rfl (hb hby at_322) rfl hr)) ?_
        show Gl p.tables e below _ (T574.setTop (mkF m 323 #[sI i0, sI i1, sI i2, sI i3, sI i4, sI 0, sI ca, sI cb, sI cc, s9, sR x, sI (Int32.ofNat po), sR r_536, sI 5, sR b554, sR b567, sU] [(.int (((48 : Int32) + (Int32.ofNat (po / 10000 % 10))).toUInt32.toUInt16.toUInt32.toInt32)), (.int (1 : Int32)), (.ref b567)]))
        rw [(own_chr (po / 10000))]
        show Gl p.tables e below _ (T574.setTop (mkF m 323 #[sI i0, sI i1, sI i2, sI i3, sI i4, sI 0, sI ca, sI cb, sI cc, s9, sR x, sI (Int32.ofNat po), sR r_536, sI 5, sR b554, sR b567, sU] [(.int (dch (po / 10000))), (.int (1 : Int32)), (.ref b567)]))
        obtain ⟨c655, a655, q655, s655, m655, H655, U655⟩ := id V574
        refine gstC Gl.cl X574 hx hZ536 e574 a655 (j := (1 : Int32)) (inb_of s655 ⟨(by decide), (by decide)⟩) rfl rfl (hb hby at_323) ?_
        intro T655 h655 X655 e655 W655
        have z656 : h574.size ≤ h655.size := (Keep.of_wr W655).1
        rw [(dch_narc _)] at W655
        have V655 : Arv Z h655 b567 k567 .char (9 : Int32) [(.int (58 : Int32)), (.int (dch (po / 10000))), (.int (0 : Int32)), (.int (0 : Int32)), (.int (0 : Int32)), (.int (0 : Int32)), (.int (0 : Int32)), (.int (0 : Int32)), (.int (0 : Int32))] (.int (0 : Int32)) := Arv.set a655 q655 s655 m655 H655 U655 (dch_fitc _) W655 1 rfl (Nat.le_of_ble_eq_true rfl)
        have N655 := Fr.snoc X655 N574 (own_ale om571)
        refine Gl.go (fun _ hr => zXS_iconst X655.here hx rfl (hb hby at_324) (zXS_iload X655.here hx rfl (hb hby at_325) rfl (zXS_icmpNo X655.here hx rfl (hb hby at_327) rfl (XT.ii_ge_f (by decide)) (zXS_aload X655.here hx rfl (hb hby at_330) rfl rfl (zXS_iload X655.here hx rfl (hb hby at_332) rfl (zXS_iconst X655.here hx rfl (hb hby at_334) (zXS_iadd X655.here hx rfl (hb hby at_335) rfl (zXS_bipush X655.here hx rfl (hb hby at_336) (zXS_aload X655.here hx rfl (hb hby at_338) rfl rfl (zXS_bipush X655.here hx rfl (hb hby at_340) hr)))))))))) ?_
        refine Gl.go (fun _ hr => zXS_iload X655.here hx rfl (hb hby at_342) rfl (zXS_isub X655.here hx rfl (hb hby at_344) rfl hr)) ?_
        have Vc657 := (Vc653.other W655 (own_ane om652))
        obtain ⟨c658, a658, q658, s658, m658, H658, U658⟩ := id Vc657
        have i658 := inb_of s658 (j := (1 : Int32)) ⟨(by decide), (by decide)⟩
        refine g_iaload Gl.cl X655 hx hZ536 e655 a658 i658 (v := (.int (Int32.ofNat (po / 1000 % 10)))) (H658.at i658 rfl) rfl rfl (hb hby at_345) ?_
        refine Gl.go (fun _ hr => zXS_iadd X655.here hx rfl (hb hby at_346) rfl (zXT_i2c X655.here hx rfl (hb hby at_347) rfl hr)) ?_
        show Gl p.tables e below _ (T655.setTop (mkF m 348 #[sI i0, sI i1, sI i2, sI i3, sI i4, sI 0, sI ca, sI cb, sI cc, s9, sR x, sI (Int32.ofNat po), sR r_536, sI 5, sR b554, sR b567, sU] [(.int (((48 : Int32) + (Int32.ofNat (po / 1000 % 10))).toUInt32.toUInt16.toUInt32.toInt32)), (.int (2 : Int32)), (.ref b567)]))
        rw [(own_chr (po / 1000))]
        show Gl p.tables e below _ (T655.setTop (mkF m 348 #[sI i0, sI i1, sI i2, sI i3, sI i4, sI 0, sI ca, sI cb, sI cc, s9, sR x, sI (Int32.ofNat po), sR r_536, sI 5, sR b554, sR b567, sU] [(.int (dch (po / 1000))), (.int (2 : Int32)), (.ref b567)]))
        obtain ⟨c659, a659, q659, s659, m659, H659, U659⟩ := id V655
        refine gstC Gl.cl X655 hx hZ536 e655 a659 (j := (2 : Int32)) (inb_of s659 ⟨(by decide), (by decide)⟩) rfl rfl (hb hby at_348) ?_
        intro T659 h659 X659 e659 W659
        have z660 : h655.size ≤ h659.size := (Keep.of_wr W659).1
        rw [(dch_narc _)] at W659
        have V659 : Arv Z h659 b567 k567 .char (9 : Int32) [(.int (58 : Int32)), (.int (dch (po / 10000))), (.int (dch (po / 1000))), (.int (0 : Int32)), (.int (0 : Int32)), (.int (0 : Int32)), (.int (0 : Int32)), (.int (0 : Int32)), (.int (0 : Int32))] (.int (0 : Int32)) := Arv.set a659 q659 s659 m659 H659 U659 (dch_fitc _) W659 2 rfl (Nat.le_of_ble_eq_true rfl)
        have N659 := Fr.snoc X659 N655 (own_ale om571)
        refine Gl.go (fun _ hr => zXS_iconst X659.here hx rfl (hb hby at_349) (zXS_iload X659.here hx rfl (hb hby at_350) rfl (zXS_icmpNo X659.here hx rfl (hb hby at_352) rfl (XT.ii_ge_f (by decide)) (zXS_aload X659.here hx rfl (hb hby at_355) rfl rfl (zXS_iload X659.here hx rfl (hb hby at_357) rfl (zXS_iconst X659.here hx rfl (hb hby at_359) (zXS_iadd X659.here hx rfl (hb hby at_360) rfl (zXS_bipush X659.here hx rfl (hb hby at_361) (zXS_aload X659.here hx rfl (hb hby at_363) rfl rfl (zXS_bipush X659.here hx rfl (hb hby at_365) hr)))))))))) ?_
        refine Gl.go (fun _ hr => zXS_iload X659.here hx rfl (hb hby at_367) rfl (zXS_isub X659.here hx rfl (hb hby at_369) rfl hr)) ?_
        have Vc661 := (Vc657.other W659 (own_ane om652))
        obtain ⟨c662, a662, q662, s662, m662, H662, U662⟩ := id Vc661
        have i662 := inb_of s662 (j := (2 : Int32)) ⟨(by decide), (by decide)⟩
        refine g_iaload Gl.cl X659 hx hZ536 e659 a662 i662 (v := (.int (Int32.ofNat (po / 100 % 10)))) (H662.at i662 rfl) rfl rfl (hb hby at_370) ?_
        refine Gl.go (fun _ hr => zXS_iadd X659.here hx rfl (hb hby at_371) rfl (zXT_i2c X659.here hx rfl (hb hby at_372) rfl hr)) ?_
        show Gl p.tables e below _ (T659.setTop (mkF m 373 #[sI i0, sI i1, sI i2, sI i3, sI i4, sI 0, sI ca, sI cb, sI cc, s9, sR x, sI (Int32.ofNat po), sR r_536, sI 5, sR b554, sR b567, sU] [(.int (((48 : Int32) + (Int32.ofNat (po / 100 % 10))).toUInt32.toUInt16.toUInt32.toInt32)), (.int (3 : Int32)), (.ref b567)]))
        rw [(own_chr (po / 100))]
        show Gl p.tables e below _ (T659.setTop (mkF m 373 #[sI i0, sI i1, sI i2, sI i3, sI i4, sI 0, sI ca, sI cb, sI cc, s9, sR x, sI (Int32.ofNat po), sR r_536, sI 5, sR b554, sR b567, sU] [(.int (dch (po / 100))), (.int (3 : Int32)), (.ref b567)]))
        obtain ⟨c663, a663, q663, s663, m663, H663, U663⟩ := id V659
        refine gstC Gl.cl X659 hx hZ536 e659 a663 (j := (3 : Int32)) (inb_of s663 ⟨(by decide), (by decide)⟩) rfl rfl (hb hby at_373) ?_
        intro T663 h663 X663 e663 W663
        have z664 : h659.size ≤ h663.size := (Keep.of_wr W663).1
        rw [(dch_narc _)] at W663
        have V663 : Arv Z h663 b567 k567 .char (9 : Int32) [(.int (58 : Int32)), (.int (dch (po / 10000))), (.int (dch (po / 1000))), (.int (dch (po / 100))), (.int (0 : Int32)), (.int (0 : Int32)), (.int (0 : Int32)), (.int (0 : Int32)), (.int (0 : Int32))] (.int (0 : Int32)) := Arv.set a663 q663 s663 m663 H663 U663 (dch_fitc _) W663 3 rfl (Nat.le_of_ble_eq_true rfl)
        have N663 := Fr.snoc X663 N659 (own_ale om571)
        refine Gl.go (fun _ hr => zXS_iconst X663.here hx rfl (hb hby at_374) (zXS_iload X663.here hx rfl (hb hby at_375) rfl (zXS_icmpNo X663.here hx rfl (hb hby at_377) rfl (XT.ii_ge_f (by decide)) (zXS_aload X663.here hx rfl (hb hby at_380) rfl rfl (zXS_iload X663.here hx rfl (hb hby at_382) rfl (zXS_iconst X663.here hx rfl (hb hby at_384) (zXS_iadd X663.here hx rfl (hb hby at_385) rfl (zXS_bipush X663.here hx rfl (hb hby at_386) (zXS_aload X663.here hx rfl (hb hby at_388) rfl rfl (zXS_bipush X663.here hx rfl (hb hby at_390) hr)))))))))) ?_
        refine Gl.go (fun _ hr => zXS_iload X663.here hx rfl (hb hby at_392) rfl (zXS_isub X663.here hx rfl (hb hby at_394) rfl hr)) ?_
        have Vc665 := (Vc661.other W663 (own_ane om652))
        obtain ⟨c666, a666, q666, s666, m666, H666, U666⟩ := id Vc665
        have i666 := inb_of s666 (j := (3 : Int32)) ⟨(by decide), (by decide)⟩
        refine g_iaload Gl.cl X663 hx hZ536 e663 a666 i666 (v := (.int (Int32.ofNat (po / 10 % 10)))) (H666.at i666 rfl) rfl rfl (hb hby at_395) ?_
        refine Gl.go (fun _ hr => zXS_iadd X663.here hx rfl (hb hby at_396) rfl (zXT_i2c X663.here hx rfl (hb hby at_397) rfl hr)) ?_
        show Gl p.tables e below _ (T663.setTop (mkF m 398 #[sI i0, sI i1, sI i2, sI i3, sI i4, sI 0, sI ca, sI cb, sI cc, s9, sR x, sI (Int32.ofNat po), sR r_536, sI 5, sR b554, sR b567, sU] [(.int (((48 : Int32) + (Int32.ofNat (po / 10 % 10))).toUInt32.toUInt16.toUInt32.toInt32)), (.int (4 : Int32)), (.ref b567)]))
        rw [(own_chr (po / 10))]
        show Gl p.tables e below _ (T663.setTop (mkF m 398 #[sI i0, sI i1, sI i2, sI i3, sI i4, sI 0, sI ca, sI cb, sI cc, s9, sR x, sI (Int32.ofNat po), sR r_536, sI 5, sR b554, sR b567, sU] [(.int (dch (po / 10))), (.int (4 : Int32)), (.ref b567)]))
        obtain ⟨c667, a667, q667, s667, m667, H667, U667⟩ := id V663
        refine gstC Gl.cl X663 hx hZ536 e663 a667 (j := (4 : Int32)) (inb_of s667 ⟨(by decide), (by decide)⟩) rfl rfl (hb hby at_398) ?_
        intro T667 h667 X667 e667 W667
        have z668 : h663.size ≤ h667.size := (Keep.of_wr W667).1
        rw [(dch_narc _)] at W667
        have V667 : Arv Z h667 b567 k567 .char (9 : Int32) [(.int (58 : Int32)), (.int (dch (po / 10000))), (.int (dch (po / 1000))), (.int (dch (po / 100))), (.int (dch (po / 10))), (.int (0 : Int32)), (.int (0 : Int32)), (.int (0 : Int32)), (.int (0 : Int32))] (.int (0 : Int32)) := Arv.set a667 q667 s667 m667 H667 U667 (dch_fitc _) W667 4 rfl (Nat.le_of_ble_eq_true rfl)
        have N667 := Fr.snoc X667 N663 (own_ale om571)
        refine Gl.go (fun _ hr => zXS_iconst X667.here hx rfl (hb hby at_399) (zXS_iload X667.here hx rfl (hb hby at_400) rfl (zXS_icmpNo X667.here hx rfl (hb hby at_402) rfl (XT.ii_ge_f (by decide)) (zXS_aload X667.here hx rfl (hb hby at_405) rfl rfl (zXS_iload X667.here hx rfl (hb hby at_407) rfl (zXS_iconst X667.here hx rfl (hb hby at_409) (zXS_iadd X667.here hx rfl (hb hby at_410) rfl (zXS_bipush X667.here hx rfl (hb hby at_411) (zXS_aload X667.here hx rfl (hb hby at_413) rfl rfl (zXS_bipush X667.here hx rfl (hb hby at_415) hr)))))))))) ?_
        refine Gl.go (fun _ hr => zXS_iload X667.here hx rfl (hb hby at_417) rfl (zXS_isub X667.here hx rfl (hb hby at_419) rfl hr)) ?_
        have Vc669 := (Vc665.other W667 (own_ane om652))
        obtain ⟨c670, a670, q670, s670, m670, H670, U670⟩ := id Vc669
        have i670 := inb_of s670 (j := (4 : Int32)) ⟨(by decide), (by decide)⟩
        refine g_iaload Gl.cl X667 hx hZ536 e667 a670 i670 (v := (.int (Int32.ofNat (po % 10)))) (H670.at i670 rfl) rfl rfl (hb hby at_420) ?_
        refine Gl.go (fun _ hr => zXS_iadd X667.here hx rfl (hb hby at_421) rfl (zXT_i2c X667.here hx rfl (hb hby at_422) rfl hr)) ?_
        show Gl p.tables e below _ (T667.setTop (mkF m 423 #[sI i0, sI i1, sI i2, sI i3, sI i4, sI 0, sI ca, sI cb, sI cc, s9, sR x, sI (Int32.ofNat po), sR r_536, sI 5, sR b554, sR b567, sU] [(.int (((48 : Int32) + (Int32.ofNat (po % 10))).toUInt32.toUInt16.toUInt32.toInt32)), (.int (5 : Int32)), (.ref b567)]))
        rw [(own_chr po)]
        show Gl p.tables e below _ (T667.setTop (mkF m 423 #[sI i0, sI i1, sI i2, sI i3, sI i4, sI 0, sI ca, sI cb, sI cc, s9, sR x, sI (Int32.ofNat po), sR r_536, sI 5, sR b554, sR b567, sU] [(.int (dch po)), (.int (5 : Int32)), (.ref b567)]))
        obtain ⟨c671, a671, q671, s671, m671, H671, U671⟩ := id V667
        refine gstC Gl.cl X667 hx hZ536 e667 a671 (j := (5 : Int32)) (inb_of s671 ⟨(by decide), (by decide)⟩) rfl rfl (hb hby at_423) ?_
        intro T671 h671 X671 e671 W671
        have z672 : h667.size ≤ h671.size := (Keep.of_wr W671).1
        rw [(dch_narc _)] at W671
        have V671 : Arv Z h671 b567 k567 .char (9 : Int32) [(.int (58 : Int32)), (.int (dch (po / 10000))), (.int (dch (po / 1000))), (.int (dch (po / 100))), (.int (dch (po / 10))), (.int (dch po)), (.int (0 : Int32)), (.int (0 : Int32)), (.int (0 : Int32))] (.int (0 : Int32)) := Arv.set a671 q671 s671 m671 H671 U671 (dch_fitc _) W671 5 rfl (Nat.le_of_ble_eq_true rfl)
        have N671 := Fr.snoc X671 N667 (own_ale om571)
        refine Gl.go (fun _ hr => zXS_iload X671.here hx rfl (hb hby at_424) rfl (zXS_iconst X671.here hx rfl (hb hby at_426) (zXS_iadd X671.here hx rfl (hb hby at_427) rfl (zXS_iload X671.here hx rfl (hb hby at_428) rfl (zXS_iadd X671.here hx rfl (hb hby at_430) rfl (zXS_istore X671.here hx rfl (hb hby at_431) rfl (l' := #[sI i0, sI i1, sI i2, sI i3, sI i4, sI 0, sI ca, sI cb, sI cc, s9, sR x, sI (Int32.ofNat po), sR r_536, sI 5, sR b554, sR b567, sI 6]) rfl hr)))))) ?_
        have hto : (naT hs po).length = 6 := by rw [hhs, naT, show digs po = [dch (po / 10000), dch (po / 1000), dch (po / 100), dch (po / 10), dch po] from by rw [digs, if_neg (by omega), if_neg (by omega), if_neg (by omega), if_neg (by omega)]]; rfl
        have om673 : @LE.le Nat instLENat h0.size b528 := by omega
        have om674 : @LE.le Nat instLENat h0.size b554 := by omega
        have Ec675 := (((((((((((((f536_1.ext E554).wr W556).wr W559).wr W561).wr W563).wr W565).ext E567).wr W574).wr W655).wr W659).wr W663).wr W667).wr W671)
        have om676 : ¬ @Eq Nat r_536 b554 := by omega
        have Fc677 := (((((((((((((f536_2.ext E554).other W556 (Or.inl (own_ane om676))).other W559 (Or.inl (own_ane om676))).other W561 (Or.inl (own_ane om676))).other W563 (Or.inl (own_ane om676))).other W565 (Or.inl (own_ane om676))).ext E567).other W574 (Or.inl (own_ane om569))).other W655 (Or.inl (own_ane om569))).other W659 (Or.inl (own_ane om569))).other W663 (Or.inl (own_ane om569))).other W667 (Or.inl (own_ane om569))).other W671 (Or.inl (own_ane om569)))
        have Fc678 := (((((((((((((f536_3.ext E554).other W556 (Or.inl (own_ane om676))).other W559 (Or.inl (own_ane om676))).other W561 (Or.inl (own_ane om676))).other W563 (Or.inl (own_ane om676))).other W565 (Or.inl (own_ane om676))).ext E567).other W574 (Or.inl (own_ane om569))).other W655 (Or.inl (own_ane om569))).other W659 (Or.inl (own_ane om569))).other W663 (Or.inl (own_ane om569))).other W667 (Or.inl (own_ane om569))).other W671 (Or.inl (own_ane om569)))
        have om679 : ¬ @Eq Nat t2_536 b554 := by omega
        have Vc680 := (((((((((((((f536_4.ext E554).other W556 (own_ane om679)).other W559 (own_ane om679)).other W561 (own_ane om679)).other W563 (own_ane om679)).other W565 (own_ane om679)).ext E567).other W574 (own_ane om570)).other W655 (own_ane om570)).other W659 (own_ane om570)).other W663 (own_ane om570)).other W667 (own_ane om570)).other W671 (own_ane om570))
        exact tB T671 h671 _ T536.vm _ r_536 t2_536 kr_536 N2_536 vs2_536 (naT hs po) b567 k567 ([(.int (58 : Int32)), (.int (dch (po / 10000))), (.int (dch (po / 1000))), (.int (dch (po / 100))), (.int (dch (po / 10))), (.int (dch po)), (.int (0 : Int32)), (.int (0 : Int32)), (.int (0 : Int32))]) 6 (sI 0) (sI ca) (sI cb) (sI cc) s9 (sR x) (sI (Int32.ofNat po)) (sI 5) (sR b554) N671 (X671.more (by decide) (by decide)) e671 ((((((((((((((((((Keep.refl h0 []).trans Kc all0).ext E528).trans K530 (allS (P := fun x_ => x_ ∈ ([] : List Addr) ∨ h0.size ≤ x_) (Or.inr (own_ale om673)) all0)).trans K536 all0).ext E554).wr W556 (Or.inr (own_ale om674))).wr W559 (Or.inr (own_ale om674))).wr W561 (Or.inr (own_ale om674))).wr W563 (Or.inr (own_ale om674))).wr W565 (Or.inr (own_ale om674))).ext E567).wr W574 (Or.inr (own_ale om572))).wr W655 (Or.inr (own_ale om572))).wr W659 (Or.inr (own_ale om572))).wr W663 (Or.inr (own_ale om572))).wr W667 (Or.inr (own_ale om572))).wr W671 (Or.inr (own_ale om572))) hS536 (by have q := hk536; omega) hZ536 hown536 Ec675 Fc677 Fc678 Vc680 V671 f536_5 (naT_lat hlatA) hto (by decide) (own_hes (zs := List.replicate 3 (.int 0)) (by rw [hhs, naT, show digs po = [dch (po / 10000), dch (po / 1000), dch (po / 100), dch (po / 10), dch po] from by rw [digs, if_neg (by omega), if_neg (by omega), if_neg (by omega), if_neg (by omega)]]; rfl) hto)
    · show Gl p.tables e below _ (T565.setTop (mkF m 252 #[sI i0, sI i1, sI i2, sI i3, sI i4, sI 1, sI ca, sI cb, sI cc, s9, sR x, sI (Int32.ofNat po), sR r_536, sI (Int32.ofNat (nd po)), sR b554, sU, sU] []))
      refine Gl.go (fun _ hr => zXS_bipush X565.here hx rfl (hb hby at_252) hr) ?_
      refine gNewP Gl.cl X565 hx hZ536 (tw hw 0 rfl) e565 rfl (hb hby at_254) rfl (by decide) (cap := 9) (by decide) (by decide) (by decide) (by decide) ?_
      intro T681 h681 b681 k681 g681 X681 e681 E681 A681
      have z682 : h565.size ≤ h681.size := E681.1
      have lt681 := own_alt A681.lt
      have V681 : Arv Z h681 b681 k681 .char (9 : Int32) [(.int (0 : Int32)), (.int (0 : Int32)), (.int (0 : Int32)), (.int (0 : Int32)), (.int (0 : Int32)), (.int (0 : Int32)), (.int (0 : Int32)), (.int (0 : Int32)), (.int (0 : Int32))] (.int (0 : Int32)) := (Arv.new A681 (by decide)).pad (pad_rep [] (.int (0 : Int32)) 9)
      refine Gl.go (fun _ hr => zXS_astore X681.here hx rfl (hb hby at_256) rfl rfl (l' := #[sI i0, sI i1, sI i2, sI i3, sI i4, sI 1, sI ca, sI cb, sI cc, s9, sR x, sI (Int32.ofNat po), sR r_536, sI (Int32.ofNat (nd po)), sR b554, sR b681, sU]) rfl hr) ?_
      have om683 : ¬ @Eq Nat r_536 b681 := by omega
      have om684 : ¬ @Eq Nat t2_536 b681 := by omega
      have om685 : @LE.le Nat instLENat n0 b681 := by omega
      have om686 : @LE.le Nat instLENat h0.size b681 := by omega
      have om687 : @LE.le Nat instLENat Z.heap.size b681 := by omega
      refine Gl.go (fun _ hr => zXS_iload X681.here hx rfl (hb hby at_258) rfl (zXS_ifNo X681.here hx rfl (hb hby at_260) rfl (XT.i0_le_f (by decide)) (zXS_aload X681.here hx rfl (hb hby at_263) rfl rfl (zXS_iconst X681.here hx rfl (hb hby at_265) (zXS_iload X681.here hx rfl (hb hby at_266) rfl hr))))) ?_
      obtain ⟨c688, a688, q688, s688, m688, H688, U688⟩ := id V681
      refine gstC Gl.cl X681 hx hZ536 e681 a688 (j := (0 : Int32)) (inb_of s688 ⟨(by decide), (by decide)⟩) rfl rfl (hb hby at_268) ?_
      intro T688 h688 X688 e688 W688
      have z689 : h681.size ≤ h688.size := (Keep.of_wr W688).1
      rw [hca.2] at W688
      have V688 : Arv Z h688 b681 k681 .char (9 : Int32) [(.int ca), (.int (0 : Int32)), (.int (0 : Int32)), (.int (0 : Int32)), (.int (0 : Int32)), (.int (0 : Int32)), (.int (0 : Int32)), (.int (0 : Int32)), (.int (0 : Int32))] (.int (0 : Int32)) := Arv.set a688 q688 s688 m688 H688 U688 (own_fitn hca.2) W688 0 rfl (Nat.le_of_ble_eq_true rfl)
      have N688 := Fr.snoc X688 N565 (own_ale om685)
      refine Gl.go (fun _ hr => zXS_iload X688.here hx rfl (hb hby at_269) rfl (zXS_iconst X688.here hx rfl (hb hby at_271) (zXS_icmpYes X688.here hx rfl (pc0 := 272) (pc' := 281) rfl (hb hby at_272) rfl (XT.ii_le_t (by decide)) (by decide) (by decide) (zXS_iload X688.here hx rfl (hb hby at_281) rfl (zXS_iconst X688.here hx rfl (hb hby at_283) (zXS_icmpYes X688.here hx rfl (pc0 := 284) (pc' := 293) rfl (hb hby at_284) rfl (XT.ii_le_t (by decide)) (by decide) (by decide) (zXS_aload X688.here hx rfl (hb hby at_293) rfl rfl (zXS_iload X688.here hx rfl (hb hby at_295) rfl (zXS_bipush X688.here hx rfl (hb hby at_297) hr))))))))) ?_
      obtain ⟨c690, a690, q690, s690, m690, H690, U690⟩ := id V688
      refine gstC Gl.cl X688 hx hZ536 e688 a690 (j := (1 : Int32)) (inb_of s690 ⟨(by decide), (by decide)⟩) rfl rfl (hb hby at_299) ?_
      intro T690 h690 X690 e690 W690
      have z691 : h688.size ≤ h690.size := (Keep.of_wr W690).1
      have V690 : Arv Z h690 b681 k681 .char (9 : Int32) [(.int ca), (.int (58 : Int32)), (.int (0 : Int32)), (.int (0 : Int32)), (.int (0 : Int32)), (.int (0 : Int32)), (.int (0 : Int32)), (.int (0 : Int32)), (.int (0 : Int32))] (.int (0 : Int32)) := Arv.set a690 q690 s690 m690 H690 U690 rfl W690 1 rfl (Nat.le_of_ble_eq_true rfl)
      have N690 := Fr.snoc X690 N688 (own_ale om685)
      show Gl p.tables e below _ (T690.setTop (mkF m 300 #[sI i0, sI i1, sI i2, sI i3, sI i4, sI 1, sI ca, sI cb, sI cc, s9, sR x, sI (Int32.ofNat po), sR r_536, sI (Int32.ofNat (nd po)), sR b554, sR b681, sU] []))
      rcases own_five po with ⟨hb1, hnd⟩ | ⟨hb1, hnd⟩ | ⟨hb1, hnd⟩ | ⟨hb1, hnd⟩ | ⟨hb1, hnd⟩
      · rw [hnd]
        show Gl p.tables e below _ (T690.setTop (mkF m 300 #[sI i0, sI i1, sI i2, sI i3, sI i4, sI 1, sI ca, sI cb, sI cc, s9, sR x, sI (Int32.ofNat po), sR r_536, sI 1, sR b554, sR b681, sU] []))
        refine Gl.go (fun _ hr => zXS_iconst X690.here hx rfl (hb hby at_300) (zXS_iload X690.here hx rfl (hb hby at_301) rfl (zXS_icmpNo X690.here hx rfl (hb hby at_303) rfl (XT.ii_ge_f (by decide)) (zXS_aload X690.here hx rfl (hb hby at_306) rfl rfl (zXS_iload X690.here hx rfl (hb hby at_308) rfl (zXS_iconst X690.here hx rfl (hb hby at_310) (zXS_iadd X690.here hx rfl (hb hby at_311) rfl (zXS_bipush X690.here hx rfl (hb hby at_312) (zXS_aload X690.here hx rfl (hb hby at_314) rfl rfl (zXS_iconst X690.here hx rfl (hb hby at_316) hr)))))))))) ?_
        refine Gl.go (fun _ hr => zXS_iload X690.here hx rfl (hb hby at_317) rfl (zXS_isub X690.here hx rfl (hb hby at_319) rfl hr)) ?_
        have om692 : ¬ @Eq Nat b554 b681 := by omega
        have Vc693 := (((V565.ext E681).other W688 (own_ane om692)).other W690 (own_ane om692))
        obtain ⟨c694, a694, q694, s694, m694, H694, U694⟩ := id Vc693
        have i694 := inb_of s694 (j := (4 : Int32)) ⟨(by decide), (by decide)⟩
        refine g_iaload Gl.cl X690 hx hZ536 e690 a694 i694 (v := (.int (Int32.ofNat (po % 10)))) (H694.at i694 rfl) rfl rfl (hb hby at_320) ?_
        refine Gl.go (fun _ hr => zXS_iadd X690.here hx rfl (hb hby at_321) rfl (zXT_i2c X690.here hx rfl (hb hby at_322) rfl hr)) ?_
        show Gl p.tables e below _ (T690.setTop (mkF m 323 #[sI i0, sI i1, sI i2, sI i3, sI i4, sI 1, sI ca, sI cb, sI cc, s9, sR x, sI (Int32.ofNat po), sR r_536, sI 1, sR b554, sR b681, sU] [(.int (((48 : Int32) + (Int32.ofNat (po % 10))).toUInt32.toUInt16.toUInt32.toInt32)), (.int (2 : Int32)), (.ref b681)]))
        rw [(own_chr po)]
        show Gl p.tables e below _ (T690.setTop (mkF m 323 #[sI i0, sI i1, sI i2, sI i3, sI i4, sI 1, sI ca, sI cb, sI cc, s9, sR x, sI (Int32.ofNat po), sR r_536, sI 1, sR b554, sR b681, sU] [(.int (dch po)), (.int (2 : Int32)), (.ref b681)]))
        obtain ⟨c695, a695, q695, s695, m695, H695, U695⟩ := id V690
        refine gstC Gl.cl X690 hx hZ536 e690 a695 (j := (2 : Int32)) (inb_of s695 ⟨(by decide), (by decide)⟩) rfl rfl (hb hby at_323) ?_
        intro T695 h695 X695 e695 W695
        have z696 : h690.size ≤ h695.size := (Keep.of_wr W695).1
        rw [(dch_narc _)] at W695
        have V695 : Arv Z h695 b681 k681 .char (9 : Int32) [(.int ca), (.int (58 : Int32)), (.int (dch po)), (.int (0 : Int32)), (.int (0 : Int32)), (.int (0 : Int32)), (.int (0 : Int32)), (.int (0 : Int32)), (.int (0 : Int32))] (.int (0 : Int32)) := Arv.set a695 q695 s695 m695 H695 U695 (dch_fitc _) W695 2 rfl (Nat.le_of_ble_eq_true rfl)
        have N695 := Fr.snoc X695 N690 (own_ale om685)
        refine Gl.go (fun _ hr => zXS_iconst X695.here hx rfl (hb hby at_324) (zXS_iload X695.here hx rfl (hb hby at_325) rfl (zXS_icmpYes X695.here hx rfl (pc0 := 327) (pc' := 349) rfl (hb hby at_327) rfl (XT.ii_ge_t (by decide)) (by decide) (by decide) (zXS_iconst X695.here hx rfl (hb hby at_349) (zXS_iload X695.here hx rfl (hb hby at_350) rfl (zXS_icmpYes X695.here hx rfl (pc0 := 352) (pc' := 374) rfl (hb hby at_352) rfl (XT.ii_ge_t (by decide)) (by decide) (by decide) (zXS_iconst X695.here hx rfl (hb hby at_374) (zXS_iload X695.here hx rfl (hb hby at_375) rfl (zXS_icmpYes X695.here hx rfl (pc0 := 377) (pc' := 399) rfl (hb hby at_377) rfl (XT.ii_ge_t (by decide)) (by decide) (by decide) (zXS_iconst X695.here hx rfl (hb hby at_399) hr)))))))))) ?_
        refine Gl.go (fun _ hr => zXS_iload X695.here hx rfl (hb hby at_400) rfl (zXS_icmpYes X695.here hx rfl (pc0 := 402) (pc' := 424) rfl (hb hby at_402) rfl (XT.ii_ge_t (by decide)) (by decide) (by decide) (zXS_iload X695.here hx rfl (hb hby at_424) rfl (zXS_iconst X695.here hx rfl (hb hby at_426) (zXS_iadd X695.here hx rfl (hb hby at_427) rfl (zXS_iload X695.here hx rfl (hb hby at_428) rfl (zXS_iadd X695.here hx rfl (hb hby at_430) rfl (zXS_istore X695.here hx rfl (hb hby at_431) rfl (l' := #[sI i0, sI i1, sI i2, sI i3, sI i4, sI 1, sI ca, sI cb, sI cc, s9, sR x, sI (Int32.ofNat po), sR r_536, sI 1, sR b554, sR b681, sI 3]) rfl hr)))))))) ?_
        have hto : (naT hs po).length = 3 := by rw [hhs, naT, show digs po = [dch po] from by rw [digs, if_pos (by omega)]]; rfl
        have om697 : @LE.le Nat instLENat h0.size b528 := by omega
        have om698 : @LE.le Nat instLENat h0.size b554 := by omega
        have Ec699 := ((((((((((f536_1.ext E554).wr W556).wr W559).wr W561).wr W563).wr W565).ext E681).wr W688).wr W690).wr W695)
        have om700 : ¬ @Eq Nat r_536 b554 := by omega
        have Fc701 := ((((((((((f536_2.ext E554).other W556 (Or.inl (own_ane om700))).other W559 (Or.inl (own_ane om700))).other W561 (Or.inl (own_ane om700))).other W563 (Or.inl (own_ane om700))).other W565 (Or.inl (own_ane om700))).ext E681).other W688 (Or.inl (own_ane om683))).other W690 (Or.inl (own_ane om683))).other W695 (Or.inl (own_ane om683)))
        have Fc702 := ((((((((((f536_3.ext E554).other W556 (Or.inl (own_ane om700))).other W559 (Or.inl (own_ane om700))).other W561 (Or.inl (own_ane om700))).other W563 (Or.inl (own_ane om700))).other W565 (Or.inl (own_ane om700))).ext E681).other W688 (Or.inl (own_ane om683))).other W690 (Or.inl (own_ane om683))).other W695 (Or.inl (own_ane om683)))
        have om703 : ¬ @Eq Nat t2_536 b554 := by omega
        have Vc704 := ((((((((((f536_4.ext E554).other W556 (own_ane om703)).other W559 (own_ane om703)).other W561 (own_ane om703)).other W563 (own_ane om703)).other W565 (own_ane om703)).ext E681).other W688 (own_ane om684)).other W690 (own_ane om684)).other W695 (own_ane om684))
        exact tB T695 h695 _ T536.vm _ r_536 t2_536 kr_536 N2_536 vs2_536 (naT hs po) b681 k681 ([(.int ca), (.int (58 : Int32)), (.int (dch po)), (.int (0 : Int32)), (.int (0 : Int32)), (.int (0 : Int32)), (.int (0 : Int32)), (.int (0 : Int32)), (.int (0 : Int32))]) 3 (sI 1) (sI ca) (sI cb) (sI cc) s9 (sR x) (sI (Int32.ofNat po)) (sI 1) (sR b554) N695 (X695.more (by decide) (by decide)) e695 (((((((((((((((Keep.refl h0 []).trans Kc all0).ext E528).trans K530 (allS (P := fun x_ => x_ ∈ ([] : List Addr) ∨ h0.size ≤ x_) (Or.inr (own_ale om697)) all0)).trans K536 all0).ext E554).wr W556 (Or.inr (own_ale om698))).wr W559 (Or.inr (own_ale om698))).wr W561 (Or.inr (own_ale om698))).wr W563 (Or.inr (own_ale om698))).wr W565 (Or.inr (own_ale om698))).ext E681).wr W688 (Or.inr (own_ale om686))).wr W690 (Or.inr (own_ale om686))).wr W695 (Or.inr (own_ale om686))) hS536 (by have q := hk536; omega) hZ536 hown536 Ec699 Fc701 Fc702 Vc704 V695 f536_5 (naT_lat hlatA) hto (by decide) (own_hes (zs := List.replicate 6 (.int 0)) (by rw [hhs, naT, show digs po = [dch po] from by rw [digs, if_pos (by omega)]]; rfl) hto)
      · rw [hnd]
        show Gl p.tables e below _ (T690.setTop (mkF m 300 #[sI i0, sI i1, sI i2, sI i3, sI i4, sI 1, sI ca, sI cb, sI cc, s9, sR x, sI (Int32.ofNat po), sR r_536, sI 2, sR b554, sR b681, sU] []))
        refine Gl.go (fun _ hr => zXS_iconst X690.here hx rfl (hb hby at_300) (zXS_iload X690.here hx rfl (hb hby at_301) rfl (zXS_icmpNo X690.here hx rfl (hb hby at_303) rfl (XT.ii_ge_f (by decide)) (zXS_aload X690.here hx rfl (hb hby at_306) rfl rfl (zXS_iload X690.here hx rfl (hb hby at_308) rfl (zXS_iconst X690.here hx rfl (hb hby at_310) (zXS_iadd X690.here hx rfl (hb hby at_311) rfl (zXS_bipush X690.here hx rfl (hb hby at_312) (zXS_aload X690.here hx rfl (hb hby at_314) rfl rfl (zXS_iconst X690.here hx rfl (hb hby at_316) hr)))))))))) ?_
        refine Gl.go (fun _ hr => zXS_iload X690.here hx rfl (hb hby at_317) rfl (zXS_isub X690.here hx rfl (hb hby at_319) rfl hr)) ?_
        have om705 : ¬ @Eq Nat b554 b681 := by omega
        have Vc706 := (((V565.ext E681).other W688 (own_ane om705)).other W690 (own_ane om705))
        obtain ⟨c707, a707, q707, s707, m707, H707, U707⟩ := id Vc706
        have i707 := inb_of s707 (j := (3 : Int32)) ⟨(by decide), (by decide)⟩
        refine g_iaload Gl.cl X690 hx hZ536 e690 a707 i707 (v := (.int (Int32.ofNat (po / 10 % 10)))) (H707.at i707 rfl) rfl rfl (hb hby at_320) ?_
        refine Gl.go (fun _ hr => zXS_iadd X690.here hx rfl (hb hby at_321) rfl (zXT_i2c X690.here hx rfl (hb hby at_322) rfl hr)) ?_
        show Gl p.tables e below _ (T690.setTop (mkF m 323 #[sI i0, sI i1, sI i2, sI i3, sI i4, sI 1, sI ca, sI cb, sI cc, s9, sR x, sI (Int32.ofNat po), sR r_536, sI 2, sR b554, sR b681, sU] [(.int (((48 : Int32) + (Int32.ofNat (po / 10 % 10))).toUInt32.toUInt16.toUInt32.toInt32)), (.int (2 : Int32)), (.ref b681)]))
        rw [(own_chr (po / 10))]
        show Gl p.tables e below _ (T690.setTop (mkF m 323 #[sI i0, sI i1, sI i2, sI i3, sI i4, sI 1, sI ca, sI cb, sI cc, s9, sR x, sI (Int32.ofNat po), sR r_536, sI 2, sR b554, sR b681, sU] [(.int (dch (po / 10))), (.int (2 : Int32)), (.ref b681)]))
        obtain ⟨c708, a708, q708, s708, m708, H708, U708⟩ := id V690
        refine gstC Gl.cl X690 hx hZ536 e690 a708 (j := (2 : Int32)) (inb_of s708 ⟨(by decide), (by decide)⟩) rfl rfl (hb hby at_323) ?_
        intro T708 h708 X708 e708 W708
        have z709 : h690.size ≤ h708.size := (Keep.of_wr W708).1
        rw [(dch_narc _)] at W708
        have V708 : Arv Z h708 b681 k681 .char (9 : Int32) [(.int ca), (.int (58 : Int32)), (.int (dch (po / 10))), (.int (0 : Int32)), (.int (0 : Int32)), (.int (0 : Int32)), (.int (0 : Int32)), (.int (0 : Int32)), (.int (0 : Int32))] (.int (0 : Int32)) := Arv.set a708 q708 s708 m708 H708 U708 (dch_fitc _) W708 2 rfl (Nat.le_of_ble_eq_true rfl)
        have N708 := Fr.snoc X708 N690 (own_ale om685)
        refine Gl.go (fun _ hr => zXS_iconst X708.here hx rfl (hb hby at_324) (zXS_iload X708.here hx rfl (hb hby at_325) rfl (zXS_icmpNo X708.here hx rfl (hb hby at_327) rfl (XT.ii_ge_f (by decide)) (zXS_aload X708.here hx rfl (hb hby at_330) rfl rfl (zXS_iload X708.here hx rfl (hb hby at_332) rfl (zXS_iconst X708.here hx rfl (hb hby at_334) (zXS_iadd X708.here hx rfl (hb hby at_335) rfl (zXS_bipush X708.here hx rfl (hb hby at_336) (zXS_aload X708.here hx rfl (hb hby at_338) rfl rfl (zXS_bipush X708.here hx rfl (hb hby at_340) hr)))))))))) ?_
        refine Gl.go (fun _ hr => zXS_iload X708.here hx rfl (hb hby at_342) rfl (zXS_isub X708.here hx rfl (hb hby at_344) rfl hr)) ?_
        have Vc710 := (Vc706.other W708 (own_ane om705))
        obtain ⟨c711, a711, q711, s711, m711, H711, U711⟩ := id Vc710
        have i711 := inb_of s711 (j := (4 : Int32)) ⟨(by decide), (by decide)⟩
        refine g_iaload Gl.cl X708 hx hZ536 e708 a711 i711 (v := (.int (Int32.ofNat (po % 10)))) (H711.at i711 rfl) rfl rfl (hb hby at_345) ?_
        refine Gl.go (fun _ hr => zXS_iadd X708.here hx rfl (hb hby at_346) rfl (zXT_i2c X708.here hx rfl (hb hby at_347) rfl hr)) ?_
        show Gl p.tables e below _ (T708.setTop (mkF m 348 #[sI i0, sI i1, sI i2, sI i3, sI i4, sI 1, sI ca, sI cb, sI cc, s9, sR x, sI (Int32.ofNat po), sR r_536, sI 2, sR b554, sR b681, sU] [(.int (((48 : Int32) + (Int32.ofNat (po % 10))).toUInt32.toUInt16.toUInt32.toInt32)), (.int (3 : Int32)), (.ref b681)]))
        rw [(own_chr po)]
        show Gl p.tables e below _ (T708.setTop (mkF m 348 #[sI i0, sI i1, sI i2, sI i3, sI i4, sI 1, sI ca, sI cb, sI cc, s9, sR x, sI (Int32.ofNat po), sR r_536, sI 2, sR b554, sR b681, sU] [(.int (dch po)), (.int (3 : Int32)), (.ref b681)]))
        obtain ⟨c712, a712, q712, s712, m712, H712, U712⟩ := id V708
        refine gstC Gl.cl X708 hx hZ536 e708 a712 (j := (3 : Int32)) (inb_of s712 ⟨(by decide), (by decide)⟩) rfl rfl (hb hby at_348) ?_
        intro T712 h712 X712 e712 W712
        have z713 : h708.size ≤ h712.size := (Keep.of_wr W712).1
        rw [(dch_narc _)] at W712
        have V712 : Arv Z h712 b681 k681 .char (9 : Int32) [(.int ca), (.int (58 : Int32)), (.int (dch (po / 10))), (.int (dch po)), (.int (0 : Int32)), (.int (0 : Int32)), (.int (0 : Int32)), (.int (0 : Int32)), (.int (0 : Int32))] (.int (0 : Int32)) := Arv.set a712 q712 s712 m712 H712 U712 (dch_fitc _) W712 3 rfl (Nat.le_of_ble_eq_true rfl)
        have N712 := Fr.snoc X712 N708 (own_ale om685)
        refine Gl.go (fun _ hr => zXS_iconst X712.here hx rfl (hb hby at_349) (zXS_iload X712.here hx rfl (hb hby at_350) rfl (zXS_icmpYes X712.here hx rfl (pc0 := 352) (pc' := 374) rfl (hb hby at_352) rfl (XT.ii_ge_t (by decide)) (by decide) (by decide) (zXS_iconst X712.here hx rfl (hb hby at_374) (zXS_iload X712.here hx rfl (hb hby at_375) rfl (zXS_icmpYes X712.here hx rfl (pc0 := 377) (pc' := 399) rfl (hb hby at_377) rfl (XT.ii_ge_t (by decide)) (by decide) (by decide) (zXS_iconst X712.here hx rfl (hb hby at_399) (zXS_iload X712.here hx rfl (hb hby at_400) rfl (zXS_icmpYes X712.here hx rfl (pc0 := 402) (pc' := 424) rfl (hb hby at_402) rfl (XT.ii_ge_t (by decide)) (by decide) (by decide) (zXS_iload X712.here hx rfl (hb hby at_424) rfl hr)))))))))) ?_
        refine Gl.go (fun _ hr => zXS_iconst X712.here hx rfl (hb hby at_426) (zXS_iadd X712.here hx rfl (hb hby at_427) rfl (zXS_iload X712.here hx rfl (hb hby at_428) rfl (zXS_iadd X712.here hx rfl (hb hby at_430) rfl (zXS_istore X712.here hx rfl (hb hby at_431) rfl (l' := #[sI i0, sI i1, sI i2, sI i3, sI i4, sI 1, sI ca, sI cb, sI cc, s9, sR x, sI (Int32.ofNat po), sR r_536, sI 2, sR b554, sR b681, sI 4]) rfl hr))))) ?_
        have hto : (naT hs po).length = 4 := by rw [hhs, naT, show digs po = [dch (po / 10), dch po] from by rw [digs, if_neg (by omega), if_pos (by omega)]]; rfl
        have om714 : @LE.le Nat instLENat h0.size b528 := by omega
        have om715 : @LE.le Nat instLENat h0.size b554 := by omega
        have Ec716 := (((((((((((f536_1.ext E554).wr W556).wr W559).wr W561).wr W563).wr W565).ext E681).wr W688).wr W690).wr W708).wr W712)
        have om717 : ¬ @Eq Nat r_536 b554 := by omega
        have Fc718 := (((((((((((f536_2.ext E554).other W556 (Or.inl (own_ane om717))).other W559 (Or.inl (own_ane om717))).other W561 (Or.inl (own_ane om717))).other W563 (Or.inl (own_ane om717))).other W565 (Or.inl (own_ane om717))).ext E681).other W688 (Or.inl (own_ane om683))).other W690 (Or.inl (own_ane om683))).other W708 (Or.inl (own_ane om683))).other W712 (Or.inl (own_ane om683)))
        have Fc719 := (((((((((((f536_3.ext E554).other W556 (Or.inl (own_ane om717))).other W559 (Or.inl (own_ane om717))).other W561 (Or.inl (own_ane om717))).other W563 (Or.inl (own_ane om717))).other W565 (Or.inl (own_ane om717))).ext E681).other W688 (Or.inl (own_ane om683))).other W690 (Or.inl (own_ane om683))).other W708 (Or.inl (own_ane om683))).other W712 (Or.inl (own_ane om683)))
        have om720 : ¬ @Eq Nat t2_536 b554 := by omega
        have Vc721 := (((((((((((f536_4.ext E554).other W556 (own_ane om720)).other W559 (own_ane om720)).other W561 (own_ane om720)).other W563 (own_ane om720)).other W565 (own_ane om720)).ext E681).other W688 (own_ane om684)).other W690 (own_ane om684)).other W708 (own_ane om684)).other W712 (own_ane om684))
        exact tB T712 h712 _ T536.vm _ r_536 t2_536 kr_536 N2_536 vs2_536 (naT hs po) b681 k681 ([(.int ca), (.int (58 : Int32)), (.int (dch (po / 10))), (.int (dch po)), (.int (0 : Int32)), (.int (0 : Int32)), (.int (0 : Int32)), (.int (0 : Int32)), (.int (0 : Int32))]) 4 (sI 1) (sI ca) (sI cb) (sI cc) s9 (sR x) (sI (Int32.ofNat po)) (sI 2) (sR b554) N712 (X712.more (by decide) (by decide)) e712 ((((((((((((((((Keep.refl h0 []).trans Kc all0).ext E528).trans K530 (allS (P := fun x_ => x_ ∈ ([] : List Addr) ∨ h0.size ≤ x_) (Or.inr (own_ale om714)) all0)).trans K536 all0).ext E554).wr W556 (Or.inr (own_ale om715))).wr W559 (Or.inr (own_ale om715))).wr W561 (Or.inr (own_ale om715))).wr W563 (Or.inr (own_ale om715))).wr W565 (Or.inr (own_ale om715))).ext E681).wr W688 (Or.inr (own_ale om686))).wr W690 (Or.inr (own_ale om686))).wr W708 (Or.inr (own_ale om686))).wr W712 (Or.inr (own_ale om686))) hS536 (by have q := hk536; omega) hZ536 hown536 Ec716 Fc718 Fc719 Vc721 V712 f536_5 (naT_lat hlatA) hto (by decide) (own_hes (zs := List.replicate 5 (.int 0)) (by rw [hhs, naT, show digs po = [dch (po / 10), dch po] from by rw [digs, if_neg (by omega), if_pos (by omega)]]; rfl) hto)
      · rw [hnd]
        show Gl p.tables e below _ (T690.setTop (mkF m 300 #[sI i0, sI i1, sI i2, sI i3, sI i4, sI 1, sI ca, sI cb, sI cc, s9, sR x, sI (Int32.ofNat po), sR r_536, sI 3, sR b554, sR b681, sU] []))
        refine Gl.go (fun _ hr => zXS_iconst X690.here hx rfl (hb hby at_300) (zXS_iload X690.here hx rfl (hb hby at_301) rfl (zXS_icmpNo X690.here hx rfl (hb hby at_303) rfl (XT.ii_ge_f (by decide)) (zXS_aload X690.here hx rfl (hb hby at_306) rfl rfl (zXS_iload X690.here hx rfl (hb hby at_308) rfl (zXS_iconst X690.here hx rfl (hb hby at_310) (zXS_iadd X690.here hx rfl (hb hby at_311) rfl (zXS_bipush X690.here hx rfl (hb hby at_312) (zXS_aload X690.here hx rfl (hb hby at_314) rfl rfl (zXS_iconst X690.here hx rfl (hb hby at_316) hr)))))))))) ?_
        refine Gl.go (fun _ hr => zXS_iload X690.here hx rfl (hb hby at_317) rfl (zXS_isub X690.here hx rfl (hb hby at_319) rfl hr)) ?_
        have om722 : ¬ @Eq Nat b554 b681 := by omega
        have Vc723 := (((V565.ext E681).other W688 (own_ane om722)).other W690 (own_ane om722))
        obtain ⟨c724, a724, q724, s724, m724, H724, U724⟩ := id Vc723
        have i724 := inb_of s724 (j := (2 : Int32)) ⟨(by decide), (by decide)⟩
        refine g_iaload Gl.cl X690 hx hZ536 e690 a724 i724 (v := (.int (Int32.ofNat (po / 100 % 10)))) (H724.at i724 rfl) rfl rfl (hb hby at_320) ?_
        refine Gl.go (fun _ hr => zXS_iadd X690.here hx rfl (hb hby at_321) rfl (zXT_i2c X690.here hx rfl (hb hby at_322) rfl hr)) ?_
        show Gl p.tables e below _ (T690.setTop (mkF m 323 #[sI i0, sI i1, sI i2, sI i3, sI i4, sI 1, sI ca, sI cb, sI cc, s9, sR x, sI (Int32.ofNat po), sR r_536, sI 3, sR b554, sR b681, sU] [(.int (((48 : Int32) + (Int32.ofNat (po / 100 % 10))).toUInt32.toUInt16.toUInt32.toInt32)), (.int (2 : Int32)), (.ref b681)]))
        rw [(own_chr (po / 100))]
        show Gl p.tables e below _ (T690.setTop (mkF m 323 #[sI i0, sI i1, sI i2, sI i3, sI i4, sI 1, sI ca, sI cb, sI cc, s9, sR x, sI (Int32.ofNat po), sR r_536, sI 3, sR b554, sR b681, sU] [(.int (dch (po / 100))), (.int (2 : Int32)), (.ref b681)]))
        obtain ⟨c725, a725, q725, s725, m725, H725, U725⟩ := id V690
        refine gstC Gl.cl X690 hx hZ536 e690 a725 (j := (2 : Int32)) (inb_of s725 ⟨(by decide), (by decide)⟩) rfl rfl (hb hby at_323) ?_
        intro T725 h725 X725 e725 W725
        have z726 : h690.size ≤ h725.size := (Keep.of_wr W725).1
        rw [(dch_narc _)] at W725
        have V725 : Arv Z h725 b681 k681 .char (9 : Int32) [(.int ca), (.int (58 : Int32)), (.int (dch (po / 100))), (.int (0 : Int32)), (.int (0 : Int32)), (.int (0 : Int32)), (.int (0 : Int32)), (.int (0 : Int32)), (.int (0 : Int32))] (.int (0 : Int32)) := Arv.set a725 q725 s725 m725 H725 U725 (dch_fitc _) W725 2 rfl (Nat.le_of_ble_eq_true rfl)
        have N725 := Fr.snoc X725 N690 (own_ale om685)
        refine Gl.go (fun _ hr => zXS_iconst X725.here hx rfl (hb hby at_324) (zXS_iload X725.here hx rfl (hb hby at_325) rfl (zXS_icmpNo X725.here hx rfl (hb hby at_327) rfl (XT.ii_ge_f (by decide)) (zXS_aload X725.here hx rfl (hb hby at_330) rfl rfl (zXS_iload X725.here hx rfl (hb hby at_332) rfl (zXS_iconst X725.here hx rfl (hb hby at_334) (zXS_iadd X725.here hx rfl (hb hby at_335) rfl (zXS_bipush X725.here hx rfl (hb hby at_336) (zXS_aload X725.here hx rfl (hb hby at_338) rfl rfl (zXS_bipush X725.here hx rfl (hb hby at_340) hr)))))))))) ?_
        refine Gl.go (fun _ hr => zXS_iload X725.here hx rfl (hb hby at_342) rfl (zXS_isub X725.here hx rfl (hb hby at_344) rfl hr)) ?_
        have Vc727 := (Vc723.other W725 (own_ane om722))
        obtain ⟨c728, a728, q728, s728, m728, H728, U728⟩ := id Vc727
        have i728 := inb_of s728 (j := (3 : Int32)) ⟨(by decide), (by decide)⟩
        refine g_iaload Gl.cl X725 hx hZ536 e725 a728 i728 (v := (.int (Int32.ofNat (po / 10 % 10)))) (H728.at i728 rfl) rfl rfl (hb hby at_345) ?_
        refine Gl.go (fun _ hr => zXS_iadd X725.here hx rfl (hb hby at_346) rfl (zXT_i2c X725.here hx rfl (hb hby at_347) rfl hr)) ?_
        show Gl p.tables e below _ (T725.setTop (mkF m 348 #[sI i0, sI i1, sI i2, sI i3, sI i4, sI 1, sI ca, sI cb, sI cc, s9, sR x, sI (Int32.ofNat po), sR r_536, sI 3, sR b554, sR b681, sU] [(.int (((48 : Int32) + (Int32.ofNat (po / 10 % 10))).toUInt32.toUInt16.toUInt32.toInt32)), (.int (3 : Int32)), (.ref b681)]))
        rw [(own_chr (po / 10))]
        show Gl p.tables e below _ (T725.setTop (mkF m 348 #[sI i0, sI i1, sI i2, sI i3, sI i4, sI 1, sI ca, sI cb, sI cc, s9, sR x, sI (Int32.ofNat po), sR r_536, sI 3, sR b554, sR b681, sU] [(.int (dch (po / 10))), (.int (3 : Int32)), (.ref b681)]))
        obtain ⟨c729, a729, q729, s729, m729, H729, U729⟩ := id V725
        refine gstC Gl.cl X725 hx hZ536 e725 a729 (j := (3 : Int32)) (inb_of s729 ⟨(by decide), (by decide)⟩) rfl rfl (hb hby at_348) ?_
        intro T729 h729 X729 e729 W729
        have z730 : h725.size ≤ h729.size := (Keep.of_wr W729).1
        rw [(dch_narc _)] at W729
        have V729 : Arv Z h729 b681 k681 .char (9 : Int32) [(.int ca), (.int (58 : Int32)), (.int (dch (po / 100))), (.int (dch (po / 10))), (.int (0 : Int32)), (.int (0 : Int32)), (.int (0 : Int32)), (.int (0 : Int32)), (.int (0 : Int32))] (.int (0 : Int32)) := Arv.set a729 q729 s729 m729 H729 U729 (dch_fitc _) W729 3 rfl (Nat.le_of_ble_eq_true rfl)
        have N729 := Fr.snoc X729 N725 (own_ale om685)
        refine Gl.go (fun _ hr => zXS_iconst X729.here hx rfl (hb hby at_349) (zXS_iload X729.here hx rfl (hb hby at_350) rfl (zXS_icmpNo X729.here hx rfl (hb hby at_352) rfl (XT.ii_ge_f (by decide)) (zXS_aload X729.here hx rfl (hb hby at_355) rfl rfl (zXS_iload X729.here hx rfl (hb hby at_357) rfl (zXS_iconst X729.here hx rfl (hb hby at_359) (zXS_iadd X729.here hx rfl (hb hby at_360) rfl (zXS_bipush X729.here hx rfl (hb hby at_361) (zXS_aload X729.here hx rfl (hb hby at_363) rfl rfl (zXS_bipush X729.here hx rfl (hb hby at_365) hr)))))))))) ?_
        refine Gl.go (fun _ hr => zXS_iload X729.here hx rfl (hb hby at_367) rfl (zXS_isub X729.here hx rfl (hb hby at_369) rfl hr)) ?_
        have Vc731 := (Vc727.other W729 (own_ane om722))
        obtain ⟨c732, a732, q732, s732, m732, H732, U732⟩ := id Vc731
        have i732 := inb_of s732 (j := (4 : Int32)) ⟨(by decide), (by decide)⟩
        refine g_iaload Gl.cl X729 hx hZ536 e729 a732 i732 (v := (.int (Int32.ofNat (po % 10)))) (H732.at i732 rfl) rfl rfl (hb hby at_370) ?_
        refine Gl.go (fun _ hr => zXS_iadd X729.here hx rfl (hb hby at_371) rfl (zXT_i2c X729.here hx rfl (hb hby at_372) rfl hr)) ?_
        show Gl p.tables e below _ (T729.setTop (mkF m 373 #[sI i0, sI i1, sI i2, sI i3, sI i4, sI 1, sI ca, sI cb, sI cc, s9, sR x, sI (Int32.ofNat po), sR r_536, sI 3, sR b554, sR b681, sU] [(.int (((48 : Int32) + (Int32.ofNat (po % 10))).toUInt32.toUInt16.toUInt32.toInt32)), (.int (4 : Int32)), (.ref b681)]))
        rw [(own_chr po)]
        show Gl p.tables e below _ (T729.setTop (mkF m 373 #[sI i0, sI i1, sI i2, sI i3, sI i4, sI 1, sI ca, sI cb, sI cc, s9, sR x, sI (Int32.ofNat po), sR r_536, sI 3, sR b554, sR b681, sU] [(.int (dch po)), (.int (4 : Int32)), (.ref b681)]))
        obtain ⟨c733, a733, q733, s733, m733, H733, U733⟩ := id V729
        refine gstC Gl.cl X729 hx hZ536 e729 a733 (j := (4 : Int32)) (inb_of s733 ⟨(by decide), (by decide)⟩) rfl rfl (hb hby at_373) ?_
        intro T733 h733 X733 e733 W733
        have z734 : h729.size ≤ h733.size := (Keep.of_wr W733).1
        rw [(dch_narc _)] at W733
        have V733 : Arv Z h733 b681 k681 .char (9 : Int32) [(.int ca), (.int (58 : Int32)), (.int (dch (po / 100))), (.int (dch (po / 10))), (.int (dch po)), (.int (0 : Int32)), (.int (0 : Int32)), (.int (0 : Int32)), (.int (0 : Int32))] (.int (0 : Int32)) := Arv.set a733 q733 s733 m733 H733 U733 (dch_fitc _) W733 4 rfl (Nat.le_of_ble_eq_true rfl)
        have N733 := Fr.snoc X733 N729 (own_ale om685)
        refine Gl.go (fun _ hr => zXS_iconst X733.here hx rfl (hb hby at_374) (zXS_iload X733.here hx rfl (hb hby at_375) rfl (zXS_icmpYes X733.here hx rfl (pc0 := 377) (pc' := 399) rfl (hb hby at_377) rfl (XT.ii_ge_t (by decide)) (by decide) (by decide) (zXS_iconst X733.here hx rfl (hb hby at_399) (zXS_iload X733.here hx rfl (hb hby at_400) rfl (zXS_icmpYes X733.here hx rfl (pc0 := 402) (pc' := 424) rfl (hb hby at_402) rfl (XT.ii_ge_t (by decide)) (by decide) (by decide) (zXS_iload X733.here hx rfl (hb hby at_424) rfl (zXS_iconst X733.here hx rfl (hb hby at_426) (zXS_iadd X733.here hx rfl (hb hby at_427) rfl (zXS_iload X733.here hx rfl (hb hby at_428) rfl hr)))))))))) ?_
        refine Gl.go (fun _ hr => zXS_iadd X733.here hx rfl (hb hby at_430) rfl (zXS_istore X733.here hx rfl (hb hby at_431) rfl (l' := #[sI i0, sI i1, sI i2, sI i3, sI i4, sI 1, sI ca, sI cb, sI cc, s9, sR x, sI (Int32.ofNat po), sR r_536, sI 3, sR b554, sR b681, sI 5]) rfl hr)) ?_
        have hto : (naT hs po).length = 5 := by rw [hhs, naT, show digs po = [dch (po / 100), dch (po / 10), dch po] from by rw [digs, if_neg (by omega), if_neg (by omega), if_pos (by omega)]]; rfl
        have om735 : @LE.le Nat instLENat h0.size b528 := by omega
        have om736 : @LE.le Nat instLENat h0.size b554 := by omega
        have Ec737 := ((((((((((((f536_1.ext E554).wr W556).wr W559).wr W561).wr W563).wr W565).ext E681).wr W688).wr W690).wr W725).wr W729).wr W733)
        have om738 : ¬ @Eq Nat r_536 b554 := by omega
        have Fc739 := ((((((((((((f536_2.ext E554).other W556 (Or.inl (own_ane om738))).other W559 (Or.inl (own_ane om738))).other W561 (Or.inl (own_ane om738))).other W563 (Or.inl (own_ane om738))).other W565 (Or.inl (own_ane om738))).ext E681).other W688 (Or.inl (own_ane om683))).other W690 (Or.inl (own_ane om683))).other W725 (Or.inl (own_ane om683))).other W729 (Or.inl (own_ane om683))).other W733 (Or.inl (own_ane om683)))
        have Fc740 := ((((((((((((f536_3.ext E554).other W556 (Or.inl (own_ane om738))).other W559 (Or.inl (own_ane om738))).other W561 (Or.inl (own_ane om738))).other W563 (Or.inl (own_ane om738))).other W565 (Or.inl (own_ane om738))).ext E681).other W688 (Or.inl (own_ane om683))).other W690 (Or.inl (own_ane om683))).other W725 (Or.inl (own_ane om683))).other W729 (Or.inl (own_ane om683))).other W733 (Or.inl (own_ane om683)))
        have om741 : ¬ @Eq Nat t2_536 b554 := by omega
        have Vc742 := ((((((((((((f536_4.ext E554).other W556 (own_ane om741)).other W559 (own_ane om741)).other W561 (own_ane om741)).other W563 (own_ane om741)).other W565 (own_ane om741)).ext E681).other W688 (own_ane om684)).other W690 (own_ane om684)).other W725 (own_ane om684)).other W729 (own_ane om684)).other W733 (own_ane om684))
        exact tB T733 h733 _ T536.vm _ r_536 t2_536 kr_536 N2_536 vs2_536 (naT hs po) b681 k681 ([(.int ca), (.int (58 : Int32)), (.int (dch (po / 100))), (.int (dch (po / 10))), (.int (dch po)), (.int (0 : Int32)), (.int (0 : Int32)), (.int (0 : Int32)), (.int (0 : Int32))]) 5 (sI 1) (sI ca) (sI cb) (sI cc) s9 (sR x) (sI (Int32.ofNat po)) (sI 3) (sR b554) N733 (X733.more (by decide) (by decide)) e733 (((((((((((((((((Keep.refl h0 []).trans Kc all0).ext E528).trans K530 (allS (P := fun x_ => x_ ∈ ([] : List Addr) ∨ h0.size ≤ x_) (Or.inr (own_ale om735)) all0)).trans K536 all0).ext E554).wr W556 (Or.inr (own_ale om736))).wr W559 (Or.inr (own_ale om736))).wr W561 (Or.inr (own_ale om736))).wr W563 (Or.inr (own_ale om736))).wr W565 (Or.inr (own_ale om736))).ext E681).wr W688 (Or.inr (own_ale om686))).wr W690 (Or.inr (own_ale om686))).wr W725 (Or.inr (own_ale om686))).wr W729 (Or.inr (own_ale om686))).wr W733 (Or.inr (own_ale om686))) hS536 (by have q := hk536; omega) hZ536 hown536 Ec737 Fc739 Fc740 Vc742 V733 f536_5 (naT_lat hlatA) hto (by decide) (own_hes (zs := List.replicate 4 (.int 0)) (by rw [hhs, naT, show digs po = [dch (po / 100), dch (po / 10), dch po] from by rw [digs, if_neg (by omega), if_neg (by omega), if_pos (by omega)]]; rfl) hto)
      · rw [hnd]
        show Gl p.tables e below _ (T690.setTop (mkF m 300 #[sI i0, sI i1, sI i2, sI i3, sI i4, sI 1, sI ca, sI cb, sI cc, s9, sR x, sI (Int32.ofNat po), sR r_536, sI 4, sR b554, sR b681, sU] []))
        refine Gl.go (fun _ hr => zXS_iconst X690.here hx rfl (hb hby at_300) (zXS_iload X690.here hx rfl (hb hby at_301) rfl (zXS_icmpNo X690.here hx rfl (hb hby at_303) rfl (XT.ii_ge_f (by decide)) (zXS_aload X690.here hx rfl (hb hby at_306) rfl rfl (zXS_iload X690.here hx rfl (hb hby at_308) rfl (zXS_iconst X690.here hx rfl (hb hby at_310) (zXS_iadd X690.here hx rfl (hb hby at_311) rfl (zXS_bipush X690.here hx rfl (hb hby at_312) (zXS_aload X690.here hx rfl (hb hby at_314) rfl rfl (zXS_iconst X690.here hx rfl (hb hby at_316) hr)))))))))) ?_
        refine Gl.go (fun _ hr => zXS_iload X690.here hx rfl (hb hby at_317) rfl (zXS_isub X690.here hx rfl (hb hby at_319) rfl hr)) ?_
        have om743 : ¬ @Eq Nat b554 b681 := by omega
        have Vc744 := (((V565.ext E681).other W688 (own_ane om743)).other W690 (own_ane om743))
        obtain ⟨c745, a745, q745, s745, m745, H745, U745⟩ := id Vc744
        have i745 := inb_of s745 (j := (1 : Int32)) ⟨(by decide), (by decide)⟩
        refine g_iaload Gl.cl X690 hx hZ536 e690 a745 i745 (v := (.int (Int32.ofNat (po / 1000 % 10)))) (H745.at i745 rfl) rfl rfl (hb hby at_320) ?_
        refine Gl.go (fun _ hr => zXS_iadd X690.here hx rfl (hb hby at_321) rfl (zXT_i2c X690.here hx rfl (hb hby at_322) rfl hr)) ?_
        show Gl p.tables e below _ (T690.setTop (mkF m 323 #[sI i0, sI i1, sI i2, sI i3, sI i4, sI 1, sI ca, sI cb, sI cc, s9, sR x, sI (Int32.ofNat po), sR r_536, sI 4, sR b554, sR b681, sU] [(.int (((48 : Int32) + (Int32.ofNat (po / 1000 % 10))).toUInt32.toUInt16.toUInt32.toInt32)), (.int (2 : Int32)), (.ref b681)]))
        rw [(own_chr (po / 1000))]
        show Gl p.tables e below _ (T690.setTop (mkF m 323 #[sI i0, sI i1, sI i2, sI i3, sI i4, sI 1, sI ca, sI cb, sI cc, s9, sR x, sI (Int32.ofNat po), sR r_536, sI 4, sR b554, sR b681, sU] [(.int (dch (po / 1000))), (.int (2 : Int32)), (.ref b681)]))
        obtain ⟨c746, a746, q746, s746, m746, H746, U746⟩ := id V690
        refine gstC Gl.cl X690 hx hZ536 e690 a746 (j := (2 : Int32)) (inb_of s746 ⟨(by decide), (by decide)⟩) rfl rfl (hb hby at_323) ?_
        intro T746 h746 X746 e746 W746
        have z747 : h690.size ≤ h746.size := (Keep.of_wr W746).1
        rw [(dch_narc _)] at W746
        have V746 : Arv Z h746 b681 k681 .char (9 : Int32) [(.int ca), (.int (58 : Int32)), (.int (dch (po / 1000))), (.int (0 : Int32)), (.int (0 : Int32)), (.int (0 : Int32)), (.int (0 : Int32)), (.int (0 : Int32)), (.int (0 : Int32))] (.int (0 : Int32)) := Arv.set a746 q746 s746 m746 H746 U746 (dch_fitc _) W746 2 rfl (Nat.le_of_ble_eq_true rfl)
        have N746 := Fr.snoc X746 N690 (own_ale om685)
        refine Gl.go (fun _ hr => zXS_iconst X746.here hx rfl (hb hby at_324) (zXS_iload X746.here hx rfl (hb hby at_325) rfl (zXS_icmpNo X746.here hx rfl (hb hby at_327) rfl (XT.ii_ge_f (by decide)) (zXS_aload X746.here hx rfl (hb hby at_330) rfl rfl (zXS_iload X746.here hx rfl (hb hby at_332) rfl (zXS_iconst X746.here hx rfl (hb hby at_334) (zXS_iadd X746.here hx rfl (hb hby at_335) rfl (zXS_bipush X746.here hx rfl (hb hby at_336) (zXS_aload X746.here hx rfl (hb hby at_338) rfl rfl (zXS_bipush X746.here hx rfl (hb hby at_340) hr)))))))))) ?_
        refine Gl.go (fun _ hr => zXS_iload X746.here hx rfl (hb hby at_342) rfl (zXS_isub X746.here hx rfl (hb hby at_344) rfl hr)) ?_
        have Vc748 := (Vc744.other W746 (own_ane om743))
        obtain ⟨c749, a749, q749, s749, m749, H749, U749⟩ := id Vc748
        have i749 := inb_of s749 (j := (2 : Int32)) ⟨(by decide), (by decide)⟩
        refine g_iaload Gl.cl X746 hx hZ536 e746 a749 i749 (v := (.int (Int32.ofNat (po / 100 % 10)))) (H749.at i749 rfl) rfl rfl (hb hby at_345) ?_
        refine Gl.go (fun _ hr => zXS_iadd X746.here hx rfl (hb hby at_346) rfl (zXT_i2c X746.here hx rfl (hb hby at_347) rfl hr)) ?_
        show Gl p.tables e below _ (T746.setTop (mkF m 348 #[sI i0, sI i1, sI i2, sI i3, sI i4, sI 1, sI ca, sI cb, sI cc, s9, sR x, sI (Int32.ofNat po), sR r_536, sI 4, sR b554, sR b681, sU] [(.int (((48 : Int32) + (Int32.ofNat (po / 100 % 10))).toUInt32.toUInt16.toUInt32.toInt32)), (.int (3 : Int32)), (.ref b681)]))
        rw [(own_chr (po / 100))]
        show Gl p.tables e below _ (T746.setTop (mkF m 348 #[sI i0, sI i1, sI i2, sI i3, sI i4, sI 1, sI ca, sI cb, sI cc, s9, sR x, sI (Int32.ofNat po), sR r_536, sI 4, sR b554, sR b681, sU] [(.int (dch (po / 100))), (.int (3 : Int32)), (.ref b681)]))
        obtain ⟨c750, a750, q750, s750, m750, H750, U750⟩ := id V746
        refine gstC Gl.cl X746 hx hZ536 e746 a750 (j := (3 : Int32)) (inb_of s750 ⟨(by decide), (by decide)⟩) rfl rfl (hb hby at_348) ?_
        intro T750 h750 X750 e750 W750
        have z751 : h746.size ≤ h750.size := (Keep.of_wr W750).1
        rw [(dch_narc _)] at W750
        have V750 : Arv Z h750 b681 k681 .char (9 : Int32) [(.int ca), (.int (58 : Int32)), (.int (dch (po / 1000))), (.int (dch (po / 100))), (.int (0 : Int32)), (.int (0 : Int32)), (.int (0 : Int32)), (.int (0 : Int32)), (.int (0 : Int32))] (.int (0 : Int32)) := Arv.set a750 q750 s750 m750 H750 U750 (dch_fitc _) W750 3 rfl (Nat.le_of_ble_eq_true rfl)
        have N750 := Fr.snoc X750 N746 (own_ale om685)
        refine Gl.go (fun _ hr => zXS_iconst X750.here hx rfl (hb hby at_349) (zXS_iload X750.here hx rfl (hb hby at_350) rfl (zXS_icmpNo X750.here hx rfl (hb hby at_352) rfl (XT.ii_ge_f (by decide)) (zXS_aload X750.here hx rfl (hb hby at_355) rfl rfl (zXS_iload X750.here hx rfl (hb hby at_357) rfl (zXS_iconst X750.here hx rfl (hb hby at_359) (zXS_iadd X750.here hx rfl (hb hby at_360) rfl (zXS_bipush X750.here hx rfl (hb hby at_361) (zXS_aload X750.here hx rfl (hb hby at_363) rfl rfl (zXS_bipush X750.here hx rfl (hb hby at_365) hr)))))))))) ?_
        refine Gl.go (fun _ hr => zXS_iload X750.here hx rfl (hb hby at_367) rfl (zXS_isub X750.here hx rfl (hb hby at_369) rfl hr)) ?_
        have Vc752 := (Vc748.other W750 (own_ane om743))
        obtain ⟨c753, a753, q753, s753, m753, H753, U753⟩ := id Vc752
        have i753 := inb_of s753 (j := (3 : Int32)) ⟨(by decide), (by decide)⟩
        refine g_iaload Gl.cl X750 hx hZ536 e750 a753 i753 (v := (.int (Int32.ofNat (po / 10 % 10)))) (H753.at i753 rfl) rfl rfl (hb hby at_370) ?_
        refine Gl.go (fun _ hr => zXS_iadd X750.here hx rfl (hb hby at_371) rfl (zXT_i2c X750.here hx rfl (hb hby at_372) rfl hr)) ?_
        show Gl p.tables e below _ (T750.setTop (mkF m 373 #[sI i0, sI i1, sI i2, sI i3, sI i4, sI 1, sI ca, sI cb, sI cc, s9, sR x, sI (Int32.ofNat po), sR r_536, sI 4, sR b554, sR b681, sU] [(.int (((48 : Int32) + (Int32.ofNat (po / 10 % 10))).toUInt32.toUInt16.toUInt32.toInt32)), (.int (4 : Int32)), (.ref b681)]))
        rw [(own_chr (po / 10))]
        show Gl p.tables e below _ (T750.setTop (mkF m 373 #[sI i0, sI i1, sI i2, sI i3, sI i4, sI 1, sI ca, sI cb, sI cc, s9, sR x, sI (Int32.ofNat po), sR r_536, sI 4, sR b554, sR b681, sU] [(.int (dch (po / 10))), (.int (4 : Int32)), (.ref b681)]))
        obtain ⟨c754, a754, q754, s754, m754, H754, U754⟩ := id V750
        refine gstC Gl.cl X750 hx hZ536 e750 a754 (j := (4 : Int32)) (inb_of s754 ⟨(by decide), (by decide)⟩) rfl rfl (hb hby at_373) ?_
        intro T754 h754 X754 e754 W754
        have z755 : h750.size ≤ h754.size := (Keep.of_wr W754).1
        rw [(dch_narc _)] at W754
        have V754 : Arv Z h754 b681 k681 .char (9 : Int32) [(.int ca), (.int (58 : Int32)), (.int (dch (po / 1000))), (.int (dch (po / 100))), (.int (dch (po / 10))), (.int (0 : Int32)), (.int (0 : Int32)), (.int (0 : Int32)), (.int (0 : Int32))] (.int (0 : Int32)) := Arv.set a754 q754 s754 m754 H754 U754 (dch_fitc _) W754 4 rfl (Nat.le_of_ble_eq_true rfl)
        have N754 := Fr.snoc X754 N750 (own_ale om685)
        refine Gl.go (fun _ hr => zXS_iconst X754.here hx rfl (hb hby at_374) (zXS_iload X754.here hx rfl (hb hby at_375) rfl (zXS_icmpNo X754.here hx rfl (hb hby at_377) rfl (XT.ii_ge_f (by decide)) (zXS_aload X754.here hx rfl (hb hby at_380) rfl rfl (zXS_iload X754.here hx rfl (hb hby at_382) rfl (zXS_iconst X754.here hx rfl (hb hby at_384) (zXS_iadd X754.here hx rfl (hb hby at_385) rfl (zXS_bipush X754.here hx rfl (hb hby at_386) (zXS_aload X754.here hx rfl (hb hby at_388) rfl rfl (zXS_bipush X754.here hx rfl (hb hby at_390) hr)))))))))) ?_
        refine Gl.go (fun _ hr => zXS_iload X754.here hx rfl (hb hby at_392) rfl (zXS_isub X754.here hx rfl (hb hby at_394) rfl hr)) ?_
        have Vc756 := (Vc752.other W754 (own_ane om743))
        obtain ⟨c757, a757, q757, s757, m757, H757, U757⟩ := id Vc756
        have i757 := inb_of s757 (j := (4 : Int32)) ⟨(by decide), (by decide)⟩
        refine g_iaload Gl.cl X754 hx hZ536 e754 a757 i757 (v := (.int (Int32.ofNat (po % 10)))) (H757.at i757 rfl) rfl rfl (hb hby at_395) ?_
        refine Gl.go (fun _ hr => zXS_iadd X754.here hx rfl (hb hby at_396) rfl (zXT_i2c X754.here hx rfl (hb hby at_397) rfl hr)) ?_
        show Gl p.tables e below _ (T754.setTop (mkF m 398 #[sI i0, sI i1, sI i2, sI i3, sI i4, sI 1, sI ca, sI cb, sI cc, s9, sR x, sI (Int32.ofNat po), sR r_536, sI 4, sR b554, sR b681, sU] [(.int (((48 : Int32) + (Int32.ofNat (po % 10))).toUInt32.toUInt16.toUInt32.toInt32)), (.int (5 : Int32)), (.ref b681)]))
        rw [(own_chr po)]
        show Gl p.tables e below _ (T754.setTop (mkF m 398 #[sI i0, sI i1, sI i2, sI i3, sI i4, sI 1, sI ca, sI cb, sI cc, s9, sR x, sI (Int32.ofNat po), sR r_536, sI 4, sR b554, sR b681, sU] [(.int (dch po)), (.int (5 : Int32)), (.ref b681)]))
        obtain ⟨c758, a758, q758, s758, m758, H758, U758⟩ := id V754
        refine gstC Gl.cl X754 hx hZ536 e754 a758 (j := (5 : Int32)) (inb_of s758 ⟨(by decide), (by decide)⟩) rfl rfl (hb hby at_398) ?_
        intro T758 h758 X758 e758 W758
        have z759 : h754.size ≤ h758.size := (Keep.of_wr W758).1
        rw [(dch_narc _)] at W758
        have V758 : Arv Z h758 b681 k681 .char (9 : Int32) [(.int ca), (.int (58 : Int32)), (.int (dch (po / 1000))), (.int (dch (po / 100))), (.int (dch (po / 10))), (.int (dch po)), (.int (0 : Int32)), (.int (0 : Int32)), (.int (0 : Int32))] (.int (0 : Int32)) := Arv.set a758 q758 s758 m758 H758 U758 (dch_fitc _) W758 5 rfl (Nat.le_of_ble_eq_true rfl)
        have N758 := Fr.snoc X758 N754 (own_ale om685)
        refine Gl.go (fun _ hr => zXS_iconst X758.here hx rfl (hb hby at_399) (zXS_iload X758.here hx rfl (hb hby at_400) rfl (zXS_icmpYes X758.here hx rfl (pc0 := 402) (pc' := 424) rfl (hb hby at_402) rfl (XT.ii_ge_t (by decide)) (by decide) (by decide) (zXS_iload X758.here hx rfl (hb hby at_424) rfl (zXS_iconst X758.here hx rfl (hb hby at_426) (zXS_iadd X758.here hx rfl (hb hby at_427) rfl (zXS_iload X758.here hx rfl (hb hby at_428) rfl (zXS_iadd X758.here hx rfl (hb hby at_430) rfl (zXS_istore X758.here hx rfl (hb hby at_431) rfl (l' := #[sI i0, sI i1, sI i2, sI i3, sI i4, sI 1, sI ca, sI cb, sI cc, s9, sR x, sI (Int32.ofNat po), sR r_536, sI 4, sR b554, sR b681, sI 6]) rfl hr))))))))) ?_
        have hto : (naT hs po).length = 6 := by rw [hhs, naT, show digs po = [dch (po / 1000), dch (po / 100), dch (po / 10), dch po] from by rw [digs, if_neg (by omega), if_neg (by omega), if_neg (by omega), if_pos (by omega)]]; rfl
        have om760 : @LE.le Nat instLENat h0.size b528 := by omega
        have om761 : @LE.le Nat instLENat h0.size b554 := by omega
        have Ec762 := (((((((((((((f536_1.ext E554).wr W556).wr W559).wr W561).wr W563).wr W565).ext E681).wr W688).wr W690).wr W746).wr W750).wr W754).wr W758)
        have om763 : ¬ @Eq Nat r_536 b554 := by omega
        have Fc764 := (((((((((((((f536_2.ext E554).other W556 (Or.inl (own_ane om763))).other W559 (Or.inl (own_ane om763))).other W561 (Or.inl (own_ane om763))).other W563 (Or.inl (own_ane om763))).other W565 (Or.inl (own_ane om763))).ext E681).other W688 (Or.inl (own_ane om683))).other W690 (Or.inl (own_ane om683))).other W746 (Or.inl (own_ane om683))).other W750 (Or.inl (own_ane om683))).other W754 (Or.inl (own_ane om683))).other W758 (Or.inl (own_ane om683)))
        have Fc765 := (((((((((((((f536_3.ext E554).other W556 (Or.inl (own_ane om763))).other W559 (Or.inl (own_ane om763))).other W561 (Or.inl (own_ane om763))).other W563 (Or.inl (own_ane om763))).other W565 (Or.inl (own_ane om763))).ext E681).other W688 (Or.inl (own_ane om683))).other W690 (Or.inl (own_ane om683))).other W746 (Or.inl (own_ane om683))).other W750 (Or.inl (own_ane om683))).other W754 (Or.inl (own_ane om683))).other W758 (Or.inl (own_ane om683)))
        have om766 : ¬ @Eq Nat t2_536 b554 := by omega
        have Vc767 := (((((((((((((f536_4.ext E554).other W556 (own_ane om766)).other W559 (own_ane om766)).other W561 (own_ane om766)).other W563 (own_ane om766)).other W565 (own_ane om766)).ext E681).other W688 (own_ane om684)).other W690 (own_ane om684)).other W746 (own_ane om684)).other W750 (own_ane om684)).other W754 (own_ane om684)).other W758 (own_ane om684))
        exact tB T758 h758 _ T536.vm _ r_536 t2_536 kr_536 N2_536 vs2_536 (naT hs po) b681 k681 ([(.int ca), (.int (58 : Int32)), (.int (dch (po / 1000))), (.int (dch (po / 100))), (.int (dch (po / 10))), (.int (dch po)), (.int (0 : Int32)), (.int (0 : Int32)), (.int (0 : Int32))]) 6 (sI 1) (sI ca) (sI cb) (sI cc) s9 (sR x) (sI (Int32.ofNat po)) (sI 4) (sR b554) N758 (X758.more (by decide) (by decide)) e758 ((((((((((((((((((Keep.refl h0 []).trans Kc all0).ext E528).trans K530 (allS (P := fun x_ => x_ ∈ ([] : List Addr) ∨ h0.size ≤ x_) (Or.inr (own_ale om760)) all0)).trans K536 all0).ext E554).wr W556 (Or.inr (own_ale om761))).wr W559 (Or.inr (own_ale om761))).wr W561 (Or.inr (own_ale om761))).wr W563 (Or.inr (own_ale om761))).wr W565 (Or.inr (own_ale om761))).ext E681).wr W688 (Or.inr (own_ale om686))).wr W690 (Or.inr (own_ale om686))).wr W746 (Or.inr (own_ale om686))).wr W750 (Or.inr (own_ale om686))).wr W754 (Or.inr (own_ale om686))).wr W758 (Or.inr (own_ale om686))) hS536 (by have q := hk536; omega) hZ536 hown536 Ec762 Fc764 Fc765 Vc767 V758 f536_5 (naT_lat hlatA) hto (by decide) (own_hes (zs := List.replicate 3 (.int 0)) (by rw [hhs, naT, show digs po = [dch (po / 1000), dch (po / 100), dch (po / 10), dch po] from by rw [digs, if_neg (by omega), if_neg (by omega), if_neg (by omega), if_pos (by omega)]]; rfl) hto)
      · rw [hnd]
        show Gl p.tables e below _ (T690.setTop (mkF m 300 #[sI i0, sI i1, sI i2, sI i3, sI i4, sI 1, sI ca, sI cb, sI cc, s9, sR x, sI (Int32.ofNat po), sR r_536, sI 5, sR b554, sR b681, sU] []))
        refine Gl.go (fun _ hr => zXS_iconst X690.here hx rfl (hb hby at_300) (zXS_iload X690.here hx rfl (hb hby at_301) rfl (zXS_icmpNo X690.here hx rfl (hb hby at_303) rfl (XT.ii_ge_f (by decide)) (zXS_aload X690.here hx rfl (hb hby at_306) rfl rfl (zXS_iload X690.here hx rfl (hb hby at_308) rfl (zXS_iconst X690.here hx rfl (hb hby at_310) (zXS_iadd X690.here hx rfl (hb hby at_311) rfl (zXS_bipush X690.here hx rfl (hb hby at_312) (zXS_aload X690.here hx rfl (hb hby at_314) rfl rfl (zXS_iconst X690.here hx rfl (hb hby at_316) hr)))))))))) ?_
        refine Gl.go (fun _ hr => zXS_iload X690.here hx rfl (hb hby at_317) rfl (zXS_isub X690.here hx rfl (hb hby at_319) rfl hr)) ?_
        have om768 : ¬ @Eq Nat b554 b681 := by omega
        have Vc769 := (((V565.ext E681).other W688 (own_ane om768)).other W690 (own_ane om768))
        obtain ⟨c770, a770, q770, s770, m770, H770, U770⟩ := id Vc769
        have i770 := inb_of s770 (j := (0 : Int32)) ⟨(by decide), (by decide)⟩
        refine g_iaload Gl.cl X690 hx hZ536 e690 a770 i770 (v := (.int (Int32.ofNat (po / 10000 % 10)))) (H770.at i770 rfl) rfl rfl (hb hby at_320) ?_
        refine Gl.go (fun _ hr => zXS_iadd X690.here hx rfl (hb hby at_321) rfl (zXT_i2c X690.here hx rfl (hb hby at_322) rfl hr)) ?_
        show Gl p.tables e below _ (T690.setTop (mkF m 323 #[sI i0, sI i1, sI i2, sI i3, sI i4, sI 1, sI ca, sI cb, sI cc, s9, sR x, sI (Int32.ofNat po), sR r_536, sI 5, sR b554, sR b681, sU] [(.int (((48 : Int32) + (Int32.ofNat (po / 10000 % 10))).toUInt32.toUInt16.toUInt32.toInt32)), (.int (2 : Int32)), (.ref b681)]))
        rw [(own_chr (po / 10000))]
        show Gl p.tables e below _ (T690.setTop (mkF m 323 #[sI i0, sI i1, sI i2, sI i3, sI i4, sI 1, sI ca, sI cb, sI cc, s9, sR x, sI (Int32.ofNat po), sR r_536, sI 5, sR b554, sR b681, sU] [(.int (dch (po / 10000))), (.int (2 : Int32)), (.ref b681)]))
        obtain ⟨c771, a771, q771, s771, m771, H771, U771⟩ := id V690
        refine gstC Gl.cl X690 hx hZ536 e690 a771 (j := (2 : Int32)) (inb_of s771 ⟨(by decide), (by decide)⟩) rfl rfl (hb hby at_323) ?_
        intro T771 h771 X771 e771 W771
        have z772 : h690.size ≤ h771.size := (Keep.of_wr W771).1
        rw [(dch_narc _)] at W771
        have V771 : Arv Z h771 b681 k681 .char (9 : Int32) [(.int ca), (.int (58 : Int32)), (.int (dch (po / 10000))), (.int (0 : Int32)), (.int (0 : Int32)), (.int (0 : Int32)), (.int (0 : Int32)), (.int (0 : Int32)), (.int (0 : Int32))] (.int (0 : Int32)) := Arv.set a771 q771 s771 m771 H771 U771 (dch_fitc _) W771 2 rfl (Nat.le_of_ble_eq_true rfl)
        have N771 := Fr.snoc X771 N690 (own_ale om685)
        refine Gl.go (fun _ hr => zXS_iconst X771.here hx rfl (hb hby at_324) (zXS_iload X771.here hx rfl (hb hby at_325) rfl (zXS_icmpNo X771.here hx rfl (hb hby at_327) rfl (XT.ii_ge_f (by decide)) (zXS_aload X771.here hx rfl (hb hby at_330) rfl rfl (zXS_iload X771.here hx rfl (hb hby at_332) rfl (zXS_iconst X771.here hx rfl (hb hby at_334) (zXS_iadd X771.here hx rfl (hb hby at_335) rfl (zXS_bipush X771.here hx rfl (hb hby at_336) (zXS_aload X771.here hx rfl (hb hby at_338) rfl rfl (zXS_bipush X771.here hx rfl (hb hby at_340) hr)))))))))) ?_
        refine Gl.go (fun _ hr => zXS_iload X771.here hx rfl (hb hby at_342) rfl (zXS_isub X771.here hx rfl (hb hby at_344) rfl hr)) ?_
        have Vc773 := (Vc769.other W771 (own_ane om768))
        obtain ⟨c774, a774, q774, s774, m774, H774, U774⟩ := id Vc773
        have i774 := inb_of s774 (j := (1 : Int32)) ⟨(by decide), (by decide)⟩
        refine g_iaload Gl.cl X771 hx hZ536 e771 a774 i774 (v := (.int (Int32.ofNat (po / 1000 % 10)))) (H774.at i774 rfl) rfl rfl (hb hby at_345) ?_
        refine Gl.go (fun _ hr => zXS_iadd X771.here hx rfl (hb hby at_346) rfl (zXT_i2c X771.here hx rfl (hb hby at_347) rfl hr)) ?_
        show Gl p.tables e below _ (T771.setTop (mkF m 348 #[sI i0, sI i1, sI i2, sI i3, sI i4, sI 1, sI ca, sI cb, sI cc, s9, sR x, sI (Int32.ofNat po), sR r_536, sI 5, sR b554, sR b681, sU] [(.int (((48 : Int32) + (Int32.ofNat (po / 1000 % 10))).toUInt32.toUInt16.toUInt32.toInt32)), (.int (3 : Int32)), (.ref b681)]))
        rw [(own_chr (po / 1000))]
        show Gl p.tables e below _ (T771.setTop (mkF m 348 #[sI i0, sI i1, sI i2, sI i3, sI i4, sI 1, sI ca, sI cb, sI cc, s9, sR x, sI (Int32.ofNat po), sR r_536, sI 5, sR b554, sR b681, sU] [(.int (dch (po / 1000))), (.int (3 : Int32)), (.ref b681)]))
        obtain ⟨c775, a775, q775, s775, m775, H775, U775⟩ := id V771
        refine gstC Gl.cl X771 hx hZ536 e771 a775 (j := (3 : Int32)) (inb_of s775 ⟨(by decide), (by decide)⟩) rfl rfl (hb hby at_348) ?_
        intro T775 h775 X775 e775 W775
        have z776 : h771.size ≤ h775.size := (Keep.of_wr W775).1
        rw [(dch_narc _)] at W775
        have V775 : Arv Z h775 b681 k681 .char (9 : Int32) [(.int ca), (.int (58 : Int32)), (.int (dch (po / 10000))), (.int (dch (po / 1000))), (.int (0 : Int32)), (.int (0 : Int32)), (.int (0 : Int32)), (.int (0 : Int32)), (.int (0 : Int32))] (.int (0 : Int32)) := Arv.set a775 q775 s775 m775 H775 U775 (dch_fitc _) W775 3 rfl (Nat.le_of_ble_eq_true rfl)
        have N775 := Fr.snoc X775 N771 (own_ale om685)
        refine Gl.go (fun _ hr => zXS_iconst X775.here hx rfl (hb hby at_349) (zXS_iload X775.here hx rfl (hb hby at_350) rfl (zXS_icmpNo X775.here hx rfl (hb hby at_352) rfl (XT.ii_ge_f (by decide)) (zXS_aload X775.here hx rfl (hb hby at_355) rfl rfl (zXS_iload X775.here hx rfl (hb hby at_357) rfl (zXS_iconst X775.here hx rfl (hb hby at_359) (zXS_iadd X775.here hx rfl (hb hby at_360) rfl (zXS_bipush X775.here hx rfl (hb hby at_361) (zXS_aload X775.here hx rfl (hb hby at_363) rfl rfl (zXS_bipush X775.here hx rfl (hb hby at_365) hr)))))))))) ?_
        refine Gl.go (fun _ hr => zXS_iload X775.here hx rfl (hb hby at_367) rfl (zXS_isub X775.here hx rfl (hb hby at_369) rfl hr)) ?_
        have Vc777 := (Vc773.other W775 (own_ane om768))
        obtain ⟨c778, a778, q778, s778, m778, H778, U778⟩ := id Vc777
        have i778 := inb_of s778 (j := (2 : Int32)) ⟨(by decide), (by decide)⟩
        refine g_iaload Gl.cl X775 hx hZ536 e775 a778 i778 (v := (.int (Int32.ofNat (po / 100 % 10)))) (H778.at i778 rfl) rfl rfl (hb hby at_370) ?_
        refine Gl.go (fun _ hr => zXS_iadd X775.here hx rfl (hb hby at_371) rfl (zXT_i2c X775.here hx rfl (hb hby at_372) rfl hr)) ?_
        show Gl p.tables e below _ (T775.setTop (mkF m 373 #[sI i0, sI i1, sI i2, sI i3, sI i4, sI 1, sI ca, sI cb, sI cc, s9, sR x, sI (Int32.ofNat po), sR r_536, sI 5, sR b554, sR b681, sU] [(.int (((48 : Int32) + (Int32.ofNat (po / 100 % 10))).toUInt32.toUInt16.toUInt32.toInt32)), (.int (4 : Int32)), (.ref b681)]))
        rw [(own_chr (po / 100))]
        show Gl p.tables e below _ (T775.setTop (mkF m 373 #[sI i0, sI i1, sI i2, sI i3, sI i4, sI 1, sI ca, sI cb, sI cc, s9, sR x, sI (Int32.ofNat po), sR r_536, sI 5, sR b554, sR b681, sU] [(.int (dch (po / 100))), (.int (4 : Int32)), (.ref b681)]))
        obtain ⟨c779, a779, q779, s779, m779, H779, U779⟩ := id V775
        refine gstC Gl.cl X775 hx hZ536 e775 a779 (j := (4 : Int32)) (inb_of s779 ⟨(by decide), (by decide)⟩) rfl rfl (hb hby at_373) ?_
        intro T779 h779 X779 e779 W779
        have z780 : h775.size ≤ h779.size := (Keep.of_wr W779).1
        rw [(dch_narc _)] at W779
        have V779 : Arv Z h779 b681 k681 .char (9 : Int32) [(.int ca), (.int (58 : Int32)), (.int (dch (po / 10000))), (.int (dch (po / 1000))), (.int (dch (po / 100))), (.int (0 : Int32)), (.int (0 : Int32)), (.int (0 : Int32)), (.int (0 : Int32))] (.int (0 : Int32)) := Arv.set a779 q779 s779 m779 H779 U779 (dch_fitc _) W779 4 rfl (Nat.le_of_ble_eq_true rfl)
        have N779 := Fr.snoc X779 N775 (own_ale om685)
        refine Gl.go (fun _ hr => zXS_iconst X779.here hx rfl (hb hby at_374) (zXS_iload X779.here hx rfl (hb hby at_375) rfl (zXS_icmpNo X779.here hx rfl (hb hby at_377) rfl (XT.ii_ge_f (by decide)) (zXS_aload X779.here hx rfl (hb hby at_380) rfl rfl (zXS_iload X779.here hx rfl (hb hby at_382) rfl (zXS_iconst X779.here hx rfl (hb hby at_384) (zXS_iadd X779.here hx rfl (hb hby at_385) rfl (zXS_bipush X779.here hx rfl (hb hby at_386) (zXS_aload X779.here hx rfl (hb hby at_388) rfl rfl (zXS_bipush X779.here hx rfl (hb hby at_390) hr)))))))))) ?_
        refine Gl.go (fun _ hr => zXS_iload X779.here hx rfl (hb hby at_392) rfl (zXS_isub X779.here hx rfl (hb hby at_394) rfl hr)) ?_
        have Vc781 := (Vc777.other W779 (own_ane om768))
        obtain ⟨c782, a782, q782, s782, m782, H782, U782⟩ := id Vc781
        have i782 := inb_of s782 (j := (3 : Int32)) ⟨(by decide), (by decide)⟩
        refine g_iaload Gl.cl X779 hx hZ536 e779 a782 i782 (v := (.int (Int32.ofNat (po / 10 % 10)))) (H782.at i782 rfl) rfl rfl (hb hby at_395) ?_
        refine Gl.go (fun _ hr => zXS_iadd X779.here hx rfl (hb hby at_396) rfl (zXT_i2c X779.here hx rfl (hb hby at_397) rfl hr)) ?_
        show Gl p.tables e below _ (T779.setTop (mkF m 398 #[sI i0, sI i1, sI i2, sI i3, sI i4, sI 1, sI ca, sI cb, sI cc, s9, sR x, sI (Int32.ofNat po), sR r_536, sI 5, sR b554, sR b681, sU] [(.int (((48 : Int32) + (Int32.ofNat (po / 10 % 10))).toUInt32.toUInt16.toUInt32.toInt32)), (.int (5 : Int32)), (.ref b681)]))
        rw [(own_chr (po / 10))]
        show Gl p.tables e below _ (T779.setTop (mkF m 398 #[sI i0, sI i1, sI i2, sI i3, sI i4, sI 1, sI ca, sI cb, sI cc, s9, sR x, sI (Int32.ofNat po), sR r_536, sI 5, sR b554, sR b681, sU] [(.int (dch (po / 10))), (.int (5 : Int32)), (.ref b681)]))
        obtain ⟨c783, a783, q783, s783, m783, H783, U783⟩ := id V779
        refine gstC Gl.cl X779 hx hZ536 e779 a783 (j := (5 : Int32)) (inb_of s783 ⟨(by decide), (by decide)⟩) rfl rfl (hb hby at_398) ?_
        intro T783 h783 X783 e783 W783
        have z784 : h779.size ≤ h783.size := (Keep.of_wr W783).1
        rw [(dch_narc _)] at W783
        have V783 : Arv Z h783 b681 k681 .char (9 : Int32) [(.int ca), (.int (58 : Int32)), (.int (dch (po / 10000))), (.int (dch (po / 1000))), (.int (dch (po / 100))), (.int (dch (po / 10))), (.int (0 : Int32)), (.int (0 : Int32)), (.int (0 : Int32))] (.int (0 : Int32)) := Arv.set a783 q783 s783 m783 H783 U783 (dch_fitc _) W783 5 rfl (Nat.le_of_ble_eq_true rfl)
        have N783 := Fr.snoc X783 N779 (own_ale om685)
        refine Gl.go (fun _ hr => zXS_iconst X783.here hx rfl (hb hby at_399) (zXS_iload X783.here hx rfl (hb hby at_400) rfl (zXS_icmpNo X783.here hx rfl (hb hby at_402) rfl (XT.ii_ge_f (by decide)) (zXS_aload X783.here hx rfl (hb hby at_405) rfl rfl (zXS_iload X783.here hx rfl (hb hby at_407) rfl (zXS_iconst X783.here hx rfl (hb hby at_409) (zXS_iadd X783.here hx rfl (hb hby at_410) rfl (zXS_bipush X783.here hx rfl (hb hby at_411) (zXS_aload X783.here hx rfl (hb hby at_413) rfl rfl (zXS_bipush X783.here hx rfl (hb hby at_415) hr)))))))))) ?_
        refine Gl.go (fun _ hr => zXS_iload X783.here hx rfl (hb hby at_417) rfl (zXS_isub X783.here hx rfl (hb hby at_419) rfl hr)) ?_
        have Vc785 := (Vc781.other W783 (own_ane om768))
        obtain ⟨c786, a786, q786, s786, m786, H786, U786⟩ := id Vc785
        have i786 := inb_of s786 (j := (4 : Int32)) ⟨(by decide), (by decide)⟩
        refine g_iaload Gl.cl X783 hx hZ536 e783 a786 i786 (v := (.int (Int32.ofNat (po % 10)))) (H786.at i786 rfl) rfl rfl (hb hby at_420) ?_
        refine Gl.go (fun _ hr => zXS_iadd X783.here hx rfl (hb hby at_421) rfl (zXT_i2c X783.here hx rfl (hb hby at_422) rfl hr)) ?_
        show Gl p.tables e below _ (T783.setTop (mkF m 423 #[sI i0, sI i1, sI i2, sI i3, sI i4, sI 1, sI ca, sI cb, sI cc, s9, sR x, sI (Int32.ofNat po), sR r_536, sI 5, sR b554, sR b681, sU] [(.int (((48 : Int32) + (Int32.ofNat (po % 10))).toUInt32.toUInt16.toUInt32.toInt32)), (.int (6 : Int32)), (.ref b681)]))
        rw [(own_chr po)]
        show Gl p.tables e below _ (T783.setTop (mkF m 423 #[sI i0, sI i1, sI i2, sI i3, sI i4, sI 1, sI ca, sI cb, sI cc, s9, sR x, sI (Int32.ofNat po), sR r_536, sI 5, sR b554, sR b681, sU] [(.int (dch po)), (.int (6 : Int32)), (.ref b681)]))
        obtain ⟨c787, a787, q787, s787, m787, H787, U787⟩ := id V783
        refine gstC Gl.cl X783 hx hZ536 e783 a787 (j := (6 : Int32)) (inb_of s787 ⟨(by decide), (by decide)⟩) rfl rfl (hb hby at_423) ?_
        intro T787 h787 X787 e787 W787
        have z788 : h783.size ≤ h787.size := (Keep.of_wr W787).1
        rw [(dch_narc _)] at W787
        have V787 : Arv Z h787 b681 k681 .char (9 : Int32) [(.int ca), (.int (58 : Int32)), (.int (dch (po / 10000))), (.int (dch (po / 1000))), (.int (dch (po / 100))), (.int (dch (po / 10))), (.int (dch po)), (.int (0 : Int32)), (.int (0 : Int32))] (.int (0 : Int32)) := Arv.set a787 q787 s787 m787 H787 U787 (dch_fitc _) W787 6 rfl (Nat.le_of_ble_eq_true rfl)
        have N787 := Fr.snoc X787 N783 (own_ale om685)
        refine Gl.go (fun _ hr => zXS_iload X787.here hx rfl (hb hby at_424) rfl (zXS_iconst X787.here hx rfl (hb hby at_426) (zXS_iadd X787.here hx rfl (hb hby at_427) rfl (zXS_iload X787.here hx rfl (hb hby at_428) rfl (zXS_iadd X787.here hx rfl (hb hby at_430) rfl (zXS_istore X787.here hx rfl (hb hby at_431) rfl (l' := #[sI i0, sI i1, sI i2, sI i3, sI i4, sI 1, sI ca, sI cb, sI cc, s9, sR x, sI (Int32.ofNat po), sR r_536, sI 5, sR b554, sR b681, sI 7]) rfl hr)))))) ?_
        have hto : (naT hs po).length = 7 := by rw [hhs, naT, show digs po = [dch (po / 10000), dch (po / 1000), dch (po / 100), dch (po / 10), dch po] from by rw [digs, if_neg (by omega), if_neg (by omega), if_neg (by omega), if_neg (by omega)]]; rfl
        have om789 : @LE.le Nat instLENat h0.size b528 := by omega
        have om790 : @LE.le Nat instLENat h0.size b554 := by omega
        have Ec791 := ((((((((((((((f536_1.ext E554).wr W556).wr W559).wr W561).wr W563).wr W565).ext E681).wr W688).wr W690).wr W771).wr W775).wr W779).wr W783).wr W787)
        have om792 : ¬ @Eq Nat r_536 b554 := by omega
        have Fc793 := ((((((((((((((f536_2.ext E554).other W556 (Or.inl (own_ane om792))).other W559 (Or.inl (own_ane om792))).other W561 (Or.inl (own_ane om792))).other W563 (Or.inl (own_ane om792))).other W565 (Or.inl (own_ane om792))).ext E681).other W688 (Or.inl (own_ane om683))).other W690 (Or.inl (own_ane om683))).other W771 (Or.inl (own_ane om683))).other W775 (Or.inl (own_ane om683))).other W779 (Or.inl (own_ane om683))).other W783 (Or.inl (own_ane om683))).other W787 (Or.inl (own_ane om683)))
        have Fc794 := ((((((((((((((f536_3.ext E554).other W556 (Or.inl (own_ane om792))).other W559 (Or.inl (own_ane om792))).other W561 (Or.inl (own_ane om792))).other W563 (Or.inl (own_ane om792))).other W565 (Or.inl (own_ane om792))).ext E681).other W688 (Or.inl (own_ane om683))).other W690 (Or.inl (own_ane om683))).other W771 (Or.inl (own_ane om683))).other W775 (Or.inl (own_ane om683))).other W779 (Or.inl (own_ane om683))).other W783 (Or.inl (own_ane om683))).other W787 (Or.inl (own_ane om683)))
        have om795 : ¬ @Eq Nat t2_536 b554 := by omega
        have Vc796 := ((((((((((((((f536_4.ext E554).other W556 (own_ane om795)).other W559 (own_ane om795)).other W561 (own_ane om795)).other W563 (own_ane om795)).other W565 (own_ane om795)).ext E681).other W688 (own_ane om684)).other W690 (own_ane om684)).other W771 (own_ane om684)).other W775 (own_ane om684)).other W779 (own_ane om684)).other W783 (own_ane om684)).other W787 (own_ane om684))
        exact tB T787 h787 _ T536.vm _ r_536 t2_536 kr_536 N2_536 vs2_536 (naT hs po) b681 k681 ([(.int ca), (.int (58 : Int32)), (.int (dch (po / 10000))), (.int (dch (po / 1000))), (.int (dch (po / 100))), (.int (dch (po / 10))), (.int (dch po)), (.int (0 : Int32)), (.int (0 : Int32))]) 7 (sI 1) (sI ca) (sI cb) (sI cc) s9 (sR x) (sI (Int32.ofNat po)) (sI 5) (sR b554) N787 (X787.more (by decide) (by decide)) e787 (((((((((((((((((((Keep.refl h0 []).trans Kc all0).ext E528).trans K530 (allS (P := fun x_ => x_ ∈ ([] : List Addr) ∨ h0.size ≤ x_) (Or.inr (own_ale om789)) all0)).trans K536 all0).ext E554).wr W556 (Or.inr (own_ale om790))).wr W559 (Or.inr (own_ale om790))).wr W561 (Or.inr (own_ale om790))).wr W563 (Or.inr (own_ale om790))).wr W565 (Or.inr (own_ale om790))).ext E681).wr W688 (Or.inr (own_ale om686))).wr W690 (Or.inr (own_ale om686))).wr W771 (Or.inr (own_ale om686))).wr W775 (Or.inr (own_ale om686))).wr W779 (Or.inr (own_ale om686))).wr W783 (Or.inr (own_ale om686))).wr W787 (Or.inr (own_ale om686))) hS536 (by have q := hk536; omega) hZ536 hown536 Ec791 Fc793 Fc794 Vc796 V787 f536_5 (naT_lat hlatA) hto (by decide) (own_hes (zs := List.replicate 2 (.int 0)) (by rw [hhs, naT, show digs po = [dch (po / 10000), dch (po / 1000), dch (po / 100), dch (po / 10), dch po] from by rw [digs, if_neg (by omega), if_neg (by omega), if_neg (by omega), if_neg (by omega)]]; rfl) hto)
    · show Gl p.tables e below _ (T565.setTop (mkF m 252 #[sI i0, sI i1, sI i2, sI i3, sI i4, sI 2, sI ca, sI cb, sI cc, s9, sR x, sI (Int32.ofNat po), sR r_536, sI (Int32.ofNat (nd po)), sR b554, sU, sU] []))
      refine Gl.go (fun _ hr => zXS_bipush X565.here hx rfl (hb hby at_252) hr) ?_
      refine gNewP Gl.cl X565 hx hZ536 (tw hw 0 rfl) e565 rfl (hb hby at_254) rfl (by decide) (cap := 9) (by decide) (by decide) (by decide) (by decide) ?_
      intro T797 h797 b797 k797 g797 X797 e797 E797 A797
      have z798 : h565.size ≤ h797.size := E797.1
      have lt797 := own_alt A797.lt
      have V797 : Arv Z h797 b797 k797 .char (9 : Int32) [(.int (0 : Int32)), (.int (0 : Int32)), (.int (0 : Int32)), (.int (0 : Int32)), (.int (0 : Int32)), (.int (0 : Int32)), (.int (0 : Int32)), (.int (0 : Int32)), (.int (0 : Int32))] (.int (0 : Int32)) := (Arv.new A797 (by decide)).pad (pad_rep [] (.int (0 : Int32)) 9)
      refine Gl.go (fun _ hr => zXS_astore X797.here hx rfl (hb hby at_256) rfl rfl (l' := #[sI i0, sI i1, sI i2, sI i3, sI i4, sI 2, sI ca, sI cb, sI cc, s9, sR x, sI (Int32.ofNat po), sR r_536, sI (Int32.ofNat (nd po)), sR b554, sR b797, sU]) rfl hr) ?_
      have om799 : ¬ @Eq Nat r_536 b797 := by omega
      have om800 : ¬ @Eq Nat t2_536 b797 := by omega
      have om801 : @LE.le Nat instLENat n0 b797 := by omega
      have om802 : @LE.le Nat instLENat h0.size b797 := by omega
      have om803 : @LE.le Nat instLENat Z.heap.size b797 := by omega
      refine Gl.go (fun _ hr => zXS_iload X797.here hx rfl (hb hby at_258) rfl (zXS_ifNo X797.here hx rfl (hb hby at_260) rfl (XT.i0_le_f (by decide)) (zXS_aload X797.here hx rfl (hb hby at_263) rfl rfl (zXS_iconst X797.here hx rfl (hb hby at_265) (zXS_iload X797.here hx rfl (hb hby at_266) rfl hr))))) ?_
      obtain ⟨c804, a804, q804, s804, m804, H804, U804⟩ := id V797
      refine gstC Gl.cl X797 hx hZ536 e797 a804 (j := (0 : Int32)) (inb_of s804 ⟨(by decide), (by decide)⟩) rfl rfl (hb hby at_268) ?_
      intro T804 h804 X804 e804 W804
      have z805 : h797.size ≤ h804.size := (Keep.of_wr W804).1
      rw [hca.2] at W804
      have V804 : Arv Z h804 b797 k797 .char (9 : Int32) [(.int ca), (.int (0 : Int32)), (.int (0 : Int32)), (.int (0 : Int32)), (.int (0 : Int32)), (.int (0 : Int32)), (.int (0 : Int32)), (.int (0 : Int32)), (.int (0 : Int32))] (.int (0 : Int32)) := Arv.set a804 q804 s804 m804 H804 U804 (own_fitn hca.2) W804 0 rfl (Nat.le_of_ble_eq_true rfl)
      have N804 := Fr.snoc X804 N565 (own_ale om801)
      refine Gl.go (fun _ hr => zXS_iload X804.here hx rfl (hb hby at_269) rfl (zXS_iconst X804.here hx rfl (hb hby at_271) (zXS_icmpNo X804.here hx rfl (hb hby at_272) rfl (XT.ii_le_f (by decide)) (zXS_aload X804.here hx rfl (hb hby at_275) rfl rfl (zXS_iconst X804.here hx rfl (hb hby at_277) (zXS_iload X804.here hx rfl (hb hby at_278) rfl hr)))))) ?_
      obtain ⟨c806, a806, q806, s806, m806, H806, U806⟩ := id V804
      refine gstC Gl.cl X804 hx hZ536 e804 a806 (j := (1 : Int32)) (inb_of s806 ⟨(by decide), (by decide)⟩) rfl rfl (hb hby at_280) ?_
      intro T806 h806 X806 e806 W806
      have z807 : h804.size ≤ h806.size := (Keep.of_wr W806).1
      rw [hcb.2] at W806
      have V806 : Arv Z h806 b797 k797 .char (9 : Int32) [(.int ca), (.int cb), (.int (0 : Int32)), (.int (0 : Int32)), (.int (0 : Int32)), (.int (0 : Int32)), (.int (0 : Int32)), (.int (0 : Int32)), (.int (0 : Int32))] (.int (0 : Int32)) := Arv.set a806 q806 s806 m806 H806 U806 (own_fitn hcb.2) W806 1 rfl (Nat.le_of_ble_eq_true rfl)
      have N806 := Fr.snoc X806 N804 (own_ale om801)
      refine Gl.go (fun _ hr => zXS_iload X806.here hx rfl (hb hby at_281) rfl (zXS_iconst X806.here hx rfl (hb hby at_283) (zXS_icmpYes X806.here hx rfl (pc0 := 284) (pc' := 293) rfl (hb hby at_284) rfl (XT.ii_le_t (by decide)) (by decide) (by decide) (zXS_aload X806.here hx rfl (hb hby at_293) rfl rfl (zXS_iload X806.here hx rfl (hb hby at_295) rfl (zXS_bipush X806.here hx rfl (hb hby at_297) hr)))))) ?_
      obtain ⟨c808, a808, q808, s808, m808, H808, U808⟩ := id V806
      refine gstC Gl.cl X806 hx hZ536 e806 a808 (j := (2 : Int32)) (inb_of s808 ⟨(by decide), (by decide)⟩) rfl rfl (hb hby at_299) ?_
      intro T808 h808 X808 e808 W808
      have z809 : h806.size ≤ h808.size := (Keep.of_wr W808).1
      have V808 : Arv Z h808 b797 k797 .char (9 : Int32) [(.int ca), (.int cb), (.int (58 : Int32)), (.int (0 : Int32)), (.int (0 : Int32)), (.int (0 : Int32)), (.int (0 : Int32)), (.int (0 : Int32)), (.int (0 : Int32))] (.int (0 : Int32)) := Arv.set a808 q808 s808 m808 H808 U808 rfl W808 2 rfl (Nat.le_of_ble_eq_true rfl)
      have N808 := Fr.snoc X808 N806 (own_ale om801)
      show Gl p.tables e below _ (T808.setTop (mkF m 300 #[sI i0, sI i1, sI i2, sI i3, sI i4, sI 2, sI ca, sI cb, sI cc, s9, sR x, sI (Int32.ofNat po), sR r_536, sI (Int32.ofNat (nd po)), sR b554, sR b797, sU] []))
      rcases own_five po with ⟨hb1, hnd⟩ | ⟨hb1, hnd⟩ | ⟨hb1, hnd⟩ | ⟨hb1, hnd⟩ | ⟨hb1, hnd⟩
      · rw [hnd]
        show Gl p.tables e below _ (T808.setTop (mkF m 300 #[sI i0, sI i1, sI i2, sI i3, sI i4, sI 2, sI ca, sI cb, sI cc, s9, sR x, sI (Int32.ofNat po), sR r_536, sI 1, sR b554, sR b797, sU] []))
        refine Gl.go (fun _ hr => zXS_iconst X808.here hx rfl (hb hby at_300) (zXS_iload X808.here hx rfl (hb hby at_301) rfl (zXS_icmpNo X808.here hx rfl (hb hby at_303) rfl (XT.ii_ge_f (by decide)) (zXS_aload X808.here hx rfl (hb hby at_306) rfl rfl (zXS_iload X808.here hx rfl (hb hby at_308) rfl (zXS_iconst X808.here hx rfl (hb hby at_310) (zXS_iadd X808.here hx rfl (hb hby at_311) rfl (zXS_bipush X808.here hx rfl (hb hby at_312) (zXS_aload X808.here hx rfl (hb hby at_314) rfl rfl (zXS_iconst X808.here hx rfl (hb hby at_316) hr)))))))))) ?_
        refine Gl.go (fun _ hr => zXS_iload X808.here hx rfl (hb hby at_317) rfl (zXS_isub X808.here hx rfl (hb hby at_319) rfl hr)) ?_
        have om810 : ¬ @Eq Nat b554 b797 := by omega
        have Vc811 := ((((V565.ext E797).other W804 (own_ane om810)).other W806 (own_ane om810)).other W808 (own_ane om810))
        obtain ⟨c812, a812, q812, s812, m812, H812, U812⟩ := id Vc811
        have i812 := inb_of s812 (j := (4 : Int32)) ⟨(by decide), (by decide)⟩
        refine g_iaload Gl.cl X808 hx hZ536 e808 a812 i812 (v := (.int (Int32.ofNat (po % 10)))) (H812.at i812 rfl) rfl rfl (hb hby at_320) ?_
        refine Gl.go (fun _ hr => zXS_iadd X808.here hx rfl (hb hby at_321) rfl (zXT_i2c X808.here hx rfl (hb hby at_322) rfl hr)) ?_
        show Gl p.tables e below _ (T808.setTop (mkF m 323 #[sI i0, sI i1, sI i2, sI i3, sI i4, sI 2, sI ca, sI cb, sI cc, s9, sR x, sI (Int32.ofNat po), sR r_536, sI 1, sR b554, sR b797, sU] [(.int (((48 : Int32) + (Int32.ofNat (po % 10))).toUInt32.toUInt16.toUInt32.toInt32)), (.int (3 : Int32)), (.ref b797)]))
        rw [(own_chr po)]
        show Gl p.tables e below _ (T808.setTop (mkF m 323 #[sI i0, sI i1, sI i2, sI i3, sI i4, sI 2, sI ca, sI cb, sI cc, s9, sR x, sI (Int32.ofNat po), sR r_536, sI 1, sR b554, sR b797, sU] [(.int (dch po)), (.int (3 : Int32)), (.ref b797)]))
        obtain ⟨c813, a813, q813, s813, m813, H813, U813⟩ := id V808
        refine gstC Gl.cl X808 hx hZ536 e808 a813 (j := (3 : Int32)) (inb_of s813 ⟨(by decide), (by decide)⟩) rfl rfl (hb hby at_323) ?_
        intro T813 h813 X813 e813 W813
        have z814 : h808.size ≤ h813.size := (Keep.of_wr W813).1
        rw [(dch_narc _)] at W813
        have V813 : Arv Z h813 b797 k797 .char (9 : Int32) [(.int ca), (.int cb), (.int (58 : Int32)), (.int (dch po)), (.int (0 : Int32)), (.int (0 : Int32)), (.int (0 : Int32)), (.int (0 : Int32)), (.int (0 : Int32))] (.int (0 : Int32)) := Arv.set a813 q813 s813 m813 H813 U813 (dch_fitc _) W813 3 rfl (Nat.le_of_ble_eq_true rfl)
        have N813 := Fr.snoc X813 N808 (own_ale om801)
        refine Gl.go (fun _ hr => zXS_iconst X813.here hx rfl (hb hby at_324) (zXS_iload X813.here hx rfl (hb hby at_325) rfl (zXS_icmpYes X813.here hx rfl (pc0 := 327) (pc' := 349) rfl (hb hby at_327) rfl (XT.ii_ge_t (by decide)) (by decide) (by decide) (zXS_iconst X813.here hx rfl (hb hby at_349) (zXS_iload X813.here hx rfl (hb hby at_350) rfl (zXS_icmpYes X813.here hx rfl (pc0 := 352) (pc' := 374) rfl (hb hby at_352) rfl (XT.ii_ge_t (by decide)) (by decide) (by decide) (zXS_iconst X813.here hx rfl (hb hby at_374) (zXS_iload X813.here hx rfl (hb hby at_375) rfl (zXS_icmpYes X813.here hx rfl (pc0 := 377) (pc' := 399) rfl (hb hby at_377) rfl (XT.ii_ge_t (by decide)) (by decide) (by decide) (zXS_iconst X813.here hx rfl (hb hby at_399) hr)))))))))) ?_
        refine Gl.go (fun _ hr => zXS_iload X813.here hx rfl (hb hby at_400) rfl (zXS_icmpYes X813.here hx rfl (pc0 := 402) (pc' := 424) rfl (hb hby at_402) rfl (XT.ii_ge_t (by decide)) (by decide) (by decide) (zXS_iload X813.here hx rfl (hb hby at_424) rfl (zXS_iconst X813.here hx rfl (hb hby at_426) (zXS_iadd X813.here hx rfl (hb hby at_427) rfl (zXS_iload X813.here hx rfl (hb hby at_428) rfl (zXS_iadd X813.here hx rfl (hb hby at_430) rfl (zXS_istore X813.here hx rfl (hb hby at_431) rfl (l' := #[sI i0, sI i1, sI i2, sI i3, sI i4, sI 2, sI ca, sI cb, sI cc, s9, sR x, sI (Int32.ofNat po), sR r_536, sI 1, sR b554, sR b797, sI 4]) rfl hr)))))))) ?_
        have hto : (naT hs po).length = 4 := by rw [hhs, naT, show digs po = [dch po] from by rw [digs, if_pos (by omega)]]; rfl
        have om815 : @LE.le Nat instLENat h0.size b528 := by omega
        have om816 : @LE.le Nat instLENat h0.size b554 := by omega
        have Ec817 := (((((((((((f536_1.ext E554).wr W556).wr W559).wr W561).wr W563).wr W565).ext E797).wr W804).wr W806).wr W808).wr W813)
        have om818 : ¬ @Eq Nat r_536 b554 := by omega
        have Fc819 := (((((((((((f536_2.ext E554).other W556 (Or.inl (own_ane om818))).other W559 (Or.inl (own_ane om818))).other W561 (Or.inl (own_ane om818))).other W563 (Or.inl (own_ane om818))).other W565 (Or.inl (own_ane om818))).ext E797).other W804 (Or.inl (own_ane om799))).other W806 (Or.inl (own_ane om799))).other W808 (Or.inl (own_ane om799))).other W813 (Or.inl (own_ane om799)))
        have Fc820 := (((((((((((f536_3.ext E554).other W556 (Or.inl (own_ane om818))).other W559 (Or.inl (own_ane om818))).other W561 (Or.inl (own_ane om818))).other W563 (Or.inl (own_ane om818))).other W565 (Or.inl (own_ane om818))).ext E797).other W804 (Or.inl (own_ane om799))).other W806 (Or.inl (own_ane om799))).other W808 (Or.inl (own_ane om799))).other W813 (Or.inl (own_ane om799)))
        have om821 : ¬ @Eq Nat t2_536 b554 := by omega
        have Vc822 := (((((((((((f536_4.ext E554).other W556 (own_ane om821)).other W559 (own_ane om821)).other W561 (own_ane om821)).other W563 (own_ane om821)).other W565 (own_ane om821)).ext E797).other W804 (own_ane om800)).other W806 (own_ane om800)).other W808 (own_ane om800)).other W813 (own_ane om800))
        exact tB T813 h813 _ T536.vm _ r_536 t2_536 kr_536 N2_536 vs2_536 (naT hs po) b797 k797 ([(.int ca), (.int cb), (.int (58 : Int32)), (.int (dch po)), (.int (0 : Int32)), (.int (0 : Int32)), (.int (0 : Int32)), (.int (0 : Int32)), (.int (0 : Int32))]) 4 (sI 2) (sI ca) (sI cb) (sI cc) s9 (sR x) (sI (Int32.ofNat po)) (sI 1) (sR b554) N813 (X813.more (by decide) (by decide)) e813 ((((((((((((((((Keep.refl h0 []).trans Kc all0).ext E528).trans K530 (allS (P := fun x_ => x_ ∈ ([] : List Addr) ∨ h0.size ≤ x_) (Or.inr (own_ale om815)) all0)).trans K536 all0).ext E554).wr W556 (Or.inr (own_ale om816))).wr W559 (Or.inr (own_ale om816))).wr W561 (Or.inr (own_ale om816))).wr W563 (Or.inr (own_ale om816))).wr W565 (Or.inr (own_ale om816))).ext E797).wr W804 (Or.inr (own_ale om802))).wr W806 (Or.inr (own_ale om802))).wr W808 (Or.inr (own_ale om802))).wr W813 (Or.inr (own_ale om802))) hS536 (by have q := hk536; omega) hZ536 hown536 Ec817 Fc819 Fc820 Vc822 V813 f536_5 (naT_lat hlatA) hto (by decide) (own_hes (zs := List.replicate 5 (.int 0)) (by rw [hhs, naT, show digs po = [dch po] from by rw [digs, if_pos (by omega)]]; rfl) hto)
      · rw [hnd]
        show Gl p.tables e below _ (T808.setTop (mkF m 300 #[sI i0, sI i1, sI i2, sI i3, sI i4, sI 2, sI ca, sI cb, sI cc, s9, sR x, sI (Int32.ofNat po), sR r_536, sI 2, sR b554, sR b797, sU] []))
        refine Gl.go (fun _ hr => zXS_iconst X808.here hx rfl (hb hby at_300) (zXS_iload X808.here hx rfl (hb hby at_301) rfl (zXS_icmpNo X808.here hx rfl (hb hby at_303) rfl (XT.ii_ge_f (by decide)) (zXS_aload X808.here hx rfl (hb hby at_306) rfl rfl (zXS_iload X808.here hx rfl (hb hby at_308) rfl (zXS_iconst X808.here hx rfl (hb hby at_310) (zXS_iadd X808.here hx rfl (hb hby at_311) rfl (zXS_bipush X808.here hx rfl (hb hby at_312) (zXS_aload X808.here hx rfl (hb hby at_314) rfl rfl (zXS_iconst X808.here hx rfl (hb hby at_316) hr)))))))))) ?_
        refine Gl.go (fun _ hr => zXS_iload X808.here hx rfl (hb hby at_317) rfl (zXS_isub X808.here hx rfl (hb hby at_319) rfl hr)) ?_
        have om823 : ¬ @Eq Nat b554 b797 := by omega
        have Vc824 := ((((V565.ext E797).other W804 (own_ane om823)).other W806 (own_ane om823)).other W808 (own_ane om823))
        obtain ⟨c825, a825, q825, s825, m825, H825, U825⟩ := id Vc824
        have i825 := inb_of s825 (j := (3 : Int32)) ⟨(by decide), (by decide)⟩
        refine g_iaload Gl.cl X808 hx hZ536 e808 a825 i825 (v := (.int (Int32.ofNat (po / 10 % 10)))) (H825.at i825 rfl) rfl rfl (hb hby at_320) ?_
        refine Gl.go (fun _ hr => zXS_iadd X808.here hx rfl (hb hby at_321) rfl (zXT_i2c X808.here hx rfl (hb hby at_322) rfl hr)) ?_
        show Gl p.tables e below _ (T808.setTop (mkF m 323 #[sI i0, sI i1, sI i2, sI i3, sI i4, sI 2, sI ca, sI cb, sI cc, s9, sR x, sI (Int32.ofNat po), sR r_536, sI 2, sR b554, sR b797, sU] [(.int (((48 : Int32) + (Int32.ofNat (po / 10 % 10))).toUInt32.toUInt16.toUInt32.toInt32)), (.int (3 : Int32)), (.ref b797)]))
        rw [(own_chr (po / 10))]
        show Gl p.tables e below _ (T808.setTop (mkF m 323 #[sI i0, sI i1, sI i2, sI i3, sI i4, sI 2, sI ca, sI cb, sI cc, s9, sR x, sI (Int32.ofNat po), sR r_536, sI 2, sR b554, sR b797, sU] [(.int (dch (po / 10))), (.int (3 : Int32)), (.ref b797)]))
        obtain ⟨c826, a826, q826, s826, m826, H826, U826⟩ := id V808
        refine gstC Gl.cl X808 hx hZ536 e808 a826 (j := (3 : Int32)) (inb_of s826 ⟨(by decide), (by decide)⟩) rfl rfl (hb hby at_323) ?_
        intro T826 h826 X826 e826 W826
        have z827 : h808.size ≤ h826.size := (Keep.of_wr W826).1
        rw [(dch_narc _)] at W826
        have V826 : Arv Z h826 b797 k797 .char (9 : Int32) [(.int ca), (.int cb), (.int (58 : Int32)), (.int (dch (po / 10))), (.int (0 : Int32)), (.int (0 : Int32)), (.int (0 : Int32)), (.int (0 : Int32)), (.int (0 : Int32))] (.int (0 : Int32)) := Arv.set a826 q826 s826 m826 H826 U826 (dch_fitc _) W826 3 rfl (Nat.le_of_ble_eq_true rfl)
        have N826 := Fr.snoc X826 N808 (own_ale om801)
        refine Gl.go (fun _ hr => zXS_iconst X826.here hx rfl (hb hby at_324) (zXS_iload X826.here hx rfl (hb hby at_325) rfl (zXS_icmpNo X826.here hx rfl (hb hby at_327) rfl (XT.ii_ge_f (by decide)) (zXS_aload X826.here hx rfl (hb hby at_330) rfl rfl (zXS_iload X826.here hx rfl (hb hby at_332) rfl (zXS_iconst X826.here hx rfl (hb hby at_334) (zXS_iadd X826.here hx rfl (hb hby at_335) rfl (zXS_bipush X826.here hx rfl (hb hby at_336) (zXS_aload X826.here hx rfl (hb hby at_338) rfl rfl (zXS_bipush X826.here hx rfl (hb hby at_340) hr)))))))))) ?_
        refine Gl.go (fun _ hr => zXS_iload X826.here hx rfl (hb hby at_342) rfl (zXS_isub X826.here hx rfl (hb hby at_344) rfl hr)) ?_
        have Vc828 := (Vc824.other W826 (own_ane om823))
        obtain ⟨c829, a829, q829, s829, m829, H829, U829⟩ := id Vc828
        have i829 := inb_of s829 (j := (4 : Int32)) ⟨(by decide), (by decide)⟩
        refine g_iaload Gl.cl X826 hx hZ536 e826 a829 i829 (v := (.int (Int32.ofNat (po % 10)))) (H829.at i829 rfl) rfl rfl (hb hby at_345) ?_
        refine Gl.go (fun _ hr => zXS_iadd X826.here hx rfl (hb hby at_346) rfl (zXT_i2c X826.here hx rfl (hb hby at_347) rfl hr)) ?_
        show Gl p.tables e below _ (T826.setTop (mkF m 348 #[sI i0, sI i1, sI i2, sI i3, sI i4, sI 2, sI ca, sI cb, sI cc, s9, sR x, sI (Int32.ofNat po), sR r_536, sI 2, sR b554, sR b797, sU] [(.int (((48 : Int32) + (Int32.ofNat (po % 10))).toUInt32.toUInt16.toUInt32.toInt32)), (.int (4 : Int32)), (.ref b797)]))
        rw [(own_chr po)]
        show Gl p.tables e below _ (T826.setTop (mkF m 348 #[sI i0, sI i1, sI i2, sI i3, sI i4, sI 2, sI ca, sI cb, sI cc, s9, sR x, sI (Int32.ofNat po), sR r_536, sI 2, sR b554, sR b797, sU] [(.int (dch po)), (.int (4 : Int32)), (.ref b797)]))
        obtain ⟨c830, a830, q830, s830, m830, H830, U830⟩ := id V826
        refine gstC Gl.cl X826 hx hZ536 e826 a830 (j := (4 : Int32)) (inb_of s830 ⟨(by decide), (by decide)⟩) rfl rfl (hb hby at_348) ?_
        intro T830 h830 X830 e830 W830
        have z831 : h826.size ≤ h830.size := (Keep.of_wr W830).1
        rw [(dch_narc _)] at W830
        have V830 : Arv Z h830 b797 k797 .char (9 : Int32) [(.int ca), (.int cb), (.int (58 : Int32)), (.int (dch (po / 10))), (.int (dch po)), (.int (0 : Int32)), (.int (0 : Int32)), (.int (0 : Int32)), (.int (0 : Int32))] (.int (0 : Int32)) := Arv.set a830 q830 s830 m830 H830 U830 (dch_fitc _) W830 4 rfl (Nat.le_of_ble_eq_true rfl)
        have N830 := Fr.snoc X830 N826 (own_ale om801)
        refine Gl.go (fun _ hr => zXS_iconst X830.here hx rfl (hb hby at_349) (zXS_iload X830.here hx rfl (hb hby at_350) rfl (zXS_icmpYes X830.here hx rfl (pc0 := 352) (pc' := 374) rfl (hb hby at_352) rfl (XT.ii_ge_t (by decide)) (by decide) (by decide) (zXS_iconst X830.here hx rfl (hb hby at_374) (zXS_iload X830.here hx rfl (hb hby at_375) rfl (zXS_icmpYes X830.here hx rfl (pc0 := 377) (pc' := 399) rfl (hb hby at_377) rfl (XT.ii_ge_t (by decide)) (by decide) (by decide) (zXS_iconst X830.here hx rfl (hb hby at_399) (zXS_iload X830.here hx rfl (hb hby at_400) rfl (zXS_icmpYes X830.here hx rfl (pc0 := 402) (pc' := 424) rfl (hb hby at_402) rfl (XT.ii_ge_t (by decide)) (by decide) (by decide) (zXS_iload X830.here hx rfl (hb hby at_424) rfl hr)))))))))) ?_
        refine Gl.go (fun _ hr => zXS_iconst X830.here hx rfl (hb hby at_426) (zXS_iadd X830.here hx rfl (hb hby at_427) rfl (zXS_iload X830.here hx rfl (hb hby at_428) rfl (zXS_iadd X830.here hx rfl (hb hby at_430) rfl (zXS_istore X830.here hx rfl (hb hby at_431) rfl (l' := #[sI i0, sI i1, sI i2, sI i3, sI i4, sI 2, sI ca, sI cb, sI cc, s9, sR x, sI (Int32.ofNat po), sR r_536, sI 2, sR b554, sR b797, sI 5]) rfl hr))))) ?_
        have hto : (naT hs po).length = 5 := by rw [hhs, naT, show digs po = [dch (po / 10), dch po] from by rw [digs, if_neg (by omega), if_pos (by omega)]]; rfl
        have om832 : @LE.le Nat instLENat h0.size b528 := by omega
        have om833 : @LE.le Nat instLENat h0.size b554 := by omega
        have Ec834 := ((((((((((((f536_1.ext E554).wr W556).wr W559).wr W561).wr W563).wr W565).ext E797).wr W804).wr W806).wr W808).wr W826).wr W830)
        have om835 : ¬ @Eq Nat r_536 b554 := by omega
        have Fc836 := ((((((((((((f536_2.ext E554).other W556 (Or.inl (own_ane om835))).other W559 (Or.inl (own_ane om835))).other W561 (Or.inl (own_ane om835))).other W563 (Or.inl (own_ane om835))).other W565 (Or.inl (own_ane om835))).ext E797).other W804 (Or.inl (own_ane om799))).other W806 (Or.inl (own_ane om799))).other W808 (Or.inl (own_ane om799))).other W826 (Or.inl (own_ane om799))).other W830 (Or.inl (own_ane om799)))
        have Fc837 := ((((((((((((f536_3.ext E554).other W556 (Or.inl (own_ane om835))).other W559 (Or.inl (own_ane om835))).other W561 (Or.inl (own_ane om835))).other W563 (Or.inl (own_ane om835))).other W565 (Or.inl (own_ane om835))).ext E797).other W804 (Or.inl (own_ane om799))).other W806 (Or.inl (own_ane om799))).other W808 (Or.inl (own_ane om799))).other W826 (Or.inl (own_ane om799))).other W830 (Or.inl (own_ane om799)))
        have om838 : ¬ @Eq Nat t2_536 b554 := by omega
        have Vc839 := ((((((((((((f536_4.ext E554).other W556 (own_ane om838)).other W559 (own_ane om838)).other W561 (own_ane om838)).other W563 (own_ane om838)).other W565 (own_ane om838)).ext E797).other W804 (own_ane om800)).other W806 (own_ane om800)).other W808 (own_ane om800)).other W826 (own_ane om800)).other W830 (own_ane om800))
        exact tB T830 h830 _ T536.vm _ r_536 t2_536 kr_536 N2_536 vs2_536 (naT hs po) b797 k797 ([(.int ca), (.int cb), (.int (58 : Int32)), (.int (dch (po / 10))), (.int (dch po)), (.int (0 : Int32)), (.int (0 : Int32)), (.int (0 : Int32)), (.int (0 : Int32))]) 5 (sI 2) (sI ca) (sI cb) (sI cc) s9 (sR x) (sI (Int32.ofNat po)) (sI 2) (sR b554) N830 (X830.more (by decide) (by decide)) e830 (((((((((((((((((Keep.refl h0 []).trans Kc all0).ext E528).trans K530 (allS (P := fun x_ => x_ ∈ ([] : List Addr) ∨ h0.size ≤ x_) (Or.inr (own_ale om832)) all0)).trans K536 all0).ext E554).wr W556 (Or.inr (own_ale om833))).wr W559 (Or.inr (own_ale om833))).wr W561 (Or.inr (own_ale om833))).wr W563 (Or.inr (own_ale om833))).wr W565 (Or.inr (own_ale om833))).ext E797).wr W804 (Or.inr (own_ale om802))).wr W806 (Or.inr (own_ale om802))).wr W808 (Or.inr (own_ale om802))).wr W826 (Or.inr (own_ale om802))).wr W830 (Or.inr (own_ale om802))) hS536 (by have q := hk536; omega) hZ536 hown536 Ec834 Fc836 Fc837 Vc839 V830 f536_5 (naT_lat hlatA) hto (by decide) (own_hes (zs := List.replicate 4 (.int 0)) (by rw [hhs, naT, show digs po = [dch (po / 10), dch po] from by rw [digs, if_neg (by omega), if_pos (by omega)]]; rfl) hto)
      · rw [hnd]
        show Gl p.tables e below _ (T808.setTop (mkF m 300 #[sI i0, sI i1, sI i2, sI i3, sI i4, sI 2, sI ca, sI cb, sI cc, s9, sR x, sI (Int32.ofNat po), sR r_536, sI 3, sR b554, sR b797, sU] []))
        refine Gl.go (fun _ hr => zXS_iconst X808.here hx rfl (hb hby at_300) (zXS_iload X808.here hx rfl (hb hby at_301) rfl (zXS_icmpNo X808.here hx rfl (hb hby at_303) rfl (XT.ii_ge_f (by decide)) (zXS_aload X808.here hx rfl (hb hby at_306) rfl rfl (zXS_iload X808.here hx rfl (hb hby at_308) rfl (zXS_iconst X808.here hx rfl (hb hby at_310) (zXS_iadd X808.here hx rfl (hb hby at_311) rfl (zXS_bipush X808.here hx rfl (hb hby at_312) (zXS_aload X808.here hx rfl (hb hby at_314) rfl rfl (zXS_iconst X808.here hx rfl (hb hby at_316) hr)))))))))) ?_
        refine Gl.go (fun _ hr => zXS_iload X808.here hx rfl (hb hby at_317) rfl (zXS_isub X808.here hx rfl (hb hby at_319) rfl hr)) ?_
        have om840 : ¬ @Eq Nat b554 b797 := by omega
        have Vc841 := ((((V565.ext E797).other W804 (own_ane om840)).other W806 (own_ane om840)).other W808 (own_ane om840))
        obtain ⟨c842, a842, q842, s842, m842, H842, U842⟩ := id Vc841
        have i842 := inb_of s842 (j := (2 : Int32)) ⟨(by decide), (by decide)⟩
        refine g_iaload Gl.cl X808 hx hZ536 e808 a842 i842 (v := (.int (Int32.ofNat (po / 100 % 10)))) (H842.at i842 rfl) rfl rfl (hb hby at_320) ?_
        refine Gl.go (fun _ hr => zXS_iadd X808.here hx rfl (hb hby at_321) rfl (zXT_i2c X808.here hx rfl (hb hby at_322) rfl hr)) ?_
        show Gl p.tables e below _ (T808.setTop (mkF m 323 #[sI i0, sI i1, sI i2, sI i3, sI i4, sI 2, sI ca, sI cb, sI cc, s9, sR x, sI (Int32.ofNat po), sR r_536, sI 3, sR b554, sR b797, sU] [(.int (((48 : Int32) + (Int32.ofNat (po / 100 % 10))).toUInt32.toUInt16.toUInt32.toInt32)), (.int (3 : Int32)), (.ref b797)]))
        rw [(own_chr (po / 100))]
        show Gl p.tables e below _ (T808.setTop (mkF m 323 #[sI i0, sI i1, sI i2, sI i3, sI i4, sI 2, sI ca, sI cb, sI cc, s9, sR x, sI (Int32.ofNat po), sR r_536, sI 3, sR b554, sR b797, sU] [(.int (dch (po / 100))), (.int (3 : Int32)), (.ref b797)]))
        obtain ⟨c843, a843, q843, s843, m843, H843, U843⟩ := id V808
        refine gstC Gl.cl X808 hx hZ536 e808 a843 (j := (3 : Int32)) (inb_of s843 ⟨(by decide), (by decide)⟩) rfl rfl (hb hby at_323) ?_
        intro T843 h843 X843 e843 W843
        have z844 : h808.size ≤ h843.size := (Keep.of_wr W843).1
        rw [(dch_narc _)] at W843
        have V843 : Arv Z h843 b797 k797 .char (9 : Int32) [(.int ca), (.int cb), (.int (58 : Int32)), (.int (dch (po / 100))), (.int (0 : Int32)), (.int (0 : Int32)), (.int (0 : Int32)), (.int (0 : Int32)), (.int (0 : Int32))] (.int (0 : Int32)) := Arv.set a843 q843 s843 m843 H843 U843 (dch_fitc _) W843 3 rfl (Nat.le_of_ble_eq_true rfl)
        have N843 := Fr.snoc X843 N808 (own_ale om801)
        refine Gl.go (fun _ hr => zXS_iconst X843.here hx rfl (hb hby at_324) (zXS_iload X843.here hx rfl (hb hby at_325) rfl (zXS_icmpNo X843.here hx rfl (hb hby at_327) rfl (XT.ii_ge_f (by decide)) (zXS_aload X843.here hx rfl (hb hby at_330) rfl rfl (zXS_iload X843.here hx rfl (hb hby at_332) rfl (zXS_iconst X843.here hx rfl (hb hby at_334) (zXS_iadd X843.here hx rfl (hb hby at_335) rfl (zXS_bipush X843.here hx rfl (hb hby at_336) (zXS_aload X843.here hx rfl (hb hby at_338) rfl rfl (zXS_bipush X843.here hx rfl (hb hby at_340) hr)))))))))) ?_
        refine Gl.go (fun _ hr => zXS_iload X843.here hx rfl (hb hby at_342) rfl (zXS_isub X843.here hx rfl (hb hby at_344) rfl hr)) ?_
        have Vc845 := (Vc841.other W843 (own_ane om840))
        obtain ⟨c846, a846, q846, s846, m846, H846, U846⟩ := id Vc845
        have i846 := inb_of s846 (j := (3 : Int32)) ⟨(by decide), (by decide)⟩
        refine g_iaload Gl.cl X843 hx hZ536 e843 a846 i846 (v := (.int (Int32.ofNat (po / 10 % 10)))) (H846.at i846 rfl) rfl rfl (hb hby at_345) ?_
        refine Gl.go (fun _ hr => zXS_iadd X843.here hx rfl (hb hby at_346) rfl (zXT_i2c X843.here hx rfl (hb hby at_347) rfl hr)) ?_
        show Gl p.tables e below _ (T843.setTop (mkF m 348 #[sI i0, sI i1, sI i2, sI i3, sI i4, sI 2, sI ca, sI cb, sI cc, s9, sR x, sI (Int32.ofNat po), sR r_536, sI 3, sR b554, sR b797, sU] [(.int (((48 : Int32) + (Int32.ofNat (po / 10 % 10))).toUInt32.toUInt16.toUInt32.toInt32)), (.int (4 : Int32)), (.ref b797)]))
        rw [(own_chr (po / 10))]
        show Gl p.tables e below _ (T843.setTop (mkF m 348 #[sI i0, sI i1, sI i2, sI i3, sI i4, sI 2, sI ca, sI cb, sI cc, s9, sR x, sI (Int32.ofNat po), sR r_536, sI 3, sR b554, sR b797, sU] [(.int (dch (po / 10))), (.int (4 : Int32)), (.ref b797)]))
        obtain ⟨c847, a847, q847, s847, m847, H847, U847⟩ := id V843
        refine gstC Gl.cl X843 hx hZ536 e843 a847 (j := (4 : Int32)) (inb_of s847 ⟨(by decide), (by decide)⟩) rfl rfl (hb hby at_348) ?_
        intro T847 h847 X847 e847 W847
        have z848 : h843.size ≤ h847.size := (Keep.of_wr W847).1
        rw [(dch_narc _)] at W847
        have V847 : Arv Z h847 b797 k797 .char (9 : Int32) [(.int ca), (.int cb), (.int (58 : Int32)), (.int (dch (po / 100))), (.int (dch (po / 10))), (.int (0 : Int32)), (.int (0 : Int32)), (.int (0 : Int32)), (.int (0 : Int32))] (.int (0 : Int32)) := Arv.set a847 q847 s847 m847 H847 U847 (dch_fitc _) W847 4 rfl (Nat.le_of_ble_eq_true rfl)
        have N847 := Fr.snoc X847 N843 (own_ale om801)
        refine Gl.go (fun _ hr => zXS_iconst X847.here hx rfl (hb hby at_349) (zXS_iload X847.here hx rfl (hb hby at_350) rfl (zXS_icmpNo X847.here hx rfl (hb hby at_352) rfl (XT.ii_ge_f (by decide)) (zXS_aload X847.here hx rfl (hb hby at_355) rfl rfl (zXS_iload X847.here hx rfl (hb hby at_357) rfl (zXS_iconst X847.here hx rfl (hb hby at_359) (zXS_iadd X847.here hx rfl (hb hby at_360) rfl (zXS_bipush X847.here hx rfl (hb hby at_361) (zXS_aload X847.here hx rfl (hb hby at_363) rfl rfl (zXS_bipush X847.here hx rfl (hb hby at_365) hr)))))))))) ?_
        refine Gl.go (fun _ hr => zXS_iload X847.here hx rfl (hb hby at_367) rfl (zXS_isub X847.here hx rfl (hb hby at_369) rfl hr)) ?_
        have Vc849 := (Vc845.other W847 (own_ane om840))
        obtain ⟨c850, a850, q850, s850, m850, H850, U850⟩ := id Vc849
        have i850 := inb_of s850 (j := (4 : Int32)) ⟨(by decide), (by decide)⟩
        refine g_iaload Gl.cl X847 hx hZ536 e847 a850 i850 (v := (.int (Int32.ofNat (po % 10)))) (H850.at i850 rfl) rfl rfl (hb hby at_370) ?_
        refine Gl.go (fun _ hr => zXS_iadd X847.here hx rfl (hb hby at_371) rfl (zXT_i2c X847.here hx rfl (hb hby at_372) rfl hr)) ?_
        show Gl p.tables e below _ (T847.setTop (mkF m 373 #[sI i0, sI i1, sI i2, sI i3, sI i4, sI 2, sI ca, sI cb, sI cc, s9, sR x, sI (Int32.ofNat po), sR r_536, sI 3, sR b554, sR b797, sU] [(.int (((48 : Int32) + (Int32.ofNat (po % 10))).toUInt32.toUInt16.toUInt32.toInt32)), (.int (5 : Int32)), (.ref b797)]))
        rw [(own_chr po)]
        show Gl p.tables e below _ (T847.setTop (mkF m 373 #[sI i0, sI i1, sI i2, sI i3, sI i4, sI 2, sI ca, sI cb, sI cc, s9, sR x, sI (Int32.ofNat po), sR r_536, sI 3, sR b554, sR b797, sU] [(.int (dch po)), (.int (5 : Int32)), (.ref b797)]))
        obtain ⟨c851, a851, q851, s851, m851, H851, U851⟩ := id V847
        refine gstC Gl.cl X847 hx hZ536 e847 a851 (j := (5 : Int32)) (inb_of s851 ⟨(by decide), (by decide)⟩) rfl rfl (hb hby at_373) ?_
        intro T851 h851 X851 e851 W851
        have z852 : h847.size ≤ h851.size := (Keep.of_wr W851).1
        rw [(dch_narc _)] at W851
        have V851 : Arv Z h851 b797 k797 .char (9 : Int32) [(.int ca), (.int cb), (.int (58 : Int32)), (.int (dch (po / 100))), (.int (dch (po / 10))), (.int (dch po)), (.int (0 : Int32)), (.int (0 : Int32)), (.int (0 : Int32))] (.int (0 : Int32)) := Arv.set a851 q851 s851 m851 H851 U851 (dch_fitc _) W851 5 rfl (Nat.le_of_ble_eq_true rfl)
        have N851 := Fr.snoc X851 N847 (own_ale om801)
        refine Gl.go (fun _ hr => zXS_iconst X851.here hx rfl (hb hby at_374) (zXS_iload X851.here hx rfl (hb hby at_375) rfl (zXS_icmpYes X851.here hx rfl (pc0 := 377) (pc' := 399) rfl (hb hby at_377) rfl (XT.ii_ge_t (by decide)) (by decide) (by decide) (zXS_iconst X851.here hx rfl (hb hby at_399) (zXS_iload X851.here hx rfl (hb hby at_400) rfl (zXS_icmpYes X851.here hx rfl (pc0 := 402) (pc' := 424) rfl (hb hby at_402) rfl (XT.ii_ge_t (by decide)) (by decide) (by decide) (zXS_iload X851.here hx rfl (hb hby at_424) rfl (zXS_iconst X851.here hx rfl (hb hby at_426) (zXS_iadd X851.here hx rfl (hb hby at_427) rfl (zXS_iload X851.here hx rfl (hb hby at_428) rfl hr)))))))))) ?_
        refine Gl.go (fun _ hr => zXS_iadd X851.here hx rfl (hb hby at_430) rfl (zXS_istore X851.here hx rfl (hb hby at_431) rfl (l' := #[sI i0, sI i1, sI i2, sI i3, sI i4, sI 2, sI ca, sI cb, sI cc, s9, sR x, sI (Int32.ofNat po), sR r_536, sI 3, sR b554, sR b797, sI 6]) rfl hr)) ?_
        have hto : (naT hs po).length = 6 := by rw [hhs, naT, show digs po = [dch (po / 100), dch (po / 10), dch po] from by rw [digs, if_neg (by omega), if_neg (by omega), if_pos (by omega)]]; rfl
        have om853 : @LE.le Nat instLENat h0.size b528 := by omega
        have om854 : @LE.le Nat instLENat h0.size b554 := by omega
        have Ec855 := (((((((((((((f536_1.ext E554).wr W556).wr W559).wr W561).wr W563).wr W565).ext E797).wr W804).wr W806).wr W808).wr W843).wr W847).wr W851)
        have om856 : ¬ @Eq Nat r_536 b554 := by omega
        have Fc857 := (((((((((((((f536_2.ext E554).other W556 (Or.inl (own_ane om856))).other W559 (Or.inl (own_ane om856))).other W561 (Or.inl (own_ane om856))).other W563 (Or.inl (own_ane om856))).other W565 (Or.inl (own_ane om856))).ext E797).other W804 (Or.inl (own_ane om799))).other W806 (Or.inl (own_ane om799))).other W808 (Or.inl (own_ane om799))).other W843 (Or.inl (own_ane om799))).other W847 (Or.inl (own_ane om799))).other W851 (Or.inl (own_ane om799)))
        have Fc858 := (((((((((((((f536_3.ext E554).other W556 (Or.inl (own_ane om856))).other W559 (Or.inl (own_ane om856))).other W561 (Or.inl (own_ane om856))).other W563 (Or.inl (own_ane om856))).other W565 (Or.inl (own_ane om856))).ext E797).other W804 (Or.inl (own_ane om799))).other W806 (Or.inl (own_ane om799))).other W808 (Or.inl (own_ane om799))).other W843 (Or.inl (own_ane om799))).other W847 (Or.inl (own_ane om799))).other W851 (Or.inl (own_ane om799)))
        have om859 : ¬ @Eq Nat t2_536 b554 := by omega
        have Vc860 := (((((((((((((f536_4.ext E554).other W556 (own_ane om859)).other W559 (own_ane om859)).other W561 (own_ane om859)).other W563 (own_ane om859)).other W565 (own_ane om859)).ext E797).other W804 (own_ane om800)).other W806 (own_ane om800)).other W808 (own_ane om800)).other W843 (own_ane om800)).other W847 (own_ane om800)).other W851 (own_ane om800))
        exact tB T851 h851 _ T536.vm _ r_536 t2_536 kr_536 N2_536 vs2_536 (naT hs po) b797 k797 ([(.int ca), (.int cb), (.int (58 : Int32)), (.int (dch (po / 100))), (.int (dch (po / 10))), (.int (dch po)), (.int (0 : Int32)), (.int (0 : Int32)), (.int (0 : Int32))]) 6 (sI 2) (sI ca) (sI cb) (sI cc) s9 (sR x) (sI (Int32.ofNat po)) (sI 3) (sR b554) N851 (X851.more (by decide) (by decide)) e851 ((((((((((((((((((Keep.refl h0 []).trans Kc all0).ext E528).trans K530 (allS (P := fun x_ => x_ ∈ ([] : List Addr) ∨ h0.size ≤ x_) (Or.inr (own_ale om853)) all0)).trans K536 all0).ext E554).wr W556 (Or.inr (own_ale om854))).wr W559 (Or.inr (own_ale om854))).wr W561 (Or.inr (own_ale om854))).wr W563 (Or.inr (own_ale om854))).wr W565 (Or.inr (own_ale om854))).ext E797).wr W804 (Or.inr (own_ale om802))).wr W806 (Or.inr (own_ale om802))).wr W808 (Or.inr (own_ale om802))).wr W843 (Or.inr (own_ale om802))).wr W847 (Or.inr (own_ale om802))).wr W851 (Or.inr (own_ale om802))) hS536 (by have q := hk536; omega) hZ536 hown536 Ec855 Fc857 Fc858 Vc860 V851 f536_5 (naT_lat hlatA) hto (by decide) (own_hes (zs := List.replicate 3 (.int 0)) (by rw [hhs, naT, show digs po = [dch (po / 100), dch (po / 10), dch po] from by rw [digs, if_neg (by omega), if_neg (by omega), if_pos (by omega)]]; rfl) hto)
      · rw [hnd]
        show Gl p.tables e below _ (T808.setTop (mkF m 300 #[sI i0, sI i1, sI i2, sI i3, sI i4, sI 2, sI ca, sI cb, sI cc, s9, sR x, sI (Int32.ofNat po), sR r_536, sI 4, sR b554, sR b797, sU] []))
        refine Gl.go (fun _ hr => zXS_iconst X808.here hx rfl (hb hby at_300) (zXS_iload X808.here hx rfl (hb hby at_301) rfl (zXS_icmpNo X808.here hx rfl (hb hby at_303) rfl (XT.ii_ge_f (by decide)) (zXS_aload X808.here hx rfl (hb hby at_306) rfl rfl (zXS_iload X808.here hx rfl (hb hby at_308) rfl (zXS_iconst X808.here hx rfl (hb hby at_310) (zXS_iadd X808.here hx rfl (hb hby at_311) rfl (zXS_bipush X808.here hx rfl (hb hby at_312) (zXS_aload X808.here hx rfl (hb hby at_314) rfl rfl (zXS_iconst X808.here hx rfl (hb hby at_316) hr)))))))))) ?_
        refine Gl.go (fun _ hr => zXS_iload X808.here hx rfl (hb hby at_317) rfl (zXS_isub X808.here hx rfl (hb hby at_319) rfl hr)) ?_
        have om861 : ¬ @Eq Nat b554 b797 := by omega
        have Vc862 := ((((V565.ext E797).other W804 (own_ane om861)).other W806 (own_ane om861)).other W808 (own_ane om861))
        obtain ⟨c863, a863, q863, s863, m863, H863, U863⟩ := id Vc862
        have i863 := inb_of s863 (j := (1 : Int32)) ⟨(by decide), (by decide)⟩
        refine g_iaload Gl.cl X808 hx hZ536 e808 a863 i863 (v := (.int (Int32.ofNat (po / 1000 % 10)))) (H863.at i863 rfl) rfl rfl (hb hby at_320) ?_
        refine Gl.go (fun _ hr => zXS_iadd X808.here hx rfl (hb hby at_321) rfl (zXT_i2c X808.here hx rfl (hb hby at_322) rfl hr)) ?_
        show Gl p.tables e below _ (T808.setTop (mkF m 323 #[sI i0, sI i1, sI i2, sI i3, sI i4, sI 2, sI ca, sI cb, sI cc, s9, sR x, sI (Int32.ofNat po), sR r_536, sI 4, sR b554, sR b797, sU] [(.int (((48 : Int32) + (Int32.ofNat (po / 1000 % 10))).toUInt32.toUInt16.toUInt32.toInt32)), (.int (3 : Int32)), (.ref b797)]))
        rw [(own_chr (po / 1000))]
        show Gl p.tables e below _ (T808.setTop (mkF m 323 #[sI i0, sI i1, sI i2, sI i3, sI i4, sI 2, sI ca, sI cb, sI cc, s9, sR x, sI (Int32.ofNat po), sR r_536, sI 4, sR b554, sR b797, sU] [(.int (dch (po / 1000))), (.int (3 : Int32)), (.ref b797)]))
        obtain ⟨c864, a864, q864, s864, m864, H864, U864⟩ := id V808
        refine gstC Gl.cl X808 hx hZ536 e808 a864 (j := (3 : Int32)) (inb_of s864 ⟨(by decide), (by decide)⟩) rfl rfl (hb hby at_323) ?_
        intro T864 h864 X864 e864 W864
        have z865 : h808.size ≤ h864.size := (Keep.of_wr W864).1
        rw [(dch_narc _)] at W864
        have V864 : Arv Z h864 b797 k797 .char (9 : Int32) [(.int ca), (.int cb), (.int (58 : Int32)), (.int (dch (po / 1000))), (.int (0 : Int32)), (.int (0 : Int32)), (.int (0 : Int32)), (.int (0 : Int32)), (.int (0 : Int32))] (.int (0 : Int32)) := Arv.set a864 q864 s864 m864 H864 U864 (dch_fitc _) W864 3 rfl (Nat.le_of_ble_eq_true rfl)
        have N864 := Fr.snoc X864 N808 (own_ale om801)
        refine Gl.go (fun _ hr => zXS_iconst X864.here hx rfl (hb hby at_324) (zXS_iload X864.here hx rfl (hb hby at_325) rfl (zXS_icmpNo X864.here hx rfl (hb hby at_327) rfl (XT.ii_ge_f (by decide)) (zXS_aload X864.here hx rfl (hb hby at_330) rfl rfl (zXS_iload X864.here hx rfl (hb hby at_332) rfl (zXS_iconst X864.here hx rfl (hb hby at_334) (zXS_iadd X864.here hx rfl (hb hby at_335) rfl (zXS_bipush X864.here hx rfl (hb hby at_336) (zXS_aload X864.here hx rfl (hb hby at_338) rfl rfl (zXS_bipush X864.here hx rfl (hb hby at_340) hr)))))))))) ?_
        refine Gl.go (fun _ hr => zXS_iload X864.here hx rfl (hb hby at_342) rfl (zXS_isub X864.here hx rfl (hb hby at_344) rfl hr)) ?_
        have Vc866 := (Vc862.other W864 (own_ane om861))
        obtain ⟨c867, a867, q867, s867, m867, H867, U867⟩ := id Vc866
        have i867 := inb_of s867 (j := (2 : Int32)) ⟨(by decide), (by decide)⟩
        refine g_iaload Gl.cl X864 hx hZ536 e864 a867 i867 (v := (.int (Int32.ofNat (po / 100 % 10)))) (H867.at i867 rfl) rfl rfl (hb hby at_345) ?_
        refine Gl.go (fun _ hr => zXS_iadd X864.here hx rfl (hb hby at_346) rfl (zXT_i2c X864.here hx rfl (hb hby at_347) rfl hr)) ?_
        show Gl p.tables e below _ (T864.setTop (mkF m 348 #[sI i0, sI i1, sI i2, sI i3, sI i4, sI 2, sI ca, sI cb, sI cc, s9, sR x, sI (Int32.ofNat po), sR r_536, sI 4, sR b554, sR b797, sU] [(.int (((48 : Int32) + (Int32.ofNat (po / 100 % 10))).toUInt32.toUInt16.toUInt32.toInt32)), (.int (4 : Int32)), (.ref b797)]))
        rw [(own_chr (po / 100))]
        show Gl p.tables e below _ (T864.setTop (mkF m 348 #[sI i0, sI i1, sI i2, sI i3, sI i4, sI 2, sI ca, sI cb, sI cc, s9, sR x, sI (Int32.ofNat po), sR r_536, sI 4, sR b554, sR b797, sU] [(.int (dch (po / 100))), (.int (4 : Int32)), (.ref b797)]))
        obtain ⟨c868, a868, q868, s868, m868, H868, U868⟩ := id V864
        refine gstC Gl.cl X864 hx hZ536 e864 a868 (j := (4 : Int32)) (inb_of s868 ⟨(by decide), (by decide)⟩) rfl rfl (hb hby at_348) ?_
        intro T868 h868 X868 e868 W868
        have z869 : h864.size ≤ h868.size := (Keep.of_wr W868).1
        rw [(dch_narc _)] at W868
        have V868 : Arv Z h868 b797 k797 .char (9 : Int32) [(.int ca), (.int cb), (.int (58 : Int32)), (.int (dch (po / 1000))), (.int (dch (po / 100))), (.int (0 : Int32)), (.int (0 : Int32)), (.int (0 : Int32)), (.int (0 : Int32))] (.int (0 : Int32)) := Arv.set a868 q868 s868 m868 H868 U868 (dch_fitc _) W868 4 rfl (Nat.le_of_ble_eq_true rfl)
        have N868 := Fr.snoc X868 N864 (own_ale om801)
        refine Gl.go (fun _ hr => zXS_iconst X868.here hx rfl (hb hby at_349) (zXS_iload X868.here hx rfl (hb hby at_350) rfl (zXS_icmpNo X868.here hx rfl (hb hby at_352) rfl (XT.ii_ge_f (by decide)) (zXS_aload X868.here hx rfl (hb hby at_355) rfl rfl (zXS_iload X868.here hx rfl (hb hby at_357) rfl (zXS_iconst X868.here hx rfl (hb hby at_359) (zXS_iadd X868.here hx rfl (hb hby at_360) rfl (zXS_bipush X868.here hx rfl (hb hby at_361) (zXS_aload X868.here hx rfl (hb hby at_363) rfl rfl (zXS_bipush X868.here hx rfl (hb hby at_365) hr)))))))))) ?_
        refine Gl.go (fun _ hr => zXS_iload X868.here hx rfl (hb hby at_367) rfl (zXS_isub X868.here hx rfl (hb hby at_369) rfl hr)) ?_
        have Vc870 := (Vc866.other W868 (own_ane om861))
        obtain ⟨c871, a871, q871, s871, m871, H871, U871⟩ := id Vc870
        have i871 := inb_of s871 (j := (3 : Int32)) ⟨(by decide), (by decide)⟩
        refine g_iaload Gl.cl X868 hx hZ536 e868 a871 i871 (v := (.int (Int32.ofNat (po / 10 % 10)))) (H871.at i871 rfl) rfl rfl (hb hby at_370) ?_
        refine Gl.go (fun _ hr => zXS_iadd X868.here hx rfl (hb hby at_371) rfl (zXT_i2c X868.here hx rfl (hb hby at_372) rfl hr)) ?_
        show Gl p.tables e below _ (T868.setTop (mkF m 373 #[sI i0, sI i1, sI i2, sI i3, sI i4, sI 2, sI ca, sI cb, sI cc, s9, sR x, sI (Int32.ofNat po), sR r_536, sI 4, sR b554, sR b797, sU] [(.int (((48 : Int32) + (Int32.ofNat (po / 10 % 10))).toUInt32.toUInt16.toUInt32.toInt32)), (.int (5 : Int32)), (.ref b797)]))
        rw [(own_chr (po / 10))]
        show Gl p.tables e below _ (T868.setTop (mkF m 373 #[sI i0, sI i1, sI i2, sI i3, sI i4, sI 2, sI ca, sI cb, sI cc, s9, sR x, sI (Int32.ofNat po), sR r_536, sI 4, sR b554, sR b797, sU] [(.int (dch (po / 10))), (.int (5 : Int32)), (.ref b797)]))
        obtain ⟨c872, a872, q872, s872, m872, H872, U872⟩ := id V868
        refine gstC Gl.cl X868 hx hZ536 e868 a872 (j := (5 : Int32)) (inb_of s872 ⟨(by decide), (by decide)⟩) rfl rfl (hb hby at_373) ?_
        intro T872 h872 X872 e872 W872
        have z873 : h868.size ≤ h872.size := (Keep.of_wr W872).1
        rw [(dch_narc _)] at W872
        have V872 : Arv Z h872 b797 k797 .char (9 : Int32) [(.int ca), (.int cb), (.int (58 : Int32)), (.int (dch (po / 1000))), (.int (dch (po / 100))), (.int (dch (po / 10))), (.int (0 : Int32)), (.int (0 : Int32)), (.int (0 : Int32))] (.int (0 : Int32)) := Arv.set a872 q872 s872 m872 H872 U872 (dch_fitc _) W872 5 rfl (Nat.le_of_ble_eq_true rfl)
        have N872 := Fr.snoc X872 N868 (own_ale om801)
        refine Gl.go (fun _ hr => zXS_iconst X872.here hx rfl (hb hby at_374) (zXS_iload X872.here hx rfl (hb hby at_375) rfl (zXS_icmpNo X872.here hx rfl (hb hby at_377) rfl (XT.ii_ge_f (by decide)) (zXS_aload X872.here hx rfl (hb hby at_380) rfl rfl (zXS_iload X872.here hx rfl (hb hby at_382) rfl (zXS_iconst X872.here hx rfl (hb hby at_384) (zXS_iadd X872.here hx rfl (hb hby at_385) rfl (zXS_bipush X872.here hx rfl (hb hby at_386) (zXS_aload X872.here hx rfl (hb hby at_388) rfl rfl (zXS_bipush X872.here hx rfl (hb hby at_390) hr)))))))))) ?_
        refine Gl.go (fun _ hr => zXS_iload X872.here hx rfl (hb hby at_392) rfl (zXS_isub X872.here hx rfl (hb hby at_394) rfl hr)) ?_
        have Vc874 := (Vc870.other W872 (own_ane om861))
        obtain ⟨c875, a875, q875, s875, m875, H875, U875⟩ := id Vc874
        have i875 := inb_of s875 (j := (4 : Int32)) ⟨(by decide), (by decide)⟩
        refine g_iaload Gl.cl X872 hx hZ536 e872 a875 i875 (v := (.int (Int32.ofNat (po % 10)))) (H875.at i875 rfl) rfl rfl (hb hby at_395) ?_
        refine Gl.go (fun _ hr => zXS_iadd X872.here hx rfl (hb hby at_396) rfl (zXT_i2c X872.here hx rfl (hb hby at_397) rfl hr)) ?_
        show Gl p.tables e below _ (T872.setTop (mkF m 398 #[sI i0, sI i1, sI i2, sI i3, sI i4, sI 2, sI ca, sI cb, sI cc, s9, sR x, sI (Int32.ofNat po), sR r_536, sI 4, sR b554, sR b797, sU] [(.int (((48 : Int32) + (Int32.ofNat (po % 10))).toUInt32.toUInt16.toUInt32.toInt32)), (.int (6 : Int32)), (.ref b797)]))
        rw [(own_chr po)]
        show Gl p.tables e below _ (T872.setTop (mkF m 398 #[sI i0, sI i1, sI i2, sI i3, sI i4, sI 2, sI ca, sI cb, sI cc, s9, sR x, sI (Int32.ofNat po), sR r_536, sI 4, sR b554, sR b797, sU] [(.int (dch po)), (.int (6 : Int32)), (.ref b797)]))
        obtain ⟨c876, a876, q876, s876, m876, H876, U876⟩ := id V872
        refine gstC Gl.cl X872 hx hZ536 e872 a876 (j := (6 : Int32)) (inb_of s876 ⟨(by decide), (by decide)⟩) rfl rfl (hb hby at_398) ?_
        intro T876 h876 X876 e876 W876
        have z877 : h872.size ≤ h876.size := (Keep.of_wr W876).1
        rw [(dch_narc _)] at W876
        have V876 : Arv Z h876 b797 k797 .char (9 : Int32) [(.int ca), (.int cb), (.int (58 : Int32)), (.int (dch (po / 1000))), (.int (dch (po / 100))), (.int (dch (po / 10))), (.int (dch po)), (.int (0 : Int32)), (.int (0 : Int32))] (.int (0 : Int32)) := Arv.set a876 q876 s876 m876 H876 U876 (dch_fitc _) W876 6 rfl (Nat.le_of_ble_eq_true rfl)
        have N876 := Fr.snoc X876 N872 (own_ale om801)
        refine Gl.go (fun _ hr => zXS_iconst X876.here hx rfl (hb hby at_399) (zXS_iload X876.here hx rfl (hb hby at_400) rfl (zXS_icmpYes X876.here hx rfl (pc0 := 402) (pc' := 424) rfl (hb hby at_402) rfl (XT.ii_ge_t (by decide)) (by decide) (by decide) (zXS_iload X876.here hx rfl (hb hby at_424) rfl (zXS_iconst X876.here hx rfl (hb hby at_426) (zXS_iadd X876.here hx rfl (hb hby at_427) rfl (zXS_iload X876.here hx rfl (hb hby at_428) rfl (zXS_iadd X876.here hx rfl (hb hby at_430) rfl (zXS_istore X876.here hx rfl (hb hby at_431) rfl (l' := #[sI i0, sI i1, sI i2, sI i3, sI i4, sI 2, sI ca, sI cb, sI cc, s9, sR x, sI (Int32.ofNat po), sR r_536, sI 4, sR b554, sR b797, sI 7]) rfl hr))))))))) ?_
        have hto : (naT hs po).length = 7 := by rw [hhs, naT, show digs po = [dch (po / 1000), dch (po / 100), dch (po / 10), dch po] from by rw [digs, if_neg (by omega), if_neg (by omega), if_neg (by omega), if_pos (by omega)]]; rfl
        have om878 : @LE.le Nat instLENat h0.size b528 := by omega
        have om879 : @LE.le Nat instLENat h0.size b554 := by omega
        have Ec880 := ((((((((((((((f536_1.ext E554).wr W556).wr W559).wr W561).wr W563).wr W565).ext E797).wr W804).wr W806).wr W808).wr W864).wr W868).wr W872).wr W876)
        have om881 : ¬ @Eq Nat r_536 b554 := by omega
        have Fc882 := ((((((((((((((f536_2.ext E554).other W556 (Or.inl (own_ane om881))).other W559 (Or.inl (own_ane om881))).other W561 (Or.inl (own_ane om881))).other W563 (Or.inl (own_ane om881))).other W565 (Or.inl (own_ane om881))).ext E797).other W804 (Or.inl (own_ane om799))).other W806 (Or.inl (own_ane om799))).other W808 (Or.inl (own_ane om799))).other W864 (Or.inl (own_ane om799))).other W868 (Or.inl (own_ane om799))).other W872 (Or.inl (own_ane om799))).other W876 (Or.inl (own_ane om799)))
        have Fc883 := ((((((((((((((f536_3.ext E554).other W556 (Or.inl (own_ane om881))).other W559 (Or.inl (own_ane om881))).other W561 (Or.inl (own_ane om881))).other W563 (Or.inl (own_ane om881))).other W565 (Or.inl (own_ane om881))).ext E797).other W804 (Or.inl (own_ane om799))).other W806 (Or.inl (own_ane om799))).other W808 (Or.inl (own_ane om799))).other W864 (Or.inl (own_ane om799))).other W868 (Or.inl (own_ane om799))).other W872 (Or.inl (own_ane om799))).other W876 (Or.inl (own_ane om799)))
        have om884 : ¬ @Eq Nat t2_536 b554 := by omega
        have Vc885 := ((((((((((((((f536_4.ext E554).other W556 (own_ane om884)).other W559 (own_ane om884)).other W561 (own_ane om884)).other W563 (own_ane om884)).other W565 (own_ane om884)).ext E797).other W804 (own_ane om800)).other W806 (own_ane om800)).other W808 (own_ane om800)).other W864 (own_ane om800)).other W868 (own_ane om800)).other W872 (own_ane om800)).other W876 (own_ane om800))
        exact tB T876 h876 _ T536.vm _ r_536 t2_536 kr_536 N2_536 vs2_536 (naT hs po) b797 k797 ([(.int ca), (.int cb), (.int (58 : Int32)), (.int (dch (po / 1000))), (.int (dch (po / 100))), (.int (dch (po / 10))), (.int (dch po)), (.int (0 : Int32)), (.int (0 : Int32))]) 7 (sI 2) (sI ca) (sI cb) (sI cc) s9 (sR x) (sI (Int32.ofNat po)) (sI 4) (sR b554) N876 (X876.more (by decide) (by decide)) e876 (((((((((((((((((((Keep.refl h0 []).trans Kc all0).ext E528).trans K530 (allS (P := fun x_ => x_ ∈ ([] : List Addr) ∨ h0.size ≤ x_) (Or.inr (own_ale om878)) all0)).trans K536 all0).ext E554).wr W556 (Or.inr (own_ale om879))).wr W559 (Or.inr (own_ale om879))).wr W561 (Or.inr (own_ale om879))).wr W563 (Or.inr (own_ale om879))).wr W565 (Or.inr (own_ale om879))).ext E797).wr W804 (Or.inr (own_ale om802))).wr W806 (Or.inr (own_ale om802))).wr W808 (Or.inr (own_ale om802))).wr W864 (Or.inr (own_ale om802))).wr W868 (Or.inr (own_ale om802))).wr W872 (Or.inr (own_ale om802))).wr W876 (Or.inr (own_ale om802))) hS536 (by have q := hk536; omega) hZ536 hown536 Ec880 Fc882 Fc883 Vc885 V876 f536_5 (naT_lat hlatA) hto (by decide) (own_hes (zs := List.replicate 2 (.int 0)) (by rw [hhs, naT, show digs po = [dch (po / 1000), dch (po / 100), dch (po / 10), dch po] from by rw [digs, if_neg (by omega), if_neg (by omega), if_neg (by omega), if_pos (by omega)]]; rfl) hto)
      · rw [hnd]
        show Gl p.tables e below _ (T808.setTop (mkF m 300 #[sI i0, sI i1, sI i2, sI i3, sI i4, sI 2, sI ca, sI cb, sI cc, s9, sR x, sI (Int32.ofNat po), sR r_536, sI 5, sR b554, sR b797, sU] []))
        refine Gl.go (fun _ hr => zXS_iconst X808.here hx rfl (hb hby at_300) (zXS_iload X808.here hx rfl (hb hby at_301) rfl (zXS_icmpNo X808.here hx rfl (hb hby at_303) rfl (XT.ii_ge_f (by decide)) (zXS_aload X808.here hx rfl (hb hby at_306) rfl rfl (zXS_iload X808.here hx rfl (hb hby at_308) rfl (zXS_iconst X808.here hx rfl (hb hby at_310) (zXS_iadd X808.here hx rfl (hb hby at_311) rfl (zXS_bipush X808.here hx rfl (hb hby at_312) (zXS_aload X808.here hx rfl (hb hby at_314) rfl rfl (zXS_iconst X808.here hx rfl (hb hby at_316) hr)))))))))) ?_
        refine Gl.go (fun _ hr => zXS_iload X808.here hx rfl (hb hby at_317) rfl (zXS_isub X808.here hx rfl (hb hby at_319) rfl hr)) ?_
        have om886 : ¬ @Eq Nat b554 b797 := by omega
        have Vc887 := ((((V565.ext E797).other W804 (own_ane om886)).other W806 (own_ane om886)).other W808 (own_ane om886))
        obtain ⟨c888, a888, q888, s888, m888, H888, U888⟩ := id Vc887
        have i888 := inb_of s888 (j := (0 : Int32)) ⟨(by decide), (by decide)⟩
        refine g_iaload Gl.cl X808 hx hZ536 e808 a888 i888 (v := (.int (Int32.ofNat (po / 10000 % 10)))) (H888.at i888 rfl) rfl rfl (hb hby at_320) ?_
        refine Gl.go (fun _ hr => zXS_iadd X808.here hx rfl (hb hby at_321) rfl (zXT_i2c X808.here hx rfl (hb hby at_322) rfl hr)) ?_
        show Gl p.tables e below _ (T808.setTop (mkF m 323 #[sI i0, sI i1, sI i2, sI i3, sI i4, sI 2, sI ca, sI cb, sI cc, s9, sR x, sI (Int32.ofNat po), sR r_536, sI 5, sR b554, sR b797, sU] [(.int (((48 : Int32) + (Int32.ofNat (po / 10000 % 10))).toUInt32.toUInt16.toUInt32.toInt32)), (.int (3 : Int32)), (.ref b797)]))
        rw [(own_chr (po / 10000))]
        show Gl p.tables e below _ (T808.setTop (mkF m 323 #[sI i0, sI i1, sI i2, sI i3, sI i4, sI 2, sI ca, sI cb, sI cc, s9, sR x, sI (Int32.ofNat po), sR r_536, sI 5, sR b554, sR b797, sU] [(.int (dch (po / 10000))), (.int (3 : Int32)), (.ref b797)]))
        obtain ⟨c889, a889, q889, s889, m889, H889, U889⟩ := id V808
        refine gstC Gl.cl X808 hx hZ536 e808 a889 (j := (3 : Int32)) (inb_of s889 ⟨(by decide), (by decide)⟩) rfl rfl (hb hby at_323) ?_
        intro T889 h889 X889 e889 W889
        have z890 : h808.size ≤ h889.size := (Keep.of_wr W889).1
        rw [(dch_narc _)] at W889
        have V889 : Arv Z h889 b797 k797 .char (9 : Int32) [(.int ca), (.int cb), (.int (58 : Int32)), (.int (dch (po / 10000))), (.int (0 : Int32)), (.int (0 : Int32)), (.int (0 : Int32)), (.int (0 : Int32)), (.int (0 : Int32))] (.int (0 : Int32)) := Arv.set a889 q889 s889 m889 H889 U889 (dch_fitc _) W889 3 rfl (Nat.le_of_ble_eq_true rfl)
        have N889 := Fr.snoc X889 N808 (own_ale om801)
        refine Gl.go (fun _ hr => zXS_iconst X889.here hx rfl (hb hby at_324) (zXS_iload X889.here hx rfl (hb hby at_325) rfl (zXS_icmpNo X889.here hx rfl (hb hby at_327) rfl (XT.ii_ge_f (by decide)) (zXS_aload X889.here hx rfl (hb hby at_330) rfl rfl (zXS_iload X889.here hx rfl (hb hby at_332) rfl (zXS_iconst X889.here hx rfl (hb hby at_334) (zXS_iadd X889.here hx rfl (hb hby at_335) rfl (zXS_bipush X889.here hx rfl (hb hby at_336) (zXS_aload X889.here hx rfl (hb hby at_338) rfl rfl (zXS_bipush X889.here hx rfl (hb hby at_340) hr)))))))))) ?_
        refine Gl.go (fun _ hr => zXS_iload X889.here hx rfl (hb hby at_342) rfl (zXS_isub X889.here hx rfl (hb hby at_344) rfl hr)) ?_
        have Vc891 := (Vc887.other W889 (own_ane om886))
        obtain ⟨c892, a892, q892, s892, m892, H892, U892⟩ := id Vc891
        have i892 := inb_of s892 (j := (1 : Int32)) ⟨(by decide), (by decide)⟩
        refine g_iaload Gl.cl X889 hx hZ536 e889 a892 i892 (v := (.int (Int32.ofNat (po / 1000 % 10)))) (H892.at i892 rfl) rfl rfl (hb hby at_345) ?_
        refine Gl.go (fun _ hr => zXS_iadd X889.here hx rfl (hb hby at_346) rfl (zXT_i2c X889.here hx rfl (hb hby at_347) rfl hr)) ?_
        show Gl p.tables e below _ (T889.setTop (mkF m 348 #[sI i0, sI i1, sI i2, sI i3, sI i4, sI 2, sI ca, sI cb, sI cc, s9, sR x, sI (Int32.ofNat po), sR r_536, sI 5, sR b554, sR b797, sU] [(.int (((48 : Int32) + (Int32.ofNat (po / 1000 % 10))).toUInt32.toUInt16.toUInt32.toInt32)), (.int (4 : Int32)), (.ref b797)]))
        rw [(own_chr (po / 1000))]
        show Gl p.tables e below _ (T889.setTop (mkF m 348 #[sI i0, sI i1, sI i2, sI i3, sI i4, sI 2, sI ca, sI cb, sI cc, s9, sR x, sI (Int32.ofNat po), sR r_536, sI 5, sR b554, sR b797, sU] [(.int (dch (po / 1000))), (.int (4 : Int32)), (.ref b797)]))
        obtain ⟨c893, a893, q893, s893, m893, H893, U893⟩ := id V889
        refine gstC Gl.cl X889 hx hZ536 e889 a893 (j := (4 : Int32)) (inb_of s893 ⟨(by decide), (by decide)⟩) rfl rfl (hb hby at_348) ?_
        intro T893 h893 X893 e893 W893
        have z894 : h889.size ≤ h893.size := (Keep.of_wr W893).1
        rw [(dch_narc _)] at W893
        have V893 : Arv Z h893 b797 k797 .char (9 : Int32) [(.int ca), (.int cb), (.int (58 : Int32)), (.int (dch (po / 10000))), (.int (dch (po / 1000))), (.int (0 : Int32)), (.int (0 : Int32)), (.int (0 : Int32)), (.int (0 : Int32))] (.int (0 : Int32)) := Arv.set a893 q893 s893 m893 H893 U893 (dch_fitc _) W893 4 rfl (Nat.le_of_ble_eq_true rfl)
        have N893 := Fr.snoc X893 N889 (own_ale om801)
        refine Gl.go (fun _ hr => zXS_iconst X893.here hx rfl (hb hby at_349) (zXS_iload X893.here hx rfl (hb hby at_350) rfl (zXS_icmpNo X893.here hx rfl (hb hby at_352) rfl (XT.ii_ge_f (by decide)) (zXS_aload X893.here hx rfl (hb hby at_355) rfl rfl (zXS_iload X893.here hx rfl (hb hby at_357) rfl (zXS_iconst X893.here hx rfl (hb hby at_359) (zXS_iadd X893.here hx rfl (hb hby at_360) rfl (zXS_bipush X893.here hx rfl (hb hby at_361) (zXS_aload X893.here hx rfl (hb hby at_363) rfl rfl (zXS_bipush X893.here hx rfl (hb hby at_365) hr)))))))))) ?_
        refine Gl.go (fun _ hr => zXS_iload X893.here hx rfl (hb hby at_367) rfl (zXS_isub X893.here hx rfl (hb hby at_369) rfl hr)) ?_
        have Vc895 := (Vc891.other W893 (own_ane om886))
        obtain ⟨c896, a896, q896, s896, m896, H896, U896⟩ := id Vc895
        have i896 := inb_of s896 (j := (2 : Int32)) ⟨(by decide), (by decide)⟩
        refine g_iaload Gl.cl X893 hx hZ536 e893 a896 i896 (v := (.int (Int32.ofNat (po / 100 % 10)))) (H896.at i896 rfl) rfl rfl (hb hby at_370) ?_
        refine Gl.go (fun _ hr => zXS_iadd X893.here hx rfl (hb hby at_371) rfl (zXT_i2c X893.here hx rfl (hb hby at_372) rfl hr)) ?_
        show Gl p.tables e below _ (T893.setTop (mkF m 373 #[sI i0, sI i1, sI i2, sI i3, sI i4, sI 2, sI ca, sI cb, sI cc, s9, sR x, sI (Int32.ofNat po), sR r_536, sI 5, sR b554, sR b797, sU] [(.int (((48 : Int32) + (Int32.ofNat (po / 100 % 10))).toUInt32.toUInt16.toUInt32.toInt32)), (.int (5 : Int32)), (.ref b797)]))
        rw [(own_chr (po / 100))]
        show Gl p.tables e below _ (T893.setTop (mkF m 373 #[sI i0, sI i1, sI i2, sI i3, sI i4, sI 2, sI ca, sI cb, sI cc, s9, sR x, sI (Int32.ofNat po), sR r_536, sI 5, sR b554, sR b797, sU] [(.int (dch (po / 100))), (.int (5 : Int32)), (.ref b797)]))
        obtain ⟨c897, a897, q897, s897, m897, H897, U897⟩ := id V893
        refine gstC Gl.cl X893 hx hZ536 e893 a897 (j := (5 : Int32)) (inb_of s897 ⟨(by decide), (by decide)⟩) rfl rfl (hb hby at_373) ?_
        intro T897 h897 X897 e897 W897
        have z898 : h893.size ≤ h897.size := (Keep.of_wr W897).1
        rw [(dch_narc _)] at W897
        have V897 : Arv Z h897 b797 k797 .char (9 : Int32) [(.int ca), (.int cb), (.int (58 : Int32)), (.int (dch (po / 10000))), (.int (dch (po / 1000))), (.int (dch (po / 100))), (.int (0 : Int32)), (.int (0 : Int32)), (.int (0 : Int32))] (.int (0 : Int32)) := Arv.set a897 q897 s897 m897 H897 U897 (dch_fitc _) W897 5 rfl (Nat.le_of_ble_eq_true rfl)
        have N897 := Fr.snoc X897 N893 (own_ale om801)
        refine Gl.go (fun _ hr => zXS_iconst X897.here hx rfl (hb hby at_374) (zXS_iload X897.here hx rfl (hb hby at_375) rfl (zXS_icmpNo X897.here hx rfl (hb hby at_377) rfl (XT.ii_ge_f (by decide)) (zXS_aload X897.here hx rfl (hb hby at_380) rfl rfl (zXS_iload X897.here hx rfl (hb hby at_382) rfl (zXS_iconst X897.here hx rfl (hb hby at_384) (zXS_iadd X897.here hx rfl (hb hby at_385) rfl (zXS_bipush X897.here hx rfl (hb hby at_386) (zXS_aload X897.here hx rfl (hb hby at_388) rfl rfl (zXS_bipush X897.here hx rfl (hb hby at_390) hr)))))))))) ?_
        refine Gl.go (fun _ hr => zXS_iload X897.here hx rfl (hb hby at_392) rfl (zXS_isub X897.here hx rfl (hb hby at_394) rfl hr)) ?_
        have Vc899 := (Vc895.other W897 (own_ane om886))
        obtain ⟨c900, a900, q900, s900, m900, H900, U900⟩ := id Vc899
        have i900 := inb_of s900 (j := (3 : Int32)) ⟨(by decide), (by decide)⟩
        refine g_iaload Gl.cl X897 hx hZ536 e897 a900 i900 (v := (.int (Int32.ofNat (po / 10 % 10)))) (H900.at i900 rfl) rfl rfl (hb hby at_395) ?_
        refine Gl.go (fun _ hr => zXS_iadd X897.here hx rfl (hb hby at_396) rfl (zXT_i2c X897.here hx rfl (hb hby at_397) rfl hr)) ?_
        show Gl p.tables e below _ (T897.setTop (mkF m 398 #[sI i0, sI i1, sI i2, sI i3, sI i4, sI 2, sI ca, sI cb, sI cc, s9, sR x, sI (Int32.ofNat po), sR r_536, sI 5, sR b554, sR b797, sU] [(.int (((48 : Int32) + (Int32.ofNat (po / 10 % 10))).toUInt32.toUInt16.toUInt32.toInt32)), (.int (6 : Int32)), (.ref b797)]))
        rw [(own_chr (po / 10))]
        show Gl p.tables e below _ (T897.setTop (mkF m 398 #[sI i0, sI i1, sI i2, sI i3, sI i4, sI 2, sI ca, sI cb, sI cc, s9, sR x, sI (Int32.ofNat po), sR r_536, sI 5, sR b554, sR b797, sU] [(.int (dch (po / 10))), (.int (6 : Int32)), (.ref b797)]))
        obtain ⟨c901, a901, q901, s901, m901, H901, U901⟩ := id V897
        refine gstC Gl.cl X897 hx hZ536 e897 a901 (j := (6 : Int32)) (inb_of s901 ⟨(by decide), (by decide)⟩) rfl rfl (hb hby at_398) ?_
        intro T901 h901 X901 e901 W901
        have z902 : h897.size ≤ h901.size := (Keep.of_wr W901).1
        rw [(dch_narc _)] at W901
        have V901 : Arv Z h901 b797 k797 .char (9 : Int32) [(.int ca), (.int cb), (.int (58 : Int32)), (.int (dch (po / 10000))), (.int (dch (po / 1000))), (.int (dch (po / 100))), (.int (dch (po / 10))), (.int (0 : Int32)), (.int (0 : Int32))] (.int (0 : Int32)) := Arv.set a901 q901 s901 m901 H901 U901 (dch_fitc _) W901 6 rfl (Nat.le_of_ble_eq_true rfl)
        have N901 := Fr.snoc X901 N897 (own_ale om801)
        refine Gl.go (fun _ hr => zXS_iconst X901.here hx rfl (hb hby at_399) (zXS_iload X901.here hx rfl (hb hby at_400) rfl (zXS_icmpNo X901.here hx rfl (hb hby at_402) rfl (XT.ii_ge_f (by decide)) (zXS_aload X901.here hx rfl (hb hby at_405) rfl rfl (zXS_iload X901.here hx rfl (hb hby at_407) rfl (zXS_iconst X901.here hx rfl (hb hby at_409) (zXS_iadd X901.here hx rfl (hb hby at_410) rfl (zXS_bipush X901.here hx rfl (hb hby at_411) (zXS_aload X901.here hx rfl (hb hby at_413) rfl rfl (zXS_bipush X901.here hx rfl (hb hby at_415) hr)))))))))) ?_
        refine Gl.go (fun _ hr => zXS_iload X901.here hx rfl (hb hby at_417) rfl (zXS_isub X901.here hx rfl (hb hby at_419) rfl hr)) ?_
        have Vc903 := (Vc899.other W901 (own_ane om886))
        obtain ⟨c904, a904, q904, s904, m904, H904, U904⟩ := id Vc903
        have i904 := inb_of s904 (j := (4 : Int32)) ⟨(by decide), (by decide)⟩
        refine g_iaload Gl.cl X901 hx hZ536 e901 a904 i904 (v := (.int (Int32.ofNat (po % 10)))) (H904.at i904 rfl) rfl rfl (hb hby at_420) ?_
        refine Gl.go (fun _ hr => zXS_iadd X901.here hx rfl (hb hby at_421) rfl (zXT_i2c X901.here hx rfl (hb hby at_422) rfl hr)) ?_
        show Gl p.tables e below _ (T901.setTop (mkF m 423 #[sI i0, sI i1, sI i2, sI i3, sI i4, sI 2, sI ca, sI cb, sI cc, s9, sR x, sI (Int32.ofNat po), sR r_536, sI 5, sR b554, sR b797, sU] [(.int (((48 : Int32) + (Int32.ofNat (po % 10))).toUInt32.toUInt16.toUInt32.toInt32)), (.int (7 : Int32)), (.ref b797)]))
        rw [(own_chr po)]
        show Gl p.tables e below _ (T901.setTop (mkF m 423 #[sI i0, sI i1, sI i2, sI i3, sI i4, sI 2, sI ca, sI cb, sI cc, s9, sR x, sI (Int32.ofNat po), sR r_536, sI 5, sR b554, sR b797, sU] [(.int (dch po)), (.int (7 : Int32)), (.ref b797)]))
        obtain ⟨c905, a905, q905, s905, m905, H905, U905⟩ := id V901
        refine gstC Gl.cl X901 hx hZ536 e901 a905 (j := (7 : Int32)) (inb_of s905 ⟨(by decide), (by decide)⟩) rfl rfl (hb hby at_423) ?_
        intro T905 h905 X905 e905 W905
        have z906 : h901.size ≤ h905.size := (Keep.of_wr W905).1
        rw [(dch_narc _)] at W905
        have V905 : Arv Z h905 b797 k797 .char (9 : Int32) [(.int ca), (.int cb), (.int (58 : Int32)), (.int (dch (po / 10000))), (.int (dch (po / 1000))), (.int (dch (po / 100))), (.int (dch (po / 10))), (.int (dch po)), (.int (0 : Int32))] (.int (0 : Int32)) := Arv.set a905 q905 s905 m905 H905 U905 (dch_fitc _) W905 7 rfl (Nat.le_of_ble_eq_true rfl)
        have N905 := Fr.snoc X905 N901 (own_ale om801)
        refine Gl.go (fun _ hr => zXS_iload X905.here hx rfl (hb hby at_424) rfl (zXS_iconst X905.here hx rfl (hb hby at_426) (zXS_iadd X905.here hx rfl (hb hby at_427) rfl (zXS_iload X905.here hx rfl (hb hby at_428) rfl (zXS_iadd X905.here hx rfl (hb hby at_430) rfl (zXS_istore X905.here hx rfl (hb hby at_431) rfl (l' := #[sI i0, sI i1, sI i2, sI i3, sI i4, sI 2, sI ca, sI cb, sI cc, s9, sR x, sI (Int32.ofNat po), sR r_536, sI 5, sR b554, sR b797, sI 8]) rfl hr)))))) ?_
        have hto : (naT hs po).length = 8 := by rw [hhs, naT, show digs po = [dch (po / 10000), dch (po / 1000), dch (po / 100), dch (po / 10), dch po] from by rw [digs, if_neg (by omega), if_neg (by omega), if_neg (by omega), if_neg (by omega)]]; rfl
        have om907 : @LE.le Nat instLENat h0.size b528 := by omega
        have om908 : @LE.le Nat instLENat h0.size b554 := by omega
        have Ec909 := (((((((((((((((f536_1.ext E554).wr W556).wr W559).wr W561).wr W563).wr W565).ext E797).wr W804).wr W806).wr W808).wr W889).wr W893).wr W897).wr W901).wr W905)
        have om910 : ¬ @Eq Nat r_536 b554 := by omega
        have Fc911 := (((((((((((((((f536_2.ext E554).other W556 (Or.inl (own_ane om910))).other W559 (Or.inl (own_ane om910))).other W561 (Or.inl (own_ane om910))).other W563 (Or.inl (own_ane om910))).other W565 (Or.inl (own_ane om910))).ext E797).other W804 (Or.inl (own_ane om799))).other W806 (Or.inl (own_ane om799))).other W808 (Or.inl (own_ane om799))).other W889 (Or.inl (own_ane om799))).other W893 (Or.inl (own_ane om799))).other W897 (Or.inl (own_ane om799))).other W901 (Or.inl (own_ane om799))).other W905 (Or.inl (own_ane om799)))
        have Fc912 := (((((((((((((((f536_3.ext E554).other W556 (Or.inl (own_ane om910))).other W559 (Or.inl (own_ane om910))).other W561 (Or.inl (own_ane om910))).other W563 (Or.inl (own_ane om910))).other W565 (Or.inl (own_ane om910))).ext E797).other W804 (Or.inl (own_ane om799))).other W806 (Or.inl (own_ane om799))).other W808 (Or.inl (own_ane om799))).other W889 (Or.inl (own_ane om799))).other W893 (Or.inl (own_ane om799))).other W897 (Or.inl (own_ane om799))).other W901 (Or.inl (own_ane om799))).other W905 (Or.inl (own_ane om799)))
        have om913 : ¬ @Eq Nat t2_536 b554 := by omega
        have Vc914 := (((((((((((((((f536_4.ext E554).other W556 (own_ane om913)).other W559 (own_ane om913)).other W561 (own_ane om913)).other W563 (own_ane om913)).other W565 (own_ane om913)).ext E797).other W804 (own_ane om800)).other W806 (own_ane om800)).other W808 (own_ane om800)).other W889 (own_ane om800)).other W893 (own_ane om800)).other W897 (own_ane om800)).other W901 (own_ane om800)).other W905 (own_ane om800))
        exact tB T905 h905 _ T536.vm _ r_536 t2_536 kr_536 N2_536 vs2_536 (naT hs po) b797 k797 ([(.int ca), (.int cb), (.int (58 : Int32)), (.int (dch (po / 10000))), (.int (dch (po / 1000))), (.int (dch (po / 100))), (.int (dch (po / 10))), (.int (dch po)), (.int (0 : Int32))]) 8 (sI 2) (sI ca) (sI cb) (sI cc) s9 (sR x) (sI (Int32.ofNat po)) (sI 5) (sR b554) N905 (X905.more (by decide) (by decide)) e905 ((((((((((((((((((((Keep.refl h0 []).trans Kc all0).ext E528).trans K530 (allS (P := fun x_ => x_ ∈ ([] : List Addr) ∨ h0.size ≤ x_) (Or.inr (own_ale om907)) all0)).trans K536 all0).ext E554).wr W556 (Or.inr (own_ale om908))).wr W559 (Or.inr (own_ale om908))).wr W561 (Or.inr (own_ale om908))).wr W563 (Or.inr (own_ale om908))).wr W565 (Or.inr (own_ale om908))).ext E797).wr W804 (Or.inr (own_ale om802))).wr W806 (Or.inr (own_ale om802))).wr W808 (Or.inr (own_ale om802))).wr W889 (Or.inr (own_ale om802))).wr W893 (Or.inr (own_ale om802))).wr W897 (Or.inr (own_ale om802))).wr W901 (Or.inr (own_ale om802))).wr W905 (Or.inr (own_ale om802))) hS536 (by have q := hk536; omega) hZ536 hown536 Ec909 Fc911 Fc912 Vc914 V905 f536_5 (naT_lat hlatA) hto (by decide) (own_hes (zs := List.replicate 1 (.int 0)) (by rw [hhs, naT, show digs po = [dch (po / 10000), dch (po / 1000), dch (po / 100), dch (po / 10), dch po] from by rw [digs, if_neg (by omega), if_neg (by omega), if_neg (by omega), if_neg (by omega)]]; rfl) hto)
    · show Gl p.tables e below _ (T565.setTop (mkF m 252 #[sI i0, sI i1, sI i2, sI i3, sI i4, sI 3, sI ca, sI cb, sI cc, s9, sR x, sI (Int32.ofNat po), sR r_536, sI (Int32.ofNat (nd po)), sR b554, sU, sU] []))
      refine Gl.go (fun _ hr => zXS_bipush X565.here hx rfl (hb hby at_252) hr) ?_
      refine gNewP Gl.cl X565 hx hZ536 (tw hw 0 rfl) e565 rfl (hb hby at_254) rfl (by decide) (cap := 9) (by decide) (by decide) (by decide) (by decide) ?_
      intro T915 h915 b915 k915 g915 X915 e915 E915 A915
      have z916 : h565.size ≤ h915.size := E915.1
      have lt915 := own_alt A915.lt
      have V915 : Arv Z h915 b915 k915 .char (9 : Int32) [(.int (0 : Int32)), (.int (0 : Int32)), (.int (0 : Int32)), (.int (0 : Int32)), (.int (0 : Int32)), (.int (0 : Int32)), (.int (0 : Int32)), (.int (0 : Int32)), (.int (0 : Int32))] (.int (0 : Int32)) := (Arv.new A915 (by decide)).pad (pad_rep [] (.int (0 : Int32)) 9)
      refine Gl.go (fun _ hr => zXS_astore X915.here hx rfl (hb hby at_256) rfl rfl (l' := #[sI i0, sI i1, sI i2, sI i3, sI i4, sI 3, sI ca, sI cb, sI cc, s9, sR x, sI (Int32.ofNat po), sR r_536, sI (Int32.ofNat (nd po)), sR b554, sR b915, sU]) rfl hr) ?_
      have om917 : ¬ @Eq Nat r_536 b915 := by omega
      have om918 : ¬ @Eq Nat t2_536 b915 := by omega
      have om919 : @LE.le Nat instLENat n0 b915 := by omega
      have om920 : @LE.le Nat instLENat h0.size b915 := by omega
      have om921 : @LE.le Nat instLENat Z.heap.size b915 := by omega
      refine Gl.go (fun _ hr => zXS_iload X915.here hx rfl (hb hby at_258) rfl (zXS_ifNo X915.here hx rfl (hb hby at_260) rfl (XT.i0_le_f (by decide)) (zXS_aload X915.here hx rfl (hb hby at_263) rfl rfl (zXS_iconst X915.here hx rfl (hb hby at_265) (zXS_iload X915.here hx rfl (hb hby at_266) rfl hr))))) ?_
      obtain ⟨c922, a922, q922, s922, m922, H922, U922⟩ := id V915
      refine gstC Gl.cl X915 hx hZ536 e915 a922 (j := (0 : Int32)) (inb_of s922 ⟨(by decide), (by decide)⟩) rfl rfl (hb hby at_268) ?_
      intro T922 h922 X922 e922 W922
      have z923 : h915.size ≤ h922.size := (Keep.of_wr W922).1
      rw [hca.2] at W922
      have V922 : Arv Z h922 b915 k915 .char (9 : Int32) [(.int ca), (.int (0 : Int32)), (.int (0 : Int32)), (.int (0 : Int32)), (.int (0 : Int32)), (.int (0 : Int32)), (.int (0 : Int32)), (.int (0 : Int32)), (.int (0 : Int32))] (.int (0 : Int32)) := Arv.set a922 q922 s922 m922 H922 U922 (own_fitn hca.2) W922 0 rfl (Nat.le_of_ble_eq_true rfl)
      have N922 := Fr.snoc X922 N565 (own_ale om919)
      refine Gl.go (fun _ hr => zXS_iload X922.here hx rfl (hb hby at_269) rfl (zXS_iconst X922.here hx rfl (hb hby at_271) (zXS_icmpNo X922.here hx rfl (hb hby at_272) rfl (XT.ii_le_f (by decide)) (zXS_aload X922.here hx rfl (hb hby at_275) rfl rfl (zXS_iconst X922.here hx rfl (hb hby at_277) (zXS_iload X922.here hx rfl (hb hby at_278) rfl hr)))))) ?_
      obtain ⟨c924, a924, q924, s924, m924, H924, U924⟩ := id V922
      refine gstC Gl.cl X922 hx hZ536 e922 a924 (j := (1 : Int32)) (inb_of s924 ⟨(by decide), (by decide)⟩) rfl rfl (hb hby at_280) ?_
      intro T924 h924 X924 e924 W924
      have z925 : h922.size ≤ h924.size := (Keep.of_wr W924).1
      rw [hcb.2] at W924
      have V924 : Arv Z h924 b915 k915 .char (9 : Int32) [(.int ca), (.int cb), (.int (0 : Int32)), (.int (0 : Int32)), (.int (0 : Int32)), (.int (0 : Int32)), (.int (0 : Int32)), (.int (0 : Int32)), (.int (0 : Int32))] (.int (0 : Int32)) := Arv.set a924 q924 s924 m924 H924 U924 (own_fitn hcb.2) W924 1 rfl (Nat.le_of_ble_eq_true rfl)
      have N924 := Fr.snoc X924 N922 (own_ale om919)
      refine Gl.go (fun _ hr => zXS_iload X924.here hx rfl (hb hby at_281) rfl (zXS_iconst X924.here hx rfl (hb hby at_283) (zXS_icmpNo X924.here hx rfl (hb hby at_284) rfl (XT.ii_le_f (by decide)) (zXS_aload X924.here hx rfl (hb hby at_287) rfl rfl (zXS_iconst X924.here hx rfl (hb hby at_289) (zXS_iload X924.here hx rfl (hb hby at_290) rfl hr)))))) ?_
      obtain ⟨c926, a926, q926, s926, m926, H926, U926⟩ := id V924
      refine gstC Gl.cl X924 hx hZ536 e924 a926 (j := (2 : Int32)) (inb_of s926 ⟨(by decide), (by decide)⟩) rfl rfl (hb hby at_292) ?_
      intro T926 h926 X926 e926 W926
      have z927 : h924.size ≤ h926.size := (Keep.of_wr W926).1
      rw [hcc.2] at W926
      have V926 : Arv Z h926 b915 k915 .char (9 : Int32) [(.int ca), (.int cb), (.int cc), (.int (0 : Int32)), (.int (0 : Int32)), (.int (0 : Int32)), (.int (0 : Int32)), (.int (0 : Int32)), (.int (0 : Int32))] (.int (0 : Int32)) := Arv.set a926 q926 s926 m926 H926 U926 (own_fitn hcc.2) W926 2 rfl (Nat.le_of_ble_eq_true rfl)
      have N926 := Fr.snoc X926 N924 (own_ale om919)
      refine Gl.go (fun _ hr => zXS_aload X926.here hx rfl (hb hby at_293) rfl rfl (zXS_iload X926.here hx rfl (hb hby at_295) rfl (zXS_bipush X926.here hx rfl (hb hby at_297) hr))) ?_
      obtain ⟨c928, a928, q928, s928, m928, H928, U928⟩ := id V926
      refine gstC Gl.cl X926 hx hZ536 e926 a928 (j := (3 : Int32)) (inb_of s928 ⟨(by decide), (by decide)⟩) rfl rfl (hb hby at_299) ?_
      intro T928 h928 X928 e928 W928
      have z929 : h926.size ≤ h928.size := (Keep.of_wr W928).1
      have V928 : Arv Z h928 b915 k915 .char (9 : Int32) [(.int ca), (.int cb), (.int cc), (.int (58 : Int32)), (.int (0 : Int32)), (.int (0 : Int32)), (.int (0 : Int32)), (.int (0 : Int32)), (.int (0 : Int32))] (.int (0 : Int32)) := Arv.set a928 q928 s928 m928 H928 U928 rfl W928 3 rfl (Nat.le_of_ble_eq_true rfl)
      have N928 := Fr.snoc X928 N926 (own_ale om919)
      show Gl p.tables e below _ (T928.setTop (mkF m 300 #[sI i0, sI i1, sI i2, sI i3, sI i4, sI 3, sI ca, sI cb, sI cc, s9, sR x, sI (Int32.ofNat po), sR r_536, sI (Int32.ofNat (nd po)), sR b554, sR b915, sU] []))
      rcases own_five po with ⟨hb1, hnd⟩ | ⟨hb1, hnd⟩ | ⟨hb1, hnd⟩ | ⟨hb1, hnd⟩ | ⟨hb1, hnd⟩
      · rw [hnd]
        show Gl p.tables e below _ (T928.setTop (mkF m 300 #[sI i0, sI i1, sI i2, sI i3, sI i4, sI 3, sI ca, sI cb, sI cc, s9, sR x, sI (Int32.ofNat po), sR r_536, sI 1, sR b554, sR b915, sU] []))
        refine Gl.go (fun _ hr => zXS_iconst X928.here hx rfl (hb hby at_300) (zXS_iload X928.here hx rfl (hb hby at_301) rfl (zXS_icmpNo X928.here hx rfl (hb hby at_303) rfl (XT.ii_ge_f (by decide)) (zXS_aload X928.here hx rfl (hb hby at_306) rfl rfl (zXS_iload X928.here hx rfl (hb hby at_308) rfl (zXS_iconst X928.here hx rfl (hb hby at_310) (zXS_iadd X928.here hx rfl (hb hby at_311) rfl (zXS_bipush X928.here hx rfl (hb hby at_312) (zXS_aload X928.here hx rfl (hb hby at_314) rfl rfl (zXS_iconst X928.here hx rfl (hb hby at_316) hr)))))))))) ?_
        refine Gl.go (fun _ hr => zXS_iload X928.here hx rfl (hb hby at_317) rfl (zXS_isub X928.here hx rfl (hb hby at_319) rfl hr)) ?_
        have om930 : ¬ @Eq Nat b554 b915 := by omega
        have Vc931 := (((((V565.ext E915).other W922 (own_ane om930)).other W924 (own_ane om930)).other W926 (own_ane om930)).other W928 (own_ane om930))
        obtain ⟨c932, a932, q932, s932, m932, H932, U932⟩ := id Vc931
        have i932 := inb_of s932 (j := (4 : Int32)) ⟨(by decide), (by decide)⟩
        refine g_iaload Gl.cl X928 hx hZ536 e928 a932 i932 (v := (.int (Int32.ofNat (po % 10)))) (H932.at i932 rfl) rfl rfl (hb hby at_320) ?_
        refine Gl.go (fun _ hr => zXS_iadd X928.here hx rfl (hb hby at_321) rfl (zXT_i2c X928.here hx rfl (hb hby at_322) rfl hr)) ?_
        show Gl p.tables e below _ (T928.setTop (mkF m 323 #[sI i0, sI i1, sI i2, sI i3, sI i4, sI 3, sI ca, sI cb, sI cc, s9, sR x, sI (Int32.ofNat po), sR r_536, sI 1, sR b554, sR b915, sU] [(.int (((48 : Int32) + (Int32.ofNat (po % 10))).toUInt32.toUInt16.toUInt32.toInt32)), (.int (4 : Int32)), (.ref b915)]))
        rw [(own_chr po)]
        show Gl p.tables e below _ (T928.setTop (mkF m 323 #[sI i0, sI i1, sI i2, sI i3, sI i4, sI 3, sI ca, sI cb, sI cc, s9, sR x, sI (Int32.ofNat po), sR r_536, sI 1, sR b554, sR b915, sU] [(.int (dch po)), (.int (4 : Int32)), (.ref b915)]))
        obtain ⟨c933, a933, q933, s933, m933, H933, U933⟩ := id V928
        refine gstC Gl.cl X928 hx hZ536 e928 a933 (j := (4 : Int32)) (inb_of s933 ⟨(by decide), (by decide)⟩) rfl rfl (hb hby at_323) ?_
        intro T933 h933 X933 e933 W933
        have z934 : h928.size ≤ h933.size := (Keep.of_wr W933).1
        rw [(dch_narc _)] at W933
        have V933 : Arv Z h933 b915 k915 .char (9 : Int32) [(.int ca), (.int cb), (.int cc), (.int (58 : Int32)), (.int (dch po)), (.int (0 : Int32)), (.int (0 : Int32)), (.int (0 : Int32)), (.int (0 : Int32))] (.int (0 : Int32)) := Arv.set a933 q933 s933 m933 H933 U933 (dch_fitc _) W933 4 rfl (Nat.le_of_ble_eq_true rfl)
        have N933 := Fr.snoc X933 N928 (own_ale om919)
        refine Gl.go (fun _ hr => zXS_iconst X933.here hx rfl (hb hby at_324) (zXS_iload X933.here hx rfl (hb hby at_325) rfl (zXS_icmpYes X933.here hx rfl (pc0 := 327) (pc' := 349) rfl (hb hby at_327) rfl (XT.ii_ge_t (by decide)) (by decide) (by decide) (zXS_iconst X933.here hx rfl (hb hby at_349) (zXS_iload X933.here hx rfl (hb hby at_350) rfl (zXS_icmpYes X933.here hx rfl (pc0 := 352) (pc' := 374) rfl (hb hby at_352) rfl (XT.ii_ge_t (by decide)) (by decide) (by decide) (zXS_iconst X933.here hx rfl (hb hby at_374) (zXS_iload X933.here hx rfl (hb hby at_375) rfl (zXS_icmpYes X933.here hx rfl (pc0 := 377) (pc' := 399) rfl (hb hby at_377) rfl (XT.ii_ge_t (by decide)) (by decide) (by decide) (zXS_iconst X933.here hx rfl (hb hby at_399) hr)))))))))) ?_
        refine Gl.go (fun _ hr => zXS_iload X933.here hx rfl (hb hby at_400) rfl (zXS_icmpYes X933.here hx rfl (pc0 := 402) (pc' := 424) rfl (hb hby at_402) rfl (XT.ii_ge_t (by decide)) (by decide) (by decide) (zXS_iload X933.here hx rfl (hb hby at_424) rfl (zXS_iconst X933.here hx rfl (hb hby at_426) (zXS_iadd X933.here hx rfl (hb hby at_427) rfl (zXS_iload X933.here hx rfl (hb hby at_428) rfl (zXS_iadd X933.here hx rfl (hb hby at_430) rfl (zXS_istore X933.here hx rfl (hb hby at_431) rfl (l' := #[sI i0, sI i1, sI i2, sI i3, sI i4, sI 3, sI ca, sI cb, sI cc, s9, sR x, sI (Int32.ofNat po), sR r_536, sI 1, sR b554, sR b915, sI 5]) rfl hr)))))))) ?_
        have hto : (naT hs po).length = 5 := by rw [hhs, naT, show digs po = [dch po] from by rw [digs, if_pos (by omega)]]; rfl
        have om935 : @LE.le Nat instLENat h0.size b528 := by omega
        have om936 : @LE.le Nat instLENat h0.size b554 := by omega
        have Ec937 := ((((((((((((f536_1.ext E554).wr W556).wr W559).wr W561).wr W563).wr W565).ext E915).wr W922).wr W924).wr W926).wr W928).wr W933)
        have om938 : ¬ @Eq Nat r_536 b554 := by omega
        have Fc939 := ((((((((((((f536_2.ext E554).other W556 (Or.inl (own_ane om938))).other W559 (Or.inl (own_ane om938))).other W561 (Or.inl (own_ane om938))).other W563 (Or.inl (own_ane om938))).other W565 (Or.inl (own_ane om938))).ext E915).other W922 (Or.inl (own_ane om917))).other W924 (Or.inl (own_ane om917))).other W926 (Or.inl (own_ane om917))).other W928 (Or.inl (own_ane om917))).other W933 (Or.inl (own_ane om917)))
        have Fc940 := ((((((((((((f536_3.ext E554).other W556 (Or.inl (own_ane om938))).other W559 (Or.inl (own_ane om938))).other W561 (Or.inl (own_ane om938))).other W563 (Or.inl (own_ane om938))).other W565 (Or.inl (own_ane om938))).ext E915).other W922 (Or.inl (own_ane om917))).other W924 (Or.inl (own_ane om917))).other W926 (Or.inl (own_ane om917))).other W928 (Or.inl (own_ane om917))).other W933 (Or.inl (own_ane om917)))
        have om941 : ¬ @Eq Nat t2_536 b554 := by omega
        have Vc942 := ((((((((((((f536_4.ext E554).other W556 (own_ane om941)).other W559 (own_ane om941)).other W561 (own_ane om941)).other W563 (own_ane om941)).other W565 (own_ane om941)).ext E915).other W922 (own_ane om918)).other W924 (own_ane om918)).other W926 (own_ane om918)).other W928 (own_ane om918)).other W933 (own_ane om918))
        exact tB T933 h933 _ T536.vm _ r_536 t2_536 kr_536 N2_536 vs2_536 (naT hs po) b915 k915 ([(.int ca), (.int cb), (.int cc), (.int (58 : Int32)), (.int (dch po)), (.int (0 : Int32)), (.int (0 : Int32)), (.int (0 : Int32)), (.int (0 : Int32))]) 5 (sI 3) (sI ca) (sI cb) (sI cc) s9 (sR x) (sI (Int32.ofNat po)) (sI 1) (sR b554) N933 (X933.more (by decide) (by decide)) e933 (((((((((((((((((Keep.refl h0 []).trans Kc all0).ext E528).trans K530 (allS (P := fun x_ => x_ ∈ ([] : List Addr) ∨ h0.size ≤ x_) (Or.inr (own_ale om935)) all0)).trans K536 all0).ext E554).wr W556 (Or.inr (own_ale om936))).wr W559 (Or.inr (own_ale om936))).wr W561 (Or.inr (own_ale om936))).wr W563 (Or.inr (own_ale om936))).wr W565 (Or.inr (own_ale om936))).ext E915).wr W922 (Or.inr (own_ale om920))).wr W924 (Or.inr (own_ale om920))).wr W926 (Or.inr (own_ale om920))).wr W928 (Or.inr (own_ale om920))).wr W933 (Or.inr (own_ale om920))) hS536 (by have q := hk536; omega) hZ536 hown536 Ec937 Fc939 Fc940 Vc942 V933 f536_5 (naT_lat hlatA) hto (by decide) (own_hes (zs := List.replicate 4 (.int 0)) (by rw [hhs, naT, show digs po = [dch po] from by rw [digs, if_pos (by omega)]]; rfl) hto)
      · rw [hnd]
        show Gl p.tables e below _ (T928.setTop (mkF m 300 #[sI i0, sI i1, sI i2, sI i3, sI i4, sI 3, sI ca, sI cb, sI cc, s9, sR x, sI (Int32.ofNat po), sR r_536, sI 2, sR b554, sR b915, sU] []))
        refine Gl.go (fun _ hr => zXS_iconst X928.here hx rfl (hb hby at_300) (zXS_iload X928.here hx rfl (hb hby at_301) rfl (zXS_icmpNo X928.here hx rfl (hb hby at_303) rfl (XT.ii_ge_f (by decide)) (zXS_aload X928.here hx rfl (hb hby at_306) rfl rfl (zXS_iload X928.here hx rfl (hb hby at_308) rfl (zXS_iconst X928.here hx rfl (hb hby at_310) (zXS_iadd X928.here hx rfl (hb hby at_311) rfl (zXS_bipush X928.here hx rfl (hb hby at_312) (zXS_aload X928.here hx rfl (hb hby at_314) rfl rfl (zXS_iconst X928.here hx rfl (hb hby at_316) hr)))))))))) ?_
        refine Gl.go (fun _ hr => zXS_iload X928.here hx rfl (hb hby at_317) rfl (zXS_isub X928.here hx rfl (hb hby at_319) rfl hr)) ?_
        have om943 : ¬ @Eq Nat b554 b915 := by omega
        have Vc944 := (((((V565.ext E915).other W922 (own_ane om943)).other W924 (own_ane om943)).other W926 (own_ane om943)).other W928 (own_ane om943))
        obtain ⟨c945, a945, q945, s945, m945, H945, U945⟩ := id Vc944
        have i945 := inb_of s945 (j := (3 : Int32)) ⟨(by decide), (by decide)⟩
        refine g_iaload Gl.cl X928 hx hZ536 e928 a945 i945 (v := (.int (Int32.ofNat (po / 10 % 10)))) (H945.at i945 rfl) rfl rfl (hb hby at_320) ?_
        refine Gl.go (fun _ hr => zXS_iadd X928.here hx rfl (hb hby at_321) rfl (zXT_i2c X928.here hx rfl (hb hby at_322) rfl hr)) ?_
        show Gl p.tables e below _ (T928.setTop (mkF m 323 #[sI i0, sI i1, sI i2, sI i3, sI i4, sI 3, sI ca, sI cb, sI cc, s9, sR x, sI (Int32.ofNat po), sR r_536, sI 2, sR b554, sR b915, sU] [(.int (((48 : Int32) + (Int32.ofNat (po / 10 % 10))).toUInt32.toUInt16.toUInt32.toInt32)), (.int (4 : Int32)), (.ref b915)]))
        rw [(own_chr (po / 10))]
        show Gl p.tables e below _ (T928.setTop (mkF m 323 #[sI i0, sI i1, sI i2, sI i3, sI i4, sI 3, sI ca, sI cb, sI cc, s9, sR x, sI (Int32.ofNat po), sR r_536, sI 2, sR b554, sR b915, sU] [(.int (dch (po / 10))), (.int (4 : Int32)), (.ref b915)]))
        obtain ⟨c946, a946, q946, s946, m946, H946, U946⟩ := id V928
        refine gstC Gl.cl X928 hx hZ536 e928 a946 (j := (4 : Int32)) (inb_of s946 ⟨(by decide), (by decide)⟩) rfl rfl (hb hby at_323) ?_
        intro T946 h946 X946 e946 W946
        have z947 : h928.size ≤ h946.size := (Keep.of_wr W946).1
        rw [(dch_narc _)] at W946
        have V946 : Arv Z h946 b915 k915 .char (9 : Int32) [(.int ca), (.int cb), (.int cc), (.int (58 : Int32)), (.int (dch (po / 10))), (.int (0 : Int32)), (.int (0 : Int32)), (.int (0 : Int32)), (.int (0 : Int32))] (.int (0 : Int32)) := Arv.set a946 q946 s946 m946 H946 U946 (dch_fitc _) W946 4 rfl (Nat.le_of_ble_eq_true rfl)
        have N946 := Fr.snoc X946 N928 (own_ale om919)
        refine Gl.go (fun _ hr => zXS_iconst X946.here hx rfl (hb hby at_324) (zXS_iload X946.here hx rfl (hb hby at_325) rfl (zXS_icmpNo X946.here hx rfl (hb hby at_327) rfl (XT.ii_ge_f (by decide)) (zXS_aload X946.here hx rfl (hb hby at_330) rfl rfl (zXS_iload X946.here hx rfl (hb hby at_332) rfl (zXS_iconst X946.here hx rfl (hb hby at_334) (zXS_iadd X946.here hx rfl (hb hby at_335) rfl (zXS_bipush X946.here hx rfl (hb hby at_336) (zXS_aload X946.here hx rfl (hb hby at_338) rfl rfl (zXS_bipush X946.here hx rfl (hb hby at_340) hr)))))))))) ?_
        refine Gl.go (fun _ hr => zXS_iload X946.here hx rfl (hb hby at_342) rfl (zXS_isub X946.here hx rfl (hb hby at_344) rfl hr)) ?_
        have Vc948 := (Vc944.other W946 (own_ane om943))
        obtain ⟨c949, a949, q949, s949, m949, H949, U949⟩ := id Vc948
        have i949 := inb_of s949 (j := (4 : Int32)) ⟨(by decide), (by decide)⟩
        refine g_iaload Gl.cl X946 hx hZ536 e946 a949 i949 (v := (.int (Int32.ofNat (po % 10)))) (H949.at i949 rfl) rfl rfl (hb hby at_345) ?_
        refine Gl.go (fun _ hr => zXS_iadd X946.here hx rfl (hb hby at_346) rfl (zXT_i2c X946.here hx rfl (hb hby at_347) rfl hr)) ?_
        show Gl p.tables e below _ (T946.setTop (mkF m 348 #[sI i0, sI i1, sI i2, sI i3, sI i4, sI 3, sI ca, sI cb, sI cc, s9, sR x, sI (Int32.ofNat po), sR r_536, sI 2, sR b554, sR b915, sU] [(.int (((48 : Int32) + (Int32.ofNat (po % 10))).toUInt32.toUInt16.toUInt32.toInt32)), (.int (5 : Int32)), (.ref b915)]))
        rw [(own_chr po)]
        show Gl p.tables e below _ (T946.setTop (mkF m 348 #[sI i0, sI i1, sI i2, sI i3, sI i4, sI 3, sI ca, sI cb, sI cc, s9, sR x, sI (Int32.ofNat po), sR r_536, sI 2, sR b554, sR b915, sU] [(.int (dch po)), (.int (5 : Int32)), (.ref b915)]))
        obtain ⟨c950, a950, q950, s950, m950, H950, U950⟩ := id V946
        refine gstC Gl.cl X946 hx hZ536 e946 a950 (j := (5 : Int32)) (inb_of s950 ⟨(by decide), (by decide)⟩) rfl rfl (hb hby at_348) ?_
        intro T950 h950 X950 e950 W950
        have z951 : h946.size ≤ h950.size := (Keep.of_wr W950).1
        rw [(dch_narc _)] at W950
        have V950 : Arv Z h950 b915 k915 .char (9 : Int32) [(.int ca), (.int cb), (.int cc), (.int (58 : Int32)), (.int (dch (po / 10))), (.int (dch po)), (.int (0 : Int32)), (.int (0 : Int32)), (.int (0 : Int32))] (.int (0 : Int32)) := Arv.set a950 q950 s950 m950 H950 U950 (dch_fitc _) W950 5 rfl (Nat.le_of_ble_eq_true rfl)
        have N950 := Fr.snoc X950 N946 (own_ale om919)
        refine Gl.go (fun _ hr => zXS_iconst X950.here hx rfl (hb hby at_349) (zXS_iload X950.here hx rfl (hb hby at_350) rfl (zXS_icmpYes X950.here hx rfl (pc0 := 352) (pc' := 374) rfl (hb hby at_352) rfl (XT.ii_ge_t (by decide)) (by decide) (by decide) (zXS_iconst X950.here hx rfl (hb hby at_374) (zXS_iload X950.here hx rfl (hb hby at_375) rfl (zXS_icmpYes X950.here hx rfl (pc0 := 377) (pc' := 399) rfl (hb hby at_377) rfl (XT.ii_ge_t (by decide)) (by decide) (by decide) (zXS_iconst X950.here hx rfl (hb hby at_399) (zXS_iload X950.here hx rfl (hb hby at_400) rfl (zXS_icmpYes X950.here hx rfl (pc0 := 402) (pc' := 424) rfl (hb hby at_402) rfl (XT.ii_ge_t (by decide)) (by decide) (by decide) (zXS_iload X950.here hx rfl (hb hby at_424) rfl hr)))))))))) ?_
        refine Gl.go (fun _ hr => zXS_iconst X950.here hx rfl (hb hby at_426) (zXS_iadd X950.here hx rfl (hb hby at_427) rfl (zXS_iload X950.here hx rfl (hb hby at_428) rfl (zXS_iadd X950.here hx rfl (hb hby at_430) rfl (zXS_istore X950.here hx rfl (hb hby at_431) rfl (l' := #[sI i0, sI i1, sI i2, sI i3, sI i4, sI 3, sI ca, sI cb, sI cc, s9, sR x, sI (Int32.ofNat po), sR r_536, sI 2, sR b554, sR b915, sI 6]) rfl hr))))) ?_
        have hto : (naT hs po).length = 6 := by rw [hhs, naT, show digs po = [dch (po / 10), dch po] from by rw [digs, if_neg (by omega), if_pos (by omega)]]; rfl
        have om952 : @LE.le Nat instLENat h0.size b528 := by omega
        have om953 : @LE.le Nat instLENat h0.size b554 := by omega
        have Ec954 := (((((((((((((f536_1.ext E554).wr W556).wr W559).wr W561).wr W563).wr W565).ext E915).wr W922).wr W924).wr W926).wr W928).wr W946).wr W950)
        have om955 : ¬ @Eq Nat r_536 b554 := by omega
        have Fc956 := (((((((((((((f536_2.ext E554).other W556 (Or.inl (own_ane om955))).other W559 (Or.inl (own_ane om955))).other W561 (Or.inl (own_ane om955))).other W563 (Or.inl (own_ane om955))).other W565 (Or.inl (own_ane om955))).ext E915).other W922 (Or.inl (own_ane om917))).other W924 (Or.inl (own_ane om917))).other W926 (Or.inl (own_ane om917))).other W928 (Or.inl (own_ane om917))).other W946 (Or.inl (own_ane om917))).other W950 (Or.inl (own_ane om917)))
        have Fc957 := (((((((((((((f536_3.ext E554).other W556 (Or.inl (own_ane om955))).other W559 (Or.inl (own_ane om955))).other W561 (Or.inl (own_ane om955))).other W563 (Or.inl (own_ane om955))).other W565 (Or.inl (own_ane om955))).ext E915).other W922 (Or.inl (own_ane om917))).other W924 (Or.inl (own_ane om917))).other W926 (Or.inl (own_ane om917))).other W928 (Or.inl (own_ane om917))).other W946 (Or.inl (own_ane om917))).other W950 (Or.inl (own_ane om917)))
        have om958 : ¬ @Eq Nat t2_536 b554 := by omega
        have Vc959 := (((((((((((((f536_4.ext E554).other W556 (own_ane om958)).other W559 (own_ane om958)).other W561 (own_ane om958)).other W563 (own_ane om958)).other W565 (own_ane om958)).ext E915).other W922 (own_ane om918)).other W924 (own_ane om918)).other W926 (own_ane om918)).other W928 (own_ane om918)).other W946 (own_ane om918)).other W950 (own_ane om918))
        exact tB T950 h950 _ T536.vm _ r_536 t2_536 kr_536 N2_536 vs2_536 (naT hs po) b915 k915 ([(.int ca), (.int cb), (.int cc), (.int (58 : Int32)), (.int (dch (po / 10))), (.int (dch po)), (.int (0 : Int32)), (.int (0 : Int32)), (.int (0 : Int32))]) 6 (sI 3) (sI ca) (sI cb) (sI cc) s9 (sR x) (sI (Int32.ofNat po)) (sI 2) (sR b554) N950 (X950.more (by decide) (by decide)) e950 ((((((((((((((((((Keep.refl h0 []).trans Kc all0).ext E528).trans K530 (allS (P := fun x_ => x_ ∈ ([] : List Addr) ∨ h0.size ≤ x_) (Or.inr (own_ale om952)) all0)).trans K536 all0).ext E554).wr W556 (Or.inr (own_ale om953))).wr W559 (Or.inr (own_ale om953))).wr W561 (Or.inr (own_ale om953))).wr W563 (Or.inr (own_ale om953))).wr W565 (Or.inr (own_ale om953))).ext E915).wr W922 (Or.inr (own_ale om920))).wr W924 (Or.inr (own_ale om920))).wr W926 (Or.inr (own_ale om920))).wr W928 (Or.inr (own_ale om920))).wr W946 (Or.inr (own_ale om920))).wr W950 (Or.inr (own_ale om920))) hS536 (by have q := hk536; omega) hZ536 hown536 Ec954 Fc956 Fc957 Vc959 V950 f536_5 (naT_lat hlatA) hto (by decide) (own_hes (zs := List.replicate 3 (.int 0)) (by rw [hhs, naT, show digs po = [dch (po / 10), dch po] from by rw [digs, if_neg (by omega), if_pos (by omega)]]; rfl) hto)
      · rw [hnd]
        show Gl p.tables e below _ (T928.setTop (mkF m 300 #[sI i0, sI i1, sI i2, sI i3, sI i4, sI 3, sI ca, sI cb, sI cc, s9, sR x, sI (Int32.ofNat po), sR r_536, sI 3, sR b554, sR b915, sU] []))
        refine Gl.go (fun _ hr => zXS_iconst X928.here hx rfl (hb hby at_300) (zXS_iload X928.here hx rfl (hb hby at_301) rfl (zXS_icmpNo X928.here hx rfl (hb hby at_303) rfl (XT.ii_ge_f (by decide)) (zXS_aload X928.here hx rfl (hb hby at_306) rfl rfl (zXS_iload X928.here hx rfl (hb hby at_308) rfl (zXS_iconst X928.here hx rfl (hb hby at_310) (zXS_iadd X928.here hx rfl (hb hby at_311) rfl (zXS_bipush X928.here hx rfl (hb hby at_312) (zXS_aload X928.here hx rfl (hb hby at_314) rfl rfl (zXS_iconst X928.here hx rfl (hb hby at_316) hr)))))))))) ?_
        refine Gl.go (fun _ hr => zXS_iload X928.here hx rfl (hb hby at_317) rfl (zXS_isub X928.here hx rfl (hb hby at_319) rfl hr)) ?_
        have om960 : ¬ @Eq Nat b554 b915 := by omega
        have Vc961 := (((((V565.ext E915).other W922 (own_ane om960)).other W924 (own_ane om960)).other W926 (own_ane om960)).other W928 (own_ane om960))
        obtain ⟨c962, a962, q962, s962, m962, H962, U962⟩ := id Vc961
        have i962 := inb_of s962 (j := (2 : Int32)) ⟨(by decide), (by decide)⟩
        refine g_iaload Gl.cl X928 hx hZ536 e928 a962 i962 (v := (.int (Int32.ofNat (po / 100 % 10)))) (H962.at i962 rfl) rfl rfl (hb hby at_320) ?_
        refine Gl.go (fun _ hr => zXS_iadd X928.here hx rfl (hb hby at_321) rfl (zXT_i2c X928.here hx rfl (hb hby at_322) rfl hr)) ?_
        show Gl p.tables e below _ (T928.setTop (mkF m 323 #[sI i0, sI i1, sI i2, sI i3, sI i4, sI 3, sI ca, sI cb, sI cc, s9, sR x, sI (Int32.ofNat po), sR r_536, sI 3, sR b554, sR b915, sU] [(.int (((48 : Int32) + (Int32.ofNat (po / 100 % 10))).toUInt32.toUInt16.toUInt32.toInt32)), (.int (4 : Int32)), (.ref b915)]))
        rw [(own_chr (po / 100))]
        show Gl p.tables e below _ (T928.setTop (mkF m 323 #[sI i0, sI i1, sI i2, sI i3, sI i4, sI 3, sI ca, sI cb, sI cc, s9, sR x, sI (Int32.ofNat po), sR r_536, sI 3, sR b554, sR b915, sU] [(.int (dch (po / 100))), (.int (4 : Int32)), (.ref b915)]))
        obtain ⟨c963, a963, q963, s963, m963, H963, U963⟩ := id V928
        refine gstC Gl.cl X928 hx hZ536 e928 a963 (j := (4 : Int32)) (inb_of s963 ⟨(by decide), (by decide)⟩) rfl rfl (hb hby at_323) ?_
        intro T963 h963 X963 e963 W963
        have z964 : h928.size ≤ h963.size := (Keep.of_wr W963).1
        rw [(dch_narc _)] at W963
        have V963 : Arv Z h963 b915 k915 .char (9 : Int32) [(.int ca), (.int cb), (.int cc), (.int (58 : Int32)), (.int (dch (po / 100))), (.int (0 : Int32)), (.int (0 : Int32)), (.int (0 : Int32)), (.int (0 : Int32))] (.int (0 : Int32)) := Arv.set a963 q963 s963 m963 H963 U963 (dch_fitc _) W963 4 rfl (Nat.le_of_ble_eq_true rfl)
        have N963 := Fr.snoc X963 N928 (own_ale om919)
        refine Gl.go (fun _ hr => zXS_iconst X963.here hx rfl (hb hby at_324) (zXS_iload X963.here hx rfl (hb hby at_325) rfl (zXS_icmpNo X963.here hx rfl (hb hby at_327) rfl (XT.ii_ge_f (by decide)) (zXS_aload X963.here hx rfl (hb hby at_330) rfl rfl (zXS_iload X963.here hx rfl (hb hby at_332) rfl (zXS_iconst X963.here hx rfl (hb hby at_334) (zXS_iadd X963.here hx rfl (hb hby at_335) rfl (zXS_bipush X963.here hx rfl (hb hby at_336) (zXS_aload X963.here hx rfl (hb hby at_338) rfl rfl (zXS_bipush X963.here hx rfl (hb hby at_340) hr)))))))))) ?_
        refine Gl.go (fun _ hr => zXS_iload X963.here hx rfl (hb hby at_342) rfl (zXS_isub X963.here hx rfl (hb hby at_344) rfl hr)) ?_
        have Vc965 := (Vc961.other W963 (own_ane om960))
        obtain ⟨c966, a966, q966, s966, m966, H966, U966⟩ := id Vc965
        have i966 := inb_of s966 (j := (3 : Int32)) ⟨(by decide), (by decide)⟩
        refine g_iaload Gl.cl X963 hx hZ536 e963 a966 i966 (v := (.int (Int32.ofNat (po / 10 % 10)))) (H966.at i966 rfl) rfl rfl (hb hby at_345) ?_
        refine Gl.go (fun _ hr => zXS_iadd X963.here hx rfl (hb hby at_346) rfl (zXT_i2c X963.here hx rfl (hb hby at_347) rfl hr)) ?_
        show Gl p.tables e below _ (T963.setTop (mkF m 348 #[sI i0, sI i1, sI i2, sI i3, sI i4, sI 3, sI ca, sI cb, sI cc, s9, sR x, sI (Int32.ofNat po), sR r_536, sI 3, sR b554, sR b915, sU] [(.int (((48 : Int32) + (Int32.ofNat (po / 10 % 10))).toUInt32.toUInt16.toUInt32.toInt32)), (.int (5 : Int32)), (.ref b915)]))
        rw [(own_chr (po / 10))]
        show Gl p.tables e below _ (T963.setTop (mkF m 348 #[sI i0, sI i1, sI i2, sI i3, sI i4, sI 3, sI ca, sI cb, sI cc, s9, sR x, sI (Int32.ofNat po), sR r_536, sI 3, sR b554, sR b915, sU] [(.int (dch (po / 10))), (.int (5 : Int32)), (.ref b915)]))
        obtain ⟨c967, a967, q967, s967, m967, H967, U967⟩ := id V963
        refine gstC Gl.cl X963 hx hZ536 e963 a967 (j := (5 : Int32)) (inb_of s967 ⟨(by decide), (by decide)⟩) rfl rfl (hb hby at_348) ?_
        intro T967 h967 X967 e967 W967
        have z968 : h963.size ≤ h967.size := (Keep.of_wr W967).1
        rw [(dch_narc _)] at W967
        have V967 : Arv Z h967 b915 k915 .char (9 : Int32) [(.int ca), (.int cb), (.int cc), (.int (58 : Int32)), (.int (dch (po / 100))), (.int (dch (po / 10))), (.int (0 : Int32)), (.int (0 : Int32)), (.int (0 : Int32))] (.int (0 : Int32)) := Arv.set a967 q967 s967 m967 H967 U967 (dch_fitc _) W967 5 rfl (Nat.le_of_ble_eq_true rfl)
        have N967 := Fr.snoc X967 N963 (own_ale om919)
        refine Gl.go (fun _ hr => zXS_iconst X967.here hx rfl (hb hby at_349) (zXS_iload X967.here hx rfl (hb hby at_350) rfl (zXS_icmpNo X967.here hx rfl (hb hby at_352) rfl (XT.ii_ge_f (by decide)) (zXS_aload X967.here hx rfl (hb hby at_355) rfl rfl (zXS_iload X967.here hx rfl (hb hby at_357) rfl (zXS_iconst X967.here hx rfl (hb hby at_359) (zXS_iadd X967.here hx rfl (hb hby at_360) rfl (zXS_bipush X967.here hx rfl (hb hby at_361) (zXS_aload X967.here hx rfl (hb hby at_363) rfl rfl (zXS_bipush X967.here hx rfl (hb hby at_365) hr)))))))))) ?_
        refine Gl.go (fun _ hr => zXS_iload X967.here hx rfl (hb hby at_367) rfl (zXS_isub X967.here hx rfl (hb hby at_369) rfl hr)) ?_
        have Vc969 := (Vc965.other W967 (own_ane om960))
        obtain ⟨c970, a970, q970, s970, m970, H970, U970⟩ := id Vc969
        have i970 := inb_of s970 (j := (4 : Int32)) ⟨(by decide), (by decide)⟩
        refine g_iaload Gl.cl X967 hx hZ536 e967 a970 i970 (v := (.int (Int32.ofNat (po % 10)))) (H970.at i970 rfl) rfl rfl (hb hby at_370) ?_
        refine Gl.go (fun _ hr => zXS_iadd X967.here hx rfl (hb hby at_371) rfl (zXT_i2c X967.here hx rfl (hb hby at_372) rfl hr)) ?_
        show Gl p.tables e below _ (T967.setTop (mkF m 373 #[sI i0, sI i1, sI i2, sI i3, sI i4, sI 3, sI ca, sI cb, sI cc, s9, sR x, sI (Int32.ofNat po), sR r_536, sI 3, sR b554, sR b915, sU] [(.int (((48 : Int32) + (Int32.ofNat (po % 10))).toUInt32.toUInt16.toUInt32.toInt32)), (.int (6 : Int32)), (.ref b915)]))
        rw [(own_chr po)]
        show Gl p.tables e below _ (T967.setTop (mkF m 373 #[sI i0, sI i1, sI i2, sI i3, sI i4, sI 3, sI ca, sI cb, sI cc, s9, sR x, sI (Int32.ofNat po), sR r_536, sI 3, sR b554, sR b915, sU] [(.int (dch po)), (.int (6 : Int32)), (.ref b915)]))
        obtain ⟨c971, a971, q971, s971, m971, H971, U971⟩ := id V967
        refine gstC Gl.cl X967 hx hZ536 e967 a971 (j := (6 : Int32)) (inb_of s971 ⟨(by decide), (by decide)⟩) rfl rfl (hb hby at_373) ?_
        intro T971 h971 X971 e971 W971
        have z972 : h967.size ≤ h971.size := (Keep.of_wr W971).1
        rw [(dch_narc _)] at W971
        have V971 : Arv Z h971 b915 k915 .char (9 : Int32) [(.int ca), (.int cb), (.int cc), (.int (58 : Int32)), (.int (dch (po / 100))), (.int (dch (po / 10))), (.int (dch po)), (.int (0 : Int32)), (.int (0 : Int32))] (.int (0 : Int32)) := Arv.set a971 q971 s971 m971 H971 U971 (dch_fitc _) W971 6 rfl (Nat.le_of_ble_eq_true rfl)
        have N971 := Fr.snoc X971 N967 (own_ale om919)
        refine Gl.go (fun _ hr => zXS_iconst X971.here hx rfl (hb hby at_374) (zXS_iload X971.here hx rfl (hb hby at_375) rfl (zXS_icmpYes X971.here hx rfl (pc0 := 377) (pc' := 399) rfl (hb hby at_377) rfl (XT.ii_ge_t (by decide)) (by decide) (by decide) (zXS_iconst X971.here hx rfl (hb hby at_399) (zXS_iload X971.here hx rfl (hb hby at_400) rfl (zXS_icmpYes X971.here hx rfl (pc0 := 402) (pc' := 424) rfl (hb hby at_402) rfl (XT.ii_ge_t (by decide)) (by decide) (by decide) (zXS_iload X971.here hx rfl (hb hby at_424) rfl (zXS_iconst X971.here hx rfl (hb hby at_426) (zXS_iadd X971.here hx rfl (hb hby at_427) rfl (zXS_iload X971.here hx rfl (hb hby at_428) rfl hr)))))))))) ?_
        refine Gl.go (fun _ hr => zXS_iadd X971.here hx rfl (hb hby at_430) rfl (zXS_istore X971.here hx rfl (hb hby at_431) rfl (l' := #[sI i0, sI i1, sI i2, sI i3, sI i4, sI 3, sI ca, sI cb, sI cc, s9, sR x, sI (Int32.ofNat po), sR r_536, sI 3, sR b554, sR b915, sI 7]) rfl hr)) ?_
        have hto : (naT hs po).length = 7 := by rw [hhs, naT, show digs po = [dch (po / 100), dch (po / 10), dch po] from by rw [digs, if_neg (by omega), if_neg (by omega), if_pos (by omega)]]; rfl
        have om973 : @LE.le Nat instLENat h0.size b528 := by omega
        have om974 : @LE.le Nat instLENat h0.size b554 := by omega
        have Ec975 := ((((((((((((((f536_1.ext E554).wr W556).wr W559).wr W561).wr W563).wr W565).ext E915).wr W922).wr W924).wr W926).wr W928).wr W963).wr W967).wr W971)
        have om976 : ¬ @Eq Nat r_536 b554 := by omega
        have Fc977 := ((((((((((((((f536_2.ext E554).other W556 (Or.inl (own_ane om976))).other W559 (Or.inl (own_ane om976))).other W561 (Or.inl (own_ane om976))).other W563 (Or.inl (own_ane om976))).other W565 (Or.inl (own_ane om976))).ext E915).other W922 (Or.inl (own_ane om917))).other W924 (Or.inl (own_ane om917))).other W926 (Or.inl (own_ane om917))).other W928 (Or.inl (own_ane om917))).other W963 (Or.inl (own_ane om917))).other W967 (Or.inl (own_ane om917))).other W971 (Or.inl (own_ane om917)))
        have Fc978 := ((((((((((((((f536_3.ext E554).other W556 (Or.inl (own_ane om976))).other W559 (Or.inl (own_ane om976))).other W561 (Or.inl (own_ane om976))).other W563 (Or.inl (own_ane om976))).other W565 (Or.inl (own_ane om976))).ext E915).other W922 (Or.inl (own_ane om917))).other W924 (Or.inl (own_ane om917))).other W926 (Or.inl (own_ane om917))).other W928 (Or.inl (own_ane om917))).other W963 (Or.inl (own_ane om917))).other W967 (Or.inl (own_ane om917))).other W971 (Or.inl (own_ane om917)))
        have om979 : ¬ @Eq Nat t2_536 b554 := by omega
        have Vc980 := ((((((((((((((f536_4.ext E554).other W556 (own_ane om979)).other W559 (own_ane om979)).other W561 (own_ane om979)).other W563 (own_ane om979)).other W565 (own_ane om979)).ext E915).other W922 (own_ane om918)).other W924 (own_ane om918)).other W926 (own_ane om918)).other W928 (own_ane om918)).other W963 (own_ane om918)).other W967 (own_ane om918)).other W971 (own_ane om918))
        exact tB T971 h971 _ T536.vm _ r_536 t2_536 kr_536 N2_536 vs2_536 (naT hs po) b915 k915 ([(.int ca), (.int cb), (.int cc), (.int (58 : Int32)), (.int (dch (po / 100))), (.int (dch (po / 10))), (.int (dch po)), (.int (0 : Int32)), (.int (0 : Int32))]) 7 (sI 3) (sI ca) (sI cb) (sI cc) s9 (sR x) (sI (Int32.ofNat po)) (sI 3) (sR b554) N971 (X971.more (by decide) (by decide)) e971 (((((((((((((((((((Keep.refl h0 []).trans Kc all0).ext E528).trans K530 (allS (P := fun x_ => x_ ∈ ([] : List Addr) ∨ h0.size ≤ x_) (Or.inr (own_ale om973)) all0)).trans K536 all0).ext E554).wr W556 (Or.inr (own_ale om974))).wr W559 (Or.inr (own_ale om974))).wr W561 (Or.inr (own_ale om974))).wr W563 (Or.inr (own_ale om974))).wr W565 (Or.inr (own_ale om974))).ext E915).wr W922 (Or.inr (own_ale om920))).wr W924 (Or.inr (own_ale om920))).wr W926 (Or.inr (own_ale om920))).wr W928 (Or.inr (own_ale om920))).wr W963 (Or.inr (own_ale om920))).wr W967 (Or.inr (own_ale om920))).wr W971 (Or.inr (own_ale om920))) hS536 (by have q := hk536; omega) hZ536 hown536 Ec975 Fc977 Fc978 Vc980 V971 f536_5 (naT_lat hlatA) hto (by decide) (own_hes (zs := List.replicate 2 (.int 0)) (by rw [hhs, naT, show digs po = [dch (po / 100), dch (po / 10), dch po] from by rw [digs, if_neg (by omega), if_neg (by omega), if_pos (by omega)]]; rfl) hto)
      · rw [hnd]
        show Gl p.tables e below _ (T928.setTop (mkF m 300 #[sI i0, sI i1, sI i2, sI i3, sI i4, sI 3, sI ca, sI cb, sI cc, s9, sR x, sI (Int32.ofNat po), sR r_536, sI 4, sR b554, sR b915, sU] []))
        refine Gl.go (fun _ hr => zXS_iconst X928.here hx rfl (hb hby at_300) (zXS_iload X928.here hx rfl (hb hby at_301) rfl (zXS_icmpNo X928.here hx rfl (hb hby at_303) rfl (XT.ii_ge_f (by decide)) (zXS_aload X928.here hx rfl (hb hby at_306) rfl rfl (zXS_iload X928.here hx rfl (hb hby at_308) rfl (zXS_iconst X928.here hx rfl (hb hby at_310) (zXS_iadd X928.here hx rfl (hb hby at_311) rfl (zXS_bipush X928.here hx rfl (hb hby at_312) (zXS_aload X928.here hx rfl (hb hby at_314) rfl rfl (zXS_iconst X928.here hx rfl (hb hby at_316) hr)))))))))) ?_
        refine Gl.go (fun _ hr => zXS_iload X928.here hx rfl (hb hby at_317) rfl (zXS_isub X928.here hx rfl (hb hby at_319) rfl hr)) ?_
        have om981 : ¬ @Eq Nat b554 b915 := by omega
        have Vc982 := (((((V565.ext E915).other W922 (own_ane om981)).other W924 (own_ane om981)).other W926 (own_ane om981)).other W928 (own_ane om981))
        obtain ⟨c983, a983, q983, s983, m983, H983, U983⟩ := id Vc982
        have i983 := inb_of s983 (j := (1 : Int32)) ⟨(by decide), (by decide)⟩
        refine g_iaload Gl.cl X928 hx hZ536 e928 a983 i983 (v := (.int (Int32.ofNat (po / 1000 % 10)))) (H983.at i983 rfl) rfl rfl (hb hby at_320) ?_
        refine Gl.go (fun _ hr => zXS_iadd X928.here hx rfl (hb hby at_321) rfl (zXT_i2c X928.here hx rfl (hb hby at_322) rfl hr)) ?_
        show Gl p.tables e below _ (T928.setTop (mkF m 323 #[sI i0, sI i1, sI i2, sI i3, sI i4, sI 3, sI ca, sI cb, sI cc, s9, sR x, sI (Int32.ofNat po), sR r_536, sI 4, sR b554, sR b915, sU] [(.int (((48 : Int32) + (Int32.ofNat (po / 1000 % 10))).toUInt32.toUInt16.toUInt32.toInt32)), (.int (4 : Int32)), (.ref b915)]))
        rw [(own_chr (po / 1000))]
        show Gl p.tables e below _ (T928.setTop (mkF m 323 #[sI i0, sI i1, sI i2, sI i3, sI i4, sI 3, sI ca, sI cb, sI cc, s9, sR x, sI (Int32.ofNat po), sR r_536, sI 4, sR b554, sR b915, sU] [(.int (dch (po / 1000))), (.int (4 : Int32)), (.ref b915)]))
        obtain ⟨c984, a984, q984, s984, m984, H984, U984⟩ := id V928
        refine gstC Gl.cl X928 hx hZ536 e928 a984 (j := (4 : Int32)) (inb_of s984 ⟨(by decide), (by decide)⟩) rfl rfl (hb hby at_323) ?_
        intro T984 h984 X984 e984 W984
        have z985 : h928.size ≤ h984.size := (Keep.of_wr W984).1
        rw [(dch_narc _)] at W984
        have V984 : Arv Z h984 b915 k915 .char (9 : Int32) [(.int ca), (.int cb), (.int cc), (.int (58 : Int32)), (.int (dch (po / 1000))), (.int (0 : Int32)), (.int (0 : Int32)), (.int (0 : Int32)), (.int (0 : Int32))] (.int (0 : Int32)) := Arv.set a984 q984 s984 m984 H984 U984 (dch_fitc _) W984 4 rfl (Nat.le_of_ble_eq_true rfl)
        have N984 := Fr.snoc X984 N928 (own_ale om919)
        refine Gl.go (fun _ hr => zXS_iconst X984.here hx rfl (hb hby at_324) (zXS_iload X984.here hx rfl (hb hby at_325) rfl (zXS_icmpNo X984.here hx rfl (hb hby at_327) rfl (XT.ii_ge_f (by decide)) (zXS_aload X984.here hx rfl (hb hby at_330) rfl rfl (zXS_iload X984.here hx rfl (hb hby at_332) rfl (zXS_iconst X984.here hx rfl (hb hby at_334) (zXS_iadd X984.here hx rfl (hb hby at_335) rfl (zXS_bipush X984.here hx rfl (hb hby at_336) (zXS_aload X984.here hx rfl (hb hby at_338) rfl rfl (zXS_bipush X984.here hx rfl (hb hby at_340) hr)))))))))) ?_
        refine Gl.go (fun _ hr => zXS_iload X984.here hx rfl (hb hby at_342) rfl (zXS_isub X984.here hx rfl (hb hby at_344) rfl hr)) ?_
        have Vc986 := (Vc982.other W984 (own_ane om981))
        obtain ⟨c987, a987, q987, s987, m987, H987, U987⟩ := id Vc986
        have i987 := inb_of s987 (j := (2 : Int32)) ⟨(by decide), (by decide)⟩
        refine g_iaload Gl.cl X984 hx hZ536 e984 a987 i987 (v := (.int (Int32.ofNat (po / 100 % 10)))) (H987.at i987 rfl) rfl rfl (hb hby at_345) ?_
        refine Gl.go (fun _ hr => zXS_iadd X984.here hx rfl (hb hby at_346) rfl (zXT_i2c X984.here hx rfl (hb hby at_347) rfl hr)) ?_
        show Gl p.tables e below _ (T984.setTop (mkF m 348 #[sI i0, sI i1, sI i2, sI i3, sI i4, sI 3, sI ca, sI cb, sI cc, s9, sR x, sI (Int32.ofNat po), sR r_536, sI 4, sR b554, sR b915, sU] [(.int (((48 : Int32) + (Int32.ofNat (po / 100 % 10))).toUInt32.toUInt16.toUInt32.toInt32)), (.int (5 : Int32)), (.ref b915)]))
        rw [(own_chr (po / 100))]
        show Gl p.tables e below _ (T984.setTop (mkF m 348 #[sI i0, sI i1, sI i2, sI i3, sI i4, sI 3, sI ca, sI cb, sI cc, s9, sR x, sI (Int32.ofNat po), sR r_536, sI 4, sR b554, sR b915, sU] [(.int (dch (po / 100))), (.int (5 : Int32)), (.ref b915)]))
        obtain ⟨c988, a988, q988, s988, m988, H988, U988⟩ := id V984
        refine gstC Gl.cl X984 hx hZ536 e984 a988 (j := (5 : Int32)) (inb_of s988 ⟨(by decide), (by decide)⟩) rfl rfl (hb hby at_348) ?_
        intro T988 h988 X988 e988 W988
        have z989 : h984.size ≤ h988.size := (Keep.of_wr W988).1
        rw [(dch_narc _)] at W988
        have V988 : Arv Z h988 b915 k915 .char (9 : Int32) [(.int ca), (.int cb), (.int cc), (.int (58 : Int32)), (.int (dch (po / 1000))), (.int (dch (po / 100))), (.int (0 : Int32)), (.int (0 : Int32)), (.int (0 : Int32))] (.int (0 : Int32)) := Arv.set a988 q988 s988 m988 H988 U988 (dch_fitc _) W988 5 rfl (Nat.le_of_ble_eq_true rfl)
        have N988 := Fr.snoc X988 N984 (own_ale om919)
        refine Gl.go (fun _ hr => zXS_iconst X988.here hx rfl (hb hby at_349) (zXS_iload X988.here hx rfl (hb hby at_350) rfl (zXS_icmpNo X988.here hx rfl (hb hby at_352) rfl (XT.ii_ge_f (by decide)) (zXS_aload X988.here hx rfl (hb hby at_355) rfl rfl (zXS_iload X988.here hx rfl (hb hby at_357) rfl (zXS_iconst X988.here hx rfl (hb hby at_359) (zXS_iadd X988.here hx rfl (hb hby at_360) rfl (zXS_bipush X988.here hx rfl (hb hby at_361) (zXS_aload X988.here hx rfl (hb hby at_363) rfl rfl (zXS_bipush X988.here hx rfl (hb hby at_365) hr)))))))))) ?_
        refine Gl.go (fun _ hr => zXS_iload X988.here hx rfl (hb hby at_367) rfl (zXS_isub X988.here hx rfl (hb hby at_369) rfl hr)) ?_
        have Vc990 := (Vc986.other W988 (own_ane om981))
        obtain ⟨c991, a991, q991, s991, m991, H991, U991⟩ := id Vc990
        have i991 := inb_of s991 (j := (3 : Int32)) ⟨(by decide), (by decide)⟩
        refine g_iaload Gl.cl X988 hx hZ536 e988 a991 i991 (v := (.int (Int32.ofNat (po / 10 % 10)))) (H991.at i991 rfl) rfl rfl (hb hby at_370) ?_
        refine Gl.go (fun _ hr => zXS_iadd X988.here hx rfl (hb hby at_371) rfl (zXT_i2c X988.here hx rfl (hb hby at_372) rfl hr)) ?_
        show Gl p.tables e below _ (T988.setTop (mkF m 373 #[sI i0, sI i1, sI i2, sI i3, sI i4, sI 3, sI ca, sI cb, sI cc, s9, sR x, sI (Int32.ofNat po), sR r_536, sI 4, sR b554, sR b915, sU] [(.int (((48 : Int32) + (Int32.ofNat (po / 10 % 10))).toUInt32.toUInt16.toUInt32.toInt32)), (.int (6 : Int32)), (.ref b915)]))
        rw [(own_chr (po / 10))]
        show Gl p.tables e below _ (T988.setTop (mkF m 373 #[sI i0, sI i1, sI i2, sI i3, sI i4, sI 3, sI ca, sI cb, sI cc, s9, sR x, sI (Int32.ofNat po), sR r_536, sI 4, sR b554, sR b915, sU] [(.int (dch (po / 10))), (.int (6 : Int32)), (.ref b915)]))
        obtain ⟨c992, a992, q992, s992, m992, H992, U992⟩ := id V988
        refine gstC Gl.cl X988 hx hZ536 e988 a992 (j := (6 : Int32)) (inb_of s992 ⟨(by decide), (by decide)⟩) rfl rfl (hb hby at_373) ?_
        intro T992 h992 X992 e992 W992
        have z993 : h988.size ≤ h992.size := (Keep.of_wr W992).1
        rw [(dch_narc _)] at W992
        have V992 : Arv Z h992 b915 k915 .char (9 : Int32) [(.int ca), (.int cb), (.int cc), (.int (58 : Int32)), (.int (dch (po / 1000))), (.int (dch (po / 100))), (.int (dch (po / 10))), (.int (0 : Int32)), (.int (0 : Int32))] (.int (0 : Int32)) := Arv.set a992 q992 s992 m992 H992 U992 (dch_fitc _) W992 6 rfl (Nat.le_of_ble_eq_true rfl)
        have N992 := Fr.snoc X992 N988 (own_ale om919)
        refine Gl.go (fun _ hr => zXS_iconst X992.here hx rfl (hb hby at_374) (zXS_iload X992.here hx rfl (hb hby at_375) rfl (zXS_icmpNo X992.here hx rfl (hb hby at_377) rfl (XT.ii_ge_f (by decide)) (zXS_aload X992.here hx rfl (hb hby at_380) rfl rfl (zXS_iload X992.here hx rfl (hb hby at_382) rfl (zXS_iconst X992.here hx rfl (hb hby at_384) (zXS_iadd X992.here hx rfl (hb hby at_385) rfl (zXS_bipush X992.here hx rfl (hb hby at_386) (zXS_aload X992.here hx rfl (hb hby at_388) rfl rfl (zXS_bipush X992.here hx rfl (hb hby at_390) hr)))))))))) ?_
        refine Gl.go (fun _ hr => zXS_iload X992.here hx rfl (hb hby at_392) rfl (zXS_isub X992.here hx rfl (hb hby at_394) rfl hr)) ?_
        have Vc994 := (Vc990.other W992 (own_ane om981))
        obtain ⟨c995, a995, q995, s995, m995, H995, U995⟩ := id Vc994
        have i995 := inb_of s995 (j := (4 : Int32)) ⟨(by decide), (by decide)⟩
        refine g_iaload Gl.cl X992 hx hZ536 e992 a995 i995 (v := (.int (Int32.ofNat (po % 10)))) (H995.at i995 rfl) rfl rfl (hb hby at_395) ?_
        refine Gl.go (fun _ hr => zXS_iadd X992.here hx rfl (hb hby at_396) rfl (zXT_i2c X992.here hx rfl (hb hby at_397) rfl hr)) ?_
        show Gl p.tables e below _ (T992.setTop (mkF m 398 #[sI i0, sI i1, sI i2, sI i3, sI i4, sI 3, sI ca, sI cb, sI cc, s9, sR x, sI (Int32.ofNat po), sR r_536, sI 4, sR b554, sR b915, sU] [(.int (((48 : Int32) + (Int32.ofNat (po % 10))).toUInt32.toUInt16.toUInt32.toInt32)), (.int (7 : Int32)), (.ref b915)]))
        rw [(own_chr po)]
        show Gl p.tables e below _ (T992.setTop (mkF m 398 #[sI i0, sI i1, sI i2, sI i3, sI i4, sI 3, sI ca, sI cb, sI cc, s9, sR x, sI (Int32.ofNat po), sR r_536, sI 4, sR b554, sR b915, sU] [(.int (dch po)), (.int (7 : Int32)), (.ref b915)]))
        obtain ⟨c996, a996, q996, s996, m996, H996, U996⟩ := id V992
        refine gstC Gl.cl X992 hx hZ536 e992 a996 (j := (7 : Int32)) (inb_of s996 ⟨(by decide), (by decide)⟩) rfl rfl (hb hby at_398) ?_
        intro T996 h996 X996 e996 W996
        have z997 : h992.size ≤ h996.size := (Keep.of_wr W996).1
        rw [(dch_narc _)] at W996
        have V996 : Arv Z h996 b915 k915 .char (9 : Int32) [(.int ca), (.int cb), (.int cc), (.int (58 : Int32)), (.int (dch (po / 1000))), (.int (dch (po / 100))), (.int (dch (po / 10))), (.int (dch po)), (.int (0 : Int32))] (.int (0 : Int32)) := Arv.set a996 q996 s996 m996 H996 U996 (dch_fitc _) W996 7 rfl (Nat.le_of_ble_eq_true rfl)
        have N996 := Fr.snoc X996 N992 (own_ale om919)
        refine Gl.go (fun _ hr => zXS_iconst X996.here hx rfl (hb hby at_399) (zXS_iload X996.here hx rfl (hb hby at_400) rfl (zXS_icmpYes X996.here hx rfl (pc0 := 402) (pc' := 424) rfl (hb hby at_402) rfl (XT.ii_ge_t (by decide)) (by decide) (by decide) (zXS_iload X996.here hx rfl (hb hby at_424) rfl (zXS_iconst X996.here hx rfl (hb hby at_426) (zXS_iadd X996.here hx rfl (hb hby at_427) rfl (zXS_iload X996.here hx rfl (hb hby at_428) rfl (zXS_iadd X996.here hx rfl (hb hby at_430) rfl (zXS_istore X996.here hx rfl (hb hby at_431) rfl (l' := #[sI i0, sI i1, sI i2, sI i3, sI i4, sI 3, sI ca, sI cb, sI cc, s9, sR x, sI (Int32.ofNat po), sR r_536, sI 4, sR b554, sR b915, sI 8]) rfl hr))))))))) ?_
        have hto : (naT hs po).length = 8 := by rw [hhs, naT, show digs po = [dch (po / 1000), dch (po / 100), dch (po / 10), dch po] from by rw [digs, if_neg (by omega), if_neg (by omega), if_neg (by omega), if_pos (by omega)]]; rfl
        have om998 : @LE.le Nat instLENat h0.size b528 := by omega
        have om999 : @LE.le Nat instLENat h0.size b554 := by omega
        have Ec1000 := (((((((((((((((f536_1.ext E554).wr W556).wr W559).wr W561).wr W563).wr W565).ext E915).wr W922).wr W924).wr W926).wr W928).wr W984).wr W988).wr W992).wr W996)
        have om1001 : ¬ @Eq Nat r_536 b554 := by omega
        have Fc1002 := (((((((((((((((f536_2.ext E554).other W556 (Or.inl (own_ane om1001))).other W559 (Or.inl (own_ane om1001))).other W561 (Or.inl (own_ane om1001))).other W563 (Or.inl (own_ane om1001))).other W565 (Or.inl (own_ane om1001))).ext E915).other W922 (Or.inl (own_ane om917))).other W924 (Or.inl (own_ane om917))).other W926 (Or.inl (own_ane om917))).other W928 (Or.inl (own_ane om917))).other W984 (Or.inl (own_ane om917))).other W988 (Or.inl (own_ane om917))).other W992 (Or.inl (own_ane om917))).other W996 (Or.inl (own_ane om917)))
        have Fc1003 := (((((((((((((((f536_3.ext E554).other W556 (Or.inl (own_ane om1001))).other W559 (Or.inl (own_ane om1001))).other W561 (Or.inl (own_ane om1001))).other W563 (Or.inl (own_ane om1001))).other W565 (Or.inl (own_ane om1001))).ext E915).other W922 (Or.inl (own_ane om917))).other W924 (Or.inl (own_ane om917))).other W926 (Or.inl (own_ane om917))).other W928 (Or.inl (own_ane om917))).other W984 (Or.inl (own_ane om917))).other W988 (Or.inl (own_ane om917))).other W992 (Or.inl (own_ane om917))).other W996 (Or.inl (own_ane om917)))
        have om1004 : ¬ @Eq Nat t2_536 b554 := by omega
        have Vc1005 := (((((((((((((((f536_4.ext E554).other W556 (own_ane om1004)).other W559 (own_ane om1004)).other W561 (own_ane om1004)).other W563 (own_ane om1004)).other W565 (own_ane om1004)).ext E915).other W922 (own_ane om918)).other W924 (own_ane om918)).other W926 (own_ane om918)).other W928 (own_ane om918)).other W984 (own_ane om918)).other W988 (own_ane om918)).other W992 (own_ane om918)).other W996 (own_ane om918))
        exact tB T996 h996 _ T536.vm _ r_536 t2_536 kr_536 N2_536 vs2_536 (naT hs po) b915 k915 ([(.int ca), (.int cb), (.int cc), (.int (58 : Int32)), (.int (dch (po / 1000))), (.int (dch (po / 100))), (.int (dch (po / 10))), (.int (dch po)), (.int (0 : Int32))]) 8 (sI 3) (sI ca) (sI cb) (sI cc) s9 (sR x) (sI (Int32.ofNat po)) (sI 4) (sR b554) N996 (X996.more (by decide) (by decide)) e996 ((((((((((((((((((((Keep.refl h0 []).trans Kc all0).ext E528).trans K530 (allS (P := fun x_ => x_ ∈ ([] : List Addr) ∨ h0.size ≤ x_) (Or.inr (own_ale om998)) all0)).trans K536 all0).ext E554).wr W556 (Or.inr (own_ale om999))).wr W559 (Or.inr (own_ale om999))).wr W561 (Or.inr (own_ale om999))).wr W563 (Or.inr (own_ale om999))).wr W565 (Or.inr (own_ale om999))).ext E915).wr W922 (Or.inr (own_ale om920))).wr W924 (Or.inr (own_ale om920))).wr W926 (Or.inr (own_ale om920))).wr W928 (Or.inr (own_ale om920))).wr W984 (Or.inr (own_ale om920))).wr W988 (Or.inr (own_ale om920))).wr W992 (Or.inr (own_ale om920))).wr W996 (Or.inr (own_ale om920))) hS536 (by have q := hk536; omega) hZ536 hown536 Ec1000 Fc1002 Fc1003 Vc1005 V996 f536_5 (naT_lat hlatA) hto (by decide) (own_hes (zs := List.replicate 1 (.int 0)) (by rw [hhs, naT, show digs po = [dch (po / 1000), dch (po / 100), dch (po / 10), dch po] from by rw [digs, if_neg (by omega), if_neg (by omega), if_neg (by omega), if_pos (by omega)]]; rfl) hto)
      · rw [hnd]
        show Gl p.tables e below _ (T928.setTop (mkF m 300 #[sI i0, sI i1, sI i2, sI i3, sI i4, sI 3, sI ca, sI cb, sI cc, s9, sR x, sI (Int32.ofNat po), sR r_536, sI 5, sR b554, sR b915, sU] []))
        refine Gl.go (fun _ hr => zXS_iconst X928.here hx rfl (hb hby at_300) (zXS_iload X928.here hx rfl (hb hby at_301) rfl (zXS_icmpNo X928.here hx rfl (hb hby at_303) rfl (XT.ii_ge_f (by decide)) (zXS_aload X928.here hx rfl (hb hby at_306) rfl rfl (zXS_iload X928.here hx rfl (hb hby at_308) rfl (zXS_iconst X928.here hx rfl (hb hby at_310) (zXS_iadd X928.here hx rfl (hb hby at_311) rfl (zXS_bipush X928.here hx rfl (hb hby at_312) (zXS_aload X928.here hx rfl (hb hby at_314) rfl rfl (zXS_iconst X928.here hx rfl (hb hby at_316) hr)))))))))) ?_
        refine Gl.go (fun _ hr => zXS_iload X928.here hx rfl (hb hby at_317) rfl (zXS_isub X928.here hx rfl (hb hby at_319) rfl hr)) ?_
        have om1006 : ¬ @Eq Nat b554 b915 := by omega
        have Vc1007 := (((((V565.ext E915).other W922 (own_ane om1006)).other W924 (own_ane om1006)).other W926 (own_ane om1006)).other W928 (own_ane om1006))
        obtain ⟨c1008, a1008, q1008, s1008, m1008, H1008, U1008⟩ := id Vc1007
        have i1008 := inb_of s1008 (j := (0 : Int32)) ⟨(by decide), (by decide)⟩
        refine g_iaload Gl.cl X928 hx hZ536 e928 a1008 i1008 (v := (.int (Int32.ofNat (po / 10000 % 10)))) (H1008.at i1008 rfl) rfl rfl (hb hby at_320) ?_
        refine Gl.go (fun _ hr => zXS_iadd X928.here hx rfl (hb hby at_321) rfl (zXT_i2c X928.here hx rfl (hb hby at_322) rfl hr)) ?_
        show Gl p.tables e below _ (T928.setTop (mkF m 323 #[sI i0, sI i1, sI i2, sI i3, sI i4, sI 3, sI ca, sI cb, sI cc, s9, sR x, sI (Int32.ofNat po), sR r_536, sI 5, sR b554, sR b915, sU] [(.int (((48 : Int32) + (Int32.ofNat (po / 10000 % 10))).toUInt32.toUInt16.toUInt32.toInt32)), (.int (4 : Int32)), (.ref b915)]))
        rw [(own_chr (po / 10000))]
        show Gl p.tables e below _ (T928.setTop (mkF m 323 #[sI i0, sI i1, sI i2, sI i3, sI i4, sI 3, sI ca, sI cb, sI cc, s9, sR x, sI (Int32.ofNat po), sR r_536, sI 5, sR b554, sR b915, sU] [(.int (dch (po / 10000))), (.int (4 : Int32)), (.ref b915)]))
        obtain ⟨c1009, a1009, q1009, s1009, m1009, H1009, U1009⟩ := id V928
        refine gstC Gl.cl X928 hx hZ536 e928 a1009 (j := (4 : Int32)) (inb_of s1009 ⟨(by decide), (by decide)⟩) rfl rfl (hb hby at_323) ?_
        intro T1009 h1009 X1009 e1009 W1009
        have z1010 : h928.size ≤ h1009.size := (Keep.of_wr W1009).1
        rw [(dch_narc _)] at W1009
        have V1009 : Arv Z h1009 b915 k915 .char (9 : Int32) [(.int ca), (.int cb), (.int cc), (.int (58 : Int32)), (.int (dch (po / 10000))), (.int (0 : Int32)), (.int (0 : Int32)), (.int (0 : Int32)), (.int (0 : Int32))] (.int (0 : Int32)) := Arv.set a1009 q1009 s1009 m1009 H1009 U1009 (dch_fitc _) W1009 4 rfl (Nat.le_of_ble_eq_true rfl)
        have N1009 := Fr.snoc X1009 N928 (own_ale om919)
        refine Gl.go (fun _ hr => zXS_iconst X1009.here hx rfl (hb hby at_324) (zXS_iload X1009.here hx rfl (hb hby at_325) rfl (zXS_icmpNo X1009.here hx rfl (hb hby at_327) rfl (XT.ii_ge_f (by decide)) (zXS_aload X1009.here hx rfl (hb hby at_330) rfl rfl (zXS_iload X1009.here hx rfl (hb hby at_332) rfl (zXS_iconst X1009.here hx rfl (hb hby at_334) (zXS_iadd X1009.here hx rfl (hb hby at_335) rfl (zXS_bipush X1009.here hx rfl (hb hby at_336) (zXS_aload X1009.here hx rfl (hb hby at_338) rfl rfl (zXS_bipush X1009.here hx rfl (hb hby at_340) hr)))))))))) ?_
        refine Gl.go (fun _ hr => zXS_iload X1009.here hx rfl (hb hby at_342) rfl (zXS_isub X1009.here hx rfl (hb hby at_344) rfl hr)) ?_
        have Vc1011 := (Vc1007.other W1009 (own_ane om1006))
        obtain ⟨c1012, a1012, q1012, s1012, m1012, H1012, U1012⟩ := id Vc1011
        have i1012 := inb_of s1012 (j := (1 : Int32)) ⟨(by decide), (by decide)⟩
        refine g_iaload Gl.cl X1009 hx hZ536 e1009 a1012 i1012 (v := (.int (Int32.ofNat (po / 1000 % 10)))) (H1012.at i1012 rfl) rfl rfl (hb hby at_345) ?_
        refine Gl.go (fun _ hr => zXS_iadd X1009.here hx rfl (hb hby at_346) rfl (zXT_i2c X1009.here hx rfl (hb hby at_347) rfl hr)) ?_
        show Gl p.tables e below _ (T1009.setTop (mkF m 348 #[sI i0, sI i1, sI i2, sI i3, sI i4, sI 3, sI ca, sI cb, sI cc, s9, sR x, sI (Int32.ofNat po), sR r_536, sI 5, sR b554, sR b915, sU] [(.int (((48 : Int32) + (Int32.ofNat (po / 1000 % 10))).toUInt32.toUInt16.toUInt32.toInt32)), (.int (5 : Int32)), (.ref b915)]))
        rw [(own_chr (po / 1000))]
        show Gl p.tables e below _ (T1009.setTop (mkF m 348 #[sI i0, sI i1, sI i2, sI i3, sI i4, sI 3, sI ca, sI cb, sI cc, s9, sR x, sI (Int32.ofNat po), sR r_536, sI 5, sR b554, sR b915, sU] [(.int (dch (po / 1000))), (.int (5 : Int32)), (.ref b915)]))
        obtain ⟨c1013, a1013, q1013, s1013, m1013, H1013, U1013⟩ := id V1009
        refine gstC Gl.cl X1009 hx hZ536 e1009 a1013 (j := (5 : Int32)) (inb_of s1013 ⟨(by decide), (by decide)⟩) rfl rfl (hb hby at_348) ?_
        intro T1013 h1013 X1013 e1013 W1013
        have z1014 : h1009.size ≤ h1013.size := (Keep.of_wr W1013).1
        rw [(dch_narc _)] at W1013
        have V1013 : Arv Z h1013 b915 k915 .char (9 : Int32) [(.int ca), (.int cb), (.int cc), (.int (58 : Int32)), (.int (dch (po / 10000))), (.int (dch (po / 1000))), (.int (0 : Int32)), (.int (0 : Int32)), (.int (0 : Int32))] (.int (0 : Int32)) := Arv.set a1013 q1013 s1013 m1013 H1013 U1013 (dch_fitc _) W1013 5 rfl (Nat.le_of_ble_eq_true rfl)
        have N1013 := Fr.snoc X1013 N1009 (own_ale om919)
        refine Gl.go (fun _ hr => zXS_iconst X1013.here hx rfl (hb hby at_349) (zXS_iload X1013.here hx rfl (hb hby at_350) rfl (zXS_icmpNo X1013.here hx rfl (hb hby at_352) rfl (XT.ii_ge_f (by decide)) (zXS_aload X1013.here hx rfl (hb hby at_355) rfl rfl (zXS_iload X1013.here hx rfl (hb hby at_357) rfl (zXS_iconst X1013.here hx rfl (hb hby at_359) (zXS_iadd X1013.here hx rfl (hb hby at_360) rfl (zXS_bipush X1013.here hx rfl (hb hby at_361) (zXS_aload X1013.here hx rfl (hb hby at_363) rfl rfl (zXS_bipush X1013.here hx rfl (hb hby at_365) hr)))))))))) ?_
        refine Gl.go (fun _ hr => zXS_iload X1013.here hx rfl (hb hby at_367) rfl (zXS_isub X1013.here hx rfl (hb hby at_369) rfl hr)) ?_
        have Vc1015 := (Vc1011.other W1013 (own_ane om1006))
        obtain ⟨c1016, a1016, q1016, s1016, m1016, H1016, U1016⟩ := id Vc1015
        have i1016 := inb_of s1016 (j := (2 : Int32)) ⟨(by decide), (by decide)⟩
        refine g_iaload Gl.cl X1013 hx hZ536 e1013 a1016 i1016 (v := (.int (Int32.ofNat (po / 100 % 10)))) (H1016.at i1016 rfl) rfl rfl (hb hby at_370) ?_
        refine Gl.go (fun _ hr => zXS_iadd X1013.here hx rfl (hb hby at_371) rfl (zXT_i2c X1013.here hx rfl (hb hby at_372) rfl hr)) ?_
        show Gl p.tables e below _ (T1013.setTop (mkF m 373 #[sI i0, sI i1, sI i2, sI i3, sI i4, sI 3, sI ca, sI cb, sI cc, s9, sR x, sI (Int32.ofNat po), sR r_536, sI 5, sR b554, sR b915, sU] [(.int (((48 : Int32) + (Int32.ofNat (po / 100 % 10))).toUInt32.toUInt16.toUInt32.toInt32)), (.int (6 : Int32)), (.ref b915)]))
        rw [(own_chr (po / 100))]
        show Gl p.tables e below _ (T1013.setTop (mkF m 373 #[sI i0, sI i1, sI i2, sI i3, sI i4, sI 3, sI ca, sI cb, sI cc, s9, sR x, sI (Int32.ofNat po), sR r_536, sI 5, sR b554, sR b915, sU] [(.int (dch (po / 100))), (.int (6 : Int32)), (.ref b915)]))
        obtain ⟨c1017, a1017, q1017, s1017, m1017, H1017, U1017⟩ := id V1013
        refine gstC Gl.cl X1013 hx hZ536 e1013 a1017 (j := (6 : Int32)) (inb_of s1017 ⟨(by decide), (by decide)⟩) rfl rfl (hb hby at_373) ?_
        intro T1017 h1017 X1017 e1017 W1017
        have z1018 : h1013.size ≤ h1017.size := (Keep.of_wr W1017).1
        rw [(dch_narc _)] at W1017
        have V1017 : Arv Z h1017 b915 k915 .char (9 : Int32) [(.int ca), (.int cb), (.int cc), (.int (58 : Int32)), (.int (dch (po / 10000))), (.int (dch (po / 1000))), (.int (dch (po / 100))), (.int (0 : Int32)), (.int (0 : Int32))] (.int (0 : Int32)) := Arv.set a1017 q1017 s1017 m1017 H1017 U1017 (dch_fitc _) W1017 6 rfl (Nat.le_of_ble_eq_true rfl)
        have N1017 := Fr.snoc X1017 N1013 (own_ale om919)
        refine Gl.go (fun _ hr => zXS_iconst X1017.here hx rfl (hb hby at_374) (zXS_iload X1017.here hx rfl (hb hby at_375) rfl (zXS_icmpNo X1017.here hx rfl (hb hby at_377) rfl (XT.ii_ge_f (by decide)) (zXS_aload X1017.here hx rfl (hb hby at_380) rfl rfl (zXS_iload X1017.here hx rfl (hb hby at_382) rfl (zXS_iconst X1017.here hx rfl (hb hby at_384) (zXS_iadd X1017.here hx rfl (hb hby at_385) rfl (zXS_bipush X1017.here hx rfl (hb hby at_386) (zXS_aload X1017.here hx rfl (hb hby at_388) rfl rfl (zXS_bipush X1017.here hx rfl (hb hby at_390) hr)))))))))) ?_
        refine Gl.go (fun _ hr => zXS_iload X1017.here hx rfl (hb hby at_392) rfl (zXS_isub X1017.here hx rfl (hb hby at_394) rfl hr)) ?_
        have Vc1019 := (Vc1015.other W1017 (own_ane om1006))
        obtain ⟨c1020, a1020, q1020, s1020, m1020, H1020, U1020⟩ := id Vc1019
        have i1020 := inb_of s1020 (j := (3 : Int32)) ⟨(by decide), (by decide)⟩
        refine g_iaload Gl.cl X1017 hx hZ536 e1017 a1020 i1020 (v := (.int (Int32.ofNat (po / 10 % 10)))) (H1020.at i1020 rfl) rfl rfl (hb hby at_395) ?_
        refine Gl.go (fun _ hr => zXS_iadd X1017.here hx rfl (hb hby at_396) rfl (zXT_i2c X1017.here hx rfl (hb hby at_397) rfl hr)) ?_
        show Gl p.tables e below _ (T1017.setTop (mkF m 398 #[sI i0, sI i1, sI i2, sI i3, sI i4, sI 3, sI ca, sI cb, sI cc, s9, sR x, sI (Int32.ofNat po), sR r_536, sI 5, sR b554, sR b915, sU] [(.int (((48 : Int32) + (Int32.ofNat (po / 10 % 10))).toUInt32.toUInt16.toUInt32.toInt32)), (.int (7 : Int32)), (.ref b915)]))
        rw [(own_chr (po / 10))]
        show Gl p.tables e below _ (T1017.setTop (mkF m 398 #[sI i0, sI i1, sI i2, sI i3, sI i4, sI 3, sI ca, sI cb, sI cc, s9, sR x, sI (Int32.ofNat po), sR r_536, sI 5, sR b554, sR b915, sU] [(.int (dch (po / 10))), (.int (7 : Int32)), (.ref b915)]))
        obtain ⟨c1021, a1021, q1021, s1021, m1021, H1021, U1021⟩ := id V1017
        refine gstC Gl.cl X1017 hx hZ536 e1017 a1021 (j := (7 : Int32)) (inb_of s1021 ⟨(by decide), (by decide)⟩) rfl rfl (hb hby at_398) ?_
        intro T1021 h1021 X1021 e1021 W1021
        have z1022 : h1017.size ≤ h1021.size := (Keep.of_wr W1021).1
        rw [(dch_narc _)] at W1021
        have V1021 : Arv Z h1021 b915 k915 .char (9 : Int32) [(.int ca), (.int cb), (.int cc), (.int (58 : Int32)), (.int (dch (po / 10000))), (.int (dch (po / 1000))), (.int (dch (po / 100))), (.int (dch (po / 10))), (.int (0 : Int32))] (.int (0 : Int32)) := Arv.set a1021 q1021 s1021 m1021 H1021 U1021 (dch_fitc _) W1021 7 rfl (Nat.le_of_ble_eq_true rfl)
        have N1021 := Fr.snoc X1021 N1017 (own_ale om919)
        refine Gl.go (fun _ hr => zXS_iconst X1021.here hx rfl (hb hby at_399) (zXS_iload X1021.here hx rfl (hb hby at_400) rfl (zXS_icmpNo X1021.here hx rfl (hb hby at_402) rfl (XT.ii_ge_f (by decide)) (zXS_aload X1021.here hx rfl (hb hby at_405) rfl rfl (zXS_iload X1021.here hx rfl (hb hby at_407) rfl (zXS_iconst X1021.here hx rfl (hb hby at_409) (zXS_iadd X1021.here hx rfl (hb hby at_410) rfl (zXS_bipush X1021.here hx rfl (hb hby at_411) (zXS_aload X1021.here hx rfl (hb hby at_413) rfl rfl (zXS_bipush X1021.here hx rfl (hb hby at_415) hr)))))))))) ?_
        refine Gl.go (fun _ hr => zXS_iload X1021.here hx rfl (hb hby at_417) rfl (zXS_isub X1021.here hx rfl (hb hby at_419) rfl hr)) ?_
        have Vc1023 := (Vc1019.other W1021 (own_ane om1006))
        obtain ⟨c1024, a1024, q1024, s1024, m1024, H1024, U1024⟩ := id Vc1023
        have i1024 := inb_of s1024 (j := (4 : Int32)) ⟨(by decide), (by decide)⟩
        refine g_iaload Gl.cl X1021 hx hZ536 e1021 a1024 i1024 (v := (.int (Int32.ofNat (po % 10)))) (H1024.at i1024 rfl) rfl rfl (hb hby at_420) ?_
        refine Gl.go (fun _ hr => zXS_iadd X1021.here hx rfl (hb hby at_421) rfl (zXT_i2c X1021.here hx rfl (hb hby at_422) rfl hr)) ?_
        show Gl p.tables e below _ (T1021.setTop (mkF m 423 #[sI i0, sI i1, sI i2, sI i3, sI i4, sI 3, sI ca, sI cb, sI cc, s9, sR x, sI (Int32.ofNat po), sR r_536, sI 5, sR b554, sR b915, sU] [(.int (((48 : Int32) + (Int32.ofNat (po % 10))).toUInt32.toUInt16.toUInt32.toInt32)), (.int (8 : Int32)), (.ref b915)]))
        rw [(own_chr po)]
        show Gl p.tables e below _ (T1021.setTop (mkF m 423 #[sI i0, sI i1, sI i2, sI i3, sI i4, sI 3, sI ca, sI cb, sI cc, s9, sR x, sI (Int32.ofNat po), sR r_536, sI 5, sR b554, sR b915, sU] [(.int (dch po)), (.int (8 : Int32)), (.ref b915)]))
        obtain ⟨c1025, a1025, q1025, s1025, m1025, H1025, U1025⟩ := id V1021
        refine gstC Gl.cl X1021 hx hZ536 e1021 a1025 (j := (8 : Int32)) (inb_of s1025 ⟨(by decide), (by decide)⟩) rfl rfl (hb hby at_423) ?_
        intro T1025 h1025 X1025 e1025 W1025
        have z1026 : h1021.size ≤ h1025.size := (Keep.of_wr W1025).1
        rw [(dch_narc _)] at W1025
        have V1025 : Arv Z h1025 b915 k915 .char (9 : Int32) [(.int ca), (.int cb), (.int cc), (.int (58 : Int32)), (.int (dch (po / 10000))), (.int (dch (po / 1000))), (.int (dch (po / 100))), (.int (dch (po / 10))), (.int (dch po))] (.int (0 : Int32)) := Arv.set a1025 q1025 s1025 m1025 H1025 U1025 (dch_fitc _) W1025 8 rfl (Nat.le_of_ble_eq_true rfl)
        have N1025 := Fr.snoc X1025 N1021 (own_ale om919)
        refine Gl.go (fun _ hr => zXS_iload X1025.here hx rfl (hb hby at_424) rfl (zXS_iconst X1025.here hx rfl (hb hby at_426) (zXS_iadd X1025.here hx rfl (hb hby at_427) rfl (zXS_iload X1025.here hx rfl (hb hby at_428) rfl (zXS_iadd X1025.here hx rfl (hb hby at_430) rfl (zXS_istore X1025.here hx rfl (hb hby at_431) rfl (l' := #[sI i0, sI i1, sI i2, sI i3, sI i4, sI 3, sI ca, sI cb, sI cc, s9, sR x, sI (Int32.ofNat po), sR r_536, sI 5, sR b554, sR b915, sI 9]) rfl hr)))))) ?_
        have hto : (naT hs po).length = 9 := by rw [hhs, naT, show digs po = [dch (po / 10000), dch (po / 1000), dch (po / 100), dch (po / 10), dch po] from by rw [digs, if_neg (by omega), if_neg (by omega), if_neg (by omega), if_neg (by omega)]]; rfl
        have om1027 : @LE.le Nat instLENat h0.size b528 := by omega
        have om1028 : @LE.le Nat instLENat h0.size b554 := by omega
        have Ec1029 := ((((((((((((((((f536_1.ext E554).wr W556).wr W559).wr W561).wr W563).wr W565).ext E915).wr W922).wr W924).wr W926).wr W928).wr W1009).wr W1013).wr W1017).wr W1021).wr W1025)
        have om1030 : ¬ @Eq Nat r_536 b554 := by omega
        have Fc1031 := ((((((((((((((((f536_2.ext E554).other W556 (Or.inl (own_ane om1030))).other W559 (Or.inl (own_ane om1030))).other W561 (Or.inl (own_ane om1030))).other W563 (Or.inl (own_ane om1030))).other W565 (Or.inl (own_ane om1030))).ext E915).other W922 (Or.inl (own_ane om917))).other W924 (Or.inl (own_ane om917))).other W926 (Or.inl (own_ane om917))).other W928 (Or.inl (own_ane om917))).other W1009 (Or.inl (own_ane om917))).other W1013 (Or.inl (own_ane om917))).other W1017 (Or.inl (own_ane om917))).other W1021 (Or.inl (own_ane om917))).other W1025 (Or.inl (own_ane om917)))
        have Fc1032 := ((((((((((((((((f536_3.ext E554).other W556 (Or.inl (own_ane om1030))).other W559 (Or.inl (own_ane om1030))).other W561 (Or.inl (own_ane om1030))).other W563 (Or.inl (own_ane om1030))).other W565 (Or.inl (own_ane om1030))).ext E915).other W922 (Or.inl (own_ane om917))).other W924 (Or.inl (own_ane om917))).other W926 (Or.inl (own_ane om917))).other W928 (Or.inl (own_ane om917))).other W1009 (Or.inl (own_ane om917))).other W1013 (Or.inl (own_ane om917))).other W1017 (Or.inl (own_ane om917))).other W1021 (Or.inl (own_ane om917))).other W1025 (Or.inl (own_ane om917)))
        have om1033 : ¬ @Eq Nat t2_536 b554 := by omega
        have Vc1034 := ((((((((((((((((f536_4.ext E554).other W556 (own_ane om1033)).other W559 (own_ane om1033)).other W561 (own_ane om1033)).other W563 (own_ane om1033)).other W565 (own_ane om1033)).ext E915).other W922 (own_ane om918)).other W924 (own_ane om918)).other W926 (own_ane om918)).other W928 (own_ane om918)).other W1009 (own_ane om918)).other W1013 (own_ane om918)).other W1017 (own_ane om918)).other W1021 (own_ane om918)).other W1025 (own_ane om918))
        exact tB T1025 h1025 _ T536.vm _ r_536 t2_536 kr_536 N2_536 vs2_536 (naT hs po) b915 k915 ([(.int ca), (.int cb), (.int cc), (.int (58 : Int32)), (.int (dch (po / 10000))), (.int (dch (po / 1000))), (.int (dch (po / 100))), (.int (dch (po / 10))), (.int (dch po))]) 9 (sI 3) (sI ca) (sI cb) (sI cc) s9 (sR x) (sI (Int32.ofNat po)) (sI 5) (sR b554) N1025 (X1025.more (by decide) (by decide)) e1025 (((((((((((((((((((((Keep.refl h0 []).trans Kc all0).ext E528).trans K530 (allS (P := fun x_ => x_ ∈ ([] : List Addr) ∨ h0.size ≤ x_) (Or.inr (own_ale om1027)) all0)).trans K536 all0).ext E554).wr W556 (Or.inr (own_ale om1028))).wr W559 (Or.inr (own_ale om1028))).wr W561 (Or.inr (own_ale om1028))).wr W563 (Or.inr (own_ale om1028))).wr W565 (Or.inr (own_ale om1028))).ext E915).wr W922 (Or.inr (own_ale om920))).wr W924 (Or.inr (own_ale om920))).wr W926 (Or.inr (own_ale om920))).wr W928 (Or.inr (own_ale om920))).wr W1009 (Or.inr (own_ale om920))).wr W1013 (Or.inr (own_ale om920))).wr W1017 (Or.inr (own_ale om920))).wr W1021 (Or.inr (own_ale om920))).wr W1025 (Or.inr (own_ale om920))) hS536 (by have q := hk536; omega) hZ536 hown536 Ec1029 Fc1031 Fc1032 Vc1034 V1025 f536_5 (naT_lat hlatA) hto (by decide) (own_hes (zs := List.replicate 0 (.int 0)) (by rw [hhs, naT, show digs po = [dch (po / 10000), dch (po / 1000), dch (po / 100), dch (po / 10), dch po] from by rw [digs, if_neg (by omega), if_neg (by omega), if_neg (by omega), if_neg (by omega)]]; rfl) hto)
  refine Gl.go (fun _ hr => zXS_iloadN X0.here hx rfl (hb hby at_0) rfl (zXS_iconst X0.here hx rfl (hb hby at_1) (zXS_iand X0.here hx rfl (hb hby at_2) rfl hr))) ?_
  show Gl p.tables e below _ (s₁.setTop (mkF m 3 #[sI i0, sI i1, sI i2, sI i3, sI i4, sU, sU, sU, sU, sU, sU, sU, sU, sU, sU, sU, sU] [(.int (i0 &&& (3 : Int32)))]))
  rcases own_and3 i0 with h3 | h3 | h3 | h3
  · rw [h3]
    show Gl p.tables e below _ (s₁.setTop (mkF m 3 #[sI i0, sI i1, sI i2, sI i3, sI i4, sU, sU, sU, sU, sU, sU, sU, sU, sU, sU, sU, sU] [(.int (0 : Int32))]))
    refine Gl.go (fun _ hr => zXS_istore X0.here hx rfl (hb hby at_3) rfl (l' := #[sI i0, sI i1, sI i2, sI i3, sI i4, sI 0, sU, sU, sU, sU, sU, sU, sU, sU, sU, sU, sU]) rfl (zXS_iloadN X0.here hx rfl (hb hby at_5) rfl (zXS_sipush X0.here hx rfl (hb hby at_6) (zXS_iand X0.here hx rfl (hb hby at_9) rfl (zXT_i2c X0.here hx rfl (hb hby at_10) rfl (zXS_istore X0.here hx rfl (hb hby at_11) rfl (l' := #[sI i0, sI i1, sI i2, sI i3, sI i4, sI 0, sI ((i1 &&& (255 : Int32)).toUInt32.toUInt16.toUInt32.toInt32), sU, sU, sU, sU, sU, sU, sU, sU, sU, sU]) rfl (zXS_iloadN X0.here hx rfl (hb hby at_13) rfl (zXS_sipush X0.here hx rfl (hb hby at_14) (zXS_iand X0.here hx rfl (hb hby at_17) rfl (zXT_i2c X0.here hx rfl (hb hby at_18) rfl hr)))))))))) ?_
    refine Gl.go (fun _ hr => zXS_istore X0.here hx rfl (hb hby at_19) rfl (l' := #[sI i0, sI i1, sI i2, sI i3, sI i4, sI 0, sI ((i1 &&& (255 : Int32)).toUInt32.toUInt16.toUInt32.toInt32), sI ((i2 &&& (255 : Int32)).toUInt32.toUInt16.toUInt32.toInt32), sU, sU, sU, sU, sU, sU, sU, sU, sU]) rfl (zXS_iloadN X0.here hx rfl (hb hby at_21) rfl (zXS_sipush X0.here hx rfl (hb hby at_22) (zXS_iand X0.here hx rfl (hb hby at_25) rfl (zXT_i2c X0.here hx rfl (hb hby at_26) rfl (zXS_istore X0.here hx rfl (hb hby at_27) rfl (l' := #[sI i0, sI i1, sI i2, sI i3, sI i4, sI 0, sI ((i1 &&& (255 : Int32)).toUInt32.toUInt16.toUInt32.toInt32), sI ((i2 &&& (255 : Int32)).toUInt32.toUInt16.toUInt32.toInt32), sI ((i3 &&& (255 : Int32)).toUInt32.toUInt16.toUInt32.toInt32), sU, sU, sU, sU, sU, sU, sU, sU]) rfl (zXS_iload X0.here hx rfl (hb hby at_29) rfl (zXS_ifNo X0.here hx rfl (hb hby at_31) rfl (XT.i0_ne_f (by decide)) (zXS_iconst X0.here hx rfl (hb hby at_34) hr))))))))) ?_
    refine gNewP Gl.cl X0 hx hZ (tw hw 0 rfl) e0 rfl (hb hby at_35) rfl (by decide) (cap := 0) (by decide) (by decide) (by decide) (by decide) ?_
    intro T1035 h1035 b1035 k1035 g1035 X1035 e1035 E1035 A1035
    have z1036 : h0.size ≤ h1035.size := E1035.1
    have lt1035 := own_alt A1035.lt
    have V1035 : Arv Z h1035 b1035 k1035 .char (0 : Int32) [] (.int (0 : Int32)) := (Arv.new A1035 (by decide)).pad (pad_rep [] (.int (0 : Int32)) 0)
    refine Gl.go (fun _ hr => zXS_astore X1035.here hx rfl (hb hby at_37) rfl rfl (l' := #[sI i0, sI i1, sI i2, sI i3, sI i4, sI 0, sI ((i1 &&& (255 : Int32)).toUInt32.toUInt16.toUInt32.toInt32), sI ((i2 &&& (255 : Int32)).toUInt32.toUInt16.toUInt32.toInt32), sI ((i3 &&& (255 : Int32)).toUInt32.toUInt16.toUInt32.toInt32), sR b1035, sU, sU, sU, sU, sU, sU, sU]) rfl (zXS_goto X1035.here hx rfl (pc0 := 39) (pc' := 105) rfl (hb hby at_39) (by decide) (by decide) hr)) ?_
    refine gNew Gl.cl X1035 hx hZ hown (tw hw 1 rfl) (tw hw 2 rfl) (tw hw 3 rfl) e1035 rfl (hb hby at_105) (by decide) (by decide) ?_
    intro T1037 h1037 b1037 g1037 X1037 e1037 E1037 A1037 D1037
    have z1038 : h1035.size ≤ h1037.size := E1037.1
    have lt1037 := own_alt A1037.lt
    have F1037_value : Fld Z h1037 b1037 "java/lang/String" "value" "[B" .null := D1037 (Or.inr (tw hw 16 rfl)) (ty := (.array .byte)) (by decide)
    have F1037_coder : Fld Z h1037 b1037 "java/lang/String" "coder" "B" (.int (0 : Int32)) := D1037 (Or.inr (tw hw 17 rfl)) (ty := .byte) (by decide)
    refine Gl.go (fun _ hr => zXS_dup X1037.here hx rfl (hb hby at_108) rfl rfl (zXS_aload X1037.here hx rfl (hb hby at_109) rfl rfl hr)) ?_
    have Oc1040 := ((Oo.ext E1035).ext E1037)
    have Vc1041 := (V1035.ext E1037)
    have zz1039 : n0 ≤ h1037.size := by omega
    have ph1042 := hphi_em.keep (((Keep.refl h0 []).ext E1035).ext E1037)
    refine gSpecialJ Gl.cl (y := (⟨"java/lang/String", "<init>", "([C)V"⟩ : MethodName)) (b := b1037) (argsL := [(.ref b1035)]) (rest := [(.ref b1037)]) (mc := 2) (ms := 4) (Φ := fun vm => EmJ Z vm h1037) X1037 hx hZ hS0 (by have q := hk0; omega) hown rfl (mvT hZ (tw hw 4 rfl)) (mvT hZ (tw hw 5 rfl)) (mvT hZ (tw hw 6 rfl)) (by decide) (backOfJ (Φ := fun vm => EmJ Z vm h1037) (W := 1) (e1 l Z a0 hw [] b1037 b1035 k1035 h1037 n0 zz1039 ⟨Oc1040, (by omega)⟩ (by assumption) (by assumption) (by omega) A1037 F1037_value F1037_coder Vc1041) hZ (tw hw 6 rfl) (tw hw 3 rfl) (by decide) (by decide)) rfl (by rw [hml]; rfl) (lenOf pd_25 rfl) rfl (by show 2 * 0 + _ ≤ _; exact Nat.le_of_eq rfl) (hb hby at_111) rfl e1037 (fun vm₁ hvm => ph1042.warm hvm) (by decide) (by decide) ?_
    intro v1039 T1039 Lc1039 hQ1039 X1039 hS1039 hZ1039 hown1039 hk1039
    obtain ⟨t_1039, kb_1039, rfl, Nq1039, K1039, f1039_0, f1039_1, f1039_2, f1039_3, f1039_4, ph1039_em⟩ := hQ1039
    have z1043 : h1037.size ≤ T1039.heap.size := K1039.1
    have N1039 := Fr.app N0 Nq1039
    have lt1044 := own_alt f1039_0.lt
    have lt1045 := own_alt f1039_1.lt
    have lt1046 := own_alt f1039_2.lt
    have lt1047 := own_alt f1039_3.lt
    have om1048 : @LE.le Nat instLENat h0.size b1037 := by omega
    exact tA T1039 T1039.heap _ T1039.vm _ 0 ([] : List Int32) b1037 t_1039 kb_1039 (sR b1035) ((i1 &&& (255 : Int32)).toUInt32.toUInt16.toUInt32.toInt32) ((i2 &&& (255 : Int32)).toUInt32.toUInt16.toUInt32.toInt32) ((i3 &&& (255 : Int32)).toUInt32.toUInt16.toUInt32.toInt32) N1039 (X1039.more (by decide) (by decide)) (rfl : T1039.heap = T1039.heap) ((((Keep.refl h0 []).ext E1035).ext E1037).trans K1039 (allS (P := fun x_ => x_ ∈ ([] : List Addr) ∨ h0.size ≤ x_) (Or.inr (own_ale om1048)) all0)) hS1039 (by have q := hk1039; omega) hZ1039 hown1039 ph1039_em f1039_0 f1039_1 f1039_2 f1039_3 (by decide) rfl ⟨own_lat i1, own_nar_i2c _⟩ ⟨own_lat i2, own_nar_i2c _⟩ ⟨own_lat i3, own_nar_i2c _⟩
  · rw [h3]
    show Gl p.tables e below _ (s₁.setTop (mkF m 3 #[sI i0, sI i1, sI i2, sI i3, sI i4, sU, sU, sU, sU, sU, sU, sU, sU, sU, sU, sU, sU] [(.int (1 : Int32))]))
    refine Gl.go (fun _ hr => zXS_istore X0.here hx rfl (hb hby at_3) rfl (l' := #[sI i0, sI i1, sI i2, sI i3, sI i4, sI 1, sU, sU, sU, sU, sU, sU, sU, sU, sU, sU, sU]) rfl (zXS_iloadN X0.here hx rfl (hb hby at_5) rfl (zXS_sipush X0.here hx rfl (hb hby at_6) (zXS_iand X0.here hx rfl (hb hby at_9) rfl (zXT_i2c X0.here hx rfl (hb hby at_10) rfl (zXS_istore X0.here hx rfl (hb hby at_11) rfl (l' := #[sI i0, sI i1, sI i2, sI i3, sI i4, sI 1, sI ((i1 &&& (255 : Int32)).toUInt32.toUInt16.toUInt32.toInt32), sU, sU, sU, sU, sU, sU, sU, sU, sU, sU]) rfl (zXS_iloadN X0.here hx rfl (hb hby at_13) rfl (zXS_sipush X0.here hx rfl (hb hby at_14) (zXS_iand X0.here hx rfl (hb hby at_17) rfl (zXT_i2c X0.here hx rfl (hb hby at_18) rfl hr)))))))))) ?_
    refine Gl.go (fun _ hr => zXS_istore X0.here hx rfl (hb hby at_19) rfl (l' := #[sI i0, sI i1, sI i2, sI i3, sI i4, sI 1, sI ((i1 &&& (255 : Int32)).toUInt32.toUInt16.toUInt32.toInt32), sI ((i2 &&& (255 : Int32)).toUInt32.toUInt16.toUInt32.toInt32), sU, sU, sU, sU, sU, sU, sU, sU, sU]) rfl (zXS_iloadN X0.here hx rfl (hb hby at_21) rfl (zXS_sipush X0.here hx rfl (hb hby at_22) (zXS_iand X0.here hx rfl (hb hby at_25) rfl (zXT_i2c X0.here hx rfl (hb hby at_26) rfl (zXS_istore X0.here hx rfl (hb hby at_27) rfl (l' := #[sI i0, sI i1, sI i2, sI i3, sI i4, sI 1, sI ((i1 &&& (255 : Int32)).toUInt32.toUInt16.toUInt32.toInt32), sI ((i2 &&& (255 : Int32)).toUInt32.toUInt16.toUInt32.toInt32), sI ((i3 &&& (255 : Int32)).toUInt32.toUInt16.toUInt32.toInt32), sU, sU, sU, sU, sU, sU, sU, sU]) rfl (zXS_iload X0.here hx rfl (hb hby at_29) rfl (zXS_ifYes X0.here hx rfl (pc0 := 31) (pc' := 42) rfl (hb hby at_31) rfl (XT.i0_ne_t (by decide)) (by decide) (by decide) (zXS_iload X0.here hx rfl (hb hby at_42) rfl (zXS_iconst X0.here hx rfl (hb hby at_44) hr)))))))))) ?_
    refine Gl.go (fun _ hr => zXS_icmpNo X0.here hx rfl (hb hby at_45) rfl (XT.ii_ne_f (by decide)) (zXS_iconst X0.here hx rfl (hb hby at_48) hr)) ?_
    refine gNewP Gl.cl X0 hx hZ (tw hw 0 rfl) e0 rfl (hb hby at_49) rfl (by decide) (cap := 1) (by decide) (by decide) (by decide) (by decide) ?_
    intro T1049 h1049 b1049 k1049 g1049 X1049 e1049 E1049 A1049
    have z1050 : h0.size ≤ h1049.size := E1049.1
    have lt1049 := own_alt A1049.lt
    have V1049 : Arv Z h1049 b1049 k1049 .char (1 : Int32) [(.int (0 : Int32))] (.int (0 : Int32)) := (Arv.new A1049 (by decide)).pad (pad_rep [] (.int (0 : Int32)) 1)
    refine Gl.go (fun _ hr => zXS_dup X1049.here hx rfl (hb hby at_51) rfl rfl (zXS_iconst X1049.here hx rfl (hb hby at_52) (zXS_iload X1049.here hx rfl (hb hby at_53) rfl hr))) ?_
    obtain ⟨c1051, a1051, q1051, s1051, m1051, H1051, U1051⟩ := id V1049
    refine gstC Gl.cl X1049 hx hZ e1049 a1051 (j := (0 : Int32)) (inb_of s1051 ⟨(by decide), (by decide)⟩) rfl rfl (hb hby at_55) ?_
    intro T1051 h1051 X1051 e1051 W1051
    have z1052 : h1049.size ≤ h1051.size := (Keep.of_wr W1051).1
    rw [(own_nar_i2c _)] at W1051
    have V1051 : Arv Z h1051 b1049 k1049 .char (1 : Int32) [(.int ((i1 &&& (255 : Int32)).toUInt32.toUInt16.toUInt32.toInt32))] (.int (0 : Int32)) := Arv.set a1051 q1051 s1051 m1051 H1051 U1051 (own_fit_i2c _) W1051 0 rfl (Nat.le_of_ble_eq_true rfl)
    have om1053 : @LE.le Nat instLENat n0 b1049 := by omega
    have N1051 := Fr.snoc X1051 N0 (own_ale om1053)
    refine Gl.go (fun _ hr => zXS_astore X1051.here hx rfl (hb hby at_56) rfl rfl (l' := #[sI i0, sI i1, sI i2, sI i3, sI i4, sI 1, sI ((i1 &&& (255 : Int32)).toUInt32.toUInt16.toUInt32.toInt32), sI ((i2 &&& (255 : Int32)).toUInt32.toUInt16.toUInt32.toInt32), sI ((i3 &&& (255 : Int32)).toUInt32.toUInt16.toUInt32.toInt32), sR b1049, sU, sU, sU, sU, sU, sU, sU]) rfl (zXS_goto X1051.here hx rfl (pc0 := 58) (pc' := 105) rfl (hb hby at_58) (by decide) (by decide) hr)) ?_
    refine gNew Gl.cl X1051 hx hZ hown (tw hw 1 rfl) (tw hw 2 rfl) (tw hw 3 rfl) e1051 rfl (hb hby at_105) (by decide) (by decide) ?_
    intro T1054 h1054 b1054 g1054 X1054 e1054 E1054 A1054 D1054
    have z1055 : h1051.size ≤ h1054.size := E1054.1
    have lt1054 := own_alt A1054.lt
    have F1054_value : Fld Z h1054 b1054 "java/lang/String" "value" "[B" .null := D1054 (Or.inr (tw hw 16 rfl)) (ty := (.array .byte)) (by decide)
    have F1054_coder : Fld Z h1054 b1054 "java/lang/String" "coder" "B" (.int (0 : Int32)) := D1054 (Or.inr (tw hw 17 rfl)) (ty := .byte) (by decide)
    refine Gl.go (fun _ hr => zXS_dup X1054.here hx rfl (hb hby at_108) rfl rfl (zXS_aload X1054.here hx rfl (hb hby at_109) rfl rfl hr)) ?_
    have hp1056 : ∀ c ∈ ([((i1 &&& (255 : Int32)).toUInt32.toUInt16.toUInt32.toInt32)] : List Int32), Lat c := (own_cS (own_lat i1) own_c0)
    have Vc1057 := (V1051.ext E1054)
    have om1058 : @LE.le Nat instLENat Z.heap.size b1049 := by omega
    have Oc1059 := (((Oo.ext E1049).wr W1051 (own_ale om1058)).ext E1054)
    refine gSpecialN Gl.cl (y := (⟨"java/lang/String", "<init>", "([C)V"⟩ : MethodName)) (b := b1054) (argsL := [(.ref b1049)]) (rest := [(.ref b1054)]) (mc := 1) (ms := 1) X1054 hx hZ hown rfl (mvT hZ (tw hw 4 rfl)) (mvT hZ (tw hw 5 rfl)) (mvT hZ (tw hw 6 rfl)) (by decide) (StrChars.Road.backV (W := 1) hZ hws (kI := 4) (tw hw 2 rfl) (cs := ([((i1 &&& (255 : Int32)).toUInt32.toUInt16.toUInt32.toInt32)] : List Int32)) (bs := ([((i1 &&& (255 : Int32)).toUInt32.toUInt16.toUInt32.toInt32)] : List Int32).map (fun c => c.toInt8.toInt32)) (n := 1) (n0 := n0) (by omega) (by omega) A1054 F1054_value F1054_coder Vc1057 (q0.ext Oc1059.2) P5 rfl rfl (by decide) (by decide) hp1056 rfl (by decide) (by decide)) rfl (by rw [hml]; rfl) (lenOf pd_25 rfl) rfl (by show 2 * 0 + _ ≤ _; exact Nat.le_of_eq rfl) (hb hby at_111) rfl e1054 (by decide) (by decide) ?_
    intro v1056 T1056 Lc1056 hQ1056 X1056
    obtain ⟨rfl, Nq1056, K1056, f1056_E, f1056_C, t1056, kb1056, g1056_0, g1056_1, g1056_2, f1056_V, f1056_A⟩ := hQ1056
    have z1060 : h1054.size ≤ T1056.heap.size := K1056.1
    have N1056 := Fr.app N1051 Nq1056
    have lt1061 := own_alt f1056_E.lt
    have lt1062 := own_alt f1056_C.lt
    have lt1063 := own_alt f1056_V.lt
    have lt1064 := own_alt f1056_A.lt
    have hcd1056 : StrChars.Road.CodA ([((i1 &&& (255 : Int32)).toUInt32.toUInt16.toUInt32.toInt32)] : List Int32) 0 (1 : Int32) ((([((i1 &&& (255 : Int32)).toUInt32.toUInt16.toUInt32.toInt32)] : List Int32).map (fun c => c.toInt8.toInt32)).map Value.int) := StrChars.Road.codOf (n := 1) rfl (fun c hc => (hp1056 c hc).2)
    have hbd1056 : ∀ c ∈ ([((i1 &&& (255 : Int32)).toUInt32.toUInt16.toUInt32.toInt32)] : List Int32), Wid c := own_up hp1056
    have om1065 : @LE.le Nat instLENat h0.size b1049 := by omega
    have om1066 : @LE.le Nat instLENat h0.size b1054 := by omega
    have ph1067 := hphi_em.keep (((((Keep.refl h0 []).ext E1049).wr W1051 (Or.inr (own_ale om1065))).ext E1054).trans K1056 (allS (P := fun x_ => x_ ∈ ([] : List Addr) ∨ h0.size ≤ x_) (Or.inr (own_ale om1066)) all0))
    exact tA T1056 T1056.heap _ s.vm _ 1 ([((i1 &&& (255 : Int32)).toUInt32.toUInt16.toUInt32.toInt32)] : List Int32) b1054 t1056 kb1056 (sR b1049) ((i1 &&& (255 : Int32)).toUInt32.toUInt16.toUInt32.toInt32) ((i2 &&& (255 : Int32)).toUInt32.toUInt16.toUInt32.toInt32) ((i3 &&& (255 : Int32)).toUInt32.toUInt16.toUInt32.toInt32) N1056 (X1056.more (by decide) (by decide)) (rfl : T1056.heap = T1056.heap) (((((Keep.refl h0 []).ext E1049).wr W1051 (Or.inr (own_ale om1065))).ext E1054).trans K1056 (allS (P := fun x_ => x_ ∈ ([] : List Addr) ∨ h0.size ≤ x_) (Or.inr (own_ale om1066)) all0)) hS0 (by have q := hk0; omega) hZ hown ph1067 f1056_E f1056_V f1056_C f1056_A (by decide) rfl ⟨own_lat i1, own_nar_i2c _⟩ ⟨own_lat i2, own_nar_i2c _⟩ ⟨own_lat i3, own_nar_i2c _⟩
  · rw [h3]
    show Gl p.tables e below _ (s₁.setTop (mkF m 3 #[sI i0, sI i1, sI i2, sI i3, sI i4, sU, sU, sU, sU, sU, sU, sU, sU, sU, sU, sU, sU] [(.int (2 : Int32))]))
    refine Gl.go (fun _ hr => zXS_istore X0.here hx rfl (hb hby at_3) rfl (l' := #[sI i0, sI i1, sI i2, sI i3, sI i4, sI 2, sU, sU, sU, sU, sU, sU, sU, sU, sU, sU, sU]) rfl (zXS_iloadN X0.here hx rfl (hb hby at_5) rfl (zXS_sipush X0.here hx rfl (hb hby at_6) (zXS_iand X0.here hx rfl (hb hby at_9) rfl (zXT_i2c X0.here hx rfl (hb hby at_10) rfl (zXS_istore X0.here hx rfl (hb hby at_11) rfl (l' := #[sI i0, sI i1, sI i2, sI i3, sI i4, sI 2, sI ((i1 &&& (255 : Int32)).toUInt32.toUInt16.toUInt32.toInt32), sU, sU, sU, sU, sU, sU, sU, sU, sU, sU]) rfl (zXS_iloadN X0.here hx rfl (hb hby at_13) rfl (zXS_sipush X0.here hx rfl (hb hby at_14) (zXS_iand X0.here hx rfl (hb hby at_17) rfl (zXT_i2c X0.here hx rfl (hb hby at_18) rfl hr)))))))))) ?_
    refine Gl.go (fun _ hr => zXS_istore X0.here hx rfl (hb hby at_19) rfl (l' := #[sI i0, sI i1, sI i2, sI i3, sI i4, sI 2, sI ((i1 &&& (255 : Int32)).toUInt32.toUInt16.toUInt32.toInt32), sI ((i2 &&& (255 : Int32)).toUInt32.toUInt16.toUInt32.toInt32), sU, sU, sU, sU, sU, sU, sU, sU, sU]) rfl (zXS_iloadN X0.here hx rfl (hb hby at_21) rfl (zXS_sipush X0.here hx rfl (hb hby at_22) (zXS_iand X0.here hx rfl (hb hby at_25) rfl (zXT_i2c X0.here hx rfl (hb hby at_26) rfl (zXS_istore X0.here hx rfl (hb hby at_27) rfl (l' := #[sI i0, sI i1, sI i2, sI i3, sI i4, sI 2, sI ((i1 &&& (255 : Int32)).toUInt32.toUInt16.toUInt32.toInt32), sI ((i2 &&& (255 : Int32)).toUInt32.toUInt16.toUInt32.toInt32), sI ((i3 &&& (255 : Int32)).toUInt32.toUInt16.toUInt32.toInt32), sU, sU, sU, sU, sU, sU, sU, sU]) rfl (zXS_iload X0.here hx rfl (hb hby at_29) rfl (zXS_ifYes X0.here hx rfl (pc0 := 31) (pc' := 42) rfl (hb hby at_31) rfl (XT.i0_ne_t (by decide)) (by decide) (by decide) (zXS_iload X0.here hx rfl (hb hby at_42) rfl (zXS_iconst X0.here hx rfl (hb hby at_44) hr)))))))))) ?_
    refine Gl.go (fun _ hr => zXS_icmpYes X0.here hx rfl (pc0 := 45) (pc' := 61) rfl (hb hby at_45) rfl (XT.ii_ne_t (by decide)) (by decide) (by decide) (zXS_iload X0.here hx rfl (hb hby at_61) rfl (zXS_iconst X0.here hx rfl (hb hby at_63) (zXS_icmpNo X0.here hx rfl (hb hby at_64) rfl (XT.ii_ne_f (by decide)) (zXS_iconst X0.here hx rfl (hb hby at_67) hr))))) ?_
    refine gNewP Gl.cl X0 hx hZ (tw hw 0 rfl) e0 rfl (hb hby at_68) rfl (by decide) (cap := 2) (by decide) (by decide) (by decide) (by decide) ?_
    intro T1068 h1068 b1068 k1068 g1068 X1068 e1068 E1068 A1068
    have z1069 : h0.size ≤ h1068.size := E1068.1
    have lt1068 := own_alt A1068.lt
    have V1068 : Arv Z h1068 b1068 k1068 .char (2 : Int32) [(.int (0 : Int32)), (.int (0 : Int32))] (.int (0 : Int32)) := (Arv.new A1068 (by decide)).pad (pad_rep [] (.int (0 : Int32)) 2)
    refine Gl.go (fun _ hr => zXS_dup X1068.here hx rfl (hb hby at_70) rfl rfl (zXS_iconst X1068.here hx rfl (hb hby at_71) (zXS_iload X1068.here hx rfl (hb hby at_72) rfl hr))) ?_
    obtain ⟨c1070, a1070, q1070, s1070, m1070, H1070, U1070⟩ := id V1068
    refine gstC Gl.cl X1068 hx hZ e1068 a1070 (j := (0 : Int32)) (inb_of s1070 ⟨(by decide), (by decide)⟩) rfl rfl (hb hby at_74) ?_
    intro T1070 h1070 X1070 e1070 W1070
    have z1071 : h1068.size ≤ h1070.size := (Keep.of_wr W1070).1
    rw [(own_nar_i2c _)] at W1070
    have V1070 : Arv Z h1070 b1068 k1068 .char (2 : Int32) [(.int ((i1 &&& (255 : Int32)).toUInt32.toUInt16.toUInt32.toInt32)), (.int (0 : Int32))] (.int (0 : Int32)) := Arv.set a1070 q1070 s1070 m1070 H1070 U1070 (own_fit_i2c _) W1070 0 rfl (Nat.le_of_ble_eq_true rfl)
    have om1072 : @LE.le Nat instLENat n0 b1068 := by omega
    have N1070 := Fr.snoc X1070 N0 (own_ale om1072)
    refine Gl.go (fun _ hr => zXS_dup X1070.here hx rfl (hb hby at_75) rfl rfl (zXS_iconst X1070.here hx rfl (hb hby at_76) (zXS_iload X1070.here hx rfl (hb hby at_77) rfl hr))) ?_
    obtain ⟨c1073, a1073, q1073, s1073, m1073, H1073, U1073⟩ := id V1070
    refine gstC Gl.cl X1070 hx hZ e1070 a1073 (j := (1 : Int32)) (inb_of s1073 ⟨(by decide), (by decide)⟩) rfl rfl (hb hby at_79) ?_
    intro T1073 h1073 X1073 e1073 W1073
    have z1074 : h1070.size ≤ h1073.size := (Keep.of_wr W1073).1
    rw [(own_nar_i2c _)] at W1073
    have V1073 : Arv Z h1073 b1068 k1068 .char (2 : Int32) [(.int ((i1 &&& (255 : Int32)).toUInt32.toUInt16.toUInt32.toInt32)), (.int ((i2 &&& (255 : Int32)).toUInt32.toUInt16.toUInt32.toInt32))] (.int (0 : Int32)) := Arv.set a1073 q1073 s1073 m1073 H1073 U1073 (own_fit_i2c _) W1073 1 rfl (Nat.le_of_ble_eq_true rfl)
    have N1073 := Fr.snoc X1073 N1070 (own_ale om1072)
    refine Gl.go (fun _ hr => zXS_astore X1073.here hx rfl (hb hby at_80) rfl rfl (l' := #[sI i0, sI i1, sI i2, sI i3, sI i4, sI 2, sI ((i1 &&& (255 : Int32)).toUInt32.toUInt16.toUInt32.toInt32), sI ((i2 &&& (255 : Int32)).toUInt32.toUInt16.toUInt32.toInt32), sI ((i3 &&& (255 : Int32)).toUInt32.toUInt16.toUInt32.toInt32), sR b1068, sU, sU, sU, sU, sU, sU, sU]) rfl (zXS_goto X1073.here hx rfl (pc0 := 82) (pc' := 105) rfl (hb hby at_82) (by decide) (by decide) hr)) ?_
    refine gNew Gl.cl X1073 hx hZ hown (tw hw 1 rfl) (tw hw 2 rfl) (tw hw 3 rfl) e1073 rfl (hb hby at_105) (by decide) (by decide) ?_
    intro T1075 h1075 b1075 g1075 X1075 e1075 E1075 A1075 D1075
    have z1076 : h1073.size ≤ h1075.size := E1075.1
    have lt1075 := own_alt A1075.lt
    have F1075_value : Fld Z h1075 b1075 "java/lang/String" "value" "[B" .null := D1075 (Or.inr (tw hw 16 rfl)) (ty := (.array .byte)) (by decide)
    have F1075_coder : Fld Z h1075 b1075 "java/lang/String" "coder" "B" (.int (0 : Int32)) := D1075 (Or.inr (tw hw 17 rfl)) (ty := .byte) (by decide)
    refine Gl.go (fun _ hr => zXS_dup X1075.here hx rfl (hb hby at_108) rfl rfl (zXS_aload X1075.here hx rfl (hb hby at_109) rfl rfl hr)) ?_
    have hp1077 : ∀ c ∈ ([((i1 &&& (255 : Int32)).toUInt32.toUInt16.toUInt32.toInt32), ((i2 &&& (255 : Int32)).toUInt32.toUInt16.toUInt32.toInt32)] : List Int32), Lat c := (own_cS (own_lat i1) (own_cS (own_lat i2) own_c0))
    have Vc1078 := (V1073.ext E1075)
    have om1079 : @LE.le Nat instLENat Z.heap.size b1068 := by omega
    have Oc1080 := ((((Oo.ext E1068).wr W1070 (own_ale om1079)).wr W1073 (own_ale om1079)).ext E1075)
    refine gSpecialN Gl.cl (y := (⟨"java/lang/String", "<init>", "([C)V"⟩ : MethodName)) (b := b1075) (argsL := [(.ref b1068)]) (rest := [(.ref b1075)]) (mc := 1) (ms := 2) X1075 hx hZ hown rfl (mvT hZ (tw hw 4 rfl)) (mvT hZ (tw hw 5 rfl)) (mvT hZ (tw hw 6 rfl)) (by decide) (StrChars.Road.backV (W := 1) hZ hws (kI := 4) (tw hw 2 rfl) (cs := ([((i1 &&& (255 : Int32)).toUInt32.toUInt16.toUInt32.toInt32), ((i2 &&& (255 : Int32)).toUInt32.toUInt16.toUInt32.toInt32)] : List Int32)) (bs := ([((i1 &&& (255 : Int32)).toUInt32.toUInt16.toUInt32.toInt32), ((i2 &&& (255 : Int32)).toUInt32.toUInt16.toUInt32.toInt32)] : List Int32).map (fun c => c.toInt8.toInt32)) (n := 2) (n0 := n0) (by omega) (by omega) A1075 F1075_value F1075_coder Vc1078 (q0.ext Oc1080.2) P5 rfl rfl (by decide) (by decide) hp1077 rfl (by decide) (by decide)) rfl (by rw [hml]; rfl) (lenOf pd_25 rfl) rfl (by show 2 * 0 + _ ≤ _; exact Nat.le_of_eq rfl) (hb hby at_111) rfl e1075 (by decide) (by decide) ?_
    intro v1077 T1077 Lc1077 hQ1077 X1077
    obtain ⟨rfl, Nq1077, K1077, f1077_E, f1077_C, t1077, kb1077, g1077_0, g1077_1, g1077_2, f1077_V, f1077_A⟩ := hQ1077
    have z1081 : h1075.size ≤ T1077.heap.size := K1077.1
    have N1077 := Fr.app N1073 Nq1077
    have lt1082 := own_alt f1077_E.lt
    have lt1083 := own_alt f1077_C.lt
    have lt1084 := own_alt f1077_V.lt
    have lt1085 := own_alt f1077_A.lt
    have hcd1077 : StrChars.Road.CodA ([((i1 &&& (255 : Int32)).toUInt32.toUInt16.toUInt32.toInt32), ((i2 &&& (255 : Int32)).toUInt32.toUInt16.toUInt32.toInt32)] : List Int32) 0 (2 : Int32) ((([((i1 &&& (255 : Int32)).toUInt32.toUInt16.toUInt32.toInt32), ((i2 &&& (255 : Int32)).toUInt32.toUInt16.toUInt32.toInt32)] : List Int32).map (fun c => c.toInt8.toInt32)).map Value.int) := StrChars.Road.codOf (n := 2) rfl (fun c hc => (hp1077 c hc).2)
    have hbd1077 : ∀ c ∈ ([((i1 &&& (255 : Int32)).toUInt32.toUInt16.toUInt32.toInt32), ((i2 &&& (255 : Int32)).toUInt32.toUInt16.toUInt32.toInt32)] : List Int32), Wid c := own_up hp1077
    have om1086 : @LE.le Nat instLENat h0.size b1068 := by omega
    have om1087 : @LE.le Nat instLENat h0.size b1075 := by omega
    have ph1088 := hphi_em.keep ((((((Keep.refl h0 []).ext E1068).wr W1070 (Or.inr (own_ale om1086))).wr W1073 (Or.inr (own_ale om1086))).ext E1075).trans K1077 (allS (P := fun x_ => x_ ∈ ([] : List Addr) ∨ h0.size ≤ x_) (Or.inr (own_ale om1087)) all0))
    exact tA T1077 T1077.heap _ s.vm _ 2 ([((i1 &&& (255 : Int32)).toUInt32.toUInt16.toUInt32.toInt32), ((i2 &&& (255 : Int32)).toUInt32.toUInt16.toUInt32.toInt32)] : List Int32) b1075 t1077 kb1077 (sR b1068) ((i1 &&& (255 : Int32)).toUInt32.toUInt16.toUInt32.toInt32) ((i2 &&& (255 : Int32)).toUInt32.toUInt16.toUInt32.toInt32) ((i3 &&& (255 : Int32)).toUInt32.toUInt16.toUInt32.toInt32) N1077 (X1077.more (by decide) (by decide)) (rfl : T1077.heap = T1077.heap) ((((((Keep.refl h0 []).ext E1068).wr W1070 (Or.inr (own_ale om1086))).wr W1073 (Or.inr (own_ale om1086))).ext E1075).trans K1077 (allS (P := fun x_ => x_ ∈ ([] : List Addr) ∨ h0.size ≤ x_) (Or.inr (own_ale om1087)) all0)) hS0 (by have q := hk0; omega) hZ hown ph1088 f1077_E f1077_V f1077_C f1077_A (by decide) rfl ⟨own_lat i1, own_nar_i2c _⟩ ⟨own_lat i2, own_nar_i2c _⟩ ⟨own_lat i3, own_nar_i2c _⟩
  · rw [h3]
    show Gl p.tables e below _ (s₁.setTop (mkF m 3 #[sI i0, sI i1, sI i2, sI i3, sI i4, sU, sU, sU, sU, sU, sU, sU, sU, sU, sU, sU, sU] [(.int (3 : Int32))]))
    refine Gl.go (fun _ hr => zXS_istore X0.here hx rfl (hb hby at_3) rfl (l' := #[sI i0, sI i1, sI i2, sI i3, sI i4, sI 3, sU, sU, sU, sU, sU, sU, sU, sU, sU, sU, sU]) rfl (zXS_iloadN X0.here hx rfl (hb hby at_5) rfl (zXS_sipush X0.here hx rfl (hb hby at_6) (zXS_iand X0.here hx rfl (hb hby at_9) rfl (zXT_i2c X0.here hx rfl (hb hby at_10) rfl (zXS_istore X0.here hx rfl (hb hby at_11) rfl (l' := #[sI i0, sI i1, sI i2, sI i3, sI i4, sI 3, sI ((i1 &&& (255 : Int32)).toUInt32.toUInt16.toUInt32.toInt32), sU, sU, sU, sU, sU, sU, sU, sU, sU, sU]) rfl (zXS_iloadN X0.here hx rfl (hb hby at_13) rfl (zXS_sipush X0.here hx rfl (hb hby at_14) (zXS_iand X0.here hx rfl (hb hby at_17) rfl (zXT_i2c X0.here hx rfl (hb hby at_18) rfl hr)))))))))) ?_
    refine Gl.go (fun _ hr => zXS_istore X0.here hx rfl (hb hby at_19) rfl (l' := #[sI i0, sI i1, sI i2, sI i3, sI i4, sI 3, sI ((i1 &&& (255 : Int32)).toUInt32.toUInt16.toUInt32.toInt32), sI ((i2 &&& (255 : Int32)).toUInt32.toUInt16.toUInt32.toInt32), sU, sU, sU, sU, sU, sU, sU, sU, sU]) rfl (zXS_iloadN X0.here hx rfl (hb hby at_21) rfl (zXS_sipush X0.here hx rfl (hb hby at_22) (zXS_iand X0.here hx rfl (hb hby at_25) rfl (zXT_i2c X0.here hx rfl (hb hby at_26) rfl (zXS_istore X0.here hx rfl (hb hby at_27) rfl (l' := #[sI i0, sI i1, sI i2, sI i3, sI i4, sI 3, sI ((i1 &&& (255 : Int32)).toUInt32.toUInt16.toUInt32.toInt32), sI ((i2 &&& (255 : Int32)).toUInt32.toUInt16.toUInt32.toInt32), sI ((i3 &&& (255 : Int32)).toUInt32.toUInt16.toUInt32.toInt32), sU, sU, sU, sU, sU, sU, sU, sU]) rfl (zXS_iload X0.here hx rfl (hb hby at_29) rfl (zXS_ifYes X0.here hx rfl (pc0 := 31) (pc' := 42) rfl (hb hby at_31) rfl (XT.i0_ne_t (by decide)) (by decide) (by decide) (zXS_iload X0.here hx rfl (hb hby at_42) rfl (zXS_iconst X0.here hx rfl (hb hby at_44) hr)))))))))) ?_
    refine Gl.go (fun _ hr => zXS_icmpYes X0.here hx rfl (pc0 := 45) (pc' := 61) rfl (hb hby at_45) rfl (XT.ii_ne_t (by decide)) (by decide) (by decide) (zXS_iload X0.here hx rfl (hb hby at_61) rfl (zXS_iconst X0.here hx rfl (hb hby at_63) (zXS_icmpYes X0.here hx rfl (pc0 := 64) (pc' := 85) rfl (hb hby at_64) rfl (XT.ii_ne_t (by decide)) (by decide) (by decide) (zXS_iconst X0.here hx rfl (hb hby at_85) hr))))) ?_
    refine gNewP Gl.cl X0 hx hZ (tw hw 0 rfl) e0 rfl (hb hby at_86) rfl (by decide) (cap := 3) (by decide) (by decide) (by decide) (by decide) ?_
    intro T1089 h1089 b1089 k1089 g1089 X1089 e1089 E1089 A1089
    have z1090 : h0.size ≤ h1089.size := E1089.1
    have lt1089 := own_alt A1089.lt
    have V1089 : Arv Z h1089 b1089 k1089 .char (3 : Int32) [(.int (0 : Int32)), (.int (0 : Int32)), (.int (0 : Int32))] (.int (0 : Int32)) := (Arv.new A1089 (by decide)).pad (pad_rep [] (.int (0 : Int32)) 3)
    refine Gl.go (fun _ hr => zXS_dup X1089.here hx rfl (hb hby at_88) rfl rfl (zXS_iconst X1089.here hx rfl (hb hby at_89) (zXS_iload X1089.here hx rfl (hb hby at_90) rfl hr))) ?_
    obtain ⟨c1091, a1091, q1091, s1091, m1091, H1091, U1091⟩ := id V1089
    refine gstC Gl.cl X1089 hx hZ e1089 a1091 (j := (0 : Int32)) (inb_of s1091 ⟨(by decide), (by decide)⟩) rfl rfl (hb hby at_92) ?_
    intro T1091 h1091 X1091 e1091 W1091
    have z1092 : h1089.size ≤ h1091.size := (Keep.of_wr W1091).1
    rw [(own_nar_i2c _)] at W1091
    have V1091 : Arv Z h1091 b1089 k1089 .char (3 : Int32) [(.int ((i1 &&& (255 : Int32)).toUInt32.toUInt16.toUInt32.toInt32)), (.int (0 : Int32)), (.int (0 : Int32))] (.int (0 : Int32)) := Arv.set a1091 q1091 s1091 m1091 H1091 U1091 (own_fit_i2c _) W1091 0 rfl (Nat.le_of_ble_eq_true rfl)
    have om1093 : @LE.le Nat instLENat n0 b1089 := by omega
    have N1091 := Fr.snoc X1091 N0 (own_ale om1093)
    refine Gl.go (fun _ hr => zXS_dup X1091.here hx rfl (hb hby at_93) rfl rfl (zXS_iconst X1091.here hx rfl (hb hby at_94) (zXS_iload X1091.here hx rfl (hb hby at_95) rfl hr))) ?_
    obtain ⟨c1094, a1094, q1094, s1094, m1094, H1094, U1094⟩ := id V1091
    refine gstC Gl.cl X1091 hx hZ e1091 a1094 (j := (1 : Int32)) (inb_of s1094 ⟨(by decide), (by decide)⟩) rfl rfl (hb hby at_97) ?_
    intro T1094 h1094 X1094 e1094 W1094
    have z1095 : h1091.size ≤ h1094.size := (Keep.of_wr W1094).1
    rw [(own_nar_i2c _)] at W1094
    have V1094 : Arv Z h1094 b1089 k1089 .char (3 : Int32) [(.int ((i1 &&& (255 : Int32)).toUInt32.toUInt16.toUInt32.toInt32)), (.int ((i2 &&& (255 : Int32)).toUInt32.toUInt16.toUInt32.toInt32)), (.int (0 : Int32))] (.int (0 : Int32)) := Arv.set a1094 q1094 s1094 m1094 H1094 U1094 (own_fit_i2c _) W1094 1 rfl (Nat.le_of_ble_eq_true rfl)
    have N1094 := Fr.snoc X1094 N1091 (own_ale om1093)
    refine Gl.go (fun _ hr => zXS_dup X1094.here hx rfl (hb hby at_98) rfl rfl (zXS_iconst X1094.here hx rfl (hb hby at_99) (zXS_iload X1094.here hx rfl (hb hby at_100) rfl hr))) ?_
    obtain ⟨c1096, a1096, q1096, s1096, m1096, H1096, U1096⟩ := id V1094
    refine gstC Gl.cl X1094 hx hZ e1094 a1096 (j := (2 : Int32)) (inb_of s1096 ⟨(by decide), (by decide)⟩) rfl rfl (hb hby at_102) ?_
    intro T1096 h1096 X1096 e1096 W1096
    have z1097 : h1094.size ≤ h1096.size := (Keep.of_wr W1096).1
    rw [(own_nar_i2c _)] at W1096
    have V1096 : Arv Z h1096 b1089 k1089 .char (3 : Int32) [(.int ((i1 &&& (255 : Int32)).toUInt32.toUInt16.toUInt32.toInt32)), (.int ((i2 &&& (255 : Int32)).toUInt32.toUInt16.toUInt32.toInt32)), (.int ((i3 &&& (255 : Int32)).toUInt32.toUInt16.toUInt32.toInt32))] (.int (0 : Int32)) := Arv.set a1096 q1096 s1096 m1096 H1096 U1096 (own_fit_i2c _) W1096 2 rfl (Nat.le_of_ble_eq_true rfl)
    have N1096 := Fr.snoc X1096 N1094 (own_ale om1093)
    refine Gl.go (fun _ hr => zXS_astore X1096.here hx rfl (hb hby at_103) rfl rfl (l' := #[sI i0, sI i1, sI i2, sI i3, sI i4, sI 3, sI ((i1 &&& (255 : Int32)).toUInt32.toUInt16.toUInt32.toInt32), sI ((i2 &&& (255 : Int32)).toUInt32.toUInt16.toUInt32.toInt32), sI ((i3 &&& (255 : Int32)).toUInt32.toUInt16.toUInt32.toInt32), sR b1089, sU, sU, sU, sU, sU, sU, sU]) rfl hr) ?_
    refine gNew Gl.cl X1096 hx hZ hown (tw hw 1 rfl) (tw hw 2 rfl) (tw hw 3 rfl) e1096 rfl (hb hby at_105) (by decide) (by decide) ?_
    intro T1098 h1098 b1098 g1098 X1098 e1098 E1098 A1098 D1098
    have z1099 : h1096.size ≤ h1098.size := E1098.1
    have lt1098 := own_alt A1098.lt
    have F1098_value : Fld Z h1098 b1098 "java/lang/String" "value" "[B" .null := D1098 (Or.inr (tw hw 16 rfl)) (ty := (.array .byte)) (by decide)
    have F1098_coder : Fld Z h1098 b1098 "java/lang/String" "coder" "B" (.int (0 : Int32)) := D1098 (Or.inr (tw hw 17 rfl)) (ty := .byte) (by decide)
    refine Gl.go (fun _ hr => zXS_dup X1098.here hx rfl (hb hby at_108) rfl rfl (zXS_aload X1098.here hx rfl (hb hby at_109) rfl rfl hr)) ?_
    have hp1100 : ∀ c ∈ ([((i1 &&& (255 : Int32)).toUInt32.toUInt16.toUInt32.toInt32), ((i2 &&& (255 : Int32)).toUInt32.toUInt16.toUInt32.toInt32), ((i3 &&& (255 : Int32)).toUInt32.toUInt16.toUInt32.toInt32)] : List Int32), Lat c := (own_cS (own_lat i1) (own_cS (own_lat i2) (own_cS (own_lat i3) own_c0)))
    have Vc1101 := (V1096.ext E1098)
    have om1102 : @LE.le Nat instLENat Z.heap.size b1089 := by omega
    have Oc1103 := (((((Oo.ext E1089).wr W1091 (own_ale om1102)).wr W1094 (own_ale om1102)).wr W1096 (own_ale om1102)).ext E1098)
    refine gSpecialN Gl.cl (y := (⟨"java/lang/String", "<init>", "([C)V"⟩ : MethodName)) (b := b1098) (argsL := [(.ref b1089)]) (rest := [(.ref b1098)]) (mc := 1) (ms := 3) X1098 hx hZ hown rfl (mvT hZ (tw hw 4 rfl)) (mvT hZ (tw hw 5 rfl)) (mvT hZ (tw hw 6 rfl)) (by decide) (StrChars.Road.backV (W := 1) hZ hws (kI := 4) (tw hw 2 rfl) (cs := ([((i1 &&& (255 : Int32)).toUInt32.toUInt16.toUInt32.toInt32), ((i2 &&& (255 : Int32)).toUInt32.toUInt16.toUInt32.toInt32), ((i3 &&& (255 : Int32)).toUInt32.toUInt16.toUInt32.toInt32)] : List Int32)) (bs := ([((i1 &&& (255 : Int32)).toUInt32.toUInt16.toUInt32.toInt32), ((i2 &&& (255 : Int32)).toUInt32.toUInt16.toUInt32.toInt32), ((i3 &&& (255 : Int32)).toUInt32.toUInt16.toUInt32.toInt32)] : List Int32).map (fun c => c.toInt8.toInt32)) (n := 3) (n0 := n0) (by omega) (by omega) A1098 F1098_value F1098_coder Vc1101 (q0.ext Oc1103.2) P5 rfl rfl (by decide) (by decide) hp1100 rfl (by decide) (by decide)) rfl (by rw [hml]; rfl) (lenOf pd_25 rfl) rfl (by show 2 * 0 + _ ≤ _; exact Nat.le_of_eq rfl) (hb hby at_111) rfl e1098 (by decide) (by decide) ?_
    intro v1100 T1100 Lc1100 hQ1100 X1100
    obtain ⟨rfl, Nq1100, K1100, f1100_E, f1100_C, t1100, kb1100, g1100_0, g1100_1, g1100_2, f1100_V, f1100_A⟩ := hQ1100
    have z1104 : h1098.size ≤ T1100.heap.size := K1100.1
    have N1100 := Fr.app N1096 Nq1100
    have lt1105 := own_alt f1100_E.lt
    have lt1106 := own_alt f1100_C.lt
    have lt1107 := own_alt f1100_V.lt
    have lt1108 := own_alt f1100_A.lt
    have hcd1100 : StrChars.Road.CodA ([((i1 &&& (255 : Int32)).toUInt32.toUInt16.toUInt32.toInt32), ((i2 &&& (255 : Int32)).toUInt32.toUInt16.toUInt32.toInt32), ((i3 &&& (255 : Int32)).toUInt32.toUInt16.toUInt32.toInt32)] : List Int32) 0 (3 : Int32) ((([((i1 &&& (255 : Int32)).toUInt32.toUInt16.toUInt32.toInt32), ((i2 &&& (255 : Int32)).toUInt32.toUInt16.toUInt32.toInt32), ((i3 &&& (255 : Int32)).toUInt32.toUInt16.toUInt32.toInt32)] : List Int32).map (fun c => c.toInt8.toInt32)).map Value.int) := StrChars.Road.codOf (n := 3) rfl (fun c hc => (hp1100 c hc).2)
    have hbd1100 : ∀ c ∈ ([((i1 &&& (255 : Int32)).toUInt32.toUInt16.toUInt32.toInt32), ((i2 &&& (255 : Int32)).toUInt32.toUInt16.toUInt32.toInt32), ((i3 &&& (255 : Int32)).toUInt32.toUInt16.toUInt32.toInt32)] : List Int32), Wid c := own_up hp1100
    have om1109 : @LE.le Nat instLENat h0.size b1089 := by omega
    have om1110 : @LE.le Nat instLENat h0.size b1098 := by omega
    have ph1111 := hphi_em.keep (((((((Keep.refl h0 []).ext E1089).wr W1091 (Or.inr (own_ale om1109))).wr W1094 (Or.inr (own_ale om1109))).wr W1096 (Or.inr (own_ale om1109))).ext E1098).trans K1100 (allS (P := fun x_ => x_ ∈ ([] : List Addr) ∨ h0.size ≤ x_) (Or.inr (own_ale om1110)) all0))
    exact tA T1100 T1100.heap _ s.vm _ 3 ([((i1 &&& (255 : Int32)).toUInt32.toUInt16.toUInt32.toInt32), ((i2 &&& (255 : Int32)).toUInt32.toUInt16.toUInt32.toInt32), ((i3 &&& (255 : Int32)).toUInt32.toUInt16.toUInt32.toInt32)] : List Int32) b1098 t1100 kb1100 (sR b1089) ((i1 &&& (255 : Int32)).toUInt32.toUInt16.toUInt32.toInt32) ((i2 &&& (255 : Int32)).toUInt32.toUInt16.toUInt32.toInt32) ((i3 &&& (255 : Int32)).toUInt32.toUInt16.toUInt32.toInt32) N1100 (X1100.more (by decide) (by decide)) (rfl : T1100.heap = T1100.heap) (((((((Keep.refl h0 []).ext E1089).wr W1091 (Or.inr (own_ale om1109))).wr W1094 (Or.inr (own_ale om1109))).wr W1096 (Or.inr (own_ale om1109))).ext E1098).trans K1100 (allS (P := fun x_ => x_ ∈ ([] : List Addr) ∨ h0.size ≤ x_) (Or.inr (own_ale om1110)) all0)) hS0 (by have q := hk0; omega) hZ hown ph1111 f1100_E f1100_V f1100_C f1100_A (by decide) rfl ⟨own_lat i1, own_nar_i2c _⟩ ⟨own_lat i2, own_nar_i2c _⟩ ⟨own_lat i3, own_nar_i2c _⟩
theorem own_fold {g : Nat → Option Bool} : ∀ n, (List.range n).foldl (init := some true) (fun acc i => match acc with | some true => g i | x => x) = some true → ∀ i, i < n → g i = some true
  | 0, _, i, hi => absurd hi (Nat.not_lt_zero _)
  | n + 1, h, i, hi => by
    rw [List.range_succ, List.foldl_append] at h
    simp only [List.foldl_cons, List.foldl_nil] at h
    generalize he : (List.range n).foldl (init := some true) (fun acc i => match acc with | some true => g i | x => x) = r at h
    match r, h, he with
    | some true, h, he =>
      rcases Nat.lt_succ_iff_lt_or_eq.mp hi with q | q
      · exact own_fold n he i q
      · rw [q]; exact h
theorem own_hasL {c : Cell} {f : Nat → Value} : ∀ (m k : Nat), (∀ i, i < k + m → c.slots[i]? = some (f i)) → HasL c k ((List.range' k m).map f)
  | 0, _, _ => trivial
  | m + 1, k, h => ⟨h k (by omega), own_hasL m (k + 1) fun i hi => h i (by omega)⟩
theorem own_tbl {args : Array Value} {s : State} {t E : Term} {a : Addr} {f : Nat → Int32} (hf : Fit s) (ev : ∀ idx, t.eval args s none idx s = some (.ref a)) (hx : (Cond.exactly t "[B").value args s none s [] = some true) (wa : (Cond.arrayClass .byte).before args s = true)
    (hL : (Term.length t).eval args s none [] s = some (.int 100)) (hall : (Cond.all t (.eq (.elem t (.index 0)) E)).value args s none s [] = some true) (hE : ∀ i, i < 100 → E.eval args s none [i] s = some (.int (f i))) :
    ∃ k, Arv s s.heap a k .byte (100 : Int32) ((List.range 100).map fun i => Value.int (f i)) (.int 0) := by
  obtain ⟨x, c, e1, h1, -⟩ := Term.length_spec hL
  cases (ev []).symm.trans e1
  obtain ⟨hh, hu, hs, k, comp, ty, hk, hkind⟩ := State.arrayAt?_spec h1
  obtain ⟨c2, k2, g1, g2, g3, -⟩ := Exa.start (ev []) hx
  cases hh.symm.trans g1
  have hty : ty = .byte := by
    have w := wa
    simp only [Cond.before, Cond.holds, Cond.value, beq_iff_eq] at w
    have e : ("[" ++ FieldType.byte.toString) = "[B" := by decide
    rw [e, g2] at w
    simpa [hk, hkind] using w
  subst hty
  have A : Arr s s.heap a c .byte := ⟨hh, ⟨fun q e => (by rw [e] at hs; cases hs), k, hk, comp, hkind⟩, hu⟩
  have h31 := SBG.length_lt (ev []) h1 hL
  have e : c.slots.size.toInt32 = (100 : Int32) := by
    have q : (Term.length t).eval args s none [] s = some (.int (Int32.ofNat c.slots.size)) := by simp [Term.eval, ev [], h1, h31]
    exact Value.int.inj (Option.some.inj (q.symm.trans hL))
  have hsz : c.slots.size = 100 := by
    have q := congrArg Int32.toNatClampNeg e
    have q2 : c.slots.size.toInt32.toNatClampNeg = c.slots.size := own_nat32 h31
    rw [q2] at q
    exact q
  have hel : ∀ i, i < 0 + 100 → c.slots[i]? = some (Value.int (f i)) := by
    intro i hi
    have hi' : i < 100 := by omega
    have q : (Cond.eq (.elem t (.index 0)) E).value args s none s [i] = some true := by
      have w := hall
      simp only [Cond.value, ev [], h1] at w
      rw [hsz] at w
      exact own_fold 100 w i hi'
    obtain ⟨x, y, p1, p2, k1, k2⟩ := cmp_v (Or.inl q)
    cases (hE i hi').symm.trans p2
    have q2 := (elem_in p1 (ev [i]) (show (Term.index 0).eval args s none [i] s = some (.int (Int32.ofNat i)) from by simp [Term.eval]) hh).2
    rw [own_nat32 (by omega)] at q2
    have hxi : ∃ z, x = .int z := by cases x <;> simp [Kin] at k1 k2 ⊢
    obtain ⟨z, rfl⟩ := hxi
    have q3 := gotT (Cond.eq_ints p1 (hE i hi')) q
    rw [q2, q3]
  have hl := own_hasL (c := c) (f := fun i => Value.int (f i)) 100 0 hel
  rw [← List.range_eq_range'] at hl
  exact ⟨c.cls, Arv.start hf A h31 e (by decide) (by simp) hl⟩
theorem own_eOnes {args : Array Value} {s : State} (i : Nat) (hi : i < 100) : (Term.add (.int 48) (.rem (.index 0) (.int 10))).eval args s none [i] s = some (.int (Int32.ofNat (48 + i % 10))) := by
  have t : ∀ k : Fin 100, k.val.toInt32 % (10 : Int32) = Int32.ofNat (k.val % 10) := by decide
  simp [Term.eval]
  exact t ⟨i, hi⟩
theorem own_eTens {args : Array Value} {s : State} (i : Nat) (hi : i < 100) : (Term.add (.int 48) (.div (.index 0) (.int 10))).eval args s none [i] s = some (.int (Int32.ofNat (48 + i / 10))) := by
  have t : ∀ k : Fin 100, k.val.toInt32 / (10 : Int32) = Int32.ofNat (k.val / 10) := by decide
  simp [Term.eval]
  exact t ⟨i, hi⟩

set_option maxRecDepth 65536 in
set_option maxHeartbeats 40000000 in
theorem comes_1 {Post : Tables → Env → Array Value → State → Outcome → State → Prop} (hpost : ∀ tb e args s v u, (limb_1_1.after args s (.returned v) u = true ∧ limb_1_2.after args s (.returned v) u = true ∧ True) → ReturnedEndW s (.returned v) u (Jvm.fieldLocs frame_1_writes args s ++ Jvm.arrayLocs frame_1_arrays args s ++ Jvm.staticLocs frame_1_statics s) 32 2240 → Post tb e args s (.returned v) u) :
    ArmFor flags0 classFile x code maxLocals ret World_1 tables_1 room_1 Calls_1 rest_1 Pre_1 Post := by
  intro l hfl _ _ p e ha hc hk s m args below hf hA hF happ hP
  obtain ⟨hcalls, hrest, hpre⟩ := hP
  obtain ⟨-, -, -, hnamed, -, -, -, hat⟩ := (Spec.applies_iff hf).mp happ
  obtain ⟨hg, hn⟩ := and_e (Cond.before_iff.mp (show (Jvm.Cond.and given_1 narrow_1).before args s = true from hpre))
  obtain ⟨hcount, hgs⟩ := and_e hg
  obtain ⟨w0, w1, w2, w3, w4, rfl⟩ : ∃ w0 w1 w2 w3 w4 : Value, args = #[w0, w1, w2, w3, w4] := by
    have hs : args.size = 5 := by simpa [Cond.value, given_1] using hcount
    obtain ⟨L⟩ := args
    match L, hs with
    | [w0, w1, w2, w3, w4], _ => exact ⟨w0, w1, w2, w3, w4, rfl⟩
  obtain ⟨ha0, hr0⟩ := and_e hgs
  obtain ⟨i0, ei0⟩ := is_v ha0
  obtain rfl : w0 = (.int i0) := Option.some.inj ei0
  obtain ⟨ha1, hr1⟩ := and_e hr0
  obtain ⟨i1, ei1⟩ := is_v ha1
  obtain rfl : w1 = (.int i1) := Option.some.inj ei1
  obtain ⟨ha2, hr2⟩ := and_e hr1
  obtain ⟨i2, ei2⟩ := is_v ha2
  obtain rfl : w2 = (.int i2) := Option.some.inj ei2
  obtain ⟨ha3, hr3⟩ := and_e hr2
  obtain ⟨i3, ei3⟩ := is_v ha3
  obtain rfl : w3 = (.int i3) := Option.some.inj ei3
  obtain ⟨i4, ei4⟩ := is_v hr3
  obtain rfl : w4 = (.int i4) := Option.some.inj ei4
  have hw := fun d (hd : d ∈ tables_1) => atoms_spec (ws := Jvm.Cond.code x code maxLocals ret :: tables_1) hat d (List.mem_cons_of_mem _ hd)
  have hfit : Fit s := fun {y c} hc i hi => by
    obtain ⟨ha, rfl⟩ := Array.getElem?_eq_some_iff.mp hc
    have q := List.all_eq_true.mp ((Array.all_eq_true_iff_forall_mem.mp hF) _ (Array.getElem_mem ha)) i (List.mem_range.mpr hi)
    simpa [Array.getElem?_eq_getElem hi] using q
  obtain ⟨hsets, hown0⟩ := atoms_of _ (rest_1_c_eq ▸ (show rest_1_c.before _ s = true from hrest))
  have hr0 := Cond.before_iff.mp hown0
  have n3 := not_v (Cond.before_iff.mp (hsets _ (List.mem_of_getElem? (i := 2) rfl)))
  obtain ⟨G1, eG1⟩ := is_v (Cond.before_iff.mp (hsets _ (List.mem_of_getElem? (i := 1) rfl)))
  have SG1 : Sta s s.heap "java/lang/String" "COMPACT_STRINGS" "Z" (.int G1) := Sta.start eG1 (Or.inl (hsets _ (List.mem_of_getElem? (i := 0) rfl)))
  have cG1 : ¬ (G1 = (0 : Int32)) := gotF (Cond.eq_ints eG1 (Term.int_eval (0))) n3
  obtain ⟨G3, eG3, rG3⟩ := isR_v (Cond.before_iff.mp (hsets _ (List.mem_of_getElem? (i := 8) rfl)))
  have SG3 : Sta s s.heap "jdk/internal/util/Preconditions" "SIOOBE_FORMATTER" "Ljava/util/function/BiFunction;" G3 := Sta.start eG3 (Or.inl (hsets _ (List.mem_of_getElem? (i := 7) rfl)))
  have hcw : Jvm.Lit.compactW.before _ s = true := (hsets _ (List.mem_of_getElem? (i := 2) rfl))
  have hc7 : Jvm.Lit.constHeld s "java/lang/String" 7 := hcalls.1 _ (List.mem_of_getElem? (i := 0) rfl)
  have hc66 : Jvm.Lit.constHeld s "org/latchkey/redis/NodeAddress" 66 := hcalls.1 _ (List.mem_of_getElem? (i := 1) rfl)
  obtain ⟨d1, ed1⟩ := exa_v (Cond.before_iff.mp (hsets _ (List.mem_of_getElem? (i := 12) rfl)))
  obtain ⟨k1, Vd1⟩ := own_tbl (f := fun i => Int32.ofNat (48 + i % 10)) hfit (fun _ => ed1) (Cond.before_iff.mp (hsets _ (List.mem_of_getElem? (i := 12) rfl))) (tw hw 15 rfl) (own_eqI (Cond.before_iff.mp (hsets _ (List.mem_of_getElem? (i := 13) rfl)))) (Cond.before_iff.mp (hsets _ (List.mem_of_getElem? (i := 14) rfl))) own_eOnes
  have SD1 : Sta s s.heap "java/lang/Integer" "DigitOnes" "[B" (.ref d1) := Sta.start ed1 (Or.inl (hsets _ (List.mem_of_getElem? (i := 11) rfl)))
  obtain ⟨d2, ed2⟩ := exa_v (Cond.before_iff.mp (hsets _ (List.mem_of_getElem? (i := 17) rfl)))
  obtain ⟨k2, Vd2⟩ := own_tbl (f := fun i => Int32.ofNat (48 + i / 10)) hfit (fun _ => ed2) (Cond.before_iff.mp (hsets _ (List.mem_of_getElem? (i := 17) rfl))) (tw hw 15 rfl) (own_eqI (Cond.before_iff.mp (hsets _ (List.mem_of_getElem? (i := 18) rfl)))) (Cond.before_iff.mp (hsets _ (List.mem_of_getElem? (i := 19) rfl))) own_eTens
  have SD2 : Sta s s.heap "java/lang/Integer" "DigitTens" "[B" (.ref d2) := Sta.start ed2 (Or.inl (hsets _ (List.mem_of_getElem? (i := 16) rfl)))
  obtain ⟨n, o, h1, h2, h3, _, L, rfl, ⟨rfl, N, -⟩, hq⟩ := lawrm l s _ hw tables_1 i0 i1 i2 i3 i4 G1 G3 d1 d2 k1 k2 s.heap s.heap.size (Nat.le_refl _) SG1 cG1 ⟨Old.start s, Nat.le_refl _⟩ SG3 rG3 SD1 SD2 Vd1 Vd2 hcw hc7 hc66 p e ha hc hk s m _ below hf ((Spec.applies_iff_loose hf).mp happ).1 ⟨rfl, State.Warmed39.refl s, rfl, (Or.inl IB.start)⟩ trivial
  refine ⟨n, _, h1, h2, h3, hpost _ _ _ _ _ _ ⟨Cond.after_iff.mpr rfl, Cond.after_iff.mpr (eq_i res_at (Term.int_eval (1)) rfl), trivial⟩ ⟨hq.1, hq.2.1, hq.2.2.1, (hq.2.2.2.sift fun y hy => Or.inr (N y hy)).mono (by decide) (by decide)⟩⟩
theorem main_1_1 : Claimed_1_1 := comes_1 fun _ _ _ _ _ _ h hF => ⟨h.1, hF⟩
theorem main_1_2 : Claimed_1_2 := comes_1 fun _ _ _ _ _ _ h hF => ⟨h.2.1, hF⟩
end Jvm.Pilot.@@N@@
namespace Jvm.Pilot.@@N@@
open Jvm Jvm.ClassFile Sem Op Lib Jvm.Free Jvm.Stand Jvm.Pilot.@@N@@.Jvm.D
/-! MADE BY PROGRAM (witnessworld.py) out of the Statement's table words and the real class files: 29 classes; the members and pool entries that the words name. The judged class is class 1, her method 1. -/
namespace start1
open Jvm.ClassFile
def u (s : String) : CpInfo := .utf8 (stringToUtf16 s)
/-- a pool by its gaps: so many unusable entries, then the entry; so many at the end -/
def gap : Nat → List CpInfo → List CpInfo
  | 0, r => r
  | n + 1, r => .unusable :: gap n r
def poolList (es : List (Nat × CpInfo)) (last : Nat) : List CpInfo := es.foldr (fun e r => gap e.1 (e.2 :: r)) (gap last [])
def pool (es : List (Nat × CpInfo)) (last : Nat) : Array CpInfo := ⟨poolList es last⟩
def fileOf (pool : Array CpInfo) (this : Nat) (attrs : Array Attribute := #[]) (ms : Array MethodInfo := #[]) (fl : Nat := 33) (sup : Nat := 0) (ifs : Array Nat := #[]) (fds : Array FieldInfo := #[]) : ClassFile where
  minorVersion := 0
  majorVersion := 65
  constantPool := pool
  accessFlags := fl
  thisClass := this
  superClass := sup
  interfaces := ifs
  fields := fds
  methods := ms
  attributes := attrs
def plain (name : String) (sup : Option ClassId) : Class where
  name := name
  kind := .ordinary
  loader := none
  accessFlags := 33
  super := sup
  interfaces := #[]
  cf := none
  fields := #[]
  methods := #[]
  instanceTypes := #[]
  staticTypes := #[]
  resolved := #[]
  callSites := []
  init := .initialized
  statics := none
  mirror := none

def pool0 : Array CpInfo := pool [(5, u "<init>"), (0, u "()V"), (1, .class_ 10), (1, u "java/lang/Object")] 113

def k0c0 : Code := { maxStack := 0, maxLocals := 1, code := object_method_1_code, exceptionTable := #[], attributes := #[] }
def k0m0 : Method := { name := "<init>", desc := "()V", sig := { parameters := [], returnType := none }, accessFlags := 1, code := some k0c0 }
/-- java/lang/Object -/
def k0 : Class := { plain "java/lang/Object" none with
  accessFlags := 33
  interfaces := #[]
  cf := some (fileOf pool0 8 #[] #[{ accessFlags := 1, nameIndex := 5, descriptorIndex := 6, attributes := #[] }] 33 0 #[] #[])
  fields := #[]
  methods := #[k0m0]
  instanceTypes := #[]
  staticTypes := #[]
  resolved := Array.replicate 124 none
  statics := none }

def pool1 : Array CpInfo := pool [(2, .class_ 4), (1, u "java/lang/Object"), (0, u "<init>"), (0, u "()V"), (0, .class_ 8), (0, u "java/lang/String"), (0, .methodref 7 10), (0, .nameAndType 5 11), (0, u "([C)V"), (0, .integer 2147483647), (0, .integer 65535), (0, .class_ 15), (0, u "org/latchkey/redis/NodeAddress"), (0, .methodref 14 17), (0, .nameAndType 5 18), (0, u "(Ljava/lang/String;I)V"), (0, .methodref 14 20), (0, .nameAndType 21 22), (0, u "toString"), (0, u "()Ljava/lang/String;"), (0, .methodref 7 24), (0, .nameAndType 25 26), (0, u "length"), (0, u "()I"), (0, .methodref 28 29), (0, .class_ 30), (0, .nameAndType 31 32), (0, u "org/latchkey/redis/NodeAddressToStringPinLaw"), (0, u "ok"), (0, u "(Ljava/lang/String;II[C)Z"), (0, .methodref 7 34), (0, .nameAndType 35 36), (0, u "charAt"), (0, u "(I)C"), (2, u "law"), (0, u "(IIIII)Z")] 7

def k1m0 : Method := { name := "<init>", desc := "()V", sig := { parameters := [], returnType := none }, accessFlags := 1, code := none }
def k1c1 : Code := { maxStack := 6, maxLocals := 17, code := code, exceptionTable := #[], attributes := #[] }
def k1m1 : Method := { name := "law", desc := "(IIIII)Z", sig := { parameters := [.int, .int, .int, .int, .int], returnType := some .boolean }, accessFlags := 9, code := some k1c1 }
def k1c2 : Code := { maxStack := 3, maxLocals := 4, code := method_3_code, exceptionTable := #[], attributes := #[] }
def k1m2 : Method := { name := "ok", desc := "(Ljava/lang/String;II[C)Z", sig := { parameters := [(.object "java/lang/String"), .int, .int, (.array .char)], returnType := some .boolean }, accessFlags := 10, code := some k1c2 }
/-- org/latchkey/redis/NodeAddressToStringPinLaw -/
def k1 : Class := { plain "org/latchkey/redis/NodeAddressToStringPinLaw" (some 0) with
  accessFlags := 49
  interfaces := #[]
  cf := some (fileOf pool1 28 #[] #[{ accessFlags := 1, nameIndex := 5, descriptorIndex := 6, attributes := #[] }, { accessFlags := 9, nameIndex := 39, descriptorIndex := 40, attributes := #[] }, { accessFlags := 10, nameIndex := 31, descriptorIndex := 32, attributes := #[] }] 49 2 #[] #[])
  fields := #[]
  methods := #[k1m0, k1m1, k1m2]
  instanceTypes := #[]
  staticTypes := #[]
  resolved := Array.replicate 48 none
  statics := none }

def pool2 : Array CpInfo := pool [(1, .class_ 2), (0, u "java/io/Serializable"), (0, .class_ 4), (0, u "java/lang/Object")] 2

/-- java/io/Serializable -/
def k2 : Class := { plain "java/io/Serializable" (some 0) with
  accessFlags := 1537
  interfaces := #[]
  cf := some (fileOf pool2 1 #[] #[] 1537 3 #[] #[])
  fields := #[]
  methods := #[]
  instanceTypes := #[]
  staticTypes := #[]
  resolved := Array.replicate 7 none
  statics := none }

def pool3 : Array CpInfo := pool [(1, .class_ 2), (0, u "java/lang/Comparable"), (0, .class_ 4), (0, u "java/lang/Object")] 7

/-- java/lang/Comparable -/
def k3 : Class := { plain "java/lang/Comparable" (some 0) with
  accessFlags := 1537
  interfaces := #[]
  cf := some (fileOf pool3 1 #[] #[] 1537 3 #[] #[])
  fields := #[]
  methods := #[]
  instanceTypes := #[]
  staticTypes := #[]
  resolved := Array.replicate 12 none
  statics := none }

def pool4 : Array CpInfo := pool [(2, .class_ 4), (1, u "java/lang/CharSequence"), (42, .class_ 48), (0, u "java/lang/CharSequence$1CodePointIterator"), (10, .class_ 60), (0, u "java/lang/CharSequence$1CharIterator"), (5, .class_ 67), (0, u "java/lang/Object")] 63

/-- java/lang/CharSequence -/
def k4 : Class := { plain "java/lang/CharSequence" (some 0) with
  accessFlags := 1537
  interfaces := #[]
  cf := some (fileOf pool4 2 #[.nestMembers #[47, 59]] #[] 1537 66 #[] #[])
  fields := #[]
  methods := #[]
  instanceTypes := #[]
  staticTypes := #[]
  resolved := Array.replicate 131 none
  statics := none }

def pool5 : Array CpInfo := pool [(1, .class_ 2), (0, u "java/lang/constant/Constable"), (0, .class_ 4), (0, u "java/lang/Object")] 6

/-- java/lang/constant/Constable -/
def k5 : Class := { plain "java/lang/constant/Constable" (some 0) with
  accessFlags := 1537
  interfaces := #[]
  cf := some (fileOf pool5 1 #[] #[] 1537 3 #[] #[])
  fields := #[]
  methods := #[]
  instanceTypes := #[]
  staticTypes := #[]
  resolved := Array.replicate 11 none
  statics := none }

def pool6 : Array CpInfo := pool [(1, .class_ 2), (0, u "java/lang/constant/ConstantDesc"), (0, .class_ 4), (0, u "java/lang/Object")] 32

/-- java/lang/constant/ConstantDesc -/
def k6 : Class := { plain "java/lang/constant/ConstantDesc" (some 0) with
  accessFlags := 1537
  interfaces := #[]
  cf := some (fileOf pool6 1 #[] #[] 1537 3 #[] #[])
  fields := #[]
  methods := #[]
  instanceTypes := #[]
  staticTypes := #[]
  resolved := Array.replicate 37 none
  statics := none }

def pool7 : Array CpInfo := pool [(1, .methodref 2 3), (0, .class_ 4), (0, .nameAndType 5 6), (0, u "java/lang/Object"), (0, u "<init>"), (0, u "()V"), (0, .string 8), (0, u ""), (0, .fieldref 10 11), (0, .class_ 12), (0, .nameAndType 13 14), (0, u "java/lang/String"), (0, u "value"), (0, u "[B"), (0, .fieldref 10 16), (0, .nameAndType 17 18), (0, u "coder"), (0, u "B"), (2, u "hash"), (0, u "I"), (2, u "hashIsZero"), (0, u "Z"), (0, .methodref 10 28), (0, .nameAndType 5 29), (0, u "([CIILjava/lang/Void;)V"), (8, .fieldref 10 39), (0, .nameAndType 40 26), (0, u "COMPACT_STRINGS"), (1, .class_ 44), (1, u "java/lang/StringUTF16"), (0, u "compress"), (1, .methodref 42 48), (0, .nameAndType 49 50), (0, u "coderFromArrayLen"), (0, u "([BI)B"), (3, .methodref 55 56), (0, .class_ 57), (0, .nameAndType 58 59), (0, u "java/util/Arrays"), (0, u "copyOfRange"), (0, u "([BII)[B"), (47, .class_ 109), (1, u "java/lang/StringLatin1"), (32, u "()Z"), (34, .methodref 42 178), (0, .nameAndType 45 179), (0, u "([CII)[B"), (13, .class_ 195), (1, u "java/lang/System"), (16, .methodref 193 213), (0, .nameAndType 214 215), (0, u "arraycopy"), (0, u "(Ljava/lang/Object;ILjava/lang/Object;II)V"), (118, u "()I"), (0, .methodref 10 336), (0, .nameAndType 17 337), (0, u "()B"), (2, u "()[B"), (22, u "([BI)C"), (27, u "(II)V"), (35, u "(I)C"), (61, .methodref 10 490), (0, .nameAndType 5 491), (0, u "(Ljava/lang/AbstractStringBuilder;Ljava/lang/Void;)V"), (0, .methodref 10 493), (0, .nameAndType 494 142), (0, u "isLatin1"), (0, .methodref 107 496), (0, .nameAndType 497 363), (0, u "charAt"), (3, u "checkIndex"), (4, .nameAndType 507 334), (0, u "length"), (24, u "getBytes"), (16, .methodref 550 506), (0, .class_ 551), (0, u "java/lang/AbstractStringBuilder"), (0, .methodref 550 553), (0, .nameAndType 554 340), (0, u "getValue"), (20, .class_ 576), (0, u "java/lang/CharSequence"), (22, u "CASE_INSENSITIVE_ORDER"), (0, u "Ljava/util/Comparator;"), (220, u "([BIB)V"), (188, u "([C)V"), (36, .methodref 550 493), (5, .fieldref 1054 1055), (0, .class_ 1056), (0, .nameAndType 1057 1058), (0, u "jdk/internal/util/Preconditions"), (0, u "SIOOBE_FORMATTER"), (0, u "Ljava/util/function/BiFunction;"), (0, .methodref 1054 1060), (0, .nameAndType 501 1061), (0, u "(IILjava/util/function/BiFunction;)I"), (39, u "serialPersistentFields"), (0, u "[Ljava/io/ObjectStreamField;"), (0, .class_ 1104), (0, u "java/lang/String$CaseInsensitiveComparator"), (1, .class_ 1107), (0, u "java/io/Serializable"), (0, .class_ 1109), (0, u "java/lang/Comparable"), (0, .class_ 1111), (0, u "java/lang/constant/Constable"), (0, .class_ 1113), (0, u "java/lang/constant/ConstantDesc"), (2, u "serialVersionUID"), (0, u "J"), (3, u "REPL"), (0, u "C"), (2, u "LATIN1"), (1, u "UTF16"), (105, u "(Ljava/lang/StringBuilder;)V")] 217

def k7m0 : Method := { name := "<init>", desc := "()V", sig := { parameters := [], returnType := none }, accessFlags := 1, code := none }
def k7c1 : Code := { maxStack := 5, maxLocals := 2, code := jdk_42_method_3_code, exceptionTable := #[], attributes := #[] }
def k7m1 : Method := { name := "<init>", desc := "([C)V", sig := { parameters := [(.array .char)], returnType := none }, accessFlags := 1, code := some k7c1 }
def k7c2 : Code := { maxStack := 3, maxLocals := 2, code := jdk_42_method_53_code, exceptionTable := #[], attributes := #[] }
def k7m2 : Method := { name := "<init>", desc := "(Ljava/lang/StringBuilder;)V", sig := { parameters := [(.object "java/lang/StringBuilder")], returnType := none }, accessFlags := 1, code := some k7c2 }
def k7c3 : Code := { maxStack := 2, maxLocals := 1, code := jdk_42_method_54_code, exceptionTable := #[], attributes := #[] }
def k7m3 : Method := { name := "length", desc := "()I", sig := { parameters := [], returnType := some .int }, accessFlags := 1, code := some k7c3 }
def k7c4 : Code := { maxStack := 2, maxLocals := 2, code := jdk_42_method_56_code, exceptionTable := #[], attributes := #[] }
def k7m4 : Method := { name := "charAt", desc := "(I)C", sig := { parameters := [.int], returnType := some .char }, accessFlags := 1, code := some k7c4 }
def k7c5 : Code := { maxStack := 5, maxLocals := 4, code := jdk_42_method_147_code, exceptionTable := #[], attributes := #[] }
def k7m5 : Method := { name := "getBytes", desc := "([BIB)V", sig := { parameters := [(.array .byte), .int, .byte], returnType := none }, accessFlags := 0, code := some k7c5 }
def k7c6 : Code := { maxStack := 4, maxLocals := 6, code := jdk_42_method_149_code, exceptionTable := #[], attributes := #[] }
def k7m6 : Method := { name := "<init>", desc := "([CIILjava/lang/Void;)V", sig := { parameters := [(.array .char), .int, .int, (.object "java/lang/Void")], returnType := none }, accessFlags := 2, code := some k7c6 }
def k7c7 : Code := { maxStack := 5, maxLocals := 5, code := jdk_42_method_150_code, exceptionTable := #[], attributes := #[] }
def k7m7 : Method := { name := "<init>", desc := "(Ljava/lang/AbstractStringBuilder;Ljava/lang/Void;)V", sig := { parameters := [(.object "java/lang/AbstractStringBuilder"), (.object "java/lang/Void")], returnType := none }, accessFlags := 0, code := some k7c7 }
def k7c8 : Code := { maxStack := 1, maxLocals := 1, code := jdk_42_method_152_code, exceptionTable := #[], attributes := #[] }
def k7m8 : Method := { name := "coder", desc := "()B", sig := { parameters := [], returnType := some .byte }, accessFlags := 0, code := some k7c8 }
def k7c9 : Code := { maxStack := 1, maxLocals := 1, code := jdk_42_method_154_code, exceptionTable := #[], attributes := #[] }
def k7m9 : Method := { name := "isLatin1", desc := "()Z", sig := { parameters := [], returnType := some .boolean }, accessFlags := 0, code := some k7c9 }
def k7c10 : Code := { maxStack := 3, maxLocals := 2, code := jdk_42_method_155_code, exceptionTable := #[], attributes := #[] }
def k7m10 : Method := { name := "checkIndex", desc := "(II)V", sig := { parameters := [.int, .int], returnType := none }, accessFlags := 8, code := some k7c10 }
/-- java/lang/String -/
def k7 : Class := { plain "java/lang/String" (some 0) with
  accessFlags := 49
  interfaces := #[2, 3, 4, 5, 6]
  cf := some (fileOf pool7 10 #[.nestMembers #[1103]] #[{ accessFlags := 1, nameIndex := 5, descriptorIndex := 6, attributes := #[] }, { accessFlags := 1, nameIndex := 5, descriptorIndex := 1010, attributes := #[] }, { accessFlags := 1, nameIndex := 5, descriptorIndex := 1233, attributes := #[] }, { accessFlags := 1, nameIndex := 507, descriptorIndex := 334, attributes := #[] }, { accessFlags := 1, nameIndex := 497, descriptorIndex := 427, attributes := #[] }, { accessFlags := 0, nameIndex := 532, descriptorIndex := 821, attributes := #[] }, { accessFlags := 2, nameIndex := 5, descriptorIndex := 29, attributes := #[] }, { accessFlags := 0, nameIndex := 5, descriptorIndex := 491, attributes := #[] }, { accessFlags := 0, nameIndex := 17, descriptorIndex := 337, attributes := #[] }, { accessFlags := 0, nameIndex := 494, descriptorIndex := 142, attributes := #[] }, { accessFlags := 8, nameIndex := 501, descriptorIndex := 391, attributes := #[] }] 49 2 #[1106, 1108, 575, 1110, 1112] #[{ accessFlags := 18, nameIndex := 13, descriptorIndex := 14, attributes := #[] }, { accessFlags := 18, nameIndex := 17, descriptorIndex := 18, attributes := #[] }, { accessFlags := 2, nameIndex := 21, descriptorIndex := 22, attributes := #[] }, { accessFlags := 2, nameIndex := 25, descriptorIndex := 26, attributes := #[] }, { accessFlags := 26, nameIndex := 1116, descriptorIndex := 1117, attributes := #[] }, { accessFlags := 24, nameIndex := 40, descriptorIndex := 26, attributes := #[] }, { accessFlags := 26, nameIndex := 1101, descriptorIndex := 1102, attributes := #[] }, { accessFlags := 26, nameIndex := 1121, descriptorIndex := 1122, attributes := #[] }, { accessFlags := 25, nameIndex := 599, descriptorIndex := 600, attributes := #[] }, { accessFlags := 24, nameIndex := 1125, descriptorIndex := 18, attributes := #[] }, { accessFlags := 24, nameIndex := 1127, descriptorIndex := 18, attributes := #[] }])
  fields := #[{ name := "value", type := (.array .byte), accessFlags := 18, slot := 0, constantValue := 0 }, { name := "coder", type := .byte, accessFlags := 18, slot := 1, constantValue := 0 }, { name := "hash", type := .int, accessFlags := 2, slot := 2, constantValue := 0 }, { name := "hashIsZero", type := .boolean, accessFlags := 2, slot := 3, constantValue := 0 }, { name := "serialVersionUID", type := .long, accessFlags := 26, slot := 0, constantValue := 0 }, { name := "COMPACT_STRINGS", type := .boolean, accessFlags := 24, slot := 1, constantValue := 0 }, { name := "serialPersistentFields", type := (.array (.object "java/io/ObjectStreamField")), accessFlags := 26, slot := 2, constantValue := 0 }, { name := "REPL", type := .char, accessFlags := 26, slot := 3, constantValue := 0 }, { name := "CASE_INSENSITIVE_ORDER", type := (.object "java/util/Comparator"), accessFlags := 25, slot := 4, constantValue := 0 }, { name := "LATIN1", type := .byte, accessFlags := 24, slot := 5, constantValue := 0 }, { name := "UTF16", type := .byte, accessFlags := 24, slot := 6, constantValue := 0 }]
  methods := #[k7m0, k7m1, k7m2, k7m3, k7m4, k7m5, k7m6, k7m7, k7m8, k7m9, k7m10]
  instanceTypes := #[(.array .byte), .byte, .int, .boolean]
  staticTypes := #[.long, .boolean, (.array (.object "java/io/ObjectStreamField")), .char, (.object "java/util/Comparator"), .byte, .byte]
  resolved := Array.replicate 1451 none
  statics := some 0 }

def pool8 : Array CpInfo := pool [(1, .methodref 2 3), (0, .class_ 4), (0, .nameAndType 5 6), (0, u "java/lang/Object"), (0, u "<init>"), (0, u "()V"), (0, .class_ 8), (0, u "java/lang/Record")] 13

def k8c0 : Code := { maxStack := 1, maxLocals := 1, code := jdk_30_method_1_code, exceptionTable := #[], attributes := #[] }
def k8m0 : Method := { name := "<init>", desc := "()V", sig := { parameters := [], returnType := none }, accessFlags := 4, code := some k8c0 }
/-- java/lang/Record -/
def k8 : Class := { plain "java/lang/Record" (some 0) with
  accessFlags := 1057
  interfaces := #[]
  cf := some (fileOf pool8 7 #[] #[{ accessFlags := 4, nameIndex := 5, descriptorIndex := 6, attributes := #[] }] 1057 2 #[] #[])
  fields := #[]
  methods := #[k8m0]
  instanceTypes := #[]
  staticTypes := #[]
  resolved := Array.replicate 22 none
  statics := none }

def pool9 : Array CpInfo := pool [(1, .methodref 2 3), (0, .class_ 4), (0, .nameAndType 5 6), (0, u "java/lang/Record"), (0, u "<init>"), (0, u "()V"), (0, .fieldref 8 9), (0, .class_ 10), (0, .nameAndType 11 12), (0, u "org/latchkey/redis/NodeAddress"), (0, u "host"), (0, u "Ljava/lang/String;"), (0, .fieldref 8 14), (0, .nameAndType 15 16), (0, u "port"), (0, u "I"), (28, u "(Ljava/lang/String;I)V"), (2, .class_ 49), (0, u "java/lang/StringBuilder"), (0, .methodref 48 3), (2, .methodref 48 54), (0, .nameAndType 55 56), (0, u "append"), (0, u "(Ljava/lang/String;)Ljava/lang/StringBuilder;"), (2, .methodref 48 60), (0, .nameAndType 61 62), (0, u "toString"), (0, u "()Ljava/lang/String;"), (3, .string 67), (0, u ":"), (0, .methodref 48 69), (0, .nameAndType 55 70), (0, u "(I)Ljava/lang/StringBuilder;")] 37

def k9c0 : Code := { maxStack := 2, maxLocals := 3, code := prog_17_method_1_code, exceptionTable := #[], attributes := #[] }
def k9m0 : Method := { name := "<init>", desc := "(Ljava/lang/String;I)V", sig := { parameters := [(.object "java/lang/String"), .int], returnType := none }, accessFlags := 1, code := some k9c0 }
def k9c1 : Code := { maxStack := 2, maxLocals := 1, code := prog_17_method_3_code, exceptionTable := #[], attributes := #[] }
def k9m1 : Method := { name := "toString", desc := "()Ljava/lang/String;", sig := { parameters := [], returnType := some (.object "java/lang/String") }, accessFlags := 1, code := some k9c1 }
/-- org/latchkey/redis/NodeAddress -/
def k9 : Class := { plain "org/latchkey/redis/NodeAddress" (some 8) with
  accessFlags := 49
  interfaces := #[]
  cf := some (fileOf pool9 8 #[] #[{ accessFlags := 1, nameIndex := 5, descriptorIndex := 45, attributes := #[] }, { accessFlags := 1, nameIndex := 61, descriptorIndex := 62, attributes := #[] }] 49 2 #[] #[{ accessFlags := 18, nameIndex := 11, descriptorIndex := 12, attributes := #[] }, { accessFlags := 18, nameIndex := 15, descriptorIndex := 16, attributes := #[] }])
  fields := #[{ name := "host", type := (.object "java/lang/String"), accessFlags := 18, slot := 0, constantValue := 0 }, { name := "port", type := .int, accessFlags := 18, slot := 1, constantValue := 0 }]
  methods := #[k9m0, k9m1]
  instanceTypes := #[(.object "java/lang/String"), .int]
  staticTypes := #[]
  resolved := Array.replicate 108 none
  statics := none }

def pool10 : Array CpInfo := pool [(1, .class_ 2), (0, u "java/lang/Appendable"), (0, .class_ 4), (0, u "java/lang/Object")] 9

/-- java/lang/Appendable -/
def k10 : Class := { plain "java/lang/Appendable" (some 0) with
  accessFlags := 1537
  interfaces := #[]
  cf := some (fileOf pool10 1 #[] #[] 1537 3 #[] #[])
  fields := #[]
  methods := #[]
  instanceTypes := #[]
  staticTypes := #[]
  resolved := Array.replicate 14 none
  statics := none }

def pool11 : Array CpInfo := pool [(1, .class_ 2), (0, u "java/lang/String"), (0, .methodref 4 5), (0, .class_ 6), (0, .nameAndType 7 8), (0, u "java/lang/Object"), (0, u "<init>"), (0, u "()V"), (1, .class_ 12), (1, u "java/lang/AbstractStringBuilder"), (0, u "EMPTYVALUE"), (0, u "[B"), (0, .fieldref 10 16), (0, .nameAndType 17 14), (0, u "value"), (0, .fieldref 1 19), (0, .nameAndType 20 21), (0, u "COMPACT_STRINGS"), (0, u "Z"), (0, .fieldref 10 23), (0, .nameAndType 24 25), (0, u "coder"), (0, u "B"), (6, .methodref 1 33), (0, .nameAndType 34 35), (0, u "length"), (0, u "()I"), (0, .class_ 37), (0, u "java/lang/Integer"), (2, .methodref 1 41), (0, .nameAndType 24 42), (0, u "()B"), (2, u "append"), (0, u "(Ljava/lang/String;)Ljava/lang/AbstractStringBuilder;"), (1, .class_ 49), (0, u "java/lang/CharSequence"), (19, u "(Ljava/lang/String;)V"), (5, u "maybeLatin1"), (3, .fieldref 10 80), (0, .nameAndType 81 82), (0, u "count"), (0, u "I"), (0, .methodref 10 84), (0, .nameAndType 85 86), (0, u "isLatin1"), (0, u "()Z"), (13, .methodref 10 101), (0, .nameAndType 102 103), (0, u "ensureCapacityInternal"), (0, u "(I)V"), (3, u "(I)I"), (80, u "getChars"), (19, .methodref 10 209), (0, .nameAndType 210 211), (0, u "putStringAt"), (0, u "(ILjava/lang/String;)V"), (5, u "inflateIfNeededFor"), (2, .nameAndType 221 222), (0, u "getBytes"), (0, u "([BIB)V"), (22, .methodref 36 246), (0, .nameAndType 247 107), (0, u "stringSize"), (0, .methodref 36 249), (0, .nameAndType 188 250), (0, u "(II[B)I"), (146, .methodref 10 398), (0, .nameAndType 217 69), (0, .methodref 1 220), (3, u "()[B"), (40, .class_ 445), (0, u "java/lang/Appendable"), (65, u "(I)Ljava/lang/AbstractStringBuilder;"), (40, u "getValue")] 56

def k11m0 : Method := { name := "<init>", desc := "()V", sig := { parameters := [], returnType := none }, accessFlags := 0, code := none }
def k11c1 : Code := { maxStack := 2, maxLocals := 2, code := jdk_68_method_2_code, exceptionTable := #[], attributes := #[] }
def k11m1 : Method := { name := "<init>", desc := "(I)V", sig := { parameters := [.int], returnType := none }, accessFlags := 0, code := some k11c1 }
def k11c2 : Code := { maxStack := 1, maxLocals := 1, code := jdk_68_method_6_code, exceptionTable := #[], attributes := #[] }
def k11m2 : Method := { name := "length", desc := "()I", sig := { parameters := [], returnType := some .int }, accessFlags := 1, code := some k11c2 }
def k11c3 : Code := { maxStack := 4, maxLocals := 3, code := jdk_68_method_9_code, exceptionTable := #[], attributes := #[] }
def k11m3 : Method := { name := "ensureCapacityInternal", desc := "(I)V", sig := { parameters := [.int], returnType := none }, accessFlags := 2, code := some k11c3 }
def k11c4 : Code := { maxStack := 3, maxLocals := 3, code := jdk_68_method_22_code, exceptionTable := #[], attributes := #[] }
def k11m4 : Method := { name := "append", desc := "(Ljava/lang/String;)Ljava/lang/AbstractStringBuilder;", sig := { parameters := [(.object "java/lang/String")], returnType := some (.object "java/lang/AbstractStringBuilder") }, accessFlags := 1, code := some k11c4 }
def k11c5 : Code := { maxStack := 4, maxLocals := 4, code := jdk_68_method_32_code, exceptionTable := #[], attributes := #[] }
def k11m5 : Method := { name := "append", desc := "(I)Ljava/lang/AbstractStringBuilder;", sig := { parameters := [.int], returnType := some (.object "java/lang/AbstractStringBuilder") }, accessFlags := 1, code := some k11c5 }
def k11c6 : Code := { maxStack := 1, maxLocals := 1, code := jdk_68_method_64_code, exceptionTable := #[], attributes := #[] }
def k11m6 : Method := { name := "getValue", desc := "()[B", sig := { parameters := [], returnType := some (.array .byte) }, accessFlags := 16, code := some k11c6 }
def k11c7 : Code := { maxStack := 1, maxLocals := 1, code := jdk_68_method_68_code, exceptionTable := #[], attributes := #[] }
def k11m7 : Method := { name := "isLatin1", desc := "()Z", sig := { parameters := [], returnType := some .boolean }, accessFlags := 16, code := some k11c7 }
def k11c8 : Code := { maxStack := 2, maxLocals := 2, code := jdk_68_method_71_code, exceptionTable := #[], attributes := #[] }
def k11m8 : Method := { name := "inflateIfNeededFor", desc := "(Ljava/lang/String;)V", sig := { parameters := [(.object "java/lang/String")], returnType := none }, accessFlags := 2, code := some k11c8 }
def k11c9 : Code := { maxStack := 4, maxLocals := 3, code := jdk_68_method_73_code, exceptionTable := #[], attributes := #[] }
def k11m9 : Method := { name := "putStringAt", desc := "(ILjava/lang/String;)V", sig := { parameters := [.int, (.object "java/lang/String")], returnType := none }, accessFlags := 2, code := some k11c9 }
/-- java/lang/AbstractStringBuilder -/
def k11 : Class := { plain "java/lang/AbstractStringBuilder" (some 0) with
  accessFlags := 1056
  interfaces := #[10, 4]
  cf := some (fileOf pool11 10 #[] #[{ accessFlags := 0, nameIndex := 7, descriptorIndex := 8, attributes := #[] }, { accessFlags := 0, nameIndex := 7, descriptorIndex := 103, attributes := #[] }, { accessFlags := 1, nameIndex := 34, descriptorIndex := 35, attributes := #[] }, { accessFlags := 2, nameIndex := 102, descriptorIndex := 103, attributes := #[] }, { accessFlags := 1, nameIndex := 45, descriptorIndex := 46, attributes := #[] }, { accessFlags := 1, nameIndex := 45, descriptorIndex := 511, attributes := #[] }, { accessFlags := 16, nameIndex := 552, descriptorIndex := 403, attributes := #[] }, { accessFlags := 16, nameIndex := 85, descriptorIndex := 86, attributes := #[] }, { accessFlags := 2, nameIndex := 217, descriptorIndex := 69, attributes := #[] }, { accessFlags := 2, nameIndex := 210, descriptorIndex := 211, attributes := #[] }] 1056 4 #[444, 48] #[{ accessFlags := 0, nameIndex := 17, descriptorIndex := 14, attributes := #[] }, { accessFlags := 0, nameIndex := 24, descriptorIndex := 25, attributes := #[] }, { accessFlags := 0, nameIndex := 75, descriptorIndex := 21, attributes := #[] }, { accessFlags := 0, nameIndex := 81, descriptorIndex := 82, attributes := #[] }, { accessFlags := 26, nameIndex := 13, descriptorIndex := 14, attributes := #[] }])
  fields := #[{ name := "value", type := (.array .byte), accessFlags := 0, slot := 0, constantValue := 0 }, { name := "coder", type := .byte, accessFlags := 0, slot := 1, constantValue := 0 }, { name := "maybeLatin1", type := .boolean, accessFlags := 0, slot := 2, constantValue := 0 }, { name := "count", type := .int, accessFlags := 0, slot := 3, constantValue := 0 }, { name := "EMPTYVALUE", type := (.array .byte), accessFlags := 26, slot := 0, constantValue := 0 }]
  methods := #[k11m0, k11m1, k11m2, k11m3, k11m4, k11m5, k11m6, k11m7, k11m8, k11m9]
  instanceTypes := #[(.array .byte), .byte, .boolean, .int]
  staticTypes := #[(.array .byte)]
  resolved := Array.replicate 609 none
  statics := none }

def pool12 : Array CpInfo := pool [(1, .methodref 2 3), (0, .class_ 4), (0, .nameAndType 5 6), (0, u "java/lang/AbstractStringBuilder"), (0, u "<init>"), (0, u "(I)V"), (11, .class_ 20), (1, u "java/lang/String"), (3, .class_ 26), (1, u "java/lang/StringBuilder"), (0, u "append"), (0, u "(Ljava/lang/String;)Ljava/lang/StringBuilder;"), (0, .methodref 2 30), (0, .nameAndType 27 31), (0, u "(Ljava/lang/String;)Ljava/lang/AbstractStringBuilder;"), (21, .methodref 2 54), (0, .nameAndType 27 55), (0, u "(I)Ljava/lang/AbstractStringBuilder;"), (81, .methodref 18 138), (0, .nameAndType 5 139), (0, u "(Ljava/lang/StringBuilder;)V"), (5, u "()V"), (10, u "()I"), (111, u "(I)Ljava/lang/StringBuilder;"), (74, .methodref 2 344), (0, .nameAndType 345 156), (0, u "length"), (3, .class_ 350), (0, u "java/lang/Appendable"), (0, .class_ 352), (0, u "java/io/Serializable"), (0, .class_ 354), (0, u "java/lang/Comparable"), (0, .class_ 356), (0, u "java/lang/CharSequence"), (0, u "serialVersionUID"), (0, u "J"), (40, u "toString"), (0, u "()Ljava/lang/String;")] 21

def k12c0 : Code := { maxStack := 2, maxLocals := 1, code := jdk_67_method_1_code, exceptionTable := #[], attributes := #[] }
def k12m0 : Method := { name := "<init>", desc := "()V", sig := { parameters := [], returnType := none }, accessFlags := 1, code := some k12c0 }
def k12c1 : Code := { maxStack := 2, maxLocals := 2, code := jdk_67_method_7_code, exceptionTable := #[], attributes := #[] }
def k12m1 : Method := { name := "append", desc := "(Ljava/lang/String;)Ljava/lang/StringBuilder;", sig := { parameters := [(.object "java/lang/String")], returnType := some (.object "java/lang/StringBuilder") }, accessFlags := 1, code := some k12c1 }
def k12c2 : Code := { maxStack := 2, maxLocals := 2, code := jdk_67_method_15_code, exceptionTable := #[], attributes := #[] }
def k12m2 : Method := { name := "append", desc := "(I)Ljava/lang/StringBuilder;", sig := { parameters := [.int], returnType := some (.object "java/lang/StringBuilder") }, accessFlags := 1, code := some k12c2 }
def k12c3 : Code := { maxStack := 3, maxLocals := 1, code := jdk_67_method_42_code, exceptionTable := #[], attributes := #[] }
def k12m3 : Method := { name := "toString", desc := "()Ljava/lang/String;", sig := { parameters := [], returnType := some (.object "java/lang/String") }, accessFlags := 1, code := some k12c3 }
def k12c4 : Code := { maxStack := 1, maxLocals := 1, code := jdk_67_method_93_code, exceptionTable := #[], attributes := #[] }
def k12m4 : Method := { name := "length", desc := "()I", sig := { parameters := [], returnType := some .int }, accessFlags := 4161, code := some k12c4 }
/-- java/lang/StringBuilder -/
def k12 : Class := { plain "java/lang/StringBuilder" (some 11) with
  accessFlags := 49
  interfaces := #[10, 2, 3, 4]
  cf := some (fileOf pool12 24 #[] #[{ accessFlags := 1, nameIndex := 5, descriptorIndex := 145, attributes := #[] }, { accessFlags := 1, nameIndex := 27, descriptorIndex := 28, attributes := #[] }, { accessFlags := 1, nameIndex := 27, descriptorIndex := 268, attributes := #[] }, { accessFlags := 1, nameIndex := 399, descriptorIndex := 400, attributes := #[] }, { accessFlags := 4161, nameIndex := 345, descriptorIndex := 156, attributes := #[] }] 49 2 #[349, 351, 353, 355] #[{ accessFlags := 24, nameIndex := 357, descriptorIndex := 358, attributes := #[] }])
  fields := #[{ name := "serialVersionUID", type := .long, accessFlags := 24, slot := 0, constantValue := 0 }]
  methods := #[k12m0, k12m1, k12m2, k12m3, k12m4]
  instanceTypes := #[(.array .byte), .byte, .boolean, .int]
  staticTypes := #[.long]
  resolved := Array.replicate 422 none
  statics := none }

def pool13 : Array CpInfo := pool [(2, .class_ 4), (1, u "java/lang/Object"), (0, u "<init>"), (0, u "()V"), (1, .class_ 10), (1, u "java/lang/System"), (0, u "allowSecurityManager"), (0, u "I"), (16, u "cons"), (0, u "Ljava/io/Console;"), (77, .class_ 110), (1, u "java/lang/System$CallersHolder"), (43, u "initialErrStream"), (0, u "Ljava/io/PrintStream;"), (19, u "security"), (0, u "Ljava/lang/SecurityManager;"), (31, .class_ 209), (0, u "java/lang/System$1"), (7, u "props"), (0, u "Ljava/util/Properties;"), (2, u "lineSeparator"), (0, u "Ljava/lang/String;"), (96, .class_ 321), (1, u "java/lang/System$LoggerFinder"), (5, .class_ 328), (0, u "java/lang/System$Logger"), (67, u "err"), (2, u "out"), (91, u "notSupportedJnuEncoding"), (15, u "in"), (17, u "initialIn"), (0, u "Ljava/io/InputStream;"), (35, u "bootLayer"), (0, u "Ljava/lang/ModuleLayer;"), (99, .class_ 664), (0, u "java/lang/System$2"), (9, u "NEVER"), (2, u "MAYBE"), (49, u "arraycopy"), (0, u "(Ljava/lang/Object;ILjava/lang/Object;II)V"), (72, .class_ 802), (0, u "java/lang/System$Logger$Level")] 31

def k13m0 : Method := { name := "<init>", desc := "()V", sig := { parameters := [], returnType := none }, accessFlags := 2, code := none }
def k13m1 : Method := { name := "arraycopy", desc := "(Ljava/lang/Object;ILjava/lang/Object;II)V", sig := { parameters := [(.object "java/lang/Object"), .int, (.object "java/lang/Object"), .int, .int], returnType := none }, accessFlags := 265, code := none }
/-- java/lang/System -/
def k13 : Class := { plain "java/lang/System" (some 0) with
  accessFlags := 49
  interfaces := #[]
  cf := some (fileOf pool13 8 #[.nestMembers #[319, 327, 801, 108, 663, 208]] #[{ accessFlags := 2, nameIndex := 5, descriptorIndex := 6, attributes := #[] }, { accessFlags := 265, nameIndex := 727, descriptorIndex := 728, attributes := #[] }] 49 2 #[] #[{ accessFlags := 25, nameIndex := 507, descriptorIndex := 526, attributes := #[] }, { accessFlags := 25, nameIndex := 399, descriptorIndex := 155, attributes := #[] }, { accessFlags := 25, nameIndex := 396, descriptorIndex := 155, attributes := #[] }, { accessFlags := 10, nameIndex := 525, descriptorIndex := 526, attributes := #[] }, { accessFlags := 26, nameIndex := 674, descriptorIndex := 12, attributes := #[] }, { accessFlags := 26, nameIndex := 677, descriptorIndex := 12, attributes := #[] }, { accessFlags := 10, nameIndex := 11, descriptorIndex := 12, attributes := #[] }, { accessFlags := 74, nameIndex := 175, descriptorIndex := 176, attributes := #[] }, { accessFlags := 10, nameIndex := 491, descriptorIndex := 222, attributes := #[] }, { accessFlags := 74, nameIndex := 29, descriptorIndex := 30, attributes := #[] }, { accessFlags := 74, nameIndex := 154, descriptorIndex := 155, attributes := #[] }, { accessFlags := 10, nameIndex := 217, descriptorIndex := 218, attributes := #[] }, { accessFlags := 10, nameIndex := 221, descriptorIndex := 222, attributes := #[] }, { accessFlags := 8, nameIndex := 562, descriptorIndex := 563, attributes := #[] }])
  fields := #[{ name := "in", type := (.object "java/io/InputStream"), accessFlags := 25, slot := 0, constantValue := 0 }, { name := "out", type := (.object "java/io/PrintStream"), accessFlags := 25, slot := 1, constantValue := 0 }, { name := "err", type := (.object "java/io/PrintStream"), accessFlags := 25, slot := 2, constantValue := 0 }, { name := "initialIn", type := (.object "java/io/InputStream"), accessFlags := 10, slot := 3, constantValue := 0 }, { name := "NEVER", type := .int, accessFlags := 26, slot := 4, constantValue := 0 }, { name := "MAYBE", type := .int, accessFlags := 26, slot := 5, constantValue := 0 }, { name := "allowSecurityManager", type := .int, accessFlags := 10, slot := 6, constantValue := 0 }, { name := "security", type := (.object "java/lang/SecurityManager"), accessFlags := 74, slot := 7, constantValue := 0 }, { name := "notSupportedJnuEncoding", type := (.object "java/lang/String"), accessFlags := 10, slot := 8, constantValue := 0 }, { name := "cons", type := (.object "java/io/Console"), accessFlags := 74, slot := 9, constantValue := 0 }, { name := "initialErrStream", type := (.object "java/io/PrintStream"), accessFlags := 74, slot := 10, constantValue := 0 }, { name := "props", type := (.object "java/util/Properties"), accessFlags := 10, slot := 11, constantValue := 0 }, { name := "lineSeparator", type := (.object "java/lang/String"), accessFlags := 10, slot := 12, constantValue := 0 }, { name := "bootLayer", type := (.object "java/lang/ModuleLayer"), accessFlags := 8, slot := 13, constantValue := 0 }]
  methods := #[k13m0, k13m1]
  instanceTypes := #[]
  staticTypes := #[(.object "java/io/InputStream"), (.object "java/io/PrintStream"), (.object "java/io/PrintStream"), (.object "java/io/InputStream"), .int, .int, .int, (.object "java/lang/SecurityManager"), (.object "java/lang/String"), (.object "java/io/Console"), (.object "java/io/PrintStream"), (.object "java/util/Properties"), (.object "java/lang/String"), (.object "java/lang/ModuleLayer")]
  resolved := Array.replicate 834 none
  statics := none }

def pool14 : Array CpInfo := pool [(2, .class_ 4), (1, u "java/lang/Object"), (0, u "<init>"), (0, u "()V"), (1, .class_ 10), (1, u "java/lang/Number"), (2, .class_ 14), (0, u "java/io/Serializable"), (0, u "serialVersionUID"), (0, u "J")] 20

def k14m0 : Method := { name := "<init>", desc := "()V", sig := { parameters := [], returnType := none }, accessFlags := 1, code := none }
/-- java/lang/Number -/
def k14 : Class := { plain "java/lang/Number" (some 0) with
  accessFlags := 1057
  interfaces := #[2]
  cf := some (fileOf pool14 8 #[] #[{ accessFlags := 1, nameIndex := 5, descriptorIndex := 6, attributes := #[] }] 1057 2 #[13] #[{ accessFlags := 26, nameIndex := 15, descriptorIndex := 16, attributes := #[] }])
  fields := #[{ name := "serialVersionUID", type := .long, accessFlags := 26, slot := 0, constantValue := 0 }]
  methods := #[k14m0]
  instanceTypes := #[]
  staticTypes := #[.long]
  resolved := Array.replicate 37 none
  statics := none }

def pool15 : Array CpInfo := pool [(1, .class_ 2), (0, u "java/lang/Integer"), (16, u "digits"), (0, u "[C"), (33, u "(I)I"), (19, u "stringSize"), (2, u "getChars"), (0, u "(II[B)I"), (4, .fieldref 1 84), (0, .nameAndType 85 86), (0, u "DigitOnes"), (0, u "[B"), (0, .fieldref 1 88), (0, .nameAndType 89 86), (0, u "DigitTens"), (99, .class_ 190), (0, u "java/lang/Integer$IntegerCache"), (3, u "I"), (8, .class_ 204), (0, u "java/lang/Number"), (2, u "value"), (94, u "TYPE"), (0, u "Ljava/lang/Class;"), (0, .class_ 305), (0, u "java/lang/Comparable"), (0, .class_ 307), (0, u "java/lang/constant/Constable"), (0, .class_ 309), (0, u "java/lang/constant/ConstantDesc"), (0, u "MIN_VALUE"), (1, u "MAX_VALUE"), (3, u "SIZE"), (1, u "BYTES"), (1, u "serialVersionUID"), (0, u "J")] 131

def k15c0 : Code := { maxStack := 4, maxLocals := 7, code := jdk_33_method_12_code, exceptionTable := #[], attributes := #[] }
def k15m0 : Method := { name := "getChars", desc := "(II[B)I", sig := { parameters := [.int, .int, (.array .byte)], returnType := some .int }, accessFlags := 8, code := some k15c0 }
def k15c1 : Code := { maxStack := 2, maxLocals := 4, code := jdk_33_method_13_code, exceptionTable := #[], attributes := #[] }
def k15m1 : Method := { name := "stringSize", desc := "(I)I", sig := { parameters := [.int], returnType := some .int }, accessFlags := 8, code := some k15c1 }
/-- java/lang/Integer -/
def k15 : Class := { plain "java/lang/Integer" (some 14) with
  accessFlags := 49
  interfaces := #[3, 5, 6]
  cf := some (fileOf pool15 1 #[.nestMembers #[189]] #[{ accessFlags := 8, nameIndex := 77, descriptorIndex := 78, attributes := #[] }, { accessFlags := 8, nameIndex := 74, descriptorIndex := 54, attributes := #[] }] 49 203 #[304, 306, 308] #[{ accessFlags := 25, nameIndex := 310, descriptorIndex := 194, attributes := #[] }, { accessFlags := 25, nameIndex := 312, descriptorIndex := 194, attributes := #[] }, { accessFlags := 25, nameIndex := 302, descriptorIndex := 303, attributes := #[] }, { accessFlags := 24, nameIndex := 19, descriptorIndex := 20, attributes := #[] }, { accessFlags := 24, nameIndex := 89, descriptorIndex := 86, attributes := #[] }, { accessFlags := 24, nameIndex := 85, descriptorIndex := 86, attributes := #[] }, { accessFlags := 18, nameIndex := 207, descriptorIndex := 194, attributes := #[] }, { accessFlags := 25, nameIndex := 316, descriptorIndex := 194, attributes := #[] }, { accessFlags := 25, nameIndex := 318, descriptorIndex := 194, attributes := #[] }, { accessFlags := 26, nameIndex := 320, descriptorIndex := 321, attributes := #[] }])
  fields := #[{ name := "MIN_VALUE", type := .int, accessFlags := 25, slot := 0, constantValue := 0 }, { name := "MAX_VALUE", type := .int, accessFlags := 25, slot := 1, constantValue := 0 }, { name := "TYPE", type := (.object "java/lang/Class"), accessFlags := 25, slot := 2, constantValue := 0 }, { name := "digits", type := (.array .char), accessFlags := 24, slot := 3, constantValue := 0 }, { name := "DigitTens", type := (.array .byte), accessFlags := 24, slot := 4, constantValue := 0 }, { name := "DigitOnes", type := (.array .byte), accessFlags := 24, slot := 5, constantValue := 0 }, { name := "value", type := .int, accessFlags := 18, slot := 0, constantValue := 0 }, { name := "SIZE", type := .int, accessFlags := 25, slot := 6, constantValue := 0 }, { name := "BYTES", type := .int, accessFlags := 25, slot := 7, constantValue := 0 }, { name := "serialVersionUID", type := .long, accessFlags := 26, slot := 8, constantValue := 0 }]
  methods := #[k15m0, k15m1]
  instanceTypes := #[.int]
  staticTypes := #[.int, .int, (.object "java/lang/Class"), (.array .char), (.array .byte), (.array .byte), .int, .int, .long]
  resolved := Array.replicate 453 none
  statics := some 1 }

def pool16 : Array CpInfo := pool [(2, .class_ 4), (1, u "java/lang/Object"), (0, u "<init>"), (0, u "()V"), (7, .class_ 16), (1, u "java/util/Arrays"), (57, .class_ 76), (1, u "java/util/Arrays$NaturalOrder"), (36, .class_ 115), (1, u "java/util/Arrays$LegacyMergeSort"), (1, u "Z"), (21, u "copyOfRange"), (10, .methodref 151 152), (0, .class_ 153), (0, .nameAndType 154 155), (0, u "java/lang/System"), (0, u "arraycopy"), (0, u "(Ljava/lang/Object;ILjava/lang/Object;II)V"), (148, .methodref 305 306), (0, .class_ 307), (0, .nameAndType 308 309), (0, u "java/lang/Math"), (0, u "min"), (0, u "(II)I"), (29, .methodref 14 340), (0, .nameAndType 341 342), (0, u "copyOfRangeByte"), (0, u "([BII)[B"), (0, .methodref 14 344), (0, .nameAndType 345 346), (0, u "checkLength"), (0, u "(II)V"), (28, .class_ 376), (0, u "java/util/Arrays$ArrayList"), (68, u "$assertionsDisabled"), (269, u "MIN_ARRAY_SORT_GRAN"), (0, u "I"), (2, u "INSERTIONSORT_THRESHOLD"), (255, .class_ 976), (0, u "java/util/Arrays$ArrayItr")] 52

def k16m0 : Method := { name := "<init>", desc := "()V", sig := { parameters := [], returnType := none }, accessFlags := 2, code := none }
def k16c1 : Code := { maxStack := 4, maxLocals := 2, code := jdk_65_method_131_code, exceptionTable := #[], attributes := #[] }
def k16m1 : Method := { name := "checkLength", desc := "(II)V", sig := { parameters := [.int, .int], returnType := none }, accessFlags := 10, code := some k16c1 }
def k16c2 : Code := { maxStack := 3, maxLocals := 3, code := jdk_65_method_132_code, exceptionTable := #[], attributes := #[] }
def k16m2 : Method := { name := "copyOfRange", desc := "([BII)[B", sig := { parameters := [(.array .byte), .int, .int], returnType := some (.array .byte) }, accessFlags := 9, code := some k16c2 }
def k16c3 : Code := { maxStack := 6, maxLocals := 5, code := jdk_65_method_133_code, exceptionTable := #[], attributes := #[] }
def k16m3 : Method := { name := "copyOfRangeByte", desc := "([BII)[B", sig := { parameters := [(.array .byte), .int, .int], returnType := some (.array .byte) }, accessFlags := 10, code := some k16c3 }
/-- java/util/Arrays -/
def k16 : Class := { plain "java/util/Arrays" (some 0) with
  accessFlags := 49
  interfaces := #[]
  cf := some (fileOf pool16 14 #[.nestMembers #[975, 375, 113, 74]] #[{ accessFlags := 2, nameIndex := 5, descriptorIndex := 6, attributes := #[] }, { accessFlags := 10, nameIndex := 345, descriptorIndex := 346, attributes := #[] }, { accessFlags := 9, nameIndex := 139, descriptorIndex := 342, attributes := #[] }, { accessFlags := 10, nameIndex := 341, descriptorIndex := 342, attributes := #[] }] 49 2 #[] #[{ accessFlags := 26, nameIndex := 715, descriptorIndex := 716, attributes := #[] }, { accessFlags := 26, nameIndex := 719, descriptorIndex := 716, attributes := #[] }, { accessFlags := 4120, nameIndex := 445, descriptorIndex := 117, attributes := #[] }])
  fields := #[{ name := "MIN_ARRAY_SORT_GRAN", type := .int, accessFlags := 26, slot := 0, constantValue := 0 }, { name := "INSERTIONSORT_THRESHOLD", type := .int, accessFlags := 26, slot := 1, constantValue := 0 }, { name := "$assertionsDisabled", type := .boolean, accessFlags := 4120, slot := 2, constantValue := 0 }]
  methods := #[k16m0, k16m1, k16m2, k16m3]
  instanceTypes := #[]
  staticTypes := #[.int, .int, .boolean]
  resolved := Array.replicate 1029 none
  statics := none }

def pool17 : Array CpInfo := pool [(1, .class_ 2), (0, u "java/lang/Math"), (1, .class_ 6), (1, u "java/lang/Object"), (0, u "<init>"), (0, u "()V"), (89, .class_ 100), (1, u "java/lang/Math$RandomNumberGeneratorHolder"), (71, u "negativeZeroFloatBits"), (0, u "J"), (2, u "negativeZeroDoubleBits"), (24, u "min"), (43, u "$assertionsDisabled"), (0, u "Z"), (88, u "(II)I"), (2, u "twoToTheDoubleScaleDown"), (0, u "D"), (4, u "twoToTheDoubleScaleUp"), (9, u "E"), (3, u "PI"), (2, u "TAU"), (2, u "DEGREES_TO_RADIANS"), (0, u "RADIANS_TO_DEGREES")] 94

def k17m0 : Method := { name := "<init>", desc := "()V", sig := { parameters := [], returnType := none }, accessFlags := 2, code := none }
def k17c1 : Code := { maxStack := 2, maxLocals := 2, code := jdk_29_method_69_code, exceptionTable := #[], attributes := #[] }
def k17m1 : Method := { name := "min", desc := "(II)I", sig := { parameters := [.int, .int], returnType := some .int }, accessFlags := 9, code := some k17c1 }
/-- java/lang/Math -/
def k17 : Class := { plain "java/lang/Math" (some 0) with
  accessFlags := 49
  interfaces := #[]
  cf := some (fileOf pool17 1 #[.nestMembers #[98]] #[{ accessFlags := 2, nameIndex := 7, descriptorIndex := 8, attributes := #[] }, { accessFlags := 9, nameIndex := 201, descriptorIndex := 335, attributes := #[] }] 49 4 #[] #[{ accessFlags := 25, nameIndex := 354, descriptorIndex := 339, attributes := #[] }, { accessFlags := 25, nameIndex := 358, descriptorIndex := 339, attributes := #[] }, { accessFlags := 25, nameIndex := 361, descriptorIndex := 339, attributes := #[] }, { accessFlags := 26, nameIndex := 364, descriptorIndex := 339, attributes := #[] }, { accessFlags := 26, nameIndex := 365, descriptorIndex := 339, attributes := #[] }, { accessFlags := 26, nameIndex := 172, descriptorIndex := 173, attributes := #[] }, { accessFlags := 26, nameIndex := 176, descriptorIndex := 173, attributes := #[] }, { accessFlags := 8, nameIndex := 344, descriptorIndex := 339, attributes := #[] }, { accessFlags := 8, nameIndex := 338, descriptorIndex := 339, attributes := #[] }, { accessFlags := 4120, nameIndex := 245, descriptorIndex := 246, attributes := #[] }])
  fields := #[{ name := "E", type := .double, accessFlags := 25, slot := 0, constantValue := 0 }, { name := "PI", type := .double, accessFlags := 25, slot := 1, constantValue := 0 }, { name := "TAU", type := .double, accessFlags := 25, slot := 2, constantValue := 0 }, { name := "DEGREES_TO_RADIANS", type := .double, accessFlags := 26, slot := 3, constantValue := 0 }, { name := "RADIANS_TO_DEGREES", type := .double, accessFlags := 26, slot := 4, constantValue := 0 }, { name := "negativeZeroFloatBits", type := .long, accessFlags := 26, slot := 5, constantValue := 0 }, { name := "negativeZeroDoubleBits", type := .long, accessFlags := 26, slot := 6, constantValue := 0 }, { name := "twoToTheDoubleScaleUp", type := .double, accessFlags := 8, slot := 7, constantValue := 0 }, { name := "twoToTheDoubleScaleDown", type := .double, accessFlags := 8, slot := 8, constantValue := 0 }, { name := "$assertionsDisabled", type := .boolean, accessFlags := 4120, slot := 9, constantValue := 0 }]
  methods := #[k17m0, k17m1]
  instanceTypes := #[]
  staticTypes := #[.double, .double, .double, .double, .double, .long, .long, .double, .double, .boolean]
  resolved := Array.replicate 460 none
  statics := none }

def pool18 : Array CpInfo := pool [(1, .class_ 2), (0, u "java/lang/String"), (1, .class_ 6), (1, u "java/lang/Object"), (0, u "<init>"), (0, u "()V"), (0, .methodref 1 10), (0, .nameAndType 11 12), (0, u "checkIndex"), (0, u "(II)V"), (1, .class_ 16), (1, u "java/lang/StringLatin1"), (36, u "([BI)C"), (67, u "$assertionsDisabled"), (0, u "Z"), (98, .class_ 223), (1, u "java/lang/StringLatin1$LinesSpliterator"), (28, u "charAt"), (137, .class_ 391), (0, u "java/lang/StringLatin1$CharsSpliterator")] 3

def k18m0 : Method := { name := "<init>", desc := "()V", sig := { parameters := [], returnType := none }, accessFlags := 0, code := none }
def k18c1 : Code := { maxStack := 2, maxLocals := 2, code := jdk_43_method_2_code, exceptionTable := #[], attributes := #[] }
def k18m1 : Method := { name := "charAt", desc := "([BI)C", sig := { parameters := [(.array .byte), .int], returnType := some .char }, accessFlags := 9, code := some k18c1 }
/-- java/lang/StringLatin1 -/
def k18 : Class := { plain "java/lang/StringLatin1" (some 0) with
  accessFlags := 48
  interfaces := #[]
  cf := some (fileOf pool18 14 #[.nestMembers #[390, 221]] #[{ accessFlags := 0, nameIndex := 7, descriptorIndex := 8, attributes := #[] }, { accessFlags := 9, nameIndex := 252, descriptorIndex := 53, attributes := #[] }] 48 4 #[] #[{ accessFlags := 4120, nameIndex := 121, descriptorIndex := 122, attributes := #[] }])
  fields := #[{ name := "$assertionsDisabled", type := .boolean, accessFlags := 4120, slot := 0, constantValue := 0 }]
  methods := #[k18m0, k18m1]
  instanceTypes := #[]
  staticTypes := #[.boolean]
  resolved := Array.replicate 395 none
  statics := none }

def pool19 : Array CpInfo := pool [(2, .class_ 4), (1, u "java/lang/Object"), (0, u "<init>"), (0, u "()V"), (17, .class_ 26), (1, u "jdk/internal/util/Preconditions"), (6, u "checkIndex"), (21, .class_ 56), (0, u "jdk/internal/util/Preconditions$4"), (57, .class_ 115), (0, u "jdk/internal/util/Preconditions$1"), (7, u "SIOOBE_FORMATTER"), (0, u "Ljava/util/function/BiFunction;"), (0, .class_ 126), (0, u "jdk/internal/util/Preconditions$2"), (3, u "AIOOBE_FORMATTER"), (0, .class_ 132), (0, u "jdk/internal/util/Preconditions$3"), (3, u "IOOBE_FORMATTER"), (41, u "(IILjava/util/function/BiFunction;)I")] 15

def k19m0 : Method := { name := "<init>", desc := "()V", sig := { parameters := [], returnType := none }, accessFlags := 1, code := none }
def k19c1 : Code := { maxStack := 3, maxLocals := 3, code := jdk_41_method_11_code, exceptionTable := #[], attributes := #[] }
def k19m1 : Method := { name := "checkIndex", desc := "(IILjava/util/function/BiFunction;)I", sig := { parameters := [.int, .int, (.object "java/util/function/BiFunction")], returnType := some .int }, accessFlags := 9, code := some k19c1 }
/-- jdk/internal/util/Preconditions -/
def k19 : Class := { plain "jdk/internal/util/Preconditions" (some 0) with
  accessFlags := 33
  interfaces := #[]
  cf := some (fileOf pool19 24 #[.nestMembers #[55, 131, 125, 114]] #[{ accessFlags := 1, nameIndex := 5, descriptorIndex := 6, attributes := #[] }, { accessFlags := 9, nameIndex := 33, descriptorIndex := 178, attributes := #[] }] 33 2 #[] #[{ accessFlags := 25, nameIndex := 123, descriptorIndex := 124, attributes := #[] }, { accessFlags := 25, nameIndex := 130, descriptorIndex := 124, attributes := #[] }, { accessFlags := 25, nameIndex := 136, descriptorIndex := 124, attributes := #[] }])
  fields := #[{ name := "SIOOBE_FORMATTER", type := (.object "java/util/function/BiFunction"), accessFlags := 25, slot := 0, constantValue := 0 }, { name := "AIOOBE_FORMATTER", type := (.object "java/util/function/BiFunction"), accessFlags := 25, slot := 1, constantValue := 0 }, { name := "IOOBE_FORMATTER", type := (.object "java/util/function/BiFunction"), accessFlags := 25, slot := 2, constantValue := 0 }]
  methods := #[k19m0, k19m1]
  instanceTypes := #[]
  staticTypes := #[(.object "java/util/function/BiFunction"), (.object "java/util/function/BiFunction"), (.object "java/util/function/BiFunction")]
  resolved := Array.replicate 194 none
  statics := some 2 }

def pool20 : Array CpInfo := pool [(6, .class_ 8), (1, u "java/lang/Object"), (0, u "<init>"), (0, u "()V"), (1, .class_ 14), (1, u "java/lang/StringUTF16"), (31, u "$assertionsDisabled"), (0, u "Z"), (13, u "HI_BYTE_SHIFT"), (0, u "I"), (2, u "LO_BYTE_SHIFT"), (49, .methodref 12 116), (0, .nameAndType 117 118), (0, u "compress"), (0, u "([CI[BII)I"), (3, u "([CII)[B"), (138, u "coderFromArrayLen"), (0, u "([BI)B"), (106, .class_ 371), (1, u "java/lang/StringUTF16$LinesSpliterator"), (58, u "MAX_LENGTH"), (196, .class_ 628), (0, u "java/lang/StringUTF16$CodePointsSpliterator"), (0, .class_ 630), (0, u "java/lang/StringUTF16$CharsSpliterator")] 4

def k20m0 : Method := { name := "<init>", desc := "()V", sig := { parameters := [], returnType := none }, accessFlags := 0, code := none }
def k20c1 : Code := { maxStack := 2, maxLocals := 2, code := jdk_52_method_15_code, exceptionTable := #[], attributes := #[] }
def k20m1 : Method := { name := "coderFromArrayLen", desc := "([BI)B", sig := { parameters := [(.array .byte), .int], returnType := some .byte }, accessFlags := 8, code := some k20c1 }
def k20c2 : Code := { maxStack := 5, maxLocals := 6, code := jdk_52_method_16_code, exceptionTable := #[], attributes := #[] }
def k20m2 : Method := { name := "compress", desc := "([CII)[B", sig := { parameters := [(.array .char), .int, .int], returnType := some (.array .byte) }, accessFlags := 9, code := some k20c2 }
def k20c3 : Code := { maxStack := 3, maxLocals := 7, code := jdk_52_method_21_code, exceptionTable := #[], attributes := #[] }
def k20m3 : Method := { name := "compress", desc := "([CI[BII)I", sig := { parameters := [(.array .char), .int, (.array .byte), .int, .int], returnType := some .int }, accessFlags := 9, code := some k20c3 }
/-- java/lang/StringUTF16 -/
def k20 : Class := { plain "java/lang/StringUTF16" (some 0) with
  accessFlags := 48
  interfaces := #[]
  cf := some (fileOf pool20 12 #[.nestMembers #[627, 629, 369]] #[{ accessFlags := 0, nameIndex := 9, descriptorIndex := 10, attributes := #[] }, { accessFlags := 8, nameIndex := 261, descriptorIndex := 262, attributes := #[] }, { accessFlags := 9, nameIndex := 117, descriptorIndex := 122, attributes := #[] }, { accessFlags := 9, nameIndex := 117, descriptorIndex := 118, attributes := #[] }] 48 6 #[] #[{ accessFlags := 26, nameIndex := 61, descriptorIndex := 62, attributes := #[] }, { accessFlags := 26, nameIndex := 65, descriptorIndex := 62, attributes := #[] }, { accessFlags := 24, nameIndex := 430, descriptorIndex := 62, attributes := #[] }, { accessFlags := 4120, nameIndex := 46, descriptorIndex := 47, attributes := #[] }])
  fields := #[{ name := "HI_BYTE_SHIFT", type := .int, accessFlags := 26, slot := 0, constantValue := 0 }, { name := "LO_BYTE_SHIFT", type := .int, accessFlags := 26, slot := 1, constantValue := 0 }, { name := "MAX_LENGTH", type := .int, accessFlags := 24, slot := 2, constantValue := 0 }, { name := "$assertionsDisabled", type := .boolean, accessFlags := 4120, slot := 3, constantValue := 0 }]
  methods := #[k20m0, k20m1, k20m2, k20m3]
  instanceTypes := #[]
  staticTypes := #[.int, .int, .int, .boolean]
  resolved := Array.replicate 635 none
  statics := none }

def pool21 : Array CpInfo := pool [(9, u "<init>"), (6, .class_ 18), (1, u "java/lang/Object"), (0, u "()V"), (1, .class_ 23), (1, u "jdk/internal/util/ArraysSupport"), (0, u "LOG2_ARRAY_LONG_INDEX_SCALE"), (0, u "I"), (2, u "U"), (0, u "Ljdk/internal/misc/Unsafe;"), (8, u "BIG_ENDIAN"), (0, u "Z"), (8, u "LOG2_BYTE_BIT_SIZE"), (4, u "LOG2_ARRAY_INT_INDEX_SCALE"), (54, u "JLA"), (0, u "Ljdk/internal/access/JavaLangAccess;"), (11, u "LOG2_ARRAY_BOOLEAN_INDEX_SCALE"), (9, u "LOG2_ARRAY_BYTE_INDEX_SCALE"), (5, u "LOG2_ARRAY_CHAR_INDEX_SCALE"), (5, u "LOG2_ARRAY_SHORT_INDEX_SCALE"), (18, u "LOG2_ARRAY_FLOAT_INDEX_SCALE"), (24, u "LOG2_ARRAY_DOUBLE_INDEX_SCALE"), (89, u "T_BOOLEAN"), (2, u "T_CHAR"), (1, u "T_FLOAT"), (1, u "T_DOUBLE"), (1, u "T_BYTE"), (1, u "T_SHORT"), (1, u "T_INT"), (1, u "T_LONG"), (1, u "SOFT_MAX_ARRAY_LENGTH")] 83

def k21m0 : Method := { name := "<init>", desc := "()V", sig := { parameters := [], returnType := none }, accessFlags := 2, code := none }
/-- jdk/internal/util/ArraysSupport -/
def k21 : Class := { plain "jdk/internal/util/ArraysSupport" (some 0) with
  accessFlags := 33
  interfaces := #[]
  cf := some (fileOf pool21 21 #[] #[{ accessFlags := 2, nameIndex := 9, descriptorIndex := 19, attributes := #[] }] 33 16 #[] #[{ accessFlags := 24, nameIndex := 28, descriptorIndex := 29, attributes := #[] }, { accessFlags := 26, nameIndex := 38, descriptorIndex := 39, attributes := #[] }, { accessFlags := 25, nameIndex := 121, descriptorIndex := 25, attributes := #[] }, { accessFlags := 25, nameIndex := 131, descriptorIndex := 25, attributes := #[] }, { accessFlags := 25, nameIndex := 137, descriptorIndex := 25, attributes := #[] }, { accessFlags := 25, nameIndex := 143, descriptorIndex := 25, attributes := #[] }, { accessFlags := 25, nameIndex := 53, descriptorIndex := 25, attributes := #[] }, { accessFlags := 25, nameIndex := 24, descriptorIndex := 25, attributes := #[] }, { accessFlags := 25, nameIndex := 162, descriptorIndex := 25, attributes := #[] }, { accessFlags := 25, nameIndex := 187, descriptorIndex := 25, attributes := #[] }, { accessFlags := 26, nameIndex := 48, descriptorIndex := 25, attributes := #[] }, { accessFlags := 25, nameIndex := 277, descriptorIndex := 25, attributes := #[] }, { accessFlags := 25, nameIndex := 280, descriptorIndex := 25, attributes := #[] }, { accessFlags := 25, nameIndex := 282, descriptorIndex := 25, attributes := #[] }, { accessFlags := 25, nameIndex := 284, descriptorIndex := 25, attributes := #[] }, { accessFlags := 25, nameIndex := 286, descriptorIndex := 25, attributes := #[] }, { accessFlags := 25, nameIndex := 288, descriptorIndex := 25, attributes := #[] }, { accessFlags := 25, nameIndex := 290, descriptorIndex := 25, attributes := #[] }, { accessFlags := 25, nameIndex := 292, descriptorIndex := 25, attributes := #[] }, { accessFlags := 26, nameIndex := 108, descriptorIndex := 109, attributes := #[] }, { accessFlags := 25, nameIndex := 294, descriptorIndex := 25, attributes := #[] }])
  fields := #[{ name := "U", type := (.object "jdk/internal/misc/Unsafe"), accessFlags := 24, slot := 0, constantValue := 0 }, { name := "BIG_ENDIAN", type := .boolean, accessFlags := 26, slot := 1, constantValue := 0 }, { name := "LOG2_ARRAY_BOOLEAN_INDEX_SCALE", type := .int, accessFlags := 25, slot := 2, constantValue := 0 }, { name := "LOG2_ARRAY_BYTE_INDEX_SCALE", type := .int, accessFlags := 25, slot := 3, constantValue := 0 }, { name := "LOG2_ARRAY_CHAR_INDEX_SCALE", type := .int, accessFlags := 25, slot := 4, constantValue := 0 }, { name := "LOG2_ARRAY_SHORT_INDEX_SCALE", type := .int, accessFlags := 25, slot := 5, constantValue := 0 }, { name := "LOG2_ARRAY_INT_INDEX_SCALE", type := .int, accessFlags := 25, slot := 6, constantValue := 0 }, { name := "LOG2_ARRAY_LONG_INDEX_SCALE", type := .int, accessFlags := 25, slot := 7, constantValue := 0 }, { name := "LOG2_ARRAY_FLOAT_INDEX_SCALE", type := .int, accessFlags := 25, slot := 8, constantValue := 0 }, { name := "LOG2_ARRAY_DOUBLE_INDEX_SCALE", type := .int, accessFlags := 25, slot := 9, constantValue := 0 }, { name := "LOG2_BYTE_BIT_SIZE", type := .int, accessFlags := 26, slot := 10, constantValue := 0 }, { name := "T_BOOLEAN", type := .int, accessFlags := 25, slot := 11, constantValue := 0 }, { name := "T_CHAR", type := .int, accessFlags := 25, slot := 12, constantValue := 0 }, { name := "T_FLOAT", type := .int, accessFlags := 25, slot := 13, constantValue := 0 }, { name := "T_DOUBLE", type := .int, accessFlags := 25, slot := 14, constantValue := 0 }, { name := "T_BYTE", type := .int, accessFlags := 25, slot := 15, constantValue := 0 }, { name := "T_SHORT", type := .int, accessFlags := 25, slot := 16, constantValue := 0 }, { name := "T_INT", type := .int, accessFlags := 25, slot := 17, constantValue := 0 }, { name := "T_LONG", type := .int, accessFlags := 25, slot := 18, constantValue := 0 }, { name := "JLA", type := (.object "jdk/internal/access/JavaLangAccess"), accessFlags := 26, slot := 19, constantValue := 0 }, { name := "SOFT_MAX_ARRAY_LENGTH", type := .int, accessFlags := 25, slot := 20, constantValue := 0 }]
  methods := #[k21m0]
  instanceTypes := #[]
  staticTypes := #[(.object "jdk/internal/misc/Unsafe"), .boolean, .int, .int, .int, .int, .int, .int, .int, .int, .int, .int, .int, .int, .int, .int, .int, .int, .int, (.object "jdk/internal/access/JavaLangAccess"), .int]
  resolved := Array.replicate 378 none
  statics := none }

def pool22 : Array CpInfo := pool [(1, u "java/lang/Cloneable"), (0, .class_ 1), (0, u "java/lang/Object"), (0, .class_ 3)] 3

/-- java/lang/Cloneable -/
def k22 : Class := { plain "java/lang/Cloneable" (some 0) with
  accessFlags := 1537
  interfaces := #[]
  cf := some (fileOf pool22 2 #[] #[] 1537 4 #[] #[])
  fields := #[]
  methods := #[]
  instanceTypes := #[]
  staticTypes := #[]
  resolved := Array.replicate 8 none
  statics := none }

/-- the primitive byte -/
def k23 : Class := { plain "byte" none with kind := .primitive 'B', accessFlags := 0x411 }
/-- [B -/
def k24 : Class := { plain "[B" (some 0) with kind := .array 23 .byte, interfaces := #[22, 2], accessFlags := 1041 }

/-- the primitive char -/
def k25 : Class := { plain "char" none with kind := .primitive 'C', accessFlags := 0x411 }
/-- [C -/
def k26 : Class := { plain "[C" (some 0) with kind := .array 25 .char, interfaces := #[22, 2], accessFlags := 1041 }

/-- the primitive int -/
def k27 : Class := { plain "int" none with kind := .primitive 'I', accessFlags := 0x411 }
/-- [I -/
def k28 : Class := { plain "[I" (some 0) with kind := .array 27 .int, interfaces := #[22, 2], accessFlags := 1041 }

def heap : Heap := #[{ cls := 7, slots := #[.long 0, .int 1, .null, .int 0, .null, .int 0, .int 0], vm := .statics 7 },
  { cls := 15, slots := #[.int 0, .int 0, .null, .null, .ref 4, .ref 3, .int 0, .int 0, .long 0], vm := .statics 15 },
  { cls := 19, slots := #[.null, .null, .null], vm := .statics 19 },
  { cls := 24, slots := #[.int 48, .int 49, .int 50, .int 51, .int 52, .int 53, .int 54, .int 55, .int 56, .int 57, .int 48, .int 49, .int 50, .int 51, .int 52, .int 53, .int 54, .int 55, .int 56, .int 57, .int 48, .int 49, .int 50, .int 51, .int 52, .int 53, .int 54, .int 55, .int 56, .int 57, .int 48, .int 49, .int 50, .int 51, .int 52, .int 53, .int 54, .int 55, .int 56, .int 57, .int 48, .int 49, .int 50, .int 51, .int 52, .int 53, .int 54, .int 55, .int 56, .int 57, .int 48, .int 49, .int 50, .int 51, .int 52, .int 53, .int 54, .int 55, .int 56, .int 57, .int 48, .int 49, .int 50, .int 51, .int 52, .int 53, .int 54, .int 55, .int 56, .int 57, .int 48, .int 49, .int 50, .int 51, .int 52, .int 53, .int 54, .int 55, .int 56, .int 57, .int 48, .int 49, .int 50, .int 51, .int 52, .int 53, .int 54, .int 55, .int 56, .int 57, .int 48, .int 49, .int 50, .int 51, .int 52, .int 53, .int 54, .int 55, .int 56, .int 57], vm := .none },
  { cls := 24, slots := #[.int 48, .int 48, .int 48, .int 48, .int 48, .int 48, .int 48, .int 48, .int 48, .int 48, .int 49, .int 49, .int 49, .int 49, .int 49, .int 49, .int 49, .int 49, .int 49, .int 49, .int 50, .int 50, .int 50, .int 50, .int 50, .int 50, .int 50, .int 50, .int 50, .int 50, .int 51, .int 51, .int 51, .int 51, .int 51, .int 51, .int 51, .int 51, .int 51, .int 51, .int 52, .int 52, .int 52, .int 52, .int 52, .int 52, .int 52, .int 52, .int 52, .int 52, .int 53, .int 53, .int 53, .int 53, .int 53, .int 53, .int 53, .int 53, .int 53, .int 53, .int 54, .int 54, .int 54, .int 54, .int 54, .int 54, .int 54, .int 54, .int 54, .int 54, .int 55, .int 55, .int 55, .int 55, .int 55, .int 55, .int 55, .int 55, .int 55, .int 55, .int 56, .int 56, .int 56, .int 56, .int 56, .int 56, .int 56, .int 56, .int 56, .int 56, .int 57, .int 57, .int 57, .int 57, .int 57, .int 57, .int 57, .int 57, .int 57, .int 57], vm := .none }]
def classes : Array Class := #[k0, k1, k2, k3, k4, k5, k6, k7, k8, k9, k10, k11, k12, k13, k14, k15, k16, k17, k18, k19, k20, k21, k22, k23, k24, k25, k26, k27, k28]
def interned : List (Array UInt16 × Addr) := []
def slotsUsed : Nat := 219
def theMethod : MethodId := ⟨1, 1⟩
def args0 : Array Value := #[.int 2, .int 65, .int 66, .int 67, .int 8079]
def aboutOver (below : List Frame) : State where
  vm := { classes := classes, interned := interned.toArray }
  heap := heap
  slotsUsed := slotsUsed
  threads := #[{ frames := .invoking theMethod args0 :: below }]
def below0 : List Frame := [.native { method := ⟨0, 0⟩, args := #[] }]
def about1 : State := aboutOver below0
def p0 : Program := .bare "" "" ""
def e0 : Env := launch0.env 0 0 0
theorem w_frames : about1.frames = Frame.invoking theMethod args0 :: below0 := rfl
set_option maxRecDepth 65536 in
theorem w_args : argsFit about1.vm theMethod args0 = true := by decide +kernel
set_option maxRecDepth 65536 in
theorem w_heap : heapFits about1 = true := by decide +kernel
set_option maxRecDepth 65536 in
theorem w_runnable : about1.curStatus? = some .runnable := by decide +kernel
set_option maxRecDepth 65536 in
theorem w_alone : about1.alone = true := by decide +kernel
set_option maxRecDepth 65536 in
theorem w_named : about1.methodNamed? x = some theMethod := by decide +kernel
set_option maxRecDepth 65536 in
theorem w_hears : about1.hears theMethod below0 = true := by decide +kernel
set_option maxRecDepth 65536 in
theorem w_ripe : about1.ripe theMethod args0 below0 = true := by decide +kernel
theorem w_running : about1.status = .running := rfl
set_option maxRecDepth 65536 in
theorem w_room : about1.hasRoom e0.platform room_1 = true :=
  launch0.hasRoom_least _ room_1 (by decide +kernel) (by decide +kernel) (by decide +kernel) (by decide +kernel) (by decide +kernel) (by decide +kernel)
theorem allAtoms_all (ts : List Jvm.Cond) (a : Array Jvm.Value) (st : Jvm.State) : (allAtoms ts).before a st = ts.all (fun c => c.before a st) := by
  induction ts with
  | nil => rfl
  | cons c t ih =>
    show (Jvm.Cond.and c (allAtoms t)).before a st = _
    rw [Jvm.Cond.before_and, ih, List.all_cons]
def words1 : List Jvm.Cond := Jvm.Cond.code x code maxLocals ret :: tables_1
/-- a 'code' word, met by the world's own term for the bytes: nothing is compared byte by byte -/
theorem code_word {y : MethodName} {bytes : ByteArray} {mx : Nat} {rt : Option FieldType} {a : Array Value} {s : State} {m : MethodId} {meth : Method} {c : Code} (h1 : s.methodNamed? y = some m) (h2 : s.vm.method? m = some meth) (h3 : meth.code = some c) (h4 : c.code = bytes)
    (h5 : (c.maxLocals == mx && c.exceptionTable.isEmpty && decide (c.maxStack ≤ mostOperands) && decide (meth.sig.returnType = rt) && !meth.locks && decide (parseMethodDescriptor y.desc = some meth.sig)) = true) : (Jvm.Cond.code y bytes mx rt).before a s = true := by
  simp only [Bool.and_eq_true, beq_iff_eq, Bool.not_eq_true', decide_eq_true_eq] at h5
  obtain ⟨⟨⟨⟨⟨g1, g2⟩, g3⟩, g4⟩, g5⟩, g6⟩ := h5
  simp [Cond.before, Cond.holds, Cond.value, h1, h2, h3, h4, g1, g2, g3, g4, g5, g6]
def isCode : Jvm.Cond → Bool
  | .code _ _ _ _ => true
  | _ => false
theorem all_split {L : List Jvm.Cond} {P : Jvm.Cond → Bool} (h1 : L.all (fun c => isCode c || P c) = true) (h2 : ∀ c ∈ L.filter isCode, P c = true) : L.all P = true := by
  refine List.all_eq_true.mpr fun c hc => ?_
  have h := List.all_eq_true.mp h1 c hc
  rcases Bool.eq_false_or_eq_true (isCode c) with hi | hi
  · exact h2 c (List.mem_filter.mpr ⟨hc, hi⟩)
  · simpa [hi] using h
set_option maxRecDepth 65536 in
theorem w_c0 : (Jvm.Cond.code x code maxLocals ret).before args0 about1 = true := code_word (m := ⟨1, 1⟩) (meth := k1m1) (c := k1c1) (by decide +kernel) rfl rfl rfl (by decide +kernel)
set_option maxRecDepth 65536 in
theorem w_c1 : (Jvm.Cond.code ({ cls := "java/lang/String", name := "<init>", desc := "([C)V" } : Jvm.MethodName) jdk_42_method_3_code (2 : Nat) (Option.none : Option Jvm.ClassFile.FieldType)).before args0 about1 = true := code_word (m := ⟨7, 1⟩) (meth := k7m1) (c := k7c1) (by decide +kernel) rfl rfl rfl (by decide +kernel)
set_option maxRecDepth 65536 in
theorem w_c2 : (Jvm.Cond.code ({ cls := "java/lang/String", name := "<init>", desc := "([CIILjava/lang/Void;)V" } : Jvm.MethodName) jdk_42_method_149_code (6 : Nat) (Option.none : Option Jvm.ClassFile.FieldType)).before args0 about1 = true := code_word (m := ⟨7, 6⟩) (meth := k7m6) (c := k7c6) (by decide +kernel) rfl rfl rfl (by decide +kernel)
set_option maxRecDepth 65536 in
theorem w_c3 : (Jvm.Cond.code ({ cls := "java/lang/Object", name := "<init>", desc := "()V" } : Jvm.MethodName) object_method_1_code (1 : Nat) (Option.none : Option Jvm.ClassFile.FieldType)).before args0 about1 = true := code_word (m := ⟨0, 0⟩) (meth := k0m0) (c := k0c0) (by decide +kernel) rfl rfl rfl (by decide +kernel)
set_option maxRecDepth 65536 in
theorem w_c4 : (Jvm.Cond.code ({ cls := "org/latchkey/redis/NodeAddress", name := "<init>", desc := "(Ljava/lang/String;I)V" } : Jvm.MethodName) prog_17_method_1_code (3 : Nat) (Option.none : Option Jvm.ClassFile.FieldType)).before args0 about1 = true := code_word (m := ⟨9, 0⟩) (meth := k9m0) (c := k9c0) (by decide +kernel) rfl rfl rfl (by decide +kernel)
set_option maxRecDepth 65536 in
theorem w_c5 : (Jvm.Cond.code ({ cls := "java/lang/Record", name := "<init>", desc := "()V" } : Jvm.MethodName) jdk_30_method_1_code (1 : Nat) (Option.none : Option Jvm.ClassFile.FieldType)).before args0 about1 = true := code_word (m := ⟨8, 0⟩) (meth := k8m0) (c := k8c0) (by decide +kernel) rfl rfl rfl (by decide +kernel)
set_option maxRecDepth 65536 in
theorem w_c6 : (Jvm.Cond.code ({ cls := "org/latchkey/redis/NodeAddress", name := "toString", desc := "()Ljava/lang/String;" } : Jvm.MethodName) prog_17_method_3_code (1 : Nat) (Option.some (Jvm.ClassFile.FieldType.object "java/lang/String"))).before args0 about1 = true := code_word (m := ⟨9, 1⟩) (meth := k9m1) (c := k9c1) (by decide +kernel) rfl rfl rfl (by decide +kernel)
set_option maxRecDepth 65536 in
theorem w_c7 : (Jvm.Cond.code ({ cls := "java/lang/StringBuilder", name := "<init>", desc := "()V" } : Jvm.MethodName) jdk_67_method_1_code (1 : Nat) (Option.none : Option Jvm.ClassFile.FieldType)).before args0 about1 = true := code_word (m := ⟨12, 0⟩) (meth := k12m0) (c := k12c0) (by decide +kernel) rfl rfl rfl (by decide +kernel)
set_option maxRecDepth 65536 in
theorem w_c8 : (Jvm.Cond.code ({ cls := "java/lang/AbstractStringBuilder", name := "<init>", desc := "(I)V" } : Jvm.MethodName) jdk_68_method_2_code (2 : Nat) (Option.none : Option Jvm.ClassFile.FieldType)).before args0 about1 = true := code_word (m := ⟨11, 1⟩) (meth := k11m1) (c := k11c1) (by decide +kernel) rfl rfl rfl (by decide +kernel)
set_option maxRecDepth 65536 in
theorem w_c9 : (Jvm.Cond.code ({ cls := "java/lang/StringBuilder", name := "append", desc := "(Ljava/lang/String;)Ljava/lang/StringBuilder;" } : Jvm.MethodName) jdk_67_method_7_code (2 : Nat) (Option.some (Jvm.ClassFile.FieldType.object "java/lang/StringBuilder"))).before args0 about1 = true := code_word (m := ⟨12, 1⟩) (meth := k12m1) (c := k12c1) (by decide +kernel) rfl rfl rfl (by decide +kernel)
set_option maxRecDepth 65536 in
theorem w_c10 : (Jvm.Cond.code ({ cls := "java/lang/AbstractStringBuilder", name := "append", desc := "(Ljava/lang/String;)Ljava/lang/AbstractStringBuilder;" } : Jvm.MethodName) jdk_68_method_22_code (3 : Nat) (Option.some (Jvm.ClassFile.FieldType.object "java/lang/AbstractStringBuilder"))).before args0 about1 = true := code_word (m := ⟨11, 4⟩) (meth := k11m4) (c := k11c4) (by decide +kernel) rfl rfl rfl (by decide +kernel)
set_option maxRecDepth 65536 in
theorem w_c11 : (Jvm.Cond.code ({ cls := "java/lang/String", name := "length", desc := "()I" } : Jvm.MethodName) jdk_42_method_54_code (1 : Nat) (Option.some Jvm.ClassFile.FieldType.int)).before args0 about1 = true := code_word (m := ⟨7, 3⟩) (meth := k7m3) (c := k7c3) (by decide +kernel) rfl rfl rfl (by decide +kernel)
set_option maxRecDepth 65536 in
theorem w_c12 : (Jvm.Cond.code ({ cls := "java/lang/String", name := "coder", desc := "()B" } : Jvm.MethodName) jdk_42_method_152_code (1 : Nat) (Option.some Jvm.ClassFile.FieldType.byte)).before args0 about1 = true := code_word (m := ⟨7, 8⟩) (meth := k7m8) (c := k7c8) (by decide +kernel) rfl rfl rfl (by decide +kernel)
set_option maxRecDepth 65536 in
theorem w_c13 : (Jvm.Cond.code ({ cls := "java/lang/AbstractStringBuilder", name := "ensureCapacityInternal", desc := "(I)V" } : Jvm.MethodName) jdk_68_method_9_code (3 : Nat) (Option.none : Option Jvm.ClassFile.FieldType)).before args0 about1 = true := code_word (m := ⟨11, 3⟩) (meth := k11m3) (c := k11c3) (by decide +kernel) rfl rfl rfl (by decide +kernel)
set_option maxRecDepth 65536 in
theorem w_c14 : (Jvm.Cond.code ({ cls := "java/lang/AbstractStringBuilder", name := "putStringAt", desc := "(ILjava/lang/String;)V" } : Jvm.MethodName) jdk_68_method_73_code (3 : Nat) (Option.none : Option Jvm.ClassFile.FieldType)).before args0 about1 = true := code_word (m := ⟨11, 9⟩) (meth := k11m9) (c := k11c9) (by decide +kernel) rfl rfl rfl (by decide +kernel)
set_option maxRecDepth 65536 in
theorem w_c15 : (Jvm.Cond.code ({ cls := "java/lang/AbstractStringBuilder", name := "inflateIfNeededFor", desc := "(Ljava/lang/String;)V" } : Jvm.MethodName) jdk_68_method_71_code (2 : Nat) (Option.none : Option Jvm.ClassFile.FieldType)).before args0 about1 = true := code_word (m := ⟨11, 8⟩) (meth := k11m8) (c := k11c8) (by decide +kernel) rfl rfl rfl (by decide +kernel)
set_option maxRecDepth 65536 in
theorem w_c16 : (Jvm.Cond.code ({ cls := "java/lang/String", name := "getBytes", desc := "([BIB)V" } : Jvm.MethodName) jdk_42_method_147_code (4 : Nat) (Option.none : Option Jvm.ClassFile.FieldType)).before args0 about1 = true := code_word (m := ⟨7, 5⟩) (meth := k7m5) (c := k7c5) (by decide +kernel) rfl rfl rfl (by decide +kernel)
set_option maxRecDepth 65536 in
theorem w_c17 : (Jvm.Cond.code ({ cls := "java/lang/StringBuilder", name := "append", desc := "(I)Ljava/lang/StringBuilder;" } : Jvm.MethodName) jdk_67_method_15_code (2 : Nat) (Option.some (Jvm.ClassFile.FieldType.object "java/lang/StringBuilder"))).before args0 about1 = true := code_word (m := ⟨12, 2⟩) (meth := k12m2) (c := k12c2) (by decide +kernel) rfl rfl rfl (by decide +kernel)
set_option maxRecDepth 65536 in
theorem w_c18 : (Jvm.Cond.code ({ cls := "java/lang/AbstractStringBuilder", name := "append", desc := "(I)Ljava/lang/AbstractStringBuilder;" } : Jvm.MethodName) jdk_68_method_32_code (4 : Nat) (Option.some (Jvm.ClassFile.FieldType.object "java/lang/AbstractStringBuilder"))).before args0 about1 = true := code_word (m := ⟨11, 5⟩) (meth := k11m5) (c := k11c5) (by decide +kernel) rfl rfl rfl (by decide +kernel)
set_option maxRecDepth 65536 in
theorem w_c19 : (Jvm.Cond.code ({ cls := "java/lang/Integer", name := "stringSize", desc := "(I)I" } : Jvm.MethodName) jdk_33_method_13_code (4 : Nat) (Option.some Jvm.ClassFile.FieldType.int)).before args0 about1 = true := code_word (m := ⟨15, 1⟩) (meth := k15m1) (c := k15c1) (by decide +kernel) rfl rfl rfl (by decide +kernel)
set_option maxRecDepth 65536 in
theorem w_c20 : (Jvm.Cond.code ({ cls := "java/lang/AbstractStringBuilder", name := "isLatin1", desc := "()Z" } : Jvm.MethodName) jdk_68_method_68_code (1 : Nat) (Option.some Jvm.ClassFile.FieldType.boolean)).before args0 about1 = true := code_word (m := ⟨11, 7⟩) (meth := k11m7) (c := k11c7) (by decide +kernel) rfl rfl rfl (by decide +kernel)
set_option maxRecDepth 65536 in
theorem w_c21 : (Jvm.Cond.code ({ cls := "java/lang/Integer", name := "getChars", desc := "(II[B)I" } : Jvm.MethodName) jdk_33_method_12_code (7 : Nat) (Option.some Jvm.ClassFile.FieldType.int)).before args0 about1 = true := code_word (m := ⟨15, 0⟩) (meth := k15m0) (c := k15c0) (by decide +kernel) rfl rfl rfl (by decide +kernel)
set_option maxRecDepth 65536 in
theorem w_c22 : (Jvm.Cond.code ({ cls := "java/lang/StringBuilder", name := "toString", desc := "()Ljava/lang/String;" } : Jvm.MethodName) jdk_67_method_42_code (1 : Nat) (Option.some (Jvm.ClassFile.FieldType.object "java/lang/String"))).before args0 about1 = true := code_word (m := ⟨12, 3⟩) (meth := k12m3) (c := k12c3) (by decide +kernel) rfl rfl rfl (by decide +kernel)
set_option maxRecDepth 65536 in
theorem w_c23 : (Jvm.Cond.code ({ cls := "java/lang/String", name := "<init>", desc := "(Ljava/lang/StringBuilder;)V" } : Jvm.MethodName) jdk_42_method_53_code (2 : Nat) (Option.none : Option Jvm.ClassFile.FieldType)).before args0 about1 = true := code_word (m := ⟨7, 2⟩) (meth := k7m2) (c := k7c2) (by decide +kernel) rfl rfl rfl (by decide +kernel)
set_option maxRecDepth 65536 in
theorem w_c24 : (Jvm.Cond.code ({ cls := "java/lang/String", name := "<init>", desc := "(Ljava/lang/AbstractStringBuilder;Ljava/lang/Void;)V" } : Jvm.MethodName) jdk_42_method_150_code (5 : Nat) (Option.none : Option Jvm.ClassFile.FieldType)).before args0 about1 = true := code_word (m := ⟨7, 7⟩) (meth := k7m7) (c := k7c7) (by decide +kernel) rfl rfl rfl (by decide +kernel)
set_option maxRecDepth 65536 in
theorem w_c25 : (Jvm.Cond.code ({ cls := "java/lang/AbstractStringBuilder", name := "getValue", desc := "()[B" } : Jvm.MethodName) jdk_68_method_64_code (1 : Nat) (Option.some (Jvm.ClassFile.FieldType.array Jvm.ClassFile.FieldType.byte))).before args0 about1 = true := code_word (m := ⟨11, 6⟩) (meth := k11m6) (c := k11c6) (by decide +kernel) rfl rfl rfl (by decide +kernel)
set_option maxRecDepth 65536 in
theorem w_c26 : (Jvm.Cond.code ({ cls := "java/lang/StringBuilder", name := "length", desc := "()I" } : Jvm.MethodName) jdk_67_method_93_code (1 : Nat) (Option.some Jvm.ClassFile.FieldType.int)).before args0 about1 = true := code_word (m := ⟨12, 4⟩) (meth := k12m4) (c := k12c4) (by decide +kernel) rfl rfl rfl (by decide +kernel)
set_option maxRecDepth 65536 in
theorem w_c27 : (Jvm.Cond.code ({ cls := "java/lang/AbstractStringBuilder", name := "length", desc := "()I" } : Jvm.MethodName) jdk_68_method_6_code (1 : Nat) (Option.some Jvm.ClassFile.FieldType.int)).before args0 about1 = true := code_word (m := ⟨11, 2⟩) (meth := k11m2) (c := k11c2) (by decide +kernel) rfl rfl rfl (by decide +kernel)
set_option maxRecDepth 65536 in
theorem w_c28 : (Jvm.Cond.code ({ cls := "java/util/Arrays", name := "copyOfRange", desc := "([BII)[B" } : Jvm.MethodName) jdk_65_method_132_code (3 : Nat) (Option.some (Jvm.ClassFile.FieldType.array Jvm.ClassFile.FieldType.byte))).before args0 about1 = true := code_word (m := ⟨16, 2⟩) (meth := k16m2) (c := k16c2) (by decide +kernel) rfl rfl rfl (by decide +kernel)
set_option maxRecDepth 65536 in
theorem w_c29 : (Jvm.Cond.code ({ cls := "java/util/Arrays", name := "copyOfRangeByte", desc := "([BII)[B" } : Jvm.MethodName) jdk_65_method_133_code (5 : Nat) (Option.some (Jvm.ClassFile.FieldType.array Jvm.ClassFile.FieldType.byte))).before args0 about1 = true := code_word (m := ⟨16, 3⟩) (meth := k16m3) (c := k16c3) (by decide +kernel) rfl rfl rfl (by decide +kernel)
set_option maxRecDepth 65536 in
theorem w_c30 : (Jvm.Cond.code ({ cls := "java/util/Arrays", name := "checkLength", desc := "(II)V" } : Jvm.MethodName) jdk_65_method_131_code (2 : Nat) (Option.none : Option Jvm.ClassFile.FieldType)).before args0 about1 = true := code_word (m := ⟨16, 1⟩) (meth := k16m1) (c := k16c1) (by decide +kernel) rfl rfl rfl (by decide +kernel)
set_option maxRecDepth 65536 in
theorem w_c31 : (Jvm.Cond.code ({ cls := "java/lang/Math", name := "min", desc := "(II)I" } : Jvm.MethodName) jdk_29_method_69_code (2 : Nat) (Option.some Jvm.ClassFile.FieldType.int)).before args0 about1 = true := code_word (m := ⟨17, 1⟩) (meth := k17m1) (c := k17c1) (by decide +kernel) rfl rfl rfl (by decide +kernel)
set_option maxRecDepth 65536 in
theorem w_c32 : (Jvm.Cond.code ({ cls := "org/latchkey/redis/NodeAddressToStringPinLaw", name := "ok", desc := "(Ljava/lang/String;II[C)Z" } : Jvm.MethodName) method_3_code (4 : Nat) (Option.some Jvm.ClassFile.FieldType.boolean)).before args0 about1 = true := code_word (m := ⟨1, 2⟩) (meth := k1m2) (c := k1c2) (by decide +kernel) rfl rfl rfl (by decide +kernel)
set_option maxRecDepth 65536 in
theorem w_c33 : (Jvm.Cond.code ({ cls := "java/lang/String", name := "charAt", desc := "(I)C" } : Jvm.MethodName) jdk_42_method_56_code (2 : Nat) (Option.some Jvm.ClassFile.FieldType.char)).before args0 about1 = true := code_word (m := ⟨7, 4⟩) (meth := k7m4) (c := k7c4) (by decide +kernel) rfl rfl rfl (by decide +kernel)
set_option maxRecDepth 65536 in
theorem w_c34 : (Jvm.Cond.code ({ cls := "java/lang/String", name := "isLatin1", desc := "()Z" } : Jvm.MethodName) jdk_42_method_154_code (1 : Nat) (Option.some Jvm.ClassFile.FieldType.boolean)).before args0 about1 = true := code_word (m := ⟨7, 9⟩) (meth := k7m9) (c := k7c9) (by decide +kernel) rfl rfl rfl (by decide +kernel)
set_option maxRecDepth 65536 in
theorem w_c35 : (Jvm.Cond.code ({ cls := "java/lang/StringLatin1", name := "charAt", desc := "([BI)C" } : Jvm.MethodName) jdk_43_method_2_code (2 : Nat) (Option.some Jvm.ClassFile.FieldType.char)).before args0 about1 = true := code_word (m := ⟨18, 1⟩) (meth := k18m1) (c := k18c1) (by decide +kernel) rfl rfl rfl (by decide +kernel)
set_option maxRecDepth 65536 in
theorem w_c36 : (Jvm.Cond.code ({ cls := "java/lang/String", name := "checkIndex", desc := "(II)V" } : Jvm.MethodName) jdk_42_method_155_code (2 : Nat) (Option.none : Option Jvm.ClassFile.FieldType)).before args0 about1 = true := code_word (m := ⟨7, 10⟩) (meth := k7m10) (c := k7c10) (by decide +kernel) rfl rfl rfl (by decide +kernel)
set_option maxRecDepth 65536 in
theorem w_c37 : (Jvm.Cond.code ({ cls := "jdk/internal/util/Preconditions", name := "checkIndex", desc := "(IILjava/util/function/BiFunction;)I" } : Jvm.MethodName) jdk_41_method_11_code (3 : Nat) (Option.some Jvm.ClassFile.FieldType.int)).before args0 about1 = true := code_word (m := ⟨19, 1⟩) (meth := k19m1) (c := k19c1) (by decide +kernel) rfl rfl rfl (by decide +kernel)
set_option maxRecDepth 65536 in
theorem w_c38 : (Jvm.Cond.code ({ cls := "java/lang/StringUTF16", name := "compress", desc := "([CII)[B" } : Jvm.MethodName) jdk_52_method_16_code (6 : Nat) (Option.some (Jvm.ClassFile.FieldType.array Jvm.ClassFile.FieldType.byte))).before args0 about1 = true := code_word (m := ⟨20, 2⟩) (meth := k20m2) (c := k20c2) (by decide +kernel) rfl rfl rfl (by decide +kernel)
set_option maxRecDepth 65536 in
theorem w_c39 : (Jvm.Cond.code ({ cls := "java/lang/StringUTF16", name := "compress", desc := "([CI[BII)I" } : Jvm.MethodName) jdk_52_method_21_code (7 : Nat) (Option.some Jvm.ClassFile.FieldType.int)).before args0 about1 = true := code_word (m := ⟨20, 3⟩) (meth := k20m3) (c := k20c3) (by decide +kernel) rfl rfl rfl (by decide +kernel)
set_option maxRecDepth 65536 in
theorem w_c40 : (Jvm.Cond.code ({ cls := "java/lang/StringUTF16", name := "coderFromArrayLen", desc := "([BI)B" } : Jvm.MethodName) jdk_52_method_15_code (2 : Nat) (Option.some Jvm.ClassFile.FieldType.byte)).before args0 about1 = true := code_word (m := ⟨20, 1⟩) (meth := k20m1) (c := k20c1) (by decide +kernel) rfl rfl rfl (by decide +kernel)
def codes1 : List Jvm.Cond := [Jvm.Cond.code x code maxLocals ret, Jvm.Cond.code ({ cls := "java/lang/String", name := "<init>", desc := "([C)V" } : Jvm.MethodName) jdk_42_method_3_code (2 : Nat) (Option.none : Option Jvm.ClassFile.FieldType), Jvm.Cond.code ({ cls := "java/lang/String", name := "<init>", desc := "([CIILjava/lang/Void;)V" } : Jvm.MethodName) jdk_42_method_149_code (6 : Nat) (Option.none : Option Jvm.ClassFile.FieldType), Jvm.Cond.code ({ cls := "java/lang/Object", name := "<init>", desc := "()V" } : Jvm.MethodName) object_method_1_code (1 : Nat) (Option.none : Option Jvm.ClassFile.FieldType), Jvm.Cond.code ({ cls := "org/latchkey/redis/NodeAddress", name := "<init>", desc := "(Ljava/lang/String;I)V" } : Jvm.MethodName) prog_17_method_1_code (3 : Nat) (Option.none : Option Jvm.ClassFile.FieldType), Jvm.Cond.code ({ cls := "java/lang/Record", name := "<init>", desc := "()V" } : Jvm.MethodName) jdk_30_method_1_code (1 : Nat) (Option.none : Option Jvm.ClassFile.FieldType), Jvm.Cond.code ({ cls := "org/latchkey/redis/NodeAddress", name := "toString", desc := "()Ljava/lang/String;" } : Jvm.MethodName) prog_17_method_3_code (1 : Nat) (Option.some (Jvm.ClassFile.FieldType.object "java/lang/String")), Jvm.Cond.code ({ cls := "java/lang/StringBuilder", name := "<init>", desc := "()V" } : Jvm.MethodName) jdk_67_method_1_code (1 : Nat) (Option.none : Option Jvm.ClassFile.FieldType), Jvm.Cond.code ({ cls := "java/lang/AbstractStringBuilder", name := "<init>", desc := "(I)V" } : Jvm.MethodName) jdk_68_method_2_code (2 : Nat) (Option.none : Option Jvm.ClassFile.FieldType), Jvm.Cond.code ({ cls := "java/lang/StringBuilder", name := "append", desc := "(Ljava/lang/String;)Ljava/lang/StringBuilder;" } : Jvm.MethodName) jdk_67_method_7_code (2 : Nat) (Option.some (Jvm.ClassFile.FieldType.object "java/lang/StringBuilder")), Jvm.Cond.code ({ cls := "java/lang/AbstractStringBuilder", name := "append", desc := "(Ljava/lang/String;)Ljava/lang/AbstractStringBuilder;" } : Jvm.MethodName) jdk_68_method_22_code (3 : Nat) (Option.some (Jvm.ClassFile.FieldType.object "java/lang/AbstractStringBuilder")), Jvm.Cond.code ({ cls := "java/lang/String", name := "length", desc := "()I" } : Jvm.MethodName) jdk_42_method_54_code (1 : Nat) (Option.some Jvm.ClassFile.FieldType.int), Jvm.Cond.code ({ cls := "java/lang/String", name := "coder", desc := "()B" } : Jvm.MethodName) jdk_42_method_152_code (1 : Nat) (Option.some Jvm.ClassFile.FieldType.byte), Jvm.Cond.code ({ cls := "java/lang/AbstractStringBuilder", name := "ensureCapacityInternal", desc := "(I)V" } : Jvm.MethodName) jdk_68_method_9_code (3 : Nat) (Option.none : Option Jvm.ClassFile.FieldType), Jvm.Cond.code ({ cls := "java/lang/AbstractStringBuilder", name := "putStringAt", desc := "(ILjava/lang/String;)V" } : Jvm.MethodName) jdk_68_method_73_code (3 : Nat) (Option.none : Option Jvm.ClassFile.FieldType), Jvm.Cond.code ({ cls := "java/lang/AbstractStringBuilder", name := "inflateIfNeededFor", desc := "(Ljava/lang/String;)V" } : Jvm.MethodName) jdk_68_method_71_code (2 : Nat) (Option.none : Option Jvm.ClassFile.FieldType), Jvm.Cond.code ({ cls := "java/lang/String", name := "getBytes", desc := "([BIB)V" } : Jvm.MethodName) jdk_42_method_147_code (4 : Nat) (Option.none : Option Jvm.ClassFile.FieldType), Jvm.Cond.code ({ cls := "java/lang/StringBuilder", name := "append", desc := "(I)Ljava/lang/StringBuilder;" } : Jvm.MethodName) jdk_67_method_15_code (2 : Nat) (Option.some (Jvm.ClassFile.FieldType.object "java/lang/StringBuilder")), Jvm.Cond.code ({ cls := "java/lang/AbstractStringBuilder", name := "append", desc := "(I)Ljava/lang/AbstractStringBuilder;" } : Jvm.MethodName) jdk_68_method_32_code (4 : Nat) (Option.some (Jvm.ClassFile.FieldType.object "java/lang/AbstractStringBuilder")), Jvm.Cond.code ({ cls := "java/lang/Integer", name := "stringSize", desc := "(I)I" } : Jvm.MethodName) jdk_33_method_13_code (4 : Nat) (Option.some Jvm.ClassFile.FieldType.int), Jvm.Cond.code ({ cls := "java/lang/AbstractStringBuilder", name := "isLatin1", desc := "()Z" } : Jvm.MethodName) jdk_68_method_68_code (1 : Nat) (Option.some Jvm.ClassFile.FieldType.boolean), Jvm.Cond.code ({ cls := "java/lang/Integer", name := "getChars", desc := "(II[B)I" } : Jvm.MethodName) jdk_33_method_12_code (7 : Nat) (Option.some Jvm.ClassFile.FieldType.int), Jvm.Cond.code ({ cls := "java/lang/StringBuilder", name := "toString", desc := "()Ljava/lang/String;" } : Jvm.MethodName) jdk_67_method_42_code (1 : Nat) (Option.some (Jvm.ClassFile.FieldType.object "java/lang/String")), Jvm.Cond.code ({ cls := "java/lang/String", name := "<init>", desc := "(Ljava/lang/StringBuilder;)V" } : Jvm.MethodName) jdk_42_method_53_code (2 : Nat) (Option.none : Option Jvm.ClassFile.FieldType), Jvm.Cond.code ({ cls := "java/lang/String", name := "<init>", desc := "(Ljava/lang/AbstractStringBuilder;Ljava/lang/Void;)V" } : Jvm.MethodName) jdk_42_method_150_code (5 : Nat) (Option.none : Option Jvm.ClassFile.FieldType), Jvm.Cond.code ({ cls := "java/lang/AbstractStringBuilder", name := "getValue", desc := "()[B" } : Jvm.MethodName) jdk_68_method_64_code (1 : Nat) (Option.some (Jvm.ClassFile.FieldType.array Jvm.ClassFile.FieldType.byte)), Jvm.Cond.code ({ cls := "java/lang/StringBuilder", name := "length", desc := "()I" } : Jvm.MethodName) jdk_67_method_93_code (1 : Nat) (Option.some Jvm.ClassFile.FieldType.int), Jvm.Cond.code ({ cls := "java/lang/AbstractStringBuilder", name := "length", desc := "()I" } : Jvm.MethodName) jdk_68_method_6_code (1 : Nat) (Option.some Jvm.ClassFile.FieldType.int), Jvm.Cond.code ({ cls := "java/util/Arrays", name := "copyOfRange", desc := "([BII)[B" } : Jvm.MethodName) jdk_65_method_132_code (3 : Nat) (Option.some (Jvm.ClassFile.FieldType.array Jvm.ClassFile.FieldType.byte)), Jvm.Cond.code ({ cls := "java/util/Arrays", name := "copyOfRangeByte", desc := "([BII)[B" } : Jvm.MethodName) jdk_65_method_133_code (5 : Nat) (Option.some (Jvm.ClassFile.FieldType.array Jvm.ClassFile.FieldType.byte)), Jvm.Cond.code ({ cls := "java/util/Arrays", name := "checkLength", desc := "(II)V" } : Jvm.MethodName) jdk_65_method_131_code (2 : Nat) (Option.none : Option Jvm.ClassFile.FieldType), Jvm.Cond.code ({ cls := "java/lang/Math", name := "min", desc := "(II)I" } : Jvm.MethodName) jdk_29_method_69_code (2 : Nat) (Option.some Jvm.ClassFile.FieldType.int), Jvm.Cond.code ({ cls := "org/latchkey/redis/NodeAddressToStringPinLaw", name := "ok", desc := "(Ljava/lang/String;II[C)Z" } : Jvm.MethodName) method_3_code (4 : Nat) (Option.some Jvm.ClassFile.FieldType.boolean), Jvm.Cond.code ({ cls := "java/lang/String", name := "charAt", desc := "(I)C" } : Jvm.MethodName) jdk_42_method_56_code (2 : Nat) (Option.some Jvm.ClassFile.FieldType.char), Jvm.Cond.code ({ cls := "java/lang/String", name := "isLatin1", desc := "()Z" } : Jvm.MethodName) jdk_42_method_154_code (1 : Nat) (Option.some Jvm.ClassFile.FieldType.boolean), Jvm.Cond.code ({ cls := "java/lang/StringLatin1", name := "charAt", desc := "([BI)C" } : Jvm.MethodName) jdk_43_method_2_code (2 : Nat) (Option.some Jvm.ClassFile.FieldType.char), Jvm.Cond.code ({ cls := "java/lang/String", name := "checkIndex", desc := "(II)V" } : Jvm.MethodName) jdk_42_method_155_code (2 : Nat) (Option.none : Option Jvm.ClassFile.FieldType), Jvm.Cond.code ({ cls := "jdk/internal/util/Preconditions", name := "checkIndex", desc := "(IILjava/util/function/BiFunction;)I" } : Jvm.MethodName) jdk_41_method_11_code (3 : Nat) (Option.some Jvm.ClassFile.FieldType.int), Jvm.Cond.code ({ cls := "java/lang/StringUTF16", name := "compress", desc := "([CII)[B" } : Jvm.MethodName) jdk_52_method_16_code (6 : Nat) (Option.some (Jvm.ClassFile.FieldType.array Jvm.ClassFile.FieldType.byte)), Jvm.Cond.code ({ cls := "java/lang/StringUTF16", name := "compress", desc := "([CI[BII)I" } : Jvm.MethodName) jdk_52_method_21_code (7 : Nat) (Option.some Jvm.ClassFile.FieldType.int), Jvm.Cond.code ({ cls := "java/lang/StringUTF16", name := "coderFromArrayLen", desc := "([BI)B" } : Jvm.MethodName) jdk_52_method_15_code (2 : Nat) (Option.some Jvm.ClassFile.FieldType.byte)]
set_option maxRecDepth 65536 in
theorem codes_eq : words1.filter isCode = codes1 := rfl
theorem w_codes : ∀ c ∈ words1.filter isCode, c.before args0 about1 = true := by
  rw [codes_eq]
  intro c hc
  simp only [codes1, List.mem_cons, List.not_mem_nil, or_false] at hc
  rcases hc with rfl | rfl | rfl | rfl | rfl | rfl | rfl | rfl | rfl | rfl | rfl | rfl | rfl | rfl | rfl | rfl | rfl | rfl | rfl | rfl | rfl | rfl | rfl | rfl | rfl | rfl | rfl | rfl | rfl | rfl | rfl | rfl | rfl | rfl | rfl | rfl | rfl | rfl | rfl | rfl | rfl
  · exact w_c0
  · exact w_c1
  · exact w_c2
  · exact w_c3
  · exact w_c4
  · exact w_c5
  · exact w_c6
  · exact w_c7
  · exact w_c8
  · exact w_c9
  · exact w_c10
  · exact w_c11
  · exact w_c12
  · exact w_c13
  · exact w_c14
  · exact w_c15
  · exact w_c16
  · exact w_c17
  · exact w_c18
  · exact w_c19
  · exact w_c20
  · exact w_c21
  · exact w_c22
  · exact w_c23
  · exact w_c24
  · exact w_c25
  · exact w_c26
  · exact w_c27
  · exact w_c28
  · exact w_c29
  · exact w_c30
  · exact w_c31
  · exact w_c32
  · exact w_c33
  · exact w_c34
  · exact w_c35
  · exact w_c36
  · exact w_c37
  · exact w_c38
  · exact w_c39
  · exact w_c40
set_option maxRecDepth 65536 in
theorem w_t1 : (words1.take 24).all (fun c => isCode c || c.before args0 about1) = true := by decide +kernel
set_option maxRecDepth 65536 in
theorem w_t2 : ((words1.drop 24).take 24).all (fun c => isCode c || c.before args0 about1) = true := by decide +kernel
set_option maxRecDepth 65536 in
theorem w_t3 : (((words1.drop 24).drop 24).take 24).all (fun c => isCode c || c.before args0 about1) = true := by decide +kernel
set_option maxRecDepth 65536 in
theorem w_t4 : ((((words1.drop 24).drop 24).drop 24).take 24).all (fun c => isCode c || c.before args0 about1) = true := by decide +kernel
set_option maxRecDepth 65536 in
theorem w_t5 : (((((words1.drop 24).drop 24).drop 24).drop 24).take 24).all (fun c => isCode c || c.before args0 about1) = true := by decide +kernel
set_option maxRecDepth 65536 in
theorem w_t6 : ((((((words1.drop 24).drop 24).drop 24).drop 24).drop 24).take 24).all (fun c => isCode c || c.before args0 about1) = true := by decide +kernel
set_option maxRecDepth 65536 in
theorem w_t7 : (((((((words1.drop 24).drop 24).drop 24).drop 24).drop 24).drop 24).take 24).all (fun c => isCode c || c.before args0 about1) = true := by decide +kernel
set_option maxRecDepth 65536 in
theorem w_t8 : ((((((((words1.drop 24).drop 24).drop 24).drop 24).drop 24).drop 24).drop 24).take 24).all (fun c => isCode c || c.before args0 about1) = true := by decide +kernel
set_option maxRecDepth 65536 in
theorem w_t9 : ((((((((words1.drop 24).drop 24).drop 24).drop 24).drop 24).drop 24).drop 24).drop 24).all (fun c => isCode c || c.before args0 about1) = true := by decide +kernel
theorem w_tables : (allAtoms (Jvm.Cond.code x code maxLocals ret :: tables_1)).before args0 about1 = true := by
  rw [allAtoms_all]
  show words1.all (fun c => c.before args0 about1) = true
  refine all_split ?_ w_codes
  rw [← List.take_append_drop 24 words1, List.all_append, w_t1, ← List.take_append_drop 24 (words1.drop 24), List.all_append, w_t2, ← List.take_append_drop 24 ((words1.drop 24).drop 24), List.all_append, w_t3, ← List.take_append_drop 24 (((words1.drop 24).drop 24).drop 24), List.all_append, w_t4, ← List.take_append_drop 24 ((((words1.drop 24).drop 24).drop 24).drop 24), List.all_append, w_t5, ← List.take_append_drop 24 (((((words1.drop 24).drop 24).drop 24).drop 24).drop 24), List.all_append, w_t6, ← List.take_append_drop 24 ((((((words1.drop 24).drop 24).drop 24).drop 24).drop 24).drop 24), List.all_append, w_t7, ← List.take_append_drop 24 (((((((words1.drop 24).drop 24).drop 24).drop 24).drop 24).drop 24).drop 24), List.all_append, w_t8, w_t9]
  rfl
set_option maxRecDepth 65536 in
theorem w_rest : rest_1_c.before args0 about1 = true := by decide +kernel
set_option maxRecDepth 65536 in
theorem w_case : (Jvm.Cond.and given_1 narrow_1).before args0 about1 = true := by decide +kernel
set_option maxRecDepth 65536 in
theorem w_consts : constsHeld consts_1 about1 := Jvm.Lit.constsHeldB_iff.mp (by decide +kernel)
theorem w_applies : (headSpec (Jvm.Cond.code x code maxLocals ret :: tables_1) room_1).applies x e0.platform about1 = true :=
  (Spec.applies_iff w_frames).mpr ⟨w_running, w_runnable, w_alone, w_named, w_hears, w_ripe, w_room, w_tables⟩
theorem atStart : AtStart classFile x code maxLocals ret World_1 tables_1 room_1 Calls_1 rest_1 Pre_1 launch0 p0 e0 about1 theMethod args0 below0 :=
  ⟨lists_1, trivial, launch0.admits_env _ _ _, launch0.least_env, fairChoices_fair.cas, fairChoices_fair.clock, w_frames, w_args, w_heap, w_applies, ⟨w_consts, trivial⟩, w_rest, w_case⟩
end start1
theorem witness_1 : WitnessClaimed_1 := ⟨start1.p0, start1.e0, start1.about1, start1.theMethod, start1.args0, start1.below0, start1.atStart⟩
end Jvm.Pilot.@@N@@
