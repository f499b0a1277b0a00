import JvmDerived
import JvmDerived.Pilot.@@N@@Statement
import JvmDerived.Pilot.@@N@@Code
set_option linter.unusedVariables false
set_option linter.unusedSimpArgs false
/- laws to paste: Road.backV, Road.eqW, Road.codOf (cut by pick.py; bodies as the Statement names them) -/
namespace Jvm.Pilot.@@N@@
namespace StrChars
open Jvm Sem ClassFile Op Lib Jvm.Stand Jvm.Free.XT Jvm.Free.ALB Jvm.Free.JM Jvm.Free
open Jvm.Lib.Cold (StaticIs)
/-- a char array whose places are chars -/
def Ch (a : Addr) (A : Cell) (U : State) : Prop := Arr .char a A U ∧ Typed .char A
theorem Ch.mv {a : Addr} {A : Cell} {U U' : State} (h : Ch a A U) (hal : U.vm.Alike U'.vm) (hh : U'.heap = U.heap) : Ch a A U' := ⟨h.1.mv hal hh, h.2⟩
theorem Ch.keep {a : Addr} {A : Cell} {U U' : State} (h : Ch a A U) (hal : U.vm.Alike U'.vm) (hk : U'.heap[a]? = some A) : Ch a A U' := ⟨h.1.keep hal hk, h.2⟩
/-- what place i of a char[]'s cell holds -/
def cv (A : Cell) (i : Nat) : Int32 := match A.slots[i]? with | some (.int x) => x | _ => 0
theorem Ch.get {a : Addr} {A : Cell} {U : State} (h : Ch a A U) {i : Nat} (hi : i < A.slots.size) : A.slots[i]? = some (.int (cv A i)) := by
  have e := Array.getElem?_eq_getElem hi
  have f := h.2 i _ e
  unfold cv; rw [e]
  generalize A.slots[i] = v at f
  cases v <;> simp [fits] at f ⊢
/-- the byte that i2b leaves of a char -/
def lo8 (x : Int32) : Int32 := x.toInt8.toInt32
theorem fits_lo8 (y : Int32) : fits .byte (.int (lo8 y)) = true := by
  have h1 := y.toInt8.le_toInt
  have h2 := y.toInt8.toInt_lt
  simp only [lo8, fits, Bool.and_eq_true, decide_eq_true_eq, Int32.le_iff_toInt_le, Int8.toInt_toInt32, show (-128 : Int32).toInt = -128 from by decide, show (127 : Int32).toInt = 127 from by decide]
  omega
/-- A' is A but that each place j of lo .. hi - 1 holds f j -/
def Laid (A A' : Cell) (lo hi : Nat) (f : Nat → Value) : Prop := A'.cls = A.cls ∧ A'.vm = A.vm ∧ A'.slots.size = A.slots.size ∧ ∀ i, A'.slots[i]? = if lo ≤ i ∧ i < hi then some (f i) else A.slots[i]?
theorem Laid.zero (A : Cell) (lo : Nat) (f : Nat → Value) : Laid A A lo (lo + 0) f := ⟨rfl, rfl, rfl, fun i => by rw [if_neg (by omega)]⟩
theorem Laid.step {A Ak : Cell} {lo k : Nat} {f : Nat → Value} {v : Value} (h : Laid A Ak lo k f) (hlo : lo ≤ k) (hk : k < Ak.slots.size) (hv : v = f k) : Laid A (Ak.setSlot k v) lo (k + 1) f := by
  refine ⟨h.1, h.2.1, by simpa [Cell.setSlot] using h.2.2.1, fun i => ?_⟩
  by_cases e : k = i
  · subst e; rw [Cell.slots_setSlot_self v hk, if_pos (by omega), hv]
  · rw [Cell.slots_setSlot_ne v e, h.2.2.2 i]
    by_cases q : lo ≤ i ∧ i < k
    · rw [if_pos q, if_pos (by omega)]
    · rw [if_neg q, if_neg (by omega)]
def U16 : String := "java/lang/StringUTF16"
namespace Cmp5
def yN : MethodName := ⟨"java/lang/StringUTF16", "compress", "([CI[BII)I"⟩
abbrev yB : ByteArray := jdk_52_method_21_code
theorem d0 : decode yB 0 = .ok (.iconst 0, 1) := by decide +kernel
theorem d1 : decode yB 1 = .ok (.istore 5, 2) := by decide +kernel
theorem d3 : decode yB 3 = .ok (.iload 5, 2) := by decide +kernel
theorem d5 : decode yB 5 = .ok (.iload 4, 2) := by decide +kernel
theorem d7 : decode yB 7 = .ok (.if_icmp (.ge) 37, 3) := by decide +kernel
theorem d10 : decode yB 10 = .ok (.aload_n 0, 1) := by decide +kernel
theorem d11 : decode yB 11 = .ok (.iload_n 1, 1) := by decide +kernel
theorem d12 : decode yB 12 = .ok (.caload, 1) := by decide +kernel
theorem d13 : decode yB 13 = .ok (.istore 6, 2) := by decide +kernel
theorem d15 : decode yB 15 = .ok (.iload 6, 2) := by decide +kernel
theorem d17 : decode yB 17 = .ok (.sipush 255, 3) := by decide +kernel
theorem d20 : decode yB 20 = .ok (.if_icmp (.le) 6, 3) := by decide +kernel
theorem d26 : decode yB 26 = .ok (.aload_n 2, 1) := by decide +kernel
theorem d27 : decode yB 27 = .ok (.iload_n 3, 1) := by decide +kernel
theorem d28 : decode yB 28 = .ok (.iload 6, 2) := by decide +kernel
theorem d30 : decode yB 30 = .ok (.i2b, 1) := by decide +kernel
theorem d31 : decode yB 31 = .ok (.bastore, 1) := by decide +kernel
theorem d32 : decode yB 32 = .ok (.iinc 1 1, 3) := by decide +kernel
theorem d35 : decode yB 35 = .ok (.iinc 3 1, 3) := by decide +kernel
theorem d38 : decode yB 38 = .ok (.iinc 5 1, 3) := by decide +kernel
theorem d41 : decode yB 41 = .ok (.goto (-38), 3) := by decide +kernel
theorem d44 : decode yB 44 = .ok (.iload 4, 2) := by decide +kernel
theorem d46 : decode yB 46 = .ok (.ireturn, 1) := by decide +kernel
def site : List Cond := []
def tab : Cond := tabOf yN yB 7 (some .int) site
def P (b : Addr) (A : Cell) (d : Addr) (B : Cell) (o q len : Nat) (args : Array Value) (s : State) : Prop := args = #[.ref b, .int (Int32.ofNat o), .ref d, .int (Int32.ofNat q), .int (Int32.ofNat len)] ∧ Ch b A s ∧ Arr .byte d B s ∧ b ≠ d ∧ o + len ≤ A.slots.size ∧ q + len ≤ B.slots.size ∧ ∀ i, i < len → ¬ 255 < cv A (o + i)
def E (b : Addr) (A : Cell) (d : Addr) (B : Cell) (o q len : Nat) (r : Option Value) (s u : State) : Prop := r = some (.int (Int32.ofNat len)) ∧ ∃ B', Put d B' s u ∧ Laid B B' q (q + len) (fun j => Value.int (lo8 (cv A (o + (j - q)))))
/-- no char of the range above 255: len; the places written hold each char's low byte -/
theorem law (l : Launch) (b : Addr) (A : Cell) (d : Addr) (B : Cell) (o q len : Nat) : Law l yN 5 5 0 0 yB 7 (some .int) site (P b A d B o q len) (E b A d B o q len) (copyLocs d q len) 0 0 := by
  refine Law.of_walk (plainFor_of_name (by decide +kernel)) (by decide +kernel) (by decide +kernel) (by decide) (fun _ _ h => by rw [h.1]; rfl) (fun _ U U' hal hh h => ⟨h.1, h.2.1.mv hal hh, h.2.2.1.mv hal hh, h.2.2.2⟩) (fun r U U' V V' h1 hal h2 h => ⟨h.1, h.2.elim fun B' q => ⟨B', q.1.mv h1 h2, q.2⟩⟩) ?_
  intro p e s m args below meth c s₁ X0 hexec hbytes hml hret hlk hnm hown hh0 W hP
  obtain ⟨rfl, hA, hB, hne, l1, l2, hp⟩ := hP
  have c1 : Steps p.tables e below (s₁.setTop (entryFrame m #[.ref b, .int (Int32.ofNat o), .ref d, .int (Int32.ofNat q), .int (Int32.ofNat len)] 7)) (s₁.setTop (mkF m 0 #[.val (.ref b), .val (.int (Int32.ofNat o)), .val (.ref d), .val (.int (Int32.ofNat q)), .val (.int (Int32.ofNat len)), .unset, .unset] [])) := entry rfl
  have hA0 := hA.1.mv X0.warmed.alike hh0
  have hB0 := hB.mv X0.warmed.alike hh0
  have a31 := hA.1.2.2.2
  have c2 : Steps p.tables e below (s₁.setTop (entryFrame m #[.ref b, .int (Int32.ofNat o), .ref d, .int (Int32.ofNat q), .int (Int32.ofNat len)] 7)) (s₁.setTop (mkF m 3 #[.val (.ref b), .val (.int (Int32.ofNat o)), .val (.ref d), .val (.int (Int32.ofNat q)), .val (.int (Int32.ofNat len)), .val (.int 0), .unset] [])) := c1.trans (by
    refine iconstV X0.here hexec rfl 0 (hb hbytes d0) (by decide) ?_
    refine XS.istore X0.here hexec rfl (hb hbytes d1) rfl rfl ?_
    exact Steps.refl _)
  have loop : ∀ (r i : Nat), i + r = len → ∀ (z : Slot), (z = .unset ∨ ∃ w, z = .val w ∧ w.category = 1) → ∀ (Tl : State) (Bk : Cell), Stand p l e { frames := 0, locals := 0, cells := 0, slots := 0 } s m #[.ref b, .int (Int32.ofNat o), .ref d, .int (Int32.ofNat q), .int (Int32.ofNat len)] below meth c Tl ([] ++ copyLocs d q i) 0 0 → Put d Bk s₁ Tl → Laid B Bk q (q + i) (fun j => Value.int (lo8 (cv A (o + (j - q))))) →
      Steps p.tables e below (s₁.setTop (entryFrame m #[.ref b, .int (Int32.ofNat o), .ref d, .int (Int32.ofNat q), .int (Int32.ofNat len)] 7)) (Tl.setTop (mkF m 3 #[.val (.ref b), .val (.int (Int32.ofNat (o + i))), .val (.ref d), .val (.int (Int32.ofNat (q + i))), .val (.int (Int32.ofNat len)), .val (.int (Int32.ofNat i)), z] [])) → ∃ (T' : State) (B' : Cell) (z' : Slot), Stand p l e { frames := 0, locals := 0, cells := 0, slots := 0 } s m #[.ref b, .int (Int32.ofNat o), .ref d, .int (Int32.ofNat q), .int (Int32.ofNat len)] below meth c T' ([] ++ copyLocs d q len) 0 0 ∧ Put d B' s₁ T' ∧ Laid B B' q (q + len) (fun j => Value.int (lo8 (cv A (o + (j - q))))) ∧
      Steps p.tables e below (s₁.setTop (entryFrame m #[.ref b, .int (Int32.ofNat o), .ref d, .int (Int32.ofNat q), .int (Int32.ofNat len)] 7)) (T'.setTop (mkF m 3 #[.val (.ref b), .val (.int (Int32.ofNat (o + len))), .val (.ref d), .val (.int (Int32.ofNat (q + len))), .val (.int (Int32.ofNat len)), .val (.int (Int32.ofNat len)), z'] [])) := by
    intro r
    induction r with
    | zero =>
      intro i hi z hz Tl Bk Xl pl fl cl
      have hil : i = len := by omega
      rw [hil] at Xl fl cl
      exact ⟨Tl, Bk, z, Xl, pl, fl, cl⟩
    | succ r ih =>
      intro i hi z hz Tl Bk Xl pl fl cl
      have all := X0.warmed.alike.symm.trans Xl.warmed.alike
      have hAl := hA0.keep all (pl.other hne hA0.1)
      have hBk := hB0.like all pl.1 fl.1 fl.2.1 fl.2.2.1
      have hlt : q + i < Bk.slots.size := by rw [fl.2.2.1]; omega
      have c3 : Steps p.tables e below (s₁.setTop (entryFrame m #[.ref b, .int (Int32.ofNat o), .ref d, .int (Int32.ofNat q), .int (Int32.ofNat len)] 7)) (Tl.setTop (mkF m 12 #[.val (.ref b), .val (.int (Int32.ofNat (o + i))), .val (.ref d), .val (.int (Int32.ofNat (q + i))), .val (.int (Int32.ofNat len)), .val (.int (Int32.ofNat i)), z] [.int (Int32.ofNat (o + i)), .ref b])) := cl.trans (by
        refine XS.iload Xl.here hexec rfl (hb hbytes d3) rfl ?_
        refine XS.iload Xl.here hexec rfl (hb hbytes d5) rfl ?_
        refine XS.icmpNo Xl.here hexec rfl (hb hbytes d7) rfl (ii_ge_f (lt32 (by omega) (by omega))) ?_
        refine XS.aloadN Xl.here hexec rfl (hb hbytes d10) rfl rfl ?_
        refine XS.iloadN Xl.here hexec rfl (hb hbytes d11) rfl ?_
        exact Steps.refl _)
      have c4 : Steps p.tables e below (s₁.setTop (entryFrame m #[.ref b, .int (Int32.ofNat o), .ref d, .int (Int32.ofNat q), .int (Int32.ofNat len)] 7)) (Tl.setTop (mkF m 13 #[.val (.ref b), .val (.int (Int32.ofNat (o + i))), .val (.ref d), .val (.int (Int32.ofNat (q + i))), .val (.int (Int32.ofNat len)), .val (.int (Int32.ofNat i)), z] [.int (cv A (o + i))])) := c3.trans (by
        refine Xl.aget hexec hAl rfl (hA.get (i := o + i) (by omega)) rfl rfl (hb hbytes d12) ?_
        exact Steps.refl _)
      have c5 : Steps p.tables e below (s₁.setTop (entryFrame m #[.ref b, .int (Int32.ofNat o), .ref d, .int (Int32.ofNat q), .int (Int32.ofNat len)] 7)) (Tl.setTop (mkF m 15 #[.val (.ref b), .val (.int (Int32.ofNat (o + i))), .val (.ref d), .val (.int (Int32.ofNat (q + i))), .val (.int (Int32.ofNat len)), .val (.int (Int32.ofNat i)), .val (.int (cv A (o + i)))] [])) := c4.trans (by
        refine XS.istoreS Xl.here hexec rfl (hb hbytes d13) rfl rfl hz ?_
        exact Steps.refl _)
      have c6 : Steps p.tables e below (s₁.setTop (entryFrame m #[.ref b, .int (Int32.ofNat o), .ref d, .int (Int32.ofNat q), .int (Int32.ofNat len)] 7)) (Tl.setTop (mkF m 31 #[.val (.ref b), .val (.int (Int32.ofNat (o + i))), .val (.ref d), .val (.int (Int32.ofNat (q + i))), .val (.int (Int32.ofNat len)), .val (.int (Int32.ofNat i)), .val (.int (cv A (o + i)))] [.int (lo8 (cv A (o + i))), .int (Int32.ofNat (q + i)), .ref d])) := c5.trans (by
        refine XS.iload Xl.here hexec rfl (hb hbytes d15) rfl ?_
        refine sipushV Xl.here hexec rfl 255 (hb hbytes d17) (by decide) ?_
        refine XS.icmpYes Xl.here hexec rfl (pc0 := 20) rfl (hb hbytes d20) rfl (ii_le_t (hp i (by omega))) (by decide) rfl ?_
        refine XS.aloadN Xl.here hexec rfl (hb hbytes d26) rfl rfl ?_
        refine XS.iloadN Xl.here hexec rfl (hb hbytes d27) rfl ?_
        refine XS.iload Xl.here hexec rfl (hb hbytes d28) rfl ?_
        refine i2b Xl.here hexec rfl (hb hbytes d30) rfl ?_
        exact Steps.refl _)
      obtain ⟨T7, X7, p7, st7⟩ := Xl.aput hexec hBk rfl hlt rfl (fits_lo8 (cv A (o + i))) (g := (mkF m 31 #[.val (.ref b), .val (.int (Int32.ofNat (o + i))), .val (.ref d), .val (.int (Int32.ofNat (q + i))), .val (.int (Int32.ofNat len)), .val (.int (Int32.ofNat i)), .val (.int (cv A (o + i)))] [.int (lo8 (cv A (o + i))), .int (Int32.ofNat (q + i)), .ref d])) rfl (rest := []) rfl (hb hbytes d31)
      have c8 : Steps p.tables e below (s₁.setTop (entryFrame m #[.ref b, .int (Int32.ofNat o), .ref d, .int (Int32.ofNat q), .int (Int32.ofNat len)] 7)) (T7.setTop (mkF m 32 #[.val (.ref b), .val (.int (Int32.ofNat (o + i))), .val (.ref d), .val (.int (Int32.ofNat (q + i))), .val (.int (Int32.ofNat len)), .val (.int (Int32.ofNat i)), .val (.int (cv A (o + i)))] [])) := c6.trans (st7 _ (Steps.refl _))
      have c9 : Steps p.tables e below (s₁.setTop (entryFrame m #[.ref b, .int (Int32.ofNat o), .ref d, .int (Int32.ofNat q), .int (Int32.ofNat len)] 7)) (T7.setTop (mkF m 3 #[.val (.ref b), .val (.int (Int32.ofNat (o + i) + 1)), .val (.ref d), .val (.int (Int32.ofNat (q + i) + 1)), .val (.int (Int32.ofNat len)), .val (.int (Int32.ofNat i + 1)), .val (.int (cv A (o + i)))] [])) := c8.trans (by
        refine iincV X7.here hexec rfl 1 (hb hbytes d32) (by decide) rfl rfl ?_
        refine iincV X7.here hexec rfl 1 (hb hbytes d35) (by decide) rfl rfl ?_
        refine iincV X7.here hexec rfl 1 (hb hbytes d38) (by decide) rfl rfl ?_
        refine XS.goto X7.here hexec rfl (pc0 := 41) rfl (hb hbytes d41) (by decide) rfl ?_
        exact Steps.refl _)
      have c10 : Steps p.tables e below (s₁.setTop (entryFrame m #[.ref b, .int (Int32.ofNat o), .ref d, .int (Int32.ofNat q), .int (Int32.ofNat len)] 7)) (T7.setTop (mkF m 3 #[.val (.ref b), .val (.int (Int32.ofNat (o + (i + 1)))), .val (.ref d), .val (.int (Int32.ofNat (q + (i + 1)))), .val (.int (Int32.ofNat len)), .val (.int (Int32.ofNat (i + 1))), .val (.int (cv A (o + i)))] [])) := by
        have := c9
        rw [succ32, succ32, succ32] at this
        exact this
      exact ih (i + 1) (by omega) _ (Or.inr ⟨_, rfl, rfl⟩) T7 _ (by rw [copyLocs_step, ← List.append_assoc]; exact X7) (pl.trans p7) (fl.step (by omega) hlt (by simp)) c10
  obtain ⟨T9, B9, z9, X9, p9, f9, g9⟩ := loop len 0 (by omega) .unset (Or.inl rfl) s₁ B (by simpa [copyLocs] using X0) ⟨hB0.1, fun _ _ => rfl, rfl⟩ (Laid.zero _ _ _) c2
  have c11 : Steps p.tables e below (s₁.setTop (entryFrame m #[.ref b, .int (Int32.ofNat o), .ref d, .int (Int32.ofNat q), .int (Int32.ofNat len)] 7)) (T9.setTop (mkF m 46 #[.val (.ref b), .val (.int (Int32.ofNat (o + len))), .val (.ref d), .val (.int (Int32.ofNat (q + len))), .val (.int (Int32.ofNat len)), .val (.int (Int32.ofNat len)), z9] [.int (Int32.ofNat len)])) := g9.trans (by
    refine XS.iload X9.here hexec rfl (hb hbytes d3) rfl ?_
    refine XS.iload X9.here hexec rfl (hb hbytes d5) rfl ?_
    refine XS.icmpYes X9.here hexec rfl (pc0 := 7) rfl (hb hbytes d7) rfl (ii_ge_t (nlt32 (by omega) (Nat.le_refl _))) (by decide) rfl ?_
    refine XS.iload X9.here hexec rfl (hb hbytes d44) rfl ?_
    exact Steps.refl _)
  exact ⟨T9, some (.int (Int32.ofNat len)), _, _, _, X9, by simp, rfl, rfl, (fun h => by cases h), ⟨rfl, B9, p9.from hh0, f9⟩, fun fs hl => c11.trans (X9.ireturnOut hexec hret rfl (Or.inl rfl) (hb hbytes d46) hl)⟩
end Cmp5
namespace Cmp3
def yN : MethodName := ⟨"java/lang/StringUTF16", "compress", "([CII)[B"⟩
abbrev yB : ByteArray := jdk_52_method_16_code
theorem d0 : decode yB 0 = .ok (.iload_n 2, 1) := by decide +kernel
theorem d1 : decode yB 1 = .ok (.newarray .byte, 2) := by decide +kernel
theorem d3 : decode yB 3 = .ok (.astore_n 3, 1) := by decide +kernel
theorem d4 : decode yB 4 = .ok (.aload_n 0, 1) := by decide +kernel
theorem d5 : decode yB 5 = .ok (.iload_n 1, 1) := by decide +kernel
theorem d6 : decode yB 6 = .ok (.aload_n 3, 1) := by decide +kernel
theorem d7 : decode yB 7 = .ok (.iconst 0, 1) := by decide +kernel
theorem d8 : decode yB 8 = .ok (.iload_n 2, 1) := by decide +kernel
theorem d9 : decode yB 9 = .ok (.invokestatic 115, 3) := by decide +kernel
theorem d12 : decode yB 12 = .ok (.istore 4, 2) := by decide +kernel
theorem d14 : decode yB 14 = .ok (.iload 4, 2) := by decide +kernel
theorem d16 : decode yB 16 = .ok (.iload_n 2, 1) := by decide +kernel
theorem d17 : decode yB 17 = .ok (.if_icmp (.eq) 40, 3) := by decide +kernel
theorem d57 : decode yB 57 = .ok (.aload_n 3, 1) := by decide +kernel
theorem d58 : decode yB 58 = .ok (.areturn, 1) := by decide +kernel
def site : List Cond := [.arrayClass .byte, Cmp5.tab] ++ staticW U16 115 Cmp5.yN
def tab : Cond := tabOf yN yB 6 (some (.array .byte)) site
def P (b : Addr) (A : Cell) (o len : Nat) (args : Array Value) (s : State) : Prop := args = #[.ref b, .int (Int32.ofNat o), .int (Int32.ofNat len)] ∧ Ch b A s ∧ o + len ≤ A.slots.size ∧ len ≤ 536870912 ∧ ∀ i, i < len → ¬ 255 < cv A (o + i)
def E (b : Addr) (A : Cell) (o len : Nat) (r : Option Value) (s u : State) : Prop := NewArr .byte "[B" len (fun j => .int (lo8 (cv A (o + j)))) r s u ∧ u.heap.size = s.heap.size + 1
/-- no char of the range above 255: a new byte[] of their low bytes -/
theorem law (l : Launch) (b : Addr) (A : Cell) (o len : Nat) : Law l yN 3 3 1 18 yB 6 (some (.array .byte)) site (P b A o len) (E b A o len) [] 1 len := by
  refine Law.of_walk (plainFor_of_name (by decide +kernel)) (by decide +kernel) (by decide +kernel) (by decide) (fun _ _ h => by rw [h.1]; rfl) (fun _ U U' hal hh h => ⟨h.1, h.2.1.mv hal hh, h.2.2⟩) (fun r U U' V V' h1 hal h2 h => ⟨NewArr.mv r U U' V V' h1 hal h2 h.1, by rw [h1, h2]; exact h.2⟩) ?_
  intro p e s m args below meth c s₁ X0 hexec hbytes hml hret hlk hnm hown hh0 W hP
  obtain ⟨rfl, hA, l1, l2, hp⟩ := hP
  have a31 := hA.1.2.2.2
  have c1 : Steps p.tables e below (s₁.setTop (entryFrame m #[.ref b, .int (Int32.ofNat o), .int (Int32.ofNat len)] 6)) (s₁.setTop (mkF m 0 #[.val (.ref b), .val (.int (Int32.ofNat o)), .val (.int (Int32.ofNat len)), .unset, .unset, .unset] [])) := entry rfl
  have c2 : Steps p.tables e below (s₁.setTop (entryFrame m #[.ref b, .int (Int32.ofNat o), .int (Int32.ofNat len)] 6)) (s₁.setTop (mkF m 1 #[.val (.ref b), .val (.int (Int32.ofNat o)), .val (.int (Int32.ofNat len)), .unset, .unset, .unset] [.int (Int32.ofNat len)])) := c1.trans (by
    refine XS.iloadN X0.here hexec rfl (hb hbytes d0) rfl ?_
    exact Steps.refl _)
  obtain ⟨T3, B3, X3, ba3, bs3, bv3, bh3, bf3, st3⟩ := X0.anew hexec (atype := .byte) (wk W (.arrayClass .byte)) rfl (by show len * 1 ≤ _; omega) (by omega) (g := (mkF m 1 #[.val (.ref b), .val (.int (Int32.ofNat o)), .val (.int (Int32.ofNat len)), .unset, .unset, .unset] [.int (Int32.ofNat len)])) rfl (hb hbytes d1) (rest := []) rfl (Nat.le_refl _) (by show 0 + len ≤ len; omega)
  rw [hh0] at ba3 st3
  have kp3 : XT.Kept s T3 := (XT.Kept.of_eq hh0).push bh3
  have hA3 := hA.keep X3.warmed.alike (kp3 _ _ hA.1.1)
  have hne : b ≠ s.heap.size := hA.1.ne
  have c4 : Steps p.tables e below (s₁.setTop (entryFrame m #[.ref b, .int (Int32.ofNat o), .int (Int32.ofNat len)] 6)) (T3.setTop (mkF m 3 #[.val (.ref b), .val (.int (Int32.ofNat o)), .val (.int (Int32.ofNat len)), .unset, .unset, .unset] [.ref s.heap.size])) := c2.trans (st3 _ (Steps.refl _))
  have c5 : Steps p.tables e below (s₁.setTop (entryFrame m #[.ref b, .int (Int32.ofNat o), .int (Int32.ofNat len)] 6)) (T3.setTop (mkF m 9 #[.val (.ref b), .val (.int (Int32.ofNat o)), .val (.int (Int32.ofNat len)), .val (.ref s.heap.size), .unset, .unset] [.int (Int32.ofNat len), .int 0, .ref s.heap.size, .int (Int32.ofNat o), .ref b])) := c4.trans (by
    refine XS.astoreN X3.here hexec rfl (hb hbytes d3) rfl rfl rfl ?_
    refine XS.aloadN X3.here hexec rfl (hb hbytes d4) rfl rfl ?_
    refine XS.iloadN X3.here hexec rfl (hb hbytes d5) rfl ?_
    refine XS.aloadN X3.here hexec rfl (hb hbytes d6) rfl rfl ?_
    refine iconstV X3.here hexec rfl 0 (hb hbytes d7) (by decide) ?_
    refine XS.iloadN X3.here hexec rfl (hb hbytes d8) rfl ?_
    exact Steps.refl _)
  obtain ⟨v6, T6, X6, E6, g6⟩ := X3.callS hexec (Cmp5.law l b A s.heap.size B3 o 0 len) hown (wks W (staticW U16 115 Cmp5.yN)) (wk W Cmp5.tab) (W := 0) (Nat.le_of_ble_eq_true rfl) (Nat.le_of_ble_eq_true rfl) (Nat.le_refl _) (by show 0 + len + 0 ≤ len; omega) (g := (mkF m 9 #[.val (.ref b), .val (.int (Int32.ofNat o)), .val (.int (Int32.ofNat len)), .val (.ref s.heap.size), .unset, .unset] [.int (Int32.ofNat len), .int (Int32.ofNat 0), .ref s.heap.size, .int (Int32.ofNat o), .ref b])) rfl (by rw [hml]; rfl) c5 (argsL := [.ref b, .int (Int32.ofNat o), .ref s.heap.size, .int (Int32.ofNat 0), .int (Int32.ofNat len)]) (rest := []) rfl rfl (by show 2 * 0 + 0 ≤ _; decide) (hb hbytes d9) (⟨rfl, hA3, ba3, hne, l1, by rw [bs3]; simp, hp⟩)
  obtain ⟨rfl, B6, p6, f6⟩ := E6
  have c7 : Steps p.tables e below (s₁.setTop (entryFrame m #[.ref b, .int (Int32.ofNat o), .int (Int32.ofNat len)] 6)) (T6.setTop (mkF m 12 #[.val (.ref b), .val (.int (Int32.ofNat o)), .val (.int (Int32.ofNat len)), .val (.ref s.heap.size), .unset, .unset] [.int (Int32.ofNat len)])) := g6
  have c8 : Steps p.tables e below (s₁.setTop (entryFrame m #[.ref b, .int (Int32.ofNat o), .int (Int32.ofNat len)] 6)) (T6.setTop (mkF m 58 #[.val (.ref b), .val (.int (Int32.ofNat o)), .val (.int (Int32.ofNat len)), .val (.ref s.heap.size), .val (.int (Int32.ofNat len)), .unset] [.ref s.heap.size])) := c7.trans (by
    refine XS.istore X6.here hexec rfl (hb hbytes d12) rfl rfl ?_
    refine XS.iload X6.here hexec rfl (hb hbytes d14) rfl ?_
    refine XS.iloadN X6.here hexec rfl (hb hbytes d16) rfl ?_
    refine XS.icmpYes X6.here hexec rfl (pc0 := 17) rfl (hb hbytes d17) rfl (ii_eq_t rfl) (by decide) rfl ?_
    refine XS.aloadN X6.here hexec rfl (hb hbytes d57) rfl rfl ?_
    exact Steps.refl _)
  have X8 := X6.wide (L' := []) (cells' := 1) (slots' := len) (fun x hx hlt => by
    simp only [List.nil_append, copyLocs, List.mem_map, List.mem_range] at hx
    obtain ⟨i, -, rfl⟩ := hx
    exact absurd hlt (Nat.lt_irrefl _)) (Nat.le_refl _) (by omega)
  exact ⟨T6, some (.ref s.heap.size), _, _, _, X8, rfl, rfl, rfl, (fun h => by cases h), ⟨⟨rfl, B6, ba3.like (X3.warmed.alike.symm.trans X6.warmed.alike) p6.1 f6.1 f6.2.1 f6.2.2.1, f6.2.1.trans bv3, by rw [X6.warmed.alike.findClass, f6.1]; exact bf3, by rw [f6.2.2.1, bs3]; simp, fun j hj => by rw [f6.2.2.2 j, if_pos (by omega)]; rfl, kp3.put p6 (Nat.le_refl _)⟩, by rw [p6.2.2, bh3, hh0]; simp⟩, fun fs hl => c8.trans (X8.areturnOut hexec rfl hret rfl (hb hbytes d58) hl)⟩
end Cmp3
namespace CodL
def yN : MethodName := ⟨"java/lang/StringUTF16", "coderFromArrayLen", "([BI)B"⟩
abbrev yB : ByteArray := jdk_52_method_15_code
theorem d0 : decode yB 0 = .ok (.iload_n 1, 1) := by decide +kernel
theorem d1 : decode yB 1 = .ok (.aload_n 0, 1) := by decide +kernel
theorem d2 : decode yB 2 = .ok (.arraylength, 1) := by decide +kernel
theorem d3 : decode yB 3 = .ok (.isub, 1) := by decide +kernel
theorem d4 : decode yB 4 = .ok (.bipush 31, 2) := by decide +kernel
theorem d6 : decode yB 6 = .ok (.iushr, 1) := by decide +kernel
theorem d7 : decode yB 7 = .ok (.i2b, 1) := by decide +kernel
theorem d8 : decode yB 8 = .ok (.ireturn, 1) := by decide +kernel
def site : List Cond := []
def tab : Cond := tabOf yN yB 2 (some .byte) site
def P (d : Addr) (B : Cell) (args : Array Value) (s : State) : Prop := args = #[.ref d, .int (Int32.ofNat B.slots.size)] ∧ Arr .byte d B s
def E (r : Option Value) (s u : State) : Prop := XT.PureE (some (.int 0)) r s u
/-- an array as long as the number of chars: LATIN1 -/
theorem law (l : Launch) (d : Addr) (B : Cell) : Law l yN 2 2 0 0 yB 2 (some .byte) site (P d B) E [] 0 0 := by
  refine Law.of_walk (plainFor_of_name (by decide +kernel)) (by decide +kernel) (by decide +kernel) (by decide) (fun _ _ h => by rw [h.1]; rfl) (fun _ U U' hal hh h => ⟨h.1, h.2.mv hal hh⟩) (fun r U U' V V' h1 hal h2 h => XT.PureE.mv r U U' V V' h1 hal h2 h) ?_
  intro p e s m args below meth c s₁ X0 hexec hbytes hml hret hlk hnm hown hh0 W hP
  obtain ⟨rfl, hB⟩ := hP
  have hB0 := hB.mv X0.warmed.alike hh0
  have c1 : Steps p.tables e below (s₁.setTop (entryFrame m #[.ref d, .int (Int32.ofNat B.slots.size)] 2)) (s₁.setTop (mkF m 0 #[.val (.ref d), .val (.int (Int32.ofNat B.slots.size))] [])) := entry rfl
  have c2 : Steps p.tables e below (s₁.setTop (entryFrame m #[.ref d, .int (Int32.ofNat B.slots.size)] 2)) (s₁.setTop (mkF m 2 #[.val (.ref d), .val (.int (Int32.ofNat B.slots.size))] [.ref d, .int (Int32.ofNat B.slots.size)])) := c1.trans (by
    refine XS.iloadN X0.here hexec rfl (hb hbytes d0) rfl ?_
    refine XS.aloadN X0.here hexec rfl (hb hbytes d1) rfl rfl ?_
    exact Steps.refl _)
  have c3 : Steps p.tables e below (s₁.setTop (entryFrame m #[.ref d, .int (Int32.ofNat B.slots.size)] 2)) (s₁.setTop (mkF m 8 #[.val (.ref d), .val (.int (Int32.ofNat B.slots.size))] [.int (lo8 (ushr (Int32.ofNat B.slots.size - Int32.ofNat B.slots.size) 31))])) := c2.trans (by
    refine X0.alen hexec hB0 rfl rfl (hb hbytes d2) ?_
    refine XS.isub X0.here hexec rfl (hb hbytes d3) rfl ?_
    refine bipushV X0.here hexec rfl 31 (hb hbytes d4) (by decide) ?_
    refine iushr X0.here hexec rfl (hb hbytes d6) rfl ?_
    refine i2b X0.here hexec rfl (hb hbytes d7) rfl ?_
    exact Steps.refl _)
  have e0 : lo8 (ushr (Int32.ofNat B.slots.size - Int32.ofNat B.slots.size) 31) = 0 := by rw [Int32.sub_self]; decide
  rw [e0] at c3
  exact ⟨s₁, some (.int 0), _, _, _, X0, rfl, rfl, rfl, (fun h => by cases h), ⟨rfl, hh0⟩, fun fs hl => c3.trans (X0.ireturnOut hexec hret rfl (Or.inr (Or.inr (Or.inl rfl))) (hb hbytes d8) hl)⟩
end CodL
/-- the String at a is Latin-1 over a new byte[] (the heap's one new cell): the low bytes of the len chars of A from o on; every cell but a is kept -/
def Got (a : Addr) (D : Cell) (fV fC : Field) (A : Cell) (o len : Nat) (r : Option Value) (s u : State) : Prop := r = none ∧ ∃ D' V : Cell, Blank "java/lang/String" a D' u ∧ Same D D' [fV.slot, fC.slot] ∧ D'.slots[fV.slot]? = some (.ref s.heap.size) ∧ D'.slots[fC.slot]? = some (.int 0) ∧ Arr .byte s.heap.size V u ∧ V.vm = .none ∧ u.vm.findClass "[B" = some V.cls ∧ V.slots.size = len ∧ (∀ j, j < len → V.slots[j]? = some (.int (lo8 (cv A (o + j))))) ∧ (∀ (y : Addr) (c : Cell), y ≠ a → s.heap[y]? = some c → u.heap[y]? = some c) ∧ u.heap.size = s.heap.size + 1
theorem Got.mv {a : Addr} {D A : Cell} {fV fC : Field} {o len : Nat} : ∀ r (U U' V V' : State), U'.heap = U.heap → V.vm.Alike V'.vm → V'.heap = V.heap → Got a D fV fC A o len r U V → Got a D fV fC A o len r U' V' :=
  fun r U U' V V' h1 hal h2 ⟨e0, D', X, a1, a2, a3, a4, a5, a6, a7, a8, a9, a10, a11⟩ => ⟨e0, D', X, a1.mv hal h2, a2, by rw [h1]; exact a3, a4, by rw [h1]; exact a5.mv hal h2, a6, by rw [hal.findClass]; exact a7, a8, a9, by rw [h1, h2]; exact a10, by rw [h1, h2]; exact a11⟩
namespace New4
def yN : MethodName := ⟨"java/lang/String", "<init>", "([CIILjava/lang/Void;)V"⟩
abbrev yB : ByteArray := jdk_42_method_149_code
theorem d0 : decode yB 0 = .ok (.aload_n 0, 1) := by decide +kernel
theorem d1 : decode yB 1 = .ok (.invokespecial 1, 3) := by decide +kernel
theorem d4 : decode yB 4 = .ok (.iload_n 3, 1) := by decide +kernel
theorem d5 : decode yB 5 = .ok (.ifCond (.ne) 22, 3) := by decide +kernel
theorem d27 : decode yB 27 = .ok (.getstatic 38, 3) := by decide +kernel
theorem d30 : decode yB 30 = .ok (.ifCond (.eq) 28, 3) := by decide +kernel
theorem d33 : decode yB 33 = .ok (.aload_n 1, 1) := by decide +kernel
theorem d34 : decode yB 34 = .ok (.iload_n 2, 1) := by decide +kernel
theorem d35 : decode yB 35 = .ok (.iload_n 3, 1) := by decide +kernel
theorem d36 : decode yB 36 = .ok (.invokestatic 177, 3) := by decide +kernel
theorem d39 : decode yB 39 = .ok (.astore 5, 2) := by decide +kernel
theorem d41 : decode yB 41 = .ok (.aload_n 0, 1) := by decide +kernel
theorem d42 : decode yB 42 = .ok (.aload 5, 2) := by decide +kernel
theorem d44 : decode yB 44 = .ok (.iload_n 3, 1) := by decide +kernel
theorem d45 : decode yB 45 = .ok (.invokestatic 47, 3) := by decide +kernel
theorem d48 : decode yB 48 = .ok (.putfield 15, 3) := by decide +kernel
theorem d51 : decode yB 51 = .ok (.aload_n 0, 1) := by decide +kernel
theorem d52 : decode yB 52 = .ok (.aload 5, 2) := by decide +kernel
theorem d54 : decode yB 54 = .ok (.putfield 9, 3) := by decide +kernel
theorem d57 : decode yB 57 = .ok (.return_, 1) := by decide +kernel
def site : List Cond := [.fieldLink "java/lang/String" 38 "java/lang/String" "COMPACT_STRINGS" "Z", Cmp3.tab, CodL.tab, .laysFinal "java/lang/String" "java/lang/String" "value" "[B", .fieldLink "java/lang/String" 9 "java/lang/String" "value" "[B", .laysFinal "java/lang/String" "java/lang/String" "coder" "B", .fieldLink "java/lang/String" 15 "java/lang/String" "coder" "B"] ++ objW "java/lang/String" 1 ++ staticW "java/lang/String" 177 Cmp3.yN ++ staticW "java/lang/String" 47 CodL.yN
def tab : Cond := tabOf yN yB 6 none site
def P (a : Addr) (D : Cell) (fV fC : Field) (b : Addr) (A : Cell) (z : Int32) (o len : Nat) (args : Array Value) (s : State) : Prop := args = #[.ref a, .ref b, .int (Int32.ofNat o), .int (Int32.ofNat len), .null] ∧ Blank "java/lang/String" a D s ∧ Found "java/lang/String" "value" "[B" fV s ∧ Found "java/lang/String" "coder" "B" fC s ∧ Ch b A s ∧ StaticIs s "java/lang/String" "COMPACT_STRINGS" "Z" (.int z) ∧ ¬ z = 0 ∧ 0 < len ∧ o + len ≤ A.slots.size ∧ len ≤ 536870912 ∧ ∀ i, i < len → ¬ 255 < cv A (o + i)
def E (a : Addr) (D : Cell) (fV fC : Field) (A : Cell) (o len : Nat) (r : Option Value) (s u : State) : Prop := Got a D fV fC A o len r s u
/-- len > 0, no char of the range above 255: a Latin-1 String of their low bytes -/
theorem law (l : Launch) (a : Addr) (D : Cell) (fV fC : Field) (b : Addr) (A : Cell) (z : Int32) (o len : Nat) : Law l yN 5 4 2 35 yB 6 none site (P a D fV fC b A z o len) (E a D fV fC A o len) [⟨a, fC.slot⟩, ⟨a, fV.slot⟩] 1 len := by
  refine Law.of_walk (plainFor_of_name (by decide +kernel)) (by decide +kernel) (by decide +kernel) (by decide) (fun _ _ h => by rw [h.1]; rfl) (fun _ U U' hal hh h => ⟨h.1, h.2.1.mv hal hh, h.2.2.1.al hal, h.2.2.2.1.al hal, h.2.2.2.2.1.mv hal hh, h.2.2.2.2.2.1.there hal hh, h.2.2.2.2.2.2⟩) (fun r U U' V V' h1 hal h2 h => Got.mv r U U' V V' h1 hal h2 h) ?_
  intro p e s m args below meth c s₁ X0 hexec hbytes hml hret hlk hnm hown hh0 W hP
  obtain ⟨rfl, hB, f1, f2, hA, s1, hz, l0, l1, l2, hp⟩ := hP
  have a31 := hA.1.2.2.2
  have c1 : Steps p.tables e below (s₁.setTop (entryFrame m #[.ref a, .ref b, .int (Int32.ofNat o), .int (Int32.ofNat len), .null] 6)) (s₁.setTop (mkF m 0 #[.val (.ref a), .val (.ref b), .val (.int (Int32.ofNat o)), .val (.int (Int32.ofNat len)), .val .null, .unset] [])) := entry rfl
  have c2 : Steps p.tables e below (s₁.setTop (entryFrame m #[.ref a, .ref b, .int (Int32.ofNat o), .int (Int32.ofNat len), .null] 6)) (s₁.setTop (mkF m 1 #[.val (.ref a), .val (.ref b), .val (.int (Int32.ofNat o)), .val (.int (Int32.ofNat len)), .val .null, .unset] [.ref a])) := c1.trans (by
    refine XS.aloadN X0.here hexec rfl (hb hbytes d0) rfl rfl ?_
    exact Steps.refl _)
  obtain ⟨T3, X3, q3, st3⟩ := X0.oinit hexec hown (wks W (objW "java/lang/String" 1)) (g := (mkF m 1 #[.val (.ref a), .val (.ref b), .val (.int (Int32.ofNat o)), .val (.int (Int32.ofNat len)), .val .null, .unset] [.ref a])) rfl (by rw [hml]; rfl) (rest := []) rfl (hb hbytes d1) (W := 0) (by show 2 * 0 + 0 ≤ _; decide) (Nat.le_of_ble_eq_true rfl) (Nat.le_of_ble_eq_true rfl)
  have hh3 := q3.trans hh0
  have c4 : Steps p.tables e below (s₁.setTop (entryFrame m #[.ref a, .ref b, .int (Int32.ofNat o), .int (Int32.ofNat len), .null] 6)) (T3.setTop (mkF m 27 #[.val (.ref a), .val (.ref b), .val (.int (Int32.ofNat o)), .val (.int (Int32.ofNat len)), .val .null, .unset] [])) := (c2.trans (st3 _ (Steps.refl _))).trans (by
    refine XS.iloadN X3.here hexec rfl (hb hbytes d4) rfl ?_
    refine XS.ifYes X3.here hexec rfl (pc0 := 5) rfl (hb hbytes d5) rfl (i0_ne_t (nz32 (by omega) l0)) (by decide) rfl ?_
    exact Steps.refl _)
  obtain ⟨T5, X5, q5, st5⟩ := X3.sget hexec hown (wk W (.fieldLink "java/lang/String" 38 "java/lang/String" "COMPACT_STRINGS" "Z")) s1 (fun _ _ h => by rw [hh3]; exact h) (g := (mkF m 27 #[.val (.ref a), .val (.ref b), .val (.int (Int32.ofNat o)), .val (.int (Int32.ofNat len)), .val .null, .unset] [])) rfl (hb hbytes d27)
  have hh5 := q5.trans hh3
  have c6 : Steps p.tables e below (s₁.setTop (entryFrame m #[.ref a, .ref b, .int (Int32.ofNat o), .int (Int32.ofNat len), .null] 6)) (T5.setTop (mkF m 30 #[.val (.ref a), .val (.ref b), .val (.int (Int32.ofNat o)), .val (.int (Int32.ofNat len)), .val .null, .unset] [.int z])) := c4.trans (st5 _ (Steps.refl _))
  have c7 : Steps p.tables e below (s₁.setTop (entryFrame m #[.ref a, .ref b, .int (Int32.ofNat o), .int (Int32.ofNat len), .null] 6)) (T5.setTop (mkF m 36 #[.val (.ref a), .val (.ref b), .val (.int (Int32.ofNat o)), .val (.int (Int32.ofNat len)), .val .null, .unset] [.int (Int32.ofNat len), .int (Int32.ofNat o), .ref b])) := c6.trans (by
    refine XS.ifNo X5.here hexec rfl (hb hbytes d30) rfl (i0_eq_f hz) ?_
    refine XS.aloadN X5.here hexec rfl (hb hbytes d33) rfl rfl ?_
    refine XS.iloadN X5.here hexec rfl (hb hbytes d34) rfl ?_
    refine XS.iloadN X5.here hexec rfl (hb hbytes d35) rfl ?_
    exact Steps.refl _)
  obtain ⟨v8, T8, X8, E8, g8⟩ := X5.callS hexec (Cmp3.law l b A o len) hown (wks W (staticW "java/lang/String" 177 Cmp3.yN)) (wk W Cmp3.tab) (W := 0) (Nat.le_of_ble_eq_true rfl) (Nat.le_of_ble_eq_true rfl) (Nat.le_refl _) (by show 0 + len ≤ len; omega) (g := (mkF m 36 #[.val (.ref a), .val (.ref b), .val (.int (Int32.ofNat o)), .val (.int (Int32.ofNat len)), .val .null, .unset] [.int (Int32.ofNat len), .int (Int32.ofNat o), .ref b])) rfl (by rw [hml]; rfl) c7 (argsL := [.ref b, .int (Int32.ofNat o), .int (Int32.ofNat len)]) (rest := []) rfl rfl (by show 2 * 0 + 0 ≤ _; decide) (hb hbytes d36) (⟨rfl, hA.mv X5.warmed.alike hh5, l1, l2, hp⟩)
  obtain ⟨e8, z8⟩ := E8
  obtain ⟨rfl, N, n1, n2, n3, n4, n5, n6⟩ := NewArr.mv _ T5 s _ _ hh5.symm (Vm.Alike.refl _) rfl e8
  rw [hh5] at z8
  have hB1 := hB.keep X8.warmed.alike (n6 _ _ hB.1)
  have hne : s.heap.size ≠ a := (Nat.ne_of_lt (Array.getElem?_eq_some_iff.mp hB.1).1).symm
  have c9 : Steps p.tables e below (s₁.setTop (entryFrame m #[.ref a, .ref b, .int (Int32.ofNat o), .int (Int32.ofNat len), .null] 6)) (T8.setTop (mkF m 39 #[.val (.ref a), .val (.ref b), .val (.int (Int32.ofNat o)), .val (.int (Int32.ofNat len)), .val .null, .unset] [.ref s.heap.size])) := g8
  have c10 : Steps p.tables e below (s₁.setTop (entryFrame m #[.ref a, .ref b, .int (Int32.ofNat o), .int (Int32.ofNat len), .null] 6)) (T8.setTop (mkF m 45 #[.val (.ref a), .val (.ref b), .val (.int (Int32.ofNat o)), .val (.int (Int32.ofNat len)), .val .null, .val (.ref s.heap.size)] [.int (Int32.ofNat N.slots.size), .ref s.heap.size, .ref a])) := by
    have hc : Steps p.tables e below (s₁.setTop (entryFrame m #[.ref a, .ref b, .int (Int32.ofNat o), .int (Int32.ofNat len), .null] 6)) (T8.setTop (mkF m 45 #[.val (.ref a), .val (.ref b), .val (.int (Int32.ofNat o)), .val (.int (Int32.ofNat len)), .val .null, .val (.ref s.heap.size)] [.int (Int32.ofNat len), .ref s.heap.size, .ref a])) := c9.trans (by
      refine XS.astore X8.here hexec rfl (hb hbytes d39) rfl rfl rfl ?_
      refine XS.aloadN X8.here hexec rfl (hb hbytes d41) rfl rfl ?_
      refine XS.aload X8.here hexec rfl (hb hbytes d42) rfl rfl ?_
      refine XS.iloadN X8.here hexec rfl (hb hbytes d44) rfl ?_
      exact Steps.refl _)
    rw [n4]; exact hc
  obtain ⟨v11, T11, X11, E11, g11⟩ := X8.callS hexec (CodL.law l s.heap.size N) hown (wks W (staticW "java/lang/String" 47 CodL.yN)) (wk W CodL.tab) (W := 1) (Nat.le_of_ble_eq_true rfl) (Nat.le_of_ble_eq_true rfl) (Nat.le_refl _) (by show 0 + len + 0 ≤ len; omega) (g := (mkF m 45 #[.val (.ref a), .val (.ref b), .val (.int (Int32.ofNat o)), .val (.int (Int32.ofNat len)), .val .null, .val (.ref s.heap.size)] [.int (Int32.ofNat N.slots.size), .ref s.heap.size, .ref a])) rfl (by rw [hml]; rfl) c10 (argsL := [.ref s.heap.size, .int (Int32.ofNat N.slots.size)]) (rest := [.ref a]) rfl rfl (by show 2 * 0 + (1 + 0) ≤ _; decide) (hb hbytes d45) (⟨rfl, n1⟩)
  obtain ⟨rfl, q11⟩ := E11
  have hB11 := hB1.mv (X8.warmed.alike.symm.trans X11.warmed.alike) q11
  have c12 : Steps p.tables e below (s₁.setTop (entryFrame m #[.ref a, .ref b, .int (Int32.ofNat o), .int (Int32.ofNat len), .null] 6)) (T11.setTop (mkF m 48 #[.val (.ref a), .val (.ref b), .val (.int (Int32.ofNat o)), .val (.int (Int32.ofNat len)), .val .null, .val (.ref s.heap.size)] [.int 0, .ref a])) := g11
  obtain ⟨T13, X13, p13, bl13, sl13, st13⟩ := X11.finit hexec hown (wk W (.fieldLink "java/lang/String" 15 "java/lang/String" "coder" "B")) (Or.inr ⟨_, (wk W (.laysFinal "java/lang/String" "java/lang/String" "coder" "B"))⟩) (Or.inl ⟨rfl, hnm⟩) f2 (Or.inl rfl) hB11 (t := .byte) (by decide +kernel) rfl (g := (mkF m 48 #[.val (.ref a), .val (.ref b), .val (.int (Int32.ofNat o)), .val (.int (Int32.ofNat len)), .val .null, .val (.ref s.heap.size)] [.int 0, .ref a])) rfl (rest := []) rfl (hb hbytes d48)
  have c14 : Steps p.tables e below (s₁.setTop (entryFrame m #[.ref a, .ref b, .int (Int32.ofNat o), .int (Int32.ofNat len), .null] 6)) (T13.setTop (mkF m 54 #[.val (.ref a), .val (.ref b), .val (.int (Int32.ofNat o)), .val (.int (Int32.ofNat len)), .val .null, .val (.ref s.heap.size)] [.ref s.heap.size, .ref a])) := (c12.trans (st13 _ (Steps.refl _))).trans (by
    refine XS.aloadN X13.here hexec rfl (hb hbytes d51) rfl rfl ?_
    refine XS.aload X13.here hexec rfl (hb hbytes d52) rfl rfl ?_
    exact Steps.refl _)
  obtain ⟨T15, X15, p15, bl15, sl15, st15⟩ := X13.finit hexec hown (wk W (.fieldLink "java/lang/String" 9 "java/lang/String" "value" "[B")) (Or.inr ⟨_, (wk W (.laysFinal "java/lang/String" "java/lang/String" "value" "[B"))⟩) (Or.inl ⟨rfl, hnm⟩) f1 (Or.inl rfl) bl13 (t := (.array .byte)) (by decide +kernel) rfl (g := (mkF m 54 #[.val (.ref a), .val (.ref b), .val (.int (Int32.ofNat o)), .val (.int (Int32.ofNat len)), .val .null, .val (.ref s.heap.size)] [.ref s.heap.size, .ref a])) rfl (rest := []) rfl (hb hbytes d54)
  have c16 : Steps p.tables e below (s₁.setTop (entryFrame m #[.ref a, .ref b, .int (Int32.ofNat o), .int (Int32.ofNat len), .null] 6)) (T15.setTop (mkF m 57 #[.val (.ref a), .val (.ref b), .val (.int (Int32.ofNat o)), .val (.int (Int32.ofNat len)), .val .null, .val (.ref s.heap.size)] [])) := c14.trans (st15 _ (Steps.refl _))
  have ap := apart (Or.inr ⟨_, (wk W (.laysFinal "java/lang/String" "java/lang/String" "value" "[B"))⟩) (Or.inr ⟨_, (wk W (.laysFinal "java/lang/String" "java/lang/String" "coder" "B"))⟩) f1 f2 (t₁ := .array .byte) (t₂ := .byte) (by decide +kernel) (by decide +kernel) (by decide)
  have al := X8.warmed.alike.symm.trans X15.warmed.alike
  have n7 : T11.heap[s.heap.size]? = some N := by rw [q11]; exact n1.1
  exact ⟨T15, none, _, _, _, X15, by simp, rfl, by omega, (fun _ => rfl), ⟨rfl, _, N, bl15, ((Same.refl D _).set _ (by simp)).set _ (by simp), sl15, (Cell.slots_setSlot_ne _ ap).trans sl13, n1.keep al (p15.other hne (p13.other hne n7)), n2, by rw [al.findClass]; exact n3, n4, n5, fun y c h1 h2 => p15.other h1 (p13.other h1 (by rw [q11]; exact n6 y c h2)), by rw [p15.2.2, p13.2.2, q11]; exact z8⟩, fun fs hl => c16.trans (X15.returnOut hexec hret (hb hbytes d57) hl)⟩
end New4
namespace New1
def yN : MethodName := ⟨"java/lang/String", "<init>", "([C)V"⟩
abbrev yB : ByteArray := jdk_42_method_3_code
theorem d0 : decode yB 0 = .ok (.aload_n 0, 1) := by decide +kernel
theorem d1 : decode yB 1 = .ok (.aload_n 1, 1) := by decide +kernel
theorem d2 : decode yB 2 = .ok (.iconst 0, 1) := by decide +kernel
theorem d3 : decode yB 3 = .ok (.aload_n 1, 1) := by decide +kernel
theorem d4 : decode yB 4 = .ok (.arraylength, 1) := by decide +kernel
theorem d5 : decode yB 5 = .ok (.aconst_null, 1) := by decide +kernel
theorem d6 : decode yB 6 = .ok (.invokespecial 27, 3) := by decide +kernel
theorem d9 : decode yB 9 = .ok (.return_, 1) := by decide +kernel
def site : List Cond := [New4.tab] ++ initW "java/lang/String" 27 New4.yN
def tab : Cond := tabOf yN yB 2 none site
def P (a : Addr) (D : Cell) (fV fC : Field) (b : Addr) (A : Cell) (z : Int32) (args : Array Value) (s : State) : Prop := args = #[.ref a, .ref b] ∧ Blank "java/lang/String" a D s ∧ Found "java/lang/String" "value" "[B" fV s ∧ Found "java/lang/String" "coder" "B" fC s ∧ Ch b A s ∧ StaticIs s "java/lang/String" "COMPACT_STRINGS" "Z" (.int z) ∧ ¬ z = 0 ∧ 0 < A.slots.size ∧ A.slots.size ≤ 536870912 ∧ ∀ i, i < A.slots.size → ¬ 255 < cv A i
def E (a : Addr) (D : Cell) (fV fC : Field) (A : Cell) (r : Option Value) (s u : State) : Prop := Got a D fV fC A 0 A.slots.size r s u
/-- new String(chars), not empty, no char above 255: a Latin-1 String of their low bytes -/
theorem law (l : Launch) (a : Addr) (D : Cell) (fV fC : Field) (b : Addr) (A : Cell) (z : Int32) : Law l yN 2 1 3 52 yB 2 none site (P a D fV fC b A z) (E a D fV fC A) [⟨a, fC.slot⟩, ⟨a, fV.slot⟩] 1 A.slots.size := by
  refine Law.of_walk (plainFor_of_name (by decide +kernel)) (by decide +kernel) (by decide +kernel) (by decide) (fun _ _ h => by rw [h.1]; rfl) (fun _ U U' hal hh h => ⟨h.1, h.2.1.mv hal hh, h.2.2.1.al hal, h.2.2.2.1.al hal, h.2.2.2.2.1.mv hal hh, h.2.2.2.2.2.1.there hal hh, h.2.2.2.2.2.2⟩) (fun r U U' V V' h1 hal h2 h => Got.mv r U U' V V' h1 hal h2 h) ?_
  intro p e s m args below meth c s₁ X0 hexec hbytes hml hret hlk hnm hown hh0 W hP
  obtain ⟨rfl, hB, f1, f2, hA, s1, hz, l0, l2, hp⟩ := hP
  have c1 : Steps p.tables e below (s₁.setTop (entryFrame m #[.ref a, .ref b] 2)) (s₁.setTop (mkF m 0 #[.val (.ref a), .val (.ref b)] [])) := entry rfl
  have c2 : Steps p.tables e below (s₁.setTop (entryFrame m #[.ref a, .ref b] 2)) (s₁.setTop (mkF m 6 #[.val (.ref a), .val (.ref b)] [.null, .int (Int32.ofNat A.slots.size), .int 0, .ref b, .ref a])) := c1.trans (by
    refine XS.aloadN X0.here hexec rfl (hb hbytes d0) rfl rfl ?_
    refine XS.aloadN X0.here hexec rfl (hb hbytes d1) rfl rfl ?_
    refine iconstV X0.here hexec rfl 0 (hb hbytes d2) (by decide) ?_
    refine XS.aloadN X0.here hexec rfl (hb hbytes d3) rfl rfl ?_
    refine X0.alen hexec (hA.1.mv X0.warmed.alike hh0) rfl rfl (hb hbytes d4) ?_
    refine XS.aconstNull X0.here hexec rfl (hb hbytes d5) ?_
    exact Steps.refl _)
  obtain ⟨v3, T3, X3, E3, g3⟩ := X0.callN hexec (New4.law l a D fV fC b A z 0 A.slots.size) rfl hown (wks W (initW "java/lang/String" 27 New4.yN)) (W New4.tab (by simp only [site, List.mem_cons, List.mem_append, true_or, or_true])) (W := 0) (Nat.le_of_ble_eq_true rfl) (Nat.le_of_ble_eq_true rfl) (Nat.le_refl _) (by show 0 + A.slots.size ≤ A.slots.size; omega) (g := (mkF m 6 #[.val (.ref a), .val (.ref b)] [.null, .int (Int32.ofNat A.slots.size), .int (Int32.ofNat 0), .ref b, .ref a])) rfl (by rw [hml]; rfl) c2 (argsL := [.ref b, .int (Int32.ofNat 0), .int (Int32.ofNat A.slots.size), .null]) (rest := []) rfl rfl (by show 2 * 0 + 0 ≤ _; decide) (hb hbytes d6) (⟨rfl, hB.mv X0.warmed.alike hh0, f1.al X0.warmed.alike, f2.al X0.warmed.alike, hA.mv X0.warmed.alike hh0, s1.there X0.warmed.alike hh0, hz, l0, by omega, l2, fun i hi => by rw [Nat.zero_add]; exact hp i hi⟩)
  have e0 := Got.mv _ s₁ s _ _ hh0.symm (Vm.Alike.refl _) rfl E3
  obtain rfl := e0.1
  have c4 : Steps p.tables e below (s₁.setTop (entryFrame m #[.ref a, .ref b] 2)) (T3.setTop (mkF m 9 #[.val (.ref a), .val (.ref b)] [])) := g3
  exact ⟨T3, none, _, _, _, X3, by simp, rfl, by omega, (fun _ => rfl), e0, fun fs hl => c4.trans (X3.returnOut hexec hret (hb hbytes d9) hl)⟩
theorem pays {l : Launch} {R : Room} {p : Program} {e : Env} {below : List Frame} {s : State} {sargs : Array Value} {len W : Nat} (a : Addr) (D : Cell) (fV fC : Field) (b : Addr) (A : Cell) (z : Int32) (htab : tab.before sargs s = true) (hfr : 4 ≤ R.frames) (hlo : W + 65 ≤ R.locals) :
    Back l R p e below s sargs yN len W (fun A₁ a₁ => A₁.cells + 1 ≤ R.cells ∧ A₁.slots + A.slots.size ≤ R.slots ∧ P a D fV fC b A z a₁ A₁.U) (fun A₁ _ v₁ B₁ => E a D fV fC A v₁ A₁.U B₁.U ∧ B₁.locs = A₁.locs ++ [⟨a, fC.slot⟩, ⟨a, fV.slot⟩] ∧ B₁.cells = A₁.cells + 1 ∧ B₁.slots = A₁.slots + A.slots.size) :=
  (law l a D fV fC b A z).pays htab hfr (by omega)
end New1
/-- the byte, read back as charAt reads it, is the char -/
theorem lo8_mask {x : Int32} (h0 : ¬ x < 0) (h1 : ¬ 255 < x) : lo8 x &&& 255 = x := by
  have t : ∀ k : Fin 256, lo8 (Int32.ofNat k.val) &&& 255 = Int32.ofNat k.val := by decide +kernel
  rw [Int32.lt_iff_toInt_lt] at h0 h1
  have e0 : (0 : Int32).toInt = 0 := rfl
  have e1 : (255 : Int32).toInt = 255 := rfl
  obtain ⟨k, hk⟩ : ∃ k : Nat, x.toInt = k := ⟨x.toInt.toNat, by omega⟩
  have hx : x = Int32.ofNat k := Int32.toInt_inj.mp (by rw [hk, Int32.toInt_ofNat_small (by omega)])
  rw [hx]
  exact t ⟨k, by omega⟩
end StrChars
namespace StrChars.Road
open Jvm Sem ClassFile Op Lib Jvm.Stand Jvm.Free Jvm.Free.XT
open Jvm.Lib.Cold (StaticIs)
abbrev ST : String := "java/lang/String"
/-- every table word that New1's law asks, flat -/
abbrev words : List Jvm.Cond := [.code New1.yN New1.yB 2 none, .initialized ST, .methodLink ST 27 New4.yN, .instanceMethod New4.yN,
  .code New4.yN New4.yB 6 none, .fieldLink ST 38 ST "COMPACT_STRINGS" "Z", .laysFinal ST ST "value" "[B", .fieldLink ST 9 ST "value" "[B", .laysFinal ST ST "coder" "B", .fieldLink ST 15 ST "coder" "B",
  .methodLink ST 1 Lib.objectInit, .instanceMethod Lib.objectInit, .code Lib.objectInit ⟨#[0xb1]⟩ 1 none, .methodLink ST 177 Cmp3.yN, .static Cmp3.yN, .methodLink ST 47 CodL.yN, .static CodL.yN,
  .code Cmp3.yN Cmp3.yB 6 (some (.array .byte)), .initialized U16, .arrayClass .byte, .methodLink U16 115 Cmp5.yN, .static Cmp5.yN, .code Cmp5.yN Cmp5.yB 7 (some .int), .code CodL.yN CodL.yB 2 (some .byte)]
theorem tab_of {a : Array Value} {s : State} (h : ∀ w ∈ words, w.before a s = true) : New1.tab.before a s = true := by
  have h5 : Cmp5.tab.before a s = true := unparts (wk h (.code Cmp5.yN Cmp5.yB 7 (some .int))) (wks h (.initialized Cmp5.yN.cls :: Cmp5.site))
  have hc : CodL.tab.before a s = true := unparts (wk h (.code CodL.yN CodL.yB 2 (some .byte))) (wks h (.initialized CodL.yN.cls :: CodL.site))
  have q5 : ∀ w ∈ Cmp5.tab :: words, w.before a s = true := fun w hw => (List.mem_cons.mp hw).elim (fun e => e ▸ h5) (h w)
  have h3 : Cmp3.tab.before a s = true := unparts (wk q5 (.code Cmp3.yN Cmp3.yB 6 (some (.array .byte)))) (wks q5 (.initialized Cmp3.yN.cls :: Cmp3.site))
  have q3 : ∀ w ∈ Cmp3.tab :: CodL.tab :: words, w.before a s = true := fun w hw => (List.mem_cons.mp hw).elim (fun e => e ▸ h3) fun hw => (List.mem_cons.mp hw).elim (fun e => e ▸ hc) (h w)
  have h4 : New4.tab.before a s = true := unparts (wk q3 (.code New4.yN New4.yB 6 none)) (wks q3 (.initialized New4.yN.cls :: New4.site))
  have q4 : ∀ w ∈ New4.tab :: words, w.before a s = true := fun w hw => (List.mem_cons.mp hw).elim (fun e => e ▸ h4) (h w)
  exact unparts (wk q4 (.code New1.yN New1.yB 2 none)) (wks q4 (.initialized New1.yN.cls :: New1.site))
/-- the words ride from the start Z to the walk's own state -/
theorem moved {Z s : State} {a0 args : Array Value} (hZ : Z.Warmed39 s.vm) (hw : ∀ d ∈ words, d.before a0 Z = true) : ∀ d ∈ words, d.before args s = true := fun d hd => by
  have q := hw d hd
  have t : ∀ d ∈ words, d = .arrayClass .byte ∨ (d.onTables && d.keepsFace) = true := by decide +kernel
  rcases t d hd with rfl | t
  · exact RoadKit.mvA hZ q
  · exact RoadKit.mv hZ q t
/-- WHAT COMES BACK, over the tables of the start Z: h the heap at the call, h' behind it -/
def Q (Z : State) (x : Addr) (A : Cell) (h : Heap) (v : Option Value) (h' : Heap) (L : List Loc) : Prop := v = none ∧ (∀ y ∈ L, y.base = x) ∧ RoadKit.Keep h h' [x] ∧ h'.size = h.size + 1 ∧ RoadKit.Exa Z h' x ST ∧ RoadKit.Fld Z h' x ST "value" "[B" (.ref h.size) ∧ RoadKit.Fld Z h' x ST "coder" "B" (.int 0) ∧
  (∃ V : Cell, RoadKit.Arr Z h' h.size V .byte ∧ V.vm = .none ∧ Z.vm.findClass "[B" = some V.cls ∧ V.slots.size = A.slots.size ∧ ∀ j, j < A.slots.size → V.slots[j]? = some (.int (lo8 (cv A j)))) ∧
  ∀ (O n d : String) (w : Value), RoadKit.Fld Z h x O n d w → RoadKit.slotOf Z O n d ≠ RoadKit.slotOf Z ST "value" "[B" → RoadKit.slotOf Z O n d ≠ RoadKit.slotOf Z ST "coder" "B" → RoadKit.Fld Z h' x O n d w
/-- **new String(chars) AT A CALL, IN THE ROAD'S FORM**: for specialBack behind newO: x the fresh String, b the char[] with the cell A -/
theorem back {p : Program} {l : Launch} {e : Env} {R : Room} {s : State} {args : Array Value} {below : List Frame} {len W : Nat} {Z : State} {a0 : Array Value} {h : Heap} (hZ : Z.Warmed39 s.vm) (hw : ∀ d ∈ words, d.before a0 Z = true) {kI : Nat} (wi : (Jvm.Cond.instantiable ST kI).before a0 Z = true)
    {x b : Addr} {A : Cell} {z : Int32} {v0 c0 : Value} (E : RoadKit.Exa Z h x ST) (V : RoadKit.Fld Z h x ST "value" "[B" v0) (C : RoadKit.Fld Z h x ST "coder" "B" c0) (K : RoadKit.Arr Z h b A .char) (hty : Typed .char A) (S : RoadKit.Sta Z h ST "COMPACT_STRINGS" "Z" (.int z)) (hz : ¬ z = 0)
    (l0 : 0 < A.slots.size) (l2 : A.slots.size ≤ 536870912) (hp : ∀ i, i < A.slots.size → ¬ 255 < cv A i) (hfr : 4 ≤ R.frames) (hlo : W + 65 ≤ R.locals) :
    Back l R p e below s args New1.yN len W (fun P a => a = #[.ref x, .ref b] ∧ P.U.heap = h ∧ P.cells + 1 ≤ R.cells ∧ P.slots + A.slots.size ≤ R.slots)
      (fun P _ v B => ∃ L, Q Z x A h v B.U.heap L ∧ B.locs = P.locs ++ L ∧ B.cells = P.cells + 1 ∧ B.slots = P.slots + A.slots.size) := by
  intro m meth c P g ig mk a X hg hsize hdg hW hn hp'
  obtain ⟨rfl, rfl, r1, r2⟩ := hp'
  have al : Z.vm.Alike P.U.vm := hZ.alike.trans X.warmed.alike
  obtain ⟨D, cfV, kV, iV, fV, hD, gV, stV, knV, obV, asV, slV⟩ := id V
  obtain ⟨D', cfC, kC, iC, fC, hD', gC, stC, -, -, asC, slC⟩ := id C
  cases hD.symm.trans hD'
  obtain ⟨D2, kD, e1, e2, e3, e4, e5⟩ := id E
  cases hD.symm.trans e1
  obtain ⟨c2, k2, i1, i2, i3, -⟩ := Cond.instantiable_spec wi
  cases e2.symm.trans i1
  cases e3.symm.trans i2
  obtain ⟨kU, u1, u2⟩ := al.2.2 _ _ e3
  have hB : Blank ST x D P.U := ⟨hD, ⟨knV, fun q hq => by rw [hq] at obV; cases obV⟩, by rw [al.findClass]; exact e2, kU, u1, by rw [u2]; exact i3, by rw [u2]; exact e5 i3⟩
  have F1 : Found ST "value" "[B" fV P.U := ⟨SBG.found_only al ⟨cfV, kV, iV, gV⟩, stV⟩
  have F2 : Found ST "coder" "B" fC P.U := ⟨SBG.found_only al ⟨cfC, kC, iC, gC⟩, stC⟩
  have hA : Ch b A P.U := ⟨⟨K.1, State.isArrayOf_alike al K.2.1, K.2.2, by omega⟩, hty⟩
  have hS : StaticIs P.U ST "COMPACT_STRINGS" "Z" (.int z) := by
    obtain ⟨cfS, iS, kS, fS, st, cS, t1, t2, t3, t4, t5, t6, t7⟩ := S
    exact StaticIs.there (s := { Z with heap := P.U.heap }) ⟨cfS, iS, kS, fS, st, cS, t1, t2, t3, t4, t5, (fun q => by rw [q] at t6; cases t6), t7⟩ al rfl
  obtain ⟨v, B, X', ⟨⟨hv, E', V', q1, q2, q3, q4, q5, q6, q7, q8, q9, q10, q11⟩, hl, hc, hs⟩, st⟩ := New1.pays x D fV fC b A z (tab_of (moved hZ hw)) hfr hlo m meth c P g ig mk _ X hg hsize hdg hW hn ⟨r1, r2, rfl, hB, F1, F2, hA, hS, hz, l0, l2, hp⟩
  have al' : Z.vm.Alike B.U.vm := hZ.alike.trans X'.warmed.alike
  have hsz : E'.slots.size = D.slots.size := by
    obtain ⟨-, -, -, kB, w1, w2, w3⟩ := q1
    obtain ⟨kB', y1, y2⟩ := al'.2.2 _ _ e3
    rw [q2.2.1] at w1
    cases w1.symm.trans y1
    rw [w3, e5 i3, y2]
  refine ⟨v, B, X', ⟨_, ⟨hv, ?_, ⟨by omega, fun y cy hy hn' => q10 y cy (by simpa using hn') hy, fun y cy hy => ?_⟩, q11, ⟨E', _, q1.1, by rw [q2.2.1]; exact e2, by rw [q2.2.1]; exact e3, by rw [q2.1]; exact obV, fun _ => by rw [hsz]; exact e5 i3⟩,
    ⟨E', cfV, kV, iV, fV, q1.1, gV, stV, by rw [q2.1]; exact knV, by rw [q2.1]; exact obV, by rw [q2.2.1]; exact asV, q3⟩, ⟨E', cfC, kC, iC, fC, q1.1, gC, stC, by rw [q2.1]; exact knV, by rw [q2.1]; exact obV, by rw [q2.2.1]; exact asC, q4⟩,
    ⟨V', ⟨q5.1, State.isArrayOf_alike al'.symm q5.2.1, q5.2.2.1⟩, q6, by rw [← al'.findClass]; exact q7, q8, fun j hj => by have := q9 j hj; rwa [Nat.zero_add] at this⟩, fun O n d w F n1 n2 => ?_⟩, hl, hc, hs⟩, st⟩
  · intro y hy
    simp only [List.mem_cons, List.not_mem_nil, or_false] at hy
    rcases hy with rfl | rfl <;> rfl
  · by_cases q : y = x
    · subst q
      cases hD.symm.trans hy
      exact ⟨E', q1.1, q2.2.1, q2.1, hsz⟩
    · exact ⟨cy, q10 y cy q hy, rfl, rfl, rfl⟩
  · obtain ⟨D3, cf, k, i, f, g1, g2, g3, g4, g5, g6, g7⟩ := F
    cases hD.symm.trans g1
    simp only [RoadKit.slotOf, g2, gV, gC, Option.map_some, Option.getD_some] at n1 n2
    exact ⟨E', cf, k, i, f, q1.1, g2, g3, by rw [q2.1]; exact g4, by rw [q2.1]; exact g5, by rw [q2.2.1]; exact g6, by rw [q2.2.2 f.slot (by simp [n1, n2])]; exact g7⟩
end StrChars.Road
namespace StrChars.Road
open Jvm Sem ClassFile Op Lib Jvm.Stand Jvm.Free Jvm.Free.XT
/-- WHAT COMES BACK, the byte[] as a list of values -/
def QA (Z : State) (x : Addr) (zn : Int32) (cs : List Int32) (h : Heap) (v : Option Value) (h' : Heap) (L : List Loc) : Prop := v = none ∧ (∀ y ∈ L, y.base = x) ∧ RoadKit.Keep h h' [x] ∧ h'.size = h.size + 1 ∧ RoadKit.Exa Z h' x ST ∧ RoadKit.Fld Z h' x ST "value" "[B" (.ref h.size) ∧ RoadKit.Fld Z h' x ST "coder" "B" (.int 0) ∧
  (∃ kb, Z.vm.findClass "[B" = some kb ∧ RoadKit.Arv Z h' h.size kb .byte zn (cs.map fun c => .int (lo8 c)) (.int 0)) ∧
  ∀ (O n d : String) (w : Value), RoadKit.Fld Z h x O n d w → RoadKit.slotOf Z O n d ≠ RoadKit.slotOf Z ST "value" "[B" → RoadKit.slotOf Z O n d ≠ RoadKit.slotOf Z ST "coder" "B" → RoadKit.Fld Z h' x O n d w
/-- **new String(chars) AT A CALL, THE ARRAYS AS LISTS**: the char[] at b holds cs, not empty, no char above 255 -/
theorem backArv {p : Program} {l : Launch} {e : Env} {R : Room} {s : State} {args : Array Value} {below : List Frame} {len W : Nat} {Z : State} {a0 : Array Value} {h : Heap} (hZ : Z.Warmed39 s.vm) (hw : ∀ d ∈ words, d.before a0 Z = true) {kI : Nat} (wi : (Jvm.Cond.instantiable ST kI).before a0 Z = true)
    {x b : Addr} {k : ClassId} {zn z : Int32} {cs : List Int32} {dv v0 c0 : Value} (E : RoadKit.Exa Z h x ST) (V : RoadKit.Fld Z h x ST "value" "[B" v0) (C : RoadKit.Fld Z h x ST "coder" "B" c0) (K : RoadKit.Arv Z h b k .char zn (cs.map Value.int) dv) (S : RoadKit.Sta Z h ST "COMPACT_STRINGS" "Z" (.int z)) (hz : ¬ z = 0)
    (hlen : zn.toNatClampNeg = cs.length) (h0 : 0 < cs.length) (hbig : cs.length ≤ 536870912) (hall : ∀ c ∈ cs, ¬ 255 < c) (hfr : 4 ≤ R.frames) (hlo : W + 65 ≤ R.locals) :
    Back l R p e below s args New1.yN len W (fun P a => a = #[.ref x, .ref b] ∧ P.U.heap = h ∧ P.cells + 1 ≤ R.cells ∧ P.slots + cs.length ≤ R.slots)
      (fun P _ v B => ∃ L, QA Z x zn cs h v B.U.heap L ∧ B.locs = P.locs ++ L ∧ B.cells = P.cells + 1 ∧ B.slots = P.slots + cs.length) := by
  obtain ⟨A, K1, K2, K3, K4, K5, K6⟩ := K
  have e : A.slots.size = cs.length := K3.trans hlen
  have hat : ∀ (i : Nat) (hi : i < cs.length), A.slots[i]? = some (.int cs[i]) := fun i hi => by rw [K5 i (by omega)]; simp [List.getD_eq_getElem?_getD, hi]
  have hcv : ∀ (i : Nat) (hi : i < cs.length), cv A i = cs[i] := fun i hi => by unfold cv; rw [hat i hi]
  have hty : Typed .char A := fun i v hv => by
    have hi : i < A.slots.size := (Array.getElem?_eq_some_iff.mp hv).1
    have q := K5 i hi
    rw [hv] at q
    rw [Option.some.inj q]
    exact K6 i hi
  refine Back.mono (back hZ hw wi E V C K1 hty S hz (by omega) (by omega) (fun i hi => by rw [hcv i (by omega)]; exact hall _ (List.getElem_mem _)) hfr hlo) (fun P a hp => ⟨hp.1, hp.2.1, hp.2.2.1, by rw [e]; exact hp.2.2.2⟩) (fun P a v B hp hq => ?_)
  obtain ⟨L, ⟨q1, q2, q3, q4, q5, q6, q7, ⟨V', v1, v2, v3, v4, v5⟩, q9⟩, hl, hc, hs⟩ := hq
  refine ⟨L, ⟨q1, q2, q3, q4, q5, q6, q7, ⟨V'.cls, v3, V', v1, rfl, by rw [v4, e, hlen], K4, fun i hi => ?_, fun i hi => ?_⟩, q9⟩, hl, hc, by rw [hs, e]⟩
  · have hi' : i < cs.length := by omega
    rw [v5 i (by omega), hcv i hi']; simp [List.getD_eq_getElem?_getD, hi']
  · have hi' : i < cs.length := by omega
    simp only [List.getD_eq_getElem?_getD, List.getElem?_map, List.getElem?_eq_getElem hi', Option.map_some, Option.getD_some]
    exact fits_lo8 _
end StrChars.Road
namespace StrChars.Road
open Jvm Sem ClassFile Op Lib Jvm.Stand Jvm.Free Jvm.Free.XT
/-- WHAT COMES BACK, in the writer's own shape -/
def QV (Z : State) (x : Addr) (N : Int32) (bs : List Int32) (h : Heap) (n0 : Nat) (v : Option Value) (h' : Heap) (L : List Loc) : Prop := v = none ∧ RoadKit.Fr n0 L ∧ RoadKit.Keep h h' [x] ∧ RoadKit.Exa Z h' x ST ∧ RoadKit.Fld Z h' x ST "coder" "B" (.int 0) ∧
  ∃ (t : Addr) (kb : ClassId), n0 ≤ t ∧ h.size ≤ t ∧ ¬ t = x ∧ RoadKit.Fld Z h' x ST "value" "[B" (.ref t) ∧ RoadKit.Arv Z h' t kb .byte N (bs.map Value.int) (.int 0)
/-- **new String(chars) AT A CALL, FOR THE WRITER**: a char[] of n known ints, each 0 to 255 -/
theorem backV {p : Program} {l : Launch} {e : Env} {R : Room} {s : State} {args : Array Value} {below : List Frame} {len W : Nat} {Z : State} {a0 : Array Value} {h : Heap} (hZ : Z.Warmed39 s.vm) (hw : ∀ d ∈ words, d.before a0 Z = true) {kI : Nat} (wi : (Jvm.Cond.instantiable ST kI).before a0 Z = true)
    {x b : Addr} {kC : ClassId} {cs bs : List Int32} {d v0 c0 : Value} {z N : Int32} {n n0 : Nat} (hx0 : n0 ≤ x) (hh0 : n0 ≤ h.size) (E : RoadKit.Exa Z h x ST) (V : RoadKit.Fld Z h x ST "value" "[B" v0) (C : RoadKit.Fld Z h x ST "coder" "B" c0) (K : RoadKit.Arv Z h b kC .char N (cs.map Value.int) d) (S : RoadKit.Sta Z h ST "COMPACT_STRINGS" "Z" (.int z)) (hz : ¬ z = 0)
    (hn : cs.length = n) (hN : N = Int32.ofNat n) (l0 : 0 < n) (l2 : n ≤ 4000) (hp : ∀ c ∈ cs, ¬ c < 0 ∧ ¬ (255 : Int32) < c) (hb : bs = cs.map (fun c => c.toInt8.toInt32)) (hfr : 4 ≤ R.frames) (hlo : W + 65 ≤ R.locals) :
    Back l R p e below s args (⟨"java/lang/String", "<init>", "([C)V"⟩ : MethodName) len W (fun P a => a = #[.ref x, .ref b] ∧ P.U.heap = h ∧ P.cells + 1 ≤ R.cells ∧ P.slots + n ≤ R.slots)
      (fun P _ v B => ∃ L, QV Z x N bs h n0 v B.U.heap L ∧ B.locs = P.locs ++ L ∧ B.cells = P.cells + 1 ∧ B.slots = P.slots + n) := by
  subst hn hN hb
  refine Back.mono (backArv hZ hw wi E V C K S hz (n32 (by omega)) l0 (by omega) (fun c hc => (hp c hc).2) hfr hlo) (fun P a hp => hp) (fun P a v B hp hq => ?_)
  obtain ⟨L, ⟨q1, q2, q3, q4, q5, q6, q7, ⟨kb, v1, v2⟩, q9⟩, hl, hc, hs⟩ := hq
  exact ⟨L, ⟨q1, fun y hy => by rw [q2 y hy]; exact hx0, q3, q5, q7, h.size, kb, hh0, Nat.le_refl _, Nat.ne_of_gt E.lt, q6, by rw [List.map_map]; exact v2⟩, hl, hc, hs⟩
end StrChars.Road
namespace StrChars
open Jvm Sem ClassFile Op Lib Jvm.Stand Jvm.Free.XT Jvm.Free.ALB Jvm.Free.JM Jvm.Free
open Jvm.Lib.Cold (StaticIs)
def hi8 (x : Int32) : Int32 := lo8 (x >>> ((8 : Int32) &&& 31))
/-- what StringUTF16.getChar makes of two bytes -/
def pairCh (u v : Int32) : Int32 := (((u &&& 255) <<< ((0 : Int32) &&& 31)) ||| ((v &&& 255) <<< ((8 : Int32) &&& 31))).toUInt32.toUInt16.toUInt32.toInt32
theorem lo8_and (x : Int32) : (lo8 x &&& 255).toBitVec.toNat = x.toBitVec.toNat % 256 := by
  have h : (lo8 x).toBitVec = (x.toBitVec.signExtend 8).signExtend 32 := by rw [lo8, Int8.toBitVec_toInt32, Int32.toBitVec_toInt8]
  rw [Int32.toBitVec_and, BitVec.toNat_and, h]
  have e : ((x.toBitVec.signExtend 8).signExtend 32).toNat % 256 = x.toBitVec.toNat % 256 := by
    rw [BitVec.toNat_signExtend]
    have hlt := x.toBitVec.isLt
    simp only [BitVec.toNat_setWidth, BitVec.toNat_signExtend]
    split <;> split <;> omega
  rw [← e]
  exact Nat.and_two_pow_sub_one_eq_mod _ 8
theorem pair_says {c : Int32} (h0 : ¬ c < 0) (h1 : ¬ 65535 < c) : pairCh (lo8 c) (hi8 c) = c := by
  rw [Int32.lt_iff_toInt_lt] at h0 h1
  have e0 : (0 : Int32).toInt = 0 := rfl
  have e1 : (65535 : Int32).toInt = 65535 := rfl
  have hc : c.toInt = c.toBitVec.toNat := by
    have := c.toBitVec.isLt
    have e : c.toInt = c.toBitVec.toInt := rfl
    rw [e] at h0 h1
    rw [e]
    rw [BitVec.toInt_eq_toNat_cond] at h0 h1 ⊢
    split at h0 <;> split <;> omega
  have hn : c.toBitVec.toNat < 65536 := by omega
  have a1 := lo8_and c
  have a2 : (hi8 c &&& 255).toBitVec.toNat = c.toBitVec.toNat / 256 := by
    rw [hi8, lo8_and]
    have e : ((8 : Int32) &&& 31) = 8 := by decide
    rw [e, Int32.toBitVec_shiftRight]
    have e2 : ((8 : Int32).toBitVec.smod 32) = 8#32 := by decide
    rw [e2, BitVec.sshiftRight_eq', BitVec.toNat_sshiftRight_of_msb_false (by rw [BitVec.msb_eq_false_iff_two_mul_lt]; omega)]
    show c.toBitVec.toNat >>> 8 % 256 = _
    rw [Nat.shiftRight_eq_div_pow]
    omega
  unfold pairCh
  apply Int32.toBitVec_inj.mp
  apply BitVec.eq_of_toNat_eq
  have f0 : ((0 : Int32) &&& 31) = 0 := by decide
  have f8 : ((8 : Int32) &&& 31) = 8 := by decide
  rw [f0, f8]
  have g : (((lo8 c &&& 255) <<< (0 : Int32)) ||| ((hi8 c &&& 255) <<< (8 : Int32))).toBitVec.toNat = c.toBitVec.toNat := by
    rw [Int32.toBitVec_or, Int32.toBitVec_shiftLeft, Int32.toBitVec_shiftLeft]
    have s0 : ((0 : Int32).toBitVec.smod 32) = 0#32 := by decide
    have s8 : ((8 : Int32).toBitVec.smod 32) = 8#32 := by decide
    rw [s0, s8, BitVec.toNat_or]
    simp only [BitVec.shiftLeft_eq', BitVec.toNat_shiftLeft, a1, a2]
    show (c.toBitVec.toNat % 256) <<< 0 % 2 ^ 32 ||| (c.toBitVec.toNat / 256) <<< 8 % 2 ^ 32 = _
    rw [Nat.shiftLeft_zero, Nat.mod_eq_of_lt (show c.toBitVec.toNat % 256 < 2 ^ 32 by omega), Nat.mod_eq_of_lt (show (c.toBitVec.toNat / 256) <<< 8 < 2 ^ 32 by rw [Nat.shiftLeft_eq]; omega), Nat.or_comm, ← Nat.shiftLeft_add_eq_or_of_lt (by omega), Nat.shiftLeft_eq]
    omega
  show BitVec.toNat (((((lo8 c &&& 255) <<< (0 : Int32)) ||| ((hi8 c &&& 255) <<< (8 : Int32))).toBitVec.setWidth 16).setWidth 32) = _
  rw [BitVec.toNat_setWidth, BitVec.toNat_setWidth, g]
  omega
end StrChars
namespace StrChars
open Jvm Sem ClassFile Op Lib Jvm.Stand Jvm.Free.XT Jvm.Free.ALB Jvm.Free.JM Jvm.Free
open Jvm.Lib.Cold (StaticIs)
/-- the array's cell V codes the n chars f 0 .. f (n - 1) by the coder cd, as the JDK does: coder 1 just where some char is above 255 -/
def Cod (cd : Int32) (n : Nat) (f : Nat → Int32) (V : Cell) : Prop := (cd = 0 ∧ V.slots.size = n ∧ ∀ j, j < n → V.slots[j]? = some (.int (lo8 (f j))) ∧ ¬ 255 < f j) ∨ (cd = 1 ∧ V.slots.size = 2 * n ∧ (∀ j, j < n → V.slots[2 * j]? = some (.int (lo8 (f j))) ∧ V.slots[2 * j + 1]? = some (.int (hi8 (f j)))) ∧ ∃ j, j < n ∧ 255 < f j)
/-- **x is a String of the n chars f 0 .. f (n - 1)**, Latin-1 or UTF-16; its array at t has the cell V -/
def Txt (x t : Addr) (V : Cell) (cd : Int32) (n : Nat) (f : Nat → Int32) (U : State) : Prop := Exact "java/lang/String" x U ∧ Has x "java/lang/String" "value" "[B" (.ref t) U ∧ Has x "java/lang/String" "coder" "B" (.int cd) U ∧ XT.Arr .byte t V U ∧ Cod cd n f V ∧ ∀ j, j < n → ¬ f j < 0 ∧ ¬ 65535 < f j
theorem Txt.mv {x t : Addr} {V : Cell} {cd : Int32} {n : Nat} {f : Nat → Int32} {U U' : State} (h : Txt x t V cd n f U) (hal : U.vm.Alike U'.vm) (hh : U'.heap = U.heap) : Txt x t V cd n f U' := ⟨h.1.mv hal hh, h.2.1.mv hal hh, h.2.2.1.mv hal hh, h.2.2.2.1.mv hal hh, h.2.2.2.2⟩
end StrChars
namespace StrChars.Road
open Jvm Sem ClassFile Op Lib Jvm.Stand Jvm.Free Jvm.Free.XT
open Jvm.Lib.Cold (StaticIs)
theorem consq {a : Array Value} {s : State} {c : Jvm.Cond} {L : List Jvm.Cond} (h0 : c.before a s = true) (h : ∀ w ∈ L, w.before a s = true) : ∀ w ∈ c :: L, w.before a s = true := fun w hw => (List.mem_cons.mp hw).elim (fun e => e ▸ h0) (h w)
/-- the bytes of the chars cs, low before high -/
def wideBytes : List Int32 → List Value
  | [] => []
  | c :: cs => .int (lo8 c) :: .int (hi8 c) :: wideBytes cs
theorem wide_lo (d : Value) : ∀ (cs : List Int32) (j : Nat), j < cs.length → (wideBytes cs).getD (2 * j) d = .int (lo8 (cs.getD j 0))
  | [], j, h => absurd h (Nat.not_lt_zero j)
  | c :: cs, 0, _ => rfl
  | c :: cs, j + 1, h => by
    have q := wide_lo d cs j (by simpa using h)
    rw [show 2 * (j + 1) = 2 * j + 1 + 1 from by omega]
    simpa [wideBytes] using q
theorem wide_hi (d : Value) : ∀ (cs : List Int32) (j : Nat), j < cs.length → (wideBytes cs).getD (2 * j + 1) d = .int (hi8 (cs.getD j 0))
  | [], j, h => absurd h (Nat.not_lt_zero j)
  | c :: cs, 0, _ => rfl
  | c :: cs, j + 1, h => by
    have q := wide_hi d cs j (by simpa using h)
    rw [show 2 * (j + 1) + 1 = 2 * j + 1 + 1 + 1 from by omega]
    simpa [wideBytes] using q
theorem low_at (d : Value) (cs : List Int32) (j : Nat) (h : j < cs.length) : (cs.map fun c => Value.int (lo8 c)).getD j d = .int (lo8 (cs.getD j 0)) := by
  simp [List.getD_eq_getElem?_getD, h]
/-- an array of N2 bytes vs codes the chars cs by the coder cd -/
def CodA (cs : List Int32) (cd N2 : Int32) (vs : List Value) : Prop := (cd = 0 ∧ N2 = Int32.ofNat cs.length ∧ vs = (cs.map fun c => Value.int (lo8 c)) ∧ ∀ c ∈ cs, ¬ 255 < c) ∨ (cd = 1 ∧ N2 = Int32.ofNat (2 * cs.length) ∧ vs = wideBytes cs ∧ ∃ c ∈ cs, 255 < c)
theorem CodA.cod {cs : List Int32} {cd N2 : Int32} {vs : List Value} {V : Cell} (h : CodA cs cd N2 vs) (hn : 2 * cs.length < 2 ^ 31) (hs : V.slots.size = N2.toNatClampNeg) (hv : RoadKit.Has V vs (.int 0)) : Cod cd cs.length (fun j => cs.getD j 0) V := by
  rcases h with ⟨rfl, rfl, rfl, h⟩ | ⟨rfl, rfl, rfl, c, hc, hw⟩
  · rw [n32 (by omega)] at hs
    exact Or.inl ⟨rfl, hs, fun j hj => ⟨by rw [hv j (by omega), low_at _ _ _ hj], by
      have e : cs.getD j 0 = cs[j] := by simp [List.getD_eq_getElem?_getD, hj]
      show ¬ 255 < cs.getD j 0
      rw [e]; exact h _ (List.getElem_mem _)⟩⟩
  · rw [n32 (by omega)] at hs
    obtain ⟨j, hj, rfl⟩ := List.getElem_of_mem hc
    exact Or.inr ⟨rfl, hs, fun j hj => ⟨by rw [hv _ (by omega), wide_lo _ _ _ hj], by rw [hv _ (by omega), wide_hi _ _ _ hj]⟩, j, hj, by
      have e : cs.getD j 0 = cs[j] := by simp [List.getD_eq_getElem?_getD, hj]
      show 255 < cs.getD j 0
      rw [e]; exact hw⟩
/-- an object of exactly java/lang/String, its two fields found: as the laws ask it -/
theorem strObj {Z U : State} {a0 : Array Value} {kI : Nat} (wi : (Jvm.Cond.instantiable ST kI).before a0 Z = true) (al : Z.vm.Alike U.vm) {x : Addr} {v0 c0 : Value} (E : RoadKit.Exa Z U.heap x ST) (V : RoadKit.Fld Z U.heap x ST "value" "[B" v0) (C : RoadKit.Fld Z U.heap x ST "coder" "B" c0) :
    ∃ (D : Cell) (fV fC : Field), Blank ST x D U ∧ Found ST "value" "[B" fV U ∧ Found ST "coder" "B" fC U ∧ D.slots[fV.slot]? = some v0 ∧ D.slots[fC.slot]? = some c0 ∧ RoadKit.slotOf Z ST "value" "[B" = fV.slot ∧ RoadKit.slotOf Z ST "coder" "B" = fC.slot := by
  obtain ⟨D, cfV, kV, iV, fV, hD, gV, stV, knV, obV, asV, slV⟩ := V
  obtain ⟨D', cfC, kC, iC, fC, hD', gC, stC, -, -, asC, slC⟩ := C
  cases hD.symm.trans hD'
  obtain ⟨D2, kD, e1, e2, e3, e4, e5⟩ := E
  cases hD.symm.trans e1
  obtain ⟨c2, k2, i1, i2, i3, -⟩ := Cond.instantiable_spec wi
  cases e2.symm.trans i1
  cases e3.symm.trans i2
  obtain ⟨kU, u1, u2⟩ := al.2.2 _ _ e3
  exact ⟨D, fV, fC, ⟨hD, ⟨knV, fun q hq => by rw [hq] at obV; cases obV⟩, by rw [al.findClass]; exact e2, kU, u1, by rw [u2]; exact i3, by rw [u2]; exact e5 i3⟩, ⟨SBG.found_only al ⟨cfV, kV, iV, gV⟩, stV⟩, ⟨SBG.found_only al ⟨cfC, kC, iC, gC⟩, stC⟩, slV, slC, by simp [RoadKit.slotOf, gV], by simp [RoadKit.slotOf, gC]⟩
theorem sta_is {Z U : State} (al : Z.vm.Alike U.vm) {C n d : String} {v : Value} (S : RoadKit.Sta Z U.heap C n d v) : StaticIs U C n d v := by
  obtain ⟨cfS, iS, kS, fS, st, cS, t1, t2, t3, t4, t5, t6, t7⟩ := S
  exact StaticIs.there (s := { Z with heap := U.heap }) ⟨cfS, iS, kS, fS, st, cS, t1, t2, t3, t4, t5, (fun q => by rw [q] at t6; cases t6), t7⟩ al rfl
end StrChars.Road
namespace StrChars
open Jvm Sem ClassFile Op Lib Jvm.Stand Jvm.Free.XT Jvm.Free.ALB Jvm.Free.JM Jvm.Free
open Jvm.Lib.Cold (StaticIs)
/-- what place i of a byte[]'s cell holds -/
def yv (A : Cell) (i : Nat) : Int32 := match A.slots[i]? with | some (.int x) => x | _ => 0
theorem yv_get {a : Addr} {A : Cell} {U : State} (h : XT.Arr .byte a A U) (ht : Typed .byte A) {i : Nat} (hi : i < A.slots.size) : A.slots[i]? = some (.int (yv A i)) := by
  have e := Array.getElem?_eq_getElem hi
  have f := ht i _ e
  unfold yv; rw [e]
  generalize A.slots[i] = v at f
  cases v <;> simp [fits] at f ⊢
/-- the two arrays are equal, place for place -/
def EqC (A B : Cell) : Prop := A.slots.size = B.slots.size ∧ ∀ i, i < A.slots.size → yv A i = yv B i
/-- a boolean that says whether p -/
def Says01 (q : Prop) (r : Option Value) (s u : State) : Prop := ∃ v : Int32, r = some (.int v) ∧ u.heap = s.heap ∧ ((v = 1 ∧ q) ∨ (v = 0 ∧ ¬ q))
theorem Says01.mv {q : Prop} : ∀ r (U U' V V' : State), U'.heap = U.heap → V.vm.Alike V'.vm → V'.heap = V.heap → Says01 q r U V → Says01 q r U' V' :=
  fun r U U' V V' h1 _ h2 ⟨v, a, b, c⟩ => ⟨v, a, by rw [h1, h2]; exact b, c⟩
namespace LEq
def yN : MethodName := ⟨"java/lang/StringLatin1", "equals", "([B[B)Z"⟩
abbrev yB : ByteArray := jdk_43_method_13_code
theorem d0 : decode yB 0 = .ok (.aload_n 0, 1) := by decide +kernel
theorem d1 : decode yB 1 = .ok (.arraylength, 1) := by decide +kernel
theorem d2 : decode yB 2 = .ok (.aload_n 1, 1) := by decide +kernel
theorem d3 : decode yB 3 = .ok (.arraylength, 1) := by decide +kernel
theorem d4 : decode yB 4 = .ok (.if_icmp (.ne) 30, 3) := by decide +kernel
theorem d7 : decode yB 7 = .ok (.iconst 0, 1) := by decide +kernel
theorem d8 : decode yB 8 = .ok (.istore_n 2, 1) := by decide +kernel
theorem d9 : decode yB 9 = .ok (.iload_n 2, 1) := by decide +kernel
theorem d10 : decode yB 10 = .ok (.aload_n 0, 1) := by decide +kernel
theorem d11 : decode yB 11 = .ok (.arraylength, 1) := by decide +kernel
theorem d12 : decode yB 12 = .ok (.if_icmp (.ge) 20, 3) := by decide +kernel
theorem d15 : decode yB 15 = .ok (.aload_n 0, 1) := by decide +kernel
theorem d16 : decode yB 16 = .ok (.iload_n 2, 1) := by decide +kernel
theorem d17 : decode yB 17 = .ok (.baload, 1) := by decide +kernel
theorem d18 : decode yB 18 = .ok (.aload_n 1, 1) := by decide +kernel
theorem d19 : decode yB 19 = .ok (.iload_n 2, 1) := by decide +kernel
theorem d20 : decode yB 20 = .ok (.baload, 1) := by decide +kernel
theorem d21 : decode yB 21 = .ok (.if_icmp (.eq) 5, 3) := by decide +kernel
theorem d24 : decode yB 24 = .ok (.iconst 0, 1) := by decide +kernel
theorem d25 : decode yB 25 = .ok (.ireturn, 1) := by decide +kernel
theorem d26 : decode yB 26 = .ok (.iinc 2 1, 3) := by decide +kernel
theorem d29 : decode yB 29 = .ok (.goto (-20), 3) := by decide +kernel
theorem d32 : decode yB 32 = .ok (.iconst 1, 1) := by decide +kernel
theorem d33 : decode yB 33 = .ok (.ireturn, 1) := by decide +kernel
theorem d34 : decode yB 34 = .ok (.iconst 0, 1) := by decide +kernel
theorem d35 : decode yB 35 = .ok (.ireturn, 1) := by decide +kernel
def site : List Cond := []
def tab : Cond := tabOf yN yB 3 (some .boolean) site
def P (a : Addr) (A : Cell) (b : Addr) (B : Cell) (args : Array Value) (s : State) : Prop := args = #[.ref a, .ref b] ∧ XT.Arr .byte a A s ∧ Typed .byte A ∧ XT.Arr .byte b B s ∧ Typed .byte B
/-- whether two byte[] are equal, place for place -/
theorem law (l : Launch) (a : Addr) (A : Cell) (b : Addr) (B : Cell) : Law l yN 2 2 0 0 yB 3 (some .boolean) site (P a A b B) (Says01 (EqC A B)) [] 0 0 := by
  refine Law.of_walk (plainFor_of_name (by decide +kernel)) (by decide +kernel) (by decide +kernel) (by decide) (fun _ _ h => by rw [h.1]; rfl) (fun _ U U' hal hh h => ⟨h.1, h.2.1.mv hal hh, h.2.2.1, h.2.2.2.1.mv hal hh, h.2.2.2.2⟩) (fun r U U' V V' h1 hal h2 h => Says01.mv r U U' V V' h1 hal h2 h) ?_
  intro p e s m args below meth c s₁ X0 hexec hbytes hml hret hlk hnm hown hh0 W hP
  obtain ⟨rfl, hA, tA, hB, tB⟩ := hP
  have a31 := hA.2.2.2
  have b31 := hB.2.2.2
  have hA0 := hA.mv X0.warmed.alike hh0
  have hB0 := hB.mv X0.warmed.alike hh0
  have c1 : Steps p.tables e below (s₁.setTop (entryFrame m #[.ref a, .ref b] 3)) (s₁.setTop (mkF m 0 #[.val (.ref a), .val (.ref b), .unset] [])) := entry rfl
  have c2 : Steps p.tables e below (s₁.setTop (entryFrame m #[.ref a, .ref b] 3)) (s₁.setTop (mkF m 4 #[.val (.ref a), .val (.ref b), .unset] [.int (Int32.ofNat B.slots.size), .int (Int32.ofNat A.slots.size)])) := c1.trans (by
    refine XS.aloadN X0.here hexec rfl (hb hbytes d0) rfl rfl ?_
    refine X0.alen hexec hA0 rfl rfl (hb hbytes d1) ?_
    refine XS.aloadN X0.here hexec rfl (hb hbytes d2) rfl rfl ?_
    refine X0.alen hexec hB0 rfl rfl (hb hbytes d3) ?_
    exact Steps.refl _)
  by_cases hs : A.slots.size = B.slots.size
  · have c3 : Steps p.tables e below (s₁.setTop (entryFrame m #[.ref a, .ref b] 3)) (s₁.setTop (mkF m 9 #[.val (.ref a), .val (.ref b), .val (.int 0)] [])) := c2.trans (by
      refine XS.icmpNo X0.here hexec rfl (hb hbytes d4) rfl (ii_ne_f (by rw [hs])) ?_
      refine iconstV X0.here hexec rfl 0 (hb hbytes d7) (by decide) ?_
      refine XS.istoreN X0.here hexec rfl (hb hbytes d8) rfl rfl ?_
      exact Steps.refl _)
    have loop : ∀ (r i : Nat), i + r = A.slots.size → (∀ j, j < i → yv A j = yv B j) → Steps p.tables e below (s₁.setTop (entryFrame m #[.ref a, .ref b] 3)) (s₁.setTop (mkF m 9 #[.val (.ref a), .val (.ref b), .val (.int (Int32.ofNat i))] [])) → ∃ (pc : Nat) (Ls : Array Slot) (v : Int32), (pc = 25 ∨ pc = 33) ∧ ((v = 1 ∧ EqC A B) ∨ (v = 0 ∧ ¬ EqC A B)) ∧ Steps p.tables e below (s₁.setTop (entryFrame m #[.ref a, .ref b] 3)) (s₁.setTop (mkF m pc Ls [.int v])) := by
      intro r
      induction r with
      | zero =>
        intro i hi he cl
        exact ⟨33, _, 1, Or.inr rfl, Or.inl ⟨rfl, hs, fun j hj => he j (by omega)⟩, cl.trans (by
          refine XS.iloadN X0.here hexec rfl (hb hbytes d9) rfl ?_
          refine XS.aloadN X0.here hexec rfl (hb hbytes d10) rfl rfl ?_
          refine X0.alen hexec hA0 rfl rfl (hb hbytes d11) ?_
          refine XS.icmpYes X0.here hexec rfl (pc0 := 12) rfl (hb hbytes d12) rfl (ii_ge_t (nlt32 (by omega) (by omega))) (by decide) rfl ?_
          refine iconstV X0.here hexec rfl 1 (hb hbytes d32) (by decide) ?_
          exact Steps.refl _)⟩
      | succ r ih =>
        intro i hi he cl
        have c4 : Steps p.tables e below (s₁.setTop (entryFrame m #[.ref a, .ref b] 3)) (s₁.setTop (mkF m 21 #[.val (.ref a), .val (.ref b), .val (.int (Int32.ofNat i))] [.int (yv B i), .int (yv A i)])) := cl.trans (by
          refine XS.iloadN X0.here hexec rfl (hb hbytes d9) rfl ?_
          refine XS.aloadN X0.here hexec rfl (hb hbytes d10) rfl rfl ?_
          refine X0.alen hexec hA0 rfl rfl (hb hbytes d11) ?_
          refine XS.icmpNo X0.here hexec rfl (hb hbytes d12) rfl (ii_ge_f (lt32 (by omega) (by omega))) ?_
          refine XS.aloadN X0.here hexec rfl (hb hbytes d15) rfl rfl ?_
          refine XS.iloadN X0.here hexec rfl (hb hbytes d16) rfl ?_
          refine X0.aget hexec hA0 rfl (yv_get hA tA (i := i) (by omega)) rfl rfl (hb hbytes d17) ?_
          refine XS.aloadN X0.here hexec rfl (hb hbytes d18) rfl rfl ?_
          refine XS.iloadN X0.here hexec rfl (hb hbytes d19) rfl ?_
          refine X0.aget hexec hB0 rfl (yv_get hB tB (i := i) (by omega)) rfl rfl (hb hbytes d20) ?_
          exact Steps.refl _)
        by_cases hv : yv A i = yv B i
        · have c5 : Steps p.tables e below (s₁.setTop (entryFrame m #[.ref a, .ref b] 3)) (s₁.setTop (mkF m 9 #[.val (.ref a), .val (.ref b), .val (.int (Int32.ofNat i + 1))] [])) := c4.trans (by
            refine XS.icmpYes X0.here hexec rfl (pc0 := 21) rfl (hb hbytes d21) rfl (ii_eq_t hv) (by decide) rfl ?_
            refine iincV X0.here hexec rfl 1 (hb hbytes d26) (by decide) rfl rfl ?_
            refine XS.goto X0.here hexec rfl (pc0 := 29) rfl (hb hbytes d29) (by decide) rfl ?_
            exact Steps.refl _)
          rw [succ32] at c5
          exact ih (i + 1) (by omega) (fun j hj => by
            by_cases e : j = i
            · rw [e]; exact hv
            · exact he j (by omega)) c5
        · exact ⟨25, _, 0, Or.inl rfl, Or.inr ⟨rfl, fun q => hv (q.2 i (by omega))⟩, c4.trans (by
            refine XS.icmpNo X0.here hexec rfl (hb hbytes d21) rfl (ii_eq_f hv) ?_
            refine iconstV X0.here hexec rfl 0 (hb hbytes d24) (by decide) ?_
            exact Steps.refl _)⟩
    obtain ⟨pc, Ls, v, hpc, hv, cz⟩ := loop A.slots.size 0 (by omega) (fun j hj => absurd hj (Nat.not_lt_zero j)) c3
    have nv : narrow .boolean (.int v) = .int v := by rcases hv with ⟨rfl, -⟩ | ⟨rfl, -⟩ <;> rfl
    rcases hpc with rfl | rfl
    · exact ⟨s₁, some (.int v), _, _, _, X0, rfl, rfl, rfl, (fun h => by cases h), ⟨v, rfl, hh0, hv⟩, fun fs hl => cz.trans (X0.ireturnOut hexec hret nv (Or.inr (Or.inl rfl)) (hb hbytes d25) hl)⟩
    · exact ⟨s₁, some (.int v), _, _, _, X0, rfl, rfl, rfl, (fun h => by cases h), ⟨v, rfl, hh0, hv⟩, fun fs hl => cz.trans (X0.ireturnOut hexec hret nv (Or.inr (Or.inl rfl)) (hb hbytes d33) hl)⟩
  · have c3 : Steps p.tables e below (s₁.setTop (entryFrame m #[.ref a, .ref b] 3)) (s₁.setTop (mkF m 35 #[.val (.ref a), .val (.ref b), .unset] [.int 0])) := c2.trans (by
      refine XS.icmpYes X0.here hexec rfl (pc0 := 4) rfl (hb hbytes d4) rfl (ii_ne_t (ne32 a31 b31 hs)) (by decide) rfl ?_
      refine iconstV X0.here hexec rfl 0 (hb hbytes d34) (by decide) ?_
      exact Steps.refl _)
    exact ⟨s₁, some (.int 0), _, _, _, X0, rfl, rfl, rfl, (fun h => by cases h), ⟨0, rfl, hh0, Or.inr ⟨rfl, fun q => hs q.1⟩⟩, fun fs hl => c3.trans (X0.ireturnOut hexec hret rfl (Or.inr (Or.inl rfl)) (hb hbytes d35) hl)⟩
end LEq
theorem Cod.ty {cd : Int32} {n : Nat} {f : Nat → Int32} {V : Cell} (h : Cod cd n f V) : Typed .byte V := fun i v hv => by
  have hi : i < V.slots.size := (Array.getElem?_eq_some_iff.mp hv).1
  rcases h with ⟨-, k1, k2⟩ | ⟨-, k1, k2, -⟩
  · rw [(k2 i (by omega)).1] at hv; cases hv; exact fits_lo8 _
  · rcases Nat.mod_two_eq_zero_or_one i with e | e
    · obtain ⟨j, rfl⟩ : ∃ j, i = 2 * j := ⟨i / 2, by omega⟩
      rw [(k2 j (by omega)).1] at hv; cases hv; exact fits_lo8 _
    · obtain ⟨j, rfl⟩ : ∃ j, i = 2 * j + 1 := ⟨i / 2, by omega⟩
      rw [(k2 j (by omega)).2] at hv; cases hv; exact fits_lo8 _
/-- the same text -/
def SameT (n : Nat) (f : Nat → Int32) (k : Nat) (g : Nat → Int32) : Prop := n = k ∧ ∀ j, j < n → f j = g j
theorem lo8_inj {x y : Int32} (h0 : ¬ x < 0) (h1 : ¬ 255 < x) (k0 : ¬ y < 0) (k1 : ¬ 255 < y) (h : lo8 x = lo8 y) : x = y := by
  rw [← lo8_mask h0 h1, ← lo8_mask k0 k1, h]
/-- arrays coded by one coder are equal just where the texts are -/
theorem Cod.eqv {cd : Int32} {n k : Nat} {f g : Nat → Int32} {V V' : Cell} (h : Cod cd n f V) (h' : Cod cd k g V') (hf : ∀ j, j < n → ¬ f j < 0 ∧ ¬ 65535 < f j) (hg : ∀ j, j < k → ¬ g j < 0 ∧ ¬ 65535 < g j) : EqC V V' ↔ SameT n f k g := by
  have yvv : ∀ {W : Cell} {i : Nat} {x : Int32}, W.slots[i]? = some (.int x) → yv W i = x := fun q => by unfold yv; rw [q]
  rcases h with ⟨rfl, k1, k2⟩ | ⟨rfl, k1, k2, -⟩
  · rcases h' with ⟨-, m1, m2⟩ | ⟨e, -⟩
    · constructor
      · rintro ⟨e1, e2⟩
        refine ⟨by omega, fun j hj => ?_⟩
        have q := e2 j (by omega)
        rw [yvv (k2 j hj).1, yvv (m2 j (by omega)).1] at q
        exact lo8_inj (hf j hj).1 (k2 j hj).2 (hg j (by omega)).1 (m2 j (by omega)).2 q
      · rintro ⟨rfl, e2⟩
        refine ⟨by omega, fun j hj => ?_⟩
        rw [yvv (k2 j (by omega)).1, yvv (m2 j (by omega)).1, e2 j (by omega)]
    · exact absurd e (by decide)
  · rcases h' with ⟨e, -⟩ | ⟨-, m1, m2, -⟩
    · exact absurd e (by decide)
    · constructor
      · rintro ⟨e1, e2⟩
        refine ⟨by omega, fun j hj => ?_⟩
        have q1 := e2 (2 * j) (by omega)
        have q2 := e2 (2 * j + 1) (by omega)
        rw [yvv (k2 j hj).1, yvv (m2 j (by omega)).1] at q1
        rw [yvv (k2 j hj).2, yvv (m2 j (by omega)).2] at q2
        rw [← pair_says (hf j hj).1 (hf j hj).2, ← pair_says (hg j (by omega)).1 (hg j (by omega)).2, q1, q2]
      · rintro ⟨rfl, e2⟩
        refine ⟨by omega, fun i hi => ?_⟩
        rcases Nat.mod_two_eq_zero_or_one i with e | e
        · obtain ⟨j, rfl⟩ : ∃ j, i = 2 * j := ⟨i / 2, by omega⟩
          rw [yvv (k2 j (by omega)).1, yvv (m2 j (by omega)).1, e2 j (by omega)]
        · obtain ⟨j, rfl⟩ : ∃ j, i = 2 * j + 1 := ⟨i / 2, by omega⟩
          rw [yvv (k2 j (by omega)).2, yvv (m2 j (by omega)).2, e2 j (by omega)]
/-- two codings differ: so do the texts -/
theorem Cod.dif {cd cd' : Int32} {n k : Nat} {f g : Nat → Int32} {V V' : Cell} (h : Cod cd n f V) (h' : Cod cd' k g V') (hne : ¬ cd = cd') : ¬ SameT n f k g := by
  rintro ⟨rfl, e⟩
  rcases h with ⟨rfl, -, k2⟩ | ⟨rfl, -, -, j, hj, hw⟩
  · rcases h' with ⟨rfl, -⟩ | ⟨-, -, -, j, hj, hw⟩
    · exact hne rfl
    · exact (k2 j hj).2 (by rw [e j hj]; exact hw)
  · rcases h' with ⟨-, -, m2⟩ | ⟨rfl, -⟩
    · exact (m2 j hj).2 (by rw [← e j hj]; exact hw)
    · exact hne rfl
/-- an object of exactly C is an instance of C -/
theorem cinst {p : Program} {l : Launch} {e : Env} {R : Room} {s : State} {m : MethodId} {args : Array Value} {below : List Frame} {meth : Method} {c : Code} {T : State} {locs : List Loc} {cells slots : Nat} (X : Stand p l e R s m args below meth c T locs cells slots) (hexec : p.tables.exec = Jvm.exec) {own C : String} {index : Nat} (hown : s.vm.findClass own = some m.cls) (hlink : (Cond.classLink own index C).before args s = true) {a : Addr} (hE : Exact C a T)
    {g : JFrame} (hg : g.method = m) {rest : List Value} (hstack : g.stack = .ref a :: rest) (hdg : decode c.code g.pc = .ok (.instanceof index, 3)) :
    ∃ T', Stand p l e R s m args below meth c T' locs cells slots ∧ T'.heap = T.heap ∧ ∀ target, Steps p.tables e below (T'.setTop { g with pc := g.pc + 3, stack := .int 1 :: rest }) target → Steps p.tables e below (T.setTop g) target := by
  obtain ⟨cB, h1, D, h2, h3, h4⟩ := hE
  have h1' : s.vm.findClass C = some cB := by rw [← X.warmed.alike.findClass]; exact h1
  obtain ⟨vm', X', st⟩ := X.instanceofYes hexec hown hlink h2 h4 h1' (by rw [h3]; exact Jvm.Free.SB.assignable_self _ _) hg hstack hdg
  exact ⟨_, X', rfl, st⟩
theorem cself {p : Program} {l : Launch} {e : Env} {R : Room} {s : State} {m : MethodId} {args : Array Value} {below : List Frame} {meth : Method} {c : Code} {T : State} {locs : List Loc} {cells slots : Nat} (X : Stand p l e R s m args below meth c T locs cells slots) (hexec : p.tables.exec = Jvm.exec) {own C : String} {index : Nat} (hown : s.vm.findClass own = some m.cls) (hlink : (Cond.classLink own index C).before args s = true) {a : Addr} (hE : Exact C a T)
    {g : JFrame} (hg : g.method = m) {rest : List Value} (hstack : g.stack = .ref a :: rest) (hdg : decode c.code g.pc = .ok (.checkcast index, 3)) :
    ∃ T', Stand p l e R s m args below meth c T' locs cells slots ∧ T'.heap = T.heap ∧ ∀ target, Steps p.tables e below (T'.setTop { g with pc := g.pc + 3, stack := .ref a :: rest }) target → Steps p.tables e below (T.setTop g) target := by
  obtain ⟨cB, h1, D, h2, h3, h4⟩ := hE
  have h1' : s.vm.findClass C = some cB := by rw [← X.warmed.alike.findClass]; exact h1
  obtain ⟨vm', X', st⟩ := X.checkcastYes hexec hown hlink h2 h4 h1' (by rw [h3]; exact Jvm.Free.SB.assignable_self _ _) hg hstack hdg
  exact ⟨_, X', rfl, fun t h => st t (by rw [← hstack] at h; exact h)⟩
namespace SEq
def yN : MethodName := ⟨"java/lang/String", "equals", "(Ljava/lang/Object;)Z"⟩
abbrev yB : ByteArray := jdk_42_method_66_code
theorem d0 : decode yB 0 = .ok (.aload_n 0, 1) := by decide +kernel
theorem d1 : decode yB 1 = .ok (.aload_n 1, 1) := by decide +kernel
theorem d2 : decode yB 2 = .ok (.if_acmp (.ne) 5, 3) := by decide +kernel
theorem d5 : decode yB 5 = .ok (.iconst 1, 1) := by decide +kernel
theorem d6 : decode yB 6 = .ok (.ireturn, 1) := by decide +kernel
theorem d7 : decode yB 7 = .ok (.aload_n 1, 1) := by decide +kernel
theorem d8 : decode yB 8 = .ok (.instanceof 10, 3) := by decide +kernel
theorem d11 : decode yB 11 = .ok (.ifCond (.eq) 43, 3) := by decide +kernel
theorem d14 : decode yB 14 = .ok (.aload_n 1, 1) := by decide +kernel
theorem d15 : decode yB 15 = .ok (.checkcast 10, 3) := by decide +kernel
theorem d18 : decode yB 18 = .ok (.astore_n 2, 1) := by decide +kernel
theorem d19 : decode yB 19 = .ok (.getstatic 38, 3) := by decide +kernel
theorem d22 : decode yB 22 = .ok (.ifCond (.eq) 14, 3) := by decide +kernel
theorem d25 : decode yB 25 = .ok (.aload_n 0, 1) := by decide +kernel
theorem d26 : decode yB 26 = .ok (.getfield 15, 3) := by decide +kernel
theorem d29 : decode yB 29 = .ok (.aload_n 2, 1) := by decide +kernel
theorem d30 : decode yB 30 = .ok (.getfield 15, 3) := by decide +kernel
theorem d33 : decode yB 33 = .ok (.if_icmp (.ne) 21, 3) := by decide +kernel
theorem d36 : decode yB 36 = .ok (.aload_n 0, 1) := by decide +kernel
theorem d37 : decode yB 37 = .ok (.getfield 9, 3) := by decide +kernel
theorem d40 : decode yB 40 = .ok (.aload_n 2, 1) := by decide +kernel
theorem d41 : decode yB 41 = .ok (.getfield 9, 3) := by decide +kernel
theorem d44 : decode yB 44 = .ok (.invokestatic 541, 3) := by decide +kernel
theorem d47 : decode yB 47 = .ok (.ifCond (.eq) 7, 3) := by decide +kernel
theorem d50 : decode yB 50 = .ok (.iconst 1, 1) := by decide +kernel
theorem d51 : decode yB 51 = .ok (.goto 4, 3) := by decide +kernel
theorem d54 : decode yB 54 = .ok (.iconst 0, 1) := by decide +kernel
theorem d55 : decode yB 55 = .ok (.ireturn, 1) := by decide +kernel
def site : List Cond := [.classLink "java/lang/String" 10 "java/lang/String", .fieldLink "java/lang/String" 38 "java/lang/String" "COMPACT_STRINGS" "Z", .fieldLink "java/lang/String" 15 "java/lang/String" "coder" "B", .fieldLink "java/lang/String" 9 "java/lang/String" "value" "[B", LEq.tab] ++ staticW "java/lang/String" 541 LEq.yN
def tab : Cond := tabOf yN yB 3 (some .boolean) site
def P (x t : Addr) (V : Cell) (cd : Int32) (n : Nat) (f : Nat → Int32) (y t' : Addr) (V' : Cell) (cd' : Int32) (k : Nat) (g : Nat → Int32) (z : Int32) (args : Array Value) (s : State) : Prop := args = #[.ref x, .ref y] ∧ Txt x t V cd n f s ∧ Txt y t' V' cd' k g s ∧ StaticIs s "java/lang/String" "COMPACT_STRINGS" "Z" (.int z) ∧ ¬ z = 0
/-- equals(Object) of two Strings: whether the texts are the same -/
theorem law (l : Launch) (x t : Addr) (V : Cell) (cd : Int32) (n : Nat) (f : Nat → Int32) (y t' : Addr) (V' : Cell) (cd' : Int32) (k : Nat) (g : Nat → Int32) (z : Int32) : Law l yN 2 1 1 14 yB 3 (some .boolean) site (P x t V cd n f y t' V' cd' k g z) (Says01 (SameT n f k g)) [] 0 0 := by
  refine Law.of_walk (plainFor_of_name (by decide +kernel)) (by decide +kernel) (by decide +kernel) (by decide) (fun _ _ h => by rw [h.1]; rfl) (fun _ U U' hal hh h => ⟨h.1, h.2.1.mv hal hh, h.2.2.1.mv hal hh, h.2.2.2.1.there hal hh, h.2.2.2.2⟩) (fun r U U' V V' h1 hal h2 h => Says01.mv r U U' V V' h1 hal h2 h) ?_
  intro p e s m args below meth c s₁ X0 hexec hbytes hml hret hlk hnm hown hh0 W hP
  obtain ⟨rfl, hx, hy, s1, hz⟩ := hP
  have c1 : Steps p.tables e below (s₁.setTop (entryFrame m #[.ref x, .ref y] 3)) (s₁.setTop (mkF m 2 #[.val (.ref x), .val (.ref y), .unset] [.ref y, .ref x])) := Steps.trans (entry rfl) (by
    show Steps p.tables e below (s₁.setTop (mkF m 0 #[.val (.ref x), .val (.ref y), .unset] [])) _
    refine XS.aloadN X0.here hexec rfl (hb hbytes d0) rfl rfl ?_
    refine XS.aloadN X0.here hexec rfl (hb hbytes d1) rfl rfl ?_
    exact Steps.refl _)
  by_cases hxy : x = y
  · have c2 : Steps p.tables e below (s₁.setTop (entryFrame m #[.ref x, .ref y] 3)) (s₁.setTop (mkF m 6 #[.val (.ref x), .val (.ref y), .unset] [.int 1])) := c1.trans (by
      refine acmpNo X0.here hexec rfl (hb hbytes d2) rfl rfl rfl (by simp [acmp, hxy]) ?_
      refine iconstV X0.here hexec rfl 1 (hb hbytes d5) (by decide) ?_
      exact Steps.refl _)
    subst hxy
    have ec : cd = cd' := by
      obtain ⟨D, fd, a1, a2, a3⟩ := hx.2.2.1
      obtain ⟨D', fd', b1, b2, b3⟩ := hy.2.2.1
      cases a1.symm.trans b1
      obtain ⟨q1, q2, q3, q4⟩ := a2.1
      obtain ⟨r1, r2, r3, r4⟩ := b2.1
      cases q4.symm.trans r4
      cases a3.symm.trans b3; rfl
    have et : t = t' := by
      obtain ⟨D, fd, a1, a2, a3⟩ := hx.2.1
      obtain ⟨D', fd', b1, b2, b3⟩ := hy.2.1
      cases a1.symm.trans b1
      obtain ⟨q1, q2, q3, q4⟩ := a2.1
      obtain ⟨r1, r2, r3, r4⟩ := b2.1
      cases q4.symm.trans r4
      cases a3.symm.trans b3; rfl
    subst ec et
    have ev : V = V' := by cases hx.2.2.2.1.1.symm.trans hy.2.2.2.1.1; rfl
    subst ev
    have hs : SameT n f k g := (Cod.eqv hx.2.2.2.2.1 hy.2.2.2.2.1 hx.2.2.2.2.2 hy.2.2.2.2.2).mp ⟨rfl, fun _ _ => rfl⟩
    exact ⟨s₁, some (.int 1), _, _, _, X0, rfl, rfl, rfl, (fun h => by cases h), ⟨1, rfl, hh0, Or.inl ⟨rfl, hs⟩⟩, fun fs hl => c2.trans (X0.ireturnOut hexec hret rfl (Or.inr (Or.inl rfl)) (hb hbytes d6) hl)⟩
  · have c2 : Steps p.tables e below (s₁.setTop (entryFrame m #[.ref x, .ref y] 3)) (s₁.setTop (mkF m 8 #[.val (.ref x), .val (.ref y), .unset] [.ref y])) := c1.trans (by
      refine acmpYes X0.here hexec rfl (pc0 := 2) rfl (hb hbytes d2) rfl rfl rfl (by simp [acmp, hxy]) (by decide) rfl ?_
      refine XS.aloadN X0.here hexec rfl (hb hbytes d7) rfl rfl ?_
      exact Steps.refl _)
    obtain ⟨T3, X3, q3, st3⟩ := cinst X0 hexec hown (wk W (.classLink "java/lang/String" 10 "java/lang/String")) (hy.mv X0.warmed.alike hh0).1 (g := (mkF m 8 #[.val (.ref x), .val (.ref y), .unset] [.ref y])) rfl (rest := []) rfl (hb hbytes d8)
    have hh3 := q3.trans hh0
    have c4 : Steps p.tables e below (s₁.setTop (entryFrame m #[.ref x, .ref y] 3)) (T3.setTop (mkF m 15 #[.val (.ref x), .val (.ref y), .unset] [.ref y])) := (c2.trans (st3 _ (Steps.refl _))).trans (by
      refine XS.ifNo X3.here hexec rfl (hb hbytes d11) rfl (i0_eq_f (by decide)) ?_
      refine XS.aloadN X3.here hexec rfl (hb hbytes d14) rfl rfl ?_
      exact Steps.refl _)
    obtain ⟨T5, X5, q5, st5⟩ := cself X3 hexec hown (wk W (.classLink "java/lang/String" 10 "java/lang/String")) (hy.mv X3.warmed.alike hh3).1 (g := (mkF m 15 #[.val (.ref x), .val (.ref y), .unset] [.ref y])) rfl (rest := []) rfl (hb hbytes d15)
    have hh5 := q5.trans hh3
    have c6 : Steps p.tables e below (s₁.setTop (entryFrame m #[.ref x, .ref y] 3)) (T5.setTop (mkF m 19 #[.val (.ref x), .val (.ref y), .val (.ref y)] [])) := (c4.trans (st5 _ (Steps.refl _))).trans (by
      refine XS.astoreN X5.here hexec rfl (hb hbytes d18) rfl rfl rfl ?_
      exact Steps.refl _)
    obtain ⟨T7, X7, q7, st7⟩ := X5.sget hexec hown (wk W (.fieldLink "java/lang/String" 38 "java/lang/String" "COMPACT_STRINGS" "Z")) s1 (fun _ _ h => by rw [hh5]; exact h) (g := (mkF m 19 #[.val (.ref x), .val (.ref y), .val (.ref y)] [])) rfl (hb hbytes d19)
    have hh7 := q7.trans hh5
    have c8 : Steps p.tables e below (s₁.setTop (entryFrame m #[.ref x, .ref y] 3)) (T7.setTop (mkF m 26 #[.val (.ref x), .val (.ref y), .val (.ref y)] [.ref x])) := (c6.trans (st7 _ (Steps.refl _))).trans (by
      refine XS.ifNo X7.here hexec rfl (hb hbytes d22) rfl (i0_eq_f hz) ?_
      refine XS.aloadN X7.here hexec rfl (hb hbytes d25) rfl rfl ?_
      exact Steps.refl _)
    obtain ⟨T9, X9, q9, st9⟩ := X7.hget hexec hown (wk W (.fieldLink "java/lang/String" 15 "java/lang/String" "coder" "B")) (hx.mv X7.warmed.alike hh7).2.2.1 (g := (mkF m 26 #[.val (.ref x), .val (.ref y), .val (.ref y)] [.ref x])) rfl (rest := []) rfl (hb hbytes d26)
    have hh9 := q9.trans hh7
    have c10 : Steps p.tables e below (s₁.setTop (entryFrame m #[.ref x, .ref y] 3)) (T9.setTop (mkF m 30 #[.val (.ref x), .val (.ref y), .val (.ref y)] [.ref y, .int cd])) := (c8.trans (st9 _ (Steps.refl _))).trans (by
      refine XS.aloadN X9.here hexec rfl (hb hbytes d29) rfl rfl ?_
      exact Steps.refl _)
    obtain ⟨T11, X11, q11, st11⟩ := X9.hget hexec hown (wk W (.fieldLink "java/lang/String" 15 "java/lang/String" "coder" "B")) (hy.mv X9.warmed.alike hh9).2.2.1 (g := (mkF m 30 #[.val (.ref x), .val (.ref y), .val (.ref y)] [.ref y, .int cd])) rfl (rest := [.int cd]) rfl (hb hbytes d30)
    have hh11 := q11.trans hh9
    have c12 : Steps p.tables e below (s₁.setTop (entryFrame m #[.ref x, .ref y] 3)) (T11.setTop (mkF m 33 #[.val (.ref x), .val (.ref y), .val (.ref y)] [.int cd', .int cd])) := c10.trans (st11 _ (Steps.refl _))
    by_cases hcd : cd = cd'
    · subst hcd
      have c13 : Steps p.tables e below (s₁.setTop (entryFrame m #[.ref x, .ref y] 3)) (T11.setTop (mkF m 37 #[.val (.ref x), .val (.ref y), .val (.ref y)] [.ref x])) := c12.trans (by
        refine XS.icmpNo X11.here hexec rfl (hb hbytes d33) rfl (ii_ne_f rfl) ?_
        refine XS.aloadN X11.here hexec rfl (hb hbytes d36) rfl rfl ?_
        exact Steps.refl _)
      obtain ⟨T14, X14, q14, st14⟩ := X11.hget hexec hown (wk W (.fieldLink "java/lang/String" 9 "java/lang/String" "value" "[B")) (hx.mv X11.warmed.alike hh11).2.1 (g := (mkF m 37 #[.val (.ref x), .val (.ref y), .val (.ref y)] [.ref x])) rfl (rest := []) rfl (hb hbytes d37)
      have hh14 := q14.trans hh11
      have c15 : Steps p.tables e below (s₁.setTop (entryFrame m #[.ref x, .ref y] 3)) (T14.setTop (mkF m 41 #[.val (.ref x), .val (.ref y), .val (.ref y)] [.ref y, .ref t])) := (c13.trans (st14 _ (Steps.refl _))).trans (by
        refine XS.aloadN X14.here hexec rfl (hb hbytes d40) rfl rfl ?_
        exact Steps.refl _)
      obtain ⟨T16, X16, q16, st16⟩ := X14.hget hexec hown (wk W (.fieldLink "java/lang/String" 9 "java/lang/String" "value" "[B")) (hy.mv X14.warmed.alike hh14).2.1 (g := (mkF m 41 #[.val (.ref x), .val (.ref y), .val (.ref y)] [.ref y, .ref t])) rfl (rest := [.ref t]) rfl (hb hbytes d41)
      have hh16 := q16.trans hh14
      have c17 : Steps p.tables e below (s₁.setTop (entryFrame m #[.ref x, .ref y] 3)) (T16.setTop (mkF m 44 #[.val (.ref x), .val (.ref y), .val (.ref y)] [.ref t', .ref t])) := c15.trans (st16 _ (Steps.refl _))
      obtain ⟨v18, T18, X18, E18, g18⟩ := X16.callS hexec (LEq.law l t V t' V') hown (wks W (staticW "java/lang/String" 541 LEq.yN)) (wk W LEq.tab) (W := 0) (Nat.le_of_ble_eq_true rfl) (Nat.le_of_ble_eq_true rfl) (Nat.le_refl _) (Nat.le_refl _) (g := (mkF m 44 #[.val (.ref x), .val (.ref y), .val (.ref y)] [.ref t', .ref t])) rfl (by rw [hml]; rfl) c17 (argsL := [.ref t, .ref t']) (rest := []) rfl rfl (by show 2 * 0 + 0 ≤ _; decide) (hb hbytes d44) (⟨rfl, hx.2.2.2.1.mv X16.warmed.alike hh16, hx.2.2.2.2.1.ty, hy.2.2.2.1.mv X16.warmed.alike hh16, hy.2.2.2.2.1.ty⟩)
      obtain ⟨v, rfl, q18, hv⟩ := E18
      have iff := Cod.eqv hx.2.2.2.2.1 hy.2.2.2.2.1 hx.2.2.2.2.2 hy.2.2.2.2.2
      rcases hv with ⟨rfl, he⟩ | ⟨rfl, he⟩
      · have c19 : Steps p.tables e below (s₁.setTop (entryFrame m #[.ref x, .ref y] 3)) (T18.setTop (mkF m 55 #[.val (.ref x), .val (.ref y), .val (.ref y)] [.int 1])) := Steps.trans g18 (by
          refine XS.ifNo X18.here hexec rfl (hb hbytes d47) rfl (i0_eq_f (by decide)) ?_
          refine iconstV X18.here hexec rfl 1 (hb hbytes d50) (by decide) ?_
          refine XS.goto X18.here hexec rfl (pc0 := 51) rfl (hb hbytes d51) (by decide) rfl ?_
          exact Steps.refl _)
        exact ⟨T18, some (.int 1), _, _, _, X18, rfl, rfl, rfl, (fun h => by cases h), ⟨1, rfl, q18.trans hh16, Or.inl ⟨rfl, iff.mp he⟩⟩, fun fs hl => c19.trans (X18.ireturnOut hexec hret rfl (Or.inr (Or.inl rfl)) (hb hbytes d55) hl)⟩
      · have c19 : Steps p.tables e below (s₁.setTop (entryFrame m #[.ref x, .ref y] 3)) (T18.setTop (mkF m 55 #[.val (.ref x), .val (.ref y), .val (.ref y)] [.int 0])) := Steps.trans g18 (by
          refine XS.ifYes X18.here hexec rfl (pc0 := 47) rfl (hb hbytes d47) rfl (i0_eq_t rfl) (by decide) rfl ?_
          refine iconstV X18.here hexec rfl 0 (hb hbytes d54) (by decide) ?_
          exact Steps.refl _)
        exact ⟨T18, some (.int 0), _, _, _, X18, rfl, rfl, rfl, (fun h => by cases h), ⟨0, rfl, q18.trans hh16, Or.inr ⟨rfl, fun q => he (iff.mpr q)⟩⟩, fun fs hl => c19.trans (X18.ireturnOut hexec hret rfl (Or.inr (Or.inl rfl)) (hb hbytes d55) hl)⟩
    · have c13 : Steps p.tables e below (s₁.setTop (entryFrame m #[.ref x, .ref y] 3)) (T11.setTop (mkF m 55 #[.val (.ref x), .val (.ref y), .val (.ref y)] [.int 0])) := c12.trans (by
        refine XS.icmpYes X11.here hexec rfl (pc0 := 33) rfl (hb hbytes d33) rfl (ii_ne_t hcd) (by decide) rfl ?_
        refine iconstV X11.here hexec rfl 0 (hb hbytes d54) (by decide) ?_
        exact Steps.refl _)
      exact ⟨T11, some (.int 0), _, _, _, X11, rfl, rfl, rfl, (fun h => by cases h), ⟨0, rfl, hh11, Or.inr ⟨rfl, Cod.dif hx.2.2.2.2.1 hy.2.2.2.2.1 hcd⟩⟩, fun fs hl => c13.trans (X11.ireturnOut hexec hret rfl (Or.inr (Or.inl rfl)) (hb hbytes d55) hl)⟩
theorem pays {l : Launch} {R : Room} {p : Program} {e : Env} {below : List Frame} {s : State} {sargs : Array Value} {len W : Nat} (x t : Addr) (V : Cell) (cd : Int32) (n : Nat) (f : Nat → Int32) (y t' : Addr) (V' : Cell) (cd' : Int32) (k : Nat) (g : Nat → Int32) (z : Int32) (htab : tab.before sargs s = true) (hfr : 2 ≤ R.frames) (hlo : W + 28 ≤ R.locals) :
    Back l R p e below s sargs yN len W (fun A₁ a₁ => A₁.cells + 0 ≤ R.cells ∧ A₁.slots + 0 ≤ R.slots ∧ P x t V cd n f y t' V' cd' k g z a₁ A₁.U) (fun A₁ _ v₁ B₁ => Says01 (SameT n f k g) v₁ A₁.U B₁.U ∧ B₁.locs = A₁.locs ++ [] ∧ B₁.cells = A₁.cells + 0 ∧ B₁.slots = A₁.slots + 0) :=
  (law l x t V cd n f y t' V' cd' k g z).pays htab hfr (by omega)
end SEq
end StrChars
namespace StrChars.Road
open Jvm Sem ClassFile Op Lib Jvm.Stand Jvm.Free Jvm.Free.XT
open Jvm.Lib.Cold (StaticIs)
/-- the words of String.equals(Object) -/
abbrev wordsEq : List Jvm.Cond := [.code SEq.yN SEq.yB 3 (some .boolean), .initialized ST, .classLink ST 10 ST, .fieldLink ST 38 ST "COMPACT_STRINGS" "Z", .fieldLink ST 15 ST "coder" "B", .fieldLink ST 9 ST "value" "[B", .methodLink ST 541 LEq.yN, .static LEq.yN, .code LEq.yN LEq.yB 3 (some .boolean), .initialized "java/lang/StringLatin1"]
theorem tabEq_of {a : Array Value} {s : State} (h : ∀ w ∈ wordsEq, w.before a s = true) : SEq.tab.before a s = true := by
  have hl : LEq.tab.before a s = true := unparts (wk h (.code LEq.yN LEq.yB 3 (some .boolean))) (wks h (.initialized LEq.yN.cls :: LEq.site))
  have q := consq hl h
  exact unparts (wk q (.code SEq.yN SEq.yB 3 (some .boolean))) (wks q (.initialized SEq.yN.cls :: SEq.site))
theorem movedEq {Z s : State} {a0 args : Array Value} (hZ : Z.Warmed39 s.vm) (hw : ∀ d ∈ wordsEq, d.before a0 Z = true) : ∀ d ∈ wordsEq, d.before args s = true := fun d hd => by
  have t : ∀ d ∈ wordsEq, (d.onTables && d.keepsFace) = true := by decide +kernel
  exact RoadKit.mv hZ (hw d hd) (t d hd)
/-- the road's facts of a String, as the laws ask it -/
theorem txt_of {Z U : State} {a0 : Array Value} {kI : Nat} (wi : (Jvm.Cond.instantiable ST kI).before a0 Z = true) (al : Z.vm.Alike U.vm) {x t : Addr} {kb : ClassId} {cs : List Int32} {cd N2 : Int32} {vs : List Value} (E : RoadKit.Exa Z U.heap x ST) (V : RoadKit.Fld Z U.heap x ST "value" "[B" (.ref t)) (C : RoadKit.Fld Z U.heap x ST "coder" "B" (.int cd)) (K : RoadKit.Arv Z U.heap t kb .byte N2 vs (.int 0)) (hc : CodA cs cd N2 vs) (hb : ∀ c ∈ cs, ¬ c < 0 ∧ ¬ (65535 : Int32) < c) (l2 : cs.length ≤ 4000) :
    ∃ A, Txt x t A cd cs.length (fun j => cs.getD j 0) U := by
  obtain ⟨A, K1, K2, K3, K4, K5, K6⟩ := K
  have hcod := hc.cod (by omega) K3 K5
  obtain ⟨D, fV, fC, hB, F1, F2, g1, g2, -, -⟩ := strObj wi al E V C
  exact ⟨A, ⟨_, hB.2.2.1, D, hB.1, rfl, by cases q : D.vm <;> first | rfl | exact absurd q (hB.2.1.2 _)⟩, Has.of hB F1 g1, Has.of hB F2 g2, ⟨K1.1, State.isArrayOf_alike al K1.2.1, K1.2.2, by rcases hcod with ⟨-, q, -⟩ | ⟨-, q, -⟩ <;> omega⟩, hcod, fun j hj => by
    have e : cs.getD j 0 = cs[j] := by simp [List.getD_eq_getElem?_getD, hj]
    show ¬ cs.getD j 0 < 0 ∧ ¬ 65535 < cs.getD j 0
    rw [e]; exact hb _ (List.getElem_mem _)⟩
theorem same_list (cs ds : List Int32) : SameT cs.length (fun j => cs.getD j 0) ds.length (fun j => ds.getD j 0) ↔ cs = ds := by
  constructor
  · rintro ⟨e, q⟩
    refine List.ext_getElem e fun j h1 h2 => ?_
    have := q j h1
    simpa [List.getD_eq_getElem?_getD, h1, h2] using this
  · rintro rfl
    exact ⟨rfl, fun _ _ => rfl⟩
/-- **equals(Object) OF TWO SUCH STRINGS**: 1 just where the chars are the same -/
theorem eqW {p : Program} {l : Launch} {e : Env} {R : Room} {s : State} {args : Array Value} {below : List Frame} {len W : Nat} {Z : State} {a0 : Array Value} {h : Heap} (hZ : Z.Warmed39 s.vm) (hw : ∀ d ∈ wordsEq, d.before a0 Z = true) {kI : Nat} (wi : (Jvm.Cond.instantiable ST kI).before a0 Z = true)
    {x t : Addr} {kb : ClassId} {cs : List Int32} {cd N2 : Int32} {vs : List Value} (E : RoadKit.Exa Z h x ST) (V : RoadKit.Fld Z h x ST "value" "[B" (.ref t)) (C : RoadKit.Fld Z h x ST "coder" "B" (.int cd)) (K : RoadKit.Arv Z h t kb .byte N2 vs (.int 0)) (hc : CodA cs cd N2 vs) (hb : ∀ c ∈ cs, ¬ c < 0 ∧ ¬ (65535 : Int32) < c) (l2 : cs.length ≤ 4000)
    {y t' : Addr} {kb' : ClassId} {ds : List Int32} {cd' N2' : Int32} {vs' : List Value} (E' : RoadKit.Exa Z h y ST) (V' : RoadKit.Fld Z h y ST "value" "[B" (.ref t')) (C' : RoadKit.Fld Z h y ST "coder" "B" (.int cd')) (K' : RoadKit.Arv Z h t' kb' .byte N2' vs' (.int 0)) (hc' : CodA ds cd' N2' vs') (hb' : ∀ c ∈ ds, ¬ c < 0 ∧ ¬ (65535 : Int32) < c) (l2' : ds.length ≤ 4000)
    {z : Int32} (S : RoadKit.Sta Z h ST "COMPACT_STRINGS" "Z" (.int z)) (hz : ¬ z = 0) (hfr : 2 ≤ R.frames) (hlo : W + 28 ≤ R.locals) :
    Back l R p e below s args (⟨"java/lang/String", "equals", "(Ljava/lang/Object;)Z"⟩ : MethodName) len W (fun P a => a = #[.ref x, .ref y] ∧ P.U.heap = h ∧ P.cells + 0 ≤ R.cells ∧ P.slots + 0 ≤ R.slots)
      (fun P _ v B => ∃ L, (((v = some (.int 1) ∧ cs = ds) ∨ (v = some (.int 0) ∧ ¬ cs = ds)) ∧ L = [] ∧ B.U.heap = h) ∧ B.locs = P.locs ++ L ∧ B.cells = P.cells + 0 ∧ B.slots = P.slots + 0) := by
  intro m meth c P g ig mk a X hg hsize hdg hW hn hp'
  obtain ⟨rfl, rfl, r1, r2⟩ := hp'
  have al : Z.vm.Alike P.U.vm := hZ.alike.trans X.warmed.alike
  obtain ⟨A, hx⟩ := txt_of wi al E V C K hc hb l2
  obtain ⟨A', hy⟩ := txt_of wi al E' V' C' K' hc' hb' l2'
  obtain ⟨v, B, X', ⟨⟨w, hv, hh, hq⟩, hl, hk, hs⟩, st⟩ := SEq.pays x t A cd cs.length (fun j => cs.getD j 0) y t' A' cd' ds.length (fun j => ds.getD j 0) z (tabEq_of (movedEq hZ hw)) hfr hlo m meth c P g ig mk _ X hg hsize hdg hW hn ⟨r1, r2, rfl, hx, hy, sta_is al S, hz⟩
  refine ⟨v, B, X', ⟨[], ⟨?_, rfl, hh⟩, hl, hk, hs⟩, st⟩
  rcases hq with ⟨rfl, q⟩ | ⟨rfl, q⟩
  · exact Or.inl ⟨hv, (same_list cs ds).mp q⟩
  · exact Or.inr ⟨hv, fun e => q ((same_list cs ds).mpr e)⟩
end StrChars.Road
namespace StrChars.Road
open Jvm Sem ClassFile Op Lib Jvm.Stand Jvm.Free Jvm.Free.XT
open Jvm.Lib.Cold (StaticIs)
/-- what backV says of its String, as the contracts of this text ask it: cs's low bytes, coder 0 -/
theorem codOf {cs : List Int32} {n : Nat} (hn : cs.length = n) (hb : ∀ c ∈ cs, ¬ 255 < c) : CodA cs 0 (Int32.ofNat n) ((cs.map lo8).map Value.int) := Or.inl ⟨rfl, by rw [hn], by simp [List.map_map, Function.comp_def], hb⟩
end StrChars.Road
end Jvm.Pilot.@@N@@
namespace Jvm.Pilot.@@N@@
open Jvm Jvm.ClassFile Sem Op Lib Jvm.Free Jvm.Stand Jvm.LawKit Jvm.RoadKit Bundle Jvm.Pilot.@@N@@.Jvm.D
/-- from the state A the run comes to an end with P -/
def Gl (tb : Tables) (e : Env) (below : List Frame) (P : Outcome → State → Prop) (A : State) : Prop := ∃ U o, Steps tb e below A U ∧ U.status = .running ∧ Ended U below o ∧ P o U
theorem Gl.go {tb : Tables} {e : Env} {below : List Frame} {P : Outcome → State → Prop} {A B : State} (h : ∀ t, Steps tb e below B t → Steps tb e below A t) (k : Gl tb e below P B) : Gl tb e below P A := by
  obtain ⟨U, o, h1, r⟩ := k
  exact ⟨U, o, h U h1, r⟩
theorem Gl.st {tb : Tables} {e : Env} {below : List Frame} {P : Outcome → State → Prop} {A B : State} (h : Steps tb e below A B) (k : Gl tb e below P B) : Gl tb e below P A := by
  obtain ⟨U, o, h1, r⟩ := k
  exact ⟨U, o, h.trans h1, r⟩
/-- from the state A the run comes to the frame F over a state of which P holds -/
def Sg (P : State → Prop) (F : JFrame) (tb : Tables) (e : Env) (below : List Frame) (A : State) : Prop := ∃ T, P T ∧ ∀ t, Steps tb e below (T.setTop F) t → Steps tb e below A t
theorem Sg.go {P : State → Prop} {F : JFrame} {tb : Tables} {e : Env} {below : List Frame} {A B : State} (h : ∀ t, Steps tb e below B t → Steps tb e below A t) (k : Sg P F tb e below B) : Sg P F tb e below A := by
  obtain ⟨T, h1, h2⟩ := k
  exact ⟨T, h1, fun t ht => h t (h2 t ht)⟩
theorem Sg.st {P : State → Prop} {F : JFrame} {tb : Tables} {e : Env} {below : List Frame} {A B : State} (h : Steps tb e below A B) (k : Sg P F tb e below B) : Sg P F tb e below A := by
  obtain ⟨T, h1, h2⟩ := k
  exact ⟨T, h1, fun t ht => h.trans (h2 t ht)⟩
/-- what is shown of a state holds also where the run comes from -/
def Cl (tb : Tables) (e : Env) (below : List Frame) (K : State → Prop) : Prop := ∀ A B, (∀ t, Steps tb e below B t → Steps tb e below A t) → K B → K A
theorem Gl.cl {tb : Tables} {e : Env} {below : List Frame} {P : Outcome → State → Prop} : Cl tb e below (Gl tb e below P) := fun _ _ h k => Gl.go h k
theorem Sg.cl {P : State → Prop} {F : JFrame} {tb : Tables} {e : Env} {below : List Frame} : Cl tb e below (Sg P F tb e below) := fun _ _ h k => Sg.go h k
section Glue
variable {p : Program} {l : Launch} {e : Env} {R : Room} {s : State} {m : MethodId} {args : Array Value} {below : List Frame} {meth : Method} {c : Code} {T : State} {locs : List Loc} {cells slots : Nat} {Z : State} {a0 : Array Value} {h : Heap} {K0 : State → Prop} {pc : Nat} {Ls : Array Slot} {Ks : List Value} {rest : List Value}
theorem gGetF {own R0 O n d host : String} {index : Nat} {a : Addr} {v : Value} (hG : Cl p.tables e below K0) (X : Stand p l e R s m args below meth c T locs cells slots) (hx : p.tables.exec = Jvm.exec) (hZ : Z.Warmed39 s.vm) (hown : s.vm.findClass own = some m.cls) (w : (Cond.fieldLink own index R0 n d).before a0 Z = true ∨ (Cond.fieldLinkNest own index R0 n d host).before a0 Z = true) (via : Via Z R0 O n d) (eT : T.heap = h) (F : Fld Z h a O n d v) (hg : m = m) (hs : Ks = .ref a :: rest) (hd : decode c.code pc = .ok (.getfield index, 3))
    (k : ∀ T', Stand p l e R s m args below meth c T' locs cells slots → T'.heap = h → K0 (T'.setTop (mkF m (pc + 3) (Ls) (v :: rest)))) : K0 (T.setTop (mkF m pc Ls Ks)) := by
  obtain ⟨T', X', e', st⟩ := getF (g := mkF m pc Ls Ks) X hx hZ hown w via eT F hg hs hd
  exact hG _ _ st (k T' X' e')
theorem gGetS {own R0 O n d host : String} {index : Nat} {v : Value} (hG : Cl p.tables e below K0) (X : Stand p l e R s m args below meth c T locs cells slots) (hx : p.tables.exec = Jvm.exec) (hZ : Z.Warmed39 s.vm) (hown : s.vm.findClass own = some m.cls) (w : (Cond.fieldLink own index R0 n d).before a0 Z = true ∨ (Cond.fieldLinkNest own index R0 n d host).before a0 Z = true) (via : Via Z R0 O n d) (eT : T.heap = h) (F : Sta Z h O n d v) (hg : m = m) (hd : decode c.code pc = .ok (.getstatic index, 3))
    (k : ∀ T', Stand p l e R s m args below meth c T' locs cells slots → T'.heap = h → K0 (T'.setTop (mkF m (pc + 3) (Ls) (v :: Ks)))) : K0 (T.setTop (mkF m pc Ls Ks)) := by
  obtain ⟨T', X', e', st⟩ := getS2 (g := mkF m pc Ls Ks) X hx hZ hown w via eT F hg hd
  exact hG _ _ st (k T' X' e')
theorem gPutF {own R0 O n d host C : String} {index kk : Nat} {ty : FieldType} {a : Addr} {v old : Value} (hG : Cl p.tables e below K0) (X : Stand p l e R s m args below meth c T locs cells slots) (hx : p.tables.exec = Jvm.exec) (hZ : Z.Warmed39 s.vm) (hown : s.vm.findClass own = some m.cls) (w : (Cond.fieldLink own index R0 n d).before a0 Z = true ∨ (Cond.fieldLinkNest own index R0 n d host).before a0 Z = true) (via : Via Z R0 O n d) (eT : T.heap = h) (F : Fld Z h a O n d old) (E : Exa Z h a C) (L : (Cond.lays C O n d).before a0 Z = true ∨ ((Cond.laysFinal C O n d).before a0 Z = true ∧ own = O ∧ meth.name = "<init>")) (wi : (Cond.instantiable C kk).before a0 Z = true) (hty : parseFieldDescriptor d = some ty) (hn : narrow ty v = v) (hf : fits ty v = true) (hg : m = m) (hs : Ks = v :: .ref a :: rest) (hd : decode c.code pc = .ok (.putfield index, 3))
    (k : ∀ T' h', Stand p l e R s m args below meth c T' (locs ++ [⟨a, Jvm.RoadKit.slotOf Z O n d⟩]) cells slots → T'.heap = h' → Wr h h' a (Jvm.RoadKit.slotOf Z O n d) v → K0 (T'.setTop (mkF m (pc + 3) (Ls) (rest)))) : K0 (T.setTop (mkF m pc Ls Ks)) := by
  obtain ⟨T', h', X', e', W, st⟩ := putF (g := mkF m pc Ls Ks) X hx hZ hown w via eT F E L wi hty hn hf hg hs hd
  exact hG _ _ st (k T' h' X' e' W)
theorem gPutFN {own R0 O n d C : String} {index kk : Nat} {ty : FieldType} {a : Addr} {v v' old : Value} (hG : Cl p.tables e below K0) (X : Stand p l e R s m args below meth c T locs cells slots) (hx : p.tables.exec = Jvm.exec) (hZ : Z.Warmed39 s.vm) (hown : s.vm.findClass own = some m.cls) (w : (Cond.fieldLink own index R0 n d).before a0 Z = true) (via : Via Z R0 O n d) (eT : T.heap = h) (F : Fld Z h a O n d old) (E : Exa Z h a C) (L : (Cond.lays C O n d).before a0 Z = true ∨ ((Cond.laysFinal C O n d).before a0 Z = true ∧ own = O ∧ meth.name = "<init>")) (wi : (Cond.instantiable C kk).before a0 Z = true) (hty : parseFieldDescriptor d = some ty) (hn : narrow ty v = v') (hf : fits ty v' = true) (hg : m = m) (hs : Ks = v :: .ref a :: rest) (hd : decode c.code pc = .ok (.putfield index, 3))
    (k : ∀ T' h', Stand p l e R s m args below meth c T' (locs ++ [⟨a, Jvm.RoadKit.slotOf Z O n d⟩]) cells slots → T'.heap = h' → Wr h h' a (Jvm.RoadKit.slotOf Z O n d) v' → K0 (T'.setTop (mkF m (pc + 3) (Ls) (rest)))) : K0 (T.setTop (mkF m pc Ls Ks)) := by
  obtain ⟨T', h', X', e', W, st⟩ := putFN (g := mkF m pc Ls Ks) X hx hZ hown w via eT F E L wi hty hn hf hg hs hd
  exact hG _ _ st (k T' h' X' e' W)
theorem gCast {own K : String} {index : Nat} {a : Addr} (hG : Cl p.tables e below K0) (X : Stand p l e R s m args below meth c T locs cells slots) (hx : p.tables.exec = Jvm.exec) (hZ : Z.Warmed39 s.vm) (hown : s.vm.findClass own = some m.cls) (w : (Cond.classLink own index K).before a0 Z = true) (eT : T.heap = h) (F : Ins Z h a K true) (hg : m = m) (hs : Ks = .ref a :: rest) (hd : decode c.code pc = .ok (.checkcast index, 3))
    (k : ∀ T', Stand p l e R s m args below meth c T' locs cells slots → T'.heap = h → K0 (T'.setTop (mkF m (pc + 3) (Ls) (Ks)))) : K0 (T.setTop (mkF m pc Ls Ks)) := by
  obtain ⟨T', X', e', st⟩ := castY (g := mkF m pc Ls Ks) X hx hZ hown w eT F hg hs hd
  exact hG _ _ st (k T' X' e')
theorem gInst {own K : String} {index : Nat} {a : Addr} (hG : Cl p.tables e below K0) (X : Stand p l e R s m args below meth c T locs cells slots) (hx : p.tables.exec = Jvm.exec) (hZ : Z.Warmed39 s.vm) (hown : s.vm.findClass own = some m.cls) (w : (Cond.classLink own index K).before a0 Z = true) (eT : T.heap = h) (F : Ins Z h a K true) (hg : m = m) (hs : Ks = .ref a :: rest) (hd : decode c.code pc = .ok (.instanceof index, 3))
    (k : ∀ T', Stand p l e R s m args below meth c T' locs cells slots → T'.heap = h → K0 (T'.setTop (mkF m (pc + 3) (Ls) (.int 1 :: rest)))) : K0 (T.setTop (mkF m pc Ls Ks)) := by
  obtain ⟨T', X', e', st⟩ := instY (g := mkF m pc Ls Ks) X hx hZ hown w eT F hg hs hd
  exact hG _ _ st (k T' X' e')
theorem gInit {own : String} {idx : Nat} {a : Addr} {W : Nat} (hG : Cl p.tables e below K0) (X : Stand p l e R s m args below meth c T locs cells slots) (hx : p.tables.exec = Jvm.exec) (hZ : Z.Warmed39 s.vm) (hown : s.vm.findClass own = some m.cls) (w1 : (Cond.methodLink own idx Lib.objectInit).before a0 Z = true) (w2 : (Cond.instanceMethod Lib.objectInit).before a0 Z = true) (w3 : (Cond.code Lib.objectInit ⟨#[0xb1]⟩ 1 none).before a0 Z = true) (eT : T.heap = h) (hg : m = m) (hsize : Ls.size = c.maxLocals) (hs : Ks = .ref a :: rest) (hd : decode c.code pc = .ok (.invokespecial idx, 3)) (hf : 1 ≤ R.frames) (hW : 2 * 0 + (rest.map fun v => v.category).sum ≤ W) (hl : W + 12 ≤ R.locals)
    (k : ∀ T', Stand p l e R s m args below meth c T' locs cells slots → T'.heap = h → K0 (T'.setTop (mkF m (pc + 3) (Ls) (rest)))) : K0 (T.setTop (mkF m pc Ls Ks)) := by
  obtain ⟨T', X', e', st⟩ := initO (g := mkF m pc Ls Ks) X hx hZ hown w1 w2 w3 eT hg hsize hs hd hf hW hl
  exact hG _ _ st (k T' X' e')
theorem gNew {own C : String} {index n : Nat} (hG : Cl p.tables e below K0) (X : Stand p l e R s m args below meth c T locs cells slots) (hx : p.tables.exec = Jvm.exec) (hZ : Z.Warmed39 s.vm) (hown : s.vm.findClass own = some m.cls) (w : (Cond.classLink own index C).before a0 Z = true) (wi : (Cond.instantiable C n).before a0 Z = true) (wz : (Cond.initialized C).before a0 Z = true) (eT : T.heap = h) (hg : m = m) (hd : decode c.code pc = .ok (.new index, 3)) (hc : cells + 1 ≤ R.cells) (hl : slots + n ≤ R.slots)
    (k : ∀ T' h' b, b = h.size → Stand p l e R s m args below meth c T' locs (cells + 1) (slots + n) → T'.heap = h' → Ext h h' → Exa Z h' b C → (∀ {O nm d : String} {ty : FieldType}, Laid Z a0 C O nm d → parseFieldDescriptor d = some ty → Fld Z h' b O nm d (defaultValue ty)) → K0 (T'.setTop (mkF m (pc + 3) (Ls) (.ref b :: Ks)))) : K0 (T.setTop (mkF m pc Ls Ks)) := by
  obtain ⟨T', h', X', e', E, A, D, -, st⟩ := newO (g := mkF m pc Ls Ks) X hx hZ hown w wi wz eT hg hd hc hl
  exact hG _ _ st (k T' h' _ rfl X' e' E A D)
theorem gNewP {aty : ArrayType} {n : Int32} {cap : Nat} (hG : Cl p.tables e below K0) (X : Stand p l e R s m args below meth c T locs cells slots) (hx : p.tables.exec = Jvm.exec) (hZ : Z.Warmed39 s.vm) (w : (Cond.arrayClass (newarray.typeOf aty)).before a0 Z = true) (eT : T.heap = h) (hg : m = m) (hd : decode c.code pc = .ok (.newarray aty, 2)) (hs : Ks = .int n :: rest) (hn : ¬ n < 0) (hcap : n.toNatClampNeg ≤ cap) (hb : cap * 8 ≤ 536870912) (hc : cells + 1 ≤ R.cells) (hl : slots + cap ≤ R.slots)
    (k : ∀ T' h' b cA, b = h.size → Stand p l e R s m args below meth c T' locs (cells + 1) (slots + cap) → T'.heap = h' → Ext h h' → Arr Z h' b (newA cA (newarray.typeOf aty) n) (newarray.typeOf aty) → K0 (T'.setTop (mkF m (pc + 2) (Ls) (.ref b :: rest)))) : K0 (T.setTop (mkF m pc Ls Ks)) := by
  obtain ⟨T', h', cA, X', e', E, A, st⟩ := newP (g := mkF m pc Ls Ks) X hx hZ w eT hg hd hs hn hcap hb hc hl
  exact hG _ _ st (k T' h' _ cA rfl X' e' E A)
theorem gNewPE {aty : ArrayType} {n : Int32} {cap : Nat} {ad : String} (hG : Cl p.tables e below K0) (X : Stand p l e R s m args below meth c T locs cells slots) (hx : p.tables.exec = Jvm.exec) (hZ : Z.Warmed39 s.vm) (w : (Cond.arrayClass (newarray.typeOf aty)).before a0 Z = true) (eT : T.heap = h) (hg : m = m) (hd : decode c.code pc = .ok (.newarray aty, 2)) (hs : Ks = .int n :: rest) (hn : ¬ n < 0) (hcap : n.toNatClampNeg ≤ cap) (hb : cap * 8 ≤ 536870912) (hc : cells + 1 ≤ R.cells) (hl : slots + cap ≤ R.slots) (had : "[" ++ (newarray.typeOf aty).toString = ad)
    (k : ∀ T' h' b cA, b = h.size → Stand p l e R s m args below meth c T' locs (cells + 1) (slots + cap) → T'.heap = h' → Ext h h' → Arr Z h' b (newA cA (newarray.typeOf aty) n) (newarray.typeOf aty) → Exa Z h' b ad → K0 (T'.setTop (mkF m (pc + 2) (Ls) (.ref b :: rest)))) : K0 (T.setTop (mkF m pc Ls Ks)) := by
  obtain ⟨T', h', cA, X', e', E, A, B, st⟩ := newPE (g := mkF m pc Ls Ks) X hx hZ w eT hg hd hs hn hcap hb hc hl had
  exact hG _ _ st (k T' h' _ cA rfl X' e' E A B)
theorem gstC {a : Addr} {cl : Cell} {j : Int32} {x : Int32} (hG : Cl p.tables e below K0) (X : Stand p l e R s m args below meth c T locs cells slots) (hx : p.tables.exec = Jvm.exec) (hZ : Z.Warmed39 s.vm) (eT : T.heap = h) (A : Arr Z h a cl .char) (hj : ¬ (j < 0 ∨ cl.slots.size ≤ j.toNatClampNeg)) (hg : m = m) (hs : Ks = .int x :: .int j :: .ref a :: rest) (hd : decode c.code pc = .ok (.castore, 1))
    (k : ∀ T' h', Stand p l e R s m args below meth c T' (locs ++ [⟨a, j.toNatClampNeg⟩]) cells slots → T'.heap = h' → Wr h h' a j.toNatClampNeg (.int (nar .char x)) → K0 (T'.setTop (mkF m (pc + 1) (Ls) (rest)))) : K0 (T.setTop (mkF m pc Ls Ks)) := by
  obtain ⟨T', h', X', e', W, st⟩ := stC (g := mkF m pc Ls Ks) X hx hZ eT A hj hg hs hd
  exact hG _ _ st (k T' h' X' e' W)
theorem gstI {a : Addr} {cl : Cell} {j : Int32} {x : Int32} (hG : Cl p.tables e below K0) (X : Stand p l e R s m args below meth c T locs cells slots) (hx : p.tables.exec = Jvm.exec) (hZ : Z.Warmed39 s.vm) (eT : T.heap = h) (A : Arr Z h a cl .int) (hj : ¬ (j < 0 ∨ cl.slots.size ≤ j.toNatClampNeg)) (hg : m = m) (hs : Ks = .int x :: .int j :: .ref a :: rest) (hd : decode c.code pc = .ok (.iastore, 1))
    (k : ∀ T' h', Stand p l e R s m args below meth c T' (locs ++ [⟨a, j.toNatClampNeg⟩]) cells slots → T'.heap = h' → Wr h h' a j.toNatClampNeg (.int x) → K0 (T'.setTop (mkF m (pc + 1) (Ls) (rest)))) : K0 (T.setTop (mkF m pc Ls Ks)) := by
  obtain ⟨T', h', X', e', W, st⟩ := stI (g := mkF m pc Ls Ks) X hx hZ eT A hj hg hs hd
  exact hG _ _ st (k T' h' X' e' W)
theorem gstB {a : Addr} {cl : Cell} {j : Int32} {x : Int32} (hG : Cl p.tables e below K0) (X : Stand p l e R s m args below meth c T locs cells slots) (hx : p.tables.exec = Jvm.exec) (hZ : Z.Warmed39 s.vm) (eT : T.heap = h) (A : Arr Z h a cl .byte) (hj : ¬ (j < 0 ∨ cl.slots.size ≤ j.toNatClampNeg)) (hg : m = m) (hs : Ks = .int x :: .int j :: .ref a :: rest) (hd : decode c.code pc = .ok (.bastore, 1))
    (k : ∀ T' h', Stand p l e R s m args below meth c T' (locs ++ [⟨a, j.toNatClampNeg⟩]) cells slots → T'.heap = h' → Wr h h' a j.toNatClampNeg (.int (nar .byte x)) → K0 (T'.setTop (mkF m (pc + 1) (Ls) (rest)))) : K0 (T.setTop (mkF m pc Ls Ks)) := by
  obtain ⟨T', h', X', e', W, st⟩ := stB (g := mkF m pc Ls Ks) X hx hZ eT A hj hg hs hd
  exact hG _ _ st (k T' h' X' e' W)
theorem gstJ {a : Addr} {cl : Cell} {j : Int32} {x : Int64} (hG : Cl p.tables e below K0) (X : Stand p l e R s m args below meth c T locs cells slots) (hx : p.tables.exec = Jvm.exec) (hZ : Z.Warmed39 s.vm) (eT : T.heap = h) (A : Arr Z h a cl .long) (hj : ¬ (j < 0 ∨ cl.slots.size ≤ j.toNatClampNeg)) (hg : m = m) (hs : Ks = .long x :: .int j :: .ref a :: rest) (hd : decode c.code pc = .ok (.lastore, 1))
    (k : ∀ T' h', Stand p l e R s m args below meth c T' (locs ++ [⟨a, j.toNatClampNeg⟩]) cells slots → T'.heap = h' → Wr h h' a j.toNatClampNeg (.long x) → K0 (T'.setTop (mkF m (pc + 1) (Ls) (rest)))) : K0 (T.setTop (mkF m pc Ls Ks)) := by
  obtain ⟨T', h', X', e', W, st⟩ := stJ (g := mkF m pc Ls Ks) X hx hZ eT A hj hg hs hd
  exact hG _ _ st (k T' h' X' e' W)
theorem g_iaload {a : Addr} {cl : Cell} {j : Int32} {v : Value} (hG : Cl p.tables e below K0) (X : Stand p l e R s m args below meth c T locs cells slots) (hx : p.tables.exec = Jvm.exec) (hZ : Z.Warmed39 s.vm) (eT : T.heap = h) (A : Arr Z h a cl .int) (hj : ¬ (j < 0 ∨ cl.slots.size ≤ j.toNatClampNeg)) (hv : cl.slots[j.toNatClampNeg]? = some v) (hg : m = m) (hs : Ks = .int j :: .ref a :: rest) (hd : decode c.code pc = .ok (.iaload, 1))
    (k : K0 (T.setTop (mkF m (pc + 1) (Ls) (v :: rest)))) : K0 (T.setTop (mkF m pc Ls Ks)) :=
  hG _ _ (X.iaload (g := mkF m pc Ls Ks) hx (by rw [eT]; exact A.1) (State.isArrayOf_alike hZ.alike A.2.1) A.2.2 hj hv hg hs hd) k
theorem g_laload {a : Addr} {cl : Cell} {j : Int32} {v : Value} (hG : Cl p.tables e below K0) (X : Stand p l e R s m args below meth c T locs cells slots) (hx : p.tables.exec = Jvm.exec) (hZ : Z.Warmed39 s.vm) (eT : T.heap = h) (A : Arr Z h a cl .long) (hj : ¬ (j < 0 ∨ cl.slots.size ≤ j.toNatClampNeg)) (hv : cl.slots[j.toNatClampNeg]? = some v) (hg : m = m) (hs : Ks = .int j :: .ref a :: rest) (hd : decode c.code pc = .ok (.laload, 1))
    (k : K0 (T.setTop (mkF m (pc + 1) (Ls) (v :: rest)))) : K0 (T.setTop (mkF m pc Ls Ks)) :=
  hG _ _ (X.laload (g := mkF m pc Ls Ks) hx (by rw [eT]; exact A.1) (State.isArrayOf_alike hZ.alike A.2.1) A.2.2 hj hv hg hs hd) k
theorem g_caload {a : Addr} {cl : Cell} {j : Int32} {v : Value} (hG : Cl p.tables e below K0) (X : Stand p l e R s m args below meth c T locs cells slots) (hx : p.tables.exec = Jvm.exec) (hZ : Z.Warmed39 s.vm) (eT : T.heap = h) (A : Arr Z h a cl .char) (hj : ¬ (j < 0 ∨ cl.slots.size ≤ j.toNatClampNeg)) (hv : cl.slots[j.toNatClampNeg]? = some v) (hg : m = m) (hs : Ks = .int j :: .ref a :: rest) (hd : decode c.code pc = .ok (.caload, 1))
    (k : K0 (T.setTop (mkF m (pc + 1) (Ls) (v :: rest)))) : K0 (T.setTop (mkF m pc Ls Ks)) :=
  hG _ _ (X.caload (g := mkF m pc Ls Ks) hx (by rw [eT]; exact A.1) (State.isArrayOf_alike hZ.alike A.2.1) A.2.2 hj hv hg hs hd) k
theorem g_baload {a : Addr} {cl : Cell} {j : Int32} {v : Value} (hG : Cl p.tables e below K0) (X : Stand p l e R s m args below meth c T locs cells slots) (hx : p.tables.exec = Jvm.exec) (hZ : Z.Warmed39 s.vm) (eT : T.heap = h) (A : Arr Z h a cl .byte) (hj : ¬ (j < 0 ∨ cl.slots.size ≤ j.toNatClampNeg)) (hv : cl.slots[j.toNatClampNeg]? = some v) (hg : m = m) (hs : Ks = .int j :: .ref a :: rest) (hd : decode c.code pc = .ok (.baload, 1))
    (k : K0 (T.setTop (mkF m (pc + 1) (Ls) (v :: rest)))) : K0 (T.setTop (mkF m pc Ls Ks)) :=
  hG _ _ (X.baloadBytes (g := mkF m pc Ls Ks) hx (by rw [eT]; exact A.1) (State.isArrayOf_alike hZ.alike A.2.1) A.2.2 hj hv hg hs hd) k
theorem g_aaload {a : Addr} {cl : Cell} {j : Int32} {v : Value} {ty : FieldType} (hG : Cl p.tables e below K0) (X : Stand p l e R s m args below meth c T locs cells slots) (hx : p.tables.exec = Jvm.exec) (hZ : Z.Warmed39 s.vm) (eT : T.heap = h) (A : Arr Z h a cl ty) (hty : ty.isReference = true) (hj : ¬ (j < 0 ∨ cl.slots.size ≤ j.toNatClampNeg)) (hv : cl.slots[j.toNatClampNeg]? = some v) (hg : m = m) (hs : Ks = .int j :: .ref a :: rest) (hd : decode c.code pc = .ok (.aaload, 1))
    (k : K0 (T.setTop (mkF m (pc + 1) (Ls) (v :: rest)))) : K0 (T.setTop (mkF m pc Ls Ks)) :=
  hG _ _ (X.aaload (g := mkF m pc Ls Ks) hx (by rw [eT]; exact A.1) (State.isArrayOf_alike hZ.alike A.2.1) hty A.2.2 hj hv hg hs hd) k
theorem gLen {a : Addr} {cl : Cell} {ty : FieldType} {z : Int32} (hG : Cl p.tables e below K0) (X : Stand p l e R s m args below meth c T locs cells slots) (hx : p.tables.exec = Jvm.exec) (hZ : Z.Warmed39 s.vm) (eT : T.heap = h) (A : Arr Z h a cl ty) (S : cl.slots.size = z.toNatClampNeg) (N : ¬ z < 0) (hg : m = m) (hs : Ks = .ref a :: rest) (hd : decode c.code pc = .ok (.arraylength, 1))
    (k : K0 (T.setTop (mkF m (pc + 1) (Ls) (.int z :: rest)))) : K0 (T.setTop (mkF m pc Ls Ks)) := by
  refine hG _ _ (X.arraylength (g := mkF m pc Ls Ks) hx (by rw [eT]; exact A.1) (State.isArrayOf_alike hZ.alike A.2.1) hg hs hd) ?_
  rw [len_of S N]
  exact k
theorem gStaticN {own : String} {index : Nat} {y : MethodName} {bytes : ByteArray} {maxL : Nat} {ret : Option FieldType} {W mc ms : Nat} {as' : Array Value} {Q : Option Value → Heap → List Loc → Prop} {argsL : List Value} (hG : Cl p.tables e below K0) (X : Stand p l e R s m args below meth c T locs cells slots) (hx : p.tables.exec = Jvm.exec) (hZ : Z.Warmed39 s.vm) (hown : s.vm.findClass own = some m.cls) (hlink : (Cond.methodLink own index y).before args s = true) (hstat : (Cond.static y).before args s = true) (hinit : (Cond.initialized y.cls).before args s = true) (hcode : (Cond.code y bytes maxL ret).before args s = true) (hy : y.cls ≠ "java/lang/invoke/MethodHandle" ∧ y.cls ≠ "java/lang/invoke/VarHandle") (hK : Back l R p e below s args y 3 W (fun A a => a = as' ∧ A.U.heap = h ∧ A.cells + mc ≤ R.cells ∧ A.slots + ms ≤ R.slots) (fun A _ v B => ∃ L, Q v B.U.heap L ∧ B.locs = A.locs ++ L ∧ B.cells = A.cells + mc ∧ B.slots = A.slots + ms)) (hg : m = m) (hsize : Ls.size = c.maxLocals) (hlen : ∀ sig, parseMethodDescriptor y.desc = some sig → argsL.length = sig.parameters.length) (hstack : Ks = argsL.reverse ++ rest) (hW : 2 * 0 + (rest.map fun v => v.category).sum ≤ W) (hdg : decode c.code pc = .ok (.invokestatic index, 3)) (has : argsL.toArray = as') (eT : T.heap = h) (hc : cells + mc ≤ R.cells) (hsl : slots + ms ≤ R.slots)
    (k : ∀ (v : Option Value) (T' : State) (L : List Loc), Q v T'.heap L → Stand p l e R s m args below meth c T' (locs ++ L) (cells + mc) (slots + ms) → K0 (T'.setTop (mkF m (pc + 3) (Ls) (v.toList ++ rest)))) : K0 (T.setTop (mkF m pc Ls Ks)) := by
  obtain ⟨v, vm₁, ⟨T', L', k', n'⟩, -, X', ⟨Lc, hQ, h1, h2, h3⟩, st⟩ := Jvm.LawKit.callS (g := mkF m pc Ls Ks) X hx hown hlink hstat hinit hcode hy hK hg hsize hlen hstack hW hdg (fun vm₁ hvm => ⟨has, eT, hc, hsl⟩)
  dsimp only [Pt.U, Pt.locs, Pt.cells, Pt.slots] at X' hQ h1 h2 h3 st
  subst h1 h2 h3
  exact hG _ _ st (k v T' Lc hQ X')
theorem gStaticS {own : String} {index : Nat} {y : MethodName} {bytes : ByteArray} {maxL : Nat} {ret : Option FieldType} {W mc ms : Nat} {as' : Array Value} {Q : Option Value → Heap → List Loc → Prop} {argsL : List Value} {vm0 : Vm} {k0 : Nat} (hG : Cl p.tables e below K0) (X : Stand p l e R (s.setVm vm0) m args below meth c T locs cells slots) (hx : p.tables.exec = Jvm.exec) (hZ : Z.Warmed39 (s.setVm vm0).vm) (hS : s.Since vm0 k0) (hk : k0 ≤ h.size) (hown : (s.setVm vm0).vm.findClass own = some m.cls) (hlink : (Cond.methodLink own index y).before args (s.setVm vm0) = true) (hstat : (Cond.static y).before args (s.setVm vm0) = true) (hinit : (Cond.initialized y.cls).before args (s.setVm vm0) = true) (hcode : (Cond.code y bytes maxL ret).before args (s.setVm vm0) = true) (hy : y.cls ≠ "java/lang/invoke/MethodHandle" ∧ y.cls ≠ "java/lang/invoke/VarHandle") (hK : BackS l R p e below (s.setVm vm0) args y 3 W (fun A a => a = as' ∧ A.U.heap = h ∧ A.cells + mc ≤ R.cells ∧ A.slots + ms ≤ R.slots) (fun A _ v B => ∃ L, Q v B.U.heap L ∧ B.locs = A.locs ++ L ∧ B.cells = A.cells + mc ∧ B.slots = A.slots + ms)) (hg : m = m) (hsize : Ls.size = c.maxLocals) (hlen : ∀ sig, parseMethodDescriptor y.desc = some sig → argsL.length = sig.parameters.length) (hstack : Ks = argsL.reverse ++ rest) (hW : 2 * 0 + (rest.map fun v => v.category).sum ≤ W) (hdg : decode c.code pc = .ok (.invokestatic index, 3)) (has : argsL.toArray = as') (eT : T.heap = h) (hc : cells + mc ≤ R.cells) (hsl : slots + ms ≤ R.slots)
    (k : ∀ (v : Option Value) (T' : State) (L : List Loc), Q v T'.heap L → Stand p l e R (s.setVm T'.vm) m args below meth c T' (locs ++ L) (cells + mc) (slots + ms) → s.Since T'.vm T'.heap.size → Z.Warmed39 (s.setVm T'.vm).vm → (s.setVm T'.vm).vm.findClass own = some m.cls → T'.heap.size ≤ T'.heap.size → K0 (T'.setTop (mkF m (pc + 3) (Ls) (v.toList ++ rest)))) : K0 (T.setTop (mkF m pc Ls Ks)) := by
  obtain ⟨v, vm₁, ⟨T', L', k', n'⟩, -, X', hS', gr, ⟨Lc, hQ, h1, h2, h3⟩, st⟩ := callSS (g := mkF m pc Ls Ks) X hx hown hlink hstat hinit hcode hy hK hg hsize hlen hstack hW hdg (fun vm₁ hvm => ⟨has, eT, hc, hsl⟩)
  dsimp only [Pt.U, Pt.locs, Pt.cells, Pt.slots] at X' hQ h1 h2 h3 st hS' gr
  subst h1 h2 h3
  obtain ⟨X2, hS2, hZ2, hown2⟩ := rebS hS (Nat.le_trans hk (Nat.le_of_eq (congrArg Array.size eT.symm))) X' hS' gr hZ hown
  exact hG _ _ (fun _ q => st.trans q) (k v T' Lc hQ X2 hS2 hZ2 hown2 (Nat.le_refl _))
theorem gStaticJ {own : String} {index : Nat} {y : MethodName} {bytes : ByteArray} {maxL : Nat} {ret : Option FieldType} {W mc ms : Nat} {as' : Array Value} {Q : Option Value → Heap → Vm → List Loc → Prop} {argsL : List Value} {vm0 : Vm} {k0 : Nat} {Φ : Vm → Prop} (hG : Cl p.tables e below K0) (X : Stand p l e R (s.setVm vm0) m args below meth c T locs cells slots) (hx : p.tables.exec = Jvm.exec) (hZ : Z.Warmed39 (s.setVm vm0).vm) (hS : s.Since vm0 k0) (hk : k0 ≤ h.size) (hown : (s.setVm vm0).vm.findClass own = some m.cls) (hlink : (Cond.methodLink own index y).before args (s.setVm vm0) = true) (hstat : (Cond.static y).before args (s.setVm vm0) = true) (hinit : (Cond.initialized y.cls).before args (s.setVm vm0) = true) (hcode : (Cond.code y bytes maxL ret).before args (s.setVm vm0) = true) (hy : y.cls ≠ "java/lang/invoke/MethodHandle" ∧ y.cls ≠ "java/lang/invoke/VarHandle") (hK : BackS l R p e below (s.setVm vm0) args y 3 W (fun A a => a = as' ∧ A.U.heap = h ∧ Φ A.U.vm ∧ A.cells + mc ≤ R.cells ∧ A.slots + ms ≤ R.slots) (fun A _ v B => ∃ L, Q v B.U.heap B.U.vm L ∧ B.locs = A.locs ++ L ∧ B.cells = A.cells + mc ∧ B.slots = A.slots + ms)) (hg : m = m) (hsize : Ls.size = c.maxLocals) (hlen : ∀ sig, parseMethodDescriptor y.desc = some sig → argsL.length = sig.parameters.length) (hstack : Ks = argsL.reverse ++ rest) (hW : 2 * 0 + (rest.map fun v => v.category).sum ≤ W) (hdg : decode c.code pc = .ok (.invokestatic index, 3)) (has : argsL.toArray = as') (eT : T.heap = h) (hΦ : ∀ vm₁, (s.setVm vm0).WarmedH vm₁ → Φ vm₁) (hc : cells + mc ≤ R.cells) (hsl : slots + ms ≤ R.slots)
    (k : ∀ (v : Option Value) (T' : State) (L : List Loc), Q v T'.heap T'.vm L → Stand p l e R (s.setVm T'.vm) m args below meth c T' (locs ++ L) (cells + mc) (slots + ms) → s.Since T'.vm T'.heap.size → Z.Warmed39 (s.setVm T'.vm).vm → (s.setVm T'.vm).vm.findClass own = some m.cls → T'.heap.size ≤ T'.heap.size → K0 (T'.setTop (mkF m (pc + 3) (Ls) (v.toList ++ rest)))) : K0 (T.setTop (mkF m pc Ls Ks)) := by
  obtain ⟨v, vm₁, ⟨T', L', k', n'⟩, -, X', hS', gr, ⟨Lc, hQ, h1, h2, h3⟩, st⟩ := callSS (g := mkF m pc Ls Ks) X hx hown hlink hstat hinit hcode hy hK hg hsize hlen hstack hW hdg (fun vm₁ hvm => ⟨has, eT, hΦ vm₁ hvm, hc, hsl⟩)
  dsimp only [Pt.U, Pt.locs, Pt.cells, Pt.slots] at X' hQ h1 h2 h3 st hS' gr
  subst h1 h2 h3
  obtain ⟨X2, hS2, hZ2, hown2⟩ := rebS hS (Nat.le_trans hk (Nat.le_of_eq (congrArg Array.size eT.symm))) X' hS' gr hZ hown
  exact hG _ _ (fun _ q => st.trans q) (k v T' Lc hQ X2 hS2 hZ2 hown2 (Nat.le_refl _))
theorem gSpecialN {own : String} {index : Nat} {y : MethodName} {bytes : ByteArray} {maxL : Nat} {b : Addr} {W mc ms : Nat} {as' : Array Value} {Q : Option Value → Heap → List Loc → Prop} {argsL : List Value} (hG : Cl p.tables e below K0) (X : Stand p l e R s m args below meth c T locs cells slots) (hx : p.tables.exec = Jvm.exec) (hZ : Z.Warmed39 s.vm) (hown : s.vm.findClass own = some m.cls) (hy1 : y.name = "<init>") (hlink : (Cond.methodLink own index y).before args s = true) (hinst : (Cond.instanceMethod y).before args s = true) (hcode : (Cond.code y bytes maxL none).before args s = true) (hy : y.cls ≠ "java/lang/invoke/MethodHandle" ∧ y.cls ≠ "java/lang/invoke/VarHandle") (hK : Back l R p e below s args y 3 W (fun A a => a = as' ∧ A.U.heap = h ∧ A.cells + mc ≤ R.cells ∧ A.slots + ms ≤ R.slots) (fun A _ v B => ∃ L, Q v B.U.heap L ∧ B.locs = A.locs ++ L ∧ B.cells = A.cells + mc ∧ B.slots = A.slots + ms)) (hg : m = m) (hsize : Ls.size = c.maxLocals) (hlen : ∀ sig, parseMethodDescriptor y.desc = some sig → argsL.length = sig.parameters.length) (hstack : Ks = argsL.reverse ++ .ref b :: rest) (hW : 2 * 0 + (rest.map fun v => v.category).sum ≤ W) (hdg : decode c.code pc = .ok (.invokespecial index, 3)) (has : (.ref b :: argsL).toArray = as') (eT : T.heap = h) (hc : cells + mc ≤ R.cells) (hsl : slots + ms ≤ R.slots)
    (k : ∀ (v : Option Value) (T' : State) (L : List Loc), Q v T'.heap L → Stand p l e R s m args below meth c T' (locs ++ L) (cells + mc) (slots + ms) → K0 (T'.setTop (mkF m (pc + 3) (Ls) (v.toList ++ rest)))) : K0 (T.setTop (mkF m pc Ls Ks)) := by
  obtain ⟨v, vm₁, ⟨T', L', k', n'⟩, -, X', ⟨Lc, hQ, h1, h2, h3⟩, st⟩ := X.specialBack (g := mkF m pc Ls Ks) hx hy1 hown hlink hinst hcode hy hK hg hsize (Steps.refl _) hlen hstack hW hdg (fun vm₁ hvm => ⟨has, eT, hc, hsl⟩)
  dsimp only [Pt.U, Pt.locs, Pt.cells, Pt.slots] at X' hQ h1 h2 h3 st
  subst h1 h2 h3
  exact hG _ _ (fun _ q => st.trans q) (k v T' Lc hQ X')
theorem gSpecialS {own : String} {index : Nat} {y : MethodName} {bytes : ByteArray} {maxL : Nat} {b : Addr} {W mc ms : Nat} {as' : Array Value} {Q : Option Value → Heap → List Loc → Prop} {argsL : List Value} {vm0 : Vm} {k0 : Nat} (hG : Cl p.tables e below K0) (X : Stand p l e R (s.setVm vm0) m args below meth c T locs cells slots) (hx : p.tables.exec = Jvm.exec) (hZ : Z.Warmed39 (s.setVm vm0).vm) (hS : s.Since vm0 k0) (hk : k0 ≤ h.size) (hown : (s.setVm vm0).vm.findClass own = some m.cls) (hy1 : y.name = "<init>") (hlink : (Cond.methodLink own index y).before args (s.setVm vm0) = true) (hinst : (Cond.instanceMethod y).before args (s.setVm vm0) = true) (hcode : (Cond.code y bytes maxL none).before args (s.setVm vm0) = true) (hy : y.cls ≠ "java/lang/invoke/MethodHandle" ∧ y.cls ≠ "java/lang/invoke/VarHandle") (hK : BackS l R p e below (s.setVm vm0) args y 3 W (fun A a => a = as' ∧ A.U.heap = h ∧ A.cells + mc ≤ R.cells ∧ A.slots + ms ≤ R.slots) (fun A _ v B => ∃ L, Q v B.U.heap L ∧ B.locs = A.locs ++ L ∧ B.cells = A.cells + mc ∧ B.slots = A.slots + ms)) (hg : m = m) (hsize : Ls.size = c.maxLocals) (hlen : ∀ sig, parseMethodDescriptor y.desc = some sig → argsL.length = sig.parameters.length) (hstack : Ks = argsL.reverse ++ .ref b :: rest) (hW : 2 * 0 + (rest.map fun v => v.category).sum ≤ W) (hdg : decode c.code pc = .ok (.invokespecial index, 3)) (has : (.ref b :: argsL).toArray = as') (eT : T.heap = h) (hc : cells + mc ≤ R.cells) (hsl : slots + ms ≤ R.slots)
    (k : ∀ (v : Option Value) (T' : State) (L : List Loc), Q v T'.heap L → Stand p l e R (s.setVm T'.vm) m args below meth c T' (locs ++ L) (cells + mc) (slots + ms) → s.Since T'.vm T'.heap.size → Z.Warmed39 (s.setVm T'.vm).vm → (s.setVm T'.vm).vm.findClass own = some m.cls → T'.heap.size ≤ T'.heap.size → K0 (T'.setTop (mkF m (pc + 3) (Ls) (v.toList ++ rest)))) : K0 (T.setTop (mkF m pc Ls Ks)) := by
  obtain ⟨v, vm₁, ⟨T', L', k', n'⟩, -, X', hS', gr, ⟨Lc, hQ, h1, h2, h3⟩, st⟩ := X.specialBackS (g := mkF m pc Ls Ks) hx hy1 hown hlink hinst hcode hy hK hg hsize (Steps.refl _) hlen hstack hW hdg (fun vm₁ hvm => ⟨has, eT, hc, hsl⟩)
  dsimp only [Pt.U, Pt.locs, Pt.cells, Pt.slots] at X' hQ h1 h2 h3 st hS' gr
  subst h1 h2 h3
  obtain ⟨X2, hS2, hZ2, hown2⟩ := rebS hS (Nat.le_trans hk (Nat.le_of_eq (congrArg Array.size eT.symm))) X' hS' gr hZ hown
  exact hG _ _ (fun _ q => st.trans q) (k v T' Lc hQ X2 hS2 hZ2 hown2 (Nat.le_refl _))
theorem gSpecialJ {own : String} {index : Nat} {y : MethodName} {bytes : ByteArray} {maxL : Nat} {b : Addr} {W mc ms : Nat} {as' : Array Value} {Q : Option Value → Heap → Vm → List Loc → Prop} {argsL : List Value} {vm0 : Vm} {k0 : Nat} {Φ : Vm → Prop} (hG : Cl p.tables e below K0) (X : Stand p l e R (s.setVm vm0) m args below meth c T locs cells slots) (hx : p.tables.exec = Jvm.exec) (hZ : Z.Warmed39 (s.setVm vm0).vm) (hS : s.Since vm0 k0) (hk : k0 ≤ h.size) (hown : (s.setVm vm0).vm.findClass own = some m.cls) (hy1 : y.name = "<init>") (hlink : (Cond.methodLink own index y).before args (s.setVm vm0) = true) (hinst : (Cond.instanceMethod y).before args (s.setVm vm0) = true) (hcode : (Cond.code y bytes maxL none).before args (s.setVm vm0) = true) (hy : y.cls ≠ "java/lang/invoke/MethodHandle" ∧ y.cls ≠ "java/lang/invoke/VarHandle") (hK : BackS l R p e below (s.setVm vm0) args y 3 W (fun A a => a = as' ∧ A.U.heap = h ∧ Φ A.U.vm ∧ A.cells + mc ≤ R.cells ∧ A.slots + ms ≤ R.slots) (fun A _ v B => ∃ L, Q v B.U.heap B.U.vm L ∧ B.locs = A.locs ++ L ∧ B.cells = A.cells + mc ∧ B.slots = A.slots + ms)) (hg : m = m) (hsize : Ls.size = c.maxLocals) (hlen : ∀ sig, parseMethodDescriptor y.desc = some sig → argsL.length = sig.parameters.length) (hstack : Ks = argsL.reverse ++ .ref b :: rest) (hW : 2 * 0 + (rest.map fun v => v.category).sum ≤ W) (hdg : decode c.code pc = .ok (.invokespecial index, 3)) (has : (.ref b :: argsL).toArray = as') (eT : T.heap = h) (hΦ : ∀ vm₁, (s.setVm vm0).WarmedH vm₁ → Φ vm₁) (hc : cells + mc ≤ R.cells) (hsl : slots + ms ≤ R.slots)
    (k : ∀ (v : Option Value) (T' : State) (L : List Loc), Q v T'.heap T'.vm L → Stand p l e R (s.setVm T'.vm) m args below meth c T' (locs ++ L) (cells + mc) (slots + ms) → s.Since T'.vm T'.heap.size → Z.Warmed39 (s.setVm T'.vm).vm → (s.setVm T'.vm).vm.findClass own = some m.cls → T'.heap.size ≤ T'.heap.size → K0 (T'.setTop (mkF m (pc + 3) (Ls) (v.toList ++ rest)))) : K0 (T.setTop (mkF m pc Ls Ks)) := by
  obtain ⟨v, vm₁, ⟨T', L', k', n'⟩, -, X', hS', gr, ⟨Lc, hQ, h1, h2, h3⟩, st⟩ := X.specialBackS (g := mkF m pc Ls Ks) hx hy1 hown hlink hinst hcode hy hK hg hsize (Steps.refl _) hlen hstack hW hdg (fun vm₁ hvm => ⟨has, eT, hΦ vm₁ hvm, hc, hsl⟩)
  dsimp only [Pt.U, Pt.locs, Pt.cells, Pt.slots] at X' hQ h1 h2 h3 st hS' gr
  subst h1 h2 h3
  obtain ⟨X2, hS2, hZ2, hown2⟩ := rebS hS (Nat.le_trans hk (Nat.le_of_eq (congrArg Array.size eT.symm))) X' hS' gr hZ hown
  exact hG _ _ (fun _ q => st.trans q) (k v T' Lc hQ X2 hS2 hZ2 hown2 (Nat.le_refl _))
theorem gVirtualN {own C : String} {index : Nat} {y z : MethodName} {b : Addr} {W mc ms : Nat} {as' : Array Value} {Q : Option Value → Heap → List Loc → Prop} {argsL : List Value} (hG : Cl p.tables e below K0) (X : Stand p l e R s m args below meth c T locs cells slots) (hx : p.tables.exec = Jvm.exec) (hZ : Z.Warmed39 s.vm) (hown : s.vm.findClass own = some m.cls) (hlink : (Cond.methodLink own index y).before args s = true) (hdecl : (Cond.declares y).before args s = true) (hnf : NotFace s y) (hsel : (Cond.selects C y z).before args s = true) (hinst : (Cond.instanceMethod z).before args s = true) (hy : y.cls ≠ "java/lang/invoke/MethodHandle" ∧ y.cls ≠ "java/lang/invoke/VarHandle") (E : Exa Z h b C) (hK : Back l R p e below s args z 3 W (fun A a => a = as' ∧ A.U.heap = h ∧ A.cells + mc ≤ R.cells ∧ A.slots + ms ≤ R.slots) (fun A _ v B => ∃ L, Q v B.U.heap L ∧ B.locs = A.locs ++ L ∧ B.cells = A.cells + mc ∧ B.slots = A.slots + ms)) (hg : m = m) (hsize : Ls.size = c.maxLocals) (hlen : ∀ sig, parseMethodDescriptor y.desc = some sig → argsL.length = sig.parameters.length) (hstack : Ks = argsL.reverse ++ .ref b :: rest) (hW : 2 * 0 + (rest.map fun v => v.category).sum ≤ W) (hdg : decode c.code pc = .ok (.invokevirtual index, 3)) (has : (.ref b :: argsL).toArray = as') (eT : T.heap = h) (hc : cells + mc ≤ R.cells) (hsl : slots + ms ≤ R.slots)
    (k : ∀ (v : Option Value) (T' : State) (L : List Loc), Q v T'.heap L → Stand p l e R s m args below meth c T' (locs ++ L) (cells + mc) (slots + ms) → K0 (T'.setTop (mkF m (pc + 3) (Ls) (v.toList ++ rest)))) : K0 (T.setTop (mkF m pc Ls Ks)) := by
  obtain ⟨cq, kq, q1, q2, q3⟩ := isOf hZ eT E
  obtain ⟨v, vm₁, ⟨T', L', k', n'⟩, -, X', ⟨Lc, hQ, h1, h2, h3⟩, st⟩ := X.virtualBack (g := mkF m pc Ls Ks) hx hown hlink hdecl hnf hsel hinst hy hK q1 q3 hg hsize (Steps.refl _) hlen hstack hW hdg (fun vm₁ hvm => ⟨has, eT, hc, hsl⟩)
  dsimp only [Pt.U, Pt.locs, Pt.cells, Pt.slots] at X' hQ h1 h2 h3 st
  subst h1 h2 h3
  exact hG _ _ (fun _ q => st.trans q) (k v T' Lc hQ X')
theorem gVirtualS {own C : String} {index : Nat} {y z : MethodName} {b : Addr} {W mc ms : Nat} {as' : Array Value} {Q : Option Value → Heap → List Loc → Prop} {argsL : List Value} {vm0 : Vm} {k0 : Nat} (hG : Cl p.tables e below K0) (X : Stand p l e R (s.setVm vm0) m args below meth c T locs cells slots) (hx : p.tables.exec = Jvm.exec) (hZ : Z.Warmed39 (s.setVm vm0).vm) (hS : s.Since vm0 k0) (hk : k0 ≤ h.size) (hown : (s.setVm vm0).vm.findClass own = some m.cls) (hlink : (Cond.methodLink own index y).before args (s.setVm vm0) = true) (hdecl : (Cond.declares y).before args (s.setVm vm0) = true) (hnf : NotFace (s.setVm vm0) y) (hsel : (Cond.selects C y z).before args (s.setVm vm0) = true) (hinst : (Cond.instanceMethod z).before args (s.setVm vm0) = true) (hy : y.cls ≠ "java/lang/invoke/MethodHandle" ∧ y.cls ≠ "java/lang/invoke/VarHandle") (E : Exa Z h b C) (hK : BackS l R p e below (s.setVm vm0) args z 3 W (fun A a => a = as' ∧ A.U.heap = h ∧ A.cells + mc ≤ R.cells ∧ A.slots + ms ≤ R.slots) (fun A _ v B => ∃ L, Q v B.U.heap L ∧ B.locs = A.locs ++ L ∧ B.cells = A.cells + mc ∧ B.slots = A.slots + ms)) (hg : m = m) (hsize : Ls.size = c.maxLocals) (hlen : ∀ sig, parseMethodDescriptor y.desc = some sig → argsL.length = sig.parameters.length) (hstack : Ks = argsL.reverse ++ .ref b :: rest) (hW : 2 * 0 + (rest.map fun v => v.category).sum ≤ W) (hdg : decode c.code pc = .ok (.invokevirtual index, 3)) (has : (.ref b :: argsL).toArray = as') (eT : T.heap = h) (hc : cells + mc ≤ R.cells) (hsl : slots + ms ≤ R.slots)
    (k : ∀ (v : Option Value) (T' : State) (L : List Loc), Q v T'.heap L → Stand p l e R (s.setVm T'.vm) m args below meth c T' (locs ++ L) (cells + mc) (slots + ms) → s.Since T'.vm T'.heap.size → Z.Warmed39 (s.setVm T'.vm).vm → (s.setVm T'.vm).vm.findClass own = some m.cls → T'.heap.size ≤ T'.heap.size → K0 (T'.setTop (mkF m (pc + 3) (Ls) (v.toList ++ rest)))) : K0 (T.setTop (mkF m pc Ls Ks)) := by
  obtain ⟨cq, kq, q1, q2, q3⟩ := isOf hZ eT E
  obtain ⟨v, vm₁, ⟨T', L', k', n'⟩, -, X', hS', gr, ⟨Lc, hQ, h1, h2, h3⟩, st⟩ := X.virtualBackS (g := mkF m pc Ls Ks) hx hown hlink hdecl hnf hsel hinst hy hK q1 q3 hg hsize (Steps.refl _) hlen hstack hW hdg (fun vm₁ hvm => ⟨has, eT, hc, hsl⟩)
  dsimp only [Pt.U, Pt.locs, Pt.cells, Pt.slots] at X' hQ h1 h2 h3 st hS' gr
  subst h1 h2 h3
  obtain ⟨X2, hS2, hZ2, hown2⟩ := rebS hS (Nat.le_trans hk (Nat.le_of_eq (congrArg Array.size eT.symm))) X' hS' gr hZ hown
  exact hG _ _ (fun _ q => st.trans q) (k v T' Lc hQ X2 hS2 hZ2 hown2 (Nat.le_refl _))
theorem gVirtualJ {own C : String} {index : Nat} {y z : MethodName} {b : Addr} {W mc ms : Nat} {as' : Array Value} {Q : Option Value → Heap → Vm → List Loc → Prop} {argsL : List Value} {vm0 : Vm} {k0 : Nat} {Φ : Vm → Prop} (hG : Cl p.tables e below K0) (X : Stand p l e R (s.setVm vm0) m args below meth c T locs cells slots) (hx : p.tables.exec = Jvm.exec) (hZ : Z.Warmed39 (s.setVm vm0).vm) (hS : s.Since vm0 k0) (hk : k0 ≤ h.size) (hown : (s.setVm vm0).vm.findClass own = some m.cls) (hlink : (Cond.methodLink own index y).before args (s.setVm vm0) = true) (hdecl : (Cond.declares y).before args (s.setVm vm0) = true) (hnf : NotFace (s.setVm vm0) y) (hsel : (Cond.selects C y z).before args (s.setVm vm0) = true) (hinst : (Cond.instanceMethod z).before args (s.setVm vm0) = true) (hy : y.cls ≠ "java/lang/invoke/MethodHandle" ∧ y.cls ≠ "java/lang/invoke/VarHandle") (E : Exa Z h b C) (hK : BackS l R p e below (s.setVm vm0) args z 3 W (fun A a => a = as' ∧ A.U.heap = h ∧ Φ A.U.vm ∧ A.cells + mc ≤ R.cells ∧ A.slots + ms ≤ R.slots) (fun A _ v B => ∃ L, Q v B.U.heap B.U.vm L ∧ B.locs = A.locs ++ L ∧ B.cells = A.cells + mc ∧ B.slots = A.slots + ms)) (hg : m = m) (hsize : Ls.size = c.maxLocals) (hlen : ∀ sig, parseMethodDescriptor y.desc = some sig → argsL.length = sig.parameters.length) (hstack : Ks = argsL.reverse ++ .ref b :: rest) (hW : 2 * 0 + (rest.map fun v => v.category).sum ≤ W) (hdg : decode c.code pc = .ok (.invokevirtual index, 3)) (has : (.ref b :: argsL).toArray = as') (eT : T.heap = h) (hΦ : ∀ vm₁, (s.setVm vm0).WarmedH vm₁ → Φ vm₁) (hc : cells + mc ≤ R.cells) (hsl : slots + ms ≤ R.slots)
    (k : ∀ (v : Option Value) (T' : State) (L : List Loc), Q v T'.heap T'.vm L → Stand p l e R (s.setVm T'.vm) m args below meth c T' (locs ++ L) (cells + mc) (slots + ms) → s.Since T'.vm T'.heap.size → Z.Warmed39 (s.setVm T'.vm).vm → (s.setVm T'.vm).vm.findClass own = some m.cls → T'.heap.size ≤ T'.heap.size → K0 (T'.setTop (mkF m (pc + 3) (Ls) (v.toList ++ rest)))) : K0 (T.setTop (mkF m pc Ls Ks)) := by
  obtain ⟨cq, kq, q1, q2, q3⟩ := isOf hZ eT E
  obtain ⟨v, vm₁, ⟨T', L', k', n'⟩, -, X', hS', gr, ⟨Lc, hQ, h1, h2, h3⟩, st⟩ := X.virtualBackS (g := mkF m pc Ls Ks) hx hown hlink hdecl hnf hsel hinst hy hK q1 q3 hg hsize (Steps.refl _) hlen hstack hW hdg (fun vm₁ hvm => ⟨has, eT, hΦ vm₁ hvm, hc, hsl⟩)
  dsimp only [Pt.U, Pt.locs, Pt.cells, Pt.slots] at X' hQ h1 h2 h3 st hS' gr
  subst h1 h2 h3
  obtain ⟨X2, hS2, hZ2, hown2⟩ := rebS hS (Nat.le_trans hk (Nat.le_of_eq (congrArg Array.size eT.symm))) X' hS' gr hZ hown
  exact hG _ _ (fun _ q => st.trans q) (k v T' Lc hQ X2 hS2 hZ2 hown2 (Nat.le_refl _))
theorem gVirtualUpN {own C owner : String} {index : Nat} {x y : MethodName} {b : Addr} {W mc ms : Nat} {as' : Array Value} {Q : Option Value → Heap → List Loc → Prop} {argsL : List Value} (hG : Cl p.tables e below K0) (X : Stand p l e R s m args below meth c T locs cells slots) (hx : p.tables.exec = Jvm.exec) (hZ : Z.Warmed39 s.vm) (hown : s.vm.findClass own = some m.cls) (hlink : (Cond.methodLink own index x).before args s = true) (hsame : (Cond.sameMethod x.cls owner x.name x.desc).before args s = true) (hdecl : (Cond.declares ⟨owner, x.name, x.desc⟩).before args s = true) (howner : owner ≠ "java/lang/invoke/MethodHandle" ∧ owner ≠ "java/lang/invoke/VarHandle") (hsel : (Cond.selects C x y).before args s = true) (hinst : (Cond.instanceMethod y).before args s = true) (E : Exa Z h b C) (hK : Back l R p e below s args y 3 W (fun A a => a = as' ∧ A.U.heap = h ∧ A.cells + mc ≤ R.cells ∧ A.slots + ms ≤ R.slots) (fun A _ v B => ∃ L, Q v B.U.heap L ∧ B.locs = A.locs ++ L ∧ B.cells = A.cells + mc ∧ B.slots = A.slots + ms)) (hg : m = m) (hsize : Ls.size = c.maxLocals) (hlen : ∀ sig, parseMethodDescriptor x.desc = some sig → argsL.length = sig.parameters.length) (hstack : Ks = argsL.reverse ++ .ref b :: rest) (hW : 2 * 0 + (rest.map fun v => v.category).sum ≤ W) (hdg : decode c.code pc = .ok (.invokevirtual index, 3)) (has : (.ref b :: argsL).toArray = as') (eT : T.heap = h) (hc : cells + mc ≤ R.cells) (hsl : slots + ms ≤ R.slots)
    (k : ∀ (v : Option Value) (T' : State) (L : List Loc), Q v T'.heap L → Stand p l e R s m args below meth c T' (locs ++ L) (cells + mc) (slots + ms) → K0 (T'.setTop (mkF m (pc + 3) (Ls) (v.toList ++ rest)))) : K0 (T.setTop (mkF m pc Ls Ks)) := by
  obtain ⟨cq, kq, q1, q2, q3⟩ := isOf hZ eT E
  obtain ⟨v, vm₁, ⟨T', L', k', n'⟩, -, X', ⟨Lc, hQ, h1, h2, h3⟩, st⟩ := X.virtualBackUp (g := mkF m pc Ls Ks) hx hown hlink hsame hdecl howner hsel hinst hK q1 q3 hg hsize (Steps.refl _) hlen hstack hW hdg (fun vm₁ hvm => ⟨has, eT, hc, hsl⟩)
  dsimp only [Pt.U, Pt.locs, Pt.cells, Pt.slots] at X' hQ h1 h2 h3 st
  subst h1 h2 h3
  exact hG _ _ (fun _ q => st.trans q) (k v T' Lc hQ X')
end Glue
theorem zXS_aload {tb : Tables} [Ours tb] {e : Env} {below : List Frame} {T target : State} {m : MethodId} {c : Code} {pc : Nat} {Ls : Array Slot} {Ks : List Value} (h : At T m c below) (hx : tb.exec = Jvm.exec) (hg : m = m) {k : Nat} {v : Value} (hd : decode c.code pc = .ok (.aload k, 2)) (hl : Ls[k]? = some (.val v)) (hv : v.isRef = true) (hr : Steps tb e below (T.setTop (mkF m (pc + 2) (Ls) (v :: Ks))) target) : Steps tb e below (T.setTop (mkF m pc Ls Ks)) target :=
  Jvm.Free.XS.aload (g := mkF m pc Ls Ks) h hx hg hd hl hv hr
theorem zXS_aloadN {tb : Tables} [Ours tb] {e : Env} {below : List Frame} {T target : State} {m : MethodId} {c : Code} {pc : Nat} {Ls : Array Slot} {Ks : List Value} (h : At T m c below) (hx : tb.exec = Jvm.exec) (hg : m = m) {k : Fin 4} {v : Value} (hd : decode c.code pc = .ok (.aload_n k, 1)) (hl : Ls[k.val]? = some (.val v)) (hv : v.isRef = true) (hr : Steps tb e below (T.setTop (mkF m (pc + 1) (Ls) (v :: Ks))) target) : Steps tb e below (T.setTop (mkF m pc Ls Ks)) target :=
  Jvm.Free.XS.aloadN (g := mkF m pc Ls Ks) h hx hg hd hl hv hr
theorem zXS_astore {tb : Tables} [Ours tb] {e : Env} {below : List Frame} {T target : State} {m : MethodId} {c : Code} {pc : Nat} {Ls : Array Slot} {Ks : List Value} (h : At T m c below) (hx : tb.exec = Jvm.exec) (hg : m = m) {k : Nat} {x : Value} {rest : List Value} {l' : Array Slot} (hd : decode c.code pc = .ok (.astore k, 2)) (hs : Ks = x :: rest) (hv : x.isRef = true) (hl : storeLocals Ls k x = some l') (hr : Steps tb e below (T.setTop (mkF m (pc + 2) (l') (rest))) target) : Steps tb e below (T.setTop (mkF m pc Ls Ks)) target :=
  Jvm.Free.XS.astore (g := mkF m pc Ls Ks) h hx hg hd hs hv hl hr
theorem zXS_astoreN {tb : Tables} [Ours tb] {e : Env} {below : List Frame} {T target : State} {m : MethodId} {c : Code} {pc : Nat} {Ls : Array Slot} {Ks : List Value} (h : At T m c below) (hx : tb.exec = Jvm.exec) (hg : m = m) {k : Fin 4} {x : Value} {rest : List Value} {l' : Array Slot} (hd : decode c.code pc = .ok (.astore_n k, 1)) (hs : Ks = x :: rest) (hv : x.isRef = true) (hl : storeLocals Ls k.val x = some l') (hr : Steps tb e below (T.setTop (mkF m (pc + 1) (l') (rest))) target) : Steps tb e below (T.setTop (mkF m pc Ls Ks)) target :=
  Jvm.Free.XS.astoreN (g := mkF m pc Ls Ks) h hx hg hd hs hv hl hr
theorem zXS_bipush {tb : Tables} [Ours tb] {e : Env} {below : List Frame} {T target : State} {m : MethodId} {c : Code} {pc : Nat} {Ls : Array Slot} {Ks : List Value} (h : At T m c below) (hx : tb.exec = Jvm.exec) (hg : m = m) {i : Int} (hd : decode c.code pc = .ok (.bipush i, 2)) (hr : Steps tb e below (T.setTop (mkF m (pc + 2) (Ls) (.int (Int8.ofInt i).toInt32 :: Ks))) target) : Steps tb e below (T.setTop (mkF m pc Ls Ks)) target :=
  Jvm.Free.XS.bipush (g := mkF m pc Ls Ks) h hx hg hd hr
theorem zXS_dup {tb : Tables} [Ours tb] {e : Env} {below : List Frame} {T target : State} {m : MethodId} {c : Code} {pc : Nat} {Ls : Array Slot} {Ks : List Value} (h : At T m c below) (hx : tb.exec = Jvm.exec) (hg : m = m) {x : Value} {rest : List Value} (hd : decode c.code pc = .ok (.dup, 1)) (hs : Ks = x :: rest) (hc : x.category = 1) (hr : Steps tb e below (T.setTop (mkF m (pc + 1) (Ls) (x :: x :: rest))) target) : Steps tb e below (T.setTop (mkF m pc Ls Ks)) target :=
  Jvm.Free.XS.dup (g := mkF m pc Ls Ks) h hx hg hd hs hc hr
theorem zXS_goto {tb : Tables} [Ours tb] {e : Env} {below : List Frame} {T target : State} {m : MethodId} {c : Code} {pc : Nat} {Ls : Array Slot} {Ks : List Value} (h : At T m c below) (hx : tb.exec = Jvm.exec) (hg : m = m) {o : Int} {pc0 pc' : Nat} (hpc : pc = pc0) (hd : decode c.code pc = .ok (.goto o, 3)) (ho : 0 ≤ (pc0 : Int) + o) (hp : ((pc0 : Int) + o).toNat = pc') (hr : Steps tb e below (T.setTop (mkF m (pc') (Ls) (Ks))) target) : Steps tb e below (T.setTop (mkF m pc Ls Ks)) target :=
  Jvm.Free.XS.goto (g := mkF m pc Ls Ks) h hx hg hpc hd ho hp hr
theorem zXS_iand {tb : Tables} [Ours tb] {e : Env} {below : List Frame} {T target : State} {m : MethodId} {c : Code} {pc : Nat} {Ls : Array Slot} {Ks : List Value} (h : At T m c below) (hx : tb.exec = Jvm.exec) (hg : m = m) {x y : Int32} {rest : List Value} (hd : decode c.code pc = .ok (.iand, 1)) (hs : Ks = .int y :: .int x :: rest) (hr : Steps tb e below (T.setTop (mkF m (pc + 1) (Ls) (.int (x &&& y) :: rest))) target) : Steps tb e below (T.setTop (mkF m pc Ls Ks)) target :=
  Jvm.Free.XS.iand (g := mkF m pc Ls Ks) h hx hg hd hs hr
theorem zXS_icmpNo {tb : Tables} [Ours tb] {e : Env} {below : List Frame} {T target : State} {m : MethodId} {c : Code} {pc : Nat} {Ls : Array Slot} {Ks : List Value} (h : At T m c below) (hx : tb.exec = Jvm.exec) (hg : m = m) {cd : ClassFile.Cond} {o : Int} {x y : Int32} {rest : List Value} (hd : decode c.code pc = .ok (.if_icmp cd o, 3)) (hs : Ks = .int y :: .int x :: rest) (hc : if_icmp.holds cd x y = false) (hr : Steps tb e below (T.setTop (mkF m (pc + 3) (Ls) (rest))) target) : Steps tb e below (T.setTop (mkF m pc Ls Ks)) target :=
  Jvm.Free.XS.icmpNo (g := mkF m pc Ls Ks) h hx hg hd hs hc hr
theorem zXS_icmpYes {tb : Tables} [Ours tb] {e : Env} {below : List Frame} {T target : State} {m : MethodId} {c : Code} {pc : Nat} {Ls : Array Slot} {Ks : List Value} (h : At T m c below) (hx : tb.exec = Jvm.exec) (hg : m = m) {cd : ClassFile.Cond} {x y : Int32} {rest : List Value} {o : Int} {pc0 pc' : Nat} (hpc : pc = pc0) (hd : decode c.code pc = .ok (.if_icmp cd o, 3)) (hs : Ks = .int y :: .int x :: rest) (hc : if_icmp.holds cd x y = true) (ho : 0 ≤ (pc0 : Int) + o) (hp : ((pc0 : Int) + o).toNat = pc') (hr : Steps tb e below (T.setTop (mkF m (pc') (Ls) (rest))) target) : Steps tb e below (T.setTop (mkF m pc Ls Ks)) target :=
  Jvm.Free.XS.icmpYes (g := mkF m pc Ls Ks) h hx hg hpc hd hs hc ho hp hr
theorem zXS_iconst {tb : Tables} [Ours tb] {e : Env} {below : List Frame} {T target : State} {m : MethodId} {c : Code} {pc : Nat} {Ls : Array Slot} {Ks : List Value} (h : At T m c below) (hx : tb.exec = Jvm.exec) (hg : m = m) {i : Int} (hd : decode c.code pc = .ok (.iconst i, 1)) (hr : Steps tb e below (T.setTop (mkF m (pc + 1) (Ls) (.int (Int32.ofInt i) :: Ks))) target) : Steps tb e below (T.setTop (mkF m pc Ls Ks)) target :=
  Jvm.Free.XS.iconst (g := mkF m pc Ls Ks) h hx hg hd hr
theorem zXS_ifNo {tb : Tables} [Ours tb] {e : Env} {below : List Frame} {T target : State} {m : MethodId} {c : Code} {pc : Nat} {Ls : Array Slot} {Ks : List Value} (h : At T m c below) (hx : tb.exec = Jvm.exec) (hg : m = m) {cd : ClassFile.Cond} {o : Int} {x : Int32} {rest : List Value} (hd : decode c.code pc = .ok (.ifCond cd o, 3)) (hs : Ks = .int x :: rest) (hc : ifCond.holds cd x = false) (hr : Steps tb e below (T.setTop (mkF m (pc + 3) (Ls) (rest))) target) : Steps tb e below (T.setTop (mkF m pc Ls Ks)) target :=
  Jvm.Free.XS.ifNo (g := mkF m pc Ls Ks) h hx hg hd hs hc hr
theorem zXS_ifYes {tb : Tables} [Ours tb] {e : Env} {below : List Frame} {T target : State} {m : MethodId} {c : Code} {pc : Nat} {Ls : Array Slot} {Ks : List Value} (h : At T m c below) (hx : tb.exec = Jvm.exec) (hg : m = m) {cd : ClassFile.Cond} {x : Int32} {rest : List Value} {o : Int} {pc0 pc' : Nat} (hpc : pc = pc0) (hd : decode c.code pc = .ok (.ifCond cd o, 3)) (hs : Ks = .int x :: rest) (hc : ifCond.holds cd x = true) (ho : 0 ≤ (pc0 : Int) + o) (hp : ((pc0 : Int) + o).toNat = pc') (hr : Steps tb e below (T.setTop (mkF m (pc') (Ls) (rest))) target) : Steps tb e below (T.setTop (mkF m pc Ls Ks)) target :=
  Jvm.Free.XS.ifYes (g := mkF m pc Ls Ks) h hx hg hpc hd hs hc ho hp hr
theorem zXS_iinc {tb : Tables} [Ours tb] {e : Env} {below : List Frame} {T target : State} {m : MethodId} {c : Code} {pc : Nat} {Ls : Array Slot} {Ks : List Value} (h : At T m c below) (hx : tb.exec = Jvm.exec) (hg : m = m) {k : Nat} {cst : Int} {x : Int32} {l' : Array Slot} (hd : decode c.code pc = .ok (.iinc k cst, 3)) (hl : Ls[k]? = some (.val (.int x))) (hl' : storeLocals Ls k (.int (x + Int32.ofInt cst)) = some l') (hr : Steps tb e below (T.setTop (mkF m (pc + 3) (l') (Ks))) target) : Steps tb e below (T.setTop (mkF m pc Ls Ks)) target :=
  Jvm.Free.XS.iinc (g := mkF m pc Ls Ks) h hx hg hd hl hl' hr
theorem zXS_iloadN {tb : Tables} [Ours tb] {e : Env} {below : List Frame} {T target : State} {m : MethodId} {c : Code} {pc : Nat} {Ls : Array Slot} {Ks : List Value} (h : At T m c below) (hx : tb.exec = Jvm.exec) (hg : m = m) {k : Fin 4} {v : Int32} (hd : decode c.code pc = .ok (.iload_n k, 1)) (hl : Ls[k.val]? = some (.val (.int v))) (hr : Steps tb e below (T.setTop (mkF m (pc + 1) (Ls) (.int v :: Ks))) target) : Steps tb e below (T.setTop (mkF m pc Ls Ks)) target :=
  Jvm.Free.XS.iloadN (g := mkF m pc Ls Ks) h hx hg hd hl hr
theorem zXS_istoreN {tb : Tables} [Ours tb] {e : Env} {below : List Frame} {T target : State} {m : MethodId} {c : Code} {pc : Nat} {Ls : Array Slot} {Ks : List Value} (h : At T m c below) (hx : tb.exec = Jvm.exec) (hg : m = m) {k : Fin 4} {x : Int32} {rest : List Value} {l' : Array Slot} (hd : decode c.code pc = .ok (.istore_n k, 1)) (hs : Ks = .int x :: rest) (hl : storeLocals Ls k.val (.int x) = some l') (hr : Steps tb e below (T.setTop (mkF m (pc + 1) (l') (rest))) target) : Steps tb e below (T.setTop (mkF m pc Ls Ks)) target :=
  Jvm.Free.XS.istoreN (g := mkF m pc Ls Ks) h hx hg hd hs hl hr
theorem zXT_acmpNo {tb : Tables} [Ours tb] {e : Env} {below : List Frame} {T target : State} {m : MethodId} {c : Code} {pc : Nat} {Ls : Array Slot} {Ks : List Value} (h : At T m c below) (hx : tb.exec = Jvm.exec) (hg : m = m) {cd : ClassFile.ACond} {o : Int} {x y : Value} {rest : List Value} (hd : decode c.code pc = .ok (.if_acmp cd o, 3)) (hs : Ks = y :: x :: rest) (hx' : x.isRef = true) (hy' : y.isRef = true) (hc : Jvm.Free.XT.acmp cd x y = false) (hr : Steps tb e below (T.setTop (mkF m (pc + 3) (Ls) (rest))) target) : Steps tb e below (T.setTop (mkF m pc Ls Ks)) target :=
  Jvm.Free.XT.acmpNo (g := mkF m pc Ls Ks) h hx hg hd hs hx' hy' hc hr
theorem zXT_ifnonnullYes {tb : Tables} [Ours tb] {e : Env} {below : List Frame} {T target : State} {m : MethodId} {c : Code} {pc : Nat} {Ls : Array Slot} {Ks : List Value} (h : At T m c below) (hx : tb.exec = Jvm.exec) (hg : m = m) {b : Addr} {rest : List Value} {o : Int} {pc0 pc' : Nat} (hpc : pc = pc0) (hd : decode c.code pc = .ok (.ifnonnull o, 3)) (hs : Ks = .ref b :: rest) (ho : 0 ≤ (pc0 : Int) + o) (hp : ((pc0 : Int) + o).toNat = pc') (hr : Steps tb e below (T.setTop (mkF m (pc') (Ls) (rest))) target) : Steps tb e below (T.setTop (mkF m pc Ls Ks)) target :=
  Jvm.Free.XT.ifnonnullYes (g := mkF m pc Ls Ks) h hx hg hpc hd hs ho hp hr
theorem zXT_pop {tb : Tables} [Ours tb] {e : Env} {below : List Frame} {T target : State} {m : MethodId} {c : Code} {pc : Nat} {Ls : Array Slot} {Ks : List Value} (h : At T m c below) (hx : tb.exec = Jvm.exec) (hg : m = m) {x : Value} {rest : List Value} (hd : decode c.code pc = .ok (.pop, 1)) (hs : Ks = x :: rest) (hc : x.category = 1) (hr : Steps tb e below (T.setTop (mkF m (pc + 1) (Ls) (rest))) target) : Steps tb e below (T.setTop (mkF m pc Ls Ks)) target :=
  Jvm.Free.XT.pop (g := mkF m pc Ls Ks) h hx hg hd hs hc hr
theorem zRW_iremM {p : Program} {l : Launch} {e : Env} {R : Room} {s : State} {m : MethodId} {args : Array Value} {below : List Frame} {meth : Method} {c : Code} {T : State} {locs : List Loc} {cells slots : Nat} {target : State} {pc : Nat} {Ls : Array Slot} {Ks : List Value} (X : Stand p l e R s m args below meth c T locs cells slots) (hx : p.tables.exec = Jvm.exec) (hg : m = m) {x y : Int32} {rest : List Value} (hd : decode c.code pc = .ok (.irem, 1)) (hs : Ks = .int y :: .int x :: rest) (hy : y ≠ 0) (hr : Steps p.tables e below (T.setTop (mkF m (pc + 1) (Ls) (.int (x % y) :: rest))) target) : Steps p.tables e below (T.setTop (mkF m pc Ls Ks)) target :=
  iremM (g := mkF m pc Ls Ks) X hx hg hd hs hy hr
/-- addresses are told to omega as natural numbers -/
theorem own_ane {a b : Addr} (h : ¬ @Eq Nat a b) : a ≠ b := h
theorem own_anq {a b : Addr} (h : a ≠ b) : ¬ @Eq Nat a b := h
theorem own_ale {n : Nat} {a : Addr} (h : @LE.le Nat instLENat n a) : n ≤ a := h
theorem own_alt {n : Nat} {a : Addr} (h : a < n) : @LT.lt Nat instLTNat a n := h
theorem own_fr_nil {n0 : Nat} {N : List Loc} (h : Fr n0 N) : Fr n0 (N ++ []) := Fr.app h (Fr.nil n0)
abbrev Lat (c : Int32) : Prop := ¬ c < 0 ∧ ¬ (255 : Int32) < c
abbrev Wid (c : Int32) : Prop := ¬ c < 0 ∧ ¬ (65535 : Int32) < c
theorem own_c0 {P : Int32 → Prop} : ∀ x ∈ ([] : List Int32), P x := fun _ h => nomatch h
theorem own_cS {P : Int32 → Prop} {y : Int32} {L : List Int32} (q : P y) (r : ∀ x ∈ L, P x) : ∀ x ∈ y :: L, P x := List.forall_mem_cons.mpr ⟨q, r⟩
theorem own_up {cs : List Int32} (h : ∀ c ∈ cs, Lat c) : ∀ c ∈ cs, Wid c := fun c hc => ⟨(h c hc).1, fun q => (h c hc).2 (by rw [Int32.lt_iff_toInt_lt] at q ⊢; have e1 : (65535 : Int32).toInt = 65535 := rfl; have e2 : (255 : Int32).toInt = 255 := rfl; omega)⟩
theorem own_and255 (x : Int32) : (x &&& 255) = Int32.ofNat (x &&& 255).toBitVec.toNat ∧ (x &&& 255).toBitVec.toNat < 256 := by
  refine ⟨?_, ?_⟩
  · apply Int32.toBitVec_inj.mp
    show _ = BitVec.ofNat 32 _
    rw [BitVec.ofNat_toNat]; simp
  · simp only [Int32.toBitVec_and, BitVec.toNat_and]
    exact Nat.lt_succ_of_le Nat.and_le_right
theorem own_lat255 (x : Int32) : Lat (nar .char ((x &&& (255 : Int32)).toUInt32.toUInt16.toUInt32.toInt32)) := by
  have t : ∀ k : Fin 256, Lat (nar .char ((Int32.ofNat k.val).toUInt32.toUInt16.toUInt32.toInt32)) := by decide +kernel
  obtain ⟨e, h⟩ := own_and255 x
  rw [e]
  exact t ⟨_, h⟩
/-- the elements of an array that stood at the start, from place k on -/
def OwnEls (args : Array Value) (s : State) (t : Term) : Nat → List Value → Prop
  | _, [] => True
  | k, v :: r => (Term.elem t (.int (Int32.ofNat k))).eval args s none [] s = some v ∧ OwnEls args s t (k + 1) r
theorem own_nat32 {k : Nat} (h : k < 2 ^ 31) : (Int32.ofNat k).toNatClampNeg = k := by
  have e : (Int32.ofNat k).toInt = k := Int32.toInt_ofNat_small h
  simp only [Int32.toNatClampNeg, e]; rfl
theorem own_els {args : Array Value} {s : State} {t : Term} {a : Addr} {cl : Cell} (ht : t.eval args s none [] s = some (.ref a)) (hc : s.heap[a]? = some cl) : ∀ (vs : List Value) (k : Nat), k + vs.length < 2 ^ 31 → OwnEls args s t k vs → HasL cl k vs
  | [], _, _, _ => trivial
  | v :: r, k, hb, h => by
    have hk : k < 2 ^ 31 := by simp only [List.length_cons] at hb; omega
    have q := (elem_in h.1 ht (Term.int_eval _) hc).2
    rw [own_nat32 hk] at q
    exact ⟨q, own_els ht hc r (k + 1) (by simp only [List.length_cons] at hb; omega) h.2⟩
theorem own_oldArr {args : Array Value} {s : State} {t : Term} {a : Addr} {ty : FieldType} {z : Int32} {vs : List Value} {dv : Value} (hf : Fit s) (ht : t.eval args s none [] s = some (.ref a)) (hA : (Cond.arrayOf t ty).value args s none s [] = some true)
    (hL : (Term.length t).eval args s none [] s = some (.int z)) (hz : ¬ z < 0) (hl : z.toNatClampNeg = vs.length) (hb : vs.length < 2 ^ 31) (hE : OwnEls args s t 0 vs) : ∃ k, Arv s s.heap a k ty z vs dv := by
  obtain ⟨c, A⟩ := Arr.start ht hA
  obtain ⟨x, c', e1, h1, -⟩ := Term.length_spec hL
  cases ht.symm.trans e1
  have h2 := A.fin (Vm.Alike.refl _)
  cases h1.symm.trans h2
  have h31 := SBG.length_lt ht h1 hL
  have e : c.slots.size.toInt32 = z := by
    have q : (Term.length t).eval args s none [] s = some (.int (Int32.ofNat c.slots.size)) := by simp [Term.eval, ht, h1, h31]
    have q2 := Option.some.inj (q.symm.trans hL)
    exact Value.int.inj q2
  exact ⟨c.cls, Arv.start hf A h31 e hz hl (own_els ht A.1 vs 0 (by omega) hE)⟩
theorem own_eqI {args : Array Value} {s : State} {t : Term} {z : Int32} (h : (Cond.eq t (.int z)).value args s none s [] = some true) : t.eval args s none [] s = some (.int z) := Cond.eq_int (Cond.before_iff.mpr h) rfl
theorem own_eqR {args : Array Value} {s : State} {t u : Term} {a : Addr} (hu : u.eval args s none [] s = some (.ref a)) (h : (Cond.eq t u).value args s none s [] = some true) : t.eval args s none [] s = some (.ref a) := by
  obtain ⟨x, y, h1, h2, k1, k2⟩ := cmp_v (Or.inl h)
  cases hu.symm.trans h2
  have hx : x.isRef = true := by cases x <;> simp [Kin, Value.isRef] at k1 ⊢
  have q := gotT (eq_R h1 h2 hx rfl) h
  rw [h1, q]

set_option maxRecDepth 65536 in
theorem own_hws : ∀ d ∈ StrChars.Road.words, d ∈ tables_1 := by decide +kernel
set_option maxRecDepth 65536 in
theorem own_heq : ∀ d ∈ StrChars.Road.wordsEq, d ∈ tables_1 := by decide +kernel
def Qrq (Z : State) (a : Addr) (q : Addr) (h0 : Heap) (n0 : Nat) (v : Option Value) (h : Heap) (L : List Loc) : Prop := v = some (.ref a) ∧ Fr n0 L ∧ h = h0
theorem pn_0 : plainName "java/util/Objects" = true := by first | (simp [plainName, overriddenIn]; done) | decide +kernel
theorem ef_rq (m : MethodId) (x0 : Addr) (x1 : Addr) : entryFrame m #[(.ref x0), (.ref x1)] 2 = mkF m 0 #[.val (.ref x0), .val (.ref x1)] [] := by first | (simp [entryFrame, mkF, argsToLocals, Value.category]; done) | rfl
theorem d8_0 : decode jdk_31_method_11_code 0 = .ok (.aload_n 0, 1) := by decide +kernel
theorem d8_1 : decode jdk_31_method_11_code 1 = .ok (.ifnonnull 12, 3) := by decide +kernel
theorem d8_13 : decode jdk_31_method_11_code 13 = .ok (.aload_n 0, 1) := by decide +kernel
theorem d8_14 : decode jdk_31_method_11_code 14 = .ok (.areturn, 1) := by decide +kernel
set_option maxRecDepth 65536 in
set_option maxHeartbeats 40000000 in
theorem rq (l : Launch) (Z : State) (a0 : Array Value) (hw : ∀ d ∈ tables_1, d.before a0 Z = true) (ws : List Jvm.Cond) (a : Addr) (q : Addr) (h0 : Heap) (n0 : Nat) (Z0 : n0 ≤ h0.size) :
    MetFree l (⟨"java/util/Objects", "requireNonNull", "(Ljava/lang/Object;Ljava/lang/String;)Ljava/lang/Object;"⟩ : MethodName) (head1 (Jvm.Cond.code (⟨"java/util/Objects", "requireNonNull", "(Ljava/lang/Object;Ljava/lang/String;)Ljava/lang/Object;"⟩ : MethodName) jdk_31_method_11_code 2 (some (.object "java/lang/Object")) :: ws) ({ frames := 0, cells := 0, slots := 0, locals := 0 } : Room)) (fun a_ U_ => a_ = #[(.ref a), (.ref q)] ∧ Z.Warmed39 U_.vm ∧ U_.heap = h0) (fun _ _ _ _ _ => True) (fun _ U_ o_ V_ => ∃ v_ L_, o_ = .returned v_ ∧ Qrq Z a q h0 n0 v_ V_.heap L_ ∧ FrameEnd U_ o_ V_ L_ ({ frames := 0, cells := 0, slots := 0, locals := 0 } : Room).cells ({ frames := 0, cells := 0, slots := 0, locals := 0 } : Room).slots) := by
  refine MetFree.of_bodySF (plainFor_of_name pn_0) hisR ?_
  intro p e s m args below meth c s₁ Bd hml0 hP hK
  obtain ⟨rfl, hZ, hh⟩ := hP
  have hx := Bd.exec
  have hby := Bd.bytes
  have hml : c.maxLocals = 2 := hml0
  have hown : s.vm.findClass "java/util/Objects" = some m.cls := findClass_of_methodNamed Bd.named
  have hnm := (name_of_methodNamed Bd.named Bd.method).1
  have X0 : Stand p l e ({ frames := 0, cells := 0, slots := 0, locals := 0 } : Room) s m #[(.ref a), (.ref q)] below meth c s₁ [] 0 0 := Stand.of_body Bd
  have e0 : s₁.heap = h0 := by rw [← hh, Bd.state]; rfl
  have N0 := Fr.nil n0
  refine Gl.go (A := s₁.setTop (entryFrame m #[(.ref a), (.ref q)] 2)) (P := fun o_ U_ => ∃ v_ L_, o_ = .returned v_ ∧ Qrq Z a q h0 n0 v_ U_.heap L_ ∧ FrameEnd s o_ U_ L_ ({ frames := 0, cells := 0, slots := 0, locals := 0 } : Room).cells ({ frames := 0, cells := 0, slots := 0, locals := 0 } : Room).slots) (fun t k => castTop (ef_rq m a q) k) ?_
  show Gl p.tables e below _ (s₁.setTop (mkF m 0 #[.val (.ref a), .val (.ref q)] []))
  refine Gl.go (fun _ hr => zXS_aloadN X0.here hx rfl (hb hby d8_0) rfl rfl (zXT_ifnonnullYes X0.here hx rfl (pc0 := 1) (pc' := 13) rfl (hb hby d8_1) rfl (by decide) (by decide) (zXS_aloadN X0.here hx rfl (hb hby d8_13) rfl rfl hr))) ?_
  obtain ⟨fs, hr, hrun, hended, hW, hsame⟩ := X0.leave (v := some (.ref a)) (fun h => by rw [Bd.returns] at h; cases h)
  refine ⟨_, _, retOut X0 hx Bd.returns rfl (Or.inr (Or.inr (Or.inr (Or.inr ⟨rfl, rfl, rfl⟩)))) (hb hby d8_14) hr, hrun, hended, _, _, rfl, ?_, ⟨⟨_, rfl⟩, hW, hsame.mono (by decide) (by decide)⟩⟩
  show Qrq Z a q h0 n0 _ s₁.heap _
  rw [e0]
  exact ⟨rfl, N0, rfl⟩
def Qvals (Z : State) (ar : Addr) (ka : ClassId) (c0 : Addr) (c1 : Addr) (c2 : Addr) (h0 : Heap) (n0 : Nat) (v : Option Value) (h : Heap) (L : List Loc) : Prop := ∃ (b : Addr), v = some (.ref b) ∧ Fr n0 L ∧ Keep h0 h [] ∧ (@LE.le Nat instLENat n0 b) ∧ (@LE.le Nat instLENat h0.size b) ∧ (Exa Z h b "[Lcom/example/frist/frist/OnDeleteAction;") ∧ (Arv Z h b ka (.object "com/example/frist/frist/OnDeleteAction") (3 : Int32) ([(.ref c0), (.ref c1), (.ref c2)]) .null)
theorem pn_1 : plainName "com/example/frist/frist/OnDeleteAction" = true := by first | (simp [plainName, overriddenIn]; done) | decide +kernel
theorem ef_vals (m : MethodId)  : entryFrame m #[] 0 = mkF m 0 #[] [] := by first | (simp [entryFrame, mkF, argsToLocals, Value.category]; done) | rfl
theorem d9_0 : decode prog_4_method_1_code 0 = .ok (.getstatic 13, 3) := by decide +kernel
theorem d9_3 : decode prog_4_method_1_code 3 = .ok (.invokevirtual 17, 3) := by decide +kernel
theorem d9_6 : decode prog_4_method_1_code 6 = .ok (.checkcast 18, 3) := by decide +kernel
theorem d9_9 : decode prog_4_method_1_code 9 = .ok (.areturn, 1) := by decide +kernel
set_option maxRecDepth 65536 in
set_option maxHeartbeats 40000000 in
theorem vals (l : Launch) (Z : State) (a0 : Array Value) (hw : ∀ d ∈ tables_1, d.before a0 Z = true) (ws : List Jvm.Cond) (ar : Addr) (ka : ClassId) (c0 : Addr) (c1 : Addr) (c2 : Addr) (h0 : Heap) (n0 : Nat) (Z0 : n0 ≤ h0.size) (q0 : Old Z n0 h0) (q1 : Sta Z Z.heap "com/example/frist/frist/OnDeleteAction" "$VALUES" "[Lcom/example/frist/frist/OnDeleteAction;" (.ref ar)) (q2 : Arv Z Z.heap ar ka (.object "com/example/frist/frist/OnDeleteAction") (3 : Int32) ([(.ref c0), (.ref c1), (.ref c2)]) .null) (q3 : Exa Z Z.heap ar "[Lcom/example/frist/frist/OnDeleteAction;") :
    MetFree l (⟨"com/example/frist/frist/OnDeleteAction", "values", "()[Lcom/example/frist/frist/OnDeleteAction;"⟩ : MethodName) (head1 (Jvm.Cond.code (⟨"com/example/frist/frist/OnDeleteAction", "values", "()[Lcom/example/frist/frist/OnDeleteAction;"⟩ : MethodName) prog_4_method_1_code 0 (some (.array (.object "com/example/frist/frist/OnDeleteAction"))) :: ws) ({ frames := 1, cells := 1, slots := 3, locals := 14 } : Room)) (fun a_ U_ => a_ = #[] ∧ Z.Warmed39 U_.vm ∧ U_.heap = h0) (fun _ _ _ _ _ => True) (fun _ U_ o_ V_ => ∃ v_ L_, o_ = .returned v_ ∧ Qvals Z ar ka c0 c1 c2 h0 n0 v_ V_.heap L_ ∧ FrameEnd U_ o_ V_ L_ ({ frames := 1, cells := 1, slots := 3, locals := 14 } : Room).cells ({ frames := 1, cells := 1, slots := 3, locals := 14 } : Room).slots) := by
  refine MetFree.of_bodySF (plainFor_of_name pn_1) hisR ?_
  intro p e s m args below meth c s₁ Bd hml0 hP hK
  obtain ⟨rfl, hZ, hh⟩ := hP
  have hx := Bd.exec
  have hby := Bd.bytes
  have hml : c.maxLocals = 0 := hml0
  have hown : s.vm.findClass "com/example/frist/frist/OnDeleteAction" = some m.cls := findClass_of_methodNamed Bd.named
  have hnm := (name_of_methodNamed Bd.named Bd.method).1
  have X0 : Stand p l e ({ frames := 1, cells := 1, slots := 3, locals := 14 } : Room) s m #[] below meth c s₁ [] 0 0 := Stand.of_body Bd
  have e0 : s₁.heap = h0 := by rw [← hh, Bd.state]; rfl
  have N0 := Fr.nil n0
  have zo := q0.1
  have lt1 := own_alt q2.lt
  have lt2 := own_alt q3.lt
  refine Gl.go (A := s₁.setTop (entryFrame m #[] 0)) (P := fun o_ U_ => ∃ v_ L_, o_ = .returned v_ ∧ Qvals Z ar ka c0 c1 c2 h0 n0 v_ U_.heap L_ ∧ FrameEnd s o_ U_ L_ ({ frames := 1, cells := 1, slots := 3, locals := 14 } : Room).cells ({ frames := 1, cells := 1, slots := 3, locals := 14 } : Room).slots) (fun t k => castTop (ef_vals m ) k) ?_
  show Gl p.tables e below _ (s₁.setTop (mkF m 0 #[] []))
  refine gGetS (host := "") Gl.cl X0 hx hZ hown (Or.inl (hw _ (List.mem_of_getElem? (i := 47) rfl))) Via.refl e0 (q1.ext q0.2) rfl (hb hby d9_0) ?_
  intro T3 X3 e3
  obtain ⟨T4, h4, X4, e4, E4, V4, A4, st4⟩ := cloneH X3 hx hZ hown (hw _ (List.mem_of_getElem? (i := 49) rfl)) (hw _ (List.mem_of_getElem? (i := 50) rfl)) (hw _ (List.mem_of_getElem? (i := 54) rfl)) (hw _ (List.mem_of_getElem? (i := 52) rfl)) (hw _ (List.mem_of_getElem? (i := 53) rfl)) (hw _ (List.mem_of_getElem? (i := 55) rfl)) e3 (Arv.arh (q2.ext q0.2)) (q3.ext q0.2) (g := (mkF m 3 #[] [(.ref ar)])) rfl (by rw [hml]; rfl) rfl (hb hby d9_3) (by decide) (W := 0) (cap := 3) (by show 2 * 0 + _ ≤ _; exact Nat.le_of_eq rfl) (by decide) (by decide) (by decide) (by decide)
  obtain ⟨b4, g4⟩ : ∃ z, z = h0.size := ⟨_, rfl⟩
  rw [← g4] at V4 A4 st4
  have z5 : h0.size ≤ h4.size := E4.1
  have lt4 := own_alt A4.lt
  have Va4 : Arv Z h4 b4 ka (.object "com/example/frist/frist/OnDeleteAction") (3 : Int32) [(.ref c0), (.ref c1), (.ref c2)] .null := V4
  refine Gl.go st4 ?_
  show Gl p.tables e below _ (T4.setTop (mkF m 6 #[] [(.ref b4)]))
  refine gCast Gl.cl X4 hx hZ hown (hw _ (List.mem_of_getElem? (i := 59) rfl)) e4 (Ins.self A4) rfl rfl (hb hby d9_6) ?_
  intro T6 X6 e6
  obtain ⟨fs, hr, hrun, hended, hW, hsame⟩ := X6.leave (v := some (.ref b4)) (fun h => by rw [Bd.returns] at h; cases h)
  refine ⟨_, _, retOut X6 hx Bd.returns rfl (Or.inr (Or.inr (Or.inr (Or.inr ⟨rfl, rfl, rfl⟩)))) (hb hby d9_9) hr, hrun, hended, _, _, rfl, ?_, ⟨⟨_, rfl⟩, hW, hsame.mono (by decide) (by decide)⟩⟩
  show Qvals Z ar ka c0 c1 c2 h0 n0 _ T6.heap _
  rw [e6]
  exact ⟨b4, rfl, N0, ((Keep.refl h0 []).ext E4), (by omega), (by omega), A4, Va4⟩
def Qlab (Z : State) (a : Addr) (r : Addr) (h0 : Heap) (n0 : Nat) (v : Option Value) (h : Heap) (L : List Loc) : Prop := v = some (.ref r) ∧ Fr n0 L ∧ h = h0
theorem ef_lab (m : MethodId) (x0 : Addr) : entryFrame m #[(.ref x0)] 1 = mkF m 0 #[.val (.ref x0)] [] := by first | (simp [entryFrame, mkF, argsToLocals, Value.category]; done) | rfl
theorem d12_0 : decode prog_4_method_5_code 0 = .ok (.aload_n 0, 1) := by decide +kernel
theorem d12_1 : decode prog_4_method_5_code 1 = .ok (.getfield 32, 3) := by decide +kernel
theorem d12_4 : decode prog_4_method_5_code 4 = .ok (.areturn, 1) := by decide +kernel
set_option maxRecDepth 65536 in
set_option maxHeartbeats 40000000 in
theorem lab (l : Launch) (Z : State) (a0 : Array Value) (hw : ∀ d ∈ tables_1, d.before a0 Z = true) (ws : List Jvm.Cond) (a : Addr) (r : Addr) (h0 : Heap) (n0 : Nat) (Z0 : n0 ≤ h0.size) (q0 : Fld Z h0 a "com/example/frist/frist/OnDeleteAction" "key" "Ljava/lang/String;" (.ref r)) :
    MetFree l (⟨"com/example/frist/frist/OnDeleteAction", "key", "()Ljava/lang/String;"⟩ : MethodName) (head1 (Jvm.Cond.code (⟨"com/example/frist/frist/OnDeleteAction", "key", "()Ljava/lang/String;"⟩ : MethodName) prog_4_method_5_code 1 (some (.object "java/lang/String")) :: ws) ({ frames := 0, cells := 0, slots := 0, locals := 0 } : Room)) (fun a_ U_ => a_ = #[(.ref a)] ∧ Z.Warmed39 U_.vm ∧ U_.heap = h0) (fun _ _ _ _ _ => True) (fun _ U_ o_ V_ => ∃ v_ L_, o_ = .returned v_ ∧ Qlab Z a r h0 n0 v_ V_.heap L_ ∧ FrameEnd U_ o_ V_ L_ ({ frames := 0, cells := 0, slots := 0, locals := 0 } : Room).cells ({ frames := 0, cells := 0, slots := 0, locals := 0 } : Room).slots) := by
  refine MetFree.of_bodySF (plainFor_of_name pn_1) hisR ?_
  intro p e s m args below meth c s₁ Bd hml0 hP hK
  obtain ⟨rfl, hZ, hh⟩ := hP
  have hx := Bd.exec
  have hby := Bd.bytes
  have hml : c.maxLocals = 1 := hml0
  have hown : s.vm.findClass "com/example/frist/frist/OnDeleteAction" = some m.cls := findClass_of_methodNamed Bd.named
  have hnm := (name_of_methodNamed Bd.named Bd.method).1
  have X0 : Stand p l e ({ frames := 0, cells := 0, slots := 0, locals := 0 } : Room) s m #[(.ref a)] below meth c s₁ [] 0 0 := Stand.of_body Bd
  have e0 : s₁.heap = h0 := by rw [← hh, Bd.state]; rfl
  have N0 := Fr.nil n0
  have lt7 := own_alt q0.lt
  refine Gl.go (A := s₁.setTop (entryFrame m #[(.ref a)] 1)) (P := fun o_ U_ => ∃ v_ L_, o_ = .returned v_ ∧ Qlab Z a r h0 n0 v_ U_.heap L_ ∧ FrameEnd s o_ U_ L_ ({ frames := 0, cells := 0, slots := 0, locals := 0 } : Room).cells ({ frames := 0, cells := 0, slots := 0, locals := 0 } : Room).slots) (fun t k => castTop (ef_lab m a) k) ?_
  show Gl p.tables e below _ (s₁.setTop (mkF m 0 #[.val (.ref a)] []))
  refine Gl.go (fun _ hr => zXS_aloadN X0.here hx rfl (hb hby d12_0) rfl rfl hr) ?_
  refine gGetF (host := "") Gl.cl X0 hx hZ hown (Or.inl (hw _ (List.mem_of_getElem? (i := 61) rfl))) Via.refl e0 q0 rfl rfl (hb hby d12_1) ?_
  intro T8 X8 e8
  obtain ⟨fs, hr, hrun, hended, hW, hsame⟩ := X8.leave (v := some (.ref r)) (fun h => by rw [Bd.returns] at h; cases h)
  refine ⟨_, _, retOut X8 hx Bd.returns rfl (Or.inr (Or.inr (Or.inr (Or.inr ⟨rfl, rfl, rfl⟩)))) (hb hby d12_4) hr, hrun, hended, _, _, rfl, ?_, ⟨⟨_, rfl⟩, hW, hsame.mono (by decide) (by decide)⟩⟩
  show Qlab Z a r h0 n0 _ T8.heap _
  rw [e8]
  exact ⟨rfl, N0, rfl⟩
def Qof0 (Z : State) (x : Addr) (t : Addr) (kb : ClassId) (G1 : Int32) (ar : Addr) (ka : ClassId) (c0 : Addr) (c1 : Addr) (c2 : Addr) (l0 : Addr) (t0 : Addr) (kb0 : ClassId) (l1 : Addr) (t1 : Addr) (kb1 : ClassId) (l2 : Addr) (t2 : Addr) (kb2 : ClassId) (h0 : Heap) (n0 : Nat) (v : Option Value) (h : Heap) (L : List Loc) : Prop := v = some (.ref c0) ∧ Fr n0 L ∧ Keep h0 h []
set_option maxRecDepth 65536 in
theorem own_hstr : ∀ d ∈ Bundle.stringAtoms, d ∈ tables_1 := by decide +kernel
theorem ef_of0 (m : MethodId) (x0 : Addr) : entryFrame m #[(.ref x0)] 6 = mkF m 0 #[.val (.ref x0), .unset, .unset, .unset, .unset, .unset] [] := by first | (simp [entryFrame, mkF, argsToLocals, Value.category]; done) | rfl
theorem d7_0 : decode prog_4_method_4_code 0 = .ok (.aload_n 0, 1) := by decide +kernel
theorem d7_1 : decode prog_4_method_4_code 1 = .ok (.ldc 36, 2) := by decide +kernel
theorem d7_3 : decode prog_4_method_4_code 3 = .ok (.invokestatic 37, 3) := by decide +kernel
theorem pd_0 : parseMethodDescriptor "(Ljava/lang/Object;Ljava/lang/String;)Ljava/lang/Object;" = some ⟨[(.object "java/lang/Object"), (.object "java/lang/String")], some (.object "java/lang/Object")⟩ := by decide +kernel
theorem d7_6 : decode prog_4_method_4_code 6 = .ok (.pop, 1) := by decide +kernel
theorem d7_7 : decode prog_4_method_4_code 7 = .ok (.invokestatic 43, 3) := by decide +kernel
theorem pd_1 : parseMethodDescriptor "()[Lcom/example/frist/frist/OnDeleteAction;" = some ⟨[], some (.array (.object "com/example/frist/frist/OnDeleteAction"))⟩ := by decide +kernel
theorem d7_10 : decode prog_4_method_4_code 10 = .ok (.astore_n 1, 1) := by decide +kernel
theorem d7_11 : decode prog_4_method_4_code 11 = .ok (.aload_n 1, 1) := by decide +kernel
theorem d7_12 : decode prog_4_method_4_code 12 = .ok (.arraylength, 1) := by decide +kernel
theorem d7_13 : decode prog_4_method_4_code 13 = .ok (.istore_n 2, 1) := by decide +kernel
theorem d7_14 : decode prog_4_method_4_code 14 = .ok (.iconst 0, 1) := by decide +kernel
theorem d7_15 : decode prog_4_method_4_code 15 = .ok (.istore_n 3, 1) := by decide +kernel
theorem d7_16 : decode prog_4_method_4_code 16 = .ok (.iload_n 3, 1) := by decide +kernel
theorem d7_17 : decode prog_4_method_4_code 17 = .ok (.iload_n 2, 1) := by decide +kernel
theorem d7_18 : decode prog_4_method_4_code 18 = .ok (.if_icmp .ge 29, 3) := by decide +kernel
theorem d7_21 : decode prog_4_method_4_code 21 = .ok (.aload_n 1, 1) := by decide +kernel
theorem d7_22 : decode prog_4_method_4_code 22 = .ok (.iload_n 3, 1) := by decide +kernel
theorem d7_23 : decode prog_4_method_4_code 23 = .ok (.aaload, 1) := by decide +kernel
theorem d7_24 : decode prog_4_method_4_code 24 = .ok (.astore 4, 2) := by decide +kernel
theorem d7_26 : decode prog_4_method_4_code 26 = .ok (.aload 4, 2) := by decide +kernel
theorem d7_28 : decode prog_4_method_4_code 28 = .ok (.getfield 32, 3) := by decide +kernel
theorem d7_31 : decode prog_4_method_4_code 31 = .ok (.aload_n 0, 1) := by decide +kernel
theorem d7_32 : decode prog_4_method_4_code 32 = .ok (.invokevirtual 47, 3) := by decide +kernel
theorem pd_2 : parseMethodDescriptor "(Ljava/lang/Object;)Z" = some ⟨[(.object "java/lang/Object")], some .boolean⟩ := by decide +kernel
theorem d7_35 : decode prog_4_method_4_code 35 = .ok (.ifCond .eq 6, 3) := by decide +kernel
theorem d7_38 : decode prog_4_method_4_code 38 = .ok (.aload 4, 2) := by decide +kernel
theorem d7_40 : decode prog_4_method_4_code 40 = .ok (.areturn, 1) := by decide +kernel
set_option maxRecDepth 65536 in
set_option maxHeartbeats 40000000 in
theorem of0 (l : Launch) (Z : State) (a0 : Array Value) (hw : ∀ d ∈ tables_1, d.before a0 Z = true) (ws : List Jvm.Cond) (x : Addr) (t : Addr) (kb : ClassId) (G1 : Int32) (ar : Addr) (ka : ClassId) (c0 : Addr) (c1 : Addr) (c2 : Addr) (l0 : Addr) (t0 : Addr) (kb0 : ClassId) (l1 : Addr) (t1 : Addr) (kb1 : ClassId) (l2 : Addr) (t2 : Addr) (kb2 : ClassId) (h0 : Heap) (n0 : Nat) (Z0 : n0 ≤ h0.size) (q0 : Sta Z Z.heap "java/lang/String" "COMPACT_STRINGS" "Z" (.int G1)) (P5 : ¬ (G1 = (0 : Int32))) (q2 : Old Z n0 h0) (q3 : Exa Z h0 x "java/lang/String") (q4 : Fld Z h0 x "java/lang/String" "value" "[B" (.ref t)) (q5 : Fld Z h0 x "java/lang/String" "coder" "B" (.int (0 : Int32))) (q6 : Arv Z h0 t kb .byte (12 : Int32) ((([(97 : Int32), (115 : Int32), (121 : Int32), (110 : Int32), (99 : Int32), (95 : Int32), (100 : Int32), (101 : Int32), (108 : Int32), (101 : Int32), (116 : Int32), (101 : Int32)] : List Int32).map (fun c => c.toInt8.toInt32)).map Value.int) (.int 0)) (q7 : Sta Z Z.heap "com/example/frist/frist/OnDeleteAction" "$VALUES" "[Lcom/example/frist/frist/OnDeleteAction;" (.ref ar)) (q8 : Arv Z Z.heap ar ka (.object "com/example/frist/frist/OnDeleteAction") (3 : Int32) ([(.ref c0), (.ref c1), (.ref c2)]) .null) (q9 : Exa Z Z.heap ar "[Lcom/example/frist/frist/OnDeleteAction;") (q10 : Exa Z Z.heap c0 "com/example/frist/frist/OnDeleteAction") (q11 : Fld Z Z.heap c0 "com/example/frist/frist/OnDeleteAction" "key" "Ljava/lang/String;" (.ref l0)) (q12 : Exa Z Z.heap l0 "java/lang/String") (q13 : Fld Z Z.heap l0 "java/lang/String" "value" "[B" (.ref t0)) (q14 : Fld Z Z.heap l0 "java/lang/String" "coder" "B" (.int (0 : Int32))) (q15 : Arv Z Z.heap t0 kb0 .byte (12 : Int32) ((([(97 : Int32), (115 : Int32), (121 : Int32), (110 : Int32), (99 : Int32), (95 : Int32), (100 : Int32), (101 : Int32), (108 : Int32), (101 : Int32), (116 : Int32), (101 : Int32)] : List Int32).map (fun c => c.toInt8.toInt32)).map Value.int) (.int 0)) (q16 : Exa Z Z.heap c1 "com/example/frist/frist/OnDeleteAction") (q17 : Fld Z Z.heap c1 "com/example/frist/frist/OnDeleteAction" "key" "Ljava/lang/String;" (.ref l1)) (q18 : Exa Z Z.heap l1 "java/lang/String") (q19 : Fld Z Z.heap l1 "java/lang/String" "value" "[B" (.ref t1)) (q20 : Fld Z Z.heap l1 "java/lang/String" "coder" "B" (.int (0 : Int32))) (q21 : Arv Z Z.heap t1 kb1 .byte (13 : Int32) ((([(97 : Int32), (115 : Int32), (121 : Int32), (110 : Int32), (99 : Int32), (95 : Int32), (110 : Int32), (117 : Int32), (108 : Int32), (108 : Int32), (105 : Int32), (102 : Int32), (121 : Int32)] : List Int32).map (fun c => c.toInt8.toInt32)).map Value.int) (.int 0)) (q22 : Exa Z Z.heap c2 "com/example/frist/frist/OnDeleteAction") (q23 : Fld Z Z.heap c2 "com/example/frist/frist/OnDeleteAction" "key" "Ljava/lang/String;" (.ref l2)) (q24 : Exa Z Z.heap l2 "java/lang/String") (q25 : Fld Z Z.heap l2 "java/lang/String" "value" "[B" (.ref t2)) (q26 : Fld Z Z.heap l2 "java/lang/String" "coder" "B" (.int (0 : Int32))) (q27 : Arv Z Z.heap t2 kb2 .byte (16 : Int32) ((([(117 : Int32), (112 : Int32), (100 : Int32), (97 : Int32), (116 : Int32), (101 : Int32), (95 : Int32), (99 : Int32), (111 : Int32), (108 : Int32), (117 : Int32), (109 : Int32), (110 : Int32), (95 : Int32), (116 : Int32), (111 : Int32)] : List Int32).map (fun c => c.toInt8.toInt32)).map Value.int) (.int 0)) :
    MetFree l (⟨"com/example/frist/frist/OnDeleteAction", "fromKey", "(Ljava/lang/String;)Lcom/example/frist/frist/OnDeleteAction;"⟩ : MethodName) (head1 (Jvm.Cond.code (⟨"com/example/frist/frist/OnDeleteAction", "fromKey", "(Ljava/lang/String;)Lcom/example/frist/frist/OnDeleteAction;"⟩ : MethodName) prog_4_method_4_code 6 (some (.object "com/example/frist/frist/OnDeleteAction")) :: ws) ({ frames := 2, cells := 3, slots := 19, locals := 28 } : Room)) (fun a_ U_ => a_ = #[(.ref x)] ∧ Z.Warmed39 U_.vm ∧ U_.heap = h0) (fun _ _ _ _ _ => True) (fun _ U_ o_ V_ => ∃ v_ L_, o_ = .returned v_ ∧ Qof0 Z x t kb G1 ar ka c0 c1 c2 l0 t0 kb0 l1 t1 kb1 l2 t2 kb2 h0 n0 v_ V_.heap L_ ∧ ReturnedEndW U_ o_ V_ L_ ({ frames := 2, cells := 3, slots := 19, locals := 28 } : Room).cells ({ frames := 2, cells := 3, slots := 19, locals := 28 } : Room).slots) := by
  refine MetFree.of_bodySF (plainFor_of_name pn_1) hisR ?_
  intro p e s m args below meth c s₁ Bd hml0 hP hK
  obtain ⟨rfl, hZ, hh⟩ := hP
  have hx := Bd.exec
  have hby := Bd.bytes
  have hml : c.maxLocals = 6 := hml0
  have hown : s.vm.findClass "com/example/frist/frist/OnDeleteAction" = some m.cls := findClass_of_methodNamed Bd.named
  have hnm := (name_of_methodNamed Bd.named Bd.method).1
  have X0 : Stand p l e ({ frames := 2, cells := 3, slots := 19, locals := 28 } : Room) (s.setVm s.vm) m #[(.ref x)] below meth c s₁ [] 0 0 := Stand.of_body Bd
  have e0 : s₁.heap = h0 := by rw [← hh, Bd.state]; rfl
  have N0 := Fr.nil n0
  have hS0 : s.Since s.vm h0.size := (State.WarmedH.refl s).since _
  have hk0 : h0.size ≤ h0.size := Nat.le_refl _
  have zo := q2.1
  have lt9 := own_alt q3.lt
  have lt10 := own_alt q4.lt
  have lt11 := own_alt q5.lt
  have lt12 := own_alt q6.lt
  have lt13 := own_alt q8.lt
  have lt14 := own_alt q9.lt
  have lt15 := own_alt q10.lt
  have lt16 := own_alt q11.lt
  have lt17 := own_alt q12.lt
  have lt18 := own_alt q13.lt
  have lt19 := own_alt q14.lt
  have lt20 := own_alt q15.lt
  have lt21 := own_alt q16.lt
  have lt22 := own_alt q17.lt
  have lt23 := own_alt q18.lt
  have lt24 := own_alt q19.lt
  have lt25 := own_alt q20.lt
  have lt26 := own_alt q21.lt
  have lt27 := own_alt q22.lt
  have lt28 := own_alt q23.lt
  have lt29 := own_alt q24.lt
  have lt30 := own_alt q25.lt
  have lt31 := own_alt q26.lt
  have lt32 := own_alt q27.lt
  have hstr : ∀ d ∈ Bundle.stringAtoms, d.before a0 Z = true := fun d hd => hw d (own_hstr d hd)
  have heq : ∀ d ∈ StrChars.Road.wordsEq, d.before a0 Z = true := fun d hd => hw d (own_heq d hd)
  have hp33 : ∀ c ∈ ([(97 : Int32), (115 : Int32), (121 : Int32), (110 : Int32), (99 : Int32), (95 : Int32), (100 : Int32), (101 : Int32), (108 : Int32), (101 : Int32), (116 : Int32), (101 : Int32)] : List Int32), Lat c := by decide
  have hcd33 : StrChars.Road.CodA ([(97 : Int32), (115 : Int32), (121 : Int32), (110 : Int32), (99 : Int32), (95 : Int32), (100 : Int32), (101 : Int32), (108 : Int32), (101 : Int32), (116 : Int32), (101 : Int32)] : List Int32) 0 (12 : Int32) ((([(97 : Int32), (115 : Int32), (121 : Int32), (110 : Int32), (99 : Int32), (95 : Int32), (100 : Int32), (101 : Int32), (108 : Int32), (101 : Int32), (116 : Int32), (101 : Int32)] : List Int32).map (fun c => c.toInt8.toInt32)).map Value.int) := StrChars.Road.codOf (n := 12) rfl (fun c hc => (hp33 c hc).2)
  have hbd33 : ∀ c ∈ ([(97 : Int32), (115 : Int32), (121 : Int32), (110 : Int32), (99 : Int32), (95 : Int32), (100 : Int32), (101 : Int32), (108 : Int32), (101 : Int32), (116 : Int32), (101 : Int32)] : List Int32), Wid c := own_up hp33
  have hp34 : ∀ c ∈ ([(97 : Int32), (115 : Int32), (121 : Int32), (110 : Int32), (99 : Int32), (95 : Int32), (110 : Int32), (117 : Int32), (108 : Int32), (108 : Int32), (105 : Int32), (102 : Int32), (121 : Int32)] : List Int32), Lat c := by decide
  have hcd34 : StrChars.Road.CodA ([(97 : Int32), (115 : Int32), (121 : Int32), (110 : Int32), (99 : Int32), (95 : Int32), (110 : Int32), (117 : Int32), (108 : Int32), (108 : Int32), (105 : Int32), (102 : Int32), (121 : Int32)] : List Int32) 0 (13 : Int32) ((([(97 : Int32), (115 : Int32), (121 : Int32), (110 : Int32), (99 : Int32), (95 : Int32), (110 : Int32), (117 : Int32), (108 : Int32), (108 : Int32), (105 : Int32), (102 : Int32), (121 : Int32)] : List Int32).map (fun c => c.toInt8.toInt32)).map Value.int) := StrChars.Road.codOf (n := 13) rfl (fun c hc => (hp34 c hc).2)
  have hbd34 : ∀ c ∈ ([(97 : Int32), (115 : Int32), (121 : Int32), (110 : Int32), (99 : Int32), (95 : Int32), (110 : Int32), (117 : Int32), (108 : Int32), (108 : Int32), (105 : Int32), (102 : Int32), (121 : Int32)] : List Int32), Wid c := own_up hp34
  have hp35 : ∀ c ∈ ([(117 : Int32), (112 : Int32), (100 : Int32), (97 : Int32), (116 : Int32), (101 : Int32), (95 : Int32), (99 : Int32), (111 : Int32), (108 : Int32), (117 : Int32), (109 : Int32), (110 : Int32), (95 : Int32), (116 : Int32), (111 : Int32)] : List Int32), Lat c := by decide
  have hcd35 : StrChars.Road.CodA ([(117 : Int32), (112 : Int32), (100 : Int32), (97 : Int32), (116 : Int32), (101 : Int32), (95 : Int32), (99 : Int32), (111 : Int32), (108 : Int32), (117 : Int32), (109 : Int32), (110 : Int32), (95 : Int32), (116 : Int32), (111 : Int32)] : List Int32) 0 (16 : Int32) ((([(117 : Int32), (112 : Int32), (100 : Int32), (97 : Int32), (116 : Int32), (101 : Int32), (95 : Int32), (99 : Int32), (111 : Int32), (108 : Int32), (117 : Int32), (109 : Int32), (110 : Int32), (95 : Int32), (116 : Int32), (111 : Int32)] : List Int32).map (fun c => c.toInt8.toInt32)).map Value.int) := StrChars.Road.codOf (n := 16) rfl (fun c hc => (hp35 c hc).2)
  have hbd35 : ∀ c ∈ ([(117 : Int32), (112 : Int32), (100 : Int32), (97 : Int32), (116 : Int32), (101 : Int32), (95 : Int32), (99 : Int32), (111 : Int32), (108 : Int32), (117 : Int32), (109 : Int32), (110 : Int32), (95 : Int32), (116 : Int32), (111 : Int32)] : List Int32), Wid c := own_up hp35
  have hp36 : ∀ c ∈ ([(97 : Int32), (115 : Int32), (121 : Int32), (110 : Int32), (99 : Int32), (95 : Int32), (100 : Int32), (101 : Int32), (108 : Int32), (101 : Int32), (116 : Int32), (101 : Int32)] : List Int32), Lat c := by decide
  have hcd36 : StrChars.Road.CodA ([(97 : Int32), (115 : Int32), (121 : Int32), (110 : Int32), (99 : Int32), (95 : Int32), (100 : Int32), (101 : Int32), (108 : Int32), (101 : Int32), (116 : Int32), (101 : Int32)] : List Int32) 0 (12 : Int32) ((([(97 : Int32), (115 : Int32), (121 : Int32), (110 : Int32), (99 : Int32), (95 : Int32), (100 : Int32), (101 : Int32), (108 : Int32), (101 : Int32), (116 : Int32), (101 : Int32)] : List Int32).map (fun c => c.toInt8.toInt32)).map Value.int) := StrChars.Road.codOf (n := 12) rfl (fun c hc => (hp36 c hc).2)
  have hbd36 : ∀ c ∈ ([(97 : Int32), (115 : Int32), (121 : Int32), (110 : Int32), (99 : Int32), (95 : Int32), (100 : Int32), (101 : Int32), (108 : Int32), (101 : Int32), (116 : Int32), (101 : Int32)] : List Int32), Wid c := own_up hp36
  refine Gl.go (A := s₁.setTop (entryFrame m #[(.ref x)] 6)) (P := fun o_ U_ => ∃ v_ L_, o_ = .returned v_ ∧ Qof0 Z x t kb G1 ar ka c0 c1 c2 l0 t0 kb0 l1 t1 kb1 l2 t2 kb2 h0 n0 v_ U_.heap L_ ∧ ReturnedEndW s o_ U_ L_ ({ frames := 2, cells := 3, slots := 19, locals := 28 } : Room).cells ({ frames := 2, cells := 3, slots := 19, locals := 28 } : Room).slots) (fun t k => castTop (ef_of0 m x) k) ?_
  show Gl p.tables e below _ (s₁.setTop (mkF m 0 #[.val (.ref x), .unset, .unset, .unset, .unset, .unset] []))
  refine Gl.go (fun _ hr => zXS_aloadN X0.here hx rfl (hb hby d7_0) rfl rfl hr) ?_
  obtain ⟨a37, T37, h37, k37, X37, e37, E37, hS37, hk37, hZ37, hown37, st37⟩ := ldcS X0 hx hZ (own := "com/example/frist/frist/OnDeleteAction") hown (hw _ (List.mem_of_getElem? (i := 37) rfl)) hstr e0 hS0 (by have q := hk0; omega) (g := (mkF m 1 #[.val (.ref x), .unset, .unset, .unset, .unset, .unset] [(.ref x)])) rfl (hb hby d7_1) (n := 12) (by decide) (by decide) (by decide) (by decide)
  have z38 : h0.size ≤ h37.size := E37.1
  refine Gl.go st37 ?_
  show Gl p.tables e below _ (T37.setTop (mkF m 3 #[.val (.ref x), .unset, .unset, .unset, .unset, .unset] [(.ref a37), (.ref x)]))
  have zz39 : n0 ≤ h37.size := by omega
  refine gStaticN Gl.cl (y := (⟨"java/util/Objects", "requireNonNull", "(Ljava/lang/Object;Ljava/lang/String;)Ljava/lang/Object;"⟩ : MethodName)) (argsL := [(.ref x), (.ref a37)]) (rest := []) (mc := 0) (ms := 0) X37 hx hZ37 hown37 (mvT hZ37 (hw _ (List.mem_of_getElem? (i := 40) rfl))) (mvT hZ37 (hw _ (List.mem_of_getElem? (i := 41) rfl))) (mvT hZ37 (hw _ (List.mem_of_getElem? (i := 42) rfl))) (mvT hZ37 (hw _ (List.mem_of_getElem? (i := 43) rfl))) (by decide) (backOf (W := 0) (rq l Z a0 hw [] x a37 h37 n0 zz39 ) hZ37 (hw _ (List.mem_of_getElem? (i := 43) rfl)) (hw _ (List.mem_of_getElem? (i := 42) rfl)) (by decide) (by decide)) rfl (by rw [hml]; rfl) (lenOf pd_0 rfl) rfl (by show 2 * 0 + _ ≤ _; exact Nat.le_of_eq rfl) (hb hby d7_3) rfl e37 (by decide) (by decide) ?_
  intro v39 T39 Lc39 hQ39 X39
  obtain ⟨rfl, Nq39, e39⟩ := hQ39
  have N39 := Fr.app N0 Nq39
  refine Gl.go (fun _ hr => zXT_pop X39.here hx rfl (hb hby d7_6) rfl rfl hr) ?_
  have Oc41 := (q2.ext E37)
  have zz40 : n0 ≤ h37.size := by omega
  refine gStaticN Gl.cl (y := (⟨"com/example/frist/frist/OnDeleteAction", "values", "()[Lcom/example/frist/frist/OnDeleteAction;"⟩ : MethodName)) (argsL := []) (rest := []) (mc := 1) (ms := 3) X39 hx hZ37 hown37 (mvT hZ37 (hw _ (List.mem_of_getElem? (i := 44) rfl))) (mvT hZ37 (hw _ (List.mem_of_getElem? (i := 45) rfl))) (mvT hZ37 (hw _ (List.mem_of_getElem? (i := 3) rfl))) (mvT hZ37 (hw _ (List.mem_of_getElem? (i := 46) rfl))) (by decide) (backOf (W := 0) (vals l Z a0 hw [] ar ka c0 c1 c2 h37 n0 zz40 Oc41 q7 q8 q9) hZ37 (hw _ (List.mem_of_getElem? (i := 46) rfl)) (hw _ (List.mem_of_getElem? (i := 3) rfl)) (by decide) (by decide)) rfl (by rw [hml]; rfl) (lenOf pd_1 rfl) rfl (by show 2 * 0 + _ ≤ _; exact Nat.le_of_eq rfl) (hb hby d7_7) rfl e39 (by decide) (by decide) ?_
  intro v40 T40 Lc40 hQ40 X40
  obtain ⟨b_40, rfl, Nq40, K40, f40_0, f40_1, f40_2, f40_3⟩ := hQ40
  have z42 : h37.size ≤ T40.heap.size := K40.1
  have N40 := Fr.app N39 Nq40
  have lt43 := own_alt f40_2.lt
  have lt44 := own_alt f40_3.lt
  refine Gl.go (fun _ hr => zXS_astoreN X40.here hx rfl (hb hby d7_10) rfl rfl (l' := #[.val (.ref x), .val (.ref b_40), .unset, .unset, .unset, .unset]) rfl (zXS_aloadN X40.here hx rfl (hb hby d7_11) rfl rfl hr)) ?_
  obtain ⟨c45, a45, q45, s45, m45, H45, U45⟩ := id f40_3
  refine gLen Gl.cl X40 hx hZ37 (rfl : T40.heap = T40.heap) a45 s45 m45 rfl rfl (hb hby d7_12) ?_
  refine Gl.go (fun _ hr => zXS_istoreN X40.here hx rfl (hb hby d7_13) rfl (l' := #[.val (.ref x), .val (.ref b_40), .val (.int (3 : Int32)), .unset, .unset, .unset]) rfl (zXS_iconst X40.here hx rfl (hb hby d7_14) (zXS_istoreN X40.here hx rfl (hb hby d7_15) rfl (l' := #[.val (.ref x), .val (.ref b_40), .val (.int (3 : Int32)), .val (.int (0 : Int32)), .unset, .unset]) rfl (zXS_iloadN X40.here hx rfl (hb hby d7_16) rfl (zXS_iloadN X40.here hx rfl (hb hby d7_17) rfl (zXS_icmpNo X40.here hx rfl (hb hby d7_18) rfl (XT.ii_ge_f (by decide)) (zXS_aloadN X40.here hx rfl (hb hby d7_21) rfl rfl (zXS_iloadN X40.here hx rfl (hb hby d7_22) rfl hr)))))))) ?_
  obtain ⟨c46, a46, q46, s46, m46, H46, U46⟩ := id f40_3
  have i46 := inb_of s46 (j := (0 : Int32)) ⟨(by decide), (by decide)⟩
  refine g_aaload Gl.cl X40 hx hZ37 (rfl : T40.heap = T40.heap) a46 rfl i46 (v := (.ref c0)) (H46.at i46 rfl) rfl rfl (hb hby d7_23) ?_
  refine Gl.go (fun _ hr => zXS_astore X40.here hx rfl (hb hby d7_24) rfl rfl (l' := #[.val (.ref x), .val (.ref b_40), .val (.int (3 : Int32)), .val (.int (0 : Int32)), .val (.ref c0), .unset]) rfl (zXS_aload X40.here hx rfl (hb hby d7_26) rfl rfl hr)) ?_
  have Oc47 := (Oc41.keep K40 all0)
  refine gGetF (host := "") Gl.cl X40 hx hZ37 hown37 (Or.inl (hw _ (List.mem_of_getElem? (i := 61) rfl))) Via.refl (rfl : T40.heap = T40.heap) (q11.ext Oc47.2) rfl rfl (hb hby d7_28) ?_
  intro T48 X48 e48
  refine Gl.go (fun _ hr => zXS_aloadN X48.here hx rfl (hb hby d7_31) rfl rfl hr) ?_
  have Ec50 := ((q3.ext E37).keep K40)
  have Fc51 := ((q4.ext E37).keep K40 nin0)
  have Fc52 := ((q5.ext E37).keep K40 nin0)
  have Vc53 := ((q6.ext E37).keep K40 nin0)
  refine gVirtualN Gl.cl (y := (⟨"java/lang/String", "equals", "(Ljava/lang/Object;)Z"⟩ : MethodName)) (z := (⟨"java/lang/String", "equals", "(Ljava/lang/Object;)Z"⟩ : MethodName)) (b := l0) (argsL := [(.ref x)]) (rest := []) (mc := 0) (ms := 0) (Q := fun v h' L => ((v = some (.int 1) ∧ ([(97 : Int32), (115 : Int32), (121 : Int32), (110 : Int32), (99 : Int32), (95 : Int32), (100 : Int32), (101 : Int32), (108 : Int32), (101 : Int32), (116 : Int32), (101 : Int32)] : List Int32) = ([(97 : Int32), (115 : Int32), (121 : Int32), (110 : Int32), (99 : Int32), (95 : Int32), (100 : Int32), (101 : Int32), (108 : Int32), (101 : Int32), (116 : Int32), (101 : Int32)] : List Int32)) ∨ (v = some (.int 0) ∧ ¬ ([(97 : Int32), (115 : Int32), (121 : Int32), (110 : Int32), (99 : Int32), (95 : Int32), (100 : Int32), (101 : Int32), (108 : Int32), (101 : Int32), (116 : Int32), (101 : Int32)] : List Int32) = ([(97 : Int32), (115 : Int32), (121 : Int32), (110 : Int32), (99 : Int32), (95 : Int32), (100 : Int32), (101 : Int32), (108 : Int32), (101 : Int32), (116 : Int32), (101 : Int32)] : List Int32))) ∧ L = [] ∧ h' = T40.heap) X48 hx hZ37 hown37 (mvT hZ37 (hw _ (List.mem_of_getElem? (i := 63) rfl))) (mvT hZ37 (hw _ (List.mem_of_getElem? (i := 64) rfl))) (notFace_of_selects (args := #[]) (mvT hZ37 (hw _ (List.mem_of_getElem? (i := 66) rfl)))) (mvT hZ37 (hw _ (List.mem_of_getElem? (i := 66) rfl))) (mvT hZ37 (hw _ (List.mem_of_getElem? (i := 65) rfl))) (by decide) (q12.ext Oc47.2) (StrChars.Road.eqW (W := 0) hZ37 heq (kI := 4) (hw _ (List.mem_of_getElem? (i := 6) rfl)) (q12.ext Oc47.2) (q13.ext Oc47.2) (q14.ext Oc47.2) (q15.ext Oc47.2) hcd33 hbd33 (Nat.le_of_ble_eq_true rfl) Ec50 Fc51 Fc52 Vc53 hcd36 hbd36 (Nat.le_of_ble_eq_true rfl) (q0.ext Oc47.2) P5 (by decide) (by decide)) rfl (by rw [hml]; rfl) (lenOf pd_2 rfl) rfl (by show 2 * 0 + _ ≤ _; exact Nat.le_of_eq rfl) (hb hby d7_32) rfl e48 (by decide) (by decide) ?_
  intro v49 T49 Lc49 hQ49 X49
  obtain ⟨hca49, rfl, e49⟩ := hQ49
  have N49 := own_fr_nil N40
  have hv49 : _ = some (Value.int 1) := hca49.elim (fun q => q.1) (fun q => absurd rfl q.2)
  subst hv49
  refine Gl.go (fun _ hr => zXS_ifNo X49.here hx rfl (hb hby d7_35) rfl (XT.i0_eq_f (by decide)) (zXS_aload X49.here hx rfl (hb hby d7_38) rfl rfl hr)) ?_
  obtain ⟨fs, hr, hrun, hended, hE⟩ := X49.leaveW hS37 (by have q := congrArg Array.size e49; have q2 := hk37; omega) (v := some (.ref c0)) (fun h => by rw [Bd.returns] at h; cases h)
  refine ⟨_, _, retOut X49 hx Bd.returns rfl (Or.inr (Or.inr (Or.inr (Or.inr ⟨rfl, rfl, rfl⟩)))) (hb hby d7_40) hr, hrun, hended, _, _, rfl, ?_, ⟨hE.1, hE.2.1, hE.2.2.1, hE.2.2.2.mono (by decide) (by decide)⟩⟩
  show Qof0 Z x t kb G1 ar ka c0 c1 c2 l0 t0 kb0 l1 t1 kb1 l2 t2 kb2 h0 n0 _ T49.heap _
  rw [e49]
  exact ⟨rfl, N49, (((Keep.refl h0 []).ext E37).trans K40 all0)⟩
def Qof1 (Z : State) (x : Addr) (t : Addr) (kb : ClassId) (G1 : Int32) (ar : Addr) (ka : ClassId) (c0 : Addr) (c1 : Addr) (c2 : Addr) (l0 : Addr) (t0 : Addr) (kb0 : ClassId) (l1 : Addr) (t1 : Addr) (kb1 : ClassId) (l2 : Addr) (t2 : Addr) (kb2 : ClassId) (h0 : Heap) (n0 : Nat) (v : Option Value) (h : Heap) (L : List Loc) : Prop := v = some (.ref c1) ∧ Fr n0 L ∧ Keep h0 h []
theorem ef_of1 (m : MethodId) (x0 : Addr) : entryFrame m #[(.ref x0)] 6 = mkF m 0 #[.val (.ref x0), .unset, .unset, .unset, .unset, .unset] [] := by first | (simp [entryFrame, mkF, argsToLocals, Value.category]; done) | rfl
theorem d7_41 : decode prog_4_method_4_code 41 = .ok (.iinc 3 1, 3) := by decide +kernel
theorem d7_44 : decode prog_4_method_4_code 44 = .ok (.goto (-28), 3) := by decide +kernel
set_option maxRecDepth 65536 in
set_option maxHeartbeats 40000000 in
theorem of1 (l : Launch) (Z : State) (a0 : Array Value) (hw : ∀ d ∈ tables_1, d.before a0 Z = true) (ws : List Jvm.Cond) (x : Addr) (t : Addr) (kb : ClassId) (G1 : Int32) (ar : Addr) (ka : ClassId) (c0 : Addr) (c1 : Addr) (c2 : Addr) (l0 : Addr) (t0 : Addr) (kb0 : ClassId) (l1 : Addr) (t1 : Addr) (kb1 : ClassId) (l2 : Addr) (t2 : Addr) (kb2 : ClassId) (h0 : Heap) (n0 : Nat) (Z0 : n0 ≤ h0.size) (q0 : Sta Z Z.heap "java/lang/String" "COMPACT_STRINGS" "Z" (.int G1)) (P5 : ¬ (G1 = (0 : Int32))) (q2 : Old Z n0 h0) (q3 : Exa Z h0 x "java/lang/String") (q4 : Fld Z h0 x "java/lang/String" "value" "[B" (.ref t)) (q5 : Fld Z h0 x "java/lang/String" "coder" "B" (.int (0 : Int32))) (q6 : Arv Z h0 t kb .byte (13 : Int32) ((([(97 : Int32), (115 : Int32), (121 : Int32), (110 : Int32), (99 : Int32), (95 : Int32), (110 : Int32), (117 : Int32), (108 : Int32), (108 : Int32), (105 : Int32), (102 : Int32), (121 : Int32)] : List Int32).map (fun c => c.toInt8.toInt32)).map Value.int) (.int 0)) (q7 : Sta Z Z.heap "com/example/frist/frist/OnDeleteAction" "$VALUES" "[Lcom/example/frist/frist/OnDeleteAction;" (.ref ar)) (q8 : Arv Z Z.heap ar ka (.object "com/example/frist/frist/OnDeleteAction") (3 : Int32) ([(.ref c0), (.ref c1), (.ref c2)]) .null) (q9 : Exa Z Z.heap ar "[Lcom/example/frist/frist/OnDeleteAction;") (q10 : Exa Z Z.heap c0 "com/example/frist/frist/OnDeleteAction") (q11 : Fld Z Z.heap c0 "com/example/frist/frist/OnDeleteAction" "key" "Ljava/lang/String;" (.ref l0)) (q12 : Exa Z Z.heap l0 "java/lang/String") (q13 : Fld Z Z.heap l0 "java/lang/String" "value" "[B" (.ref t0)) (q14 : Fld Z Z.heap l0 "java/lang/String" "coder" "B" (.int (0 : Int32))) (q15 : Arv Z Z.heap t0 kb0 .byte (12 : Int32) ((([(97 : Int32), (115 : Int32), (121 : Int32), (110 : Int32), (99 : Int32), (95 : Int32), (100 : Int32), (101 : Int32), (108 : Int32), (101 : Int32), (116 : Int32), (101 : Int32)] : List Int32).map (fun c => c.toInt8.toInt32)).map Value.int) (.int 0)) (q16 : Exa Z Z.heap c1 "com/example/frist/frist/OnDeleteAction") (q17 : Fld Z Z.heap c1 "com/example/frist/frist/OnDeleteAction" "key" "Ljava/lang/String;" (.ref l1)) (q18 : Exa Z Z.heap l1 "java/lang/String") (q19 : Fld Z Z.heap l1 "java/lang/String" "value" "[B" (.ref t1)) (q20 : Fld Z Z.heap l1 "java/lang/String" "coder" "B" (.int (0 : Int32))) (q21 : Arv Z Z.heap t1 kb1 .byte (13 : Int32) ((([(97 : Int32), (115 : Int32), (121 : Int32), (110 : Int32), (99 : Int32), (95 : Int32), (110 : Int32), (117 : Int32), (108 : Int32), (108 : Int32), (105 : Int32), (102 : Int32), (121 : Int32)] : List Int32).map (fun c => c.toInt8.toInt32)).map Value.int) (.int 0)) (q22 : Exa Z Z.heap c2 "com/example/frist/frist/OnDeleteAction") (q23 : Fld Z Z.heap c2 "com/example/frist/frist/OnDeleteAction" "key" "Ljava/lang/String;" (.ref l2)) (q24 : Exa Z Z.heap l2 "java/lang/String") (q25 : Fld Z Z.heap l2 "java/lang/String" "value" "[B" (.ref t2)) (q26 : Fld Z Z.heap l2 "java/lang/String" "coder" "B" (.int (0 : Int32))) (q27 : Arv Z Z.heap t2 kb2 .byte (16 : Int32) ((([(117 : Int32), (112 : Int32), (100 : Int32), (97 : Int32), (116 : Int32), (101 : Int32), (95 : Int32), (99 : Int32), (111 : Int32), (108 : Int32), (117 : Int32), (109 : Int32), (110 : Int32), (95 : Int32), (116 : Int32), (111 : Int32)] : List Int32).map (fun c => c.toInt8.toInt32)).map Value.int) (.int 0)) :
    MetFree l (⟨"com/example/frist/frist/OnDeleteAction", "fromKey", "(Ljava/lang/String;)Lcom/example/frist/frist/OnDeleteAction;"⟩ : MethodName) (head1 (Jvm.Cond.code (⟨"com/example/frist/frist/OnDeleteAction", "fromKey", "(Ljava/lang/String;)Lcom/example/frist/frist/OnDeleteAction;"⟩ : MethodName) prog_4_method_4_code 6 (some (.object "com/example/frist/frist/OnDeleteAction")) :: ws) ({ frames := 2, cells := 3, slots := 19, locals := 28 } : Room)) (fun a_ U_ => a_ = #[(.ref x)] ∧ Z.Warmed39 U_.vm ∧ U_.heap = h0) (fun _ _ _ _ _ => True) (fun _ U_ o_ V_ => ∃ v_ L_, o_ = .returned v_ ∧ Qof1 Z x t kb G1 ar ka c0 c1 c2 l0 t0 kb0 l1 t1 kb1 l2 t2 kb2 h0 n0 v_ V_.heap L_ ∧ ReturnedEndW U_ o_ V_ L_ ({ frames := 2, cells := 3, slots := 19, locals := 28 } : Room).cells ({ frames := 2, cells := 3, slots := 19, locals := 28 } : Room).slots) := by
  refine MetFree.of_bodySF (plainFor_of_name pn_1) hisR ?_
  intro p e s m args below meth c s₁ Bd hml0 hP hK
  obtain ⟨rfl, hZ, hh⟩ := hP
  have hx := Bd.exec
  have hby := Bd.bytes
  have hml : c.maxLocals = 6 := hml0
  have hown : s.vm.findClass "com/example/frist/frist/OnDeleteAction" = some m.cls := findClass_of_methodNamed Bd.named
  have hnm := (name_of_methodNamed Bd.named Bd.method).1
  have X0 : Stand p l e ({ frames := 2, cells := 3, slots := 19, locals := 28 } : Room) (s.setVm s.vm) m #[(.ref x)] below meth c s₁ [] 0 0 := Stand.of_body Bd
  have e0 : s₁.heap = h0 := by rw [← hh, Bd.state]; rfl
  have N0 := Fr.nil n0
  have hS0 : s.Since s.vm h0.size := (State.WarmedH.refl s).since _
  have hk0 : h0.size ≤ h0.size := Nat.le_refl _
  have zo := q2.1
  have lt54 := own_alt q3.lt
  have lt55 := own_alt q4.lt
  have lt56 := own_alt q5.lt
  have lt57 := own_alt q6.lt
  have lt58 := own_alt q8.lt
  have lt59 := own_alt q9.lt
  have lt60 := own_alt q10.lt
  have lt61 := own_alt q11.lt
  have lt62 := own_alt q12.lt
  have lt63 := own_alt q13.lt
  have lt64 := own_alt q14.lt
  have lt65 := own_alt q15.lt
  have lt66 := own_alt q16.lt
  have lt67 := own_alt q17.lt
  have lt68 := own_alt q18.lt
  have lt69 := own_alt q19.lt
  have lt70 := own_alt q20.lt
  have lt71 := own_alt q21.lt
  have lt72 := own_alt q22.lt
  have lt73 := own_alt q23.lt
  have lt74 := own_alt q24.lt
  have lt75 := own_alt q25.lt
  have lt76 := own_alt q26.lt
  have lt77 := own_alt q27.lt
  have hstr : ∀ d ∈ Bundle.stringAtoms, d.before a0 Z = true := fun d hd => hw d (own_hstr d hd)
  have heq : ∀ d ∈ StrChars.Road.wordsEq, d.before a0 Z = true := fun d hd => hw d (own_heq d hd)
  have hp78 : ∀ c ∈ ([(97 : Int32), (115 : Int32), (121 : Int32), (110 : Int32), (99 : Int32), (95 : Int32), (100 : Int32), (101 : Int32), (108 : Int32), (101 : Int32), (116 : Int32), (101 : Int32)] : List Int32), Lat c := by decide
  have hcd78 : StrChars.Road.CodA ([(97 : Int32), (115 : Int32), (121 : Int32), (110 : Int32), (99 : Int32), (95 : Int32), (100 : Int32), (101 : Int32), (108 : Int32), (101 : Int32), (116 : Int32), (101 : Int32)] : List Int32) 0 (12 : Int32) ((([(97 : Int32), (115 : Int32), (121 : Int32), (110 : Int32), (99 : Int32), (95 : Int32), (100 : Int32), (101 : Int32), (108 : Int32), (101 : Int32), (116 : Int32), (101 : Int32)] : List Int32).map (fun c => c.toInt8.toInt32)).map Value.int) := StrChars.Road.codOf (n := 12) rfl (fun c hc => (hp78 c hc).2)
  have hbd78 : ∀ c ∈ ([(97 : Int32), (115 : Int32), (121 : Int32), (110 : Int32), (99 : Int32), (95 : Int32), (100 : Int32), (101 : Int32), (108 : Int32), (101 : Int32), (116 : Int32), (101 : Int32)] : List Int32), Wid c := own_up hp78
  have hp79 : ∀ c ∈ ([(97 : Int32), (115 : Int32), (121 : Int32), (110 : Int32), (99 : Int32), (95 : Int32), (110 : Int32), (117 : Int32), (108 : Int32), (108 : Int32), (105 : Int32), (102 : Int32), (121 : Int32)] : List Int32), Lat c := by decide
  have hcd79 : StrChars.Road.CodA ([(97 : Int32), (115 : Int32), (121 : Int32), (110 : Int32), (99 : Int32), (95 : Int32), (110 : Int32), (117 : Int32), (108 : Int32), (108 : Int32), (105 : Int32), (102 : Int32), (121 : Int32)] : List Int32) 0 (13 : Int32) ((([(97 : Int32), (115 : Int32), (121 : Int32), (110 : Int32), (99 : Int32), (95 : Int32), (110 : Int32), (117 : Int32), (108 : Int32), (108 : Int32), (105 : Int32), (102 : Int32), (121 : Int32)] : List Int32).map (fun c => c.toInt8.toInt32)).map Value.int) := StrChars.Road.codOf (n := 13) rfl (fun c hc => (hp79 c hc).2)
  have hbd79 : ∀ c ∈ ([(97 : Int32), (115 : Int32), (121 : Int32), (110 : Int32), (99 : Int32), (95 : Int32), (110 : Int32), (117 : Int32), (108 : Int32), (108 : Int32), (105 : Int32), (102 : Int32), (121 : Int32)] : List Int32), Wid c := own_up hp79
  have hp80 : ∀ c ∈ ([(117 : Int32), (112 : Int32), (100 : Int32), (97 : Int32), (116 : Int32), (101 : Int32), (95 : Int32), (99 : Int32), (111 : Int32), (108 : Int32), (117 : Int32), (109 : Int32), (110 : Int32), (95 : Int32), (116 : Int32), (111 : Int32)] : List Int32), Lat c := by decide
  have hcd80 : StrChars.Road.CodA ([(117 : Int32), (112 : Int32), (100 : Int32), (97 : Int32), (116 : Int32), (101 : Int32), (95 : Int32), (99 : Int32), (111 : Int32), (108 : Int32), (117 : Int32), (109 : Int32), (110 : Int32), (95 : Int32), (116 : Int32), (111 : Int32)] : List Int32) 0 (16 : Int32) ((([(117 : Int32), (112 : Int32), (100 : Int32), (97 : Int32), (116 : Int32), (101 : Int32), (95 : Int32), (99 : Int32), (111 : Int32), (108 : Int32), (117 : Int32), (109 : Int32), (110 : Int32), (95 : Int32), (116 : Int32), (111 : Int32)] : List Int32).map (fun c => c.toInt8.toInt32)).map Value.int) := StrChars.Road.codOf (n := 16) rfl (fun c hc => (hp80 c hc).2)
  have hbd80 : ∀ c ∈ ([(117 : Int32), (112 : Int32), (100 : Int32), (97 : Int32), (116 : Int32), (101 : Int32), (95 : Int32), (99 : Int32), (111 : Int32), (108 : Int32), (117 : Int32), (109 : Int32), (110 : Int32), (95 : Int32), (116 : Int32), (111 : Int32)] : List Int32), Wid c := own_up hp80
  have hp81 : ∀ c ∈ ([(97 : Int32), (115 : Int32), (121 : Int32), (110 : Int32), (99 : Int32), (95 : Int32), (110 : Int32), (117 : Int32), (108 : Int32), (108 : Int32), (105 : Int32), (102 : Int32), (121 : Int32)] : List Int32), Lat c := by decide
  have hcd81 : StrChars.Road.CodA ([(97 : Int32), (115 : Int32), (121 : Int32), (110 : Int32), (99 : Int32), (95 : Int32), (110 : Int32), (117 : Int32), (108 : Int32), (108 : Int32), (105 : Int32), (102 : Int32), (121 : Int32)] : List Int32) 0 (13 : Int32) ((([(97 : Int32), (115 : Int32), (121 : Int32), (110 : Int32), (99 : Int32), (95 : Int32), (110 : Int32), (117 : Int32), (108 : Int32), (108 : Int32), (105 : Int32), (102 : Int32), (121 : Int32)] : List Int32).map (fun c => c.toInt8.toInt32)).map Value.int) := StrChars.Road.codOf (n := 13) rfl (fun c hc => (hp81 c hc).2)
  have hbd81 : ∀ c ∈ ([(97 : Int32), (115 : Int32), (121 : Int32), (110 : Int32), (99 : Int32), (95 : Int32), (110 : Int32), (117 : Int32), (108 : Int32), (108 : Int32), (105 : Int32), (102 : Int32), (121 : Int32)] : List Int32), Wid c := own_up hp81
  refine Gl.go (A := s₁.setTop (entryFrame m #[(.ref x)] 6)) (P := fun o_ U_ => ∃ v_ L_, o_ = .returned v_ ∧ Qof1 Z x t kb G1 ar ka c0 c1 c2 l0 t0 kb0 l1 t1 kb1 l2 t2 kb2 h0 n0 v_ U_.heap L_ ∧ ReturnedEndW s o_ U_ L_ ({ frames := 2, cells := 3, slots := 19, locals := 28 } : Room).cells ({ frames := 2, cells := 3, slots := 19, locals := 28 } : Room).slots) (fun t k => castTop (ef_of1 m x) k) ?_
  show Gl p.tables e below _ (s₁.setTop (mkF m 0 #[.val (.ref x), .unset, .unset, .unset, .unset, .unset] []))
  refine Gl.go (fun _ hr => zXS_aloadN X0.here hx rfl (hb hby d7_0) rfl rfl hr) ?_
  obtain ⟨a82, T82, h82, k82, X82, e82, E82, hS82, hk82, hZ82, hown82, st82⟩ := ldcS X0 hx hZ (own := "com/example/frist/frist/OnDeleteAction") hown (hw _ (List.mem_of_getElem? (i := 37) rfl)) hstr e0 hS0 (by have q := hk0; omega) (g := (mkF m 1 #[.val (.ref x), .unset, .unset, .unset, .unset, .unset] [(.ref x)])) rfl (hb hby d7_1) (n := 12) (by decide) (by decide) (by decide) (by decide)
  have z83 : h0.size ≤ h82.size := E82.1
  refine Gl.go st82 ?_
  show Gl p.tables e below _ (T82.setTop (mkF m 3 #[.val (.ref x), .unset, .unset, .unset, .unset, .unset] [(.ref a82), (.ref x)]))
  have zz84 : n0 ≤ h82.size := by omega
  refine gStaticN Gl.cl (y := (⟨"java/util/Objects", "requireNonNull", "(Ljava/lang/Object;Ljava/lang/String;)Ljava/lang/Object;"⟩ : MethodName)) (argsL := [(.ref x), (.ref a82)]) (rest := []) (mc := 0) (ms := 0) X82 hx hZ82 hown82 (mvT hZ82 (hw _ (List.mem_of_getElem? (i := 40) rfl))) (mvT hZ82 (hw _ (List.mem_of_getElem? (i := 41) rfl))) (mvT hZ82 (hw _ (List.mem_of_getElem? (i := 42) rfl))) (mvT hZ82 (hw _ (List.mem_of_getElem? (i := 43) rfl))) (by decide) (backOf (W := 0) (rq l Z a0 hw [] x a82 h82 n0 zz84 ) hZ82 (hw _ (List.mem_of_getElem? (i := 43) rfl)) (hw _ (List.mem_of_getElem? (i := 42) rfl)) (by decide) (by decide)) rfl (by rw [hml]; rfl) (lenOf pd_0 rfl) rfl (by show 2 * 0 + _ ≤ _; exact Nat.le_of_eq rfl) (hb hby d7_3) rfl e82 (by decide) (by decide) ?_
  intro v84 T84 Lc84 hQ84 X84
  obtain ⟨rfl, Nq84, e84⟩ := hQ84
  have N84 := Fr.app N0 Nq84
  refine Gl.go (fun _ hr => zXT_pop X84.here hx rfl (hb hby d7_6) rfl rfl hr) ?_
  have Oc86 := (q2.ext E82)
  have zz85 : n0 ≤ h82.size := by omega
  refine gStaticN Gl.cl (y := (⟨"com/example/frist/frist/OnDeleteAction", "values", "()[Lcom/example/frist/frist/OnDeleteAction;"⟩ : MethodName)) (argsL := []) (rest := []) (mc := 1) (ms := 3) X84 hx hZ82 hown82 (mvT hZ82 (hw _ (List.mem_of_getElem? (i := 44) rfl))) (mvT hZ82 (hw _ (List.mem_of_getElem? (i := 45) rfl))) (mvT hZ82 (hw _ (List.mem_of_getElem? (i := 3) rfl))) (mvT hZ82 (hw _ (List.mem_of_getElem? (i := 46) rfl))) (by decide) (backOf (W := 0) (vals l Z a0 hw [] ar ka c0 c1 c2 h82 n0 zz85 Oc86 q7 q8 q9) hZ82 (hw _ (List.mem_of_getElem? (i := 46) rfl)) (hw _ (List.mem_of_getElem? (i := 3) rfl)) (by decide) (by decide)) rfl (by rw [hml]; rfl) (lenOf pd_1 rfl) rfl (by show 2 * 0 + _ ≤ _; exact Nat.le_of_eq rfl) (hb hby d7_7) rfl e84 (by decide) (by decide) ?_
  intro v85 T85 Lc85 hQ85 X85
  obtain ⟨b_85, rfl, Nq85, K85, f85_0, f85_1, f85_2, f85_3⟩ := hQ85
  have z87 : h82.size ≤ T85.heap.size := K85.1
  have N85 := Fr.app N84 Nq85
  have lt88 := own_alt f85_2.lt
  have lt89 := own_alt f85_3.lt
  refine Gl.go (fun _ hr => zXS_astoreN X85.here hx rfl (hb hby d7_10) rfl rfl (l' := #[.val (.ref x), .val (.ref b_85), .unset, .unset, .unset, .unset]) rfl (zXS_aloadN X85.here hx rfl (hb hby d7_11) rfl rfl hr)) ?_
  obtain ⟨c90, a90, q90, s90, m90, H90, U90⟩ := id f85_3
  refine gLen Gl.cl X85 hx hZ82 (rfl : T85.heap = T85.heap) a90 s90 m90 rfl rfl (hb hby d7_12) ?_
  refine Gl.go (fun _ hr => zXS_istoreN X85.here hx rfl (hb hby d7_13) rfl (l' := #[.val (.ref x), .val (.ref b_85), .val (.int (3 : Int32)), .unset, .unset, .unset]) rfl (zXS_iconst X85.here hx rfl (hb hby d7_14) (zXS_istoreN X85.here hx rfl (hb hby d7_15) rfl (l' := #[.val (.ref x), .val (.ref b_85), .val (.int (3 : Int32)), .val (.int (0 : Int32)), .unset, .unset]) rfl (zXS_iloadN X85.here hx rfl (hb hby d7_16) rfl (zXS_iloadN X85.here hx rfl (hb hby d7_17) rfl (zXS_icmpNo X85.here hx rfl (hb hby d7_18) rfl (XT.ii_ge_f (by decide)) (zXS_aloadN X85.here hx rfl (hb hby d7_21) rfl rfl (zXS_iloadN X85.here hx rfl (hb hby d7_22) rfl hr)))))))) ?_
  obtain ⟨c91, a91, q91, s91, m91, H91, U91⟩ := id f85_3
  have i91 := inb_of s91 (j := (0 : Int32)) ⟨(by decide), (by decide)⟩
  refine g_aaload Gl.cl X85 hx hZ82 (rfl : T85.heap = T85.heap) a91 rfl i91 (v := (.ref c0)) (H91.at i91 rfl) rfl rfl (hb hby d7_23) ?_
  refine Gl.go (fun _ hr => zXS_astore X85.here hx rfl (hb hby d7_24) rfl rfl (l' := #[.val (.ref x), .val (.ref b_85), .val (.int (3 : Int32)), .val (.int (0 : Int32)), .val (.ref c0), .unset]) rfl (zXS_aload X85.here hx rfl (hb hby d7_26) rfl rfl hr)) ?_
  have Oc92 := (Oc86.keep K85 all0)
  refine gGetF (host := "") Gl.cl X85 hx hZ82 hown82 (Or.inl (hw _ (List.mem_of_getElem? (i := 61) rfl))) Via.refl (rfl : T85.heap = T85.heap) (q11.ext Oc92.2) rfl rfl (hb hby d7_28) ?_
  intro T93 X93 e93
  refine Gl.go (fun _ hr => zXS_aloadN X93.here hx rfl (hb hby d7_31) rfl rfl hr) ?_
  have Ec95 := ((q3.ext E82).keep K85)
  have Fc96 := ((q4.ext E82).keep K85 nin0)
  have Fc97 := ((q5.ext E82).keep K85 nin0)
  have Vc98 := ((q6.ext E82).keep K85 nin0)
  refine gVirtualN Gl.cl (y := (⟨"java/lang/String", "equals", "(Ljava/lang/Object;)Z"⟩ : MethodName)) (z := (⟨"java/lang/String", "equals", "(Ljava/lang/Object;)Z"⟩ : MethodName)) (b := l0) (argsL := [(.ref x)]) (rest := []) (mc := 0) (ms := 0) (Q := fun v h' L => ((v = some (.int 1) ∧ ([(97 : Int32), (115 : Int32), (121 : Int32), (110 : Int32), (99 : Int32), (95 : Int32), (100 : Int32), (101 : Int32), (108 : Int32), (101 : Int32), (116 : Int32), (101 : Int32)] : List Int32) = ([(97 : Int32), (115 : Int32), (121 : Int32), (110 : Int32), (99 : Int32), (95 : Int32), (110 : Int32), (117 : Int32), (108 : Int32), (108 : Int32), (105 : Int32), (102 : Int32), (121 : Int32)] : List Int32)) ∨ (v = some (.int 0) ∧ ¬ ([(97 : Int32), (115 : Int32), (121 : Int32), (110 : Int32), (99 : Int32), (95 : Int32), (100 : Int32), (101 : Int32), (108 : Int32), (101 : Int32), (116 : Int32), (101 : Int32)] : List Int32) = ([(97 : Int32), (115 : Int32), (121 : Int32), (110 : Int32), (99 : Int32), (95 : Int32), (110 : Int32), (117 : Int32), (108 : Int32), (108 : Int32), (105 : Int32), (102 : Int32), (121 : Int32)] : List Int32))) ∧ L = [] ∧ h' = T85.heap) X93 hx hZ82 hown82 (mvT hZ82 (hw _ (List.mem_of_getElem? (i := 63) rfl))) (mvT hZ82 (hw _ (List.mem_of_getElem? (i := 64) rfl))) (notFace_of_selects (args := #[]) (mvT hZ82 (hw _ (List.mem_of_getElem? (i := 66) rfl)))) (mvT hZ82 (hw _ (List.mem_of_getElem? (i := 66) rfl))) (mvT hZ82 (hw _ (List.mem_of_getElem? (i := 65) rfl))) (by decide) (q12.ext Oc92.2) (StrChars.Road.eqW (W := 0) hZ82 heq (kI := 4) (hw _ (List.mem_of_getElem? (i := 6) rfl)) (q12.ext Oc92.2) (q13.ext Oc92.2) (q14.ext Oc92.2) (q15.ext Oc92.2) hcd78 hbd78 (Nat.le_of_ble_eq_true rfl) Ec95 Fc96 Fc97 Vc98 hcd81 hbd81 (Nat.le_of_ble_eq_true rfl) (q0.ext Oc92.2) P5 (by decide) (by decide)) rfl (by rw [hml]; rfl) (lenOf pd_2 rfl) rfl (by show 2 * 0 + _ ≤ _; exact Nat.le_of_eq rfl) (hb hby d7_32) rfl e93 (by decide) (by decide) ?_
  intro v94 T94 Lc94 hQ94 X94
  obtain ⟨hca94, rfl, e94⟩ := hQ94
  have N94 := own_fr_nil N85
  have hv94 : _ = some (Value.int 0) := hca94.elim (fun q => absurd q.2 (by decide)) (fun q => q.1)
  subst hv94
  refine Gl.go (fun _ hr => zXS_ifYes X94.here hx rfl (pc0 := 35) (pc' := 41) rfl (hb hby d7_35) rfl (XT.i0_eq_t (by decide)) (by decide) (by decide) (zXS_iinc X94.here hx rfl (hb hby d7_41) rfl (l' := #[.val (.ref x), .val (.ref b_85), .val (.int (3 : Int32)), .val (.int (1 : Int32)), .val (.ref c0), .unset]) rfl (zXS_goto X94.here hx rfl (pc0 := 44) (pc' := 16) rfl (hb hby d7_44) (by decide) (by decide) (zXS_iloadN X94.here hx rfl (hb hby d7_16) rfl (zXS_iloadN X94.here hx rfl (hb hby d7_17) rfl (zXS_icmpNo X94.here hx rfl (hb hby d7_18) rfl (XT.ii_ge_f (by decide)) (zXS_aloadN X94.here hx rfl (hb hby d7_21) rfl rfl (zXS_iloadN X94.here hx rfl (hb hby d7_22) rfl hr)))))))) ?_
  obtain ⟨c99, a99, q99, s99, m99, H99, U99⟩ := id f85_3
  have i99 := inb_of s99 (j := (1 : Int32)) ⟨(by decide), (by decide)⟩
  refine g_aaload Gl.cl X94 hx hZ82 e94 a99 rfl i99 (v := (.ref c1)) (H99.at i99 rfl) rfl rfl (hb hby d7_23) ?_
  refine Gl.go (fun _ hr => zXS_astore X94.here hx rfl (hb hby d7_24) rfl rfl (l' := #[.val (.ref x), .val (.ref b_85), .val (.int (3 : Int32)), .val (.int (1 : Int32)), .val (.ref c1), .unset]) rfl (zXS_aload X94.here hx rfl (hb hby d7_26) rfl rfl hr)) ?_
  refine gGetF (host := "") Gl.cl X94 hx hZ82 hown82 (Or.inl (hw _ (List.mem_of_getElem? (i := 61) rfl))) Via.refl e94 (q17.ext Oc92.2) rfl rfl (hb hby d7_28) ?_
  intro T100 X100 e100
  refine Gl.go (fun _ hr => zXS_aloadN X100.here hx rfl (hb hby d7_31) rfl rfl hr) ?_
  refine gVirtualN Gl.cl (y := (⟨"java/lang/String", "equals", "(Ljava/lang/Object;)Z"⟩ : MethodName)) (z := (⟨"java/lang/String", "equals", "(Ljava/lang/Object;)Z"⟩ : MethodName)) (b := l1) (argsL := [(.ref x)]) (rest := []) (mc := 0) (ms := 0) (Q := fun v h' L => ((v = some (.int 1) ∧ ([(97 : Int32), (115 : Int32), (121 : Int32), (110 : Int32), (99 : Int32), (95 : Int32), (110 : Int32), (117 : Int32), (108 : Int32), (108 : Int32), (105 : Int32), (102 : Int32), (121 : Int32)] : List Int32) = ([(97 : Int32), (115 : Int32), (121 : Int32), (110 : Int32), (99 : Int32), (95 : Int32), (110 : Int32), (117 : Int32), (108 : Int32), (108 : Int32), (105 : Int32), (102 : Int32), (121 : Int32)] : List Int32)) ∨ (v = some (.int 0) ∧ ¬ ([(97 : Int32), (115 : Int32), (121 : Int32), (110 : Int32), (99 : Int32), (95 : Int32), (110 : Int32), (117 : Int32), (108 : Int32), (108 : Int32), (105 : Int32), (102 : Int32), (121 : Int32)] : List Int32) = ([(97 : Int32), (115 : Int32), (121 : Int32), (110 : Int32), (99 : Int32), (95 : Int32), (110 : Int32), (117 : Int32), (108 : Int32), (108 : Int32), (105 : Int32), (102 : Int32), (121 : Int32)] : List Int32))) ∧ L = [] ∧ h' = T85.heap) X100 hx hZ82 hown82 (mvT hZ82 (hw _ (List.mem_of_getElem? (i := 63) rfl))) (mvT hZ82 (hw _ (List.mem_of_getElem? (i := 64) rfl))) (notFace_of_selects (args := #[]) (mvT hZ82 (hw _ (List.mem_of_getElem? (i := 66) rfl)))) (mvT hZ82 (hw _ (List.mem_of_getElem? (i := 66) rfl))) (mvT hZ82 (hw _ (List.mem_of_getElem? (i := 65) rfl))) (by decide) (q18.ext Oc92.2) (StrChars.Road.eqW (W := 0) hZ82 heq (kI := 4) (hw _ (List.mem_of_getElem? (i := 6) rfl)) (q18.ext Oc92.2) (q19.ext Oc92.2) (q20.ext Oc92.2) (q21.ext Oc92.2) hcd79 hbd79 (Nat.le_of_ble_eq_true rfl) Ec95 Fc96 Fc97 Vc98 hcd81 hbd81 (Nat.le_of_ble_eq_true rfl) (q0.ext Oc92.2) P5 (by decide) (by decide)) rfl (by rw [hml]; rfl) (lenOf pd_2 rfl) rfl (by show 2 * 0 + _ ≤ _; exact Nat.le_of_eq rfl) (hb hby d7_32) rfl e100 (by decide) (by decide) ?_
  intro v101 T101 Lc101 hQ101 X101
  obtain ⟨hca101, rfl, e101⟩ := hQ101
  have N101 := own_fr_nil N94
  have hv101 : _ = some (Value.int 1) := hca101.elim (fun q => q.1) (fun q => absurd rfl q.2)
  subst hv101
  refine Gl.go (fun _ hr => zXS_ifNo X101.here hx rfl (hb hby d7_35) rfl (XT.i0_eq_f (by decide)) (zXS_aload X101.here hx rfl (hb hby d7_38) rfl rfl hr)) ?_
  obtain ⟨fs, hr, hrun, hended, hE⟩ := X101.leaveW hS82 (by have q := congrArg Array.size e101; have q2 := hk82; omega) (v := some (.ref c1)) (fun h => by rw [Bd.returns] at h; cases h)
  refine ⟨_, _, retOut X101 hx Bd.returns rfl (Or.inr (Or.inr (Or.inr (Or.inr ⟨rfl, rfl, rfl⟩)))) (hb hby d7_40) hr, hrun, hended, _, _, rfl, ?_, ⟨hE.1, hE.2.1, hE.2.2.1, hE.2.2.2.mono (by decide) (by decide)⟩⟩
  show Qof1 Z x t kb G1 ar ka c0 c1 c2 l0 t0 kb0 l1 t1 kb1 l2 t2 kb2 h0 n0 _ T101.heap _
  rw [e101]
  exact ⟨rfl, N101, (((Keep.refl h0 []).ext E82).trans K85 all0)⟩
def Qof2 (Z : State) (x : Addr) (t : Addr) (kb : ClassId) (G1 : Int32) (ar : Addr) (ka : ClassId) (c0 : Addr) (c1 : Addr) (c2 : Addr) (l0 : Addr) (t0 : Addr) (kb0 : ClassId) (l1 : Addr) (t1 : Addr) (kb1 : ClassId) (l2 : Addr) (t2 : Addr) (kb2 : ClassId) (h0 : Heap) (n0 : Nat) (v : Option Value) (h : Heap) (L : List Loc) : Prop := v = some (.ref c2) ∧ Fr n0 L ∧ Keep h0 h []
theorem ef_of2 (m : MethodId) (x0 : Addr) : entryFrame m #[(.ref x0)] 6 = mkF m 0 #[.val (.ref x0), .unset, .unset, .unset, .unset, .unset] [] := by first | (simp [entryFrame, mkF, argsToLocals, Value.category]; done) | rfl
set_option maxRecDepth 65536 in
set_option maxHeartbeats 40000000 in
theorem of2 (l : Launch) (Z : State) (a0 : Array Value) (hw : ∀ d ∈ tables_1, d.before a0 Z = true) (ws : List Jvm.Cond) (x : Addr) (t : Addr) (kb : ClassId) (G1 : Int32) (ar : Addr) (ka : ClassId) (c0 : Addr) (c1 : Addr) (c2 : Addr) (l0 : Addr) (t0 : Addr) (kb0 : ClassId) (l1 : Addr) (t1 : Addr) (kb1 : ClassId) (l2 : Addr) (t2 : Addr) (kb2 : ClassId) (h0 : Heap) (n0 : Nat) (Z0 : n0 ≤ h0.size) (q0 : Sta Z Z.heap "java/lang/String" "COMPACT_STRINGS" "Z" (.int G1)) (P5 : ¬ (G1 = (0 : Int32))) (q2 : Old Z n0 h0) (q3 : Exa Z h0 x "java/lang/String") (q4 : Fld Z h0 x "java/lang/String" "value" "[B" (.ref t)) (q5 : Fld Z h0 x "java/lang/String" "coder" "B" (.int (0 : Int32))) (q6 : Arv Z h0 t kb .byte (16 : Int32) ((([(117 : Int32), (112 : Int32), (100 : Int32), (97 : Int32), (116 : Int32), (101 : Int32), (95 : Int32), (99 : Int32), (111 : Int32), (108 : Int32), (117 : Int32), (109 : Int32), (110 : Int32), (95 : Int32), (116 : Int32), (111 : Int32)] : List Int32).map (fun c => c.toInt8.toInt32)).map Value.int) (.int 0)) (q7 : Sta Z Z.heap "com/example/frist/frist/OnDeleteAction" "$VALUES" "[Lcom/example/frist/frist/OnDeleteAction;" (.ref ar)) (q8 : Arv Z Z.heap ar ka (.object "com/example/frist/frist/OnDeleteAction") (3 : Int32) ([(.ref c0), (.ref c1), (.ref c2)]) .null) (q9 : Exa Z Z.heap ar "[Lcom/example/frist/frist/OnDeleteAction;") (q10 : Exa Z Z.heap c0 "com/example/frist/frist/OnDeleteAction") (q11 : Fld Z Z.heap c0 "com/example/frist/frist/OnDeleteAction" "key" "Ljava/lang/String;" (.ref l0)) (q12 : Exa Z Z.heap l0 "java/lang/String") (q13 : Fld Z Z.heap l0 "java/lang/String" "value" "[B" (.ref t0)) (q14 : Fld Z Z.heap l0 "java/lang/String" "coder" "B" (.int (0 : Int32))) (q15 : Arv Z Z.heap t0 kb0 .byte (12 : Int32) ((([(97 : Int32), (115 : Int32), (121 : Int32), (110 : Int32), (99 : Int32), (95 : Int32), (100 : Int32), (101 : Int32), (108 : Int32), (101 : Int32), (116 : Int32), (101 : Int32)] : List Int32).map (fun c => c.toInt8.toInt32)).map Value.int) (.int 0)) (q16 : Exa Z Z.heap c1 "com/example/frist/frist/OnDeleteAction") (q17 : Fld Z Z.heap c1 "com/example/frist/frist/OnDeleteAction" "key" "Ljava/lang/String;" (.ref l1)) (q18 : Exa Z Z.heap l1 "java/lang/String") (q19 : Fld Z Z.heap l1 "java/lang/String" "value" "[B" (.ref t1)) (q20 : Fld Z Z.heap l1 "java/lang/String" "coder" "B" (.int (0 : Int32))) (q21 : Arv Z Z.heap t1 kb1 .byte (13 : Int32) ((([(97 : Int32), (115 : Int32), (121 : Int32), (110 : Int32), (99 : Int32), (95 : Int32), (110 : Int32), (117 : Int32), (108 : Int32), (108 : Int32), (105 : Int32), (102 : Int32), (121 : Int32)] : List Int32).map (fun c => c.toInt8.toInt32)).map Value.int) (.int 0)) (q22 : Exa Z Z.heap c2 "com/example/frist/frist/OnDeleteAction") (q23 : Fld Z Z.heap c2 "com/example/frist/frist/OnDeleteAction" "key" "Ljava/lang/String;" (.ref l2)) (q24 : Exa Z Z.heap l2 "java/lang/String") (q25 : Fld Z Z.heap l2 "java/lang/String" "value" "[B" (.ref t2)) (q26 : Fld Z Z.heap l2 "java/lang/String" "coder" "B" (.int (0 : Int32))) (q27 : Arv Z Z.heap t2 kb2 .byte (16 : Int32) ((([(117 : Int32), (112 : Int32), (100 : Int32), (97 : Int32), (116 : Int32), (101 : Int32), (95 : Int32), (99 : Int32), (111 : Int32), (108 : Int32), (117 : Int32), (109 : Int32), (110 : Int32), (95 : Int32), (116 : Int32), (111 : Int32)] : List Int32).map (fun c => c.toInt8.toInt32)).map Value.int) (.int 0)) :
    MetFree l (⟨"com/example/frist/frist/OnDeleteAction", "fromKey", "(Ljava/lang/String;)Lcom/example/frist/frist/OnDeleteAction;"⟩ : MethodName) (head1 (Jvm.Cond.code (⟨"com/example/frist/frist/OnDeleteAction", "fromKey", "(Ljava/lang/String;)Lcom/example/frist/frist/OnDeleteAction;"⟩ : MethodName) prog_4_method_4_code 6 (some (.object "com/example/frist/frist/OnDeleteAction")) :: ws) ({ frames := 2, cells := 3, slots := 19, locals := 28 } : Room)) (fun a_ U_ => a_ = #[(.ref x)] ∧ Z.Warmed39 U_.vm ∧ U_.heap = h0) (fun _ _ _ _ _ => True) (fun _ U_ o_ V_ => ∃ v_ L_, o_ = .returned v_ ∧ Qof2 Z x t kb G1 ar ka c0 c1 c2 l0 t0 kb0 l1 t1 kb1 l2 t2 kb2 h0 n0 v_ V_.heap L_ ∧ ReturnedEndW U_ o_ V_ L_ ({ frames := 2, cells := 3, slots := 19, locals := 28 } : Room).cells ({ frames := 2, cells := 3, slots := 19, locals := 28 } : Room).slots) := by
  refine MetFree.of_bodySF (plainFor_of_name pn_1) hisR ?_
  intro p e s m args below meth c s₁ Bd hml0 hP hK
  obtain ⟨rfl, hZ, hh⟩ := hP
  have hx := Bd.exec
  have hby := Bd.bytes
  have hml : c.maxLocals = 6 := hml0
  have hown : s.vm.findClass "com/example/frist/frist/OnDeleteAction" = some m.cls := findClass_of_methodNamed Bd.named
  have hnm := (name_of_methodNamed Bd.named Bd.method).1
  have X0 : Stand p l e ({ frames := 2, cells := 3, slots := 19, locals := 28 } : Room) (s.setVm s.vm) m #[(.ref x)] below meth c s₁ [] 0 0 := Stand.of_body Bd
  have e0 : s₁.heap = h0 := by rw [← hh, Bd.state]; rfl
  have N0 := Fr.nil n0
  have hS0 : s.Since s.vm h0.size := (State.WarmedH.refl s).since _
  have hk0 : h0.size ≤ h0.size := Nat.le_refl _
  have zo := q2.1
  have lt102 := own_alt q3.lt
  have lt103 := own_alt q4.lt
  have lt104 := own_alt q5.lt
  have lt105 := own_alt q6.lt
  have lt106 := own_alt q8.lt
  have lt107 := own_alt q9.lt
  have lt108 := own_alt q10.lt
  have lt109 := own_alt q11.lt
  have lt110 := own_alt q12.lt
  have lt111 := own_alt q13.lt
  have lt112 := own_alt q14.lt
  have lt113 := own_alt q15.lt
  have lt114 := own_alt q16.lt
  have lt115 := own_alt q17.lt
  have lt116 := own_alt q18.lt
  have lt117 := own_alt q19.lt
  have lt118 := own_alt q20.lt
  have lt119 := own_alt q21.lt
  have lt120 := own_alt q22.lt
  have lt121 := own_alt q23.lt
  have lt122 := own_alt q24.lt
  have lt123 := own_alt q25.lt
  have lt124 := own_alt q26.lt
  have lt125 := own_alt q27.lt
  have hstr : ∀ d ∈ Bundle.stringAtoms, d.before a0 Z = true := fun d hd => hw d (own_hstr d hd)
  have heq : ∀ d ∈ StrChars.Road.wordsEq, d.before a0 Z = true := fun d hd => hw d (own_heq d hd)
  have hp126 : ∀ c ∈ ([(97 : Int32), (115 : Int32), (121 : Int32), (110 : Int32), (99 : Int32), (95 : Int32), (100 : Int32), (101 : Int32), (108 : Int32), (101 : Int32), (116 : Int32), (101 : Int32)] : List Int32), Lat c := by decide
  have hcd126 : StrChars.Road.CodA ([(97 : Int32), (115 : Int32), (121 : Int32), (110 : Int32), (99 : Int32), (95 : Int32), (100 : Int32), (101 : Int32), (108 : Int32), (101 : Int32), (116 : Int32), (101 : Int32)] : List Int32) 0 (12 : Int32) ((([(97 : Int32), (115 : Int32), (121 : Int32), (110 : Int32), (99 : Int32), (95 : Int32), (100 : Int32), (101 : Int32), (108 : Int32), (101 : Int32), (116 : Int32), (101 : Int32)] : List Int32).map (fun c => c.toInt8.toInt32)).map Value.int) := StrChars.Road.codOf (n := 12) rfl (fun c hc => (hp126 c hc).2)
  have hbd126 : ∀ c ∈ ([(97 : Int32), (115 : Int32), (121 : Int32), (110 : Int32), (99 : Int32), (95 : Int32), (100 : Int32), (101 : Int32), (108 : Int32), (101 : Int32), (116 : Int32), (101 : Int32)] : List Int32), Wid c := own_up hp126
  have hp127 : ∀ c ∈ ([(97 : Int32), (115 : Int32), (121 : Int32), (110 : Int32), (99 : Int32), (95 : Int32), (110 : Int32), (117 : Int32), (108 : Int32), (108 : Int32), (105 : Int32), (102 : Int32), (121 : Int32)] : List Int32), Lat c := by decide
  have hcd127 : StrChars.Road.CodA ([(97 : Int32), (115 : Int32), (121 : Int32), (110 : Int32), (99 : Int32), (95 : Int32), (110 : Int32), (117 : Int32), (108 : Int32), (108 : Int32), (105 : Int32), (102 : Int32), (121 : Int32)] : List Int32) 0 (13 : Int32) ((([(97 : Int32), (115 : Int32), (121 : Int32), (110 : Int32), (99 : Int32), (95 : Int32), (110 : Int32), (117 : Int32), (108 : Int32), (108 : Int32), (105 : Int32), (102 : Int32), (121 : Int32)] : List Int32).map (fun c => c.toInt8.toInt32)).map Value.int) := StrChars.Road.codOf (n := 13) rfl (fun c hc => (hp127 c hc).2)
  have hbd127 : ∀ c ∈ ([(97 : Int32), (115 : Int32), (121 : Int32), (110 : Int32), (99 : Int32), (95 : Int32), (110 : Int32), (117 : Int32), (108 : Int32), (108 : Int32), (105 : Int32), (102 : Int32), (121 : Int32)] : List Int32), Wid c := own_up hp127
  have hp128 : ∀ c ∈ ([(117 : Int32), (112 : Int32), (100 : Int32), (97 : Int32), (116 : Int32), (101 : Int32), (95 : Int32), (99 : Int32), (111 : Int32), (108 : Int32), (117 : Int32), (109 : Int32), (110 : Int32), (95 : Int32), (116 : Int32), (111 : Int32)] : List Int32), Lat c := by decide
  have hcd128 : StrChars.Road.CodA ([(117 : Int32), (112 : Int32), (100 : Int32), (97 : Int32), (116 : Int32), (101 : Int32), (95 : Int32), (99 : Int32), (111 : Int32), (108 : Int32), (117 : Int32), (109 : Int32), (110 : Int32), (95 : Int32), (116 : Int32), (111 : Int32)] : List Int32) 0 (16 : Int32) ((([(117 : Int32), (112 : Int32), (100 : Int32), (97 : Int32), (116 : Int32), (101 : Int32), (95 : Int32), (99 : Int32), (111 : Int32), (108 : Int32), (117 : Int32), (109 : Int32), (110 : Int32), (95 : Int32), (116 : Int32), (111 : Int32)] : List Int32).map (fun c => c.toInt8.toInt32)).map Value.int) := StrChars.Road.codOf (n := 16) rfl (fun c hc => (hp128 c hc).2)
  have hbd128 : ∀ c ∈ ([(117 : Int32), (112 : Int32), (100 : Int32), (97 : Int32), (116 : Int32), (101 : Int32), (95 : Int32), (99 : Int32), (111 : Int32), (108 : Int32), (117 : Int32), (109 : Int32), (110 : Int32), (95 : Int32), (116 : Int32), (111 : Int32)] : List Int32), Wid c := own_up hp128
  have hp129 : ∀ c ∈ ([(117 : Int32), (112 : Int32), (100 : Int32), (97 : Int32), (116 : Int32), (101 : Int32), (95 : Int32), (99 : Int32), (111 : Int32), (108 : Int32), (117 : Int32), (109 : Int32), (110 : Int32), (95 : Int32), (116 : Int32), (111 : Int32)] : List Int32), Lat c := by decide
  have hcd129 : StrChars.Road.CodA ([(117 : Int32), (112 : Int32), (100 : Int32), (97 : Int32), (116 : Int32), (101 : Int32), (95 : Int32), (99 : Int32), (111 : Int32), (108 : Int32), (117 : Int32), (109 : Int32), (110 : Int32), (95 : Int32), (116 : Int32), (111 : Int32)] : List Int32) 0 (16 : Int32) ((([(117 : Int32), (112 : Int32), (100 : Int32), (97 : Int32), (116 : Int32), (101 : Int32), (95 : Int32), (99 : Int32), (111 : Int32), (108 : Int32), (117 : Int32), (109 : Int32), (110 : Int32), (95 : Int32), (116 : Int32), (111 : Int32)] : List Int32).map (fun c => c.toInt8.toInt32)).map Value.int) := StrChars.Road.codOf (n := 16) rfl (fun c hc => (hp129 c hc).2)
  have hbd129 : ∀ c ∈ ([(117 : Int32), (112 : Int32), (100 : Int32), (97 : Int32), (116 : Int32), (101 : Int32), (95 : Int32), (99 : Int32), (111 : Int32), (108 : Int32), (117 : Int32), (109 : Int32), (110 : Int32), (95 : Int32), (116 : Int32), (111 : Int32)] : List Int32), Wid c := own_up hp129
  refine Gl.go (A := s₁.setTop (entryFrame m #[(.ref x)] 6)) (P := fun o_ U_ => ∃ v_ L_, o_ = .returned v_ ∧ Qof2 Z x t kb G1 ar ka c0 c1 c2 l0 t0 kb0 l1 t1 kb1 l2 t2 kb2 h0 n0 v_ U_.heap L_ ∧ ReturnedEndW s o_ U_ L_ ({ frames := 2, cells := 3, slots := 19, locals := 28 } : Room).cells ({ frames := 2, cells := 3, slots := 19, locals := 28 } : Room).slots) (fun t k => castTop (ef_of2 m x) k) ?_
  show Gl p.tables e below _ (s₁.setTop (mkF m 0 #[.val (.ref x), .unset, .unset, .unset, .unset, .unset] []))
  refine Gl.go (fun _ hr => zXS_aloadN X0.here hx rfl (hb hby d7_0) rfl rfl hr) ?_
  obtain ⟨a130, T130, h130, k130, X130, e130, E130, hS130, hk130, hZ130, hown130, st130⟩ := ldcS X0 hx hZ (own := "com/example/frist/frist/OnDeleteAction") hown (hw _ (List.mem_of_getElem? (i := 37) rfl)) hstr e0 hS0 (by have q := hk0; omega) (g := (mkF m 1 #[.val (.ref x), .unset, .unset, .unset, .unset, .unset] [(.ref x)])) rfl (hb hby d7_1) (n := 12) (by decide) (by decide) (by decide) (by decide)
  have z131 : h0.size ≤ h130.size := E130.1
  refine Gl.go st130 ?_
  show Gl p.tables e below _ (T130.setTop (mkF m 3 #[.val (.ref x), .unset, .unset, .unset, .unset, .unset] [(.ref a130), (.ref x)]))
  have zz132 : n0 ≤ h130.size := by omega
  refine gStaticN Gl.cl (y := (⟨"java/util/Objects", "requireNonNull", "(Ljava/lang/Object;Ljava/lang/String;)Ljava/lang/Object;"⟩ : MethodName)) (argsL := [(.ref x), (.ref a130)]) (rest := []) (mc := 0) (ms := 0) X130 hx hZ130 hown130 (mvT hZ130 (hw _ (List.mem_of_getElem? (i := 40) rfl))) (mvT hZ130 (hw _ (List.mem_of_getElem? (i := 41) rfl))) (mvT hZ130 (hw _ (List.mem_of_getElem? (i := 42) rfl))) (mvT hZ130 (hw _ (List.mem_of_getElem? (i := 43) rfl))) (by decide) (backOf (W := 0) (rq l Z a0 hw [] x a130 h130 n0 zz132 ) hZ130 (hw _ (List.mem_of_getElem? (i := 43) rfl)) (hw _ (List.mem_of_getElem? (i := 42) rfl)) (by decide) (by decide)) rfl (by rw [hml]; rfl) (lenOf pd_0 rfl) rfl (by show 2 * 0 + _ ≤ _; exact Nat.le_of_eq rfl) (hb hby d7_3) rfl e130 (by decide) (by decide) ?_
  intro v132 T132 Lc132 hQ132 X132
  obtain ⟨rfl, Nq132, e132⟩ := hQ132
  have N132 := Fr.app N0 Nq132
  refine Gl.go (fun _ hr => zXT_pop X132.here hx rfl (hb hby d7_6) rfl rfl hr) ?_
  have Oc134 := (q2.ext E130)
  have zz133 : n0 ≤ h130.size := by omega
  refine gStaticN Gl.cl (y := (⟨"com/example/frist/frist/OnDeleteAction", "values", "()[Lcom/example/frist/frist/OnDeleteAction;"⟩ : MethodName)) (argsL := []) (rest := []) (mc := 1) (ms := 3) X132 hx hZ130 hown130 (mvT hZ130 (hw _ (List.mem_of_getElem? (i := 44) rfl))) (mvT hZ130 (hw _ (List.mem_of_getElem? (i := 45) rfl))) (mvT hZ130 (hw _ (List.mem_of_getElem? (i := 3) rfl))) (mvT hZ130 (hw _ (List.mem_of_getElem? (i := 46) rfl))) (by decide) (backOf (W := 0) (vals l Z a0 hw [] ar ka c0 c1 c2 h130 n0 zz133 Oc134 q7 q8 q9) hZ130 (hw _ (List.mem_of_getElem? (i := 46) rfl)) (hw _ (List.mem_of_getElem? (i := 3) rfl)) (by decide) (by decide)) rfl (by rw [hml]; rfl) (lenOf pd_1 rfl) rfl (by show 2 * 0 + _ ≤ _; exact Nat.le_of_eq rfl) (hb hby d7_7) rfl e132 (by decide) (by decide) ?_
  intro v133 T133 Lc133 hQ133 X133
  obtain ⟨b_133, rfl, Nq133, K133, f133_0, f133_1, f133_2, f133_3⟩ := hQ133
  have z135 : h130.size ≤ T133.heap.size := K133.1
  have N133 := Fr.app N132 Nq133
  have lt136 := own_alt f133_2.lt
  have lt137 := own_alt f133_3.lt
  refine Gl.go (fun _ hr => zXS_astoreN X133.here hx rfl (hb hby d7_10) rfl rfl (l' := #[.val (.ref x), .val (.ref b_133), .unset, .unset, .unset, .unset]) rfl (zXS_aloadN X133.here hx rfl (hb hby d7_11) rfl rfl hr)) ?_
  obtain ⟨c138, a138, q138, s138, m138, H138, U138⟩ := id f133_3
  refine gLen Gl.cl X133 hx hZ130 (rfl : T133.heap = T133.heap) a138 s138 m138 rfl rfl (hb hby d7_12) ?_
  refine Gl.go (fun _ hr => zXS_istoreN X133.here hx rfl (hb hby d7_13) rfl (l' := #[.val (.ref x), .val (.ref b_133), .val (.int (3 : Int32)), .unset, .unset, .unset]) rfl (zXS_iconst X133.here hx rfl (hb hby d7_14) (zXS_istoreN X133.here hx rfl (hb hby d7_15) rfl (l' := #[.val (.ref x), .val (.ref b_133), .val (.int (3 : Int32)), .val (.int (0 : Int32)), .unset, .unset]) rfl (zXS_iloadN X133.here hx rfl (hb hby d7_16) rfl (zXS_iloadN X133.here hx rfl (hb hby d7_17) rfl (zXS_icmpNo X133.here hx rfl (hb hby d7_18) rfl (XT.ii_ge_f (by decide)) (zXS_aloadN X133.here hx rfl (hb hby d7_21) rfl rfl (zXS_iloadN X133.here hx rfl (hb hby d7_22) rfl hr)))))))) ?_
  obtain ⟨c139, a139, q139, s139, m139, H139, U139⟩ := id f133_3
  have i139 := inb_of s139 (j := (0 : Int32)) ⟨(by decide), (by decide)⟩
  refine g_aaload Gl.cl X133 hx hZ130 (rfl : T133.heap = T133.heap) a139 rfl i139 (v := (.ref c0)) (H139.at i139 rfl) rfl rfl (hb hby d7_23) ?_
  refine Gl.go (fun _ hr => zXS_astore X133.here hx rfl (hb hby d7_24) rfl rfl (l' := #[.val (.ref x), .val (.ref b_133), .val (.int (3 : Int32)), .val (.int (0 : Int32)), .val (.ref c0), .unset]) rfl (zXS_aload X133.here hx rfl (hb hby d7_26) rfl rfl hr)) ?_
  have Oc140 := (Oc134.keep K133 all0)
  refine gGetF (host := "") Gl.cl X133 hx hZ130 hown130 (Or.inl (hw _ (List.mem_of_getElem? (i := 61) rfl))) Via.refl (rfl : T133.heap = T133.heap) (q11.ext Oc140.2) rfl rfl (hb hby d7_28) ?_
  intro T141 X141 e141
  refine Gl.go (fun _ hr => zXS_aloadN X141.here hx rfl (hb hby d7_31) rfl rfl hr) ?_
  have Ec143 := ((q3.ext E130).keep K133)
  have Fc144 := ((q4.ext E130).keep K133 nin0)
  have Fc145 := ((q5.ext E130).keep K133 nin0)
  have Vc146 := ((q6.ext E130).keep K133 nin0)
  refine gVirtualN Gl.cl (y := (⟨"java/lang/String", "equals", "(Ljava/lang/Object;)Z"⟩ : MethodName)) (z := (⟨"java/lang/String", "equals", "(Ljava/lang/Object;)Z"⟩ : MethodName)) (b := l0) (argsL := [(.ref x)]) (rest := []) (mc := 0) (ms := 0) (Q := fun v h' L => ((v = some (.int 1) ∧ ([(97 : Int32), (115 : Int32), (121 : Int32), (110 : Int32), (99 : Int32), (95 : Int32), (100 : Int32), (101 : Int32), (108 : Int32), (101 : Int32), (116 : Int32), (101 : Int32)] : List Int32) = ([(117 : Int32), (112 : Int32), (100 : Int32), (97 : Int32), (116 : Int32), (101 : Int32), (95 : Int32), (99 : Int32), (111 : Int32), (108 : Int32), (117 : Int32), (109 : Int32), (110 : Int32), (95 : Int32), (116 : Int32), (111 : Int32)] : List Int32)) ∨ (v = some (.int 0) ∧ ¬ ([(97 : Int32), (115 : Int32), (121 : Int32), (110 : Int32), (99 : Int32), (95 : Int32), (100 : Int32), (101 : Int32), (108 : Int32), (101 : Int32), (116 : Int32), (101 : Int32)] : List Int32) = ([(117 : Int32), (112 : Int32), (100 : Int32), (97 : Int32), (116 : Int32), (101 : Int32), (95 : Int32), (99 : Int32), (111 : Int32), (108 : Int32), (117 : Int32), (109 : Int32), (110 : Int32), (95 : Int32), (116 : Int32), (111 : Int32)] : List Int32))) ∧ L = [] ∧ h' = T133.heap) X141 hx hZ130 hown130 (mvT hZ130 (hw _ (List.mem_of_getElem? (i := 63) rfl))) (mvT hZ130 (hw _ (List.mem_of_getElem? (i := 64) rfl))) (notFace_of_selects (args := #[]) (mvT hZ130 (hw _ (List.mem_of_getElem? (i := 66) rfl)))) (mvT hZ130 (hw _ (List.mem_of_getElem? (i := 66) rfl))) (mvT hZ130 (hw _ (List.mem_of_getElem? (i := 65) rfl))) (by decide) (q12.ext Oc140.2) (StrChars.Road.eqW (W := 0) hZ130 heq (kI := 4) (hw _ (List.mem_of_getElem? (i := 6) rfl)) (q12.ext Oc140.2) (q13.ext Oc140.2) (q14.ext Oc140.2) (q15.ext Oc140.2) hcd126 hbd126 (Nat.le_of_ble_eq_true rfl) Ec143 Fc144 Fc145 Vc146 hcd129 hbd129 (Nat.le_of_ble_eq_true rfl) (q0.ext Oc140.2) P5 (by decide) (by decide)) rfl (by rw [hml]; rfl) (lenOf pd_2 rfl) rfl (by show 2 * 0 + _ ≤ _; exact Nat.le_of_eq rfl) (hb hby d7_32) rfl e141 (by decide) (by decide) ?_
  intro v142 T142 Lc142 hQ142 X142
  obtain ⟨hca142, rfl, e142⟩ := hQ142
  have N142 := own_fr_nil N133
  have hv142 : _ = some (Value.int 0) := hca142.elim (fun q => absurd q.2 (by decide)) (fun q => q.1)
  subst hv142
  refine Gl.go (fun _ hr => zXS_ifYes X142.here hx rfl (pc0 := 35) (pc' := 41) rfl (hb hby d7_35) rfl (XT.i0_eq_t (by decide)) (by decide) (by decide) (zXS_iinc X142.here hx rfl (hb hby d7_41) rfl (l' := #[.val (.ref x), .val (.ref b_133), .val (.int (3 : Int32)), .val (.int (1 : Int32)), .val (.ref c0), .unset]) rfl (zXS_goto X142.here hx rfl (pc0 := 44) (pc' := 16) rfl (hb hby d7_44) (by decide) (by decide) (zXS_iloadN X142.here hx rfl (hb hby d7_16) rfl (zXS_iloadN X142.here hx rfl (hb hby d7_17) rfl (zXS_icmpNo X142.here hx rfl (hb hby d7_18) rfl (XT.ii_ge_f (by decide)) (zXS_aloadN X142.here hx rfl (hb hby d7_21) rfl rfl (zXS_iloadN X142.here hx rfl (hb hby d7_22) rfl hr)))))))) ?_
  obtain ⟨c147, a147, q147, s147, m147, H147, U147⟩ := id f133_3
  have i147 := inb_of s147 (j := (1 : Int32)) ⟨(by decide), (by decide)⟩
  refine g_aaload Gl.cl X142 hx hZ130 e142 a147 rfl i147 (v := (.ref c1)) (H147.at i147 rfl) rfl rfl (hb hby d7_23) ?_
  refine Gl.go (fun _ hr => zXS_astore X142.here hx rfl (hb hby d7_24) rfl rfl (l' := #[.val (.ref x), .val (.ref b_133), .val (.int (3 : Int32)), .val (.int (1 : Int32)), .val (.ref c1), .unset]) rfl (zXS_aload X142.here hx rfl (hb hby d7_26) rfl rfl hr)) ?_
  refine gGetF (host := "") Gl.cl X142 hx hZ130 hown130 (Or.inl (hw _ (List.mem_of_getElem? (i := 61) rfl))) Via.refl e142 (q17.ext Oc140.2) rfl rfl (hb hby d7_28) ?_
  intro T148 X148 e148
  refine Gl.go (fun _ hr => zXS_aloadN X148.here hx rfl (hb hby d7_31) rfl rfl hr) ?_
  refine gVirtualN Gl.cl (y := (⟨"java/lang/String", "equals", "(Ljava/lang/Object;)Z"⟩ : MethodName)) (z := (⟨"java/lang/String", "equals", "(Ljava/lang/Object;)Z"⟩ : MethodName)) (b := l1) (argsL := [(.ref x)]) (rest := []) (mc := 0) (ms := 0) (Q := fun v h' L => ((v = some (.int 1) ∧ ([(97 : Int32), (115 : Int32), (121 : Int32), (110 : Int32), (99 : Int32), (95 : Int32), (110 : Int32), (117 : Int32), (108 : Int32), (108 : Int32), (105 : Int32), (102 : Int32), (121 : Int32)] : List Int32) = ([(117 : Int32), (112 : Int32), (100 : Int32), (97 : Int32), (116 : Int32), (101 : Int32), (95 : Int32), (99 : Int32), (111 : Int32), (108 : Int32), (117 : Int32), (109 : Int32), (110 : Int32), (95 : Int32), (116 : Int32), (111 : Int32)] : List Int32)) ∨ (v = some (.int 0) ∧ ¬ ([(97 : Int32), (115 : Int32), (121 : Int32), (110 : Int32), (99 : Int32), (95 : Int32), (110 : Int32), (117 : Int32), (108 : Int32), (108 : Int32), (105 : Int32), (102 : Int32), (121 : Int32)] : List Int32) = ([(117 : Int32), (112 : Int32), (100 : Int32), (97 : Int32), (116 : Int32), (101 : Int32), (95 : Int32), (99 : Int32), (111 : Int32), (108 : Int32), (117 : Int32), (109 : Int32), (110 : Int32), (95 : Int32), (116 : Int32), (111 : Int32)] : List Int32))) ∧ L = [] ∧ h' = T133.heap) X148 hx hZ130 hown130 (mvT hZ130 (hw _ (List.mem_of_getElem? (i := 63) rfl))) (mvT hZ130 (hw _ (List.mem_of_getElem? (i := 64) rfl))) (notFace_of_selects (args := #[]) (mvT hZ130 (hw _ (List.mem_of_getElem? (i := 66) rfl)))) (mvT hZ130 (hw _ (List.mem_of_getElem? (i := 66) rfl))) (mvT hZ130 (hw _ (List.mem_of_getElem? (i := 65) rfl))) (by decide) (q18.ext Oc140.2) (StrChars.Road.eqW (W := 0) hZ130 heq (kI := 4) (hw _ (List.mem_of_getElem? (i := 6) rfl)) (q18.ext Oc140.2) (q19.ext Oc140.2) (q20.ext Oc140.2) (q21.ext Oc140.2) hcd127 hbd127 (Nat.le_of_ble_eq_true rfl) Ec143 Fc144 Fc145 Vc146 hcd129 hbd129 (Nat.le_of_ble_eq_true rfl) (q0.ext Oc140.2) P5 (by decide) (by decide)) rfl (by rw [hml]; rfl) (lenOf pd_2 rfl) rfl (by show 2 * 0 + _ ≤ _; exact Nat.le_of_eq rfl) (hb hby d7_32) rfl e148 (by decide) (by decide) ?_
  intro v149 T149 Lc149 hQ149 X149
  obtain ⟨hca149, rfl, e149⟩ := hQ149
  have N149 := own_fr_nil N142
  have hv149 : _ = some (Value.int 0) := hca149.elim (fun q => absurd q.2 (by decide)) (fun q => q.1)
  subst hv149
  refine Gl.go (fun _ hr => zXS_ifYes X149.here hx rfl (pc0 := 35) (pc' := 41) rfl (hb hby d7_35) rfl (XT.i0_eq_t (by decide)) (by decide) (by decide) (zXS_iinc X149.here hx rfl (hb hby d7_41) rfl (l' := #[.val (.ref x), .val (.ref b_133), .val (.int (3 : Int32)), .val (.int (2 : Int32)), .val (.ref c1), .unset]) rfl (zXS_goto X149.here hx rfl (pc0 := 44) (pc' := 16) rfl (hb hby d7_44) (by decide) (by decide) (zXS_iloadN X149.here hx rfl (hb hby d7_16) rfl (zXS_iloadN X149.here hx rfl (hb hby d7_17) rfl (zXS_icmpNo X149.here hx rfl (hb hby d7_18) rfl (XT.ii_ge_f (by decide)) (zXS_aloadN X149.here hx rfl (hb hby d7_21) rfl rfl (zXS_iloadN X149.here hx rfl (hb hby d7_22) rfl hr)))))))) ?_
  obtain ⟨c150, a150, q150, s150, m150, H150, U150⟩ := id f133_3
  have i150 := inb_of s150 (j := (2 : Int32)) ⟨(by decide), (by decide)⟩
  refine g_aaload Gl.cl X149 hx hZ130 e149 a150 rfl i150 (v := (.ref c2)) (H150.at i150 rfl) rfl rfl (hb hby d7_23) ?_
  refine Gl.go (fun _ hr => zXS_astore X149.here hx rfl (hb hby d7_24) rfl rfl (l' := #[.val (.ref x), .val (.ref b_133), .val (.int (3 : Int32)), .val (.int (2 : Int32)), .val (.ref c2), .unset]) rfl (zXS_aload X149.here hx rfl (hb hby d7_26) rfl rfl hr)) ?_
  refine gGetF (host := "") Gl.cl X149 hx hZ130 hown130 (Or.inl (hw _ (List.mem_of_getElem? (i := 61) rfl))) Via.refl e149 (q23.ext Oc140.2) rfl rfl (hb hby d7_28) ?_
  intro T151 X151 e151
  refine Gl.go (fun _ hr => zXS_aloadN X151.here hx rfl (hb hby d7_31) rfl rfl hr) ?_
  refine gVirtualN Gl.cl (y := (⟨"java/lang/String", "equals", "(Ljava/lang/Object;)Z"⟩ : MethodName)) (z := (⟨"java/lang/String", "equals", "(Ljava/lang/Object;)Z"⟩ : MethodName)) (b := l2) (argsL := [(.ref x)]) (rest := []) (mc := 0) (ms := 0) (Q := fun v h' L => ((v = some (.int 1) ∧ ([(117 : Int32), (112 : Int32), (100 : Int32), (97 : Int32), (116 : Int32), (101 : Int32), (95 : Int32), (99 : Int32), (111 : Int32), (108 : Int32), (117 : Int32), (109 : Int32), (110 : Int32), (95 : Int32), (116 : Int32), (111 : Int32)] : List Int32) = ([(117 : Int32), (112 : Int32), (100 : Int32), (97 : Int32), (116 : Int32), (101 : Int32), (95 : Int32), (99 : Int32), (111 : Int32), (108 : Int32), (117 : Int32), (109 : Int32), (110 : Int32), (95 : Int32), (116 : Int32), (111 : Int32)] : List Int32)) ∨ (v = some (.int 0) ∧ ¬ ([(117 : Int32), (112 : Int32), (100 : Int32), (97 : Int32), (116 : Int32), (101 : Int32), (95 : Int32), (99 : Int32), (111 : Int32), (108 : Int32), (117 : Int32), (109 : Int32), (110 : Int32), (95 : Int32), (116 : Int32), (111 : Int32)] : List Int32) = ([(117 : Int32), (112 : Int32), (100 : Int32), (97 : Int32), (116 : Int32), (101 : Int32), (95 : Int32), (99 : Int32), (111 : Int32), (108 : Int32), (117 : Int32), (109 : Int32), (110 : Int32), (95 : Int32), (116 : Int32), (111 : Int32)] : List Int32))) ∧ L = [] ∧ h' = T133.heap) X151 hx hZ130 hown130 (mvT hZ130 (hw _ (List.mem_of_getElem? (i := 63) rfl))) (mvT hZ130 (hw _ (List.mem_of_getElem? (i := 64) rfl))) (notFace_of_selects (args := #[]) (mvT hZ130 (hw _ (List.mem_of_getElem? (i := 66) rfl)))) (mvT hZ130 (hw _ (List.mem_of_getElem? (i := 66) rfl))) (mvT hZ130 (hw _ (List.mem_of_getElem? (i := 65) rfl))) (by decide) (q24.ext Oc140.2) (StrChars.Road.eqW (W := 0) hZ130 heq (kI := 4) (hw _ (List.mem_of_getElem? (i := 6) rfl)) (q24.ext Oc140.2) (q25.ext Oc140.2) (q26.ext Oc140.2) (q27.ext Oc140.2) hcd128 hbd128 (Nat.le_of_ble_eq_true rfl) Ec143 Fc144 Fc145 Vc146 hcd129 hbd129 (Nat.le_of_ble_eq_true rfl) (q0.ext Oc140.2) P5 (by decide) (by decide)) rfl (by rw [hml]; rfl) (lenOf pd_2 rfl) rfl (by show 2 * 0 + _ ≤ _; exact Nat.le_of_eq rfl) (hb hby d7_32) rfl e151 (by decide) (by decide) ?_
  intro v152 T152 Lc152 hQ152 X152
  obtain ⟨hca152, rfl, e152⟩ := hQ152
  have N152 := own_fr_nil N149
  have hv152 : _ = some (Value.int 1) := hca152.elim (fun q => q.1) (fun q => absurd rfl q.2)
  subst hv152
  refine Gl.go (fun _ hr => zXS_ifNo X152.here hx rfl (hb hby d7_35) rfl (XT.i0_eq_f (by decide)) (zXS_aload X152.here hx rfl (hb hby d7_38) rfl rfl hr)) ?_
  obtain ⟨fs, hr, hrun, hended, hE⟩ := X152.leaveW hS130 (by have q := congrArg Array.size e152; have q2 := hk130; omega) (v := some (.ref c2)) (fun h => by rw [Bd.returns] at h; cases h)
  refine ⟨_, _, retOut X152 hx Bd.returns rfl (Or.inr (Or.inr (Or.inr (Or.inr ⟨rfl, rfl, rfl⟩)))) (hb hby d7_40) hr, hrun, hended, _, _, rfl, ?_, ⟨hE.1, hE.2.1, hE.2.2.1, hE.2.2.2.mono (by decide) (by decide)⟩⟩
  show Qof2 Z x t kb G1 ar ka c0 c1 c2 l0 t0 kb0 l1 t1 kb1 l2 t2 kb2 h0 n0 _ T152.heap _
  rw [e152]
  exact ⟨rfl, N152, (((Keep.refl h0 []).ext E130).trans K133 all0)⟩
def Qlawrm (Z : State) (i0 : Int32) (G1 : Int32) (ar : Addr) (ka : ClassId) (c0 : Addr) (c1 : Addr) (c2 : Addr) (l0 : Addr) (t0 : Addr) (kb0 : ClassId) (l1 : Addr) (t1 : Addr) (kb1 : ClassId) (l2 : Addr) (t2 : Addr) (kb2 : ClassId) (h0 : Heap) (n0 : Nat) (v : Option Value) (h : Heap) (L : List Loc) : Prop := v = some (.int (1 : Int32)) ∧ Fr n0 L ∧ Keep h0 h []
theorem pn_2 : plainName "com/example/frist/frist/OnDeleteActionFromKeyPinLaw" = true := by first | (simp [plainName, overriddenIn]; done) | decide +kernel
theorem ef_lawrm (m : MethodId) (x0 : Int32) : entryFrame m #[(.int x0)] maxLocals = mkF m 0 #[.val (.int x0), .unset, .unset, .unset, .unset, .unset] [] := by first | (simp [entryFrame, mkF, argsToLocals, Value.category, maxLocals]; done) | rfl
theorem pd_3 : parseMethodDescriptor "([C)V" = some ⟨[(.array .char)], none⟩ := by decide +kernel
theorem pd_4 : parseMethodDescriptor "(Ljava/lang/String;)Lcom/example/frist/frist/OnDeleteAction;" = some ⟨[(.object "java/lang/String")], some (.object "com/example/frist/frist/OnDeleteAction")⟩ := by decide +kernel
theorem pd_5 : parseMethodDescriptor "()Ljava/lang/String;" = some ⟨[], some (.object "java/lang/String")⟩ := by decide +kernel
set_option maxRecDepth 65536 in
set_option maxHeartbeats 40000000 in
theorem lawrm (l : Launch) (Z : State) (a0 : Array Value) (hw : ∀ d ∈ tables_1, d.before a0 Z = true) (ws : List Jvm.Cond) (i0 : Int32) (G1 : Int32) (ar : Addr) (ka : ClassId) (c0 : Addr) (c1 : Addr) (c2 : Addr) (l0 : Addr) (t0 : Addr) (kb0 : ClassId) (l1 : Addr) (t1 : Addr) (kb1 : ClassId) (l2 : Addr) (t2 : Addr) (kb2 : ClassId) (h0 : Heap) (n0 : Nat) (Z0 : n0 ≤ h0.size) (q0 : Sta Z Z.heap "java/lang/String" "COMPACT_STRINGS" "Z" (.int G1)) (P5 : ¬ (G1 = (0 : Int32))) (q2 : Old Z n0 h0) (q3 : Sta Z Z.heap "com/example/frist/frist/OnDeleteAction" "ASYNC_DELETE" "Lcom/example/frist/frist/OnDeleteAction;" (.ref c0)) (q4 : Sta Z Z.heap "com/example/frist/frist/OnDeleteAction" "ASYNC_NULLIFY" "Lcom/example/frist/frist/OnDeleteAction;" (.ref c1)) (q5 : Sta Z Z.heap "com/example/frist/frist/OnDeleteAction" "UPDATE_COLUMN_TO" "Lcom/example/frist/frist/OnDeleteAction;" (.ref c2)) (q6 : Sta Z Z.heap "com/example/frist/frist/OnDeleteAction" "$VALUES" "[Lcom/example/frist/frist/OnDeleteAction;" (.ref ar)) (q7 : Arv Z Z.heap ar ka (.object "com/example/frist/frist/OnDeleteAction") (3 : Int32) ([(.ref c0), (.ref c1), (.ref c2)]) .null) (q8 : Exa Z Z.heap ar "[Lcom/example/frist/frist/OnDeleteAction;") (q9 : Exa Z Z.heap c0 "com/example/frist/frist/OnDeleteAction") (q10 : Fld Z Z.heap c0 "com/example/frist/frist/OnDeleteAction" "key" "Ljava/lang/String;" (.ref l0)) (q11 : Exa Z Z.heap l0 "java/lang/String") (q12 : Fld Z Z.heap l0 "java/lang/String" "value" "[B" (.ref t0)) (q13 : Fld Z Z.heap l0 "java/lang/String" "coder" "B" (.int (0 : Int32))) (q14 : Arv Z Z.heap t0 kb0 .byte (12 : Int32) ((([(97 : Int32), (115 : Int32), (121 : Int32), (110 : Int32), (99 : Int32), (95 : Int32), (100 : Int32), (101 : Int32), (108 : Int32), (101 : Int32), (116 : Int32), (101 : Int32)] : List Int32).map (fun c => c.toInt8.toInt32)).map Value.int) (.int 0)) (q15 : Exa Z Z.heap c1 "com/example/frist/frist/OnDeleteAction") (q16 : Fld Z Z.heap c1 "com/example/frist/frist/OnDeleteAction" "key" "Ljava/lang/String;" (.ref l1)) (q17 : Exa Z Z.heap l1 "java/lang/String") (q18 : Fld Z Z.heap l1 "java/lang/String" "value" "[B" (.ref t1)) (q19 : Fld Z Z.heap l1 "java/lang/String" "coder" "B" (.int (0 : Int32))) (q20 : Arv Z Z.heap t1 kb1 .byte (13 : Int32) ((([(97 : Int32), (115 : Int32), (121 : Int32), (110 : Int32), (99 : Int32), (95 : Int32), (110 : Int32), (117 : Int32), (108 : Int32), (108 : Int32), (105 : Int32), (102 : Int32), (121 : Int32)] : List Int32).map (fun c => c.toInt8.toInt32)).map Value.int) (.int 0)) (q21 : Exa Z Z.heap c2 "com/example/frist/frist/OnDeleteAction") (q22 : Fld Z Z.heap c2 "com/example/frist/frist/OnDeleteAction" "key" "Ljava/lang/String;" (.ref l2)) (q23 : Exa Z Z.heap l2 "java/lang/String") (q24 : Fld Z Z.heap l2 "java/lang/String" "value" "[B" (.ref t2)) (q25 : Fld Z Z.heap l2 "java/lang/String" "coder" "B" (.int (0 : Int32))) (q26 : Arv Z Z.heap t2 kb2 .byte (16 : Int32) ((([(117 : Int32), (112 : Int32), (100 : Int32), (97 : Int32), (116 : Int32), (101 : Int32), (95 : Int32), (99 : Int32), (111 : Int32), (108 : Int32), (117 : Int32), (109 : Int32), (110 : Int32), (95 : Int32), (116 : Int32), (111 : Int32)] : List Int32).map (fun c => c.toInt8.toInt32)).map Value.int) (.int 0)) :
    MetFree l x (head1 (Jvm.Cond.code x code maxLocals ret :: ws) room_1) (fun a_ U_ => a_ = #[(.int i0)] ∧ Z.Warmed39 U_.vm ∧ U_.heap = h0) (fun _ _ _ _ _ => True) (fun _ U_ o_ V_ => ∃ v_ L_, o_ = .returned v_ ∧ Qlawrm Z i0 G1 ar ka c0 c1 c2 l0 t0 kb0 l1 t1 kb1 l2 t2 kb2 h0 n0 v_ V_.heap L_ ∧ ReturnedEndW U_ o_ V_ L_ 24 1216) := by
  refine MetFree.of_bodySF (plainFor_of_name pn_2) hisR ?_
  intro p e s m args below meth c s₁ Bd hml0 hP hK
  obtain ⟨rfl, hZ, hh⟩ := hP
  have hx := Bd.exec
  have hby := Bd.bytes
  have hml : c.maxLocals = 6 := hml0
  have hown : s.vm.findClass "com/example/frist/frist/OnDeleteActionFromKeyPinLaw" = some m.cls := findClass_of_methodNamed Bd.named
  have hnm := (name_of_methodNamed Bd.named Bd.method).1
  have X0 : Stand p l e room_1 (s.setVm s.vm) m #[(.int i0)] below meth c s₁ [] 0 0 := Stand.of_body Bd
  have e0 : s₁.heap = h0 := by rw [← hh, Bd.state]; rfl
  have N0 := Fr.nil n0
  have hS0 : s.Since s.vm h0.size := (State.WarmedH.refl s).since _
  have hk0 : h0.size ≤ h0.size := Nat.le_refl _
  have zo := q2.1
  have lt153 := own_alt q7.lt
  have lt154 := own_alt q8.lt
  have lt155 := own_alt q9.lt
  have lt156 := own_alt q10.lt
  have lt157 := own_alt q11.lt
  have lt158 := own_alt q12.lt
  have lt159 := own_alt q13.lt
  have lt160 := own_alt q14.lt
  have lt161 := own_alt q15.lt
  have lt162 := own_alt q16.lt
  have lt163 := own_alt q17.lt
  have lt164 := own_alt q18.lt
  have lt165 := own_alt q19.lt
  have lt166 := own_alt q20.lt
  have lt167 := own_alt q21.lt
  have lt168 := own_alt q22.lt
  have lt169 := own_alt q23.lt
  have lt170 := own_alt q24.lt
  have lt171 := own_alt q25.lt
  have lt172 := own_alt q26.lt
  have hstr : ∀ d ∈ Bundle.stringAtoms, d.before a0 Z = true := fun d hd => hw d (own_hstr d hd)
  have hws : ∀ d ∈ StrChars.Road.words, d.before a0 Z = true := fun d hd => hw d (own_hws d hd)
  have heq : ∀ d ∈ StrChars.Road.wordsEq, d.before a0 Z = true := fun d hd => hw d (own_heq d hd)
  have hp173 : ∀ c ∈ ([(97 : Int32), (115 : Int32), (121 : Int32), (110 : Int32), (99 : Int32), (95 : Int32), (100 : Int32), (101 : Int32), (108 : Int32), (101 : Int32), (116 : Int32), (101 : Int32)] : List Int32), Lat c := by decide
  have hcd173 : StrChars.Road.CodA ([(97 : Int32), (115 : Int32), (121 : Int32), (110 : Int32), (99 : Int32), (95 : Int32), (100 : Int32), (101 : Int32), (108 : Int32), (101 : Int32), (116 : Int32), (101 : Int32)] : List Int32) 0 (12 : Int32) ((([(97 : Int32), (115 : Int32), (121 : Int32), (110 : Int32), (99 : Int32), (95 : Int32), (100 : Int32), (101 : Int32), (108 : Int32), (101 : Int32), (116 : Int32), (101 : Int32)] : List Int32).map (fun c => c.toInt8.toInt32)).map Value.int) := StrChars.Road.codOf (n := 12) rfl (fun c hc => (hp173 c hc).2)
  have hbd173 : ∀ c ∈ ([(97 : Int32), (115 : Int32), (121 : Int32), (110 : Int32), (99 : Int32), (95 : Int32), (100 : Int32), (101 : Int32), (108 : Int32), (101 : Int32), (116 : Int32), (101 : Int32)] : List Int32), Wid c := own_up hp173
  have hp174 : ∀ c ∈ ([(97 : Int32), (115 : Int32), (121 : Int32), (110 : Int32), (99 : Int32), (95 : Int32), (110 : Int32), (117 : Int32), (108 : Int32), (108 : Int32), (105 : Int32), (102 : Int32), (121 : Int32)] : List Int32), Lat c := by decide
  have hcd174 : StrChars.Road.CodA ([(97 : Int32), (115 : Int32), (121 : Int32), (110 : Int32), (99 : Int32), (95 : Int32), (110 : Int32), (117 : Int32), (108 : Int32), (108 : Int32), (105 : Int32), (102 : Int32), (121 : Int32)] : List Int32) 0 (13 : Int32) ((([(97 : Int32), (115 : Int32), (121 : Int32), (110 : Int32), (99 : Int32), (95 : Int32), (110 : Int32), (117 : Int32), (108 : Int32), (108 : Int32), (105 : Int32), (102 : Int32), (121 : Int32)] : List Int32).map (fun c => c.toInt8.toInt32)).map Value.int) := StrChars.Road.codOf (n := 13) rfl (fun c hc => (hp174 c hc).2)
  have hbd174 : ∀ c ∈ ([(97 : Int32), (115 : Int32), (121 : Int32), (110 : Int32), (99 : Int32), (95 : Int32), (110 : Int32), (117 : Int32), (108 : Int32), (108 : Int32), (105 : Int32), (102 : Int32), (121 : Int32)] : List Int32), Wid c := own_up hp174
  have hp175 : ∀ c ∈ ([(117 : Int32), (112 : Int32), (100 : Int32), (97 : Int32), (116 : Int32), (101 : Int32), (95 : Int32), (99 : Int32), (111 : Int32), (108 : Int32), (117 : Int32), (109 : Int32), (110 : Int32), (95 : Int32), (116 : Int32), (111 : Int32)] : List Int32), Lat c := by decide
  have hcd175 : StrChars.Road.CodA ([(117 : Int32), (112 : Int32), (100 : Int32), (97 : Int32), (116 : Int32), (101 : Int32), (95 : Int32), (99 : Int32), (111 : Int32), (108 : Int32), (117 : Int32), (109 : Int32), (110 : Int32), (95 : Int32), (116 : Int32), (111 : Int32)] : List Int32) 0 (16 : Int32) ((([(117 : Int32), (112 : Int32), (100 : Int32), (97 : Int32), (116 : Int32), (101 : Int32), (95 : Int32), (99 : Int32), (111 : Int32), (108 : Int32), (117 : Int32), (109 : Int32), (110 : Int32), (95 : Int32), (116 : Int32), (111 : Int32)] : List Int32).map (fun c => c.toInt8.toInt32)).map Value.int) := StrChars.Road.codOf (n := 16) rfl (fun c hc => (hp175 c hc).2)
  have hbd175 : ∀ c ∈ ([(117 : Int32), (112 : Int32), (100 : Int32), (97 : Int32), (116 : Int32), (101 : Int32), (95 : Int32), (99 : Int32), (111 : Int32), (108 : Int32), (117 : Int32), (109 : Int32), (110 : Int32), (95 : Int32), (116 : Int32), (111 : Int32)] : List Int32), Wid c := own_up hp175
  refine Gl.go (A := s₁.setTop (entryFrame m #[(.int i0)] maxLocals)) (P := fun o_ U_ => ∃ v_ L_, o_ = .returned v_ ∧ Qlawrm Z i0 G1 ar ka c0 c1 c2 l0 t0 kb0 l1 t1 kb1 l2 t2 kb2 h0 n0 v_ U_.heap L_ ∧ ReturnedEndW s o_ U_ L_ 24 1216) (fun t k => castTop (ef_lawrm m i0) k) ?_
  show Gl p.tables e below _ (s₁.setTop (mkF m 0 #[.val (.int i0), .unset, .unset, .unset, .unset, .unset] []))
  refine Gl.go (fun _ hr => zXS_iloadN X0.here hx rfl (hb hby at_0) rfl hr) ?_
  refine Gl.go (X0.ldcInt hx hown (mvT hZ (hw _ (List.mem_of_getElem? (i := 0) rfl))) rfl (hb hby at_1)) ?_
  refine Gl.go (fun _ hr => zXS_iand X0.here hx rfl (hb hby at_3) rfl (zXS_iconst X0.here hx rfl (hb hby at_4) (zRW_iremM X0 hx rfl (hb hby at_5) rfl (by decide) (zXS_istoreN X0.here hx rfl (hb hby at_6) rfl (l' := #[.val (.int i0), .val (.int ((i0 &&& (2147483647 : Int32)) % (3 : Int32))), .unset, .unset, .unset, .unset]) rfl (zXS_iloadN X0.here hx rfl (hb hby at_7) rfl hr))))) ?_
  by_cases hc176 : ((i0 &&& (2147483647 : Int32)) % (3 : Int32)) = (0 : Int32)
  · refine Gl.go (fun _ hr => zXS_ifNo X0.here hx rfl (hb hby at_8) rfl (XT.i0_ne_f hc176) (zXS_bipush X0.here hx rfl (hb hby at_11) hr)) ?_
    refine gNewP Gl.cl X0 hx hZ (hw _ (List.mem_of_getElem? (i := 1) rfl)) e0 rfl (hb hby at_13) rfl (by decide) (cap := 12) (by decide) (by decide) (by decide) (by decide) ?_
    intro T177 h177 b177 k177 g177 X177 e177 E177 A177
    have z178 : h0.size ≤ h177.size := E177.1
    have lt177 := own_alt A177.lt
    have V177 : Arv Z h177 b177 k177 .char (12 : Int32) [(.int (0 : Int32)), (.int (0 : Int32)), (.int (0 : Int32)), (.int (0 : Int32)), (.int (0 : Int32)), (.int (0 : Int32)), (.int (0 : Int32)), (.int (0 : Int32)), (.int (0 : Int32)), (.int (0 : Int32)), (.int (0 : Int32)), (.int (0 : Int32))] (.int (0 : Int32)) := (Arv.new A177 (by decide)).pad (pad_rep [] (.int (0 : Int32)) 12)
    refine Gl.go (fun _ hr => zXS_dup X177.here hx rfl (hb hby at_15) rfl rfl (zXS_iconst X177.here hx rfl (hb hby at_16) (zXS_bipush X177.here hx rfl (hb hby at_17) hr))) ?_
    obtain ⟨c179, a179, q179, s179, m179, H179, U179⟩ := id V177
    refine gstC Gl.cl X177 hx hZ e177 a179 (j := (0 : Int32)) (inb_of s179 ⟨(by decide), (by decide)⟩) rfl rfl (hb hby at_19) ?_
    intro T179 h179 X179 e179 W179
    have z180 : h177.size ≤ h179.size := (Keep.of_wr W179).1
    have V179 : Arv Z h179 b177 k177 .char (12 : Int32) [(.int (97 : Int32)), (.int (0 : Int32)), (.int (0 : Int32)), (.int (0 : Int32)), (.int (0 : Int32)), (.int (0 : Int32)), (.int (0 : Int32)), (.int (0 : Int32)), (.int (0 : Int32)), (.int (0 : Int32)), (.int (0 : Int32)), (.int (0 : Int32))] (.int (0 : Int32)) := Arv.set a179 q179 s179 m179 H179 U179 rfl W179 0 rfl (Nat.le_of_ble_eq_true rfl)
    have N179 := Fr.snoc X179 N0 (own_ale (by omega))
    refine Gl.go (fun _ hr => zXS_dup X179.here hx rfl (hb hby at_20) rfl rfl (zXS_iconst X179.here hx rfl (hb hby at_21) (zXS_bipush X179.here hx rfl (hb hby at_22) hr))) ?_
    obtain ⟨c181, a181, q181, s181, m181, H181, U181⟩ := id V179
    refine gstC Gl.cl X179 hx hZ e179 a181 (j := (1 : Int32)) (inb_of s181 ⟨(by decide), (by decide)⟩) rfl rfl (hb hby at_24) ?_
    intro T181 h181 X181 e181 W181
    have z182 : h179.size ≤ h181.size := (Keep.of_wr W181).1
    have V181 : Arv Z h181 b177 k177 .char (12 : Int32) [(.int (97 : Int32)), (.int (115 : Int32)), (.int (0 : Int32)), (.int (0 : Int32)), (.int (0 : Int32)), (.int (0 : Int32)), (.int (0 : Int32)), (.int (0 : Int32)), (.int (0 : Int32)), (.int (0 : Int32)), (.int (0 : Int32)), (.int (0 : Int32))] (.int (0 : Int32)) := Arv.set a181 q181 s181 m181 H181 U181 rfl W181 1 rfl (Nat.le_of_ble_eq_true rfl)
    have N181 := Fr.snoc X181 N179 (own_ale (by omega))
    refine Gl.go (fun _ hr => zXS_dup X181.here hx rfl (hb hby at_25) rfl rfl (zXS_iconst X181.here hx rfl (hb hby at_26) (zXS_bipush X181.here hx rfl (hb hby at_27) hr))) ?_
    obtain ⟨c183, a183, q183, s183, m183, H183, U183⟩ := id V181
    refine gstC Gl.cl X181 hx hZ e181 a183 (j := (2 : Int32)) (inb_of s183 ⟨(by decide), (by decide)⟩) rfl rfl (hb hby at_29) ?_
    intro T183 h183 X183 e183 W183
    have z184 : h181.size ≤ h183.size := (Keep.of_wr W183).1
    have V183 : Arv Z h183 b177 k177 .char (12 : Int32) [(.int (97 : Int32)), (.int (115 : Int32)), (.int (121 : Int32)), (.int (0 : Int32)), (.int (0 : Int32)), (.int (0 : Int32)), (.int (0 : Int32)), (.int (0 : Int32)), (.int (0 : Int32)), (.int (0 : Int32)), (.int (0 : Int32)), (.int (0 : Int32))] (.int (0 : Int32)) := Arv.set a183 q183 s183 m183 H183 U183 rfl W183 2 rfl (Nat.le_of_ble_eq_true rfl)
    have N183 := Fr.snoc X183 N181 (own_ale (by omega))
    refine Gl.go (fun _ hr => zXS_dup X183.here hx rfl (hb hby at_30) rfl rfl (zXS_iconst X183.here hx rfl (hb hby at_31) (zXS_bipush X183.here hx rfl (hb hby at_32) hr))) ?_
    obtain ⟨c185, a185, q185, s185, m185, H185, U185⟩ := id V183
    refine gstC Gl.cl X183 hx hZ e183 a185 (j := (3 : Int32)) (inb_of s185 ⟨(by decide), (by decide)⟩) rfl rfl (hb hby at_34) ?_
    intro T185 h185 X185 e185 W185
    have z186 : h183.size ≤ h185.size := (Keep.of_wr W185).1
    have V185 : Arv Z h185 b177 k177 .char (12 : Int32) [(.int (97 : Int32)), (.int (115 : Int32)), (.int (121 : Int32)), (.int (110 : Int32)), (.int (0 : Int32)), (.int (0 : Int32)), (.int (0 : Int32)), (.int (0 : Int32)), (.int (0 : Int32)), (.int (0 : Int32)), (.int (0 : Int32)), (.int (0 : Int32))] (.int (0 : Int32)) := Arv.set a185 q185 s185 m185 H185 U185 rfl W185 3 rfl (Nat.le_of_ble_eq_true rfl)
    have N185 := Fr.snoc X185 N183 (own_ale (by omega))
    refine Gl.go (fun _ hr => zXS_dup X185.here hx rfl (hb hby at_35) rfl rfl (zXS_iconst X185.here hx rfl (hb hby at_36) (zXS_bipush X185.here hx rfl (hb hby at_37) hr))) ?_
    obtain ⟨c187, a187, q187, s187, m187, H187, U187⟩ := id V185
    refine gstC Gl.cl X185 hx hZ e185 a187 (j := (4 : Int32)) (inb_of s187 ⟨(by decide), (by decide)⟩) rfl rfl (hb hby at_39) ?_
    intro T187 h187 X187 e187 W187
    have z188 : h185.size ≤ h187.size := (Keep.of_wr W187).1
    have V187 : Arv Z h187 b177 k177 .char (12 : Int32) [(.int (97 : Int32)), (.int (115 : Int32)), (.int (121 : Int32)), (.int (110 : Int32)), (.int (99 : Int32)), (.int (0 : Int32)), (.int (0 : Int32)), (.int (0 : Int32)), (.int (0 : Int32)), (.int (0 : Int32)), (.int (0 : Int32)), (.int (0 : Int32))] (.int (0 : Int32)) := Arv.set a187 q187 s187 m187 H187 U187 rfl W187 4 rfl (Nat.le_of_ble_eq_true rfl)
    have N187 := Fr.snoc X187 N185 (own_ale (by omega))
    refine Gl.go (fun _ hr => zXS_dup X187.here hx rfl (hb hby at_40) rfl rfl (zXS_iconst X187.here hx rfl (hb hby at_41) (zXS_bipush X187.here hx rfl (hb hby at_42) hr))) ?_
    obtain ⟨c189, a189, q189, s189, m189, H189, U189⟩ := id V187
    refine gstC Gl.cl X187 hx hZ e187 a189 (j := (5 : Int32)) (inb_of s189 ⟨(by decide), (by decide)⟩) rfl rfl (hb hby at_44) ?_
    intro T189 h189 X189 e189 W189
    have z190 : h187.size ≤ h189.size := (Keep.of_wr W189).1
    have V189 : Arv Z h189 b177 k177 .char (12 : Int32) [(.int (97 : Int32)), (.int (115 : Int32)), (.int (121 : Int32)), (.int (110 : Int32)), (.int (99 : Int32)), (.int (95 : Int32)), (.int (0 : Int32)), (.int (0 : Int32)), (.int (0 : Int32)), (.int (0 : Int32)), (.int (0 : Int32)), (.int (0 : Int32))] (.int (0 : Int32)) := Arv.set a189 q189 s189 m189 H189 U189 rfl W189 5 rfl (Nat.le_of_ble_eq_true rfl)
    have N189 := Fr.snoc X189 N187 (own_ale (by omega))
    refine Gl.go (fun _ hr => zXS_dup X189.here hx rfl (hb hby at_45) rfl rfl (zXS_bipush X189.here hx rfl (hb hby at_46) (zXS_bipush X189.here hx rfl (hb hby at_48) hr))) ?_
    obtain ⟨c191, a191, q191, s191, m191, H191, U191⟩ := id V189
    refine gstC Gl.cl X189 hx hZ e189 a191 (j := (6 : Int32)) (inb_of s191 ⟨(by decide), (by decide)⟩) rfl rfl (hb hby at_50) ?_
    intro T191 h191 X191 e191 W191
    have z192 : h189.size ≤ h191.size := (Keep.of_wr W191).1
    have V191 : Arv Z h191 b177 k177 .char (12 : Int32) [(.int (97 : Int32)), (.int (115 : Int32)), (.int (121 : Int32)), (.int (110 : Int32)), (.int (99 : Int32)), (.int (95 : Int32)), (.int (100 : Int32)), (.int (0 : Int32)), (.int (0 : Int32)), (.int (0 : Int32)), (.int (0 : Int32)), (.int (0 : Int32))] (.int (0 : Int32)) := Arv.set a191 q191 s191 m191 H191 U191 rfl W191 6 rfl (Nat.le_of_ble_eq_true rfl)
    have N191 := Fr.snoc X191 N189 (own_ale (by omega))
    refine Gl.go (fun _ hr => zXS_dup X191.here hx rfl (hb hby at_51) rfl rfl (zXS_bipush X191.here hx rfl (hb hby at_52) (zXS_bipush X191.here hx rfl (hb hby at_54) hr))) ?_
    obtain ⟨c193, a193, q193, s193, m193, H193, U193⟩ := id V191
    refine gstC Gl.cl X191 hx hZ e191 a193 (j := (7 : Int32)) (inb_of s193 ⟨(by decide), (by decide)⟩) rfl rfl (hb hby at_56) ?_
    intro T193 h193 X193 e193 W193
    have z194 : h191.size ≤ h193.size := (Keep.of_wr W193).1
    have V193 : Arv Z h193 b177 k177 .char (12 : Int32) [(.int (97 : Int32)), (.int (115 : Int32)), (.int (121 : Int32)), (.int (110 : Int32)), (.int (99 : Int32)), (.int (95 : Int32)), (.int (100 : Int32)), (.int (101 : Int32)), (.int (0 : Int32)), (.int (0 : Int32)), (.int (0 : Int32)), (.int (0 : Int32))] (.int (0 : Int32)) := Arv.set a193 q193 s193 m193 H193 U193 rfl W193 7 rfl (Nat.le_of_ble_eq_true rfl)
    have N193 := Fr.snoc X193 N191 (own_ale (by omega))
    refine Gl.go (fun _ hr => zXS_dup X193.here hx rfl (hb hby at_57) rfl rfl (zXS_bipush X193.here hx rfl (hb hby at_58) (zXS_bipush X193.here hx rfl (hb hby at_60) hr))) ?_
    obtain ⟨c195, a195, q195, s195, m195, H195, U195⟩ := id V193
    refine gstC Gl.cl X193 hx hZ e193 a195 (j := (8 : Int32)) (inb_of s195 ⟨(by decide), (by decide)⟩) rfl rfl (hb hby at_62) ?_
    intro T195 h195 X195 e195 W195
    have z196 : h193.size ≤ h195.size := (Keep.of_wr W195).1
    have V195 : Arv Z h195 b177 k177 .char (12 : Int32) [(.int (97 : Int32)), (.int (115 : Int32)), (.int (121 : Int32)), (.int (110 : Int32)), (.int (99 : Int32)), (.int (95 : Int32)), (.int (100 : Int32)), (.int (101 : Int32)), (.int (108 : Int32)), (.int (0 : Int32)), (.int (0 : Int32)), (.int (0 : Int32))] (.int (0 : Int32)) := Arv.set a195 q195 s195 m195 H195 U195 rfl W195 8 rfl (Nat.le_of_ble_eq_true rfl)
    have N195 := Fr.snoc X195 N193 (own_ale (by omega))
    refine Gl.go (fun _ hr => zXS_dup X195.here hx rfl (hb hby at_63) rfl rfl (zXS_bipush X195.here hx rfl (hb hby at_64) (zXS_bipush X195.here hx rfl (hb hby at_66) hr))) ?_
    obtain ⟨c197, a197, q197, s197, m197, H197, U197⟩ := id V195
    refine gstC Gl.cl X195 hx hZ e195 a197 (j := (9 : Int32)) (inb_of s197 ⟨(by decide), (by decide)⟩) rfl rfl (hb hby at_68) ?_
    intro T197 h197 X197 e197 W197
    have z198 : h195.size ≤ h197.size := (Keep.of_wr W197).1
    have V197 : Arv Z h197 b177 k177 .char (12 : Int32) [(.int (97 : Int32)), (.int (115 : Int32)), (.int (121 : Int32)), (.int (110 : Int32)), (.int (99 : Int32)), (.int (95 : Int32)), (.int (100 : Int32)), (.int (101 : Int32)), (.int (108 : Int32)), (.int (101 : Int32)), (.int (0 : Int32)), (.int (0 : Int32))] (.int (0 : Int32)) := Arv.set a197 q197 s197 m197 H197 U197 rfl W197 9 rfl (Nat.le_of_ble_eq_true rfl)
    have N197 := Fr.snoc X197 N195 (own_ale (by omega))
    refine Gl.go (fun _ hr => zXS_dup X197.here hx rfl (hb hby at_69) rfl rfl (zXS_bipush X197.here hx rfl (hb hby at_70) (zXS_bipush X197.here hx rfl (hb hby at_72) hr))) ?_
    obtain ⟨c199, a199, q199, s199, m199, H199, U199⟩ := id V197
    refine gstC Gl.cl X197 hx hZ e197 a199 (j := (10 : Int32)) (inb_of s199 ⟨(by decide), (by decide)⟩) rfl rfl (hb hby at_74) ?_
    intro T199 h199 X199 e199 W199
    have z200 : h197.size ≤ h199.size := (Keep.of_wr W199).1
    have V199 : Arv Z h199 b177 k177 .char (12 : Int32) [(.int (97 : Int32)), (.int (115 : Int32)), (.int (121 : Int32)), (.int (110 : Int32)), (.int (99 : Int32)), (.int (95 : Int32)), (.int (100 : Int32)), (.int (101 : Int32)), (.int (108 : Int32)), (.int (101 : Int32)), (.int (116 : Int32)), (.int (0 : Int32))] (.int (0 : Int32)) := Arv.set a199 q199 s199 m199 H199 U199 rfl W199 10 rfl (Nat.le_of_ble_eq_true rfl)
    have N199 := Fr.snoc X199 N197 (own_ale (by omega))
    refine Gl.go (fun _ hr => zXS_dup X199.here hx rfl (hb hby at_75) rfl rfl (zXS_bipush X199.here hx rfl (hb hby at_76) (zXS_bipush X199.here hx rfl (hb hby at_78) hr))) ?_
    obtain ⟨c201, a201, q201, s201, m201, H201, U201⟩ := id V199
    refine gstC Gl.cl X199 hx hZ e199 a201 (j := (11 : Int32)) (inb_of s201 ⟨(by decide), (by decide)⟩) rfl rfl (hb hby at_80) ?_
    intro T201 h201 X201 e201 W201
    have z202 : h199.size ≤ h201.size := (Keep.of_wr W201).1
    have V201 : Arv Z h201 b177 k177 .char (12 : Int32) [(.int (97 : Int32)), (.int (115 : Int32)), (.int (121 : Int32)), (.int (110 : Int32)), (.int (99 : Int32)), (.int (95 : Int32)), (.int (100 : Int32)), (.int (101 : Int32)), (.int (108 : Int32)), (.int (101 : Int32)), (.int (116 : Int32)), (.int (101 : Int32))] (.int (0 : Int32)) := Arv.set a201 q201 s201 m201 H201 U201 rfl W201 11 rfl (Nat.le_of_ble_eq_true rfl)
    have N201 := Fr.snoc X201 N199 (own_ale (by omega))
    refine Gl.go (fun _ hr => zXS_astoreN X201.here hx rfl (hb hby at_81) rfl rfl (l' := #[.val (.int i0), .val (.int ((i0 &&& (2147483647 : Int32)) % (3 : Int32))), .val (.ref b177), .unset, .unset, .unset]) rfl hr) ?_
    have Oc204 := (((((((((((((q2.ext E177).wr W179 (own_ale (by omega))).wr W181 (own_ale (by omega))).wr W183 (own_ale (by omega))).wr W185 (own_ale (by omega))).wr W187 (own_ale (by omega))).wr W189 (own_ale (by omega))).wr W191 (own_ale (by omega))).wr W193 (own_ale (by omega))).wr W195 (own_ale (by omega))).wr W197 (own_ale (by omega))).wr W199 (own_ale (by omega))).wr W201 (own_ale (by omega)))
    refine gGetS (host := "") Gl.cl X201 hx hZ hown (Or.inl (hw _ (List.mem_of_getElem? (i := 2) rfl))) Via.refl e201 (q3.ext Oc204.2) rfl (hb hby at_82) ?_
    intro T203 X203 e203
    show Gl p.tables e below _ (T203.setTop (mkF m 85 #[.val (.int i0), .val (.int ((i0 &&& (2147483647 : Int32)) % (3 : Int32))), .val (.ref b177), .unset, .unset, .unset] [(.ref c0)]))
    refine Gl.go (fun _ hr => zXS_astoreN X203.here hx rfl (hb hby at_85) rfl rfl (l' := #[.val (.int i0), .val (.int ((i0 &&& (2147483647 : Int32)) % (3 : Int32))), .val (.ref b177), .val (.ref c0), .unset, .unset]) rfl (zXS_goto X203.here hx rfl (pc0 := 86) (pc' := 277) rfl (hb hby at_86) (by decide) (by decide) hr)) ?_
    refine gNew Gl.cl X203 hx hZ hown (hw _ (List.mem_of_getElem? (i := 5) rfl)) (hw _ (List.mem_of_getElem? (i := 6) rfl)) (hw _ (List.mem_of_getElem? (i := 7) rfl)) e203 rfl (hb hby at_277) (by decide) (by decide) ?_
    intro T205 h205 b205 g205 X205 e205 E205 A205 D205
    have z206 : h201.size ≤ h205.size := E205.1
    have lt205 := own_alt A205.lt
    have F205_coder : Fld Z h205 b205 "java/lang/String" "coder" "B" (.int (0 : Int32)) := D205 (Or.inr (hw _ (List.mem_of_getElem? (i := 31) rfl))) (ty := .byte) (by decide)
    have F205_value : Fld Z h205 b205 "java/lang/String" "value" "[B" .null := D205 (Or.inr (hw _ (List.mem_of_getElem? (i := 33) rfl))) (ty := (.array .byte)) (by decide)
    refine Gl.go (fun _ hr => zXS_dup X205.here hx rfl (hb hby at_280) rfl rfl (zXS_aloadN X205.here hx rfl (hb hby at_281) rfl rfl hr)) ?_
    have hp207 : ∀ c ∈ ([(97 : Int32), (115 : Int32), (121 : Int32), (110 : Int32), (99 : Int32), (95 : Int32), (100 : Int32), (101 : Int32), (108 : Int32), (101 : Int32), (116 : Int32), (101 : Int32)] : List Int32), Lat c := (own_cS (by decide) (own_cS (by decide) (own_cS (by decide) (own_cS (by decide) (own_cS (by decide) (own_cS (by decide) (own_cS (by decide) (own_cS (by decide) (own_cS (by decide) (own_cS (by decide) (own_cS (by decide) (own_cS (by decide) own_c0))))))))))))
    have Vc208 := (V201.ext E205)
    have Oc209 := (Oc204.ext E205)
    refine gSpecialN Gl.cl (y := (⟨"java/lang/String", "<init>", "([C)V"⟩ : MethodName)) (b := b205) (argsL := [(.ref b177)]) (rest := [(.ref b205)]) (mc := 1) (ms := 12) X205 hx hZ hown rfl (mvT hZ (hw _ (List.mem_of_getElem? (i := 8) rfl))) (mvT hZ (hw _ (List.mem_of_getElem? (i := 9) rfl))) (mvT hZ (hw _ (List.mem_of_getElem? (i := 10) rfl))) (by decide) (StrChars.Road.backV (W := 1) hZ hws (kI := 4) (hw _ (List.mem_of_getElem? (i := 6) rfl)) (cs := ([(97 : Int32), (115 : Int32), (121 : Int32), (110 : Int32), (99 : Int32), (95 : Int32), (100 : Int32), (101 : Int32), (108 : Int32), (101 : Int32), (116 : Int32), (101 : Int32)] : List Int32)) (bs := ([(97 : Int32), (115 : Int32), (121 : Int32), (110 : Int32), (99 : Int32), (95 : Int32), (100 : Int32), (101 : Int32), (108 : Int32), (101 : Int32), (116 : Int32), (101 : Int32)] : List Int32).map (fun c => c.toInt8.toInt32)) (n := 12) (n0 := n0) (by omega) (by omega) A205 F205_value F205_coder Vc208 (q0.ext Oc209.2) P5 rfl rfl (by decide) (by decide) hp207 rfl (by decide) (by decide)) rfl (by rw [hml]; rfl) (lenOf pd_3 rfl) rfl (by show 2 * 0 + _ ≤ _; exact Nat.le_of_eq rfl) (hb hby at_282) rfl e205 (by decide) (by decide) ?_
    intro v207 T207 Lc207 hQ207 X207
    obtain ⟨rfl, Nq207, K207, f207_E, f207_C, t207, kb207, g207_0, g207_1, g207_2, f207_V, f207_A⟩ := hQ207
    have z210 : h205.size ≤ T207.heap.size := K207.1
    have N207 := Fr.app N201 Nq207
    have lt211 := own_alt f207_E.lt
    have lt212 := own_alt f207_C.lt
    have lt213 := own_alt f207_V.lt
    have lt214 := own_alt f207_A.lt
    have hcd207 : StrChars.Road.CodA ([(97 : Int32), (115 : Int32), (121 : Int32), (110 : Int32), (99 : Int32), (95 : Int32), (100 : Int32), (101 : Int32), (108 : Int32), (101 : Int32), (116 : Int32), (101 : Int32)] : List Int32) 0 (12 : Int32) ((([(97 : Int32), (115 : Int32), (121 : Int32), (110 : Int32), (99 : Int32), (95 : Int32), (100 : Int32), (101 : Int32), (108 : Int32), (101 : Int32), (116 : Int32), (101 : Int32)] : List Int32).map (fun c => c.toInt8.toInt32)).map Value.int) := StrChars.Road.codOf (n := 12) rfl (fun c hc => (hp207 c hc).2)
    have hbd207 : ∀ c ∈ ([(97 : Int32), (115 : Int32), (121 : Int32), (110 : Int32), (99 : Int32), (95 : Int32), (100 : Int32), (101 : Int32), (108 : Int32), (101 : Int32), (116 : Int32), (101 : Int32)] : List Int32), Wid c := own_up hp207
    refine Gl.go (fun _ hr => zXS_astore X207.here hx rfl (hb hby at_285) rfl rfl (l' := #[.val (.int i0), .val (.int ((i0 &&& (2147483647 : Int32)) % (3 : Int32))), .val (.ref b177), .val (.ref c0), .val (.ref b205), .unset]) rfl (zXS_aload X207.here hx rfl (hb hby at_287) rfl rfl hr)) ?_
    have Oc216 := (Oc209.keep K207 (allS (own_ale (by omega)) all0))
    have zz215 : n0 ≤ T207.heap.size := by omega
    refine gStaticS Gl.cl (y := (⟨"com/example/frist/frist/OnDeleteAction", "fromKey", "(Ljava/lang/String;)Lcom/example/frist/frist/OnDeleteAction;"⟩ : MethodName)) (argsL := [(.ref b205)]) (rest := []) (mc := 3) (ms := 19) X207 hx hZ hS0 (by have q := hk0; omega) hown (mvT hZ (hw _ (List.mem_of_getElem? (i := 34) rfl))) (mvT hZ (hw _ (List.mem_of_getElem? (i := 35) rfl))) (mvT hZ (hw _ (List.mem_of_getElem? (i := 3) rfl))) (mvT hZ (hw _ (List.mem_of_getElem? (i := 36) rfl))) (by decide) (backOfS (W := 0) (of0 l Z a0 hw [] b205 t207 kb207 G1 ar ka c0 c1 c2 l0 t0 kb0 l1 t1 kb1 l2 t2 kb2 T207.heap n0 zz215 q0 (by assumption) Oc216 f207_E f207_V f207_C f207_A q6 q7 q8 q9 q10 q11 q12 q13 q14 q15 q16 q17 q18 q19 q20 q21 q22 q23 q24 q25 q26) hZ (hw _ (List.mem_of_getElem? (i := 36) rfl)) (hw _ (List.mem_of_getElem? (i := 3) rfl)) (by decide) (by decide)) rfl (by rw [hml]; rfl) (lenOf pd_4 rfl) rfl (by show 2 * 0 + _ ≤ _; exact Nat.le_of_eq rfl) (hb hby at_289) rfl (rfl : T207.heap = T207.heap) (by decide) (by decide) ?_
    intro v215 T215 Lc215 hQ215 X215 hS215 hZ215 hown215 hk215
    obtain ⟨rfl, Nq215, K215⟩ := hQ215
    have z217 : T207.heap.size ≤ T215.heap.size := K215.1
    have N215 := Fr.app N207 Nq215
    refine Gl.go (fun _ hr => zXS_astore X215.here hx rfl (hb hby at_292) rfl rfl (l' := #[.val (.int i0), .val (.int ((i0 &&& (2147483647 : Int32)) % (3 : Int32))), .val (.ref b177), .val (.ref c0), .val (.ref b205), .val (.ref c0)]) rfl (zXS_aload X215.here hx rfl (hb hby at_294) rfl rfl (zXS_aloadN X215.here hx rfl (hb hby at_296) rfl rfl hr))) ?_
    refine Gl.go (fun _ hr => zXT_acmpNo X215.here hx rfl (hb hby at_297) rfl rfl rfl (XT.aa_ne_f rfl) (zXS_aload X215.here hx rfl (hb hby at_300) rfl rfl hr)) ?_
    have Oc219 := (Oc216.keep K215 all0)
    have zz218 : n0 ≤ T215.heap.size := by omega
    refine gVirtualN Gl.cl (y := (⟨"com/example/frist/frist/OnDeleteAction", "key", "()Ljava/lang/String;"⟩ : MethodName)) (z := (⟨"com/example/frist/frist/OnDeleteAction", "key", "()Ljava/lang/String;"⟩ : MethodName)) (b := c0) (argsL := []) (rest := []) (mc := 0) (ms := 0) X215 hx hZ215 hown215 (mvT hZ215 (hw _ (List.mem_of_getElem? (i := 73) rfl))) (mvT hZ215 (hw _ (List.mem_of_getElem? (i := 74) rfl))) (notFace_of_selects (args := #[]) (mvT hZ215 (hw _ (List.mem_of_getElem? (i := 76) rfl)))) (mvT hZ215 (hw _ (List.mem_of_getElem? (i := 76) rfl))) (mvT hZ215 (hw _ (List.mem_of_getElem? (i := 75) rfl))) (by decide) (q9.ext Oc219.2) (backOf (W := 0) (lab l Z a0 hw [] c0 l0 T215.heap n0 zz218 (q10.ext Oc219.2)) hZ215 (hw _ (List.mem_of_getElem? (i := 77) rfl)) (hw _ (List.mem_of_getElem? (i := 3) rfl)) (by decide) (by decide)) rfl (by rw [hml]; rfl) (lenOf pd_5 rfl) rfl (by show 2 * 0 + _ ≤ _; exact Nat.le_of_eq rfl) (hb hby at_302) rfl (rfl : T215.heap = T215.heap) (by decide) (by decide) ?_
    intro v218 T218 Lc218 hQ218 X218
    obtain ⟨rfl, Nq218, e218⟩ := hQ218
    have N218 := Fr.app N215 Nq218
    refine Gl.go (fun _ hr => zXS_aload X218.here hx rfl (hb hby at_305) rfl rfl hr) ?_
    have Ec221 := (f207_E.keep K215)
    have Fc222 := (f207_V.keep K215 nin0)
    have Fc223 := (f207_C.keep K215 nin0)
    have Vc224 := (f207_A.keep K215 nin0)
    refine gVirtualN Gl.cl (y := (⟨"java/lang/String", "equals", "(Ljava/lang/Object;)Z"⟩ : MethodName)) (z := (⟨"java/lang/String", "equals", "(Ljava/lang/Object;)Z"⟩ : MethodName)) (b := l0) (argsL := [(.ref b205)]) (rest := []) (mc := 0) (ms := 0) (Q := fun v h' L => ((v = some (.int 1) ∧ ([(97 : Int32), (115 : Int32), (121 : Int32), (110 : Int32), (99 : Int32), (95 : Int32), (100 : Int32), (101 : Int32), (108 : Int32), (101 : Int32), (116 : Int32), (101 : Int32)] : List Int32) = ([(97 : Int32), (115 : Int32), (121 : Int32), (110 : Int32), (99 : Int32), (95 : Int32), (100 : Int32), (101 : Int32), (108 : Int32), (101 : Int32), (116 : Int32), (101 : Int32)] : List Int32)) ∨ (v = some (.int 0) ∧ ¬ ([(97 : Int32), (115 : Int32), (121 : Int32), (110 : Int32), (99 : Int32), (95 : Int32), (100 : Int32), (101 : Int32), (108 : Int32), (101 : Int32), (116 : Int32), (101 : Int32)] : List Int32) = ([(97 : Int32), (115 : Int32), (121 : Int32), (110 : Int32), (99 : Int32), (95 : Int32), (100 : Int32), (101 : Int32), (108 : Int32), (101 : Int32), (116 : Int32), (101 : Int32)] : List Int32))) ∧ L = [] ∧ h' = T215.heap) X218 hx hZ215 hown215 (mvT hZ215 (hw _ (List.mem_of_getElem? (i := 78) rfl))) (mvT hZ215 (hw _ (List.mem_of_getElem? (i := 64) rfl))) (notFace_of_selects (args := #[]) (mvT hZ215 (hw _ (List.mem_of_getElem? (i := 66) rfl)))) (mvT hZ215 (hw _ (List.mem_of_getElem? (i := 66) rfl))) (mvT hZ215 (hw _ (List.mem_of_getElem? (i := 65) rfl))) (by decide) (q11.ext Oc219.2) (StrChars.Road.eqW (W := 0) hZ215 heq (kI := 4) (hw _ (List.mem_of_getElem? (i := 6) rfl)) (q11.ext Oc219.2) (q12.ext Oc219.2) (q13.ext Oc219.2) (q14.ext Oc219.2) hcd173 hbd173 (Nat.le_of_ble_eq_true rfl) Ec221 Fc222 Fc223 Vc224 hcd207 hbd207 (Nat.le_of_ble_eq_true rfl) (q0.ext Oc219.2) P5 (by decide) (by decide)) rfl (by rw [hml]; rfl) (lenOf pd_2 rfl) rfl (by show 2 * 0 + _ ≤ _; exact Nat.le_of_eq rfl) (hb hby at_307) rfl e218 (by decide) (by decide) ?_
    intro v220 T220 Lc220 hQ220 X220
    obtain ⟨hca220, rfl, e220⟩ := hQ220
    have N220 := own_fr_nil N218
    have hv220 : _ = some (Value.int 1) := hca220.elim (fun q => q.1) (fun q => absurd rfl q.2)
    subst hv220
    refine Gl.go (fun _ hr => zXS_ifNo X220.here hx rfl (hb hby at_310) rfl (XT.i0_eq_f (by decide)) (zXS_iconst X220.here hx rfl (hb hby at_313) (zXS_goto X220.here hx rfl (pc0 := 314) (pc' := 318) rfl (hb hby at_314) (by decide) (by decide) hr))) ?_
    obtain ⟨fs, hr, hrun, hended, hE⟩ := X220.leaveW hS215 (by have q := congrArg Array.size e220; have q2 := hk215; omega) (v := some (.int (1 : Int32))) (fun h => by rw [Bd.returns] at h; cases h)
    refine ⟨_, _, retN X220 hx (t := .boolean) Bd.returns (by simp) (hb hby at_318) hr, hrun, hended, _, _, rfl, ?_, ⟨hE.1, hE.2.1, hE.2.2.1, hE.2.2.2.mono (by decide) (by decide)⟩⟩
    show Qlawrm Z i0 G1 ar ka c0 c1 c2 l0 t0 kb0 l1 t1 kb1 l2 t2 kb2 h0 n0 _ T220.heap _
    rw [e220]
    exact ⟨rfl, N220, (((((((((((((((((Keep.refl h0 []).ext E177).wr W179 (Or.inr (own_ale (by omega)))).wr W181 (Or.inr (own_ale (by omega)))).wr W183 (Or.inr (own_ale (by omega)))).wr W185 (Or.inr (own_ale (by omega)))).wr W187 (Or.inr (own_ale (by omega)))).wr W189 (Or.inr (own_ale (by omega)))).wr W191 (Or.inr (own_ale (by omega)))).wr W193 (Or.inr (own_ale (by omega)))).wr W195 (Or.inr (own_ale (by omega)))).wr W197 (Or.inr (own_ale (by omega)))).wr W199 (Or.inr (own_ale (by omega)))).wr W201 (Or.inr (own_ale (by omega)))).ext E205).trans K207 (allS (P := fun x_ => x_ ∈ ([] : List Addr) ∨ h0.size ≤ x_) (Or.inr (own_ale (by omega))) all0)).trans K215 all0)⟩
  · refine Gl.go (fun _ hr => zXS_ifYes X0.here hx rfl (pc0 := 8) (pc' := 89) rfl (hb hby at_8) rfl (XT.i0_ne_t hc176) (by decide) (by decide) (zXS_iloadN X0.here hx rfl (hb hby at_89) rfl (zXS_iconst X0.here hx rfl (hb hby at_90) hr))) ?_
    by_cases hc225 : ((i0 &&& (2147483647 : Int32)) % (3 : Int32)) = (1 : Int32)
    · refine Gl.go (fun _ hr => zXS_icmpNo X0.here hx rfl (hb hby at_91) rfl (XT.ii_ne_f hc225) (zXS_bipush X0.here hx rfl (hb hby at_94) hr)) ?_
      refine gNewP Gl.cl X0 hx hZ (hw _ (List.mem_of_getElem? (i := 1) rfl)) e0 rfl (hb hby at_96) rfl (by decide) (cap := 13) (by decide) (by decide) (by decide) (by decide) ?_
      intro T226 h226 b226 k226 g226 X226 e226 E226 A226
      have z227 : h0.size ≤ h226.size := E226.1
      have lt226 := own_alt A226.lt
      have V226 : Arv Z h226 b226 k226 .char (13 : Int32) [(.int (0 : Int32)), (.int (0 : Int32)), (.int (0 : Int32)), (.int (0 : Int32)), (.int (0 : Int32)), (.int (0 : Int32)), (.int (0 : Int32)), (.int (0 : Int32)), (.int (0 : Int32)), (.int (0 : Int32)), (.int (0 : Int32)), (.int (0 : Int32)), (.int (0 : Int32))] (.int (0 : Int32)) := (Arv.new A226 (by decide)).pad (pad_rep [] (.int (0 : Int32)) 13)
      refine Gl.go (fun _ hr => zXS_dup X226.here hx rfl (hb hby at_98) rfl rfl (zXS_iconst X226.here hx rfl (hb hby at_99) (zXS_bipush X226.here hx rfl (hb hby at_100) hr))) ?_
      obtain ⟨c228, a228, q228, s228, m228, H228, U228⟩ := id V226
      refine gstC Gl.cl X226 hx hZ e226 a228 (j := (0 : Int32)) (inb_of s228 ⟨(by decide), (by decide)⟩) rfl rfl (hb hby at_102) ?_
      intro T228 h228 X228 e228 W228
      have z229 : h226.size ≤ h228.size := (Keep.of_wr W228).1
      have V228 : Arv Z h228 b226 k226 .char (13 : Int32) [(.int (97 : Int32)), (.int (0 : Int32)), (.int (0 : Int32)), (.int (0 : Int32)), (.int (0 : Int32)), (.int (0 : Int32)), (.int (0 : Int32)), (.int (0 : Int32)), (.int (0 : Int32)), (.int (0 : Int32)), (.int (0 : Int32)), (.int (0 : Int32)), (.int (0 : Int32))] (.int (0 : Int32)) := Arv.set a228 q228 s228 m228 H228 U228 rfl W228 0 rfl (Nat.le_of_ble_eq_true rfl)
      have N228 := Fr.snoc X228 N0 (own_ale (by omega))
      refine Gl.go (fun _ hr => zXS_dup X228.here hx rfl (hb hby at_103) rfl rfl (zXS_iconst X228.here hx rfl (hb hby at_104) (zXS_bipush X228.here hx rfl (hb hby at_105) hr))) ?_
      obtain ⟨c230, a230, q230, s230, m230, H230, U230⟩ := id V228
      refine gstC Gl.cl X228 hx hZ e228 a230 (j := (1 : Int32)) (inb_of s230 ⟨(by decide), (by decide)⟩) rfl rfl (hb hby at_107) ?_
      intro T230 h230 X230 e230 W230
      have z231 : h228.size ≤ h230.size := (Keep.of_wr W230).1
      have V230 : Arv Z h230 b226 k226 .char (13 : Int32) [(.int (97 : Int32)), (.int (115 : Int32)), (.int (0 : Int32)), (.int (0 : Int32)), (.int (0 : Int32)), (.int (0 : Int32)), (.int (0 : Int32)), (.int (0 : Int32)), (.int (0 : Int32)), (.int (0 : Int32)), (.int (0 : Int32)), (.int (0 : Int32)), (.int (0 : Int32))] (.int (0 : Int32)) := Arv.set a230 q230 s230 m230 H230 U230 rfl W230 1 rfl (Nat.le_of_ble_eq_true rfl)
      have N230 := Fr.snoc X230 N228 (own_ale (by omega))
      refine Gl.go (fun _ hr => zXS_dup X230.here hx rfl (hb hby at_108) rfl rfl (zXS_iconst X230.here hx rfl (hb hby at_109) (zXS_bipush X230.here hx rfl (hb hby at_110) hr))) ?_
      obtain ⟨c232, a232, q232, s232, m232, H232, U232⟩ := id V230
      refine gstC Gl.cl X230 hx hZ e230 a232 (j := (2 : Int32)) (inb_of s232 ⟨(by decide), (by decide)⟩) rfl rfl (hb hby at_112) ?_
      intro T232 h232 X232 e232 W232
      have z233 : h230.size ≤ h232.size := (Keep.of_wr W232).1
      have V232 : Arv Z h232 b226 k226 .char (13 : Int32) [(.int (97 : Int32)), (.int (115 : Int32)), (.int (121 : Int32)), (.int (0 : Int32)), (.int (0 : Int32)), (.int (0 : Int32)), (.int (0 : Int32)), (.int (0 : Int32)), (.int (0 : Int32)), (.int (0 : Int32)), (.int (0 : Int32)), (.int (0 : Int32)), (.int (0 : Int32))] (.int (0 : Int32)) := Arv.set a232 q232 s232 m232 H232 U232 rfl W232 2 rfl (Nat.le_of_ble_eq_true rfl)
      have N232 := Fr.snoc X232 N230 (own_ale (by omega))
      refine Gl.go (fun _ hr => zXS_dup X232.here hx rfl (hb hby at_113) rfl rfl (zXS_iconst X232.here hx rfl (hb hby at_114) (zXS_bipush X232.here hx rfl (hb hby at_115) hr))) ?_
      obtain ⟨c234, a234, q234, s234, m234, H234, U234⟩ := id V232
      refine gstC Gl.cl X232 hx hZ e232 a234 (j := (3 : Int32)) (inb_of s234 ⟨(by decide), (by decide)⟩) rfl rfl (hb hby at_117) ?_
      intro T234 h234 X234 e234 W234
      have z235 : h232.size ≤ h234.size := (Keep.of_wr W234).1
      have V234 : Arv Z h234 b226 k226 .char (13 : Int32) [(.int (97 : Int32)), (.int (115 : Int32)), (.int (121 : Int32)), (.int (110 : Int32)), (.int (0 : Int32)), (.int (0 : Int32)), (.int (0 : Int32)), (.int (0 : Int32)), (.int (0 : Int32)), (.int (0 : Int32)), (.int (0 : Int32)), (.int (0 : Int32)), (.int (0 : Int32))] (.int (0 : Int32)) := Arv.set a234 q234 s234 m234 H234 U234 rfl W234 3 rfl (Nat.le_of_ble_eq_true rfl)
      have N234 := Fr.snoc X234 N232 (own_ale (by omega))
      refine Gl.go (fun _ hr => zXS_dup X234.here hx rfl (hb hby at_118) rfl rfl (zXS_iconst X234.here hx rfl (hb hby at_119) (zXS_bipush X234.here hx rfl (hb hby at_120) hr))) ?_
      obtain ⟨c236, a236, q236, s236, m236, H236, U236⟩ := id V234
      refine gstC Gl.cl X234 hx hZ e234 a236 (j := (4 : Int32)) (inb_of s236 ⟨(by decide), (by decide)⟩) rfl rfl (hb hby at_122) ?_
      intro T236 h236 X236 e236 W236
      have z237 : h234.size ≤ h236.size := (Keep.of_wr W236).1
      have V236 : Arv Z h236 b226 k226 .char (13 : Int32) [(.int (97 : Int32)), (.int (115 : Int32)), (.int (121 : Int32)), (.int (110 : Int32)), (.int (99 : Int32)), (.int (0 : Int32)), (.int (0 : Int32)), (.int (0 : Int32)), (.int (0 : Int32)), (.int (0 : Int32)), (.int (0 : Int32)), (.int (0 : Int32)), (.int (0 : Int32))] (.int (0 : Int32)) := Arv.set a236 q236 s236 m236 H236 U236 rfl W236 4 rfl (Nat.le_of_ble_eq_true rfl)
      have N236 := Fr.snoc X236 N234 (own_ale (by omega))
      refine Gl.go (fun _ hr => zXS_dup X236.here hx rfl (hb hby at_123) rfl rfl (zXS_iconst X236.here hx rfl (hb hby at_124) (zXS_bipush X236.here hx rfl (hb hby at_125) hr))) ?_
      obtain ⟨c238, a238, q238, s238, m238, H238, U238⟩ := id V236
      refine gstC Gl.cl X236 hx hZ e236 a238 (j := (5 : Int32)) (inb_of s238 ⟨(by decide), (by decide)⟩) rfl rfl (hb hby at_127) ?_
      intro T238 h238 X238 e238 W238
      have z239 : h236.size ≤ h238.size := (Keep.of_wr W238).1
      have V238 : Arv Z h238 b226 k226 .char (13 : Int32) [(.int (97 : Int32)), (.int (115 : Int32)), (.int (121 : Int32)), (.int (110 : Int32)), (.int (99 : Int32)), (.int (95 : Int32)), (.int (0 : Int32)), (.int (0 : Int32)), (.int (0 : Int32)), (.int (0 : Int32)), (.int (0 : Int32)), (.int (0 : Int32)), (.int (0 : Int32))] (.int (0 : Int32)) := Arv.set a238 q238 s238 m238 H238 U238 rfl W238 5 rfl (Nat.le_of_ble_eq_true rfl)
      have N238 := Fr.snoc X238 N236 (own_ale (by omega))
      refine Gl.go (fun _ hr => zXS_dup X238.here hx rfl (hb hby at_128) rfl rfl (zXS_bipush X238.here hx rfl (hb hby at_129) (zXS_bipush X238.here hx rfl (hb hby at_131) hr))) ?_
      obtain ⟨c240, a240, q240, s240, m240, H240, U240⟩ := id V238
      refine gstC Gl.cl X238 hx hZ e238 a240 (j := (6 : Int32)) (inb_of s240 ⟨(by decide), (by decide)⟩) rfl rfl (hb hby at_133) ?_
      intro T240 h240 X240 e240 W240
      have z241 : h238.size ≤ h240.size := (Keep.of_wr W240).1
      have V240 : Arv Z h240 b226 k226 .char (13 : Int32) [(.int (97 : Int32)), (.int (115 : Int32)), (.int (121 : Int32)), (.int (110 : Int32)), (.int (99 : Int32)), (.int (95 : Int32)), (.int (110 : Int32)), (.int (0 : Int32)), (.int (0 : Int32)), (.int (0 : Int32)), (.int (0 : Int32)), (.int (0 : Int32)), (.int (0 : Int32))] (.int (0 : Int32)) := Arv.set a240 q240 s240 m240 H240 U240 rfl W240 6 rfl (Nat.le_of_ble_eq_true rfl)
      have N240 := Fr.snoc X240 N238 (own_ale (by omega))
      refine Gl.go (fun _ hr => zXS_dup X240.here hx rfl (hb hby at_134) rfl rfl (zXS_bipush X240.here hx rfl (hb hby at_135) (zXS_bipush X240.here hx rfl (hb hby at_137) hr))) ?_
      obtain ⟨c242, a242, q242, s242, m242, H242, U242⟩ := id V240
      refine gstC Gl.cl X240 hx hZ e240 a242 (j := (7 : Int32)) (inb_of s242 ⟨(by decide), (by decide)⟩) rfl rfl (hb hby at_139) ?_
      intro T242 h242 X242 e242 W242
      have z243 : h240.size ≤ h242.size := (Keep.of_wr W242).1
      have V242 : Arv Z h242 b226 k226 .char (13 : Int32) [(.int (97 : Int32)), (.int (115 : Int32)), (.int (121 : Int32)), (.int (110 : Int32)), (.int (99 : Int32)), (.int (95 : Int32)), (.int (110 : Int32)), (.int (117 : Int32)), (.int (0 : Int32)), (.int (0 : Int32)), (.int (0 : Int32)), (.int (0 : Int32)), (.int (0 : Int32))] (.int (0 : Int32)) := Arv.set a242 q242 s242 m242 H242 U242 rfl W242 7 rfl (Nat.le_of_ble_eq_true rfl)
      have N242 := Fr.snoc X242 N240 (own_ale (by omega))
      refine Gl.go (fun _ hr => zXS_dup X242.here hx rfl (hb hby at_140) rfl rfl (zXS_bipush X242.here hx rfl (hb hby at_141) (zXS_bipush X242.here hx rfl (hb hby at_143) hr))) ?_
      obtain ⟨c244, a244, q244, s244, m244, H244, U244⟩ := id V242
      refine gstC Gl.cl X242 hx hZ e242 a244 (j := (8 : Int32)) (inb_of s244 ⟨(by decide), (by decide)⟩) rfl rfl (hb hby at_145) ?_
      intro T244 h244 X244 e244 W244
      have z245 : h242.size ≤ h244.size := (Keep.of_wr W244).1
      have V244 : Arv Z h244 b226 k226 .char (13 : Int32) [(.int (97 : Int32)), (.int (115 : Int32)), (.int (121 : Int32)), (.int (110 : Int32)), (.int (99 : Int32)), (.int (95 : Int32)), (.int (110 : Int32)), (.int (117 : Int32)), (.int (108 : Int32)), (.int (0 : Int32)), (.int (0 : Int32)), (.int (0 : Int32)), (.int (0 : Int32))] (.int (0 : Int32)) := Arv.set a244 q244 s244 m244 H244 U244 rfl W244 8 rfl (Nat.le_of_ble_eq_true rfl)
      have N244 := Fr.snoc X244 N242 (own_ale (by omega))
      refine Gl.go (fun _ hr => zXS_dup X244.here hx rfl (hb hby at_146) rfl rfl (zXS_bipush X244.here hx rfl (hb hby at_147) (zXS_bipush X244.here hx rfl (hb hby at_149) hr))) ?_
      obtain ⟨c246, a246, q246, s246, m246, H246, U246⟩ := id V244
      refine gstC Gl.cl X244 hx hZ e244 a246 (j := (9 : Int32)) (inb_of s246 ⟨(by decide), (by decide)⟩) rfl rfl (hb hby at_151) ?_
      intro T246 h246 X246 e246 W246
      have z247 : h244.size ≤ h246.size := (Keep.of_wr W246).1
      have V246 : Arv Z h246 b226 k226 .char (13 : Int32) [(.int (97 : Int32)), (.int (115 : Int32)), (.int (121 : Int32)), (.int (110 : Int32)), (.int (99 : Int32)), (.int (95 : Int32)), (.int (110 : Int32)), (.int (117 : Int32)), (.int (108 : Int32)), (.int (108 : Int32)), (.int (0 : Int32)), (.int (0 : Int32)), (.int (0 : Int32))] (.int (0 : Int32)) := Arv.set a246 q246 s246 m246 H246 U246 rfl W246 9 rfl (Nat.le_of_ble_eq_true rfl)
      have N246 := Fr.snoc X246 N244 (own_ale (by omega))
      refine Gl.go (fun _ hr => zXS_dup X246.here hx rfl (hb hby at_152) rfl rfl (zXS_bipush X246.here hx rfl (hb hby at_153) (zXS_bipush X246.here hx rfl (hb hby at_155) hr))) ?_
      obtain ⟨c248, a248, q248, s248, m248, H248, U248⟩ := id V246
      refine gstC Gl.cl X246 hx hZ e246 a248 (j := (10 : Int32)) (inb_of s248 ⟨(by decide), (by decide)⟩) rfl rfl (hb hby at_157) ?_
      intro T248 h248 X248 e248 W248
      have z249 : h246.size ≤ h248.size := (Keep.of_wr W248).1
      have V248 : Arv Z h248 b226 k226 .char (13 : Int32) [(.int (97 : Int32)), (.int (115 : Int32)), (.int (121 : Int32)), (.int (110 : Int32)), (.int (99 : Int32)), (.int (95 : Int32)), (.int (110 : Int32)), (.int (117 : Int32)), (.int (108 : Int32)), (.int (108 : Int32)), (.int (105 : Int32)), (.int (0 : Int32)), (.int (0 : Int32))] (.int (0 : Int32)) := Arv.set a248 q248 s248 m248 H248 U248 rfl W248 10 rfl (Nat.le_of_ble_eq_true rfl)
      have N248 := Fr.snoc X248 N246 (own_ale (by omega))
      refine Gl.go (fun _ hr => zXS_dup X248.here hx rfl (hb hby at_158) rfl rfl (zXS_bipush X248.here hx rfl (hb hby at_159) (zXS_bipush X248.here hx rfl (hb hby at_161) hr))) ?_
      show Gl p.tables e below _ (T248.setTop (mkF m 163 #[.val (.int i0), .val (.int ((i0 &&& (2147483647 : Int32)) % (3 : Int32))), .unset, .unset, .unset, .unset] [(.int (102 : Int32)), (.int (11 : Int32)), (.ref b226), (.ref b226)]))
      obtain ⟨c250, a250, q250, s250, m250, H250, U250⟩ := id V248
      refine gstC Gl.cl X248 hx hZ e248 a250 (j := (11 : Int32)) (inb_of s250 ⟨(by decide), (by decide)⟩) rfl rfl (hb hby at_163) ?_
      intro T250 h250 X250 e250 W250
      have z251 : h248.size ≤ h250.size := (Keep.of_wr W250).1
      have V250 : Arv Z h250 b226 k226 .char (13 : Int32) [(.int (97 : Int32)), (.int (115 : Int32)), (.int (121 : Int32)), (.int (110 : Int32)), (.int (99 : Int32)), (.int (95 : Int32)), (.int (110 : Int32)), (.int (117 : Int32)), (.int (108 : Int32)), (.int (108 : Int32)), (.int (105 : Int32)), (.int (102 : Int32)), (.int (0 : Int32))] (.int (0 : Int32)) := Arv.set a250 q250 s250 m250 H250 U250 rfl W250 11 rfl (Nat.le_of_ble_eq_true rfl)
      have N250 := Fr.snoc X250 N248 (own_ale (by omega))
      refine Gl.go (fun _ hr => zXS_dup X250.here hx rfl (hb hby at_164) rfl rfl (zXS_bipush X250.here hx rfl (hb hby at_165) (zXS_bipush X250.here hx rfl (hb hby at_167) hr))) ?_
      obtain ⟨c252, a252, q252, s252, m252, H252, U252⟩ := id V250
      refine gstC Gl.cl X250 hx hZ e250 a252 (j := (12 : Int32)) (inb_of s252 ⟨(by decide), (by decide)⟩) rfl rfl (hb hby at_169) ?_
      intro T252 h252 X252 e252 W252
      have z253 : h250.size ≤ h252.size := (Keep.of_wr W252).1
      have V252 : Arv Z h252 b226 k226 .char (13 : Int32) [(.int (97 : Int32)), (.int (115 : Int32)), (.int (121 : Int32)), (.int (110 : Int32)), (.int (99 : Int32)), (.int (95 : Int32)), (.int (110 : Int32)), (.int (117 : Int32)), (.int (108 : Int32)), (.int (108 : Int32)), (.int (105 : Int32)), (.int (102 : Int32)), (.int (121 : Int32))] (.int (0 : Int32)) := Arv.set a252 q252 s252 m252 H252 U252 rfl W252 12 rfl (Nat.le_of_ble_eq_true rfl)
      have N252 := Fr.snoc X252 N250 (own_ale (by omega))
      refine Gl.go (fun _ hr => zXS_astoreN X252.here hx rfl (hb hby at_170) rfl rfl (l' := #[.val (.int i0), .val (.int ((i0 &&& (2147483647 : Int32)) % (3 : Int32))), .val (.ref b226), .unset, .unset, .unset]) rfl hr) ?_
      have Oc255 := ((((((((((((((q2.ext E226).wr W228 (own_ale (by omega))).wr W230 (own_ale (by omega))).wr W232 (own_ale (by omega))).wr W234 (own_ale (by omega))).wr W236 (own_ale (by omega))).wr W238 (own_ale (by omega))).wr W240 (own_ale (by omega))).wr W242 (own_ale (by omega))).wr W244 (own_ale (by omega))).wr W246 (own_ale (by omega))).wr W248 (own_ale (by omega))).wr W250 (own_ale (by omega))).wr W252 (own_ale (by omega)))
      refine gGetS (host := "") Gl.cl X252 hx hZ hown (Or.inl (hw _ (List.mem_of_getElem? (i := 80) rfl))) Via.refl e252 (q4.ext Oc255.2) rfl (hb hby at_171) ?_
      intro T254 X254 e254
      refine Gl.go (fun _ hr => zXS_astoreN X254.here hx rfl (hb hby at_174) rfl rfl (l' := #[.val (.int i0), .val (.int ((i0 &&& (2147483647 : Int32)) % (3 : Int32))), .val (.ref b226), .val (.ref c1), .unset, .unset]) rfl (zXS_goto X254.here hx rfl (pc0 := 175) (pc' := 277) rfl (hb hby at_175) (by decide) (by decide) hr)) ?_
      refine gNew Gl.cl X254 hx hZ hown (hw _ (List.mem_of_getElem? (i := 5) rfl)) (hw _ (List.mem_of_getElem? (i := 6) rfl)) (hw _ (List.mem_of_getElem? (i := 7) rfl)) e254 rfl (hb hby at_277) (by decide) (by decide) ?_
      intro T256 h256 b256 g256 X256 e256 E256 A256 D256
      have z257 : h252.size ≤ h256.size := E256.1
      have lt256 := own_alt A256.lt
      have F256_coder : Fld Z h256 b256 "java/lang/String" "coder" "B" (.int (0 : Int32)) := D256 (Or.inr (hw _ (List.mem_of_getElem? (i := 31) rfl))) (ty := .byte) (by decide)
      have F256_value : Fld Z h256 b256 "java/lang/String" "value" "[B" .null := D256 (Or.inr (hw _ (List.mem_of_getElem? (i := 33) rfl))) (ty := (.array .byte)) (by decide)
      refine Gl.go (fun _ hr => zXS_dup X256.here hx rfl (hb hby at_280) rfl rfl (zXS_aloadN X256.here hx rfl (hb hby at_281) rfl rfl hr)) ?_
      have hp258 : ∀ c ∈ ([(97 : Int32), (115 : Int32), (121 : Int32), (110 : Int32), (99 : Int32), (95 : Int32), (110 : Int32), (117 : Int32), (108 : Int32), (108 : Int32), (105 : Int32), (102 : Int32), (121 : Int32)] : List Int32), Lat c := (own_cS (by decide) (own_cS (by decide) (own_cS (by decide) (own_cS (by decide) (own_cS (by decide) (own_cS (by decide) (own_cS (by decide) (own_cS (by decide) (own_cS (by decide) (own_cS (by decide) (own_cS (by decide) (own_cS (by decide) (own_cS (by decide) own_c0)))))))))))))
      have Vc259 := (V252.ext E256)
      have Oc260 := (Oc255.ext E256)
      refine gSpecialN Gl.cl (y := (⟨"java/lang/String", "<init>", "([C)V"⟩ : MethodName)) (b := b256) (argsL := [(.ref b226)]) (rest := [(.ref b256)]) (mc := 1) (ms := 13) X256 hx hZ hown rfl (mvT hZ (hw _ (List.mem_of_getElem? (i := 8) rfl))) (mvT hZ (hw _ (List.mem_of_getElem? (i := 9) rfl))) (mvT hZ (hw _ (List.mem_of_getElem? (i := 10) rfl))) (by decide) (StrChars.Road.backV (W := 1) hZ hws (kI := 4) (hw _ (List.mem_of_getElem? (i := 6) rfl)) (cs := ([(97 : Int32), (115 : Int32), (121 : Int32), (110 : Int32), (99 : Int32), (95 : Int32), (110 : Int32), (117 : Int32), (108 : Int32), (108 : Int32), (105 : Int32), (102 : Int32), (121 : Int32)] : List Int32)) (bs := ([(97 : Int32), (115 : Int32), (121 : Int32), (110 : Int32), (99 : Int32), (95 : Int32), (110 : Int32), (117 : Int32), (108 : Int32), (108 : Int32), (105 : Int32), (102 : Int32), (121 : Int32)] : List Int32).map (fun c => c.toInt8.toInt32)) (n := 13) (n0 := n0) (by omega) (by omega) A256 F256_value F256_coder Vc259 (q0.ext Oc260.2) P5 rfl rfl (by decide) (by decide) hp258 rfl (by decide) (by decide)) rfl (by rw [hml]; rfl) (lenOf pd_3 rfl) rfl (by show 2 * 0 + _ ≤ _; exact Nat.le_of_eq rfl) (hb hby at_282) rfl e256 (by decide) (by decide) ?_
      intro v258 T258 Lc258 hQ258 X258
      obtain ⟨rfl, Nq258, K258, f258_E, f258_C, t258, kb258, g258_0, g258_1, g258_2, f258_V, f258_A⟩ := hQ258
      have z261 : h256.size ≤ T258.heap.size := K258.1
      have N258 := Fr.app N252 Nq258
      have lt262 := own_alt f258_E.lt
      have lt263 := own_alt f258_C.lt
      have lt264 := own_alt f258_V.lt
      have lt265 := own_alt f258_A.lt
      have hcd258 : StrChars.Road.CodA ([(97 : Int32), (115 : Int32), (121 : Int32), (110 : Int32), (99 : Int32), (95 : Int32), (110 : Int32), (117 : Int32), (108 : Int32), (108 : Int32), (105 : Int32), (102 : Int32), (121 : Int32)] : List Int32) 0 (13 : Int32) ((([(97 : Int32), (115 : Int32), (121 : Int32), (110 : Int32), (99 : Int32), (95 : Int32), (110 : Int32), (117 : Int32), (108 : Int32), (108 : Int32), (105 : Int32), (102 : Int32), (121 : Int32)] : List Int32).map (fun c => c.toInt8.toInt32)).map Value.int) := StrChars.Road.codOf (n := 13) rfl (fun c hc => (hp258 c hc).2)
      have hbd258 : ∀ c ∈ ([(97 : Int32), (115 : Int32), (121 : Int32), (110 : Int32), (99 : Int32), (95 : Int32), (110 : Int32), (117 : Int32), (108 : Int32), (108 : Int32), (105 : Int32), (102 : Int32), (121 : Int32)] : List Int32), Wid c := own_up hp258
      refine Gl.go (fun _ hr => zXS_astore X258.here hx rfl (hb hby at_285) rfl rfl (l' := #[.val (.int i0), .val (.int ((i0 &&& (2147483647 : Int32)) % (3 : Int32))), .val (.ref b226), .val (.ref c1), .val (.ref b256), .unset]) rfl (zXS_aload X258.here hx rfl (hb hby at_287) rfl rfl hr)) ?_
      have Oc267 := (Oc260.keep K258 (allS (own_ale (by omega)) all0))
      have zz266 : n0 ≤ T258.heap.size := by omega
      refine gStaticS Gl.cl (y := (⟨"com/example/frist/frist/OnDeleteAction", "fromKey", "(Ljava/lang/String;)Lcom/example/frist/frist/OnDeleteAction;"⟩ : MethodName)) (argsL := [(.ref b256)]) (rest := []) (mc := 3) (ms := 19) X258 hx hZ hS0 (by have q := hk0; omega) hown (mvT hZ (hw _ (List.mem_of_getElem? (i := 34) rfl))) (mvT hZ (hw _ (List.mem_of_getElem? (i := 35) rfl))) (mvT hZ (hw _ (List.mem_of_getElem? (i := 3) rfl))) (mvT hZ (hw _ (List.mem_of_getElem? (i := 36) rfl))) (by decide) (backOfS (W := 0) (of1 l Z a0 hw [] b256 t258 kb258 G1 ar ka c0 c1 c2 l0 t0 kb0 l1 t1 kb1 l2 t2 kb2 T258.heap n0 zz266 q0 (by assumption) Oc267 f258_E f258_V f258_C f258_A q6 q7 q8 q9 q10 q11 q12 q13 q14 q15 q16 q17 q18 q19 q20 q21 q22 q23 q24 q25 q26) hZ (hw _ (List.mem_of_getElem? (i := 36) rfl)) (hw _ (List.mem_of_getElem? (i := 3) rfl)) (by decide) (by decide)) rfl (by rw [hml]; rfl) (lenOf pd_4 rfl) rfl (by show 2 * 0 + _ ≤ _; exact Nat.le_of_eq rfl) (hb hby at_289) rfl (rfl : T258.heap = T258.heap) (by decide) (by decide) ?_
      intro v266 T266 Lc266 hQ266 X266 hS266 hZ266 hown266 hk266
      obtain ⟨rfl, Nq266, K266⟩ := hQ266
      have z268 : T258.heap.size ≤ T266.heap.size := K266.1
      have N266 := Fr.app N258 Nq266
      refine Gl.go (fun _ hr => zXS_astore X266.here hx rfl (hb hby at_292) rfl rfl (l' := #[.val (.int i0), .val (.int ((i0 &&& (2147483647 : Int32)) % (3 : Int32))), .val (.ref b226), .val (.ref c1), .val (.ref b256), .val (.ref c1)]) rfl (zXS_aload X266.here hx rfl (hb hby at_294) rfl rfl (zXS_aloadN X266.here hx rfl (hb hby at_296) rfl rfl hr))) ?_
      refine Gl.go (fun _ hr => zXT_acmpNo X266.here hx rfl (hb hby at_297) rfl rfl rfl (XT.aa_ne_f rfl) (zXS_aload X266.here hx rfl (hb hby at_300) rfl rfl hr)) ?_
      have Oc270 := (Oc267.keep K266 all0)
      have zz269 : n0 ≤ T266.heap.size := by omega
      refine gVirtualN Gl.cl (y := (⟨"com/example/frist/frist/OnDeleteAction", "key", "()Ljava/lang/String;"⟩ : MethodName)) (z := (⟨"com/example/frist/frist/OnDeleteAction", "key", "()Ljava/lang/String;"⟩ : MethodName)) (b := c1) (argsL := []) (rest := []) (mc := 0) (ms := 0) X266 hx hZ266 hown266 (mvT hZ266 (hw _ (List.mem_of_getElem? (i := 73) rfl))) (mvT hZ266 (hw _ (List.mem_of_getElem? (i := 74) rfl))) (notFace_of_selects (args := #[]) (mvT hZ266 (hw _ (List.mem_of_getElem? (i := 76) rfl)))) (mvT hZ266 (hw _ (List.mem_of_getElem? (i := 76) rfl))) (mvT hZ266 (hw _ (List.mem_of_getElem? (i := 75) rfl))) (by decide) (q15.ext Oc270.2) (backOf (W := 0) (lab l Z a0 hw [] c1 l1 T266.heap n0 zz269 (q16.ext Oc270.2)) hZ266 (hw _ (List.mem_of_getElem? (i := 77) rfl)) (hw _ (List.mem_of_getElem? (i := 3) rfl)) (by decide) (by decide)) rfl (by rw [hml]; rfl) (lenOf pd_5 rfl) rfl (by show 2 * 0 + _ ≤ _; exact Nat.le_of_eq rfl) (hb hby at_302) rfl (rfl : T266.heap = T266.heap) (by decide) (by decide) ?_
      intro v269 T269 Lc269 hQ269 X269
      obtain ⟨rfl, Nq269, e269⟩ := hQ269
      have N269 := Fr.app N266 Nq269
      refine Gl.go (fun _ hr => zXS_aload X269.here hx rfl (hb hby at_305) rfl rfl hr) ?_
      have Ec272 := (f258_E.keep K266)
      have Fc273 := (f258_V.keep K266 nin0)
      have Fc274 := (f258_C.keep K266 nin0)
      have Vc275 := (f258_A.keep K266 nin0)
      refine gVirtualN Gl.cl (y := (⟨"java/lang/String", "equals", "(Ljava/lang/Object;)Z"⟩ : MethodName)) (z := (⟨"java/lang/String", "equals", "(Ljava/lang/Object;)Z"⟩ : MethodName)) (b := l1) (argsL := [(.ref b256)]) (rest := []) (mc := 0) (ms := 0) (Q := fun v h' L => ((v = some (.int 1) ∧ ([(97 : Int32), (115 : Int32), (121 : Int32), (110 : Int32), (99 : Int32), (95 : Int32), (110 : Int32), (117 : Int32), (108 : Int32), (108 : Int32), (105 : Int32), (102 : Int32), (121 : Int32)] : List Int32) = ([(97 : Int32), (115 : Int32), (121 : Int32), (110 : Int32), (99 : Int32), (95 : Int32), (110 : Int32), (117 : Int32), (108 : Int32), (108 : Int32), (105 : Int32), (102 : Int32), (121 : Int32)] : List Int32)) ∨ (v = some (.int 0) ∧ ¬ ([(97 : Int32), (115 : Int32), (121 : Int32), (110 : Int32), (99 : Int32), (95 : Int32), (110 : Int32), (117 : Int32), (108 : Int32), (108 : Int32), (105 : Int32), (102 : Int32), (121 : Int32)] : List Int32) = ([(97 : Int32), (115 : Int32), (121 : Int32), (110 : Int32), (99 : Int32), (95 : Int32), (110 : Int32), (117 : Int32), (108 : Int32), (108 : Int32), (105 : Int32), (102 : Int32), (121 : Int32)] : List Int32))) ∧ L = [] ∧ h' = T266.heap) X269 hx hZ266 hown266 (mvT hZ266 (hw _ (List.mem_of_getElem? (i := 78) rfl))) (mvT hZ266 (hw _ (List.mem_of_getElem? (i := 64) rfl))) (notFace_of_selects (args := #[]) (mvT hZ266 (hw _ (List.mem_of_getElem? (i := 66) rfl)))) (mvT hZ266 (hw _ (List.mem_of_getElem? (i := 66) rfl))) (mvT hZ266 (hw _ (List.mem_of_getElem? (i := 65) rfl))) (by decide) (q17.ext Oc270.2) (StrChars.Road.eqW (W := 0) hZ266 heq (kI := 4) (hw _ (List.mem_of_getElem? (i := 6) rfl)) (q17.ext Oc270.2) (q18.ext Oc270.2) (q19.ext Oc270.2) (q20.ext Oc270.2) hcd174 hbd174 (Nat.le_of_ble_eq_true rfl) Ec272 Fc273 Fc274 Vc275 hcd258 hbd258 (Nat.le_of_ble_eq_true rfl) (q0.ext Oc270.2) P5 (by decide) (by decide)) rfl (by rw [hml]; rfl) (lenOf pd_2 rfl) rfl (by show 2 * 0 + _ ≤ _; exact Nat.le_of_eq rfl) (hb hby at_307) rfl e269 (by decide) (by decide) ?_
      intro v271 T271 Lc271 hQ271 X271
      obtain ⟨hca271, rfl, e271⟩ := hQ271
      have N271 := own_fr_nil N269
      have hv271 : _ = some (Value.int 1) := hca271.elim (fun q => q.1) (fun q => absurd rfl q.2)
      subst hv271
      refine Gl.go (fun _ hr => zXS_ifNo X271.here hx rfl (hb hby at_310) rfl (XT.i0_eq_f (by decide)) (zXS_iconst X271.here hx rfl (hb hby at_313) (zXS_goto X271.here hx rfl (pc0 := 314) (pc' := 318) rfl (hb hby at_314) (by decide) (by decide) hr))) ?_
      obtain ⟨fs, hr, hrun, hended, hE⟩ := X271.leaveW hS266 (by have q := congrArg Array.size e271; have q2 := hk266; omega) (v := some (.int (1 : Int32))) (fun h => by rw [Bd.returns] at h; cases h)
      refine ⟨_, _, retN X271 hx (t := .boolean) Bd.returns (by simp) (hb hby at_318) hr, hrun, hended, _, _, rfl, ?_, ⟨hE.1, hE.2.1, hE.2.2.1, hE.2.2.2.mono (by decide) (by decide)⟩⟩
      show Qlawrm Z i0 G1 ar ka c0 c1 c2 l0 t0 kb0 l1 t1 kb1 l2 t2 kb2 h0 n0 _ T271.heap _
      rw [e271]
      exact ⟨rfl, N271, ((((((((((((((((((Keep.refl h0 []).ext E226).wr W228 (Or.inr (own_ale (by omega)))).wr W230 (Or.inr (own_ale (by omega)))).wr W232 (Or.inr (own_ale (by omega)))).wr W234 (Or.inr (own_ale (by omega)))).wr W236 (Or.inr (own_ale (by omega)))).wr W238 (Or.inr (own_ale (by omega)))).wr W240 (Or.inr (own_ale (by omega)))).wr W242 (Or.inr (own_ale (by omega)))).wr W244 (Or.inr (own_ale (by omega)))).wr W246 (Or.inr (own_ale (by omega)))).wr W248 (Or.inr (own_ale (by omega)))).wr W250 (Or.inr (own_ale (by omega)))).wr W252 (Or.inr (own_ale (by omega)))).ext E256).trans K258 (allS (P := fun x_ => x_ ∈ ([] : List Addr) ∨ h0.size ≤ x_) (Or.inr (own_ale (by omega))) all0)).trans K266 all0)⟩
    · refine Gl.go (fun _ hr => zXS_icmpYes X0.here hx rfl (pc0 := 91) (pc' := 178) rfl (hb hby at_91) rfl (XT.ii_ne_t hc225) (by decide) (by decide) (zXS_bipush X0.here hx rfl (hb hby at_178) hr)) ?_
      refine gNewP Gl.cl X0 hx hZ (hw _ (List.mem_of_getElem? (i := 1) rfl)) e0 rfl (hb hby at_180) rfl (by decide) (cap := 16) (by decide) (by decide) (by decide) (by decide) ?_
      intro T276 h276 b276 k276 g276 X276 e276 E276 A276
      have z277 : h0.size ≤ h276.size := E276.1
      have lt276 := own_alt A276.lt
      have V276 : Arv Z h276 b276 k276 .char (16 : Int32) [(.int (0 : Int32)), (.int (0 : Int32)), (.int (0 : Int32)), (.int (0 : Int32)), (.int (0 : Int32)), (.int (0 : Int32)), (.int (0 : Int32)), (.int (0 : Int32)), (.int (0 : Int32)), (.int (0 : Int32)), (.int (0 : Int32)), (.int (0 : Int32)), (.int (0 : Int32)), (.int (0 : Int32)), (.int (0 : Int32)), (.int (0 : Int32))] (.int (0 : Int32)) := (Arv.new A276 (by decide)).pad (pad_rep [] (.int (0 : Int32)) 16)
      refine Gl.go (fun _ hr => zXS_dup X276.here hx rfl (hb hby at_182) rfl rfl (zXS_iconst X276.here hx rfl (hb hby at_183) (zXS_bipush X276.here hx rfl (hb hby at_184) hr))) ?_
      obtain ⟨c278, a278, q278, s278, m278, H278, U278⟩ := id V276
      refine gstC Gl.cl X276 hx hZ e276 a278 (j := (0 : Int32)) (inb_of s278 ⟨(by decide), (by decide)⟩) rfl rfl (hb hby at_186) ?_
      intro T278 h278 X278 e278 W278
      have z279 : h276.size ≤ h278.size := (Keep.of_wr W278).1
      have V278 : Arv Z h278 b276 k276 .char (16 : Int32) [(.int (117 : Int32)), (.int (0 : Int32)), (.int (0 : Int32)), (.int (0 : Int32)), (.int (0 : Int32)), (.int (0 : Int32)), (.int (0 : Int32)), (.int (0 : Int32)), (.int (0 : Int32)), (.int (0 : Int32)), (.int (0 : Int32)), (.int (0 : Int32)), (.int (0 : Int32)), (.int (0 : Int32)), (.int (0 : Int32)), (.int (0 : Int32))] (.int (0 : Int32)) := Arv.set a278 q278 s278 m278 H278 U278 rfl W278 0 rfl (Nat.le_of_ble_eq_true rfl)
      have N278 := Fr.snoc X278 N0 (own_ale (by omega))
      refine Gl.go (fun _ hr => zXS_dup X278.here hx rfl (hb hby at_187) rfl rfl (zXS_iconst X278.here hx rfl (hb hby at_188) (zXS_bipush X278.here hx rfl (hb hby at_189) hr))) ?_
      obtain ⟨c280, a280, q280, s280, m280, H280, U280⟩ := id V278
      refine gstC Gl.cl X278 hx hZ e278 a280 (j := (1 : Int32)) (inb_of s280 ⟨(by decide), (by decide)⟩) rfl rfl (hb hby at_191) ?_
      intro T280 h280 X280 e280 W280
      have z281 : h278.size ≤ h280.size := (Keep.of_wr W280).1
      have V280 : Arv Z h280 b276 k276 .char (16 : Int32) [(.int (117 : Int32)), (.int (112 : Int32)), (.int (0 : Int32)), (.int (0 : Int32)), (.int (0 : Int32)), (.int (0 : Int32)), (.int (0 : Int32)), (.int (0 : Int32)), (.int (0 : Int32)), (.int (0 : Int32)), (.int (0 : Int32)), (.int (0 : Int32)), (.int (0 : Int32)), (.int (0 : Int32)), (.int (0 : Int32)), (.int (0 : Int32))] (.int (0 : Int32)) := Arv.set a280 q280 s280 m280 H280 U280 rfl W280 1 rfl (Nat.le_of_ble_eq_true rfl)
      have N280 := Fr.snoc X280 N278 (own_ale (by omega))
      refine Gl.go (fun _ hr => zXS_dup X280.here hx rfl (hb hby at_192) rfl rfl (zXS_iconst X280.here hx rfl (hb hby at_193) (zXS_bipush X280.here hx rfl (hb hby at_194) hr))) ?_
      obtain ⟨c282, a282, q282, s282, m282, H282, U282⟩ := id V280
      refine gstC Gl.cl X280 hx hZ e280 a282 (j := (2 : Int32)) (inb_of s282 ⟨(by decide), (by decide)⟩) rfl rfl (hb hby at_196) ?_
      intro T282 h282 X282 e282 W282
      have z283 : h280.size ≤ h282.size := (Keep.of_wr W282).1
      have V282 : Arv Z h282 b276 k276 .char (16 : Int32) [(.int (117 : Int32)), (.int (112 : Int32)), (.int (100 : Int32)), (.int (0 : Int32)), (.int (0 : Int32)), (.int (0 : Int32)), (.int (0 : Int32)), (.int (0 : Int32)), (.int (0 : Int32)), (.int (0 : Int32)), (.int (0 : Int32)), (.int (0 : Int32)), (.int (0 : Int32)), (.int (0 : Int32)), (.int (0 : Int32)), (.int (0 : Int32))] (.int (0 : Int32)) := Arv.set a282 q282 s282 m282 H282 U282 rfl W282 2 rfl (Nat.le_of_ble_eq_true rfl)
      have N282 := Fr.snoc X282 N280 (own_ale (by omega))
      refine Gl.go (fun _ hr => zXS_dup X282.here hx rfl (hb hby at_197) rfl rfl (zXS_iconst X282.here hx rfl (hb hby at_198) (zXS_bipush X282.here hx rfl (hb hby at_199) hr))) ?_
      obtain ⟨c284, a284, q284, s284, m284, H284, U284⟩ := id V282
      refine gstC Gl.cl X282 hx hZ e282 a284 (j := (3 : Int32)) (inb_of s284 ⟨(by decide), (by decide)⟩) rfl rfl (hb hby at_201) ?_
      intro T284 h284 X284 e284 W284
      have z285 : h282.size ≤ h284.size := (Keep.of_wr W284).1
      have V284 : Arv Z h284 b276 k276 .char (16 : Int32) [(.int (117 : Int32)), (.int (112 : Int32)), (.int (100 : Int32)), (.int (97 : Int32)), (.int (0 : Int32)), (.int (0 : Int32)), (.int (0 : Int32)), (.int (0 : Int32)), (.int (0 : Int32)), (.int (0 : Int32)), (.int (0 : Int32)), (.int (0 : Int32)), (.int (0 : Int32)), (.int (0 : Int32)), (.int (0 : Int32)), (.int (0 : Int32))] (.int (0 : Int32)) := Arv.set a284 q284 s284 m284 H284 U284 rfl W284 3 rfl (Nat.le_of_ble_eq_true rfl)
      have N284 := Fr.snoc X284 N282 (own_ale (by omega))
      refine Gl.go (fun _ hr => zXS_dup X284.here hx rfl (hb hby at_202) rfl rfl (zXS_iconst X284.here hx rfl (hb hby at_203) (zXS_bipush X284.here hx rfl (hb hby at_204) hr))) ?_
      obtain ⟨c286, a286, q286, s286, m286, H286, U286⟩ := id V284
      refine gstC Gl.cl X284 hx hZ e284 a286 (j := (4 : Int32)) (inb_of s286 ⟨(by decide), (by decide)⟩) rfl rfl (hb hby at_206) ?_
      intro T286 h286 X286 e286 W286
      have z287 : h284.size ≤ h286.size := (Keep.of_wr W286).1
      have V286 : Arv Z h286 b276 k276 .char (16 : Int32) [(.int (117 : Int32)), (.int (112 : Int32)), (.int (100 : Int32)), (.int (97 : Int32)), (.int (116 : Int32)), (.int (0 : Int32)), (.int (0 : Int32)), (.int (0 : Int32)), (.int (0 : Int32)), (.int (0 : Int32)), (.int (0 : Int32)), (.int (0 : Int32)), (.int (0 : Int32)), (.int (0 : Int32)), (.int (0 : Int32)), (.int (0 : Int32))] (.int (0 : Int32)) := Arv.set a286 q286 s286 m286 H286 U286 rfl W286 4 rfl (Nat.le_of_ble_eq_true rfl)
      have N286 := Fr.snoc X286 N284 (own_ale (by omega))
      refine Gl.go (fun _ hr => zXS_dup X286.here hx rfl (hb hby at_207) rfl rfl (zXS_iconst X286.here hx rfl (hb hby at_208) (zXS_bipush X286.here hx rfl (hb hby at_209) hr))) ?_
      obtain ⟨c288, a288, q288, s288, m288, H288, U288⟩ := id V286
      refine gstC Gl.cl X286 hx hZ e286 a288 (j := (5 : Int32)) (inb_of s288 ⟨(by decide), (by decide)⟩) rfl rfl (hb hby at_211) ?_
      intro T288 h288 X288 e288 W288
      have z289 : h286.size ≤ h288.size := (Keep.of_wr W288).1
      have V288 : Arv Z h288 b276 k276 .char (16 : Int32) [(.int (117 : Int32)), (.int (112 : Int32)), (.int (100 : Int32)), (.int (97 : Int32)), (.int (116 : Int32)), (.int (101 : Int32)), (.int (0 : Int32)), (.int (0 : Int32)), (.int (0 : Int32)), (.int (0 : Int32)), (.int (0 : Int32)), (.int (0 : Int32)), (.int (0 : Int32)), (.int (0 : Int32)), (.int (0 : Int32)), (.int (0 : Int32))] (.int (0 : Int32)) := Arv.set a288 q288 s288 m288 H288 U288 rfl W288 5 rfl (Nat.le_of_ble_eq_true rfl)
      have N288 := Fr.snoc X288 N286 (own_ale (by omega))
      refine Gl.go (fun _ hr => zXS_dup X288.here hx rfl (hb hby at_212) rfl rfl (zXS_bipush X288.here hx rfl (hb hby at_213) (zXS_bipush X288.here hx rfl (hb hby at_215) hr))) ?_
      obtain ⟨c290, a290, q290, s290, m290, H290, U290⟩ := id V288
      refine gstC Gl.cl X288 hx hZ e288 a290 (j := (6 : Int32)) (inb_of s290 ⟨(by decide), (by decide)⟩) rfl rfl (hb hby at_217) ?_
      intro T290 h290 X290 e290 W290
      have z291 : h288.size ≤ h290.size := (Keep.of_wr W290).1
      have V290 : Arv Z h290 b276 k276 .char (16 : Int32) [(.int (117 : Int32)), (.int (112 : Int32)), (.int (100 : Int32)), (.int (97 : Int32)), (.int (116 : Int32)), (.int (101 : Int32)), (.int (95 : Int32)), (.int (0 : Int32)), (.int (0 : Int32)), (.int (0 : Int32)), (.int (0 : Int32)), (.int (0 : Int32)), (.int (0 : Int32)), (.int (0 : Int32)), (.int (0 : Int32)), (.int (0 : Int32))] (.int (0 : Int32)) := Arv.set a290 q290 s290 m290 H290 U290 rfl W290 6 rfl (Nat.le_of_ble_eq_true rfl)
      have N290 := Fr.snoc X290 N288 (own_ale (by omega))
      refine Gl.go (fun _ hr => zXS_dup X290.here hx rfl (hb hby at_218) rfl rfl (zXS_bipush X290.here hx rfl (hb hby at_219) (zXS_bipush X290.here hx rfl (hb hby at_221) hr))) ?_
      obtain ⟨c292, a292, q292, s292, m292, H292, U292⟩ := id V290
      refine gstC Gl.cl X290 hx hZ e290 a292 (j := (7 : Int32)) (inb_of s292 ⟨(by decide), (by decide)⟩) rfl rfl (hb hby at_223) ?_
      intro T292 h292 X292 e292 W292
      have z293 : h290.size ≤ h292.size := (Keep.of_wr W292).1
      have V292 : Arv Z h292 b276 k276 .char (16 : Int32) [(.int (117 : Int32)), (.int (112 : Int32)), (.int (100 : Int32)), (.int (97 : Int32)), (.int (116 : Int32)), (.int (101 : Int32)), (.int (95 : Int32)), (.int (99 : Int32)), (.int (0 : Int32)), (.int (0 : Int32)), (.int (0 : Int32)), (.int (0 : Int32)), (.int (0 : Int32)), (.int (0 : Int32)), (.int (0 : Int32)), (.int (0 : Int32))] (.int (0 : Int32)) := Arv.set a292 q292 s292 m292 H292 U292 rfl W292 7 rfl (Nat.le_of_ble_eq_true rfl)
      have N292 := Fr.snoc X292 N290 (own_ale (by omega))
      refine Gl.go (fun _ hr => zXS_dup X292.here hx rfl (hb hby at_224) rfl rfl (zXS_bipush X292.here hx rfl (hb hby at_225) (zXS_bipush X292.here hx rfl (hb hby at_227) hr))) ?_
      obtain ⟨c294, a294, q294, s294, m294, H294, U294⟩ := id V292
      refine gstC Gl.cl X292 hx hZ e292 a294 (j := (8 : Int32)) (inb_of s294 ⟨(by decide), (by decide)⟩) rfl rfl (hb hby at_229) ?_
      intro T294 h294 X294 e294 W294
      have z295 : h292.size ≤ h294.size := (Keep.of_wr W294).1
      have V294 : Arv Z h294 b276 k276 .char (16 : Int32) [(.int (117 : Int32)), (.int (112 : Int32)), (.int (100 : Int32)), (.int (97 : Int32)), (.int (116 : Int32)), (.int (101 : Int32)), (.int (95 : Int32)), (.int (99 : Int32)), (.int (111 : Int32)), (.int (0 : Int32)), (.int (0 : Int32)), (.int (0 : Int32)), (.int (0 : Int32)), (.int (0 : Int32)), (.int (0 : Int32)), (.int (0 : Int32))] (.int (0 : Int32)) := Arv.set a294 q294 s294 m294 H294 U294 rfl W294 8 rfl (Nat.le_of_ble_eq_true rfl)
      have N294 := Fr.snoc X294 N292 (own_ale (by omega))
      refine Gl.go (fun _ hr => zXS_dup X294.here hx rfl (hb hby at_230) rfl rfl (zXS_bipush X294.here hx rfl (hb hby at_231) (zXS_bipush X294.here hx rfl (hb hby at_233) hr))) ?_
      obtain ⟨c296, a296, q296, s296, m296, H296, U296⟩ := id V294
      refine gstC Gl.cl X294 hx hZ e294 a296 (j := (9 : Int32)) (inb_of s296 ⟨(by decide), (by decide)⟩) rfl rfl (hb hby at_235) ?_
      intro T296 h296 X296 e296 W296
      have z297 : h294.size ≤ h296.size := (Keep.of_wr W296).1
      have V296 : Arv Z h296 b276 k276 .char (16 : Int32) [(.int (117 : Int32)), (.int (112 : Int32)), (.int (100 : Int32)), (.int (97 : Int32)), (.int (116 : Int32)), (.int (101 : Int32)), (.int (95 : Int32)), (.int (99 : Int32)), (.int (111 : Int32)), (.int (108 : Int32)), (.int (0 : Int32)), (.int (0 : Int32)), (.int (0 : Int32)), (.int (0 : Int32)), (.int (0 : Int32)), (.int (0 : Int32))] (.int (0 : Int32)) := Arv.set a296 q296 s296 m296 H296 U296 rfl W296 9 rfl (Nat.le_of_ble_eq_true rfl)
      have N296 := Fr.snoc X296 N294 (own_ale (by omega))
      refine Gl.go (fun _ hr => zXS_dup X296.here hx rfl (hb hby at_236) rfl rfl (zXS_bipush X296.here hx rfl (hb hby at_237) (zXS_bipush X296.here hx rfl (hb hby at_239) hr))) ?_
      obtain ⟨c298, a298, q298, s298, m298, H298, U298⟩ := id V296
      refine gstC Gl.cl X296 hx hZ e296 a298 (j := (10 : Int32)) (inb_of s298 ⟨(by decide), (by decide)⟩) rfl rfl (hb hby at_241) ?_
      intro T298 h298 X298 e298 W298
      have z299 : h296.size ≤ h298.size := (Keep.of_wr W298).1
      have V298 : Arv Z h298 b276 k276 .char (16 : Int32) [(.int (117 : Int32)), (.int (112 : Int32)), (.int (100 : Int32)), (.int (97 : Int32)), (.int (116 : Int32)), (.int (101 : Int32)), (.int (95 : Int32)), (.int (99 : Int32)), (.int (111 : Int32)), (.int (108 : Int32)), (.int (117 : Int32)), (.int (0 : Int32)), (.int (0 : Int32)), (.int (0 : Int32)), (.int (0 : Int32)), (.int (0 : Int32))] (.int (0 : Int32)) := Arv.set a298 q298 s298 m298 H298 U298 rfl W298 10 rfl (Nat.le_of_ble_eq_true rfl)
      have N298 := Fr.snoc X298 N296 (own_ale (by omega))
      refine Gl.go (fun _ hr => zXS_dup X298.here hx rfl (hb hby at_242) rfl rfl (zXS_bipush X298.here hx rfl (hb hby at_243) (zXS_bipush X298.here hx rfl (hb hby at_245) hr))) ?_
      show Gl p.tables e below _ (T298.setTop (mkF m 247 #[.val (.int i0), .val (.int ((i0 &&& (2147483647 : Int32)) % (3 : Int32))), .unset, .unset, .unset, .unset] [(.int (109 : Int32)), (.int (11 : Int32)), (.ref b276), (.ref b276)]))
      obtain ⟨c300, a300, q300, s300, m300, H300, U300⟩ := id V298
      refine gstC Gl.cl X298 hx hZ e298 a300 (j := (11 : Int32)) (inb_of s300 ⟨(by decide), (by decide)⟩) rfl rfl (hb hby at_247) ?_
      intro T300 h300 X300 e300 W300
      have z301 : h298.size ≤ h300.size := (Keep.of_wr W300).1
      have V300 : Arv Z h300 b276 k276 .char (16 : Int32) [(.int (117 : Int32)), (.int (112 : Int32)), (.int (100 : Int32)), (.int (97 : Int32)), (.int (116 : Int32)), (.int (101 : Int32)), (.int (95 : Int32)), (.int (99 : Int32)), (.int (111 : Int32)), (.int (108 : Int32)), (.int (117 : Int32)), (.int (109 : Int32)), (.int (0 : Int32)), (.int (0 : Int32)), (.int (0 : Int32)), (.int (0 : Int32))] (.int (0 : Int32)) := Arv.set a300 q300 s300 m300 H300 U300 rfl W300 11 rfl (Nat.le_of_ble_eq_true rfl)
      have N300 := Fr.snoc X300 N298 (own_ale (by omega))
      refine Gl.go (fun _ hr => zXS_dup X300.here hx rfl (hb hby at_248) rfl rfl (zXS_bipush X300.here hx rfl (hb hby at_249) (zXS_bipush X300.here hx rfl (hb hby at_251) hr))) ?_
      obtain ⟨c302, a302, q302, s302, m302, H302, U302⟩ := id V300
      refine gstC Gl.cl X300 hx hZ e300 a302 (j := (12 : Int32)) (inb_of s302 ⟨(by decide), (by decide)⟩) rfl rfl (hb hby at_253) ?_
      intro T302 h302 X302 e302 W302
      have z303 : h300.size ≤ h302.size := (Keep.of_wr W302).1
      have V302 : Arv Z h302 b276 k276 .char (16 : Int32) [(.int (117 : Int32)), (.int (112 : Int32)), (.int (100 : Int32)), (.int (97 : Int32)), (.int (116 : Int32)), (.int (101 : Int32)), (.int (95 : Int32)), (.int (99 : Int32)), (.int (111 : Int32)), (.int (108 : Int32)), (.int (117 : Int32)), (.int (109 : Int32)), (.int (110 : Int32)), (.int (0 : Int32)), (.int (0 : Int32)), (.int (0 : Int32))] (.int (0 : Int32)) := Arv.set a302 q302 s302 m302 H302 U302 rfl W302 12 rfl (Nat.le_of_ble_eq_true rfl)
      have N302 := Fr.snoc X302 N300 (own_ale (by omega))
      refine Gl.go (fun _ hr => zXS_dup X302.here hx rfl (hb hby at_254) rfl rfl (zXS_bipush X302.here hx rfl (hb hby at_255) (zXS_bipush X302.here hx rfl (hb hby at_257) hr))) ?_
      obtain ⟨c304, a304, q304, s304, m304, H304, U304⟩ := id V302
      refine gstC Gl.cl X302 hx hZ e302 a304 (j := (13 : Int32)) (inb_of s304 ⟨(by decide), (by decide)⟩) rfl rfl (hb hby at_259) ?_
      intro T304 h304 X304 e304 W304
      have z305 : h302.size ≤ h304.size := (Keep.of_wr W304).1
      have V304 : Arv Z h304 b276 k276 .char (16 : Int32) [(.int (117 : Int32)), (.int (112 : Int32)), (.int (100 : Int32)), (.int (97 : Int32)), (.int (116 : Int32)), (.int (101 : Int32)), (.int (95 : Int32)), (.int (99 : Int32)), (.int (111 : Int32)), (.int (108 : Int32)), (.int (117 : Int32)), (.int (109 : Int32)), (.int (110 : Int32)), (.int (95 : Int32)), (.int (0 : Int32)), (.int (0 : Int32))] (.int (0 : Int32)) := Arv.set a304 q304 s304 m304 H304 U304 rfl W304 13 rfl (Nat.le_of_ble_eq_true rfl)
      have N304 := Fr.snoc X304 N302 (own_ale (by omega))
      refine Gl.go (fun _ hr => zXS_dup X304.here hx rfl (hb hby at_260) rfl rfl (zXS_bipush X304.here hx rfl (hb hby at_261) (zXS_bipush X304.here hx rfl (hb hby at_263) hr))) ?_
      obtain ⟨c306, a306, q306, s306, m306, H306, U306⟩ := id V304
      refine gstC Gl.cl X304 hx hZ e304 a306 (j := (14 : Int32)) (inb_of s306 ⟨(by decide), (by decide)⟩) rfl rfl (hb hby at_265) ?_
      intro T306 h306 X306 e306 W306
      have z307 : h304.size ≤ h306.size := (Keep.of_wr W306).1
      have V306 : Arv Z h306 b276 k276 .char (16 : Int32) [(.int (117 : Int32)), (.int (112 : Int32)), (.int (100 : Int32)), (.int (97 : Int32)), (.int (116 : Int32)), (.int (101 : Int32)), (.int (95 : Int32)), (.int (99 : Int32)), (.int (111 : Int32)), (.int (108 : Int32)), (.int (117 : Int32)), (.int (109 : Int32)), (.int (110 : Int32)), (.int (95 : Int32)), (.int (116 : Int32)), (.int (0 : Int32))] (.int (0 : Int32)) := Arv.set a306 q306 s306 m306 H306 U306 rfl W306 14 rfl (Nat.le_of_ble_eq_true rfl)
      have N306 := Fr.snoc X306 N304 (own_ale (by omega))
      refine Gl.go (fun _ hr => zXS_dup X306.here hx rfl (hb hby at_266) rfl rfl (zXS_bipush X306.here hx rfl (hb hby at_267) (zXS_bipush X306.here hx rfl (hb hby at_269) hr))) ?_
      obtain ⟨c308, a308, q308, s308, m308, H308, U308⟩ := id V306
      refine gstC Gl.cl X306 hx hZ e306 a308 (j := (15 : Int32)) (inb_of s308 ⟨(by decide), (by decide)⟩) rfl rfl (hb hby at_271) ?_
      intro T308 h308 X308 e308 W308
      have z309 : h306.size ≤ h308.size := (Keep.of_wr W308).1
      have V308 : Arv Z h308 b276 k276 .char (16 : Int32) [(.int (117 : Int32)), (.int (112 : Int32)), (.int (100 : Int32)), (.int (97 : Int32)), (.int (116 : Int32)), (.int (101 : Int32)), (.int (95 : Int32)), (.int (99 : Int32)), (.int (111 : Int32)), (.int (108 : Int32)), (.int (117 : Int32)), (.int (109 : Int32)), (.int (110 : Int32)), (.int (95 : Int32)), (.int (116 : Int32)), (.int (111 : Int32))] (.int (0 : Int32)) := Arv.set a308 q308 s308 m308 H308 U308 rfl W308 15 rfl (Nat.le_of_ble_eq_true rfl)
      have N308 := Fr.snoc X308 N306 (own_ale (by omega))
      refine Gl.go (fun _ hr => zXS_astoreN X308.here hx rfl (hb hby at_272) rfl rfl (l' := #[.val (.int i0), .val (.int ((i0 &&& (2147483647 : Int32)) % (3 : Int32))), .val (.ref b276), .unset, .unset, .unset]) rfl hr) ?_
      have Oc311 := (((((((((((((((((q2.ext E276).wr W278 (own_ale (by omega))).wr W280 (own_ale (by omega))).wr W282 (own_ale (by omega))).wr W284 (own_ale (by omega))).wr W286 (own_ale (by omega))).wr W288 (own_ale (by omega))).wr W290 (own_ale (by omega))).wr W292 (own_ale (by omega))).wr W294 (own_ale (by omega))).wr W296 (own_ale (by omega))).wr W298 (own_ale (by omega))).wr W300 (own_ale (by omega))).wr W302 (own_ale (by omega))).wr W304 (own_ale (by omega))).wr W306 (own_ale (by omega))).wr W308 (own_ale (by omega)))
      refine gGetS (host := "") Gl.cl X308 hx hZ hown (Or.inl (hw _ (List.mem_of_getElem? (i := 79) rfl))) Via.refl e308 (q5.ext Oc311.2) rfl (hb hby at_273) ?_
      intro T310 X310 e310
      refine Gl.go (fun _ hr => zXS_astoreN X310.here hx rfl (hb hby at_276) rfl rfl (l' := #[.val (.int i0), .val (.int ((i0 &&& (2147483647 : Int32)) % (3 : Int32))), .val (.ref b276), .val (.ref c2), .unset, .unset]) rfl hr) ?_
      refine gNew Gl.cl X310 hx hZ hown (hw _ (List.mem_of_getElem? (i := 5) rfl)) (hw _ (List.mem_of_getElem? (i := 6) rfl)) (hw _ (List.mem_of_getElem? (i := 7) rfl)) e310 rfl (hb hby at_277) (by decide) (by decide) ?_
      intro T312 h312 b312 g312 X312 e312 E312 A312 D312
      have z313 : h308.size ≤ h312.size := E312.1
      have lt312 := own_alt A312.lt
      have F312_coder : Fld Z h312 b312 "java/lang/String" "coder" "B" (.int (0 : Int32)) := D312 (Or.inr (hw _ (List.mem_of_getElem? (i := 31) rfl))) (ty := .byte) (by decide)
      have F312_value : Fld Z h312 b312 "java/lang/String" "value" "[B" .null := D312 (Or.inr (hw _ (List.mem_of_getElem? (i := 33) rfl))) (ty := (.array .byte)) (by decide)
      refine Gl.go (fun _ hr => zXS_dup X312.here hx rfl (hb hby at_280) rfl rfl (zXS_aloadN X312.here hx rfl (hb hby at_281) rfl rfl hr)) ?_
      have hp314 : ∀ c ∈ ([(117 : Int32), (112 : Int32), (100 : Int32), (97 : Int32), (116 : Int32), (101 : Int32), (95 : Int32), (99 : Int32), (111 : Int32), (108 : Int32), (117 : Int32), (109 : Int32), (110 : Int32), (95 : Int32), (116 : Int32), (111 : Int32)] : List Int32), Lat c := (own_cS (by decide) (own_cS (by decide) (own_cS (by decide) (own_cS (by decide) (own_cS (by decide) (own_cS (by decide) (own_cS (by decide) (own_cS (by decide) (own_cS (by decide) (own_cS (by decide) (own_cS (by decide) (own_cS (by decide) (own_cS (by decide) (own_cS (by decide) (own_cS (by decide) (own_cS (by decide) own_c0))))))))))))))))
      have Vc315 := (V308.ext E312)
      have Oc316 := (Oc311.ext E312)
      refine gSpecialN Gl.cl (y := (⟨"java/lang/String", "<init>", "([C)V"⟩ : MethodName)) (b := b312) (argsL := [(.ref b276)]) (rest := [(.ref b312)]) (mc := 1) (ms := 16) X312 hx hZ hown rfl (mvT hZ (hw _ (List.mem_of_getElem? (i := 8) rfl))) (mvT hZ (hw _ (List.mem_of_getElem? (i := 9) rfl))) (mvT hZ (hw _ (List.mem_of_getElem? (i := 10) rfl))) (by decide) (StrChars.Road.backV (W := 1) hZ hws (kI := 4) (hw _ (List.mem_of_getElem? (i := 6) rfl)) (cs := ([(117 : Int32), (112 : Int32), (100 : Int32), (97 : Int32), (116 : Int32), (101 : Int32), (95 : Int32), (99 : Int32), (111 : Int32), (108 : Int32), (117 : Int32), (109 : Int32), (110 : Int32), (95 : Int32), (116 : Int32), (111 : Int32)] : List Int32)) (bs := ([(117 : Int32), (112 : Int32), (100 : Int32), (97 : Int32), (116 : Int32), (101 : Int32), (95 : Int32), (99 : Int32), (111 : Int32), (108 : Int32), (117 : Int32), (109 : Int32), (110 : Int32), (95 : Int32), (116 : Int32), (111 : Int32)] : List Int32).map (fun c => c.toInt8.toInt32)) (n := 16) (n0 := n0) (by omega) (by omega) A312 F312_value F312_coder Vc315 (q0.ext Oc316.2) P5 rfl rfl (by decide) (by decide) hp314 rfl (by decide) (by decide)) rfl (by rw [hml]; rfl) (lenOf pd_3 rfl) rfl (by show 2 * 0 + _ ≤ _; exact Nat.le_of_eq rfl) (hb hby at_282) rfl e312 (by decide) (by decide) ?_
      intro v314 T314 Lc314 hQ314 X314
      obtain ⟨rfl, Nq314, K314, f314_E, f314_C, t314, kb314, g314_0, g314_1, g314_2, f314_V, f314_A⟩ := hQ314
      have z317 : h312.size ≤ T314.heap.size := K314.1
      have N314 := Fr.app N308 Nq314
      have lt318 := own_alt f314_E.lt
      have lt319 := own_alt f314_C.lt
      have lt320 := own_alt f314_V.lt
      have lt321 := own_alt f314_A.lt
      have hcd314 : StrChars.Road.CodA ([(117 : Int32), (112 : Int32), (100 : Int32), (97 : Int32), (116 : Int32), (101 : Int32), (95 : Int32), (99 : Int32), (111 : Int32), (108 : Int32), (117 : Int32), (109 : Int32), (110 : Int32), (95 : Int32), (116 : Int32), (111 : Int32)] : List Int32) 0 (16 : Int32) ((([(117 : Int32), (112 : Int32), (100 : Int32), (97 : Int32), (116 : Int32), (101 : Int32), (95 : Int32), (99 : Int32), (111 : Int32), (108 : Int32), (117 : Int32), (109 : Int32), (110 : Int32), (95 : Int32), (116 : Int32), (111 : Int32)] : List Int32).map (fun c => c.toInt8.toInt32)).map Value.int) := StrChars.Road.codOf (n := 16) rfl (fun c hc => (hp314 c hc).2)
      have hbd314 : ∀ c ∈ ([(117 : Int32), (112 : Int32), (100 : Int32), (97 : Int32), (116 : Int32), (101 : Int32), (95 : Int32), (99 : Int32), (111 : Int32), (108 : Int32), (117 : Int32), (109 : Int32), (110 : Int32), (95 : Int32), (116 : Int32), (111 : Int32)] : List Int32), Wid c := own_up hp314
      refine Gl.go (fun _ hr => zXS_astore X314.here hx rfl (hb hby at_285) rfl rfl (l' := #[.val (.int i0), .val (.int ((i0 &&& (2147483647 : Int32)) % (3 : Int32))), .val (.ref b276), .val (.ref c2), .val (.ref b312), .unset]) rfl (zXS_aload X314.here hx rfl (hb hby at_287) rfl rfl hr)) ?_
      have Oc323 := (Oc316.keep K314 (allS (own_ale (by omega)) all0))
      have zz322 : n0 ≤ T314.heap.size := by omega
      refine gStaticS Gl.cl (y := (⟨"com/example/frist/frist/OnDeleteAction", "fromKey", "(Ljava/lang/String;)Lcom/example/frist/frist/OnDeleteAction;"⟩ : MethodName)) (argsL := [(.ref b312)]) (rest := []) (mc := 3) (ms := 19) X314 hx hZ hS0 (by have q := hk0; omega) hown (mvT hZ (hw _ (List.mem_of_getElem? (i := 34) rfl))) (mvT hZ (hw _ (List.mem_of_getElem? (i := 35) rfl))) (mvT hZ (hw _ (List.mem_of_getElem? (i := 3) rfl))) (mvT hZ (hw _ (List.mem_of_getElem? (i := 36) rfl))) (by decide) (backOfS (W := 0) (of2 l Z a0 hw [] b312 t314 kb314 G1 ar ka c0 c1 c2 l0 t0 kb0 l1 t1 kb1 l2 t2 kb2 T314.heap n0 zz322 q0 (by assumption) Oc323 f314_E f314_V f314_C f314_A q6 q7 q8 q9 q10 q11 q12 q13 q14 q15 q16 q17 q18 q19 q20 q21 q22 q23 q24 q25 q26) hZ (hw _ (List.mem_of_getElem? (i := 36) rfl)) (hw _ (List.mem_of_getElem? (i := 3) rfl)) (by decide) (by decide)) rfl (by rw [hml]; rfl) (lenOf pd_4 rfl) rfl (by show 2 * 0 + _ ≤ _; exact Nat.le_of_eq rfl) (hb hby at_289) rfl (rfl : T314.heap = T314.heap) (by decide) (by decide) ?_
      intro v322 T322 Lc322 hQ322 X322 hS322 hZ322 hown322 hk322
      obtain ⟨rfl, Nq322, K322⟩ := hQ322
      have z324 : T314.heap.size ≤ T322.heap.size := K322.1
      have N322 := Fr.app N314 Nq322
      refine Gl.go (fun _ hr => zXS_astore X322.here hx rfl (hb hby at_292) rfl rfl (l' := #[.val (.int i0), .val (.int ((i0 &&& (2147483647 : Int32)) % (3 : Int32))), .val (.ref b276), .val (.ref c2), .val (.ref b312), .val (.ref c2)]) rfl (zXS_aload X322.here hx rfl (hb hby at_294) rfl rfl (zXS_aloadN X322.here hx rfl (hb hby at_296) rfl rfl hr))) ?_
      refine Gl.go (fun _ hr => zXT_acmpNo X322.here hx rfl (hb hby at_297) rfl rfl rfl (XT.aa_ne_f rfl) (zXS_aload X322.here hx rfl (hb hby at_300) rfl rfl hr)) ?_
      have Oc326 := (Oc323.keep K322 all0)
      have zz325 : n0 ≤ T322.heap.size := by omega
      refine gVirtualN Gl.cl (y := (⟨"com/example/frist/frist/OnDeleteAction", "key", "()Ljava/lang/String;"⟩ : MethodName)) (z := (⟨"com/example/frist/frist/OnDeleteAction", "key", "()Ljava/lang/String;"⟩ : MethodName)) (b := c2) (argsL := []) (rest := []) (mc := 0) (ms := 0) X322 hx hZ322 hown322 (mvT hZ322 (hw _ (List.mem_of_getElem? (i := 73) rfl))) (mvT hZ322 (hw _ (List.mem_of_getElem? (i := 74) rfl))) (notFace_of_selects (args := #[]) (mvT hZ322 (hw _ (List.mem_of_getElem? (i := 76) rfl)))) (mvT hZ322 (hw _ (List.mem_of_getElem? (i := 76) rfl))) (mvT hZ322 (hw _ (List.mem_of_getElem? (i := 75) rfl))) (by decide) (q21.ext Oc326.2) (backOf (W := 0) (lab l Z a0 hw [] c2 l2 T322.heap n0 zz325 (q22.ext Oc326.2)) hZ322 (hw _ (List.mem_of_getElem? (i := 77) rfl)) (hw _ (List.mem_of_getElem? (i := 3) rfl)) (by decide) (by decide)) rfl (by rw [hml]; rfl) (lenOf pd_5 rfl) rfl (by show 2 * 0 + _ ≤ _; exact Nat.le_of_eq rfl) (hb hby at_302) rfl (rfl : T322.heap = T322.heap) (by decide) (by decide) ?_
      intro v325 T325 Lc325 hQ325 X325
      obtain ⟨rfl, Nq325, e325⟩ := hQ325
      have N325 := Fr.app N322 Nq325
      refine Gl.go (fun _ hr => zXS_aload X325.here hx rfl (hb hby at_305) rfl rfl hr) ?_
      have Ec328 := (f314_E.keep K322)
      have Fc329 := (f314_V.keep K322 nin0)
      have Fc330 := (f314_C.keep K322 nin0)
      have Vc331 := (f314_A.keep K322 nin0)
      refine gVirtualN Gl.cl (y := (⟨"java/lang/String", "equals", "(Ljava/lang/Object;)Z"⟩ : MethodName)) (z := (⟨"java/lang/String", "equals", "(Ljava/lang/Object;)Z"⟩ : MethodName)) (b := l2) (argsL := [(.ref b312)]) (rest := []) (mc := 0) (ms := 0) (Q := fun v h' L => ((v = some (.int 1) ∧ ([(117 : Int32), (112 : Int32), (100 : Int32), (97 : Int32), (116 : Int32), (101 : Int32), (95 : Int32), (99 : Int32), (111 : Int32), (108 : Int32), (117 : Int32), (109 : Int32), (110 : Int32), (95 : Int32), (116 : Int32), (111 : Int32)] : List Int32) = ([(117 : Int32), (112 : Int32), (100 : Int32), (97 : Int32), (116 : Int32), (101 : Int32), (95 : Int32), (99 : Int32), (111 : Int32), (108 : Int32), (117 : Int32), (109 : Int32), (110 : Int32), (95 : Int32), (116 : Int32), (111 : Int32)] : List Int32)) ∨ (v = some (.int 0) ∧ ¬ ([(117 : Int32), (112 : Int32), (100 : Int32), (97 : Int32), (116 : Int32), (101 : Int32), (95 : Int32), (99 : Int32), (111 : Int32), (108 : Int32), (117 : Int32), (109 : Int32), (110 : Int32), (95 : Int32), (116 : Int32), (111 : Int32)] : List Int32) = ([(117 : Int32), (112 : Int32), (100 : Int32), (97 : Int32), (116 : Int32), (101 : Int32), (95 : Int32), (99 : Int32), (111 : Int32), (108 : Int32), (117 : Int32), (109 : Int32), (110 : Int32), (95 : Int32), (116 : Int32), (111 : Int32)] : List Int32))) ∧ L = [] ∧ h' = T322.heap) X325 hx hZ322 hown322 (mvT hZ322 (hw _ (List.mem_of_getElem? (i := 78) rfl))) (mvT hZ322 (hw _ (List.mem_of_getElem? (i := 64) rfl))) (notFace_of_selects (args := #[]) (mvT hZ322 (hw _ (List.mem_of_getElem? (i := 66) rfl)))) (mvT hZ322 (hw _ (List.mem_of_getElem? (i := 66) rfl))) (mvT hZ322 (hw _ (List.mem_of_getElem? (i := 65) rfl))) (by decide) (q23.ext Oc326.2) (StrChars.Road.eqW (W := 0) hZ322 heq (kI := 4) (hw _ (List.mem_of_getElem? (i := 6) rfl)) (q23.ext Oc326.2) (q24.ext Oc326.2) (q25.ext Oc326.2) (q26.ext Oc326.2) hcd175 hbd175 (Nat.le_of_ble_eq_true rfl) Ec328 Fc329 Fc330 Vc331 hcd314 hbd314 (Nat.le_of_ble_eq_true rfl) (q0.ext Oc326.2) P5 (by decide) (by decide)) rfl (by rw [hml]; rfl) (lenOf pd_2 rfl) rfl (by show 2 * 0 + _ ≤ _; exact Nat.le_of_eq rfl) (hb hby at_307) rfl e325 (by decide) (by decide) ?_
      intro v327 T327 Lc327 hQ327 X327
      obtain ⟨hca327, rfl, e327⟩ := hQ327
      have N327 := own_fr_nil N325
      have hv327 : _ = some (Value.int 1) := hca327.elim (fun q => q.1) (fun q => absurd rfl q.2)
      subst hv327
      refine Gl.go (fun _ hr => zXS_ifNo X327.here hx rfl (hb hby at_310) rfl (XT.i0_eq_f (by decide)) (zXS_iconst X327.here hx rfl (hb hby at_313) (zXS_goto X327.here hx rfl (pc0 := 314) (pc' := 318) rfl (hb hby at_314) (by decide) (by decide) hr))) ?_
      obtain ⟨fs, hr, hrun, hended, hE⟩ := X327.leaveW hS322 (by have q := congrArg Array.size e327; have q2 := hk322; omega) (v := some (.int (1 : Int32))) (fun h => by rw [Bd.returns] at h; cases h)
      refine ⟨_, _, retN X327 hx (t := .boolean) Bd.returns (by simp) (hb hby at_318) hr, hrun, hended, _, _, rfl, ?_, ⟨hE.1, hE.2.1, hE.2.2.1, hE.2.2.2.mono (by decide) (by decide)⟩⟩
      show Qlawrm Z i0 G1 ar ka c0 c1 c2 l0 t0 kb0 l1 t1 kb1 l2 t2 kb2 h0 n0 _ T327.heap _
      rw [e327]
      exact ⟨rfl, N327, (((((((((((((((((((((Keep.refl h0 []).ext E276).wr W278 (Or.inr (own_ale (by omega)))).wr W280 (Or.inr (own_ale (by omega)))).wr W282 (Or.inr (own_ale (by omega)))).wr W284 (Or.inr (own_ale (by omega)))).wr W286 (Or.inr (own_ale (by omega)))).wr W288 (Or.inr (own_ale (by omega)))).wr W290 (Or.inr (own_ale (by omega)))).wr W292 (Or.inr (own_ale (by omega)))).wr W294 (Or.inr (own_ale (by omega)))).wr W296 (Or.inr (own_ale (by omega)))).wr W298 (Or.inr (own_ale (by omega)))).wr W300 (Or.inr (own_ale (by omega)))).wr W302 (Or.inr (own_ale (by omega)))).wr W304 (Or.inr (own_ale (by omega)))).wr W306 (Or.inr (own_ale (by omega)))).wr W308 (Or.inr (own_ale (by omega)))).ext E312).trans K314 (allS (P := fun x_ => x_ ∈ ([] : List Addr) ∨ h0.size ≤ x_) (Or.inr (own_ale (by omega))) all0)).trans K322 all0)⟩
set_option maxRecDepth 65536 in
set_option maxHeartbeats 40000000 in
theorem comes_1 {Post : Tables → Env → Array Value → State → Outcome → State → Prop} (hpost : ∀ tb e args s v u, (limb_1_1.after args s (.returned v) u = true ∧ limb_1_2.after args s (.returned v) u = true ∧ True) → ReturnedEndW s (.returned v) u (Jvm.fieldLocs frame_1_writes args s ++ Jvm.arrayLocs frame_1_arrays args s ++ Jvm.staticLocs frame_1_statics s) 24 1216 → Post tb e args s (.returned v) u) :
    ArmFor flags0 classFile x code maxLocals ret World_1 tables_1 room_1 Calls_1 rest_1 Pre_1 Post := by
  intro l hfl _ _ p e ha hc hk s m args below hf hA hF happ hP
  obtain ⟨hcalls, hrest, hpre⟩ := hP
  obtain ⟨-, -, -, hnamed, -, -, -, hat⟩ := (Spec.applies_iff hf).mp happ
  obtain ⟨hg, hn⟩ := and_e (Cond.before_iff.mp (show (Jvm.Cond.and given_1 narrow_1).before args s = true from hpre))
  obtain ⟨hcount, hgs⟩ := and_e hg
  obtain ⟨w0, rfl⟩ : ∃ w0 : Value, args = #[w0] := by
    have hs : args.size = 1 := by simpa [Cond.value, given_1] using hcount
    obtain ⟨L⟩ := args
    match L, hs with
    | [w0], _ => exact ⟨w0, rfl⟩
  obtain ⟨i0, ei0⟩ := is_v hgs
  obtain rfl : w0 = (.int i0) := Option.some.inj ei0
  have hw := fun d (hd : d ∈ tables_1) => atoms_spec (ws := Jvm.Cond.code x code maxLocals ret :: tables_1) hat d (List.mem_cons_of_mem _ hd)
  have hfit : Fit s := fun {y c} hc i hi => by
    obtain ⟨ha, rfl⟩ := Array.getElem?_eq_some_iff.mp hc
    have q := List.all_eq_true.mp ((Array.all_eq_true_iff_forall_mem.mp hF) _ (Array.getElem_mem ha)) i (List.mem_range.mpr hi)
    simpa [Array.getElem?_eq_getElem hi] using q
  obtain ⟨hsets, hown0⟩ := atoms_of _ (rest_1_c_eq ▸ (show rest_1_c.before _ s = true from hrest))
  have hr0 := Cond.before_iff.mp hown0
  have n3 := not_v (Cond.before_iff.mp (hsets _ (List.mem_of_getElem? (i := 2) rfl)))
  obtain ⟨G1, eG1⟩ := is_v (Cond.before_iff.mp (hsets _ (List.mem_of_getElem? (i := 1) rfl)))
  have SG1 : Sta s s.heap "java/lang/String" "COMPACT_STRINGS" "Z" (.int G1) := Sta.start eG1 (Or.inl (hsets _ (List.mem_of_getElem? (i := 0) rfl)))
  have cG1 : ¬ (G1 = (0 : Int32)) := gotF (Cond.eq_ints eG1 (Term.int_eval (0))) n3
  obtain ⟨u0, v0⟩ := and_e hn
  obtain ⟨u1, v1⟩ := and_e v0
  obtain ⟨u2, v2⟩ := and_e v1
  obtain ⟨u3, v3⟩ := and_e v2
  obtain ⟨u4, v4⟩ := and_e v3
  obtain ⟨u5, v5⟩ := and_e v4
  obtain ⟨u6, v6⟩ := and_e v5
  obtain ⟨u7, v7⟩ := and_e v6
  obtain ⟨u8, v8⟩ := and_e v7
  obtain ⟨u9, v9⟩ := and_e v8
  obtain ⟨u10, v10⟩ := and_e v9
  obtain ⟨u11, v11⟩ := and_e v10
  obtain ⟨u12, v12⟩ := and_e v11
  obtain ⟨u13, v13⟩ := and_e v12
  obtain ⟨u14, v14⟩ := and_e v13
  obtain ⟨u15, v15⟩ := and_e v14
  obtain ⟨u16, v16⟩ := and_e v15
  obtain ⟨u17, v17⟩ := and_e v16
  obtain ⟨u18, v18⟩ := and_e v17
  obtain ⟨u19, v19⟩ := and_e v18
  obtain ⟨u20, v20⟩ := and_e v19
  obtain ⟨u21, v21⟩ := and_e v20
  obtain ⟨u22, v22⟩ := and_e v21
  obtain ⟨u23, v23⟩ := and_e v22
  obtain ⟨u24, v24⟩ := and_e v23
  obtain ⟨u25, v25⟩ := and_e v24
  obtain ⟨u26, v26⟩ := and_e v25
  obtain ⟨u27, v27⟩ := and_e v26
  obtain ⟨u28, v28⟩ := and_e v27
  obtain ⟨u29, v29⟩ := and_e v28
  obtain ⟨u30, v30⟩ := and_e v29
  obtain ⟨u31, v31⟩ := and_e v30
  obtain ⟨u32, v32⟩ := and_e v31
  obtain ⟨u33, v33⟩ := and_e v32
  obtain ⟨u34, v34⟩ := and_e v33
  obtain ⟨u35, v35⟩ := and_e v34
  obtain ⟨u36, v36⟩ := and_e v35
  obtain ⟨u37, v37⟩ := and_e v36
  obtain ⟨u38, v38⟩ := and_e v37
  obtain ⟨u39, v39⟩ := and_e v38
  obtain ⟨u40, v40⟩ := and_e v39
  obtain ⟨u41, v41⟩ := and_e v40
  obtain ⟨u42, v42⟩ := and_e v41
  obtain ⟨u43, v43⟩ := and_e v42
  obtain ⟨u44, v44⟩ := and_e v43
  obtain ⟨u45, v45⟩ := and_e v44
  obtain ⟨u46, v46⟩ := and_e v45
  obtain ⟨u47, v47⟩ := and_e v46
  obtain ⟨u48, v48⟩ := and_e v47
  obtain ⟨u49, v49⟩ := and_e v48
  obtain ⟨u50, v50⟩ := and_e v49
  obtain ⟨u51, v51⟩ := and_e v50
  obtain ⟨u52, v52⟩ := and_e v51
  obtain ⟨u53, v53⟩ := and_e v52
  obtain ⟨u54, v54⟩ := and_e v53
  obtain ⟨u55, v55⟩ := and_e v54
  obtain ⟨u56, v56⟩ := and_e v55
  obtain ⟨u57, v57⟩ := and_e v56
  obtain ⟨u58, v58⟩ := and_e v57
  obtain ⟨u59, v59⟩ := and_e v58
  obtain ⟨u60, v60⟩ := and_e v59
  have u61 := v60
  obtain ⟨c0, ec0⟩ := exa_v u0
  have Ec0 : Exa s s.heap c0 "com/example/frist/frist/OnDeleteAction" := Exa.start ec0 u0
  obtain ⟨c1, ec1⟩ := exa_v u5
  have Ec1 : Exa s s.heap c1 "com/example/frist/frist/OnDeleteAction" := Exa.start ec1 u5
  obtain ⟨c2, ec2⟩ := exa_v u7
  have Ec2 : Exa s s.heap c2 "com/example/frist/frist/OnDeleteAction" := Exa.start ec2 u7
  obtain ⟨ar, ear⟩ := exa_v u2
  have Ear : Exa s s.heap ar "[Lcom/example/frist/frist/OnDeleteAction;" := Exa.start ear u2
  obtain ⟨ka, Var⟩ := own_oldArr (vs := [(.ref c0), (.ref c1), (.ref c2)]) (dv := .null) hfit ear u1 (own_eqI u3) (by decide) rfl (Nat.le_of_ble_eq_true rfl) ⟨own_eqR ec0 u4, own_eqR ec1 u6, own_eqR ec2 u8, trivial⟩
  obtain ⟨l0, el0⟩ := exa_v u9
  have El0 : Exa s s.heap l0 "java/lang/String" := Exa.start el0 u9
  have Fl0 : Fld s s.heap c0 "com/example/frist/frist/OnDeleteAction" "key" "Ljava/lang/String;" (.ref l0) := Fld.start ((fld_at ec0).symm.trans el0)
  have Fd0 : Fld s s.heap l0 "java/lang/String" "coder" "B" (.int 0) := Fld.start ((fld_at el0).symm.trans (own_eqI u10))
  obtain ⟨t0, et0⟩ := arr_v u11
  have Fv0 : Fld s s.heap l0 "java/lang/String" "value" "[B" (.ref t0) := Fld.start ((fld_at el0).symm.trans et0)
  obtain ⟨kb0, Vb0⟩ := own_oldArr (vs := ((([(97 : Int32), (115 : Int32), (121 : Int32), (110 : Int32), (99 : Int32), (95 : Int32), (100 : Int32), (101 : Int32), (108 : Int32), (101 : Int32), (116 : Int32), (101 : Int32)] : List Int32).map (fun c => c.toInt8.toInt32)).map Value.int)) (dv := .int 0) hfit et0 u11 (own_eqI u12) (by decide) rfl (by decide) ⟨own_eqI u21, own_eqI u22, own_eqI u23, own_eqI u24, own_eqI u25, own_eqI u26, own_eqI u27, own_eqI u28, own_eqI u29, own_eqI u30, own_eqI u31, own_eqI u32, trivial⟩
  obtain ⟨l1, el1⟩ := exa_v u13
  have El1 : Exa s s.heap l1 "java/lang/String" := Exa.start el1 u13
  have Fl1 : Fld s s.heap c1 "com/example/frist/frist/OnDeleteAction" "key" "Ljava/lang/String;" (.ref l1) := Fld.start ((fld_at ec1).symm.trans el1)
  have Fd1 : Fld s s.heap l1 "java/lang/String" "coder" "B" (.int 0) := Fld.start ((fld_at el1).symm.trans (own_eqI u14))
  obtain ⟨t1, et1⟩ := arr_v u15
  have Fv1 : Fld s s.heap l1 "java/lang/String" "value" "[B" (.ref t1) := Fld.start ((fld_at el1).symm.trans et1)
  obtain ⟨kb1, Vb1⟩ := own_oldArr (vs := ((([(97 : Int32), (115 : Int32), (121 : Int32), (110 : Int32), (99 : Int32), (95 : Int32), (110 : Int32), (117 : Int32), (108 : Int32), (108 : Int32), (105 : Int32), (102 : Int32), (121 : Int32)] : List Int32).map (fun c => c.toInt8.toInt32)).map Value.int)) (dv := .int 0) hfit et1 u15 (own_eqI u16) (by decide) rfl (by decide) ⟨own_eqI u33, own_eqI u34, own_eqI u35, own_eqI u36, own_eqI u37, own_eqI u38, own_eqI u39, own_eqI u40, own_eqI u41, own_eqI u42, own_eqI u43, own_eqI u44, own_eqI u45, trivial⟩
  obtain ⟨l2, el2⟩ := exa_v u17
  have El2 : Exa s s.heap l2 "java/lang/String" := Exa.start el2 u17
  have Fl2 : Fld s s.heap c2 "com/example/frist/frist/OnDeleteAction" "key" "Ljava/lang/String;" (.ref l2) := Fld.start ((fld_at ec2).symm.trans el2)
  have Fd2 : Fld s s.heap l2 "java/lang/String" "coder" "B" (.int 0) := Fld.start ((fld_at el2).symm.trans (own_eqI u18))
  obtain ⟨t2, et2⟩ := arr_v u19
  have Fv2 : Fld s s.heap l2 "java/lang/String" "value" "[B" (.ref t2) := Fld.start ((fld_at el2).symm.trans et2)
  obtain ⟨kb2, Vb2⟩ := own_oldArr (vs := ((([(117 : Int32), (112 : Int32), (100 : Int32), (97 : Int32), (116 : Int32), (101 : Int32), (95 : Int32), (99 : Int32), (111 : Int32), (108 : Int32), (117 : Int32), (109 : Int32), (110 : Int32), (95 : Int32), (116 : Int32), (111 : Int32)] : List Int32).map (fun c => c.toInt8.toInt32)).map Value.int)) (dv := .int 0) hfit et2 u19 (own_eqI u20) (by decide) rfl (by decide) ⟨own_eqI u46, own_eqI u47, own_eqI u48, own_eqI u49, own_eqI u50, own_eqI u51, own_eqI u52, own_eqI u53, own_eqI u54, own_eqI u55, own_eqI u56, own_eqI u57, own_eqI u58, own_eqI u59, own_eqI u60, own_eqI u61, trivial⟩
  obtain ⟨n, o, h1, h2, h3, _, L, rfl, ⟨rfl, N, -⟩, hq⟩ := lawrm l s _ hw tables_1 i0 G1 ar ka c0 c1 c2 l0 t0 kb0 l1 t1 kb1 l2 t2 kb2 s.heap s.heap.size (Nat.le_refl _) SG1 cG1 (Old.start s) (Sta.start ec0 (Or.inr ⟨(hw _ (List.mem_of_getElem? (i := 3) rfl)), (hw _ (List.mem_of_getElem? (i := 4) rfl))⟩) : Sta s s.heap "com/example/frist/frist/OnDeleteAction" "ASYNC_DELETE" "Lcom/example/frist/frist/OnDeleteAction;" (.ref c0)) (Sta.start ec1 (Or.inr ⟨(hw _ (List.mem_of_getElem? (i := 3) rfl)), (hw _ (List.mem_of_getElem? (i := 56) rfl))⟩) : Sta s s.heap "com/example/frist/frist/OnDeleteAction" "ASYNC_NULLIFY" "Lcom/example/frist/frist/OnDeleteAction;" (.ref c1)) (Sta.start ec2 (Or.inr ⟨(hw _ (List.mem_of_getElem? (i := 3) rfl)), (hw _ (List.mem_of_getElem? (i := 57) rfl))⟩) : Sta s s.heap "com/example/frist/frist/OnDeleteAction" "UPDATE_COLUMN_TO" "Lcom/example/frist/frist/OnDeleteAction;" (.ref c2)) (Sta.start ear (Or.inr ⟨(hw _ (List.mem_of_getElem? (i := 3) rfl)), (hw _ (List.mem_of_getElem? (i := 48) rfl))⟩) : Sta s s.heap "com/example/frist/frist/OnDeleteAction" "$VALUES" "[Lcom/example/frist/frist/OnDeleteAction;" (.ref ar)) Var Ear Ec0 Fl0 El0 Fv0 Fd0 Vb0 Ec1 Fl1 El1 Fv1 Fd1 Vb1 Ec2 Fl2 El2 Fv2 Fd2 Vb2 p e ha hc hk s m _ below hf ((Spec.applies_iff_loose hf).mp happ).1 ⟨rfl, State.Warmed39.refl s, rfl⟩ trivial
  refine ⟨n, _, h1, h2, h3, hpost _ _ _ _ _ _ ⟨Cond.after_iff.mpr rfl, Cond.after_iff.mpr (eq_i res_at (Term.int_eval (1)) rfl), trivial⟩ ⟨hq.1, hq.2.1, hq.2.2.1, (hq.2.2.2.sift fun y hy => Or.inr (N y hy)).mono (by decide) (by decide)⟩⟩
theorem main_1_1 : Claimed_1_1 := comes_1 fun _ _ _ _ _ _ h hF => ⟨h.1, hF⟩
theorem main_1_2 : Claimed_1_2 := comes_1 fun _ _ _ _ _ _ h hF => ⟨h.2.1, hF⟩
end Jvm.Pilot.@@N@@
namespace Jvm.Pilot.@@N@@
open Jvm Jvm.ClassFile Sem Op Lib Jvm.Free Jvm.Stand Jvm.Pilot.@@N@@.Jvm.D
/-! MADE BY PROGRAM (witnessworld.py) out of the Statement's table words and the real class files: 23 classes; the members and pool entries that the words name. The judged class is class 1, her method 1. -/
namespace start1
open Jvm.ClassFile
def u (s : String) : CpInfo := .utf8 (stringToUtf16 s)
/-- a pool by its gaps: so many unusable entries, then the entry; so many at the end -/
def gap : Nat → List CpInfo → List CpInfo
  | 0, r => r
  | n + 1, r => .unusable :: gap n r
def poolList (es : List (Nat × CpInfo)) (last : Nat) : List CpInfo := es.foldr (fun e r => gap e.1 (e.2 :: r)) (gap last [])
def pool (es : List (Nat × CpInfo)) (last : Nat) : Array CpInfo := ⟨poolList es last⟩
def fileOf (pool : Array CpInfo) (this : Nat) (attrs : Array Attribute := #[]) (ms : Array MethodInfo := #[]) (fl : Nat := 33) (sup : Nat := 0) (ifs : Array Nat := #[]) (fds : Array FieldInfo := #[]) : ClassFile where
  minorVersion := 0
  majorVersion := 65
  constantPool := pool
  accessFlags := fl
  thisClass := this
  superClass := sup
  interfaces := ifs
  fields := fds
  methods := ms
  attributes := attrs
def plain (name : String) (sup : Option ClassId) : Class where
  name := name
  kind := .ordinary
  loader := none
  accessFlags := 33
  super := sup
  interfaces := #[]
  cf := none
  fields := #[]
  methods := #[]
  instanceTypes := #[]
  staticTypes := #[]
  resolved := #[]
  callSites := []
  init := .initialized
  statics := none
  mirror := none

def pool0 : Array CpInfo := pool [(5, u "<init>"), (0, u "()V"), (1, .class_ 10), (1, u "java/lang/Object"), (85, u "clone"), (0, u "()Ljava/lang/Object;")] 26

def k0c0 : Code := { maxStack := 0, maxLocals := 1, code := object_method_1_code, exceptionTable := #[], attributes := #[] }
def k0m0 : Method := { name := "<init>", desc := "()V", sig := { parameters := [], returnType := none }, accessFlags := 1, code := some k0c0 }
def k0m1 : Method := { name := "clone", desc := "()Ljava/lang/Object;", sig := { parameters := [], returnType := some (.object "java/lang/Object") }, accessFlags := 260, code := none }
/-- java/lang/Object -/
def k0 : Class := { plain "java/lang/Object" none with
  accessFlags := 33
  interfaces := #[]
  cf := some (fileOf pool0 8 #[] #[{ accessFlags := 1, nameIndex := 5, descriptorIndex := 6, attributes := #[] }, { accessFlags := 260, nameIndex := 96, descriptorIndex := 97, attributes := #[] }] 33 0 #[] #[])
  fields := #[]
  methods := #[k0m0, k0m1]
  instanceTypes := #[]
  staticTypes := #[]
  resolved := Array.replicate 124 none
  statics := none }

def pool1 : Array CpInfo := pool [(2, .class_ 4), (1, u "java/lang/Object"), (0, u "<init>"), (0, u "()V"), (0, .integer 2147483647), (0, .fieldref 9 10), (0, .class_ 11), (0, .nameAndType 12 13), (0, u "com/example/frist/frist/OnDeleteAction"), (0, u "ASYNC_DELETE"), (0, u "Lcom/example/frist/frist/OnDeleteAction;"), (0, .fieldref 9 15), (0, .nameAndType 16 13), (0, u "ASYNC_NULLIFY"), (0, .fieldref 9 18), (0, .nameAndType 19 13), (0, u "UPDATE_COLUMN_TO"), (0, .class_ 21), (0, u "java/lang/String"), (0, .methodref 20 23), (0, .nameAndType 5 24), (0, u "([C)V"), (0, .methodref 9 26), (0, .nameAndType 27 28), (0, u "fromKey"), (0, u "(Ljava/lang/String;)Lcom/example/frist/frist/OnDeleteAction;"), (0, .methodref 9 30), (0, .nameAndType 31 32), (0, u "key"), (0, u "()Ljava/lang/String;"), (0, .methodref 20 34), (0, .nameAndType 35 36), (0, u "equals"), (0, u "(Ljava/lang/Object;)Z"), (0, .class_ 38), (0, u "com/example/frist/frist/OnDeleteActionFromKeyPinLaw"), (2, u "law"), (0, u "(I)Z")] 5

def k1m0 : Method := { name := "<init>", desc := "()V", sig := { parameters := [], returnType := none }, accessFlags := 1, code := none }
def k1c1 : Code := { maxStack := 4, maxLocals := 6, code := code, exceptionTable := #[], attributes := #[] }
def k1m1 : Method := { name := "law", desc := "(I)Z", sig := { parameters := [.int], returnType := some .boolean }, accessFlags := 9, code := some k1c1 }
/-- com/example/frist/frist/OnDeleteActionFromKeyPinLaw -/
def k1 : Class := { plain "com/example/frist/frist/OnDeleteActionFromKeyPinLaw" (some 0) with
  accessFlags := 49
  interfaces := #[]
  cf := some (fileOf pool1 37 #[] #[{ accessFlags := 1, nameIndex := 5, descriptorIndex := 6, attributes := #[] }, { accessFlags := 9, nameIndex := 41, descriptorIndex := 42, attributes := #[] }] 49 2 #[] #[])
  fields := #[]
  methods := #[k1m0, k1m1]
  instanceTypes := #[]
  staticTypes := #[]
  resolved := Array.replicate 48 none
  statics := none }

def pool2 : Array CpInfo := pool [(1, .class_ 2), (0, u "java/lang/constant/Constable"), (0, .class_ 4), (0, u "java/lang/Object")] 6

/-- java/lang/constant/Constable -/
def k2 : Class := { plain "java/lang/constant/Constable" (some 0) with
  accessFlags := 1537
  interfaces := #[]
  cf := some (fileOf pool2 1 #[] #[] 1537 3 #[] #[])
  fields := #[]
  methods := #[]
  instanceTypes := #[]
  staticTypes := #[]
  resolved := Array.replicate 11 none
  statics := none }

def pool3 : Array CpInfo := pool [(1, .class_ 2), (0, u "java/lang/Comparable"), (0, .class_ 4), (0, u "java/lang/Object")] 7

/-- java/lang/Comparable -/
def k3 : Class := { plain "java/lang/Comparable" (some 0) with
  accessFlags := 1537
  interfaces := #[]
  cf := some (fileOf pool3 1 #[] #[] 1537 3 #[] #[])
  fields := #[]
  methods := #[]
  instanceTypes := #[]
  staticTypes := #[]
  resolved := Array.replicate 12 none
  statics := none }

def pool4 : Array CpInfo := pool [(1, .class_ 2), (0, u "java/io/Serializable"), (0, .class_ 4), (0, u "java/lang/Object")] 2

/-- java/io/Serializable -/
def k4 : Class := { plain "java/io/Serializable" (some 0) with
  accessFlags := 1537
  interfaces := #[]
  cf := some (fileOf pool4 1 #[] #[] 1537 3 #[] #[])
  fields := #[]
  methods := #[]
  instanceTypes := #[]
  staticTypes := #[]
  resolved := Array.replicate 7 none
  statics := none }

def pool5 : Array CpInfo := pool [(2, .class_ 4), (1, u "java/lang/Enum"), (0, u "name"), (0, u "Ljava/lang/String;"), (2, u "ordinal"), (0, u "I"), (1, .class_ 14), (1, u "java/lang/Object"), (4, u "hash"), (86, .class_ 108), (1, u "java/lang/Enum$EnumDesc"), (2, .class_ 112), (0, u "java/lang/constant/Constable"), (0, .class_ 114), (0, u "java/lang/Comparable"), (0, .class_ 116), (0, u "java/io/Serializable")] 87

/-- java/lang/Enum -/
def k5 : Class := { plain "java/lang/Enum" (some 0) with
  accessFlags := 1057
  interfaces := #[2, 3, 4]
  cf := some (fileOf pool5 2 #[.nestMembers #[106]] #[] 1057 12 #[111, 113, 115] #[{ accessFlags := 18, nameIndex := 5, descriptorIndex := 6, attributes := #[] }, { accessFlags := 18, nameIndex := 9, descriptorIndex := 10, attributes := #[] }, { accessFlags := 2, nameIndex := 19, descriptorIndex := 10, attributes := #[] }])
  fields := #[{ name := "name", type := (.object "java/lang/String"), accessFlags := 18, slot := 0, constantValue := 0 }, { name := "ordinal", type := .int, accessFlags := 18, slot := 1, constantValue := 0 }, { name := "hash", type := .int, accessFlags := 2, slot := 2, constantValue := 0 }]
  methods := #[]
  instanceTypes := #[(.object "java/lang/String"), .int, .int]
  staticTypes := #[]
  resolved := Array.replicate 204 none
  statics := none }

def pool6 : Array CpInfo := pool [(1, .class_ 2), (0, u "com/example/frist/frist/OnDeleteAction"), (2, u "ASYNC_DELETE"), (0, u "Lcom/example/frist/frist/OnDeleteAction;"), (2, u "ASYNC_NULLIFY"), (2, u "UPDATE_COLUMN_TO"), (0, .fieldref 1 14), (0, .nameAndType 15 16), (0, u "$VALUES"), (0, u "[Lcom/example/frist/frist/OnDeleteAction;"), (0, .methodref 18 19), (0, .class_ 16), (0, .nameAndType 20 21), (0, u "clone"), (0, u "()Ljava/lang/Object;"), (1, .class_ 25), (1, u "java/lang/Enum"), (6, .fieldref 1 33), (0, .nameAndType 34 35), (0, u "key"), (0, u "Ljava/lang/String;"), (0, .string 34), (0, .methodref 38 39), (0, .class_ 40), (0, .nameAndType 41 42), (0, u "java/util/Objects"), (0, u "requireNonNull"), (0, u "(Ljava/lang/Object;Ljava/lang/String;)Ljava/lang/Object;"), (0, .methodref 1 44), (0, .nameAndType 45 46), (0, u "values"), (0, u "()[Lcom/example/frist/frist/OnDeleteAction;"), (0, .methodref 48 49), (0, .class_ 50), (0, .nameAndType 51 52), (0, u "java/lang/String"), (0, u "equals"), (0, u "(Ljava/lang/Object;)Z"), (42, u "(Ljava/lang/String;)Lcom/example/frist/frist/OnDeleteAction;"), (2, u "fromKey"), (1, u "()Ljava/lang/String;")] 19

def k6c0 : Code := { maxStack := 1, maxLocals := 0, code := prog_4_method_1_code, exceptionTable := #[], attributes := #[] }
def k6m0 : Method := { name := "values", desc := "()[Lcom/example/frist/frist/OnDeleteAction;", sig := { parameters := [], returnType := some (.array (.object "com/example/frist/frist/OnDeleteAction")) }, accessFlags := 9, code := some k6c0 }
def k6c1 : Code := { maxStack := 5, maxLocals := 6, code := prog_4_method_4_code, exceptionTable := #[], attributes := #[] }
def k6m1 : Method := { name := "fromKey", desc := "(Ljava/lang/String;)Lcom/example/frist/frist/OnDeleteAction;", sig := { parameters := [(.object "java/lang/String")], returnType := some (.object "com/example/frist/frist/OnDeleteAction") }, accessFlags := 9, code := some k6c1 }
def k6c2 : Code := { maxStack := 1, maxLocals := 1, code := prog_4_method_5_code, exceptionTable := #[], attributes := #[] }
def k6m2 : Method := { name := "key", desc := "()Ljava/lang/String;", sig := { parameters := [], returnType := some (.object "java/lang/String") }, accessFlags := 1, code := some k6c2 }
/-- com/example/frist/frist/OnDeleteAction -/
def k6 : Class := { plain "com/example/frist/frist/OnDeleteAction" (some 5) with
  accessFlags := 16433
  interfaces := #[]
  cf := some (fileOf pool6 1 #[] #[{ accessFlags := 9, nameIndex := 45, descriptorIndex := 46, attributes := #[] }, { accessFlags := 9, nameIndex := 98, descriptorIndex := 95, attributes := #[] }, { accessFlags := 1, nameIndex := 34, descriptorIndex := 100, attributes := #[] }] 16433 23 #[] #[{ accessFlags := 16409, nameIndex := 5, descriptorIndex := 6, attributes := #[] }, { accessFlags := 16409, nameIndex := 9, descriptorIndex := 6, attributes := #[] }, { accessFlags := 16409, nameIndex := 12, descriptorIndex := 6, attributes := #[] }, { accessFlags := 18, nameIndex := 34, descriptorIndex := 35, attributes := #[] }, { accessFlags := 4122, nameIndex := 15, descriptorIndex := 16, attributes := #[] }])
  fields := #[{ name := "ASYNC_DELETE", type := (.object "com/example/frist/frist/OnDeleteAction"), accessFlags := 16409, slot := 0, constantValue := 0 }, { name := "ASYNC_NULLIFY", type := (.object "com/example/frist/frist/OnDeleteAction"), accessFlags := 16409, slot := 1, constantValue := 0 }, { name := "UPDATE_COLUMN_TO", type := (.object "com/example/frist/frist/OnDeleteAction"), accessFlags := 16409, slot := 2, constantValue := 0 }, { name := "key", type := (.object "java/lang/String"), accessFlags := 18, slot := 3, constantValue := 0 }, { name := "$VALUES", type := (.array (.object "com/example/frist/frist/OnDeleteAction")), accessFlags := 4122, slot := 3, constantValue := 0 }]
  methods := #[k6m0, k6m1, k6m2]
  instanceTypes := #[(.object "java/lang/String"), .int, .int, (.object "java/lang/String")]
  staticTypes := #[(.object "com/example/frist/frist/OnDeleteAction"), (.object "com/example/frist/frist/OnDeleteAction"), (.object "com/example/frist/frist/OnDeleteAction"), (.array (.object "com/example/frist/frist/OnDeleteAction"))]
  resolved := Array.replicate 120 none
  statics := some 0 }

def pool7 : Array CpInfo := pool [(2, .class_ 4), (1, u "java/lang/CharSequence"), (42, .class_ 48), (0, u "java/lang/CharSequence$1CodePointIterator"), (10, .class_ 60), (0, u "java/lang/CharSequence$1CharIterator"), (5, .class_ 67), (0, u "java/lang/Object")] 63

/-- java/lang/CharSequence -/
def k7 : Class := { plain "java/lang/CharSequence" (some 0) with
  accessFlags := 1537
  interfaces := #[]
  cf := some (fileOf pool7 2 #[.nestMembers #[47, 59]] #[] 1537 66 #[] #[])
  fields := #[]
  methods := #[]
  instanceTypes := #[]
  staticTypes := #[]
  resolved := Array.replicate 131 none
  statics := none }

def pool8 : Array CpInfo := pool [(1, .class_ 2), (0, u "java/lang/constant/ConstantDesc"), (0, .class_ 4), (0, u "java/lang/Object")] 32

/-- java/lang/constant/ConstantDesc -/
def k8 : Class := { plain "java/lang/constant/ConstantDesc" (some 0) with
  accessFlags := 1537
  interfaces := #[]
  cf := some (fileOf pool8 1 #[] #[] 1537 3 #[] #[])
  fields := #[]
  methods := #[]
  instanceTypes := #[]
  staticTypes := #[]
  resolved := Array.replicate 37 none
  statics := none }

def pool9 : Array CpInfo := pool [(1, .methodref 2 3), (0, .class_ 4), (0, .nameAndType 5 6), (0, u "java/lang/Object"), (0, u "<init>"), (0, u "()V"), (2, .fieldref 10 11), (0, .class_ 12), (0, .nameAndType 13 14), (0, u "java/lang/String"), (0, u "value"), (0, u "[B"), (0, .fieldref 10 16), (0, .nameAndType 17 18), (0, u "coder"), (0, u "B"), (2, u "hash"), (0, u "I"), (2, u "hashIsZero"), (0, u "Z"), (0, .methodref 10 28), (0, .nameAndType 5 29), (0, u "([CIILjava/lang/Void;)V"), (8, .fieldref 10 39), (0, .nameAndType 40 26), (0, u "COMPACT_STRINGS"), (1, .class_ 44), (1, u "java/lang/StringUTF16"), (0, u "compress"), (1, .methodref 42 48), (0, .nameAndType 49 50), (0, u "coderFromArrayLen"), (0, u "([BI)B"), (56, .class_ 109), (1, u "java/lang/StringLatin1"), (67, .methodref 42 178), (0, .nameAndType 45 179), (0, u "([CII)[B"), (361, .methodref 107 542), (0, .nameAndType 543 544), (0, u "equals"), (0, u "([B[B)Z"), (28, u "(Ljava/lang/Object;)Z"), (1, .class_ 576), (0, u "java/lang/CharSequence"), (22, u "CASE_INSENSITIVE_ORDER"), (0, u "Ljava/util/Comparator;"), (409, u "([C)V"), (90, u "serialPersistentFields"), (0, u "[Ljava/io/ObjectStreamField;"), (0, .class_ 1104), (0, u "java/lang/String$CaseInsensitiveComparator"), (1, .class_ 1107), (0, u "java/io/Serializable"), (0, .class_ 1109), (0, u "java/lang/Comparable"), (0, .class_ 1111), (0, u "java/lang/constant/Constable"), (0, .class_ 1113), (0, u "java/lang/constant/ConstantDesc"), (2, u "serialVersionUID"), (0, u "J"), (3, u "REPL"), (0, u "C"), (2, u "LATIN1"), (1, u "UTF16")] 323

def k9m0 : Method := { name := "<init>", desc := "()V", sig := { parameters := [], returnType := none }, accessFlags := 1, code := none }
def k9c1 : Code := { maxStack := 5, maxLocals := 2, code := jdk_42_method_3_code, exceptionTable := #[], attributes := #[] }
def k9m1 : Method := { name := "<init>", desc := "([C)V", sig := { parameters := [(.array .char)], returnType := none }, accessFlags := 1, code := some k9c1 }
def k9c2 : Code := { maxStack := 2, maxLocals := 3, code := jdk_42_method_66_code, exceptionTable := #[], attributes := #[] }
def k9m2 : Method := { name := "equals", desc := "(Ljava/lang/Object;)Z", sig := { parameters := [(.object "java/lang/Object")], returnType := some .boolean }, accessFlags := 1, code := some k9c2 }
def k9c3 : Code := { maxStack := 4, maxLocals := 6, code := jdk_42_method_149_code, exceptionTable := #[], attributes := #[] }
def k9m3 : Method := { name := "<init>", desc := "([CIILjava/lang/Void;)V", sig := { parameters := [(.array .char), .int, .int, (.object "java/lang/Void")], returnType := none }, accessFlags := 2, code := some k9c3 }
/-- java/lang/String -/
def k9 : Class := { plain "java/lang/String" (some 0) with
  accessFlags := 49
  interfaces := #[4, 3, 7, 2, 8]
  cf := some (fileOf pool9 10 #[.nestMembers #[1103]] #[{ accessFlags := 1, nameIndex := 5, descriptorIndex := 6, attributes := #[] }, { accessFlags := 1, nameIndex := 5, descriptorIndex := 1010, attributes := #[] }, { accessFlags := 1, nameIndex := 543, descriptorIndex := 573, attributes := #[] }, { accessFlags := 2, nameIndex := 5, descriptorIndex := 29, attributes := #[] }] 49 2 #[1106, 1108, 575, 1110, 1112] #[{ accessFlags := 18, nameIndex := 13, descriptorIndex := 14, attributes := #[] }, { accessFlags := 18, nameIndex := 17, descriptorIndex := 18, attributes := #[] }, { accessFlags := 2, nameIndex := 21, descriptorIndex := 22, attributes := #[] }, { accessFlags := 2, nameIndex := 25, descriptorIndex := 26, attributes := #[] }, { accessFlags := 26, nameIndex := 1116, descriptorIndex := 1117, attributes := #[] }, { accessFlags := 24, nameIndex := 40, descriptorIndex := 26, attributes := #[] }, { accessFlags := 26, nameIndex := 1101, descriptorIndex := 1102, attributes := #[] }, { accessFlags := 26, nameIndex := 1121, descriptorIndex := 1122, attributes := #[] }, { accessFlags := 25, nameIndex := 599, descriptorIndex := 600, attributes := #[] }, { accessFlags := 24, nameIndex := 1125, descriptorIndex := 18, attributes := #[] }, { accessFlags := 24, nameIndex := 1127, descriptorIndex := 18, attributes := #[] }])
  fields := #[{ name := "value", type := (.array .byte), accessFlags := 18, slot := 0, constantValue := 0 }, { name := "coder", type := .byte, accessFlags := 18, slot := 1, constantValue := 0 }, { name := "hash", type := .int, accessFlags := 2, slot := 2, constantValue := 0 }, { name := "hashIsZero", type := .boolean, accessFlags := 2, slot := 3, constantValue := 0 }, { name := "serialVersionUID", type := .long, accessFlags := 26, slot := 0, constantValue := 0 }, { name := "COMPACT_STRINGS", type := .boolean, accessFlags := 24, slot := 1, constantValue := 0 }, { name := "serialPersistentFields", type := (.array (.object "java/io/ObjectStreamField")), accessFlags := 26, slot := 2, constantValue := 0 }, { name := "REPL", type := .char, accessFlags := 26, slot := 3, constantValue := 0 }, { name := "CASE_INSENSITIVE_ORDER", type := (.object "java/util/Comparator"), accessFlags := 25, slot := 4, constantValue := 0 }, { name := "LATIN1", type := .byte, accessFlags := 24, slot := 5, constantValue := 0 }, { name := "UTF16", type := .byte, accessFlags := 24, slot := 6, constantValue := 0 }]
  methods := #[k9m0, k9m1, k9m2, k9m3]
  instanceTypes := #[(.array .byte), .byte, .int, .boolean]
  staticTypes := #[.long, .boolean, (.array (.object "java/io/ObjectStreamField")), .char, (.object "java/util/Comparator"), .byte, .byte]
  resolved := Array.replicate 1451 none
  statics := some 1 }

def pool10 : Array CpInfo := pool [(6, .class_ 8), (1, u "java/lang/Object"), (0, u "<init>"), (0, u "()V"), (1, .class_ 14), (1, u "java/lang/StringUTF16"), (31, u "$assertionsDisabled"), (0, u "Z"), (13, u "HI_BYTE_SHIFT"), (0, u "I"), (2, u "LO_BYTE_SHIFT"), (49, .methodref 12 116), (0, .nameAndType 117 118), (0, u "compress"), (0, u "([CI[BII)I"), (3, u "([CII)[B"), (138, u "coderFromArrayLen"), (0, u "([BI)B"), (106, .class_ 371), (1, u "java/lang/StringUTF16$LinesSpliterator"), (58, u "MAX_LENGTH"), (196, .class_ 628), (0, u "java/lang/StringUTF16$CodePointsSpliterator"), (0, .class_ 630), (0, u "java/lang/StringUTF16$CharsSpliterator")] 4

def k10m0 : Method := { name := "<init>", desc := "()V", sig := { parameters := [], returnType := none }, accessFlags := 0, code := none }
def k10c1 : Code := { maxStack := 2, maxLocals := 2, code := jdk_52_method_15_code, exceptionTable := #[], attributes := #[] }
def k10m1 : Method := { name := "coderFromArrayLen", desc := "([BI)B", sig := { parameters := [(.array .byte), .int], returnType := some .byte }, accessFlags := 8, code := some k10c1 }
def k10c2 : Code := { maxStack := 5, maxLocals := 6, code := jdk_52_method_16_code, exceptionTable := #[], attributes := #[] }
def k10m2 : Method := { name := "compress", desc := "([CII)[B", sig := { parameters := [(.array .char), .int, .int], returnType := some (.array .byte) }, accessFlags := 9, code := some k10c2 }
def k10c3 : Code := { maxStack := 3, maxLocals := 7, code := jdk_52_method_21_code, exceptionTable := #[], attributes := #[] }
def k10m3 : Method := { name := "compress", desc := "([CI[BII)I", sig := { parameters := [(.array .char), .int, (.array .byte), .int, .int], returnType := some .int }, accessFlags := 9, code := some k10c3 }
/-- java/lang/StringUTF16 -/
def k10 : Class := { plain "java/lang/StringUTF16" (some 0) with
  accessFlags := 48
  interfaces := #[]
  cf := some (fileOf pool10 12 #[.nestMembers #[627, 629, 369]] #[{ accessFlags := 0, nameIndex := 9, descriptorIndex := 10, attributes := #[] }, { accessFlags := 8, nameIndex := 261, descriptorIndex := 262, attributes := #[] }, { accessFlags := 9, nameIndex := 117, descriptorIndex := 122, attributes := #[] }, { accessFlags := 9, nameIndex := 117, descriptorIndex := 118, attributes := #[] }] 48 6 #[] #[{ accessFlags := 26, nameIndex := 61, descriptorIndex := 62, attributes := #[] }, { accessFlags := 26, nameIndex := 65, descriptorIndex := 62, attributes := #[] }, { accessFlags := 24, nameIndex := 430, descriptorIndex := 62, attributes := #[] }, { accessFlags := 4120, nameIndex := 46, descriptorIndex := 47, attributes := #[] }])
  fields := #[{ name := "HI_BYTE_SHIFT", type := .int, accessFlags := 26, slot := 0, constantValue := 0 }, { name := "LO_BYTE_SHIFT", type := .int, accessFlags := 26, slot := 1, constantValue := 0 }, { name := "MAX_LENGTH", type := .int, accessFlags := 24, slot := 2, constantValue := 0 }, { name := "$assertionsDisabled", type := .boolean, accessFlags := 4120, slot := 3, constantValue := 0 }]
  methods := #[k10m0, k10m1, k10m2, k10m3]
  instanceTypes := #[]
  staticTypes := #[.int, .int, .int, .boolean]
  resolved := Array.replicate 635 none
  statics := none }

def pool11 : Array CpInfo := pool [(2, .class_ 4), (1, u "java/lang/Object"), (0, u "<init>"), (0, u "()V"), (35, .class_ 44), (1, u "java/util/Objects"), (0, u "requireNonNull"), (48, u "(Ljava/lang/Object;Ljava/lang/String;)Ljava/lang/Object;")] 89

def k11m0 : Method := { name := "<init>", desc := "()V", sig := { parameters := [], returnType := none }, accessFlags := 2, code := none }
def k11c1 : Code := { maxStack := 3, maxLocals := 2, code := jdk_31_method_11_code, exceptionTable := #[], attributes := #[] }
def k11m1 : Method := { name := "requireNonNull", desc := "(Ljava/lang/Object;Ljava/lang/String;)Ljava/lang/Object;", sig := { parameters := [(.object "java/lang/Object"), (.object "java/lang/String")], returnType := some (.object "java/lang/Object") }, accessFlags := 9, code := some k11c1 }
/-- java/util/Objects -/
def k11 : Class := { plain "java/util/Objects" (some 0) with
  accessFlags := 49
  interfaces := #[]
  cf := some (fileOf pool11 42 #[] #[{ accessFlags := 2, nameIndex := 5, descriptorIndex := 6, attributes := #[] }, { accessFlags := 9, nameIndex := 45, descriptorIndex := 94, attributes := #[] }] 49 2 #[] #[])
  fields := #[]
  methods := #[k11m0, k11m1]
  instanceTypes := #[]
  staticTypes := #[]
  resolved := Array.replicate 184 none
  statics := none }

def pool12 : Array CpInfo := pool [(1, .class_ 2), (0, u "java/lang/Cloneable"), (0, .class_ 4), (0, u "java/lang/Object")] 2

/-- java/lang/Cloneable -/
def k12 : Class := { plain "java/lang/Cloneable" (some 0) with
  accessFlags := 1537
  interfaces := #[]
  cf := some (fileOf pool12 1 #[] #[] 1537 3 #[] #[])
  fields := #[]
  methods := #[]
  instanceTypes := #[]
  staticTypes := #[]
  resolved := Array.replicate 7 none
  statics := none }

def pool13 : Array CpInfo := pool [(4, .class_ 6), (1, u "java/lang/Object"), (0, u "<init>"), (0, u "()V"), (5, .class_ 16), (1, u "java/lang/StringLatin1"), (104, u "$assertionsDisabled"), (0, u "Z"), (98, .class_ 223), (1, u "java/lang/StringLatin1$LinesSpliterator"), (57, u "equals"), (0, u "([B[B)Z"), (107, .class_ 391), (0, u "java/lang/StringLatin1$CharsSpliterator")] 3

def k13m0 : Method := { name := "<init>", desc := "()V", sig := { parameters := [], returnType := none }, accessFlags := 0, code := none }
def k13c1 : Code := { maxStack := 3, maxLocals := 3, code := jdk_43_method_13_code, exceptionTable := #[], attributes := #[] }
def k13m1 : Method := { name := "equals", desc := "([B[B)Z", sig := { parameters := [(.array .byte), (.array .byte)], returnType := some .boolean }, accessFlags := 9, code := some k13c1 }
/-- java/lang/StringLatin1 -/
def k13 : Class := { plain "java/lang/StringLatin1" (some 0) with
  accessFlags := 48
  interfaces := #[]
  cf := some (fileOf pool13 14 #[.nestMembers #[390, 221]] #[{ accessFlags := 0, nameIndex := 7, descriptorIndex := 8, attributes := #[] }, { accessFlags := 9, nameIndex := 281, descriptorIndex := 282, attributes := #[] }] 48 4 #[] #[{ accessFlags := 4120, nameIndex := 121, descriptorIndex := 122, attributes := #[] }])
  fields := #[{ name := "$assertionsDisabled", type := .boolean, accessFlags := 4120, slot := 0, constantValue := 0 }]
  methods := #[k13m0, k13m1]
  instanceTypes := #[]
  staticTypes := #[.boolean]
  resolved := Array.replicate 395 none
  statics := none }

def pool14 : Array CpInfo := pool [(2, .class_ 4), (1, u "java/lang/Object"), (0, u "<init>"), (0, u "()V"), (17, .class_ 26), (1, u "jdk/internal/util/Preconditions"), (28, .class_ 56), (0, u "jdk/internal/util/Preconditions$4"), (57, .class_ 115), (0, u "jdk/internal/util/Preconditions$1"), (7, u "SIOOBE_FORMATTER"), (0, u "Ljava/util/function/BiFunction;"), (0, .class_ 126), (0, u "jdk/internal/util/Preconditions$2"), (3, u "AIOOBE_FORMATTER"), (0, .class_ 132), (0, u "jdk/internal/util/Preconditions$3"), (3, u "IOOBE_FORMATTER")] 57

def k14m0 : Method := { name := "<init>", desc := "()V", sig := { parameters := [], returnType := none }, accessFlags := 1, code := none }
/-- jdk/internal/util/Preconditions -/
def k14 : Class := { plain "jdk/internal/util/Preconditions" (some 0) with
  accessFlags := 33
  interfaces := #[]
  cf := some (fileOf pool14 24 #[.nestMembers #[55, 131, 125, 114]] #[{ accessFlags := 1, nameIndex := 5, descriptorIndex := 6, attributes := #[] }] 33 2 #[] #[{ accessFlags := 25, nameIndex := 123, descriptorIndex := 124, attributes := #[] }, { accessFlags := 25, nameIndex := 130, descriptorIndex := 124, attributes := #[] }, { accessFlags := 25, nameIndex := 136, descriptorIndex := 124, attributes := #[] }])
  fields := #[{ name := "SIOOBE_FORMATTER", type := (.object "java/util/function/BiFunction"), accessFlags := 25, slot := 0, constantValue := 0 }, { name := "AIOOBE_FORMATTER", type := (.object "java/util/function/BiFunction"), accessFlags := 25, slot := 1, constantValue := 0 }, { name := "IOOBE_FORMATTER", type := (.object "java/util/function/BiFunction"), accessFlags := 25, slot := 2, constantValue := 0 }]
  methods := #[k14m0]
  instanceTypes := #[]
  staticTypes := #[(.object "java/util/function/BiFunction"), (.object "java/util/function/BiFunction"), (.object "java/util/function/BiFunction")]
  resolved := Array.replicate 194 none
  statics := some 2 }

def pool15 : Array CpInfo := pool [(9, u "<init>"), (6, .class_ 18), (1, u "java/lang/Object"), (0, u "()V"), (1, .class_ 23), (1, u "jdk/internal/util/ArraysSupport"), (0, u "LOG2_ARRAY_LONG_INDEX_SCALE"), (0, u "I"), (2, u "U"), (0, u "Ljdk/internal/misc/Unsafe;"), (8, u "BIG_ENDIAN"), (0, u "Z"), (8, u "LOG2_BYTE_BIT_SIZE"), (4, u "LOG2_ARRAY_INT_INDEX_SCALE"), (54, u "JLA"), (0, u "Ljdk/internal/access/JavaLangAccess;"), (11, u "LOG2_ARRAY_BOOLEAN_INDEX_SCALE"), (9, u "LOG2_ARRAY_BYTE_INDEX_SCALE"), (5, u "LOG2_ARRAY_CHAR_INDEX_SCALE"), (5, u "LOG2_ARRAY_SHORT_INDEX_SCALE"), (18, u "LOG2_ARRAY_FLOAT_INDEX_SCALE"), (24, u "LOG2_ARRAY_DOUBLE_INDEX_SCALE"), (89, u "T_BOOLEAN"), (2, u "T_CHAR"), (1, u "T_FLOAT"), (1, u "T_DOUBLE"), (1, u "T_BYTE"), (1, u "T_SHORT"), (1, u "T_INT"), (1, u "T_LONG"), (1, u "SOFT_MAX_ARRAY_LENGTH")] 83

def k15m0 : Method := { name := "<init>", desc := "()V", sig := { parameters := [], returnType := none }, accessFlags := 2, code := none }
/-- jdk/internal/util/ArraysSupport -/
def k15 : Class := { plain "jdk/internal/util/ArraysSupport" (some 0) with
  accessFlags := 33
  interfaces := #[]
  cf := some (fileOf pool15 21 #[] #[{ accessFlags := 2, nameIndex := 9, descriptorIndex := 19, attributes := #[] }] 33 16 #[] #[{ accessFlags := 24, nameIndex := 28, descriptorIndex := 29, attributes := #[] }, { accessFlags := 26, nameIndex := 38, descriptorIndex := 39, attributes := #[] }, { accessFlags := 25, nameIndex := 121, descriptorIndex := 25, attributes := #[] }, { accessFlags := 25, nameIndex := 131, descriptorIndex := 25, attributes := #[] }, { accessFlags := 25, nameIndex := 137, descriptorIndex := 25, attributes := #[] }, { accessFlags := 25, nameIndex := 143, descriptorIndex := 25, attributes := #[] }, { accessFlags := 25, nameIndex := 53, descriptorIndex := 25, attributes := #[] }, { accessFlags := 25, nameIndex := 24, descriptorIndex := 25, attributes := #[] }, { accessFlags := 25, nameIndex := 162, descriptorIndex := 25, attributes := #[] }, { accessFlags := 25, nameIndex := 187, descriptorIndex := 25, attributes := #[] }, { accessFlags := 26, nameIndex := 48, descriptorIndex := 25, attributes := #[] }, { accessFlags := 25, nameIndex := 277, descriptorIndex := 25, attributes := #[] }, { accessFlags := 25, nameIndex := 280, descriptorIndex := 25, attributes := #[] }, { accessFlags := 25, nameIndex := 282, descriptorIndex := 25, attributes := #[] }, { accessFlags := 25, nameIndex := 284, descriptorIndex := 25, attributes := #[] }, { accessFlags := 25, nameIndex := 286, descriptorIndex := 25, attributes := #[] }, { accessFlags := 25, nameIndex := 288, descriptorIndex := 25, attributes := #[] }, { accessFlags := 25, nameIndex := 290, descriptorIndex := 25, attributes := #[] }, { accessFlags := 25, nameIndex := 292, descriptorIndex := 25, attributes := #[] }, { accessFlags := 26, nameIndex := 108, descriptorIndex := 109, attributes := #[] }, { accessFlags := 25, nameIndex := 294, descriptorIndex := 25, attributes := #[] }])
  fields := #[{ name := "U", type := (.object "jdk/internal/misc/Unsafe"), accessFlags := 24, slot := 0, constantValue := 0 }, { name := "BIG_ENDIAN", type := .boolean, accessFlags := 26, slot := 1, constantValue := 0 }, { name := "LOG2_ARRAY_BOOLEAN_INDEX_SCALE", type := .int, accessFlags := 25, slot := 2, constantValue := 0 }, { name := "LOG2_ARRAY_BYTE_INDEX_SCALE", type := .int, accessFlags := 25, slot := 3, constantValue := 0 }, { name := "LOG2_ARRAY_CHAR_INDEX_SCALE", type := .int, accessFlags := 25, slot := 4, constantValue := 0 }, { name := "LOG2_ARRAY_SHORT_INDEX_SCALE", type := .int, accessFlags := 25, slot := 5, constantValue := 0 }, { name := "LOG2_ARRAY_INT_INDEX_SCALE", type := .int, accessFlags := 25, slot := 6, constantValue := 0 }, { name := "LOG2_ARRAY_LONG_INDEX_SCALE", type := .int, accessFlags := 25, slot := 7, constantValue := 0 }, { name := "LOG2_ARRAY_FLOAT_INDEX_SCALE", type := .int, accessFlags := 25, slot := 8, constantValue := 0 }, { name := "LOG2_ARRAY_DOUBLE_INDEX_SCALE", type := .int, accessFlags := 25, slot := 9, constantValue := 0 }, { name := "LOG2_BYTE_BIT_SIZE", type := .int, accessFlags := 26, slot := 10, constantValue := 0 }, { name := "T_BOOLEAN", type := .int, accessFlags := 25, slot := 11, constantValue := 0 }, { name := "T_CHAR", type := .int, accessFlags := 25, slot := 12, constantValue := 0 }, { name := "T_FLOAT", type := .int, accessFlags := 25, slot := 13, constantValue := 0 }, { name := "T_DOUBLE", type := .int, accessFlags := 25, slot := 14, constantValue := 0 }, { name := "T_BYTE", type := .int, accessFlags := 25, slot := 15, constantValue := 0 }, { name := "T_SHORT", type := .int, accessFlags := 25, slot := 16, constantValue := 0 }, { name := "T_INT", type := .int, accessFlags := 25, slot := 17, constantValue := 0 }, { name := "T_LONG", type := .int, accessFlags := 25, slot := 18, constantValue := 0 }, { name := "JLA", type := (.object "jdk/internal/access/JavaLangAccess"), accessFlags := 26, slot := 19, constantValue := 0 }, { name := "SOFT_MAX_ARRAY_LENGTH", type := .int, accessFlags := 25, slot := 20, constantValue := 0 }]
  methods := #[k15m0]
  instanceTypes := #[]
  staticTypes := #[(.object "jdk/internal/misc/Unsafe"), .boolean, .int, .int, .int, .int, .int, .int, .int, .int, .int, .int, .int, .int, .int, .int, .int, .int, .int, (.object "jdk/internal/access/JavaLangAccess"), .int]
  resolved := Array.replicate 378 none
  statics := none }

/-- the primitive byte -/
def k16 : Class := { plain "byte" none with kind := .primitive 'B', accessFlags := 0x411 }
/-- [B -/
def k17 : Class := { plain "[B" (some 0) with kind := .array 16 .byte, interfaces := #[12, 4], accessFlags := 1041 }

/-- the primitive char -/
def k18 : Class := { plain "char" none with kind := .primitive 'C', accessFlags := 0x411 }
/-- [C -/
def k19 : Class := { plain "[C" (some 0) with kind := .array 18 .char, interfaces := #[12, 4], accessFlags := 1041 }

/-- the primitive int -/
def k20 : Class := { plain "int" none with kind := .primitive 'I', accessFlags := 0x411 }
/-- [I -/
def k21 : Class := { plain "[I" (some 0) with kind := .array 20 .int, interfaces := #[12, 4], accessFlags := 1041 }

/-- [Lcom/example/frist/frist/OnDeleteAction; -/
def k22 : Class := { plain "[Lcom/example/frist/frist/OnDeleteAction;" (some 0) with kind := .array 6 (.object "com/example/frist/frist/OnDeleteAction"), interfaces := #[12, 4], accessFlags := 1041 }

def heap : Heap := #[{ cls := 6, slots := #[.ref 4, .ref 5, .ref 6, .ref 3], vm := .statics 6 },
  { cls := 9, slots := #[.long 0, .int 1, .null, .int 0, .null, .int 0, .int 0], vm := .statics 9 },
  { cls := 14, slots := #[.null, .null, .null], vm := .statics 14 },
  { cls := 22, slots := #[.ref 4, .ref 5, .ref 6], vm := .none },
  { cls := 6, slots := #[.null, .int 0, .int 0, .ref 7], vm := .none },
  { cls := 6, slots := #[.null, .int 1, .int 0, .ref 8], vm := .none },
  { cls := 6, slots := #[.null, .int 2, .int 0, .ref 9], vm := .none },
  { cls := 9, slots := #[.ref 10, .int 0, .int 0, .int 0], vm := .none },
  { cls := 9, slots := #[.ref 11, .int 0, .int 0, .int 0], vm := .none },
  { cls := 9, slots := #[.ref 12, .int 0, .int 0, .int 0], vm := .none },
  { cls := 17, slots := #[.int 97, .int 115, .int 121, .int 110, .int 99, .int 95, .int 100, .int 101, .int 108, .int 101, .int 116, .int 101], vm := .none },
  { cls := 17, slots := #[.int 97, .int 115, .int 121, .int 110, .int 99, .int 95, .int 110, .int 117, .int 108, .int 108, .int 105, .int 102, .int 121], vm := .none },
  { cls := 17, slots := #[.int 117, .int 112, .int 100, .int 97, .int 116, .int 101, .int 95, .int 99, .int 111, .int 108, .int 117, .int 109, .int 110, .int 95, .int 116, .int 111], vm := .none }]
def classes : Array Class := #[k0, k1, k2, k3, k4, k5, k6, k7, k8, k9, k10, k11, k12, k13, k14, k15, k16, k17, k18, k19, k20, k21, k22]
def interned : List (Array UInt16 × Addr) := []
def slotsUsed : Nat := 82
def theMethod : MethodId := ⟨1, 1⟩
def args0 : Array Value := #[.int 5]
def aboutOver (below : List Frame) : State where
  vm := { classes := classes, interned := interned.toArray }
  heap := heap
  slotsUsed := slotsUsed
  threads := #[{ frames := .invoking theMethod args0 :: below }]
def below0 : List Frame := [.native { method := ⟨0, 0⟩, args := #[] }]
def about1 : State := aboutOver below0
def p0 : Program := .bare "" "" ""
def e0 : Env := launch0.env 0 0 0
theorem w_frames : about1.frames = Frame.invoking theMethod args0 :: below0 := rfl
set_option maxRecDepth 65536 in
theorem w_args : argsFit about1.vm theMethod args0 = true := by decide +kernel
set_option maxRecDepth 65536 in
theorem w_heap : heapFits about1 = true := by decide +kernel
set_option maxRecDepth 65536 in
theorem w_runnable : about1.curStatus? = some .runnable := by decide +kernel
set_option maxRecDepth 65536 in
theorem w_alone : about1.alone = true := by decide +kernel
set_option maxRecDepth 65536 in
theorem w_named : about1.methodNamed? x = some theMethod := by decide +kernel
set_option maxRecDepth 65536 in
theorem w_hears : about1.hears theMethod below0 = true := by decide +kernel
set_option maxRecDepth 65536 in
theorem w_ripe : about1.ripe theMethod args0 below0 = true := by decide +kernel
theorem w_running : about1.status = .running := rfl
set_option maxRecDepth 65536 in
theorem w_room : about1.hasRoom e0.platform room_1 = true :=
  launch0.hasRoom_least _ room_1 (by decide +kernel) (by decide +kernel) (by decide +kernel) (by decide +kernel) (by decide +kernel) (by decide +kernel)
theorem allAtoms_all (ts : List Jvm.Cond) (a : Array Jvm.Value) (st : Jvm.State) : (allAtoms ts).before a st = ts.all (fun c => c.before a st) := by
  induction ts with
  | nil => rfl
  | cons c t ih =>
    show (Jvm.Cond.and c (allAtoms t)).before a st = _
    rw [Jvm.Cond.before_and, ih, List.all_cons]
def words1 : List Jvm.Cond := Jvm.Cond.code x code maxLocals ret :: tables_1
/-- a 'code' word, met by the world's own term for the bytes: nothing is compared byte by byte -/
theorem code_word {y : MethodName} {bytes : ByteArray} {mx : Nat} {rt : Option FieldType} {a : Array Value} {s : State} {m : MethodId} {meth : Method} {c : Code} (h1 : s.methodNamed? y = some m) (h2 : s.vm.method? m = some meth) (h3 : meth.code = some c) (h4 : c.code = bytes)
    (h5 : (c.maxLocals == mx && c.exceptionTable.isEmpty && decide (c.maxStack ≤ mostOperands) && decide (meth.sig.returnType = rt) && !meth.locks && decide (parseMethodDescriptor y.desc = some meth.sig)) = true) : (Jvm.Cond.code y bytes mx rt).before a s = true := by
  simp only [Bool.and_eq_true, beq_iff_eq, Bool.not_eq_true', decide_eq_true_eq] at h5
  obtain ⟨⟨⟨⟨⟨g1, g2⟩, g3⟩, g4⟩, g5⟩, g6⟩ := h5
  simp [Cond.before, Cond.holds, Cond.value, h1, h2, h3, h4, g1, g2, g3, g4, g5, g6]
def isCode : Jvm.Cond → Bool
  | .code _ _ _ _ => true
  | _ => false
theorem all_split {L : List Jvm.Cond} {P : Jvm.Cond → Bool} (h1 : L.all (fun c => isCode c || P c) = true) (h2 : ∀ c ∈ L.filter isCode, P c = true) : L.all P = true := by
  refine List.all_eq_true.mpr fun c hc => ?_
  have h := List.all_eq_true.mp h1 c hc
  rcases Bool.eq_false_or_eq_true (isCode c) with hi | hi
  · exact h2 c (List.mem_filter.mpr ⟨hc, hi⟩)
  · simpa [hi] using h
set_option maxRecDepth 65536 in
theorem w_c0 : (Jvm.Cond.code x code maxLocals ret).before args0 about1 = true := code_word (m := ⟨1, 1⟩) (meth := k1m1) (c := k1c1) (by decide +kernel) rfl rfl rfl (by decide +kernel)
set_option maxRecDepth 65536 in
theorem w_c1 : (Jvm.Cond.code ({ cls := "java/lang/String", name := "<init>", desc := "([C)V" } : Jvm.MethodName) jdk_42_method_3_code (2 : Nat) (Option.none : Option Jvm.ClassFile.FieldType)).before args0 about1 = true := code_word (m := ⟨9, 1⟩) (meth := k9m1) (c := k9c1) (by decide +kernel) rfl rfl rfl (by decide +kernel)
set_option maxRecDepth 65536 in
theorem w_c2 : (Jvm.Cond.code ({ cls := "java/lang/String", name := "<init>", desc := "([CIILjava/lang/Void;)V" } : Jvm.MethodName) jdk_42_method_149_code (6 : Nat) (Option.none : Option Jvm.ClassFile.FieldType)).before args0 about1 = true := code_word (m := ⟨9, 3⟩) (meth := k9m3) (c := k9c3) (by decide +kernel) rfl rfl rfl (by decide +kernel)
set_option maxRecDepth 65536 in
theorem w_c3 : (Jvm.Cond.code ({ cls := "java/lang/Object", name := "<init>", desc := "()V" } : Jvm.MethodName) object_method_1_code (1 : Nat) (Option.none : Option Jvm.ClassFile.FieldType)).before args0 about1 = true := code_word (m := ⟨0, 0⟩) (meth := k0m0) (c := k0c0) (by decide +kernel) rfl rfl rfl (by decide +kernel)
set_option maxRecDepth 65536 in
theorem w_c4 : (Jvm.Cond.code ({ cls := "java/lang/StringUTF16", name := "compress", desc := "([CII)[B" } : Jvm.MethodName) jdk_52_method_16_code (6 : Nat) (Option.some (Jvm.ClassFile.FieldType.array Jvm.ClassFile.FieldType.byte))).before args0 about1 = true := code_word (m := ⟨10, 2⟩) (meth := k10m2) (c := k10c2) (by decide +kernel) rfl rfl rfl (by decide +kernel)
set_option maxRecDepth 65536 in
theorem w_c5 : (Jvm.Cond.code ({ cls := "java/lang/StringUTF16", name := "compress", desc := "([CI[BII)I" } : Jvm.MethodName) jdk_52_method_21_code (7 : Nat) (Option.some Jvm.ClassFile.FieldType.int)).before args0 about1 = true := code_word (m := ⟨10, 3⟩) (meth := k10m3) (c := k10c3) (by decide +kernel) rfl rfl rfl (by decide +kernel)
set_option maxRecDepth 65536 in
theorem w_c6 : (Jvm.Cond.code ({ cls := "java/lang/StringUTF16", name := "coderFromArrayLen", desc := "([BI)B" } : Jvm.MethodName) jdk_52_method_15_code (2 : Nat) (Option.some Jvm.ClassFile.FieldType.byte)).before args0 about1 = true := code_word (m := ⟨10, 1⟩) (meth := k10m1) (c := k10c1) (by decide +kernel) rfl rfl rfl (by decide +kernel)
set_option maxRecDepth 65536 in
theorem w_c7 : (Jvm.Cond.code ({ cls := "com/example/frist/frist/OnDeleteAction", name := "fromKey", desc := "(Ljava/lang/String;)Lcom/example/frist/frist/OnDeleteAction;" } : Jvm.MethodName) prog_4_method_4_code (6 : Nat) (Option.some (Jvm.ClassFile.FieldType.object "com/example/frist/frist/OnDeleteAction"))).before args0 about1 = true := code_word (m := ⟨6, 1⟩) (meth := k6m1) (c := k6c1) (by decide +kernel) rfl rfl rfl (by decide +kernel)
set_option maxRecDepth 65536 in
theorem w_c8 : (Jvm.Cond.code ({ cls := "java/util/Objects", name := "requireNonNull", desc := "(Ljava/lang/Object;Ljava/lang/String;)Ljava/lang/Object;" } : Jvm.MethodName) jdk_31_method_11_code (2 : Nat) (Option.some (Jvm.ClassFile.FieldType.object "java/lang/Object"))).before args0 about1 = true := code_word (m := ⟨11, 1⟩) (meth := k11m1) (c := k11c1) (by decide +kernel) rfl rfl rfl (by decide +kernel)
set_option maxRecDepth 65536 in
theorem w_c9 : (Jvm.Cond.code ({ cls := "com/example/frist/frist/OnDeleteAction", name := "values", desc := "()[Lcom/example/frist/frist/OnDeleteAction;" } : Jvm.MethodName) prog_4_method_1_code (0 : Nat) (Option.some (Jvm.ClassFile.FieldType.array (Jvm.ClassFile.FieldType.object "com/example/frist/frist/OnDeleteAction")))).before args0 about1 = true := code_word (m := ⟨6, 0⟩) (meth := k6m0) (c := k6c0) (by decide +kernel) rfl rfl rfl (by decide +kernel)
set_option maxRecDepth 65536 in
theorem w_c10 : (Jvm.Cond.code ({ cls := "java/lang/String", name := "equals", desc := "(Ljava/lang/Object;)Z" } : Jvm.MethodName) jdk_42_method_66_code (3 : Nat) (Option.some Jvm.ClassFile.FieldType.boolean)).before args0 about1 = true := code_word (m := ⟨9, 2⟩) (meth := k9m2) (c := k9c2) (by decide +kernel) rfl rfl rfl (by decide +kernel)
set_option maxRecDepth 65536 in
theorem w_c11 : (Jvm.Cond.code ({ cls := "java/lang/StringLatin1", name := "equals", desc := "([B[B)Z" } : Jvm.MethodName) jdk_43_method_13_code (3 : Nat) (Option.some Jvm.ClassFile.FieldType.boolean)).before args0 about1 = true := code_word (m := ⟨13, 1⟩) (meth := k13m1) (c := k13c1) (by decide +kernel) rfl rfl rfl (by decide +kernel)
set_option maxRecDepth 65536 in
theorem w_c12 : (Jvm.Cond.code ({ cls := "com/example/frist/frist/OnDeleteAction", name := "key", desc := "()Ljava/lang/String;" } : Jvm.MethodName) prog_4_method_5_code (1 : Nat) (Option.some (Jvm.ClassFile.FieldType.object "java/lang/String"))).before args0 about1 = true := code_word (m := ⟨6, 2⟩) (meth := k6m2) (c := k6c2) (by decide +kernel) rfl rfl rfl (by decide +kernel)
def codes1 : List Jvm.Cond := [Jvm.Cond.code x code maxLocals ret, Jvm.Cond.code ({ cls := "java/lang/String", name := "<init>", desc := "([C)V" } : Jvm.MethodName) jdk_42_method_3_code (2 : Nat) (Option.none : Option Jvm.ClassFile.FieldType), Jvm.Cond.code ({ cls := "java/lang/String", name := "<init>", desc := "([CIILjava/lang/Void;)V" } : Jvm.MethodName) jdk_42_method_149_code (6 : Nat) (Option.none : Option Jvm.ClassFile.FieldType), Jvm.Cond.code ({ cls := "java/lang/Object", name := "<init>", desc := "()V" } : Jvm.MethodName) object_method_1_code (1 : Nat) (Option.none : Option Jvm.ClassFile.FieldType), Jvm.Cond.code ({ cls := "java/lang/StringUTF16", name := "compress", desc := "([CII)[B" } : Jvm.MethodName) jdk_52_method_16_code (6 : Nat) (Option.some (Jvm.ClassFile.FieldType.array Jvm.ClassFile.FieldType.byte)), Jvm.Cond.code ({ cls := "java/lang/StringUTF16", name := "compress", desc := "([CI[BII)I" } : Jvm.MethodName) jdk_52_method_21_code (7 : Nat) (Option.some Jvm.ClassFile.FieldType.int), Jvm.Cond.code ({ cls := "java/lang/StringUTF16", name := "coderFromArrayLen", desc := "([BI)B" } : Jvm.MethodName) jdk_52_method_15_code (2 : Nat) (Option.some Jvm.ClassFile.FieldType.byte), Jvm.Cond.code ({ cls := "com/example/frist/frist/OnDeleteAction", name := "fromKey", desc := "(Ljava/lang/String;)Lcom/example/frist/frist/OnDeleteAction;" } : Jvm.MethodName) prog_4_method_4_code (6 : Nat) (Option.some (Jvm.ClassFile.FieldType.object "com/example/frist/frist/OnDeleteAction")), Jvm.Cond.code ({ cls := "java/util/Objects", name := "requireNonNull", desc := "(Ljava/lang/Object;Ljava/lang/String;)Ljava/lang/Object;" } : Jvm.MethodName) jdk_31_method_11_code (2 : Nat) (Option.some (Jvm.ClassFile.FieldType.object "java/lang/Object")), Jvm.Cond.code ({ cls := "com/example/frist/frist/OnDeleteAction", name := "values", desc := "()[Lcom/example/frist/frist/OnDeleteAction;" } : Jvm.MethodName) prog_4_method_1_code (0 : Nat) (Option.some (Jvm.ClassFile.FieldType.array (Jvm.ClassFile.FieldType.object "com/example/frist/frist/OnDeleteAction"))), Jvm.Cond.code ({ cls := "java/lang/String", name := "equals", desc := "(Ljava/lang/Object;)Z" } : Jvm.MethodName) jdk_42_method_66_code (3 : Nat) (Option.some Jvm.ClassFile.FieldType.boolean), Jvm.Cond.code ({ cls := "java/lang/StringLatin1", name := "equals", desc := "([B[B)Z" } : Jvm.MethodName) jdk_43_method_13_code (3 : Nat) (Option.some Jvm.ClassFile.FieldType.boolean), Jvm.Cond.code ({ cls := "com/example/frist/frist/OnDeleteAction", name := "key", desc := "()Ljava/lang/String;" } : Jvm.MethodName) prog_4_method_5_code (1 : Nat) (Option.some (Jvm.ClassFile.FieldType.object "java/lang/String"))]
set_option maxRecDepth 65536 in
theorem codes_eq : words1.filter isCode = codes1 := rfl
theorem w_codes : ∀ c ∈ words1.filter isCode, c.before args0 about1 = true := by
  rw [codes_eq]
  intro c hc
  simp only [codes1, List.mem_cons, List.not_mem_nil, or_false] at hc
  rcases hc with rfl | rfl | rfl | rfl | rfl | rfl | rfl | rfl | rfl | rfl | rfl | rfl | rfl
  · exact w_c0
  · exact w_c1
  · exact w_c2
  · exact w_c3
  · exact w_c4
  · exact w_c5
  · exact w_c6
  · exact w_c7
  · exact w_c8
  · exact w_c9
  · exact w_c10
  · exact w_c11
  · exact w_c12
set_option maxRecDepth 65536 in
theorem w_t1 : (words1.take 24).all (fun c => isCode c || c.before args0 about1) = true := by decide +kernel
set_option maxRecDepth 65536 in
theorem w_t2 : ((words1.drop 24).take 24).all (fun c => isCode c || c.before args0 about1) = true := by decide +kernel
set_option maxRecDepth 65536 in
theorem w_t3 : (((words1.drop 24).drop 24).take 24).all (fun c => isCode c || c.before args0 about1) = true := by decide +kernel
set_option maxRecDepth 65536 in
theorem w_t4 : (((words1.drop 24).drop 24).drop 24).all (fun c => isCode c || c.before args0 about1) = true := by decide +kernel
theorem w_tables : (allAtoms (Jvm.Cond.code x code maxLocals ret :: tables_1)).before args0 about1 = true := by
  rw [allAtoms_all]
  show words1.all (fun c => c.before args0 about1) = true
  refine all_split ?_ w_codes
  rw [← List.take_append_drop 24 words1, List.all_append, w_t1, ← List.take_append_drop 24 (words1.drop 24), List.all_append, w_t2, ← List.take_append_drop 24 ((words1.drop 24).drop 24), List.all_append, w_t3, w_t4]
  rfl
set_option maxRecDepth 65536 in
theorem w_rest : rest_1_c.before args0 about1 = true := by decide +kernel
set_option maxRecDepth 65536 in
theorem w_case : (Jvm.Cond.and given_1 narrow_1).before args0 about1 = true := by decide +kernel
theorem w_applies : (headSpec (Jvm.Cond.code x code maxLocals ret :: tables_1) room_1).applies x e0.platform about1 = true :=
  (Spec.applies_iff w_frames).mpr ⟨w_running, w_runnable, w_alone, w_named, w_hears, w_ripe, w_room, w_tables⟩
theorem atStart : AtStart classFile x code maxLocals ret World_1 tables_1 room_1 Calls_1 rest_1 Pre_1 launch0 p0 e0 about1 theMethod args0 below0 :=
  ⟨lists_1, trivial, launch0.admits_env _ _ _, launch0.least_env, fairChoices_fair.cas, fairChoices_fair.clock, w_frames, w_args, w_heap, w_applies, trivial, w_rest, w_case⟩
end start1
theorem witness_1 : WitnessClaimed_1 := ⟨start1.p0, start1.e0, start1.about1, start1.theMethod, start1.args0, start1.below0, start1.atStart⟩
end Jvm.Pilot.@@N@@
