import JvmDerived
import JvmDerived.Pilot.@@N@@Statement
import JvmDerived.Pilot.@@N@@Code
set_option linter.unusedVariables false
set_option linter.unusedSimpArgs false
/- laws to paste: Road.backV, Road.eqW, Road.codOf (cut by pick.py; bodies as the Statement names them) -/
namespace Jvm.Pilot.@@N@@
namespace StrChars
open Jvm Sem ClassFile Op Lib Jvm.Stand Jvm.Free.XT Jvm.Free.ALB Jvm.Free.JM Jvm.Free
open Jvm.Lib.Cold (StaticIs)
/-- a char array whose places are chars -/
def Ch (a : Addr) (A : Cell) (U : State) : Prop := Arr .char a A U ∧ Typed .char A
theorem Ch.mv {a : Addr} {A : Cell} {U U' : State} (h : Ch a A U) (hal : U.vm.Alike U'.vm) (hh : U'.heap = U.heap) : Ch a A U' := ⟨h.1.mv hal hh, h.2⟩
theorem Ch.keep {a : Addr} {A : Cell} {U U' : State} (h : Ch a A U) (hal : U.vm.Alike U'.vm) (hk : U'.heap[a]? = some A) : Ch a A U' := ⟨h.1.keep hal hk, h.2⟩
/-- what place i of a char[]'s cell holds -/
def cv (A : Cell) (i : Nat) : Int32 := match A.slots[i]? with | some (.int x) => x | _ => 0
theorem Ch.get {a : Addr} {A : Cell} {U : State} (h : Ch a A U) {i : Nat} (hi : i < A.slots.size) : A.slots[i]? = some (.int (cv A i)) := by
  have e := Array.getElem?_eq_getElem hi
  have f := h.2 i _ e
  unfold cv; rw [e]
  generalize A.slots[i] = v at f
  cases v <;> simp [fits] at f ⊢
/-- the byte that i2b leaves of a char -/
def lo8 (x : Int32) : Int32 := x.toInt8.toInt32
theorem fits_lo8 (y : Int32) : fits .byte (.int (lo8 y)) = true := by
  have h1 := y.toInt8.le_toInt
  have h2 := y.toInt8.toInt_lt
  simp only [lo8, fits, Bool.and_eq_true, decide_eq_true_eq, Int32.le_iff_toInt_le, Int8.toInt_toInt32, show (-128 : Int32).toInt = -128 from by decide, show (127 : Int32).toInt = 127 from by decide]
  omega
/-- A' is A but that each place j of lo .. hi - 1 holds f j -/
def Laid (A A' : Cell) (lo hi : Nat) (f : Nat → Value) : Prop := A'.cls = A.cls ∧ A'.vm = A.vm ∧ A'.slots.size = A.slots.size ∧ ∀ i, A'.slots[i]? = if lo ≤ i ∧ i < hi then some (f i) else A.slots[i]?
theorem Laid.zero (A : Cell) (lo : Nat) (f : Nat → Value) : Laid A A lo (lo + 0) f := ⟨rfl, rfl, rfl, fun i => by rw [if_neg (by omega)]⟩
theorem Laid.step {A Ak : Cell} {lo k : Nat} {f : Nat → Value} {v : Value} (h : Laid A Ak lo k f) (hlo : lo ≤ k) (hk : k < Ak.slots.size) (hv : v = f k) : Laid A (Ak.setSlot k v) lo (k + 1) f := by
  refine ⟨h.1, h.2.1, by simpa [Cell.setSlot] using h.2.2.1, fun i => ?_⟩
  by_cases e : k = i
  · subst e; rw [Cell.slots_setSlot_self v hk, if_pos (by omega), hv]
  · rw [Cell.slots_setSlot_ne v e, h.2.2.2 i]
    by_cases q : lo ≤ i ∧ i < k
    · rw [if_pos q, if_pos (by omega)]
    · rw [if_neg q, if_neg (by omega)]
def U16 : String := "java/lang/StringUTF16"
namespace Cmp5
def yN : MethodName := ⟨"java/lang/StringUTF16", "compress", "([CI[BII)I"⟩
abbrev yB : ByteArray := jdk_52_method_21_code
theorem d0 : decode yB 0 = .ok (.iconst 0, 1) := by decide +kernel
theorem d1 : decode yB 1 = .ok (.istore 5, 2) := by decide +kernel
theorem d3 : decode yB 3 = .ok (.iload 5, 2) := by decide +kernel
theorem d5 : decode yB 5 = .ok (.iload 4, 2) := by decide +kernel
theorem d7 : decode yB 7 = .ok (.if_icmp (.ge) 37, 3) := by decide +kernel
theorem d10 : decode yB 10 = .ok (.aload_n 0, 1) := by decide +kernel
theorem d11 : decode yB 11 = .ok (.iload_n 1, 1) := by decide +kernel
theorem d12 : decode yB 12 = .ok (.caload, 1) := by decide +kernel
theorem d13 : decode yB 13 = .ok (.istore 6, 2) := by decide +kernel
theorem d15 : decode yB 15 = .ok (.iload 6, 2) := by decide +kernel
theorem d17 : decode yB 17 = .ok (.sipush 255, 3) := by decide +kernel
theorem d20 : decode yB 20 = .ok (.if_icmp (.le) 6, 3) := by decide +kernel
theorem d26 : decode yB 26 = .ok (.aload_n 2, 1) := by decide +kernel
theorem d27 : decode yB 27 = .ok (.iload_n 3, 1) := by decide +kernel
theorem d28 : decode yB 28 = .ok (.iload 6, 2) := by decide +kernel
theorem d30 : decode yB 30 = .ok (.i2b, 1) := by decide +kernel
theorem d31 : decode yB 31 = .ok (.bastore, 1) := by decide +kernel
theorem d32 : decode yB 32 = .ok (.iinc 1 1, 3) := by decide +kernel
theorem d35 : decode yB 35 = .ok (.iinc 3 1, 3) := by decide +kernel
theorem d38 : decode yB 38 = .ok (.iinc 5 1, 3) := by decide +kernel
theorem d41 : decode yB 41 = .ok (.goto (-38), 3) := by decide +kernel
theorem d44 : decode yB 44 = .ok (.iload 4, 2) := by decide +kernel
theorem d46 : decode yB 46 = .ok (.ireturn, 1) := by decide +kernel
def site : List Cond := []
def tab : Cond := tabOf yN yB 7 (some .int) site
def P (b : Addr) (A : Cell) (d : Addr) (B : Cell) (o q len : Nat) (args : Array Value) (s : State) : Prop := args = #[.ref b, .int (Int32.ofNat o), .ref d, .int (Int32.ofNat q), .int (Int32.ofNat len)] ∧ Ch b A s ∧ Arr .byte d B s ∧ b ≠ d ∧ o + len ≤ A.slots.size ∧ q + len ≤ B.slots.size ∧ ∀ i, i < len → ¬ 255 < cv A (o + i)
def E (b : Addr) (A : Cell) (d : Addr) (B : Cell) (o q len : Nat) (r : Option Value) (s u : State) : Prop := r = some (.int (Int32.ofNat len)) ∧ ∃ B', Put d B' s u ∧ Laid B B' q (q + len) (fun j => Value.int (lo8 (cv A (o + (j - q)))))
/-- no char of the range above 255: len; the places written hold each char's low byte -/
theorem law (l : Launch) (b : Addr) (A : Cell) (d : Addr) (B : Cell) (o q len : Nat) : Law l yN 5 5 0 0 yB 7 (some .int) site (P b A d B o q len) (E b A d B o q len) (copyLocs d q len) 0 0 := by
  refine Law.of_walk (plainFor_of_name (by decide +kernel)) (by decide +kernel) (by decide +kernel) (by decide) (fun _ _ h => by rw [h.1]; rfl) (fun _ U U' hal hh h => ⟨h.1, h.2.1.mv hal hh, h.2.2.1.mv hal hh, h.2.2.2⟩) (fun r U U' V V' h1 hal h2 h => ⟨h.1, h.2.elim fun B' q => ⟨B', q.1.mv h1 h2, q.2⟩⟩) ?_
  intro p e s m args below meth c s₁ X0 hexec hbytes hml hret hlk hnm hown hh0 W hP
  obtain ⟨rfl, hA, hB, hne, l1, l2, hp⟩ := hP
  have c1 : Steps p.tables e below (s₁.setTop (entryFrame m #[.ref b, .int (Int32.ofNat o), .ref d, .int (Int32.ofNat q), .int (Int32.ofNat len)] 7)) (s₁.setTop (mkF m 0 #[.val (.ref b), .val (.int (Int32.ofNat o)), .val (.ref d), .val (.int (Int32.ofNat q)), .val (.int (Int32.ofNat len)), .unset, .unset] [])) := entry rfl
  have hA0 := hA.1.mv X0.warmed.alike hh0
  have hB0 := hB.mv X0.warmed.alike hh0
  have a31 := hA.1.2.2.2
  have c2 : Steps p.tables e below (s₁.setTop (entryFrame m #[.ref b, .int (Int32.ofNat o), .ref d, .int (Int32.ofNat q), .int (Int32.ofNat len)] 7)) (s₁.setTop (mkF m 3 #[.val (.ref b), .val (.int (Int32.ofNat o)), .val (.ref d), .val (.int (Int32.ofNat q)), .val (.int (Int32.ofNat len)), .val (.int 0), .unset] [])) := c1.trans (by
    refine iconstV X0.here hexec rfl 0 (hb hbytes d0) (by decide) ?_
    refine XS.istore X0.here hexec rfl (hb hbytes d1) rfl rfl ?_
    exact Steps.refl _)
  have loop : ∀ (r i : Nat), i + r = len → ∀ (z : Slot), (z = .unset ∨ ∃ w, z = .val w ∧ w.category = 1) → ∀ (Tl : State) (Bk : Cell), Stand p l e { frames := 0, locals := 0, cells := 0, slots := 0 } s m #[.ref b, .int (Int32.ofNat o), .ref d, .int (Int32.ofNat q), .int (Int32.ofNat len)] below meth c Tl ([] ++ copyLocs d q i) 0 0 → Put d Bk s₁ Tl → Laid B Bk q (q + i) (fun j => Value.int (lo8 (cv A (o + (j - q))))) →
      Steps p.tables e below (s₁.setTop (entryFrame m #[.ref b, .int (Int32.ofNat o), .ref d, .int (Int32.ofNat q), .int (Int32.ofNat len)] 7)) (Tl.setTop (mkF m 3 #[.val (.ref b), .val (.int (Int32.ofNat (o + i))), .val (.ref d), .val (.int (Int32.ofNat (q + i))), .val (.int (Int32.ofNat len)), .val (.int (Int32.ofNat i)), z] [])) → ∃ (T' : State) (B' : Cell) (z' : Slot), Stand p l e { frames := 0, locals := 0, cells := 0, slots := 0 } s m #[.ref b, .int (Int32.ofNat o), .ref d, .int (Int32.ofNat q), .int (Int32.ofNat len)] below meth c T' ([] ++ copyLocs d q len) 0 0 ∧ Put d B' s₁ T' ∧ Laid B B' q (q + len) (fun j => Value.int (lo8 (cv A (o + (j - q))))) ∧
      Steps p.tables e below (s₁.setTop (entryFrame m #[.ref b, .int (Int32.ofNat o), .ref d, .int (Int32.ofNat q), .int (Int32.ofNat len)] 7)) (T'.setTop (mkF m 3 #[.val (.ref b), .val (.int (Int32.ofNat (o + len))), .val (.ref d), .val (.int (Int32.ofNat (q + len))), .val (.int (Int32.ofNat len)), .val (.int (Int32.ofNat len)), z'] [])) := by
    intro r
    induction r with
    | zero =>
      intro i hi z hz Tl Bk Xl pl fl cl
      have hil : i = len := by omega
      rw [hil] at Xl fl cl
      exact ⟨Tl, Bk, z, Xl, pl, fl, cl⟩
    | succ r ih =>
      intro i hi z hz Tl Bk Xl pl fl cl
      have all := X0.warmed.alike.symm.trans Xl.warmed.alike
      have hAl := hA0.keep all (pl.other hne hA0.1)
      have hBk := hB0.like all pl.1 fl.1 fl.2.1 fl.2.2.1
      have hlt : q + i < Bk.slots.size := by rw [fl.2.2.1]; omega
      have c3 : Steps p.tables e below (s₁.setTop (entryFrame m #[.ref b, .int (Int32.ofNat o), .ref d, .int (Int32.ofNat q), .int (Int32.ofNat len)] 7)) (Tl.setTop (mkF m 12 #[.val (.ref b), .val (.int (Int32.ofNat (o + i))), .val (.ref d), .val (.int (Int32.ofNat (q + i))), .val (.int (Int32.ofNat len)), .val (.int (Int32.ofNat i)), z] [.int (Int32.ofNat (o + i)), .ref b])) := cl.trans (by
        refine XS.iload Xl.here hexec rfl (hb hbytes d3) rfl ?_
        refine XS.iload Xl.here hexec rfl (hb hbytes d5) rfl ?_
        refine XS.icmpNo Xl.here hexec rfl (hb hbytes d7) rfl (ii_ge_f (lt32 (by omega) (by omega))) ?_
        refine XS.aloadN Xl.here hexec rfl (hb hbytes d10) rfl rfl ?_
        refine XS.iloadN Xl.here hexec rfl (hb hbytes d11) rfl ?_
        exact Steps.refl _)
      have c4 : Steps p.tables e below (s₁.setTop (entryFrame m #[.ref b, .int (Int32.ofNat o), .ref d, .int (Int32.ofNat q), .int (Int32.ofNat len)] 7)) (Tl.setTop (mkF m 13 #[.val (.ref b), .val (.int (Int32.ofNat (o + i))), .val (.ref d), .val (.int (Int32.ofNat (q + i))), .val (.int (Int32.ofNat len)), .val (.int (Int32.ofNat i)), z] [.int (cv A (o + i))])) := c3.trans (by
        refine Xl.aget hexec hAl rfl (hA.get (i := o + i) (by omega)) rfl rfl (hb hbytes d12) ?_
        exact Steps.refl _)
      have c5 : Steps p.tables e below (s₁.setTop (entryFrame m #[.ref b, .int (Int32.ofNat o), .ref d, .int (Int32.ofNat q), .int (Int32.ofNat len)] 7)) (Tl.setTop (mkF m 15 #[.val (.ref b), .val (.int (Int32.ofNat (o + i))), .val (.ref d), .val (.int (Int32.ofNat (q + i))), .val (.int (Int32.ofNat len)), .val (.int (Int32.ofNat i)), .val (.int (cv A (o + i)))] [])) := c4.trans (by
        refine XS.istoreS Xl.here hexec rfl (hb hbytes d13) rfl rfl hz ?_
        exact Steps.refl _)
      have c6 : Steps p.tables e below (s₁.setTop (entryFrame m #[.ref b, .int (Int32.ofNat o), .ref d, .int (Int32.ofNat q), .int (Int32.ofNat len)] 7)) (Tl.setTop (mkF m 31 #[.val (.ref b), .val (.int (Int32.ofNat (o + i))), .val (.ref d), .val (.int (Int32.ofNat (q + i))), .val (.int (Int32.ofNat len)), .val (.int (Int32.ofNat i)), .val (.int (cv A (o + i)))] [.int (lo8 (cv A (o + i))), .int (Int32.ofNat (q + i)), .ref d])) := c5.trans (by
        refine XS.iload Xl.here hexec rfl (hb hbytes d15) rfl ?_
        refine sipushV Xl.here hexec rfl 255 (hb hbytes d17) (by decide) ?_
        refine XS.icmpYes Xl.here hexec rfl (pc0 := 20) rfl (hb hbytes d20) rfl (ii_le_t (hp i (by omega))) (by decide) rfl ?_
        refine XS.aloadN Xl.here hexec rfl (hb hbytes d26) rfl rfl ?_
        refine XS.iloadN Xl.here hexec rfl (hb hbytes d27) rfl ?_
        refine XS.iload Xl.here hexec rfl (hb hbytes d28) rfl ?_
        refine i2b Xl.here hexec rfl (hb hbytes d30) rfl ?_
        exact Steps.refl _)
      obtain ⟨T7, X7, p7, st7⟩ := Xl.aput hexec hBk rfl hlt rfl (fits_lo8 (cv A (o + i))) (g := (mkF m 31 #[.val (.ref b), .val (.int (Int32.ofNat (o + i))), .val (.ref d), .val (.int (Int32.ofNat (q + i))), .val (.int (Int32.ofNat len)), .val (.int (Int32.ofNat i)), .val (.int (cv A (o + i)))] [.int (lo8 (cv A (o + i))), .int (Int32.ofNat (q + i)), .ref d])) rfl (rest := []) rfl (hb hbytes d31)
      have c8 : Steps p.tables e below (s₁.setTop (entryFrame m #[.ref b, .int (Int32.ofNat o), .ref d, .int (Int32.ofNat q), .int (Int32.ofNat len)] 7)) (T7.setTop (mkF m 32 #[.val (.ref b), .val (.int (Int32.ofNat (o + i))), .val (.ref d), .val (.int (Int32.ofNat (q + i))), .val (.int (Int32.ofNat len)), .val (.int (Int32.ofNat i)), .val (.int (cv A (o + i)))] [])) := c6.trans (st7 _ (Steps.refl _))
      have c9 : Steps p.tables e below (s₁.setTop (entryFrame m #[.ref b, .int (Int32.ofNat o), .ref d, .int (Int32.ofNat q), .int (Int32.ofNat len)] 7)) (T7.setTop (mkF m 3 #[.val (.ref b), .val (.int (Int32.ofNat (o + i) + 1)), .val (.ref d), .val (.int (Int32.ofNat (q + i) + 1)), .val (.int (Int32.ofNat len)), .val (.int (Int32.ofNat i + 1)), .val (.int (cv A (o + i)))] [])) := c8.trans (by
        refine iincV X7.here hexec rfl 1 (hb hbytes d32) (by decide) rfl rfl ?_
        refine iincV X7.here hexec rfl 1 (hb hbytes d35) (by decide) rfl rfl ?_
        refine iincV X7.here hexec rfl 1 (hb hbytes d38) (by decide) rfl rfl ?_
        refine XS.goto X7.here hexec rfl (pc0 := 41) rfl (hb hbytes d41) (by decide) rfl ?_
        exact Steps.refl _)
      have c10 : Steps p.tables e below (s₁.setTop (entryFrame m #[.ref b, .int (Int32.ofNat o), .ref d, .int (Int32.ofNat q), .int (Int32.ofNat len)] 7)) (T7.setTop (mkF m 3 #[.val (.ref b), .val (.int (Int32.ofNat (o + (i + 1)))), .val (.ref d), .val (.int (Int32.ofNat (q + (i + 1)))), .val (.int (Int32.ofNat len)), .val (.int (Int32.ofNat (i + 1))), .val (.int (cv A (o + i)))] [])) := by
        have := c9
        rw [succ32, succ32, succ32] at this
        exact this
      exact ih (i + 1) (by omega) _ (Or.inr ⟨_, rfl, rfl⟩) T7 _ (by rw [copyLocs_step, ← List.append_assoc]; exact X7) (pl.trans p7) (fl.step (by omega) hlt (by simp)) c10
  obtain ⟨T9, B9, z9, X9, p9, f9, g9⟩ := loop len 0 (by omega) .unset (Or.inl rfl) s₁ B (by simpa [copyLocs] using X0) ⟨hB0.1, fun _ _ => rfl, rfl⟩ (Laid.zero _ _ _) c2
  have c11 : Steps p.tables e below (s₁.setTop (entryFrame m #[.ref b, .int (Int32.ofNat o), .ref d, .int (Int32.ofNat q), .int (Int32.ofNat len)] 7)) (T9.setTop (mkF m 46 #[.val (.ref b), .val (.int (Int32.ofNat (o + len))), .val (.ref d), .val (.int (Int32.ofNat (q + len))), .val (.int (Int32.ofNat len)), .val (.int (Int32.ofNat len)), z9] [.int (Int32.ofNat len)])) := g9.trans (by
    refine XS.iload X9.here hexec rfl (hb hbytes d3) rfl ?_
    refine XS.iload X9.here hexec rfl (hb hbytes d5) rfl ?_
    refine XS.icmpYes X9.here hexec rfl (pc0 := 7) rfl (hb hbytes d7) rfl (ii_ge_t (nlt32 (by omega) (Nat.le_refl _))) (by decide) rfl ?_
    refine XS.iload X9.here hexec rfl (hb hbytes d44) rfl ?_
    exact Steps.refl _)
  exact ⟨T9, some (.int (Int32.ofNat len)), _, _, _, X9, by simp, rfl, rfl, (fun h => by cases h), ⟨rfl, B9, p9.from hh0, f9⟩, fun fs hl => c11.trans (X9.ireturnOut hexec hret rfl (Or.inl rfl) (hb hbytes d46) hl)⟩
end Cmp5
namespace Cmp3
def yN : MethodName := ⟨"java/lang/StringUTF16", "compress", "([CII)[B"⟩
abbrev yB : ByteArray := jdk_52_method_16_code
theorem d0 : decode yB 0 = .ok (.iload_n 2, 1) := by decide +kernel
theorem d1 : decode yB 1 = .ok (.newarray .byte, 2) := by decide +kernel
theorem d3 : decode yB 3 = .ok (.astore_n 3, 1) := by decide +kernel
theorem d4 : decode yB 4 = .ok (.aload_n 0, 1) := by decide +kernel
theorem d5 : decode yB 5 = .ok (.iload_n 1, 1) := by decide +kernel
theorem d6 : decode yB 6 = .ok (.aload_n 3, 1) := by decide +kernel
theorem d7 : decode yB 7 = .ok (.iconst 0, 1) := by decide +kernel
theorem d8 : decode yB 8 = .ok (.iload_n 2, 1) := by decide +kernel
theorem d9 : decode yB 9 = .ok (.invokestatic 115, 3) := by decide +kernel
theorem d12 : decode yB 12 = .ok (.istore 4, 2) := by decide +kernel
theorem d14 : decode yB 14 = .ok (.iload 4, 2) := by decide +kernel
theorem d16 : decode yB 16 = .ok (.iload_n 2, 1) := by decide +kernel
theorem d17 : decode yB 17 = .ok (.if_icmp (.eq) 40, 3) := by decide +kernel
theorem d57 : decode yB 57 = .ok (.aload_n 3, 1) := by decide +kernel
theorem d58 : decode yB 58 = .ok (.areturn, 1) := by decide +kernel
def site : List Cond := [.arrayClass .byte, Cmp5.tab] ++ staticW U16 115 Cmp5.yN
def tab : Cond := tabOf yN yB 6 (some (.array .byte)) site
def P (b : Addr) (A : Cell) (o len : Nat) (args : Array Value) (s : State) : Prop := args = #[.ref b, .int (Int32.ofNat o), .int (Int32.ofNat len)] ∧ Ch b A s ∧ o + len ≤ A.slots.size ∧ len ≤ 536870912 ∧ ∀ i, i < len → ¬ 255 < cv A (o + i)
def E (b : Addr) (A : Cell) (o len : Nat) (r : Option Value) (s u : State) : Prop := NewArr .byte "[B" len (fun j => .int (lo8 (cv A (o + j)))) r s u ∧ u.heap.size = s.heap.size + 1
/-- no char of the range above 255: a new byte[] of their low bytes -/
theorem law (l : Launch) (b : Addr) (A : Cell) (o len : Nat) : Law l yN 3 3 1 18 yB 6 (some (.array .byte)) site (P b A o len) (E b A o len) [] 1 len := by
  refine Law.of_walk (plainFor_of_name (by decide +kernel)) (by decide +kernel) (by decide +kernel) (by decide) (fun _ _ h => by rw [h.1]; rfl) (fun _ U U' hal hh h => ⟨h.1, h.2.1.mv hal hh, h.2.2⟩) (fun r U U' V V' h1 hal h2 h => ⟨NewArr.mv r U U' V V' h1 hal h2 h.1, by rw [h1, h2]; exact h.2⟩) ?_
  intro p e s m args below meth c s₁ X0 hexec hbytes hml hret hlk hnm hown hh0 W hP
  obtain ⟨rfl, hA, l1, l2, hp⟩ := hP
  have a31 := hA.1.2.2.2
  have c1 : Steps p.tables e below (s₁.setTop (entryFrame m #[.ref b, .int (Int32.ofNat o), .int (Int32.ofNat len)] 6)) (s₁.setTop (mkF m 0 #[.val (.ref b), .val (.int (Int32.ofNat o)), .val (.int (Int32.ofNat len)), .unset, .unset, .unset] [])) := entry rfl
  have c2 : Steps p.tables e below (s₁.setTop (entryFrame m #[.ref b, .int (Int32.ofNat o), .int (Int32.ofNat len)] 6)) (s₁.setTop (mkF m 1 #[.val (.ref b), .val (.int (Int32.ofNat o)), .val (.int (Int32.ofNat len)), .unset, .unset, .unset] [.int (Int32.ofNat len)])) := c1.trans (by
    refine XS.iloadN X0.here hexec rfl (hb hbytes d0) rfl ?_
    exact Steps.refl _)
  obtain ⟨T3, B3, X3, ba3, bs3, bv3, bh3, bf3, st3⟩ := X0.anew hexec (atype := .byte) (wk W (.arrayClass .byte)) rfl (by show len * 1 ≤ _; omega) (by omega) (g := (mkF m 1 #[.val (.ref b), .val (.int (Int32.ofNat o)), .val (.int (Int32.ofNat len)), .unset, .unset, .unset] [.int (Int32.ofNat len)])) rfl (hb hbytes d1) (rest := []) rfl (Nat.le_refl _) (by show 0 + len ≤ len; omega)
  rw [hh0] at ba3 st3
  have kp3 : XT.Kept s T3 := (XT.Kept.of_eq hh0).push bh3
  have hA3 := hA.keep X3.warmed.alike (kp3 _ _ hA.1.1)
  have hne : b ≠ s.heap.size := hA.1.ne
  have c4 : Steps p.tables e below (s₁.setTop (entryFrame m #[.ref b, .int (Int32.ofNat o), .int (Int32.ofNat len)] 6)) (T3.setTop (mkF m 3 #[.val (.ref b), .val (.int (Int32.ofNat o)), .val (.int (Int32.ofNat len)), .unset, .unset, .unset] [.ref s.heap.size])) := c2.trans (st3 _ (Steps.refl _))
  have c5 : Steps p.tables e below (s₁.setTop (entryFrame m #[.ref b, .int (Int32.ofNat o), .int (Int32.ofNat len)] 6)) (T3.setTop (mkF m 9 #[.val (.ref b), .val (.int (Int32.ofNat o)), .val (.int (Int32.ofNat len)), .val (.ref s.heap.size), .unset, .unset] [.int (Int32.ofNat len), .int 0, .ref s.heap.size, .int (Int32.ofNat o), .ref b])) := c4.trans (by
    refine XS.astoreN X3.here hexec rfl (hb hbytes d3) rfl rfl rfl ?_
    refine XS.aloadN X3.here hexec rfl (hb hbytes d4) rfl rfl ?_
    refine XS.iloadN X3.here hexec rfl (hb hbytes d5) rfl ?_
    refine XS.aloadN X3.here hexec rfl (hb hbytes d6) rfl rfl ?_
    refine iconstV X3.here hexec rfl 0 (hb hbytes d7) (by decide) ?_
    refine XS.iloadN X3.here hexec rfl (hb hbytes d8) rfl ?_
    exact Steps.refl _)
  obtain ⟨v6, T6, X6, E6, g6⟩ := X3.callS hexec (Cmp5.law l b A s.heap.size B3 o 0 len) hown (wks W (staticW U16 115 Cmp5.yN)) (wk W Cmp5.tab) (W := 0) (Nat.le_of_ble_eq_true rfl) (Nat.le_of_ble_eq_true rfl) (Nat.le_refl _) (by show 0 + len + 0 ≤ len; omega) (g := (mkF m 9 #[.val (.ref b), .val (.int (Int32.ofNat o)), .val (.int (Int32.ofNat len)), .val (.ref s.heap.size), .unset, .unset] [.int (Int32.ofNat len), .int (Int32.ofNat 0), .ref s.heap.size, .int (Int32.ofNat o), .ref b])) rfl (by rw [hml]; rfl) c5 (argsL := [.ref b, .int (Int32.ofNat o), .ref s.heap.size, .int (Int32.ofNat 0), .int (Int32.ofNat len)]) (rest := []) rfl rfl (by show 2 * 0 + 0 ≤ _; decide) (hb hbytes d9) (⟨rfl, hA3, ba3, hne, l1, by rw [bs3]; simp, hp⟩)
  obtain ⟨rfl, B6, p6, f6⟩ := E6
  have c7 : Steps p.tables e below (s₁.setTop (entryFrame m #[.ref b, .int (Int32.ofNat o), .int (Int32.ofNat len)] 6)) (T6.setTop (mkF m 12 #[.val (.ref b), .val (.int (Int32.ofNat o)), .val (.int (Int32.ofNat len)), .val (.ref s.heap.size), .unset, .unset] [.int (Int32.ofNat len)])) := g6
  have c8 : Steps p.tables e below (s₁.setTop (entryFrame m #[.ref b, .int (Int32.ofNat o), .int (Int32.ofNat len)] 6)) (T6.setTop (mkF m 58 #[.val (.ref b), .val (.int (Int32.ofNat o)), .val (.int (Int32.ofNat len)), .val (.ref s.heap.size), .val (.int (Int32.ofNat len)), .unset] [.ref s.heap.size])) := c7.trans (by
    refine XS.istore X6.here hexec rfl (hb hbytes d12) rfl rfl ?_
    refine XS.iload X6.here hexec rfl (hb hbytes d14) rfl ?_
    refine XS.iloadN X6.here hexec rfl (hb hbytes d16) rfl ?_
    refine XS.icmpYes X6.here hexec rfl (pc0 := 17) rfl (hb hbytes d17) rfl (ii_eq_t rfl) (by decide) rfl ?_
    refine XS.aloadN X6.here hexec rfl (hb hbytes d57) rfl rfl ?_
    exact Steps.refl _)
  have X8 := X6.wide (L' := []) (cells' := 1) (slots' := len) (fun x hx hlt => by
    simp only [List.nil_append, copyLocs, List.mem_map, List.mem_range] at hx
    obtain ⟨i, -, rfl⟩ := hx
    exact absurd hlt (Nat.lt_irrefl _)) (Nat.le_refl _) (by omega)
  exact ⟨T6, some (.ref s.heap.size), _, _, _, X8, rfl, rfl, rfl, (fun h => by cases h), ⟨⟨rfl, B6, ba3.like (X3.warmed.alike.symm.trans X6.warmed.alike) p6.1 f6.1 f6.2.1 f6.2.2.1, f6.2.1.trans bv3, by rw [X6.warmed.alike.findClass, f6.1]; exact bf3, by rw [f6.2.2.1, bs3]; simp, fun j hj => by rw [f6.2.2.2 j, if_pos (by omega)]; rfl, kp3.put p6 (Nat.le_refl _)⟩, by rw [p6.2.2, bh3, hh0]; simp⟩, fun fs hl => c8.trans (X8.areturnOut hexec rfl hret rfl (hb hbytes d58) hl)⟩
end Cmp3
namespace CodL
def yN : MethodName := ⟨"java/lang/StringUTF16", "coderFromArrayLen", "([BI)B"⟩
abbrev yB : ByteArray := jdk_52_method_15_code
theorem d0 : decode yB 0 = .ok (.iload_n 1, 1) := by decide +kernel
theorem d1 : decode yB 1 = .ok (.aload_n 0, 1) := by decide +kernel
theorem d2 : decode yB 2 = .ok (.arraylength, 1) := by decide +kernel
theorem d3 : decode yB 3 = .ok (.isub, 1) := by decide +kernel
theorem d4 : decode yB 4 = .ok (.bipush 31, 2) := by decide +kernel
theorem d6 : decode yB 6 = .ok (.iushr, 1) := by decide +kernel
theorem d7 : decode yB 7 = .ok (.i2b, 1) := by decide +kernel
theorem d8 : decode yB 8 = .ok (.ireturn, 1) := by decide +kernel
def site : List Cond := []
def tab : Cond := tabOf yN yB 2 (some .byte) site
def P (d : Addr) (B : Cell) (args : Array Value) (s : State) : Prop := args = #[.ref d, .int (Int32.ofNat B.slots.size)] ∧ Arr .byte d B s
def E (r : Option Value) (s u : State) : Prop := XT.PureE (some (.int 0)) r s u
/-- an array as long as the number of chars: LATIN1 -/
theorem law (l : Launch) (d : Addr) (B : Cell) : Law l yN 2 2 0 0 yB 2 (some .byte) site (P d B) E [] 0 0 := by
  refine Law.of_walk (plainFor_of_name (by decide +kernel)) (by decide +kernel) (by decide +kernel) (by decide) (fun _ _ h => by rw [h.1]; rfl) (fun _ U U' hal hh h => ⟨h.1, h.2.mv hal hh⟩) (fun r U U' V V' h1 hal h2 h => XT.PureE.mv r U U' V V' h1 hal h2 h) ?_
  intro p e s m args below meth c s₁ X0 hexec hbytes hml hret hlk hnm hown hh0 W hP
  obtain ⟨rfl, hB⟩ := hP
  have hB0 := hB.mv X0.warmed.alike hh0
  have c1 : Steps p.tables e below (s₁.setTop (entryFrame m #[.ref d, .int (Int32.ofNat B.slots.size)] 2)) (s₁.setTop (mkF m 0 #[.val (.ref d), .val (.int (Int32.ofNat B.slots.size))] [])) := entry rfl
  have c2 : Steps p.tables e below (s₁.setTop (entryFrame m #[.ref d, .int (Int32.ofNat B.slots.size)] 2)) (s₁.setTop (mkF m 2 #[.val (.ref d), .val (.int (Int32.ofNat B.slots.size))] [.ref d, .int (Int32.ofNat B.slots.size)])) := c1.trans (by
    refine XS.iloadN X0.here hexec rfl (hb hbytes d0) rfl ?_
    refine XS.aloadN X0.here hexec rfl (hb hbytes d1) rfl rfl ?_
    exact Steps.refl _)
  have c3 : Steps p.tables e below (s₁.setTop (entryFrame m #[.ref d, .int (Int32.ofNat B.slots.size)] 2)) (s₁.setTop (mkF m 8 #[.val (.ref d), .val (.int (Int32.ofNat B.slots.size))] [.int (lo8 (ushr (Int32.ofNat B.slots.size - Int32.ofNat B.slots.size) 31))])) := c2.trans (by
    refine X0.alen hexec hB0 rfl rfl (hb hbytes d2) ?_
    refine XS.isub X0.here hexec rfl (hb hbytes d3) rfl ?_
    refine bipushV X0.here hexec rfl 31 (hb hbytes d4) (by decide) ?_
    refine iushr X0.here hexec rfl (hb hbytes d6) rfl ?_
    refine i2b X0.here hexec rfl (hb hbytes d7) rfl ?_
    exact Steps.refl _)
  have e0 : lo8 (ushr (Int32.ofNat B.slots.size - Int32.ofNat B.slots.size) 31) = 0 := by rw [Int32.sub_self]; decide
  rw [e0] at c3
  exact ⟨s₁, some (.int 0), _, _, _, X0, rfl, rfl, rfl, (fun h => by cases h), ⟨rfl, hh0⟩, fun fs hl => c3.trans (X0.ireturnOut hexec hret rfl (Or.inr (Or.inr (Or.inl rfl))) (hb hbytes d8) hl)⟩
end CodL
/-- the String at a is Latin-1 over a new byte[] (the heap's one new cell): the low bytes of the len chars of A from o on; every cell but a is kept -/
def Got (a : Addr) (D : Cell) (fV fC : Field) (A : Cell) (o len : Nat) (r : Option Value) (s u : State) : Prop := r = none ∧ ∃ D' V : Cell, Blank "java/lang/String" a D' u ∧ Same D D' [fV.slot, fC.slot] ∧ D'.slots[fV.slot]? = some (.ref s.heap.size) ∧ D'.slots[fC.slot]? = some (.int 0) ∧ Arr .byte s.heap.size V u ∧ V.vm = .none ∧ u.vm.findClass "[B" = some V.cls ∧ V.slots.size = len ∧ (∀ j, j < len → V.slots[j]? = some (.int (lo8 (cv A (o + j))))) ∧ (∀ (y : Addr) (c : Cell), y ≠ a → s.heap[y]? = some c → u.heap[y]? = some c) ∧ u.heap.size = s.heap.size + 1
theorem Got.mv {a : Addr} {D A : Cell} {fV fC : Field} {o len : Nat} : ∀ r (U U' V V' : State), U'.heap = U.heap → V.vm.Alike V'.vm → V'.heap = V.heap → Got a D fV fC A o len r U V → Got a D fV fC A o len r U' V' :=
  fun r U U' V V' h1 hal h2 ⟨e0, D', X, a1, a2, a3, a4, a5, a6, a7, a8, a9, a10, a11⟩ => ⟨e0, D', X, a1.mv hal h2, a2, by rw [h1]; exact a3, a4, by rw [h1]; exact a5.mv hal h2, a6, by rw [hal.findClass]; exact a7, a8, a9, by rw [h1, h2]; exact a10, by rw [h1, h2]; exact a11⟩
namespace New4
def yN : MethodName := ⟨"java/lang/String", "<init>", "([CIILjava/lang/Void;)V"⟩
abbrev yB : ByteArray := jdk_42_method_149_code
theorem d0 : decode yB 0 = .ok (.aload_n 0, 1) := by decide +kernel
theorem d1 : decode yB 1 = .ok (.invokespecial 1, 3) := by decide +kernel
theorem d4 : decode yB 4 = .ok (.iload_n 3, 1) := by decide +kernel
theorem d5 : decode yB 5 = .ok (.ifCond (.ne) 22, 3) := by decide +kernel
theorem d27 : decode yB 27 = .ok (.getstatic 38, 3) := by decide +kernel
theorem d30 : decode yB 30 = .ok (.ifCond (.eq) 28, 3) := by decide +kernel
theorem d33 : decode yB 33 = .ok (.aload_n 1, 1) := by decide +kernel
theorem d34 : decode yB 34 = .ok (.iload_n 2, 1) := by decide +kernel
theorem d35 : decode yB 35 = .ok (.iload_n 3, 1) := by decide +kernel
theorem d36 : decode yB 36 = .ok (.invokestatic 177, 3) := by decide +kernel
theorem d39 : decode yB 39 = .ok (.astore 5, 2) := by decide +kernel
theorem d41 : decode yB 41 = .ok (.aload_n 0, 1) := by decide +kernel
theorem d42 : decode yB 42 = .ok (.aload 5, 2) := by decide +kernel
theorem d44 : decode yB 44 = .ok (.iload_n 3, 1) := by decide +kernel
theorem d45 : decode yB 45 = .ok (.invokestatic 47, 3) := by decide +kernel
theorem d48 : decode yB 48 = .ok (.putfield 15, 3) := by decide +kernel
theorem d51 : decode yB 51 = .ok (.aload_n 0, 1) := by decide +kernel
theorem d52 : decode yB 52 = .ok (.aload 5, 2) := by decide +kernel
theorem d54 : decode yB 54 = .ok (.putfield 9, 3) := by decide +kernel
theorem d57 : decode yB 57 = .ok (.return_, 1) := by decide +kernel
def site : List Cond := [.fieldLink "java/lang/String" 38 "java/lang/String" "COMPACT_STRINGS" "Z", Cmp3.tab, CodL.tab, .laysFinal "java/lang/String" "java/lang/String" "value" "[B", .fieldLink "java/lang/String" 9 "java/lang/String" "value" "[B", .laysFinal "java/lang/String" "java/lang/String" "coder" "B", .fieldLink "java/lang/String" 15 "java/lang/String" "coder" "B"] ++ objW "java/lang/String" 1 ++ staticW "java/lang/String" 177 Cmp3.yN ++ staticW "java/lang/String" 47 CodL.yN
def tab : Cond := tabOf yN yB 6 none site
def P (a : Addr) (D : Cell) (fV fC : Field) (b : Addr) (A : Cell) (z : Int32) (o len : Nat) (args : Array Value) (s : State) : Prop := args = #[.ref a, .ref b, .int (Int32.ofNat o), .int (Int32.ofNat len), .null] ∧ Blank "java/lang/String" a D s ∧ Found "java/lang/String" "value" "[B" fV s ∧ Found "java/lang/String" "coder" "B" fC s ∧ Ch b A s ∧ StaticIs s "java/lang/String" "COMPACT_STRINGS" "Z" (.int z) ∧ ¬ z = 0 ∧ 0 < len ∧ o + len ≤ A.slots.size ∧ len ≤ 536870912 ∧ ∀ i, i < len → ¬ 255 < cv A (o + i)
def E (a : Addr) (D : Cell) (fV fC : Field) (A : Cell) (o len : Nat) (r : Option Value) (s u : State) : Prop := Got a D fV fC A o len r s u
/-- len > 0, no char of the range above 255: a Latin-1 String of their low bytes -/
theorem law (l : Launch) (a : Addr) (D : Cell) (fV fC : Field) (b : Addr) (A : Cell) (z : Int32) (o len : Nat) : Law l yN 5 4 2 35 yB 6 none site (P a D fV fC b A z o len) (E a D fV fC A o len) [⟨a, fC.slot⟩, ⟨a, fV.slot⟩] 1 len := by
  refine Law.of_walk (plainFor_of_name (by decide +kernel)) (by decide +kernel) (by decide +kernel) (by decide) (fun _ _ h => by rw [h.1]; rfl) (fun _ U U' hal hh h => ⟨h.1, h.2.1.mv hal hh, h.2.2.1.al hal, h.2.2.2.1.al hal, h.2.2.2.2.1.mv hal hh, h.2.2.2.2.2.1.there hal hh, h.2.2.2.2.2.2⟩) (fun r U U' V V' h1 hal h2 h => Got.mv r U U' V V' h1 hal h2 h) ?_
  intro p e s m args below meth c s₁ X0 hexec hbytes hml hret hlk hnm hown hh0 W hP
  obtain ⟨rfl, hB, f1, f2, hA, s1, hz, l0, l1, l2, hp⟩ := hP
  have a31 := hA.1.2.2.2
  have c1 : Steps p.tables e below (s₁.setTop (entryFrame m #[.ref a, .ref b, .int (Int32.ofNat o), .int (Int32.ofNat len), .null] 6)) (s₁.setTop (mkF m 0 #[.val (.ref a), .val (.ref b), .val (.int (Int32.ofNat o)), .val (.int (Int32.ofNat len)), .val .null, .unset] [])) := entry rfl
  have c2 : Steps p.tables e below (s₁.setTop (entryFrame m #[.ref a, .ref b, .int (Int32.ofNat o), .int (Int32.ofNat len), .null] 6)) (s₁.setTop (mkF m 1 #[.val (.ref a), .val (.ref b), .val (.int (Int32.ofNat o)), .val (.int (Int32.ofNat len)), .val .null, .unset] [.ref a])) := c1.trans (by
    refine XS.aloadN X0.here hexec rfl (hb hbytes d0) rfl rfl ?_
    exact Steps.refl _)
  obtain ⟨T3, X3, q3, st3⟩ := X0.oinit hexec hown (wks W (objW "java/lang/String" 1)) (g := (mkF m 1 #[.val (.ref a), .val (.ref b), .val (.int (Int32.ofNat o)), .val (.int (Int32.ofNat len)), .val .null, .unset] [.ref a])) rfl (by rw [hml]; rfl) (rest := []) rfl (hb hbytes d1) (W := 0) (by show 2 * 0 + 0 ≤ _; decide) (Nat.le_of_ble_eq_true rfl) (Nat.le_of_ble_eq_true rfl)
  have hh3 := q3.trans hh0
  have c4 : Steps p.tables e below (s₁.setTop (entryFrame m #[.ref a, .ref b, .int (Int32.ofNat o), .int (Int32.ofNat len), .null] 6)) (T3.setTop (mkF m 27 #[.val (.ref a), .val (.ref b), .val (.int (Int32.ofNat o)), .val (.int (Int32.ofNat len)), .val .null, .unset] [])) := (c2.trans (st3 _ (Steps.refl _))).trans (by
    refine XS.iloadN X3.here hexec rfl (hb hbytes d4) rfl ?_
    refine XS.ifYes X3.here hexec rfl (pc0 := 5) rfl (hb hbytes d5) rfl (i0_ne_t (nz32 (by omega) l0)) (by decide) rfl ?_
    exact Steps.refl _)
  obtain ⟨T5, X5, q5, st5⟩ := X3.sget hexec hown (wk W (.fieldLink "java/lang/String" 38 "java/lang/String" "COMPACT_STRINGS" "Z")) s1 (fun _ _ h => by rw [hh3]; exact h) (g := (mkF m 27 #[.val (.ref a), .val (.ref b), .val (.int (Int32.ofNat o)), .val (.int (Int32.ofNat len)), .val .null, .unset] [])) rfl (hb hbytes d27)
  have hh5 := q5.trans hh3
  have c6 : Steps p.tables e below (s₁.setTop (entryFrame m #[.ref a, .ref b, .int (Int32.ofNat o), .int (Int32.ofNat len), .null] 6)) (T5.setTop (mkF m 30 #[.val (.ref a), .val (.ref b), .val (.int (Int32.ofNat o)), .val (.int (Int32.ofNat len)), .val .null, .unset] [.int z])) := c4.trans (st5 _ (Steps.refl _))
  have c7 : Steps p.tables e below (s₁.setTop (entryFrame m #[.ref a, .ref b, .int (Int32.ofNat o), .int (Int32.ofNat len), .null] 6)) (T5.setTop (mkF m 36 #[.val (.ref a), .val (.ref b), .val (.int (Int32.ofNat o)), .val (.int (Int32.ofNat len)), .val .null, .unset] [.int (Int32.ofNat len), .int (Int32.ofNat o), .ref b])) := c6.trans (by
    refine XS.ifNo X5.here hexec rfl (hb hbytes d30) rfl (i0_eq_f hz) ?_
    refine XS.aloadN X5.here hexec rfl (hb hbytes d33) rfl rfl ?_
    refine XS.iloadN X5.here hexec rfl (hb hbytes d34) rfl ?_
    refine XS.iloadN X5.here hexec rfl (hb hbytes d35) rfl ?_
    exact Steps.refl _)
  obtain ⟨v8, T8, X8, E8, g8⟩ := X5.callS hexec (Cmp3.law l b A o len) hown (wks W (staticW "java/lang/String" 177 Cmp3.yN)) (wk W Cmp3.tab) (W := 0) (Nat.le_of_ble_eq_true rfl) (Nat.le_of_ble_eq_true rfl) (Nat.le_refl _) (by show 0 + len ≤ len; omega) (g := (mkF m 36 #[.val (.ref a), .val (.ref b), .val (.int (Int32.ofNat o)), .val (.int (Int32.ofNat len)), .val .null, .unset] [.int (Int32.ofNat len), .int (Int32.ofNat o), .ref b])) rfl (by rw [hml]; rfl) c7 (argsL := [.ref b, .int (Int32.ofNat o), .int (Int32.ofNat len)]) (rest := []) rfl rfl (by show 2 * 0 + 0 ≤ _; decide) (hb hbytes d36) (⟨rfl, hA.mv X5.warmed.alike hh5, l1, l2, hp⟩)
  obtain ⟨e8, z8⟩ := E8
  obtain ⟨rfl, N, n1, n2, n3, n4, n5, n6⟩ := NewArr.mv _ T5 s _ _ hh5.symm (Vm.Alike.refl _) rfl e8
  rw [hh5] at z8
  have hB1 := hB.keep X8.warmed.alike (n6 _ _ hB.1)
  have hne : s.heap.size ≠ a := (Nat.ne_of_lt (Array.getElem?_eq_some_iff.mp hB.1).1).symm
  have c9 : Steps p.tables e below (s₁.setTop (entryFrame m #[.ref a, .ref b, .int (Int32.ofNat o), .int (Int32.ofNat len), .null] 6)) (T8.setTop (mkF m 39 #[.val (.ref a), .val (.ref b), .val (.int (Int32.ofNat o)), .val (.int (Int32.ofNat len)), .val .null, .unset] [.ref s.heap.size])) := g8
  have c10 : Steps p.tables e below (s₁.setTop (entryFrame m #[.ref a, .ref b, .int (Int32.ofNat o), .int (Int32.ofNat len), .null] 6)) (T8.setTop (mkF m 45 #[.val (.ref a), .val (.ref b), .val (.int (Int32.ofNat o)), .val (.int (Int32.ofNat len)), .val .null, .val (.ref s.heap.size)] [.int (Int32.ofNat N.slots.size), .ref s.heap.size, .ref a])) := by
    have hc : Steps p.tables e below (s₁.setTop (entryFrame m #[.ref a, .ref b, .int (Int32.ofNat o), .int (Int32.ofNat len), .null] 6)) (T8.setTop (mkF m 45 #[.val (.ref a), .val (.ref b), .val (.int (Int32.ofNat o)), .val (.int (Int32.ofNat len)), .val .null, .val (.ref s.heap.size)] [.int (Int32.ofNat len), .ref s.heap.size, .ref a])) := c9.trans (by
      refine XS.astore X8.here hexec rfl (hb hbytes d39) rfl rfl rfl ?_
      refine XS.aloadN X8.here hexec rfl (hb hbytes d41) rfl rfl ?_
      refine XS.aload X8.here hexec rfl (hb hbytes d42) rfl rfl ?_
      refine XS.iloadN X8.here hexec rfl (hb hbytes d44) rfl ?_
      exact Steps.refl _)
    rw [n4]; exact hc
  obtain ⟨v11, T11, X11, E11, g11⟩ := X8.callS hexec (CodL.law l s.heap.size N) hown (wks W (staticW "java/lang/String" 47 CodL.yN)) (wk W CodL.tab) (W := 1) (Nat.le_of_ble_eq_true rfl) (Nat.le_of_ble_eq_true rfl) (Nat.le_refl _) (by show 0 + len + 0 ≤ len; omega) (g := (mkF m 45 #[.val (.ref a), .val (.ref b), .val (.int (Int32.ofNat o)), .val (.int (Int32.ofNat len)), .val .null, .val (.ref s.heap.size)] [.int (Int32.ofNat N.slots.size), .ref s.heap.size, .ref a])) rfl (by rw [hml]; rfl) c10 (argsL := [.ref s.heap.size, .int (Int32.ofNat N.slots.size)]) (rest := [.ref a]) rfl rfl (by show 2 * 0 + (1 + 0) ≤ _; decide) (hb hbytes d45) (⟨rfl, n1⟩)
  obtain ⟨rfl, q11⟩ := E11
  have hB11 := hB1.mv (X8.warmed.alike.symm.trans X11.warmed.alike) q11
  have c12 : Steps p.tables e below (s₁.setTop (entryFrame m #[.ref a, .ref b, .int (Int32.ofNat o), .int (Int32.ofNat len), .null] 6)) (T11.setTop (mkF m 48 #[.val (.ref a), .val (.ref b), .val (.int (Int32.ofNat o)), .val (.int (Int32.ofNat len)), .val .null, .val (.ref s.heap.size)] [.int 0, .ref a])) := g11
  obtain ⟨T13, X13, p13, bl13, sl13, st13⟩ := X11.finit hexec hown (wk W (.fieldLink "java/lang/String" 15 "java/lang/String" "coder" "B")) (Or.inr ⟨_, (wk W (.laysFinal "java/lang/String" "java/lang/String" "coder" "B"))⟩) (Or.inl ⟨rfl, hnm⟩) f2 (Or.inl rfl) hB11 (t := .byte) (by decide +kernel) rfl (g := (mkF m 48 #[.val (.ref a), .val (.ref b), .val (.int (Int32.ofNat o)), .val (.int (Int32.ofNat len)), .val .null, .val (.ref s.heap.size)] [.int 0, .ref a])) rfl (rest := []) rfl (hb hbytes d48)
  have c14 : Steps p.tables e below (s₁.setTop (entryFrame m #[.ref a, .ref b, .int (Int32.ofNat o), .int (Int32.ofNat len), .null] 6)) (T13.setTop (mkF m 54 #[.val (.ref a), .val (.ref b), .val (.int (Int32.ofNat o)), .val (.int (Int32.ofNat len)), .val .null, .val (.ref s.heap.size)] [.ref s.heap.size, .ref a])) := (c12.trans (st13 _ (Steps.refl _))).trans (by
    refine XS.aloadN X13.here hexec rfl (hb hbytes d51) rfl rfl ?_
    refine XS.aload X13.here hexec rfl (hb hbytes d52) rfl rfl ?_
    exact Steps.refl _)
  obtain ⟨T15, X15, p15, bl15, sl15, st15⟩ := X13.finit hexec hown (wk W (.fieldLink "java/lang/String" 9 "java/lang/String" "value" "[B")) (Or.inr ⟨_, (wk W (.laysFinal "java/lang/String" "java/lang/String" "value" "[B"))⟩) (Or.inl ⟨rfl, hnm⟩) f1 (Or.inl rfl) bl13 (t := (.array .byte)) (by decide +kernel) rfl (g := (mkF m 54 #[.val (.ref a), .val (.ref b), .val (.int (Int32.ofNat o)), .val (.int (Int32.ofNat len)), .val .null, .val (.ref s.heap.size)] [.ref s.heap.size, .ref a])) rfl (rest := []) rfl (hb hbytes d54)
  have c16 : Steps p.tables e below (s₁.setTop (entryFrame m #[.ref a, .ref b, .int (Int32.ofNat o), .int (Int32.ofNat len), .null] 6)) (T15.setTop (mkF m 57 #[.val (.ref a), .val (.ref b), .val (.int (Int32.ofNat o)), .val (.int (Int32.ofNat len)), .val .null, .val (.ref s.heap.size)] [])) := c14.trans (st15 _ (Steps.refl _))
  have ap := apart (Or.inr ⟨_, (wk W (.laysFinal "java/lang/String" "java/lang/String" "value" "[B"))⟩) (Or.inr ⟨_, (wk W (.laysFinal "java/lang/String" "java/lang/String" "coder" "B"))⟩) f1 f2 (t₁ := .array .byte) (t₂ := .byte) (by decide +kernel) (by decide +kernel) (by decide)
  have al := X8.warmed.alike.symm.trans X15.warmed.alike
  have n7 : T11.heap[s.heap.size]? = some N := by rw [q11]; exact n1.1
  exact ⟨T15, none, _, _, _, X15, by simp, rfl, by omega, (fun _ => rfl), ⟨rfl, _, N, bl15, ((Same.refl D _).set _ (by simp)).set _ (by simp), sl15, (Cell.slots_setSlot_ne _ ap).trans sl13, n1.keep al (p15.other hne (p13.other hne n7)), n2, by rw [al.findClass]; exact n3, n4, n5, fun y c h1 h2 => p15.other h1 (p13.other h1 (by rw [q11]; exact n6 y c h2)), by rw [p15.2.2, p13.2.2, q11]; exact z8⟩, fun fs hl => c16.trans (X15.returnOut hexec hret (hb hbytes d57) hl)⟩
end New4
namespace New1
def yN : MethodName := ⟨"java/lang/String", "<init>", "([C)V"⟩
abbrev yB : ByteArray := jdk_42_method_3_code
theorem d0 : decode yB 0 = .ok (.aload_n 0, 1) := by decide +kernel
theorem d1 : decode yB 1 = .ok (.aload_n 1, 1) := by decide +kernel
theorem d2 : decode yB 2 = .ok (.iconst 0, 1) := by decide +kernel
theorem d3 : decode yB 3 = .ok (.aload_n 1, 1) := by decide +kernel
theorem d4 : decode yB 4 = .ok (.arraylength, 1) := by decide +kernel
theorem d5 : decode yB 5 = .ok (.aconst_null, 1) := by decide +kernel
theorem d6 : decode yB 6 = .ok (.invokespecial 27, 3) := by decide +kernel
theorem d9 : decode yB 9 = .ok (.return_, 1) := by decide +kernel
def site : List Cond := [New4.tab] ++ initW "java/lang/String" 27 New4.yN
def tab : Cond := tabOf yN yB 2 none site
def P (a : Addr) (D : Cell) (fV fC : Field) (b : Addr) (A : Cell) (z : Int32) (args : Array Value) (s : State) : Prop := args = #[.ref a, .ref b] ∧ Blank "java/lang/String" a D s ∧ Found "java/lang/String" "value" "[B" fV s ∧ Found "java/lang/String" "coder" "B" fC s ∧ Ch b A s ∧ StaticIs s "java/lang/String" "COMPACT_STRINGS" "Z" (.int z) ∧ ¬ z = 0 ∧ 0 < A.slots.size ∧ A.slots.size ≤ 536870912 ∧ ∀ i, i < A.slots.size → ¬ 255 < cv A i
def E (a : Addr) (D : Cell) (fV fC : Field) (A : Cell) (r : Option Value) (s u : State) : Prop := Got a D fV fC A 0 A.slots.size r s u
/-- new String(chars), not empty, no char above 255: a Latin-1 String of their low bytes -/
theorem law (l : Launch) (a : Addr) (D : Cell) (fV fC : Field) (b : Addr) (A : Cell) (z : Int32) : Law l yN 2 1 3 52 yB 2 none site (P a D fV fC b A z) (E a D fV fC A) [⟨a, fC.slot⟩, ⟨a, fV.slot⟩] 1 A.slots.size := by
  refine Law.of_walk (plainFor_of_name (by decide +kernel)) (by decide +kernel) (by decide +kernel) (by decide) (fun _ _ h => by rw [h.1]; rfl) (fun _ U U' hal hh h => ⟨h.1, h.2.1.mv hal hh, h.2.2.1.al hal, h.2.2.2.1.al hal, h.2.2.2.2.1.mv hal hh, h.2.2.2.2.2.1.there hal hh, h.2.2.2.2.2.2⟩) (fun r U U' V V' h1 hal h2 h => Got.mv r U U' V V' h1 hal h2 h) ?_
  intro p e s m args below meth c s₁ X0 hexec hbytes hml hret hlk hnm hown hh0 W hP
  obtain ⟨rfl, hB, f1, f2, hA, s1, hz, l0, l2, hp⟩ := hP
  have c1 : Steps p.tables e below (s₁.setTop (entryFrame m #[.ref a, .ref b] 2)) (s₁.setTop (mkF m 0 #[.val (.ref a), .val (.ref b)] [])) := entry rfl
  have c2 : Steps p.tables e below (s₁.setTop (entryFrame m #[.ref a, .ref b] 2)) (s₁.setTop (mkF m 6 #[.val (.ref a), .val (.ref b)] [.null, .int (Int32.ofNat A.slots.size), .int 0, .ref b, .ref a])) := c1.trans (by
    refine XS.aloadN X0.here hexec rfl (hb hbytes d0) rfl rfl ?_
    refine XS.aloadN X0.here hexec rfl (hb hbytes d1) rfl rfl ?_
    refine iconstV X0.here hexec rfl 0 (hb hbytes d2) (by decide) ?_
    refine XS.aloadN X0.here hexec rfl (hb hbytes d3) rfl rfl ?_
    refine X0.alen hexec (hA.1.mv X0.warmed.alike hh0) rfl rfl (hb hbytes d4) ?_
    refine XS.aconstNull X0.here hexec rfl (hb hbytes d5) ?_
    exact Steps.refl _)
  obtain ⟨v3, T3, X3, E3, g3⟩ := X0.callN hexec (New4.law l a D fV fC b A z 0 A.slots.size) rfl hown (wks W (initW "java/lang/String" 27 New4.yN)) (W New4.tab (by simp only [site, List.mem_cons, List.mem_append, true_or, or_true])) (W := 0) (Nat.le_of_ble_eq_true rfl) (Nat.le_of_ble_eq_true rfl) (Nat.le_refl _) (by show 0 + A.slots.size ≤ A.slots.size; omega) (g := (mkF m 6 #[.val (.ref a), .val (.ref b)] [.null, .int (Int32.ofNat A.slots.size), .int (Int32.ofNat 0), .ref b, .ref a])) rfl (by rw [hml]; rfl) c2 (argsL := [.ref b, .int (Int32.ofNat 0), .int (Int32.ofNat A.slots.size), .null]) (rest := []) rfl rfl (by show 2 * 0 + 0 ≤ _; decide) (hb hbytes d6) (⟨rfl, hB.mv X0.warmed.alike hh0, f1.al X0.warmed.alike, f2.al X0.warmed.alike, hA.mv X0.warmed.alike hh0, s1.there X0.warmed.alike hh0, hz, l0, by omega, l2, fun i hi => by rw [Nat.zero_add]; exact hp i hi⟩)
  have e0 := Got.mv _ s₁ s _ _ hh0.symm (Vm.Alike.refl _) rfl E3
  obtain rfl := e0.1
  have c4 : Steps p.tables e below (s₁.setTop (entryFrame m #[.ref a, .ref b] 2)) (T3.setTop (mkF m 9 #[.val (.ref a), .val (.ref b)] [])) := g3
  exact ⟨T3, none, _, _, _, X3, by simp, rfl, by omega, (fun _ => rfl), e0, fun fs hl => c4.trans (X3.returnOut hexec hret (hb hbytes d9) hl)⟩
theorem pays {l : Launch} {R : Room} {p : Program} {e : Env} {below : List Frame} {s : State} {sargs : Array Value} {len W : Nat} (a : Addr) (D : Cell) (fV fC : Field) (b : Addr) (A : Cell) (z : Int32) (htab : tab.before sargs s = true) (hfr : 4 ≤ R.frames) (hlo : W + 65 ≤ R.locals) :
    Back l R p e below s sargs yN len W (fun A₁ a₁ => A₁.cells + 1 ≤ R.cells ∧ A₁.slots + A.slots.size ≤ R.slots ∧ P a D fV fC b A z a₁ A₁.U) (fun A₁ _ v₁ B₁ => E a D fV fC A v₁ A₁.U B₁.U ∧ B₁.locs = A₁.locs ++ [⟨a, fC.slot⟩, ⟨a, fV.slot⟩] ∧ B₁.cells = A₁.cells + 1 ∧ B₁.slots = A₁.slots + A.slots.size) :=
  (law l a D fV fC b A z).pays htab hfr (by omega)
end New1
/-- the byte, read back as charAt reads it, is the char -/
theorem lo8_mask {x : Int32} (h0 : ¬ x < 0) (h1 : ¬ 255 < x) : lo8 x &&& 255 = x := by
  have t : ∀ k : Fin 256, lo8 (Int32.ofNat k.val) &&& 255 = Int32.ofNat k.val := by decide +kernel
  rw [Int32.lt_iff_toInt_lt] at h0 h1
  have e0 : (0 : Int32).toInt = 0 := rfl
  have e1 : (255 : Int32).toInt = 255 := rfl
  obtain ⟨k, hk⟩ : ∃ k : Nat, x.toInt = k := ⟨x.toInt.toNat, by omega⟩
  have hx : x = Int32.ofNat k := Int32.toInt_inj.mp (by rw [hk, Int32.toInt_ofNat_small (by omega)])
  rw [hx]
  exact t ⟨k, by omega⟩
end StrChars
namespace StrChars.Road
open Jvm Sem ClassFile Op Lib Jvm.Stand Jvm.Free Jvm.Free.XT
open Jvm.Lib.Cold (StaticIs)
abbrev ST : String := "java/lang/String"
/-- every table word that New1's law asks, flat -/
abbrev words : List Jvm.Cond := [.code New1.yN New1.yB 2 none, .initialized ST, .methodLink ST 27 New4.yN, .instanceMethod New4.yN,
  .code New4.yN New4.yB 6 none, .fieldLink ST 38 ST "COMPACT_STRINGS" "Z", .laysFinal ST ST "value" "[B", .fieldLink ST 9 ST "value" "[B", .laysFinal ST ST "coder" "B", .fieldLink ST 15 ST "coder" "B",
  .methodLink ST 1 Lib.objectInit, .instanceMethod Lib.objectInit, .code Lib.objectInit ⟨#[0xb1]⟩ 1 none, .methodLink ST 177 Cmp3.yN, .static Cmp3.yN, .methodLink ST 47 CodL.yN, .static CodL.yN,
  .code Cmp3.yN Cmp3.yB 6 (some (.array .byte)), .initialized U16, .arrayClass .byte, .methodLink U16 115 Cmp5.yN, .static Cmp5.yN, .code Cmp5.yN Cmp5.yB 7 (some .int), .code CodL.yN CodL.yB 2 (some .byte)]
theorem tab_of {a : Array Value} {s : State} (h : ∀ w ∈ words, w.before a s = true) : New1.tab.before a s = true := by
  have h5 : Cmp5.tab.before a s = true := unparts (wk h (.code Cmp5.yN Cmp5.yB 7 (some .int))) (wks h (.initialized Cmp5.yN.cls :: Cmp5.site))
  have hc : CodL.tab.before a s = true := unparts (wk h (.code CodL.yN CodL.yB 2 (some .byte))) (wks h (.initialized CodL.yN.cls :: CodL.site))
  have q5 : ∀ w ∈ Cmp5.tab :: words, w.before a s = true := fun w hw => (List.mem_cons.mp hw).elim (fun e => e ▸ h5) (h w)
  have h3 : Cmp3.tab.before a s = true := unparts (wk q5 (.code Cmp3.yN Cmp3.yB 6 (some (.array .byte)))) (wks q5 (.initialized Cmp3.yN.cls :: Cmp3.site))
  have q3 : ∀ w ∈ Cmp3.tab :: CodL.tab :: words, w.before a s = true := fun w hw => (List.mem_cons.mp hw).elim (fun e => e ▸ h3) fun hw => (List.mem_cons.mp hw).elim (fun e => e ▸ hc) (h w)
  have h4 : New4.tab.before a s = true := unparts (wk q3 (.code New4.yN New4.yB 6 none)) (wks q3 (.initialized New4.yN.cls :: New4.site))
  have q4 : ∀ w ∈ New4.tab :: words, w.before a s = true := fun w hw => (List.mem_cons.mp hw).elim (fun e => e ▸ h4) (h w)
  exact unparts (wk q4 (.code New1.yN New1.yB 2 none)) (wks q4 (.initialized New1.yN.cls :: New1.site))
/-- the words ride from the start Z to the walk's own state -/
theorem moved {Z s : State} {a0 args : Array Value} (hZ : Z.Warmed39 s.vm) (hw : ∀ d ∈ words, d.before a0 Z = true) : ∀ d ∈ words, d.before args s = true := fun d hd => by
  have q := hw d hd
  have t : ∀ d ∈ words, d = .arrayClass .byte ∨ (d.onTables && d.keepsFace) = true := by decide +kernel
  rcases t d hd with rfl | t
  · exact RoadKit.mvA hZ q
  · exact RoadKit.mv hZ q t
/-- WHAT COMES BACK, over the tables of the start Z: h the heap at the call, h' behind it -/
def Q (Z : State) (x : Addr) (A : Cell) (h : Heap) (v : Option Value) (h' : Heap) (L : List Loc) : Prop := v = none ∧ (∀ y ∈ L, y.base = x) ∧ RoadKit.Keep h h' [x] ∧ h'.size = h.size + 1 ∧ RoadKit.Exa Z h' x ST ∧ RoadKit.Fld Z h' x ST "value" "[B" (.ref h.size) ∧ RoadKit.Fld Z h' x ST "coder" "B" (.int 0) ∧
  (∃ V : Cell, RoadKit.Arr Z h' h.size V .byte ∧ V.vm = .none ∧ Z.vm.findClass "[B" = some V.cls ∧ V.slots.size = A.slots.size ∧ ∀ j, j < A.slots.size → V.slots[j]? = some (.int (lo8 (cv A j)))) ∧
  ∀ (O n d : String) (w : Value), RoadKit.Fld Z h x O n d w → RoadKit.slotOf Z O n d ≠ RoadKit.slotOf Z ST "value" "[B" → RoadKit.slotOf Z O n d ≠ RoadKit.slotOf Z ST "coder" "B" → RoadKit.Fld Z h' x O n d w
/-- **new String(chars) AT A CALL, IN THE ROAD'S FORM**: for specialBack behind newO: x the fresh String, b the char[] with the cell A -/
theorem back {p : Program} {l : Launch} {e : Env} {R : Room} {s : State} {args : Array Value} {below : List Frame} {len W : Nat} {Z : State} {a0 : Array Value} {h : Heap} (hZ : Z.Warmed39 s.vm) (hw : ∀ d ∈ words, d.before a0 Z = true) {kI : Nat} (wi : (Jvm.Cond.instantiable ST kI).before a0 Z = true)
    {x b : Addr} {A : Cell} {z : Int32} {v0 c0 : Value} (E : RoadKit.Exa Z h x ST) (V : RoadKit.Fld Z h x ST "value" "[B" v0) (C : RoadKit.Fld Z h x ST "coder" "B" c0) (K : RoadKit.Arr Z h b A .char) (hty : Typed .char A) (S : RoadKit.Sta Z h ST "COMPACT_STRINGS" "Z" (.int z)) (hz : ¬ z = 0)
    (l0 : 0 < A.slots.size) (l2 : A.slots.size ≤ 536870912) (hp : ∀ i, i < A.slots.size → ¬ 255 < cv A i) (hfr : 4 ≤ R.frames) (hlo : W + 65 ≤ R.locals) :
    Back l R p e below s args New1.yN len W (fun P a => a = #[.ref x, .ref b] ∧ P.U.heap = h ∧ P.cells + 1 ≤ R.cells ∧ P.slots + A.slots.size ≤ R.slots)
      (fun P _ v B => ∃ L, Q Z x A h v B.U.heap L ∧ B.locs = P.locs ++ L ∧ B.cells = P.cells + 1 ∧ B.slots = P.slots + A.slots.size) := by
  intro m meth c P g ig mk a X hg hsize hdg hW hn hp'
  obtain ⟨rfl, rfl, r1, r2⟩ := hp'
  have al : Z.vm.Alike P.U.vm := hZ.alike.trans X.warmed.alike
  obtain ⟨D, cfV, kV, iV, fV, hD, gV, stV, knV, obV, asV, slV⟩ := id V
  obtain ⟨D', cfC, kC, iC, fC, hD', gC, stC, -, -, asC, slC⟩ := id C
  cases hD.symm.trans hD'
  obtain ⟨D2, kD, e1, e2, e3, e4, e5⟩ := id E
  cases hD.symm.trans e1
  obtain ⟨c2, k2, i1, i2, i3, -⟩ := Cond.instantiable_spec wi
  cases e2.symm.trans i1
  cases e3.symm.trans i2
  obtain ⟨kU, u1, u2⟩ := al.2.2 _ _ e3
  have hB : Blank ST x D P.U := ⟨hD, ⟨knV, fun q hq => by rw [hq] at obV; cases obV⟩, by rw [al.findClass]; exact e2, kU, u1, by rw [u2]; exact i3, by rw [u2]; exact e5 i3⟩
  have F1 : Found ST "value" "[B" fV P.U := ⟨SBG.found_only al ⟨cfV, kV, iV, gV⟩, stV⟩
  have F2 : Found ST "coder" "B" fC P.U := ⟨SBG.found_only al ⟨cfC, kC, iC, gC⟩, stC⟩
  have hA : Ch b A P.U := ⟨⟨K.1, State.isArrayOf_alike al K.2.1, K.2.2, by omega⟩, hty⟩
  have hS : StaticIs P.U ST "COMPACT_STRINGS" "Z" (.int z) := by
    obtain ⟨cfS, iS, kS, fS, st, cS, t1, t2, t3, t4, t5, t6, t7⟩ := S
    exact StaticIs.there (s := { Z with heap := P.U.heap }) ⟨cfS, iS, kS, fS, st, cS, t1, t2, t3, t4, t5, (fun q => by rw [q] at t6; cases t6), t7⟩ al rfl
  obtain ⟨v, B, X', ⟨⟨hv, E', V', q1, q2, q3, q4, q5, q6, q7, q8, q9, q10, q11⟩, hl, hc, hs⟩, st⟩ := New1.pays x D fV fC b A z (tab_of (moved hZ hw)) hfr hlo m meth c P g ig mk _ X hg hsize hdg hW hn ⟨r1, r2, rfl, hB, F1, F2, hA, hS, hz, l0, l2, hp⟩
  have al' : Z.vm.Alike B.U.vm := hZ.alike.trans X'.warmed.alike
  have hsz : E'.slots.size = D.slots.size := by
    obtain ⟨-, -, -, kB, w1, w2, w3⟩ := q1
    obtain ⟨kB', y1, y2⟩ := al'.2.2 _ _ e3
    rw [q2.2.1] at w1
    cases w1.symm.trans y1
    rw [w3, e5 i3, y2]
  refine ⟨v, B, X', ⟨_, ⟨hv, ?_, ⟨by omega, fun y cy hy hn' => q10 y cy (by simpa using hn') hy, fun y cy hy => ?_⟩, q11, ⟨E', _, q1.1, by rw [q2.2.1]; exact e2, by rw [q2.2.1]; exact e3, by rw [q2.1]; exact obV, fun _ => by rw [hsz]; exact e5 i3⟩,
    ⟨E', cfV, kV, iV, fV, q1.1, gV, stV, by rw [q2.1]; exact knV, by rw [q2.1]; exact obV, by rw [q2.2.1]; exact asV, q3⟩, ⟨E', cfC, kC, iC, fC, q1.1, gC, stC, by rw [q2.1]; exact knV, by rw [q2.1]; exact obV, by rw [q2.2.1]; exact asC, q4⟩,
    ⟨V', ⟨q5.1, State.isArrayOf_alike al'.symm q5.2.1, q5.2.2.1⟩, q6, by rw [← al'.findClass]; exact q7, q8, fun j hj => by have := q9 j hj; rwa [Nat.zero_add] at this⟩, fun O n d w F n1 n2 => ?_⟩, hl, hc, hs⟩, st⟩
  · intro y hy
    simp only [List.mem_cons, List.not_mem_nil, or_false] at hy
    rcases hy with rfl | rfl <;> rfl
  · by_cases q : y = x
    · subst q
      cases hD.symm.trans hy
      exact ⟨E', q1.1, q2.2.1, q2.1, hsz⟩
    · exact ⟨cy, q10 y cy q hy, rfl, rfl, rfl⟩
  · obtain ⟨D3, cf, k, i, f, g1, g2, g3, g4, g5, g6, g7⟩ := F
    cases hD.symm.trans g1
    simp only [RoadKit.slotOf, g2, gV, gC, Option.map_some, Option.getD_some] at n1 n2
    exact ⟨E', cf, k, i, f, q1.1, g2, g3, by rw [q2.1]; exact g4, by rw [q2.1]; exact g5, by rw [q2.2.1]; exact g6, by rw [q2.2.2 f.slot (by simp [n1, n2])]; exact g7⟩
end StrChars.Road
namespace StrChars.Road
open Jvm Sem ClassFile Op Lib Jvm.Stand Jvm.Free Jvm.Free.XT
/-- WHAT COMES BACK, the byte[] as a list of values -/
def QA (Z : State) (x : Addr) (zn : Int32) (cs : List Int32) (h : Heap) (v : Option Value) (h' : Heap) (L : List Loc) : Prop := v = none ∧ (∀ y ∈ L, y.base = x) ∧ RoadKit.Keep h h' [x] ∧ h'.size = h.size + 1 ∧ RoadKit.Exa Z h' x ST ∧ RoadKit.Fld Z h' x ST "value" "[B" (.ref h.size) ∧ RoadKit.Fld Z h' x ST "coder" "B" (.int 0) ∧
  (∃ kb, Z.vm.findClass "[B" = some kb ∧ RoadKit.Arv Z h' h.size kb .byte zn (cs.map fun c => .int (lo8 c)) (.int 0)) ∧
  ∀ (O n d : String) (w : Value), RoadKit.Fld Z h x O n d w → RoadKit.slotOf Z O n d ≠ RoadKit.slotOf Z ST "value" "[B" → RoadKit.slotOf Z O n d ≠ RoadKit.slotOf Z ST "coder" "B" → RoadKit.Fld Z h' x O n d w
/-- **new String(chars) AT A CALL, THE ARRAYS AS LISTS**: the char[] at b holds cs, not empty, no char above 255 -/
theorem backArv {p : Program} {l : Launch} {e : Env} {R : Room} {s : State} {args : Array Value} {below : List Frame} {len W : Nat} {Z : State} {a0 : Array Value} {h : Heap} (hZ : Z.Warmed39 s.vm) (hw : ∀ d ∈ words, d.before a0 Z = true) {kI : Nat} (wi : (Jvm.Cond.instantiable ST kI).before a0 Z = true)
    {x b : Addr} {k : ClassId} {zn z : Int32} {cs : List Int32} {dv v0 c0 : Value} (E : RoadKit.Exa Z h x ST) (V : RoadKit.Fld Z h x ST "value" "[B" v0) (C : RoadKit.Fld Z h x ST "coder" "B" c0) (K : RoadKit.Arv Z h b k .char zn (cs.map Value.int) dv) (S : RoadKit.Sta Z h ST "COMPACT_STRINGS" "Z" (.int z)) (hz : ¬ z = 0)
    (hlen : zn.toNatClampNeg = cs.length) (h0 : 0 < cs.length) (hbig : cs.length ≤ 536870912) (hall : ∀ c ∈ cs, ¬ 255 < c) (hfr : 4 ≤ R.frames) (hlo : W + 65 ≤ R.locals) :
    Back l R p e below s args New1.yN len W (fun P a => a = #[.ref x, .ref b] ∧ P.U.heap = h ∧ P.cells + 1 ≤ R.cells ∧ P.slots + cs.length ≤ R.slots)
      (fun P _ v B => ∃ L, QA Z x zn cs h v B.U.heap L ∧ B.locs = P.locs ++ L ∧ B.cells = P.cells + 1 ∧ B.slots = P.slots + cs.length) := by
  obtain ⟨A, K1, K2, K3, K4, K5, K6⟩ := K
  have e : A.slots.size = cs.length := K3.trans hlen
  have hat : ∀ (i : Nat) (hi : i < cs.length), A.slots[i]? = some (.int cs[i]) := fun i hi => by rw [K5 i (by omega)]; simp [List.getD_eq_getElem?_getD, hi]
  have hcv : ∀ (i : Nat) (hi : i < cs.length), cv A i = cs[i] := fun i hi => by unfold cv; rw [hat i hi]
  have hty : Typed .char A := fun i v hv => by
    have hi : i < A.slots.size := (Array.getElem?_eq_some_iff.mp hv).1
    have q := K5 i hi
    rw [hv] at q
    rw [Option.some.inj q]
    exact K6 i hi
  refine Back.mono (back hZ hw wi E V C K1 hty S hz (by omega) (by omega) (fun i hi => by rw [hcv i (by omega)]; exact hall _ (List.getElem_mem _)) hfr hlo) (fun P a hp => ⟨hp.1, hp.2.1, hp.2.2.1, by rw [e]; exact hp.2.2.2⟩) (fun P a v B hp hq => ?_)
  obtain ⟨L, ⟨q1, q2, q3, q4, q5, q6, q7, ⟨V', v1, v2, v3, v4, v5⟩, q9⟩, hl, hc, hs⟩ := hq
  refine ⟨L, ⟨q1, q2, q3, q4, q5, q6, q7, ⟨V'.cls, v3, V', v1, rfl, by rw [v4, e, hlen], K4, fun i hi => ?_, fun i hi => ?_⟩, q9⟩, hl, hc, by rw [hs, e]⟩
  · have hi' : i < cs.length := by omega
    rw [v5 i (by omega), hcv i hi']; simp [List.getD_eq_getElem?_getD, hi']
  · have hi' : i < cs.length := by omega
    simp only [List.getD_eq_getElem?_getD, List.getElem?_map, List.getElem?_eq_getElem hi', Option.map_some, Option.getD_some]
    exact fits_lo8 _
end StrChars.Road
namespace StrChars.Road
open Jvm Sem ClassFile Op Lib Jvm.Stand Jvm.Free Jvm.Free.XT
/-- WHAT COMES BACK, in the writer's own shape -/
def QV (Z : State) (x : Addr) (N : Int32) (bs : List Int32) (h : Heap) (n0 : Nat) (v : Option Value) (h' : Heap) (L : List Loc) : Prop := v = none ∧ RoadKit.Fr n0 L ∧ RoadKit.Keep h h' [x] ∧ RoadKit.Exa Z h' x ST ∧ RoadKit.Fld Z h' x ST "coder" "B" (.int 0) ∧
  ∃ (t : Addr) (kb : ClassId), n0 ≤ t ∧ h.size ≤ t ∧ ¬ t = x ∧ RoadKit.Fld Z h' x ST "value" "[B" (.ref t) ∧ RoadKit.Arv Z h' t kb .byte N (bs.map Value.int) (.int 0)
/-- **new String(chars) AT A CALL, FOR THE WRITER**: a char[] of n known ints, each 0 to 255 -/
theorem backV {p : Program} {l : Launch} {e : Env} {R : Room} {s : State} {args : Array Value} {below : List Frame} {len W : Nat} {Z : State} {a0 : Array Value} {h : Heap} (hZ : Z.Warmed39 s.vm) (hw : ∀ d ∈ words, d.before a0 Z = true) {kI : Nat} (wi : (Jvm.Cond.instantiable ST kI).before a0 Z = true)
    {x b : Addr} {kC : ClassId} {cs bs : List Int32} {d v0 c0 : Value} {z N : Int32} {n n0 : Nat} (hx0 : n0 ≤ x) (hh0 : n0 ≤ h.size) (E : RoadKit.Exa Z h x ST) (V : RoadKit.Fld Z h x ST "value" "[B" v0) (C : RoadKit.Fld Z h x ST "coder" "B" c0) (K : RoadKit.Arv Z h b kC .char N (cs.map Value.int) d) (S : RoadKit.Sta Z h ST "COMPACT_STRINGS" "Z" (.int z)) (hz : ¬ z = 0)
    (hn : cs.length = n) (hN : N = Int32.ofNat n) (l0 : 0 < n) (l2 : n ≤ 4000) (hp : ∀ c ∈ cs, ¬ c < 0 ∧ ¬ (255 : Int32) < c) (hb : bs = cs.map (fun c => c.toInt8.toInt32)) (hfr : 4 ≤ R.frames) (hlo : W + 65 ≤ R.locals) :
    Back l R p e below s args (⟨"java/lang/String", "<init>", "([C)V"⟩ : MethodName) len W (fun P a => a = #[.ref x, .ref b] ∧ P.U.heap = h ∧ P.cells + 1 ≤ R.cells ∧ P.slots + n ≤ R.slots)
      (fun P _ v B => ∃ L, QV Z x N bs h n0 v B.U.heap L ∧ B.locs = P.locs ++ L ∧ B.cells = P.cells + 1 ∧ B.slots = P.slots + n) := by
  subst hn hN hb
  refine Back.mono (backArv hZ hw wi E V C K S hz (n32 (by omega)) l0 (by omega) (fun c hc => (hp c hc).2) hfr hlo) (fun P a hp => hp) (fun P a v B hp hq => ?_)
  obtain ⟨L, ⟨q1, q2, q3, q4, q5, q6, q7, ⟨kb, v1, v2⟩, q9⟩, hl, hc, hs⟩ := hq
  exact ⟨L, ⟨q1, fun y hy => by rw [q2 y hy]; exact hx0, q3, q5, q7, h.size, kb, hh0, Nat.le_refl _, Nat.ne_of_gt E.lt, q6, by rw [List.map_map]; exact v2⟩, hl, hc, hs⟩
end StrChars.Road
namespace StrChars
open Jvm Sem ClassFile Op Lib Jvm.Stand Jvm.Free.XT Jvm.Free.ALB Jvm.Free.JM Jvm.Free
open Jvm.Lib.Cold (StaticIs)
def hi8 (x : Int32) : Int32 := lo8 (x >>> ((8 : Int32) &&& 31))
/-- what StringUTF16.getChar makes of two bytes -/
def pairCh (u v : Int32) : Int32 := (((u &&& 255) <<< ((0 : Int32) &&& 31)) ||| ((v &&& 255) <<< ((8 : Int32) &&& 31))).toUInt32.toUInt16.toUInt32.toInt32
theorem lo8_and (x : Int32) : (lo8 x &&& 255).toBitVec.toNat = x.toBitVec.toNat % 256 := by
  have h : (lo8 x).toBitVec = (x.toBitVec.signExtend 8).signExtend 32 := by rw [lo8, Int8.toBitVec_toInt32, Int32.toBitVec_toInt8]
  rw [Int32.toBitVec_and, BitVec.toNat_and, h]
  have e : ((x.toBitVec.signExtend 8).signExtend 32).toNat % 256 = x.toBitVec.toNat % 256 := by
    rw [BitVec.toNat_signExtend]
    have hlt := x.toBitVec.isLt
    simp only [BitVec.toNat_setWidth, BitVec.toNat_signExtend]
    split <;> split <;> omega
  rw [← e]
  exact Nat.and_two_pow_sub_one_eq_mod _ 8
theorem pair_says {c : Int32} (h0 : ¬ c < 0) (h1 : ¬ 65535 < c) : pairCh (lo8 c) (hi8 c) = c := by
  rw [Int32.lt_iff_toInt_lt] at h0 h1
  have e0 : (0 : Int32).toInt = 0 := rfl
  have e1 : (65535 : Int32).toInt = 65535 := rfl
  have hc : c.toInt = c.toBitVec.toNat := by
    have := c.toBitVec.isLt
    have e : c.toInt = c.toBitVec.toInt := rfl
    rw [e] at h0 h1
    rw [e]
    rw [BitVec.toInt_eq_toNat_cond] at h0 h1 ⊢
    split at h0 <;> split <;> omega
  have hn : c.toBitVec.toNat < 65536 := by omega
  have a1 := lo8_and c
  have a2 : (hi8 c &&& 255).toBitVec.toNat = c.toBitVec.toNat / 256 := by
    rw [hi8, lo8_and]
    have e : ((8 : Int32) &&& 31) = 8 := by decide
    rw [e, Int32.toBitVec_shiftRight]
    have e2 : ((8 : Int32).toBitVec.smod 32) = 8#32 := by decide
    rw [e2, BitVec.sshiftRight_eq', BitVec.toNat_sshiftRight_of_msb_false (by rw [BitVec.msb_eq_false_iff_two_mul_lt]; omega)]
    show c.toBitVec.toNat >>> 8 % 256 = _
    rw [Nat.shiftRight_eq_div_pow]
    omega
  unfold pairCh
  apply Int32.toBitVec_inj.mp
  apply BitVec.eq_of_toNat_eq
  have f0 : ((0 : Int32) &&& 31) = 0 := by decide
  have f8 : ((8 : Int32) &&& 31) = 8 := by decide
  rw [f0, f8]
  have g : (((lo8 c &&& 255) <<< (0 : Int32)) ||| ((hi8 c &&& 255) <<< (8 : Int32))).toBitVec.toNat = c.toBitVec.toNat := by
    rw [Int32.toBitVec_or, Int32.toBitVec_shiftLeft, Int32.toBitVec_shiftLeft]
    have s0 : ((0 : Int32).toBitVec.smod 32) = 0#32 := by decide
    have s8 : ((8 : Int32).toBitVec.smod 32) = 8#32 := by decide
    rw [s0, s8, BitVec.toNat_or]
    simp only [BitVec.shiftLeft_eq', BitVec.toNat_shiftLeft, a1, a2]
    show (c.toBitVec.toNat % 256) <<< 0 % 2 ^ 32 ||| (c.toBitVec.toNat / 256) <<< 8 % 2 ^ 32 = _
    rw [Nat.shiftLeft_zero, Nat.mod_eq_of_lt (show c.toBitVec.toNat % 256 < 2 ^ 32 by omega), Nat.mod_eq_of_lt (show (c.toBitVec.toNat / 256) <<< 8 < 2 ^ 32 by rw [Nat.shiftLeft_eq]; omega), Nat.or_comm, ← Nat.shiftLeft_add_eq_or_of_lt (by omega), Nat.shiftLeft_eq]
    omega
  show BitVec.toNat (((((lo8 c &&& 255) <<< (0 : Int32)) ||| ((hi8 c &&& 255) <<< (8 : Int32))).toBitVec.setWidth 16).setWidth 32) = _
  rw [BitVec.toNat_setWidth, BitVec.toNat_setWidth, g]
  omega
end StrChars
namespace StrChars
open Jvm Sem ClassFile Op Lib Jvm.Stand Jvm.Free.XT Jvm.Free.ALB Jvm.Free.JM Jvm.Free
open Jvm.Lib.Cold (StaticIs)
/-- the array's cell V codes the n chars f 0 .. f (n - 1) by the coder cd, as the JDK does: coder 1 just where some char is above 255 -/
def Cod (cd : Int32) (n : Nat) (f : Nat → Int32) (V : Cell) : Prop := (cd = 0 ∧ V.slots.size = n ∧ ∀ j, j < n → V.slots[j]? = some (.int (lo8 (f j))) ∧ ¬ 255 < f j) ∨ (cd = 1 ∧ V.slots.size = 2 * n ∧ (∀ j, j < n → V.slots[2 * j]? = some (.int (lo8 (f j))) ∧ V.slots[2 * j + 1]? = some (.int (hi8 (f j)))) ∧ ∃ j, j < n ∧ 255 < f j)
/-- **x is a String of the n chars f 0 .. f (n - 1)**, Latin-1 or UTF-16; its array at t has the cell V -/
def Txt (x t : Addr) (V : Cell) (cd : Int32) (n : Nat) (f : Nat → Int32) (U : State) : Prop := Exact "java/lang/String" x U ∧ Has x "java/lang/String" "value" "[B" (.ref t) U ∧ Has x "java/lang/String" "coder" "B" (.int cd) U ∧ XT.Arr .byte t V U ∧ Cod cd n f V ∧ ∀ j, j < n → ¬ f j < 0 ∧ ¬ 65535 < f j
theorem Txt.mv {x t : Addr} {V : Cell} {cd : Int32} {n : Nat} {f : Nat → Int32} {U U' : State} (h : Txt x t V cd n f U) (hal : U.vm.Alike U'.vm) (hh : U'.heap = U.heap) : Txt x t V cd n f U' := ⟨h.1.mv hal hh, h.2.1.mv hal hh, h.2.2.1.mv hal hh, h.2.2.2.1.mv hal hh, h.2.2.2.2⟩
end StrChars
namespace StrChars.Road
open Jvm Sem ClassFile Op Lib Jvm.Stand Jvm.Free Jvm.Free.XT
open Jvm.Lib.Cold (StaticIs)
theorem consq {a : Array Value} {s : State} {c : Jvm.Cond} {L : List Jvm.Cond} (h0 : c.before a s = true) (h : ∀ w ∈ L, w.before a s = true) : ∀ w ∈ c :: L, w.before a s = true := fun w hw => (List.mem_cons.mp hw).elim (fun e => e ▸ h0) (h w)
/-- the bytes of the chars cs, low before high -/
def wideBytes : List Int32 → List Value
  | [] => []
  | c :: cs => .int (lo8 c) :: .int (hi8 c) :: wideBytes cs
theorem wide_lo (d : Value) : ∀ (cs : List Int32) (j : Nat), j < cs.length → (wideBytes cs).getD (2 * j) d = .int (lo8 (cs.getD j 0))
  | [], j, h => absurd h (Nat.not_lt_zero j)
  | c :: cs, 0, _ => rfl
  | c :: cs, j + 1, h => by
    have q := wide_lo d cs j (by simpa using h)
    rw [show 2 * (j + 1) = 2 * j + 1 + 1 from by omega]
    simpa [wideBytes] using q
theorem wide_hi (d : Value) : ∀ (cs : List Int32) (j : Nat), j < cs.length → (wideBytes cs).getD (2 * j + 1) d = .int (hi8 (cs.getD j 0))
  | [], j, h => absurd h (Nat.not_lt_zero j)
  | c :: cs, 0, _ => rfl
  | c :: cs, j + 1, h => by
    have q := wide_hi d cs j (by simpa using h)
    rw [show 2 * (j + 1) + 1 = 2 * j + 1 + 1 + 1 from by omega]
    simpa [wideBytes] using q
theorem low_at (d : Value) (cs : List Int32) (j : Nat) (h : j < cs.length) : (cs.map fun c => Value.int (lo8 c)).getD j d = .int (lo8 (cs.getD j 0)) := by
  simp [List.getD_eq_getElem?_getD, h]
/-- an array of N2 bytes vs codes the chars cs by the coder cd -/
def CodA (cs : List Int32) (cd N2 : Int32) (vs : List Value) : Prop := (cd = 0 ∧ N2 = Int32.ofNat cs.length ∧ vs = (cs.map fun c => Value.int (lo8 c)) ∧ ∀ c ∈ cs, ¬ 255 < c) ∨ (cd = 1 ∧ N2 = Int32.ofNat (2 * cs.length) ∧ vs = wideBytes cs ∧ ∃ c ∈ cs, 255 < c)
theorem CodA.cod {cs : List Int32} {cd N2 : Int32} {vs : List Value} {V : Cell} (h : CodA cs cd N2 vs) (hn : 2 * cs.length < 2 ^ 31) (hs : V.slots.size = N2.toNatClampNeg) (hv : RoadKit.Has V vs (.int 0)) : Cod cd cs.length (fun j => cs.getD j 0) V := by
  rcases h with ⟨rfl, rfl, rfl, h⟩ | ⟨rfl, rfl, rfl, c, hc, hw⟩
  · rw [n32 (by omega)] at hs
    exact Or.inl ⟨rfl, hs, fun j hj => ⟨by rw [hv j (by omega), low_at _ _ _ hj], by
      have e : cs.getD j 0 = cs[j] := by simp [List.getD_eq_getElem?_getD, hj]
      show ¬ 255 < cs.getD j 0
      rw [e]; exact h _ (List.getElem_mem _)⟩⟩
  · rw [n32 (by omega)] at hs
    obtain ⟨j, hj, rfl⟩ := List.getElem_of_mem hc
    exact Or.inr ⟨rfl, hs, fun j hj => ⟨by rw [hv _ (by omega), wide_lo _ _ _ hj], by rw [hv _ (by omega), wide_hi _ _ _ hj]⟩, j, hj, by
      have e : cs.getD j 0 = cs[j] := by simp [List.getD_eq_getElem?_getD, hj]
      show 255 < cs.getD j 0
      rw [e]; exact hw⟩
/-- an object of exactly java/lang/String, its two fields found: as the laws ask it -/
theorem strObj {Z U : State} {a0 : Array Value} {kI : Nat} (wi : (Jvm.Cond.instantiable ST kI).before a0 Z = true) (al : Z.vm.Alike U.vm) {x : Addr} {v0 c0 : Value} (E : RoadKit.Exa Z U.heap x ST) (V : RoadKit.Fld Z U.heap x ST "value" "[B" v0) (C : RoadKit.Fld Z U.heap x ST "coder" "B" c0) :
    ∃ (D : Cell) (fV fC : Field), Blank ST x D U ∧ Found ST "value" "[B" fV U ∧ Found ST "coder" "B" fC U ∧ D.slots[fV.slot]? = some v0 ∧ D.slots[fC.slot]? = some c0 ∧ RoadKit.slotOf Z ST "value" "[B" = fV.slot ∧ RoadKit.slotOf Z ST "coder" "B" = fC.slot := by
  obtain ⟨D, cfV, kV, iV, fV, hD, gV, stV, knV, obV, asV, slV⟩ := V
  obtain ⟨D', cfC, kC, iC, fC, hD', gC, stC, -, -, asC, slC⟩ := C
  cases hD.symm.trans hD'
  obtain ⟨D2, kD, e1, e2, e3, e4, e5⟩ := E
  cases hD.symm.trans e1
  obtain ⟨c2, k2, i1, i2, i3, -⟩ := Cond.instantiable_spec wi
  cases e2.symm.trans i1
  cases e3.symm.trans i2
  obtain ⟨kU, u1, u2⟩ := al.2.2 _ _ e3
  exact ⟨D, fV, fC, ⟨hD, ⟨knV, fun q hq => by rw [hq] at obV; cases obV⟩, by rw [al.findClass]; exact e2, kU, u1, by rw [u2]; exact i3, by rw [u2]; exact e5 i3⟩, ⟨SBG.found_only al ⟨cfV, kV, iV, gV⟩, stV⟩, ⟨SBG.found_only al ⟨cfC, kC, iC, gC⟩, stC⟩, slV, slC, by simp [RoadKit.slotOf, gV], by simp [RoadKit.slotOf, gC]⟩
theorem sta_is {Z U : State} (al : Z.vm.Alike U.vm) {C n d : String} {v : Value} (S : RoadKit.Sta Z U.heap C n d v) : StaticIs U C n d v := by
  obtain ⟨cfS, iS, kS, fS, st, cS, t1, t2, t3, t4, t5, t6, t7⟩ := S
  exact StaticIs.there (s := { Z with heap := U.heap }) ⟨cfS, iS, kS, fS, st, cS, t1, t2, t3, t4, t5, (fun q => by rw [q] at t6; cases t6), t7⟩ al rfl
end StrChars.Road
namespace StrChars
open Jvm Sem ClassFile Op Lib Jvm.Stand Jvm.Free.XT Jvm.Free.ALB Jvm.Free.JM Jvm.Free
open Jvm.Lib.Cold (StaticIs)
/-- what place i of a byte[]'s cell holds -/
def yv (A : Cell) (i : Nat) : Int32 := match A.slots[i]? with | some (.int x) => x | _ => 0
theorem yv_get {a : Addr} {A : Cell} {U : State} (h : XT.Arr .byte a A U) (ht : Typed .byte A) {i : Nat} (hi : i < A.slots.size) : A.slots[i]? = some (.int (yv A i)) := by
  have e := Array.getElem?_eq_getElem hi
  have f := ht i _ e
  unfold yv; rw [e]
  generalize A.slots[i] = v at f
  cases v <;> simp [fits] at f ⊢
/-- the two arrays are equal, place for place -/
def EqC (A B : Cell) : Prop := A.slots.size = B.slots.size ∧ ∀ i, i < A.slots.size → yv A i = yv B i
/-- a boolean that says whether p -/
def Says01 (q : Prop) (r : Option Value) (s u : State) : Prop := ∃ v : Int32, r = some (.int v) ∧ u.heap = s.heap ∧ ((v = 1 ∧ q) ∨ (v = 0 ∧ ¬ q))
theorem Says01.mv {q : Prop} : ∀ r (U U' V V' : State), U'.heap = U.heap → V.vm.Alike V'.vm → V'.heap = V.heap → Says01 q r U V → Says01 q r U' V' :=
  fun r U U' V V' h1 _ h2 ⟨v, a, b, c⟩ => ⟨v, a, by rw [h1, h2]; exact b, c⟩
namespace LEq
def yN : MethodName := ⟨"java/lang/StringLatin1", "equals", "([B[B)Z"⟩
abbrev yB : ByteArray := jdk_43_method_13_code
theorem d0 : decode yB 0 = .ok (.aload_n 0, 1) := by decide +kernel
theorem d1 : decode yB 1 = .ok (.arraylength, 1) := by decide +kernel
theorem d2 : decode yB 2 = .ok (.aload_n 1, 1) := by decide +kernel
theorem d3 : decode yB 3 = .ok (.arraylength, 1) := by decide +kernel
theorem d4 : decode yB 4 = .ok (.if_icmp (.ne) 30, 3) := by decide +kernel
theorem d7 : decode yB 7 = .ok (.iconst 0, 1) := by decide +kernel
theorem d8 : decode yB 8 = .ok (.istore_n 2, 1) := by decide +kernel
theorem d9 : decode yB 9 = .ok (.iload_n 2, 1) := by decide +kernel
theorem d10 : decode yB 10 = .ok (.aload_n 0, 1) := by decide +kernel
theorem d11 : decode yB 11 = .ok (.arraylength, 1) := by decide +kernel
theorem d12 : decode yB 12 = .ok (.if_icmp (.ge) 20, 3) := by decide +kernel
theorem d15 : decode yB 15 = .ok (.aload_n 0, 1) := by decide +kernel
theorem d16 : decode yB 16 = .ok (.iload_n 2, 1) := by decide +kernel
theorem d17 : decode yB 17 = .ok (.baload, 1) := by decide +kernel
theorem d18 : decode yB 18 = .ok (.aload_n 1, 1) := by decide +kernel
theorem d19 : decode yB 19 = .ok (.iload_n 2, 1) := by decide +kernel
theorem d20 : decode yB 20 = .ok (.baload, 1) := by decide +kernel
theorem d21 : decode yB 21 = .ok (.if_icmp (.eq) 5, 3) := by decide +kernel
theorem d24 : decode yB 24 = .ok (.iconst 0, 1) := by decide +kernel
theorem d25 : decode yB 25 = .ok (.ireturn, 1) := by decide +kernel
theorem d26 : decode yB 26 = .ok (.iinc 2 1, 3) := by decide +kernel
theorem d29 : decode yB 29 = .ok (.goto (-20), 3) := by decide +kernel
theorem d32 : decode yB 32 = .ok (.iconst 1, 1) := by decide +kernel
theorem d33 : decode yB 33 = .ok (.ireturn, 1) := by decide +kernel
theorem d34 : decode yB 34 = .ok (.iconst 0, 1) := by decide +kernel
theorem d35 : decode yB 35 = .ok (.ireturn, 1) := by decide +kernel
def site : List Cond := []
def tab : Cond := tabOf yN yB 3 (some .boolean) site
def P (a : Addr) (A : Cell) (b : Addr) (B : Cell) (args : Array Value) (s : State) : Prop := args = #[.ref a, .ref b] ∧ XT.Arr .byte a A s ∧ Typed .byte A ∧ XT.Arr .byte b B s ∧ Typed .byte B
/-- whether two byte[] are equal, place for place -/
theorem law (l : Launch) (a : Addr) (A : Cell) (b : Addr) (B : Cell) : Law l yN 2 2 0 0 yB 3 (some .boolean) site (P a A b B) (Says01 (EqC A B)) [] 0 0 := by
  refine Law.of_walk (plainFor_of_name (by decide +kernel)) (by decide +kernel) (by decide +kernel) (by decide) (fun _ _ h => by rw [h.1]; rfl) (fun _ U U' hal hh h => ⟨h.1, h.2.1.mv hal hh, h.2.2.1, h.2.2.2.1.mv hal hh, h.2.2.2.2⟩) (fun r U U' V V' h1 hal h2 h => Says01.mv r U U' V V' h1 hal h2 h) ?_
  intro p e s m args below meth c s₁ X0 hexec hbytes hml hret hlk hnm hown hh0 W hP
  obtain ⟨rfl, hA, tA, hB, tB⟩ := hP
  have a31 := hA.2.2.2
  have b31 := hB.2.2.2
  have hA0 := hA.mv X0.warmed.alike hh0
  have hB0 := hB.mv X0.warmed.alike hh0
  have c1 : Steps p.tables e below (s₁.setTop (entryFrame m #[.ref a, .ref b] 3)) (s₁.setTop (mkF m 0 #[.val (.ref a), .val (.ref b), .unset] [])) := entry rfl
  have c2 : Steps p.tables e below (s₁.setTop (entryFrame m #[.ref a, .ref b] 3)) (s₁.setTop (mkF m 4 #[.val (.ref a), .val (.ref b), .unset] [.int (Int32.ofNat B.slots.size), .int (Int32.ofNat A.slots.size)])) := c1.trans (by
    refine XS.aloadN X0.here hexec rfl (hb hbytes d0) rfl rfl ?_
    refine X0.alen hexec hA0 rfl rfl (hb hbytes d1) ?_
    refine XS.aloadN X0.here hexec rfl (hb hbytes d2) rfl rfl ?_
    refine X0.alen hexec hB0 rfl rfl (hb hbytes d3) ?_
    exact Steps.refl _)
  by_cases hs : A.slots.size = B.slots.size
  · have c3 : Steps p.tables e below (s₁.setTop (entryFrame m #[.ref a, .ref b] 3)) (s₁.setTop (mkF m 9 #[.val (.ref a), .val (.ref b), .val (.int 0)] [])) := c2.trans (by
      refine XS.icmpNo X0.here hexec rfl (hb hbytes d4) rfl (ii_ne_f (by rw [hs])) ?_
      refine iconstV X0.here hexec rfl 0 (hb hbytes d7) (by decide) ?_
      refine XS.istoreN X0.here hexec rfl (hb hbytes d8) rfl rfl ?_
      exact Steps.refl _)
    have loop : ∀ (r i : Nat), i + r = A.slots.size → (∀ j, j < i → yv A j = yv B j) → Steps p.tables e below (s₁.setTop (entryFrame m #[.ref a, .ref b] 3)) (s₁.setTop (mkF m 9 #[.val (.ref a), .val (.ref b), .val (.int (Int32.ofNat i))] [])) → ∃ (pc : Nat) (Ls : Array Slot) (v : Int32), (pc = 25 ∨ pc = 33) ∧ ((v = 1 ∧ EqC A B) ∨ (v = 0 ∧ ¬ EqC A B)) ∧ Steps p.tables e below (s₁.setTop (entryFrame m #[.ref a, .ref b] 3)) (s₁.setTop (mkF m pc Ls [.int v])) := by
      intro r
      induction r with
      | zero =>
        intro i hi he cl
        exact ⟨33, _, 1, Or.inr rfl, Or.inl ⟨rfl, hs, fun j hj => he j (by omega)⟩, cl.trans (by
          refine XS.iloadN X0.here hexec rfl (hb hbytes d9) rfl ?_
          refine XS.aloadN X0.here hexec rfl (hb hbytes d10) rfl rfl ?_
          refine X0.alen hexec hA0 rfl rfl (hb hbytes d11) ?_
          refine XS.icmpYes X0.here hexec rfl (pc0 := 12) rfl (hb hbytes d12) rfl (ii_ge_t (nlt32 (by omega) (by omega))) (by decide) rfl ?_
          refine iconstV X0.here hexec rfl 1 (hb hbytes d32) (by decide) ?_
          exact Steps.refl _)⟩
      | succ r ih =>
        intro i hi he cl
        have c4 : Steps p.tables e below (s₁.setTop (entryFrame m #[.ref a, .ref b] 3)) (s₁.setTop (mkF m 21 #[.val (.ref a), .val (.ref b), .val (.int (Int32.ofNat i))] [.int (yv B i), .int (yv A i)])) := cl.trans (by
          refine XS.iloadN X0.here hexec rfl (hb hbytes d9) rfl ?_
          refine XS.aloadN X0.here hexec rfl (hb hbytes d10) rfl rfl ?_
          refine X0.alen hexec hA0 rfl rfl (hb hbytes d11) ?_
          refine XS.icmpNo X0.here hexec rfl (hb hbytes d12) rfl (ii_ge_f (lt32 (by omega) (by omega))) ?_
          refine XS.aloadN X0.here hexec rfl (hb hbytes d15) rfl rfl ?_
          refine XS.iloadN X0.here hexec rfl (hb hbytes d16) rfl ?_
          refine X0.aget hexec hA0 rfl (yv_get hA tA (i := i) (by omega)) rfl rfl (hb hbytes d17) ?_
          refine XS.aloadN X0.here hexec rfl (hb hbytes d18) rfl rfl ?_
          refine XS.iloadN X0.here hexec rfl (hb hbytes d19) rfl ?_
          refine X0.aget hexec hB0 rfl (yv_get hB tB (i := i) (by omega)) rfl rfl (hb hbytes d20) ?_
          exact Steps.refl _)
        by_cases hv : yv A i = yv B i
        · have c5 : Steps p.tables e below (s₁.setTop (entryFrame m #[.ref a, .ref b] 3)) (s₁.setTop (mkF m 9 #[.val (.ref a), .val (.ref b), .val (.int (Int32.ofNat i + 1))] [])) := c4.trans (by
            refine XS.icmpYes X0.here hexec rfl (pc0 := 21) rfl (hb hbytes d21) rfl (ii_eq_t hv) (by decide) rfl ?_
            refine iincV X0.here hexec rfl 1 (hb hbytes d26) (by decide) rfl rfl ?_
            refine XS.goto X0.here hexec rfl (pc0 := 29) rfl (hb hbytes d29) (by decide) rfl ?_
            exact Steps.refl _)
          rw [succ32] at c5
          exact ih (i + 1) (by omega) (fun j hj => by
            by_cases e : j = i
            · rw [e]; exact hv
            · exact he j (by omega)) c5
        · exact ⟨25, _, 0, Or.inl rfl, Or.inr ⟨rfl, fun q => hv (q.2 i (by omega))⟩, c4.trans (by
            refine XS.icmpNo X0.here hexec rfl (hb hbytes d21) rfl (ii_eq_f hv) ?_
            refine iconstV X0.here hexec rfl 0 (hb hbytes d24) (by decide) ?_
            exact Steps.refl _)⟩
    obtain ⟨pc, Ls, v, hpc, hv, cz⟩ := loop A.slots.size 0 (by omega) (fun j hj => absurd hj (Nat.not_lt_zero j)) c3
    have nv : narrow .boolean (.int v) = .int v := by rcases hv with ⟨rfl, -⟩ | ⟨rfl, -⟩ <;> rfl
    rcases hpc with rfl | rfl
    · exact ⟨s₁, some (.int v), _, _, _, X0, rfl, rfl, rfl, (fun h => by cases h), ⟨v, rfl, hh0, hv⟩, fun fs hl => cz.trans (X0.ireturnOut hexec hret nv (Or.inr (Or.inl rfl)) (hb hbytes d25) hl)⟩
    · exact ⟨s₁, some (.int v), _, _, _, X0, rfl, rfl, rfl, (fun h => by cases h), ⟨v, rfl, hh0, hv⟩, fun fs hl => cz.trans (X0.ireturnOut hexec hret nv (Or.inr (Or.inl rfl)) (hb hbytes d33) hl)⟩
  · have c3 : Steps p.tables e below (s₁.setTop (entryFrame m #[.ref a, .ref b] 3)) (s₁.setTop (mkF m 35 #[.val (.ref a), .val (.ref b), .unset] [.int 0])) := c2.trans (by
      refine XS.icmpYes X0.here hexec rfl (pc0 := 4) rfl (hb hbytes d4) rfl (ii_ne_t (ne32 a31 b31 hs)) (by decide) rfl ?_
      refine iconstV X0.here hexec rfl 0 (hb hbytes d34) (by decide) ?_
      exact Steps.refl _)
    exact ⟨s₁, some (.int 0), _, _, _, X0, rfl, rfl, rfl, (fun h => by cases h), ⟨0, rfl, hh0, Or.inr ⟨rfl, fun q => hs q.1⟩⟩, fun fs hl => c3.trans (X0.ireturnOut hexec hret rfl (Or.inr (Or.inl rfl)) (hb hbytes d35) hl)⟩
end LEq
theorem Cod.ty {cd : Int32} {n : Nat} {f : Nat → Int32} {V : Cell} (h : Cod cd n f V) : Typed .byte V := fun i v hv => by
  have hi : i < V.slots.size := (Array.getElem?_eq_some_iff.mp hv).1
  rcases h with ⟨-, k1, k2⟩ | ⟨-, k1, k2, -⟩
  · rw [(k2 i (by omega)).1] at hv; cases hv; exact fits_lo8 _
  · rcases Nat.mod_two_eq_zero_or_one i with e | e
    · obtain ⟨j, rfl⟩ : ∃ j, i = 2 * j := ⟨i / 2, by omega⟩
      rw [(k2 j (by omega)).1] at hv; cases hv; exact fits_lo8 _
    · obtain ⟨j, rfl⟩ : ∃ j, i = 2 * j + 1 := ⟨i / 2, by omega⟩
      rw [(k2 j (by omega)).2] at hv; cases hv; exact fits_lo8 _
/-- the same text -/
def SameT (n : Nat) (f : Nat → Int32) (k : Nat) (g : Nat → Int32) : Prop := n = k ∧ ∀ j, j < n → f j = g j
theorem lo8_inj {x y : Int32} (h0 : ¬ x < 0) (h1 : ¬ 255 < x) (k0 : ¬ y < 0) (k1 : ¬ 255 < y) (h : lo8 x = lo8 y) : x = y := by
  rw [← lo8_mask h0 h1, ← lo8_mask k0 k1, h]
/-- arrays coded by one coder are equal just where the texts are -/
theorem Cod.eqv {cd : Int32} {n k : Nat} {f g : Nat → Int32} {V V' : Cell} (h : Cod cd n f V) (h' : Cod cd k g V') (hf : ∀ j, j < n → ¬ f j < 0 ∧ ¬ 65535 < f j) (hg : ∀ j, j < k → ¬ g j < 0 ∧ ¬ 65535 < g j) : EqC V V' ↔ SameT n f k g := by
  have yvv : ∀ {W : Cell} {i : Nat} {x : Int32}, W.slots[i]? = some (.int x) → yv W i = x := fun q => by unfold yv; rw [q]
  rcases h with ⟨rfl, k1, k2⟩ | ⟨rfl, k1, k2, -⟩
  · rcases h' with ⟨-, m1, m2⟩ | ⟨e, -⟩
    · constructor
      · rintro ⟨e1, e2⟩
        refine ⟨by omega, fun j hj => ?_⟩
        have q := e2 j (by omega)
        rw [yvv (k2 j hj).1, yvv (m2 j (by omega)).1] at q
        exact lo8_inj (hf j hj).1 (k2 j hj).2 (hg j (by omega)).1 (m2 j (by omega)).2 q
      · rintro ⟨rfl, e2⟩
        refine ⟨by omega, fun j hj => ?_⟩
        rw [yvv (k2 j (by omega)).1, yvv (m2 j (by omega)).1, e2 j (by omega)]
    · exact absurd e (by decide)
  · rcases h' with ⟨e, -⟩ | ⟨-, m1, m2, -⟩
    · exact absurd e (by decide)
    · constructor
      · rintro ⟨e1, e2⟩
        refine ⟨by omega, fun j hj => ?_⟩
        have q1 := e2 (2 * j) (by omega)
        have q2 := e2 (2 * j + 1) (by omega)
        rw [yvv (k2 j hj).1, yvv (m2 j (by omega)).1] at q1
        rw [yvv (k2 j hj).2, yvv (m2 j (by omega)).2] at q2
        rw [← pair_says (hf j hj).1 (hf j hj).2, ← pair_says (hg j (by omega)).1 (hg j (by omega)).2, q1, q2]
      · rintro ⟨rfl, e2⟩
        refine ⟨by omega, fun i hi => ?_⟩
        rcases Nat.mod_two_eq_zero_or_one i with e | e
        · obtain ⟨j, rfl⟩ : ∃ j, i = 2 * j := ⟨i / 2, by omega⟩
          rw [yvv (k2 j (by omega)).1, yvv (m2 j (by omega)).1, e2 j (by omega)]
        · obtain ⟨j, rfl⟩ : ∃ j, i = 2 * j + 1 := ⟨i / 2, by omega⟩
          rw [yvv (k2 j (by omega)).2, yvv (m2 j (by omega)).2, e2 j (by omega)]
/-- two codings differ: so do the texts -/
theorem Cod.dif {cd cd' : Int32} {n k : Nat} {f g : Nat → Int32} {V V' : Cell} (h : Cod cd n f V) (h' : Cod cd' k g V') (hne : ¬ cd = cd') : ¬ SameT n f k g := by
  rintro ⟨rfl, e⟩
  rcases h with ⟨rfl, -, k2⟩ | ⟨rfl, -, -, j, hj, hw⟩
  · rcases h' with ⟨rfl, -⟩ | ⟨-, -, -, j, hj, hw⟩
    · exact hne rfl
    · exact (k2 j hj).2 (by rw [e j hj]; exact hw)
  · rcases h' with ⟨-, -, m2⟩ | ⟨rfl, -⟩
    · exact (m2 j hj).2 (by rw [← e j hj]; exact hw)
    · exact hne rfl
/-- an object of exactly C is an instance of C -/
theorem cinst {p : Program} {l : Launch} {e : Env} {R : Room} {s : State} {m : MethodId} {args : Array Value} {below : List Frame} {meth : Method} {c : Code} {T : State} {locs : List Loc} {cells slots : Nat} (X : Stand p l e R s m args below meth c T locs cells slots) (hexec : p.tables.exec = Jvm.exec) {own C : String} {index : Nat} (hown : s.vm.findClass own = some m.cls) (hlink : (Cond.classLink own index C).before args s = true) {a : Addr} (hE : Exact C a T)
    {g : JFrame} (hg : g.method = m) {rest : List Value} (hstack : g.stack = .ref a :: rest) (hdg : decode c.code g.pc = .ok (.instanceof index, 3)) :
    ∃ T', Stand p l e R s m args below meth c T' locs cells slots ∧ T'.heap = T.heap ∧ ∀ target, Steps p.tables e below (T'.setTop { g with pc := g.pc + 3, stack := .int 1 :: rest }) target → Steps p.tables e below (T.setTop g) target := by
  obtain ⟨cB, h1, D, h2, h3, h4⟩ := hE
  have h1' : s.vm.findClass C = some cB := by rw [← X.warmed.alike.findClass]; exact h1
  obtain ⟨vm', X', st⟩ := X.instanceofYes hexec hown hlink h2 h4 h1' (by rw [h3]; exact Jvm.Free.SB.assignable_self _ _) hg hstack hdg
  exact ⟨_, X', rfl, st⟩
theorem cself {p : Program} {l : Launch} {e : Env} {R : Room} {s : State} {m : MethodId} {args : Array Value} {below : List Frame} {meth : Method} {c : Code} {T : State} {locs : List Loc} {cells slots : Nat} (X : Stand p l e R s m args below meth c T locs cells slots) (hexec : p.tables.exec = Jvm.exec) {own C : String} {index : Nat} (hown : s.vm.findClass own = some m.cls) (hlink : (Cond.classLink own index C).before args s = true) {a : Addr} (hE : Exact C a T)
    {g : JFrame} (hg : g.method = m) {rest : List Value} (hstack : g.stack = .ref a :: rest) (hdg : decode c.code g.pc = .ok (.checkcast index, 3)) :
    ∃ T', Stand p l e R s m args below meth c T' locs cells slots ∧ T'.heap = T.heap ∧ ∀ target, Steps p.tables e below (T'.setTop { g with pc := g.pc + 3, stack := .ref a :: rest }) target → Steps p.tables e below (T.setTop g) target := by
  obtain ⟨cB, h1, D, h2, h3, h4⟩ := hE
  have h1' : s.vm.findClass C = some cB := by rw [← X.warmed.alike.findClass]; exact h1
  obtain ⟨vm', X', st⟩ := X.checkcastYes hexec hown hlink h2 h4 h1' (by rw [h3]; exact Jvm.Free.SB.assignable_self _ _) hg hstack hdg
  exact ⟨_, X', rfl, fun t h => st t (by rw [← hstack] at h; exact h)⟩
namespace SEq
def yN : MethodName := ⟨"java/lang/String", "equals", "(Ljava/lang/Object;)Z"⟩
abbrev yB : ByteArray := jdk_42_method_66_code
theorem d0 : decode yB 0 = .ok (.aload_n 0, 1) := by decide +kernel
theorem d1 : decode yB 1 = .ok (.aload_n 1, 1) := by decide +kernel
theorem d2 : decode yB 2 = .ok (.if_acmp (.ne) 5, 3) := by decide +kernel
theorem d5 : decode yB 5 = .ok (.iconst 1, 1) := by decide +kernel
theorem d6 : decode yB 6 = .ok (.ireturn, 1) := by decide +kernel
theorem d7 : decode yB 7 = .ok (.aload_n 1, 1) := by decide +kernel
theorem d8 : decode yB 8 = .ok (.instanceof 10, 3) := by decide +kernel
theorem d11 : decode yB 11 = .ok (.ifCond (.eq) 43, 3) := by decide +kernel
theorem d14 : decode yB 14 = .ok (.aload_n 1, 1) := by decide +kernel
theorem d15 : decode yB 15 = .ok (.checkcast 10, 3) := by decide +kernel
theorem d18 : decode yB 18 = .ok (.astore_n 2, 1) := by decide +kernel
theorem d19 : decode yB 19 = .ok (.getstatic 38, 3) := by decide +kernel
theorem d22 : decode yB 22 = .ok (.ifCond (.eq) 14, 3) := by decide +kernel
theorem d25 : decode yB 25 = .ok (.aload_n 0, 1) := by decide +kernel
theorem d26 : decode yB 26 = .ok (.getfield 15, 3) := by decide +kernel
theorem d29 : decode yB 29 = .ok (.aload_n 2, 1) := by decide +kernel
theorem d30 : decode yB 30 = .ok (.getfield 15, 3) := by decide +kernel
theorem d33 : decode yB 33 = .ok (.if_icmp (.ne) 21, 3) := by decide +kernel
theorem d36 : decode yB 36 = .ok (.aload_n 0, 1) := by decide +kernel
theorem d37 : decode yB 37 = .ok (.getfield 9, 3) := by decide +kernel
theorem d40 : decode yB 40 = .ok (.aload_n 2, 1) := by decide +kernel
theorem d41 : decode yB 41 = .ok (.getfield 9, 3) := by decide +kernel
theorem d44 : decode yB 44 = .ok (.invokestatic 541, 3) := by decide +kernel
theorem d47 : decode yB 47 = .ok (.ifCond (.eq) 7, 3) := by decide +kernel
theorem d50 : decode yB 50 = .ok (.iconst 1, 1) := by decide +kernel
theorem d51 : decode yB 51 = .ok (.goto 4, 3) := by decide +kernel
theorem d54 : decode yB 54 = .ok (.iconst 0, 1) := by decide +kernel
theorem d55 : decode yB 55 = .ok (.ireturn, 1) := by decide +kernel
def site : List Cond := [.classLink "java/lang/String" 10 "java/lang/String", .fieldLink "java/lang/String" 38 "java/lang/String" "COMPACT_STRINGS" "Z", .fieldLink "java/lang/String" 15 "java/lang/String" "coder" "B", .fieldLink "java/lang/String" 9 "java/lang/String" "value" "[B", LEq.tab] ++ staticW "java/lang/String" 541 LEq.yN
def tab : Cond := tabOf yN yB 3 (some .boolean) site
def P (x t : Addr) (V : Cell) (cd : Int32) (n : Nat) (f : Nat → Int32) (y t' : Addr) (V' : Cell) (cd' : Int32) (k : Nat) (g : Nat → Int32) (z : Int32) (args : Array Value) (s : State) : Prop := args = #[.ref x, .ref y] ∧ Txt x t V cd n f s ∧ Txt y t' V' cd' k g s ∧ StaticIs s "java/lang/String" "COMPACT_STRINGS" "Z" (.int z) ∧ ¬ z = 0
/-- equals(Object) of two Strings: whether the texts are the same -/
theorem law (l : Launch) (x t : Addr) (V : Cell) (cd : Int32) (n : Nat) (f : Nat → Int32) (y t' : Addr) (V' : Cell) (cd' : Int32) (k : Nat) (g : Nat → Int32) (z : Int32) : Law l yN 2 1 1 14 yB 3 (some .boolean) site (P x t V cd n f y t' V' cd' k g z) (Says01 (SameT n f k g)) [] 0 0 := by
  refine Law.of_walk (plainFor_of_name (by decide +kernel)) (by decide +kernel) (by decide +kernel) (by decide) (fun _ _ h => by rw [h.1]; rfl) (fun _ U U' hal hh h => ⟨h.1, h.2.1.mv hal hh, h.2.2.1.mv hal hh, h.2.2.2.1.there hal hh, h.2.2.2.2⟩) (fun r U U' V V' h1 hal h2 h => Says01.mv r U U' V V' h1 hal h2 h) ?_
  intro p e s m args below meth c s₁ X0 hexec hbytes hml hret hlk hnm hown hh0 W hP
  obtain ⟨rfl, hx, hy, s1, hz⟩ := hP
  have c1 : Steps p.tables e below (s₁.setTop (entryFrame m #[.ref x, .ref y] 3)) (s₁.setTop (mkF m 2 #[.val (.ref x), .val (.ref y), .unset] [.ref y, .ref x])) := Steps.trans (entry rfl) (by
    show Steps p.tables e below (s₁.setTop (mkF m 0 #[.val (.ref x), .val (.ref y), .unset] [])) _
    refine XS.aloadN X0.here hexec rfl (hb hbytes d0) rfl rfl ?_
    refine XS.aloadN X0.here hexec rfl (hb hbytes d1) rfl rfl ?_
    exact Steps.refl _)
  by_cases hxy : x = y
  · have c2 : Steps p.tables e below (s₁.setTop (entryFrame m #[.ref x, .ref y] 3)) (s₁.setTop (mkF m 6 #[.val (.ref x), .val (.ref y), .unset] [.int 1])) := c1.trans (by
      refine acmpNo X0.here hexec rfl (hb hbytes d2) rfl rfl rfl (by simp [acmp, hxy]) ?_
      refine iconstV X0.here hexec rfl 1 (hb hbytes d5) (by decide) ?_
      exact Steps.refl _)
    subst hxy
    have ec : cd = cd' := by
      obtain ⟨D, fd, a1, a2, a3⟩ := hx.2.2.1
      obtain ⟨D', fd', b1, b2, b3⟩ := hy.2.2.1
      cases a1.symm.trans b1
      obtain ⟨q1, q2, q3, q4⟩ := a2.1
      obtain ⟨r1, r2, r3, r4⟩ := b2.1
      cases q4.symm.trans r4
      cases a3.symm.trans b3; rfl
    have et : t = t' := by
      obtain ⟨D, fd, a1, a2, a3⟩ := hx.2.1
      obtain ⟨D', fd', b1, b2, b3⟩ := hy.2.1
      cases a1.symm.trans b1
      obtain ⟨q1, q2, q3, q4⟩ := a2.1
      obtain ⟨r1, r2, r3, r4⟩ := b2.1
      cases q4.symm.trans r4
      cases a3.symm.trans b3; rfl
    subst ec et
    have ev : V = V' := by cases hx.2.2.2.1.1.symm.trans hy.2.2.2.1.1; rfl
    subst ev
    have hs : SameT n f k g := (Cod.eqv hx.2.2.2.2.1 hy.2.2.2.2.1 hx.2.2.2.2.2 hy.2.2.2.2.2).mp ⟨rfl, fun _ _ => rfl⟩
    exact ⟨s₁, some (.int 1), _, _, _, X0, rfl, rfl, rfl, (fun h => by cases h), ⟨1, rfl, hh0, Or.inl ⟨rfl, hs⟩⟩, fun fs hl => c2.trans (X0.ireturnOut hexec hret rfl (Or.inr (Or.inl rfl)) (hb hbytes d6) hl)⟩
  · have c2 : Steps p.tables e below (s₁.setTop (entryFrame m #[.ref x, .ref y] 3)) (s₁.setTop (mkF m 8 #[.val (.ref x), .val (.ref y), .unset] [.ref y])) := c1.trans (by
      refine acmpYes X0.here hexec rfl (pc0 := 2) rfl (hb hbytes d2) rfl rfl rfl (by simp [acmp, hxy]) (by decide) rfl ?_
      refine XS.aloadN X0.here hexec rfl (hb hbytes d7) rfl rfl ?_
      exact Steps.refl _)
    obtain ⟨T3, X3, q3, st3⟩ := cinst X0 hexec hown (wk W (.classLink "java/lang/String" 10 "java/lang/String")) (hy.mv X0.warmed.alike hh0).1 (g := (mkF m 8 #[.val (.ref x), .val (.ref y), .unset] [.ref y])) rfl (rest := []) rfl (hb hbytes d8)
    have hh3 := q3.trans hh0
    have c4 : Steps p.tables e below (s₁.setTop (entryFrame m #[.ref x, .ref y] 3)) (T3.setTop (mkF m 15 #[.val (.ref x), .val (.ref y), .unset] [.ref y])) := (c2.trans (st3 _ (Steps.refl _))).trans (by
      refine XS.ifNo X3.here hexec rfl (hb hbytes d11) rfl (i0_eq_f (by decide)) ?_
      refine XS.aloadN X3.here hexec rfl (hb hbytes d14) rfl rfl ?_
      exact Steps.refl _)
    obtain ⟨T5, X5, q5, st5⟩ := cself X3 hexec hown (wk W (.classLink "java/lang/String" 10 "java/lang/String")) (hy.mv X3.warmed.alike hh3).1 (g := (mkF m 15 #[.val (.ref x), .val (.ref y), .unset] [.ref y])) rfl (rest := []) rfl (hb hbytes d15)
    have hh5 := q5.trans hh3
    have c6 : Steps p.tables e below (s₁.setTop (entryFrame m #[.ref x, .ref y] 3)) (T5.setTop (mkF m 19 #[.val (.ref x), .val (.ref y), .val (.ref y)] [])) := (c4.trans (st5 _ (Steps.refl _))).trans (by
      refine XS.astoreN X5.here hexec rfl (hb hbytes d18) rfl rfl rfl ?_
      exact Steps.refl _)
    obtain ⟨T7, X7, q7, st7⟩ := X5.sget hexec hown (wk W (.fieldLink "java/lang/String" 38 "java/lang/String" "COMPACT_STRINGS" "Z")) s1 (fun _ _ h => by rw [hh5]; exact h) (g := (mkF m 19 #[.val (.ref x), .val (.ref y), .val (.ref y)] [])) rfl (hb hbytes d19)
    have hh7 := q7.trans hh5
    have c8 : Steps p.tables e below (s₁.setTop (entryFrame m #[.ref x, .ref y] 3)) (T7.setTop (mkF m 26 #[.val (.ref x), .val (.ref y), .val (.ref y)] [.ref x])) := (c6.trans (st7 _ (Steps.refl _))).trans (by
      refine XS.ifNo X7.here hexec rfl (hb hbytes d22) rfl (i0_eq_f hz) ?_
      refine XS.aloadN X7.here hexec rfl (hb hbytes d25) rfl rfl ?_
      exact Steps.refl _)
    obtain ⟨T9, X9, q9, st9⟩ := X7.hget hexec hown (wk W (.fieldLink "java/lang/String" 15 "java/lang/String" "coder" "B")) (hx.mv X7.warmed.alike hh7).2.2.1 (g := (mkF m 26 #[.val (.ref x), .val (.ref y), .val (.ref y)] [.ref x])) rfl (rest := []) rfl (hb hbytes d26)
    have hh9 := q9.trans hh7
    have c10 : Steps p.tables e below (s₁.setTop (entryFrame m #[.ref x, .ref y] 3)) (T9.setTop (mkF m 30 #[.val (.ref x), .val (.ref y), .val (.ref y)] [.ref y, .int cd])) := (c8.trans (st9 _ (Steps.refl _))).trans (by
      refine XS.aloadN X9.here hexec rfl (hb hbytes d29) rfl rfl ?_
      exact Steps.refl _)
    obtain ⟨T11, X11, q11, st11⟩ := X9.hget hexec hown (wk W (.fieldLink "java/lang/String" 15 "java/lang/String" "coder" "B")) (hy.mv X9.warmed.alike hh9).2.2.1 (g := (mkF m 30 #[.val (.ref x), .val (.ref y), .val (.ref y)] [.ref y, .int cd])) rfl (rest := [.int cd]) rfl (hb hbytes d30)
    have hh11 := q11.trans hh9
    have c12 : Steps p.tables e below (s₁.setTop (entryFrame m #[.ref x, .ref y] 3)) (T11.setTop (mkF m 33 #[.val (.ref x), .val (.ref y), .val (.ref y)] [.int cd', .int cd])) := c10.trans (st11 _ (Steps.refl _))
    by_cases hcd : cd = cd'
    · subst hcd
      have c13 : Steps p.tables e below (s₁.setTop (entryFrame m #[.ref x, .ref y] 3)) (T11.setTop (mkF m 37 #[.val (.ref x), .val (.ref y), .val (.ref y)] [.ref x])) := c12.trans (by
        refine XS.icmpNo X11.here hexec rfl (hb hbytes d33) rfl (ii_ne_f rfl) ?_
        refine XS.aloadN X11.here hexec rfl (hb hbytes d36) rfl rfl ?_
        exact Steps.refl _)
      obtain ⟨T14, X14, q14, st14⟩ := X11.hget hexec hown (wk W (.fieldLink "java/lang/String" 9 "java/lang/String" "value" "[B")) (hx.mv X11.warmed.alike hh11).2.1 (g := (mkF m 37 #[.val (.ref x), .val (.ref y), .val (.ref y)] [.ref x])) rfl (rest := []) rfl (hb hbytes d37)
      have hh14 := q14.trans hh11
      have c15 : Steps p.tables e below (s₁.setTop (entryFrame m #[.ref x, .ref y] 3)) (T14.setTop (mkF m 41 #[.val (.ref x), .val (.ref y), .val (.ref y)] [.ref y, .ref t])) := (c13.trans (st14 _ (Steps.refl _))).trans (by
        refine XS.aloadN X14.here hexec rfl (hb hbytes d40) rfl rfl ?_
        exact Steps.refl _)
      obtain ⟨T16, X16, q16, st16⟩ := X14.hget hexec hown (wk W (.fieldLink "java/lang/String" 9 "java/lang/String" "value" "[B")) (hy.mv X14.warmed.alike hh14).2.1 (g := (mkF m 41 #[.val (.ref x), .val (.ref y), .val (.ref y)] [.ref y, .ref t])) rfl (rest := [.ref t]) rfl (hb hbytes d41)
      have hh16 := q16.trans hh14
      have c17 : Steps p.tables e below (s₁.setTop (entryFrame m #[.ref x, .ref y] 3)) (T16.setTop (mkF m 44 #[.val (.ref x), .val (.ref y), .val (.ref y)] [.ref t', .ref t])) := c15.trans (st16 _ (Steps.refl _))
      obtain ⟨v18, T18, X18, E18, g18⟩ := X16.callS hexec (LEq.law l t V t' V') hown (wks W (staticW "java/lang/String" 541 LEq.yN)) (wk W LEq.tab) (W := 0) (Nat.le_of_ble_eq_true rfl) (Nat.le_of_ble_eq_true rfl) (Nat.le_refl _) (Nat.le_refl _) (g := (mkF m 44 #[.val (.ref x), .val (.ref y), .val (.ref y)] [.ref t', .ref t])) rfl (by rw [hml]; rfl) c17 (argsL := [.ref t, .ref t']) (rest := []) rfl rfl (by show 2 * 0 + 0 ≤ _; decide) (hb hbytes d44) (⟨rfl, hx.2.2.2.1.mv X16.warmed.alike hh16, hx.2.2.2.2.1.ty, hy.2.2.2.1.mv X16.warmed.alike hh16, hy.2.2.2.2.1.ty⟩)
      obtain ⟨v, rfl, q18, hv⟩ := E18
      have iff := Cod.eqv hx.2.2.2.2.1 hy.2.2.2.2.1 hx.2.2.2.2.2 hy.2.2.2.2.2
      rcases hv with ⟨rfl, he⟩ | ⟨rfl, he⟩
      · have c19 : Steps p.tables e below (s₁.setTop (entryFrame m #[.ref x, .ref y] 3)) (T18.setTop (mkF m 55 #[.val (.ref x), .val (.ref y), .val (.ref y)] [.int 1])) := Steps.trans g18 (by
          refine XS.ifNo X18.here hexec rfl (hb hbytes d47) rfl (i0_eq_f (by decide)) ?_
          refine iconstV X18.here hexec rfl 1 (hb hbytes d50) (by decide) ?_
          refine XS.goto X18.here hexec rfl (pc0 := 51) rfl (hb hbytes d51) (by decide) rfl ?_
          exact Steps.refl _)
        exact ⟨T18, some (.int 1), _, _, _, X18, rfl, rfl, rfl, (fun h => by cases h), ⟨1, rfl, q18.trans hh16, Or.inl ⟨rfl, iff.mp he⟩⟩, fun fs hl => c19.trans (X18.ireturnOut hexec hret rfl (Or.inr (Or.inl rfl)) (hb hbytes d55) hl)⟩
      · have c19 : Steps p.tables e below (s₁.setTop (entryFrame m #[.ref x, .ref y] 3)) (T18.setTop (mkF m 55 #[.val (.ref x), .val (.ref y), .val (.ref y)] [.int 0])) := Steps.trans g18 (by
          refine XS.ifYes X18.here hexec rfl (pc0 := 47) rfl (hb hbytes d47) rfl (i0_eq_t rfl) (by decide) rfl ?_
          refine iconstV X18.here hexec rfl 0 (hb hbytes d54) (by decide) ?_
          exact Steps.refl _)
        exact ⟨T18, some (.int 0), _, _, _, X18, rfl, rfl, rfl, (fun h => by cases h), ⟨0, rfl, q18.trans hh16, Or.inr ⟨rfl, fun q => he (iff.mpr q)⟩⟩, fun fs hl => c19.trans (X18.ireturnOut hexec hret rfl (Or.inr (Or.inl rfl)) (hb hbytes d55) hl)⟩
    · have c13 : Steps p.tables e below (s₁.setTop (entryFrame m #[.ref x, .ref y] 3)) (T11.setTop (mkF m 55 #[.val (.ref x), .val (.ref y), .val (.ref y)] [.int 0])) := c12.trans (by
        refine XS.icmpYes X11.here hexec rfl (pc0 := 33) rfl (hb hbytes d33) rfl (ii_ne_t hcd) (by decide) rfl ?_
        refine iconstV X11.here hexec rfl 0 (hb hbytes d54) (by decide) ?_
        exact Steps.refl _)
      exact ⟨T11, some (.int 0), _, _, _, X11, rfl, rfl, rfl, (fun h => by cases h), ⟨0, rfl, hh11, Or.inr ⟨rfl, Cod.dif hx.2.2.2.2.1 hy.2.2.2.2.1 hcd⟩⟩, fun fs hl => c13.trans (X11.ireturnOut hexec hret rfl (Or.inr (Or.inl rfl)) (hb hbytes d55) hl)⟩
theorem pays {l : Launch} {R : Room} {p : Program} {e : Env} {below : List Frame} {s : State} {sargs : Array Value} {len W : Nat} (x t : Addr) (V : Cell) (cd : Int32) (n : Nat) (f : Nat → Int32) (y t' : Addr) (V' : Cell) (cd' : Int32) (k : Nat) (g : Nat → Int32) (z : Int32) (htab : tab.before sargs s = true) (hfr : 2 ≤ R.frames) (hlo : W + 28 ≤ R.locals) :
    Back l R p e below s sargs yN len W (fun A₁ a₁ => A₁.cells + 0 ≤ R.cells ∧ A₁.slots + 0 ≤ R.slots ∧ P x t V cd n f y t' V' cd' k g z a₁ A₁.U) (fun A₁ _ v₁ B₁ => Says01 (SameT n f k g) v₁ A₁.U B₁.U ∧ B₁.locs = A₁.locs ++ [] ∧ B₁.cells = A₁.cells + 0 ∧ B₁.slots = A₁.slots + 0) :=
  (law l x t V cd n f y t' V' cd' k g z).pays htab hfr (by omega)
end SEq
end StrChars
namespace StrChars.Road
open Jvm Sem ClassFile Op Lib Jvm.Stand Jvm.Free Jvm.Free.XT
open Jvm.Lib.Cold (StaticIs)
/-- the words of String.equals(Object) -/
abbrev wordsEq : List Jvm.Cond := [.code SEq.yN SEq.yB 3 (some .boolean), .initialized ST, .classLink ST 10 ST, .fieldLink ST 38 ST "COMPACT_STRINGS" "Z", .fieldLink ST 15 ST "coder" "B", .fieldLink ST 9 ST "value" "[B", .methodLink ST 541 LEq.yN, .static LEq.yN, .code LEq.yN LEq.yB 3 (some .boolean), .initialized "java/lang/StringLatin1"]
theorem tabEq_of {a : Array Value} {s : State} (h : ∀ w ∈ wordsEq, w.before a s = true) : SEq.tab.before a s = true := by
  have hl : LEq.tab.before a s = true := unparts (wk h (.code LEq.yN LEq.yB 3 (some .boolean))) (wks h (.initialized LEq.yN.cls :: LEq.site))
  have q := consq hl h
  exact unparts (wk q (.code SEq.yN SEq.yB 3 (some .boolean))) (wks q (.initialized SEq.yN.cls :: SEq.site))
theorem movedEq {Z s : State} {a0 args : Array Value} (hZ : Z.Warmed39 s.vm) (hw : ∀ d ∈ wordsEq, d.before a0 Z = true) : ∀ d ∈ wordsEq, d.before args s = true := fun d hd => by
  have t : ∀ d ∈ wordsEq, (d.onTables && d.keepsFace) = true := by decide +kernel
  exact RoadKit.mv hZ (hw d hd) (t d hd)
/-- the road's facts of a String, as the laws ask it -/
theorem txt_of {Z U : State} {a0 : Array Value} {kI : Nat} (wi : (Jvm.Cond.instantiable ST kI).before a0 Z = true) (al : Z.vm.Alike U.vm) {x t : Addr} {kb : ClassId} {cs : List Int32} {cd N2 : Int32} {vs : List Value} (E : RoadKit.Exa Z U.heap x ST) (V : RoadKit.Fld Z U.heap x ST "value" "[B" (.ref t)) (C : RoadKit.Fld Z U.heap x ST "coder" "B" (.int cd)) (K : RoadKit.Arv Z U.heap t kb .byte N2 vs (.int 0)) (hc : CodA cs cd N2 vs) (hb : ∀ c ∈ cs, ¬ c < 0 ∧ ¬ (65535 : Int32) < c) (l2 : cs.length ≤ 4000) :
    ∃ A, Txt x t A cd cs.length (fun j => cs.getD j 0) U := by
  obtain ⟨A, K1, K2, K3, K4, K5, K6⟩ := K
  have hcod := hc.cod (by omega) K3 K5
  obtain ⟨D, fV, fC, hB, F1, F2, g1, g2, -, -⟩ := strObj wi al E V C
  exact ⟨A, ⟨_, hB.2.2.1, D, hB.1, rfl, by cases q : D.vm <;> first | rfl | exact absurd q (hB.2.1.2 _)⟩, Has.of hB F1 g1, Has.of hB F2 g2, ⟨K1.1, State.isArrayOf_alike al K1.2.1, K1.2.2, by rcases hcod with ⟨-, q, -⟩ | ⟨-, q, -⟩ <;> omega⟩, hcod, fun j hj => by
    have e : cs.getD j 0 = cs[j] := by simp [List.getD_eq_getElem?_getD, hj]
    show ¬ cs.getD j 0 < 0 ∧ ¬ 65535 < cs.getD j 0
    rw [e]; exact hb _ (List.getElem_mem _)⟩
theorem same_list (cs ds : List Int32) : SameT cs.length (fun j => cs.getD j 0) ds.length (fun j => ds.getD j 0) ↔ cs = ds := by
  constructor
  · rintro ⟨e, q⟩
    refine List.ext_getElem e fun j h1 h2 => ?_
    have := q j h1
    simpa [List.getD_eq_getElem?_getD, h1, h2] using this
  · rintro rfl
    exact ⟨rfl, fun _ _ => rfl⟩
/-- **equals(Object) OF TWO SUCH STRINGS**: 1 just where the chars are the same -/
theorem eqW {p : Program} {l : Launch} {e : Env} {R : Room} {s : State} {args : Array Value} {below : List Frame} {len W : Nat} {Z : State} {a0 : Array Value} {h : Heap} (hZ : Z.Warmed39 s.vm) (hw : ∀ d ∈ wordsEq, d.before a0 Z = true) {kI : Nat} (wi : (Jvm.Cond.instantiable ST kI).before a0 Z = true)
    {x t : Addr} {kb : ClassId} {cs : List Int32} {cd N2 : Int32} {vs : List Value} (E : RoadKit.Exa Z h x ST) (V : RoadKit.Fld Z h x ST "value" "[B" (.ref t)) (C : RoadKit.Fld Z h x ST "coder" "B" (.int cd)) (K : RoadKit.Arv Z h t kb .byte N2 vs (.int 0)) (hc : CodA cs cd N2 vs) (hb : ∀ c ∈ cs, ¬ c < 0 ∧ ¬ (65535 : Int32) < c) (l2 : cs.length ≤ 4000)
    {y t' : Addr} {kb' : ClassId} {ds : List Int32} {cd' N2' : Int32} {vs' : List Value} (E' : RoadKit.Exa Z h y ST) (V' : RoadKit.Fld Z h y ST "value" "[B" (.ref t')) (C' : RoadKit.Fld Z h y ST "coder" "B" (.int cd')) (K' : RoadKit.Arv Z h t' kb' .byte N2' vs' (.int 0)) (hc' : CodA ds cd' N2' vs') (hb' : ∀ c ∈ ds, ¬ c < 0 ∧ ¬ (65535 : Int32) < c) (l2' : ds.length ≤ 4000)
    {z : Int32} (S : RoadKit.Sta Z h ST "COMPACT_STRINGS" "Z" (.int z)) (hz : ¬ z = 0) (hfr : 2 ≤ R.frames) (hlo : W + 28 ≤ R.locals) :
    Back l R p e below s args (⟨"java/lang/String", "equals", "(Ljava/lang/Object;)Z"⟩ : MethodName) len W (fun P a => a = #[.ref x, .ref y] ∧ P.U.heap = h ∧ P.cells + 0 ≤ R.cells ∧ P.slots + 0 ≤ R.slots)
      (fun P _ v B => ∃ L, (((v = some (.int 1) ∧ cs = ds) ∨ (v = some (.int 0) ∧ ¬ cs = ds)) ∧ L = [] ∧ B.U.heap = h) ∧ B.locs = P.locs ++ L ∧ B.cells = P.cells + 0 ∧ B.slots = P.slots + 0) := by
  intro m meth c P g ig mk a X hg hsize hdg hW hn hp'
  obtain ⟨rfl, rfl, r1, r2⟩ := hp'
  have al : Z.vm.Alike P.U.vm := hZ.alike.trans X.warmed.alike
  obtain ⟨A, hx⟩ := txt_of wi al E V C K hc hb l2
  obtain ⟨A', hy⟩ := txt_of wi al E' V' C' K' hc' hb' l2'
  obtain ⟨v, B, X', ⟨⟨w, hv, hh, hq⟩, hl, hk, hs⟩, st⟩ := SEq.pays x t A cd cs.length (fun j => cs.getD j 0) y t' A' cd' ds.length (fun j => ds.getD j 0) z (tabEq_of (movedEq hZ hw)) hfr hlo m meth c P g ig mk _ X hg hsize hdg hW hn ⟨r1, r2, rfl, hx, hy, sta_is al S, hz⟩
  refine ⟨v, B, X', ⟨[], ⟨?_, rfl, hh⟩, hl, hk, hs⟩, st⟩
  rcases hq with ⟨rfl, q⟩ | ⟨rfl, q⟩
  · exact Or.inl ⟨hv, (same_list cs ds).mp q⟩
  · exact Or.inr ⟨hv, fun e => q ((same_list cs ds).mpr e)⟩
end StrChars.Road
namespace StrChars.Road
open Jvm Sem ClassFile Op Lib Jvm.Stand Jvm.Free Jvm.Free.XT
open Jvm.Lib.Cold (StaticIs)
/-- what backV says of its String, as the contracts of this text ask it: cs's low bytes, coder 0 -/
theorem codOf {cs : List Int32} {n : Nat} (hn : cs.length = n) (hb : ∀ c ∈ cs, ¬ 255 < c) : CodA cs 0 (Int32.ofNat n) ((cs.map lo8).map Value.int) := Or.inl ⟨rfl, by rw [hn], by simp [List.map_map, Function.comp_def], hb⟩
end StrChars.Road
end Jvm.Pilot.@@N@@
namespace Jvm.Pilot.@@N@@
open Jvm Jvm.ClassFile Sem Op Lib Jvm.Free Jvm.Stand Jvm.LawKit Jvm.RoadKit Bundle Jvm.Pilot.@@N@@.Jvm.D
/-- from the state A the run comes to an end with P -/
def Gl (tb : Tables) (e : Env) (below : List Frame) (P : Outcome → State → Prop) (A : State) : Prop := ∃ U o, Steps tb e below A U ∧ U.status = .running ∧ Ended U below o ∧ P o U
theorem Gl.go {tb : Tables} {e : Env} {below : List Frame} {P : Outcome → State → Prop} {A B : State} (h : ∀ t, Steps tb e below B t → Steps tb e below A t) (k : Gl tb e below P B) : Gl tb e below P A := by
  obtain ⟨U, o, h1, r⟩ := k
  exact ⟨U, o, h U h1, r⟩
theorem Gl.st {tb : Tables} {e : Env} {below : List Frame} {P : Outcome → State → Prop} {A B : State} (h : Steps tb e below A B) (k : Gl tb e below P B) : Gl tb e below P A := by
  obtain ⟨U, o, h1, r⟩ := k
  exact ⟨U, o, h.trans h1, r⟩
/-- from the state A the run comes to the frame F over a state of which P holds -/
def Sg (P : State → Prop) (F : JFrame) (tb : Tables) (e : Env) (below : List Frame) (A : State) : Prop := ∃ T, P T ∧ ∀ t, Steps tb e below (T.setTop F) t → Steps tb e below A t
theorem Sg.go {P : State → Prop} {F : JFrame} {tb : Tables} {e : Env} {below : List Frame} {A B : State} (h : ∀ t, Steps tb e below B t → Steps tb e below A t) (k : Sg P F tb e below B) : Sg P F tb e below A := by
  obtain ⟨T, h1, h2⟩ := k
  exact ⟨T, h1, fun t ht => h t (h2 t ht)⟩
theorem Sg.st {P : State → Prop} {F : JFrame} {tb : Tables} {e : Env} {below : List Frame} {A B : State} (h : Steps tb e below A B) (k : Sg P F tb e below B) : Sg P F tb e below A := by
  obtain ⟨T, h1, h2⟩ := k
  exact ⟨T, h1, fun t ht => h.trans (h2 t ht)⟩
/-- what is shown of a state holds also where the run comes from -/
def Cl (tb : Tables) (e : Env) (below : List Frame) (K : State → Prop) : Prop := ∀ A B, (∀ t, Steps tb e below B t → Steps tb e below A t) → K B → K A
theorem Gl.cl {tb : Tables} {e : Env} {below : List Frame} {P : Outcome → State → Prop} : Cl tb e below (Gl tb e below P) := fun _ _ h k => Gl.go h k
theorem Sg.cl {P : State → Prop} {F : JFrame} {tb : Tables} {e : Env} {below : List Frame} : Cl tb e below (Sg P F tb e below) := fun _ _ h k => Sg.go h k
section Glue
variable {p : Program} {l : Launch} {e : Env} {R : Room} {s : State} {m : MethodId} {args : Array Value} {below : List Frame} {meth : Method} {c : Code} {T : State} {locs : List Loc} {cells slots : Nat} {Z : State} {a0 : Array Value} {h : Heap} {K0 : State → Prop} {pc : Nat} {Ls : Array Slot} {Ks : List Value} {rest : List Value}
theorem gGetF {own R0 O n d host : String} {index : Nat} {a : Addr} {v : Value} (hG : Cl p.tables e below K0) (X : Stand p l e R s m args below meth c T locs cells slots) (hx : p.tables.exec = Jvm.exec) (hZ : Z.Warmed39 s.vm) (hown : s.vm.findClass own = some m.cls) (w : (Cond.fieldLink own index R0 n d).before a0 Z = true ∨ (Cond.fieldLinkNest own index R0 n d host).before a0 Z = true) (via : Via Z R0 O n d) (eT : T.heap = h) (F : Fld Z h a O n d v) (hg : m = m) (hs : Ks = .ref a :: rest) (hd : decode c.code pc = .ok (.getfield index, 3))
    (k : ∀ T', Stand p l e R s m args below meth c T' locs cells slots → T'.heap = h → K0 (T'.setTop (mkF m (pc + 3) (Ls) (v :: rest)))) : K0 (T.setTop (mkF m pc Ls Ks)) := by
  obtain ⟨T', X', e', st⟩ := getF (g := mkF m pc Ls Ks) X hx hZ hown w via eT F hg hs hd
  exact hG _ _ st (k T' X' e')
theorem gGetS {own R0 O n d host : String} {index : Nat} {v : Value} (hG : Cl p.tables e below K0) (X : Stand p l e R s m args below meth c T locs cells slots) (hx : p.tables.exec = Jvm.exec) (hZ : Z.Warmed39 s.vm) (hown : s.vm.findClass own = some m.cls) (w : (Cond.fieldLink own index R0 n d).before a0 Z = true ∨ (Cond.fieldLinkNest own index R0 n d host).before a0 Z = true) (via : Via Z R0 O n d) (eT : T.heap = h) (F : Sta Z h O n d v) (hg : m = m) (hd : decode c.code pc = .ok (.getstatic index, 3))
    (k : ∀ T', Stand p l e R s m args below meth c T' locs cells slots → T'.heap = h → K0 (T'.setTop (mkF m (pc + 3) (Ls) (v :: Ks)))) : K0 (T.setTop (mkF m pc Ls Ks)) := by
  obtain ⟨T', X', e', st⟩ := getS2 (g := mkF m pc Ls Ks) X hx hZ hown w via eT F hg hd
  exact hG _ _ st (k T' X' e')
theorem gPutF {own R0 O n d host C : String} {index kk : Nat} {ty : FieldType} {a : Addr} {v old : Value} (hG : Cl p.tables e below K0) (X : Stand p l e R s m args below meth c T locs cells slots) (hx : p.tables.exec = Jvm.exec) (hZ : Z.Warmed39 s.vm) (hown : s.vm.findClass own = some m.cls) (w : (Cond.fieldLink own index R0 n d).before a0 Z = true ∨ (Cond.fieldLinkNest own index R0 n d host).before a0 Z = true) (via : Via Z R0 O n d) (eT : T.heap = h) (F : Fld Z h a O n d old) (E : Exa Z h a C) (L : (Cond.lays C O n d).before a0 Z = true ∨ ((Cond.laysFinal C O n d).before a0 Z = true ∧ own = O ∧ meth.name = "<init>")) (wi : (Cond.instantiable C kk).before a0 Z = true) (hty : parseFieldDescriptor d = some ty) (hn : narrow ty v = v) (hf : fits ty v = true) (hg : m = m) (hs : Ks = v :: .ref a :: rest) (hd : decode c.code pc = .ok (.putfield index, 3))
    (k : ∀ T' h', Stand p l e R s m args below meth c T' (locs ++ [⟨a, Jvm.RoadKit.slotOf Z O n d⟩]) cells slots → T'.heap = h' → Wr h h' a (Jvm.RoadKit.slotOf Z O n d) v → K0 (T'.setTop (mkF m (pc + 3) (Ls) (rest)))) : K0 (T.setTop (mkF m pc Ls Ks)) := by
  obtain ⟨T', h', X', e', W, st⟩ := putF (g := mkF m pc Ls Ks) X hx hZ hown w via eT F E L wi hty hn hf hg hs hd
  exact hG _ _ st (k T' h' X' e' W)
theorem gPutFN {own R0 O n d C : String} {index kk : Nat} {ty : FieldType} {a : Addr} {v v' old : Value} (hG : Cl p.tables e below K0) (X : Stand p l e R s m args below meth c T locs cells slots) (hx : p.tables.exec = Jvm.exec) (hZ : Z.Warmed39 s.vm) (hown : s.vm.findClass own = some m.cls) (w : (Cond.fieldLink own index R0 n d).before a0 Z = true) (via : Via Z R0 O n d) (eT : T.heap = h) (F : Fld Z h a O n d old) (E : Exa Z h a C) (L : (Cond.lays C O n d).before a0 Z = true ∨ ((Cond.laysFinal C O n d).before a0 Z = true ∧ own = O ∧ meth.name = "<init>")) (wi : (Cond.instantiable C kk).before a0 Z = true) (hty : parseFieldDescriptor d = some ty) (hn : narrow ty v = v') (hf : fits ty v' = true) (hg : m = m) (hs : Ks = v :: .ref a :: rest) (hd : decode c.code pc = .ok (.putfield index, 3))
    (k : ∀ T' h', Stand p l e R s m args below meth c T' (locs ++ [⟨a, Jvm.RoadKit.slotOf Z O n d⟩]) cells slots → T'.heap = h' → Wr h h' a (Jvm.RoadKit.slotOf Z O n d) v' → K0 (T'.setTop (mkF m (pc + 3) (Ls) (rest)))) : K0 (T.setTop (mkF m pc Ls Ks)) := by
  obtain ⟨T', h', X', e', W, st⟩ := putFN (g := mkF m pc Ls Ks) X hx hZ hown w via eT F E L wi hty hn hf hg hs hd
  exact hG _ _ st (k T' h' X' e' W)
theorem gCast {own K : String} {index : Nat} {a : Addr} (hG : Cl p.tables e below K0) (X : Stand p l e R s m args below meth c T locs cells slots) (hx : p.tables.exec = Jvm.exec) (hZ : Z.Warmed39 s.vm) (hown : s.vm.findClass own = some m.cls) (w : (Cond.classLink own index K).before a0 Z = true) (eT : T.heap = h) (F : Ins Z h a K true) (hg : m = m) (hs : Ks = .ref a :: rest) (hd : decode c.code pc = .ok (.checkcast index, 3))
    (k : ∀ T', Stand p l e R s m args below meth c T' locs cells slots → T'.heap = h → K0 (T'.setTop (mkF m (pc + 3) (Ls) (Ks)))) : K0 (T.setTop (mkF m pc Ls Ks)) := by
  obtain ⟨T', X', e', st⟩ := castY (g := mkF m pc Ls Ks) X hx hZ hown w eT F hg hs hd
  exact hG _ _ st (k T' X' e')
theorem gInst {own K : String} {index : Nat} {a : Addr} (hG : Cl p.tables e below K0) (X : Stand p l e R s m args below meth c T locs cells slots) (hx : p.tables.exec = Jvm.exec) (hZ : Z.Warmed39 s.vm) (hown : s.vm.findClass own = some m.cls) (w : (Cond.classLink own index K).before a0 Z = true) (eT : T.heap = h) (F : Ins Z h a K true) (hg : m = m) (hs : Ks = .ref a :: rest) (hd : decode c.code pc = .ok (.instanceof index, 3))
    (k : ∀ T', Stand p l e R s m args below meth c T' locs cells slots → T'.heap = h → K0 (T'.setTop (mkF m (pc + 3) (Ls) (.int 1 :: rest)))) : K0 (T.setTop (mkF m pc Ls Ks)) := by
  obtain ⟨T', X', e', st⟩ := instY (g := mkF m pc Ls Ks) X hx hZ hown w eT F hg hs hd
  exact hG _ _ st (k T' X' e')
theorem gInit {own : String} {idx : Nat} {a : Addr} {W : Nat} (hG : Cl p.tables e below K0) (X : Stand p l e R s m args below meth c T locs cells slots) (hx : p.tables.exec = Jvm.exec) (hZ : Z.Warmed39 s.vm) (hown : s.vm.findClass own = some m.cls) (w1 : (Cond.methodLink own idx Lib.objectInit).before a0 Z = true) (w2 : (Cond.instanceMethod Lib.objectInit).before a0 Z = true) (w3 : (Cond.code Lib.objectInit ⟨#[0xb1]⟩ 1 none).before a0 Z = true) (eT : T.heap = h) (hg : m = m) (hsize : Ls.size = c.maxLocals) (hs : Ks = .ref a :: rest) (hd : decode c.code pc = .ok (.invokespecial idx, 3)) (hf : 1 ≤ R.frames) (hW : 2 * 0 + (rest.map fun v => v.category).sum ≤ W) (hl : W + 12 ≤ R.locals)
    (k : ∀ T', Stand p l e R s m args below meth c T' locs cells slots → T'.heap = h → K0 (T'.setTop (mkF m (pc + 3) (Ls) (rest)))) : K0 (T.setTop (mkF m pc Ls Ks)) := by
  obtain ⟨T', X', e', st⟩ := initO (g := mkF m pc Ls Ks) X hx hZ hown w1 w2 w3 eT hg hsize hs hd hf hW hl
  exact hG _ _ st (k T' X' e')
theorem gNew {own C : String} {index n : Nat} (hG : Cl p.tables e below K0) (X : Stand p l e R s m args below meth c T locs cells slots) (hx : p.tables.exec = Jvm.exec) (hZ : Z.Warmed39 s.vm) (hown : s.vm.findClass own = some m.cls) (w : (Cond.classLink own index C).before a0 Z = true) (wi : (Cond.instantiable C n).before a0 Z = true) (wz : (Cond.initialized C).before a0 Z = true) (eT : T.heap = h) (hg : m = m) (hd : decode c.code pc = .ok (.new index, 3)) (hc : cells + 1 ≤ R.cells) (hl : slots + n ≤ R.slots)
    (k : ∀ T' h' b, b = h.size → Stand p l e R s m args below meth c T' locs (cells + 1) (slots + n) → T'.heap = h' → Ext h h' → Exa Z h' b C → (∀ {O nm d : String} {ty : FieldType}, Laid Z a0 C O nm d → parseFieldDescriptor d = some ty → Fld Z h' b O nm d (defaultValue ty)) → K0 (T'.setTop (mkF m (pc + 3) (Ls) (.ref b :: Ks)))) : K0 (T.setTop (mkF m pc Ls Ks)) := by
  obtain ⟨T', h', X', e', E, A, D, -, st⟩ := newO (g := mkF m pc Ls Ks) X hx hZ hown w wi wz eT hg hd hc hl
  exact hG _ _ st (k T' h' _ rfl X' e' E A D)
theorem gNewP {aty : ArrayType} {n : Int32} {cap : Nat} (hG : Cl p.tables e below K0) (X : Stand p l e R s m args below meth c T locs cells slots) (hx : p.tables.exec = Jvm.exec) (hZ : Z.Warmed39 s.vm) (w : (Cond.arrayClass (newarray.typeOf aty)).before a0 Z = true) (eT : T.heap = h) (hg : m = m) (hd : decode c.code pc = .ok (.newarray aty, 2)) (hs : Ks = .int n :: rest) (hn : ¬ n < 0) (hcap : n.toNatClampNeg ≤ cap) (hb : cap * 8 ≤ 536870912) (hc : cells + 1 ≤ R.cells) (hl : slots + cap ≤ R.slots)
    (k : ∀ T' h' b cA, b = h.size → Stand p l e R s m args below meth c T' locs (cells + 1) (slots + cap) → T'.heap = h' → Ext h h' → Arr Z h' b (newA cA (newarray.typeOf aty) n) (newarray.typeOf aty) → K0 (T'.setTop (mkF m (pc + 2) (Ls) (.ref b :: rest)))) : K0 (T.setTop (mkF m pc Ls Ks)) := by
  obtain ⟨T', h', cA, X', e', E, A, st⟩ := newP (g := mkF m pc Ls Ks) X hx hZ w eT hg hd hs hn hcap hb hc hl
  exact hG _ _ st (k T' h' _ cA rfl X' e' E A)
theorem gNewPE {aty : ArrayType} {n : Int32} {cap : Nat} {ad : String} (hG : Cl p.tables e below K0) (X : Stand p l e R s m args below meth c T locs cells slots) (hx : p.tables.exec = Jvm.exec) (hZ : Z.Warmed39 s.vm) (w : (Cond.arrayClass (newarray.typeOf aty)).before a0 Z = true) (eT : T.heap = h) (hg : m = m) (hd : decode c.code pc = .ok (.newarray aty, 2)) (hs : Ks = .int n :: rest) (hn : ¬ n < 0) (hcap : n.toNatClampNeg ≤ cap) (hb : cap * 8 ≤ 536870912) (hc : cells + 1 ≤ R.cells) (hl : slots + cap ≤ R.slots) (had : "[" ++ (newarray.typeOf aty).toString = ad)
    (k : ∀ T' h' b cA, b = h.size → Stand p l e R s m args below meth c T' locs (cells + 1) (slots + cap) → T'.heap = h' → Ext h h' → Arr Z h' b (newA cA (newarray.typeOf aty) n) (newarray.typeOf aty) → Exa Z h' b ad → K0 (T'.setTop (mkF m (pc + 2) (Ls) (.ref b :: rest)))) : K0 (T.setTop (mkF m pc Ls Ks)) := by
  obtain ⟨T', h', cA, X', e', E, A, B, st⟩ := newPE (g := mkF m pc Ls Ks) X hx hZ w eT hg hd hs hn hcap hb hc hl had
  exact hG _ _ st (k T' h' _ cA rfl X' e' E A B)
theorem gstC {a : Addr} {cl : Cell} {j : Int32} {x : Int32} (hG : Cl p.tables e below K0) (X : Stand p l e R s m args below meth c T locs cells slots) (hx : p.tables.exec = Jvm.exec) (hZ : Z.Warmed39 s.vm) (eT : T.heap = h) (A : Arr Z h a cl .char) (hj : ¬ (j < 0 ∨ cl.slots.size ≤ j.toNatClampNeg)) (hg : m = m) (hs : Ks = .int x :: .int j :: .ref a :: rest) (hd : decode c.code pc = .ok (.castore, 1))
    (k : ∀ T' h', Stand p l e R s m args below meth c T' (locs ++ [⟨a, j.toNatClampNeg⟩]) cells slots → T'.heap = h' → Wr h h' a j.toNatClampNeg (.int (nar .char x)) → K0 (T'.setTop (mkF m (pc + 1) (Ls) (rest)))) : K0 (T.setTop (mkF m pc Ls Ks)) := by
  obtain ⟨T', h', X', e', W, st⟩ := stC (g := mkF m pc Ls Ks) X hx hZ eT A hj hg hs hd
  exact hG _ _ st (k T' h' X' e' W)
theorem gstI {a : Addr} {cl : Cell} {j : Int32} {x : Int32} (hG : Cl p.tables e below K0) (X : Stand p l e R s m args below meth c T locs cells slots) (hx : p.tables.exec = Jvm.exec) (hZ : Z.Warmed39 s.vm) (eT : T.heap = h) (A : Arr Z h a cl .int) (hj : ¬ (j < 0 ∨ cl.slots.size ≤ j.toNatClampNeg)) (hg : m = m) (hs : Ks = .int x :: .int j :: .ref a :: rest) (hd : decode c.code pc = .ok (.iastore, 1))
    (k : ∀ T' h', Stand p l e R s m args below meth c T' (locs ++ [⟨a, j.toNatClampNeg⟩]) cells slots → T'.heap = h' → Wr h h' a j.toNatClampNeg (.int x) → K0 (T'.setTop (mkF m (pc + 1) (Ls) (rest)))) : K0 (T.setTop (mkF m pc Ls Ks)) := by
  obtain ⟨T', h', X', e', W, st⟩ := stI (g := mkF m pc Ls Ks) X hx hZ eT A hj hg hs hd
  exact hG _ _ st (k T' h' X' e' W)
theorem gstB {a : Addr} {cl : Cell} {j : Int32} {x : Int32} (hG : Cl p.tables e below K0) (X : Stand p l e R s m args below meth c T locs cells slots) (hx : p.tables.exec = Jvm.exec) (hZ : Z.Warmed39 s.vm) (eT : T.heap = h) (A : Arr Z h a cl .byte) (hj : ¬ (j < 0 ∨ cl.slots.size ≤ j.toNatClampNeg)) (hg : m = m) (hs : Ks = .int x :: .int j :: .ref a :: rest) (hd : decode c.code pc = .ok (.bastore, 1))
    (k : ∀ T' h', Stand p l e R s m args below meth c T' (locs ++ [⟨a, j.toNatClampNeg⟩]) cells slots → T'.heap = h' → Wr h h' a j.toNatClampNeg (.int (nar .byte x)) → K0 (T'.setTop (mkF m (pc + 1) (Ls) (rest)))) : K0 (T.setTop (mkF m pc Ls Ks)) := by
  obtain ⟨T', h', X', e', W, st⟩ := stB (g := mkF m pc Ls Ks) X hx hZ eT A hj hg hs hd
  exact hG _ _ st (k T' h' X' e' W)
theorem gstJ {a : Addr} {cl : Cell} {j : Int32} {x : Int64} (hG : Cl p.tables e below K0) (X : Stand p l e R s m args below meth c T locs cells slots) (hx : p.tables.exec = Jvm.exec) (hZ : Z.Warmed39 s.vm) (eT : T.heap = h) (A : Arr Z h a cl .long) (hj : ¬ (j < 0 ∨ cl.slots.size ≤ j.toNatClampNeg)) (hg : m = m) (hs : Ks = .long x :: .int j :: .ref a :: rest) (hd : decode c.code pc = .ok (.lastore, 1))
    (k : ∀ T' h', Stand p l e R s m args below meth c T' (locs ++ [⟨a, j.toNatClampNeg⟩]) cells slots → T'.heap = h' → Wr h h' a j.toNatClampNeg (.long x) → K0 (T'.setTop (mkF m (pc + 1) (Ls) (rest)))) : K0 (T.setTop (mkF m pc Ls Ks)) := by
  obtain ⟨T', h', X', e', W, st⟩ := stJ (g := mkF m pc Ls Ks) X hx hZ eT A hj hg hs hd
  exact hG _ _ st (k T' h' X' e' W)
theorem g_iaload {a : Addr} {cl : Cell} {j : Int32} {v : Value} (hG : Cl p.tables e below K0) (X : Stand p l e R s m args below meth c T locs cells slots) (hx : p.tables.exec = Jvm.exec) (hZ : Z.Warmed39 s.vm) (eT : T.heap = h) (A : Arr Z h a cl .int) (hj : ¬ (j < 0 ∨ cl.slots.size ≤ j.toNatClampNeg)) (hv : cl.slots[j.toNatClampNeg]? = some v) (hg : m = m) (hs : Ks = .int j :: .ref a :: rest) (hd : decode c.code pc = .ok (.iaload, 1))
    (k : K0 (T.setTop (mkF m (pc + 1) (Ls) (v :: rest)))) : K0 (T.setTop (mkF m pc Ls Ks)) :=
  hG _ _ (X.iaload (g := mkF m pc Ls Ks) hx (by rw [eT]; exact A.1) (State.isArrayOf_alike hZ.alike A.2.1) A.2.2 hj hv hg hs hd) k
theorem g_laload {a : Addr} {cl : Cell} {j : Int32} {v : Value} (hG : Cl p.tables e below K0) (X : Stand p l e R s m args below meth c T locs cells slots) (hx : p.tables.exec = Jvm.exec) (hZ : Z.Warmed39 s.vm) (eT : T.heap = h) (A : Arr Z h a cl .long) (hj : ¬ (j < 0 ∨ cl.slots.size ≤ j.toNatClampNeg)) (hv : cl.slots[j.toNatClampNeg]? = some v) (hg : m = m) (hs : Ks = .int j :: .ref a :: rest) (hd : decode c.code pc = .ok (.laload, 1))
    (k : K0 (T.setTop (mkF m (pc + 1) (Ls) (v :: rest)))) : K0 (T.setTop (mkF m pc Ls Ks)) :=
  hG _ _ (X.laload (g := mkF m pc Ls Ks) hx (by rw [eT]; exact A.1) (State.isArrayOf_alike hZ.alike A.2.1) A.2.2 hj hv hg hs hd) k
theorem g_caload {a : Addr} {cl : Cell} {j : Int32} {v : Value} (hG : Cl p.tables e below K0) (X : Stand p l e R s m args below meth c T locs cells slots) (hx : p.tables.exec = Jvm.exec) (hZ : Z.Warmed39 s.vm) (eT : T.heap = h) (A : Arr Z h a cl .char) (hj : ¬ (j < 0 ∨ cl.slots.size ≤ j.toNatClampNeg)) (hv : cl.slots[j.toNatClampNeg]? = some v) (hg : m = m) (hs : Ks = .int j :: .ref a :: rest) (hd : decode c.code pc = .ok (.caload, 1))
    (k : K0 (T.setTop (mkF m (pc + 1) (Ls) (v :: rest)))) : K0 (T.setTop (mkF m pc Ls Ks)) :=
  hG _ _ (X.caload (g := mkF m pc Ls Ks) hx (by rw [eT]; exact A.1) (State.isArrayOf_alike hZ.alike A.2.1) A.2.2 hj hv hg hs hd) k
theorem g_baload {a : Addr} {cl : Cell} {j : Int32} {v : Value} (hG : Cl p.tables e below K0) (X : Stand p l e R s m args below meth c T locs cells slots) (hx : p.tables.exec = Jvm.exec) (hZ : Z.Warmed39 s.vm) (eT : T.heap = h) (A : Arr Z h a cl .byte) (hj : ¬ (j < 0 ∨ cl.slots.size ≤ j.toNatClampNeg)) (hv : cl.slots[j.toNatClampNeg]? = some v) (hg : m = m) (hs : Ks = .int j :: .ref a :: rest) (hd : decode c.code pc = .ok (.baload, 1))
    (k : K0 (T.setTop (mkF m (pc + 1) (Ls) (v :: rest)))) : K0 (T.setTop (mkF m pc Ls Ks)) :=
  hG _ _ (X.baloadBytes (g := mkF m pc Ls Ks) hx (by rw [eT]; exact A.1) (State.isArrayOf_alike hZ.alike A.2.1) A.2.2 hj hv hg hs hd) k
theorem g_aaload {a : Addr} {cl : Cell} {j : Int32} {v : Value} {ty : FieldType} (hG : Cl p.tables e below K0) (X : Stand p l e R s m args below meth c T locs cells slots) (hx : p.tables.exec = Jvm.exec) (hZ : Z.Warmed39 s.vm) (eT : T.heap = h) (A : Arr Z h a cl ty) (hty : ty.isReference = true) (hj : ¬ (j < 0 ∨ cl.slots.size ≤ j.toNatClampNeg)) (hv : cl.slots[j.toNatClampNeg]? = some v) (hg : m = m) (hs : Ks = .int j :: .ref a :: rest) (hd : decode c.code pc = .ok (.aaload, 1))
    (k : K0 (T.setTop (mkF m (pc + 1) (Ls) (v :: rest)))) : K0 (T.setTop (mkF m pc Ls Ks)) :=
  hG _ _ (X.aaload (g := mkF m pc Ls Ks) hx (by rw [eT]; exact A.1) (State.isArrayOf_alike hZ.alike A.2.1) hty A.2.2 hj hv hg hs hd) k
theorem gLen {a : Addr} {cl : Cell} {ty : FieldType} {z : Int32} (hG : Cl p.tables e below K0) (X : Stand p l e R s m args below meth c T locs cells slots) (hx : p.tables.exec = Jvm.exec) (hZ : Z.Warmed39 s.vm) (eT : T.heap = h) (A : Arr Z h a cl ty) (S : cl.slots.size = z.toNatClampNeg) (N : ¬ z < 0) (hg : m = m) (hs : Ks = .ref a :: rest) (hd : decode c.code pc = .ok (.arraylength, 1))
    (k : K0 (T.setTop (mkF m (pc + 1) (Ls) (.int z :: rest)))) : K0 (T.setTop (mkF m pc Ls Ks)) := by
  refine hG _ _ (X.arraylength (g := mkF m pc Ls Ks) hx (by rw [eT]; exact A.1) (State.isArrayOf_alike hZ.alike A.2.1) hg hs hd) ?_
  rw [len_of S N]
  exact k
theorem gStaticN {own : String} {index : Nat} {y : MethodName} {bytes : ByteArray} {maxL : Nat} {ret : Option FieldType} {W mc ms : Nat} {as' : Array Value} {Q : Option Value → Heap → List Loc → Prop} {argsL : List Value} (hG : Cl p.tables e below K0) (X : Stand p l e R s m args below meth c T locs cells slots) (hx : p.tables.exec = Jvm.exec) (hZ : Z.Warmed39 s.vm) (hown : s.vm.findClass own = some m.cls) (hlink : (Cond.methodLink own index y).before args s = true) (hstat : (Cond.static y).before args s = true) (hinit : (Cond.initialized y.cls).before args s = true) (hcode : (Cond.code y bytes maxL ret).before args s = true) (hy : y.cls ≠ "java/lang/invoke/MethodHandle" ∧ y.cls ≠ "java/lang/invoke/VarHandle") (hK : Back l R p e below s args y 3 W (fun A a => a = as' ∧ A.U.heap = h ∧ A.cells + mc ≤ R.cells ∧ A.slots + ms ≤ R.slots) (fun A _ v B => ∃ L, Q v B.U.heap L ∧ B.locs = A.locs ++ L ∧ B.cells = A.cells + mc ∧ B.slots = A.slots + ms)) (hg : m = m) (hsize : Ls.size = c.maxLocals) (hlen : ∀ sig, parseMethodDescriptor y.desc = some sig → argsL.length = sig.parameters.length) (hstack : Ks = argsL.reverse ++ rest) (hW : 2 * 0 + (rest.map fun v => v.category).sum ≤ W) (hdg : decode c.code pc = .ok (.invokestatic index, 3)) (has : argsL.toArray = as') (eT : T.heap = h) (hc : cells + mc ≤ R.cells) (hsl : slots + ms ≤ R.slots)
    (k : ∀ (v : Option Value) (T' : State) (L : List Loc), Q v T'.heap L → Stand p l e R s m args below meth c T' (locs ++ L) (cells + mc) (slots + ms) → K0 (T'.setTop (mkF m (pc + 3) (Ls) (v.toList ++ rest)))) : K0 (T.setTop (mkF m pc Ls Ks)) := by
  obtain ⟨v, vm₁, ⟨T', L', k', n'⟩, -, X', ⟨Lc, hQ, h1, h2, h3⟩, st⟩ := Jvm.LawKit.callS (g := mkF m pc Ls Ks) X hx hown hlink hstat hinit hcode hy hK hg hsize hlen hstack hW hdg (fun vm₁ hvm => ⟨has, eT, hc, hsl⟩)
  dsimp only [Pt.U, Pt.locs, Pt.cells, Pt.slots] at X' hQ h1 h2 h3 st
  subst h1 h2 h3
  exact hG _ _ st (k v T' Lc hQ X')
theorem gStaticS {own : String} {index : Nat} {y : MethodName} {bytes : ByteArray} {maxL : Nat} {ret : Option FieldType} {W mc ms : Nat} {as' : Array Value} {Q : Option Value → Heap → List Loc → Prop} {argsL : List Value} {vm0 : Vm} {k0 : Nat} (hG : Cl p.tables e below K0) (X : Stand p l e R (s.setVm vm0) m args below meth c T locs cells slots) (hx : p.tables.exec = Jvm.exec) (hZ : Z.Warmed39 (s.setVm vm0).vm) (hS : s.Since vm0 k0) (hk : k0 ≤ h.size) (hown : (s.setVm vm0).vm.findClass own = some m.cls) (hlink : (Cond.methodLink own index y).before args (s.setVm vm0) = true) (hstat : (Cond.static y).before args (s.setVm vm0) = true) (hinit : (Cond.initialized y.cls).before args (s.setVm vm0) = true) (hcode : (Cond.code y bytes maxL ret).before args (s.setVm vm0) = true) (hy : y.cls ≠ "java/lang/invoke/MethodHandle" ∧ y.cls ≠ "java/lang/invoke/VarHandle") (hK : BackS l R p e below (s.setVm vm0) args y 3 W (fun A a => a = as' ∧ A.U.heap = h ∧ A.cells + mc ≤ R.cells ∧ A.slots + ms ≤ R.slots) (fun A _ v B => ∃ L, Q v B.U.heap L ∧ B.locs = A.locs ++ L ∧ B.cells = A.cells + mc ∧ B.slots = A.slots + ms)) (hg : m = m) (hsize : Ls.size = c.maxLocals) (hlen : ∀ sig, parseMethodDescriptor y.desc = some sig → argsL.length = sig.parameters.length) (hstack : Ks = argsL.reverse ++ rest) (hW : 2 * 0 + (rest.map fun v => v.category).sum ≤ W) (hdg : decode c.code pc = .ok (.invokestatic index, 3)) (has : argsL.toArray = as') (eT : T.heap = h) (hc : cells + mc ≤ R.cells) (hsl : slots + ms ≤ R.slots)
    (k : ∀ (v : Option Value) (T' : State) (L : List Loc), Q v T'.heap L → Stand p l e R (s.setVm T'.vm) m args below meth c T' (locs ++ L) (cells + mc) (slots + ms) → s.Since T'.vm T'.heap.size → Z.Warmed39 (s.setVm T'.vm).vm → (s.setVm T'.vm).vm.findClass own = some m.cls → T'.heap.size ≤ T'.heap.size → K0 (T'.setTop (mkF m (pc + 3) (Ls) (v.toList ++ rest)))) : K0 (T.setTop (mkF m pc Ls Ks)) := by
  obtain ⟨v, vm₁, ⟨T', L', k', n'⟩, -, X', hS', gr, ⟨Lc, hQ, h1, h2, h3⟩, st⟩ := callSS (g := mkF m pc Ls Ks) X hx hown hlink hstat hinit hcode hy hK hg hsize hlen hstack hW hdg (fun vm₁ hvm => ⟨has, eT, hc, hsl⟩)
  dsimp only [Pt.U, Pt.locs, Pt.cells, Pt.slots] at X' hQ h1 h2 h3 st hS' gr
  subst h1 h2 h3
  obtain ⟨X2, hS2, hZ2, hown2⟩ := rebS hS (Nat.le_trans hk (Nat.le_of_eq (congrArg Array.size eT.symm))) X' hS' gr hZ hown
  exact hG _ _ (fun _ q => st.trans q) (k v T' Lc hQ X2 hS2 hZ2 hown2 (Nat.le_refl _))
theorem gStaticJ {own : String} {index : Nat} {y : MethodName} {bytes : ByteArray} {maxL : Nat} {ret : Option FieldType} {W mc ms : Nat} {as' : Array Value} {Q : Option Value → Heap → Vm → List Loc → Prop} {argsL : List Value} {vm0 : Vm} {k0 : Nat} {Φ : Vm → Prop} (hG : Cl p.tables e below K0) (X : Stand p l e R (s.setVm vm0) m args below meth c T locs cells slots) (hx : p.tables.exec = Jvm.exec) (hZ : Z.Warmed39 (s.setVm vm0).vm) (hS : s.Since vm0 k0) (hk : k0 ≤ h.size) (hown : (s.setVm vm0).vm.findClass own = some m.cls) (hlink : (Cond.methodLink own index y).before args (s.setVm vm0) = true) (hstat : (Cond.static y).before args (s.setVm vm0) = true) (hinit : (Cond.initialized y.cls).before args (s.setVm vm0) = true) (hcode : (Cond.code y bytes maxL ret).before args (s.setVm vm0) = true) (hy : y.cls ≠ "java/lang/invoke/MethodHandle" ∧ y.cls ≠ "java/lang/invoke/VarHandle") (hK : BackS l R p e below (s.setVm vm0) args y 3 W (fun A a => a = as' ∧ A.U.heap = h ∧ Φ A.U.vm ∧ A.cells + mc ≤ R.cells ∧ A.slots + ms ≤ R.slots) (fun A _ v B => ∃ L, Q v B.U.heap B.U.vm L ∧ B.locs = A.locs ++ L ∧ B.cells = A.cells + mc ∧ B.slots = A.slots + ms)) (hg : m = m) (hsize : Ls.size = c.maxLocals) (hlen : ∀ sig, parseMethodDescriptor y.desc = some sig → argsL.length = sig.parameters.length) (hstack : Ks = argsL.reverse ++ rest) (hW : 2 * 0 + (rest.map fun v => v.category).sum ≤ W) (hdg : decode c.code pc = .ok (.invokestatic index, 3)) (has : argsL.toArray = as') (eT : T.heap = h) (hΦ : ∀ vm₁, (s.setVm vm0).WarmedH vm₁ → Φ vm₁) (hc : cells + mc ≤ R.cells) (hsl : slots + ms ≤ R.slots)
    (k : ∀ (v : Option Value) (T' : State) (L : List Loc), Q v T'.heap T'.vm L → Stand p l e R (s.setVm T'.vm) m args below meth c T' (locs ++ L) (cells + mc) (slots + ms) → s.Since T'.vm T'.heap.size → Z.Warmed39 (s.setVm T'.vm).vm → (s.setVm T'.vm).vm.findClass own = some m.cls → T'.heap.size ≤ T'.heap.size → K0 (T'.setTop (mkF m (pc + 3) (Ls) (v.toList ++ rest)))) : K0 (T.setTop (mkF m pc Ls Ks)) := by
  obtain ⟨v, vm₁, ⟨T', L', k', n'⟩, -, X', hS', gr, ⟨Lc, hQ, h1, h2, h3⟩, st⟩ := callSS (g := mkF m pc Ls Ks) X hx hown hlink hstat hinit hcode hy hK hg hsize hlen hstack hW hdg (fun vm₁ hvm => ⟨has, eT, hΦ vm₁ hvm, hc, hsl⟩)
  dsimp only [Pt.U, Pt.locs, Pt.cells, Pt.slots] at X' hQ h1 h2 h3 st hS' gr
  subst h1 h2 h3
  obtain ⟨X2, hS2, hZ2, hown2⟩ := rebS hS (Nat.le_trans hk (Nat.le_of_eq (congrArg Array.size eT.symm))) X' hS' gr hZ hown
  exact hG _ _ (fun _ q => st.trans q) (k v T' Lc hQ X2 hS2 hZ2 hown2 (Nat.le_refl _))
theorem gSpecialN {own : String} {index : Nat} {y : MethodName} {bytes : ByteArray} {maxL : Nat} {b : Addr} {W mc ms : Nat} {as' : Array Value} {Q : Option Value → Heap → List Loc → Prop} {argsL : List Value} (hG : Cl p.tables e below K0) (X : Stand p l e R s m args below meth c T locs cells slots) (hx : p.tables.exec = Jvm.exec) (hZ : Z.Warmed39 s.vm) (hown : s.vm.findClass own = some m.cls) (hy1 : y.name = "<init>") (hlink : (Cond.methodLink own index y).before args s = true) (hinst : (Cond.instanceMethod y).before args s = true) (hcode : (Cond.code y bytes maxL none).before args s = true) (hy : y.cls ≠ "java/lang/invoke/MethodHandle" ∧ y.cls ≠ "java/lang/invoke/VarHandle") (hK : Back l R p e below s args y 3 W (fun A a => a = as' ∧ A.U.heap = h ∧ A.cells + mc ≤ R.cells ∧ A.slots + ms ≤ R.slots) (fun A _ v B => ∃ L, Q v B.U.heap L ∧ B.locs = A.locs ++ L ∧ B.cells = A.cells + mc ∧ B.slots = A.slots + ms)) (hg : m = m) (hsize : Ls.size = c.maxLocals) (hlen : ∀ sig, parseMethodDescriptor y.desc = some sig → argsL.length = sig.parameters.length) (hstack : Ks = argsL.reverse ++ .ref b :: rest) (hW : 2 * 0 + (rest.map fun v => v.category).sum ≤ W) (hdg : decode c.code pc = .ok (.invokespecial index, 3)) (has : (.ref b :: argsL).toArray = as') (eT : T.heap = h) (hc : cells + mc ≤ R.cells) (hsl : slots + ms ≤ R.slots)
    (k : ∀ (v : Option Value) (T' : State) (L : List Loc), Q v T'.heap L → Stand p l e R s m args below meth c T' (locs ++ L) (cells + mc) (slots + ms) → K0 (T'.setTop (mkF m (pc + 3) (Ls) (v.toList ++ rest)))) : K0 (T.setTop (mkF m pc Ls Ks)) := by
  obtain ⟨v, vm₁, ⟨T', L', k', n'⟩, -, X', ⟨Lc, hQ, h1, h2, h3⟩, st⟩ := X.specialBack (g := mkF m pc Ls Ks) hx hy1 hown hlink hinst hcode hy hK hg hsize (Steps.refl _) hlen hstack hW hdg (fun vm₁ hvm => ⟨has, eT, hc, hsl⟩)
  dsimp only [Pt.U, Pt.locs, Pt.cells, Pt.slots] at X' hQ h1 h2 h3 st
  subst h1 h2 h3
  exact hG _ _ (fun _ q => st.trans q) (k v T' Lc hQ X')
theorem gSpecialS {own : String} {index : Nat} {y : MethodName} {bytes : ByteArray} {maxL : Nat} {b : Addr} {W mc ms : Nat} {as' : Array Value} {Q : Option Value → Heap → List Loc → Prop} {argsL : List Value} {vm0 : Vm} {k0 : Nat} (hG : Cl p.tables e below K0) (X : Stand p l e R (s.setVm vm0) m args below meth c T locs cells slots) (hx : p.tables.exec = Jvm.exec) (hZ : Z.Warmed39 (s.setVm vm0).vm) (hS : s.Since vm0 k0) (hk : k0 ≤ h.size) (hown : (s.setVm vm0).vm.findClass own = some m.cls) (hy1 : y.name = "<init>") (hlink : (Cond.methodLink own index y).before args (s.setVm vm0) = true) (hinst : (Cond.instanceMethod y).before args (s.setVm vm0) = true) (hcode : (Cond.code y bytes maxL none).before args (s.setVm vm0) = true) (hy : y.cls ≠ "java/lang/invoke/MethodHandle" ∧ y.cls ≠ "java/lang/invoke/VarHandle") (hK : BackS l R p e below (s.setVm vm0) args y 3 W (fun A a => a = as' ∧ A.U.heap = h ∧ A.cells + mc ≤ R.cells ∧ A.slots + ms ≤ R.slots) (fun A _ v B => ∃ L, Q v B.U.heap L ∧ B.locs = A.locs ++ L ∧ B.cells = A.cells + mc ∧ B.slots = A.slots + ms)) (hg : m = m) (hsize : Ls.size = c.maxLocals) (hlen : ∀ sig, parseMethodDescriptor y.desc = some sig → argsL.length = sig.parameters.length) (hstack : Ks = argsL.reverse ++ .ref b :: rest) (hW : 2 * 0 + (rest.map fun v => v.category).sum ≤ W) (hdg : decode c.code pc = .ok (.invokespecial index, 3)) (has : (.ref b :: argsL).toArray = as') (eT : T.heap = h) (hc : cells + mc ≤ R.cells) (hsl : slots + ms ≤ R.slots)
    (k : ∀ (v : Option Value) (T' : State) (L : List Loc), Q v T'.heap L → Stand p l e R (s.setVm T'.vm) m args below meth c T' (locs ++ L) (cells + mc) (slots + ms) → s.Since T'.vm T'.heap.size → Z.Warmed39 (s.setVm T'.vm).vm → (s.setVm T'.vm).vm.findClass own = some m.cls → T'.heap.size ≤ T'.heap.size → K0 (T'.setTop (mkF m (pc + 3) (Ls) (v.toList ++ rest)))) : K0 (T.setTop (mkF m pc Ls Ks)) := by
  obtain ⟨v, vm₁, ⟨T', L', k', n'⟩, -, X', hS', gr, ⟨Lc, hQ, h1, h2, h3⟩, st⟩ := X.specialBackS (g := mkF m pc Ls Ks) hx hy1 hown hlink hinst hcode hy hK hg hsize (Steps.refl _) hlen hstack hW hdg (fun vm₁ hvm => ⟨has, eT, hc, hsl⟩)
  dsimp only [Pt.U, Pt.locs, Pt.cells, Pt.slots] at X' hQ h1 h2 h3 st hS' gr
  subst h1 h2 h3
  obtain ⟨X2, hS2, hZ2, hown2⟩ := rebS hS (Nat.le_trans hk (Nat.le_of_eq (congrArg Array.size eT.symm))) X' hS' gr hZ hown
  exact hG _ _ (fun _ q => st.trans q) (k v T' Lc hQ X2 hS2 hZ2 hown2 (Nat.le_refl _))
theorem gSpecialJ {own : String} {index : Nat} {y : MethodName} {bytes : ByteArray} {maxL : Nat} {b : Addr} {W mc ms : Nat} {as' : Array Value} {Q : Option Value → Heap → Vm → List Loc → Prop} {argsL : List Value} {vm0 : Vm} {k0 : Nat} {Φ : Vm → Prop} (hG : Cl p.tables e below K0) (X : Stand p l e R (s.setVm vm0) m args below meth c T locs cells slots) (hx : p.tables.exec = Jvm.exec) (hZ : Z.Warmed39 (s.setVm vm0).vm) (hS : s.Since vm0 k0) (hk : k0 ≤ h.size) (hown : (s.setVm vm0).vm.findClass own = some m.cls) (hy1 : y.name = "<init>") (hlink : (Cond.methodLink own index y).before args (s.setVm vm0) = true) (hinst : (Cond.instanceMethod y).before args (s.setVm vm0) = true) (hcode : (Cond.code y bytes maxL none).before args (s.setVm vm0) = true) (hy : y.cls ≠ "java/lang/invoke/MethodHandle" ∧ y.cls ≠ "java/lang/invoke/VarHandle") (hK : BackS l R p e below (s.setVm vm0) args y 3 W (fun A a => a = as' ∧ A.U.heap = h ∧ Φ A.U.vm ∧ A.cells + mc ≤ R.cells ∧ A.slots + ms ≤ R.slots) (fun A _ v B => ∃ L, Q v B.U.heap B.U.vm L ∧ B.locs = A.locs ++ L ∧ B.cells = A.cells + mc ∧ B.slots = A.slots + ms)) (hg : m = m) (hsize : Ls.size = c.maxLocals) (hlen : ∀ sig, parseMethodDescriptor y.desc = some sig → argsL.length = sig.parameters.length) (hstack : Ks = argsL.reverse ++ .ref b :: rest) (hW : 2 * 0 + (rest.map fun v => v.category).sum ≤ W) (hdg : decode c.code pc = .ok (.invokespecial index, 3)) (has : (.ref b :: argsL).toArray = as') (eT : T.heap = h) (hΦ : ∀ vm₁, (s.setVm vm0).WarmedH vm₁ → Φ vm₁) (hc : cells + mc ≤ R.cells) (hsl : slots + ms ≤ R.slots)
    (k : ∀ (v : Option Value) (T' : State) (L : List Loc), Q v T'.heap T'.vm L → Stand p l e R (s.setVm T'.vm) m args below meth c T' (locs ++ L) (cells + mc) (slots + ms) → s.Since T'.vm T'.heap.size → Z.Warmed39 (s.setVm T'.vm).vm → (s.setVm T'.vm).vm.findClass own = some m.cls → T'.heap.size ≤ T'.heap.size → K0 (T'.setTop (mkF m (pc + 3) (Ls) (v.toList ++ rest)))) : K0 (T.setTop (mkF m pc Ls Ks)) := by
  obtain ⟨v, vm₁, ⟨T', L', k', n'⟩, -, X', hS', gr, ⟨Lc, hQ, h1, h2, h3⟩, st⟩ := X.specialBackS (g := mkF m pc Ls Ks) hx hy1 hown hlink hinst hcode hy hK hg hsize (Steps.refl _) hlen hstack hW hdg (fun vm₁ hvm => ⟨has, eT, hΦ vm₁ hvm, hc, hsl⟩)
  dsimp only [Pt.U, Pt.locs, Pt.cells, Pt.slots] at X' hQ h1 h2 h3 st hS' gr
  subst h1 h2 h3
  obtain ⟨X2, hS2, hZ2, hown2⟩ := rebS hS (Nat.le_trans hk (Nat.le_of_eq (congrArg Array.size eT.symm))) X' hS' gr hZ hown
  exact hG _ _ (fun _ q => st.trans q) (k v T' Lc hQ X2 hS2 hZ2 hown2 (Nat.le_refl _))
theorem gVirtualN {own C : String} {index : Nat} {y z : MethodName} {b : Addr} {W mc ms : Nat} {as' : Array Value} {Q : Option Value → Heap → List Loc → Prop} {argsL : List Value} (hG : Cl p.tables e below K0) (X : Stand p l e R s m args below meth c T locs cells slots) (hx : p.tables.exec = Jvm.exec) (hZ : Z.Warmed39 s.vm) (hown : s.vm.findClass own = some m.cls) (hlink : (Cond.methodLink own index y).before args s = true) (hdecl : (Cond.declares y).before args s = true) (hnf : NotFace s y) (hsel : (Cond.selects C y z).before args s = true) (hinst : (Cond.instanceMethod z).before args s = true) (hy : y.cls ≠ "java/lang/invoke/MethodHandle" ∧ y.cls ≠ "java/lang/invoke/VarHandle") (E : Exa Z h b C) (hK : Back l R p e below s args z 3 W (fun A a => a = as' ∧ A.U.heap = h ∧ A.cells + mc ≤ R.cells ∧ A.slots + ms ≤ R.slots) (fun A _ v B => ∃ L, Q v B.U.heap L ∧ B.locs = A.locs ++ L ∧ B.cells = A.cells + mc ∧ B.slots = A.slots + ms)) (hg : m = m) (hsize : Ls.size = c.maxLocals) (hlen : ∀ sig, parseMethodDescriptor y.desc = some sig → argsL.length = sig.parameters.length) (hstack : Ks = argsL.reverse ++ .ref b :: rest) (hW : 2 * 0 + (rest.map fun v => v.category).sum ≤ W) (hdg : decode c.code pc = .ok (.invokevirtual index, 3)) (has : (.ref b :: argsL).toArray = as') (eT : T.heap = h) (hc : cells + mc ≤ R.cells) (hsl : slots + ms ≤ R.slots)
    (k : ∀ (v : Option Value) (T' : State) (L : List Loc), Q v T'.heap L → Stand p l e R s m args below meth c T' (locs ++ L) (cells + mc) (slots + ms) → K0 (T'.setTop (mkF m (pc + 3) (Ls) (v.toList ++ rest)))) : K0 (T.setTop (mkF m pc Ls Ks)) := by
  obtain ⟨cq, kq, q1, q2, q3⟩ := isOf hZ eT E
  obtain ⟨v, vm₁, ⟨T', L', k', n'⟩, -, X', ⟨Lc, hQ, h1, h2, h3⟩, st⟩ := X.virtualBack (g := mkF m pc Ls Ks) hx hown hlink hdecl hnf hsel hinst hy hK q1 q3 hg hsize (Steps.refl _) hlen hstack hW hdg (fun vm₁ hvm => ⟨has, eT, hc, hsl⟩)
  dsimp only [Pt.U, Pt.locs, Pt.cells, Pt.slots] at X' hQ h1 h2 h3 st
  subst h1 h2 h3
  exact hG _ _ (fun _ q => st.trans q) (k v T' Lc hQ X')
theorem gVirtualS {own C : String} {index : Nat} {y z : MethodName} {b : Addr} {W mc ms : Nat} {as' : Array Value} {Q : Option Value → Heap → List Loc → Prop} {argsL : List Value} {vm0 : Vm} {k0 : Nat} (hG : Cl p.tables e below K0) (X : Stand p l e R (s.setVm vm0) m args below meth c T locs cells slots) (hx : p.tables.exec = Jvm.exec) (hZ : Z.Warmed39 (s.setVm vm0).vm) (hS : s.Since vm0 k0) (hk : k0 ≤ h.size) (hown : (s.setVm vm0).vm.findClass own = some m.cls) (hlink : (Cond.methodLink own index y).before args (s.setVm vm0) = true) (hdecl : (Cond.declares y).before args (s.setVm vm0) = true) (hnf : NotFace (s.setVm vm0) y) (hsel : (Cond.selects C y z).before args (s.setVm vm0) = true) (hinst : (Cond.instanceMethod z).before args (s.setVm vm0) = true) (hy : y.cls ≠ "java/lang/invoke/MethodHandle" ∧ y.cls ≠ "java/lang/invoke/VarHandle") (E : Exa Z h b C) (hK : BackS l R p e below (s.setVm vm0) args z 3 W (fun A a => a = as' ∧ A.U.heap = h ∧ A.cells + mc ≤ R.cells ∧ A.slots + ms ≤ R.slots) (fun A _ v B => ∃ L, Q v B.U.heap L ∧ B.locs = A.locs ++ L ∧ B.cells = A.cells + mc ∧ B.slots = A.slots + ms)) (hg : m = m) (hsize : Ls.size = c.maxLocals) (hlen : ∀ sig, parseMethodDescriptor y.desc = some sig → argsL.length = sig.parameters.length) (hstack : Ks = argsL.reverse ++ .ref b :: rest) (hW : 2 * 0 + (rest.map fun v => v.category).sum ≤ W) (hdg : decode c.code pc = .ok (.invokevirtual index, 3)) (has : (.ref b :: argsL).toArray = as') (eT : T.heap = h) (hc : cells + mc ≤ R.cells) (hsl : slots + ms ≤ R.slots)
    (k : ∀ (v : Option Value) (T' : State) (L : List Loc), Q v T'.heap L → Stand p l e R (s.setVm T'.vm) m args below meth c T' (locs ++ L) (cells + mc) (slots + ms) → s.Since T'.vm T'.heap.size → Z.Warmed39 (s.setVm T'.vm).vm → (s.setVm T'.vm).vm.findClass own = some m.cls → T'.heap.size ≤ T'.heap.size → K0 (T'.setTop (mkF m (pc + 3) (Ls) (v.toList ++ rest)))) : K0 (T.setTop (mkF m pc Ls Ks)) := by
  obtain ⟨cq, kq, q1, q2, q3⟩ := isOf hZ eT E
  obtain ⟨v, vm₁, ⟨T', L', k', n'⟩, -, X', hS', gr, ⟨Lc, hQ, h1, h2, h3⟩, st⟩ := X.virtualBackS (g := mkF m pc Ls Ks) hx hown hlink hdecl hnf hsel hinst hy hK q1 q3 hg hsize (Steps.refl _) hlen hstack hW hdg (fun vm₁ hvm => ⟨has, eT, hc, hsl⟩)
  dsimp only [Pt.U, Pt.locs, Pt.cells, Pt.slots] at X' hQ h1 h2 h3 st hS' gr
  subst h1 h2 h3
  obtain ⟨X2, hS2, hZ2, hown2⟩ := rebS hS (Nat.le_trans hk (Nat.le_of_eq (congrArg Array.size eT.symm))) X' hS' gr hZ hown
  exact hG _ _ (fun _ q => st.trans q) (k v T' Lc hQ X2 hS2 hZ2 hown2 (Nat.le_refl _))
theorem gVirtualJ {own C : String} {index : Nat} {y z : MethodName} {b : Addr} {W mc ms : Nat} {as' : Array Value} {Q : Option Value → Heap → Vm → List Loc → Prop} {argsL : List Value} {vm0 : Vm} {k0 : Nat} {Φ : Vm → Prop} (hG : Cl p.tables e below K0) (X : Stand p l e R (s.setVm vm0) m args below meth c T locs cells slots) (hx : p.tables.exec = Jvm.exec) (hZ : Z.Warmed39 (s.setVm vm0).vm) (hS : s.Since vm0 k0) (hk : k0 ≤ h.size) (hown : (s.setVm vm0).vm.findClass own = some m.cls) (hlink : (Cond.methodLink own index y).before args (s.setVm vm0) = true) (hdecl : (Cond.declares y).before args (s.setVm vm0) = true) (hnf : NotFace (s.setVm vm0) y) (hsel : (Cond.selects C y z).before args (s.setVm vm0) = true) (hinst : (Cond.instanceMethod z).before args (s.setVm vm0) = true) (hy : y.cls ≠ "java/lang/invoke/MethodHandle" ∧ y.cls ≠ "java/lang/invoke/VarHandle") (E : Exa Z h b C) (hK : BackS l R p e below (s.setVm vm0) args z 3 W (fun A a => a = as' ∧ A.U.heap = h ∧ Φ A.U.vm ∧ A.cells + mc ≤ R.cells ∧ A.slots + ms ≤ R.slots) (fun A _ v B => ∃ L, Q v B.U.heap B.U.vm L ∧ B.locs = A.locs ++ L ∧ B.cells = A.cells + mc ∧ B.slots = A.slots + ms)) (hg : m = m) (hsize : Ls.size = c.maxLocals) (hlen : ∀ sig, parseMethodDescriptor y.desc = some sig → argsL.length = sig.parameters.length) (hstack : Ks = argsL.reverse ++ .ref b :: rest) (hW : 2 * 0 + (rest.map fun v => v.category).sum ≤ W) (hdg : decode c.code pc = .ok (.invokevirtual index, 3)) (has : (.ref b :: argsL).toArray = as') (eT : T.heap = h) (hΦ : ∀ vm₁, (s.setVm vm0).WarmedH vm₁ → Φ vm₁) (hc : cells + mc ≤ R.cells) (hsl : slots + ms ≤ R.slots)
    (k : ∀ (v : Option Value) (T' : State) (L : List Loc), Q v T'.heap T'.vm L → Stand p l e R (s.setVm T'.vm) m args below meth c T' (locs ++ L) (cells + mc) (slots + ms) → s.Since T'.vm T'.heap.size → Z.Warmed39 (s.setVm T'.vm).vm → (s.setVm T'.vm).vm.findClass own = some m.cls → T'.heap.size ≤ T'.heap.size → K0 (T'.setTop (mkF m (pc + 3) (Ls) (v.toList ++ rest)))) : K0 (T.setTop (mkF m pc Ls Ks)) := by
  obtain ⟨cq, kq, q1, q2, q3⟩ := isOf hZ eT E
  obtain ⟨v, vm₁, ⟨T', L', k', n'⟩, -, X', hS', gr, ⟨Lc, hQ, h1, h2, h3⟩, st⟩ := X.virtualBackS (g := mkF m pc Ls Ks) hx hown hlink hdecl hnf hsel hinst hy hK q1 q3 hg hsize (Steps.refl _) hlen hstack hW hdg (fun vm₁ hvm => ⟨has, eT, hΦ vm₁ hvm, hc, hsl⟩)
  dsimp only [Pt.U, Pt.locs, Pt.cells, Pt.slots] at X' hQ h1 h2 h3 st hS' gr
  subst h1 h2 h3
  obtain ⟨X2, hS2, hZ2, hown2⟩ := rebS hS (Nat.le_trans hk (Nat.le_of_eq (congrArg Array.size eT.symm))) X' hS' gr hZ hown
  exact hG _ _ (fun _ q => st.trans q) (k v T' Lc hQ X2 hS2 hZ2 hown2 (Nat.le_refl _))
theorem gVirtualUpN {own C owner : String} {index : Nat} {x y : MethodName} {b : Addr} {W mc ms : Nat} {as' : Array Value} {Q : Option Value → Heap → List Loc → Prop} {argsL : List Value} (hG : Cl p.tables e below K0) (X : Stand p l e R s m args below meth c T locs cells slots) (hx : p.tables.exec = Jvm.exec) (hZ : Z.Warmed39 s.vm) (hown : s.vm.findClass own = some m.cls) (hlink : (Cond.methodLink own index x).before args s = true) (hsame : (Cond.sameMethod x.cls owner x.name x.desc).before args s = true) (hdecl : (Cond.declares ⟨owner, x.name, x.desc⟩).before args s = true) (howner : owner ≠ "java/lang/invoke/MethodHandle" ∧ owner ≠ "java/lang/invoke/VarHandle") (hsel : (Cond.selects C x y).before args s = true) (hinst : (Cond.instanceMethod y).before args s = true) (E : Exa Z h b C) (hK : Back l R p e below s args y 3 W (fun A a => a = as' ∧ A.U.heap = h ∧ A.cells + mc ≤ R.cells ∧ A.slots + ms ≤ R.slots) (fun A _ v B => ∃ L, Q v B.U.heap L ∧ B.locs = A.locs ++ L ∧ B.cells = A.cells + mc ∧ B.slots = A.slots + ms)) (hg : m = m) (hsize : Ls.size = c.maxLocals) (hlen : ∀ sig, parseMethodDescriptor x.desc = some sig → argsL.length = sig.parameters.length) (hstack : Ks = argsL.reverse ++ .ref b :: rest) (hW : 2 * 0 + (rest.map fun v => v.category).sum ≤ W) (hdg : decode c.code pc = .ok (.invokevirtual index, 3)) (has : (.ref b :: argsL).toArray = as') (eT : T.heap = h) (hc : cells + mc ≤ R.cells) (hsl : slots + ms ≤ R.slots)
    (k : ∀ (v : Option Value) (T' : State) (L : List Loc), Q v T'.heap L → Stand p l e R s m args below meth c T' (locs ++ L) (cells + mc) (slots + ms) → K0 (T'.setTop (mkF m (pc + 3) (Ls) (v.toList ++ rest)))) : K0 (T.setTop (mkF m pc Ls Ks)) := by
  obtain ⟨cq, kq, q1, q2, q3⟩ := isOf hZ eT E
  obtain ⟨v, vm₁, ⟨T', L', k', n'⟩, -, X', ⟨Lc, hQ, h1, h2, h3⟩, st⟩ := X.virtualBackUp (g := mkF m pc Ls Ks) hx hown hlink hsame hdecl howner hsel hinst hK q1 q3 hg hsize (Steps.refl _) hlen hstack hW hdg (fun vm₁ hvm => ⟨has, eT, hc, hsl⟩)
  dsimp only [Pt.U, Pt.locs, Pt.cells, Pt.slots] at X' hQ h1 h2 h3 st
  subst h1 h2 h3
  exact hG _ _ (fun _ q => st.trans q) (k v T' Lc hQ X')
end Glue
theorem zXS_aload {tb : Tables} [Ours tb] {e : Env} {below : List Frame} {T target : State} {m : MethodId} {c : Code} {pc : Nat} {Ls : Array Slot} {Ks : List Value} (h : At T m c below) (hx : tb.exec = Jvm.exec) (hg : m = m) {k : Nat} {v : Value} (hd : decode c.code pc = .ok (.aload k, 2)) (hl : Ls[k]? = some (.val v)) (hv : v.isRef = true) (hr : Steps tb e below (T.setTop (mkF m (pc + 2) (Ls) (v :: Ks))) target) : Steps tb e below (T.setTop (mkF m pc Ls Ks)) target :=
  Jvm.Free.XS.aload (g := mkF m pc Ls Ks) h hx hg hd hl hv hr
theorem zXS_aloadN {tb : Tables} [Ours tb] {e : Env} {below : List Frame} {T target : State} {m : MethodId} {c : Code} {pc : Nat} {Ls : Array Slot} {Ks : List Value} (h : At T m c below) (hx : tb.exec = Jvm.exec) (hg : m = m) {k : Fin 4} {v : Value} (hd : decode c.code pc = .ok (.aload_n k, 1)) (hl : Ls[k.val]? = some (.val v)) (hv : v.isRef = true) (hr : Steps tb e below (T.setTop (mkF m (pc + 1) (Ls) (v :: Ks))) target) : Steps tb e below (T.setTop (mkF m pc Ls Ks)) target :=
  Jvm.Free.XS.aloadN (g := mkF m pc Ls Ks) h hx hg hd hl hv hr
theorem zXS_astore {tb : Tables} [Ours tb] {e : Env} {below : List Frame} {T target : State} {m : MethodId} {c : Code} {pc : Nat} {Ls : Array Slot} {Ks : List Value} (h : At T m c below) (hx : tb.exec = Jvm.exec) (hg : m = m) {k : Nat} {x : Value} {rest : List Value} {l' : Array Slot} (hd : decode c.code pc = .ok (.astore k, 2)) (hs : Ks = x :: rest) (hv : x.isRef = true) (hl : storeLocals Ls k x = some l') (hr : Steps tb e below (T.setTop (mkF m (pc + 2) (l') (rest))) target) : Steps tb e below (T.setTop (mkF m pc Ls Ks)) target :=
  Jvm.Free.XS.astore (g := mkF m pc Ls Ks) h hx hg hd hs hv hl hr
theorem zXS_astoreN {tb : Tables} [Ours tb] {e : Env} {below : List Frame} {T target : State} {m : MethodId} {c : Code} {pc : Nat} {Ls : Array Slot} {Ks : List Value} (h : At T m c below) (hx : tb.exec = Jvm.exec) (hg : m = m) {k : Fin 4} {x : Value} {rest : List Value} {l' : Array Slot} (hd : decode c.code pc = .ok (.astore_n k, 1)) (hs : Ks = x :: rest) (hv : x.isRef = true) (hl : storeLocals Ls k.val x = some l') (hr : Steps tb e below (T.setTop (mkF m (pc + 1) (l') (rest))) target) : Steps tb e below (T.setTop (mkF m pc Ls Ks)) target :=
  Jvm.Free.XS.astoreN (g := mkF m pc Ls Ks) h hx hg hd hs hv hl hr
theorem zXS_bipush {tb : Tables} [Ours tb] {e : Env} {below : List Frame} {T target : State} {m : MethodId} {c : Code} {pc : Nat} {Ls : Array Slot} {Ks : List Value} (h : At T m c below) (hx : tb.exec = Jvm.exec) (hg : m = m) {i : Int} (hd : decode c.code pc = .ok (.bipush i, 2)) (hr : Steps tb e below (T.setTop (mkF m (pc + 2) (Ls) (.int (Int8.ofInt i).toInt32 :: Ks))) target) : Steps tb e below (T.setTop (mkF m pc Ls Ks)) target :=
  Jvm.Free.XS.bipush (g := mkF m pc Ls Ks) h hx hg hd hr
theorem zXS_dup {tb : Tables} [Ours tb] {e : Env} {below : List Frame} {T target : State} {m : MethodId} {c : Code} {pc : Nat} {Ls : Array Slot} {Ks : List Value} (h : At T m c below) (hx : tb.exec = Jvm.exec) (hg : m = m) {x : Value} {rest : List Value} (hd : decode c.code pc = .ok (.dup, 1)) (hs : Ks = x :: rest) (hc : x.category = 1) (hr : Steps tb e below (T.setTop (mkF m (pc + 1) (Ls) (x :: x :: rest))) target) : Steps tb e below (T.setTop (mkF m pc Ls Ks)) target :=
  Jvm.Free.XS.dup (g := mkF m pc Ls Ks) h hx hg hd hs hc hr
theorem zXS_goto {tb : Tables} [Ours tb] {e : Env} {below : List Frame} {T target : State} {m : MethodId} {c : Code} {pc : Nat} {Ls : Array Slot} {Ks : List Value} (h : At T m c below) (hx : tb.exec = Jvm.exec) (hg : m = m) {o : Int} {pc0 pc' : Nat} (hpc : pc = pc0) (hd : decode c.code pc = .ok (.goto o, 3)) (ho : 0 ≤ (pc0 : Int) + o) (hp : ((pc0 : Int) + o).toNat = pc') (hr : Steps tb e below (T.setTop (mkF m (pc') (Ls) (Ks))) target) : Steps tb e below (T.setTop (mkF m pc Ls Ks)) target :=
  Jvm.Free.XS.goto (g := mkF m pc Ls Ks) h hx hg hpc hd ho hp hr
theorem zXS_iand {tb : Tables} [Ours tb] {e : Env} {below : List Frame} {T target : State} {m : MethodId} {c : Code} {pc : Nat} {Ls : Array Slot} {Ks : List Value} (h : At T m c below) (hx : tb.exec = Jvm.exec) (hg : m = m) {x y : Int32} {rest : List Value} (hd : decode c.code pc = .ok (.iand, 1)) (hs : Ks = .int y :: .int x :: rest) (hr : Steps tb e below (T.setTop (mkF m (pc + 1) (Ls) (.int (x &&& y) :: rest))) target) : Steps tb e below (T.setTop (mkF m pc Ls Ks)) target :=
  Jvm.Free.XS.iand (g := mkF m pc Ls Ks) h hx hg hd hs hr
theorem zXS_icmpNo {tb : Tables} [Ours tb] {e : Env} {below : List Frame} {T target : State} {m : MethodId} {c : Code} {pc : Nat} {Ls : Array Slot} {Ks : List Value} (h : At T m c below) (hx : tb.exec = Jvm.exec) (hg : m = m) {cd : ClassFile.Cond} {o : Int} {x y : Int32} {rest : List Value} (hd : decode c.code pc = .ok (.if_icmp cd o, 3)) (hs : Ks = .int y :: .int x :: rest) (hc : if_icmp.holds cd x y = false) (hr : Steps tb e below (T.setTop (mkF m (pc + 3) (Ls) (rest))) target) : Steps tb e below (T.setTop (mkF m pc Ls Ks)) target :=
  Jvm.Free.XS.icmpNo (g := mkF m pc Ls Ks) h hx hg hd hs hc hr
theorem zXS_icmpYes {tb : Tables} [Ours tb] {e : Env} {below : List Frame} {T target : State} {m : MethodId} {c : Code} {pc : Nat} {Ls : Array Slot} {Ks : List Value} (h : At T m c below) (hx : tb.exec = Jvm.exec) (hg : m = m) {cd : ClassFile.Cond} {x y : Int32} {rest : List Value} {o : Int} {pc0 pc' : Nat} (hpc : pc = pc0) (hd : decode c.code pc = .ok (.if_icmp cd o, 3)) (hs : Ks = .int y :: .int x :: rest) (hc : if_icmp.holds cd x y = true) (ho : 0 ≤ (pc0 : Int) + o) (hp : ((pc0 : Int) + o).toNat = pc') (hr : Steps tb e below (T.setTop (mkF m (pc') (Ls) (rest))) target) : Steps tb e below (T.setTop (mkF m pc Ls Ks)) target :=
  Jvm.Free.XS.icmpYes (g := mkF m pc Ls Ks) h hx hg hpc hd hs hc ho hp hr
theorem zXS_iconst {tb : Tables} [Ours tb] {e : Env} {below : List Frame} {T target : State} {m : MethodId} {c : Code} {pc : Nat} {Ls : Array Slot} {Ks : List Value} (h : At T m c below) (hx : tb.exec = Jvm.exec) (hg : m = m) {i : Int} (hd : decode c.code pc = .ok (.iconst i, 1)) (hr : Steps tb e below (T.setTop (mkF m (pc + 1) (Ls) (.int (Int32.ofInt i) :: Ks))) target) : Steps tb e below (T.setTop (mkF m pc Ls Ks)) target :=
  Jvm.Free.XS.iconst (g := mkF m pc Ls Ks) h hx hg hd hr
theorem zXS_ifNo {tb : Tables} [Ours tb] {e : Env} {below : List Frame} {T target : State} {m : MethodId} {c : Code} {pc : Nat} {Ls : Array Slot} {Ks : List Value} (h : At T m c below) (hx : tb.exec = Jvm.exec) (hg : m = m) {cd : ClassFile.Cond} {o : Int} {x : Int32} {rest : List Value} (hd : decode c.code pc = .ok (.ifCond cd o, 3)) (hs : Ks = .int x :: rest) (hc : ifCond.holds cd x = false) (hr : Steps tb e below (T.setTop (mkF m (pc + 3) (Ls) (rest))) target) : Steps tb e below (T.setTop (mkF m pc Ls Ks)) target :=
  Jvm.Free.XS.ifNo (g := mkF m pc Ls Ks) h hx hg hd hs hc hr
theorem zXS_ifYes {tb : Tables} [Ours tb] {e : Env} {below : List Frame} {T target : State} {m : MethodId} {c : Code} {pc : Nat} {Ls : Array Slot} {Ks : List Value} (h : At T m c below) (hx : tb.exec = Jvm.exec) (hg : m = m) {cd : ClassFile.Cond} {x : Int32} {rest : List Value} {o : Int} {pc0 pc' : Nat} (hpc : pc = pc0) (hd : decode c.code pc = .ok (.ifCond cd o, 3)) (hs : Ks = .int x :: rest) (hc : ifCond.holds cd x = true) (ho : 0 ≤ (pc0 : Int) + o) (hp : ((pc0 : Int) + o).toNat = pc') (hr : Steps tb e below (T.setTop (mkF m (pc') (Ls) (rest))) target) : Steps tb e below (T.setTop (mkF m pc Ls Ks)) target :=
  Jvm.Free.XS.ifYes (g := mkF m pc Ls Ks) h hx hg hpc hd hs hc ho hp hr
theorem zXS_iinc {tb : Tables} [Ours tb] {e : Env} {below : List Frame} {T target : State} {m : MethodId} {c : Code} {pc : Nat} {Ls : Array Slot} {Ks : List Value} (h : At T m c below) (hx : tb.exec = Jvm.exec) (hg : m = m) {k : Nat} {cst : Int} {x : Int32} {l' : Array Slot} (hd : decode c.code pc = .ok (.iinc k cst, 3)) (hl : Ls[k]? = some (.val (.int x))) (hl' : storeLocals Ls k (.int (x + Int32.ofInt cst)) = some l') (hr : Steps tb e below (T.setTop (mkF m (pc + 3) (l') (Ks))) target) : Steps tb e below (T.setTop (mkF m pc Ls Ks)) target :=
  Jvm.Free.XS.iinc (g := mkF m pc Ls Ks) h hx hg hd hl hl' hr
theorem zXS_iloadN {tb : Tables} [Ours tb] {e : Env} {below : List Frame} {T target : State} {m : MethodId} {c : Code} {pc : Nat} {Ls : Array Slot} {Ks : List Value} (h : At T m c below) (hx : tb.exec = Jvm.exec) (hg : m = m) {k : Fin 4} {v : Int32} (hd : decode c.code pc = .ok (.iload_n k, 1)) (hl : Ls[k.val]? = some (.val (.int v))) (hr : Steps tb e below (T.setTop (mkF m (pc + 1) (Ls) (.int v :: Ks))) target) : Steps tb e below (T.setTop (mkF m pc Ls Ks)) target :=
  Jvm.Free.XS.iloadN (g := mkF m pc Ls Ks) h hx hg hd hl hr
theorem zXS_istoreN {tb : Tables} [Ours tb] {e : Env} {below : List Frame} {T target : State} {m : MethodId} {c : Code} {pc : Nat} {Ls : Array Slot} {Ks : List Value} (h : At T m c below) (hx : tb.exec = Jvm.exec) (hg : m = m) {k : Fin 4} {x : Int32} {rest : List Value} {l' : Array Slot} (hd : decode c.code pc = .ok (.istore_n k, 1)) (hs : Ks = .int x :: rest) (hl : storeLocals Ls k.val (.int x) = some l') (hr : Steps tb e below (T.setTop (mkF m (pc + 1) (l') (rest))) target) : Steps tb e below (T.setTop (mkF m pc Ls Ks)) target :=
  Jvm.Free.XS.istoreN (g := mkF m pc Ls Ks) h hx hg hd hs hl hr
theorem zXT_acmpNo {tb : Tables} [Ours tb] {e : Env} {below : List Frame} {T target : State} {m : MethodId} {c : Code} {pc : Nat} {Ls : Array Slot} {Ks : List Value} (h : At T m c below) (hx : tb.exec = Jvm.exec) (hg : m = m) {cd : ClassFile.ACond} {o : Int} {x y : Value} {rest : List Value} (hd : decode c.code pc = .ok (.if_acmp cd o, 3)) (hs : Ks = y :: x :: rest) (hx' : x.isRef = true) (hy' : y.isRef = true) (hc : Jvm.Free.XT.acmp cd x y = false) (hr : Steps tb e below (T.setTop (mkF m (pc + 3) (Ls) (rest))) target) : Steps tb e below (T.setTop (mkF m pc Ls Ks)) target :=
  Jvm.Free.XT.acmpNo (g := mkF m pc Ls Ks) h hx hg hd hs hx' hy' hc hr
theorem zRW_iremM {p : Program} {l : Launch} {e : Env} {R : Room} {s : State} {m : MethodId} {args : Array Value} {below : List Frame} {meth : Method} {c : Code} {T : State} {locs : List Loc} {cells slots : Nat} {target : State} {pc : Nat} {Ls : Array Slot} {Ks : List Value} (X : Stand p l e R s m args below meth c T locs cells slots) (hx : p.tables.exec = Jvm.exec) (hg : m = m) {x y : Int32} {rest : List Value} (hd : decode c.code pc = .ok (.irem, 1)) (hs : Ks = .int y :: .int x :: rest) (hy : y ≠ 0) (hr : Steps p.tables e below (T.setTop (mkF m (pc + 1) (Ls) (.int (x % y) :: rest))) target) : Steps p.tables e below (T.setTop (mkF m pc Ls Ks)) target :=
  iremM (g := mkF m pc Ls Ks) X hx hg hd hs hy hr
/-- addresses are told to omega as natural numbers -/
theorem own_ane {a b : Addr} (h : ¬ @Eq Nat a b) : a ≠ b := h
theorem own_anq {a b : Addr} (h : a ≠ b) : ¬ @Eq Nat a b := h
theorem own_ale {n : Nat} {a : Addr} (h : @LE.le Nat instLENat n a) : n ≤ a := h
theorem own_alt {n : Nat} {a : Addr} (h : a < n) : @LT.lt Nat instLTNat a n := h
theorem own_fr_nil {n0 : Nat} {N : List Loc} (h : Fr n0 N) : Fr n0 (N ++ []) := Fr.app h (Fr.nil n0)
abbrev Lat (c : Int32) : Prop := ¬ c < 0 ∧ ¬ (255 : Int32) < c
abbrev Wid (c : Int32) : Prop := ¬ c < 0 ∧ ¬ (65535 : Int32) < c
theorem own_c0 {P : Int32 → Prop} : ∀ x ∈ ([] : List Int32), P x := fun _ h => nomatch h
theorem own_cS {P : Int32 → Prop} {y : Int32} {L : List Int32} (q : P y) (r : ∀ x ∈ L, P x) : ∀ x ∈ y :: L, P x := List.forall_mem_cons.mpr ⟨q, r⟩
theorem own_up {cs : List Int32} (h : ∀ c ∈ cs, Lat c) : ∀ c ∈ cs, Wid c := fun c hc => ⟨(h c hc).1, fun q => (h c hc).2 (by rw [Int32.lt_iff_toInt_lt] at q ⊢; have e1 : (65535 : Int32).toInt = 65535 := rfl; have e2 : (255 : Int32).toInt = 255 := rfl; omega)⟩
theorem own_and255 (x : Int32) : (x &&& 255) = Int32.ofNat (x &&& 255).toBitVec.toNat ∧ (x &&& 255).toBitVec.toNat < 256 := by
  refine ⟨?_, ?_⟩
  · apply Int32.toBitVec_inj.mp
    show _ = BitVec.ofNat 32 _
    rw [BitVec.ofNat_toNat]; simp
  · simp only [Int32.toBitVec_and, BitVec.toNat_and]
    exact Nat.lt_succ_of_le Nat.and_le_right
theorem own_lat255 (x : Int32) : Lat (nar .char ((x &&& (255 : Int32)).toUInt32.toUInt16.toUInt32.toInt32)) := by
  have t : ∀ k : Fin 256, Lat (nar .char ((Int32.ofNat k.val).toUInt32.toUInt16.toUInt32.toInt32)) := by decide +kernel
  obtain ⟨e, h⟩ := own_and255 x
  rw [e]
  exact t ⟨_, h⟩
/-- the elements of an array that stood at the start, from place k on -/
def OwnEls (args : Array Value) (s : State) (t : Term) : Nat → List Value → Prop
  | _, [] => True
  | k, v :: r => (Term.elem t (.int (Int32.ofNat k))).eval args s none [] s = some v ∧ OwnEls args s t (k + 1) r
theorem own_nat32 {k : Nat} (h : k < 2 ^ 31) : (Int32.ofNat k).toNatClampNeg = k := by
  have e : (Int32.ofNat k).toInt = k := Int32.toInt_ofNat_small h
  simp only [Int32.toNatClampNeg, e]; rfl
theorem own_els {args : Array Value} {s : State} {t : Term} {a : Addr} {cl : Cell} (ht : t.eval args s none [] s = some (.ref a)) (hc : s.heap[a]? = some cl) : ∀ (vs : List Value) (k : Nat), k + vs.length < 2 ^ 31 → OwnEls args s t k vs → HasL cl k vs
  | [], _, _, _ => trivial
  | v :: r, k, hb, h => by
    have hk : k < 2 ^ 31 := by simp only [List.length_cons] at hb; omega
    have q := (elem_in h.1 ht (Term.int_eval _) hc).2
    rw [own_nat32 hk] at q
    exact ⟨q, own_els ht hc r (k + 1) (by simp only [List.length_cons] at hb; omega) h.2⟩
theorem own_oldArr {args : Array Value} {s : State} {t : Term} {a : Addr} {ty : FieldType} {z : Int32} {vs : List Value} {dv : Value} (hf : Fit s) (ht : t.eval args s none [] s = some (.ref a)) (hA : (Cond.arrayOf t ty).value args s none s [] = some true)
    (hL : (Term.length t).eval args s none [] s = some (.int z)) (hz : ¬ z < 0) (hl : z.toNatClampNeg = vs.length) (hb : vs.length < 2 ^ 31) (hE : OwnEls args s t 0 vs) : ∃ k, Arv s s.heap a k ty z vs dv := by
  obtain ⟨c, A⟩ := Arr.start ht hA
  obtain ⟨x, c', e1, h1, -⟩ := Term.length_spec hL
  cases ht.symm.trans e1
  have h2 := A.fin (Vm.Alike.refl _)
  cases h1.symm.trans h2
  have h31 := SBG.length_lt ht h1 hL
  have e : c.slots.size.toInt32 = z := by
    have q : (Term.length t).eval args s none [] s = some (.int (Int32.ofNat c.slots.size)) := by simp [Term.eval, ht, h1, h31]
    have q2 := Option.some.inj (q.symm.trans hL)
    exact Value.int.inj q2
  exact ⟨c.cls, Arv.start hf A h31 e hz hl (own_els ht A.1 vs 0 (by omega) hE)⟩
theorem own_eqI {args : Array Value} {s : State} {t : Term} {z : Int32} (h : (Cond.eq t (.int z)).value args s none s [] = some true) : t.eval args s none [] s = some (.int z) := Cond.eq_int (Cond.before_iff.mpr h) rfl
theorem own_eqR {args : Array Value} {s : State} {t u : Term} {a : Addr} (hu : u.eval args s none [] s = some (.ref a)) (h : (Cond.eq t u).value args s none s [] = some true) : t.eval args s none [] s = some (.ref a) := by
  obtain ⟨x, y, h1, h2, k1, k2⟩ := cmp_v (Or.inl h)
  cases hu.symm.trans h2
  have hx : x.isRef = true := by cases x <;> simp [Kin, Value.isRef] at k1 ⊢
  have q := gotT (eq_R h1 h2 hx rfl) h
  rw [h1, q]

set_option maxRecDepth 65536 in
theorem own_hws : ∀ d ∈ StrChars.Road.words, d ∈ tables_1 := by decide +kernel
set_option maxRecDepth 65536 in
theorem own_heq : ∀ d ∈ StrChars.Road.wordsEq, d ∈ tables_1 := by decide +kernel
def Qvals (Z : State) (ar : Addr) (ka : ClassId) (c0 : Addr) (c1 : Addr) (c2 : Addr) (h0 : Heap) (n0 : Nat) (v : Option Value) (h : Heap) (L : List Loc) : Prop := ∃ (b : Addr), v = some (.ref b) ∧ Fr n0 L ∧ Keep h0 h [] ∧ (@LE.le Nat instLENat n0 b) ∧ (@LE.le Nat instLENat h0.size b) ∧ (Exa Z h b "[Lcom/example/concordat/concordat/vo/Vo$Phase;") ∧ (Arv Z h b ka (.object "com/example/concordat/concordat/vo/Vo$Phase") (3 : Int32) ([(.ref c0), (.ref c1), (.ref c2)]) .null)
theorem pn_0 : plainName "com/example/concordat/concordat/vo/Vo$Phase" = true := by first | (simp [plainName, overriddenIn]; done) | decide +kernel
theorem ef_vals (m : MethodId)  : entryFrame m #[] 0 = mkF m 0 #[] [] := by first | (simp [entryFrame, mkF, argsToLocals, Value.category]; done) | rfl
theorem d8_0 : decode prog_65_method_1_code 0 = .ok (.getstatic 13, 3) := by decide +kernel
theorem d8_3 : decode prog_65_method_1_code 3 = .ok (.invokevirtual 17, 3) := by decide +kernel
theorem d8_6 : decode prog_65_method_1_code 6 = .ok (.checkcast 18, 3) := by decide +kernel
theorem d8_9 : decode prog_65_method_1_code 9 = .ok (.areturn, 1) := by decide +kernel
set_option maxRecDepth 65536 in
set_option maxHeartbeats 40000000 in
theorem vals (l : Launch) (Z : State) (a0 : Array Value) (hw : ∀ d ∈ tables_1, d.before a0 Z = true) (ws : List Jvm.Cond) (ar : Addr) (ka : ClassId) (c0 : Addr) (c1 : Addr) (c2 : Addr) (h0 : Heap) (n0 : Nat) (Z0 : n0 ≤ h0.size) (q0 : Old Z n0 h0) (q1 : Sta Z Z.heap "com/example/concordat/concordat/vo/Vo$Phase" "$VALUES" "[Lcom/example/concordat/concordat/vo/Vo$Phase;" (.ref ar)) (q2 : Arv Z Z.heap ar ka (.object "com/example/concordat/concordat/vo/Vo$Phase") (3 : Int32) ([(.ref c0), (.ref c1), (.ref c2)]) .null) (q3 : Exa Z Z.heap ar "[Lcom/example/concordat/concordat/vo/Vo$Phase;") :
    MetFree l (⟨"com/example/concordat/concordat/vo/Vo$Phase", "values", "()[Lcom/example/concordat/concordat/vo/Vo$Phase;"⟩ : MethodName) (head1 (Jvm.Cond.code (⟨"com/example/concordat/concordat/vo/Vo$Phase", "values", "()[Lcom/example/concordat/concordat/vo/Vo$Phase;"⟩ : MethodName) prog_65_method_1_code 0 (some (.array (.object "com/example/concordat/concordat/vo/Vo$Phase"))) :: ws) ({ frames := 1, cells := 1, slots := 3, locals := 14 } : Room)) (fun a_ U_ => a_ = #[] ∧ Z.Warmed39 U_.vm ∧ U_.heap = h0) (fun _ _ _ _ _ => True) (fun _ U_ o_ V_ => ∃ v_ L_, o_ = .returned v_ ∧ Qvals Z ar ka c0 c1 c2 h0 n0 v_ V_.heap L_ ∧ FrameEnd U_ o_ V_ L_ ({ frames := 1, cells := 1, slots := 3, locals := 14 } : Room).cells ({ frames := 1, cells := 1, slots := 3, locals := 14 } : Room).slots) := by
  refine MetFree.of_bodySF (plainFor_of_name pn_0) hisR ?_
  intro p e s m args below meth c s₁ Bd hml0 hP hK
  obtain ⟨rfl, hZ, hh⟩ := hP
  have hx := Bd.exec
  have hby := Bd.bytes
  have hml : c.maxLocals = 0 := hml0
  have hown : s.vm.findClass "com/example/concordat/concordat/vo/Vo$Phase" = some m.cls := findClass_of_methodNamed Bd.named
  have hnm := (name_of_methodNamed Bd.named Bd.method).1
  have X0 : Stand p l e ({ frames := 1, cells := 1, slots := 3, locals := 14 } : Room) s m #[] below meth c s₁ [] 0 0 := Stand.of_body Bd
  have e0 : s₁.heap = h0 := by rw [← hh, Bd.state]; rfl
  have N0 := Fr.nil n0
  have zo := q0.1
  have lt1 := own_alt q2.lt
  have lt2 := own_alt q3.lt
  refine Gl.go (A := s₁.setTop (entryFrame m #[] 0)) (P := fun o_ U_ => ∃ v_ L_, o_ = .returned v_ ∧ Qvals Z ar ka c0 c1 c2 h0 n0 v_ U_.heap L_ ∧ FrameEnd s o_ U_ L_ ({ frames := 1, cells := 1, slots := 3, locals := 14 } : Room).cells ({ frames := 1, cells := 1, slots := 3, locals := 14 } : Room).slots) (fun t k => castTop (ef_vals m ) k) ?_
  show Gl p.tables e below _ (s₁.setTop (mkF m 0 #[] []))
  refine gGetS (host := "") Gl.cl X0 hx hZ hown (Or.inl (hw _ (List.mem_of_getElem? (i := 40) rfl))) Via.refl e0 (q1.ext q0.2) rfl (hb hby d8_0) ?_
  intro T3 X3 e3
  obtain ⟨T4, h4, X4, e4, E4, V4, A4, st4⟩ := cloneH X3 hx hZ hown (hw _ (List.mem_of_getElem? (i := 42) rfl)) (hw _ (List.mem_of_getElem? (i := 43) rfl)) (hw _ (List.mem_of_getElem? (i := 47) rfl)) (hw _ (List.mem_of_getElem? (i := 45) rfl)) (hw _ (List.mem_of_getElem? (i := 46) rfl)) (hw _ (List.mem_of_getElem? (i := 48) rfl)) e3 (Arv.arh (q2.ext q0.2)) (q3.ext q0.2) (g := (mkF m 3 #[] [(.ref ar)])) rfl (by rw [hml]; rfl) rfl (hb hby d8_3) (by decide) (W := 0) (cap := 3) (by show 2 * 0 + _ ≤ _; exact Nat.le_of_eq rfl) (by decide) (by decide) (by decide) (by decide)
  obtain ⟨b4, g4⟩ : ∃ z, z = h0.size := ⟨_, rfl⟩
  rw [← g4] at V4 A4 st4
  have z5 : h0.size ≤ h4.size := E4.1
  have lt4 := own_alt A4.lt
  have Va4 : Arv Z h4 b4 ka (.object "com/example/concordat/concordat/vo/Vo$Phase") (3 : Int32) [(.ref c0), (.ref c1), (.ref c2)] .null := V4
  refine Gl.go st4 ?_
  show Gl p.tables e below _ (T4.setTop (mkF m 6 #[] [(.ref b4)]))
  refine gCast Gl.cl X4 hx hZ hown (hw _ (List.mem_of_getElem? (i := 52) rfl)) e4 (Ins.self A4) rfl rfl (hb hby d8_6) ?_
  intro T6 X6 e6
  obtain ⟨fs, hr, hrun, hended, hW, hsame⟩ := X6.leave (v := some (.ref b4)) (fun h => by rw [Bd.returns] at h; cases h)
  refine ⟨_, _, retOut X6 hx Bd.returns rfl (Or.inr (Or.inr (Or.inr (Or.inr ⟨rfl, rfl, rfl⟩)))) (hb hby d8_9) hr, hrun, hended, _, _, rfl, ?_, ⟨⟨_, rfl⟩, hW, hsame.mono (by decide) (by decide)⟩⟩
  show Qvals Z ar ka c0 c1 c2 h0 n0 _ T6.heap _
  rw [e6]
  exact ⟨b4, rfl, N0, ((Keep.refl h0 []).ext E4), (by omega), (by omega), A4, Va4⟩
def Qlab (Z : State) (a : Addr) (r : Addr) (h0 : Heap) (n0 : Nat) (v : Option Value) (h : Heap) (L : List Loc) : Prop := v = some (.ref r) ∧ Fr n0 L ∧ h = h0
theorem ef_lab (m : MethodId) (x0 : Addr) : entryFrame m #[(.ref x0)] 1 = mkF m 0 #[.val (.ref x0)] [] := by first | (simp [entryFrame, mkF, argsToLocals, Value.category]; done) | rfl
theorem d11_0 : decode prog_65_method_4_code 0 = .ok (.aload_n 0, 1) := by decide +kernel
theorem d11_1 : decode prog_65_method_4_code 1 = .ok (.getfield 32, 3) := by decide +kernel
theorem d11_4 : decode prog_65_method_4_code 4 = .ok (.areturn, 1) := by decide +kernel
set_option maxRecDepth 65536 in
set_option maxHeartbeats 40000000 in
theorem lab (l : Launch) (Z : State) (a0 : Array Value) (hw : ∀ d ∈ tables_1, d.before a0 Z = true) (ws : List Jvm.Cond) (a : Addr) (r : Addr) (h0 : Heap) (n0 : Nat) (Z0 : n0 ≤ h0.size) (q0 : Fld Z h0 a "com/example/concordat/concordat/vo/Vo$Phase" "label" "Ljava/lang/String;" (.ref r)) :
    MetFree l (⟨"com/example/concordat/concordat/vo/Vo$Phase", "label", "()Ljava/lang/String;"⟩ : MethodName) (head1 (Jvm.Cond.code (⟨"com/example/concordat/concordat/vo/Vo$Phase", "label", "()Ljava/lang/String;"⟩ : MethodName) prog_65_method_4_code 1 (some (.object "java/lang/String")) :: ws) ({ frames := 0, cells := 0, slots := 0, locals := 0 } : Room)) (fun a_ U_ => a_ = #[(.ref a)] ∧ Z.Warmed39 U_.vm ∧ U_.heap = h0) (fun _ _ _ _ _ => True) (fun _ U_ o_ V_ => ∃ v_ L_, o_ = .returned v_ ∧ Qlab Z a r h0 n0 v_ V_.heap L_ ∧ FrameEnd U_ o_ V_ L_ ({ frames := 0, cells := 0, slots := 0, locals := 0 } : Room).cells ({ frames := 0, cells := 0, slots := 0, locals := 0 } : Room).slots) := by
  refine MetFree.of_bodySF (plainFor_of_name pn_0) hisR ?_
  intro p e s m args below meth c s₁ Bd hml0 hP hK
  obtain ⟨rfl, hZ, hh⟩ := hP
  have hx := Bd.exec
  have hby := Bd.bytes
  have hml : c.maxLocals = 1 := hml0
  have hown : s.vm.findClass "com/example/concordat/concordat/vo/Vo$Phase" = some m.cls := findClass_of_methodNamed Bd.named
  have hnm := (name_of_methodNamed Bd.named Bd.method).1
  have X0 : Stand p l e ({ frames := 0, cells := 0, slots := 0, locals := 0 } : Room) s m #[(.ref a)] below meth c s₁ [] 0 0 := Stand.of_body Bd
  have e0 : s₁.heap = h0 := by rw [← hh, Bd.state]; rfl
  have N0 := Fr.nil n0
  have lt7 := own_alt q0.lt
  refine Gl.go (A := s₁.setTop (entryFrame m #[(.ref a)] 1)) (P := fun o_ U_ => ∃ v_ L_, o_ = .returned v_ ∧ Qlab Z a r h0 n0 v_ U_.heap L_ ∧ FrameEnd s o_ U_ L_ ({ frames := 0, cells := 0, slots := 0, locals := 0 } : Room).cells ({ frames := 0, cells := 0, slots := 0, locals := 0 } : Room).slots) (fun t k => castTop (ef_lab m a) k) ?_
  show Gl p.tables e below _ (s₁.setTop (mkF m 0 #[.val (.ref a)] []))
  refine Gl.go (fun _ hr => zXS_aloadN X0.here hx rfl (hb hby d11_0) rfl rfl hr) ?_
  refine gGetF (host := "") Gl.cl X0 hx hZ hown (Or.inl (hw _ (List.mem_of_getElem? (i := 54) rfl))) Via.refl e0 q0 rfl rfl (hb hby d11_1) ?_
  intro T8 X8 e8
  obtain ⟨fs, hr, hrun, hended, hW, hsame⟩ := X8.leave (v := some (.ref r)) (fun h => by rw [Bd.returns] at h; cases h)
  refine ⟨_, _, retOut X8 hx Bd.returns rfl (Or.inr (Or.inr (Or.inr (Or.inr ⟨rfl, rfl, rfl⟩)))) (hb hby d11_4) hr, hrun, hended, _, _, rfl, ?_, ⟨⟨_, rfl⟩, hW, hsame.mono (by decide) (by decide)⟩⟩
  show Qlab Z a r h0 n0 _ T8.heap _
  rw [e8]
  exact ⟨rfl, N0, rfl⟩
def Qof0 (Z : State) (x : Addr) (t : Addr) (kb : ClassId) (G1 : Int32) (ar : Addr) (ka : ClassId) (c0 : Addr) (c1 : Addr) (c2 : Addr) (l0 : Addr) (t0 : Addr) (kb0 : ClassId) (l1 : Addr) (t1 : Addr) (kb1 : ClassId) (l2 : Addr) (t2 : Addr) (kb2 : ClassId) (h0 : Heap) (n0 : Nat) (v : Option Value) (h : Heap) (L : List Loc) : Prop := v = some (.ref c0) ∧ Fr n0 L ∧ Keep h0 h []
theorem ef_of0 (m : MethodId) (x0 : Addr) : entryFrame m #[(.ref x0)] 5 = mkF m 0 #[.val (.ref x0), .unset, .unset, .unset, .unset] [] := by first | (simp [entryFrame, mkF, argsToLocals, Value.category]; done) | rfl
theorem d7_0 : decode prog_65_method_5_code 0 = .ok (.invokestatic 36, 3) := by decide +kernel
theorem pd_0 : parseMethodDescriptor "()[Lcom/example/concordat/concordat/vo/Vo$Phase;" = some ⟨[], some (.array (.object "com/example/concordat/concordat/vo/Vo$Phase"))⟩ := by decide +kernel
theorem d7_3 : decode prog_65_method_5_code 3 = .ok (.astore_n 1, 1) := by decide +kernel
theorem d7_4 : decode prog_65_method_5_code 4 = .ok (.aload_n 1, 1) := by decide +kernel
theorem d7_5 : decode prog_65_method_5_code 5 = .ok (.arraylength, 1) := by decide +kernel
theorem d7_6 : decode prog_65_method_5_code 6 = .ok (.istore_n 2, 1) := by decide +kernel
theorem d7_7 : decode prog_65_method_5_code 7 = .ok (.iconst 0, 1) := by decide +kernel
theorem d7_8 : decode prog_65_method_5_code 8 = .ok (.istore_n 3, 1) := by decide +kernel
theorem d7_9 : decode prog_65_method_5_code 9 = .ok (.iload_n 3, 1) := by decide +kernel
theorem d7_10 : decode prog_65_method_5_code 10 = .ok (.iload_n 2, 1) := by decide +kernel
theorem d7_11 : decode prog_65_method_5_code 11 = .ok (.if_icmp .ge 29, 3) := by decide +kernel
theorem d7_14 : decode prog_65_method_5_code 14 = .ok (.aload_n 1, 1) := by decide +kernel
theorem d7_15 : decode prog_65_method_5_code 15 = .ok (.iload_n 3, 1) := by decide +kernel
theorem d7_16 : decode prog_65_method_5_code 16 = .ok (.aaload, 1) := by decide +kernel
theorem d7_17 : decode prog_65_method_5_code 17 = .ok (.astore 4, 2) := by decide +kernel
theorem d7_19 : decode prog_65_method_5_code 19 = .ok (.aload 4, 2) := by decide +kernel
theorem d7_21 : decode prog_65_method_5_code 21 = .ok (.getfield 32, 3) := by decide +kernel
theorem d7_24 : decode prog_65_method_5_code 24 = .ok (.aload_n 0, 1) := by decide +kernel
theorem d7_25 : decode prog_65_method_5_code 25 = .ok (.invokevirtual 40, 3) := by decide +kernel
theorem pd_1 : parseMethodDescriptor "(Ljava/lang/Object;)Z" = some ⟨[(.object "java/lang/Object")], some .boolean⟩ := by decide +kernel
theorem d7_28 : decode prog_65_method_5_code 28 = .ok (.ifCond .eq 6, 3) := by decide +kernel
theorem d7_31 : decode prog_65_method_5_code 31 = .ok (.aload 4, 2) := by decide +kernel
theorem d7_33 : decode prog_65_method_5_code 33 = .ok (.areturn, 1) := by decide +kernel
set_option maxRecDepth 65536 in
set_option maxHeartbeats 40000000 in
theorem of0 (l : Launch) (Z : State) (a0 : Array Value) (hw : ∀ d ∈ tables_1, d.before a0 Z = true) (ws : List Jvm.Cond) (x : Addr) (t : Addr) (kb : ClassId) (G1 : Int32) (ar : Addr) (ka : ClassId) (c0 : Addr) (c1 : Addr) (c2 : Addr) (l0 : Addr) (t0 : Addr) (kb0 : ClassId) (l1 : Addr) (t1 : Addr) (kb1 : ClassId) (l2 : Addr) (t2 : Addr) (kb2 : ClassId) (h0 : Heap) (n0 : Nat) (Z0 : n0 ≤ h0.size) (q0 : Sta Z Z.heap "java/lang/String" "COMPACT_STRINGS" "Z" (.int G1)) (P5 : ¬ (G1 = (0 : Int32))) (q2 : Old Z n0 h0) (q3 : Exa Z h0 x "java/lang/String") (q4 : Fld Z h0 x "java/lang/String" "value" "[B" (.ref t)) (q5 : Fld Z h0 x "java/lang/String" "coder" "B" (.int (0 : Int32))) (q6 : Arv Z h0 t kb .byte (8 : Int32) ((([(98 : Int32), (117 : Int32), (105 : Int32), (108 : Int32), (100 : Int32), (105 : Int32), (110 : Int32), (103 : Int32)] : List Int32).map (fun c => c.toInt8.toInt32)).map Value.int) (.int 0)) (q7 : Sta Z Z.heap "com/example/concordat/concordat/vo/Vo$Phase" "$VALUES" "[Lcom/example/concordat/concordat/vo/Vo$Phase;" (.ref ar)) (q8 : Arv Z Z.heap ar ka (.object "com/example/concordat/concordat/vo/Vo$Phase") (3 : Int32) ([(.ref c0), (.ref c1), (.ref c2)]) .null) (q9 : Exa Z Z.heap ar "[Lcom/example/concordat/concordat/vo/Vo$Phase;") (q10 : Exa Z Z.heap c0 "com/example/concordat/concordat/vo/Vo$Phase") (q11 : Fld Z Z.heap c0 "com/example/concordat/concordat/vo/Vo$Phase" "label" "Ljava/lang/String;" (.ref l0)) (q12 : Exa Z Z.heap l0 "java/lang/String") (q13 : Fld Z Z.heap l0 "java/lang/String" "value" "[B" (.ref t0)) (q14 : Fld Z Z.heap l0 "java/lang/String" "coder" "B" (.int (0 : Int32))) (q15 : Arv Z Z.heap t0 kb0 .byte (8 : Int32) ((([(98 : Int32), (117 : Int32), (105 : Int32), (108 : Int32), (100 : Int32), (105 : Int32), (110 : Int32), (103 : Int32)] : List Int32).map (fun c => c.toInt8.toInt32)).map Value.int) (.int 0)) (q16 : Exa Z Z.heap c1 "com/example/concordat/concordat/vo/Vo$Phase") (q17 : Fld Z Z.heap c1 "com/example/concordat/concordat/vo/Vo$Phase" "label" "Ljava/lang/String;" (.ref l1)) (q18 : Exa Z Z.heap l1 "java/lang/String") (q19 : Fld Z Z.heap l1 "java/lang/String" "value" "[B" (.ref t1)) (q20 : Fld Z Z.heap l1 "java/lang/String" "coder" "B" (.int (0 : Int32))) (q21 : Arv Z Z.heap t1 kb1 .byte (9 : Int32) ((([(111 : Int32), (112 : Int32), (101 : Int32), (114 : Int32), (97 : Int32), (116 : Int32), (105 : Int32), (110 : Int32), (103 : Int32)] : List Int32).map (fun c => c.toInt8.toInt32)).map Value.int) (.int 0)) (q22 : Exa Z Z.heap c2 "com/example/concordat/concordat/vo/Vo$Phase") (q23 : Fld Z Z.heap c2 "com/example/concordat/concordat/vo/Vo$Phase" "label" "Ljava/lang/String;" (.ref l2)) (q24 : Exa Z Z.heap l2 "java/lang/String") (q25 : Fld Z Z.heap l2 "java/lang/String" "value" "[B" (.ref t2)) (q26 : Fld Z Z.heap l2 "java/lang/String" "coder" "B" (.int (0 : Int32))) (q27 : Arv Z Z.heap t2 kb2 .byte (9 : Int32) ((([(119 : Int32), (105 : Int32), (116 : Int32), (104 : Int32), (100 : Int32), (114 : Int32), (97 : Int32), (119 : Int32), (110 : Int32)] : List Int32).map (fun c => c.toInt8.toInt32)).map Value.int) (.int 0)) :
    MetFree l (⟨"com/example/concordat/concordat/vo/Vo$Phase", "of", "(Ljava/lang/String;)Lcom/example/concordat/concordat/vo/Vo$Phase;"⟩ : MethodName) (head1 (Jvm.Cond.code (⟨"com/example/concordat/concordat/vo/Vo$Phase", "of", "(Ljava/lang/String;)Lcom/example/concordat/concordat/vo/Vo$Phase;"⟩ : MethodName) prog_65_method_5_code 5 (some (.object "com/example/concordat/concordat/vo/Vo$Phase")) :: ws) ({ frames := 2, cells := 1, slots := 3, locals := 28 } : Room)) (fun a_ U_ => a_ = #[(.ref x)] ∧ Z.Warmed39 U_.vm ∧ U_.heap = h0) (fun _ _ _ _ _ => True) (fun _ U_ o_ V_ => ∃ v_ L_, o_ = .returned v_ ∧ Qof0 Z x t kb G1 ar ka c0 c1 c2 l0 t0 kb0 l1 t1 kb1 l2 t2 kb2 h0 n0 v_ V_.heap L_ ∧ FrameEnd U_ o_ V_ L_ ({ frames := 2, cells := 1, slots := 3, locals := 28 } : Room).cells ({ frames := 2, cells := 1, slots := 3, locals := 28 } : Room).slots) := by
  refine MetFree.of_bodySF (plainFor_of_name pn_0) hisR ?_
  intro p e s m args below meth c s₁ Bd hml0 hP hK
  obtain ⟨rfl, hZ, hh⟩ := hP
  have hx := Bd.exec
  have hby := Bd.bytes
  have hml : c.maxLocals = 5 := hml0
  have hown : s.vm.findClass "com/example/concordat/concordat/vo/Vo$Phase" = some m.cls := findClass_of_methodNamed Bd.named
  have hnm := (name_of_methodNamed Bd.named Bd.method).1
  have X0 : Stand p l e ({ frames := 2, cells := 1, slots := 3, locals := 28 } : Room) s m #[(.ref x)] below meth c s₁ [] 0 0 := Stand.of_body Bd
  have e0 : s₁.heap = h0 := by rw [← hh, Bd.state]; rfl
  have N0 := Fr.nil n0
  have zo := q2.1
  have lt9 := own_alt q3.lt
  have lt10 := own_alt q4.lt
  have lt11 := own_alt q5.lt
  have lt12 := own_alt q6.lt
  have lt13 := own_alt q8.lt
  have lt14 := own_alt q9.lt
  have lt15 := own_alt q10.lt
  have lt16 := own_alt q11.lt
  have lt17 := own_alt q12.lt
  have lt18 := own_alt q13.lt
  have lt19 := own_alt q14.lt
  have lt20 := own_alt q15.lt
  have lt21 := own_alt q16.lt
  have lt22 := own_alt q17.lt
  have lt23 := own_alt q18.lt
  have lt24 := own_alt q19.lt
  have lt25 := own_alt q20.lt
  have lt26 := own_alt q21.lt
  have lt27 := own_alt q22.lt
  have lt28 := own_alt q23.lt
  have lt29 := own_alt q24.lt
  have lt30 := own_alt q25.lt
  have lt31 := own_alt q26.lt
  have lt32 := own_alt q27.lt
  have heq : ∀ d ∈ StrChars.Road.wordsEq, d.before a0 Z = true := fun d hd => hw d (own_heq d hd)
  have hp33 : ∀ c ∈ ([(98 : Int32), (117 : Int32), (105 : Int32), (108 : Int32), (100 : Int32), (105 : Int32), (110 : Int32), (103 : Int32)] : List Int32), Lat c := by decide
  have hcd33 : StrChars.Road.CodA ([(98 : Int32), (117 : Int32), (105 : Int32), (108 : Int32), (100 : Int32), (105 : Int32), (110 : Int32), (103 : Int32)] : List Int32) 0 (8 : Int32) ((([(98 : Int32), (117 : Int32), (105 : Int32), (108 : Int32), (100 : Int32), (105 : Int32), (110 : Int32), (103 : Int32)] : List Int32).map (fun c => c.toInt8.toInt32)).map Value.int) := StrChars.Road.codOf (n := 8) rfl (fun c hc => (hp33 c hc).2)
  have hbd33 : ∀ c ∈ ([(98 : Int32), (117 : Int32), (105 : Int32), (108 : Int32), (100 : Int32), (105 : Int32), (110 : Int32), (103 : Int32)] : List Int32), Wid c := own_up hp33
  have hp34 : ∀ c ∈ ([(111 : Int32), (112 : Int32), (101 : Int32), (114 : Int32), (97 : Int32), (116 : Int32), (105 : Int32), (110 : Int32), (103 : Int32)] : List Int32), Lat c := by decide
  have hcd34 : StrChars.Road.CodA ([(111 : Int32), (112 : Int32), (101 : Int32), (114 : Int32), (97 : Int32), (116 : Int32), (105 : Int32), (110 : Int32), (103 : Int32)] : List Int32) 0 (9 : Int32) ((([(111 : Int32), (112 : Int32), (101 : Int32), (114 : Int32), (97 : Int32), (116 : Int32), (105 : Int32), (110 : Int32), (103 : Int32)] : List Int32).map (fun c => c.toInt8.toInt32)).map Value.int) := StrChars.Road.codOf (n := 9) rfl (fun c hc => (hp34 c hc).2)
  have hbd34 : ∀ c ∈ ([(111 : Int32), (112 : Int32), (101 : Int32), (114 : Int32), (97 : Int32), (116 : Int32), (105 : Int32), (110 : Int32), (103 : Int32)] : List Int32), Wid c := own_up hp34
  have hp35 : ∀ c ∈ ([(119 : Int32), (105 : Int32), (116 : Int32), (104 : Int32), (100 : Int32), (114 : Int32), (97 : Int32), (119 : Int32), (110 : Int32)] : List Int32), Lat c := by decide
  have hcd35 : StrChars.Road.CodA ([(119 : Int32), (105 : Int32), (116 : Int32), (104 : Int32), (100 : Int32), (114 : Int32), (97 : Int32), (119 : Int32), (110 : Int32)] : List Int32) 0 (9 : Int32) ((([(119 : Int32), (105 : Int32), (116 : Int32), (104 : Int32), (100 : Int32), (114 : Int32), (97 : Int32), (119 : Int32), (110 : Int32)] : List Int32).map (fun c => c.toInt8.toInt32)).map Value.int) := StrChars.Road.codOf (n := 9) rfl (fun c hc => (hp35 c hc).2)
  have hbd35 : ∀ c ∈ ([(119 : Int32), (105 : Int32), (116 : Int32), (104 : Int32), (100 : Int32), (114 : Int32), (97 : Int32), (119 : Int32), (110 : Int32)] : List Int32), Wid c := own_up hp35
  have hp36 : ∀ c ∈ ([(98 : Int32), (117 : Int32), (105 : Int32), (108 : Int32), (100 : Int32), (105 : Int32), (110 : Int32), (103 : Int32)] : List Int32), Lat c := by decide
  have hcd36 : StrChars.Road.CodA ([(98 : Int32), (117 : Int32), (105 : Int32), (108 : Int32), (100 : Int32), (105 : Int32), (110 : Int32), (103 : Int32)] : List Int32) 0 (8 : Int32) ((([(98 : Int32), (117 : Int32), (105 : Int32), (108 : Int32), (100 : Int32), (105 : Int32), (110 : Int32), (103 : Int32)] : List Int32).map (fun c => c.toInt8.toInt32)).map Value.int) := StrChars.Road.codOf (n := 8) rfl (fun c hc => (hp36 c hc).2)
  have hbd36 : ∀ c ∈ ([(98 : Int32), (117 : Int32), (105 : Int32), (108 : Int32), (100 : Int32), (105 : Int32), (110 : Int32), (103 : Int32)] : List Int32), Wid c := own_up hp36
  refine Gl.go (A := s₁.setTop (entryFrame m #[(.ref x)] 5)) (P := fun o_ U_ => ∃ v_ L_, o_ = .returned v_ ∧ Qof0 Z x t kb G1 ar ka c0 c1 c2 l0 t0 kb0 l1 t1 kb1 l2 t2 kb2 h0 n0 v_ U_.heap L_ ∧ FrameEnd s o_ U_ L_ ({ frames := 2, cells := 1, slots := 3, locals := 28 } : Room).cells ({ frames := 2, cells := 1, slots := 3, locals := 28 } : Room).slots) (fun t k => castTop (ef_of0 m x) k) ?_
  show Gl p.tables e below _ (s₁.setTop (mkF m 0 #[.val (.ref x), .unset, .unset, .unset, .unset] []))
  have zz37 : n0 ≤ h0.size := by omega
  refine gStaticN Gl.cl (y := (⟨"com/example/concordat/concordat/vo/Vo$Phase", "values", "()[Lcom/example/concordat/concordat/vo/Vo$Phase;"⟩ : MethodName)) (argsL := []) (rest := []) (mc := 1) (ms := 3) X0 hx hZ hown (mvT hZ (hw _ (List.mem_of_getElem? (i := 37) rfl))) (mvT hZ (hw _ (List.mem_of_getElem? (i := 38) rfl))) (mvT hZ (hw _ (List.mem_of_getElem? (i := 2) rfl))) (mvT hZ (hw _ (List.mem_of_getElem? (i := 39) rfl))) (by decide) (backOf (W := 0) (vals l Z a0 hw [] ar ka c0 c1 c2 h0 n0 zz37 q2 q7 q8 q9) hZ (hw _ (List.mem_of_getElem? (i := 39) rfl)) (hw _ (List.mem_of_getElem? (i := 2) rfl)) (by decide) (by decide)) rfl (by rw [hml]; rfl) (lenOf pd_0 rfl) rfl (by show 2 * 0 + _ ≤ _; exact Nat.le_of_eq rfl) (hb hby d7_0) rfl e0 (by decide) (by decide) ?_
  intro v37 T37 Lc37 hQ37 X37
  obtain ⟨b_37, rfl, Nq37, K37, f37_0, f37_1, f37_2, f37_3⟩ := hQ37
  have z38 : h0.size ≤ T37.heap.size := K37.1
  have N37 := Fr.app N0 Nq37
  have lt39 := own_alt f37_2.lt
  have lt40 := own_alt f37_3.lt
  refine Gl.go (fun _ hr => zXS_astoreN X37.here hx rfl (hb hby d7_3) rfl rfl (l' := #[.val (.ref x), .val (.ref b_37), .unset, .unset, .unset]) rfl (zXS_aloadN X37.here hx rfl (hb hby d7_4) rfl rfl hr)) ?_
  obtain ⟨c41, a41, q41, s41, m41, H41, U41⟩ := id f37_3
  refine gLen Gl.cl X37 hx hZ (rfl : T37.heap = T37.heap) a41 s41 m41 rfl rfl (hb hby d7_5) ?_
  refine Gl.go (fun _ hr => zXS_istoreN X37.here hx rfl (hb hby d7_6) rfl (l' := #[.val (.ref x), .val (.ref b_37), .val (.int (3 : Int32)), .unset, .unset]) rfl (zXS_iconst X37.here hx rfl (hb hby d7_7) (zXS_istoreN X37.here hx rfl (hb hby d7_8) rfl (l' := #[.val (.ref x), .val (.ref b_37), .val (.int (3 : Int32)), .val (.int (0 : Int32)), .unset]) rfl (zXS_iloadN X37.here hx rfl (hb hby d7_9) rfl (zXS_iloadN X37.here hx rfl (hb hby d7_10) rfl (zXS_icmpNo X37.here hx rfl (hb hby d7_11) rfl (XT.ii_ge_f (by decide)) (zXS_aloadN X37.here hx rfl (hb hby d7_14) rfl rfl (zXS_iloadN X37.here hx rfl (hb hby d7_15) rfl hr)))))))) ?_
  obtain ⟨c42, a42, q42, s42, m42, H42, U42⟩ := id f37_3
  have i42 := inb_of s42 (j := (0 : Int32)) ⟨(by decide), (by decide)⟩
  refine g_aaload Gl.cl X37 hx hZ (rfl : T37.heap = T37.heap) a42 rfl i42 (v := (.ref c0)) (H42.at i42 rfl) rfl rfl (hb hby d7_16) ?_
  refine Gl.go (fun _ hr => zXS_astore X37.here hx rfl (hb hby d7_17) rfl rfl (l' := #[.val (.ref x), .val (.ref b_37), .val (.int (3 : Int32)), .val (.int (0 : Int32)), .val (.ref c0)]) rfl (zXS_aload X37.here hx rfl (hb hby d7_19) rfl rfl hr)) ?_
  have Oc43 := (q2.keep K37 all0)
  refine gGetF (host := "") Gl.cl X37 hx hZ hown (Or.inl (hw _ (List.mem_of_getElem? (i := 54) rfl))) Via.refl (rfl : T37.heap = T37.heap) (q11.ext Oc43.2) rfl rfl (hb hby d7_21) ?_
  intro T44 X44 e44
  refine Gl.go (fun _ hr => zXS_aloadN X44.here hx rfl (hb hby d7_24) rfl rfl hr) ?_
  have Ec46 := (q3.keep K37)
  have Fc47 := (q4.keep K37 nin0)
  have Fc48 := (q5.keep K37 nin0)
  have Vc49 := (q6.keep K37 nin0)
  refine gVirtualN Gl.cl (y := (⟨"java/lang/String", "equals", "(Ljava/lang/Object;)Z"⟩ : MethodName)) (z := (⟨"java/lang/String", "equals", "(Ljava/lang/Object;)Z"⟩ : MethodName)) (b := l0) (argsL := [(.ref x)]) (rest := []) (mc := 0) (ms := 0) (Q := fun v h' L => ((v = some (.int 1) ∧ ([(98 : Int32), (117 : Int32), (105 : Int32), (108 : Int32), (100 : Int32), (105 : Int32), (110 : Int32), (103 : Int32)] : List Int32) = ([(98 : Int32), (117 : Int32), (105 : Int32), (108 : Int32), (100 : Int32), (105 : Int32), (110 : Int32), (103 : Int32)] : List Int32)) ∨ (v = some (.int 0) ∧ ¬ ([(98 : Int32), (117 : Int32), (105 : Int32), (108 : Int32), (100 : Int32), (105 : Int32), (110 : Int32), (103 : Int32)] : List Int32) = ([(98 : Int32), (117 : Int32), (105 : Int32), (108 : Int32), (100 : Int32), (105 : Int32), (110 : Int32), (103 : Int32)] : List Int32))) ∧ L = [] ∧ h' = T37.heap) X44 hx hZ hown (mvT hZ (hw _ (List.mem_of_getElem? (i := 56) rfl))) (mvT hZ (hw _ (List.mem_of_getElem? (i := 57) rfl))) (notFace_of_selects (args := #[]) (mvT hZ (hw _ (List.mem_of_getElem? (i := 59) rfl)))) (mvT hZ (hw _ (List.mem_of_getElem? (i := 59) rfl))) (mvT hZ (hw _ (List.mem_of_getElem? (i := 58) rfl))) (by decide) (q12.ext Oc43.2) (StrChars.Road.eqW (W := 0) hZ heq (kI := 4) (hw _ (List.mem_of_getElem? (i := 5) rfl)) (q12.ext Oc43.2) (q13.ext Oc43.2) (q14.ext Oc43.2) (q15.ext Oc43.2) hcd33 hbd33 (Nat.le_of_ble_eq_true rfl) Ec46 Fc47 Fc48 Vc49 hcd36 hbd36 (Nat.le_of_ble_eq_true rfl) (q0.ext Oc43.2) P5 (by decide) (by decide)) rfl (by rw [hml]; rfl) (lenOf pd_1 rfl) rfl (by show 2 * 0 + _ ≤ _; exact Nat.le_of_eq rfl) (hb hby d7_25) rfl e44 (by decide) (by decide) ?_
  intro v45 T45 Lc45 hQ45 X45
  obtain ⟨hca45, rfl, e45⟩ := hQ45
  have N45 := own_fr_nil N37
  have hv45 : _ = some (Value.int 1) := hca45.elim (fun q => q.1) (fun q => absurd rfl q.2)
  subst hv45
  refine Gl.go (fun _ hr => zXS_ifNo X45.here hx rfl (hb hby d7_28) rfl (XT.i0_eq_f (by decide)) (zXS_aload X45.here hx rfl (hb hby d7_31) rfl rfl hr)) ?_
  obtain ⟨fs, hr, hrun, hended, hW, hsame⟩ := X45.leave (v := some (.ref c0)) (fun h => by rw [Bd.returns] at h; cases h)
  refine ⟨_, _, retOut X45 hx Bd.returns rfl (Or.inr (Or.inr (Or.inr (Or.inr ⟨rfl, rfl, rfl⟩)))) (hb hby d7_33) hr, hrun, hended, _, _, rfl, ?_, ⟨⟨_, rfl⟩, hW, hsame.mono (by decide) (by decide)⟩⟩
  show Qof0 Z x t kb G1 ar ka c0 c1 c2 l0 t0 kb0 l1 t1 kb1 l2 t2 kb2 h0 n0 _ T45.heap _
  rw [e45]
  exact ⟨rfl, N45, ((Keep.refl h0 []).trans K37 all0)⟩
def Qof1 (Z : State) (x : Addr) (t : Addr) (kb : ClassId) (G1 : Int32) (ar : Addr) (ka : ClassId) (c0 : Addr) (c1 : Addr) (c2 : Addr) (l0 : Addr) (t0 : Addr) (kb0 : ClassId) (l1 : Addr) (t1 : Addr) (kb1 : ClassId) (l2 : Addr) (t2 : Addr) (kb2 : ClassId) (h0 : Heap) (n0 : Nat) (v : Option Value) (h : Heap) (L : List Loc) : Prop := v = some (.ref c1) ∧ Fr n0 L ∧ Keep h0 h []
theorem ef_of1 (m : MethodId) (x0 : Addr) : entryFrame m #[(.ref x0)] 5 = mkF m 0 #[.val (.ref x0), .unset, .unset, .unset, .unset] [] := by first | (simp [entryFrame, mkF, argsToLocals, Value.category]; done) | rfl
theorem d7_34 : decode prog_65_method_5_code 34 = .ok (.iinc 3 1, 3) := by decide +kernel
theorem d7_37 : decode prog_65_method_5_code 37 = .ok (.goto (-28), 3) := by decide +kernel
set_option maxRecDepth 65536 in
set_option maxHeartbeats 40000000 in
theorem of1 (l : Launch) (Z : State) (a0 : Array Value) (hw : ∀ d ∈ tables_1, d.before a0 Z = true) (ws : List Jvm.Cond) (x : Addr) (t : Addr) (kb : ClassId) (G1 : Int32) (ar : Addr) (ka : ClassId) (c0 : Addr) (c1 : Addr) (c2 : Addr) (l0 : Addr) (t0 : Addr) (kb0 : ClassId) (l1 : Addr) (t1 : Addr) (kb1 : ClassId) (l2 : Addr) (t2 : Addr) (kb2 : ClassId) (h0 : Heap) (n0 : Nat) (Z0 : n0 ≤ h0.size) (q0 : Sta Z Z.heap "java/lang/String" "COMPACT_STRINGS" "Z" (.int G1)) (P5 : ¬ (G1 = (0 : Int32))) (q2 : Old Z n0 h0) (q3 : Exa Z h0 x "java/lang/String") (q4 : Fld Z h0 x "java/lang/String" "value" "[B" (.ref t)) (q5 : Fld Z h0 x "java/lang/String" "coder" "B" (.int (0 : Int32))) (q6 : Arv Z h0 t kb .byte (9 : Int32) ((([(111 : Int32), (112 : Int32), (101 : Int32), (114 : Int32), (97 : Int32), (116 : Int32), (105 : Int32), (110 : Int32), (103 : Int32)] : List Int32).map (fun c => c.toInt8.toInt32)).map Value.int) (.int 0)) (q7 : Sta Z Z.heap "com/example/concordat/concordat/vo/Vo$Phase" "$VALUES" "[Lcom/example/concordat/concordat/vo/Vo$Phase;" (.ref ar)) (q8 : Arv Z Z.heap ar ka (.object "com/example/concordat/concordat/vo/Vo$Phase") (3 : Int32) ([(.ref c0), (.ref c1), (.ref c2)]) .null) (q9 : Exa Z Z.heap ar "[Lcom/example/concordat/concordat/vo/Vo$Phase;") (q10 : Exa Z Z.heap c0 "com/example/concordat/concordat/vo/Vo$Phase") (q11 : Fld Z Z.heap c0 "com/example/concordat/concordat/vo/Vo$Phase" "label" "Ljava/lang/String;" (.ref l0)) (q12 : Exa Z Z.heap l0 "java/lang/String") (q13 : Fld Z Z.heap l0 "java/lang/String" "value" "[B" (.ref t0)) (q14 : Fld Z Z.heap l0 "java/lang/String" "coder" "B" (.int (0 : Int32))) (q15 : Arv Z Z.heap t0 kb0 .byte (8 : Int32) ((([(98 : Int32), (117 : Int32), (105 : Int32), (108 : Int32), (100 : Int32), (105 : Int32), (110 : Int32), (103 : Int32)] : List Int32).map (fun c => c.toInt8.toInt32)).map Value.int) (.int 0)) (q16 : Exa Z Z.heap c1 "com/example/concordat/concordat/vo/Vo$Phase") (q17 : Fld Z Z.heap c1 "com/example/concordat/concordat/vo/Vo$Phase" "label" "Ljava/lang/String;" (.ref l1)) (q18 : Exa Z Z.heap l1 "java/lang/String") (q19 : Fld Z Z.heap l1 "java/lang/String" "value" "[B" (.ref t1)) (q20 : Fld Z Z.heap l1 "java/lang/String" "coder" "B" (.int (0 : Int32))) (q21 : Arv Z Z.heap t1 kb1 .byte (9 : Int32) ((([(111 : Int32), (112 : Int32), (101 : Int32), (114 : Int32), (97 : Int32), (116 : Int32), (105 : Int32), (110 : Int32), (103 : Int32)] : List Int32).map (fun c => c.toInt8.toInt32)).map Value.int) (.int 0)) (q22 : Exa Z Z.heap c2 "com/example/concordat/concordat/vo/Vo$Phase") (q23 : Fld Z Z.heap c2 "com/example/concordat/concordat/vo/Vo$Phase" "label" "Ljava/lang/String;" (.ref l2)) (q24 : Exa Z Z.heap l2 "java/lang/String") (q25 : Fld Z Z.heap l2 "java/lang/String" "value" "[B" (.ref t2)) (q26 : Fld Z Z.heap l2 "java/lang/String" "coder" "B" (.int (0 : Int32))) (q27 : Arv Z Z.heap t2 kb2 .byte (9 : Int32) ((([(119 : Int32), (105 : Int32), (116 : Int32), (104 : Int32), (100 : Int32), (114 : Int32), (97 : Int32), (119 : Int32), (110 : Int32)] : List Int32).map (fun c => c.toInt8.toInt32)).map Value.int) (.int 0)) :
    MetFree l (⟨"com/example/concordat/concordat/vo/Vo$Phase", "of", "(Ljava/lang/String;)Lcom/example/concordat/concordat/vo/Vo$Phase;"⟩ : MethodName) (head1 (Jvm.Cond.code (⟨"com/example/concordat/concordat/vo/Vo$Phase", "of", "(Ljava/lang/String;)Lcom/example/concordat/concordat/vo/Vo$Phase;"⟩ : MethodName) prog_65_method_5_code 5 (some (.object "com/example/concordat/concordat/vo/Vo$Phase")) :: ws) ({ frames := 2, cells := 1, slots := 3, locals := 28 } : Room)) (fun a_ U_ => a_ = #[(.ref x)] ∧ Z.Warmed39 U_.vm ∧ U_.heap = h0) (fun _ _ _ _ _ => True) (fun _ U_ o_ V_ => ∃ v_ L_, o_ = .returned v_ ∧ Qof1 Z x t kb G1 ar ka c0 c1 c2 l0 t0 kb0 l1 t1 kb1 l2 t2 kb2 h0 n0 v_ V_.heap L_ ∧ FrameEnd U_ o_ V_ L_ ({ frames := 2, cells := 1, slots := 3, locals := 28 } : Room).cells ({ frames := 2, cells := 1, slots := 3, locals := 28 } : Room).slots) := by
  refine MetFree.of_bodySF (plainFor_of_name pn_0) hisR ?_
  intro p e s m args below meth c s₁ Bd hml0 hP hK
  obtain ⟨rfl, hZ, hh⟩ := hP
  have hx := Bd.exec
  have hby := Bd.bytes
  have hml : c.maxLocals = 5 := hml0
  have hown : s.vm.findClass "com/example/concordat/concordat/vo/Vo$Phase" = some m.cls := findClass_of_methodNamed Bd.named
  have hnm := (name_of_methodNamed Bd.named Bd.method).1
  have X0 : Stand p l e ({ frames := 2, cells := 1, slots := 3, locals := 28 } : Room) s m #[(.ref x)] below meth c s₁ [] 0 0 := Stand.of_body Bd
  have e0 : s₁.heap = h0 := by rw [← hh, Bd.state]; rfl
  have N0 := Fr.nil n0
  have zo := q2.1
  have lt50 := own_alt q3.lt
  have lt51 := own_alt q4.lt
  have lt52 := own_alt q5.lt
  have lt53 := own_alt q6.lt
  have lt54 := own_alt q8.lt
  have lt55 := own_alt q9.lt
  have lt56 := own_alt q10.lt
  have lt57 := own_alt q11.lt
  have lt58 := own_alt q12.lt
  have lt59 := own_alt q13.lt
  have lt60 := own_alt q14.lt
  have lt61 := own_alt q15.lt
  have lt62 := own_alt q16.lt
  have lt63 := own_alt q17.lt
  have lt64 := own_alt q18.lt
  have lt65 := own_alt q19.lt
  have lt66 := own_alt q20.lt
  have lt67 := own_alt q21.lt
  have lt68 := own_alt q22.lt
  have lt69 := own_alt q23.lt
  have lt70 := own_alt q24.lt
  have lt71 := own_alt q25.lt
  have lt72 := own_alt q26.lt
  have lt73 := own_alt q27.lt
  have heq : ∀ d ∈ StrChars.Road.wordsEq, d.before a0 Z = true := fun d hd => hw d (own_heq d hd)
  have hp74 : ∀ c ∈ ([(98 : Int32), (117 : Int32), (105 : Int32), (108 : Int32), (100 : Int32), (105 : Int32), (110 : Int32), (103 : Int32)] : List Int32), Lat c := by decide
  have hcd74 : StrChars.Road.CodA ([(98 : Int32), (117 : Int32), (105 : Int32), (108 : Int32), (100 : Int32), (105 : Int32), (110 : Int32), (103 : Int32)] : List Int32) 0 (8 : Int32) ((([(98 : Int32), (117 : Int32), (105 : Int32), (108 : Int32), (100 : Int32), (105 : Int32), (110 : Int32), (103 : Int32)] : List Int32).map (fun c => c.toInt8.toInt32)).map Value.int) := StrChars.Road.codOf (n := 8) rfl (fun c hc => (hp74 c hc).2)
  have hbd74 : ∀ c ∈ ([(98 : Int32), (117 : Int32), (105 : Int32), (108 : Int32), (100 : Int32), (105 : Int32), (110 : Int32), (103 : Int32)] : List Int32), Wid c := own_up hp74
  have hp75 : ∀ c ∈ ([(111 : Int32), (112 : Int32), (101 : Int32), (114 : Int32), (97 : Int32), (116 : Int32), (105 : Int32), (110 : Int32), (103 : Int32)] : List Int32), Lat c := by decide
  have hcd75 : StrChars.Road.CodA ([(111 : Int32), (112 : Int32), (101 : Int32), (114 : Int32), (97 : Int32), (116 : Int32), (105 : Int32), (110 : Int32), (103 : Int32)] : List Int32) 0 (9 : Int32) ((([(111 : Int32), (112 : Int32), (101 : Int32), (114 : Int32), (97 : Int32), (116 : Int32), (105 : Int32), (110 : Int32), (103 : Int32)] : List Int32).map (fun c => c.toInt8.toInt32)).map Value.int) := StrChars.Road.codOf (n := 9) rfl (fun c hc => (hp75 c hc).2)
  have hbd75 : ∀ c ∈ ([(111 : Int32), (112 : Int32), (101 : Int32), (114 : Int32), (97 : Int32), (116 : Int32), (105 : Int32), (110 : Int32), (103 : Int32)] : List Int32), Wid c := own_up hp75
  have hp76 : ∀ c ∈ ([(119 : Int32), (105 : Int32), (116 : Int32), (104 : Int32), (100 : Int32), (114 : Int32), (97 : Int32), (119 : Int32), (110 : Int32)] : List Int32), Lat c := by decide
  have hcd76 : StrChars.Road.CodA ([(119 : Int32), (105 : Int32), (116 : Int32), (104 : Int32), (100 : Int32), (114 : Int32), (97 : Int32), (119 : Int32), (110 : Int32)] : List Int32) 0 (9 : Int32) ((([(119 : Int32), (105 : Int32), (116 : Int32), (104 : Int32), (100 : Int32), (114 : Int32), (97 : Int32), (119 : Int32), (110 : Int32)] : List Int32).map (fun c => c.toInt8.toInt32)).map Value.int) := StrChars.Road.codOf (n := 9) rfl (fun c hc => (hp76 c hc).2)
  have hbd76 : ∀ c ∈ ([(119 : Int32), (105 : Int32), (116 : Int32), (104 : Int32), (100 : Int32), (114 : Int32), (97 : Int32), (119 : Int32), (110 : Int32)] : List Int32), Wid c := own_up hp76
  have hp77 : ∀ c ∈ ([(111 : Int32), (112 : Int32), (101 : Int32), (114 : Int32), (97 : Int32), (116 : Int32), (105 : Int32), (110 : Int32), (103 : Int32)] : List Int32), Lat c := by decide
  have hcd77 : StrChars.Road.CodA ([(111 : Int32), (112 : Int32), (101 : Int32), (114 : Int32), (97 : Int32), (116 : Int32), (105 : Int32), (110 : Int32), (103 : Int32)] : List Int32) 0 (9 : Int32) ((([(111 : Int32), (112 : Int32), (101 : Int32), (114 : Int32), (97 : Int32), (116 : Int32), (105 : Int32), (110 : Int32), (103 : Int32)] : List Int32).map (fun c => c.toInt8.toInt32)).map Value.int) := StrChars.Road.codOf (n := 9) rfl (fun c hc => (hp77 c hc).2)
  have hbd77 : ∀ c ∈ ([(111 : Int32), (112 : Int32), (101 : Int32), (114 : Int32), (97 : Int32), (116 : Int32), (105 : Int32), (110 : Int32), (103 : Int32)] : List Int32), Wid c := own_up hp77
  refine Gl.go (A := s₁.setTop (entryFrame m #[(.ref x)] 5)) (P := fun o_ U_ => ∃ v_ L_, o_ = .returned v_ ∧ Qof1 Z x t kb G1 ar ka c0 c1 c2 l0 t0 kb0 l1 t1 kb1 l2 t2 kb2 h0 n0 v_ U_.heap L_ ∧ FrameEnd s o_ U_ L_ ({ frames := 2, cells := 1, slots := 3, locals := 28 } : Room).cells ({ frames := 2, cells := 1, slots := 3, locals := 28 } : Room).slots) (fun t k => castTop (ef_of1 m x) k) ?_
  show Gl p.tables e below _ (s₁.setTop (mkF m 0 #[.val (.ref x), .unset, .unset, .unset, .unset] []))
  have zz78 : n0 ≤ h0.size := by omega
  refine gStaticN Gl.cl (y := (⟨"com/example/concordat/concordat/vo/Vo$Phase", "values", "()[Lcom/example/concordat/concordat/vo/Vo$Phase;"⟩ : MethodName)) (argsL := []) (rest := []) (mc := 1) (ms := 3) X0 hx hZ hown (mvT hZ (hw _ (List.mem_of_getElem? (i := 37) rfl))) (mvT hZ (hw _ (List.mem_of_getElem? (i := 38) rfl))) (mvT hZ (hw _ (List.mem_of_getElem? (i := 2) rfl))) (mvT hZ (hw _ (List.mem_of_getElem? (i := 39) rfl))) (by decide) (backOf (W := 0) (vals l Z a0 hw [] ar ka c0 c1 c2 h0 n0 zz78 q2 q7 q8 q9) hZ (hw _ (List.mem_of_getElem? (i := 39) rfl)) (hw _ (List.mem_of_getElem? (i := 2) rfl)) (by decide) (by decide)) rfl (by rw [hml]; rfl) (lenOf pd_0 rfl) rfl (by show 2 * 0 + _ ≤ _; exact Nat.le_of_eq rfl) (hb hby d7_0) rfl e0 (by decide) (by decide) ?_
  intro v78 T78 Lc78 hQ78 X78
  obtain ⟨b_78, rfl, Nq78, K78, f78_0, f78_1, f78_2, f78_3⟩ := hQ78
  have z79 : h0.size ≤ T78.heap.size := K78.1
  have N78 := Fr.app N0 Nq78
  have lt80 := own_alt f78_2.lt
  have lt81 := own_alt f78_3.lt
  refine Gl.go (fun _ hr => zXS_astoreN X78.here hx rfl (hb hby d7_3) rfl rfl (l' := #[.val (.ref x), .val (.ref b_78), .unset, .unset, .unset]) rfl (zXS_aloadN X78.here hx rfl (hb hby d7_4) rfl rfl hr)) ?_
  obtain ⟨c82, a82, q82, s82, m82, H82, U82⟩ := id f78_3
  refine gLen Gl.cl X78 hx hZ (rfl : T78.heap = T78.heap) a82 s82 m82 rfl rfl (hb hby d7_5) ?_
  refine Gl.go (fun _ hr => zXS_istoreN X78.here hx rfl (hb hby d7_6) rfl (l' := #[.val (.ref x), .val (.ref b_78), .val (.int (3 : Int32)), .unset, .unset]) rfl (zXS_iconst X78.here hx rfl (hb hby d7_7) (zXS_istoreN X78.here hx rfl (hb hby d7_8) rfl (l' := #[.val (.ref x), .val (.ref b_78), .val (.int (3 : Int32)), .val (.int (0 : Int32)), .unset]) rfl (zXS_iloadN X78.here hx rfl (hb hby d7_9) rfl (zXS_iloadN X78.here hx rfl (hb hby d7_10) rfl (zXS_icmpNo X78.here hx rfl (hb hby d7_11) rfl (XT.ii_ge_f (by decide)) (zXS_aloadN X78.here hx rfl (hb hby d7_14) rfl rfl (zXS_iloadN X78.here hx rfl (hb hby d7_15) rfl hr)))))))) ?_
  obtain ⟨c83, a83, q83, s83, m83, H83, U83⟩ := id f78_3
  have i83 := inb_of s83 (j := (0 : Int32)) ⟨(by decide), (by decide)⟩
  refine g_aaload Gl.cl X78 hx hZ (rfl : T78.heap = T78.heap) a83 rfl i83 (v := (.ref c0)) (H83.at i83 rfl) rfl rfl (hb hby d7_16) ?_
  refine Gl.go (fun _ hr => zXS_astore X78.here hx rfl (hb hby d7_17) rfl rfl (l' := #[.val (.ref x), .val (.ref b_78), .val (.int (3 : Int32)), .val (.int (0 : Int32)), .val (.ref c0)]) rfl (zXS_aload X78.here hx rfl (hb hby d7_19) rfl rfl hr)) ?_
  have Oc84 := (q2.keep K78 all0)
  refine gGetF (host := "") Gl.cl X78 hx hZ hown (Or.inl (hw _ (List.mem_of_getElem? (i := 54) rfl))) Via.refl (rfl : T78.heap = T78.heap) (q11.ext Oc84.2) rfl rfl (hb hby d7_21) ?_
  intro T85 X85 e85
  refine Gl.go (fun _ hr => zXS_aloadN X85.here hx rfl (hb hby d7_24) rfl rfl hr) ?_
  have Ec87 := (q3.keep K78)
  have Fc88 := (q4.keep K78 nin0)
  have Fc89 := (q5.keep K78 nin0)
  have Vc90 := (q6.keep K78 nin0)
  refine gVirtualN Gl.cl (y := (⟨"java/lang/String", "equals", "(Ljava/lang/Object;)Z"⟩ : MethodName)) (z := (⟨"java/lang/String", "equals", "(Ljava/lang/Object;)Z"⟩ : MethodName)) (b := l0) (argsL := [(.ref x)]) (rest := []) (mc := 0) (ms := 0) (Q := fun v h' L => ((v = some (.int 1) ∧ ([(98 : Int32), (117 : Int32), (105 : Int32), (108 : Int32), (100 : Int32), (105 : Int32), (110 : Int32), (103 : Int32)] : List Int32) = ([(111 : Int32), (112 : Int32), (101 : Int32), (114 : Int32), (97 : Int32), (116 : Int32), (105 : Int32), (110 : Int32), (103 : Int32)] : List Int32)) ∨ (v = some (.int 0) ∧ ¬ ([(98 : Int32), (117 : Int32), (105 : Int32), (108 : Int32), (100 : Int32), (105 : Int32), (110 : Int32), (103 : Int32)] : List Int32) = ([(111 : Int32), (112 : Int32), (101 : Int32), (114 : Int32), (97 : Int32), (116 : Int32), (105 : Int32), (110 : Int32), (103 : Int32)] : List Int32))) ∧ L = [] ∧ h' = T78.heap) X85 hx hZ hown (mvT hZ (hw _ (List.mem_of_getElem? (i := 56) rfl))) (mvT hZ (hw _ (List.mem_of_getElem? (i := 57) rfl))) (notFace_of_selects (args := #[]) (mvT hZ (hw _ (List.mem_of_getElem? (i := 59) rfl)))) (mvT hZ (hw _ (List.mem_of_getElem? (i := 59) rfl))) (mvT hZ (hw _ (List.mem_of_getElem? (i := 58) rfl))) (by decide) (q12.ext Oc84.2) (StrChars.Road.eqW (W := 0) hZ heq (kI := 4) (hw _ (List.mem_of_getElem? (i := 5) rfl)) (q12.ext Oc84.2) (q13.ext Oc84.2) (q14.ext Oc84.2) (q15.ext Oc84.2) hcd74 hbd74 (Nat.le_of_ble_eq_true rfl) Ec87 Fc88 Fc89 Vc90 hcd77 hbd77 (Nat.le_of_ble_eq_true rfl) (q0.ext Oc84.2) P5 (by decide) (by decide)) rfl (by rw [hml]; rfl) (lenOf pd_1 rfl) rfl (by show 2 * 0 + _ ≤ _; exact Nat.le_of_eq rfl) (hb hby d7_25) rfl e85 (by decide) (by decide) ?_
  intro v86 T86 Lc86 hQ86 X86
  obtain ⟨hca86, rfl, e86⟩ := hQ86
  have N86 := own_fr_nil N78
  have hv86 : _ = some (Value.int 0) := hca86.elim (fun q => absurd q.2 (by decide)) (fun q => q.1)
  subst hv86
  refine Gl.go (fun _ hr => zXS_ifYes X86.here hx rfl (pc0 := 28) (pc' := 34) rfl (hb hby d7_28) rfl (XT.i0_eq_t (by decide)) (by decide) (by decide) (zXS_iinc X86.here hx rfl (hb hby d7_34) rfl (l' := #[.val (.ref x), .val (.ref b_78), .val (.int (3 : Int32)), .val (.int (1 : Int32)), .val (.ref c0)]) rfl (zXS_goto X86.here hx rfl (pc0 := 37) (pc' := 9) rfl (hb hby d7_37) (by decide) (by decide) (zXS_iloadN X86.here hx rfl (hb hby d7_9) rfl (zXS_iloadN X86.here hx rfl (hb hby d7_10) rfl (zXS_icmpNo X86.here hx rfl (hb hby d7_11) rfl (XT.ii_ge_f (by decide)) (zXS_aloadN X86.here hx rfl (hb hby d7_14) rfl rfl (zXS_iloadN X86.here hx rfl (hb hby d7_15) rfl hr)))))))) ?_
  obtain ⟨c91, a91, q91, s91, m91, H91, U91⟩ := id f78_3
  have i91 := inb_of s91 (j := (1 : Int32)) ⟨(by decide), (by decide)⟩
  refine g_aaload Gl.cl X86 hx hZ e86 a91 rfl i91 (v := (.ref c1)) (H91.at i91 rfl) rfl rfl (hb hby d7_16) ?_
  refine Gl.go (fun _ hr => zXS_astore X86.here hx rfl (hb hby d7_17) rfl rfl (l' := #[.val (.ref x), .val (.ref b_78), .val (.int (3 : Int32)), .val (.int (1 : Int32)), .val (.ref c1)]) rfl (zXS_aload X86.here hx rfl (hb hby d7_19) rfl rfl hr)) ?_
  refine gGetF (host := "") Gl.cl X86 hx hZ hown (Or.inl (hw _ (List.mem_of_getElem? (i := 54) rfl))) Via.refl e86 (q17.ext Oc84.2) rfl rfl (hb hby d7_21) ?_
  intro T92 X92 e92
  refine Gl.go (fun _ hr => zXS_aloadN X92.here hx rfl (hb hby d7_24) rfl rfl hr) ?_
  refine gVirtualN Gl.cl (y := (⟨"java/lang/String", "equals", "(Ljava/lang/Object;)Z"⟩ : MethodName)) (z := (⟨"java/lang/String", "equals", "(Ljava/lang/Object;)Z"⟩ : MethodName)) (b := l1) (argsL := [(.ref x)]) (rest := []) (mc := 0) (ms := 0) (Q := fun v h' L => ((v = some (.int 1) ∧ ([(111 : Int32), (112 : Int32), (101 : Int32), (114 : Int32), (97 : Int32), (116 : Int32), (105 : Int32), (110 : Int32), (103 : Int32)] : List Int32) = ([(111 : Int32), (112 : Int32), (101 : Int32), (114 : Int32), (97 : Int32), (116 : Int32), (105 : Int32), (110 : Int32), (103 : Int32)] : List Int32)) ∨ (v = some (.int 0) ∧ ¬ ([(111 : Int32), (112 : Int32), (101 : Int32), (114 : Int32), (97 : Int32), (116 : Int32), (105 : Int32), (110 : Int32), (103 : Int32)] : List Int32) = ([(111 : Int32), (112 : Int32), (101 : Int32), (114 : Int32), (97 : Int32), (116 : Int32), (105 : Int32), (110 : Int32), (103 : Int32)] : List Int32))) ∧ L = [] ∧ h' = T78.heap) X92 hx hZ hown (mvT hZ (hw _ (List.mem_of_getElem? (i := 56) rfl))) (mvT hZ (hw _ (List.mem_of_getElem? (i := 57) rfl))) (notFace_of_selects (args := #[]) (mvT hZ (hw _ (List.mem_of_getElem? (i := 59) rfl)))) (mvT hZ (hw _ (List.mem_of_getElem? (i := 59) rfl))) (mvT hZ (hw _ (List.mem_of_getElem? (i := 58) rfl))) (by decide) (q18.ext Oc84.2) (StrChars.Road.eqW (W := 0) hZ heq (kI := 4) (hw _ (List.mem_of_getElem? (i := 5) rfl)) (q18.ext Oc84.2) (q19.ext Oc84.2) (q20.ext Oc84.2) (q21.ext Oc84.2) hcd75 hbd75 (Nat.le_of_ble_eq_true rfl) Ec87 Fc88 Fc89 Vc90 hcd77 hbd77 (Nat.le_of_ble_eq_true rfl) (q0.ext Oc84.2) P5 (by decide) (by decide)) rfl (by rw [hml]; rfl) (lenOf pd_1 rfl) rfl (by show 2 * 0 + _ ≤ _; exact Nat.le_of_eq rfl) (hb hby d7_25) rfl e92 (by decide) (by decide) ?_
  intro v93 T93 Lc93 hQ93 X93
  obtain ⟨hca93, rfl, e93⟩ := hQ93
  have N93 := own_fr_nil N86
  have hv93 : _ = some (Value.int 1) := hca93.elim (fun q => q.1) (fun q => absurd rfl q.2)
  subst hv93
  refine Gl.go (fun _ hr => zXS_ifNo X93.here hx rfl (hb hby d7_28) rfl (XT.i0_eq_f (by decide)) (zXS_aload X93.here hx rfl (hb hby d7_31) rfl rfl hr)) ?_
  obtain ⟨fs, hr, hrun, hended, hW, hsame⟩ := X93.leave (v := some (.ref c1)) (fun h => by rw [Bd.returns] at h; cases h)
  refine ⟨_, _, retOut X93 hx Bd.returns rfl (Or.inr (Or.inr (Or.inr (Or.inr ⟨rfl, rfl, rfl⟩)))) (hb hby d7_33) hr, hrun, hended, _, _, rfl, ?_, ⟨⟨_, rfl⟩, hW, hsame.mono (by decide) (by decide)⟩⟩
  show Qof1 Z x t kb G1 ar ka c0 c1 c2 l0 t0 kb0 l1 t1 kb1 l2 t2 kb2 h0 n0 _ T93.heap _
  rw [e93]
  exact ⟨rfl, N93, ((Keep.refl h0 []).trans K78 all0)⟩
def Qof2 (Z : State) (x : Addr) (t : Addr) (kb : ClassId) (G1 : Int32) (ar : Addr) (ka : ClassId) (c0 : Addr) (c1 : Addr) (c2 : Addr) (l0 : Addr) (t0 : Addr) (kb0 : ClassId) (l1 : Addr) (t1 : Addr) (kb1 : ClassId) (l2 : Addr) (t2 : Addr) (kb2 : ClassId) (h0 : Heap) (n0 : Nat) (v : Option Value) (h : Heap) (L : List Loc) : Prop := v = some (.ref c2) ∧ Fr n0 L ∧ Keep h0 h []
theorem ef_of2 (m : MethodId) (x0 : Addr) : entryFrame m #[(.ref x0)] 5 = mkF m 0 #[.val (.ref x0), .unset, .unset, .unset, .unset] [] := by first | (simp [entryFrame, mkF, argsToLocals, Value.category]; done) | rfl
set_option maxRecDepth 65536 in
set_option maxHeartbeats 40000000 in
theorem of2 (l : Launch) (Z : State) (a0 : Array Value) (hw : ∀ d ∈ tables_1, d.before a0 Z = true) (ws : List Jvm.Cond) (x : Addr) (t : Addr) (kb : ClassId) (G1 : Int32) (ar : Addr) (ka : ClassId) (c0 : Addr) (c1 : Addr) (c2 : Addr) (l0 : Addr) (t0 : Addr) (kb0 : ClassId) (l1 : Addr) (t1 : Addr) (kb1 : ClassId) (l2 : Addr) (t2 : Addr) (kb2 : ClassId) (h0 : Heap) (n0 : Nat) (Z0 : n0 ≤ h0.size) (q0 : Sta Z Z.heap "java/lang/String" "COMPACT_STRINGS" "Z" (.int G1)) (P5 : ¬ (G1 = (0 : Int32))) (q2 : Old Z n0 h0) (q3 : Exa Z h0 x "java/lang/String") (q4 : Fld Z h0 x "java/lang/String" "value" "[B" (.ref t)) (q5 : Fld Z h0 x "java/lang/String" "coder" "B" (.int (0 : Int32))) (q6 : Arv Z h0 t kb .byte (9 : Int32) ((([(119 : Int32), (105 : Int32), (116 : Int32), (104 : Int32), (100 : Int32), (114 : Int32), (97 : Int32), (119 : Int32), (110 : Int32)] : List Int32).map (fun c => c.toInt8.toInt32)).map Value.int) (.int 0)) (q7 : Sta Z Z.heap "com/example/concordat/concordat/vo/Vo$Phase" "$VALUES" "[Lcom/example/concordat/concordat/vo/Vo$Phase;" (.ref ar)) (q8 : Arv Z Z.heap ar ka (.object "com/example/concordat/concordat/vo/Vo$Phase") (3 : Int32) ([(.ref c0), (.ref c1), (.ref c2)]) .null) (q9 : Exa Z Z.heap ar "[Lcom/example/concordat/concordat/vo/Vo$Phase;") (q10 : Exa Z Z.heap c0 "com/example/concordat/concordat/vo/Vo$Phase") (q11 : Fld Z Z.heap c0 "com/example/concordat/concordat/vo/Vo$Phase" "label" "Ljava/lang/String;" (.ref l0)) (q12 : Exa Z Z.heap l0 "java/lang/String") (q13 : Fld Z Z.heap l0 "java/lang/String" "value" "[B" (.ref t0)) (q14 : Fld Z Z.heap l0 "java/lang/String" "coder" "B" (.int (0 : Int32))) (q15 : Arv Z Z.heap t0 kb0 .byte (8 : Int32) ((([(98 : Int32), (117 : Int32), (105 : Int32), (108 : Int32), (100 : Int32), (105 : Int32), (110 : Int32), (103 : Int32)] : List Int32).map (fun c => c.toInt8.toInt32)).map Value.int) (.int 0)) (q16 : Exa Z Z.heap c1 "com/example/concordat/concordat/vo/Vo$Phase") (q17 : Fld Z Z.heap c1 "com/example/concordat/concordat/vo/Vo$Phase" "label" "Ljava/lang/String;" (.ref l1)) (q18 : Exa Z Z.heap l1 "java/lang/String") (q19 : Fld Z Z.heap l1 "java/lang/String" "value" "[B" (.ref t1)) (q20 : Fld Z Z.heap l1 "java/lang/String" "coder" "B" (.int (0 : Int32))) (q21 : Arv Z Z.heap t1 kb1 .byte (9 : Int32) ((([(111 : Int32), (112 : Int32), (101 : Int32), (114 : Int32), (97 : Int32), (116 : Int32), (105 : Int32), (110 : Int32), (103 : Int32)] : List Int32).map (fun c => c.toInt8.toInt32)).map Value.int) (.int 0)) (q22 : Exa Z Z.heap c2 "com/example/concordat/concordat/vo/Vo$Phase") (q23 : Fld Z Z.heap c2 "com/example/concordat/concordat/vo/Vo$Phase" "label" "Ljava/lang/String;" (.ref l2)) (q24 : Exa Z Z.heap l2 "java/lang/String") (q25 : Fld Z Z.heap l2 "java/lang/String" "value" "[B" (.ref t2)) (q26 : Fld Z Z.heap l2 "java/lang/String" "coder" "B" (.int (0 : Int32))) (q27 : Arv Z Z.heap t2 kb2 .byte (9 : Int32) ((([(119 : Int32), (105 : Int32), (116 : Int32), (104 : Int32), (100 : Int32), (114 : Int32), (97 : Int32), (119 : Int32), (110 : Int32)] : List Int32).map (fun c => c.toInt8.toInt32)).map Value.int) (.int 0)) :
    MetFree l (⟨"com/example/concordat/concordat/vo/Vo$Phase", "of", "(Ljava/lang/String;)Lcom/example/concordat/concordat/vo/Vo$Phase;"⟩ : MethodName) (head1 (Jvm.Cond.code (⟨"com/example/concordat/concordat/vo/Vo$Phase", "of", "(Ljava/lang/String;)Lcom/example/concordat/concordat/vo/Vo$Phase;"⟩ : MethodName) prog_65_method_5_code 5 (some (.object "com/example/concordat/concordat/vo/Vo$Phase")) :: ws) ({ frames := 2, cells := 1, slots := 3, locals := 28 } : Room)) (fun a_ U_ => a_ = #[(.ref x)] ∧ Z.Warmed39 U_.vm ∧ U_.heap = h0) (fun _ _ _ _ _ => True) (fun _ U_ o_ V_ => ∃ v_ L_, o_ = .returned v_ ∧ Qof2 Z x t kb G1 ar ka c0 c1 c2 l0 t0 kb0 l1 t1 kb1 l2 t2 kb2 h0 n0 v_ V_.heap L_ ∧ FrameEnd U_ o_ V_ L_ ({ frames := 2, cells := 1, slots := 3, locals := 28 } : Room).cells ({ frames := 2, cells := 1, slots := 3, locals := 28 } : Room).slots) := by
  refine MetFree.of_bodySF (plainFor_of_name pn_0) hisR ?_
  intro p e s m args below meth c s₁ Bd hml0 hP hK
  obtain ⟨rfl, hZ, hh⟩ := hP
  have hx := Bd.exec
  have hby := Bd.bytes
  have hml : c.maxLocals = 5 := hml0
  have hown : s.vm.findClass "com/example/concordat/concordat/vo/Vo$Phase" = some m.cls := findClass_of_methodNamed Bd.named
  have hnm := (name_of_methodNamed Bd.named Bd.method).1
  have X0 : Stand p l e ({ frames := 2, cells := 1, slots := 3, locals := 28 } : Room) s m #[(.ref x)] below meth c s₁ [] 0 0 := Stand.of_body Bd
  have e0 : s₁.heap = h0 := by rw [← hh, Bd.state]; rfl
  have N0 := Fr.nil n0
  have zo := q2.1
  have lt94 := own_alt q3.lt
  have lt95 := own_alt q4.lt
  have lt96 := own_alt q5.lt
  have lt97 := own_alt q6.lt
  have lt98 := own_alt q8.lt
  have lt99 := own_alt q9.lt
  have lt100 := own_alt q10.lt
  have lt101 := own_alt q11.lt
  have lt102 := own_alt q12.lt
  have lt103 := own_alt q13.lt
  have lt104 := own_alt q14.lt
  have lt105 := own_alt q15.lt
  have lt106 := own_alt q16.lt
  have lt107 := own_alt q17.lt
  have lt108 := own_alt q18.lt
  have lt109 := own_alt q19.lt
  have lt110 := own_alt q20.lt
  have lt111 := own_alt q21.lt
  have lt112 := own_alt q22.lt
  have lt113 := own_alt q23.lt
  have lt114 := own_alt q24.lt
  have lt115 := own_alt q25.lt
  have lt116 := own_alt q26.lt
  have lt117 := own_alt q27.lt
  have heq : ∀ d ∈ StrChars.Road.wordsEq, d.before a0 Z = true := fun d hd => hw d (own_heq d hd)
  have hp118 : ∀ c ∈ ([(98 : Int32), (117 : Int32), (105 : Int32), (108 : Int32), (100 : Int32), (105 : Int32), (110 : Int32), (103 : Int32)] : List Int32), Lat c := by decide
  have hcd118 : StrChars.Road.CodA ([(98 : Int32), (117 : Int32), (105 : Int32), (108 : Int32), (100 : Int32), (105 : Int32), (110 : Int32), (103 : Int32)] : List Int32) 0 (8 : Int32) ((([(98 : Int32), (117 : Int32), (105 : Int32), (108 : Int32), (100 : Int32), (105 : Int32), (110 : Int32), (103 : Int32)] : List Int32).map (fun c => c.toInt8.toInt32)).map Value.int) := StrChars.Road.codOf (n := 8) rfl (fun c hc => (hp118 c hc).2)
  have hbd118 : ∀ c ∈ ([(98 : Int32), (117 : Int32), (105 : Int32), (108 : Int32), (100 : Int32), (105 : Int32), (110 : Int32), (103 : Int32)] : List Int32), Wid c := own_up hp118
  have hp119 : ∀ c ∈ ([(111 : Int32), (112 : Int32), (101 : Int32), (114 : Int32), (97 : Int32), (116 : Int32), (105 : Int32), (110 : Int32), (103 : Int32)] : List Int32), Lat c := by decide
  have hcd119 : StrChars.Road.CodA ([(111 : Int32), (112 : Int32), (101 : Int32), (114 : Int32), (97 : Int32), (116 : Int32), (105 : Int32), (110 : Int32), (103 : Int32)] : List Int32) 0 (9 : Int32) ((([(111 : Int32), (112 : Int32), (101 : Int32), (114 : Int32), (97 : Int32), (116 : Int32), (105 : Int32), (110 : Int32), (103 : Int32)] : List Int32).map (fun c => c.toInt8.toInt32)).map Value.int) := StrChars.Road.codOf (n := 9) rfl (fun c hc => (hp119 c hc).2)
  have hbd119 : ∀ c ∈ ([(111 : Int32), (112 : Int32), (101 : Int32), (114 : Int32), (97 : Int32), (116 : Int32), (105 : Int32), (110 : Int32), (103 : Int32)] : List Int32), Wid c := own_up hp119
  have hp120 : ∀ c ∈ ([(119 : Int32), (105 : Int32), (116 : Int32), (104 : Int32), (100 : Int32), (114 : Int32), (97 : Int32), (119 : Int32), (110 : Int32)] : List Int32), Lat c := by decide
  have hcd120 : StrChars.Road.CodA ([(119 : Int32), (105 : Int32), (116 : Int32), (104 : Int32), (100 : Int32), (114 : Int32), (97 : Int32), (119 : Int32), (110 : Int32)] : List Int32) 0 (9 : Int32) ((([(119 : Int32), (105 : Int32), (116 : Int32), (104 : Int32), (100 : Int32), (114 : Int32), (97 : Int32), (119 : Int32), (110 : Int32)] : List Int32).map (fun c => c.toInt8.toInt32)).map Value.int) := StrChars.Road.codOf (n := 9) rfl (fun c hc => (hp120 c hc).2)
  have hbd120 : ∀ c ∈ ([(119 : Int32), (105 : Int32), (116 : Int32), (104 : Int32), (100 : Int32), (114 : Int32), (97 : Int32), (119 : Int32), (110 : Int32)] : List Int32), Wid c := own_up hp120
  have hp121 : ∀ c ∈ ([(119 : Int32), (105 : Int32), (116 : Int32), (104 : Int32), (100 : Int32), (114 : Int32), (97 : Int32), (119 : Int32), (110 : Int32)] : List Int32), Lat c := by decide
  have hcd121 : StrChars.Road.CodA ([(119 : Int32), (105 : Int32), (116 : Int32), (104 : Int32), (100 : Int32), (114 : Int32), (97 : Int32), (119 : Int32), (110 : Int32)] : List Int32) 0 (9 : Int32) ((([(119 : Int32), (105 : Int32), (116 : Int32), (104 : Int32), (100 : Int32), (114 : Int32), (97 : Int32), (119 : Int32), (110 : Int32)] : List Int32).map (fun c => c.toInt8.toInt32)).map Value.int) := StrChars.Road.codOf (n := 9) rfl (fun c hc => (hp121 c hc).2)
  have hbd121 : ∀ c ∈ ([(119 : Int32), (105 : Int32), (116 : Int32), (104 : Int32), (100 : Int32), (114 : Int32), (97 : Int32), (119 : Int32), (110 : Int32)] : List Int32), Wid c := own_up hp121
  refine Gl.go (A := s₁.setTop (entryFrame m #[(.ref x)] 5)) (P := fun o_ U_ => ∃ v_ L_, o_ = .returned v_ ∧ Qof2 Z x t kb G1 ar ka c0 c1 c2 l0 t0 kb0 l1 t1 kb1 l2 t2 kb2 h0 n0 v_ U_.heap L_ ∧ FrameEnd s o_ U_ L_ ({ frames := 2, cells := 1, slots := 3, locals := 28 } : Room).cells ({ frames := 2, cells := 1, slots := 3, locals := 28 } : Room).slots) (fun t k => castTop (ef_of2 m x) k) ?_
  show Gl p.tables e below _ (s₁.setTop (mkF m 0 #[.val (.ref x), .unset, .unset, .unset, .unset] []))
  have zz122 : n0 ≤ h0.size := by omega
  refine gStaticN Gl.cl (y := (⟨"com/example/concordat/concordat/vo/Vo$Phase", "values", "()[Lcom/example/concordat/concordat/vo/Vo$Phase;"⟩ : MethodName)) (argsL := []) (rest := []) (mc := 1) (ms := 3) X0 hx hZ hown (mvT hZ (hw _ (List.mem_of_getElem? (i := 37) rfl))) (mvT hZ (hw _ (List.mem_of_getElem? (i := 38) rfl))) (mvT hZ (hw _ (List.mem_of_getElem? (i := 2) rfl))) (mvT hZ (hw _ (List.mem_of_getElem? (i := 39) rfl))) (by decide) (backOf (W := 0) (vals l Z a0 hw [] ar ka c0 c1 c2 h0 n0 zz122 q2 q7 q8 q9) hZ (hw _ (List.mem_of_getElem? (i := 39) rfl)) (hw _ (List.mem_of_getElem? (i := 2) rfl)) (by decide) (by decide)) rfl (by rw [hml]; rfl) (lenOf pd_0 rfl) rfl (by show 2 * 0 + _ ≤ _; exact Nat.le_of_eq rfl) (hb hby d7_0) rfl e0 (by decide) (by decide) ?_
  intro v122 T122 Lc122 hQ122 X122
  obtain ⟨b_122, rfl, Nq122, K122, f122_0, f122_1, f122_2, f122_3⟩ := hQ122
  have z123 : h0.size ≤ T122.heap.size := K122.1
  have N122 := Fr.app N0 Nq122
  have lt124 := own_alt f122_2.lt
  have lt125 := own_alt f122_3.lt
  refine Gl.go (fun _ hr => zXS_astoreN X122.here hx rfl (hb hby d7_3) rfl rfl (l' := #[.val (.ref x), .val (.ref b_122), .unset, .unset, .unset]) rfl (zXS_aloadN X122.here hx rfl (hb hby d7_4) rfl rfl hr)) ?_
  obtain ⟨c126, a126, q126, s126, m126, H126, U126⟩ := id f122_3
  refine gLen Gl.cl X122 hx hZ (rfl : T122.heap = T122.heap) a126 s126 m126 rfl rfl (hb hby d7_5) ?_
  refine Gl.go (fun _ hr => zXS_istoreN X122.here hx rfl (hb hby d7_6) rfl (l' := #[.val (.ref x), .val (.ref b_122), .val (.int (3 : Int32)), .unset, .unset]) rfl (zXS_iconst X122.here hx rfl (hb hby d7_7) (zXS_istoreN X122.here hx rfl (hb hby d7_8) rfl (l' := #[.val (.ref x), .val (.ref b_122), .val (.int (3 : Int32)), .val (.int (0 : Int32)), .unset]) rfl (zXS_iloadN X122.here hx rfl (hb hby d7_9) rfl (zXS_iloadN X122.here hx rfl (hb hby d7_10) rfl (zXS_icmpNo X122.here hx rfl (hb hby d7_11) rfl (XT.ii_ge_f (by decide)) (zXS_aloadN X122.here hx rfl (hb hby d7_14) rfl rfl (zXS_iloadN X122.here hx rfl (hb hby d7_15) rfl hr)))))))) ?_
  obtain ⟨c127, a127, q127, s127, m127, H127, U127⟩ := id f122_3
  have i127 := inb_of s127 (j := (0 : Int32)) ⟨(by decide), (by decide)⟩
  refine g_aaload Gl.cl X122 hx hZ (rfl : T122.heap = T122.heap) a127 rfl i127 (v := (.ref c0)) (H127.at i127 rfl) rfl rfl (hb hby d7_16) ?_
  refine Gl.go (fun _ hr => zXS_astore X122.here hx rfl (hb hby d7_17) rfl rfl (l' := #[.val (.ref x), .val (.ref b_122), .val (.int (3 : Int32)), .val (.int (0 : Int32)), .val (.ref c0)]) rfl (zXS_aload X122.here hx rfl (hb hby d7_19) rfl rfl hr)) ?_
  have Oc128 := (q2.keep K122 all0)
  refine gGetF (host := "") Gl.cl X122 hx hZ hown (Or.inl (hw _ (List.mem_of_getElem? (i := 54) rfl))) Via.refl (rfl : T122.heap = T122.heap) (q11.ext Oc128.2) rfl rfl (hb hby d7_21) ?_
  intro T129 X129 e129
  refine Gl.go (fun _ hr => zXS_aloadN X129.here hx rfl (hb hby d7_24) rfl rfl hr) ?_
  have Ec131 := (q3.keep K122)
  have Fc132 := (q4.keep K122 nin0)
  have Fc133 := (q5.keep K122 nin0)
  have Vc134 := (q6.keep K122 nin0)
  refine gVirtualN Gl.cl (y := (⟨"java/lang/String", "equals", "(Ljava/lang/Object;)Z"⟩ : MethodName)) (z := (⟨"java/lang/String", "equals", "(Ljava/lang/Object;)Z"⟩ : MethodName)) (b := l0) (argsL := [(.ref x)]) (rest := []) (mc := 0) (ms := 0) (Q := fun v h' L => ((v = some (.int 1) ∧ ([(98 : Int32), (117 : Int32), (105 : Int32), (108 : Int32), (100 : Int32), (105 : Int32), (110 : Int32), (103 : Int32)] : List Int32) = ([(119 : Int32), (105 : Int32), (116 : Int32), (104 : Int32), (100 : Int32), (114 : Int32), (97 : Int32), (119 : Int32), (110 : Int32)] : List Int32)) ∨ (v = some (.int 0) ∧ ¬ ([(98 : Int32), (117 : Int32), (105 : Int32), (108 : Int32), (100 : Int32), (105 : Int32), (110 : Int32), (103 : Int32)] : List Int32) = ([(119 : Int32), (105 : Int32), (116 : Int32), (104 : Int32), (100 : Int32), (114 : Int32), (97 : Int32), (119 : Int32), (110 : Int32)] : List Int32))) ∧ L = [] ∧ h' = T122.heap) X129 hx hZ hown (mvT hZ (hw _ (List.mem_of_getElem? (i := 56) rfl))) (mvT hZ (hw _ (List.mem_of_getElem? (i := 57) rfl))) (notFace_of_selects (args := #[]) (mvT hZ (hw _ (List.mem_of_getElem? (i := 59) rfl)))) (mvT hZ (hw _ (List.mem_of_getElem? (i := 59) rfl))) (mvT hZ (hw _ (List.mem_of_getElem? (i := 58) rfl))) (by decide) (q12.ext Oc128.2) (StrChars.Road.eqW (W := 0) hZ heq (kI := 4) (hw _ (List.mem_of_getElem? (i := 5) rfl)) (q12.ext Oc128.2) (q13.ext Oc128.2) (q14.ext Oc128.2) (q15.ext Oc128.2) hcd118 hbd118 (Nat.le_of_ble_eq_true rfl) Ec131 Fc132 Fc133 Vc134 hcd121 hbd121 (Nat.le_of_ble_eq_true rfl) (q0.ext Oc128.2) P5 (by decide) (by decide)) rfl (by rw [hml]; rfl) (lenOf pd_1 rfl) rfl (by show 2 * 0 + _ ≤ _; exact Nat.le_of_eq rfl) (hb hby d7_25) rfl e129 (by decide) (by decide) ?_
  intro v130 T130 Lc130 hQ130 X130
  obtain ⟨hca130, rfl, e130⟩ := hQ130
  have N130 := own_fr_nil N122
  have hv130 : _ = some (Value.int 0) := hca130.elim (fun q => absurd q.2 (by decide)) (fun q => q.1)
  subst hv130
  refine Gl.go (fun _ hr => zXS_ifYes X130.here hx rfl (pc0 := 28) (pc' := 34) rfl (hb hby d7_28) rfl (XT.i0_eq_t (by decide)) (by decide) (by decide) (zXS_iinc X130.here hx rfl (hb hby d7_34) rfl (l' := #[.val (.ref x), .val (.ref b_122), .val (.int (3 : Int32)), .val (.int (1 : Int32)), .val (.ref c0)]) rfl (zXS_goto X130.here hx rfl (pc0 := 37) (pc' := 9) rfl (hb hby d7_37) (by decide) (by decide) (zXS_iloadN X130.here hx rfl (hb hby d7_9) rfl (zXS_iloadN X130.here hx rfl (hb hby d7_10) rfl (zXS_icmpNo X130.here hx rfl (hb hby d7_11) rfl (XT.ii_ge_f (by decide)) (zXS_aloadN X130.here hx rfl (hb hby d7_14) rfl rfl (zXS_iloadN X130.here hx rfl (hb hby d7_15) rfl hr)))))))) ?_
  obtain ⟨c135, a135, q135, s135, m135, H135, U135⟩ := id f122_3
  have i135 := inb_of s135 (j := (1 : Int32)) ⟨(by decide), (by decide)⟩
  refine g_aaload Gl.cl X130 hx hZ e130 a135 rfl i135 (v := (.ref c1)) (H135.at i135 rfl) rfl rfl (hb hby d7_16) ?_
  refine Gl.go (fun _ hr => zXS_astore X130.here hx rfl (hb hby d7_17) rfl rfl (l' := #[.val (.ref x), .val (.ref b_122), .val (.int (3 : Int32)), .val (.int (1 : Int32)), .val (.ref c1)]) rfl (zXS_aload X130.here hx rfl (hb hby d7_19) rfl rfl hr)) ?_
  refine gGetF (host := "") Gl.cl X130 hx hZ hown (Or.inl (hw _ (List.mem_of_getElem? (i := 54) rfl))) Via.refl e130 (q17.ext Oc128.2) rfl rfl (hb hby d7_21) ?_
  intro T136 X136 e136
  refine Gl.go (fun _ hr => zXS_aloadN X136.here hx rfl (hb hby d7_24) rfl rfl hr) ?_
  refine gVirtualN Gl.cl (y := (⟨"java/lang/String", "equals", "(Ljava/lang/Object;)Z"⟩ : MethodName)) (z := (⟨"java/lang/String", "equals", "(Ljava/lang/Object;)Z"⟩ : MethodName)) (b := l1) (argsL := [(.ref x)]) (rest := []) (mc := 0) (ms := 0) (Q := fun v h' L => ((v = some (.int 1) ∧ ([(111 : Int32), (112 : Int32), (101 : Int32), (114 : Int32), (97 : Int32), (116 : Int32), (105 : Int32), (110 : Int32), (103 : Int32)] : List Int32) = ([(119 : Int32), (105 : Int32), (116 : Int32), (104 : Int32), (100 : Int32), (114 : Int32), (97 : Int32), (119 : Int32), (110 : Int32)] : List Int32)) ∨ (v = some (.int 0) ∧ ¬ ([(111 : Int32), (112 : Int32), (101 : Int32), (114 : Int32), (97 : Int32), (116 : Int32), (105 : Int32), (110 : Int32), (103 : Int32)] : List Int32) = ([(119 : Int32), (105 : Int32), (116 : Int32), (104 : Int32), (100 : Int32), (114 : Int32), (97 : Int32), (119 : Int32), (110 : Int32)] : List Int32))) ∧ L = [] ∧ h' = T122.heap) X136 hx hZ hown (mvT hZ (hw _ (List.mem_of_getElem? (i := 56) rfl))) (mvT hZ (hw _ (List.mem_of_getElem? (i := 57) rfl))) (notFace_of_selects (args := #[]) (mvT hZ (hw _ (List.mem_of_getElem? (i := 59) rfl)))) (mvT hZ (hw _ (List.mem_of_getElem? (i := 59) rfl))) (mvT hZ (hw _ (List.mem_of_getElem? (i := 58) rfl))) (by decide) (q18.ext Oc128.2) (StrChars.Road.eqW (W := 0) hZ heq (kI := 4) (hw _ (List.mem_of_getElem? (i := 5) rfl)) (q18.ext Oc128.2) (q19.ext Oc128.2) (q20.ext Oc128.2) (q21.ext Oc128.2) hcd119 hbd119 (Nat.le_of_ble_eq_true rfl) Ec131 Fc132 Fc133 Vc134 hcd121 hbd121 (Nat.le_of_ble_eq_true rfl) (q0.ext Oc128.2) P5 (by decide) (by decide)) rfl (by rw [hml]; rfl) (lenOf pd_1 rfl) rfl (by show 2 * 0 + _ ≤ _; exact Nat.le_of_eq rfl) (hb hby d7_25) rfl e136 (by decide) (by decide) ?_
  intro v137 T137 Lc137 hQ137 X137
  obtain ⟨hca137, rfl, e137⟩ := hQ137
  have N137 := own_fr_nil N130
  have hv137 : _ = some (Value.int 0) := hca137.elim (fun q => absurd q.2 (by decide)) (fun q => q.1)
  subst hv137
  refine Gl.go (fun _ hr => zXS_ifYes X137.here hx rfl (pc0 := 28) (pc' := 34) rfl (hb hby d7_28) rfl (XT.i0_eq_t (by decide)) (by decide) (by decide) (zXS_iinc X137.here hx rfl (hb hby d7_34) rfl (l' := #[.val (.ref x), .val (.ref b_122), .val (.int (3 : Int32)), .val (.int (2 : Int32)), .val (.ref c1)]) rfl (zXS_goto X137.here hx rfl (pc0 := 37) (pc' := 9) rfl (hb hby d7_37) (by decide) (by decide) (zXS_iloadN X137.here hx rfl (hb hby d7_9) rfl (zXS_iloadN X137.here hx rfl (hb hby d7_10) rfl (zXS_icmpNo X137.here hx rfl (hb hby d7_11) rfl (XT.ii_ge_f (by decide)) (zXS_aloadN X137.here hx rfl (hb hby d7_14) rfl rfl (zXS_iloadN X137.here hx rfl (hb hby d7_15) rfl hr)))))))) ?_
  obtain ⟨c138, a138, q138, s138, m138, H138, U138⟩ := id f122_3
  have i138 := inb_of s138 (j := (2 : Int32)) ⟨(by decide), (by decide)⟩
  refine g_aaload Gl.cl X137 hx hZ e137 a138 rfl i138 (v := (.ref c2)) (H138.at i138 rfl) rfl rfl (hb hby d7_16) ?_
  refine Gl.go (fun _ hr => zXS_astore X137.here hx rfl (hb hby d7_17) rfl rfl (l' := #[.val (.ref x), .val (.ref b_122), .val (.int (3 : Int32)), .val (.int (2 : Int32)), .val (.ref c2)]) rfl (zXS_aload X137.here hx rfl (hb hby d7_19) rfl rfl hr)) ?_
  refine gGetF (host := "") Gl.cl X137 hx hZ hown (Or.inl (hw _ (List.mem_of_getElem? (i := 54) rfl))) Via.refl e137 (q23.ext Oc128.2) rfl rfl (hb hby d7_21) ?_
  intro T139 X139 e139
  refine Gl.go (fun _ hr => zXS_aloadN X139.here hx rfl (hb hby d7_24) rfl rfl hr) ?_
  refine gVirtualN Gl.cl (y := (⟨"java/lang/String", "equals", "(Ljava/lang/Object;)Z"⟩ : MethodName)) (z := (⟨"java/lang/String", "equals", "(Ljava/lang/Object;)Z"⟩ : MethodName)) (b := l2) (argsL := [(.ref x)]) (rest := []) (mc := 0) (ms := 0) (Q := fun v h' L => ((v = some (.int 1) ∧ ([(119 : Int32), (105 : Int32), (116 : Int32), (104 : Int32), (100 : Int32), (114 : Int32), (97 : Int32), (119 : Int32), (110 : Int32)] : List Int32) = ([(119 : Int32), (105 : Int32), (116 : Int32), (104 : Int32), (100 : Int32), (114 : Int32), (97 : Int32), (119 : Int32), (110 : Int32)] : List Int32)) ∨ (v = some (.int 0) ∧ ¬ ([(119 : Int32), (105 : Int32), (116 : Int32), (104 : Int32), (100 : Int32), (114 : Int32), (97 : Int32), (119 : Int32), (110 : Int32)] : List Int32) = ([(119 : Int32), (105 : Int32), (116 : Int32), (104 : Int32), (100 : Int32), (114 : Int32), (97 : Int32), (119 : Int32), (110 : Int32)] : List Int32))) ∧ L = [] ∧ h' = T122.heap) X139 hx hZ hown (mvT hZ (hw _ (List.mem_of_getElem? (i := 56) rfl))) (mvT hZ (hw _ (List.mem_of_getElem? (i := 57) rfl))) (notFace_of_selects (args := #[]) (mvT hZ (hw _ (List.mem_of_getElem? (i := 59) rfl)))) (mvT hZ (hw _ (List.mem_of_getElem? (i := 59) rfl))) (mvT hZ (hw _ (List.mem_of_getElem? (i := 58) rfl))) (by decide) (q24.ext Oc128.2) (StrChars.Road.eqW (W := 0) hZ heq (kI := 4) (hw _ (List.mem_of_getElem? (i := 5) rfl)) (q24.ext Oc128.2) (q25.ext Oc128.2) (q26.ext Oc128.2) (q27.ext Oc128.2) hcd120 hbd120 (Nat.le_of_ble_eq_true rfl) Ec131 Fc132 Fc133 Vc134 hcd121 hbd121 (Nat.le_of_ble_eq_true rfl) (q0.ext Oc128.2) P5 (by decide) (by decide)) rfl (by rw [hml]; rfl) (lenOf pd_1 rfl) rfl (by show 2 * 0 + _ ≤ _; exact Nat.le_of_eq rfl) (hb hby d7_25) rfl e139 (by decide) (by decide) ?_
  intro v140 T140 Lc140 hQ140 X140
  obtain ⟨hca140, rfl, e140⟩ := hQ140
  have N140 := own_fr_nil N137
  have hv140 : _ = some (Value.int 1) := hca140.elim (fun q => q.1) (fun q => absurd rfl q.2)
  subst hv140
  refine Gl.go (fun _ hr => zXS_ifNo X140.here hx rfl (hb hby d7_28) rfl (XT.i0_eq_f (by decide)) (zXS_aload X140.here hx rfl (hb hby d7_31) rfl rfl hr)) ?_
  obtain ⟨fs, hr, hrun, hended, hW, hsame⟩ := X140.leave (v := some (.ref c2)) (fun h => by rw [Bd.returns] at h; cases h)
  refine ⟨_, _, retOut X140 hx Bd.returns rfl (Or.inr (Or.inr (Or.inr (Or.inr ⟨rfl, rfl, rfl⟩)))) (hb hby d7_33) hr, hrun, hended, _, _, rfl, ?_, ⟨⟨_, rfl⟩, hW, hsame.mono (by decide) (by decide)⟩⟩
  show Qof2 Z x t kb G1 ar ka c0 c1 c2 l0 t0 kb0 l1 t1 kb1 l2 t2 kb2 h0 n0 _ T140.heap _
  rw [e140]
  exact ⟨rfl, N140, ((Keep.refl h0 []).trans K122 all0)⟩
def Qlawrm (Z : State) (i0 : Int32) (G1 : Int32) (ar : Addr) (ka : ClassId) (c0 : Addr) (c1 : Addr) (c2 : Addr) (l0 : Addr) (t0 : Addr) (kb0 : ClassId) (l1 : Addr) (t1 : Addr) (kb1 : ClassId) (l2 : Addr) (t2 : Addr) (kb2 : ClassId) (h0 : Heap) (n0 : Nat) (v : Option Value) (h : Heap) (L : List Loc) : Prop := v = some (.int (1 : Int32)) ∧ Fr n0 L ∧ Keep h0 h []
theorem pn_1 : plainName "com/example/concordat/concordat/vo/PhaseOfPinLaw" = true := by first | (simp [plainName, overriddenIn]; done) | decide +kernel
theorem ef_lawrm (m : MethodId) (x0 : Int32) : entryFrame m #[(.int x0)] maxLocals = mkF m 0 #[.val (.int x0), .unset, .unset, .unset, .unset, .unset, .unset] [] := by first | (simp [entryFrame, mkF, argsToLocals, Value.category, maxLocals]; done) | rfl
theorem pd_2 : parseMethodDescriptor "([C)V" = some ⟨[(.array .char)], none⟩ := by decide +kernel
theorem pd_3 : parseMethodDescriptor "(Ljava/lang/String;)Lcom/example/concordat/concordat/vo/Vo$Phase;" = some ⟨[(.object "java/lang/String")], some (.object "com/example/concordat/concordat/vo/Vo$Phase")⟩ := by decide +kernel
theorem pd_4 : parseMethodDescriptor "()Ljava/lang/String;" = some ⟨[], some (.object "java/lang/String")⟩ := by decide +kernel
set_option maxRecDepth 65536 in
set_option maxHeartbeats 40000000 in
theorem lawrm (l : Launch) (Z : State) (a0 : Array Value) (hw : ∀ d ∈ tables_1, d.before a0 Z = true) (ws : List Jvm.Cond) (i0 : Int32) (G1 : Int32) (ar : Addr) (ka : ClassId) (c0 : Addr) (c1 : Addr) (c2 : Addr) (l0 : Addr) (t0 : Addr) (kb0 : ClassId) (l1 : Addr) (t1 : Addr) (kb1 : ClassId) (l2 : Addr) (t2 : Addr) (kb2 : ClassId) (h0 : Heap) (n0 : Nat) (Z0 : n0 ≤ h0.size) (q0 : Sta Z Z.heap "java/lang/String" "COMPACT_STRINGS" "Z" (.int G1)) (P5 : ¬ (G1 = (0 : Int32))) (q2 : Old Z n0 h0) (q3 : Sta Z Z.heap "com/example/concordat/concordat/vo/Vo$Phase" "BUILDING" "Lcom/example/concordat/concordat/vo/Vo$Phase;" (.ref c0)) (q4 : Sta Z Z.heap "com/example/concordat/concordat/vo/Vo$Phase" "OPERATING" "Lcom/example/concordat/concordat/vo/Vo$Phase;" (.ref c1)) (q5 : Sta Z Z.heap "com/example/concordat/concordat/vo/Vo$Phase" "WITHDRAWN" "Lcom/example/concordat/concordat/vo/Vo$Phase;" (.ref c2)) (q6 : Sta Z Z.heap "com/example/concordat/concordat/vo/Vo$Phase" "$VALUES" "[Lcom/example/concordat/concordat/vo/Vo$Phase;" (.ref ar)) (q7 : Arv Z Z.heap ar ka (.object "com/example/concordat/concordat/vo/Vo$Phase") (3 : Int32) ([(.ref c0), (.ref c1), (.ref c2)]) .null) (q8 : Exa Z Z.heap ar "[Lcom/example/concordat/concordat/vo/Vo$Phase;") (q9 : Exa Z Z.heap c0 "com/example/concordat/concordat/vo/Vo$Phase") (q10 : Fld Z Z.heap c0 "com/example/concordat/concordat/vo/Vo$Phase" "label" "Ljava/lang/String;" (.ref l0)) (q11 : Exa Z Z.heap l0 "java/lang/String") (q12 : Fld Z Z.heap l0 "java/lang/String" "value" "[B" (.ref t0)) (q13 : Fld Z Z.heap l0 "java/lang/String" "coder" "B" (.int (0 : Int32))) (q14 : Arv Z Z.heap t0 kb0 .byte (8 : Int32) ((([(98 : Int32), (117 : Int32), (105 : Int32), (108 : Int32), (100 : Int32), (105 : Int32), (110 : Int32), (103 : Int32)] : List Int32).map (fun c => c.toInt8.toInt32)).map Value.int) (.int 0)) (q15 : Exa Z Z.heap c1 "com/example/concordat/concordat/vo/Vo$Phase") (q16 : Fld Z Z.heap c1 "com/example/concordat/concordat/vo/Vo$Phase" "label" "Ljava/lang/String;" (.ref l1)) (q17 : Exa Z Z.heap l1 "java/lang/String") (q18 : Fld Z Z.heap l1 "java/lang/String" "value" "[B" (.ref t1)) (q19 : Fld Z Z.heap l1 "java/lang/String" "coder" "B" (.int (0 : Int32))) (q20 : Arv Z Z.heap t1 kb1 .byte (9 : Int32) ((([(111 : Int32), (112 : Int32), (101 : Int32), (114 : Int32), (97 : Int32), (116 : Int32), (105 : Int32), (110 : Int32), (103 : Int32)] : List Int32).map (fun c => c.toInt8.toInt32)).map Value.int) (.int 0)) (q21 : Exa Z Z.heap c2 "com/example/concordat/concordat/vo/Vo$Phase") (q22 : Fld Z Z.heap c2 "com/example/concordat/concordat/vo/Vo$Phase" "label" "Ljava/lang/String;" (.ref l2)) (q23 : Exa Z Z.heap l2 "java/lang/String") (q24 : Fld Z Z.heap l2 "java/lang/String" "value" "[B" (.ref t2)) (q25 : Fld Z Z.heap l2 "java/lang/String" "coder" "B" (.int (0 : Int32))) (q26 : Arv Z Z.heap t2 kb2 .byte (9 : Int32) ((([(119 : Int32), (105 : Int32), (116 : Int32), (104 : Int32), (100 : Int32), (114 : Int32), (97 : Int32), (119 : Int32), (110 : Int32)] : List Int32).map (fun c => c.toInt8.toInt32)).map Value.int) (.int 0)) :
    MetFree l x (head1 (Jvm.Cond.code x code maxLocals ret :: ws) room_1) (fun a_ U_ => a_ = #[(.int i0)] ∧ Z.Warmed39 U_.vm ∧ U_.heap = h0) (fun _ _ _ _ _ => True) (fun _ U_ o_ V_ => ∃ v_ L_, o_ = .returned v_ ∧ Qlawrm Z i0 G1 ar ka c0 c1 c2 l0 t0 kb0 l1 t1 kb1 l2 t2 kb2 h0 n0 v_ V_.heap L_ ∧ FrameEnd U_ o_ V_ L_ 24 128) := by
  refine MetFree.of_bodySF (plainFor_of_name pn_1) hisR ?_
  intro p e s m args below meth c s₁ Bd hml0 hP hK
  obtain ⟨rfl, hZ, hh⟩ := hP
  have hx := Bd.exec
  have hby := Bd.bytes
  have hml : c.maxLocals = 7 := hml0
  have hown : s.vm.findClass "com/example/concordat/concordat/vo/PhaseOfPinLaw" = some m.cls := findClass_of_methodNamed Bd.named
  have hnm := (name_of_methodNamed Bd.named Bd.method).1
  have X0 : Stand p l e room_1 s m #[(.int i0)] below meth c s₁ [] 0 0 := Stand.of_body Bd
  have e0 : s₁.heap = h0 := by rw [← hh, Bd.state]; rfl
  have N0 := Fr.nil n0
  have zo := q2.1
  have lt141 := own_alt q7.lt
  have lt142 := own_alt q8.lt
  have lt143 := own_alt q9.lt
  have lt144 := own_alt q10.lt
  have lt145 := own_alt q11.lt
  have lt146 := own_alt q12.lt
  have lt147 := own_alt q13.lt
  have lt148 := own_alt q14.lt
  have lt149 := own_alt q15.lt
  have lt150 := own_alt q16.lt
  have lt151 := own_alt q17.lt
  have lt152 := own_alt q18.lt
  have lt153 := own_alt q19.lt
  have lt154 := own_alt q20.lt
  have lt155 := own_alt q21.lt
  have lt156 := own_alt q22.lt
  have lt157 := own_alt q23.lt
  have lt158 := own_alt q24.lt
  have lt159 := own_alt q25.lt
  have lt160 := own_alt q26.lt
  have hws : ∀ d ∈ StrChars.Road.words, d.before a0 Z = true := fun d hd => hw d (own_hws d hd)
  have heq : ∀ d ∈ StrChars.Road.wordsEq, d.before a0 Z = true := fun d hd => hw d (own_heq d hd)
  have hp161 : ∀ c ∈ ([(98 : Int32), (117 : Int32), (105 : Int32), (108 : Int32), (100 : Int32), (105 : Int32), (110 : Int32), (103 : Int32)] : List Int32), Lat c := by decide
  have hcd161 : StrChars.Road.CodA ([(98 : Int32), (117 : Int32), (105 : Int32), (108 : Int32), (100 : Int32), (105 : Int32), (110 : Int32), (103 : Int32)] : List Int32) 0 (8 : Int32) ((([(98 : Int32), (117 : Int32), (105 : Int32), (108 : Int32), (100 : Int32), (105 : Int32), (110 : Int32), (103 : Int32)] : List Int32).map (fun c => c.toInt8.toInt32)).map Value.int) := StrChars.Road.codOf (n := 8) rfl (fun c hc => (hp161 c hc).2)
  have hbd161 : ∀ c ∈ ([(98 : Int32), (117 : Int32), (105 : Int32), (108 : Int32), (100 : Int32), (105 : Int32), (110 : Int32), (103 : Int32)] : List Int32), Wid c := own_up hp161
  have hp162 : ∀ c ∈ ([(111 : Int32), (112 : Int32), (101 : Int32), (114 : Int32), (97 : Int32), (116 : Int32), (105 : Int32), (110 : Int32), (103 : Int32)] : List Int32), Lat c := by decide
  have hcd162 : StrChars.Road.CodA ([(111 : Int32), (112 : Int32), (101 : Int32), (114 : Int32), (97 : Int32), (116 : Int32), (105 : Int32), (110 : Int32), (103 : Int32)] : List Int32) 0 (9 : Int32) ((([(111 : Int32), (112 : Int32), (101 : Int32), (114 : Int32), (97 : Int32), (116 : Int32), (105 : Int32), (110 : Int32), (103 : Int32)] : List Int32).map (fun c => c.toInt8.toInt32)).map Value.int) := StrChars.Road.codOf (n := 9) rfl (fun c hc => (hp162 c hc).2)
  have hbd162 : ∀ c ∈ ([(111 : Int32), (112 : Int32), (101 : Int32), (114 : Int32), (97 : Int32), (116 : Int32), (105 : Int32), (110 : Int32), (103 : Int32)] : List Int32), Wid c := own_up hp162
  have hp163 : ∀ c ∈ ([(119 : Int32), (105 : Int32), (116 : Int32), (104 : Int32), (100 : Int32), (114 : Int32), (97 : Int32), (119 : Int32), (110 : Int32)] : List Int32), Lat c := by decide
  have hcd163 : StrChars.Road.CodA ([(119 : Int32), (105 : Int32), (116 : Int32), (104 : Int32), (100 : Int32), (114 : Int32), (97 : Int32), (119 : Int32), (110 : Int32)] : List Int32) 0 (9 : Int32) ((([(119 : Int32), (105 : Int32), (116 : Int32), (104 : Int32), (100 : Int32), (114 : Int32), (97 : Int32), (119 : Int32), (110 : Int32)] : List Int32).map (fun c => c.toInt8.toInt32)).map Value.int) := StrChars.Road.codOf (n := 9) rfl (fun c hc => (hp163 c hc).2)
  have hbd163 : ∀ c ∈ ([(119 : Int32), (105 : Int32), (116 : Int32), (104 : Int32), (100 : Int32), (114 : Int32), (97 : Int32), (119 : Int32), (110 : Int32)] : List Int32), Wid c := own_up hp163
  refine Gl.go (A := s₁.setTop (entryFrame m #[(.int i0)] maxLocals)) (P := fun o_ U_ => ∃ v_ L_, o_ = .returned v_ ∧ Qlawrm Z i0 G1 ar ka c0 c1 c2 l0 t0 kb0 l1 t1 kb1 l2 t2 kb2 h0 n0 v_ U_.heap L_ ∧ FrameEnd s o_ U_ L_ 24 128) (fun t k => castTop (ef_lawrm m i0) k) ?_
  show Gl p.tables e below _ (s₁.setTop (mkF m 0 #[.val (.int i0), .unset, .unset, .unset, .unset, .unset, .unset] []))
  refine Gl.go (fun _ hr => zXS_iloadN X0.here hx rfl (hb hby at_0) rfl hr) ?_
  refine Gl.go (X0.ldcInt hx hown (mvT hZ (hw _ (List.mem_of_getElem? (i := 0) rfl))) rfl (hb hby at_1)) ?_
  refine Gl.go (fun _ hr => zXS_iand X0.here hx rfl (hb hby at_3) rfl (zXS_iconst X0.here hx rfl (hb hby at_4) (zRW_iremM X0 hx rfl (hb hby at_5) rfl (by decide) (zXS_istoreN X0.here hx rfl (hb hby at_6) rfl (l' := #[.val (.int i0), .val (.int ((i0 &&& (2147483647 : Int32)) % (3 : Int32))), .unset, .unset, .unset, .unset, .unset]) rfl (zXS_iloadN X0.here hx rfl (hb hby at_7) rfl hr))))) ?_
  by_cases hc164 : ((i0 &&& (2147483647 : Int32)) % (3 : Int32)) = (0 : Int32)
  · refine Gl.go (fun _ hr => zXS_ifNo X0.here hx rfl (hb hby at_8) rfl (XT.i0_ne_f hc164) hr) ?_
    refine gGetS (host := "") Gl.cl X0 hx hZ hown (Or.inl (hw _ (List.mem_of_getElem? (i := 1) rfl))) Via.refl e0 (q3.ext q2.2) rfl (hb hby at_11) ?_
    intro T165 X165 e165
    refine Gl.go (fun _ hr => zXS_astoreN X165.here hx rfl (hb hby at_14) rfl rfl (l' := #[.val (.int i0), .val (.int ((i0 &&& (2147483647 : Int32)) % (3 : Int32))), .val (.ref c0), .unset, .unset, .unset, .unset]) rfl hr) ?_
    refine gNew Gl.cl X165 hx hZ hown (hw _ (List.mem_of_getElem? (i := 4) rfl)) (hw _ (List.mem_of_getElem? (i := 5) rfl)) (hw _ (List.mem_of_getElem? (i := 6) rfl)) e165 rfl (hb hby at_15) (by decide) (by decide) ?_
    intro T166 h166 b166 g166 X166 e166 E166 A166 D166
    have z167 : h0.size ≤ h166.size := E166.1
    have lt166 := own_alt A166.lt
    have F166_coder : Fld Z h166 b166 "java/lang/String" "coder" "B" (.int (0 : Int32)) := D166 (Or.inr (hw _ (List.mem_of_getElem? (i := 31) rfl))) (ty := .byte) (by decide)
    have F166_value : Fld Z h166 b166 "java/lang/String" "value" "[B" .null := D166 (Or.inr (hw _ (List.mem_of_getElem? (i := 33) rfl))) (ty := (.array .byte)) (by decide)
    refine Gl.go (fun _ hr => zXS_dup X166.here hx rfl (hb hby at_18) rfl rfl (zXS_bipush X166.here hx rfl (hb hby at_19) hr)) ?_
    refine gNewP Gl.cl X166 hx hZ (hw _ (List.mem_of_getElem? (i := 7) rfl)) e166 rfl (hb hby at_21) rfl (by decide) (cap := 8) (by decide) (by decide) (by decide) (by decide) ?_
    intro T168 h168 b168 k168 g168 X168 e168 E168 A168
    have z169 : h166.size ≤ h168.size := E168.1
    have lt168 := own_alt A168.lt
    have V168 : Arv Z h168 b168 k168 .char (8 : Int32) [(.int (0 : Int32)), (.int (0 : Int32)), (.int (0 : Int32)), (.int (0 : Int32)), (.int (0 : Int32)), (.int (0 : Int32)), (.int (0 : Int32)), (.int (0 : Int32))] (.int (0 : Int32)) := (Arv.new A168 (by decide)).pad (pad_rep [] (.int (0 : Int32)) 8)
    refine Gl.go (fun _ hr => zXS_dup X168.here hx rfl (hb hby at_23) rfl rfl (zXS_iconst X168.here hx rfl (hb hby at_24) (zXS_bipush X168.here hx rfl (hb hby at_25) hr))) ?_
    obtain ⟨c170, a170, q170, s170, m170, H170, U170⟩ := id V168
    refine gstC Gl.cl X168 hx hZ e168 a170 (j := (0 : Int32)) (inb_of s170 ⟨(by decide), (by decide)⟩) rfl rfl (hb hby at_27) ?_
    intro T170 h170 X170 e170 W170
    have z171 : h168.size ≤ h170.size := (Keep.of_wr W170).1
    have V170 : Arv Z h170 b168 k168 .char (8 : Int32) [(.int (98 : Int32)), (.int (0 : Int32)), (.int (0 : Int32)), (.int (0 : Int32)), (.int (0 : Int32)), (.int (0 : Int32)), (.int (0 : Int32)), (.int (0 : Int32))] (.int (0 : Int32)) := Arv.set a170 q170 s170 m170 H170 U170 rfl W170 0 rfl (Nat.le_of_ble_eq_true rfl)
    have N170 := Fr.snoc X170 N0 (own_ale (by omega))
    refine Gl.go (fun _ hr => zXS_dup X170.here hx rfl (hb hby at_28) rfl rfl (zXS_iconst X170.here hx rfl (hb hby at_29) (zXS_bipush X170.here hx rfl (hb hby at_30) hr))) ?_
    obtain ⟨c172, a172, q172, s172, m172, H172, U172⟩ := id V170
    refine gstC Gl.cl X170 hx hZ e170 a172 (j := (1 : Int32)) (inb_of s172 ⟨(by decide), (by decide)⟩) rfl rfl (hb hby at_32) ?_
    intro T172 h172 X172 e172 W172
    have z173 : h170.size ≤ h172.size := (Keep.of_wr W172).1
    have V172 : Arv Z h172 b168 k168 .char (8 : Int32) [(.int (98 : Int32)), (.int (117 : Int32)), (.int (0 : Int32)), (.int (0 : Int32)), (.int (0 : Int32)), (.int (0 : Int32)), (.int (0 : Int32)), (.int (0 : Int32))] (.int (0 : Int32)) := Arv.set a172 q172 s172 m172 H172 U172 rfl W172 1 rfl (Nat.le_of_ble_eq_true rfl)
    have N172 := Fr.snoc X172 N170 (own_ale (by omega))
    refine Gl.go (fun _ hr => zXS_dup X172.here hx rfl (hb hby at_33) rfl rfl (zXS_iconst X172.here hx rfl (hb hby at_34) (zXS_bipush X172.here hx rfl (hb hby at_35) hr))) ?_
    obtain ⟨c174, a174, q174, s174, m174, H174, U174⟩ := id V172
    refine gstC Gl.cl X172 hx hZ e172 a174 (j := (2 : Int32)) (inb_of s174 ⟨(by decide), (by decide)⟩) rfl rfl (hb hby at_37) ?_
    intro T174 h174 X174 e174 W174
    have z175 : h172.size ≤ h174.size := (Keep.of_wr W174).1
    have V174 : Arv Z h174 b168 k168 .char (8 : Int32) [(.int (98 : Int32)), (.int (117 : Int32)), (.int (105 : Int32)), (.int (0 : Int32)), (.int (0 : Int32)), (.int (0 : Int32)), (.int (0 : Int32)), (.int (0 : Int32))] (.int (0 : Int32)) := Arv.set a174 q174 s174 m174 H174 U174 rfl W174 2 rfl (Nat.le_of_ble_eq_true rfl)
    have N174 := Fr.snoc X174 N172 (own_ale (by omega))
    refine Gl.go (fun _ hr => zXS_dup X174.here hx rfl (hb hby at_38) rfl rfl (zXS_iconst X174.here hx rfl (hb hby at_39) (zXS_bipush X174.here hx rfl (hb hby at_40) hr))) ?_
    obtain ⟨c176, a176, q176, s176, m176, H176, U176⟩ := id V174
    refine gstC Gl.cl X174 hx hZ e174 a176 (j := (3 : Int32)) (inb_of s176 ⟨(by decide), (by decide)⟩) rfl rfl (hb hby at_42) ?_
    intro T176 h176 X176 e176 W176
    have z177 : h174.size ≤ h176.size := (Keep.of_wr W176).1
    have V176 : Arv Z h176 b168 k168 .char (8 : Int32) [(.int (98 : Int32)), (.int (117 : Int32)), (.int (105 : Int32)), (.int (108 : Int32)), (.int (0 : Int32)), (.int (0 : Int32)), (.int (0 : Int32)), (.int (0 : Int32))] (.int (0 : Int32)) := Arv.set a176 q176 s176 m176 H176 U176 rfl W176 3 rfl (Nat.le_of_ble_eq_true rfl)
    have N176 := Fr.snoc X176 N174 (own_ale (by omega))
    refine Gl.go (fun _ hr => zXS_dup X176.here hx rfl (hb hby at_43) rfl rfl (zXS_iconst X176.here hx rfl (hb hby at_44) (zXS_bipush X176.here hx rfl (hb hby at_45) hr))) ?_
    obtain ⟨c178, a178, q178, s178, m178, H178, U178⟩ := id V176
    refine gstC Gl.cl X176 hx hZ e176 a178 (j := (4 : Int32)) (inb_of s178 ⟨(by decide), (by decide)⟩) rfl rfl (hb hby at_47) ?_
    intro T178 h178 X178 e178 W178
    have z179 : h176.size ≤ h178.size := (Keep.of_wr W178).1
    have V178 : Arv Z h178 b168 k168 .char (8 : Int32) [(.int (98 : Int32)), (.int (117 : Int32)), (.int (105 : Int32)), (.int (108 : Int32)), (.int (100 : Int32)), (.int (0 : Int32)), (.int (0 : Int32)), (.int (0 : Int32))] (.int (0 : Int32)) := Arv.set a178 q178 s178 m178 H178 U178 rfl W178 4 rfl (Nat.le_of_ble_eq_true rfl)
    have N178 := Fr.snoc X178 N176 (own_ale (by omega))
    refine Gl.go (fun _ hr => zXS_dup X178.here hx rfl (hb hby at_48) rfl rfl (zXS_iconst X178.here hx rfl (hb hby at_49) (zXS_bipush X178.here hx rfl (hb hby at_50) hr))) ?_
    obtain ⟨c180, a180, q180, s180, m180, H180, U180⟩ := id V178
    refine gstC Gl.cl X178 hx hZ e178 a180 (j := (5 : Int32)) (inb_of s180 ⟨(by decide), (by decide)⟩) rfl rfl (hb hby at_52) ?_
    intro T180 h180 X180 e180 W180
    have z181 : h178.size ≤ h180.size := (Keep.of_wr W180).1
    have V180 : Arv Z h180 b168 k168 .char (8 : Int32) [(.int (98 : Int32)), (.int (117 : Int32)), (.int (105 : Int32)), (.int (108 : Int32)), (.int (100 : Int32)), (.int (105 : Int32)), (.int (0 : Int32)), (.int (0 : Int32))] (.int (0 : Int32)) := Arv.set a180 q180 s180 m180 H180 U180 rfl W180 5 rfl (Nat.le_of_ble_eq_true rfl)
    have N180 := Fr.snoc X180 N178 (own_ale (by omega))
    refine Gl.go (fun _ hr => zXS_dup X180.here hx rfl (hb hby at_53) rfl rfl (zXS_bipush X180.here hx rfl (hb hby at_54) (zXS_bipush X180.here hx rfl (hb hby at_56) hr))) ?_
    obtain ⟨c182, a182, q182, s182, m182, H182, U182⟩ := id V180
    refine gstC Gl.cl X180 hx hZ e180 a182 (j := (6 : Int32)) (inb_of s182 ⟨(by decide), (by decide)⟩) rfl rfl (hb hby at_58) ?_
    intro T182 h182 X182 e182 W182
    have z183 : h180.size ≤ h182.size := (Keep.of_wr W182).1
    have V182 : Arv Z h182 b168 k168 .char (8 : Int32) [(.int (98 : Int32)), (.int (117 : Int32)), (.int (105 : Int32)), (.int (108 : Int32)), (.int (100 : Int32)), (.int (105 : Int32)), (.int (110 : Int32)), (.int (0 : Int32))] (.int (0 : Int32)) := Arv.set a182 q182 s182 m182 H182 U182 rfl W182 6 rfl (Nat.le_of_ble_eq_true rfl)
    have N182 := Fr.snoc X182 N180 (own_ale (by omega))
    refine Gl.go (fun _ hr => zXS_dup X182.here hx rfl (hb hby at_59) rfl rfl (zXS_bipush X182.here hx rfl (hb hby at_60) (zXS_bipush X182.here hx rfl (hb hby at_62) hr))) ?_
    obtain ⟨c184, a184, q184, s184, m184, H184, U184⟩ := id V182
    refine gstC Gl.cl X182 hx hZ e182 a184 (j := (7 : Int32)) (inb_of s184 ⟨(by decide), (by decide)⟩) rfl rfl (hb hby at_64) ?_
    intro T184 h184 X184 e184 W184
    have z185 : h182.size ≤ h184.size := (Keep.of_wr W184).1
    have V184 : Arv Z h184 b168 k168 .char (8 : Int32) [(.int (98 : Int32)), (.int (117 : Int32)), (.int (105 : Int32)), (.int (108 : Int32)), (.int (100 : Int32)), (.int (105 : Int32)), (.int (110 : Int32)), (.int (103 : Int32))] (.int (0 : Int32)) := Arv.set a184 q184 s184 m184 H184 U184 rfl W184 7 rfl (Nat.le_of_ble_eq_true rfl)
    have N184 := Fr.snoc X184 N182 (own_ale (by omega))
    have hp186 : ∀ c ∈ ([(98 : Int32), (117 : Int32), (105 : Int32), (108 : Int32), (100 : Int32), (105 : Int32), (110 : Int32), (103 : Int32)] : List Int32), Lat c := (own_cS (by decide) (own_cS (by decide) (own_cS (by decide) (own_cS (by decide) (own_cS (by decide) (own_cS (by decide) (own_cS (by decide) (own_cS (by decide) own_c0))))))))
    have Ec187 := (((((((((A166.ext E168).wr W170).wr W172).wr W174).wr W176).wr W178).wr W180).wr W182).wr W184)
    have Fc188 := (((((((((F166_value.ext E168).other W170 (Or.inl (own_ane (by omega)))).other W172 (Or.inl (own_ane (by omega)))).other W174 (Or.inl (own_ane (by omega)))).other W176 (Or.inl (own_ane (by omega)))).other W178 (Or.inl (own_ane (by omega)))).other W180 (Or.inl (own_ane (by omega)))).other W182 (Or.inl (own_ane (by omega)))).other W184 (Or.inl (own_ane (by omega))))
    have Fc189 := (((((((((F166_coder.ext E168).other W170 (Or.inl (own_ane (by omega)))).other W172 (Or.inl (own_ane (by omega)))).other W174 (Or.inl (own_ane (by omega)))).other W176 (Or.inl (own_ane (by omega)))).other W178 (Or.inl (own_ane (by omega)))).other W180 (Or.inl (own_ane (by omega)))).other W182 (Or.inl (own_ane (by omega)))).other W184 (Or.inl (own_ane (by omega))))
    have Oc190 := ((((((((((q2.ext E166).ext E168).wr W170 (own_ale (by omega))).wr W172 (own_ale (by omega))).wr W174 (own_ale (by omega))).wr W176 (own_ale (by omega))).wr W178 (own_ale (by omega))).wr W180 (own_ale (by omega))).wr W182 (own_ale (by omega))).wr W184 (own_ale (by omega)))
    refine gSpecialN Gl.cl (y := (⟨"java/lang/String", "<init>", "([C)V"⟩ : MethodName)) (b := b166) (argsL := [(.ref b168)]) (rest := [(.ref b166)]) (mc := 1) (ms := 8) X184 hx hZ hown rfl (mvT hZ (hw _ (List.mem_of_getElem? (i := 8) rfl))) (mvT hZ (hw _ (List.mem_of_getElem? (i := 9) rfl))) (mvT hZ (hw _ (List.mem_of_getElem? (i := 10) rfl))) (by decide) (StrChars.Road.backV (W := 1) hZ hws (kI := 4) (hw _ (List.mem_of_getElem? (i := 5) rfl)) (cs := ([(98 : Int32), (117 : Int32), (105 : Int32), (108 : Int32), (100 : Int32), (105 : Int32), (110 : Int32), (103 : Int32)] : List Int32)) (bs := ([(98 : Int32), (117 : Int32), (105 : Int32), (108 : Int32), (100 : Int32), (105 : Int32), (110 : Int32), (103 : Int32)] : List Int32).map (fun c => c.toInt8.toInt32)) (n := 8) (n0 := n0) (by omega) (by omega) Ec187 Fc188 Fc189 V184 (q0.ext Oc190.2) P5 rfl rfl (by decide) (by decide) hp186 rfl (by decide) (by decide)) rfl (by rw [hml]; rfl) (lenOf pd_2 rfl) rfl (by show 2 * 0 + _ ≤ _; exact Nat.le_of_eq rfl) (hb hby at_65) rfl e184 (by decide) (by decide) ?_
    intro v186 T186 Lc186 hQ186 X186
    obtain ⟨rfl, Nq186, K186, f186_E, f186_C, t186, kb186, g186_0, g186_1, g186_2, f186_V, f186_A⟩ := hQ186
    have z191 : h184.size ≤ T186.heap.size := K186.1
    have N186 := Fr.app N184 Nq186
    have lt192 := own_alt f186_E.lt
    have lt193 := own_alt f186_C.lt
    have lt194 := own_alt f186_V.lt
    have lt195 := own_alt f186_A.lt
    have hcd186 : StrChars.Road.CodA ([(98 : Int32), (117 : Int32), (105 : Int32), (108 : Int32), (100 : Int32), (105 : Int32), (110 : Int32), (103 : Int32)] : List Int32) 0 (8 : Int32) ((([(98 : Int32), (117 : Int32), (105 : Int32), (108 : Int32), (100 : Int32), (105 : Int32), (110 : Int32), (103 : Int32)] : List Int32).map (fun c => c.toInt8.toInt32)).map Value.int) := StrChars.Road.codOf (n := 8) rfl (fun c hc => (hp186 c hc).2)
    have hbd186 : ∀ c ∈ ([(98 : Int32), (117 : Int32), (105 : Int32), (108 : Int32), (100 : Int32), (105 : Int32), (110 : Int32), (103 : Int32)] : List Int32), Wid c := own_up hp186
    refine Gl.go (fun _ hr => zXS_astoreN X186.here hx rfl (hb hby at_68) rfl rfl (l' := #[.val (.int i0), .val (.int ((i0 &&& (2147483647 : Int32)) % (3 : Int32))), .val (.ref c0), .val (.ref b166), .unset, .unset, .unset]) rfl (zXS_goto X186.here hx rfl (pc0 := 69) (pc' := 208) rfl (hb hby at_69) (by decide) (by decide) (zXS_aloadN X186.here hx rfl (hb hby at_208) rfl rfl hr))) ?_
    have Oc197 := (Oc190.keep K186 (allS (own_ale (by omega)) all0))
    have zz196 : n0 ≤ T186.heap.size := by omega
    refine gStaticN Gl.cl (y := (⟨"com/example/concordat/concordat/vo/Vo$Phase", "of", "(Ljava/lang/String;)Lcom/example/concordat/concordat/vo/Vo$Phase;"⟩ : MethodName)) (argsL := [(.ref b166)]) (rest := []) (mc := 1) (ms := 3) X186 hx hZ hown (mvT hZ (hw _ (List.mem_of_getElem? (i := 34) rfl))) (mvT hZ (hw _ (List.mem_of_getElem? (i := 35) rfl))) (mvT hZ (hw _ (List.mem_of_getElem? (i := 2) rfl))) (mvT hZ (hw _ (List.mem_of_getElem? (i := 36) rfl))) (by decide) (backOf (W := 0) (of0 l Z a0 hw [] b166 t186 kb186 G1 ar ka c0 c1 c2 l0 t0 kb0 l1 t1 kb1 l2 t2 kb2 T186.heap n0 zz196 q0 (by assumption) Oc197 f186_E f186_V f186_C f186_A q6 q7 q8 q9 q10 q11 q12 q13 q14 q15 q16 q17 q18 q19 q20 q21 q22 q23 q24 q25 q26) hZ (hw _ (List.mem_of_getElem? (i := 36) rfl)) (hw _ (List.mem_of_getElem? (i := 2) rfl)) (by decide) (by decide)) rfl (by rw [hml]; rfl) (lenOf pd_3 rfl) rfl (by show 2 * 0 + _ ≤ _; exact Nat.le_of_eq rfl) (hb hby at_209) rfl (rfl : T186.heap = T186.heap) (by decide) (by decide) ?_
    intro v196 T196 Lc196 hQ196 X196
    obtain ⟨rfl, Nq196, K196⟩ := hQ196
    have z198 : T186.heap.size ≤ T196.heap.size := K196.1
    have N196 := Fr.app N186 Nq196
    refine Gl.go (fun _ hr => zXS_astore X196.here hx rfl (hb hby at_212) rfl rfl (l' := #[.val (.int i0), .val (.int ((i0 &&& (2147483647 : Int32)) % (3 : Int32))), .val (.ref c0), .val (.ref b166), .val (.ref c0), .unset, .unset]) rfl (zXS_aloadN X196.here hx rfl (hb hby at_214) rfl rfl hr)) ?_
    have Oc200 := (Oc197.keep K196 all0)
    have zz199 : n0 ≤ T196.heap.size := by omega
    refine gVirtualN Gl.cl (y := (⟨"com/example/concordat/concordat/vo/Vo$Phase", "label", "()Ljava/lang/String;"⟩ : MethodName)) (z := (⟨"com/example/concordat/concordat/vo/Vo$Phase", "label", "()Ljava/lang/String;"⟩ : MethodName)) (b := c0) (argsL := []) (rest := []) (mc := 0) (ms := 0) X196 hx hZ hown (mvT hZ (hw _ (List.mem_of_getElem? (i := 66) rfl))) (mvT hZ (hw _ (List.mem_of_getElem? (i := 67) rfl))) (notFace_of_selects (args := #[]) (mvT hZ (hw _ (List.mem_of_getElem? (i := 69) rfl)))) (mvT hZ (hw _ (List.mem_of_getElem? (i := 69) rfl))) (mvT hZ (hw _ (List.mem_of_getElem? (i := 68) rfl))) (by decide) (q9.ext Oc200.2) (backOf (W := 0) (lab l Z a0 hw [] c0 l0 T196.heap n0 zz199 (q10.ext Oc200.2)) hZ (hw _ (List.mem_of_getElem? (i := 70) rfl)) (hw _ (List.mem_of_getElem? (i := 2) rfl)) (by decide) (by decide)) rfl (by rw [hml]; rfl) (lenOf pd_4 rfl) rfl (by show 2 * 0 + _ ≤ _; exact Nat.le_of_eq rfl) (hb hby at_215) rfl (rfl : T196.heap = T196.heap) (by decide) (by decide) ?_
    intro v199 T199 Lc199 hQ199 X199
    obtain ⟨rfl, Nq199, e199⟩ := hQ199
    have N199 := Fr.app N196 Nq199
    refine Gl.go (fun _ hr => zXS_astore X199.here hx rfl (hb hby at_218) rfl rfl (l' := #[.val (.int i0), .val (.int ((i0 &&& (2147483647 : Int32)) % (3 : Int32))), .val (.ref c0), .val (.ref b166), .val (.ref c0), .val (.ref l0), .unset]) rfl (zXS_aload X199.here hx rfl (hb hby at_220) rfl rfl hr)) ?_
    have zz201 : n0 ≤ T196.heap.size := by omega
    refine gStaticN Gl.cl (y := (⟨"com/example/concordat/concordat/vo/Vo$Phase", "of", "(Ljava/lang/String;)Lcom/example/concordat/concordat/vo/Vo$Phase;"⟩ : MethodName)) (argsL := [(.ref l0)]) (rest := []) (mc := 1) (ms := 3) X199 hx hZ hown (mvT hZ (hw _ (List.mem_of_getElem? (i := 34) rfl))) (mvT hZ (hw _ (List.mem_of_getElem? (i := 35) rfl))) (mvT hZ (hw _ (List.mem_of_getElem? (i := 2) rfl))) (mvT hZ (hw _ (List.mem_of_getElem? (i := 36) rfl))) (by decide) (backOf (W := 0) (of0 l Z a0 hw [] l0 t0 kb0 G1 ar ka c0 c1 c2 l0 t0 kb0 l1 t1 kb1 l2 t2 kb2 T196.heap n0 zz201 q0 (by assumption) Oc200 (q11.ext Oc200.2) (q12.ext Oc200.2) (q13.ext Oc200.2) (q14.ext Oc200.2) q6 q7 q8 q9 q10 q11 q12 q13 q14 q15 q16 q17 q18 q19 q20 q21 q22 q23 q24 q25 q26) hZ (hw _ (List.mem_of_getElem? (i := 36) rfl)) (hw _ (List.mem_of_getElem? (i := 2) rfl)) (by decide) (by decide)) rfl (by rw [hml]; rfl) (lenOf pd_3 rfl) rfl (by show 2 * 0 + _ ≤ _; exact Nat.le_of_eq rfl) (hb hby at_222) rfl e199 (by decide) (by decide) ?_
    intro v201 T201 Lc201 hQ201 X201
    obtain ⟨rfl, Nq201, K201⟩ := hQ201
    have z202 : T196.heap.size ≤ T201.heap.size := K201.1
    have N201 := Fr.app N199 Nq201
    refine Gl.go (fun _ hr => zXS_astore X201.here hx rfl (hb hby at_225) rfl rfl (l' := #[.val (.int i0), .val (.int ((i0 &&& (2147483647 : Int32)) % (3 : Int32))), .val (.ref c0), .val (.ref b166), .val (.ref c0), .val (.ref l0), .val (.ref c0)]) rfl (zXS_aload X201.here hx rfl (hb hby at_227) rfl rfl (zXS_aloadN X201.here hx rfl (hb hby at_229) rfl rfl hr))) ?_
    show Gl p.tables e below _ (T201.setTop (mkF m 230 #[.val (.int i0), .val (.int ((i0 &&& (2147483647 : Int32)) % (3 : Int32))), .val (.ref c0), .val (.ref b166), .val (.ref c0), .val (.ref l0), .val (.ref c0)] [(.ref c0), (.ref c0)]))
    refine Gl.go (fun _ hr => zXT_acmpNo X201.here hx rfl (hb hby at_230) rfl rfl rfl (XT.aa_ne_f rfl) (zXS_aload X201.here hx rfl (hb hby at_233) rfl rfl (zXS_aloadN X201.here hx rfl (hb hby at_235) rfl rfl hr))) ?_
    refine Gl.go (fun _ hr => zXT_acmpNo X201.here hx rfl (hb hby at_236) rfl rfl rfl (XT.aa_ne_f rfl) (zXS_aload X201.here hx rfl (hb hby at_239) rfl rfl (zXS_aloadN X201.here hx rfl (hb hby at_241) rfl rfl hr))) ?_
    have Oc204 := (Oc200.keep K201 all0)
    have Ec205 := ((f186_E.keep K196).keep K201)
    have Fc206 := ((f186_V.keep K196 nin0).keep K201 nin0)
    have Fc207 := ((f186_C.keep K196 nin0).keep K201 nin0)
    have Vc208 := ((f186_A.keep K196 nin0).keep K201 nin0)
    refine gVirtualN Gl.cl (y := (⟨"java/lang/String", "equals", "(Ljava/lang/Object;)Z"⟩ : MethodName)) (z := (⟨"java/lang/String", "equals", "(Ljava/lang/Object;)Z"⟩ : MethodName)) (b := l0) (argsL := [(.ref b166)]) (rest := []) (mc := 0) (ms := 0) (Q := fun v h' L => ((v = some (.int 1) ∧ ([(98 : Int32), (117 : Int32), (105 : Int32), (108 : Int32), (100 : Int32), (105 : Int32), (110 : Int32), (103 : Int32)] : List Int32) = ([(98 : Int32), (117 : Int32), (105 : Int32), (108 : Int32), (100 : Int32), (105 : Int32), (110 : Int32), (103 : Int32)] : List Int32)) ∨ (v = some (.int 0) ∧ ¬ ([(98 : Int32), (117 : Int32), (105 : Int32), (108 : Int32), (100 : Int32), (105 : Int32), (110 : Int32), (103 : Int32)] : List Int32) = ([(98 : Int32), (117 : Int32), (105 : Int32), (108 : Int32), (100 : Int32), (105 : Int32), (110 : Int32), (103 : Int32)] : List Int32))) ∧ L = [] ∧ h' = T201.heap) X201 hx hZ hown (mvT hZ (hw _ (List.mem_of_getElem? (i := 71) rfl))) (mvT hZ (hw _ (List.mem_of_getElem? (i := 57) rfl))) (notFace_of_selects (args := #[]) (mvT hZ (hw _ (List.mem_of_getElem? (i := 59) rfl)))) (mvT hZ (hw _ (List.mem_of_getElem? (i := 59) rfl))) (mvT hZ (hw _ (List.mem_of_getElem? (i := 58) rfl))) (by decide) (q11.ext Oc204.2) (StrChars.Road.eqW (W := 0) hZ heq (kI := 4) (hw _ (List.mem_of_getElem? (i := 5) rfl)) (q11.ext Oc204.2) (q12.ext Oc204.2) (q13.ext Oc204.2) (q14.ext Oc204.2) hcd161 hbd161 (Nat.le_of_ble_eq_true rfl) Ec205 Fc206 Fc207 Vc208 hcd186 hbd186 (Nat.le_of_ble_eq_true rfl) (q0.ext Oc204.2) P5 (by decide) (by decide)) rfl (by rw [hml]; rfl) (lenOf pd_1 rfl) rfl (by show 2 * 0 + _ ≤ _; exact Nat.le_of_eq rfl) (hb hby at_242) rfl (rfl : T201.heap = T201.heap) (by decide) (by decide) ?_
    intro v203 T203 Lc203 hQ203 X203
    obtain ⟨hca203, rfl, e203⟩ := hQ203
    have N203 := own_fr_nil N201
    have hv203 : _ = some (Value.int 1) := hca203.elim (fun q => q.1) (fun q => absurd rfl q.2)
    subst hv203
    refine Gl.go (fun _ hr => zXS_ifNo X203.here hx rfl (hb hby at_245) rfl (XT.i0_eq_f (by decide)) (zXS_iconst X203.here hx rfl (hb hby at_248) (zXS_goto X203.here hx rfl (pc0 := 249) (pc' := 253) rfl (hb hby at_249) (by decide) (by decide) hr))) ?_
    obtain ⟨fs, hr, hrun, hended, hW, hsame⟩ := X203.leave (v := some (.int (1 : Int32))) (fun h => by rw [Bd.returns] at h; cases h)
    refine ⟨_, _, retN X203 hx (t := .boolean) Bd.returns (by simp) (hb hby at_253) hr, hrun, hended, _, _, rfl, ?_, ⟨⟨_, rfl⟩, hW, hsame.mono (by decide) (by decide)⟩⟩
    show Qlawrm Z i0 G1 ar ka c0 c1 c2 l0 t0 kb0 l1 t1 kb1 l2 t2 kb2 h0 n0 _ T203.heap _
    rw [e203]
    exact ⟨rfl, N203, ((((((((((((((Keep.refl h0 []).ext E166).ext E168).wr W170 (Or.inr (own_ale (by omega)))).wr W172 (Or.inr (own_ale (by omega)))).wr W174 (Or.inr (own_ale (by omega)))).wr W176 (Or.inr (own_ale (by omega)))).wr W178 (Or.inr (own_ale (by omega)))).wr W180 (Or.inr (own_ale (by omega)))).wr W182 (Or.inr (own_ale (by omega)))).wr W184 (Or.inr (own_ale (by omega)))).trans K186 (allS (P := fun x_ => x_ ∈ ([] : List Addr) ∨ h0.size ≤ x_) (Or.inr (own_ale (by omega))) all0)).trans K196 all0).trans K201 all0)⟩
  · refine Gl.go (fun _ hr => zXS_ifYes X0.here hx rfl (pc0 := 8) (pc' := 72) rfl (hb hby at_8) rfl (XT.i0_ne_t hc164) (by decide) (by decide) (zXS_iloadN X0.here hx rfl (hb hby at_72) rfl (zXS_iconst X0.here hx rfl (hb hby at_73) hr))) ?_
    by_cases hc209 : ((i0 &&& (2147483647 : Int32)) % (3 : Int32)) = (1 : Int32)
    · refine Gl.go (fun _ hr => zXS_icmpNo X0.here hx rfl (hb hby at_74) rfl (XT.ii_ne_f hc209) hr) ?_
      refine gGetS (host := "") Gl.cl X0 hx hZ hown (Or.inl (hw _ (List.mem_of_getElem? (i := 73) rfl))) Via.refl e0 (q4.ext q2.2) rfl (hb hby at_77) ?_
      intro T210 X210 e210
      refine Gl.go (fun _ hr => zXS_astoreN X210.here hx rfl (hb hby at_80) rfl rfl (l' := #[.val (.int i0), .val (.int ((i0 &&& (2147483647 : Int32)) % (3 : Int32))), .val (.ref c1), .unset, .unset, .unset, .unset]) rfl hr) ?_
      refine gNew Gl.cl X210 hx hZ hown (hw _ (List.mem_of_getElem? (i := 4) rfl)) (hw _ (List.mem_of_getElem? (i := 5) rfl)) (hw _ (List.mem_of_getElem? (i := 6) rfl)) e210 rfl (hb hby at_81) (by decide) (by decide) ?_
      intro T211 h211 b211 g211 X211 e211 E211 A211 D211
      have z212 : h0.size ≤ h211.size := E211.1
      have lt211 := own_alt A211.lt
      have F211_coder : Fld Z h211 b211 "java/lang/String" "coder" "B" (.int (0 : Int32)) := D211 (Or.inr (hw _ (List.mem_of_getElem? (i := 31) rfl))) (ty := .byte) (by decide)
      have F211_value : Fld Z h211 b211 "java/lang/String" "value" "[B" .null := D211 (Or.inr (hw _ (List.mem_of_getElem? (i := 33) rfl))) (ty := (.array .byte)) (by decide)
      refine Gl.go (fun _ hr => zXS_dup X211.here hx rfl (hb hby at_84) rfl rfl (zXS_bipush X211.here hx rfl (hb hby at_85) hr)) ?_
      refine gNewP Gl.cl X211 hx hZ (hw _ (List.mem_of_getElem? (i := 7) rfl)) e211 rfl (hb hby at_87) rfl (by decide) (cap := 9) (by decide) (by decide) (by decide) (by decide) ?_
      intro T213 h213 b213 k213 g213 X213 e213 E213 A213
      have z214 : h211.size ≤ h213.size := E213.1
      have lt213 := own_alt A213.lt
      have V213 : Arv Z h213 b213 k213 .char (9 : Int32) [(.int (0 : Int32)), (.int (0 : Int32)), (.int (0 : Int32)), (.int (0 : Int32)), (.int (0 : Int32)), (.int (0 : Int32)), (.int (0 : Int32)), (.int (0 : Int32)), (.int (0 : Int32))] (.int (0 : Int32)) := (Arv.new A213 (by decide)).pad (pad_rep [] (.int (0 : Int32)) 9)
      refine Gl.go (fun _ hr => zXS_dup X213.here hx rfl (hb hby at_89) rfl rfl (zXS_iconst X213.here hx rfl (hb hby at_90) (zXS_bipush X213.here hx rfl (hb hby at_91) hr))) ?_
      obtain ⟨c215, a215, q215, s215, m215, H215, U215⟩ := id V213
      refine gstC Gl.cl X213 hx hZ e213 a215 (j := (0 : Int32)) (inb_of s215 ⟨(by decide), (by decide)⟩) rfl rfl (hb hby at_93) ?_
      intro T215 h215 X215 e215 W215
      have z216 : h213.size ≤ h215.size := (Keep.of_wr W215).1
      have V215 : Arv Z h215 b213 k213 .char (9 : Int32) [(.int (111 : Int32)), (.int (0 : Int32)), (.int (0 : Int32)), (.int (0 : Int32)), (.int (0 : Int32)), (.int (0 : Int32)), (.int (0 : Int32)), (.int (0 : Int32)), (.int (0 : Int32))] (.int (0 : Int32)) := Arv.set a215 q215 s215 m215 H215 U215 rfl W215 0 rfl (Nat.le_of_ble_eq_true rfl)
      have N215 := Fr.snoc X215 N0 (own_ale (by omega))
      refine Gl.go (fun _ hr => zXS_dup X215.here hx rfl (hb hby at_94) rfl rfl (zXS_iconst X215.here hx rfl (hb hby at_95) (zXS_bipush X215.here hx rfl (hb hby at_96) hr))) ?_
      obtain ⟨c217, a217, q217, s217, m217, H217, U217⟩ := id V215
      refine gstC Gl.cl X215 hx hZ e215 a217 (j := (1 : Int32)) (inb_of s217 ⟨(by decide), (by decide)⟩) rfl rfl (hb hby at_98) ?_
      intro T217 h217 X217 e217 W217
      have z218 : h215.size ≤ h217.size := (Keep.of_wr W217).1
      have V217 : Arv Z h217 b213 k213 .char (9 : Int32) [(.int (111 : Int32)), (.int (112 : Int32)), (.int (0 : Int32)), (.int (0 : Int32)), (.int (0 : Int32)), (.int (0 : Int32)), (.int (0 : Int32)), (.int (0 : Int32)), (.int (0 : Int32))] (.int (0 : Int32)) := Arv.set a217 q217 s217 m217 H217 U217 rfl W217 1 rfl (Nat.le_of_ble_eq_true rfl)
      have N217 := Fr.snoc X217 N215 (own_ale (by omega))
      refine Gl.go (fun _ hr => zXS_dup X217.here hx rfl (hb hby at_99) rfl rfl (zXS_iconst X217.here hx rfl (hb hby at_100) (zXS_bipush X217.here hx rfl (hb hby at_101) hr))) ?_
      obtain ⟨c219, a219, q219, s219, m219, H219, U219⟩ := id V217
      refine gstC Gl.cl X217 hx hZ e217 a219 (j := (2 : Int32)) (inb_of s219 ⟨(by decide), (by decide)⟩) rfl rfl (hb hby at_103) ?_
      intro T219 h219 X219 e219 W219
      have z220 : h217.size ≤ h219.size := (Keep.of_wr W219).1
      have V219 : Arv Z h219 b213 k213 .char (9 : Int32) [(.int (111 : Int32)), (.int (112 : Int32)), (.int (101 : Int32)), (.int (0 : Int32)), (.int (0 : Int32)), (.int (0 : Int32)), (.int (0 : Int32)), (.int (0 : Int32)), (.int (0 : Int32))] (.int (0 : Int32)) := Arv.set a219 q219 s219 m219 H219 U219 rfl W219 2 rfl (Nat.le_of_ble_eq_true rfl)
      have N219 := Fr.snoc X219 N217 (own_ale (by omega))
      refine Gl.go (fun _ hr => zXS_dup X219.here hx rfl (hb hby at_104) rfl rfl (zXS_iconst X219.here hx rfl (hb hby at_105) (zXS_bipush X219.here hx rfl (hb hby at_106) hr))) ?_
      obtain ⟨c221, a221, q221, s221, m221, H221, U221⟩ := id V219
      refine gstC Gl.cl X219 hx hZ e219 a221 (j := (3 : Int32)) (inb_of s221 ⟨(by decide), (by decide)⟩) rfl rfl (hb hby at_108) ?_
      intro T221 h221 X221 e221 W221
      have z222 : h219.size ≤ h221.size := (Keep.of_wr W221).1
      have V221 : Arv Z h221 b213 k213 .char (9 : Int32) [(.int (111 : Int32)), (.int (112 : Int32)), (.int (101 : Int32)), (.int (114 : Int32)), (.int (0 : Int32)), (.int (0 : Int32)), (.int (0 : Int32)), (.int (0 : Int32)), (.int (0 : Int32))] (.int (0 : Int32)) := Arv.set a221 q221 s221 m221 H221 U221 rfl W221 3 rfl (Nat.le_of_ble_eq_true rfl)
      have N221 := Fr.snoc X221 N219 (own_ale (by omega))
      refine Gl.go (fun _ hr => zXS_dup X221.here hx rfl (hb hby at_109) rfl rfl (zXS_iconst X221.here hx rfl (hb hby at_110) (zXS_bipush X221.here hx rfl (hb hby at_111) hr))) ?_
      obtain ⟨c223, a223, q223, s223, m223, H223, U223⟩ := id V221
      refine gstC Gl.cl X221 hx hZ e221 a223 (j := (4 : Int32)) (inb_of s223 ⟨(by decide), (by decide)⟩) rfl rfl (hb hby at_113) ?_
      intro T223 h223 X223 e223 W223
      have z224 : h221.size ≤ h223.size := (Keep.of_wr W223).1
      have V223 : Arv Z h223 b213 k213 .char (9 : Int32) [(.int (111 : Int32)), (.int (112 : Int32)), (.int (101 : Int32)), (.int (114 : Int32)), (.int (97 : Int32)), (.int (0 : Int32)), (.int (0 : Int32)), (.int (0 : Int32)), (.int (0 : Int32))] (.int (0 : Int32)) := Arv.set a223 q223 s223 m223 H223 U223 rfl W223 4 rfl (Nat.le_of_ble_eq_true rfl)
      have N223 := Fr.snoc X223 N221 (own_ale (by omega))
      refine Gl.go (fun _ hr => zXS_dup X223.here hx rfl (hb hby at_114) rfl rfl (zXS_iconst X223.here hx rfl (hb hby at_115) (zXS_bipush X223.here hx rfl (hb hby at_116) hr))) ?_
      obtain ⟨c225, a225, q225, s225, m225, H225, U225⟩ := id V223
      refine gstC Gl.cl X223 hx hZ e223 a225 (j := (5 : Int32)) (inb_of s225 ⟨(by decide), (by decide)⟩) rfl rfl (hb hby at_118) ?_
      intro T225 h225 X225 e225 W225
      have z226 : h223.size ≤ h225.size := (Keep.of_wr W225).1
      have V225 : Arv Z h225 b213 k213 .char (9 : Int32) [(.int (111 : Int32)), (.int (112 : Int32)), (.int (101 : Int32)), (.int (114 : Int32)), (.int (97 : Int32)), (.int (116 : Int32)), (.int (0 : Int32)), (.int (0 : Int32)), (.int (0 : Int32))] (.int (0 : Int32)) := Arv.set a225 q225 s225 m225 H225 U225 rfl W225 5 rfl (Nat.le_of_ble_eq_true rfl)
      have N225 := Fr.snoc X225 N223 (own_ale (by omega))
      refine Gl.go (fun _ hr => zXS_dup X225.here hx rfl (hb hby at_119) rfl rfl (zXS_bipush X225.here hx rfl (hb hby at_120) (zXS_bipush X225.here hx rfl (hb hby at_122) hr))) ?_
      obtain ⟨c227, a227, q227, s227, m227, H227, U227⟩ := id V225
      refine gstC Gl.cl X225 hx hZ e225 a227 (j := (6 : Int32)) (inb_of s227 ⟨(by decide), (by decide)⟩) rfl rfl (hb hby at_124) ?_
      intro T227 h227 X227 e227 W227
      have z228 : h225.size ≤ h227.size := (Keep.of_wr W227).1
      have V227 : Arv Z h227 b213 k213 .char (9 : Int32) [(.int (111 : Int32)), (.int (112 : Int32)), (.int (101 : Int32)), (.int (114 : Int32)), (.int (97 : Int32)), (.int (116 : Int32)), (.int (105 : Int32)), (.int (0 : Int32)), (.int (0 : Int32))] (.int (0 : Int32)) := Arv.set a227 q227 s227 m227 H227 U227 rfl W227 6 rfl (Nat.le_of_ble_eq_true rfl)
      have N227 := Fr.snoc X227 N225 (own_ale (by omega))
      refine Gl.go (fun _ hr => zXS_dup X227.here hx rfl (hb hby at_125) rfl rfl (zXS_bipush X227.here hx rfl (hb hby at_126) (zXS_bipush X227.here hx rfl (hb hby at_128) hr))) ?_
      obtain ⟨c229, a229, q229, s229, m229, H229, U229⟩ := id V227
      refine gstC Gl.cl X227 hx hZ e227 a229 (j := (7 : Int32)) (inb_of s229 ⟨(by decide), (by decide)⟩) rfl rfl (hb hby at_130) ?_
      intro T229 h229 X229 e229 W229
      have z230 : h227.size ≤ h229.size := (Keep.of_wr W229).1
      have V229 : Arv Z h229 b213 k213 .char (9 : Int32) [(.int (111 : Int32)), (.int (112 : Int32)), (.int (101 : Int32)), (.int (114 : Int32)), (.int (97 : Int32)), (.int (116 : Int32)), (.int (105 : Int32)), (.int (110 : Int32)), (.int (0 : Int32))] (.int (0 : Int32)) := Arv.set a229 q229 s229 m229 H229 U229 rfl W229 7 rfl (Nat.le_of_ble_eq_true rfl)
      have N229 := Fr.snoc X229 N227 (own_ale (by omega))
      refine Gl.go (fun _ hr => zXS_dup X229.here hx rfl (hb hby at_131) rfl rfl (zXS_bipush X229.here hx rfl (hb hby at_132) (zXS_bipush X229.here hx rfl (hb hby at_134) hr))) ?_
      obtain ⟨c231, a231, q231, s231, m231, H231, U231⟩ := id V229
      refine gstC Gl.cl X229 hx hZ e229 a231 (j := (8 : Int32)) (inb_of s231 ⟨(by decide), (by decide)⟩) rfl rfl (hb hby at_136) ?_
      intro T231 h231 X231 e231 W231
      have z232 : h229.size ≤ h231.size := (Keep.of_wr W231).1
      have V231 : Arv Z h231 b213 k213 .char (9 : Int32) [(.int (111 : Int32)), (.int (112 : Int32)), (.int (101 : Int32)), (.int (114 : Int32)), (.int (97 : Int32)), (.int (116 : Int32)), (.int (105 : Int32)), (.int (110 : Int32)), (.int (103 : Int32))] (.int (0 : Int32)) := Arv.set a231 q231 s231 m231 H231 U231 rfl W231 8 rfl (Nat.le_of_ble_eq_true rfl)
      have N231 := Fr.snoc X231 N229 (own_ale (by omega))
      have hp233 : ∀ c ∈ ([(111 : Int32), (112 : Int32), (101 : Int32), (114 : Int32), (97 : Int32), (116 : Int32), (105 : Int32), (110 : Int32), (103 : Int32)] : List Int32), Lat c := (own_cS (by decide) (own_cS (by decide) (own_cS (by decide) (own_cS (by decide) (own_cS (by decide) (own_cS (by decide) (own_cS (by decide) (own_cS (by decide) (own_cS (by decide) own_c0)))))))))
      have Ec234 := ((((((((((A211.ext E213).wr W215).wr W217).wr W219).wr W221).wr W223).wr W225).wr W227).wr W229).wr W231)
      have Fc235 := ((((((((((F211_value.ext E213).other W215 (Or.inl (own_ane (by omega)))).other W217 (Or.inl (own_ane (by omega)))).other W219 (Or.inl (own_ane (by omega)))).other W221 (Or.inl (own_ane (by omega)))).other W223 (Or.inl (own_ane (by omega)))).other W225 (Or.inl (own_ane (by omega)))).other W227 (Or.inl (own_ane (by omega)))).other W229 (Or.inl (own_ane (by omega)))).other W231 (Or.inl (own_ane (by omega))))
      have Fc236 := ((((((((((F211_coder.ext E213).other W215 (Or.inl (own_ane (by omega)))).other W217 (Or.inl (own_ane (by omega)))).other W219 (Or.inl (own_ane (by omega)))).other W221 (Or.inl (own_ane (by omega)))).other W223 (Or.inl (own_ane (by omega)))).other W225 (Or.inl (own_ane (by omega)))).other W227 (Or.inl (own_ane (by omega)))).other W229 (Or.inl (own_ane (by omega)))).other W231 (Or.inl (own_ane (by omega))))
      have Oc237 := (((((((((((q2.ext E211).ext E213).wr W215 (own_ale (by omega))).wr W217 (own_ale (by omega))).wr W219 (own_ale (by omega))).wr W221 (own_ale (by omega))).wr W223 (own_ale (by omega))).wr W225 (own_ale (by omega))).wr W227 (own_ale (by omega))).wr W229 (own_ale (by omega))).wr W231 (own_ale (by omega)))
      refine gSpecialN Gl.cl (y := (⟨"java/lang/String", "<init>", "([C)V"⟩ : MethodName)) (b := b211) (argsL := [(.ref b213)]) (rest := [(.ref b211)]) (mc := 1) (ms := 9) X231 hx hZ hown rfl (mvT hZ (hw _ (List.mem_of_getElem? (i := 8) rfl))) (mvT hZ (hw _ (List.mem_of_getElem? (i := 9) rfl))) (mvT hZ (hw _ (List.mem_of_getElem? (i := 10) rfl))) (by decide) (StrChars.Road.backV (W := 1) hZ hws (kI := 4) (hw _ (List.mem_of_getElem? (i := 5) rfl)) (cs := ([(111 : Int32), (112 : Int32), (101 : Int32), (114 : Int32), (97 : Int32), (116 : Int32), (105 : Int32), (110 : Int32), (103 : Int32)] : List Int32)) (bs := ([(111 : Int32), (112 : Int32), (101 : Int32), (114 : Int32), (97 : Int32), (116 : Int32), (105 : Int32), (110 : Int32), (103 : Int32)] : List Int32).map (fun c => c.toInt8.toInt32)) (n := 9) (n0 := n0) (by omega) (by omega) Ec234 Fc235 Fc236 V231 (q0.ext Oc237.2) P5 rfl rfl (by decide) (by decide) hp233 rfl (by decide) (by decide)) rfl (by rw [hml]; rfl) (lenOf pd_2 rfl) rfl (by show 2 * 0 + _ ≤ _; exact Nat.le_of_eq rfl) (hb hby at_137) rfl e231 (by decide) (by decide) ?_
      intro v233 T233 Lc233 hQ233 X233
      obtain ⟨rfl, Nq233, K233, f233_E, f233_C, t233, kb233, g233_0, g233_1, g233_2, f233_V, f233_A⟩ := hQ233
      have z238 : h231.size ≤ T233.heap.size := K233.1
      have N233 := Fr.app N231 Nq233
      have lt239 := own_alt f233_E.lt
      have lt240 := own_alt f233_C.lt
      have lt241 := own_alt f233_V.lt
      have lt242 := own_alt f233_A.lt
      have hcd233 : StrChars.Road.CodA ([(111 : Int32), (112 : Int32), (101 : Int32), (114 : Int32), (97 : Int32), (116 : Int32), (105 : Int32), (110 : Int32), (103 : Int32)] : List Int32) 0 (9 : Int32) ((([(111 : Int32), (112 : Int32), (101 : Int32), (114 : Int32), (97 : Int32), (116 : Int32), (105 : Int32), (110 : Int32), (103 : Int32)] : List Int32).map (fun c => c.toInt8.toInt32)).map Value.int) := StrChars.Road.codOf (n := 9) rfl (fun c hc => (hp233 c hc).2)
      have hbd233 : ∀ c ∈ ([(111 : Int32), (112 : Int32), (101 : Int32), (114 : Int32), (97 : Int32), (116 : Int32), (105 : Int32), (110 : Int32), (103 : Int32)] : List Int32), Wid c := own_up hp233
      refine Gl.go (fun _ hr => zXS_astoreN X233.here hx rfl (hb hby at_140) rfl rfl (l' := #[.val (.int i0), .val (.int ((i0 &&& (2147483647 : Int32)) % (3 : Int32))), .val (.ref c1), .val (.ref b211), .unset, .unset, .unset]) rfl (zXS_goto X233.here hx rfl (pc0 := 141) (pc' := 208) rfl (hb hby at_141) (by decide) (by decide) (zXS_aloadN X233.here hx rfl (hb hby at_208) rfl rfl hr))) ?_
      have Oc244 := (Oc237.keep K233 (allS (own_ale (by omega)) all0))
      have zz243 : n0 ≤ T233.heap.size := by omega
      refine gStaticN Gl.cl (y := (⟨"com/example/concordat/concordat/vo/Vo$Phase", "of", "(Ljava/lang/String;)Lcom/example/concordat/concordat/vo/Vo$Phase;"⟩ : MethodName)) (argsL := [(.ref b211)]) (rest := []) (mc := 1) (ms := 3) X233 hx hZ hown (mvT hZ (hw _ (List.mem_of_getElem? (i := 34) rfl))) (mvT hZ (hw _ (List.mem_of_getElem? (i := 35) rfl))) (mvT hZ (hw _ (List.mem_of_getElem? (i := 2) rfl))) (mvT hZ (hw _ (List.mem_of_getElem? (i := 36) rfl))) (by decide) (backOf (W := 0) (of1 l Z a0 hw [] b211 t233 kb233 G1 ar ka c0 c1 c2 l0 t0 kb0 l1 t1 kb1 l2 t2 kb2 T233.heap n0 zz243 q0 (by assumption) Oc244 f233_E f233_V f233_C f233_A q6 q7 q8 q9 q10 q11 q12 q13 q14 q15 q16 q17 q18 q19 q20 q21 q22 q23 q24 q25 q26) hZ (hw _ (List.mem_of_getElem? (i := 36) rfl)) (hw _ (List.mem_of_getElem? (i := 2) rfl)) (by decide) (by decide)) rfl (by rw [hml]; rfl) (lenOf pd_3 rfl) rfl (by show 2 * 0 + _ ≤ _; exact Nat.le_of_eq rfl) (hb hby at_209) rfl (rfl : T233.heap = T233.heap) (by decide) (by decide) ?_
      intro v243 T243 Lc243 hQ243 X243
      obtain ⟨rfl, Nq243, K243⟩ := hQ243
      have z245 : T233.heap.size ≤ T243.heap.size := K243.1
      have N243 := Fr.app N233 Nq243
      refine Gl.go (fun _ hr => zXS_astore X243.here hx rfl (hb hby at_212) rfl rfl (l' := #[.val (.int i0), .val (.int ((i0 &&& (2147483647 : Int32)) % (3 : Int32))), .val (.ref c1), .val (.ref b211), .val (.ref c1), .unset, .unset]) rfl (zXS_aloadN X243.here hx rfl (hb hby at_214) rfl rfl hr)) ?_
      show Gl p.tables e below _ (T243.setTop (mkF m 215 #[.val (.int i0), .val (.int ((i0 &&& (2147483647 : Int32)) % (3 : Int32))), .val (.ref c1), .val (.ref b211), .val (.ref c1), .unset, .unset] [(.ref c1)]))
      have Oc247 := (Oc244.keep K243 all0)
      have zz246 : n0 ≤ T243.heap.size := by omega
      refine gVirtualN Gl.cl (y := (⟨"com/example/concordat/concordat/vo/Vo$Phase", "label", "()Ljava/lang/String;"⟩ : MethodName)) (z := (⟨"com/example/concordat/concordat/vo/Vo$Phase", "label", "()Ljava/lang/String;"⟩ : MethodName)) (b := c1) (argsL := []) (rest := []) (mc := 0) (ms := 0) X243 hx hZ hown (mvT hZ (hw _ (List.mem_of_getElem? (i := 66) rfl))) (mvT hZ (hw _ (List.mem_of_getElem? (i := 67) rfl))) (notFace_of_selects (args := #[]) (mvT hZ (hw _ (List.mem_of_getElem? (i := 69) rfl)))) (mvT hZ (hw _ (List.mem_of_getElem? (i := 69) rfl))) (mvT hZ (hw _ (List.mem_of_getElem? (i := 68) rfl))) (by decide) (q15.ext Oc247.2) (backOf (W := 0) (lab l Z a0 hw [] c1 l1 T243.heap n0 zz246 (q16.ext Oc247.2)) hZ (hw _ (List.mem_of_getElem? (i := 70) rfl)) (hw _ (List.mem_of_getElem? (i := 2) rfl)) (by decide) (by decide)) rfl (by rw [hml]; rfl) (lenOf pd_4 rfl) rfl (by show 2 * 0 + _ ≤ _; exact Nat.le_of_eq rfl) (hb hby at_215) rfl (rfl : T243.heap = T243.heap) (by decide) (by decide) ?_
      intro v246 T246 Lc246 hQ246 X246
      obtain ⟨rfl, Nq246, e246⟩ := hQ246
      have N246 := Fr.app N243 Nq246
      refine Gl.go (fun _ hr => zXS_astore X246.here hx rfl (hb hby at_218) rfl rfl (l' := #[.val (.int i0), .val (.int ((i0 &&& (2147483647 : Int32)) % (3 : Int32))), .val (.ref c1), .val (.ref b211), .val (.ref c1), .val (.ref l1), .unset]) rfl (zXS_aload X246.here hx rfl (hb hby at_220) rfl rfl hr)) ?_
      have zz248 : n0 ≤ T243.heap.size := by omega
      refine gStaticN Gl.cl (y := (⟨"com/example/concordat/concordat/vo/Vo$Phase", "of", "(Ljava/lang/String;)Lcom/example/concordat/concordat/vo/Vo$Phase;"⟩ : MethodName)) (argsL := [(.ref l1)]) (rest := []) (mc := 1) (ms := 3) X246 hx hZ hown (mvT hZ (hw _ (List.mem_of_getElem? (i := 34) rfl))) (mvT hZ (hw _ (List.mem_of_getElem? (i := 35) rfl))) (mvT hZ (hw _ (List.mem_of_getElem? (i := 2) rfl))) (mvT hZ (hw _ (List.mem_of_getElem? (i := 36) rfl))) (by decide) (backOf (W := 0) (of1 l Z a0 hw [] l1 t1 kb1 G1 ar ka c0 c1 c2 l0 t0 kb0 l1 t1 kb1 l2 t2 kb2 T243.heap n0 zz248 q0 (by assumption) Oc247 (q17.ext Oc247.2) (q18.ext Oc247.2) (q19.ext Oc247.2) (q20.ext Oc247.2) q6 q7 q8 q9 q10 q11 q12 q13 q14 q15 q16 q17 q18 q19 q20 q21 q22 q23 q24 q25 q26) hZ (hw _ (List.mem_of_getElem? (i := 36) rfl)) (hw _ (List.mem_of_getElem? (i := 2) rfl)) (by decide) (by decide)) rfl (by rw [hml]; rfl) (lenOf pd_3 rfl) rfl (by show 2 * 0 + _ ≤ _; exact Nat.le_of_eq rfl) (hb hby at_222) rfl e246 (by decide) (by decide) ?_
      intro v248 T248 Lc248 hQ248 X248
      obtain ⟨rfl, Nq248, K248⟩ := hQ248
      have z249 : T243.heap.size ≤ T248.heap.size := K248.1
      have N248 := Fr.app N246 Nq248
      refine Gl.go (fun _ hr => zXS_astore X248.here hx rfl (hb hby at_225) rfl rfl (l' := #[.val (.int i0), .val (.int ((i0 &&& (2147483647 : Int32)) % (3 : Int32))), .val (.ref c1), .val (.ref b211), .val (.ref c1), .val (.ref l1), .val (.ref c1)]) rfl (zXS_aload X248.here hx rfl (hb hby at_227) rfl rfl (zXS_aloadN X248.here hx rfl (hb hby at_229) rfl rfl hr))) ?_
      refine Gl.go (fun _ hr => zXT_acmpNo X248.here hx rfl (hb hby at_230) rfl rfl rfl (XT.aa_ne_f rfl) (zXS_aload X248.here hx rfl (hb hby at_233) rfl rfl (zXS_aloadN X248.here hx rfl (hb hby at_235) rfl rfl hr))) ?_
      refine Gl.go (fun _ hr => zXT_acmpNo X248.here hx rfl (hb hby at_236) rfl rfl rfl (XT.aa_ne_f rfl) (zXS_aload X248.here hx rfl (hb hby at_239) rfl rfl (zXS_aloadN X248.here hx rfl (hb hby at_241) rfl rfl hr))) ?_
      have Oc251 := (Oc247.keep K248 all0)
      have Ec252 := ((f233_E.keep K243).keep K248)
      have Fc253 := ((f233_V.keep K243 nin0).keep K248 nin0)
      have Fc254 := ((f233_C.keep K243 nin0).keep K248 nin0)
      have Vc255 := ((f233_A.keep K243 nin0).keep K248 nin0)
      refine gVirtualN Gl.cl (y := (⟨"java/lang/String", "equals", "(Ljava/lang/Object;)Z"⟩ : MethodName)) (z := (⟨"java/lang/String", "equals", "(Ljava/lang/Object;)Z"⟩ : MethodName)) (b := l1) (argsL := [(.ref b211)]) (rest := []) (mc := 0) (ms := 0) (Q := fun v h' L => ((v = some (.int 1) ∧ ([(111 : Int32), (112 : Int32), (101 : Int32), (114 : Int32), (97 : Int32), (116 : Int32), (105 : Int32), (110 : Int32), (103 : Int32)] : List Int32) = ([(111 : Int32), (112 : Int32), (101 : Int32), (114 : Int32), (97 : Int32), (116 : Int32), (105 : Int32), (110 : Int32), (103 : Int32)] : List Int32)) ∨ (v = some (.int 0) ∧ ¬ ([(111 : Int32), (112 : Int32), (101 : Int32), (114 : Int32), (97 : Int32), (116 : Int32), (105 : Int32), (110 : Int32), (103 : Int32)] : List Int32) = ([(111 : Int32), (112 : Int32), (101 : Int32), (114 : Int32), (97 : Int32), (116 : Int32), (105 : Int32), (110 : Int32), (103 : Int32)] : List Int32))) ∧ L = [] ∧ h' = T248.heap) X248 hx hZ hown (mvT hZ (hw _ (List.mem_of_getElem? (i := 71) rfl))) (mvT hZ (hw _ (List.mem_of_getElem? (i := 57) rfl))) (notFace_of_selects (args := #[]) (mvT hZ (hw _ (List.mem_of_getElem? (i := 59) rfl)))) (mvT hZ (hw _ (List.mem_of_getElem? (i := 59) rfl))) (mvT hZ (hw _ (List.mem_of_getElem? (i := 58) rfl))) (by decide) (q17.ext Oc251.2) (StrChars.Road.eqW (W := 0) hZ heq (kI := 4) (hw _ (List.mem_of_getElem? (i := 5) rfl)) (q17.ext Oc251.2) (q18.ext Oc251.2) (q19.ext Oc251.2) (q20.ext Oc251.2) hcd162 hbd162 (Nat.le_of_ble_eq_true rfl) Ec252 Fc253 Fc254 Vc255 hcd233 hbd233 (Nat.le_of_ble_eq_true rfl) (q0.ext Oc251.2) P5 (by decide) (by decide)) rfl (by rw [hml]; rfl) (lenOf pd_1 rfl) rfl (by show 2 * 0 + _ ≤ _; exact Nat.le_of_eq rfl) (hb hby at_242) rfl (rfl : T248.heap = T248.heap) (by decide) (by decide) ?_
      intro v250 T250 Lc250 hQ250 X250
      obtain ⟨hca250, rfl, e250⟩ := hQ250
      have N250 := own_fr_nil N248
      have hv250 : _ = some (Value.int 1) := hca250.elim (fun q => q.1) (fun q => absurd rfl q.2)
      subst hv250
      refine Gl.go (fun _ hr => zXS_ifNo X250.here hx rfl (hb hby at_245) rfl (XT.i0_eq_f (by decide)) (zXS_iconst X250.here hx rfl (hb hby at_248) (zXS_goto X250.here hx rfl (pc0 := 249) (pc' := 253) rfl (hb hby at_249) (by decide) (by decide) hr))) ?_
      obtain ⟨fs, hr, hrun, hended, hW, hsame⟩ := X250.leave (v := some (.int (1 : Int32))) (fun h => by rw [Bd.returns] at h; cases h)
      refine ⟨_, _, retN X250 hx (t := .boolean) Bd.returns (by simp) (hb hby at_253) hr, hrun, hended, _, _, rfl, ?_, ⟨⟨_, rfl⟩, hW, hsame.mono (by decide) (by decide)⟩⟩
      show Qlawrm Z i0 G1 ar ka c0 c1 c2 l0 t0 kb0 l1 t1 kb1 l2 t2 kb2 h0 n0 _ T250.heap _
      rw [e250]
      exact ⟨rfl, N250, (((((((((((((((Keep.refl h0 []).ext E211).ext E213).wr W215 (Or.inr (own_ale (by omega)))).wr W217 (Or.inr (own_ale (by omega)))).wr W219 (Or.inr (own_ale (by omega)))).wr W221 (Or.inr (own_ale (by omega)))).wr W223 (Or.inr (own_ale (by omega)))).wr W225 (Or.inr (own_ale (by omega)))).wr W227 (Or.inr (own_ale (by omega)))).wr W229 (Or.inr (own_ale (by omega)))).wr W231 (Or.inr (own_ale (by omega)))).trans K233 (allS (P := fun x_ => x_ ∈ ([] : List Addr) ∨ h0.size ≤ x_) (Or.inr (own_ale (by omega))) all0)).trans K243 all0).trans K248 all0)⟩
    · refine Gl.go (fun _ hr => zXS_icmpYes X0.here hx rfl (pc0 := 74) (pc' := 144) rfl (hb hby at_74) rfl (XT.ii_ne_t hc209) (by decide) (by decide) hr) ?_
      refine gGetS (host := "") Gl.cl X0 hx hZ hown (Or.inl (hw _ (List.mem_of_getElem? (i := 72) rfl))) Via.refl e0 (q5.ext q2.2) rfl (hb hby at_144) ?_
      intro T256 X256 e256
      refine Gl.go (fun _ hr => zXS_astoreN X256.here hx rfl (hb hby at_147) rfl rfl (l' := #[.val (.int i0), .val (.int ((i0 &&& (2147483647 : Int32)) % (3 : Int32))), .val (.ref c2), .unset, .unset, .unset, .unset]) rfl hr) ?_
      refine gNew Gl.cl X256 hx hZ hown (hw _ (List.mem_of_getElem? (i := 4) rfl)) (hw _ (List.mem_of_getElem? (i := 5) rfl)) (hw _ (List.mem_of_getElem? (i := 6) rfl)) e256 rfl (hb hby at_148) (by decide) (by decide) ?_
      intro T257 h257 b257 g257 X257 e257 E257 A257 D257
      have z258 : h0.size ≤ h257.size := E257.1
      have lt257 := own_alt A257.lt
      have F257_coder : Fld Z h257 b257 "java/lang/String" "coder" "B" (.int (0 : Int32)) := D257 (Or.inr (hw _ (List.mem_of_getElem? (i := 31) rfl))) (ty := .byte) (by decide)
      have F257_value : Fld Z h257 b257 "java/lang/String" "value" "[B" .null := D257 (Or.inr (hw _ (List.mem_of_getElem? (i := 33) rfl))) (ty := (.array .byte)) (by decide)
      refine Gl.go (fun _ hr => zXS_dup X257.here hx rfl (hb hby at_151) rfl rfl (zXS_bipush X257.here hx rfl (hb hby at_152) hr)) ?_
      refine gNewP Gl.cl X257 hx hZ (hw _ (List.mem_of_getElem? (i := 7) rfl)) e257 rfl (hb hby at_154) rfl (by decide) (cap := 9) (by decide) (by decide) (by decide) (by decide) ?_
      intro T259 h259 b259 k259 g259 X259 e259 E259 A259
      have z260 : h257.size ≤ h259.size := E259.1
      have lt259 := own_alt A259.lt
      have V259 : Arv Z h259 b259 k259 .char (9 : Int32) [(.int (0 : Int32)), (.int (0 : Int32)), (.int (0 : Int32)), (.int (0 : Int32)), (.int (0 : Int32)), (.int (0 : Int32)), (.int (0 : Int32)), (.int (0 : Int32)), (.int (0 : Int32))] (.int (0 : Int32)) := (Arv.new A259 (by decide)).pad (pad_rep [] (.int (0 : Int32)) 9)
      refine Gl.go (fun _ hr => zXS_dup X259.here hx rfl (hb hby at_156) rfl rfl (zXS_iconst X259.here hx rfl (hb hby at_157) (zXS_bipush X259.here hx rfl (hb hby at_158) hr))) ?_
      obtain ⟨c261, a261, q261, s261, m261, H261, U261⟩ := id V259
      refine gstC Gl.cl X259 hx hZ e259 a261 (j := (0 : Int32)) (inb_of s261 ⟨(by decide), (by decide)⟩) rfl rfl (hb hby at_160) ?_
      intro T261 h261 X261 e261 W261
      have z262 : h259.size ≤ h261.size := (Keep.of_wr W261).1
      have V261 : Arv Z h261 b259 k259 .char (9 : Int32) [(.int (119 : Int32)), (.int (0 : Int32)), (.int (0 : Int32)), (.int (0 : Int32)), (.int (0 : Int32)), (.int (0 : Int32)), (.int (0 : Int32)), (.int (0 : Int32)), (.int (0 : Int32))] (.int (0 : Int32)) := Arv.set a261 q261 s261 m261 H261 U261 rfl W261 0 rfl (Nat.le_of_ble_eq_true rfl)
      have N261 := Fr.snoc X261 N0 (own_ale (by omega))
      refine Gl.go (fun _ hr => zXS_dup X261.here hx rfl (hb hby at_161) rfl rfl (zXS_iconst X261.here hx rfl (hb hby at_162) (zXS_bipush X261.here hx rfl (hb hby at_163) hr))) ?_
      obtain ⟨c263, a263, q263, s263, m263, H263, U263⟩ := id V261
      refine gstC Gl.cl X261 hx hZ e261 a263 (j := (1 : Int32)) (inb_of s263 ⟨(by decide), (by decide)⟩) rfl rfl (hb hby at_165) ?_
      intro T263 h263 X263 e263 W263
      have z264 : h261.size ≤ h263.size := (Keep.of_wr W263).1
      have V263 : Arv Z h263 b259 k259 .char (9 : Int32) [(.int (119 : Int32)), (.int (105 : Int32)), (.int (0 : Int32)), (.int (0 : Int32)), (.int (0 : Int32)), (.int (0 : Int32)), (.int (0 : Int32)), (.int (0 : Int32)), (.int (0 : Int32))] (.int (0 : Int32)) := Arv.set a263 q263 s263 m263 H263 U263 rfl W263 1 rfl (Nat.le_of_ble_eq_true rfl)
      have N263 := Fr.snoc X263 N261 (own_ale (by omega))
      refine Gl.go (fun _ hr => zXS_dup X263.here hx rfl (hb hby at_166) rfl rfl (zXS_iconst X263.here hx rfl (hb hby at_167) (zXS_bipush X263.here hx rfl (hb hby at_168) hr))) ?_
      obtain ⟨c265, a265, q265, s265, m265, H265, U265⟩ := id V263
      refine gstC Gl.cl X263 hx hZ e263 a265 (j := (2 : Int32)) (inb_of s265 ⟨(by decide), (by decide)⟩) rfl rfl (hb hby at_170) ?_
      intro T265 h265 X265 e265 W265
      have z266 : h263.size ≤ h265.size := (Keep.of_wr W265).1
      have V265 : Arv Z h265 b259 k259 .char (9 : Int32) [(.int (119 : Int32)), (.int (105 : Int32)), (.int (116 : Int32)), (.int (0 : Int32)), (.int (0 : Int32)), (.int (0 : Int32)), (.int (0 : Int32)), (.int (0 : Int32)), (.int (0 : Int32))] (.int (0 : Int32)) := Arv.set a265 q265 s265 m265 H265 U265 rfl W265 2 rfl (Nat.le_of_ble_eq_true rfl)
      have N265 := Fr.snoc X265 N263 (own_ale (by omega))
      refine Gl.go (fun _ hr => zXS_dup X265.here hx rfl (hb hby at_171) rfl rfl (zXS_iconst X265.here hx rfl (hb hby at_172) (zXS_bipush X265.here hx rfl (hb hby at_173) hr))) ?_
      obtain ⟨c267, a267, q267, s267, m267, H267, U267⟩ := id V265
      refine gstC Gl.cl X265 hx hZ e265 a267 (j := (3 : Int32)) (inb_of s267 ⟨(by decide), (by decide)⟩) rfl rfl (hb hby at_175) ?_
      intro T267 h267 X267 e267 W267
      have z268 : h265.size ≤ h267.size := (Keep.of_wr W267).1
      have V267 : Arv Z h267 b259 k259 .char (9 : Int32) [(.int (119 : Int32)), (.int (105 : Int32)), (.int (116 : Int32)), (.int (104 : Int32)), (.int (0 : Int32)), (.int (0 : Int32)), (.int (0 : Int32)), (.int (0 : Int32)), (.int (0 : Int32))] (.int (0 : Int32)) := Arv.set a267 q267 s267 m267 H267 U267 rfl W267 3 rfl (Nat.le_of_ble_eq_true rfl)
      have N267 := Fr.snoc X267 N265 (own_ale (by omega))
      refine Gl.go (fun _ hr => zXS_dup X267.here hx rfl (hb hby at_176) rfl rfl (zXS_iconst X267.here hx rfl (hb hby at_177) (zXS_bipush X267.here hx rfl (hb hby at_178) hr))) ?_
      obtain ⟨c269, a269, q269, s269, m269, H269, U269⟩ := id V267
      refine gstC Gl.cl X267 hx hZ e267 a269 (j := (4 : Int32)) (inb_of s269 ⟨(by decide), (by decide)⟩) rfl rfl (hb hby at_180) ?_
      intro T269 h269 X269 e269 W269
      have z270 : h267.size ≤ h269.size := (Keep.of_wr W269).1
      have V269 : Arv Z h269 b259 k259 .char (9 : Int32) [(.int (119 : Int32)), (.int (105 : Int32)), (.int (116 : Int32)), (.int (104 : Int32)), (.int (100 : Int32)), (.int (0 : Int32)), (.int (0 : Int32)), (.int (0 : Int32)), (.int (0 : Int32))] (.int (0 : Int32)) := Arv.set a269 q269 s269 m269 H269 U269 rfl W269 4 rfl (Nat.le_of_ble_eq_true rfl)
      have N269 := Fr.snoc X269 N267 (own_ale (by omega))
      refine Gl.go (fun _ hr => zXS_dup X269.here hx rfl (hb hby at_181) rfl rfl (zXS_iconst X269.here hx rfl (hb hby at_182) (zXS_bipush X269.here hx rfl (hb hby at_183) hr))) ?_
      obtain ⟨c271, a271, q271, s271, m271, H271, U271⟩ := id V269
      refine gstC Gl.cl X269 hx hZ e269 a271 (j := (5 : Int32)) (inb_of s271 ⟨(by decide), (by decide)⟩) rfl rfl (hb hby at_185) ?_
      intro T271 h271 X271 e271 W271
      have z272 : h269.size ≤ h271.size := (Keep.of_wr W271).1
      have V271 : Arv Z h271 b259 k259 .char (9 : Int32) [(.int (119 : Int32)), (.int (105 : Int32)), (.int (116 : Int32)), (.int (104 : Int32)), (.int (100 : Int32)), (.int (114 : Int32)), (.int (0 : Int32)), (.int (0 : Int32)), (.int (0 : Int32))] (.int (0 : Int32)) := Arv.set a271 q271 s271 m271 H271 U271 rfl W271 5 rfl (Nat.le_of_ble_eq_true rfl)
      have N271 := Fr.snoc X271 N269 (own_ale (by omega))
      refine Gl.go (fun _ hr => zXS_dup X271.here hx rfl (hb hby at_186) rfl rfl (zXS_bipush X271.here hx rfl (hb hby at_187) (zXS_bipush X271.here hx rfl (hb hby at_189) hr))) ?_
      obtain ⟨c273, a273, q273, s273, m273, H273, U273⟩ := id V271
      refine gstC Gl.cl X271 hx hZ e271 a273 (j := (6 : Int32)) (inb_of s273 ⟨(by decide), (by decide)⟩) rfl rfl (hb hby at_191) ?_
      intro T273 h273 X273 e273 W273
      have z274 : h271.size ≤ h273.size := (Keep.of_wr W273).1
      have V273 : Arv Z h273 b259 k259 .char (9 : Int32) [(.int (119 : Int32)), (.int (105 : Int32)), (.int (116 : Int32)), (.int (104 : Int32)), (.int (100 : Int32)), (.int (114 : Int32)), (.int (97 : Int32)), (.int (0 : Int32)), (.int (0 : Int32))] (.int (0 : Int32)) := Arv.set a273 q273 s273 m273 H273 U273 rfl W273 6 rfl (Nat.le_of_ble_eq_true rfl)
      have N273 := Fr.snoc X273 N271 (own_ale (by omega))
      refine Gl.go (fun _ hr => zXS_dup X273.here hx rfl (hb hby at_192) rfl rfl (zXS_bipush X273.here hx rfl (hb hby at_193) (zXS_bipush X273.here hx rfl (hb hby at_195) hr))) ?_
      obtain ⟨c275, a275, q275, s275, m275, H275, U275⟩ := id V273
      refine gstC Gl.cl X273 hx hZ e273 a275 (j := (7 : Int32)) (inb_of s275 ⟨(by decide), (by decide)⟩) rfl rfl (hb hby at_197) ?_
      intro T275 h275 X275 e275 W275
      have z276 : h273.size ≤ h275.size := (Keep.of_wr W275).1
      have V275 : Arv Z h275 b259 k259 .char (9 : Int32) [(.int (119 : Int32)), (.int (105 : Int32)), (.int (116 : Int32)), (.int (104 : Int32)), (.int (100 : Int32)), (.int (114 : Int32)), (.int (97 : Int32)), (.int (119 : Int32)), (.int (0 : Int32))] (.int (0 : Int32)) := Arv.set a275 q275 s275 m275 H275 U275 rfl W275 7 rfl (Nat.le_of_ble_eq_true rfl)
      have N275 := Fr.snoc X275 N273 (own_ale (by omega))
      refine Gl.go (fun _ hr => zXS_dup X275.here hx rfl (hb hby at_198) rfl rfl (zXS_bipush X275.here hx rfl (hb hby at_199) (zXS_bipush X275.here hx rfl (hb hby at_201) hr))) ?_
      obtain ⟨c277, a277, q277, s277, m277, H277, U277⟩ := id V275
      refine gstC Gl.cl X275 hx hZ e275 a277 (j := (8 : Int32)) (inb_of s277 ⟨(by decide), (by decide)⟩) rfl rfl (hb hby at_203) ?_
      intro T277 h277 X277 e277 W277
      have z278 : h275.size ≤ h277.size := (Keep.of_wr W277).1
      have V277 : Arv Z h277 b259 k259 .char (9 : Int32) [(.int (119 : Int32)), (.int (105 : Int32)), (.int (116 : Int32)), (.int (104 : Int32)), (.int (100 : Int32)), (.int (114 : Int32)), (.int (97 : Int32)), (.int (119 : Int32)), (.int (110 : Int32))] (.int (0 : Int32)) := Arv.set a277 q277 s277 m277 H277 U277 rfl W277 8 rfl (Nat.le_of_ble_eq_true rfl)
      have N277 := Fr.snoc X277 N275 (own_ale (by omega))
      have hp279 : ∀ c ∈ ([(119 : Int32), (105 : Int32), (116 : Int32), (104 : Int32), (100 : Int32), (114 : Int32), (97 : Int32), (119 : Int32), (110 : Int32)] : List Int32), Lat c := (own_cS (by decide) (own_cS (by decide) (own_cS (by decide) (own_cS (by decide) (own_cS (by decide) (own_cS (by decide) (own_cS (by decide) (own_cS (by decide) (own_cS (by decide) own_c0)))))))))
      have Ec280 := ((((((((((A257.ext E259).wr W261).wr W263).wr W265).wr W267).wr W269).wr W271).wr W273).wr W275).wr W277)
      have Fc281 := ((((((((((F257_value.ext E259).other W261 (Or.inl (own_ane (by omega)))).other W263 (Or.inl (own_ane (by omega)))).other W265 (Or.inl (own_ane (by omega)))).other W267 (Or.inl (own_ane (by omega)))).other W269 (Or.inl (own_ane (by omega)))).other W271 (Or.inl (own_ane (by omega)))).other W273 (Or.inl (own_ane (by omega)))).other W275 (Or.inl (own_ane (by omega)))).other W277 (Or.inl (own_ane (by omega))))
      have Fc282 := ((((((((((F257_coder.ext E259).other W261 (Or.inl (own_ane (by omega)))).other W263 (Or.inl (own_ane (by omega)))).other W265 (Or.inl (own_ane (by omega)))).other W267 (Or.inl (own_ane (by omega)))).other W269 (Or.inl (own_ane (by omega)))).other W271 (Or.inl (own_ane (by omega)))).other W273 (Or.inl (own_ane (by omega)))).other W275 (Or.inl (own_ane (by omega)))).other W277 (Or.inl (own_ane (by omega))))
      have Oc283 := (((((((((((q2.ext E257).ext E259).wr W261 (own_ale (by omega))).wr W263 (own_ale (by omega))).wr W265 (own_ale (by omega))).wr W267 (own_ale (by omega))).wr W269 (own_ale (by omega))).wr W271 (own_ale (by omega))).wr W273 (own_ale (by omega))).wr W275 (own_ale (by omega))).wr W277 (own_ale (by omega)))
      refine gSpecialN Gl.cl (y := (⟨"java/lang/String", "<init>", "([C)V"⟩ : MethodName)) (b := b257) (argsL := [(.ref b259)]) (rest := [(.ref b257)]) (mc := 1) (ms := 9) X277 hx hZ hown rfl (mvT hZ (hw _ (List.mem_of_getElem? (i := 8) rfl))) (mvT hZ (hw _ (List.mem_of_getElem? (i := 9) rfl))) (mvT hZ (hw _ (List.mem_of_getElem? (i := 10) rfl))) (by decide) (StrChars.Road.backV (W := 1) hZ hws (kI := 4) (hw _ (List.mem_of_getElem? (i := 5) rfl)) (cs := ([(119 : Int32), (105 : Int32), (116 : Int32), (104 : Int32), (100 : Int32), (114 : Int32), (97 : Int32), (119 : Int32), (110 : Int32)] : List Int32)) (bs := ([(119 : Int32), (105 : Int32), (116 : Int32), (104 : Int32), (100 : Int32), (114 : Int32), (97 : Int32), (119 : Int32), (110 : Int32)] : List Int32).map (fun c => c.toInt8.toInt32)) (n := 9) (n0 := n0) (by omega) (by omega) Ec280 Fc281 Fc282 V277 (q0.ext Oc283.2) P5 rfl rfl (by decide) (by decide) hp279 rfl (by decide) (by decide)) rfl (by rw [hml]; rfl) (lenOf pd_2 rfl) rfl (by show 2 * 0 + _ ≤ _; exact Nat.le_of_eq rfl) (hb hby at_204) rfl e277 (by decide) (by decide) ?_
      intro v279 T279 Lc279 hQ279 X279
      obtain ⟨rfl, Nq279, K279, f279_E, f279_C, t279, kb279, g279_0, g279_1, g279_2, f279_V, f279_A⟩ := hQ279
      have z284 : h277.size ≤ T279.heap.size := K279.1
      have N279 := Fr.app N277 Nq279
      have lt285 := own_alt f279_E.lt
      have lt286 := own_alt f279_C.lt
      have lt287 := own_alt f279_V.lt
      have lt288 := own_alt f279_A.lt
      have hcd279 : StrChars.Road.CodA ([(119 : Int32), (105 : Int32), (116 : Int32), (104 : Int32), (100 : Int32), (114 : Int32), (97 : Int32), (119 : Int32), (110 : Int32)] : List Int32) 0 (9 : Int32) ((([(119 : Int32), (105 : Int32), (116 : Int32), (104 : Int32), (100 : Int32), (114 : Int32), (97 : Int32), (119 : Int32), (110 : Int32)] : List Int32).map (fun c => c.toInt8.toInt32)).map Value.int) := StrChars.Road.codOf (n := 9) rfl (fun c hc => (hp279 c hc).2)
      have hbd279 : ∀ c ∈ ([(119 : Int32), (105 : Int32), (116 : Int32), (104 : Int32), (100 : Int32), (114 : Int32), (97 : Int32), (119 : Int32), (110 : Int32)] : List Int32), Wid c := own_up hp279
      refine Gl.go (fun _ hr => zXS_astoreN X279.here hx rfl (hb hby at_207) rfl rfl (l' := #[.val (.int i0), .val (.int ((i0 &&& (2147483647 : Int32)) % (3 : Int32))), .val (.ref c2), .val (.ref b257), .unset, .unset, .unset]) rfl (zXS_aloadN X279.here hx rfl (hb hby at_208) rfl rfl hr)) ?_
      have Oc290 := (Oc283.keep K279 (allS (own_ale (by omega)) all0))
      have zz289 : n0 ≤ T279.heap.size := by omega
      refine gStaticN Gl.cl (y := (⟨"com/example/concordat/concordat/vo/Vo$Phase", "of", "(Ljava/lang/String;)Lcom/example/concordat/concordat/vo/Vo$Phase;"⟩ : MethodName)) (argsL := [(.ref b257)]) (rest := []) (mc := 1) (ms := 3) X279 hx hZ hown (mvT hZ (hw _ (List.mem_of_getElem? (i := 34) rfl))) (mvT hZ (hw _ (List.mem_of_getElem? (i := 35) rfl))) (mvT hZ (hw _ (List.mem_of_getElem? (i := 2) rfl))) (mvT hZ (hw _ (List.mem_of_getElem? (i := 36) rfl))) (by decide) (backOf (W := 0) (of2 l Z a0 hw [] b257 t279 kb279 G1 ar ka c0 c1 c2 l0 t0 kb0 l1 t1 kb1 l2 t2 kb2 T279.heap n0 zz289 q0 (by assumption) Oc290 f279_E f279_V f279_C f279_A q6 q7 q8 q9 q10 q11 q12 q13 q14 q15 q16 q17 q18 q19 q20 q21 q22 q23 q24 q25 q26) hZ (hw _ (List.mem_of_getElem? (i := 36) rfl)) (hw _ (List.mem_of_getElem? (i := 2) rfl)) (by decide) (by decide)) rfl (by rw [hml]; rfl) (lenOf pd_3 rfl) rfl (by show 2 * 0 + _ ≤ _; exact Nat.le_of_eq rfl) (hb hby at_209) rfl (rfl : T279.heap = T279.heap) (by decide) (by decide) ?_
      intro v289 T289 Lc289 hQ289 X289
      obtain ⟨rfl, Nq289, K289⟩ := hQ289
      have z291 : T279.heap.size ≤ T289.heap.size := K289.1
      have N289 := Fr.app N279 Nq289
      refine Gl.go (fun _ hr => zXS_astore X289.here hx rfl (hb hby at_212) rfl rfl (l' := #[.val (.int i0), .val (.int ((i0 &&& (2147483647 : Int32)) % (3 : Int32))), .val (.ref c2), .val (.ref b257), .val (.ref c2), .unset, .unset]) rfl (zXS_aloadN X289.here hx rfl (hb hby at_214) rfl rfl hr)) ?_
      have Oc293 := (Oc290.keep K289 all0)
      have zz292 : n0 ≤ T289.heap.size := by omega
      refine gVirtualN Gl.cl (y := (⟨"com/example/concordat/concordat/vo/Vo$Phase", "label", "()Ljava/lang/String;"⟩ : MethodName)) (z := (⟨"com/example/concordat/concordat/vo/Vo$Phase", "label", "()Ljava/lang/String;"⟩ : MethodName)) (b := c2) (argsL := []) (rest := []) (mc := 0) (ms := 0) X289 hx hZ hown (mvT hZ (hw _ (List.mem_of_getElem? (i := 66) rfl))) (mvT hZ (hw _ (List.mem_of_getElem? (i := 67) rfl))) (notFace_of_selects (args := #[]) (mvT hZ (hw _ (List.mem_of_getElem? (i := 69) rfl)))) (mvT hZ (hw _ (List.mem_of_getElem? (i := 69) rfl))) (mvT hZ (hw _ (List.mem_of_getElem? (i := 68) rfl))) (by decide) (q21.ext Oc293.2) (backOf (W := 0) (lab l Z a0 hw [] c2 l2 T289.heap n0 zz292 (q22.ext Oc293.2)) hZ (hw _ (List.mem_of_getElem? (i := 70) rfl)) (hw _ (List.mem_of_getElem? (i := 2) rfl)) (by decide) (by decide)) rfl (by rw [hml]; rfl) (lenOf pd_4 rfl) rfl (by show 2 * 0 + _ ≤ _; exact Nat.le_of_eq rfl) (hb hby at_215) rfl (rfl : T289.heap = T289.heap) (by decide) (by decide) ?_
      intro v292 T292 Lc292 hQ292 X292
      obtain ⟨rfl, Nq292, e292⟩ := hQ292
      have N292 := Fr.app N289 Nq292
      show Gl p.tables e below _ (T292.setTop (mkF m 218 #[.val (.int i0), .val (.int ((i0 &&& (2147483647 : Int32)) % (3 : Int32))), .val (.ref c2), .val (.ref b257), .val (.ref c2), .unset, .unset] [(.ref l2)]))
      refine Gl.go (fun _ hr => zXS_astore X292.here hx rfl (hb hby at_218) rfl rfl (l' := #[.val (.int i0), .val (.int ((i0 &&& (2147483647 : Int32)) % (3 : Int32))), .val (.ref c2), .val (.ref b257), .val (.ref c2), .val (.ref l2), .unset]) rfl (zXS_aload X292.here hx rfl (hb hby at_220) rfl rfl hr)) ?_
      have zz294 : n0 ≤ T289.heap.size := by omega
      refine gStaticN Gl.cl (y := (⟨"com/example/concordat/concordat/vo/Vo$Phase", "of", "(Ljava/lang/String;)Lcom/example/concordat/concordat/vo/Vo$Phase;"⟩ : MethodName)) (argsL := [(.ref l2)]) (rest := []) (mc := 1) (ms := 3) X292 hx hZ hown (mvT hZ (hw _ (List.mem_of_getElem? (i := 34) rfl))) (mvT hZ (hw _ (List.mem_of_getElem? (i := 35) rfl))) (mvT hZ (hw _ (List.mem_of_getElem? (i := 2) rfl))) (mvT hZ (hw _ (List.mem_of_getElem? (i := 36) rfl))) (by decide) (backOf (W := 0) (of2 l Z a0 hw [] l2 t2 kb2 G1 ar ka c0 c1 c2 l0 t0 kb0 l1 t1 kb1 l2 t2 kb2 T289.heap n0 zz294 q0 (by assumption) Oc293 (q23.ext Oc293.2) (q24.ext Oc293.2) (q25.ext Oc293.2) (q26.ext Oc293.2) q6 q7 q8 q9 q10 q11 q12 q13 q14 q15 q16 q17 q18 q19 q20 q21 q22 q23 q24 q25 q26) hZ (hw _ (List.mem_of_getElem? (i := 36) rfl)) (hw _ (List.mem_of_getElem? (i := 2) rfl)) (by decide) (by decide)) rfl (by rw [hml]; rfl) (lenOf pd_3 rfl) rfl (by show 2 * 0 + _ ≤ _; exact Nat.le_of_eq rfl) (hb hby at_222) rfl e292 (by decide) (by decide) ?_
      intro v294 T294 Lc294 hQ294 X294
      obtain ⟨rfl, Nq294, K294⟩ := hQ294
      have z295 : T289.heap.size ≤ T294.heap.size := K294.1
      have N294 := Fr.app N292 Nq294
      refine Gl.go (fun _ hr => zXS_astore X294.here hx rfl (hb hby at_225) rfl rfl (l' := #[.val (.int i0), .val (.int ((i0 &&& (2147483647 : Int32)) % (3 : Int32))), .val (.ref c2), .val (.ref b257), .val (.ref c2), .val (.ref l2), .val (.ref c2)]) rfl (zXS_aload X294.here hx rfl (hb hby at_227) rfl rfl (zXS_aloadN X294.here hx rfl (hb hby at_229) rfl rfl hr))) ?_
      refine Gl.go (fun _ hr => zXT_acmpNo X294.here hx rfl (hb hby at_230) rfl rfl rfl (XT.aa_ne_f rfl) (zXS_aload X294.here hx rfl (hb hby at_233) rfl rfl (zXS_aloadN X294.here hx rfl (hb hby at_235) rfl rfl hr))) ?_
      refine Gl.go (fun _ hr => zXT_acmpNo X294.here hx rfl (hb hby at_236) rfl rfl rfl (XT.aa_ne_f rfl) (zXS_aload X294.here hx rfl (hb hby at_239) rfl rfl (zXS_aloadN X294.here hx rfl (hb hby at_241) rfl rfl hr))) ?_
      have Oc297 := (Oc293.keep K294 all0)
      have Ec298 := ((f279_E.keep K289).keep K294)
      have Fc299 := ((f279_V.keep K289 nin0).keep K294 nin0)
      have Fc300 := ((f279_C.keep K289 nin0).keep K294 nin0)
      have Vc301 := ((f279_A.keep K289 nin0).keep K294 nin0)
      refine gVirtualN Gl.cl (y := (⟨"java/lang/String", "equals", "(Ljava/lang/Object;)Z"⟩ : MethodName)) (z := (⟨"java/lang/String", "equals", "(Ljava/lang/Object;)Z"⟩ : MethodName)) (b := l2) (argsL := [(.ref b257)]) (rest := []) (mc := 0) (ms := 0) (Q := fun v h' L => ((v = some (.int 1) ∧ ([(119 : Int32), (105 : Int32), (116 : Int32), (104 : Int32), (100 : Int32), (114 : Int32), (97 : Int32), (119 : Int32), (110 : Int32)] : List Int32) = ([(119 : Int32), (105 : Int32), (116 : Int32), (104 : Int32), (100 : Int32), (114 : Int32), (97 : Int32), (119 : Int32), (110 : Int32)] : List Int32)) ∨ (v = some (.int 0) ∧ ¬ ([(119 : Int32), (105 : Int32), (116 : Int32), (104 : Int32), (100 : Int32), (114 : Int32), (97 : Int32), (119 : Int32), (110 : Int32)] : List Int32) = ([(119 : Int32), (105 : Int32), (116 : Int32), (104 : Int32), (100 : Int32), (114 : Int32), (97 : Int32), (119 : Int32), (110 : Int32)] : List Int32))) ∧ L = [] ∧ h' = T294.heap) X294 hx hZ hown (mvT hZ (hw _ (List.mem_of_getElem? (i := 71) rfl))) (mvT hZ (hw _ (List.mem_of_getElem? (i := 57) rfl))) (notFace_of_selects (args := #[]) (mvT hZ (hw _ (List.mem_of_getElem? (i := 59) rfl)))) (mvT hZ (hw _ (List.mem_of_getElem? (i := 59) rfl))) (mvT hZ (hw _ (List.mem_of_getElem? (i := 58) rfl))) (by decide) (q23.ext Oc297.2) (StrChars.Road.eqW (W := 0) hZ heq (kI := 4) (hw _ (List.mem_of_getElem? (i := 5) rfl)) (q23.ext Oc297.2) (q24.ext Oc297.2) (q25.ext Oc297.2) (q26.ext Oc297.2) hcd163 hbd163 (Nat.le_of_ble_eq_true rfl) Ec298 Fc299 Fc300 Vc301 hcd279 hbd279 (Nat.le_of_ble_eq_true rfl) (q0.ext Oc297.2) P5 (by decide) (by decide)) rfl (by rw [hml]; rfl) (lenOf pd_1 rfl) rfl (by show 2 * 0 + _ ≤ _; exact Nat.le_of_eq rfl) (hb hby at_242) rfl (rfl : T294.heap = T294.heap) (by decide) (by decide) ?_
      intro v296 T296 Lc296 hQ296 X296
      obtain ⟨hca296, rfl, e296⟩ := hQ296
      have N296 := own_fr_nil N294
      have hv296 : _ = some (Value.int 1) := hca296.elim (fun q => q.1) (fun q => absurd rfl q.2)
      subst hv296
      refine Gl.go (fun _ hr => zXS_ifNo X296.here hx rfl (hb hby at_245) rfl (XT.i0_eq_f (by decide)) (zXS_iconst X296.here hx rfl (hb hby at_248) (zXS_goto X296.here hx rfl (pc0 := 249) (pc' := 253) rfl (hb hby at_249) (by decide) (by decide) hr))) ?_
      obtain ⟨fs, hr, hrun, hended, hW, hsame⟩ := X296.leave (v := some (.int (1 : Int32))) (fun h => by rw [Bd.returns] at h; cases h)
      refine ⟨_, _, retN X296 hx (t := .boolean) Bd.returns (by simp) (hb hby at_253) hr, hrun, hended, _, _, rfl, ?_, ⟨⟨_, rfl⟩, hW, hsame.mono (by decide) (by decide)⟩⟩
      show Qlawrm Z i0 G1 ar ka c0 c1 c2 l0 t0 kb0 l1 t1 kb1 l2 t2 kb2 h0 n0 _ T296.heap _
      rw [e296]
      exact ⟨rfl, N296, (((((((((((((((Keep.refl h0 []).ext E257).ext E259).wr W261 (Or.inr (own_ale (by omega)))).wr W263 (Or.inr (own_ale (by omega)))).wr W265 (Or.inr (own_ale (by omega)))).wr W267 (Or.inr (own_ale (by omega)))).wr W269 (Or.inr (own_ale (by omega)))).wr W271 (Or.inr (own_ale (by omega)))).wr W273 (Or.inr (own_ale (by omega)))).wr W275 (Or.inr (own_ale (by omega)))).wr W277 (Or.inr (own_ale (by omega)))).trans K279 (allS (P := fun x_ => x_ ∈ ([] : List Addr) ∨ h0.size ≤ x_) (Or.inr (own_ale (by omega))) all0)).trans K289 all0).trans K294 all0)⟩
set_option maxRecDepth 65536 in
set_option maxHeartbeats 40000000 in
theorem comes_1 {Post : Tables → Env → Array Value → State → Outcome → State → Prop} (hpost : ∀ tb e args s v u, (limb_1_1.after args s (.returned v) u = true ∧ limb_1_2.after args s (.returned v) u = true ∧ True) → FrameEnd s (.returned v) u (Jvm.fieldLocs frame_1_writes args s ++ Jvm.arrayLocs frame_1_arrays args s ++ Jvm.staticLocs frame_1_statics s) 24 128 → Post tb e args s (.returned v) u) :
    ArmFor flags0 classFile x code maxLocals ret World_1 tables_1 room_1 Calls_1 rest_1 Pre_1 Post := by
  intro l hfl _ _ p e ha hc hk s m args below hf hA hF happ hP
  obtain ⟨hcalls, hrest, hpre⟩ := hP
  obtain ⟨-, -, -, hnamed, -, -, -, hat⟩ := (Spec.applies_iff hf).mp happ
  obtain ⟨hg, hn⟩ := and_e (Cond.before_iff.mp (show (Jvm.Cond.and given_1 narrow_1).before args s = true from hpre))
  obtain ⟨hcount, hgs⟩ := and_e hg
  obtain ⟨w0, rfl⟩ : ∃ w0 : Value, args = #[w0] := by
    have hs : args.size = 1 := by simpa [Cond.value, given_1] using hcount
    obtain ⟨L⟩ := args
    match L, hs with
    | [w0], _ => exact ⟨w0, rfl⟩
  obtain ⟨i0, ei0⟩ := is_v hgs
  obtain rfl : w0 = (.int i0) := Option.some.inj ei0
  have hw := fun d (hd : d ∈ tables_1) => atoms_spec (ws := Jvm.Cond.code x code maxLocals ret :: tables_1) hat d (List.mem_cons_of_mem _ hd)
  have hfit : Fit s := fun {y c} hc i hi => by
    obtain ⟨ha, rfl⟩ := Array.getElem?_eq_some_iff.mp hc
    have q := List.all_eq_true.mp ((Array.all_eq_true_iff_forall_mem.mp hF) _ (Array.getElem_mem ha)) i (List.mem_range.mpr hi)
    simpa [Array.getElem?_eq_getElem hi] using q
  obtain ⟨hsets, hown0⟩ := atoms_of _ (rest_1_c_eq ▸ (show rest_1_c.before _ s = true from hrest))
  have hr0 := Cond.before_iff.mp hown0
  have n3 := not_v (Cond.before_iff.mp (hsets _ (List.mem_of_getElem? (i := 2) rfl)))
  obtain ⟨G1, eG1⟩ := is_v (Cond.before_iff.mp (hsets _ (List.mem_of_getElem? (i := 1) rfl)))
  have SG1 : Sta s s.heap "java/lang/String" "COMPACT_STRINGS" "Z" (.int G1) := Sta.start eG1 (Or.inl (hsets _ (List.mem_of_getElem? (i := 0) rfl)))
  have cG1 : ¬ (G1 = (0 : Int32)) := gotF (Cond.eq_ints eG1 (Term.int_eval (0))) n3
  obtain ⟨u0, v0⟩ := and_e hn
  obtain ⟨u1, v1⟩ := and_e v0
  obtain ⟨u2, v2⟩ := and_e v1
  obtain ⟨u3, v3⟩ := and_e v2
  obtain ⟨u4, v4⟩ := and_e v3
  obtain ⟨u5, v5⟩ := and_e v4
  obtain ⟨u6, v6⟩ := and_e v5
  obtain ⟨u7, v7⟩ := and_e v6
  obtain ⟨u8, v8⟩ := and_e v7
  obtain ⟨u9, v9⟩ := and_e v8
  obtain ⟨u10, v10⟩ := and_e v9
  obtain ⟨u11, v11⟩ := and_e v10
  obtain ⟨u12, v12⟩ := and_e v11
  obtain ⟨u13, v13⟩ := and_e v12
  obtain ⟨u14, v14⟩ := and_e v13
  obtain ⟨u15, v15⟩ := and_e v14
  obtain ⟨u16, v16⟩ := and_e v15
  obtain ⟨u17, v17⟩ := and_e v16
  obtain ⟨u18, v18⟩ := and_e v17
  obtain ⟨u19, v19⟩ := and_e v18
  obtain ⟨u20, v20⟩ := and_e v19
  obtain ⟨u21, v21⟩ := and_e v20
  obtain ⟨u22, v22⟩ := and_e v21
  obtain ⟨u23, v23⟩ := and_e v22
  obtain ⟨u24, v24⟩ := and_e v23
  obtain ⟨u25, v25⟩ := and_e v24
  obtain ⟨u26, v26⟩ := and_e v25
  obtain ⟨u27, v27⟩ := and_e v26
  obtain ⟨u28, v28⟩ := and_e v27
  obtain ⟨u29, v29⟩ := and_e v28
  obtain ⟨u30, v30⟩ := and_e v29
  obtain ⟨u31, v31⟩ := and_e v30
  obtain ⟨u32, v32⟩ := and_e v31
  obtain ⟨u33, v33⟩ := and_e v32
  obtain ⟨u34, v34⟩ := and_e v33
  obtain ⟨u35, v35⟩ := and_e v34
  obtain ⟨u36, v36⟩ := and_e v35
  obtain ⟨u37, v37⟩ := and_e v36
  obtain ⟨u38, v38⟩ := and_e v37
  obtain ⟨u39, v39⟩ := and_e v38
  obtain ⟨u40, v40⟩ := and_e v39
  obtain ⟨u41, v41⟩ := and_e v40
  obtain ⟨u42, v42⟩ := and_e v41
  obtain ⟨u43, v43⟩ := and_e v42
  obtain ⟨u44, v44⟩ := and_e v43
  obtain ⟨u45, v45⟩ := and_e v44
  obtain ⟨u46, v46⟩ := and_e v45
  obtain ⟨u47, v47⟩ := and_e v46
  obtain ⟨u48, v48⟩ := and_e v47
  have u49 := v48
  obtain ⟨c0, ec0⟩ := exa_v u0
  have Ec0 : Exa s s.heap c0 "com/example/concordat/concordat/vo/Vo$Phase" := Exa.start ec0 u0
  obtain ⟨c1, ec1⟩ := exa_v u5
  have Ec1 : Exa s s.heap c1 "com/example/concordat/concordat/vo/Vo$Phase" := Exa.start ec1 u5
  obtain ⟨c2, ec2⟩ := exa_v u7
  have Ec2 : Exa s s.heap c2 "com/example/concordat/concordat/vo/Vo$Phase" := Exa.start ec2 u7
  obtain ⟨ar, ear⟩ := exa_v u2
  have Ear : Exa s s.heap ar "[Lcom/example/concordat/concordat/vo/Vo$Phase;" := Exa.start ear u2
  obtain ⟨ka, Var⟩ := own_oldArr (vs := [(.ref c0), (.ref c1), (.ref c2)]) (dv := .null) hfit ear u1 (own_eqI u3) (by decide) rfl (Nat.le_of_ble_eq_true rfl) ⟨own_eqR ec0 u4, own_eqR ec1 u6, own_eqR ec2 u8, trivial⟩
  obtain ⟨l0, el0⟩ := exa_v u9
  have El0 : Exa s s.heap l0 "java/lang/String" := Exa.start el0 u9
  have Fl0 : Fld s s.heap c0 "com/example/concordat/concordat/vo/Vo$Phase" "label" "Ljava/lang/String;" (.ref l0) := Fld.start ((fld_at ec0).symm.trans el0)
  have Fd0 : Fld s s.heap l0 "java/lang/String" "coder" "B" (.int 0) := Fld.start ((fld_at el0).symm.trans (own_eqI u10))
  obtain ⟨t0, et0⟩ := arr_v u11
  have Fv0 : Fld s s.heap l0 "java/lang/String" "value" "[B" (.ref t0) := Fld.start ((fld_at el0).symm.trans et0)
  obtain ⟨kb0, Vb0⟩ := own_oldArr (vs := ((([(98 : Int32), (117 : Int32), (105 : Int32), (108 : Int32), (100 : Int32), (105 : Int32), (110 : Int32), (103 : Int32)] : List Int32).map (fun c => c.toInt8.toInt32)).map Value.int)) (dv := .int 0) hfit et0 u11 (own_eqI u12) (by decide) rfl (by decide) ⟨own_eqI u24, own_eqI u25, own_eqI u26, own_eqI u27, own_eqI u28, own_eqI u29, own_eqI u30, own_eqI u31, trivial⟩
  obtain ⟨l1, el1⟩ := exa_v u13
  have El1 : Exa s s.heap l1 "java/lang/String" := Exa.start el1 u13
  have Fl1 : Fld s s.heap c1 "com/example/concordat/concordat/vo/Vo$Phase" "label" "Ljava/lang/String;" (.ref l1) := Fld.start ((fld_at ec1).symm.trans el1)
  have Fd1 : Fld s s.heap l1 "java/lang/String" "coder" "B" (.int 0) := Fld.start ((fld_at el1).symm.trans (own_eqI u14))
  obtain ⟨t1, et1⟩ := arr_v u15
  have Fv1 : Fld s s.heap l1 "java/lang/String" "value" "[B" (.ref t1) := Fld.start ((fld_at el1).symm.trans et1)
  obtain ⟨kb1, Vb1⟩ := own_oldArr (vs := ((([(111 : Int32), (112 : Int32), (101 : Int32), (114 : Int32), (97 : Int32), (116 : Int32), (105 : Int32), (110 : Int32), (103 : Int32)] : List Int32).map (fun c => c.toInt8.toInt32)).map Value.int)) (dv := .int 0) hfit et1 u15 (own_eqI u16) (by decide) rfl (by decide) ⟨own_eqI u32, own_eqI u33, own_eqI u34, own_eqI u35, own_eqI u36, own_eqI u37, own_eqI u38, own_eqI u39, own_eqI u40, trivial⟩
  obtain ⟨l2, el2⟩ := exa_v u17
  have El2 : Exa s s.heap l2 "java/lang/String" := Exa.start el2 u17
  have Fl2 : Fld s s.heap c2 "com/example/concordat/concordat/vo/Vo$Phase" "label" "Ljava/lang/String;" (.ref l2) := Fld.start ((fld_at ec2).symm.trans el2)
  have Fd2 : Fld s s.heap l2 "java/lang/String" "coder" "B" (.int 0) := Fld.start ((fld_at el2).symm.trans (own_eqI u18))
  obtain ⟨t2, et2⟩ := arr_v u19
  have Fv2 : Fld s s.heap l2 "java/lang/String" "value" "[B" (.ref t2) := Fld.start ((fld_at el2).symm.trans et2)
  obtain ⟨kb2, Vb2⟩ := own_oldArr (vs := ((([(119 : Int32), (105 : Int32), (116 : Int32), (104 : Int32), (100 : Int32), (114 : Int32), (97 : Int32), (119 : Int32), (110 : Int32)] : List Int32).map (fun c => c.toInt8.toInt32)).map Value.int)) (dv := .int 0) hfit et2 u19 (own_eqI u20) (by decide) rfl (by decide) ⟨own_eqI u41, own_eqI u42, own_eqI u43, own_eqI u44, own_eqI u45, own_eqI u46, own_eqI u47, own_eqI u48, own_eqI u49, trivial⟩
  obtain ⟨n, o, h1, h2, h3, _, L, rfl, ⟨rfl, N, -⟩, hq⟩ := lawrm l s _ hw tables_1 i0 G1 ar ka c0 c1 c2 l0 t0 kb0 l1 t1 kb1 l2 t2 kb2 s.heap s.heap.size (Nat.le_refl _) SG1 cG1 (Old.start s) (Sta.start ec0 (Or.inr ⟨(hw _ (List.mem_of_getElem? (i := 2) rfl)), (hw _ (List.mem_of_getElem? (i := 3) rfl))⟩) : Sta s s.heap "com/example/concordat/concordat/vo/Vo$Phase" "BUILDING" "Lcom/example/concordat/concordat/vo/Vo$Phase;" (.ref c0)) (Sta.start ec1 (Or.inr ⟨(hw _ (List.mem_of_getElem? (i := 2) rfl)), (hw _ (List.mem_of_getElem? (i := 49) rfl))⟩) : Sta s s.heap "com/example/concordat/concordat/vo/Vo$Phase" "OPERATING" "Lcom/example/concordat/concordat/vo/Vo$Phase;" (.ref c1)) (Sta.start ec2 (Or.inr ⟨(hw _ (List.mem_of_getElem? (i := 2) rfl)), (hw _ (List.mem_of_getElem? (i := 50) rfl))⟩) : Sta s s.heap "com/example/concordat/concordat/vo/Vo$Phase" "WITHDRAWN" "Lcom/example/concordat/concordat/vo/Vo$Phase;" (.ref c2)) (Sta.start ear (Or.inr ⟨(hw _ (List.mem_of_getElem? (i := 2) rfl)), (hw _ (List.mem_of_getElem? (i := 41) rfl))⟩) : Sta s s.heap "com/example/concordat/concordat/vo/Vo$Phase" "$VALUES" "[Lcom/example/concordat/concordat/vo/Vo$Phase;" (.ref ar)) Var Ear Ec0 Fl0 El0 Fv0 Fd0 Vb0 Ec1 Fl1 El1 Fv1 Fd1 Vb1 Ec2 Fl2 El2 Fv2 Fd2 Vb2 p e ha hc hk s m _ below hf ((Spec.applies_iff_loose hf).mp happ).1 ⟨rfl, State.Warmed39.refl s, rfl⟩ trivial
  refine ⟨n, _, h1, h2, h3, hpost _ _ _ _ _ _ ⟨Cond.after_iff.mpr rfl, Cond.after_iff.mpr (eq_i res_at (Term.int_eval (1)) rfl), trivial⟩ ⟨hq.1, hq.2.1, (hq.2.2.sift fun y hy => Or.inr (N y hy)).mono (by decide) (by decide)⟩⟩
theorem main_1_1 : Claimed_1_1 := comes_1 fun _ _ _ _ _ _ h hF => ⟨h.1, hF⟩
theorem main_1_2 : Claimed_1_2 := comes_1 fun _ _ _ _ _ _ h hF => ⟨h.2.1, hF⟩
end Jvm.Pilot.@@N@@
namespace Jvm.Pilot.@@N@@
open Jvm Jvm.ClassFile Sem Op Lib Jvm.Free Jvm.Stand Jvm.Pilot.@@N@@.Jvm.D
/-! MADE BY PROGRAM (witnessworld.py) out of the Statement's table words and the real class files: 22 classes; the members and pool entries that the words name. The judged class is class 1, her method 1. -/
namespace start1
open Jvm.ClassFile
def u (s : String) : CpInfo := .utf8 (stringToUtf16 s)
/-- a pool by its gaps: so many unusable entries, then the entry; so many at the end -/
def gap : Nat → List CpInfo → List CpInfo
  | 0, r => r
  | n + 1, r => .unusable :: gap n r
def poolList (es : List (Nat × CpInfo)) (last : Nat) : List CpInfo := es.foldr (fun e r => gap e.1 (e.2 :: r)) (gap last [])
def pool (es : List (Nat × CpInfo)) (last : Nat) : Array CpInfo := ⟨poolList es last⟩
def fileOf (pool : Array CpInfo) (this : Nat) (attrs : Array Attribute := #[]) (ms : Array MethodInfo := #[]) (fl : Nat := 33) (sup : Nat := 0) (ifs : Array Nat := #[]) (fds : Array FieldInfo := #[]) : ClassFile where
  minorVersion := 0
  majorVersion := 65
  constantPool := pool
  accessFlags := fl
  thisClass := this
  superClass := sup
  interfaces := ifs
  fields := fds
  methods := ms
  attributes := attrs
def plain (name : String) (sup : Option ClassId) : Class where
  name := name
  kind := .ordinary
  loader := none
  accessFlags := 33
  super := sup
  interfaces := #[]
  cf := none
  fields := #[]
  methods := #[]
  instanceTypes := #[]
  staticTypes := #[]
  resolved := #[]
  callSites := []
  init := .initialized
  statics := none
  mirror := none

def pool0 : Array CpInfo := pool [(5, u "<init>"), (0, u "()V"), (1, .class_ 10), (1, u "java/lang/Object"), (85, u "clone"), (0, u "()Ljava/lang/Object;")] 26

def k0c0 : Code := { maxStack := 0, maxLocals := 1, code := object_method_1_code, exceptionTable := #[], attributes := #[] }
def k0m0 : Method := { name := "<init>", desc := "()V", sig := { parameters := [], returnType := none }, accessFlags := 1, code := some k0c0 }
def k0m1 : Method := { name := "clone", desc := "()Ljava/lang/Object;", sig := { parameters := [], returnType := some (.object "java/lang/Object") }, accessFlags := 260, code := none }
/-- java/lang/Object -/
def k0 : Class := { plain "java/lang/Object" none with
  accessFlags := 33
  interfaces := #[]
  cf := some (fileOf pool0 8 #[] #[{ accessFlags := 1, nameIndex := 5, descriptorIndex := 6, attributes := #[] }, { accessFlags := 260, nameIndex := 96, descriptorIndex := 97, attributes := #[] }] 33 0 #[] #[])
  fields := #[]
  methods := #[k0m0, k0m1]
  instanceTypes := #[]
  staticTypes := #[]
  resolved := Array.replicate 124 none
  statics := none }

def pool1 : Array CpInfo := pool [(2, .class_ 4), (1, u "java/lang/Object"), (0, u "<init>"), (0, u "()V"), (0, .integer 2147483647), (0, .fieldref 9 10), (0, .class_ 11), (0, .nameAndType 12 13), (0, u "com/example/concordat/concordat/vo/Vo$Phase"), (0, u "BUILDING"), (0, u "Lcom/example/concordat/concordat/vo/Vo$Phase;"), (0, .class_ 15), (0, u "java/lang/String"), (0, .methodref 14 17), (0, .nameAndType 5 18), (0, u "([C)V"), (0, .fieldref 9 20), (0, .nameAndType 21 13), (0, u "OPERATING"), (0, .fieldref 9 23), (0, .nameAndType 24 13), (0, u "WITHDRAWN"), (0, .methodref 9 26), (0, .nameAndType 27 28), (0, u "of"), (0, u "(Ljava/lang/String;)Lcom/example/concordat/concordat/vo/Vo$Phase;"), (0, .methodref 9 30), (0, .nameAndType 31 32), (0, u "label"), (0, u "()Ljava/lang/String;"), (0, .methodref 14 34), (0, .nameAndType 35 36), (0, u "equals"), (0, u "(Ljava/lang/Object;)Z"), (0, .class_ 38), (0, u "com/example/concordat/concordat/vo/PhaseOfPinLaw"), (2, u "law"), (0, u "(I)Z")] 7

def k1m0 : Method := { name := "<init>", desc := "()V", sig := { parameters := [], returnType := none }, accessFlags := 2, code := none }
def k1c1 : Code := { maxStack := 6, maxLocals := 7, code := code, exceptionTable := #[], attributes := #[] }
def k1m1 : Method := { name := "law", desc := "(I)Z", sig := { parameters := [.int], returnType := some .boolean }, accessFlags := 9, code := some k1c1 }
/-- com/example/concordat/concordat/vo/PhaseOfPinLaw -/
def k1 : Class := { plain "com/example/concordat/concordat/vo/PhaseOfPinLaw" (some 0) with
  accessFlags := 49
  interfaces := #[]
  cf := some (fileOf pool1 37 #[] #[{ accessFlags := 2, nameIndex := 5, descriptorIndex := 6, attributes := #[] }, { accessFlags := 9, nameIndex := 41, descriptorIndex := 42, attributes := #[] }] 49 2 #[] #[])
  fields := #[]
  methods := #[k1m0, k1m1]
  instanceTypes := #[]
  staticTypes := #[]
  resolved := Array.replicate 50 none
  statics := none }

def pool2 : Array CpInfo := pool [(1, .class_ 2), (0, u "java/lang/constant/Constable"), (0, .class_ 4), (0, u "java/lang/Object")] 6

/-- java/lang/constant/Constable -/
def k2 : Class := { plain "java/lang/constant/Constable" (some 0) with
  accessFlags := 1537
  interfaces := #[]
  cf := some (fileOf pool2 1 #[] #[] 1537 3 #[] #[])
  fields := #[]
  methods := #[]
  instanceTypes := #[]
  staticTypes := #[]
  resolved := Array.replicate 11 none
  statics := none }

def pool3 : Array CpInfo := pool [(1, .class_ 2), (0, u "java/lang/Comparable"), (0, .class_ 4), (0, u "java/lang/Object")] 7

/-- java/lang/Comparable -/
def k3 : Class := { plain "java/lang/Comparable" (some 0) with
  accessFlags := 1537
  interfaces := #[]
  cf := some (fileOf pool3 1 #[] #[] 1537 3 #[] #[])
  fields := #[]
  methods := #[]
  instanceTypes := #[]
  staticTypes := #[]
  resolved := Array.replicate 12 none
  statics := none }

def pool4 : Array CpInfo := pool [(1, .class_ 2), (0, u "java/io/Serializable"), (0, .class_ 4), (0, u "java/lang/Object")] 2

/-- java/io/Serializable -/
def k4 : Class := { plain "java/io/Serializable" (some 0) with
  accessFlags := 1537
  interfaces := #[]
  cf := some (fileOf pool4 1 #[] #[] 1537 3 #[] #[])
  fields := #[]
  methods := #[]
  instanceTypes := #[]
  staticTypes := #[]
  resolved := Array.replicate 7 none
  statics := none }

def pool5 : Array CpInfo := pool [(2, .class_ 4), (1, u "java/lang/Enum"), (0, u "name"), (0, u "Ljava/lang/String;"), (2, u "ordinal"), (0, u "I"), (1, .class_ 14), (1, u "java/lang/Object"), (4, u "hash"), (86, .class_ 108), (1, u "java/lang/Enum$EnumDesc"), (2, .class_ 112), (0, u "java/lang/constant/Constable"), (0, .class_ 114), (0, u "java/lang/Comparable"), (0, .class_ 116), (0, u "java/io/Serializable")] 87

/-- java/lang/Enum -/
def k5 : Class := { plain "java/lang/Enum" (some 0) with
  accessFlags := 1057
  interfaces := #[2, 3, 4]
  cf := some (fileOf pool5 2 #[.nestMembers #[106]] #[] 1057 12 #[111, 113, 115] #[{ accessFlags := 18, nameIndex := 5, descriptorIndex := 6, attributes := #[] }, { accessFlags := 18, nameIndex := 9, descriptorIndex := 10, attributes := #[] }, { accessFlags := 2, nameIndex := 19, descriptorIndex := 10, attributes := #[] }])
  fields := #[{ name := "name", type := (.object "java/lang/String"), accessFlags := 18, slot := 0, constantValue := 0 }, { name := "ordinal", type := .int, accessFlags := 18, slot := 1, constantValue := 0 }, { name := "hash", type := .int, accessFlags := 2, slot := 2, constantValue := 0 }]
  methods := #[]
  instanceTypes := #[(.object "java/lang/String"), .int, .int]
  staticTypes := #[]
  resolved := Array.replicate 204 none
  statics := none }

def pool6 : Array CpInfo := pool [(1, .class_ 2), (0, u "com/example/concordat/concordat/vo/Vo$Phase"), (2, u "BUILDING"), (0, u "Lcom/example/concordat/concordat/vo/Vo$Phase;"), (2, u "OPERATING"), (2, u "WITHDRAWN"), (0, .fieldref 1 14), (0, .nameAndType 15 16), (0, u "$VALUES"), (0, u "[Lcom/example/concordat/concordat/vo/Vo$Phase;"), (0, .methodref 18 19), (0, .class_ 16), (0, .nameAndType 20 21), (0, u "clone"), (0, u "()Ljava/lang/Object;"), (1, .class_ 25), (1, u "java/lang/Enum"), (6, .fieldref 1 33), (0, .nameAndType 34 35), (0, u "label"), (0, u "Ljava/lang/String;"), (0, .methodref 1 37), (0, .nameAndType 38 39), (0, u "values"), (0, u "()[Lcom/example/concordat/concordat/vo/Vo$Phase;"), (0, .methodref 41 42), (0, .class_ 43), (0, .nameAndType 44 45), (0, u "java/lang/String"), (0, u "equals"), (0, u "(Ljava/lang/Object;)Z"), (26, u "(Ljava/lang/String;)Lcom/example/concordat/concordat/vo/Vo$Phase;"), (2, u "()Ljava/lang/String;"), (0, u "of"), (7, .class_ 85), (0, u "com/example/concordat/concordat/vo/Vo")] 16

def k6c0 : Code := { maxStack := 1, maxLocals := 0, code := prog_65_method_1_code, exceptionTable := #[], attributes := #[] }
def k6m0 : Method := { name := "values", desc := "()[Lcom/example/concordat/concordat/vo/Vo$Phase;", sig := { parameters := [], returnType := some (.array (.object "com/example/concordat/concordat/vo/Vo$Phase")) }, accessFlags := 9, code := some k6c0 }
def k6c1 : Code := { maxStack := 1, maxLocals := 1, code := prog_65_method_4_code, exceptionTable := #[], attributes := #[] }
def k6m1 : Method := { name := "label", desc := "()Ljava/lang/String;", sig := { parameters := [], returnType := some (.object "java/lang/String") }, accessFlags := 1, code := some k6c1 }
def k6c2 : Code := { maxStack := 3, maxLocals := 5, code := prog_65_method_5_code, exceptionTable := #[], attributes := #[] }
def k6m2 : Method := { name := "of", desc := "(Ljava/lang/String;)Lcom/example/concordat/concordat/vo/Vo$Phase;", sig := { parameters := [(.object "java/lang/String")], returnType := some (.object "com/example/concordat/concordat/vo/Vo$Phase") }, accessFlags := 9, code := some k6c2 }
/-- com/example/concordat/concordat/vo/Vo$Phase -/
def k6 : Class := { plain "com/example/concordat/concordat/vo/Vo$Phase" (some 5) with
  accessFlags := 16433
  interfaces := #[]
  cf := some (fileOf pool6 1 #[.nestHost 84] #[{ accessFlags := 9, nameIndex := 38, descriptorIndex := 39, attributes := #[] }, { accessFlags := 1, nameIndex := 34, descriptorIndex := 75, attributes := #[] }, { accessFlags := 9, nameIndex := 76, descriptorIndex := 72, attributes := #[] }] 16433 23 #[] #[{ accessFlags := 16409, nameIndex := 5, descriptorIndex := 6, attributes := #[] }, { accessFlags := 16409, nameIndex := 9, descriptorIndex := 6, attributes := #[] }, { accessFlags := 16409, nameIndex := 12, descriptorIndex := 6, attributes := #[] }, { accessFlags := 18, nameIndex := 34, descriptorIndex := 35, attributes := #[] }, { accessFlags := 4122, nameIndex := 15, descriptorIndex := 16, attributes := #[] }])
  fields := #[{ name := "BUILDING", type := (.object "com/example/concordat/concordat/vo/Vo$Phase"), accessFlags := 16409, slot := 0, constantValue := 0 }, { name := "OPERATING", type := (.object "com/example/concordat/concordat/vo/Vo$Phase"), accessFlags := 16409, slot := 1, constantValue := 0 }, { name := "WITHDRAWN", type := (.object "com/example/concordat/concordat/vo/Vo$Phase"), accessFlags := 16409, slot := 2, constantValue := 0 }, { name := "label", type := (.object "java/lang/String"), accessFlags := 18, slot := 3, constantValue := 0 }, { name := "$VALUES", type := (.array (.object "com/example/concordat/concordat/vo/Vo$Phase")), accessFlags := 4122, slot := 3, constantValue := 0 }]
  methods := #[k6m0, k6m1, k6m2]
  instanceTypes := #[(.object "java/lang/String"), .int, .int, (.object "java/lang/String")]
  staticTypes := #[(.object "com/example/concordat/concordat/vo/Vo$Phase"), (.object "com/example/concordat/concordat/vo/Vo$Phase"), (.object "com/example/concordat/concordat/vo/Vo$Phase"), (.array (.object "com/example/concordat/concordat/vo/Vo$Phase"))]
  resolved := Array.replicate 102 none
  statics := some 0 }

def pool7 : Array CpInfo := pool [(2, .class_ 4), (1, u "java/lang/CharSequence"), (42, .class_ 48), (0, u "java/lang/CharSequence$1CodePointIterator"), (10, .class_ 60), (0, u "java/lang/CharSequence$1CharIterator"), (5, .class_ 67), (0, u "java/lang/Object")] 63

/-- java/lang/CharSequence -/
def k7 : Class := { plain "java/lang/CharSequence" (some 0) with
  accessFlags := 1537
  interfaces := #[]
  cf := some (fileOf pool7 2 #[.nestMembers #[47, 59]] #[] 1537 66 #[] #[])
  fields := #[]
  methods := #[]
  instanceTypes := #[]
  staticTypes := #[]
  resolved := Array.replicate 131 none
  statics := none }

def pool8 : Array CpInfo := pool [(1, .class_ 2), (0, u "java/lang/constant/ConstantDesc"), (0, .class_ 4), (0, u "java/lang/Object")] 32

/-- java/lang/constant/ConstantDesc -/
def k8 : Class := { plain "java/lang/constant/ConstantDesc" (some 0) with
  accessFlags := 1537
  interfaces := #[]
  cf := some (fileOf pool8 1 #[] #[] 1537 3 #[] #[])
  fields := #[]
  methods := #[]
  instanceTypes := #[]
  staticTypes := #[]
  resolved := Array.replicate 37 none
  statics := none }

def pool9 : Array CpInfo := pool [(1, .methodref 2 3), (0, .class_ 4), (0, .nameAndType 5 6), (0, u "java/lang/Object"), (0, u "<init>"), (0, u "()V"), (2, .fieldref 10 11), (0, .class_ 12), (0, .nameAndType 13 14), (0, u "java/lang/String"), (0, u "value"), (0, u "[B"), (0, .fieldref 10 16), (0, .nameAndType 17 18), (0, u "coder"), (0, u "B"), (2, u "hash"), (0, u "I"), (2, u "hashIsZero"), (0, u "Z"), (0, .methodref 10 28), (0, .nameAndType 5 29), (0, u "([CIILjava/lang/Void;)V"), (8, .fieldref 10 39), (0, .nameAndType 40 26), (0, u "COMPACT_STRINGS"), (1, .class_ 44), (1, u "java/lang/StringUTF16"), (0, u "compress"), (1, .methodref 42 48), (0, .nameAndType 49 50), (0, u "coderFromArrayLen"), (0, u "([BI)B"), (56, .class_ 109), (1, u "java/lang/StringLatin1"), (67, .methodref 42 178), (0, .nameAndType 45 179), (0, u "([CII)[B"), (361, .methodref 107 542), (0, .nameAndType 543 544), (0, u "equals"), (0, u "([B[B)Z"), (28, u "(Ljava/lang/Object;)Z"), (1, .class_ 576), (0, u "java/lang/CharSequence"), (22, u "CASE_INSENSITIVE_ORDER"), (0, u "Ljava/util/Comparator;"), (409, u "([C)V"), (90, u "serialPersistentFields"), (0, u "[Ljava/io/ObjectStreamField;"), (0, .class_ 1104), (0, u "java/lang/String$CaseInsensitiveComparator"), (1, .class_ 1107), (0, u "java/io/Serializable"), (0, .class_ 1109), (0, u "java/lang/Comparable"), (0, .class_ 1111), (0, u "java/lang/constant/Constable"), (0, .class_ 1113), (0, u "java/lang/constant/ConstantDesc"), (2, u "serialVersionUID"), (0, u "J"), (3, u "REPL"), (0, u "C"), (2, u "LATIN1"), (1, u "UTF16")] 323

def k9m0 : Method := { name := "<init>", desc := "()V", sig := { parameters := [], returnType := none }, accessFlags := 1, code := none }
def k9c1 : Code := { maxStack := 5, maxLocals := 2, code := jdk_42_method_3_code, exceptionTable := #[], attributes := #[] }
def k9m1 : Method := { name := "<init>", desc := "([C)V", sig := { parameters := [(.array .char)], returnType := none }, accessFlags := 1, code := some k9c1 }
def k9c2 : Code := { maxStack := 2, maxLocals := 3, code := jdk_42_method_66_code, exceptionTable := #[], attributes := #[] }
def k9m2 : Method := { name := "equals", desc := "(Ljava/lang/Object;)Z", sig := { parameters := [(.object "java/lang/Object")], returnType := some .boolean }, accessFlags := 1, code := some k9c2 }
def k9c3 : Code := { maxStack := 4, maxLocals := 6, code := jdk_42_method_149_code, exceptionTable := #[], attributes := #[] }
def k9m3 : Method := { name := "<init>", desc := "([CIILjava/lang/Void;)V", sig := { parameters := [(.array .char), .int, .int, (.object "java/lang/Void")], returnType := none }, accessFlags := 2, code := some k9c3 }
/-- java/lang/String -/
def k9 : Class := { plain "java/lang/String" (some 0) with
  accessFlags := 49
  interfaces := #[4, 3, 7, 2, 8]
  cf := some (fileOf pool9 10 #[.nestMembers #[1103]] #[{ accessFlags := 1, nameIndex := 5, descriptorIndex := 6, attributes := #[] }, { accessFlags := 1, nameIndex := 5, descriptorIndex := 1010, attributes := #[] }, { accessFlags := 1, nameIndex := 543, descriptorIndex := 573, attributes := #[] }, { accessFlags := 2, nameIndex := 5, descriptorIndex := 29, attributes := #[] }] 49 2 #[1106, 1108, 575, 1110, 1112] #[{ accessFlags := 18, nameIndex := 13, descriptorIndex := 14, attributes := #[] }, { accessFlags := 18, nameIndex := 17, descriptorIndex := 18, attributes := #[] }, { accessFlags := 2, nameIndex := 21, descriptorIndex := 22, attributes := #[] }, { accessFlags := 2, nameIndex := 25, descriptorIndex := 26, attributes := #[] }, { accessFlags := 26, nameIndex := 1116, descriptorIndex := 1117, attributes := #[] }, { accessFlags := 24, nameIndex := 40, descriptorIndex := 26, attributes := #[] }, { accessFlags := 26, nameIndex := 1101, descriptorIndex := 1102, attributes := #[] }, { accessFlags := 26, nameIndex := 1121, descriptorIndex := 1122, attributes := #[] }, { accessFlags := 25, nameIndex := 599, descriptorIndex := 600, attributes := #[] }, { accessFlags := 24, nameIndex := 1125, descriptorIndex := 18, attributes := #[] }, { accessFlags := 24, nameIndex := 1127, descriptorIndex := 18, attributes := #[] }])
  fields := #[{ name := "value", type := (.array .byte), accessFlags := 18, slot := 0, constantValue := 0 }, { name := "coder", type := .byte, accessFlags := 18, slot := 1, constantValue := 0 }, { name := "hash", type := .int, accessFlags := 2, slot := 2, constantValue := 0 }, { name := "hashIsZero", type := .boolean, accessFlags := 2, slot := 3, constantValue := 0 }, { name := "serialVersionUID", type := .long, accessFlags := 26, slot := 0, constantValue := 0 }, { name := "COMPACT_STRINGS", type := .boolean, accessFlags := 24, slot := 1, constantValue := 0 }, { name := "serialPersistentFields", type := (.array (.object "java/io/ObjectStreamField")), accessFlags := 26, slot := 2, constantValue := 0 }, { name := "REPL", type := .char, accessFlags := 26, slot := 3, constantValue := 0 }, { name := "CASE_INSENSITIVE_ORDER", type := (.object "java/util/Comparator"), accessFlags := 25, slot := 4, constantValue := 0 }, { name := "LATIN1", type := .byte, accessFlags := 24, slot := 5, constantValue := 0 }, { name := "UTF16", type := .byte, accessFlags := 24, slot := 6, constantValue := 0 }]
  methods := #[k9m0, k9m1, k9m2, k9m3]
  instanceTypes := #[(.array .byte), .byte, .int, .boolean]
  staticTypes := #[.long, .boolean, (.array (.object "java/io/ObjectStreamField")), .char, (.object "java/util/Comparator"), .byte, .byte]
  resolved := Array.replicate 1451 none
  statics := some 1 }

def pool10 : Array CpInfo := pool [(6, .class_ 8), (1, u "java/lang/Object"), (0, u "<init>"), (0, u "()V"), (1, .class_ 14), (1, u "java/lang/StringUTF16"), (31, u "$assertionsDisabled"), (0, u "Z"), (13, u "HI_BYTE_SHIFT"), (0, u "I"), (2, u "LO_BYTE_SHIFT"), (49, .methodref 12 116), (0, .nameAndType 117 118), (0, u "compress"), (0, u "([CI[BII)I"), (3, u "([CII)[B"), (138, u "coderFromArrayLen"), (0, u "([BI)B"), (106, .class_ 371), (1, u "java/lang/StringUTF16$LinesSpliterator"), (58, u "MAX_LENGTH"), (196, .class_ 628), (0, u "java/lang/StringUTF16$CodePointsSpliterator"), (0, .class_ 630), (0, u "java/lang/StringUTF16$CharsSpliterator")] 4

def k10m0 : Method := { name := "<init>", desc := "()V", sig := { parameters := [], returnType := none }, accessFlags := 0, code := none }
def k10c1 : Code := { maxStack := 2, maxLocals := 2, code := jdk_52_method_15_code, exceptionTable := #[], attributes := #[] }
def k10m1 : Method := { name := "coderFromArrayLen", desc := "([BI)B", sig := { parameters := [(.array .byte), .int], returnType := some .byte }, accessFlags := 8, code := some k10c1 }
def k10c2 : Code := { maxStack := 5, maxLocals := 6, code := jdk_52_method_16_code, exceptionTable := #[], attributes := #[] }
def k10m2 : Method := { name := "compress", desc := "([CII)[B", sig := { parameters := [(.array .char), .int, .int], returnType := some (.array .byte) }, accessFlags := 9, code := some k10c2 }
def k10c3 : Code := { maxStack := 3, maxLocals := 7, code := jdk_52_method_21_code, exceptionTable := #[], attributes := #[] }
def k10m3 : Method := { name := "compress", desc := "([CI[BII)I", sig := { parameters := [(.array .char), .int, (.array .byte), .int, .int], returnType := some .int }, accessFlags := 9, code := some k10c3 }
/-- java/lang/StringUTF16 -/
def k10 : Class := { plain "java/lang/StringUTF16" (some 0) with
  accessFlags := 48
  interfaces := #[]
  cf := some (fileOf pool10 12 #[.nestMembers #[627, 629, 369]] #[{ accessFlags := 0, nameIndex := 9, descriptorIndex := 10, attributes := #[] }, { accessFlags := 8, nameIndex := 261, descriptorIndex := 262, attributes := #[] }, { accessFlags := 9, nameIndex := 117, descriptorIndex := 122, attributes := #[] }, { accessFlags := 9, nameIndex := 117, descriptorIndex := 118, attributes := #[] }] 48 6 #[] #[{ accessFlags := 26, nameIndex := 61, descriptorIndex := 62, attributes := #[] }, { accessFlags := 26, nameIndex := 65, descriptorIndex := 62, attributes := #[] }, { accessFlags := 24, nameIndex := 430, descriptorIndex := 62, attributes := #[] }, { accessFlags := 4120, nameIndex := 46, descriptorIndex := 47, attributes := #[] }])
  fields := #[{ name := "HI_BYTE_SHIFT", type := .int, accessFlags := 26, slot := 0, constantValue := 0 }, { name := "LO_BYTE_SHIFT", type := .int, accessFlags := 26, slot := 1, constantValue := 0 }, { name := "MAX_LENGTH", type := .int, accessFlags := 24, slot := 2, constantValue := 0 }, { name := "$assertionsDisabled", type := .boolean, accessFlags := 4120, slot := 3, constantValue := 0 }]
  methods := #[k10m0, k10m1, k10m2, k10m3]
  instanceTypes := #[]
  staticTypes := #[.int, .int, .int, .boolean]
  resolved := Array.replicate 635 none
  statics := none }

def pool11 : Array CpInfo := pool [(1, .class_ 2), (0, u "java/lang/Cloneable"), (0, .class_ 4), (0, u "java/lang/Object")] 2

/-- java/lang/Cloneable -/
def k11 : Class := { plain "java/lang/Cloneable" (some 0) with
  accessFlags := 1537
  interfaces := #[]
  cf := some (fileOf pool11 1 #[] #[] 1537 3 #[] #[])
  fields := #[]
  methods := #[]
  instanceTypes := #[]
  staticTypes := #[]
  resolved := Array.replicate 7 none
  statics := none }

def pool12 : Array CpInfo := pool [(4, .class_ 6), (1, u "java/lang/Object"), (0, u "<init>"), (0, u "()V"), (5, .class_ 16), (1, u "java/lang/StringLatin1"), (104, u "$assertionsDisabled"), (0, u "Z"), (98, .class_ 223), (1, u "java/lang/StringLatin1$LinesSpliterator"), (57, u "equals"), (0, u "([B[B)Z"), (107, .class_ 391), (0, u "java/lang/StringLatin1$CharsSpliterator")] 3

def k12m0 : Method := { name := "<init>", desc := "()V", sig := { parameters := [], returnType := none }, accessFlags := 0, code := none }
def k12c1 : Code := { maxStack := 3, maxLocals := 3, code := jdk_43_method_13_code, exceptionTable := #[], attributes := #[] }
def k12m1 : Method := { name := "equals", desc := "([B[B)Z", sig := { parameters := [(.array .byte), (.array .byte)], returnType := some .boolean }, accessFlags := 9, code := some k12c1 }
/-- java/lang/StringLatin1 -/
def k12 : Class := { plain "java/lang/StringLatin1" (some 0) with
  accessFlags := 48
  interfaces := #[]
  cf := some (fileOf pool12 14 #[.nestMembers #[390, 221]] #[{ accessFlags := 0, nameIndex := 7, descriptorIndex := 8, attributes := #[] }, { accessFlags := 9, nameIndex := 281, descriptorIndex := 282, attributes := #[] }] 48 4 #[] #[{ accessFlags := 4120, nameIndex := 121, descriptorIndex := 122, attributes := #[] }])
  fields := #[{ name := "$assertionsDisabled", type := .boolean, accessFlags := 4120, slot := 0, constantValue := 0 }]
  methods := #[k12m0, k12m1]
  instanceTypes := #[]
  staticTypes := #[.boolean]
  resolved := Array.replicate 395 none
  statics := none }

def pool13 : Array CpInfo := pool [(2, .class_ 4), (1, u "java/lang/Object"), (0, u "<init>"), (0, u "()V"), (17, .class_ 26), (1, u "jdk/internal/util/Preconditions"), (28, .class_ 56), (0, u "jdk/internal/util/Preconditions$4"), (57, .class_ 115), (0, u "jdk/internal/util/Preconditions$1"), (7, u "SIOOBE_FORMATTER"), (0, u "Ljava/util/function/BiFunction;"), (0, .class_ 126), (0, u "jdk/internal/util/Preconditions$2"), (3, u "AIOOBE_FORMATTER"), (0, .class_ 132), (0, u "jdk/internal/util/Preconditions$3"), (3, u "IOOBE_FORMATTER")] 57

def k13m0 : Method := { name := "<init>", desc := "()V", sig := { parameters := [], returnType := none }, accessFlags := 1, code := none }
/-- jdk/internal/util/Preconditions -/
def k13 : Class := { plain "jdk/internal/util/Preconditions" (some 0) with
  accessFlags := 33
  interfaces := #[]
  cf := some (fileOf pool13 24 #[.nestMembers #[55, 131, 125, 114]] #[{ accessFlags := 1, nameIndex := 5, descriptorIndex := 6, attributes := #[] }] 33 2 #[] #[{ accessFlags := 25, nameIndex := 123, descriptorIndex := 124, attributes := #[] }, { accessFlags := 25, nameIndex := 130, descriptorIndex := 124, attributes := #[] }, { accessFlags := 25, nameIndex := 136, descriptorIndex := 124, attributes := #[] }])
  fields := #[{ name := "SIOOBE_FORMATTER", type := (.object "java/util/function/BiFunction"), accessFlags := 25, slot := 0, constantValue := 0 }, { name := "AIOOBE_FORMATTER", type := (.object "java/util/function/BiFunction"), accessFlags := 25, slot := 1, constantValue := 0 }, { name := "IOOBE_FORMATTER", type := (.object "java/util/function/BiFunction"), accessFlags := 25, slot := 2, constantValue := 0 }]
  methods := #[k13m0]
  instanceTypes := #[]
  staticTypes := #[(.object "java/util/function/BiFunction"), (.object "java/util/function/BiFunction"), (.object "java/util/function/BiFunction")]
  resolved := Array.replicate 194 none
  statics := some 2 }

def pool14 : Array CpInfo := pool [(9, u "<init>"), (6, .class_ 18), (1, u "java/lang/Object"), (0, u "()V"), (1, .class_ 23), (1, u "jdk/internal/util/ArraysSupport"), (0, u "LOG2_ARRAY_LONG_INDEX_SCALE"), (0, u "I"), (2, u "U"), (0, u "Ljdk/internal/misc/Unsafe;"), (8, u "BIG_ENDIAN"), (0, u "Z"), (8, u "LOG2_BYTE_BIT_SIZE"), (4, u "LOG2_ARRAY_INT_INDEX_SCALE"), (54, u "JLA"), (0, u "Ljdk/internal/access/JavaLangAccess;"), (11, u "LOG2_ARRAY_BOOLEAN_INDEX_SCALE"), (9, u "LOG2_ARRAY_BYTE_INDEX_SCALE"), (5, u "LOG2_ARRAY_CHAR_INDEX_SCALE"), (5, u "LOG2_ARRAY_SHORT_INDEX_SCALE"), (18, u "LOG2_ARRAY_FLOAT_INDEX_SCALE"), (24, u "LOG2_ARRAY_DOUBLE_INDEX_SCALE"), (89, u "T_BOOLEAN"), (2, u "T_CHAR"), (1, u "T_FLOAT"), (1, u "T_DOUBLE"), (1, u "T_BYTE"), (1, u "T_SHORT"), (1, u "T_INT"), (1, u "T_LONG"), (1, u "SOFT_MAX_ARRAY_LENGTH")] 83

def k14m0 : Method := { name := "<init>", desc := "()V", sig := { parameters := [], returnType := none }, accessFlags := 2, code := none }
/-- jdk/internal/util/ArraysSupport -/
def k14 : Class := { plain "jdk/internal/util/ArraysSupport" (some 0) with
  accessFlags := 33
  interfaces := #[]
  cf := some (fileOf pool14 21 #[] #[{ accessFlags := 2, nameIndex := 9, descriptorIndex := 19, attributes := #[] }] 33 16 #[] #[{ accessFlags := 24, nameIndex := 28, descriptorIndex := 29, attributes := #[] }, { accessFlags := 26, nameIndex := 38, descriptorIndex := 39, attributes := #[] }, { accessFlags := 25, nameIndex := 121, descriptorIndex := 25, attributes := #[] }, { accessFlags := 25, nameIndex := 131, descriptorIndex := 25, attributes := #[] }, { accessFlags := 25, nameIndex := 137, descriptorIndex := 25, attributes := #[] }, { accessFlags := 25, nameIndex := 143, descriptorIndex := 25, attributes := #[] }, { accessFlags := 25, nameIndex := 53, descriptorIndex := 25, attributes := #[] }, { accessFlags := 25, nameIndex := 24, descriptorIndex := 25, attributes := #[] }, { accessFlags := 25, nameIndex := 162, descriptorIndex := 25, attributes := #[] }, { accessFlags := 25, nameIndex := 187, descriptorIndex := 25, attributes := #[] }, { accessFlags := 26, nameIndex := 48, descriptorIndex := 25, attributes := #[] }, { accessFlags := 25, nameIndex := 277, descriptorIndex := 25, attributes := #[] }, { accessFlags := 25, nameIndex := 280, descriptorIndex := 25, attributes := #[] }, { accessFlags := 25, nameIndex := 282, descriptorIndex := 25, attributes := #[] }, { accessFlags := 25, nameIndex := 284, descriptorIndex := 25, attributes := #[] }, { accessFlags := 25, nameIndex := 286, descriptorIndex := 25, attributes := #[] }, { accessFlags := 25, nameIndex := 288, descriptorIndex := 25, attributes := #[] }, { accessFlags := 25, nameIndex := 290, descriptorIndex := 25, attributes := #[] }, { accessFlags := 25, nameIndex := 292, descriptorIndex := 25, attributes := #[] }, { accessFlags := 26, nameIndex := 108, descriptorIndex := 109, attributes := #[] }, { accessFlags := 25, nameIndex := 294, descriptorIndex := 25, attributes := #[] }])
  fields := #[{ name := "U", type := (.object "jdk/internal/misc/Unsafe"), accessFlags := 24, slot := 0, constantValue := 0 }, { name := "BIG_ENDIAN", type := .boolean, accessFlags := 26, slot := 1, constantValue := 0 }, { name := "LOG2_ARRAY_BOOLEAN_INDEX_SCALE", type := .int, accessFlags := 25, slot := 2, constantValue := 0 }, { name := "LOG2_ARRAY_BYTE_INDEX_SCALE", type := .int, accessFlags := 25, slot := 3, constantValue := 0 }, { name := "LOG2_ARRAY_CHAR_INDEX_SCALE", type := .int, accessFlags := 25, slot := 4, constantValue := 0 }, { name := "LOG2_ARRAY_SHORT_INDEX_SCALE", type := .int, accessFlags := 25, slot := 5, constantValue := 0 }, { name := "LOG2_ARRAY_INT_INDEX_SCALE", type := .int, accessFlags := 25, slot := 6, constantValue := 0 }, { name := "LOG2_ARRAY_LONG_INDEX_SCALE", type := .int, accessFlags := 25, slot := 7, constantValue := 0 }, { name := "LOG2_ARRAY_FLOAT_INDEX_SCALE", type := .int, accessFlags := 25, slot := 8, constantValue := 0 }, { name := "LOG2_ARRAY_DOUBLE_INDEX_SCALE", type := .int, accessFlags := 25, slot := 9, constantValue := 0 }, { name := "LOG2_BYTE_BIT_SIZE", type := .int, accessFlags := 26, slot := 10, constantValue := 0 }, { name := "T_BOOLEAN", type := .int, accessFlags := 25, slot := 11, constantValue := 0 }, { name := "T_CHAR", type := .int, accessFlags := 25, slot := 12, constantValue := 0 }, { name := "T_FLOAT", type := .int, accessFlags := 25, slot := 13, constantValue := 0 }, { name := "T_DOUBLE", type := .int, accessFlags := 25, slot := 14, constantValue := 0 }, { name := "T_BYTE", type := .int, accessFlags := 25, slot := 15, constantValue := 0 }, { name := "T_SHORT", type := .int, accessFlags := 25, slot := 16, constantValue := 0 }, { name := "T_INT", type := .int, accessFlags := 25, slot := 17, constantValue := 0 }, { name := "T_LONG", type := .int, accessFlags := 25, slot := 18, constantValue := 0 }, { name := "JLA", type := (.object "jdk/internal/access/JavaLangAccess"), accessFlags := 26, slot := 19, constantValue := 0 }, { name := "SOFT_MAX_ARRAY_LENGTH", type := .int, accessFlags := 25, slot := 20, constantValue := 0 }]
  methods := #[k14m0]
  instanceTypes := #[]
  staticTypes := #[(.object "jdk/internal/misc/Unsafe"), .boolean, .int, .int, .int, .int, .int, .int, .int, .int, .int, .int, .int, .int, .int, .int, .int, .int, .int, (.object "jdk/internal/access/JavaLangAccess"), .int]
  resolved := Array.replicate 378 none
  statics := none }

/-- the primitive byte -/
def k15 : Class := { plain "byte" none with kind := .primitive 'B', accessFlags := 0x411 }
/-- [B -/
def k16 : Class := { plain "[B" (some 0) with kind := .array 15 .byte, interfaces := #[11, 4], accessFlags := 1041 }

/-- the primitive char -/
def k17 : Class := { plain "char" none with kind := .primitive 'C', accessFlags := 0x411 }
/-- [C -/
def k18 : Class := { plain "[C" (some 0) with kind := .array 17 .char, interfaces := #[11, 4], accessFlags := 1041 }

/-- the primitive int -/
def k19 : Class := { plain "int" none with kind := .primitive 'I', accessFlags := 0x411 }
/-- [I -/
def k20 : Class := { plain "[I" (some 0) with kind := .array 19 .int, interfaces := #[11, 4], accessFlags := 1041 }

/-- [Lcom/example/concordat/concordat/vo/Vo$Phase; -/
def k21 : Class := { plain "[Lcom/example/concordat/concordat/vo/Vo$Phase;" (some 0) with kind := .array 6 (.object "com/example/concordat/concordat/vo/Vo$Phase"), interfaces := #[11, 4], accessFlags := 1041 }

def heap : Heap := #[{ cls := 6, slots := #[.ref 4, .ref 5, .ref 6, .ref 3], vm := .statics 6 },
  { cls := 9, slots := #[.long 0, .int 1, .null, .int 0, .null, .int 0, .int 0], vm := .statics 9 },
  { cls := 13, slots := #[.null, .null, .null], vm := .statics 13 },
  { cls := 21, slots := #[.ref 4, .ref 5, .ref 6], vm := .none },
  { cls := 6, slots := #[.null, .int 0, .int 0, .ref 7], vm := .none },
  { cls := 6, slots := #[.null, .int 1, .int 0, .ref 8], vm := .none },
  { cls := 6, slots := #[.null, .int 2, .int 0, .ref 9], vm := .none },
  { cls := 9, slots := #[.ref 10, .int 0, .int 0, .int 0], vm := .none },
  { cls := 9, slots := #[.ref 11, .int 0, .int 0, .int 0], vm := .none },
  { cls := 9, slots := #[.ref 12, .int 0, .int 0, .int 0], vm := .none },
  { cls := 16, slots := #[.int 98, .int 117, .int 105, .int 108, .int 100, .int 105, .int 110, .int 103], vm := .none },
  { cls := 16, slots := #[.int 111, .int 112, .int 101, .int 114, .int 97, .int 116, .int 105, .int 110, .int 103], vm := .none },
  { cls := 16, slots := #[.int 119, .int 105, .int 116, .int 104, .int 100, .int 114, .int 97, .int 119, .int 110], vm := .none }]
def classes : Array Class := #[k0, k1, k2, k3, k4, k5, k6, k7, k8, k9, k10, k11, k12, k13, k14, k15, k16, k17, k18, k19, k20, k21]
def interned : List (Array UInt16 × Addr) := []
def slotsUsed : Nat := 67
def theMethod : MethodId := ⟨1, 1⟩
def args0 : Array Value := #[.int 5]
def aboutOver (below : List Frame) : State where
  vm := { classes := classes, interned := interned.toArray }
  heap := heap
  slotsUsed := slotsUsed
  threads := #[{ frames := .invoking theMethod args0 :: below }]
def below0 : List Frame := [.native { method := ⟨0, 0⟩, args := #[] }]
def about1 : State := aboutOver below0
def p0 : Program := .bare "" "" ""
def e0 : Env := launch0.env 0 0 0
theorem w_frames : about1.frames = Frame.invoking theMethod args0 :: below0 := rfl
set_option maxRecDepth 65536 in
theorem w_args : argsFit about1.vm theMethod args0 = true := by decide +kernel
set_option maxRecDepth 65536 in
theorem w_heap : heapFits about1 = true := by decide +kernel
set_option maxRecDepth 65536 in
theorem w_runnable : about1.curStatus? = some .runnable := by decide +kernel
set_option maxRecDepth 65536 in
theorem w_alone : about1.alone = true := by decide +kernel
set_option maxRecDepth 65536 in
theorem w_named : about1.methodNamed? x = some theMethod := by decide +kernel
set_option maxRecDepth 65536 in
theorem w_hears : about1.hears theMethod below0 = true := by decide +kernel
set_option maxRecDepth 65536 in
theorem w_ripe : about1.ripe theMethod args0 below0 = true := by decide +kernel
theorem w_running : about1.status = .running := rfl
set_option maxRecDepth 65536 in
theorem w_room : about1.hasRoom e0.platform room_1 = true :=
  launch0.hasRoom_least _ room_1 (by decide +kernel) (by decide +kernel) (by decide +kernel) (by decide +kernel) (by decide +kernel) (by decide +kernel)
theorem allAtoms_all (ts : List Jvm.Cond) (a : Array Jvm.Value) (st : Jvm.State) : (allAtoms ts).before a st = ts.all (fun c => c.before a st) := by
  induction ts with
  | nil => rfl
  | cons c t ih =>
    show (Jvm.Cond.and c (allAtoms t)).before a st = _
    rw [Jvm.Cond.before_and, ih, List.all_cons]
def words1 : List Jvm.Cond := Jvm.Cond.code x code maxLocals ret :: tables_1
/-- a 'code' word, met by the world's own term for the bytes: nothing is compared byte by byte -/
theorem code_word {y : MethodName} {bytes : ByteArray} {mx : Nat} {rt : Option FieldType} {a : Array Value} {s : State} {m : MethodId} {meth : Method} {c : Code} (h1 : s.methodNamed? y = some m) (h2 : s.vm.method? m = some meth) (h3 : meth.code = some c) (h4 : c.code = bytes)
    (h5 : (c.maxLocals == mx && c.exceptionTable.isEmpty && decide (c.maxStack ≤ mostOperands) && decide (meth.sig.returnType = rt) && !meth.locks && decide (parseMethodDescriptor y.desc = some meth.sig)) = true) : (Jvm.Cond.code y bytes mx rt).before a s = true := by
  simp only [Bool.and_eq_true, beq_iff_eq, Bool.not_eq_true', decide_eq_true_eq] at h5
  obtain ⟨⟨⟨⟨⟨g1, g2⟩, g3⟩, g4⟩, g5⟩, g6⟩ := h5
  simp [Cond.before, Cond.holds, Cond.value, h1, h2, h3, h4, g1, g2, g3, g4, g5, g6]
def isCode : Jvm.Cond → Bool
  | .code _ _ _ _ => true
  | _ => false
theorem all_split {L : List Jvm.Cond} {P : Jvm.Cond → Bool} (h1 : L.all (fun c => isCode c || P c) = true) (h2 : ∀ c ∈ L.filter isCode, P c = true) : L.all P = true := by
  refine List.all_eq_true.mpr fun c hc => ?_
  have h := List.all_eq_true.mp h1 c hc
  rcases Bool.eq_false_or_eq_true (isCode c) with hi | hi
  · exact h2 c (List.mem_filter.mpr ⟨hc, hi⟩)
  · simpa [hi] using h
set_option maxRecDepth 65536 in
theorem w_c0 : (Jvm.Cond.code x code maxLocals ret).before args0 about1 = true := code_word (m := ⟨1, 1⟩) (meth := k1m1) (c := k1c1) (by decide +kernel) rfl rfl rfl (by decide +kernel)
set_option maxRecDepth 65536 in
theorem w_c1 : (Jvm.Cond.code ({ cls := "java/lang/String", name := "<init>", desc := "([C)V" } : Jvm.MethodName) jdk_42_method_3_code (2 : Nat) (Option.none : Option Jvm.ClassFile.FieldType)).before args0 about1 = true := code_word (m := ⟨9, 1⟩) (meth := k9m1) (c := k9c1) (by decide +kernel) rfl rfl rfl (by decide +kernel)
set_option maxRecDepth 65536 in
theorem w_c2 : (Jvm.Cond.code ({ cls := "java/lang/String", name := "<init>", desc := "([CIILjava/lang/Void;)V" } : Jvm.MethodName) jdk_42_method_149_code (6 : Nat) (Option.none : Option Jvm.ClassFile.FieldType)).before args0 about1 = true := code_word (m := ⟨9, 3⟩) (meth := k9m3) (c := k9c3) (by decide +kernel) rfl rfl rfl (by decide +kernel)
set_option maxRecDepth 65536 in
theorem w_c3 : (Jvm.Cond.code ({ cls := "java/lang/Object", name := "<init>", desc := "()V" } : Jvm.MethodName) object_method_1_code (1 : Nat) (Option.none : Option Jvm.ClassFile.FieldType)).before args0 about1 = true := code_word (m := ⟨0, 0⟩) (meth := k0m0) (c := k0c0) (by decide +kernel) rfl rfl rfl (by decide +kernel)
set_option maxRecDepth 65536 in
theorem w_c4 : (Jvm.Cond.code ({ cls := "java/lang/StringUTF16", name := "compress", desc := "([CII)[B" } : Jvm.MethodName) jdk_52_method_16_code (6 : Nat) (Option.some (Jvm.ClassFile.FieldType.array Jvm.ClassFile.FieldType.byte))).before args0 about1 = true := code_word (m := ⟨10, 2⟩) (meth := k10m2) (c := k10c2) (by decide +kernel) rfl rfl rfl (by decide +kernel)
set_option maxRecDepth 65536 in
theorem w_c5 : (Jvm.Cond.code ({ cls := "java/lang/StringUTF16", name := "compress", desc := "([CI[BII)I" } : Jvm.MethodName) jdk_52_method_21_code (7 : Nat) (Option.some Jvm.ClassFile.FieldType.int)).before args0 about1 = true := code_word (m := ⟨10, 3⟩) (meth := k10m3) (c := k10c3) (by decide +kernel) rfl rfl rfl (by decide +kernel)
set_option maxRecDepth 65536 in
theorem w_c6 : (Jvm.Cond.code ({ cls := "java/lang/StringUTF16", name := "coderFromArrayLen", desc := "([BI)B" } : Jvm.MethodName) jdk_52_method_15_code (2 : Nat) (Option.some Jvm.ClassFile.FieldType.byte)).before args0 about1 = true := code_word (m := ⟨10, 1⟩) (meth := k10m1) (c := k10c1) (by decide +kernel) rfl rfl rfl (by decide +kernel)
set_option maxRecDepth 65536 in
theorem w_c7 : (Jvm.Cond.code ({ cls := "com/example/concordat/concordat/vo/Vo$Phase", name := "of", desc := "(Ljava/lang/String;)Lcom/example/concordat/concordat/vo/Vo$Phase;" } : Jvm.MethodName) prog_65_method_5_code (5 : Nat) (Option.some (Jvm.ClassFile.FieldType.object "com/example/concordat/concordat/vo/Vo$Phase"))).before args0 about1 = true := code_word (m := ⟨6, 2⟩) (meth := k6m2) (c := k6c2) (by decide +kernel) rfl rfl rfl (by decide +kernel)
set_option maxRecDepth 65536 in
theorem w_c8 : (Jvm.Cond.code ({ cls := "com/example/concordat/concordat/vo/Vo$Phase", name := "values", desc := "()[Lcom/example/concordat/concordat/vo/Vo$Phase;" } : Jvm.MethodName) prog_65_method_1_code (0 : Nat) (Option.some (Jvm.ClassFile.FieldType.array (Jvm.ClassFile.FieldType.object "com/example/concordat/concordat/vo/Vo$Phase")))).before args0 about1 = true := code_word (m := ⟨6, 0⟩) (meth := k6m0) (c := k6c0) (by decide +kernel) rfl rfl rfl (by decide +kernel)
set_option maxRecDepth 65536 in
theorem w_c9 : (Jvm.Cond.code ({ cls := "java/lang/String", name := "equals", desc := "(Ljava/lang/Object;)Z" } : Jvm.MethodName) jdk_42_method_66_code (3 : Nat) (Option.some Jvm.ClassFile.FieldType.boolean)).before args0 about1 = true := code_word (m := ⟨9, 2⟩) (meth := k9m2) (c := k9c2) (by decide +kernel) rfl rfl rfl (by decide +kernel)
set_option maxRecDepth 65536 in
theorem w_c10 : (Jvm.Cond.code ({ cls := "java/lang/StringLatin1", name := "equals", desc := "([B[B)Z" } : Jvm.MethodName) jdk_43_method_13_code (3 : Nat) (Option.some Jvm.ClassFile.FieldType.boolean)).before args0 about1 = true := code_word (m := ⟨12, 1⟩) (meth := k12m1) (c := k12c1) (by decide +kernel) rfl rfl rfl (by decide +kernel)
set_option maxRecDepth 65536 in
theorem w_c11 : (Jvm.Cond.code ({ cls := "com/example/concordat/concordat/vo/Vo$Phase", name := "label", desc := "()Ljava/lang/String;" } : Jvm.MethodName) prog_65_method_4_code (1 : Nat) (Option.some (Jvm.ClassFile.FieldType.object "java/lang/String"))).before args0 about1 = true := code_word (m := ⟨6, 1⟩) (meth := k6m1) (c := k6c1) (by decide +kernel) rfl rfl rfl (by decide +kernel)
def codes1 : List Jvm.Cond := [Jvm.Cond.code x code maxLocals ret, Jvm.Cond.code ({ cls := "java/lang/String", name := "<init>", desc := "([C)V" } : Jvm.MethodName) jdk_42_method_3_code (2 : Nat) (Option.none : Option Jvm.ClassFile.FieldType), Jvm.Cond.code ({ cls := "java/lang/String", name := "<init>", desc := "([CIILjava/lang/Void;)V" } : Jvm.MethodName) jdk_42_method_149_code (6 : Nat) (Option.none : Option Jvm.ClassFile.FieldType), Jvm.Cond.code ({ cls := "java/lang/Object", name := "<init>", desc := "()V" } : Jvm.MethodName) object_method_1_code (1 : Nat) (Option.none : Option Jvm.ClassFile.FieldType), Jvm.Cond.code ({ cls := "java/lang/StringUTF16", name := "compress", desc := "([CII)[B" } : Jvm.MethodName) jdk_52_method_16_code (6 : Nat) (Option.some (Jvm.ClassFile.FieldType.array Jvm.ClassFile.FieldType.byte)), Jvm.Cond.code ({ cls := "java/lang/StringUTF16", name := "compress", desc := "([CI[BII)I" } : Jvm.MethodName) jdk_52_method_21_code (7 : Nat) (Option.some Jvm.ClassFile.FieldType.int), Jvm.Cond.code ({ cls := "java/lang/StringUTF16", name := "coderFromArrayLen", desc := "([BI)B" } : Jvm.MethodName) jdk_52_method_15_code (2 : Nat) (Option.some Jvm.ClassFile.FieldType.byte), Jvm.Cond.code ({ cls := "com/example/concordat/concordat/vo/Vo$Phase", name := "of", desc := "(Ljava/lang/String;)Lcom/example/concordat/concordat/vo/Vo$Phase;" } : Jvm.MethodName) prog_65_method_5_code (5 : Nat) (Option.some (Jvm.ClassFile.FieldType.object "com/example/concordat/concordat/vo/Vo$Phase")), Jvm.Cond.code ({ cls := "com/example/concordat/concordat/vo/Vo$Phase", name := "values", desc := "()[Lcom/example/concordat/concordat/vo/Vo$Phase;" } : Jvm.MethodName) prog_65_method_1_code (0 : Nat) (Option.some (Jvm.ClassFile.FieldType.array (Jvm.ClassFile.FieldType.object "com/example/concordat/concordat/vo/Vo$Phase"))), Jvm.Cond.code ({ cls := "java/lang/String", name := "equals", desc := "(Ljava/lang/Object;)Z" } : Jvm.MethodName) jdk_42_method_66_code (3 : Nat) (Option.some Jvm.ClassFile.FieldType.boolean), Jvm.Cond.code ({ cls := "java/lang/StringLatin1", name := "equals", desc := "([B[B)Z" } : Jvm.MethodName) jdk_43_method_13_code (3 : Nat) (Option.some Jvm.ClassFile.FieldType.boolean), Jvm.Cond.code ({ cls := "com/example/concordat/concordat/vo/Vo$Phase", name := "label", desc := "()Ljava/lang/String;" } : Jvm.MethodName) prog_65_method_4_code (1 : Nat) (Option.some (Jvm.ClassFile.FieldType.object "java/lang/String"))]
set_option maxRecDepth 65536 in
theorem codes_eq : words1.filter isCode = codes1 := rfl
theorem w_codes : ∀ c ∈ words1.filter isCode, c.before args0 about1 = true := by
  rw [codes_eq]
  intro c hc
  simp only [codes1, List.mem_cons, List.not_mem_nil, or_false] at hc
  rcases hc with rfl | rfl | rfl | rfl | rfl | rfl | rfl | rfl | rfl | rfl | rfl | rfl
  · exact w_c0
  · exact w_c1
  · exact w_c2
  · exact w_c3
  · exact w_c4
  · exact w_c5
  · exact w_c6
  · exact w_c7
  · exact w_c8
  · exact w_c9
  · exact w_c10
  · exact w_c11
set_option maxRecDepth 65536 in
theorem w_t1 : (words1.take 24).all (fun c => isCode c || c.before args0 about1) = true := by decide +kernel
set_option maxRecDepth 65536 in
theorem w_t2 : ((words1.drop 24).take 24).all (fun c => isCode c || c.before args0 about1) = true := by decide +kernel
set_option maxRecDepth 65536 in
theorem w_t3 : (((words1.drop 24).drop 24).take 24).all (fun c => isCode c || c.before args0 about1) = true := by decide +kernel
set_option maxRecDepth 65536 in
theorem w_t4 : (((words1.drop 24).drop 24).drop 24).all (fun c => isCode c || c.before args0 about1) = true := by decide +kernel
theorem w_tables : (allAtoms (Jvm.Cond.code x code maxLocals ret :: tables_1)).before args0 about1 = true := by
  rw [allAtoms_all]
  show words1.all (fun c => c.before args0 about1) = true
  refine all_split ?_ w_codes
  rw [← List.take_append_drop 24 words1, List.all_append, w_t1, ← List.take_append_drop 24 (words1.drop 24), List.all_append, w_t2, ← List.take_append_drop 24 ((words1.drop 24).drop 24), List.all_append, w_t3, w_t4]
  rfl
set_option maxRecDepth 65536 in
theorem w_rest : rest_1_c.before args0 about1 = true := by decide +kernel
set_option maxRecDepth 65536 in
theorem w_case : (Jvm.Cond.and given_1 narrow_1).before args0 about1 = true := by decide +kernel
theorem w_applies : (headSpec (Jvm.Cond.code x code maxLocals ret :: tables_1) room_1).applies x e0.platform about1 = true :=
  (Spec.applies_iff w_frames).mpr ⟨w_running, w_runnable, w_alone, w_named, w_hears, w_ripe, w_room, w_tables⟩
theorem atStart : AtStart classFile x code maxLocals ret World_1 tables_1 room_1 Calls_1 rest_1 Pre_1 launch0 p0 e0 about1 theMethod args0 below0 :=
  ⟨lists_1, trivial, launch0.admits_env _ _ _, launch0.least_env, fairChoices_fair.cas, fairChoices_fair.clock, w_frames, w_args, w_heap, w_applies, trivial, w_rest, w_case⟩
end start1
theorem witness_1 : WitnessClaimed_1 := ⟨start1.p0, start1.e0, start1.about1, start1.theMethod, start1.args0, start1.below0, start1.atStart⟩
end Jvm.Pilot.@@N@@
