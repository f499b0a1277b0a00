import JvmDerived
import JvmDerived.Pilot.@@N@@Statement
import JvmDerived.Pilot.@@N@@Code
set_option linter.unusedVariables false
set_option linter.unusedSimpArgs false
/- laws to paste: Road.backV, Road.lenW, Road.chN, Road.empW, Road.codOf (cut by pick.py; bodies as the Statement names them) -/
namespace Jvm.Pilot.@@N@@
namespace StrChars
open Jvm Sem ClassFile Op Lib Jvm.Stand Jvm.Free.XT Jvm.Free.ALB Jvm.Free.JM Jvm.Free
open Jvm.Lib.Cold (StaticIs)
/-- a char array whose places are chars -/
def Ch (a : Addr) (A : Cell) (U : State) : Prop := Arr .char a A U ∧ Typed .char A
theorem Ch.mv {a : Addr} {A : Cell} {U U' : State} (h : Ch a A U) (hal : U.vm.Alike U'.vm) (hh : U'.heap = U.heap) : Ch a A U' := ⟨h.1.mv hal hh, h.2⟩
theorem Ch.keep {a : Addr} {A : Cell} {U U' : State} (h : Ch a A U) (hal : U.vm.Alike U'.vm) (hk : U'.heap[a]? = some A) : Ch a A U' := ⟨h.1.keep hal hk, h.2⟩
/-- what place i of a char[]'s cell holds -/
def cv (A : Cell) (i : Nat) : Int32 := match A.slots[i]? with | some (.int x) => x | _ => 0
theorem Ch.get {a : Addr} {A : Cell} {U : State} (h : Ch a A U) {i : Nat} (hi : i < A.slots.size) : A.slots[i]? = some (.int (cv A i)) := by
  have e := Array.getElem?_eq_getElem hi
  have f := h.2 i _ e
  unfold cv; rw [e]
  generalize A.slots[i] = v at f
  cases v <;> simp [fits] at f ⊢
/-- the byte that i2b leaves of a char -/
def lo8 (x : Int32) : Int32 := x.toInt8.toInt32
theorem fits_lo8 (y : Int32) : fits .byte (.int (lo8 y)) = true := by
  have h1 := y.toInt8.le_toInt
  have h2 := y.toInt8.toInt_lt
  simp only [lo8, fits, Bool.and_eq_true, decide_eq_true_eq, Int32.le_iff_toInt_le, Int8.toInt_toInt32, show (-128 : Int32).toInt = -128 from by decide, show (127 : Int32).toInt = 127 from by decide]
  omega
/-- A' is A but that each place j of lo .. hi - 1 holds f j -/
def Laid (A A' : Cell) (lo hi : Nat) (f : Nat → Value) : Prop := A'.cls = A.cls ∧ A'.vm = A.vm ∧ A'.slots.size = A.slots.size ∧ ∀ i, A'.slots[i]? = if lo ≤ i ∧ i < hi then some (f i) else A.slots[i]?
theorem Laid.zero (A : Cell) (lo : Nat) (f : Nat → Value) : Laid A A lo (lo + 0) f := ⟨rfl, rfl, rfl, fun i => by rw [if_neg (by omega)]⟩
theorem Laid.step {A Ak : Cell} {lo k : Nat} {f : Nat → Value} {v : Value} (h : Laid A Ak lo k f) (hlo : lo ≤ k) (hk : k < Ak.slots.size) (hv : v = f k) : Laid A (Ak.setSlot k v) lo (k + 1) f := by
  refine ⟨h.1, h.2.1, by simpa [Cell.setSlot] using h.2.2.1, fun i => ?_⟩
  by_cases e : k = i
  · subst e; rw [Cell.slots_setSlot_self v hk, if_pos (by omega), hv]
  · rw [Cell.slots_setSlot_ne v e, h.2.2.2 i]
    by_cases q : lo ≤ i ∧ i < k
    · rw [if_pos q, if_pos (by omega)]
    · rw [if_neg q, if_neg (by omega)]
def U16 : String := "java/lang/StringUTF16"
namespace Cmp5
def yN : MethodName := ⟨"java/lang/StringUTF16", "compress", "([CI[BII)I"⟩
abbrev yB : ByteArray := jdk_52_method_21_code
theorem d0 : decode yB 0 = .ok (.iconst 0, 1) := by decide +kernel
theorem d1 : decode yB 1 = .ok (.istore 5, 2) := by decide +kernel
theorem d3 : decode yB 3 = .ok (.iload 5, 2) := by decide +kernel
theorem d5 : decode yB 5 = .ok (.iload 4, 2) := by decide +kernel
theorem d7 : decode yB 7 = .ok (.if_icmp (.ge) 37, 3) := by decide +kernel
theorem d10 : decode yB 10 = .ok (.aload_n 0, 1) := by decide +kernel
theorem d11 : decode yB 11 = .ok (.iload_n 1, 1) := by decide +kernel
theorem d12 : decode yB 12 = .ok (.caload, 1) := by decide +kernel
theorem d13 : decode yB 13 = .ok (.istore 6, 2) := by decide +kernel
theorem d15 : decode yB 15 = .ok (.iload 6, 2) := by decide +kernel
theorem d17 : decode yB 17 = .ok (.sipush 255, 3) := by decide +kernel
theorem d20 : decode yB 20 = .ok (.if_icmp (.le) 6, 3) := by decide +kernel
theorem d26 : decode yB 26 = .ok (.aload_n 2, 1) := by decide +kernel
theorem d27 : decode yB 27 = .ok (.iload_n 3, 1) := by decide +kernel
theorem d28 : decode yB 28 = .ok (.iload 6, 2) := by decide +kernel
theorem d30 : decode yB 30 = .ok (.i2b, 1) := by decide +kernel
theorem d31 : decode yB 31 = .ok (.bastore, 1) := by decide +kernel
theorem d32 : decode yB 32 = .ok (.iinc 1 1, 3) := by decide +kernel
theorem d35 : decode yB 35 = .ok (.iinc 3 1, 3) := by decide +kernel
theorem d38 : decode yB 38 = .ok (.iinc 5 1, 3) := by decide +kernel
theorem d41 : decode yB 41 = .ok (.goto (-38), 3) := by decide +kernel
theorem d44 : decode yB 44 = .ok (.iload 4, 2) := by decide +kernel
theorem d46 : decode yB 46 = .ok (.ireturn, 1) := by decide +kernel
def site : List Cond := []
def tab : Cond := tabOf yN yB 7 (some .int) site
def P (b : Addr) (A : Cell) (d : Addr) (B : Cell) (o q len : Nat) (args : Array Value) (s : State) : Prop := args = #[.ref b, .int (Int32.ofNat o), .ref d, .int (Int32.ofNat q), .int (Int32.ofNat len)] ∧ Ch b A s ∧ Arr .byte d B s ∧ b ≠ d ∧ o + len ≤ A.slots.size ∧ q + len ≤ B.slots.size ∧ ∀ i, i < len → ¬ 255 < cv A (o + i)
def E (b : Addr) (A : Cell) (d : Addr) (B : Cell) (o q len : Nat) (r : Option Value) (s u : State) : Prop := r = some (.int (Int32.ofNat len)) ∧ ∃ B', Put d B' s u ∧ Laid B B' q (q + len) (fun j => Value.int (lo8 (cv A (o + (j - q)))))
/-- no char of the range above 255: len; the places written hold each char's low byte -/
theorem law (l : Launch) (b : Addr) (A : Cell) (d : Addr) (B : Cell) (o q len : Nat) : Law l yN 5 5 0 0 yB 7 (some .int) site (P b A d B o q len) (E b A d B o q len) (copyLocs d q len) 0 0 := by
  refine Law.of_walk (plainFor_of_name (by decide +kernel)) (by decide +kernel) (by decide +kernel) (by decide) (fun _ _ h => by rw [h.1]; rfl) (fun _ U U' hal hh h => ⟨h.1, h.2.1.mv hal hh, h.2.2.1.mv hal hh, h.2.2.2⟩) (fun r U U' V V' h1 hal h2 h => ⟨h.1, h.2.elim fun B' q => ⟨B', q.1.mv h1 h2, q.2⟩⟩) ?_
  intro p e s m args below meth c s₁ X0 hexec hbytes hml hret hlk hnm hown hh0 W hP
  obtain ⟨rfl, hA, hB, hne, l1, l2, hp⟩ := hP
  have c1 : Steps p.tables e below (s₁.setTop (entryFrame m #[.ref b, .int (Int32.ofNat o), .ref d, .int (Int32.ofNat q), .int (Int32.ofNat len)] 7)) (s₁.setTop (mkF m 0 #[.val (.ref b), .val (.int (Int32.ofNat o)), .val (.ref d), .val (.int (Int32.ofNat q)), .val (.int (Int32.ofNat len)), .unset, .unset] [])) := entry rfl
  have hA0 := hA.1.mv X0.warmed.alike hh0
  have hB0 := hB.mv X0.warmed.alike hh0
  have a31 := hA.1.2.2.2
  have c2 : Steps p.tables e below (s₁.setTop (entryFrame m #[.ref b, .int (Int32.ofNat o), .ref d, .int (Int32.ofNat q), .int (Int32.ofNat len)] 7)) (s₁.setTop (mkF m 3 #[.val (.ref b), .val (.int (Int32.ofNat o)), .val (.ref d), .val (.int (Int32.ofNat q)), .val (.int (Int32.ofNat len)), .val (.int 0), .unset] [])) := c1.trans (by
    refine iconstV X0.here hexec rfl 0 (hb hbytes d0) (by decide) ?_
    refine XS.istore X0.here hexec rfl (hb hbytes d1) rfl rfl ?_
    exact Steps.refl _)
  have loop : ∀ (r i : Nat), i + r = len → ∀ (z : Slot), (z = .unset ∨ ∃ w, z = .val w ∧ w.category = 1) → ∀ (Tl : State) (Bk : Cell), Stand p l e { frames := 0, locals := 0, cells := 0, slots := 0 } s m #[.ref b, .int (Int32.ofNat o), .ref d, .int (Int32.ofNat q), .int (Int32.ofNat len)] below meth c Tl ([] ++ copyLocs d q i) 0 0 → Put d Bk s₁ Tl → Laid B Bk q (q + i) (fun j => Value.int (lo8 (cv A (o + (j - q))))) →
      Steps p.tables e below (s₁.setTop (entryFrame m #[.ref b, .int (Int32.ofNat o), .ref d, .int (Int32.ofNat q), .int (Int32.ofNat len)] 7)) (Tl.setTop (mkF m 3 #[.val (.ref b), .val (.int (Int32.ofNat (o + i))), .val (.ref d), .val (.int (Int32.ofNat (q + i))), .val (.int (Int32.ofNat len)), .val (.int (Int32.ofNat i)), z] [])) → ∃ (T' : State) (B' : Cell) (z' : Slot), Stand p l e { frames := 0, locals := 0, cells := 0, slots := 0 } s m #[.ref b, .int (Int32.ofNat o), .ref d, .int (Int32.ofNat q), .int (Int32.ofNat len)] below meth c T' ([] ++ copyLocs d q len) 0 0 ∧ Put d B' s₁ T' ∧ Laid B B' q (q + len) (fun j => Value.int (lo8 (cv A (o + (j - q))))) ∧
      Steps p.tables e below (s₁.setTop (entryFrame m #[.ref b, .int (Int32.ofNat o), .ref d, .int (Int32.ofNat q), .int (Int32.ofNat len)] 7)) (T'.setTop (mkF m 3 #[.val (.ref b), .val (.int (Int32.ofNat (o + len))), .val (.ref d), .val (.int (Int32.ofNat (q + len))), .val (.int (Int32.ofNat len)), .val (.int (Int32.ofNat len)), z'] [])) := by
    intro r
    induction r with
    | zero =>
      intro i hi z hz Tl Bk Xl pl fl cl
      have hil : i = len := by omega
      rw [hil] at Xl fl cl
      exact ⟨Tl, Bk, z, Xl, pl, fl, cl⟩
    | succ r ih =>
      intro i hi z hz Tl Bk Xl pl fl cl
      have all := X0.warmed.alike.symm.trans Xl.warmed.alike
      have hAl := hA0.keep all (pl.other hne hA0.1)
      have hBk := hB0.like all pl.1 fl.1 fl.2.1 fl.2.2.1
      have hlt : q + i < Bk.slots.size := by rw [fl.2.2.1]; omega
      have c3 : Steps p.tables e below (s₁.setTop (entryFrame m #[.ref b, .int (Int32.ofNat o), .ref d, .int (Int32.ofNat q), .int (Int32.ofNat len)] 7)) (Tl.setTop (mkF m 12 #[.val (.ref b), .val (.int (Int32.ofNat (o + i))), .val (.ref d), .val (.int (Int32.ofNat (q + i))), .val (.int (Int32.ofNat len)), .val (.int (Int32.ofNat i)), z] [.int (Int32.ofNat (o + i)), .ref b])) := cl.trans (by
        refine XS.iload Xl.here hexec rfl (hb hbytes d3) rfl ?_
        refine XS.iload Xl.here hexec rfl (hb hbytes d5) rfl ?_
        refine XS.icmpNo Xl.here hexec rfl (hb hbytes d7) rfl (ii_ge_f (lt32 (by omega) (by omega))) ?_
        refine XS.aloadN Xl.here hexec rfl (hb hbytes d10) rfl rfl ?_
        refine XS.iloadN Xl.here hexec rfl (hb hbytes d11) rfl ?_
        exact Steps.refl _)
      have c4 : Steps p.tables e below (s₁.setTop (entryFrame m #[.ref b, .int (Int32.ofNat o), .ref d, .int (Int32.ofNat q), .int (Int32.ofNat len)] 7)) (Tl.setTop (mkF m 13 #[.val (.ref b), .val (.int (Int32.ofNat (o + i))), .val (.ref d), .val (.int (Int32.ofNat (q + i))), .val (.int (Int32.ofNat len)), .val (.int (Int32.ofNat i)), z] [.int (cv A (o + i))])) := c3.trans (by
        refine Xl.aget hexec hAl rfl (hA.get (i := o + i) (by omega)) rfl rfl (hb hbytes d12) ?_
        exact Steps.refl _)
      have c5 : Steps p.tables e below (s₁.setTop (entryFrame m #[.ref b, .int (Int32.ofNat o), .ref d, .int (Int32.ofNat q), .int (Int32.ofNat len)] 7)) (Tl.setTop (mkF m 15 #[.val (.ref b), .val (.int (Int32.ofNat (o + i))), .val (.ref d), .val (.int (Int32.ofNat (q + i))), .val (.int (Int32.ofNat len)), .val (.int (Int32.ofNat i)), .val (.int (cv A (o + i)))] [])) := c4.trans (by
        refine XS.istoreS Xl.here hexec rfl (hb hbytes d13) rfl rfl hz ?_
        exact Steps.refl _)
      have c6 : Steps p.tables e below (s₁.setTop (entryFrame m #[.ref b, .int (Int32.ofNat o), .ref d, .int (Int32.ofNat q), .int (Int32.ofNat len)] 7)) (Tl.setTop (mkF m 31 #[.val (.ref b), .val (.int (Int32.ofNat (o + i))), .val (.ref d), .val (.int (Int32.ofNat (q + i))), .val (.int (Int32.ofNat len)), .val (.int (Int32.ofNat i)), .val (.int (cv A (o + i)))] [.int (lo8 (cv A (o + i))), .int (Int32.ofNat (q + i)), .ref d])) := c5.trans (by
        refine XS.iload Xl.here hexec rfl (hb hbytes d15) rfl ?_
        refine sipushV Xl.here hexec rfl 255 (hb hbytes d17) (by decide) ?_
        refine XS.icmpYes Xl.here hexec rfl (pc0 := 20) rfl (hb hbytes d20) rfl (ii_le_t (hp i (by omega))) (by decide) rfl ?_
        refine XS.aloadN Xl.here hexec rfl (hb hbytes d26) rfl rfl ?_
        refine XS.iloadN Xl.here hexec rfl (hb hbytes d27) rfl ?_
        refine XS.iload Xl.here hexec rfl (hb hbytes d28) rfl ?_
        refine i2b Xl.here hexec rfl (hb hbytes d30) rfl ?_
        exact Steps.refl _)
      obtain ⟨T7, X7, p7, st7⟩ := Xl.aput hexec hBk rfl hlt rfl (fits_lo8 (cv A (o + i))) (g := (mkF m 31 #[.val (.ref b), .val (.int (Int32.ofNat (o + i))), .val (.ref d), .val (.int (Int32.ofNat (q + i))), .val (.int (Int32.ofNat len)), .val (.int (Int32.ofNat i)), .val (.int (cv A (o + i)))] [.int (lo8 (cv A (o + i))), .int (Int32.ofNat (q + i)), .ref d])) rfl (rest := []) rfl (hb hbytes d31)
      have c8 : Steps p.tables e below (s₁.setTop (entryFrame m #[.ref b, .int (Int32.ofNat o), .ref d, .int (Int32.ofNat q), .int (Int32.ofNat len)] 7)) (T7.setTop (mkF m 32 #[.val (.ref b), .val (.int (Int32.ofNat (o + i))), .val (.ref d), .val (.int (Int32.ofNat (q + i))), .val (.int (Int32.ofNat len)), .val (.int (Int32.ofNat i)), .val (.int (cv A (o + i)))] [])) := c6.trans (st7 _ (Steps.refl _))
      have c9 : Steps p.tables e below (s₁.setTop (entryFrame m #[.ref b, .int (Int32.ofNat o), .ref d, .int (Int32.ofNat q), .int (Int32.ofNat len)] 7)) (T7.setTop (mkF m 3 #[.val (.ref b), .val (.int (Int32.ofNat (o + i) + 1)), .val (.ref d), .val (.int (Int32.ofNat (q + i) + 1)), .val (.int (Int32.ofNat len)), .val (.int (Int32.ofNat i + 1)), .val (.int (cv A (o + i)))] [])) := c8.trans (by
        refine iincV X7.here hexec rfl 1 (hb hbytes d32) (by decide) rfl rfl ?_
        refine iincV X7.here hexec rfl 1 (hb hbytes d35) (by decide) rfl rfl ?_
        refine iincV X7.here hexec rfl 1 (hb hbytes d38) (by decide) rfl rfl ?_
        refine XS.goto X7.here hexec rfl (pc0 := 41) rfl (hb hbytes d41) (by decide) rfl ?_
        exact Steps.refl _)
      have c10 : Steps p.tables e below (s₁.setTop (entryFrame m #[.ref b, .int (Int32.ofNat o), .ref d, .int (Int32.ofNat q), .int (Int32.ofNat len)] 7)) (T7.setTop (mkF m 3 #[.val (.ref b), .val (.int (Int32.ofNat (o + (i + 1)))), .val (.ref d), .val (.int (Int32.ofNat (q + (i + 1)))), .val (.int (Int32.ofNat len)), .val (.int (Int32.ofNat (i + 1))), .val (.int (cv A (o + i)))] [])) := by
        have := c9
        rw [succ32, succ32, succ32] at this
        exact this
      exact ih (i + 1) (by omega) _ (Or.inr ⟨_, rfl, rfl⟩) T7 _ (by rw [copyLocs_step, ← List.append_assoc]; exact X7) (pl.trans p7) (fl.step (by omega) hlt (by simp)) c10
  obtain ⟨T9, B9, z9, X9, p9, f9, g9⟩ := loop len 0 (by omega) .unset (Or.inl rfl) s₁ B (by simpa [copyLocs] using X0) ⟨hB0.1, fun _ _ => rfl, rfl⟩ (Laid.zero _ _ _) c2
  have c11 : Steps p.tables e below (s₁.setTop (entryFrame m #[.ref b, .int (Int32.ofNat o), .ref d, .int (Int32.ofNat q), .int (Int32.ofNat len)] 7)) (T9.setTop (mkF m 46 #[.val (.ref b), .val (.int (Int32.ofNat (o + len))), .val (.ref d), .val (.int (Int32.ofNat (q + len))), .val (.int (Int32.ofNat len)), .val (.int (Int32.ofNat len)), z9] [.int (Int32.ofNat len)])) := g9.trans (by
    refine XS.iload X9.here hexec rfl (hb hbytes d3) rfl ?_
    refine XS.iload X9.here hexec rfl (hb hbytes d5) rfl ?_
    refine XS.icmpYes X9.here hexec rfl (pc0 := 7) rfl (hb hbytes d7) rfl (ii_ge_t (nlt32 (by omega) (Nat.le_refl _))) (by decide) rfl ?_
    refine XS.iload X9.here hexec rfl (hb hbytes d44) rfl ?_
    exact Steps.refl _)
  exact ⟨T9, some (.int (Int32.ofNat len)), _, _, _, X9, by simp, rfl, rfl, (fun h => by cases h), ⟨rfl, B9, p9.from hh0, f9⟩, fun fs hl => c11.trans (X9.ireturnOut hexec hret rfl (Or.inl rfl) (hb hbytes d46) hl)⟩
end Cmp5
namespace Cmp3
def yN : MethodName := ⟨"java/lang/StringUTF16", "compress", "([CII)[B"⟩
abbrev yB : ByteArray := jdk_52_method_16_code
theorem d0 : decode yB 0 = .ok (.iload_n 2, 1) := by decide +kernel
theorem d1 : decode yB 1 = .ok (.newarray .byte, 2) := by decide +kernel
theorem d3 : decode yB 3 = .ok (.astore_n 3, 1) := by decide +kernel
theorem d4 : decode yB 4 = .ok (.aload_n 0, 1) := by decide +kernel
theorem d5 : decode yB 5 = .ok (.iload_n 1, 1) := by decide +kernel
theorem d6 : decode yB 6 = .ok (.aload_n 3, 1) := by decide +kernel
theorem d7 : decode yB 7 = .ok (.iconst 0, 1) := by decide +kernel
theorem d8 : decode yB 8 = .ok (.iload_n 2, 1) := by decide +kernel
theorem d9 : decode yB 9 = .ok (.invokestatic 115, 3) := by decide +kernel
theorem d12 : decode yB 12 = .ok (.istore 4, 2) := by decide +kernel
theorem d14 : decode yB 14 = .ok (.iload 4, 2) := by decide +kernel
theorem d16 : decode yB 16 = .ok (.iload_n 2, 1) := by decide +kernel
theorem d17 : decode yB 17 = .ok (.if_icmp (.eq) 40, 3) := by decide +kernel
theorem d57 : decode yB 57 = .ok (.aload_n 3, 1) := by decide +kernel
theorem d58 : decode yB 58 = .ok (.areturn, 1) := by decide +kernel
def site : List Cond := [.arrayClass .byte, Cmp5.tab] ++ staticW U16 115 Cmp5.yN
def tab : Cond := tabOf yN yB 6 (some (.array .byte)) site
def P (b : Addr) (A : Cell) (o len : Nat) (args : Array Value) (s : State) : Prop := args = #[.ref b, .int (Int32.ofNat o), .int (Int32.ofNat len)] ∧ Ch b A s ∧ o + len ≤ A.slots.size ∧ len ≤ 536870912 ∧ ∀ i, i < len → ¬ 255 < cv A (o + i)
def E (b : Addr) (A : Cell) (o len : Nat) (r : Option Value) (s u : State) : Prop := NewArr .byte "[B" len (fun j => .int (lo8 (cv A (o + j)))) r s u ∧ u.heap.size = s.heap.size + 1
/-- no char of the range above 255: a new byte[] of their low bytes -/
theorem law (l : Launch) (b : Addr) (A : Cell) (o len : Nat) : Law l yN 3 3 1 18 yB 6 (some (.array .byte)) site (P b A o len) (E b A o len) [] 1 len := by
  refine Law.of_walk (plainFor_of_name (by decide +kernel)) (by decide +kernel) (by decide +kernel) (by decide) (fun _ _ h => by rw [h.1]; rfl) (fun _ U U' hal hh h => ⟨h.1, h.2.1.mv hal hh, h.2.2⟩) (fun r U U' V V' h1 hal h2 h => ⟨NewArr.mv r U U' V V' h1 hal h2 h.1, by rw [h1, h2]; exact h.2⟩) ?_
  intro p e s m args below meth c s₁ X0 hexec hbytes hml hret hlk hnm hown hh0 W hP
  obtain ⟨rfl, hA, l1, l2, hp⟩ := hP
  have a31 := hA.1.2.2.2
  have c1 : Steps p.tables e below (s₁.setTop (entryFrame m #[.ref b, .int (Int32.ofNat o), .int (Int32.ofNat len)] 6)) (s₁.setTop (mkF m 0 #[.val (.ref b), .val (.int (Int32.ofNat o)), .val (.int (Int32.ofNat len)), .unset, .unset, .unset] [])) := entry rfl
  have c2 : Steps p.tables e below (s₁.setTop (entryFrame m #[.ref b, .int (Int32.ofNat o), .int (Int32.ofNat len)] 6)) (s₁.setTop (mkF m 1 #[.val (.ref b), .val (.int (Int32.ofNat o)), .val (.int (Int32.ofNat len)), .unset, .unset, .unset] [.int (Int32.ofNat len)])) := c1.trans (by
    refine XS.iloadN X0.here hexec rfl (hb hbytes d0) rfl ?_
    exact Steps.refl _)
  obtain ⟨T3, B3, X3, ba3, bs3, bv3, bh3, bf3, st3⟩ := X0.anew hexec (atype := .byte) (wk W (.arrayClass .byte)) rfl (by show len * 1 ≤ _; omega) (by omega) (g := (mkF m 1 #[.val (.ref b), .val (.int (Int32.ofNat o)), .val (.int (Int32.ofNat len)), .unset, .unset, .unset] [.int (Int32.ofNat len)])) rfl (hb hbytes d1) (rest := []) rfl (Nat.le_refl _) (by show 0 + len ≤ len; omega)
  rw [hh0] at ba3 st3
  have kp3 : XT.Kept s T3 := (XT.Kept.of_eq hh0).push bh3
  have hA3 := hA.keep X3.warmed.alike (kp3 _ _ hA.1.1)
  have hne : b ≠ s.heap.size := hA.1.ne
  have c4 : Steps p.tables e below (s₁.setTop (entryFrame m #[.ref b, .int (Int32.ofNat o), .int (Int32.ofNat len)] 6)) (T3.setTop (mkF m 3 #[.val (.ref b), .val (.int (Int32.ofNat o)), .val (.int (Int32.ofNat len)), .unset, .unset, .unset] [.ref s.heap.size])) := c2.trans (st3 _ (Steps.refl _))
  have c5 : Steps p.tables e below (s₁.setTop (entryFrame m #[.ref b, .int (Int32.ofNat o), .int (Int32.ofNat len)] 6)) (T3.setTop (mkF m 9 #[.val (.ref b), .val (.int (Int32.ofNat o)), .val (.int (Int32.ofNat len)), .val (.ref s.heap.size), .unset, .unset] [.int (Int32.ofNat len), .int 0, .ref s.heap.size, .int (Int32.ofNat o), .ref b])) := c4.trans (by
    refine XS.astoreN X3.here hexec rfl (hb hbytes d3) rfl rfl rfl ?_
    refine XS.aloadN X3.here hexec rfl (hb hbytes d4) rfl rfl ?_
    refine XS.iloadN X3.here hexec rfl (hb hbytes d5) rfl ?_
    refine XS.aloadN X3.here hexec rfl (hb hbytes d6) rfl rfl ?_
    refine iconstV X3.here hexec rfl 0 (hb hbytes d7) (by decide) ?_
    refine XS.iloadN X3.here hexec rfl (hb hbytes d8) rfl ?_
    exact Steps.refl _)
  obtain ⟨v6, T6, X6, E6, g6⟩ := X3.callS hexec (Cmp5.law l b A s.heap.size B3 o 0 len) hown (wks W (staticW U16 115 Cmp5.yN)) (wk W Cmp5.tab) (W := 0) (Nat.le_of_ble_eq_true rfl) (Nat.le_of_ble_eq_true rfl) (Nat.le_refl _) (by show 0 + len + 0 ≤ len; omega) (g := (mkF m 9 #[.val (.ref b), .val (.int (Int32.ofNat o)), .val (.int (Int32.ofNat len)), .val (.ref s.heap.size), .unset, .unset] [.int (Int32.ofNat len), .int (Int32.ofNat 0), .ref s.heap.size, .int (Int32.ofNat o), .ref b])) rfl (by rw [hml]; rfl) c5 (argsL := [.ref b, .int (Int32.ofNat o), .ref s.heap.size, .int (Int32.ofNat 0), .int (Int32.ofNat len)]) (rest := []) rfl rfl (by show 2 * 0 + 0 ≤ _; decide) (hb hbytes d9) (⟨rfl, hA3, ba3, hne, l1, by rw [bs3]; simp, hp⟩)
  obtain ⟨rfl, B6, p6, f6⟩ := E6
  have c7 : Steps p.tables e below (s₁.setTop (entryFrame m #[.ref b, .int (Int32.ofNat o), .int (Int32.ofNat len)] 6)) (T6.setTop (mkF m 12 #[.val (.ref b), .val (.int (Int32.ofNat o)), .val (.int (Int32.ofNat len)), .val (.ref s.heap.size), .unset, .unset] [.int (Int32.ofNat len)])) := g6
  have c8 : Steps p.tables e below (s₁.setTop (entryFrame m #[.ref b, .int (Int32.ofNat o), .int (Int32.ofNat len)] 6)) (T6.setTop (mkF m 58 #[.val (.ref b), .val (.int (Int32.ofNat o)), .val (.int (Int32.ofNat len)), .val (.ref s.heap.size), .val (.int (Int32.ofNat len)), .unset] [.ref s.heap.size])) := c7.trans (by
    refine XS.istore X6.here hexec rfl (hb hbytes d12) rfl rfl ?_
    refine XS.iload X6.here hexec rfl (hb hbytes d14) rfl ?_
    refine XS.iloadN X6.here hexec rfl (hb hbytes d16) rfl ?_
    refine XS.icmpYes X6.here hexec rfl (pc0 := 17) rfl (hb hbytes d17) rfl (ii_eq_t rfl) (by decide) rfl ?_
    refine XS.aloadN X6.here hexec rfl (hb hbytes d57) rfl rfl ?_
    exact Steps.refl _)
  have X8 := X6.wide (L' := []) (cells' := 1) (slots' := len) (fun x hx hlt => by
    simp only [List.nil_append, copyLocs, List.mem_map, List.mem_range] at hx
    obtain ⟨i, -, rfl⟩ := hx
    exact absurd hlt (Nat.lt_irrefl _)) (Nat.le_refl _) (by omega)
  exact ⟨T6, some (.ref s.heap.size), _, _, _, X8, rfl, rfl, rfl, (fun h => by cases h), ⟨⟨rfl, B6, ba3.like (X3.warmed.alike.symm.trans X6.warmed.alike) p6.1 f6.1 f6.2.1 f6.2.2.1, f6.2.1.trans bv3, by rw [X6.warmed.alike.findClass, f6.1]; exact bf3, by rw [f6.2.2.1, bs3]; simp, fun j hj => by rw [f6.2.2.2 j, if_pos (by omega)]; rfl, kp3.put p6 (Nat.le_refl _)⟩, by rw [p6.2.2, bh3, hh0]; simp⟩, fun fs hl => c8.trans (X8.areturnOut hexec rfl hret rfl (hb hbytes d58) hl)⟩
end Cmp3
namespace CodL
def yN : MethodName := ⟨"java/lang/StringUTF16", "coderFromArrayLen", "([BI)B"⟩
abbrev yB : ByteArray := jdk_52_method_15_code
theorem d0 : decode yB 0 = .ok (.iload_n 1, 1) := by decide +kernel
theorem d1 : decode yB 1 = .ok (.aload_n 0, 1) := by decide +kernel
theorem d2 : decode yB 2 = .ok (.arraylength, 1) := by decide +kernel
theorem d3 : decode yB 3 = .ok (.isub, 1) := by decide +kernel
theorem d4 : decode yB 4 = .ok (.bipush 31, 2) := by decide +kernel
theorem d6 : decode yB 6 = .ok (.iushr, 1) := by decide +kernel
theorem d7 : decode yB 7 = .ok (.i2b, 1) := by decide +kernel
theorem d8 : decode yB 8 = .ok (.ireturn, 1) := by decide +kernel
def site : List Cond := []
def tab : Cond := tabOf yN yB 2 (some .byte) site
def P (d : Addr) (B : Cell) (args : Array Value) (s : State) : Prop := args = #[.ref d, .int (Int32.ofNat B.slots.size)] ∧ Arr .byte d B s
def E (r : Option Value) (s u : State) : Prop := XT.PureE (some (.int 0)) r s u
/-- an array as long as the number of chars: LATIN1 -/
theorem law (l : Launch) (d : Addr) (B : Cell) : Law l yN 2 2 0 0 yB 2 (some .byte) site (P d B) E [] 0 0 := by
  refine Law.of_walk (plainFor_of_name (by decide +kernel)) (by decide +kernel) (by decide +kernel) (by decide) (fun _ _ h => by rw [h.1]; rfl) (fun _ U U' hal hh h => ⟨h.1, h.2.mv hal hh⟩) (fun r U U' V V' h1 hal h2 h => XT.PureE.mv r U U' V V' h1 hal h2 h) ?_
  intro p e s m args below meth c s₁ X0 hexec hbytes hml hret hlk hnm hown hh0 W hP
  obtain ⟨rfl, hB⟩ := hP
  have hB0 := hB.mv X0.warmed.alike hh0
  have c1 : Steps p.tables e below (s₁.setTop (entryFrame m #[.ref d, .int (Int32.ofNat B.slots.size)] 2)) (s₁.setTop (mkF m 0 #[.val (.ref d), .val (.int (Int32.ofNat B.slots.size))] [])) := entry rfl
  have c2 : Steps p.tables e below (s₁.setTop (entryFrame m #[.ref d, .int (Int32.ofNat B.slots.size)] 2)) (s₁.setTop (mkF m 2 #[.val (.ref d), .val (.int (Int32.ofNat B.slots.size))] [.ref d, .int (Int32.ofNat B.slots.size)])) := c1.trans (by
    refine XS.iloadN X0.here hexec rfl (hb hbytes d0) rfl ?_
    refine XS.aloadN X0.here hexec rfl (hb hbytes d1) rfl rfl ?_
    exact Steps.refl _)
  have c3 : Steps p.tables e below (s₁.setTop (entryFrame m #[.ref d, .int (Int32.ofNat B.slots.size)] 2)) (s₁.setTop (mkF m 8 #[.val (.ref d), .val (.int (Int32.ofNat B.slots.size))] [.int (lo8 (ushr (Int32.ofNat B.slots.size - Int32.ofNat B.slots.size) 31))])) := c2.trans (by
    refine X0.alen hexec hB0 rfl rfl (hb hbytes d2) ?_
    refine XS.isub X0.here hexec rfl (hb hbytes d3) rfl ?_
    refine bipushV X0.here hexec rfl 31 (hb hbytes d4) (by decide) ?_
    refine iushr X0.here hexec rfl (hb hbytes d6) rfl ?_
    refine i2b X0.here hexec rfl (hb hbytes d7) rfl ?_
    exact Steps.refl _)
  have e0 : lo8 (ushr (Int32.ofNat B.slots.size - Int32.ofNat B.slots.size) 31) = 0 := by rw [Int32.sub_self]; decide
  rw [e0] at c3
  exact ⟨s₁, some (.int 0), _, _, _, X0, rfl, rfl, rfl, (fun h => by cases h), ⟨rfl, hh0⟩, fun fs hl => c3.trans (X0.ireturnOut hexec hret rfl (Or.inr (Or.inr (Or.inl rfl))) (hb hbytes d8) hl)⟩
end CodL
/-- the String at a is Latin-1 over a new byte[] (the heap's one new cell): the low bytes of the len chars of A from o on; every cell but a is kept -/
def Got (a : Addr) (D : Cell) (fV fC : Field) (A : Cell) (o len : Nat) (r : Option Value) (s u : State) : Prop := r = none ∧ ∃ D' V : Cell, Blank "java/lang/String" a D' u ∧ Same D D' [fV.slot, fC.slot] ∧ D'.slots[fV.slot]? = some (.ref s.heap.size) ∧ D'.slots[fC.slot]? = some (.int 0) ∧ Arr .byte s.heap.size V u ∧ V.vm = .none ∧ u.vm.findClass "[B" = some V.cls ∧ V.slots.size = len ∧ (∀ j, j < len → V.slots[j]? = some (.int (lo8 (cv A (o + j))))) ∧ (∀ (y : Addr) (c : Cell), y ≠ a → s.heap[y]? = some c → u.heap[y]? = some c) ∧ u.heap.size = s.heap.size + 1
theorem Got.mv {a : Addr} {D A : Cell} {fV fC : Field} {o len : Nat} : ∀ r (U U' V V' : State), U'.heap = U.heap → V.vm.Alike V'.vm → V'.heap = V.heap → Got a D fV fC A o len r U V → Got a D fV fC A o len r U' V' :=
  fun r U U' V V' h1 hal h2 ⟨e0, D', X, a1, a2, a3, a4, a5, a6, a7, a8, a9, a10, a11⟩ => ⟨e0, D', X, a1.mv hal h2, a2, by rw [h1]; exact a3, a4, by rw [h1]; exact a5.mv hal h2, a6, by rw [hal.findClass]; exact a7, a8, a9, by rw [h1, h2]; exact a10, by rw [h1, h2]; exact a11⟩
namespace New4
def yN : MethodName := ⟨"java/lang/String", "<init>", "([CIILjava/lang/Void;)V"⟩
abbrev yB : ByteArray := jdk_42_method_149_code
theorem d0 : decode yB 0 = .ok (.aload_n 0, 1) := by decide +kernel
theorem d1 : decode yB 1 = .ok (.invokespecial 1, 3) := by decide +kernel
theorem d4 : decode yB 4 = .ok (.iload_n 3, 1) := by decide +kernel
theorem d5 : decode yB 5 = .ok (.ifCond (.ne) 22, 3) := by decide +kernel
theorem d27 : decode yB 27 = .ok (.getstatic 38, 3) := by decide +kernel
theorem d30 : decode yB 30 = .ok (.ifCond (.eq) 28, 3) := by decide +kernel
theorem d33 : decode yB 33 = .ok (.aload_n 1, 1) := by decide +kernel
theorem d34 : decode yB 34 = .ok (.iload_n 2, 1) := by decide +kernel
theorem d35 : decode yB 35 = .ok (.iload_n 3, 1) := by decide +kernel
theorem d36 : decode yB 36 = .ok (.invokestatic 177, 3) := by decide +kernel
theorem d39 : decode yB 39 = .ok (.astore 5, 2) := by decide +kernel
theorem d41 : decode yB 41 = .ok (.aload_n 0, 1) := by decide +kernel
theorem d42 : decode yB 42 = .ok (.aload 5, 2) := by decide +kernel
theorem d44 : decode yB 44 = .ok (.iload_n 3, 1) := by decide +kernel
theorem d45 : decode yB 45 = .ok (.invokestatic 47, 3) := by decide +kernel
theorem d48 : decode yB 48 = .ok (.putfield 15, 3) := by decide +kernel
theorem d51 : decode yB 51 = .ok (.aload_n 0, 1) := by decide +kernel
theorem d52 : decode yB 52 = .ok (.aload 5, 2) := by decide +kernel
theorem d54 : decode yB 54 = .ok (.putfield 9, 3) := by decide +kernel
theorem d57 : decode yB 57 = .ok (.return_, 1) := by decide +kernel
def site : List Cond := [.fieldLink "java/lang/String" 38 "java/lang/String" "COMPACT_STRINGS" "Z", Cmp3.tab, CodL.tab, .laysFinal "java/lang/String" "java/lang/String" "value" "[B", .fieldLink "java/lang/String" 9 "java/lang/String" "value" "[B", .laysFinal "java/lang/String" "java/lang/String" "coder" "B", .fieldLink "java/lang/String" 15 "java/lang/String" "coder" "B"] ++ objW "java/lang/String" 1 ++ staticW "java/lang/String" 177 Cmp3.yN ++ staticW "java/lang/String" 47 CodL.yN
def tab : Cond := tabOf yN yB 6 none site
def P (a : Addr) (D : Cell) (fV fC : Field) (b : Addr) (A : Cell) (z : Int32) (o len : Nat) (args : Array Value) (s : State) : Prop := args = #[.ref a, .ref b, .int (Int32.ofNat o), .int (Int32.ofNat len), .null] ∧ Blank "java/lang/String" a D s ∧ Found "java/lang/String" "value" "[B" fV s ∧ Found "java/lang/String" "coder" "B" fC s ∧ Ch b A s ∧ StaticIs s "java/lang/String" "COMPACT_STRINGS" "Z" (.int z) ∧ ¬ z = 0 ∧ 0 < len ∧ o + len ≤ A.slots.size ∧ len ≤ 536870912 ∧ ∀ i, i < len → ¬ 255 < cv A (o + i)
def E (a : Addr) (D : Cell) (fV fC : Field) (A : Cell) (o len : Nat) (r : Option Value) (s u : State) : Prop := Got a D fV fC A o len r s u
/-- len > 0, no char of the range above 255: a Latin-1 String of their low bytes -/
theorem law (l : Launch) (a : Addr) (D : Cell) (fV fC : Field) (b : Addr) (A : Cell) (z : Int32) (o len : Nat) : Law l yN 5 4 2 35 yB 6 none site (P a D fV fC b A z o len) (E a D fV fC A o len) [⟨a, fC.slot⟩, ⟨a, fV.slot⟩] 1 len := by
  refine Law.of_walk (plainFor_of_name (by decide +kernel)) (by decide +kernel) (by decide +kernel) (by decide) (fun _ _ h => by rw [h.1]; rfl) (fun _ U U' hal hh h => ⟨h.1, h.2.1.mv hal hh, h.2.2.1.al hal, h.2.2.2.1.al hal, h.2.2.2.2.1.mv hal hh, h.2.2.2.2.2.1.there hal hh, h.2.2.2.2.2.2⟩) (fun r U U' V V' h1 hal h2 h => Got.mv r U U' V V' h1 hal h2 h) ?_
  intro p e s m args below meth c s₁ X0 hexec hbytes hml hret hlk hnm hown hh0 W hP
  obtain ⟨rfl, hB, f1, f2, hA, s1, hz, l0, l1, l2, hp⟩ := hP
  have a31 := hA.1.2.2.2
  have c1 : Steps p.tables e below (s₁.setTop (entryFrame m #[.ref a, .ref b, .int (Int32.ofNat o), .int (Int32.ofNat len), .null] 6)) (s₁.setTop (mkF m 0 #[.val (.ref a), .val (.ref b), .val (.int (Int32.ofNat o)), .val (.int (Int32.ofNat len)), .val .null, .unset] [])) := entry rfl
  have c2 : Steps p.tables e below (s₁.setTop (entryFrame m #[.ref a, .ref b, .int (Int32.ofNat o), .int (Int32.ofNat len), .null] 6)) (s₁.setTop (mkF m 1 #[.val (.ref a), .val (.ref b), .val (.int (Int32.ofNat o)), .val (.int (Int32.ofNat len)), .val .null, .unset] [.ref a])) := c1.trans (by
    refine XS.aloadN X0.here hexec rfl (hb hbytes d0) rfl rfl ?_
    exact Steps.refl _)
  obtain ⟨T3, X3, q3, st3⟩ := X0.oinit hexec hown (wks W (objW "java/lang/String" 1)) (g := (mkF m 1 #[.val (.ref a), .val (.ref b), .val (.int (Int32.ofNat o)), .val (.int (Int32.ofNat len)), .val .null, .unset] [.ref a])) rfl (by rw [hml]; rfl) (rest := []) rfl (hb hbytes d1) (W := 0) (by show 2 * 0 + 0 ≤ _; decide) (Nat.le_of_ble_eq_true rfl) (Nat.le_of_ble_eq_true rfl)
  have hh3 := q3.trans hh0
  have c4 : Steps p.tables e below (s₁.setTop (entryFrame m #[.ref a, .ref b, .int (Int32.ofNat o), .int (Int32.ofNat len), .null] 6)) (T3.setTop (mkF m 27 #[.val (.ref a), .val (.ref b), .val (.int (Int32.ofNat o)), .val (.int (Int32.ofNat len)), .val .null, .unset] [])) := (c2.trans (st3 _ (Steps.refl _))).trans (by
    refine XS.iloadN X3.here hexec rfl (hb hbytes d4) rfl ?_
    refine XS.ifYes X3.here hexec rfl (pc0 := 5) rfl (hb hbytes d5) rfl (i0_ne_t (nz32 (by omega) l0)) (by decide) rfl ?_
    exact Steps.refl _)
  obtain ⟨T5, X5, q5, st5⟩ := X3.sget hexec hown (wk W (.fieldLink "java/lang/String" 38 "java/lang/String" "COMPACT_STRINGS" "Z")) s1 (fun _ _ h => by rw [hh3]; exact h) (g := (mkF m 27 #[.val (.ref a), .val (.ref b), .val (.int (Int32.ofNat o)), .val (.int (Int32.ofNat len)), .val .null, .unset] [])) rfl (hb hbytes d27)
  have hh5 := q5.trans hh3
  have c6 : Steps p.tables e below (s₁.setTop (entryFrame m #[.ref a, .ref b, .int (Int32.ofNat o), .int (Int32.ofNat len), .null] 6)) (T5.setTop (mkF m 30 #[.val (.ref a), .val (.ref b), .val (.int (Int32.ofNat o)), .val (.int (Int32.ofNat len)), .val .null, .unset] [.int z])) := c4.trans (st5 _ (Steps.refl _))
  have c7 : Steps p.tables e below (s₁.setTop (entryFrame m #[.ref a, .ref b, .int (Int32.ofNat o), .int (Int32.ofNat len), .null] 6)) (T5.setTop (mkF m 36 #[.val (.ref a), .val (.ref b), .val (.int (Int32.ofNat o)), .val (.int (Int32.ofNat len)), .val .null, .unset] [.int (Int32.ofNat len), .int (Int32.ofNat o), .ref b])) := c6.trans (by
    refine XS.ifNo X5.here hexec rfl (hb hbytes d30) rfl (i0_eq_f hz) ?_
    refine XS.aloadN X5.here hexec rfl (hb hbytes d33) rfl rfl ?_
    refine XS.iloadN X5.here hexec rfl (hb hbytes d34) rfl ?_
    refine XS.iloadN X5.here hexec rfl (hb hbytes d35) rfl ?_
    exact Steps.refl _)
  obtain ⟨v8, T8, X8, E8, g8⟩ := X5.callS hexec (Cmp3.law l b A o len) hown (wks W (staticW "java/lang/String" 177 Cmp3.yN)) (wk W Cmp3.tab) (W := 0) (Nat.le_of_ble_eq_true rfl) (Nat.le_of_ble_eq_true rfl) (Nat.le_refl _) (by show 0 + len ≤ len; omega) (g := (mkF m 36 #[.val (.ref a), .val (.ref b), .val (.int (Int32.ofNat o)), .val (.int (Int32.ofNat len)), .val .null, .unset] [.int (Int32.ofNat len), .int (Int32.ofNat o), .ref b])) rfl (by rw [hml]; rfl) c7 (argsL := [.ref b, .int (Int32.ofNat o), .int (Int32.ofNat len)]) (rest := []) rfl rfl (by show 2 * 0 + 0 ≤ _; decide) (hb hbytes d36) (⟨rfl, hA.mv X5.warmed.alike hh5, l1, l2, hp⟩)
  obtain ⟨e8, z8⟩ := E8
  obtain ⟨rfl, N, n1, n2, n3, n4, n5, n6⟩ := NewArr.mv _ T5 s _ _ hh5.symm (Vm.Alike.refl _) rfl e8
  rw [hh5] at z8
  have hB1 := hB.keep X8.warmed.alike (n6 _ _ hB.1)
  have hne : s.heap.size ≠ a := (Nat.ne_of_lt (Array.getElem?_eq_some_iff.mp hB.1).1).symm
  have c9 : Steps p.tables e below (s₁.setTop (entryFrame m #[.ref a, .ref b, .int (Int32.ofNat o), .int (Int32.ofNat len), .null] 6)) (T8.setTop (mkF m 39 #[.val (.ref a), .val (.ref b), .val (.int (Int32.ofNat o)), .val (.int (Int32.ofNat len)), .val .null, .unset] [.ref s.heap.size])) := g8
  have c10 : Steps p.tables e below (s₁.setTop (entryFrame m #[.ref a, .ref b, .int (Int32.ofNat o), .int (Int32.ofNat len), .null] 6)) (T8.setTop (mkF m 45 #[.val (.ref a), .val (.ref b), .val (.int (Int32.ofNat o)), .val (.int (Int32.ofNat len)), .val .null, .val (.ref s.heap.size)] [.int (Int32.ofNat N.slots.size), .ref s.heap.size, .ref a])) := by
    have hc : Steps p.tables e below (s₁.setTop (entryFrame m #[.ref a, .ref b, .int (Int32.ofNat o), .int (Int32.ofNat len), .null] 6)) (T8.setTop (mkF m 45 #[.val (.ref a), .val (.ref b), .val (.int (Int32.ofNat o)), .val (.int (Int32.ofNat len)), .val .null, .val (.ref s.heap.size)] [.int (Int32.ofNat len), .ref s.heap.size, .ref a])) := c9.trans (by
      refine XS.astore X8.here hexec rfl (hb hbytes d39) rfl rfl rfl ?_
      refine XS.aloadN X8.here hexec rfl (hb hbytes d41) rfl rfl ?_
      refine XS.aload X8.here hexec rfl (hb hbytes d42) rfl rfl ?_
      refine XS.iloadN X8.here hexec rfl (hb hbytes d44) rfl ?_
      exact Steps.refl _)
    rw [n4]; exact hc
  obtain ⟨v11, T11, X11, E11, g11⟩ := X8.callS hexec (CodL.law l s.heap.size N) hown (wks W (staticW "java/lang/String" 47 CodL.yN)) (wk W CodL.tab) (W := 1) (Nat.le_of_ble_eq_true rfl) (Nat.le_of_ble_eq_true rfl) (Nat.le_refl _) (by show 0 + len + 0 ≤ len; omega) (g := (mkF m 45 #[.val (.ref a), .val (.ref b), .val (.int (Int32.ofNat o)), .val (.int (Int32.ofNat len)), .val .null, .val (.ref s.heap.size)] [.int (Int32.ofNat N.slots.size), .ref s.heap.size, .ref a])) rfl (by rw [hml]; rfl) c10 (argsL := [.ref s.heap.size, .int (Int32.ofNat N.slots.size)]) (rest := [.ref a]) rfl rfl (by show 2 * 0 + (1 + 0) ≤ _; decide) (hb hbytes d45) (⟨rfl, n1⟩)
  obtain ⟨rfl, q11⟩ := E11
  have hB11 := hB1.mv (X8.warmed.alike.symm.trans X11.warmed.alike) q11
  have c12 : Steps p.tables e below (s₁.setTop (entryFrame m #[.ref a, .ref b, .int (Int32.ofNat o), .int (Int32.ofNat len), .null] 6)) (T11.setTop (mkF m 48 #[.val (.ref a), .val (.ref b), .val (.int (Int32.ofNat o)), .val (.int (Int32.ofNat len)), .val .null, .val (.ref s.heap.size)] [.int 0, .ref a])) := g11
  obtain ⟨T13, X13, p13, bl13, sl13, st13⟩ := X11.finit hexec hown (wk W (.fieldLink "java/lang/String" 15 "java/lang/String" "coder" "B")) (Or.inr ⟨_, (wk W (.laysFinal "java/lang/String" "java/lang/String" "coder" "B"))⟩) (Or.inl ⟨rfl, hnm⟩) f2 (Or.inl rfl) hB11 (t := .byte) (by decide +kernel) rfl (g := (mkF m 48 #[.val (.ref a), .val (.ref b), .val (.int (Int32.ofNat o)), .val (.int (Int32.ofNat len)), .val .null, .val (.ref s.heap.size)] [.int 0, .ref a])) rfl (rest := []) rfl (hb hbytes d48)
  have c14 : Steps p.tables e below (s₁.setTop (entryFrame m #[.ref a, .ref b, .int (Int32.ofNat o), .int (Int32.ofNat len), .null] 6)) (T13.setTop (mkF m 54 #[.val (.ref a), .val (.ref b), .val (.int (Int32.ofNat o)), .val (.int (Int32.ofNat len)), .val .null, .val (.ref s.heap.size)] [.ref s.heap.size, .ref a])) := (c12.trans (st13 _ (Steps.refl _))).trans (by
    refine XS.aloadN X13.here hexec rfl (hb hbytes d51) rfl rfl ?_
    refine XS.aload X13.here hexec rfl (hb hbytes d52) rfl rfl ?_
    exact Steps.refl _)
  obtain ⟨T15, X15, p15, bl15, sl15, st15⟩ := X13.finit hexec hown (wk W (.fieldLink "java/lang/String" 9 "java/lang/String" "value" "[B")) (Or.inr ⟨_, (wk W (.laysFinal "java/lang/String" "java/lang/String" "value" "[B"))⟩) (Or.inl ⟨rfl, hnm⟩) f1 (Or.inl rfl) bl13 (t := (.array .byte)) (by decide +kernel) rfl (g := (mkF m 54 #[.val (.ref a), .val (.ref b), .val (.int (Int32.ofNat o)), .val (.int (Int32.ofNat len)), .val .null, .val (.ref s.heap.size)] [.ref s.heap.size, .ref a])) rfl (rest := []) rfl (hb hbytes d54)
  have c16 : Steps p.tables e below (s₁.setTop (entryFrame m #[.ref a, .ref b, .int (Int32.ofNat o), .int (Int32.ofNat len), .null] 6)) (T15.setTop (mkF m 57 #[.val (.ref a), .val (.ref b), .val (.int (Int32.ofNat o)), .val (.int (Int32.ofNat len)), .val .null, .val (.ref s.heap.size)] [])) := c14.trans (st15 _ (Steps.refl _))
  have ap := apart (Or.inr ⟨_, (wk W (.laysFinal "java/lang/String" "java/lang/String" "value" "[B"))⟩) (Or.inr ⟨_, (wk W (.laysFinal "java/lang/String" "java/lang/String" "coder" "B"))⟩) f1 f2 (t₁ := .array .byte) (t₂ := .byte) (by decide +kernel) (by decide +kernel) (by decide)
  have al := X8.warmed.alike.symm.trans X15.warmed.alike
  have n7 : T11.heap[s.heap.size]? = some N := by rw [q11]; exact n1.1
  exact ⟨T15, none, _, _, _, X15, by simp, rfl, by omega, (fun _ => rfl), ⟨rfl, _, N, bl15, ((Same.refl D _).set _ (by simp)).set _ (by simp), sl15, (Cell.slots_setSlot_ne _ ap).trans sl13, n1.keep al (p15.other hne (p13.other hne n7)), n2, by rw [al.findClass]; exact n3, n4, n5, fun y c h1 h2 => p15.other h1 (p13.other h1 (by rw [q11]; exact n6 y c h2)), by rw [p15.2.2, p13.2.2, q11]; exact z8⟩, fun fs hl => c16.trans (X15.returnOut hexec hret (hb hbytes d57) hl)⟩
end New4
namespace New1
def yN : MethodName := ⟨"java/lang/String", "<init>", "([C)V"⟩
abbrev yB : ByteArray := jdk_42_method_3_code
theorem d0 : decode yB 0 = .ok (.aload_n 0, 1) := by decide +kernel
theorem d1 : decode yB 1 = .ok (.aload_n 1, 1) := by decide +kernel
theorem d2 : decode yB 2 = .ok (.iconst 0, 1) := by decide +kernel
theorem d3 : decode yB 3 = .ok (.aload_n 1, 1) := by decide +kernel
theorem d4 : decode yB 4 = .ok (.arraylength, 1) := by decide +kernel
theorem d5 : decode yB 5 = .ok (.aconst_null, 1) := by decide +kernel
theorem d6 : decode yB 6 = .ok (.invokespecial 27, 3) := by decide +kernel
theorem d9 : decode yB 9 = .ok (.return_, 1) := by decide +kernel
def site : List Cond := [New4.tab] ++ initW "java/lang/String" 27 New4.yN
def tab : Cond := tabOf yN yB 2 none site
def P (a : Addr) (D : Cell) (fV fC : Field) (b : Addr) (A : Cell) (z : Int32) (args : Array Value) (s : State) : Prop := args = #[.ref a, .ref b] ∧ Blank "java/lang/String" a D s ∧ Found "java/lang/String" "value" "[B" fV s ∧ Found "java/lang/String" "coder" "B" fC s ∧ Ch b A s ∧ StaticIs s "java/lang/String" "COMPACT_STRINGS" "Z" (.int z) ∧ ¬ z = 0 ∧ 0 < A.slots.size ∧ A.slots.size ≤ 536870912 ∧ ∀ i, i < A.slots.size → ¬ 255 < cv A i
def E (a : Addr) (D : Cell) (fV fC : Field) (A : Cell) (r : Option Value) (s u : State) : Prop := Got a D fV fC A 0 A.slots.size r s u
/-- new String(chars), not empty, no char above 255: a Latin-1 String of their low bytes -/
theorem law (l : Launch) (a : Addr) (D : Cell) (fV fC : Field) (b : Addr) (A : Cell) (z : Int32) : Law l yN 2 1 3 52 yB 2 none site (P a D fV fC b A z) (E a D fV fC A) [⟨a, fC.slot⟩, ⟨a, fV.slot⟩] 1 A.slots.size := by
  refine Law.of_walk (plainFor_of_name (by decide +kernel)) (by decide +kernel) (by decide +kernel) (by decide) (fun _ _ h => by rw [h.1]; rfl) (fun _ U U' hal hh h => ⟨h.1, h.2.1.mv hal hh, h.2.2.1.al hal, h.2.2.2.1.al hal, h.2.2.2.2.1.mv hal hh, h.2.2.2.2.2.1.there hal hh, h.2.2.2.2.2.2⟩) (fun r U U' V V' h1 hal h2 h => Got.mv r U U' V V' h1 hal h2 h) ?_
  intro p e s m args below meth c s₁ X0 hexec hbytes hml hret hlk hnm hown hh0 W hP
  obtain ⟨rfl, hB, f1, f2, hA, s1, hz, l0, l2, hp⟩ := hP
  have c1 : Steps p.tables e below (s₁.setTop (entryFrame m #[.ref a, .ref b] 2)) (s₁.setTop (mkF m 0 #[.val (.ref a), .val (.ref b)] [])) := entry rfl
  have c2 : Steps p.tables e below (s₁.setTop (entryFrame m #[.ref a, .ref b] 2)) (s₁.setTop (mkF m 6 #[.val (.ref a), .val (.ref b)] [.null, .int (Int32.ofNat A.slots.size), .int 0, .ref b, .ref a])) := c1.trans (by
    refine XS.aloadN X0.here hexec rfl (hb hbytes d0) rfl rfl ?_
    refine XS.aloadN X0.here hexec rfl (hb hbytes d1) rfl rfl ?_
    refine iconstV X0.here hexec rfl 0 (hb hbytes d2) (by decide) ?_
    refine XS.aloadN X0.here hexec rfl (hb hbytes d3) rfl rfl ?_
    refine X0.alen hexec (hA.1.mv X0.warmed.alike hh0) rfl rfl (hb hbytes d4) ?_
    refine XS.aconstNull X0.here hexec rfl (hb hbytes d5) ?_
    exact Steps.refl _)
  obtain ⟨v3, T3, X3, E3, g3⟩ := X0.callN hexec (New4.law l a D fV fC b A z 0 A.slots.size) rfl hown (wks W (initW "java/lang/String" 27 New4.yN)) (W New4.tab (by simp only [site, List.mem_cons, List.mem_append, true_or, or_true])) (W := 0) (Nat.le_of_ble_eq_true rfl) (Nat.le_of_ble_eq_true rfl) (Nat.le_refl _) (by show 0 + A.slots.size ≤ A.slots.size; omega) (g := (mkF m 6 #[.val (.ref a), .val (.ref b)] [.null, .int (Int32.ofNat A.slots.size), .int (Int32.ofNat 0), .ref b, .ref a])) rfl (by rw [hml]; rfl) c2 (argsL := [.ref b, .int (Int32.ofNat 0), .int (Int32.ofNat A.slots.size), .null]) (rest := []) rfl rfl (by show 2 * 0 + 0 ≤ _; decide) (hb hbytes d6) (⟨rfl, hB.mv X0.warmed.alike hh0, f1.al X0.warmed.alike, f2.al X0.warmed.alike, hA.mv X0.warmed.alike hh0, s1.there X0.warmed.alike hh0, hz, l0, by omega, l2, fun i hi => by rw [Nat.zero_add]; exact hp i hi⟩)
  have e0 := Got.mv _ s₁ s _ _ hh0.symm (Vm.Alike.refl _) rfl E3
  obtain rfl := e0.1
  have c4 : Steps p.tables e below (s₁.setTop (entryFrame m #[.ref a, .ref b] 2)) (T3.setTop (mkF m 9 #[.val (.ref a), .val (.ref b)] [])) := g3
  exact ⟨T3, none, _, _, _, X3, by simp, rfl, by omega, (fun _ => rfl), e0, fun fs hl => c4.trans (X3.returnOut hexec hret (hb hbytes d9) hl)⟩
theorem pays {l : Launch} {R : Room} {p : Program} {e : Env} {below : List Frame} {s : State} {sargs : Array Value} {len W : Nat} (a : Addr) (D : Cell) (fV fC : Field) (b : Addr) (A : Cell) (z : Int32) (htab : tab.before sargs s = true) (hfr : 4 ≤ R.frames) (hlo : W + 65 ≤ R.locals) :
    Back l R p e below s sargs yN len W (fun A₁ a₁ => A₁.cells + 1 ≤ R.cells ∧ A₁.slots + A.slots.size ≤ R.slots ∧ P a D fV fC b A z a₁ A₁.U) (fun A₁ _ v₁ B₁ => E a D fV fC A v₁ A₁.U B₁.U ∧ B₁.locs = A₁.locs ++ [⟨a, fC.slot⟩, ⟨a, fV.slot⟩] ∧ B₁.cells = A₁.cells + 1 ∧ B₁.slots = A₁.slots + A.slots.size) :=
  (law l a D fV fC b A z).pays htab hfr (by omega)
end New1
/-- the byte, read back as charAt reads it, is the char -/
theorem lo8_mask {x : Int32} (h0 : ¬ x < 0) (h1 : ¬ 255 < x) : lo8 x &&& 255 = x := by
  have t : ∀ k : Fin 256, lo8 (Int32.ofNat k.val) &&& 255 = Int32.ofNat k.val := by decide +kernel
  rw [Int32.lt_iff_toInt_lt] at h0 h1
  have e0 : (0 : Int32).toInt = 0 := rfl
  have e1 : (255 : Int32).toInt = 255 := rfl
  obtain ⟨k, hk⟩ : ∃ k : Nat, x.toInt = k := ⟨x.toInt.toNat, by omega⟩
  have hx : x = Int32.ofNat k := Int32.toInt_inj.mp (by rw [hk, Int32.toInt_ofNat_small (by omega)])
  rw [hx]
  exact t ⟨k, by omega⟩
end StrChars
namespace StrChars.Road
open Jvm Sem ClassFile Op Lib Jvm.Stand Jvm.Free Jvm.Free.XT
open Jvm.Lib.Cold (StaticIs)
abbrev ST : String := "java/lang/String"
/-- every table word that New1's law asks, flat -/
abbrev words : List Jvm.Cond := [.code New1.yN New1.yB 2 none, .initialized ST, .methodLink ST 27 New4.yN, .instanceMethod New4.yN,
  .code New4.yN New4.yB 6 none, .fieldLink ST 38 ST "COMPACT_STRINGS" "Z", .laysFinal ST ST "value" "[B", .fieldLink ST 9 ST "value" "[B", .laysFinal ST ST "coder" "B", .fieldLink ST 15 ST "coder" "B",
  .methodLink ST 1 Lib.objectInit, .instanceMethod Lib.objectInit, .code Lib.objectInit ⟨#[0xb1]⟩ 1 none, .methodLink ST 177 Cmp3.yN, .static Cmp3.yN, .methodLink ST 47 CodL.yN, .static CodL.yN,
  .code Cmp3.yN Cmp3.yB 6 (some (.array .byte)), .initialized U16, .arrayClass .byte, .methodLink U16 115 Cmp5.yN, .static Cmp5.yN, .code Cmp5.yN Cmp5.yB 7 (some .int), .code CodL.yN CodL.yB 2 (some .byte)]
theorem tab_of {a : Array Value} {s : State} (h : ∀ w ∈ words, w.before a s = true) : New1.tab.before a s = true := by
  have h5 : Cmp5.tab.before a s = true := unparts (wk h (.code Cmp5.yN Cmp5.yB 7 (some .int))) (wks h (.initialized Cmp5.yN.cls :: Cmp5.site))
  have hc : CodL.tab.before a s = true := unparts (wk h (.code CodL.yN CodL.yB 2 (some .byte))) (wks h (.initialized CodL.yN.cls :: CodL.site))
  have q5 : ∀ w ∈ Cmp5.tab :: words, w.before a s = true := fun w hw => (List.mem_cons.mp hw).elim (fun e => e ▸ h5) (h w)
  have h3 : Cmp3.tab.before a s = true := unparts (wk q5 (.code Cmp3.yN Cmp3.yB 6 (some (.array .byte)))) (wks q5 (.initialized Cmp3.yN.cls :: Cmp3.site))
  have q3 : ∀ w ∈ Cmp3.tab :: CodL.tab :: words, w.before a s = true := fun w hw => (List.mem_cons.mp hw).elim (fun e => e ▸ h3) fun hw => (List.mem_cons.mp hw).elim (fun e => e ▸ hc) (h w)
  have h4 : New4.tab.before a s = true := unparts (wk q3 (.code New4.yN New4.yB 6 none)) (wks q3 (.initialized New4.yN.cls :: New4.site))
  have q4 : ∀ w ∈ New4.tab :: words, w.before a s = true := fun w hw => (List.mem_cons.mp hw).elim (fun e => e ▸ h4) (h w)
  exact unparts (wk q4 (.code New1.yN New1.yB 2 none)) (wks q4 (.initialized New1.yN.cls :: New1.site))
/-- the words ride from the start Z to the walk's own state -/
theorem moved {Z s : State} {a0 args : Array Value} (hZ : Z.Warmed39 s.vm) (hw : ∀ d ∈ words, d.before a0 Z = true) : ∀ d ∈ words, d.before args s = true := fun d hd => by
  have q := hw d hd
  have t : ∀ d ∈ words, d = .arrayClass .byte ∨ (d.onTables && d.keepsFace) = true := by decide +kernel
  rcases t d hd with rfl | t
  · exact RoadKit.mvA hZ q
  · exact RoadKit.mv hZ q t
/-- WHAT COMES BACK, over the tables of the start Z: h the heap at the call, h' behind it -/
def Q (Z : State) (x : Addr) (A : Cell) (h : Heap) (v : Option Value) (h' : Heap) (L : List Loc) : Prop := v = none ∧ (∀ y ∈ L, y.base = x) ∧ RoadKit.Keep h h' [x] ∧ h'.size = h.size + 1 ∧ RoadKit.Exa Z h' x ST ∧ RoadKit.Fld Z h' x ST "value" "[B" (.ref h.size) ∧ RoadKit.Fld Z h' x ST "coder" "B" (.int 0) ∧
  (∃ V : Cell, RoadKit.Arr Z h' h.size V .byte ∧ V.vm = .none ∧ Z.vm.findClass "[B" = some V.cls ∧ V.slots.size = A.slots.size ∧ ∀ j, j < A.slots.size → V.slots[j]? = some (.int (lo8 (cv A j)))) ∧
  ∀ (O n d : String) (w : Value), RoadKit.Fld Z h x O n d w → RoadKit.slotOf Z O n d ≠ RoadKit.slotOf Z ST "value" "[B" → RoadKit.slotOf Z O n d ≠ RoadKit.slotOf Z ST "coder" "B" → RoadKit.Fld Z h' x O n d w
/-- **new String(chars) AT A CALL, IN THE ROAD'S FORM**: for specialBack behind newO: x the fresh String, b the char[] with the cell A -/
theorem back {p : Program} {l : Launch} {e : Env} {R : Room} {s : State} {args : Array Value} {below : List Frame} {len W : Nat} {Z : State} {a0 : Array Value} {h : Heap} (hZ : Z.Warmed39 s.vm) (hw : ∀ d ∈ words, d.before a0 Z = true) {kI : Nat} (wi : (Jvm.Cond.instantiable ST kI).before a0 Z = true)
    {x b : Addr} {A : Cell} {z : Int32} {v0 c0 : Value} (E : RoadKit.Exa Z h x ST) (V : RoadKit.Fld Z h x ST "value" "[B" v0) (C : RoadKit.Fld Z h x ST "coder" "B" c0) (K : RoadKit.Arr Z h b A .char) (hty : Typed .char A) (S : RoadKit.Sta Z h ST "COMPACT_STRINGS" "Z" (.int z)) (hz : ¬ z = 0)
    (l0 : 0 < A.slots.size) (l2 : A.slots.size ≤ 536870912) (hp : ∀ i, i < A.slots.size → ¬ 255 < cv A i) (hfr : 4 ≤ R.frames) (hlo : W + 65 ≤ R.locals) :
    Back l R p e below s args New1.yN len W (fun P a => a = #[.ref x, .ref b] ∧ P.U.heap = h ∧ P.cells + 1 ≤ R.cells ∧ P.slots + A.slots.size ≤ R.slots)
      (fun P _ v B => ∃ L, Q Z x A h v B.U.heap L ∧ B.locs = P.locs ++ L ∧ B.cells = P.cells + 1 ∧ B.slots = P.slots + A.slots.size) := by
  intro m meth c P g ig mk a X hg hsize hdg hW hn hp'
  obtain ⟨rfl, rfl, r1, r2⟩ := hp'
  have al : Z.vm.Alike P.U.vm := hZ.alike.trans X.warmed.alike
  obtain ⟨D, cfV, kV, iV, fV, hD, gV, stV, knV, obV, asV, slV⟩ := id V
  obtain ⟨D', cfC, kC, iC, fC, hD', gC, stC, -, -, asC, slC⟩ := id C
  cases hD.symm.trans hD'
  obtain ⟨D2, kD, e1, e2, e3, e4, e5⟩ := id E
  cases hD.symm.trans e1
  obtain ⟨c2, k2, i1, i2, i3, -⟩ := Cond.instantiable_spec wi
  cases e2.symm.trans i1
  cases e3.symm.trans i2
  obtain ⟨kU, u1, u2⟩ := al.2.2 _ _ e3
  have hB : Blank ST x D P.U := ⟨hD, ⟨knV, fun q hq => by rw [hq] at obV; cases obV⟩, by rw [al.findClass]; exact e2, kU, u1, by rw [u2]; exact i3, by rw [u2]; exact e5 i3⟩
  have F1 : Found ST "value" "[B" fV P.U := ⟨SBG.found_only al ⟨cfV, kV, iV, gV⟩, stV⟩
  have F2 : Found ST "coder" "B" fC P.U := ⟨SBG.found_only al ⟨cfC, kC, iC, gC⟩, stC⟩
  have hA : Ch b A P.U := ⟨⟨K.1, State.isArrayOf_alike al K.2.1, K.2.2, by omega⟩, hty⟩
  have hS : StaticIs P.U ST "COMPACT_STRINGS" "Z" (.int z) := by
    obtain ⟨cfS, iS, kS, fS, st, cS, t1, t2, t3, t4, t5, t6, t7⟩ := S
    exact StaticIs.there (s := { Z with heap := P.U.heap }) ⟨cfS, iS, kS, fS, st, cS, t1, t2, t3, t4, t5, (fun q => by rw [q] at t6; cases t6), t7⟩ al rfl
  obtain ⟨v, B, X', ⟨⟨hv, E', V', q1, q2, q3, q4, q5, q6, q7, q8, q9, q10, q11⟩, hl, hc, hs⟩, st⟩ := New1.pays x D fV fC b A z (tab_of (moved hZ hw)) hfr hlo m meth c P g ig mk _ X hg hsize hdg hW hn ⟨r1, r2, rfl, hB, F1, F2, hA, hS, hz, l0, l2, hp⟩
  have al' : Z.vm.Alike B.U.vm := hZ.alike.trans X'.warmed.alike
  have hsz : E'.slots.size = D.slots.size := by
    obtain ⟨-, -, -, kB, w1, w2, w3⟩ := q1
    obtain ⟨kB', y1, y2⟩ := al'.2.2 _ _ e3
    rw [q2.2.1] at w1
    cases w1.symm.trans y1
    rw [w3, e5 i3, y2]
  refine ⟨v, B, X', ⟨_, ⟨hv, ?_, ⟨by omega, fun y cy hy hn' => q10 y cy (by simpa using hn') hy, fun y cy hy => ?_⟩, q11, ⟨E', _, q1.1, by rw [q2.2.1]; exact e2, by rw [q2.2.1]; exact e3, by rw [q2.1]; exact obV, fun _ => by rw [hsz]; exact e5 i3⟩,
    ⟨E', cfV, kV, iV, fV, q1.1, gV, stV, by rw [q2.1]; exact knV, by rw [q2.1]; exact obV, by rw [q2.2.1]; exact asV, q3⟩, ⟨E', cfC, kC, iC, fC, q1.1, gC, stC, by rw [q2.1]; exact knV, by rw [q2.1]; exact obV, by rw [q2.2.1]; exact asC, q4⟩,
    ⟨V', ⟨q5.1, State.isArrayOf_alike al'.symm q5.2.1, q5.2.2.1⟩, q6, by rw [← al'.findClass]; exact q7, q8, fun j hj => by have := q9 j hj; rwa [Nat.zero_add] at this⟩, fun O n d w F n1 n2 => ?_⟩, hl, hc, hs⟩, st⟩
  · intro y hy
    simp only [List.mem_cons, List.not_mem_nil, or_false] at hy
    rcases hy with rfl | rfl <;> rfl
  · by_cases q : y = x
    · subst q
      cases hD.symm.trans hy
      exact ⟨E', q1.1, q2.2.1, q2.1, hsz⟩
    · exact ⟨cy, q10 y cy q hy, rfl, rfl, rfl⟩
  · obtain ⟨D3, cf, k, i, f, g1, g2, g3, g4, g5, g6, g7⟩ := F
    cases hD.symm.trans g1
    simp only [RoadKit.slotOf, g2, gV, gC, Option.map_some, Option.getD_some] at n1 n2
    exact ⟨E', cf, k, i, f, q1.1, g2, g3, by rw [q2.1]; exact g4, by rw [q2.1]; exact g5, by rw [q2.2.1]; exact g6, by rw [q2.2.2 f.slot (by simp [n1, n2])]; exact g7⟩
end StrChars.Road
namespace StrChars.Road
open Jvm Sem ClassFile Op Lib Jvm.Stand Jvm.Free Jvm.Free.XT
/-- WHAT COMES BACK, the byte[] as a list of values -/
def QA (Z : State) (x : Addr) (zn : Int32) (cs : List Int32) (h : Heap) (v : Option Value) (h' : Heap) (L : List Loc) : Prop := v = none ∧ (∀ y ∈ L, y.base = x) ∧ RoadKit.Keep h h' [x] ∧ h'.size = h.size + 1 ∧ RoadKit.Exa Z h' x ST ∧ RoadKit.Fld Z h' x ST "value" "[B" (.ref h.size) ∧ RoadKit.Fld Z h' x ST "coder" "B" (.int 0) ∧
  (∃ kb, Z.vm.findClass "[B" = some kb ∧ RoadKit.Arv Z h' h.size kb .byte zn (cs.map fun c => .int (lo8 c)) (.int 0)) ∧
  ∀ (O n d : String) (w : Value), RoadKit.Fld Z h x O n d w → RoadKit.slotOf Z O n d ≠ RoadKit.slotOf Z ST "value" "[B" → RoadKit.slotOf Z O n d ≠ RoadKit.slotOf Z ST "coder" "B" → RoadKit.Fld Z h' x O n d w
/-- **new String(chars) AT A CALL, THE ARRAYS AS LISTS**: the char[] at b holds cs, not empty, no char above 255 -/
theorem backArv {p : Program} {l : Launch} {e : Env} {R : Room} {s : State} {args : Array Value} {below : List Frame} {len W : Nat} {Z : State} {a0 : Array Value} {h : Heap} (hZ : Z.Warmed39 s.vm) (hw : ∀ d ∈ words, d.before a0 Z = true) {kI : Nat} (wi : (Jvm.Cond.instantiable ST kI).before a0 Z = true)
    {x b : Addr} {k : ClassId} {zn z : Int32} {cs : List Int32} {dv v0 c0 : Value} (E : RoadKit.Exa Z h x ST) (V : RoadKit.Fld Z h x ST "value" "[B" v0) (C : RoadKit.Fld Z h x ST "coder" "B" c0) (K : RoadKit.Arv Z h b k .char zn (cs.map Value.int) dv) (S : RoadKit.Sta Z h ST "COMPACT_STRINGS" "Z" (.int z)) (hz : ¬ z = 0)
    (hlen : zn.toNatClampNeg = cs.length) (h0 : 0 < cs.length) (hbig : cs.length ≤ 536870912) (hall : ∀ c ∈ cs, ¬ 255 < c) (hfr : 4 ≤ R.frames) (hlo : W + 65 ≤ R.locals) :
    Back l R p e below s args New1.yN len W (fun P a => a = #[.ref x, .ref b] ∧ P.U.heap = h ∧ P.cells + 1 ≤ R.cells ∧ P.slots + cs.length ≤ R.slots)
      (fun P _ v B => ∃ L, QA Z x zn cs h v B.U.heap L ∧ B.locs = P.locs ++ L ∧ B.cells = P.cells + 1 ∧ B.slots = P.slots + cs.length) := by
  obtain ⟨A, K1, K2, K3, K4, K5, K6⟩ := K
  have e : A.slots.size = cs.length := K3.trans hlen
  have hat : ∀ (i : Nat) (hi : i < cs.length), A.slots[i]? = some (.int cs[i]) := fun i hi => by rw [K5 i (by omega)]; simp [List.getD_eq_getElem?_getD, hi]
  have hcv : ∀ (i : Nat) (hi : i < cs.length), cv A i = cs[i] := fun i hi => by unfold cv; rw [hat i hi]
  have hty : Typed .char A := fun i v hv => by
    have hi : i < A.slots.size := (Array.getElem?_eq_some_iff.mp hv).1
    have q := K5 i hi
    rw [hv] at q
    rw [Option.some.inj q]
    exact K6 i hi
  refine Back.mono (back hZ hw wi E V C K1 hty S hz (by omega) (by omega) (fun i hi => by rw [hcv i (by omega)]; exact hall _ (List.getElem_mem _)) hfr hlo) (fun P a hp => ⟨hp.1, hp.2.1, hp.2.2.1, by rw [e]; exact hp.2.2.2⟩) (fun P a v B hp hq => ?_)
  obtain ⟨L, ⟨q1, q2, q3, q4, q5, q6, q7, ⟨V', v1, v2, v3, v4, v5⟩, q9⟩, hl, hc, hs⟩ := hq
  refine ⟨L, ⟨q1, q2, q3, q4, q5, q6, q7, ⟨V'.cls, v3, V', v1, rfl, by rw [v4, e, hlen], K4, fun i hi => ?_, fun i hi => ?_⟩, q9⟩, hl, hc, by rw [hs, e]⟩
  · have hi' : i < cs.length := by omega
    rw [v5 i (by omega), hcv i hi']; simp [List.getD_eq_getElem?_getD, hi']
  · have hi' : i < cs.length := by omega
    simp only [List.getD_eq_getElem?_getD, List.getElem?_map, List.getElem?_eq_getElem hi', Option.map_some, Option.getD_some]
    exact fits_lo8 _
end StrChars.Road
namespace StrChars.Road
open Jvm Sem ClassFile Op Lib Jvm.Stand Jvm.Free Jvm.Free.XT
/-- WHAT COMES BACK, in the writer's own shape -/
def QV (Z : State) (x : Addr) (N : Int32) (bs : List Int32) (h : Heap) (n0 : Nat) (v : Option Value) (h' : Heap) (L : List Loc) : Prop := v = none ∧ RoadKit.Fr n0 L ∧ RoadKit.Keep h h' [x] ∧ RoadKit.Exa Z h' x ST ∧ RoadKit.Fld Z h' x ST "coder" "B" (.int 0) ∧
  ∃ (t : Addr) (kb : ClassId), n0 ≤ t ∧ h.size ≤ t ∧ ¬ t = x ∧ RoadKit.Fld Z h' x ST "value" "[B" (.ref t) ∧ RoadKit.Arv Z h' t kb .byte N (bs.map Value.int) (.int 0)
/-- **new String(chars) AT A CALL, FOR THE WRITER**: a char[] of n known ints, each 0 to 255 -/
theorem backV {p : Program} {l : Launch} {e : Env} {R : Room} {s : State} {args : Array Value} {below : List Frame} {len W : Nat} {Z : State} {a0 : Array Value} {h : Heap} (hZ : Z.Warmed39 s.vm) (hw : ∀ d ∈ words, d.before a0 Z = true) {kI : Nat} (wi : (Jvm.Cond.instantiable ST kI).before a0 Z = true)
    {x b : Addr} {kC : ClassId} {cs bs : List Int32} {d v0 c0 : Value} {z N : Int32} {n n0 : Nat} (hx0 : n0 ≤ x) (hh0 : n0 ≤ h.size) (E : RoadKit.Exa Z h x ST) (V : RoadKit.Fld Z h x ST "value" "[B" v0) (C : RoadKit.Fld Z h x ST "coder" "B" c0) (K : RoadKit.Arv Z h b kC .char N (cs.map Value.int) d) (S : RoadKit.Sta Z h ST "COMPACT_STRINGS" "Z" (.int z)) (hz : ¬ z = 0)
    (hn : cs.length = n) (hN : N = Int32.ofNat n) (l0 : 0 < n) (l2 : n ≤ 4000) (hp : ∀ c ∈ cs, ¬ c < 0 ∧ ¬ (255 : Int32) < c) (hb : bs = cs.map (fun c => c.toInt8.toInt32)) (hfr : 4 ≤ R.frames) (hlo : W + 65 ≤ R.locals) :
    Back l R p e below s args (⟨"java/lang/String", "<init>", "([C)V"⟩ : MethodName) len W (fun P a => a = #[.ref x, .ref b] ∧ P.U.heap = h ∧ P.cells + 1 ≤ R.cells ∧ P.slots + n ≤ R.slots)
      (fun P _ v B => ∃ L, QV Z x N bs h n0 v B.U.heap L ∧ B.locs = P.locs ++ L ∧ B.cells = P.cells + 1 ∧ B.slots = P.slots + n) := by
  subst hn hN hb
  refine Back.mono (backArv hZ hw wi E V C K S hz (n32 (by omega)) l0 (by omega) (fun c hc => (hp c hc).2) hfr hlo) (fun P a hp => hp) (fun P a v B hp hq => ?_)
  obtain ⟨L, ⟨q1, q2, q3, q4, q5, q6, q7, ⟨kb, v1, v2⟩, q9⟩, hl, hc, hs⟩ := hq
  exact ⟨L, ⟨q1, fun y hy => by rw [q2 y hy]; exact hx0, q3, q5, q7, h.size, kb, hh0, Nat.le_refl _, Nat.ne_of_gt E.lt, q6, by rw [List.map_map]; exact v2⟩, hl, hc, hs⟩
end StrChars.Road
namespace StrChars
open Jvm Sem ClassFile Op Lib Jvm.Stand Jvm.Free.XT Jvm.Free.ALB Jvm.Free.JM Jvm.Free
open Jvm.Lib.Cold (StaticIs)
def hi8 (x : Int32) : Int32 := lo8 (x >>> ((8 : Int32) &&& 31))
/-- what StringUTF16.getChar makes of two bytes -/
def pairCh (u v : Int32) : Int32 := (((u &&& 255) <<< ((0 : Int32) &&& 31)) ||| ((v &&& 255) <<< ((8 : Int32) &&& 31))).toUInt32.toUInt16.toUInt32.toInt32
theorem shr0 (c : Int32) : c >>> ((0 : Int32) &&& 31) = c := by
  have e : ((0 : Int32) &&& 31) = 0 := by decide
  rw [e]
  apply Int32.toBitVec_inj.mp
  rw [Int32.toBitVec_shiftRight]
  have e1 : ((0 : Int32).toBitVec.smod 32) = 0#32 := by decide
  rw [e1, BitVec.sshiftRight_eq']
  exact BitVec.sshiftRight_zero
theorem lo8_and (x : Int32) : (lo8 x &&& 255).toBitVec.toNat = x.toBitVec.toNat % 256 := by
  have h : (lo8 x).toBitVec = (x.toBitVec.signExtend 8).signExtend 32 := by rw [lo8, Int8.toBitVec_toInt32, Int32.toBitVec_toInt8]
  rw [Int32.toBitVec_and, BitVec.toNat_and, h]
  have e : ((x.toBitVec.signExtend 8).signExtend 32).toNat % 256 = x.toBitVec.toNat % 256 := by
    rw [BitVec.toNat_signExtend]
    have hlt := x.toBitVec.isLt
    simp only [BitVec.toNat_setWidth, BitVec.toNat_signExtend]
    split <;> split <;> omega
  rw [← e]
  exact Nat.and_two_pow_sub_one_eq_mod _ 8
theorem pair_says {c : Int32} (h0 : ¬ c < 0) (h1 : ¬ 65535 < c) : pairCh (lo8 c) (hi8 c) = c := by
  rw [Int32.lt_iff_toInt_lt] at h0 h1
  have e0 : (0 : Int32).toInt = 0 := rfl
  have e1 : (65535 : Int32).toInt = 65535 := rfl
  have hc : c.toInt = c.toBitVec.toNat := by
    have := c.toBitVec.isLt
    have e : c.toInt = c.toBitVec.toInt := rfl
    rw [e] at h0 h1
    rw [e]
    rw [BitVec.toInt_eq_toNat_cond] at h0 h1 ⊢
    split at h0 <;> split <;> omega
  have hn : c.toBitVec.toNat < 65536 := by omega
  have a1 := lo8_and c
  have a2 : (hi8 c &&& 255).toBitVec.toNat = c.toBitVec.toNat / 256 := by
    rw [hi8, lo8_and]
    have e : ((8 : Int32) &&& 31) = 8 := by decide
    rw [e, Int32.toBitVec_shiftRight]
    have e2 : ((8 : Int32).toBitVec.smod 32) = 8#32 := by decide
    rw [e2, BitVec.sshiftRight_eq', BitVec.toNat_sshiftRight_of_msb_false (by rw [BitVec.msb_eq_false_iff_two_mul_lt]; omega)]
    show c.toBitVec.toNat >>> 8 % 256 = _
    rw [Nat.shiftRight_eq_div_pow]
    omega
  unfold pairCh
  apply Int32.toBitVec_inj.mp
  apply BitVec.eq_of_toNat_eq
  have f0 : ((0 : Int32) &&& 31) = 0 := by decide
  have f8 : ((8 : Int32) &&& 31) = 8 := by decide
  rw [f0, f8]
  have g : (((lo8 c &&& 255) <<< (0 : Int32)) ||| ((hi8 c &&& 255) <<< (8 : Int32))).toBitVec.toNat = c.toBitVec.toNat := by
    rw [Int32.toBitVec_or, Int32.toBitVec_shiftLeft, Int32.toBitVec_shiftLeft]
    have s0 : ((0 : Int32).toBitVec.smod 32) = 0#32 := by decide
    have s8 : ((8 : Int32).toBitVec.smod 32) = 8#32 := by decide
    rw [s0, s8, BitVec.toNat_or]
    simp only [BitVec.shiftLeft_eq', BitVec.toNat_shiftLeft, a1, a2]
    show (c.toBitVec.toNat % 256) <<< 0 % 2 ^ 32 ||| (c.toBitVec.toNat / 256) <<< 8 % 2 ^ 32 = _
    rw [Nat.shiftLeft_zero, Nat.mod_eq_of_lt (show c.toBitVec.toNat % 256 < 2 ^ 32 by omega), Nat.mod_eq_of_lt (show (c.toBitVec.toNat / 256) <<< 8 < 2 ^ 32 by rw [Nat.shiftLeft_eq]; omega), Nat.or_comm, ← Nat.shiftLeft_add_eq_or_of_lt (by omega), Nat.shiftLeft_eq]
    omega
  show BitVec.toNat (((((lo8 c &&& 255) <<< (0 : Int32)) ||| ((hi8 c &&& 255) <<< (8 : Int32))).toBitVec.setWidth 16).setWidth 32) = _
  rw [BitVec.toNat_setWidth, BitVec.toNat_setWidth, g]
  omega
end StrChars
namespace StrChars
open Jvm Sem ClassFile Op Lib Jvm.Stand Jvm.Free.XT Jvm.Free.ALB Jvm.Free.JM Jvm.Free
open Jvm.Lib.Cold (StaticIs)
theorem shr1 {n : Nat} (h : 2 * n < 2 ^ 31) : Int32.ofNat (2 * n) >>> ((1 : Int32) &&& 31) = Int32.ofNat n := by
  have e : ((1 : Int32) &&& 31) = 1 := by decide
  rw [e]
  apply Int32.toBitVec_inj.mp
  rw [Int32.toBitVec_shiftRight]
  have e1 : ((1 : Int32).toBitVec.smod 32) = 1#32 := by decide
  have hm : (BitVec.ofNat 32 (2 * n)).toNat = 2 * n := by rw [BitVec.toNat_ofNat, Nat.mod_eq_of_lt (by omega)]
  rw [e1, BitVec.sshiftRight_eq']
  apply BitVec.eq_of_toNat_eq
  show ((BitVec.ofNat 32 (2 * n)).sshiftRight 1).toNat = (BitVec.ofNat 32 n).toNat
  rw [BitVec.toNat_sshiftRight_of_msb_false (by rw [BitVec.msb_eq_false_iff_two_mul_lt, hm]; omega), hm, BitVec.toNat_ofNat, Nat.shiftRight_eq_div_pow]
  omega
/-- charAt's cast of a byte read back -/
def chr8 (u : Int32) : Int32 := (u &&& 255).toUInt32.toUInt16.toUInt32.toInt32
theorem chr8_lo8 {c : Int32} (h0 : ¬ c < 0) (h1 : ¬ 255 < c) : chr8 (lo8 c) = c := by
  have t : ∀ k : Fin 256, (Int32.ofNat k.val).toUInt32.toUInt16.toUInt32.toInt32 = Int32.ofNat k.val := by decide +kernel
  unfold chr8
  rw [lo8_mask h0 h1]
  rw [Int32.lt_iff_toInt_lt] at h0 h1
  have e0 : (0 : Int32).toInt = 0 := rfl
  have e1 : (255 : Int32).toInt = 255 := rfl
  obtain ⟨k, hk⟩ : ∃ k : Nat, c.toInt = k := ⟨c.toInt.toNat, by omega⟩
  have hx : c = Int32.ofNat k := Int32.toInt_inj.mp (by rw [hk, Int32.toInt_ofNat_small (by omega)])
  rw [hx]
  exact t ⟨k, by omega⟩
theorem narrow_ch {c : Int32} (h0 : ¬ c < 0) (h1 : ¬ 65535 < c) : narrow .char (.int c) = .int c := by
  have q : narrow .char (.int (pairCh (lo8 c) (hi8 c))) = .int (pairCh (lo8 c) (hi8 c)) := narrow_c _
  rwa [pair_says h0 h1] at q
/-- the array's cell V codes the n chars f 0 .. f (n - 1) by the coder cd, as the JDK does: coder 1 just where some char is above 255 -/
def Cod (cd : Int32) (n : Nat) (f : Nat → Int32) (V : Cell) : Prop := (cd = 0 ∧ V.slots.size = n ∧ ∀ j, j < n → V.slots[j]? = some (.int (lo8 (f j))) ∧ ¬ 255 < f j) ∨ (cd = 1 ∧ V.slots.size = 2 * n ∧ (∀ j, j < n → V.slots[2 * j]? = some (.int (lo8 (f j))) ∧ V.slots[2 * j + 1]? = some (.int (hi8 (f j)))) ∧ ∃ j, j < n ∧ 255 < f j)
theorem Cod.cd {cd : Int32} {n : Nat} {f : Nat → Int32} {V : Cell} (h : Cod cd n f V) : cd = 0 ∨ cd = 1 := h.imp (fun q => q.1) fun q => q.1
theorem Cod.len {cd : Int32} {n : Nat} {f : Nat → Int32} {V : Cell} (h : Cod cd n f V) (hs : V.slots.size < 2 ^ 31) : Int32.ofNat V.slots.size >>> (cd &&& 31) = Int32.ofNat n := by
  rcases h with ⟨rfl, h, -⟩ | ⟨rfl, h, -⟩
  · rw [shr0, h]
  · rw [h, shr1 (by omega)]
/-- **x is a String of the n chars f 0 .. f (n - 1)**, Latin-1 or UTF-16; its array at t has the cell V -/
def Txt (x t : Addr) (V : Cell) (cd : Int32) (n : Nat) (f : Nat → Int32) (U : State) : Prop := Exact "java/lang/String" x U ∧ Has x "java/lang/String" "value" "[B" (.ref t) U ∧ Has x "java/lang/String" "coder" "B" (.int cd) U ∧ XT.Arr .byte t V U ∧ Cod cd n f V ∧ ∀ j, j < n → ¬ f j < 0 ∧ ¬ 65535 < f j
theorem Txt.mv {x t : Addr} {V : Cell} {cd : Int32} {n : Nat} {f : Nat → Int32} {U U' : State} (h : Txt x t V cd n f U) (hal : U.vm.Alike U'.vm) (hh : U'.heap = U.heap) : Txt x t V cd n f U' := ⟨h.1.mv hal hh, h.2.1.mv hal hh, h.2.2.1.mv hal hh, h.2.2.2.1.mv hal hh, h.2.2.2.2⟩
namespace Cdr
def yN : MethodName := ⟨"java/lang/String", "coder", "()B"⟩
abbrev yB : ByteArray := jdk_42_method_152_code
theorem d0 : decode yB 0 = .ok (.getstatic 38, 3) := by decide +kernel
theorem d3 : decode yB 3 = .ok (.ifCond (.eq) 10, 3) := by decide +kernel
theorem d6 : decode yB 6 = .ok (.aload_n 0, 1) := by decide +kernel
theorem d7 : decode yB 7 = .ok (.getfield 15, 3) := by decide +kernel
theorem d10 : decode yB 10 = .ok (.goto 4, 3) := by decide +kernel
theorem d14 : decode yB 14 = .ok (.ireturn, 1) := by decide +kernel
def site : List Cond := [.fieldLink "java/lang/String" 38 "java/lang/String" "COMPACT_STRINGS" "Z", .fieldLink "java/lang/String" 15 "java/lang/String" "coder" "B"]
def tab : Cond := tabOf yN yB 1 (some .byte) site
def P (x : Addr) (cd z : Int32) (args : Array Value) (s : State) : Prop := args = #[.ref x] ∧ Has x "java/lang/String" "coder" "B" (.int cd) s ∧ (cd = 0 ∨ cd = 1) ∧ StaticIs s "java/lang/String" "COMPACT_STRINGS" "Z" (.int z) ∧ ¬ z = 0
def E (cd : Int32) (r : Option Value) (s u : State) : Prop := XT.PureE (some (.int cd)) r s u
theorem law (l : Launch) (x : Addr) (cd z : Int32) : Law l yN 1 0 0 0 yB 1 (some .byte) site (P x cd z) (E cd) [] 0 0 := by
  refine Law.of_walk (plainFor_of_name (by decide +kernel)) (by decide +kernel) (by decide +kernel) (by decide) (fun _ _ h => by rw [h.1]; rfl) (fun _ U U' hal hh h => ⟨h.1, h.2.1.mv hal hh, h.2.2.1, h.2.2.2.1.there hal hh, h.2.2.2.2⟩) (fun r U U' V V' h1 hal h2 h => XT.PureE.mv r U U' V V' h1 hal h2 h) ?_
  intro p e s m args below meth c s₁ X0 hexec hbytes hml hret hlk hnm hown hh0 W hP
  obtain ⟨rfl, hx, hc, s1, hz⟩ := hP
  have c1 : Steps p.tables e below (s₁.setTop (entryFrame m #[.ref x] 1)) (s₁.setTop (mkF m 0 #[.val (.ref x)] [])) := entry rfl
  obtain ⟨T2, X2, q2, st2⟩ := X0.sget hexec hown (wk W (.fieldLink "java/lang/String" 38 "java/lang/String" "COMPACT_STRINGS" "Z")) s1 (fun _ _ h => by rw [hh0]; exact h) (g := (mkF m 0 #[.val (.ref x)] [])) rfl (hb hbytes d0)
  have hh2 := q2.trans hh0
  have c3 : Steps p.tables e below (s₁.setTop (entryFrame m #[.ref x] 1)) (T2.setTop (mkF m 7 #[.val (.ref x)] [.ref x])) := (c1.trans (st2 _ (Steps.refl _))).trans (by
    refine XS.ifNo X2.here hexec rfl (hb hbytes d3) rfl (i0_eq_f hz) ?_
    refine XS.aloadN X2.here hexec rfl (hb hbytes d6) rfl rfl ?_
    exact Steps.refl _)
  obtain ⟨T4, X4, q4, st4⟩ := X2.hget hexec hown (wk W (.fieldLink "java/lang/String" 15 "java/lang/String" "coder" "B")) (hx.mv X2.warmed.alike hh2) (g := (mkF m 7 #[.val (.ref x)] [.ref x])) rfl (rest := []) rfl (hb hbytes d7)
  have c5 : Steps p.tables e below (s₁.setTop (entryFrame m #[.ref x] 1)) (T4.setTop (mkF m 14 #[.val (.ref x)] [.int cd])) := (c3.trans (st4 _ (Steps.refl _))).trans (by
    refine XS.goto X4.here hexec rfl (pc0 := 10) rfl (hb hbytes d10) (by decide) rfl ?_
    exact Steps.refl _)
  exact ⟨T4, some (.int cd), _, _, _, X4, rfl, rfl, rfl, (fun h => by cases h), ⟨rfl, q4.trans hh2⟩, fun fs hl => c5.trans (X4.ireturnOut hexec hret (by rcases hc with rfl | rfl <;> rfl) (Or.inr (Or.inr (Or.inl rfl))) (hb hbytes d14) hl)⟩
end Cdr
namespace Len
def yN : MethodName := ⟨"java/lang/String", "length", "()I"⟩
abbrev yB : ByteArray := jdk_42_method_54_code
theorem d0 : decode yB 0 = .ok (.aload_n 0, 1) := by decide +kernel
theorem d1 : decode yB 1 = .ok (.getfield 9, 3) := by decide +kernel
theorem d4 : decode yB 4 = .ok (.arraylength, 1) := by decide +kernel
theorem d5 : decode yB 5 = .ok (.aload_n 0, 1) := by decide +kernel
theorem d6 : decode yB 6 = .ok (.invokevirtual 335, 3) := by decide +kernel
theorem d9 : decode yB 9 = .ok (.ishr, 1) := by decide +kernel
theorem d10 : decode yB 10 = .ok (.ireturn, 1) := by decide +kernel
def site : List Cond := [.fieldLink "java/lang/String" 9 "java/lang/String" "value" "[B", Cdr.tab] ++ virtW "java/lang/String" 335 "java/lang/String" Cdr.yN Cdr.yN
def tab : Cond := tabOf yN yB 1 (some .int) site
def P (x t : Addr) (V : Cell) (cd : Int32) (n : Nat) (f : Nat → Int32) (z : Int32) (args : Array Value) (s : State) : Prop := args = #[.ref x] ∧ Txt x t V cd n f s ∧ StaticIs s "java/lang/String" "COMPACT_STRINGS" "Z" (.int z) ∧ ¬ z = 0
def E (n : Nat) (r : Option Value) (s u : State) : Prop := XT.PureE (some (.int (Int32.ofNat n))) r s u
/-- length() of a String of n chars, in either coding -/
theorem law (l : Launch) (x t : Addr) (V : Cell) (cd : Int32) (n : Nat) (f : Nat → Int32) (z : Int32) : Law l yN 1 0 1 13 yB 1 (some .int) site (P x t V cd n f z) (E n) [] 0 0 := by
  refine Law.of_walk (plainFor_of_name (by decide +kernel)) (by decide +kernel) (by decide +kernel) (by decide) (fun _ _ h => by rw [h.1]; rfl) (fun _ U U' hal hh h => ⟨h.1, h.2.1.mv hal hh, h.2.2.1.there hal hh, h.2.2.2⟩) (fun r U U' V V' h1 hal h2 h => XT.PureE.mv r U U' V V' h1 hal h2 h) ?_
  intro p e s m args below meth c s₁ X0 hexec hbytes hml hret hlk hnm hown hh0 W hP
  obtain ⟨rfl, hx, s1, hz⟩ := hP
  have v31 := hx.2.2.2.1.2.2.2
  have c1 : Steps p.tables e below (s₁.setTop (entryFrame m #[.ref x] 1)) (s₁.setTop (mkF m 1 #[.val (.ref x)] [.ref x])) := Steps.trans (entry rfl) (by
    show Steps p.tables e below (s₁.setTop (mkF m 0 #[.val (.ref x)] [])) _
    refine XS.aloadN X0.here hexec rfl (hb hbytes d0) rfl rfl ?_
    exact Steps.refl _)
  obtain ⟨T2, X2, q2, st2⟩ := X0.hget hexec hown (wk W (.fieldLink "java/lang/String" 9 "java/lang/String" "value" "[B")) (hx.mv X0.warmed.alike hh0).2.1 (g := (mkF m 1 #[.val (.ref x)] [.ref x])) rfl (rest := []) rfl (hb hbytes d1)
  have hh2 := q2.trans hh0
  have hx2 := hx.mv X2.warmed.alike hh2
  have c3 : Steps p.tables e below (s₁.setTop (entryFrame m #[.ref x] 1)) (T2.setTop (mkF m 6 #[.val (.ref x)] [.ref x, .int (Int32.ofNat V.slots.size)])) := (c1.trans (st2 _ (Steps.refl _))).trans (by
    refine X2.alen hexec hx2.2.2.2.1 rfl rfl (hb hbytes d4) ?_
    refine XS.aloadN X2.here hexec rfl (hb hbytes d5) rfl rfl ?_
    exact Steps.refl _)
  obtain ⟨v4, T4, X4, E4, g4⟩ := X2.callV hexec (Cdr.law l x cd z) hown (wks W (virtW "java/lang/String" 335 "java/lang/String" Cdr.yN Cdr.yN)) rfl (by decide) (wk W Cdr.tab) (W := 1) (Nat.le_of_ble_eq_true rfl) (Nat.le_of_ble_eq_true rfl) (Nat.le_refl _) (Nat.le_refl _) (hx2.1.fc X2.warmed.alike) hx2.1.is (g := (mkF m 6 #[.val (.ref x)] [.ref x, .int (Int32.ofNat V.slots.size)])) rfl (by rw [hml]; rfl) c3 (argsL := []) (rest := [.int (Int32.ofNat V.slots.size)]) rfl rfl (by show 2 * 0 + (1 + 0) ≤ _; decide) (hb hbytes d6) (⟨rfl, hx2.2.2.1, hx.2.2.2.2.1.cd, s1.there X2.warmed.alike hh2, hz⟩)
  obtain ⟨rfl, q4⟩ := E4
  have c5 : Steps p.tables e below (s₁.setTop (entryFrame m #[.ref x] 1)) (T4.setTop (mkF m 10 #[.val (.ref x)] [.int (Int32.ofNat V.slots.size >>> (cd &&& 31))])) := Steps.trans g4 (by
    refine ishr X4.here hexec rfl (hb hbytes d9) rfl ?_
    exact Steps.refl _)
  rw [hx.2.2.2.2.1.len v31] at c5
  exact ⟨T4, some (.int (Int32.ofNat n)), _, _, _, X4, rfl, rfl, rfl, (fun h => by cases h), ⟨rfl, q4.trans hh2⟩, fun fs hl => c5.trans (X4.ireturnOut hexec hret rfl (Or.inl rfl) (hb hbytes d10) hl)⟩
theorem pays {l : Launch} {R : Room} {p : Program} {e : Env} {below : List Frame} {s : State} {sargs : Array Value} {len W : Nat} (x t : Addr) (V : Cell) (cd : Int32) (n : Nat) (f : Nat → Int32) (z : Int32) (htab : tab.before sargs s = true) (hfr : 2 ≤ R.frames) (hlo : W + 25 ≤ R.locals) :
    Back l R p e below s sargs yN len W (fun A₁ a₁ => A₁.cells + 0 ≤ R.cells ∧ A₁.slots + 0 ≤ R.slots ∧ P x t V cd n f z a₁ A₁.U) (fun A₁ _ v₁ B₁ => E n v₁ A₁.U B₁.U ∧ B₁.locs = A₁.locs ++ [] ∧ B₁.cells = A₁.cells + 0 ∧ B₁.slots = A₁.slots + 0) :=
  (law l x t V cd n f z).pays htab hfr (by omega)
end Len
namespace IsL
def yN : MethodName := ⟨"java/lang/String", "isLatin1", "()Z"⟩
abbrev yB : ByteArray := jdk_42_method_154_code
theorem d0 : decode yB 0 = .ok (.getstatic 38, 3) := by decide +kernel
theorem d3 : decode yB 3 = .ok (.ifCond (.eq) 14, 3) := by decide +kernel
theorem d6 : decode yB 6 = .ok (.aload_n 0, 1) := by decide +kernel
theorem d7 : decode yB 7 = .ok (.getfield 15, 3) := by decide +kernel
theorem d10 : decode yB 10 = .ok (.ifCond (.ne) 7, 3) := by decide +kernel
theorem d13 : decode yB 13 = .ok (.iconst 1, 1) := by decide +kernel
theorem d14 : decode yB 14 = .ok (.goto 4, 3) := by decide +kernel
theorem d17 : decode yB 17 = .ok (.iconst 0, 1) := by decide +kernel
theorem d18 : decode yB 18 = .ok (.ireturn, 1) := by decide +kernel
def site : List Cond := [.fieldLink "java/lang/String" 38 "java/lang/String" "COMPACT_STRINGS" "Z", .fieldLink "java/lang/String" 15 "java/lang/String" "coder" "B"]
def tab : Cond := tabOf yN yB 1 (some .boolean) site
def P (x : Addr) (cd z : Int32) (args : Array Value) (s : State) : Prop := args = #[.ref x] ∧ Has x "java/lang/String" "coder" "B" (.int cd) s ∧ (cd = 0 ∨ cd = 1) ∧ StaticIs s "java/lang/String" "COMPACT_STRINGS" "Z" (.int z) ∧ ¬ z = 0
def E (cd : Int32) (r : Option Value) (s u : State) : Prop := XT.PureE (some (.int (1 - cd))) r s u
theorem law (l : Launch) (x : Addr) (cd z : Int32) : Law l yN 1 0 0 0 yB 1 (some .boolean) site (P x cd z) (E cd) [] 0 0 := by
  refine Law.of_walk (plainFor_of_name (by decide +kernel)) (by decide +kernel) (by decide +kernel) (by decide) (fun _ _ h => by rw [h.1]; rfl) (fun _ U U' hal hh h => ⟨h.1, h.2.1.mv hal hh, h.2.2.1, h.2.2.2.1.there hal hh, h.2.2.2.2⟩) (fun r U U' V V' h1 hal h2 h => XT.PureE.mv r U U' V V' h1 hal h2 h) ?_
  intro p e s m args below meth c s₁ X0 hexec hbytes hml hret hlk hnm hown hh0 W hP
  obtain ⟨rfl, hx, hc, s1, hz⟩ := hP
  have c1 : Steps p.tables e below (s₁.setTop (entryFrame m #[.ref x] 1)) (s₁.setTop (mkF m 0 #[.val (.ref x)] [])) := entry rfl
  obtain ⟨T2, X2, q2, st2⟩ := X0.sget hexec hown (wk W (.fieldLink "java/lang/String" 38 "java/lang/String" "COMPACT_STRINGS" "Z")) s1 (fun _ _ h => by rw [hh0]; exact h) (g := (mkF m 0 #[.val (.ref x)] [])) rfl (hb hbytes d0)
  have hh2 := q2.trans hh0
  have c3 : Steps p.tables e below (s₁.setTop (entryFrame m #[.ref x] 1)) (T2.setTop (mkF m 7 #[.val (.ref x)] [.ref x])) := (c1.trans (st2 _ (Steps.refl _))).trans (by
    refine XS.ifNo X2.here hexec rfl (hb hbytes d3) rfl (i0_eq_f hz) ?_
    refine XS.aloadN X2.here hexec rfl (hb hbytes d6) rfl rfl ?_
    exact Steps.refl _)
  obtain ⟨T4, X4, q4, st4⟩ := X2.hget hexec hown (wk W (.fieldLink "java/lang/String" 15 "java/lang/String" "coder" "B")) (hx.mv X2.warmed.alike hh2) (g := (mkF m 7 #[.val (.ref x)] [.ref x])) rfl (rest := []) rfl (hb hbytes d7)
  have c5 : Steps p.tables e below (s₁.setTop (entryFrame m #[.ref x] 1)) (T4.setTop (mkF m 10 #[.val (.ref x)] [.int cd])) := c3.trans (st4 _ (Steps.refl _))
  have c6 : Steps p.tables e below (s₁.setTop (entryFrame m #[.ref x] 1)) (T4.setTop (mkF m 18 #[.val (.ref x)] [.int (1 - cd)])) := by
    rcases hc with rfl | rfl
    · exact c5.trans (by
        refine XS.ifNo X4.here hexec rfl (hb hbytes d10) rfl (i0_ne_f rfl) ?_
        refine iconstV X4.here hexec rfl 1 (hb hbytes d13) (by decide) ?_
        refine XS.goto X4.here hexec rfl (pc0 := 14) rfl (hb hbytes d14) (by decide) rfl ?_
        exact Steps.refl _)
    · exact c5.trans (by
        refine XS.ifYes X4.here hexec rfl (pc0 := 10) rfl (hb hbytes d10) rfl (i0_ne_t (by decide)) (by decide) rfl ?_
        refine iconstV X4.here hexec rfl 0 (hb hbytes d17) (by decide) ?_
        exact Steps.refl _)
  exact ⟨T4, some (.int (1 - cd)), _, _, _, X4, rfl, rfl, rfl, (fun h => by cases h), ⟨rfl, q4.trans hh2⟩, fun fs hl => c6.trans (X4.ireturnOut hexec hret (by rcases hc with rfl | rfl <;> rfl) (Or.inr (Or.inl rfl)) (hb hbytes d18) hl)⟩
end IsL
namespace LChA
def yN : MethodName := ⟨"java/lang/StringLatin1", "charAt", "([BI)C"⟩
abbrev yB : ByteArray := jdk_43_method_2_code
theorem d0 : decode yB 0 = .ok (.iload_n 1, 1) := by decide +kernel
theorem d1 : decode yB 1 = .ok (.aload_n 0, 1) := by decide +kernel
theorem d2 : decode yB 2 = .ok (.arraylength, 1) := by decide +kernel
theorem d3 : decode yB 3 = .ok (.invokestatic 9, 3) := by decide +kernel
theorem d6 : decode yB 6 = .ok (.aload_n 0, 1) := by decide +kernel
theorem d7 : decode yB 7 = .ok (.iload_n 1, 1) := by decide +kernel
theorem d8 : decode yB 8 = .ok (.baload, 1) := by decide +kernel
theorem d9 : decode yB 9 = .ok (.sipush 255, 3) := by decide +kernel
theorem d12 : decode yB 12 = .ok (.iand, 1) := by decide +kernel
theorem d13 : decode yB 13 = .ok (.i2c, 1) := by decide +kernel
theorem d14 : decode yB 14 = .ok (.ireturn, 1) := by decide +kernel
def site : List Cond := [JO.Str_checkIndex.tab] ++ staticW "java/lang/StringLatin1" 9 JO.Str_checkIndex.yN
def tab : Cond := tabOf yN yB 2 (some .char) site
def P (t : Addr) (V : Cell) (i : Nat) (u : Int32) (fm : Value) (args : Array Value) (s : State) : Prop := args = #[.ref t, .int (Int32.ofNat i)] ∧ XT.Arr .byte t V s ∧ V.slots[i]? = some (.int u) ∧ (StaticIs s "jdk/internal/util/Preconditions" "SIOOBE_FORMATTER" "Ljava/util/function/BiFunction;" fm ∧ fm.isRef = true)
def E (u : Int32) (r : Option Value) (s w : State) : Prop := XT.PureE (some (.int (chr8 u))) r s w
theorem law (l : Launch) (t : Addr) (V : Cell) (i : Nat) (u : Int32) (fm : Value) : Law l yN 2 2 2 27 yB 2 (some .char) site (P t V i u fm) (E u) [] 0 0 := by
  refine Law.of_walk (plainFor_of_name (by decide +kernel)) (by decide +kernel) (by decide +kernel) (by decide) (fun _ _ h => by rw [h.1]; rfl) (fun _ U U' hal hh h => ⟨h.1, h.2.1.mv hal hh, h.2.2.1, h.2.2.2.1.there hal hh, h.2.2.2.2⟩) (fun r U U' V V' h1 hal h2 h => XT.PureE.mv r U U' V V' h1 hal h2 h) ?_
  intro p e s m args below meth c s₁ X0 hexec hbytes hml hret hlk hnm hown hh0 W hP
  obtain ⟨rfl, hV, hu, s1, rf⟩ := hP
  have v31 := hV.2.2.2
  have hi : i < V.slots.size := (Array.getElem?_eq_some_iff.mp hu).1
  have c1 : Steps p.tables e below (s₁.setTop (entryFrame m #[.ref t, .int (Int32.ofNat i)] 2)) (s₁.setTop (mkF m 0 #[.val (.ref t), .val (.int (Int32.ofNat i))] [])) := entry rfl
  have c2 : Steps p.tables e below (s₁.setTop (entryFrame m #[.ref t, .int (Int32.ofNat i)] 2)) (s₁.setTop (mkF m 3 #[.val (.ref t), .val (.int (Int32.ofNat i))] [.int (Int32.ofNat V.slots.size), .int (Int32.ofNat i)])) := c1.trans (by
    refine XS.iloadN X0.here hexec rfl (hb hbytes d0) rfl ?_
    refine XS.aloadN X0.here hexec rfl (hb hbytes d1) rfl rfl ?_
    refine X0.alen hexec (hV.mv X0.warmed.alike hh0) rfl rfl (hb hbytes d2) ?_
    exact Steps.refl _)
  obtain ⟨v3, T3, X3, E3, g3⟩ := X0.callS hexec (JO.Str_checkIndex.law l (Int32.ofNat i) (Int32.ofNat V.slots.size) fm) hown (wks W (staticW "java/lang/StringLatin1" 9 JO.Str_checkIndex.yN)) (wk W JO.Str_checkIndex.tab) (W := 0) (Nat.le_of_ble_eq_true rfl) (Nat.le_of_ble_eq_true rfl) (Nat.le_refl _) (Nat.le_refl _) (g := (mkF m 3 #[.val (.ref t), .val (.int (Int32.ofNat i))] [.int (Int32.ofNat V.slots.size), .int (Int32.ofNat i)])) rfl (by rw [hml]; rfl) c2 (argsL := [.int (Int32.ofNat i), .int (Int32.ofNat V.slots.size)]) (rest := []) rfl rfl (by show 2 * 0 + 0 ≤ _; decide) (hb hbytes d3) (⟨rfl, rf, s1.there X0.warmed.alike hh0, Int32.ofNat_not_neg (by omega), lt32 v31 hi⟩)
  obtain ⟨rfl, q3⟩ := E3
  have hh3 := q3.trans hh0
  have c4 : Steps p.tables e below (s₁.setTop (entryFrame m #[.ref t, .int (Int32.ofNat i)] 2)) (T3.setTop (mkF m 14 #[.val (.ref t), .val (.int (Int32.ofNat i))] [.int (chr8 u)])) := Steps.trans g3 (by
    refine XS.aloadN X3.here hexec rfl (hb hbytes d6) rfl rfl ?_
    refine XS.iloadN X3.here hexec rfl (hb hbytes d7) rfl ?_
    refine X3.aget hexec (hV.mv X3.warmed.alike hh3) rfl hu rfl rfl (hb hbytes d8) ?_
    refine sipushV X3.here hexec rfl 255 (hb hbytes d9) (by decide) ?_
    refine XS.iand X3.here hexec rfl (hb hbytes d12) rfl ?_
    refine i2c X3.here hexec rfl (hb hbytes d13) rfl ?_
    exact Steps.refl _)
  exact ⟨T3, some (.int (chr8 u)), _, _, _, X3, rfl, rfl, rfl, (fun h => by cases h), ⟨rfl, hh3⟩, fun fs hl => c4.trans (X3.ireturnOut hexec hret (narrow_c _) (Or.inr (Or.inr (Or.inr (Or.inl rfl)))) (hb hbytes d14) hl)⟩
end LChA
end StrChars
namespace StrChars.Road
open Jvm Sem ClassFile Op Lib Jvm.Stand Jvm.Free Jvm.Free.XT
open Jvm.Lib.Cold (StaticIs)
theorem consq {a : Array Value} {s : State} {c : Jvm.Cond} {L : List Jvm.Cond} (h0 : c.before a s = true) (h : ∀ w ∈ L, w.before a s = true) : ∀ w ∈ c :: L, w.before a s = true := fun w hw => (List.mem_cons.mp hw).elim (fun e => e ▸ h0) (h w)
/-- the words of String.length(), either coding -/
abbrev wordsLen : List Jvm.Cond := [.code Len.yN Len.yB 1 (some .int), .initialized ST, .fieldLink ST 9 ST "value" "[B", .fieldLink ST 38 ST "COMPACT_STRINGS" "Z", .fieldLink ST 15 ST "coder" "B", .code Cdr.yN Cdr.yB 1 (some .byte), .methodLink ST 335 Cdr.yN, .declares Cdr.yN, .selects ST Cdr.yN Cdr.yN, .instanceMethod Cdr.yN]
theorem tabLen_of {a : Array Value} {s : State} (h : ∀ w ∈ wordsLen, w.before a s = true) : Len.tab.before a s = true := by
  have hc : Cdr.tab.before a s = true := unparts (wk h (.code Cdr.yN Cdr.yB 1 (some .byte))) (wks h (.initialized Cdr.yN.cls :: Cdr.site))
  have q := consq hc h
  exact unparts (wk q (.code Len.yN Len.yB 1 (some .int))) (wks q (.initialized Len.yN.cls :: Len.site))
theorem movedLen {Z s : State} {a0 args : Array Value} (hZ : Z.Warmed39 s.vm) (hw : ∀ d ∈ wordsLen, d.before a0 Z = true) : ∀ d ∈ wordsLen, d.before args s = true := fun d hd => by
  have q := hw d hd
  have t : ∀ d ∈ wordsLen, d = .arrayClass .byte ∨ (d.onTables && d.keepsFace) = true := by decide +kernel
  rcases t d hd with rfl | t
  · exact RoadKit.mvA hZ q
  · exact RoadKit.mv hZ q t
/-- the bytes of the chars cs, low before high -/
def wideBytes : List Int32 → List Value
  | [] => []
  | c :: cs => .int (lo8 c) :: .int (hi8 c) :: wideBytes cs
theorem wide_lo (d : Value) : ∀ (cs : List Int32) (j : Nat), j < cs.length → (wideBytes cs).getD (2 * j) d = .int (lo8 (cs.getD j 0))
  | [], j, h => absurd h (Nat.not_lt_zero j)
  | c :: cs, 0, _ => rfl
  | c :: cs, j + 1, h => by
    have q := wide_lo d cs j (by simpa using h)
    rw [show 2 * (j + 1) = 2 * j + 1 + 1 from by omega]
    simpa [wideBytes] using q
theorem wide_hi (d : Value) : ∀ (cs : List Int32) (j : Nat), j < cs.length → (wideBytes cs).getD (2 * j + 1) d = .int (hi8 (cs.getD j 0))
  | [], j, h => absurd h (Nat.not_lt_zero j)
  | c :: cs, 0, _ => rfl
  | c :: cs, j + 1, h => by
    have q := wide_hi d cs j (by simpa using h)
    rw [show 2 * (j + 1) + 1 = 2 * j + 1 + 1 + 1 from by omega]
    simpa [wideBytes] using q
theorem low_at (d : Value) (cs : List Int32) (j : Nat) (h : j < cs.length) : (cs.map fun c => Value.int (lo8 c)).getD j d = .int (lo8 (cs.getD j 0)) := by
  simp [List.getD_eq_getElem?_getD, h]
/-- an array of N2 bytes vs codes the chars cs by the coder cd -/
def CodA (cs : List Int32) (cd N2 : Int32) (vs : List Value) : Prop := (cd = 0 ∧ N2 = Int32.ofNat cs.length ∧ vs = (cs.map fun c => Value.int (lo8 c)) ∧ ∀ c ∈ cs, ¬ 255 < c) ∨ (cd = 1 ∧ N2 = Int32.ofNat (2 * cs.length) ∧ vs = wideBytes cs ∧ ∃ c ∈ cs, 255 < c)
theorem CodA.cod {cs : List Int32} {cd N2 : Int32} {vs : List Value} {V : Cell} (h : CodA cs cd N2 vs) (hn : 2 * cs.length < 2 ^ 31) (hs : V.slots.size = N2.toNatClampNeg) (hv : RoadKit.Has V vs (.int 0)) : Cod cd cs.length (fun j => cs.getD j 0) V := by
  rcases h with ⟨rfl, rfl, rfl, h⟩ | ⟨rfl, rfl, rfl, c, hc, hw⟩
  · rw [n32 (by omega)] at hs
    exact Or.inl ⟨rfl, hs, fun j hj => ⟨by rw [hv j (by omega), low_at _ _ _ hj], by
      have e : cs.getD j 0 = cs[j] := by simp [List.getD_eq_getElem?_getD, hj]
      show ¬ 255 < cs.getD j 0
      rw [e]; exact h _ (List.getElem_mem _)⟩⟩
  · rw [n32 (by omega)] at hs
    obtain ⟨j, hj, rfl⟩ := List.getElem_of_mem hc
    exact Or.inr ⟨rfl, hs, fun j hj => ⟨by rw [hv _ (by omega), wide_lo _ _ _ hj], by rw [hv _ (by omega), wide_hi _ _ _ hj]⟩, j, hj, by
      have e : cs.getD j 0 = cs[j] := by simp [List.getD_eq_getElem?_getD, hj]
      show 255 < cs.getD j 0
      rw [e]; exact hw⟩
/-- an object of exactly java/lang/String, its two fields found: as the laws ask it -/
theorem strObj {Z U : State} {a0 : Array Value} {kI : Nat} (wi : (Jvm.Cond.instantiable ST kI).before a0 Z = true) (al : Z.vm.Alike U.vm) {x : Addr} {v0 c0 : Value} (E : RoadKit.Exa Z U.heap x ST) (V : RoadKit.Fld Z U.heap x ST "value" "[B" v0) (C : RoadKit.Fld Z U.heap x ST "coder" "B" c0) :
    ∃ (D : Cell) (fV fC : Field), Blank ST x D U ∧ Found ST "value" "[B" fV U ∧ Found ST "coder" "B" fC U ∧ D.slots[fV.slot]? = some v0 ∧ D.slots[fC.slot]? = some c0 ∧ RoadKit.slotOf Z ST "value" "[B" = fV.slot ∧ RoadKit.slotOf Z ST "coder" "B" = fC.slot := by
  obtain ⟨D, cfV, kV, iV, fV, hD, gV, stV, knV, obV, asV, slV⟩ := V
  obtain ⟨D', cfC, kC, iC, fC, hD', gC, stC, -, -, asC, slC⟩ := C
  cases hD.symm.trans hD'
  obtain ⟨D2, kD, e1, e2, e3, e4, e5⟩ := E
  cases hD.symm.trans e1
  obtain ⟨c2, k2, i1, i2, i3, -⟩ := Cond.instantiable_spec wi
  cases e2.symm.trans i1
  cases e3.symm.trans i2
  obtain ⟨kU, u1, u2⟩ := al.2.2 _ _ e3
  exact ⟨D, fV, fC, ⟨hD, ⟨knV, fun q hq => by rw [hq] at obV; cases obV⟩, by rw [al.findClass]; exact e2, kU, u1, by rw [u2]; exact i3, by rw [u2]; exact e5 i3⟩, ⟨SBG.found_only al ⟨cfV, kV, iV, gV⟩, stV⟩, ⟨SBG.found_only al ⟨cfC, kC, iC, gC⟩, stC⟩, slV, slC, by simp [RoadKit.slotOf, gV], by simp [RoadKit.slotOf, gC]⟩
theorem sta_is {Z U : State} (al : Z.vm.Alike U.vm) {C n d : String} {v : Value} (S : RoadKit.Sta Z U.heap C n d v) : StaticIs U C n d v := by
  obtain ⟨cfS, iS, kS, fS, st, cS, t1, t2, t3, t4, t5, t6, t7⟩ := S
  exact StaticIs.there (s := { Z with heap := U.heap }) ⟨cfS, iS, kS, fS, st, cS, t1, t2, t3, t4, t5, (fun q => by rw [q] at t6; cases t6), t7⟩ al rfl
/-- **length() OF SUCH A STRING** -/
theorem lenW {p : Program} {l : Launch} {e : Env} {R : Room} {s : State} {args : Array Value} {below : List Frame} {len W : Nat} {Z : State} {a0 : Array Value} {h : Heap} (hZ : Z.Warmed39 s.vm) (hw : ∀ d ∈ wordsLen, d.before a0 Z = true) {kI : Nat} (wi : (Jvm.Cond.instantiable ST kI).before a0 Z = true)
    {x t : Addr} {kb : ClassId} {cs : List Int32} {cd N2 z : Int32} {vs : List Value} (E : RoadKit.Exa Z h x ST) (V : RoadKit.Fld Z h x ST "value" "[B" (.ref t)) (C : RoadKit.Fld Z h x ST "coder" "B" (.int cd)) (K : RoadKit.Arv Z h t kb .byte N2 vs (.int 0)) (hc : CodA cs cd N2 vs) (hb : ∀ c ∈ cs, ¬ c < 0 ∧ ¬ (65535 : Int32) < c)
    (S : RoadKit.Sta Z h ST "COMPACT_STRINGS" "Z" (.int z)) (hz : ¬ z = 0) (l2 : cs.length ≤ 4000) (hfr : 2 ≤ R.frames) (hlo : W + 25 ≤ R.locals) :
    Back l R p e below s args (⟨"java/lang/String", "length", "()I"⟩ : MethodName) len W (fun P a => a = #[.ref x] ∧ P.U.heap = h ∧ P.cells + 0 ≤ R.cells ∧ P.slots + 0 ≤ R.slots)
      (fun P _ v B => ∃ L, (v = some (.int (Int32.ofNat cs.length)) ∧ L = [] ∧ B.U.heap = h) ∧ B.locs = P.locs ++ L ∧ B.cells = P.cells + 0 ∧ B.slots = P.slots + 0) := by
  obtain ⟨A, K1, K2, K3, K4, K5, K6⟩ := K
  have hcod := hc.cod (by omega) K3 K5
  intro m meth c P g ig mk a X hg hsize hdg hW hn hp'
  obtain ⟨rfl, rfl, r1, r2⟩ := hp'
  have al : Z.vm.Alike P.U.vm := hZ.alike.trans X.warmed.alike
  obtain ⟨D, fV, fC, hB, F1, F2, g1, g2, -, -⟩ := strObj wi al E V C
  have hx : Txt x t A cd cs.length (fun j => cs.getD j 0) P.U := ⟨⟨_, hB.2.2.1, D, hB.1, rfl, by cases q : D.vm <;> first | rfl | exact absurd q (hB.2.1.2 _)⟩, Has.of hB F1 g1, Has.of hB F2 g2, ⟨K1.1, State.isArrayOf_alike al K1.2.1, K1.2.2, by rcases hcod with ⟨-, q, -⟩ | ⟨-, q, -⟩ <;> omega⟩, hcod, fun j hj => by
    have e : cs.getD j 0 = cs[j] := by simp [List.getD_eq_getElem?_getD, hj]
    show ¬ cs.getD j 0 < 0 ∧ ¬ 65535 < cs.getD j 0
    rw [e]; exact hb _ (List.getElem_mem _)⟩
  obtain ⟨v, B, X', ⟨⟨hv, hh⟩, hl, hk, hs⟩, st⟩ := Len.pays x t A cd cs.length (fun j => cs.getD j 0) z (tabLen_of (movedLen hZ hw)) hfr hlo m meth c P g ig mk _ X hg hsize hdg hW hn ⟨r1, r2, rfl, hx, sta_is al S, hz⟩
  exact ⟨v, B, X', ⟨[], ⟨hv, rfl, hh⟩, hl, hk, hs⟩, st⟩
end StrChars.Road
namespace StrChars
open Jvm Sem ClassFile Op Lib Jvm.Stand Jvm.Free.XT Jvm.Free.ALB Jvm.Free.JM Jvm.Free
open Jvm.Lib.Cold (StaticIs)
namespace Emp
def yN : MethodName := ⟨"java/lang/String", "isEmpty", "()Z"⟩
abbrev yB : ByteArray := jdk_42_method_55_code
theorem d0 : decode yB 0 = .ok (.aload_n 0, 1) := by decide +kernel
theorem d1 : decode yB 1 = .ok (.getfield 9, 3) := by decide +kernel
theorem d4 : decode yB 4 = .ok (.arraylength, 1) := by decide +kernel
theorem d5 : decode yB 5 = .ok (.ifCond (.ne) 7, 3) := by decide +kernel
theorem d8 : decode yB 8 = .ok (.iconst 1, 1) := by decide +kernel
theorem d9 : decode yB 9 = .ok (.goto 4, 3) := by decide +kernel
theorem d12 : decode yB 12 = .ok (.iconst 0, 1) := by decide +kernel
theorem d13 : decode yB 13 = .ok (.ireturn, 1) := by decide +kernel
def site : List Cond := [.fieldLink "java/lang/String" 9 "java/lang/String" "value" "[B"]
def tab : Cond := tabOf yN yB 1 (some .boolean) site
def P (x t : Addr) (V : Cell) (cd : Int32) (n : Nat) (f : Nat → Int32) (args : Array Value) (s : State) : Prop := args = #[.ref x] ∧ Txt x t V cd n f s
def E (n : Nat) (r : Option Value) (s u : State) : Prop := XT.PureE (some (.int (if n = 0 then 1 else 0))) r s u
/-- isEmpty() of a String of n chars -/
theorem law (l : Launch) (x t : Addr) (V : Cell) (cd : Int32) (n : Nat) (f : Nat → Int32) : Law l yN 1 0 0 0 yB 1 (some .boolean) site (P x t V cd n f) (E n) [] 0 0 := by
  refine Law.of_walk (plainFor_of_name (by decide +kernel)) (by decide +kernel) (by decide +kernel) (by decide) (fun _ _ h => by rw [h.1]; rfl) (fun _ U U' hal hh h => ⟨h.1, h.2.mv hal hh⟩) (fun r U U' V V' h1 hal h2 h => XT.PureE.mv r U U' V V' h1 hal h2 h) ?_
  intro p e s m args below meth c s₁ X0 hexec hbytes hml hret hlk hnm hown hh0 W hP
  obtain ⟨rfl, hx⟩ := hP
  have v31 := hx.2.2.2.1.2.2.2
  have c1 : Steps p.tables e below (s₁.setTop (entryFrame m #[.ref x] 1)) (s₁.setTop (mkF m 1 #[.val (.ref x)] [.ref x])) := Steps.trans (entry rfl) (by
    show Steps p.tables e below (s₁.setTop (mkF m 0 #[.val (.ref x)] [])) _
    refine XS.aloadN X0.here hexec rfl (hb hbytes d0) rfl rfl ?_
    exact Steps.refl _)
  obtain ⟨T2, X2, q2, st2⟩ := X0.hget hexec hown (wk W (.fieldLink "java/lang/String" 9 "java/lang/String" "value" "[B")) (hx.mv X0.warmed.alike hh0).2.1 (g := (mkF m 1 #[.val (.ref x)] [.ref x])) rfl (rest := []) rfl (hb hbytes d1)
  have hh2 := q2.trans hh0
  have hx2 := hx.mv X2.warmed.alike hh2
  have c3 : Steps p.tables e below (s₁.setTop (entryFrame m #[.ref x] 1)) (T2.setTop (mkF m 5 #[.val (.ref x)] [.int (Int32.ofNat V.slots.size)])) := (c1.trans (st2 _ (Steps.refl _))).trans (by
    refine X2.alen hexec hx2.2.2.2.1 rfl rfl (hb hbytes d4) ?_
    exact Steps.refl _)
  have hz : V.slots.size = 0 ↔ n = 0 := by
    rcases hx.2.2.2.2.1 with ⟨-, q, -⟩ | ⟨-, q, -⟩ <;> omega
  by_cases h0 : n = 0
  · have c4 : Steps p.tables e below (s₁.setTop (entryFrame m #[.ref x] 1)) (T2.setTop (mkF m 13 #[.val (.ref x)] [.int 1])) := c3.trans (by
      refine XS.ifNo X2.here hexec rfl (hb hbytes d5) rfl (i0_ne_f (by rw [hz.mpr h0]; rfl)) ?_
      refine iconstV X2.here hexec rfl 1 (hb hbytes d8) (by decide) ?_
      refine XS.goto X2.here hexec rfl (pc0 := 9) rfl (hb hbytes d9) (by decide) rfl ?_
      exact Steps.refl _)
    exact ⟨T2, some (.int 1), _, _, _, X2, rfl, rfl, rfl, (fun h => by cases h), ⟨by rw [if_pos h0], hh2⟩, fun fs hl => c4.trans (X2.ireturnOut hexec hret rfl (Or.inr (Or.inl rfl)) (hb hbytes d13) hl)⟩
  · have c4 : Steps p.tables e below (s₁.setTop (entryFrame m #[.ref x] 1)) (T2.setTop (mkF m 13 #[.val (.ref x)] [.int 0])) := c3.trans (by
      refine XS.ifYes X2.here hexec rfl (pc0 := 5) rfl (hb hbytes d5) rfl (i0_ne_t (nz32 v31 (by omega))) (by decide) rfl ?_
      refine iconstV X2.here hexec rfl 0 (hb hbytes d12) (by decide) ?_
      exact Steps.refl _)
    exact ⟨T2, some (.int 0), _, _, _, X2, rfl, rfl, rfl, (fun h => by cases h), ⟨by rw [if_neg h0], hh2⟩, fun fs hl => c4.trans (X2.ireturnOut hexec hret rfl (Or.inr (Or.inl rfl)) (hb hbytes d13) hl)⟩
theorem pays {l : Launch} {R : Room} {p : Program} {e : Env} {below : List Frame} {s : State} {sargs : Array Value} {len W : Nat} (x t : Addr) (V : Cell) (cd : Int32) (n : Nat) (f : Nat → Int32) (htab : tab.before sargs s = true) (hfr : 1 ≤ R.frames) (hlo : W + 12 ≤ R.locals) :
    Back l R p e below s sargs yN len W (fun A₁ a₁ => A₁.cells + 0 ≤ R.cells ∧ A₁.slots + 0 ≤ R.slots ∧ P x t V cd n f a₁ A₁.U) (fun A₁ _ v₁ B₁ => E n v₁ A₁.U B₁.U ∧ B₁.locs = A₁.locs ++ [] ∧ B₁.cells = A₁.cells + 0 ∧ B₁.slots = A₁.slots + 0) :=
  (law l x t V cd n f).pays htab hfr (by omega)
end Emp
end StrChars
namespace StrChars.Road
open Jvm Sem ClassFile Op Lib Jvm.Stand Jvm.Free Jvm.Free.XT
open Jvm.Lib.Cold (StaticIs)
/-- the words of String.isEmpty() -/
abbrev wordsEmp : List Jvm.Cond := [.code Emp.yN Emp.yB 1 (some .boolean), .initialized ST, .fieldLink ST 9 ST "value" "[B"]
theorem tabEmp_of {a : Array Value} {s : State} (h : ∀ w ∈ wordsEmp, w.before a s = true) : Emp.tab.before a s = true := unparts (wk h (.code Emp.yN Emp.yB 1 (some .boolean))) (wks h (.initialized Emp.yN.cls :: Emp.site))
theorem movedEmp {Z s : State} {a0 args : Array Value} (hZ : Z.Warmed39 s.vm) (hw : ∀ d ∈ wordsEmp, d.before a0 Z = true) : ∀ d ∈ wordsEmp, d.before args s = true := fun d hd => by
  have t : ∀ d ∈ wordsEmp, (d.onTables && d.keepsFace) = true := by decide +kernel
  exact RoadKit.mv hZ (hw d hd) (t d hd)
/-- the road's facts of a String, as the laws ask it -/
theorem txt_of {Z U : State} {a0 : Array Value} {kI : Nat} (wi : (Jvm.Cond.instantiable ST kI).before a0 Z = true) (al : Z.vm.Alike U.vm) {x t : Addr} {kb : ClassId} {cs : List Int32} {cd N2 : Int32} {vs : List Value} (E : RoadKit.Exa Z U.heap x ST) (V : RoadKit.Fld Z U.heap x ST "value" "[B" (.ref t)) (C : RoadKit.Fld Z U.heap x ST "coder" "B" (.int cd)) (K : RoadKit.Arv Z U.heap t kb .byte N2 vs (.int 0)) (hc : CodA cs cd N2 vs) (hb : ∀ c ∈ cs, ¬ c < 0 ∧ ¬ (65535 : Int32) < c) (l2 : cs.length ≤ 4000) :
    ∃ A, Txt x t A cd cs.length (fun j => cs.getD j 0) U := by
  obtain ⟨A, K1, K2, K3, K4, K5, K6⟩ := K
  have hcod := hc.cod (by omega) K3 K5
  obtain ⟨D, fV, fC, hB, F1, F2, g1, g2, -, -⟩ := strObj wi al E V C
  exact ⟨A, ⟨_, hB.2.2.1, D, hB.1, rfl, by cases q : D.vm <;> first | rfl | exact absurd q (hB.2.1.2 _)⟩, Has.of hB F1 g1, Has.of hB F2 g2, ⟨K1.1, State.isArrayOf_alike al K1.2.1, K1.2.2, by rcases hcod with ⟨-, q, -⟩ | ⟨-, q, -⟩ <;> omega⟩, hcod, fun j hj => by
    have e : cs.getD j 0 = cs[j] := by simp [List.getD_eq_getElem?_getD, hj]
    show ¬ cs.getD j 0 < 0 ∧ ¬ 65535 < cs.getD j 0
    rw [e]; exact hb _ (List.getElem_mem _)⟩
/-- **isEmpty() OF SUCH A STRING** -/
theorem empW {p : Program} {l : Launch} {e : Env} {R : Room} {s : State} {args : Array Value} {below : List Frame} {len W : Nat} {Z : State} {a0 : Array Value} {h : Heap} (hZ : Z.Warmed39 s.vm) (hw : ∀ d ∈ wordsEmp, d.before a0 Z = true) {kI : Nat} (wi : (Jvm.Cond.instantiable ST kI).before a0 Z = true)
    {x t : Addr} {kb : ClassId} {cs : List Int32} {cd N2 : Int32} {vs : List Value} (E : RoadKit.Exa Z h x ST) (V : RoadKit.Fld Z h x ST "value" "[B" (.ref t)) (C : RoadKit.Fld Z h x ST "coder" "B" (.int cd)) (K : RoadKit.Arv Z h t kb .byte N2 vs (.int 0)) (hc : CodA cs cd N2 vs) (hb : ∀ c ∈ cs, ¬ c < 0 ∧ ¬ (65535 : Int32) < c) (l2 : cs.length ≤ 4000) (hfr : 1 ≤ R.frames) (hlo : W + 12 ≤ R.locals) :
    Back l R p e below s args (⟨"java/lang/String", "isEmpty", "()Z"⟩ : MethodName) len W (fun P a => a = #[.ref x] ∧ P.U.heap = h ∧ P.cells + 0 ≤ R.cells ∧ P.slots + 0 ≤ R.slots)
      (fun P _ v B => ∃ L, (v = some (.int (if cs.length = 0 then 1 else 0)) ∧ L = [] ∧ B.U.heap = h) ∧ B.locs = P.locs ++ L ∧ B.cells = P.cells + 0 ∧ B.slots = P.slots + 0) := by
  intro m meth c P g ig mk a X hg hsize hdg hW hn hp'
  obtain ⟨rfl, rfl, r1, r2⟩ := hp'
  have al : Z.vm.Alike P.U.vm := hZ.alike.trans X.warmed.alike
  obtain ⟨A, hx⟩ := txt_of wi al E V C K hc hb l2
  obtain ⟨v, B, X', ⟨⟨hv, hh⟩, hl, hk, hs⟩, st⟩ := Emp.pays x t A cd cs.length (fun j => cs.getD j 0) (tabEmp_of (movedEmp hZ hw)) hfr hlo m meth c P g ig mk _ X hg hsize hdg hW hn ⟨r1, r2, rfl, hx⟩
  exact ⟨v, B, X', ⟨[], ⟨hv, rfl, hh⟩, hl, hk, hs⟩, st⟩
end StrChars.Road
namespace StrChars
open Jvm Sem ClassFile Op Lib Jvm.Stand Jvm.Free.XT Jvm.Free.ALB Jvm.Free.JM Jvm.Free
open Jvm.Lib.Cold (StaticIs)
namespace ChN
def yN : MethodName := ⟨"java/lang/String", "charAt", "(I)C"⟩
abbrev yB : ByteArray := jdk_42_method_56_code
theorem d0 : decode yB 0 = .ok (.aload_n 0, 1) := by decide +kernel
theorem d1 : decode yB 1 = .ok (.invokevirtual 492, 3) := by decide +kernel
theorem d4 : decode yB 4 = .ok (.ifCond (.eq) 12, 3) := by decide +kernel
theorem d7 : decode yB 7 = .ok (.aload_n 0, 1) := by decide +kernel
theorem d8 : decode yB 8 = .ok (.getfield 9, 3) := by decide +kernel
theorem d11 : decode yB 11 = .ok (.iload_n 1, 1) := by decide +kernel
theorem d12 : decode yB 12 = .ok (.invokestatic 495, 3) := by decide +kernel
theorem d15 : decode yB 15 = .ok (.ireturn, 1) := by decide +kernel
def site : List Cond := [.fieldLink "java/lang/String" 9 "java/lang/String" "value" "[B", IsL.tab, LChA.tab] ++ virtW "java/lang/String" 492 "java/lang/String" IsL.yN IsL.yN ++ staticW "java/lang/String" 495 LChA.yN
def tab : Cond := tabOf yN yB 2 (some .char) site
def P (x t : Addr) (V : Cell) (n : Nat) (f : Nat → Int32) (z : Int32) (fm : Value) (i : Nat) (args : Array Value) (s : State) : Prop := args = #[.ref x, .int (Int32.ofNat i)] ∧ Txt x t V 0 n f s ∧ i < n ∧ StaticIs s "java/lang/String" "COMPACT_STRINGS" "Z" (.int z) ∧ ¬ z = 0 ∧ StaticIs s "jdk/internal/util/Preconditions" "SIOOBE_FORMATTER" "Ljava/util/function/BiFunction;" fm ∧ fm.isRef = true
def E (f : Nat → Int32) (i : Nat) (r : Option Value) (s u : State) : Prop := XT.PureE (some (.int (f i))) r s u
/-- charAt(i) of a Latin-1 String of n chars, i < n: f i -/
theorem law (l : Launch) (x t : Addr) (V : Cell) (n : Nat) (f : Nat → Int32) (z : Int32) (fm : Value) (i : Nat) : Law l yN 2 1 3 40 yB 2 (some .char) site (P x t V n f z fm i) (E f i) [] 0 0 := by
  refine Law.of_walk (plainFor_of_name (by decide +kernel)) (by decide +kernel) (by decide +kernel) (by decide) (fun _ _ h => by rw [h.1]; rfl) (fun _ U U' hal hh h => ⟨h.1, h.2.1.mv hal hh, h.2.2.1, h.2.2.2.1.there hal hh, h.2.2.2.2.1, h.2.2.2.2.2.1.there hal hh, h.2.2.2.2.2.2⟩) (fun r U U' V V' h1 hal h2 h => XT.PureE.mv r U U' V V' h1 hal h2 h) ?_
  intro p e s m args below meth c s₁ X0 hexec hbytes hml hret hlk hnm hown hh0 W hP
  obtain ⟨rfl, hx, hi, s1, hz, s3, rf⟩ := hP
  have v31 := hx.2.2.2.1.2.2.2
  have hr := hx.2.2.2.2.2 i hi
  have hx0 := hx.mv X0.warmed.alike hh0
  have c1 : Steps p.tables e below (s₁.setTop (entryFrame m #[.ref x, .int (Int32.ofNat i)] 2)) (s₁.setTop (mkF m 1 #[.val (.ref x), .val (.int (Int32.ofNat i))] [.ref x])) := Steps.trans (entry rfl) (by
    show Steps p.tables e below (s₁.setTop (mkF m 0 #[.val (.ref x), .val (.int (Int32.ofNat i))] [])) _
    refine XS.aloadN X0.here hexec rfl (hb hbytes d0) rfl rfl ?_
    exact Steps.refl _)
  obtain ⟨v2, T2, X2, E2, g2⟩ := X0.callV hexec (IsL.law l x 0 z) hown (wks W (virtW "java/lang/String" 492 "java/lang/String" IsL.yN IsL.yN)) rfl (by decide) (wk W IsL.tab) (W := 0) (Nat.le_of_ble_eq_true rfl) (Nat.le_of_ble_eq_true rfl) (Nat.le_refl _) (Nat.le_refl _) (hx0.1.fc X0.warmed.alike) hx0.1.is (g := (mkF m 1 #[.val (.ref x), .val (.int (Int32.ofNat i))] [.ref x])) rfl (by rw [hml]; rfl) c1 (argsL := []) (rest := []) rfl rfl (by show 2 * 0 + 0 ≤ _; decide) (hb hbytes d1) (⟨rfl, hx0.2.2.1, hx.2.2.2.2.1.cd, s1.there X0.warmed.alike hh0, hz⟩)
  obtain ⟨rfl, q2⟩ := E2
  have hh2 := q2.trans hh0
  have hx2 := hx.mv X2.warmed.alike hh2
  obtain ⟨-, k1, k2⟩ | ⟨k0, -⟩ := hx.2.2.2.2.1
  · have c3 : Steps p.tables e below (s₁.setTop (entryFrame m #[.ref x, .int (Int32.ofNat i)] 2)) (T2.setTop (mkF m 8 #[.val (.ref x), .val (.int (Int32.ofNat i))] [.ref x])) := Steps.trans g2 (by
      refine XS.ifNo X2.here hexec rfl (hb hbytes d4) rfl (i0_eq_f (by decide)) ?_
      refine XS.aloadN X2.here hexec rfl (hb hbytes d7) rfl rfl ?_
      exact Steps.refl _)
    obtain ⟨T4, X4, q4, st4⟩ := X2.hget hexec hown (wk W (.fieldLink "java/lang/String" 9 "java/lang/String" "value" "[B")) hx2.2.1 (g := (mkF m 8 #[.val (.ref x), .val (.int (Int32.ofNat i))] [.ref x])) rfl (rest := []) rfl (hb hbytes d8)
    have hh4 := q4.trans hh2
    have c5 : Steps p.tables e below (s₁.setTop (entryFrame m #[.ref x, .int (Int32.ofNat i)] 2)) (T4.setTop (mkF m 12 #[.val (.ref x), .val (.int (Int32.ofNat i))] [.int (Int32.ofNat i), .ref t])) := (c3.trans (st4 _ (Steps.refl _))).trans (by
      refine XS.iloadN X4.here hexec rfl (hb hbytes d11) rfl ?_
      exact Steps.refl _)
    obtain ⟨v6, T6, X6, E6, g6⟩ := X4.callS hexec (LChA.law l t V i (lo8 (f i)) fm) hown (wks W (staticW "java/lang/String" 495 LChA.yN)) (wk W LChA.tab) (W := 0) (Nat.le_of_ble_eq_true rfl) (Nat.le_of_ble_eq_true rfl) (Nat.le_refl _) (Nat.le_refl _) (g := (mkF m 12 #[.val (.ref x), .val (.int (Int32.ofNat i))] [.int (Int32.ofNat i), .ref t])) rfl (by rw [hml]; rfl) c5 (argsL := [.ref t, .int (Int32.ofNat i)]) (rest := []) rfl rfl (by show 2 * 0 + 0 ≤ _; decide) (hb hbytes d12) (⟨rfl, hx.2.2.2.1.mv X4.warmed.alike hh4, (k2 i hi).1, s3.there X4.warmed.alike hh4, rf⟩)
    obtain ⟨rfl, q6⟩ := E6
    rw [chr8_lo8 hr.1 (k2 i hi).2] at g6
    exact ⟨T6, some (.int (f i)), _, _, _, X6, rfl, rfl, rfl, (fun h => by cases h), ⟨rfl, q6.trans hh4⟩, fun fs hl => Steps.trans g6 (X6.ireturnOut hexec hret (narrow_ch hr.1 hr.2) (Or.inr (Or.inr (Or.inr (Or.inl rfl)))) (hb hbytes d15) hl)⟩
  · exact absurd k0 (by decide)
theorem pays {l : Launch} {R : Room} {p : Program} {e : Env} {below : List Frame} {s : State} {sargs : Array Value} {len W : Nat} (x t : Addr) (V : Cell) (n : Nat) (f : Nat → Int32) (z : Int32) (fm : Value) (i : Nat) (htab : tab.before sargs s = true) (hfr : 4 ≤ R.frames) (hlo : W + 53 ≤ R.locals) :
    Back l R p e below s sargs yN len W (fun A₁ a₁ => A₁.cells + 0 ≤ R.cells ∧ A₁.slots + 0 ≤ R.slots ∧ P x t V n f z fm i a₁ A₁.U) (fun A₁ _ v₁ B₁ => E f i v₁ A₁.U B₁.U ∧ B₁.locs = A₁.locs ++ [] ∧ B₁.cells = A₁.cells + 0 ∧ B₁.slots = A₁.slots + 0) :=
  (law l x t V n f z fm i).pays htab hfr (by omega)
end ChN
end StrChars
namespace StrChars.Road
open Jvm Sem ClassFile Op Lib Jvm.Stand Jvm.Free Jvm.Free.XT
open Jvm.Lib.Cold (StaticIs)
/-- the words of String.charAt(int), the Latin-1 road alone -/
abbrev wordsChN : List Jvm.Cond := [.code ChN.yN ChN.yB 2 (some .char), .initialized ST, .fieldLink ST 9 ST "value" "[B", .fieldLink ST 38 ST "COMPACT_STRINGS" "Z", .fieldLink ST 15 ST "coder" "B", .code IsL.yN IsL.yB 1 (some .boolean), .methodLink ST 492 IsL.yN, .declares IsL.yN, .selects ST IsL.yN IsL.yN, .instanceMethod IsL.yN,
  .methodLink ST 495 LChA.yN, .static LChA.yN, .code LChA.yN LChA.yB 2 (some .char), .initialized "java/lang/StringLatin1", .methodLink "java/lang/StringLatin1" 9 JO.Str_checkIndex.yN, .static JO.Str_checkIndex.yN, .code JO.Str_checkIndex.yN JO.Str_checkIndex.yB 2 none,
  .fieldLink ST 1053 "jdk/internal/util/Preconditions" "SIOOBE_FORMATTER" "Ljava/util/function/BiFunction;", .methodLink ST 1059 JC.PreCheck.yN, .static JC.PreCheck.yN, .code JC.PreCheck.yN JC.PreCheck.yB 3 (some .int), .initialized "jdk/internal/util/Preconditions"]
theorem tabChN_of {a : Array Value} {s : State} (h : ∀ w ∈ wordsChN, w.before a s = true) : ChN.tab.before a s = true := by
  have hp : JC.PreCheck.tab.before a s = true := unparts (wk h (.code JC.PreCheck.yN JC.PreCheck.yB 3 (some .int))) (wks h (.initialized JC.PreCheck.yN.cls :: JC.PreCheck.site))
  have qk := consq hp h
  have hk : JO.Str_checkIndex.tab.before a s = true := unparts (wk qk (.code JO.Str_checkIndex.yN JO.Str_checkIndex.yB 2 none)) (wks qk (.initialized JO.Str_checkIndex.yN.cls :: JO.Str_checkIndex.site))
  have ql := consq hk h
  have hl : LChA.tab.before a s = true := unparts (wk ql (.code LChA.yN LChA.yB 2 (some .char))) (wks ql (.initialized LChA.yN.cls :: LChA.site))
  have hi : IsL.tab.before a s = true := unparts (wk h (.code IsL.yN IsL.yB 1 (some .boolean))) (wks h (.initialized IsL.yN.cls :: IsL.site))
  have q := consq hi (consq hl h)
  exact unparts (wk q (.code ChN.yN ChN.yB 2 (some .char))) (wks q (.initialized ChN.yN.cls :: ChN.site))
theorem movedChN {Z s : State} {a0 args : Array Value} (hZ : Z.Warmed39 s.vm) (hw : ∀ d ∈ wordsChN, d.before a0 Z = true) : ∀ d ∈ wordsChN, d.before args s = true := fun d hd => by
  have t : ∀ d ∈ wordsChN, (d.onTables && d.keepsFace) = true := by decide +kernel
  exact RoadKit.mv hZ (hw d hd) (t d hd)
/-- **charAt(i) OF A LATIN-1 STRING**, i < n: the char -/
theorem chN {p : Program} {l : Launch} {e : Env} {R : Room} {s : State} {args : Array Value} {below : List Frame} {len W : Nat} {Z : State} {a0 : Array Value} {h : Heap} (hZ : Z.Warmed39 s.vm) (hw : ∀ d ∈ wordsChN, d.before a0 Z = true) {kI : Nat} (wi : (Jvm.Cond.instantiable ST kI).before a0 Z = true)
    {x t : Addr} {kb : ClassId} {cs : List Int32} {N2 z : Int32} {vs : List Value} {fm : Value} {i : Nat} {j : Int32} (E : RoadKit.Exa Z h x ST) (V : RoadKit.Fld Z h x ST "value" "[B" (.ref t)) (C : RoadKit.Fld Z h x ST "coder" "B" (.int 0)) (K : RoadKit.Arv Z h t kb .byte N2 vs (.int 0)) (hc : CodA cs 0 N2 vs) (hb : ∀ c ∈ cs, ¬ c < 0 ∧ ¬ (65535 : Int32) < c)
    (S : RoadKit.Sta Z h ST "COMPACT_STRINGS" "Z" (.int z)) (hz : ¬ z = 0) (F : RoadKit.Sta Z h "jdk/internal/util/Preconditions" "SIOOBE_FORMATTER" "Ljava/util/function/BiFunction;" fm) (rf : fm.isRef = true) (l2 : cs.length ≤ 4000) (hi : i < cs.length) (hj : j = Int32.ofNat i) (hfr : 4 ≤ R.frames) (hlo : W + 53 ≤ R.locals) :
    Back l R p e below s args (⟨"java/lang/String", "charAt", "(I)C"⟩ : MethodName) len W (fun P a => a = #[.ref x, .int j] ∧ P.U.heap = h ∧ P.cells + 0 ≤ R.cells ∧ P.slots + 0 ≤ R.slots)
      (fun P _ v B => ∃ L, (v = some (.int (cs.getD i 0)) ∧ L = [] ∧ B.U.heap = h) ∧ B.locs = P.locs ++ L ∧ B.cells = P.cells + 0 ∧ B.slots = P.slots + 0) := by
  subst hj
  intro m meth c P g ig mk a X hg hsize hdg hW hn hp'
  obtain ⟨rfl, rfl, r1, r2⟩ := hp'
  have al : Z.vm.Alike P.U.vm := hZ.alike.trans X.warmed.alike
  obtain ⟨A, hx⟩ := txt_of wi al E V C K hc hb l2
  obtain ⟨v, B, X', ⟨⟨hv, hh⟩, hl, hk, hs⟩, st⟩ := ChN.pays x t A cs.length (fun j => cs.getD j 0) z fm i (tabChN_of (movedChN hZ hw)) hfr hlo m meth c P g ig mk _ X hg hsize hdg hW hn ⟨r1, r2, rfl, hx, hi, sta_is al S, hz, sta_is al F, rf⟩
  exact ⟨v, B, X', ⟨[], ⟨hv, rfl, hh⟩, hl, hk, hs⟩, st⟩
/-- what backV says of its String, as the contracts of this text ask it: cs's low bytes, coder 0 -/
theorem codOf {cs : List Int32} {n : Nat} (hn : cs.length = n) (hb : ∀ c ∈ cs, ¬ 255 < c) : CodA cs 0 (Int32.ofNat n) ((cs.map lo8).map Value.int) := Or.inl ⟨rfl, by rw [hn], by simp [List.map_map, Function.comp_def], hb⟩
end StrChars.Road
end Jvm.Pilot.@@N@@
namespace Jvm.Pilot.@@N@@
open Jvm Jvm.ClassFile Sem Op Lib Jvm.Free Jvm.Stand Jvm.LawKit Jvm.RoadKit Bundle Jvm.Pilot.@@N@@.Jvm.D
abbrev y_0 : MethodName := ⟨"java/lang/StringUTF16", "putChar", "([BII)V"⟩
abbrev y_1 : MethodName := ⟨"java/lang/StringUTF16", "getChar", "([BI)C"⟩
abbrev y_2 : MethodName := ⟨"java/lang/StringUTF16", "newBytesLength", "(I)I"⟩
abbrev y_3 : MethodName := ⟨"java/lang/StringUTF16", "newBytesFor", "(I)[B"⟩
abbrev y_4 : MethodName := ⟨"java/lang/StringUTF16", "toBytes", "([CII)[B"⟩
abbrev y_5 : MethodName := ⟨"java/lang/StringUTF16", "compress", "([CI[BII)I"⟩
abbrev y_6 : MethodName := ⟨"java/lang/StringUTF16", "compress", "([CII)[B"⟩
abbrev y_7 : MethodName := ⟨"java/lang/StringUTF16", "coderFromArrayLen", "([BI)B"⟩
abbrev y_8 : MethodName := ⟨"java/lang/String", "<init>", "([CIILjava/lang/Void;)V"⟩
abbrev y_9 : MethodName := ⟨"java/lang/String", "<init>", "([C)V"⟩
abbrev y_10 : MethodName := ⟨"com/example/even_counter/evencounter/CounterIdCompareToPinLaw", "nameChar", "(I)C"⟩
abbrev y_11 : MethodName := ⟨"com/example/even_counter/evencounter/CounterIdCompareToPinLaw", "keyCp", "(I)I"⟩
abbrev y_12 : MethodName := ⟨"com/example/even_counter/evencounter/CounterIdCompareToPinLaw", "hi", "(I)C"⟩
abbrev y_13 : MethodName := ⟨"com/example/even_counter/evencounter/CounterIdCompareToPinLaw", "lo", "(I)C"⟩
abbrev y_14 : MethodName := ⟨"com/example/even_counter/evencounter/CounterIdCompareToPinLaw", "nameString", "(ICC)Ljava/lang/String;"⟩
abbrev y_15 : MethodName := ⟨"com/example/even_counter/evencounter/CounterIdCompareToPinLaw", "keyString", "(III)Ljava/lang/String;"⟩
abbrev y_16 : MethodName := ⟨"jdk/internal/util/Preconditions", "checkIndex", "(IILjava/util/function/BiFunction;)I"⟩
abbrev y_17 : MethodName := ⟨"java/lang/String", "checkIndex", "(II)V"⟩
abbrev y_18 : MethodName := ⟨"java/lang/String", "isLatin1", "()Z"⟩
abbrev y_19 : MethodName := ⟨"java/lang/Character", "isHighSurrogate", "(C)Z"⟩
abbrev y_20 : MethodName := ⟨"java/lang/Character", "isLowSurrogate", "(C)Z"⟩
abbrev y_21 : MethodName := ⟨"java/lang/Character", "toCodePoint", "(CC)I"⟩
abbrev y_22 : MethodName := ⟨"java/lang/Character", "charCount", "(I)I"⟩
abbrev y_23 : MethodName := ⟨"java/lang/StringUTF16", "codePointAt", "([BIIZ)I"⟩
abbrev y_24 : MethodName := ⟨"java/lang/StringUTF16", "codePointAt", "([BII)I"⟩
abbrev y_25 : MethodName := ⟨"java/lang/String", "codePointAt", "(I)I"⟩
abbrev y_26 : MethodName := ⟨"java/util/Objects", "requireNonNull", "(Ljava/lang/Object;Ljava/lang/String;)Ljava/lang/Object;"⟩
abbrev y_27 : MethodName := ⟨"com/example/even_counter/evencounter/CounterId", "isNameCharacter", "(C)Z"⟩
abbrev y_28 : MethodName := ⟨"com/example/even_counter/evencounter/CounterId", "checkName", "(Ljava/lang/String;)V"⟩
abbrev y_29 : MethodName := ⟨"java/lang/String", "isEmpty", "()Z"⟩
abbrev y_30 : MethodName := ⟨"java/lang/String", "length", "()I"⟩
abbrev y_31 : MethodName := ⟨"java/lang/String", "charAt", "(I)C"⟩
abbrev y_32 : MethodName := ⟨"com/example/even_counter/evencounter/CounterId", "checkKey", "(Ljava/lang/String;)V"⟩
abbrev y_33 : MethodName := ⟨"java/lang/Record", "<init>", "()V"⟩
abbrev y_34 : MethodName := ⟨"com/example/even_counter/evencounter/CounterId", "<init>", "(Ljava/lang/String;Ljava/lang/String;)V"⟩
abbrev y_35 : MethodName := ⟨"java/lang/Integer", "compare", "(II)I"⟩
abbrev y_36 : MethodName := ⟨"com/example/even_counter/evencounter/CounterId", "compareCodePoints", "(Ljava/lang/String;Ljava/lang/String;)I"⟩
abbrev y_37 : MethodName := ⟨"com/example/even_counter/evencounter/CounterId", "compareTo", "(Lcom/example/even_counter/evencounter/CounterId;)I"⟩
abbrev y_38 : MethodName := ⟨"com/example/even_counter/evencounter/CounterIdCompareToPinLaw", "cmpSeq", "(IIIIII)I"⟩
abbrev y_39 : MethodName := ⟨"com/example/even_counter/evencounter/CounterIdCompareToPinLaw", "sign", "(I)I"⟩
abbrev r_m0 : Room := { frames := 0, cells := 0, slots := 0, locals := 0 }
abbrev r_m1 : Room := { frames := 1, cells := 1, slots := 8, locals := 12 }
abbrev r_m2 : Room := { frames := 2, cells := 1, slots := 8, locals := 24 }
abbrev r_m3 : Room := { frames := 3, cells := 2, slots := 12, locals := 40 }
abbrev r_m4 : Room := { frames := 4, cells := 2, slots := 12, locals := 57 }
abbrev r_m5 : Room := { frames := 5, cells := 2, slots := 12, locals := 74 }
abbrev r_m6 : Room := { frames := 4, cells := 3, slots := 20, locals := 70 }
abbrev r_m7 : Room := { frames := 6, cells := 4, slots := 20, locals := 90 }
abbrev r_m8 : Room := { frames := 1, cells := 0, slots := 0, locals := 20 }
abbrev r_m9 : Room := { frames := 1, cells := 0, slots := 0, locals := 30 }
abbrev r_m10 : Room := { frames := 2, cells := 0, slots := 0, locals := 50 }
abbrev r_m11 : Room := { frames := 3, cells := 0, slots := 0, locals := 66 }
abbrev r_m12 : Room := { frames := 4, cells := 2, slots := 120, locals := 60 }
abbrev r_m13 : Room := { frames := 4, cells := 2, slots := 116, locals := 82 }
abbrev r_m14 : Room := { frames := 1, cells := 0, slots := 0, locals := 12 }
abbrev r_m15 : Room := { frames := 5, cells := 4, slots := 236, locals := 100 }
abbrev r_m16 : Room := { frames := 4, cells := 0, slots := 0, locals := 82 }
abbrev r_m17 : Room := { frames := 5, cells := 0, slots := 0, locals := 100 }
/-- from the state A the run comes to an end with P -/
def Gl (tb : Tables) (e : Env) (below : List Frame) (P : Outcome → State → Prop) (A : State) : Prop := ∃ U o, Steps tb e below A U ∧ U.status = .running ∧ Ended U below o ∧ P o U
theorem Gl.go {tb : Tables} {e : Env} {below : List Frame} {P : Outcome → State → Prop} {A B : State} (h : ∀ t, Steps tb e below B t → Steps tb e below A t) (k : Gl tb e below P B) : Gl tb e below P A := by
  obtain ⟨U, o, h1, r⟩ := k
  exact ⟨U, o, h U h1, r⟩
theorem Gl.st {tb : Tables} {e : Env} {below : List Frame} {P : Outcome → State → Prop} {A B : State} (h : Steps tb e below A B) (k : Gl tb e below P B) : Gl tb e below P A := by
  obtain ⟨U, o, h1, r⟩ := k
  exact ⟨U, o, h.trans h1, r⟩
/-- from the state A the run comes to the frame F over a state of which P holds -/
def Sg (P : State → Prop) (F : JFrame) (tb : Tables) (e : Env) (below : List Frame) (A : State) : Prop := ∃ T, P T ∧ ∀ t, Steps tb e below (T.setTop F) t → Steps tb e below A t
theorem Sg.go {P : State → Prop} {F : JFrame} {tb : Tables} {e : Env} {below : List Frame} {A B : State} (h : ∀ t, Steps tb e below B t → Steps tb e below A t) (k : Sg P F tb e below B) : Sg P F tb e below A := by
  obtain ⟨T, h1, h2⟩ := k
  exact ⟨T, h1, fun t ht => h t (h2 t ht)⟩
theorem Sg.st {P : State → Prop} {F : JFrame} {tb : Tables} {e : Env} {below : List Frame} {A B : State} (h : Steps tb e below A B) (k : Sg P F tb e below B) : Sg P F tb e below A := by
  obtain ⟨T, h1, h2⟩ := k
  exact ⟨T, h1, fun t ht => h.trans (h2 t ht)⟩
/-- what is shown of a state holds also where the run comes from -/
def Cl (tb : Tables) (e : Env) (below : List Frame) (K : State → Prop) : Prop := ∀ A B, (∀ t, Steps tb e below B t → Steps tb e below A t) → K B → K A
theorem Gl.cl {tb : Tables} {e : Env} {below : List Frame} {P : Outcome → State → Prop} : Cl tb e below (Gl tb e below P) := fun _ _ h k => Gl.go h k
theorem Sg.cl {P : State → Prop} {F : JFrame} {tb : Tables} {e : Env} {below : List Frame} : Cl tb e below (Sg P F tb e below) := fun _ _ h k => Sg.go h k
section Glue
variable {p : Program} {l : Launch} {e : Env} {R : Room} {s : State} {m : MethodId} {args : Array Value} {below : List Frame} {meth : Method} {c : Code} {T : State} {locs : List Loc} {cells slots : Nat} {Z : State} {a0 : Array Value} {h : Heap} {K0 : State → Prop} {pc : Nat} {Ls : Array Slot} {Ks : List Value} {rest : List Value}
theorem gGetF {own R0 O n d host : String} {index : Nat} {a : Addr} {v : Value} (hG : Cl p.tables e below K0) (X : Stand p l e R s m args below meth c T locs cells slots) (hx : p.tables.exec = Jvm.exec) (hZ : Z.Warmed39 s.vm) (hown : s.vm.findClass own = some m.cls) (w : (Cond.fieldLink own index R0 n d).before a0 Z = true ∨ (Cond.fieldLinkNest own index R0 n d host).before a0 Z = true) (via : Via Z R0 O n d) (eT : T.heap = h) (F : Fld Z h a O n d v) (hg : m = m) (hs : Ks = .ref a :: rest) (hd : decode c.code pc = .ok (.getfield index, 3))
    (k : ∀ T', Stand p l e R s m args below meth c T' locs cells slots → T'.heap = h → K0 (T'.setTop (mkF m (pc + 3) (Ls) (v :: rest)))) : K0 (T.setTop (mkF m pc Ls Ks)) := by
  obtain ⟨T', X', e', st⟩ := getF (g := mkF m pc Ls Ks) X hx hZ hown w via eT F hg hs hd
  exact hG _ _ st (k T' X' e')
theorem gGetS {own R0 O n d host : String} {index : Nat} {v : Value} (hG : Cl p.tables e below K0) (X : Stand p l e R s m args below meth c T locs cells slots) (hx : p.tables.exec = Jvm.exec) (hZ : Z.Warmed39 s.vm) (hown : s.vm.findClass own = some m.cls) (w : (Cond.fieldLink own index R0 n d).before a0 Z = true ∨ (Cond.fieldLinkNest own index R0 n d host).before a0 Z = true) (via : Via Z R0 O n d) (eT : T.heap = h) (F : Sta Z h O n d v) (hg : m = m) (hd : decode c.code pc = .ok (.getstatic index, 3))
    (k : ∀ T', Stand p l e R s m args below meth c T' locs cells slots → T'.heap = h → K0 (T'.setTop (mkF m (pc + 3) (Ls) (v :: Ks)))) : K0 (T.setTop (mkF m pc Ls Ks)) := by
  obtain ⟨T', X', e', st⟩ := getS2 (g := mkF m pc Ls Ks) X hx hZ hown w via eT F hg hd
  exact hG _ _ st (k T' X' e')
theorem gPutF {own R0 O n d host C : String} {index kk : Nat} {ty : FieldType} {a : Addr} {v old : Value} (hG : Cl p.tables e below K0) (X : Stand p l e R s m args below meth c T locs cells slots) (hx : p.tables.exec = Jvm.exec) (hZ : Z.Warmed39 s.vm) (hown : s.vm.findClass own = some m.cls) (w : (Cond.fieldLink own index R0 n d).before a0 Z = true ∨ (Cond.fieldLinkNest own index R0 n d host).before a0 Z = true) (via : Via Z R0 O n d) (eT : T.heap = h) (F : Fld Z h a O n d old) (E : Exa Z h a C) (L : (Cond.lays C O n d).before a0 Z = true ∨ ((Cond.laysFinal C O n d).before a0 Z = true ∧ own = O ∧ meth.name = "<init>")) (wi : (Cond.instantiable C kk).before a0 Z = true) (hty : parseFieldDescriptor d = some ty) (hn : narrow ty v = v) (hf : fits ty v = true) (hg : m = m) (hs : Ks = v :: .ref a :: rest) (hd : decode c.code pc = .ok (.putfield index, 3))
    (k : ∀ T' h', Stand p l e R s m args below meth c T' (locs ++ [⟨a, Jvm.RoadKit.slotOf Z O n d⟩]) cells slots → T'.heap = h' → Wr h h' a (Jvm.RoadKit.slotOf Z O n d) v → K0 (T'.setTop (mkF m (pc + 3) (Ls) (rest)))) : K0 (T.setTop (mkF m pc Ls Ks)) := by
  obtain ⟨T', h', X', e', W, st⟩ := putF (g := mkF m pc Ls Ks) X hx hZ hown w via eT F E L wi hty hn hf hg hs hd
  exact hG _ _ st (k T' h' X' e' W)
theorem gPutFN {own R0 O n d C : String} {index kk : Nat} {ty : FieldType} {a : Addr} {v v' old : Value} (hG : Cl p.tables e below K0) (X : Stand p l e R s m args below meth c T locs cells slots) (hx : p.tables.exec = Jvm.exec) (hZ : Z.Warmed39 s.vm) (hown : s.vm.findClass own = some m.cls) (w : (Cond.fieldLink own index R0 n d).before a0 Z = true) (via : Via Z R0 O n d) (eT : T.heap = h) (F : Fld Z h a O n d old) (E : Exa Z h a C) (L : (Cond.lays C O n d).before a0 Z = true ∨ ((Cond.laysFinal C O n d).before a0 Z = true ∧ own = O ∧ meth.name = "<init>")) (wi : (Cond.instantiable C kk).before a0 Z = true) (hty : parseFieldDescriptor d = some ty) (hn : narrow ty v = v') (hf : fits ty v' = true) (hg : m = m) (hs : Ks = v :: .ref a :: rest) (hd : decode c.code pc = .ok (.putfield index, 3))
    (k : ∀ T' h', Stand p l e R s m args below meth c T' (locs ++ [⟨a, Jvm.RoadKit.slotOf Z O n d⟩]) cells slots → T'.heap = h' → Wr h h' a (Jvm.RoadKit.slotOf Z O n d) v' → K0 (T'.setTop (mkF m (pc + 3) (Ls) (rest)))) : K0 (T.setTop (mkF m pc Ls Ks)) := by
  obtain ⟨T', h', X', e', W, st⟩ := putFN (g := mkF m pc Ls Ks) X hx hZ hown w via eT F E L wi hty hn hf hg hs hd
  exact hG _ _ st (k T' h' X' e' W)
theorem gCast {own K : String} {index : Nat} {a : Addr} (hG : Cl p.tables e below K0) (X : Stand p l e R s m args below meth c T locs cells slots) (hx : p.tables.exec = Jvm.exec) (hZ : Z.Warmed39 s.vm) (hown : s.vm.findClass own = some m.cls) (w : (Cond.classLink own index K).before a0 Z = true) (eT : T.heap = h) (F : Ins Z h a K true) (hg : m = m) (hs : Ks = .ref a :: rest) (hd : decode c.code pc = .ok (.checkcast index, 3))
    (k : ∀ T', Stand p l e R s m args below meth c T' locs cells slots → T'.heap = h → K0 (T'.setTop (mkF m (pc + 3) (Ls) (Ks)))) : K0 (T.setTop (mkF m pc Ls Ks)) := by
  obtain ⟨T', X', e', st⟩ := castY (g := mkF m pc Ls Ks) X hx hZ hown w eT F hg hs hd
  exact hG _ _ st (k T' X' e')
theorem gInst {own K : String} {index : Nat} {a : Addr} (hG : Cl p.tables e below K0) (X : Stand p l e R s m args below meth c T locs cells slots) (hx : p.tables.exec = Jvm.exec) (hZ : Z.Warmed39 s.vm) (hown : s.vm.findClass own = some m.cls) (w : (Cond.classLink own index K).before a0 Z = true) (eT : T.heap = h) (F : Ins Z h a K true) (hg : m = m) (hs : Ks = .ref a :: rest) (hd : decode c.code pc = .ok (.instanceof index, 3))
    (k : ∀ T', Stand p l e R s m args below meth c T' locs cells slots → T'.heap = h → K0 (T'.setTop (mkF m (pc + 3) (Ls) (.int 1 :: rest)))) : K0 (T.setTop (mkF m pc Ls Ks)) := by
  obtain ⟨T', X', e', st⟩ := instY (g := mkF m pc Ls Ks) X hx hZ hown w eT F hg hs hd
  exact hG _ _ st (k T' X' e')
theorem gInit {own : String} {idx : Nat} {a : Addr} {W : Nat} (hG : Cl p.tables e below K0) (X : Stand p l e R s m args below meth c T locs cells slots) (hx : p.tables.exec = Jvm.exec) (hZ : Z.Warmed39 s.vm) (hown : s.vm.findClass own = some m.cls) (w1 : (Cond.methodLink own idx Lib.objectInit).before a0 Z = true) (w2 : (Cond.instanceMethod Lib.objectInit).before a0 Z = true) (w3 : (Cond.code Lib.objectInit ⟨#[0xb1]⟩ 1 none).before a0 Z = true) (eT : T.heap = h) (hg : m = m) (hsize : Ls.size = c.maxLocals) (hs : Ks = .ref a :: rest) (hd : decode c.code pc = .ok (.invokespecial idx, 3)) (hf : 1 ≤ R.frames) (hW : 2 * 0 + (rest.map fun v => v.category).sum ≤ W) (hl : W + 12 ≤ R.locals)
    (k : ∀ T', Stand p l e R s m args below meth c T' locs cells slots → T'.heap = h → K0 (T'.setTop (mkF m (pc + 3) (Ls) (rest)))) : K0 (T.setTop (mkF m pc Ls Ks)) := by
  obtain ⟨T', X', e', st⟩ := initO (g := mkF m pc Ls Ks) X hx hZ hown w1 w2 w3 eT hg hsize hs hd hf hW hl
  exact hG _ _ st (k T' X' e')
theorem gNew {own C : String} {index n : Nat} (hG : Cl p.tables e below K0) (X : Stand p l e R s m args below meth c T locs cells slots) (hx : p.tables.exec = Jvm.exec) (hZ : Z.Warmed39 s.vm) (hown : s.vm.findClass own = some m.cls) (w : (Cond.classLink own index C).before a0 Z = true) (wi : (Cond.instantiable C n).before a0 Z = true) (wz : (Cond.initialized C).before a0 Z = true) (eT : T.heap = h) (hg : m = m) (hd : decode c.code pc = .ok (.new index, 3)) (hc : cells + 1 ≤ R.cells) (hl : slots + n ≤ R.slots)
    (k : ∀ T' h' b, b = h.size → Stand p l e R s m args below meth c T' locs (cells + 1) (slots + n) → T'.heap = h' → Ext h h' → Exa Z h' b C → (∀ {O nm d : String} {ty : FieldType}, Laid Z a0 C O nm d → parseFieldDescriptor d = some ty → Fld Z h' b O nm d (defaultValue ty)) → K0 (T'.setTop (mkF m (pc + 3) (Ls) (.ref b :: Ks)))) : K0 (T.setTop (mkF m pc Ls Ks)) := by
  obtain ⟨T', h', X', e', E, A, D, -, st⟩ := newO (g := mkF m pc Ls Ks) X hx hZ hown w wi wz eT hg hd hc hl
  exact hG _ _ st (k T' h' _ rfl X' e' E A D)
theorem gNewP {aty : ArrayType} {n : Int32} {cap : Nat} (hG : Cl p.tables e below K0) (X : Stand p l e R s m args below meth c T locs cells slots) (hx : p.tables.exec = Jvm.exec) (hZ : Z.Warmed39 s.vm) (w : (Cond.arrayClass (newarray.typeOf aty)).before a0 Z = true) (eT : T.heap = h) (hg : m = m) (hd : decode c.code pc = .ok (.newarray aty, 2)) (hs : Ks = .int n :: rest) (hn : ¬ n < 0) (hcap : n.toNatClampNeg ≤ cap) (hb : cap * 8 ≤ 536870912) (hc : cells + 1 ≤ R.cells) (hl : slots + cap ≤ R.slots)
    (k : ∀ T' h' b cA, b = h.size → Stand p l e R s m args below meth c T' locs (cells + 1) (slots + cap) → T'.heap = h' → Ext h h' → Arr Z h' b (newA cA (newarray.typeOf aty) n) (newarray.typeOf aty) → K0 (T'.setTop (mkF m (pc + 2) (Ls) (.ref b :: rest)))) : K0 (T.setTop (mkF m pc Ls Ks)) := by
  obtain ⟨T', h', cA, X', e', E, A, st⟩ := newP (g := mkF m pc Ls Ks) X hx hZ w eT hg hd hs hn hcap hb hc hl
  exact hG _ _ st (k T' h' _ cA rfl X' e' E A)
theorem gNewPE {aty : ArrayType} {n : Int32} {cap : Nat} {ad : String} (hG : Cl p.tables e below K0) (X : Stand p l e R s m args below meth c T locs cells slots) (hx : p.tables.exec = Jvm.exec) (hZ : Z.Warmed39 s.vm) (w : (Cond.arrayClass (newarray.typeOf aty)).before a0 Z = true) (eT : T.heap = h) (hg : m = m) (hd : decode c.code pc = .ok (.newarray aty, 2)) (hs : Ks = .int n :: rest) (hn : ¬ n < 0) (hcap : n.toNatClampNeg ≤ cap) (hb : cap * 8 ≤ 536870912) (hc : cells + 1 ≤ R.cells) (hl : slots + cap ≤ R.slots) (had : "[" ++ (newarray.typeOf aty).toString = ad)
    (k : ∀ T' h' b cA, b = h.size → Stand p l e R s m args below meth c T' locs (cells + 1) (slots + cap) → T'.heap = h' → Ext h h' → Arr Z h' b (newA cA (newarray.typeOf aty) n) (newarray.typeOf aty) → Exa Z h' b ad → K0 (T'.setTop (mkF m (pc + 2) (Ls) (.ref b :: rest)))) : K0 (T.setTop (mkF m pc Ls Ks)) := by
  obtain ⟨T', h', cA, X', e', E, A, B, st⟩ := newPE (g := mkF m pc Ls Ks) X hx hZ w eT hg hd hs hn hcap hb hc hl had
  exact hG _ _ st (k T' h' _ cA rfl X' e' E A B)
theorem gstC {a : Addr} {cl : Cell} {j : Int32} {x : Int32} (hG : Cl p.tables e below K0) (X : Stand p l e R s m args below meth c T locs cells slots) (hx : p.tables.exec = Jvm.exec) (hZ : Z.Warmed39 s.vm) (eT : T.heap = h) (A : Arr Z h a cl .char) (hj : ¬ (j < 0 ∨ cl.slots.size ≤ j.toNatClampNeg)) (hg : m = m) (hs : Ks = .int x :: .int j :: .ref a :: rest) (hd : decode c.code pc = .ok (.castore, 1))
    (k : ∀ T' h', Stand p l e R s m args below meth c T' (locs ++ [⟨a, j.toNatClampNeg⟩]) cells slots → T'.heap = h' → Wr h h' a j.toNatClampNeg (.int (nar .char x)) → K0 (T'.setTop (mkF m (pc + 1) (Ls) (rest)))) : K0 (T.setTop (mkF m pc Ls Ks)) := by
  obtain ⟨T', h', X', e', W, st⟩ := stC (g := mkF m pc Ls Ks) X hx hZ eT A hj hg hs hd
  exact hG _ _ st (k T' h' X' e' W)
theorem gstI {a : Addr} {cl : Cell} {j : Int32} {x : Int32} (hG : Cl p.tables e below K0) (X : Stand p l e R s m args below meth c T locs cells slots) (hx : p.tables.exec = Jvm.exec) (hZ : Z.Warmed39 s.vm) (eT : T.heap = h) (A : Arr Z h a cl .int) (hj : ¬ (j < 0 ∨ cl.slots.size ≤ j.toNatClampNeg)) (hg : m = m) (hs : Ks = .int x :: .int j :: .ref a :: rest) (hd : decode c.code pc = .ok (.iastore, 1))
    (k : ∀ T' h', Stand p l e R s m args below meth c T' (locs ++ [⟨a, j.toNatClampNeg⟩]) cells slots → T'.heap = h' → Wr h h' a j.toNatClampNeg (.int x) → K0 (T'.setTop (mkF m (pc + 1) (Ls) (rest)))) : K0 (T.setTop (mkF m pc Ls Ks)) := by
  obtain ⟨T', h', X', e', W, st⟩ := stI (g := mkF m pc Ls Ks) X hx hZ eT A hj hg hs hd
  exact hG _ _ st (k T' h' X' e' W)
theorem gstB {a : Addr} {cl : Cell} {j : Int32} {x : Int32} (hG : Cl p.tables e below K0) (X : Stand p l e R s m args below meth c T locs cells slots) (hx : p.tables.exec = Jvm.exec) (hZ : Z.Warmed39 s.vm) (eT : T.heap = h) (A : Arr Z h a cl .byte) (hj : ¬ (j < 0 ∨ cl.slots.size ≤ j.toNatClampNeg)) (hg : m = m) (hs : Ks = .int x :: .int j :: .ref a :: rest) (hd : decode c.code pc = .ok (.bastore, 1))
    (k : ∀ T' h', Stand p l e R s m args below meth c T' (locs ++ [⟨a, j.toNatClampNeg⟩]) cells slots → T'.heap = h' → Wr h h' a j.toNatClampNeg (.int (nar .byte x)) → K0 (T'.setTop (mkF m (pc + 1) (Ls) (rest)))) : K0 (T.setTop (mkF m pc Ls Ks)) := by
  obtain ⟨T', h', X', e', W, st⟩ := stB (g := mkF m pc Ls Ks) X hx hZ eT A hj hg hs hd
  exact hG _ _ st (k T' h' X' e' W)
theorem gstJ {a : Addr} {cl : Cell} {j : Int32} {x : Int64} (hG : Cl p.tables e below K0) (X : Stand p l e R s m args below meth c T locs cells slots) (hx : p.tables.exec = Jvm.exec) (hZ : Z.Warmed39 s.vm) (eT : T.heap = h) (A : Arr Z h a cl .long) (hj : ¬ (j < 0 ∨ cl.slots.size ≤ j.toNatClampNeg)) (hg : m = m) (hs : Ks = .long x :: .int j :: .ref a :: rest) (hd : decode c.code pc = .ok (.lastore, 1))
    (k : ∀ T' h', Stand p l e R s m args below meth c T' (locs ++ [⟨a, j.toNatClampNeg⟩]) cells slots → T'.heap = h' → Wr h h' a j.toNatClampNeg (.long x) → K0 (T'.setTop (mkF m (pc + 1) (Ls) (rest)))) : K0 (T.setTop (mkF m pc Ls Ks)) := by
  obtain ⟨T', h', X', e', W, st⟩ := stJ (g := mkF m pc Ls Ks) X hx hZ eT A hj hg hs hd
  exact hG _ _ st (k T' h' X' e' W)
theorem g_iaload {a : Addr} {cl : Cell} {j : Int32} {v : Value} (hG : Cl p.tables e below K0) (X : Stand p l e R s m args below meth c T locs cells slots) (hx : p.tables.exec = Jvm.exec) (hZ : Z.Warmed39 s.vm) (eT : T.heap = h) (A : Arr Z h a cl .int) (hj : ¬ (j < 0 ∨ cl.slots.size ≤ j.toNatClampNeg)) (hv : cl.slots[j.toNatClampNeg]? = some v) (hg : m = m) (hs : Ks = .int j :: .ref a :: rest) (hd : decode c.code pc = .ok (.iaload, 1))
    (k : K0 (T.setTop (mkF m (pc + 1) (Ls) (v :: rest)))) : K0 (T.setTop (mkF m pc Ls Ks)) :=
  hG _ _ (X.iaload (g := mkF m pc Ls Ks) hx (by rw [eT]; exact A.1) (State.isArrayOf_alike hZ.alike A.2.1) A.2.2 hj hv hg hs hd) k
theorem g_laload {a : Addr} {cl : Cell} {j : Int32} {v : Value} (hG : Cl p.tables e below K0) (X : Stand p l e R s m args below meth c T locs cells slots) (hx : p.tables.exec = Jvm.exec) (hZ : Z.Warmed39 s.vm) (eT : T.heap = h) (A : Arr Z h a cl .long) (hj : ¬ (j < 0 ∨ cl.slots.size ≤ j.toNatClampNeg)) (hv : cl.slots[j.toNatClampNeg]? = some v) (hg : m = m) (hs : Ks = .int j :: .ref a :: rest) (hd : decode c.code pc = .ok (.laload, 1))
    (k : K0 (T.setTop (mkF m (pc + 1) (Ls) (v :: rest)))) : K0 (T.setTop (mkF m pc Ls Ks)) :=
  hG _ _ (X.laload (g := mkF m pc Ls Ks) hx (by rw [eT]; exact A.1) (State.isArrayOf_alike hZ.alike A.2.1) A.2.2 hj hv hg hs hd) k
theorem g_caload {a : Addr} {cl : Cell} {j : Int32} {v : Value} (hG : Cl p.tables e below K0) (X : Stand p l e R s m args below meth c T locs cells slots) (hx : p.tables.exec = Jvm.exec) (hZ : Z.Warmed39 s.vm) (eT : T.heap = h) (A : Arr Z h a cl .char) (hj : ¬ (j < 0 ∨ cl.slots.size ≤ j.toNatClampNeg)) (hv : cl.slots[j.toNatClampNeg]? = some v) (hg : m = m) (hs : Ks = .int j :: .ref a :: rest) (hd : decode c.code pc = .ok (.caload, 1))
    (k : K0 (T.setTop (mkF m (pc + 1) (Ls) (v :: rest)))) : K0 (T.setTop (mkF m pc Ls Ks)) :=
  hG _ _ (X.caload (g := mkF m pc Ls Ks) hx (by rw [eT]; exact A.1) (State.isArrayOf_alike hZ.alike A.2.1) A.2.2 hj hv hg hs hd) k
theorem g_baload {a : Addr} {cl : Cell} {j : Int32} {v : Value} (hG : Cl p.tables e below K0) (X : Stand p l e R s m args below meth c T locs cells slots) (hx : p.tables.exec = Jvm.exec) (hZ : Z.Warmed39 s.vm) (eT : T.heap = h) (A : Arr Z h a cl .byte) (hj : ¬ (j < 0 ∨ cl.slots.size ≤ j.toNatClampNeg)) (hv : cl.slots[j.toNatClampNeg]? = some v) (hg : m = m) (hs : Ks = .int j :: .ref a :: rest) (hd : decode c.code pc = .ok (.baload, 1))
    (k : K0 (T.setTop (mkF m (pc + 1) (Ls) (v :: rest)))) : K0 (T.setTop (mkF m pc Ls Ks)) :=
  hG _ _ (X.baloadBytes (g := mkF m pc Ls Ks) hx (by rw [eT]; exact A.1) (State.isArrayOf_alike hZ.alike A.2.1) A.2.2 hj hv hg hs hd) k
theorem g_aaload {a : Addr} {cl : Cell} {j : Int32} {v : Value} {ty : FieldType} (hG : Cl p.tables e below K0) (X : Stand p l e R s m args below meth c T locs cells slots) (hx : p.tables.exec = Jvm.exec) (hZ : Z.Warmed39 s.vm) (eT : T.heap = h) (A : Arr Z h a cl ty) (hty : ty.isReference = true) (hj : ¬ (j < 0 ∨ cl.slots.size ≤ j.toNatClampNeg)) (hv : cl.slots[j.toNatClampNeg]? = some v) (hg : m = m) (hs : Ks = .int j :: .ref a :: rest) (hd : decode c.code pc = .ok (.aaload, 1))
    (k : K0 (T.setTop (mkF m (pc + 1) (Ls) (v :: rest)))) : K0 (T.setTop (mkF m pc Ls Ks)) :=
  hG _ _ (X.aaload (g := mkF m pc Ls Ks) hx (by rw [eT]; exact A.1) (State.isArrayOf_alike hZ.alike A.2.1) hty A.2.2 hj hv hg hs hd) k
theorem gLen {a : Addr} {cl : Cell} {ty : FieldType} {z : Int32} (hG : Cl p.tables e below K0) (X : Stand p l e R s m args below meth c T locs cells slots) (hx : p.tables.exec = Jvm.exec) (hZ : Z.Warmed39 s.vm) (eT : T.heap = h) (A : Arr Z h a cl ty) (S : cl.slots.size = z.toNatClampNeg) (N : ¬ z < 0) (hg : m = m) (hs : Ks = .ref a :: rest) (hd : decode c.code pc = .ok (.arraylength, 1))
    (k : K0 (T.setTop (mkF m (pc + 1) (Ls) (.int z :: rest)))) : K0 (T.setTop (mkF m pc Ls Ks)) := by
  refine hG _ _ (X.arraylength (g := mkF m pc Ls Ks) hx (by rw [eT]; exact A.1) (State.isArrayOf_alike hZ.alike A.2.1) hg hs hd) ?_
  rw [len_of S N]
  exact k
theorem gStaticN {own : String} {index : Nat} {y : MethodName} {bytes : ByteArray} {maxL : Nat} {ret : Option FieldType} {W mc ms : Nat} {as' : Array Value} {Q : Option Value → Heap → List Loc → Prop} {argsL : List Value} (hG : Cl p.tables e below K0) (X : Stand p l e R s m args below meth c T locs cells slots) (hx : p.tables.exec = Jvm.exec) (hZ : Z.Warmed39 s.vm) (hown : s.vm.findClass own = some m.cls) (hlink : (Cond.methodLink own index y).before args s = true) (hstat : (Cond.static y).before args s = true) (hinit : (Cond.initialized y.cls).before args s = true) (hcode : (Cond.code y bytes maxL ret).before args s = true) (hy : y.cls ≠ "java/lang/invoke/MethodHandle" ∧ y.cls ≠ "java/lang/invoke/VarHandle") (hK : Back l R p e below s args y 3 W (fun A a => a = as' ∧ A.U.heap = h ∧ A.cells + mc ≤ R.cells ∧ A.slots + ms ≤ R.slots) (fun A _ v B => ∃ L, Q v B.U.heap L ∧ B.locs = A.locs ++ L ∧ B.cells = A.cells + mc ∧ B.slots = A.slots + ms)) (hg : m = m) (hsize : Ls.size = c.maxLocals) (hlen : ∀ sig, parseMethodDescriptor y.desc = some sig → argsL.length = sig.parameters.length) (hstack : Ks = argsL.reverse ++ rest) (hW : 2 * 0 + (rest.map fun v => v.category).sum ≤ W) (hdg : decode c.code pc = .ok (.invokestatic index, 3)) (has : argsL.toArray = as') (eT : T.heap = h) (hc : cells + mc ≤ R.cells) (hsl : slots + ms ≤ R.slots)
    (k : ∀ (v : Option Value) (T' : State) (L : List Loc), Q v T'.heap L → Stand p l e R s m args below meth c T' (locs ++ L) (cells + mc) (slots + ms) → K0 (T'.setTop (mkF m (pc + 3) (Ls) (v.toList ++ rest)))) : K0 (T.setTop (mkF m pc Ls Ks)) := by
  obtain ⟨v, vm₁, ⟨T', L', k', n'⟩, -, X', ⟨Lc, hQ, h1, h2, h3⟩, st⟩ := Jvm.LawKit.callS (g := mkF m pc Ls Ks) X hx hown hlink hstat hinit hcode hy hK hg hsize hlen hstack hW hdg (fun vm₁ hvm => ⟨has, eT, hc, hsl⟩)
  dsimp only [Pt.U, Pt.locs, Pt.cells, Pt.slots] at X' hQ h1 h2 h3 st
  subst h1 h2 h3
  exact hG _ _ st (k v T' Lc hQ X')
theorem gStaticS {own : String} {index : Nat} {y : MethodName} {bytes : ByteArray} {maxL : Nat} {ret : Option FieldType} {W mc ms : Nat} {as' : Array Value} {Q : Option Value → Heap → List Loc → Prop} {argsL : List Value} {vm0 : Vm} {k0 : Nat} (hG : Cl p.tables e below K0) (X : Stand p l e R (s.setVm vm0) m args below meth c T locs cells slots) (hx : p.tables.exec = Jvm.exec) (hZ : Z.Warmed39 (s.setVm vm0).vm) (hS : s.Since vm0 k0) (hk : k0 ≤ h.size) (hown : (s.setVm vm0).vm.findClass own = some m.cls) (hlink : (Cond.methodLink own index y).before args (s.setVm vm0) = true) (hstat : (Cond.static y).before args (s.setVm vm0) = true) (hinit : (Cond.initialized y.cls).before args (s.setVm vm0) = true) (hcode : (Cond.code y bytes maxL ret).before args (s.setVm vm0) = true) (hy : y.cls ≠ "java/lang/invoke/MethodHandle" ∧ y.cls ≠ "java/lang/invoke/VarHandle") (hK : BackS l R p e below (s.setVm vm0) args y 3 W (fun A a => a = as' ∧ A.U.heap = h ∧ A.cells + mc ≤ R.cells ∧ A.slots + ms ≤ R.slots) (fun A _ v B => ∃ L, Q v B.U.heap L ∧ B.locs = A.locs ++ L ∧ B.cells = A.cells + mc ∧ B.slots = A.slots + ms)) (hg : m = m) (hsize : Ls.size = c.maxLocals) (hlen : ∀ sig, parseMethodDescriptor y.desc = some sig → argsL.length = sig.parameters.length) (hstack : Ks = argsL.reverse ++ rest) (hW : 2 * 0 + (rest.map fun v => v.category).sum ≤ W) (hdg : decode c.code pc = .ok (.invokestatic index, 3)) (has : argsL.toArray = as') (eT : T.heap = h) (hc : cells + mc ≤ R.cells) (hsl : slots + ms ≤ R.slots)
    (k : ∀ (v : Option Value) (T' : State) (L : List Loc), Q v T'.heap L → Stand p l e R (s.setVm T'.vm) m args below meth c T' (locs ++ L) (cells + mc) (slots + ms) → s.Since T'.vm T'.heap.size → Z.Warmed39 (s.setVm T'.vm).vm → (s.setVm T'.vm).vm.findClass own = some m.cls → T'.heap.size ≤ T'.heap.size → K0 (T'.setTop (mkF m (pc + 3) (Ls) (v.toList ++ rest)))) : K0 (T.setTop (mkF m pc Ls Ks)) := by
  obtain ⟨v, vm₁, ⟨T', L', k', n'⟩, -, X', hS', gr, ⟨Lc, hQ, h1, h2, h3⟩, st⟩ := callSS (g := mkF m pc Ls Ks) X hx hown hlink hstat hinit hcode hy hK hg hsize hlen hstack hW hdg (fun vm₁ hvm => ⟨has, eT, hc, hsl⟩)
  dsimp only [Pt.U, Pt.locs, Pt.cells, Pt.slots] at X' hQ h1 h2 h3 st hS' gr
  subst h1 h2 h3
  obtain ⟨X2, hS2, hZ2, hown2⟩ := rebS hS (Nat.le_trans hk (Nat.le_of_eq (congrArg Array.size eT.symm))) X' hS' gr hZ hown
  exact hG _ _ (fun _ q => st.trans q) (k v T' Lc hQ X2 hS2 hZ2 hown2 (Nat.le_refl _))
theorem gStaticJ {own : String} {index : Nat} {y : MethodName} {bytes : ByteArray} {maxL : Nat} {ret : Option FieldType} {W mc ms : Nat} {as' : Array Value} {Q : Option Value → Heap → Vm → List Loc → Prop} {argsL : List Value} {vm0 : Vm} {k0 : Nat} {Φ : Vm → Prop} (hG : Cl p.tables e below K0) (X : Stand p l e R (s.setVm vm0) m args below meth c T locs cells slots) (hx : p.tables.exec = Jvm.exec) (hZ : Z.Warmed39 (s.setVm vm0).vm) (hS : s.Since vm0 k0) (hk : k0 ≤ h.size) (hown : (s.setVm vm0).vm.findClass own = some m.cls) (hlink : (Cond.methodLink own index y).before args (s.setVm vm0) = true) (hstat : (Cond.static y).before args (s.setVm vm0) = true) (hinit : (Cond.initialized y.cls).before args (s.setVm vm0) = true) (hcode : (Cond.code y bytes maxL ret).before args (s.setVm vm0) = true) (hy : y.cls ≠ "java/lang/invoke/MethodHandle" ∧ y.cls ≠ "java/lang/invoke/VarHandle") (hK : BackS l R p e below (s.setVm vm0) args y 3 W (fun A a => a = as' ∧ A.U.heap = h ∧ Φ A.U.vm ∧ A.cells + mc ≤ R.cells ∧ A.slots + ms ≤ R.slots) (fun A _ v B => ∃ L, Q v B.U.heap B.U.vm L ∧ B.locs = A.locs ++ L ∧ B.cells = A.cells + mc ∧ B.slots = A.slots + ms)) (hg : m = m) (hsize : Ls.size = c.maxLocals) (hlen : ∀ sig, parseMethodDescriptor y.desc = some sig → argsL.length = sig.parameters.length) (hstack : Ks = argsL.reverse ++ rest) (hW : 2 * 0 + (rest.map fun v => v.category).sum ≤ W) (hdg : decode c.code pc = .ok (.invokestatic index, 3)) (has : argsL.toArray = as') (eT : T.heap = h) (hΦ : ∀ vm₁, (s.setVm vm0).WarmedH vm₁ → Φ vm₁) (hc : cells + mc ≤ R.cells) (hsl : slots + ms ≤ R.slots)
    (k : ∀ (v : Option Value) (T' : State) (L : List Loc), Q v T'.heap T'.vm L → Stand p l e R (s.setVm T'.vm) m args below meth c T' (locs ++ L) (cells + mc) (slots + ms) → s.Since T'.vm T'.heap.size → Z.Warmed39 (s.setVm T'.vm).vm → (s.setVm T'.vm).vm.findClass own = some m.cls → T'.heap.size ≤ T'.heap.size → K0 (T'.setTop (mkF m (pc + 3) (Ls) (v.toList ++ rest)))) : K0 (T.setTop (mkF m pc Ls Ks)) := by
  obtain ⟨v, vm₁, ⟨T', L', k', n'⟩, -, X', hS', gr, ⟨Lc, hQ, h1, h2, h3⟩, st⟩ := callSS (g := mkF m pc Ls Ks) X hx hown hlink hstat hinit hcode hy hK hg hsize hlen hstack hW hdg (fun vm₁ hvm => ⟨has, eT, hΦ vm₁ hvm, hc, hsl⟩)
  dsimp only [Pt.U, Pt.locs, Pt.cells, Pt.slots] at X' hQ h1 h2 h3 st hS' gr
  subst h1 h2 h3
  obtain ⟨X2, hS2, hZ2, hown2⟩ := rebS hS (Nat.le_trans hk (Nat.le_of_eq (congrArg Array.size eT.symm))) X' hS' gr hZ hown
  exact hG _ _ (fun _ q => st.trans q) (k v T' Lc hQ X2 hS2 hZ2 hown2 (Nat.le_refl _))
theorem gSpecialN {own : String} {index : Nat} {y : MethodName} {bytes : ByteArray} {maxL : Nat} {b : Addr} {W mc ms : Nat} {as' : Array Value} {Q : Option Value → Heap → List Loc → Prop} {argsL : List Value} (hG : Cl p.tables e below K0) (X : Stand p l e R s m args below meth c T locs cells slots) (hx : p.tables.exec = Jvm.exec) (hZ : Z.Warmed39 s.vm) (hown : s.vm.findClass own = some m.cls) (hy1 : y.name = "<init>") (hlink : (Cond.methodLink own index y).before args s = true) (hinst : (Cond.instanceMethod y).before args s = true) (hcode : (Cond.code y bytes maxL none).before args s = true) (hy : y.cls ≠ "java/lang/invoke/MethodHandle" ∧ y.cls ≠ "java/lang/invoke/VarHandle") (hK : Back l R p e below s args y 3 W (fun A a => a = as' ∧ A.U.heap = h ∧ A.cells + mc ≤ R.cells ∧ A.slots + ms ≤ R.slots) (fun A _ v B => ∃ L, Q v B.U.heap L ∧ B.locs = A.locs ++ L ∧ B.cells = A.cells + mc ∧ B.slots = A.slots + ms)) (hg : m = m) (hsize : Ls.size = c.maxLocals) (hlen : ∀ sig, parseMethodDescriptor y.desc = some sig → argsL.length = sig.parameters.length) (hstack : Ks = argsL.reverse ++ .ref b :: rest) (hW : 2 * 0 + (rest.map fun v => v.category).sum ≤ W) (hdg : decode c.code pc = .ok (.invokespecial index, 3)) (has : (.ref b :: argsL).toArray = as') (eT : T.heap = h) (hc : cells + mc ≤ R.cells) (hsl : slots + ms ≤ R.slots)
    (k : ∀ (v : Option Value) (T' : State) (L : List Loc), Q v T'.heap L → Stand p l e R s m args below meth c T' (locs ++ L) (cells + mc) (slots + ms) → K0 (T'.setTop (mkF m (pc + 3) (Ls) (v.toList ++ rest)))) : K0 (T.setTop (mkF m pc Ls Ks)) := by
  obtain ⟨v, vm₁, ⟨T', L', k', n'⟩, -, X', ⟨Lc, hQ, h1, h2, h3⟩, st⟩ := X.specialBack (g := mkF m pc Ls Ks) hx hy1 hown hlink hinst hcode hy hK hg hsize (Steps.refl _) hlen hstack hW hdg (fun vm₁ hvm => ⟨has, eT, hc, hsl⟩)
  dsimp only [Pt.U, Pt.locs, Pt.cells, Pt.slots] at X' hQ h1 h2 h3 st
  subst h1 h2 h3
  exact hG _ _ (fun _ q => st.trans q) (k v T' Lc hQ X')
theorem gSpecialS {own : String} {index : Nat} {y : MethodName} {bytes : ByteArray} {maxL : Nat} {b : Addr} {W mc ms : Nat} {as' : Array Value} {Q : Option Value → Heap → List Loc → Prop} {argsL : List Value} {vm0 : Vm} {k0 : Nat} (hG : Cl p.tables e below K0) (X : Stand p l e R (s.setVm vm0) m args below meth c T locs cells slots) (hx : p.tables.exec = Jvm.exec) (hZ : Z.Warmed39 (s.setVm vm0).vm) (hS : s.Since vm0 k0) (hk : k0 ≤ h.size) (hown : (s.setVm vm0).vm.findClass own = some m.cls) (hy1 : y.name = "<init>") (hlink : (Cond.methodLink own index y).before args (s.setVm vm0) = true) (hinst : (Cond.instanceMethod y).before args (s.setVm vm0) = true) (hcode : (Cond.code y bytes maxL none).before args (s.setVm vm0) = true) (hy : y.cls ≠ "java/lang/invoke/MethodHandle" ∧ y.cls ≠ "java/lang/invoke/VarHandle") (hK : BackS l R p e below (s.setVm vm0) args y 3 W (fun A a => a = as' ∧ A.U.heap = h ∧ A.cells + mc ≤ R.cells ∧ A.slots + ms ≤ R.slots) (fun A _ v B => ∃ L, Q v B.U.heap L ∧ B.locs = A.locs ++ L ∧ B.cells = A.cells + mc ∧ B.slots = A.slots + ms)) (hg : m = m) (hsize : Ls.size = c.maxLocals) (hlen : ∀ sig, parseMethodDescriptor y.desc = some sig → argsL.length = sig.parameters.length) (hstack : Ks = argsL.reverse ++ .ref b :: rest) (hW : 2 * 0 + (rest.map fun v => v.category).sum ≤ W) (hdg : decode c.code pc = .ok (.invokespecial index, 3)) (has : (.ref b :: argsL).toArray = as') (eT : T.heap = h) (hc : cells + mc ≤ R.cells) (hsl : slots + ms ≤ R.slots)
    (k : ∀ (v : Option Value) (T' : State) (L : List Loc), Q v T'.heap L → Stand p l e R (s.setVm T'.vm) m args below meth c T' (locs ++ L) (cells + mc) (slots + ms) → s.Since T'.vm T'.heap.size → Z.Warmed39 (s.setVm T'.vm).vm → (s.setVm T'.vm).vm.findClass own = some m.cls → T'.heap.size ≤ T'.heap.size → K0 (T'.setTop (mkF m (pc + 3) (Ls) (v.toList ++ rest)))) : K0 (T.setTop (mkF m pc Ls Ks)) := by
  obtain ⟨v, vm₁, ⟨T', L', k', n'⟩, -, X', hS', gr, ⟨Lc, hQ, h1, h2, h3⟩, st⟩ := X.specialBackS (g := mkF m pc Ls Ks) hx hy1 hown hlink hinst hcode hy hK hg hsize (Steps.refl _) hlen hstack hW hdg (fun vm₁ hvm => ⟨has, eT, hc, hsl⟩)
  dsimp only [Pt.U, Pt.locs, Pt.cells, Pt.slots] at X' hQ h1 h2 h3 st hS' gr
  subst h1 h2 h3
  obtain ⟨X2, hS2, hZ2, hown2⟩ := rebS hS (Nat.le_trans hk (Nat.le_of_eq (congrArg Array.size eT.symm))) X' hS' gr hZ hown
  exact hG _ _ (fun _ q => st.trans q) (k v T' Lc hQ X2 hS2 hZ2 hown2 (Nat.le_refl _))
theorem gSpecialJ {own : String} {index : Nat} {y : MethodName} {bytes : ByteArray} {maxL : Nat} {b : Addr} {W mc ms : Nat} {as' : Array Value} {Q : Option Value → Heap → Vm → List Loc → Prop} {argsL : List Value} {vm0 : Vm} {k0 : Nat} {Φ : Vm → Prop} (hG : Cl p.tables e below K0) (X : Stand p l e R (s.setVm vm0) m args below meth c T locs cells slots) (hx : p.tables.exec = Jvm.exec) (hZ : Z.Warmed39 (s.setVm vm0).vm) (hS : s.Since vm0 k0) (hk : k0 ≤ h.size) (hown : (s.setVm vm0).vm.findClass own = some m.cls) (hy1 : y.name = "<init>") (hlink : (Cond.methodLink own index y).before args (s.setVm vm0) = true) (hinst : (Cond.instanceMethod y).before args (s.setVm vm0) = true) (hcode : (Cond.code y bytes maxL none).before args (s.setVm vm0) = true) (hy : y.cls ≠ "java/lang/invoke/MethodHandle" ∧ y.cls ≠ "java/lang/invoke/VarHandle") (hK : BackS l R p e below (s.setVm vm0) args y 3 W (fun A a => a = as' ∧ A.U.heap = h ∧ Φ A.U.vm ∧ A.cells + mc ≤ R.cells ∧ A.slots + ms ≤ R.slots) (fun A _ v B => ∃ L, Q v B.U.heap B.U.vm L ∧ B.locs = A.locs ++ L ∧ B.cells = A.cells + mc ∧ B.slots = A.slots + ms)) (hg : m = m) (hsize : Ls.size = c.maxLocals) (hlen : ∀ sig, parseMethodDescriptor y.desc = some sig → argsL.length = sig.parameters.length) (hstack : Ks = argsL.reverse ++ .ref b :: rest) (hW : 2 * 0 + (rest.map fun v => v.category).sum ≤ W) (hdg : decode c.code pc = .ok (.invokespecial index, 3)) (has : (.ref b :: argsL).toArray = as') (eT : T.heap = h) (hΦ : ∀ vm₁, (s.setVm vm0).WarmedH vm₁ → Φ vm₁) (hc : cells + mc ≤ R.cells) (hsl : slots + ms ≤ R.slots)
    (k : ∀ (v : Option Value) (T' : State) (L : List Loc), Q v T'.heap T'.vm L → Stand p l e R (s.setVm T'.vm) m args below meth c T' (locs ++ L) (cells + mc) (slots + ms) → s.Since T'.vm T'.heap.size → Z.Warmed39 (s.setVm T'.vm).vm → (s.setVm T'.vm).vm.findClass own = some m.cls → T'.heap.size ≤ T'.heap.size → K0 (T'.setTop (mkF m (pc + 3) (Ls) (v.toList ++ rest)))) : K0 (T.setTop (mkF m pc Ls Ks)) := by
  obtain ⟨v, vm₁, ⟨T', L', k', n'⟩, -, X', hS', gr, ⟨Lc, hQ, h1, h2, h3⟩, st⟩ := X.specialBackS (g := mkF m pc Ls Ks) hx hy1 hown hlink hinst hcode hy hK hg hsize (Steps.refl _) hlen hstack hW hdg (fun vm₁ hvm => ⟨has, eT, hΦ vm₁ hvm, hc, hsl⟩)
  dsimp only [Pt.U, Pt.locs, Pt.cells, Pt.slots] at X' hQ h1 h2 h3 st hS' gr
  subst h1 h2 h3
  obtain ⟨X2, hS2, hZ2, hown2⟩ := rebS hS (Nat.le_trans hk (Nat.le_of_eq (congrArg Array.size eT.symm))) X' hS' gr hZ hown
  exact hG _ _ (fun _ q => st.trans q) (k v T' Lc hQ X2 hS2 hZ2 hown2 (Nat.le_refl _))
theorem gVirtualN {own C : String} {index : Nat} {y z : MethodName} {b : Addr} {W mc ms : Nat} {as' : Array Value} {Q : Option Value → Heap → List Loc → Prop} {argsL : List Value} (hG : Cl p.tables e below K0) (X : Stand p l e R s m args below meth c T locs cells slots) (hx : p.tables.exec = Jvm.exec) (hZ : Z.Warmed39 s.vm) (hown : s.vm.findClass own = some m.cls) (hlink : (Cond.methodLink own index y).before args s = true) (hdecl : (Cond.declares y).before args s = true) (hnf : NotFace s y) (hsel : (Cond.selects C y z).before args s = true) (hinst : (Cond.instanceMethod z).before args s = true) (hy : y.cls ≠ "java/lang/invoke/MethodHandle" ∧ y.cls ≠ "java/lang/invoke/VarHandle") (E : Exa Z h b C) (hK : Back l R p e below s args z 3 W (fun A a => a = as' ∧ A.U.heap = h ∧ A.cells + mc ≤ R.cells ∧ A.slots + ms ≤ R.slots) (fun A _ v B => ∃ L, Q v B.U.heap L ∧ B.locs = A.locs ++ L ∧ B.cells = A.cells + mc ∧ B.slots = A.slots + ms)) (hg : m = m) (hsize : Ls.size = c.maxLocals) (hlen : ∀ sig, parseMethodDescriptor y.desc = some sig → argsL.length = sig.parameters.length) (hstack : Ks = argsL.reverse ++ .ref b :: rest) (hW : 2 * 0 + (rest.map fun v => v.category).sum ≤ W) (hdg : decode c.code pc = .ok (.invokevirtual index, 3)) (has : (.ref b :: argsL).toArray = as') (eT : T.heap = h) (hc : cells + mc ≤ R.cells) (hsl : slots + ms ≤ R.slots)
    (k : ∀ (v : Option Value) (T' : State) (L : List Loc), Q v T'.heap L → Stand p l e R s m args below meth c T' (locs ++ L) (cells + mc) (slots + ms) → K0 (T'.setTop (mkF m (pc + 3) (Ls) (v.toList ++ rest)))) : K0 (T.setTop (mkF m pc Ls Ks)) := by
  obtain ⟨cq, kq, q1, q2, q3⟩ := isOf hZ eT E
  obtain ⟨v, vm₁, ⟨T', L', k', n'⟩, -, X', ⟨Lc, hQ, h1, h2, h3⟩, st⟩ := X.virtualBack (g := mkF m pc Ls Ks) hx hown hlink hdecl hnf hsel hinst hy hK q1 q3 hg hsize (Steps.refl _) hlen hstack hW hdg (fun vm₁ hvm => ⟨has, eT, hc, hsl⟩)
  dsimp only [Pt.U, Pt.locs, Pt.cells, Pt.slots] at X' hQ h1 h2 h3 st
  subst h1 h2 h3
  exact hG _ _ (fun _ q => st.trans q) (k v T' Lc hQ X')
theorem gVirtualS {own C : String} {index : Nat} {y z : MethodName} {b : Addr} {W mc ms : Nat} {as' : Array Value} {Q : Option Value → Heap → List Loc → Prop} {argsL : List Value} {vm0 : Vm} {k0 : Nat} (hG : Cl p.tables e below K0) (X : Stand p l e R (s.setVm vm0) m args below meth c T locs cells slots) (hx : p.tables.exec = Jvm.exec) (hZ : Z.Warmed39 (s.setVm vm0).vm) (hS : s.Since vm0 k0) (hk : k0 ≤ h.size) (hown : (s.setVm vm0).vm.findClass own = some m.cls) (hlink : (Cond.methodLink own index y).before args (s.setVm vm0) = true) (hdecl : (Cond.declares y).before args (s.setVm vm0) = true) (hnf : NotFace (s.setVm vm0) y) (hsel : (Cond.selects C y z).before args (s.setVm vm0) = true) (hinst : (Cond.instanceMethod z).before args (s.setVm vm0) = true) (hy : y.cls ≠ "java/lang/invoke/MethodHandle" ∧ y.cls ≠ "java/lang/invoke/VarHandle") (E : Exa Z h b C) (hK : BackS l R p e below (s.setVm vm0) args z 3 W (fun A a => a = as' ∧ A.U.heap = h ∧ A.cells + mc ≤ R.cells ∧ A.slots + ms ≤ R.slots) (fun A _ v B => ∃ L, Q v B.U.heap L ∧ B.locs = A.locs ++ L ∧ B.cells = A.cells + mc ∧ B.slots = A.slots + ms)) (hg : m = m) (hsize : Ls.size = c.maxLocals) (hlen : ∀ sig, parseMethodDescriptor y.desc = some sig → argsL.length = sig.parameters.length) (hstack : Ks = argsL.reverse ++ .ref b :: rest) (hW : 2 * 0 + (rest.map fun v => v.category).sum ≤ W) (hdg : decode c.code pc = .ok (.invokevirtual index, 3)) (has : (.ref b :: argsL).toArray = as') (eT : T.heap = h) (hc : cells + mc ≤ R.cells) (hsl : slots + ms ≤ R.slots)
    (k : ∀ (v : Option Value) (T' : State) (L : List Loc), Q v T'.heap L → Stand p l e R (s.setVm T'.vm) m args below meth c T' (locs ++ L) (cells + mc) (slots + ms) → s.Since T'.vm T'.heap.size → Z.Warmed39 (s.setVm T'.vm).vm → (s.setVm T'.vm).vm.findClass own = some m.cls → T'.heap.size ≤ T'.heap.size → K0 (T'.setTop (mkF m (pc + 3) (Ls) (v.toList ++ rest)))) : K0 (T.setTop (mkF m pc Ls Ks)) := by
  obtain ⟨cq, kq, q1, q2, q3⟩ := isOf hZ eT E
  obtain ⟨v, vm₁, ⟨T', L', k', n'⟩, -, X', hS', gr, ⟨Lc, hQ, h1, h2, h3⟩, st⟩ := X.virtualBackS (g := mkF m pc Ls Ks) hx hown hlink hdecl hnf hsel hinst hy hK q1 q3 hg hsize (Steps.refl _) hlen hstack hW hdg (fun vm₁ hvm => ⟨has, eT, hc, hsl⟩)
  dsimp only [Pt.U, Pt.locs, Pt.cells, Pt.slots] at X' hQ h1 h2 h3 st hS' gr
  subst h1 h2 h3
  obtain ⟨X2, hS2, hZ2, hown2⟩ := rebS hS (Nat.le_trans hk (Nat.le_of_eq (congrArg Array.size eT.symm))) X' hS' gr hZ hown
  exact hG _ _ (fun _ q => st.trans q) (k v T' Lc hQ X2 hS2 hZ2 hown2 (Nat.le_refl _))
theorem gVirtualJ {own C : String} {index : Nat} {y z : MethodName} {b : Addr} {W mc ms : Nat} {as' : Array Value} {Q : Option Value → Heap → Vm → List Loc → Prop} {argsL : List Value} {vm0 : Vm} {k0 : Nat} {Φ : Vm → Prop} (hG : Cl p.tables e below K0) (X : Stand p l e R (s.setVm vm0) m args below meth c T locs cells slots) (hx : p.tables.exec = Jvm.exec) (hZ : Z.Warmed39 (s.setVm vm0).vm) (hS : s.Since vm0 k0) (hk : k0 ≤ h.size) (hown : (s.setVm vm0).vm.findClass own = some m.cls) (hlink : (Cond.methodLink own index y).before args (s.setVm vm0) = true) (hdecl : (Cond.declares y).before args (s.setVm vm0) = true) (hnf : NotFace (s.setVm vm0) y) (hsel : (Cond.selects C y z).before args (s.setVm vm0) = true) (hinst : (Cond.instanceMethod z).before args (s.setVm vm0) = true) (hy : y.cls ≠ "java/lang/invoke/MethodHandle" ∧ y.cls ≠ "java/lang/invoke/VarHandle") (E : Exa Z h b C) (hK : BackS l R p e below (s.setVm vm0) args z 3 W (fun A a => a = as' ∧ A.U.heap = h ∧ Φ A.U.vm ∧ A.cells + mc ≤ R.cells ∧ A.slots + ms ≤ R.slots) (fun A _ v B => ∃ L, Q v B.U.heap B.U.vm L ∧ B.locs = A.locs ++ L ∧ B.cells = A.cells + mc ∧ B.slots = A.slots + ms)) (hg : m = m) (hsize : Ls.size = c.maxLocals) (hlen : ∀ sig, parseMethodDescriptor y.desc = some sig → argsL.length = sig.parameters.length) (hstack : Ks = argsL.reverse ++ .ref b :: rest) (hW : 2 * 0 + (rest.map fun v => v.category).sum ≤ W) (hdg : decode c.code pc = .ok (.invokevirtual index, 3)) (has : (.ref b :: argsL).toArray = as') (eT : T.heap = h) (hΦ : ∀ vm₁, (s.setVm vm0).WarmedH vm₁ → Φ vm₁) (hc : cells + mc ≤ R.cells) (hsl : slots + ms ≤ R.slots)
    (k : ∀ (v : Option Value) (T' : State) (L : List Loc), Q v T'.heap T'.vm L → Stand p l e R (s.setVm T'.vm) m args below meth c T' (locs ++ L) (cells + mc) (slots + ms) → s.Since T'.vm T'.heap.size → Z.Warmed39 (s.setVm T'.vm).vm → (s.setVm T'.vm).vm.findClass own = some m.cls → T'.heap.size ≤ T'.heap.size → K0 (T'.setTop (mkF m (pc + 3) (Ls) (v.toList ++ rest)))) : K0 (T.setTop (mkF m pc Ls Ks)) := by
  obtain ⟨cq, kq, q1, q2, q3⟩ := isOf hZ eT E
  obtain ⟨v, vm₁, ⟨T', L', k', n'⟩, -, X', hS', gr, ⟨Lc, hQ, h1, h2, h3⟩, st⟩ := X.virtualBackS (g := mkF m pc Ls Ks) hx hown hlink hdecl hnf hsel hinst hy hK q1 q3 hg hsize (Steps.refl _) hlen hstack hW hdg (fun vm₁ hvm => ⟨has, eT, hΦ vm₁ hvm, hc, hsl⟩)
  dsimp only [Pt.U, Pt.locs, Pt.cells, Pt.slots] at X' hQ h1 h2 h3 st hS' gr
  subst h1 h2 h3
  obtain ⟨X2, hS2, hZ2, hown2⟩ := rebS hS (Nat.le_trans hk (Nat.le_of_eq (congrArg Array.size eT.symm))) X' hS' gr hZ hown
  exact hG _ _ (fun _ q => st.trans q) (k v T' Lc hQ X2 hS2 hZ2 hown2 (Nat.le_refl _))
theorem gVirtualUpN {own C owner : String} {index : Nat} {x y : MethodName} {b : Addr} {W mc ms : Nat} {as' : Array Value} {Q : Option Value → Heap → List Loc → Prop} {argsL : List Value} (hG : Cl p.tables e below K0) (X : Stand p l e R s m args below meth c T locs cells slots) (hx : p.tables.exec = Jvm.exec) (hZ : Z.Warmed39 s.vm) (hown : s.vm.findClass own = some m.cls) (hlink : (Cond.methodLink own index x).before args s = true) (hsame : (Cond.sameMethod x.cls owner x.name x.desc).before args s = true) (hdecl : (Cond.declares ⟨owner, x.name, x.desc⟩).before args s = true) (howner : owner ≠ "java/lang/invoke/MethodHandle" ∧ owner ≠ "java/lang/invoke/VarHandle") (hsel : (Cond.selects C x y).before args s = true) (hinst : (Cond.instanceMethod y).before args s = true) (E : Exa Z h b C) (hK : Back l R p e below s args y 3 W (fun A a => a = as' ∧ A.U.heap = h ∧ A.cells + mc ≤ R.cells ∧ A.slots + ms ≤ R.slots) (fun A _ v B => ∃ L, Q v B.U.heap L ∧ B.locs = A.locs ++ L ∧ B.cells = A.cells + mc ∧ B.slots = A.slots + ms)) (hg : m = m) (hsize : Ls.size = c.maxLocals) (hlen : ∀ sig, parseMethodDescriptor x.desc = some sig → argsL.length = sig.parameters.length) (hstack : Ks = argsL.reverse ++ .ref b :: rest) (hW : 2 * 0 + (rest.map fun v => v.category).sum ≤ W) (hdg : decode c.code pc = .ok (.invokevirtual index, 3)) (has : (.ref b :: argsL).toArray = as') (eT : T.heap = h) (hc : cells + mc ≤ R.cells) (hsl : slots + ms ≤ R.slots)
    (k : ∀ (v : Option Value) (T' : State) (L : List Loc), Q v T'.heap L → Stand p l e R s m args below meth c T' (locs ++ L) (cells + mc) (slots + ms) → K0 (T'.setTop (mkF m (pc + 3) (Ls) (v.toList ++ rest)))) : K0 (T.setTop (mkF m pc Ls Ks)) := by
  obtain ⟨cq, kq, q1, q2, q3⟩ := isOf hZ eT E
  obtain ⟨v, vm₁, ⟨T', L', k', n'⟩, -, X', ⟨Lc, hQ, h1, h2, h3⟩, st⟩ := X.virtualBackUp (g := mkF m pc Ls Ks) hx hown hlink hsame hdecl howner hsel hinst hK q1 q3 hg hsize (Steps.refl _) hlen hstack hW hdg (fun vm₁ hvm => ⟨has, eT, hc, hsl⟩)
  dsimp only [Pt.U, Pt.locs, Pt.cells, Pt.slots] at X' hQ h1 h2 h3 st
  subst h1 h2 h3
  exact hG _ _ (fun _ q => st.trans q) (k v T' Lc hQ X')
theorem gPrivN {own C : String} {index : Nat} {y : MethodName} {bytes : ByteArray} {maxL : Nat} {ret : Option FieldType} {b : Addr} {W mc ms : Nat} {as' : Array Value} {Q : Option Value → Heap → List Loc → Prop} {argsL : List Value} (hG : Cl p.tables e below K0) (X : Stand p l e R s m args below meth c T locs cells slots) (hx : p.tables.exec = Jvm.exec) (hZ : Z.Warmed39 s.vm) (hown : s.vm.findClass own = some m.cls) (hlink : (Cond.methodLink own index y).before args s = true) (hinst : (Cond.instanceMethod y).before args s = true) (hsel : (Cond.selects C y y).before args s = true) (hpriv : (Cond.privateMethod y).before args s = true) (hcode : (Cond.code y bytes maxL ret).before args s = true) (hy : y.cls ≠ "java/lang/invoke/MethodHandle" ∧ y.cls ≠ "java/lang/invoke/VarHandle") (E : Exa Z h b C) (hK : Back l R p e below s args y 3 W (fun A a => a = as' ∧ A.U.heap = h ∧ A.cells + mc ≤ R.cells ∧ A.slots + ms ≤ R.slots) (fun A _ v B => ∃ L, Q v B.U.heap L ∧ B.locs = A.locs ++ L ∧ B.cells = A.cells + mc ∧ B.slots = A.slots + ms)) (hg : m = m) (hsize : Ls.size = c.maxLocals) (hlen : ∀ sig, parseMethodDescriptor y.desc = some sig → argsL.length = sig.parameters.length) (hstack : Ks = argsL.reverse ++ .ref b :: rest) (hW : 2 * 0 + (rest.map fun v => v.category).sum ≤ W) (hdg : decode c.code pc = .ok (.invokevirtual index, 3)) (has : (.ref b :: argsL).toArray = as') (eT : T.heap = h) (hc : cells + mc ≤ R.cells) (hsl : slots + ms ≤ R.slots)
    (k : ∀ (v : Option Value) (T' : State) (L : List Loc), Q v T'.heap L → Stand p l e R s m args below meth c T' (locs ++ L) (cells + mc) (slots + ms) → K0 (T'.setTop (mkF m (pc + 3) (Ls) (v.toList ++ rest)))) : K0 (T.setTop (mkF m pc Ls Ks)) := by
  obtain ⟨cq, kq, q1, q2, cell, hcell, hcls, hstat⟩ := isOf hZ eT E
  obtain ⟨mk, methM, hnamed, hmethM, hstM, habM⟩ := Cond.instanceMethod_spec hinst
  obtain ⟨methM', cM, hmethM', -, -, -, -, -, -, hsigM⟩ := Cond.code_spec hnamed hcode
  cases hmethM.symm.trans hmethM'
  obtain ⟨c2, r2, m2, -, -, q3, -, kP, hkP, hkPi⟩ := Cond.selects_spec hsel
  cases hnamed.symm.trans q3
  have hselP : selectMethod e.platform s.vm cell.cls mk = .method mk := selectMethod_private hmethM (Cond.privateMethod_at hpriv mk methM hnamed hmethM)
  obtain ⟨vm₁, X₁, hstep₁⟩ := X.invokevirtual hx hown hlink hnamed hmethM hstM hkP hkPi hy (a := b) (cell := cell) hcell (fun q e => by rw [e] at hstat; cases hstat) hselP hmethM habM hkP hkPi (g := mkF m pc Ls Ks) hg (argsL := argsL) (rest := rest) (hlen _ hsigM) hstack hdg
  obtain ⟨v, ⟨T', L', k', n'⟩, X', ⟨Lc, hQ, h1, h2, h3⟩, st⟩ := hK m meth c ⟨T.setVm vm₁, locs, cells, slots⟩ (mkF m pc Ls rest) (.invokevirtual index) mk (.ref b :: argsL).toArray X₁ hg hsize hdg hW (X₁.named hnamed) ⟨has, eT, hc, hsl⟩
  dsimp only [Pt.U, Pt.locs, Pt.cells, Pt.slots] at X' hQ h1 h2 h3 st
  subst h1 h2 h3
  exact hG _ _ (fun _ q => (hstep₁ _ fun acts => by rw [doInvoke_state]; exact Steps.refl _).trans (st.trans q)) (k v T' Lc hQ X')
theorem gSuperN {own K : String} {index : Nat} {y : MethodName} {bytes : ByteArray} {maxL : Nat} {ret : Option FieldType} {b : Addr} {W mc ms : Nat} {as' : Array Value} {Q : Option Value → Heap → List Loc → Prop} {argsL : List Value} (hG : Cl p.tables e below K0) (X : Stand p l e R s m args below meth c T locs cells slots) (hx : p.tables.exec = Jvm.exec) (hZ : Z.Warmed39 s.vm) (hown : s.vm.findClass own = some m.cls) (w1 : (Cond.methodLink own index y).before a0 Z = true) (w2 : (Cond.sameMethod y.cls y.cls y.name y.desc).before a0 Z = true) (w3 : (Cond.instanceMethod y).before a0 Z = true) (w4 : (Cond.superclass own y.cls).before a0 Z = true) (hn : y.name ≠ "<init>") (wc : (Cond.code y bytes maxL ret).before a0 Z = true) (F : Ins Z h b K true) (hK : Back l R p e below s args y 3 W (fun A a => a = as' ∧ A.U.heap = h ∧ A.cells + mc ≤ R.cells ∧ A.slots + ms ≤ R.slots) (fun A _ v B => ∃ L, Q v B.U.heap L ∧ B.locs = A.locs ++ L ∧ B.cells = A.cells + mc ∧ B.slots = A.slots + ms)) (hg : m = m) (hsize : Ls.size = c.maxLocals) (hlen : ∀ sig, parseMethodDescriptor y.desc = some sig → argsL.length = sig.parameters.length) (hstack : Ks = argsL.reverse ++ .ref b :: rest) (hW : 2 * 0 + (rest.map fun v => v.category).sum ≤ W) (hdg : decode c.code pc = .ok (.invokespecial index, 3)) (has : (.ref b :: argsL).toArray = as') (eT : T.heap = h) (hc : cells + mc ≤ R.cells) (hsl : slots + ms ≤ R.slots)
    (k : ∀ (v : Option Value) (T' : State) (L : List Loc), Q v T'.heap L → Stand p l e R s m args below meth c T' (locs ++ L) (cells + mc) (slots + ms) → K0 (T'.setTop (mkF m (pc + 3) (Ls) (v.toList ++ rest)))) : K0 (T.setTop (mkF m pc Ls Ks)) := by
  obtain ⟨v, vm₁, ⟨T', L', k', n'⟩, -, X', ⟨Lc, hQ, h1, h2, h3⟩, st⟩ := superBack (g := mkF m pc Ls Ks) X hx hZ hown w1 w2 w3 w4 hn hK eT F hg hsize wc hlen hstack hW hdg (fun vm₁ hvm => ⟨has, eT, hc, hsl⟩)
  dsimp only [Pt.U, Pt.locs, Pt.cells, Pt.slots] at X' hQ h1 h2 h3 st
  subst h1 h2 h3
  exact hG _ _ (fun _ q => st.trans q) (k v T' Lc hQ X')
theorem gCopy {own : String} {index : Nat} {ka k' : ClassId} {ty ty' : FieldType} {z z' sp dp nn : Int32} {vs vd us : List Value} {dv dd : Value} {a b : Addr} {n0 W : Nat} (hG : Cl p.tables e below K0) (X : Stand p l e R s m args below meth c T locs cells slots) (hx : p.tables.exec = Jvm.exec) (hZ : Z.Warmed39 s.vm) (hown : s.vm.findClass own = some m.cls)
    (w1 : (Cond.methodLink own index Jvm.Stand.acN).before a0 Z = true) (w2 : (Cond.native Jvm.Stand.acN).before a0 Z = true) (w3 : (Cond.static Jvm.Stand.acN).before a0 Z = true) (w4 : (Cond.initialized "java/lang/System").before a0 Z = true) (eT : T.heap = h)
    (A : Arv Z h a ka ty z vs dv) (B : Arv Z h b k' ty' z' vd dd) (hty : (ty = ty' ∧ refKind ty = false) ∨ (refKind ty = true ∧ refKind ty' = true ∧ StoL Z h b us))
    (h1 : ¬ sp < 0) (h2 : ¬ dp < 0) (h3 : ¬ nn < 0) (h4 : sp.toNatClampNeg + nn.toNatClampNeg ≤ z.toNatClampNeg) (h5 : dp.toNatClampNeg + nn.toNatClampNeg ≤ z'.toNatClampNeg)
    (hus : us = (List.range nn.toNatClampNeg).map fun i => vs.getD (sp.toNatClampNeg + i) dv) (hl : dp.toNatClampNeg + nn.toNatClampNeg ≤ vd.length) (N : Fr n0 locs) (ge : n0 ≤ b)
    (hg : m = m) (hsize : Ls.size = c.maxLocals) (hs : Ks = .int nn :: .int dp :: .ref b :: .int sp :: .ref a :: rest) (hd : decode c.code pc = .ok (.invokestatic index, 3))
    (hf : 1 ≤ R.frames) (hW : 2 * 0 + (rest.map fun v => v.category).sum ≤ W) (hlo : W + (nativeFrameWords "java/lang/System" "arraycopy" 5 + 11) ≤ R.locals)
    (k : ∀ T' h' L, Stand p l e R s m args below meth c T' L cells slots → T'.heap = h' → Fr n0 L → Keep h h' [b] → Arv Z h' b k' ty' z' (vd.take dp.toNatClampNeg ++ us ++ vd.drop (dp.toNatClampNeg + nn.toNatClampNeg)) dd → K0 (T'.setTop (mkF m (pc + 3) (Ls) (rest)))) : K0 (T.setTop (mkF m pc Ls Ks)) := by
  obtain ⟨T', h', L, X', e', N', K', A', st⟩ := cpA (g := mkF m pc Ls Ks) X hx hZ hown w1 w2 w3 w4 eT A B hty h1 h2 h3 h4 h5 hus hl N ge hg hsize hs hd hf hW hlo
  exact hG _ _ st (k T' h' L X' e' N' K' A')
theorem own_same {C : String} {y z z' : MethodName} (hd : (Cond.declares y).before a0 Z = true) (hs : (Cond.selects C z z').before a0 Z = true) (hc : z'.cls = y.cls) (hy : y.cls ≠ "java/lang/invoke/MethodHandle" ∧ y.cls ≠ "java/lang/invoke/VarHandle") : (Cond.sameMethod y.cls y.cls y.name y.desc).before a0 Z = true := by
  obtain ⟨m, meth, hn, -, -, -⟩ := Cond.declares_spec hd
  obtain ⟨c, r, m', h1, h2, h3, h4, mk, h5, h6⟩ := Cond.selects_spec hs
  have f1 := findClass_of_methodNamed hn
  have f2 := findClass_of_methodNamed h3
  rw [hc, f1] at f2
  have e : m.cls = m'.cls := Option.some.inj f2
  have hf := State.methodFound?_of_named hn hy
  have hn' : Z.methodNamed? ⟨y.cls, y.name, y.desc⟩ = some m := hn
  have h5' : Z.vm.classes[m.cls]? = some mk := by rw [e]; exact h5
  simp only [Cond.before, Cond.holds, Cond.value, f1, hf, hn', h5']
  simp [h6]
theorem own_notFace {s : State} {args : Array Value} {C : String} {y z z' : MethodName} (hs : (Cond.selects C z z').before args s = true) (hc : z'.cls = y.cls) : NotFace s y := fun r0 h0 => by
  obtain ⟨c2, r2, m2, q1, q2, q3, q4, kP, hkP, hkPi⟩ := Cond.selects_spec hs
  have f1 := findClass_of_methodNamed h0
  have f2 := findClass_of_methodNamed q3
  rw [hc, f1] at f2
  have e : r0.cls = m2.cls := Option.some.inj f2
  exact ⟨kP, by rw [e]; exact hkP, hkPi⟩
end Glue
theorem zXS_aconstNull {tb : Tables} [Ours tb] {e : Env} {below : List Frame} {T target : State} {m : MethodId} {c : Code} {pc : Nat} {Ls : Array Slot} {Ks : List Value} (h : At T m c below) (hx : tb.exec = Jvm.exec) (hg : m = m) (hd : decode c.code pc = .ok (.aconst_null, 1)) (hr : Steps tb e below (T.setTop (mkF m (pc + 1) (Ls) (.null :: Ks))) target) : Steps tb e below (T.setTop (mkF m pc Ls Ks)) target :=
  Jvm.Free.XS.aconstNull (g := mkF m pc Ls Ks) h hx hg hd hr
theorem zXS_aload {tb : Tables} [Ours tb] {e : Env} {below : List Frame} {T target : State} {m : MethodId} {c : Code} {pc : Nat} {Ls : Array Slot} {Ks : List Value} (h : At T m c below) (hx : tb.exec = Jvm.exec) (hg : m = m) {k : Nat} {v : Value} (hd : decode c.code pc = .ok (.aload k, 2)) (hl : Ls[k]? = some (.val v)) (hv : v.isRef = true) (hr : Steps tb e below (T.setTop (mkF m (pc + 2) (Ls) (v :: Ks))) target) : Steps tb e below (T.setTop (mkF m pc Ls Ks)) target :=
  Jvm.Free.XS.aload (g := mkF m pc Ls Ks) h hx hg hd hl hv hr
theorem zXS_aloadN {tb : Tables} [Ours tb] {e : Env} {below : List Frame} {T target : State} {m : MethodId} {c : Code} {pc : Nat} {Ls : Array Slot} {Ks : List Value} (h : At T m c below) (hx : tb.exec = Jvm.exec) (hg : m = m) {k : Fin 4} {v : Value} (hd : decode c.code pc = .ok (.aload_n k, 1)) (hl : Ls[k.val]? = some (.val v)) (hv : v.isRef = true) (hr : Steps tb e below (T.setTop (mkF m (pc + 1) (Ls) (v :: Ks))) target) : Steps tb e below (T.setTop (mkF m pc Ls Ks)) target :=
  Jvm.Free.XS.aloadN (g := mkF m pc Ls Ks) h hx hg hd hl hv hr
theorem zXS_astore {tb : Tables} [Ours tb] {e : Env} {below : List Frame} {T target : State} {m : MethodId} {c : Code} {pc : Nat} {Ls : Array Slot} {Ks : List Value} (h : At T m c below) (hx : tb.exec = Jvm.exec) (hg : m = m) {k : Nat} {x : Value} {rest : List Value} {l' : Array Slot} (hd : decode c.code pc = .ok (.astore k, 2)) (hs : Ks = x :: rest) (hv : x.isRef = true) (hl : storeLocals Ls k x = some l') (hr : Steps tb e below (T.setTop (mkF m (pc + 2) (l') (rest))) target) : Steps tb e below (T.setTop (mkF m pc Ls Ks)) target :=
  Jvm.Free.XS.astore (g := mkF m pc Ls Ks) h hx hg hd hs hv hl hr
theorem zXS_astoreN {tb : Tables} [Ours tb] {e : Env} {below : List Frame} {T target : State} {m : MethodId} {c : Code} {pc : Nat} {Ls : Array Slot} {Ks : List Value} (h : At T m c below) (hx : tb.exec = Jvm.exec) (hg : m = m) {k : Fin 4} {x : Value} {rest : List Value} {l' : Array Slot} (hd : decode c.code pc = .ok (.astore_n k, 1)) (hs : Ks = x :: rest) (hv : x.isRef = true) (hl : storeLocals Ls k.val x = some l') (hr : Steps tb e below (T.setTop (mkF m (pc + 1) (l') (rest))) target) : Steps tb e below (T.setTop (mkF m pc Ls Ks)) target :=
  Jvm.Free.XS.astoreN (g := mkF m pc Ls Ks) h hx hg hd hs hv hl hr
theorem zXS_bipush {tb : Tables} [Ours tb] {e : Env} {below : List Frame} {T target : State} {m : MethodId} {c : Code} {pc : Nat} {Ls : Array Slot} {Ks : List Value} (h : At T m c below) (hx : tb.exec = Jvm.exec) (hg : m = m) {i : Int} (hd : decode c.code pc = .ok (.bipush i, 2)) (hr : Steps tb e below (T.setTop (mkF m (pc + 2) (Ls) (.int (Int8.ofInt i).toInt32 :: Ks))) target) : Steps tb e below (T.setTop (mkF m pc Ls Ks)) target :=
  Jvm.Free.XS.bipush (g := mkF m pc Ls Ks) h hx hg hd hr
theorem zXS_dup {tb : Tables} [Ours tb] {e : Env} {below : List Frame} {T target : State} {m : MethodId} {c : Code} {pc : Nat} {Ls : Array Slot} {Ks : List Value} (h : At T m c below) (hx : tb.exec = Jvm.exec) (hg : m = m) {x : Value} {rest : List Value} (hd : decode c.code pc = .ok (.dup, 1)) (hs : Ks = x :: rest) (hc : x.category = 1) (hr : Steps tb e below (T.setTop (mkF m (pc + 1) (Ls) (x :: x :: rest))) target) : Steps tb e below (T.setTop (mkF m pc Ls Ks)) target :=
  Jvm.Free.XS.dup (g := mkF m pc Ls Ks) h hx hg hd hs hc hr
theorem zXS_goto {tb : Tables} [Ours tb] {e : Env} {below : List Frame} {T target : State} {m : MethodId} {c : Code} {pc : Nat} {Ls : Array Slot} {Ks : List Value} (h : At T m c below) (hx : tb.exec = Jvm.exec) (hg : m = m) {o : Int} {pc0 pc' : Nat} (hpc : pc = pc0) (hd : decode c.code pc = .ok (.goto o, 3)) (ho : 0 ≤ (pc0 : Int) + o) (hp : ((pc0 : Int) + o).toNat = pc') (hr : Steps tb e below (T.setTop (mkF m (pc') (Ls) (Ks))) target) : Steps tb e below (T.setTop (mkF m pc Ls Ks)) target :=
  Jvm.Free.XS.goto (g := mkF m pc Ls Ks) h hx hg hpc hd ho hp hr
theorem zXS_iadd {tb : Tables} [Ours tb] {e : Env} {below : List Frame} {T target : State} {m : MethodId} {c : Code} {pc : Nat} {Ls : Array Slot} {Ks : List Value} (h : At T m c below) (hx : tb.exec = Jvm.exec) (hg : m = m) {x y : Int32} {rest : List Value} (hd : decode c.code pc = .ok (.iadd, 1)) (hs : Ks = .int y :: .int x :: rest) (hr : Steps tb e below (T.setTop (mkF m (pc + 1) (Ls) (.int (x + y) :: rest))) target) : Steps tb e below (T.setTop (mkF m pc Ls Ks)) target :=
  Jvm.Free.XS.iadd (g := mkF m pc Ls Ks) h hx hg hd hs hr
theorem zXS_iand {tb : Tables} [Ours tb] {e : Env} {below : List Frame} {T target : State} {m : MethodId} {c : Code} {pc : Nat} {Ls : Array Slot} {Ks : List Value} (h : At T m c below) (hx : tb.exec = Jvm.exec) (hg : m = m) {x y : Int32} {rest : List Value} (hd : decode c.code pc = .ok (.iand, 1)) (hs : Ks = .int y :: .int x :: rest) (hr : Steps tb e below (T.setTop (mkF m (pc + 1) (Ls) (.int (x &&& y) :: rest))) target) : Steps tb e below (T.setTop (mkF m pc Ls Ks)) target :=
  Jvm.Free.XS.iand (g := mkF m pc Ls Ks) h hx hg hd hs hr
theorem zXS_icmpNo {tb : Tables} [Ours tb] {e : Env} {below : List Frame} {T target : State} {m : MethodId} {c : Code} {pc : Nat} {Ls : Array Slot} {Ks : List Value} (h : At T m c below) (hx : tb.exec = Jvm.exec) (hg : m = m) {cd : ClassFile.Cond} {o : Int} {x y : Int32} {rest : List Value} (hd : decode c.code pc = .ok (.if_icmp cd o, 3)) (hs : Ks = .int y :: .int x :: rest) (hc : if_icmp.holds cd x y = false) (hr : Steps tb e below (T.setTop (mkF m (pc + 3) (Ls) (rest))) target) : Steps tb e below (T.setTop (mkF m pc Ls Ks)) target :=
  Jvm.Free.XS.icmpNo (g := mkF m pc Ls Ks) h hx hg hd hs hc hr
theorem zXS_icmpYes {tb : Tables} [Ours tb] {e : Env} {below : List Frame} {T target : State} {m : MethodId} {c : Code} {pc : Nat} {Ls : Array Slot} {Ks : List Value} (h : At T m c below) (hx : tb.exec = Jvm.exec) (hg : m = m) {cd : ClassFile.Cond} {x y : Int32} {rest : List Value} {o : Int} {pc0 pc' : Nat} (hpc : pc = pc0) (hd : decode c.code pc = .ok (.if_icmp cd o, 3)) (hs : Ks = .int y :: .int x :: rest) (hc : if_icmp.holds cd x y = true) (ho : 0 ≤ (pc0 : Int) + o) (hp : ((pc0 : Int) + o).toNat = pc') (hr : Steps tb e below (T.setTop (mkF m (pc') (Ls) (rest))) target) : Steps tb e below (T.setTop (mkF m pc Ls Ks)) target :=
  Jvm.Free.XS.icmpYes (g := mkF m pc Ls Ks) h hx hg hpc hd hs hc ho hp hr
theorem zXS_iconst {tb : Tables} [Ours tb] {e : Env} {below : List Frame} {T target : State} {m : MethodId} {c : Code} {pc : Nat} {Ls : Array Slot} {Ks : List Value} (h : At T m c below) (hx : tb.exec = Jvm.exec) (hg : m = m) {i : Int} (hd : decode c.code pc = .ok (.iconst i, 1)) (hr : Steps tb e below (T.setTop (mkF m (pc + 1) (Ls) (.int (Int32.ofInt i) :: Ks))) target) : Steps tb e below (T.setTop (mkF m pc Ls Ks)) target :=
  Jvm.Free.XS.iconst (g := mkF m pc Ls Ks) h hx hg hd hr
theorem zXS_ifNo {tb : Tables} [Ours tb] {e : Env} {below : List Frame} {T target : State} {m : MethodId} {c : Code} {pc : Nat} {Ls : Array Slot} {Ks : List Value} (h : At T m c below) (hx : tb.exec = Jvm.exec) (hg : m = m) {cd : ClassFile.Cond} {o : Int} {x : Int32} {rest : List Value} (hd : decode c.code pc = .ok (.ifCond cd o, 3)) (hs : Ks = .int x :: rest) (hc : ifCond.holds cd x = false) (hr : Steps tb e below (T.setTop (mkF m (pc + 3) (Ls) (rest))) target) : Steps tb e below (T.setTop (mkF m pc Ls Ks)) target :=
  Jvm.Free.XS.ifNo (g := mkF m pc Ls Ks) h hx hg hd hs hc hr
theorem zXS_ifYes {tb : Tables} [Ours tb] {e : Env} {below : List Frame} {T target : State} {m : MethodId} {c : Code} {pc : Nat} {Ls : Array Slot} {Ks : List Value} (h : At T m c below) (hx : tb.exec = Jvm.exec) (hg : m = m) {cd : ClassFile.Cond} {x : Int32} {rest : List Value} {o : Int} {pc0 pc' : Nat} (hpc : pc = pc0) (hd : decode c.code pc = .ok (.ifCond cd o, 3)) (hs : Ks = .int x :: rest) (hc : ifCond.holds cd x = true) (ho : 0 ≤ (pc0 : Int) + o) (hp : ((pc0 : Int) + o).toNat = pc') (hr : Steps tb e below (T.setTop (mkF m (pc') (Ls) (rest))) target) : Steps tb e below (T.setTop (mkF m pc Ls Ks)) target :=
  Jvm.Free.XS.ifYes (g := mkF m pc Ls Ks) h hx hg hpc hd hs hc ho hp hr
theorem zXS_iinc {tb : Tables} [Ours tb] {e : Env} {below : List Frame} {T target : State} {m : MethodId} {c : Code} {pc : Nat} {Ls : Array Slot} {Ks : List Value} (h : At T m c below) (hx : tb.exec = Jvm.exec) (hg : m = m) {k : Nat} {cst : Int} {x : Int32} {l' : Array Slot} (hd : decode c.code pc = .ok (.iinc k cst, 3)) (hl : Ls[k]? = some (.val (.int x))) (hl' : storeLocals Ls k (.int (x + Int32.ofInt cst)) = some l') (hr : Steps tb e below (T.setTop (mkF m (pc + 3) (l') (Ks))) target) : Steps tb e below (T.setTop (mkF m pc Ls Ks)) target :=
  Jvm.Free.XS.iinc (g := mkF m pc Ls Ks) h hx hg hd hl hl' hr
theorem zXS_iload {tb : Tables} [Ours tb] {e : Env} {below : List Frame} {T target : State} {m : MethodId} {c : Code} {pc : Nat} {Ls : Array Slot} {Ks : List Value} (h : At T m c below) (hx : tb.exec = Jvm.exec) (hg : m = m) {k : Nat} {v : Int32} (hd : decode c.code pc = .ok (.iload k, 2)) (hl : Ls[k]? = some (.val (.int v))) (hr : Steps tb e below (T.setTop (mkF m (pc + 2) (Ls) (.int v :: Ks))) target) : Steps tb e below (T.setTop (mkF m pc Ls Ks)) target :=
  Jvm.Free.XS.iload (g := mkF m pc Ls Ks) h hx hg hd hl hr
theorem zXS_iloadN {tb : Tables} [Ours tb] {e : Env} {below : List Frame} {T target : State} {m : MethodId} {c : Code} {pc : Nat} {Ls : Array Slot} {Ks : List Value} (h : At T m c below) (hx : tb.exec = Jvm.exec) (hg : m = m) {k : Fin 4} {v : Int32} (hd : decode c.code pc = .ok (.iload_n k, 1)) (hl : Ls[k.val]? = some (.val (.int v))) (hr : Steps tb e below (T.setTop (mkF m (pc + 1) (Ls) (.int v :: Ks))) target) : Steps tb e below (T.setTop (mkF m pc Ls Ks)) target :=
  Jvm.Free.XS.iloadN (g := mkF m pc Ls Ks) h hx hg hd hl hr
theorem zXS_istore {tb : Tables} [Ours tb] {e : Env} {below : List Frame} {T target : State} {m : MethodId} {c : Code} {pc : Nat} {Ls : Array Slot} {Ks : List Value} (h : At T m c below) (hx : tb.exec = Jvm.exec) (hg : m = m) {k : Nat} {x : Int32} {rest : List Value} {l' : Array Slot} (hd : decode c.code pc = .ok (.istore k, 2)) (hs : Ks = .int x :: rest) (hl : storeLocals Ls k (.int x) = some l') (hr : Steps tb e below (T.setTop (mkF m (pc + 2) (l') (rest))) target) : Steps tb e below (T.setTop (mkF m pc Ls Ks)) target :=
  Jvm.Free.XS.istore (g := mkF m pc Ls Ks) h hx hg hd hs hl hr
theorem zXS_istoreN {tb : Tables} [Ours tb] {e : Env} {below : List Frame} {T target : State} {m : MethodId} {c : Code} {pc : Nat} {Ls : Array Slot} {Ks : List Value} (h : At T m c below) (hx : tb.exec = Jvm.exec) (hg : m = m) {k : Fin 4} {x : Int32} {rest : List Value} {l' : Array Slot} (hd : decode c.code pc = .ok (.istore_n k, 1)) (hs : Ks = .int x :: rest) (hl : storeLocals Ls k.val (.int x) = some l') (hr : Steps tb e below (T.setTop (mkF m (pc + 1) (l') (rest))) target) : Steps tb e below (T.setTop (mkF m pc Ls Ks)) target :=
  Jvm.Free.XS.istoreN (g := mkF m pc Ls Ks) h hx hg hd hs hl hr
theorem zXS_isub {tb : Tables} [Ours tb] {e : Env} {below : List Frame} {T target : State} {m : MethodId} {c : Code} {pc : Nat} {Ls : Array Slot} {Ks : List Value} (h : At T m c below) (hx : tb.exec = Jvm.exec) (hg : m = m) {x y : Int32} {rest : List Value} (hd : decode c.code pc = .ok (.isub, 1)) (hs : Ks = .int y :: .int x :: rest) (hr : Steps tb e below (T.setTop (mkF m (pc + 1) (Ls) (.int (x - y) :: rest))) target) : Steps tb e below (T.setTop (mkF m pc Ls Ks)) target :=
  Jvm.Free.XS.isub (g := mkF m pc Ls Ks) h hx hg hd hs hr
theorem zXS_sipush {tb : Tables} [Ours tb] {e : Env} {below : List Frame} {T target : State} {m : MethodId} {c : Code} {pc : Nat} {Ls : Array Slot} {Ks : List Value} (h : At T m c below) (hx : tb.exec = Jvm.exec) (hg : m = m) {i : Int} (hd : decode c.code pc = .ok (.sipush i, 3)) (hr : Steps tb e below (T.setTop (mkF m (pc + 3) (Ls) (.int (Int16.ofInt i).toInt32 :: Ks))) target) : Steps tb e below (T.setTop (mkF m pc Ls Ks)) target :=
  Jvm.Free.XS.sipush (g := mkF m pc Ls Ks) h hx hg hd hr
theorem zXT_i2b {tb : Tables} [Ours tb] {e : Env} {below : List Frame} {T target : State} {m : MethodId} {c : Code} {pc : Nat} {Ls : Array Slot} {Ks : List Value} (h : At T m c below) (hx : tb.exec = Jvm.exec) (hg : m = m) {x : Int32} {rest : List Value} (hd : decode c.code pc = .ok (.i2b, 1)) (hs : Ks = .int x :: rest) (hr : Steps tb e below (T.setTop (mkF m (pc + 1) (Ls) (.int (x.toInt8.toInt32) :: rest))) target) : Steps tb e below (T.setTop (mkF m pc Ls Ks)) target :=
  Jvm.Free.XT.i2b (g := mkF m pc Ls Ks) h hx hg hd hs hr
theorem zXT_i2c {tb : Tables} [Ours tb] {e : Env} {below : List Frame} {T target : State} {m : MethodId} {c : Code} {pc : Nat} {Ls : Array Slot} {Ks : List Value} (h : At T m c below) (hx : tb.exec = Jvm.exec) (hg : m = m) {x : Int32} {rest : List Value} (hd : decode c.code pc = .ok (.i2c, 1)) (hs : Ks = .int x :: rest) (hr : Steps tb e below (T.setTop (mkF m (pc + 1) (Ls) (.int (x.toUInt32.toUInt16.toUInt32.toInt32) :: rest))) target) : Steps tb e below (T.setTop (mkF m pc Ls Ks)) target :=
  Jvm.Free.XT.i2c (g := mkF m pc Ls Ks) h hx hg hd hs hr
theorem zXT_ifnonnullYes {tb : Tables} [Ours tb] {e : Env} {below : List Frame} {T target : State} {m : MethodId} {c : Code} {pc : Nat} {Ls : Array Slot} {Ks : List Value} (h : At T m c below) (hx : tb.exec = Jvm.exec) (hg : m = m) {b : Addr} {rest : List Value} {o : Int} {pc0 pc' : Nat} (hpc : pc = pc0) (hd : decode c.code pc = .ok (.ifnonnull o, 3)) (hs : Ks = .ref b :: rest) (ho : 0 ≤ (pc0 : Int) + o) (hp : ((pc0 : Int) + o).toNat = pc') (hr : Steps tb e below (T.setTop (mkF m (pc') (Ls) (rest))) target) : Steps tb e below (T.setTop (mkF m pc Ls Ks)) target :=
  Jvm.Free.XT.ifnonnullYes (g := mkF m pc Ls Ks) h hx hg hpc hd hs ho hp hr
theorem zXT_ior {tb : Tables} [Ours tb] {e : Env} {below : List Frame} {T target : State} {m : MethodId} {c : Code} {pc : Nat} {Ls : Array Slot} {Ks : List Value} (h : At T m c below) (hx : tb.exec = Jvm.exec) (hg : m = m) {x y : Int32} {rest : List Value} (hd : decode c.code pc = .ok (.ior, 1)) (hs : Ks = .int y :: .int x :: rest) (hr : Steps tb e below (T.setTop (mkF m (pc + 1) (Ls) (.int (x ||| y) :: rest))) target) : Steps tb e below (T.setTop (mkF m pc Ls Ks)) target :=
  Jvm.Free.XT.ior (g := mkF m pc Ls Ks) h hx hg hd hs hr
theorem zXT_ishl {tb : Tables} [Ours tb] {e : Env} {below : List Frame} {T target : State} {m : MethodId} {c : Code} {pc : Nat} {Ls : Array Slot} {Ks : List Value} (h : At T m c below) (hx : tb.exec = Jvm.exec) (hg : m = m) {x y : Int32} {rest : List Value} (hd : decode c.code pc = .ok (.ishl, 1)) (hs : Ks = .int y :: .int x :: rest) (hr : Steps tb e below (T.setTop (mkF m (pc + 1) (Ls) (.int (x <<< (y &&& 31)) :: rest))) target) : Steps tb e below (T.setTop (mkF m pc Ls Ks)) target :=
  Jvm.Free.XT.ishl (g := mkF m pc Ls Ks) h hx hg hd hs hr
theorem zXT_ishr {tb : Tables} [Ours tb] {e : Env} {below : List Frame} {T target : State} {m : MethodId} {c : Code} {pc : Nat} {Ls : Array Slot} {Ks : List Value} (h : At T m c below) (hx : tb.exec = Jvm.exec) (hg : m = m) {x y : Int32} {rest : List Value} (hd : decode c.code pc = .ok (.ishr, 1)) (hs : Ks = .int y :: .int x :: rest) (hr : Steps tb e below (T.setTop (mkF m (pc + 1) (Ls) (.int (x >>> (y &&& 31)) :: rest))) target) : Steps tb e below (T.setTop (mkF m pc Ls Ks)) target :=
  Jvm.Free.XT.ishr (g := mkF m pc Ls Ks) h hx hg hd hs hr
theorem zXT_iushr {tb : Tables} [Ours tb] {e : Env} {below : List Frame} {T target : State} {m : MethodId} {c : Code} {pc : Nat} {Ls : Array Slot} {Ks : List Value} (h : At T m c below) (hx : tb.exec = Jvm.exec) (hg : m = m) {x y : Int32} {rest : List Value} (hd : decode c.code pc = .ok (.iushr, 1)) (hs : Ks = .int y :: .int x :: rest) (hr : Steps tb e below (T.setTop (mkF m (pc + 1) (Ls) (.int (Jvm.Free.XT.ushr x y) :: rest))) target) : Steps tb e below (T.setTop (mkF m pc Ls Ks)) target :=
  Jvm.Free.XT.iushr (g := mkF m pc Ls Ks) h hx hg hd hs hr
theorem zXT_l2i {tb : Tables} [Ours tb] {e : Env} {below : List Frame} {T target : State} {m : MethodId} {c : Code} {pc : Nat} {Ls : Array Slot} {Ks : List Value} (h : At T m c below) (hx : tb.exec = Jvm.exec) (hg : m = m) {x : Int64} {rest : List Value} (hd : decode c.code pc = .ok (.l2i, 1)) (hs : Ks = .long x :: rest) (hr : Steps tb e below (T.setTop (mkF m (pc + 1) (Ls) (.int (x.toInt32) :: rest))) target) : Steps tb e below (T.setTop (mkF m pc Ls Ks)) target :=
  Jvm.Free.XT.l2i (g := mkF m pc Ls Ks) h hx hg hd hs hr
theorem zXT_lload {tb : Tables} [Ours tb] {e : Env} {below : List Frame} {T target : State} {m : MethodId} {c : Code} {pc : Nat} {Ls : Array Slot} {Ks : List Value} (h : At T m c below) (hx : tb.exec = Jvm.exec) (hg : m = m) {k : Nat} {v : Int64} (hd : decode c.code pc = .ok (.lload k, 2)) (hl : Ls[k]? = some (.val (.long v))) (hr : Steps tb e below (T.setTop (mkF m (pc + 2) (Ls) (.long v :: Ks))) target) : Steps tb e below (T.setTop (mkF m pc Ls Ks)) target :=
  Jvm.Free.XT.lload (g := mkF m pc Ls Ks) h hx hg hd hl hr
theorem zXT_lloadN {tb : Tables} [Ours tb] {e : Env} {below : List Frame} {T target : State} {m : MethodId} {c : Code} {pc : Nat} {Ls : Array Slot} {Ks : List Value} (h : At T m c below) (hx : tb.exec = Jvm.exec) (hg : m = m) {k : Fin 4} {v : Int64} (hd : decode c.code pc = .ok (.lload_n k, 1)) (hl : Ls[k.val]? = some (.val (.long v))) (hr : Steps tb e below (T.setTop (mkF m (pc + 1) (Ls) (.long v :: Ks))) target) : Steps tb e below (T.setTop (mkF m pc Ls Ks)) target :=
  Jvm.Free.XT.lloadN (g := mkF m pc Ls Ks) h hx hg hd hl hr
theorem zXT_lushr {tb : Tables} [Ours tb] {e : Env} {below : List Frame} {T target : State} {m : MethodId} {c : Code} {pc : Nat} {Ls : Array Slot} {Ks : List Value} (h : At T m c below) (hx : tb.exec = Jvm.exec) (hg : m = m) {x : Int64} {y : Int32} {rest : List Value} (hd : decode c.code pc = .ok (.lushr, 1)) (hs : Ks = .int y :: .long x :: rest) (hr : Steps tb e below (T.setTop (mkF m (pc + 1) (Ls) (.long (Jvm.Free.XT.ushrL x y) :: rest))) target) : Steps tb e below (T.setTop (mkF m pc Ls Ks)) target :=
  Jvm.Free.XT.lushr (g := mkF m pc Ls Ks) h hx hg hd hs hr
theorem zXT_pop {tb : Tables} [Ours tb] {e : Env} {below : List Frame} {T target : State} {m : MethodId} {c : Code} {pc : Nat} {Ls : Array Slot} {Ks : List Value} (h : At T m c below) (hx : tb.exec = Jvm.exec) (hg : m = m) {x : Value} {rest : List Value} (hd : decode c.code pc = .ok (.pop, 1)) (hs : Ks = x :: rest) (hc : x.category = 1) (hr : Steps tb e below (T.setTop (mkF m (pc + 1) (Ls) (rest))) target) : Steps tb e below (T.setTop (mkF m pc Ls Ks)) target :=
  Jvm.Free.XT.pop (g := mkF m pc Ls Ks) h hx hg hd hs hc hr
theorem zRW_iremM {p : Program} {l : Launch} {e : Env} {R : Room} {s : State} {m : MethodId} {args : Array Value} {below : List Frame} {meth : Method} {c : Code} {T : State} {locs : List Loc} {cells slots : Nat} {target : State} {pc : Nat} {Ls : Array Slot} {Ks : List Value} (X : Stand p l e R s m args below meth c T locs cells slots) (hx : p.tables.exec = Jvm.exec) (hg : m = m) {x y : Int32} {rest : List Value} (hd : decode c.code pc = .ok (.irem, 1)) (hs : Ks = .int y :: .int x :: rest) (hy : y ≠ 0) (hr : Steps p.tables e below (T.setTop (mkF m (pc + 1) (Ls) (.int (x % y) :: rest))) target) : Steps p.tables e below (T.setTop (mkF m pc Ls Ks)) target :=
  iremM (g := mkF m pc Ls Ks) X hx hg hd hs hy hr
/-- addresses are told to omega as natural numbers -/
theorem own_ane {a b : Addr} (h : ¬ @Eq Nat a b) : a ≠ b := h
theorem own_anes {a b : Addr} (h : ¬ @Eq Nat b a) : a ≠ b := fun q => h q.symm
theorem own_anq {a b : Addr} (h : a ≠ b) : ¬ @Eq Nat a b := h
theorem own_ale {n : Nat} {a : Addr} (h : @LE.le Nat instLENat n a) : n ≤ a := h
theorem own_alt {n : Nat} {a : Addr} (h : a < n) : @LT.lt Nat instLTNat a n := h
theorem own_fr_nil {n0 : Nat} {N : List Loc} (h : Fr n0 N) : Fr n0 (N ++ []) := Fr.app h (Fr.nil n0)
abbrev sU : Slot := .unset
abbrev sS : Slot := .second
abbrev sJ (x : Int64) : Slot := .val (.long x)
abbrev sI (x : Int32) : Slot := .val (.int x)
abbrev sR (x : Addr) : Slot := .val (.ref x)
theorem tw {a0 : Array Value} {Z : State} (hw : ∀ d ∈ tables_1, d.before a0 Z = true) {d : Jvm.Cond} (i : Nat) (h : tables_1[i]? = some d) : d.before a0 Z = true := hw d (List.mem_of_getElem? h)
theorem Gl.cast {tb : Tables} {e : Env} {below : List Frame} {P : Outcome → State → Prop} {T : State} {F F' : JFrame} (h : F = F') (k : Gl tb e below P (T.setTop F')) : Gl tb e below P (T.setTop F) := by rw [h]; exact k
abbrev Lat (c : Int32) : Prop := ¬ c < 0 ∧ ¬ (255 : Int32) < c
abbrev Wid (c : Int32) : Prop := ¬ c < 0 ∧ ¬ (65535 : Int32) < c
theorem own_c0 {P : Int32 → Prop} : ∀ x ∈ ([] : List Int32), P x := fun _ h => nomatch h
theorem own_cS {P : Int32 → Prop} {y : Int32} {L : List Int32} (q : P y) (r : ∀ x ∈ L, P x) : ∀ x ∈ y :: L, P x := List.forall_mem_cons.mpr ⟨q, r⟩
theorem own_up {cs : List Int32} (h : ∀ c ∈ cs, Lat c) : ∀ c ∈ cs, Wid c := fun c hc => ⟨(h c hc).1, fun q => (h c hc).2 (by rw [Int32.lt_iff_toInt_lt] at q ⊢; have e1 : (65535 : Int32).toInt = 65535 := rfl; have e2 : (255 : Int32).toInt = 255 := rfl; omega)⟩
theorem own_and255 (x : Int32) : (x &&& 255) = Int32.ofNat (x &&& 255).toBitVec.toNat ∧ (x &&& 255).toBitVec.toNat < 256 := by
  refine ⟨?_, ?_⟩
  · apply Int32.toBitVec_inj.mp
    show _ = BitVec.ofNat 32 _
    rw [BitVec.ofNat_toNat]; simp
  · simp only [Int32.toBitVec_and, BitVec.toNat_and]
    exact Nat.lt_succ_of_le Nat.and_le_right
theorem own_lat255 (x : Int32) : Lat (nar .char ((x &&& (255 : Int32)).toUInt32.toUInt16.toUInt32.toInt32)) := by
  have t : ∀ k : Fin 256, Lat (nar .char ((Int32.ofNat k.val).toUInt32.toUInt16.toUInt32.toInt32)) := by decide +kernel
  obtain ⟨e, h⟩ := own_and255 x
  rw [e]
  exact t ⟨_, h⟩
/-- the elements of an array that stood at the start, from place k on -/
def OwnEls (args : Array Value) (s : State) (t : Term) : Nat → List Value → Prop
  | _, [] => True
  | k, v :: r => (Term.elem t (.int (Int32.ofNat k))).eval args s none [] s = some v ∧ OwnEls args s t (k + 1) r
theorem own_nat32 {k : Nat} (h : k < 2 ^ 31) : (Int32.ofNat k).toNatClampNeg = k := by
  have e : (Int32.ofNat k).toInt = k := Int32.toInt_ofNat_small h
  simp only [Int32.toNatClampNeg, e]; rfl
theorem own_els {args : Array Value} {s : State} {t : Term} {a : Addr} {cl : Cell} (ht : t.eval args s none [] s = some (.ref a)) (hc : s.heap[a]? = some cl) : ∀ (vs : List Value) (k : Nat), k + vs.length < 2 ^ 31 → OwnEls args s t k vs → HasL cl k vs
  | [], _, _, _ => trivial
  | v :: r, k, hb, h => by
    have hk : k < 2 ^ 31 := by simp only [List.length_cons] at hb; omega
    have q := (elem_in h.1 ht (Term.int_eval _) hc).2
    rw [own_nat32 hk] at q
    exact ⟨q, own_els ht hc r (k + 1) (by simp only [List.length_cons] at hb; omega) h.2⟩
theorem own_oldArr {args : Array Value} {s : State} {t : Term} {a : Addr} {ty : FieldType} {z : Int32} {vs : List Value} {dv : Value} (hf : Fit s) (ht : t.eval args s none [] s = some (.ref a)) (hA : (Cond.arrayOf t ty).value args s none s [] = some true)
    (hL : (Term.length t).eval args s none [] s = some (.int z)) (hz : ¬ z < 0) (hl : z.toNatClampNeg = vs.length) (hb : vs.length < 2 ^ 31) (hE : OwnEls args s t 0 vs) : ∃ k, Arv s s.heap a k ty z vs dv := by
  obtain ⟨c, A⟩ := Arr.start ht hA
  obtain ⟨x, c', e1, h1, -⟩ := Term.length_spec hL
  cases ht.symm.trans e1
  have h2 := A.fin (Vm.Alike.refl _)
  cases h1.symm.trans h2
  have h31 := SBG.length_lt ht h1 hL
  have e : c.slots.size.toInt32 = z := by
    have q : (Term.length t).eval args s none [] s = some (.int (Int32.ofNat c.slots.size)) := by simp [Term.eval, ht, h1, h31]
    have q2 := Option.some.inj (q.symm.trans hL)
    exact Value.int.inj q2
  exact ⟨c.cls, Arv.start hf A h31 e hz hl (own_els ht A.1 vs 0 (by omega) hE)⟩
theorem own_eqI {args : Array Value} {s : State} {t : Term} {z : Int32} (h : (Cond.eq t (.int z)).value args s none s [] = some true) : t.eval args s none [] s = some (.int z) := Cond.eq_int (Cond.before_iff.mpr h) rfl
theorem own_eqR {args : Array Value} {s : State} {t u : Term} {a : Addr} (hu : u.eval args s none [] s = some (.ref a)) (h : (Cond.eq t u).value args s none s [] = some true) : t.eval args s none [] s = some (.ref a) := by
  obtain ⟨x, y, h1, h2, k1, k2⟩ := cmp_v (Or.inl h)
  cases hu.symm.trans h2
  have hx : x.isRef = true := by cases x <;> simp [Kin, Value.isRef] at k1 ⊢
  have q := gotT (eq_R h1 h2 hx rfl) h
  rw [h1, q]
/-- the bytes of Latin-1 chars -/
def lb (cs : List Int32) : List Value := (cs.map fun c => c.toInt8.toInt32).map Value.int
theorem lb_len (cs : List Int32) : (lb cs).length = cs.length := by simp [lb]
theorem lb_app (cs ds : List Int32) : lb (cs ++ ds) = lb cs ++ lb ds := by simp [lb]
theorem own_toI {k : Nat} (h : k < 2 ^ 31) : (Int32.ofNat k).toInt = k := Int32.toInt_ofNat_small h
theorem own_add32 (a b : Nat) : Int32.ofNat a + Int32.ofNat b = Int32.ofNat (a + b) := (Int32.ofNat_add a b).symm
theorem own_shl0 (x : Int32) : x <<< ((0 : Int32) &&& 31) = x := by
  have e : ((0 : Int32) &&& 31) = 0 := rfl
  rw [e]
  apply Int32.toBitVec_inj.mp
  simp
theorem own_sub0 (x : Int32) : x - (0 : Int32) = x := by simp
theorem own_lt32 {a b : Nat} (hb : b < 2 ^ 31) (h : a < b) : Int32.ofNat a < Int32.ofNat b := by
  rw [Int32.lt_iff_toInt_lt, own_toI hb, own_toI (by omega)]; omega
theorem own_nlt32 {a b : Nat} (ha : a < 2 ^ 31) (hb : b < 2 ^ 31) (h : b ≤ a) : ¬ Int32.ofNat a < Int32.ofNat b := by
  rw [Int32.lt_iff_toInt_lt, own_toI hb, own_toI ha]; omega
theorem own_nn {k : Nat} (h : k < 2 ^ 31) : ¬ Int32.ofNat k < 0 := own_nlt32 (b := 0) h (by omega) (Nat.zero_le _)
theorem own_z0 : (0 : Int32).toNatClampNeg = 0 := rfl
theorem own_z16 : (16 : Int32).toNatClampNeg = 16 := rfl
theorem own_ens {k : Nat} (h : k ≤ 16) : ¬ (0 : Int32) < Int32.ofNat k - (16 : Int32) := by
  have t : ∀ j : Fin 17, ¬ (0 : Int32) < Int32.ofNat j.val - (16 : Int32) := by decide
  exact t ⟨k, by omega⟩
theorem own_rng {vs : List Value} {dv : Value} {n : Nat} (h : vs.length = n) : vs = (List.range n).map fun i => vs.getD (0 + i) dv := by
  apply List.ext_getElem
  · simp [h]
  · intro i h1 h2
    simp [List.getD_eq_getElem?_getD, h1]
theorem own_us {vs : List Value} {dv : Value} {n : Nat} (h : vs.length = n) (h31 : n < 2 ^ 31) : vs = (List.range (Int32.ofNat n).toNatClampNeg).map fun i => vs.getD ((0 : Int32).toNatClampNeg + i) dv := by
  rw [own_nat32 h31]; exact own_rng h
theorem own_cat {Z : State} {h : Heap} {a : Addr} {ka : ClassId} {ty : FieldType} {z : Int32} {xs us : List Value} {d : Value} {k n : Nat} (hk : xs.length = k) (k31 : k < 2 ^ 31) (n31 : n < 2 ^ 31)
    (V : Arv Z h a ka ty z ((xs ++ List.replicate 16 d).take (Int32.ofNat k).toNatClampNeg ++ us ++ (xs ++ List.replicate 16 d).drop ((Int32.ofNat k).toNatClampNeg + (Int32.ofNat n).toNatClampNeg)) d) : Arv Z h a ka ty z (xs ++ us) d := by
  rw [own_nat32 k31, own_nat32 n31] at V
  have e1 : (xs ++ List.replicate 16 d).take k = xs := by rw [← hk]; simp
  have e2 : (xs ++ List.replicate 16 d).drop (k + n) = List.replicate (16 - n) d := by rw [← hk, List.drop_append, List.drop_eq_nil_of_le (by omega), List.nil_append, Nat.add_sub_cancel_left, List.drop_replicate]
  rw [e1, e2] at V
  exact V.pad fun i => (pad_rep (xs ++ us) d (16 - n) i).symm
theorem own_cpy {Z : State} {h : Heap} {a : Addr} {ka : ClassId} {ty : FieldType} {z : Int32} {xs : List Value} {d : Value} {k : Nat} (k31 : k < 2 ^ 31)
    (V : Arv Z h a ka ty z (([] ++ List.replicate k d).take (0 : Int32).toNatClampNeg ++ xs ++ ([] ++ List.replicate k d).drop ((0 : Int32).toNatClampNeg + (Int32.ofNat k).toNatClampNeg)) d) : Arv Z h a ka ty z xs d := by
  rw [own_nat32 k31, own_z0] at V
  have e : ([] ++ List.replicate k d).take 0 ++ xs ++ ([] ++ List.replicate k d).drop (0 + k) = xs := by simp
  rw [e] at V
  exact V
theorem own_arvne {Z : State} {h : Heap} {a b : Addr} {k k' : ClassId} {ty ty' : FieldType} {z z' : Int32} {vs vs' : List Value} {d d' : Value} (A : Arv Z h a k ty z vs d) (B : Arv Z h b k' ty' z' vs' d') (hz : z.toNatClampNeg ≠ z'.toNatClampNeg) : ¬ @Eq Nat a b := fun q => by
  have q' : a = b := q
  subst q'
  obtain ⟨c, A1, -, s1, -⟩ := A
  obtain ⟨c', B1, -, s2, -⟩ := B
  have e := A1.1.symm.trans B1.1
  cases e
  exact hz (s1.symm.trans s2)
theorem own_lt (x y : Int32) : x < y ↔ x.toInt < y.toInt := Int32.lt_iff_toInt_lt
theorem own_nar_wid {c : Int32} (h : Wid c) : nar .char c = c := by
  have h1 := h.1
  have h2 := h.2
  have q := c_i2c c
  have e5 : (65535 : Int32).toInt = 65535 := rfl
  have e6 : (0 : Int32).toInt = 0 := rfl
  rw [own_lt] at h1 h2
  apply Int32.toInt_inj.mp
  show (c.toUInt32.toUInt16.toUInt32.toInt32).toInt = c.toInt
  omega
theorem own_fit_wid {c : Int32} (h : Wid c) : fits .char (.int c) = true := by rw [← own_nar_wid h]; exact fits_nar_char _
theorem own_narb (x : Int32) : nar .byte (StrChars.lo8 x) = StrChars.lo8 x := by
  show (x.toInt8.toInt32).toInt8.toInt32 = x.toInt8.toInt32
  rw [Int8.toInt8_toInt32]
theorem own_narh (x : Int32) : nar .byte (StrChars.hi8 x) = StrChars.hi8 x := own_narb _
theorem own_fitb (x : Int32) : fits .byte (.int (StrChars.lo8 x)) = true := fits_nar_byte x
theorem own_fith (x : Int32) : fits .byte (.int (StrChars.hi8 x)) = true := own_fitb _
theorem own_lo (c : Int32) : (c >>> ((0 : Int32) &&& 31)).toInt8.toInt32 = StrChars.lo8 c := by rw [StrChars.shr0]; rfl
theorem own_shl1 {i : Nat} (h : 2 * i < 2 ^ 31) : Int32.ofNat i <<< ((1 : Int32) &&& 31) = Int32.ofNat (2 * i) := by
  have q := c_ishl (Int32.ofNat i) 1 1 rfl
  apply Int32.toInt_inj.mp
  have b := (Int32.ofNat i <<< ((1 : Int32) &&& 31)).toInt_lt
  have b2 := (Int32.ofNat i <<< ((1 : Int32) &&& 31)).le_toInt
  rw [own_toI (k := i) (by omega)] at q
  rw [own_toI h]
  omega
theorem own_widN {k : Nat} (h : k < 65536) : Wid (Int32.ofNat k) := by
  have e5 : (65535 : Int32).toInt = 65535 := rfl
  have e6 : (0 : Int32).toInt = 0 := rfl
  refine ⟨?_, ?_⟩
  · rw [own_lt, own_toI (by omega)]; omega
  · rw [own_lt, own_toI (by omega)]; omega
theorem own_latN {k : Nat} (h : k < 256) : Lat (Int32.ofNat k) := by
  have e5 : (255 : Int32).toInt = 255 := rfl
  have e6 : (0 : Int32).toInt = 0 := rfl
  refine ⟨?_, ?_⟩
  · rw [own_lt, own_toI (by omega)]; omega
  · rw [own_lt, own_toI (by omega)]; omega
theorem own_i2cN {k : Nat} (h : k < 65536) : (Int32.ofNat k).toUInt32.toUInt16.toUInt32.toInt32 = Int32.ofNat k := own_nar_wid (own_widN h)
theorem own_lt32' {a b : Nat} (ha : a < 2 ^ 31) (hb : b < 2 ^ 31) (h : Int32.ofNat a < Int32.ofNat b) : a < b := by
  rw [Int32.lt_iff_toInt_lt, own_toI hb, own_toI ha] at h; omega
theorem own_ge32 {a b : Nat} (ha : a < 2 ^ 31) (hb : b < 2 ^ 31) (h : ¬ Int32.ofNat a < Int32.ofNat b) : b ≤ a := by
  rw [Int32.lt_iff_toInt_lt, own_toI hb, own_toI ha] at h; omega
theorem own_inj32 {a b : Nat} (ha : a < 2 ^ 31) (hb : b < 2 ^ 31) (h : Int32.ofNat a = Int32.ofNat b) : a = b := by
  have q := congrArg Int32.toInt h
  rw [own_toI hb, own_toI ha] at q; omega
theorem own_ne32 {a b : Nat} (ha : a < 2 ^ 31) (hb : b < 2 ^ 31) (h : a ≠ b) : ¬ Int32.ofNat a = Int32.ofNat b := fun q => h (own_inj32 ha hb q)
theorem own_nat_succ (k : Nat) : Int32.ofNat k + 1 = Int32.ofNat (k + 1) := (inc_ofNat k).symm
theorem own_getD_mem {cs : List Int32} {r : Nat} (h : r < cs.length) : cs.getD r 0 ∈ cs := by
  have e : cs.getD r 0 = cs[r] := by simp [List.getD_eq_getElem?_getD, h]
  rw [e]; exact List.getElem_mem h
theorem own_some {x y : Int32} (h : x = y) : some (Value.int x) = some (Value.int y) := by rw [h]
/-- the high and the low surrogate of a code point; its units, their number; the units of one or two code points -/
def hiN (k : Nat) : Nat := 55296 + (k - 65536) / 1024
def loN (k : Nat) : Nat := 56320 + (k - 65536) % 1024
def cpl (k : Nat) : Nat := if k < 65536 then 1 else 2
def un1 (k : Nat) : List Int32 := if k < 65536 then [Int32.ofNat k] else [Int32.ofNat (hiN k), Int32.ofNat (loN k)]
def unl (k1 k2 nn : Nat) : List Int32 := if nn = 1 then un1 k1 else un1 k1 ++ un1 k2
abbrev KeyC (k : Nat) : Prop := (0 < k ∧ k ≤ 1114111) ∧ (k < 55296 ∨ 57344 ≤ k)
abbrev NmK (k : Nat) : Prop := (97 ≤ k ∧ k ≤ 122) ∨ (65 ≤ k ∧ k ≤ 90) ∨ (48 ≤ k ∧ k ≤ 57) ∨ k = 95 ∨ k = 45 ∨ k = 46
theorem NmK.lt {k : Nat} (h : NmK k) : k < 128 := by unfold NmK at h; omega
theorem NmK.key {k : Nat} (h : NmK k) : KeyC k := by unfold NmK at h; unfold KeyC; omega
theorem hiN_lt {k : Nat} (h : k ≤ 1114111) : hiN k < 56320 := by unfold hiN; omega
theorem hiN_ge (k : Nat) : 55296 ≤ hiN k := by unfold hiN; omega
theorem loN_lt (k : Nat) : loN k < 57344 := by unfold loN; omega
theorem loN_ge (k : Nat) : 56320 ≤ loN k := by unfold loN; omega
theorem un1_len (k : Nat) : (un1 k).length = cpl k := by unfold un1 cpl; split <;> rfl
theorem un2_len (k l : Nat) : (un1 k ++ un1 l).length = cpl k + cpl l := by rw [List.length_append, un1_len, un1_len]
theorem cpl_le (k : Nat) : 1 ≤ cpl k ∧ cpl k ≤ 2 := by unfold cpl; split <;> omega
theorem un1_wid {k : Nat} (h : k ≤ 1114111) : ∀ c ∈ un1 k, Wid c := by
  have a := hiN_lt h
  have b := loN_lt k
  unfold un1
  split
  · exact own_cS (own_widN (by assumption)) own_c0
  · exact own_cS (own_widN (by omega)) (own_cS (own_widN (by omega)) own_c0)
theorem un2_wid {k l : Nat} (h : k ≤ 1114111) (g : l ≤ 1114111) : ∀ c ∈ un1 k ++ un1 l, Wid c := fun c hc => by
  rcases List.mem_append.mp hc with q | q
  · exact un1_wid h c q
  · exact un1_wid g c q
/-- at the place i of the units cs the code point k begins -/
def AtC (cs : List Int32) (i k : Nat) : Prop := i < cs.length ∧ (k < 65536 → cs.getD i 0 = Int32.ofNat k) ∧ (65536 ≤ k → i + 1 < cs.length ∧ cs.getD i 0 = Int32.ofNat (hiN k) ∧ cs.getD (i + 1) 0 = Int32.ofNat (loN k))
theorem atc1 (k : Nat) : AtC (un1 k) 0 k := by
  unfold AtC un1
  by_cases h : k < 65536
  · rw [if_pos h]; exact ⟨Nat.le_of_ble_eq_true rfl, fun _ => rfl, fun q => absurd h (by omega)⟩
  · rw [if_neg h]; exact ⟨Nat.le_of_ble_eq_true rfl, fun q => absurd q h, fun _ => ⟨Nat.le_of_ble_eq_true rfl, rfl, rfl⟩⟩
theorem atc2 (k l : Nat) : AtC (un1 k ++ un1 l) 0 k := by
  unfold AtC un1
  by_cases h : k < 65536
  · rw [if_pos h]; exact ⟨by simp, fun _ => rfl, fun q => absurd h (by omega)⟩
  · rw [if_neg h]; exact ⟨by simp, fun q => absurd q h, fun _ => ⟨by simp, rfl, rfl⟩⟩
theorem atc3 (k l : Nat) : AtC (un1 k ++ un1 l) (cpl k) l := by
  unfold AtC un1 cpl
  by_cases h : k < 65536 <;> by_cases g : l < 65536
  · rw [if_pos h, if_pos g, if_pos h]; exact ⟨Nat.le_of_ble_eq_true rfl, fun _ => rfl, fun q => absurd g (by omega)⟩
  · rw [if_pos h, if_neg g, if_pos h]; exact ⟨Nat.le_of_ble_eq_true rfl, fun q => absurd q g, fun _ => ⟨Nat.le_of_ble_eq_true rfl, rfl, rfl⟩⟩
  · rw [if_neg h, if_pos g, if_neg h]; exact ⟨Nat.le_of_ble_eq_true rfl, fun _ => rfl, fun q => absurd g (by omega)⟩
  · rw [if_neg h, if_neg g, if_neg h]; exact ⟨Nat.le_of_ble_eq_true rfl, fun q => absurd q g, fun _ => ⟨Nat.le_of_ble_eq_true rfl, rfl, rfl⟩⟩
theorem own_unl1 {k1 k2 nn : Nat} (hn : nn = 1) : unl k1 k2 nn = un1 k1 := by unfold unl; rw [if_pos hn]
theorem own_unl2 {k1 k2 nn : Nat} (hn : nn = 2) : unl k1 k2 nn = un1 k1 ++ un1 k2 := by unfold unl; rw [if_neg (by omega)]
theorem own_unb {k : Nat} (h : k < 65536) : un1 k = [Int32.ofNat k] := if_pos h
theorem own_uns {k : Nat} (h : ¬ k < 65536) : un1 k = [Int32.ofNat (hiN k), Int32.ofNat (loN k)] := if_neg h
/-- the order of two numbers, of one or two, of a pair of orders -/
def cmpN (a b : Nat) : Int32 := if a < b then -1 else if a = b then 0 else 1
def cmpS (la x1 x2 lb y1 y2 : Nat) : Int32 := if x1 = y1 then (if la = lb then (if la = 1 then 0 else cmpN x2 y2) else cmpN la lb) else cmpN x1 y1
def cmpT (a b : Int32) : Int32 := if a = 0 then b else a
theorem own_t0 {a b : Int32} (h : a = 0) : cmpT a b = b := if_pos h
theorem own_t1 {a b : Int32} (h : ¬ a = 0) : cmpT a b = a := if_neg h
theorem own_triN (a b : Nat) : cmpN a b = -1 ∨ cmpN a b = 0 ∨ cmpN a b = 1 := by
  unfold cmpN
  split
  · exact Or.inl rfl
  · split
    · exact Or.inr (Or.inl rfl)
    · exact Or.inr (Or.inr rfl)
theorem own_tri (la x1 x2 lb y1 y2 : Nat) : cmpS la x1 x2 lb y1 y2 = -1 ∨ cmpS la x1 x2 lb y1 y2 = 0 ∨ cmpS la x1 x2 lb y1 y2 = 1 := by
  unfold cmpS
  split
  · split
    · split
      · exact Or.inr (Or.inl rfl)
      · exact own_triN _ _
    · exact own_triN _ _
  · exact own_triN _ _
theorem own_sg1 {r : Int32} (h : r = -1 ∨ r = 0 ∨ r = 1) (g : r < 0) : -1 = r := by
  rcases h with rfl | rfl | rfl
  · rfl
  · exact absurd g (by decide)
  · exact absurd g (by decide)
theorem own_sg2 {r : Int32} (h : r = -1 ∨ r = 0 ∨ r = 1) (g : 0 < r) : 1 = r := by
  rcases h with rfl | rfl | rfl
  · exact absurd g (by decide)
  · exact absurd g (by decide)
  · rfl
theorem own_sg0 {r : Int32} (h : r = -1 ∨ r = 0 ∨ r = 1) (g : ¬ r < 0) (g' : ¬ 0 < r) : 0 = r := by
  rcases h with rfl | rfl | rfl
  · exact absurd (by decide) g
  · rfl
  · exact absurd (by decide) g'
theorem own_c11 {nn mm k1 k2 l1 l2 : Nat} (hn : nn = 1) (hm : mm = 1) (hq : k1 = l1) : cmpN (un1 k1).length (un1 l1).length = cmpS nn k1 k2 mm l1 l2 := by
  subst hn hm hq; unfold cmpS cmpN; simp
theorem own_c12 {nn mm k1 k2 l1 l2 : Nat} (hn : nn = 1) (hm : mm = 2) (hq : k1 = l1) : cmpN (un1 k1).length (un1 l1 ++ un1 l2).length = cmpS nn k1 k2 mm l1 l2 := by
  subst hn hm hq; unfold cmpS cmpN; rw [un2_len, un1_len]; have := cpl_le l2; simp; omega
theorem own_c21 {nn mm k1 k2 l1 l2 : Nat} (hn : nn = 2) (hm : mm = 1) (hq : k1 = l1) : cmpN (un1 k1 ++ un1 k2).length (un1 l1).length = cmpS nn k1 k2 mm l1 l2 := by
  subst hn hm hq
  have q := cpl_le k2
  unfold cmpS cmpN
  rw [un2_len, un1_len, if_neg (by omega), if_neg (by omega), if_pos rfl, if_neg (by decide), if_neg (by decide), if_neg (by decide)]
theorem own_c22 {nn mm k1 k2 l1 l2 : Nat} (hn : nn = 2) (hm : mm = 2) (hq : k1 = l1) (hq2 : k2 = l2) : cmpN (un1 k1 ++ un1 k2).length (un1 l1 ++ un1 l2).length = cmpS nn k1 k2 mm l1 l2 := by
  subst hn hm hq hq2; unfold cmpS cmpN; simp
theorem own_cne {nn mm k1 k2 l1 l2 : Nat} (hq : ¬ k1 = l1) : cmpN k1 l1 = cmpS nn k1 k2 mm l1 l2 := by unfold cmpS; rw [if_neg hq]
theorem own_cne2 {nn mm k1 k2 l1 l2 : Nat} (hn : nn = 2) (hm : mm = 2) (hq : k1 = l1) : cmpN k2 l2 = cmpS nn k1 k2 mm l1 l2 := by unfold cmpS; rw [if_pos hq, if_pos (by omega), if_neg (by omega)]
theorem own_subN {k : Nat} (h : 65536 ≤ k) : Int32.ofNat k - (65536 : Int32) = Int32.ofNat (k - 65536) := by
  have q := own_add32 (k - 65536) 65536
  rw [Nat.sub_add_cancel h] at q
  rw [← q]
  exact Int32.add_sub_cancel _ _
theorem own_ushr10 {k : Nat} (h : k < 2 ^ 31) : XT.ushr (Int32.ofNat k) (10 : Int32) = Int32.ofNat (k / 1024) := by
  have q := c_iushr (Int32.ofNat k) 10 10 rfl (by decide)
  apply Int32.toInt_inj.mp
  rw [own_toI (by omega)] at q ⊢
  show ((Int32.ofNat k).toUInt32 >>> ((10 : Int32) &&& 31).toUInt32).toInt32.toInt = _
  rw [q]
  have e : ((2 ^ 10 : Nat) : Int) = 1024 := rfl
  rw [e]
  omega
theorem own_and1023 {k : Nat} (h : k < 2 ^ 31) : Int32.ofNat k &&& (1023 : Int32) = Int32.ofNat (k % 1024) := by
  have q := c_mask (Int32.ofNat k) 1023 10 (by decide) rfl
  apply Int32.toInt_inj.mp
  rw [q, own_toI h, own_toI (by omega)]
  have e : ((2 ^ 10 : Nat) : Int) = 1024 := rfl
  rw [e]
  omega
theorem own_tcp {k : Nat} (h : 65536 ≤ k) (h2 : k ≤ 1114111) : ((Int32.ofNat (hiN k) <<< ((10 : Int32) &&& 31)) + Int32.ofNat (loN k)) + (-56613888 : Int32) = Int32.ofNat k := by
  have q := c_ishl (Int32.ofNat (hiN k)) 10 10 rfl
  have b := (Int32.ofNat (hiN k) <<< ((10 : Int32) &&& 31)).toInt_lt
  have b2 := (Int32.ofNat (hiN k) <<< ((10 : Int32) &&& 31)).le_toInt
  have a1 := hiN_lt h2
  have a2 := hiN_ge k
  have e : Int32.ofNat (hiN k) <<< ((10 : Int32) &&& 31) = Int32.ofNat (hiN k * 1024) := by
    apply Int32.toInt_inj.mp
    rw [own_toI (by omega)] at q ⊢
    have e : ((2 ^ 10 : Nat) : Int) = 1024 := rfl
    rw [e] at q
    omega
  rw [e, own_add32]
  have e2 : hiN k * 1024 + loN k = k + 56613888 := by unfold hiN loN; omega
  rw [e2, ← own_add32, Int32.add_assoc]
  have e3 : Int32.ofNat 56613888 + (-56613888 : Int32) = 0 := rfl
  rw [e3, Int32.add_zero]
theorem own_ushr2 (x : Int32) : ∃ v : Nat, XT.ushr x (2 : Int32) = Int32.ofNat v ∧ v < 1073741824 := by
  have q := c_iushr x 2 2 rfl (by decide)
  have e : ((2 ^ 2 : Nat) : Int) = 4 := rfl
  rw [e] at q
  have b : 0 ≤ x.toInt % 4294967296 := Int.emod_nonneg _ (by decide)
  have b2 : x.toInt % 4294967296 < 4294967296 := Int.emod_lt_of_pos _ (by decide)
  refine ⟨((x.toInt % 4294967296) / 4).toNat, ?_, by omega⟩
  apply Int32.toInt_inj.mp
  rw [own_toI (by omega)]
  show ((x.toUInt32 >>> ((2 : Int32) &&& 31).toUInt32).toInt32).toInt = _
  rw [q]
  omega
theorem own_remN {v : Nat} {y : Int32} {n : Nat} (hy : y.toInt = n) (hn : 0 < n) (hv : v < 2 ^ 31) : Int32.ofNat v % y = Int32.ofNat (v % n) := by
  have q := (c_irem (Int32.ofNat v) y n hy).1 (by rw [own_toI hv]; omega)
  have b := Nat.mod_le v n
  apply Int32.toInt_inj.mp
  rw [q, own_toI hv, own_toI (by omega)]
  simp
theorem own_andK (x : Int32) (y : Int32) {n : Nat} (hy : y.toInt = n) (hn : n < 2 ^ 31) : ∃ v : Nat, x &&& y = Int32.ofNat v ∧ v ≤ n := by
  have q := c_and x y (by rw [hy]; omega)
  rw [hy] at q
  refine ⟨(x &&& y).toInt.toNat, ?_, by omega⟩
  apply Int32.toInt_inj.mp
  rw [own_toI (by omega)]
  omega
theorem own_la (x : Int32) : ∃ nn : Nat, (1 : Int32) + (x &&& (1 : Int32)) = Int32.ofNat nn ∧ (nn = 1 ∨ nn = 2) := by
  obtain ⟨v, e, h⟩ := own_andK x 1 (n := 1) rfl (by decide)
  refine ⟨1 + v, ?_, by omega⟩
  rw [e]
  exact own_add32 1 v
theorem own_m65 (x : Int32) : ∃ i : Fin 65, (x &&& (127 : Int32)) % (65 : Int32) = Int32.ofNat i.val := by
  obtain ⟨v, e, h⟩ := own_andK x 127 (n := 127) rfl (by decide)
  rw [e, own_remN (n := 65) rfl (by decide) (by omega)]
  exact ⟨⟨v % 65, Nat.mod_lt _ (by decide)⟩, rfl⟩
theorem own_nA : ∀ i : Fin 65, Int32.ofNat i.val < 2 → nar .char (((45 : Int32) + Int32.ofNat i.val).toUInt32.toUInt16.toUInt32.toInt32) = Int32.ofNat (45 + i.val) ∧ NmK (45 + i.val) := by decide +kernel
theorem own_nB : ∀ i : Fin 65, ¬ Int32.ofNat i.val < 2 → Int32.ofNat i.val < 12 → nar .char ((((48 : Int32) + Int32.ofNat i.val) - (2 : Int32)).toUInt32.toUInt16.toUInt32.toInt32) = Int32.ofNat (46 + i.val) ∧ NmK (46 + i.val) := by decide +kernel
theorem own_nC : ∀ i : Fin 65, ¬ Int32.ofNat i.val < 12 → Int32.ofNat i.val < 38 → nar .char ((((65 : Int32) + Int32.ofNat i.val) - (12 : Int32)).toUInt32.toUInt16.toUInt32.toInt32) = Int32.ofNat (53 + i.val) ∧ NmK (53 + i.val) := by decide +kernel
theorem own_nD : ∀ i : Fin 65, ¬ Int32.ofNat i.val < 38 → ¬ Int32.ofNat i.val = 38 → nar .char ((((97 : Int32) + Int32.ofNat i.val) - (39 : Int32)).toUInt32.toUInt16.toUInt32.toInt32) = Int32.ofNat (58 + i.val) ∧ NmK (58 + i.val) := by decide +kernel
theorem own_cl1 {k : Nat} (h : k < 65536) : (1 : Int32) = Int32.ofNat (cpl k) := by unfold cpl; rw [if_pos h]; rfl
theorem own_cl2 {k : Nat} (h : ¬ k < 65536) : (2 : Int32) = Int32.ofNat (cpl k) := by unfold cpl; rw [if_neg h]; rfl
theorem own_cplat {cs : List Int32} {i k : Nat} (hat : AtC cs i k) (hb : ∀ c ∈ cs, Wid c) (e4 : ∀ c ∈ cs, ¬ 255 < c) (h2 : k ≤ 1114111) : StrChars.lo8 (cs.getD i 0) &&& (255 : Int32) = Int32.ofNat k := by
  have m := own_getD_mem hat.1
  have a := e4 _ m
  rw [StrChars.lo8_mask (hb _ m).1 a]
  by_cases h : k < 65536
  · exact hat.2.1 h
  · have q := (hat.2.2 (by omega)).2.1
    rw [q] at a
    exact absurd (own_lt32 (a := 255) (by have := hiN_lt h2; omega) (by have := hiN_ge k; omega)) a
theorem own_n12 {n : Nat} (h : n = 1 ∨ n = 2) : n ≤ 2 := by omega

set_option maxRecDepth 65536 in
theorem own_hws : ∀ d ∈ StrChars.Road.words, d ∈ tables_1 := by decide +kernel
set_option maxRecDepth 65536 in
theorem own_hln : ∀ d ∈ StrChars.Road.wordsLen, d ∈ tables_1 := by decide +kernel
set_option maxRecDepth 65536 in
theorem own_hch : ∀ d ∈ StrChars.Road.wordsChN, d ∈ tables_1 := by decide +kernel
set_option maxRecDepth 65536 in
theorem own_hem : ∀ d ∈ StrChars.Road.wordsEmp, d ∈ tables_1 := by decide +kernel
def Qpch (Z : State) (a : Addr) (ka : ClassId) (nz : Nat) (vs : List Value) (i : Nat) (ch : Int32) (h0 : Heap) (n0 : Nat) (v : Option Value) (h : Heap) (L : List Loc) : Prop := v = none ∧ Fr n0 L ∧ Keep h0 h [a] ∧ (Arv Z h a ka .byte (Int32.ofNat nz) ((vs.set (2 * i) (.int (StrChars.lo8 ch))).set (2 * i + 1) (.int (StrChars.hi8 ch))) (.int 0))
theorem pn_0 : plainName "java/lang/StringUTF16" = true := by first | (simp [plainName, overriddenIn]; done) | decide +kernel
theorem ef_pch (m : MethodId) (x0 : Addr) (x1 : Int32) (x2 : Int32) : entryFrame m #[(.ref x0), (.int x1), (.int x2)] 3 = mkF m 0 #[sR x0, sI x1, sI x2] [] := by first | (simp [entryFrame, mkF, argsToLocals, Value.category]; done) | rfl
theorem d15_0 : decode jdk_52_method_4_code 0 = .ok (.getstatic 44, 3) := by decide +kernel
theorem d15_3 : decode jdk_52_method_4_code 3 = .ok (.ifCond .ne 25, 3) := by decide +kernel
theorem d15_28 : decode jdk_52_method_4_code 28 = .ok (.iload_n 1, 1) := by decide +kernel
theorem d15_29 : decode jdk_52_method_4_code 29 = .ok (.iconst 1, 1) := by decide +kernel
theorem d15_30 : decode jdk_52_method_4_code 30 = .ok (.ishl, 1) := by decide +kernel
theorem d15_31 : decode jdk_52_method_4_code 31 = .ok (.istore_n 1, 1) := by decide +kernel
theorem d15_32 : decode jdk_52_method_4_code 32 = .ok (.aload_n 0, 1) := by decide +kernel
theorem d15_33 : decode jdk_52_method_4_code 33 = .ok (.iload_n 1, 1) := by decide +kernel
theorem d15_34 : decode jdk_52_method_4_code 34 = .ok (.iinc 1 1, 3) := by decide +kernel
theorem d15_37 : decode jdk_52_method_4_code 37 = .ok (.iload_n 2, 1) := by decide +kernel
theorem d15_38 : decode jdk_52_method_4_code 38 = .ok (.getstatic 59, 3) := by decide +kernel
theorem d15_41 : decode jdk_52_method_4_code 41 = .ok (.ishr, 1) := by decide +kernel
theorem d15_42 : decode jdk_52_method_4_code 42 = .ok (.i2b, 1) := by decide +kernel
theorem d15_43 : decode jdk_52_method_4_code 43 = .ok (.bastore, 1) := by decide +kernel
theorem d15_44 : decode jdk_52_method_4_code 44 = .ok (.aload_n 0, 1) := by decide +kernel
theorem d15_45 : decode jdk_52_method_4_code 45 = .ok (.iload_n 1, 1) := by decide +kernel
theorem d15_46 : decode jdk_52_method_4_code 46 = .ok (.iload_n 2, 1) := by decide +kernel
theorem d15_47 : decode jdk_52_method_4_code 47 = .ok (.getstatic 63, 3) := by decide +kernel
theorem d15_50 : decode jdk_52_method_4_code 50 = .ok (.ishr, 1) := by decide +kernel
theorem d15_51 : decode jdk_52_method_4_code 51 = .ok (.i2b, 1) := by decide +kernel
theorem d15_52 : decode jdk_52_method_4_code 52 = .ok (.bastore, 1) := by decide +kernel
theorem d15_53 : decode jdk_52_method_4_code 53 = .ok (.return_, 1) := by decide +kernel
set_option maxRecDepth 65536 in
set_option maxHeartbeats 40000000 in
theorem pch (l : Launch) (Z : State) (a0 : Array Value) (hw : ∀ d ∈ tables_1, d.before a0 Z = true) (ws : List Jvm.Cond) (a : Addr) (ka : ClassId) (nz : Nat) (vs : List Value) (i : Nat) (ch : Int32) (h0 : Heap) (n0 : Nat) (Z0 : n0 ≤ h0.size) (q0 : Old Z n0 h0) (q1 : Sta Z Z.heap "java/lang/StringUTF16" "$assertionsDisabled" "Z" (.int (1 : Int32))) (q2 : Sta Z Z.heap "java/lang/StringUTF16" "HI_BYTE_SHIFT" "I" (.int (0 : Int32))) (q3 : Sta Z Z.heap "java/lang/StringUTF16" "LO_BYTE_SHIFT" "I" (.int (8 : Int32))) (q4 : Arv Z h0 a ka .byte (Int32.ofNat nz) vs (.int 0)) (q5 : @LE.le Nat instLENat n0 a) (hii : 2 * i + 1 < nz) (hz : nz ≤ 64) (hvl : 2 * i + 1 < vs.length) :
    MetFree l y_0 (head1 (Jvm.Cond.code y_0 jdk_52_method_4_code 3 none :: ws) r_m0) (fun a_ U_ => a_ = #[(.ref a), (.int (Int32.ofNat i)), (.int ch)] ∧ Z.Warmed39 U_.vm ∧ U_.heap = h0) (fun _ _ _ _ _ => True) (fun _ U_ o_ V_ => ∃ v_ L_, o_ = .returned v_ ∧ Qpch Z a ka nz vs i ch h0 n0 v_ V_.heap L_ ∧ FrameEnd U_ o_ V_ L_ r_m0.cells r_m0.slots) := by
  refine MetFree.of_bodySF (plainFor_of_name pn_0) hisR ?_
  intro p e s m args below meth c s₁ Bd hml0 hP hK
  obtain ⟨rfl, hZ, hh⟩ := hP
  have hx := Bd.exec
  have hby := Bd.bytes
  have hml : c.maxLocals = 3 := hml0
  have hown : s.vm.findClass "java/lang/StringUTF16" = some m.cls := findClass_of_methodNamed Bd.named
  have hnm := (name_of_methodNamed Bd.named Bd.method).1
  have X0 : Stand p l e r_m0 s m #[(.ref a), (.int (Int32.ofNat i)), (.int ch)] below meth c s₁ [] 0 0 := Stand.of_body Bd
  have e0 : s₁.heap = h0 := by rw [← hh, Bd.state]; rfl
  have N0 := Fr.nil n0
  have zo := q0.1
  have lt1 := own_alt q4.lt
  refine Gl.go (A := s₁.setTop (entryFrame m #[(.ref a), (.int (Int32.ofNat i)), (.int ch)] 3)) (P := fun o_ U_ => ∃ v_ L_, o_ = .returned v_ ∧ Qpch Z a ka nz vs i ch h0 n0 v_ U_.heap L_ ∧ FrameEnd s o_ U_ L_ r_m0.cells r_m0.slots) (fun t_ k_ => castTop (ef_pch m a (Int32.ofNat i) ch) k_) ?_
  show Gl p.tables e below _ (s₁.setTop (mkF m 0 #[sR a, sI (Int32.ofNat i), sI ch] []))
  refine gGetS (host := "") Gl.cl X0 hx hZ hown (Or.inl (tw hw 66 rfl)) Via.refl e0 (q1.ext q0.2) rfl (hb hby d15_0) ?_
  intro T2 X2 e2
  refine Gl.go (fun _ hr => zXS_ifYes X2.here hx rfl (pc0 := 3) (pc' := 28) rfl (hb hby d15_3) rfl (XT.i0_ne_t (by decide)) (by decide) (by decide) (zXS_iloadN X2.here hx rfl (hb hby d15_28) rfl (zXS_iconst X2.here hx rfl (hb hby d15_29) (zXT_ishl X2.here hx rfl (hb hby d15_30) rfl hr)))) ?_
  show Gl p.tables e below _ (T2.setTop (mkF m 31 #[sR a, sI (Int32.ofNat i), sI ch] [(.int ((Int32.ofNat i) <<< ((1 : Int32) &&& 31)))]))
  rw [(own_shl1 (i := i) (by omega))]
  show Gl p.tables e below _ (T2.setTop (mkF m 31 #[sR a, sI (Int32.ofNat i), sI ch] [(.int (Int32.ofNat (2 * i)))]))
  refine Gl.go (fun _ hr => zXS_istoreN X2.here hx rfl (hb hby d15_31) rfl (l' := #[sR a, sI (Int32.ofNat (2 * i)), sI ch]) rfl (zXS_aloadN X2.here hx rfl (hb hby d15_32) rfl rfl (zXS_iloadN X2.here hx rfl (hb hby d15_33) rfl (zXS_iinc X2.here hx rfl (hb hby d15_34) rfl (l' := #[sR a, sI ((Int32.ofNat (2 * i)) + (1 : Int32)), sI ch]) rfl hr)))) ?_
  show Gl p.tables e below _ (T2.setTop (mkF m 37 #[sR a, sI ((Int32.ofNat (2 * i)) + (1 : Int32)), sI ch] [(.int (Int32.ofNat (2 * i))), (.ref a)]))
  rw [(own_nat_succ (2 * i))]
  show Gl p.tables e below _ (T2.setTop (mkF m 37 #[sR a, sI (Int32.ofNat (2 * i + 1)), sI ch] [(.int (Int32.ofNat (2 * i))), (.ref a)]))
  refine Gl.go (fun _ hr => zXS_iloadN X2.here hx rfl (hb hby d15_37) rfl hr) ?_
  refine gGetS (host := "") Gl.cl X2 hx hZ hown (Or.inl (tw hw 67 rfl)) Via.refl e2 (q2.ext q0.2) rfl (hb hby d15_38) ?_
  intro T3 X3 e3
  refine Gl.go (fun _ hr => zXT_ishr X3.here hx rfl (hb hby d15_41) rfl (zXT_i2b X3.here hx rfl (hb hby d15_42) rfl hr)) ?_
  show Gl p.tables e below _ (T3.setTop (mkF m 43 #[sR a, sI (Int32.ofNat (2 * i + 1)), sI ch] [(.int ((ch >>> ((0 : Int32) &&& 31)).toInt8.toInt32)), (.int (Int32.ofNat (2 * i))), (.ref a)]))
  rw [(own_lo ch)]
  show Gl p.tables e below _ (T3.setTop (mkF m 43 #[sR a, sI (Int32.ofNat (2 * i + 1)), sI ch] [(.int (StrChars.lo8 ch)), (.int (Int32.ofNat (2 * i))), (.ref a)]))
  obtain ⟨c4, a4, q4, s4, m4, H4, U4⟩ := id q4
  refine gstB Gl.cl X3 hx hZ e3 a4 (j := (Int32.ofNat (2 * i))) (inb_of s4 ⟨own_nn (by omega), own_lt32 (b := nz) (by omega) (by omega)⟩) rfl rfl (hb hby d15_43) ?_
  intro T4 h4 X4 e4 W4
  have z5 : h0.size ≤ h4.size := (Keep.of_wr W4).1
  rw [(own_narb _)] at W4
  have V4 : Arv Z h4 a ka .byte (Int32.ofNat nz) (vs.set (2 * i) (.int (StrChars.lo8 ch))) (.int 0) := Arv.set a4 q4 s4 m4 H4 U4 (own_fitb _) W4 (2 * i) (own_nat32 (by omega)) (by (try simp only [List.length_set]); omega)
  have om6 : @LE.le Nat instLENat n0 a := by omega
  have N4 := Fr.snoc X4 N0 (own_ale om6)
  refine Gl.go (fun _ hr => zXS_aloadN X4.here hx rfl (hb hby d15_44) rfl rfl (zXS_iloadN X4.here hx rfl (hb hby d15_45) rfl (zXS_iloadN X4.here hx rfl (hb hby d15_46) rfl hr))) ?_
  have Oc8 := (q0.wr W4 (own_ale om6))
  refine gGetS (host := "") Gl.cl X4 hx hZ hown (Or.inl (tw hw 68 rfl)) Via.refl e4 (q3.ext Oc8.2) rfl (hb hby d15_47) ?_
  intro T7 X7 e7
  refine Gl.go (fun _ hr => zXT_ishr X7.here hx rfl (hb hby d15_50) rfl (zXT_i2b X7.here hx rfl (hb hby d15_51) rfl hr)) ?_
  show Gl p.tables e below _ (T7.setTop (mkF m 52 #[sR a, sI (Int32.ofNat (2 * i + 1)), sI ch] [(.int ((ch >>> ((8 : Int32) &&& 31)).toInt8.toInt32)), (.int (Int32.ofNat (2 * i + 1))), (.ref a)]))
  show Gl p.tables e below _ (T7.setTop (mkF m 52 #[sR a, sI (Int32.ofNat (2 * i + 1)), sI ch] [(.int (StrChars.hi8 ch)), (.int (Int32.ofNat (2 * i + 1))), (.ref a)]))
  obtain ⟨c9, a9, q9, s9, m9, H9, U9⟩ := id V4
  refine gstB Gl.cl X7 hx hZ e7 a9 (j := (Int32.ofNat (2 * i + 1))) (inb_of s9 ⟨own_nn (by omega), own_lt32 (b := nz) (by omega) (by omega)⟩) rfl rfl (hb hby d15_52) ?_
  intro T9 h9 X9 e9 W9
  have z10 : h4.size ≤ h9.size := (Keep.of_wr W9).1
  rw [(own_narh _)] at W9
  have V9 : Arv Z h9 a ka .byte (Int32.ofNat nz) ((vs.set (2 * i) (.int (StrChars.lo8 ch))).set (2 * i + 1) (.int (StrChars.hi8 ch))) (.int 0) := Arv.set a9 q9 s9 m9 H9 U9 (own_fith _) W9 (2 * i + 1) (own_nat32 (by omega)) (by (try simp only [List.length_set]); omega)
  have N9 := Fr.snoc X9 N4 (own_ale om6)
  obtain ⟨fs, hr, hrun, hended, hW, hsame⟩ := X9.leave (v := none) (fun _ => rfl)
  refine ⟨_, _, X9.returnOut hx Bd.returns (hb hby d15_53) hr, hrun, hended, _, _, rfl, ?_, ⟨⟨_, rfl⟩, hW, hsame.mono (by decide) (by decide)⟩⟩
  show Qpch Z a ka nz vs i ch h0 n0 _ T9.heap _
  rw [e9]
  exact ⟨rfl, N9, (((Keep.refl h0 [a]).wr W4 (Or.inl (by simp))).wr W9 (Or.inl (by simp))), V9⟩
def Qgtc (Z : State) (a : Addr) (ka : ClassId) (cs : List Int32) (i : Nat) (h0 : Heap) (n0 : Nat) (v : Option Value) (h : Heap) (L : List Loc) : Prop := v = some (.int (cs.getD i 0)) ∧ Fr n0 L ∧ h = h0
theorem ef_gtc (m : MethodId) (x0 : Addr) (x1 : Int32) : entryFrame m #[(.ref x0), (.int x1)] 2 = mkF m 0 #[sR x0, sI x1] [] := by first | (simp [entryFrame, mkF, argsToLocals, Value.category]; done) | rfl
theorem d16_0 : decode jdk_52_method_5_code 0 = .ok (.getstatic 44, 3) := by decide +kernel
theorem d16_3 : decode jdk_52_method_5_code 3 = .ok (.ifCond .ne 25, 3) := by decide +kernel
theorem d16_28 : decode jdk_52_method_5_code 28 = .ok (.iload_n 1, 1) := by decide +kernel
theorem d16_29 : decode jdk_52_method_5_code 29 = .ok (.iconst 1, 1) := by decide +kernel
theorem d16_30 : decode jdk_52_method_5_code 30 = .ok (.ishl, 1) := by decide +kernel
theorem d16_31 : decode jdk_52_method_5_code 31 = .ok (.istore_n 1, 1) := by decide +kernel
theorem d16_32 : decode jdk_52_method_5_code 32 = .ok (.aload_n 0, 1) := by decide +kernel
theorem d16_33 : decode jdk_52_method_5_code 33 = .ok (.iload_n 1, 1) := by decide +kernel
theorem d16_34 : decode jdk_52_method_5_code 34 = .ok (.iinc 1 1, 3) := by decide +kernel
theorem d16_37 : decode jdk_52_method_5_code 37 = .ok (.baload, 1) := by decide +kernel
theorem d16_38 : decode jdk_52_method_5_code 38 = .ok (.sipush 255, 3) := by decide +kernel
theorem d16_41 : decode jdk_52_method_5_code 41 = .ok (.iand, 1) := by decide +kernel
theorem d16_42 : decode jdk_52_method_5_code 42 = .ok (.getstatic 59, 3) := by decide +kernel
theorem d16_45 : decode jdk_52_method_5_code 45 = .ok (.ishl, 1) := by decide +kernel
theorem d16_46 : decode jdk_52_method_5_code 46 = .ok (.aload_n 0, 1) := by decide +kernel
theorem d16_47 : decode jdk_52_method_5_code 47 = .ok (.iload_n 1, 1) := by decide +kernel
theorem d16_48 : decode jdk_52_method_5_code 48 = .ok (.baload, 1) := by decide +kernel
theorem d16_49 : decode jdk_52_method_5_code 49 = .ok (.sipush 255, 3) := by decide +kernel
theorem d16_52 : decode jdk_52_method_5_code 52 = .ok (.iand, 1) := by decide +kernel
theorem d16_53 : decode jdk_52_method_5_code 53 = .ok (.getstatic 63, 3) := by decide +kernel
theorem d16_56 : decode jdk_52_method_5_code 56 = .ok (.ishl, 1) := by decide +kernel
theorem d16_57 : decode jdk_52_method_5_code 57 = .ok (.ior, 1) := by decide +kernel
theorem d16_58 : decode jdk_52_method_5_code 58 = .ok (.i2c, 1) := by decide +kernel
theorem d16_59 : decode jdk_52_method_5_code 59 = .ok (.ireturn, 1) := by decide +kernel
set_option maxRecDepth 65536 in
set_option maxHeartbeats 40000000 in
theorem gtc (l : Launch) (Z : State) (a0 : Array Value) (hw : ∀ d ∈ tables_1, d.before a0 Z = true) (ws : List Jvm.Cond) (a : Addr) (ka : ClassId) (cs : List Int32) (i : Nat) (h0 : Heap) (n0 : Nat) (Z0 : n0 ≤ h0.size) (q0 : Old Z n0 h0) (q1 : Sta Z Z.heap "java/lang/StringUTF16" "$assertionsDisabled" "Z" (.int (1 : Int32))) (q2 : Sta Z Z.heap "java/lang/StringUTF16" "HI_BYTE_SHIFT" "I" (.int (0 : Int32))) (q3 : Sta Z Z.heap "java/lang/StringUTF16" "LO_BYTE_SHIFT" "I" (.int (8 : Int32))) (q4 : Arv Z h0 a ka .byte (Int32.ofNat (2 * cs.length)) (StrChars.Road.wideBytes cs) (.int 0)) (hii : i < cs.length) (hcl : cs.length ≤ 32) (hbd : ∀ c ∈ cs, Wid c) :
    MetFree l y_1 (head1 (Jvm.Cond.code y_1 jdk_52_method_5_code 2 (some .char) :: ws) r_m0) (fun a_ U_ => a_ = #[(.ref a), (.int (Int32.ofNat i))] ∧ Z.Warmed39 U_.vm ∧ U_.heap = h0) (fun _ _ _ _ _ => True) (fun _ U_ o_ V_ => ∃ v_ L_, o_ = .returned v_ ∧ Qgtc Z a ka cs i h0 n0 v_ V_.heap L_ ∧ FrameEnd U_ o_ V_ L_ r_m0.cells r_m0.slots) := by
  refine MetFree.of_bodySF (plainFor_of_name pn_0) hisR ?_
  intro p e s m args below meth c s₁ Bd hml0 hP hK
  obtain ⟨rfl, hZ, hh⟩ := hP
  have hx := Bd.exec
  have hby := Bd.bytes
  have hml : c.maxLocals = 2 := hml0
  have hown : s.vm.findClass "java/lang/StringUTF16" = some m.cls := findClass_of_methodNamed Bd.named
  have hnm := (name_of_methodNamed Bd.named Bd.method).1
  have X0 : Stand p l e r_m0 s m #[(.ref a), (.int (Int32.ofNat i))] below meth c s₁ [] 0 0 := Stand.of_body Bd
  have e0 : s₁.heap = h0 := by rw [← hh, Bd.state]; rfl
  have N0 := Fr.nil n0
  have zo := q0.1
  have lt11 := own_alt q4.lt
  have hwc : Wid (cs.getD i 0) := hbd _ (own_getD_mem hii)
  refine Gl.go (A := s₁.setTop (entryFrame m #[(.ref a), (.int (Int32.ofNat i))] 2)) (P := fun o_ U_ => ∃ v_ L_, o_ = .returned v_ ∧ Qgtc Z a ka cs i h0 n0 v_ U_.heap L_ ∧ FrameEnd s o_ U_ L_ r_m0.cells r_m0.slots) (fun t_ k_ => castTop (ef_gtc m a (Int32.ofNat i)) k_) ?_
  show Gl p.tables e below _ (s₁.setTop (mkF m 0 #[sR a, sI (Int32.ofNat i)] []))
  refine gGetS (host := "") Gl.cl X0 hx hZ hown (Or.inl (tw hw 66 rfl)) Via.refl e0 (q1.ext q0.2) rfl (hb hby d16_0) ?_
  intro T12 X12 e12
  refine Gl.go (fun _ hr => zXS_ifYes X12.here hx rfl (pc0 := 3) (pc' := 28) rfl (hb hby d16_3) rfl (XT.i0_ne_t (by decide)) (by decide) (by decide) (zXS_iloadN X12.here hx rfl (hb hby d16_28) rfl (zXS_iconst X12.here hx rfl (hb hby d16_29) (zXT_ishl X12.here hx rfl (hb hby d16_30) rfl hr)))) ?_
  show Gl p.tables e below _ (T12.setTop (mkF m 31 #[sR a, sI (Int32.ofNat i)] [(.int ((Int32.ofNat i) <<< ((1 : Int32) &&& 31)))]))
  rw [(own_shl1 (i := i) (by omega))]
  show Gl p.tables e below _ (T12.setTop (mkF m 31 #[sR a, sI (Int32.ofNat i)] [(.int (Int32.ofNat (2 * i)))]))
  refine Gl.go (fun _ hr => zXS_istoreN X12.here hx rfl (hb hby d16_31) rfl (l' := #[sR a, sI (Int32.ofNat (2 * i))]) rfl (zXS_aloadN X12.here hx rfl (hb hby d16_32) rfl rfl (zXS_iloadN X12.here hx rfl (hb hby d16_33) rfl (zXS_iinc X12.here hx rfl (hb hby d16_34) rfl (l' := #[sR a, sI ((Int32.ofNat (2 * i)) + (1 : Int32))]) rfl hr)))) ?_
  show Gl p.tables e below _ (T12.setTop (mkF m 37 #[sR a, sI ((Int32.ofNat (2 * i)) + (1 : Int32))] [(.int (Int32.ofNat (2 * i))), (.ref a)]))
  rw [(own_nat_succ (2 * i))]
  show Gl p.tables e below _ (T12.setTop (mkF m 37 #[sR a, sI (Int32.ofNat (2 * i + 1))] [(.int (Int32.ofNat (2 * i))), (.ref a)]))
  obtain ⟨c13, a13, q13, s13, m13, H13, U13⟩ := id q4
  have i13 := inb_of s13 (j := (Int32.ofNat (2 * i))) ⟨own_nn (by omega), own_lt32 (b := 2 * cs.length) (by omega) (by omega)⟩
  refine g_baload Gl.cl X12 hx hZ e12 a13 i13 (v := (.int (StrChars.lo8 (cs.getD i 0)))) (H13.at i13 (by rw [own_nat32 (by omega)]; exact StrChars.Road.wide_lo _ cs i hii)) rfl rfl (hb hby d16_37) ?_
  refine Gl.go (fun _ hr => zXS_sipush X12.here hx rfl (hb hby d16_38) (zXS_iand X12.here hx rfl (hb hby d16_41) rfl hr)) ?_
  refine gGetS (host := "") Gl.cl X12 hx hZ hown (Or.inl (tw hw 67 rfl)) Via.refl e12 (q2.ext q0.2) rfl (hb hby d16_42) ?_
  intro T14 X14 e14
  refine Gl.go (fun _ hr => zXT_ishl X14.here hx rfl (hb hby d16_45) rfl (zXS_aloadN X14.here hx rfl (hb hby d16_46) rfl rfl (zXS_iloadN X14.here hx rfl (hb hby d16_47) rfl hr))) ?_
  obtain ⟨c15, a15, q15, s15, m15, H15, U15⟩ := id q4
  have i15 := inb_of s15 (j := (Int32.ofNat (2 * i + 1))) ⟨own_nn (by omega), own_lt32 (b := 2 * cs.length) (by omega) (by omega)⟩
  refine g_baload Gl.cl X14 hx hZ e14 a15 i15 (v := (.int (StrChars.hi8 (cs.getD i 0)))) (H15.at i15 (by rw [own_nat32 (by omega)]; exact StrChars.Road.wide_hi _ cs i hii)) rfl rfl (hb hby d16_48) ?_
  refine Gl.go (fun _ hr => zXS_sipush X14.here hx rfl (hb hby d16_49) (zXS_iand X14.here hx rfl (hb hby d16_52) rfl hr)) ?_
  refine gGetS (host := "") Gl.cl X14 hx hZ hown (Or.inl (tw hw 68 rfl)) Via.refl e14 (q3.ext q0.2) rfl (hb hby d16_53) ?_
  intro T16 X16 e16
  refine Gl.go (fun _ hr => zXT_ishl X16.here hx rfl (hb hby d16_56) rfl (zXT_ior X16.here hx rfl (hb hby d16_57) rfl (zXT_i2c X16.here hx rfl (hb hby d16_58) rfl hr))) ?_
  show Gl p.tables e below _ (T16.setTop (mkF m 59 #[sR a, sI (Int32.ofNat (2 * i + 1))] [(.int (((((StrChars.lo8 (cs.getD i 0)) &&& (255 : Int32)) <<< ((0 : Int32) &&& 31)) ||| (((StrChars.hi8 (cs.getD i 0)) &&& (255 : Int32)) <<< ((8 : Int32) &&& 31))).toUInt32.toUInt16.toUInt32.toInt32))]))
  have hpr := StrChars.pair_says hwc.1 hwc.2
  unfold StrChars.pairCh at hpr
  rw [hpr]
  show Gl p.tables e below _ (T16.setTop (mkF m 59 #[sR a, sI (Int32.ofNat (2 * i + 1))] [(.int (cs.getD i 0))]))
  obtain ⟨fs, hr, hrun, hended, hW, hsame⟩ := X16.leave (v := some (.int (nar .char (cs.getD i 0)))) (fun h => by rw [Bd.returns] at h; cases h)
  refine ⟨_, _, retN X16 hx (t := .char) Bd.returns (by simp) (hb hby d16_59) hr, hrun, hended, _, _, rfl, ?_, ⟨⟨_, rfl⟩, hW, hsame.mono (by decide) (by decide)⟩⟩
  show Qgtc Z a ka cs i h0 n0 _ T16.heap _
  rw [e16]
  exact ⟨(own_some (own_nar_wid hwc)), N0, rfl⟩
theorem own_upto {cs : List Int32} (h1 : 0 < cs.length) (h4 : cs.length ≤ 4) : (∃ c0, cs = [c0]) ∨ (∃ c0 c1, cs = [c0, c1]) ∨ (∃ c0 c1 c2, cs = [c0, c1, c2]) ∨ (∃ c0 c1 c2 c3, cs = [c0, c1, c2, c3]) := by
  match cs, h1, h4 with
  | [c0], _, _ => exact Or.inl ⟨c0, rfl⟩
  | [c0, c1], _, _ => exact Or.inr (Or.inl ⟨c0, c1, rfl⟩)
  | [c0, c1, c2], _, _ => exact Or.inr (Or.inr (Or.inl ⟨c0, c1, c2, rfl⟩))
  | [c0, c1, c2, c3], _, _ => exact Or.inr (Or.inr (Or.inr (⟨c0, c1, c2, c3, rfl⟩)))
theorem own_cfl0 {n : Nat} (h : n ≤ 4) : nar .byte ((XT.ushr (Int32.ofNat n - Int32.ofNat n) (31 : Int32)).toInt8.toInt32) = 0 := by
  have t : ∀ k : Fin 5, nar .byte ((XT.ushr (Int32.ofNat k.val - Int32.ofNat k.val) (31 : Int32)).toInt8.toInt32) = 0 := by decide +kernel
  exact t ⟨n, by omega⟩
theorem own_cfl1 {n : Nat} (h1 : 0 < n) (h : n ≤ 4) : nar .byte ((XT.ushr (Int32.ofNat n - Int32.ofNat (2 * n)) (31 : Int32)).toInt8.toInt32) = 1 := by
  have t : ∀ k : Fin 5, 0 < k.val → nar .byte ((XT.ushr (Int32.ofNat k.val - Int32.ofNat (2 * k.val)) (31 : Int32)).toInt8.toInt32) = 1 := by decide +kernel
  exact t ⟨n, by omega⟩ h1
def Qnbl1 (Z : State)  (h0 : Heap) (n0 : Nat) (v : Option Value) (h : Heap) (L : List Loc) : Prop := v = some (.int (2 : Int32)) ∧ Fr n0 L ∧ h = h0
theorem ef_nbl1 (m : MethodId) (x0 : Int32) : entryFrame m #[(.int x0)] 1 = mkF m 0 #[sI x0] [] := by first | (simp [entryFrame, mkF, argsToLocals, Value.category]; done) | rfl
theorem d14_0 : decode jdk_52_method_3_code 0 = .ok (.iload_n 0, 1) := by decide +kernel
theorem d14_1 : decode jdk_52_method_3_code 1 = .ok (.ifCond .ge 11, 3) := by decide +kernel
theorem d14_12 : decode jdk_52_method_3_code 12 = .ok (.iload_n 0, 1) := by decide +kernel
theorem d14_13 : decode jdk_52_method_3_code 13 = .ok (.ldc 20, 2) := by decide +kernel
theorem d14_15 : decode jdk_52_method_3_code 15 = .ok (.if_icmp .lt 40, 3) := by decide +kernel
theorem d14_55 : decode jdk_52_method_3_code 55 = .ok (.iload_n 0, 1) := by decide +kernel
theorem d14_56 : decode jdk_52_method_3_code 56 = .ok (.iconst 1, 1) := by decide +kernel
theorem d14_57 : decode jdk_52_method_3_code 57 = .ok (.ishl, 1) := by decide +kernel
theorem d14_58 : decode jdk_52_method_3_code 58 = .ok (.ireturn, 1) := by decide +kernel
set_option maxRecDepth 65536 in
set_option maxHeartbeats 40000000 in
theorem nbl1 (l : Launch) (Z : State) (a0 : Array Value) (hw : ∀ d ∈ tables_1, d.before a0 Z = true) (ws : List Jvm.Cond)  (h0 : Heap) (n0 : Nat) (Z0 : n0 ≤ h0.size) :
    MetFree l y_2 (head1 (Jvm.Cond.code y_2 jdk_52_method_3_code 1 (some .int) :: ws) r_m0) (fun a_ U_ => a_ = #[(.int (1 : Int32))] ∧ Z.Warmed39 U_.vm ∧ U_.heap = h0) (fun _ _ _ _ _ => True) (fun _ U_ o_ V_ => ∃ v_ L_, o_ = .returned v_ ∧ Qnbl1 Z  h0 n0 v_ V_.heap L_ ∧ FrameEnd U_ o_ V_ L_ r_m0.cells r_m0.slots) := by
  refine MetFree.of_bodySF (plainFor_of_name pn_0) hisR ?_
  intro p e s m args below meth c s₁ Bd hml0 hP hK
  obtain ⟨rfl, hZ, hh⟩ := hP
  have hx := Bd.exec
  have hby := Bd.bytes
  have hml : c.maxLocals = 1 := hml0
  have hown : s.vm.findClass "java/lang/StringUTF16" = some m.cls := findClass_of_methodNamed Bd.named
  have hnm := (name_of_methodNamed Bd.named Bd.method).1
  have X0 : Stand p l e r_m0 s m #[(.int (1 : Int32))] below meth c s₁ [] 0 0 := Stand.of_body Bd
  have e0 : s₁.heap = h0 := by rw [← hh, Bd.state]; rfl
  have N0 := Fr.nil n0
  refine Gl.go (A := s₁.setTop (entryFrame m #[(.int (1 : Int32))] 1)) (P := fun o_ U_ => ∃ v_ L_, o_ = .returned v_ ∧ Qnbl1 Z  h0 n0 v_ U_.heap L_ ∧ FrameEnd s o_ U_ L_ r_m0.cells r_m0.slots) (fun t_ k_ => castTop (ef_nbl1 m (1 : Int32)) k_) ?_
  show Gl p.tables e below _ (s₁.setTop (mkF m 0 #[sI 1] []))
  refine Gl.go (fun _ hr => zXS_iloadN X0.here hx rfl (hb hby d14_0) rfl (zXS_ifYes X0.here hx rfl (pc0 := 1) (pc' := 12) rfl (hb hby d14_1) rfl (XT.i0_ge_t (by decide)) (by decide) (by decide) (zXS_iloadN X0.here hx rfl (hb hby d14_12) rfl hr))) ?_
  refine Gl.go (X0.ldcInt hx hown (mvT hZ (tw hw 62 rfl)) rfl (hb hby d14_13)) ?_
  refine Gl.go (fun _ hr => zXS_icmpYes X0.here hx rfl (pc0 := 15) (pc' := 55) rfl (hb hby d14_15) rfl (XT.ii_lt_t (by decide)) (by decide) (by decide) (zXS_iloadN X0.here hx rfl (hb hby d14_55) rfl (zXS_iconst X0.here hx rfl (hb hby d14_56) (zXT_ishl X0.here hx rfl (hb hby d14_57) rfl hr)))) ?_
  obtain ⟨fs, hr, hrun, hended, hW, hsame⟩ := X0.leave (v := some (.int (2 : Int32))) (fun h => by rw [Bd.returns] at h; cases h)
  refine ⟨_, _, retOut X0 hx Bd.returns rfl (Or.inl ⟨rfl, Or.inl rfl, _, rfl⟩) (hb hby d14_58) hr, hrun, hended, _, _, rfl, ?_, ⟨⟨_, rfl⟩, hW, hsame.mono (by decide) (by decide)⟩⟩
  show Qnbl1 Z  h0 n0 _ s₁.heap _
  rw [e0]
  exact ⟨rfl, N0, rfl⟩
def Qnbf1 (Z : State)  (h0 : Heap) (n0 : Nat) (v : Option Value) (h : Heap) (L : List Loc) : Prop := ∃ (r : Addr), ∃ (kr : ClassId), v = some (.ref r) ∧ Fr n0 L ∧ Keep h0 h [] ∧ (Arv Z h r kr .byte (2 : Int32) ([(.int (0 : Int32)), (.int (0 : Int32))]) (.int (0 : Int32))) ∧ (@LE.le Nat instLENat h0.size r)
theorem ef_nbf1 (m : MethodId) (x0 : Int32) : entryFrame m #[(.int x0)] 1 = mkF m 0 #[sI x0] [] := by first | (simp [entryFrame, mkF, argsToLocals, Value.category]; done) | rfl
theorem d13_0 : decode jdk_52_method_2_code 0 = .ok (.iload_n 0, 1) := by decide +kernel
theorem d13_1 : decode jdk_52_method_2_code 1 = .ok (.invokestatic 11, 3) := by decide +kernel
theorem pd_0 : parseMethodDescriptor "(I)I" = some ⟨[.int], some .int⟩ := by decide +kernel
theorem d13_4 : decode jdk_52_method_2_code 4 = .ok (.newarray .byte, 2) := by decide +kernel
theorem d13_6 : decode jdk_52_method_2_code 6 = .ok (.areturn, 1) := by decide +kernel
set_option maxRecDepth 65536 in
set_option maxHeartbeats 40000000 in
theorem nbf1 (l : Launch) (Z : State) (a0 : Array Value) (hw : ∀ d ∈ tables_1, d.before a0 Z = true) (ws : List Jvm.Cond)  (h0 : Heap) (n0 : Nat) (Z0 : n0 ≤ h0.size) :
    MetFree l y_3 (head1 (Jvm.Cond.code y_3 jdk_52_method_2_code 1 (some (.array .byte)) :: ws) r_m1) (fun a_ U_ => a_ = #[(.int (1 : Int32))] ∧ Z.Warmed39 U_.vm ∧ U_.heap = h0) (fun _ _ _ _ _ => True) (fun _ U_ o_ V_ => ∃ v_ L_, o_ = .returned v_ ∧ Qnbf1 Z  h0 n0 v_ V_.heap L_ ∧ FrameEnd U_ o_ V_ L_ r_m1.cells r_m1.slots) := by
  refine MetFree.of_bodySF (plainFor_of_name pn_0) hisR ?_
  intro p e s m args below meth c s₁ Bd hml0 hP hK
  obtain ⟨rfl, hZ, hh⟩ := hP
  have hx := Bd.exec
  have hby := Bd.bytes
  have hml : c.maxLocals = 1 := hml0
  have hown : s.vm.findClass "java/lang/StringUTF16" = some m.cls := findClass_of_methodNamed Bd.named
  have hnm := (name_of_methodNamed Bd.named Bd.method).1
  have X0 : Stand p l e r_m1 s m #[(.int (1 : Int32))] below meth c s₁ [] 0 0 := Stand.of_body Bd
  have e0 : s₁.heap = h0 := by rw [← hh, Bd.state]; rfl
  have N0 := Fr.nil n0
  refine Gl.go (A := s₁.setTop (entryFrame m #[(.int (1 : Int32))] 1)) (P := fun o_ U_ => ∃ v_ L_, o_ = .returned v_ ∧ Qnbf1 Z  h0 n0 v_ U_.heap L_ ∧ FrameEnd s o_ U_ L_ r_m1.cells r_m1.slots) (fun t_ k_ => castTop (ef_nbf1 m (1 : Int32)) k_) ?_
  show Gl p.tables e below _ (s₁.setTop (mkF m 0 #[sI 1] []))
  refine Gl.go (fun _ hr => zXS_iloadN X0.here hx rfl (hb hby d13_0) rfl hr) ?_
  have zz17 : n0 ≤ h0.size := by omega
  refine gStaticN Gl.cl (y := y_2) (argsL := [(.int (1 : Int32))]) (rest := []) (mc := 0) (ms := 0) X0 hx hZ hown (mvT hZ (tw hw 59 rfl)) (mvT hZ (tw hw 60 rfl)) (mvT hZ (tw hw 33 rfl)) (mvT hZ (tw hw 61 rfl)) (by decide) (backOf (W := 0) (nbl1 l Z a0 hw []  h0 n0 zz17 ) hZ (tw hw 61 rfl) (tw hw 33 rfl) (by decide) (by decide)) rfl (by rw [hml]; rfl) (lenOf pd_0 rfl) rfl (by exact Nat.le_of_eq rfl) (hb hby d13_1) rfl e0 (by decide) (by decide) ?_
  intro v17 T17 Lc17 hQ17 X17
  obtain ⟨rfl, Nq17, e17⟩ := hQ17
  have N17 := Fr.app N0 Nq17
  refine gNewP Gl.cl X17 hx hZ (tw hw 35 rfl) e17 rfl (hb hby d13_4) rfl (by decide) (cap := 2) (by decide) (by decide) (by decide) (by decide) ?_
  intro T18 h18 b18 k18 g18 X18 e18 E18 A18
  have z19 : h0.size ≤ h18.size := E18.1
  have lt18 := own_alt A18.lt
  have V18 : Arv Z h18 b18 k18 .byte (2 : Int32) [(.int (0 : Int32)), (.int (0 : Int32))] (.int (0 : Int32)) := (Arv.new A18 (by decide)).pad (pad_rep [] (.int (0 : Int32)) 2)
  obtain ⟨fs, hr, hrun, hended, hW, hsame⟩ := X18.leave (v := some (.ref b18)) (fun h => by rw [Bd.returns] at h; cases h)
  refine ⟨_, _, retOut X18 hx Bd.returns rfl (Or.inr (Or.inr (Or.inr (Or.inr ⟨rfl, rfl, rfl⟩)))) (hb hby d13_6) hr, hrun, hended, _, _, rfl, ?_, ⟨⟨_, rfl⟩, hW, hsame.mono (by decide) (by decide)⟩⟩
  show Qnbf1 Z  h0 n0 _ T18.heap _
  rw [e18]
  exact ⟨b18, k18, rfl, N17, ((Keep.refl h0 []).ext E18), V18, (by omega)⟩
def Qtob1 (Z : State) (b : Addr) (ck : ClassId) (c0 : Int32) (h0 : Heap) (n0 : Nat) (v : Option Value) (h : Heap) (L : List Loc) : Prop := ∃ (r : Addr), ∃ (kr : ClassId), v = some (.ref r) ∧ Fr n0 L ∧ Keep h0 h [] ∧ (Arv Z h r kr .byte (2 : Int32) (StrChars.Road.wideBytes ([c0] : List Int32)) (.int (0 : Int32))) ∧ (@LE.le Nat instLENat h0.size r)
theorem ef_tob1 (m : MethodId) (x0 : Addr) (x1 : Int32) (x2 : Int32) : entryFrame m #[(.ref x0), (.int x1), (.int x2)] 5 = mkF m 0 #[sR x0, sI x1, sI x2, sU, sU] [] := by first | (simp [entryFrame, mkF, argsToLocals, Value.category]; done) | rfl
theorem d12_0 : decode jdk_52_method_14_code 0 = .ok (.iload_n 2, 1) := by decide +kernel
theorem d12_1 : decode jdk_52_method_14_code 1 = .ok (.invokestatic 107, 3) := by decide +kernel
theorem pd_1 : parseMethodDescriptor "(I)[B" = some ⟨[.int], some (.array .byte)⟩ := by decide +kernel
theorem d12_4 : decode jdk_52_method_14_code 4 = .ok (.astore_n 3, 1) := by decide +kernel
theorem d12_5 : decode jdk_52_method_14_code 5 = .ok (.iconst 0, 1) := by decide +kernel
theorem d12_6 : decode jdk_52_method_14_code 6 = .ok (.istore 4, 2) := by decide +kernel
theorem d12_8 : decode jdk_52_method_14_code 8 = .ok (.iload 4, 2) := by decide +kernel
theorem d12_10 : decode jdk_52_method_14_code 10 = .ok (.iload_n 2, 1) := by decide +kernel
theorem d12_11 : decode jdk_52_method_14_code 11 = .ok (.if_icmp .ge 21, 3) := by decide +kernel
theorem d12_14 : decode jdk_52_method_14_code 14 = .ok (.aload_n 3, 1) := by decide +kernel
theorem d12_15 : decode jdk_52_method_14_code 15 = .ok (.iload 4, 2) := by decide +kernel
theorem d12_17 : decode jdk_52_method_14_code 17 = .ok (.aload_n 0, 1) := by decide +kernel
theorem d12_18 : decode jdk_52_method_14_code 18 = .ok (.iload_n 1, 1) := by decide +kernel
theorem d12_19 : decode jdk_52_method_14_code 19 = .ok (.caload, 1) := by decide +kernel
theorem d12_20 : decode jdk_52_method_14_code 20 = .ok (.invokestatic 111, 3) := by decide +kernel
theorem pd_2 : parseMethodDescriptor "([BII)V" = some ⟨[(.array .byte), .int, .int], none⟩ := by decide +kernel
theorem d12_23 : decode jdk_52_method_14_code 23 = .ok (.iinc 1 1, 3) := by decide +kernel
theorem d12_26 : decode jdk_52_method_14_code 26 = .ok (.iinc 4 1, 3) := by decide +kernel
theorem d12_29 : decode jdk_52_method_14_code 29 = .ok (.goto (-21), 3) := by decide +kernel
theorem d12_32 : decode jdk_52_method_14_code 32 = .ok (.aload_n 3, 1) := by decide +kernel
theorem d12_33 : decode jdk_52_method_14_code 33 = .ok (.areturn, 1) := by decide +kernel
set_option maxRecDepth 65536 in
set_option maxHeartbeats 40000000 in
theorem tob1 (l : Launch) (Z : State) (a0 : Array Value) (hw : ∀ d ∈ tables_1, d.before a0 Z = true) (ws : List Jvm.Cond) (b : Addr) (ck : ClassId) (c0 : Int32) (h0 : Heap) (n0 : Nat) (Z0 : n0 ≤ h0.size) (q0 : Old Z n0 h0) (q1 : Sta Z Z.heap "java/lang/StringUTF16" "$assertionsDisabled" "Z" (.int (1 : Int32))) (q2 : Sta Z Z.heap "java/lang/StringUTF16" "HI_BYTE_SHIFT" "I" (.int (0 : Int32))) (q3 : Sta Z Z.heap "java/lang/StringUTF16" "LO_BYTE_SHIFT" "I" (.int (8 : Int32))) (q4 : Arv Z h0 b ck .char (1 : Int32) ([(.int c0)]) (.int (0 : Int32))) :
    MetFree l y_4 (head1 (Jvm.Cond.code y_4 jdk_52_method_14_code 5 (some (.array .byte)) :: ws) r_m2) (fun a_ U_ => a_ = #[(.ref b), (.int (0 : Int32)), (.int (1 : Int32))] ∧ Z.Warmed39 U_.vm ∧ U_.heap = h0) (fun _ _ _ _ _ => True) (fun _ U_ o_ V_ => ∃ v_ L_, o_ = .returned v_ ∧ Qtob1 Z b ck c0 h0 n0 v_ V_.heap L_ ∧ FrameEnd U_ o_ V_ L_ r_m2.cells r_m2.slots) := by
  refine MetFree.of_bodySF (plainFor_of_name pn_0) hisR ?_
  intro p e s m args below meth c s₁ Bd hml0 hP hK
  obtain ⟨rfl, hZ, hh⟩ := hP
  have hx := Bd.exec
  have hby := Bd.bytes
  have hml : c.maxLocals = 5 := hml0
  have hown : s.vm.findClass "java/lang/StringUTF16" = some m.cls := findClass_of_methodNamed Bd.named
  have hnm := (name_of_methodNamed Bd.named Bd.method).1
  have X0 : Stand p l e r_m2 s m #[(.ref b), (.int (0 : Int32)), (.int (1 : Int32))] below meth c s₁ [] 0 0 := Stand.of_body Bd
  have e0 : s₁.heap = h0 := by rw [← hh, Bd.state]; rfl
  have N0 := Fr.nil n0
  have zo := q0.1
  have lt20 := own_alt q4.lt
  refine Gl.go (A := s₁.setTop (entryFrame m #[(.ref b), (.int (0 : Int32)), (.int (1 : Int32))] 5)) (P := fun o_ U_ => ∃ v_ L_, o_ = .returned v_ ∧ Qtob1 Z b ck c0 h0 n0 v_ U_.heap L_ ∧ FrameEnd s o_ U_ L_ r_m2.cells r_m2.slots) (fun t_ k_ => castTop (ef_tob1 m b (0 : Int32) (1 : Int32)) k_) ?_
  show Gl p.tables e below _ (s₁.setTop (mkF m 0 #[sR b, sI 0, sI 1, sU, sU] []))
  refine Gl.go (fun _ hr => zXS_iloadN X0.here hx rfl (hb hby d12_0) rfl hr) ?_
  have zz21 : n0 ≤ h0.size := by omega
  refine gStaticN Gl.cl (y := y_3) (argsL := [(.int (1 : Int32))]) (rest := []) (mc := 1) (ms := 8) X0 hx hZ hown (mvT hZ (tw hw 56 rfl)) (mvT hZ (tw hw 57 rfl)) (mvT hZ (tw hw 33 rfl)) (mvT hZ (tw hw 58 rfl)) (by decide) (backOf (W := 0) (nbf1 l Z a0 hw []  h0 n0 zz21 ) hZ (tw hw 58 rfl) (tw hw 33 rfl) (by decide) (by decide)) rfl (by rw [hml]; rfl) (lenOf pd_1 rfl) rfl (by exact Nat.le_of_eq rfl) (hb hby d12_1) rfl e0 (by decide) (by decide) ?_
  intro v21 T21 Lc21 hQ21 X21
  obtain ⟨r_21, kr_21, rfl, Nq21, K21, f21_0, f21_1⟩ := hQ21
  have z22 : h0.size ≤ T21.heap.size := K21.1
  have N21 := Fr.app N0 Nq21
  have lt23 := own_alt f21_0.lt
  refine Gl.go (fun _ hr => zXS_astoreN X21.here hx rfl (hb hby d12_4) rfl rfl (l' := #[sR b, sI 0, sI 1, sR r_21, sU]) rfl (zXS_iconst X21.here hx rfl (hb hby d12_5) (zXS_istore X21.here hx rfl (hb hby d12_6) rfl (l' := #[sR b, sI 0, sI 1, sR r_21, sI 0]) rfl (zXS_iload X21.here hx rfl (hb hby d12_8) rfl (zXS_iloadN X21.here hx rfl (hb hby d12_10) rfl (zXS_icmpNo X21.here hx rfl (hb hby d12_11) rfl (XT.ii_ge_f (by decide)) (zXS_aloadN X21.here hx rfl (hb hby d12_14) rfl rfl (zXS_iload X21.here hx rfl (hb hby d12_15) rfl (zXS_aloadN X21.here hx rfl (hb hby d12_17) rfl rfl (zXS_iloadN X21.here hx rfl (hb hby d12_18) rfl hr)))))))))) ?_
  have Vc24 := (q4.keep K21 nin0)
  obtain ⟨c25, a25, q25, s25, m25, H25, U25⟩ := id Vc24
  have i25 := inb_of s25 (j := (0 : Int32)) ⟨(by decide), (by decide)⟩
  refine g_caload Gl.cl X21 hx hZ (rfl : T21.heap = T21.heap) a25 i25 (v := (.int c0)) (H25.at i25 rfl) rfl rfl (hb hby d12_19) ?_
  have Oc27 := (q0.keep K21 all0)
  have zz26 : n0 ≤ T21.heap.size := by omega
  refine gStaticN Gl.cl (y := y_0) (argsL := [(.ref r_21), (.int (0 : Int32)), (.int c0)]) (rest := []) (mc := 0) (ms := 0) X21 hx hZ hown (mvT hZ (tw hw 63 rfl)) (mvT hZ (tw hw 64 rfl)) (mvT hZ (tw hw 33 rfl)) (mvT hZ (tw hw 65 rfl)) (by decide) (backOf (W := 0) (pch l Z a0 hw [] r_21 kr_21 2 ([(.int (0 : Int32)), (.int (0 : Int32))]) 0 c0 T21.heap n0 zz26 Oc27 q1 q2 q3 f21_0 (by omega) (by decide) (by decide) (Nat.le_of_ble_eq_true rfl)) hZ (tw hw 65 rfl) (tw hw 33 rfl) (by decide) (by decide)) rfl (by rw [hml]; rfl) (lenOf pd_2 rfl) rfl (by exact Nat.le_of_eq rfl) (hb hby d12_20) rfl (rfl : T21.heap = T21.heap) (by decide) (by decide) ?_
  intro v26 T26 Lc26 hQ26 X26
  obtain ⟨rfl, Nq26, K26, f26_0⟩ := hQ26
  have z28 : T21.heap.size ≤ T26.heap.size := K26.1
  have N26 := Fr.app N21 Nq26
  have lt29 := own_alt f26_0.lt
  refine Gl.go (fun _ hr => zXS_iinc X26.here hx rfl (hb hby d12_23) rfl (l' := #[sR b, sI 1, sI 1, sR r_21, sI 0]) rfl (zXS_iinc X26.here hx rfl (hb hby d12_26) rfl (l' := #[sR b, sI 1, sI 1, sR r_21, sI 1]) rfl (zXS_goto X26.here hx rfl (pc0 := 29) (pc' := 8) rfl (hb hby d12_29) (by decide) (by decide) (zXS_iload X26.here hx rfl (hb hby d12_8) rfl (zXS_iloadN X26.here hx rfl (hb hby d12_10) rfl (zXS_icmpYes X26.here hx rfl (pc0 := 11) (pc' := 32) rfl (hb hby d12_11) rfl (XT.ii_ge_t (by decide)) (by decide) (by decide) (zXS_aloadN X26.here hx rfl (hb hby d12_32) rfl rfl hr))))))) ?_
  obtain ⟨fs, hr, hrun, hended, hW, hsame⟩ := X26.leave (v := some (.ref r_21)) (fun h => by rw [Bd.returns] at h; cases h)
  have om30 : @LE.le Nat instLENat h0.size r_21 := by omega
  refine ⟨_, _, retOut X26 hx Bd.returns rfl (Or.inr (Or.inr (Or.inr (Or.inr ⟨rfl, rfl, rfl⟩)))) (hb hby d12_33) hr, hrun, hended, _, _, rfl, ?_, ⟨⟨_, rfl⟩, hW, hsame.mono (by decide) (by decide)⟩⟩
  show Qtob1 Z b ck c0 h0 n0 _ T26.heap _
  exact ⟨r_21, kr_21, rfl, N26, (((Keep.refl h0 []).trans K21 all0).trans K26 (allS (P := fun x_ => x_ ∈ ([] : List Addr) ∨ h0.size ≤ x_) (Or.inr (own_ale om30)) all0)), f26_0, (by omega)⟩
def Qcmq1 (Z : State) (b : Addr) (ck : ClassId) (a : Addr) (ka : ClassId) (c0 : Int32) (h0 : Heap) (n0 : Nat) (v : Option Value) (h : Heap) (L : List Loc) : Prop := ∃ (r : Nat), ∃ (ys : List Value), v = some (.int (Int32.ofNat r)) ∧ Fr n0 L ∧ Keep h0 h [a] ∧ (Arv Z h a ka .byte (1 : Int32) ys (.int (0 : Int32))) ∧ ((r = 1 ∧ ys = [(.int (StrChars.lo8 c0))] ∧ ∀ c ∈ ([c0] : List Int32), ¬ (255 : Int32) < c) ∨ (r < 1 ∧ (255 : Int32) < ([c0] : List Int32).getD r 0))
theorem ef_cmq1 (m : MethodId) (x0 : Addr) (x1 : Int32) (x2 : Addr) (x3 : Int32) (x4 : Int32) : entryFrame m #[(.ref x0), (.int x1), (.ref x2), (.int x3), (.int x4)] 7 = mkF m 0 #[sR x0, sI x1, sR x2, sI x3, sI x4, sU, sU] [] := by first | (simp [entryFrame, mkF, argsToLocals, Value.category]; done) | rfl
theorem d8_0 : decode jdk_52_method_21_code 0 = .ok (.iconst 0, 1) := by decide +kernel
theorem d8_1 : decode jdk_52_method_21_code 1 = .ok (.istore 5, 2) := by decide +kernel
theorem d8_3 : decode jdk_52_method_21_code 3 = .ok (.iload 5, 2) := by decide +kernel
theorem d8_5 : decode jdk_52_method_21_code 5 = .ok (.iload 4, 2) := by decide +kernel
theorem d8_7 : decode jdk_52_method_21_code 7 = .ok (.if_icmp .ge 37, 3) := by decide +kernel
theorem d8_10 : decode jdk_52_method_21_code 10 = .ok (.aload_n 0, 1) := by decide +kernel
theorem d8_11 : decode jdk_52_method_21_code 11 = .ok (.iload_n 1, 1) := by decide +kernel
theorem d8_12 : decode jdk_52_method_21_code 12 = .ok (.caload, 1) := by decide +kernel
theorem d8_13 : decode jdk_52_method_21_code 13 = .ok (.istore 6, 2) := by decide +kernel
theorem d8_15 : decode jdk_52_method_21_code 15 = .ok (.iload 6, 2) := by decide +kernel
theorem d8_17 : decode jdk_52_method_21_code 17 = .ok (.sipush 255, 3) := by decide +kernel
theorem d8_20 : decode jdk_52_method_21_code 20 = .ok (.if_icmp .le 6, 3) := by decide +kernel
theorem d8_23 : decode jdk_52_method_21_code 23 = .ok (.iload 5, 2) := by decide +kernel
theorem d8_25 : decode jdk_52_method_21_code 25 = .ok (.ireturn, 1) := by decide +kernel
theorem d8_26 : decode jdk_52_method_21_code 26 = .ok (.aload_n 2, 1) := by decide +kernel
theorem d8_27 : decode jdk_52_method_21_code 27 = .ok (.iload_n 3, 1) := by decide +kernel
theorem d8_28 : decode jdk_52_method_21_code 28 = .ok (.iload 6, 2) := by decide +kernel
theorem d8_30 : decode jdk_52_method_21_code 30 = .ok (.i2b, 1) := by decide +kernel
theorem d8_31 : decode jdk_52_method_21_code 31 = .ok (.bastore, 1) := by decide +kernel
theorem d8_32 : decode jdk_52_method_21_code 32 = .ok (.iinc 1 1, 3) := by decide +kernel
theorem d8_35 : decode jdk_52_method_21_code 35 = .ok (.iinc 3 1, 3) := by decide +kernel
theorem d8_38 : decode jdk_52_method_21_code 38 = .ok (.iinc 5 1, 3) := by decide +kernel
theorem d8_41 : decode jdk_52_method_21_code 41 = .ok (.goto (-38), 3) := by decide +kernel
theorem d8_44 : decode jdk_52_method_21_code 44 = .ok (.iload 4, 2) := by decide +kernel
theorem d8_46 : decode jdk_52_method_21_code 46 = .ok (.ireturn, 1) := by decide +kernel
set_option maxRecDepth 65536 in
set_option maxHeartbeats 40000000 in
theorem cmq1 (l : Launch) (Z : State) (a0 : Array Value) (hw : ∀ d ∈ tables_1, d.before a0 Z = true) (ws : List Jvm.Cond) (b : Addr) (ck : ClassId) (a : Addr) (ka : ClassId) (c0 : Int32) (h0 : Heap) (n0 : Nat) (Z0 : n0 ≤ h0.size) (q0 : Arv Z h0 b ck .char (1 : Int32) ([(.int c0)]) (.int (0 : Int32))) (q1 : Arv Z h0 a ka .byte (1 : Int32) ([(.int (0 : Int32))]) (.int (0 : Int32))) (q2 : @LE.le Nat instLENat n0 a) (q3 : ¬ @Eq Nat a b) :
    MetFree l y_5 (head1 (Jvm.Cond.code y_5 jdk_52_method_21_code 7 (some .int) :: ws) r_m0) (fun a_ U_ => a_ = #[(.ref b), (.int (0 : Int32)), (.ref a), (.int (0 : Int32)), (.int (1 : Int32))] ∧ Z.Warmed39 U_.vm ∧ U_.heap = h0) (fun _ _ _ _ _ => True) (fun _ U_ o_ V_ => ∃ v_ L_, o_ = .returned v_ ∧ Qcmq1 Z b ck a ka c0 h0 n0 v_ V_.heap L_ ∧ FrameEnd U_ o_ V_ L_ r_m0.cells r_m0.slots) := by
  refine MetFree.of_bodySF (plainFor_of_name pn_0) hisR ?_
  intro p e s m args below meth c s₁ Bd hml0 hP hK
  obtain ⟨rfl, hZ, hh⟩ := hP
  have hx := Bd.exec
  have hby := Bd.bytes
  have hml : c.maxLocals = 7 := hml0
  have hown : s.vm.findClass "java/lang/StringUTF16" = some m.cls := findClass_of_methodNamed Bd.named
  have hnm := (name_of_methodNamed Bd.named Bd.method).1
  have X0 : Stand p l e r_m0 s m #[(.ref b), (.int (0 : Int32)), (.ref a), (.int (0 : Int32)), (.int (1 : Int32))] below meth c s₁ [] 0 0 := Stand.of_body Bd
  have e0 : s₁.heap = h0 := by rw [← hh, Bd.state]; rfl
  have N0 := Fr.nil n0
  have lt31 := own_alt q0.lt
  have lt32 := own_alt q1.lt
  refine Gl.go (A := s₁.setTop (entryFrame m #[(.ref b), (.int (0 : Int32)), (.ref a), (.int (0 : Int32)), (.int (1 : Int32))] 7)) (P := fun o_ U_ => ∃ v_ L_, o_ = .returned v_ ∧ Qcmq1 Z b ck a ka c0 h0 n0 v_ U_.heap L_ ∧ FrameEnd s o_ U_ L_ r_m0.cells r_m0.slots) (fun t_ k_ => castTop (ef_cmq1 m b (0 : Int32) a (0 : Int32) (1 : Int32)) k_) ?_
  show Gl p.tables e below _ (s₁.setTop (mkF m 0 #[sR b, sI 0, sR a, sI 0, sI 1, sU, sU] []))
  refine Gl.go (fun _ hr => zXS_iconst X0.here hx rfl (hb hby d8_0) (zXS_istore X0.here hx rfl (hb hby d8_1) rfl (l' := #[sR b, sI 0, sR a, sI 0, sI 1, sI 0, sU]) rfl (zXS_iload X0.here hx rfl (hb hby d8_3) rfl (zXS_iload X0.here hx rfl (hb hby d8_5) rfl (zXS_icmpNo X0.here hx rfl (hb hby d8_7) rfl (XT.ii_ge_f (by decide)) (zXS_aloadN X0.here hx rfl (hb hby d8_10) rfl rfl (zXS_iloadN X0.here hx rfl (hb hby d8_11) rfl hr))))))) ?_
  obtain ⟨c33, a33, q33, s33, m33, H33, U33⟩ := id q0
  have i33 := inb_of s33 (j := (0 : Int32)) ⟨(by decide), (by decide)⟩
  refine g_caload Gl.cl X0 hx hZ e0 a33 i33 (v := (.int c0)) (H33.at i33 rfl) rfl rfl (hb hby d8_12) ?_
  refine Gl.go (fun _ hr => zXS_istore X0.here hx rfl (hb hby d8_13) rfl (l' := #[sR b, sI 0, sR a, sI 0, sI 1, sI 0, sI c0]) rfl (zXS_iload X0.here hx rfl (hb hby d8_15) rfl (zXS_sipush X0.here hx rfl (hb hby d8_17) hr))) ?_
  by_cases hc34 : (255 : Int32) < c0
  · refine Gl.go (fun _ hr => zXS_icmpNo X0.here hx rfl (hb hby d8_20) rfl (XT.ii_le_f hc34) (zXS_iload X0.here hx rfl (hb hby d8_23) rfl hr)) ?_
    obtain ⟨fs, hr, hrun, hended, hW, hsame⟩ := X0.leave (v := some (.int (0 : Int32))) (fun h => by rw [Bd.returns] at h; cases h)
    refine ⟨_, _, retOut X0 hx Bd.returns rfl (Or.inl ⟨rfl, Or.inl rfl, _, rfl⟩) (hb hby d8_25) hr, hrun, hended, _, _, rfl, ?_, ⟨⟨_, rfl⟩, hW, hsame.mono (by decide) (by decide)⟩⟩
    show Qcmq1 Z b ck a ka c0 h0 n0 _ s₁.heap _
    rw [e0]
    exact ⟨0, [(.int (0 : Int32))], rfl, N0, (Keep.refl h0 [a]), q1, (Or.inr ⟨by decide, hc34⟩)⟩
  · refine Gl.go (fun _ hr => zXS_icmpYes X0.here hx rfl (pc0 := 20) (pc' := 26) rfl (hb hby d8_20) rfl (XT.ii_le_t hc34) (by decide) (by decide) (zXS_aloadN X0.here hx rfl (hb hby d8_26) rfl rfl (zXS_iloadN X0.here hx rfl (hb hby d8_27) rfl (zXS_iload X0.here hx rfl (hb hby d8_28) rfl (zXT_i2b X0.here hx rfl (hb hby d8_30) rfl hr))))) ?_
    show Gl p.tables e below _ (s₁.setTop (mkF m 31 #[sR b, sI 0, sR a, sI 0, sI 1, sI 0, sI c0] [(.int (c0.toInt8.toInt32)), (.int (0 : Int32)), (.ref a)]))
    show Gl p.tables e below _ (s₁.setTop (mkF m 31 #[sR b, sI 0, sR a, sI 0, sI 1, sI 0, sI c0] [(.int (StrChars.lo8 c0)), (.int (0 : Int32)), (.ref a)]))
    obtain ⟨c35, a35, q35, s35, m35, H35, U35⟩ := id q1
    refine gstB Gl.cl X0 hx hZ e0 a35 (j := (0 : Int32)) (inb_of s35 ⟨(by decide), (by decide)⟩) rfl rfl (hb hby d8_31) ?_
    intro T35 h35 X35 e35 W35
    have z36 : h0.size ≤ h35.size := (Keep.of_wr W35).1
    rw [(own_narb _)] at W35
    have V35 : Arv Z h35 a ka .byte (1 : Int32) [(.int (StrChars.lo8 c0))] (.int (0 : Int32)) := Arv.set a35 q35 s35 m35 H35 U35 (own_fitb _) W35 0 rfl (Nat.le_of_ble_eq_true rfl)
    have om37 : @LE.le Nat instLENat n0 a := by omega
    have N35 := Fr.snoc X35 N0 (own_ale om37)
    refine Gl.go (fun _ hr => zXS_iinc X35.here hx rfl (hb hby d8_32) rfl (l' := #[sR b, sI 1, sR a, sI 0, sI 1, sI 0, sI c0]) rfl (zXS_iinc X35.here hx rfl (hb hby d8_35) rfl (l' := #[sR b, sI 1, sR a, sI 1, sI 1, sI 0, sI c0]) rfl (zXS_iinc X35.here hx rfl (hb hby d8_38) rfl (l' := #[sR b, sI 1, sR a, sI 1, sI 1, sI 1, sI c0]) rfl (zXS_goto X35.here hx rfl (pc0 := 41) (pc' := 3) rfl (hb hby d8_41) (by decide) (by decide) (zXS_iload X35.here hx rfl (hb hby d8_3) rfl (zXS_iload X35.here hx rfl (hb hby d8_5) rfl (zXS_icmpYes X35.here hx rfl (pc0 := 7) (pc' := 44) rfl (hb hby d8_7) rfl (XT.ii_ge_t (by decide)) (by decide) (by decide) (zXS_iload X35.here hx rfl (hb hby d8_44) rfl hr)))))))) ?_
    obtain ⟨fs, hr, hrun, hended, hW, hsame⟩ := X35.leave (v := some (.int (1 : Int32))) (fun h => by rw [Bd.returns] at h; cases h)
    refine ⟨_, _, retOut X35 hx Bd.returns rfl (Or.inl ⟨rfl, Or.inl rfl, _, rfl⟩) (hb hby d8_46) hr, hrun, hended, _, _, rfl, ?_, ⟨⟨_, rfl⟩, hW, hsame.mono (by decide) (by decide)⟩⟩
    show Qcmq1 Z b ck a ka c0 h0 n0 _ T35.heap _
    rw [e35]
    exact ⟨1, [(.int (StrChars.lo8 c0))], rfl, N35, ((Keep.refl h0 [a]).wr W35 (Or.inl (by simp))), V35, (Or.inl ⟨rfl, rfl, (own_cS (P := fun c => ¬ (255 : Int32) < c) hc34 own_c0)⟩)⟩
def Qnbl2 (Z : State)  (h0 : Heap) (n0 : Nat) (v : Option Value) (h : Heap) (L : List Loc) : Prop := v = some (.int (4 : Int32)) ∧ Fr n0 L ∧ h = h0
theorem ef_nbl2 (m : MethodId) (x0 : Int32) : entryFrame m #[(.int x0)] 1 = mkF m 0 #[sI x0] [] := by first | (simp [entryFrame, mkF, argsToLocals, Value.category]; done) | rfl
set_option maxRecDepth 65536 in
set_option maxHeartbeats 40000000 in
theorem nbl2 (l : Launch) (Z : State) (a0 : Array Value) (hw : ∀ d ∈ tables_1, d.before a0 Z = true) (ws : List Jvm.Cond)  (h0 : Heap) (n0 : Nat) (Z0 : n0 ≤ h0.size) :
    MetFree l y_2 (head1 (Jvm.Cond.code y_2 jdk_52_method_3_code 1 (some .int) :: ws) r_m0) (fun a_ U_ => a_ = #[(.int (2 : Int32))] ∧ Z.Warmed39 U_.vm ∧ U_.heap = h0) (fun _ _ _ _ _ => True) (fun _ U_ o_ V_ => ∃ v_ L_, o_ = .returned v_ ∧ Qnbl2 Z  h0 n0 v_ V_.heap L_ ∧ FrameEnd U_ o_ V_ L_ r_m0.cells r_m0.slots) := by
  refine MetFree.of_bodySF (plainFor_of_name pn_0) hisR ?_
  intro p e s m args below meth c s₁ Bd hml0 hP hK
  obtain ⟨rfl, hZ, hh⟩ := hP
  have hx := Bd.exec
  have hby := Bd.bytes
  have hml : c.maxLocals = 1 := hml0
  have hown : s.vm.findClass "java/lang/StringUTF16" = some m.cls := findClass_of_methodNamed Bd.named
  have hnm := (name_of_methodNamed Bd.named Bd.method).1
  have X0 : Stand p l e r_m0 s m #[(.int (2 : Int32))] below meth c s₁ [] 0 0 := Stand.of_body Bd
  have e0 : s₁.heap = h0 := by rw [← hh, Bd.state]; rfl
  have N0 := Fr.nil n0
  refine Gl.go (A := s₁.setTop (entryFrame m #[(.int (2 : Int32))] 1)) (P := fun o_ U_ => ∃ v_ L_, o_ = .returned v_ ∧ Qnbl2 Z  h0 n0 v_ U_.heap L_ ∧ FrameEnd s o_ U_ L_ r_m0.cells r_m0.slots) (fun t_ k_ => castTop (ef_nbl2 m (2 : Int32)) k_) ?_
  show Gl p.tables e below _ (s₁.setTop (mkF m 0 #[sI 2] []))
  refine Gl.go (fun _ hr => zXS_iloadN X0.here hx rfl (hb hby d14_0) rfl (zXS_ifYes X0.here hx rfl (pc0 := 1) (pc' := 12) rfl (hb hby d14_1) rfl (XT.i0_ge_t (by decide)) (by decide) (by decide) (zXS_iloadN X0.here hx rfl (hb hby d14_12) rfl hr))) ?_
  refine Gl.go (X0.ldcInt hx hown (mvT hZ (tw hw 62 rfl)) rfl (hb hby d14_13)) ?_
  refine Gl.go (fun _ hr => zXS_icmpYes X0.here hx rfl (pc0 := 15) (pc' := 55) rfl (hb hby d14_15) rfl (XT.ii_lt_t (by decide)) (by decide) (by decide) (zXS_iloadN X0.here hx rfl (hb hby d14_55) rfl (zXS_iconst X0.here hx rfl (hb hby d14_56) (zXT_ishl X0.here hx rfl (hb hby d14_57) rfl hr)))) ?_
  obtain ⟨fs, hr, hrun, hended, hW, hsame⟩ := X0.leave (v := some (.int (4 : Int32))) (fun h => by rw [Bd.returns] at h; cases h)
  refine ⟨_, _, retOut X0 hx Bd.returns rfl (Or.inl ⟨rfl, Or.inl rfl, _, rfl⟩) (hb hby d14_58) hr, hrun, hended, _, _, rfl, ?_, ⟨⟨_, rfl⟩, hW, hsame.mono (by decide) (by decide)⟩⟩
  show Qnbl2 Z  h0 n0 _ s₁.heap _
  rw [e0]
  exact ⟨rfl, N0, rfl⟩
def Qnbf2 (Z : State)  (h0 : Heap) (n0 : Nat) (v : Option Value) (h : Heap) (L : List Loc) : Prop := ∃ (r : Addr), ∃ (kr : ClassId), v = some (.ref r) ∧ Fr n0 L ∧ Keep h0 h [] ∧ (Arv Z h r kr .byte (4 : Int32) ([(.int (0 : Int32)), (.int (0 : Int32)), (.int (0 : Int32)), (.int (0 : Int32))]) (.int (0 : Int32))) ∧ (@LE.le Nat instLENat h0.size r)
theorem ef_nbf2 (m : MethodId) (x0 : Int32) : entryFrame m #[(.int x0)] 1 = mkF m 0 #[sI x0] [] := by first | (simp [entryFrame, mkF, argsToLocals, Value.category]; done) | rfl
set_option maxRecDepth 65536 in
set_option maxHeartbeats 40000000 in
theorem nbf2 (l : Launch) (Z : State) (a0 : Array Value) (hw : ∀ d ∈ tables_1, d.before a0 Z = true) (ws : List Jvm.Cond)  (h0 : Heap) (n0 : Nat) (Z0 : n0 ≤ h0.size) :
    MetFree l y_3 (head1 (Jvm.Cond.code y_3 jdk_52_method_2_code 1 (some (.array .byte)) :: ws) r_m1) (fun a_ U_ => a_ = #[(.int (2 : Int32))] ∧ Z.Warmed39 U_.vm ∧ U_.heap = h0) (fun _ _ _ _ _ => True) (fun _ U_ o_ V_ => ∃ v_ L_, o_ = .returned v_ ∧ Qnbf2 Z  h0 n0 v_ V_.heap L_ ∧ FrameEnd U_ o_ V_ L_ r_m1.cells r_m1.slots) := by
  refine MetFree.of_bodySF (plainFor_of_name pn_0) hisR ?_
  intro p e s m args below meth c s₁ Bd hml0 hP hK
  obtain ⟨rfl, hZ, hh⟩ := hP
  have hx := Bd.exec
  have hby := Bd.bytes
  have hml : c.maxLocals = 1 := hml0
  have hown : s.vm.findClass "java/lang/StringUTF16" = some m.cls := findClass_of_methodNamed Bd.named
  have hnm := (name_of_methodNamed Bd.named Bd.method).1
  have X0 : Stand p l e r_m1 s m #[(.int (2 : Int32))] below meth c s₁ [] 0 0 := Stand.of_body Bd
  have e0 : s₁.heap = h0 := by rw [← hh, Bd.state]; rfl
  have N0 := Fr.nil n0
  refine Gl.go (A := s₁.setTop (entryFrame m #[(.int (2 : Int32))] 1)) (P := fun o_ U_ => ∃ v_ L_, o_ = .returned v_ ∧ Qnbf2 Z  h0 n0 v_ U_.heap L_ ∧ FrameEnd s o_ U_ L_ r_m1.cells r_m1.slots) (fun t_ k_ => castTop (ef_nbf2 m (2 : Int32)) k_) ?_
  show Gl p.tables e below _ (s₁.setTop (mkF m 0 #[sI 2] []))
  refine Gl.go (fun _ hr => zXS_iloadN X0.here hx rfl (hb hby d13_0) rfl hr) ?_
  have zz38 : n0 ≤ h0.size := by omega
  refine gStaticN Gl.cl (y := y_2) (argsL := [(.int (2 : Int32))]) (rest := []) (mc := 0) (ms := 0) X0 hx hZ hown (mvT hZ (tw hw 59 rfl)) (mvT hZ (tw hw 60 rfl)) (mvT hZ (tw hw 33 rfl)) (mvT hZ (tw hw 61 rfl)) (by decide) (backOf (W := 0) (nbl2 l Z a0 hw []  h0 n0 zz38 ) hZ (tw hw 61 rfl) (tw hw 33 rfl) (by decide) (by decide)) rfl (by rw [hml]; rfl) (lenOf pd_0 rfl) rfl (by exact Nat.le_of_eq rfl) (hb hby d13_1) rfl e0 (by decide) (by decide) ?_
  intro v38 T38 Lc38 hQ38 X38
  obtain ⟨rfl, Nq38, e38⟩ := hQ38
  have N38 := Fr.app N0 Nq38
  refine gNewP Gl.cl X38 hx hZ (tw hw 35 rfl) e38 rfl (hb hby d13_4) rfl (by decide) (cap := 4) (by decide) (by decide) (by decide) (by decide) ?_
  intro T39 h39 b39 k39 g39 X39 e39 E39 A39
  have z40 : h0.size ≤ h39.size := E39.1
  have lt39 := own_alt A39.lt
  have V39 : Arv Z h39 b39 k39 .byte (4 : Int32) [(.int (0 : Int32)), (.int (0 : Int32)), (.int (0 : Int32)), (.int (0 : Int32))] (.int (0 : Int32)) := (Arv.new A39 (by decide)).pad (pad_rep [] (.int (0 : Int32)) 4)
  obtain ⟨fs, hr, hrun, hended, hW, hsame⟩ := X39.leave (v := some (.ref b39)) (fun h => by rw [Bd.returns] at h; cases h)
  refine ⟨_, _, retOut X39 hx Bd.returns rfl (Or.inr (Or.inr (Or.inr (Or.inr ⟨rfl, rfl, rfl⟩)))) (hb hby d13_6) hr, hrun, hended, _, _, rfl, ?_, ⟨⟨_, rfl⟩, hW, hsame.mono (by decide) (by decide)⟩⟩
  show Qnbf2 Z  h0 n0 _ T39.heap _
  rw [e39]
  exact ⟨b39, k39, rfl, N38, ((Keep.refl h0 []).ext E39), V39, (by omega)⟩
def Qtob2 (Z : State) (b : Addr) (ck : ClassId) (c0 : Int32) (c1 : Int32) (h0 : Heap) (n0 : Nat) (v : Option Value) (h : Heap) (L : List Loc) : Prop := ∃ (r : Addr), ∃ (kr : ClassId), v = some (.ref r) ∧ Fr n0 L ∧ Keep h0 h [] ∧ (Arv Z h r kr .byte (4 : Int32) (StrChars.Road.wideBytes ([c0, c1] : List Int32)) (.int (0 : Int32))) ∧ (@LE.le Nat instLENat h0.size r)
theorem ef_tob2 (m : MethodId) (x0 : Addr) (x1 : Int32) (x2 : Int32) : entryFrame m #[(.ref x0), (.int x1), (.int x2)] 5 = mkF m 0 #[sR x0, sI x1, sI x2, sU, sU] [] := by first | (simp [entryFrame, mkF, argsToLocals, Value.category]; done) | rfl
set_option maxRecDepth 65536 in
set_option maxHeartbeats 40000000 in
theorem tob2 (l : Launch) (Z : State) (a0 : Array Value) (hw : ∀ d ∈ tables_1, d.before a0 Z = true) (ws : List Jvm.Cond) (b : Addr) (ck : ClassId) (c0 : Int32) (c1 : Int32) (h0 : Heap) (n0 : Nat) (Z0 : n0 ≤ h0.size) (q0 : Old Z n0 h0) (q1 : Sta Z Z.heap "java/lang/StringUTF16" "$assertionsDisabled" "Z" (.int (1 : Int32))) (q2 : Sta Z Z.heap "java/lang/StringUTF16" "HI_BYTE_SHIFT" "I" (.int (0 : Int32))) (q3 : Sta Z Z.heap "java/lang/StringUTF16" "LO_BYTE_SHIFT" "I" (.int (8 : Int32))) (q4 : Arv Z h0 b ck .char (2 : Int32) ([(.int c0), (.int c1)]) (.int (0 : Int32))) :
    MetFree l y_4 (head1 (Jvm.Cond.code y_4 jdk_52_method_14_code 5 (some (.array .byte)) :: ws) r_m2) (fun a_ U_ => a_ = #[(.ref b), (.int (0 : Int32)), (.int (2 : Int32))] ∧ Z.Warmed39 U_.vm ∧ U_.heap = h0) (fun _ _ _ _ _ => True) (fun _ U_ o_ V_ => ∃ v_ L_, o_ = .returned v_ ∧ Qtob2 Z b ck c0 c1 h0 n0 v_ V_.heap L_ ∧ FrameEnd U_ o_ V_ L_ r_m2.cells r_m2.slots) := by
  refine MetFree.of_bodySF (plainFor_of_name pn_0) hisR ?_
  intro p e s m args below meth c s₁ Bd hml0 hP hK
  obtain ⟨rfl, hZ, hh⟩ := hP
  have hx := Bd.exec
  have hby := Bd.bytes
  have hml : c.maxLocals = 5 := hml0
  have hown : s.vm.findClass "java/lang/StringUTF16" = some m.cls := findClass_of_methodNamed Bd.named
  have hnm := (name_of_methodNamed Bd.named Bd.method).1
  have X0 : Stand p l e r_m2 s m #[(.ref b), (.int (0 : Int32)), (.int (2 : Int32))] below meth c s₁ [] 0 0 := Stand.of_body Bd
  have e0 : s₁.heap = h0 := by rw [← hh, Bd.state]; rfl
  have N0 := Fr.nil n0
  have zo := q0.1
  have lt41 := own_alt q4.lt
  refine Gl.go (A := s₁.setTop (entryFrame m #[(.ref b), (.int (0 : Int32)), (.int (2 : Int32))] 5)) (P := fun o_ U_ => ∃ v_ L_, o_ = .returned v_ ∧ Qtob2 Z b ck c0 c1 h0 n0 v_ U_.heap L_ ∧ FrameEnd s o_ U_ L_ r_m2.cells r_m2.slots) (fun t_ k_ => castTop (ef_tob2 m b (0 : Int32) (2 : Int32)) k_) ?_
  show Gl p.tables e below _ (s₁.setTop (mkF m 0 #[sR b, sI 0, sI 2, sU, sU] []))
  refine Gl.go (fun _ hr => zXS_iloadN X0.here hx rfl (hb hby d12_0) rfl hr) ?_
  have zz42 : n0 ≤ h0.size := by omega
  refine gStaticN Gl.cl (y := y_3) (argsL := [(.int (2 : Int32))]) (rest := []) (mc := 1) (ms := 8) X0 hx hZ hown (mvT hZ (tw hw 56 rfl)) (mvT hZ (tw hw 57 rfl)) (mvT hZ (tw hw 33 rfl)) (mvT hZ (tw hw 58 rfl)) (by decide) (backOf (W := 0) (nbf2 l Z a0 hw []  h0 n0 zz42 ) hZ (tw hw 58 rfl) (tw hw 33 rfl) (by decide) (by decide)) rfl (by rw [hml]; rfl) (lenOf pd_1 rfl) rfl (by exact Nat.le_of_eq rfl) (hb hby d12_1) rfl e0 (by decide) (by decide) ?_
  intro v42 T42 Lc42 hQ42 X42
  obtain ⟨r_42, kr_42, rfl, Nq42, K42, f42_0, f42_1⟩ := hQ42
  have z43 : h0.size ≤ T42.heap.size := K42.1
  have N42 := Fr.app N0 Nq42
  have lt44 := own_alt f42_0.lt
  refine Gl.go (fun _ hr => zXS_astoreN X42.here hx rfl (hb hby d12_4) rfl rfl (l' := #[sR b, sI 0, sI 2, sR r_42, sU]) rfl (zXS_iconst X42.here hx rfl (hb hby d12_5) (zXS_istore X42.here hx rfl (hb hby d12_6) rfl (l' := #[sR b, sI 0, sI 2, sR r_42, sI 0]) rfl (zXS_iload X42.here hx rfl (hb hby d12_8) rfl (zXS_iloadN X42.here hx rfl (hb hby d12_10) rfl (zXS_icmpNo X42.here hx rfl (hb hby d12_11) rfl (XT.ii_ge_f (by decide)) (zXS_aloadN X42.here hx rfl (hb hby d12_14) rfl rfl (zXS_iload X42.here hx rfl (hb hby d12_15) rfl (zXS_aloadN X42.here hx rfl (hb hby d12_17) rfl rfl (zXS_iloadN X42.here hx rfl (hb hby d12_18) rfl hr)))))))))) ?_
  have Vc45 := (q4.keep K42 nin0)
  obtain ⟨c46, a46, q46, s46, m46, H46, U46⟩ := id Vc45
  have i46 := inb_of s46 (j := (0 : Int32)) ⟨(by decide), (by decide)⟩
  refine g_caload Gl.cl X42 hx hZ (rfl : T42.heap = T42.heap) a46 i46 (v := (.int c0)) (H46.at i46 rfl) rfl rfl (hb hby d12_19) ?_
  have Oc48 := (q0.keep K42 all0)
  have zz47 : n0 ≤ T42.heap.size := by omega
  refine gStaticN Gl.cl (y := y_0) (argsL := [(.ref r_42), (.int (0 : Int32)), (.int c0)]) (rest := []) (mc := 0) (ms := 0) X42 hx hZ hown (mvT hZ (tw hw 63 rfl)) (mvT hZ (tw hw 64 rfl)) (mvT hZ (tw hw 33 rfl)) (mvT hZ (tw hw 65 rfl)) (by decide) (backOf (W := 0) (pch l Z a0 hw [] r_42 kr_42 4 ([(.int (0 : Int32)), (.int (0 : Int32)), (.int (0 : Int32)), (.int (0 : Int32))]) 0 c0 T42.heap n0 zz47 Oc48 q1 q2 q3 f42_0 (by omega) (by decide) (by decide) (Nat.le_of_ble_eq_true rfl)) hZ (tw hw 65 rfl) (tw hw 33 rfl) (by decide) (by decide)) rfl (by rw [hml]; rfl) (lenOf pd_2 rfl) rfl (by exact Nat.le_of_eq rfl) (hb hby d12_20) rfl (rfl : T42.heap = T42.heap) (by decide) (by decide) ?_
  intro v47 T47 Lc47 hQ47 X47
  obtain ⟨rfl, Nq47, K47, f47_0⟩ := hQ47
  have z49 : T42.heap.size ≤ T47.heap.size := K47.1
  have N47 := Fr.app N42 Nq47
  have lt50 := own_alt f47_0.lt
  refine Gl.go (fun _ hr => zXS_iinc X47.here hx rfl (hb hby d12_23) rfl (l' := #[sR b, sI 1, sI 2, sR r_42, sI 0]) rfl (zXS_iinc X47.here hx rfl (hb hby d12_26) rfl (l' := #[sR b, sI 1, sI 2, sR r_42, sI 1]) rfl (zXS_goto X47.here hx rfl (pc0 := 29) (pc' := 8) rfl (hb hby d12_29) (by decide) (by decide) (zXS_iload X47.here hx rfl (hb hby d12_8) rfl (zXS_iloadN X47.here hx rfl (hb hby d12_10) rfl (zXS_icmpNo X47.here hx rfl (hb hby d12_11) rfl (XT.ii_ge_f (by decide)) (zXS_aloadN X47.here hx rfl (hb hby d12_14) rfl rfl (zXS_iload X47.here hx rfl (hb hby d12_15) rfl (zXS_aloadN X47.here hx rfl (hb hby d12_17) rfl rfl (zXS_iloadN X47.here hx rfl (hb hby d12_18) rfl hr)))))))))) ?_
  have om51 : ¬ @Eq Nat b r_42 := by omega
  have Vc52 := (Vc45.keep K47 (ninS (own_ane om51) nin0))
  obtain ⟨c53, a53, q53, s53, m53, H53, U53⟩ := id Vc52
  have i53 := inb_of s53 (j := (1 : Int32)) ⟨(by decide), (by decide)⟩
  refine g_caload Gl.cl X47 hx hZ (rfl : T47.heap = T47.heap) a53 i53 (v := (.int c1)) (H53.at i53 rfl) rfl rfl (hb hby d12_19) ?_
  have om55 : @LE.le Nat instLENat n0 r_42 := by omega
  have Oc56 := (Oc48.keep K47 (allS (own_ale om55) all0))
  have zz54 : n0 ≤ T47.heap.size := by omega
  refine gStaticN Gl.cl (y := y_0) (argsL := [(.ref r_42), (.int (1 : Int32)), (.int c1)]) (rest := []) (mc := 0) (ms := 0) X47 hx hZ hown (mvT hZ (tw hw 63 rfl)) (mvT hZ (tw hw 64 rfl)) (mvT hZ (tw hw 33 rfl)) (mvT hZ (tw hw 65 rfl)) (by decide) (backOf (W := 0) (pch l Z a0 hw [] r_42 kr_42 4 (([(.int (0 : Int32)), (.int (0 : Int32)), (.int (0 : Int32)), (.int (0 : Int32))].set (2 * 0) (.int (StrChars.lo8 c0))).set (2 * 0 + 1) (.int (StrChars.hi8 c0))) 1 c1 T47.heap n0 zz54 Oc56 q1 q2 q3 f47_0 (by omega) (by decide) (by decide) (Nat.le_of_ble_eq_true rfl)) hZ (tw hw 65 rfl) (tw hw 33 rfl) (by decide) (by decide)) rfl (by rw [hml]; rfl) (lenOf pd_2 rfl) rfl (by exact Nat.le_of_eq rfl) (hb hby d12_20) rfl (rfl : T47.heap = T47.heap) (by decide) (by decide) ?_
  intro v54 T54 Lc54 hQ54 X54
  obtain ⟨rfl, Nq54, K54, f54_0⟩ := hQ54
  have z57 : T47.heap.size ≤ T54.heap.size := K54.1
  have N54 := Fr.app N47 Nq54
  have lt58 := own_alt f54_0.lt
  refine Gl.go (fun _ hr => zXS_iinc X54.here hx rfl (hb hby d12_23) rfl (l' := #[sR b, sI 2, sI 2, sR r_42, sI 1]) rfl (zXS_iinc X54.here hx rfl (hb hby d12_26) rfl (l' := #[sR b, sI 2, sI 2, sR r_42, sI 2]) rfl (zXS_goto X54.here hx rfl (pc0 := 29) (pc' := 8) rfl (hb hby d12_29) (by decide) (by decide) (zXS_iload X54.here hx rfl (hb hby d12_8) rfl (zXS_iloadN X54.here hx rfl (hb hby d12_10) rfl (zXS_icmpYes X54.here hx rfl (pc0 := 11) (pc' := 32) rfl (hb hby d12_11) rfl (XT.ii_ge_t (by decide)) (by decide) (by decide) (zXS_aloadN X54.here hx rfl (hb hby d12_32) rfl rfl hr))))))) ?_
  obtain ⟨fs, hr, hrun, hended, hW, hsame⟩ := X54.leave (v := some (.ref r_42)) (fun h => by rw [Bd.returns] at h; cases h)
  have om59 : @LE.le Nat instLENat h0.size r_42 := by omega
  refine ⟨_, _, retOut X54 hx Bd.returns rfl (Or.inr (Or.inr (Or.inr (Or.inr ⟨rfl, rfl, rfl⟩)))) (hb hby d12_33) hr, hrun, hended, _, _, rfl, ?_, ⟨⟨_, rfl⟩, hW, hsame.mono (by decide) (by decide)⟩⟩
  show Qtob2 Z b ck c0 c1 h0 n0 _ T54.heap _
  exact ⟨r_42, kr_42, rfl, N54, ((((Keep.refl h0 []).trans K42 all0).trans K47 (allS (P := fun x_ => x_ ∈ ([] : List Addr) ∨ h0.size ≤ x_) (Or.inr (own_ale om59)) all0)).trans K54 (allS (P := fun x_ => x_ ∈ ([] : List Addr) ∨ h0.size ≤ x_) (Or.inr (own_ale om59)) all0)), f54_0, (by omega)⟩
def Qcmq2 (Z : State) (b : Addr) (ck : ClassId) (a : Addr) (ka : ClassId) (c0 : Int32) (c1 : Int32) (h0 : Heap) (n0 : Nat) (v : Option Value) (h : Heap) (L : List Loc) : Prop := ∃ (r : Nat), ∃ (ys : List Value), v = some (.int (Int32.ofNat r)) ∧ Fr n0 L ∧ Keep h0 h [a] ∧ (Arv Z h a ka .byte (2 : Int32) ys (.int (0 : Int32))) ∧ ((r = 2 ∧ ys = [(.int (StrChars.lo8 c0)), (.int (StrChars.lo8 c1))] ∧ ∀ c ∈ ([c0, c1] : List Int32), ¬ (255 : Int32) < c) ∨ (r < 2 ∧ (255 : Int32) < ([c0, c1] : List Int32).getD r 0))
theorem ef_cmq2 (m : MethodId) (x0 : Addr) (x1 : Int32) (x2 : Addr) (x3 : Int32) (x4 : Int32) : entryFrame m #[(.ref x0), (.int x1), (.ref x2), (.int x3), (.int x4)] 7 = mkF m 0 #[sR x0, sI x1, sR x2, sI x3, sI x4, sU, sU] [] := by first | (simp [entryFrame, mkF, argsToLocals, Value.category]; done) | rfl
set_option maxRecDepth 65536 in
set_option maxHeartbeats 40000000 in
theorem cmq2 (l : Launch) (Z : State) (a0 : Array Value) (hw : ∀ d ∈ tables_1, d.before a0 Z = true) (ws : List Jvm.Cond) (b : Addr) (ck : ClassId) (a : Addr) (ka : ClassId) (c0 : Int32) (c1 : Int32) (h0 : Heap) (n0 : Nat) (Z0 : n0 ≤ h0.size) (q0 : Arv Z h0 b ck .char (2 : Int32) ([(.int c0), (.int c1)]) (.int (0 : Int32))) (q1 : Arv Z h0 a ka .byte (2 : Int32) ([(.int (0 : Int32)), (.int (0 : Int32))]) (.int (0 : Int32))) (q2 : @LE.le Nat instLENat n0 a) (q3 : ¬ @Eq Nat a b) :
    MetFree l y_5 (head1 (Jvm.Cond.code y_5 jdk_52_method_21_code 7 (some .int) :: ws) r_m0) (fun a_ U_ => a_ = #[(.ref b), (.int (0 : Int32)), (.ref a), (.int (0 : Int32)), (.int (2 : Int32))] ∧ Z.Warmed39 U_.vm ∧ U_.heap = h0) (fun _ _ _ _ _ => True) (fun _ U_ o_ V_ => ∃ v_ L_, o_ = .returned v_ ∧ Qcmq2 Z b ck a ka c0 c1 h0 n0 v_ V_.heap L_ ∧ FrameEnd U_ o_ V_ L_ r_m0.cells r_m0.slots) := by
  refine MetFree.of_bodySF (plainFor_of_name pn_0) hisR ?_
  intro p e s m args below meth c s₁ Bd hml0 hP hK
  obtain ⟨rfl, hZ, hh⟩ := hP
  have hx := Bd.exec
  have hby := Bd.bytes
  have hml : c.maxLocals = 7 := hml0
  have hown : s.vm.findClass "java/lang/StringUTF16" = some m.cls := findClass_of_methodNamed Bd.named
  have hnm := (name_of_methodNamed Bd.named Bd.method).1
  have X0 : Stand p l e r_m0 s m #[(.ref b), (.int (0 : Int32)), (.ref a), (.int (0 : Int32)), (.int (2 : Int32))] below meth c s₁ [] 0 0 := Stand.of_body Bd
  have e0 : s₁.heap = h0 := by rw [← hh, Bd.state]; rfl
  have N0 := Fr.nil n0
  have lt60 := own_alt q0.lt
  have lt61 := own_alt q1.lt
  refine Gl.go (A := s₁.setTop (entryFrame m #[(.ref b), (.int (0 : Int32)), (.ref a), (.int (0 : Int32)), (.int (2 : Int32))] 7)) (P := fun o_ U_ => ∃ v_ L_, o_ = .returned v_ ∧ Qcmq2 Z b ck a ka c0 c1 h0 n0 v_ U_.heap L_ ∧ FrameEnd s o_ U_ L_ r_m0.cells r_m0.slots) (fun t_ k_ => castTop (ef_cmq2 m b (0 : Int32) a (0 : Int32) (2 : Int32)) k_) ?_
  show Gl p.tables e below _ (s₁.setTop (mkF m 0 #[sR b, sI 0, sR a, sI 0, sI 2, sU, sU] []))
  refine Gl.go (fun _ hr => zXS_iconst X0.here hx rfl (hb hby d8_0) (zXS_istore X0.here hx rfl (hb hby d8_1) rfl (l' := #[sR b, sI 0, sR a, sI 0, sI 2, sI 0, sU]) rfl (zXS_iload X0.here hx rfl (hb hby d8_3) rfl (zXS_iload X0.here hx rfl (hb hby d8_5) rfl (zXS_icmpNo X0.here hx rfl (hb hby d8_7) rfl (XT.ii_ge_f (by decide)) (zXS_aloadN X0.here hx rfl (hb hby d8_10) rfl rfl (zXS_iloadN X0.here hx rfl (hb hby d8_11) rfl hr))))))) ?_
  obtain ⟨c62, a62, q62, s62, m62, H62, U62⟩ := id q0
  have i62 := inb_of s62 (j := (0 : Int32)) ⟨(by decide), (by decide)⟩
  refine g_caload Gl.cl X0 hx hZ e0 a62 i62 (v := (.int c0)) (H62.at i62 rfl) rfl rfl (hb hby d8_12) ?_
  refine Gl.go (fun _ hr => zXS_istore X0.here hx rfl (hb hby d8_13) rfl (l' := #[sR b, sI 0, sR a, sI 0, sI 2, sI 0, sI c0]) rfl (zXS_iload X0.here hx rfl (hb hby d8_15) rfl (zXS_sipush X0.here hx rfl (hb hby d8_17) hr))) ?_
  by_cases hc63 : (255 : Int32) < c0
  · refine Gl.go (fun _ hr => zXS_icmpNo X0.here hx rfl (hb hby d8_20) rfl (XT.ii_le_f hc63) (zXS_iload X0.here hx rfl (hb hby d8_23) rfl hr)) ?_
    obtain ⟨fs, hr, hrun, hended, hW, hsame⟩ := X0.leave (v := some (.int (0 : Int32))) (fun h => by rw [Bd.returns] at h; cases h)
    refine ⟨_, _, retOut X0 hx Bd.returns rfl (Or.inl ⟨rfl, Or.inl rfl, _, rfl⟩) (hb hby d8_25) hr, hrun, hended, _, _, rfl, ?_, ⟨⟨_, rfl⟩, hW, hsame.mono (by decide) (by decide)⟩⟩
    show Qcmq2 Z b ck a ka c0 c1 h0 n0 _ s₁.heap _
    rw [e0]
    exact ⟨0, [(.int (0 : Int32)), (.int (0 : Int32))], rfl, N0, (Keep.refl h0 [a]), q1, (Or.inr ⟨by decide, hc63⟩)⟩
  · refine Gl.go (fun _ hr => zXS_icmpYes X0.here hx rfl (pc0 := 20) (pc' := 26) rfl (hb hby d8_20) rfl (XT.ii_le_t hc63) (by decide) (by decide) (zXS_aloadN X0.here hx rfl (hb hby d8_26) rfl rfl (zXS_iloadN X0.here hx rfl (hb hby d8_27) rfl (zXS_iload X0.here hx rfl (hb hby d8_28) rfl (zXT_i2b X0.here hx rfl (hb hby d8_30) rfl hr))))) ?_
    show Gl p.tables e below _ (s₁.setTop (mkF m 31 #[sR b, sI 0, sR a, sI 0, sI 2, sI 0, sI c0] [(.int (c0.toInt8.toInt32)), (.int (0 : Int32)), (.ref a)]))
    show Gl p.tables e below _ (s₁.setTop (mkF m 31 #[sR b, sI 0, sR a, sI 0, sI 2, sI 0, sI c0] [(.int (StrChars.lo8 c0)), (.int (0 : Int32)), (.ref a)]))
    obtain ⟨c64, a64, q64, s64, m64, H64, U64⟩ := id q1
    refine gstB Gl.cl X0 hx hZ e0 a64 (j := (0 : Int32)) (inb_of s64 ⟨(by decide), (by decide)⟩) rfl rfl (hb hby d8_31) ?_
    intro T64 h64 X64 e64 W64
    have z65 : h0.size ≤ h64.size := (Keep.of_wr W64).1
    rw [(own_narb _)] at W64
    have V64 : Arv Z h64 a ka .byte (2 : Int32) [(.int (StrChars.lo8 c0)), (.int (0 : Int32))] (.int (0 : Int32)) := Arv.set a64 q64 s64 m64 H64 U64 (own_fitb _) W64 0 rfl (Nat.le_of_ble_eq_true rfl)
    have om66 : @LE.le Nat instLENat n0 a := by omega
    have N64 := Fr.snoc X64 N0 (own_ale om66)
    refine Gl.go (fun _ hr => zXS_iinc X64.here hx rfl (hb hby d8_32) rfl (l' := #[sR b, sI 1, sR a, sI 0, sI 2, sI 0, sI c0]) rfl (zXS_iinc X64.here hx rfl (hb hby d8_35) rfl (l' := #[sR b, sI 1, sR a, sI 1, sI 2, sI 0, sI c0]) rfl (zXS_iinc X64.here hx rfl (hb hby d8_38) rfl (l' := #[sR b, sI 1, sR a, sI 1, sI 2, sI 1, sI c0]) rfl (zXS_goto X64.here hx rfl (pc0 := 41) (pc' := 3) rfl (hb hby d8_41) (by decide) (by decide) (zXS_iload X64.here hx rfl (hb hby d8_3) rfl (zXS_iload X64.here hx rfl (hb hby d8_5) rfl (zXS_icmpNo X64.here hx rfl (hb hby d8_7) rfl (XT.ii_ge_f (by decide)) (zXS_aloadN X64.here hx rfl (hb hby d8_10) rfl rfl (zXS_iloadN X64.here hx rfl (hb hby d8_11) rfl hr))))))))) ?_
    have om67 : ¬ @Eq Nat b a := by omega
    have Vc68 := (q0.other W64 (own_ane om67))
    obtain ⟨c69, a69, q69, s69, m69, H69, U69⟩ := id Vc68
    have i69 := inb_of s69 (j := (1 : Int32)) ⟨(by decide), (by decide)⟩
    refine g_caload Gl.cl X64 hx hZ e64 a69 i69 (v := (.int c1)) (H69.at i69 rfl) rfl rfl (hb hby d8_12) ?_
    refine Gl.go (fun _ hr => zXS_istore X64.here hx rfl (hb hby d8_13) rfl (l' := #[sR b, sI 1, sR a, sI 1, sI 2, sI 1, sI c1]) rfl (zXS_iload X64.here hx rfl (hb hby d8_15) rfl (zXS_sipush X64.here hx rfl (hb hby d8_17) hr))) ?_
    by_cases hc70 : (255 : Int32) < c1
    · refine Gl.go (fun _ hr => zXS_icmpNo X64.here hx rfl (hb hby d8_20) rfl (XT.ii_le_f hc70) (zXS_iload X64.here hx rfl (hb hby d8_23) rfl hr)) ?_
      obtain ⟨fs, hr, hrun, hended, hW, hsame⟩ := X64.leave (v := some (.int (1 : Int32))) (fun h => by rw [Bd.returns] at h; cases h)
      refine ⟨_, _, retOut X64 hx Bd.returns rfl (Or.inl ⟨rfl, Or.inl rfl, _, rfl⟩) (hb hby d8_25) hr, hrun, hended, _, _, rfl, ?_, ⟨⟨_, rfl⟩, hW, hsame.mono (by decide) (by decide)⟩⟩
      show Qcmq2 Z b ck a ka c0 c1 h0 n0 _ T64.heap _
      rw [e64]
      exact ⟨1, [(.int (StrChars.lo8 c0)), (.int (0 : Int32))], rfl, N64, ((Keep.refl h0 [a]).wr W64 (Or.inl (by simp))), V64, (Or.inr ⟨by decide, hc70⟩)⟩
    · refine Gl.go (fun _ hr => zXS_icmpYes X64.here hx rfl (pc0 := 20) (pc' := 26) rfl (hb hby d8_20) rfl (XT.ii_le_t hc70) (by decide) (by decide) (zXS_aloadN X64.here hx rfl (hb hby d8_26) rfl rfl (zXS_iloadN X64.here hx rfl (hb hby d8_27) rfl (zXS_iload X64.here hx rfl (hb hby d8_28) rfl (zXT_i2b X64.here hx rfl (hb hby d8_30) rfl hr))))) ?_
      show Gl p.tables e below _ (T64.setTop (mkF m 31 #[sR b, sI 1, sR a, sI 1, sI 2, sI 1, sI c1] [(.int (c1.toInt8.toInt32)), (.int (1 : Int32)), (.ref a)]))
      show Gl p.tables e below _ (T64.setTop (mkF m 31 #[sR b, sI 1, sR a, sI 1, sI 2, sI 1, sI c1] [(.int (StrChars.lo8 c1)), (.int (1 : Int32)), (.ref a)]))
      obtain ⟨c71, a71, q71, s71, m71, H71, U71⟩ := id V64
      refine gstB Gl.cl X64 hx hZ e64 a71 (j := (1 : Int32)) (inb_of s71 ⟨(by decide), (by decide)⟩) rfl rfl (hb hby d8_31) ?_
      intro T71 h71 X71 e71 W71
      have z72 : h64.size ≤ h71.size := (Keep.of_wr W71).1
      rw [(own_narb _)] at W71
      have V71 : Arv Z h71 a ka .byte (2 : Int32) [(.int (StrChars.lo8 c0)), (.int (StrChars.lo8 c1))] (.int (0 : Int32)) := Arv.set a71 q71 s71 m71 H71 U71 (own_fitb _) W71 1 rfl (Nat.le_of_ble_eq_true rfl)
      have N71 := Fr.snoc X71 N64 (own_ale om66)
      refine Gl.go (fun _ hr => zXS_iinc X71.here hx rfl (hb hby d8_32) rfl (l' := #[sR b, sI 2, sR a, sI 1, sI 2, sI 1, sI c1]) rfl (zXS_iinc X71.here hx rfl (hb hby d8_35) rfl (l' := #[sR b, sI 2, sR a, sI 2, sI 2, sI 1, sI c1]) rfl (zXS_iinc X71.here hx rfl (hb hby d8_38) rfl (l' := #[sR b, sI 2, sR a, sI 2, sI 2, sI 2, sI c1]) rfl (zXS_goto X71.here hx rfl (pc0 := 41) (pc' := 3) rfl (hb hby d8_41) (by decide) (by decide) (zXS_iload X71.here hx rfl (hb hby d8_3) rfl (zXS_iload X71.here hx rfl (hb hby d8_5) rfl (zXS_icmpYes X71.here hx rfl (pc0 := 7) (pc' := 44) rfl (hb hby d8_7) rfl (XT.ii_ge_t (by decide)) (by decide) (by decide) (zXS_iload X71.here hx rfl (hb hby d8_44) rfl hr)))))))) ?_
      obtain ⟨fs, hr, hrun, hended, hW, hsame⟩ := X71.leave (v := some (.int (2 : Int32))) (fun h => by rw [Bd.returns] at h; cases h)
      refine ⟨_, _, retOut X71 hx Bd.returns rfl (Or.inl ⟨rfl, Or.inl rfl, _, rfl⟩) (hb hby d8_46) hr, hrun, hended, _, _, rfl, ?_, ⟨⟨_, rfl⟩, hW, hsame.mono (by decide) (by decide)⟩⟩
      show Qcmq2 Z b ck a ka c0 c1 h0 n0 _ T71.heap _
      rw [e71]
      exact ⟨2, [(.int (StrChars.lo8 c0)), (.int (StrChars.lo8 c1))], rfl, N71, (((Keep.refl h0 [a]).wr W64 (Or.inl (by simp))).wr W71 (Or.inl (by simp))), V71, (Or.inl ⟨rfl, rfl, (own_cS (P := fun c => ¬ (255 : Int32) < c) hc63 (own_cS (P := fun c => ¬ (255 : Int32) < c) hc70 own_c0))⟩)⟩
def Qnbl3 (Z : State)  (h0 : Heap) (n0 : Nat) (v : Option Value) (h : Heap) (L : List Loc) : Prop := v = some (.int (6 : Int32)) ∧ Fr n0 L ∧ h = h0
theorem ef_nbl3 (m : MethodId) (x0 : Int32) : entryFrame m #[(.int x0)] 1 = mkF m 0 #[sI x0] [] := by first | (simp [entryFrame, mkF, argsToLocals, Value.category]; done) | rfl
set_option maxRecDepth 65536 in
set_option maxHeartbeats 40000000 in
theorem nbl3 (l : Launch) (Z : State) (a0 : Array Value) (hw : ∀ d ∈ tables_1, d.before a0 Z = true) (ws : List Jvm.Cond)  (h0 : Heap) (n0 : Nat) (Z0 : n0 ≤ h0.size) :
    MetFree l y_2 (head1 (Jvm.Cond.code y_2 jdk_52_method_3_code 1 (some .int) :: ws) r_m0) (fun a_ U_ => a_ = #[(.int (3 : Int32))] ∧ Z.Warmed39 U_.vm ∧ U_.heap = h0) (fun _ _ _ _ _ => True) (fun _ U_ o_ V_ => ∃ v_ L_, o_ = .returned v_ ∧ Qnbl3 Z  h0 n0 v_ V_.heap L_ ∧ FrameEnd U_ o_ V_ L_ r_m0.cells r_m0.slots) := by
  refine MetFree.of_bodySF (plainFor_of_name pn_0) hisR ?_
  intro p e s m args below meth c s₁ Bd hml0 hP hK
  obtain ⟨rfl, hZ, hh⟩ := hP
  have hx := Bd.exec
  have hby := Bd.bytes
  have hml : c.maxLocals = 1 := hml0
  have hown : s.vm.findClass "java/lang/StringUTF16" = some m.cls := findClass_of_methodNamed Bd.named
  have hnm := (name_of_methodNamed Bd.named Bd.method).1
  have X0 : Stand p l e r_m0 s m #[(.int (3 : Int32))] below meth c s₁ [] 0 0 := Stand.of_body Bd
  have e0 : s₁.heap = h0 := by rw [← hh, Bd.state]; rfl
  have N0 := Fr.nil n0
  refine Gl.go (A := s₁.setTop (entryFrame m #[(.int (3 : Int32))] 1)) (P := fun o_ U_ => ∃ v_ L_, o_ = .returned v_ ∧ Qnbl3 Z  h0 n0 v_ U_.heap L_ ∧ FrameEnd s o_ U_ L_ r_m0.cells r_m0.slots) (fun t_ k_ => castTop (ef_nbl3 m (3 : Int32)) k_) ?_
  show Gl p.tables e below _ (s₁.setTop (mkF m 0 #[sI 3] []))
  refine Gl.go (fun _ hr => zXS_iloadN X0.here hx rfl (hb hby d14_0) rfl (zXS_ifYes X0.here hx rfl (pc0 := 1) (pc' := 12) rfl (hb hby d14_1) rfl (XT.i0_ge_t (by decide)) (by decide) (by decide) (zXS_iloadN X0.here hx rfl (hb hby d14_12) rfl hr))) ?_
  refine Gl.go (X0.ldcInt hx hown (mvT hZ (tw hw 62 rfl)) rfl (hb hby d14_13)) ?_
  refine Gl.go (fun _ hr => zXS_icmpYes X0.here hx rfl (pc0 := 15) (pc' := 55) rfl (hb hby d14_15) rfl (XT.ii_lt_t (by decide)) (by decide) (by decide) (zXS_iloadN X0.here hx rfl (hb hby d14_55) rfl (zXS_iconst X0.here hx rfl (hb hby d14_56) (zXT_ishl X0.here hx rfl (hb hby d14_57) rfl hr)))) ?_
  obtain ⟨fs, hr, hrun, hended, hW, hsame⟩ := X0.leave (v := some (.int (6 : Int32))) (fun h => by rw [Bd.returns] at h; cases h)
  refine ⟨_, _, retOut X0 hx Bd.returns rfl (Or.inl ⟨rfl, Or.inl rfl, _, rfl⟩) (hb hby d14_58) hr, hrun, hended, _, _, rfl, ?_, ⟨⟨_, rfl⟩, hW, hsame.mono (by decide) (by decide)⟩⟩
  show Qnbl3 Z  h0 n0 _ s₁.heap _
  rw [e0]
  exact ⟨rfl, N0, rfl⟩
def Qnbf3 (Z : State)  (h0 : Heap) (n0 : Nat) (v : Option Value) (h : Heap) (L : List Loc) : Prop := ∃ (r : Addr), ∃ (kr : ClassId), v = some (.ref r) ∧ Fr n0 L ∧ Keep h0 h [] ∧ (Arv Z h r kr .byte (6 : Int32) ([(.int (0 : Int32)), (.int (0 : Int32)), (.int (0 : Int32)), (.int (0 : Int32)), (.int (0 : Int32)), (.int (0 : Int32))]) (.int (0 : Int32))) ∧ (@LE.le Nat instLENat h0.size r)
theorem ef_nbf3 (m : MethodId) (x0 : Int32) : entryFrame m #[(.int x0)] 1 = mkF m 0 #[sI x0] [] := by first | (simp [entryFrame, mkF, argsToLocals, Value.category]; done) | rfl
set_option maxRecDepth 65536 in
set_option maxHeartbeats 40000000 in
theorem nbf3 (l : Launch) (Z : State) (a0 : Array Value) (hw : ∀ d ∈ tables_1, d.before a0 Z = true) (ws : List Jvm.Cond)  (h0 : Heap) (n0 : Nat) (Z0 : n0 ≤ h0.size) :
    MetFree l y_3 (head1 (Jvm.Cond.code y_3 jdk_52_method_2_code 1 (some (.array .byte)) :: ws) r_m1) (fun a_ U_ => a_ = #[(.int (3 : Int32))] ∧ Z.Warmed39 U_.vm ∧ U_.heap = h0) (fun _ _ _ _ _ => True) (fun _ U_ o_ V_ => ∃ v_ L_, o_ = .returned v_ ∧ Qnbf3 Z  h0 n0 v_ V_.heap L_ ∧ FrameEnd U_ o_ V_ L_ r_m1.cells r_m1.slots) := by
  refine MetFree.of_bodySF (plainFor_of_name pn_0) hisR ?_
  intro p e s m args below meth c s₁ Bd hml0 hP hK
  obtain ⟨rfl, hZ, hh⟩ := hP
  have hx := Bd.exec
  have hby := Bd.bytes
  have hml : c.maxLocals = 1 := hml0
  have hown : s.vm.findClass "java/lang/StringUTF16" = some m.cls := findClass_of_methodNamed Bd.named
  have hnm := (name_of_methodNamed Bd.named Bd.method).1
  have X0 : Stand p l e r_m1 s m #[(.int (3 : Int32))] below meth c s₁ [] 0 0 := Stand.of_body Bd
  have e0 : s₁.heap = h0 := by rw [← hh, Bd.state]; rfl
  have N0 := Fr.nil n0
  refine Gl.go (A := s₁.setTop (entryFrame m #[(.int (3 : Int32))] 1)) (P := fun o_ U_ => ∃ v_ L_, o_ = .returned v_ ∧ Qnbf3 Z  h0 n0 v_ U_.heap L_ ∧ FrameEnd s o_ U_ L_ r_m1.cells r_m1.slots) (fun t_ k_ => castTop (ef_nbf3 m (3 : Int32)) k_) ?_
  show Gl p.tables e below _ (s₁.setTop (mkF m 0 #[sI 3] []))
  refine Gl.go (fun _ hr => zXS_iloadN X0.here hx rfl (hb hby d13_0) rfl hr) ?_
  have zz73 : n0 ≤ h0.size := by omega
  refine gStaticN Gl.cl (y := y_2) (argsL := [(.int (3 : Int32))]) (rest := []) (mc := 0) (ms := 0) X0 hx hZ hown (mvT hZ (tw hw 59 rfl)) (mvT hZ (tw hw 60 rfl)) (mvT hZ (tw hw 33 rfl)) (mvT hZ (tw hw 61 rfl)) (by decide) (backOf (W := 0) (nbl3 l Z a0 hw []  h0 n0 zz73 ) hZ (tw hw 61 rfl) (tw hw 33 rfl) (by decide) (by decide)) rfl (by rw [hml]; rfl) (lenOf pd_0 rfl) rfl (by exact Nat.le_of_eq rfl) (hb hby d13_1) rfl e0 (by decide) (by decide) ?_
  intro v73 T73 Lc73 hQ73 X73
  obtain ⟨rfl, Nq73, e73⟩ := hQ73
  have N73 := Fr.app N0 Nq73
  refine gNewP Gl.cl X73 hx hZ (tw hw 35 rfl) e73 rfl (hb hby d13_4) rfl (by decide) (cap := 6) (by decide) (by decide) (by decide) (by decide) ?_
  intro T74 h74 b74 k74 g74 X74 e74 E74 A74
  have z75 : h0.size ≤ h74.size := E74.1
  have lt74 := own_alt A74.lt
  have V74 : Arv Z h74 b74 k74 .byte (6 : Int32) [(.int (0 : Int32)), (.int (0 : Int32)), (.int (0 : Int32)), (.int (0 : Int32)), (.int (0 : Int32)), (.int (0 : Int32))] (.int (0 : Int32)) := (Arv.new A74 (by decide)).pad (pad_rep [] (.int (0 : Int32)) 6)
  obtain ⟨fs, hr, hrun, hended, hW, hsame⟩ := X74.leave (v := some (.ref b74)) (fun h => by rw [Bd.returns] at h; cases h)
  refine ⟨_, _, retOut X74 hx Bd.returns rfl (Or.inr (Or.inr (Or.inr (Or.inr ⟨rfl, rfl, rfl⟩)))) (hb hby d13_6) hr, hrun, hended, _, _, rfl, ?_, ⟨⟨_, rfl⟩, hW, hsame.mono (by decide) (by decide)⟩⟩
  show Qnbf3 Z  h0 n0 _ T74.heap _
  rw [e74]
  exact ⟨b74, k74, rfl, N73, ((Keep.refl h0 []).ext E74), V74, (by omega)⟩
def Qtob3 (Z : State) (b : Addr) (ck : ClassId) (c0 : Int32) (c1 : Int32) (c2 : Int32) (h0 : Heap) (n0 : Nat) (v : Option Value) (h : Heap) (L : List Loc) : Prop := ∃ (r : Addr), ∃ (kr : ClassId), v = some (.ref r) ∧ Fr n0 L ∧ Keep h0 h [] ∧ (Arv Z h r kr .byte (6 : Int32) (StrChars.Road.wideBytes ([c0, c1, c2] : List Int32)) (.int (0 : Int32))) ∧ (@LE.le Nat instLENat h0.size r)
theorem ef_tob3 (m : MethodId) (x0 : Addr) (x1 : Int32) (x2 : Int32) : entryFrame m #[(.ref x0), (.int x1), (.int x2)] 5 = mkF m 0 #[sR x0, sI x1, sI x2, sU, sU] [] := by first | (simp [entryFrame, mkF, argsToLocals, Value.category]; done) | rfl
set_option maxRecDepth 65536 in
set_option maxHeartbeats 40000000 in
theorem tob3 (l : Launch) (Z : State) (a0 : Array Value) (hw : ∀ d ∈ tables_1, d.before a0 Z = true) (ws : List Jvm.Cond) (b : Addr) (ck : ClassId) (c0 : Int32) (c1 : Int32) (c2 : Int32) (h0 : Heap) (n0 : Nat) (Z0 : n0 ≤ h0.size) (q0 : Old Z n0 h0) (q1 : Sta Z Z.heap "java/lang/StringUTF16" "$assertionsDisabled" "Z" (.int (1 : Int32))) (q2 : Sta Z Z.heap "java/lang/StringUTF16" "HI_BYTE_SHIFT" "I" (.int (0 : Int32))) (q3 : Sta Z Z.heap "java/lang/StringUTF16" "LO_BYTE_SHIFT" "I" (.int (8 : Int32))) (q4 : Arv Z h0 b ck .char (3 : Int32) ([(.int c0), (.int c1), (.int c2)]) (.int (0 : Int32))) :
    MetFree l y_4 (head1 (Jvm.Cond.code y_4 jdk_52_method_14_code 5 (some (.array .byte)) :: ws) r_m2) (fun a_ U_ => a_ = #[(.ref b), (.int (0 : Int32)), (.int (3 : Int32))] ∧ Z.Warmed39 U_.vm ∧ U_.heap = h0) (fun _ _ _ _ _ => True) (fun _ U_ o_ V_ => ∃ v_ L_, o_ = .returned v_ ∧ Qtob3 Z b ck c0 c1 c2 h0 n0 v_ V_.heap L_ ∧ FrameEnd U_ o_ V_ L_ r_m2.cells r_m2.slots) := by
  refine MetFree.of_bodySF (plainFor_of_name pn_0) hisR ?_
  intro p e s m args below meth c s₁ Bd hml0 hP hK
  obtain ⟨rfl, hZ, hh⟩ := hP
  have hx := Bd.exec
  have hby := Bd.bytes
  have hml : c.maxLocals = 5 := hml0
  have hown : s.vm.findClass "java/lang/StringUTF16" = some m.cls := findClass_of_methodNamed Bd.named
  have hnm := (name_of_methodNamed Bd.named Bd.method).1
  have X0 : Stand p l e r_m2 s m #[(.ref b), (.int (0 : Int32)), (.int (3 : Int32))] below meth c s₁ [] 0 0 := Stand.of_body Bd
  have e0 : s₁.heap = h0 := by rw [← hh, Bd.state]; rfl
  have N0 := Fr.nil n0
  have zo := q0.1
  have lt76 := own_alt q4.lt
  refine Gl.go (A := s₁.setTop (entryFrame m #[(.ref b), (.int (0 : Int32)), (.int (3 : Int32))] 5)) (P := fun o_ U_ => ∃ v_ L_, o_ = .returned v_ ∧ Qtob3 Z b ck c0 c1 c2 h0 n0 v_ U_.heap L_ ∧ FrameEnd s o_ U_ L_ r_m2.cells r_m2.slots) (fun t_ k_ => castTop (ef_tob3 m b (0 : Int32) (3 : Int32)) k_) ?_
  show Gl p.tables e below _ (s₁.setTop (mkF m 0 #[sR b, sI 0, sI 3, sU, sU] []))
  refine Gl.go (fun _ hr => zXS_iloadN X0.here hx rfl (hb hby d12_0) rfl hr) ?_
  have zz77 : n0 ≤ h0.size := by omega
  refine gStaticN Gl.cl (y := y_3) (argsL := [(.int (3 : Int32))]) (rest := []) (mc := 1) (ms := 8) X0 hx hZ hown (mvT hZ (tw hw 56 rfl)) (mvT hZ (tw hw 57 rfl)) (mvT hZ (tw hw 33 rfl)) (mvT hZ (tw hw 58 rfl)) (by decide) (backOf (W := 0) (nbf3 l Z a0 hw []  h0 n0 zz77 ) hZ (tw hw 58 rfl) (tw hw 33 rfl) (by decide) (by decide)) rfl (by rw [hml]; rfl) (lenOf pd_1 rfl) rfl (by exact Nat.le_of_eq rfl) (hb hby d12_1) rfl e0 (by decide) (by decide) ?_
  intro v77 T77 Lc77 hQ77 X77
  obtain ⟨r_77, kr_77, rfl, Nq77, K77, f77_0, f77_1⟩ := hQ77
  have z78 : h0.size ≤ T77.heap.size := K77.1
  have N77 := Fr.app N0 Nq77
  have lt79 := own_alt f77_0.lt
  refine Gl.go (fun _ hr => zXS_astoreN X77.here hx rfl (hb hby d12_4) rfl rfl (l' := #[sR b, sI 0, sI 3, sR r_77, sU]) rfl (zXS_iconst X77.here hx rfl (hb hby d12_5) (zXS_istore X77.here hx rfl (hb hby d12_6) rfl (l' := #[sR b, sI 0, sI 3, sR r_77, sI 0]) rfl (zXS_iload X77.here hx rfl (hb hby d12_8) rfl (zXS_iloadN X77.here hx rfl (hb hby d12_10) rfl (zXS_icmpNo X77.here hx rfl (hb hby d12_11) rfl (XT.ii_ge_f (by decide)) (zXS_aloadN X77.here hx rfl (hb hby d12_14) rfl rfl (zXS_iload X77.here hx rfl (hb hby d12_15) rfl (zXS_aloadN X77.here hx rfl (hb hby d12_17) rfl rfl (zXS_iloadN X77.here hx rfl (hb hby d12_18) rfl hr)))))))))) ?_
  have Vc80 := (q4.keep K77 nin0)
  obtain ⟨c81, a81, q81, s81, m81, H81, U81⟩ := id Vc80
  have i81 := inb_of s81 (j := (0 : Int32)) ⟨(by decide), (by decide)⟩
  refine g_caload Gl.cl X77 hx hZ (rfl : T77.heap = T77.heap) a81 i81 (v := (.int c0)) (H81.at i81 rfl) rfl rfl (hb hby d12_19) ?_
  have Oc83 := (q0.keep K77 all0)
  have zz82 : n0 ≤ T77.heap.size := by omega
  refine gStaticN Gl.cl (y := y_0) (argsL := [(.ref r_77), (.int (0 : Int32)), (.int c0)]) (rest := []) (mc := 0) (ms := 0) X77 hx hZ hown (mvT hZ (tw hw 63 rfl)) (mvT hZ (tw hw 64 rfl)) (mvT hZ (tw hw 33 rfl)) (mvT hZ (tw hw 65 rfl)) (by decide) (backOf (W := 0) (pch l Z a0 hw [] r_77 kr_77 6 ([(.int (0 : Int32)), (.int (0 : Int32)), (.int (0 : Int32)), (.int (0 : Int32)), (.int (0 : Int32)), (.int (0 : Int32))]) 0 c0 T77.heap n0 zz82 Oc83 q1 q2 q3 f77_0 (by omega) (by decide) (by decide) (Nat.le_of_ble_eq_true rfl)) hZ (tw hw 65 rfl) (tw hw 33 rfl) (by decide) (by decide)) rfl (by rw [hml]; rfl) (lenOf pd_2 rfl) rfl (by exact Nat.le_of_eq rfl) (hb hby d12_20) rfl (rfl : T77.heap = T77.heap) (by decide) (by decide) ?_
  intro v82 T82 Lc82 hQ82 X82
  obtain ⟨rfl, Nq82, K82, f82_0⟩ := hQ82
  have z84 : T77.heap.size ≤ T82.heap.size := K82.1
  have N82 := Fr.app N77 Nq82
  have lt85 := own_alt f82_0.lt
  refine Gl.go (fun _ hr => zXS_iinc X82.here hx rfl (hb hby d12_23) rfl (l' := #[sR b, sI 1, sI 3, sR r_77, sI 0]) rfl (zXS_iinc X82.here hx rfl (hb hby d12_26) rfl (l' := #[sR b, sI 1, sI 3, sR r_77, sI 1]) rfl (zXS_goto X82.here hx rfl (pc0 := 29) (pc' := 8) rfl (hb hby d12_29) (by decide) (by decide) (zXS_iload X82.here hx rfl (hb hby d12_8) rfl (zXS_iloadN X82.here hx rfl (hb hby d12_10) rfl (zXS_icmpNo X82.here hx rfl (hb hby d12_11) rfl (XT.ii_ge_f (by decide)) (zXS_aloadN X82.here hx rfl (hb hby d12_14) rfl rfl (zXS_iload X82.here hx rfl (hb hby d12_15) rfl (zXS_aloadN X82.here hx rfl (hb hby d12_17) rfl rfl (zXS_iloadN X82.here hx rfl (hb hby d12_18) rfl hr)))))))))) ?_
  have om86 : ¬ @Eq Nat b r_77 := by omega
  have Vc87 := (Vc80.keep K82 (ninS (own_ane om86) nin0))
  obtain ⟨c88, a88, q88, s88, m88, H88, U88⟩ := id Vc87
  have i88 := inb_of s88 (j := (1 : Int32)) ⟨(by decide), (by decide)⟩
  refine g_caload Gl.cl X82 hx hZ (rfl : T82.heap = T82.heap) a88 i88 (v := (.int c1)) (H88.at i88 rfl) rfl rfl (hb hby d12_19) ?_
  have om90 : @LE.le Nat instLENat n0 r_77 := by omega
  have Oc91 := (Oc83.keep K82 (allS (own_ale om90) all0))
  have zz89 : n0 ≤ T82.heap.size := by omega
  refine gStaticN Gl.cl (y := y_0) (argsL := [(.ref r_77), (.int (1 : Int32)), (.int c1)]) (rest := []) (mc := 0) (ms := 0) X82 hx hZ hown (mvT hZ (tw hw 63 rfl)) (mvT hZ (tw hw 64 rfl)) (mvT hZ (tw hw 33 rfl)) (mvT hZ (tw hw 65 rfl)) (by decide) (backOf (W := 0) (pch l Z a0 hw [] r_77 kr_77 6 (([(.int (0 : Int32)), (.int (0 : Int32)), (.int (0 : Int32)), (.int (0 : Int32)), (.int (0 : Int32)), (.int (0 : Int32))].set (2 * 0) (.int (StrChars.lo8 c0))).set (2 * 0 + 1) (.int (StrChars.hi8 c0))) 1 c1 T82.heap n0 zz89 Oc91 q1 q2 q3 f82_0 (by omega) (by decide) (by decide) (Nat.le_of_ble_eq_true rfl)) hZ (tw hw 65 rfl) (tw hw 33 rfl) (by decide) (by decide)) rfl (by rw [hml]; rfl) (lenOf pd_2 rfl) rfl (by exact Nat.le_of_eq rfl) (hb hby d12_20) rfl (rfl : T82.heap = T82.heap) (by decide) (by decide) ?_
  intro v89 T89 Lc89 hQ89 X89
  obtain ⟨rfl, Nq89, K89, f89_0⟩ := hQ89
  have z92 : T82.heap.size ≤ T89.heap.size := K89.1
  have N89 := Fr.app N82 Nq89
  have lt93 := own_alt f89_0.lt
  refine Gl.go (fun _ hr => zXS_iinc X89.here hx rfl (hb hby d12_23) rfl (l' := #[sR b, sI 2, sI 3, sR r_77, sI 1]) rfl (zXS_iinc X89.here hx rfl (hb hby d12_26) rfl (l' := #[sR b, sI 2, sI 3, sR r_77, sI 2]) rfl (zXS_goto X89.here hx rfl (pc0 := 29) (pc' := 8) rfl (hb hby d12_29) (by decide) (by decide) (zXS_iload X89.here hx rfl (hb hby d12_8) rfl (zXS_iloadN X89.here hx rfl (hb hby d12_10) rfl (zXS_icmpNo X89.here hx rfl (hb hby d12_11) rfl (XT.ii_ge_f (by decide)) (zXS_aloadN X89.here hx rfl (hb hby d12_14) rfl rfl (zXS_iload X89.here hx rfl (hb hby d12_15) rfl (zXS_aloadN X89.here hx rfl (hb hby d12_17) rfl rfl (zXS_iloadN X89.here hx rfl (hb hby d12_18) rfl hr)))))))))) ?_
  have Vc94 := (Vc87.keep K89 (ninS (own_ane om86) nin0))
  obtain ⟨c95, a95, q95, s95, m95, H95, U95⟩ := id Vc94
  have i95 := inb_of s95 (j := (2 : Int32)) ⟨(by decide), (by decide)⟩
  refine g_caload Gl.cl X89 hx hZ (rfl : T89.heap = T89.heap) a95 i95 (v := (.int c2)) (H95.at i95 rfl) rfl rfl (hb hby d12_19) ?_
  have Oc97 := (Oc91.keep K89 (allS (own_ale om90) all0))
  have zz96 : n0 ≤ T89.heap.size := by omega
  refine gStaticN Gl.cl (y := y_0) (argsL := [(.ref r_77), (.int (2 : Int32)), (.int c2)]) (rest := []) (mc := 0) (ms := 0) X89 hx hZ hown (mvT hZ (tw hw 63 rfl)) (mvT hZ (tw hw 64 rfl)) (mvT hZ (tw hw 33 rfl)) (mvT hZ (tw hw 65 rfl)) (by decide) (backOf (W := 0) (pch l Z a0 hw [] r_77 kr_77 6 (((([(.int (0 : Int32)), (.int (0 : Int32)), (.int (0 : Int32)), (.int (0 : Int32)), (.int (0 : Int32)), (.int (0 : Int32))].set (2 * 0) (.int (StrChars.lo8 c0))).set (2 * 0 + 1) (.int (StrChars.hi8 c0))).set (2 * 1) (.int (StrChars.lo8 c1))).set (2 * 1 + 1) (.int (StrChars.hi8 c1))) 2 c2 T89.heap n0 zz96 Oc97 q1 q2 q3 f89_0 (by omega) (by decide) (by decide) (Nat.le_of_ble_eq_true rfl)) hZ (tw hw 65 rfl) (tw hw 33 rfl) (by decide) (by decide)) rfl (by rw [hml]; rfl) (lenOf pd_2 rfl) rfl (by exact Nat.le_of_eq rfl) (hb hby d12_20) rfl (rfl : T89.heap = T89.heap) (by decide) (by decide) ?_
  intro v96 T96 Lc96 hQ96 X96
  obtain ⟨rfl, Nq96, K96, f96_0⟩ := hQ96
  have z98 : T89.heap.size ≤ T96.heap.size := K96.1
  have N96 := Fr.app N89 Nq96
  have lt99 := own_alt f96_0.lt
  refine Gl.go (fun _ hr => zXS_iinc X96.here hx rfl (hb hby d12_23) rfl (l' := #[sR b, sI 3, sI 3, sR r_77, sI 2]) rfl (zXS_iinc X96.here hx rfl (hb hby d12_26) rfl (l' := #[sR b, sI 3, sI 3, sR r_77, sI 3]) rfl (zXS_goto X96.here hx rfl (pc0 := 29) (pc' := 8) rfl (hb hby d12_29) (by decide) (by decide) (zXS_iload X96.here hx rfl (hb hby d12_8) rfl (zXS_iloadN X96.here hx rfl (hb hby d12_10) rfl (zXS_icmpYes X96.here hx rfl (pc0 := 11) (pc' := 32) rfl (hb hby d12_11) rfl (XT.ii_ge_t (by decide)) (by decide) (by decide) (zXS_aloadN X96.here hx rfl (hb hby d12_32) rfl rfl hr))))))) ?_
  obtain ⟨fs, hr, hrun, hended, hW, hsame⟩ := X96.leave (v := some (.ref r_77)) (fun h => by rw [Bd.returns] at h; cases h)
  have om100 : @LE.le Nat instLENat h0.size r_77 := by omega
  refine ⟨_, _, retOut X96 hx Bd.returns rfl (Or.inr (Or.inr (Or.inr (Or.inr ⟨rfl, rfl, rfl⟩)))) (hb hby d12_33) hr, hrun, hended, _, _, rfl, ?_, ⟨⟨_, rfl⟩, hW, hsame.mono (by decide) (by decide)⟩⟩
  show Qtob3 Z b ck c0 c1 c2 h0 n0 _ T96.heap _
  exact ⟨r_77, kr_77, rfl, N96, (((((Keep.refl h0 []).trans K77 all0).trans K82 (allS (P := fun x_ => x_ ∈ ([] : List Addr) ∨ h0.size ≤ x_) (Or.inr (own_ale om100)) all0)).trans K89 (allS (P := fun x_ => x_ ∈ ([] : List Addr) ∨ h0.size ≤ x_) (Or.inr (own_ale om100)) all0)).trans K96 (allS (P := fun x_ => x_ ∈ ([] : List Addr) ∨ h0.size ≤ x_) (Or.inr (own_ale om100)) all0)), f96_0, (by omega)⟩
def Qcmq3 (Z : State) (b : Addr) (ck : ClassId) (a : Addr) (ka : ClassId) (c0 : Int32) (c1 : Int32) (c2 : Int32) (h0 : Heap) (n0 : Nat) (v : Option Value) (h : Heap) (L : List Loc) : Prop := ∃ (r : Nat), ∃ (ys : List Value), v = some (.int (Int32.ofNat r)) ∧ Fr n0 L ∧ Keep h0 h [a] ∧ (Arv Z h a ka .byte (3 : Int32) ys (.int (0 : Int32))) ∧ ((r = 3 ∧ ys = [(.int (StrChars.lo8 c0)), (.int (StrChars.lo8 c1)), (.int (StrChars.lo8 c2))] ∧ ∀ c ∈ ([c0, c1, c2] : List Int32), ¬ (255 : Int32) < c) ∨ (r < 3 ∧ (255 : Int32) < ([c0, c1, c2] : List Int32).getD r 0))
theorem ef_cmq3 (m : MethodId) (x0 : Addr) (x1 : Int32) (x2 : Addr) (x3 : Int32) (x4 : Int32) : entryFrame m #[(.ref x0), (.int x1), (.ref x2), (.int x3), (.int x4)] 7 = mkF m 0 #[sR x0, sI x1, sR x2, sI x3, sI x4, sU, sU] [] := by first | (simp [entryFrame, mkF, argsToLocals, Value.category]; done) | rfl
set_option maxRecDepth 65536 in
set_option maxHeartbeats 40000000 in
theorem cmq3 (l : Launch) (Z : State) (a0 : Array Value) (hw : ∀ d ∈ tables_1, d.before a0 Z = true) (ws : List Jvm.Cond) (b : Addr) (ck : ClassId) (a : Addr) (ka : ClassId) (c0 : Int32) (c1 : Int32) (c2 : Int32) (h0 : Heap) (n0 : Nat) (Z0 : n0 ≤ h0.size) (q0 : Arv Z h0 b ck .char (3 : Int32) ([(.int c0), (.int c1), (.int c2)]) (.int (0 : Int32))) (q1 : Arv Z h0 a ka .byte (3 : Int32) ([(.int (0 : Int32)), (.int (0 : Int32)), (.int (0 : Int32))]) (.int (0 : Int32))) (q2 : @LE.le Nat instLENat n0 a) (q3 : ¬ @Eq Nat a b) :
    MetFree l y_5 (head1 (Jvm.Cond.code y_5 jdk_52_method_21_code 7 (some .int) :: ws) r_m0) (fun a_ U_ => a_ = #[(.ref b), (.int (0 : Int32)), (.ref a), (.int (0 : Int32)), (.int (3 : Int32))] ∧ Z.Warmed39 U_.vm ∧ U_.heap = h0) (fun _ _ _ _ _ => True) (fun _ U_ o_ V_ => ∃ v_ L_, o_ = .returned v_ ∧ Qcmq3 Z b ck a ka c0 c1 c2 h0 n0 v_ V_.heap L_ ∧ FrameEnd U_ o_ V_ L_ r_m0.cells r_m0.slots) := by
  refine MetFree.of_bodySF (plainFor_of_name pn_0) hisR ?_
  intro p e s m args below meth c s₁ Bd hml0 hP hK
  obtain ⟨rfl, hZ, hh⟩ := hP
  have hx := Bd.exec
  have hby := Bd.bytes
  have hml : c.maxLocals = 7 := hml0
  have hown : s.vm.findClass "java/lang/StringUTF16" = some m.cls := findClass_of_methodNamed Bd.named
  have hnm := (name_of_methodNamed Bd.named Bd.method).1
  have X0 : Stand p l e r_m0 s m #[(.ref b), (.int (0 : Int32)), (.ref a), (.int (0 : Int32)), (.int (3 : Int32))] below meth c s₁ [] 0 0 := Stand.of_body Bd
  have e0 : s₁.heap = h0 := by rw [← hh, Bd.state]; rfl
  have N0 := Fr.nil n0
  have lt101 := own_alt q0.lt
  have lt102 := own_alt q1.lt
  refine Gl.go (A := s₁.setTop (entryFrame m #[(.ref b), (.int (0 : Int32)), (.ref a), (.int (0 : Int32)), (.int (3 : Int32))] 7)) (P := fun o_ U_ => ∃ v_ L_, o_ = .returned v_ ∧ Qcmq3 Z b ck a ka c0 c1 c2 h0 n0 v_ U_.heap L_ ∧ FrameEnd s o_ U_ L_ r_m0.cells r_m0.slots) (fun t_ k_ => castTop (ef_cmq3 m b (0 : Int32) a (0 : Int32) (3 : Int32)) k_) ?_
  show Gl p.tables e below _ (s₁.setTop (mkF m 0 #[sR b, sI 0, sR a, sI 0, sI 3, sU, sU] []))
  refine Gl.go (fun _ hr => zXS_iconst X0.here hx rfl (hb hby d8_0) (zXS_istore X0.here hx rfl (hb hby d8_1) rfl (l' := #[sR b, sI 0, sR a, sI 0, sI 3, sI 0, sU]) rfl (zXS_iload X0.here hx rfl (hb hby d8_3) rfl (zXS_iload X0.here hx rfl (hb hby d8_5) rfl (zXS_icmpNo X0.here hx rfl (hb hby d8_7) rfl (XT.ii_ge_f (by decide)) (zXS_aloadN X0.here hx rfl (hb hby d8_10) rfl rfl (zXS_iloadN X0.here hx rfl (hb hby d8_11) rfl hr))))))) ?_
  obtain ⟨c103, a103, q103, s103, m103, H103, U103⟩ := id q0
  have i103 := inb_of s103 (j := (0 : Int32)) ⟨(by decide), (by decide)⟩
  refine g_caload Gl.cl X0 hx hZ e0 a103 i103 (v := (.int c0)) (H103.at i103 rfl) rfl rfl (hb hby d8_12) ?_
  refine Gl.go (fun _ hr => zXS_istore X0.here hx rfl (hb hby d8_13) rfl (l' := #[sR b, sI 0, sR a, sI 0, sI 3, sI 0, sI c0]) rfl (zXS_iload X0.here hx rfl (hb hby d8_15) rfl (zXS_sipush X0.here hx rfl (hb hby d8_17) hr))) ?_
  by_cases hc104 : (255 : Int32) < c0
  · refine Gl.go (fun _ hr => zXS_icmpNo X0.here hx rfl (hb hby d8_20) rfl (XT.ii_le_f hc104) (zXS_iload X0.here hx rfl (hb hby d8_23) rfl hr)) ?_
    obtain ⟨fs, hr, hrun, hended, hW, hsame⟩ := X0.leave (v := some (.int (0 : Int32))) (fun h => by rw [Bd.returns] at h; cases h)
    refine ⟨_, _, retOut X0 hx Bd.returns rfl (Or.inl ⟨rfl, Or.inl rfl, _, rfl⟩) (hb hby d8_25) hr, hrun, hended, _, _, rfl, ?_, ⟨⟨_, rfl⟩, hW, hsame.mono (by decide) (by decide)⟩⟩
    show Qcmq3 Z b ck a ka c0 c1 c2 h0 n0 _ s₁.heap _
    rw [e0]
    exact ⟨0, [(.int (0 : Int32)), (.int (0 : Int32)), (.int (0 : Int32))], rfl, N0, (Keep.refl h0 [a]), q1, (Or.inr ⟨by decide, hc104⟩)⟩
  · refine Gl.go (fun _ hr => zXS_icmpYes X0.here hx rfl (pc0 := 20) (pc' := 26) rfl (hb hby d8_20) rfl (XT.ii_le_t hc104) (by decide) (by decide) (zXS_aloadN X0.here hx rfl (hb hby d8_26) rfl rfl (zXS_iloadN X0.here hx rfl (hb hby d8_27) rfl (zXS_iload X0.here hx rfl (hb hby d8_28) rfl (zXT_i2b X0.here hx rfl (hb hby d8_30) rfl hr))))) ?_
    show Gl p.tables e below _ (s₁.setTop (mkF m 31 #[sR b, sI 0, sR a, sI 0, sI 3, sI 0, sI c0] [(.int (c0.toInt8.toInt32)), (.int (0 : Int32)), (.ref a)]))
    show Gl p.tables e below _ (s₁.setTop (mkF m 31 #[sR b, sI 0, sR a, sI 0, sI 3, sI 0, sI c0] [(.int (StrChars.lo8 c0)), (.int (0 : Int32)), (.ref a)]))
    obtain ⟨c105, a105, q105, s105, m105, H105, U105⟩ := id q1
    refine gstB Gl.cl X0 hx hZ e0 a105 (j := (0 : Int32)) (inb_of s105 ⟨(by decide), (by decide)⟩) rfl rfl (hb hby d8_31) ?_
    intro T105 h105 X105 e105 W105
    have z106 : h0.size ≤ h105.size := (Keep.of_wr W105).1
    rw [(own_narb _)] at W105
    have V105 : Arv Z h105 a ka .byte (3 : Int32) [(.int (StrChars.lo8 c0)), (.int (0 : Int32)), (.int (0 : Int32))] (.int (0 : Int32)) := Arv.set a105 q105 s105 m105 H105 U105 (own_fitb _) W105 0 rfl (Nat.le_of_ble_eq_true rfl)
    have om107 : @LE.le Nat instLENat n0 a := by omega
    have N105 := Fr.snoc X105 N0 (own_ale om107)
    refine Gl.go (fun _ hr => zXS_iinc X105.here hx rfl (hb hby d8_32) rfl (l' := #[sR b, sI 1, sR a, sI 0, sI 3, sI 0, sI c0]) rfl (zXS_iinc X105.here hx rfl (hb hby d8_35) rfl (l' := #[sR b, sI 1, sR a, sI 1, sI 3, sI 0, sI c0]) rfl (zXS_iinc X105.here hx rfl (hb hby d8_38) rfl (l' := #[sR b, sI 1, sR a, sI 1, sI 3, sI 1, sI c0]) rfl (zXS_goto X105.here hx rfl (pc0 := 41) (pc' := 3) rfl (hb hby d8_41) (by decide) (by decide) (zXS_iload X105.here hx rfl (hb hby d8_3) rfl (zXS_iload X105.here hx rfl (hb hby d8_5) rfl (zXS_icmpNo X105.here hx rfl (hb hby d8_7) rfl (XT.ii_ge_f (by decide)) (zXS_aloadN X105.here hx rfl (hb hby d8_10) rfl rfl (zXS_iloadN X105.here hx rfl (hb hby d8_11) rfl hr))))))))) ?_
    have om108 : ¬ @Eq Nat b a := by omega
    have Vc109 := (q0.other W105 (own_ane om108))
    obtain ⟨c110, a110, q110, s110, m110, H110, U110⟩ := id Vc109
    have i110 := inb_of s110 (j := (1 : Int32)) ⟨(by decide), (by decide)⟩
    refine g_caload Gl.cl X105 hx hZ e105 a110 i110 (v := (.int c1)) (H110.at i110 rfl) rfl rfl (hb hby d8_12) ?_
    refine Gl.go (fun _ hr => zXS_istore X105.here hx rfl (hb hby d8_13) rfl (l' := #[sR b, sI 1, sR a, sI 1, sI 3, sI 1, sI c1]) rfl (zXS_iload X105.here hx rfl (hb hby d8_15) rfl (zXS_sipush X105.here hx rfl (hb hby d8_17) hr))) ?_
    by_cases hc111 : (255 : Int32) < c1
    · refine Gl.go (fun _ hr => zXS_icmpNo X105.here hx rfl (hb hby d8_20) rfl (XT.ii_le_f hc111) (zXS_iload X105.here hx rfl (hb hby d8_23) rfl hr)) ?_
      obtain ⟨fs, hr, hrun, hended, hW, hsame⟩ := X105.leave (v := some (.int (1 : Int32))) (fun h => by rw [Bd.returns] at h; cases h)
      refine ⟨_, _, retOut X105 hx Bd.returns rfl (Or.inl ⟨rfl, Or.inl rfl, _, rfl⟩) (hb hby d8_25) hr, hrun, hended, _, _, rfl, ?_, ⟨⟨_, rfl⟩, hW, hsame.mono (by decide) (by decide)⟩⟩
      show Qcmq3 Z b ck a ka c0 c1 c2 h0 n0 _ T105.heap _
      rw [e105]
      exact ⟨1, [(.int (StrChars.lo8 c0)), (.int (0 : Int32)), (.int (0 : Int32))], rfl, N105, ((Keep.refl h0 [a]).wr W105 (Or.inl (by simp))), V105, (Or.inr ⟨by decide, hc111⟩)⟩
    · refine Gl.go (fun _ hr => zXS_icmpYes X105.here hx rfl (pc0 := 20) (pc' := 26) rfl (hb hby d8_20) rfl (XT.ii_le_t hc111) (by decide) (by decide) (zXS_aloadN X105.here hx rfl (hb hby d8_26) rfl rfl (zXS_iloadN X105.here hx rfl (hb hby d8_27) rfl (zXS_iload X105.here hx rfl (hb hby d8_28) rfl (zXT_i2b X105.here hx rfl (hb hby d8_30) rfl hr))))) ?_
      show Gl p.tables e below _ (T105.setTop (mkF m 31 #[sR b, sI 1, sR a, sI 1, sI 3, sI 1, sI c1] [(.int (c1.toInt8.toInt32)), (.int (1 : Int32)), (.ref a)]))
      show Gl p.tables e below _ (T105.setTop (mkF m 31 #[sR b, sI 1, sR a, sI 1, sI 3, sI 1, sI c1] [(.int (StrChars.lo8 c1)), (.int (1 : Int32)), (.ref a)]))
      obtain ⟨c112, a112, q112, s112, m112, H112, U112⟩ := id V105
      refine gstB Gl.cl X105 hx hZ e105 a112 (j := (1 : Int32)) (inb_of s112 ⟨(by decide), (by decide)⟩) rfl rfl (hb hby d8_31) ?_
      intro T112 h112 X112 e112 W112
      have z113 : h105.size ≤ h112.size := (Keep.of_wr W112).1
      rw [(own_narb _)] at W112
      have V112 : Arv Z h112 a ka .byte (3 : Int32) [(.int (StrChars.lo8 c0)), (.int (StrChars.lo8 c1)), (.int (0 : Int32))] (.int (0 : Int32)) := Arv.set a112 q112 s112 m112 H112 U112 (own_fitb _) W112 1 rfl (Nat.le_of_ble_eq_true rfl)
      have N112 := Fr.snoc X112 N105 (own_ale om107)
      refine Gl.go (fun _ hr => zXS_iinc X112.here hx rfl (hb hby d8_32) rfl (l' := #[sR b, sI 2, sR a, sI 1, sI 3, sI 1, sI c1]) rfl (zXS_iinc X112.here hx rfl (hb hby d8_35) rfl (l' := #[sR b, sI 2, sR a, sI 2, sI 3, sI 1, sI c1]) rfl (zXS_iinc X112.here hx rfl (hb hby d8_38) rfl (l' := #[sR b, sI 2, sR a, sI 2, sI 3, sI 2, sI c1]) rfl (zXS_goto X112.here hx rfl (pc0 := 41) (pc' := 3) rfl (hb hby d8_41) (by decide) (by decide) (zXS_iload X112.here hx rfl (hb hby d8_3) rfl (zXS_iload X112.here hx rfl (hb hby d8_5) rfl (zXS_icmpNo X112.here hx rfl (hb hby d8_7) rfl (XT.ii_ge_f (by decide)) (zXS_aloadN X112.here hx rfl (hb hby d8_10) rfl rfl (zXS_iloadN X112.here hx rfl (hb hby d8_11) rfl hr))))))))) ?_
      have Vc114 := (Vc109.other W112 (own_ane om108))
      obtain ⟨c115, a115, q115, s115, m115, H115, U115⟩ := id Vc114
      have i115 := inb_of s115 (j := (2 : Int32)) ⟨(by decide), (by decide)⟩
      refine g_caload Gl.cl X112 hx hZ e112 a115 i115 (v := (.int c2)) (H115.at i115 rfl) rfl rfl (hb hby d8_12) ?_
      refine Gl.go (fun _ hr => zXS_istore X112.here hx rfl (hb hby d8_13) rfl (l' := #[sR b, sI 2, sR a, sI 2, sI 3, sI 2, sI c2]) rfl (zXS_iload X112.here hx rfl (hb hby d8_15) rfl (zXS_sipush X112.here hx rfl (hb hby d8_17) hr))) ?_
      by_cases hc116 : (255 : Int32) < c2
      · refine Gl.go (fun _ hr => zXS_icmpNo X112.here hx rfl (hb hby d8_20) rfl (XT.ii_le_f hc116) (zXS_iload X112.here hx rfl (hb hby d8_23) rfl hr)) ?_
        obtain ⟨fs, hr, hrun, hended, hW, hsame⟩ := X112.leave (v := some (.int (2 : Int32))) (fun h => by rw [Bd.returns] at h; cases h)
        refine ⟨_, _, retOut X112 hx Bd.returns rfl (Or.inl ⟨rfl, Or.inl rfl, _, rfl⟩) (hb hby d8_25) hr, hrun, hended, _, _, rfl, ?_, ⟨⟨_, rfl⟩, hW, hsame.mono (by decide) (by decide)⟩⟩
        show Qcmq3 Z b ck a ka c0 c1 c2 h0 n0 _ T112.heap _
        rw [e112]
        exact ⟨2, [(.int (StrChars.lo8 c0)), (.int (StrChars.lo8 c1)), (.int (0 : Int32))], rfl, N112, (((Keep.refl h0 [a]).wr W105 (Or.inl (by simp))).wr W112 (Or.inl (by simp))), V112, (Or.inr ⟨by decide, hc116⟩)⟩
      · refine Gl.go (fun _ hr => zXS_icmpYes X112.here hx rfl (pc0 := 20) (pc' := 26) rfl (hb hby d8_20) rfl (XT.ii_le_t hc116) (by decide) (by decide) (zXS_aloadN X112.here hx rfl (hb hby d8_26) rfl rfl (zXS_iloadN X112.here hx rfl (hb hby d8_27) rfl (zXS_iload X112.here hx rfl (hb hby d8_28) rfl (zXT_i2b X112.here hx rfl (hb hby d8_30) rfl hr))))) ?_
        show Gl p.tables e below _ (T112.setTop (mkF m 31 #[sR b, sI 2, sR a, sI 2, sI 3, sI 2, sI c2] [(.int (c2.toInt8.toInt32)), (.int (2 : Int32)), (.ref a)]))
        show Gl p.tables e below _ (T112.setTop (mkF m 31 #[sR b, sI 2, sR a, sI 2, sI 3, sI 2, sI c2] [(.int (StrChars.lo8 c2)), (.int (2 : Int32)), (.ref a)]))
        obtain ⟨c117, a117, q117, s117, m117, H117, U117⟩ := id V112
        refine gstB Gl.cl X112 hx hZ e112 a117 (j := (2 : Int32)) (inb_of s117 ⟨(by decide), (by decide)⟩) rfl rfl (hb hby d8_31) ?_
        intro T117 h117 X117 e117 W117
        have z118 : h112.size ≤ h117.size := (Keep.of_wr W117).1
        rw [(own_narb _)] at W117
        have V117 : Arv Z h117 a ka .byte (3 : Int32) [(.int (StrChars.lo8 c0)), (.int (StrChars.lo8 c1)), (.int (StrChars.lo8 c2))] (.int (0 : Int32)) := Arv.set a117 q117 s117 m117 H117 U117 (own_fitb _) W117 2 rfl (Nat.le_of_ble_eq_true rfl)
        have N117 := Fr.snoc X117 N112 (own_ale om107)
        refine Gl.go (fun _ hr => zXS_iinc X117.here hx rfl (hb hby d8_32) rfl (l' := #[sR b, sI 3, sR a, sI 2, sI 3, sI 2, sI c2]) rfl (zXS_iinc X117.here hx rfl (hb hby d8_35) rfl (l' := #[sR b, sI 3, sR a, sI 3, sI 3, sI 2, sI c2]) rfl (zXS_iinc X117.here hx rfl (hb hby d8_38) rfl (l' := #[sR b, sI 3, sR a, sI 3, sI 3, sI 3, sI c2]) rfl (zXS_goto X117.here hx rfl (pc0 := 41) (pc' := 3) rfl (hb hby d8_41) (by decide) (by decide) (zXS_iload X117.here hx rfl (hb hby d8_3) rfl (zXS_iload X117.here hx rfl (hb hby d8_5) rfl (zXS_icmpYes X117.here hx rfl (pc0 := 7) (pc' := 44) rfl (hb hby d8_7) rfl (XT.ii_ge_t (by decide)) (by decide) (by decide) (zXS_iload X117.here hx rfl (hb hby d8_44) rfl hr)))))))) ?_
        obtain ⟨fs, hr, hrun, hended, hW, hsame⟩ := X117.leave (v := some (.int (3 : Int32))) (fun h => by rw [Bd.returns] at h; cases h)
        refine ⟨_, _, retOut X117 hx Bd.returns rfl (Or.inl ⟨rfl, Or.inl rfl, _, rfl⟩) (hb hby d8_46) hr, hrun, hended, _, _, rfl, ?_, ⟨⟨_, rfl⟩, hW, hsame.mono (by decide) (by decide)⟩⟩
        show Qcmq3 Z b ck a ka c0 c1 c2 h0 n0 _ T117.heap _
        rw [e117]
        exact ⟨3, [(.int (StrChars.lo8 c0)), (.int (StrChars.lo8 c1)), (.int (StrChars.lo8 c2))], rfl, N117, ((((Keep.refl h0 [a]).wr W105 (Or.inl (by simp))).wr W112 (Or.inl (by simp))).wr W117 (Or.inl (by simp))), V117, (Or.inl ⟨rfl, rfl, (own_cS (P := fun c => ¬ (255 : Int32) < c) hc104 (own_cS (P := fun c => ¬ (255 : Int32) < c) hc111 (own_cS (P := fun c => ¬ (255 : Int32) < c) hc116 own_c0)))⟩)⟩
def Qnbl4 (Z : State)  (h0 : Heap) (n0 : Nat) (v : Option Value) (h : Heap) (L : List Loc) : Prop := v = some (.int (8 : Int32)) ∧ Fr n0 L ∧ h = h0
theorem ef_nbl4 (m : MethodId) (x0 : Int32) : entryFrame m #[(.int x0)] 1 = mkF m 0 #[sI x0] [] := by first | (simp [entryFrame, mkF, argsToLocals, Value.category]; done) | rfl
set_option maxRecDepth 65536 in
set_option maxHeartbeats 40000000 in
theorem nbl4 (l : Launch) (Z : State) (a0 : Array Value) (hw : ∀ d ∈ tables_1, d.before a0 Z = true) (ws : List Jvm.Cond)  (h0 : Heap) (n0 : Nat) (Z0 : n0 ≤ h0.size) :
    MetFree l y_2 (head1 (Jvm.Cond.code y_2 jdk_52_method_3_code 1 (some .int) :: ws) r_m0) (fun a_ U_ => a_ = #[(.int (4 : Int32))] ∧ Z.Warmed39 U_.vm ∧ U_.heap = h0) (fun _ _ _ _ _ => True) (fun _ U_ o_ V_ => ∃ v_ L_, o_ = .returned v_ ∧ Qnbl4 Z  h0 n0 v_ V_.heap L_ ∧ FrameEnd U_ o_ V_ L_ r_m0.cells r_m0.slots) := by
  refine MetFree.of_bodySF (plainFor_of_name pn_0) hisR ?_
  intro p e s m args below meth c s₁ Bd hml0 hP hK
  obtain ⟨rfl, hZ, hh⟩ := hP
  have hx := Bd.exec
  have hby := Bd.bytes
  have hml : c.maxLocals = 1 := hml0
  have hown : s.vm.findClass "java/lang/StringUTF16" = some m.cls := findClass_of_methodNamed Bd.named
  have hnm := (name_of_methodNamed Bd.named Bd.method).1
  have X0 : Stand p l e r_m0 s m #[(.int (4 : Int32))] below meth c s₁ [] 0 0 := Stand.of_body Bd
  have e0 : s₁.heap = h0 := by rw [← hh, Bd.state]; rfl
  have N0 := Fr.nil n0
  refine Gl.go (A := s₁.setTop (entryFrame m #[(.int (4 : Int32))] 1)) (P := fun o_ U_ => ∃ v_ L_, o_ = .returned v_ ∧ Qnbl4 Z  h0 n0 v_ U_.heap L_ ∧ FrameEnd s o_ U_ L_ r_m0.cells r_m0.slots) (fun t_ k_ => castTop (ef_nbl4 m (4 : Int32)) k_) ?_
  show Gl p.tables e below _ (s₁.setTop (mkF m 0 #[sI 4] []))
  refine Gl.go (fun _ hr => zXS_iloadN X0.here hx rfl (hb hby d14_0) rfl (zXS_ifYes X0.here hx rfl (pc0 := 1) (pc' := 12) rfl (hb hby d14_1) rfl (XT.i0_ge_t (by decide)) (by decide) (by decide) (zXS_iloadN X0.here hx rfl (hb hby d14_12) rfl hr))) ?_
  refine Gl.go (X0.ldcInt hx hown (mvT hZ (tw hw 62 rfl)) rfl (hb hby d14_13)) ?_
  refine Gl.go (fun _ hr => zXS_icmpYes X0.here hx rfl (pc0 := 15) (pc' := 55) rfl (hb hby d14_15) rfl (XT.ii_lt_t (by decide)) (by decide) (by decide) (zXS_iloadN X0.here hx rfl (hb hby d14_55) rfl (zXS_iconst X0.here hx rfl (hb hby d14_56) (zXT_ishl X0.here hx rfl (hb hby d14_57) rfl hr)))) ?_
  obtain ⟨fs, hr, hrun, hended, hW, hsame⟩ := X0.leave (v := some (.int (8 : Int32))) (fun h => by rw [Bd.returns] at h; cases h)
  refine ⟨_, _, retOut X0 hx Bd.returns rfl (Or.inl ⟨rfl, Or.inl rfl, _, rfl⟩) (hb hby d14_58) hr, hrun, hended, _, _, rfl, ?_, ⟨⟨_, rfl⟩, hW, hsame.mono (by decide) (by decide)⟩⟩
  show Qnbl4 Z  h0 n0 _ s₁.heap _
  rw [e0]
  exact ⟨rfl, N0, rfl⟩
def Qnbf4 (Z : State)  (h0 : Heap) (n0 : Nat) (v : Option Value) (h : Heap) (L : List Loc) : Prop := ∃ (r : Addr), ∃ (kr : ClassId), v = some (.ref r) ∧ Fr n0 L ∧ Keep h0 h [] ∧ (Arv Z h r kr .byte (8 : Int32) ([(.int (0 : Int32)), (.int (0 : Int32)), (.int (0 : Int32)), (.int (0 : Int32)), (.int (0 : Int32)), (.int (0 : Int32)), (.int (0 : Int32)), (.int (0 : Int32))]) (.int (0 : Int32))) ∧ (@LE.le Nat instLENat h0.size r)
theorem ef_nbf4 (m : MethodId) (x0 : Int32) : entryFrame m #[(.int x0)] 1 = mkF m 0 #[sI x0] [] := by first | (simp [entryFrame, mkF, argsToLocals, Value.category]; done) | rfl
set_option maxRecDepth 65536 in
set_option maxHeartbeats 40000000 in
theorem nbf4 (l : Launch) (Z : State) (a0 : Array Value) (hw : ∀ d ∈ tables_1, d.before a0 Z = true) (ws : List Jvm.Cond)  (h0 : Heap) (n0 : Nat) (Z0 : n0 ≤ h0.size) :
    MetFree l y_3 (head1 (Jvm.Cond.code y_3 jdk_52_method_2_code 1 (some (.array .byte)) :: ws) r_m1) (fun a_ U_ => a_ = #[(.int (4 : Int32))] ∧ Z.Warmed39 U_.vm ∧ U_.heap = h0) (fun _ _ _ _ _ => True) (fun _ U_ o_ V_ => ∃ v_ L_, o_ = .returned v_ ∧ Qnbf4 Z  h0 n0 v_ V_.heap L_ ∧ FrameEnd U_ o_ V_ L_ r_m1.cells r_m1.slots) := by
  refine MetFree.of_bodySF (plainFor_of_name pn_0) hisR ?_
  intro p e s m args below meth c s₁ Bd hml0 hP hK
  obtain ⟨rfl, hZ, hh⟩ := hP
  have hx := Bd.exec
  have hby := Bd.bytes
  have hml : c.maxLocals = 1 := hml0
  have hown : s.vm.findClass "java/lang/StringUTF16" = some m.cls := findClass_of_methodNamed Bd.named
  have hnm := (name_of_methodNamed Bd.named Bd.method).1
  have X0 : Stand p l e r_m1 s m #[(.int (4 : Int32))] below meth c s₁ [] 0 0 := Stand.of_body Bd
  have e0 : s₁.heap = h0 := by rw [← hh, Bd.state]; rfl
  have N0 := Fr.nil n0
  refine Gl.go (A := s₁.setTop (entryFrame m #[(.int (4 : Int32))] 1)) (P := fun o_ U_ => ∃ v_ L_, o_ = .returned v_ ∧ Qnbf4 Z  h0 n0 v_ U_.heap L_ ∧ FrameEnd s o_ U_ L_ r_m1.cells r_m1.slots) (fun t_ k_ => castTop (ef_nbf4 m (4 : Int32)) k_) ?_
  show Gl p.tables e below _ (s₁.setTop (mkF m 0 #[sI 4] []))
  refine Gl.go (fun _ hr => zXS_iloadN X0.here hx rfl (hb hby d13_0) rfl hr) ?_
  have zz119 : n0 ≤ h0.size := by omega
  refine gStaticN Gl.cl (y := y_2) (argsL := [(.int (4 : Int32))]) (rest := []) (mc := 0) (ms := 0) X0 hx hZ hown (mvT hZ (tw hw 59 rfl)) (mvT hZ (tw hw 60 rfl)) (mvT hZ (tw hw 33 rfl)) (mvT hZ (tw hw 61 rfl)) (by decide) (backOf (W := 0) (nbl4 l Z a0 hw []  h0 n0 zz119 ) hZ (tw hw 61 rfl) (tw hw 33 rfl) (by decide) (by decide)) rfl (by rw [hml]; rfl) (lenOf pd_0 rfl) rfl (by exact Nat.le_of_eq rfl) (hb hby d13_1) rfl e0 (by decide) (by decide) ?_
  intro v119 T119 Lc119 hQ119 X119
  obtain ⟨rfl, Nq119, e119⟩ := hQ119
  have N119 := Fr.app N0 Nq119
  refine gNewP Gl.cl X119 hx hZ (tw hw 35 rfl) e119 rfl (hb hby d13_4) rfl (by decide) (cap := 8) (by decide) (by decide) (by decide) (by decide) ?_
  intro T120 h120 b120 k120 g120 X120 e120 E120 A120
  have z121 : h0.size ≤ h120.size := E120.1
  have lt120 := own_alt A120.lt
  have V120 : Arv Z h120 b120 k120 .byte (8 : Int32) [(.int (0 : Int32)), (.int (0 : Int32)), (.int (0 : Int32)), (.int (0 : Int32)), (.int (0 : Int32)), (.int (0 : Int32)), (.int (0 : Int32)), (.int (0 : Int32))] (.int (0 : Int32)) := (Arv.new A120 (by decide)).pad (pad_rep [] (.int (0 : Int32)) 8)
  obtain ⟨fs, hr, hrun, hended, hW, hsame⟩ := X120.leave (v := some (.ref b120)) (fun h => by rw [Bd.returns] at h; cases h)
  refine ⟨_, _, retOut X120 hx Bd.returns rfl (Or.inr (Or.inr (Or.inr (Or.inr ⟨rfl, rfl, rfl⟩)))) (hb hby d13_6) hr, hrun, hended, _, _, rfl, ?_, ⟨⟨_, rfl⟩, hW, hsame.mono (by decide) (by decide)⟩⟩
  show Qnbf4 Z  h0 n0 _ T120.heap _
  rw [e120]
  exact ⟨b120, k120, rfl, N119, ((Keep.refl h0 []).ext E120), V120, (by omega)⟩
def Qtob4 (Z : State) (b : Addr) (ck : ClassId) (c0 : Int32) (c1 : Int32) (c2 : Int32) (c3 : Int32) (h0 : Heap) (n0 : Nat) (v : Option Value) (h : Heap) (L : List Loc) : Prop := ∃ (r : Addr), ∃ (kr : ClassId), v = some (.ref r) ∧ Fr n0 L ∧ Keep h0 h [] ∧ (Arv Z h r kr .byte (8 : Int32) (StrChars.Road.wideBytes ([c0, c1, c2, c3] : List Int32)) (.int (0 : Int32))) ∧ (@LE.le Nat instLENat h0.size r)
theorem ef_tob4 (m : MethodId) (x0 : Addr) (x1 : Int32) (x2 : Int32) : entryFrame m #[(.ref x0), (.int x1), (.int x2)] 5 = mkF m 0 #[sR x0, sI x1, sI x2, sU, sU] [] := by first | (simp [entryFrame, mkF, argsToLocals, Value.category]; done) | rfl
set_option maxRecDepth 65536 in
set_option maxHeartbeats 40000000 in
theorem tob4 (l : Launch) (Z : State) (a0 : Array Value) (hw : ∀ d ∈ tables_1, d.before a0 Z = true) (ws : List Jvm.Cond) (b : Addr) (ck : ClassId) (c0 : Int32) (c1 : Int32) (c2 : Int32) (c3 : Int32) (h0 : Heap) (n0 : Nat) (Z0 : n0 ≤ h0.size) (q0 : Old Z n0 h0) (q1 : Sta Z Z.heap "java/lang/StringUTF16" "$assertionsDisabled" "Z" (.int (1 : Int32))) (q2 : Sta Z Z.heap "java/lang/StringUTF16" "HI_BYTE_SHIFT" "I" (.int (0 : Int32))) (q3 : Sta Z Z.heap "java/lang/StringUTF16" "LO_BYTE_SHIFT" "I" (.int (8 : Int32))) (q4 : Arv Z h0 b ck .char (4 : Int32) ([(.int c0), (.int c1), (.int c2), (.int c3)]) (.int (0 : Int32))) :
    MetFree l y_4 (head1 (Jvm.Cond.code y_4 jdk_52_method_14_code 5 (some (.array .byte)) :: ws) r_m2) (fun a_ U_ => a_ = #[(.ref b), (.int (0 : Int32)), (.int (4 : Int32))] ∧ Z.Warmed39 U_.vm ∧ U_.heap = h0) (fun _ _ _ _ _ => True) (fun _ U_ o_ V_ => ∃ v_ L_, o_ = .returned v_ ∧ Qtob4 Z b ck c0 c1 c2 c3 h0 n0 v_ V_.heap L_ ∧ FrameEnd U_ o_ V_ L_ r_m2.cells r_m2.slots) := by
  refine MetFree.of_bodySF (plainFor_of_name pn_0) hisR ?_
  intro p e s m args below meth c s₁ Bd hml0 hP hK
  obtain ⟨rfl, hZ, hh⟩ := hP
  have hx := Bd.exec
  have hby := Bd.bytes
  have hml : c.maxLocals = 5 := hml0
  have hown : s.vm.findClass "java/lang/StringUTF16" = some m.cls := findClass_of_methodNamed Bd.named
  have hnm := (name_of_methodNamed Bd.named Bd.method).1
  have X0 : Stand p l e r_m2 s m #[(.ref b), (.int (0 : Int32)), (.int (4 : Int32))] below meth c s₁ [] 0 0 := Stand.of_body Bd
  have e0 : s₁.heap = h0 := by rw [← hh, Bd.state]; rfl
  have N0 := Fr.nil n0
  have zo := q0.1
  have lt122 := own_alt q4.lt
  refine Gl.go (A := s₁.setTop (entryFrame m #[(.ref b), (.int (0 : Int32)), (.int (4 : Int32))] 5)) (P := fun o_ U_ => ∃ v_ L_, o_ = .returned v_ ∧ Qtob4 Z b ck c0 c1 c2 c3 h0 n0 v_ U_.heap L_ ∧ FrameEnd s o_ U_ L_ r_m2.cells r_m2.slots) (fun t_ k_ => castTop (ef_tob4 m b (0 : Int32) (4 : Int32)) k_) ?_
  show Gl p.tables e below _ (s₁.setTop (mkF m 0 #[sR b, sI 0, sI 4, sU, sU] []))
  refine Gl.go (fun _ hr => zXS_iloadN X0.here hx rfl (hb hby d12_0) rfl hr) ?_
  have zz123 : n0 ≤ h0.size := by omega
  refine gStaticN Gl.cl (y := y_3) (argsL := [(.int (4 : Int32))]) (rest := []) (mc := 1) (ms := 8) X0 hx hZ hown (mvT hZ (tw hw 56 rfl)) (mvT hZ (tw hw 57 rfl)) (mvT hZ (tw hw 33 rfl)) (mvT hZ (tw hw 58 rfl)) (by decide) (backOf (W := 0) (nbf4 l Z a0 hw []  h0 n0 zz123 ) hZ (tw hw 58 rfl) (tw hw 33 rfl) (by decide) (by decide)) rfl (by rw [hml]; rfl) (lenOf pd_1 rfl) rfl (by exact Nat.le_of_eq rfl) (hb hby d12_1) rfl e0 (by decide) (by decide) ?_
  intro v123 T123 Lc123 hQ123 X123
  obtain ⟨r_123, kr_123, rfl, Nq123, K123, f123_0, f123_1⟩ := hQ123
  have z124 : h0.size ≤ T123.heap.size := K123.1
  have N123 := Fr.app N0 Nq123
  have lt125 := own_alt f123_0.lt
  refine Gl.go (fun _ hr => zXS_astoreN X123.here hx rfl (hb hby d12_4) rfl rfl (l' := #[sR b, sI 0, sI 4, sR r_123, sU]) rfl (zXS_iconst X123.here hx rfl (hb hby d12_5) (zXS_istore X123.here hx rfl (hb hby d12_6) rfl (l' := #[sR b, sI 0, sI 4, sR r_123, sI 0]) rfl (zXS_iload X123.here hx rfl (hb hby d12_8) rfl (zXS_iloadN X123.here hx rfl (hb hby d12_10) rfl (zXS_icmpNo X123.here hx rfl (hb hby d12_11) rfl (XT.ii_ge_f (by decide)) (zXS_aloadN X123.here hx rfl (hb hby d12_14) rfl rfl (zXS_iload X123.here hx rfl (hb hby d12_15) rfl (zXS_aloadN X123.here hx rfl (hb hby d12_17) rfl rfl (zXS_iloadN X123.here hx rfl (hb hby d12_18) rfl hr)))))))))) ?_
  have Vc126 := (q4.keep K123 nin0)
  obtain ⟨c127, a127, q127, s127, m127, H127, U127⟩ := id Vc126
  have i127 := inb_of s127 (j := (0 : Int32)) ⟨(by decide), (by decide)⟩
  refine g_caload Gl.cl X123 hx hZ (rfl : T123.heap = T123.heap) a127 i127 (v := (.int c0)) (H127.at i127 rfl) rfl rfl (hb hby d12_19) ?_
  have Oc129 := (q0.keep K123 all0)
  have zz128 : n0 ≤ T123.heap.size := by omega
  refine gStaticN Gl.cl (y := y_0) (argsL := [(.ref r_123), (.int (0 : Int32)), (.int c0)]) (rest := []) (mc := 0) (ms := 0) X123 hx hZ hown (mvT hZ (tw hw 63 rfl)) (mvT hZ (tw hw 64 rfl)) (mvT hZ (tw hw 33 rfl)) (mvT hZ (tw hw 65 rfl)) (by decide) (backOf (W := 0) (pch l Z a0 hw [] r_123 kr_123 8 ([(.int (0 : Int32)), (.int (0 : Int32)), (.int (0 : Int32)), (.int (0 : Int32)), (.int (0 : Int32)), (.int (0 : Int32)), (.int (0 : Int32)), (.int (0 : Int32))]) 0 c0 T123.heap n0 zz128 Oc129 q1 q2 q3 f123_0 (by omega) (by decide) (by decide) (Nat.le_of_ble_eq_true rfl)) hZ (tw hw 65 rfl) (tw hw 33 rfl) (by decide) (by decide)) rfl (by rw [hml]; rfl) (lenOf pd_2 rfl) rfl (by exact Nat.le_of_eq rfl) (hb hby d12_20) rfl (rfl : T123.heap = T123.heap) (by decide) (by decide) ?_
  intro v128 T128 Lc128 hQ128 X128
  obtain ⟨rfl, Nq128, K128, f128_0⟩ := hQ128
  have z130 : T123.heap.size ≤ T128.heap.size := K128.1
  have N128 := Fr.app N123 Nq128
  have lt131 := own_alt f128_0.lt
  refine Gl.go (fun _ hr => zXS_iinc X128.here hx rfl (hb hby d12_23) rfl (l' := #[sR b, sI 1, sI 4, sR r_123, sI 0]) rfl (zXS_iinc X128.here hx rfl (hb hby d12_26) rfl (l' := #[sR b, sI 1, sI 4, sR r_123, sI 1]) rfl (zXS_goto X128.here hx rfl (pc0 := 29) (pc' := 8) rfl (hb hby d12_29) (by decide) (by decide) (zXS_iload X128.here hx rfl (hb hby d12_8) rfl (zXS_iloadN X128.here hx rfl (hb hby d12_10) rfl (zXS_icmpNo X128.here hx rfl (hb hby d12_11) rfl (XT.ii_ge_f (by decide)) (zXS_aloadN X128.here hx rfl (hb hby d12_14) rfl rfl (zXS_iload X128.here hx rfl (hb hby d12_15) rfl (zXS_aloadN X128.here hx rfl (hb hby d12_17) rfl rfl (zXS_iloadN X128.here hx rfl (hb hby d12_18) rfl hr)))))))))) ?_
  have om132 : ¬ @Eq Nat b r_123 := by omega
  have Vc133 := (Vc126.keep K128 (ninS (own_ane om132) nin0))
  obtain ⟨c134, a134, q134, s134, m134, H134, U134⟩ := id Vc133
  have i134 := inb_of s134 (j := (1 : Int32)) ⟨(by decide), (by decide)⟩
  refine g_caload Gl.cl X128 hx hZ (rfl : T128.heap = T128.heap) a134 i134 (v := (.int c1)) (H134.at i134 rfl) rfl rfl (hb hby d12_19) ?_
  have om136 : @LE.le Nat instLENat n0 r_123 := by omega
  have Oc137 := (Oc129.keep K128 (allS (own_ale om136) all0))
  have zz135 : n0 ≤ T128.heap.size := by omega
  refine gStaticN Gl.cl (y := y_0) (argsL := [(.ref r_123), (.int (1 : Int32)), (.int c1)]) (rest := []) (mc := 0) (ms := 0) X128 hx hZ hown (mvT hZ (tw hw 63 rfl)) (mvT hZ (tw hw 64 rfl)) (mvT hZ (tw hw 33 rfl)) (mvT hZ (tw hw 65 rfl)) (by decide) (backOf (W := 0) (pch l Z a0 hw [] r_123 kr_123 8 (([(.int (0 : Int32)), (.int (0 : Int32)), (.int (0 : Int32)), (.int (0 : Int32)), (.int (0 : Int32)), (.int (0 : Int32)), (.int (0 : Int32)), (.int (0 : Int32))].set (2 * 0) (.int (StrChars.lo8 c0))).set (2 * 0 + 1) (.int (StrChars.hi8 c0))) 1 c1 T128.heap n0 zz135 Oc137 q1 q2 q3 f128_0 (by omega) (by decide) (by decide) (Nat.le_of_ble_eq_true rfl)) hZ (tw hw 65 rfl) (tw hw 33 rfl) (by decide) (by decide)) rfl (by rw [hml]; rfl) (lenOf pd_2 rfl) rfl (by exact Nat.le_of_eq rfl) (hb hby d12_20) rfl (rfl : T128.heap = T128.heap) (by decide) (by decide) ?_
  intro v135 T135 Lc135 hQ135 X135
  obtain ⟨rfl, Nq135, K135, f135_0⟩ := hQ135
  have z138 : T128.heap.size ≤ T135.heap.size := K135.1
  have N135 := Fr.app N128 Nq135
  have lt139 := own_alt f135_0.lt
  refine Gl.go (fun _ hr => zXS_iinc X135.here hx rfl (hb hby d12_23) rfl (l' := #[sR b, sI 2, sI 4, sR r_123, sI 1]) rfl (zXS_iinc X135.here hx rfl (hb hby d12_26) rfl (l' := #[sR b, sI 2, sI 4, sR r_123, sI 2]) rfl (zXS_goto X135.here hx rfl (pc0 := 29) (pc' := 8) rfl (hb hby d12_29) (by decide) (by decide) (zXS_iload X135.here hx rfl (hb hby d12_8) rfl (zXS_iloadN X135.here hx rfl (hb hby d12_10) rfl (zXS_icmpNo X135.here hx rfl (hb hby d12_11) rfl (XT.ii_ge_f (by decide)) (zXS_aloadN X135.here hx rfl (hb hby d12_14) rfl rfl (zXS_iload X135.here hx rfl (hb hby d12_15) rfl (zXS_aloadN X135.here hx rfl (hb hby d12_17) rfl rfl (zXS_iloadN X135.here hx rfl (hb hby d12_18) rfl hr)))))))))) ?_
  have Vc140 := (Vc133.keep K135 (ninS (own_ane om132) nin0))
  obtain ⟨c141, a141, q141, s141, m141, H141, U141⟩ := id Vc140
  have i141 := inb_of s141 (j := (2 : Int32)) ⟨(by decide), (by decide)⟩
  refine g_caload Gl.cl X135 hx hZ (rfl : T135.heap = T135.heap) a141 i141 (v := (.int c2)) (H141.at i141 rfl) rfl rfl (hb hby d12_19) ?_
  have Oc143 := (Oc137.keep K135 (allS (own_ale om136) all0))
  have zz142 : n0 ≤ T135.heap.size := by omega
  refine gStaticN Gl.cl (y := y_0) (argsL := [(.ref r_123), (.int (2 : Int32)), (.int c2)]) (rest := []) (mc := 0) (ms := 0) X135 hx hZ hown (mvT hZ (tw hw 63 rfl)) (mvT hZ (tw hw 64 rfl)) (mvT hZ (tw hw 33 rfl)) (mvT hZ (tw hw 65 rfl)) (by decide) (backOf (W := 0) (pch l Z a0 hw [] r_123 kr_123 8 (((([(.int (0 : Int32)), (.int (0 : Int32)), (.int (0 : Int32)), (.int (0 : Int32)), (.int (0 : Int32)), (.int (0 : Int32)), (.int (0 : Int32)), (.int (0 : Int32))].set (2 * 0) (.int (StrChars.lo8 c0))).set (2 * 0 + 1) (.int (StrChars.hi8 c0))).set (2 * 1) (.int (StrChars.lo8 c1))).set (2 * 1 + 1) (.int (StrChars.hi8 c1))) 2 c2 T135.heap n0 zz142 Oc143 q1 q2 q3 f135_0 (by omega) (by decide) (by decide) (Nat.le_of_ble_eq_true rfl)) hZ (tw hw 65 rfl) (tw hw 33 rfl) (by decide) (by decide)) rfl (by rw [hml]; rfl) (lenOf pd_2 rfl) rfl (by exact Nat.le_of_eq rfl) (hb hby d12_20) rfl (rfl : T135.heap = T135.heap) (by decide) (by decide) ?_
  intro v142 T142 Lc142 hQ142 X142
  obtain ⟨rfl, Nq142, K142, f142_0⟩ := hQ142
  have z144 : T135.heap.size ≤ T142.heap.size := K142.1
  have N142 := Fr.app N135 Nq142
  have lt145 := own_alt f142_0.lt
  refine Gl.go (fun _ hr => zXS_iinc X142.here hx rfl (hb hby d12_23) rfl (l' := #[sR b, sI 3, sI 4, sR r_123, sI 2]) rfl (zXS_iinc X142.here hx rfl (hb hby d12_26) rfl (l' := #[sR b, sI 3, sI 4, sR r_123, sI 3]) rfl (zXS_goto X142.here hx rfl (pc0 := 29) (pc' := 8) rfl (hb hby d12_29) (by decide) (by decide) (zXS_iload X142.here hx rfl (hb hby d12_8) rfl (zXS_iloadN X142.here hx rfl (hb hby d12_10) rfl (zXS_icmpNo X142.here hx rfl (hb hby d12_11) rfl (XT.ii_ge_f (by decide)) (zXS_aloadN X142.here hx rfl (hb hby d12_14) rfl rfl (zXS_iload X142.here hx rfl (hb hby d12_15) rfl (zXS_aloadN X142.here hx rfl (hb hby d12_17) rfl rfl (zXS_iloadN X142.here hx rfl (hb hby d12_18) rfl hr)))))))))) ?_
  have Vc146 := (Vc140.keep K142 (ninS (own_ane om132) nin0))
  obtain ⟨c147, a147, q147, s147, m147, H147, U147⟩ := id Vc146
  have i147 := inb_of s147 (j := (3 : Int32)) ⟨(by decide), (by decide)⟩
  refine g_caload Gl.cl X142 hx hZ (rfl : T142.heap = T142.heap) a147 i147 (v := (.int c3)) (H147.at i147 rfl) rfl rfl (hb hby d12_19) ?_
  have Oc149 := (Oc143.keep K142 (allS (own_ale om136) all0))
  have zz148 : n0 ≤ T142.heap.size := by omega
  refine gStaticN Gl.cl (y := y_0) (argsL := [(.ref r_123), (.int (3 : Int32)), (.int c3)]) (rest := []) (mc := 0) (ms := 0) X142 hx hZ hown (mvT hZ (tw hw 63 rfl)) (mvT hZ (tw hw 64 rfl)) (mvT hZ (tw hw 33 rfl)) (mvT hZ (tw hw 65 rfl)) (by decide) (backOf (W := 0) (pch l Z a0 hw [] r_123 kr_123 8 (((((([(.int (0 : Int32)), (.int (0 : Int32)), (.int (0 : Int32)), (.int (0 : Int32)), (.int (0 : Int32)), (.int (0 : Int32)), (.int (0 : Int32)), (.int (0 : Int32))].set (2 * 0) (.int (StrChars.lo8 c0))).set (2 * 0 + 1) (.int (StrChars.hi8 c0))).set (2 * 1) (.int (StrChars.lo8 c1))).set (2 * 1 + 1) (.int (StrChars.hi8 c1))).set (2 * 2) (.int (StrChars.lo8 c2))).set (2 * 2 + 1) (.int (StrChars.hi8 c2))) 3 c3 T142.heap n0 zz148 Oc149 q1 q2 q3 f142_0 (by omega) (by decide) (by decide) (Nat.le_of_ble_eq_true rfl)) hZ (tw hw 65 rfl) (tw hw 33 rfl) (by decide) (by decide)) rfl (by rw [hml]; rfl) (lenOf pd_2 rfl) rfl (by exact Nat.le_of_eq rfl) (hb hby d12_20) rfl (rfl : T142.heap = T142.heap) (by decide) (by decide) ?_
  intro v148 T148 Lc148 hQ148 X148
  obtain ⟨rfl, Nq148, K148, f148_0⟩ := hQ148
  have z150 : T142.heap.size ≤ T148.heap.size := K148.1
  have N148 := Fr.app N142 Nq148
  have lt151 := own_alt f148_0.lt
  refine Gl.go (fun _ hr => zXS_iinc X148.here hx rfl (hb hby d12_23) rfl (l' := #[sR b, sI 4, sI 4, sR r_123, sI 3]) rfl (zXS_iinc X148.here hx rfl (hb hby d12_26) rfl (l' := #[sR b, sI 4, sI 4, sR r_123, sI 4]) rfl (zXS_goto X148.here hx rfl (pc0 := 29) (pc' := 8) rfl (hb hby d12_29) (by decide) (by decide) (zXS_iload X148.here hx rfl (hb hby d12_8) rfl (zXS_iloadN X148.here hx rfl (hb hby d12_10) rfl (zXS_icmpYes X148.here hx rfl (pc0 := 11) (pc' := 32) rfl (hb hby d12_11) rfl (XT.ii_ge_t (by decide)) (by decide) (by decide) (zXS_aloadN X148.here hx rfl (hb hby d12_32) rfl rfl hr))))))) ?_
  obtain ⟨fs, hr, hrun, hended, hW, hsame⟩ := X148.leave (v := some (.ref r_123)) (fun h => by rw [Bd.returns] at h; cases h)
  have om152 : @LE.le Nat instLENat h0.size r_123 := by omega
  refine ⟨_, _, retOut X148 hx Bd.returns rfl (Or.inr (Or.inr (Or.inr (Or.inr ⟨rfl, rfl, rfl⟩)))) (hb hby d12_33) hr, hrun, hended, _, _, rfl, ?_, ⟨⟨_, rfl⟩, hW, hsame.mono (by decide) (by decide)⟩⟩
  show Qtob4 Z b ck c0 c1 c2 c3 h0 n0 _ T148.heap _
  exact ⟨r_123, kr_123, rfl, N148, ((((((Keep.refl h0 []).trans K123 all0).trans K128 (allS (P := fun x_ => x_ ∈ ([] : List Addr) ∨ h0.size ≤ x_) (Or.inr (own_ale om152)) all0)).trans K135 (allS (P := fun x_ => x_ ∈ ([] : List Addr) ∨ h0.size ≤ x_) (Or.inr (own_ale om152)) all0)).trans K142 (allS (P := fun x_ => x_ ∈ ([] : List Addr) ∨ h0.size ≤ x_) (Or.inr (own_ale om152)) all0)).trans K148 (allS (P := fun x_ => x_ ∈ ([] : List Addr) ∨ h0.size ≤ x_) (Or.inr (own_ale om152)) all0)), f148_0, (by omega)⟩
def Qcmq4 (Z : State) (b : Addr) (ck : ClassId) (a : Addr) (ka : ClassId) (c0 : Int32) (c1 : Int32) (c2 : Int32) (c3 : Int32) (h0 : Heap) (n0 : Nat) (v : Option Value) (h : Heap) (L : List Loc) : Prop := ∃ (r : Nat), ∃ (ys : List Value), v = some (.int (Int32.ofNat r)) ∧ Fr n0 L ∧ Keep h0 h [a] ∧ (Arv Z h a ka .byte (4 : Int32) ys (.int (0 : Int32))) ∧ ((r = 4 ∧ ys = [(.int (StrChars.lo8 c0)), (.int (StrChars.lo8 c1)), (.int (StrChars.lo8 c2)), (.int (StrChars.lo8 c3))] ∧ ∀ c ∈ ([c0, c1, c2, c3] : List Int32), ¬ (255 : Int32) < c) ∨ (r < 4 ∧ (255 : Int32) < ([c0, c1, c2, c3] : List Int32).getD r 0))
theorem ef_cmq4 (m : MethodId) (x0 : Addr) (x1 : Int32) (x2 : Addr) (x3 : Int32) (x4 : Int32) : entryFrame m #[(.ref x0), (.int x1), (.ref x2), (.int x3), (.int x4)] 7 = mkF m 0 #[sR x0, sI x1, sR x2, sI x3, sI x4, sU, sU] [] := by first | (simp [entryFrame, mkF, argsToLocals, Value.category]; done) | rfl
set_option maxRecDepth 65536 in
set_option maxHeartbeats 40000000 in
theorem cmq4 (l : Launch) (Z : State) (a0 : Array Value) (hw : ∀ d ∈ tables_1, d.before a0 Z = true) (ws : List Jvm.Cond) (b : Addr) (ck : ClassId) (a : Addr) (ka : ClassId) (c0 : Int32) (c1 : Int32) (c2 : Int32) (c3 : Int32) (h0 : Heap) (n0 : Nat) (Z0 : n0 ≤ h0.size) (q0 : Arv Z h0 b ck .char (4 : Int32) ([(.int c0), (.int c1), (.int c2), (.int c3)]) (.int (0 : Int32))) (q1 : Arv Z h0 a ka .byte (4 : Int32) ([(.int (0 : Int32)), (.int (0 : Int32)), (.int (0 : Int32)), (.int (0 : Int32))]) (.int (0 : Int32))) (q2 : @LE.le Nat instLENat n0 a) (q3 : ¬ @Eq Nat a b) :
    MetFree l y_5 (head1 (Jvm.Cond.code y_5 jdk_52_method_21_code 7 (some .int) :: ws) r_m0) (fun a_ U_ => a_ = #[(.ref b), (.int (0 : Int32)), (.ref a), (.int (0 : Int32)), (.int (4 : Int32))] ∧ Z.Warmed39 U_.vm ∧ U_.heap = h0) (fun _ _ _ _ _ => True) (fun _ U_ o_ V_ => ∃ v_ L_, o_ = .returned v_ ∧ Qcmq4 Z b ck a ka c0 c1 c2 c3 h0 n0 v_ V_.heap L_ ∧ FrameEnd U_ o_ V_ L_ r_m0.cells r_m0.slots) := by
  refine MetFree.of_bodySF (plainFor_of_name pn_0) hisR ?_
  intro p e s m args below meth c s₁ Bd hml0 hP hK
  obtain ⟨rfl, hZ, hh⟩ := hP
  have hx := Bd.exec
  have hby := Bd.bytes
  have hml : c.maxLocals = 7 := hml0
  have hown : s.vm.findClass "java/lang/StringUTF16" = some m.cls := findClass_of_methodNamed Bd.named
  have hnm := (name_of_methodNamed Bd.named Bd.method).1
  have X0 : Stand p l e r_m0 s m #[(.ref b), (.int (0 : Int32)), (.ref a), (.int (0 : Int32)), (.int (4 : Int32))] below meth c s₁ [] 0 0 := Stand.of_body Bd
  have e0 : s₁.heap = h0 := by rw [← hh, Bd.state]; rfl
  have N0 := Fr.nil n0
  have lt153 := own_alt q0.lt
  have lt154 := own_alt q1.lt
  refine Gl.go (A := s₁.setTop (entryFrame m #[(.ref b), (.int (0 : Int32)), (.ref a), (.int (0 : Int32)), (.int (4 : Int32))] 7)) (P := fun o_ U_ => ∃ v_ L_, o_ = .returned v_ ∧ Qcmq4 Z b ck a ka c0 c1 c2 c3 h0 n0 v_ U_.heap L_ ∧ FrameEnd s o_ U_ L_ r_m0.cells r_m0.slots) (fun t_ k_ => castTop (ef_cmq4 m b (0 : Int32) a (0 : Int32) (4 : Int32)) k_) ?_
  show Gl p.tables e below _ (s₁.setTop (mkF m 0 #[sR b, sI 0, sR a, sI 0, sI 4, sU, sU] []))
  refine Gl.go (fun _ hr => zXS_iconst X0.here hx rfl (hb hby d8_0) (zXS_istore X0.here hx rfl (hb hby d8_1) rfl (l' := #[sR b, sI 0, sR a, sI 0, sI 4, sI 0, sU]) rfl (zXS_iload X0.here hx rfl (hb hby d8_3) rfl (zXS_iload X0.here hx rfl (hb hby d8_5) rfl (zXS_icmpNo X0.here hx rfl (hb hby d8_7) rfl (XT.ii_ge_f (by decide)) (zXS_aloadN X0.here hx rfl (hb hby d8_10) rfl rfl (zXS_iloadN X0.here hx rfl (hb hby d8_11) rfl hr))))))) ?_
  obtain ⟨c155, a155, q155, s155, m155, H155, U155⟩ := id q0
  have i155 := inb_of s155 (j := (0 : Int32)) ⟨(by decide), (by decide)⟩
  refine g_caload Gl.cl X0 hx hZ e0 a155 i155 (v := (.int c0)) (H155.at i155 rfl) rfl rfl (hb hby d8_12) ?_
  refine Gl.go (fun _ hr => zXS_istore X0.here hx rfl (hb hby d8_13) rfl (l' := #[sR b, sI 0, sR a, sI 0, sI 4, sI 0, sI c0]) rfl (zXS_iload X0.here hx rfl (hb hby d8_15) rfl (zXS_sipush X0.here hx rfl (hb hby d8_17) hr))) ?_
  by_cases hc156 : (255 : Int32) < c0
  · refine Gl.go (fun _ hr => zXS_icmpNo X0.here hx rfl (hb hby d8_20) rfl (XT.ii_le_f hc156) (zXS_iload X0.here hx rfl (hb hby d8_23) rfl hr)) ?_
    obtain ⟨fs, hr, hrun, hended, hW, hsame⟩ := X0.leave (v := some (.int (0 : Int32))) (fun h => by rw [Bd.returns] at h; cases h)
    refine ⟨_, _, retOut X0 hx Bd.returns rfl (Or.inl ⟨rfl, Or.inl rfl, _, rfl⟩) (hb hby d8_25) hr, hrun, hended, _, _, rfl, ?_, ⟨⟨_, rfl⟩, hW, hsame.mono (by decide) (by decide)⟩⟩
    show Qcmq4 Z b ck a ka c0 c1 c2 c3 h0 n0 _ s₁.heap _
    rw [e0]
    exact ⟨0, [(.int (0 : Int32)), (.int (0 : Int32)), (.int (0 : Int32)), (.int (0 : Int32))], rfl, N0, (Keep.refl h0 [a]), q1, (Or.inr ⟨by decide, hc156⟩)⟩
  · refine Gl.go (fun _ hr => zXS_icmpYes X0.here hx rfl (pc0 := 20) (pc' := 26) rfl (hb hby d8_20) rfl (XT.ii_le_t hc156) (by decide) (by decide) (zXS_aloadN X0.here hx rfl (hb hby d8_26) rfl rfl (zXS_iloadN X0.here hx rfl (hb hby d8_27) rfl (zXS_iload X0.here hx rfl (hb hby d8_28) rfl (zXT_i2b X0.here hx rfl (hb hby d8_30) rfl hr))))) ?_
    show Gl p.tables e below _ (s₁.setTop (mkF m 31 #[sR b, sI 0, sR a, sI 0, sI 4, sI 0, sI c0] [(.int (c0.toInt8.toInt32)), (.int (0 : Int32)), (.ref a)]))
    show Gl p.tables e below _ (s₁.setTop (mkF m 31 #[sR b, sI 0, sR a, sI 0, sI 4, sI 0, sI c0] [(.int (StrChars.lo8 c0)), (.int (0 : Int32)), (.ref a)]))
    obtain ⟨c157, a157, q157, s157, m157, H157, U157⟩ := id q1
    refine gstB Gl.cl X0 hx hZ e0 a157 (j := (0 : Int32)) (inb_of s157 ⟨(by decide), (by decide)⟩) rfl rfl (hb hby d8_31) ?_
    intro T157 h157 X157 e157 W157
    have z158 : h0.size ≤ h157.size := (Keep.of_wr W157).1
    rw [(own_narb _)] at W157
    have V157 : Arv Z h157 a ka .byte (4 : Int32) [(.int (StrChars.lo8 c0)), (.int (0 : Int32)), (.int (0 : Int32)), (.int (0 : Int32))] (.int (0 : Int32)) := Arv.set a157 q157 s157 m157 H157 U157 (own_fitb _) W157 0 rfl (Nat.le_of_ble_eq_true rfl)
    have om159 : @LE.le Nat instLENat n0 a := by omega
    have N157 := Fr.snoc X157 N0 (own_ale om159)
    refine Gl.go (fun _ hr => zXS_iinc X157.here hx rfl (hb hby d8_32) rfl (l' := #[sR b, sI 1, sR a, sI 0, sI 4, sI 0, sI c0]) rfl (zXS_iinc X157.here hx rfl (hb hby d8_35) rfl (l' := #[sR b, sI 1, sR a, sI 1, sI 4, sI 0, sI c0]) rfl (zXS_iinc X157.here hx rfl (hb hby d8_38) rfl (l' := #[sR b, sI 1, sR a, sI 1, sI 4, sI 1, sI c0]) rfl (zXS_goto X157.here hx rfl (pc0 := 41) (pc' := 3) rfl (hb hby d8_41) (by decide) (by decide) (zXS_iload X157.here hx rfl (hb hby d8_3) rfl (zXS_iload X157.here hx rfl (hb hby d8_5) rfl (zXS_icmpNo X157.here hx rfl (hb hby d8_7) rfl (XT.ii_ge_f (by decide)) (zXS_aloadN X157.here hx rfl (hb hby d8_10) rfl rfl (zXS_iloadN X157.here hx rfl (hb hby d8_11) rfl hr))))))))) ?_
    have om160 : ¬ @Eq Nat b a := by omega
    have Vc161 := (q0.other W157 (own_ane om160))
    obtain ⟨c162, a162, q162, s162, m162, H162, U162⟩ := id Vc161
    have i162 := inb_of s162 (j := (1 : Int32)) ⟨(by decide), (by decide)⟩
    refine g_caload Gl.cl X157 hx hZ e157 a162 i162 (v := (.int c1)) (H162.at i162 rfl) rfl rfl (hb hby d8_12) ?_
    refine Gl.go (fun _ hr => zXS_istore X157.here hx rfl (hb hby d8_13) rfl (l' := #[sR b, sI 1, sR a, sI 1, sI 4, sI 1, sI c1]) rfl (zXS_iload X157.here hx rfl (hb hby d8_15) rfl (zXS_sipush X157.here hx rfl (hb hby d8_17) hr))) ?_
    by_cases hc163 : (255 : Int32) < c1
    · refine Gl.go (fun _ hr => zXS_icmpNo X157.here hx rfl (hb hby d8_20) rfl (XT.ii_le_f hc163) (zXS_iload X157.here hx rfl (hb hby d8_23) rfl hr)) ?_
      obtain ⟨fs, hr, hrun, hended, hW, hsame⟩ := X157.leave (v := some (.int (1 : Int32))) (fun h => by rw [Bd.returns] at h; cases h)
      refine ⟨_, _, retOut X157 hx Bd.returns rfl (Or.inl ⟨rfl, Or.inl rfl, _, rfl⟩) (hb hby d8_25) hr, hrun, hended, _, _, rfl, ?_, ⟨⟨_, rfl⟩, hW, hsame.mono (by decide) (by decide)⟩⟩
      show Qcmq4 Z b ck a ka c0 c1 c2 c3 h0 n0 _ T157.heap _
      rw [e157]
      exact ⟨1, [(.int (StrChars.lo8 c0)), (.int (0 : Int32)), (.int (0 : Int32)), (.int (0 : Int32))], rfl, N157, ((Keep.refl h0 [a]).wr W157 (Or.inl (by simp))), V157, (Or.inr ⟨by decide, hc163⟩)⟩
    · refine Gl.go (fun _ hr => zXS_icmpYes X157.here hx rfl (pc0 := 20) (pc' := 26) rfl (hb hby d8_20) rfl (XT.ii_le_t hc163) (by decide) (by decide) (zXS_aloadN X157.here hx rfl (hb hby d8_26) rfl rfl (zXS_iloadN X157.here hx rfl (hb hby d8_27) rfl (zXS_iload X157.here hx rfl (hb hby d8_28) rfl (zXT_i2b X157.here hx rfl (hb hby d8_30) rfl hr))))) ?_
      show Gl p.tables e below _ (T157.setTop (mkF m 31 #[sR b, sI 1, sR a, sI 1, sI 4, sI 1, sI c1] [(.int (c1.toInt8.toInt32)), (.int (1 : Int32)), (.ref a)]))
      show Gl p.tables e below _ (T157.setTop (mkF m 31 #[sR b, sI 1, sR a, sI 1, sI 4, sI 1, sI c1] [(.int (StrChars.lo8 c1)), (.int (1 : Int32)), (.ref a)]))
      obtain ⟨c164, a164, q164, s164, m164, H164, U164⟩ := id V157
      refine gstB Gl.cl X157 hx hZ e157 a164 (j := (1 : Int32)) (inb_of s164 ⟨(by decide), (by decide)⟩) rfl rfl (hb hby d8_31) ?_
      intro T164 h164 X164 e164 W164
      have z165 : h157.size ≤ h164.size := (Keep.of_wr W164).1
      rw [(own_narb _)] at W164
      have V164 : Arv Z h164 a ka .byte (4 : Int32) [(.int (StrChars.lo8 c0)), (.int (StrChars.lo8 c1)), (.int (0 : Int32)), (.int (0 : Int32))] (.int (0 : Int32)) := Arv.set a164 q164 s164 m164 H164 U164 (own_fitb _) W164 1 rfl (Nat.le_of_ble_eq_true rfl)
      have N164 := Fr.snoc X164 N157 (own_ale om159)
      refine Gl.go (fun _ hr => zXS_iinc X164.here hx rfl (hb hby d8_32) rfl (l' := #[sR b, sI 2, sR a, sI 1, sI 4, sI 1, sI c1]) rfl (zXS_iinc X164.here hx rfl (hb hby d8_35) rfl (l' := #[sR b, sI 2, sR a, sI 2, sI 4, sI 1, sI c1]) rfl (zXS_iinc X164.here hx rfl (hb hby d8_38) rfl (l' := #[sR b, sI 2, sR a, sI 2, sI 4, sI 2, sI c1]) rfl (zXS_goto X164.here hx rfl (pc0 := 41) (pc' := 3) rfl (hb hby d8_41) (by decide) (by decide) (zXS_iload X164.here hx rfl (hb hby d8_3) rfl (zXS_iload X164.here hx rfl (hb hby d8_5) rfl (zXS_icmpNo X164.here hx rfl (hb hby d8_7) rfl (XT.ii_ge_f (by decide)) (zXS_aloadN X164.here hx rfl (hb hby d8_10) rfl rfl (zXS_iloadN X164.here hx rfl (hb hby d8_11) rfl hr))))))))) ?_
      have Vc166 := (Vc161.other W164 (own_ane om160))
      obtain ⟨c167, a167, q167, s167, m167, H167, U167⟩ := id Vc166
      have i167 := inb_of s167 (j := (2 : Int32)) ⟨(by decide), (by decide)⟩
      refine g_caload Gl.cl X164 hx hZ e164 a167 i167 (v := (.int c2)) (H167.at i167 rfl) rfl rfl (hb hby d8_12) ?_
      refine Gl.go (fun _ hr => zXS_istore X164.here hx rfl (hb hby d8_13) rfl (l' := #[sR b, sI 2, sR a, sI 2, sI 4, sI 2, sI c2]) rfl (zXS_iload X164.here hx rfl (hb hby d8_15) rfl (zXS_sipush X164.here hx rfl (hb hby d8_17) hr))) ?_
      by_cases hc168 : (255 : Int32) < c2
      · refine Gl.go (fun _ hr => zXS_icmpNo X164.here hx rfl (hb hby d8_20) rfl (XT.ii_le_f hc168) (zXS_iload X164.here hx rfl (hb hby d8_23) rfl hr)) ?_
        obtain ⟨fs, hr, hrun, hended, hW, hsame⟩ := X164.leave (v := some (.int (2 : Int32))) (fun h => by rw [Bd.returns] at h; cases h)
        refine ⟨_, _, retOut X164 hx Bd.returns rfl (Or.inl ⟨rfl, Or.inl rfl, _, rfl⟩) (hb hby d8_25) hr, hrun, hended, _, _, rfl, ?_, ⟨⟨_, rfl⟩, hW, hsame.mono (by decide) (by decide)⟩⟩
        show Qcmq4 Z b ck a ka c0 c1 c2 c3 h0 n0 _ T164.heap _
        rw [e164]
        exact ⟨2, [(.int (StrChars.lo8 c0)), (.int (StrChars.lo8 c1)), (.int (0 : Int32)), (.int (0 : Int32))], rfl, N164, (((Keep.refl h0 [a]).wr W157 (Or.inl (by simp))).wr W164 (Or.inl (by simp))), V164, (Or.inr ⟨by decide, hc168⟩)⟩
      · refine Gl.go (fun _ hr => zXS_icmpYes X164.here hx rfl (pc0 := 20) (pc' := 26) rfl (hb hby d8_20) rfl (XT.ii_le_t hc168) (by decide) (by decide) (zXS_aloadN X164.here hx rfl (hb hby d8_26) rfl rfl (zXS_iloadN X164.here hx rfl (hb hby d8_27) rfl (zXS_iload X164.here hx rfl (hb hby d8_28) rfl (zXT_i2b X164.here hx rfl (hb hby d8_30) rfl hr))))) ?_
        show Gl p.tables e below _ (T164.setTop (mkF m 31 #[sR b, sI 2, sR a, sI 2, sI 4, sI 2, sI c2] [(.int (c2.toInt8.toInt32)), (.int (2 : Int32)), (.ref a)]))
        show Gl p.tables e below _ (T164.setTop (mkF m 31 #[sR b, sI 2, sR a, sI 2, sI 4, sI 2, sI c2] [(.int (StrChars.lo8 c2)), (.int (2 : Int32)), (.ref a)]))
        obtain ⟨c169, a169, q169, s169, m169, H169, U169⟩ := id V164
        refine gstB Gl.cl X164 hx hZ e164 a169 (j := (2 : Int32)) (inb_of s169 ⟨(by decide), (by decide)⟩) rfl rfl (hb hby d8_31) ?_
        intro T169 h169 X169 e169 W169
        have z170 : h164.size ≤ h169.size := (Keep.of_wr W169).1
        rw [(own_narb _)] at W169
        have V169 : Arv Z h169 a ka .byte (4 : Int32) [(.int (StrChars.lo8 c0)), (.int (StrChars.lo8 c1)), (.int (StrChars.lo8 c2)), (.int (0 : Int32))] (.int (0 : Int32)) := Arv.set a169 q169 s169 m169 H169 U169 (own_fitb _) W169 2 rfl (Nat.le_of_ble_eq_true rfl)
        have N169 := Fr.snoc X169 N164 (own_ale om159)
        refine Gl.go (fun _ hr => zXS_iinc X169.here hx rfl (hb hby d8_32) rfl (l' := #[sR b, sI 3, sR a, sI 2, sI 4, sI 2, sI c2]) rfl (zXS_iinc X169.here hx rfl (hb hby d8_35) rfl (l' := #[sR b, sI 3, sR a, sI 3, sI 4, sI 2, sI c2]) rfl (zXS_iinc X169.here hx rfl (hb hby d8_38) rfl (l' := #[sR b, sI 3, sR a, sI 3, sI 4, sI 3, sI c2]) rfl (zXS_goto X169.here hx rfl (pc0 := 41) (pc' := 3) rfl (hb hby d8_41) (by decide) (by decide) (zXS_iload X169.here hx rfl (hb hby d8_3) rfl (zXS_iload X169.here hx rfl (hb hby d8_5) rfl (zXS_icmpNo X169.here hx rfl (hb hby d8_7) rfl (XT.ii_ge_f (by decide)) (zXS_aloadN X169.here hx rfl (hb hby d8_10) rfl rfl (zXS_iloadN X169.here hx rfl (hb hby d8_11) rfl hr))))))))) ?_
        have Vc171 := (Vc166.other W169 (own_ane om160))
        obtain ⟨c172, a172, q172, s172, m172, H172, U172⟩ := id Vc171
        have i172 := inb_of s172 (j := (3 : Int32)) ⟨(by decide), (by decide)⟩
        refine g_caload Gl.cl X169 hx hZ e169 a172 i172 (v := (.int c3)) (H172.at i172 rfl) rfl rfl (hb hby d8_12) ?_
        refine Gl.go (fun _ hr => zXS_istore X169.here hx rfl (hb hby d8_13) rfl (l' := #[sR b, sI 3, sR a, sI 3, sI 4, sI 3, sI c3]) rfl (zXS_iload X169.here hx rfl (hb hby d8_15) rfl (zXS_sipush X169.here hx rfl (hb hby d8_17) hr))) ?_
        by_cases hc173 : (255 : Int32) < c3
        · refine Gl.go (fun _ hr => zXS_icmpNo X169.here hx rfl (hb hby d8_20) rfl (XT.ii_le_f hc173) (zXS_iload X169.here hx rfl (hb hby d8_23) rfl hr)) ?_
          obtain ⟨fs, hr, hrun, hended, hW, hsame⟩ := X169.leave (v := some (.int (3 : Int32))) (fun h => by rw [Bd.returns] at h; cases h)
          refine ⟨_, _, retOut X169 hx Bd.returns rfl (Or.inl ⟨rfl, Or.inl rfl, _, rfl⟩) (hb hby d8_25) hr, hrun, hended, _, _, rfl, ?_, ⟨⟨_, rfl⟩, hW, hsame.mono (by decide) (by decide)⟩⟩
          show Qcmq4 Z b ck a ka c0 c1 c2 c3 h0 n0 _ T169.heap _
          rw [e169]
          exact ⟨3, [(.int (StrChars.lo8 c0)), (.int (StrChars.lo8 c1)), (.int (StrChars.lo8 c2)), (.int (0 : Int32))], rfl, N169, ((((Keep.refl h0 [a]).wr W157 (Or.inl (by simp))).wr W164 (Or.inl (by simp))).wr W169 (Or.inl (by simp))), V169, (Or.inr ⟨by decide, hc173⟩)⟩
        · refine Gl.go (fun _ hr => zXS_icmpYes X169.here hx rfl (pc0 := 20) (pc' := 26) rfl (hb hby d8_20) rfl (XT.ii_le_t hc173) (by decide) (by decide) (zXS_aloadN X169.here hx rfl (hb hby d8_26) rfl rfl (zXS_iloadN X169.here hx rfl (hb hby d8_27) rfl (zXS_iload X169.here hx rfl (hb hby d8_28) rfl (zXT_i2b X169.here hx rfl (hb hby d8_30) rfl hr))))) ?_
          show Gl p.tables e below _ (T169.setTop (mkF m 31 #[sR b, sI 3, sR a, sI 3, sI 4, sI 3, sI c3] [(.int (c3.toInt8.toInt32)), (.int (3 : Int32)), (.ref a)]))
          show Gl p.tables e below _ (T169.setTop (mkF m 31 #[sR b, sI 3, sR a, sI 3, sI 4, sI 3, sI c3] [(.int (StrChars.lo8 c3)), (.int (3 : Int32)), (.ref a)]))
          obtain ⟨c174, a174, q174, s174, m174, H174, U174⟩ := id V169
          refine gstB Gl.cl X169 hx hZ e169 a174 (j := (3 : Int32)) (inb_of s174 ⟨(by decide), (by decide)⟩) rfl rfl (hb hby d8_31) ?_
          intro T174 h174 X174 e174 W174
          have z175 : h169.size ≤ h174.size := (Keep.of_wr W174).1
          rw [(own_narb _)] at W174
          have V174 : Arv Z h174 a ka .byte (4 : Int32) [(.int (StrChars.lo8 c0)), (.int (StrChars.lo8 c1)), (.int (StrChars.lo8 c2)), (.int (StrChars.lo8 c3))] (.int (0 : Int32)) := Arv.set a174 q174 s174 m174 H174 U174 (own_fitb _) W174 3 rfl (Nat.le_of_ble_eq_true rfl)
          have N174 := Fr.snoc X174 N169 (own_ale om159)
          refine Gl.go (fun _ hr => zXS_iinc X174.here hx rfl (hb hby d8_32) rfl (l' := #[sR b, sI 4, sR a, sI 3, sI 4, sI 3, sI c3]) rfl (zXS_iinc X174.here hx rfl (hb hby d8_35) rfl (l' := #[sR b, sI 4, sR a, sI 4, sI 4, sI 3, sI c3]) rfl (zXS_iinc X174.here hx rfl (hb hby d8_38) rfl (l' := #[sR b, sI 4, sR a, sI 4, sI 4, sI 4, sI c3]) rfl (zXS_goto X174.here hx rfl (pc0 := 41) (pc' := 3) rfl (hb hby d8_41) (by decide) (by decide) (zXS_iload X174.here hx rfl (hb hby d8_3) rfl (zXS_iload X174.here hx rfl (hb hby d8_5) rfl (zXS_icmpYes X174.here hx rfl (pc0 := 7) (pc' := 44) rfl (hb hby d8_7) rfl (XT.ii_ge_t (by decide)) (by decide) (by decide) (zXS_iload X174.here hx rfl (hb hby d8_44) rfl hr)))))))) ?_
          obtain ⟨fs, hr, hrun, hended, hW, hsame⟩ := X174.leave (v := some (.int (4 : Int32))) (fun h => by rw [Bd.returns] at h; cases h)
          refine ⟨_, _, retOut X174 hx Bd.returns rfl (Or.inl ⟨rfl, Or.inl rfl, _, rfl⟩) (hb hby d8_46) hr, hrun, hended, _, _, rfl, ?_, ⟨⟨_, rfl⟩, hW, hsame.mono (by decide) (by decide)⟩⟩
          show Qcmq4 Z b ck a ka c0 c1 c2 c3 h0 n0 _ T174.heap _
          rw [e174]
          exact ⟨4, [(.int (StrChars.lo8 c0)), (.int (StrChars.lo8 c1)), (.int (StrChars.lo8 c2)), (.int (StrChars.lo8 c3))], rfl, N174, (((((Keep.refl h0 [a]).wr W157 (Or.inl (by simp))).wr W164 (Or.inl (by simp))).wr W169 (Or.inl (by simp))).wr W174 (Or.inl (by simp))), V174, (Or.inl ⟨rfl, rfl, (own_cS (P := fun c => ¬ (255 : Int32) < c) hc156 (own_cS (P := fun c => ¬ (255 : Int32) < c) hc163 (own_cS (P := fun c => ¬ (255 : Int32) < c) hc168 (own_cS (P := fun c => ¬ (255 : Int32) < c) hc173 own_c0))))⟩)⟩
def QtobL (Z : State) (b : Addr) (ck : ClassId) (cs : List Int32) (h0 : Heap) (n0 : Nat) (v : Option Value) (h : Heap) (L : List Loc) : Prop := ∃ (r : Addr), ∃ (kr : ClassId), v = some (.ref r) ∧ Fr n0 L ∧ Keep h0 h [] ∧ (Arv Z h r kr .byte (Int32.ofNat (2 * cs.length)) (StrChars.Road.wideBytes cs) (.int (0 : Int32))) ∧ (@LE.le Nat instLENat h0.size r)
set_option maxRecDepth 65536 in
set_option maxHeartbeats 40000000 in
theorem tobL (l : Launch) (Z : State) (a0 : Array Value) (hw : ∀ d ∈ tables_1, d.before a0 Z = true) (ws : List Jvm.Cond) (b : Addr) (ck : ClassId) (cs : List Int32) (h0 : Heap) (n0 : Nat) (Z0 : n0 ≤ h0.size) (q0 : Old Z n0 h0) (q1 : Sta Z Z.heap "java/lang/StringUTF16" "$assertionsDisabled" "Z" (.int (1 : Int32))) (q2 : Sta Z Z.heap "java/lang/StringUTF16" "HI_BYTE_SHIFT" "I" (.int (0 : Int32))) (q3 : Sta Z Z.heap "java/lang/StringUTF16" "LO_BYTE_SHIFT" "I" (.int (8 : Int32))) (q4 : Arv Z h0 b ck .char (Int32.ofNat cs.length) (cs.map Value.int) (.int (0 : Int32))) (h1 : 0 < cs.length) (h4 : cs.length ≤ 4) :
    MetFree l y_4 (head1 (Jvm.Cond.code y_4 jdk_52_method_14_code 5 (some (.array .byte)) :: ws) r_m2) (fun a_ U_ => a_ = #[(.ref b), (.int (0 : Int32)), (.int (Int32.ofNat cs.length))] ∧ Z.Warmed39 U_.vm ∧ U_.heap = h0) (fun _ _ _ _ _ => True) (fun _ U_ o_ V_ => ∃ v_ L_, o_ = .returned v_ ∧ QtobL Z b ck cs h0 n0 v_ V_.heap L_ ∧ FrameEnd U_ o_ V_ L_ r_m2.cells r_m2.slots) := by
  rcases own_upto h1 h4 with ⟨c0, rfl⟩ | ⟨c0, c1, rfl⟩ | ⟨c0, c1, c2, rfl⟩ | ⟨c0, c1, c2, c3, rfl⟩
  · exact tob1 l Z a0 hw ws b ck c0 h0 n0 Z0 q0 q1 q2 q3 q4
  · exact tob2 l Z a0 hw ws b ck c0 c1 h0 n0 Z0 q0 q1 q2 q3 q4
  · exact tob3 l Z a0 hw ws b ck c0 c1 c2 h0 n0 Z0 q0 q1 q2 q3 q4
  · exact tob4 l Z a0 hw ws b ck c0 c1 c2 c3 h0 n0 Z0 q0 q1 q2 q3 q4
def QcmqL (Z : State) (b : Addr) (ck : ClassId) (a : Addr) (ka : ClassId) (cs : List Int32) (h0 : Heap) (n0 : Nat) (v : Option Value) (h : Heap) (L : List Loc) : Prop := ∃ (r : Nat), ∃ (ys : List Value), v = some (.int (Int32.ofNat r)) ∧ Fr n0 L ∧ Keep h0 h [a] ∧ (Arv Z h a ka .byte (Int32.ofNat cs.length) ys (.int (0 : Int32))) ∧ ((r = cs.length ∧ ys = (cs.map fun c => Value.int (StrChars.lo8 c)) ∧ ∀ c ∈ cs, ¬ (255 : Int32) < c) ∨ (r < cs.length ∧ (255 : Int32) < cs.getD r 0))
set_option maxRecDepth 65536 in
set_option maxHeartbeats 40000000 in
theorem cmqL (l : Launch) (Z : State) (a0 : Array Value) (hw : ∀ d ∈ tables_1, d.before a0 Z = true) (ws : List Jvm.Cond) (b : Addr) (ck : ClassId) (a : Addr) (ka : ClassId) (cs : List Int32) (h0 : Heap) (n0 : Nat) (Z0 : n0 ≤ h0.size) (q0 : Arv Z h0 b ck .char (Int32.ofNat cs.length) (cs.map Value.int) (.int (0 : Int32))) (q1 : Arv Z h0 a ka .byte (Int32.ofNat cs.length) ([]) (.int (0 : Int32))) (q2 : @LE.le Nat instLENat n0 a) (q3 : ¬ @Eq Nat a b) (h1 : 0 < cs.length) (h4 : cs.length ≤ 4) :
    MetFree l y_5 (head1 (Jvm.Cond.code y_5 jdk_52_method_21_code 7 (some .int) :: ws) r_m0) (fun a_ U_ => a_ = #[(.ref b), (.int (0 : Int32)), (.ref a), (.int (0 : Int32)), (.int (Int32.ofNat cs.length))] ∧ Z.Warmed39 U_.vm ∧ U_.heap = h0) (fun _ _ _ _ _ => True) (fun _ U_ o_ V_ => ∃ v_ L_, o_ = .returned v_ ∧ QcmqL Z b ck a ka cs h0 n0 v_ V_.heap L_ ∧ FrameEnd U_ o_ V_ L_ r_m0.cells r_m0.slots) := by
  rcases own_upto h1 h4 with ⟨c0, rfl⟩ | ⟨c0, c1, rfl⟩ | ⟨c0, c1, c2, rfl⟩ | ⟨c0, c1, c2, c3, rfl⟩
  · exact cmq1 l Z a0 hw ws b ck a ka c0 h0 n0 Z0 q0 (q1.pad (pad_rep [] (.int (0 : Int32)) 1)) q2 q3
  · exact cmq2 l Z a0 hw ws b ck a ka c0 c1 h0 n0 Z0 q0 (q1.pad (pad_rep [] (.int (0 : Int32)) 2)) q2 q3
  · exact cmq3 l Z a0 hw ws b ck a ka c0 c1 c2 h0 n0 Z0 q0 (q1.pad (pad_rep [] (.int (0 : Int32)) 3)) q2 q3
  · exact cmq4 l Z a0 hw ws b ck a ka c0 c1 c2 c3 h0 n0 Z0 q0 (q1.pad (pad_rep [] (.int (0 : Int32)) 4)) q2 q3
def QcmpL (Z : State) (b : Addr) (ck : ClassId) (cs : List Int32) (h0 : Heap) (n0 : Nat) (v : Option Value) (h : Heap) (L : List Loc) : Prop := ∃ (r : Addr), ∃ (kr : ClassId), ∃ (cd : Int32), ∃ (N2 : Int32), ∃ (vs : List Value), v = some (.ref r) ∧ Fr n0 L ∧ Keep h0 h [] ∧ (Arv Z h r kr .byte N2 vs (.int (0 : Int32))) ∧ (@LE.le Nat instLENat h0.size r) ∧ (StrChars.Road.CodA cs cd N2 vs)
theorem ef_cmpL (m : MethodId) (x0 : Addr) (x1 : Int32) (x2 : Int32) : entryFrame m #[(.ref x0), (.int x1), (.int x2)] 6 = mkF m 0 #[sR x0, sI x1, sI x2, sU, sU, sU] [] := by first | (simp [entryFrame, mkF, argsToLocals, Value.category]; done) | rfl
theorem d7_0 : decode jdk_52_method_16_code 0 = .ok (.iload_n 2, 1) := by decide +kernel
theorem d7_1 : decode jdk_52_method_16_code 1 = .ok (.newarray .byte, 2) := by decide +kernel
theorem d7_3 : decode jdk_52_method_16_code 3 = .ok (.astore_n 3, 1) := by decide +kernel
theorem d7_4 : decode jdk_52_method_16_code 4 = .ok (.aload_n 0, 1) := by decide +kernel
theorem d7_5 : decode jdk_52_method_16_code 5 = .ok (.iload_n 1, 1) := by decide +kernel
theorem d7_6 : decode jdk_52_method_16_code 6 = .ok (.aload_n 3, 1) := by decide +kernel
theorem d7_7 : decode jdk_52_method_16_code 7 = .ok (.iconst 0, 1) := by decide +kernel
theorem d7_8 : decode jdk_52_method_16_code 8 = .ok (.iload_n 2, 1) := by decide +kernel
theorem d7_9 : decode jdk_52_method_16_code 9 = .ok (.invokestatic 115, 3) := by decide +kernel
theorem pd_3 : parseMethodDescriptor "([CI[BII)I" = some ⟨[(.array .char), .int, (.array .byte), .int, .int], some .int⟩ := by decide +kernel
theorem d7_12 : decode jdk_52_method_16_code 12 = .ok (.istore 4, 2) := by decide +kernel
theorem d7_14 : decode jdk_52_method_16_code 14 = .ok (.iload 4, 2) := by decide +kernel
theorem d7_16 : decode jdk_52_method_16_code 16 = .ok (.iload_n 2, 1) := by decide +kernel
theorem d7_17 : decode jdk_52_method_16_code 17 = .ok (.if_icmp .eq 40, 3) := by decide +kernel
theorem d7_57 : decode jdk_52_method_16_code 57 = .ok (.aload_n 3, 1) := by decide +kernel
theorem d7_58 : decode jdk_52_method_16_code 58 = .ok (.areturn, 1) := by decide +kernel
theorem d7_20 : decode jdk_52_method_16_code 20 = .ok (.aload_n 0, 1) := by decide +kernel
theorem d7_21 : decode jdk_52_method_16_code 21 = .ok (.iload_n 1, 1) := by decide +kernel
theorem d7_22 : decode jdk_52_method_16_code 22 = .ok (.iload_n 2, 1) := by decide +kernel
theorem d7_23 : decode jdk_52_method_16_code 23 = .ok (.invokestatic 119, 3) := by decide +kernel
theorem pd_4 : parseMethodDescriptor "([CII)[B" = some ⟨[(.array .char), .int, .int], some (.array .byte)⟩ := by decide +kernel
theorem d7_26 : decode jdk_52_method_16_code 26 = .ok (.astore 5, 2) := by decide +kernel
theorem d7_28 : decode jdk_52_method_16_code 28 = .ok (.aload 5, 2) := by decide +kernel
theorem d7_30 : decode jdk_52_method_16_code 30 = .ok (.iload 4, 2) := by decide +kernel
theorem d7_32 : decode jdk_52_method_16_code 32 = .ok (.invokestatic 71, 3) := by decide +kernel
theorem pd_5 : parseMethodDescriptor "([BI)C" = some ⟨[(.array .byte), .int], some .char⟩ := by decide +kernel
theorem d7_35 : decode jdk_52_method_16_code 35 = .ok (.sipush 255, 3) := by decide +kernel
theorem d7_38 : decode jdk_52_method_16_code 38 = .ok (.if_icmp .gt 16, 3) := by decide +kernel
theorem d7_54 : decode jdk_52_method_16_code 54 = .ok (.aload 5, 2) := by decide +kernel
theorem d7_56 : decode jdk_52_method_16_code 56 = .ok (.areturn, 1) := by decide +kernel
set_option maxRecDepth 65536 in
set_option maxHeartbeats 40000000 in
theorem cmpL (l : Launch) (Z : State) (a0 : Array Value) (hw : ∀ d ∈ tables_1, d.before a0 Z = true) (ws : List Jvm.Cond) (b : Addr) (ck : ClassId) (cs : List Int32) (h0 : Heap) (n0 : Nat) (Z0 : n0 ≤ h0.size) (q0 : Old Z n0 h0) (q1 : Sta Z Z.heap "java/lang/StringUTF16" "$assertionsDisabled" "Z" (.int (1 : Int32))) (q2 : Sta Z Z.heap "java/lang/StringUTF16" "HI_BYTE_SHIFT" "I" (.int (0 : Int32))) (q3 : Sta Z Z.heap "java/lang/StringUTF16" "LO_BYTE_SHIFT" "I" (.int (8 : Int32))) (q4 : Arv Z h0 b ck .char (Int32.ofNat cs.length) (cs.map Value.int) (.int (0 : Int32))) (hbd : ∀ c ∈ cs, Wid c) (h1 : 0 < cs.length) (h4 : cs.length ≤ 4) :
    MetFree l y_6 (head1 (Jvm.Cond.code y_6 jdk_52_method_16_code 6 (some (.array .byte)) :: ws) r_m3) (fun a_ U_ => a_ = #[(.ref b), (.int (0 : Int32)), (.int (Int32.ofNat cs.length))] ∧ Z.Warmed39 U_.vm ∧ U_.heap = h0) (fun _ _ _ _ _ => True) (fun _ U_ o_ V_ => ∃ v_ L_, o_ = .returned v_ ∧ QcmpL Z b ck cs h0 n0 v_ V_.heap L_ ∧ FrameEnd U_ o_ V_ L_ r_m3.cells r_m3.slots) := by
  refine MetFree.of_bodySF (plainFor_of_name pn_0) hisR ?_
  intro p e s m args below meth c s₁ Bd hml0 hP hK
  obtain ⟨rfl, hZ, hh⟩ := hP
  have hx := Bd.exec
  have hby := Bd.bytes
  have hml : c.maxLocals = 6 := hml0
  have hown : s.vm.findClass "java/lang/StringUTF16" = some m.cls := findClass_of_methodNamed Bd.named
  have hnm := (name_of_methodNamed Bd.named Bd.method).1
  have X0 : Stand p l e r_m3 s m #[(.ref b), (.int (0 : Int32)), (.int (Int32.ofNat cs.length))] below meth c s₁ [] 0 0 := Stand.of_body Bd
  have e0 : s₁.heap = h0 := by rw [← hh, Bd.state]; rfl
  have N0 := Fr.nil n0
  have zo := q0.1
  have lt176 := own_alt q4.lt
  refine Gl.go (A := s₁.setTop (entryFrame m #[(.ref b), (.int (0 : Int32)), (.int (Int32.ofNat cs.length))] 6)) (P := fun o_ U_ => ∃ v_ L_, o_ = .returned v_ ∧ QcmpL Z b ck cs h0 n0 v_ U_.heap L_ ∧ FrameEnd s o_ U_ L_ r_m3.cells r_m3.slots) (fun t_ k_ => castTop (ef_cmpL m b (0 : Int32) (Int32.ofNat cs.length)) k_) ?_
  show Gl p.tables e below _ (s₁.setTop (mkF m 0 #[sR b, sI 0, sI (Int32.ofNat cs.length), sU, sU, sU] []))
  refine Gl.go (fun _ hr => zXS_iloadN X0.here hx rfl (hb hby d7_0) rfl hr) ?_
  refine gNewP Gl.cl X0 hx hZ (tw hw 35 rfl) e0 rfl (hb hby d7_1) rfl (own_nn (by omega)) (cap := 4) (by rw [own_nat32 (by omega)]; omega) (by decide) (by decide) (by decide) ?_
  intro T177 h177 b177 k177 g177 X177 e177 E177 A177
  have z178 : h0.size ≤ h177.size := E177.1
  have lt177 := own_alt A177.lt
  have V177 : Arv Z h177 b177 k177 .byte (Int32.ofNat cs.length) [] (.int (0 : Int32)) := (Arv.new A177 (own_nn (by omega))).pad (pad_rep [] (.int (0 : Int32)) 0)
  refine Gl.go (fun _ hr => zXS_astoreN X177.here hx rfl (hb hby d7_3) rfl rfl (l' := #[sR b, sI 0, sI (Int32.ofNat cs.length), sR b177, sU, sU]) rfl (zXS_aloadN X177.here hx rfl (hb hby d7_4) rfl rfl (zXS_iloadN X177.here hx rfl (hb hby d7_5) rfl (zXS_aloadN X177.here hx rfl (hb hby d7_6) rfl rfl (zXS_iconst X177.here hx rfl (hb hby d7_7) (zXS_iloadN X177.here hx rfl (hb hby d7_8) rfl hr)))))) ?_
  have Vc180 := (q4.ext E177)
  have zz179 : n0 ≤ h177.size := by omega
  refine gStaticN Gl.cl (y := y_5) (argsL := [(.ref b), (.int (0 : Int32)), (.ref b177), (.int (0 : Int32)), (.int (Int32.ofNat cs.length))]) (rest := []) (mc := 0) (ms := 0) X177 hx hZ hown (mvT hZ (tw hw 36 rfl)) (mvT hZ (tw hw 37 rfl)) (mvT hZ (tw hw 33 rfl)) (mvT hZ (tw hw 38 rfl)) (by decide) (backOf (W := 0) (cmqL l Z a0 hw [] b ck b177 k177 cs h177 n0 zz179 Vc180 V177 (by omega) (by omega) (by assumption) (by assumption)) hZ (tw hw 38 rfl) (tw hw 33 rfl) (by decide) (by decide)) rfl (by rw [hml]; rfl) (lenOf pd_3 rfl) rfl (by exact Nat.le_of_eq rfl) (hb hby d7_9) rfl e177 (by decide) (by decide) ?_
  intro v179 T179 Lc179 hQ179 X179
  obtain ⟨r_179, ys_179, rfl, Nq179, K179, f179_0, p179_res⟩ := hQ179
  have z181 : h177.size ≤ T179.heap.size := K179.1
  have N179 := Fr.app N0 Nq179
  have lt182 := own_alt f179_0.lt
  refine Gl.go (fun _ hr => zXS_istore X179.here hx rfl (hb hby d7_12) rfl (l' := #[sR b, sI 0, sI (Int32.ofNat cs.length), sR b177, sI (Int32.ofNat r_179), sU]) rfl hr) ?_
  show Gl p.tables e below _ (T179.setTop (mkF m 14 #[sR b, sI 0, sI (Int32.ofNat cs.length), sR b177, sI (Int32.ofNat r_179), sU] []))
  rcases p179_res with ⟨rfl, rfl, hl⟩ | ⟨hrl, h255⟩
  · show Gl p.tables e below _ (T179.setTop (mkF m 14 #[sR b, sI 0, sI (Int32.ofNat cs.length), sR b177, sI (Int32.ofNat cs.length), sU] []))
    refine Gl.go (fun _ hr => zXS_iload X179.here hx rfl (hb hby d7_14) rfl (zXS_iloadN X179.here hx rfl (hb hby d7_16) rfl hr)) ?_
    refine Gl.go (fun _ hr => zXS_icmpYes X179.here hx rfl (pc0 := 17) (pc' := 57) rfl (hb hby d7_17) rfl (XT.ii_eq_t rfl) (by decide) (by decide) (zXS_aloadN X179.here hx rfl (hb hby d7_57) rfl rfl hr)) ?_
    obtain ⟨fs, hr, hrun, hended, hW, hsame⟩ := X179.leave (v := some (.ref b177)) (fun h => by rw [Bd.returns] at h; cases h)
    have om183 : @LE.le Nat instLENat h0.size b177 := by omega
    refine ⟨_, _, retOut X179 hx Bd.returns rfl (Or.inr (Or.inr (Or.inr (Or.inr ⟨rfl, rfl, rfl⟩)))) (hb hby d7_58) hr, hrun, hended, _, _, rfl, ?_, ⟨⟨_, rfl⟩, hW, hsame.mono (by decide) (by decide)⟩⟩
    show QcmpL Z b ck cs h0 n0 _ T179.heap _
    exact ⟨b177, k177, 0, (Int32.ofNat cs.length), (cs.map fun c => Value.int (StrChars.lo8 c)), rfl, N179, (((Keep.refl h0 []).ext E177).trans K179 (allS (P := fun x_ => x_ ∈ ([] : List Addr) ∨ h0.size ≤ x_) (Or.inr (own_ale om183)) all0)), f179_0, (by omega), (Or.inl ⟨rfl, rfl, rfl, hl⟩)⟩
  · show Gl p.tables e below _ (T179.setTop (mkF m 14 #[sR b, sI 0, sI (Int32.ofNat cs.length), sR b177, sI (Int32.ofNat r_179), sU] []))
    refine Gl.go (fun _ hr => zXS_iload X179.here hx rfl (hb hby d7_14) rfl (zXS_iloadN X179.here hx rfl (hb hby d7_16) rfl hr)) ?_
    refine Gl.go (fun _ hr => zXS_icmpNo X179.here hx rfl (hb hby d7_17) rfl (XT.ii_eq_f (own_ne32 (b := cs.length) (by omega) (by omega) (by omega))) (zXS_aloadN X179.here hx rfl (hb hby d7_20) rfl rfl (zXS_iloadN X179.here hx rfl (hb hby d7_21) rfl (zXS_iloadN X179.here hx rfl (hb hby d7_22) rfl hr)))) ?_
    have om185 : @LE.le Nat instLENat n0 b177 := by omega
    have Oc186 := ((q0.ext E177).keep K179 (allS (own_ale om185) all0))
    have om187 : ¬ @Eq Nat b b177 := by omega
    have Vc188 := (Vc180.keep K179 (ninS (own_ane om187) nin0))
    have zz184 : n0 ≤ T179.heap.size := by omega
    refine gStaticN Gl.cl (y := y_4) (argsL := [(.ref b), (.int (0 : Int32)), (.int (Int32.ofNat cs.length))]) (rest := []) (mc := 1) (ms := 8) X179 hx hZ hown (mvT hZ (tw hw 53 rfl)) (mvT hZ (tw hw 54 rfl)) (mvT hZ (tw hw 33 rfl)) (mvT hZ (tw hw 55 rfl)) (by decide) (backOf (W := 0) (tobL l Z a0 hw [] b ck cs T179.heap n0 zz184 Oc186 q1 q2 q3 Vc188 (by assumption) (by assumption)) hZ (tw hw 55 rfl) (tw hw 33 rfl) (by decide) (by decide)) rfl (by rw [hml]; rfl) (lenOf pd_4 rfl) rfl (by exact Nat.le_of_eq rfl) (hb hby d7_23) rfl (rfl : T179.heap = T179.heap) (by decide) (by decide) ?_
    intro v184 T184 Lc184 hQ184 X184
    obtain ⟨r_184, kr_184, rfl, Nq184, K184, f184_0, f184_1⟩ := hQ184
    have z189 : T179.heap.size ≤ T184.heap.size := K184.1
    have N184 := Fr.app N179 Nq184
    have lt190 := own_alt f184_0.lt
    refine Gl.go (fun _ hr => zXS_astore X184.here hx rfl (hb hby d7_26) rfl rfl (l' := #[sR b, sI 0, sI (Int32.ofNat cs.length), sR b177, sI (Int32.ofNat r_179), sR r_184]) rfl (zXS_aload X184.here hx rfl (hb hby d7_28) rfl rfl (zXS_iload X184.here hx rfl (hb hby d7_30) rfl hr))) ?_
    have Oc192 := (Oc186.keep K184 all0)
    have zz191 : n0 ≤ T184.heap.size := by omega
    refine gStaticN Gl.cl (y := y_1) (argsL := [(.ref r_184), (.int (Int32.ofNat r_179))]) (rest := []) (mc := 0) (ms := 0) X184 hx hZ hown (mvT hZ (tw hw 69 rfl)) (mvT hZ (tw hw 70 rfl)) (mvT hZ (tw hw 33 rfl)) (mvT hZ (tw hw 71 rfl)) (by decide) (backOf (W := 0) (gtc l Z a0 hw [] r_184 kr_184 cs r_179 T184.heap n0 zz191 Oc192 q1 q2 q3 f184_0 hrl (by omega) hbd) hZ (tw hw 71 rfl) (tw hw 33 rfl) (by decide) (by decide)) rfl (by rw [hml]; rfl) (lenOf pd_5 rfl) rfl (by exact Nat.le_of_eq rfl) (hb hby d7_32) rfl (rfl : T184.heap = T184.heap) (by decide) (by decide) ?_
    intro v191 T191 Lc191 hQ191 X191
    obtain ⟨rfl, Nq191, e191⟩ := hQ191
    have N191 := Fr.app N184 Nq191
    refine Gl.go (fun _ hr => zXS_sipush X191.here hx rfl (hb hby d7_35) hr) ?_
    refine Gl.go (fun _ hr => zXS_icmpYes X191.here hx rfl (pc0 := 38) (pc' := 54) rfl (hb hby d7_38) rfl (XT.ii_gt_t h255) (by decide) (by decide) (zXS_aload X191.here hx rfl (hb hby d7_54) rfl rfl hr)) ?_
    obtain ⟨fs, hr, hrun, hended, hW, hsame⟩ := X191.leave (v := some (.ref r_184)) (fun h => by rw [Bd.returns] at h; cases h)
    have om193 : @LE.le Nat instLENat h0.size b177 := by omega
    refine ⟨_, _, retOut X191 hx Bd.returns rfl (Or.inr (Or.inr (Or.inr (Or.inr ⟨rfl, rfl, rfl⟩)))) (hb hby d7_56) hr, hrun, hended, _, _, rfl, ?_, ⟨⟨_, rfl⟩, hW, hsame.mono (by decide) (by decide)⟩⟩
    show QcmpL Z b ck cs h0 n0 _ T191.heap _
    rw [e191]
    exact ⟨r_184, kr_184, 1, (Int32.ofNat (2 * cs.length)), (StrChars.Road.wideBytes cs), rfl, N191, ((((Keep.refl h0 []).ext E177).trans K179 (allS (P := fun x_ => x_ ∈ ([] : List Addr) ∨ h0.size ≤ x_) (Or.inr (own_ale om193)) all0)).trans K184 all0), f184_0, (by omega), (Or.inr ⟨rfl, rfl, rfl, _, own_getD_mem hrl, h255⟩)⟩
def Qcfl0 (Z : State) (a : Addr) (ka : ClassId) (vs : List Value) (n : Nat) (h0 : Heap) (n0 : Nat) (v : Option Value) (h : Heap) (L : List Loc) : Prop := v = some (.int (0 : Int32)) ∧ Fr n0 L ∧ h = h0
theorem ef_cfl0 (m : MethodId) (x0 : Addr) (x1 : Int32) : entryFrame m #[(.ref x0), (.int x1)] 2 = mkF m 0 #[sR x0, sI x1] [] := by first | (simp [entryFrame, mkF, argsToLocals, Value.category]; done) | rfl
theorem d9_0 : decode jdk_52_method_15_code 0 = .ok (.iload_n 1, 1) := by decide +kernel
theorem d9_1 : decode jdk_52_method_15_code 1 = .ok (.aload_n 0, 1) := by decide +kernel
theorem d9_2 : decode jdk_52_method_15_code 2 = .ok (.arraylength, 1) := by decide +kernel
theorem d9_3 : decode jdk_52_method_15_code 3 = .ok (.isub, 1) := by decide +kernel
theorem d9_4 : decode jdk_52_method_15_code 4 = .ok (.bipush 31, 2) := by decide +kernel
theorem d9_6 : decode jdk_52_method_15_code 6 = .ok (.iushr, 1) := by decide +kernel
theorem d9_7 : decode jdk_52_method_15_code 7 = .ok (.i2b, 1) := by decide +kernel
theorem d9_8 : decode jdk_52_method_15_code 8 = .ok (.ireturn, 1) := by decide +kernel
set_option maxRecDepth 65536 in
set_option maxHeartbeats 40000000 in
theorem cfl0 (l : Launch) (Z : State) (a0 : Array Value) (hw : ∀ d ∈ tables_1, d.before a0 Z = true) (ws : List Jvm.Cond) (a : Addr) (ka : ClassId) (vs : List Value) (n : Nat) (h0 : Heap) (n0 : Nat) (Z0 : n0 ≤ h0.size) (q0 : Arv Z h0 a ka .byte (Int32.ofNat n) vs (.int (0 : Int32))) (h1 : 0 < n) (h4 : n ≤ 4) :
    MetFree l y_7 (head1 (Jvm.Cond.code y_7 jdk_52_method_15_code 2 (some .byte) :: ws) r_m0) (fun a_ U_ => a_ = #[(.ref a), (.int (Int32.ofNat n))] ∧ Z.Warmed39 U_.vm ∧ U_.heap = h0) (fun _ _ _ _ _ => True) (fun _ U_ o_ V_ => ∃ v_ L_, o_ = .returned v_ ∧ Qcfl0 Z a ka vs n h0 n0 v_ V_.heap L_ ∧ FrameEnd U_ o_ V_ L_ r_m0.cells r_m0.slots) := by
  refine MetFree.of_bodySF (plainFor_of_name pn_0) hisR ?_
  intro p e s m args below meth c s₁ Bd hml0 hP hK
  obtain ⟨rfl, hZ, hh⟩ := hP
  have hx := Bd.exec
  have hby := Bd.bytes
  have hml : c.maxLocals = 2 := hml0
  have hown : s.vm.findClass "java/lang/StringUTF16" = some m.cls := findClass_of_methodNamed Bd.named
  have hnm := (name_of_methodNamed Bd.named Bd.method).1
  have X0 : Stand p l e r_m0 s m #[(.ref a), (.int (Int32.ofNat n))] below meth c s₁ [] 0 0 := Stand.of_body Bd
  have e0 : s₁.heap = h0 := by rw [← hh, Bd.state]; rfl
  have N0 := Fr.nil n0
  have lt194 := own_alt q0.lt
  refine Gl.go (A := s₁.setTop (entryFrame m #[(.ref a), (.int (Int32.ofNat n))] 2)) (P := fun o_ U_ => ∃ v_ L_, o_ = .returned v_ ∧ Qcfl0 Z a ka vs n h0 n0 v_ U_.heap L_ ∧ FrameEnd s o_ U_ L_ r_m0.cells r_m0.slots) (fun t_ k_ => castTop (ef_cfl0 m a (Int32.ofNat n)) k_) ?_
  show Gl p.tables e below _ (s₁.setTop (mkF m 0 #[sR a, sI (Int32.ofNat n)] []))
  refine Gl.go (fun _ hr => zXS_iloadN X0.here hx rfl (hb hby d9_0) rfl (zXS_aloadN X0.here hx rfl (hb hby d9_1) rfl rfl hr)) ?_
  obtain ⟨c195, a195, q195, s195, m195, H195, U195⟩ := id q0
  refine gLen Gl.cl X0 hx hZ e0 a195 s195 m195 rfl rfl (hb hby d9_2) ?_
  refine Gl.go (fun _ hr => zXS_isub X0.here hx rfl (hb hby d9_3) rfl (zXS_bipush X0.here hx rfl (hb hby d9_4) (zXT_iushr X0.here hx rfl (hb hby d9_6) rfl (zXT_i2b X0.here hx rfl (hb hby d9_7) rfl hr)))) ?_
  obtain ⟨fs, hr, hrun, hended, hW, hsame⟩ := X0.leave (v := some (.int (nar .byte ((XT.ushr ((Int32.ofNat n) - (Int32.ofNat n)) (31 : Int32)).toInt8.toInt32)))) (fun h => by rw [Bd.returns] at h; cases h)
  refine ⟨_, _, retN X0 hx (t := .byte) Bd.returns (by simp) (hb hby d9_8) hr, hrun, hended, _, _, rfl, ?_, ⟨⟨_, rfl⟩, hW, hsame.mono (by decide) (by decide)⟩⟩
  show Qcfl0 Z a ka vs n h0 n0 _ s₁.heap _
  rw [e0]
  exact ⟨(own_some (own_cfl0 h4)), N0, rfl⟩
def Qcfl1 (Z : State) (a : Addr) (ka : ClassId) (vs : List Value) (n : Nat) (h0 : Heap) (n0 : Nat) (v : Option Value) (h : Heap) (L : List Loc) : Prop := v = some (.int (1 : Int32)) ∧ Fr n0 L ∧ h = h0
theorem ef_cfl1 (m : MethodId) (x0 : Addr) (x1 : Int32) : entryFrame m #[(.ref x0), (.int x1)] 2 = mkF m 0 #[sR x0, sI x1] [] := by first | (simp [entryFrame, mkF, argsToLocals, Value.category]; done) | rfl
set_option maxRecDepth 65536 in
set_option maxHeartbeats 40000000 in
theorem cfl1 (l : Launch) (Z : State) (a0 : Array Value) (hw : ∀ d ∈ tables_1, d.before a0 Z = true) (ws : List Jvm.Cond) (a : Addr) (ka : ClassId) (vs : List Value) (n : Nat) (h0 : Heap) (n0 : Nat) (Z0 : n0 ≤ h0.size) (q0 : Arv Z h0 a ka .byte (Int32.ofNat (2 * n)) vs (.int (0 : Int32))) (h1 : 0 < n) (h4 : n ≤ 4) :
    MetFree l y_7 (head1 (Jvm.Cond.code y_7 jdk_52_method_15_code 2 (some .byte) :: ws) r_m0) (fun a_ U_ => a_ = #[(.ref a), (.int (Int32.ofNat n))] ∧ Z.Warmed39 U_.vm ∧ U_.heap = h0) (fun _ _ _ _ _ => True) (fun _ U_ o_ V_ => ∃ v_ L_, o_ = .returned v_ ∧ Qcfl1 Z a ka vs n h0 n0 v_ V_.heap L_ ∧ FrameEnd U_ o_ V_ L_ r_m0.cells r_m0.slots) := by
  refine MetFree.of_bodySF (plainFor_of_name pn_0) hisR ?_
  intro p e s m args below meth c s₁ Bd hml0 hP hK
  obtain ⟨rfl, hZ, hh⟩ := hP
  have hx := Bd.exec
  have hby := Bd.bytes
  have hml : c.maxLocals = 2 := hml0
  have hown : s.vm.findClass "java/lang/StringUTF16" = some m.cls := findClass_of_methodNamed Bd.named
  have hnm := (name_of_methodNamed Bd.named Bd.method).1
  have X0 : Stand p l e r_m0 s m #[(.ref a), (.int (Int32.ofNat n))] below meth c s₁ [] 0 0 := Stand.of_body Bd
  have e0 : s₁.heap = h0 := by rw [← hh, Bd.state]; rfl
  have N0 := Fr.nil n0
  have lt196 := own_alt q0.lt
  refine Gl.go (A := s₁.setTop (entryFrame m #[(.ref a), (.int (Int32.ofNat n))] 2)) (P := fun o_ U_ => ∃ v_ L_, o_ = .returned v_ ∧ Qcfl1 Z a ka vs n h0 n0 v_ U_.heap L_ ∧ FrameEnd s o_ U_ L_ r_m0.cells r_m0.slots) (fun t_ k_ => castTop (ef_cfl1 m a (Int32.ofNat n)) k_) ?_
  show Gl p.tables e below _ (s₁.setTop (mkF m 0 #[sR a, sI (Int32.ofNat n)] []))
  refine Gl.go (fun _ hr => zXS_iloadN X0.here hx rfl (hb hby d9_0) rfl (zXS_aloadN X0.here hx rfl (hb hby d9_1) rfl rfl hr)) ?_
  obtain ⟨c197, a197, q197, s197, m197, H197, U197⟩ := id q0
  refine gLen Gl.cl X0 hx hZ e0 a197 s197 m197 rfl rfl (hb hby d9_2) ?_
  refine Gl.go (fun _ hr => zXS_isub X0.here hx rfl (hb hby d9_3) rfl (zXS_bipush X0.here hx rfl (hb hby d9_4) (zXT_iushr X0.here hx rfl (hb hby d9_6) rfl (zXT_i2b X0.here hx rfl (hb hby d9_7) rfl hr)))) ?_
  obtain ⟨fs, hr, hrun, hended, hW, hsame⟩ := X0.leave (v := some (.int (nar .byte ((XT.ushr ((Int32.ofNat n) - (Int32.ofNat (2 * n))) (31 : Int32)).toInt8.toInt32)))) (fun h => by rw [Bd.returns] at h; cases h)
  refine ⟨_, _, retN X0 hx (t := .byte) Bd.returns (by simp) (hb hby d9_8) hr, hrun, hended, _, _, rfl, ?_, ⟨⟨_, rfl⟩, hW, hsame.mono (by decide) (by decide)⟩⟩
  show Qcfl1 Z a ka vs n h0 n0 _ s₁.heap _
  rw [e0]
  exact ⟨(own_some (own_cfl1 h1 h4)), N0, rfl⟩
def QinwL (Z : State) (x : Addr) (b : Addr) (ck : ClassId) (cs : List Int32) (G1 : Int32) (h0 : Heap) (n0 : Nat) (v : Option Value) (h : Heap) (L : List Loc) : Prop := ∃ (t : Addr), ∃ (kb : ClassId), ∃ (cd : Int32), ∃ (N2 : Int32), ∃ (vs : List Value), v = none ∧ Fr n0 L ∧ Keep h0 h [x] ∧ (Exa Z h x "java/lang/String") ∧ (Fld Z h x "java/lang/String" "value" "[B" (.ref t)) ∧ (Fld Z h x "java/lang/String" "coder" "B" (.int cd)) ∧ (Arv Z h t kb .byte N2 vs (.int 0)) ∧ (@LE.le Nat instLENat h0.size t) ∧ (StrChars.Road.CodA cs cd N2 vs)
theorem pn_1 : plainName "java/lang/String" = true := by first | (simp [plainName, overriddenIn]; done) | decide +kernel
theorem ef_inwL (m : MethodId) (x0 : Addr) (x1 : Addr) (x2 : Int32) (x3 : Int32) : entryFrame m #[(.ref x0), (.ref x1), (.int x2), (.int x3), .null] 6 = mkF m 0 #[sR x0, sR x1, sI x2, sI x3, .val .null, sU] [] := by first | (simp [entryFrame, mkF, argsToLocals, Value.category]; done) | rfl
theorem d5_0 : decode jdk_42_method_149_code 0 = .ok (.aload_n 0, 1) := by decide +kernel
theorem d5_1 : decode jdk_42_method_149_code 1 = .ok (.invokespecial 1, 3) := by decide +kernel
theorem d5_4 : decode jdk_42_method_149_code 4 = .ok (.iload_n 3, 1) := by decide +kernel
theorem d5_5 : decode jdk_42_method_149_code 5 = .ok (.ifCond .ne 22, 3) := by decide +kernel
theorem d5_27 : decode jdk_42_method_149_code 27 = .ok (.getstatic 38, 3) := by decide +kernel
theorem d5_30 : decode jdk_42_method_149_code 30 = .ok (.ifCond .eq 28, 3) := by decide +kernel
theorem d5_33 : decode jdk_42_method_149_code 33 = .ok (.aload_n 1, 1) := by decide +kernel
theorem d5_34 : decode jdk_42_method_149_code 34 = .ok (.iload_n 2, 1) := by decide +kernel
theorem d5_35 : decode jdk_42_method_149_code 35 = .ok (.iload_n 3, 1) := by decide +kernel
theorem d5_36 : decode jdk_42_method_149_code 36 = .ok (.invokestatic 177, 3) := by decide +kernel
theorem d5_39 : decode jdk_42_method_149_code 39 = .ok (.astore 5, 2) := by decide +kernel
theorem d5_41 : decode jdk_42_method_149_code 41 = .ok (.aload_n 0, 1) := by decide +kernel
theorem d5_42 : decode jdk_42_method_149_code 42 = .ok (.aload 5, 2) := by decide +kernel
theorem d5_44 : decode jdk_42_method_149_code 44 = .ok (.iload_n 3, 1) := by decide +kernel
theorem d5_45 : decode jdk_42_method_149_code 45 = .ok (.invokestatic 47, 3) := by decide +kernel
theorem pd_6 : parseMethodDescriptor "([BI)B" = some ⟨[(.array .byte), .int], some .byte⟩ := by decide +kernel
theorem d5_48 : decode jdk_42_method_149_code 48 = .ok (.putfield 15, 3) := by decide +kernel
theorem d5_51 : decode jdk_42_method_149_code 51 = .ok (.aload_n 0, 1) := by decide +kernel
theorem d5_52 : decode jdk_42_method_149_code 52 = .ok (.aload 5, 2) := by decide +kernel
theorem d5_54 : decode jdk_42_method_149_code 54 = .ok (.putfield 9, 3) := by decide +kernel
theorem d5_57 : decode jdk_42_method_149_code 57 = .ok (.return_, 1) := by decide +kernel
set_option maxRecDepth 65536 in
set_option maxHeartbeats 40000000 in
theorem inwL (l : Launch) (Z : State) (a0 : Array Value) (hw : ∀ d ∈ tables_1, d.before a0 Z = true) (ws : List Jvm.Cond) (x : Addr) (b : Addr) (ck : ClassId) (cs : List Int32) (G1 : Int32) (h0 : Heap) (n0 : Nat) (Z0 : n0 ≤ h0.size) (q0 : Sta Z Z.heap "java/lang/String" "COMPACT_STRINGS" "Z" (.int G1)) (P5 : ¬ (G1 = (0 : Int32))) (q2 : Old Z n0 h0) (q3 : Sta Z Z.heap "java/lang/StringUTF16" "$assertionsDisabled" "Z" (.int (1 : Int32))) (q4 : Sta Z Z.heap "java/lang/StringUTF16" "HI_BYTE_SHIFT" "I" (.int (0 : Int32))) (q5 : Sta Z Z.heap "java/lang/StringUTF16" "LO_BYTE_SHIFT" "I" (.int (8 : Int32))) (q6 : @LE.le Nat instLENat n0 x) (q7 : Exa Z h0 x "java/lang/String") (q8 : Fld Z h0 x "java/lang/String" "value" "[B" .null) (q9 : Fld Z h0 x "java/lang/String" "coder" "B" (.int (0 : Int32))) (q10 : Arv Z h0 b ck .char (Int32.ofNat cs.length) (cs.map Value.int) (.int (0 : Int32))) (hbd : ∀ c ∈ cs, Wid c) (h1 : 0 < cs.length) (h4 : cs.length ≤ 4) :
    MetFree l y_8 (head1 (Jvm.Cond.code y_8 jdk_42_method_149_code 6 none :: ws) r_m4) (fun a_ U_ => a_ = #[(.ref x), (.ref b), (.int (0 : Int32)), (.int (Int32.ofNat cs.length)), .null] ∧ Z.Warmed39 U_.vm ∧ U_.heap = h0) (fun _ _ _ _ _ => True) (fun _ U_ o_ V_ => ∃ v_ L_, o_ = .returned v_ ∧ QinwL Z x b ck cs G1 h0 n0 v_ V_.heap L_ ∧ FrameEnd U_ o_ V_ L_ r_m4.cells r_m4.slots) := by
  refine MetFree.of_bodySF (plainFor_of_name pn_1) hisR ?_
  intro p e s m args below meth c s₁ Bd hml0 hP hK
  obtain ⟨rfl, hZ, hh⟩ := hP
  have hx := Bd.exec
  have hby := Bd.bytes
  have hml : c.maxLocals = 6 := hml0
  have hown : s.vm.findClass "java/lang/String" = some m.cls := findClass_of_methodNamed Bd.named
  have hnm := (name_of_methodNamed Bd.named Bd.method).1
  have X0 : Stand p l e r_m4 s m #[(.ref x), (.ref b), (.int (0 : Int32)), (.int (Int32.ofNat cs.length)), .null] below meth c s₁ [] 0 0 := Stand.of_body Bd
  have e0 : s₁.heap = h0 := by rw [← hh, Bd.state]; rfl
  have N0 := Fr.nil n0
  have zo := q2.1
  have lt198 := own_alt q7.lt
  have lt199 := own_alt q8.lt
  have lt200 := own_alt q9.lt
  have lt201 := own_alt q10.lt
  refine Gl.go (A := s₁.setTop (entryFrame m #[(.ref x), (.ref b), (.int (0 : Int32)), (.int (Int32.ofNat cs.length)), .null] 6)) (P := fun o_ U_ => ∃ v_ L_, o_ = .returned v_ ∧ QinwL Z x b ck cs G1 h0 n0 v_ U_.heap L_ ∧ FrameEnd s o_ U_ L_ r_m4.cells r_m4.slots) (fun t_ k_ => castTop (ef_inwL m x b (0 : Int32) (Int32.ofNat cs.length)) k_) ?_
  show Gl p.tables e below _ (s₁.setTop (mkF m 0 #[sR x, sR b, sI 0, sI (Int32.ofNat cs.length), .val .null, sU] []))
  refine Gl.go (fun _ hr => zXS_aloadN X0.here hx rfl (hb hby d5_0) rfl rfl hr) ?_
  refine gInit Gl.cl (W := 0) X0 hx hZ hown (tw hw 27 rfl) (tw hw 28 rfl) (tw hw 29 rfl) e0 rfl (by rw [hml]; rfl) rfl (hb hby d5_1) (by decide) (by exact Nat.le_of_eq rfl) (by decide) ?_
  intro T202 X202 e202
  refine Gl.go (fun _ hr => zXS_iloadN X202.here hx rfl (hb hby d5_4) rfl hr) ?_
  refine Gl.go (fun _ hr => zXS_ifYes X202.here hx rfl (pc0 := 5) (pc' := 27) rfl (hb hby d5_5) rfl (XT.i0_ne_t (own_ne32 (b := 0) (by omega) (by decide) (by omega))) (by decide) (by decide) hr) ?_
  refine gGetS (host := "") Gl.cl X202 hx hZ hown (Or.inl (tw hw 30 rfl)) Via.refl e202 (q0.ext q2.2) rfl (hb hby d5_27) ?_
  intro T203 X203 e203
  refine Gl.go (fun _ hr => zXS_ifNo X203.here hx rfl (hb hby d5_30) rfl (XT.i0_eq_f P5) (zXS_aloadN X203.here hx rfl (hb hby d5_33) rfl rfl (zXS_iloadN X203.here hx rfl (hb hby d5_34) rfl (zXS_iloadN X203.here hx rfl (hb hby d5_35) rfl hr)))) ?_
  have zz204 : n0 ≤ h0.size := by omega
  refine gStaticN Gl.cl (y := y_6) (argsL := [(.ref b), (.int (0 : Int32)), (.int (Int32.ofNat cs.length))]) (rest := []) (mc := 2) (ms := 12) X203 hx hZ hown (mvT hZ (tw hw 31 rfl)) (mvT hZ (tw hw 32 rfl)) (mvT hZ (tw hw 33 rfl)) (mvT hZ (tw hw 34 rfl)) (by decide) (backOf (W := 0) (cmpL l Z a0 hw [] b ck cs h0 n0 zz204 q2 q3 q4 q5 q10 (by assumption) (by assumption) (by assumption)) hZ (tw hw 34 rfl) (tw hw 33 rfl) (by decide) (by decide)) rfl (by rw [hml]; rfl) (lenOf pd_4 rfl) rfl (by exact Nat.le_of_eq rfl) (hb hby d5_36) rfl e203 (by decide) (by decide) ?_
  intro v204 T204 Lc204 hQ204 X204
  obtain ⟨r_204, kr_204, cd_204, N2_204, vs_204, rfl, Nq204, K204, f204_0, f204_1, p204_cod⟩ := hQ204
  have z205 : h0.size ≤ T204.heap.size := K204.1
  have N204 := Fr.app N0 Nq204
  have lt206 := own_alt f204_0.lt
  refine Gl.go (fun _ hr => zXS_astore X204.here hx rfl (hb hby d5_39) rfl rfl (l' := #[sR x, sR b, sI 0, sI (Int32.ofNat cs.length), .val .null, sR r_204]) rfl hr) ?_
  show Gl p.tables e below _ (T204.setTop (mkF m 41 #[sR x, sR b, sI 0, sI (Int32.ofNat cs.length), .val .null, sR r_204] []))
  rcases p204_cod with ⟨rfl, rfl, rfl, hl⟩ | ⟨rfl, rfl, rfl, hl⟩
  · show Gl p.tables e below _ (T204.setTop (mkF m 41 #[sR x, sR b, sI 0, sI (Int32.ofNat cs.length), .val .null, sR r_204] []))
    refine Gl.go (fun _ hr => zXS_aloadN X204.here hx rfl (hb hby d5_41) rfl rfl (zXS_aload X204.here hx rfl (hb hby d5_42) rfl rfl (zXS_iloadN X204.here hx rfl (hb hby d5_44) rfl hr))) ?_
    have zz207 : n0 ≤ T204.heap.size := by omega
    refine gStaticN Gl.cl (y := y_7) (argsL := [(.ref r_204), (.int (Int32.ofNat cs.length))]) (rest := [(.ref x)]) (mc := 0) (ms := 0) X204 hx hZ hown (mvT hZ (tw hw 39 rfl)) (mvT hZ (tw hw 40 rfl)) (mvT hZ (tw hw 33 rfl)) (mvT hZ (tw hw 41 rfl)) (by decide) (backOf (W := 1) (cfl0 l Z a0 hw [] r_204 kr_204 (cs.map fun c => Value.int (StrChars.lo8 c)) cs.length T204.heap n0 zz207 f204_0 h1 (by omega)) hZ (tw hw 41 rfl) (tw hw 33 rfl) (by decide) (by decide)) rfl (by rw [hml]; rfl) (lenOf pd_6 rfl) rfl (by exact Nat.le_of_eq rfl) (hb hby d5_45) rfl (rfl : T204.heap = T204.heap) (by decide) (by decide) ?_
    intro v207 T207 Lc207 hQ207 X207
    obtain ⟨rfl, Nq207, e207⟩ := hQ207
    have N207 := Fr.app N204 Nq207
    have Fc208 := (q9.keep K204 nin0)
    have Ec209 := (q7.keep K204)
    refine gPutF (host := "") Gl.cl X207 hx hZ hown (Or.inl (tw hw 42 rfl)) Via.refl e207 Fc208 Ec209 (Or.inr ⟨(tw hw 43 rfl), rfl, hnm⟩) (tw hw 17 rfl) (ty := .byte) (by decide) rfl rfl rfl rfl (hb hby d5_48) ?_
    intro T210 h210 X210 e210 W210
    have z211 : T204.heap.size ≤ h210.size := (Keep.of_wr W210).1
    have Fw210 := Fc208.same W210
    have om212 : @LE.le Nat instLENat n0 x := by omega
    have N210 := Fr.snoc X210 N207 (own_ale om212)
    refine Gl.go (fun _ hr => zXS_aloadN X210.here hx rfl (hb hby d5_51) rfl rfl (zXS_aload X210.here hx rfl (hb hby d5_52) rfl rfl hr)) ?_
    have Fc213 := ((q8.keep K204 nin0).other W210 (Or.inr (slot_ne (Or.inr (tw hw 45 rfl)) (Or.inr (tw hw 43 rfl)) (by decide) (t := (.array .byte)) (t' := .byte) (by decide) (by decide))))
    have Ec214 := (Ec209.wr W210)
    refine gPutF (host := "") Gl.cl X210 hx hZ hown (Or.inl (tw hw 44 rfl)) Via.refl e210 Fc213 Ec214 (Or.inr ⟨(tw hw 45 rfl), rfl, hnm⟩) (tw hw 17 rfl) (ty := (.array .byte)) (by decide) rfl rfl rfl rfl (hb hby d5_54) ?_
    intro T215 h215 X215 e215 W215
    have z216 : h210.size ≤ h215.size := (Keep.of_wr W215).1
    have Fw215 := Fc213.same W215
    have N215 := Fr.snoc X215 N210 (own_ale om212)
    have Ec217 := (Ec214.wr W215)
    have Fc218 := (Fw210.other W215 (Or.inr (slot_ne (Or.inr (tw hw 43 rfl)) (Or.inr (tw hw 45 rfl)) (by decide) (t := .byte) (t' := (.array .byte)) (by decide) (by decide))))
    have om219 : ¬ @Eq Nat r_204 x := by omega
    have Vc220 := ((f204_0.other W210 (own_ane om219)).other W215 (own_ane om219))
    obtain ⟨fs, hr, hrun, hended, hW, hsame⟩ := X215.leave (v := none) (fun _ => rfl)
    refine ⟨_, _, X215.returnOut hx Bd.returns (hb hby d5_57) hr, hrun, hended, _, _, rfl, ?_, ⟨⟨_, rfl⟩, hW, hsame.mono (by decide) (by decide)⟩⟩
    show QinwL Z x b ck cs G1 h0 n0 _ T215.heap _
    rw [e215]
    exact ⟨r_204, kr_204, 0, (Int32.ofNat cs.length), (cs.map fun c => Value.int (StrChars.lo8 c)), rfl, N215, ((((Keep.refl h0 [x]).trans K204 all0).wr W210 (Or.inl (by simp))).wr W215 (Or.inl (by simp))), Ec217, Fw215, Fc218, Vc220, (by omega), (Or.inl ⟨rfl, rfl, rfl, hl⟩)⟩
  · show Gl p.tables e below _ (T204.setTop (mkF m 41 #[sR x, sR b, sI 0, sI (Int32.ofNat cs.length), .val .null, sR r_204] []))
    refine Gl.go (fun _ hr => zXS_aloadN X204.here hx rfl (hb hby d5_41) rfl rfl (zXS_aload X204.here hx rfl (hb hby d5_42) rfl rfl (zXS_iloadN X204.here hx rfl (hb hby d5_44) rfl hr))) ?_
    have zz221 : n0 ≤ T204.heap.size := by omega
    refine gStaticN Gl.cl (y := y_7) (argsL := [(.ref r_204), (.int (Int32.ofNat cs.length))]) (rest := [(.ref x)]) (mc := 0) (ms := 0) X204 hx hZ hown (mvT hZ (tw hw 39 rfl)) (mvT hZ (tw hw 40 rfl)) (mvT hZ (tw hw 33 rfl)) (mvT hZ (tw hw 41 rfl)) (by decide) (backOf (W := 1) (cfl1 l Z a0 hw [] r_204 kr_204 (StrChars.Road.wideBytes cs) cs.length T204.heap n0 zz221 f204_0 h1 (by omega)) hZ (tw hw 41 rfl) (tw hw 33 rfl) (by decide) (by decide)) rfl (by rw [hml]; rfl) (lenOf pd_6 rfl) rfl (by exact Nat.le_of_eq rfl) (hb hby d5_45) rfl (rfl : T204.heap = T204.heap) (by decide) (by decide) ?_
    intro v221 T221 Lc221 hQ221 X221
    obtain ⟨rfl, Nq221, e221⟩ := hQ221
    have N221 := Fr.app N204 Nq221
    have Fc222 := (q9.keep K204 nin0)
    have Ec223 := (q7.keep K204)
    refine gPutF (host := "") Gl.cl X221 hx hZ hown (Or.inl (tw hw 42 rfl)) Via.refl e221 Fc222 Ec223 (Or.inr ⟨(tw hw 43 rfl), rfl, hnm⟩) (tw hw 17 rfl) (ty := .byte) (by decide) rfl rfl rfl rfl (hb hby d5_48) ?_
    intro T224 h224 X224 e224 W224
    have z225 : T204.heap.size ≤ h224.size := (Keep.of_wr W224).1
    have Fw224 := Fc222.same W224
    have om226 : @LE.le Nat instLENat n0 x := by omega
    have N224 := Fr.snoc X224 N221 (own_ale om226)
    refine Gl.go (fun _ hr => zXS_aloadN X224.here hx rfl (hb hby d5_51) rfl rfl (zXS_aload X224.here hx rfl (hb hby d5_52) rfl rfl hr)) ?_
    have Fc227 := ((q8.keep K204 nin0).other W224 (Or.inr (slot_ne (Or.inr (tw hw 45 rfl)) (Or.inr (tw hw 43 rfl)) (by decide) (t := (.array .byte)) (t' := .byte) (by decide) (by decide))))
    have Ec228 := (Ec223.wr W224)
    refine gPutF (host := "") Gl.cl X224 hx hZ hown (Or.inl (tw hw 44 rfl)) Via.refl e224 Fc227 Ec228 (Or.inr ⟨(tw hw 45 rfl), rfl, hnm⟩) (tw hw 17 rfl) (ty := (.array .byte)) (by decide) rfl rfl rfl rfl (hb hby d5_54) ?_
    intro T229 h229 X229 e229 W229
    have z230 : h224.size ≤ h229.size := (Keep.of_wr W229).1
    have Fw229 := Fc227.same W229
    have N229 := Fr.snoc X229 N224 (own_ale om226)
    have Ec231 := (Ec228.wr W229)
    have Fc232 := (Fw224.other W229 (Or.inr (slot_ne (Or.inr (tw hw 43 rfl)) (Or.inr (tw hw 45 rfl)) (by decide) (t := .byte) (t' := (.array .byte)) (by decide) (by decide))))
    have om233 : ¬ @Eq Nat r_204 x := by omega
    have Vc234 := ((f204_0.other W224 (own_ane om233)).other W229 (own_ane om233))
    obtain ⟨fs, hr, hrun, hended, hW, hsame⟩ := X229.leave (v := none) (fun _ => rfl)
    refine ⟨_, _, X229.returnOut hx Bd.returns (hb hby d5_57) hr, hrun, hended, _, _, rfl, ?_, ⟨⟨_, rfl⟩, hW, hsame.mono (by decide) (by decide)⟩⟩
    show QinwL Z x b ck cs G1 h0 n0 _ T229.heap _
    rw [e229]
    exact ⟨r_204, kr_204, 1, (Int32.ofNat (2 * cs.length)), (StrChars.Road.wideBytes cs), rfl, N229, ((((Keep.refl h0 [x]).trans K204 all0).wr W224 (Or.inl (by simp))).wr W229 (Or.inl (by simp))), Ec231, Fw229, Fc232, Vc234, (by omega), (Or.inr ⟨rfl, rfl, rfl, hl⟩)⟩
def QinvL (Z : State) (x : Addr) (b : Addr) (ck : ClassId) (cs : List Int32) (G1 : Int32) (h0 : Heap) (n0 : Nat) (v : Option Value) (h : Heap) (L : List Loc) : Prop := ∃ (t : Addr), ∃ (kb : ClassId), ∃ (cd : Int32), ∃ (N2 : Int32), ∃ (vs : List Value), v = none ∧ Fr n0 L ∧ Keep h0 h [x] ∧ (Exa Z h x "java/lang/String") ∧ (Fld Z h x "java/lang/String" "value" "[B" (.ref t)) ∧ (Fld Z h x "java/lang/String" "coder" "B" (.int cd)) ∧ (Arv Z h t kb .byte N2 vs (.int 0)) ∧ (@LE.le Nat instLENat h0.size t) ∧ (StrChars.Road.CodA cs cd N2 vs)
theorem ef_invL (m : MethodId) (x0 : Addr) (x1 : Addr) : entryFrame m #[(.ref x0), (.ref x1)] 2 = mkF m 0 #[sR x0, sR x1] [] := by first | (simp [entryFrame, mkF, argsToLocals, Value.category]; done) | rfl
theorem d4_0 : decode jdk_42_method_3_code 0 = .ok (.aload_n 0, 1) := by decide +kernel
theorem d4_1 : decode jdk_42_method_3_code 1 = .ok (.aload_n 1, 1) := by decide +kernel
theorem d4_2 : decode jdk_42_method_3_code 2 = .ok (.iconst 0, 1) := by decide +kernel
theorem d4_3 : decode jdk_42_method_3_code 3 = .ok (.aload_n 1, 1) := by decide +kernel
theorem d4_4 : decode jdk_42_method_3_code 4 = .ok (.arraylength, 1) := by decide +kernel
theorem d4_5 : decode jdk_42_method_3_code 5 = .ok (.aconst_null, 1) := by decide +kernel
theorem d4_6 : decode jdk_42_method_3_code 6 = .ok (.invokespecial 27, 3) := by decide +kernel
theorem pd_7 : parseMethodDescriptor "([CIILjava/lang/Void;)V" = some ⟨[(.array .char), .int, .int, (.object "java/lang/Void")], none⟩ := by decide +kernel
theorem d4_9 : decode jdk_42_method_3_code 9 = .ok (.return_, 1) := by decide +kernel
set_option maxRecDepth 65536 in
set_option maxHeartbeats 40000000 in
theorem invL (l : Launch) (Z : State) (a0 : Array Value) (hw : ∀ d ∈ tables_1, d.before a0 Z = true) (ws : List Jvm.Cond) (x : Addr) (b : Addr) (ck : ClassId) (cs : List Int32) (G1 : Int32) (h0 : Heap) (n0 : Nat) (Z0 : n0 ≤ h0.size) (q0 : Sta Z Z.heap "java/lang/String" "COMPACT_STRINGS" "Z" (.int G1)) (P5 : ¬ (G1 = (0 : Int32))) (q2 : Old Z n0 h0) (q3 : Sta Z Z.heap "java/lang/StringUTF16" "$assertionsDisabled" "Z" (.int (1 : Int32))) (q4 : Sta Z Z.heap "java/lang/StringUTF16" "HI_BYTE_SHIFT" "I" (.int (0 : Int32))) (q5 : Sta Z Z.heap "java/lang/StringUTF16" "LO_BYTE_SHIFT" "I" (.int (8 : Int32))) (q6 : @LE.le Nat instLENat n0 x) (q7 : Exa Z h0 x "java/lang/String") (q8 : Fld Z h0 x "java/lang/String" "value" "[B" .null) (q9 : Fld Z h0 x "java/lang/String" "coder" "B" (.int (0 : Int32))) (q10 : Arv Z h0 b ck .char (Int32.ofNat cs.length) (cs.map Value.int) (.int (0 : Int32))) (hbd : ∀ c ∈ cs, Wid c) (h1 : 0 < cs.length) (h4 : cs.length ≤ 4) :
    MetFree l y_9 (head1 (Jvm.Cond.code y_9 jdk_42_method_3_code 2 none :: ws) r_m5) (fun a_ U_ => a_ = #[(.ref x), (.ref b)] ∧ Z.Warmed39 U_.vm ∧ U_.heap = h0) (fun _ _ _ _ _ => True) (fun _ U_ o_ V_ => ∃ v_ L_, o_ = .returned v_ ∧ QinvL Z x b ck cs G1 h0 n0 v_ V_.heap L_ ∧ FrameEnd U_ o_ V_ L_ r_m5.cells r_m5.slots) := by
  refine MetFree.of_bodySF (plainFor_of_name pn_1) hisR ?_
  intro p e s m args below meth c s₁ Bd hml0 hP hK
  obtain ⟨rfl, hZ, hh⟩ := hP
  have hx := Bd.exec
  have hby := Bd.bytes
  have hml : c.maxLocals = 2 := hml0
  have hown : s.vm.findClass "java/lang/String" = some m.cls := findClass_of_methodNamed Bd.named
  have hnm := (name_of_methodNamed Bd.named Bd.method).1
  have X0 : Stand p l e r_m5 s m #[(.ref x), (.ref b)] below meth c s₁ [] 0 0 := Stand.of_body Bd
  have e0 : s₁.heap = h0 := by rw [← hh, Bd.state]; rfl
  have N0 := Fr.nil n0
  have zo := q2.1
  have lt235 := own_alt q7.lt
  have lt236 := own_alt q8.lt
  have lt237 := own_alt q9.lt
  have lt238 := own_alt q10.lt
  refine Gl.go (A := s₁.setTop (entryFrame m #[(.ref x), (.ref b)] 2)) (P := fun o_ U_ => ∃ v_ L_, o_ = .returned v_ ∧ QinvL Z x b ck cs G1 h0 n0 v_ U_.heap L_ ∧ FrameEnd s o_ U_ L_ r_m5.cells r_m5.slots) (fun t_ k_ => castTop (ef_invL m x b) k_) ?_
  show Gl p.tables e below _ (s₁.setTop (mkF m 0 #[sR x, sR b] []))
  refine Gl.go (fun _ hr => zXS_aloadN X0.here hx rfl (hb hby d4_0) rfl rfl (zXS_aloadN X0.here hx rfl (hb hby d4_1) rfl rfl (zXS_iconst X0.here hx rfl (hb hby d4_2) (zXS_aloadN X0.here hx rfl (hb hby d4_3) rfl rfl hr)))) ?_
  obtain ⟨c239, a239, q239, s239, m239, H239, U239⟩ := id q10
  refine gLen Gl.cl X0 hx hZ e0 a239 s239 m239 rfl rfl (hb hby d4_4) ?_
  refine Gl.go (fun _ hr => zXS_aconstNull X0.here hx rfl (hb hby d4_5) hr) ?_
  have zz240 : n0 ≤ h0.size := by omega
  refine gSpecialN Gl.cl (y := y_8) (b := x) (argsL := [(.ref b), (.int (0 : Int32)), (.int (Int32.ofNat cs.length)), .null]) (rest := []) (mc := 2) (ms := 12) X0 hx hZ hown rfl (mvT hZ (tw hw 23 rfl)) (mvT hZ (tw hw 24 rfl)) (mvT hZ (tw hw 26 rfl)) (by decide) (backOf (W := 0) (inwL l Z a0 hw [] x b ck cs G1 h0 n0 zz240 q0 (by assumption) q2 q3 q4 q5 (by omega) q7 q8 q9 q10 (by assumption) (by assumption) (by assumption)) hZ (tw hw 26 rfl) (tw hw 18 rfl) (by decide) (by decide)) rfl (by rw [hml]; rfl) (lenOf pd_7 rfl) rfl (by exact Nat.le_of_eq rfl) (hb hby d4_6) rfl e0 (by decide) (by decide) ?_
  intro v240 T240 Lc240 hQ240 X240
  obtain ⟨t_240, kb_240, cd_240, N2_240, vs_240, rfl, Nq240, K240, f240_0, f240_1, f240_2, f240_3, f240_4, p240_cod⟩ := hQ240
  have z241 : h0.size ≤ T240.heap.size := K240.1
  have N240 := Fr.app N0 Nq240
  have lt242 := own_alt f240_0.lt
  have lt243 := own_alt f240_1.lt
  have lt244 := own_alt f240_2.lt
  have lt245 := own_alt f240_3.lt
  obtain ⟨fs, hr, hrun, hended, hW, hsame⟩ := X240.leave (v := none) (fun _ => rfl)
  refine ⟨_, _, X240.returnOut hx Bd.returns (hb hby d4_9) hr, hrun, hended, _, _, rfl, ?_, ⟨⟨_, rfl⟩, hW, hsame.mono (by decide) (by decide)⟩⟩
  show QinvL Z x b ck cs G1 h0 n0 _ T240.heap _
  exact ⟨t_240, kb_240, cd_240, N2_240, vs_240, rfl, N240, ((Keep.refl h0 [x]).trans K240 (allS (P := fun x_ => x_ ∈ ([x] : List Addr) ∨ h0.size ≤ x_) (Or.inl (by simp)) all0)), f240_0, f240_1, f240_2, f240_3, (by omega), (by first | rfl | assumption)⟩
def Qnmc (Z : State) (x : Int32) (h0 : Heap) (n0 : Nat) (v : Option Value) (h : Heap) (L : List Loc) : Prop := ∃ (k : Nat), v = some (.int (Int32.ofNat k)) ∧ Fr n0 L ∧ h = h0 ∧ (NmK k)
theorem pn_2 : plainName "com/example/even_counter/evencounter/CounterIdCompareToPinLaw" = true := by first | (simp [plainName, overriddenIn]; done) | decide +kernel
theorem ef_nmc (m : MethodId) (x0 : Int32) : entryFrame m #[(.int x0)] 2 = mkF m 0 #[sI x0, sU] [] := by first | (simp [entryFrame, mkF, argsToLocals, Value.category]; done) | rfl
theorem d1_0 : decode method_2_code 0 = .ok (.iload_n 0, 1) := by decide +kernel
theorem d1_1 : decode method_2_code 1 = .ok (.bipush 127, 2) := by decide +kernel
theorem d1_3 : decode method_2_code 3 = .ok (.iand, 1) := by decide +kernel
theorem d1_4 : decode method_2_code 4 = .ok (.bipush 65, 2) := by decide +kernel
theorem d1_6 : decode method_2_code 6 = .ok (.irem, 1) := by decide +kernel
theorem d1_7 : decode method_2_code 7 = .ok (.istore_n 1, 1) := by decide +kernel
theorem d1_8 : decode method_2_code 8 = .ok (.iload_n 1, 1) := by decide +kernel
theorem d1_9 : decode method_2_code 9 = .ok (.iconst 2, 1) := by decide +kernel
theorem d1_10 : decode method_2_code 10 = .ok (.if_icmp .ge 9, 3) := by decide +kernel
theorem d1_13 : decode method_2_code 13 = .ok (.bipush 45, 2) := by decide +kernel
theorem d1_15 : decode method_2_code 15 = .ok (.iload_n 1, 1) := by decide +kernel
theorem d1_16 : decode method_2_code 16 = .ok (.iadd, 1) := by decide +kernel
theorem d1_17 : decode method_2_code 17 = .ok (.i2c, 1) := by decide +kernel
theorem d1_18 : decode method_2_code 18 = .ok (.ireturn, 1) := by decide +kernel
theorem d1_19 : decode method_2_code 19 = .ok (.iload_n 1, 1) := by decide +kernel
theorem d1_20 : decode method_2_code 20 = .ok (.bipush 12, 2) := by decide +kernel
theorem d1_22 : decode method_2_code 22 = .ok (.if_icmp .ge 11, 3) := by decide +kernel
theorem d1_25 : decode method_2_code 25 = .ok (.bipush 48, 2) := by decide +kernel
theorem d1_27 : decode method_2_code 27 = .ok (.iload_n 1, 1) := by decide +kernel
theorem d1_28 : decode method_2_code 28 = .ok (.iadd, 1) := by decide +kernel
theorem d1_29 : decode method_2_code 29 = .ok (.iconst 2, 1) := by decide +kernel
theorem d1_30 : decode method_2_code 30 = .ok (.isub, 1) := by decide +kernel
theorem d1_31 : decode method_2_code 31 = .ok (.i2c, 1) := by decide +kernel
theorem d1_32 : decode method_2_code 32 = .ok (.ireturn, 1) := by decide +kernel
theorem d1_33 : decode method_2_code 33 = .ok (.iload_n 1, 1) := by decide +kernel
theorem d1_34 : decode method_2_code 34 = .ok (.bipush 38, 2) := by decide +kernel
theorem d1_36 : decode method_2_code 36 = .ok (.if_icmp .ge 12, 3) := by decide +kernel
theorem d1_39 : decode method_2_code 39 = .ok (.bipush 65, 2) := by decide +kernel
theorem d1_41 : decode method_2_code 41 = .ok (.iload_n 1, 1) := by decide +kernel
theorem d1_42 : decode method_2_code 42 = .ok (.iadd, 1) := by decide +kernel
theorem d1_43 : decode method_2_code 43 = .ok (.bipush 12, 2) := by decide +kernel
theorem d1_45 : decode method_2_code 45 = .ok (.isub, 1) := by decide +kernel
theorem d1_46 : decode method_2_code 46 = .ok (.i2c, 1) := by decide +kernel
theorem d1_47 : decode method_2_code 47 = .ok (.ireturn, 1) := by decide +kernel
theorem d1_48 : decode method_2_code 48 = .ok (.iload_n 1, 1) := by decide +kernel
theorem d1_49 : decode method_2_code 49 = .ok (.bipush 38, 2) := by decide +kernel
theorem d1_51 : decode method_2_code 51 = .ok (.if_icmp .ne 6, 3) := by decide +kernel
theorem d1_54 : decode method_2_code 54 = .ok (.bipush 95, 2) := by decide +kernel
theorem d1_56 : decode method_2_code 56 = .ok (.ireturn, 1) := by decide +kernel
theorem d1_57 : decode method_2_code 57 = .ok (.bipush 97, 2) := by decide +kernel
theorem d1_59 : decode method_2_code 59 = .ok (.iload_n 1, 1) := by decide +kernel
theorem d1_60 : decode method_2_code 60 = .ok (.iadd, 1) := by decide +kernel
theorem d1_61 : decode method_2_code 61 = .ok (.bipush 39, 2) := by decide +kernel
theorem d1_63 : decode method_2_code 63 = .ok (.isub, 1) := by decide +kernel
theorem d1_64 : decode method_2_code 64 = .ok (.i2c, 1) := by decide +kernel
theorem d1_65 : decode method_2_code 65 = .ok (.ireturn, 1) := by decide +kernel
set_option maxRecDepth 65536 in
set_option maxHeartbeats 40000000 in
theorem nmc (l : Launch) (Z : State) (a0 : Array Value) (hw : ∀ d ∈ tables_1, d.before a0 Z = true) (ws : List Jvm.Cond) (x : Int32) (h0 : Heap) (n0 : Nat) (Z0 : n0 ≤ h0.size) :
    MetFree l y_10 (head1 (Jvm.Cond.code y_10 method_2_code 2 (some .char) :: ws) r_m0) (fun a_ U_ => a_ = #[(.int x)] ∧ Z.Warmed39 U_.vm ∧ U_.heap = h0) (fun _ _ _ _ _ => True) (fun _ U_ o_ V_ => ∃ v_ L_, o_ = .returned v_ ∧ Qnmc Z x h0 n0 v_ V_.heap L_ ∧ FrameEnd U_ o_ V_ L_ r_m0.cells r_m0.slots) := by
  refine MetFree.of_bodySF (plainFor_of_name pn_2) hisR ?_
  intro p e s m args below meth c s₁ Bd hml0 hP hK
  obtain ⟨rfl, hZ, hh⟩ := hP
  have hx := Bd.exec
  have hby := Bd.bytes
  have hml : c.maxLocals = 2 := hml0
  have hown : s.vm.findClass "com/example/even_counter/evencounter/CounterIdCompareToPinLaw" = some m.cls := findClass_of_methodNamed Bd.named
  have hnm := (name_of_methodNamed Bd.named Bd.method).1
  have X0 : Stand p l e r_m0 s m #[(.int x)] below meth c s₁ [] 0 0 := Stand.of_body Bd
  have e0 : s₁.heap = h0 := by rw [← hh, Bd.state]; rfl
  have N0 := Fr.nil n0
  refine Gl.go (A := s₁.setTop (entryFrame m #[(.int x)] 2)) (P := fun o_ U_ => ∃ v_ L_, o_ = .returned v_ ∧ Qnmc Z x h0 n0 v_ U_.heap L_ ∧ FrameEnd s o_ U_ L_ r_m0.cells r_m0.slots) (fun t_ k_ => castTop (ef_nmc m x) k_) ?_
  show Gl p.tables e below _ (s₁.setTop (mkF m 0 #[sI x, sU] []))
  refine Gl.go (fun _ hr => zXS_iloadN X0.here hx rfl (hb hby d1_0) rfl (zXS_bipush X0.here hx rfl (hb hby d1_1) (zXS_iand X0.here hx rfl (hb hby d1_3) rfl (zXS_bipush X0.here hx rfl (hb hby d1_4) (zRW_iremM X0 hx rfl (hb hby d1_6) rfl (by decide) hr))))) ?_
  show Gl p.tables e below _ (s₁.setTop (mkF m 7 #[sI x, sU] [(.int ((x &&& (127 : Int32)) % (65 : Int32)))]))
  obtain ⟨iF, hiF⟩ := own_m65 x
  rw [hiF]
  show Gl p.tables e below _ (s₁.setTop (mkF m 7 #[sI x, sU] [(.int (Int32.ofNat iF.val))]))
  refine Gl.go (fun _ hr => zXS_istoreN X0.here hx rfl (hb hby d1_7) rfl (l' := #[sI x, sI (Int32.ofNat iF.val)]) rfl (zXS_iloadN X0.here hx rfl (hb hby d1_8) rfl (zXS_iconst X0.here hx rfl (hb hby d1_9) hr))) ?_
  by_cases hc246 : (Int32.ofNat iF.val) < (2 : Int32)
  · refine Gl.go (fun _ hr => zXS_icmpNo X0.here hx rfl (hb hby d1_10) rfl (XT.ii_ge_f hc246) (zXS_bipush X0.here hx rfl (hb hby d1_13) (zXS_iloadN X0.here hx rfl (hb hby d1_15) rfl (zXS_iadd X0.here hx rfl (hb hby d1_16) rfl (zXT_i2c X0.here hx rfl (hb hby d1_17) rfl hr))))) ?_
    obtain ⟨fs, hr, hrun, hended, hW, hsame⟩ := X0.leave (v := some (.int (nar .char (((45 : Int32) + (Int32.ofNat iF.val)).toUInt32.toUInt16.toUInt32.toInt32)))) (fun h => by rw [Bd.returns] at h; cases h)
    refine ⟨_, _, retN X0 hx (t := .char) Bd.returns (by simp) (hb hby d1_18) hr, hrun, hended, _, _, rfl, ?_, ⟨⟨_, rfl⟩, hW, hsame.mono (by decide) (by decide)⟩⟩
    show Qnmc Z x h0 n0 _ s₁.heap _
    rw [e0]
    exact ⟨(45 + iF.val), (own_some (own_nA iF hc246).1), N0, rfl, (own_nA iF hc246).2⟩
  · refine Gl.go (fun _ hr => zXS_icmpYes X0.here hx rfl (pc0 := 10) (pc' := 19) rfl (hb hby d1_10) rfl (XT.ii_ge_t hc246) (by decide) (by decide) (zXS_iloadN X0.here hx rfl (hb hby d1_19) rfl (zXS_bipush X0.here hx rfl (hb hby d1_20) hr))) ?_
    by_cases hc247 : (Int32.ofNat iF.val) < (12 : Int32)
    · refine Gl.go (fun _ hr => zXS_icmpNo X0.here hx rfl (hb hby d1_22) rfl (XT.ii_ge_f hc247) (zXS_bipush X0.here hx rfl (hb hby d1_25) (zXS_iloadN X0.here hx rfl (hb hby d1_27) rfl (zXS_iadd X0.here hx rfl (hb hby d1_28) rfl (zXS_iconst X0.here hx rfl (hb hby d1_29) (zXS_isub X0.here hx rfl (hb hby d1_30) rfl (zXT_i2c X0.here hx rfl (hb hby d1_31) rfl hr))))))) ?_
      obtain ⟨fs, hr, hrun, hended, hW, hsame⟩ := X0.leave (v := some (.int (nar .char ((((48 : Int32) + (Int32.ofNat iF.val)) - (2 : Int32)).toUInt32.toUInt16.toUInt32.toInt32)))) (fun h => by rw [Bd.returns] at h; cases h)
      refine ⟨_, _, retN X0 hx (t := .char) Bd.returns (by simp) (hb hby d1_32) hr, hrun, hended, _, _, rfl, ?_, ⟨⟨_, rfl⟩, hW, hsame.mono (by decide) (by decide)⟩⟩
      show Qnmc Z x h0 n0 _ s₁.heap _
      rw [e0]
      exact ⟨(46 + iF.val), (own_some (own_nB iF hc246 hc247).1), N0, rfl, (own_nB iF hc246 hc247).2⟩
    · refine Gl.go (fun _ hr => zXS_icmpYes X0.here hx rfl (pc0 := 22) (pc' := 33) rfl (hb hby d1_22) rfl (XT.ii_ge_t hc247) (by decide) (by decide) (zXS_iloadN X0.here hx rfl (hb hby d1_33) rfl (zXS_bipush X0.here hx rfl (hb hby d1_34) hr))) ?_
      by_cases hc248 : (Int32.ofNat iF.val) < (38 : Int32)
      · refine Gl.go (fun _ hr => zXS_icmpNo X0.here hx rfl (hb hby d1_36) rfl (XT.ii_ge_f hc248) (zXS_bipush X0.here hx rfl (hb hby d1_39) (zXS_iloadN X0.here hx rfl (hb hby d1_41) rfl (zXS_iadd X0.here hx rfl (hb hby d1_42) rfl (zXS_bipush X0.here hx rfl (hb hby d1_43) (zXS_isub X0.here hx rfl (hb hby d1_45) rfl (zXT_i2c X0.here hx rfl (hb hby d1_46) rfl hr))))))) ?_
        obtain ⟨fs, hr, hrun, hended, hW, hsame⟩ := X0.leave (v := some (.int (nar .char ((((65 : Int32) + (Int32.ofNat iF.val)) - (12 : Int32)).toUInt32.toUInt16.toUInt32.toInt32)))) (fun h => by rw [Bd.returns] at h; cases h)
        refine ⟨_, _, retN X0 hx (t := .char) Bd.returns (by simp) (hb hby d1_47) hr, hrun, hended, _, _, rfl, ?_, ⟨⟨_, rfl⟩, hW, hsame.mono (by decide) (by decide)⟩⟩
        show Qnmc Z x h0 n0 _ s₁.heap _
        rw [e0]
        exact ⟨(53 + iF.val), (own_some (own_nC iF hc247 hc248).1), N0, rfl, (own_nC iF hc247 hc248).2⟩
      · refine Gl.go (fun _ hr => zXS_icmpYes X0.here hx rfl (pc0 := 36) (pc' := 48) rfl (hb hby d1_36) rfl (XT.ii_ge_t hc248) (by decide) (by decide) (zXS_iloadN X0.here hx rfl (hb hby d1_48) rfl (zXS_bipush X0.here hx rfl (hb hby d1_49) hr))) ?_
        by_cases hc249 : (Int32.ofNat iF.val) = (38 : Int32)
        · refine Gl.go (fun _ hr => zXS_icmpNo X0.here hx rfl (hb hby d1_51) rfl (XT.ii_ne_f hc249) (zXS_bipush X0.here hx rfl (hb hby d1_54) hr)) ?_
          obtain ⟨fs, hr, hrun, hended, hW, hsame⟩ := X0.leave (v := some (.int (95 : Int32))) (fun h => by rw [Bd.returns] at h; cases h)
          refine ⟨_, _, retN X0 hx (t := .char) Bd.returns (by simp) (hb hby d1_56) hr, hrun, hended, _, _, rfl, ?_, ⟨⟨_, rfl⟩, hW, hsame.mono (by decide) (by decide)⟩⟩
          show Qnmc Z x h0 n0 _ s₁.heap _
          rw [e0]
          exact ⟨95, rfl, N0, rfl, (by decide)⟩
        · refine Gl.go (fun _ hr => zXS_icmpYes X0.here hx rfl (pc0 := 51) (pc' := 57) rfl (hb hby d1_51) rfl (XT.ii_ne_t hc249) (by decide) (by decide) (zXS_bipush X0.here hx rfl (hb hby d1_57) (zXS_iloadN X0.here hx rfl (hb hby d1_59) rfl (zXS_iadd X0.here hx rfl (hb hby d1_60) rfl (zXS_bipush X0.here hx rfl (hb hby d1_61) (zXS_isub X0.here hx rfl (hb hby d1_63) rfl (zXT_i2c X0.here hx rfl (hb hby d1_64) rfl hr))))))) ?_
          obtain ⟨fs, hr, hrun, hended, hW, hsame⟩ := X0.leave (v := some (.int (nar .char ((((97 : Int32) + (Int32.ofNat iF.val)) - (39 : Int32)).toUInt32.toUInt16.toUInt32.toInt32)))) (fun h => by rw [Bd.returns] at h; cases h)
          refine ⟨_, _, retN X0 hx (t := .char) Bd.returns (by simp) (hb hby d1_65) hr, hrun, hended, _, _, rfl, ?_, ⟨⟨_, rfl⟩, hW, hsame.mono (by decide) (by decide)⟩⟩
          show Qnmc Z x h0 n0 _ s₁.heap _
          rw [e0]
          exact ⟨(58 + iF.val), (own_some (own_nD iF hc248 hc249).1), N0, rfl, (own_nD iF hc248 hc249).2⟩
def Qkcp (Z : State) (x : Int32) (h0 : Heap) (n0 : Nat) (v : Option Value) (h : Heap) (L : List Loc) : Prop := ∃ (k : Nat), v = some (.int (Int32.ofNat k)) ∧ Fr n0 L ∧ h = h0 ∧ (KeyC k)
theorem ef_kcp (m : MethodId) (x0 : Int32) : entryFrame m #[(.int x0)] 4 = mkF m 0 #[sI x0, sU, sU, sU] [] := by first | (simp [entryFrame, mkF, argsToLocals, Value.category]; done) | rfl
theorem d2_0 : decode method_3_code 0 = .ok (.iload_n 0, 1) := by decide +kernel
theorem d2_1 : decode method_3_code 1 = .ok (.iconst 2, 1) := by decide +kernel
theorem d2_2 : decode method_3_code 2 = .ok (.iushr, 1) := by decide +kernel
theorem d2_3 : decode method_3_code 3 = .ok (.istore_n 1, 1) := by decide +kernel
theorem d2_4 : decode method_3_code 4 = .ok (.iload_n 0, 1) := by decide +kernel
theorem d2_5 : decode method_3_code 5 = .ok (.iconst 3, 1) := by decide +kernel
theorem d2_6 : decode method_3_code 6 = .ok (.iand, 1) := by decide +kernel
theorem d2_7 : decode method_3_code 7 = .ok (.istore_n 2, 1) := by decide +kernel
theorem d2_8 : decode method_3_code 8 = .ok (.iload_n 2, 1) := by decide +kernel
theorem d2_9 : decode method_3_code 9 = .ok (.ifCond .ne 10, 3) := by decide +kernel
theorem d2_12 : decode method_3_code 12 = .ok (.iconst 1, 1) := by decide +kernel
theorem d2_13 : decode method_3_code 13 = .ok (.iload_n 1, 1) := by decide +kernel
theorem d2_14 : decode method_3_code 14 = .ok (.ldc 7, 2) := by decide +kernel
theorem d2_16 : decode method_3_code 16 = .ok (.irem, 1) := by decide +kernel
theorem d2_17 : decode method_3_code 17 = .ok (.iadd, 1) := by decide +kernel
theorem d2_18 : decode method_3_code 18 = .ok (.ireturn, 1) := by decide +kernel
theorem d2_19 : decode method_3_code 19 = .ok (.iload_n 2, 1) := by decide +kernel
theorem d2_20 : decode method_3_code 20 = .ok (.iconst 1, 1) := by decide +kernel
theorem d2_21 : decode method_3_code 21 = .ok (.if_icmp .ne 12, 3) := by decide +kernel
theorem d2_24 : decode method_3_code 24 = .ok (.ldc 8, 2) := by decide +kernel
theorem d2_26 : decode method_3_code 26 = .ok (.iload_n 1, 1) := by decide +kernel
theorem d2_27 : decode method_3_code 27 = .ok (.sipush 8192, 3) := by decide +kernel
theorem d2_30 : decode method_3_code 30 = .ok (.irem, 1) := by decide +kernel
theorem d2_31 : decode method_3_code 31 = .ok (.iadd, 1) := by decide +kernel
theorem d2_32 : decode method_3_code 32 = .ok (.ireturn, 1) := by decide +kernel
theorem d2_33 : decode method_3_code 33 = .ok (.iload_n 2, 1) := by decide +kernel
theorem d2_34 : decode method_3_code 34 = .ok (.iconst 2, 1) := by decide +kernel
theorem d2_35 : decode method_3_code 35 = .ok (.if_icmp .ne 11, 3) := by decide +kernel
theorem d2_38 : decode method_3_code 38 = .ok (.ldc 9, 2) := by decide +kernel
theorem d2_40 : decode method_3_code 40 = .ok (.iload_n 1, 1) := by decide +kernel
theorem d2_41 : decode method_3_code 41 = .ok (.ldc 10, 2) := by decide +kernel
theorem d2_43 : decode method_3_code 43 = .ok (.irem, 1) := by decide +kernel
theorem d2_44 : decode method_3_code 44 = .ok (.iadd, 1) := by decide +kernel
theorem d2_45 : decode method_3_code 45 = .ok (.ireturn, 1) := by decide +kernel
theorem d2_46 : decode method_3_code 46 = .ok (.iload_n 1, 1) := by decide +kernel
theorem d2_47 : decode method_3_code 47 = .ok (.iconst 3, 1) := by decide +kernel
theorem d2_48 : decode method_3_code 48 = .ok (.iand, 1) := by decide +kernel
theorem d2_49 : decode method_3_code 49 = .ok (.istore_n 3, 1) := by decide +kernel
theorem d2_50 : decode method_3_code 50 = .ok (.iload_n 3, 1) := by decide +kernel
theorem d2_51 : decode method_3_code 51 = .ok (.ifCond .ne 6, 3) := by decide +kernel
theorem d2_54 : decode method_3_code 54 = .ok (.bipush 97, 2) := by decide +kernel
theorem d2_56 : decode method_3_code 56 = .ok (.ireturn, 1) := by decide +kernel
theorem d2_57 : decode method_3_code 57 = .ok (.iload_n 3, 1) := by decide +kernel
theorem d2_58 : decode method_3_code 58 = .ok (.iconst 1, 1) := by decide +kernel
theorem d2_59 : decode method_3_code 59 = .ok (.if_icmp .ne 6, 3) := by decide +kernel
theorem d2_62 : decode method_3_code 62 = .ok (.ldc 11, 2) := by decide +kernel
theorem d2_64 : decode method_3_code 64 = .ok (.ireturn, 1) := by decide +kernel
theorem d2_65 : decode method_3_code 65 = .ok (.iload_n 3, 1) := by decide +kernel
theorem d2_66 : decode method_3_code 66 = .ok (.iconst 2, 1) := by decide +kernel
theorem d2_67 : decode method_3_code 67 = .ok (.if_icmp .ne 6, 3) := by decide +kernel
theorem d2_70 : decode method_3_code 70 = .ok (.ldc 9, 2) := by decide +kernel
theorem d2_72 : decode method_3_code 72 = .ok (.ireturn, 1) := by decide +kernel
theorem d2_73 : decode method_3_code 73 = .ok (.ldc 12, 2) := by decide +kernel
theorem d2_75 : decode method_3_code 75 = .ok (.ireturn, 1) := by decide +kernel
set_option maxRecDepth 65536 in
set_option maxHeartbeats 40000000 in
theorem kcp (l : Launch) (Z : State) (a0 : Array Value) (hw : ∀ d ∈ tables_1, d.before a0 Z = true) (ws : List Jvm.Cond) (x : Int32) (h0 : Heap) (n0 : Nat) (Z0 : n0 ≤ h0.size) :
    MetFree l y_11 (head1 (Jvm.Cond.code y_11 method_3_code 4 (some .int) :: ws) r_m0) (fun a_ U_ => a_ = #[(.int x)] ∧ Z.Warmed39 U_.vm ∧ U_.heap = h0) (fun _ _ _ _ _ => True) (fun _ U_ o_ V_ => ∃ v_ L_, o_ = .returned v_ ∧ Qkcp Z x h0 n0 v_ V_.heap L_ ∧ FrameEnd U_ o_ V_ L_ r_m0.cells r_m0.slots) := by
  refine MetFree.of_bodySF (plainFor_of_name pn_2) hisR ?_
  intro p e s m args below meth c s₁ Bd hml0 hP hK
  obtain ⟨rfl, hZ, hh⟩ := hP
  have hx := Bd.exec
  have hby := Bd.bytes
  have hml : c.maxLocals = 4 := hml0
  have hown : s.vm.findClass "com/example/even_counter/evencounter/CounterIdCompareToPinLaw" = some m.cls := findClass_of_methodNamed Bd.named
  have hnm := (name_of_methodNamed Bd.named Bd.method).1
  have X0 : Stand p l e r_m0 s m #[(.int x)] below meth c s₁ [] 0 0 := Stand.of_body Bd
  have e0 : s₁.heap = h0 := by rw [← hh, Bd.state]; rfl
  have N0 := Fr.nil n0
  refine Gl.go (A := s₁.setTop (entryFrame m #[(.int x)] 4)) (P := fun o_ U_ => ∃ v_ L_, o_ = .returned v_ ∧ Qkcp Z x h0 n0 v_ U_.heap L_ ∧ FrameEnd s o_ U_ L_ r_m0.cells r_m0.slots) (fun t_ k_ => castTop (ef_kcp m x) k_) ?_
  show Gl p.tables e below _ (s₁.setTop (mkF m 0 #[sI x, sU, sU, sU] []))
  refine Gl.go (fun _ hr => zXS_iloadN X0.here hx rfl (hb hby d2_0) rfl (zXS_iconst X0.here hx rfl (hb hby d2_1) (zXT_iushr X0.here hx rfl (hb hby d2_2) rfl hr))) ?_
  show Gl p.tables e below _ (s₁.setTop (mkF m 3 #[sI x, sU, sU, sU] [(.int (XT.ushr x (2 : Int32)))]))
  obtain ⟨vv, hvv, hv30⟩ := own_ushr2 x
  rw [hvv]
  show Gl p.tables e below _ (s₁.setTop (mkF m 3 #[sI x, sU, sU, sU] [(.int (Int32.ofNat vv))]))
  refine Gl.go (fun _ hr => zXS_istoreN X0.here hx rfl (hb hby d2_3) rfl (l' := #[sI x, sI (Int32.ofNat vv), sU, sU]) rfl (zXS_iloadN X0.here hx rfl (hb hby d2_4) rfl (zXS_iconst X0.here hx rfl (hb hby d2_5) (zXS_iand X0.here hx rfl (hb hby d2_6) rfl (zXS_istoreN X0.here hx rfl (hb hby d2_7) rfl (l' := #[sI x, sI (Int32.ofNat vv), sI (x &&& (3 : Int32)), sU]) rfl (zXS_iloadN X0.here hx rfl (hb hby d2_8) rfl hr)))))) ?_
  by_cases hc250 : (x &&& (3 : Int32)) = (0 : Int32)
  · refine Gl.go (fun _ hr => zXS_ifNo X0.here hx rfl (hb hby d2_9) rfl (XT.i0_ne_f hc250) (zXS_iconst X0.here hx rfl (hb hby d2_12) (zXS_iloadN X0.here hx rfl (hb hby d2_13) rfl hr))) ?_
    refine Gl.go (X0.ldcInt hx hown (mvT hZ (tw hw 8 rfl)) rfl (hb hby d2_14)) ?_
    refine Gl.go (fun _ hr => zRW_iremM X0 hx rfl (hb hby d2_16) rfl (by decide) hr) ?_
    show Gl p.tables e below _ (s₁.setTop (mkF m 17 #[sI x, sI (Int32.ofNat vv), sI (x &&& (3 : Int32)), sU] [(.int ((Int32.ofNat vv) % (55295 : Int32))), (.int (1 : Int32))]))
    rw [(own_remN (n := 55295) rfl (by decide) (by omega))]
    show Gl p.tables e below _ (s₁.setTop (mkF m 17 #[sI x, sI (Int32.ofNat vv), sI (x &&& (3 : Int32)), sU] [(.int (Int32.ofNat (vv % 55295))), (.int (1 : Int32))]))
    refine Gl.go (fun _ hr => zXS_iadd X0.here hx rfl (hb hby d2_17) rfl hr) ?_
    obtain ⟨fs, hr, hrun, hended, hW, hsame⟩ := X0.leave (v := some (.int ((1 : Int32) + (Int32.ofNat (vv % 55295))))) (fun h => by rw [Bd.returns] at h; cases h)
    refine ⟨_, _, retOut X0 hx Bd.returns rfl (Or.inl ⟨rfl, Or.inl rfl, _, rfl⟩) (hb hby d2_18) hr, hrun, hended, _, _, rfl, ?_, ⟨⟨_, rfl⟩, hW, hsame.mono (by decide) (by decide)⟩⟩
    show Qkcp Z x h0 n0 _ s₁.heap _
    rw [e0]
    exact ⟨(1 + vv % 55295), (own_some (own_add32 1 (vv % 55295))), N0, rfl, ⟨⟨by omega, by omega⟩, by omega⟩⟩
  · refine Gl.go (fun _ hr => zXS_ifYes X0.here hx rfl (pc0 := 9) (pc' := 19) rfl (hb hby d2_9) rfl (XT.i0_ne_t hc250) (by decide) (by decide) (zXS_iloadN X0.here hx rfl (hb hby d2_19) rfl (zXS_iconst X0.here hx rfl (hb hby d2_20) hr))) ?_
    by_cases hc251 : (x &&& (3 : Int32)) = (1 : Int32)
    · refine Gl.go (fun _ hr => zXS_icmpNo X0.here hx rfl (hb hby d2_21) rfl (XT.ii_ne_f hc251) hr) ?_
      refine Gl.go (X0.ldcInt hx hown (mvT hZ (tw hw 7 rfl)) rfl (hb hby d2_24)) ?_
      refine Gl.go (fun _ hr => zXS_iloadN X0.here hx rfl (hb hby d2_26) rfl (zXS_sipush X0.here hx rfl (hb hby d2_27) (zRW_iremM X0 hx rfl (hb hby d2_30) rfl (by decide) hr))) ?_
      show Gl p.tables e below _ (s₁.setTop (mkF m 31 #[sI x, sI (Int32.ofNat vv), sI (x &&& (3 : Int32)), sU] [(.int ((Int32.ofNat vv) % (8192 : Int32))), (.int (57344 : Int32))]))
      rw [(own_remN (n := 8192) rfl (by decide) (by omega))]
      show Gl p.tables e below _ (s₁.setTop (mkF m 31 #[sI x, sI (Int32.ofNat vv), sI (x &&& (3 : Int32)), sU] [(.int (Int32.ofNat (vv % 8192))), (.int (57344 : Int32))]))
      refine Gl.go (fun _ hr => zXS_iadd X0.here hx rfl (hb hby d2_31) rfl hr) ?_
      obtain ⟨fs, hr, hrun, hended, hW, hsame⟩ := X0.leave (v := some (.int ((57344 : Int32) + (Int32.ofNat (vv % 8192))))) (fun h => by rw [Bd.returns] at h; cases h)
      refine ⟨_, _, retOut X0 hx Bd.returns rfl (Or.inl ⟨rfl, Or.inl rfl, _, rfl⟩) (hb hby d2_32) hr, hrun, hended, _, _, rfl, ?_, ⟨⟨_, rfl⟩, hW, hsame.mono (by decide) (by decide)⟩⟩
      show Qkcp Z x h0 n0 _ s₁.heap _
      rw [e0]
      exact ⟨(57344 + vv % 8192), (own_some (own_add32 57344 (vv % 8192))), N0, rfl, ⟨⟨by omega, by omega⟩, by omega⟩⟩
    · refine Gl.go (fun _ hr => zXS_icmpYes X0.here hx rfl (pc0 := 21) (pc' := 33) rfl (hb hby d2_21) rfl (XT.ii_ne_t hc251) (by decide) (by decide) (zXS_iloadN X0.here hx rfl (hb hby d2_33) rfl (zXS_iconst X0.here hx rfl (hb hby d2_34) hr))) ?_
      by_cases hc252 : (x &&& (3 : Int32)) = (2 : Int32)
      · refine Gl.go (fun _ hr => zXS_icmpNo X0.here hx rfl (hb hby d2_35) rfl (XT.ii_ne_f hc252) hr) ?_
        refine Gl.go (X0.ldcInt hx hown (mvT hZ (tw hw 49 rfl)) rfl (hb hby d2_38)) ?_
        refine Gl.go (fun _ hr => zXS_iloadN X0.here hx rfl (hb hby d2_40) rfl hr) ?_
        refine Gl.go (X0.ldcInt hx hown (mvT hZ (tw hw 181 rfl)) rfl (hb hby d2_41)) ?_
        refine Gl.go (fun _ hr => zRW_iremM X0 hx rfl (hb hby d2_43) rfl (by decide) hr) ?_
        show Gl p.tables e below _ (s₁.setTop (mkF m 44 #[sI x, sI (Int32.ofNat vv), sI (x &&& (3 : Int32)), sU] [(.int ((Int32.ofNat vv) % (1048576 : Int32))), (.int (65536 : Int32))]))
        rw [(own_remN (n := 1048576) rfl (by decide) (by omega))]
        show Gl p.tables e below _ (s₁.setTop (mkF m 44 #[sI x, sI (Int32.ofNat vv), sI (x &&& (3 : Int32)), sU] [(.int (Int32.ofNat (vv % 1048576))), (.int (65536 : Int32))]))
        refine Gl.go (fun _ hr => zXS_iadd X0.here hx rfl (hb hby d2_44) rfl hr) ?_
        obtain ⟨fs, hr, hrun, hended, hW, hsame⟩ := X0.leave (v := some (.int ((65536 : Int32) + (Int32.ofNat (vv % 1048576))))) (fun h => by rw [Bd.returns] at h; cases h)
        refine ⟨_, _, retOut X0 hx Bd.returns rfl (Or.inl ⟨rfl, Or.inl rfl, _, rfl⟩) (hb hby d2_45) hr, hrun, hended, _, _, rfl, ?_, ⟨⟨_, rfl⟩, hW, hsame.mono (by decide) (by decide)⟩⟩
        show Qkcp Z x h0 n0 _ s₁.heap _
        rw [e0]
        exact ⟨(65536 + vv % 1048576), (own_some (own_add32 65536 (vv % 1048576))), N0, rfl, ⟨⟨by omega, by omega⟩, by omega⟩⟩
      · refine Gl.go (fun _ hr => zXS_icmpYes X0.here hx rfl (pc0 := 35) (pc' := 46) rfl (hb hby d2_35) rfl (XT.ii_ne_t hc252) (by decide) (by decide) (zXS_iloadN X0.here hx rfl (hb hby d2_46) rfl (zXS_iconst X0.here hx rfl (hb hby d2_47) (zXS_iand X0.here hx rfl (hb hby d2_48) rfl (zXS_istoreN X0.here hx rfl (hb hby d2_49) rfl (l' := #[sI x, sI (Int32.ofNat vv), sI (x &&& (3 : Int32)), sI ((Int32.ofNat vv) &&& (3 : Int32))]) rfl (zXS_iloadN X0.here hx rfl (hb hby d2_50) rfl hr)))))) ?_
        by_cases hc253 : ((Int32.ofNat vv) &&& (3 : Int32)) = (0 : Int32)
        · refine Gl.go (fun _ hr => zXS_ifNo X0.here hx rfl (hb hby d2_51) rfl (XT.i0_ne_f hc253) (zXS_bipush X0.here hx rfl (hb hby d2_54) hr)) ?_
          obtain ⟨fs, hr, hrun, hended, hW, hsame⟩ := X0.leave (v := some (.int (97 : Int32))) (fun h => by rw [Bd.returns] at h; cases h)
          refine ⟨_, _, retOut X0 hx Bd.returns rfl (Or.inl ⟨rfl, Or.inl rfl, _, rfl⟩) (hb hby d2_56) hr, hrun, hended, _, _, rfl, ?_, ⟨⟨_, rfl⟩, hW, hsame.mono (by decide) (by decide)⟩⟩
          show Qkcp Z x h0 n0 _ s₁.heap _
          rw [e0]
          exact ⟨97, rfl, N0, rfl, (by decide)⟩
        · refine Gl.go (fun _ hr => zXS_ifYes X0.here hx rfl (pc0 := 51) (pc' := 57) rfl (hb hby d2_51) rfl (XT.i0_ne_t hc253) (by decide) (by decide) (zXS_iloadN X0.here hx rfl (hb hby d2_57) rfl (zXS_iconst X0.here hx rfl (hb hby d2_58) hr))) ?_
          by_cases hc254 : ((Int32.ofNat vv) &&& (3 : Int32)) = (1 : Int32)
          · refine Gl.go (fun _ hr => zXS_icmpNo X0.here hx rfl (hb hby d2_59) rfl (XT.ii_ne_f hc254) hr) ?_
            refine Gl.go (X0.ldcInt hx hown (mvT hZ (tw hw 9 rfl)) rfl (hb hby d2_62)) ?_
            obtain ⟨fs, hr, hrun, hended, hW, hsame⟩ := X0.leave (v := some (.int (65535 : Int32))) (fun h => by rw [Bd.returns] at h; cases h)
            refine ⟨_, _, retOut X0 hx Bd.returns rfl (Or.inl ⟨rfl, Or.inl rfl, _, rfl⟩) (hb hby d2_64) hr, hrun, hended, _, _, rfl, ?_, ⟨⟨_, rfl⟩, hW, hsame.mono (by decide) (by decide)⟩⟩
            show Qkcp Z x h0 n0 _ s₁.heap _
            rw [e0]
            exact ⟨65535, rfl, N0, rfl, (by decide)⟩
          · refine Gl.go (fun _ hr => zXS_icmpYes X0.here hx rfl (pc0 := 59) (pc' := 65) rfl (hb hby d2_59) rfl (XT.ii_ne_t hc254) (by decide) (by decide) (zXS_iloadN X0.here hx rfl (hb hby d2_65) rfl (zXS_iconst X0.here hx rfl (hb hby d2_66) hr))) ?_
            by_cases hc255 : ((Int32.ofNat vv) &&& (3 : Int32)) = (2 : Int32)
            · refine Gl.go (fun _ hr => zXS_icmpNo X0.here hx rfl (hb hby d2_67) rfl (XT.ii_ne_f hc255) hr) ?_
              refine Gl.go (X0.ldcInt hx hown (mvT hZ (tw hw 49 rfl)) rfl (hb hby d2_70)) ?_
              obtain ⟨fs, hr, hrun, hended, hW, hsame⟩ := X0.leave (v := some (.int (65536 : Int32))) (fun h => by rw [Bd.returns] at h; cases h)
              refine ⟨_, _, retOut X0 hx Bd.returns rfl (Or.inl ⟨rfl, Or.inl rfl, _, rfl⟩) (hb hby d2_72) hr, hrun, hended, _, _, rfl, ?_, ⟨⟨_, rfl⟩, hW, hsame.mono (by decide) (by decide)⟩⟩
              show Qkcp Z x h0 n0 _ s₁.heap _
              rw [e0]
              exact ⟨65536, rfl, N0, rfl, (by decide)⟩
            · refine Gl.go (fun _ hr => zXS_icmpYes X0.here hx rfl (pc0 := 67) (pc' := 73) rfl (hb hby d2_67) rfl (XT.ii_ne_t hc255) (by decide) (by decide) hr) ?_
              refine Gl.go (X0.ldcInt hx hown (mvT hZ (tw hw 195 rfl)) rfl (hb hby d2_73)) ?_
              obtain ⟨fs, hr, hrun, hended, hW, hsame⟩ := X0.leave (v := some (.int (1114111 : Int32))) (fun h => by rw [Bd.returns] at h; cases h)
              refine ⟨_, _, retOut X0 hx Bd.returns rfl (Or.inl ⟨rfl, Or.inl rfl, _, rfl⟩) (hb hby d2_75) hr, hrun, hended, _, _, rfl, ?_, ⟨⟨_, rfl⟩, hW, hsame.mono (by decide) (by decide)⟩⟩
              show Qkcp Z x h0 n0 _ s₁.heap _
              rw [e0]
              exact ⟨1114111, rfl, N0, rfl, (by decide)⟩
def Qhib (Z : State) (k : Nat) (h0 : Heap) (n0 : Nat) (v : Option Value) (h : Heap) (L : List Loc) : Prop := v = some (.int (Int32.ofNat k)) ∧ Fr n0 L ∧ h = h0
theorem ef_hib (m : MethodId) (x0 : Int32) : entryFrame m #[(.int x0)] 1 = mkF m 0 #[sI x0] [] := by first | (simp [entryFrame, mkF, argsToLocals, Value.category]; done) | rfl
theorem d11_0 : decode method_4_code 0 = .ok (.iload_n 0, 1) := by decide +kernel
theorem d11_1 : decode method_4_code 1 = .ok (.ldc 9, 2) := by decide +kernel
theorem d11_3 : decode method_4_code 3 = .ok (.if_icmp .ge 6, 3) := by decide +kernel
theorem d11_6 : decode method_4_code 6 = .ok (.iload_n 0, 1) := by decide +kernel
theorem d11_7 : decode method_4_code 7 = .ok (.i2c, 1) := by decide +kernel
theorem d11_8 : decode method_4_code 8 = .ok (.ireturn, 1) := by decide +kernel
set_option maxRecDepth 65536 in
set_option maxHeartbeats 40000000 in
theorem hib (l : Launch) (Z : State) (a0 : Array Value) (hw : ∀ d ∈ tables_1, d.before a0 Z = true) (ws : List Jvm.Cond) (k : Nat) (h0 : Heap) (n0 : Nat) (Z0 : n0 ≤ h0.size) (hk : k < 65536) :
    MetFree l y_12 (head1 (Jvm.Cond.code y_12 method_4_code 1 (some .char) :: ws) r_m0) (fun a_ U_ => a_ = #[(.int (Int32.ofNat k))] ∧ Z.Warmed39 U_.vm ∧ U_.heap = h0) (fun _ _ _ _ _ => True) (fun _ U_ o_ V_ => ∃ v_ L_, o_ = .returned v_ ∧ Qhib Z k h0 n0 v_ V_.heap L_ ∧ FrameEnd U_ o_ V_ L_ r_m0.cells r_m0.slots) := by
  refine MetFree.of_bodySF (plainFor_of_name pn_2) hisR ?_
  intro p e s m args below meth c s₁ Bd hml0 hP hK
  obtain ⟨rfl, hZ, hh⟩ := hP
  have hx := Bd.exec
  have hby := Bd.bytes
  have hml : c.maxLocals = 1 := hml0
  have hown : s.vm.findClass "com/example/even_counter/evencounter/CounterIdCompareToPinLaw" = some m.cls := findClass_of_methodNamed Bd.named
  have hnm := (name_of_methodNamed Bd.named Bd.method).1
  have X0 : Stand p l e r_m0 s m #[(.int (Int32.ofNat k))] below meth c s₁ [] 0 0 := Stand.of_body Bd
  have e0 : s₁.heap = h0 := by rw [← hh, Bd.state]; rfl
  have N0 := Fr.nil n0
  refine Gl.go (A := s₁.setTop (entryFrame m #[(.int (Int32.ofNat k))] 1)) (P := fun o_ U_ => ∃ v_ L_, o_ = .returned v_ ∧ Qhib Z k h0 n0 v_ U_.heap L_ ∧ FrameEnd s o_ U_ L_ r_m0.cells r_m0.slots) (fun t_ k_ => castTop (ef_hib m (Int32.ofNat k)) k_) ?_
  show Gl p.tables e below _ (s₁.setTop (mkF m 0 #[sI (Int32.ofNat k)] []))
  refine Gl.go (fun _ hr => zXS_iloadN X0.here hx rfl (hb hby d11_0) rfl hr) ?_
  refine Gl.go (X0.ldcInt hx hown (mvT hZ (tw hw 49 rfl)) rfl (hb hby d11_1)) ?_
  refine Gl.go (fun _ hr => zXS_icmpNo X0.here hx rfl (hb hby d11_3) rfl (XT.ii_ge_f (own_lt32 (b := 65536) (by decide) hk)) (zXS_iloadN X0.here hx rfl (hb hby d11_6) rfl (zXT_i2c X0.here hx rfl (hb hby d11_7) rfl hr))) ?_
  show Gl p.tables e below _ (s₁.setTop (mkF m 8 #[sI (Int32.ofNat k)] [(.int ((Int32.ofNat k).toUInt32.toUInt16.toUInt32.toInt32))]))
  rw [(own_i2cN hk)]
  show Gl p.tables e below _ (s₁.setTop (mkF m 8 #[sI (Int32.ofNat k)] [(.int (Int32.ofNat k))]))
  obtain ⟨fs, hr, hrun, hended, hW, hsame⟩ := X0.leave (v := some (.int (nar .char (Int32.ofNat k)))) (fun h => by rw [Bd.returns] at h; cases h)
  refine ⟨_, _, retN X0 hx (t := .char) Bd.returns (by simp) (hb hby d11_8) hr, hrun, hended, _, _, rfl, ?_, ⟨⟨_, rfl⟩, hW, hsame.mono (by decide) (by decide)⟩⟩
  show Qhib Z k h0 n0 _ s₁.heap _
  rw [e0]
  exact ⟨(own_some (own_nar_wid (own_widN hk))), N0, rfl⟩
def Qhis (Z : State) (k : Nat) (h0 : Heap) (n0 : Nat) (v : Option Value) (h : Heap) (L : List Loc) : Prop := v = some (.int (Int32.ofNat (hiN k))) ∧ Fr n0 L ∧ h = h0
theorem ef_his (m : MethodId) (x0 : Int32) : entryFrame m #[(.int x0)] 1 = mkF m 0 #[sI x0] [] := by first | (simp [entryFrame, mkF, argsToLocals, Value.category]; done) | rfl
theorem d11_9 : decode method_4_code 9 = .ok (.ldc 13, 2) := by decide +kernel
theorem d11_11 : decode method_4_code 11 = .ok (.iload_n 0, 1) := by decide +kernel
theorem d11_12 : decode method_4_code 12 = .ok (.ldc 9, 2) := by decide +kernel
theorem d11_14 : decode method_4_code 14 = .ok (.isub, 1) := by decide +kernel
theorem d11_15 : decode method_4_code 15 = .ok (.bipush 10, 2) := by decide +kernel
theorem d11_17 : decode method_4_code 17 = .ok (.iushr, 1) := by decide +kernel
theorem d11_18 : decode method_4_code 18 = .ok (.iadd, 1) := by decide +kernel
theorem d11_19 : decode method_4_code 19 = .ok (.i2c, 1) := by decide +kernel
theorem d11_20 : decode method_4_code 20 = .ok (.ireturn, 1) := by decide +kernel
set_option maxRecDepth 65536 in
set_option maxHeartbeats 40000000 in
theorem his (l : Launch) (Z : State) (a0 : Array Value) (hw : ∀ d ∈ tables_1, d.before a0 Z = true) (ws : List Jvm.Cond) (k : Nat) (h0 : Heap) (n0 : Nat) (Z0 : n0 ≤ h0.size) (hk : 65536 ≤ k) (hk2 : k ≤ 1114111) :
    MetFree l y_12 (head1 (Jvm.Cond.code y_12 method_4_code 1 (some .char) :: ws) r_m0) (fun a_ U_ => a_ = #[(.int (Int32.ofNat k))] ∧ Z.Warmed39 U_.vm ∧ U_.heap = h0) (fun _ _ _ _ _ => True) (fun _ U_ o_ V_ => ∃ v_ L_, o_ = .returned v_ ∧ Qhis Z k h0 n0 v_ V_.heap L_ ∧ FrameEnd U_ o_ V_ L_ r_m0.cells r_m0.slots) := by
  refine MetFree.of_bodySF (plainFor_of_name pn_2) hisR ?_
  intro p e s m args below meth c s₁ Bd hml0 hP hK
  obtain ⟨rfl, hZ, hh⟩ := hP
  have hx := Bd.exec
  have hby := Bd.bytes
  have hml : c.maxLocals = 1 := hml0
  have hown : s.vm.findClass "com/example/even_counter/evencounter/CounterIdCompareToPinLaw" = some m.cls := findClass_of_methodNamed Bd.named
  have hnm := (name_of_methodNamed Bd.named Bd.method).1
  have X0 : Stand p l e r_m0 s m #[(.int (Int32.ofNat k))] below meth c s₁ [] 0 0 := Stand.of_body Bd
  have e0 : s₁.heap = h0 := by rw [← hh, Bd.state]; rfl
  have N0 := Fr.nil n0
  have hlt : hiN k < 65536 := by have := hiN_lt hk2; omega
  refine Gl.go (A := s₁.setTop (entryFrame m #[(.int (Int32.ofNat k))] 1)) (P := fun o_ U_ => ∃ v_ L_, o_ = .returned v_ ∧ Qhis Z k h0 n0 v_ U_.heap L_ ∧ FrameEnd s o_ U_ L_ r_m0.cells r_m0.slots) (fun t_ k_ => castTop (ef_his m (Int32.ofNat k)) k_) ?_
  show Gl p.tables e below _ (s₁.setTop (mkF m 0 #[sI (Int32.ofNat k)] []))
  refine Gl.go (fun _ hr => zXS_iloadN X0.here hx rfl (hb hby d11_0) rfl hr) ?_
  refine Gl.go (X0.ldcInt hx hown (mvT hZ (tw hw 49 rfl)) rfl (hb hby d11_1)) ?_
  refine Gl.go (fun _ hr => zXS_icmpYes X0.here hx rfl (pc0 := 3) (pc' := 9) rfl (hb hby d11_3) rfl (XT.ii_ge_t (own_nlt32 (b := 65536) (by omega) (by decide) hk)) (by decide) (by decide) hr) ?_
  refine Gl.go (X0.ldcInt hx hown (mvT hZ (tw hw 182 rfl)) rfl (hb hby d11_9)) ?_
  refine Gl.go (fun _ hr => zXS_iloadN X0.here hx rfl (hb hby d11_11) rfl hr) ?_
  refine Gl.go (X0.ldcInt hx hown (mvT hZ (tw hw 49 rfl)) rfl (hb hby d11_12)) ?_
  refine Gl.go (fun _ hr => zXS_isub X0.here hx rfl (hb hby d11_14) rfl hr) ?_
  show Gl p.tables e below _ (s₁.setTop (mkF m 15 #[sI (Int32.ofNat k)] [(.int ((Int32.ofNat k) - (65536 : Int32))), (.int (55296 : Int32))]))
  rw [(own_subN hk)]
  show Gl p.tables e below _ (s₁.setTop (mkF m 15 #[sI (Int32.ofNat k)] [(.int (Int32.ofNat (k - 65536))), (.int (55296 : Int32))]))
  refine Gl.go (fun _ hr => zXS_bipush X0.here hx rfl (hb hby d11_15) (zXT_iushr X0.here hx rfl (hb hby d11_17) rfl hr)) ?_
  show Gl p.tables e below _ (s₁.setTop (mkF m 18 #[sI (Int32.ofNat k)] [(.int (XT.ushr (Int32.ofNat (k - 65536)) (10 : Int32))), (.int (55296 : Int32))]))
  rw [(own_ushr10 (by omega))]
  show Gl p.tables e below _ (s₁.setTop (mkF m 18 #[sI (Int32.ofNat k)] [(.int (Int32.ofNat ((k - 65536) / 1024))), (.int (55296 : Int32))]))
  refine Gl.go (fun _ hr => zXS_iadd X0.here hx rfl (hb hby d11_18) rfl hr) ?_
  show Gl p.tables e below _ (s₁.setTop (mkF m 19 #[sI (Int32.ofNat k)] [(.int ((55296 : Int32) + (Int32.ofNat ((k - 65536) / 1024))))]))
  rw [(show (55296 : Int32) + Int32.ofNat ((k - 65536) / 1024) = Int32.ofNat (hiN k) from own_add32 55296 _)]
  show Gl p.tables e below _ (s₁.setTop (mkF m 19 #[sI (Int32.ofNat k)] [(.int (Int32.ofNat (hiN k)))]))
  refine Gl.go (fun _ hr => zXT_i2c X0.here hx rfl (hb hby d11_19) rfl hr) ?_
  show Gl p.tables e below _ (s₁.setTop (mkF m 20 #[sI (Int32.ofNat k)] [(.int ((Int32.ofNat (hiN k)).toUInt32.toUInt16.toUInt32.toInt32))]))
  rw [(own_i2cN hlt)]
  show Gl p.tables e below _ (s₁.setTop (mkF m 20 #[sI (Int32.ofNat k)] [(.int (Int32.ofNat (hiN k)))]))
  obtain ⟨fs, hr, hrun, hended, hW, hsame⟩ := X0.leave (v := some (.int (nar .char (Int32.ofNat (hiN k))))) (fun h => by rw [Bd.returns] at h; cases h)
  refine ⟨_, _, retN X0 hx (t := .char) Bd.returns (by simp) (hb hby d11_20) hr, hrun, hended, _, _, rfl, ?_, ⟨⟨_, rfl⟩, hW, hsame.mono (by decide) (by decide)⟩⟩
  show Qhis Z k h0 n0 _ s₁.heap _
  rw [e0]
  exact ⟨(own_some (own_nar_wid (own_widN hlt))), N0, rfl⟩
def Qlos (Z : State) (k : Nat) (h0 : Heap) (n0 : Nat) (v : Option Value) (h : Heap) (L : List Loc) : Prop := v = some (.int (Int32.ofNat (loN k))) ∧ Fr n0 L ∧ h = h0
theorem ef_los (m : MethodId) (x0 : Int32) : entryFrame m #[(.int x0)] 1 = mkF m 0 #[sI x0] [] := by first | (simp [entryFrame, mkF, argsToLocals, Value.category]; done) | rfl
theorem d41_0 : decode method_5_code 0 = .ok (.ldc 14, 2) := by decide +kernel
theorem d41_2 : decode method_5_code 2 = .ok (.iload_n 0, 1) := by decide +kernel
theorem d41_3 : decode method_5_code 3 = .ok (.ldc 9, 2) := by decide +kernel
theorem d41_5 : decode method_5_code 5 = .ok (.isub, 1) := by decide +kernel
theorem d41_6 : decode method_5_code 6 = .ok (.sipush 1023, 3) := by decide +kernel
theorem d41_9 : decode method_5_code 9 = .ok (.iand, 1) := by decide +kernel
theorem d41_10 : decode method_5_code 10 = .ok (.iadd, 1) := by decide +kernel
theorem d41_11 : decode method_5_code 11 = .ok (.i2c, 1) := by decide +kernel
theorem d41_12 : decode method_5_code 12 = .ok (.ireturn, 1) := by decide +kernel
set_option maxRecDepth 65536 in
set_option maxHeartbeats 40000000 in
theorem los (l : Launch) (Z : State) (a0 : Array Value) (hw : ∀ d ∈ tables_1, d.before a0 Z = true) (ws : List Jvm.Cond) (k : Nat) (h0 : Heap) (n0 : Nat) (Z0 : n0 ≤ h0.size) (hk : 65536 ≤ k) (hk2 : k ≤ 1114111) :
    MetFree l y_13 (head1 (Jvm.Cond.code y_13 method_5_code 1 (some .char) :: ws) r_m0) (fun a_ U_ => a_ = #[(.int (Int32.ofNat k))] ∧ Z.Warmed39 U_.vm ∧ U_.heap = h0) (fun _ _ _ _ _ => True) (fun _ U_ o_ V_ => ∃ v_ L_, o_ = .returned v_ ∧ Qlos Z k h0 n0 v_ V_.heap L_ ∧ FrameEnd U_ o_ V_ L_ r_m0.cells r_m0.slots) := by
  refine MetFree.of_bodySF (plainFor_of_name pn_2) hisR ?_
  intro p e s m args below meth c s₁ Bd hml0 hP hK
  obtain ⟨rfl, hZ, hh⟩ := hP
  have hx := Bd.exec
  have hby := Bd.bytes
  have hml : c.maxLocals = 1 := hml0
  have hown : s.vm.findClass "com/example/even_counter/evencounter/CounterIdCompareToPinLaw" = some m.cls := findClass_of_methodNamed Bd.named
  have hnm := (name_of_methodNamed Bd.named Bd.method).1
  have X0 : Stand p l e r_m0 s m #[(.int (Int32.ofNat k))] below meth c s₁ [] 0 0 := Stand.of_body Bd
  have e0 : s₁.heap = h0 := by rw [← hh, Bd.state]; rfl
  have N0 := Fr.nil n0
  have hlt : loN k < 65536 := by have := loN_lt k; omega
  refine Gl.go (A := s₁.setTop (entryFrame m #[(.int (Int32.ofNat k))] 1)) (P := fun o_ U_ => ∃ v_ L_, o_ = .returned v_ ∧ Qlos Z k h0 n0 v_ U_.heap L_ ∧ FrameEnd s o_ U_ L_ r_m0.cells r_m0.slots) (fun t_ k_ => castTop (ef_los m (Int32.ofNat k)) k_) ?_
  show Gl p.tables e below _ (s₁.setTop (mkF m 0 #[sI (Int32.ofNat k)] []))
  refine Gl.go (X0.ldcInt hx hown (mvT hZ (tw hw 186 rfl)) rfl (hb hby d41_0)) ?_
  refine Gl.go (fun _ hr => zXS_iloadN X0.here hx rfl (hb hby d41_2) rfl hr) ?_
  refine Gl.go (X0.ldcInt hx hown (mvT hZ (tw hw 49 rfl)) rfl (hb hby d41_3)) ?_
  refine Gl.go (fun _ hr => zXS_isub X0.here hx rfl (hb hby d41_5) rfl hr) ?_
  show Gl p.tables e below _ (s₁.setTop (mkF m 6 #[sI (Int32.ofNat k)] [(.int ((Int32.ofNat k) - (65536 : Int32))), (.int (56320 : Int32))]))
  rw [(own_subN hk)]
  show Gl p.tables e below _ (s₁.setTop (mkF m 6 #[sI (Int32.ofNat k)] [(.int (Int32.ofNat (k - 65536))), (.int (56320 : Int32))]))
  refine Gl.go (fun _ hr => zXS_sipush X0.here hx rfl (hb hby d41_6) (zXS_iand X0.here hx rfl (hb hby d41_9) rfl hr)) ?_
  show Gl p.tables e below _ (s₁.setTop (mkF m 10 #[sI (Int32.ofNat k)] [(.int ((Int32.ofNat (k - 65536)) &&& (1023 : Int32))), (.int (56320 : Int32))]))
  rw [(own_and1023 (by omega))]
  show Gl p.tables e below _ (s₁.setTop (mkF m 10 #[sI (Int32.ofNat k)] [(.int (Int32.ofNat ((k - 65536) % 1024))), (.int (56320 : Int32))]))
  refine Gl.go (fun _ hr => zXS_iadd X0.here hx rfl (hb hby d41_10) rfl hr) ?_
  show Gl p.tables e below _ (s₁.setTop (mkF m 11 #[sI (Int32.ofNat k)] [(.int ((56320 : Int32) + (Int32.ofNat ((k - 65536) % 1024))))]))
  rw [(show (56320 : Int32) + Int32.ofNat ((k - 65536) % 1024) = Int32.ofNat (loN k) from own_add32 56320 _)]
  show Gl p.tables e below _ (s₁.setTop (mkF m 11 #[sI (Int32.ofNat k)] [(.int (Int32.ofNat (loN k)))]))
  refine Gl.go (fun _ hr => zXT_i2c X0.here hx rfl (hb hby d41_11) rfl hr) ?_
  show Gl p.tables e below _ (s₁.setTop (mkF m 12 #[sI (Int32.ofNat k)] [(.int ((Int32.ofNat (loN k)).toUInt32.toUInt16.toUInt32.toInt32))]))
  rw [(own_i2cN hlt)]
  show Gl p.tables e below _ (s₁.setTop (mkF m 12 #[sI (Int32.ofNat k)] [(.int (Int32.ofNat (loN k)))]))
  obtain ⟨fs, hr, hrun, hended, hW, hsame⟩ := X0.leave (v := some (.int (nar .char (Int32.ofNat (loN k))))) (fun h => by rw [Bd.returns] at h; cases h)
  refine ⟨_, _, retN X0 hx (t := .char) Bd.returns (by simp) (hb hby d41_12) hr, hrun, hended, _, _, rfl, ?_, ⟨⟨_, rfl⟩, hW, hsame.mono (by decide) (by decide)⟩⟩
  show Qlos Z k h0 n0 _ s₁.heap _
  rw [e0]
  exact ⟨(own_some (own_nar_wid (own_widN hlt))), N0, rfl⟩
def Qnst (Z : State) (nn : Nat) (k1 : Nat) (k2 : Nat) (G1 : Int32) (h0 : Heap) (n0 : Nat) (v : Option Value) (h : Heap) (L : List Loc) : Prop := ∃ (r : Addr), ∃ (t : Addr), ∃ (kb : ClassId), ∃ (N2 : Int32), ∃ (vs : List Value), v = some (.ref r) ∧ Fr n0 L ∧ Keep h0 h [] ∧ (Exa Z h r "java/lang/String") ∧ (Fld Z h r "java/lang/String" "value" "[B" (.ref t)) ∧ (Fld Z h r "java/lang/String" "coder" "B" (.int (0 : Int32))) ∧ (Arv Z h t kb .byte N2 vs (.int 0)) ∧ (@LE.le Nat instLENat h0.size r ∧ @LE.le Nat instLENat h0.size t) ∧ (StrChars.Road.CodA (unl k1 k2 nn) 0 N2 vs)
theorem ef_nst (m : MethodId) (x0 : Int32) (x1 : Int32) (x2 : Int32) : entryFrame m #[(.int x0), (.int x1), (.int x2)] 3 = mkF m 0 #[sI x0, sI x1, sI x2] [] := by first | (simp [entryFrame, mkF, argsToLocals, Value.category]; done) | rfl
theorem d3_0 : decode method_6_code 0 = .ok (.iload_n 0, 1) := by decide +kernel
theorem d3_1 : decode method_6_code 1 = .ok (.iconst 1, 1) := by decide +kernel
theorem d3_2 : decode method_6_code 2 = .ok (.if_icmp .ne 18, 3) := by decide +kernel
theorem d3_5 : decode method_6_code 5 = .ok (.new 15, 3) := by decide +kernel
theorem d3_8 : decode method_6_code 8 = .ok (.dup, 1) := by decide +kernel
theorem d3_9 : decode method_6_code 9 = .ok (.iconst 1, 1) := by decide +kernel
theorem d3_10 : decode method_6_code 10 = .ok (.newarray .char, 2) := by decide +kernel
theorem d3_12 : decode method_6_code 12 = .ok (.dup, 1) := by decide +kernel
theorem d3_13 : decode method_6_code 13 = .ok (.iconst 0, 1) := by decide +kernel
theorem d3_14 : decode method_6_code 14 = .ok (.iload_n 1, 1) := by decide +kernel
theorem d3_15 : decode method_6_code 15 = .ok (.castore, 1) := by decide +kernel
theorem d3_16 : decode method_6_code 16 = .ok (.invokespecial 17, 3) := by decide +kernel
theorem pd_8 : parseMethodDescriptor "([C)V" = some ⟨[(.array .char)], none⟩ := by decide +kernel
theorem d3_19 : decode method_6_code 19 = .ok (.areturn, 1) := by decide +kernel
theorem d3_20 : decode method_6_code 20 = .ok (.new 15, 3) := by decide +kernel
theorem d3_23 : decode method_6_code 23 = .ok (.dup, 1) := by decide +kernel
theorem d3_24 : decode method_6_code 24 = .ok (.iconst 2, 1) := by decide +kernel
theorem d3_25 : decode method_6_code 25 = .ok (.newarray .char, 2) := by decide +kernel
theorem d3_27 : decode method_6_code 27 = .ok (.dup, 1) := by decide +kernel
theorem d3_28 : decode method_6_code 28 = .ok (.iconst 0, 1) := by decide +kernel
theorem d3_29 : decode method_6_code 29 = .ok (.iload_n 1, 1) := by decide +kernel
theorem d3_30 : decode method_6_code 30 = .ok (.castore, 1) := by decide +kernel
theorem d3_31 : decode method_6_code 31 = .ok (.dup, 1) := by decide +kernel
theorem d3_32 : decode method_6_code 32 = .ok (.iconst 1, 1) := by decide +kernel
theorem d3_33 : decode method_6_code 33 = .ok (.iload_n 2, 1) := by decide +kernel
theorem d3_34 : decode method_6_code 34 = .ok (.castore, 1) := by decide +kernel
theorem d3_35 : decode method_6_code 35 = .ok (.invokespecial 17, 3) := by decide +kernel
theorem d3_38 : decode method_6_code 38 = .ok (.areturn, 1) := by decide +kernel
set_option maxRecDepth 65536 in
set_option maxHeartbeats 40000000 in
theorem nst (l : Launch) (Z : State) (a0 : Array Value) (hw : ∀ d ∈ tables_1, d.before a0 Z = true) (ws : List Jvm.Cond) (nn : Nat) (k1 : Nat) (k2 : Nat) (G1 : Int32) (h0 : Heap) (n0 : Nat) (Z0 : n0 ≤ h0.size) (q0 : Sta Z Z.heap "java/lang/String" "COMPACT_STRINGS" "Z" (.int G1)) (P5 : ¬ (G1 = (0 : Int32))) (q2 : Old Z n0 h0) (hn : nn = 1 ∨ nn = 2) (hk1 : NmK k1) (hk2 : NmK k2) :
    MetFree l y_14 (head1 (Jvm.Cond.code y_14 method_6_code 3 (some (.object "java/lang/String")) :: ws) r_m6) (fun a_ U_ => a_ = #[(.int (Int32.ofNat nn)), (.int (Int32.ofNat k1)), (.int (Int32.ofNat k2))] ∧ Z.Warmed39 U_.vm ∧ U_.heap = h0) (fun _ _ _ _ _ => True) (fun _ U_ o_ V_ => ∃ v_ L_, o_ = .returned v_ ∧ Qnst Z nn k1 k2 G1 h0 n0 v_ V_.heap L_ ∧ FrameEnd U_ o_ V_ L_ r_m6.cells r_m6.slots) := by
  refine MetFree.of_bodySF (plainFor_of_name pn_2) hisR ?_
  intro p e s m args below meth c s₁ Bd hml0 hP hK
  obtain ⟨rfl, hZ, hh⟩ := hP
  have hx := Bd.exec
  have hby := Bd.bytes
  have hml : c.maxLocals = 3 := hml0
  have hown : s.vm.findClass "com/example/even_counter/evencounter/CounterIdCompareToPinLaw" = some m.cls := findClass_of_methodNamed Bd.named
  have hnm := (name_of_methodNamed Bd.named Bd.method).1
  have X0 : Stand p l e r_m6 s m #[(.int (Int32.ofNat nn)), (.int (Int32.ofNat k1)), (.int (Int32.ofNat k2))] below meth c s₁ [] 0 0 := Stand.of_body Bd
  have e0 : s₁.heap = h0 := by rw [← hh, Bd.state]; rfl
  have N0 := Fr.nil n0
  have zo := q2.1
  have hws : ∀ d ∈ StrChars.Road.words, d.before a0 Z = true := fun d hd => hw d (own_hws d hd)
  refine Gl.go (A := s₁.setTop (entryFrame m #[(.int (Int32.ofNat nn)), (.int (Int32.ofNat k1)), (.int (Int32.ofNat k2))] 3)) (P := fun o_ U_ => ∃ v_ L_, o_ = .returned v_ ∧ Qnst Z nn k1 k2 G1 h0 n0 v_ U_.heap L_ ∧ FrameEnd s o_ U_ L_ r_m6.cells r_m6.slots) (fun t_ k_ => castTop (ef_nst m (Int32.ofNat nn) (Int32.ofNat k1) (Int32.ofNat k2)) k_) ?_
  show Gl p.tables e below _ (s₁.setTop (mkF m 0 #[sI (Int32.ofNat nn), sI (Int32.ofNat k1), sI (Int32.ofNat k2)] []))
  rcases id hn with hn1 | hn1
  · refine Gl.cast (F' := (mkF m 0 #[sI 1, sI (Int32.ofNat k1), sI (Int32.ofNat k2)] [])) (by rw [hn1]; first | done | rfl) ?_
    show Gl p.tables e below _ (s₁.setTop (mkF m 0 #[sI 1, sI (Int32.ofNat k1), sI (Int32.ofNat k2)] []))
    refine Gl.go (fun _ hr => zXS_iloadN X0.here hx rfl (hb hby d3_0) rfl (zXS_iconst X0.here hx rfl (hb hby d3_1) (zXS_icmpNo X0.here hx rfl (hb hby d3_2) rfl (XT.ii_ne_f (by decide)) hr))) ?_
    refine gNew Gl.cl X0 hx hZ hown (tw hw 16 rfl) (tw hw 17 rfl) (tw hw 18 rfl) e0 rfl (hb hby d3_5) (by decide) (by decide) ?_
    intro T256 h256 b256 g256 X256 e256 E256 A256 D256
    have z257 : h0.size ≤ h256.size := E256.1
    have lt256 := own_alt A256.lt
    have F256_coder : Fld Z h256 b256 "java/lang/String" "coder" "B" (.int (0 : Int32)) := D256 (Or.inr (tw hw 43 rfl)) (ty := .byte) (by decide)
    have F256_value : Fld Z h256 b256 "java/lang/String" "value" "[B" .null := D256 (Or.inr (tw hw 45 rfl)) (ty := (.array .byte)) (by decide)
    refine Gl.go (fun _ hr => zXS_dup X256.here hx rfl (hb hby d3_8) rfl rfl (zXS_iconst X256.here hx rfl (hb hby d3_9) hr)) ?_
    refine gNewP Gl.cl X256 hx hZ (tw hw 19 rfl) e256 rfl (hb hby d3_10) rfl (by decide) (cap := 1) (by decide) (by decide) (by decide) (by decide) ?_
    intro T258 h258 b258 k258 g258 X258 e258 E258 A258
    have z259 : h256.size ≤ h258.size := E258.1
    have lt258 := own_alt A258.lt
    have V258 : Arv Z h258 b258 k258 .char (1 : Int32) [(.int (0 : Int32))] (.int (0 : Int32)) := (Arv.new A258 (by decide)).pad (pad_rep [] (.int (0 : Int32)) 1)
    refine Gl.go (fun _ hr => zXS_dup X258.here hx rfl (hb hby d3_12) rfl rfl (zXS_iconst X258.here hx rfl (hb hby d3_13) (zXS_iloadN X258.here hx rfl (hb hby d3_14) rfl hr))) ?_
    obtain ⟨c260, a260, q260, s260, m260, H260, U260⟩ := id V258
    refine gstC Gl.cl X258 hx hZ e258 a260 (j := (0 : Int32)) (inb_of s260 ⟨(by decide), (by decide)⟩) rfl rfl (hb hby d3_15) ?_
    intro T260 h260 X260 e260 W260
    have z261 : h258.size ≤ h260.size := (Keep.of_wr W260).1
    rw [(own_nar_wid (own_widN (Nat.lt_trans hk1.lt (by decide))))] at W260
    have V260 : Arv Z h260 b258 k258 .char (1 : Int32) [(.int (Int32.ofNat k1))] (.int (0 : Int32)) := Arv.set a260 q260 s260 m260 H260 U260 (own_fit_wid (own_widN (Nat.lt_trans hk1.lt (by decide)))) W260 0 rfl (Nat.le_of_ble_eq_true rfl)
    have om262 : @LE.le Nat instLENat n0 b258 := by omega
    have N260 := Fr.snoc X260 N0 (own_ale om262)
    have hp263 : ∀ c ∈ ([(Int32.ofNat k1)] : List Int32), Lat c := (own_cS (own_latN (Nat.lt_trans hk1.lt (by decide))) own_c0)
    have Ec264 := ((A256.ext E258).wr W260)
    have om265 : ¬ @Eq Nat b256 b258 := by omega
    have Fc266 := ((F256_value.ext E258).other W260 (Or.inl (own_ane om265)))
    have Fc267 := ((F256_coder.ext E258).other W260 (Or.inl (own_ane om265)))
    have Oc268 := (((q2.ext E256).ext E258).wr W260 (own_ale om262))
    refine gSpecialN Gl.cl (y := y_9) (b := b256) (argsL := [(.ref b258)]) (rest := [(.ref b256)]) (mc := 1) (ms := 1) X260 hx hZ hown rfl (mvT hZ (tw hw 20 rfl)) (mvT hZ (tw hw 21 rfl)) (mvT hZ (tw hw 22 rfl)) (by decide) (StrChars.Road.backV (W := 1) hZ hws (kI := 4) (tw hw 17 rfl) (cs := ([(Int32.ofNat k1)] : List Int32)) (bs := ([(Int32.ofNat k1)] : List Int32).map (fun c => c.toInt8.toInt32)) (n := 1) (n0 := n0) (by omega) (by omega) Ec264 Fc266 Fc267 V260 (q0.ext Oc268.2) P5 rfl rfl (by decide) (by decide) hp263 rfl (by decide) (by decide)) rfl (by rw [hml]; rfl) (lenOf pd_8 rfl) rfl (by exact Nat.le_of_eq rfl) (hb hby d3_16) rfl e260 (by decide) (by decide) ?_
    intro v263 T263 Lc263 hQ263 X263
    obtain ⟨rfl, Nq263, K263, f263_E, f263_C, t263, kb263, g263_0, g263_1, g263_2, f263_V, f263_A⟩ := hQ263
    have z269 : h260.size ≤ T263.heap.size := K263.1
    have N263 := Fr.app N260 Nq263
    have lt270 := own_alt f263_E.lt
    have lt271 := own_alt f263_C.lt
    have lt272 := own_alt f263_V.lt
    have lt273 := own_alt f263_A.lt
    have hcd263 : StrChars.Road.CodA ([(Int32.ofNat k1)] : List Int32) 0 (1 : Int32) ((([(Int32.ofNat k1)] : List Int32).map (fun c => c.toInt8.toInt32)).map Value.int) := StrChars.Road.codOf (n := 1) rfl (fun c hc => (hp263 c hc).2)
    have hbd263 : ∀ c ∈ ([(Int32.ofNat k1)] : List Int32), Wid c := own_up hp263
    obtain ⟨fs, hr, hrun, hended, hW, hsame⟩ := X263.leave (v := some (.ref b256)) (fun h => by rw [Bd.returns] at h; cases h)
    have om274 : @LE.le Nat instLENat h0.size b258 := by omega
    have om275 : @LE.le Nat instLENat h0.size b256 := by omega
    refine ⟨_, _, retOut X263 hx Bd.returns rfl (Or.inr (Or.inr (Or.inr (Or.inr ⟨rfl, rfl, rfl⟩)))) (hb hby d3_19) hr, hrun, hended, _, _, rfl, ?_, ⟨⟨_, rfl⟩, hW, hsame.mono (by decide) (by decide)⟩⟩
    show Qnst Z nn k1 k2 G1 h0 n0 _ T263.heap _
    exact ⟨b256, t263, kb263, (1 : Int32), ((([(Int32.ofNat k1)] : List Int32).map (fun c => c.toInt8.toInt32)).map Value.int), rfl, N263, (((((Keep.refl h0 []).ext E256).ext E258).wr W260 (Or.inr (own_ale om274))).trans K263 (allS (P := fun x_ => x_ ∈ ([] : List Addr) ∨ h0.size ≤ x_) (Or.inr (own_ale om275)) all0)), f263_E, f263_V, f263_C, f263_A, ⟨by omega, by omega⟩, (by rw [own_unl1 hn1, (own_unb (Nat.lt_trans hk1.lt (by decide)))]; exact hcd263)⟩
  · refine Gl.cast (F' := (mkF m 0 #[sI 2, sI (Int32.ofNat k1), sI (Int32.ofNat k2)] [])) (by rw [hn1]; first | done | rfl) ?_
    show Gl p.tables e below _ (s₁.setTop (mkF m 0 #[sI 2, sI (Int32.ofNat k1), sI (Int32.ofNat k2)] []))
    refine Gl.go (fun _ hr => zXS_iloadN X0.here hx rfl (hb hby d3_0) rfl (zXS_iconst X0.here hx rfl (hb hby d3_1) (zXS_icmpYes X0.here hx rfl (pc0 := 2) (pc' := 20) rfl (hb hby d3_2) rfl (XT.ii_ne_t (by decide)) (by decide) (by decide) hr))) ?_
    refine gNew Gl.cl X0 hx hZ hown (tw hw 16 rfl) (tw hw 17 rfl) (tw hw 18 rfl) e0 rfl (hb hby d3_20) (by decide) (by decide) ?_
    intro T276 h276 b276 g276 X276 e276 E276 A276 D276
    have z277 : h0.size ≤ h276.size := E276.1
    have lt276 := own_alt A276.lt
    have F276_coder : Fld Z h276 b276 "java/lang/String" "coder" "B" (.int (0 : Int32)) := D276 (Or.inr (tw hw 43 rfl)) (ty := .byte) (by decide)
    have F276_value : Fld Z h276 b276 "java/lang/String" "value" "[B" .null := D276 (Or.inr (tw hw 45 rfl)) (ty := (.array .byte)) (by decide)
    refine Gl.go (fun _ hr => zXS_dup X276.here hx rfl (hb hby d3_23) rfl rfl (zXS_iconst X276.here hx rfl (hb hby d3_24) hr)) ?_
    refine gNewP Gl.cl X276 hx hZ (tw hw 19 rfl) e276 rfl (hb hby d3_25) rfl (by decide) (cap := 2) (by decide) (by decide) (by decide) (by decide) ?_
    intro T278 h278 b278 k278 g278 X278 e278 E278 A278
    have z279 : h276.size ≤ h278.size := E278.1
    have lt278 := own_alt A278.lt
    have V278 : Arv Z h278 b278 k278 .char (2 : Int32) [(.int (0 : Int32)), (.int (0 : Int32))] (.int (0 : Int32)) := (Arv.new A278 (by decide)).pad (pad_rep [] (.int (0 : Int32)) 2)
    refine Gl.go (fun _ hr => zXS_dup X278.here hx rfl (hb hby d3_27) rfl rfl (zXS_iconst X278.here hx rfl (hb hby d3_28) (zXS_iloadN X278.here hx rfl (hb hby d3_29) rfl hr))) ?_
    obtain ⟨c280, a280, q280, s280, m280, H280, U280⟩ := id V278
    refine gstC Gl.cl X278 hx hZ e278 a280 (j := (0 : Int32)) (inb_of s280 ⟨(by decide), (by decide)⟩) rfl rfl (hb hby d3_30) ?_
    intro T280 h280 X280 e280 W280
    have z281 : h278.size ≤ h280.size := (Keep.of_wr W280).1
    rw [(own_nar_wid (own_widN (Nat.lt_trans hk1.lt (by decide))))] at W280
    have V280 : Arv Z h280 b278 k278 .char (2 : Int32) [(.int (Int32.ofNat k1)), (.int (0 : Int32))] (.int (0 : Int32)) := Arv.set a280 q280 s280 m280 H280 U280 (own_fit_wid (own_widN (Nat.lt_trans hk1.lt (by decide)))) W280 0 rfl (Nat.le_of_ble_eq_true rfl)
    have om282 : @LE.le Nat instLENat n0 b278 := by omega
    have N280 := Fr.snoc X280 N0 (own_ale om282)
    refine Gl.go (fun _ hr => zXS_dup X280.here hx rfl (hb hby d3_31) rfl rfl (zXS_iconst X280.here hx rfl (hb hby d3_32) (zXS_iloadN X280.here hx rfl (hb hby d3_33) rfl hr))) ?_
    obtain ⟨c283, a283, q283, s283, m283, H283, U283⟩ := id V280
    refine gstC Gl.cl X280 hx hZ e280 a283 (j := (1 : Int32)) (inb_of s283 ⟨(by decide), (by decide)⟩) rfl rfl (hb hby d3_34) ?_
    intro T283 h283 X283 e283 W283
    have z284 : h280.size ≤ h283.size := (Keep.of_wr W283).1
    rw [(own_nar_wid (own_widN (Nat.lt_trans hk2.lt (by decide))))] at W283
    have V283 : Arv Z h283 b278 k278 .char (2 : Int32) [(.int (Int32.ofNat k1)), (.int (Int32.ofNat k2))] (.int (0 : Int32)) := Arv.set a283 q283 s283 m283 H283 U283 (own_fit_wid (own_widN (Nat.lt_trans hk2.lt (by decide)))) W283 1 rfl (Nat.le_of_ble_eq_true rfl)
    have N283 := Fr.snoc X283 N280 (own_ale om282)
    have hp285 : ∀ c ∈ ([(Int32.ofNat k1), (Int32.ofNat k2)] : List Int32), Lat c := (own_cS (own_latN (Nat.lt_trans hk1.lt (by decide))) (own_cS (own_latN (Nat.lt_trans hk2.lt (by decide))) own_c0))
    have Ec286 := (((A276.ext E278).wr W280).wr W283)
    have om287 : ¬ @Eq Nat b276 b278 := by omega
    have Fc288 := (((F276_value.ext E278).other W280 (Or.inl (own_ane om287))).other W283 (Or.inl (own_ane om287)))
    have Fc289 := (((F276_coder.ext E278).other W280 (Or.inl (own_ane om287))).other W283 (Or.inl (own_ane om287)))
    have Oc290 := ((((q2.ext E276).ext E278).wr W280 (own_ale om282)).wr W283 (own_ale om282))
    refine gSpecialN Gl.cl (y := y_9) (b := b276) (argsL := [(.ref b278)]) (rest := [(.ref b276)]) (mc := 1) (ms := 2) X283 hx hZ hown rfl (mvT hZ (tw hw 20 rfl)) (mvT hZ (tw hw 21 rfl)) (mvT hZ (tw hw 22 rfl)) (by decide) (StrChars.Road.backV (W := 1) hZ hws (kI := 4) (tw hw 17 rfl) (cs := ([(Int32.ofNat k1), (Int32.ofNat k2)] : List Int32)) (bs := ([(Int32.ofNat k1), (Int32.ofNat k2)] : List Int32).map (fun c => c.toInt8.toInt32)) (n := 2) (n0 := n0) (by omega) (by omega) Ec286 Fc288 Fc289 V283 (q0.ext Oc290.2) P5 rfl rfl (by decide) (by decide) hp285 rfl (by decide) (by decide)) rfl (by rw [hml]; rfl) (lenOf pd_8 rfl) rfl (by exact Nat.le_of_eq rfl) (hb hby d3_35) rfl e283 (by decide) (by decide) ?_
    intro v285 T285 Lc285 hQ285 X285
    obtain ⟨rfl, Nq285, K285, f285_E, f285_C, t285, kb285, g285_0, g285_1, g285_2, f285_V, f285_A⟩ := hQ285
    have z291 : h283.size ≤ T285.heap.size := K285.1
    have N285 := Fr.app N283 Nq285
    have lt292 := own_alt f285_E.lt
    have lt293 := own_alt f285_C.lt
    have lt294 := own_alt f285_V.lt
    have lt295 := own_alt f285_A.lt
    have hcd285 : StrChars.Road.CodA ([(Int32.ofNat k1), (Int32.ofNat k2)] : List Int32) 0 (2 : Int32) ((([(Int32.ofNat k1), (Int32.ofNat k2)] : List Int32).map (fun c => c.toInt8.toInt32)).map Value.int) := StrChars.Road.codOf (n := 2) rfl (fun c hc => (hp285 c hc).2)
    have hbd285 : ∀ c ∈ ([(Int32.ofNat k1), (Int32.ofNat k2)] : List Int32), Wid c := own_up hp285
    obtain ⟨fs, hr, hrun, hended, hW, hsame⟩ := X285.leave (v := some (.ref b276)) (fun h => by rw [Bd.returns] at h; cases h)
    have om296 : @LE.le Nat instLENat h0.size b278 := by omega
    have om297 : @LE.le Nat instLENat h0.size b276 := by omega
    refine ⟨_, _, retOut X285 hx Bd.returns rfl (Or.inr (Or.inr (Or.inr (Or.inr ⟨rfl, rfl, rfl⟩)))) (hb hby d3_38) hr, hrun, hended, _, _, rfl, ?_, ⟨⟨_, rfl⟩, hW, hsame.mono (by decide) (by decide)⟩⟩
    show Qnst Z nn k1 k2 G1 h0 n0 _ T285.heap _
    exact ⟨b276, t285, kb285, (2 : Int32), ((([(Int32.ofNat k1), (Int32.ofNat k2)] : List Int32).map (fun c => c.toInt8.toInt32)).map Value.int), rfl, N285, ((((((Keep.refl h0 []).ext E276).ext E278).wr W280 (Or.inr (own_ale om296))).wr W283 (Or.inr (own_ale om296))).trans K285 (allS (P := fun x_ => x_ ∈ ([] : List Addr) ∨ h0.size ≤ x_) (Or.inr (own_ale om297)) all0)), f285_E, f285_V, f285_C, f285_A, ⟨by omega, by omega⟩, (by rw [own_unl2 hn1, (own_unb (Nat.lt_trans hk1.lt (by decide))), (own_unb (Nat.lt_trans hk2.lt (by decide)))]; exact hcd285)⟩
def Qkst (Z : State) (k1 : Nat) (k2 : Nat) (nn : Nat) (G1 : Int32) (h0 : Heap) (n0 : Nat) (v : Option Value) (h : Heap) (L : List Loc) : Prop := ∃ (r : Addr), ∃ (t : Addr), ∃ (kb : ClassId), ∃ (cd : Int32), ∃ (N2 : Int32), ∃ (vs : List Value), v = some (.ref r) ∧ Fr n0 L ∧ Keep h0 h [] ∧ (Exa Z h r "java/lang/String") ∧ (Fld Z h r "java/lang/String" "value" "[B" (.ref t)) ∧ (Fld Z h r "java/lang/String" "coder" "B" (.int cd)) ∧ (Arv Z h t kb .byte N2 vs (.int 0)) ∧ (@LE.le Nat instLENat h0.size r ∧ @LE.le Nat instLENat h0.size t) ∧ (StrChars.Road.CodA (unl k1 k2 nn) cd N2 vs)
theorem ef_kst (m : MethodId) (x0 : Int32) (x1 : Int32) (x2 : Int32) : entryFrame m #[(.int x0), (.int x1), (.int x2)] 5 = mkF m 0 #[sI x0, sI x1, sI x2, sU, sU] [] := by first | (simp [entryFrame, mkF, argsToLocals, Value.category]; done) | rfl
theorem d10_0 : decode method_7_code 0 = .ok (.iload_n 0, 1) := by decide +kernel
theorem d10_1 : decode method_7_code 1 = .ok (.ldc 9, 2) := by decide +kernel
theorem d10_3 : decode method_7_code 3 = .ok (.if_icmp .lt 7, 3) := by decide +kernel
theorem d10_10 : decode method_7_code 10 = .ok (.iconst 0, 1) := by decide +kernel
theorem d10_11 : decode method_7_code 11 = .ok (.istore_n 3, 1) := by decide +kernel
theorem d10_12 : decode method_7_code 12 = .ok (.iload_n 1, 1) := by decide +kernel
theorem d10_13 : decode method_7_code 13 = .ok (.ldc 9, 2) := by decide +kernel
theorem d10_15 : decode method_7_code 15 = .ok (.if_icmp .lt 7, 3) := by decide +kernel
theorem d10_22 : decode method_7_code 22 = .ok (.iconst 0, 1) := by decide +kernel
theorem d10_18 : decode method_7_code 18 = .ok (.iconst 1, 1) := by decide +kernel
theorem d10_19 : decode method_7_code 19 = .ok (.goto 4, 3) := by decide +kernel
theorem d10_23 : decode method_7_code 23 = .ok (.istore 4, 2) := by decide +kernel
theorem d10_25 : decode method_7_code 25 = .ok (.iload_n 2, 1) := by decide +kernel
theorem d10_26 : decode method_7_code 26 = .ok (.iconst 1, 1) := by decide +kernel
theorem d10_27 : decode method_7_code 27 = .ok (.if_icmp .ne 50, 3) := by decide +kernel
theorem d10_30 : decode method_7_code 30 = .ok (.iload_n 3, 1) := by decide +kernel
theorem d10_31 : decode method_7_code 31 = .ok (.ifCond .eq 28, 3) := by decide +kernel
theorem d10_59 : decode method_7_code 59 = .ok (.new 15, 3) := by decide +kernel
theorem d10_62 : decode method_7_code 62 = .ok (.dup, 1) := by decide +kernel
theorem d10_63 : decode method_7_code 63 = .ok (.iconst 1, 1) := by decide +kernel
theorem d10_64 : decode method_7_code 64 = .ok (.newarray .char, 2) := by decide +kernel
theorem d10_66 : decode method_7_code 66 = .ok (.dup, 1) := by decide +kernel
theorem d10_67 : decode method_7_code 67 = .ok (.iconst 0, 1) := by decide +kernel
theorem d10_68 : decode method_7_code 68 = .ok (.iload_n 0, 1) := by decide +kernel
theorem d10_69 : decode method_7_code 69 = .ok (.invokestatic 20, 3) := by decide +kernel
theorem pd_9 : parseMethodDescriptor "(I)C" = some ⟨[.int], some .char⟩ := by decide +kernel
theorem d10_72 : decode method_7_code 72 = .ok (.castore, 1) := by decide +kernel
theorem d10_73 : decode method_7_code 73 = .ok (.invokespecial 17, 3) := by decide +kernel
theorem d10_76 : decode method_7_code 76 = .ok (.areturn, 1) := by decide +kernel
theorem d10_6 : decode method_7_code 6 = .ok (.iconst 1, 1) := by decide +kernel
theorem d10_7 : decode method_7_code 7 = .ok (.goto 4, 3) := by decide +kernel
theorem d10_34 : decode method_7_code 34 = .ok (.new 15, 3) := by decide +kernel
theorem d10_37 : decode method_7_code 37 = .ok (.dup, 1) := by decide +kernel
theorem d10_38 : decode method_7_code 38 = .ok (.iconst 2, 1) := by decide +kernel
theorem d10_39 : decode method_7_code 39 = .ok (.newarray .char, 2) := by decide +kernel
theorem d10_41 : decode method_7_code 41 = .ok (.dup, 1) := by decide +kernel
theorem d10_42 : decode method_7_code 42 = .ok (.iconst 0, 1) := by decide +kernel
theorem d10_43 : decode method_7_code 43 = .ok (.iload_n 0, 1) := by decide +kernel
theorem d10_44 : decode method_7_code 44 = .ok (.invokestatic 20, 3) := by decide +kernel
theorem d10_47 : decode method_7_code 47 = .ok (.castore, 1) := by decide +kernel
theorem d10_48 : decode method_7_code 48 = .ok (.dup, 1) := by decide +kernel
theorem d10_49 : decode method_7_code 49 = .ok (.iconst 1, 1) := by decide +kernel
theorem d10_50 : decode method_7_code 50 = .ok (.iload_n 0, 1) := by decide +kernel
theorem d10_51 : decode method_7_code 51 = .ok (.invokestatic 26, 3) := by decide +kernel
theorem d10_54 : decode method_7_code 54 = .ok (.castore, 1) := by decide +kernel
theorem d10_55 : decode method_7_code 55 = .ok (.invokespecial 17, 3) := by decide +kernel
theorem d10_58 : decode method_7_code 58 = .ok (.areturn, 1) := by decide +kernel
theorem d10_77 : decode method_7_code 77 = .ok (.iload_n 3, 1) := by decide +kernel
theorem d10_78 : decode method_7_code 78 = .ok (.ifCond .eq 47, 3) := by decide +kernel
theorem d10_125 : decode method_7_code 125 = .ok (.iload_n 3, 1) := by decide +kernel
theorem d10_126 : decode method_7_code 126 = .ok (.ifCond .eq 35, 3) := by decide +kernel
theorem d10_161 : decode method_7_code 161 = .ok (.iload 4, 2) := by decide +kernel
theorem d10_163 : decode method_7_code 163 = .ok (.ifCond .eq 35, 3) := by decide +kernel
theorem d10_198 : decode method_7_code 198 = .ok (.new 15, 3) := by decide +kernel
theorem d10_201 : decode method_7_code 201 = .ok (.dup, 1) := by decide +kernel
theorem d10_202 : decode method_7_code 202 = .ok (.iconst 2, 1) := by decide +kernel
theorem d10_203 : decode method_7_code 203 = .ok (.newarray .char, 2) := by decide +kernel
theorem d10_205 : decode method_7_code 205 = .ok (.dup, 1) := by decide +kernel
theorem d10_206 : decode method_7_code 206 = .ok (.iconst 0, 1) := by decide +kernel
theorem d10_207 : decode method_7_code 207 = .ok (.iload_n 0, 1) := by decide +kernel
theorem d10_208 : decode method_7_code 208 = .ok (.invokestatic 20, 3) := by decide +kernel
theorem d10_211 : decode method_7_code 211 = .ok (.castore, 1) := by decide +kernel
theorem d10_212 : decode method_7_code 212 = .ok (.dup, 1) := by decide +kernel
theorem d10_213 : decode method_7_code 213 = .ok (.iconst 1, 1) := by decide +kernel
theorem d10_214 : decode method_7_code 214 = .ok (.iload_n 1, 1) := by decide +kernel
theorem d10_215 : decode method_7_code 215 = .ok (.invokestatic 20, 3) := by decide +kernel
theorem d10_218 : decode method_7_code 218 = .ok (.castore, 1) := by decide +kernel
theorem d10_219 : decode method_7_code 219 = .ok (.invokespecial 17, 3) := by decide +kernel
theorem d10_222 : decode method_7_code 222 = .ok (.areturn, 1) := by decide +kernel
theorem d10_166 : decode method_7_code 166 = .ok (.new 15, 3) := by decide +kernel
theorem d10_169 : decode method_7_code 169 = .ok (.dup, 1) := by decide +kernel
theorem d10_170 : decode method_7_code 170 = .ok (.iconst 3, 1) := by decide +kernel
theorem d10_171 : decode method_7_code 171 = .ok (.newarray .char, 2) := by decide +kernel
theorem d10_173 : decode method_7_code 173 = .ok (.dup, 1) := by decide +kernel
theorem d10_174 : decode method_7_code 174 = .ok (.iconst 0, 1) := by decide +kernel
theorem d10_175 : decode method_7_code 175 = .ok (.iload_n 0, 1) := by decide +kernel
theorem d10_176 : decode method_7_code 176 = .ok (.invokestatic 20, 3) := by decide +kernel
theorem d10_179 : decode method_7_code 179 = .ok (.castore, 1) := by decide +kernel
theorem d10_180 : decode method_7_code 180 = .ok (.dup, 1) := by decide +kernel
theorem d10_181 : decode method_7_code 181 = .ok (.iconst 1, 1) := by decide +kernel
theorem d10_182 : decode method_7_code 182 = .ok (.iload_n 1, 1) := by decide +kernel
theorem d10_183 : decode method_7_code 183 = .ok (.invokestatic 20, 3) := by decide +kernel
theorem d10_186 : decode method_7_code 186 = .ok (.castore, 1) := by decide +kernel
theorem d10_187 : decode method_7_code 187 = .ok (.dup, 1) := by decide +kernel
theorem d10_188 : decode method_7_code 188 = .ok (.iconst 2, 1) := by decide +kernel
theorem d10_189 : decode method_7_code 189 = .ok (.iload_n 1, 1) := by decide +kernel
theorem d10_190 : decode method_7_code 190 = .ok (.invokestatic 26, 3) := by decide +kernel
theorem d10_193 : decode method_7_code 193 = .ok (.castore, 1) := by decide +kernel
theorem d10_194 : decode method_7_code 194 = .ok (.invokespecial 17, 3) := by decide +kernel
theorem d10_197 : decode method_7_code 197 = .ok (.areturn, 1) := by decide +kernel
theorem d10_81 : decode method_7_code 81 = .ok (.iload 4, 2) := by decide +kernel
theorem d10_83 : decode method_7_code 83 = .ok (.ifCond .eq 42, 3) := by decide +kernel
theorem d10_129 : decode method_7_code 129 = .ok (.new 15, 3) := by decide +kernel
theorem d10_132 : decode method_7_code 132 = .ok (.dup, 1) := by decide +kernel
theorem d10_133 : decode method_7_code 133 = .ok (.iconst 3, 1) := by decide +kernel
theorem d10_134 : decode method_7_code 134 = .ok (.newarray .char, 2) := by decide +kernel
theorem d10_136 : decode method_7_code 136 = .ok (.dup, 1) := by decide +kernel
theorem d10_137 : decode method_7_code 137 = .ok (.iconst 0, 1) := by decide +kernel
theorem d10_138 : decode method_7_code 138 = .ok (.iload_n 0, 1) := by decide +kernel
theorem d10_139 : decode method_7_code 139 = .ok (.invokestatic 20, 3) := by decide +kernel
theorem d10_142 : decode method_7_code 142 = .ok (.castore, 1) := by decide +kernel
theorem d10_143 : decode method_7_code 143 = .ok (.dup, 1) := by decide +kernel
theorem d10_144 : decode method_7_code 144 = .ok (.iconst 1, 1) := by decide +kernel
theorem d10_145 : decode method_7_code 145 = .ok (.iload_n 0, 1) := by decide +kernel
theorem d10_146 : decode method_7_code 146 = .ok (.invokestatic 26, 3) := by decide +kernel
theorem d10_149 : decode method_7_code 149 = .ok (.castore, 1) := by decide +kernel
theorem d10_150 : decode method_7_code 150 = .ok (.dup, 1) := by decide +kernel
theorem d10_151 : decode method_7_code 151 = .ok (.iconst 2, 1) := by decide +kernel
theorem d10_152 : decode method_7_code 152 = .ok (.iload_n 1, 1) := by decide +kernel
theorem d10_153 : decode method_7_code 153 = .ok (.invokestatic 20, 3) := by decide +kernel
theorem d10_156 : decode method_7_code 156 = .ok (.castore, 1) := by decide +kernel
theorem d10_157 : decode method_7_code 157 = .ok (.invokespecial 17, 3) := by decide +kernel
theorem d10_160 : decode method_7_code 160 = .ok (.areturn, 1) := by decide +kernel
theorem d10_86 : decode method_7_code 86 = .ok (.new 15, 3) := by decide +kernel
theorem d10_89 : decode method_7_code 89 = .ok (.dup, 1) := by decide +kernel
theorem d10_90 : decode method_7_code 90 = .ok (.iconst 4, 1) := by decide +kernel
theorem d10_91 : decode method_7_code 91 = .ok (.newarray .char, 2) := by decide +kernel
theorem d10_93 : decode method_7_code 93 = .ok (.dup, 1) := by decide +kernel
theorem d10_94 : decode method_7_code 94 = .ok (.iconst 0, 1) := by decide +kernel
theorem d10_95 : decode method_7_code 95 = .ok (.iload_n 0, 1) := by decide +kernel
theorem d10_96 : decode method_7_code 96 = .ok (.invokestatic 20, 3) := by decide +kernel
theorem d10_99 : decode method_7_code 99 = .ok (.castore, 1) := by decide +kernel
theorem d10_100 : decode method_7_code 100 = .ok (.dup, 1) := by decide +kernel
theorem d10_101 : decode method_7_code 101 = .ok (.iconst 1, 1) := by decide +kernel
theorem d10_102 : decode method_7_code 102 = .ok (.iload_n 0, 1) := by decide +kernel
theorem d10_103 : decode method_7_code 103 = .ok (.invokestatic 26, 3) := by decide +kernel
theorem d10_106 : decode method_7_code 106 = .ok (.castore, 1) := by decide +kernel
theorem d10_107 : decode method_7_code 107 = .ok (.dup, 1) := by decide +kernel
theorem d10_108 : decode method_7_code 108 = .ok (.iconst 2, 1) := by decide +kernel
theorem d10_109 : decode method_7_code 109 = .ok (.iload_n 1, 1) := by decide +kernel
theorem d10_110 : decode method_7_code 110 = .ok (.invokestatic 20, 3) := by decide +kernel
theorem d10_113 : decode method_7_code 113 = .ok (.castore, 1) := by decide +kernel
theorem d10_114 : decode method_7_code 114 = .ok (.dup, 1) := by decide +kernel
theorem d10_115 : decode method_7_code 115 = .ok (.iconst 3, 1) := by decide +kernel
theorem d10_116 : decode method_7_code 116 = .ok (.iload_n 1, 1) := by decide +kernel
theorem d10_117 : decode method_7_code 117 = .ok (.invokestatic 26, 3) := by decide +kernel
theorem d10_120 : decode method_7_code 120 = .ok (.castore, 1) := by decide +kernel
theorem d10_121 : decode method_7_code 121 = .ok (.invokespecial 17, 3) := by decide +kernel
theorem d10_124 : decode method_7_code 124 = .ok (.areturn, 1) := by decide +kernel
set_option maxRecDepth 65536 in
set_option maxHeartbeats 40000000 in
theorem kst (l : Launch) (Z : State) (a0 : Array Value) (hw : ∀ d ∈ tables_1, d.before a0 Z = true) (ws : List Jvm.Cond) (k1 : Nat) (k2 : Nat) (nn : Nat) (G1 : Int32) (h0 : Heap) (n0 : Nat) (Z0 : n0 ≤ h0.size) (q0 : Sta Z Z.heap "java/lang/String" "COMPACT_STRINGS" "Z" (.int G1)) (P5 : ¬ (G1 = (0 : Int32))) (q2 : Old Z n0 h0) (q3 : Sta Z Z.heap "java/lang/StringUTF16" "$assertionsDisabled" "Z" (.int (1 : Int32))) (q4 : Sta Z Z.heap "java/lang/StringUTF16" "HI_BYTE_SHIFT" "I" (.int (0 : Int32))) (q5 : Sta Z Z.heap "java/lang/StringUTF16" "LO_BYTE_SHIFT" "I" (.int (8 : Int32))) (hn : nn = 1 ∨ nn = 2) (hk1 : KeyC k1) (hk2 : KeyC k2) :
    MetFree l y_15 (head1 (Jvm.Cond.code y_15 method_7_code 5 (some (.object "java/lang/String")) :: ws) r_m7) (fun a_ U_ => a_ = #[(.int (Int32.ofNat k1)), (.int (Int32.ofNat k2)), (.int (Int32.ofNat nn))] ∧ Z.Warmed39 U_.vm ∧ U_.heap = h0) (fun _ _ _ _ _ => True) (fun _ U_ o_ V_ => ∃ v_ L_, o_ = .returned v_ ∧ Qkst Z k1 k2 nn G1 h0 n0 v_ V_.heap L_ ∧ FrameEnd U_ o_ V_ L_ r_m7.cells r_m7.slots) := by
  refine MetFree.of_bodySF (plainFor_of_name pn_2) hisR ?_
  intro p e s m args below meth c s₁ Bd hml0 hP hK
  obtain ⟨rfl, hZ, hh⟩ := hP
  have hx := Bd.exec
  have hby := Bd.bytes
  have hml : c.maxLocals = 5 := hml0
  have hown : s.vm.findClass "com/example/even_counter/evencounter/CounterIdCompareToPinLaw" = some m.cls := findClass_of_methodNamed Bd.named
  have hnm := (name_of_methodNamed Bd.named Bd.method).1
  have X0 : Stand p l e r_m7 s m #[(.int (Int32.ofNat k1)), (.int (Int32.ofNat k2)), (.int (Int32.ofNat nn))] below meth c s₁ [] 0 0 := Stand.of_body Bd
  have e0 : s₁.heap = h0 := by rw [← hh, Bd.state]; rfl
  have N0 := Fr.nil n0
  have zo := q2.1
  refine Gl.go (A := s₁.setTop (entryFrame m #[(.int (Int32.ofNat k1)), (.int (Int32.ofNat k2)), (.int (Int32.ofNat nn))] 5)) (P := fun o_ U_ => ∃ v_ L_, o_ = .returned v_ ∧ Qkst Z k1 k2 nn G1 h0 n0 v_ U_.heap L_ ∧ FrameEnd s o_ U_ L_ r_m7.cells r_m7.slots) (fun t_ k_ => castTop (ef_kst m (Int32.ofNat k1) (Int32.ofNat k2) (Int32.ofNat nn)) k_) ?_
  show Gl p.tables e below _ (s₁.setTop (mkF m 0 #[sI (Int32.ofNat k1), sI (Int32.ofNat k2), sI (Int32.ofNat nn), sU, sU] []))
  rcases id hn with hn1 | hn1
  · refine Gl.cast (F' := (mkF m 0 #[sI (Int32.ofNat k1), sI (Int32.ofNat k2), sI 1, sU, sU] [])) (by rw [hn1]; first | done | rfl) ?_
    show Gl p.tables e below _ (s₁.setTop (mkF m 0 #[sI (Int32.ofNat k1), sI (Int32.ofNat k2), sI 1, sU, sU] []))
    refine Gl.go (fun _ hr => zXS_iloadN X0.here hx rfl (hb hby d10_0) rfl hr) ?_
    refine Gl.go (X0.ldcInt hx hown (mvT hZ (tw hw 49 rfl)) rfl (hb hby d10_1)) ?_
    by_cases hc298 : (Int32.ofNat k1) < (65536 : Int32)
    · refine Gl.go (fun _ hr => zXS_icmpYes X0.here hx rfl (pc0 := 3) (pc' := 10) rfl (hb hby d10_3) rfl (XT.ii_lt_t hc298) (by decide) (by decide) hr) ?_
      have hs_k1 : k1 < 65536 := own_lt32' (b := 65536) (by omega) (by decide) hc298
      refine Gl.go (fun _ hr => zXS_iconst X0.here hx rfl (hb hby d10_10) (zXS_istoreN X0.here hx rfl (hb hby d10_11) rfl (l' := #[sI (Int32.ofNat k1), sI (Int32.ofNat k2), sI 1, sI 0, sU]) rfl hr)) ?_
      show Gl p.tables e below _ (s₁.setTop (mkF m 12 #[sI (Int32.ofNat k1), sI (Int32.ofNat k2), sI 1, sI 0, sU] []))
      obtain ⟨T299, ⟨lc299, N299, X299, e299⟩, st299⟩ : Sg (fun U => ∃ lc, Fr n0 lc ∧ Stand p l e r_m7 s m #[(.int (Int32.ofNat k1)), (.int (Int32.ofNat k2)), (.int (Int32.ofNat nn))] below meth c U lc 0 0 ∧ U.heap = h0) (mkF m 23 #[sI (Int32.ofNat k1), sI (Int32.ofNat k2), sI 1, sI 0, sU] [(.int (if k2 < 65536 then (0 : Int32) else (1 : Int32)))]) p.tables e below (s₁.setTop (mkF m 12 #[sI (Int32.ofNat k1), sI (Int32.ofNat k2), sI 1, sI 0, sU] [])) := by
        refine Sg.go (fun _ hr => zXS_iloadN X0.here hx rfl (hb hby d10_12) rfl hr) ?_
        refine Sg.go (X0.ldcInt hx hown (mvT hZ (tw hw 49 rfl)) rfl (hb hby d10_13)) ?_
        by_cases hc300 : (Int32.ofNat k2) < (65536 : Int32)
        · refine Sg.go (fun _ hr => zXS_icmpYes X0.here hx rfl (pc0 := 15) (pc' := 22) rfl (hb hby d10_15) rfl (XT.ii_lt_t hc300) (by decide) (by decide) hr) ?_
          have hs_k2 : k2 < 65536 := own_lt32' (b := 65536) (by omega) (by decide) hc300
          refine Sg.go (fun _ hr => zXS_iconst X0.here hx rfl (hb hby d10_22) hr) ?_
          show Sg _ _ p.tables e below (s₁.setTop (mkF m 23 #[sI (Int32.ofNat k1), sI (Int32.ofNat k2), sI 1, sI 0, sU] [(.int (0 : Int32))]))
          exact ⟨s₁, ⟨_, N0, X0, e0⟩, fun _ hr => by rw [if_pos hs_k2] at hr; exact hr⟩
        · refine Sg.go (fun _ hr => zXS_icmpNo X0.here hx rfl (hb hby d10_15) rfl (XT.ii_lt_f hc300) hr) ?_
          have hs_k2 : 65536 ≤ k2 := own_ge32 (b := 65536) (by omega) (by decide) hc300
          refine Sg.go (fun _ hr => zXS_iconst X0.here hx rfl (hb hby d10_18) (zXS_goto X0.here hx rfl (pc0 := 19) (pc' := 23) rfl (hb hby d10_19) (by decide) (by decide) hr)) ?_
          show Sg _ _ p.tables e below (s₁.setTop (mkF m 23 #[sI (Int32.ofNat k1), sI (Int32.ofNat k2), sI 1, sI 0, sU] [(.int (1 : Int32))]))
          exact ⟨s₁, ⟨_, N0, X0, e0⟩, fun _ hr => by rw [if_neg (Nat.not_lt.mpr hs_k2)] at hr; exact hr⟩
      refine Gl.go st299 ?_
      show Gl p.tables e below _ (T299.setTop (mkF m 23 #[sI (Int32.ofNat k1), sI (Int32.ofNat k2), sI 1, sI 0, sU] [(.int (if k2 < 65536 then (0 : Int32) else (1 : Int32)))]))
      refine Gl.go (fun _ hr => zXS_istore X299.here hx rfl (hb hby d10_23) rfl (l' := #[sI (Int32.ofNat k1), sI (Int32.ofNat k2), sI 1, sI 0, sI (if k2 < 65536 then (0 : Int32) else (1 : Int32))]) rfl (zXS_iloadN X299.here hx rfl (hb hby d10_25) rfl (zXS_iconst X299.here hx rfl (hb hby d10_26) (zXS_icmpNo X299.here hx rfl (hb hby d10_27) rfl (XT.ii_ne_f (by decide)) (zXS_iloadN X299.here hx rfl (hb hby d10_30) rfl (zXS_ifYes X299.here hx rfl (pc0 := 31) (pc' := 59) rfl (hb hby d10_31) rfl (XT.i0_eq_t (by decide)) (by decide) (by decide) hr)))))) ?_
      refine gNew Gl.cl X299 hx hZ hown (tw hw 16 rfl) (tw hw 17 rfl) (tw hw 18 rfl) e299 rfl (hb hby d10_59) (by decide) (by decide) ?_
      intro T301 h301 b301 g301 X301 e301 E301 A301 D301
      have z302 : h0.size ≤ h301.size := E301.1
      have lt301 := own_alt A301.lt
      have F301_coder : Fld Z h301 b301 "java/lang/String" "coder" "B" (.int (0 : Int32)) := D301 (Or.inr (tw hw 43 rfl)) (ty := .byte) (by decide)
      have F301_value : Fld Z h301 b301 "java/lang/String" "value" "[B" .null := D301 (Or.inr (tw hw 45 rfl)) (ty := (.array .byte)) (by decide)
      refine Gl.go (fun _ hr => zXS_dup X301.here hx rfl (hb hby d10_62) rfl rfl (zXS_iconst X301.here hx rfl (hb hby d10_63) hr)) ?_
      refine gNewP Gl.cl X301 hx hZ (tw hw 19 rfl) e301 rfl (hb hby d10_64) rfl (by decide) (cap := 1) (by decide) (by decide) (by decide) (by decide) ?_
      intro T303 h303 b303 k303 g303 X303 e303 E303 A303
      have z304 : h301.size ≤ h303.size := E303.1
      have lt303 := own_alt A303.lt
      have V303 : Arv Z h303 b303 k303 .char (1 : Int32) [(.int (0 : Int32))] (.int (0 : Int32)) := (Arv.new A303 (by decide)).pad (pad_rep [] (.int (0 : Int32)) 1)
      refine Gl.go (fun _ hr => zXS_dup X303.here hx rfl (hb hby d10_66) rfl rfl (zXS_iconst X303.here hx rfl (hb hby d10_67) (zXS_iloadN X303.here hx rfl (hb hby d10_68) rfl hr))) ?_
      have zz305 : n0 ≤ h303.size := by omega
      refine gStaticN Gl.cl (y := y_12) (argsL := [(.int (Int32.ofNat k1))]) (rest := [(.int (0 : Int32)), (.ref b303), (.ref b303), (.ref b301), (.ref b301)]) (mc := 0) (ms := 0) X303 hx hZ hown (mvT hZ (tw hw 50 rfl)) (mvT hZ (tw hw 51 rfl)) (mvT hZ (tw hw 2 rfl)) (mvT hZ (tw hw 52 rfl)) (by decide) (backOf (W := 5) (hib l Z a0 hw [] k1 h303 n0 zz305 hs_k1) hZ (tw hw 52 rfl) (tw hw 2 rfl) (by decide) (by decide)) rfl (by rw [hml]; rfl) (lenOf pd_9 rfl) rfl (by exact Nat.le_of_eq rfl) (hb hby d10_69) rfl e303 (by decide) (by decide) ?_
      intro v305 T305 Lc305 hQ305 X305
      obtain ⟨rfl, Nq305, e305⟩ := hQ305
      have N305 := Fr.app N299 Nq305
      obtain ⟨c306, a306, q306, s306, m306, H306, U306⟩ := id V303
      refine gstC Gl.cl X305 hx hZ e305 a306 (j := (0 : Int32)) (inb_of s306 ⟨(by decide), (by decide)⟩) rfl rfl (hb hby d10_72) ?_
      intro T306 h306 X306 e306 W306
      have z307 : h303.size ≤ h306.size := (Keep.of_wr W306).1
      rw [(own_nar_wid (own_widN hs_k1))] at W306
      have V306 : Arv Z h306 b303 k303 .char (1 : Int32) [(.int (Int32.ofNat k1))] (.int (0 : Int32)) := Arv.set a306 q306 s306 m306 H306 U306 (own_fit_wid (own_widN hs_k1)) W306 0 rfl (Nat.le_of_ble_eq_true rfl)
      have om308 : @LE.le Nat instLENat n0 b303 := by omega
      have N306 := Fr.snoc X306 N305 (own_ale om308)
      have hp309 : ∀ c ∈ ([(Int32.ofNat k1)] : List Int32), Wid c := (own_cS (P := Wid) (own_widN hs_k1) own_c0)
      have Oc310 := (((q2.ext E301).ext E303).wr W306 (own_ale om308))
      have Ec311 := ((A301.ext E303).wr W306)
      have om312 : ¬ @Eq Nat b301 b303 := by omega
      have Fc313 := ((F301_value.ext E303).other W306 (Or.inl (own_ane om312)))
      have Fc314 := ((F301_coder.ext E303).other W306 (Or.inl (own_ane om312)))
      have zz309 : n0 ≤ h306.size := by omega
      refine gSpecialN Gl.cl (y := y_9) (b := b301) (argsL := [(.ref b303)]) (rest := [(.ref b301)]) (mc := 2) (ms := 12) X306 hx hZ hown rfl (mvT hZ (tw hw 20 rfl)) (mvT hZ (tw hw 21 rfl)) (mvT hZ (tw hw 22 rfl)) (by decide) (backOf (W := 1) (invL l Z a0 hw [] b301 b303 k303 ([(Int32.ofNat k1)] : List Int32) G1 h306 n0 zz309 q0 (by assumption) Oc310 q3 q4 q5 (by omega) Ec311 Fc313 Fc314 V306 hp309 (Nat.le_of_ble_eq_true rfl) (Nat.le_of_ble_eq_true rfl)) hZ (tw hw 22 rfl) (tw hw 18 rfl) (by decide) (by decide)) rfl (by rw [hml]; rfl) (lenOf pd_8 rfl) rfl (by exact Nat.le_of_eq rfl) (hb hby d10_73) rfl e306 (by decide) (by decide) ?_
      intro v309 T309 Lc309 hQ309 X309
      obtain ⟨t_309, kb_309, cd_309, N2_309, vs_309, rfl, Nq309, K309, f309_0, f309_1, f309_2, f309_3, f309_4, p309_cod⟩ := hQ309
      have z315 : h306.size ≤ T309.heap.size := K309.1
      have N309 := Fr.app N306 Nq309
      have lt316 := own_alt f309_0.lt
      have lt317 := own_alt f309_1.lt
      have lt318 := own_alt f309_2.lt
      have lt319 := own_alt f309_3.lt
      obtain ⟨fs, hr, hrun, hended, hW, hsame⟩ := X309.leave (v := some (.ref b301)) (fun h => by rw [Bd.returns] at h; cases h)
      have om320 : @LE.le Nat instLENat h0.size b303 := by omega
      have om321 : @LE.le Nat instLENat h0.size b301 := by omega
      refine ⟨_, _, retOut X309 hx Bd.returns rfl (Or.inr (Or.inr (Or.inr (Or.inr ⟨rfl, rfl, rfl⟩)))) (hb hby d10_76) hr, hrun, hended, _, _, rfl, ?_, ⟨⟨_, rfl⟩, hW, hsame.mono (by decide) (by decide)⟩⟩
      show Qkst Z k1 k2 nn G1 h0 n0 _ T309.heap _
      exact ⟨b301, t_309, kb_309, cd_309, N2_309, vs_309, rfl, N309, (((((Keep.refl h0 []).ext E301).ext E303).wr W306 (Or.inr (own_ale om320))).trans K309 (allS (P := fun x_ => x_ ∈ ([] : List Addr) ∨ h0.size ≤ x_) (Or.inr (own_ale om321)) all0)), f309_0, f309_1, f309_2, f309_3, ⟨by omega, by omega⟩, (by rw [own_unl1 hn1, (own_unb hs_k1)]; exact p309_cod)⟩
    · refine Gl.go (fun _ hr => zXS_icmpNo X0.here hx rfl (hb hby d10_3) rfl (XT.ii_lt_f hc298) hr) ?_
      have hs_k1 : 65536 ≤ k1 := own_ge32 (b := 65536) (by omega) (by decide) hc298
      refine Gl.go (fun _ hr => zXS_iconst X0.here hx rfl (hb hby d10_6) (zXS_goto X0.here hx rfl (pc0 := 7) (pc' := 11) rfl (hb hby d10_7) (by decide) (by decide) (zXS_istoreN X0.here hx rfl (hb hby d10_11) rfl (l' := #[sI (Int32.ofNat k1), sI (Int32.ofNat k2), sI 1, sI 1, sU]) rfl hr))) ?_
      show Gl p.tables e below _ (s₁.setTop (mkF m 12 #[sI (Int32.ofNat k1), sI (Int32.ofNat k2), sI 1, sI 1, sU] []))
      obtain ⟨T322, ⟨lc322, N322, X322, e322⟩, st322⟩ : Sg (fun U => ∃ lc, Fr n0 lc ∧ Stand p l e r_m7 s m #[(.int (Int32.ofNat k1)), (.int (Int32.ofNat k2)), (.int (Int32.ofNat nn))] below meth c U lc 0 0 ∧ U.heap = h0) (mkF m 23 #[sI (Int32.ofNat k1), sI (Int32.ofNat k2), sI 1, sI 1, sU] [(.int (if k2 < 65536 then (0 : Int32) else (1 : Int32)))]) p.tables e below (s₁.setTop (mkF m 12 #[sI (Int32.ofNat k1), sI (Int32.ofNat k2), sI 1, sI 1, sU] [])) := by
        refine Sg.go (fun _ hr => zXS_iloadN X0.here hx rfl (hb hby d10_12) rfl hr) ?_
        refine Sg.go (X0.ldcInt hx hown (mvT hZ (tw hw 49 rfl)) rfl (hb hby d10_13)) ?_
        by_cases hc323 : (Int32.ofNat k2) < (65536 : Int32)
        · refine Sg.go (fun _ hr => zXS_icmpYes X0.here hx rfl (pc0 := 15) (pc' := 22) rfl (hb hby d10_15) rfl (XT.ii_lt_t hc323) (by decide) (by decide) hr) ?_
          have hs_k2 : k2 < 65536 := own_lt32' (b := 65536) (by omega) (by decide) hc323
          refine Sg.go (fun _ hr => zXS_iconst X0.here hx rfl (hb hby d10_22) hr) ?_
          show Sg _ _ p.tables e below (s₁.setTop (mkF m 23 #[sI (Int32.ofNat k1), sI (Int32.ofNat k2), sI 1, sI 1, sU] [(.int (0 : Int32))]))
          exact ⟨s₁, ⟨_, N0, X0, e0⟩, fun _ hr => by rw [if_pos hs_k2] at hr; exact hr⟩
        · refine Sg.go (fun _ hr => zXS_icmpNo X0.here hx rfl (hb hby d10_15) rfl (XT.ii_lt_f hc323) hr) ?_
          have hs_k2 : 65536 ≤ k2 := own_ge32 (b := 65536) (by omega) (by decide) hc323
          refine Sg.go (fun _ hr => zXS_iconst X0.here hx rfl (hb hby d10_18) (zXS_goto X0.here hx rfl (pc0 := 19) (pc' := 23) rfl (hb hby d10_19) (by decide) (by decide) hr)) ?_
          show Sg _ _ p.tables e below (s₁.setTop (mkF m 23 #[sI (Int32.ofNat k1), sI (Int32.ofNat k2), sI 1, sI 1, sU] [(.int (1 : Int32))]))
          exact ⟨s₁, ⟨_, N0, X0, e0⟩, fun _ hr => by rw [if_neg (Nat.not_lt.mpr hs_k2)] at hr; exact hr⟩
      refine Gl.go st322 ?_
      show Gl p.tables e below _ (T322.setTop (mkF m 23 #[sI (Int32.ofNat k1), sI (Int32.ofNat k2), sI 1, sI 1, sU] [(.int (if k2 < 65536 then (0 : Int32) else (1 : Int32)))]))
      refine Gl.go (fun _ hr => zXS_istore X322.here hx rfl (hb hby d10_23) rfl (l' := #[sI (Int32.ofNat k1), sI (Int32.ofNat k2), sI 1, sI 1, sI (if k2 < 65536 then (0 : Int32) else (1 : Int32))]) rfl (zXS_iloadN X322.here hx rfl (hb hby d10_25) rfl (zXS_iconst X322.here hx rfl (hb hby d10_26) (zXS_icmpNo X322.here hx rfl (hb hby d10_27) rfl (XT.ii_ne_f (by decide)) (zXS_iloadN X322.here hx rfl (hb hby d10_30) rfl (zXS_ifNo X322.here hx rfl (hb hby d10_31) rfl (XT.i0_eq_f (by decide)) hr)))))) ?_
      refine gNew Gl.cl X322 hx hZ hown (tw hw 16 rfl) (tw hw 17 rfl) (tw hw 18 rfl) e322 rfl (hb hby d10_34) (by decide) (by decide) ?_
      intro T324 h324 b324 g324 X324 e324 E324 A324 D324
      have z325 : h0.size ≤ h324.size := E324.1
      have lt324 := own_alt A324.lt
      have F324_coder : Fld Z h324 b324 "java/lang/String" "coder" "B" (.int (0 : Int32)) := D324 (Or.inr (tw hw 43 rfl)) (ty := .byte) (by decide)
      have F324_value : Fld Z h324 b324 "java/lang/String" "value" "[B" .null := D324 (Or.inr (tw hw 45 rfl)) (ty := (.array .byte)) (by decide)
      refine Gl.go (fun _ hr => zXS_dup X324.here hx rfl (hb hby d10_37) rfl rfl (zXS_iconst X324.here hx rfl (hb hby d10_38) hr)) ?_
      refine gNewP Gl.cl X324 hx hZ (tw hw 19 rfl) e324 rfl (hb hby d10_39) rfl (by decide) (cap := 2) (by decide) (by decide) (by decide) (by decide) ?_
      intro T326 h326 b326 k326 g326 X326 e326 E326 A326
      have z327 : h324.size ≤ h326.size := E326.1
      have lt326 := own_alt A326.lt
      have V326 : Arv Z h326 b326 k326 .char (2 : Int32) [(.int (0 : Int32)), (.int (0 : Int32))] (.int (0 : Int32)) := (Arv.new A326 (by decide)).pad (pad_rep [] (.int (0 : Int32)) 2)
      refine Gl.go (fun _ hr => zXS_dup X326.here hx rfl (hb hby d10_41) rfl rfl (zXS_iconst X326.here hx rfl (hb hby d10_42) (zXS_iloadN X326.here hx rfl (hb hby d10_43) rfl hr))) ?_
      have zz328 : n0 ≤ h326.size := by omega
      refine gStaticN Gl.cl (y := y_12) (argsL := [(.int (Int32.ofNat k1))]) (rest := [(.int (0 : Int32)), (.ref b326), (.ref b326), (.ref b324), (.ref b324)]) (mc := 0) (ms := 0) X326 hx hZ hown (mvT hZ (tw hw 50 rfl)) (mvT hZ (tw hw 51 rfl)) (mvT hZ (tw hw 2 rfl)) (mvT hZ (tw hw 52 rfl)) (by decide) (backOf (W := 5) (his l Z a0 hw [] k1 h326 n0 zz328 hs_k1 hk1.1.2) hZ (tw hw 52 rfl) (tw hw 2 rfl) (by decide) (by decide)) rfl (by rw [hml]; rfl) (lenOf pd_9 rfl) rfl (by exact Nat.le_of_eq rfl) (hb hby d10_44) rfl e326 (by decide) (by decide) ?_
      intro v328 T328 Lc328 hQ328 X328
      obtain ⟨rfl, Nq328, e328⟩ := hQ328
      have N328 := Fr.app N322 Nq328
      obtain ⟨c329, a329, q329, s329, m329, H329, U329⟩ := id V326
      refine gstC Gl.cl X328 hx hZ e328 a329 (j := (0 : Int32)) (inb_of s329 ⟨(by decide), (by decide)⟩) rfl rfl (hb hby d10_47) ?_
      intro T329 h329 X329 e329 W329
      have z330 : h326.size ≤ h329.size := (Keep.of_wr W329).1
      rw [(own_nar_wid (own_widN (by have := hiN_lt hk1.1.2; omega)))] at W329
      have V329 : Arv Z h329 b326 k326 .char (2 : Int32) [(.int (Int32.ofNat (hiN k1))), (.int (0 : Int32))] (.int (0 : Int32)) := Arv.set a329 q329 s329 m329 H329 U329 (own_fit_wid (own_widN (by have := hiN_lt hk1.1.2; omega))) W329 0 rfl (Nat.le_of_ble_eq_true rfl)
      have om331 : @LE.le Nat instLENat n0 b326 := by omega
      have N329 := Fr.snoc X329 N328 (own_ale om331)
      refine Gl.go (fun _ hr => zXS_dup X329.here hx rfl (hb hby d10_48) rfl rfl (zXS_iconst X329.here hx rfl (hb hby d10_49) (zXS_iloadN X329.here hx rfl (hb hby d10_50) rfl hr))) ?_
      have zz332 : n0 ≤ h329.size := by omega
      refine gStaticN Gl.cl (y := y_13) (argsL := [(.int (Int32.ofNat k1))]) (rest := [(.int (1 : Int32)), (.ref b326), (.ref b326), (.ref b324), (.ref b324)]) (mc := 0) (ms := 0) X329 hx hZ hown (mvT hZ (tw hw 183 rfl)) (mvT hZ (tw hw 184 rfl)) (mvT hZ (tw hw 2 rfl)) (mvT hZ (tw hw 185 rfl)) (by decide) (backOf (W := 5) (los l Z a0 hw [] k1 h329 n0 zz332 hs_k1 hk1.1.2) hZ (tw hw 185 rfl) (tw hw 2 rfl) (by decide) (by decide)) rfl (by rw [hml]; rfl) (lenOf pd_9 rfl) rfl (by exact Nat.le_of_eq rfl) (hb hby d10_51) rfl e329 (by decide) (by decide) ?_
      intro v332 T332 Lc332 hQ332 X332
      obtain ⟨rfl, Nq332, e332⟩ := hQ332
      have N332 := Fr.app N329 Nq332
      obtain ⟨c333, a333, q333, s333, m333, H333, U333⟩ := id V329
      refine gstC Gl.cl X332 hx hZ e332 a333 (j := (1 : Int32)) (inb_of s333 ⟨(by decide), (by decide)⟩) rfl rfl (hb hby d10_54) ?_
      intro T333 h333 X333 e333 W333
      have z334 : h329.size ≤ h333.size := (Keep.of_wr W333).1
      rw [(own_nar_wid (own_widN (by have := loN_lt k1; omega)))] at W333
      have V333 : Arv Z h333 b326 k326 .char (2 : Int32) [(.int (Int32.ofNat (hiN k1))), (.int (Int32.ofNat (loN k1)))] (.int (0 : Int32)) := Arv.set a333 q333 s333 m333 H333 U333 (own_fit_wid (own_widN (by have := loN_lt k1; omega))) W333 1 rfl (Nat.le_of_ble_eq_true rfl)
      have N333 := Fr.snoc X333 N332 (own_ale om331)
      have hp335 : ∀ c ∈ ([(Int32.ofNat (hiN k1)), (Int32.ofNat (loN k1))] : List Int32), Wid c := (own_cS (P := Wid) (own_widN (by have := hiN_lt hk1.1.2; omega)) (own_cS (P := Wid) (own_widN (by have := loN_lt k1; omega)) own_c0))
      have Oc336 := ((((q2.ext E324).ext E326).wr W329 (own_ale om331)).wr W333 (own_ale om331))
      have Ec337 := (((A324.ext E326).wr W329).wr W333)
      have om338 : ¬ @Eq Nat b324 b326 := by omega
      have Fc339 := (((F324_value.ext E326).other W329 (Or.inl (own_ane om338))).other W333 (Or.inl (own_ane om338)))
      have Fc340 := (((F324_coder.ext E326).other W329 (Or.inl (own_ane om338))).other W333 (Or.inl (own_ane om338)))
      have zz335 : n0 ≤ h333.size := by omega
      refine gSpecialN Gl.cl (y := y_9) (b := b324) (argsL := [(.ref b326)]) (rest := [(.ref b324)]) (mc := 2) (ms := 12) X333 hx hZ hown rfl (mvT hZ (tw hw 20 rfl)) (mvT hZ (tw hw 21 rfl)) (mvT hZ (tw hw 22 rfl)) (by decide) (backOf (W := 1) (invL l Z a0 hw [] b324 b326 k326 ([(Int32.ofNat (hiN k1)), (Int32.ofNat (loN k1))] : List Int32) G1 h333 n0 zz335 q0 (by assumption) Oc336 q3 q4 q5 (by omega) Ec337 Fc339 Fc340 V333 hp335 (Nat.le_of_ble_eq_true rfl) (Nat.le_of_ble_eq_true rfl)) hZ (tw hw 22 rfl) (tw hw 18 rfl) (by decide) (by decide)) rfl (by rw [hml]; rfl) (lenOf pd_8 rfl) rfl (by exact Nat.le_of_eq rfl) (hb hby d10_55) rfl e333 (by decide) (by decide) ?_
      intro v335 T335 Lc335 hQ335 X335
      obtain ⟨t_335, kb_335, cd_335, N2_335, vs_335, rfl, Nq335, K335, f335_0, f335_1, f335_2, f335_3, f335_4, p335_cod⟩ := hQ335
      have z341 : h333.size ≤ T335.heap.size := K335.1
      have N335 := Fr.app N333 Nq335
      have lt342 := own_alt f335_0.lt
      have lt343 := own_alt f335_1.lt
      have lt344 := own_alt f335_2.lt
      have lt345 := own_alt f335_3.lt
      obtain ⟨fs, hr, hrun, hended, hW, hsame⟩ := X335.leave (v := some (.ref b324)) (fun h => by rw [Bd.returns] at h; cases h)
      have om346 : @LE.le Nat instLENat h0.size b326 := by omega
      have om347 : @LE.le Nat instLENat h0.size b324 := by omega
      refine ⟨_, _, retOut X335 hx Bd.returns rfl (Or.inr (Or.inr (Or.inr (Or.inr ⟨rfl, rfl, rfl⟩)))) (hb hby d10_58) hr, hrun, hended, _, _, rfl, ?_, ⟨⟨_, rfl⟩, hW, hsame.mono (by decide) (by decide)⟩⟩
      show Qkst Z k1 k2 nn G1 h0 n0 _ T335.heap _
      exact ⟨b324, t_335, kb_335, cd_335, N2_335, vs_335, rfl, N335, ((((((Keep.refl h0 []).ext E324).ext E326).wr W329 (Or.inr (own_ale om346))).wr W333 (Or.inr (own_ale om346))).trans K335 (allS (P := fun x_ => x_ ∈ ([] : List Addr) ∨ h0.size ≤ x_) (Or.inr (own_ale om347)) all0)), f335_0, f335_1, f335_2, f335_3, ⟨by omega, by omega⟩, (by rw [own_unl1 hn1, (own_uns (Nat.not_lt.mpr hs_k1))]; exact p335_cod)⟩
  · refine Gl.cast (F' := (mkF m 0 #[sI (Int32.ofNat k1), sI (Int32.ofNat k2), sI 2, sU, sU] [])) (by rw [hn1]; first | done | rfl) ?_
    show Gl p.tables e below _ (s₁.setTop (mkF m 0 #[sI (Int32.ofNat k1), sI (Int32.ofNat k2), sI 2, sU, sU] []))
    refine Gl.go (fun _ hr => zXS_iloadN X0.here hx rfl (hb hby d10_0) rfl hr) ?_
    refine Gl.go (X0.ldcInt hx hown (mvT hZ (tw hw 49 rfl)) rfl (hb hby d10_1)) ?_
    by_cases hc348 : (Int32.ofNat k1) < (65536 : Int32)
    · refine Gl.go (fun _ hr => zXS_icmpYes X0.here hx rfl (pc0 := 3) (pc' := 10) rfl (hb hby d10_3) rfl (XT.ii_lt_t hc348) (by decide) (by decide) hr) ?_
      have hs_k1 : k1 < 65536 := own_lt32' (b := 65536) (by omega) (by decide) hc348
      refine Gl.go (fun _ hr => zXS_iconst X0.here hx rfl (hb hby d10_10) (zXS_istoreN X0.here hx rfl (hb hby d10_11) rfl (l' := #[sI (Int32.ofNat k1), sI (Int32.ofNat k2), sI 2, sI 0, sU]) rfl (zXS_iloadN X0.here hx rfl (hb hby d10_12) rfl hr))) ?_
      refine Gl.go (X0.ldcInt hx hown (mvT hZ (tw hw 49 rfl)) rfl (hb hby d10_13)) ?_
      by_cases hc349 : (Int32.ofNat k2) < (65536 : Int32)
      · refine Gl.go (fun _ hr => zXS_icmpYes X0.here hx rfl (pc0 := 15) (pc' := 22) rfl (hb hby d10_15) rfl (XT.ii_lt_t hc349) (by decide) (by decide) hr) ?_
        have hs_k2 : k2 < 65536 := own_lt32' (b := 65536) (by omega) (by decide) hc349
        refine Gl.go (fun _ hr => zXS_iconst X0.here hx rfl (hb hby d10_22) (zXS_istore X0.here hx rfl (hb hby d10_23) rfl (l' := #[sI (Int32.ofNat k1), sI (Int32.ofNat k2), sI 2, sI 0, sI 0]) rfl (zXS_iloadN X0.here hx rfl (hb hby d10_25) rfl (zXS_iconst X0.here hx rfl (hb hby d10_26) (zXS_icmpYes X0.here hx rfl (pc0 := 27) (pc' := 77) rfl (hb hby d10_27) rfl (XT.ii_ne_t (by decide)) (by decide) (by decide) (zXS_iloadN X0.here hx rfl (hb hby d10_77) rfl (zXS_ifYes X0.here hx rfl (pc0 := 78) (pc' := 125) rfl (hb hby d10_78) rfl (XT.i0_eq_t (by decide)) (by decide) (by decide) (zXS_iloadN X0.here hx rfl (hb hby d10_125) rfl (zXS_ifYes X0.here hx rfl (pc0 := 126) (pc' := 161) rfl (hb hby d10_126) rfl (XT.i0_eq_t (by decide)) (by decide) (by decide) (zXS_iload X0.here hx rfl (hb hby d10_161) rfl hr)))))))))) ?_
        refine Gl.go (fun _ hr => zXS_ifYes X0.here hx rfl (pc0 := 163) (pc' := 198) rfl (hb hby d10_163) rfl (XT.i0_eq_t (by decide)) (by decide) (by decide) hr) ?_
        refine gNew Gl.cl X0 hx hZ hown (tw hw 16 rfl) (tw hw 17 rfl) (tw hw 18 rfl) e0 rfl (hb hby d10_198) (by decide) (by decide) ?_
        intro T350 h350 b350 g350 X350 e350 E350 A350 D350
        have z351 : h0.size ≤ h350.size := E350.1
        have lt350 := own_alt A350.lt
        have F350_coder : Fld Z h350 b350 "java/lang/String" "coder" "B" (.int (0 : Int32)) := D350 (Or.inr (tw hw 43 rfl)) (ty := .byte) (by decide)
        have F350_value : Fld Z h350 b350 "java/lang/String" "value" "[B" .null := D350 (Or.inr (tw hw 45 rfl)) (ty := (.array .byte)) (by decide)
        refine Gl.go (fun _ hr => zXS_dup X350.here hx rfl (hb hby d10_201) rfl rfl (zXS_iconst X350.here hx rfl (hb hby d10_202) hr)) ?_
        refine gNewP Gl.cl X350 hx hZ (tw hw 19 rfl) e350 rfl (hb hby d10_203) rfl (by decide) (cap := 2) (by decide) (by decide) (by decide) (by decide) ?_
        intro T352 h352 b352 k352 g352 X352 e352 E352 A352
        have z353 : h350.size ≤ h352.size := E352.1
        have lt352 := own_alt A352.lt
        have V352 : Arv Z h352 b352 k352 .char (2 : Int32) [(.int (0 : Int32)), (.int (0 : Int32))] (.int (0 : Int32)) := (Arv.new A352 (by decide)).pad (pad_rep [] (.int (0 : Int32)) 2)
        refine Gl.go (fun _ hr => zXS_dup X352.here hx rfl (hb hby d10_205) rfl rfl (zXS_iconst X352.here hx rfl (hb hby d10_206) (zXS_iloadN X352.here hx rfl (hb hby d10_207) rfl hr))) ?_
        have zz354 : n0 ≤ h352.size := by omega
        refine gStaticN Gl.cl (y := y_12) (argsL := [(.int (Int32.ofNat k1))]) (rest := [(.int (0 : Int32)), (.ref b352), (.ref b352), (.ref b350), (.ref b350)]) (mc := 0) (ms := 0) X352 hx hZ hown (mvT hZ (tw hw 50 rfl)) (mvT hZ (tw hw 51 rfl)) (mvT hZ (tw hw 2 rfl)) (mvT hZ (tw hw 52 rfl)) (by decide) (backOf (W := 5) (hib l Z a0 hw [] k1 h352 n0 zz354 hs_k1) hZ (tw hw 52 rfl) (tw hw 2 rfl) (by decide) (by decide)) rfl (by rw [hml]; rfl) (lenOf pd_9 rfl) rfl (by exact Nat.le_of_eq rfl) (hb hby d10_208) rfl e352 (by decide) (by decide) ?_
        intro v354 T354 Lc354 hQ354 X354
        obtain ⟨rfl, Nq354, e354⟩ := hQ354
        have N354 := Fr.app N0 Nq354
        obtain ⟨c355, a355, q355, s355, m355, H355, U355⟩ := id V352
        refine gstC Gl.cl X354 hx hZ e354 a355 (j := (0 : Int32)) (inb_of s355 ⟨(by decide), (by decide)⟩) rfl rfl (hb hby d10_211) ?_
        intro T355 h355 X355 e355 W355
        have z356 : h352.size ≤ h355.size := (Keep.of_wr W355).1
        rw [(own_nar_wid (own_widN hs_k1))] at W355
        have V355 : Arv Z h355 b352 k352 .char (2 : Int32) [(.int (Int32.ofNat k1)), (.int (0 : Int32))] (.int (0 : Int32)) := Arv.set a355 q355 s355 m355 H355 U355 (own_fit_wid (own_widN hs_k1)) W355 0 rfl (Nat.le_of_ble_eq_true rfl)
        have om357 : @LE.le Nat instLENat n0 b352 := by omega
        have N355 := Fr.snoc X355 N354 (own_ale om357)
        refine Gl.go (fun _ hr => zXS_dup X355.here hx rfl (hb hby d10_212) rfl rfl (zXS_iconst X355.here hx rfl (hb hby d10_213) (zXS_iloadN X355.here hx rfl (hb hby d10_214) rfl hr))) ?_
        have zz358 : n0 ≤ h355.size := by omega
        refine gStaticN Gl.cl (y := y_12) (argsL := [(.int (Int32.ofNat k2))]) (rest := [(.int (1 : Int32)), (.ref b352), (.ref b352), (.ref b350), (.ref b350)]) (mc := 0) (ms := 0) X355 hx hZ hown (mvT hZ (tw hw 50 rfl)) (mvT hZ (tw hw 51 rfl)) (mvT hZ (tw hw 2 rfl)) (mvT hZ (tw hw 52 rfl)) (by decide) (backOf (W := 5) (hib l Z a0 hw [] k2 h355 n0 zz358 hs_k2) hZ (tw hw 52 rfl) (tw hw 2 rfl) (by decide) (by decide)) rfl (by rw [hml]; rfl) (lenOf pd_9 rfl) rfl (by exact Nat.le_of_eq rfl) (hb hby d10_215) rfl e355 (by decide) (by decide) ?_
        intro v358 T358 Lc358 hQ358 X358
        obtain ⟨rfl, Nq358, e358⟩ := hQ358
        have N358 := Fr.app N355 Nq358
        obtain ⟨c359, a359, q359, s359, m359, H359, U359⟩ := id V355
        refine gstC Gl.cl X358 hx hZ e358 a359 (j := (1 : Int32)) (inb_of s359 ⟨(by decide), (by decide)⟩) rfl rfl (hb hby d10_218) ?_
        intro T359 h359 X359 e359 W359
        have z360 : h355.size ≤ h359.size := (Keep.of_wr W359).1
        rw [(own_nar_wid (own_widN hs_k2))] at W359
        have V359 : Arv Z h359 b352 k352 .char (2 : Int32) [(.int (Int32.ofNat k1)), (.int (Int32.ofNat k2))] (.int (0 : Int32)) := Arv.set a359 q359 s359 m359 H359 U359 (own_fit_wid (own_widN hs_k2)) W359 1 rfl (Nat.le_of_ble_eq_true rfl)
        have N359 := Fr.snoc X359 N358 (own_ale om357)
        have hp361 : ∀ c ∈ ([(Int32.ofNat k1), (Int32.ofNat k2)] : List Int32), Wid c := (own_cS (P := Wid) (own_widN hs_k1) (own_cS (P := Wid) (own_widN hs_k2) own_c0))
        have Oc362 := ((((q2.ext E350).ext E352).wr W355 (own_ale om357)).wr W359 (own_ale om357))
        have Ec363 := (((A350.ext E352).wr W355).wr W359)
        have om364 : ¬ @Eq Nat b350 b352 := by omega
        have Fc365 := (((F350_value.ext E352).other W355 (Or.inl (own_ane om364))).other W359 (Or.inl (own_ane om364)))
        have Fc366 := (((F350_coder.ext E352).other W355 (Or.inl (own_ane om364))).other W359 (Or.inl (own_ane om364)))
        have zz361 : n0 ≤ h359.size := by omega
        refine gSpecialN Gl.cl (y := y_9) (b := b350) (argsL := [(.ref b352)]) (rest := [(.ref b350)]) (mc := 2) (ms := 12) X359 hx hZ hown rfl (mvT hZ (tw hw 20 rfl)) (mvT hZ (tw hw 21 rfl)) (mvT hZ (tw hw 22 rfl)) (by decide) (backOf (W := 1) (invL l Z a0 hw [] b350 b352 k352 ([(Int32.ofNat k1), (Int32.ofNat k2)] : List Int32) G1 h359 n0 zz361 q0 (by assumption) Oc362 q3 q4 q5 (by omega) Ec363 Fc365 Fc366 V359 hp361 (Nat.le_of_ble_eq_true rfl) (Nat.le_of_ble_eq_true rfl)) hZ (tw hw 22 rfl) (tw hw 18 rfl) (by decide) (by decide)) rfl (by rw [hml]; rfl) (lenOf pd_8 rfl) rfl (by exact Nat.le_of_eq rfl) (hb hby d10_219) rfl e359 (by decide) (by decide) ?_
        intro v361 T361 Lc361 hQ361 X361
        obtain ⟨t_361, kb_361, cd_361, N2_361, vs_361, rfl, Nq361, K361, f361_0, f361_1, f361_2, f361_3, f361_4, p361_cod⟩ := hQ361
        have z367 : h359.size ≤ T361.heap.size := K361.1
        have N361 := Fr.app N359 Nq361
        have lt368 := own_alt f361_0.lt
        have lt369 := own_alt f361_1.lt
        have lt370 := own_alt f361_2.lt
        have lt371 := own_alt f361_3.lt
        obtain ⟨fs, hr, hrun, hended, hW, hsame⟩ := X361.leave (v := some (.ref b350)) (fun h => by rw [Bd.returns] at h; cases h)
        have om372 : @LE.le Nat instLENat h0.size b352 := by omega
        have om373 : @LE.le Nat instLENat h0.size b350 := by omega
        refine ⟨_, _, retOut X361 hx Bd.returns rfl (Or.inr (Or.inr (Or.inr (Or.inr ⟨rfl, rfl, rfl⟩)))) (hb hby d10_222) hr, hrun, hended, _, _, rfl, ?_, ⟨⟨_, rfl⟩, hW, hsame.mono (by decide) (by decide)⟩⟩
        show Qkst Z k1 k2 nn G1 h0 n0 _ T361.heap _
        exact ⟨b350, t_361, kb_361, cd_361, N2_361, vs_361, rfl, N361, ((((((Keep.refl h0 []).ext E350).ext E352).wr W355 (Or.inr (own_ale om372))).wr W359 (Or.inr (own_ale om372))).trans K361 (allS (P := fun x_ => x_ ∈ ([] : List Addr) ∨ h0.size ≤ x_) (Or.inr (own_ale om373)) all0)), f361_0, f361_1, f361_2, f361_3, ⟨by omega, by omega⟩, (by rw [own_unl2 hn1, (own_unb hs_k1), (own_unb hs_k2)]; exact p361_cod)⟩
      · refine Gl.go (fun _ hr => zXS_icmpNo X0.here hx rfl (hb hby d10_15) rfl (XT.ii_lt_f hc349) hr) ?_
        have hs_k2 : 65536 ≤ k2 := own_ge32 (b := 65536) (by omega) (by decide) hc349
        refine Gl.go (fun _ hr => zXS_iconst X0.here hx rfl (hb hby d10_18) (zXS_goto X0.here hx rfl (pc0 := 19) (pc' := 23) rfl (hb hby d10_19) (by decide) (by decide) (zXS_istore X0.here hx rfl (hb hby d10_23) rfl (l' := #[sI (Int32.ofNat k1), sI (Int32.ofNat k2), sI 2, sI 0, sI 1]) rfl (zXS_iloadN X0.here hx rfl (hb hby d10_25) rfl (zXS_iconst X0.here hx rfl (hb hby d10_26) (zXS_icmpYes X0.here hx rfl (pc0 := 27) (pc' := 77) rfl (hb hby d10_27) rfl (XT.ii_ne_t (by decide)) (by decide) (by decide) (zXS_iloadN X0.here hx rfl (hb hby d10_77) rfl (zXS_ifYes X0.here hx rfl (pc0 := 78) (pc' := 125) rfl (hb hby d10_78) rfl (XT.i0_eq_t (by decide)) (by decide) (by decide) (zXS_iloadN X0.here hx rfl (hb hby d10_125) rfl (zXS_ifYes X0.here hx rfl (pc0 := 126) (pc' := 161) rfl (hb hby d10_126) rfl (XT.i0_eq_t (by decide)) (by decide) (by decide) hr)))))))))) ?_
        refine Gl.go (fun _ hr => zXS_iload X0.here hx rfl (hb hby d10_161) rfl (zXS_ifNo X0.here hx rfl (hb hby d10_163) rfl (XT.i0_eq_f (by decide)) hr)) ?_
        refine gNew Gl.cl X0 hx hZ hown (tw hw 16 rfl) (tw hw 17 rfl) (tw hw 18 rfl) e0 rfl (hb hby d10_166) (by decide) (by decide) ?_
        intro T374 h374 b374 g374 X374 e374 E374 A374 D374
        have z375 : h0.size ≤ h374.size := E374.1
        have lt374 := own_alt A374.lt
        have F374_coder : Fld Z h374 b374 "java/lang/String" "coder" "B" (.int (0 : Int32)) := D374 (Or.inr (tw hw 43 rfl)) (ty := .byte) (by decide)
        have F374_value : Fld Z h374 b374 "java/lang/String" "value" "[B" .null := D374 (Or.inr (tw hw 45 rfl)) (ty := (.array .byte)) (by decide)
        refine Gl.go (fun _ hr => zXS_dup X374.here hx rfl (hb hby d10_169) rfl rfl (zXS_iconst X374.here hx rfl (hb hby d10_170) hr)) ?_
        refine gNewP Gl.cl X374 hx hZ (tw hw 19 rfl) e374 rfl (hb hby d10_171) rfl (by decide) (cap := 3) (by decide) (by decide) (by decide) (by decide) ?_
        intro T376 h376 b376 k376 g376 X376 e376 E376 A376
        have z377 : h374.size ≤ h376.size := E376.1
        have lt376 := own_alt A376.lt
        have V376 : Arv Z h376 b376 k376 .char (3 : Int32) [(.int (0 : Int32)), (.int (0 : Int32)), (.int (0 : Int32))] (.int (0 : Int32)) := (Arv.new A376 (by decide)).pad (pad_rep [] (.int (0 : Int32)) 3)
        refine Gl.go (fun _ hr => zXS_dup X376.here hx rfl (hb hby d10_173) rfl rfl (zXS_iconst X376.here hx rfl (hb hby d10_174) (zXS_iloadN X376.here hx rfl (hb hby d10_175) rfl hr))) ?_
        have zz378 : n0 ≤ h376.size := by omega
        refine gStaticN Gl.cl (y := y_12) (argsL := [(.int (Int32.ofNat k1))]) (rest := [(.int (0 : Int32)), (.ref b376), (.ref b376), (.ref b374), (.ref b374)]) (mc := 0) (ms := 0) X376 hx hZ hown (mvT hZ (tw hw 50 rfl)) (mvT hZ (tw hw 51 rfl)) (mvT hZ (tw hw 2 rfl)) (mvT hZ (tw hw 52 rfl)) (by decide) (backOf (W := 5) (hib l Z a0 hw [] k1 h376 n0 zz378 hs_k1) hZ (tw hw 52 rfl) (tw hw 2 rfl) (by decide) (by decide)) rfl (by rw [hml]; rfl) (lenOf pd_9 rfl) rfl (by exact Nat.le_of_eq rfl) (hb hby d10_176) rfl e376 (by decide) (by decide) ?_
        intro v378 T378 Lc378 hQ378 X378
        obtain ⟨rfl, Nq378, e378⟩ := hQ378
        have N378 := Fr.app N0 Nq378
        obtain ⟨c379, a379, q379, s379, m379, H379, U379⟩ := id V376
        refine gstC Gl.cl X378 hx hZ e378 a379 (j := (0 : Int32)) (inb_of s379 ⟨(by decide), (by decide)⟩) rfl rfl (hb hby d10_179) ?_
        intro T379 h379 X379 e379 W379
        have z380 : h376.size ≤ h379.size := (Keep.of_wr W379).1
        rw [(own_nar_wid (own_widN hs_k1))] at W379
        have V379 : Arv Z h379 b376 k376 .char (3 : Int32) [(.int (Int32.ofNat k1)), (.int (0 : Int32)), (.int (0 : Int32))] (.int (0 : Int32)) := Arv.set a379 q379 s379 m379 H379 U379 (own_fit_wid (own_widN hs_k1)) W379 0 rfl (Nat.le_of_ble_eq_true rfl)
        have om381 : @LE.le Nat instLENat n0 b376 := by omega
        have N379 := Fr.snoc X379 N378 (own_ale om381)
        refine Gl.go (fun _ hr => zXS_dup X379.here hx rfl (hb hby d10_180) rfl rfl (zXS_iconst X379.here hx rfl (hb hby d10_181) (zXS_iloadN X379.here hx rfl (hb hby d10_182) rfl hr))) ?_
        have zz382 : n0 ≤ h379.size := by omega
        refine gStaticN Gl.cl (y := y_12) (argsL := [(.int (Int32.ofNat k2))]) (rest := [(.int (1 : Int32)), (.ref b376), (.ref b376), (.ref b374), (.ref b374)]) (mc := 0) (ms := 0) X379 hx hZ hown (mvT hZ (tw hw 50 rfl)) (mvT hZ (tw hw 51 rfl)) (mvT hZ (tw hw 2 rfl)) (mvT hZ (tw hw 52 rfl)) (by decide) (backOf (W := 5) (his l Z a0 hw [] k2 h379 n0 zz382 hs_k2 hk2.1.2) hZ (tw hw 52 rfl) (tw hw 2 rfl) (by decide) (by decide)) rfl (by rw [hml]; rfl) (lenOf pd_9 rfl) rfl (by exact Nat.le_of_eq rfl) (hb hby d10_183) rfl e379 (by decide) (by decide) ?_
        intro v382 T382 Lc382 hQ382 X382
        obtain ⟨rfl, Nq382, e382⟩ := hQ382
        have N382 := Fr.app N379 Nq382
        obtain ⟨c383, a383, q383, s383, m383, H383, U383⟩ := id V379
        refine gstC Gl.cl X382 hx hZ e382 a383 (j := (1 : Int32)) (inb_of s383 ⟨(by decide), (by decide)⟩) rfl rfl (hb hby d10_186) ?_
        intro T383 h383 X383 e383 W383
        have z384 : h379.size ≤ h383.size := (Keep.of_wr W383).1
        rw [(own_nar_wid (own_widN (by have := hiN_lt hk2.1.2; omega)))] at W383
        have V383 : Arv Z h383 b376 k376 .char (3 : Int32) [(.int (Int32.ofNat k1)), (.int (Int32.ofNat (hiN k2))), (.int (0 : Int32))] (.int (0 : Int32)) := Arv.set a383 q383 s383 m383 H383 U383 (own_fit_wid (own_widN (by have := hiN_lt hk2.1.2; omega))) W383 1 rfl (Nat.le_of_ble_eq_true rfl)
        have N383 := Fr.snoc X383 N382 (own_ale om381)
        refine Gl.go (fun _ hr => zXS_dup X383.here hx rfl (hb hby d10_187) rfl rfl (zXS_iconst X383.here hx rfl (hb hby d10_188) (zXS_iloadN X383.here hx rfl (hb hby d10_189) rfl hr))) ?_
        have zz385 : n0 ≤ h383.size := by omega
        refine gStaticN Gl.cl (y := y_13) (argsL := [(.int (Int32.ofNat k2))]) (rest := [(.int (2 : Int32)), (.ref b376), (.ref b376), (.ref b374), (.ref b374)]) (mc := 0) (ms := 0) X383 hx hZ hown (mvT hZ (tw hw 183 rfl)) (mvT hZ (tw hw 184 rfl)) (mvT hZ (tw hw 2 rfl)) (mvT hZ (tw hw 185 rfl)) (by decide) (backOf (W := 5) (los l Z a0 hw [] k2 h383 n0 zz385 hs_k2 hk2.1.2) hZ (tw hw 185 rfl) (tw hw 2 rfl) (by decide) (by decide)) rfl (by rw [hml]; rfl) (lenOf pd_9 rfl) rfl (by exact Nat.le_of_eq rfl) (hb hby d10_190) rfl e383 (by decide) (by decide) ?_
        intro v385 T385 Lc385 hQ385 X385
        obtain ⟨rfl, Nq385, e385⟩ := hQ385
        have N385 := Fr.app N383 Nq385
        obtain ⟨c386, a386, q386, s386, m386, H386, U386⟩ := id V383
        refine gstC Gl.cl X385 hx hZ e385 a386 (j := (2 : Int32)) (inb_of s386 ⟨(by decide), (by decide)⟩) rfl rfl (hb hby d10_193) ?_
        intro T386 h386 X386 e386 W386
        have z387 : h383.size ≤ h386.size := (Keep.of_wr W386).1
        rw [(own_nar_wid (own_widN (by have := loN_lt k2; omega)))] at W386
        have V386 : Arv Z h386 b376 k376 .char (3 : Int32) [(.int (Int32.ofNat k1)), (.int (Int32.ofNat (hiN k2))), (.int (Int32.ofNat (loN k2)))] (.int (0 : Int32)) := Arv.set a386 q386 s386 m386 H386 U386 (own_fit_wid (own_widN (by have := loN_lt k2; omega))) W386 2 rfl (Nat.le_of_ble_eq_true rfl)
        have N386 := Fr.snoc X386 N385 (own_ale om381)
        have hp388 : ∀ c ∈ ([(Int32.ofNat k1), (Int32.ofNat (hiN k2)), (Int32.ofNat (loN k2))] : List Int32), Wid c := (own_cS (P := Wid) (own_widN hs_k1) (own_cS (P := Wid) (own_widN (by have := hiN_lt hk2.1.2; omega)) (own_cS (P := Wid) (own_widN (by have := loN_lt k2; omega)) own_c0)))
        have Oc389 := (((((q2.ext E374).ext E376).wr W379 (own_ale om381)).wr W383 (own_ale om381)).wr W386 (own_ale om381))
        have Ec390 := ((((A374.ext E376).wr W379).wr W383).wr W386)
        have om391 : ¬ @Eq Nat b374 b376 := by omega
        have Fc392 := ((((F374_value.ext E376).other W379 (Or.inl (own_ane om391))).other W383 (Or.inl (own_ane om391))).other W386 (Or.inl (own_ane om391)))
        have Fc393 := ((((F374_coder.ext E376).other W379 (Or.inl (own_ane om391))).other W383 (Or.inl (own_ane om391))).other W386 (Or.inl (own_ane om391)))
        have zz388 : n0 ≤ h386.size := by omega
        refine gSpecialN Gl.cl (y := y_9) (b := b374) (argsL := [(.ref b376)]) (rest := [(.ref b374)]) (mc := 2) (ms := 12) X386 hx hZ hown rfl (mvT hZ (tw hw 20 rfl)) (mvT hZ (tw hw 21 rfl)) (mvT hZ (tw hw 22 rfl)) (by decide) (backOf (W := 1) (invL l Z a0 hw [] b374 b376 k376 ([(Int32.ofNat k1), (Int32.ofNat (hiN k2)), (Int32.ofNat (loN k2))] : List Int32) G1 h386 n0 zz388 q0 (by assumption) Oc389 q3 q4 q5 (by omega) Ec390 Fc392 Fc393 V386 hp388 (Nat.le_of_ble_eq_true rfl) (Nat.le_of_ble_eq_true rfl)) hZ (tw hw 22 rfl) (tw hw 18 rfl) (by decide) (by decide)) rfl (by rw [hml]; rfl) (lenOf pd_8 rfl) rfl (by exact Nat.le_of_eq rfl) (hb hby d10_194) rfl e386 (by decide) (by decide) ?_
        intro v388 T388 Lc388 hQ388 X388
        obtain ⟨t_388, kb_388, cd_388, N2_388, vs_388, rfl, Nq388, K388, f388_0, f388_1, f388_2, f388_3, f388_4, p388_cod⟩ := hQ388
        have z394 : h386.size ≤ T388.heap.size := K388.1
        have N388 := Fr.app N386 Nq388
        have lt395 := own_alt f388_0.lt
        have lt396 := own_alt f388_1.lt
        have lt397 := own_alt f388_2.lt
        have lt398 := own_alt f388_3.lt
        obtain ⟨fs, hr, hrun, hended, hW, hsame⟩ := X388.leave (v := some (.ref b374)) (fun h => by rw [Bd.returns] at h; cases h)
        have om399 : @LE.le Nat instLENat h0.size b376 := by omega
        have om400 : @LE.le Nat instLENat h0.size b374 := by omega
        refine ⟨_, _, retOut X388 hx Bd.returns rfl (Or.inr (Or.inr (Or.inr (Or.inr ⟨rfl, rfl, rfl⟩)))) (hb hby d10_197) hr, hrun, hended, _, _, rfl, ?_, ⟨⟨_, rfl⟩, hW, hsame.mono (by decide) (by decide)⟩⟩
        show Qkst Z k1 k2 nn G1 h0 n0 _ T388.heap _
        exact ⟨b374, t_388, kb_388, cd_388, N2_388, vs_388, rfl, N388, (((((((Keep.refl h0 []).ext E374).ext E376).wr W379 (Or.inr (own_ale om399))).wr W383 (Or.inr (own_ale om399))).wr W386 (Or.inr (own_ale om399))).trans K388 (allS (P := fun x_ => x_ ∈ ([] : List Addr) ∨ h0.size ≤ x_) (Or.inr (own_ale om400)) all0)), f388_0, f388_1, f388_2, f388_3, ⟨by omega, by omega⟩, (by rw [own_unl2 hn1, (own_unb hs_k1), (own_uns (Nat.not_lt.mpr hs_k2))]; exact p388_cod)⟩
    · refine Gl.go (fun _ hr => zXS_icmpNo X0.here hx rfl (hb hby d10_3) rfl (XT.ii_lt_f hc348) hr) ?_
      have hs_k1 : 65536 ≤ k1 := own_ge32 (b := 65536) (by omega) (by decide) hc348
      refine Gl.go (fun _ hr => zXS_iconst X0.here hx rfl (hb hby d10_6) (zXS_goto X0.here hx rfl (pc0 := 7) (pc' := 11) rfl (hb hby d10_7) (by decide) (by decide) (zXS_istoreN X0.here hx rfl (hb hby d10_11) rfl (l' := #[sI (Int32.ofNat k1), sI (Int32.ofNat k2), sI 2, sI 1, sU]) rfl (zXS_iloadN X0.here hx rfl (hb hby d10_12) rfl hr)))) ?_
      refine Gl.go (X0.ldcInt hx hown (mvT hZ (tw hw 49 rfl)) rfl (hb hby d10_13)) ?_
      by_cases hc401 : (Int32.ofNat k2) < (65536 : Int32)
      · refine Gl.go (fun _ hr => zXS_icmpYes X0.here hx rfl (pc0 := 15) (pc' := 22) rfl (hb hby d10_15) rfl (XT.ii_lt_t hc401) (by decide) (by decide) hr) ?_
        have hs_k2 : k2 < 65536 := own_lt32' (b := 65536) (by omega) (by decide) hc401
        refine Gl.go (fun _ hr => zXS_iconst X0.here hx rfl (hb hby d10_22) (zXS_istore X0.here hx rfl (hb hby d10_23) rfl (l' := #[sI (Int32.ofNat k1), sI (Int32.ofNat k2), sI 2, sI 1, sI 0]) rfl (zXS_iloadN X0.here hx rfl (hb hby d10_25) rfl (zXS_iconst X0.here hx rfl (hb hby d10_26) (zXS_icmpYes X0.here hx rfl (pc0 := 27) (pc' := 77) rfl (hb hby d10_27) rfl (XT.ii_ne_t (by decide)) (by decide) (by decide) (zXS_iloadN X0.here hx rfl (hb hby d10_77) rfl (zXS_ifNo X0.here hx rfl (hb hby d10_78) rfl (XT.i0_eq_f (by decide)) (zXS_iload X0.here hx rfl (hb hby d10_81) rfl (zXS_ifYes X0.here hx rfl (pc0 := 83) (pc' := 125) rfl (hb hby d10_83) rfl (XT.i0_eq_t (by decide)) (by decide) (by decide) (zXS_iloadN X0.here hx rfl (hb hby d10_125) rfl hr)))))))))) ?_
        refine Gl.go (fun _ hr => zXS_ifNo X0.here hx rfl (hb hby d10_126) rfl (XT.i0_eq_f (by decide)) hr) ?_
        refine gNew Gl.cl X0 hx hZ hown (tw hw 16 rfl) (tw hw 17 rfl) (tw hw 18 rfl) e0 rfl (hb hby d10_129) (by decide) (by decide) ?_
        intro T402 h402 b402 g402 X402 e402 E402 A402 D402
        have z403 : h0.size ≤ h402.size := E402.1
        have lt402 := own_alt A402.lt
        have F402_coder : Fld Z h402 b402 "java/lang/String" "coder" "B" (.int (0 : Int32)) := D402 (Or.inr (tw hw 43 rfl)) (ty := .byte) (by decide)
        have F402_value : Fld Z h402 b402 "java/lang/String" "value" "[B" .null := D402 (Or.inr (tw hw 45 rfl)) (ty := (.array .byte)) (by decide)
        refine Gl.go (fun _ hr => zXS_dup X402.here hx rfl (hb hby d10_132) rfl rfl (zXS_iconst X402.here hx rfl (hb hby d10_133) hr)) ?_
        refine gNewP Gl.cl X402 hx hZ (tw hw 19 rfl) e402 rfl (hb hby d10_134) rfl (by decide) (cap := 3) (by decide) (by decide) (by decide) (by decide) ?_
        intro T404 h404 b404 k404 g404 X404 e404 E404 A404
        have z405 : h402.size ≤ h404.size := E404.1
        have lt404 := own_alt A404.lt
        have V404 : Arv Z h404 b404 k404 .char (3 : Int32) [(.int (0 : Int32)), (.int (0 : Int32)), (.int (0 : Int32))] (.int (0 : Int32)) := (Arv.new A404 (by decide)).pad (pad_rep [] (.int (0 : Int32)) 3)
        refine Gl.go (fun _ hr => zXS_dup X404.here hx rfl (hb hby d10_136) rfl rfl (zXS_iconst X404.here hx rfl (hb hby d10_137) (zXS_iloadN X404.here hx rfl (hb hby d10_138) rfl hr))) ?_
        have zz406 : n0 ≤ h404.size := by omega
        refine gStaticN Gl.cl (y := y_12) (argsL := [(.int (Int32.ofNat k1))]) (rest := [(.int (0 : Int32)), (.ref b404), (.ref b404), (.ref b402), (.ref b402)]) (mc := 0) (ms := 0) X404 hx hZ hown (mvT hZ (tw hw 50 rfl)) (mvT hZ (tw hw 51 rfl)) (mvT hZ (tw hw 2 rfl)) (mvT hZ (tw hw 52 rfl)) (by decide) (backOf (W := 5) (his l Z a0 hw [] k1 h404 n0 zz406 hs_k1 hk1.1.2) hZ (tw hw 52 rfl) (tw hw 2 rfl) (by decide) (by decide)) rfl (by rw [hml]; rfl) (lenOf pd_9 rfl) rfl (by exact Nat.le_of_eq rfl) (hb hby d10_139) rfl e404 (by decide) (by decide) ?_
        intro v406 T406 Lc406 hQ406 X406
        obtain ⟨rfl, Nq406, e406⟩ := hQ406
        have N406 := Fr.app N0 Nq406
        obtain ⟨c407, a407, q407, s407, m407, H407, U407⟩ := id V404
        refine gstC Gl.cl X406 hx hZ e406 a407 (j := (0 : Int32)) (inb_of s407 ⟨(by decide), (by decide)⟩) rfl rfl (hb hby d10_142) ?_
        intro T407 h407 X407 e407 W407
        have z408 : h404.size ≤ h407.size := (Keep.of_wr W407).1
        rw [(own_nar_wid (own_widN (by have := hiN_lt hk1.1.2; omega)))] at W407
        have V407 : Arv Z h407 b404 k404 .char (3 : Int32) [(.int (Int32.ofNat (hiN k1))), (.int (0 : Int32)), (.int (0 : Int32))] (.int (0 : Int32)) := Arv.set a407 q407 s407 m407 H407 U407 (own_fit_wid (own_widN (by have := hiN_lt hk1.1.2; omega))) W407 0 rfl (Nat.le_of_ble_eq_true rfl)
        have om409 : @LE.le Nat instLENat n0 b404 := by omega
        have N407 := Fr.snoc X407 N406 (own_ale om409)
        refine Gl.go (fun _ hr => zXS_dup X407.here hx rfl (hb hby d10_143) rfl rfl (zXS_iconst X407.here hx rfl (hb hby d10_144) (zXS_iloadN X407.here hx rfl (hb hby d10_145) rfl hr))) ?_
        have zz410 : n0 ≤ h407.size := by omega
        refine gStaticN Gl.cl (y := y_13) (argsL := [(.int (Int32.ofNat k1))]) (rest := [(.int (1 : Int32)), (.ref b404), (.ref b404), (.ref b402), (.ref b402)]) (mc := 0) (ms := 0) X407 hx hZ hown (mvT hZ (tw hw 183 rfl)) (mvT hZ (tw hw 184 rfl)) (mvT hZ (tw hw 2 rfl)) (mvT hZ (tw hw 185 rfl)) (by decide) (backOf (W := 5) (los l Z a0 hw [] k1 h407 n0 zz410 hs_k1 hk1.1.2) hZ (tw hw 185 rfl) (tw hw 2 rfl) (by decide) (by decide)) rfl (by rw [hml]; rfl) (lenOf pd_9 rfl) rfl (by exact Nat.le_of_eq rfl) (hb hby d10_146) rfl e407 (by decide) (by decide) ?_
        intro v410 T410 Lc410 hQ410 X410
        obtain ⟨rfl, Nq410, e410⟩ := hQ410
        have N410 := Fr.app N407 Nq410
        obtain ⟨c411, a411, q411, s411, m411, H411, U411⟩ := id V407
        refine gstC Gl.cl X410 hx hZ e410 a411 (j := (1 : Int32)) (inb_of s411 ⟨(by decide), (by decide)⟩) rfl rfl (hb hby d10_149) ?_
        intro T411 h411 X411 e411 W411
        have z412 : h407.size ≤ h411.size := (Keep.of_wr W411).1
        rw [(own_nar_wid (own_widN (by have := loN_lt k1; omega)))] at W411
        have V411 : Arv Z h411 b404 k404 .char (3 : Int32) [(.int (Int32.ofNat (hiN k1))), (.int (Int32.ofNat (loN k1))), (.int (0 : Int32))] (.int (0 : Int32)) := Arv.set a411 q411 s411 m411 H411 U411 (own_fit_wid (own_widN (by have := loN_lt k1; omega))) W411 1 rfl (Nat.le_of_ble_eq_true rfl)
        have N411 := Fr.snoc X411 N410 (own_ale om409)
        refine Gl.go (fun _ hr => zXS_dup X411.here hx rfl (hb hby d10_150) rfl rfl (zXS_iconst X411.here hx rfl (hb hby d10_151) (zXS_iloadN X411.here hx rfl (hb hby d10_152) rfl hr))) ?_
        have zz413 : n0 ≤ h411.size := by omega
        refine gStaticN Gl.cl (y := y_12) (argsL := [(.int (Int32.ofNat k2))]) (rest := [(.int (2 : Int32)), (.ref b404), (.ref b404), (.ref b402), (.ref b402)]) (mc := 0) (ms := 0) X411 hx hZ hown (mvT hZ (tw hw 50 rfl)) (mvT hZ (tw hw 51 rfl)) (mvT hZ (tw hw 2 rfl)) (mvT hZ (tw hw 52 rfl)) (by decide) (backOf (W := 5) (hib l Z a0 hw [] k2 h411 n0 zz413 hs_k2) hZ (tw hw 52 rfl) (tw hw 2 rfl) (by decide) (by decide)) rfl (by rw [hml]; rfl) (lenOf pd_9 rfl) rfl (by exact Nat.le_of_eq rfl) (hb hby d10_153) rfl e411 (by decide) (by decide) ?_
        intro v413 T413 Lc413 hQ413 X413
        obtain ⟨rfl, Nq413, e413⟩ := hQ413
        have N413 := Fr.app N411 Nq413
        obtain ⟨c414, a414, q414, s414, m414, H414, U414⟩ := id V411
        refine gstC Gl.cl X413 hx hZ e413 a414 (j := (2 : Int32)) (inb_of s414 ⟨(by decide), (by decide)⟩) rfl rfl (hb hby d10_156) ?_
        intro T414 h414 X414 e414 W414
        have z415 : h411.size ≤ h414.size := (Keep.of_wr W414).1
        rw [(own_nar_wid (own_widN hs_k2))] at W414
        have V414 : Arv Z h414 b404 k404 .char (3 : Int32) [(.int (Int32.ofNat (hiN k1))), (.int (Int32.ofNat (loN k1))), (.int (Int32.ofNat k2))] (.int (0 : Int32)) := Arv.set a414 q414 s414 m414 H414 U414 (own_fit_wid (own_widN hs_k2)) W414 2 rfl (Nat.le_of_ble_eq_true rfl)
        have N414 := Fr.snoc X414 N413 (own_ale om409)
        have hp416 : ∀ c ∈ ([(Int32.ofNat (hiN k1)), (Int32.ofNat (loN k1)), (Int32.ofNat k2)] : List Int32), Wid c := (own_cS (P := Wid) (own_widN (by have := hiN_lt hk1.1.2; omega)) (own_cS (P := Wid) (own_widN (by have := loN_lt k1; omega)) (own_cS (P := Wid) (own_widN hs_k2) own_c0)))
        have Oc417 := (((((q2.ext E402).ext E404).wr W407 (own_ale om409)).wr W411 (own_ale om409)).wr W414 (own_ale om409))
        have Ec418 := ((((A402.ext E404).wr W407).wr W411).wr W414)
        have om419 : ¬ @Eq Nat b402 b404 := by omega
        have Fc420 := ((((F402_value.ext E404).other W407 (Or.inl (own_ane om419))).other W411 (Or.inl (own_ane om419))).other W414 (Or.inl (own_ane om419)))
        have Fc421 := ((((F402_coder.ext E404).other W407 (Or.inl (own_ane om419))).other W411 (Or.inl (own_ane om419))).other W414 (Or.inl (own_ane om419)))
        have zz416 : n0 ≤ h414.size := by omega
        refine gSpecialN Gl.cl (y := y_9) (b := b402) (argsL := [(.ref b404)]) (rest := [(.ref b402)]) (mc := 2) (ms := 12) X414 hx hZ hown rfl (mvT hZ (tw hw 20 rfl)) (mvT hZ (tw hw 21 rfl)) (mvT hZ (tw hw 22 rfl)) (by decide) (backOf (W := 1) (invL l Z a0 hw [] b402 b404 k404 ([(Int32.ofNat (hiN k1)), (Int32.ofNat (loN k1)), (Int32.ofNat k2)] : List Int32) G1 h414 n0 zz416 q0 (by assumption) Oc417 q3 q4 q5 (by omega) Ec418 Fc420 Fc421 V414 hp416 (Nat.le_of_ble_eq_true rfl) (Nat.le_of_ble_eq_true rfl)) hZ (tw hw 22 rfl) (tw hw 18 rfl) (by decide) (by decide)) rfl (by rw [hml]; rfl) (lenOf pd_8 rfl) rfl (by exact Nat.le_of_eq rfl) (hb hby d10_157) rfl e414 (by decide) (by decide) ?_
        intro v416 T416 Lc416 hQ416 X416
        obtain ⟨t_416, kb_416, cd_416, N2_416, vs_416, rfl, Nq416, K416, f416_0, f416_1, f416_2, f416_3, f416_4, p416_cod⟩ := hQ416
        have z422 : h414.size ≤ T416.heap.size := K416.1
        have N416 := Fr.app N414 Nq416
        have lt423 := own_alt f416_0.lt
        have lt424 := own_alt f416_1.lt
        have lt425 := own_alt f416_2.lt
        have lt426 := own_alt f416_3.lt
        obtain ⟨fs, hr, hrun, hended, hW, hsame⟩ := X416.leave (v := some (.ref b402)) (fun h => by rw [Bd.returns] at h; cases h)
        have om427 : @LE.le Nat instLENat h0.size b404 := by omega
        have om428 : @LE.le Nat instLENat h0.size b402 := by omega
        refine ⟨_, _, retOut X416 hx Bd.returns rfl (Or.inr (Or.inr (Or.inr (Or.inr ⟨rfl, rfl, rfl⟩)))) (hb hby d10_160) hr, hrun, hended, _, _, rfl, ?_, ⟨⟨_, rfl⟩, hW, hsame.mono (by decide) (by decide)⟩⟩
        show Qkst Z k1 k2 nn G1 h0 n0 _ T416.heap _
        exact ⟨b402, t_416, kb_416, cd_416, N2_416, vs_416, rfl, N416, (((((((Keep.refl h0 []).ext E402).ext E404).wr W407 (Or.inr (own_ale om427))).wr W411 (Or.inr (own_ale om427))).wr W414 (Or.inr (own_ale om427))).trans K416 (allS (P := fun x_ => x_ ∈ ([] : List Addr) ∨ h0.size ≤ x_) (Or.inr (own_ale om428)) all0)), f416_0, f416_1, f416_2, f416_3, ⟨by omega, by omega⟩, (by rw [own_unl2 hn1, (own_uns (Nat.not_lt.mpr hs_k1)), (own_unb hs_k2)]; exact p416_cod)⟩
      · refine Gl.go (fun _ hr => zXS_icmpNo X0.here hx rfl (hb hby d10_15) rfl (XT.ii_lt_f hc401) hr) ?_
        have hs_k2 : 65536 ≤ k2 := own_ge32 (b := 65536) (by omega) (by decide) hc401
        refine Gl.go (fun _ hr => zXS_iconst X0.here hx rfl (hb hby d10_18) (zXS_goto X0.here hx rfl (pc0 := 19) (pc' := 23) rfl (hb hby d10_19) (by decide) (by decide) (zXS_istore X0.here hx rfl (hb hby d10_23) rfl (l' := #[sI (Int32.ofNat k1), sI (Int32.ofNat k2), sI 2, sI 1, sI 1]) rfl (zXS_iloadN X0.here hx rfl (hb hby d10_25) rfl (zXS_iconst X0.here hx rfl (hb hby d10_26) (zXS_icmpYes X0.here hx rfl (pc0 := 27) (pc' := 77) rfl (hb hby d10_27) rfl (XT.ii_ne_t (by decide)) (by decide) (by decide) (zXS_iloadN X0.here hx rfl (hb hby d10_77) rfl (zXS_ifNo X0.here hx rfl (hb hby d10_78) rfl (XT.i0_eq_f (by decide)) (zXS_iload X0.here hx rfl (hb hby d10_81) rfl (zXS_ifNo X0.here hx rfl (hb hby d10_83) rfl (XT.i0_eq_f (by decide)) hr)))))))))) ?_
        refine gNew Gl.cl X0 hx hZ hown (tw hw 16 rfl) (tw hw 17 rfl) (tw hw 18 rfl) e0 rfl (hb hby d10_86) (by decide) (by decide) ?_
        intro T429 h429 b429 g429 X429 e429 E429 A429 D429
        have z430 : h0.size ≤ h429.size := E429.1
        have lt429 := own_alt A429.lt
        have F429_coder : Fld Z h429 b429 "java/lang/String" "coder" "B" (.int (0 : Int32)) := D429 (Or.inr (tw hw 43 rfl)) (ty := .byte) (by decide)
        have F429_value : Fld Z h429 b429 "java/lang/String" "value" "[B" .null := D429 (Or.inr (tw hw 45 rfl)) (ty := (.array .byte)) (by decide)
        refine Gl.go (fun _ hr => zXS_dup X429.here hx rfl (hb hby d10_89) rfl rfl (zXS_iconst X429.here hx rfl (hb hby d10_90) hr)) ?_
        refine gNewP Gl.cl X429 hx hZ (tw hw 19 rfl) e429 rfl (hb hby d10_91) rfl (by decide) (cap := 4) (by decide) (by decide) (by decide) (by decide) ?_
        intro T431 h431 b431 k431 g431 X431 e431 E431 A431
        have z432 : h429.size ≤ h431.size := E431.1
        have lt431 := own_alt A431.lt
        have V431 : Arv Z h431 b431 k431 .char (4 : Int32) [(.int (0 : Int32)), (.int (0 : Int32)), (.int (0 : Int32)), (.int (0 : Int32))] (.int (0 : Int32)) := (Arv.new A431 (by decide)).pad (pad_rep [] (.int (0 : Int32)) 4)
        refine Gl.go (fun _ hr => zXS_dup X431.here hx rfl (hb hby d10_93) rfl rfl (zXS_iconst X431.here hx rfl (hb hby d10_94) (zXS_iloadN X431.here hx rfl (hb hby d10_95) rfl hr))) ?_
        have zz433 : n0 ≤ h431.size := by omega
        refine gStaticN Gl.cl (y := y_12) (argsL := [(.int (Int32.ofNat k1))]) (rest := [(.int (0 : Int32)), (.ref b431), (.ref b431), (.ref b429), (.ref b429)]) (mc := 0) (ms := 0) X431 hx hZ hown (mvT hZ (tw hw 50 rfl)) (mvT hZ (tw hw 51 rfl)) (mvT hZ (tw hw 2 rfl)) (mvT hZ (tw hw 52 rfl)) (by decide) (backOf (W := 5) (his l Z a0 hw [] k1 h431 n0 zz433 hs_k1 hk1.1.2) hZ (tw hw 52 rfl) (tw hw 2 rfl) (by decide) (by decide)) rfl (by rw [hml]; rfl) (lenOf pd_9 rfl) rfl (by exact Nat.le_of_eq rfl) (hb hby d10_96) rfl e431 (by decide) (by decide) ?_
        intro v433 T433 Lc433 hQ433 X433
        obtain ⟨rfl, Nq433, e433⟩ := hQ433
        have N433 := Fr.app N0 Nq433
        obtain ⟨c434, a434, q434, s434, m434, H434, U434⟩ := id V431
        refine gstC Gl.cl X433 hx hZ e433 a434 (j := (0 : Int32)) (inb_of s434 ⟨(by decide), (by decide)⟩) rfl rfl (hb hby d10_99) ?_
        intro T434 h434 X434 e434 W434
        have z435 : h431.size ≤ h434.size := (Keep.of_wr W434).1
        rw [(own_nar_wid (own_widN (by have := hiN_lt hk1.1.2; omega)))] at W434
        have V434 : Arv Z h434 b431 k431 .char (4 : Int32) [(.int (Int32.ofNat (hiN k1))), (.int (0 : Int32)), (.int (0 : Int32)), (.int (0 : Int32))] (.int (0 : Int32)) := Arv.set a434 q434 s434 m434 H434 U434 (own_fit_wid (own_widN (by have := hiN_lt hk1.1.2; omega))) W434 0 rfl (Nat.le_of_ble_eq_true rfl)
        have om436 : @LE.le Nat instLENat n0 b431 := by omega
        have N434 := Fr.snoc X434 N433 (own_ale om436)
        refine Gl.go (fun _ hr => zXS_dup X434.here hx rfl (hb hby d10_100) rfl rfl (zXS_iconst X434.here hx rfl (hb hby d10_101) (zXS_iloadN X434.here hx rfl (hb hby d10_102) rfl hr))) ?_
        have zz437 : n0 ≤ h434.size := by omega
        refine gStaticN Gl.cl (y := y_13) (argsL := [(.int (Int32.ofNat k1))]) (rest := [(.int (1 : Int32)), (.ref b431), (.ref b431), (.ref b429), (.ref b429)]) (mc := 0) (ms := 0) X434 hx hZ hown (mvT hZ (tw hw 183 rfl)) (mvT hZ (tw hw 184 rfl)) (mvT hZ (tw hw 2 rfl)) (mvT hZ (tw hw 185 rfl)) (by decide) (backOf (W := 5) (los l Z a0 hw [] k1 h434 n0 zz437 hs_k1 hk1.1.2) hZ (tw hw 185 rfl) (tw hw 2 rfl) (by decide) (by decide)) rfl (by rw [hml]; rfl) (lenOf pd_9 rfl) rfl (by exact Nat.le_of_eq rfl) (hb hby d10_103) rfl e434 (by decide) (by decide) ?_
        intro v437 T437 Lc437 hQ437 X437
        obtain ⟨rfl, Nq437, e437⟩ := hQ437
        have N437 := Fr.app N434 Nq437
        obtain ⟨c438, a438, q438, s438, m438, H438, U438⟩ := id V434
        refine gstC Gl.cl X437 hx hZ e437 a438 (j := (1 : Int32)) (inb_of s438 ⟨(by decide), (by decide)⟩) rfl rfl (hb hby d10_106) ?_
        intro T438 h438 X438 e438 W438
        have z439 : h434.size ≤ h438.size := (Keep.of_wr W438).1
        rw [(own_nar_wid (own_widN (by have := loN_lt k1; omega)))] at W438
        have V438 : Arv Z h438 b431 k431 .char (4 : Int32) [(.int (Int32.ofNat (hiN k1))), (.int (Int32.ofNat (loN k1))), (.int (0 : Int32)), (.int (0 : Int32))] (.int (0 : Int32)) := Arv.set a438 q438 s438 m438 H438 U438 (own_fit_wid (own_widN (by have := loN_lt k1; omega))) W438 1 rfl (Nat.le_of_ble_eq_true rfl)
        have N438 := Fr.snoc X438 N437 (own_ale om436)
        refine Gl.go (fun _ hr => zXS_dup X438.here hx rfl (hb hby d10_107) rfl rfl (zXS_iconst X438.here hx rfl (hb hby d10_108) (zXS_iloadN X438.here hx rfl (hb hby d10_109) rfl hr))) ?_
        have zz440 : n0 ≤ h438.size := by omega
        refine gStaticN Gl.cl (y := y_12) (argsL := [(.int (Int32.ofNat k2))]) (rest := [(.int (2 : Int32)), (.ref b431), (.ref b431), (.ref b429), (.ref b429)]) (mc := 0) (ms := 0) X438 hx hZ hown (mvT hZ (tw hw 50 rfl)) (mvT hZ (tw hw 51 rfl)) (mvT hZ (tw hw 2 rfl)) (mvT hZ (tw hw 52 rfl)) (by decide) (backOf (W := 5) (his l Z a0 hw [] k2 h438 n0 zz440 hs_k2 hk2.1.2) hZ (tw hw 52 rfl) (tw hw 2 rfl) (by decide) (by decide)) rfl (by rw [hml]; rfl) (lenOf pd_9 rfl) rfl (by exact Nat.le_of_eq rfl) (hb hby d10_110) rfl e438 (by decide) (by decide) ?_
        intro v440 T440 Lc440 hQ440 X440
        obtain ⟨rfl, Nq440, e440⟩ := hQ440
        have N440 := Fr.app N438 Nq440
        obtain ⟨c441, a441, q441, s441, m441, H441, U441⟩ := id V438
        refine gstC Gl.cl X440 hx hZ e440 a441 (j := (2 : Int32)) (inb_of s441 ⟨(by decide), (by decide)⟩) rfl rfl (hb hby d10_113) ?_
        intro T441 h441 X441 e441 W441
        have z442 : h438.size ≤ h441.size := (Keep.of_wr W441).1
        rw [(own_nar_wid (own_widN (by have := hiN_lt hk2.1.2; omega)))] at W441
        have V441 : Arv Z h441 b431 k431 .char (4 : Int32) [(.int (Int32.ofNat (hiN k1))), (.int (Int32.ofNat (loN k1))), (.int (Int32.ofNat (hiN k2))), (.int (0 : Int32))] (.int (0 : Int32)) := Arv.set a441 q441 s441 m441 H441 U441 (own_fit_wid (own_widN (by have := hiN_lt hk2.1.2; omega))) W441 2 rfl (Nat.le_of_ble_eq_true rfl)
        have N441 := Fr.snoc X441 N440 (own_ale om436)
        refine Gl.go (fun _ hr => zXS_dup X441.here hx rfl (hb hby d10_114) rfl rfl (zXS_iconst X441.here hx rfl (hb hby d10_115) (zXS_iloadN X441.here hx rfl (hb hby d10_116) rfl hr))) ?_
        have zz443 : n0 ≤ h441.size := by omega
        refine gStaticN Gl.cl (y := y_13) (argsL := [(.int (Int32.ofNat k2))]) (rest := [(.int (3 : Int32)), (.ref b431), (.ref b431), (.ref b429), (.ref b429)]) (mc := 0) (ms := 0) X441 hx hZ hown (mvT hZ (tw hw 183 rfl)) (mvT hZ (tw hw 184 rfl)) (mvT hZ (tw hw 2 rfl)) (mvT hZ (tw hw 185 rfl)) (by decide) (backOf (W := 5) (los l Z a0 hw [] k2 h441 n0 zz443 hs_k2 hk2.1.2) hZ (tw hw 185 rfl) (tw hw 2 rfl) (by decide) (by decide)) rfl (by rw [hml]; rfl) (lenOf pd_9 rfl) rfl (by exact Nat.le_of_eq rfl) (hb hby d10_117) rfl e441 (by decide) (by decide) ?_
        intro v443 T443 Lc443 hQ443 X443
        obtain ⟨rfl, Nq443, e443⟩ := hQ443
        have N443 := Fr.app N441 Nq443
        obtain ⟨c444, a444, q444, s444, m444, H444, U444⟩ := id V441
        refine gstC Gl.cl X443 hx hZ e443 a444 (j := (3 : Int32)) (inb_of s444 ⟨(by decide), (by decide)⟩) rfl rfl (hb hby d10_120) ?_
        intro T444 h444 X444 e444 W444
        have z445 : h441.size ≤ h444.size := (Keep.of_wr W444).1
        rw [(own_nar_wid (own_widN (by have := loN_lt k2; omega)))] at W444
        have V444 : Arv Z h444 b431 k431 .char (4 : Int32) [(.int (Int32.ofNat (hiN k1))), (.int (Int32.ofNat (loN k1))), (.int (Int32.ofNat (hiN k2))), (.int (Int32.ofNat (loN k2)))] (.int (0 : Int32)) := Arv.set a444 q444 s444 m444 H444 U444 (own_fit_wid (own_widN (by have := loN_lt k2; omega))) W444 3 rfl (Nat.le_of_ble_eq_true rfl)
        have N444 := Fr.snoc X444 N443 (own_ale om436)
        have hp446 : ∀ c ∈ ([(Int32.ofNat (hiN k1)), (Int32.ofNat (loN k1)), (Int32.ofNat (hiN k2)), (Int32.ofNat (loN k2))] : List Int32), Wid c := (own_cS (P := Wid) (own_widN (by have := hiN_lt hk1.1.2; omega)) (own_cS (P := Wid) (own_widN (by have := loN_lt k1; omega)) (own_cS (P := Wid) (own_widN (by have := hiN_lt hk2.1.2; omega)) (own_cS (P := Wid) (own_widN (by have := loN_lt k2; omega)) own_c0))))
        have Oc447 := ((((((q2.ext E429).ext E431).wr W434 (own_ale om436)).wr W438 (own_ale om436)).wr W441 (own_ale om436)).wr W444 (own_ale om436))
        have Ec448 := (((((A429.ext E431).wr W434).wr W438).wr W441).wr W444)
        have om449 : ¬ @Eq Nat b429 b431 := by omega
        have Fc450 := (((((F429_value.ext E431).other W434 (Or.inl (own_ane om449))).other W438 (Or.inl (own_ane om449))).other W441 (Or.inl (own_ane om449))).other W444 (Or.inl (own_ane om449)))
        have Fc451 := (((((F429_coder.ext E431).other W434 (Or.inl (own_ane om449))).other W438 (Or.inl (own_ane om449))).other W441 (Or.inl (own_ane om449))).other W444 (Or.inl (own_ane om449)))
        have zz446 : n0 ≤ h444.size := by omega
        refine gSpecialN Gl.cl (y := y_9) (b := b429) (argsL := [(.ref b431)]) (rest := [(.ref b429)]) (mc := 2) (ms := 12) X444 hx hZ hown rfl (mvT hZ (tw hw 20 rfl)) (mvT hZ (tw hw 21 rfl)) (mvT hZ (tw hw 22 rfl)) (by decide) (backOf (W := 1) (invL l Z a0 hw [] b429 b431 k431 ([(Int32.ofNat (hiN k1)), (Int32.ofNat (loN k1)), (Int32.ofNat (hiN k2)), (Int32.ofNat (loN k2))] : List Int32) G1 h444 n0 zz446 q0 (by assumption) Oc447 q3 q4 q5 (by omega) Ec448 Fc450 Fc451 V444 hp446 (Nat.le_of_ble_eq_true rfl) (Nat.le_of_ble_eq_true rfl)) hZ (tw hw 22 rfl) (tw hw 18 rfl) (by decide) (by decide)) rfl (by rw [hml]; rfl) (lenOf pd_8 rfl) rfl (by exact Nat.le_of_eq rfl) (hb hby d10_121) rfl e444 (by decide) (by decide) ?_
        intro v446 T446 Lc446 hQ446 X446
        obtain ⟨t_446, kb_446, cd_446, N2_446, vs_446, rfl, Nq446, K446, f446_0, f446_1, f446_2, f446_3, f446_4, p446_cod⟩ := hQ446
        have z452 : h444.size ≤ T446.heap.size := K446.1
        have N446 := Fr.app N444 Nq446
        have lt453 := own_alt f446_0.lt
        have lt454 := own_alt f446_1.lt
        have lt455 := own_alt f446_2.lt
        have lt456 := own_alt f446_3.lt
        obtain ⟨fs, hr, hrun, hended, hW, hsame⟩ := X446.leave (v := some (.ref b429)) (fun h => by rw [Bd.returns] at h; cases h)
        have om457 : @LE.le Nat instLENat h0.size b431 := by omega
        have om458 : @LE.le Nat instLENat h0.size b429 := by omega
        refine ⟨_, _, retOut X446 hx Bd.returns rfl (Or.inr (Or.inr (Or.inr (Or.inr ⟨rfl, rfl, rfl⟩)))) (hb hby d10_124) hr, hrun, hended, _, _, rfl, ?_, ⟨⟨_, rfl⟩, hW, hsame.mono (by decide) (by decide)⟩⟩
        show Qkst Z k1 k2 nn G1 h0 n0 _ T446.heap _
        exact ⟨b429, t_446, kb_446, cd_446, N2_446, vs_446, rfl, N446, ((((((((Keep.refl h0 []).ext E429).ext E431).wr W434 (Or.inr (own_ale om457))).wr W438 (Or.inr (own_ale om457))).wr W441 (Or.inr (own_ale om457))).wr W444 (Or.inr (own_ale om457))).trans K446 (allS (P := fun x_ => x_ ∈ ([] : List Addr) ∨ h0.size ≤ x_) (Or.inr (own_ale om458)) all0)), f446_0, f446_1, f446_2, f446_3, ⟨by omega, by omega⟩, (by rw [own_unl2 hn1, (own_uns (Nat.not_lt.mpr hs_k1)), (own_uns (Nat.not_lt.mpr hs_k2))]; exact p446_cod)⟩
def Qpci (Z : State) (i : Nat) (nz : Nat) (G3 : Value) (h0 : Heap) (n0 : Nat) (v : Option Value) (h : Heap) (L : List Loc) : Prop := v = some (.int (Int32.ofNat i)) ∧ Fr n0 L ∧ h = h0
theorem pn_3 : plainName "jdk/internal/util/Preconditions" = true := by first | (simp [plainName, overriddenIn]; done) | decide +kernel
theorem ef_pci (m : MethodId) (x0 : Int32) (x1 : Int32) (x2 : Value) (hx2 : x2.isRef = true) : entryFrame m #[(.int x0), (.int x1), x2] 3 = mkF m 0 #[sI x0, sI x1, .val x2] [] := by
  cases x2 <;> first | rfl | exact Bool.noConfusion hx2 | (simp [entryFrame, mkF, argsToLocals, Value.category]; done)
theorem d28_0 : decode jdk_41_method_11_code 0 = .ok (.iload_n 0, 1) := by decide +kernel
theorem d28_1 : decode jdk_41_method_11_code 1 = .ok (.ifCond .lt 8, 3) := by decide +kernel
theorem d28_4 : decode jdk_41_method_11_code 4 = .ok (.iload_n 0, 1) := by decide +kernel
theorem d28_5 : decode jdk_41_method_11_code 5 = .ok (.iload_n 1, 1) := by decide +kernel
theorem d28_6 : decode jdk_41_method_11_code 6 = .ok (.if_icmp .lt 10, 3) := by decide +kernel
theorem d28_16 : decode jdk_41_method_11_code 16 = .ok (.iload_n 0, 1) := by decide +kernel
theorem d28_17 : decode jdk_41_method_11_code 17 = .ok (.ireturn, 1) := by decide +kernel
set_option maxRecDepth 65536 in
set_option maxHeartbeats 40000000 in
theorem pci (l : Launch) (Z : State) (a0 : Array Value) (hw : ∀ d ∈ tables_1, d.before a0 Z = true) (ws : List Jvm.Cond) (i : Nat) (nz : Nat) (G3 : Value) (h0 : Heap) (n0 : Nat) (Z0 : n0 ≤ h0.size) (rG3 : G3.isRef = true) (hii : i < nz) (hnz : nz < 2 ^ 31) :
    MetFree l y_16 (head1 (Jvm.Cond.code y_16 jdk_41_method_11_code 3 (some .int) :: ws) r_m0) (fun a_ U_ => a_ = #[(.int (Int32.ofNat i)), (.int (Int32.ofNat nz)), G3] ∧ Z.Warmed39 U_.vm ∧ U_.heap = h0) (fun _ _ _ _ _ => True) (fun _ U_ o_ V_ => ∃ v_ L_, o_ = .returned v_ ∧ Qpci Z i nz G3 h0 n0 v_ V_.heap L_ ∧ FrameEnd U_ o_ V_ L_ r_m0.cells r_m0.slots) := by
  refine MetFree.of_bodySF (plainFor_of_name pn_3) hisR ?_
  intro p e s m args below meth c s₁ Bd hml0 hP hK
  obtain ⟨rfl, hZ, hh⟩ := hP
  have hx := Bd.exec
  have hby := Bd.bytes
  have hml : c.maxLocals = 3 := hml0
  have hown : s.vm.findClass "jdk/internal/util/Preconditions" = some m.cls := findClass_of_methodNamed Bd.named
  have hnm := (name_of_methodNamed Bd.named Bd.method).1
  have X0 : Stand p l e r_m0 s m #[(.int (Int32.ofNat i)), (.int (Int32.ofNat nz)), G3] below meth c s₁ [] 0 0 := Stand.of_body Bd
  have e0 : s₁.heap = h0 := by rw [← hh, Bd.state]; rfl
  have N0 := Fr.nil n0
  refine Gl.go (A := s₁.setTop (entryFrame m #[(.int (Int32.ofNat i)), (.int (Int32.ofNat nz)), G3] 3)) (P := fun o_ U_ => ∃ v_ L_, o_ = .returned v_ ∧ Qpci Z i nz G3 h0 n0 v_ U_.heap L_ ∧ FrameEnd s o_ U_ L_ r_m0.cells r_m0.slots) (fun t_ k_ => castTop (ef_pci m (Int32.ofNat i) (Int32.ofNat nz) G3 (by assumption)) k_) ?_
  show Gl p.tables e below _ (s₁.setTop (mkF m 0 #[sI (Int32.ofNat i), sI (Int32.ofNat nz), .val G3] []))
  refine Gl.go (fun _ hr => zXS_iloadN X0.here hx rfl (hb hby d28_0) rfl hr) ?_
  refine Gl.go (fun _ hr => zXS_ifNo X0.here hx rfl (hb hby d28_1) rfl (XT.i0_lt_f (own_nn (by omega))) (zXS_iloadN X0.here hx rfl (hb hby d28_4) rfl (zXS_iloadN X0.here hx rfl (hb hby d28_5) rfl hr))) ?_
  refine Gl.go (fun _ hr => zXS_icmpYes X0.here hx rfl (pc0 := 6) (pc' := 16) rfl (hb hby d28_6) rfl (XT.ii_lt_t (own_lt32 hnz hii)) (by decide) (by decide) (zXS_iloadN X0.here hx rfl (hb hby d28_16) rfl hr)) ?_
  obtain ⟨fs, hr, hrun, hended, hW, hsame⟩ := X0.leave (v := some (.int (Int32.ofNat i))) (fun h => by rw [Bd.returns] at h; cases h)
  refine ⟨_, _, retOut X0 hx Bd.returns rfl (Or.inl ⟨rfl, Or.inl rfl, _, rfl⟩) (hb hby d28_17) hr, hrun, hended, _, _, rfl, ?_, ⟨⟨_, rfl⟩, hW, hsame.mono (by decide) (by decide)⟩⟩
  show Qpci Z i nz G3 h0 n0 _ s₁.heap _
  rw [e0]
  exact ⟨rfl, N0, rfl⟩
def Qsci (Z : State) (i : Nat) (nz : Nat) (G3 : Value) (h0 : Heap) (n0 : Nat) (v : Option Value) (h : Heap) (L : List Loc) : Prop := v = none ∧ Fr n0 L ∧ h = h0
theorem ef_sci (m : MethodId) (x0 : Int32) (x1 : Int32) : entryFrame m #[(.int x0), (.int x1)] 2 = mkF m 0 #[sI x0, sI x1] [] := by first | (simp [entryFrame, mkF, argsToLocals, Value.category]; done) | rfl
theorem d27_0 : decode jdk_42_method_155_code 0 = .ok (.iload_n 0, 1) := by decide +kernel
theorem d27_1 : decode jdk_42_method_155_code 1 = .ok (.iload_n 1, 1) := by decide +kernel
theorem d27_2 : decode jdk_42_method_155_code 2 = .ok (.getstatic 1053, 3) := by decide +kernel
theorem d27_5 : decode jdk_42_method_155_code 5 = .ok (.invokestatic 1059, 3) := by decide +kernel
theorem pd_10 : parseMethodDescriptor "(IILjava/util/function/BiFunction;)I" = some ⟨[.int, .int, (.object "java/util/function/BiFunction")], some .int⟩ := by decide +kernel
theorem d27_8 : decode jdk_42_method_155_code 8 = .ok (.pop, 1) := by decide +kernel
theorem d27_9 : decode jdk_42_method_155_code 9 = .ok (.return_, 1) := by decide +kernel
set_option maxRecDepth 65536 in
set_option maxHeartbeats 40000000 in
theorem sci (l : Launch) (Z : State) (a0 : Array Value) (hw : ∀ d ∈ tables_1, d.before a0 Z = true) (ws : List Jvm.Cond) (i : Nat) (nz : Nat) (G3 : Value) (h0 : Heap) (n0 : Nat) (Z0 : n0 ≤ h0.size) (q0 : Old Z n0 h0) (q1 : Sta Z Z.heap "jdk/internal/util/Preconditions" "SIOOBE_FORMATTER" "Ljava/util/function/BiFunction;" G3) (rG3 : G3.isRef = true) (hii : i < nz) (hnz : nz < 2 ^ 31) :
    MetFree l y_17 (head1 (Jvm.Cond.code y_17 jdk_42_method_155_code 2 none :: ws) r_m8) (fun a_ U_ => a_ = #[(.int (Int32.ofNat i)), (.int (Int32.ofNat nz))] ∧ Z.Warmed39 U_.vm ∧ U_.heap = h0) (fun _ _ _ _ _ => True) (fun _ U_ o_ V_ => ∃ v_ L_, o_ = .returned v_ ∧ Qsci Z i nz G3 h0 n0 v_ V_.heap L_ ∧ FrameEnd U_ o_ V_ L_ r_m8.cells r_m8.slots) := by
  refine MetFree.of_bodySF (plainFor_of_name pn_1) hisR ?_
  intro p e s m args below meth c s₁ Bd hml0 hP hK
  obtain ⟨rfl, hZ, hh⟩ := hP
  have hx := Bd.exec
  have hby := Bd.bytes
  have hml : c.maxLocals = 2 := hml0
  have hown : s.vm.findClass "java/lang/String" = some m.cls := findClass_of_methodNamed Bd.named
  have hnm := (name_of_methodNamed Bd.named Bd.method).1
  have X0 : Stand p l e r_m8 s m #[(.int (Int32.ofNat i)), (.int (Int32.ofNat nz))] below meth c s₁ [] 0 0 := Stand.of_body Bd
  have e0 : s₁.heap = h0 := by rw [← hh, Bd.state]; rfl
  have N0 := Fr.nil n0
  have zo := q0.1
  refine Gl.go (A := s₁.setTop (entryFrame m #[(.int (Int32.ofNat i)), (.int (Int32.ofNat nz))] 2)) (P := fun o_ U_ => ∃ v_ L_, o_ = .returned v_ ∧ Qsci Z i nz G3 h0 n0 v_ U_.heap L_ ∧ FrameEnd s o_ U_ L_ r_m8.cells r_m8.slots) (fun t_ k_ => castTop (ef_sci m (Int32.ofNat i) (Int32.ofNat nz)) k_) ?_
  show Gl p.tables e below _ (s₁.setTop (mkF m 0 #[sI (Int32.ofNat i), sI (Int32.ofNat nz)] []))
  refine Gl.go (fun _ hr => zXS_iloadN X0.here hx rfl (hb hby d27_0) rfl (zXS_iloadN X0.here hx rfl (hb hby d27_1) rfl hr)) ?_
  refine gGetS (host := "") Gl.cl X0 hx hZ hown (Or.inl (tw hw 123 rfl)) Via.refl e0 (q1.ext q0.2) rfl (hb hby d27_2) ?_
  intro T459 X459 e459
  have zz460 : n0 ≤ h0.size := by omega
  refine gStaticN Gl.cl (y := y_16) (argsL := [(.int (Int32.ofNat i)), (.int (Int32.ofNat nz)), G3]) (rest := []) (mc := 0) (ms := 0) X459 hx hZ hown (mvT hZ (tw hw 125 rfl)) (mvT hZ (tw hw 126 rfl)) (mvT hZ (tw hw 124 rfl)) (mvT hZ (tw hw 127 rfl)) (by decide) (backOf (W := 0) (pci l Z a0 hw [] i nz G3 h0 n0 zz460 (by assumption) (by assumption) (by assumption)) hZ (tw hw 127 rfl) (tw hw 124 rfl) (by decide) (by decide)) rfl (by rw [hml]; rfl) (lenOf pd_10 rfl) rfl (by exact Nat.le_of_eq rfl) (hb hby d27_5) rfl e459 (by decide) (by decide) ?_
  intro v460 T460 Lc460 hQ460 X460
  obtain ⟨rfl, Nq460, e460⟩ := hQ460
  have N460 := Fr.app N0 Nq460
  refine Gl.go (fun _ hr => zXT_pop X460.here hx rfl (hb hby d27_8) rfl rfl hr) ?_
  obtain ⟨fs, hr, hrun, hended, hW, hsame⟩ := X460.leave (v := none) (fun _ => rfl)
  refine ⟨_, _, X460.returnOut hx Bd.returns (hb hby d27_9) hr, hrun, hended, _, _, rfl, ?_, ⟨⟨_, rfl⟩, hW, hsame.mono (by decide) (by decide)⟩⟩
  show Qsci Z i nz G3 h0 n0 _ T460.heap _
  rw [e460]
  exact ⟨rfl, N460, rfl⟩
def Qisl0 (Z : State) (x : Addr) (G1 : Int32) (h0 : Heap) (n0 : Nat) (v : Option Value) (h : Heap) (L : List Loc) : Prop := v = some (.int (1 : Int32)) ∧ Fr n0 L ∧ h = h0
theorem ef_isl0 (m : MethodId) (x0 : Addr) : entryFrame m #[(.ref x0)] 1 = mkF m 0 #[sR x0] [] := by first | (simp [entryFrame, mkF, argsToLocals, Value.category]; done) | rfl
theorem d25_0 : decode jdk_42_method_154_code 0 = .ok (.getstatic 38, 3) := by decide +kernel
theorem d25_3 : decode jdk_42_method_154_code 3 = .ok (.ifCond .eq 14, 3) := by decide +kernel
theorem d25_6 : decode jdk_42_method_154_code 6 = .ok (.aload_n 0, 1) := by decide +kernel
theorem d25_7 : decode jdk_42_method_154_code 7 = .ok (.getfield 15, 3) := by decide +kernel
theorem d25_10 : decode jdk_42_method_154_code 10 = .ok (.ifCond .ne 7, 3) := by decide +kernel
theorem d25_13 : decode jdk_42_method_154_code 13 = .ok (.iconst 1, 1) := by decide +kernel
theorem d25_14 : decode jdk_42_method_154_code 14 = .ok (.goto 4, 3) := by decide +kernel
theorem d25_18 : decode jdk_42_method_154_code 18 = .ok (.ireturn, 1) := by decide +kernel
set_option maxRecDepth 65536 in
set_option maxHeartbeats 40000000 in
theorem isl0 (l : Launch) (Z : State) (a0 : Array Value) (hw : ∀ d ∈ tables_1, d.before a0 Z = true) (ws : List Jvm.Cond) (x : Addr) (G1 : Int32) (h0 : Heap) (n0 : Nat) (Z0 : n0 ≤ h0.size) (q0 : Sta Z Z.heap "java/lang/String" "COMPACT_STRINGS" "Z" (.int G1)) (P5 : ¬ (G1 = (0 : Int32))) (q2 : Old Z n0 h0) (q3 : Fld Z h0 x "java/lang/String" "coder" "B" (.int (0 : Int32))) :
    MetFree l y_18 (head1 (Jvm.Cond.code y_18 jdk_42_method_154_code 1 (some .boolean) :: ws) r_m0) (fun a_ U_ => a_ = #[(.ref x)] ∧ Z.Warmed39 U_.vm ∧ U_.heap = h0) (fun _ _ _ _ _ => True) (fun _ U_ o_ V_ => ∃ v_ L_, o_ = .returned v_ ∧ Qisl0 Z x G1 h0 n0 v_ V_.heap L_ ∧ FrameEnd U_ o_ V_ L_ r_m0.cells r_m0.slots) := by
  refine MetFree.of_bodySF (plainFor_of_name pn_1) hisR ?_
  intro p e s m args below meth c s₁ Bd hml0 hP hK
  obtain ⟨rfl, hZ, hh⟩ := hP
  have hx := Bd.exec
  have hby := Bd.bytes
  have hml : c.maxLocals = 1 := hml0
  have hown : s.vm.findClass "java/lang/String" = some m.cls := findClass_of_methodNamed Bd.named
  have hnm := (name_of_methodNamed Bd.named Bd.method).1
  have X0 : Stand p l e r_m0 s m #[(.ref x)] below meth c s₁ [] 0 0 := Stand.of_body Bd
  have e0 : s₁.heap = h0 := by rw [← hh, Bd.state]; rfl
  have N0 := Fr.nil n0
  have zo := q2.1
  have lt461 := own_alt q3.lt
  refine Gl.go (A := s₁.setTop (entryFrame m #[(.ref x)] 1)) (P := fun o_ U_ => ∃ v_ L_, o_ = .returned v_ ∧ Qisl0 Z x G1 h0 n0 v_ U_.heap L_ ∧ FrameEnd s o_ U_ L_ r_m0.cells r_m0.slots) (fun t_ k_ => castTop (ef_isl0 m x) k_) ?_
  show Gl p.tables e below _ (s₁.setTop (mkF m 0 #[sR x] []))
  refine gGetS (host := "") Gl.cl X0 hx hZ hown (Or.inl (tw hw 30 rfl)) Via.refl e0 (q0.ext q2.2) rfl (hb hby d25_0) ?_
  intro T462 X462 e462
  refine Gl.go (fun _ hr => zXS_ifNo X462.here hx rfl (hb hby d25_3) rfl (XT.i0_eq_f P5) (zXS_aloadN X462.here hx rfl (hb hby d25_6) rfl rfl hr)) ?_
  refine gGetF (host := "") Gl.cl X462 hx hZ hown (Or.inl (tw hw 42 rfl)) Via.refl e462 q3 rfl rfl (hb hby d25_7) ?_
  intro T463 X463 e463
  refine Gl.go (fun _ hr => zXS_ifNo X463.here hx rfl (hb hby d25_10) rfl (XT.i0_ne_f (by decide)) (zXS_iconst X463.here hx rfl (hb hby d25_13) (zXS_goto X463.here hx rfl (pc0 := 14) (pc' := 18) rfl (hb hby d25_14) (by decide) (by decide) hr))) ?_
  obtain ⟨fs, hr, hrun, hended, hW, hsame⟩ := X463.leave (v := some (.int (1 : Int32))) (fun h => by rw [Bd.returns] at h; cases h)
  refine ⟨_, _, retN X463 hx (t := .boolean) Bd.returns (by simp) (hb hby d25_18) hr, hrun, hended, _, _, rfl, ?_, ⟨⟨_, rfl⟩, hW, hsame.mono (by decide) (by decide)⟩⟩
  show Qisl0 Z x G1 h0 n0 _ T463.heap _
  rw [e463]
  exact ⟨rfl, N0, rfl⟩
def Qisl1 (Z : State) (x : Addr) (G1 : Int32) (h0 : Heap) (n0 : Nat) (v : Option Value) (h : Heap) (L : List Loc) : Prop := v = some (.int (0 : Int32)) ∧ Fr n0 L ∧ h = h0
theorem ef_isl1 (m : MethodId) (x0 : Addr) : entryFrame m #[(.ref x0)] 1 = mkF m 0 #[sR x0] [] := by first | (simp [entryFrame, mkF, argsToLocals, Value.category]; done) | rfl
theorem d25_17 : decode jdk_42_method_154_code 17 = .ok (.iconst 0, 1) := by decide +kernel
set_option maxRecDepth 65536 in
set_option maxHeartbeats 40000000 in
theorem isl1 (l : Launch) (Z : State) (a0 : Array Value) (hw : ∀ d ∈ tables_1, d.before a0 Z = true) (ws : List Jvm.Cond) (x : Addr) (G1 : Int32) (h0 : Heap) (n0 : Nat) (Z0 : n0 ≤ h0.size) (q0 : Sta Z Z.heap "java/lang/String" "COMPACT_STRINGS" "Z" (.int G1)) (P5 : ¬ (G1 = (0 : Int32))) (q2 : Old Z n0 h0) (q3 : Fld Z h0 x "java/lang/String" "coder" "B" (.int (1 : Int32))) :
    MetFree l y_18 (head1 (Jvm.Cond.code y_18 jdk_42_method_154_code 1 (some .boolean) :: ws) r_m0) (fun a_ U_ => a_ = #[(.ref x)] ∧ Z.Warmed39 U_.vm ∧ U_.heap = h0) (fun _ _ _ _ _ => True) (fun _ U_ o_ V_ => ∃ v_ L_, o_ = .returned v_ ∧ Qisl1 Z x G1 h0 n0 v_ V_.heap L_ ∧ FrameEnd U_ o_ V_ L_ r_m0.cells r_m0.slots) := by
  refine MetFree.of_bodySF (plainFor_of_name pn_1) hisR ?_
  intro p e s m args below meth c s₁ Bd hml0 hP hK
  obtain ⟨rfl, hZ, hh⟩ := hP
  have hx := Bd.exec
  have hby := Bd.bytes
  have hml : c.maxLocals = 1 := hml0
  have hown : s.vm.findClass "java/lang/String" = some m.cls := findClass_of_methodNamed Bd.named
  have hnm := (name_of_methodNamed Bd.named Bd.method).1
  have X0 : Stand p l e r_m0 s m #[(.ref x)] below meth c s₁ [] 0 0 := Stand.of_body Bd
  have e0 : s₁.heap = h0 := by rw [← hh, Bd.state]; rfl
  have N0 := Fr.nil n0
  have zo := q2.1
  have lt464 := own_alt q3.lt
  refine Gl.go (A := s₁.setTop (entryFrame m #[(.ref x)] 1)) (P := fun o_ U_ => ∃ v_ L_, o_ = .returned v_ ∧ Qisl1 Z x G1 h0 n0 v_ U_.heap L_ ∧ FrameEnd s o_ U_ L_ r_m0.cells r_m0.slots) (fun t_ k_ => castTop (ef_isl1 m x) k_) ?_
  show Gl p.tables e below _ (s₁.setTop (mkF m 0 #[sR x] []))
  refine gGetS (host := "") Gl.cl X0 hx hZ hown (Or.inl (tw hw 30 rfl)) Via.refl e0 (q0.ext q2.2) rfl (hb hby d25_0) ?_
  intro T465 X465 e465
  refine Gl.go (fun _ hr => zXS_ifNo X465.here hx rfl (hb hby d25_3) rfl (XT.i0_eq_f P5) (zXS_aloadN X465.here hx rfl (hb hby d25_6) rfl rfl hr)) ?_
  refine gGetF (host := "") Gl.cl X465 hx hZ hown (Or.inl (tw hw 42 rfl)) Via.refl e465 q3 rfl rfl (hb hby d25_7) ?_
  intro T466 X466 e466
  refine Gl.go (fun _ hr => zXS_ifYes X466.here hx rfl (pc0 := 10) (pc' := 17) rfl (hb hby d25_10) rfl (XT.i0_ne_t (by decide)) (by decide) (by decide) (zXS_iconst X466.here hx rfl (hb hby d25_17) hr)) ?_
  obtain ⟨fs, hr, hrun, hended, hW, hsame⟩ := X466.leave (v := some (.int (0 : Int32))) (fun h => by rw [Bd.returns] at h; cases h)
  refine ⟨_, _, retN X466 hx (t := .boolean) Bd.returns (by simp) (hb hby d25_18) hr, hrun, hended, _, _, rfl, ?_, ⟨⟨_, rfl⟩, hW, hsame.mono (by decide) (by decide)⟩⟩
  show Qisl1 Z x G1 h0 n0 _ T466.heap _
  rw [e466]
  exact ⟨rfl, N0, rfl⟩
def Qihs1 (Z : State) (u : Nat) (h0 : Heap) (n0 : Nat) (v : Option Value) (h : Heap) (L : List Loc) : Prop := v = some (.int (1 : Int32)) ∧ Fr n0 L ∧ h = h0
theorem pn_4 : plainName "java/lang/Character" = true := by first | (simp [plainName, overriddenIn]; done) | decide +kernel
theorem ef_ihs1 (m : MethodId) (x0 : Int32) : entryFrame m #[(.int x0)] 1 = mkF m 0 #[sI x0] [] := by first | (simp [entryFrame, mkF, argsToLocals, Value.category]; done) | rfl
theorem d34_0 : decode jdk_89_method_14_code 0 = .ok (.iload_n 0, 1) := by decide +kernel
theorem d34_1 : decode jdk_89_method_14_code 1 = .ok (.ldc 75, 2) := by decide +kernel
theorem d34_3 : decode jdk_89_method_14_code 3 = .ok (.if_icmp .lt 13, 3) := by decide +kernel
theorem d34_6 : decode jdk_89_method_14_code 6 = .ok (.iload_n 0, 1) := by decide +kernel
theorem d34_7 : decode jdk_89_method_14_code 7 = .ok (.ldc 76, 2) := by decide +kernel
theorem d34_9 : decode jdk_89_method_14_code 9 = .ok (.if_icmp .ge 7, 3) := by decide +kernel
theorem d34_12 : decode jdk_89_method_14_code 12 = .ok (.iconst 1, 1) := by decide +kernel
theorem d34_13 : decode jdk_89_method_14_code 13 = .ok (.goto 4, 3) := by decide +kernel
theorem d34_17 : decode jdk_89_method_14_code 17 = .ok (.ireturn, 1) := by decide +kernel
set_option maxRecDepth 65536 in
set_option maxHeartbeats 40000000 in
theorem ihs1 (l : Launch) (Z : State) (a0 : Array Value) (hw : ∀ d ∈ tables_1, d.before a0 Z = true) (ws : List Jvm.Cond) (u : Nat) (h0 : Heap) (n0 : Nat) (Z0 : n0 ≤ h0.size) (hu : 55296 ≤ u ∧ u < 56320) :
    MetFree l y_19 (head1 (Jvm.Cond.code y_19 jdk_89_method_14_code 1 (some .boolean) :: ws) r_m0) (fun a_ U_ => a_ = #[(.int (Int32.ofNat u))] ∧ Z.Warmed39 U_.vm ∧ U_.heap = h0) (fun _ _ _ _ _ => True) (fun _ U_ o_ V_ => ∃ v_ L_, o_ = .returned v_ ∧ Qihs1 Z u h0 n0 v_ V_.heap L_ ∧ FrameEnd U_ o_ V_ L_ r_m0.cells r_m0.slots) := by
  refine MetFree.of_bodySF (plainFor_of_name pn_4) hisR ?_
  intro p e s m args below meth c s₁ Bd hml0 hP hK
  obtain ⟨rfl, hZ, hh⟩ := hP
  have hx := Bd.exec
  have hby := Bd.bytes
  have hml : c.maxLocals = 1 := hml0
  have hown : s.vm.findClass "java/lang/Character" = some m.cls := findClass_of_methodNamed Bd.named
  have hnm := (name_of_methodNamed Bd.named Bd.method).1
  have X0 : Stand p l e r_m0 s m #[(.int (Int32.ofNat u))] below meth c s₁ [] 0 0 := Stand.of_body Bd
  have e0 : s₁.heap = h0 := by rw [← hh, Bd.state]; rfl
  have N0 := Fr.nil n0
  refine Gl.go (A := s₁.setTop (entryFrame m #[(.int (Int32.ofNat u))] 1)) (P := fun o_ U_ => ∃ v_ L_, o_ = .returned v_ ∧ Qihs1 Z u h0 n0 v_ U_.heap L_ ∧ FrameEnd s o_ U_ L_ r_m0.cells r_m0.slots) (fun t_ k_ => castTop (ef_ihs1 m (Int32.ofNat u)) k_) ?_
  show Gl p.tables e below _ (s₁.setTop (mkF m 0 #[sI (Int32.ofNat u)] []))
  refine Gl.go (fun _ hr => zXS_iloadN X0.here hx rfl (hb hby d34_0) rfl hr) ?_
  refine Gl.go (X0.ldcInt hx hown (mvT hZ (tw hw 151 rfl)) rfl (hb hby d34_1)) ?_
  refine Gl.go (fun _ hr => zXS_icmpNo X0.here hx rfl (hb hby d34_3) rfl (XT.ii_lt_f (own_nlt32 (b := 55296) (by omega) (by decide) (by omega))) (zXS_iloadN X0.here hx rfl (hb hby d34_6) rfl hr)) ?_
  refine Gl.go (X0.ldcInt hx hown (mvT hZ (tw hw 152 rfl)) rfl (hb hby d34_7)) ?_
  refine Gl.go (fun _ hr => zXS_icmpNo X0.here hx rfl (hb hby d34_9) rfl (XT.ii_ge_f (own_lt32 (b := 56320) (by decide) (by omega))) (zXS_iconst X0.here hx rfl (hb hby d34_12) (zXS_goto X0.here hx rfl (pc0 := 13) (pc' := 17) rfl (hb hby d34_13) (by decide) (by decide) hr))) ?_
  obtain ⟨fs, hr, hrun, hended, hW, hsame⟩ := X0.leave (v := some (.int (1 : Int32))) (fun h => by rw [Bd.returns] at h; cases h)
  refine ⟨_, _, retN X0 hx (t := .boolean) Bd.returns (by simp) (hb hby d34_17) hr, hrun, hended, _, _, rfl, ?_, ⟨⟨_, rfl⟩, hW, hsame.mono (by decide) (by decide)⟩⟩
  show Qihs1 Z u h0 n0 _ s₁.heap _
  rw [e0]
  exact ⟨rfl, N0, rfl⟩
def Qihs0 (Z : State) (u : Nat) (h0 : Heap) (n0 : Nat) (v : Option Value) (h : Heap) (L : List Loc) : Prop := v = some (.int (0 : Int32)) ∧ Fr n0 L ∧ h = h0
theorem ef_ihs0 (m : MethodId) (x0 : Int32) : entryFrame m #[(.int x0)] 1 = mkF m 0 #[sI x0] [] := by first | (simp [entryFrame, mkF, argsToLocals, Value.category]; done) | rfl
theorem d34_16 : decode jdk_89_method_14_code 16 = .ok (.iconst 0, 1) := by decide +kernel
set_option maxRecDepth 65536 in
set_option maxHeartbeats 40000000 in
theorem ihs0 (l : Launch) (Z : State) (a0 : Array Value) (hw : ∀ d ∈ tables_1, d.before a0 Z = true) (ws : List Jvm.Cond) (u : Nat) (h0 : Heap) (n0 : Nat) (Z0 : n0 ≤ h0.size) (hu : u < 55296 ∨ 57344 ≤ u) (hu2 : u < 65536) :
    MetFree l y_19 (head1 (Jvm.Cond.code y_19 jdk_89_method_14_code 1 (some .boolean) :: ws) r_m0) (fun a_ U_ => a_ = #[(.int (Int32.ofNat u))] ∧ Z.Warmed39 U_.vm ∧ U_.heap = h0) (fun _ _ _ _ _ => True) (fun _ U_ o_ V_ => ∃ v_ L_, o_ = .returned v_ ∧ Qihs0 Z u h0 n0 v_ V_.heap L_ ∧ FrameEnd U_ o_ V_ L_ r_m0.cells r_m0.slots) := by
  refine MetFree.of_bodySF (plainFor_of_name pn_4) hisR ?_
  intro p e s m args below meth c s₁ Bd hml0 hP hK
  obtain ⟨rfl, hZ, hh⟩ := hP
  have hx := Bd.exec
  have hby := Bd.bytes
  have hml : c.maxLocals = 1 := hml0
  have hown : s.vm.findClass "java/lang/Character" = some m.cls := findClass_of_methodNamed Bd.named
  have hnm := (name_of_methodNamed Bd.named Bd.method).1
  have X0 : Stand p l e r_m0 s m #[(.int (Int32.ofNat u))] below meth c s₁ [] 0 0 := Stand.of_body Bd
  have e0 : s₁.heap = h0 := by rw [← hh, Bd.state]; rfl
  have N0 := Fr.nil n0
  refine Gl.go (A := s₁.setTop (entryFrame m #[(.int (Int32.ofNat u))] 1)) (P := fun o_ U_ => ∃ v_ L_, o_ = .returned v_ ∧ Qihs0 Z u h0 n0 v_ U_.heap L_ ∧ FrameEnd s o_ U_ L_ r_m0.cells r_m0.slots) (fun t_ k_ => castTop (ef_ihs0 m (Int32.ofNat u)) k_) ?_
  show Gl p.tables e below _ (s₁.setTop (mkF m 0 #[sI (Int32.ofNat u)] []))
  rcases id hu with hu1 | hu1
  · show Gl p.tables e below _ (s₁.setTop (mkF m 0 #[sI (Int32.ofNat u)] []))
    refine Gl.go (fun _ hr => zXS_iloadN X0.here hx rfl (hb hby d34_0) rfl hr) ?_
    refine Gl.go (X0.ldcInt hx hown (mvT hZ (tw hw 151 rfl)) rfl (hb hby d34_1)) ?_
    refine Gl.go (fun _ hr => zXS_icmpYes X0.here hx rfl (pc0 := 3) (pc' := 16) rfl (hb hby d34_3) rfl (XT.ii_lt_t (own_lt32 (b := 55296) (by decide) hu1)) (by decide) (by decide) (zXS_iconst X0.here hx rfl (hb hby d34_16) hr)) ?_
    obtain ⟨fs, hr, hrun, hended, hW, hsame⟩ := X0.leave (v := some (.int (0 : Int32))) (fun h => by rw [Bd.returns] at h; cases h)
    refine ⟨_, _, retN X0 hx (t := .boolean) Bd.returns (by simp) (hb hby d34_17) hr, hrun, hended, _, _, rfl, ?_, ⟨⟨_, rfl⟩, hW, hsame.mono (by decide) (by decide)⟩⟩
    show Qihs0 Z u h0 n0 _ s₁.heap _
    rw [e0]
    exact ⟨rfl, N0, rfl⟩
  · show Gl p.tables e below _ (s₁.setTop (mkF m 0 #[sI (Int32.ofNat u)] []))
    refine Gl.go (fun _ hr => zXS_iloadN X0.here hx rfl (hb hby d34_0) rfl hr) ?_
    refine Gl.go (X0.ldcInt hx hown (mvT hZ (tw hw 151 rfl)) rfl (hb hby d34_1)) ?_
    refine Gl.go (fun _ hr => zXS_icmpNo X0.here hx rfl (hb hby d34_3) rfl (XT.ii_lt_f (own_nlt32 (b := 55296) (by omega) (by decide) (by omega))) (zXS_iloadN X0.here hx rfl (hb hby d34_6) rfl hr)) ?_
    refine Gl.go (X0.ldcInt hx hown (mvT hZ (tw hw 152 rfl)) rfl (hb hby d34_7)) ?_
    refine Gl.go (fun _ hr => zXS_icmpYes X0.here hx rfl (pc0 := 9) (pc' := 16) rfl (hb hby d34_9) rfl (XT.ii_ge_t (own_nlt32 (b := 56320) (by omega) (by decide) (by omega))) (by decide) (by decide) (zXS_iconst X0.here hx rfl (hb hby d34_16) hr)) ?_
    obtain ⟨fs, hr, hrun, hended, hW, hsame⟩ := X0.leave (v := some (.int (0 : Int32))) (fun h => by rw [Bd.returns] at h; cases h)
    refine ⟨_, _, retN X0 hx (t := .boolean) Bd.returns (by simp) (hb hby d34_17) hr, hrun, hended, _, _, rfl, ?_, ⟨⟨_, rfl⟩, hW, hsame.mono (by decide) (by decide)⟩⟩
    show Qihs0 Z u h0 n0 _ s₁.heap _
    rw [e0]
    exact ⟨rfl, N0, rfl⟩
def Qils1 (Z : State) (u : Nat) (h0 : Heap) (n0 : Nat) (v : Option Value) (h : Heap) (L : List Loc) : Prop := v = some (.int (1 : Int32)) ∧ Fr n0 L ∧ h = h0
theorem ef_ils1 (m : MethodId) (x0 : Int32) : entryFrame m #[(.int x0)] 1 = mkF m 0 #[sI x0] [] := by first | (simp [entryFrame, mkF, argsToLocals, Value.category]; done) | rfl
theorem d42_0 : decode jdk_89_method_15_code 0 = .ok (.iload_n 0, 1) := by decide +kernel
theorem d42_1 : decode jdk_89_method_15_code 1 = .ok (.ldc 76, 2) := by decide +kernel
theorem d42_3 : decode jdk_89_method_15_code 3 = .ok (.if_icmp .lt 13, 3) := by decide +kernel
theorem d42_6 : decode jdk_89_method_15_code 6 = .ok (.iload_n 0, 1) := by decide +kernel
theorem d42_7 : decode jdk_89_method_15_code 7 = .ok (.ldc 77, 2) := by decide +kernel
theorem d42_9 : decode jdk_89_method_15_code 9 = .ok (.if_icmp .ge 7, 3) := by decide +kernel
theorem d42_12 : decode jdk_89_method_15_code 12 = .ok (.iconst 1, 1) := by decide +kernel
theorem d42_13 : decode jdk_89_method_15_code 13 = .ok (.goto 4, 3) := by decide +kernel
theorem d42_17 : decode jdk_89_method_15_code 17 = .ok (.ireturn, 1) := by decide +kernel
set_option maxRecDepth 65536 in
set_option maxHeartbeats 40000000 in
theorem ils1 (l : Launch) (Z : State) (a0 : Array Value) (hw : ∀ d ∈ tables_1, d.before a0 Z = true) (ws : List Jvm.Cond) (u : Nat) (h0 : Heap) (n0 : Nat) (Z0 : n0 ≤ h0.size) (hu : 56320 ≤ u ∧ u < 57344) :
    MetFree l y_20 (head1 (Jvm.Cond.code y_20 jdk_89_method_15_code 1 (some .boolean) :: ws) r_m0) (fun a_ U_ => a_ = #[(.int (Int32.ofNat u))] ∧ Z.Warmed39 U_.vm ∧ U_.heap = h0) (fun _ _ _ _ _ => True) (fun _ U_ o_ V_ => ∃ v_ L_, o_ = .returned v_ ∧ Qils1 Z u h0 n0 v_ V_.heap L_ ∧ FrameEnd U_ o_ V_ L_ r_m0.cells r_m0.slots) := by
  refine MetFree.of_bodySF (plainFor_of_name pn_4) hisR ?_
  intro p e s m args below meth c s₁ Bd hml0 hP hK
  obtain ⟨rfl, hZ, hh⟩ := hP
  have hx := Bd.exec
  have hby := Bd.bytes
  have hml : c.maxLocals = 1 := hml0
  have hown : s.vm.findClass "java/lang/Character" = some m.cls := findClass_of_methodNamed Bd.named
  have hnm := (name_of_methodNamed Bd.named Bd.method).1
  have X0 : Stand p l e r_m0 s m #[(.int (Int32.ofNat u))] below meth c s₁ [] 0 0 := Stand.of_body Bd
  have e0 : s₁.heap = h0 := by rw [← hh, Bd.state]; rfl
  have N0 := Fr.nil n0
  refine Gl.go (A := s₁.setTop (entryFrame m #[(.int (Int32.ofNat u))] 1)) (P := fun o_ U_ => ∃ v_ L_, o_ = .returned v_ ∧ Qils1 Z u h0 n0 v_ U_.heap L_ ∧ FrameEnd s o_ U_ L_ r_m0.cells r_m0.slots) (fun t_ k_ => castTop (ef_ils1 m (Int32.ofNat u)) k_) ?_
  show Gl p.tables e below _ (s₁.setTop (mkF m 0 #[sI (Int32.ofNat u)] []))
  refine Gl.go (fun _ hr => zXS_iloadN X0.here hx rfl (hb hby d42_0) rfl hr) ?_
  refine Gl.go (X0.ldcInt hx hown (mvT hZ (tw hw 152 rfl)) rfl (hb hby d42_1)) ?_
  refine Gl.go (fun _ hr => zXS_icmpNo X0.here hx rfl (hb hby d42_3) rfl (XT.ii_lt_f (own_nlt32 (b := 56320) (by omega) (by decide) (by omega))) (zXS_iloadN X0.here hx rfl (hb hby d42_6) rfl hr)) ?_
  refine Gl.go (X0.ldcInt hx hown (mvT hZ (tw hw 190 rfl)) rfl (hb hby d42_7)) ?_
  refine Gl.go (fun _ hr => zXS_icmpNo X0.here hx rfl (hb hby d42_9) rfl (XT.ii_ge_f (own_lt32 (b := 57344) (by decide) (by omega))) (zXS_iconst X0.here hx rfl (hb hby d42_12) (zXS_goto X0.here hx rfl (pc0 := 13) (pc' := 17) rfl (hb hby d42_13) (by decide) (by decide) hr))) ?_
  obtain ⟨fs, hr, hrun, hended, hW, hsame⟩ := X0.leave (v := some (.int (1 : Int32))) (fun h => by rw [Bd.returns] at h; cases h)
  refine ⟨_, _, retN X0 hx (t := .boolean) Bd.returns (by simp) (hb hby d42_17) hr, hrun, hended, _, _, rfl, ?_, ⟨⟨_, rfl⟩, hW, hsame.mono (by decide) (by decide)⟩⟩
  show Qils1 Z u h0 n0 _ s₁.heap _
  rw [e0]
  exact ⟨rfl, N0, rfl⟩
def Qtcp (Z : State) (k : Nat) (h0 : Heap) (n0 : Nat) (v : Option Value) (h : Heap) (L : List Loc) : Prop := v = some (.int (Int32.ofNat k)) ∧ Fr n0 L ∧ h = h0
theorem ef_tcp (m : MethodId) (x0 : Int32) (x1 : Int32) : entryFrame m #[(.int x0), (.int x1)] 2 = mkF m 0 #[sI x0, sI x1] [] := by first | (simp [entryFrame, mkF, argsToLocals, Value.category]; done) | rfl
theorem d43_0 : decode jdk_89_method_19_code 0 = .ok (.iload_n 0, 1) := by decide +kernel
theorem d43_1 : decode jdk_89_method_19_code 1 = .ok (.bipush 10, 2) := by decide +kernel
theorem d43_3 : decode jdk_89_method_19_code 3 = .ok (.ishl, 1) := by decide +kernel
theorem d43_4 : decode jdk_89_method_19_code 4 = .ok (.iload_n 1, 1) := by decide +kernel
theorem d43_5 : decode jdk_89_method_19_code 5 = .ok (.iadd, 1) := by decide +kernel
theorem d43_6 : decode jdk_89_method_19_code 6 = .ok (.ldc 85, 2) := by decide +kernel
theorem d43_8 : decode jdk_89_method_19_code 8 = .ok (.iadd, 1) := by decide +kernel
theorem d43_9 : decode jdk_89_method_19_code 9 = .ok (.ireturn, 1) := by decide +kernel
set_option maxRecDepth 65536 in
set_option maxHeartbeats 40000000 in
theorem tcp (l : Launch) (Z : State) (a0 : Array Value) (hw : ∀ d ∈ tables_1, d.before a0 Z = true) (ws : List Jvm.Cond) (k : Nat) (h0 : Heap) (n0 : Nat) (Z0 : n0 ≤ h0.size) (hk : 65536 ≤ k) (hk2 : k ≤ 1114111) :
    MetFree l y_21 (head1 (Jvm.Cond.code y_21 jdk_89_method_19_code 2 (some .int) :: ws) r_m0) (fun a_ U_ => a_ = #[(.int (Int32.ofNat (hiN k))), (.int (Int32.ofNat (loN k)))] ∧ Z.Warmed39 U_.vm ∧ U_.heap = h0) (fun _ _ _ _ _ => True) (fun _ U_ o_ V_ => ∃ v_ L_, o_ = .returned v_ ∧ Qtcp Z k h0 n0 v_ V_.heap L_ ∧ FrameEnd U_ o_ V_ L_ r_m0.cells r_m0.slots) := by
  refine MetFree.of_bodySF (plainFor_of_name pn_4) hisR ?_
  intro p e s m args below meth c s₁ Bd hml0 hP hK
  obtain ⟨rfl, hZ, hh⟩ := hP
  have hx := Bd.exec
  have hby := Bd.bytes
  have hml : c.maxLocals = 2 := hml0
  have hown : s.vm.findClass "java/lang/Character" = some m.cls := findClass_of_methodNamed Bd.named
  have hnm := (name_of_methodNamed Bd.named Bd.method).1
  have X0 : Stand p l e r_m0 s m #[(.int (Int32.ofNat (hiN k))), (.int (Int32.ofNat (loN k)))] below meth c s₁ [] 0 0 := Stand.of_body Bd
  have e0 : s₁.heap = h0 := by rw [← hh, Bd.state]; rfl
  have N0 := Fr.nil n0
  refine Gl.go (A := s₁.setTop (entryFrame m #[(.int (Int32.ofNat (hiN k))), (.int (Int32.ofNat (loN k)))] 2)) (P := fun o_ U_ => ∃ v_ L_, o_ = .returned v_ ∧ Qtcp Z k h0 n0 v_ U_.heap L_ ∧ FrameEnd s o_ U_ L_ r_m0.cells r_m0.slots) (fun t_ k_ => castTop (ef_tcp m (Int32.ofNat (hiN k)) (Int32.ofNat (loN k))) k_) ?_
  show Gl p.tables e below _ (s₁.setTop (mkF m 0 #[sI (Int32.ofNat (hiN k)), sI (Int32.ofNat (loN k))] []))
  refine Gl.go (fun _ hr => zXS_iloadN X0.here hx rfl (hb hby d43_0) rfl (zXS_bipush X0.here hx rfl (hb hby d43_1) (zXT_ishl X0.here hx rfl (hb hby d43_3) rfl (zXS_iloadN X0.here hx rfl (hb hby d43_4) rfl (zXS_iadd X0.here hx rfl (hb hby d43_5) rfl hr))))) ?_
  refine Gl.go (X0.ldcInt hx hown (mvT hZ (tw hw 194 rfl)) rfl (hb hby d43_6)) ?_
  refine Gl.go (fun _ hr => zXS_iadd X0.here hx rfl (hb hby d43_8) rfl hr) ?_
  obtain ⟨fs, hr, hrun, hended, hW, hsame⟩ := X0.leave (v := some (.int ((((Int32.ofNat (hiN k)) <<< ((10 : Int32) &&& 31)) + (Int32.ofNat (loN k))) + (-56613888 : Int32)))) (fun h => by rw [Bd.returns] at h; cases h)
  refine ⟨_, _, retOut X0 hx Bd.returns rfl (Or.inl ⟨rfl, Or.inl rfl, _, rfl⟩) (hb hby d43_9) hr, hrun, hended, _, _, rfl, ?_, ⟨⟨_, rfl⟩, hW, hsame.mono (by decide) (by decide)⟩⟩
  show Qtcp Z k h0 n0 _ s₁.heap _
  rw [e0]
  exact ⟨(own_some (own_tcp hk hk2)), N0, rfl⟩
def Qccc (Z : State) (k : Nat) (h0 : Heap) (n0 : Nat) (v : Option Value) (h : Heap) (L : List Loc) : Prop := v = some (.int (Int32.ofNat (cpl k))) ∧ Fr n0 L ∧ h = h0
theorem ef_ccc (m : MethodId) (x0 : Int32) : entryFrame m #[(.int x0)] 1 = mkF m 0 #[sI x0] [] := by first | (simp [entryFrame, mkF, argsToLocals, Value.category]; done) | rfl
theorem d35_0 : decode jdk_89_method_18_code 0 = .ok (.iload_n 0, 1) := by decide +kernel
theorem d35_1 : decode jdk_89_method_18_code 1 = .ok (.ldc 73, 2) := by decide +kernel
theorem d35_3 : decode jdk_89_method_18_code 3 = .ok (.if_icmp .lt 7, 3) := by decide +kernel
theorem d35_10 : decode jdk_89_method_18_code 10 = .ok (.iconst 1, 1) := by decide +kernel
theorem d35_11 : decode jdk_89_method_18_code 11 = .ok (.ireturn, 1) := by decide +kernel
theorem d35_6 : decode jdk_89_method_18_code 6 = .ok (.iconst 2, 1) := by decide +kernel
theorem d35_7 : decode jdk_89_method_18_code 7 = .ok (.goto 4, 3) := by decide +kernel
set_option maxRecDepth 65536 in
set_option maxHeartbeats 40000000 in
theorem ccc (l : Launch) (Z : State) (a0 : Array Value) (hw : ∀ d ∈ tables_1, d.before a0 Z = true) (ws : List Jvm.Cond) (k : Nat) (h0 : Heap) (n0 : Nat) (Z0 : n0 ≤ h0.size) (hk2 : k ≤ 1114111) :
    MetFree l y_22 (head1 (Jvm.Cond.code y_22 jdk_89_method_18_code 1 (some .int) :: ws) r_m0) (fun a_ U_ => a_ = #[(.int (Int32.ofNat k))] ∧ Z.Warmed39 U_.vm ∧ U_.heap = h0) (fun _ _ _ _ _ => True) (fun _ U_ o_ V_ => ∃ v_ L_, o_ = .returned v_ ∧ Qccc Z k h0 n0 v_ V_.heap L_ ∧ FrameEnd U_ o_ V_ L_ r_m0.cells r_m0.slots) := by
  refine MetFree.of_bodySF (plainFor_of_name pn_4) hisR ?_
  intro p e s m args below meth c s₁ Bd hml0 hP hK
  obtain ⟨rfl, hZ, hh⟩ := hP
  have hx := Bd.exec
  have hby := Bd.bytes
  have hml : c.maxLocals = 1 := hml0
  have hown : s.vm.findClass "java/lang/Character" = some m.cls := findClass_of_methodNamed Bd.named
  have hnm := (name_of_methodNamed Bd.named Bd.method).1
  have X0 : Stand p l e r_m0 s m #[(.int (Int32.ofNat k))] below meth c s₁ [] 0 0 := Stand.of_body Bd
  have e0 : s₁.heap = h0 := by rw [← hh, Bd.state]; rfl
  have N0 := Fr.nil n0
  refine Gl.go (A := s₁.setTop (entryFrame m #[(.int (Int32.ofNat k))] 1)) (P := fun o_ U_ => ∃ v_ L_, o_ = .returned v_ ∧ Qccc Z k h0 n0 v_ U_.heap L_ ∧ FrameEnd s o_ U_ L_ r_m0.cells r_m0.slots) (fun t_ k_ => castTop (ef_ccc m (Int32.ofNat k)) k_) ?_
  show Gl p.tables e below _ (s₁.setTop (mkF m 0 #[sI (Int32.ofNat k)] []))
  refine Gl.go (fun _ hr => zXS_iloadN X0.here hx rfl (hb hby d35_0) rfl hr) ?_
  refine Gl.go (X0.ldcInt hx hown (mvT hZ (tw hw 158 rfl)) rfl (hb hby d35_1)) ?_
  by_cases hc467 : (Int32.ofNat k) < (65536 : Int32)
  · refine Gl.go (fun _ hr => zXS_icmpYes X0.here hx rfl (pc0 := 3) (pc' := 10) rfl (hb hby d35_3) rfl (XT.ii_lt_t hc467) (by decide) (by decide) (zXS_iconst X0.here hx rfl (hb hby d35_10) hr)) ?_
    obtain ⟨fs, hr, hrun, hended, hW, hsame⟩ := X0.leave (v := some (.int (1 : Int32))) (fun h => by rw [Bd.returns] at h; cases h)
    refine ⟨_, _, retOut X0 hx Bd.returns rfl (Or.inl ⟨rfl, Or.inl rfl, _, rfl⟩) (hb hby d35_11) hr, hrun, hended, _, _, rfl, ?_, ⟨⟨_, rfl⟩, hW, hsame.mono (by decide) (by decide)⟩⟩
    show Qccc Z k h0 n0 _ s₁.heap _
    rw [e0]
    exact ⟨(own_some (own_cl1 (own_lt32' (b := 65536) (by omega) (by decide) hc467))), N0, rfl⟩
  · refine Gl.go (fun _ hr => zXS_icmpNo X0.here hx rfl (hb hby d35_3) rfl (XT.ii_lt_f hc467) (zXS_iconst X0.here hx rfl (hb hby d35_6) (zXS_goto X0.here hx rfl (pc0 := 7) (pc' := 11) rfl (hb hby d35_7) (by decide) (by decide) hr))) ?_
    obtain ⟨fs, hr, hrun, hended, hW, hsame⟩ := X0.leave (v := some (.int (2 : Int32))) (fun h => by rw [Bd.returns] at h; cases h)
    refine ⟨_, _, retOut X0 hx Bd.returns rfl (Or.inl ⟨rfl, Or.inl rfl, _, rfl⟩) (hb hby d35_11) hr, hrun, hended, _, _, rfl, ?_, ⟨⟨_, rfl⟩, hW, hsame.mono (by decide) (by decide)⟩⟩
    show Qccc Z k h0 n0 _ s₁.heap _
    rw [e0]
    exact ⟨(own_some (own_cl2 (Nat.not_lt.mpr (own_ge32 (b := 65536) (by omega) (by decide) hc467)))), N0, rfl⟩
def Qcp4 (Z : State) (a : Addr) (ka : ClassId) (cs : List Int32) (i : Nat) (k : Nat) (h0 : Heap) (n0 : Nat) (v : Option Value) (h : Heap) (L : List Loc) : Prop := v = some (.int (Int32.ofNat k)) ∧ Fr n0 L ∧ h = h0
theorem ef_cp4 (m : MethodId) (x0 : Addr) (x1 : Int32) (x2 : Int32) (x3 : Int32) : entryFrame m #[(.ref x0), (.int x1), (.int x2), (.int x3)] 6 = mkF m 0 #[sR x0, sI x1, sI x2, sI x3, sU, sU] [] := by first | (simp [entryFrame, mkF, argsToLocals, Value.category]; done) | rfl
theorem d33_0 : decode jdk_52_method_7_code 0 = .ok (.getstatic 44, 3) := by decide +kernel
theorem d33_3 : decode jdk_52_method_7_code 3 = .ok (.ifCond .ne 16, 3) := by decide +kernel
theorem d33_19 : decode jdk_52_method_7_code 19 = .ok (.iload_n 3, 1) := by decide +kernel
theorem d33_20 : decode jdk_52_method_7_code 20 = .ok (.ifCond .eq 8, 3) := by decide +kernel
theorem d33_28 : decode jdk_52_method_7_code 28 = .ok (.aload_n 0, 1) := by decide +kernel
theorem d33_29 : decode jdk_52_method_7_code 29 = .ok (.iload_n 1, 1) := by decide +kernel
theorem d33_30 : decode jdk_52_method_7_code 30 = .ok (.invokestatic 71, 3) := by decide +kernel
theorem d33_33 : decode jdk_52_method_7_code 33 = .ok (.istore 4, 2) := by decide +kernel
theorem d33_35 : decode jdk_52_method_7_code 35 = .ok (.iload 4, 2) := by decide +kernel
theorem d33_37 : decode jdk_52_method_7_code 37 = .ok (.invokestatic 75, 3) := by decide +kernel
theorem pd_11 : parseMethodDescriptor "(C)Z" = some ⟨[.char], some .boolean⟩ := by decide +kernel
theorem d33_40 : decode jdk_52_method_7_code 40 = .ok (.ifCond .eq 43, 3) := by decide +kernel
theorem d33_83 : decode jdk_52_method_7_code 83 = .ok (.iload 4, 2) := by decide +kernel
theorem d33_85 : decode jdk_52_method_7_code 85 = .ok (.ireturn, 1) := by decide +kernel
theorem d33_43 : decode jdk_52_method_7_code 43 = .ok (.iinc 1 1, 3) := by decide +kernel
theorem d33_46 : decode jdk_52_method_7_code 46 = .ok (.iload_n 1, 1) := by decide +kernel
theorem d33_47 : decode jdk_52_method_7_code 47 = .ok (.iload_n 2, 1) := by decide +kernel
theorem d33_48 : decode jdk_52_method_7_code 48 = .ok (.if_icmp .ge 35, 3) := by decide +kernel
theorem d33_51 : decode jdk_52_method_7_code 51 = .ok (.iload_n 3, 1) := by decide +kernel
theorem d33_52 : decode jdk_52_method_7_code 52 = .ok (.ifCond .eq 8, 3) := by decide +kernel
theorem d33_60 : decode jdk_52_method_7_code 60 = .ok (.aload_n 0, 1) := by decide +kernel
theorem d33_61 : decode jdk_52_method_7_code 61 = .ok (.iload_n 1, 1) := by decide +kernel
theorem d33_62 : decode jdk_52_method_7_code 62 = .ok (.invokestatic 71, 3) := by decide +kernel
theorem d33_65 : decode jdk_52_method_7_code 65 = .ok (.istore 5, 2) := by decide +kernel
theorem d33_67 : decode jdk_52_method_7_code 67 = .ok (.iload 5, 2) := by decide +kernel
theorem d33_69 : decode jdk_52_method_7_code 69 = .ok (.invokestatic 81, 3) := by decide +kernel
theorem d33_72 : decode jdk_52_method_7_code 72 = .ok (.ifCond .eq 11, 3) := by decide +kernel
theorem d33_75 : decode jdk_52_method_7_code 75 = .ok (.iload 4, 2) := by decide +kernel
theorem d33_77 : decode jdk_52_method_7_code 77 = .ok (.iload 5, 2) := by decide +kernel
theorem d33_79 : decode jdk_52_method_7_code 79 = .ok (.invokestatic 84, 3) := by decide +kernel
theorem pd_12 : parseMethodDescriptor "(CC)I" = some ⟨[.char, .char], some .int⟩ := by decide +kernel
theorem d33_82 : decode jdk_52_method_7_code 82 = .ok (.ireturn, 1) := by decide +kernel
set_option maxRecDepth 65536 in
set_option maxHeartbeats 40000000 in
theorem cp4 (l : Launch) (Z : State) (a0 : Array Value) (hw : ∀ d ∈ tables_1, d.before a0 Z = true) (ws : List Jvm.Cond) (a : Addr) (ka : ClassId) (cs : List Int32) (i : Nat) (k : Nat) (h0 : Heap) (n0 : Nat) (Z0 : n0 ≤ h0.size) (q0 : Old Z n0 h0) (q1 : Sta Z Z.heap "java/lang/StringUTF16" "$assertionsDisabled" "Z" (.int (1 : Int32))) (q2 : Sta Z Z.heap "java/lang/StringUTF16" "HI_BYTE_SHIFT" "I" (.int (0 : Int32))) (q3 : Sta Z Z.heap "java/lang/StringUTF16" "LO_BYTE_SHIFT" "I" (.int (8 : Int32))) (q4 : Arv Z h0 a ka .byte (Int32.ofNat (2 * cs.length)) (StrChars.Road.wideBytes cs) (.int 0)) (hat : AtC cs i k) (hk : KeyC k) (hcl : cs.length ≤ 32) (hbd : ∀ c ∈ cs, Wid c) :
    MetFree l y_23 (head1 (Jvm.Cond.code y_23 jdk_52_method_7_code 6 (some .int) :: ws) r_m9) (fun a_ U_ => a_ = #[(.ref a), (.int (Int32.ofNat i)), (.int (Int32.ofNat cs.length)), (.int (0 : Int32))] ∧ Z.Warmed39 U_.vm ∧ U_.heap = h0) (fun _ _ _ _ _ => True) (fun _ U_ o_ V_ => ∃ v_ L_, o_ = .returned v_ ∧ Qcp4 Z a ka cs i k h0 n0 v_ V_.heap L_ ∧ FrameEnd U_ o_ V_ L_ r_m9.cells r_m9.slots) := by
  refine MetFree.of_bodySF (plainFor_of_name pn_0) hisR ?_
  intro p e s m args below meth c s₁ Bd hml0 hP hK
  obtain ⟨rfl, hZ, hh⟩ := hP
  have hx := Bd.exec
  have hby := Bd.bytes
  have hml : c.maxLocals = 6 := hml0
  have hown : s.vm.findClass "java/lang/StringUTF16" = some m.cls := findClass_of_methodNamed Bd.named
  have hnm := (name_of_methodNamed Bd.named Bd.method).1
  have X0 : Stand p l e r_m9 s m #[(.ref a), (.int (Int32.ofNat i)), (.int (Int32.ofNat cs.length)), (.int (0 : Int32))] below meth c s₁ [] 0 0 := Stand.of_body Bd
  have e0 : s₁.heap = h0 := by rw [← hh, Bd.state]; rfl
  have N0 := Fr.nil n0
  have zo := q0.1
  have lt468 := own_alt q4.lt
  refine Gl.go (A := s₁.setTop (entryFrame m #[(.ref a), (.int (Int32.ofNat i)), (.int (Int32.ofNat cs.length)), (.int (0 : Int32))] 6)) (P := fun o_ U_ => ∃ v_ L_, o_ = .returned v_ ∧ Qcp4 Z a ka cs i k h0 n0 v_ U_.heap L_ ∧ FrameEnd s o_ U_ L_ r_m9.cells r_m9.slots) (fun t_ k_ => castTop (ef_cp4 m a (Int32.ofNat i) (Int32.ofNat cs.length) (0 : Int32)) k_) ?_
  show Gl p.tables e below _ (s₁.setTop (mkF m 0 #[sR a, sI (Int32.ofNat i), sI (Int32.ofNat cs.length), sI 0, sU, sU] []))
  refine gGetS (host := "") Gl.cl X0 hx hZ hown (Or.inl (tw hw 66 rfl)) Via.refl e0 (q1.ext q0.2) rfl (hb hby d33_0) ?_
  intro T469 X469 e469
  refine Gl.go (fun _ hr => zXS_ifYes X469.here hx rfl (pc0 := 3) (pc' := 19) rfl (hb hby d33_3) rfl (XT.i0_ne_t (by decide)) (by decide) (by decide) (zXS_iloadN X469.here hx rfl (hb hby d33_19) rfl (zXS_ifYes X469.here hx rfl (pc0 := 20) (pc' := 28) rfl (hb hby d33_20) rfl (XT.i0_eq_t (by decide)) (by decide) (by decide) (zXS_aloadN X469.here hx rfl (hb hby d33_28) rfl rfl (zXS_iloadN X469.here hx rfl (hb hby d33_29) rfl hr))))) ?_
  have zz470 : n0 ≤ h0.size := by omega
  refine gStaticN Gl.cl (y := y_1) (argsL := [(.ref a), (.int (Int32.ofNat i))]) (rest := []) (mc := 0) (ms := 0) X469 hx hZ hown (mvT hZ (tw hw 69 rfl)) (mvT hZ (tw hw 70 rfl)) (mvT hZ (tw hw 33 rfl)) (mvT hZ (tw hw 71 rfl)) (by decide) (backOf (W := 0) (gtc l Z a0 hw [] a ka cs i h0 n0 zz470 q0 q1 q2 q3 q4 hat.1 hcl hbd) hZ (tw hw 71 rfl) (tw hw 33 rfl) (by decide) (by decide)) rfl (by rw [hml]; rfl) (lenOf pd_5 rfl) rfl (by exact Nat.le_of_eq rfl) (hb hby d33_30) rfl e469 (by decide) (by decide) ?_
  intro v470 T470 Lc470 hQ470 X470
  obtain ⟨rfl, Nq470, e470⟩ := hQ470
  have N470 := Fr.app N0 Nq470
  show Gl p.tables e below _ (T470.setTop (mkF m 33 #[sR a, sI (Int32.ofNat i), sI (Int32.ofNat cs.length), sI 0, sU, sU] [(.int (cs.getD i 0))]))
  by_cases hb16 : k < 65536
  · rw [(hat.2.1 hb16)]
    show Gl p.tables e below _ (T470.setTop (mkF m 33 #[sR a, sI (Int32.ofNat i), sI (Int32.ofNat cs.length), sI 0, sU, sU] [(.int (Int32.ofNat k))]))
    refine Gl.go (fun _ hr => zXS_istore X470.here hx rfl (hb hby d33_33) rfl (l' := #[sR a, sI (Int32.ofNat i), sI (Int32.ofNat cs.length), sI 0, sI (Int32.ofNat k), sU]) rfl (zXS_iload X470.here hx rfl (hb hby d33_35) rfl hr)) ?_
    have zz471 : n0 ≤ h0.size := by omega
    refine gStaticN Gl.cl (y := y_19) (argsL := [(.int (Int32.ofNat k))]) (rest := []) (mc := 0) (ms := 0) X470 hx hZ hown (mvT hZ (tw hw 147 rfl)) (mvT hZ (tw hw 148 rfl)) (mvT hZ (tw hw 149 rfl)) (mvT hZ (tw hw 150 rfl)) (by decide) (backOf (W := 0) (ihs0 l Z a0 hw [] k h0 n0 zz471 hk.2 hb16) hZ (tw hw 150 rfl) (tw hw 149 rfl) (by decide) (by decide)) rfl (by rw [hml]; rfl) (lenOf pd_11 rfl) rfl (by exact Nat.le_of_eq rfl) (hb hby d33_37) rfl e470 (by decide) (by decide) ?_
    intro v471 T471 Lc471 hQ471 X471
    obtain ⟨rfl, Nq471, e471⟩ := hQ471
    have N471 := Fr.app N470 Nq471
    refine Gl.go (fun _ hr => zXS_ifYes X471.here hx rfl (pc0 := 40) (pc' := 83) rfl (hb hby d33_40) rfl (XT.i0_eq_t (by decide)) (by decide) (by decide) (zXS_iload X471.here hx rfl (hb hby d33_83) rfl hr)) ?_
    obtain ⟨fs, hr, hrun, hended, hW, hsame⟩ := X471.leave (v := some (.int (Int32.ofNat k))) (fun h => by rw [Bd.returns] at h; cases h)
    refine ⟨_, _, retOut X471 hx Bd.returns rfl (Or.inl ⟨rfl, Or.inl rfl, _, rfl⟩) (hb hby d33_85) hr, hrun, hended, _, _, rfl, ?_, ⟨⟨_, rfl⟩, hW, hsame.mono (by decide) (by decide)⟩⟩
    show Qcp4 Z a ka cs i k h0 n0 _ T471.heap _
    rw [e471]
    exact ⟨rfl, N471, rfl⟩
  · have hb17 : 65536 ≤ k := by omega
    have h3 := hat.2.2 hb17
    have h4 := h3.1
    rw [h3.2.1]
    show Gl p.tables e below _ (T470.setTop (mkF m 33 #[sR a, sI (Int32.ofNat i), sI (Int32.ofNat cs.length), sI 0, sU, sU] [(.int (Int32.ofNat (hiN k)))]))
    refine Gl.go (fun _ hr => zXS_istore X470.here hx rfl (hb hby d33_33) rfl (l' := #[sR a, sI (Int32.ofNat i), sI (Int32.ofNat cs.length), sI 0, sI (Int32.ofNat (hiN k)), sU]) rfl (zXS_iload X470.here hx rfl (hb hby d33_35) rfl hr)) ?_
    have zz472 : n0 ≤ h0.size := by omega
    refine gStaticN Gl.cl (y := y_19) (argsL := [(.int (Int32.ofNat (hiN k)))]) (rest := []) (mc := 0) (ms := 0) X470 hx hZ hown (mvT hZ (tw hw 147 rfl)) (mvT hZ (tw hw 148 rfl)) (mvT hZ (tw hw 149 rfl)) (mvT hZ (tw hw 150 rfl)) (by decide) (backOf (W := 0) (ihs1 l Z a0 hw [] (hiN k) h0 n0 zz472 ⟨hiN_ge k, hiN_lt hk.1.2⟩) hZ (tw hw 150 rfl) (tw hw 149 rfl) (by decide) (by decide)) rfl (by rw [hml]; rfl) (lenOf pd_11 rfl) rfl (by exact Nat.le_of_eq rfl) (hb hby d33_37) rfl e470 (by decide) (by decide) ?_
    intro v472 T472 Lc472 hQ472 X472
    obtain ⟨rfl, Nq472, e472⟩ := hQ472
    have N472 := Fr.app N470 Nq472
    refine Gl.go (fun _ hr => zXS_ifNo X472.here hx rfl (hb hby d33_40) rfl (XT.i0_eq_f (by decide)) (zXS_iinc X472.here hx rfl (hb hby d33_43) rfl (l' := #[sR a, sI ((Int32.ofNat i) + (1 : Int32)), sI (Int32.ofNat cs.length), sI 0, sI (Int32.ofNat (hiN k)), sU]) rfl hr)) ?_
    show Gl p.tables e below _ (T472.setTop (mkF m 46 #[sR a, sI ((Int32.ofNat i) + (1 : Int32)), sI (Int32.ofNat cs.length), sI 0, sI (Int32.ofNat (hiN k)), sU] []))
    rw [(own_nat_succ i)]
    show Gl p.tables e below _ (T472.setTop (mkF m 46 #[sR a, sI (Int32.ofNat (i + 1)), sI (Int32.ofNat cs.length), sI 0, sI (Int32.ofNat (hiN k)), sU] []))
    refine Gl.go (fun _ hr => zXS_iloadN X472.here hx rfl (hb hby d33_46) rfl (zXS_iloadN X472.here hx rfl (hb hby d33_47) rfl hr)) ?_
    refine Gl.go (fun _ hr => zXS_icmpNo X472.here hx rfl (hb hby d33_48) rfl (XT.ii_ge_f (own_lt32 (b := cs.length) (by omega) h4)) (zXS_iloadN X472.here hx rfl (hb hby d33_51) rfl (zXS_ifYes X472.here hx rfl (pc0 := 52) (pc' := 60) rfl (hb hby d33_52) rfl (XT.i0_eq_t (by decide)) (by decide) (by decide) (zXS_aloadN X472.here hx rfl (hb hby d33_60) rfl rfl (zXS_iloadN X472.here hx rfl (hb hby d33_61) rfl hr))))) ?_
    have zz473 : n0 ≤ h0.size := by omega
    refine gStaticN Gl.cl (y := y_1) (argsL := [(.ref a), (.int (Int32.ofNat (i + 1)))]) (rest := []) (mc := 0) (ms := 0) X472 hx hZ hown (mvT hZ (tw hw 69 rfl)) (mvT hZ (tw hw 70 rfl)) (mvT hZ (tw hw 33 rfl)) (mvT hZ (tw hw 71 rfl)) (by decide) (backOf (W := 0) (gtc l Z a0 hw [] a ka cs (i + 1) h0 n0 zz473 q0 q1 q2 q3 q4 h4 hcl hbd) hZ (tw hw 71 rfl) (tw hw 33 rfl) (by decide) (by decide)) rfl (by rw [hml]; rfl) (lenOf pd_5 rfl) rfl (by exact Nat.le_of_eq rfl) (hb hby d33_62) rfl e472 (by decide) (by decide) ?_
    intro v473 T473 Lc473 hQ473 X473
    obtain ⟨rfl, Nq473, e473⟩ := hQ473
    have N473 := Fr.app N472 Nq473
    show Gl p.tables e below _ (T473.setTop (mkF m 65 #[sR a, sI (Int32.ofNat (i + 1)), sI (Int32.ofNat cs.length), sI 0, sI (Int32.ofNat (hiN k)), sU] [(.int (cs.getD (i + 1) 0))]))
    rw [h3.2.2]
    show Gl p.tables e below _ (T473.setTop (mkF m 65 #[sR a, sI (Int32.ofNat (i + 1)), sI (Int32.ofNat cs.length), sI 0, sI (Int32.ofNat (hiN k)), sU] [(.int (Int32.ofNat (loN k)))]))
    refine Gl.go (fun _ hr => zXS_istore X473.here hx rfl (hb hby d33_65) rfl (l' := #[sR a, sI (Int32.ofNat (i + 1)), sI (Int32.ofNat cs.length), sI 0, sI (Int32.ofNat (hiN k)), sI (Int32.ofNat (loN k))]) rfl (zXS_iload X473.here hx rfl (hb hby d33_67) rfl hr)) ?_
    have zz474 : n0 ≤ h0.size := by omega
    refine gStaticN Gl.cl (y := y_20) (argsL := [(.int (Int32.ofNat (loN k)))]) (rest := []) (mc := 0) (ms := 0) X473 hx hZ hown (mvT hZ (tw hw 187 rfl)) (mvT hZ (tw hw 188 rfl)) (mvT hZ (tw hw 149 rfl)) (mvT hZ (tw hw 189 rfl)) (by decide) (backOf (W := 0) (ils1 l Z a0 hw [] (loN k) h0 n0 zz474 ⟨loN_ge k, loN_lt k⟩) hZ (tw hw 189 rfl) (tw hw 149 rfl) (by decide) (by decide)) rfl (by rw [hml]; rfl) (lenOf pd_11 rfl) rfl (by exact Nat.le_of_eq rfl) (hb hby d33_69) rfl e473 (by decide) (by decide) ?_
    intro v474 T474 Lc474 hQ474 X474
    obtain ⟨rfl, Nq474, e474⟩ := hQ474
    have N474 := Fr.app N473 Nq474
    refine Gl.go (fun _ hr => zXS_ifNo X474.here hx rfl (hb hby d33_72) rfl (XT.i0_eq_f (by decide)) (zXS_iload X474.here hx rfl (hb hby d33_75) rfl (zXS_iload X474.here hx rfl (hb hby d33_77) rfl hr))) ?_
    have zz475 : n0 ≤ h0.size := by omega
    refine gStaticN Gl.cl (y := y_21) (argsL := [(.int (Int32.ofNat (hiN k))), (.int (Int32.ofNat (loN k)))]) (rest := []) (mc := 0) (ms := 0) X474 hx hZ hown (mvT hZ (tw hw 191 rfl)) (mvT hZ (tw hw 192 rfl)) (mvT hZ (tw hw 149 rfl)) (mvT hZ (tw hw 193 rfl)) (by decide) (backOf (W := 0) (tcp l Z a0 hw [] k h0 n0 zz475 hb17 hk.1.2) hZ (tw hw 193 rfl) (tw hw 149 rfl) (by decide) (by decide)) rfl (by rw [hml]; rfl) (lenOf pd_12 rfl) rfl (by exact Nat.le_of_eq rfl) (hb hby d33_79) rfl e474 (by decide) (by decide) ?_
    intro v475 T475 Lc475 hQ475 X475
    obtain ⟨rfl, Nq475, e475⟩ := hQ475
    have N475 := Fr.app N474 Nq475
    obtain ⟨fs, hr, hrun, hended, hW, hsame⟩ := X475.leave (v := some (.int (Int32.ofNat k))) (fun h => by rw [Bd.returns] at h; cases h)
    refine ⟨_, _, retOut X475 hx Bd.returns rfl (Or.inl ⟨rfl, Or.inl rfl, _, rfl⟩) (hb hby d33_82) hr, hrun, hended, _, _, rfl, ?_, ⟨⟨_, rfl⟩, hW, hsame.mono (by decide) (by decide)⟩⟩
    show Qcp4 Z a ka cs i k h0 n0 _ T475.heap _
    rw [e475]
    exact ⟨rfl, N475, rfl⟩
def Qcp3 (Z : State) (a : Addr) (ka : ClassId) (cs : List Int32) (i : Nat) (k : Nat) (h0 : Heap) (n0 : Nat) (v : Option Value) (h : Heap) (L : List Loc) : Prop := v = some (.int (Int32.ofNat k)) ∧ Fr n0 L ∧ h = h0
theorem ef_cp3 (m : MethodId) (x0 : Addr) (x1 : Int32) (x2 : Int32) : entryFrame m #[(.ref x0), (.int x1), (.int x2)] 3 = mkF m 0 #[sR x0, sI x1, sI x2] [] := by first | (simp [entryFrame, mkF, argsToLocals, Value.category]; done) | rfl
theorem d32_0 : decode jdk_52_method_8_code 0 = .ok (.aload_n 0, 1) := by decide +kernel
theorem d32_1 : decode jdk_52_method_8_code 1 = .ok (.iload_n 1, 1) := by decide +kernel
theorem d32_2 : decode jdk_52_method_8_code 2 = .ok (.iload_n 2, 1) := by decide +kernel
theorem d32_3 : decode jdk_52_method_8_code 3 = .ok (.iconst 0, 1) := by decide +kernel
theorem d32_4 : decode jdk_52_method_8_code 4 = .ok (.invokestatic 88, 3) := by decide +kernel
theorem pd_13 : parseMethodDescriptor "([BIIZ)I" = some ⟨[(.array .byte), .int, .int, .boolean], some .int⟩ := by decide +kernel
theorem d32_7 : decode jdk_52_method_8_code 7 = .ok (.ireturn, 1) := by decide +kernel
set_option maxRecDepth 65536 in
set_option maxHeartbeats 40000000 in
theorem cp3 (l : Launch) (Z : State) (a0 : Array Value) (hw : ∀ d ∈ tables_1, d.before a0 Z = true) (ws : List Jvm.Cond) (a : Addr) (ka : ClassId) (cs : List Int32) (i : Nat) (k : Nat) (h0 : Heap) (n0 : Nat) (Z0 : n0 ≤ h0.size) (q0 : Old Z n0 h0) (q1 : Sta Z Z.heap "java/lang/StringUTF16" "$assertionsDisabled" "Z" (.int (1 : Int32))) (q2 : Sta Z Z.heap "java/lang/StringUTF16" "HI_BYTE_SHIFT" "I" (.int (0 : Int32))) (q3 : Sta Z Z.heap "java/lang/StringUTF16" "LO_BYTE_SHIFT" "I" (.int (8 : Int32))) (q4 : Arv Z h0 a ka .byte (Int32.ofNat (2 * cs.length)) (StrChars.Road.wideBytes cs) (.int 0)) (hat : AtC cs i k) (hk : KeyC k) (hcl : cs.length ≤ 32) (hbd : ∀ c ∈ cs, Wid c) :
    MetFree l y_24 (head1 (Jvm.Cond.code y_24 jdk_52_method_8_code 3 (some .int) :: ws) r_m10) (fun a_ U_ => a_ = #[(.ref a), (.int (Int32.ofNat i)), (.int (Int32.ofNat cs.length))] ∧ Z.Warmed39 U_.vm ∧ U_.heap = h0) (fun _ _ _ _ _ => True) (fun _ U_ o_ V_ => ∃ v_ L_, o_ = .returned v_ ∧ Qcp3 Z a ka cs i k h0 n0 v_ V_.heap L_ ∧ FrameEnd U_ o_ V_ L_ r_m10.cells r_m10.slots) := by
  refine MetFree.of_bodySF (plainFor_of_name pn_0) hisR ?_
  intro p e s m args below meth c s₁ Bd hml0 hP hK
  obtain ⟨rfl, hZ, hh⟩ := hP
  have hx := Bd.exec
  have hby := Bd.bytes
  have hml : c.maxLocals = 3 := hml0
  have hown : s.vm.findClass "java/lang/StringUTF16" = some m.cls := findClass_of_methodNamed Bd.named
  have hnm := (name_of_methodNamed Bd.named Bd.method).1
  have X0 : Stand p l e r_m10 s m #[(.ref a), (.int (Int32.ofNat i)), (.int (Int32.ofNat cs.length))] below meth c s₁ [] 0 0 := Stand.of_body Bd
  have e0 : s₁.heap = h0 := by rw [← hh, Bd.state]; rfl
  have N0 := Fr.nil n0
  have zo := q0.1
  have lt476 := own_alt q4.lt
  refine Gl.go (A := s₁.setTop (entryFrame m #[(.ref a), (.int (Int32.ofNat i)), (.int (Int32.ofNat cs.length))] 3)) (P := fun o_ U_ => ∃ v_ L_, o_ = .returned v_ ∧ Qcp3 Z a ka cs i k h0 n0 v_ U_.heap L_ ∧ FrameEnd s o_ U_ L_ r_m10.cells r_m10.slots) (fun t_ k_ => castTop (ef_cp3 m a (Int32.ofNat i) (Int32.ofNat cs.length)) k_) ?_
  show Gl p.tables e below _ (s₁.setTop (mkF m 0 #[sR a, sI (Int32.ofNat i), sI (Int32.ofNat cs.length)] []))
  refine Gl.go (fun _ hr => zXS_aloadN X0.here hx rfl (hb hby d32_0) rfl rfl (zXS_iloadN X0.here hx rfl (hb hby d32_1) rfl (zXS_iloadN X0.here hx rfl (hb hby d32_2) rfl (zXS_iconst X0.here hx rfl (hb hby d32_3) hr)))) ?_
  have zz477 : n0 ≤ h0.size := by omega
  refine gStaticN Gl.cl (y := y_23) (argsL := [(.ref a), (.int (Int32.ofNat i)), (.int (Int32.ofNat cs.length)), (.int (0 : Int32))]) (rest := []) (mc := 0) (ms := 0) X0 hx hZ hown (mvT hZ (tw hw 144 rfl)) (mvT hZ (tw hw 145 rfl)) (mvT hZ (tw hw 33 rfl)) (mvT hZ (tw hw 146 rfl)) (by decide) (backOf (W := 0) (cp4 l Z a0 hw [] a ka cs i k h0 n0 zz477 q0 q1 q2 q3 q4 (by assumption) (by assumption) (by assumption) (by assumption)) hZ (tw hw 146 rfl) (tw hw 33 rfl) (by decide) (by decide)) rfl (by rw [hml]; rfl) (lenOf pd_13 rfl) rfl (by exact Nat.le_of_eq rfl) (hb hby d32_4) rfl e0 (by decide) (by decide) ?_
  intro v477 T477 Lc477 hQ477 X477
  obtain ⟨rfl, Nq477, e477⟩ := hQ477
  have N477 := Fr.app N0 Nq477
  obtain ⟨fs, hr, hrun, hended, hW, hsame⟩ := X477.leave (v := some (.int (Int32.ofNat k))) (fun h => by rw [Bd.returns] at h; cases h)
  refine ⟨_, _, retOut X477 hx Bd.returns rfl (Or.inl ⟨rfl, Or.inl rfl, _, rfl⟩) (hb hby d32_7) hr, hrun, hended, _, _, rfl, ?_, ⟨⟨_, rfl⟩, hW, hsame.mono (by decide) (by decide)⟩⟩
  show Qcp3 Z a ka cs i k h0 n0 _ T477.heap _
  rw [e477]
  exact ⟨rfl, N477, rfl⟩
def Qcpa (Z : State) (x : Addr) (t : Addr) (kb : ClassId) (cd : Int32) (N : Int32) (vs : List Value) (cs : List Int32) (i : Nat) (k : Nat) (G1 : Int32) (G3 : Value) (h0 : Heap) (n0 : Nat) (v : Option Value) (h : Heap) (L : List Loc) : Prop := v = some (.int (Int32.ofNat k)) ∧ Fr n0 L ∧ h = h0
theorem ef_cpa (m : MethodId) (x0 : Addr) (x1 : Int32) : entryFrame m #[(.ref x0), (.int x1)] 3 = mkF m 0 #[sR x0, sI x1, sU] [] := by first | (simp [entryFrame, mkF, argsToLocals, Value.category]; done) | rfl
theorem d31_0 : decode jdk_42_method_57_code 0 = .ok (.aload_n 0, 1) := by decide +kernel
theorem d31_1 : decode jdk_42_method_57_code 1 = .ok (.invokevirtual 492, 3) := by decide +kernel
theorem pd_14 : parseMethodDescriptor "()Z" = some ⟨[], some .boolean⟩ := by decide +kernel
theorem d31_4 : decode jdk_42_method_57_code 4 = .ok (.ifCond .eq 23, 3) := by decide +kernel
theorem d31_7 : decode jdk_42_method_57_code 7 = .ok (.iload_n 1, 1) := by decide +kernel
theorem d31_8 : decode jdk_42_method_57_code 8 = .ok (.aload_n 0, 1) := by decide +kernel
theorem d31_9 : decode jdk_42_method_57_code 9 = .ok (.getfield 9, 3) := by decide +kernel
theorem d31_12 : decode jdk_42_method_57_code 12 = .ok (.arraylength, 1) := by decide +kernel
theorem d31_13 : decode jdk_42_method_57_code 13 = .ok (.invokestatic 499, 3) := by decide +kernel
theorem pd_15 : parseMethodDescriptor "(II)V" = some ⟨[.int, .int], none⟩ := by decide +kernel
theorem d31_16 : decode jdk_42_method_57_code 16 = .ok (.aload_n 0, 1) := by decide +kernel
theorem d31_17 : decode jdk_42_method_57_code 17 = .ok (.getfield 9, 3) := by decide +kernel
theorem d31_20 : decode jdk_42_method_57_code 20 = .ok (.iload_n 1, 1) := by decide +kernel
theorem d31_21 : decode jdk_42_method_57_code 21 = .ok (.baload, 1) := by decide +kernel
theorem d31_22 : decode jdk_42_method_57_code 22 = .ok (.sipush 255, 3) := by decide +kernel
theorem d31_25 : decode jdk_42_method_57_code 25 = .ok (.iand, 1) := by decide +kernel
theorem d31_26 : decode jdk_42_method_57_code 26 = .ok (.ireturn, 1) := by decide +kernel
theorem d31_27 : decode jdk_42_method_57_code 27 = .ok (.aload_n 0, 1) := by decide +kernel
theorem d31_28 : decode jdk_42_method_57_code 28 = .ok (.getfield 9, 3) := by decide +kernel
theorem d31_31 : decode jdk_42_method_57_code 31 = .ok (.arraylength, 1) := by decide +kernel
theorem d31_32 : decode jdk_42_method_57_code 32 = .ok (.iconst 1, 1) := by decide +kernel
theorem d31_33 : decode jdk_42_method_57_code 33 = .ok (.ishr, 1) := by decide +kernel
theorem d31_34 : decode jdk_42_method_57_code 34 = .ok (.istore_n 2, 1) := by decide +kernel
theorem d31_35 : decode jdk_42_method_57_code 35 = .ok (.iload_n 1, 1) := by decide +kernel
theorem d31_36 : decode jdk_42_method_57_code 36 = .ok (.iload_n 2, 1) := by decide +kernel
theorem d31_37 : decode jdk_42_method_57_code 37 = .ok (.invokestatic 499, 3) := by decide +kernel
theorem d31_40 : decode jdk_42_method_57_code 40 = .ok (.aload_n 0, 1) := by decide +kernel
theorem d31_41 : decode jdk_42_method_57_code 41 = .ok (.getfield 9, 3) := by decide +kernel
theorem d31_44 : decode jdk_42_method_57_code 44 = .ok (.iload_n 1, 1) := by decide +kernel
theorem d31_45 : decode jdk_42_method_57_code 45 = .ok (.iload_n 2, 1) := by decide +kernel
theorem d31_46 : decode jdk_42_method_57_code 46 = .ok (.invokestatic 502, 3) := by decide +kernel
theorem pd_16 : parseMethodDescriptor "([BII)I" = some ⟨[(.array .byte), .int, .int], some .int⟩ := by decide +kernel
theorem d31_49 : decode jdk_42_method_57_code 49 = .ok (.ireturn, 1) := by decide +kernel
set_option maxRecDepth 65536 in
set_option maxHeartbeats 40000000 in
theorem cpa (l : Launch) (Z : State) (a0 : Array Value) (hw : ∀ d ∈ tables_1, d.before a0 Z = true) (ws : List Jvm.Cond) (x : Addr) (t : Addr) (kb : ClassId) (cd : Int32) (N : Int32) (vs : List Value) (cs : List Int32) (i : Nat) (k : Nat) (G1 : Int32) (G3 : Value) (h0 : Heap) (n0 : Nat) (Z0 : n0 ≤ h0.size) (q0 : Sta Z Z.heap "java/lang/String" "COMPACT_STRINGS" "Z" (.int G1)) (P5 : ¬ (G1 = (0 : Int32))) (q2 : Old Z n0 h0) (q3 : Sta Z Z.heap "jdk/internal/util/Preconditions" "SIOOBE_FORMATTER" "Ljava/util/function/BiFunction;" G3) (rG3 : G3.isRef = true) (q5 : Sta Z Z.heap "java/lang/StringUTF16" "$assertionsDisabled" "Z" (.int (1 : Int32))) (q6 : Sta Z Z.heap "java/lang/StringUTF16" "HI_BYTE_SHIFT" "I" (.int (0 : Int32))) (q7 : Sta Z Z.heap "java/lang/StringUTF16" "LO_BYTE_SHIFT" "I" (.int (8 : Int32))) (q8 : Exa Z h0 x "java/lang/String") (q9 : Fld Z h0 x "java/lang/String" "value" "[B" (.ref t)) (q10 : Fld Z h0 x "java/lang/String" "coder" "B" (.int cd)) (q11 : Arv Z h0 t kb .byte N vs (.int 0)) (cod : StrChars.Road.CodA cs cd N vs) (hat : AtC cs i k) (hk : KeyC k) (hcl : cs.length ≤ 32) (hbd : ∀ c ∈ cs, Wid c) :
    MetFree l y_25 (head1 (Jvm.Cond.code y_25 jdk_42_method_57_code 3 (some .int) :: ws) r_m11) (fun a_ U_ => a_ = #[(.ref x), (.int (Int32.ofNat i))] ∧ Z.Warmed39 U_.vm ∧ U_.heap = h0) (fun _ _ _ _ _ => True) (fun _ U_ o_ V_ => ∃ v_ L_, o_ = .returned v_ ∧ Qcpa Z x t kb cd N vs cs i k G1 G3 h0 n0 v_ V_.heap L_ ∧ FrameEnd U_ o_ V_ L_ r_m11.cells r_m11.slots) := by
  refine MetFree.of_bodySF (plainFor_of_name pn_1) hisR ?_
  intro p e s m args below meth c s₁ Bd hml0 hP hK
  obtain ⟨rfl, hZ, hh⟩ := hP
  have hx := Bd.exec
  have hby := Bd.bytes
  have hml : c.maxLocals = 3 := hml0
  have hown : s.vm.findClass "java/lang/String" = some m.cls := findClass_of_methodNamed Bd.named
  have hnm := (name_of_methodNamed Bd.named Bd.method).1
  have X0 : Stand p l e r_m11 s m #[(.ref x), (.int (Int32.ofNat i))] below meth c s₁ [] 0 0 := Stand.of_body Bd
  have e0 : s₁.heap = h0 := by rw [← hh, Bd.state]; rfl
  have N0 := Fr.nil n0
  have zo := q2.1
  have lt478 := own_alt q8.lt
  have lt479 := own_alt q9.lt
  have lt480 := own_alt q10.lt
  have lt481 := own_alt q11.lt
  have hil := hat.1
  refine Gl.go (A := s₁.setTop (entryFrame m #[(.ref x), (.int (Int32.ofNat i))] 3)) (P := fun o_ U_ => ∃ v_ L_, o_ = .returned v_ ∧ Qcpa Z x t kb cd N vs cs i k G1 G3 h0 n0 v_ U_.heap L_ ∧ FrameEnd s o_ U_ L_ r_m11.cells r_m11.slots) (fun t_ k_ => castTop (ef_cpa m x (Int32.ofNat i)) k_) ?_
  show Gl p.tables e below _ (s₁.setTop (mkF m 0 #[sR x, sI (Int32.ofNat i), sU] []))
  rcases id cod with ⟨e1, e2, e3, e4⟩ | ⟨e1, e2, e3, e4⟩
  · have Fk := q10
    rw [e1] at Fk
    have Vk := q11
    rw [e2, e3] at Vk
    show Gl p.tables e below _ (s₁.setTop (mkF m 0 #[sR x, sI (Int32.ofNat i), sU] []))
    refine Gl.go (fun _ hr => zXS_aloadN X0.here hx rfl (hb hby d31_0) rfl rfl hr) ?_
    have zz482 : n0 ≤ h0.size := by omega
    refine gVirtualN Gl.cl (y := y_18) (z := y_18) (b := x) (argsL := []) (rest := []) (mc := 0) (ms := 0) X0 hx hZ hown (mvT hZ (tw hw 111 rfl)) (mvT hZ (tw hw 112 rfl)) (notFace_of_selects (args := #[]) (mvT hZ (tw hw 114 rfl))) (mvT hZ (tw hw 114 rfl)) (mvT hZ (tw hw 113 rfl)) (by decide) q8 (backOf (W := 0) (isl0 l Z a0 hw [] x G1 h0 n0 zz482 q0 (by assumption) q2 Fk) hZ (tw hw 115 rfl) (tw hw 18 rfl) (by decide) (by decide)) rfl (by rw [hml]; rfl) (lenOf pd_14 rfl) rfl (by exact Nat.le_of_eq rfl) (hb hby d31_1) rfl e0 (by decide) (by decide) ?_
    intro v482 T482 Lc482 hQ482 X482
    obtain ⟨rfl, Nq482, e482⟩ := hQ482
    have N482 := Fr.app N0 Nq482
    refine Gl.go (fun _ hr => zXS_ifNo X482.here hx rfl (hb hby d31_4) rfl (XT.i0_eq_f (by decide)) (zXS_iloadN X482.here hx rfl (hb hby d31_7) rfl (zXS_aloadN X482.here hx rfl (hb hby d31_8) rfl rfl hr))) ?_
    refine gGetF (host := "") Gl.cl X482 hx hZ hown (Or.inl (tw hw 44 rfl)) Via.refl e482 q9 rfl rfl (hb hby d31_9) ?_
    intro T483 X483 e483
    obtain ⟨c484, a484, q484, s484, m484, H484, U484⟩ := id Vk
    refine gLen Gl.cl X483 hx hZ e483 a484 s484 m484 rfl rfl (hb hby d31_12) ?_
    have zz485 : n0 ≤ h0.size := by omega
    refine gStaticN Gl.cl (y := y_17) (argsL := [(.int (Int32.ofNat i)), (.int (Int32.ofNat cs.length))]) (rest := []) (mc := 0) (ms := 0) X483 hx hZ hown (mvT hZ (tw hw 140 rfl)) (mvT hZ (tw hw 121 rfl)) (mvT hZ (tw hw 18 rfl)) (mvT hZ (tw hw 122 rfl)) (by decide) (backOf (W := 0) (sci l Z a0 hw [] i cs.length G3 h0 n0 zz485 q2 q3 (by assumption) hat.1 (by omega)) hZ (tw hw 122 rfl) (tw hw 18 rfl) (by decide) (by decide)) rfl (by rw [hml]; rfl) (lenOf pd_15 rfl) rfl (by exact Nat.le_of_eq rfl) (hb hby d31_13) rfl e483 (by decide) (by decide) ?_
    intro v485 T485 Lc485 hQ485 X485
    obtain ⟨rfl, Nq485, e485⟩ := hQ485
    have N485 := Fr.app N482 Nq485
    refine Gl.go (fun _ hr => zXS_aloadN X485.here hx rfl (hb hby d31_16) rfl rfl hr) ?_
    refine gGetF (host := "") Gl.cl X485 hx hZ hown (Or.inl (tw hw 44 rfl)) Via.refl e485 q9 rfl rfl (hb hby d31_17) ?_
    intro T486 X486 e486
    refine Gl.go (fun _ hr => zXS_iloadN X486.here hx rfl (hb hby d31_20) rfl hr) ?_
    obtain ⟨c487, a487, q487, s487, m487, H487, U487⟩ := id Vk
    have i487 := inb_of s487 (j := (Int32.ofNat i)) ⟨own_nn (by omega), own_lt32 (b := cs.length) (by omega) hat.1⟩
    refine g_baload Gl.cl X486 hx hZ e486 a487 i487 (v := (.int (StrChars.lo8 (cs.getD i 0)))) (H487.at i487 (by rw [own_nat32 (by omega)]; exact StrChars.Road.low_at _ cs i hat.1)) rfl rfl (hb hby d31_21) ?_
    refine Gl.go (fun _ hr => zXS_sipush X486.here hx rfl (hb hby d31_22) (zXS_iand X486.here hx rfl (hb hby d31_25) rfl hr)) ?_
    show Gl p.tables e below _ (T486.setTop (mkF m 26 #[sR x, sI (Int32.ofNat i), sU] [(.int ((StrChars.lo8 (cs.getD i 0)) &&& (255 : Int32)))]))
    rw [(own_cplat hat hbd e4 hk.1.2)]
    show Gl p.tables e below _ (T486.setTop (mkF m 26 #[sR x, sI (Int32.ofNat i), sU] [(.int (Int32.ofNat k))]))
    obtain ⟨fs, hr, hrun, hended, hW, hsame⟩ := X486.leave (v := some (.int (Int32.ofNat k))) (fun h => by rw [Bd.returns] at h; cases h)
    refine ⟨_, _, retOut X486 hx Bd.returns rfl (Or.inl ⟨rfl, Or.inl rfl, _, rfl⟩) (hb hby d31_26) hr, hrun, hended, _, _, rfl, ?_, ⟨⟨_, rfl⟩, hW, hsame.mono (by decide) (by decide)⟩⟩
    show Qcpa Z x t kb cd N vs cs i k G1 G3 h0 n0 _ T486.heap _
    rw [e486]
    exact ⟨rfl, N485, rfl⟩
  · have Fk := q10
    rw [e1] at Fk
    have Vk := q11
    rw [e2, e3] at Vk
    show Gl p.tables e below _ (s₁.setTop (mkF m 0 #[sR x, sI (Int32.ofNat i), sU] []))
    refine Gl.go (fun _ hr => zXS_aloadN X0.here hx rfl (hb hby d31_0) rfl rfl hr) ?_
    have zz488 : n0 ≤ h0.size := by omega
    refine gVirtualN Gl.cl (y := y_18) (z := y_18) (b := x) (argsL := []) (rest := []) (mc := 0) (ms := 0) X0 hx hZ hown (mvT hZ (tw hw 111 rfl)) (mvT hZ (tw hw 112 rfl)) (notFace_of_selects (args := #[]) (mvT hZ (tw hw 114 rfl))) (mvT hZ (tw hw 114 rfl)) (mvT hZ (tw hw 113 rfl)) (by decide) q8 (backOf (W := 0) (isl1 l Z a0 hw [] x G1 h0 n0 zz488 q0 (by assumption) q2 Fk) hZ (tw hw 115 rfl) (tw hw 18 rfl) (by decide) (by decide)) rfl (by rw [hml]; rfl) (lenOf pd_14 rfl) rfl (by exact Nat.le_of_eq rfl) (hb hby d31_1) rfl e0 (by decide) (by decide) ?_
    intro v488 T488 Lc488 hQ488 X488
    obtain ⟨rfl, Nq488, e488⟩ := hQ488
    have N488 := Fr.app N0 Nq488
    refine Gl.go (fun _ hr => zXS_ifYes X488.here hx rfl (pc0 := 4) (pc' := 27) rfl (hb hby d31_4) rfl (XT.i0_eq_t (by decide)) (by decide) (by decide) (zXS_aloadN X488.here hx rfl (hb hby d31_27) rfl rfl hr)) ?_
    refine gGetF (host := "") Gl.cl X488 hx hZ hown (Or.inl (tw hw 44 rfl)) Via.refl e488 q9 rfl rfl (hb hby d31_28) ?_
    intro T489 X489 e489
    obtain ⟨c490, a490, q490, s490, m490, H490, U490⟩ := id Vk
    refine gLen Gl.cl X489 hx hZ e489 a490 s490 m490 rfl rfl (hb hby d31_31) ?_
    refine Gl.go (fun _ hr => zXS_iconst X489.here hx rfl (hb hby d31_32) (zXT_ishr X489.here hx rfl (hb hby d31_33) rfl hr)) ?_
    show Gl p.tables e below _ (T489.setTop (mkF m 34 #[sR x, sI (Int32.ofNat i), sU] [(.int ((Int32.ofNat (2 * cs.length)) >>> ((1 : Int32) &&& 31)))]))
    rw [(StrChars.shr1 (n := cs.length) (by omega))]
    show Gl p.tables e below _ (T489.setTop (mkF m 34 #[sR x, sI (Int32.ofNat i), sU] [(.int (Int32.ofNat cs.length))]))
    refine Gl.go (fun _ hr => zXS_istoreN X489.here hx rfl (hb hby d31_34) rfl (l' := #[sR x, sI (Int32.ofNat i), sI (Int32.ofNat cs.length)]) rfl (zXS_iloadN X489.here hx rfl (hb hby d31_35) rfl (zXS_iloadN X489.here hx rfl (hb hby d31_36) rfl hr))) ?_
    have zz491 : n0 ≤ h0.size := by omega
    refine gStaticN Gl.cl (y := y_17) (argsL := [(.int (Int32.ofNat i)), (.int (Int32.ofNat cs.length))]) (rest := []) (mc := 0) (ms := 0) X489 hx hZ hown (mvT hZ (tw hw 140 rfl)) (mvT hZ (tw hw 121 rfl)) (mvT hZ (tw hw 18 rfl)) (mvT hZ (tw hw 122 rfl)) (by decide) (backOf (W := 0) (sci l Z a0 hw [] i cs.length G3 h0 n0 zz491 q2 q3 (by assumption) hat.1 (by omega)) hZ (tw hw 122 rfl) (tw hw 18 rfl) (by decide) (by decide)) rfl (by rw [hml]; rfl) (lenOf pd_15 rfl) rfl (by exact Nat.le_of_eq rfl) (hb hby d31_37) rfl e489 (by decide) (by decide) ?_
    intro v491 T491 Lc491 hQ491 X491
    obtain ⟨rfl, Nq491, e491⟩ := hQ491
    have N491 := Fr.app N488 Nq491
    refine Gl.go (fun _ hr => zXS_aloadN X491.here hx rfl (hb hby d31_40) rfl rfl hr) ?_
    refine gGetF (host := "") Gl.cl X491 hx hZ hown (Or.inl (tw hw 44 rfl)) Via.refl e491 q9 rfl rfl (hb hby d31_41) ?_
    intro T492 X492 e492
    refine Gl.go (fun _ hr => zXS_iloadN X492.here hx rfl (hb hby d31_44) rfl (zXS_iloadN X492.here hx rfl (hb hby d31_45) rfl hr)) ?_
    have zz493 : n0 ≤ h0.size := by omega
    refine gStaticN Gl.cl (y := y_24) (argsL := [(.ref t), (.int (Int32.ofNat i)), (.int (Int32.ofNat cs.length))]) (rest := []) (mc := 0) (ms := 0) X492 hx hZ hown (mvT hZ (tw hw 141 rfl)) (mvT hZ (tw hw 142 rfl)) (mvT hZ (tw hw 33 rfl)) (mvT hZ (tw hw 143 rfl)) (by decide) (backOf (W := 0) (cp3 l Z a0 hw [] t kb cs i k h0 n0 zz493 q2 q5 q6 q7 Vk (by assumption) (by assumption) (by assumption) (by assumption)) hZ (tw hw 143 rfl) (tw hw 33 rfl) (by decide) (by decide)) rfl (by rw [hml]; rfl) (lenOf pd_16 rfl) rfl (by exact Nat.le_of_eq rfl) (hb hby d31_46) rfl e492 (by decide) (by decide) ?_
    intro v493 T493 Lc493 hQ493 X493
    obtain ⟨rfl, Nq493, e493⟩ := hQ493
    have N493 := Fr.app N491 Nq493
    obtain ⟨fs, hr, hrun, hended, hW, hsame⟩ := X493.leave (v := some (.int (Int32.ofNat k))) (fun h => by rw [Bd.returns] at h; cases h)
    refine ⟨_, _, retOut X493 hx Bd.returns rfl (Or.inl ⟨rfl, Or.inl rfl, _, rfl⟩) (hb hby d31_49) hr, hrun, hended, _, _, rfl, ?_, ⟨⟨_, rfl⟩, hW, hsame.mono (by decide) (by decide)⟩⟩
    show Qcpa Z x t kb cd N vs cs i k G1 G3 h0 n0 _ T493.heap _
    rw [e493]
    exact ⟨rfl, N493, rfl⟩
def Qrq (Z : State) (a : Addr) (q : Addr) (h0 : Heap) (n0 : Nat) (v : Option Value) (h : Heap) (L : List Loc) : Prop := v = some (.ref a) ∧ Fr n0 L ∧ h = h0
theorem pn_5 : plainName "java/util/Objects" = true := by first | (simp [plainName, overriddenIn]; done) | decide +kernel
theorem ef_rq (m : MethodId) (x0 : Addr) (x1 : Addr) : entryFrame m #[(.ref x0), (.ref x1)] 2 = mkF m 0 #[sR x0, sR x1] [] := by first | (simp [entryFrame, mkF, argsToLocals, Value.category]; done) | rfl
theorem d20_0 : decode jdk_31_method_11_code 0 = .ok (.aload_n 0, 1) := by decide +kernel
theorem d20_1 : decode jdk_31_method_11_code 1 = .ok (.ifnonnull 12, 3) := by decide +kernel
theorem d20_13 : decode jdk_31_method_11_code 13 = .ok (.aload_n 0, 1) := by decide +kernel
theorem d20_14 : decode jdk_31_method_11_code 14 = .ok (.areturn, 1) := by decide +kernel
set_option maxRecDepth 65536 in
set_option maxHeartbeats 40000000 in
theorem rq (l : Launch) (Z : State) (a0 : Array Value) (hw : ∀ d ∈ tables_1, d.before a0 Z = true) (ws : List Jvm.Cond) (a : Addr) (q : Addr) (h0 : Heap) (n0 : Nat) (Z0 : n0 ≤ h0.size) :
    MetFree l y_26 (head1 (Jvm.Cond.code y_26 jdk_31_method_11_code 2 (some (.object "java/lang/Object")) :: ws) r_m0) (fun a_ U_ => a_ = #[(.ref a), (.ref q)] ∧ Z.Warmed39 U_.vm ∧ U_.heap = h0) (fun _ _ _ _ _ => True) (fun _ U_ o_ V_ => ∃ v_ L_, o_ = .returned v_ ∧ Qrq Z a q h0 n0 v_ V_.heap L_ ∧ FrameEnd U_ o_ V_ L_ r_m0.cells r_m0.slots) := by
  refine MetFree.of_bodySF (plainFor_of_name pn_5) hisR ?_
  intro p e s m args below meth c s₁ Bd hml0 hP hK
  obtain ⟨rfl, hZ, hh⟩ := hP
  have hx := Bd.exec
  have hby := Bd.bytes
  have hml : c.maxLocals = 2 := hml0
  have hown : s.vm.findClass "java/util/Objects" = some m.cls := findClass_of_methodNamed Bd.named
  have hnm := (name_of_methodNamed Bd.named Bd.method).1
  have X0 : Stand p l e r_m0 s m #[(.ref a), (.ref q)] below meth c s₁ [] 0 0 := Stand.of_body Bd
  have e0 : s₁.heap = h0 := by rw [← hh, Bd.state]; rfl
  have N0 := Fr.nil n0
  refine Gl.go (A := s₁.setTop (entryFrame m #[(.ref a), (.ref q)] 2)) (P := fun o_ U_ => ∃ v_ L_, o_ = .returned v_ ∧ Qrq Z a q h0 n0 v_ U_.heap L_ ∧ FrameEnd s o_ U_ L_ r_m0.cells r_m0.slots) (fun t_ k_ => castTop (ef_rq m a q) k_) ?_
  show Gl p.tables e below _ (s₁.setTop (mkF m 0 #[sR a, sR q] []))
  refine Gl.go (fun _ hr => zXS_aloadN X0.here hx rfl (hb hby d20_0) rfl rfl (zXT_ifnonnullYes X0.here hx rfl (pc0 := 1) (pc' := 13) rfl (hb hby d20_1) rfl (by decide) (by decide) (zXS_aloadN X0.here hx rfl (hb hby d20_13) rfl rfl hr))) ?_
  obtain ⟨fs, hr, hrun, hended, hW, hsame⟩ := X0.leave (v := some (.ref a)) (fun h => by rw [Bd.returns] at h; cases h)
  refine ⟨_, _, retOut X0 hx Bd.returns rfl (Or.inr (Or.inr (Or.inr (Or.inr ⟨rfl, rfl, rfl⟩)))) (hb hby d20_14) hr, hrun, hended, _, _, rfl, ?_, ⟨⟨_, rfl⟩, hW, hsame.mono (by decide) (by decide)⟩⟩
  show Qrq Z a q h0 n0 _ s₁.heap _
  rw [e0]
  exact ⟨rfl, N0, rfl⟩
def Qinc (Z : State) (k : Nat) (h0 : Heap) (n0 : Nat) (v : Option Value) (h : Heap) (L : List Loc) : Prop := v = some (.int (1 : Int32)) ∧ Fr n0 L ∧ h = h0
theorem pn_6 : plainName "com/example/even_counter/evencounter/CounterId" = true := by first | (simp [plainName, overriddenIn]; done) | decide +kernel
theorem ef_inc (m : MethodId) (x0 : Int32) : entryFrame m #[(.int x0)] 1 = mkF m 0 #[sI x0] [] := by first | (simp [entryFrame, mkF, argsToLocals, Value.category]; done) | rfl
theorem d29_0 : decode prog_3_method_3_code 0 = .ok (.iload_n 0, 1) := by decide +kernel
theorem d29_1 : decode prog_3_method_3_code 1 = .ok (.bipush 97, 2) := by decide +kernel
theorem d29_3 : decode prog_3_method_3_code 3 = .ok (.if_icmp .lt 9, 3) := by decide +kernel
theorem d29_6 : decode prog_3_method_3_code 6 = .ok (.iload_n 0, 1) := by decide +kernel
theorem d29_7 : decode prog_3_method_3_code 7 = .ok (.bipush 122, 2) := by decide +kernel
theorem d29_9 : decode prog_3_method_3_code 9 = .ok (.if_icmp .le 45, 3) := by decide +kernel
theorem d29_54 : decode prog_3_method_3_code 54 = .ok (.iconst 1, 1) := by decide +kernel
theorem d29_55 : decode prog_3_method_3_code 55 = .ok (.goto 4, 3) := by decide +kernel
theorem d29_59 : decode prog_3_method_3_code 59 = .ok (.ireturn, 1) := by decide +kernel
theorem d29_12 : decode prog_3_method_3_code 12 = .ok (.iload_n 0, 1) := by decide +kernel
theorem d29_13 : decode prog_3_method_3_code 13 = .ok (.bipush 65, 2) := by decide +kernel
theorem d29_15 : decode prog_3_method_3_code 15 = .ok (.if_icmp .lt 9, 3) := by decide +kernel
theorem d29_18 : decode prog_3_method_3_code 18 = .ok (.iload_n 0, 1) := by decide +kernel
theorem d29_19 : decode prog_3_method_3_code 19 = .ok (.bipush 90, 2) := by decide +kernel
theorem d29_21 : decode prog_3_method_3_code 21 = .ok (.if_icmp .le 33, 3) := by decide +kernel
theorem d29_24 : decode prog_3_method_3_code 24 = .ok (.iload_n 0, 1) := by decide +kernel
theorem d29_25 : decode prog_3_method_3_code 25 = .ok (.bipush 48, 2) := by decide +kernel
theorem d29_27 : decode prog_3_method_3_code 27 = .ok (.if_icmp .lt 9, 3) := by decide +kernel
theorem d29_30 : decode prog_3_method_3_code 30 = .ok (.iload_n 0, 1) := by decide +kernel
theorem d29_31 : decode prog_3_method_3_code 31 = .ok (.bipush 57, 2) := by decide +kernel
theorem d29_33 : decode prog_3_method_3_code 33 = .ok (.if_icmp .le 21, 3) := by decide +kernel
theorem d29_36 : decode prog_3_method_3_code 36 = .ok (.iload_n 0, 1) := by decide +kernel
theorem d29_37 : decode prog_3_method_3_code 37 = .ok (.bipush 95, 2) := by decide +kernel
theorem d29_39 : decode prog_3_method_3_code 39 = .ok (.if_icmp .eq 15, 3) := by decide +kernel
theorem d29_42 : decode prog_3_method_3_code 42 = .ok (.iload_n 0, 1) := by decide +kernel
theorem d29_43 : decode prog_3_method_3_code 43 = .ok (.bipush 45, 2) := by decide +kernel
theorem d29_45 : decode prog_3_method_3_code 45 = .ok (.if_icmp .eq 9, 3) := by decide +kernel
theorem d29_48 : decode prog_3_method_3_code 48 = .ok (.iload_n 0, 1) := by decide +kernel
theorem d29_49 : decode prog_3_method_3_code 49 = .ok (.bipush 46, 2) := by decide +kernel
theorem d29_51 : decode prog_3_method_3_code 51 = .ok (.if_icmp .ne 7, 3) := by decide +kernel
set_option maxRecDepth 65536 in
set_option maxHeartbeats 40000000 in
theorem inc (l : Launch) (Z : State) (a0 : Array Value) (hw : ∀ d ∈ tables_1, d.before a0 Z = true) (ws : List Jvm.Cond) (k : Nat) (h0 : Heap) (n0 : Nat) (Z0 : n0 ≤ h0.size) (hk : NmK k) :
    MetFree l y_27 (head1 (Jvm.Cond.code y_27 prog_3_method_3_code 1 (some .boolean) :: ws) r_m0) (fun a_ U_ => a_ = #[(.int (Int32.ofNat k))] ∧ Z.Warmed39 U_.vm ∧ U_.heap = h0) (fun _ _ _ _ _ => True) (fun _ U_ o_ V_ => ∃ v_ L_, o_ = .returned v_ ∧ Qinc Z k h0 n0 v_ V_.heap L_ ∧ FrameEnd U_ o_ V_ L_ r_m0.cells r_m0.slots) := by
  refine MetFree.of_bodySF (plainFor_of_name pn_6) hisR ?_
  intro p e s m args below meth c s₁ Bd hml0 hP hK
  obtain ⟨rfl, hZ, hh⟩ := hP
  have hx := Bd.exec
  have hby := Bd.bytes
  have hml : c.maxLocals = 1 := hml0
  have hown : s.vm.findClass "com/example/even_counter/evencounter/CounterId" = some m.cls := findClass_of_methodNamed Bd.named
  have hnm := (name_of_methodNamed Bd.named Bd.method).1
  have X0 : Stand p l e r_m0 s m #[(.int (Int32.ofNat k))] below meth c s₁ [] 0 0 := Stand.of_body Bd
  have e0 : s₁.heap = h0 := by rw [← hh, Bd.state]; rfl
  have N0 := Fr.nil n0
  refine Gl.go (A := s₁.setTop (entryFrame m #[(.int (Int32.ofNat k))] 1)) (P := fun o_ U_ => ∃ v_ L_, o_ = .returned v_ ∧ Qinc Z k h0 n0 v_ U_.heap L_ ∧ FrameEnd s o_ U_ L_ r_m0.cells r_m0.slots) (fun t_ k_ => castTop (ef_inc m (Int32.ofNat k)) k_) ?_
  show Gl p.tables e below _ (s₁.setTop (mkF m 0 #[sI (Int32.ofNat k)] []))
  rcases id hk with hk1 | hk1 | hk1 | hk1 | hk1 | hk1
  · show Gl p.tables e below _ (s₁.setTop (mkF m 0 #[sI (Int32.ofNat k)] []))
    refine Gl.go (fun _ hr => zXS_iloadN X0.here hx rfl (hb hby d29_0) rfl (zXS_bipush X0.here hx rfl (hb hby d29_1) hr)) ?_
    refine Gl.go (fun _ hr => zXS_icmpNo X0.here hx rfl (hb hby d29_3) rfl (XT.ii_lt_f (own_nlt32 (b := 97) (by omega) (by decide) (by omega))) (zXS_iloadN X0.here hx rfl (hb hby d29_6) rfl (zXS_bipush X0.here hx rfl (hb hby d29_7) hr))) ?_
    refine Gl.go (fun _ hr => zXS_icmpYes X0.here hx rfl (pc0 := 9) (pc' := 54) rfl (hb hby d29_9) rfl (XT.ii_le_t (own_nlt32 (a := 122) (b := k) (by decide) (by omega) (by omega))) (by decide) (by decide) (zXS_iconst X0.here hx rfl (hb hby d29_54) (zXS_goto X0.here hx rfl (pc0 := 55) (pc' := 59) rfl (hb hby d29_55) (by decide) (by decide) hr))) ?_
    obtain ⟨fs, hr, hrun, hended, hW, hsame⟩ := X0.leave (v := some (.int (1 : Int32))) (fun h => by rw [Bd.returns] at h; cases h)
    refine ⟨_, _, retN X0 hx (t := .boolean) Bd.returns (by simp) (hb hby d29_59) hr, hrun, hended, _, _, rfl, ?_, ⟨⟨_, rfl⟩, hW, hsame.mono (by decide) (by decide)⟩⟩
    show Qinc Z k h0 n0 _ s₁.heap _
    rw [e0]
    exact ⟨rfl, N0, rfl⟩
  · show Gl p.tables e below _ (s₁.setTop (mkF m 0 #[sI (Int32.ofNat k)] []))
    refine Gl.go (fun _ hr => zXS_iloadN X0.here hx rfl (hb hby d29_0) rfl (zXS_bipush X0.here hx rfl (hb hby d29_1) hr)) ?_
    refine Gl.go (fun _ hr => zXS_icmpYes X0.here hx rfl (pc0 := 3) (pc' := 12) rfl (hb hby d29_3) rfl (XT.ii_lt_t (own_lt32 (b := 97) (by decide) (by omega))) (by decide) (by decide) (zXS_iloadN X0.here hx rfl (hb hby d29_12) rfl (zXS_bipush X0.here hx rfl (hb hby d29_13) hr))) ?_
    refine Gl.go (fun _ hr => zXS_icmpNo X0.here hx rfl (hb hby d29_15) rfl (XT.ii_lt_f (own_nlt32 (b := 65) (by omega) (by decide) (by omega))) (zXS_iloadN X0.here hx rfl (hb hby d29_18) rfl (zXS_bipush X0.here hx rfl (hb hby d29_19) hr))) ?_
    refine Gl.go (fun _ hr => zXS_icmpYes X0.here hx rfl (pc0 := 21) (pc' := 54) rfl (hb hby d29_21) rfl (XT.ii_le_t (own_nlt32 (a := 90) (b := k) (by decide) (by omega) (by omega))) (by decide) (by decide) (zXS_iconst X0.here hx rfl (hb hby d29_54) (zXS_goto X0.here hx rfl (pc0 := 55) (pc' := 59) rfl (hb hby d29_55) (by decide) (by decide) hr))) ?_
    obtain ⟨fs, hr, hrun, hended, hW, hsame⟩ := X0.leave (v := some (.int (1 : Int32))) (fun h => by rw [Bd.returns] at h; cases h)
    refine ⟨_, _, retN X0 hx (t := .boolean) Bd.returns (by simp) (hb hby d29_59) hr, hrun, hended, _, _, rfl, ?_, ⟨⟨_, rfl⟩, hW, hsame.mono (by decide) (by decide)⟩⟩
    show Qinc Z k h0 n0 _ s₁.heap _
    rw [e0]
    exact ⟨rfl, N0, rfl⟩
  · show Gl p.tables e below _ (s₁.setTop (mkF m 0 #[sI (Int32.ofNat k)] []))
    refine Gl.go (fun _ hr => zXS_iloadN X0.here hx rfl (hb hby d29_0) rfl (zXS_bipush X0.here hx rfl (hb hby d29_1) hr)) ?_
    refine Gl.go (fun _ hr => zXS_icmpYes X0.here hx rfl (pc0 := 3) (pc' := 12) rfl (hb hby d29_3) rfl (XT.ii_lt_t (own_lt32 (b := 97) (by decide) (by omega))) (by decide) (by decide) (zXS_iloadN X0.here hx rfl (hb hby d29_12) rfl (zXS_bipush X0.here hx rfl (hb hby d29_13) hr))) ?_
    refine Gl.go (fun _ hr => zXS_icmpYes X0.here hx rfl (pc0 := 15) (pc' := 24) rfl (hb hby d29_15) rfl (XT.ii_lt_t (own_lt32 (b := 65) (by decide) (by omega))) (by decide) (by decide) (zXS_iloadN X0.here hx rfl (hb hby d29_24) rfl (zXS_bipush X0.here hx rfl (hb hby d29_25) hr))) ?_
    refine Gl.go (fun _ hr => zXS_icmpNo X0.here hx rfl (hb hby d29_27) rfl (XT.ii_lt_f (own_nlt32 (b := 48) (by omega) (by decide) (by omega))) (zXS_iloadN X0.here hx rfl (hb hby d29_30) rfl (zXS_bipush X0.here hx rfl (hb hby d29_31) hr))) ?_
    refine Gl.go (fun _ hr => zXS_icmpYes X0.here hx rfl (pc0 := 33) (pc' := 54) rfl (hb hby d29_33) rfl (XT.ii_le_t (own_nlt32 (a := 57) (b := k) (by decide) (by omega) (by omega))) (by decide) (by decide) (zXS_iconst X0.here hx rfl (hb hby d29_54) (zXS_goto X0.here hx rfl (pc0 := 55) (pc' := 59) rfl (hb hby d29_55) (by decide) (by decide) hr))) ?_
    obtain ⟨fs, hr, hrun, hended, hW, hsame⟩ := X0.leave (v := some (.int (1 : Int32))) (fun h => by rw [Bd.returns] at h; cases h)
    refine ⟨_, _, retN X0 hx (t := .boolean) Bd.returns (by simp) (hb hby d29_59) hr, hrun, hended, _, _, rfl, ?_, ⟨⟨_, rfl⟩, hW, hsame.mono (by decide) (by decide)⟩⟩
    show Qinc Z k h0 n0 _ s₁.heap _
    rw [e0]
    exact ⟨rfl, N0, rfl⟩
  · show Gl p.tables e below _ (s₁.setTop (mkF m 0 #[sI (Int32.ofNat k)] []))
    refine Gl.go (fun _ hr => zXS_iloadN X0.here hx rfl (hb hby d29_0) rfl (zXS_bipush X0.here hx rfl (hb hby d29_1) hr)) ?_
    refine Gl.go (fun _ hr => zXS_icmpYes X0.here hx rfl (pc0 := 3) (pc' := 12) rfl (hb hby d29_3) rfl (XT.ii_lt_t (own_lt32 (b := 97) (by decide) (by omega))) (by decide) (by decide) (zXS_iloadN X0.here hx rfl (hb hby d29_12) rfl (zXS_bipush X0.here hx rfl (hb hby d29_13) hr))) ?_
    refine Gl.go (fun _ hr => zXS_icmpNo X0.here hx rfl (hb hby d29_15) rfl (XT.ii_lt_f (own_nlt32 (b := 65) (by omega) (by decide) (by omega))) (zXS_iloadN X0.here hx rfl (hb hby d29_18) rfl (zXS_bipush X0.here hx rfl (hb hby d29_19) hr))) ?_
    refine Gl.go (fun _ hr => zXS_icmpNo X0.here hx rfl (hb hby d29_21) rfl (XT.ii_le_f (own_lt32 (a := 90) (b := k) (by omega) (by omega))) (zXS_iloadN X0.here hx rfl (hb hby d29_24) rfl (zXS_bipush X0.here hx rfl (hb hby d29_25) hr))) ?_
    refine Gl.go (fun _ hr => zXS_icmpNo X0.here hx rfl (hb hby d29_27) rfl (XT.ii_lt_f (own_nlt32 (b := 48) (by omega) (by decide) (by omega))) (zXS_iloadN X0.here hx rfl (hb hby d29_30) rfl (zXS_bipush X0.here hx rfl (hb hby d29_31) hr))) ?_
    refine Gl.go (fun _ hr => zXS_icmpNo X0.here hx rfl (hb hby d29_33) rfl (XT.ii_le_f (own_lt32 (a := 57) (b := k) (by omega) (by omega))) (zXS_iloadN X0.here hx rfl (hb hby d29_36) rfl (zXS_bipush X0.here hx rfl (hb hby d29_37) hr))) ?_
    refine Gl.go (fun _ hr => zXS_icmpYes X0.here hx rfl (pc0 := 39) (pc' := 54) rfl (hb hby d29_39) rfl (XT.ii_eq_t (by rw [hk1]; rfl)) (by decide) (by decide) (zXS_iconst X0.here hx rfl (hb hby d29_54) (zXS_goto X0.here hx rfl (pc0 := 55) (pc' := 59) rfl (hb hby d29_55) (by decide) (by decide) hr))) ?_
    obtain ⟨fs, hr, hrun, hended, hW, hsame⟩ := X0.leave (v := some (.int (1 : Int32))) (fun h => by rw [Bd.returns] at h; cases h)
    refine ⟨_, _, retN X0 hx (t := .boolean) Bd.returns (by simp) (hb hby d29_59) hr, hrun, hended, _, _, rfl, ?_, ⟨⟨_, rfl⟩, hW, hsame.mono (by decide) (by decide)⟩⟩
    show Qinc Z k h0 n0 _ s₁.heap _
    rw [e0]
    exact ⟨rfl, N0, rfl⟩
  · show Gl p.tables e below _ (s₁.setTop (mkF m 0 #[sI (Int32.ofNat k)] []))
    refine Gl.go (fun _ hr => zXS_iloadN X0.here hx rfl (hb hby d29_0) rfl (zXS_bipush X0.here hx rfl (hb hby d29_1) hr)) ?_
    refine Gl.go (fun _ hr => zXS_icmpYes X0.here hx rfl (pc0 := 3) (pc' := 12) rfl (hb hby d29_3) rfl (XT.ii_lt_t (own_lt32 (b := 97) (by decide) (by omega))) (by decide) (by decide) (zXS_iloadN X0.here hx rfl (hb hby d29_12) rfl (zXS_bipush X0.here hx rfl (hb hby d29_13) hr))) ?_
    refine Gl.go (fun _ hr => zXS_icmpYes X0.here hx rfl (pc0 := 15) (pc' := 24) rfl (hb hby d29_15) rfl (XT.ii_lt_t (own_lt32 (b := 65) (by decide) (by omega))) (by decide) (by decide) (zXS_iloadN X0.here hx rfl (hb hby d29_24) rfl (zXS_bipush X0.here hx rfl (hb hby d29_25) hr))) ?_
    refine Gl.go (fun _ hr => zXS_icmpYes X0.here hx rfl (pc0 := 27) (pc' := 36) rfl (hb hby d29_27) rfl (XT.ii_lt_t (own_lt32 (b := 48) (by decide) (by omega))) (by decide) (by decide) (zXS_iloadN X0.here hx rfl (hb hby d29_36) rfl (zXS_bipush X0.here hx rfl (hb hby d29_37) hr))) ?_
    refine Gl.go (fun _ hr => zXS_icmpNo X0.here hx rfl (hb hby d29_39) rfl (XT.ii_eq_f (own_ne32 (b := 95) (by omega) (by decide) (by omega))) (zXS_iloadN X0.here hx rfl (hb hby d29_42) rfl (zXS_bipush X0.here hx rfl (hb hby d29_43) hr))) ?_
    refine Gl.go (fun _ hr => zXS_icmpYes X0.here hx rfl (pc0 := 45) (pc' := 54) rfl (hb hby d29_45) rfl (XT.ii_eq_t (by rw [hk1]; rfl)) (by decide) (by decide) (zXS_iconst X0.here hx rfl (hb hby d29_54) (zXS_goto X0.here hx rfl (pc0 := 55) (pc' := 59) rfl (hb hby d29_55) (by decide) (by decide) hr))) ?_
    obtain ⟨fs, hr, hrun, hended, hW, hsame⟩ := X0.leave (v := some (.int (1 : Int32))) (fun h => by rw [Bd.returns] at h; cases h)
    refine ⟨_, _, retN X0 hx (t := .boolean) Bd.returns (by simp) (hb hby d29_59) hr, hrun, hended, _, _, rfl, ?_, ⟨⟨_, rfl⟩, hW, hsame.mono (by decide) (by decide)⟩⟩
    show Qinc Z k h0 n0 _ s₁.heap _
    rw [e0]
    exact ⟨rfl, N0, rfl⟩
  · show Gl p.tables e below _ (s₁.setTop (mkF m 0 #[sI (Int32.ofNat k)] []))
    refine Gl.go (fun _ hr => zXS_iloadN X0.here hx rfl (hb hby d29_0) rfl (zXS_bipush X0.here hx rfl (hb hby d29_1) hr)) ?_
    refine Gl.go (fun _ hr => zXS_icmpYes X0.here hx rfl (pc0 := 3) (pc' := 12) rfl (hb hby d29_3) rfl (XT.ii_lt_t (own_lt32 (b := 97) (by decide) (by omega))) (by decide) (by decide) (zXS_iloadN X0.here hx rfl (hb hby d29_12) rfl (zXS_bipush X0.here hx rfl (hb hby d29_13) hr))) ?_
    refine Gl.go (fun _ hr => zXS_icmpYes X0.here hx rfl (pc0 := 15) (pc' := 24) rfl (hb hby d29_15) rfl (XT.ii_lt_t (own_lt32 (b := 65) (by decide) (by omega))) (by decide) (by decide) (zXS_iloadN X0.here hx rfl (hb hby d29_24) rfl (zXS_bipush X0.here hx rfl (hb hby d29_25) hr))) ?_
    refine Gl.go (fun _ hr => zXS_icmpYes X0.here hx rfl (pc0 := 27) (pc' := 36) rfl (hb hby d29_27) rfl (XT.ii_lt_t (own_lt32 (b := 48) (by decide) (by omega))) (by decide) (by decide) (zXS_iloadN X0.here hx rfl (hb hby d29_36) rfl (zXS_bipush X0.here hx rfl (hb hby d29_37) hr))) ?_
    refine Gl.go (fun _ hr => zXS_icmpNo X0.here hx rfl (hb hby d29_39) rfl (XT.ii_eq_f (own_ne32 (b := 95) (by omega) (by decide) (by omega))) (zXS_iloadN X0.here hx rfl (hb hby d29_42) rfl (zXS_bipush X0.here hx rfl (hb hby d29_43) hr))) ?_
    refine Gl.go (fun _ hr => zXS_icmpNo X0.here hx rfl (hb hby d29_45) rfl (XT.ii_eq_f (own_ne32 (b := 45) (by omega) (by decide) (by omega))) (zXS_iloadN X0.here hx rfl (hb hby d29_48) rfl (zXS_bipush X0.here hx rfl (hb hby d29_49) hr))) ?_
    refine Gl.go (fun _ hr => zXS_icmpNo X0.here hx rfl (hb hby d29_51) rfl (XT.ii_ne_f (by rw [hk1]; rfl)) (zXS_iconst X0.here hx rfl (hb hby d29_54) (zXS_goto X0.here hx rfl (pc0 := 55) (pc' := 59) rfl (hb hby d29_55) (by decide) (by decide) hr))) ?_
    obtain ⟨fs, hr, hrun, hended, hW, hsame⟩ := X0.leave (v := some (.int (1 : Int32))) (fun h => by rw [Bd.returns] at h; cases h)
    refine ⟨_, _, retN X0 hx (t := .boolean) Bd.returns (by simp) (hb hby d29_59) hr, hrun, hended, _, _, rfl, ?_, ⟨⟨_, rfl⟩, hW, hsame.mono (by decide) (by decide)⟩⟩
    show Qinc Z k h0 n0 _ s₁.heap _
    rw [e0]
    exact ⟨rfl, N0, rfl⟩
def Qckn (Z : State) (x : Addr) (t : Addr) (kb : ClassId) (N : Int32) (vs : List Value) (nn : Nat) (k1 : Nat) (k2 : Nat) (G1 : Int32) (G3 : Value) (h0 : Heap) (n0 : Nat) (v : Option Value) (h : Heap) (L : List Loc) : Prop := v = none ∧ Fr n0 L ∧ Keep h0 h []
set_option maxRecDepth 65536 in
theorem own_hstr : ∀ d ∈ Bundle.stringAtoms, d ∈ tables_1 := by decide +kernel
theorem ef_ckn (m : MethodId) (x0 : Addr) : entryFrame m #[(.ref x0)] 3 = mkF m 0 #[sR x0, sU, sU] [] := by first | (simp [entryFrame, mkF, argsToLocals, Value.category]; done) | rfl
theorem d19_0 : decode prog_3_method_2_code 0 = .ok (.aload_n 0, 1) := by decide +kernel
theorem d19_1 : decode prog_3_method_2_code 1 = .ok (.ldc 23, 2) := by decide +kernel
theorem d19_3 : decode prog_3_method_2_code 3 = .ok (.invokestatic 25, 3) := by decide +kernel
theorem pd_17 : parseMethodDescriptor "(Ljava/lang/Object;Ljava/lang/String;)Ljava/lang/Object;" = some ⟨[(.object "java/lang/Object"), (.object "java/lang/String")], some (.object "java/lang/Object")⟩ := by decide +kernel
theorem d19_6 : decode prog_3_method_2_code 6 = .ok (.pop, 1) := by decide +kernel
theorem d19_7 : decode prog_3_method_2_code 7 = .ok (.aload_n 0, 1) := by decide +kernel
theorem d19_8 : decode prog_3_method_2_code 8 = .ok (.invokevirtual 31, 3) := by decide +kernel
theorem d19_11 : decode prog_3_method_2_code 11 = .ok (.ifCond .ne 12, 3) := by decide +kernel
theorem d19_14 : decode prog_3_method_2_code 14 = .ok (.aload_n 0, 1) := by decide +kernel
theorem d19_15 : decode prog_3_method_2_code 15 = .ok (.invokevirtual 37, 3) := by decide +kernel
theorem pd_18 : parseMethodDescriptor "()I" = some ⟨[], some .int⟩ := by decide +kernel
theorem d19_18 : decode prog_3_method_2_code 18 = .ok (.bipush 64, 2) := by decide +kernel
theorem d19_20 : decode prog_3_method_2_code 20 = .ok (.if_icmp .le 20, 3) := by decide +kernel
theorem d19_40 : decode prog_3_method_2_code 40 = .ok (.iconst 0, 1) := by decide +kernel
theorem d19_41 : decode prog_3_method_2_code 41 = .ok (.istore_n 1, 1) := by decide +kernel
theorem d19_42 : decode prog_3_method_2_code 42 = .ok (.iload_n 1, 1) := by decide +kernel
theorem d19_43 : decode prog_3_method_2_code 43 = .ok (.aload_n 0, 1) := by decide +kernel
theorem d19_44 : decode prog_3_method_2_code 44 = .ok (.invokevirtual 37, 3) := by decide +kernel
theorem d19_47 : decode prog_3_method_2_code 47 = .ok (.if_icmp .ge 57, 3) := by decide +kernel
theorem d19_50 : decode prog_3_method_2_code 50 = .ok (.aload_n 0, 1) := by decide +kernel
theorem d19_51 : decode prog_3_method_2_code 51 = .ok (.iload_n 1, 1) := by decide +kernel
theorem d19_52 : decode prog_3_method_2_code 52 = .ok (.invokevirtual 49, 3) := by decide +kernel
theorem d19_55 : decode prog_3_method_2_code 55 = .ok (.istore_n 2, 1) := by decide +kernel
theorem d19_56 : decode prog_3_method_2_code 56 = .ok (.iload_n 2, 1) := by decide +kernel
theorem d19_57 : decode prog_3_method_2_code 57 = .ok (.invokestatic 53, 3) := by decide +kernel
theorem d19_60 : decode prog_3_method_2_code 60 = .ok (.ifCond .ne 38, 3) := by decide +kernel
theorem d19_98 : decode prog_3_method_2_code 98 = .ok (.iinc 1 1, 3) := by decide +kernel
theorem d19_101 : decode prog_3_method_2_code 101 = .ok (.goto (-59), 3) := by decide +kernel
theorem d19_104 : decode prog_3_method_2_code 104 = .ok (.return_, 1) := by decide +kernel
set_option maxRecDepth 65536 in
set_option maxHeartbeats 40000000 in
theorem ckn (l : Launch) (Z : State) (a0 : Array Value) (hw : ∀ d ∈ tables_1, d.before a0 Z = true) (ws : List Jvm.Cond) (x : Addr) (t : Addr) (kb : ClassId) (N : Int32) (vs : List Value) (nn : Nat) (k1 : Nat) (k2 : Nat) (G1 : Int32) (G3 : Value) (h0 : Heap) (n0 : Nat) (Z0 : n0 ≤ h0.size) (q0 : Sta Z Z.heap "java/lang/String" "COMPACT_STRINGS" "Z" (.int G1)) (P5 : ¬ (G1 = (0 : Int32))) (q2 : Old Z n0 h0) (q3 : Sta Z Z.heap "jdk/internal/util/Preconditions" "SIOOBE_FORMATTER" "Ljava/util/function/BiFunction;" G3) (rG3 : G3.isRef = true) (q5 : Exa Z h0 x "java/lang/String") (q6 : Fld Z h0 x "java/lang/String" "value" "[B" (.ref t)) (q7 : Fld Z h0 x "java/lang/String" "coder" "B" (.int (0 : Int32))) (q8 : Arv Z h0 t kb .byte N vs (.int 0)) (cod : StrChars.Road.CodA (unl k1 k2 nn) 0 N vs) (hn : nn = 1 ∨ nn = 2) (hk1 : NmK k1) (hk2 : NmK k2) :
    MetFree l y_28 (head1 (Jvm.Cond.code y_28 prog_3_method_2_code 3 none :: ws) r_m12) (fun a_ U_ => a_ = #[(.ref x)] ∧ Z.Warmed39 U_.vm ∧ U_.heap = h0) (fun _ _ _ _ _ => True) (fun _ U_ o_ V_ => ∃ v_ L_, o_ = .returned v_ ∧ Qckn Z x t kb N vs nn k1 k2 G1 G3 h0 n0 v_ V_.heap L_ ∧ ReturnedEndW U_ o_ V_ L_ r_m12.cells r_m12.slots) := by
  refine MetFree.of_bodySF (plainFor_of_name pn_6) hisR ?_
  intro p e s m args below meth c s₁ Bd hml0 hP hK
  obtain ⟨rfl, hZ, hh⟩ := hP
  have hx := Bd.exec
  have hby := Bd.bytes
  have hml : c.maxLocals = 3 := hml0
  have hown : s.vm.findClass "com/example/even_counter/evencounter/CounterId" = some m.cls := findClass_of_methodNamed Bd.named
  have hnm := (name_of_methodNamed Bd.named Bd.method).1
  have X0 : Stand p l e r_m12 (s.setVm s.vm) m #[(.ref x)] below meth c s₁ [] 0 0 := Stand.of_body Bd
  have e0 : s₁.heap = h0 := by rw [← hh, Bd.state]; rfl
  have N0 := Fr.nil n0
  have hS0 : s.Since s.vm h0.size := (State.WarmedH.refl s).since _
  have hk0 : h0.size ≤ h0.size := Nat.le_refl _
  have zo := q2.1
  have lt494 := own_alt q5.lt
  have lt495 := own_alt q6.lt
  have lt496 := own_alt q7.lt
  have lt497 := own_alt q8.lt
  have hstr : ∀ d ∈ Bundle.stringAtoms, d.before a0 Z = true := fun d hd => hw d (own_hstr d hd)
  have hln : ∀ d ∈ StrChars.Road.wordsLen, d.before a0 Z = true := fun d hd => hw d (own_hln d hd)
  have hch : ∀ d ∈ StrChars.Road.wordsChN, d.before a0 Z = true := fun d hd => hw d (own_hch d hd)
  have hem : ∀ d ∈ StrChars.Road.wordsEmp, d.before a0 Z = true := fun d hd => hw d (own_hem d hd)
  refine Gl.go (A := s₁.setTop (entryFrame m #[(.ref x)] 3)) (P := fun o_ U_ => ∃ v_ L_, o_ = .returned v_ ∧ Qckn Z x t kb N vs nn k1 k2 G1 G3 h0 n0 v_ U_.heap L_ ∧ ReturnedEndW s o_ U_ L_ r_m12.cells r_m12.slots) (fun t_ k_ => castTop (ef_ckn m x) k_) ?_
  show Gl p.tables e below _ (s₁.setTop (mkF m 0 #[sR x, sU, sU] []))
  rcases id hn with hn1 | hn1
  · have hp : ∀ c ∈ ([(Int32.ofNat k1)] : List Int32), Lat c := (own_cS (own_latN (Nat.lt_trans hk1.lt (by decide))) own_c0)
    have hbd := own_up hp
    have hcd : StrChars.Road.CodA ([(Int32.ofNat k1)] : List Int32) 0 N vs := by have q := cod; rw [own_unl1 hn1, own_unb (Nat.lt_trans hk1.lt (by decide))] at q; exact q
    show Gl p.tables e below _ (s₁.setTop (mkF m 0 #[sR x, sU, sU] []))
    refine Gl.go (fun _ hr => zXS_aloadN X0.here hx rfl (hb hby d19_0) rfl rfl hr) ?_
    obtain ⟨a498, T498, h498, k498, X498, e498, E498, hS498, hk498, hZ498, hown498, st498⟩ := ldcS X0 hx hZ (own := "com/example/even_counter/evencounter/CounterId") hown (tw hw 84 rfl) hstr e0 hS0 (by have q := hk0; omega) (g := (mkF m 1 #[sR x, sU, sU] [(.ref x)])) rfl (hb hby d19_1) (n := 116) (by decide) (by decide) (by decide) (by decide)
    have z499 : h0.size ≤ h498.size := E498.1
    refine Gl.go st498 ?_
    show Gl p.tables e below _ (T498.setTop (mkF m 3 #[sR x, sU, sU] [(.ref a498), (.ref x)]))
    have zz500 : n0 ≤ h498.size := by omega
    refine gStaticN Gl.cl (y := y_26) (argsL := [(.ref x), (.ref a498)]) (rest := []) (mc := 0) (ms := 0) X498 hx hZ498 hown498 (mvT hZ498 (tw hw 87 rfl)) (mvT hZ498 (tw hw 88 rfl)) (mvT hZ498 (tw hw 89 rfl)) (mvT hZ498 (tw hw 90 rfl)) (by decide) (backOf (W := 0) (rq l Z a0 hw [] x a498 h498 n0 zz500 ) hZ498 (tw hw 90 rfl) (tw hw 89 rfl) (by decide) (by decide)) rfl (by rw [hml]; rfl) (lenOf pd_17 rfl) rfl (by exact Nat.le_of_eq rfl) (hb hby d19_3) rfl e498 (by decide) (by decide) ?_
    intro v500 T500 Lc500 hQ500 X500
    obtain ⟨rfl, Nq500, e500⟩ := hQ500
    have N500 := Fr.app N0 Nq500
    refine Gl.go (fun _ hr => zXT_pop X500.here hx rfl (hb hby d19_6) rfl rfl (zXS_aloadN X500.here hx rfl (hb hby d19_7) rfl rfl hr)) ?_
    have Ec502 := (q5.ext E498)
    have Fc503 := (q6.ext E498)
    have Fc504 := (q7.ext E498)
    have Vc505 := (q8.ext E498)
    refine gVirtualN Gl.cl (y := y_29) (z := y_29) (b := x) (argsL := []) (rest := []) (mc := 0) (ms := 0) (Q := fun v h' L => v = some (.int (if ([(Int32.ofNat k1)] : List Int32).length = 0 then 1 else 0)) ∧ L = [] ∧ h' = h498) X500 hx hZ498 hown498 (mvT hZ498 (tw hw 91 rfl)) (mvT hZ498 (tw hw 92 rfl)) (notFace_of_selects (args := #[]) (mvT hZ498 (tw hw 94 rfl))) (mvT hZ498 (tw hw 94 rfl)) (mvT hZ498 (tw hw 93 rfl)) (by decide) Ec502 (StrChars.Road.empW (W := 0) hZ498 hem (kI := 4) (tw hw 17 rfl) Ec502 Fc503 Fc504 Vc505 hcd hbd (Nat.le_of_ble_eq_true rfl) (by decide) (by decide)) rfl (by rw [hml]; rfl) (lenOf pd_14 rfl) rfl (by exact Nat.le_of_eq rfl) (hb hby d19_8) rfl e500 (by decide) (by decide) ?_
    intro v501 T501 Lc501 hQ501 X501
    obtain ⟨rfl, rfl, e501⟩ := hQ501
    have N501 := own_fr_nil N500
    show Gl p.tables e below _ (T501.setTop (mkF m 11 #[sR x, sU, sU] [(.int (0 : Int32))]))
    show Gl p.tables e below _ (T501.setTop (mkF m 11 #[sR x, sU, sU] [(.int (0 : Int32))]))
    refine Gl.go (fun _ hr => zXS_ifNo X501.here hx rfl (hb hby d19_11) rfl (XT.i0_ne_f (by decide)) (zXS_aloadN X501.here hx rfl (hb hby d19_14) rfl rfl hr)) ?_
    have Oc507 := (q2.ext E498)
    refine gVirtualN Gl.cl (y := y_30) (z := y_30) (b := x) (argsL := []) (rest := []) (mc := 0) (ms := 0) (Q := fun v h' L => v = some (.int (Int32.ofNat ([(Int32.ofNat k1)] : List Int32).length)) ∧ L = [] ∧ h' = h498) X501 hx hZ498 hown498 (mvT hZ498 (tw hw 96 rfl)) (mvT hZ498 (tw hw 97 rfl)) (notFace_of_selects (args := #[]) (mvT hZ498 (tw hw 99 rfl))) (mvT hZ498 (tw hw 99 rfl)) (mvT hZ498 (tw hw 98 rfl)) (by decide) Ec502 (StrChars.Road.lenW (W := 0) hZ498 hln (kI := 4) (tw hw 17 rfl) Ec502 Fc503 Fc504 Vc505 hcd hbd (q0.ext Oc507.2) P5 (Nat.le_of_ble_eq_true rfl) (by decide) (by decide)) rfl (by rw [hml]; rfl) (lenOf pd_18 rfl) rfl (by exact Nat.le_of_eq rfl) (hb hby d19_15) rfl e501 (by decide) (by decide) ?_
    intro v506 T506 Lc506 hQ506 X506
    obtain ⟨rfl, rfl, e506⟩ := hQ506
    have N506 := own_fr_nil N501
    show Gl p.tables e below _ (T506.setTop (mkF m 18 #[sR x, sU, sU] [(.int (1 : Int32))]))
    show Gl p.tables e below _ (T506.setTop (mkF m 18 #[sR x, sU, sU] [(.int (1 : Int32))]))
    refine Gl.go (fun _ hr => zXS_bipush X506.here hx rfl (hb hby d19_18) (zXS_icmpYes X506.here hx rfl (pc0 := 20) (pc' := 40) rfl (hb hby d19_20) rfl (XT.ii_le_t (by decide)) (by decide) (by decide) (zXS_iconst X506.here hx rfl (hb hby d19_40) (zXS_istoreN X506.here hx rfl (hb hby d19_41) rfl (l' := #[sR x, sI 0, sU]) rfl (zXS_iloadN X506.here hx rfl (hb hby d19_42) rfl (zXS_aloadN X506.here hx rfl (hb hby d19_43) rfl rfl hr)))))) ?_
    refine gVirtualN Gl.cl (y := y_30) (z := y_30) (b := x) (argsL := []) (rest := [(.int (0 : Int32))]) (mc := 0) (ms := 0) (Q := fun v h' L => v = some (.int (Int32.ofNat ([(Int32.ofNat k1)] : List Int32).length)) ∧ L = [] ∧ h' = h498) X506 hx hZ498 hown498 (mvT hZ498 (tw hw 96 rfl)) (mvT hZ498 (tw hw 97 rfl)) (notFace_of_selects (args := #[]) (mvT hZ498 (tw hw 99 rfl))) (mvT hZ498 (tw hw 99 rfl)) (mvT hZ498 (tw hw 98 rfl)) (by decide) Ec502 (StrChars.Road.lenW (W := 1) hZ498 hln (kI := 4) (tw hw 17 rfl) Ec502 Fc503 Fc504 Vc505 hcd hbd (q0.ext Oc507.2) P5 (Nat.le_of_ble_eq_true rfl) (by decide) (by decide)) rfl (by rw [hml]; rfl) (lenOf pd_18 rfl) rfl (by exact Nat.le_of_eq rfl) (hb hby d19_44) rfl e506 (by decide) (by decide) ?_
    intro v508 T508 Lc508 hQ508 X508
    obtain ⟨rfl, rfl, e508⟩ := hQ508
    have N508 := own_fr_nil N506
    show Gl p.tables e below _ (T508.setTop (mkF m 47 #[sR x, sI 0, sU] [(.int (1 : Int32)), (.int (0 : Int32))]))
    show Gl p.tables e below _ (T508.setTop (mkF m 47 #[sR x, sI 0, sU] [(.int (1 : Int32)), (.int (0 : Int32))]))
    refine Gl.go (fun _ hr => zXS_icmpNo X508.here hx rfl (hb hby d19_47) rfl (XT.ii_ge_f (by decide)) (zXS_aloadN X508.here hx rfl (hb hby d19_50) rfl rfl (zXS_iloadN X508.here hx rfl (hb hby d19_51) rfl hr))) ?_
    refine gVirtualN Gl.cl (y := y_31) (z := y_31) (b := x) (argsL := [(.int (0 : Int32))]) (rest := []) (mc := 0) (ms := 0) (Q := fun v h' L => v = some (.int (([(Int32.ofNat k1)] : List Int32).getD 0 0)) ∧ L = [] ∧ h' = h498) X508 hx hZ498 hown498 (mvT hZ498 (tw hw 106 rfl)) (mvT hZ498 (tw hw 107 rfl)) (notFace_of_selects (args := #[]) (mvT hZ498 (tw hw 109 rfl))) (mvT hZ498 (tw hw 109 rfl)) (mvT hZ498 (tw hw 108 rfl)) (by decide) Ec502 (StrChars.Road.chN (W := 0) hZ498 hch (kI := 4) (tw hw 17 rfl) Ec502 Fc503 Fc504 Vc505 hcd hbd (q0.ext Oc507.2) P5 (q3.ext Oc507.2) rG3 (Nat.le_of_ble_eq_true rfl) (i := 0) (Nat.le_of_ble_eq_true rfl) (j := (0 : Int32)) rfl (by decide) (by decide)) rfl (by rw [hml]; rfl) (lenOf pd_9 rfl) rfl (by exact Nat.le_of_eq rfl) (hb hby d19_52) rfl e508 (by decide) (by decide) ?_
    intro v509 T509 Lc509 hQ509 X509
    obtain ⟨rfl, rfl, e509⟩ := hQ509
    have N509 := own_fr_nil N508
    refine Gl.go (fun _ hr => zXS_istoreN X509.here hx rfl (hb hby d19_55) rfl (l' := #[sR x, sI 0, sI (Int32.ofNat k1)]) rfl hr) ?_
    show Gl p.tables e below _ (T509.setTop (mkF m 56 #[sR x, sI 0, sI (Int32.ofNat k1)] []))
    show Gl p.tables e below _ (T509.setTop (mkF m 56 #[sR x, sI 0, sI (Int32.ofNat k1)] []))
    refine Gl.go (fun _ hr => zXS_iloadN X509.here hx rfl (hb hby d19_56) rfl hr) ?_
    have zz510 : n0 ≤ h498.size := by omega
    refine gStaticN Gl.cl (y := y_27) (argsL := [(.int (Int32.ofNat k1))]) (rest := []) (mc := 0) (ms := 0) X509 hx hZ498 hown498 (mvT hZ498 (tw hw 128 rfl)) (mvT hZ498 (tw hw 129 rfl)) (mvT hZ498 (tw hw 12 rfl)) (mvT hZ498 (tw hw 130 rfl)) (by decide) (backOf (W := 0) (inc l Z a0 hw [] k1 h498 n0 zz510 hk1) hZ498 (tw hw 130 rfl) (tw hw 12 rfl) (by decide) (by decide)) rfl (by rw [hml]; rfl) (lenOf pd_11 rfl) rfl (by exact Nat.le_of_eq rfl) (hb hby d19_57) rfl e509 (by decide) (by decide) ?_
    intro v510 T510 Lc510 hQ510 X510
    obtain ⟨rfl, Nq510, e510⟩ := hQ510
    have N510 := Fr.app N509 Nq510
    refine Gl.go (fun _ hr => zXS_ifYes X510.here hx rfl (pc0 := 60) (pc' := 98) rfl (hb hby d19_60) rfl (XT.i0_ne_t (by decide)) (by decide) (by decide) (zXS_iinc X510.here hx rfl (hb hby d19_98) rfl (l' := #[sR x, sI 1, sI (Int32.ofNat k1)]) rfl (zXS_goto X510.here hx rfl (pc0 := 101) (pc' := 42) rfl (hb hby d19_101) (by decide) (by decide) (zXS_iloadN X510.here hx rfl (hb hby d19_42) rfl (zXS_aloadN X510.here hx rfl (hb hby d19_43) rfl rfl hr))))) ?_
    refine gVirtualN Gl.cl (y := y_30) (z := y_30) (b := x) (argsL := []) (rest := [(.int (1 : Int32))]) (mc := 0) (ms := 0) (Q := fun v h' L => v = some (.int (Int32.ofNat ([(Int32.ofNat k1)] : List Int32).length)) ∧ L = [] ∧ h' = h498) X510 hx hZ498 hown498 (mvT hZ498 (tw hw 96 rfl)) (mvT hZ498 (tw hw 97 rfl)) (notFace_of_selects (args := #[]) (mvT hZ498 (tw hw 99 rfl))) (mvT hZ498 (tw hw 99 rfl)) (mvT hZ498 (tw hw 98 rfl)) (by decide) Ec502 (StrChars.Road.lenW (W := 1) hZ498 hln (kI := 4) (tw hw 17 rfl) Ec502 Fc503 Fc504 Vc505 hcd hbd (q0.ext Oc507.2) P5 (Nat.le_of_ble_eq_true rfl) (by decide) (by decide)) rfl (by rw [hml]; rfl) (lenOf pd_18 rfl) rfl (by exact Nat.le_of_eq rfl) (hb hby d19_44) rfl e510 (by decide) (by decide) ?_
    intro v511 T511 Lc511 hQ511 X511
    obtain ⟨rfl, rfl, e511⟩ := hQ511
    have N511 := own_fr_nil N510
    show Gl p.tables e below _ (T511.setTop (mkF m 47 #[sR x, sI 1, sI (Int32.ofNat k1)] [(.int (1 : Int32)), (.int (1 : Int32))]))
    show Gl p.tables e below _ (T511.setTop (mkF m 47 #[sR x, sI 1, sI (Int32.ofNat k1)] [(.int (1 : Int32)), (.int (1 : Int32))]))
    refine Gl.go (fun _ hr => zXS_icmpYes X511.here hx rfl (pc0 := 47) (pc' := 104) rfl (hb hby d19_47) rfl (XT.ii_ge_t (by decide)) (by decide) (by decide) hr) ?_
    obtain ⟨fs, hr, hrun, hended, hE⟩ := X511.leaveW hS498 (by have q := congrArg Array.size e511; have q2 := hk498; omega) (v := none) (fun _ => rfl)
    refine ⟨_, _, X511.returnOut hx Bd.returns (hb hby d19_104) hr, hrun, hended, _, _, rfl, ?_, ⟨hE.1, hE.2.1, hE.2.2.1, hE.2.2.2.mono (by decide) (by decide)⟩⟩
    show Qckn Z x t kb N vs nn k1 k2 G1 G3 h0 n0 _ T511.heap _
    rw [e511]
    exact ⟨rfl, N511, ((Keep.refl h0 []).ext E498)⟩
  · have hp : ∀ c ∈ ([(Int32.ofNat k1), (Int32.ofNat k2)] : List Int32), Lat c := (own_cS (own_latN (Nat.lt_trans hk1.lt (by decide))) (own_cS (own_latN (Nat.lt_trans hk2.lt (by decide))) own_c0))
    have hbd := own_up hp
    have hcd : StrChars.Road.CodA ([(Int32.ofNat k1), (Int32.ofNat k2)] : List Int32) 0 N vs := by have q := cod; rw [own_unl2 hn1, own_unb (Nat.lt_trans hk1.lt (by decide)), own_unb (Nat.lt_trans hk2.lt (by decide))] at q; exact q
    show Gl p.tables e below _ (s₁.setTop (mkF m 0 #[sR x, sU, sU] []))
    refine Gl.go (fun _ hr => zXS_aloadN X0.here hx rfl (hb hby d19_0) rfl rfl hr) ?_
    obtain ⟨a512, T512, h512, k512, X512, e512, E512, hS512, hk512, hZ512, hown512, st512⟩ := ldcS X0 hx hZ (own := "com/example/even_counter/evencounter/CounterId") hown (tw hw 84 rfl) hstr e0 hS0 (by have q := hk0; omega) (g := (mkF m 1 #[sR x, sU, sU] [(.ref x)])) rfl (hb hby d19_1) (n := 116) (by decide) (by decide) (by decide) (by decide)
    have z513 : h0.size ≤ h512.size := E512.1
    refine Gl.go st512 ?_
    show Gl p.tables e below _ (T512.setTop (mkF m 3 #[sR x, sU, sU] [(.ref a512), (.ref x)]))
    have zz514 : n0 ≤ h512.size := by omega
    refine gStaticN Gl.cl (y := y_26) (argsL := [(.ref x), (.ref a512)]) (rest := []) (mc := 0) (ms := 0) X512 hx hZ512 hown512 (mvT hZ512 (tw hw 87 rfl)) (mvT hZ512 (tw hw 88 rfl)) (mvT hZ512 (tw hw 89 rfl)) (mvT hZ512 (tw hw 90 rfl)) (by decide) (backOf (W := 0) (rq l Z a0 hw [] x a512 h512 n0 zz514 ) hZ512 (tw hw 90 rfl) (tw hw 89 rfl) (by decide) (by decide)) rfl (by rw [hml]; rfl) (lenOf pd_17 rfl) rfl (by exact Nat.le_of_eq rfl) (hb hby d19_3) rfl e512 (by decide) (by decide) ?_
    intro v514 T514 Lc514 hQ514 X514
    obtain ⟨rfl, Nq514, e514⟩ := hQ514
    have N514 := Fr.app N0 Nq514
    refine Gl.go (fun _ hr => zXT_pop X514.here hx rfl (hb hby d19_6) rfl rfl (zXS_aloadN X514.here hx rfl (hb hby d19_7) rfl rfl hr)) ?_
    have Ec516 := (q5.ext E512)
    have Fc517 := (q6.ext E512)
    have Fc518 := (q7.ext E512)
    have Vc519 := (q8.ext E512)
    refine gVirtualN Gl.cl (y := y_29) (z := y_29) (b := x) (argsL := []) (rest := []) (mc := 0) (ms := 0) (Q := fun v h' L => v = some (.int (if ([(Int32.ofNat k1), (Int32.ofNat k2)] : List Int32).length = 0 then 1 else 0)) ∧ L = [] ∧ h' = h512) X514 hx hZ512 hown512 (mvT hZ512 (tw hw 91 rfl)) (mvT hZ512 (tw hw 92 rfl)) (notFace_of_selects (args := #[]) (mvT hZ512 (tw hw 94 rfl))) (mvT hZ512 (tw hw 94 rfl)) (mvT hZ512 (tw hw 93 rfl)) (by decide) Ec516 (StrChars.Road.empW (W := 0) hZ512 hem (kI := 4) (tw hw 17 rfl) Ec516 Fc517 Fc518 Vc519 hcd hbd (Nat.le_of_ble_eq_true rfl) (by decide) (by decide)) rfl (by rw [hml]; rfl) (lenOf pd_14 rfl) rfl (by exact Nat.le_of_eq rfl) (hb hby d19_8) rfl e514 (by decide) (by decide) ?_
    intro v515 T515 Lc515 hQ515 X515
    obtain ⟨rfl, rfl, e515⟩ := hQ515
    have N515 := own_fr_nil N514
    show Gl p.tables e below _ (T515.setTop (mkF m 11 #[sR x, sU, sU] [(.int (0 : Int32))]))
    show Gl p.tables e below _ (T515.setTop (mkF m 11 #[sR x, sU, sU] [(.int (0 : Int32))]))
    refine Gl.go (fun _ hr => zXS_ifNo X515.here hx rfl (hb hby d19_11) rfl (XT.i0_ne_f (by decide)) (zXS_aloadN X515.here hx rfl (hb hby d19_14) rfl rfl hr)) ?_
    have Oc521 := (q2.ext E512)
    refine gVirtualN Gl.cl (y := y_30) (z := y_30) (b := x) (argsL := []) (rest := []) (mc := 0) (ms := 0) (Q := fun v h' L => v = some (.int (Int32.ofNat ([(Int32.ofNat k1), (Int32.ofNat k2)] : List Int32).length)) ∧ L = [] ∧ h' = h512) X515 hx hZ512 hown512 (mvT hZ512 (tw hw 96 rfl)) (mvT hZ512 (tw hw 97 rfl)) (notFace_of_selects (args := #[]) (mvT hZ512 (tw hw 99 rfl))) (mvT hZ512 (tw hw 99 rfl)) (mvT hZ512 (tw hw 98 rfl)) (by decide) Ec516 (StrChars.Road.lenW (W := 0) hZ512 hln (kI := 4) (tw hw 17 rfl) Ec516 Fc517 Fc518 Vc519 hcd hbd (q0.ext Oc521.2) P5 (Nat.le_of_ble_eq_true rfl) (by decide) (by decide)) rfl (by rw [hml]; rfl) (lenOf pd_18 rfl) rfl (by exact Nat.le_of_eq rfl) (hb hby d19_15) rfl e515 (by decide) (by decide) ?_
    intro v520 T520 Lc520 hQ520 X520
    obtain ⟨rfl, rfl, e520⟩ := hQ520
    have N520 := own_fr_nil N515
    show Gl p.tables e below _ (T520.setTop (mkF m 18 #[sR x, sU, sU] [(.int (2 : Int32))]))
    show Gl p.tables e below _ (T520.setTop (mkF m 18 #[sR x, sU, sU] [(.int (2 : Int32))]))
    refine Gl.go (fun _ hr => zXS_bipush X520.here hx rfl (hb hby d19_18) (zXS_icmpYes X520.here hx rfl (pc0 := 20) (pc' := 40) rfl (hb hby d19_20) rfl (XT.ii_le_t (by decide)) (by decide) (by decide) (zXS_iconst X520.here hx rfl (hb hby d19_40) (zXS_istoreN X520.here hx rfl (hb hby d19_41) rfl (l' := #[sR x, sI 0, sU]) rfl (zXS_iloadN X520.here hx rfl (hb hby d19_42) rfl (zXS_aloadN X520.here hx rfl (hb hby d19_43) rfl rfl hr)))))) ?_
    refine gVirtualN Gl.cl (y := y_30) (z := y_30) (b := x) (argsL := []) (rest := [(.int (0 : Int32))]) (mc := 0) (ms := 0) (Q := fun v h' L => v = some (.int (Int32.ofNat ([(Int32.ofNat k1), (Int32.ofNat k2)] : List Int32).length)) ∧ L = [] ∧ h' = h512) X520 hx hZ512 hown512 (mvT hZ512 (tw hw 96 rfl)) (mvT hZ512 (tw hw 97 rfl)) (notFace_of_selects (args := #[]) (mvT hZ512 (tw hw 99 rfl))) (mvT hZ512 (tw hw 99 rfl)) (mvT hZ512 (tw hw 98 rfl)) (by decide) Ec516 (StrChars.Road.lenW (W := 1) hZ512 hln (kI := 4) (tw hw 17 rfl) Ec516 Fc517 Fc518 Vc519 hcd hbd (q0.ext Oc521.2) P5 (Nat.le_of_ble_eq_true rfl) (by decide) (by decide)) rfl (by rw [hml]; rfl) (lenOf pd_18 rfl) rfl (by exact Nat.le_of_eq rfl) (hb hby d19_44) rfl e520 (by decide) (by decide) ?_
    intro v522 T522 Lc522 hQ522 X522
    obtain ⟨rfl, rfl, e522⟩ := hQ522
    have N522 := own_fr_nil N520
    show Gl p.tables e below _ (T522.setTop (mkF m 47 #[sR x, sI 0, sU] [(.int (2 : Int32)), (.int (0 : Int32))]))
    show Gl p.tables e below _ (T522.setTop (mkF m 47 #[sR x, sI 0, sU] [(.int (2 : Int32)), (.int (0 : Int32))]))
    refine Gl.go (fun _ hr => zXS_icmpNo X522.here hx rfl (hb hby d19_47) rfl (XT.ii_ge_f (by decide)) (zXS_aloadN X522.here hx rfl (hb hby d19_50) rfl rfl (zXS_iloadN X522.here hx rfl (hb hby d19_51) rfl hr))) ?_
    refine gVirtualN Gl.cl (y := y_31) (z := y_31) (b := x) (argsL := [(.int (0 : Int32))]) (rest := []) (mc := 0) (ms := 0) (Q := fun v h' L => v = some (.int (([(Int32.ofNat k1), (Int32.ofNat k2)] : List Int32).getD 0 0)) ∧ L = [] ∧ h' = h512) X522 hx hZ512 hown512 (mvT hZ512 (tw hw 106 rfl)) (mvT hZ512 (tw hw 107 rfl)) (notFace_of_selects (args := #[]) (mvT hZ512 (tw hw 109 rfl))) (mvT hZ512 (tw hw 109 rfl)) (mvT hZ512 (tw hw 108 rfl)) (by decide) Ec516 (StrChars.Road.chN (W := 0) hZ512 hch (kI := 4) (tw hw 17 rfl) Ec516 Fc517 Fc518 Vc519 hcd hbd (q0.ext Oc521.2) P5 (q3.ext Oc521.2) rG3 (Nat.le_of_ble_eq_true rfl) (i := 0) (Nat.le_of_ble_eq_true rfl) (j := (0 : Int32)) rfl (by decide) (by decide)) rfl (by rw [hml]; rfl) (lenOf pd_9 rfl) rfl (by exact Nat.le_of_eq rfl) (hb hby d19_52) rfl e522 (by decide) (by decide) ?_
    intro v523 T523 Lc523 hQ523 X523
    obtain ⟨rfl, rfl, e523⟩ := hQ523
    have N523 := own_fr_nil N522
    refine Gl.go (fun _ hr => zXS_istoreN X523.here hx rfl (hb hby d19_55) rfl (l' := #[sR x, sI 0, sI (Int32.ofNat k1)]) rfl hr) ?_
    show Gl p.tables e below _ (T523.setTop (mkF m 56 #[sR x, sI 0, sI (Int32.ofNat k1)] []))
    show Gl p.tables e below _ (T523.setTop (mkF m 56 #[sR x, sI 0, sI (Int32.ofNat k1)] []))
    refine Gl.go (fun _ hr => zXS_iloadN X523.here hx rfl (hb hby d19_56) rfl hr) ?_
    have zz524 : n0 ≤ h512.size := by omega
    refine gStaticN Gl.cl (y := y_27) (argsL := [(.int (Int32.ofNat k1))]) (rest := []) (mc := 0) (ms := 0) X523 hx hZ512 hown512 (mvT hZ512 (tw hw 128 rfl)) (mvT hZ512 (tw hw 129 rfl)) (mvT hZ512 (tw hw 12 rfl)) (mvT hZ512 (tw hw 130 rfl)) (by decide) (backOf (W := 0) (inc l Z a0 hw [] k1 h512 n0 zz524 hk1) hZ512 (tw hw 130 rfl) (tw hw 12 rfl) (by decide) (by decide)) rfl (by rw [hml]; rfl) (lenOf pd_11 rfl) rfl (by exact Nat.le_of_eq rfl) (hb hby d19_57) rfl e523 (by decide) (by decide) ?_
    intro v524 T524 Lc524 hQ524 X524
    obtain ⟨rfl, Nq524, e524⟩ := hQ524
    have N524 := Fr.app N523 Nq524
    refine Gl.go (fun _ hr => zXS_ifYes X524.here hx rfl (pc0 := 60) (pc' := 98) rfl (hb hby d19_60) rfl (XT.i0_ne_t (by decide)) (by decide) (by decide) (zXS_iinc X524.here hx rfl (hb hby d19_98) rfl (l' := #[sR x, sI 1, sI (Int32.ofNat k1)]) rfl (zXS_goto X524.here hx rfl (pc0 := 101) (pc' := 42) rfl (hb hby d19_101) (by decide) (by decide) (zXS_iloadN X524.here hx rfl (hb hby d19_42) rfl (zXS_aloadN X524.here hx rfl (hb hby d19_43) rfl rfl hr))))) ?_
    refine gVirtualN Gl.cl (y := y_30) (z := y_30) (b := x) (argsL := []) (rest := [(.int (1 : Int32))]) (mc := 0) (ms := 0) (Q := fun v h' L => v = some (.int (Int32.ofNat ([(Int32.ofNat k1), (Int32.ofNat k2)] : List Int32).length)) ∧ L = [] ∧ h' = h512) X524 hx hZ512 hown512 (mvT hZ512 (tw hw 96 rfl)) (mvT hZ512 (tw hw 97 rfl)) (notFace_of_selects (args := #[]) (mvT hZ512 (tw hw 99 rfl))) (mvT hZ512 (tw hw 99 rfl)) (mvT hZ512 (tw hw 98 rfl)) (by decide) Ec516 (StrChars.Road.lenW (W := 1) hZ512 hln (kI := 4) (tw hw 17 rfl) Ec516 Fc517 Fc518 Vc519 hcd hbd (q0.ext Oc521.2) P5 (Nat.le_of_ble_eq_true rfl) (by decide) (by decide)) rfl (by rw [hml]; rfl) (lenOf pd_18 rfl) rfl (by exact Nat.le_of_eq rfl) (hb hby d19_44) rfl e524 (by decide) (by decide) ?_
    intro v525 T525 Lc525 hQ525 X525
    obtain ⟨rfl, rfl, e525⟩ := hQ525
    have N525 := own_fr_nil N524
    show Gl p.tables e below _ (T525.setTop (mkF m 47 #[sR x, sI 1, sI (Int32.ofNat k1)] [(.int (2 : Int32)), (.int (1 : Int32))]))
    show Gl p.tables e below _ (T525.setTop (mkF m 47 #[sR x, sI 1, sI (Int32.ofNat k1)] [(.int (2 : Int32)), (.int (1 : Int32))]))
    refine Gl.go (fun _ hr => zXS_icmpNo X525.here hx rfl (hb hby d19_47) rfl (XT.ii_ge_f (by decide)) (zXS_aloadN X525.here hx rfl (hb hby d19_50) rfl rfl (zXS_iloadN X525.here hx rfl (hb hby d19_51) rfl hr))) ?_
    refine gVirtualN Gl.cl (y := y_31) (z := y_31) (b := x) (argsL := [(.int (1 : Int32))]) (rest := []) (mc := 0) (ms := 0) (Q := fun v h' L => v = some (.int (([(Int32.ofNat k1), (Int32.ofNat k2)] : List Int32).getD 1 0)) ∧ L = [] ∧ h' = h512) X525 hx hZ512 hown512 (mvT hZ512 (tw hw 106 rfl)) (mvT hZ512 (tw hw 107 rfl)) (notFace_of_selects (args := #[]) (mvT hZ512 (tw hw 109 rfl))) (mvT hZ512 (tw hw 109 rfl)) (mvT hZ512 (tw hw 108 rfl)) (by decide) Ec516 (StrChars.Road.chN (W := 0) hZ512 hch (kI := 4) (tw hw 17 rfl) Ec516 Fc517 Fc518 Vc519 hcd hbd (q0.ext Oc521.2) P5 (q3.ext Oc521.2) rG3 (Nat.le_of_ble_eq_true rfl) (i := 1) (Nat.le_of_ble_eq_true rfl) (j := (1 : Int32)) rfl (by decide) (by decide)) rfl (by rw [hml]; rfl) (lenOf pd_9 rfl) rfl (by exact Nat.le_of_eq rfl) (hb hby d19_52) rfl e525 (by decide) (by decide) ?_
    intro v526 T526 Lc526 hQ526 X526
    obtain ⟨rfl, rfl, e526⟩ := hQ526
    have N526 := own_fr_nil N525
    refine Gl.go (fun _ hr => zXS_istoreN X526.here hx rfl (hb hby d19_55) rfl (l' := #[sR x, sI 1, sI (Int32.ofNat k2)]) rfl hr) ?_
    show Gl p.tables e below _ (T526.setTop (mkF m 56 #[sR x, sI 1, sI (Int32.ofNat k2)] []))
    show Gl p.tables e below _ (T526.setTop (mkF m 56 #[sR x, sI 1, sI (Int32.ofNat k2)] []))
    refine Gl.go (fun _ hr => zXS_iloadN X526.here hx rfl (hb hby d19_56) rfl hr) ?_
    have zz527 : n0 ≤ h512.size := by omega
    refine gStaticN Gl.cl (y := y_27) (argsL := [(.int (Int32.ofNat k2))]) (rest := []) (mc := 0) (ms := 0) X526 hx hZ512 hown512 (mvT hZ512 (tw hw 128 rfl)) (mvT hZ512 (tw hw 129 rfl)) (mvT hZ512 (tw hw 12 rfl)) (mvT hZ512 (tw hw 130 rfl)) (by decide) (backOf (W := 0) (inc l Z a0 hw [] k2 h512 n0 zz527 hk2) hZ512 (tw hw 130 rfl) (tw hw 12 rfl) (by decide) (by decide)) rfl (by rw [hml]; rfl) (lenOf pd_11 rfl) rfl (by exact Nat.le_of_eq rfl) (hb hby d19_57) rfl e526 (by decide) (by decide) ?_
    intro v527 T527 Lc527 hQ527 X527
    obtain ⟨rfl, Nq527, e527⟩ := hQ527
    have N527 := Fr.app N526 Nq527
    refine Gl.go (fun _ hr => zXS_ifYes X527.here hx rfl (pc0 := 60) (pc' := 98) rfl (hb hby d19_60) rfl (XT.i0_ne_t (by decide)) (by decide) (by decide) (zXS_iinc X527.here hx rfl (hb hby d19_98) rfl (l' := #[sR x, sI 2, sI (Int32.ofNat k2)]) rfl (zXS_goto X527.here hx rfl (pc0 := 101) (pc' := 42) rfl (hb hby d19_101) (by decide) (by decide) (zXS_iloadN X527.here hx rfl (hb hby d19_42) rfl (zXS_aloadN X527.here hx rfl (hb hby d19_43) rfl rfl hr))))) ?_
    refine gVirtualN Gl.cl (y := y_30) (z := y_30) (b := x) (argsL := []) (rest := [(.int (2 : Int32))]) (mc := 0) (ms := 0) (Q := fun v h' L => v = some (.int (Int32.ofNat ([(Int32.ofNat k1), (Int32.ofNat k2)] : List Int32).length)) ∧ L = [] ∧ h' = h512) X527 hx hZ512 hown512 (mvT hZ512 (tw hw 96 rfl)) (mvT hZ512 (tw hw 97 rfl)) (notFace_of_selects (args := #[]) (mvT hZ512 (tw hw 99 rfl))) (mvT hZ512 (tw hw 99 rfl)) (mvT hZ512 (tw hw 98 rfl)) (by decide) Ec516 (StrChars.Road.lenW (W := 1) hZ512 hln (kI := 4) (tw hw 17 rfl) Ec516 Fc517 Fc518 Vc519 hcd hbd (q0.ext Oc521.2) P5 (Nat.le_of_ble_eq_true rfl) (by decide) (by decide)) rfl (by rw [hml]; rfl) (lenOf pd_18 rfl) rfl (by exact Nat.le_of_eq rfl) (hb hby d19_44) rfl e527 (by decide) (by decide) ?_
    intro v528 T528 Lc528 hQ528 X528
    obtain ⟨rfl, rfl, e528⟩ := hQ528
    have N528 := own_fr_nil N527
    show Gl p.tables e below _ (T528.setTop (mkF m 47 #[sR x, sI 2, sI (Int32.ofNat k2)] [(.int (2 : Int32)), (.int (2 : Int32))]))
    show Gl p.tables e below _ (T528.setTop (mkF m 47 #[sR x, sI 2, sI (Int32.ofNat k2)] [(.int (2 : Int32)), (.int (2 : Int32))]))
    refine Gl.go (fun _ hr => zXS_icmpYes X528.here hx rfl (pc0 := 47) (pc' := 104) rfl (hb hby d19_47) rfl (XT.ii_ge_t (by decide)) (by decide) (by decide) hr) ?_
    obtain ⟨fs, hr, hrun, hended, hE⟩ := X528.leaveW hS512 (by have q := congrArg Array.size e528; have q2 := hk512; omega) (v := none) (fun _ => rfl)
    refine ⟨_, _, X528.returnOut hx Bd.returns (hb hby d19_104) hr, hrun, hended, _, _, rfl, ?_, ⟨hE.1, hE.2.1, hE.2.2.1, hE.2.2.2.mono (by decide) (by decide)⟩⟩
    show Qckn Z x t kb N vs nn k1 k2 G1 G3 h0 n0 _ T528.heap _
    rw [e528]
    exact ⟨rfl, N528, ((Keep.refl h0 []).ext E512)⟩
def Qckk (Z : State) (x : Addr) (t : Addr) (kb : ClassId) (cd : Int32) (N : Int32) (vs : List Value) (nn : Nat) (k1 : Nat) (k2 : Nat) (G1 : Int32) (G3 : Value) (h0 : Heap) (n0 : Nat) (v : Option Value) (h : Heap) (L : List Loc) : Prop := v = none ∧ Fr n0 L ∧ Keep h0 h []
theorem ef_ckk (m : MethodId) (x0 : Addr) : entryFrame m #[(.ref x0)] 4 = mkF m 0 #[sR x0, sU, sU, sU] [] := by first | (simp [entryFrame, mkF, argsToLocals, Value.category]; done) | rfl
theorem d30_0 : decode prog_3_method_4_code 0 = .ok (.aload_n 0, 1) := by decide +kernel
theorem d30_1 : decode prog_3_method_4_code 1 = .ok (.ldc 75, 2) := by decide +kernel
theorem d30_3 : decode prog_3_method_4_code 3 = .ok (.invokestatic 25, 3) := by decide +kernel
theorem d30_6 : decode prog_3_method_4_code 6 = .ok (.pop, 1) := by decide +kernel
theorem d30_7 : decode prog_3_method_4_code 7 = .ok (.iconst 0, 1) := by decide +kernel
theorem d30_8 : decode prog_3_method_4_code 8 = .ok (.istore_n 1, 1) := by decide +kernel
theorem d30_9 : decode prog_3_method_4_code 9 = .ok (.iconst 0, 1) := by decide +kernel
theorem d30_10 : decode prog_3_method_4_code 10 = .ok (.istore_n 2, 1) := by decide +kernel
theorem d30_11 : decode prog_3_method_4_code 11 = .ok (.iload_n 2, 1) := by decide +kernel
theorem d30_12 : decode prog_3_method_4_code 12 = .ok (.aload_n 0, 1) := by decide +kernel
theorem d30_13 : decode prog_3_method_4_code 13 = .ok (.invokevirtual 37, 3) := by decide +kernel
theorem d30_16 : decode prog_3_method_4_code 16 = .ok (.if_icmp .ge 83, 3) := by decide +kernel
theorem d30_19 : decode prog_3_method_4_code 19 = .ok (.aload_n 0, 1) := by decide +kernel
theorem d30_20 : decode prog_3_method_4_code 20 = .ok (.iload_n 2, 1) := by decide +kernel
theorem d30_21 : decode prog_3_method_4_code 21 = .ok (.invokevirtual 61, 3) := by decide +kernel
theorem d30_24 : decode prog_3_method_4_code 24 = .ok (.istore_n 3, 1) := by decide +kernel
theorem d30_25 : decode prog_3_method_4_code 25 = .ok (.iload_n 3, 1) := by decide +kernel
theorem d30_26 : decode prog_3_method_4_code 26 = .ok (.ifCond .ne 17, 3) := by decide +kernel
theorem d30_43 : decode prog_3_method_4_code 43 = .ok (.iload_n 3, 1) := by decide +kernel
theorem d30_44 : decode prog_3_method_4_code 44 = .ok (.ldc 80, 2) := by decide +kernel
theorem d30_46 : decode prog_3_method_4_code 46 = .ok (.if_icmp .lt 40, 3) := by decide +kernel
theorem d30_49 : decode prog_3_method_4_code 49 = .ok (.iload_n 3, 1) := by decide +kernel
theorem d30_50 : decode prog_3_method_4_code 50 = .ok (.ldc 81, 2) := by decide +kernel
theorem d30_52 : decode prog_3_method_4_code 52 = .ok (.if_icmp .gt 34, 3) := by decide +kernel
theorem d30_86 : decode prog_3_method_4_code 86 = .ok (.iinc 1 1, 3) := by decide +kernel
theorem d30_89 : decode prog_3_method_4_code 89 = .ok (.iload_n 2, 1) := by decide +kernel
theorem d30_90 : decode prog_3_method_4_code 90 = .ok (.iload_n 3, 1) := by decide +kernel
theorem d30_91 : decode prog_3_method_4_code 91 = .ok (.invokestatic 84, 3) := by decide +kernel
theorem d30_94 : decode prog_3_method_4_code 94 = .ok (.iadd, 1) := by decide +kernel
theorem d30_95 : decode prog_3_method_4_code 95 = .ok (.istore_n 2, 1) := by decide +kernel
theorem d30_96 : decode prog_3_method_4_code 96 = .ok (.goto (-85), 3) := by decide +kernel
theorem d30_99 : decode prog_3_method_4_code 99 = .ok (.iload_n 1, 1) := by decide +kernel
theorem d30_100 : decode prog_3_method_4_code 100 = .ok (.ifCond .eq 10, 3) := by decide +kernel
theorem d30_103 : decode prog_3_method_4_code 103 = .ok (.iload_n 1, 1) := by decide +kernel
theorem d30_104 : decode prog_3_method_4_code 104 = .ok (.sipush 255, 3) := by decide +kernel
theorem d30_107 : decode prog_3_method_4_code 107 = .ok (.if_icmp .le 17, 3) := by decide +kernel
theorem d30_124 : decode prog_3_method_4_code 124 = .ok (.return_, 1) := by decide +kernel
set_option maxRecDepth 65536 in
set_option maxHeartbeats 40000000 in
theorem ckk (l : Launch) (Z : State) (a0 : Array Value) (hw : ∀ d ∈ tables_1, d.before a0 Z = true) (ws : List Jvm.Cond) (x : Addr) (t : Addr) (kb : ClassId) (cd : Int32) (N : Int32) (vs : List Value) (nn : Nat) (k1 : Nat) (k2 : Nat) (G1 : Int32) (G3 : Value) (h0 : Heap) (n0 : Nat) (Z0 : n0 ≤ h0.size) (q0 : Sta Z Z.heap "java/lang/String" "COMPACT_STRINGS" "Z" (.int G1)) (P5 : ¬ (G1 = (0 : Int32))) (q2 : Old Z n0 h0) (q3 : Sta Z Z.heap "jdk/internal/util/Preconditions" "SIOOBE_FORMATTER" "Ljava/util/function/BiFunction;" G3) (rG3 : G3.isRef = true) (q5 : Sta Z Z.heap "java/lang/StringUTF16" "$assertionsDisabled" "Z" (.int (1 : Int32))) (q6 : Sta Z Z.heap "java/lang/StringUTF16" "HI_BYTE_SHIFT" "I" (.int (0 : Int32))) (q7 : Sta Z Z.heap "java/lang/StringUTF16" "LO_BYTE_SHIFT" "I" (.int (8 : Int32))) (q8 : Exa Z h0 x "java/lang/String") (q9 : Fld Z h0 x "java/lang/String" "value" "[B" (.ref t)) (q10 : Fld Z h0 x "java/lang/String" "coder" "B" (.int cd)) (q11 : Arv Z h0 t kb .byte N vs (.int 0)) (cod : StrChars.Road.CodA (unl k1 k2 nn) cd N vs) (hn : nn = 1 ∨ nn = 2) (hk1 : KeyC k1) (hk2 : KeyC k2) :
    MetFree l y_32 (head1 (Jvm.Cond.code y_32 prog_3_method_4_code 4 none :: ws) r_m13) (fun a_ U_ => a_ = #[(.ref x)] ∧ Z.Warmed39 U_.vm ∧ U_.heap = h0) (fun _ _ _ _ _ => True) (fun _ U_ o_ V_ => ∃ v_ L_, o_ = .returned v_ ∧ Qckk Z x t kb cd N vs nn k1 k2 G1 G3 h0 n0 v_ V_.heap L_ ∧ ReturnedEndW U_ o_ V_ L_ r_m13.cells r_m13.slots) := by
  refine MetFree.of_bodySF (plainFor_of_name pn_6) hisR ?_
  intro p e s m args below meth c s₁ Bd hml0 hP hK
  obtain ⟨rfl, hZ, hh⟩ := hP
  have hx := Bd.exec
  have hby := Bd.bytes
  have hml : c.maxLocals = 4 := hml0
  have hown : s.vm.findClass "com/example/even_counter/evencounter/CounterId" = some m.cls := findClass_of_methodNamed Bd.named
  have hnm := (name_of_methodNamed Bd.named Bd.method).1
  have X0 : Stand p l e r_m13 (s.setVm s.vm) m #[(.ref x)] below meth c s₁ [] 0 0 := Stand.of_body Bd
  have e0 : s₁.heap = h0 := by rw [← hh, Bd.state]; rfl
  have N0 := Fr.nil n0
  have hS0 : s.Since s.vm h0.size := (State.WarmedH.refl s).since _
  have hk0 : h0.size ≤ h0.size := Nat.le_refl _
  have zo := q2.1
  have lt529 := own_alt q8.lt
  have lt530 := own_alt q9.lt
  have lt531 := own_alt q10.lt
  have lt532 := own_alt q11.lt
  have hstr : ∀ d ∈ Bundle.stringAtoms, d.before a0 Z = true := fun d hd => hw d (own_hstr d hd)
  have hln : ∀ d ∈ StrChars.Road.wordsLen, d.before a0 Z = true := fun d hd => hw d (own_hln d hd)
  have cl_k1 := cpl_le k1
  have cl_k2 := cpl_le k2
  refine Gl.go (A := s₁.setTop (entryFrame m #[(.ref x)] 4)) (P := fun o_ U_ => ∃ v_ L_, o_ = .returned v_ ∧ Qckk Z x t kb cd N vs nn k1 k2 G1 G3 h0 n0 v_ U_.heap L_ ∧ ReturnedEndW s o_ U_ L_ r_m13.cells r_m13.slots) (fun t_ k_ => castTop (ef_ckk m x) k_) ?_
  show Gl p.tables e below _ (s₁.setTop (mkF m 0 #[sR x, sU, sU, sU] []))
  rcases id hn with hn1 | hn1
  · have hcd : StrChars.Road.CodA (un1 k1) cd N vs := by have q := cod; rw [own_unl1 hn1] at q; exact q
    have hbd := un1_wid hk1.1.2
    have hle := un1_len k1
    show Gl p.tables e below _ (s₁.setTop (mkF m 0 #[sR x, sU, sU, sU] []))
    refine Gl.go (fun _ hr => zXS_aloadN X0.here hx rfl (hb hby d30_0) rfl rfl hr) ?_
    obtain ⟨a533, T533, h533, k533, X533, e533, E533, hS533, hk533, hZ533, hown533, st533⟩ := ldcS X0 hx hZ (own := "com/example/even_counter/evencounter/CounterId") hown (tw hw 134 rfl) hstr e0 hS0 (by have q := hk0; omega) (g := (mkF m 1 #[sR x, sU, sU, sU] [(.ref x)])) rfl (hb hby d30_1) (n := 112) (by decide) (by decide) (by decide) (by decide)
    have z534 : h0.size ≤ h533.size := E533.1
    refine Gl.go st533 ?_
    show Gl p.tables e below _ (T533.setTop (mkF m 3 #[sR x, sU, sU, sU] [(.ref a533), (.ref x)]))
    have zz535 : n0 ≤ h533.size := by omega
    refine gStaticN Gl.cl (y := y_26) (argsL := [(.ref x), (.ref a533)]) (rest := []) (mc := 0) (ms := 0) X533 hx hZ533 hown533 (mvT hZ533 (tw hw 87 rfl)) (mvT hZ533 (tw hw 88 rfl)) (mvT hZ533 (tw hw 89 rfl)) (mvT hZ533 (tw hw 90 rfl)) (by decide) (backOf (W := 0) (rq l Z a0 hw [] x a533 h533 n0 zz535 ) hZ533 (tw hw 90 rfl) (tw hw 89 rfl) (by decide) (by decide)) rfl (by rw [hml]; rfl) (lenOf pd_17 rfl) rfl (by exact Nat.le_of_eq rfl) (hb hby d30_3) rfl e533 (by decide) (by decide) ?_
    intro v535 T535 Lc535 hQ535 X535
    obtain ⟨rfl, Nq535, e535⟩ := hQ535
    have N535 := Fr.app N0 Nq535
    refine Gl.go (fun _ hr => zXT_pop X535.here hx rfl (hb hby d30_6) rfl rfl (zXS_iconst X535.here hx rfl (hb hby d30_7) (zXS_istoreN X535.here hx rfl (hb hby d30_8) rfl (l' := #[sR x, sI 0, sU, sU]) rfl (zXS_iconst X535.here hx rfl (hb hby d30_9) (zXS_istoreN X535.here hx rfl (hb hby d30_10) rfl (l' := #[sR x, sI 0, sI 0, sU]) rfl (zXS_iloadN X535.here hx rfl (hb hby d30_11) rfl (zXS_aloadN X535.here hx rfl (hb hby d30_12) rfl rfl hr))))))) ?_
    have Ec537 := (q8.ext E533)
    have Fc538 := (q9.ext E533)
    have Fc539 := (q10.ext E533)
    have Vc540 := (q11.ext E533)
    have Oc541 := (q2.ext E533)
    refine gVirtualN Gl.cl (y := y_30) (z := y_30) (b := x) (argsL := []) (rest := [(.int (0 : Int32))]) (mc := 0) (ms := 0) (Q := fun v h' L => v = some (.int (Int32.ofNat (un1 k1).length)) ∧ L = [] ∧ h' = h533) X535 hx hZ533 hown533 (mvT hZ533 (tw hw 96 rfl)) (mvT hZ533 (tw hw 97 rfl)) (notFace_of_selects (args := #[]) (mvT hZ533 (tw hw 99 rfl))) (mvT hZ533 (tw hw 99 rfl)) (mvT hZ533 (tw hw 98 rfl)) (by decide) Ec537 (StrChars.Road.lenW (W := 1) hZ533 hln (kI := 4) (tw hw 17 rfl) Ec537 Fc538 Fc539 Vc540 hcd hbd (q0.ext Oc541.2) P5 (by omega) (by decide) (by decide)) rfl (by rw [hml]; rfl) (lenOf pd_18 rfl) rfl (by exact Nat.le_of_eq rfl) (hb hby d30_13) rfl e535 (by decide) (by decide) ?_
    intro v536 T536 Lc536 hQ536 X536
    obtain ⟨rfl, rfl, e536⟩ := hQ536
    have N536 := own_fr_nil N535
    refine Gl.go (fun _ hr => zXS_icmpNo X536.here hx rfl (hb hby d30_16) rfl (XT.ii_ge_f (own_lt32 (a := 0) (b := (un1 k1).length) (by omega) (by omega))) (zXS_aloadN X536.here hx rfl (hb hby d30_19) rfl rfl (zXS_iloadN X536.here hx rfl (hb hby d30_20) rfl hr))) ?_
    have zz542 : n0 ≤ h533.size := by omega
    refine gVirtualN Gl.cl (y := y_25) (z := y_25) (b := x) (argsL := [(.int (0 : Int32))]) (rest := []) (mc := 0) (ms := 0) X536 hx hZ533 hown533 (mvT hZ533 (tw hw 135 rfl)) (mvT hZ533 (tw hw 136 rfl)) (notFace_of_selects (args := #[]) (mvT hZ533 (tw hw 138 rfl))) (mvT hZ533 (tw hw 138 rfl)) (mvT hZ533 (tw hw 137 rfl)) (by decide) Ec537 (backOf (W := 0) (cpa l Z a0 hw [] x t kb cd N vs (un1 k1) 0 k1 G1 G3 h533 n0 zz542 q0 (by assumption) Oc541 q3 (by assumption) q5 q6 q7 Ec537 Fc538 Fc539 Vc540 hcd (atc1 k1) hk1 (by omega) hbd) hZ533 (tw hw 139 rfl) (tw hw 18 rfl) (by decide) (by decide)) rfl (by rw [hml]; rfl) (lenOf pd_0 rfl) rfl (by exact Nat.le_of_eq rfl) (hb hby d30_21) rfl e536 (by decide) (by decide) ?_
    intro v542 T542 Lc542 hQ542 X542
    obtain ⟨rfl, Nq542, e542⟩ := hQ542
    have N542 := Fr.app N536 Nq542
    refine Gl.go (fun _ hr => zXS_istoreN X542.here hx rfl (hb hby d30_24) rfl (l' := #[sR x, sI 0, sI 0, sI (Int32.ofNat k1)]) rfl (zXS_iloadN X542.here hx rfl (hb hby d30_25) rfl hr)) ?_
    refine Gl.go (fun _ hr => zXS_ifYes X542.here hx rfl (pc0 := 26) (pc' := 43) rfl (hb hby d30_26) rfl (XT.i0_ne_t (own_ne32 (b := 0) (by omega) (by decide) (by omega))) (by decide) (by decide) hr) ?_
    show Gl p.tables e below _ (T542.setTop (mkF m 43 #[sR x, sI 0, sI 0, sI (Int32.ofNat k1)] []))
    obtain ⟨T543, ⟨lc543, N543, X543, e543⟩, st543⟩ : Sg (fun U => ∃ lc, Fr n0 lc ∧ Stand p l e r_m13 (s.setVm T533.vm) m #[(.ref x)] below meth c U lc 2 116 ∧ U.heap = h533) (mkF m 86 #[sR x, sI 0, sI 0, sI (Int32.ofNat k1)] []) p.tables e below (T542.setTop (mkF m 43 #[sR x, sI 0, sI 0, sI (Int32.ofNat k1)] [])) := by
      refine Sg.go (fun _ hr => zXS_iloadN X542.here hx rfl (hb hby d30_43) rfl hr) ?_
      refine Sg.go (X542.ldcInt hx hown533 (mvT hZ533 (tw hw 153 rfl)) rfl (hb hby d30_44)) ?_
      by_cases hc544 : (Int32.ofNat k1) < (55296 : Int32)
      · refine Sg.go (fun _ hr => zXS_icmpYes X542.here hx rfl (pc0 := 46) (pc' := 86) rfl (hb hby d30_46) rfl (XT.ii_lt_t hc544) (by decide) (by decide) hr) ?_
        show Sg _ _ p.tables e below (T542.setTop (mkF m 86 #[sR x, sI 0, sI 0, sI (Int32.ofNat k1)] []))
        exact ⟨T542, ⟨_, N542, X542, e542⟩, fun _ hr => hr⟩
      · refine Sg.go (fun _ hr => zXS_icmpNo X542.here hx rfl (hb hby d30_46) rfl (XT.ii_lt_f hc544) hr) ?_
        have hg0 : 55296 ≤ k1 := own_ge32 (b := 55296) (by omega) (by decide) hc544
        refine Sg.go (fun _ hr => zXS_iloadN X542.here hx rfl (hb hby d30_49) rfl hr) ?_
        refine Sg.go (X542.ldcInt hx hown533 (mvT hZ533 (tw hw 154 rfl)) rfl (hb hby d30_50)) ?_
        refine Sg.go (fun _ hr => zXS_icmpYes X542.here hx rfl (pc0 := 52) (pc' := 86) rfl (hb hby d30_52) rfl (XT.ii_gt_t (own_lt32 (a := 57343) (b := k1) (by omega) (by omega))) (by decide) (by decide) hr) ?_
        show Sg _ _ p.tables e below (T542.setTop (mkF m 86 #[sR x, sI 0, sI 0, sI (Int32.ofNat k1)] []))
        exact ⟨T542, ⟨_, N542, X542, e542⟩, fun _ hr => hr⟩
    refine Gl.go st543 ?_
    show Gl p.tables e below _ (T543.setTop (mkF m 86 #[sR x, sI 0, sI 0, sI (Int32.ofNat k1)] []))
    refine Gl.go (fun _ hr => zXS_iinc X543.here hx rfl (hb hby d30_86) rfl (l' := #[sR x, sI 1, sI 0, sI (Int32.ofNat k1)]) rfl (zXS_iloadN X543.here hx rfl (hb hby d30_89) rfl (zXS_iloadN X543.here hx rfl (hb hby d30_90) rfl hr))) ?_
    have zz545 : n0 ≤ h533.size := by omega
    refine gStaticN Gl.cl (y := y_22) (argsL := [(.int (Int32.ofNat k1))]) (rest := [(.int (0 : Int32))]) (mc := 0) (ms := 0) X543 hx hZ533 hown533 (mvT hZ533 (tw hw 155 rfl)) (mvT hZ533 (tw hw 156 rfl)) (mvT hZ533 (tw hw 149 rfl)) (mvT hZ533 (tw hw 157 rfl)) (by decide) (backOf (W := 1) (ccc l Z a0 hw [] k1 h533 n0 zz545 hk1.1.2) hZ533 (tw hw 157 rfl) (tw hw 149 rfl) (by decide) (by decide)) rfl (by rw [hml]; rfl) (lenOf pd_0 rfl) rfl (by exact Nat.le_of_eq rfl) (hb hby d30_91) rfl e543 (by decide) (by decide) ?_
    intro v545 T545 Lc545 hQ545 X545
    obtain ⟨rfl, Nq545, e545⟩ := hQ545
    have N545 := Fr.app N543 Nq545
    refine Gl.go (fun _ hr => zXS_iadd X545.here hx rfl (hb hby d30_94) rfl hr) ?_
    show Gl p.tables e below _ (T545.setTop (mkF m 95 #[sR x, sI 1, sI 0, sI (Int32.ofNat k1)] [(.int ((0 : Int32) + (Int32.ofNat (cpl k1))))]))
    rw [(show (0 : Int32) + Int32.ofNat (cpl k1) = Int32.ofNat (cpl k1) from Int32.zero_add _)]
    show Gl p.tables e below _ (T545.setTop (mkF m 95 #[sR x, sI 1, sI 0, sI (Int32.ofNat k1)] [(.int (Int32.ofNat (cpl k1)))]))
    refine Gl.go (fun _ hr => zXS_istoreN X545.here hx rfl (hb hby d30_95) rfl (l' := #[sR x, sI 1, sI (Int32.ofNat (cpl k1)), sI (Int32.ofNat k1)]) rfl (zXS_goto X545.here hx rfl (pc0 := 96) (pc' := 11) rfl (hb hby d30_96) (by decide) (by decide) (zXS_iloadN X545.here hx rfl (hb hby d30_11) rfl (zXS_aloadN X545.here hx rfl (hb hby d30_12) rfl rfl hr)))) ?_
    refine gVirtualN Gl.cl (y := y_30) (z := y_30) (b := x) (argsL := []) (rest := [(.int (Int32.ofNat (cpl k1)))]) (mc := 0) (ms := 0) (Q := fun v h' L => v = some (.int (Int32.ofNat (un1 k1).length)) ∧ L = [] ∧ h' = h533) X545 hx hZ533 hown533 (mvT hZ533 (tw hw 96 rfl)) (mvT hZ533 (tw hw 97 rfl)) (notFace_of_selects (args := #[]) (mvT hZ533 (tw hw 99 rfl))) (mvT hZ533 (tw hw 99 rfl)) (mvT hZ533 (tw hw 98 rfl)) (by decide) Ec537 (StrChars.Road.lenW (W := 1) hZ533 hln (kI := 4) (tw hw 17 rfl) Ec537 Fc538 Fc539 Vc540 hcd hbd (q0.ext Oc541.2) P5 (by omega) (by decide) (by decide)) rfl (by rw [hml]; rfl) (lenOf pd_18 rfl) rfl (by exact Nat.le_of_eq rfl) (hb hby d30_13) rfl e545 (by decide) (by decide) ?_
    intro v546 T546 Lc546 hQ546 X546
    obtain ⟨rfl, rfl, e546⟩ := hQ546
    have N546 := own_fr_nil N545
    refine Gl.go (fun _ hr => zXS_icmpYes X546.here hx rfl (pc0 := 16) (pc' := 99) rfl (hb hby d30_16) rfl (XT.ii_ge_t (own_nlt32 (a := (cpl k1)) (b := (un1 k1).length) (by omega) (by omega) (by omega))) (by decide) (by decide) (zXS_iloadN X546.here hx rfl (hb hby d30_99) rfl (zXS_ifNo X546.here hx rfl (hb hby d30_100) rfl (XT.i0_eq_f (by decide)) (zXS_iloadN X546.here hx rfl (hb hby d30_103) rfl (zXS_sipush X546.here hx rfl (hb hby d30_104) (zXS_icmpYes X546.here hx rfl (pc0 := 107) (pc' := 124) rfl (hb hby d30_107) rfl (XT.ii_le_t (by decide)) (by decide) (by decide) hr)))))) ?_
    obtain ⟨fs, hr, hrun, hended, hE⟩ := X546.leaveW hS533 (by have q := congrArg Array.size e546; have q2 := hk533; omega) (v := none) (fun _ => rfl)
    refine ⟨_, _, X546.returnOut hx Bd.returns (hb hby d30_124) hr, hrun, hended, _, _, rfl, ?_, ⟨hE.1, hE.2.1, hE.2.2.1, hE.2.2.2.mono (by decide) (by decide)⟩⟩
    show Qckk Z x t kb cd N vs nn k1 k2 G1 G3 h0 n0 _ T546.heap _
    rw [e546]
    exact ⟨rfl, N546, ((Keep.refl h0 []).ext E533)⟩
  · have hcd : StrChars.Road.CodA (un1 k1 ++ un1 k2) cd N vs := by have q := cod; rw [own_unl2 hn1] at q; exact q
    have hbd := un2_wid hk1.1.2 hk2.1.2
    have hle := un2_len k1 k2
    show Gl p.tables e below _ (s₁.setTop (mkF m 0 #[sR x, sU, sU, sU] []))
    refine Gl.go (fun _ hr => zXS_aloadN X0.here hx rfl (hb hby d30_0) rfl rfl hr) ?_
    obtain ⟨a547, T547, h547, k547, X547, e547, E547, hS547, hk547, hZ547, hown547, st547⟩ := ldcS X0 hx hZ (own := "com/example/even_counter/evencounter/CounterId") hown (tw hw 134 rfl) hstr e0 hS0 (by have q := hk0; omega) (g := (mkF m 1 #[sR x, sU, sU, sU] [(.ref x)])) rfl (hb hby d30_1) (n := 112) (by decide) (by decide) (by decide) (by decide)
    have z548 : h0.size ≤ h547.size := E547.1
    refine Gl.go st547 ?_
    show Gl p.tables e below _ (T547.setTop (mkF m 3 #[sR x, sU, sU, sU] [(.ref a547), (.ref x)]))
    have zz549 : n0 ≤ h547.size := by omega
    refine gStaticN Gl.cl (y := y_26) (argsL := [(.ref x), (.ref a547)]) (rest := []) (mc := 0) (ms := 0) X547 hx hZ547 hown547 (mvT hZ547 (tw hw 87 rfl)) (mvT hZ547 (tw hw 88 rfl)) (mvT hZ547 (tw hw 89 rfl)) (mvT hZ547 (tw hw 90 rfl)) (by decide) (backOf (W := 0) (rq l Z a0 hw [] x a547 h547 n0 zz549 ) hZ547 (tw hw 90 rfl) (tw hw 89 rfl) (by decide) (by decide)) rfl (by rw [hml]; rfl) (lenOf pd_17 rfl) rfl (by exact Nat.le_of_eq rfl) (hb hby d30_3) rfl e547 (by decide) (by decide) ?_
    intro v549 T549 Lc549 hQ549 X549
    obtain ⟨rfl, Nq549, e549⟩ := hQ549
    have N549 := Fr.app N0 Nq549
    refine Gl.go (fun _ hr => zXT_pop X549.here hx rfl (hb hby d30_6) rfl rfl (zXS_iconst X549.here hx rfl (hb hby d30_7) (zXS_istoreN X549.here hx rfl (hb hby d30_8) rfl (l' := #[sR x, sI 0, sU, sU]) rfl (zXS_iconst X549.here hx rfl (hb hby d30_9) (zXS_istoreN X549.here hx rfl (hb hby d30_10) rfl (l' := #[sR x, sI 0, sI 0, sU]) rfl (zXS_iloadN X549.here hx rfl (hb hby d30_11) rfl (zXS_aloadN X549.here hx rfl (hb hby d30_12) rfl rfl hr))))))) ?_
    have Ec551 := (q8.ext E547)
    have Fc552 := (q9.ext E547)
    have Fc553 := (q10.ext E547)
    have Vc554 := (q11.ext E547)
    have Oc555 := (q2.ext E547)
    refine gVirtualN Gl.cl (y := y_30) (z := y_30) (b := x) (argsL := []) (rest := [(.int (0 : Int32))]) (mc := 0) (ms := 0) (Q := fun v h' L => v = some (.int (Int32.ofNat (un1 k1 ++ un1 k2).length)) ∧ L = [] ∧ h' = h547) X549 hx hZ547 hown547 (mvT hZ547 (tw hw 96 rfl)) (mvT hZ547 (tw hw 97 rfl)) (notFace_of_selects (args := #[]) (mvT hZ547 (tw hw 99 rfl))) (mvT hZ547 (tw hw 99 rfl)) (mvT hZ547 (tw hw 98 rfl)) (by decide) Ec551 (StrChars.Road.lenW (W := 1) hZ547 hln (kI := 4) (tw hw 17 rfl) Ec551 Fc552 Fc553 Vc554 hcd hbd (q0.ext Oc555.2) P5 (by omega) (by decide) (by decide)) rfl (by rw [hml]; rfl) (lenOf pd_18 rfl) rfl (by exact Nat.le_of_eq rfl) (hb hby d30_13) rfl e549 (by decide) (by decide) ?_
    intro v550 T550 Lc550 hQ550 X550
    obtain ⟨rfl, rfl, e550⟩ := hQ550
    have N550 := own_fr_nil N549
    refine Gl.go (fun _ hr => zXS_icmpNo X550.here hx rfl (hb hby d30_16) rfl (XT.ii_ge_f (own_lt32 (a := 0) (b := (un1 k1 ++ un1 k2).length) (by omega) (by omega))) (zXS_aloadN X550.here hx rfl (hb hby d30_19) rfl rfl (zXS_iloadN X550.here hx rfl (hb hby d30_20) rfl hr))) ?_
    have zz556 : n0 ≤ h547.size := by omega
    refine gVirtualN Gl.cl (y := y_25) (z := y_25) (b := x) (argsL := [(.int (0 : Int32))]) (rest := []) (mc := 0) (ms := 0) X550 hx hZ547 hown547 (mvT hZ547 (tw hw 135 rfl)) (mvT hZ547 (tw hw 136 rfl)) (notFace_of_selects (args := #[]) (mvT hZ547 (tw hw 138 rfl))) (mvT hZ547 (tw hw 138 rfl)) (mvT hZ547 (tw hw 137 rfl)) (by decide) Ec551 (backOf (W := 0) (cpa l Z a0 hw [] x t kb cd N vs (un1 k1 ++ un1 k2) 0 k1 G1 G3 h547 n0 zz556 q0 (by assumption) Oc555 q3 (by assumption) q5 q6 q7 Ec551 Fc552 Fc553 Vc554 hcd (atc2 k1 k2) hk1 (by omega) hbd) hZ547 (tw hw 139 rfl) (tw hw 18 rfl) (by decide) (by decide)) rfl (by rw [hml]; rfl) (lenOf pd_0 rfl) rfl (by exact Nat.le_of_eq rfl) (hb hby d30_21) rfl e550 (by decide) (by decide) ?_
    intro v556 T556 Lc556 hQ556 X556
    obtain ⟨rfl, Nq556, e556⟩ := hQ556
    have N556 := Fr.app N550 Nq556
    refine Gl.go (fun _ hr => zXS_istoreN X556.here hx rfl (hb hby d30_24) rfl (l' := #[sR x, sI 0, sI 0, sI (Int32.ofNat k1)]) rfl (zXS_iloadN X556.here hx rfl (hb hby d30_25) rfl hr)) ?_
    refine Gl.go (fun _ hr => zXS_ifYes X556.here hx rfl (pc0 := 26) (pc' := 43) rfl (hb hby d30_26) rfl (XT.i0_ne_t (own_ne32 (b := 0) (by omega) (by decide) (by omega))) (by decide) (by decide) hr) ?_
    show Gl p.tables e below _ (T556.setTop (mkF m 43 #[sR x, sI 0, sI 0, sI (Int32.ofNat k1)] []))
    obtain ⟨T557, ⟨lc557, N557, X557, e557⟩, st557⟩ : Sg (fun U => ∃ lc, Fr n0 lc ∧ Stand p l e r_m13 (s.setVm T547.vm) m #[(.ref x)] below meth c U lc 2 116 ∧ U.heap = h547) (mkF m 86 #[sR x, sI 0, sI 0, sI (Int32.ofNat k1)] []) p.tables e below (T556.setTop (mkF m 43 #[sR x, sI 0, sI 0, sI (Int32.ofNat k1)] [])) := by
      refine Sg.go (fun _ hr => zXS_iloadN X556.here hx rfl (hb hby d30_43) rfl hr) ?_
      refine Sg.go (X556.ldcInt hx hown547 (mvT hZ547 (tw hw 153 rfl)) rfl (hb hby d30_44)) ?_
      by_cases hc558 : (Int32.ofNat k1) < (55296 : Int32)
      · refine Sg.go (fun _ hr => zXS_icmpYes X556.here hx rfl (pc0 := 46) (pc' := 86) rfl (hb hby d30_46) rfl (XT.ii_lt_t hc558) (by decide) (by decide) hr) ?_
        show Sg _ _ p.tables e below (T556.setTop (mkF m 86 #[sR x, sI 0, sI 0, sI (Int32.ofNat k1)] []))
        exact ⟨T556, ⟨_, N556, X556, e556⟩, fun _ hr => hr⟩
      · refine Sg.go (fun _ hr => zXS_icmpNo X556.here hx rfl (hb hby d30_46) rfl (XT.ii_lt_f hc558) hr) ?_
        have hg0 : 55296 ≤ k1 := own_ge32 (b := 55296) (by omega) (by decide) hc558
        refine Sg.go (fun _ hr => zXS_iloadN X556.here hx rfl (hb hby d30_49) rfl hr) ?_
        refine Sg.go (X556.ldcInt hx hown547 (mvT hZ547 (tw hw 154 rfl)) rfl (hb hby d30_50)) ?_
        refine Sg.go (fun _ hr => zXS_icmpYes X556.here hx rfl (pc0 := 52) (pc' := 86) rfl (hb hby d30_52) rfl (XT.ii_gt_t (own_lt32 (a := 57343) (b := k1) (by omega) (by omega))) (by decide) (by decide) hr) ?_
        show Sg _ _ p.tables e below (T556.setTop (mkF m 86 #[sR x, sI 0, sI 0, sI (Int32.ofNat k1)] []))
        exact ⟨T556, ⟨_, N556, X556, e556⟩, fun _ hr => hr⟩
    refine Gl.go st557 ?_
    show Gl p.tables e below _ (T557.setTop (mkF m 86 #[sR x, sI 0, sI 0, sI (Int32.ofNat k1)] []))
    refine Gl.go (fun _ hr => zXS_iinc X557.here hx rfl (hb hby d30_86) rfl (l' := #[sR x, sI 1, sI 0, sI (Int32.ofNat k1)]) rfl (zXS_iloadN X557.here hx rfl (hb hby d30_89) rfl (zXS_iloadN X557.here hx rfl (hb hby d30_90) rfl hr))) ?_
    have zz559 : n0 ≤ h547.size := by omega
    refine gStaticN Gl.cl (y := y_22) (argsL := [(.int (Int32.ofNat k1))]) (rest := [(.int (0 : Int32))]) (mc := 0) (ms := 0) X557 hx hZ547 hown547 (mvT hZ547 (tw hw 155 rfl)) (mvT hZ547 (tw hw 156 rfl)) (mvT hZ547 (tw hw 149 rfl)) (mvT hZ547 (tw hw 157 rfl)) (by decide) (backOf (W := 1) (ccc l Z a0 hw [] k1 h547 n0 zz559 hk1.1.2) hZ547 (tw hw 157 rfl) (tw hw 149 rfl) (by decide) (by decide)) rfl (by rw [hml]; rfl) (lenOf pd_0 rfl) rfl (by exact Nat.le_of_eq rfl) (hb hby d30_91) rfl e557 (by decide) (by decide) ?_
    intro v559 T559 Lc559 hQ559 X559
    obtain ⟨rfl, Nq559, e559⟩ := hQ559
    have N559 := Fr.app N557 Nq559
    refine Gl.go (fun _ hr => zXS_iadd X559.here hx rfl (hb hby d30_94) rfl hr) ?_
    show Gl p.tables e below _ (T559.setTop (mkF m 95 #[sR x, sI 1, sI 0, sI (Int32.ofNat k1)] [(.int ((0 : Int32) + (Int32.ofNat (cpl k1))))]))
    rw [(show (0 : Int32) + Int32.ofNat (cpl k1) = Int32.ofNat (cpl k1) from Int32.zero_add _)]
    show Gl p.tables e below _ (T559.setTop (mkF m 95 #[sR x, sI 1, sI 0, sI (Int32.ofNat k1)] [(.int (Int32.ofNat (cpl k1)))]))
    refine Gl.go (fun _ hr => zXS_istoreN X559.here hx rfl (hb hby d30_95) rfl (l' := #[sR x, sI 1, sI (Int32.ofNat (cpl k1)), sI (Int32.ofNat k1)]) rfl (zXS_goto X559.here hx rfl (pc0 := 96) (pc' := 11) rfl (hb hby d30_96) (by decide) (by decide) (zXS_iloadN X559.here hx rfl (hb hby d30_11) rfl (zXS_aloadN X559.here hx rfl (hb hby d30_12) rfl rfl hr)))) ?_
    refine gVirtualN Gl.cl (y := y_30) (z := y_30) (b := x) (argsL := []) (rest := [(.int (Int32.ofNat (cpl k1)))]) (mc := 0) (ms := 0) (Q := fun v h' L => v = some (.int (Int32.ofNat (un1 k1 ++ un1 k2).length)) ∧ L = [] ∧ h' = h547) X559 hx hZ547 hown547 (mvT hZ547 (tw hw 96 rfl)) (mvT hZ547 (tw hw 97 rfl)) (notFace_of_selects (args := #[]) (mvT hZ547 (tw hw 99 rfl))) (mvT hZ547 (tw hw 99 rfl)) (mvT hZ547 (tw hw 98 rfl)) (by decide) Ec551 (StrChars.Road.lenW (W := 1) hZ547 hln (kI := 4) (tw hw 17 rfl) Ec551 Fc552 Fc553 Vc554 hcd hbd (q0.ext Oc555.2) P5 (by omega) (by decide) (by decide)) rfl (by rw [hml]; rfl) (lenOf pd_18 rfl) rfl (by exact Nat.le_of_eq rfl) (hb hby d30_13) rfl e559 (by decide) (by decide) ?_
    intro v560 T560 Lc560 hQ560 X560
    obtain ⟨rfl, rfl, e560⟩ := hQ560
    have N560 := own_fr_nil N559
    refine Gl.go (fun _ hr => zXS_icmpNo X560.here hx rfl (hb hby d30_16) rfl (XT.ii_ge_f (own_lt32 (a := (cpl k1)) (b := (un1 k1 ++ un1 k2).length) (by omega) (by omega))) (zXS_aloadN X560.here hx rfl (hb hby d30_19) rfl rfl (zXS_iloadN X560.here hx rfl (hb hby d30_20) rfl hr))) ?_
    have zz561 : n0 ≤ h547.size := by omega
    refine gVirtualN Gl.cl (y := y_25) (z := y_25) (b := x) (argsL := [(.int (Int32.ofNat (cpl k1)))]) (rest := []) (mc := 0) (ms := 0) X560 hx hZ547 hown547 (mvT hZ547 (tw hw 135 rfl)) (mvT hZ547 (tw hw 136 rfl)) (notFace_of_selects (args := #[]) (mvT hZ547 (tw hw 138 rfl))) (mvT hZ547 (tw hw 138 rfl)) (mvT hZ547 (tw hw 137 rfl)) (by decide) Ec551 (backOf (W := 0) (cpa l Z a0 hw [] x t kb cd N vs (un1 k1 ++ un1 k2) (cpl k1) k2 G1 G3 h547 n0 zz561 q0 (by assumption) Oc555 q3 (by assumption) q5 q6 q7 Ec551 Fc552 Fc553 Vc554 hcd (atc3 k1 k2) hk2 (by omega) hbd) hZ547 (tw hw 139 rfl) (tw hw 18 rfl) (by decide) (by decide)) rfl (by rw [hml]; rfl) (lenOf pd_0 rfl) rfl (by exact Nat.le_of_eq rfl) (hb hby d30_21) rfl e560 (by decide) (by decide) ?_
    intro v561 T561 Lc561 hQ561 X561
    obtain ⟨rfl, Nq561, e561⟩ := hQ561
    have N561 := Fr.app N560 Nq561
    refine Gl.go (fun _ hr => zXS_istoreN X561.here hx rfl (hb hby d30_24) rfl (l' := #[sR x, sI 1, sI (Int32.ofNat (cpl k1)), sI (Int32.ofNat k2)]) rfl (zXS_iloadN X561.here hx rfl (hb hby d30_25) rfl hr)) ?_
    refine Gl.go (fun _ hr => zXS_ifYes X561.here hx rfl (pc0 := 26) (pc' := 43) rfl (hb hby d30_26) rfl (XT.i0_ne_t (own_ne32 (b := 0) (by omega) (by decide) (by omega))) (by decide) (by decide) hr) ?_
    show Gl p.tables e below _ (T561.setTop (mkF m 43 #[sR x, sI 1, sI (Int32.ofNat (cpl k1)), sI (Int32.ofNat k2)] []))
    obtain ⟨T562, ⟨lc562, N562, X562, e562⟩, st562⟩ : Sg (fun U => ∃ lc, Fr n0 lc ∧ Stand p l e r_m13 (s.setVm T547.vm) m #[(.ref x)] below meth c U lc 2 116 ∧ U.heap = h547) (mkF m 86 #[sR x, sI 1, sI (Int32.ofNat (cpl k1)), sI (Int32.ofNat k2)] []) p.tables e below (T561.setTop (mkF m 43 #[sR x, sI 1, sI (Int32.ofNat (cpl k1)), sI (Int32.ofNat k2)] [])) := by
      refine Sg.go (fun _ hr => zXS_iloadN X561.here hx rfl (hb hby d30_43) rfl hr) ?_
      refine Sg.go (X561.ldcInt hx hown547 (mvT hZ547 (tw hw 153 rfl)) rfl (hb hby d30_44)) ?_
      by_cases hc563 : (Int32.ofNat k2) < (55296 : Int32)
      · refine Sg.go (fun _ hr => zXS_icmpYes X561.here hx rfl (pc0 := 46) (pc' := 86) rfl (hb hby d30_46) rfl (XT.ii_lt_t hc563) (by decide) (by decide) hr) ?_
        show Sg _ _ p.tables e below (T561.setTop (mkF m 86 #[sR x, sI 1, sI (Int32.ofNat (cpl k1)), sI (Int32.ofNat k2)] []))
        exact ⟨T561, ⟨_, N561, X561, e561⟩, fun _ hr => hr⟩
      · refine Sg.go (fun _ hr => zXS_icmpNo X561.here hx rfl (hb hby d30_46) rfl (XT.ii_lt_f hc563) hr) ?_
        have hg1 : 55296 ≤ k2 := own_ge32 (b := 55296) (by omega) (by decide) hc563
        refine Sg.go (fun _ hr => zXS_iloadN X561.here hx rfl (hb hby d30_49) rfl hr) ?_
        refine Sg.go (X561.ldcInt hx hown547 (mvT hZ547 (tw hw 154 rfl)) rfl (hb hby d30_50)) ?_
        refine Sg.go (fun _ hr => zXS_icmpYes X561.here hx rfl (pc0 := 52) (pc' := 86) rfl (hb hby d30_52) rfl (XT.ii_gt_t (own_lt32 (a := 57343) (b := k2) (by omega) (by omega))) (by decide) (by decide) hr) ?_
        show Sg _ _ p.tables e below (T561.setTop (mkF m 86 #[sR x, sI 1, sI (Int32.ofNat (cpl k1)), sI (Int32.ofNat k2)] []))
        exact ⟨T561, ⟨_, N561, X561, e561⟩, fun _ hr => hr⟩
    refine Gl.go st562 ?_
    show Gl p.tables e below _ (T562.setTop (mkF m 86 #[sR x, sI 1, sI (Int32.ofNat (cpl k1)), sI (Int32.ofNat k2)] []))
    refine Gl.go (fun _ hr => zXS_iinc X562.here hx rfl (hb hby d30_86) rfl (l' := #[sR x, sI 2, sI (Int32.ofNat (cpl k1)), sI (Int32.ofNat k2)]) rfl (zXS_iloadN X562.here hx rfl (hb hby d30_89) rfl (zXS_iloadN X562.here hx rfl (hb hby d30_90) rfl hr))) ?_
    have zz564 : n0 ≤ h547.size := by omega
    refine gStaticN Gl.cl (y := y_22) (argsL := [(.int (Int32.ofNat k2))]) (rest := [(.int (Int32.ofNat (cpl k1)))]) (mc := 0) (ms := 0) X562 hx hZ547 hown547 (mvT hZ547 (tw hw 155 rfl)) (mvT hZ547 (tw hw 156 rfl)) (mvT hZ547 (tw hw 149 rfl)) (mvT hZ547 (tw hw 157 rfl)) (by decide) (backOf (W := 1) (ccc l Z a0 hw [] k2 h547 n0 zz564 hk2.1.2) hZ547 (tw hw 157 rfl) (tw hw 149 rfl) (by decide) (by decide)) rfl (by rw [hml]; rfl) (lenOf pd_0 rfl) rfl (by exact Nat.le_of_eq rfl) (hb hby d30_91) rfl e562 (by decide) (by decide) ?_
    intro v564 T564 Lc564 hQ564 X564
    obtain ⟨rfl, Nq564, e564⟩ := hQ564
    have N564 := Fr.app N562 Nq564
    refine Gl.go (fun _ hr => zXS_iadd X564.here hx rfl (hb hby d30_94) rfl hr) ?_
    show Gl p.tables e below _ (T564.setTop (mkF m 95 #[sR x, sI 2, sI (Int32.ofNat (cpl k1)), sI (Int32.ofNat k2)] [(.int ((Int32.ofNat (cpl k1)) + (Int32.ofNat (cpl k2))))]))
    rw [(own_add32 (cpl k1) (cpl k2))]
    show Gl p.tables e below _ (T564.setTop (mkF m 95 #[sR x, sI 2, sI (Int32.ofNat (cpl k1)), sI (Int32.ofNat k2)] [(.int (Int32.ofNat (cpl k1 + cpl k2)))]))
    refine Gl.go (fun _ hr => zXS_istoreN X564.here hx rfl (hb hby d30_95) rfl (l' := #[sR x, sI 2, sI (Int32.ofNat (cpl k1 + cpl k2)), sI (Int32.ofNat k2)]) rfl (zXS_goto X564.here hx rfl (pc0 := 96) (pc' := 11) rfl (hb hby d30_96) (by decide) (by decide) (zXS_iloadN X564.here hx rfl (hb hby d30_11) rfl (zXS_aloadN X564.here hx rfl (hb hby d30_12) rfl rfl hr)))) ?_
    refine gVirtualN Gl.cl (y := y_30) (z := y_30) (b := x) (argsL := []) (rest := [(.int (Int32.ofNat (cpl k1 + cpl k2)))]) (mc := 0) (ms := 0) (Q := fun v h' L => v = some (.int (Int32.ofNat (un1 k1 ++ un1 k2).length)) ∧ L = [] ∧ h' = h547) X564 hx hZ547 hown547 (mvT hZ547 (tw hw 96 rfl)) (mvT hZ547 (tw hw 97 rfl)) (notFace_of_selects (args := #[]) (mvT hZ547 (tw hw 99 rfl))) (mvT hZ547 (tw hw 99 rfl)) (mvT hZ547 (tw hw 98 rfl)) (by decide) Ec551 (StrChars.Road.lenW (W := 1) hZ547 hln (kI := 4) (tw hw 17 rfl) Ec551 Fc552 Fc553 Vc554 hcd hbd (q0.ext Oc555.2) P5 (by omega) (by decide) (by decide)) rfl (by rw [hml]; rfl) (lenOf pd_18 rfl) rfl (by exact Nat.le_of_eq rfl) (hb hby d30_13) rfl e564 (by decide) (by decide) ?_
    intro v565 T565 Lc565 hQ565 X565
    obtain ⟨rfl, rfl, e565⟩ := hQ565
    have N565 := own_fr_nil N564
    refine Gl.go (fun _ hr => zXS_icmpYes X565.here hx rfl (pc0 := 16) (pc' := 99) rfl (hb hby d30_16) rfl (XT.ii_ge_t (own_nlt32 (a := (cpl k1 + cpl k2)) (b := (un1 k1 ++ un1 k2).length) (by omega) (by omega) (by omega))) (by decide) (by decide) (zXS_iloadN X565.here hx rfl (hb hby d30_99) rfl (zXS_ifNo X565.here hx rfl (hb hby d30_100) rfl (XT.i0_eq_f (by decide)) (zXS_iloadN X565.here hx rfl (hb hby d30_103) rfl (zXS_sipush X565.here hx rfl (hb hby d30_104) (zXS_icmpYes X565.here hx rfl (pc0 := 107) (pc' := 124) rfl (hb hby d30_107) rfl (XT.ii_le_t (by decide)) (by decide) (by decide) hr)))))) ?_
    obtain ⟨fs, hr, hrun, hended, hE⟩ := X565.leaveW hS547 (by have q := congrArg Array.size e565; have q2 := hk547; omega) (v := none) (fun _ => rfl)
    refine ⟨_, _, X565.returnOut hx Bd.returns (hb hby d30_124) hr, hrun, hended, _, _, rfl, ?_, ⟨hE.1, hE.2.1, hE.2.2.1, hE.2.2.2.mono (by decide) (by decide)⟩⟩
    show Qckk Z x t kb cd N vs nn k1 k2 G1 G3 h0 n0 _ T565.heap _
    rw [e565]
    exact ⟨rfl, N565, ((Keep.refl h0 []).ext E547)⟩
def Qrec (Z : State) (a : Addr) (h0 : Heap) (n0 : Nat) (v : Option Value) (h : Heap) (L : List Loc) : Prop := v = none ∧ Fr n0 L ∧ h = h0
theorem pn_7 : plainName "java/lang/Record" = true := by first | (simp [plainName, overriddenIn]; done) | decide +kernel
theorem ef_rec (m : MethodId) (x0 : Addr) : entryFrame m #[(.ref x0)] 1 = mkF m 0 #[sR x0] [] := by first | (simp [entryFrame, mkF, argsToLocals, Value.category]; done) | rfl
theorem d18_0 : decode jdk_30_method_1_code 0 = .ok (.aload_n 0, 1) := by decide +kernel
theorem d18_1 : decode jdk_30_method_1_code 1 = .ok (.invokespecial 1, 3) := by decide +kernel
theorem d18_4 : decode jdk_30_method_1_code 4 = .ok (.return_, 1) := by decide +kernel
set_option maxRecDepth 65536 in
set_option maxHeartbeats 40000000 in
theorem rec (l : Launch) (Z : State) (a0 : Array Value) (hw : ∀ d ∈ tables_1, d.before a0 Z = true) (ws : List Jvm.Cond) (a : Addr) (h0 : Heap) (n0 : Nat) (Z0 : n0 ≤ h0.size) :
    MetFree l y_33 (head1 (Jvm.Cond.code y_33 jdk_30_method_1_code 1 none :: ws) r_m14) (fun a_ U_ => a_ = #[(.ref a)] ∧ Z.Warmed39 U_.vm ∧ U_.heap = h0) (fun _ _ _ _ _ => True) (fun _ U_ o_ V_ => ∃ v_ L_, o_ = .returned v_ ∧ Qrec Z a h0 n0 v_ V_.heap L_ ∧ FrameEnd U_ o_ V_ L_ r_m14.cells r_m14.slots) := by
  refine MetFree.of_bodySF (plainFor_of_name pn_7) hisR ?_
  intro p e s m args below meth c s₁ Bd hml0 hP hK
  obtain ⟨rfl, hZ, hh⟩ := hP
  have hx := Bd.exec
  have hby := Bd.bytes
  have hml : c.maxLocals = 1 := hml0
  have hown : s.vm.findClass "java/lang/Record" = some m.cls := findClass_of_methodNamed Bd.named
  have hnm := (name_of_methodNamed Bd.named Bd.method).1
  have X0 : Stand p l e r_m14 s m #[(.ref a)] below meth c s₁ [] 0 0 := Stand.of_body Bd
  have e0 : s₁.heap = h0 := by rw [← hh, Bd.state]; rfl
  have N0 := Fr.nil n0
  refine Gl.go (A := s₁.setTop (entryFrame m #[(.ref a)] 1)) (P := fun o_ U_ => ∃ v_ L_, o_ = .returned v_ ∧ Qrec Z a h0 n0 v_ U_.heap L_ ∧ FrameEnd s o_ U_ L_ r_m14.cells r_m14.slots) (fun t_ k_ => castTop (ef_rec m a) k_) ?_
  show Gl p.tables e below _ (s₁.setTop (mkF m 0 #[sR a] []))
  refine Gl.go (fun _ hr => zXS_aloadN X0.here hx rfl (hb hby d18_0) rfl rfl hr) ?_
  refine gInit Gl.cl (W := 0) X0 hx hZ hown (tw hw 80 rfl) (tw hw 28 rfl) (tw hw 29 rfl) e0 rfl (by rw [hml]; rfl) rfl (hb hby d18_1) (by decide) (by exact Nat.le_of_eq rfl) (by decide) ?_
  intro T566 X566 e566
  obtain ⟨fs, hr, hrun, hended, hW, hsame⟩ := X566.leave (v := none) (fun _ => rfl)
  refine ⟨_, _, X566.returnOut hx Bd.returns (hb hby d18_4) hr, hrun, hended, _, _, rfl, ?_, ⟨⟨_, rfl⟩, hW, hsame.mono (by decide) (by decide)⟩⟩
  show Qrec Z a h0 n0 _ T566.heap _
  rw [e566]
  exact ⟨rfl, N0, rfl⟩
def Qcin (Z : State) (a : Addr) (x : Addr) (t : Addr) (kb : ClassId) (N : Int32) (vs : List Value) (nn : Nat) (k1 : Nat) (k2 : Nat) (y : Addr) (u : Addr) (kd : ClassId) (cd : Int32) (M : Int32) (ws_ : List Value) (mm : Nat) (l1 : Nat) (l2 : Nat) (G1 : Int32) (G3 : Value) (h0 : Heap) (n0 : Nat) (v : Option Value) (h : Heap) (L : List Loc) : Prop := v = none ∧ Fr n0 L ∧ Keep h0 h [a] ∧ (Exa Z h a "com/example/even_counter/evencounter/CounterId") ∧ (Fld Z h a "com/example/even_counter/evencounter/CounterId" "name" "Ljava/lang/String;" (.ref x)) ∧ (Fld Z h a "com/example/even_counter/evencounter/CounterId" "key" "Ljava/lang/String;" (.ref y))
theorem ef_cin (m : MethodId) (x0 : Addr) (x1 : Addr) (x2 : Addr) : entryFrame m #[(.ref x0), (.ref x1), (.ref x2)] 3 = mkF m 0 #[sR x0, sR x1, sR x2] [] := by first | (simp [entryFrame, mkF, argsToLocals, Value.category]; done) | rfl
theorem d17_0 : decode prog_3_method_1_code 0 = .ok (.aload_n 0, 1) := by decide +kernel
theorem d17_1 : decode prog_3_method_1_code 1 = .ok (.invokespecial 1, 3) := by decide +kernel
theorem pd_19 : parseMethodDescriptor "()V" = some ⟨[], none⟩ := by decide +kernel
theorem d17_4 : decode prog_3_method_1_code 4 = .ok (.aload_n 1, 1) := by decide +kernel
theorem d17_5 : decode prog_3_method_1_code 5 = .ok (.invokestatic 7, 3) := by decide +kernel
theorem pd_20 : parseMethodDescriptor "(Ljava/lang/String;)V" = some ⟨[(.object "java/lang/String")], none⟩ := by decide +kernel
theorem d17_8 : decode prog_3_method_1_code 8 = .ok (.aload_n 2, 1) := by decide +kernel
theorem d17_9 : decode prog_3_method_1_code 9 = .ok (.invokestatic 13, 3) := by decide +kernel
theorem d17_12 : decode prog_3_method_1_code 12 = .ok (.aload_n 0, 1) := by decide +kernel
theorem d17_13 : decode prog_3_method_1_code 13 = .ok (.aload_n 1, 1) := by decide +kernel
theorem d17_14 : decode prog_3_method_1_code 14 = .ok (.putfield 16, 3) := by decide +kernel
theorem d17_17 : decode prog_3_method_1_code 17 = .ok (.aload_n 0, 1) := by decide +kernel
theorem d17_18 : decode prog_3_method_1_code 18 = .ok (.aload_n 2, 1) := by decide +kernel
theorem d17_19 : decode prog_3_method_1_code 19 = .ok (.putfield 20, 3) := by decide +kernel
theorem d17_22 : decode prog_3_method_1_code 22 = .ok (.return_, 1) := by decide +kernel
set_option maxRecDepth 65536 in
set_option maxHeartbeats 40000000 in
theorem cin (l : Launch) (Z : State) (a0 : Array Value) (hw : ∀ d ∈ tables_1, d.before a0 Z = true) (ws : List Jvm.Cond) (a : Addr) (x : Addr) (t : Addr) (kb : ClassId) (N : Int32) (vs : List Value) (nn : Nat) (k1 : Nat) (k2 : Nat) (y : Addr) (u : Addr) (kd : ClassId) (cd : Int32) (M : Int32) (ws_ : List Value) (mm : Nat) (l1 : Nat) (l2 : Nat) (G1 : Int32) (G3 : Value) (h0 : Heap) (n0 : Nat) (Z0 : n0 ≤ h0.size) (q0 : Sta Z Z.heap "java/lang/String" "COMPACT_STRINGS" "Z" (.int G1)) (P5 : ¬ (G1 = (0 : Int32))) (q2 : Old Z n0 h0) (q3 : Sta Z Z.heap "jdk/internal/util/Preconditions" "SIOOBE_FORMATTER" "Ljava/util/function/BiFunction;" G3) (rG3 : G3.isRef = true) (q5 : Sta Z Z.heap "java/lang/StringUTF16" "$assertionsDisabled" "Z" (.int (1 : Int32))) (q6 : Sta Z Z.heap "java/lang/StringUTF16" "HI_BYTE_SHIFT" "I" (.int (0 : Int32))) (q7 : Sta Z Z.heap "java/lang/StringUTF16" "LO_BYTE_SHIFT" "I" (.int (8 : Int32))) (q8 : @LE.le Nat instLENat n0 a) (q9 : Exa Z h0 a "com/example/even_counter/evencounter/CounterId") (q10 : Fld Z h0 a "com/example/even_counter/evencounter/CounterId" "name" "Ljava/lang/String;" .null) (q11 : Fld Z h0 a "com/example/even_counter/evencounter/CounterId" "key" "Ljava/lang/String;" .null) (q12 : Exa Z h0 x "java/lang/String") (q13 : Fld Z h0 x "java/lang/String" "value" "[B" (.ref t)) (q14 : Fld Z h0 x "java/lang/String" "coder" "B" (.int (0 : Int32))) (q15 : Arv Z h0 t kb .byte N vs (.int 0)) (cod_x : StrChars.Road.CodA (unl k1 k2 nn) 0 N vs) (hn_x : nn = 1 ∨ nn = 2) (hk1 : NmK k1) (hk2 : NmK k2) (q20 : Exa Z h0 y "java/lang/String") (q21 : Fld Z h0 y "java/lang/String" "value" "[B" (.ref u)) (q22 : Fld Z h0 y "java/lang/String" "coder" "B" (.int cd)) (q23 : Arv Z h0 u kd .byte M ws_ (.int 0)) (cod_y : StrChars.Road.CodA (unl l1 l2 mm) cd M ws_) (hn_y : mm = 1 ∨ mm = 2) (hl1 : KeyC l1) (hl2 : KeyC l2) :
    MetFree l y_34 (head1 (Jvm.Cond.code y_34 prog_3_method_1_code 3 none :: ws) r_m15) (fun a_ U_ => a_ = #[(.ref a), (.ref x), (.ref y)] ∧ Z.Warmed39 U_.vm ∧ U_.heap = h0) (fun _ _ _ _ _ => True) (fun _ U_ o_ V_ => ∃ v_ L_, o_ = .returned v_ ∧ Qcin Z a x t kb N vs nn k1 k2 y u kd cd M ws_ mm l1 l2 G1 G3 h0 n0 v_ V_.heap L_ ∧ ReturnedEndW U_ o_ V_ L_ r_m15.cells r_m15.slots) := by
  refine MetFree.of_bodySF (plainFor_of_name pn_6) hisR ?_
  intro p e s m args below meth c s₁ Bd hml0 hP hK
  obtain ⟨rfl, hZ, hh⟩ := hP
  have hx := Bd.exec
  have hby := Bd.bytes
  have hml : c.maxLocals = 3 := hml0
  have hown : s.vm.findClass "com/example/even_counter/evencounter/CounterId" = some m.cls := findClass_of_methodNamed Bd.named
  have hnm := (name_of_methodNamed Bd.named Bd.method).1
  have X0 : Stand p l e r_m15 (s.setVm s.vm) m #[(.ref a), (.ref x), (.ref y)] below meth c s₁ [] 0 0 := Stand.of_body Bd
  have e0 : s₁.heap = h0 := by rw [← hh, Bd.state]; rfl
  have N0 := Fr.nil n0
  have hS0 : s.Since s.vm h0.size := (State.WarmedH.refl s).since _
  have hk0 : h0.size ≤ h0.size := Nat.le_refl _
  have zo := q2.1
  have lt567 := own_alt q9.lt
  have lt568 := own_alt q10.lt
  have lt569 := own_alt q11.lt
  have lt570 := own_alt q12.lt
  have lt571 := own_alt q13.lt
  have lt572 := own_alt q14.lt
  have lt573 := own_alt q15.lt
  have lt574 := own_alt q20.lt
  have lt575 := own_alt q21.lt
  have lt576 := own_alt q22.lt
  have lt577 := own_alt q23.lt
  have hstr : ∀ d ∈ Bundle.stringAtoms, d.before a0 Z = true := fun d hd => hw d (own_hstr d hd)
  refine Gl.go (A := s₁.setTop (entryFrame m #[(.ref a), (.ref x), (.ref y)] 3)) (P := fun o_ U_ => ∃ v_ L_, o_ = .returned v_ ∧ Qcin Z a x t kb N vs nn k1 k2 y u kd cd M ws_ mm l1 l2 G1 G3 h0 n0 v_ U_.heap L_ ∧ ReturnedEndW s o_ U_ L_ r_m15.cells r_m15.slots) (fun t_ k_ => castTop (ef_cin m a x y) k_) ?_
  show Gl p.tables e below _ (s₁.setTop (mkF m 0 #[sR a, sR x, sR y] []))
  refine Gl.go (fun _ hr => zXS_aloadN X0.here hx rfl (hb hby d17_0) rfl rfl hr) ?_
  have zz578 : n0 ≤ h0.size := by omega
  refine gSpecialN Gl.cl (y := y_33) (b := a) (argsL := []) (rest := []) (mc := 0) (ms := 0) X0 hx hZ hown rfl (mvT hZ (tw hw 75 rfl)) (mvT hZ (tw hw 76 rfl)) (mvT hZ (tw hw 79 rfl)) (by decide) (backOf (W := 0) (rec l Z a0 hw [] a h0 n0 zz578 ) hZ (tw hw 79 rfl) (tw hw 78 rfl) (by decide) (by decide)) rfl (by rw [hml]; rfl) (lenOf pd_19 rfl) rfl (by exact Nat.le_of_eq rfl) (hb hby d17_1) rfl e0 (by decide) (by decide) ?_
  intro v578 T578 Lc578 hQ578 X578
  obtain ⟨rfl, Nq578, e578⟩ := hQ578
  have N578 := Fr.app N0 Nq578
  refine Gl.go (fun _ hr => zXS_aloadN X578.here hx rfl (hb hby d17_4) rfl rfl hr) ?_
  have zz579 : n0 ≤ h0.size := by omega
  refine gStaticS Gl.cl (y := y_28) (argsL := [(.ref x)]) (rest := []) (mc := 2) (ms := 120) X578 hx hZ hS0 (by have q := hk0; omega) hown (mvT hZ (tw hw 81 rfl)) (mvT hZ (tw hw 82 rfl)) (mvT hZ (tw hw 12 rfl)) (mvT hZ (tw hw 83 rfl)) (by decide) (backOfS (W := 0) (ckn l Z a0 hw [] x t kb N vs nn k1 k2 G1 G3 h0 n0 zz579 q0 (by assumption) q2 q3 (by assumption) q12 q13 q14 q15 cod_x hn_x hk1 hk2) hZ (tw hw 83 rfl) (tw hw 12 rfl) (by decide) (by decide)) rfl (by rw [hml]; rfl) (lenOf pd_20 rfl) rfl (by exact Nat.le_of_eq rfl) (hb hby d17_5) rfl e578 (by decide) (by decide) ?_
  intro v579 T579 Lc579 hQ579 X579 hS579 hZ579 hown579 hk579
  obtain ⟨rfl, Nq579, K579⟩ := hQ579
  have z580 : h0.size ≤ T579.heap.size := K579.1
  have N579 := Fr.app N578 Nq579
  refine Gl.go (fun _ hr => zXS_aloadN X579.here hx rfl (hb hby d17_8) rfl rfl hr) ?_
  have Oc582 := (q2.keep K579 all0)
  have Ec583 := (q20.keep K579)
  have Fc584 := (q21.keep K579 nin0)
  have Fc585 := (q22.keep K579 nin0)
  have Vc586 := (q23.keep K579 nin0)
  have zz581 : n0 ≤ T579.heap.size := by omega
  refine gStaticS Gl.cl (y := y_32) (argsL := [(.ref y)]) (rest := []) (mc := 2) (ms := 116) X579 hx hZ579 hS579 (by have q := hk579; omega) hown579 (mvT hZ579 (tw hw 131 rfl)) (mvT hZ579 (tw hw 132 rfl)) (mvT hZ579 (tw hw 12 rfl)) (mvT hZ579 (tw hw 133 rfl)) (by decide) (backOfS (W := 0) (ckk l Z a0 hw [] y u kd cd M ws_ mm l1 l2 G1 G3 T579.heap n0 zz581 q0 (by assumption) Oc582 q3 (by assumption) q5 q6 q7 Ec583 Fc584 Fc585 Vc586 cod_y hn_y hl1 hl2) hZ579 (tw hw 133 rfl) (tw hw 12 rfl) (by decide) (by decide)) rfl (by rw [hml]; rfl) (lenOf pd_20 rfl) rfl (by exact Nat.le_of_eq rfl) (hb hby d17_9) rfl (rfl : T579.heap = T579.heap) (by decide) (by decide) ?_
  intro v581 T581 Lc581 hQ581 X581 hS581 hZ581 hown581 hk581
  obtain ⟨rfl, Nq581, K581⟩ := hQ581
  have z587 : T579.heap.size ≤ T581.heap.size := K581.1
  have N581 := Fr.app N579 Nq581
  refine Gl.go (fun _ hr => zXS_aloadN X581.here hx rfl (hb hby d17_12) rfl rfl (zXS_aloadN X581.here hx rfl (hb hby d17_13) rfl rfl hr)) ?_
  have Fc588 := ((q10.keep K579 nin0).keep K581 nin0)
  have Ec589 := ((q9.keep K579).keep K581)
  refine gPutF (host := "") Gl.cl X581 hx hZ581 hown581 (Or.inl (tw hw 159 rfl)) Via.refl (rfl : T581.heap = T581.heap) Fc588 Ec589 (Or.inr ⟨(tw hw 160 rfl), rfl, hnm⟩) (tw hw 11 rfl) (ty := (.object "java/lang/String")) (by decide) rfl rfl rfl rfl (hb hby d17_14) ?_
  intro T590 h590 X590 e590 W590
  have z591 : T581.heap.size ≤ h590.size := (Keep.of_wr W590).1
  have Fw590 := Fc588.same W590
  have om592 : @LE.le Nat instLENat n0 a := by omega
  have N590 := Fr.snoc X590 N581 (own_ale om592)
  refine Gl.go (fun _ hr => zXS_aloadN X590.here hx rfl (hb hby d17_17) rfl rfl (zXS_aloadN X590.here hx rfl (hb hby d17_18) rfl rfl hr)) ?_
  have Fc593 := (((q11.keep K579 nin0).keep K581 nin0).other W590 (Or.inr (slot_ne (Or.inr (tw hw 162 rfl)) (Or.inr (tw hw 160 rfl)) (by decide) (t := (.object "java/lang/String")) (t' := (.object "java/lang/String")) (by decide) (by decide))))
  have Ec594 := (Ec589.wr W590)
  refine gPutF (host := "") Gl.cl X590 hx hZ581 hown581 (Or.inl (tw hw 161 rfl)) Via.refl e590 Fc593 Ec594 (Or.inr ⟨(tw hw 162 rfl), rfl, hnm⟩) (tw hw 11 rfl) (ty := (.object "java/lang/String")) (by decide) rfl rfl rfl rfl (hb hby d17_19) ?_
  intro T595 h595 X595 e595 W595
  have z596 : h590.size ≤ h595.size := (Keep.of_wr W595).1
  have Fw595 := Fc593.same W595
  have N595 := Fr.snoc X595 N590 (own_ale om592)
  have Ec597 := (Ec594.wr W595)
  have Fc598 := (Fw590.other W595 (Or.inr (slot_ne (Or.inr (tw hw 160 rfl)) (Or.inr (tw hw 162 rfl)) (by decide) (t := (.object "java/lang/String")) (t' := (.object "java/lang/String")) (by decide) (by decide))))
  obtain ⟨fs, hr, hrun, hended, hE⟩ := X595.leaveW hS581 (by have q := congrArg Array.size e595; have q2 := hk581; omega) (v := none) (fun _ => rfl)
  refine ⟨_, _, X595.returnOut hx Bd.returns (hb hby d17_22) hr, hrun, hended, _, _, rfl, ?_, ⟨hE.1, hE.2.1, hE.2.2.1, hE.2.2.2.mono (by decide) (by decide)⟩⟩
  show Qcin Z a x t kb N vs nn k1 k2 y u kd cd M ws_ mm l1 l2 G1 G3 h0 n0 _ T595.heap _
  rw [e595]
  exact ⟨rfl, N595, (((((Keep.refl h0 [a]).trans K579 all0).trans K581 all0).wr W590 (Or.inl (by simp))).wr W595 (Or.inl (by simp))), Ec597, Fc598, Fw595⟩
def Qicm (Z : State) (ia : Nat) (ib : Nat) (h0 : Heap) (n0 : Nat) (v : Option Value) (h : Heap) (L : List Loc) : Prop := v = some (.int (cmpN ia ib)) ∧ Fr n0 L ∧ h = h0
theorem pn_8 : plainName "java/lang/Integer" = true := by first | (simp [plainName, overriddenIn]; done) | decide +kernel
theorem ef_icm (m : MethodId) (x0 : Int32) (x1 : Int32) : entryFrame m #[(.int x0), (.int x1)] 2 = mkF m 0 #[sI x0, sI x1] [] := by first | (simp [entryFrame, mkF, argsToLocals, Value.category]; done) | rfl
theorem d39_0 : decode jdk_33_method_40_code 0 = .ok (.iload_n 0, 1) := by decide +kernel
theorem d39_1 : decode jdk_33_method_40_code 1 = .ok (.iload_n 1, 1) := by decide +kernel
theorem d39_2 : decode jdk_33_method_40_code 2 = .ok (.if_icmp .ge 7, 3) := by decide +kernel
theorem d39_5 : decode jdk_33_method_40_code 5 = .ok (.iconst (-1), 1) := by decide +kernel
theorem d39_6 : decode jdk_33_method_40_code 6 = .ok (.goto 13, 3) := by decide +kernel
theorem d39_19 : decode jdk_33_method_40_code 19 = .ok (.ireturn, 1) := by decide +kernel
theorem d39_9 : decode jdk_33_method_40_code 9 = .ok (.iload_n 0, 1) := by decide +kernel
theorem d39_10 : decode jdk_33_method_40_code 10 = .ok (.iload_n 1, 1) := by decide +kernel
theorem d39_11 : decode jdk_33_method_40_code 11 = .ok (.if_icmp .ne 7, 3) := by decide +kernel
theorem d39_14 : decode jdk_33_method_40_code 14 = .ok (.iconst 0, 1) := by decide +kernel
theorem d39_15 : decode jdk_33_method_40_code 15 = .ok (.goto 4, 3) := by decide +kernel
theorem d39_18 : decode jdk_33_method_40_code 18 = .ok (.iconst 1, 1) := by decide +kernel
set_option maxRecDepth 65536 in
set_option maxHeartbeats 40000000 in
theorem icm (l : Launch) (Z : State) (a0 : Array Value) (hw : ∀ d ∈ tables_1, d.before a0 Z = true) (ws : List Jvm.Cond) (ia : Nat) (ib : Nat) (h0 : Heap) (n0 : Nat) (Z0 : n0 ≤ h0.size) (hia : ia < 2 ^ 31) (hib : ib < 2 ^ 31) :
    MetFree l y_35 (head1 (Jvm.Cond.code y_35 jdk_33_method_40_code 2 (some .int) :: ws) r_m0) (fun a_ U_ => a_ = #[(.int (Int32.ofNat ia)), (.int (Int32.ofNat ib))] ∧ Z.Warmed39 U_.vm ∧ U_.heap = h0) (fun _ _ _ _ _ => True) (fun _ U_ o_ V_ => ∃ v_ L_, o_ = .returned v_ ∧ Qicm Z ia ib h0 n0 v_ V_.heap L_ ∧ FrameEnd U_ o_ V_ L_ r_m0.cells r_m0.slots) := by
  refine MetFree.of_bodySF (plainFor_of_name pn_8) hisR ?_
  intro p e s m args below meth c s₁ Bd hml0 hP hK
  obtain ⟨rfl, hZ, hh⟩ := hP
  have hx := Bd.exec
  have hby := Bd.bytes
  have hml : c.maxLocals = 2 := hml0
  have hown : s.vm.findClass "java/lang/Integer" = some m.cls := findClass_of_methodNamed Bd.named
  have hnm := (name_of_methodNamed Bd.named Bd.method).1
  have X0 : Stand p l e r_m0 s m #[(.int (Int32.ofNat ia)), (.int (Int32.ofNat ib))] below meth c s₁ [] 0 0 := Stand.of_body Bd
  have e0 : s₁.heap = h0 := by rw [← hh, Bd.state]; rfl
  have N0 := Fr.nil n0
  refine Gl.go (A := s₁.setTop (entryFrame m #[(.int (Int32.ofNat ia)), (.int (Int32.ofNat ib))] 2)) (P := fun o_ U_ => ∃ v_ L_, o_ = .returned v_ ∧ Qicm Z ia ib h0 n0 v_ U_.heap L_ ∧ FrameEnd s o_ U_ L_ r_m0.cells r_m0.slots) (fun t_ k_ => castTop (ef_icm m (Int32.ofNat ia) (Int32.ofNat ib)) k_) ?_
  show Gl p.tables e below _ (s₁.setTop (mkF m 0 #[sI (Int32.ofNat ia), sI (Int32.ofNat ib)] []))
  refine Gl.go (fun _ hr => zXS_iloadN X0.here hx rfl (hb hby d39_0) rfl (zXS_iloadN X0.here hx rfl (hb hby d39_1) rfl hr)) ?_
  by_cases hc599 : (Int32.ofNat ia) < (Int32.ofNat ib)
  · refine Gl.go (fun _ hr => zXS_icmpNo X0.here hx rfl (hb hby d39_2) rfl (XT.ii_ge_f hc599) hr) ?_
    have hn2 : ia < ib := own_lt32' hia hib hc599
    refine Gl.go (fun _ hr => zXS_iconst X0.here hx rfl (hb hby d39_5) (zXS_goto X0.here hx rfl (pc0 := 6) (pc' := 19) rfl (hb hby d39_6) (by decide) (by decide) hr)) ?_
    obtain ⟨fs, hr, hrun, hended, hW, hsame⟩ := X0.leave (v := some (.int (-1 : Int32))) (fun h => by rw [Bd.returns] at h; cases h)
    refine ⟨_, _, retOut X0 hx Bd.returns rfl (Or.inl ⟨rfl, Or.inl rfl, _, rfl⟩) (hb hby d39_19) hr, hrun, hended, _, _, rfl, ?_, ⟨⟨_, rfl⟩, hW, hsame.mono (by decide) (by decide)⟩⟩
    show Qicm Z ia ib h0 n0 _ s₁.heap _
    rw [e0]
    exact ⟨(own_some (by unfold cmpN; (repeat' split) <;> first | rfl | omega)), N0, rfl⟩
  · refine Gl.go (fun _ hr => zXS_icmpYes X0.here hx rfl (pc0 := 2) (pc' := 9) rfl (hb hby d39_2) rfl (XT.ii_ge_t hc599) (by decide) (by decide) hr) ?_
    have hn2 : ib ≤ ia := own_ge32 hia hib hc599
    refine Gl.go (fun _ hr => zXS_iloadN X0.here hx rfl (hb hby d39_9) rfl (zXS_iloadN X0.here hx rfl (hb hby d39_10) rfl hr)) ?_
    by_cases hc600 : (Int32.ofNat ia) = (Int32.ofNat ib)
    · refine Gl.go (fun _ hr => zXS_icmpNo X0.here hx rfl (hb hby d39_11) rfl (XT.ii_ne_f hc600) hr) ?_
      have hn3 : ia = ib := own_inj32 hia hib hc600
      refine Gl.go (fun _ hr => zXS_iconst X0.here hx rfl (hb hby d39_14) (zXS_goto X0.here hx rfl (pc0 := 15) (pc' := 19) rfl (hb hby d39_15) (by decide) (by decide) hr)) ?_
      obtain ⟨fs, hr, hrun, hended, hW, hsame⟩ := X0.leave (v := some (.int (0 : Int32))) (fun h => by rw [Bd.returns] at h; cases h)
      refine ⟨_, _, retOut X0 hx Bd.returns rfl (Or.inl ⟨rfl, Or.inl rfl, _, rfl⟩) (hb hby d39_19) hr, hrun, hended, _, _, rfl, ?_, ⟨⟨_, rfl⟩, hW, hsame.mono (by decide) (by decide)⟩⟩
      show Qicm Z ia ib h0 n0 _ s₁.heap _
      rw [e0]
      exact ⟨(own_some (by unfold cmpN; (repeat' split) <;> first | rfl | omega)), N0, rfl⟩
    · refine Gl.go (fun _ hr => zXS_icmpYes X0.here hx rfl (pc0 := 11) (pc' := 18) rfl (hb hby d39_11) rfl (XT.ii_ne_t hc600) (by decide) (by decide) hr) ?_
      have hn3 : ¬ ia = ib := fun q => hc600 (congrArg Int32.ofNat q)
      refine Gl.go (fun _ hr => zXS_iconst X0.here hx rfl (hb hby d39_18) hr) ?_
      obtain ⟨fs, hr, hrun, hended, hW, hsame⟩ := X0.leave (v := some (.int (1 : Int32))) (fun h => by rw [Bd.returns] at h; cases h)
      refine ⟨_, _, retOut X0 hx Bd.returns rfl (Or.inl ⟨rfl, Or.inl rfl, _, rfl⟩) (hb hby d39_19) hr, hrun, hended, _, _, rfl, ?_, ⟨⟨_, rfl⟩, hW, hsame.mono (by decide) (by decide)⟩⟩
      show Qicm Z ia ib h0 n0 _ s₁.heap _
      rw [e0]
      exact ⟨(own_some (by unfold cmpN; (repeat' split) <;> first | rfl | omega)), N0, rfl⟩
def Qccp (Z : State) (x : Addr) (t : Addr) (kb : ClassId) (cd : Int32) (N : Int32) (vs : List Value) (nn : Nat) (k1 : Nat) (k2 : Nat) (y : Addr) (u : Addr) (kd : ClassId) (ce : Int32) (M : Int32) (ws_ : List Value) (mm : Nat) (l1 : Nat) (l2 : Nat) (G1 : Int32) (G3 : Value) (h0 : Heap) (n0 : Nat) (v : Option Value) (h : Heap) (L : List Loc) : Prop := v = some (.int (cmpS nn k1 k2 mm l1 l2)) ∧ Fr n0 L ∧ h = h0
theorem ef_ccp (m : MethodId) (x0 : Addr) (x1 : Addr) : entryFrame m #[(.ref x0), (.ref x1)] 5 = mkF m 0 #[sR x0, sR x1, sU, sU, sU] [] := by first | (simp [entryFrame, mkF, argsToLocals, Value.category]; done) | rfl
theorem d38_0 : decode prog_3_method_6_code 0 = .ok (.iconst 0, 1) := by decide +kernel
theorem d38_1 : decode prog_3_method_6_code 1 = .ok (.istore_n 2, 1) := by decide +kernel
theorem d38_2 : decode prog_3_method_6_code 2 = .ok (.iload_n 2, 1) := by decide +kernel
theorem d38_3 : decode prog_3_method_6_code 3 = .ok (.aload_n 0, 1) := by decide +kernel
theorem d38_4 : decode prog_3_method_6_code 4 = .ok (.invokevirtual 37, 3) := by decide +kernel
theorem d38_7 : decode prog_3_method_6_code 7 = .ok (.if_icmp .ge 47, 3) := by decide +kernel
theorem d38_10 : decode prog_3_method_6_code 10 = .ok (.iload_n 2, 1) := by decide +kernel
theorem d38_11 : decode prog_3_method_6_code 11 = .ok (.aload_n 1, 1) := by decide +kernel
theorem d38_12 : decode prog_3_method_6_code 12 = .ok (.invokevirtual 37, 3) := by decide +kernel
theorem d38_15 : decode prog_3_method_6_code 15 = .ok (.if_icmp .ge 39, 3) := by decide +kernel
theorem d38_18 : decode prog_3_method_6_code 18 = .ok (.aload_n 0, 1) := by decide +kernel
theorem d38_19 : decode prog_3_method_6_code 19 = .ok (.iload_n 2, 1) := by decide +kernel
theorem d38_20 : decode prog_3_method_6_code 20 = .ok (.invokevirtual 61, 3) := by decide +kernel
theorem d38_23 : decode prog_3_method_6_code 23 = .ok (.istore_n 3, 1) := by decide +kernel
theorem d38_24 : decode prog_3_method_6_code 24 = .ok (.aload_n 1, 1) := by decide +kernel
theorem d38_25 : decode prog_3_method_6_code 25 = .ok (.iload_n 2, 1) := by decide +kernel
theorem d38_26 : decode prog_3_method_6_code 26 = .ok (.invokevirtual 61, 3) := by decide +kernel
theorem d38_29 : decode prog_3_method_6_code 29 = .ok (.istore 4, 2) := by decide +kernel
theorem d38_31 : decode prog_3_method_6_code 31 = .ok (.iload_n 3, 1) := by decide +kernel
theorem d38_32 : decode prog_3_method_6_code 32 = .ok (.iload 4, 2) := by decide +kernel
theorem d38_34 : decode prog_3_method_6_code 34 = .ok (.if_icmp .eq 10, 3) := by decide +kernel
theorem d38_44 : decode prog_3_method_6_code 44 = .ok (.iload_n 2, 1) := by decide +kernel
theorem d38_45 : decode prog_3_method_6_code 45 = .ok (.iload_n 3, 1) := by decide +kernel
theorem d38_46 : decode prog_3_method_6_code 46 = .ok (.invokestatic 84, 3) := by decide +kernel
theorem d38_49 : decode prog_3_method_6_code 49 = .ok (.iadd, 1) := by decide +kernel
theorem d38_50 : decode prog_3_method_6_code 50 = .ok (.istore_n 2, 1) := by decide +kernel
theorem d38_51 : decode prog_3_method_6_code 51 = .ok (.goto (-49), 3) := by decide +kernel
theorem d38_54 : decode prog_3_method_6_code 54 = .ok (.aload_n 0, 1) := by decide +kernel
theorem d38_55 : decode prog_3_method_6_code 55 = .ok (.invokevirtual 37, 3) := by decide +kernel
theorem d38_58 : decode prog_3_method_6_code 58 = .ok (.aload_n 1, 1) := by decide +kernel
theorem d38_59 : decode prog_3_method_6_code 59 = .ok (.invokevirtual 37, 3) := by decide +kernel
theorem d38_62 : decode prog_3_method_6_code 62 = .ok (.invokestatic 92, 3) := by decide +kernel
theorem pd_21 : parseMethodDescriptor "(II)I" = some ⟨[.int, .int], some .int⟩ := by decide +kernel
theorem d38_65 : decode prog_3_method_6_code 65 = .ok (.ireturn, 1) := by decide +kernel
theorem d38_37 : decode prog_3_method_6_code 37 = .ok (.iload_n 3, 1) := by decide +kernel
theorem d38_38 : decode prog_3_method_6_code 38 = .ok (.iload 4, 2) := by decide +kernel
theorem d38_40 : decode prog_3_method_6_code 40 = .ok (.invokestatic 92, 3) := by decide +kernel
theorem d38_43 : decode prog_3_method_6_code 43 = .ok (.ireturn, 1) := by decide +kernel
set_option maxRecDepth 65536 in
set_option maxHeartbeats 40000000 in
theorem ccp (l : Launch) (Z : State) (a0 : Array Value) (hw : ∀ d ∈ tables_1, d.before a0 Z = true) (ws : List Jvm.Cond) (x : Addr) (t : Addr) (kb : ClassId) (cd : Int32) (N : Int32) (vs : List Value) (nn : Nat) (k1 : Nat) (k2 : Nat) (y : Addr) (u : Addr) (kd : ClassId) (ce : Int32) (M : Int32) (ws_ : List Value) (mm : Nat) (l1 : Nat) (l2 : Nat) (G1 : Int32) (G3 : Value) (h0 : Heap) (n0 : Nat) (Z0 : n0 ≤ h0.size) (q0 : Sta Z Z.heap "java/lang/String" "COMPACT_STRINGS" "Z" (.int G1)) (P5 : ¬ (G1 = (0 : Int32))) (q2 : Old Z n0 h0) (q3 : Sta Z Z.heap "jdk/internal/util/Preconditions" "SIOOBE_FORMATTER" "Ljava/util/function/BiFunction;" G3) (rG3 : G3.isRef = true) (q5 : Sta Z Z.heap "java/lang/StringUTF16" "$assertionsDisabled" "Z" (.int (1 : Int32))) (q6 : Sta Z Z.heap "java/lang/StringUTF16" "HI_BYTE_SHIFT" "I" (.int (0 : Int32))) (q7 : Sta Z Z.heap "java/lang/StringUTF16" "LO_BYTE_SHIFT" "I" (.int (8 : Int32))) (q8 : Exa Z h0 x "java/lang/String") (q9 : Fld Z h0 x "java/lang/String" "value" "[B" (.ref t)) (q10 : Fld Z h0 x "java/lang/String" "coder" "B" (.int cd)) (q11 : Arv Z h0 t kb .byte N vs (.int 0)) (cod_x : StrChars.Road.CodA (unl k1 k2 nn) cd N vs) (hn_x : nn = 1 ∨ nn = 2) (hk1 : KeyC k1) (hk2 : KeyC k2) (q16 : Exa Z h0 y "java/lang/String") (q17 : Fld Z h0 y "java/lang/String" "value" "[B" (.ref u)) (q18 : Fld Z h0 y "java/lang/String" "coder" "B" (.int ce)) (q19 : Arv Z h0 u kd .byte M ws_ (.int 0)) (cod_y : StrChars.Road.CodA (unl l1 l2 mm) ce M ws_) (hn_y : mm = 1 ∨ mm = 2) (hl1 : KeyC l1) (hl2 : KeyC l2) :
    MetFree l y_36 (head1 (Jvm.Cond.code y_36 prog_3_method_6_code 5 (some .int) :: ws) r_m16) (fun a_ U_ => a_ = #[(.ref x), (.ref y)] ∧ Z.Warmed39 U_.vm ∧ U_.heap = h0) (fun _ _ _ _ _ => True) (fun _ U_ o_ V_ => ∃ v_ L_, o_ = .returned v_ ∧ Qccp Z x t kb cd N vs nn k1 k2 y u kd ce M ws_ mm l1 l2 G1 G3 h0 n0 v_ V_.heap L_ ∧ FrameEnd U_ o_ V_ L_ r_m16.cells r_m16.slots) := by
  refine MetFree.of_bodySF (plainFor_of_name pn_6) hisR ?_
  intro p e s m args below meth c s₁ Bd hml0 hP hK
  obtain ⟨rfl, hZ, hh⟩ := hP
  have hx := Bd.exec
  have hby := Bd.bytes
  have hml : c.maxLocals = 5 := hml0
  have hown : s.vm.findClass "com/example/even_counter/evencounter/CounterId" = some m.cls := findClass_of_methodNamed Bd.named
  have hnm := (name_of_methodNamed Bd.named Bd.method).1
  have X0 : Stand p l e r_m16 s m #[(.ref x), (.ref y)] below meth c s₁ [] 0 0 := Stand.of_body Bd
  have e0 : s₁.heap = h0 := by rw [← hh, Bd.state]; rfl
  have N0 := Fr.nil n0
  have zo := q2.1
  have lt601 := own_alt q8.lt
  have lt602 := own_alt q9.lt
  have lt603 := own_alt q10.lt
  have lt604 := own_alt q11.lt
  have lt605 := own_alt q16.lt
  have lt606 := own_alt q17.lt
  have lt607 := own_alt q18.lt
  have lt608 := own_alt q19.lt
  have hln : ∀ d ∈ StrChars.Road.wordsLen, d.before a0 Z = true := fun d hd => hw d (own_hln d hd)
  have cl_k1 := cpl_le k1
  have cl_k2 := cpl_le k2
  have cl_l1 := cpl_le l1
  have cl_l2 := cpl_le l2
  refine Gl.go (A := s₁.setTop (entryFrame m #[(.ref x), (.ref y)] 5)) (P := fun o_ U_ => ∃ v_ L_, o_ = .returned v_ ∧ Qccp Z x t kb cd N vs nn k1 k2 y u kd ce M ws_ mm l1 l2 G1 G3 h0 n0 v_ U_.heap L_ ∧ FrameEnd s o_ U_ L_ r_m16.cells r_m16.slots) (fun t_ k_ => castTop (ef_ccp m x y) k_) ?_
  show Gl p.tables e below _ (s₁.setTop (mkF m 0 #[sR x, sR y, sU, sU, sU] []))
  rcases id hn_x with hn1 | hn1
  · have hcdx : StrChars.Road.CodA (un1 k1) cd N vs := by have q := cod_x; rw [own_unl1 hn1] at q; exact q
    have hbdx := un1_wid hk1.1.2
    have hlex := un1_len k1
    show Gl p.tables e below _ (s₁.setTop (mkF m 0 #[sR x, sR y, sU, sU, sU] []))
    rcases id hn_y with hm1 | hm1
    · have hcdy : StrChars.Road.CodA (un1 l1) ce M ws_ := by have q := cod_y; rw [own_unl1 hm1] at q; exact q
      have hbdy := un1_wid hl1.1.2
      have hley := un1_len l1
      show Gl p.tables e below _ (s₁.setTop (mkF m 0 #[sR x, sR y, sU, sU, sU] []))
      refine Gl.go (fun _ hr => zXS_iconst X0.here hx rfl (hb hby d38_0) (zXS_istoreN X0.here hx rfl (hb hby d38_1) rfl (l' := #[sR x, sR y, sI 0, sU, sU]) rfl (zXS_iloadN X0.here hx rfl (hb hby d38_2) rfl (zXS_aloadN X0.here hx rfl (hb hby d38_3) rfl rfl hr)))) ?_
      refine gVirtualN Gl.cl (y := y_30) (z := y_30) (b := x) (argsL := []) (rest := [(.int (0 : Int32))]) (mc := 0) (ms := 0) (Q := fun v h' L => v = some (.int (Int32.ofNat (un1 k1).length)) ∧ L = [] ∧ h' = h0) X0 hx hZ hown (mvT hZ (tw hw 96 rfl)) (mvT hZ (tw hw 97 rfl)) (notFace_of_selects (args := #[]) (mvT hZ (tw hw 99 rfl))) (mvT hZ (tw hw 99 rfl)) (mvT hZ (tw hw 98 rfl)) (by decide) q8 (StrChars.Road.lenW (W := 1) hZ hln (kI := 4) (tw hw 17 rfl) q8 q9 q10 q11 hcdx hbdx (q0.ext q2.2) P5 (by omega) (by decide) (by decide)) rfl (by rw [hml]; rfl) (lenOf pd_18 rfl) rfl (by exact Nat.le_of_eq rfl) (hb hby d38_4) rfl e0 (by decide) (by decide) ?_
      intro v609 T609 Lc609 hQ609 X609
      obtain ⟨rfl, rfl, e609⟩ := hQ609
      have N609 := own_fr_nil N0
      refine Gl.go (fun _ hr => zXS_icmpNo X609.here hx rfl (hb hby d38_7) rfl (XT.ii_ge_f (own_lt32 (a := 0) (b := (un1 k1).length) (by omega) (by omega))) (zXS_iloadN X609.here hx rfl (hb hby d38_10) rfl (zXS_aloadN X609.here hx rfl (hb hby d38_11) rfl rfl hr))) ?_
      refine gVirtualN Gl.cl (y := y_30) (z := y_30) (b := y) (argsL := []) (rest := [(.int (0 : Int32))]) (mc := 0) (ms := 0) (Q := fun v h' L => v = some (.int (Int32.ofNat (un1 l1).length)) ∧ L = [] ∧ h' = h0) X609 hx hZ hown (mvT hZ (tw hw 96 rfl)) (mvT hZ (tw hw 97 rfl)) (notFace_of_selects (args := #[]) (mvT hZ (tw hw 99 rfl))) (mvT hZ (tw hw 99 rfl)) (mvT hZ (tw hw 98 rfl)) (by decide) q16 (StrChars.Road.lenW (W := 1) hZ hln (kI := 4) (tw hw 17 rfl) q16 q17 q18 q19 hcdy hbdy (q0.ext q2.2) P5 (by omega) (by decide) (by decide)) rfl (by rw [hml]; rfl) (lenOf pd_18 rfl) rfl (by exact Nat.le_of_eq rfl) (hb hby d38_12) rfl e609 (by decide) (by decide) ?_
      intro v610 T610 Lc610 hQ610 X610
      obtain ⟨rfl, rfl, e610⟩ := hQ610
      have N610 := own_fr_nil N609
      refine Gl.go (fun _ hr => zXS_icmpNo X610.here hx rfl (hb hby d38_15) rfl (XT.ii_ge_f (own_lt32 (a := 0) (b := (un1 l1).length) (by omega) (by omega))) (zXS_aloadN X610.here hx rfl (hb hby d38_18) rfl rfl (zXS_iloadN X610.here hx rfl (hb hby d38_19) rfl hr))) ?_
      have zz611 : n0 ≤ h0.size := by omega
      refine gVirtualN Gl.cl (y := y_25) (z := y_25) (b := x) (argsL := [(.int (0 : Int32))]) (rest := []) (mc := 0) (ms := 0) X610 hx hZ hown (mvT hZ (tw hw 135 rfl)) (mvT hZ (tw hw 136 rfl)) (notFace_of_selects (args := #[]) (mvT hZ (tw hw 138 rfl))) (mvT hZ (tw hw 138 rfl)) (mvT hZ (tw hw 137 rfl)) (by decide) q8 (backOf (W := 0) (cpa l Z a0 hw [] x t kb cd N vs (un1 k1) 0 k1 G1 G3 h0 n0 zz611 q0 (by assumption) q2 q3 (by assumption) q5 q6 q7 q8 q9 q10 q11 hcdx (atc1 k1) hk1 (by omega) hbdx) hZ (tw hw 139 rfl) (tw hw 18 rfl) (by decide) (by decide)) rfl (by rw [hml]; rfl) (lenOf pd_0 rfl) rfl (by exact Nat.le_of_eq rfl) (hb hby d38_20) rfl e610 (by decide) (by decide) ?_
      intro v611 T611 Lc611 hQ611 X611
      obtain ⟨rfl, Nq611, e611⟩ := hQ611
      have N611 := Fr.app N610 Nq611
      refine Gl.go (fun _ hr => zXS_istoreN X611.here hx rfl (hb hby d38_23) rfl (l' := #[sR x, sR y, sI 0, sI (Int32.ofNat k1), sU]) rfl (zXS_aloadN X611.here hx rfl (hb hby d38_24) rfl rfl (zXS_iloadN X611.here hx rfl (hb hby d38_25) rfl hr))) ?_
      have zz612 : n0 ≤ h0.size := by omega
      refine gVirtualN Gl.cl (y := y_25) (z := y_25) (b := y) (argsL := [(.int (0 : Int32))]) (rest := []) (mc := 0) (ms := 0) X611 hx hZ hown (mvT hZ (tw hw 135 rfl)) (mvT hZ (tw hw 136 rfl)) (notFace_of_selects (args := #[]) (mvT hZ (tw hw 138 rfl))) (mvT hZ (tw hw 138 rfl)) (mvT hZ (tw hw 137 rfl)) (by decide) q16 (backOf (W := 0) (cpa l Z a0 hw [] y u kd ce M ws_ (un1 l1) 0 l1 G1 G3 h0 n0 zz612 q0 (by assumption) q2 q3 (by assumption) q5 q6 q7 q16 q17 q18 q19 hcdy (atc1 l1) hl1 (by omega) hbdy) hZ (tw hw 139 rfl) (tw hw 18 rfl) (by decide) (by decide)) rfl (by rw [hml]; rfl) (lenOf pd_0 rfl) rfl (by exact Nat.le_of_eq rfl) (hb hby d38_26) rfl e611 (by decide) (by decide) ?_
      intro v612 T612 Lc612 hQ612 X612
      obtain ⟨rfl, Nq612, e612⟩ := hQ612
      have N612 := Fr.app N611 Nq612
      refine Gl.go (fun _ hr => zXS_istore X612.here hx rfl (hb hby d38_29) rfl (l' := #[sR x, sR y, sI 0, sI (Int32.ofNat k1), sI (Int32.ofNat l1)]) rfl (zXS_iloadN X612.here hx rfl (hb hby d38_31) rfl (zXS_iload X612.here hx rfl (hb hby d38_32) rfl hr))) ?_
      by_cases hc613 : (Int32.ofNat k1) = (Int32.ofNat l1)
      · refine Gl.go (fun _ hr => zXS_icmpYes X612.here hx rfl (pc0 := 34) (pc' := 44) rfl (hb hby d38_34) rfl (XT.ii_eq_t hc613) (by decide) (by decide) hr) ?_
        have hq0 : k1 = l1 := own_inj32 (by omega) (by omega) hc613
        have hc0 : cpl k1 = cpl l1 := congrArg cpl hq0
        refine Gl.go (fun _ hr => zXS_iloadN X612.here hx rfl (hb hby d38_44) rfl (zXS_iloadN X612.here hx rfl (hb hby d38_45) rfl hr)) ?_
        have zz614 : n0 ≤ h0.size := by omega
        refine gStaticN Gl.cl (y := y_22) (argsL := [(.int (Int32.ofNat k1))]) (rest := [(.int (0 : Int32))]) (mc := 0) (ms := 0) X612 hx hZ hown (mvT hZ (tw hw 155 rfl)) (mvT hZ (tw hw 156 rfl)) (mvT hZ (tw hw 149 rfl)) (mvT hZ (tw hw 157 rfl)) (by decide) (backOf (W := 1) (ccc l Z a0 hw [] k1 h0 n0 zz614 hk1.1.2) hZ (tw hw 157 rfl) (tw hw 149 rfl) (by decide) (by decide)) rfl (by rw [hml]; rfl) (lenOf pd_0 rfl) rfl (by exact Nat.le_of_eq rfl) (hb hby d38_46) rfl e612 (by decide) (by decide) ?_
        intro v614 T614 Lc614 hQ614 X614
        obtain ⟨rfl, Nq614, e614⟩ := hQ614
        have N614 := Fr.app N612 Nq614
        refine Gl.go (fun _ hr => zXS_iadd X614.here hx rfl (hb hby d38_49) rfl hr) ?_
        show Gl p.tables e below _ (T614.setTop (mkF m 50 #[sR x, sR y, sI 0, sI (Int32.ofNat k1), sI (Int32.ofNat l1)] [(.int ((0 : Int32) + (Int32.ofNat (cpl k1))))]))
        rw [(show (0 : Int32) + Int32.ofNat (cpl k1) = Int32.ofNat (cpl k1) from Int32.zero_add _)]
        show Gl p.tables e below _ (T614.setTop (mkF m 50 #[sR x, sR y, sI 0, sI (Int32.ofNat k1), sI (Int32.ofNat l1)] [(.int (Int32.ofNat (cpl k1)))]))
        refine Gl.go (fun _ hr => zXS_istoreN X614.here hx rfl (hb hby d38_50) rfl (l' := #[sR x, sR y, sI (Int32.ofNat (cpl k1)), sI (Int32.ofNat k1), sI (Int32.ofNat l1)]) rfl (zXS_goto X614.here hx rfl (pc0 := 51) (pc' := 2) rfl (hb hby d38_51) (by decide) (by decide) (zXS_iloadN X614.here hx rfl (hb hby d38_2) rfl (zXS_aloadN X614.here hx rfl (hb hby d38_3) rfl rfl hr)))) ?_
        refine gVirtualN Gl.cl (y := y_30) (z := y_30) (b := x) (argsL := []) (rest := [(.int (Int32.ofNat (cpl k1)))]) (mc := 0) (ms := 0) (Q := fun v h' L => v = some (.int (Int32.ofNat (un1 k1).length)) ∧ L = [] ∧ h' = h0) X614 hx hZ hown (mvT hZ (tw hw 96 rfl)) (mvT hZ (tw hw 97 rfl)) (notFace_of_selects (args := #[]) (mvT hZ (tw hw 99 rfl))) (mvT hZ (tw hw 99 rfl)) (mvT hZ (tw hw 98 rfl)) (by decide) q8 (StrChars.Road.lenW (W := 1) hZ hln (kI := 4) (tw hw 17 rfl) q8 q9 q10 q11 hcdx hbdx (q0.ext q2.2) P5 (by omega) (by decide) (by decide)) rfl (by rw [hml]; rfl) (lenOf pd_18 rfl) rfl (by exact Nat.le_of_eq rfl) (hb hby d38_4) rfl e614 (by decide) (by decide) ?_
        intro v615 T615 Lc615 hQ615 X615
        obtain ⟨rfl, rfl, e615⟩ := hQ615
        have N615 := own_fr_nil N614
        refine Gl.go (fun _ hr => zXS_icmpYes X615.here hx rfl (pc0 := 7) (pc' := 54) rfl (hb hby d38_7) rfl (XT.ii_ge_t (own_nlt32 (a := (cpl k1)) (b := (un1 k1).length) (by omega) (by omega) (by omega))) (by decide) (by decide) (zXS_aloadN X615.here hx rfl (hb hby d38_54) rfl rfl hr)) ?_
        refine gVirtualN Gl.cl (y := y_30) (z := y_30) (b := x) (argsL := []) (rest := []) (mc := 0) (ms := 0) (Q := fun v h' L => v = some (.int (Int32.ofNat (un1 k1).length)) ∧ L = [] ∧ h' = h0) X615 hx hZ hown (mvT hZ (tw hw 96 rfl)) (mvT hZ (tw hw 97 rfl)) (notFace_of_selects (args := #[]) (mvT hZ (tw hw 99 rfl))) (mvT hZ (tw hw 99 rfl)) (mvT hZ (tw hw 98 rfl)) (by decide) q8 (StrChars.Road.lenW (W := 0) hZ hln (kI := 4) (tw hw 17 rfl) q8 q9 q10 q11 hcdx hbdx (q0.ext q2.2) P5 (by omega) (by decide) (by decide)) rfl (by rw [hml]; rfl) (lenOf pd_18 rfl) rfl (by exact Nat.le_of_eq rfl) (hb hby d38_55) rfl e615 (by decide) (by decide) ?_
        intro v616 T616 Lc616 hQ616 X616
        obtain ⟨rfl, rfl, e616⟩ := hQ616
        have N616 := own_fr_nil N615
        refine Gl.go (fun _ hr => zXS_aloadN X616.here hx rfl (hb hby d38_58) rfl rfl hr) ?_
        refine gVirtualN Gl.cl (y := y_30) (z := y_30) (b := y) (argsL := []) (rest := [(.int (Int32.ofNat (un1 k1).length))]) (mc := 0) (ms := 0) (Q := fun v h' L => v = some (.int (Int32.ofNat (un1 l1).length)) ∧ L = [] ∧ h' = h0) X616 hx hZ hown (mvT hZ (tw hw 96 rfl)) (mvT hZ (tw hw 97 rfl)) (notFace_of_selects (args := #[]) (mvT hZ (tw hw 99 rfl))) (mvT hZ (tw hw 99 rfl)) (mvT hZ (tw hw 98 rfl)) (by decide) q16 (StrChars.Road.lenW (W := 1) hZ hln (kI := 4) (tw hw 17 rfl) q16 q17 q18 q19 hcdy hbdy (q0.ext q2.2) P5 (by omega) (by decide) (by decide)) rfl (by rw [hml]; rfl) (lenOf pd_18 rfl) rfl (by exact Nat.le_of_eq rfl) (hb hby d38_59) rfl e616 (by decide) (by decide) ?_
        intro v617 T617 Lc617 hQ617 X617
        obtain ⟨rfl, rfl, e617⟩ := hQ617
        have N617 := own_fr_nil N616
        have zz618 : n0 ≤ h0.size := by omega
        refine gStaticN Gl.cl (y := y_35) (argsL := [(.int (Int32.ofNat (un1 k1).length)), (.int (Int32.ofNat (un1 l1).length))]) (rest := []) (mc := 0) (ms := 0) X617 hx hZ hown (mvT hZ (tw hw 174 rfl)) (mvT hZ (tw hw 175 rfl)) (mvT hZ (tw hw 176 rfl)) (mvT hZ (tw hw 177 rfl)) (by decide) (backOf (W := 0) (icm l Z a0 hw [] ((un1 k1).length) ((un1 l1).length) h0 n0 zz618 (by omega) (by omega)) hZ (tw hw 177 rfl) (tw hw 176 rfl) (by decide) (by decide)) rfl (by rw [hml]; rfl) (lenOf pd_21 rfl) rfl (by exact Nat.le_of_eq rfl) (hb hby d38_62) rfl e617 (by decide) (by decide) ?_
        intro v618 T618 Lc618 hQ618 X618
        obtain ⟨rfl, Nq618, e618⟩ := hQ618
        have N618 := Fr.app N617 Nq618
        obtain ⟨fs, hr, hrun, hended, hW, hsame⟩ := X618.leave (v := some (.int (cmpN (un1 k1).length (un1 l1).length))) (fun h => by rw [Bd.returns] at h; cases h)
        refine ⟨_, _, retOut X618 hx Bd.returns rfl (Or.inl ⟨rfl, Or.inl rfl, _, rfl⟩) (hb hby d38_65) hr, hrun, hended, _, _, rfl, ?_, ⟨⟨_, rfl⟩, hW, hsame.mono (by decide) (by decide)⟩⟩
        show Qccp Z x t kb cd N vs nn k1 k2 y u kd ce M ws_ mm l1 l2 G1 G3 h0 n0 _ T618.heap _
        rw [e618]
        exact ⟨(own_some (own_c11 hn1 hm1 hq0)), N618, rfl⟩
      · refine Gl.go (fun _ hr => zXS_icmpNo X612.here hx rfl (hb hby d38_34) rfl (XT.ii_eq_f hc613) hr) ?_
        have hd0 : ¬ k1 = l1 := fun q => hc613 (congrArg Int32.ofNat q)
        refine Gl.go (fun _ hr => zXS_iloadN X612.here hx rfl (hb hby d38_37) rfl (zXS_iload X612.here hx rfl (hb hby d38_38) rfl hr)) ?_
        have zz619 : n0 ≤ h0.size := by omega
        refine gStaticN Gl.cl (y := y_35) (argsL := [(.int (Int32.ofNat k1)), (.int (Int32.ofNat l1))]) (rest := []) (mc := 0) (ms := 0) X612 hx hZ hown (mvT hZ (tw hw 174 rfl)) (mvT hZ (tw hw 175 rfl)) (mvT hZ (tw hw 176 rfl)) (mvT hZ (tw hw 177 rfl)) (by decide) (backOf (W := 0) (icm l Z a0 hw [] k1 l1 h0 n0 zz619 (by omega) (by omega)) hZ (tw hw 177 rfl) (tw hw 176 rfl) (by decide) (by decide)) rfl (by rw [hml]; rfl) (lenOf pd_21 rfl) rfl (by exact Nat.le_of_eq rfl) (hb hby d38_40) rfl e612 (by decide) (by decide) ?_
        intro v619 T619 Lc619 hQ619 X619
        obtain ⟨rfl, Nq619, e619⟩ := hQ619
        have N619 := Fr.app N612 Nq619
        obtain ⟨fs, hr, hrun, hended, hW, hsame⟩ := X619.leave (v := some (.int (cmpN k1 l1))) (fun h => by rw [Bd.returns] at h; cases h)
        refine ⟨_, _, retOut X619 hx Bd.returns rfl (Or.inl ⟨rfl, Or.inl rfl, _, rfl⟩) (hb hby d38_43) hr, hrun, hended, _, _, rfl, ?_, ⟨⟨_, rfl⟩, hW, hsame.mono (by decide) (by decide)⟩⟩
        show Qccp Z x t kb cd N vs nn k1 k2 y u kd ce M ws_ mm l1 l2 G1 G3 h0 n0 _ T619.heap _
        rw [e619]
        exact ⟨(own_some (own_cne hd0)), N619, rfl⟩
    · have hcdy : StrChars.Road.CodA (un1 l1 ++ un1 l2) ce M ws_ := by have q := cod_y; rw [own_unl2 hm1] at q; exact q
      have hbdy := un2_wid hl1.1.2 hl2.1.2
      have hley := un2_len l1 l2
      show Gl p.tables e below _ (s₁.setTop (mkF m 0 #[sR x, sR y, sU, sU, sU] []))
      refine Gl.go (fun _ hr => zXS_iconst X0.here hx rfl (hb hby d38_0) (zXS_istoreN X0.here hx rfl (hb hby d38_1) rfl (l' := #[sR x, sR y, sI 0, sU, sU]) rfl (zXS_iloadN X0.here hx rfl (hb hby d38_2) rfl (zXS_aloadN X0.here hx rfl (hb hby d38_3) rfl rfl hr)))) ?_
      refine gVirtualN Gl.cl (y := y_30) (z := y_30) (b := x) (argsL := []) (rest := [(.int (0 : Int32))]) (mc := 0) (ms := 0) (Q := fun v h' L => v = some (.int (Int32.ofNat (un1 k1).length)) ∧ L = [] ∧ h' = h0) X0 hx hZ hown (mvT hZ (tw hw 96 rfl)) (mvT hZ (tw hw 97 rfl)) (notFace_of_selects (args := #[]) (mvT hZ (tw hw 99 rfl))) (mvT hZ (tw hw 99 rfl)) (mvT hZ (tw hw 98 rfl)) (by decide) q8 (StrChars.Road.lenW (W := 1) hZ hln (kI := 4) (tw hw 17 rfl) q8 q9 q10 q11 hcdx hbdx (q0.ext q2.2) P5 (by omega) (by decide) (by decide)) rfl (by rw [hml]; rfl) (lenOf pd_18 rfl) rfl (by exact Nat.le_of_eq rfl) (hb hby d38_4) rfl e0 (by decide) (by decide) ?_
      intro v620 T620 Lc620 hQ620 X620
      obtain ⟨rfl, rfl, e620⟩ := hQ620
      have N620 := own_fr_nil N0
      refine Gl.go (fun _ hr => zXS_icmpNo X620.here hx rfl (hb hby d38_7) rfl (XT.ii_ge_f (own_lt32 (a := 0) (b := (un1 k1).length) (by omega) (by omega))) (zXS_iloadN X620.here hx rfl (hb hby d38_10) rfl (zXS_aloadN X620.here hx rfl (hb hby d38_11) rfl rfl hr))) ?_
      refine gVirtualN Gl.cl (y := y_30) (z := y_30) (b := y) (argsL := []) (rest := [(.int (0 : Int32))]) (mc := 0) (ms := 0) (Q := fun v h' L => v = some (.int (Int32.ofNat (un1 l1 ++ un1 l2).length)) ∧ L = [] ∧ h' = h0) X620 hx hZ hown (mvT hZ (tw hw 96 rfl)) (mvT hZ (tw hw 97 rfl)) (notFace_of_selects (args := #[]) (mvT hZ (tw hw 99 rfl))) (mvT hZ (tw hw 99 rfl)) (mvT hZ (tw hw 98 rfl)) (by decide) q16 (StrChars.Road.lenW (W := 1) hZ hln (kI := 4) (tw hw 17 rfl) q16 q17 q18 q19 hcdy hbdy (q0.ext q2.2) P5 (by omega) (by decide) (by decide)) rfl (by rw [hml]; rfl) (lenOf pd_18 rfl) rfl (by exact Nat.le_of_eq rfl) (hb hby d38_12) rfl e620 (by decide) (by decide) ?_
      intro v621 T621 Lc621 hQ621 X621
      obtain ⟨rfl, rfl, e621⟩ := hQ621
      have N621 := own_fr_nil N620
      refine Gl.go (fun _ hr => zXS_icmpNo X621.here hx rfl (hb hby d38_15) rfl (XT.ii_ge_f (own_lt32 (a := 0) (b := (un1 l1 ++ un1 l2).length) (by omega) (by omega))) (zXS_aloadN X621.here hx rfl (hb hby d38_18) rfl rfl (zXS_iloadN X621.here hx rfl (hb hby d38_19) rfl hr))) ?_
      have zz622 : n0 ≤ h0.size := by omega
      refine gVirtualN Gl.cl (y := y_25) (z := y_25) (b := x) (argsL := [(.int (0 : Int32))]) (rest := []) (mc := 0) (ms := 0) X621 hx hZ hown (mvT hZ (tw hw 135 rfl)) (mvT hZ (tw hw 136 rfl)) (notFace_of_selects (args := #[]) (mvT hZ (tw hw 138 rfl))) (mvT hZ (tw hw 138 rfl)) (mvT hZ (tw hw 137 rfl)) (by decide) q8 (backOf (W := 0) (cpa l Z a0 hw [] x t kb cd N vs (un1 k1) 0 k1 G1 G3 h0 n0 zz622 q0 (by assumption) q2 q3 (by assumption) q5 q6 q7 q8 q9 q10 q11 hcdx (atc1 k1) hk1 (by omega) hbdx) hZ (tw hw 139 rfl) (tw hw 18 rfl) (by decide) (by decide)) rfl (by rw [hml]; rfl) (lenOf pd_0 rfl) rfl (by exact Nat.le_of_eq rfl) (hb hby d38_20) rfl e621 (by decide) (by decide) ?_
      intro v622 T622 Lc622 hQ622 X622
      obtain ⟨rfl, Nq622, e622⟩ := hQ622
      have N622 := Fr.app N621 Nq622
      refine Gl.go (fun _ hr => zXS_istoreN X622.here hx rfl (hb hby d38_23) rfl (l' := #[sR x, sR y, sI 0, sI (Int32.ofNat k1), sU]) rfl (zXS_aloadN X622.here hx rfl (hb hby d38_24) rfl rfl (zXS_iloadN X622.here hx rfl (hb hby d38_25) rfl hr))) ?_
      have zz623 : n0 ≤ h0.size := by omega
      refine gVirtualN Gl.cl (y := y_25) (z := y_25) (b := y) (argsL := [(.int (0 : Int32))]) (rest := []) (mc := 0) (ms := 0) X622 hx hZ hown (mvT hZ (tw hw 135 rfl)) (mvT hZ (tw hw 136 rfl)) (notFace_of_selects (args := #[]) (mvT hZ (tw hw 138 rfl))) (mvT hZ (tw hw 138 rfl)) (mvT hZ (tw hw 137 rfl)) (by decide) q16 (backOf (W := 0) (cpa l Z a0 hw [] y u kd ce M ws_ (un1 l1 ++ un1 l2) 0 l1 G1 G3 h0 n0 zz623 q0 (by assumption) q2 q3 (by assumption) q5 q6 q7 q16 q17 q18 q19 hcdy (atc2 l1 l2) hl1 (by omega) hbdy) hZ (tw hw 139 rfl) (tw hw 18 rfl) (by decide) (by decide)) rfl (by rw [hml]; rfl) (lenOf pd_0 rfl) rfl (by exact Nat.le_of_eq rfl) (hb hby d38_26) rfl e622 (by decide) (by decide) ?_
      intro v623 T623 Lc623 hQ623 X623
      obtain ⟨rfl, Nq623, e623⟩ := hQ623
      have N623 := Fr.app N622 Nq623
      refine Gl.go (fun _ hr => zXS_istore X623.here hx rfl (hb hby d38_29) rfl (l' := #[sR x, sR y, sI 0, sI (Int32.ofNat k1), sI (Int32.ofNat l1)]) rfl (zXS_iloadN X623.here hx rfl (hb hby d38_31) rfl (zXS_iload X623.here hx rfl (hb hby d38_32) rfl hr))) ?_
      by_cases hc624 : (Int32.ofNat k1) = (Int32.ofNat l1)
      · refine Gl.go (fun _ hr => zXS_icmpYes X623.here hx rfl (pc0 := 34) (pc' := 44) rfl (hb hby d38_34) rfl (XT.ii_eq_t hc624) (by decide) (by decide) hr) ?_
        have hq0 : k1 = l1 := own_inj32 (by omega) (by omega) hc624
        have hc0 : cpl k1 = cpl l1 := congrArg cpl hq0
        refine Gl.go (fun _ hr => zXS_iloadN X623.here hx rfl (hb hby d38_44) rfl (zXS_iloadN X623.here hx rfl (hb hby d38_45) rfl hr)) ?_
        have zz625 : n0 ≤ h0.size := by omega
        refine gStaticN Gl.cl (y := y_22) (argsL := [(.int (Int32.ofNat k1))]) (rest := [(.int (0 : Int32))]) (mc := 0) (ms := 0) X623 hx hZ hown (mvT hZ (tw hw 155 rfl)) (mvT hZ (tw hw 156 rfl)) (mvT hZ (tw hw 149 rfl)) (mvT hZ (tw hw 157 rfl)) (by decide) (backOf (W := 1) (ccc l Z a0 hw [] k1 h0 n0 zz625 hk1.1.2) hZ (tw hw 157 rfl) (tw hw 149 rfl) (by decide) (by decide)) rfl (by rw [hml]; rfl) (lenOf pd_0 rfl) rfl (by exact Nat.le_of_eq rfl) (hb hby d38_46) rfl e623 (by decide) (by decide) ?_
        intro v625 T625 Lc625 hQ625 X625
        obtain ⟨rfl, Nq625, e625⟩ := hQ625
        have N625 := Fr.app N623 Nq625
        refine Gl.go (fun _ hr => zXS_iadd X625.here hx rfl (hb hby d38_49) rfl hr) ?_
        show Gl p.tables e below _ (T625.setTop (mkF m 50 #[sR x, sR y, sI 0, sI (Int32.ofNat k1), sI (Int32.ofNat l1)] [(.int ((0 : Int32) + (Int32.ofNat (cpl k1))))]))
        rw [(show (0 : Int32) + Int32.ofNat (cpl k1) = Int32.ofNat (cpl k1) from Int32.zero_add _)]
        show Gl p.tables e below _ (T625.setTop (mkF m 50 #[sR x, sR y, sI 0, sI (Int32.ofNat k1), sI (Int32.ofNat l1)] [(.int (Int32.ofNat (cpl k1)))]))
        refine Gl.go (fun _ hr => zXS_istoreN X625.here hx rfl (hb hby d38_50) rfl (l' := #[sR x, sR y, sI (Int32.ofNat (cpl k1)), sI (Int32.ofNat k1), sI (Int32.ofNat l1)]) rfl (zXS_goto X625.here hx rfl (pc0 := 51) (pc' := 2) rfl (hb hby d38_51) (by decide) (by decide) (zXS_iloadN X625.here hx rfl (hb hby d38_2) rfl (zXS_aloadN X625.here hx rfl (hb hby d38_3) rfl rfl hr)))) ?_
        refine gVirtualN Gl.cl (y := y_30) (z := y_30) (b := x) (argsL := []) (rest := [(.int (Int32.ofNat (cpl k1)))]) (mc := 0) (ms := 0) (Q := fun v h' L => v = some (.int (Int32.ofNat (un1 k1).length)) ∧ L = [] ∧ h' = h0) X625 hx hZ hown (mvT hZ (tw hw 96 rfl)) (mvT hZ (tw hw 97 rfl)) (notFace_of_selects (args := #[]) (mvT hZ (tw hw 99 rfl))) (mvT hZ (tw hw 99 rfl)) (mvT hZ (tw hw 98 rfl)) (by decide) q8 (StrChars.Road.lenW (W := 1) hZ hln (kI := 4) (tw hw 17 rfl) q8 q9 q10 q11 hcdx hbdx (q0.ext q2.2) P5 (by omega) (by decide) (by decide)) rfl (by rw [hml]; rfl) (lenOf pd_18 rfl) rfl (by exact Nat.le_of_eq rfl) (hb hby d38_4) rfl e625 (by decide) (by decide) ?_
        intro v626 T626 Lc626 hQ626 X626
        obtain ⟨rfl, rfl, e626⟩ := hQ626
        have N626 := own_fr_nil N625
        refine Gl.go (fun _ hr => zXS_icmpYes X626.here hx rfl (pc0 := 7) (pc' := 54) rfl (hb hby d38_7) rfl (XT.ii_ge_t (own_nlt32 (a := (cpl k1)) (b := (un1 k1).length) (by omega) (by omega) (by omega))) (by decide) (by decide) (zXS_aloadN X626.here hx rfl (hb hby d38_54) rfl rfl hr)) ?_
        refine gVirtualN Gl.cl (y := y_30) (z := y_30) (b := x) (argsL := []) (rest := []) (mc := 0) (ms := 0) (Q := fun v h' L => v = some (.int (Int32.ofNat (un1 k1).length)) ∧ L = [] ∧ h' = h0) X626 hx hZ hown (mvT hZ (tw hw 96 rfl)) (mvT hZ (tw hw 97 rfl)) (notFace_of_selects (args := #[]) (mvT hZ (tw hw 99 rfl))) (mvT hZ (tw hw 99 rfl)) (mvT hZ (tw hw 98 rfl)) (by decide) q8 (StrChars.Road.lenW (W := 0) hZ hln (kI := 4) (tw hw 17 rfl) q8 q9 q10 q11 hcdx hbdx (q0.ext q2.2) P5 (by omega) (by decide) (by decide)) rfl (by rw [hml]; rfl) (lenOf pd_18 rfl) rfl (by exact Nat.le_of_eq rfl) (hb hby d38_55) rfl e626 (by decide) (by decide) ?_
        intro v627 T627 Lc627 hQ627 X627
        obtain ⟨rfl, rfl, e627⟩ := hQ627
        have N627 := own_fr_nil N626
        refine Gl.go (fun _ hr => zXS_aloadN X627.here hx rfl (hb hby d38_58) rfl rfl hr) ?_
        refine gVirtualN Gl.cl (y := y_30) (z := y_30) (b := y) (argsL := []) (rest := [(.int (Int32.ofNat (un1 k1).length))]) (mc := 0) (ms := 0) (Q := fun v h' L => v = some (.int (Int32.ofNat (un1 l1 ++ un1 l2).length)) ∧ L = [] ∧ h' = h0) X627 hx hZ hown (mvT hZ (tw hw 96 rfl)) (mvT hZ (tw hw 97 rfl)) (notFace_of_selects (args := #[]) (mvT hZ (tw hw 99 rfl))) (mvT hZ (tw hw 99 rfl)) (mvT hZ (tw hw 98 rfl)) (by decide) q16 (StrChars.Road.lenW (W := 1) hZ hln (kI := 4) (tw hw 17 rfl) q16 q17 q18 q19 hcdy hbdy (q0.ext q2.2) P5 (by omega) (by decide) (by decide)) rfl (by rw [hml]; rfl) (lenOf pd_18 rfl) rfl (by exact Nat.le_of_eq rfl) (hb hby d38_59) rfl e627 (by decide) (by decide) ?_
        intro v628 T628 Lc628 hQ628 X628
        obtain ⟨rfl, rfl, e628⟩ := hQ628
        have N628 := own_fr_nil N627
        have zz629 : n0 ≤ h0.size := by omega
        refine gStaticN Gl.cl (y := y_35) (argsL := [(.int (Int32.ofNat (un1 k1).length)), (.int (Int32.ofNat (un1 l1 ++ un1 l2).length))]) (rest := []) (mc := 0) (ms := 0) X628 hx hZ hown (mvT hZ (tw hw 174 rfl)) (mvT hZ (tw hw 175 rfl)) (mvT hZ (tw hw 176 rfl)) (mvT hZ (tw hw 177 rfl)) (by decide) (backOf (W := 0) (icm l Z a0 hw [] ((un1 k1).length) ((un1 l1 ++ un1 l2).length) h0 n0 zz629 (by omega) (by omega)) hZ (tw hw 177 rfl) (tw hw 176 rfl) (by decide) (by decide)) rfl (by rw [hml]; rfl) (lenOf pd_21 rfl) rfl (by exact Nat.le_of_eq rfl) (hb hby d38_62) rfl e628 (by decide) (by decide) ?_
        intro v629 T629 Lc629 hQ629 X629
        obtain ⟨rfl, Nq629, e629⟩ := hQ629
        have N629 := Fr.app N628 Nq629
        obtain ⟨fs, hr, hrun, hended, hW, hsame⟩ := X629.leave (v := some (.int (cmpN (un1 k1).length (un1 l1 ++ un1 l2).length))) (fun h => by rw [Bd.returns] at h; cases h)
        refine ⟨_, _, retOut X629 hx Bd.returns rfl (Or.inl ⟨rfl, Or.inl rfl, _, rfl⟩) (hb hby d38_65) hr, hrun, hended, _, _, rfl, ?_, ⟨⟨_, rfl⟩, hW, hsame.mono (by decide) (by decide)⟩⟩
        show Qccp Z x t kb cd N vs nn k1 k2 y u kd ce M ws_ mm l1 l2 G1 G3 h0 n0 _ T629.heap _
        rw [e629]
        exact ⟨(own_some (own_c12 hn1 hm1 hq0)), N629, rfl⟩
      · refine Gl.go (fun _ hr => zXS_icmpNo X623.here hx rfl (hb hby d38_34) rfl (XT.ii_eq_f hc624) hr) ?_
        have hd0 : ¬ k1 = l1 := fun q => hc624 (congrArg Int32.ofNat q)
        refine Gl.go (fun _ hr => zXS_iloadN X623.here hx rfl (hb hby d38_37) rfl (zXS_iload X623.here hx rfl (hb hby d38_38) rfl hr)) ?_
        have zz630 : n0 ≤ h0.size := by omega
        refine gStaticN Gl.cl (y := y_35) (argsL := [(.int (Int32.ofNat k1)), (.int (Int32.ofNat l1))]) (rest := []) (mc := 0) (ms := 0) X623 hx hZ hown (mvT hZ (tw hw 174 rfl)) (mvT hZ (tw hw 175 rfl)) (mvT hZ (tw hw 176 rfl)) (mvT hZ (tw hw 177 rfl)) (by decide) (backOf (W := 0) (icm l Z a0 hw [] k1 l1 h0 n0 zz630 (by omega) (by omega)) hZ (tw hw 177 rfl) (tw hw 176 rfl) (by decide) (by decide)) rfl (by rw [hml]; rfl) (lenOf pd_21 rfl) rfl (by exact Nat.le_of_eq rfl) (hb hby d38_40) rfl e623 (by decide) (by decide) ?_
        intro v630 T630 Lc630 hQ630 X630
        obtain ⟨rfl, Nq630, e630⟩ := hQ630
        have N630 := Fr.app N623 Nq630
        obtain ⟨fs, hr, hrun, hended, hW, hsame⟩ := X630.leave (v := some (.int (cmpN k1 l1))) (fun h => by rw [Bd.returns] at h; cases h)
        refine ⟨_, _, retOut X630 hx Bd.returns rfl (Or.inl ⟨rfl, Or.inl rfl, _, rfl⟩) (hb hby d38_43) hr, hrun, hended, _, _, rfl, ?_, ⟨⟨_, rfl⟩, hW, hsame.mono (by decide) (by decide)⟩⟩
        show Qccp Z x t kb cd N vs nn k1 k2 y u kd ce M ws_ mm l1 l2 G1 G3 h0 n0 _ T630.heap _
        rw [e630]
        exact ⟨(own_some (own_cne hd0)), N630, rfl⟩
  · have hcdx : StrChars.Road.CodA (un1 k1 ++ un1 k2) cd N vs := by have q := cod_x; rw [own_unl2 hn1] at q; exact q
    have hbdx := un2_wid hk1.1.2 hk2.1.2
    have hlex := un2_len k1 k2
    show Gl p.tables e below _ (s₁.setTop (mkF m 0 #[sR x, sR y, sU, sU, sU] []))
    rcases id hn_y with hm1 | hm1
    · have hcdy : StrChars.Road.CodA (un1 l1) ce M ws_ := by have q := cod_y; rw [own_unl1 hm1] at q; exact q
      have hbdy := un1_wid hl1.1.2
      have hley := un1_len l1
      show Gl p.tables e below _ (s₁.setTop (mkF m 0 #[sR x, sR y, sU, sU, sU] []))
      refine Gl.go (fun _ hr => zXS_iconst X0.here hx rfl (hb hby d38_0) (zXS_istoreN X0.here hx rfl (hb hby d38_1) rfl (l' := #[sR x, sR y, sI 0, sU, sU]) rfl (zXS_iloadN X0.here hx rfl (hb hby d38_2) rfl (zXS_aloadN X0.here hx rfl (hb hby d38_3) rfl rfl hr)))) ?_
      refine gVirtualN Gl.cl (y := y_30) (z := y_30) (b := x) (argsL := []) (rest := [(.int (0 : Int32))]) (mc := 0) (ms := 0) (Q := fun v h' L => v = some (.int (Int32.ofNat (un1 k1 ++ un1 k2).length)) ∧ L = [] ∧ h' = h0) X0 hx hZ hown (mvT hZ (tw hw 96 rfl)) (mvT hZ (tw hw 97 rfl)) (notFace_of_selects (args := #[]) (mvT hZ (tw hw 99 rfl))) (mvT hZ (tw hw 99 rfl)) (mvT hZ (tw hw 98 rfl)) (by decide) q8 (StrChars.Road.lenW (W := 1) hZ hln (kI := 4) (tw hw 17 rfl) q8 q9 q10 q11 hcdx hbdx (q0.ext q2.2) P5 (by omega) (by decide) (by decide)) rfl (by rw [hml]; rfl) (lenOf pd_18 rfl) rfl (by exact Nat.le_of_eq rfl) (hb hby d38_4) rfl e0 (by decide) (by decide) ?_
      intro v631 T631 Lc631 hQ631 X631
      obtain ⟨rfl, rfl, e631⟩ := hQ631
      have N631 := own_fr_nil N0
      refine Gl.go (fun _ hr => zXS_icmpNo X631.here hx rfl (hb hby d38_7) rfl (XT.ii_ge_f (own_lt32 (a := 0) (b := (un1 k1 ++ un1 k2).length) (by omega) (by omega))) (zXS_iloadN X631.here hx rfl (hb hby d38_10) rfl (zXS_aloadN X631.here hx rfl (hb hby d38_11) rfl rfl hr))) ?_
      refine gVirtualN Gl.cl (y := y_30) (z := y_30) (b := y) (argsL := []) (rest := [(.int (0 : Int32))]) (mc := 0) (ms := 0) (Q := fun v h' L => v = some (.int (Int32.ofNat (un1 l1).length)) ∧ L = [] ∧ h' = h0) X631 hx hZ hown (mvT hZ (tw hw 96 rfl)) (mvT hZ (tw hw 97 rfl)) (notFace_of_selects (args := #[]) (mvT hZ (tw hw 99 rfl))) (mvT hZ (tw hw 99 rfl)) (mvT hZ (tw hw 98 rfl)) (by decide) q16 (StrChars.Road.lenW (W := 1) hZ hln (kI := 4) (tw hw 17 rfl) q16 q17 q18 q19 hcdy hbdy (q0.ext q2.2) P5 (by omega) (by decide) (by decide)) rfl (by rw [hml]; rfl) (lenOf pd_18 rfl) rfl (by exact Nat.le_of_eq rfl) (hb hby d38_12) rfl e631 (by decide) (by decide) ?_
      intro v632 T632 Lc632 hQ632 X632
      obtain ⟨rfl, rfl, e632⟩ := hQ632
      have N632 := own_fr_nil N631
      refine Gl.go (fun _ hr => zXS_icmpNo X632.here hx rfl (hb hby d38_15) rfl (XT.ii_ge_f (own_lt32 (a := 0) (b := (un1 l1).length) (by omega) (by omega))) (zXS_aloadN X632.here hx rfl (hb hby d38_18) rfl rfl (zXS_iloadN X632.here hx rfl (hb hby d38_19) rfl hr))) ?_
      have zz633 : n0 ≤ h0.size := by omega
      refine gVirtualN Gl.cl (y := y_25) (z := y_25) (b := x) (argsL := [(.int (0 : Int32))]) (rest := []) (mc := 0) (ms := 0) X632 hx hZ hown (mvT hZ (tw hw 135 rfl)) (mvT hZ (tw hw 136 rfl)) (notFace_of_selects (args := #[]) (mvT hZ (tw hw 138 rfl))) (mvT hZ (tw hw 138 rfl)) (mvT hZ (tw hw 137 rfl)) (by decide) q8 (backOf (W := 0) (cpa l Z a0 hw [] x t kb cd N vs (un1 k1 ++ un1 k2) 0 k1 G1 G3 h0 n0 zz633 q0 (by assumption) q2 q3 (by assumption) q5 q6 q7 q8 q9 q10 q11 hcdx (atc2 k1 k2) hk1 (by omega) hbdx) hZ (tw hw 139 rfl) (tw hw 18 rfl) (by decide) (by decide)) rfl (by rw [hml]; rfl) (lenOf pd_0 rfl) rfl (by exact Nat.le_of_eq rfl) (hb hby d38_20) rfl e632 (by decide) (by decide) ?_
      intro v633 T633 Lc633 hQ633 X633
      obtain ⟨rfl, Nq633, e633⟩ := hQ633
      have N633 := Fr.app N632 Nq633
      refine Gl.go (fun _ hr => zXS_istoreN X633.here hx rfl (hb hby d38_23) rfl (l' := #[sR x, sR y, sI 0, sI (Int32.ofNat k1), sU]) rfl (zXS_aloadN X633.here hx rfl (hb hby d38_24) rfl rfl (zXS_iloadN X633.here hx rfl (hb hby d38_25) rfl hr))) ?_
      have zz634 : n0 ≤ h0.size := by omega
      refine gVirtualN Gl.cl (y := y_25) (z := y_25) (b := y) (argsL := [(.int (0 : Int32))]) (rest := []) (mc := 0) (ms := 0) X633 hx hZ hown (mvT hZ (tw hw 135 rfl)) (mvT hZ (tw hw 136 rfl)) (notFace_of_selects (args := #[]) (mvT hZ (tw hw 138 rfl))) (mvT hZ (tw hw 138 rfl)) (mvT hZ (tw hw 137 rfl)) (by decide) q16 (backOf (W := 0) (cpa l Z a0 hw [] y u kd ce M ws_ (un1 l1) 0 l1 G1 G3 h0 n0 zz634 q0 (by assumption) q2 q3 (by assumption) q5 q6 q7 q16 q17 q18 q19 hcdy (atc1 l1) hl1 (by omega) hbdy) hZ (tw hw 139 rfl) (tw hw 18 rfl) (by decide) (by decide)) rfl (by rw [hml]; rfl) (lenOf pd_0 rfl) rfl (by exact Nat.le_of_eq rfl) (hb hby d38_26) rfl e633 (by decide) (by decide) ?_
      intro v634 T634 Lc634 hQ634 X634
      obtain ⟨rfl, Nq634, e634⟩ := hQ634
      have N634 := Fr.app N633 Nq634
      refine Gl.go (fun _ hr => zXS_istore X634.here hx rfl (hb hby d38_29) rfl (l' := #[sR x, sR y, sI 0, sI (Int32.ofNat k1), sI (Int32.ofNat l1)]) rfl (zXS_iloadN X634.here hx rfl (hb hby d38_31) rfl (zXS_iload X634.here hx rfl (hb hby d38_32) rfl hr))) ?_
      by_cases hc635 : (Int32.ofNat k1) = (Int32.ofNat l1)
      · refine Gl.go (fun _ hr => zXS_icmpYes X634.here hx rfl (pc0 := 34) (pc' := 44) rfl (hb hby d38_34) rfl (XT.ii_eq_t hc635) (by decide) (by decide) hr) ?_
        have hq0 : k1 = l1 := own_inj32 (by omega) (by omega) hc635
        have hc0 : cpl k1 = cpl l1 := congrArg cpl hq0
        refine Gl.go (fun _ hr => zXS_iloadN X634.here hx rfl (hb hby d38_44) rfl (zXS_iloadN X634.here hx rfl (hb hby d38_45) rfl hr)) ?_
        have zz636 : n0 ≤ h0.size := by omega
        refine gStaticN Gl.cl (y := y_22) (argsL := [(.int (Int32.ofNat k1))]) (rest := [(.int (0 : Int32))]) (mc := 0) (ms := 0) X634 hx hZ hown (mvT hZ (tw hw 155 rfl)) (mvT hZ (tw hw 156 rfl)) (mvT hZ (tw hw 149 rfl)) (mvT hZ (tw hw 157 rfl)) (by decide) (backOf (W := 1) (ccc l Z a0 hw [] k1 h0 n0 zz636 hk1.1.2) hZ (tw hw 157 rfl) (tw hw 149 rfl) (by decide) (by decide)) rfl (by rw [hml]; rfl) (lenOf pd_0 rfl) rfl (by exact Nat.le_of_eq rfl) (hb hby d38_46) rfl e634 (by decide) (by decide) ?_
        intro v636 T636 Lc636 hQ636 X636
        obtain ⟨rfl, Nq636, e636⟩ := hQ636
        have N636 := Fr.app N634 Nq636
        refine Gl.go (fun _ hr => zXS_iadd X636.here hx rfl (hb hby d38_49) rfl hr) ?_
        show Gl p.tables e below _ (T636.setTop (mkF m 50 #[sR x, sR y, sI 0, sI (Int32.ofNat k1), sI (Int32.ofNat l1)] [(.int ((0 : Int32) + (Int32.ofNat (cpl k1))))]))
        rw [(show (0 : Int32) + Int32.ofNat (cpl k1) = Int32.ofNat (cpl k1) from Int32.zero_add _)]
        show Gl p.tables e below _ (T636.setTop (mkF m 50 #[sR x, sR y, sI 0, sI (Int32.ofNat k1), sI (Int32.ofNat l1)] [(.int (Int32.ofNat (cpl k1)))]))
        refine Gl.go (fun _ hr => zXS_istoreN X636.here hx rfl (hb hby d38_50) rfl (l' := #[sR x, sR y, sI (Int32.ofNat (cpl k1)), sI (Int32.ofNat k1), sI (Int32.ofNat l1)]) rfl (zXS_goto X636.here hx rfl (pc0 := 51) (pc' := 2) rfl (hb hby d38_51) (by decide) (by decide) (zXS_iloadN X636.here hx rfl (hb hby d38_2) rfl (zXS_aloadN X636.here hx rfl (hb hby d38_3) rfl rfl hr)))) ?_
        refine gVirtualN Gl.cl (y := y_30) (z := y_30) (b := x) (argsL := []) (rest := [(.int (Int32.ofNat (cpl k1)))]) (mc := 0) (ms := 0) (Q := fun v h' L => v = some (.int (Int32.ofNat (un1 k1 ++ un1 k2).length)) ∧ L = [] ∧ h' = h0) X636 hx hZ hown (mvT hZ (tw hw 96 rfl)) (mvT hZ (tw hw 97 rfl)) (notFace_of_selects (args := #[]) (mvT hZ (tw hw 99 rfl))) (mvT hZ (tw hw 99 rfl)) (mvT hZ (tw hw 98 rfl)) (by decide) q8 (StrChars.Road.lenW (W := 1) hZ hln (kI := 4) (tw hw 17 rfl) q8 q9 q10 q11 hcdx hbdx (q0.ext q2.2) P5 (by omega) (by decide) (by decide)) rfl (by rw [hml]; rfl) (lenOf pd_18 rfl) rfl (by exact Nat.le_of_eq rfl) (hb hby d38_4) rfl e636 (by decide) (by decide) ?_
        intro v637 T637 Lc637 hQ637 X637
        obtain ⟨rfl, rfl, e637⟩ := hQ637
        have N637 := own_fr_nil N636
        refine Gl.go (fun _ hr => zXS_icmpNo X637.here hx rfl (hb hby d38_7) rfl (XT.ii_ge_f (own_lt32 (a := (cpl k1)) (b := (un1 k1 ++ un1 k2).length) (by omega) (by omega))) (zXS_iloadN X637.here hx rfl (hb hby d38_10) rfl (zXS_aloadN X637.here hx rfl (hb hby d38_11) rfl rfl hr))) ?_
        refine gVirtualN Gl.cl (y := y_30) (z := y_30) (b := y) (argsL := []) (rest := [(.int (Int32.ofNat (cpl k1)))]) (mc := 0) (ms := 0) (Q := fun v h' L => v = some (.int (Int32.ofNat (un1 l1).length)) ∧ L = [] ∧ h' = h0) X637 hx hZ hown (mvT hZ (tw hw 96 rfl)) (mvT hZ (tw hw 97 rfl)) (notFace_of_selects (args := #[]) (mvT hZ (tw hw 99 rfl))) (mvT hZ (tw hw 99 rfl)) (mvT hZ (tw hw 98 rfl)) (by decide) q16 (StrChars.Road.lenW (W := 1) hZ hln (kI := 4) (tw hw 17 rfl) q16 q17 q18 q19 hcdy hbdy (q0.ext q2.2) P5 (by omega) (by decide) (by decide)) rfl (by rw [hml]; rfl) (lenOf pd_18 rfl) rfl (by exact Nat.le_of_eq rfl) (hb hby d38_12) rfl e637 (by decide) (by decide) ?_
        intro v638 T638 Lc638 hQ638 X638
        obtain ⟨rfl, rfl, e638⟩ := hQ638
        have N638 := own_fr_nil N637
        refine Gl.go (fun _ hr => zXS_icmpYes X638.here hx rfl (pc0 := 15) (pc' := 54) rfl (hb hby d38_15) rfl (XT.ii_ge_t (own_nlt32 (a := (cpl k1)) (b := (un1 l1).length) (by omega) (by omega) (by omega))) (by decide) (by decide) (zXS_aloadN X638.here hx rfl (hb hby d38_54) rfl rfl hr)) ?_
        refine gVirtualN Gl.cl (y := y_30) (z := y_30) (b := x) (argsL := []) (rest := []) (mc := 0) (ms := 0) (Q := fun v h' L => v = some (.int (Int32.ofNat (un1 k1 ++ un1 k2).length)) ∧ L = [] ∧ h' = h0) X638 hx hZ hown (mvT hZ (tw hw 96 rfl)) (mvT hZ (tw hw 97 rfl)) (notFace_of_selects (args := #[]) (mvT hZ (tw hw 99 rfl))) (mvT hZ (tw hw 99 rfl)) (mvT hZ (tw hw 98 rfl)) (by decide) q8 (StrChars.Road.lenW (W := 0) hZ hln (kI := 4) (tw hw 17 rfl) q8 q9 q10 q11 hcdx hbdx (q0.ext q2.2) P5 (by omega) (by decide) (by decide)) rfl (by rw [hml]; rfl) (lenOf pd_18 rfl) rfl (by exact Nat.le_of_eq rfl) (hb hby d38_55) rfl e638 (by decide) (by decide) ?_
        intro v639 T639 Lc639 hQ639 X639
        obtain ⟨rfl, rfl, e639⟩ := hQ639
        have N639 := own_fr_nil N638
        refine Gl.go (fun _ hr => zXS_aloadN X639.here hx rfl (hb hby d38_58) rfl rfl hr) ?_
        refine gVirtualN Gl.cl (y := y_30) (z := y_30) (b := y) (argsL := []) (rest := [(.int (Int32.ofNat (un1 k1 ++ un1 k2).length))]) (mc := 0) (ms := 0) (Q := fun v h' L => v = some (.int (Int32.ofNat (un1 l1).length)) ∧ L = [] ∧ h' = h0) X639 hx hZ hown (mvT hZ (tw hw 96 rfl)) (mvT hZ (tw hw 97 rfl)) (notFace_of_selects (args := #[]) (mvT hZ (tw hw 99 rfl))) (mvT hZ (tw hw 99 rfl)) (mvT hZ (tw hw 98 rfl)) (by decide) q16 (StrChars.Road.lenW (W := 1) hZ hln (kI := 4) (tw hw 17 rfl) q16 q17 q18 q19 hcdy hbdy (q0.ext q2.2) P5 (by omega) (by decide) (by decide)) rfl (by rw [hml]; rfl) (lenOf pd_18 rfl) rfl (by exact Nat.le_of_eq rfl) (hb hby d38_59) rfl e639 (by decide) (by decide) ?_
        intro v640 T640 Lc640 hQ640 X640
        obtain ⟨rfl, rfl, e640⟩ := hQ640
        have N640 := own_fr_nil N639
        have zz641 : n0 ≤ h0.size := by omega
        refine gStaticN Gl.cl (y := y_35) (argsL := [(.int (Int32.ofNat (un1 k1 ++ un1 k2).length)), (.int (Int32.ofNat (un1 l1).length))]) (rest := []) (mc := 0) (ms := 0) X640 hx hZ hown (mvT hZ (tw hw 174 rfl)) (mvT hZ (tw hw 175 rfl)) (mvT hZ (tw hw 176 rfl)) (mvT hZ (tw hw 177 rfl)) (by decide) (backOf (W := 0) (icm l Z a0 hw [] ((un1 k1 ++ un1 k2).length) ((un1 l1).length) h0 n0 zz641 (by omega) (by omega)) hZ (tw hw 177 rfl) (tw hw 176 rfl) (by decide) (by decide)) rfl (by rw [hml]; rfl) (lenOf pd_21 rfl) rfl (by exact Nat.le_of_eq rfl) (hb hby d38_62) rfl e640 (by decide) (by decide) ?_
        intro v641 T641 Lc641 hQ641 X641
        obtain ⟨rfl, Nq641, e641⟩ := hQ641
        have N641 := Fr.app N640 Nq641
        obtain ⟨fs, hr, hrun, hended, hW, hsame⟩ := X641.leave (v := some (.int (cmpN (un1 k1 ++ un1 k2).length (un1 l1).length))) (fun h => by rw [Bd.returns] at h; cases h)
        refine ⟨_, _, retOut X641 hx Bd.returns rfl (Or.inl ⟨rfl, Or.inl rfl, _, rfl⟩) (hb hby d38_65) hr, hrun, hended, _, _, rfl, ?_, ⟨⟨_, rfl⟩, hW, hsame.mono (by decide) (by decide)⟩⟩
        show Qccp Z x t kb cd N vs nn k1 k2 y u kd ce M ws_ mm l1 l2 G1 G3 h0 n0 _ T641.heap _
        rw [e641]
        exact ⟨(own_some (own_c21 hn1 hm1 hq0)), N641, rfl⟩
      · refine Gl.go (fun _ hr => zXS_icmpNo X634.here hx rfl (hb hby d38_34) rfl (XT.ii_eq_f hc635) hr) ?_
        have hd0 : ¬ k1 = l1 := fun q => hc635 (congrArg Int32.ofNat q)
        refine Gl.go (fun _ hr => zXS_iloadN X634.here hx rfl (hb hby d38_37) rfl (zXS_iload X634.here hx rfl (hb hby d38_38) rfl hr)) ?_
        have zz642 : n0 ≤ h0.size := by omega
        refine gStaticN Gl.cl (y := y_35) (argsL := [(.int (Int32.ofNat k1)), (.int (Int32.ofNat l1))]) (rest := []) (mc := 0) (ms := 0) X634 hx hZ hown (mvT hZ (tw hw 174 rfl)) (mvT hZ (tw hw 175 rfl)) (mvT hZ (tw hw 176 rfl)) (mvT hZ (tw hw 177 rfl)) (by decide) (backOf (W := 0) (icm l Z a0 hw [] k1 l1 h0 n0 zz642 (by omega) (by omega)) hZ (tw hw 177 rfl) (tw hw 176 rfl) (by decide) (by decide)) rfl (by rw [hml]; rfl) (lenOf pd_21 rfl) rfl (by exact Nat.le_of_eq rfl) (hb hby d38_40) rfl e634 (by decide) (by decide) ?_
        intro v642 T642 Lc642 hQ642 X642
        obtain ⟨rfl, Nq642, e642⟩ := hQ642
        have N642 := Fr.app N634 Nq642
        obtain ⟨fs, hr, hrun, hended, hW, hsame⟩ := X642.leave (v := some (.int (cmpN k1 l1))) (fun h => by rw [Bd.returns] at h; cases h)
        refine ⟨_, _, retOut X642 hx Bd.returns rfl (Or.inl ⟨rfl, Or.inl rfl, _, rfl⟩) (hb hby d38_43) hr, hrun, hended, _, _, rfl, ?_, ⟨⟨_, rfl⟩, hW, hsame.mono (by decide) (by decide)⟩⟩
        show Qccp Z x t kb cd N vs nn k1 k2 y u kd ce M ws_ mm l1 l2 G1 G3 h0 n0 _ T642.heap _
        rw [e642]
        exact ⟨(own_some (own_cne hd0)), N642, rfl⟩
    · have hcdy : StrChars.Road.CodA (un1 l1 ++ un1 l2) ce M ws_ := by have q := cod_y; rw [own_unl2 hm1] at q; exact q
      have hbdy := un2_wid hl1.1.2 hl2.1.2
      have hley := un2_len l1 l2
      show Gl p.tables e below _ (s₁.setTop (mkF m 0 #[sR x, sR y, sU, sU, sU] []))
      refine Gl.go (fun _ hr => zXS_iconst X0.here hx rfl (hb hby d38_0) (zXS_istoreN X0.here hx rfl (hb hby d38_1) rfl (l' := #[sR x, sR y, sI 0, sU, sU]) rfl (zXS_iloadN X0.here hx rfl (hb hby d38_2) rfl (zXS_aloadN X0.here hx rfl (hb hby d38_3) rfl rfl hr)))) ?_
      refine gVirtualN Gl.cl (y := y_30) (z := y_30) (b := x) (argsL := []) (rest := [(.int (0 : Int32))]) (mc := 0) (ms := 0) (Q := fun v h' L => v = some (.int (Int32.ofNat (un1 k1 ++ un1 k2).length)) ∧ L = [] ∧ h' = h0) X0 hx hZ hown (mvT hZ (tw hw 96 rfl)) (mvT hZ (tw hw 97 rfl)) (notFace_of_selects (args := #[]) (mvT hZ (tw hw 99 rfl))) (mvT hZ (tw hw 99 rfl)) (mvT hZ (tw hw 98 rfl)) (by decide) q8 (StrChars.Road.lenW (W := 1) hZ hln (kI := 4) (tw hw 17 rfl) q8 q9 q10 q11 hcdx hbdx (q0.ext q2.2) P5 (by omega) (by decide) (by decide)) rfl (by rw [hml]; rfl) (lenOf pd_18 rfl) rfl (by exact Nat.le_of_eq rfl) (hb hby d38_4) rfl e0 (by decide) (by decide) ?_
      intro v643 T643 Lc643 hQ643 X643
      obtain ⟨rfl, rfl, e643⟩ := hQ643
      have N643 := own_fr_nil N0
      refine Gl.go (fun _ hr => zXS_icmpNo X643.here hx rfl (hb hby d38_7) rfl (XT.ii_ge_f (own_lt32 (a := 0) (b := (un1 k1 ++ un1 k2).length) (by omega) (by omega))) (zXS_iloadN X643.here hx rfl (hb hby d38_10) rfl (zXS_aloadN X643.here hx rfl (hb hby d38_11) rfl rfl hr))) ?_
      refine gVirtualN Gl.cl (y := y_30) (z := y_30) (b := y) (argsL := []) (rest := [(.int (0 : Int32))]) (mc := 0) (ms := 0) (Q := fun v h' L => v = some (.int (Int32.ofNat (un1 l1 ++ un1 l2).length)) ∧ L = [] ∧ h' = h0) X643 hx hZ hown (mvT hZ (tw hw 96 rfl)) (mvT hZ (tw hw 97 rfl)) (notFace_of_selects (args := #[]) (mvT hZ (tw hw 99 rfl))) (mvT hZ (tw hw 99 rfl)) (mvT hZ (tw hw 98 rfl)) (by decide) q16 (StrChars.Road.lenW (W := 1) hZ hln (kI := 4) (tw hw 17 rfl) q16 q17 q18 q19 hcdy hbdy (q0.ext q2.2) P5 (by omega) (by decide) (by decide)) rfl (by rw [hml]; rfl) (lenOf pd_18 rfl) rfl (by exact Nat.le_of_eq rfl) (hb hby d38_12) rfl e643 (by decide) (by decide) ?_
      intro v644 T644 Lc644 hQ644 X644
      obtain ⟨rfl, rfl, e644⟩ := hQ644
      have N644 := own_fr_nil N643
      refine Gl.go (fun _ hr => zXS_icmpNo X644.here hx rfl (hb hby d38_15) rfl (XT.ii_ge_f (own_lt32 (a := 0) (b := (un1 l1 ++ un1 l2).length) (by omega) (by omega))) (zXS_aloadN X644.here hx rfl (hb hby d38_18) rfl rfl (zXS_iloadN X644.here hx rfl (hb hby d38_19) rfl hr))) ?_
      have zz645 : n0 ≤ h0.size := by omega
      refine gVirtualN Gl.cl (y := y_25) (z := y_25) (b := x) (argsL := [(.int (0 : Int32))]) (rest := []) (mc := 0) (ms := 0) X644 hx hZ hown (mvT hZ (tw hw 135 rfl)) (mvT hZ (tw hw 136 rfl)) (notFace_of_selects (args := #[]) (mvT hZ (tw hw 138 rfl))) (mvT hZ (tw hw 138 rfl)) (mvT hZ (tw hw 137 rfl)) (by decide) q8 (backOf (W := 0) (cpa l Z a0 hw [] x t kb cd N vs (un1 k1 ++ un1 k2) 0 k1 G1 G3 h0 n0 zz645 q0 (by assumption) q2 q3 (by assumption) q5 q6 q7 q8 q9 q10 q11 hcdx (atc2 k1 k2) hk1 (by omega) hbdx) hZ (tw hw 139 rfl) (tw hw 18 rfl) (by decide) (by decide)) rfl (by rw [hml]; rfl) (lenOf pd_0 rfl) rfl (by exact Nat.le_of_eq rfl) (hb hby d38_20) rfl e644 (by decide) (by decide) ?_
      intro v645 T645 Lc645 hQ645 X645
      obtain ⟨rfl, Nq645, e645⟩ := hQ645
      have N645 := Fr.app N644 Nq645
      refine Gl.go (fun _ hr => zXS_istoreN X645.here hx rfl (hb hby d38_23) rfl (l' := #[sR x, sR y, sI 0, sI (Int32.ofNat k1), sU]) rfl (zXS_aloadN X645.here hx rfl (hb hby d38_24) rfl rfl (zXS_iloadN X645.here hx rfl (hb hby d38_25) rfl hr))) ?_
      have zz646 : n0 ≤ h0.size := by omega
      refine gVirtualN Gl.cl (y := y_25) (z := y_25) (b := y) (argsL := [(.int (0 : Int32))]) (rest := []) (mc := 0) (ms := 0) X645 hx hZ hown (mvT hZ (tw hw 135 rfl)) (mvT hZ (tw hw 136 rfl)) (notFace_of_selects (args := #[]) (mvT hZ (tw hw 138 rfl))) (mvT hZ (tw hw 138 rfl)) (mvT hZ (tw hw 137 rfl)) (by decide) q16 (backOf (W := 0) (cpa l Z a0 hw [] y u kd ce M ws_ (un1 l1 ++ un1 l2) 0 l1 G1 G3 h0 n0 zz646 q0 (by assumption) q2 q3 (by assumption) q5 q6 q7 q16 q17 q18 q19 hcdy (atc2 l1 l2) hl1 (by omega) hbdy) hZ (tw hw 139 rfl) (tw hw 18 rfl) (by decide) (by decide)) rfl (by rw [hml]; rfl) (lenOf pd_0 rfl) rfl (by exact Nat.le_of_eq rfl) (hb hby d38_26) rfl e645 (by decide) (by decide) ?_
      intro v646 T646 Lc646 hQ646 X646
      obtain ⟨rfl, Nq646, e646⟩ := hQ646
      have N646 := Fr.app N645 Nq646
      refine Gl.go (fun _ hr => zXS_istore X646.here hx rfl (hb hby d38_29) rfl (l' := #[sR x, sR y, sI 0, sI (Int32.ofNat k1), sI (Int32.ofNat l1)]) rfl (zXS_iloadN X646.here hx rfl (hb hby d38_31) rfl (zXS_iload X646.here hx rfl (hb hby d38_32) rfl hr))) ?_
      by_cases hc647 : (Int32.ofNat k1) = (Int32.ofNat l1)
      · refine Gl.go (fun _ hr => zXS_icmpYes X646.here hx rfl (pc0 := 34) (pc' := 44) rfl (hb hby d38_34) rfl (XT.ii_eq_t hc647) (by decide) (by decide) hr) ?_
        have hq0 : k1 = l1 := own_inj32 (by omega) (by omega) hc647
        have hc0 : cpl k1 = cpl l1 := congrArg cpl hq0
        refine Gl.go (fun _ hr => zXS_iloadN X646.here hx rfl (hb hby d38_44) rfl (zXS_iloadN X646.here hx rfl (hb hby d38_45) rfl hr)) ?_
        have zz648 : n0 ≤ h0.size := by omega
        refine gStaticN Gl.cl (y := y_22) (argsL := [(.int (Int32.ofNat k1))]) (rest := [(.int (0 : Int32))]) (mc := 0) (ms := 0) X646 hx hZ hown (mvT hZ (tw hw 155 rfl)) (mvT hZ (tw hw 156 rfl)) (mvT hZ (tw hw 149 rfl)) (mvT hZ (tw hw 157 rfl)) (by decide) (backOf (W := 1) (ccc l Z a0 hw [] k1 h0 n0 zz648 hk1.1.2) hZ (tw hw 157 rfl) (tw hw 149 rfl) (by decide) (by decide)) rfl (by rw [hml]; rfl) (lenOf pd_0 rfl) rfl (by exact Nat.le_of_eq rfl) (hb hby d38_46) rfl e646 (by decide) (by decide) ?_
        intro v648 T648 Lc648 hQ648 X648
        obtain ⟨rfl, Nq648, e648⟩ := hQ648
        have N648 := Fr.app N646 Nq648
        refine Gl.go (fun _ hr => zXS_iadd X648.here hx rfl (hb hby d38_49) rfl hr) ?_
        show Gl p.tables e below _ (T648.setTop (mkF m 50 #[sR x, sR y, sI 0, sI (Int32.ofNat k1), sI (Int32.ofNat l1)] [(.int ((0 : Int32) + (Int32.ofNat (cpl k1))))]))
        rw [(show (0 : Int32) + Int32.ofNat (cpl k1) = Int32.ofNat (cpl k1) from Int32.zero_add _)]
        show Gl p.tables e below _ (T648.setTop (mkF m 50 #[sR x, sR y, sI 0, sI (Int32.ofNat k1), sI (Int32.ofNat l1)] [(.int (Int32.ofNat (cpl k1)))]))
        refine Gl.go (fun _ hr => zXS_istoreN X648.here hx rfl (hb hby d38_50) rfl (l' := #[sR x, sR y, sI (Int32.ofNat (cpl k1)), sI (Int32.ofNat k1), sI (Int32.ofNat l1)]) rfl (zXS_goto X648.here hx rfl (pc0 := 51) (pc' := 2) rfl (hb hby d38_51) (by decide) (by decide) (zXS_iloadN X648.here hx rfl (hb hby d38_2) rfl (zXS_aloadN X648.here hx rfl (hb hby d38_3) rfl rfl hr)))) ?_
        refine gVirtualN Gl.cl (y := y_30) (z := y_30) (b := x) (argsL := []) (rest := [(.int (Int32.ofNat (cpl k1)))]) (mc := 0) (ms := 0) (Q := fun v h' L => v = some (.int (Int32.ofNat (un1 k1 ++ un1 k2).length)) ∧ L = [] ∧ h' = h0) X648 hx hZ hown (mvT hZ (tw hw 96 rfl)) (mvT hZ (tw hw 97 rfl)) (notFace_of_selects (args := #[]) (mvT hZ (tw hw 99 rfl))) (mvT hZ (tw hw 99 rfl)) (mvT hZ (tw hw 98 rfl)) (by decide) q8 (StrChars.Road.lenW (W := 1) hZ hln (kI := 4) (tw hw 17 rfl) q8 q9 q10 q11 hcdx hbdx (q0.ext q2.2) P5 (by omega) (by decide) (by decide)) rfl (by rw [hml]; rfl) (lenOf pd_18 rfl) rfl (by exact Nat.le_of_eq rfl) (hb hby d38_4) rfl e648 (by decide) (by decide) ?_
        intro v649 T649 Lc649 hQ649 X649
        obtain ⟨rfl, rfl, e649⟩ := hQ649
        have N649 := own_fr_nil N648
        refine Gl.go (fun _ hr => zXS_icmpNo X649.here hx rfl (hb hby d38_7) rfl (XT.ii_ge_f (own_lt32 (a := (cpl k1)) (b := (un1 k1 ++ un1 k2).length) (by omega) (by omega))) (zXS_iloadN X649.here hx rfl (hb hby d38_10) rfl (zXS_aloadN X649.here hx rfl (hb hby d38_11) rfl rfl hr))) ?_
        refine gVirtualN Gl.cl (y := y_30) (z := y_30) (b := y) (argsL := []) (rest := [(.int (Int32.ofNat (cpl k1)))]) (mc := 0) (ms := 0) (Q := fun v h' L => v = some (.int (Int32.ofNat (un1 l1 ++ un1 l2).length)) ∧ L = [] ∧ h' = h0) X649 hx hZ hown (mvT hZ (tw hw 96 rfl)) (mvT hZ (tw hw 97 rfl)) (notFace_of_selects (args := #[]) (mvT hZ (tw hw 99 rfl))) (mvT hZ (tw hw 99 rfl)) (mvT hZ (tw hw 98 rfl)) (by decide) q16 (StrChars.Road.lenW (W := 1) hZ hln (kI := 4) (tw hw 17 rfl) q16 q17 q18 q19 hcdy hbdy (q0.ext q2.2) P5 (by omega) (by decide) (by decide)) rfl (by rw [hml]; rfl) (lenOf pd_18 rfl) rfl (by exact Nat.le_of_eq rfl) (hb hby d38_12) rfl e649 (by decide) (by decide) ?_
        intro v650 T650 Lc650 hQ650 X650
        obtain ⟨rfl, rfl, e650⟩ := hQ650
        have N650 := own_fr_nil N649
        refine Gl.go (fun _ hr => zXS_icmpNo X650.here hx rfl (hb hby d38_15) rfl (XT.ii_ge_f (own_lt32 (a := (cpl k1)) (b := (un1 l1 ++ un1 l2).length) (by omega) (by omega))) (zXS_aloadN X650.here hx rfl (hb hby d38_18) rfl rfl (zXS_iloadN X650.here hx rfl (hb hby d38_19) rfl hr))) ?_
        have zz651 : n0 ≤ h0.size := by omega
        refine gVirtualN Gl.cl (y := y_25) (z := y_25) (b := x) (argsL := [(.int (Int32.ofNat (cpl k1)))]) (rest := []) (mc := 0) (ms := 0) X650 hx hZ hown (mvT hZ (tw hw 135 rfl)) (mvT hZ (tw hw 136 rfl)) (notFace_of_selects (args := #[]) (mvT hZ (tw hw 138 rfl))) (mvT hZ (tw hw 138 rfl)) (mvT hZ (tw hw 137 rfl)) (by decide) q8 (backOf (W := 0) (cpa l Z a0 hw [] x t kb cd N vs (un1 k1 ++ un1 k2) (cpl k1) k2 G1 G3 h0 n0 zz651 q0 (by assumption) q2 q3 (by assumption) q5 q6 q7 q8 q9 q10 q11 hcdx (atc3 k1 k2) hk2 (by omega) hbdx) hZ (tw hw 139 rfl) (tw hw 18 rfl) (by decide) (by decide)) rfl (by rw [hml]; rfl) (lenOf pd_0 rfl) rfl (by exact Nat.le_of_eq rfl) (hb hby d38_20) rfl e650 (by decide) (by decide) ?_
        intro v651 T651 Lc651 hQ651 X651
        obtain ⟨rfl, Nq651, e651⟩ := hQ651
        have N651 := Fr.app N650 Nq651
        refine Gl.go (fun _ hr => zXS_istoreN X651.here hx rfl (hb hby d38_23) rfl (l' := #[sR x, sR y, sI (Int32.ofNat (cpl k1)), sI (Int32.ofNat k2), sI (Int32.ofNat l1)]) rfl (zXS_aloadN X651.here hx rfl (hb hby d38_24) rfl rfl (zXS_iloadN X651.here hx rfl (hb hby d38_25) rfl hr))) ?_
        have zz652 : n0 ≤ h0.size := by omega
        refine gVirtualN Gl.cl (y := y_25) (z := y_25) (b := y) (argsL := [(.int (Int32.ofNat (cpl k1)))]) (rest := []) (mc := 0) (ms := 0) X651 hx hZ hown (mvT hZ (tw hw 135 rfl)) (mvT hZ (tw hw 136 rfl)) (notFace_of_selects (args := #[]) (mvT hZ (tw hw 138 rfl))) (mvT hZ (tw hw 138 rfl)) (mvT hZ (tw hw 137 rfl)) (by decide) q16 (backOf (W := 0) (cpa l Z a0 hw [] y u kd ce M ws_ (un1 l1 ++ un1 l2) (cpl k1) l2 G1 G3 h0 n0 zz652 q0 (by assumption) q2 q3 (by assumption) q5 q6 q7 q16 q17 q18 q19 hcdy (by rw [hc0]; exact (atc3 l1 l2)) hl2 (by omega) hbdy) hZ (tw hw 139 rfl) (tw hw 18 rfl) (by decide) (by decide)) rfl (by rw [hml]; rfl) (lenOf pd_0 rfl) rfl (by exact Nat.le_of_eq rfl) (hb hby d38_26) rfl e651 (by decide) (by decide) ?_
        intro v652 T652 Lc652 hQ652 X652
        obtain ⟨rfl, Nq652, e652⟩ := hQ652
        have N652 := Fr.app N651 Nq652
        refine Gl.go (fun _ hr => zXS_istore X652.here hx rfl (hb hby d38_29) rfl (l' := #[sR x, sR y, sI (Int32.ofNat (cpl k1)), sI (Int32.ofNat k2), sI (Int32.ofNat l2)]) rfl (zXS_iloadN X652.here hx rfl (hb hby d38_31) rfl (zXS_iload X652.here hx rfl (hb hby d38_32) rfl hr))) ?_
        by_cases hc653 : (Int32.ofNat k2) = (Int32.ofNat l2)
        · refine Gl.go (fun _ hr => zXS_icmpYes X652.here hx rfl (pc0 := 34) (pc' := 44) rfl (hb hby d38_34) rfl (XT.ii_eq_t hc653) (by decide) (by decide) hr) ?_
          have hq1 : k2 = l2 := own_inj32 (by omega) (by omega) hc653
          have hc1 : cpl k2 = cpl l2 := congrArg cpl hq1
          refine Gl.go (fun _ hr => zXS_iloadN X652.here hx rfl (hb hby d38_44) rfl (zXS_iloadN X652.here hx rfl (hb hby d38_45) rfl hr)) ?_
          have zz654 : n0 ≤ h0.size := by omega
          refine gStaticN Gl.cl (y := y_22) (argsL := [(.int (Int32.ofNat k2))]) (rest := [(.int (Int32.ofNat (cpl k1)))]) (mc := 0) (ms := 0) X652 hx hZ hown (mvT hZ (tw hw 155 rfl)) (mvT hZ (tw hw 156 rfl)) (mvT hZ (tw hw 149 rfl)) (mvT hZ (tw hw 157 rfl)) (by decide) (backOf (W := 1) (ccc l Z a0 hw [] k2 h0 n0 zz654 hk2.1.2) hZ (tw hw 157 rfl) (tw hw 149 rfl) (by decide) (by decide)) rfl (by rw [hml]; rfl) (lenOf pd_0 rfl) rfl (by exact Nat.le_of_eq rfl) (hb hby d38_46) rfl e652 (by decide) (by decide) ?_
          intro v654 T654 Lc654 hQ654 X654
          obtain ⟨rfl, Nq654, e654⟩ := hQ654
          have N654 := Fr.app N652 Nq654
          refine Gl.go (fun _ hr => zXS_iadd X654.here hx rfl (hb hby d38_49) rfl hr) ?_
          show Gl p.tables e below _ (T654.setTop (mkF m 50 #[sR x, sR y, sI (Int32.ofNat (cpl k1)), sI (Int32.ofNat k2), sI (Int32.ofNat l2)] [(.int ((Int32.ofNat (cpl k1)) + (Int32.ofNat (cpl k2))))]))
          rw [(own_add32 (cpl k1) (cpl k2))]
          show Gl p.tables e below _ (T654.setTop (mkF m 50 #[sR x, sR y, sI (Int32.ofNat (cpl k1)), sI (Int32.ofNat k2), sI (Int32.ofNat l2)] [(.int (Int32.ofNat (cpl k1 + cpl k2)))]))
          refine Gl.go (fun _ hr => zXS_istoreN X654.here hx rfl (hb hby d38_50) rfl (l' := #[sR x, sR y, sI (Int32.ofNat (cpl k1 + cpl k2)), sI (Int32.ofNat k2), sI (Int32.ofNat l2)]) rfl (zXS_goto X654.here hx rfl (pc0 := 51) (pc' := 2) rfl (hb hby d38_51) (by decide) (by decide) (zXS_iloadN X654.here hx rfl (hb hby d38_2) rfl (zXS_aloadN X654.here hx rfl (hb hby d38_3) rfl rfl hr)))) ?_
          refine gVirtualN Gl.cl (y := y_30) (z := y_30) (b := x) (argsL := []) (rest := [(.int (Int32.ofNat (cpl k1 + cpl k2)))]) (mc := 0) (ms := 0) (Q := fun v h' L => v = some (.int (Int32.ofNat (un1 k1 ++ un1 k2).length)) ∧ L = [] ∧ h' = h0) X654 hx hZ hown (mvT hZ (tw hw 96 rfl)) (mvT hZ (tw hw 97 rfl)) (notFace_of_selects (args := #[]) (mvT hZ (tw hw 99 rfl))) (mvT hZ (tw hw 99 rfl)) (mvT hZ (tw hw 98 rfl)) (by decide) q8 (StrChars.Road.lenW (W := 1) hZ hln (kI := 4) (tw hw 17 rfl) q8 q9 q10 q11 hcdx hbdx (q0.ext q2.2) P5 (by omega) (by decide) (by decide)) rfl (by rw [hml]; rfl) (lenOf pd_18 rfl) rfl (by exact Nat.le_of_eq rfl) (hb hby d38_4) rfl e654 (by decide) (by decide) ?_
          intro v655 T655 Lc655 hQ655 X655
          obtain ⟨rfl, rfl, e655⟩ := hQ655
          have N655 := own_fr_nil N654
          refine Gl.go (fun _ hr => zXS_icmpYes X655.here hx rfl (pc0 := 7) (pc' := 54) rfl (hb hby d38_7) rfl (XT.ii_ge_t (own_nlt32 (a := (cpl k1 + cpl k2)) (b := (un1 k1 ++ un1 k2).length) (by omega) (by omega) (by omega))) (by decide) (by decide) (zXS_aloadN X655.here hx rfl (hb hby d38_54) rfl rfl hr)) ?_
          refine gVirtualN Gl.cl (y := y_30) (z := y_30) (b := x) (argsL := []) (rest := []) (mc := 0) (ms := 0) (Q := fun v h' L => v = some (.int (Int32.ofNat (un1 k1 ++ un1 k2).length)) ∧ L = [] ∧ h' = h0) X655 hx hZ hown (mvT hZ (tw hw 96 rfl)) (mvT hZ (tw hw 97 rfl)) (notFace_of_selects (args := #[]) (mvT hZ (tw hw 99 rfl))) (mvT hZ (tw hw 99 rfl)) (mvT hZ (tw hw 98 rfl)) (by decide) q8 (StrChars.Road.lenW (W := 0) hZ hln (kI := 4) (tw hw 17 rfl) q8 q9 q10 q11 hcdx hbdx (q0.ext q2.2) P5 (by omega) (by decide) (by decide)) rfl (by rw [hml]; rfl) (lenOf pd_18 rfl) rfl (by exact Nat.le_of_eq rfl) (hb hby d38_55) rfl e655 (by decide) (by decide) ?_
          intro v656 T656 Lc656 hQ656 X656
          obtain ⟨rfl, rfl, e656⟩ := hQ656
          have N656 := own_fr_nil N655
          refine Gl.go (fun _ hr => zXS_aloadN X656.here hx rfl (hb hby d38_58) rfl rfl hr) ?_
          refine gVirtualN Gl.cl (y := y_30) (z := y_30) (b := y) (argsL := []) (rest := [(.int (Int32.ofNat (un1 k1 ++ un1 k2).length))]) (mc := 0) (ms := 0) (Q := fun v h' L => v = some (.int (Int32.ofNat (un1 l1 ++ un1 l2).length)) ∧ L = [] ∧ h' = h0) X656 hx hZ hown (mvT hZ (tw hw 96 rfl)) (mvT hZ (tw hw 97 rfl)) (notFace_of_selects (args := #[]) (mvT hZ (tw hw 99 rfl))) (mvT hZ (tw hw 99 rfl)) (mvT hZ (tw hw 98 rfl)) (by decide) q16 (StrChars.Road.lenW (W := 1) hZ hln (kI := 4) (tw hw 17 rfl) q16 q17 q18 q19 hcdy hbdy (q0.ext q2.2) P5 (by omega) (by decide) (by decide)) rfl (by rw [hml]; rfl) (lenOf pd_18 rfl) rfl (by exact Nat.le_of_eq rfl) (hb hby d38_59) rfl e656 (by decide) (by decide) ?_
          intro v657 T657 Lc657 hQ657 X657
          obtain ⟨rfl, rfl, e657⟩ := hQ657
          have N657 := own_fr_nil N656
          have zz658 : n0 ≤ h0.size := by omega
          refine gStaticN Gl.cl (y := y_35) (argsL := [(.int (Int32.ofNat (un1 k1 ++ un1 k2).length)), (.int (Int32.ofNat (un1 l1 ++ un1 l2).length))]) (rest := []) (mc := 0) (ms := 0) X657 hx hZ hown (mvT hZ (tw hw 174 rfl)) (mvT hZ (tw hw 175 rfl)) (mvT hZ (tw hw 176 rfl)) (mvT hZ (tw hw 177 rfl)) (by decide) (backOf (W := 0) (icm l Z a0 hw [] ((un1 k1 ++ un1 k2).length) ((un1 l1 ++ un1 l2).length) h0 n0 zz658 (by omega) (by omega)) hZ (tw hw 177 rfl) (tw hw 176 rfl) (by decide) (by decide)) rfl (by rw [hml]; rfl) (lenOf pd_21 rfl) rfl (by exact Nat.le_of_eq rfl) (hb hby d38_62) rfl e657 (by decide) (by decide) ?_
          intro v658 T658 Lc658 hQ658 X658
          obtain ⟨rfl, Nq658, e658⟩ := hQ658
          have N658 := Fr.app N657 Nq658
          obtain ⟨fs, hr, hrun, hended, hW, hsame⟩ := X658.leave (v := some (.int (cmpN (un1 k1 ++ un1 k2).length (un1 l1 ++ un1 l2).length))) (fun h => by rw [Bd.returns] at h; cases h)
          refine ⟨_, _, retOut X658 hx Bd.returns rfl (Or.inl ⟨rfl, Or.inl rfl, _, rfl⟩) (hb hby d38_65) hr, hrun, hended, _, _, rfl, ?_, ⟨⟨_, rfl⟩, hW, hsame.mono (by decide) (by decide)⟩⟩
          show Qccp Z x t kb cd N vs nn k1 k2 y u kd ce M ws_ mm l1 l2 G1 G3 h0 n0 _ T658.heap _
          rw [e658]
          exact ⟨(own_some (own_c22 hn1 hm1 hq0 hq1)), N658, rfl⟩
        · refine Gl.go (fun _ hr => zXS_icmpNo X652.here hx rfl (hb hby d38_34) rfl (XT.ii_eq_f hc653) hr) ?_
          have hd1 : ¬ k2 = l2 := fun q => hc653 (congrArg Int32.ofNat q)
          refine Gl.go (fun _ hr => zXS_iloadN X652.here hx rfl (hb hby d38_37) rfl (zXS_iload X652.here hx rfl (hb hby d38_38) rfl hr)) ?_
          have zz659 : n0 ≤ h0.size := by omega
          refine gStaticN Gl.cl (y := y_35) (argsL := [(.int (Int32.ofNat k2)), (.int (Int32.ofNat l2))]) (rest := []) (mc := 0) (ms := 0) X652 hx hZ hown (mvT hZ (tw hw 174 rfl)) (mvT hZ (tw hw 175 rfl)) (mvT hZ (tw hw 176 rfl)) (mvT hZ (tw hw 177 rfl)) (by decide) (backOf (W := 0) (icm l Z a0 hw [] k2 l2 h0 n0 zz659 (by omega) (by omega)) hZ (tw hw 177 rfl) (tw hw 176 rfl) (by decide) (by decide)) rfl (by rw [hml]; rfl) (lenOf pd_21 rfl) rfl (by exact Nat.le_of_eq rfl) (hb hby d38_40) rfl e652 (by decide) (by decide) ?_
          intro v659 T659 Lc659 hQ659 X659
          obtain ⟨rfl, Nq659, e659⟩ := hQ659
          have N659 := Fr.app N652 Nq659
          obtain ⟨fs, hr, hrun, hended, hW, hsame⟩ := X659.leave (v := some (.int (cmpN k2 l2))) (fun h => by rw [Bd.returns] at h; cases h)
          refine ⟨_, _, retOut X659 hx Bd.returns rfl (Or.inl ⟨rfl, Or.inl rfl, _, rfl⟩) (hb hby d38_43) hr, hrun, hended, _, _, rfl, ?_, ⟨⟨_, rfl⟩, hW, hsame.mono (by decide) (by decide)⟩⟩
          show Qccp Z x t kb cd N vs nn k1 k2 y u kd ce M ws_ mm l1 l2 G1 G3 h0 n0 _ T659.heap _
          rw [e659]
          exact ⟨(own_some (own_cne2 hn1 hm1 hq0)), N659, rfl⟩
      · refine Gl.go (fun _ hr => zXS_icmpNo X646.here hx rfl (hb hby d38_34) rfl (XT.ii_eq_f hc647) hr) ?_
        have hd0 : ¬ k1 = l1 := fun q => hc647 (congrArg Int32.ofNat q)
        refine Gl.go (fun _ hr => zXS_iloadN X646.here hx rfl (hb hby d38_37) rfl (zXS_iload X646.here hx rfl (hb hby d38_38) rfl hr)) ?_
        have zz660 : n0 ≤ h0.size := by omega
        refine gStaticN Gl.cl (y := y_35) (argsL := [(.int (Int32.ofNat k1)), (.int (Int32.ofNat l1))]) (rest := []) (mc := 0) (ms := 0) X646 hx hZ hown (mvT hZ (tw hw 174 rfl)) (mvT hZ (tw hw 175 rfl)) (mvT hZ (tw hw 176 rfl)) (mvT hZ (tw hw 177 rfl)) (by decide) (backOf (W := 0) (icm l Z a0 hw [] k1 l1 h0 n0 zz660 (by omega) (by omega)) hZ (tw hw 177 rfl) (tw hw 176 rfl) (by decide) (by decide)) rfl (by rw [hml]; rfl) (lenOf pd_21 rfl) rfl (by exact Nat.le_of_eq rfl) (hb hby d38_40) rfl e646 (by decide) (by decide) ?_
        intro v660 T660 Lc660 hQ660 X660
        obtain ⟨rfl, Nq660, e660⟩ := hQ660
        have N660 := Fr.app N646 Nq660
        obtain ⟨fs, hr, hrun, hended, hW, hsame⟩ := X660.leave (v := some (.int (cmpN k1 l1))) (fun h => by rw [Bd.returns] at h; cases h)
        refine ⟨_, _, retOut X660 hx Bd.returns rfl (Or.inl ⟨rfl, Or.inl rfl, _, rfl⟩) (hb hby d38_43) hr, hrun, hended, _, _, rfl, ?_, ⟨⟨_, rfl⟩, hW, hsame.mono (by decide) (by decide)⟩⟩
        show Qccp Z x t kb cd N vs nn k1 k2 y u kd ce M ws_ mm l1 l2 G1 G3 h0 n0 _ T660.heap _
        rw [e660]
        exact ⟨(own_some (own_cne hd0)), N660, rfl⟩
def Qcto (Z : State) (a : Addr) (b : Addr) (x : Addr) (t : Addr) (kb : ClassId) (N : Int32) (vs : List Value) (nn : Nat) (k1 : Nat) (k2 : Nat) (y : Addr) (u : Addr) (kd : ClassId) (cd : Int32) (M : Int32) (ws_ : List Value) (mm : Nat) (l1 : Nat) (l2 : Nat) (x2 : Addr) (t2 : Addr) (kb2 : ClassId) (N2 : Int32) (vs2 : List Value) (n2 : Nat) (k3 : Nat) (k4 : Nat) (y2 : Addr) (u2 : Addr) (kd2 : ClassId) (cd2 : Int32) (M2 : Int32) (ws2 : List Value) (m2 : Nat) (l3 : Nat) (l4 : Nat) (G1 : Int32) (G3 : Value) (h0 : Heap) (n0 : Nat) (v : Option Value) (h : Heap) (L : List Loc) : Prop := v = some (.int (cmpT (cmpS nn k1 k2 n2 k3 k4) (cmpS mm l1 l2 m2 l3 l4))) ∧ Fr n0 L ∧ h = h0
theorem ef_cto (m : MethodId) (x0 : Addr) (x1 : Addr) : entryFrame m #[(.ref x0), (.ref x1)] 3 = mkF m 0 #[sR x0, sR x1, sU] [] := by first | (simp [entryFrame, mkF, argsToLocals, Value.category]; done) | rfl
theorem d37_0 : decode prog_3_method_5_code 0 = .ok (.aload_n 0, 1) := by decide +kernel
theorem d37_1 : decode prog_3_method_5_code 1 = .ok (.getfield 16, 3) := by decide +kernel
theorem d37_4 : decode prog_3_method_5_code 4 = .ok (.aload_n 1, 1) := by decide +kernel
theorem d37_5 : decode prog_3_method_5_code 5 = .ok (.getfield 16, 3) := by decide +kernel
theorem d37_8 : decode prog_3_method_5_code 8 = .ok (.invokestatic 88, 3) := by decide +kernel
theorem pd_22 : parseMethodDescriptor "(Ljava/lang/String;Ljava/lang/String;)I" = some ⟨[(.object "java/lang/String"), (.object "java/lang/String")], some .int⟩ := by decide +kernel
theorem d37_11 : decode prog_3_method_5_code 11 = .ok (.istore_n 2, 1) := by decide +kernel
theorem d37_12 : decode prog_3_method_5_code 12 = .ok (.iload_n 2, 1) := by decide +kernel
theorem d37_13 : decode prog_3_method_5_code 13 = .ok (.ifCond .eq 7, 3) := by decide +kernel
theorem d37_20 : decode prog_3_method_5_code 20 = .ok (.aload_n 0, 1) := by decide +kernel
theorem d37_21 : decode prog_3_method_5_code 21 = .ok (.getfield 20, 3) := by decide +kernel
theorem d37_24 : decode prog_3_method_5_code 24 = .ok (.aload_n 1, 1) := by decide +kernel
theorem d37_25 : decode prog_3_method_5_code 25 = .ok (.getfield 20, 3) := by decide +kernel
theorem d37_28 : decode prog_3_method_5_code 28 = .ok (.invokestatic 88, 3) := by decide +kernel
theorem d37_31 : decode prog_3_method_5_code 31 = .ok (.ireturn, 1) := by decide +kernel
theorem d37_16 : decode prog_3_method_5_code 16 = .ok (.iload_n 2, 1) := by decide +kernel
theorem d37_17 : decode prog_3_method_5_code 17 = .ok (.goto 14, 3) := by decide +kernel
set_option maxRecDepth 65536 in
set_option maxHeartbeats 40000000 in
theorem cto (l : Launch) (Z : State) (a0 : Array Value) (hw : ∀ d ∈ tables_1, d.before a0 Z = true) (ws : List Jvm.Cond) (a : Addr) (b : Addr) (x : Addr) (t : Addr) (kb : ClassId) (N : Int32) (vs : List Value) (nn : Nat) (k1 : Nat) (k2 : Nat) (y : Addr) (u : Addr) (kd : ClassId) (cd : Int32) (M : Int32) (ws_ : List Value) (mm : Nat) (l1 : Nat) (l2 : Nat) (x2 : Addr) (t2 : Addr) (kb2 : ClassId) (N2 : Int32) (vs2 : List Value) (n2 : Nat) (k3 : Nat) (k4 : Nat) (y2 : Addr) (u2 : Addr) (kd2 : ClassId) (cd2 : Int32) (M2 : Int32) (ws2 : List Value) (m2 : Nat) (l3 : Nat) (l4 : Nat) (G1 : Int32) (G3 : Value) (h0 : Heap) (n0 : Nat) (Z0 : n0 ≤ h0.size) (q0 : Sta Z Z.heap "java/lang/String" "COMPACT_STRINGS" "Z" (.int G1)) (P5 : ¬ (G1 = (0 : Int32))) (q2 : Old Z n0 h0) (q3 : Sta Z Z.heap "jdk/internal/util/Preconditions" "SIOOBE_FORMATTER" "Ljava/util/function/BiFunction;" G3) (rG3 : G3.isRef = true) (q5 : Sta Z Z.heap "java/lang/StringUTF16" "$assertionsDisabled" "Z" (.int (1 : Int32))) (q6 : Sta Z Z.heap "java/lang/StringUTF16" "HI_BYTE_SHIFT" "I" (.int (0 : Int32))) (q7 : Sta Z Z.heap "java/lang/StringUTF16" "LO_BYTE_SHIFT" "I" (.int (8 : Int32))) (q8 : Fld Z h0 a "com/example/even_counter/evencounter/CounterId" "name" "Ljava/lang/String;" (.ref x)) (q9 : Fld Z h0 a "com/example/even_counter/evencounter/CounterId" "key" "Ljava/lang/String;" (.ref y)) (q10 : Fld Z h0 b "com/example/even_counter/evencounter/CounterId" "name" "Ljava/lang/String;" (.ref x2)) (q11 : Fld Z h0 b "com/example/even_counter/evencounter/CounterId" "key" "Ljava/lang/String;" (.ref y2)) (q12 : Exa Z h0 x "java/lang/String") (q13 : Fld Z h0 x "java/lang/String" "value" "[B" (.ref t)) (q14 : Fld Z h0 x "java/lang/String" "coder" "B" (.int (0 : Int32))) (q15 : Arv Z h0 t kb .byte N vs (.int 0)) (cod_x : StrChars.Road.CodA (unl k1 k2 nn) 0 N vs) (hn_x : nn = 1 ∨ nn = 2) (hk1 : NmK k1) (hk2 : NmK k2) (q20 : Exa Z h0 y "java/lang/String") (q21 : Fld Z h0 y "java/lang/String" "value" "[B" (.ref u)) (q22 : Fld Z h0 y "java/lang/String" "coder" "B" (.int cd)) (q23 : Arv Z h0 u kd .byte M ws_ (.int 0)) (cod_y : StrChars.Road.CodA (unl l1 l2 mm) cd M ws_) (hn_y : mm = 1 ∨ mm = 2) (hl1 : KeyC l1) (hl2 : KeyC l2) (q28 : Exa Z h0 x2 "java/lang/String") (q29 : Fld Z h0 x2 "java/lang/String" "value" "[B" (.ref t2)) (q30 : Fld Z h0 x2 "java/lang/String" "coder" "B" (.int (0 : Int32))) (q31 : Arv Z h0 t2 kb2 .byte N2 vs2 (.int 0)) (cod_x2 : StrChars.Road.CodA (unl k3 k4 n2) 0 N2 vs2) (hn_x2 : n2 = 1 ∨ n2 = 2) (hk3 : NmK k3) (hk4 : NmK k4) (q36 : Exa Z h0 y2 "java/lang/String") (q37 : Fld Z h0 y2 "java/lang/String" "value" "[B" (.ref u2)) (q38 : Fld Z h0 y2 "java/lang/String" "coder" "B" (.int cd2)) (q39 : Arv Z h0 u2 kd2 .byte M2 ws2 (.int 0)) (cod_y2 : StrChars.Road.CodA (unl l3 l4 m2) cd2 M2 ws2) (hn_y2 : m2 = 1 ∨ m2 = 2) (hl3 : KeyC l3) (hl4 : KeyC l4) :
    MetFree l y_37 (head1 (Jvm.Cond.code y_37 prog_3_method_5_code 3 (some .int) :: ws) r_m17) (fun a_ U_ => a_ = #[(.ref a), (.ref b)] ∧ Z.Warmed39 U_.vm ∧ U_.heap = h0) (fun _ _ _ _ _ => True) (fun _ U_ o_ V_ => ∃ v_ L_, o_ = .returned v_ ∧ Qcto Z a b x t kb N vs nn k1 k2 y u kd cd M ws_ mm l1 l2 x2 t2 kb2 N2 vs2 n2 k3 k4 y2 u2 kd2 cd2 M2 ws2 m2 l3 l4 G1 G3 h0 n0 v_ V_.heap L_ ∧ FrameEnd U_ o_ V_ L_ r_m17.cells r_m17.slots) := by
  refine MetFree.of_bodySF (plainFor_of_name pn_6) hisR ?_
  intro p e s m args below meth c s₁ Bd hml0 hP hK
  obtain ⟨rfl, hZ, hh⟩ := hP
  have hx := Bd.exec
  have hby := Bd.bytes
  have hml : c.maxLocals = 3 := hml0
  have hown : s.vm.findClass "com/example/even_counter/evencounter/CounterId" = some m.cls := findClass_of_methodNamed Bd.named
  have hnm := (name_of_methodNamed Bd.named Bd.method).1
  have X0 : Stand p l e r_m17 s m #[(.ref a), (.ref b)] below meth c s₁ [] 0 0 := Stand.of_body Bd
  have e0 : s₁.heap = h0 := by rw [← hh, Bd.state]; rfl
  have N0 := Fr.nil n0
  have zo := q2.1
  have lt661 := own_alt q8.lt
  have lt662 := own_alt q9.lt
  have lt663 := own_alt q10.lt
  have lt664 := own_alt q11.lt
  have lt665 := own_alt q12.lt
  have lt666 := own_alt q13.lt
  have lt667 := own_alt q14.lt
  have lt668 := own_alt q15.lt
  have lt669 := own_alt q20.lt
  have lt670 := own_alt q21.lt
  have lt671 := own_alt q22.lt
  have lt672 := own_alt q23.lt
  have lt673 := own_alt q28.lt
  have lt674 := own_alt q29.lt
  have lt675 := own_alt q30.lt
  have lt676 := own_alt q31.lt
  have lt677 := own_alt q36.lt
  have lt678 := own_alt q37.lt
  have lt679 := own_alt q38.lt
  have lt680 := own_alt q39.lt
  refine Gl.go (A := s₁.setTop (entryFrame m #[(.ref a), (.ref b)] 3)) (P := fun o_ U_ => ∃ v_ L_, o_ = .returned v_ ∧ Qcto Z a b x t kb N vs nn k1 k2 y u kd cd M ws_ mm l1 l2 x2 t2 kb2 N2 vs2 n2 k3 k4 y2 u2 kd2 cd2 M2 ws2 m2 l3 l4 G1 G3 h0 n0 v_ U_.heap L_ ∧ FrameEnd s o_ U_ L_ r_m17.cells r_m17.slots) (fun t_ k_ => castTop (ef_cto m a b) k_) ?_
  show Gl p.tables e below _ (s₁.setTop (mkF m 0 #[sR a, sR b, sU] []))
  refine Gl.go (fun _ hr => zXS_aloadN X0.here hx rfl (hb hby d37_0) rfl rfl hr) ?_
  refine gGetF (host := "") Gl.cl X0 hx hZ hown (Or.inl (tw hw 159 rfl)) Via.refl e0 q8 rfl rfl (hb hby d37_1) ?_
  intro T681 X681 e681
  refine Gl.go (fun _ hr => zXS_aloadN X681.here hx rfl (hb hby d37_4) rfl rfl hr) ?_
  refine gGetF (host := "") Gl.cl X681 hx hZ hown (Or.inl (tw hw 159 rfl)) Via.refl e681 q10 rfl rfl (hb hby d37_5) ?_
  intro T682 X682 e682
  have zz683 : n0 ≤ h0.size := by omega
  refine gStaticN Gl.cl (y := y_36) (argsL := [(.ref x), (.ref x2)]) (rest := []) (mc := 0) (ms := 0) X682 hx hZ hown (mvT hZ (tw hw 171 rfl)) (mvT hZ (tw hw 172 rfl)) (mvT hZ (tw hw 12 rfl)) (mvT hZ (tw hw 173 rfl)) (by decide) (backOf (W := 0) (ccp l Z a0 hw [] x t kb (0 : Int32) N vs nn k1 k2 x2 t2 kb2 (0 : Int32) N2 vs2 n2 k3 k4 G1 G3 h0 n0 zz683 q0 (by assumption) q2 q3 (by assumption) q5 q6 q7 q12 q13 q14 q15 cod_x hn_x hk1.key hk2.key q28 q29 q30 q31 cod_x2 hn_x2 hk3.key hk4.key) hZ (tw hw 173 rfl) (tw hw 12 rfl) (by decide) (by decide)) rfl (by rw [hml]; rfl) (lenOf pd_22 rfl) rfl (by exact Nat.le_of_eq rfl) (hb hby d37_8) rfl e682 (by decide) (by decide) ?_
  intro v683 T683 Lc683 hQ683 X683
  obtain ⟨rfl, Nq683, e683⟩ := hQ683
  have N683 := Fr.app N0 Nq683
  refine Gl.go (fun _ hr => zXS_istoreN X683.here hx rfl (hb hby d37_11) rfl (l' := #[sR a, sR b, sI (cmpS nn k1 k2 n2 k3 k4)]) rfl (zXS_iloadN X683.here hx rfl (hb hby d37_12) rfl hr)) ?_
  by_cases hc684 : (cmpS nn k1 k2 n2 k3 k4) = (0 : Int32)
  · refine Gl.go (fun _ hr => zXS_ifYes X683.here hx rfl (pc0 := 13) (pc' := 20) rfl (hb hby d37_13) rfl (XT.i0_eq_t hc684) (by decide) (by decide) (zXS_aloadN X683.here hx rfl (hb hby d37_20) rfl rfl hr)) ?_
    refine gGetF (host := "") Gl.cl X683 hx hZ hown (Or.inl (tw hw 161 rfl)) Via.refl e683 q9 rfl rfl (hb hby d37_21) ?_
    intro T685 X685 e685
    refine Gl.go (fun _ hr => zXS_aloadN X685.here hx rfl (hb hby d37_24) rfl rfl hr) ?_
    refine gGetF (host := "") Gl.cl X685 hx hZ hown (Or.inl (tw hw 161 rfl)) Via.refl e685 q11 rfl rfl (hb hby d37_25) ?_
    intro T686 X686 e686
    have zz687 : n0 ≤ h0.size := by omega
    refine gStaticN Gl.cl (y := y_36) (argsL := [(.ref y), (.ref y2)]) (rest := []) (mc := 0) (ms := 0) X686 hx hZ hown (mvT hZ (tw hw 171 rfl)) (mvT hZ (tw hw 172 rfl)) (mvT hZ (tw hw 12 rfl)) (mvT hZ (tw hw 173 rfl)) (by decide) (backOf (W := 0) (ccp l Z a0 hw [] y u kd cd M ws_ mm l1 l2 y2 u2 kd2 cd2 M2 ws2 m2 l3 l4 G1 G3 h0 n0 zz687 q0 (by assumption) q2 q3 (by assumption) q5 q6 q7 q20 q21 q22 q23 cod_y hn_y hl1 hl2 q36 q37 q38 q39 cod_y2 hn_y2 hl3 hl4) hZ (tw hw 173 rfl) (tw hw 12 rfl) (by decide) (by decide)) rfl (by rw [hml]; rfl) (lenOf pd_22 rfl) rfl (by exact Nat.le_of_eq rfl) (hb hby d37_28) rfl e686 (by decide) (by decide) ?_
    intro v687 T687 Lc687 hQ687 X687
    obtain ⟨rfl, Nq687, e687⟩ := hQ687
    have N687 := Fr.app N683 Nq687
    obtain ⟨fs, hr, hrun, hended, hW, hsame⟩ := X687.leave (v := some (.int (cmpS mm l1 l2 m2 l3 l4))) (fun h => by rw [Bd.returns] at h; cases h)
    refine ⟨_, _, retOut X687 hx Bd.returns rfl (Or.inl ⟨rfl, Or.inl rfl, _, rfl⟩) (hb hby d37_31) hr, hrun, hended, _, _, rfl, ?_, ⟨⟨_, rfl⟩, hW, hsame.mono (by decide) (by decide)⟩⟩
    show Qcto Z a b x t kb N vs nn k1 k2 y u kd cd M ws_ mm l1 l2 x2 t2 kb2 N2 vs2 n2 k3 k4 y2 u2 kd2 cd2 M2 ws2 m2 l3 l4 G1 G3 h0 n0 _ T687.heap _
    rw [e687]
    exact ⟨(own_some (own_t0 hc684).symm), N687, rfl⟩
  · refine Gl.go (fun _ hr => zXS_ifNo X683.here hx rfl (hb hby d37_13) rfl (XT.i0_eq_f hc684) (zXS_iloadN X683.here hx rfl (hb hby d37_16) rfl (zXS_goto X683.here hx rfl (pc0 := 17) (pc' := 31) rfl (hb hby d37_17) (by decide) (by decide) hr))) ?_
    obtain ⟨fs, hr, hrun, hended, hW, hsame⟩ := X683.leave (v := some (.int (cmpS nn k1 k2 n2 k3 k4))) (fun h => by rw [Bd.returns] at h; cases h)
    refine ⟨_, _, retOut X683 hx Bd.returns rfl (Or.inl ⟨rfl, Or.inl rfl, _, rfl⟩) (hb hby d37_31) hr, hrun, hended, _, _, rfl, ?_, ⟨⟨_, rfl⟩, hW, hsame.mono (by decide) (by decide)⟩⟩
    show Qcto Z a b x t kb N vs nn k1 k2 y u kd cd M ws_ mm l1 l2 x2 t2 kb2 N2 vs2 n2 k3 k4 y2 u2 kd2 cd2 M2 ws2 m2 l3 l4 G1 G3 h0 n0 _ T683.heap _
    rw [e683]
    exact ⟨(own_some (own_t1 hc684).symm), N683, rfl⟩
def Qcsq (Z : State) (la : Nat) (x1 : Nat) (x2 : Nat) (lb : Nat) (y1 : Nat) (y2 : Nat) (h0 : Heap) (n0 : Nat) (v : Option Value) (h : Heap) (L : List Loc) : Prop := v = some (.int (cmpS la x1 x2 lb y1 y2)) ∧ Fr n0 L ∧ h = h0
theorem ef_csq (m : MethodId) (x0 : Int32) (x1 : Int32) (x2 : Int32) (x3 : Int32) (x4 : Int32) (x5 : Int32) : entryFrame m #[(.int x0), (.int x1), (.int x2), (.int x3), (.int x4), (.int x5)] 6 = mkF m 0 #[sI x0, sI x1, sI x2, sI x3, sI x4, sI x5] [] := by first | (simp [entryFrame, mkF, argsToLocals, Value.category]; done) | rfl
theorem d36_0 : decode method_8_code 0 = .ok (.iload_n 1, 1) := by decide +kernel
theorem d36_1 : decode method_8_code 1 = .ok (.iload 4, 2) := by decide +kernel
theorem d36_3 : decode method_8_code 3 = .ok (.if_icmp .eq 15, 3) := by decide +kernel
theorem d36_18 : decode method_8_code 18 = .ok (.iload_n 0, 1) := by decide +kernel
theorem d36_19 : decode method_8_code 19 = .ok (.iload_n 3, 1) := by decide +kernel
theorem d36_20 : decode method_8_code 20 = .ok (.if_icmp .eq 14, 3) := by decide +kernel
theorem d36_34 : decode method_8_code 34 = .ok (.iload_n 0, 1) := by decide +kernel
theorem d36_35 : decode method_8_code 35 = .ok (.iconst 1, 1) := by decide +kernel
theorem d36_36 : decode method_8_code 36 = .ok (.if_icmp .ne 5, 3) := by decide +kernel
theorem d36_39 : decode method_8_code 39 = .ok (.iconst 0, 1) := by decide +kernel
theorem d36_40 : decode method_8_code 40 = .ok (.ireturn, 1) := by decide +kernel
theorem d36_41 : decode method_8_code 41 = .ok (.iload_n 2, 1) := by decide +kernel
theorem d36_42 : decode method_8_code 42 = .ok (.iload 5, 2) := by decide +kernel
theorem d36_44 : decode method_8_code 44 = .ok (.if_icmp .eq 15, 3) := by decide +kernel
theorem d36_59 : decode method_8_code 59 = .ok (.iconst 0, 1) := by decide +kernel
theorem d36_60 : decode method_8_code 60 = .ok (.ireturn, 1) := by decide +kernel
theorem d36_47 : decode method_8_code 47 = .ok (.iload_n 2, 1) := by decide +kernel
theorem d36_48 : decode method_8_code 48 = .ok (.iload 5, 2) := by decide +kernel
theorem d36_50 : decode method_8_code 50 = .ok (.if_icmp .ge 7, 3) := by decide +kernel
theorem d36_53 : decode method_8_code 53 = .ok (.iconst (-1), 1) := by decide +kernel
theorem d36_54 : decode method_8_code 54 = .ok (.goto 4, 3) := by decide +kernel
theorem d36_58 : decode method_8_code 58 = .ok (.ireturn, 1) := by decide +kernel
theorem d36_57 : decode method_8_code 57 = .ok (.iconst 1, 1) := by decide +kernel
theorem d36_23 : decode method_8_code 23 = .ok (.iload_n 0, 1) := by decide +kernel
theorem d36_24 : decode method_8_code 24 = .ok (.iload_n 3, 1) := by decide +kernel
theorem d36_25 : decode method_8_code 25 = .ok (.if_icmp .ge 7, 3) := by decide +kernel
theorem d36_28 : decode method_8_code 28 = .ok (.iconst (-1), 1) := by decide +kernel
theorem d36_29 : decode method_8_code 29 = .ok (.goto 4, 3) := by decide +kernel
theorem d36_33 : decode method_8_code 33 = .ok (.ireturn, 1) := by decide +kernel
theorem d36_32 : decode method_8_code 32 = .ok (.iconst 1, 1) := by decide +kernel
theorem d36_6 : decode method_8_code 6 = .ok (.iload_n 1, 1) := by decide +kernel
theorem d36_7 : decode method_8_code 7 = .ok (.iload 4, 2) := by decide +kernel
theorem d36_9 : decode method_8_code 9 = .ok (.if_icmp .ge 7, 3) := by decide +kernel
theorem d36_12 : decode method_8_code 12 = .ok (.iconst (-1), 1) := by decide +kernel
theorem d36_13 : decode method_8_code 13 = .ok (.goto 4, 3) := by decide +kernel
theorem d36_17 : decode method_8_code 17 = .ok (.ireturn, 1) := by decide +kernel
theorem d36_16 : decode method_8_code 16 = .ok (.iconst 1, 1) := by decide +kernel
set_option maxRecDepth 65536 in
set_option maxHeartbeats 40000000 in
theorem csq (l : Launch) (Z : State) (a0 : Array Value) (hw : ∀ d ∈ tables_1, d.before a0 Z = true) (ws : List Jvm.Cond) (la : Nat) (x1 : Nat) (x2 : Nat) (lb : Nat) (y1 : Nat) (y2 : Nat) (h0 : Heap) (n0 : Nat) (Z0 : n0 ≤ h0.size) (hb_ : (la ≤ 2 ∧ lb ≤ 2) ∧ (x1 ≤ 1114111 ∧ x2 ≤ 1114111) ∧ (y1 ≤ 1114111 ∧ y2 ≤ 1114111)) :
    MetFree l y_38 (head1 (Jvm.Cond.code y_38 method_8_code 6 (some .int) :: ws) r_m0) (fun a_ U_ => a_ = #[(.int (Int32.ofNat la)), (.int (Int32.ofNat x1)), (.int (Int32.ofNat x2)), (.int (Int32.ofNat lb)), (.int (Int32.ofNat y1)), (.int (Int32.ofNat y2))] ∧ Z.Warmed39 U_.vm ∧ U_.heap = h0) (fun _ _ _ _ _ => True) (fun _ U_ o_ V_ => ∃ v_ L_, o_ = .returned v_ ∧ Qcsq Z la x1 x2 lb y1 y2 h0 n0 v_ V_.heap L_ ∧ FrameEnd U_ o_ V_ L_ r_m0.cells r_m0.slots) := by
  refine MetFree.of_bodySF (plainFor_of_name pn_2) hisR ?_
  intro p e s m args below meth c s₁ Bd hml0 hP hK
  obtain ⟨rfl, hZ, hh⟩ := hP
  have hx := Bd.exec
  have hby := Bd.bytes
  have hml : c.maxLocals = 6 := hml0
  have hown : s.vm.findClass "com/example/even_counter/evencounter/CounterIdCompareToPinLaw" = some m.cls := findClass_of_methodNamed Bd.named
  have hnm := (name_of_methodNamed Bd.named Bd.method).1
  have X0 : Stand p l e r_m0 s m #[(.int (Int32.ofNat la)), (.int (Int32.ofNat x1)), (.int (Int32.ofNat x2)), (.int (Int32.ofNat lb)), (.int (Int32.ofNat y1)), (.int (Int32.ofNat y2))] below meth c s₁ [] 0 0 := Stand.of_body Bd
  have e0 : s₁.heap = h0 := by rw [← hh, Bd.state]; rfl
  have N0 := Fr.nil n0
  refine Gl.go (A := s₁.setTop (entryFrame m #[(.int (Int32.ofNat la)), (.int (Int32.ofNat x1)), (.int (Int32.ofNat x2)), (.int (Int32.ofNat lb)), (.int (Int32.ofNat y1)), (.int (Int32.ofNat y2))] 6)) (P := fun o_ U_ => ∃ v_ L_, o_ = .returned v_ ∧ Qcsq Z la x1 x2 lb y1 y2 h0 n0 v_ U_.heap L_ ∧ FrameEnd s o_ U_ L_ r_m0.cells r_m0.slots) (fun t_ k_ => castTop (ef_csq m (Int32.ofNat la) (Int32.ofNat x1) (Int32.ofNat x2) (Int32.ofNat lb) (Int32.ofNat y1) (Int32.ofNat y2)) k_) ?_
  show Gl p.tables e below _ (s₁.setTop (mkF m 0 #[sI (Int32.ofNat la), sI (Int32.ofNat x1), sI (Int32.ofNat x2), sI (Int32.ofNat lb), sI (Int32.ofNat y1), sI (Int32.ofNat y2)] []))
  refine Gl.go (fun _ hr => zXS_iloadN X0.here hx rfl (hb hby d36_0) rfl (zXS_iload X0.here hx rfl (hb hby d36_1) rfl hr)) ?_
  by_cases hc688 : (Int32.ofNat x1) = (Int32.ofNat y1)
  · refine Gl.go (fun _ hr => zXS_icmpYes X0.here hx rfl (pc0 := 3) (pc' := 18) rfl (hb hby d36_3) rfl (XT.ii_eq_t hc688) (by decide) (by decide) hr) ?_
    have hz689 : x1 = y1 := own_inj32 (a := x1) (b := y1) (by omega) (by omega) hc688
    refine Gl.go (fun _ hr => zXS_iloadN X0.here hx rfl (hb hby d36_18) rfl (zXS_iloadN X0.here hx rfl (hb hby d36_19) rfl hr)) ?_
    by_cases hc690 : (Int32.ofNat la) = (Int32.ofNat lb)
    · refine Gl.go (fun _ hr => zXS_icmpYes X0.here hx rfl (pc0 := 20) (pc' := 34) rfl (hb hby d36_20) rfl (XT.ii_eq_t hc690) (by decide) (by decide) hr) ?_
      have hz691 : la = lb := own_inj32 (a := la) (b := lb) (by omega) (by omega) hc690
      refine Gl.go (fun _ hr => zXS_iloadN X0.here hx rfl (hb hby d36_34) rfl (zXS_iconst X0.here hx rfl (hb hby d36_35) hr)) ?_
      by_cases hc692 : (Int32.ofNat la) = (1 : Int32)
      · refine Gl.go (fun _ hr => zXS_icmpNo X0.here hx rfl (hb hby d36_36) rfl (XT.ii_ne_f hc692) hr) ?_
        have hz693 : la = 1 := own_inj32 (a := la) (b := 1) (by omega) (by omega) hc692
        refine Gl.go (fun _ hr => zXS_iconst X0.here hx rfl (hb hby d36_39) hr) ?_
        obtain ⟨fs, hr, hrun, hended, hW, hsame⟩ := X0.leave (v := some (.int (0 : Int32))) (fun h => by rw [Bd.returns] at h; cases h)
        refine ⟨_, _, retOut X0 hx Bd.returns rfl (Or.inl ⟨rfl, Or.inl rfl, _, rfl⟩) (hb hby d36_40) hr, hrun, hended, _, _, rfl, ?_, ⟨⟨_, rfl⟩, hW, hsame.mono (by decide) (by decide)⟩⟩
        show Qcsq Z la x1 x2 lb y1 y2 h0 n0 _ s₁.heap _
        rw [e0]
        exact ⟨(own_some (by unfold cmpS cmpN; (repeat' split) <;> first | rfl | omega)), N0, rfl⟩
      · refine Gl.go (fun _ hr => zXS_icmpYes X0.here hx rfl (pc0 := 36) (pc' := 41) rfl (hb hby d36_36) rfl (XT.ii_ne_t hc692) (by decide) (by decide) hr) ?_
        have hz694 : ¬ la = 1 := fun q => hc692 (congrArg Int32.ofNat q)
        refine Gl.go (fun _ hr => zXS_iloadN X0.here hx rfl (hb hby d36_41) rfl (zXS_iload X0.here hx rfl (hb hby d36_42) rfl hr)) ?_
        by_cases hc695 : (Int32.ofNat x2) = (Int32.ofNat y2)
        · refine Gl.go (fun _ hr => zXS_icmpYes X0.here hx rfl (pc0 := 44) (pc' := 59) rfl (hb hby d36_44) rfl (XT.ii_eq_t hc695) (by decide) (by decide) hr) ?_
          have hz696 : x2 = y2 := own_inj32 (a := x2) (b := y2) (by omega) (by omega) hc695
          refine Gl.go (fun _ hr => zXS_iconst X0.here hx rfl (hb hby d36_59) hr) ?_
          obtain ⟨fs, hr, hrun, hended, hW, hsame⟩ := X0.leave (v := some (.int (0 : Int32))) (fun h => by rw [Bd.returns] at h; cases h)
          refine ⟨_, _, retOut X0 hx Bd.returns rfl (Or.inl ⟨rfl, Or.inl rfl, _, rfl⟩) (hb hby d36_60) hr, hrun, hended, _, _, rfl, ?_, ⟨⟨_, rfl⟩, hW, hsame.mono (by decide) (by decide)⟩⟩
          show Qcsq Z la x1 x2 lb y1 y2 h0 n0 _ s₁.heap _
          rw [e0]
          exact ⟨(own_some (by unfold cmpS cmpN; (repeat' split) <;> first | rfl | omega)), N0, rfl⟩
        · refine Gl.go (fun _ hr => zXS_icmpNo X0.here hx rfl (hb hby d36_44) rfl (XT.ii_eq_f hc695) hr) ?_
          have hz697 : ¬ x2 = y2 := fun q => hc695 (congrArg Int32.ofNat q)
          refine Gl.go (fun _ hr => zXS_iloadN X0.here hx rfl (hb hby d36_47) rfl (zXS_iload X0.here hx rfl (hb hby d36_48) rfl hr)) ?_
          by_cases hc698 : (Int32.ofNat x2) < (Int32.ofNat y2)
          · refine Gl.go (fun _ hr => zXS_icmpNo X0.here hx rfl (hb hby d36_50) rfl (XT.ii_ge_f hc698) hr) ?_
            have hz699 : x2 < y2 := own_lt32' (a := x2) (b := y2) (by omega) (by omega) hc698
            refine Gl.go (fun _ hr => zXS_iconst X0.here hx rfl (hb hby d36_53) (zXS_goto X0.here hx rfl (pc0 := 54) (pc' := 58) rfl (hb hby d36_54) (by decide) (by decide) hr)) ?_
            obtain ⟨fs, hr, hrun, hended, hW, hsame⟩ := X0.leave (v := some (.int (-1 : Int32))) (fun h => by rw [Bd.returns] at h; cases h)
            refine ⟨_, _, retOut X0 hx Bd.returns rfl (Or.inl ⟨rfl, Or.inl rfl, _, rfl⟩) (hb hby d36_58) hr, hrun, hended, _, _, rfl, ?_, ⟨⟨_, rfl⟩, hW, hsame.mono (by decide) (by decide)⟩⟩
            show Qcsq Z la x1 x2 lb y1 y2 h0 n0 _ s₁.heap _
            rw [e0]
            exact ⟨(own_some (by unfold cmpS cmpN; (repeat' split) <;> first | rfl | omega)), N0, rfl⟩
          · refine Gl.go (fun _ hr => zXS_icmpYes X0.here hx rfl (pc0 := 50) (pc' := 57) rfl (hb hby d36_50) rfl (XT.ii_ge_t hc698) (by decide) (by decide) hr) ?_
            have hz700 : y2 ≤ x2 := own_ge32 (a := x2) (b := y2) (by omega) (by omega) hc698
            refine Gl.go (fun _ hr => zXS_iconst X0.here hx rfl (hb hby d36_57) hr) ?_
            obtain ⟨fs, hr, hrun, hended, hW, hsame⟩ := X0.leave (v := some (.int (1 : Int32))) (fun h => by rw [Bd.returns] at h; cases h)
            refine ⟨_, _, retOut X0 hx Bd.returns rfl (Or.inl ⟨rfl, Or.inl rfl, _, rfl⟩) (hb hby d36_58) hr, hrun, hended, _, _, rfl, ?_, ⟨⟨_, rfl⟩, hW, hsame.mono (by decide) (by decide)⟩⟩
            show Qcsq Z la x1 x2 lb y1 y2 h0 n0 _ s₁.heap _
            rw [e0]
            exact ⟨(own_some (by unfold cmpS cmpN; (repeat' split) <;> first | rfl | omega)), N0, rfl⟩
    · refine Gl.go (fun _ hr => zXS_icmpNo X0.here hx rfl (hb hby d36_20) rfl (XT.ii_eq_f hc690) hr) ?_
      have hz701 : ¬ la = lb := fun q => hc690 (congrArg Int32.ofNat q)
      refine Gl.go (fun _ hr => zXS_iloadN X0.here hx rfl (hb hby d36_23) rfl (zXS_iloadN X0.here hx rfl (hb hby d36_24) rfl hr)) ?_
      by_cases hc702 : (Int32.ofNat la) < (Int32.ofNat lb)
      · refine Gl.go (fun _ hr => zXS_icmpNo X0.here hx rfl (hb hby d36_25) rfl (XT.ii_ge_f hc702) hr) ?_
        have hz703 : la < lb := own_lt32' (a := la) (b := lb) (by omega) (by omega) hc702
        refine Gl.go (fun _ hr => zXS_iconst X0.here hx rfl (hb hby d36_28) (zXS_goto X0.here hx rfl (pc0 := 29) (pc' := 33) rfl (hb hby d36_29) (by decide) (by decide) hr)) ?_
        obtain ⟨fs, hr, hrun, hended, hW, hsame⟩ := X0.leave (v := some (.int (-1 : Int32))) (fun h => by rw [Bd.returns] at h; cases h)
        refine ⟨_, _, retOut X0 hx Bd.returns rfl (Or.inl ⟨rfl, Or.inl rfl, _, rfl⟩) (hb hby d36_33) hr, hrun, hended, _, _, rfl, ?_, ⟨⟨_, rfl⟩, hW, hsame.mono (by decide) (by decide)⟩⟩
        show Qcsq Z la x1 x2 lb y1 y2 h0 n0 _ s₁.heap _
        rw [e0]
        exact ⟨(own_some (by unfold cmpS cmpN; (repeat' split) <;> first | rfl | omega)), N0, rfl⟩
      · refine Gl.go (fun _ hr => zXS_icmpYes X0.here hx rfl (pc0 := 25) (pc' := 32) rfl (hb hby d36_25) rfl (XT.ii_ge_t hc702) (by decide) (by decide) hr) ?_
        have hz704 : lb ≤ la := own_ge32 (a := la) (b := lb) (by omega) (by omega) hc702
        refine Gl.go (fun _ hr => zXS_iconst X0.here hx rfl (hb hby d36_32) hr) ?_
        obtain ⟨fs, hr, hrun, hended, hW, hsame⟩ := X0.leave (v := some (.int (1 : Int32))) (fun h => by rw [Bd.returns] at h; cases h)
        refine ⟨_, _, retOut X0 hx Bd.returns rfl (Or.inl ⟨rfl, Or.inl rfl, _, rfl⟩) (hb hby d36_33) hr, hrun, hended, _, _, rfl, ?_, ⟨⟨_, rfl⟩, hW, hsame.mono (by decide) (by decide)⟩⟩
        show Qcsq Z la x1 x2 lb y1 y2 h0 n0 _ s₁.heap _
        rw [e0]
        exact ⟨(own_some (by unfold cmpS cmpN; (repeat' split) <;> first | rfl | omega)), N0, rfl⟩
  · refine Gl.go (fun _ hr => zXS_icmpNo X0.here hx rfl (hb hby d36_3) rfl (XT.ii_eq_f hc688) hr) ?_
    have hz705 : ¬ x1 = y1 := fun q => hc688 (congrArg Int32.ofNat q)
    refine Gl.go (fun _ hr => zXS_iloadN X0.here hx rfl (hb hby d36_6) rfl (zXS_iload X0.here hx rfl (hb hby d36_7) rfl hr)) ?_
    by_cases hc706 : (Int32.ofNat x1) < (Int32.ofNat y1)
    · refine Gl.go (fun _ hr => zXS_icmpNo X0.here hx rfl (hb hby d36_9) rfl (XT.ii_ge_f hc706) hr) ?_
      have hz707 : x1 < y1 := own_lt32' (a := x1) (b := y1) (by omega) (by omega) hc706
      refine Gl.go (fun _ hr => zXS_iconst X0.here hx rfl (hb hby d36_12) (zXS_goto X0.here hx rfl (pc0 := 13) (pc' := 17) rfl (hb hby d36_13) (by decide) (by decide) hr)) ?_
      obtain ⟨fs, hr, hrun, hended, hW, hsame⟩ := X0.leave (v := some (.int (-1 : Int32))) (fun h => by rw [Bd.returns] at h; cases h)
      refine ⟨_, _, retOut X0 hx Bd.returns rfl (Or.inl ⟨rfl, Or.inl rfl, _, rfl⟩) (hb hby d36_17) hr, hrun, hended, _, _, rfl, ?_, ⟨⟨_, rfl⟩, hW, hsame.mono (by decide) (by decide)⟩⟩
      show Qcsq Z la x1 x2 lb y1 y2 h0 n0 _ s₁.heap _
      rw [e0]
      exact ⟨(own_some (by unfold cmpS cmpN; (repeat' split) <;> first | rfl | omega)), N0, rfl⟩
    · refine Gl.go (fun _ hr => zXS_icmpYes X0.here hx rfl (pc0 := 9) (pc' := 16) rfl (hb hby d36_9) rfl (XT.ii_ge_t hc706) (by decide) (by decide) hr) ?_
      have hz708 : y1 ≤ x1 := own_ge32 (a := x1) (b := y1) (by omega) (by omega) hc706
      refine Gl.go (fun _ hr => zXS_iconst X0.here hx rfl (hb hby d36_16) hr) ?_
      obtain ⟨fs, hr, hrun, hended, hW, hsame⟩ := X0.leave (v := some (.int (1 : Int32))) (fun h => by rw [Bd.returns] at h; cases h)
      refine ⟨_, _, retOut X0 hx Bd.returns rfl (Or.inl ⟨rfl, Or.inl rfl, _, rfl⟩) (hb hby d36_17) hr, hrun, hended, _, _, rfl, ?_, ⟨⟨_, rfl⟩, hW, hsame.mono (by decide) (by decide)⟩⟩
      show Qcsq Z la x1 x2 lb y1 y2 h0 n0 _ s₁.heap _
      rw [e0]
      exact ⟨(own_some (by unfold cmpS cmpN; (repeat' split) <;> first | rfl | omega)), N0, rfl⟩
def Qsgn (Z : State) (r : Int32) (h0 : Heap) (n0 : Nat) (v : Option Value) (h : Heap) (L : List Loc) : Prop := v = some (.int r) ∧ Fr n0 L ∧ h = h0
theorem ef_sgn (m : MethodId) (x0 : Int32) : entryFrame m #[(.int x0)] 1 = mkF m 0 #[sI x0] [] := by first | (simp [entryFrame, mkF, argsToLocals, Value.category]; done) | rfl
theorem d40_0 : decode method_9_code 0 = .ok (.iload_n 0, 1) := by decide +kernel
theorem d40_1 : decode method_9_code 1 = .ok (.ifCond .ge 5, 3) := by decide +kernel
theorem d40_4 : decode method_9_code 4 = .ok (.iconst (-1), 1) := by decide +kernel
theorem d40_5 : decode method_9_code 5 = .ok (.ireturn, 1) := by decide +kernel
theorem d40_6 : decode method_9_code 6 = .ok (.iload_n 0, 1) := by decide +kernel
theorem d40_7 : decode method_9_code 7 = .ok (.ifCond .le 5, 3) := by decide +kernel
theorem d40_10 : decode method_9_code 10 = .ok (.iconst 1, 1) := by decide +kernel
theorem d40_11 : decode method_9_code 11 = .ok (.ireturn, 1) := by decide +kernel
theorem d40_12 : decode method_9_code 12 = .ok (.iconst 0, 1) := by decide +kernel
theorem d40_13 : decode method_9_code 13 = .ok (.ireturn, 1) := by decide +kernel
set_option maxRecDepth 65536 in
set_option maxHeartbeats 40000000 in
theorem sgn (l : Launch) (Z : State) (a0 : Array Value) (hw : ∀ d ∈ tables_1, d.before a0 Z = true) (ws : List Jvm.Cond) (r : Int32) (h0 : Heap) (n0 : Nat) (Z0 : n0 ≤ h0.size) (ht : r = -1 ∨ r = 0 ∨ r = 1) :
    MetFree l y_39 (head1 (Jvm.Cond.code y_39 method_9_code 1 (some .int) :: ws) r_m0) (fun a_ U_ => a_ = #[(.int r)] ∧ Z.Warmed39 U_.vm ∧ U_.heap = h0) (fun _ _ _ _ _ => True) (fun _ U_ o_ V_ => ∃ v_ L_, o_ = .returned v_ ∧ Qsgn Z r h0 n0 v_ V_.heap L_ ∧ FrameEnd U_ o_ V_ L_ r_m0.cells r_m0.slots) := by
  refine MetFree.of_bodySF (plainFor_of_name pn_2) hisR ?_
  intro p e s m args below meth c s₁ Bd hml0 hP hK
  obtain ⟨rfl, hZ, hh⟩ := hP
  have hx := Bd.exec
  have hby := Bd.bytes
  have hml : c.maxLocals = 1 := hml0
  have hown : s.vm.findClass "com/example/even_counter/evencounter/CounterIdCompareToPinLaw" = some m.cls := findClass_of_methodNamed Bd.named
  have hnm := (name_of_methodNamed Bd.named Bd.method).1
  have X0 : Stand p l e r_m0 s m #[(.int r)] below meth c s₁ [] 0 0 := Stand.of_body Bd
  have e0 : s₁.heap = h0 := by rw [← hh, Bd.state]; rfl
  have N0 := Fr.nil n0
  refine Gl.go (A := s₁.setTop (entryFrame m #[(.int r)] 1)) (P := fun o_ U_ => ∃ v_ L_, o_ = .returned v_ ∧ Qsgn Z r h0 n0 v_ U_.heap L_ ∧ FrameEnd s o_ U_ L_ r_m0.cells r_m0.slots) (fun t_ k_ => castTop (ef_sgn m r) k_) ?_
  show Gl p.tables e below _ (s₁.setTop (mkF m 0 #[sI r] []))
  refine Gl.go (fun _ hr => zXS_iloadN X0.here hx rfl (hb hby d40_0) rfl hr) ?_
  by_cases hc709 : r < (0 : Int32)
  · refine Gl.go (fun _ hr => zXS_ifNo X0.here hx rfl (hb hby d40_1) rfl (XT.i0_ge_f hc709) (zXS_iconst X0.here hx rfl (hb hby d40_4) hr)) ?_
    obtain ⟨fs, hr, hrun, hended, hW, hsame⟩ := X0.leave (v := some (.int (-1 : Int32))) (fun h => by rw [Bd.returns] at h; cases h)
    refine ⟨_, _, retOut X0 hx Bd.returns rfl (Or.inl ⟨rfl, Or.inl rfl, _, rfl⟩) (hb hby d40_5) hr, hrun, hended, _, _, rfl, ?_, ⟨⟨_, rfl⟩, hW, hsame.mono (by decide) (by decide)⟩⟩
    show Qsgn Z r h0 n0 _ s₁.heap _
    rw [e0]
    exact ⟨(own_some (own_sg1 ht hc709)), N0, rfl⟩
  · refine Gl.go (fun _ hr => zXS_ifYes X0.here hx rfl (pc0 := 1) (pc' := 6) rfl (hb hby d40_1) rfl (XT.i0_ge_t hc709) (by decide) (by decide) (zXS_iloadN X0.here hx rfl (hb hby d40_6) rfl hr)) ?_
    by_cases hc710 : (0 : Int32) < r
    · refine Gl.go (fun _ hr => zXS_ifNo X0.here hx rfl (hb hby d40_7) rfl (XT.i0_le_f hc710) (zXS_iconst X0.here hx rfl (hb hby d40_10) hr)) ?_
      obtain ⟨fs, hr, hrun, hended, hW, hsame⟩ := X0.leave (v := some (.int (1 : Int32))) (fun h => by rw [Bd.returns] at h; cases h)
      refine ⟨_, _, retOut X0 hx Bd.returns rfl (Or.inl ⟨rfl, Or.inl rfl, _, rfl⟩) (hb hby d40_11) hr, hrun, hended, _, _, rfl, ?_, ⟨⟨_, rfl⟩, hW, hsame.mono (by decide) (by decide)⟩⟩
      show Qsgn Z r h0 n0 _ s₁.heap _
      rw [e0]
      exact ⟨(own_some (own_sg2 ht hc710)), N0, rfl⟩
    · refine Gl.go (fun _ hr => zXS_ifYes X0.here hx rfl (pc0 := 7) (pc' := 12) rfl (hb hby d40_7) rfl (XT.i0_le_t hc710) (by decide) (by decide) (zXS_iconst X0.here hx rfl (hb hby d40_12) hr)) ?_
      obtain ⟨fs, hr, hrun, hended, hW, hsame⟩ := X0.leave (v := some (.int (0 : Int32))) (fun h => by rw [Bd.returns] at h; cases h)
      refine ⟨_, _, retOut X0 hx Bd.returns rfl (Or.inl ⟨rfl, Or.inl rfl, _, rfl⟩) (hb hby d40_13) hr, hrun, hended, _, _, rfl, ?_, ⟨⟨_, rfl⟩, hW, hsame.mono (by decide) (by decide)⟩⟩
      show Qsgn Z r h0 n0 _ s₁.heap _
      rw [e0]
      exact ⟨(own_some (own_sg0 ht hc709 hc710)), N0, rfl⟩
def Qlawrm (Z : State) (i0 : Int32) (i1 : Int32) (i2 : Int64) (i3 : Int64) (i4 : Int32) (G1 : Int32) (G3 : Value) (h0 : Heap) (n0 : Nat) (v : Option Value) (h : Heap) (L : List Loc) : Prop := v = some (.int (1 : Int32)) ∧ Fr n0 L ∧ Keep h0 h []
theorem ef_lawrm (m : MethodId) (x0 : Int32) (x1 : Int32) (x2 : Int64) (x3 : Int64) (x4 : Int32) : entryFrame m #[(.int x0), (.int x1), (.long x2), (.long x3), (.int x4)] maxLocals = mkF m 0 #[sI x0, sI x1, sJ x2, sS, sJ x3, sS, sI x4, sU, sU, sU, sU, sU, sU, sU, sU, sU, sU, sU, sU, sU, sU, sU, sU] [] := by first | (simp [entryFrame, mkF, argsToLocals, Value.category, maxLocals]; done) | rfl
theorem pd_23 : parseMethodDescriptor "(ICC)Ljava/lang/String;" = some ⟨[.int, .char, .char], some (.object "java/lang/String")⟩ := by decide +kernel
theorem pd_24 : parseMethodDescriptor "(III)Ljava/lang/String;" = some ⟨[.int, .int, .int], some (.object "java/lang/String")⟩ := by decide +kernel
theorem pd_25 : parseMethodDescriptor "(Ljava/lang/String;Ljava/lang/String;)V" = some ⟨[(.object "java/lang/String"), (.object "java/lang/String")], none⟩ := by decide +kernel
theorem pd_26 : parseMethodDescriptor "(IIIIII)I" = some ⟨[.int, .int, .int, .int, .int, .int], some .int⟩ := by decide +kernel
theorem pd_27 : parseMethodDescriptor "(Lcom/example/even_counter/evencounter/CounterId;)I" = some ⟨[(.object "com/example/even_counter/evencounter/CounterId")], some .int⟩ := by decide +kernel
set_option maxRecDepth 65536 in
set_option maxHeartbeats 40000000 in
theorem lawrm (l : Launch) (Z : State) (a0 : Array Value) (hw : ∀ d ∈ tables_1, d.before a0 Z = true) (ws : List Jvm.Cond) (i0 : Int32) (i1 : Int32) (i2 : Int64) (i3 : Int64) (i4 : Int32) (G1 : Int32) (G3 : Value) (h0 : Heap) (n0 : Nat) (Z0 : n0 ≤ h0.size) (q0 : Sta Z Z.heap "java/lang/String" "COMPACT_STRINGS" "Z" (.int G1)) (P5 : ¬ (G1 = (0 : Int32))) (q2 : Old Z n0 h0) (q3 : Sta Z Z.heap "jdk/internal/util/Preconditions" "SIOOBE_FORMATTER" "Ljava/util/function/BiFunction;" G3) (rG3 : G3.isRef = true) (q5 : Sta Z Z.heap "java/lang/StringUTF16" "$assertionsDisabled" "Z" (.int (1 : Int32))) (q6 : Sta Z Z.heap "java/lang/StringUTF16" "HI_BYTE_SHIFT" "I" (.int (0 : Int32))) (q7 : Sta Z Z.heap "java/lang/StringUTF16" "LO_BYTE_SHIFT" "I" (.int (8 : Int32))) :
    MetFree l x (head1 (Jvm.Cond.code x code maxLocals ret :: ws) room_1) (fun a_ U_ => a_ = #[(.int i0), (.int i1), (.long i2), (.long i3), (.int i4)] ∧ Z.Warmed39 U_.vm ∧ U_.heap = h0) (fun _ _ _ _ _ => True) (fun _ U_ o_ V_ => ∃ v_ L_, o_ = .returned v_ ∧ Qlawrm Z i0 i1 i2 i3 i4 G1 G3 h0 n0 v_ V_.heap L_ ∧ ReturnedEndW U_ o_ V_ L_ 48 2240) := by
  refine MetFree.of_bodySF (plainFor_of_name pn_2) hisR ?_
  intro p e s m args below meth c s₁ Bd hml0 hP hK
  obtain ⟨rfl, hZ, hh⟩ := hP
  have hx := Bd.exec
  have hby := Bd.bytes
  have hml : c.maxLocals = 23 := hml0
  have hown : s.vm.findClass "com/example/even_counter/evencounter/CounterIdCompareToPinLaw" = some m.cls := findClass_of_methodNamed Bd.named
  have hnm := (name_of_methodNamed Bd.named Bd.method).1
  have X0 : Stand p l e room_1 (s.setVm s.vm) m #[(.int i0), (.int i1), (.long i2), (.long i3), (.int i4)] below meth c s₁ [] 0 0 := Stand.of_body Bd
  have e0 : s₁.heap = h0 := by rw [← hh, Bd.state]; rfl
  have N0 := Fr.nil n0
  have hS0 : s.Since s.vm h0.size := (State.WarmedH.refl s).since _
  have hk0 : h0.size ≤ h0.size := Nat.le_refl _
  have zo := q2.1
  have hstr : ∀ d ∈ Bundle.stringAtoms, d.before a0 Z = true := fun d hd => hw d (own_hstr d hd)
  have hws : ∀ d ∈ StrChars.Road.words, d.before a0 Z = true := fun d hd => hw d (own_hws d hd)
  have hln : ∀ d ∈ StrChars.Road.wordsLen, d.before a0 Z = true := fun d hd => hw d (own_hln d hd)
  refine Gl.go (A := s₁.setTop (entryFrame m #[(.int i0), (.int i1), (.long i2), (.long i3), (.int i4)] maxLocals)) (P := fun o_ U_ => ∃ v_ L_, o_ = .returned v_ ∧ Qlawrm Z i0 i1 i2 i3 i4 G1 G3 h0 n0 v_ U_.heap L_ ∧ ReturnedEndW s o_ U_ L_ 48 2240) (fun t_ k_ => castTop (ef_lawrm m i0 i1 i2 i3 i4) k_) ?_
  show Gl p.tables e below _ (s₁.setTop (mkF m 0 #[sI i0, sI i1, sJ i2, sS, sJ i3, sS, sI i4, sU, sU, sU, sU, sU, sU, sU, sU, sU, sU, sU, sU, sU, sU, sU, sU] []))
  have tA : ∀ (T : State) (hc : Heap) (lc : List Loc) (vmc : Vm) (kc : Nat) (la : Nat) (a1 : Nat) (a2 : Nat) (lb : Nat) (b1 : Nat) (b2 : Nat) (ka1 : Nat) (ka2 : Nat) (na : Nat) (kb1 : Nat) (kb2 : Nat) (nb : Nat), Fr n0 lc → Stand p l e room_1 (s.setVm vmc) m #[(.int i0), (.int i1), (.long i2), (.long i3), (.int i4)] below meth c T lc 0 0 → T.heap = hc → Keep h0 hc [] → s.Since vmc kc → kc ≤ hc.size → Z.Warmed39 (s.setVm vmc).vm → (s.setVm vmc).vm.findClass "com/example/even_counter/evencounter/CounterIdCompareToPinLaw" = some m.cls → (la = 1 ∨ la = 2) → (lb = 1 ∨ lb = 2) → (na = 1 ∨ na = 2) → (nb = 1 ∨ nb = 2) → (NmK a1) → (NmK a2) → (NmK b1) → (NmK b2) → (KeyC ka1) → (KeyC ka2) → (KeyC kb1) → (KeyC kb2) → Gl p.tables e below (fun o_ U_ => ∃ v_ L_, o_ = .returned v_ ∧ Qlawrm Z i0 i1 i2 i3 i4 G1 G3 h0 n0 v_ U_.heap L_ ∧ ReturnedEndW s o_ U_ L_ 48 2240) (T.setTop (mkF m 154 #[sI i0, sI i1, sJ i2, sS, sJ i3, sS, sI i4, sI (Int32.ofNat la), sI (Int32.ofNat a1), sI (Int32.ofNat a2), sI (Int32.ofNat lb), sI (Int32.ofNat b1), sI (Int32.ofNat b2), sI (Int32.ofNat ka1), sI (Int32.ofNat ka2), sI (Int32.ofNat na), sI (Int32.ofNat kb1), sI (Int32.ofNat kb2), sI (Int32.ofNat nb), sU, sU, sU, sU] [])) := by
    intro T hc lc vmc kc la a1 a2 lb b1 b2 ka1 ka2 na kb1 kb2 nb Nc Xc ec Kc hSc hkc hZc hownc hn_la hn_lb hn_na hn_nb ha1 ha2 hb1 hb2 hka1 hka2 hkb1 hkb2
    have zc : h0.size ≤ hc.size := Kc.1
    have hx_a1 := ha1.lt
    have hx_a2 := ha2.lt
    have hx_b1 := hb1.lt
    have hx_b2 := hb2.lt
    show Gl p.tables e below _ (T.setTop (mkF m 154 #[sI i0, sI i1, sJ i2, sS, sJ i3, sS, sI i4, sI (Int32.ofNat la), sI (Int32.ofNat a1), sI (Int32.ofNat a2), sI (Int32.ofNat lb), sI (Int32.ofNat b1), sI (Int32.ofNat b2), sI (Int32.ofNat ka1), sI (Int32.ofNat ka2), sI (Int32.ofNat na), sI (Int32.ofNat kb1), sI (Int32.ofNat kb2), sI (Int32.ofNat nb), sU, sU, sU, sU] []))
    refine gNew Gl.cl Xc hx hZc hownc (tw hw 10 rfl) (tw hw 11 rfl) (tw hw 12 rfl) ec rfl (hb hby at_154) (by decide) (by decide) ?_
    intro T711 h711 b711 g711 X711 e711 E711 A711 D711
    have z712 : hc.size ≤ h711.size := E711.1
    have lt711 := own_alt A711.lt
    have F711_name : Fld Z h711 b711 "com/example/even_counter/evencounter/CounterId" "name" "Ljava/lang/String;" .null := D711 (Or.inr (tw hw 160 rfl)) (ty := (.object "java/lang/String")) (by decide)
    have F711_key : Fld Z h711 b711 "com/example/even_counter/evencounter/CounterId" "key" "Ljava/lang/String;" .null := D711 (Or.inr (tw hw 162 rfl)) (ty := (.object "java/lang/String")) (by decide)
    refine Gl.go (fun _ hr => zXS_dup X711.here hx rfl (hb hby at_157) rfl rfl (zXS_iload X711.here hx rfl (hb hby at_158) rfl (zXS_iload X711.here hx rfl (hb hby at_160) rfl (zXS_iload X711.here hx rfl (hb hby at_162) rfl hr)))) ?_
    have Oc714 := ((q2.keep Kc all0).ext E711)
    have zz713 : n0 ≤ h711.size := by omega
    refine gStaticN Gl.cl (y := y_14) (argsL := [(.int (Int32.ofNat la)), (.int (Int32.ofNat a1)), (.int (Int32.ofNat a2))]) (rest := [(.ref b711), (.ref b711)]) (mc := 3) (ms := 20) X711 hx hZc hownc (mvT hZc (tw hw 13 rfl)) (mvT hZc (tw hw 14 rfl)) (mvT hZc (tw hw 2 rfl)) (mvT hZc (tw hw 15 rfl)) (by decide) (backOf (W := 2) (nst l Z a0 hw [] la a1 a2 G1 h711 n0 zz713 q0 (by assumption) Oc714 hn_la ha1 ha2) hZc (tw hw 15 rfl) (tw hw 2 rfl) (by decide) (by decide)) rfl (by rw [hml]; rfl) (lenOf pd_23 rfl) rfl (by exact Nat.le_of_eq rfl) (hb hby at_164) rfl e711 (by decide) (by decide) ?_
    intro v713 T713 Lc713 hQ713 X713
    obtain ⟨r_713, t_713, kb_713, N2_713, vs_713, rfl, Nq713, K713, f713_0, f713_1, f713_2, f713_3, f713_4, p713_cod⟩ := hQ713
    have z715 : h711.size ≤ T713.heap.size := K713.1
    have N713 := Fr.app Nc Nq713
    have lt716 := own_alt f713_0.lt
    have lt717 := own_alt f713_1.lt
    have lt718 := own_alt f713_2.lt
    have lt719 := own_alt f713_3.lt
    refine Gl.go (fun _ hr => zXS_iload X713.here hx rfl (hb hby at_167) rfl (zXS_iload X713.here hx rfl (hb hby at_169) rfl (zXS_iload X713.here hx rfl (hb hby at_171) rfl hr))) ?_
    have Oc721 := (Oc714.keep K713 all0)
    have zz720 : n0 ≤ T713.heap.size := by omega
    refine gStaticN Gl.cl (y := y_15) (argsL := [(.int (Int32.ofNat ka1)), (.int (Int32.ofNat ka2)), (.int (Int32.ofNat na))]) (rest := [(.ref r_713), (.ref b711), (.ref b711)]) (mc := 4) (ms := 20) X713 hx hZc hownc (mvT hZc (tw hw 46 rfl)) (mvT hZc (tw hw 47 rfl)) (mvT hZc (tw hw 2 rfl)) (mvT hZc (tw hw 48 rfl)) (by decide) (backOf (W := 3) (kst l Z a0 hw [] ka1 ka2 na G1 T713.heap n0 zz720 q0 (by assumption) Oc721 q5 q6 q7 hn_na hka1 hka2) hZc (tw hw 48 rfl) (tw hw 2 rfl) (by decide) (by decide)) rfl (by rw [hml]; rfl) (lenOf pd_24 rfl) rfl (by exact Nat.le_of_eq rfl) (hb hby at_173) rfl (rfl : T713.heap = T713.heap) (by decide) (by decide) ?_
    intro v720 T720 Lc720 hQ720 X720
    obtain ⟨r_720, t_720, kb_720, cd_720, N2_720, vs_720, rfl, Nq720, K720, f720_0, f720_1, f720_2, f720_3, f720_4, p720_cod⟩ := hQ720
    have z722 : T713.heap.size ≤ T720.heap.size := K720.1
    have N720 := Fr.app N713 Nq720
    have lt723 := own_alt f720_0.lt
    have lt724 := own_alt f720_1.lt
    have lt725 := own_alt f720_2.lt
    have lt726 := own_alt f720_3.lt
    have Oc728 := (Oc721.keep K720 all0)
    have Ec729 := ((A711.keep K713).keep K720)
    have Fc730 := ((F711_name.keep K713 nin0).keep K720 nin0)
    have Fc731 := ((F711_key.keep K713 nin0).keep K720 nin0)
    have Ec732 := (f713_0.keep K720)
    have Fc733 := (f713_1.keep K720 nin0)
    have Fc734 := (f713_2.keep K720 nin0)
    have Vc735 := (f713_3.keep K720 nin0)
    have zz727 : n0 ≤ T720.heap.size := by omega
    refine gSpecialS Gl.cl (y := y_34) (b := b711) (argsL := [(.ref r_713), (.ref r_720)]) (rest := [(.ref b711)]) (mc := 4) (ms := 236) X720 hx hZc hSc (by have q := hkc; omega) hownc rfl (mvT hZc (tw hw 72 rfl)) (mvT hZc (tw hw 73 rfl)) (mvT hZc (tw hw 74 rfl)) (by decide) (backOfS (W := 1) (cin l Z a0 hw [] b711 r_713 t_713 kb_713 N2_713 vs_713 la a1 a2 r_720 t_720 kb_720 cd_720 N2_720 vs_720 na ka1 ka2 G1 G3 T720.heap n0 zz727 q0 (by assumption) Oc728 q3 (by assumption) q5 q6 q7 (by omega) Ec729 Fc730 Fc731 Ec732 Fc733 Fc734 Vc735 p713_cod hn_la ha1 ha2 f720_0 f720_1 f720_2 f720_3 p720_cod hn_na hka1 hka2) hZc (tw hw 74 rfl) (tw hw 12 rfl) (by decide) (by decide)) rfl (by rw [hml]; rfl) (lenOf pd_25 rfl) rfl (by exact Nat.le_of_eq rfl) (hb hby at_176) rfl (rfl : T720.heap = T720.heap) (by decide) (by decide) ?_
    intro v727 T727 Lc727 hQ727 X727 hS727 hZ727 hown727 hk727
    obtain ⟨rfl, Nq727, K727, f727_0, f727_1, f727_2⟩ := hQ727
    have z736 : T720.heap.size ≤ T727.heap.size := K727.1
    have N727 := Fr.app N720 Nq727
    have lt737 := own_alt f727_0.lt
    have lt738 := own_alt f727_1.lt
    have lt739 := own_alt f727_2.lt
    refine Gl.go (fun _ hr => zXS_astore X727.here hx rfl (hb hby at_179) rfl rfl (l' := #[sI i0, sI i1, sJ i2, sS, sJ i3, sS, sI i4, sI (Int32.ofNat la), sI (Int32.ofNat a1), sI (Int32.ofNat a2), sI (Int32.ofNat lb), sI (Int32.ofNat b1), sI (Int32.ofNat b2), sI (Int32.ofNat ka1), sI (Int32.ofNat ka2), sI (Int32.ofNat na), sI (Int32.ofNat kb1), sI (Int32.ofNat kb2), sI (Int32.ofNat nb), sR b711, sU, sU, sU]) rfl hr) ?_
    refine gNew Gl.cl X727 hx hZ727 hown727 (tw hw 10 rfl) (tw hw 11 rfl) (tw hw 12 rfl) (rfl : T727.heap = T727.heap) rfl (hb hby at_181) (by decide) (by decide) ?_
    intro T740 h740 b740 g740 X740 e740 E740 A740 D740
    have z741 : T727.heap.size ≤ h740.size := E740.1
    have lt740 := own_alt A740.lt
    have F740_name : Fld Z h740 b740 "com/example/even_counter/evencounter/CounterId" "name" "Ljava/lang/String;" .null := D740 (Or.inr (tw hw 160 rfl)) (ty := (.object "java/lang/String")) (by decide)
    have F740_key : Fld Z h740 b740 "com/example/even_counter/evencounter/CounterId" "key" "Ljava/lang/String;" .null := D740 (Or.inr (tw hw 162 rfl)) (ty := (.object "java/lang/String")) (by decide)
    refine Gl.go (fun _ hr => zXS_dup X740.here hx rfl (hb hby at_184) rfl rfl (zXS_iload X740.here hx rfl (hb hby at_185) rfl (zXS_iload X740.here hx rfl (hb hby at_187) rfl (zXS_iload X740.here hx rfl (hb hby at_189) rfl hr)))) ?_
    have om743 : @LE.le Nat instLENat n0 b711 := by omega
    have Oc744 := ((Oc728.keep K727 (allS (own_ale om743) all0)).ext E740)
    have zz742 : n0 ≤ h740.size := by omega
    refine gStaticN Gl.cl (y := y_14) (argsL := [(.int (Int32.ofNat lb)), (.int (Int32.ofNat b1)), (.int (Int32.ofNat b2))]) (rest := [(.ref b740), (.ref b740)]) (mc := 3) (ms := 20) X740 hx hZ727 hown727 (mvT hZ727 (tw hw 13 rfl)) (mvT hZ727 (tw hw 14 rfl)) (mvT hZ727 (tw hw 2 rfl)) (mvT hZ727 (tw hw 15 rfl)) (by decide) (backOf (W := 2) (nst l Z a0 hw [] lb b1 b2 G1 h740 n0 zz742 q0 (by assumption) Oc744 hn_lb hb1 hb2) hZ727 (tw hw 15 rfl) (tw hw 2 rfl) (by decide) (by decide)) rfl (by rw [hml]; rfl) (lenOf pd_23 rfl) rfl (by exact Nat.le_of_eq rfl) (hb hby at_191) rfl e740 (by decide) (by decide) ?_
    intro v742 T742 Lc742 hQ742 X742
    obtain ⟨r_742, t_742, kb_742, N2_742, vs_742, rfl, Nq742, K742, f742_0, f742_1, f742_2, f742_3, f742_4, p742_cod⟩ := hQ742
    have z745 : h740.size ≤ T742.heap.size := K742.1
    have N742 := Fr.app N727 Nq742
    have lt746 := own_alt f742_0.lt
    have lt747 := own_alt f742_1.lt
    have lt748 := own_alt f742_2.lt
    have lt749 := own_alt f742_3.lt
    refine Gl.go (fun _ hr => zXS_iload X742.here hx rfl (hb hby at_194) rfl (zXS_iload X742.here hx rfl (hb hby at_196) rfl (zXS_iload X742.here hx rfl (hb hby at_198) rfl hr))) ?_
    have Oc751 := (Oc744.keep K742 all0)
    have zz750 : n0 ≤ T742.heap.size := by omega
    refine gStaticN Gl.cl (y := y_15) (argsL := [(.int (Int32.ofNat kb1)), (.int (Int32.ofNat kb2)), (.int (Int32.ofNat nb))]) (rest := [(.ref r_742), (.ref b740), (.ref b740)]) (mc := 4) (ms := 20) X742 hx hZ727 hown727 (mvT hZ727 (tw hw 46 rfl)) (mvT hZ727 (tw hw 47 rfl)) (mvT hZ727 (tw hw 2 rfl)) (mvT hZ727 (tw hw 48 rfl)) (by decide) (backOf (W := 3) (kst l Z a0 hw [] kb1 kb2 nb G1 T742.heap n0 zz750 q0 (by assumption) Oc751 q5 q6 q7 hn_nb hkb1 hkb2) hZ727 (tw hw 48 rfl) (tw hw 2 rfl) (by decide) (by decide)) rfl (by rw [hml]; rfl) (lenOf pd_24 rfl) rfl (by exact Nat.le_of_eq rfl) (hb hby at_200) rfl (rfl : T742.heap = T742.heap) (by decide) (by decide) ?_
    intro v750 T750 Lc750 hQ750 X750
    obtain ⟨r_750, t_750, kb_750, cd_750, N2_750, vs_750, rfl, Nq750, K750, f750_0, f750_1, f750_2, f750_3, f750_4, p750_cod⟩ := hQ750
    have z752 : T742.heap.size ≤ T750.heap.size := K750.1
    have N750 := Fr.app N742 Nq750
    have lt753 := own_alt f750_0.lt
    have lt754 := own_alt f750_1.lt
    have lt755 := own_alt f750_2.lt
    have lt756 := own_alt f750_3.lt
    have Oc758 := (Oc751.keep K750 all0)
    have Ec759 := ((A740.keep K742).keep K750)
    have Fc760 := ((F740_name.keep K742 nin0).keep K750 nin0)
    have Fc761 := ((F740_key.keep K742 nin0).keep K750 nin0)
    have Ec762 := (f742_0.keep K750)
    have Fc763 := (f742_1.keep K750 nin0)
    have Fc764 := (f742_2.keep K750 nin0)
    have Vc765 := (f742_3.keep K750 nin0)
    have zz757 : n0 ≤ T750.heap.size := by omega
    refine gSpecialS Gl.cl (y := y_34) (b := b740) (argsL := [(.ref r_742), (.ref r_750)]) (rest := [(.ref b740)]) (mc := 4) (ms := 236) X750 hx hZ727 hS727 (by have q := hk727; omega) hown727 rfl (mvT hZ727 (tw hw 72 rfl)) (mvT hZ727 (tw hw 73 rfl)) (mvT hZ727 (tw hw 74 rfl)) (by decide) (backOfS (W := 1) (cin l Z a0 hw [] b740 r_742 t_742 kb_742 N2_742 vs_742 lb b1 b2 r_750 t_750 kb_750 cd_750 N2_750 vs_750 nb kb1 kb2 G1 G3 T750.heap n0 zz757 q0 (by assumption) Oc758 q3 (by assumption) q5 q6 q7 (by omega) Ec759 Fc760 Fc761 Ec762 Fc763 Fc764 Vc765 p742_cod hn_lb hb1 hb2 f750_0 f750_1 f750_2 f750_3 p750_cod hn_nb hkb1 hkb2) hZ727 (tw hw 74 rfl) (tw hw 12 rfl) (by decide) (by decide)) rfl (by rw [hml]; rfl) (lenOf pd_25 rfl) rfl (by exact Nat.le_of_eq rfl) (hb hby at_203) rfl (rfl : T750.heap = T750.heap) (by decide) (by decide) ?_
    intro v757 T757 Lc757 hQ757 X757 hS757 hZ757 hown757 hk757
    obtain ⟨rfl, Nq757, K757, f757_0, f757_1, f757_2⟩ := hQ757
    have z766 : T750.heap.size ≤ T757.heap.size := K757.1
    have N757 := Fr.app N750 Nq757
    have lt767 := own_alt f757_0.lt
    have lt768 := own_alt f757_1.lt
    have lt769 := own_alt f757_2.lt
    refine Gl.go (fun _ hr => zXS_astore X757.here hx rfl (hb hby at_206) rfl rfl (l' := #[sI i0, sI i1, sJ i2, sS, sJ i3, sS, sI i4, sI (Int32.ofNat la), sI (Int32.ofNat a1), sI (Int32.ofNat a2), sI (Int32.ofNat lb), sI (Int32.ofNat b1), sI (Int32.ofNat b2), sI (Int32.ofNat ka1), sI (Int32.ofNat ka2), sI (Int32.ofNat na), sI (Int32.ofNat kb1), sI (Int32.ofNat kb2), sI (Int32.ofNat nb), sR b711, sR b740, sU, sU]) rfl (zXS_iload X757.here hx rfl (hb hby at_208) rfl (zXS_iload X757.here hx rfl (hb hby at_210) rfl (zXS_iload X757.here hx rfl (hb hby at_212) rfl (zXS_iload X757.here hx rfl (hb hby at_214) rfl (zXS_iload X757.here hx rfl (hb hby at_216) rfl (zXS_iload X757.here hx rfl (hb hby at_218) rfl hr))))))) ?_
    have zz770 : n0 ≤ T757.heap.size := by omega
    refine gStaticN Gl.cl (y := y_38) (argsL := [(.int (Int32.ofNat la)), (.int (Int32.ofNat a1)), (.int (Int32.ofNat a2)), (.int (Int32.ofNat lb)), (.int (Int32.ofNat b1)), (.int (Int32.ofNat b2))]) (rest := []) (mc := 0) (ms := 0) X757 hx hZ757 hown757 (mvT hZ757 (tw hw 163 rfl)) (mvT hZ757 (tw hw 164 rfl)) (mvT hZ757 (tw hw 2 rfl)) (mvT hZ757 (tw hw 165 rfl)) (by decide) (backOf (W := 0) (csq l Z a0 hw [] la a1 a2 lb b1 b2 T757.heap n0 zz770 ⟨⟨(own_n12 hn_la), (own_n12 hn_lb)⟩, ⟨(Nat.le_of_lt (Nat.lt_trans hx_a1 (by decide))), (Nat.le_of_lt (Nat.lt_trans hx_a2 (by decide)))⟩, ⟨(Nat.le_of_lt (Nat.lt_trans hx_b1 (by decide))), (Nat.le_of_lt (Nat.lt_trans hx_b2 (by decide)))⟩⟩) hZ757 (tw hw 165 rfl) (tw hw 2 rfl) (by decide) (by decide)) rfl (by rw [hml]; rfl) (lenOf pd_26 rfl) rfl (by exact Nat.le_of_eq rfl) (hb hby at_220) rfl (rfl : T757.heap = T757.heap) (by decide) (by decide) ?_
    intro v770 T770 Lc770 hQ770 X770
    obtain ⟨rfl, Nq770, e770⟩ := hQ770
    have N770 := Fr.app N757 Nq770
    refine Gl.go (fun _ hr => zXS_istore X770.here hx rfl (hb hby at_223) rfl (l' := #[sI i0, sI i1, sJ i2, sS, sJ i3, sS, sI i4, sI (Int32.ofNat la), sI (Int32.ofNat a1), sI (Int32.ofNat a2), sI (Int32.ofNat lb), sI (Int32.ofNat b1), sI (Int32.ofNat b2), sI (Int32.ofNat ka1), sI (Int32.ofNat ka2), sI (Int32.ofNat na), sI (Int32.ofNat kb1), sI (Int32.ofNat kb2), sI (Int32.ofNat nb), sR b711, sR b740, sI (cmpS la a1 a2 lb b1 b2), sU]) rfl (zXS_iload X770.here hx rfl (hb hby at_225) rfl hr)) ?_
    by_cases hc771 : (cmpS la a1 a2 lb b1 b2) = (0 : Int32)
    · refine Gl.go (fun _ hr => zXS_ifYes X770.here hx rfl (pc0 := 227) (pc' := 235) rfl (hb hby at_227) rfl (XT.i0_eq_t hc771) (by decide) (by decide) (zXS_iload X770.here hx rfl (hb hby at_235) rfl (zXS_iload X770.here hx rfl (hb hby at_237) rfl (zXS_iload X770.here hx rfl (hb hby at_239) rfl (zXS_iload X770.here hx rfl (hb hby at_241) rfl (zXS_iload X770.here hx rfl (hb hby at_243) rfl (zXS_iload X770.here hx rfl (hb hby at_245) rfl hr))))))) ?_
      have zz772 : n0 ≤ T757.heap.size := by omega
      refine gStaticN Gl.cl (y := y_38) (argsL := [(.int (Int32.ofNat na)), (.int (Int32.ofNat ka1)), (.int (Int32.ofNat ka2)), (.int (Int32.ofNat nb)), (.int (Int32.ofNat kb1)), (.int (Int32.ofNat kb2))]) (rest := []) (mc := 0) (ms := 0) X770 hx hZ757 hown757 (mvT hZ757 (tw hw 163 rfl)) (mvT hZ757 (tw hw 164 rfl)) (mvT hZ757 (tw hw 2 rfl)) (mvT hZ757 (tw hw 165 rfl)) (by decide) (backOf (W := 0) (csq l Z a0 hw [] na ka1 ka2 nb kb1 kb2 T757.heap n0 zz772 ⟨⟨(own_n12 hn_na), (own_n12 hn_nb)⟩, ⟨hka1.1.2, hka2.1.2⟩, ⟨hkb1.1.2, hkb2.1.2⟩⟩) hZ757 (tw hw 165 rfl) (tw hw 2 rfl) (by decide) (by decide)) rfl (by rw [hml]; rfl) (lenOf pd_26 rfl) rfl (by exact Nat.le_of_eq rfl) (hb hby at_247) rfl e770 (by decide) (by decide) ?_
      intro v772 T772 Lc772 hQ772 X772
      obtain ⟨rfl, Nq772, e772⟩ := hQ772
      have N772 := Fr.app N770 Nq772
      refine Gl.go (fun _ hr => zXS_istore X772.here hx rfl (hb hby at_250) rfl (l' := #[sI i0, sI i1, sJ i2, sS, sJ i3, sS, sI i4, sI (Int32.ofNat la), sI (Int32.ofNat a1), sI (Int32.ofNat a2), sI (Int32.ofNat lb), sI (Int32.ofNat b1), sI (Int32.ofNat b2), sI (Int32.ofNat ka1), sI (Int32.ofNat ka2), sI (Int32.ofNat na), sI (Int32.ofNat kb1), sI (Int32.ofNat kb2), sI (Int32.ofNat nb), sR b711, sR b740, sI (cmpS la a1 a2 lb b1 b2), sI (cmpS na ka1 ka2 nb kb1 kb2)]) rfl (zXS_aload X772.here hx rfl (hb hby at_252) rfl rfl (zXS_aload X772.here hx rfl (hb hby at_254) rfl rfl hr))) ?_
      have om774 : @LE.le Nat instLENat n0 b740 := by omega
      have Oc775 := (Oc758.keep K757 (allS (own_ale om774) all0))
      have om776 : ¬ @Eq Nat b711 b740 := by omega
      have Fc777 := ((((f727_1.ext E740).keep K742 nin0).keep K750 nin0).keep K757 (ninS (own_ane om776) nin0))
      have Fc778 := ((((f727_2.ext E740).keep K742 nin0).keep K750 nin0).keep K757 (ninS (own_ane om776) nin0))
      have Ec779 := (((((Ec732.keep K727).ext E740).keep K742).keep K750).keep K757)
      have om780 : ¬ @Eq Nat r_713 b711 := by omega
      have om781 : ¬ @Eq Nat r_713 b740 := by omega
      have Fc782 := (((((Fc733.keep K727 (ninS (own_ane om780) nin0)).ext E740).keep K742 nin0).keep K750 nin0).keep K757 (ninS (own_ane om781) nin0))
      have Fc783 := (((((Fc734.keep K727 (ninS (own_ane om780) nin0)).ext E740).keep K742 nin0).keep K750 nin0).keep K757 (ninS (own_ane om781) nin0))
      have om784 : ¬ @Eq Nat t_713 b711 := by omega
      have om785 : ¬ @Eq Nat t_713 b740 := by omega
      have Vc786 := (((((Vc735.keep K727 (ninS (own_ane om784) nin0)).ext E740).keep K742 nin0).keep K750 nin0).keep K757 (ninS (own_ane om785) nin0))
      have Ec787 := (((((f720_0.keep K727).ext E740).keep K742).keep K750).keep K757)
      have om788 : ¬ @Eq Nat r_720 b711 := by omega
      have om789 : ¬ @Eq Nat r_720 b740 := by omega
      have Fc790 := (((((f720_1.keep K727 (ninS (own_ane om788) nin0)).ext E740).keep K742 nin0).keep K750 nin0).keep K757 (ninS (own_ane om789) nin0))
      have Fc791 := (((((f720_2.keep K727 (ninS (own_ane om788) nin0)).ext E740).keep K742 nin0).keep K750 nin0).keep K757 (ninS (own_ane om789) nin0))
      have om792 : ¬ @Eq Nat t_720 b711 := by omega
      have om793 : ¬ @Eq Nat t_720 b740 := by omega
      have Vc794 := (((((f720_3.keep K727 (ninS (own_ane om792) nin0)).ext E740).keep K742 nin0).keep K750 nin0).keep K757 (ninS (own_ane om793) nin0))
      have Ec795 := (Ec762.keep K757)
      have om796 : ¬ @Eq Nat r_742 b740 := by omega
      have Fc797 := (Fc763.keep K757 (ninS (own_ane om796) nin0))
      have Fc798 := (Fc764.keep K757 (ninS (own_ane om796) nin0))
      have om799 : ¬ @Eq Nat t_742 b740 := by omega
      have Vc800 := (Vc765.keep K757 (ninS (own_ane om799) nin0))
      have Ec801 := (f750_0.keep K757)
      have om802 : ¬ @Eq Nat r_750 b740 := by omega
      have Fc803 := (f750_1.keep K757 (ninS (own_ane om802) nin0))
      have Fc804 := (f750_2.keep K757 (ninS (own_ane om802) nin0))
      have om805 : ¬ @Eq Nat t_750 b740 := by omega
      have Vc806 := (f750_3.keep K757 (ninS (own_ane om805) nin0))
      have zz773 : n0 ≤ T757.heap.size := by omega
      have Ec807 := ((((f727_0.ext E740).keep K742).keep K750).keep K757)
      refine gVirtualN Gl.cl (y := y_37) (z := y_37) (b := b711) (argsL := [(.ref b740)]) (rest := []) (mc := 0) (ms := 0) X772 hx hZ757 hown757 (mvT hZ757 (tw hw 166 rfl)) (mvT hZ757 (tw hw 167 rfl)) (notFace_of_selects (args := #[]) (mvT hZ757 (tw hw 169 rfl))) (mvT hZ757 (tw hw 169 rfl)) (mvT hZ757 (tw hw 168 rfl)) (by decide) Ec807 (backOf (W := 0) (cto l Z a0 hw [] b711 b740 r_713 t_713 kb_713 N2_713 vs_713 la a1 a2 r_720 t_720 kb_720 cd_720 N2_720 vs_720 na ka1 ka2 r_742 t_742 kb_742 N2_742 vs_742 lb b1 b2 r_750 t_750 kb_750 cd_750 N2_750 vs_750 nb kb1 kb2 G1 G3 T757.heap n0 zz773 q0 (by assumption) Oc775 q3 (by assumption) q5 q6 q7 Fc777 Fc778 f757_1 f757_2 Ec779 Fc782 Fc783 Vc786 p713_cod hn_la ha1 ha2 Ec787 Fc790 Fc791 Vc794 p720_cod hn_na hka1 hka2 Ec795 Fc797 Fc798 Vc800 p742_cod hn_lb hb1 hb2 Ec801 Fc803 Fc804 Vc806 p750_cod hn_nb hkb1 hkb2) hZ757 (tw hw 170 rfl) (tw hw 12 rfl) (by decide) (by decide)) rfl (by rw [hml]; rfl) (lenOf pd_27 rfl) rfl (by exact Nat.le_of_eq rfl) (hb hby at_256) rfl e772 (by decide) (by decide) ?_
      intro v773 T773 Lc773 hQ773 X773
      obtain ⟨rfl, Nq773, e773⟩ := hQ773
      have N773 := Fr.app N772 Nq773
      show Gl p.tables e below _ (T773.setTop (mkF m 259 #[sI i0, sI i1, sJ i2, sS, sJ i3, sS, sI i4, sI (Int32.ofNat la), sI (Int32.ofNat a1), sI (Int32.ofNat a2), sI (Int32.ofNat lb), sI (Int32.ofNat b1), sI (Int32.ofNat b2), sI (Int32.ofNat ka1), sI (Int32.ofNat ka2), sI (Int32.ofNat na), sI (Int32.ofNat kb1), sI (Int32.ofNat kb2), sI (Int32.ofNat nb), sR b711, sR b740, sI (cmpS la a1 a2 lb b1 b2), sI (cmpS na ka1 ka2 nb kb1 kb2)] [(.int (cmpT (cmpS la a1 a2 lb b1 b2) (cmpS na ka1 ka2 nb kb1 kb2)))]))
      rw [(own_t0 hc771)]
      show Gl p.tables e below _ (T773.setTop (mkF m 259 #[sI i0, sI i1, sJ i2, sS, sJ i3, sS, sI i4, sI (Int32.ofNat la), sI (Int32.ofNat a1), sI (Int32.ofNat a2), sI (Int32.ofNat lb), sI (Int32.ofNat b1), sI (Int32.ofNat b2), sI (Int32.ofNat ka1), sI (Int32.ofNat ka2), sI (Int32.ofNat na), sI (Int32.ofNat kb1), sI (Int32.ofNat kb2), sI (Int32.ofNat nb), sR b711, sR b740, sI (cmpS la a1 a2 lb b1 b2), sI (cmpS na ka1 ka2 nb kb1 kb2)] [(.int (cmpS na ka1 ka2 nb kb1 kb2))]))
      have zz808 : n0 ≤ T757.heap.size := by omega
      refine gStaticN Gl.cl (y := y_39) (argsL := [(.int (cmpS na ka1 ka2 nb kb1 kb2))]) (rest := []) (mc := 0) (ms := 0) X773 hx hZ757 hown757 (mvT hZ757 (tw hw 178 rfl)) (mvT hZ757 (tw hw 179 rfl)) (mvT hZ757 (tw hw 2 rfl)) (mvT hZ757 (tw hw 180 rfl)) (by decide) (backOf (W := 0) (sgn l Z a0 hw [] (cmpS na ka1 ka2 nb kb1 kb2) T757.heap n0 zz808 (own_tri _ _ _ _ _ _)) hZ757 (tw hw 180 rfl) (tw hw 2 rfl) (by decide) (by decide)) rfl (by rw [hml]; rfl) (lenOf pd_0 rfl) rfl (by exact Nat.le_of_eq rfl) (hb hby at_259) rfl e773 (by decide) (by decide) ?_
      intro v808 T808 Lc808 hQ808 X808
      obtain ⟨rfl, Nq808, e808⟩ := hQ808
      have N808 := Fr.app N773 Nq808
      refine Gl.go (fun _ hr => zXS_iload X808.here hx rfl (hb hby at_262) rfl hr) ?_
      refine Gl.go (fun _ hr => zXS_icmpNo X808.here hx rfl (hb hby at_264) rfl (XT.ii_ne_f rfl) (zXS_iconst X808.here hx rfl (hb hby at_267) (zXS_goto X808.here hx rfl (pc0 := 268) (pc' := 272) rfl (hb hby at_268) (by decide) (by decide) hr))) ?_
      obtain ⟨fs, hr, hrun, hended, hE⟩ := X808.leaveW hS757 (by have q := congrArg Array.size e808; have q2 := hk757; omega) (v := some (.int (1 : Int32))) (fun h => by rw [Bd.returns] at h; cases h)
      have om809 : @LE.le Nat instLENat h0.size b711 := by omega
      have om810 : @LE.le Nat instLENat h0.size b740 := by omega
      refine ⟨_, _, retN X808 hx (t := .boolean) Bd.returns (by simp) (hb hby at_272) hr, hrun, hended, _, _, rfl, ?_, ⟨hE.1, hE.2.1, hE.2.2.1, hE.2.2.2.mono (by decide) (by decide)⟩⟩
      show Qlawrm Z i0 i1 i2 i3 i4 G1 G3 h0 n0 _ T808.heap _
      rw [e808]
      exact ⟨rfl, N808, ((((((((((Keep.refl h0 []).trans Kc all0).ext E711).trans K713 all0).trans K720 all0).trans K727 (allS (P := fun x_ => x_ ∈ ([] : List Addr) ∨ h0.size ≤ x_) (Or.inr (own_ale om809)) all0)).ext E740).trans K742 all0).trans K750 all0).trans K757 (allS (P := fun x_ => x_ ∈ ([] : List Addr) ∨ h0.size ≤ x_) (Or.inr (own_ale om810)) all0))⟩
    · refine Gl.go (fun _ hr => zXS_ifNo X770.here hx rfl (hb hby at_227) rfl (XT.i0_eq_f hc771) (zXS_iload X770.here hx rfl (hb hby at_230) rfl (zXS_goto X770.here hx rfl (pc0 := 232) (pc' := 250) rfl (hb hby at_232) (by decide) (by decide) (zXS_istore X770.here hx rfl (hb hby at_250) rfl (l' := #[sI i0, sI i1, sJ i2, sS, sJ i3, sS, sI i4, sI (Int32.ofNat la), sI (Int32.ofNat a1), sI (Int32.ofNat a2), sI (Int32.ofNat lb), sI (Int32.ofNat b1), sI (Int32.ofNat b2), sI (Int32.ofNat ka1), sI (Int32.ofNat ka2), sI (Int32.ofNat na), sI (Int32.ofNat kb1), sI (Int32.ofNat kb2), sI (Int32.ofNat nb), sR b711, sR b740, sI (cmpS la a1 a2 lb b1 b2), sI (cmpS la a1 a2 lb b1 b2)]) rfl (zXS_aload X770.here hx rfl (hb hby at_252) rfl rfl (zXS_aload X770.here hx rfl (hb hby at_254) rfl rfl hr)))))) ?_
      have om812 : @LE.le Nat instLENat n0 b740 := by omega
      have Oc813 := (Oc758.keep K757 (allS (own_ale om812) all0))
      have om814 : ¬ @Eq Nat b711 b740 := by omega
      have Fc815 := ((((f727_1.ext E740).keep K742 nin0).keep K750 nin0).keep K757 (ninS (own_ane om814) nin0))
      have Fc816 := ((((f727_2.ext E740).keep K742 nin0).keep K750 nin0).keep K757 (ninS (own_ane om814) nin0))
      have Ec817 := (((((Ec732.keep K727).ext E740).keep K742).keep K750).keep K757)
      have om818 : ¬ @Eq Nat r_713 b711 := by omega
      have om819 : ¬ @Eq Nat r_713 b740 := by omega
      have Fc820 := (((((Fc733.keep K727 (ninS (own_ane om818) nin0)).ext E740).keep K742 nin0).keep K750 nin0).keep K757 (ninS (own_ane om819) nin0))
      have Fc821 := (((((Fc734.keep K727 (ninS (own_ane om818) nin0)).ext E740).keep K742 nin0).keep K750 nin0).keep K757 (ninS (own_ane om819) nin0))
      have om822 : ¬ @Eq Nat t_713 b711 := by omega
      have om823 : ¬ @Eq Nat t_713 b740 := by omega
      have Vc824 := (((((Vc735.keep K727 (ninS (own_ane om822) nin0)).ext E740).keep K742 nin0).keep K750 nin0).keep K757 (ninS (own_ane om823) nin0))
      have Ec825 := (((((f720_0.keep K727).ext E740).keep K742).keep K750).keep K757)
      have om826 : ¬ @Eq Nat r_720 b711 := by omega
      have om827 : ¬ @Eq Nat r_720 b740 := by omega
      have Fc828 := (((((f720_1.keep K727 (ninS (own_ane om826) nin0)).ext E740).keep K742 nin0).keep K750 nin0).keep K757 (ninS (own_ane om827) nin0))
      have Fc829 := (((((f720_2.keep K727 (ninS (own_ane om826) nin0)).ext E740).keep K742 nin0).keep K750 nin0).keep K757 (ninS (own_ane om827) nin0))
      have om830 : ¬ @Eq Nat t_720 b711 := by omega
      have om831 : ¬ @Eq Nat t_720 b740 := by omega
      have Vc832 := (((((f720_3.keep K727 (ninS (own_ane om830) nin0)).ext E740).keep K742 nin0).keep K750 nin0).keep K757 (ninS (own_ane om831) nin0))
      have Ec833 := (Ec762.keep K757)
      have om834 : ¬ @Eq Nat r_742 b740 := by omega
      have Fc835 := (Fc763.keep K757 (ninS (own_ane om834) nin0))
      have Fc836 := (Fc764.keep K757 (ninS (own_ane om834) nin0))
      have om837 : ¬ @Eq Nat t_742 b740 := by omega
      have Vc838 := (Vc765.keep K757 (ninS (own_ane om837) nin0))
      have Ec839 := (f750_0.keep K757)
      have om840 : ¬ @Eq Nat r_750 b740 := by omega
      have Fc841 := (f750_1.keep K757 (ninS (own_ane om840) nin0))
      have Fc842 := (f750_2.keep K757 (ninS (own_ane om840) nin0))
      have om843 : ¬ @Eq Nat t_750 b740 := by omega
      have Vc844 := (f750_3.keep K757 (ninS (own_ane om843) nin0))
      have zz811 : n0 ≤ T757.heap.size := by omega
      have Ec845 := ((((f727_0.ext E740).keep K742).keep K750).keep K757)
      refine gVirtualN Gl.cl (y := y_37) (z := y_37) (b := b711) (argsL := [(.ref b740)]) (rest := []) (mc := 0) (ms := 0) X770 hx hZ757 hown757 (mvT hZ757 (tw hw 166 rfl)) (mvT hZ757 (tw hw 167 rfl)) (notFace_of_selects (args := #[]) (mvT hZ757 (tw hw 169 rfl))) (mvT hZ757 (tw hw 169 rfl)) (mvT hZ757 (tw hw 168 rfl)) (by decide) Ec845 (backOf (W := 0) (cto l Z a0 hw [] b711 b740 r_713 t_713 kb_713 N2_713 vs_713 la a1 a2 r_720 t_720 kb_720 cd_720 N2_720 vs_720 na ka1 ka2 r_742 t_742 kb_742 N2_742 vs_742 lb b1 b2 r_750 t_750 kb_750 cd_750 N2_750 vs_750 nb kb1 kb2 G1 G3 T757.heap n0 zz811 q0 (by assumption) Oc813 q3 (by assumption) q5 q6 q7 Fc815 Fc816 f757_1 f757_2 Ec817 Fc820 Fc821 Vc824 p713_cod hn_la ha1 ha2 Ec825 Fc828 Fc829 Vc832 p720_cod hn_na hka1 hka2 Ec833 Fc835 Fc836 Vc838 p742_cod hn_lb hb1 hb2 Ec839 Fc841 Fc842 Vc844 p750_cod hn_nb hkb1 hkb2) hZ757 (tw hw 170 rfl) (tw hw 12 rfl) (by decide) (by decide)) rfl (by rw [hml]; rfl) (lenOf pd_27 rfl) rfl (by exact Nat.le_of_eq rfl) (hb hby at_256) rfl e770 (by decide) (by decide) ?_
      intro v811 T811 Lc811 hQ811 X811
      obtain ⟨rfl, Nq811, e811⟩ := hQ811
      have N811 := Fr.app N770 Nq811
      show Gl p.tables e below _ (T811.setTop (mkF m 259 #[sI i0, sI i1, sJ i2, sS, sJ i3, sS, sI i4, sI (Int32.ofNat la), sI (Int32.ofNat a1), sI (Int32.ofNat a2), sI (Int32.ofNat lb), sI (Int32.ofNat b1), sI (Int32.ofNat b2), sI (Int32.ofNat ka1), sI (Int32.ofNat ka2), sI (Int32.ofNat na), sI (Int32.ofNat kb1), sI (Int32.ofNat kb2), sI (Int32.ofNat nb), sR b711, sR b740, sI (cmpS la a1 a2 lb b1 b2), sI (cmpS la a1 a2 lb b1 b2)] [(.int (cmpT (cmpS la a1 a2 lb b1 b2) (cmpS na ka1 ka2 nb kb1 kb2)))]))
      rw [(own_t1 hc771)]
      show Gl p.tables e below _ (T811.setTop (mkF m 259 #[sI i0, sI i1, sJ i2, sS, sJ i3, sS, sI i4, sI (Int32.ofNat la), sI (Int32.ofNat a1), sI (Int32.ofNat a2), sI (Int32.ofNat lb), sI (Int32.ofNat b1), sI (Int32.ofNat b2), sI (Int32.ofNat ka1), sI (Int32.ofNat ka2), sI (Int32.ofNat na), sI (Int32.ofNat kb1), sI (Int32.ofNat kb2), sI (Int32.ofNat nb), sR b711, sR b740, sI (cmpS la a1 a2 lb b1 b2), sI (cmpS la a1 a2 lb b1 b2)] [(.int (cmpS la a1 a2 lb b1 b2))]))
      have zz846 : n0 ≤ T757.heap.size := by omega
      refine gStaticN Gl.cl (y := y_39) (argsL := [(.int (cmpS la a1 a2 lb b1 b2))]) (rest := []) (mc := 0) (ms := 0) X811 hx hZ757 hown757 (mvT hZ757 (tw hw 178 rfl)) (mvT hZ757 (tw hw 179 rfl)) (mvT hZ757 (tw hw 2 rfl)) (mvT hZ757 (tw hw 180 rfl)) (by decide) (backOf (W := 0) (sgn l Z a0 hw [] (cmpS la a1 a2 lb b1 b2) T757.heap n0 zz846 (own_tri _ _ _ _ _ _)) hZ757 (tw hw 180 rfl) (tw hw 2 rfl) (by decide) (by decide)) rfl (by rw [hml]; rfl) (lenOf pd_0 rfl) rfl (by exact Nat.le_of_eq rfl) (hb hby at_259) rfl e811 (by decide) (by decide) ?_
      intro v846 T846 Lc846 hQ846 X846
      obtain ⟨rfl, Nq846, e846⟩ := hQ846
      have N846 := Fr.app N811 Nq846
      refine Gl.go (fun _ hr => zXS_iload X846.here hx rfl (hb hby at_262) rfl hr) ?_
      refine Gl.go (fun _ hr => zXS_icmpNo X846.here hx rfl (hb hby at_264) rfl (XT.ii_ne_f rfl) (zXS_iconst X846.here hx rfl (hb hby at_267) (zXS_goto X846.here hx rfl (pc0 := 268) (pc' := 272) rfl (hb hby at_268) (by decide) (by decide) hr))) ?_
      obtain ⟨fs, hr, hrun, hended, hE⟩ := X846.leaveW hS757 (by have q := congrArg Array.size e846; have q2 := hk757; omega) (v := some (.int (1 : Int32))) (fun h => by rw [Bd.returns] at h; cases h)
      have om847 : @LE.le Nat instLENat h0.size b711 := by omega
      have om848 : @LE.le Nat instLENat h0.size b740 := by omega
      refine ⟨_, _, retN X846 hx (t := .boolean) Bd.returns (by simp) (hb hby at_272) hr, hrun, hended, _, _, rfl, ?_, ⟨hE.1, hE.2.1, hE.2.2.1, hE.2.2.2.mono (by decide) (by decide)⟩⟩
      show Qlawrm Z i0 i1 i2 i3 i4 G1 G3 h0 n0 _ T846.heap _
      rw [e846]
      exact ⟨rfl, N846, ((((((((((Keep.refl h0 []).trans Kc all0).ext E711).trans K713 all0).trans K720 all0).trans K727 (allS (P := fun x_ => x_ ∈ ([] : List Addr) ∨ h0.size ≤ x_) (Or.inr (own_ale om847)) all0)).ext E740).trans K742 all0).trans K750 all0).trans K757 (allS (P := fun x_ => x_ ∈ ([] : List Addr) ∨ h0.size ≤ x_) (Or.inr (own_ale om848)) all0))⟩
  have tB : ∀ (T : State) (hc : Heap) (lc : List Loc) (vmc : Vm) (kc : Nat) (la : Nat) (a1 : Nat) (a2 : Nat) (lb : Nat) (b1 : Nat) (b2 : Nat), Fr n0 lc → Stand p l e room_1 (s.setVm vmc) m #[(.int i0), (.int i1), (.long i2), (.long i3), (.int i4)] below meth c T lc 0 0 → T.heap = hc → Keep h0 hc [] → s.Since vmc kc → kc ≤ hc.size → Z.Warmed39 (s.setVm vmc).vm → (s.setVm vmc).vm.findClass "com/example/even_counter/evencounter/CounterIdCompareToPinLaw" = some m.cls → (la = 1 ∨ la = 2) → (lb = 1 ∨ lb = 2) → (NmK a1) → (NmK a2) → (NmK b1) → (NmK b2) → Gl p.tables e below (fun o_ U_ => ∃ v_ L_, o_ = .returned v_ ∧ Qlawrm Z i0 i1 i2 i3 i4 G1 G3 h0 n0 v_ U_.heap L_ ∧ ReturnedEndW s o_ U_ L_ 48 2240) (T.setTop (mkF m 72 #[sI i0, sI i1, sJ i2, sS, sJ i3, sS, sI i4, sI (Int32.ofNat la), sI (Int32.ofNat a1), sI (Int32.ofNat a2), sI (Int32.ofNat lb), sI (Int32.ofNat b1), sI (Int32.ofNat b2), sU, sU, sU, sU, sU, sU, sU, sU, sU, sU] [])) := by
    intro T hc lc vmc kc la a1 a2 lb b1 b2 Nc Xc ec Kc hSc hkc hZc hownc hn_la hn_lb ha1 ha2 hb1 hb2
    have zc : h0.size ≤ hc.size := Kc.1
    show Gl p.tables e below _ (T.setTop (mkF m 72 #[sI i0, sI i1, sJ i2, sS, sJ i3, sS, sI i4, sI (Int32.ofNat la), sI (Int32.ofNat a1), sI (Int32.ofNat a2), sI (Int32.ofNat lb), sI (Int32.ofNat b1), sI (Int32.ofNat b2), sU, sU, sU, sU, sU, sU, sU, sU, sU, sU] []))
    refine Gl.go (fun _ hr => zXT_lloadN Xc.here hx rfl (hb hby at_72) rfl (zXT_l2i Xc.here hx rfl (hb hby at_73) rfl hr)) ?_
    have zz849 : n0 ≤ hc.size := by omega
    refine gStaticN Gl.cl (y := y_11) (argsL := [(.int (i2.toInt32))]) (rest := []) (mc := 0) (ms := 0) Xc hx hZc hownc (mvT hZc (tw hw 4 rfl)) (mvT hZc (tw hw 5 rfl)) (mvT hZc (tw hw 2 rfl)) (mvT hZc (tw hw 6 rfl)) (by decide) (backOf (W := 0) (kcp l Z a0 hw [] (i2.toInt32) hc n0 zz849 ) hZc (tw hw 6 rfl) (tw hw 2 rfl) (by decide) (by decide)) rfl (by rw [hml]; rfl) (lenOf pd_0 rfl) rfl (by exact Nat.le_of_eq rfl) (hb hby at_74) rfl ec (by decide) (by decide) ?_
    intro v849 T849 Lc849 hQ849 X849
    obtain ⟨k_849, rfl, Nq849, e849, p849_kk⟩ := hQ849
    have N849 := Fr.app Nc Nq849
    have hk_849 := p849_kk
    refine Gl.go (fun _ hr => zXS_istore X849.here hx rfl (hb hby at_77) rfl (l' := #[sI i0, sI i1, sJ i2, sS, sJ i3, sS, sI i4, sI (Int32.ofNat la), sI (Int32.ofNat a1), sI (Int32.ofNat a2), sI (Int32.ofNat lb), sI (Int32.ofNat b1), sI (Int32.ofNat b2), sI (Int32.ofNat k_849), sU, sU, sU, sU, sU, sU, sU, sU, sU]) rfl (zXT_lloadN X849.here hx rfl (hb hby at_79) rfl (zXS_bipush X849.here hx rfl (hb hby at_80) (zXT_lushr X849.here hx rfl (hb hby at_82) rfl (zXT_l2i X849.here hx rfl (hb hby at_83) rfl hr))))) ?_
    have zz850 : n0 ≤ hc.size := by omega
    refine gStaticN Gl.cl (y := y_11) (argsL := [(.int ((XT.ushrL i2 (32 : Int32)).toInt32))]) (rest := []) (mc := 0) (ms := 0) X849 hx hZc hownc (mvT hZc (tw hw 4 rfl)) (mvT hZc (tw hw 5 rfl)) (mvT hZc (tw hw 2 rfl)) (mvT hZc (tw hw 6 rfl)) (by decide) (backOf (W := 0) (kcp l Z a0 hw [] ((XT.ushrL i2 (32 : Int32)).toInt32) hc n0 zz850 ) hZc (tw hw 6 rfl) (tw hw 2 rfl) (by decide) (by decide)) rfl (by rw [hml]; rfl) (lenOf pd_0 rfl) rfl (by exact Nat.le_of_eq rfl) (hb hby at_84) rfl e849 (by decide) (by decide) ?_
    intro v850 T850 Lc850 hQ850 X850
    obtain ⟨k_850, rfl, Nq850, e850, p850_kk⟩ := hQ850
    have N850 := Fr.app N849 Nq850
    have hk_850 := p850_kk
    refine Gl.go (fun _ hr => zXS_istore X850.here hx rfl (hb hby at_87) rfl (l' := #[sI i0, sI i1, sJ i2, sS, sJ i3, sS, sI i4, sI (Int32.ofNat la), sI (Int32.ofNat a1), sI (Int32.ofNat a2), sI (Int32.ofNat lb), sI (Int32.ofNat b1), sI (Int32.ofNat b2), sI (Int32.ofNat k_849), sI (Int32.ofNat k_850), sU, sU, sU, sU, sU, sU, sU, sU]) rfl (zXS_iconst X850.here hx rfl (hb hby at_89) (zXS_iload X850.here hx rfl (hb hby at_90) rfl (zXS_iconst X850.here hx rfl (hb hby at_92) (zXS_iand X850.here hx rfl (hb hby at_93) rfl (zXS_iadd X850.here hx rfl (hb hby at_94) rfl hr)))))) ?_
    show Gl p.tables e below _ (T850.setTop (mkF m 95 #[sI i0, sI i1, sJ i2, sS, sJ i3, sS, sI i4, sI (Int32.ofNat la), sI (Int32.ofNat a1), sI (Int32.ofNat a2), sI (Int32.ofNat lb), sI (Int32.ofNat b1), sI (Int32.ofNat b2), sI (Int32.ofNat k_849), sI (Int32.ofNat k_850), sU, sU, sU, sU, sU, sU, sU, sU] [(.int ((1 : Int32) + (i4 &&& (1 : Int32))))]))
    obtain ⟨na, e_na, hn_na⟩ := own_la i4
    rw [e_na]
    show Gl p.tables e below _ (T850.setTop (mkF m 95 #[sI i0, sI i1, sJ i2, sS, sJ i3, sS, sI i4, sI (Int32.ofNat la), sI (Int32.ofNat a1), sI (Int32.ofNat a2), sI (Int32.ofNat lb), sI (Int32.ofNat b1), sI (Int32.ofNat b2), sI (Int32.ofNat k_849), sI (Int32.ofNat k_850), sU, sU, sU, sU, sU, sU, sU, sU] [(.int (Int32.ofNat na))]))
    refine Gl.go (fun _ hr => zXS_istore X850.here hx rfl (hb hby at_95) rfl (l' := #[sI i0, sI i1, sJ i2, sS, sJ i3, sS, sI i4, sI (Int32.ofNat la), sI (Int32.ofNat a1), sI (Int32.ofNat a2), sI (Int32.ofNat lb), sI (Int32.ofNat b1), sI (Int32.ofNat b2), sI (Int32.ofNat k_849), sI (Int32.ofNat k_850), sI (Int32.ofNat na), sU, sU, sU, sU, sU, sU, sU]) rfl (zXS_iload X850.here hx rfl (hb hby at_97) rfl (zXS_iconst X850.here hx rfl (hb hby at_99) (zXT_iushr X850.here hx rfl (hb hby at_100) rfl (zXS_iconst X850.here hx rfl (hb hby at_101) (zXS_iand X850.here hx rfl (hb hby at_102) rfl hr)))))) ?_
    by_cases hc851 : ((XT.ushr i4 (2 : Int32)) &&& (1 : Int32)) = (0 : Int32)
    · refine Gl.go (fun _ hr => zXS_ifYes X850.here hx rfl (pc0 := 103) (pc' := 111) rfl (hb hby at_103) rfl (XT.i0_eq_t hc851) (by decide) (by decide) (zXT_lload X850.here hx rfl (hb hby at_111) rfl (zXT_l2i X850.here hx rfl (hb hby at_113) rfl hr))) ?_
      have zz852 : n0 ≤ hc.size := by omega
      refine gStaticN Gl.cl (y := y_11) (argsL := [(.int (i3.toInt32))]) (rest := []) (mc := 0) (ms := 0) X850 hx hZc hownc (mvT hZc (tw hw 4 rfl)) (mvT hZc (tw hw 5 rfl)) (mvT hZc (tw hw 2 rfl)) (mvT hZc (tw hw 6 rfl)) (by decide) (backOf (W := 0) (kcp l Z a0 hw [] (i3.toInt32) hc n0 zz852 ) hZc (tw hw 6 rfl) (tw hw 2 rfl) (by decide) (by decide)) rfl (by rw [hml]; rfl) (lenOf pd_0 rfl) rfl (by exact Nat.le_of_eq rfl) (hb hby at_114) rfl e850 (by decide) (by decide) ?_
      intro v852 T852 Lc852 hQ852 X852
      obtain ⟨k_852, rfl, Nq852, e852, p852_kk⟩ := hQ852
      have N852 := Fr.app N850 Nq852
      have hk_852 := p852_kk
      refine Gl.go (fun _ hr => zXS_istore X852.here hx rfl (hb hby at_117) rfl (l' := #[sI i0, sI i1, sJ i2, sS, sJ i3, sS, sI i4, sI (Int32.ofNat la), sI (Int32.ofNat a1), sI (Int32.ofNat a2), sI (Int32.ofNat lb), sI (Int32.ofNat b1), sI (Int32.ofNat b2), sI (Int32.ofNat k_849), sI (Int32.ofNat k_850), sI (Int32.ofNat na), sI (Int32.ofNat k_852), sU, sU, sU, sU, sU, sU]) rfl (zXS_iload X852.here hx rfl (hb hby at_119) rfl (zXS_iconst X852.here hx rfl (hb hby at_121) (zXT_iushr X852.here hx rfl (hb hby at_122) rfl (zXS_iconst X852.here hx rfl (hb hby at_123) (zXS_iand X852.here hx rfl (hb hby at_124) rfl hr)))))) ?_
      by_cases hc853 : ((XT.ushr i4 (3 : Int32)) &&& (1 : Int32)) = (0 : Int32)
      · refine Gl.go (fun _ hr => zXS_ifYes X852.here hx rfl (pc0 := 125) (pc' := 133) rfl (hb hby at_125) rfl (XT.i0_eq_t hc853) (by decide) (by decide) (zXT_lload X852.here hx rfl (hb hby at_133) rfl (zXS_bipush X852.here hx rfl (hb hby at_135) (zXT_lushr X852.here hx rfl (hb hby at_137) rfl (zXT_l2i X852.here hx rfl (hb hby at_138) rfl hr))))) ?_
        have zz854 : n0 ≤ hc.size := by omega
        refine gStaticN Gl.cl (y := y_11) (argsL := [(.int ((XT.ushrL i3 (32 : Int32)).toInt32))]) (rest := []) (mc := 0) (ms := 0) X852 hx hZc hownc (mvT hZc (tw hw 4 rfl)) (mvT hZc (tw hw 5 rfl)) (mvT hZc (tw hw 2 rfl)) (mvT hZc (tw hw 6 rfl)) (by decide) (backOf (W := 0) (kcp l Z a0 hw [] ((XT.ushrL i3 (32 : Int32)).toInt32) hc n0 zz854 ) hZc (tw hw 6 rfl) (tw hw 2 rfl) (by decide) (by decide)) rfl (by rw [hml]; rfl) (lenOf pd_0 rfl) rfl (by exact Nat.le_of_eq rfl) (hb hby at_139) rfl e852 (by decide) (by decide) ?_
        intro v854 T854 Lc854 hQ854 X854
        obtain ⟨k_854, rfl, Nq854, e854, p854_kk⟩ := hQ854
        have N854 := Fr.app N852 Nq854
        have hk_854 := p854_kk
        refine Gl.go (fun _ hr => zXS_istore X854.here hx rfl (hb hby at_142) rfl (l' := #[sI i0, sI i1, sJ i2, sS, sJ i3, sS, sI i4, sI (Int32.ofNat la), sI (Int32.ofNat a1), sI (Int32.ofNat a2), sI (Int32.ofNat lb), sI (Int32.ofNat b1), sI (Int32.ofNat b2), sI (Int32.ofNat k_849), sI (Int32.ofNat k_850), sI (Int32.ofNat na), sI (Int32.ofNat k_852), sI (Int32.ofNat k_854), sU, sU, sU, sU, sU]) rfl (zXS_iconst X854.here hx rfl (hb hby at_144) (zXS_iload X854.here hx rfl (hb hby at_145) rfl (zXS_iconst X854.here hx rfl (hb hby at_147) (zXT_iushr X854.here hx rfl (hb hby at_148) rfl (zXS_iconst X854.here hx rfl (hb hby at_149) (zXS_iand X854.here hx rfl (hb hby at_150) rfl (zXS_iadd X854.here hx rfl (hb hby at_151) rfl hr)))))))) ?_
        show Gl p.tables e below _ (T854.setTop (mkF m 152 #[sI i0, sI i1, sJ i2, sS, sJ i3, sS, sI i4, sI (Int32.ofNat la), sI (Int32.ofNat a1), sI (Int32.ofNat a2), sI (Int32.ofNat lb), sI (Int32.ofNat b1), sI (Int32.ofNat b2), sI (Int32.ofNat k_849), sI (Int32.ofNat k_850), sI (Int32.ofNat na), sI (Int32.ofNat k_852), sI (Int32.ofNat k_854), sU, sU, sU, sU, sU] [(.int ((1 : Int32) + ((XT.ushr i4 (1 : Int32)) &&& (1 : Int32))))]))
        obtain ⟨nb, e_nb, hn_nb⟩ := own_la (XT.ushr i4 (1 : Int32))
        rw [e_nb]
        show Gl p.tables e below _ (T854.setTop (mkF m 152 #[sI i0, sI i1, sJ i2, sS, sJ i3, sS, sI i4, sI (Int32.ofNat la), sI (Int32.ofNat a1), sI (Int32.ofNat a2), sI (Int32.ofNat lb), sI (Int32.ofNat b1), sI (Int32.ofNat b2), sI (Int32.ofNat k_849), sI (Int32.ofNat k_850), sI (Int32.ofNat na), sI (Int32.ofNat k_852), sI (Int32.ofNat k_854), sU, sU, sU, sU, sU] [(.int (Int32.ofNat nb))]))
        refine Gl.go (fun _ hr => zXS_istore X854.here hx rfl (hb hby at_152) rfl (l' := #[sI i0, sI i1, sJ i2, sS, sJ i3, sS, sI i4, sI (Int32.ofNat la), sI (Int32.ofNat a1), sI (Int32.ofNat a2), sI (Int32.ofNat lb), sI (Int32.ofNat b1), sI (Int32.ofNat b2), sI (Int32.ofNat k_849), sI (Int32.ofNat k_850), sI (Int32.ofNat na), sI (Int32.ofNat k_852), sI (Int32.ofNat k_854), sI (Int32.ofNat nb), sU, sU, sU, sU]) rfl hr) ?_
        exact tA T854 hc _ vmc _ la a1 a2 lb b1 b2 k_849 k_850 na k_852 k_854 nb N854 (X854.more (by decide) (by decide)) e854 ((Keep.refl h0 []).trans Kc all0) hSc (by have q := hkc; omega) hZc hownc hn_la hn_lb hn_na hn_nb ha1 ha2 hb1 hb2 hk_849 hk_850 hk_852 hk_854
      · refine Gl.go (fun _ hr => zXS_ifNo X852.here hx rfl (hb hby at_125) rfl (XT.i0_eq_f hc853) (zXS_iload X852.here hx rfl (hb hby at_128) rfl (zXS_goto X852.here hx rfl (pc0 := 130) (pc' := 142) rfl (hb hby at_130) (by decide) (by decide) (zXS_istore X852.here hx rfl (hb hby at_142) rfl (l' := #[sI i0, sI i1, sJ i2, sS, sJ i3, sS, sI i4, sI (Int32.ofNat la), sI (Int32.ofNat a1), sI (Int32.ofNat a2), sI (Int32.ofNat lb), sI (Int32.ofNat b1), sI (Int32.ofNat b2), sI (Int32.ofNat k_849), sI (Int32.ofNat k_850), sI (Int32.ofNat na), sI (Int32.ofNat k_852), sI (Int32.ofNat k_850), sU, sU, sU, sU, sU]) rfl (zXS_iconst X852.here hx rfl (hb hby at_144) (zXS_iload X852.here hx rfl (hb hby at_145) rfl (zXS_iconst X852.here hx rfl (hb hby at_147) (zXT_iushr X852.here hx rfl (hb hby at_148) rfl (zXS_iconst X852.here hx rfl (hb hby at_149) (zXS_iand X852.here hx rfl (hb hby at_150) rfl hr)))))))))) ?_
        refine Gl.go (fun _ hr => zXS_iadd X852.here hx rfl (hb hby at_151) rfl hr) ?_
        show Gl p.tables e below _ (T852.setTop (mkF m 152 #[sI i0, sI i1, sJ i2, sS, sJ i3, sS, sI i4, sI (Int32.ofNat la), sI (Int32.ofNat a1), sI (Int32.ofNat a2), sI (Int32.ofNat lb), sI (Int32.ofNat b1), sI (Int32.ofNat b2), sI (Int32.ofNat k_849), sI (Int32.ofNat k_850), sI (Int32.ofNat na), sI (Int32.ofNat k_852), sI (Int32.ofNat k_850), sU, sU, sU, sU, sU] [(.int ((1 : Int32) + ((XT.ushr i4 (1 : Int32)) &&& (1 : Int32))))]))
        obtain ⟨nb, e_nb, hn_nb⟩ := own_la (XT.ushr i4 (1 : Int32))
        rw [e_nb]
        show Gl p.tables e below _ (T852.setTop (mkF m 152 #[sI i0, sI i1, sJ i2, sS, sJ i3, sS, sI i4, sI (Int32.ofNat la), sI (Int32.ofNat a1), sI (Int32.ofNat a2), sI (Int32.ofNat lb), sI (Int32.ofNat b1), sI (Int32.ofNat b2), sI (Int32.ofNat k_849), sI (Int32.ofNat k_850), sI (Int32.ofNat na), sI (Int32.ofNat k_852), sI (Int32.ofNat k_850), sU, sU, sU, sU, sU] [(.int (Int32.ofNat nb))]))
        refine Gl.go (fun _ hr => zXS_istore X852.here hx rfl (hb hby at_152) rfl (l' := #[sI i0, sI i1, sJ i2, sS, sJ i3, sS, sI i4, sI (Int32.ofNat la), sI (Int32.ofNat a1), sI (Int32.ofNat a2), sI (Int32.ofNat lb), sI (Int32.ofNat b1), sI (Int32.ofNat b2), sI (Int32.ofNat k_849), sI (Int32.ofNat k_850), sI (Int32.ofNat na), sI (Int32.ofNat k_852), sI (Int32.ofNat k_850), sI (Int32.ofNat nb), sU, sU, sU, sU]) rfl hr) ?_
        exact tA T852 hc _ vmc _ la a1 a2 lb b1 b2 k_849 k_850 na k_852 k_850 nb N852 (X852.more (by decide) (by decide)) e852 ((Keep.refl h0 []).trans Kc all0) hSc (by have q := hkc; omega) hZc hownc hn_la hn_lb hn_na hn_nb ha1 ha2 hb1 hb2 hk_849 hk_850 hk_852 hk_850
    · refine Gl.go (fun _ hr => zXS_ifNo X850.here hx rfl (hb hby at_103) rfl (XT.i0_eq_f hc851) (zXS_iload X850.here hx rfl (hb hby at_106) rfl (zXS_goto X850.here hx rfl (pc0 := 108) (pc' := 117) rfl (hb hby at_108) (by decide) (by decide) (zXS_istore X850.here hx rfl (hb hby at_117) rfl (l' := #[sI i0, sI i1, sJ i2, sS, sJ i3, sS, sI i4, sI (Int32.ofNat la), sI (Int32.ofNat a1), sI (Int32.ofNat a2), sI (Int32.ofNat lb), sI (Int32.ofNat b1), sI (Int32.ofNat b2), sI (Int32.ofNat k_849), sI (Int32.ofNat k_850), sI (Int32.ofNat na), sI (Int32.ofNat k_849), sU, sU, sU, sU, sU, sU]) rfl (zXS_iload X850.here hx rfl (hb hby at_119) rfl (zXS_iconst X850.here hx rfl (hb hby at_121) (zXT_iushr X850.here hx rfl (hb hby at_122) rfl (zXS_iconst X850.here hx rfl (hb hby at_123) (zXS_iand X850.here hx rfl (hb hby at_124) rfl hr))))))))) ?_
      by_cases hc855 : ((XT.ushr i4 (3 : Int32)) &&& (1 : Int32)) = (0 : Int32)
      · refine Gl.go (fun _ hr => zXS_ifYes X850.here hx rfl (pc0 := 125) (pc' := 133) rfl (hb hby at_125) rfl (XT.i0_eq_t hc855) (by decide) (by decide) (zXT_lload X850.here hx rfl (hb hby at_133) rfl (zXS_bipush X850.here hx rfl (hb hby at_135) (zXT_lushr X850.here hx rfl (hb hby at_137) rfl (zXT_l2i X850.here hx rfl (hb hby at_138) rfl hr))))) ?_
        have zz856 : n0 ≤ hc.size := by omega
        refine gStaticN Gl.cl (y := y_11) (argsL := [(.int ((XT.ushrL i3 (32 : Int32)).toInt32))]) (rest := []) (mc := 0) (ms := 0) X850 hx hZc hownc (mvT hZc (tw hw 4 rfl)) (mvT hZc (tw hw 5 rfl)) (mvT hZc (tw hw 2 rfl)) (mvT hZc (tw hw 6 rfl)) (by decide) (backOf (W := 0) (kcp l Z a0 hw [] ((XT.ushrL i3 (32 : Int32)).toInt32) hc n0 zz856 ) hZc (tw hw 6 rfl) (tw hw 2 rfl) (by decide) (by decide)) rfl (by rw [hml]; rfl) (lenOf pd_0 rfl) rfl (by exact Nat.le_of_eq rfl) (hb hby at_139) rfl e850 (by decide) (by decide) ?_
        intro v856 T856 Lc856 hQ856 X856
        obtain ⟨k_856, rfl, Nq856, e856, p856_kk⟩ := hQ856
        have N856 := Fr.app N850 Nq856
        have hk_856 := p856_kk
        refine Gl.go (fun _ hr => zXS_istore X856.here hx rfl (hb hby at_142) rfl (l' := #[sI i0, sI i1, sJ i2, sS, sJ i3, sS, sI i4, sI (Int32.ofNat la), sI (Int32.ofNat a1), sI (Int32.ofNat a2), sI (Int32.ofNat lb), sI (Int32.ofNat b1), sI (Int32.ofNat b2), sI (Int32.ofNat k_849), sI (Int32.ofNat k_850), sI (Int32.ofNat na), sI (Int32.ofNat k_849), sI (Int32.ofNat k_856), sU, sU, sU, sU, sU]) rfl (zXS_iconst X856.here hx rfl (hb hby at_144) (zXS_iload X856.here hx rfl (hb hby at_145) rfl (zXS_iconst X856.here hx rfl (hb hby at_147) (zXT_iushr X856.here hx rfl (hb hby at_148) rfl (zXS_iconst X856.here hx rfl (hb hby at_149) (zXS_iand X856.here hx rfl (hb hby at_150) rfl (zXS_iadd X856.here hx rfl (hb hby at_151) rfl hr)))))))) ?_
        show Gl p.tables e below _ (T856.setTop (mkF m 152 #[sI i0, sI i1, sJ i2, sS, sJ i3, sS, sI i4, sI (Int32.ofNat la), sI (Int32.ofNat a1), sI (Int32.ofNat a2), sI (Int32.ofNat lb), sI (Int32.ofNat b1), sI (Int32.ofNat b2), sI (Int32.ofNat k_849), sI (Int32.ofNat k_850), sI (Int32.ofNat na), sI (Int32.ofNat k_849), sI (Int32.ofNat k_856), sU, sU, sU, sU, sU] [(.int ((1 : Int32) + ((XT.ushr i4 (1 : Int32)) &&& (1 : Int32))))]))
        obtain ⟨nb, e_nb, hn_nb⟩ := own_la (XT.ushr i4 (1 : Int32))
        rw [e_nb]
        show Gl p.tables e below _ (T856.setTop (mkF m 152 #[sI i0, sI i1, sJ i2, sS, sJ i3, sS, sI i4, sI (Int32.ofNat la), sI (Int32.ofNat a1), sI (Int32.ofNat a2), sI (Int32.ofNat lb), sI (Int32.ofNat b1), sI (Int32.ofNat b2), sI (Int32.ofNat k_849), sI (Int32.ofNat k_850), sI (Int32.ofNat na), sI (Int32.ofNat k_849), sI (Int32.ofNat k_856), sU, sU, sU, sU, sU] [(.int (Int32.ofNat nb))]))
        refine Gl.go (fun _ hr => zXS_istore X856.here hx rfl (hb hby at_152) rfl (l' := #[sI i0, sI i1, sJ i2, sS, sJ i3, sS, sI i4, sI (Int32.ofNat la), sI (Int32.ofNat a1), sI (Int32.ofNat a2), sI (Int32.ofNat lb), sI (Int32.ofNat b1), sI (Int32.ofNat b2), sI (Int32.ofNat k_849), sI (Int32.ofNat k_850), sI (Int32.ofNat na), sI (Int32.ofNat k_849), sI (Int32.ofNat k_856), sI (Int32.ofNat nb), sU, sU, sU, sU]) rfl hr) ?_
        exact tA T856 hc _ vmc _ la a1 a2 lb b1 b2 k_849 k_850 na k_849 k_856 nb N856 (X856.more (by decide) (by decide)) e856 ((Keep.refl h0 []).trans Kc all0) hSc (by have q := hkc; omega) hZc hownc hn_la hn_lb hn_na hn_nb ha1 ha2 hb1 hb2 hk_849 hk_850 hk_849 hk_856
      · refine Gl.go (fun _ hr => zXS_ifNo X850.here hx rfl (hb hby at_125) rfl (XT.i0_eq_f hc855) (zXS_iload X850.here hx rfl (hb hby at_128) rfl (zXS_goto X850.here hx rfl (pc0 := 130) (pc' := 142) rfl (hb hby at_130) (by decide) (by decide) (zXS_istore X850.here hx rfl (hb hby at_142) rfl (l' := #[sI i0, sI i1, sJ i2, sS, sJ i3, sS, sI i4, sI (Int32.ofNat la), sI (Int32.ofNat a1), sI (Int32.ofNat a2), sI (Int32.ofNat lb), sI (Int32.ofNat b1), sI (Int32.ofNat b2), sI (Int32.ofNat k_849), sI (Int32.ofNat k_850), sI (Int32.ofNat na), sI (Int32.ofNat k_849), sI (Int32.ofNat k_850), sU, sU, sU, sU, sU]) rfl (zXS_iconst X850.here hx rfl (hb hby at_144) (zXS_iload X850.here hx rfl (hb hby at_145) rfl (zXS_iconst X850.here hx rfl (hb hby at_147) (zXT_iushr X850.here hx rfl (hb hby at_148) rfl (zXS_iconst X850.here hx rfl (hb hby at_149) (zXS_iand X850.here hx rfl (hb hby at_150) rfl hr)))))))))) ?_
        refine Gl.go (fun _ hr => zXS_iadd X850.here hx rfl (hb hby at_151) rfl hr) ?_
        show Gl p.tables e below _ (T850.setTop (mkF m 152 #[sI i0, sI i1, sJ i2, sS, sJ i3, sS, sI i4, sI (Int32.ofNat la), sI (Int32.ofNat a1), sI (Int32.ofNat a2), sI (Int32.ofNat lb), sI (Int32.ofNat b1), sI (Int32.ofNat b2), sI (Int32.ofNat k_849), sI (Int32.ofNat k_850), sI (Int32.ofNat na), sI (Int32.ofNat k_849), sI (Int32.ofNat k_850), sU, sU, sU, sU, sU] [(.int ((1 : Int32) + ((XT.ushr i4 (1 : Int32)) &&& (1 : Int32))))]))
        obtain ⟨nb, e_nb, hn_nb⟩ := own_la (XT.ushr i4 (1 : Int32))
        rw [e_nb]
        show Gl p.tables e below _ (T850.setTop (mkF m 152 #[sI i0, sI i1, sJ i2, sS, sJ i3, sS, sI i4, sI (Int32.ofNat la), sI (Int32.ofNat a1), sI (Int32.ofNat a2), sI (Int32.ofNat lb), sI (Int32.ofNat b1), sI (Int32.ofNat b2), sI (Int32.ofNat k_849), sI (Int32.ofNat k_850), sI (Int32.ofNat na), sI (Int32.ofNat k_849), sI (Int32.ofNat k_850), sU, sU, sU, sU, sU] [(.int (Int32.ofNat nb))]))
        refine Gl.go (fun _ hr => zXS_istore X850.here hx rfl (hb hby at_152) rfl (l' := #[sI i0, sI i1, sJ i2, sS, sJ i3, sS, sI i4, sI (Int32.ofNat la), sI (Int32.ofNat a1), sI (Int32.ofNat a2), sI (Int32.ofNat lb), sI (Int32.ofNat b1), sI (Int32.ofNat b2), sI (Int32.ofNat k_849), sI (Int32.ofNat k_850), sI (Int32.ofNat na), sI (Int32.ofNat k_849), sI (Int32.ofNat k_850), sI (Int32.ofNat nb), sU, sU, sU, sU]) rfl hr) ?_
        exact tA T850 hc _ vmc _ la a1 a2 lb b1 b2 k_849 k_850 na k_849 k_850 nb N850 (X850.more (by decide) (by decide)) e850 ((Keep.refl h0 []).trans Kc all0) hSc (by have q := hkc; omega) hZc hownc hn_la hn_lb hn_na hn_nb ha1 ha2 hb1 hb2 hk_849 hk_850 hk_849 hk_850
  refine Gl.go (fun _ hr => zXS_iconst X0.here hx rfl (hb hby at_0) (zXS_iloadN X0.here hx rfl (hb hby at_1) rfl (zXS_iconst X0.here hx rfl (hb hby at_2) (zXS_iand X0.here hx rfl (hb hby at_3) rfl (zXS_iadd X0.here hx rfl (hb hby at_4) rfl hr))))) ?_
  show Gl p.tables e below _ (s₁.setTop (mkF m 5 #[sI i0, sI i1, sJ i2, sS, sJ i3, sS, sI i4, sU, sU, sU, sU, sU, sU, sU, sU, sU, sU, sU, sU, sU, sU, sU, sU] [(.int ((1 : Int32) + (i0 &&& (1 : Int32))))]))
  obtain ⟨la, e_la, hn_la⟩ := own_la i0
  rw [e_la]
  show Gl p.tables e below _ (s₁.setTop (mkF m 5 #[sI i0, sI i1, sJ i2, sS, sJ i3, sS, sI i4, sU, sU, sU, sU, sU, sU, sU, sU, sU, sU, sU, sU, sU, sU, sU, sU] [(.int (Int32.ofNat la))]))
  refine Gl.go (fun _ hr => zXS_istore X0.here hx rfl (hb hby at_5) rfl (l' := #[sI i0, sI i1, sJ i2, sS, sJ i3, sS, sI i4, sI (Int32.ofNat la), sU, sU, sU, sU, sU, sU, sU, sU, sU, sU, sU, sU, sU, sU, sU]) rfl (zXS_iloadN X0.here hx rfl (hb hby at_7) rfl (zXS_iconst X0.here hx rfl (hb hby at_8) (zXT_iushr X0.here hx rfl (hb hby at_9) rfl hr)))) ?_
  have zz857 : n0 ≤ h0.size := by omega
  refine gStaticN Gl.cl (y := y_10) (argsL := [(.int (XT.ushr i0 (1 : Int32)))]) (rest := []) (mc := 0) (ms := 0) X0 hx hZ hown (mvT hZ (tw hw 0 rfl)) (mvT hZ (tw hw 1 rfl)) (mvT hZ (tw hw 2 rfl)) (mvT hZ (tw hw 3 rfl)) (by decide) (backOf (W := 0) (nmc l Z a0 hw [] (XT.ushr i0 (1 : Int32)) h0 n0 zz857 ) hZ (tw hw 3 rfl) (tw hw 2 rfl) (by decide) (by decide)) rfl (by rw [hml]; rfl) (lenOf pd_9 rfl) rfl (by exact Nat.le_of_eq rfl) (hb hby at_10) rfl e0 (by decide) (by decide) ?_
  intro v857 T857 Lc857 hQ857 X857
  obtain ⟨k_857, rfl, Nq857, e857, p857_nk⟩ := hQ857
  have N857 := Fr.app N0 Nq857
  have hk_857 := p857_nk
  refine Gl.go (fun _ hr => zXS_istore X857.here hx rfl (hb hby at_13) rfl (l' := #[sI i0, sI i1, sJ i2, sS, sJ i3, sS, sI i4, sI (Int32.ofNat la), sI (Int32.ofNat k_857), sU, sU, sU, sU, sU, sU, sU, sU, sU, sU, sU, sU, sU, sU]) rfl (zXS_iloadN X857.here hx rfl (hb hby at_15) rfl (zXS_bipush X857.here hx rfl (hb hby at_16) (zXT_iushr X857.here hx rfl (hb hby at_18) rfl hr)))) ?_
  have zz858 : n0 ≤ h0.size := by omega
  refine gStaticN Gl.cl (y := y_10) (argsL := [(.int (XT.ushr i0 (8 : Int32)))]) (rest := []) (mc := 0) (ms := 0) X857 hx hZ hown (mvT hZ (tw hw 0 rfl)) (mvT hZ (tw hw 1 rfl)) (mvT hZ (tw hw 2 rfl)) (mvT hZ (tw hw 3 rfl)) (by decide) (backOf (W := 0) (nmc l Z a0 hw [] (XT.ushr i0 (8 : Int32)) h0 n0 zz858 ) hZ (tw hw 3 rfl) (tw hw 2 rfl) (by decide) (by decide)) rfl (by rw [hml]; rfl) (lenOf pd_9 rfl) rfl (by exact Nat.le_of_eq rfl) (hb hby at_19) rfl e857 (by decide) (by decide) ?_
  intro v858 T858 Lc858 hQ858 X858
  obtain ⟨k_858, rfl, Nq858, e858, p858_nk⟩ := hQ858
  have N858 := Fr.app N857 Nq858
  have hk_858 := p858_nk
  refine Gl.go (fun _ hr => zXS_istore X858.here hx rfl (hb hby at_22) rfl (l' := #[sI i0, sI i1, sJ i2, sS, sJ i3, sS, sI i4, sI (Int32.ofNat la), sI (Int32.ofNat k_857), sI (Int32.ofNat k_858), sU, sU, sU, sU, sU, sU, sU, sU, sU, sU, sU, sU, sU]) rfl (zXS_iload X858.here hx rfl (hb hby at_24) rfl (zXS_iconst X858.here hx rfl (hb hby at_26) (zXT_iushr X858.here hx rfl (hb hby at_27) rfl (zXS_iconst X858.here hx rfl (hb hby at_28) (zXS_iand X858.here hx rfl (hb hby at_29) rfl hr)))))) ?_
  by_cases hc859 : ((XT.ushr i4 (4 : Int32)) &&& (1 : Int32)) = (0 : Int32)
  · refine Gl.go (fun _ hr => zXS_ifYes X858.here hx rfl (pc0 := 30) (pc' := 48) rfl (hb hby at_30) rfl (XT.i0_eq_t hc859) (by decide) (by decide) (zXS_iconst X858.here hx rfl (hb hby at_48) (zXS_iloadN X858.here hx rfl (hb hby at_49) rfl (zXS_iconst X858.here hx rfl (hb hby at_50) (zXS_iand X858.here hx rfl (hb hby at_51) rfl (zXS_iadd X858.here hx rfl (hb hby at_52) rfl hr)))))) ?_
    show Gl p.tables e below _ (T858.setTop (mkF m 53 #[sI i0, sI i1, sJ i2, sS, sJ i3, sS, sI i4, sI (Int32.ofNat la), sI (Int32.ofNat k_857), sI (Int32.ofNat k_858), sU, sU, sU, sU, sU, sU, sU, sU, sU, sU, sU, sU, sU] [(.int ((1 : Int32) + (i1 &&& (1 : Int32))))]))
    obtain ⟨lb, e_lb, hn_lb⟩ := own_la i1
    rw [e_lb]
    show Gl p.tables e below _ (T858.setTop (mkF m 53 #[sI i0, sI i1, sJ i2, sS, sJ i3, sS, sI i4, sI (Int32.ofNat la), sI (Int32.ofNat k_857), sI (Int32.ofNat k_858), sU, sU, sU, sU, sU, sU, sU, sU, sU, sU, sU, sU, sU] [(.int (Int32.ofNat lb))]))
    refine Gl.go (fun _ hr => zXS_istore X858.here hx rfl (hb hby at_53) rfl (l' := #[sI i0, sI i1, sJ i2, sS, sJ i3, sS, sI i4, sI (Int32.ofNat la), sI (Int32.ofNat k_857), sI (Int32.ofNat k_858), sI (Int32.ofNat lb), sU, sU, sU, sU, sU, sU, sU, sU, sU, sU, sU, sU]) rfl (zXS_iloadN X858.here hx rfl (hb hby at_55) rfl (zXS_iconst X858.here hx rfl (hb hby at_56) (zXT_iushr X858.here hx rfl (hb hby at_57) rfl hr)))) ?_
    have zz860 : n0 ≤ h0.size := by omega
    refine gStaticN Gl.cl (y := y_10) (argsL := [(.int (XT.ushr i1 (1 : Int32)))]) (rest := []) (mc := 0) (ms := 0) X858 hx hZ hown (mvT hZ (tw hw 0 rfl)) (mvT hZ (tw hw 1 rfl)) (mvT hZ (tw hw 2 rfl)) (mvT hZ (tw hw 3 rfl)) (by decide) (backOf (W := 0) (nmc l Z a0 hw [] (XT.ushr i1 (1 : Int32)) h0 n0 zz860 ) hZ (tw hw 3 rfl) (tw hw 2 rfl) (by decide) (by decide)) rfl (by rw [hml]; rfl) (lenOf pd_9 rfl) rfl (by exact Nat.le_of_eq rfl) (hb hby at_58) rfl e858 (by decide) (by decide) ?_
    intro v860 T860 Lc860 hQ860 X860
    obtain ⟨k_860, rfl, Nq860, e860, p860_nk⟩ := hQ860
    have N860 := Fr.app N858 Nq860
    have hk_860 := p860_nk
    refine Gl.go (fun _ hr => zXS_istore X860.here hx rfl (hb hby at_61) rfl (l' := #[sI i0, sI i1, sJ i2, sS, sJ i3, sS, sI i4, sI (Int32.ofNat la), sI (Int32.ofNat k_857), sI (Int32.ofNat k_858), sI (Int32.ofNat lb), sI (Int32.ofNat k_860), sU, sU, sU, sU, sU, sU, sU, sU, sU, sU, sU]) rfl (zXS_iloadN X860.here hx rfl (hb hby at_63) rfl (zXS_bipush X860.here hx rfl (hb hby at_64) (zXT_iushr X860.here hx rfl (hb hby at_66) rfl hr)))) ?_
    have zz861 : n0 ≤ h0.size := by omega
    refine gStaticN Gl.cl (y := y_10) (argsL := [(.int (XT.ushr i1 (8 : Int32)))]) (rest := []) (mc := 0) (ms := 0) X860 hx hZ hown (mvT hZ (tw hw 0 rfl)) (mvT hZ (tw hw 1 rfl)) (mvT hZ (tw hw 2 rfl)) (mvT hZ (tw hw 3 rfl)) (by decide) (backOf (W := 0) (nmc l Z a0 hw [] (XT.ushr i1 (8 : Int32)) h0 n0 zz861 ) hZ (tw hw 3 rfl) (tw hw 2 rfl) (by decide) (by decide)) rfl (by rw [hml]; rfl) (lenOf pd_9 rfl) rfl (by exact Nat.le_of_eq rfl) (hb hby at_67) rfl e860 (by decide) (by decide) ?_
    intro v861 T861 Lc861 hQ861 X861
    obtain ⟨k_861, rfl, Nq861, e861, p861_nk⟩ := hQ861
    have N861 := Fr.app N860 Nq861
    have hk_861 := p861_nk
    refine Gl.go (fun _ hr => zXS_istore X861.here hx rfl (hb hby at_70) rfl (l' := #[sI i0, sI i1, sJ i2, sS, sJ i3, sS, sI i4, sI (Int32.ofNat la), sI (Int32.ofNat k_857), sI (Int32.ofNat k_858), sI (Int32.ofNat lb), sI (Int32.ofNat k_860), sI (Int32.ofNat k_861), sU, sU, sU, sU, sU, sU, sU, sU, sU, sU]) rfl hr) ?_
    exact tB T861 h0 _ s.vm _ la k_857 k_858 lb k_860 k_861 N861 (X861.more (by decide) (by decide)) e861 (Keep.refl h0 []) hS0 (by have q := hk0; omega) hZ hown hn_la hn_lb hk_857 hk_858 hk_860 hk_861
  · refine Gl.go (fun _ hr => zXS_ifNo X858.here hx rfl (hb hby at_30) rfl (XT.i0_eq_f hc859) (zXS_iload X858.here hx rfl (hb hby at_33) rfl (zXS_istore X858.here hx rfl (hb hby at_35) rfl (l' := #[sI i0, sI i1, sJ i2, sS, sJ i3, sS, sI i4, sI (Int32.ofNat la), sI (Int32.ofNat k_857), sI (Int32.ofNat k_858), sI (Int32.ofNat la), sU, sU, sU, sU, sU, sU, sU, sU, sU, sU, sU, sU]) rfl (zXS_iload X858.here hx rfl (hb hby at_37) rfl (zXS_istore X858.here hx rfl (hb hby at_39) rfl (l' := #[sI i0, sI i1, sJ i2, sS, sJ i3, sS, sI i4, sI (Int32.ofNat la), sI (Int32.ofNat k_857), sI (Int32.ofNat k_858), sI (Int32.ofNat la), sI (Int32.ofNat k_857), sU, sU, sU, sU, sU, sU, sU, sU, sU, sU, sU]) rfl (zXS_iload X858.here hx rfl (hb hby at_41) rfl (zXS_istore X858.here hx rfl (hb hby at_43) rfl (l' := #[sI i0, sI i1, sJ i2, sS, sJ i3, sS, sI i4, sI (Int32.ofNat la), sI (Int32.ofNat k_857), sI (Int32.ofNat k_858), sI (Int32.ofNat la), sI (Int32.ofNat k_857), sI (Int32.ofNat k_858), sU, sU, sU, sU, sU, sU, sU, sU, sU, sU]) rfl (zXS_goto X858.here hx rfl (pc0 := 45) (pc' := 72) rfl (hb hby at_45) (by decide) (by decide) hr)))))))) ?_
    exact tB T858 h0 _ s.vm _ la k_857 k_858 la k_857 k_858 N858 (X858.more (by decide) (by decide)) e858 (Keep.refl h0 []) hS0 (by have q := hk0; omega) hZ hown hn_la hn_la hk_857 hk_858 hk_857 hk_858
set_option maxRecDepth 65536 in
set_option maxHeartbeats 40000000 in
theorem comes_1 {Post : Tables → Env → Array Value → State → Outcome → State → Prop} (hpost : ∀ tb e args s v u, (limb_1_1.after args s (.returned v) u = true ∧ limb_1_2.after args s (.returned v) u = true ∧ True) → ReturnedEndW s (.returned v) u (Jvm.fieldLocs frame_1_writes args s ++ Jvm.arrayLocs frame_1_arrays args s ++ Jvm.staticLocs frame_1_statics s) 48 2240 → Post tb e args s (.returned v) u) :
    ArmFor flags0 classFile x code maxLocals ret World_1 tables_1 room_1 Calls_1 rest_1 Pre_1 Post := by
  intro l hfl _ _ p e ha hc hk s m args below hf hA hF happ hP
  obtain ⟨hcalls, hrest, hpre⟩ := hP
  obtain ⟨-, -, -, hnamed, -, -, -, hat⟩ := (Spec.applies_iff hf).mp happ
  obtain ⟨hg, hn⟩ := and_e (Cond.before_iff.mp (show (Jvm.Cond.and given_1 narrow_1).before args s = true from hpre))
  obtain ⟨hcount, hgs⟩ := and_e hg
  obtain ⟨w0, w1, w2, w3, w4, rfl⟩ : ∃ w0 w1 w2 w3 w4 : Value, args = #[w0, w1, w2, w3, w4] := by
    have hs : args.size = 5 := by simpa [Cond.value, given_1] using hcount
    obtain ⟨L⟩ := args
    match L, hs with
    | [w0, w1, w2, w3, w4], _ => exact ⟨w0, w1, w2, w3, w4, rfl⟩
  obtain ⟨ha0, hr0⟩ := and_e hgs
  obtain ⟨i0, ei0⟩ := is_v ha0
  obtain rfl : w0 = (.int i0) := Option.some.inj ei0
  obtain ⟨ha1, hr1⟩ := and_e hr0
  obtain ⟨i1, ei1⟩ := is_v ha1
  obtain rfl : w1 = (.int i1) := Option.some.inj ei1
  obtain ⟨ha2, hr2⟩ := and_e hr1
  obtain ⟨i2, ei2⟩ := isL_v ha2
  obtain rfl : w2 = (.long i2) := Option.some.inj ei2
  obtain ⟨ha3, hr3⟩ := and_e hr2
  obtain ⟨i3, ei3⟩ := isL_v ha3
  obtain rfl : w3 = (.long i3) := Option.some.inj ei3
  obtain ⟨i4, ei4⟩ := is_v hr3
  obtain rfl : w4 = (.int i4) := Option.some.inj ei4
  have hw := fun d (hd : d ∈ tables_1) => atoms_spec (ws := Jvm.Cond.code x code maxLocals ret :: tables_1) hat d (List.mem_cons_of_mem _ hd)
  have hfit : Fit s := fun {y c} hc i hi => by
    obtain ⟨ha, rfl⟩ := Array.getElem?_eq_some_iff.mp hc
    have q := List.all_eq_true.mp ((Array.all_eq_true_iff_forall_mem.mp hF) _ (Array.getElem_mem ha)) i (List.mem_range.mpr hi)
    simpa [Array.getElem?_eq_getElem hi] using q
  obtain ⟨hsets, hown0⟩ := atoms_of _ (rest_1_c_eq ▸ (show rest_1_c.before _ s = true from hrest))
  have hr0 := Cond.before_iff.mp hown0
  have n3 := not_v (Cond.before_iff.mp (hsets _ (List.mem_of_getElem? (i := 2) rfl)))
  obtain ⟨G1, eG1⟩ := is_v (Cond.before_iff.mp (hsets _ (List.mem_of_getElem? (i := 1) rfl)))
  have SG1 : Sta s s.heap "java/lang/String" "COMPACT_STRINGS" "Z" (.int G1) := Sta.start eG1 (Or.inl (hsets _ (List.mem_of_getElem? (i := 0) rfl)))
  have cG1 : ¬ (G1 = (0 : Int32)) := gotF (Cond.eq_ints eG1 (Term.int_eval (0))) n3
  obtain ⟨G3, eG3, rG3⟩ := isR_v (Cond.before_iff.mp (hsets _ (List.mem_of_getElem? (i := 8) rfl)))
  have SG3 : Sta s s.heap "jdk/internal/util/Preconditions" "SIOOBE_FORMATTER" "Ljava/util/function/BiFunction;" G3 := Sta.start eG3 (Or.inl (hsets _ (List.mem_of_getElem? (i := 7) rfl)))
  have SU1 : Sta s s.heap "java/lang/StringUTF16" "$assertionsDisabled" "Z" (.int 1) := Sta.start (own_eqI (Cond.before_iff.mp (hsets _ (List.mem_of_getElem? (i := 12) rfl)))) (Or.inl (hsets _ (List.mem_of_getElem? (i := 11) rfl)))
  have SU2 : Sta s s.heap "java/lang/StringUTF16" "HI_BYTE_SHIFT" "I" (.int 0) := Sta.start (own_eqI (Cond.before_iff.mp (hsets _ (List.mem_of_getElem? (i := 15) rfl)))) (Or.inl (hsets _ (List.mem_of_getElem? (i := 14) rfl)))
  have SU3 : Sta s s.heap "java/lang/StringUTF16" "LO_BYTE_SHIFT" "I" (.int 8) := Sta.start (own_eqI (Cond.before_iff.mp (hsets _ (List.mem_of_getElem? (i := 18) rfl)))) (Or.inl (hsets _ (List.mem_of_getElem? (i := 17) rfl)))
  obtain ⟨n, o, h1, h2, h3, _, L, rfl, ⟨rfl, N, -⟩, hq⟩ := lawrm l s _ hw tables_1 i0 i1 i2 i3 i4 G1 G3 s.heap s.heap.size (Nat.le_refl _) SG1 cG1 (Old.start s) SG3 rG3 SU1 SU2 SU3 p e ha hc hk s m _ below hf ((Spec.applies_iff_loose hf).mp happ).1 ⟨rfl, State.Warmed39.refl s, rfl⟩ trivial
  refine ⟨n, _, h1, h2, h3, hpost _ _ _ _ _ _ ⟨Cond.after_iff.mpr rfl, Cond.after_iff.mpr (eq_i res_at (Term.int_eval (1)) rfl), trivial⟩ ⟨hq.1, hq.2.1, hq.2.2.1, (hq.2.2.2.sift fun y hy => Or.inr (N y hy)).mono (by decide) (by decide)⟩⟩
theorem main_1_1 : Claimed_1_1 := comes_1 fun _ _ _ _ _ _ h hF => ⟨h.1, hF⟩
theorem main_1_2 : Claimed_1_2 := comes_1 fun _ _ _ _ _ _ h hF => ⟨h.2.1, hF⟩
end Jvm.Pilot.@@N@@
namespace Jvm.Pilot.@@N@@
open Jvm Jvm.ClassFile Sem Op Lib Jvm.Free Jvm.Stand Jvm.Pilot.@@N@@.Jvm.D
/-! MADE BY PROGRAM (witnessworld.py) out of the Statement's table words and the real class files: 25 classes; the members and pool entries that the words name. The judged class is class 1, her method 9. -/
namespace start1
open Jvm.ClassFile
def u (s : String) : CpInfo := .utf8 (stringToUtf16 s)
/-- a pool by its gaps: so many unusable entries, then the entry; so many at the end -/
def gap : Nat → List CpInfo → List CpInfo
  | 0, r => r
  | n + 1, r => .unusable :: gap n r
def poolList (es : List (Nat × CpInfo)) (last : Nat) : List CpInfo := es.foldr (fun e r => gap e.1 (e.2 :: r)) (gap last [])
def pool (es : List (Nat × CpInfo)) (last : Nat) : Array CpInfo := ⟨poolList es last⟩
def fileOf (pool : Array CpInfo) (this : Nat) (attrs : Array Attribute := #[]) (ms : Array MethodInfo := #[]) (fl : Nat := 33) (sup : Nat := 0) (ifs : Array Nat := #[]) (fds : Array FieldInfo := #[]) : ClassFile where
  minorVersion := 0
  majorVersion := 65
  constantPool := pool
  accessFlags := fl
  thisClass := this
  superClass := sup
  interfaces := ifs
  fields := fds
  methods := ms
  attributes := attrs
def plain (name : String) (sup : Option ClassId) : Class where
  name := name
  kind := .ordinary
  loader := none
  accessFlags := 33
  super := sup
  interfaces := #[]
  cf := none
  fields := #[]
  methods := #[]
  instanceTypes := #[]
  staticTypes := #[]
  resolved := #[]
  callSites := []
  init := .initialized
  statics := none
  mirror := none

def pool0 : Array CpInfo := pool [(5, u "<init>"), (0, u "()V"), (1, .class_ 10), (1, u "java/lang/Object")] 113

def k0c0 : Code := { maxStack := 0, maxLocals := 1, code := object_method_1_code, exceptionTable := #[], attributes := #[] }
def k0m0 : Method := { name := "<init>", desc := "()V", sig := { parameters := [], returnType := none }, accessFlags := 1, code := some k0c0 }
/-- java/lang/Object -/
def k0 : Class := { plain "java/lang/Object" none with
  accessFlags := 33
  interfaces := #[]
  cf := some (fileOf pool0 8 #[] #[{ accessFlags := 1, nameIndex := 5, descriptorIndex := 6, attributes := #[] }] 33 0 #[] #[])
  fields := #[]
  methods := #[k0m0]
  instanceTypes := #[]
  staticTypes := #[]
  resolved := Array.replicate 124 none
  statics := none }

def pool1 : Array CpInfo := pool [(2, .class_ 4), (1, u "java/lang/Object"), (0, u "<init>"), (0, u "()V"), (0, .integer 55295), (0, .integer 57344), (0, .integer 65536), (0, .integer 1048576), (0, .integer 65535), (0, .integer 1114111), (0, .integer 55296), (0, .integer 56320), (0, .class_ 16), (0, u "java/lang/String"), (0, .methodref 15 18), (0, .nameAndType 5 19), (0, u "([C)V"), (0, .methodref 21 22), (0, .class_ 23), (0, .nameAndType 24 25), (0, u "com/example/even_counter/evencounter/CounterIdCompareToPinLaw"), (0, u "hi"), (0, u "(I)C"), (0, .methodref 21 27), (0, .nameAndType 28 25), (0, u "lo"), (0, .methodref 21 30), (0, .nameAndType 31 25), (0, u "nameChar"), (0, .methodref 21 33), (0, .nameAndType 34 35), (0, u "keyCp"), (0, u "(I)I"), (0, .class_ 37), (0, u "com/example/even_counter/evencounter/CounterId"), (0, .methodref 21 39), (0, .nameAndType 40 41), (0, u "nameString"), (0, u "(ICC)Ljava/lang/String;"), (0, .methodref 21 43), (0, .nameAndType 44 45), (0, u "keyString"), (0, u "(III)Ljava/lang/String;"), (0, .methodref 36 47), (0, .nameAndType 5 48), (0, u "(Ljava/lang/String;Ljava/lang/String;)V"), (0, .methodref 21 50), (0, .nameAndType 51 52), (0, u "cmpSeq"), (0, u "(IIIIII)I"), (0, .methodref 36 54), (0, .nameAndType 55 56), (0, u "compareTo"), (0, u "(Lcom/example/even_counter/evencounter/CounterId;)I"), (0, .methodref 21 58), (0, .nameAndType 59 35), (0, u "sign"), (3, u "law"), (0, u "(IIJJI)Z")] 2

def k1m0 : Method := { name := "<init>", desc := "()V", sig := { parameters := [], returnType := none }, accessFlags := 1, code := none }
def k1c1 : Code := { maxStack := 2, maxLocals := 2, code := method_2_code, exceptionTable := #[], attributes := #[] }
def k1m1 : Method := { name := "nameChar", desc := "(I)C", sig := { parameters := [.int], returnType := some .char }, accessFlags := 10, code := some k1c1 }
def k1c2 : Code := { maxStack := 3, maxLocals := 4, code := method_3_code, exceptionTable := #[], attributes := #[] }
def k1m2 : Method := { name := "keyCp", desc := "(I)I", sig := { parameters := [.int], returnType := some .int }, accessFlags := 10, code := some k1c2 }
def k1c3 : Code := { maxStack := 3, maxLocals := 1, code := method_4_code, exceptionTable := #[], attributes := #[] }
def k1m3 : Method := { name := "hi", desc := "(I)C", sig := { parameters := [.int], returnType := some .char }, accessFlags := 10, code := some k1c3 }
def k1c4 : Code := { maxStack := 3, maxLocals := 1, code := method_5_code, exceptionTable := #[], attributes := #[] }
def k1m4 : Method := { name := "lo", desc := "(I)C", sig := { parameters := [.int], returnType := some .char }, accessFlags := 10, code := some k1c4 }
def k1c5 : Code := { maxStack := 6, maxLocals := 3, code := method_6_code, exceptionTable := #[], attributes := #[] }
def k1m5 : Method := { name := "nameString", desc := "(ICC)Ljava/lang/String;", sig := { parameters := [.int, .char, .char], returnType := some (.object "java/lang/String") }, accessFlags := 10, code := some k1c5 }
def k1c6 : Code := { maxStack := 6, maxLocals := 5, code := method_7_code, exceptionTable := #[], attributes := #[] }
def k1m6 : Method := { name := "keyString", desc := "(III)Ljava/lang/String;", sig := { parameters := [.int, .int, .int], returnType := some (.object "java/lang/String") }, accessFlags := 10, code := some k1c6 }
def k1c7 : Code := { maxStack := 2, maxLocals := 6, code := method_8_code, exceptionTable := #[], attributes := #[] }
def k1m7 : Method := { name := "cmpSeq", desc := "(IIIIII)I", sig := { parameters := [.int, .int, .int, .int, .int, .int], returnType := some .int }, accessFlags := 10, code := some k1c7 }
def k1c8 : Code := { maxStack := 1, maxLocals := 1, code := method_9_code, exceptionTable := #[], attributes := #[] }
def k1m8 : Method := { name := "sign", desc := "(I)I", sig := { parameters := [.int], returnType := some .int }, accessFlags := 10, code := some k1c8 }
def k1c9 : Code := { maxStack := 6, maxLocals := 23, code := code, exceptionTable := #[], attributes := #[] }
def k1m9 : Method := { name := "law", desc := "(IIJJI)Z", sig := { parameters := [.int, .int, .long, .long, .int], returnType := some .boolean }, accessFlags := 9, code := some k1c9 }
/-- com/example/even_counter/evencounter/CounterIdCompareToPinLaw -/
def k1 : Class := { plain "com/example/even_counter/evencounter/CounterIdCompareToPinLaw" (some 0) with
  accessFlags := 49
  interfaces := #[]
  cf := some (fileOf pool1 21 #[] #[{ accessFlags := 1, nameIndex := 5, descriptorIndex := 6, attributes := #[] }, { accessFlags := 10, nameIndex := 31, descriptorIndex := 25, attributes := #[] }, { accessFlags := 10, nameIndex := 34, descriptorIndex := 35, attributes := #[] }, { accessFlags := 10, nameIndex := 24, descriptorIndex := 25, attributes := #[] }, { accessFlags := 10, nameIndex := 28, descriptorIndex := 25, attributes := #[] }, { accessFlags := 10, nameIndex := 40, descriptorIndex := 41, attributes := #[] }, { accessFlags := 10, nameIndex := 44, descriptorIndex := 45, attributes := #[] }, { accessFlags := 10, nameIndex := 51, descriptorIndex := 52, attributes := #[] }, { accessFlags := 10, nameIndex := 59, descriptorIndex := 35, attributes := #[] }, { accessFlags := 9, nameIndex := 63, descriptorIndex := 64, attributes := #[] }] 49 2 #[] #[])
  fields := #[]
  methods := #[k1m0, k1m1, k1m2, k1m3, k1m4, k1m5, k1m6, k1m7, k1m8, k1m9]
  instanceTypes := #[]
  staticTypes := #[]
  resolved := Array.replicate 67 none
  statics := none }

def pool2 : Array CpInfo := pool [(1, .methodref 2 3), (0, .class_ 4), (0, .nameAndType 5 6), (0, u "java/lang/Object"), (0, u "<init>"), (0, u "()V"), (0, .class_ 8), (0, u "java/lang/Record")] 13

def k2c0 : Code := { maxStack := 1, maxLocals := 1, code := jdk_30_method_1_code, exceptionTable := #[], attributes := #[] }
def k2m0 : Method := { name := "<init>", desc := "()V", sig := { parameters := [], returnType := none }, accessFlags := 4, code := some k2c0 }
/-- java/lang/Record -/
def k2 : Class := { plain "java/lang/Record" (some 0) with
  accessFlags := 1057
  interfaces := #[]
  cf := some (fileOf pool2 7 #[] #[{ accessFlags := 4, nameIndex := 5, descriptorIndex := 6, attributes := #[] }] 1057 2 #[] #[])
  fields := #[]
  methods := #[k2m0]
  instanceTypes := #[]
  staticTypes := #[]
  resolved := Array.replicate 22 none
  statics := none }

def pool3 : Array CpInfo := pool [(1, .class_ 2), (0, u "java/lang/Comparable"), (0, .class_ 4), (0, u "java/lang/Object")] 7

/-- java/lang/Comparable -/
def k3 : Class := { plain "java/lang/Comparable" (some 0) with
  accessFlags := 1537
  interfaces := #[]
  cf := some (fileOf pool3 1 #[] #[] 1537 3 #[] #[])
  fields := #[]
  methods := #[]
  instanceTypes := #[]
  staticTypes := #[]
  resolved := Array.replicate 12 none
  statics := none }

def pool4 : Array CpInfo := pool [(1, .methodref 2 3), (0, .class_ 4), (0, .nameAndType 5 6), (0, u "java/lang/Record"), (0, u "<init>"), (0, u "()V"), (0, .methodref 8 9), (0, .class_ 10), (0, .nameAndType 11 12), (0, u "com/example/even_counter/evencounter/CounterId"), (0, u "checkName"), (0, u "(Ljava/lang/String;)V"), (0, .methodref 8 14), (0, .nameAndType 15 12), (0, u "checkKey"), (0, .fieldref 8 17), (0, .nameAndType 18 19), (0, u "name"), (0, u "Ljava/lang/String;"), (0, .fieldref 8 21), (0, .nameAndType 22 19), (0, u "key"), (0, .string 24), (0, u "counter name must not be null"), (0, .methodref 26 27), (0, .class_ 28), (0, .nameAndType 29 30), (0, u "java/util/Objects"), (0, u "requireNonNull"), (0, u "(Ljava/lang/Object;Ljava/lang/String;)Ljava/lang/Object;"), (0, .methodref 32 33), (0, .class_ 34), (0, .nameAndType 35 36), (0, u "java/lang/String"), (0, u "isEmpty"), (0, u "()Z"), (0, .methodref 32 38), (0, .nameAndType 39 40), (0, u "length"), (0, u "()I"), (8, .methodref 32 50), (0, .nameAndType 51 52), (0, u "charAt"), (0, u "(I)C"), (0, .methodref 8 54), (0, .nameAndType 55 56), (0, u "isNameCharacter"), (0, u "(C)Z"), (4, .methodref 32 62), (0, .nameAndType 63 64), (0, u "codePointAt"), (0, u "(I)I"), (1, .class_ 68), (1, u "java/lang/Integer"), (6, .string 76), (0, u "counter key must not be null"), (1, .class_ 79), (0, u "java/lang/Character"), (0, .integer 55296), (0, .integer 57343), (2, .methodref 78 85), (0, .nameAndType 86 64), (0, u "charCount"), (1, .methodref 8 89), (0, .nameAndType 90 91), (0, u "compareCodePoints"), (0, u "(Ljava/lang/String;Ljava/lang/String;)I"), (0, .methodref 66 93), (0, .nameAndType 94 95), (0, u "compare"), (0, u "(II)I"), (2, u "compareTo"), (0, u "(Lcom/example/even_counter/evencounter/CounterId;)I"), (11, .class_ 112), (0, u "java/lang/Comparable"), (0, u "MAX_NAME_LENGTH"), (0, u "I"), (2, u "MAX_KEY_LENGTH"), (1, u "(Ljava/lang/String;Ljava/lang/String;)V")] 42

def k4c0 : Code := { maxStack := 2, maxLocals := 3, code := prog_3_method_1_code, exceptionTable := #[], attributes := #[] }
def k4m0 : Method := { name := "<init>", desc := "(Ljava/lang/String;Ljava/lang/String;)V", sig := { parameters := [(.object "java/lang/String"), (.object "java/lang/String")], returnType := none }, accessFlags := 1, code := some k4c0 }
def k4c1 : Code := { maxStack := 8, maxLocals := 3, code := prog_3_method_2_code, exceptionTable := #[], attributes := #[] }
def k4m1 : Method := { name := "checkName", desc := "(Ljava/lang/String;)V", sig := { parameters := [(.object "java/lang/String")], returnType := none }, accessFlags := 8, code := some k4c1 }
def k4c2 : Code := { maxStack := 2, maxLocals := 1, code := prog_3_method_3_code, exceptionTable := #[], attributes := #[] }
def k4m2 : Method := { name := "isNameCharacter", desc := "(C)Z", sig := { parameters := [.char], returnType := some .boolean }, accessFlags := 10, code := some k4c2 }
def k4c3 : Code := { maxStack := 7, maxLocals := 4, code := prog_3_method_4_code, exceptionTable := #[], attributes := #[] }
def k4m3 : Method := { name := "checkKey", desc := "(Ljava/lang/String;)V", sig := { parameters := [(.object "java/lang/String")], returnType := none }, accessFlags := 10, code := some k4c3 }
def k4c4 : Code := { maxStack := 2, maxLocals := 3, code := prog_3_method_5_code, exceptionTable := #[], attributes := #[] }
def k4m4 : Method := { name := "compareTo", desc := "(Lcom/example/even_counter/evencounter/CounterId;)I", sig := { parameters := [(.object "com/example/even_counter/evencounter/CounterId")], returnType := some .int }, accessFlags := 1, code := some k4c4 }
def k4c5 : Code := { maxStack := 2, maxLocals := 5, code := prog_3_method_6_code, exceptionTable := #[], attributes := #[] }
def k4m5 : Method := { name := "compareCodePoints", desc := "(Ljava/lang/String;Ljava/lang/String;)I", sig := { parameters := [(.object "java/lang/String"), (.object "java/lang/String")], returnType := some .int }, accessFlags := 10, code := some k4c5 }
/-- com/example/even_counter/evencounter/CounterId -/
def k4 : Class := { plain "com/example/even_counter/evencounter/CounterId" (some 2) with
  accessFlags := 49
  interfaces := #[3]
  cf := some (fileOf pool4 8 #[] #[{ accessFlags := 1, nameIndex := 5, descriptorIndex := 119, attributes := #[] }, { accessFlags := 8, nameIndex := 11, descriptorIndex := 12, attributes := #[] }, { accessFlags := 10, nameIndex := 55, descriptorIndex := 56, attributes := #[] }, { accessFlags := 10, nameIndex := 15, descriptorIndex := 12, attributes := #[] }, { accessFlags := 1, nameIndex := 98, descriptorIndex := 99, attributes := #[] }, { accessFlags := 10, nameIndex := 90, descriptorIndex := 91, attributes := #[] }] 49 2 #[111] #[{ accessFlags := 18, nameIndex := 18, descriptorIndex := 19, attributes := #[] }, { accessFlags := 18, nameIndex := 22, descriptorIndex := 19, attributes := #[] }, { accessFlags := 25, nameIndex := 113, descriptorIndex := 114, attributes := #[] }, { accessFlags := 25, nameIndex := 117, descriptorIndex := 114, attributes := #[] }])
  fields := #[{ name := "name", type := (.object "java/lang/String"), accessFlags := 18, slot := 0, constantValue := 0 }, { name := "key", type := (.object "java/lang/String"), accessFlags := 18, slot := 1, constantValue := 0 }, { name := "MAX_NAME_LENGTH", type := .int, accessFlags := 25, slot := 0, constantValue := 0 }, { name := "MAX_KEY_LENGTH", type := .int, accessFlags := 25, slot := 1, constantValue := 0 }]
  methods := #[k4m0, k4m1, k4m2, k4m3, k4m4, k4m5]
  instanceTypes := #[(.object "java/lang/String"), (.object "java/lang/String")]
  staticTypes := #[.int, .int]
  resolved := Array.replicate 162 none
  statics := none }

def pool5 : Array CpInfo := pool [(1, .class_ 2), (0, u "java/io/Serializable"), (0, .class_ 4), (0, u "java/lang/Object")] 2

/-- java/io/Serializable -/
def k5 : Class := { plain "java/io/Serializable" (some 0) with
  accessFlags := 1537
  interfaces := #[]
  cf := some (fileOf pool5 1 #[] #[] 1537 3 #[] #[])
  fields := #[]
  methods := #[]
  instanceTypes := #[]
  staticTypes := #[]
  resolved := Array.replicate 7 none
  statics := none }

def pool6 : Array CpInfo := pool [(2, .class_ 4), (1, u "java/lang/CharSequence"), (42, .class_ 48), (0, u "java/lang/CharSequence$1CodePointIterator"), (10, .class_ 60), (0, u "java/lang/CharSequence$1CharIterator"), (5, .class_ 67), (0, u "java/lang/Object")] 63

/-- java/lang/CharSequence -/
def k6 : Class := { plain "java/lang/CharSequence" (some 0) with
  accessFlags := 1537
  interfaces := #[]
  cf := some (fileOf pool6 2 #[.nestMembers #[47, 59]] #[] 1537 66 #[] #[])
  fields := #[]
  methods := #[]
  instanceTypes := #[]
  staticTypes := #[]
  resolved := Array.replicate 131 none
  statics := none }

def pool7 : Array CpInfo := pool [(1, .class_ 2), (0, u "java/lang/constant/Constable"), (0, .class_ 4), (0, u "java/lang/Object")] 6

/-- java/lang/constant/Constable -/
def k7 : Class := { plain "java/lang/constant/Constable" (some 0) with
  accessFlags := 1537
  interfaces := #[]
  cf := some (fileOf pool7 1 #[] #[] 1537 3 #[] #[])
  fields := #[]
  methods := #[]
  instanceTypes := #[]
  staticTypes := #[]
  resolved := Array.replicate 11 none
  statics := none }

def pool8 : Array CpInfo := pool [(1, .class_ 2), (0, u "java/lang/constant/ConstantDesc"), (0, .class_ 4), (0, u "java/lang/Object")] 32

/-- java/lang/constant/ConstantDesc -/
def k8 : Class := { plain "java/lang/constant/ConstantDesc" (some 0) with
  accessFlags := 1537
  interfaces := #[]
  cf := some (fileOf pool8 1 #[] #[] 1537 3 #[] #[])
  fields := #[]
  methods := #[]
  instanceTypes := #[]
  staticTypes := #[]
  resolved := Array.replicate 37 none
  statics := none }

def pool9 : Array CpInfo := pool [(1, .methodref 2 3), (0, .class_ 4), (0, .nameAndType 5 6), (0, u "java/lang/Object"), (0, u "<init>"), (0, u "()V"), (2, .fieldref 10 11), (0, .class_ 12), (0, .nameAndType 13 14), (0, u "java/lang/String"), (0, u "value"), (0, u "[B"), (0, .fieldref 10 16), (0, .nameAndType 17 18), (0, u "coder"), (0, u "B"), (2, u "hash"), (0, u "I"), (2, u "hashIsZero"), (0, u "Z"), (0, .methodref 10 28), (0, .nameAndType 5 29), (0, u "([CIILjava/lang/Void;)V"), (8, .fieldref 10 39), (0, .nameAndType 40 26), (0, u "COMPACT_STRINGS"), (1, .class_ 44), (1, u "java/lang/StringUTF16"), (0, u "compress"), (1, .methodref 42 48), (0, .nameAndType 49 50), (0, u "coderFromArrayLen"), (0, u "([BI)B"), (46, u "([BII)I"), (9, .class_ 109), (1, u "java/lang/StringLatin1"), (32, u "()Z"), (34, .methodref 42 178), (0, .nameAndType 45 179), (0, u "([CII)[B"), (154, u "()I"), (0, .methodref 10 336), (0, .nameAndType 17 337), (0, u "()B"), (25, u "([BI)C"), (27, u "(II)V"), (35, u "(I)C"), (64, .methodref 10 493), (0, .nameAndType 494 142), (0, u "isLatin1"), (0, .methodref 107 496), (0, .nameAndType 497 363), (0, u "charAt"), (1, .methodref 10 500), (0, .nameAndType 501 391), (0, u "checkIndex"), (0, .methodref 42 503), (0, .nameAndType 504 97), (0, u "codePointAt"), (2, u "length"), (67, .class_ 576), (0, u "java/lang/CharSequence"), (22, u "CASE_INSENSITIVE_ORDER"), (0, u "Ljava/util/Comparator;"), (91, u "isEmpty"), (72, u "(I)I"), (244, u "([C)V"), (42, .fieldref 1054 1055), (0, .class_ 1056), (0, .nameAndType 1057 1058), (0, u "jdk/internal/util/Preconditions"), (0, u "SIOOBE_FORMATTER"), (0, u "Ljava/util/function/BiFunction;"), (0, .methodref 1054 1060), (0, .nameAndType 501 1061), (0, u "(IILjava/util/function/BiFunction;)I"), (39, u "serialPersistentFields"), (0, u "[Ljava/io/ObjectStreamField;"), (0, .class_ 1104), (0, u "java/lang/String$CaseInsensitiveComparator"), (1, .class_ 1107), (0, u "java/io/Serializable"), (0, .class_ 1109), (0, u "java/lang/Comparable"), (0, .class_ 1111), (0, u "java/lang/constant/Constable"), (0, .class_ 1113), (0, u "java/lang/constant/ConstantDesc"), (2, u "serialVersionUID"), (0, u "J"), (3, u "REPL"), (0, u "C"), (2, u "LATIN1"), (1, u "UTF16")] 323

def k9m0 : Method := { name := "<init>", desc := "()V", sig := { parameters := [], returnType := none }, accessFlags := 1, code := none }
def k9c1 : Code := { maxStack := 5, maxLocals := 2, code := jdk_42_method_3_code, exceptionTable := #[], attributes := #[] }
def k9m1 : Method := { name := "<init>", desc := "([C)V", sig := { parameters := [(.array .char)], returnType := none }, accessFlags := 1, code := some k9c1 }
def k9c2 : Code := { maxStack := 2, maxLocals := 1, code := jdk_42_method_54_code, exceptionTable := #[], attributes := #[] }
def k9m2 : Method := { name := "length", desc := "()I", sig := { parameters := [], returnType := some .int }, accessFlags := 1, code := some k9c2 }
def k9c3 : Code := { maxStack := 1, maxLocals := 1, code := jdk_42_method_55_code, exceptionTable := #[], attributes := #[] }
def k9m3 : Method := { name := "isEmpty", desc := "()Z", sig := { parameters := [], returnType := some .boolean }, accessFlags := 1, code := some k9c3 }
def k9c4 : Code := { maxStack := 2, maxLocals := 2, code := jdk_42_method_56_code, exceptionTable := #[], attributes := #[] }
def k9m4 : Method := { name := "charAt", desc := "(I)C", sig := { parameters := [.int], returnType := some .char }, accessFlags := 1, code := some k9c4 }
def k9c5 : Code := { maxStack := 3, maxLocals := 3, code := jdk_42_method_57_code, exceptionTable := #[], attributes := #[] }
def k9m5 : Method := { name := "codePointAt", desc := "(I)I", sig := { parameters := [.int], returnType := some .int }, accessFlags := 1, code := some k9c5 }
def k9c6 : Code := { maxStack := 4, maxLocals := 6, code := jdk_42_method_149_code, exceptionTable := #[], attributes := #[] }
def k9m6 : Method := { name := "<init>", desc := "([CIILjava/lang/Void;)V", sig := { parameters := [(.array .char), .int, .int, (.object "java/lang/Void")], returnType := none }, accessFlags := 2, code := some k9c6 }
def k9c7 : Code := { maxStack := 1, maxLocals := 1, code := jdk_42_method_152_code, exceptionTable := #[], attributes := #[] }
def k9m7 : Method := { name := "coder", desc := "()B", sig := { parameters := [], returnType := some .byte }, accessFlags := 0, code := some k9c7 }
def k9c8 : Code := { maxStack := 1, maxLocals := 1, code := jdk_42_method_154_code, exceptionTable := #[], attributes := #[] }
def k9m8 : Method := { name := "isLatin1", desc := "()Z", sig := { parameters := [], returnType := some .boolean }, accessFlags := 0, code := some k9c8 }
def k9c9 : Code := { maxStack := 3, maxLocals := 2, code := jdk_42_method_155_code, exceptionTable := #[], attributes := #[] }
def k9m9 : Method := { name := "checkIndex", desc := "(II)V", sig := { parameters := [.int, .int], returnType := none }, accessFlags := 8, code := some k9c9 }
/-- java/lang/String -/
def k9 : Class := { plain "java/lang/String" (some 0) with
  accessFlags := 49
  interfaces := #[5, 3, 6, 7, 8]
  cf := some (fileOf pool9 10 #[.nestMembers #[1103]] #[{ accessFlags := 1, nameIndex := 5, descriptorIndex := 6, attributes := #[] }, { accessFlags := 1, nameIndex := 5, descriptorIndex := 1010, attributes := #[] }, { accessFlags := 1, nameIndex := 507, descriptorIndex := 334, attributes := #[] }, { accessFlags := 1, nameIndex := 692, descriptorIndex := 142, attributes := #[] }, { accessFlags := 1, nameIndex := 497, descriptorIndex := 427, attributes := #[] }, { accessFlags := 1, nameIndex := 504, descriptorIndex := 765, attributes := #[] }, { accessFlags := 2, nameIndex := 5, descriptorIndex := 29, attributes := #[] }, { accessFlags := 0, nameIndex := 17, descriptorIndex := 337, attributes := #[] }, { accessFlags := 0, nameIndex := 494, descriptorIndex := 142, attributes := #[] }, { accessFlags := 8, nameIndex := 501, descriptorIndex := 391, attributes := #[] }] 49 2 #[1106, 1108, 575, 1110, 1112] #[{ accessFlags := 18, nameIndex := 13, descriptorIndex := 14, attributes := #[] }, { accessFlags := 18, nameIndex := 17, descriptorIndex := 18, attributes := #[] }, { accessFlags := 2, nameIndex := 21, descriptorIndex := 22, attributes := #[] }, { accessFlags := 2, nameIndex := 25, descriptorIndex := 26, attributes := #[] }, { accessFlags := 26, nameIndex := 1116, descriptorIndex := 1117, attributes := #[] }, { accessFlags := 24, nameIndex := 40, descriptorIndex := 26, attributes := #[] }, { accessFlags := 26, nameIndex := 1101, descriptorIndex := 1102, attributes := #[] }, { accessFlags := 26, nameIndex := 1121, descriptorIndex := 1122, attributes := #[] }, { accessFlags := 25, nameIndex := 599, descriptorIndex := 600, attributes := #[] }, { accessFlags := 24, nameIndex := 1125, descriptorIndex := 18, attributes := #[] }, { accessFlags := 24, nameIndex := 1127, descriptorIndex := 18, attributes := #[] }])
  fields := #[{ name := "value", type := (.array .byte), accessFlags := 18, slot := 0, constantValue := 0 }, { name := "coder", type := .byte, accessFlags := 18, slot := 1, constantValue := 0 }, { name := "hash", type := .int, accessFlags := 2, slot := 2, constantValue := 0 }, { name := "hashIsZero", type := .boolean, accessFlags := 2, slot := 3, constantValue := 0 }, { name := "serialVersionUID", type := .long, accessFlags := 26, slot := 0, constantValue := 0 }, { name := "COMPACT_STRINGS", type := .boolean, accessFlags := 24, slot := 1, constantValue := 0 }, { name := "serialPersistentFields", type := (.array (.object "java/io/ObjectStreamField")), accessFlags := 26, slot := 2, constantValue := 0 }, { name := "REPL", type := .char, accessFlags := 26, slot := 3, constantValue := 0 }, { name := "CASE_INSENSITIVE_ORDER", type := (.object "java/util/Comparator"), accessFlags := 25, slot := 4, constantValue := 0 }, { name := "LATIN1", type := .byte, accessFlags := 24, slot := 5, constantValue := 0 }, { name := "UTF16", type := .byte, accessFlags := 24, slot := 6, constantValue := 0 }]
  methods := #[k9m0, k9m1, k9m2, k9m3, k9m4, k9m5, k9m6, k9m7, k9m8, k9m9]
  instanceTypes := #[(.array .byte), .byte, .int, .boolean]
  staticTypes := #[.long, .boolean, (.array (.object "java/io/ObjectStreamField")), .char, (.object "java/util/Comparator"), .byte, .byte]
  resolved := Array.replicate 1451 none
  statics := some 0 }

def pool10 : Array CpInfo := pool [(6, .class_ 8), (1, u "java/lang/Object"), (0, u "<init>"), (0, u "()V"), (0, .methodref 12 13), (0, .class_ 14), (0, .nameAndType 15 16), (0, u "java/lang/StringUTF16"), (0, u "newBytesLength"), (0, u "(I)I"), (3, .integer 1073741823), (23, .fieldref 12 45), (0, .nameAndType 46 47), (0, u "$assertionsDisabled"), (0, u "Z"), (11, .fieldref 12 60), (0, .nameAndType 61 62), (0, u "HI_BYTE_SHIFT"), (0, u "I"), (0, .fieldref 12 64), (0, .nameAndType 65 62), (0, u "LO_BYTE_SHIFT"), (5, .methodref 12 72), (0, .nameAndType 73 74), (0, u "getChar"), (0, u "([BI)C"), (0, .methodref 76 77), (0, .class_ 78), (0, .nameAndType 79 80), (0, u "java/lang/Character"), (0, u "isHighSurrogate"), (0, u "(C)Z"), (0, .methodref 76 82), (0, .nameAndType 83 80), (0, u "isLowSurrogate"), (0, .methodref 76 85), (0, .nameAndType 86 87), (0, u "toCodePoint"), (0, u "(CC)I"), (0, .methodref 12 89), (0, .nameAndType 90 91), (0, u "codePointAt"), (0, u "([BIIZ)I"), (15, .methodref 12 108), (0, .nameAndType 109 110), (0, u "newBytesFor"), (0, u "(I)[B"), (0, .methodref 12 112), (0, .nameAndType 113 114), (0, u "putChar"), (0, u "([BII)V"), (0, .methodref 12 116), (0, .nameAndType 117 118), (0, u "compress"), (0, u "([CI[BII)I"), (0, .methodref 12 120), (0, .nameAndType 121 122), (0, u "toBytes"), (0, u "([CII)[B"), (127, u "([BII)I"), (10, u "coderFromArrayLen"), (0, u "([BI)B"), (106, .class_ 371), (1, u "java/lang/StringUTF16$LinesSpliterator"), (58, u "MAX_LENGTH"), (196, .class_ 628), (0, u "java/lang/StringUTF16$CodePointsSpliterator"), (0, .class_ 630), (0, u "java/lang/StringUTF16$CharsSpliterator")] 4

def k10m0 : Method := { name := "<init>", desc := "()V", sig := { parameters := [], returnType := none }, accessFlags := 0, code := none }
def k10c1 : Code := { maxStack := 1, maxLocals := 1, code := jdk_52_method_2_code, exceptionTable := #[], attributes := #[] }
def k10m1 : Method := { name := "newBytesFor", desc := "(I)[B", sig := { parameters := [.int], returnType := some (.array .byte) }, accessFlags := 9, code := some k10c1 }
def k10c2 : Code := { maxStack := 4, maxLocals := 1, code := jdk_52_method_3_code, exceptionTable := #[], attributes := #[] }
def k10m2 : Method := { name := "newBytesLength", desc := "(I)I", sig := { parameters := [.int], returnType := some .int }, accessFlags := 9, code := some k10c2 }
def k10c3 : Code := { maxStack := 4, maxLocals := 3, code := jdk_52_method_4_code, exceptionTable := #[], attributes := #[] }
def k10m3 : Method := { name := "putChar", desc := "([BII)V", sig := { parameters := [(.array .byte), .int, .int], returnType := none }, accessFlags := 8, code := some k10c3 }
def k10c4 : Code := { maxStack := 3, maxLocals := 2, code := jdk_52_method_5_code, exceptionTable := #[], attributes := #[] }
def k10m4 : Method := { name := "getChar", desc := "([BI)C", sig := { parameters := [(.array .byte), .int], returnType := some .char }, accessFlags := 8, code := some k10c4 }
def k10c5 : Code := { maxStack := 2, maxLocals := 6, code := jdk_52_method_7_code, exceptionTable := #[], attributes := #[] }
def k10m5 : Method := { name := "codePointAt", desc := "([BIIZ)I", sig := { parameters := [(.array .byte), .int, .int, .boolean], returnType := some .int }, accessFlags := 10, code := some k10c5 }
def k10c6 : Code := { maxStack := 4, maxLocals := 3, code := jdk_52_method_8_code, exceptionTable := #[], attributes := #[] }
def k10m6 : Method := { name := "codePointAt", desc := "([BII)I", sig := { parameters := [(.array .byte), .int, .int], returnType := some .int }, accessFlags := 9, code := some k10c6 }
def k10c7 : Code := { maxStack := 4, maxLocals := 5, code := jdk_52_method_14_code, exceptionTable := #[], attributes := #[] }
def k10m7 : Method := { name := "toBytes", desc := "([CII)[B", sig := { parameters := [(.array .char), .int, .int], returnType := some (.array .byte) }, accessFlags := 9, code := some k10c7 }
def k10c8 : Code := { maxStack := 2, maxLocals := 2, code := jdk_52_method_15_code, exceptionTable := #[], attributes := #[] }
def k10m8 : Method := { name := "coderFromArrayLen", desc := "([BI)B", sig := { parameters := [(.array .byte), .int], returnType := some .byte }, accessFlags := 8, code := some k10c8 }
def k10c9 : Code := { maxStack := 5, maxLocals := 6, code := jdk_52_method_16_code, exceptionTable := #[], attributes := #[] }
def k10m9 : Method := { name := "compress", desc := "([CII)[B", sig := { parameters := [(.array .char), .int, .int], returnType := some (.array .byte) }, accessFlags := 9, code := some k10c9 }
def k10c10 : Code := { maxStack := 3, maxLocals := 7, code := jdk_52_method_21_code, exceptionTable := #[], attributes := #[] }
def k10m10 : Method := { name := "compress", desc := "([CI[BII)I", sig := { parameters := [(.array .char), .int, (.array .byte), .int, .int], returnType := some .int }, accessFlags := 9, code := some k10c10 }
/-- java/lang/StringUTF16 -/
def k10 : Class := { plain "java/lang/StringUTF16" (some 0) with
  accessFlags := 48
  interfaces := #[]
  cf := some (fileOf pool10 12 #[.nestMembers #[627, 629, 369]] #[{ accessFlags := 0, nameIndex := 9, descriptorIndex := 10, attributes := #[] }, { accessFlags := 9, nameIndex := 109, descriptorIndex := 110, attributes := #[] }, { accessFlags := 9, nameIndex := 15, descriptorIndex := 16, attributes := #[] }, { accessFlags := 8, nameIndex := 113, descriptorIndex := 114, attributes := #[] }, { accessFlags := 8, nameIndex := 73, descriptorIndex := 74, attributes := #[] }, { accessFlags := 10, nameIndex := 90, descriptorIndex := 91, attributes := #[] }, { accessFlags := 9, nameIndex := 90, descriptorIndex := 250, attributes := #[] }, { accessFlags := 9, nameIndex := 121, descriptorIndex := 122, attributes := #[] }, { accessFlags := 8, nameIndex := 261, descriptorIndex := 262, attributes := #[] }, { accessFlags := 9, nameIndex := 117, descriptorIndex := 122, attributes := #[] }, { accessFlags := 9, nameIndex := 117, descriptorIndex := 118, attributes := #[] }] 48 6 #[] #[{ accessFlags := 26, nameIndex := 61, descriptorIndex := 62, attributes := #[] }, { accessFlags := 26, nameIndex := 65, descriptorIndex := 62, attributes := #[] }, { accessFlags := 24, nameIndex := 430, descriptorIndex := 62, attributes := #[] }, { accessFlags := 4120, nameIndex := 46, descriptorIndex := 47, attributes := #[] }])
  fields := #[{ name := "HI_BYTE_SHIFT", type := .int, accessFlags := 26, slot := 0, constantValue := 0 }, { name := "LO_BYTE_SHIFT", type := .int, accessFlags := 26, slot := 1, constantValue := 0 }, { name := "MAX_LENGTH", type := .int, accessFlags := 24, slot := 2, constantValue := 0 }, { name := "$assertionsDisabled", type := .boolean, accessFlags := 4120, slot := 3, constantValue := 0 }]
  methods := #[k10m0, k10m1, k10m2, k10m3, k10m4, k10m5, k10m6, k10m7, k10m8, k10m9, k10m10]
  instanceTypes := #[]
  staticTypes := #[.int, .int, .int, .boolean]
  resolved := Array.replicate 635 none
  statics := some 1 }

def pool11 : Array CpInfo := pool [(2, .class_ 4), (1, u "java/lang/Object"), (0, u "<init>"), (0, u "()V"), (35, .class_ 44), (1, u "java/util/Objects"), (0, u "requireNonNull"), (48, u "(Ljava/lang/Object;Ljava/lang/String;)Ljava/lang/Object;")] 89

def k11m0 : Method := { name := "<init>", desc := "()V", sig := { parameters := [], returnType := none }, accessFlags := 2, code := none }
def k11c1 : Code := { maxStack := 3, maxLocals := 2, code := jdk_31_method_11_code, exceptionTable := #[], attributes := #[] }
def k11m1 : Method := { name := "requireNonNull", desc := "(Ljava/lang/Object;Ljava/lang/String;)Ljava/lang/Object;", sig := { parameters := [(.object "java/lang/Object"), (.object "java/lang/String")], returnType := some (.object "java/lang/Object") }, accessFlags := 9, code := some k11c1 }
/-- java/util/Objects -/
def k11 : Class := { plain "java/util/Objects" (some 0) with
  accessFlags := 49
  interfaces := #[]
  cf := some (fileOf pool11 42 #[] #[{ accessFlags := 2, nameIndex := 5, descriptorIndex := 6, attributes := #[] }, { accessFlags := 9, nameIndex := 45, descriptorIndex := 94, attributes := #[] }] 49 2 #[] #[])
  fields := #[]
  methods := #[k11m0, k11m1]
  instanceTypes := #[]
  staticTypes := #[]
  resolved := Array.replicate 184 none
  statics := none }

def pool12 : Array CpInfo := pool [(1, .class_ 2), (0, u "java/lang/String"), (1, .class_ 6), (1, u "java/lang/Object"), (0, u "<init>"), (0, u "()V"), (0, .methodref 1 10), (0, .nameAndType 11 12), (0, u "checkIndex"), (0, u "(II)V"), (1, .class_ 16), (1, u "java/lang/StringLatin1"), (36, u "([BI)C"), (67, u "$assertionsDisabled"), (0, u "Z"), (98, .class_ 223), (1, u "java/lang/StringLatin1$LinesSpliterator"), (28, u "charAt"), (137, .class_ 391), (0, u "java/lang/StringLatin1$CharsSpliterator")] 3

def k12m0 : Method := { name := "<init>", desc := "()V", sig := { parameters := [], returnType := none }, accessFlags := 0, code := none }
def k12c1 : Code := { maxStack := 2, maxLocals := 2, code := jdk_43_method_2_code, exceptionTable := #[], attributes := #[] }
def k12m1 : Method := { name := "charAt", desc := "([BI)C", sig := { parameters := [(.array .byte), .int], returnType := some .char }, accessFlags := 9, code := some k12c1 }
/-- java/lang/StringLatin1 -/
def k12 : Class := { plain "java/lang/StringLatin1" (some 0) with
  accessFlags := 48
  interfaces := #[]
  cf := some (fileOf pool12 14 #[.nestMembers #[390, 221]] #[{ accessFlags := 0, nameIndex := 7, descriptorIndex := 8, attributes := #[] }, { accessFlags := 9, nameIndex := 252, descriptorIndex := 53, attributes := #[] }] 48 4 #[] #[{ accessFlags := 4120, nameIndex := 121, descriptorIndex := 122, attributes := #[] }])
  fields := #[{ name := "$assertionsDisabled", type := .boolean, accessFlags := 4120, slot := 0, constantValue := 0 }]
  methods := #[k12m0, k12m1]
  instanceTypes := #[]
  staticTypes := #[.boolean]
  resolved := Array.replicate 395 none
  statics := none }

def pool13 : Array CpInfo := pool [(2, .class_ 4), (1, u "java/lang/Object"), (0, u "<init>"), (0, u "()V"), (17, .class_ 26), (1, u "jdk/internal/util/Preconditions"), (6, u "checkIndex"), (21, .class_ 56), (0, u "jdk/internal/util/Preconditions$4"), (57, .class_ 115), (0, u "jdk/internal/util/Preconditions$1"), (7, u "SIOOBE_FORMATTER"), (0, u "Ljava/util/function/BiFunction;"), (0, .class_ 126), (0, u "jdk/internal/util/Preconditions$2"), (3, u "AIOOBE_FORMATTER"), (0, .class_ 132), (0, u "jdk/internal/util/Preconditions$3"), (3, u "IOOBE_FORMATTER"), (41, u "(IILjava/util/function/BiFunction;)I")] 15

def k13m0 : Method := { name := "<init>", desc := "()V", sig := { parameters := [], returnType := none }, accessFlags := 1, code := none }
def k13c1 : Code := { maxStack := 3, maxLocals := 3, code := jdk_41_method_11_code, exceptionTable := #[], attributes := #[] }
def k13m1 : Method := { name := "checkIndex", desc := "(IILjava/util/function/BiFunction;)I", sig := { parameters := [.int, .int, (.object "java/util/function/BiFunction")], returnType := some .int }, accessFlags := 9, code := some k13c1 }
/-- jdk/internal/util/Preconditions -/
def k13 : Class := { plain "jdk/internal/util/Preconditions" (some 0) with
  accessFlags := 33
  interfaces := #[]
  cf := some (fileOf pool13 24 #[.nestMembers #[55, 131, 125, 114]] #[{ accessFlags := 1, nameIndex := 5, descriptorIndex := 6, attributes := #[] }, { accessFlags := 9, nameIndex := 33, descriptorIndex := 178, attributes := #[] }] 33 2 #[] #[{ accessFlags := 25, nameIndex := 123, descriptorIndex := 124, attributes := #[] }, { accessFlags := 25, nameIndex := 130, descriptorIndex := 124, attributes := #[] }, { accessFlags := 25, nameIndex := 136, descriptorIndex := 124, attributes := #[] }])
  fields := #[{ name := "SIOOBE_FORMATTER", type := (.object "java/util/function/BiFunction"), accessFlags := 25, slot := 0, constantValue := 0 }, { name := "AIOOBE_FORMATTER", type := (.object "java/util/function/BiFunction"), accessFlags := 25, slot := 1, constantValue := 0 }, { name := "IOOBE_FORMATTER", type := (.object "java/util/function/BiFunction"), accessFlags := 25, slot := 2, constantValue := 0 }]
  methods := #[k13m0, k13m1]
  instanceTypes := #[]
  staticTypes := #[(.object "java/util/function/BiFunction"), (.object "java/util/function/BiFunction"), (.object "java/util/function/BiFunction")]
  resolved := Array.replicate 194 none
  statics := some 2 }

def pool14 : Array CpInfo := pool [(1, .class_ 2), (0, u "java/lang/Character"), (18, u "value"), (0, u "C"), (19, .class_ 44), (1, u "java/lang/Object"), (3, .class_ 50), (1, u "java/lang/Character$CharacterCache"), (22, .integer 65536), (1, .integer 55296), (0, .integer 56320), (0, .integer 57344), (2, u "isHighSurrogate"), (0, u "(C)Z"), (2, u "isLowSurrogate"), (0, .integer 4238353408), (12, u "toCodePoint"), (0, u "(CC)I"), (74, u "(I)I"), (109, u "$assertionsDisabled"), (0, u "Z"), (21, .class_ 309), (1, u "java/lang/Character$UnicodeBlock"), (73, u "TYPE"), (0, u "Ljava/lang/Class;"), (0, .class_ 386), (0, u "java/io/Serializable"), (0, .class_ 388), (0, u "java/lang/Comparable"), (0, .class_ 390), (0, u "java/lang/constant/Constable"), (0, u "MIN_RADIX"), (0, u "I"), (2, u "MAX_RADIX"), (1, u "MIN_VALUE"), (1, u "MAX_VALUE"), (3, u "UNASSIGNED"), (0, u "B"), (0, u "UPPERCASE_LETTER"), (1, u "LOWERCASE_LETTER"), (0, u "TITLECASE_LETTER"), (1, u "MODIFIER_LETTER"), (1, u "OTHER_LETTER"), (1, u "NON_SPACING_MARK"), (1, u "ENCLOSING_MARK"), (1, u "COMBINING_SPACING_MARK"), (1, u "DECIMAL_DIGIT_NUMBER"), (1, u "LETTER_NUMBER"), (1, u "OTHER_NUMBER"), (1, u "SPACE_SEPARATOR"), (1, u "LINE_SEPARATOR"), (1, u "PARAGRAPH_SEPARATOR"), (1, u "CONTROL"), (1, u "FORMAT"), (1, u "PRIVATE_USE"), (1, u "SURROGATE"), (1, u "DASH_PUNCTUATION"), (1, u "START_PUNCTUATION"), (1, u "END_PUNCTUATION"), (1, u "CONNECTOR_PUNCTUATION"), (1, u "OTHER_PUNCTUATION"), (1, u "MATH_SYMBOL"), (1, u "CURRENCY_SYMBOL"), (1, u "MODIFIER_SYMBOL"), (1, u "OTHER_SYMBOL"), (1, u "INITIAL_QUOTE_PUNCTUATION"), (1, u "FINAL_QUOTE_PUNCTUATION"), (1, u "ERROR"), (1, u "DIRECTIONALITY_UNDEFINED"), (0, u "DIRECTIONALITY_LEFT_TO_RIGHT"), (0, u "DIRECTIONALITY_RIGHT_TO_LEFT"), (0, u "DIRECTIONALITY_RIGHT_TO_LEFT_ARABIC"), (0, u "DIRECTIONALITY_EUROPEAN_NUMBER"), (0, u "DIRECTIONALITY_EUROPEAN_NUMBER_SEPARATOR"), (0, u "DIRECTIONALITY_EUROPEAN_NUMBER_TERMINATOR"), (0, u "DIRECTIONALITY_ARABIC_NUMBER"), (0, u "DIRECTIONALITY_COMMON_NUMBER_SEPARATOR"), (0, u "DIRECTIONALITY_NONSPACING_MARK"), (0, u "DIRECTIONALITY_BOUNDARY_NEUTRAL"), (0, u "DIRECTIONALITY_PARAGRAPH_SEPARATOR"), (0, u "DIRECTIONALITY_SEGMENT_SEPARATOR"), (0, u "DIRECTIONALITY_WHITESPACE"), (0, u "DIRECTIONALITY_OTHER_NEUTRALS"), (0, u "DIRECTIONALITY_LEFT_TO_RIGHT_EMBEDDING"), (0, u "DIRECTIONALITY_LEFT_TO_RIGHT_OVERRIDE"), (0, u "DIRECTIONALITY_RIGHT_TO_LEFT_EMBEDDING"), (0, u "DIRECTIONALITY_RIGHT_TO_LEFT_OVERRIDE"), (1, u "DIRECTIONALITY_POP_DIRECTIONAL_FORMAT"), (0, u "DIRECTIONALITY_LEFT_TO_RIGHT_ISOLATE"), (0, u "DIRECTIONALITY_RIGHT_TO_LEFT_ISOLATE"), (0, u "DIRECTIONALITY_FIRST_STRONG_ISOLATE"), (0, u "DIRECTIONALITY_POP_DIRECTIONAL_ISOLATE"), (0, u "MIN_HIGH_SURROGATE"), (0, u "MAX_HIGH_SURROGATE"), (1, u "MIN_LOW_SURROGATE"), (0, u "MAX_LOW_SURROGATE"), (1, u "MIN_SURROGATE"), (0, u "MAX_SURROGATE"), (0, u "MIN_SUPPLEMENTARY_CODE_POINT"), (0, u "MIN_CODE_POINT"), (0, u "MAX_CODE_POINT"), (1, u "serialVersionUID"), (0, u "J"), (2, u "SIZE"), (0, u "BYTES"), (29, u "charCount"), (58, .class_ 596), (0, u "java/lang/Character$UnicodeScript"), (0, .class_ 598), (0, u "java/lang/Character$Subset")] 5

def k14c0 : Code := { maxStack := 2, maxLocals := 1, code := jdk_89_method_14_code, exceptionTable := #[], attributes := #[] }
def k14m0 : Method := { name := "isHighSurrogate", desc := "(C)Z", sig := { parameters := [.char], returnType := some .boolean }, accessFlags := 9, code := some k14c0 }
def k14c1 : Code := { maxStack := 2, maxLocals := 1, code := jdk_89_method_15_code, exceptionTable := #[], attributes := #[] }
def k14m1 : Method := { name := "isLowSurrogate", desc := "(C)Z", sig := { parameters := [.char], returnType := some .boolean }, accessFlags := 9, code := some k14c1 }
def k14c2 : Code := { maxStack := 2, maxLocals := 1, code := jdk_89_method_18_code, exceptionTable := #[], attributes := #[] }
def k14m2 : Method := { name := "charCount", desc := "(I)I", sig := { parameters := [.int], returnType := some .int }, accessFlags := 9, code := some k14c2 }
def k14c3 : Code := { maxStack := 2, maxLocals := 2, code := jdk_89_method_19_code, exceptionTable := #[], attributes := #[] }
def k14m3 : Method := { name := "toCodePoint", desc := "(CC)I", sig := { parameters := [.char, .char], returnType := some .int }, accessFlags := 9, code := some k14c3 }
/-- java/lang/Character -/
def k14 : Class := { plain "java/lang/Character" (some 0) with
  accessFlags := 49
  interfaces := #[5, 3, 7]
  cf := some (fileOf pool14 1 #[.nestMembers #[48, 595, 307, 597]] #[{ accessFlags := 9, nameIndex := 80, descriptorIndex := 81, attributes := #[] }, { accessFlags := 9, nameIndex := 84, descriptorIndex := 81, attributes := #[] }, { accessFlags := 9, nameIndex := 536, descriptorIndex := 174, attributes := #[] }, { accessFlags := 9, nameIndex := 98, descriptorIndex := 99, attributes := #[] }] 49 42 #[385, 387, 389] #[{ accessFlags := 25, nameIndex := 391, descriptorIndex := 392, attributes := #[] }, { accessFlags := 25, nameIndex := 395, descriptorIndex := 392, attributes := #[] }, { accessFlags := 25, nameIndex := 397, descriptorIndex := 22, attributes := #[] }, { accessFlags := 25, nameIndex := 399, descriptorIndex := 22, attributes := #[] }, { accessFlags := 25, nameIndex := 383, descriptorIndex := 384, attributes := #[] }, { accessFlags := 25, nameIndex := 403, descriptorIndex := 404, attributes := #[] }, { accessFlags := 25, nameIndex := 405, descriptorIndex := 404, attributes := #[] }, { accessFlags := 25, nameIndex := 407, descriptorIndex := 404, attributes := #[] }, { accessFlags := 25, nameIndex := 408, descriptorIndex := 404, attributes := #[] }, { accessFlags := 25, nameIndex := 410, descriptorIndex := 404, attributes := #[] }, { accessFlags := 25, nameIndex := 412, descriptorIndex := 404, attributes := #[] }, { accessFlags := 25, nameIndex := 414, descriptorIndex := 404, attributes := #[] }, { accessFlags := 25, nameIndex := 416, descriptorIndex := 404, attributes := #[] }, { accessFlags := 25, nameIndex := 418, descriptorIndex := 404, attributes := #[] }, { accessFlags := 25, nameIndex := 420, descriptorIndex := 404, attributes := #[] }, { accessFlags := 25, nameIndex := 422, descriptorIndex := 404, attributes := #[] }, { accessFlags := 25, nameIndex := 424, descriptorIndex := 404, attributes := #[] }, { accessFlags := 25, nameIndex := 426, descriptorIndex := 404, attributes := #[] }, { accessFlags := 25, nameIndex := 428, descriptorIndex := 404, attributes := #[] }, { accessFlags := 25, nameIndex := 430, descriptorIndex := 404, attributes := #[] }, { accessFlags := 25, nameIndex := 432, descriptorIndex := 404, attributes := #[] }, { accessFlags := 25, nameIndex := 434, descriptorIndex := 404, attributes := #[] }, { accessFlags := 25, nameIndex := 436, descriptorIndex := 404, attributes := #[] }, { accessFlags := 25, nameIndex := 438, descriptorIndex := 404, attributes := #[] }, { accessFlags := 25, nameIndex := 440, descriptorIndex := 404, attributes := #[] }, { accessFlags := 25, nameIndex := 442, descriptorIndex := 404, attributes := #[] }, { accessFlags := 25, nameIndex := 444, descriptorIndex := 404, attributes := #[] }, { accessFlags := 25, nameIndex := 446, descriptorIndex := 404, attributes := #[] }, { accessFlags := 25, nameIndex := 448, descriptorIndex := 404, attributes := #[] }, { accessFlags := 25, nameIndex := 450, descriptorIndex := 404, attributes := #[] }, { accessFlags := 25, nameIndex := 452, descriptorIndex := 404, attributes := #[] }, { accessFlags := 25, nameIndex := 454, descriptorIndex := 404, attributes := #[] }, { accessFlags := 25, nameIndex := 456, descriptorIndex := 404, attributes := #[] }, { accessFlags := 25, nameIndex := 458, descriptorIndex := 404, attributes := #[] }, { accessFlags := 25, nameIndex := 460, descriptorIndex := 404, attributes := #[] }, { accessFlags := 24, nameIndex := 462, descriptorIndex := 392, attributes := #[] }, { accessFlags := 25, nameIndex := 464, descriptorIndex := 404, attributes := #[] }, { accessFlags := 25, nameIndex := 465, descriptorIndex := 404, attributes := #[] }, { accessFlags := 25, nameIndex := 466, descriptorIndex := 404, attributes := #[] }, { accessFlags := 25, nameIndex := 467, descriptorIndex := 404, attributes := #[] }, { accessFlags := 25, nameIndex := 468, descriptorIndex := 404, attributes := #[] }, { accessFlags := 25, nameIndex := 469, descriptorIndex := 404, attributes := #[] }, { accessFlags := 25, nameIndex := 470, descriptorIndex := 404, attributes := #[] }, { accessFlags := 25, nameIndex := 471, descriptorIndex := 404, attributes := #[] }, { accessFlags := 25, nameIndex := 472, descriptorIndex := 404, attributes := #[] }, { accessFlags := 25, nameIndex := 473, descriptorIndex := 404, attributes := #[] }, { accessFlags := 25, nameIndex := 474, descriptorIndex := 404, attributes := #[] }, { accessFlags := 25, nameIndex := 475, descriptorIndex := 404, attributes := #[] }, { accessFlags := 25, nameIndex := 476, descriptorIndex := 404, attributes := #[] }, { accessFlags := 25, nameIndex := 477, descriptorIndex := 404, attributes := #[] }, { accessFlags := 25, nameIndex := 478, descriptorIndex := 404, attributes := #[] }, { accessFlags := 25, nameIndex := 479, descriptorIndex := 404, attributes := #[] }, { accessFlags := 25, nameIndex := 480, descriptorIndex := 404, attributes := #[] }, { accessFlags := 25, nameIndex := 481, descriptorIndex := 404, attributes := #[] }, { accessFlags := 25, nameIndex := 482, descriptorIndex := 404, attributes := #[] }, { accessFlags := 25, nameIndex := 484, descriptorIndex := 404, attributes := #[] }, { accessFlags := 25, nameIndex := 485, descriptorIndex := 404, attributes := #[] }, { accessFlags := 25, nameIndex := 486, descriptorIndex := 404, attributes := #[] }, { accessFlags := 25, nameIndex := 487, descriptorIndex := 404, attributes := #[] }, { accessFlags := 25, nameIndex := 488, descriptorIndex := 404, attributes := #[] }, { accessFlags := 25, nameIndex := 489, descriptorIndex := 22, attributes := #[] }, { accessFlags := 25, nameIndex := 490, descriptorIndex := 22, attributes := #[] }, { accessFlags := 25, nameIndex := 492, descriptorIndex := 22, attributes := #[] }, { accessFlags := 25, nameIndex := 493, descriptorIndex := 22, attributes := #[] }, { accessFlags := 25, nameIndex := 495, descriptorIndex := 22, attributes := #[] }, { accessFlags := 25, nameIndex := 496, descriptorIndex := 22, attributes := #[] }, { accessFlags := 25, nameIndex := 497, descriptorIndex := 392, attributes := #[] }, { accessFlags := 25, nameIndex := 498, descriptorIndex := 392, attributes := #[] }, { accessFlags := 25, nameIndex := 499, descriptorIndex := 392, attributes := #[] }, { accessFlags := 18, nameIndex := 21, descriptorIndex := 22, attributes := #[] }, { accessFlags := 26, nameIndex := 501, descriptorIndex := 502, attributes := #[] }, { accessFlags := 25, nameIndex := 505, descriptorIndex := 392, attributes := #[] }, { accessFlags := 25, nameIndex := 506, descriptorIndex := 392, attributes := #[] }, { accessFlags := 4120, nameIndex := 284, descriptorIndex := 285, attributes := #[] }])
  fields := #[{ name := "MIN_RADIX", type := .int, accessFlags := 25, slot := 0, constantValue := 0 }, { name := "MAX_RADIX", type := .int, accessFlags := 25, slot := 1, constantValue := 0 }, { name := "MIN_VALUE", type := .char, accessFlags := 25, slot := 2, constantValue := 0 }, { name := "MAX_VALUE", type := .char, accessFlags := 25, slot := 3, constantValue := 0 }, { name := "TYPE", type := (.object "java/lang/Class"), accessFlags := 25, slot := 4, constantValue := 0 }, { name := "UNASSIGNED", type := .byte, accessFlags := 25, slot := 5, constantValue := 0 }, { name := "UPPERCASE_LETTER", type := .byte, accessFlags := 25, slot := 6, constantValue := 0 }, { name := "LOWERCASE_LETTER", type := .byte, accessFlags := 25, slot := 7, constantValue := 0 }, { name := "TITLECASE_LETTER", type := .byte, accessFlags := 25, slot := 8, constantValue := 0 }, { name := "MODIFIER_LETTER", type := .byte, accessFlags := 25, slot := 9, constantValue := 0 }, { name := "OTHER_LETTER", type := .byte, accessFlags := 25, slot := 10, constantValue := 0 }, { name := "NON_SPACING_MARK", type := .byte, accessFlags := 25, slot := 11, constantValue := 0 }, { name := "ENCLOSING_MARK", type := .byte, accessFlags := 25, slot := 12, constantValue := 0 }, { name := "COMBINING_SPACING_MARK", type := .byte, accessFlags := 25, slot := 13, constantValue := 0 }, { name := "DECIMAL_DIGIT_NUMBER", type := .byte, accessFlags := 25, slot := 14, constantValue := 0 }, { name := "LETTER_NUMBER", type := .byte, accessFlags := 25, slot := 15, constantValue := 0 }, { name := "OTHER_NUMBER", type := .byte, accessFlags := 25, slot := 16, constantValue := 0 }, { name := "SPACE_SEPARATOR", type := .byte, accessFlags := 25, slot := 17, constantValue := 0 }, { name := "LINE_SEPARATOR", type := .byte, accessFlags := 25, slot := 18, constantValue := 0 }, { name := "PARAGRAPH_SEPARATOR", type := .byte, accessFlags := 25, slot := 19, constantValue := 0 }, { name := "CONTROL", type := .byte, accessFlags := 25, slot := 20, constantValue := 0 }, { name := "FORMAT", type := .byte, accessFlags := 25, slot := 21, constantValue := 0 }, { name := "PRIVATE_USE", type := .byte, accessFlags := 25, slot := 22, constantValue := 0 }, { name := "SURROGATE", type := .byte, accessFlags := 25, slot := 23, constantValue := 0 }, { name := "DASH_PUNCTUATION", type := .byte, accessFlags := 25, slot := 24, constantValue := 0 }, { name := "START_PUNCTUATION", type := .byte, accessFlags := 25, slot := 25, constantValue := 0 }, { name := "END_PUNCTUATION", type := .byte, accessFlags := 25, slot := 26, constantValue := 0 }, { name := "CONNECTOR_PUNCTUATION", type := .byte, accessFlags := 25, slot := 27, constantValue := 0 }, { name := "OTHER_PUNCTUATION", type := .byte, accessFlags := 25, slot := 28, constantValue := 0 }, { name := "MATH_SYMBOL", type := .byte, accessFlags := 25, slot := 29, constantValue := 0 }, { name := "CURRENCY_SYMBOL", type := .byte, accessFlags := 25, slot := 30, constantValue := 0 }, { name := "MODIFIER_SYMBOL", type := .byte, accessFlags := 25, slot := 31, constantValue := 0 }, { name := "OTHER_SYMBOL", type := .byte, accessFlags := 25, slot := 32, constantValue := 0 }, { name := "INITIAL_QUOTE_PUNCTUATION", type := .byte, accessFlags := 25, slot := 33, constantValue := 0 }, { name := "FINAL_QUOTE_PUNCTUATION", type := .byte, accessFlags := 25, slot := 34, constantValue := 0 }, { name := "ERROR", type := .int, accessFlags := 24, slot := 35, constantValue := 0 }, { name := "DIRECTIONALITY_UNDEFINED", type := .byte, accessFlags := 25, slot := 36, constantValue := 0 }, { name := "DIRECTIONALITY_LEFT_TO_RIGHT", type := .byte, accessFlags := 25, slot := 37, constantValue := 0 }, { name := "DIRECTIONALITY_RIGHT_TO_LEFT", type := .byte, accessFlags := 25, slot := 38, constantValue := 0 }, { name := "DIRECTIONALITY_RIGHT_TO_LEFT_ARABIC", type := .byte, accessFlags := 25, slot := 39, constantValue := 0 }, { name := "DIRECTIONALITY_EUROPEAN_NUMBER", type := .byte, accessFlags := 25, slot := 40, constantValue := 0 }, { name := "DIRECTIONALITY_EUROPEAN_NUMBER_SEPARATOR", type := .byte, accessFlags := 25, slot := 41, constantValue := 0 }, { name := "DIRECTIONALITY_EUROPEAN_NUMBER_TERMINATOR", type := .byte, accessFlags := 25, slot := 42, constantValue := 0 }, { name := "DIRECTIONALITY_ARABIC_NUMBER", type := .byte, accessFlags := 25, slot := 43, constantValue := 0 }, { name := "DIRECTIONALITY_COMMON_NUMBER_SEPARATOR", type := .byte, accessFlags := 25, slot := 44, constantValue := 0 }, { name := "DIRECTIONALITY_NONSPACING_MARK", type := .byte, accessFlags := 25, slot := 45, constantValue := 0 }, { name := "DIRECTIONALITY_BOUNDARY_NEUTRAL", type := .byte, accessFlags := 25, slot := 46, constantValue := 0 }, { name := "DIRECTIONALITY_PARAGRAPH_SEPARATOR", type := .byte, accessFlags := 25, slot := 47, constantValue := 0 }, { name := "DIRECTIONALITY_SEGMENT_SEPARATOR", type := .byte, accessFlags := 25, slot := 48, constantValue := 0 }, { name := "DIRECTIONALITY_WHITESPACE", type := .byte, accessFlags := 25, slot := 49, constantValue := 0 }, { name := "DIRECTIONALITY_OTHER_NEUTRALS", type := .byte, accessFlags := 25, slot := 50, constantValue := 0 }, { name := "DIRECTIONALITY_LEFT_TO_RIGHT_EMBEDDING", type := .byte, accessFlags := 25, slot := 51, constantValue := 0 }, { name := "DIRECTIONALITY_LEFT_TO_RIGHT_OVERRIDE", type := .byte, accessFlags := 25, slot := 52, constantValue := 0 }, { name := "DIRECTIONALITY_RIGHT_TO_LEFT_EMBEDDING", type := .byte, accessFlags := 25, slot := 53, constantValue := 0 }, { name := "DIRECTIONALITY_RIGHT_TO_LEFT_OVERRIDE", type := .byte, accessFlags := 25, slot := 54, constantValue := 0 }, { name := "DIRECTIONALITY_POP_DIRECTIONAL_FORMAT", type := .byte, accessFlags := 25, slot := 55, constantValue := 0 }, { name := "DIRECTIONALITY_LEFT_TO_RIGHT_ISOLATE", type := .byte, accessFlags := 25, slot := 56, constantValue := 0 }, { name := "DIRECTIONALITY_RIGHT_TO_LEFT_ISOLATE", type := .byte, accessFlags := 25, slot := 57, constantValue := 0 }, { name := "DIRECTIONALITY_FIRST_STRONG_ISOLATE", type := .byte, accessFlags := 25, slot := 58, constantValue := 0 }, { name := "DIRECTIONALITY_POP_DIRECTIONAL_ISOLATE", type := .byte, accessFlags := 25, slot := 59, constantValue := 0 }, { name := "MIN_HIGH_SURROGATE", type := .char, accessFlags := 25, slot := 60, constantValue := 0 }, { name := "MAX_HIGH_SURROGATE", type := .char, accessFlags := 25, slot := 61, constantValue := 0 }, { name := "MIN_LOW_SURROGATE", type := .char, accessFlags := 25, slot := 62, constantValue := 0 }, { name := "MAX_LOW_SURROGATE", type := .char, accessFlags := 25, slot := 63, constantValue := 0 }, { name := "MIN_SURROGATE", type := .char, accessFlags := 25, slot := 64, constantValue := 0 }, { name := "MAX_SURROGATE", type := .char, accessFlags := 25, slot := 65, constantValue := 0 }, { name := "MIN_SUPPLEMENTARY_CODE_POINT", type := .int, accessFlags := 25, slot := 66, constantValue := 0 }, { name := "MIN_CODE_POINT", type := .int, accessFlags := 25, slot := 67, constantValue := 0 }, { name := "MAX_CODE_POINT", type := .int, accessFlags := 25, slot := 68, constantValue := 0 }, { name := "value", type := .char, accessFlags := 18, slot := 0, constantValue := 0 }, { name := "serialVersionUID", type := .long, accessFlags := 26, slot := 69, constantValue := 0 }, { name := "SIZE", type := .int, accessFlags := 25, slot := 70, constantValue := 0 }, { name := "BYTES", type := .int, accessFlags := 25, slot := 71, constantValue := 0 }, { name := "$assertionsDisabled", type := .boolean, accessFlags := 4120, slot := 72, constantValue := 0 }]
  methods := #[k14m0, k14m1, k14m2, k14m3]
  instanceTypes := #[.char]
  staticTypes := #[.int, .int, .char, .char, (.object "java/lang/Class"), .byte, .byte, .byte, .byte, .byte, .byte, .byte, .byte, .byte, .byte, .byte, .byte, .byte, .byte, .byte, .byte, .byte, .byte, .byte, .byte, .byte, .byte, .byte, .byte, .byte, .byte, .byte, .byte, .byte, .byte, .int, .byte, .byte, .byte, .byte, .byte, .byte, .byte, .byte, .byte, .byte, .byte, .byte, .byte, .byte, .byte, .byte, .byte, .byte, .byte, .byte, .byte, .byte, .byte, .byte, .char, .char, .char, .char, .char, .char, .int, .int, .int, .long, .int, .int, .boolean]
  resolved := Array.replicate 604 none
  statics := none }

def pool15 : Array CpInfo := pool [(2, .class_ 4), (1, u "java/lang/Object"), (0, u "<init>"), (0, u "()V"), (1, .class_ 10), (1, u "java/lang/Number"), (2, .class_ 14), (0, u "java/io/Serializable"), (0, u "serialVersionUID"), (0, u "J")] 20

def k15m0 : Method := { name := "<init>", desc := "()V", sig := { parameters := [], returnType := none }, accessFlags := 1, code := none }
/-- java/lang/Number -/
def k15 : Class := { plain "java/lang/Number" (some 0) with
  accessFlags := 1057
  interfaces := #[5]
  cf := some (fileOf pool15 8 #[] #[{ accessFlags := 1, nameIndex := 5, descriptorIndex := 6, attributes := #[] }] 1057 2 #[13] #[{ accessFlags := 26, nameIndex := 15, descriptorIndex := 16, attributes := #[] }])
  fields := #[{ name := "serialVersionUID", type := .long, accessFlags := 26, slot := 0, constantValue := 0 }]
  methods := #[k15m0]
  instanceTypes := #[]
  staticTypes := #[.long]
  resolved := Array.replicate 37 none
  statics := none }

def pool16 : Array CpInfo := pool [(1, .class_ 2), (0, u "java/lang/Integer"), (16, u "digits"), (0, u "[C"), (39, u "(II)I"), (24, u "DigitOnes"), (0, u "[B"), (2, u "DigitTens"), (99, .class_ 190), (0, u "java/lang/Integer$IntegerCache"), (3, u "I"), (8, .class_ 204), (0, u "java/lang/Number"), (2, u "value"), (53, u "compare"), (40, u "TYPE"), (0, u "Ljava/lang/Class;"), (0, .class_ 305), (0, u "java/lang/Comparable"), (0, .class_ 307), (0, u "java/lang/constant/Constable"), (0, .class_ 309), (0, u "java/lang/constant/ConstantDesc"), (0, u "MIN_VALUE"), (1, u "MAX_VALUE"), (3, u "SIZE"), (1, u "BYTES"), (1, u "serialVersionUID"), (0, u "J")] 131

def k16c0 : Code := { maxStack := 2, maxLocals := 2, code := jdk_33_method_40_code, exceptionTable := #[], attributes := #[] }
def k16m0 : Method := { name := "compare", desc := "(II)I", sig := { parameters := [.int, .int], returnType := some .int }, accessFlags := 9, code := some k16c0 }
/-- java/lang/Integer -/
def k16 : Class := { plain "java/lang/Integer" (some 15) with
  accessFlags := 49
  interfaces := #[3, 7, 8]
  cf := some (fileOf pool16 1 #[.nestMembers #[189]] #[{ accessFlags := 9, nameIndex := 261, descriptorIndex := 60, attributes := #[] }] 49 203 #[304, 306, 308] #[{ accessFlags := 25, nameIndex := 310, descriptorIndex := 194, attributes := #[] }, { accessFlags := 25, nameIndex := 312, descriptorIndex := 194, attributes := #[] }, { accessFlags := 25, nameIndex := 302, descriptorIndex := 303, attributes := #[] }, { accessFlags := 24, nameIndex := 19, descriptorIndex := 20, attributes := #[] }, { accessFlags := 24, nameIndex := 89, descriptorIndex := 86, attributes := #[] }, { accessFlags := 24, nameIndex := 85, descriptorIndex := 86, attributes := #[] }, { accessFlags := 18, nameIndex := 207, descriptorIndex := 194, attributes := #[] }, { accessFlags := 25, nameIndex := 316, descriptorIndex := 194, attributes := #[] }, { accessFlags := 25, nameIndex := 318, descriptorIndex := 194, attributes := #[] }, { accessFlags := 26, nameIndex := 320, descriptorIndex := 321, attributes := #[] }])
  fields := #[{ name := "MIN_VALUE", type := .int, accessFlags := 25, slot := 0, constantValue := 0 }, { name := "MAX_VALUE", type := .int, accessFlags := 25, slot := 1, constantValue := 0 }, { name := "TYPE", type := (.object "java/lang/Class"), accessFlags := 25, slot := 2, constantValue := 0 }, { name := "digits", type := (.array .char), accessFlags := 24, slot := 3, constantValue := 0 }, { name := "DigitTens", type := (.array .byte), accessFlags := 24, slot := 4, constantValue := 0 }, { name := "DigitOnes", type := (.array .byte), accessFlags := 24, slot := 5, constantValue := 0 }, { name := "value", type := .int, accessFlags := 18, slot := 0, constantValue := 0 }, { name := "SIZE", type := .int, accessFlags := 25, slot := 6, constantValue := 0 }, { name := "BYTES", type := .int, accessFlags := 25, slot := 7, constantValue := 0 }, { name := "serialVersionUID", type := .long, accessFlags := 26, slot := 8, constantValue := 0 }]
  methods := #[k16m0]
  instanceTypes := #[.int]
  staticTypes := #[.int, .int, (.object "java/lang/Class"), (.array .char), (.array .byte), (.array .byte), .int, .int, .long]
  resolved := Array.replicate 453 none
  statics := none }

def pool17 : Array CpInfo := pool [(9, u "<init>"), (6, .class_ 18), (1, u "java/lang/Object"), (0, u "()V"), (1, .class_ 23), (1, u "jdk/internal/util/ArraysSupport"), (0, u "LOG2_ARRAY_LONG_INDEX_SCALE"), (0, u "I"), (2, u "U"), (0, u "Ljdk/internal/misc/Unsafe;"), (8, u "BIG_ENDIAN"), (0, u "Z"), (8, u "LOG2_BYTE_BIT_SIZE"), (4, u "LOG2_ARRAY_INT_INDEX_SCALE"), (54, u "JLA"), (0, u "Ljdk/internal/access/JavaLangAccess;"), (11, u "LOG2_ARRAY_BOOLEAN_INDEX_SCALE"), (9, u "LOG2_ARRAY_BYTE_INDEX_SCALE"), (5, u "LOG2_ARRAY_CHAR_INDEX_SCALE"), (5, u "LOG2_ARRAY_SHORT_INDEX_SCALE"), (18, u "LOG2_ARRAY_FLOAT_INDEX_SCALE"), (24, u "LOG2_ARRAY_DOUBLE_INDEX_SCALE"), (89, u "T_BOOLEAN"), (2, u "T_CHAR"), (1, u "T_FLOAT"), (1, u "T_DOUBLE"), (1, u "T_BYTE"), (1, u "T_SHORT"), (1, u "T_INT"), (1, u "T_LONG"), (1, u "SOFT_MAX_ARRAY_LENGTH")] 83

def k17m0 : Method := { name := "<init>", desc := "()V", sig := { parameters := [], returnType := none }, accessFlags := 2, code := none }
/-- jdk/internal/util/ArraysSupport -/
def k17 : Class := { plain "jdk/internal/util/ArraysSupport" (some 0) with
  accessFlags := 33
  interfaces := #[]
  cf := some (fileOf pool17 21 #[] #[{ accessFlags := 2, nameIndex := 9, descriptorIndex := 19, attributes := #[] }] 33 16 #[] #[{ accessFlags := 24, nameIndex := 28, descriptorIndex := 29, attributes := #[] }, { accessFlags := 26, nameIndex := 38, descriptorIndex := 39, attributes := #[] }, { accessFlags := 25, nameIndex := 121, descriptorIndex := 25, attributes := #[] }, { accessFlags := 25, nameIndex := 131, descriptorIndex := 25, attributes := #[] }, { accessFlags := 25, nameIndex := 137, descriptorIndex := 25, attributes := #[] }, { accessFlags := 25, nameIndex := 143, descriptorIndex := 25, attributes := #[] }, { accessFlags := 25, nameIndex := 53, descriptorIndex := 25, attributes := #[] }, { accessFlags := 25, nameIndex := 24, descriptorIndex := 25, attributes := #[] }, { accessFlags := 25, nameIndex := 162, descriptorIndex := 25, attributes := #[] }, { accessFlags := 25, nameIndex := 187, descriptorIndex := 25, attributes := #[] }, { accessFlags := 26, nameIndex := 48, descriptorIndex := 25, attributes := #[] }, { accessFlags := 25, nameIndex := 277, descriptorIndex := 25, attributes := #[] }, { accessFlags := 25, nameIndex := 280, descriptorIndex := 25, attributes := #[] }, { accessFlags := 25, nameIndex := 282, descriptorIndex := 25, attributes := #[] }, { accessFlags := 25, nameIndex := 284, descriptorIndex := 25, attributes := #[] }, { accessFlags := 25, nameIndex := 286, descriptorIndex := 25, attributes := #[] }, { accessFlags := 25, nameIndex := 288, descriptorIndex := 25, attributes := #[] }, { accessFlags := 25, nameIndex := 290, descriptorIndex := 25, attributes := #[] }, { accessFlags := 25, nameIndex := 292, descriptorIndex := 25, attributes := #[] }, { accessFlags := 26, nameIndex := 108, descriptorIndex := 109, attributes := #[] }, { accessFlags := 25, nameIndex := 294, descriptorIndex := 25, attributes := #[] }])
  fields := #[{ name := "U", type := (.object "jdk/internal/misc/Unsafe"), accessFlags := 24, slot := 0, constantValue := 0 }, { name := "BIG_ENDIAN", type := .boolean, accessFlags := 26, slot := 1, constantValue := 0 }, { name := "LOG2_ARRAY_BOOLEAN_INDEX_SCALE", type := .int, accessFlags := 25, slot := 2, constantValue := 0 }, { name := "LOG2_ARRAY_BYTE_INDEX_SCALE", type := .int, accessFlags := 25, slot := 3, constantValue := 0 }, { name := "LOG2_ARRAY_CHAR_INDEX_SCALE", type := .int, accessFlags := 25, slot := 4, constantValue := 0 }, { name := "LOG2_ARRAY_SHORT_INDEX_SCALE", type := .int, accessFlags := 25, slot := 5, constantValue := 0 }, { name := "LOG2_ARRAY_INT_INDEX_SCALE", type := .int, accessFlags := 25, slot := 6, constantValue := 0 }, { name := "LOG2_ARRAY_LONG_INDEX_SCALE", type := .int, accessFlags := 25, slot := 7, constantValue := 0 }, { name := "LOG2_ARRAY_FLOAT_INDEX_SCALE", type := .int, accessFlags := 25, slot := 8, constantValue := 0 }, { name := "LOG2_ARRAY_DOUBLE_INDEX_SCALE", type := .int, accessFlags := 25, slot := 9, constantValue := 0 }, { name := "LOG2_BYTE_BIT_SIZE", type := .int, accessFlags := 26, slot := 10, constantValue := 0 }, { name := "T_BOOLEAN", type := .int, accessFlags := 25, slot := 11, constantValue := 0 }, { name := "T_CHAR", type := .int, accessFlags := 25, slot := 12, constantValue := 0 }, { name := "T_FLOAT", type := .int, accessFlags := 25, slot := 13, constantValue := 0 }, { name := "T_DOUBLE", type := .int, accessFlags := 25, slot := 14, constantValue := 0 }, { name := "T_BYTE", type := .int, accessFlags := 25, slot := 15, constantValue := 0 }, { name := "T_SHORT", type := .int, accessFlags := 25, slot := 16, constantValue := 0 }, { name := "T_INT", type := .int, accessFlags := 25, slot := 17, constantValue := 0 }, { name := "T_LONG", type := .int, accessFlags := 25, slot := 18, constantValue := 0 }, { name := "JLA", type := (.object "jdk/internal/access/JavaLangAccess"), accessFlags := 26, slot := 19, constantValue := 0 }, { name := "SOFT_MAX_ARRAY_LENGTH", type := .int, accessFlags := 25, slot := 20, constantValue := 0 }]
  methods := #[k17m0]
  instanceTypes := #[]
  staticTypes := #[(.object "jdk/internal/misc/Unsafe"), .boolean, .int, .int, .int, .int, .int, .int, .int, .int, .int, .int, .int, .int, .int, .int, .int, .int, .int, (.object "jdk/internal/access/JavaLangAccess"), .int]
  resolved := Array.replicate 378 none
  statics := none }

def pool18 : Array CpInfo := pool [(1, u "java/lang/Cloneable"), (0, .class_ 1), (0, u "java/lang/Object"), (0, .class_ 3)] 3

/-- java/lang/Cloneable -/
def k18 : Class := { plain "java/lang/Cloneable" (some 0) with
  accessFlags := 1537
  interfaces := #[]
  cf := some (fileOf pool18 2 #[] #[] 1537 4 #[] #[])
  fields := #[]
  methods := #[]
  instanceTypes := #[]
  staticTypes := #[]
  resolved := Array.replicate 8 none
  statics := none }

/-- the primitive byte -/
def k19 : Class := { plain "byte" none with kind := .primitive 'B', accessFlags := 0x411 }
/-- [B -/
def k20 : Class := { plain "[B" (some 0) with kind := .array 19 .byte, interfaces := #[18, 5], accessFlags := 1041 }

/-- the primitive char -/
def k21 : Class := { plain "char" none with kind := .primitive 'C', accessFlags := 0x411 }
/-- [C -/
def k22 : Class := { plain "[C" (some 0) with kind := .array 21 .char, interfaces := #[18, 5], accessFlags := 1041 }

/-- the primitive int -/
def k23 : Class := { plain "int" none with kind := .primitive 'I', accessFlags := 0x411 }
/-- [I -/
def k24 : Class := { plain "[I" (some 0) with kind := .array 23 .int, interfaces := #[18, 5], accessFlags := 1041 }

def heap : Heap := #[{ cls := 9, slots := #[.long 0, .int 1, .null, .int 0, .null, .int 0, .int 0], vm := .statics 9 },
  { cls := 10, slots := #[.int 0, .int 8, .int 0, .int 1], vm := .statics 10 },
  { cls := 13, slots := #[.null, .null, .null], vm := .statics 13 }]
def classes : Array Class := #[k0, k1, k2, k3, k4, k5, k6, k7, k8, k9, k10, k11, k12, k13, k14, k15, k16, k17, k18, k19, k20, k21, k22, k23, k24]
def interned : List (Array UInt16 × Addr) := []
def slotsUsed : Nat := 14
def theMethod : MethodId := ⟨1, 9⟩
def args0 : Array Value := #[.int 5, .int 7, .long 9, .long 1, .int 2]
def aboutOver (below : List Frame) : State where
  vm := { classes := classes, interned := interned.toArray }
  heap := heap
  slotsUsed := slotsUsed
  threads := #[{ frames := .invoking theMethod args0 :: below }]
def below0 : List Frame := [.native { method := ⟨0, 0⟩, args := #[] }]
def about1 : State := aboutOver below0
def p0 : Program := .bare "" "" ""
def e0 : Env := launch0.env 0 0 0
theorem w_frames : about1.frames = Frame.invoking theMethod args0 :: below0 := rfl
set_option maxRecDepth 65536 in
theorem w_args : argsFit about1.vm theMethod args0 = true := by decide +kernel
set_option maxRecDepth 65536 in
theorem w_heap : heapFits about1 = true := by decide +kernel
set_option maxRecDepth 65536 in
theorem w_runnable : about1.curStatus? = some .runnable := by decide +kernel
set_option maxRecDepth 65536 in
theorem w_alone : about1.alone = true := by decide +kernel
set_option maxRecDepth 65536 in
theorem w_named : about1.methodNamed? x = some theMethod := by decide +kernel
set_option maxRecDepth 65536 in
theorem w_hears : about1.hears theMethod below0 = true := by decide +kernel
set_option maxRecDepth 65536 in
theorem w_ripe : about1.ripe theMethod args0 below0 = true := by decide +kernel
theorem w_running : about1.status = .running := rfl
set_option maxRecDepth 65536 in
theorem w_room : about1.hasRoom e0.platform room_1 = true :=
  launch0.hasRoom_least _ room_1 (by decide +kernel) (by decide +kernel) (by decide +kernel) (by decide +kernel) (by decide +kernel) (by decide +kernel)
theorem allAtoms_all (ts : List Jvm.Cond) (a : Array Jvm.Value) (st : Jvm.State) : (allAtoms ts).before a st = ts.all (fun c => c.before a st) := by
  induction ts with
  | nil => rfl
  | cons c t ih =>
    show (Jvm.Cond.and c (allAtoms t)).before a st = _
    rw [Jvm.Cond.before_and, ih, List.all_cons]
def words1 : List Jvm.Cond := Jvm.Cond.code x code maxLocals ret :: tables_1
/-- a 'code' word, met by the world's own term for the bytes: nothing is compared byte by byte -/
theorem code_word {y : MethodName} {bytes : ByteArray} {mx : Nat} {rt : Option FieldType} {a : Array Value} {s : State} {m : MethodId} {meth : Method} {c : Code} (h1 : s.methodNamed? y = some m) (h2 : s.vm.method? m = some meth) (h3 : meth.code = some c) (h4 : c.code = bytes)
    (h5 : (c.maxLocals == mx && c.exceptionTable.isEmpty && decide (c.maxStack ≤ mostOperands) && decide (meth.sig.returnType = rt) && !meth.locks && decide (parseMethodDescriptor y.desc = some meth.sig)) = true) : (Jvm.Cond.code y bytes mx rt).before a s = true := by
  simp only [Bool.and_eq_true, beq_iff_eq, Bool.not_eq_true', decide_eq_true_eq] at h5
  obtain ⟨⟨⟨⟨⟨g1, g2⟩, g3⟩, g4⟩, g5⟩, g6⟩ := h5
  simp [Cond.before, Cond.holds, Cond.value, h1, h2, h3, h4, g1, g2, g3, g4, g5, g6]
def isCode : Jvm.Cond → Bool
  | .code _ _ _ _ => true
  | _ => false
theorem all_split {L : List Jvm.Cond} {P : Jvm.Cond → Bool} (h1 : L.all (fun c => isCode c || P c) = true) (h2 : ∀ c ∈ L.filter isCode, P c = true) : L.all P = true := by
  refine List.all_eq_true.mpr fun c hc => ?_
  have h := List.all_eq_true.mp h1 c hc
  rcases Bool.eq_false_or_eq_true (isCode c) with hi | hi
  · exact h2 c (List.mem_filter.mpr ⟨hc, hi⟩)
  · simpa [hi] using h
set_option maxRecDepth 65536 in
theorem w_c0 : (Jvm.Cond.code x code maxLocals ret).before args0 about1 = true := code_word (m := ⟨1, 9⟩) (meth := k1m9) (c := k1c9) (by decide +kernel) rfl rfl rfl (by decide +kernel)
set_option maxRecDepth 65536 in
theorem w_c1 : (Jvm.Cond.code ({ cls := "com/example/even_counter/evencounter/CounterIdCompareToPinLaw", name := "nameChar", desc := "(I)C" } : Jvm.MethodName) method_2_code (2 : Nat) (Option.some Jvm.ClassFile.FieldType.char)).before args0 about1 = true := code_word (m := ⟨1, 1⟩) (meth := k1m1) (c := k1c1) (by decide +kernel) rfl rfl rfl (by decide +kernel)
set_option maxRecDepth 65536 in
theorem w_c2 : (Jvm.Cond.code ({ cls := "com/example/even_counter/evencounter/CounterIdCompareToPinLaw", name := "keyCp", desc := "(I)I" } : Jvm.MethodName) method_3_code (4 : Nat) (Option.some Jvm.ClassFile.FieldType.int)).before args0 about1 = true := code_word (m := ⟨1, 2⟩) (meth := k1m2) (c := k1c2) (by decide +kernel) rfl rfl rfl (by decide +kernel)
set_option maxRecDepth 65536 in
theorem w_c3 : (Jvm.Cond.code ({ cls := "com/example/even_counter/evencounter/CounterIdCompareToPinLaw", name := "nameString", desc := "(ICC)Ljava/lang/String;" } : Jvm.MethodName) method_6_code (3 : Nat) (Option.some (Jvm.ClassFile.FieldType.object "java/lang/String"))).before args0 about1 = true := code_word (m := ⟨1, 5⟩) (meth := k1m5) (c := k1c5) (by decide +kernel) rfl rfl rfl (by decide +kernel)
set_option maxRecDepth 65536 in
theorem w_c4 : (Jvm.Cond.code ({ cls := "java/lang/String", name := "<init>", desc := "([C)V" } : Jvm.MethodName) jdk_42_method_3_code (2 : Nat) (Option.none : Option Jvm.ClassFile.FieldType)).before args0 about1 = true := code_word (m := ⟨9, 1⟩) (meth := k9m1) (c := k9c1) (by decide +kernel) rfl rfl rfl (by decide +kernel)
set_option maxRecDepth 65536 in
theorem w_c5 : (Jvm.Cond.code ({ cls := "java/lang/String", name := "<init>", desc := "([CIILjava/lang/Void;)V" } : Jvm.MethodName) jdk_42_method_149_code (6 : Nat) (Option.none : Option Jvm.ClassFile.FieldType)).before args0 about1 = true := code_word (m := ⟨9, 6⟩) (meth := k9m6) (c := k9c6) (by decide +kernel) rfl rfl rfl (by decide +kernel)
set_option maxRecDepth 65536 in
theorem w_c6 : (Jvm.Cond.code ({ cls := "java/lang/Object", name := "<init>", desc := "()V" } : Jvm.MethodName) object_method_1_code (1 : Nat) (Option.none : Option Jvm.ClassFile.FieldType)).before args0 about1 = true := code_word (m := ⟨0, 0⟩) (meth := k0m0) (c := k0c0) (by decide +kernel) rfl rfl rfl (by decide +kernel)
set_option maxRecDepth 65536 in
theorem w_c7 : (Jvm.Cond.code ({ cls := "java/lang/StringUTF16", name := "compress", desc := "([CII)[B" } : Jvm.MethodName) jdk_52_method_16_code (6 : Nat) (Option.some (Jvm.ClassFile.FieldType.array Jvm.ClassFile.FieldType.byte))).before args0 about1 = true := code_word (m := ⟨10, 9⟩) (meth := k10m9) (c := k10c9) (by decide +kernel) rfl rfl rfl (by decide +kernel)
set_option maxRecDepth 65536 in
theorem w_c8 : (Jvm.Cond.code ({ cls := "java/lang/StringUTF16", name := "compress", desc := "([CI[BII)I" } : Jvm.MethodName) jdk_52_method_21_code (7 : Nat) (Option.some Jvm.ClassFile.FieldType.int)).before args0 about1 = true := code_word (m := ⟨10, 10⟩) (meth := k10m10) (c := k10c10) (by decide +kernel) rfl rfl rfl (by decide +kernel)
set_option maxRecDepth 65536 in
theorem w_c9 : (Jvm.Cond.code ({ cls := "java/lang/StringUTF16", name := "coderFromArrayLen", desc := "([BI)B" } : Jvm.MethodName) jdk_52_method_15_code (2 : Nat) (Option.some Jvm.ClassFile.FieldType.byte)).before args0 about1 = true := code_word (m := ⟨10, 8⟩) (meth := k10m8) (c := k10c8) (by decide +kernel) rfl rfl rfl (by decide +kernel)
set_option maxRecDepth 65536 in
theorem w_c10 : (Jvm.Cond.code ({ cls := "com/example/even_counter/evencounter/CounterIdCompareToPinLaw", name := "keyString", desc := "(III)Ljava/lang/String;" } : Jvm.MethodName) method_7_code (5 : Nat) (Option.some (Jvm.ClassFile.FieldType.object "java/lang/String"))).before args0 about1 = true := code_word (m := ⟨1, 6⟩) (meth := k1m6) (c := k1c6) (by decide +kernel) rfl rfl rfl (by decide +kernel)
set_option maxRecDepth 65536 in
theorem w_c11 : (Jvm.Cond.code ({ cls := "com/example/even_counter/evencounter/CounterIdCompareToPinLaw", name := "hi", desc := "(I)C" } : Jvm.MethodName) method_4_code (1 : Nat) (Option.some Jvm.ClassFile.FieldType.char)).before args0 about1 = true := code_word (m := ⟨1, 3⟩) (meth := k1m3) (c := k1c3) (by decide +kernel) rfl rfl rfl (by decide +kernel)
set_option maxRecDepth 65536 in
theorem w_c12 : (Jvm.Cond.code ({ cls := "java/lang/StringUTF16", name := "toBytes", desc := "([CII)[B" } : Jvm.MethodName) jdk_52_method_14_code (5 : Nat) (Option.some (Jvm.ClassFile.FieldType.array Jvm.ClassFile.FieldType.byte))).before args0 about1 = true := code_word (m := ⟨10, 7⟩) (meth := k10m7) (c := k10c7) (by decide +kernel) rfl rfl rfl (by decide +kernel)
set_option maxRecDepth 65536 in
theorem w_c13 : (Jvm.Cond.code ({ cls := "java/lang/StringUTF16", name := "newBytesFor", desc := "(I)[B" } : Jvm.MethodName) jdk_52_method_2_code (1 : Nat) (Option.some (Jvm.ClassFile.FieldType.array Jvm.ClassFile.FieldType.byte))).before args0 about1 = true := code_word (m := ⟨10, 1⟩) (meth := k10m1) (c := k10c1) (by decide +kernel) rfl rfl rfl (by decide +kernel)
set_option maxRecDepth 65536 in
theorem w_c14 : (Jvm.Cond.code ({ cls := "java/lang/StringUTF16", name := "newBytesLength", desc := "(I)I" } : Jvm.MethodName) jdk_52_method_3_code (1 : Nat) (Option.some Jvm.ClassFile.FieldType.int)).before args0 about1 = true := code_word (m := ⟨10, 2⟩) (meth := k10m2) (c := k10c2) (by decide +kernel) rfl rfl rfl (by decide +kernel)
set_option maxRecDepth 65536 in
theorem w_c15 : (Jvm.Cond.code ({ cls := "java/lang/StringUTF16", name := "putChar", desc := "([BII)V" } : Jvm.MethodName) jdk_52_method_4_code (3 : Nat) (Option.none : Option Jvm.ClassFile.FieldType)).before args0 about1 = true := code_word (m := ⟨10, 3⟩) (meth := k10m3) (c := k10c3) (by decide +kernel) rfl rfl rfl (by decide +kernel)
set_option maxRecDepth 65536 in
theorem w_c16 : (Jvm.Cond.code ({ cls := "java/lang/StringUTF16", name := "getChar", desc := "([BI)C" } : Jvm.MethodName) jdk_52_method_5_code (2 : Nat) (Option.some Jvm.ClassFile.FieldType.char)).before args0 about1 = true := code_word (m := ⟨10, 4⟩) (meth := k10m4) (c := k10c4) (by decide +kernel) rfl rfl rfl (by decide +kernel)
set_option maxRecDepth 65536 in
theorem w_c17 : (Jvm.Cond.code ({ cls := "com/example/even_counter/evencounter/CounterId", name := "<init>", desc := "(Ljava/lang/String;Ljava/lang/String;)V" } : Jvm.MethodName) prog_3_method_1_code (3 : Nat) (Option.none : Option Jvm.ClassFile.FieldType)).before args0 about1 = true := code_word (m := ⟨4, 0⟩) (meth := k4m0) (c := k4c0) (by decide +kernel) rfl rfl rfl (by decide +kernel)
set_option maxRecDepth 65536 in
theorem w_c18 : (Jvm.Cond.code ({ cls := "java/lang/Record", name := "<init>", desc := "()V" } : Jvm.MethodName) jdk_30_method_1_code (1 : Nat) (Option.none : Option Jvm.ClassFile.FieldType)).before args0 about1 = true := code_word (m := ⟨2, 0⟩) (meth := k2m0) (c := k2c0) (by decide +kernel) rfl rfl rfl (by decide +kernel)
set_option maxRecDepth 65536 in
theorem w_c19 : (Jvm.Cond.code ({ cls := "com/example/even_counter/evencounter/CounterId", name := "checkName", desc := "(Ljava/lang/String;)V" } : Jvm.MethodName) prog_3_method_2_code (3 : Nat) (Option.none : Option Jvm.ClassFile.FieldType)).before args0 about1 = true := code_word (m := ⟨4, 1⟩) (meth := k4m1) (c := k4c1) (by decide +kernel) rfl rfl rfl (by decide +kernel)
set_option maxRecDepth 65536 in
theorem w_c20 : (Jvm.Cond.code ({ cls := "java/util/Objects", name := "requireNonNull", desc := "(Ljava/lang/Object;Ljava/lang/String;)Ljava/lang/Object;" } : Jvm.MethodName) jdk_31_method_11_code (2 : Nat) (Option.some (Jvm.ClassFile.FieldType.object "java/lang/Object"))).before args0 about1 = true := code_word (m := ⟨11, 1⟩) (meth := k11m1) (c := k11c1) (by decide +kernel) rfl rfl rfl (by decide +kernel)
set_option maxRecDepth 65536 in
theorem w_c21 : (Jvm.Cond.code ({ cls := "java/lang/String", name := "isEmpty", desc := "()Z" } : Jvm.MethodName) jdk_42_method_55_code (1 : Nat) (Option.some Jvm.ClassFile.FieldType.boolean)).before args0 about1 = true := code_word (m := ⟨9, 3⟩) (meth := k9m3) (c := k9c3) (by decide +kernel) rfl rfl rfl (by decide +kernel)
set_option maxRecDepth 65536 in
theorem w_c22 : (Jvm.Cond.code ({ cls := "java/lang/String", name := "length", desc := "()I" } : Jvm.MethodName) jdk_42_method_54_code (1 : Nat) (Option.some Jvm.ClassFile.FieldType.int)).before args0 about1 = true := code_word (m := ⟨9, 2⟩) (meth := k9m2) (c := k9c2) (by decide +kernel) rfl rfl rfl (by decide +kernel)
set_option maxRecDepth 65536 in
theorem w_c23 : (Jvm.Cond.code ({ cls := "java/lang/String", name := "coder", desc := "()B" } : Jvm.MethodName) jdk_42_method_152_code (1 : Nat) (Option.some Jvm.ClassFile.FieldType.byte)).before args0 about1 = true := code_word (m := ⟨9, 7⟩) (meth := k9m7) (c := k9c7) (by decide +kernel) rfl rfl rfl (by decide +kernel)
set_option maxRecDepth 65536 in
theorem w_c24 : (Jvm.Cond.code ({ cls := "java/lang/String", name := "charAt", desc := "(I)C" } : Jvm.MethodName) jdk_42_method_56_code (2 : Nat) (Option.some Jvm.ClassFile.FieldType.char)).before args0 about1 = true := code_word (m := ⟨9, 4⟩) (meth := k9m4) (c := k9c4) (by decide +kernel) rfl rfl rfl (by decide +kernel)
set_option maxRecDepth 65536 in
theorem w_c25 : (Jvm.Cond.code ({ cls := "java/lang/String", name := "isLatin1", desc := "()Z" } : Jvm.MethodName) jdk_42_method_154_code (1 : Nat) (Option.some Jvm.ClassFile.FieldType.boolean)).before args0 about1 = true := code_word (m := ⟨9, 8⟩) (meth := k9m8) (c := k9c8) (by decide +kernel) rfl rfl rfl (by decide +kernel)
set_option maxRecDepth 65536 in
theorem w_c26 : (Jvm.Cond.code ({ cls := "java/lang/StringLatin1", name := "charAt", desc := "([BI)C" } : Jvm.MethodName) jdk_43_method_2_code (2 : Nat) (Option.some Jvm.ClassFile.FieldType.char)).before args0 about1 = true := code_word (m := ⟨12, 1⟩) (meth := k12m1) (c := k12c1) (by decide +kernel) rfl rfl rfl (by decide +kernel)
set_option maxRecDepth 65536 in
theorem w_c27 : (Jvm.Cond.code ({ cls := "java/lang/String", name := "checkIndex", desc := "(II)V" } : Jvm.MethodName) jdk_42_method_155_code (2 : Nat) (Option.none : Option Jvm.ClassFile.FieldType)).before args0 about1 = true := code_word (m := ⟨9, 9⟩) (meth := k9m9) (c := k9c9) (by decide +kernel) rfl rfl rfl (by decide +kernel)
set_option maxRecDepth 65536 in
theorem w_c28 : (Jvm.Cond.code ({ cls := "jdk/internal/util/Preconditions", name := "checkIndex", desc := "(IILjava/util/function/BiFunction;)I" } : Jvm.MethodName) jdk_41_method_11_code (3 : Nat) (Option.some Jvm.ClassFile.FieldType.int)).before args0 about1 = true := code_word (m := ⟨13, 1⟩) (meth := k13m1) (c := k13c1) (by decide +kernel) rfl rfl rfl (by decide +kernel)
set_option maxRecDepth 65536 in
theorem w_c29 : (Jvm.Cond.code ({ cls := "com/example/even_counter/evencounter/CounterId", name := "isNameCharacter", desc := "(C)Z" } : Jvm.MethodName) prog_3_method_3_code (1 : Nat) (Option.some Jvm.ClassFile.FieldType.boolean)).before args0 about1 = true := code_word (m := ⟨4, 2⟩) (meth := k4m2) (c := k4c2) (by decide +kernel) rfl rfl rfl (by decide +kernel)
set_option maxRecDepth 65536 in
theorem w_c30 : (Jvm.Cond.code ({ cls := "com/example/even_counter/evencounter/CounterId", name := "checkKey", desc := "(Ljava/lang/String;)V" } : Jvm.MethodName) prog_3_method_4_code (4 : Nat) (Option.none : Option Jvm.ClassFile.FieldType)).before args0 about1 = true := code_word (m := ⟨4, 3⟩) (meth := k4m3) (c := k4c3) (by decide +kernel) rfl rfl rfl (by decide +kernel)
set_option maxRecDepth 65536 in
theorem w_c31 : (Jvm.Cond.code ({ cls := "java/lang/String", name := "codePointAt", desc := "(I)I" } : Jvm.MethodName) jdk_42_method_57_code (3 : Nat) (Option.some Jvm.ClassFile.FieldType.int)).before args0 about1 = true := code_word (m := ⟨9, 5⟩) (meth := k9m5) (c := k9c5) (by decide +kernel) rfl rfl rfl (by decide +kernel)
set_option maxRecDepth 65536 in
theorem w_c32 : (Jvm.Cond.code ({ cls := "java/lang/StringUTF16", name := "codePointAt", desc := "([BII)I" } : Jvm.MethodName) jdk_52_method_8_code (3 : Nat) (Option.some Jvm.ClassFile.FieldType.int)).before args0 about1 = true := code_word (m := ⟨10, 6⟩) (meth := k10m6) (c := k10c6) (by decide +kernel) rfl rfl rfl (by decide +kernel)
set_option maxRecDepth 65536 in
theorem w_c33 : (Jvm.Cond.code ({ cls := "java/lang/StringUTF16", name := "codePointAt", desc := "([BIIZ)I" } : Jvm.MethodName) jdk_52_method_7_code (6 : Nat) (Option.some Jvm.ClassFile.FieldType.int)).before args0 about1 = true := code_word (m := ⟨10, 5⟩) (meth := k10m5) (c := k10c5) (by decide +kernel) rfl rfl rfl (by decide +kernel)
set_option maxRecDepth 65536 in
theorem w_c34 : (Jvm.Cond.code ({ cls := "java/lang/Character", name := "isHighSurrogate", desc := "(C)Z" } : Jvm.MethodName) jdk_89_method_14_code (1 : Nat) (Option.some Jvm.ClassFile.FieldType.boolean)).before args0 about1 = true := code_word (m := ⟨14, 0⟩) (meth := k14m0) (c := k14c0) (by decide +kernel) rfl rfl rfl (by decide +kernel)
set_option maxRecDepth 65536 in
theorem w_c35 : (Jvm.Cond.code ({ cls := "java/lang/Character", name := "charCount", desc := "(I)I" } : Jvm.MethodName) jdk_89_method_18_code (1 : Nat) (Option.some Jvm.ClassFile.FieldType.int)).before args0 about1 = true := code_word (m := ⟨14, 2⟩) (meth := k14m2) (c := k14c2) (by decide +kernel) rfl rfl rfl (by decide +kernel)
set_option maxRecDepth 65536 in
theorem w_c36 : (Jvm.Cond.code ({ cls := "com/example/even_counter/evencounter/CounterIdCompareToPinLaw", name := "cmpSeq", desc := "(IIIIII)I" } : Jvm.MethodName) method_8_code (6 : Nat) (Option.some Jvm.ClassFile.FieldType.int)).before args0 about1 = true := code_word (m := ⟨1, 7⟩) (meth := k1m7) (c := k1c7) (by decide +kernel) rfl rfl rfl (by decide +kernel)
set_option maxRecDepth 65536 in
theorem w_c37 : (Jvm.Cond.code ({ cls := "com/example/even_counter/evencounter/CounterId", name := "compareTo", desc := "(Lcom/example/even_counter/evencounter/CounterId;)I" } : Jvm.MethodName) prog_3_method_5_code (3 : Nat) (Option.some Jvm.ClassFile.FieldType.int)).before args0 about1 = true := code_word (m := ⟨4, 4⟩) (meth := k4m4) (c := k4c4) (by decide +kernel) rfl rfl rfl (by decide +kernel)
set_option maxRecDepth 65536 in
theorem w_c38 : (Jvm.Cond.code ({ cls := "com/example/even_counter/evencounter/CounterId", name := "compareCodePoints", desc := "(Ljava/lang/String;Ljava/lang/String;)I" } : Jvm.MethodName) prog_3_method_6_code (5 : Nat) (Option.some Jvm.ClassFile.FieldType.int)).before args0 about1 = true := code_word (m := ⟨4, 5⟩) (meth := k4m5) (c := k4c5) (by decide +kernel) rfl rfl rfl (by decide +kernel)
set_option maxRecDepth 65536 in
theorem w_c39 : (Jvm.Cond.code ({ cls := "java/lang/Integer", name := "compare", desc := "(II)I" } : Jvm.MethodName) jdk_33_method_40_code (2 : Nat) (Option.some Jvm.ClassFile.FieldType.int)).before args0 about1 = true := code_word (m := ⟨16, 0⟩) (meth := k16m0) (c := k16c0) (by decide +kernel) rfl rfl rfl (by decide +kernel)
set_option maxRecDepth 65536 in
theorem w_c40 : (Jvm.Cond.code ({ cls := "com/example/even_counter/evencounter/CounterIdCompareToPinLaw", name := "sign", desc := "(I)I" } : Jvm.MethodName) method_9_code (1 : Nat) (Option.some Jvm.ClassFile.FieldType.int)).before args0 about1 = true := code_word (m := ⟨1, 8⟩) (meth := k1m8) (c := k1c8) (by decide +kernel) rfl rfl rfl (by decide +kernel)
set_option maxRecDepth 65536 in
theorem w_c41 : (Jvm.Cond.code ({ cls := "com/example/even_counter/evencounter/CounterIdCompareToPinLaw", name := "lo", desc := "(I)C" } : Jvm.MethodName) method_5_code (1 : Nat) (Option.some Jvm.ClassFile.FieldType.char)).before args0 about1 = true := code_word (m := ⟨1, 4⟩) (meth := k1m4) (c := k1c4) (by decide +kernel) rfl rfl rfl (by decide +kernel)
set_option maxRecDepth 65536 in
theorem w_c42 : (Jvm.Cond.code ({ cls := "java/lang/Character", name := "isLowSurrogate", desc := "(C)Z" } : Jvm.MethodName) jdk_89_method_15_code (1 : Nat) (Option.some Jvm.ClassFile.FieldType.boolean)).before args0 about1 = true := code_word (m := ⟨14, 1⟩) (meth := k14m1) (c := k14c1) (by decide +kernel) rfl rfl rfl (by decide +kernel)
set_option maxRecDepth 65536 in
theorem w_c43 : (Jvm.Cond.code ({ cls := "java/lang/Character", name := "toCodePoint", desc := "(CC)I" } : Jvm.MethodName) jdk_89_method_19_code (2 : Nat) (Option.some Jvm.ClassFile.FieldType.int)).before args0 about1 = true := code_word (m := ⟨14, 3⟩) (meth := k14m3) (c := k14c3) (by decide +kernel) rfl rfl rfl (by decide +kernel)
def codes1 : List Jvm.Cond := [Jvm.Cond.code x code maxLocals ret, Jvm.Cond.code ({ cls := "com/example/even_counter/evencounter/CounterIdCompareToPinLaw", name := "nameChar", desc := "(I)C" } : Jvm.MethodName) method_2_code (2 : Nat) (Option.some Jvm.ClassFile.FieldType.char), Jvm.Cond.code ({ cls := "com/example/even_counter/evencounter/CounterIdCompareToPinLaw", name := "keyCp", desc := "(I)I" } : Jvm.MethodName) method_3_code (4 : Nat) (Option.some Jvm.ClassFile.FieldType.int), Jvm.Cond.code ({ cls := "com/example/even_counter/evencounter/CounterIdCompareToPinLaw", name := "nameString", desc := "(ICC)Ljava/lang/String;" } : Jvm.MethodName) method_6_code (3 : Nat) (Option.some (Jvm.ClassFile.FieldType.object "java/lang/String")), Jvm.Cond.code ({ cls := "java/lang/String", name := "<init>", desc := "([C)V" } : Jvm.MethodName) jdk_42_method_3_code (2 : Nat) (Option.none : Option Jvm.ClassFile.FieldType), Jvm.Cond.code ({ cls := "java/lang/String", name := "<init>", desc := "([CIILjava/lang/Void;)V" } : Jvm.MethodName) jdk_42_method_149_code (6 : Nat) (Option.none : Option Jvm.ClassFile.FieldType), Jvm.Cond.code ({ cls := "java/lang/Object", name := "<init>", desc := "()V" } : Jvm.MethodName) object_method_1_code (1 : Nat) (Option.none : Option Jvm.ClassFile.FieldType), Jvm.Cond.code ({ cls := "java/lang/StringUTF16", name := "compress", desc := "([CII)[B" } : Jvm.MethodName) jdk_52_method_16_code (6 : Nat) (Option.some (Jvm.ClassFile.FieldType.array Jvm.ClassFile.FieldType.byte)), Jvm.Cond.code ({ cls := "java/lang/StringUTF16", name := "compress", desc := "([CI[BII)I" } : Jvm.MethodName) jdk_52_method_21_code (7 : Nat) (Option.some Jvm.ClassFile.FieldType.int), Jvm.Cond.code ({ cls := "java/lang/StringUTF16", name := "coderFromArrayLen", desc := "([BI)B" } : Jvm.MethodName) jdk_52_method_15_code (2 : Nat) (Option.some Jvm.ClassFile.FieldType.byte), Jvm.Cond.code ({ cls := "com/example/even_counter/evencounter/CounterIdCompareToPinLaw", name := "keyString", desc := "(III)Ljava/lang/String;" } : Jvm.MethodName) method_7_code (5 : Nat) (Option.some (Jvm.ClassFile.FieldType.object "java/lang/String")), Jvm.Cond.code ({ cls := "com/example/even_counter/evencounter/CounterIdCompareToPinLaw", name := "hi", desc := "(I)C" } : Jvm.MethodName) method_4_code (1 : Nat) (Option.some Jvm.ClassFile.FieldType.char), Jvm.Cond.code ({ cls := "java/lang/StringUTF16", name := "toBytes", desc := "([CII)[B" } : Jvm.MethodName) jdk_52_method_14_code (5 : Nat) (Option.some (Jvm.ClassFile.FieldType.array Jvm.ClassFile.FieldType.byte)), Jvm.Cond.code ({ cls := "java/lang/StringUTF16", name := "newBytesFor", desc := "(I)[B" } : Jvm.MethodName) jdk_52_method_2_code (1 : Nat) (Option.some (Jvm.ClassFile.FieldType.array Jvm.ClassFile.FieldType.byte)), Jvm.Cond.code ({ cls := "java/lang/StringUTF16", name := "newBytesLength", desc := "(I)I" } : Jvm.MethodName) jdk_52_method_3_code (1 : Nat) (Option.some Jvm.ClassFile.FieldType.int), Jvm.Cond.code ({ cls := "java/lang/StringUTF16", name := "putChar", desc := "([BII)V" } : Jvm.MethodName) jdk_52_method_4_code (3 : Nat) (Option.none : Option Jvm.ClassFile.FieldType), Jvm.Cond.code ({ cls := "java/lang/StringUTF16", name := "getChar", desc := "([BI)C" } : Jvm.MethodName) jdk_52_method_5_code (2 : Nat) (Option.some Jvm.ClassFile.FieldType.char), Jvm.Cond.code ({ cls := "com/example/even_counter/evencounter/CounterId", name := "<init>", desc := "(Ljava/lang/String;Ljava/lang/String;)V" } : Jvm.MethodName) prog_3_method_1_code (3 : Nat) (Option.none : Option Jvm.ClassFile.FieldType), Jvm.Cond.code ({ cls := "java/lang/Record", name := "<init>", desc := "()V" } : Jvm.MethodName) jdk_30_method_1_code (1 : Nat) (Option.none : Option Jvm.ClassFile.FieldType), Jvm.Cond.code ({ cls := "com/example/even_counter/evencounter/CounterId", name := "checkName", desc := "(Ljava/lang/String;)V" } : Jvm.MethodName) prog_3_method_2_code (3 : Nat) (Option.none : Option Jvm.ClassFile.FieldType), Jvm.Cond.code ({ cls := "java/util/Objects", name := "requireNonNull", desc := "(Ljava/lang/Object;Ljava/lang/String;)Ljava/lang/Object;" } : Jvm.MethodName) jdk_31_method_11_code (2 : Nat) (Option.some (Jvm.ClassFile.FieldType.object "java/lang/Object")), Jvm.Cond.code ({ cls := "java/lang/String", name := "isEmpty", desc := "()Z" } : Jvm.MethodName) jdk_42_method_55_code (1 : Nat) (Option.some Jvm.ClassFile.FieldType.boolean), Jvm.Cond.code ({ cls := "java/lang/String", name := "length", desc := "()I" } : Jvm.MethodName) jdk_42_method_54_code (1 : Nat) (Option.some Jvm.ClassFile.FieldType.int), Jvm.Cond.code ({ cls := "java/lang/String", name := "coder", desc := "()B" } : Jvm.MethodName) jdk_42_method_152_code (1 : Nat) (Option.some Jvm.ClassFile.FieldType.byte), Jvm.Cond.code ({ cls := "java/lang/String", name := "charAt", desc := "(I)C" } : Jvm.MethodName) jdk_42_method_56_code (2 : Nat) (Option.some Jvm.ClassFile.FieldType.char), Jvm.Cond.code ({ cls := "java/lang/String", name := "isLatin1", desc := "()Z" } : Jvm.MethodName) jdk_42_method_154_code (1 : Nat) (Option.some Jvm.ClassFile.FieldType.boolean), Jvm.Cond.code ({ cls := "java/lang/StringLatin1", name := "charAt", desc := "([BI)C" } : Jvm.MethodName) jdk_43_method_2_code (2 : Nat) (Option.some Jvm.ClassFile.FieldType.char), Jvm.Cond.code ({ cls := "java/lang/String", name := "checkIndex", desc := "(II)V" } : Jvm.MethodName) jdk_42_method_155_code (2 : Nat) (Option.none : Option Jvm.ClassFile.FieldType), Jvm.Cond.code ({ cls := "jdk/internal/util/Preconditions", name := "checkIndex", desc := "(IILjava/util/function/BiFunction;)I" } : Jvm.MethodName) jdk_41_method_11_code (3 : Nat) (Option.some Jvm.ClassFile.FieldType.int), Jvm.Cond.code ({ cls := "com/example/even_counter/evencounter/CounterId", name := "isNameCharacter", desc := "(C)Z" } : Jvm.MethodName) prog_3_method_3_code (1 : Nat) (Option.some Jvm.ClassFile.FieldType.boolean), Jvm.Cond.code ({ cls := "com/example/even_counter/evencounter/CounterId", name := "checkKey", desc := "(Ljava/lang/String;)V" } : Jvm.MethodName) prog_3_method_4_code (4 : Nat) (Option.none : Option Jvm.ClassFile.FieldType), Jvm.Cond.code ({ cls := "java/lang/String", name := "codePointAt", desc := "(I)I" } : Jvm.MethodName) jdk_42_method_57_code (3 : Nat) (Option.some Jvm.ClassFile.FieldType.int), Jvm.Cond.code ({ cls := "java/lang/StringUTF16", name := "codePointAt", desc := "([BII)I" } : Jvm.MethodName) jdk_52_method_8_code (3 : Nat) (Option.some Jvm.ClassFile.FieldType.int), Jvm.Cond.code ({ cls := "java/lang/StringUTF16", name := "codePointAt", desc := "([BIIZ)I" } : Jvm.MethodName) jdk_52_method_7_code (6 : Nat) (Option.some Jvm.ClassFile.FieldType.int), Jvm.Cond.code ({ cls := "java/lang/Character", name := "isHighSurrogate", desc := "(C)Z" } : Jvm.MethodName) jdk_89_method_14_code (1 : Nat) (Option.some Jvm.ClassFile.FieldType.boolean), Jvm.Cond.code ({ cls := "java/lang/Character", name := "charCount", desc := "(I)I" } : Jvm.MethodName) jdk_89_method_18_code (1 : Nat) (Option.some Jvm.ClassFile.FieldType.int), Jvm.Cond.code ({ cls := "com/example/even_counter/evencounter/CounterIdCompareToPinLaw", name := "cmpSeq", desc := "(IIIIII)I" } : Jvm.MethodName) method_8_code (6 : Nat) (Option.some Jvm.ClassFile.FieldType.int), Jvm.Cond.code ({ cls := "com/example/even_counter/evencounter/CounterId", name := "compareTo", desc := "(Lcom/example/even_counter/evencounter/CounterId;)I" } : Jvm.MethodName) prog_3_method_5_code (3 : Nat) (Option.some Jvm.ClassFile.FieldType.int), Jvm.Cond.code ({ cls := "com/example/even_counter/evencounter/CounterId", name := "compareCodePoints", desc := "(Ljava/lang/String;Ljava/lang/String;)I" } : Jvm.MethodName) prog_3_method_6_code (5 : Nat) (Option.some Jvm.ClassFile.FieldType.int), Jvm.Cond.code ({ cls := "java/lang/Integer", name := "compare", desc := "(II)I" } : Jvm.MethodName) jdk_33_method_40_code (2 : Nat) (Option.some Jvm.ClassFile.FieldType.int), Jvm.Cond.code ({ cls := "com/example/even_counter/evencounter/CounterIdCompareToPinLaw", name := "sign", desc := "(I)I" } : Jvm.MethodName) method_9_code (1 : Nat) (Option.some Jvm.ClassFile.FieldType.int), Jvm.Cond.code ({ cls := "com/example/even_counter/evencounter/CounterIdCompareToPinLaw", name := "lo", desc := "(I)C" } : Jvm.MethodName) method_5_code (1 : Nat) (Option.some Jvm.ClassFile.FieldType.char), Jvm.Cond.code ({ cls := "java/lang/Character", name := "isLowSurrogate", desc := "(C)Z" } : Jvm.MethodName) jdk_89_method_15_code (1 : Nat) (Option.some Jvm.ClassFile.FieldType.boolean), Jvm.Cond.code ({ cls := "java/lang/Character", name := "toCodePoint", desc := "(CC)I" } : Jvm.MethodName) jdk_89_method_19_code (2 : Nat) (Option.some Jvm.ClassFile.FieldType.int)]
set_option maxRecDepth 65536 in
theorem codes_eq : words1.filter isCode = codes1 := rfl
theorem w_codes : ∀ c ∈ words1.filter isCode, c.before args0 about1 = true := by
  rw [codes_eq]
  intro c hc
  simp only [codes1, List.mem_cons, List.not_mem_nil, or_false] at hc
  rcases hc with rfl | rfl | rfl | rfl | rfl | rfl | rfl | rfl | rfl | rfl | rfl | rfl | rfl | rfl | rfl | rfl | rfl | rfl | rfl | rfl | rfl | rfl | rfl | rfl | rfl | rfl | rfl | rfl | rfl | rfl | rfl | rfl | rfl | rfl | rfl | rfl | rfl | rfl | rfl | rfl | rfl | rfl | rfl | rfl
  · exact w_c0
  · exact w_c1
  · exact w_c2
  · exact w_c3
  · exact w_c4
  · exact w_c5
  · exact w_c6
  · exact w_c7
  · exact w_c8
  · exact w_c9
  · exact w_c10
  · exact w_c11
  · exact w_c12
  · exact w_c13
  · exact w_c14
  · exact w_c15
  · exact w_c16
  · exact w_c17
  · exact w_c18
  · exact w_c19
  · exact w_c20
  · exact w_c21
  · exact w_c22
  · exact w_c23
  · exact w_c24
  · exact w_c25
  · exact w_c26
  · exact w_c27
  · exact w_c28
  · exact w_c29
  · exact w_c30
  · exact w_c31
  · exact w_c32
  · exact w_c33
  · exact w_c34
  · exact w_c35
  · exact w_c36
  · exact w_c37
  · exact w_c38
  · exact w_c39
  · exact w_c40
  · exact w_c41
  · exact w_c42
  · exact w_c43
set_option maxRecDepth 65536 in
theorem w_t1 : (words1.take 24).all (fun c => isCode c || c.before args0 about1) = true := by decide +kernel
set_option maxRecDepth 65536 in
theorem w_t2 : ((words1.drop 24).take 24).all (fun c => isCode c || c.before args0 about1) = true := by decide +kernel
set_option maxRecDepth 65536 in
theorem w_t3 : (((words1.drop 24).drop 24).take 24).all (fun c => isCode c || c.before args0 about1) = true := by decide +kernel
set_option maxRecDepth 65536 in
theorem w_t4 : ((((words1.drop 24).drop 24).drop 24).take 24).all (fun c => isCode c || c.before args0 about1) = true := by decide +kernel
set_option maxRecDepth 65536 in
theorem w_t5 : (((((words1.drop 24).drop 24).drop 24).drop 24).take 24).all (fun c => isCode c || c.before args0 about1) = true := by decide +kernel
set_option maxRecDepth 65536 in
theorem w_t6 : ((((((words1.drop 24).drop 24).drop 24).drop 24).drop 24).take 24).all (fun c => isCode c || c.before args0 about1) = true := by decide +kernel
set_option maxRecDepth 65536 in
theorem w_t7 : (((((((words1.drop 24).drop 24).drop 24).drop 24).drop 24).drop 24).take 24).all (fun c => isCode c || c.before args0 about1) = true := by decide +kernel
set_option maxRecDepth 65536 in
theorem w_t8 : ((((((((words1.drop 24).drop 24).drop 24).drop 24).drop 24).drop 24).drop 24).take 24).all (fun c => isCode c || c.before args0 about1) = true := by decide +kernel
set_option maxRecDepth 65536 in
theorem w_t9 : ((((((((words1.drop 24).drop 24).drop 24).drop 24).drop 24).drop 24).drop 24).drop 24).all (fun c => isCode c || c.before args0 about1) = true := by decide +kernel
theorem w_tables : (allAtoms (Jvm.Cond.code x code maxLocals ret :: tables_1)).before args0 about1 = true := by
  rw [allAtoms_all]
  show words1.all (fun c => c.before args0 about1) = true
  refine all_split ?_ w_codes
  rw [← List.take_append_drop 24 words1, List.all_append, w_t1, ← List.take_append_drop 24 (words1.drop 24), List.all_append, w_t2, ← List.take_append_drop 24 ((words1.drop 24).drop 24), List.all_append, w_t3, ← List.take_append_drop 24 (((words1.drop 24).drop 24).drop 24), List.all_append, w_t4, ← List.take_append_drop 24 ((((words1.drop 24).drop 24).drop 24).drop 24), List.all_append, w_t5, ← List.take_append_drop 24 (((((words1.drop 24).drop 24).drop 24).drop 24).drop 24), List.all_append, w_t6, ← List.take_append_drop 24 ((((((words1.drop 24).drop 24).drop 24).drop 24).drop 24).drop 24), List.all_append, w_t7, ← List.take_append_drop 24 (((((((words1.drop 24).drop 24).drop 24).drop 24).drop 24).drop 24).drop 24), List.all_append, w_t8, w_t9]
  rfl
set_option maxRecDepth 65536 in
theorem w_rest : rest_1_c.before args0 about1 = true := by decide +kernel
set_option maxRecDepth 65536 in
theorem w_case : (Jvm.Cond.and given_1 narrow_1).before args0 about1 = true := by decide +kernel
theorem w_applies : (headSpec (Jvm.Cond.code x code maxLocals ret :: tables_1) room_1).applies x e0.platform about1 = true :=
  (Spec.applies_iff w_frames).mpr ⟨w_running, w_runnable, w_alone, w_named, w_hears, w_ripe, w_room, w_tables⟩
theorem atStart : AtStart classFile x code maxLocals ret World_1 tables_1 room_1 Calls_1 rest_1 Pre_1 launch0 p0 e0 about1 theMethod args0 below0 :=
  ⟨lists_1, trivial, launch0.admits_env _ _ _, launch0.least_env, fairChoices_fair.cas, fairChoices_fair.clock, w_frames, w_args, w_heap, w_applies, trivial, w_rest, w_case⟩
end start1
theorem witness_1 : WitnessClaimed_1 := ⟨start1.p0, start1.e0, start1.about1, start1.theMethod, start1.args0, start1.below0, start1.atStart⟩
end Jvm.Pilot.@@N@@
