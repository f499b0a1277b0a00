import JvmDerived
import JvmDerived.Pilot.@@N@@Statement
import JvmDerived.Pilot.@@N@@Code
set_option linter.unusedVariables false
set_option linter.unusedSimpArgs false
/- laws to paste: Road.wide_lo, Road.wide_hi, pair_says, lo8_mask, shr0, shr1, Road.low_at, Road.CodA (cut by pick.py; bodies as the Statement names them) -/
namespace Jvm.Pilot.@@N@@
namespace StrChars
open Jvm Sem ClassFile Op Lib Jvm.Stand Jvm.Free.XT Jvm.Free.ALB Jvm.Free.JM Jvm.Free
open Jvm.Lib.Cold (StaticIs)
/-- the byte that i2b leaves of a char -/
def lo8 (x : Int32) : Int32 := x.toInt8.toInt32
/-- the byte, read back as charAt reads it, is the char -/
theorem lo8_mask {x : Int32} (h0 : ¬ x < 0) (h1 : ¬ 255 < x) : lo8 x &&& 255 = x := by
 have t : ∀ k : Fin 256, lo8 (Int32.ofNat k.val) &&& 255 = Int32.ofNat k.val := by decide +kernel
 rw [Int32.lt_iff_toInt_lt] at h0 h1
 have e0 : (0 : Int32).toInt = 0 := rfl
 have e1 : (255 : Int32).toInt = 255 := rfl
 obtain ⟨k, hk⟩ : ∃ k : Nat, x.toInt = k := ⟨x.toInt.toNat, by omega⟩
 have hx : x = Int32.ofNat k := Int32.toInt_inj.mp (by rw [hk, Int32.toInt_ofNat_small (by omega)])
 rw [hx]
 exact t ⟨k, by omega⟩
end StrChars
namespace StrChars
open Jvm Sem ClassFile Op Lib Jvm.Stand Jvm.Free.XT Jvm.Free.ALB Jvm.Free.JM Jvm.Free
open Jvm.Lib.Cold (StaticIs)
def hi8 (x : Int32) : Int32 := lo8 (x >>> ((8 : Int32) &&& 31))
/-- what StringUTF16.getChar makes of two bytes -/
def pairCh (u v : Int32) : Int32 := (((u &&& 255) <<< ((0 : Int32) &&& 31)) ||| ((v &&& 255) <<< ((8 : Int32) &&& 31))).toUInt32.toUInt16.toUInt32.toInt32
theorem shr0 (c : Int32) : c >>> ((0 : Int32) &&& 31) = c := by
 have e : ((0 : Int32) &&& 31) = 0 := by decide
 rw [e]
 apply Int32.toBitVec_inj.mp
 rw [Int32.toBitVec_shiftRight]
 have e1 : ((0 : Int32).toBitVec.smod 32) = 0#32 := by decide
 rw [e1, BitVec.sshiftRight_eq']
 exact BitVec.sshiftRight_zero
theorem lo8_and (x : Int32) : (lo8 x &&& 255).toBitVec.toNat = x.toBitVec.toNat % 256 := by
 have h : (lo8 x).toBitVec = (x.toBitVec.signExtend 8).signExtend 32 := by rw [lo8, Int8.toBitVec_toInt32, Int32.toBitVec_toInt8]
 rw [Int32.toBitVec_and, BitVec.toNat_and, h]
 have e : ((x.toBitVec.signExtend 8).signExtend 32).toNat % 256 = x.toBitVec.toNat % 256 := by
  rw [BitVec.toNat_signExtend]
  have hlt := x.toBitVec.isLt
  simp only [BitVec.toNat_setWidth, BitVec.toNat_signExtend]
  split <;> split <;> omega
 rw [← e]
 exact Nat.and_two_pow_sub_one_eq_mod _ 8
theorem pair_says {c : Int32} (h0 : ¬ c < 0) (h1 : ¬ 65535 < c) : pairCh (lo8 c) (hi8 c) = c := by
 rw [Int32.lt_iff_toInt_lt] at h0 h1
 have e0 : (0 : Int32).toInt = 0 := rfl
 have e1 : (65535 : Int32).toInt = 65535 := rfl
 have hc : c.toInt = c.toBitVec.toNat := by
  have := c.toBitVec.isLt
  have e : c.toInt = c.toBitVec.toInt := rfl
  rw [e] at h0 h1
  rw [e]
  rw [BitVec.toInt_eq_toNat_cond] at h0 h1 ⊢
  split at h0 <;> split <;> omega
 have hn : c.toBitVec.toNat < 65536 := by omega
 have a1 := lo8_and c
 have a2 : (hi8 c &&& 255).toBitVec.toNat = c.toBitVec.toNat / 256 := by
  rw [hi8, lo8_and]
  have e : ((8 : Int32) &&& 31) = 8 := by decide
  rw [e, Int32.toBitVec_shiftRight]
  have e2 : ((8 : Int32).toBitVec.smod 32) = 8#32 := by decide
  rw [e2, BitVec.sshiftRight_eq', BitVec.toNat_sshiftRight_of_msb_false (by rw [BitVec.msb_eq_false_iff_two_mul_lt]; omega)]
  show c.toBitVec.toNat >>> 8 % 256 = _
  rw [Nat.shiftRight_eq_div_pow]
  omega
 unfold pairCh
 apply Int32.toBitVec_inj.mp
 apply BitVec.eq_of_toNat_eq
 have f0 : ((0 : Int32) &&& 31) = 0 := by decide
 have f8 : ((8 : Int32) &&& 31) = 8 := by decide
 rw [f0, f8]
 have g : (((lo8 c &&& 255) <<< (0 : Int32)) ||| ((hi8 c &&& 255) <<< (8 : Int32))).toBitVec.toNat = c.toBitVec.toNat := by
  rw [Int32.toBitVec_or, Int32.toBitVec_shiftLeft, Int32.toBitVec_shiftLeft]
  have s0 : ((0 : Int32).toBitVec.smod 32) = 0#32 := by decide
  have s8 : ((8 : Int32).toBitVec.smod 32) = 8#32 := by decide
  rw [s0, s8, BitVec.toNat_or]
  simp only [BitVec.shiftLeft_eq', BitVec.toNat_shiftLeft, a1, a2]
  show (c.toBitVec.toNat % 256) <<< 0 % 2 ^ 32 ||| (c.toBitVec.toNat / 256) <<< 8 % 2 ^ 32 = _
  rw [Nat.shiftLeft_zero, Nat.mod_eq_of_lt (show c.toBitVec.toNat % 256 < 2 ^ 32 by omega), Nat.mod_eq_of_lt (show (c.toBitVec.toNat / 256) <<< 8 < 2 ^ 32 by rw [Nat.shiftLeft_eq]; omega), Nat.or_comm, ← Nat.shiftLeft_add_eq_or_of_lt (by omega), Nat.shiftLeft_eq]
  omega
 show BitVec.toNat (((((lo8 c &&& 255) <<< (0 : Int32)) ||| ((hi8 c &&& 255) <<< (8 : Int32))).toBitVec.setWidth 16).setWidth 32) = _
 rw [BitVec.toNat_setWidth, BitVec.toNat_setWidth, g]
 omega
end StrChars
namespace StrChars
open Jvm Sem ClassFile Op Lib Jvm.Stand Jvm.Free.XT Jvm.Free.ALB Jvm.Free.JM Jvm.Free
open Jvm.Lib.Cold (StaticIs)
theorem shr1 {n : Nat} (h : 2 * n < 2 ^ 31) : Int32.ofNat (2 * n) >>> ((1 : Int32) &&& 31) = Int32.ofNat n := by
 have e : ((1 : Int32) &&& 31) = 1 := by decide
 rw [e]
 apply Int32.toBitVec_inj.mp
 rw [Int32.toBitVec_shiftRight]
 have e1 : ((1 : Int32).toBitVec.smod 32) = 1#32 := by decide
 have hm : (BitVec.ofNat 32 (2 * n)).toNat = 2 * n := by rw [BitVec.toNat_ofNat, Nat.mod_eq_of_lt (by omega)]
 rw [e1, BitVec.sshiftRight_eq']
 apply BitVec.eq_of_toNat_eq
 show ((BitVec.ofNat 32 (2 * n)).sshiftRight 1).toNat = (BitVec.ofNat 32 n).toNat
 rw [BitVec.toNat_sshiftRight_of_msb_false (by rw [BitVec.msb_eq_false_iff_two_mul_lt, hm]; omega), hm, BitVec.toNat_ofNat, Nat.shiftRight_eq_div_pow]
 omega
end StrChars
namespace StrChars.Road
open Jvm Sem ClassFile Op Lib Jvm.Stand Jvm.Free Jvm.Free.XT
open Jvm.Lib.Cold (StaticIs)
/-- the bytes of the chars cs, low before high -/
def wideBytes : List Int32 → List Value
 | [] => []
 | c :: cs => .int (lo8 c) :: .int (hi8 c) :: wideBytes cs
theorem wide_lo (d : Value) : ∀ (cs : List Int32) (j : Nat), j < cs.length → (wideBytes cs).getD (2 * j) d = .int (lo8 (cs.getD j 0))
 | [], j, h => absurd h (Nat.not_lt_zero j)
 | c :: cs, 0, _ => rfl
 | c :: cs, j + 1, h => by
  have q := wide_lo d cs j (by simpa using h)
  rw [show 2 * (j + 1) = 2 * j + 1 + 1 from by omega]
  simpa [wideBytes] using q
theorem wide_hi (d : Value) : ∀ (cs : List Int32) (j : Nat), j < cs.length → (wideBytes cs).getD (2 * j + 1) d = .int (hi8 (cs.getD j 0))
 | [], j, h => absurd h (Nat.not_lt_zero j)
 | c :: cs, 0, _ => rfl
 | c :: cs, j + 1, h => by
  have q := wide_hi d cs j (by simpa using h)
  rw [show 2 * (j + 1) + 1 = 2 * j + 1 + 1 + 1 from by omega]
  simpa [wideBytes] using q
/-- an array of N2 bytes vs codes the chars cs by the coder cd -/
def CodA (cs : List Int32) (cd N2 : Int32) (vs : List Value) : Prop := (cd = 0 ∧ N2 = Int32.ofNat cs.length ∧ vs = (cs.map fun c => Value.int (lo8 c)) ∧ ∀ c ∈ cs, ¬ 255 < c) ∨ (cd = 1 ∧ N2 = Int32.ofNat (2 * cs.length) ∧ vs = wideBytes cs ∧ ∃ c ∈ cs, 255 < c)
end StrChars.Road
end Jvm.Pilot.@@N@@
namespace Jvm.Pilot.@@N@@
open Jvm Jvm.ClassFile Sem Op Lib Jvm.Free Jvm.Stand Jvm.LawKit Jvm.RoadKit Bundle Jvm.Pilot.@@N@@.Jvm.D
abbrev y_0 : MethodName := ⟨"java/lang/StringUTF16", "putChar", "([BII)V"⟩
abbrev y_1 : MethodName := ⟨"java/lang/StringUTF16", "getChar", "([BI)C"⟩
abbrev y_2 : MethodName := ⟨"java/lang/StringUTF16", "newBytesLength", "(I)I"⟩
abbrev y_3 : MethodName := ⟨"java/lang/StringUTF16", "newBytesFor", "(I)[B"⟩
abbrev y_4 : MethodName := ⟨"java/lang/StringUTF16", "toBytes", "([CII)[B"⟩
abbrev y_5 : MethodName := ⟨"java/lang/StringUTF16", "compress", "([CI[BII)I"⟩
abbrev y_6 : MethodName := ⟨"java/lang/StringUTF16", "compress", "([CII)[B"⟩
abbrev y_7 : MethodName := ⟨"java/lang/StringUTF16", "coderFromArrayLen", "([BI)B"⟩
abbrev y_8 : MethodName := ⟨"java/lang/String", "<init>", "([CIILjava/lang/Void;)V"⟩
abbrev y_9 : MethodName := ⟨"java/lang/String", "<init>", "([C)V"⟩
abbrev y_10 : MethodName := ⟨"java/lang/String", "coder", "()B"⟩
abbrev y_11 : MethodName := ⟨"java/lang/AbstractStringBuilder", "isLatin1", "()Z"⟩
abbrev y_12 : MethodName := ⟨"java/lang/String", "length", "()I"⟩
abbrev y_13 : MethodName := ⟨"java/lang/AbstractStringBuilder", "ensureCapacityInternal", "(I)V"⟩
abbrev y_14 : MethodName := ⟨"java/lang/StringUTF16", "length", "([B)I"⟩
abbrev y_15 : MethodName := ⟨"jdk/internal/util/Preconditions", "checkFromIndexSize", "(IIILjava/util/function/BiFunction;)I"⟩
abbrev y_16 : MethodName := ⟨"java/lang/String", "checkBoundsOffCount", "(III)I"⟩
abbrev y_17 : MethodName := ⟨"java/lang/StringUTF16", "checkBoundsOffCount", "(II[B)V"⟩
abbrev y_18 : MethodName := ⟨"java/lang/StringUTF16", "inflate", "([BI[BII)V"⟩
abbrev y_19 : MethodName := ⟨"java/lang/StringLatin1", "inflate", "([BI[BII)V"⟩
abbrev y_20 : MethodName := ⟨"java/lang/AbstractStringBuilder", "inflate", "()V"⟩
abbrev y_21 : MethodName := ⟨"java/lang/AbstractStringBuilder", "getValue", "()[B"⟩
abbrev y_22 : MethodName := ⟨"java/lang/AbstractStringBuilder", "length", "()I"⟩
abbrev y_23 : MethodName := ⟨"java/lang/StringBuilder", "length", "()I"⟩
abbrev y_24 : MethodName := ⟨"java/util/Arrays", "checkLength", "(II)V"⟩
abbrev y_25 : MethodName := ⟨"java/lang/Math", "min", "(II)I"⟩
abbrev y_26 : MethodName := ⟨"java/util/Arrays", "copyOfRangeByte", "([BII)[B"⟩
abbrev y_27 : MethodName := ⟨"java/util/Arrays", "copyOfRange", "([BII)[B"⟩
abbrev y_28 : MethodName := ⟨"jdk/internal/util/Preconditions", "checkIndex", "(IILjava/util/function/BiFunction;)I"⟩
abbrev y_29 : MethodName := ⟨"java/lang/String", "checkIndex", "(II)V"⟩
abbrev y_30 : MethodName := ⟨"java/lang/String", "isLatin1", "()Z"⟩
abbrev y_31 : MethodName := ⟨"java/lang/StringLatin1", "charAt", "([BI)C"⟩
abbrev y_32 : MethodName := ⟨"java/lang/StringUTF16", "checkIndex", "(I[B)V"⟩
abbrev y_33 : MethodName := ⟨"java/lang/StringUTF16", "charAt", "([BI)C"⟩
abbrev y_34 : MethodName := ⟨"java/lang/String", "charAt", "(I)C"⟩
abbrev y_35 : MethodName := ⟨"java/lang/AbstractStringBuilder", "inflateIfNeededFor", "(Ljava/lang/String;)V"⟩
abbrev y_36 : MethodName := ⟨"java/lang/String", "getBytes", "([BIB)V"⟩
abbrev y_37 : MethodName := ⟨"java/lang/AbstractStringBuilder", "putStringAt", "(ILjava/lang/String;)V"⟩
abbrev y_38 : MethodName := ⟨"java/lang/AbstractStringBuilder", "append", "(Ljava/lang/String;)Ljava/lang/AbstractStringBuilder;"⟩
abbrev y_39 : MethodName := ⟨"java/lang/StringBuilder", "append", "(Ljava/lang/String;)Ljava/lang/StringBuilder;"⟩
abbrev y_40 : MethodName := ⟨"java/lang/StringLatin1", "canEncode", "(C)Z"⟩
abbrev y_41 : MethodName := ⟨"java/lang/StringUTF16", "putCharSB", "([BII)V"⟩
abbrev y_42 : MethodName := ⟨"java/lang/AbstractStringBuilder", "append", "(C)Ljava/lang/AbstractStringBuilder;"⟩
abbrev y_43 : MethodName := ⟨"java/lang/StringBuilder", "append", "(C)Ljava/lang/StringBuilder;"⟩
abbrev y_44 : MethodName := ⟨"java/lang/String", "<init>", "(Ljava/lang/AbstractStringBuilder;Ljava/lang/Void;)V"⟩
abbrev y_45 : MethodName := ⟨"java/lang/String", "<init>", "(Ljava/lang/StringBuilder;)V"⟩
abbrev y_46 : MethodName := ⟨"java/lang/StringBuilder", "toString", "()Ljava/lang/String;"⟩
abbrev y_47 : MethodName := ⟨"java/lang/StringBuilder", "append", "(Ljava/lang/String;)Ljava/lang/AbstractStringBuilder;"⟩
abbrev y_48 : MethodName := ⟨"java/lang/AbstractStringBuilder", "<init>", "(Ljava/lang/String;)V"⟩
abbrev y_49 : MethodName := ⟨"java/lang/StringBuilder", "<init>", "(Ljava/lang/String;)V"⟩
abbrev y_50 : MethodName := ⟨"org/latchkey/cli/ResultLineFieldPinLaw", "str", "(II)Ljava/lang/String;"⟩
abbrev y_51 : MethodName := ⟨"org/latchkey/cli/ResultLine", "<init>", "(Ljava/lang/String;)V"⟩
abbrev y_52 : MethodName := ⟨"java/lang/String", "toString", "()Ljava/lang/String;"⟩
abbrev y_53 : MethodName := ⟨"java/lang/String", "valueOf", "(Ljava/lang/Object;)Ljava/lang/String;"⟩
abbrev y_54 : MethodName := ⟨"java/lang/Object", "toString", "()Ljava/lang/String;"⟩
abbrev y_55 : MethodName := ⟨"java/lang/StringBuilder", "append", "(Ljava/lang/Object;)Ljava/lang/StringBuilder;"⟩
abbrev y_56 : MethodName := ⟨"org/latchkey/cli/ResultLine", "field", "(Ljava/lang/String;Ljava/lang/Object;)Lorg/latchkey/cli/ResultLine;"⟩
abbrev y_57 : MethodName := ⟨"org/latchkey/cli/ResultLine", "toString", "()Ljava/lang/String;"⟩
abbrev y_58 : MethodName := ⟨"org/latchkey/cli/ResultLineFieldPinLaw", "at", "(Ljava/lang/String;ILjava/lang/String;)Z"⟩
abbrev y_59 : MethodName := ⟨"org/latchkey/cli/ResultLineFieldPinLaw", "fieldAt", "(Ljava/lang/String;ILjava/lang/String;Ljava/lang/String;)Z"⟩
abbrev r_m0 : Room := { frames := 0, cells := 0, slots := 0, locals := 0 }
abbrev r_m1 : Room := { frames := 1, cells := 1, slots := 4, locals := 12 }
abbrev r_m2 : Room := { frames := 2, cells := 1, slots := 4, locals := 24 }
abbrev r_m3 : Room := { frames := 3, cells := 2, slots := 6, locals := 40 }
abbrev r_m4 : Room := { frames := 4, cells := 2, slots := 6, locals := 57 }
abbrev r_m5 : Room := { frames := 5, cells := 2, slots := 6, locals := 74 }
abbrev r_m6 : Room := { frames := 1, cells := 0, slots := 0, locals := 15 }
abbrev r_m7 : Room := { frames := 2, cells := 0, slots := 0, locals := 30 }
abbrev r_m8 : Room := { frames := 3, cells := 0, slots := 0, locals := 45 }
abbrev r_m9 : Room := { frames := 4, cells := 0, slots := 0, locals := 62 }
abbrev r_m10 : Room := { frames := 1, cells := 1, slots := 36, locals := 12 }
abbrev r_m11 : Room := { frames := 5, cells := 1, slots := 36, locals := 80 }
abbrev r_m12 : Room := { frames := 1, cells := 0, slots := 0, locals := 13 }
abbrev r_m13 : Room := { frames := 1, cells := 0, slots := 0, locals := 14 }
abbrev r_m14 : Room := { frames := 1, cells := 1, slots := 36, locals := 40 }
abbrev r_m15 : Room := { frames := 2, cells := 1, slots := 36, locals := 60 }
abbrev r_m16 : Room := { frames := 1, cells := 0, slots := 0, locals := 20 }
abbrev r_m17 : Room := { frames := 2, cells := 0, slots := 0, locals := 40 }
abbrev r_m18 : Room := { frames := 3, cells := 0, slots := 0, locals := 60 }
abbrev r_m19 : Room := { frames := 4, cells := 0, slots := 0, locals := 76 }
abbrev r_m20 : Room := { frames := 6, cells := 1, slots := 36, locals := 95 }
abbrev r_m21 : Room := { frames := 5, cells := 0, slots := 0, locals := 80 }
abbrev r_m22 : Room := { frames := 7, cells := 1, slots := 36, locals := 110 }
abbrev r_m23 : Room := { frames := 8, cells := 1, slots := 36, locals := 126 }
abbrev r_m24 : Room := { frames := 9, cells := 1, slots := 36, locals := 142 }
abbrev r_m25 : Room := { frames := 4, cells := 0, slots := 0, locals := 80 }
abbrev r_m26 : Room := { frames := 5, cells := 0, slots := 0, locals := 96 }
abbrev r_m27 : Room := { frames := 3, cells := 1, slots := 36, locals := 80 }
abbrev r_m28 : Room := { frames := 4, cells := 1, slots := 36, locals := 100 }
abbrev r_m29 : Room := { frames := 5, cells := 2, slots := 40, locals := 120 }
abbrev r_m30 : Room := { frames := 10, cells := 1, slots := 36, locals := 160 }
abbrev r_m31 : Room := { frames := 11, cells := 2, slots := 72, locals := 180 }
abbrev r_m32 : Room := { frames := 12, cells := 2, slots := 72, locals := 196 }
abbrev r_m33 : Room := { frames := 1, cells := 2, slots := 4, locals := 12 }
abbrev r_m34 : Room := { frames := 2, cells := 2, slots := 4, locals := 30 }
abbrev r_m35 : Room := { frames := 6, cells := 4, slots := 20, locals := 92 }
abbrev r_m36 : Room := { frames := 13, cells := 3, slots := 80, locals := 215 }
abbrev r_m37 : Room := { frames := 0, cells := 2, slots := 20, locals := 0 }
abbrev r_m38 : Room := { frames := 10, cells := 3, slots := 56, locals := 160 }
abbrev r_m39 : Room := { frames := 11, cells := 4, slots := 92, locals := 180 }
abbrev r_m40 : Room := { frames := 6, cells := 2, slots := 40, locals := 140 }
abbrev r_m41 : Room := { frames := 5, cells := 0, slots := 0, locals := 92 }
abbrev r_m42 : Room := { frames := 6, cells := 0, slots := 0, locals := 110 }
/-- from the state A the run comes to an end with P -/
def Gl (tb : Tables) (e : Env) (below : List Frame) (P : Outcome → State → Prop) (A : State) : Prop := ∃ U o, Steps tb e below A U ∧ U.status = .running ∧ Ended U below o ∧ P o U
theorem Gl.go {tb : Tables} {e : Env} {below : List Frame} {P : Outcome → State → Prop} {A B : State} (h : ∀ t, Steps tb e below B t → Steps tb e below A t) (k : Gl tb e below P B) : Gl tb e below P A := by
 obtain ⟨U, o, h1, r⟩ := k
 exact ⟨U, o, h U h1, r⟩
theorem Gl.st {tb : Tables} {e : Env} {below : List Frame} {P : Outcome → State → Prop} {A B : State} (h : Steps tb e below A B) (k : Gl tb e below P B) : Gl tb e below P A := by
 obtain ⟨U, o, h1, r⟩ := k
 exact ⟨U, o, h.trans h1, r⟩
/-- from the state A the run comes to the frame F over a state of which P holds -/
def Sg (P : State → Prop) (F : JFrame) (tb : Tables) (e : Env) (below : List Frame) (A : State) : Prop := ∃ T, P T ∧ ∀ t, Steps tb e below (T.setTop F) t → Steps tb e below A t
theorem Sg.go {P : State → Prop} {F : JFrame} {tb : Tables} {e : Env} {below : List Frame} {A B : State} (h : ∀ t, Steps tb e below B t → Steps tb e below A t) (k : Sg P F tb e below B) : Sg P F tb e below A := by
 obtain ⟨T, h1, h2⟩ := k
 exact ⟨T, h1, fun t ht => h t (h2 t ht)⟩
theorem Sg.st {P : State → Prop} {F : JFrame} {tb : Tables} {e : Env} {below : List Frame} {A B : State} (h : Steps tb e below A B) (k : Sg P F tb e below B) : Sg P F tb e below A := by
 obtain ⟨T, h1, h2⟩ := k
 exact ⟨T, h1, fun t ht => h.trans (h2 t ht)⟩
/-- what is shown of a state holds also where the run comes from -/
def Cl (tb : Tables) (e : Env) (below : List Frame) (K : State → Prop) : Prop := ∀ A B, (∀ t, Steps tb e below B t → Steps tb e below A t) → K B → K A
theorem Gl.cl {tb : Tables} {e : Env} {below : List Frame} {P : Outcome → State → Prop} : Cl tb e below (Gl tb e below P) := fun _ _ h k => Gl.go h k
theorem Sg.cl {P : State → Prop} {F : JFrame} {tb : Tables} {e : Env} {below : List Frame} : Cl tb e below (Sg P F tb e below) := fun _ _ h k => Sg.go h k
section Glue
variable {p : Program} {l : Launch} {e : Env} {R : Room} {s : State} {m : MethodId} {args : Array Value} {below : List Frame} {meth : Method} {c : Code} {T : State} {locs : List Loc} {cells slots : Nat} {Z : State} {a0 : Array Value} {h : Heap} {K0 : State → Prop} {pc : Nat} {Ls : Array Slot} {Ks : List Value} {rest : List Value}
theorem gGetF {own R0 O n d host : String} {index : Nat} {a : Addr} {v : Value} (hG : Cl p.tables e below K0) (X : Stand p l e R s m args below meth c T locs cells slots) (hx : p.tables.exec = Jvm.exec) (hZ : Z.Warmed39 s.vm) (hown : s.vm.findClass own = some m.cls) (w : (Cond.fieldLink own index R0 n d).before a0 Z = true ∨ (Cond.fieldLinkNest own index R0 n d host).before a0 Z = true) (via : Via Z R0 O n d) (eT : T.heap = h) (F : Fld Z h a O n d v) (hg : m = m) (hs : Ks = .ref a :: rest) (hd : decode c.code pc = .ok (.getfield index, 3))
  (k : ∀ T', Stand p l e R s m args below meth c T' locs cells slots → T'.heap = h → K0 (T'.setTop (mkF m (pc + 3) (Ls) (v :: rest)))) : K0 (T.setTop (mkF m pc Ls Ks)) := by
 obtain ⟨T', X', e', st⟩ := getF (g := mkF m pc Ls Ks) X hx hZ hown w via eT F hg hs hd
 exact hG _ _ st (k T' X' e')
theorem gGetS {own R0 O n d host : String} {index : Nat} {v : Value} (hG : Cl p.tables e below K0) (X : Stand p l e R s m args below meth c T locs cells slots) (hx : p.tables.exec = Jvm.exec) (hZ : Z.Warmed39 s.vm) (hown : s.vm.findClass own = some m.cls) (w : (Cond.fieldLink own index R0 n d).before a0 Z = true ∨ (Cond.fieldLinkNest own index R0 n d host).before a0 Z = true) (via : Via Z R0 O n d) (eT : T.heap = h) (F : Sta Z h O n d v) (hg : m = m) (hd : decode c.code pc = .ok (.getstatic index, 3))
  (k : ∀ T', Stand p l e R s m args below meth c T' locs cells slots → T'.heap = h → K0 (T'.setTop (mkF m (pc + 3) (Ls) (v :: Ks)))) : K0 (T.setTop (mkF m pc Ls Ks)) := by
 obtain ⟨T', X', e', st⟩ := getS2 (g := mkF m pc Ls Ks) X hx hZ hown w via eT F hg hd
 exact hG _ _ st (k T' X' e')
theorem gPutF {own R0 O n d host C : String} {index kk : Nat} {ty : FieldType} {a : Addr} {v old : Value} (hG : Cl p.tables e below K0) (X : Stand p l e R s m args below meth c T locs cells slots) (hx : p.tables.exec = Jvm.exec) (hZ : Z.Warmed39 s.vm) (hown : s.vm.findClass own = some m.cls) (w : (Cond.fieldLink own index R0 n d).before a0 Z = true ∨ (Cond.fieldLinkNest own index R0 n d host).before a0 Z = true) (via : Via Z R0 O n d) (eT : T.heap = h) (F : Fld Z h a O n d old) (E : Exa Z h a C) (L : (Cond.lays C O n d).before a0 Z = true ∨ ((Cond.laysFinal C O n d).before a0 Z = true ∧ own = O ∧ meth.name = "<init>")) (wi : (Cond.instantiable C kk).before a0 Z = true) (hty : parseFieldDescriptor d = some ty) (hn : narrow ty v = v) (hf : fits ty v = true) (hg : m = m) (hs : Ks = v :: .ref a :: rest) (hd : decode c.code pc = .ok (.putfield index, 3))
  (k : ∀ T' h', Stand p l e R s m args below meth c T' (locs ++ [⟨a, Jvm.RoadKit.slotOf Z O n d⟩]) cells slots → T'.heap = h' → Wr h h' a (Jvm.RoadKit.slotOf Z O n d) v → K0 (T'.setTop (mkF m (pc + 3) (Ls) (rest)))) : K0 (T.setTop (mkF m pc Ls Ks)) := by
 obtain ⟨T', h', X', e', W, st⟩ := putF (g := mkF m pc Ls Ks) X hx hZ hown w via eT F E L wi hty hn hf hg hs hd
 exact hG _ _ st (k T' h' X' e' W)
theorem gCast {own K : String} {index : Nat} {a : Addr} (hG : Cl p.tables e below K0) (X : Stand p l e R s m args below meth c T locs cells slots) (hx : p.tables.exec = Jvm.exec) (hZ : Z.Warmed39 s.vm) (hown : s.vm.findClass own = some m.cls) (w : (Cond.classLink own index K).before a0 Z = true) (eT : T.heap = h) (F : Ins Z h a K true) (hg : m = m) (hs : Ks = .ref a :: rest) (hd : decode c.code pc = .ok (.checkcast index, 3))
  (k : ∀ T', Stand p l e R s m args below meth c T' locs cells slots → T'.heap = h → K0 (T'.setTop (mkF m (pc + 3) (Ls) (Ks)))) : K0 (T.setTop (mkF m pc Ls Ks)) := by
 obtain ⟨T', X', e', st⟩ := castY (g := mkF m pc Ls Ks) X hx hZ hown w eT F hg hs hd
 exact hG _ _ st (k T' X' e')
theorem gInit {own : String} {idx : Nat} {a : Addr} {W : Nat} (hG : Cl p.tables e below K0) (X : Stand p l e R s m args below meth c T locs cells slots) (hx : p.tables.exec = Jvm.exec) (hZ : Z.Warmed39 s.vm) (hown : s.vm.findClass own = some m.cls) (w1 : (Cond.methodLink own idx Lib.objectInit).before a0 Z = true) (w2 : (Cond.instanceMethod Lib.objectInit).before a0 Z = true) (w3 : (Cond.code Lib.objectInit ⟨#[0xb1]⟩ 1 none).before a0 Z = true) (eT : T.heap = h) (hg : m = m) (hsize : Ls.size = c.maxLocals) (hs : Ks = .ref a :: rest) (hd : decode c.code pc = .ok (.invokespecial idx, 3)) (hf : 1 ≤ R.frames) (hW : 2 * 0 + (rest.map fun v => v.category).sum ≤ W) (hl : W + 12 ≤ R.locals)
  (k : ∀ T', Stand p l e R s m args below meth c T' locs cells slots → T'.heap = h → K0 (T'.setTop (mkF m (pc + 3) (Ls) (rest)))) : K0 (T.setTop (mkF m pc Ls Ks)) := by
 obtain ⟨T', X', e', st⟩ := initO (g := mkF m pc Ls Ks) X hx hZ hown w1 w2 w3 eT hg hsize hs hd hf hW hl
 exact hG _ _ st (k T' X' e')
theorem gNew {own C : String} {index n : Nat} (hG : Cl p.tables e below K0) (X : Stand p l e R s m args below meth c T locs cells slots) (hx : p.tables.exec = Jvm.exec) (hZ : Z.Warmed39 s.vm) (hown : s.vm.findClass own = some m.cls) (w : (Cond.classLink own index C).before a0 Z = true) (wi : (Cond.instantiable C n).before a0 Z = true) (wz : (Cond.initialized C).before a0 Z = true) (eT : T.heap = h) (hg : m = m) (hd : decode c.code pc = .ok (.new index, 3)) (hc : cells + 1 ≤ R.cells) (hl : slots + n ≤ R.slots)
  (k : ∀ T' h' b, b = h.size → Stand p l e R s m args below meth c T' locs (cells + 1) (slots + n) → T'.heap = h' → Ext h h' → Exa Z h' b C → (∀ {O nm d : String} {ty : FieldType}, Laid Z a0 C O nm d → parseFieldDescriptor d = some ty → Fld Z h' b O nm d (defaultValue ty)) → K0 (T'.setTop (mkF m (pc + 3) (Ls) (.ref b :: Ks)))) : K0 (T.setTop (mkF m pc Ls Ks)) := by
 obtain ⟨T', h', X', e', E, A, D, -, st⟩ := newO (g := mkF m pc Ls Ks) X hx hZ hown w wi wz eT hg hd hc hl
 exact hG _ _ st (k T' h' _ rfl X' e' E A D)
theorem gNewPE {aty : ArrayType} {n : Int32} {cap : Nat} {ad : String} (hG : Cl p.tables e below K0) (X : Stand p l e R s m args below meth c T locs cells slots) (hx : p.tables.exec = Jvm.exec) (hZ : Z.Warmed39 s.vm) (w : (Cond.arrayClass (newarray.typeOf aty)).before a0 Z = true) (eT : T.heap = h) (hg : m = m) (hd : decode c.code pc = .ok (.newarray aty, 2)) (hs : Ks = .int n :: rest) (hn : ¬ n < 0) (hcap : n.toNatClampNeg ≤ cap) (hb : cap * 8 ≤ 536870912) (hc : cells + 1 ≤ R.cells) (hl : slots + cap ≤ R.slots) (had : "[" ++ (newarray.typeOf aty).toString = ad)
  (k : ∀ T' h' b cA, b = h.size → Stand p l e R s m args below meth c T' locs (cells + 1) (slots + cap) → T'.heap = h' → Ext h h' → Arr Z h' b (newA cA (newarray.typeOf aty) n) (newarray.typeOf aty) → Exa Z h' b ad → K0 (T'.setTop (mkF m (pc + 2) (Ls) (.ref b :: rest)))) : K0 (T.setTop (mkF m pc Ls Ks)) := by
 obtain ⟨T', h', cA, X', e', E, A, B, st⟩ := newPE (g := mkF m pc Ls Ks) X hx hZ w eT hg hd hs hn hcap hb hc hl had
 exact hG _ _ st (k T' h' _ cA rfl X' e' E A B)
theorem gstC {a : Addr} {cl : Cell} {j : Int32} {x : Int32} (hG : Cl p.tables e below K0) (X : Stand p l e R s m args below meth c T locs cells slots) (hx : p.tables.exec = Jvm.exec) (hZ : Z.Warmed39 s.vm) (eT : T.heap = h) (A : Arr Z h a cl .char) (hj : ¬ (j < 0 ∨ cl.slots.size ≤ j.toNatClampNeg)) (hg : m = m) (hs : Ks = .int x :: .int j :: .ref a :: rest) (hd : decode c.code pc = .ok (.castore, 1))
  (k : ∀ T' h', Stand p l e R s m args below meth c T' (locs ++ [⟨a, j.toNatClampNeg⟩]) cells slots → T'.heap = h' → Wr h h' a j.toNatClampNeg (.int (nar .char x)) → K0 (T'.setTop (mkF m (pc + 1) (Ls) (rest)))) : K0 (T.setTop (mkF m pc Ls Ks)) := by
 obtain ⟨T', h', X', e', W, st⟩ := stC (g := mkF m pc Ls Ks) X hx hZ eT A hj hg hs hd
 exact hG _ _ st (k T' h' X' e' W)
theorem gstB {a : Addr} {cl : Cell} {j : Int32} {x : Int32} (hG : Cl p.tables e below K0) (X : Stand p l e R s m args below meth c T locs cells slots) (hx : p.tables.exec = Jvm.exec) (hZ : Z.Warmed39 s.vm) (eT : T.heap = h) (A : Arr Z h a cl .byte) (hj : ¬ (j < 0 ∨ cl.slots.size ≤ j.toNatClampNeg)) (hg : m = m) (hs : Ks = .int x :: .int j :: .ref a :: rest) (hd : decode c.code pc = .ok (.bastore, 1))
  (k : ∀ T' h', Stand p l e R s m args below meth c T' (locs ++ [⟨a, j.toNatClampNeg⟩]) cells slots → T'.heap = h' → Wr h h' a j.toNatClampNeg (.int (nar .byte x)) → K0 (T'.setTop (mkF m (pc + 1) (Ls) (rest)))) : K0 (T.setTop (mkF m pc Ls Ks)) := by
 obtain ⟨T', h', X', e', W, st⟩ := stB (g := mkF m pc Ls Ks) X hx hZ eT A hj hg hs hd
 exact hG _ _ st (k T' h' X' e' W)
theorem g_caload {a : Addr} {cl : Cell} {j : Int32} {v : Value} (hG : Cl p.tables e below K0) (X : Stand p l e R s m args below meth c T locs cells slots) (hx : p.tables.exec = Jvm.exec) (hZ : Z.Warmed39 s.vm) (eT : T.heap = h) (A : Arr Z h a cl .char) (hj : ¬ (j < 0 ∨ cl.slots.size ≤ j.toNatClampNeg)) (hv : cl.slots[j.toNatClampNeg]? = some v) (hg : m = m) (hs : Ks = .int j :: .ref a :: rest) (hd : decode c.code pc = .ok (.caload, 1))
  (k : K0 (T.setTop (mkF m (pc + 1) (Ls) (v :: rest)))) : K0 (T.setTop (mkF m pc Ls Ks)) :=
 hG _ _ (X.caload (g := mkF m pc Ls Ks) hx (by rw [eT]; exact A.1) (State.isArrayOf_alike hZ.alike A.2.1) A.2.2 hj hv hg hs hd) k
theorem g_baload {a : Addr} {cl : Cell} {j : Int32} {v : Value} (hG : Cl p.tables e below K0) (X : Stand p l e R s m args below meth c T locs cells slots) (hx : p.tables.exec = Jvm.exec) (hZ : Z.Warmed39 s.vm) (eT : T.heap = h) (A : Arr Z h a cl .byte) (hj : ¬ (j < 0 ∨ cl.slots.size ≤ j.toNatClampNeg)) (hv : cl.slots[j.toNatClampNeg]? = some v) (hg : m = m) (hs : Ks = .int j :: .ref a :: rest) (hd : decode c.code pc = .ok (.baload, 1))
  (k : K0 (T.setTop (mkF m (pc + 1) (Ls) (v :: rest)))) : K0 (T.setTop (mkF m pc Ls Ks)) :=
 hG _ _ (X.baloadBytes (g := mkF m pc Ls Ks) hx (by rw [eT]; exact A.1) (State.isArrayOf_alike hZ.alike A.2.1) A.2.2 hj hv hg hs hd) k
theorem gLen {a : Addr} {cl : Cell} {ty : FieldType} {z : Int32} (hG : Cl p.tables e below K0) (X : Stand p l e R s m args below meth c T locs cells slots) (hx : p.tables.exec = Jvm.exec) (hZ : Z.Warmed39 s.vm) (eT : T.heap = h) (A : Arr Z h a cl ty) (S : cl.slots.size = z.toNatClampNeg) (N : ¬ z < 0) (hg : m = m) (hs : Ks = .ref a :: rest) (hd : decode c.code pc = .ok (.arraylength, 1))
  (k : K0 (T.setTop (mkF m (pc + 1) (Ls) (.int z :: rest)))) : K0 (T.setTop (mkF m pc Ls Ks)) := by
 refine hG _ _ (X.arraylength (g := mkF m pc Ls Ks) hx (by rw [eT]; exact A.1) (State.isArrayOf_alike hZ.alike A.2.1) hg hs hd) ?_
 rw [len_of S N]
 exact k
theorem gStaticN {own : String} {index : Nat} {y : MethodName} {bytes : ByteArray} {maxL : Nat} {ret : Option FieldType} {W mc ms : Nat} {as' : Array Value} {Q : Option Value → Heap → List Loc → Prop} {argsL : List Value} (hG : Cl p.tables e below K0) (X : Stand p l e R s m args below meth c T locs cells slots) (hx : p.tables.exec = Jvm.exec) (hZ : Z.Warmed39 s.vm) (hown : s.vm.findClass own = some m.cls) (hlink : (Cond.methodLink own index y).before args s = true) (hstat : (Cond.static y).before args s = true) (hinit : (Cond.initialized y.cls).before args s = true) (hcode : (Cond.code y bytes maxL ret).before args s = true) (hy : y.cls ≠ "java/lang/invoke/MethodHandle" ∧ y.cls ≠ "java/lang/invoke/VarHandle") (hK : Back l R p e below s args y 3 W (fun A a => a = as' ∧ A.U.heap = h ∧ A.cells + mc ≤ R.cells ∧ A.slots + ms ≤ R.slots) (fun A _ v B => ∃ L, Q v B.U.heap L ∧ B.locs = A.locs ++ L ∧ B.cells = A.cells + mc ∧ B.slots = A.slots + ms)) (hg : m = m) (hsize : Ls.size = c.maxLocals) (hlen : ∀ sig, parseMethodDescriptor y.desc = some sig → argsL.length = sig.parameters.length) (hstack : Ks = argsL.reverse ++ rest) (hW : 2 * 0 + (rest.map fun v => v.category).sum ≤ W) (hdg : decode c.code pc = .ok (.invokestatic index, 3)) (has : argsL.toArray = as') (eT : T.heap = h) (hc : cells + mc ≤ R.cells) (hsl : slots + ms ≤ R.slots)
  (k : ∀ (v : Option Value) (T' : State) (L : List Loc), Q v T'.heap L → Stand p l e R s m args below meth c T' (locs ++ L) (cells + mc) (slots + ms) → K0 (T'.setTop (mkF m (pc + 3) (Ls) (v.toList ++ rest)))) : K0 (T.setTop (mkF m pc Ls Ks)) := by
 obtain ⟨v, vm₁, ⟨T', L', k', n'⟩, -, X', ⟨Lc, hQ, h1, h2, h3⟩, st⟩ := Jvm.LawKit.callS (g := mkF m pc Ls Ks) X hx hown hlink hstat hinit hcode hy hK hg hsize hlen hstack hW hdg (fun vm₁ hvm => ⟨has, eT, hc, hsl⟩)
 dsimp only [Pt.U, Pt.locs, Pt.cells, Pt.slots] at X' hQ h1 h2 h3 st
 subst h1 h2 h3
 exact hG _ _ st (k v T' Lc hQ X')
theorem gStaticJ {own : String} {index : Nat} {y : MethodName} {bytes : ByteArray} {maxL : Nat} {ret : Option FieldType} {W mc ms : Nat} {as' : Array Value} {Q : Option Value → Heap → Vm → List Loc → Prop} {argsL : List Value} {vm0 : Vm} {k0 : Nat} {Φ : Vm → Prop} (hG : Cl p.tables e below K0) (X : Stand p l e R (s.setVm vm0) m args below meth c T locs cells slots) (hx : p.tables.exec = Jvm.exec) (hZ : Z.Warmed39 (s.setVm vm0).vm) (hS : s.Since vm0 k0) (hk : k0 ≤ h.size) (hown : (s.setVm vm0).vm.findClass own = some m.cls) (hlink : (Cond.methodLink own index y).before args (s.setVm vm0) = true) (hstat : (Cond.static y).before args (s.setVm vm0) = true) (hinit : (Cond.initialized y.cls).before args (s.setVm vm0) = true) (hcode : (Cond.code y bytes maxL ret).before args (s.setVm vm0) = true) (hy : y.cls ≠ "java/lang/invoke/MethodHandle" ∧ y.cls ≠ "java/lang/invoke/VarHandle") (hK : BackS l R p e below (s.setVm vm0) args y 3 W (fun A a => a = as' ∧ A.U.heap = h ∧ Φ A.U.vm ∧ A.cells + mc ≤ R.cells ∧ A.slots + ms ≤ R.slots) (fun A _ v B => ∃ L, Q v B.U.heap B.U.vm L ∧ B.locs = A.locs ++ L ∧ B.cells = A.cells + mc ∧ B.slots = A.slots + ms)) (hg : m = m) (hsize : Ls.size = c.maxLocals) (hlen : ∀ sig, parseMethodDescriptor y.desc = some sig → argsL.length = sig.parameters.length) (hstack : Ks = argsL.reverse ++ rest) (hW : 2 * 0 + (rest.map fun v => v.category).sum ≤ W) (hdg : decode c.code pc = .ok (.invokestatic index, 3)) (has : argsL.toArray = as') (eT : T.heap = h) (hΦ : ∀ vm₁, (s.setVm vm0).WarmedH vm₁ → Φ vm₁) (hc : cells + mc ≤ R.cells) (hsl : slots + ms ≤ R.slots)
  (k : ∀ (v : Option Value) (T' : State) (L : List Loc), Q v T'.heap T'.vm L → Stand p l e R (s.setVm T'.vm) m args below meth c T' (locs ++ L) (cells + mc) (slots + ms) → s.Since T'.vm T'.heap.size → Z.Warmed39 (s.setVm T'.vm).vm → (s.setVm T'.vm).vm.findClass own = some m.cls → T'.heap.size ≤ T'.heap.size → K0 (T'.setTop (mkF m (pc + 3) (Ls) (v.toList ++ rest)))) : K0 (T.setTop (mkF m pc Ls Ks)) := by
 obtain ⟨v, vm₁, ⟨T', L', k', n'⟩, -, X', hS', gr, ⟨Lc, hQ, h1, h2, h3⟩, st⟩ := callSS (g := mkF m pc Ls Ks) X hx hown hlink hstat hinit hcode hy hK hg hsize hlen hstack hW hdg (fun vm₁ hvm => ⟨has, eT, hΦ vm₁ hvm, hc, hsl⟩)
 dsimp only [Pt.U, Pt.locs, Pt.cells, Pt.slots] at X' hQ h1 h2 h3 st hS' gr
 subst h1 h2 h3
 obtain ⟨X2, aa, ab, ac⟩ := rebS hS (Nat.le_trans hk (Nat.le_of_eq (congrArg Array.size eT.symm))) X' hS' gr hZ hown
 exact hG _ _ (fun _ q => st.trans q) (k v T' Lc hQ X2 aa ab ac (Nat.le_refl _))
theorem gSpecialN {own : String} {index : Nat} {y : MethodName} {bytes : ByteArray} {maxL : Nat} {b : Addr} {W mc ms : Nat} {as' : Array Value} {Q : Option Value → Heap → List Loc → Prop} {argsL : List Value} (hG : Cl p.tables e below K0) (X : Stand p l e R s m args below meth c T locs cells slots) (hx : p.tables.exec = Jvm.exec) (hZ : Z.Warmed39 s.vm) (hown : s.vm.findClass own = some m.cls) (hy1 : y.name = "<init>") (hlink : (Cond.methodLink own index y).before args s = true) (hinst : (Cond.instanceMethod y).before args s = true) (hcode : (Cond.code y bytes maxL none).before args s = true) (hy : y.cls ≠ "java/lang/invoke/MethodHandle" ∧ y.cls ≠ "java/lang/invoke/VarHandle") (hK : Back l R p e below s args y 3 W (fun A a => a = as' ∧ A.U.heap = h ∧ A.cells + mc ≤ R.cells ∧ A.slots + ms ≤ R.slots) (fun A _ v B => ∃ L, Q v B.U.heap L ∧ B.locs = A.locs ++ L ∧ B.cells = A.cells + mc ∧ B.slots = A.slots + ms)) (hg : m = m) (hsize : Ls.size = c.maxLocals) (hlen : ∀ sig, parseMethodDescriptor y.desc = some sig → argsL.length = sig.parameters.length) (hstack : Ks = argsL.reverse ++ .ref b :: rest) (hW : 2 * 0 + (rest.map fun v => v.category).sum ≤ W) (hdg : decode c.code pc = .ok (.invokespecial index, 3)) (has : (.ref b :: argsL).toArray = as') (eT : T.heap = h) (hc : cells + mc ≤ R.cells) (hsl : slots + ms ≤ R.slots)
  (k : ∀ (v : Option Value) (T' : State) (L : List Loc), Q v T'.heap L → Stand p l e R s m args below meth c T' (locs ++ L) (cells + mc) (slots + ms) → K0 (T'.setTop (mkF m (pc + 3) (Ls) (v.toList ++ rest)))) : K0 (T.setTop (mkF m pc Ls Ks)) := by
 obtain ⟨v, vm₁, ⟨T', L', k', n'⟩, -, X', ⟨Lc, hQ, h1, h2, h3⟩, st⟩ := X.specialBack (g := mkF m pc Ls Ks) hx hy1 hown hlink hinst hcode hy hK hg hsize (Steps.refl _) hlen hstack hW hdg (fun vm₁ hvm => ⟨has, eT, hc, hsl⟩)
 dsimp only [Pt.U, Pt.locs, Pt.cells, Pt.slots] at X' hQ h1 h2 h3 st
 subst h1 h2 h3
 exact hG _ _ (fun _ q => st.trans q) (k v T' Lc hQ X')
theorem gSpecialJ {own : String} {index : Nat} {y : MethodName} {bytes : ByteArray} {maxL : Nat} {b : Addr} {W mc ms : Nat} {as' : Array Value} {Q : Option Value → Heap → Vm → List Loc → Prop} {argsL : List Value} {vm0 : Vm} {k0 : Nat} {Φ : Vm → Prop} (hG : Cl p.tables e below K0) (X : Stand p l e R (s.setVm vm0) m args below meth c T locs cells slots) (hx : p.tables.exec = Jvm.exec) (hZ : Z.Warmed39 (s.setVm vm0).vm) (hS : s.Since vm0 k0) (hk : k0 ≤ h.size) (hown : (s.setVm vm0).vm.findClass own = some m.cls) (hy1 : y.name = "<init>") (hlink : (Cond.methodLink own index y).before args (s.setVm vm0) = true) (hinst : (Cond.instanceMethod y).before args (s.setVm vm0) = true) (hcode : (Cond.code y bytes maxL none).before args (s.setVm vm0) = true) (hy : y.cls ≠ "java/lang/invoke/MethodHandle" ∧ y.cls ≠ "java/lang/invoke/VarHandle") (hK : BackS l R p e below (s.setVm vm0) args y 3 W (fun A a => a = as' ∧ A.U.heap = h ∧ Φ A.U.vm ∧ A.cells + mc ≤ R.cells ∧ A.slots + ms ≤ R.slots) (fun A _ v B => ∃ L, Q v B.U.heap B.U.vm L ∧ B.locs = A.locs ++ L ∧ B.cells = A.cells + mc ∧ B.slots = A.slots + ms)) (hg : m = m) (hsize : Ls.size = c.maxLocals) (hlen : ∀ sig, parseMethodDescriptor y.desc = some sig → argsL.length = sig.parameters.length) (hstack : Ks = argsL.reverse ++ .ref b :: rest) (hW : 2 * 0 + (rest.map fun v => v.category).sum ≤ W) (hdg : decode c.code pc = .ok (.invokespecial index, 3)) (has : (.ref b :: argsL).toArray = as') (eT : T.heap = h) (hΦ : ∀ vm₁, (s.setVm vm0).WarmedH vm₁ → Φ vm₁) (hc : cells + mc ≤ R.cells) (hsl : slots + ms ≤ R.slots)
  (k : ∀ (v : Option Value) (T' : State) (L : List Loc), Q v T'.heap T'.vm L → Stand p l e R (s.setVm T'.vm) m args below meth c T' (locs ++ L) (cells + mc) (slots + ms) → s.Since T'.vm T'.heap.size → Z.Warmed39 (s.setVm T'.vm).vm → (s.setVm T'.vm).vm.findClass own = some m.cls → T'.heap.size ≤ T'.heap.size → K0 (T'.setTop (mkF m (pc + 3) (Ls) (v.toList ++ rest)))) : K0 (T.setTop (mkF m pc Ls Ks)) := by
 obtain ⟨v, vm₁, ⟨T', L', k', n'⟩, -, X', hS', gr, ⟨Lc, hQ, h1, h2, h3⟩, st⟩ := X.specialBackS (g := mkF m pc Ls Ks) hx hy1 hown hlink hinst hcode hy hK hg hsize (Steps.refl _) hlen hstack hW hdg (fun vm₁ hvm => ⟨has, eT, hΦ vm₁ hvm, hc, hsl⟩)
 dsimp only [Pt.U, Pt.locs, Pt.cells, Pt.slots] at X' hQ h1 h2 h3 st hS' gr
 subst h1 h2 h3
 obtain ⟨X2, aa, ab, ac⟩ := rebS hS (Nat.le_trans hk (Nat.le_of_eq (congrArg Array.size eT.symm))) X' hS' gr hZ hown
 exact hG _ _ (fun _ q => st.trans q) (k v T' Lc hQ X2 aa ab ac (Nat.le_refl _))
theorem gVirtualN {own C : String} {index : Nat} {y z : MethodName} {b : Addr} {W mc ms : Nat} {as' : Array Value} {Q : Option Value → Heap → List Loc → Prop} {argsL : List Value} (hG : Cl p.tables e below K0) (X : Stand p l e R s m args below meth c T locs cells slots) (hx : p.tables.exec = Jvm.exec) (hZ : Z.Warmed39 s.vm) (hown : s.vm.findClass own = some m.cls) (hlink : (Cond.methodLink own index y).before args s = true) (hdecl : (Cond.declares y).before args s = true) (hnf : NotFace s y) (hsel : (Cond.selects C y z).before args s = true) (hinst : (Cond.instanceMethod z).before args s = true) (hy : y.cls ≠ "java/lang/invoke/MethodHandle" ∧ y.cls ≠ "java/lang/invoke/VarHandle") (E : Exa Z h b C) (hK : Back l R p e below s args z 3 W (fun A a => a = as' ∧ A.U.heap = h ∧ A.cells + mc ≤ R.cells ∧ A.slots + ms ≤ R.slots) (fun A _ v B => ∃ L, Q v B.U.heap L ∧ B.locs = A.locs ++ L ∧ B.cells = A.cells + mc ∧ B.slots = A.slots + ms)) (hg : m = m) (hsize : Ls.size = c.maxLocals) (hlen : ∀ sig, parseMethodDescriptor y.desc = some sig → argsL.length = sig.parameters.length) (hstack : Ks = argsL.reverse ++ .ref b :: rest) (hW : 2 * 0 + (rest.map fun v => v.category).sum ≤ W) (hdg : decode c.code pc = .ok (.invokevirtual index, 3)) (has : (.ref b :: argsL).toArray = as') (eT : T.heap = h) (hc : cells + mc ≤ R.cells) (hsl : slots + ms ≤ R.slots)
  (k : ∀ (v : Option Value) (T' : State) (L : List Loc), Q v T'.heap L → Stand p l e R s m args below meth c T' (locs ++ L) (cells + mc) (slots + ms) → K0 (T'.setTop (mkF m (pc + 3) (Ls) (v.toList ++ rest)))) : K0 (T.setTop (mkF m pc Ls Ks)) := by
 obtain ⟨cq, kq, q1, q2, q3⟩ := isOf hZ eT E
 obtain ⟨v, vm₁, ⟨T', L', k', n'⟩, -, X', ⟨Lc, hQ, h1, h2, h3⟩, st⟩ := X.virtualBack (g := mkF m pc Ls Ks) hx hown hlink hdecl hnf hsel hinst hy hK q1 q3 hg hsize (Steps.refl _) hlen hstack hW hdg (fun vm₁ hvm => ⟨has, eT, hc, hsl⟩)
 dsimp only [Pt.U, Pt.locs, Pt.cells, Pt.slots] at X' hQ h1 h2 h3 st
 subst h1 h2 h3
 exact hG _ _ (fun _ q => st.trans q) (k v T' Lc hQ X')
theorem gVirtualJ {own C : String} {index : Nat} {y z : MethodName} {b : Addr} {W mc ms : Nat} {as' : Array Value} {Q : Option Value → Heap → Vm → List Loc → Prop} {argsL : List Value} {vm0 : Vm} {k0 : Nat} {Φ : Vm → Prop} (hG : Cl p.tables e below K0) (X : Stand p l e R (s.setVm vm0) m args below meth c T locs cells slots) (hx : p.tables.exec = Jvm.exec) (hZ : Z.Warmed39 (s.setVm vm0).vm) (hS : s.Since vm0 k0) (hk : k0 ≤ h.size) (hown : (s.setVm vm0).vm.findClass own = some m.cls) (hlink : (Cond.methodLink own index y).before args (s.setVm vm0) = true) (hdecl : (Cond.declares y).before args (s.setVm vm0) = true) (hnf : NotFace (s.setVm vm0) y) (hsel : (Cond.selects C y z).before args (s.setVm vm0) = true) (hinst : (Cond.instanceMethod z).before args (s.setVm vm0) = true) (hy : y.cls ≠ "java/lang/invoke/MethodHandle" ∧ y.cls ≠ "java/lang/invoke/VarHandle") (E : Exa Z h b C) (hK : BackS l R p e below (s.setVm vm0) args z 3 W (fun A a => a = as' ∧ A.U.heap = h ∧ Φ A.U.vm ∧ A.cells + mc ≤ R.cells ∧ A.slots + ms ≤ R.slots) (fun A _ v B => ∃ L, Q v B.U.heap B.U.vm L ∧ B.locs = A.locs ++ L ∧ B.cells = A.cells + mc ∧ B.slots = A.slots + ms)) (hg : m = m) (hsize : Ls.size = c.maxLocals) (hlen : ∀ sig, parseMethodDescriptor y.desc = some sig → argsL.length = sig.parameters.length) (hstack : Ks = argsL.reverse ++ .ref b :: rest) (hW : 2 * 0 + (rest.map fun v => v.category).sum ≤ W) (hdg : decode c.code pc = .ok (.invokevirtual index, 3)) (has : (.ref b :: argsL).toArray = as') (eT : T.heap = h) (hΦ : ∀ vm₁, (s.setVm vm0).WarmedH vm₁ → Φ vm₁) (hc : cells + mc ≤ R.cells) (hsl : slots + ms ≤ R.slots)
  (k : ∀ (v : Option Value) (T' : State) (L : List Loc), Q v T'.heap T'.vm L → Stand p l e R (s.setVm T'.vm) m args below meth c T' (locs ++ L) (cells + mc) (slots + ms) → s.Since T'.vm T'.heap.size → Z.Warmed39 (s.setVm T'.vm).vm → (s.setVm T'.vm).vm.findClass own = some m.cls → T'.heap.size ≤ T'.heap.size → K0 (T'.setTop (mkF m (pc + 3) (Ls) (v.toList ++ rest)))) : K0 (T.setTop (mkF m pc Ls Ks)) := by
 obtain ⟨cq, kq, q1, q2, q3⟩ := isOf hZ eT E
 obtain ⟨v, vm₁, ⟨T', L', k', n'⟩, -, X', hS', gr, ⟨Lc, hQ, h1, h2, h3⟩, st⟩ := X.virtualBackS (g := mkF m pc Ls Ks) hx hown hlink hdecl hnf hsel hinst hy hK q1 q3 hg hsize (Steps.refl _) hlen hstack hW hdg (fun vm₁ hvm => ⟨has, eT, hΦ vm₁ hvm, hc, hsl⟩)
 dsimp only [Pt.U, Pt.locs, Pt.cells, Pt.slots] at X' hQ h1 h2 h3 st hS' gr
 subst h1 h2 h3
 obtain ⟨X2, aa, ab, ac⟩ := rebS hS (Nat.le_trans hk (Nat.le_of_eq (congrArg Array.size eT.symm))) X' hS' gr hZ hown
 exact hG _ _ (fun _ q => st.trans q) (k v T' Lc hQ X2 aa ab ac (Nat.le_refl _))
theorem gPrivN {own C : String} {index : Nat} {y : MethodName} {bytes : ByteArray} {maxL : Nat} {ret : Option FieldType} {b : Addr} {W mc ms : Nat} {as' : Array Value} {Q : Option Value → Heap → List Loc → Prop} {argsL : List Value} (hG : Cl p.tables e below K0) (X : Stand p l e R s m args below meth c T locs cells slots) (hx : p.tables.exec = Jvm.exec) (hZ : Z.Warmed39 s.vm) (hown : s.vm.findClass own = some m.cls) (hlink : (Cond.methodLink own index y).before args s = true) (hinst : (Cond.instanceMethod y).before args s = true) (hsel : (Cond.selects C y y).before args s = true) (hpriv : (Cond.privateMethod y).before args s = true) (hcode : (Cond.code y bytes maxL ret).before args s = true) (hy : y.cls ≠ "java/lang/invoke/MethodHandle" ∧ y.cls ≠ "java/lang/invoke/VarHandle") (E : Exa Z h b C) (hK : Back l R p e below s args y 3 W (fun A a => a = as' ∧ A.U.heap = h ∧ A.cells + mc ≤ R.cells ∧ A.slots + ms ≤ R.slots) (fun A _ v B => ∃ L, Q v B.U.heap L ∧ B.locs = A.locs ++ L ∧ B.cells = A.cells + mc ∧ B.slots = A.slots + ms)) (hg : m = m) (hsize : Ls.size = c.maxLocals) (hlen : ∀ sig, parseMethodDescriptor y.desc = some sig → argsL.length = sig.parameters.length) (hstack : Ks = argsL.reverse ++ .ref b :: rest) (hW : 2 * 0 + (rest.map fun v => v.category).sum ≤ W) (hdg : decode c.code pc = .ok (.invokevirtual index, 3)) (has : (.ref b :: argsL).toArray = as') (eT : T.heap = h) (hc : cells + mc ≤ R.cells) (hsl : slots + ms ≤ R.slots)
  (k : ∀ (v : Option Value) (T' : State) (L : List Loc), Q v T'.heap L → Stand p l e R s m args below meth c T' (locs ++ L) (cells + mc) (slots + ms) → K0 (T'.setTop (mkF m (pc + 3) (Ls) (v.toList ++ rest)))) : K0 (T.setTop (mkF m pc Ls Ks)) := by
 obtain ⟨cq, kq, q1, q2, cell, hcell, hcls, hstat⟩ := isOf hZ eT E
 obtain ⟨mk, methM, hnamed, hmethM, hstM, habM⟩ := Cond.instanceMethod_spec hinst
 obtain ⟨methM', cM, hmethM', -, -, -, -, -, -, hsigM⟩ := Cond.code_spec hnamed hcode
 cases hmethM.symm.trans hmethM'
 obtain ⟨c2, r2, m2, -, -, q3, -, kP, hkP, hkPi⟩ := Cond.selects_spec hsel
 cases hnamed.symm.trans q3
 have hselP : selectMethod e.platform s.vm cell.cls mk = .method mk := selectMethod_private hmethM (Cond.privateMethod_at hpriv mk methM hnamed hmethM)
 obtain ⟨vm₁, X₁, hstep₁⟩ := X.invokevirtual hx hown hlink hnamed hmethM hstM hkP hkPi hy (a := b) (cell := cell) hcell (fun q e => by rw [e] at hstat; cases hstat) hselP hmethM habM hkP hkPi (g := mkF m pc Ls Ks) hg (argsL := argsL) (rest := rest) (hlen _ hsigM) hstack hdg
 obtain ⟨v, ⟨T', L', k', n'⟩, X', ⟨Lc, hQ, h1, h2, h3⟩, st⟩ := hK m meth c ⟨T.setVm vm₁, locs, cells, slots⟩ (mkF m pc Ls rest) (.invokevirtual index) mk (.ref b :: argsL).toArray X₁ hg hsize hdg hW (X₁.named hnamed) ⟨has, eT, hc, hsl⟩
 dsimp only [Pt.U, Pt.locs, Pt.cells, Pt.slots] at X' hQ h1 h2 h3 st
 subst h1 h2 h3
 exact hG _ _ (fun _ q => (hstep₁ _ fun acts => by rw [doInvoke_state]; exact Steps.refl _).trans (st.trans q)) (k v T' Lc hQ X')
theorem gSuperN {own K : String} {index : Nat} {y : MethodName} {bytes : ByteArray} {maxL : Nat} {ret : Option FieldType} {b : Addr} {W mc ms : Nat} {as' : Array Value} {Q : Option Value → Heap → List Loc → Prop} {argsL : List Value} (hG : Cl p.tables e below K0) (X : Stand p l e R s m args below meth c T locs cells slots) (hx : p.tables.exec = Jvm.exec) (hZ : Z.Warmed39 s.vm) (hown : s.vm.findClass own = some m.cls) (w1 : (Cond.methodLink own index y).before a0 Z = true) (w2 : (Cond.sameMethod y.cls y.cls y.name y.desc).before a0 Z = true) (w3 : (Cond.instanceMethod y).before a0 Z = true) (w4 : (Cond.superclass own y.cls).before a0 Z = true) (hn : y.name ≠ "<init>") (wc : (Cond.code y bytes maxL ret).before a0 Z = true) (F : Ins Z h b K true) (hK : Back l R p e below s args y 3 W (fun A a => a = as' ∧ A.U.heap = h ∧ A.cells + mc ≤ R.cells ∧ A.slots + ms ≤ R.slots) (fun A _ v B => ∃ L, Q v B.U.heap L ∧ B.locs = A.locs ++ L ∧ B.cells = A.cells + mc ∧ B.slots = A.slots + ms)) (hg : m = m) (hsize : Ls.size = c.maxLocals) (hlen : ∀ sig, parseMethodDescriptor y.desc = some sig → argsL.length = sig.parameters.length) (hstack : Ks = argsL.reverse ++ .ref b :: rest) (hW : 2 * 0 + (rest.map fun v => v.category).sum ≤ W) (hdg : decode c.code pc = .ok (.invokespecial index, 3)) (has : (.ref b :: argsL).toArray = as') (eT : T.heap = h) (hc : cells + mc ≤ R.cells) (hsl : slots + ms ≤ R.slots)
  (k : ∀ (v : Option Value) (T' : State) (L : List Loc), Q v T'.heap L → Stand p l e R s m args below meth c T' (locs ++ L) (cells + mc) (slots + ms) → K0 (T'.setTop (mkF m (pc + 3) (Ls) (v.toList ++ rest)))) : K0 (T.setTop (mkF m pc Ls Ks)) := by
 obtain ⟨v, vm₁, ⟨T', L', k', n'⟩, -, X', ⟨Lc, hQ, h1, h2, h3⟩, st⟩ := superBack (g := mkF m pc Ls Ks) X hx hZ hown w1 w2 w3 w4 hn hK eT F hg hsize wc hlen hstack hW hdg (fun vm₁ hvm => ⟨has, eT, hc, hsl⟩)
 dsimp only [Pt.U, Pt.locs, Pt.cells, Pt.slots] at X' hQ h1 h2 h3 st
 subst h1 h2 h3
 exact hG _ _ (fun _ q => st.trans q) (k v T' Lc hQ X')
theorem gCopy {own : String} {index : Nat} {ka k' : ClassId} {ty ty' : FieldType} {z z' sp dp nn : Int32} {vs vd us : List Value} {dv dd : Value} {a b : Addr} {n0 W : Nat} (hG : Cl p.tables e below K0) (X : Stand p l e R s m args below meth c T locs cells slots) (hx : p.tables.exec = Jvm.exec) (hZ : Z.Warmed39 s.vm) (hown : s.vm.findClass own = some m.cls)
  (w1 : (Cond.methodLink own index Jvm.Stand.acN).before a0 Z = true) (w2 : (Cond.native Jvm.Stand.acN).before a0 Z = true) (w3 : (Cond.static Jvm.Stand.acN).before a0 Z = true) (w4 : (Cond.initialized "java/lang/System").before a0 Z = true) (eT : T.heap = h)
  (A : Arv Z h a ka ty z vs dv) (B : Arv Z h b k' ty' z' vd dd) (hty : (ty = ty' ∧ refKind ty = false) ∨ (refKind ty = true ∧ refKind ty' = true ∧ StoL Z h b us))
  (h1 : ¬ sp < 0) (h2 : ¬ dp < 0) (h3 : ¬ nn < 0) (h4 : sp.toNatClampNeg + nn.toNatClampNeg ≤ z.toNatClampNeg) (h5 : dp.toNatClampNeg + nn.toNatClampNeg ≤ z'.toNatClampNeg)
  (hus : us = (List.range nn.toNatClampNeg).map fun i => vs.getD (sp.toNatClampNeg + i) dv) (hl : dp.toNatClampNeg + nn.toNatClampNeg ≤ vd.length) (N : Fr n0 locs) (ge : n0 ≤ b)
  (hg : m = m) (hsize : Ls.size = c.maxLocals) (hs : Ks = .int nn :: .int dp :: .ref b :: .int sp :: .ref a :: rest) (hd : decode c.code pc = .ok (.invokestatic index, 3))
  (hf : 1 ≤ R.frames) (hW : 2 * 0 + (rest.map fun v => v.category).sum ≤ W) (hlo : W + (nativeFrameWords "java/lang/System" "arraycopy" 5 + 11) ≤ R.locals)
  (k : ∀ T' h' L, Stand p l e R s m args below meth c T' L cells slots → T'.heap = h' → Fr n0 L → Keep h h' [b] → Arv Z h' b k' ty' z' (vd.take dp.toNatClampNeg ++ us ++ vd.drop (dp.toNatClampNeg + nn.toNatClampNeg)) dd → K0 (T'.setTop (mkF m (pc + 3) (Ls) (rest)))) : K0 (T.setTop (mkF m pc Ls Ks)) := by
 obtain ⟨T', h', L, X', e', N', K', A', st⟩ := cpA (g := mkF m pc Ls Ks) X hx hZ hown w1 w2 w3 w4 eT A B hty h1 h2 h3 h4 h5 hus hl N ge hg hsize hs hd hf hW hlo
 exact hG _ _ st (k T' h' L X' e' N' K' A')
theorem own_same {C : String} {y z z' : MethodName} (hd : (Cond.declares y).before a0 Z = true) (hs : (Cond.selects C z z').before a0 Z = true) (hc : z'.cls = y.cls) (hy : y.cls ≠ "java/lang/invoke/MethodHandle" ∧ y.cls ≠ "java/lang/invoke/VarHandle") : (Cond.sameMethod y.cls y.cls y.name y.desc).before a0 Z = true := by
 obtain ⟨m, meth, hn, -, -, -⟩ := Cond.declares_spec hd
 obtain ⟨c, r, m', h1, h2, h3, h4, mk, h5, h6⟩ := Cond.selects_spec hs
 have f1 := findClass_of_methodNamed hn
 have f2 := findClass_of_methodNamed h3
 rw [hc, f1] at f2
 have e : m.cls = m'.cls := Option.some.inj f2
 have hf := State.methodFound?_of_named hn hy
 have hn' : Z.methodNamed? ⟨y.cls, y.name, y.desc⟩ = some m := hn
 have h5' : Z.vm.classes[m.cls]? = some mk := by rw [e]; exact h5
 simp only [Cond.before, Cond.holds, Cond.value, f1, hf, hn', h5']
 simp [h6]
theorem own_notFace {s : State} {args : Array Value} {C : String} {y z z' : MethodName} (hs : (Cond.selects C z z').before args s = true) (hc : z'.cls = y.cls) : NotFace s y := fun r0 h0 => by
 obtain ⟨c2, r2, m2, q1, q2, q3, q4, kP, hkP, hkPi⟩ := Cond.selects_spec hs
 have f1 := findClass_of_methodNamed h0
 have f2 := findClass_of_methodNamed q3
 rw [hc, f1] at f2
 have e : r0.cls = m2.cls := Option.some.inj f2
 exact ⟨kP, by rw [e]; exact hkP, hkPi⟩
end Glue
theorem zaconstNull {tb : Tables} [Ours tb] {e : Env} {below : List Frame} {T target : State} {m : MethodId} {c : Code} {pc : Nat} {Ls : Array Slot} {Ks : List Value} (h : At T m c below) (hx : tb.exec = Jvm.exec) (hd : decode c.code pc = .ok (.aconst_null, 1)) (hr : Steps tb e below (T.setTop (mkF m (pc + 1) (Ls) (.null :: Ks))) target) : Steps tb e below (T.setTop (mkF m pc Ls Ks)) target :=
 Jvm.Free.XS.aconstNull (g := mkF m pc Ls Ks) h hx rfl hd hr
theorem zaload {tb : Tables} [Ours tb] {e : Env} {below : List Frame} {T target : State} {m : MethodId} {c : Code} {pc : Nat} {Ls : Array Slot} {Ks : List Value} (h : At T m c below) (hx : tb.exec = Jvm.exec) {k : Nat} {v : Value} (hd : decode c.code pc = .ok (.aload k, 2)) (hl : Ls[k]? = some (.val v)) (hv : v.isRef = true) (hr : Steps tb e below (T.setTop (mkF m (pc + 2) (Ls) (v :: Ks))) target) : Steps tb e below (T.setTop (mkF m pc Ls Ks)) target :=
 Jvm.Free.XS.aload (g := mkF m pc Ls Ks) h hx rfl hd hl hv hr
theorem zaloadN {tb : Tables} [Ours tb] {e : Env} {below : List Frame} {T target : State} {m : MethodId} {c : Code} {pc : Nat} {Ls : Array Slot} {Ks : List Value} (h : At T m c below) (hx : tb.exec = Jvm.exec) {k : Fin 4} {v : Value} (hd : decode c.code pc = .ok (.aload_n k, 1)) (hl : Ls[k.val]? = some (.val v)) (hv : v.isRef = true) (hr : Steps tb e below (T.setTop (mkF m (pc + 1) (Ls) (v :: Ks))) target) : Steps tb e below (T.setTop (mkF m pc Ls Ks)) target :=
 Jvm.Free.XS.aloadN (g := mkF m pc Ls Ks) h hx rfl hd hl hv hr
theorem zastore {tb : Tables} [Ours tb] {e : Env} {below : List Frame} {T target : State} {m : MethodId} {c : Code} {pc : Nat} {Ls : Array Slot} {Ks : List Value} (h : At T m c below) (hx : tb.exec = Jvm.exec) {k : Nat} {x : Value} {rest : List Value} {l' : Array Slot} (hd : decode c.code pc = .ok (.astore k, 2)) (hs : Ks = x :: rest) (hv : x.isRef = true) (hl : storeLocals Ls k x = some l') (hr : Steps tb e below (T.setTop (mkF m (pc + 2) (l') (rest))) target) : Steps tb e below (T.setTop (mkF m pc Ls Ks)) target :=
 Jvm.Free.XS.astore (g := mkF m pc Ls Ks) h hx rfl hd hs hv hl hr
theorem zastoreN {tb : Tables} [Ours tb] {e : Env} {below : List Frame} {T target : State} {m : MethodId} {c : Code} {pc : Nat} {Ls : Array Slot} {Ks : List Value} (h : At T m c below) (hx : tb.exec = Jvm.exec) {k : Fin 4} {x : Value} {rest : List Value} {l' : Array Slot} (hd : decode c.code pc = .ok (.astore_n k, 1)) (hs : Ks = x :: rest) (hv : x.isRef = true) (hl : storeLocals Ls k.val x = some l') (hr : Steps tb e below (T.setTop (mkF m (pc + 1) (l') (rest))) target) : Steps tb e below (T.setTop (mkF m pc Ls Ks)) target :=
 Jvm.Free.XS.astoreN (g := mkF m pc Ls Ks) h hx rfl hd hs hv hl hr
theorem zbipush {tb : Tables} [Ours tb] {e : Env} {below : List Frame} {T target : State} {m : MethodId} {c : Code} {pc : Nat} {Ls : Array Slot} {Ks : List Value} (h : At T m c below) (hx : tb.exec = Jvm.exec) {i : Int} (hd : decode c.code pc = .ok (.bipush i, 2)) (hr : Steps tb e below (T.setTop (mkF m (pc + 2) (Ls) (.int (Int8.ofInt i).toInt32 :: Ks))) target) : Steps tb e below (T.setTop (mkF m pc Ls Ks)) target :=
 Jvm.Free.XS.bipush (g := mkF m pc Ls Ks) h hx rfl hd hr
theorem zdup {tb : Tables} [Ours tb] {e : Env} {below : List Frame} {T target : State} {m : MethodId} {c : Code} {pc : Nat} {Ls : Array Slot} {Ks : List Value} (h : At T m c below) (hx : tb.exec = Jvm.exec) {x : Value} {rest : List Value} (hd : decode c.code pc = .ok (.dup, 1)) (hs : Ks = x :: rest) (hc : x.category = 1) (hr : Steps tb e below (T.setTop (mkF m (pc + 1) (Ls) (x :: x :: rest))) target) : Steps tb e below (T.setTop (mkF m pc Ls Ks)) target :=
 Jvm.Free.XS.dup (g := mkF m pc Ls Ks) h hx rfl hd hs hc hr
theorem zgoto {tb : Tables} [Ours tb] {e : Env} {below : List Frame} {T target : State} {m : MethodId} {c : Code} {pc : Nat} {Ls : Array Slot} {Ks : List Value} (h : At T m c below) (hx : tb.exec = Jvm.exec) {o : Int} {pc0 pc' : Nat} (hpc : pc = pc0) (hd : decode c.code pc = .ok (.goto o, 3)) (ho : 0 ≤ (pc0 : Int) + o) (hp : ((pc0 : Int) + o).toNat = pc') (hr : Steps tb e below (T.setTop (mkF m (pc') (Ls) (Ks))) target) : Steps tb e below (T.setTop (mkF m pc Ls Ks)) target :=
 Jvm.Free.XS.goto (g := mkF m pc Ls Ks) h hx rfl hpc hd ho hp hr
theorem ziadd {tb : Tables} [Ours tb] {e : Env} {below : List Frame} {T target : State} {m : MethodId} {c : Code} {pc : Nat} {Ls : Array Slot} {Ks : List Value} (h : At T m c below) (hx : tb.exec = Jvm.exec) {x y : Int32} {rest : List Value} (hd : decode c.code pc = .ok (.iadd, 1)) (hs : Ks = .int y :: .int x :: rest) (hr : Steps tb e below (T.setTop (mkF m (pc + 1) (Ls) (.int (x + y) :: rest))) target) : Steps tb e below (T.setTop (mkF m pc Ls Ks)) target :=
 Jvm.Free.XS.iadd (g := mkF m pc Ls Ks) h hx rfl hd hs hr
theorem ziand {tb : Tables} [Ours tb] {e : Env} {below : List Frame} {T target : State} {m : MethodId} {c : Code} {pc : Nat} {Ls : Array Slot} {Ks : List Value} (h : At T m c below) (hx : tb.exec = Jvm.exec) {x y : Int32} {rest : List Value} (hd : decode c.code pc = .ok (.iand, 1)) (hs : Ks = .int y :: .int x :: rest) (hr : Steps tb e below (T.setTop (mkF m (pc + 1) (Ls) (.int (x &&& y) :: rest))) target) : Steps tb e below (T.setTop (mkF m pc Ls Ks)) target :=
 Jvm.Free.XS.iand (g := mkF m pc Ls Ks) h hx rfl hd hs hr
theorem zicmpNo {tb : Tables} [Ours tb] {e : Env} {below : List Frame} {T target : State} {m : MethodId} {c : Code} {pc : Nat} {Ls : Array Slot} {Ks : List Value} (h : At T m c below) (hx : tb.exec = Jvm.exec) {cd : ClassFile.Cond} {o : Int} {x y : Int32} {rest : List Value} (hd : decode c.code pc = .ok (.if_icmp cd o, 3)) (hs : Ks = .int y :: .int x :: rest) (hc : if_icmp.holds cd x y = false) (hr : Steps tb e below (T.setTop (mkF m (pc + 3) (Ls) (rest))) target) : Steps tb e below (T.setTop (mkF m pc Ls Ks)) target :=
 Jvm.Free.XS.icmpNo (g := mkF m pc Ls Ks) h hx rfl hd hs hc hr
theorem zicmpYes {tb : Tables} [Ours tb] {e : Env} {below : List Frame} {T target : State} {m : MethodId} {c : Code} {pc : Nat} {Ls : Array Slot} {Ks : List Value} (h : At T m c below) (hx : tb.exec = Jvm.exec) {cd : ClassFile.Cond} {x y : Int32} {rest : List Value} {o : Int} {pc0 pc' : Nat} (hpc : pc = pc0) (hd : decode c.code pc = .ok (.if_icmp cd o, 3)) (hs : Ks = .int y :: .int x :: rest) (hc : if_icmp.holds cd x y = true) (ho : 0 ≤ (pc0 : Int) + o) (hp : ((pc0 : Int) + o).toNat = pc') (hr : Steps tb e below (T.setTop (mkF m (pc') (Ls) (rest))) target) : Steps tb e below (T.setTop (mkF m pc Ls Ks)) target :=
 Jvm.Free.XS.icmpYes (g := mkF m pc Ls Ks) h hx rfl hpc hd hs hc ho hp hr
theorem ziconst {tb : Tables} [Ours tb] {e : Env} {below : List Frame} {T target : State} {m : MethodId} {c : Code} {pc : Nat} {Ls : Array Slot} {Ks : List Value} (h : At T m c below) (hx : tb.exec = Jvm.exec) {i : Int} (hd : decode c.code pc = .ok (.iconst i, 1)) (hr : Steps tb e below (T.setTop (mkF m (pc + 1) (Ls) (.int (Int32.ofInt i) :: Ks))) target) : Steps tb e below (T.setTop (mkF m pc Ls Ks)) target :=
 Jvm.Free.XS.iconst (g := mkF m pc Ls Ks) h hx rfl hd hr
theorem zifNo {tb : Tables} [Ours tb] {e : Env} {below : List Frame} {T target : State} {m : MethodId} {c : Code} {pc : Nat} {Ls : Array Slot} {Ks : List Value} (h : At T m c below) (hx : tb.exec = Jvm.exec) {cd : ClassFile.Cond} {o : Int} {x : Int32} {rest : List Value} (hd : decode c.code pc = .ok (.ifCond cd o, 3)) (hs : Ks = .int x :: rest) (hc : ifCond.holds cd x = false) (hr : Steps tb e below (T.setTop (mkF m (pc + 3) (Ls) (rest))) target) : Steps tb e below (T.setTop (mkF m pc Ls Ks)) target :=
 Jvm.Free.XS.ifNo (g := mkF m pc Ls Ks) h hx rfl hd hs hc hr
theorem zifYes {tb : Tables} [Ours tb] {e : Env} {below : List Frame} {T target : State} {m : MethodId} {c : Code} {pc : Nat} {Ls : Array Slot} {Ks : List Value} (h : At T m c below) (hx : tb.exec = Jvm.exec) {cd : ClassFile.Cond} {x : Int32} {rest : List Value} {o : Int} {pc0 pc' : Nat} (hpc : pc = pc0) (hd : decode c.code pc = .ok (.ifCond cd o, 3)) (hs : Ks = .int x :: rest) (hc : ifCond.holds cd x = true) (ho : 0 ≤ (pc0 : Int) + o) (hp : ((pc0 : Int) + o).toNat = pc') (hr : Steps tb e below (T.setTop (mkF m (pc') (Ls) (rest))) target) : Steps tb e below (T.setTop (mkF m pc Ls Ks)) target :=
 Jvm.Free.XS.ifYes (g := mkF m pc Ls Ks) h hx rfl hpc hd hs hc ho hp hr
theorem ziinc {tb : Tables} [Ours tb] {e : Env} {below : List Frame} {T target : State} {m : MethodId} {c : Code} {pc : Nat} {Ls : Array Slot} {Ks : List Value} (h : At T m c below) (hx : tb.exec = Jvm.exec) {k : Nat} {cst : Int} {x : Int32} {l' : Array Slot} (hd : decode c.code pc = .ok (.iinc k cst, 3)) (hl : Ls[k]? = some (.val (.int x))) (hl' : storeLocals Ls k (.int (x + Int32.ofInt cst)) = some l') (hr : Steps tb e below (T.setTop (mkF m (pc + 3) (l') (Ks))) target) : Steps tb e below (T.setTop (mkF m pc Ls Ks)) target :=
 Jvm.Free.XS.iinc (g := mkF m pc Ls Ks) h hx rfl hd hl hl' hr
theorem ziload {tb : Tables} [Ours tb] {e : Env} {below : List Frame} {T target : State} {m : MethodId} {c : Code} {pc : Nat} {Ls : Array Slot} {Ks : List Value} (h : At T m c below) (hx : tb.exec = Jvm.exec) {k : Nat} {v : Int32} (hd : decode c.code pc = .ok (.iload k, 2)) (hl : Ls[k]? = some (.val (.int v))) (hr : Steps tb e below (T.setTop (mkF m (pc + 2) (Ls) (.int v :: Ks))) target) : Steps tb e below (T.setTop (mkF m pc Ls Ks)) target :=
 Jvm.Free.XS.iload (g := mkF m pc Ls Ks) h hx rfl hd hl hr
theorem ziloadN {tb : Tables} [Ours tb] {e : Env} {below : List Frame} {T target : State} {m : MethodId} {c : Code} {pc : Nat} {Ls : Array Slot} {Ks : List Value} (h : At T m c below) (hx : tb.exec = Jvm.exec) {k : Fin 4} {v : Int32} (hd : decode c.code pc = .ok (.iload_n k, 1)) (hl : Ls[k.val]? = some (.val (.int v))) (hr : Steps tb e below (T.setTop (mkF m (pc + 1) (Ls) (.int v :: Ks))) target) : Steps tb e below (T.setTop (mkF m pc Ls Ks)) target :=
 Jvm.Free.XS.iloadN (g := mkF m pc Ls Ks) h hx rfl hd hl hr
theorem zistore {tb : Tables} [Ours tb] {e : Env} {below : List Frame} {T target : State} {m : MethodId} {c : Code} {pc : Nat} {Ls : Array Slot} {Ks : List Value} (h : At T m c below) (hx : tb.exec = Jvm.exec) {k : Nat} {x : Int32} {rest : List Value} {l' : Array Slot} (hd : decode c.code pc = .ok (.istore k, 2)) (hs : Ks = .int x :: rest) (hl : storeLocals Ls k (.int x) = some l') (hr : Steps tb e below (T.setTop (mkF m (pc + 2) (l') (rest))) target) : Steps tb e below (T.setTop (mkF m pc Ls Ks)) target :=
 Jvm.Free.XS.istore (g := mkF m pc Ls Ks) h hx rfl hd hs hl hr
theorem zistoreN {tb : Tables} [Ours tb] {e : Env} {below : List Frame} {T target : State} {m : MethodId} {c : Code} {pc : Nat} {Ls : Array Slot} {Ks : List Value} (h : At T m c below) (hx : tb.exec = Jvm.exec) {k : Fin 4} {x : Int32} {rest : List Value} {l' : Array Slot} (hd : decode c.code pc = .ok (.istore_n k, 1)) (hs : Ks = .int x :: rest) (hl : storeLocals Ls k.val (.int x) = some l') (hr : Steps tb e below (T.setTop (mkF m (pc + 1) (l') (rest))) target) : Steps tb e below (T.setTop (mkF m pc Ls Ks)) target :=
 Jvm.Free.XS.istoreN (g := mkF m pc Ls Ks) h hx rfl hd hs hl hr
theorem zisub {tb : Tables} [Ours tb] {e : Env} {below : List Frame} {T target : State} {m : MethodId} {c : Code} {pc : Nat} {Ls : Array Slot} {Ks : List Value} (h : At T m c below) (hx : tb.exec = Jvm.exec) {x y : Int32} {rest : List Value} (hd : decode c.code pc = .ok (.isub, 1)) (hs : Ks = .int y :: .int x :: rest) (hr : Steps tb e below (T.setTop (mkF m (pc + 1) (Ls) (.int (x - y) :: rest))) target) : Steps tb e below (T.setTop (mkF m pc Ls Ks)) target :=
 Jvm.Free.XS.isub (g := mkF m pc Ls Ks) h hx rfl hd hs hr
theorem zsipush {tb : Tables} [Ours tb] {e : Env} {below : List Frame} {T target : State} {m : MethodId} {c : Code} {pc : Nat} {Ls : Array Slot} {Ks : List Value} (h : At T m c below) (hx : tb.exec = Jvm.exec) {i : Int} (hd : decode c.code pc = .ok (.sipush i, 3)) (hr : Steps tb e below (T.setTop (mkF m (pc + 3) (Ls) (.int (Int16.ofInt i).toInt32 :: Ks))) target) : Steps tb e below (T.setTop (mkF m pc Ls Ks)) target :=
 Jvm.Free.XS.sipush (g := mkF m pc Ls Ks) h hx rfl hd hr
theorem zacmpNo {tb : Tables} [Ours tb] {e : Env} {below : List Frame} {T target : State} {m : MethodId} {c : Code} {pc : Nat} {Ls : Array Slot} {Ks : List Value} (h : At T m c below) (hx : tb.exec = Jvm.exec) {cd : ClassFile.ACond} {o : Int} {x y : Value} {rest : List Value} (hd : decode c.code pc = .ok (.if_acmp cd o, 3)) (hs : Ks = y :: x :: rest) (hx' : x.isRef = true) (hy' : y.isRef = true) (hc : Jvm.Free.XT.acmp cd x y = false) (hr : Steps tb e below (T.setTop (mkF m (pc + 3) (Ls) (rest))) target) : Steps tb e below (T.setTop (mkF m pc Ls Ks)) target :=
 Jvm.Free.XT.acmpNo (g := mkF m pc Ls Ks) h hx rfl hd hs hx' hy' hc hr
theorem zdupX1 {tb : Tables} [Ours tb] {e : Env} {below : List Frame} {T target : State} {m : MethodId} {c : Code} {pc : Nat} {Ls : Array Slot} {Ks : List Value} (h : At T m c below) (hx : tb.exec = Jvm.exec) {x y : Value} {rest : List Value} (hd : decode c.code pc = .ok (.dup_x1, 1)) (hs : Ks = x :: y :: rest) (hc : x.category = 1) (hc' : y.category = 1) (hr : Steps tb e below (T.setTop (mkF m (pc + 1) (Ls) (x :: y :: x :: rest))) target) : Steps tb e below (T.setTop (mkF m pc Ls Ks)) target :=
 Jvm.Free.XT.dupX1 (g := mkF m pc Ls Ks) h hx rfl hd hs hc hc' hr
theorem zi2b {tb : Tables} [Ours tb] {e : Env} {below : List Frame} {T target : State} {m : MethodId} {c : Code} {pc : Nat} {Ls : Array Slot} {Ks : List Value} (h : At T m c below) (hx : tb.exec = Jvm.exec) {x : Int32} {rest : List Value} (hd : decode c.code pc = .ok (.i2b, 1)) (hs : Ks = .int x :: rest) (hr : Steps tb e below (T.setTop (mkF m (pc + 1) (Ls) (.int (x.toInt8.toInt32) :: rest))) target) : Steps tb e below (T.setTop (mkF m pc Ls Ks)) target :=
 Jvm.Free.XT.i2b (g := mkF m pc Ls Ks) h hx rfl hd hs hr
theorem zi2c {tb : Tables} [Ours tb] {e : Env} {below : List Frame} {T target : State} {m : MethodId} {c : Code} {pc : Nat} {Ls : Array Slot} {Ks : List Value} (h : At T m c below) (hx : tb.exec = Jvm.exec) {x : Int32} {rest : List Value} (hd : decode c.code pc = .ok (.i2c, 1)) (hs : Ks = .int x :: rest) (hr : Steps tb e below (T.setTop (mkF m (pc + 1) (Ls) (.int (x.toUInt32.toUInt16.toUInt32.toInt32) :: rest))) target) : Steps tb e below (T.setTop (mkF m pc Ls Ks)) target :=
 Jvm.Free.XT.i2c (g := mkF m pc Ls Ks) h hx rfl hd hs hr
theorem zifnonnullNo {tb : Tables} [Ours tb] {e : Env} {below : List Frame} {T target : State} {m : MethodId} {c : Code} {pc : Nat} {Ls : Array Slot} {Ks : List Value} (h : At T m c below) (hx : tb.exec = Jvm.exec) {o : Int} {rest : List Value} (hd : decode c.code pc = .ok (.ifnonnull o, 3)) (hs : Ks = .null :: rest) (hr : Steps tb e below (T.setTop (mkF m (pc + 3) (Ls) (rest))) target) : Steps tb e below (T.setTop (mkF m pc Ls Ks)) target :=
 Jvm.Free.XT.ifnonnullNo (g := mkF m pc Ls Ks) h hx rfl hd hs hr
theorem zifnonnullYes {tb : Tables} [Ours tb] {e : Env} {below : List Frame} {T target : State} {m : MethodId} {c : Code} {pc : Nat} {Ls : Array Slot} {Ks : List Value} (h : At T m c below) (hx : tb.exec = Jvm.exec) {b : Addr} {rest : List Value} {o : Int} {pc0 pc' : Nat} (hpc : pc = pc0) (hd : decode c.code pc = .ok (.ifnonnull o, 3)) (hs : Ks = .ref b :: rest) (ho : 0 ≤ (pc0 : Int) + o) (hp : ((pc0 : Int) + o).toNat = pc') (hr : Steps tb e below (T.setTop (mkF m (pc') (Ls) (rest))) target) : Steps tb e below (T.setTop (mkF m pc Ls Ks)) target :=
 Jvm.Free.XT.ifnonnullYes (g := mkF m pc Ls Ks) h hx rfl hpc hd hs ho hp hr
theorem zior {tb : Tables} [Ours tb] {e : Env} {below : List Frame} {T target : State} {m : MethodId} {c : Code} {pc : Nat} {Ls : Array Slot} {Ks : List Value} (h : At T m c below) (hx : tb.exec = Jvm.exec) {x y : Int32} {rest : List Value} (hd : decode c.code pc = .ok (.ior, 1)) (hs : Ks = .int y :: .int x :: rest) (hr : Steps tb e below (T.setTop (mkF m (pc + 1) (Ls) (.int (x ||| y) :: rest))) target) : Steps tb e below (T.setTop (mkF m pc Ls Ks)) target :=
 Jvm.Free.XT.ior (g := mkF m pc Ls Ks) h hx rfl hd hs hr
theorem zishl {tb : Tables} [Ours tb] {e : Env} {below : List Frame} {T target : State} {m : MethodId} {c : Code} {pc : Nat} {Ls : Array Slot} {Ks : List Value} (h : At T m c below) (hx : tb.exec = Jvm.exec) {x y : Int32} {rest : List Value} (hd : decode c.code pc = .ok (.ishl, 1)) (hs : Ks = .int y :: .int x :: rest) (hr : Steps tb e below (T.setTop (mkF m (pc + 1) (Ls) (.int (x <<< (y &&& 31)) :: rest))) target) : Steps tb e below (T.setTop (mkF m pc Ls Ks)) target :=
 Jvm.Free.XT.ishl (g := mkF m pc Ls Ks) h hx rfl hd hs hr
theorem zishr {tb : Tables} [Ours tb] {e : Env} {below : List Frame} {T target : State} {m : MethodId} {c : Code} {pc : Nat} {Ls : Array Slot} {Ks : List Value} (h : At T m c below) (hx : tb.exec = Jvm.exec) {x y : Int32} {rest : List Value} (hd : decode c.code pc = .ok (.ishr, 1)) (hs : Ks = .int y :: .int x :: rest) (hr : Steps tb e below (T.setTop (mkF m (pc + 1) (Ls) (.int (x >>> (y &&& 31)) :: rest))) target) : Steps tb e below (T.setTop (mkF m pc Ls Ks)) target :=
 Jvm.Free.XT.ishr (g := mkF m pc Ls Ks) h hx rfl hd hs hr
theorem ziushr {tb : Tables} [Ours tb] {e : Env} {below : List Frame} {T target : State} {m : MethodId} {c : Code} {pc : Nat} {Ls : Array Slot} {Ks : List Value} (h : At T m c below) (hx : tb.exec = Jvm.exec) {x y : Int32} {rest : List Value} (hd : decode c.code pc = .ok (.iushr, 1)) (hs : Ks = .int y :: .int x :: rest) (hr : Steps tb e below (T.setTop (mkF m (pc + 1) (Ls) (.int (Jvm.Free.XT.ushr x y) :: rest))) target) : Steps tb e below (T.setTop (mkF m pc Ls Ks)) target :=
 Jvm.Free.XT.iushr (g := mkF m pc Ls Ks) h hx rfl hd hs hr
theorem zpop {tb : Tables} [Ours tb] {e : Env} {below : List Frame} {T target : State} {m : MethodId} {c : Code} {pc : Nat} {Ls : Array Slot} {Ks : List Value} (h : At T m c below) (hx : tb.exec = Jvm.exec) {x : Value} {rest : List Value} (hd : decode c.code pc = .ok (.pop, 1)) (hs : Ks = x :: rest) (hc : x.category = 1) (hr : Steps tb e below (T.setTop (mkF m (pc + 1) (Ls) (rest))) target) : Steps tb e below (T.setTop (mkF m pc Ls Ks)) target :=
 Jvm.Free.XT.pop (g := mkF m pc Ls Ks) h hx rfl hd hs hc hr
theorem zRW_iremM {p : Program} {l : Launch} {e : Env} {R : Room} {s : State} {m : MethodId} {args : Array Value} {below : List Frame} {meth : Method} {c : Code} {T : State} {locs : List Loc} {cells slots : Nat} {target : State} {pc : Nat} {Ls : Array Slot} {Ks : List Value} (X : Stand p l e R s m args below meth c T locs cells slots) (hx : p.tables.exec = Jvm.exec) (hg : m = m) {x y : Int32} {rest : List Value} (hd : decode c.code pc = .ok (.irem, 1)) (hs : Ks = .int y :: .int x :: rest) (hy : y ≠ 0) (hr : Steps p.tables e below (T.setTop (mkF m (pc + 1) (Ls) (.int (x % y) :: rest))) target) : Steps p.tables e below (T.setTop (mkF m pc Ls Ks)) target :=
 iremM (g := mkF m pc Ls Ks) X hx hg hd hs hy hr
/-- addresses are told to omega as natural numbers -/
theorem own_ane {a b : Addr} (h : ¬ @Eq Nat a b) : a ≠ b := h
theorem own_anes {a b : Addr} (h : ¬ @Eq Nat b a) : a ≠ b := fun q => h q.symm
theorem own_anq {a b : Addr} (h : a ≠ b) : ¬ @Eq Nat a b := h
theorem own_ale {n : Nat} {a : Addr} (h : @LE.le Nat instLENat n a) : n ≤ a := h
theorem own_alt {n : Nat} {a : Addr} (h : a < n) : @LT.lt Nat instLTNat a n := h
abbrev sU : Slot := .unset
abbrev sI (x : Int32) : Slot := .val (.int x)
abbrev sR (x : Addr) : Slot := .val (.ref x)
theorem tw {a0 : Array Value} {Z : State} (hw : ∀ d ∈ tables_1, d.before a0 Z = true) {d : Jvm.Cond} (i : Nat) (h : tables_1[i]? = some d) : d.before a0 Z = true := hw d (List.mem_of_getElem? h)
theorem Gl.cast {tb : Tables} {e : Env} {below : List Frame} {P : Outcome → State → Prop} {T : State} {F F' : JFrame} (h : F = F') (k : Gl tb e below P (T.setTop F')) : Gl tb e below P (T.setTop F) := by rw [h]; exact k
abbrev Lat (c : Int32) : Prop := ¬ c < 0 ∧ ¬ (255 : Int32) < c
abbrev Wid (c : Int32) : Prop := ¬ c < 0 ∧ ¬ (65535 : Int32) < c
theorem own_c0 {P : Int32 → Prop} : ∀ x ∈ ([] : List Int32), P x := fun _ h => nomatch h
theorem own_cS {P : Int32 → Prop} {y : Int32} {L : List Int32} (q : P y) (r : ∀ x ∈ L, P x) : ∀ x ∈ y :: L, P x := List.forall_mem_cons.mpr ⟨q, r⟩
theorem own_up {cs : List Int32} (h : ∀ c ∈ cs, Lat c) : ∀ c ∈ cs, Wid c := fun c hc => ⟨(h c hc).1, fun q => (h c hc).2 (by rw [Int32.lt_iff_toInt_lt] at q ⊢; have e1 : (65535 : Int32).toInt = 65535 := rfl; have e2 : (255 : Int32).toInt = 255 := rfl; omega)⟩
theorem own_nat32 {k : Nat} (h : k < 2 ^ 31) : (Int32.ofNat k).toNatClampNeg = k := by
 have e : (Int32.ofNat k).toInt = k := Int32.toInt_ofNat_small h
 simp only [Int32.toNatClampNeg, e]; rfl
theorem own_eqI {args : Array Value} {s : State} {t : Term} {z : Int32} (h : (Cond.eq t (.int z)).value args s none s [] = some true) : t.eval args s none [] s = some (.int z) := Cond.eq_int (Cond.before_iff.mpr h) rfl
/-- a payer whose premise and promise speak of the tables too -/
theorem backOfJ {p : Program} {l : Launch} {e : Env} {R : Room} {s : State} {args : Array Value} {below : List Frame} {Z : State} {a0 : Array Value} {h : Heap} {y : MethodName} {bytes : ByteArray} {maxL : Nat} {ret : Option FieldType} {rm : Room} {len W : Nat} {as' : Array Value} {Φ : Vm → Prop} {Q : Option Value → Heap → Vm → List Loc → Prop}
  (hM : MetFree l y (head1 [Cond.code y bytes maxL ret] rm) (fun a U => a = as' ∧ Z.Warmed39 U.vm ∧ U.heap = h ∧ Φ U.vm) (fun _ _ _ _ _ => True) (fun _ U o U' => ∃ v L, o = .returned v ∧ Q v U'.heap U'.vm L ∧ ReturnedEndW U o U' L rm.cells rm.slots))
  (hZ : Z.Warmed39 s.vm) (wc : (Cond.code y bytes maxL ret).before a0 Z = true) (wz : (Cond.initialized y.cls).before a0 Z = true) (hf : rm.frames + 1 ≤ R.frames) (hl : W + (maxL + 11) + rm.locals ≤ R.locals) :
  BackS l R p e below s args y len W (fun A a => a = as' ∧ A.U.heap = h ∧ Φ A.U.vm ∧ A.cells + rm.cells ≤ R.cells ∧ A.slots + rm.slots ≤ R.slots)
   (fun A _ v B => ∃ L, Q v B.U.heap B.U.vm L ∧ B.locs = A.locs ++ L ∧ B.cells = A.cells + rm.cells ∧ B.slots = A.slots + rm.slots) := by
 refine BackS.of_freeW (bytes := bytes) (maxL := maxL) (ret := ret) (E := fun _ _ o t L k n => k = rm.cells ∧ n = rm.slots ∧ ∃ v, o = .returned v ∧ Q v t.heap t.vm L) hM hf hl ?_ ?_ ?_ ?_ ?_
 ·intro m meth c A a Y hp
  have hU : Z.Warmed39 A.U.vm := wtrans hZ Y.warmed
  exact ⟨by show (Cond.and _ .tt).before a A.U = true; rw [Cond.before_and, mv hU wc]; rfl, mv hU wc, mv hU wz, hp.2.2.2.1, hp.2.2.2.2⟩
 ·intro m meth c A a g mk Y hp
  exact ⟨hp.1, wtrans hZ Y.warmed, hp.2.1, hp.2.2.1⟩
 ·intro _ _ _ _ _ _ _ _ _
  trivial
 ·intro a first o t hq
  obtain ⟨v, L, h1, h2, h3⟩ := hq
  exact ⟨L, _, _, h3, rfl, rfl, v, h1, h2⟩
 ·intro m meth c A a g mk v t L k n Y hp h1 h2 hE
  obtain ⟨e1, e2, v', e3, e4⟩ := hE
  cases e3
  subst e1 e2
  exact ⟨L, e4, rfl, rfl, rfl⟩
/-- the bytes of Latin-1 chars -/
def lb (cs : List Int32) : List Value := (cs.map fun c => c.toInt8.toInt32).map Value.int
theorem lb_len (cs : List Int32) : (lb cs).length = cs.length := by simp [lb]
theorem lb_app (cs ds : List Int32) : lb (cs ++ ds) = lb cs ++ lb ds := by simp [lb]
theorem own_toI {k : Nat} (h : k < 2 ^ 31) : (Int32.ofNat k).toInt = k := Int32.toInt_ofNat_small h
theorem own_add32 (a b : Nat) : Int32.ofNat a + Int32.ofNat b = Int32.ofNat (a + b) := (Int32.ofNat_add a b).symm
theorem own_shl0 (x : Int32) : x <<< ((0 : Int32) &&& 31) = x := by
 have e : ((0 : Int32) &&& 31) = 0 := rfl
 rw [e]
 apply Int32.toBitVec_inj.mp
 simp
theorem own_sub0 (x : Int32) : x - (0 : Int32) = x := by simp
theorem own_lt32 {a b : Nat} (hb : b < 2 ^ 31) (h : a < b) : Int32.ofNat a < Int32.ofNat b := by
 rw [Int32.lt_iff_toInt_lt, own_toI hb, own_toI (by omega)]; omega
theorem own_nlt32 {a b : Nat} (ha : a < 2 ^ 31) (hb : b < 2 ^ 31) (h : b ≤ a) : ¬ Int32.ofNat a < Int32.ofNat b := by
 rw [Int32.lt_iff_toInt_lt, own_toI hb, own_toI ha]; omega
theorem own_nn {k : Nat} (h : k < 2 ^ 31) : ¬ Int32.ofNat k < 0 := own_nlt32 (b := 0) h (by omega) (Nat.zero_le _)
theorem own_z0 : (0 : Int32).toNatClampNeg = 0 := rfl
theorem own_rng {vs : List Value} {dv : Value} {n : Nat} (h : vs.length = n) : vs = (List.range n).map fun i => vs.getD (0 + i) dv := by
 apply List.ext_getElem
 ·simp [h]
 ·intro i h1 h2
  simp [List.getD_eq_getElem?_getD, h1]
theorem own_us {vs : List Value} {dv : Value} {n : Nat} (h : vs.length = n) (h31 : n < 2 ^ 31) : vs = (List.range (Int32.ofNat n).toNatClampNeg).map fun i => vs.getD ((0 : Int32).toNatClampNeg + i) dv := by
 rw [own_nat32 h31]; exact own_rng h
theorem own_cpy {Z : State} {h : Heap} {a : Addr} {ka : ClassId} {ty : FieldType} {z : Int32} {xs : List Value} {d : Value} {k : Nat} (k31 : k < 2 ^ 31)
  (V : Arv Z h a ka ty z (([] ++ List.replicate k d).take (0 : Int32).toNatClampNeg ++ xs ++ ([] ++ List.replicate k d).drop ((0 : Int32).toNatClampNeg + (Int32.ofNat k).toNatClampNeg)) d) : Arv Z h a ka ty z xs d := by
 rw [own_nat32 k31, own_z0] at V
 have e : ([] ++ List.replicate k d).take 0 ++ xs ++ ([] ++ List.replicate k d).drop (0 + k) = xs := by simp
 rw [e] at V
 exact V
theorem own_lt (x y : Int32) : x < y ↔ x.toInt < y.toInt := Int32.lt_iff_toInt_lt
theorem own_nar_wid {c : Int32} (h : Wid c) : nar .char c = c := by
 have h1 := h.1
 have h2 := h.2
 have q := c_i2c c
 have e5 : (65535 : Int32).toInt = 65535 := rfl
 have e6 : (0 : Int32).toInt = 0 := rfl
 rw [own_lt] at h1 h2
 apply Int32.toInt_inj.mp
 show (c.toUInt32.toUInt16.toUInt32.toInt32).toInt = c.toInt
 omega
theorem own_fit_wid {c : Int32} (h : Wid c) : fits .char (.int c) = true := by rw [← own_nar_wid h]; exact fits_nar_char _
theorem own_narb (x : Int32) : nar .byte (StrChars.lo8 x) = StrChars.lo8 x := by
 show (x.toInt8.toInt32).toInt8.toInt32 = x.toInt8.toInt32
 rw [Int8.toInt8_toInt32]
theorem own_narh (x : Int32) : nar .byte (StrChars.hi8 x) = StrChars.hi8 x := own_narb _
theorem own_fitb (x : Int32) : fits .byte (.int (StrChars.lo8 x)) = true := fits_nar_byte x
theorem own_fith (x : Int32) : fits .byte (.int (StrChars.hi8 x)) = true := own_fitb _
theorem own_lo (c : Int32) : (c >>> ((0 : Int32) &&& 31)).toInt8.toInt32 = StrChars.lo8 c := by rw [StrChars.shr0]; rfl
theorem own_shl1 {i : Nat} (h : 2 * i < 2 ^ 31) : Int32.ofNat i <<< ((1 : Int32) &&& 31) = Int32.ofNat (2 * i) := by
 have q := c_ishl (Int32.ofNat i) 1 1 rfl
 apply Int32.toInt_inj.mp
 have b := (Int32.ofNat i <<< ((1 : Int32) &&& 31)).toInt_lt
 have b2 := (Int32.ofNat i <<< ((1 : Int32) &&& 31)).le_toInt
 rw [own_toI (k := i) (by omega)] at q
 rw [own_toI h]
 omega
theorem own_lt32' {a b : Nat} (ha : a < 2 ^ 31) (hb : b < 2 ^ 31) (h : Int32.ofNat a < Int32.ofNat b) : a < b := by
 rw [Int32.lt_iff_toInt_lt, own_toI hb, own_toI ha] at h; omega
theorem own_inj32 {a b : Nat} (ha : a < 2 ^ 31) (hb : b < 2 ^ 31) (h : Int32.ofNat a = Int32.ofNat b) : a = b := by
 have q := congrArg Int32.toInt h
 rw [own_toI hb, own_toI ha] at q; omega
theorem own_ne32 {a b : Nat} (ha : a < 2 ^ 31) (hb : b < 2 ^ 31) (h : a ≠ b) : ¬ Int32.ofNat a = Int32.ofNat b := fun q => h (own_inj32 ha hb q)
theorem own_nat_succ (k : Nat) : Int32.ofNat k + 1 = Int32.ofNat (k + 1) := (inc_ofNat k).symm
theorem own_getD_mem {cs : List Int32} {r : Nat} (h : r < cs.length) : cs.getD r 0 ∈ cs := by
 have e : cs.getD r 0 = cs[r] := by simp [List.getD_eq_getElem?_getD, h]
 rw [e]; exact List.getElem_mem h
theorem own_some {x y : Int32} (h : x = y) : some (Value.int x) = some (Value.int y) := by rw [h]
theorem wide_app (xs cs : List Int32) : StrChars.Road.wideBytes (xs ++ cs) = StrChars.Road.wideBytes xs ++ StrChars.Road.wideBytes cs := by
 induction xs with
 | nil => rfl
 | cons x r ih => simp [StrChars.Road.wideBytes, ih]
theorem wide_len (cs : List Int32) : (StrChars.Road.wideBytes cs).length = 2 * cs.length := by
 induction cs with
 | nil => rfl
 | cons x r ih => simp [StrChars.Road.wideBytes, ih]; omega
theorem own_setE (xs : List Value) (k j : Nat) (ys : List Value) (v : Value) (h : xs.length = k) : (xs ++ ys).set (k + j) v = xs ++ ys.set j v := by
 subst h; rw [List.set_append_right _ _ (by omega)]; simp
theorem own_wset {xs : List Int32} {i : Nat} (hx : xs.length = i) (ch : Int32) (d : Value) : ((StrChars.Road.wideBytes xs ++ List.replicate 2 d).set (2 * i) (.int (StrChars.lo8 ch))).set (2 * i + 1) (.int (StrChars.hi8 ch)) = StrChars.Road.wideBytes (xs ++ [ch]) := by
 have h : (StrChars.Road.wideBytes xs).length = 2 * i := by rw [wide_len, hx]
 have q := own_setE _ _ 0 (List.replicate 2 d) (.int (StrChars.lo8 ch)) h
 rw [Nat.add_zero] at q
 rw [q, own_setE _ _ 1 _ _ h, wide_app]
 rfl
theorem own_ensG {k cap : Nat} (h : k ≤ cap) (hc : cap ≤ 18) : ¬ (0 : Int32) < Int32.ofNat k - Int32.ofNat cap := by
 have t : ∀ c : Fin 19, ∀ j : Fin 19, j.val ≤ c.val → ¬ (0 : Int32) < Int32.ofNat j.val - Int32.ofNat c.val := by decide +kernel
 exact t ⟨cap, by omega⟩ ⟨k, by omega⟩ h
theorem own_or3 {a b c : Nat} (ha : a < 2 ^ 31) (hb : b < 2 ^ 31) (hc : c < 2 ^ 31) : ¬ ((Int32.ofNat a ||| Int32.ofNat b) ||| Int32.ofNat c) < 0 := by
 have q := c_or0 (Int32.ofNat a) (Int32.ofNat b) (by rw [own_toI ha]; omega) (by rw [own_toI hb]; omega)
 have q1 : 0 ≤ (Int32.ofNat a ||| Int32.ofNat b).toInt := by rw [own_toI ha] at q; omega
 have q2 := c_or0 (Int32.ofNat a ||| Int32.ofNat b) (Int32.ofNat c) q1 (by rw [own_toI hc]; omega)
 rw [own_lt]
 have e : (0 : Int32).toInt = 0 := rfl
 omega
theorem own_sub32 {a b : Nat} (h : b ≤ a) : Int32.ofNat a - Int32.ofNat b = Int32.ofNat (a - b) := by
 have q := own_add32 (a - b) b
 rw [Nat.sub_add_cancel h] at q
 rw [← q]
 exact Int32.add_sub_cancel _ _
theorem own_catG {Z : State} {h : Heap} {a : Addr} {ka : ClassId} {ty : FieldType} {z : Int32} {xs us : List Value} {d : Value} {k n p : Nat} (hk : xs.length = k) (k31 : k < 2 ^ 31) (n31 : n < 2 ^ 31)
  (V : Arv Z h a ka ty z ((xs ++ List.replicate p d).take (Int32.ofNat k).toNatClampNeg ++ us ++ (xs ++ List.replicate p d).drop ((Int32.ofNat k).toNatClampNeg + (Int32.ofNat n).toNatClampNeg)) d) : Arv Z h a ka ty z (xs ++ us) d := by
 rw [own_nat32 k31, own_nat32 n31] at V
 have e1 : (xs ++ List.replicate p d).take k = xs := by rw [← hk]; simp
 have e2 : (xs ++ List.replicate p d).drop (k + n) = List.replicate (p - n) d := by rw [← hk, List.drop_append, List.drop_eq_nil_of_le (by omega), List.nil_append, Nat.add_sub_cancel_left, List.drop_replicate]
 rw [e1, e2] at V
 exact V.pad fun i => (pad_rep (xs ++ us) d (p - n) i).symm
theorem own_lbat (d : Value) (cs : List Int32) (j : Nat) (h : j < cs.length) : (lb cs).getD j d = .int (StrChars.lo8 (cs.getD j 0)) := by
 simp [lb, List.getD_eq_getElem?_getD, h, StrChars.lo8]
theorem own_latw {c : Int32} (h : Lat c) : Wid c := own_up (cs := [c]) (own_cS h own_c0) c (List.mem_singleton.mpr rfl)
theorem own_chr8 {c : Int32} (h : Lat c) : (StrChars.lo8 c &&& (255 : Int32)) = c := StrChars.lo8_mask h.1 h.2
theorem own_i2cW {c : Int32} (h : Wid c) : c.toUInt32.toUInt16.toUInt32.toInt32 = c := own_nar_wid h
theorem own_takeS (cs : List Int32) (k : Nat) (h : k < cs.length) : cs.take k ++ [cs.getD k 0] = cs.take (k + 1) := by
 have e : cs.getD k 0 = cs[k] := by simp [List.getD_eq_getElem?_getD, h]
 rw [e]
 exact List.take_append_getElem h
theorem own_codC {cs ds : List Int32} (h : ∀ c ∈ cs, Lat c) (g : ∀ c ∈ ds, Lat c) : ∀ c ∈ cs ++ ds, Lat c := fun c hc => by
 rcases List.mem_append.mp hc with q | q
 ·exact h c q
 ·exact g c q
theorem own_widC {cs ds : List Int32} (h : ∀ c ∈ cs, Wid c) (g : ∀ c ∈ ds, Wid c) : ∀ c ∈ cs ++ ds, Wid c := fun c hc => by
 rcases List.mem_append.mp hc with q | q
 ·exact h c q
 ·exact g c q
theorem own_exL {cs ds : List Int32} (h : ∃ c ∈ cs, (255 : Int32) < c) : ∃ c ∈ cs ++ ds, (255 : Int32) < c := by
 obtain ⟨c, hc, q⟩ := h
 exact ⟨c, List.mem_append_left _ hc, q⟩
theorem own_exR {cs ds : List Int32} (h : ∃ c ∈ ds, (255 : Int32) < c) : ∃ c ∈ cs ++ ds, (255 : Int32) < c := by
 obtain ⟨c, hc, q⟩ := h
 exact ⟨c, List.mem_append_right _ hc, q⟩
theorem own_latL {cs : List Int32} (w : ∀ c ∈ cs, Wid c) (h : ∀ c ∈ cs, ¬ 255 < c) : ∀ c ∈ cs, Lat c := fun c hc => ⟨(w c hc).1, h c hc⟩
theorem own_lom (cs : List Int32) : (cs.map fun c => Value.int (StrChars.lo8 c)) = lb cs := by simp [lb, StrChars.lo8]
/-- a builder's array of z bytes xs codes the chars cs by the coder cb: BwA; and the coder is 1 just where a char is above 255: BdA -/
def BwA (cs : List Int32) (cap : Nat) (cb z : Int32) (xs : List Value) : Prop := (cb = 0 ∧ z = Int32.ofNat cap ∧ xs = lb cs ∧ ∀ c ∈ cs, Lat c) ∨ (cb = 1 ∧ z = Int32.ofNat (2 * cap) ∧ xs = StrChars.Road.wideBytes cs)
def BdA (cs : List Int32) (cap : Nat) (cb z : Int32) (xs : List Value) : Prop := BwA cs cap cb z xs ∧ (cb = 1 → ∃ c ∈ cs, (255 : Int32) < c)
/-- the coder behind inflateIfNeededFor -/
def CbR (cb cd cb2 : Int32) : Prop := (cb2 = 0 ∧ cb = 0 ∧ cd = 0) ∨ (cb2 = 1 ∧ (cb = 1 ∨ cd = 1))
theorem BdA.app {cs ds : List Int32} {cap : Nat} {cb cd N cb2 z2 : Int32} {vs xs2 : List Value} (h : cb = 1 → (∃ c ∈ cs, (255 : Int32) < c) ∨ cd = 1) (hd : StrChars.Road.CodA ds cd N vs) (w : BwA (cs ++ ds) cap cb2 z2 xs2) (r : CbR cb cd cb2) : BdA (cs ++ ds) cap cb2 z2 xs2 := by
 refine ⟨w, fun e => ?_⟩
 have key : cd = 1 → ∃ c ∈ cs ++ ds, (255 : Int32) < c := fun q => by
  rcases hd with ⟨q2, -⟩ | ⟨-, -, -, q3⟩
  ·rw [q2] at q; exact absurd q (by decide)
  ·exact own_exR q3
 rcases r with ⟨q, -⟩ | ⟨-, q | q⟩
 ·rw [q] at e; exact absurd e (by decide)
 ·rcases h q with q | q
  ·exact own_exL q
  ·exact key q
 ·exact key q
theorem BdA.cod {cs : List Int32} {cap : Nat} {cb z : Int32} {xs : List Value} (h : BdA cs cap cb z xs) : (cb = 0 ∧ z = Int32.ofNat cap ∧ xs = lb cs ∧ ∀ c ∈ cs, Lat c) ∨ (cb = 1 ∧ z = Int32.ofNat (2 * cap) ∧ xs = StrChars.Road.wideBytes cs ∧ ∃ c ∈ cs, (255 : Int32) < c) := by
 rcases h with ⟨q | ⟨q1, q2, q3⟩, g⟩
 ·exact Or.inl q
 ·exact Or.inr ⟨q1, q2, q3, g q1⟩
theorem own_ad {a2 a b : Addr} {n : Nat} (h : @Eq Nat a2 a ∨ @LE.le Nat instLENat n a2) : a2 ∈ ([b, a] : List Addr) ∨ n ≤ a2 := by
 rcases h with h | h
 ·exact Or.inl (by have q : a2 = a := h; rw [q]; simp)
 ·exact Or.inr h
theorem own_lset (cs : List Int32) (ch : Int32) (d : Value) : (lb cs ++ List.replicate 1 d).set cs.length (.int (StrChars.lo8 ch)) = lb (cs ++ [ch]) := by
 have q := own_setE (lb cs) cs.length 0 (List.replicate 1 d) (.int (StrChars.lo8 ch)) (lb_len cs)
 rw [Nat.add_zero] at q
 rw [q, lb_app]
 rfl
theorem own_len1 (cs : List Int32) (ch : Int32) : Int32.ofNat cs.length + (1 : Int32) = Int32.ofNat (cs ++ [ch]).length := by rw [own_nat_succ, List.length_append]; rfl
theorem own_lat1 {ch : Int32} (h : Lat ch) : ∀ c ∈ [ch], Lat c := own_cS h own_c0
theorem own_c01 {ds : List Int32} {cd N : Int32} {vs : List Value} (h : StrChars.Road.CodA ds cd N vs) : cd = 0 ∨ cd = 1 := h.imp (fun q => q.1) fun q => q.1
theorem CbR.le {cb cd cb2 : Int32} (r : CbR cb cd cb2) (h : cb2 = 0) : cd = 0 := by
 rcases r with ⟨-, -, q⟩ | ⟨q, -⟩
 ·exact q
 ·rw [q] at h; exact absurd h (by decide)
/-- the String constants that are read -/
abbrev ELs : List (String × Nat) := [("java/lang/String", 7), ("java/lang/String", 1005), ("org/latchkey/cli/ResultLineFieldPinLaw", 31)]
def ChJ (Z : State) (vm : Vm) (h : Heap) : Prop := Z.Warmed39 vm ∧ CHv Z ELs vm h ∧ ∃ a0, EW Z a0 ELs
theorem ChJ.keep {Z : State} {vm : Vm} {h h' : Heap} (E : ChJ Z vm h) (K : Keep h h' []) : ChJ Z vm h' := ⟨E.1, E.2.1.keep K (by simp), E.2.2⟩
theorem ChJ.cr {Z s : State} {vm0 vm1 : Vm} {h : Heap} (E : ChJ Z vm0 h) (W : (s.setVm vm0).WarmedH vm1) : CHr Z ELs vm0 h vm1 h := by
 obtain ⟨hZ, H, a0, w⟩ := E
 have q := CHv.later (h' := h) hZ (show (Wst Z vm0 h).Warmed39 vm1 from W.wide) w ⟨Nat.le_refl _, fun _ _ q => q⟩ (Or.inl W.interned_eq) H
 exact ⟨q.1, Nat.le_refl _, q.2⟩
theorem ChJ.warm {Z s : State} {vm0 vm1 : Vm} {h : Heap} (E : ChJ Z vm0 h) (W : (s.setVm vm0).WarmedH vm1) : ChJ Z vm1 h := ⟨State.Warmed39.trans (t := s.setVm vm0) E.1 W.wide, (E.cr W).1, E.2.2⟩
/-- and the builder b with its array a is none of theirs -/
def ChS (Z : State) (b a : Addr) (vm : Vm) (h : Heap) : Prop := ChJ Z vm h ∧ (Safe Z ELs vm h b ∧ b < h.size) ∧ (Safe Z ELs vm h a ∧ a < h.size)
theorem ChS.make {Z : State} {b a : Addr} {vm : Vm} {hv h : Heap} (E : ChJ Z vm hv) (K : Keep hv h []) (hb : hv.size ≤ b) (ha : hv.size ≤ a) (lb_ : b < h.size) (la_ : a < h.size) : ChS Z b a vm h :=
 ⟨E.keep K, ⟨Safe.keep K (by simp) E.2.1 (Safe.new hb), lb_⟩, ⟨Safe.keep K (by simp) E.2.1 (Safe.new ha), la_⟩⟩
theorem ChS.upd {Z : State} {b a a2 : Addr} {vm : Vm} {h h' : Heap} (E : ChS Z b a vm h) (K : Keep h h' [b, a]) (ad : @Eq Nat a2 a ∨ @LE.le Nat instLENat h.size a2) (l2 : a2 < h'.size) : ChS Z b a2 vm h' := by
 have hs : ∀ x ∈ ([b, a] : List Addr), Safe Z ELs vm h x := allS E.2.1.1 (allS E.2.2.1 all0)
 refine ⟨⟨E.1.1, E.1.2.1.keep K hs, E.1.2.2⟩, ⟨Safe.keep K hs E.1.2.1 E.2.1.1, Nat.lt_of_lt_of_le E.2.1.2 K.1⟩, ⟨?_, l2⟩⟩
 rcases ad with q | q
 ·have q' : a2 = a := q
  rw [q']; exact Safe.keep K hs E.1.2.1 E.2.2.1
 ·exact Safe.keep K hs E.1.2.1 (Safe.new q)
theorem ChS.keep {Z : State} {b a : Addr} {vm : Vm} {h h' : Heap} (E : ChS Z b a vm h) (K : Keep h h' []) : ChS Z b a vm h' :=
 ⟨E.1.keep K, ⟨Safe.keep K (by simp) E.1.2.1 E.2.1.1, Nat.lt_of_lt_of_le E.2.1.2 K.1⟩, ⟨Safe.keep K (by simp) E.1.2.1 E.2.2.1, Nat.lt_of_lt_of_le E.2.2.2 K.1⟩⟩
theorem ChS.warm {Z s : State} {b a : Addr} {vm0 vm1 : Vm} {h : Heap} (E : ChS Z b a vm0 h) (W : (s.setVm vm0).WarmedH vm1) : ChS Z b a vm1 h :=
 ⟨E.1.warm W, ⟨(E.1.cr W).safe E.2.1.2 E.2.1.1, E.2.1.2⟩, ⟨(E.1.cr W).safe E.2.2.2 E.2.2.1, E.2.2.2⟩⟩
theorem ChS.on {Z : State} {b a : Addr} {vm vm1 : Vm} {h h' : Heap} (E : ChS Z b a vm h) (hZ : Z.Warmed39 vm1) (R : CHr Z ELs vm h vm1 h') : ChS Z b a vm1 h' :=
 ⟨⟨hZ, R.1, E.1.2.2⟩, ⟨R.safe E.2.1.2 E.2.1.1, Nat.lt_of_lt_of_le E.2.1.2 R.2.1⟩, ⟨R.safe E.2.2.2 E.2.2.1, Nat.lt_of_lt_of_le E.2.2.2 R.2.1⟩⟩
def lo16 (x : Int32) : Int32 := (x &&& (65535 : Int32)).toUInt32.toUInt16.toUInt32.toInt32
def hi16 (x : Int32) : Int32 := ((XT.ushr x (16 : Int32)) &&& (65535 : Int32)).toUInt32.toUInt16.toUInt32.toInt32
/-- the first n of the two chars of x -/
def sx (x : Int32) (n : Nat) : List Int32 := ([lo16 x, hi16 x] : List Int32).take n
theorem own_wid_i2c (x : Int32) : Wid (x.toUInt32.toUInt16.toUInt32.toInt32) := by
 have q := c_i2c x
 have e5 : (65535 : Int32).toInt = 65535 := rfl
 have e6 : (0 : Int32).toInt = 0 := rfl
 refine ⟨?_, ?_⟩
 ·rw [own_lt]; omega
 ·rw [own_lt]; omega
theorem lo16_wid (x : Int32) : Wid (lo16 x) := own_wid_i2c _
theorem hi16_wid (x : Int32) : Wid (hi16 x) := own_wid_i2c _
theorem sx_wid (x : Int32) (n : Nat) : ∀ c ∈ sx x n, Wid c := fun c hc => (own_cS (P := Wid) (lo16_wid x) (own_cS (hi16_wid x) own_c0)) c (List.mem_of_mem_take hc)
theorem sx_len (x : Int32) (n : Nat) : (sx x n).length ≤ 2 := by rw [sx, List.length_take]; exact Nat.min_le_right _ _
theorem own_le2 {n : Nat} (h : n ≤ 2) : n = 0 ∨ n = 1 ∨ n = 2 := by omega
theorem own_m3 (x : Int32) : ∃ n : Nat, (x &&& (3 : Int32)) % (3 : Int32) = Int32.ofNat n ∧ n ≤ 2 := by
 have q := c_and x 3 (by decide)
 have e3 : (3 : Int32).toInt = 3 := rfl
 rw [e3] at q
 have q2 := (c_irem (x &&& 3) 3 3 rfl).1 q.1
 refine ⟨((x &&& (3 : Int32)) % (3 : Int32)).toInt.toNat, ?_, by omega⟩
 apply Int32.toInt_inj.mp
 rw [own_toI (by omega)]
 omega
theorem own_atj {rs pre ts po : List Int32} {j : Nat} (h : rs = pre ++ (ts ++ po)) (hj : j < ts.length) : rs.getD (pre.length + j) 0 = ts.getD j 0 := by
 rw [h, List.getD_eq_getElem?_getD, List.getD_eq_getElem?_getD, List.getElem?_append_right (by omega), Nat.add_sub_cancel_left, List.getElem?_append_left hj]
theorem own_at0 {rs pre po : List Int32} {x : Int32} (h : rs = pre ++ (x :: po)) : rs.getD pre.length 0 = x := by
 rw [h]
 simp [List.getD_eq_getElem?_getD, List.getElem?_append]
abbrev nul4 : List Int32 := [(110 : Int32), (117 : Int32), (108 : Int32), (108 : Int32)]
/-- a booked String, read -/
theorem own_said {Z : State} {vm : Vm} {h : Heap} {q : SB.SQ} {us : Array UInt16} (hal : Z.vm.Alike vm) (F0 : SlB (Wst Z vm h) q us) (hl : us.all (· < 256) = true) {z : Int32} (hz : ¬ z < 0) (hn : z.toNatClampNeg = us.size) :
  Exa Z h q.sa "java/lang/String" ∧ Fld Z h q.sa "java/lang/String" "coder" "B" (.int 0) ∧ Fld Z h q.sa "java/lang/String" "value" "[B" (.ref q.sd) ∧ Arv Z h q.sd q.SA.cls .byte z (us.toList.map fun u => Value.int (Jvm.Lit.byteI u)) (.int 0) := by
 obtain ⟨cS, ⟨S, hf, rfl⟩, ⟨kS, hk, -, hs⟩, -, hb⟩ := F0.carry (V := { Z with heap := h }) hal.symm F0.ha F0.hd
 have hsl : q.SA.slots = us.map fun u => Value.int (Jvm.Lit.byteI u) := by rw [hb, SBG.stringBytes_lat hl]; rfl
 have H : Has q.SA (us.toList.map fun u => Value.int (Jvm.Lit.byteI u)) (.int 0) := fun j hj => by
  rw [hsl] at hj ⊢
  have hj' : j < us.size := by simpa using hj
  simp [hj']
 obtain ⟨cv, kv, iv, v1, v2⟩ := S.ffV
 obtain ⟨cc, kc, ic, c1, c2⟩ := S.ffC
 refine ⟨⟨_, kS, S.ha, hf, hk, S.obj, fun _ => hs⟩, ⟨_, cc, kc, ic, _, S.ha, c1, S.stC, S.kn, S.obj, c2, S.slC⟩, ⟨_, cv, kv, iv, _, S.ha, v1, S.stV, S.kn, S.obj, v2, S.slV⟩,
  ⟨_, ⟨S.hd, S.2.2.2.2.2.2.2.2.2.2.1, S.2.2.2.2.2.2.2.2.2.2.2.1⟩, rfl, by rw [hsl, Array.size_map, hn], hz, H, fun j hj => ?_⟩⟩
 rw [← SBG.getD_of (H j hj)]
 exact S.2.2.2.2.2.2.2.2.2.2.2.2.2.2.2 j hj
section
variable {p : Program} {l : Launch} {e : Env} {R : Room} {s : State} {m : MethodId} {args : Array Value} {below : List Frame} {meth : Method} {c : Code} {T : State} {locs : List Loc} {cells slots : Nat} {Z : State} {a0 : Array Value} {EL : List (String × Nat)} {h : Heap} {vm0 : Vm} {own text : String} {index : Nat}
/-- ldc_w at g leads from T to U with a on the stack -/
def LwTo (e : Env) (T : State) (g : JFrame) (index : Nat) (a : Addr) (U : State) : Prop :=
 ∀ (Q : Unit → Pre) (E : CtlPost) (d : Bool) (acts : List Action), (∀ d' acts', Q () d' acts' (U.setTop { g with stack := .ref a :: g.stack })) → wp (ldc_w.sem index) Q E e d acts (T.setTop g)
theorem own_lwStep (X : Stand p l e R s m args below meth c T locs cells slots) (hx : p.tables.exec = Jvm.exec) {g : JFrame} (hg : g.method = m) (hd : decode c.code g.pc = .ok (.ldc_w index, 3)) {a : Addr} {U : State} (hU : U.topJava?.isSome)
  (hw : LwTo e T g index a U) (target) (r : Steps p.tables e below (U.setTop { g with pc := g.pc + 3, stack := .ref a :: g.stack }) target) : Steps p.tables e below (T.setTop g) target := by
 subst hg
 refine Steps.instr (c := _) (by simpa using X.here) ?_
 simp [jvm, wpRun, exec, X.here.top, hx, hd]
 refine hw _ _ _ _ fun d' acts' acts'' => ?_
 simp [jvm, afterInstr, hU]
 rw [State.modifyTopJava_setTop]
 exact r
theorem own_lwRoad (X : Stand p l e R (s.setVm vm0) m args below meth c T locs cells slots) (hown : T.vm.findClass own = some m.cls) (w : (Cond.stringLink own index text).before args T = true) (wS : ∀ a ∈ Bundle.stringAtoms, a.before args T = true)
  {g : JFrame} (hg : g.method = m) {n : Nat} (hn : 4 * text.toList.length ≤ n) (hbig : n ≤ 536870912) (hc : cells + 2 ≤ R.cells) (hl' : slots + (n + 4) ≤ R.slots) :
  ∃ (a : Addr) (U : State), LwTo e T g index a U ∧ Stand p l e R (s.setVm U.vm) m args below meth c U locs (cells + 2) (slots + (n + 4)) ∧ T.Warmed39 U.vm ∧ Ext T.heap U.heap ∧ T.Interned1 U ∧
   (∃ k, U.vm.classes[m.cls]? = some k ∧ k.resolved[index]? = some (some (.string a))) ∧
   (U.vm.interned = T.vm.interned ∨ ∃ (us : Array UInt16) (b : Addr), U.vm.interned = T.vm.interned.push (us, b) ∧ T.vm.interned.find? (fun p => p.1 == us) = none ∧ (us.all (· < 256) = true → SlIn 0 T.heap.size U b us)) := by
 subst hg
 obtain ⟨k, cf, i, us, hk, hcf, hp, hu, hnm, hdec, ho | ⟨a, hr⟩⟩ := Cond.stringLink_spec hown w
 ·have nt : ∀ {vm1 : Vm} {a : Addr}, T.Warmed39 vm1 → vm1.interned.find? (fun p => p.1 == us) = some (us, a) → T.Warmed39 (vm1.noted g.method.cls index (.string a)) := fun W f =>
   W.notedString hk (Or.inl ho) (by rw [hcf]; exact hnm) (by rw [hcf]; exact hp) (by rw [hcf]; simp [ConstantPool.utf8?, hu]) f
  cases hf : T.vm.interned.find? (fun p => p.1 == us) with
  | some pr =>
   obtain ⟨u', a⟩ := pr
   obtain rfl : u' = us := by simpa using Array.find?_some hf
   have W := nt (State.Warmed39.refl T) hf
   exact ⟨a, T.setVm (T.vm.noted g.method.cls index (.string a)), fun Q E d acts q => (ldc_w.wp_string_found X.here.top hk hcf hp hu ho hf).mpr (q _ _), (X.mono (by omega) (by omega)).retabled (State.Warmed39.trans (t := T) X.warmed.wide W), W,
    ⟨Nat.le_refl _, fun _ _ q => q⟩, ⟨Nat.le_refl _, Or.inl rfl⟩, ⟨_, Vm.classes_note_self index _ hk, Class.resolved_note_self _ ho⟩, Or.inl rfl⟩
  | none =>
   obtain ⟨S, L, h4, fv, fc⟩ := StringT.of_atoms wS
   have hb := text_bytes_le hdec
   have b1 : (bytesOf S.cB us).slots.size = (stringBytes us).size := by rw [(Cell.writeAll_facts _ _).2.2]; simp [bytes0]
   have b2 : (stringAt S.cS S.kS S.fv S.fc us T.heap.size).slots.size = 4 := by simp [string0, Cell.setSlot, h4]
   have hV : (withString T S.cB S.cS S.kS S.fv S.fc us).heap = (T.heap.push (bytesOf S.cB us)).push (stringAt S.cS S.kS S.fv S.fc us T.heap.size) := by rw [withString_eq]; rfl
   have Y : Stand p l e R (s.setVm vm0) g.method args below meth c (withString T S.cB S.cS S.kS S.fv S.fc us) locs (cells + 2) (slots + (n + 4)) := by
    rw [withString_eq]
    exact ((X.pushed (bytesOf S.cB us)).pushed (stringAt S.cS S.kS S.fv S.fc us T.heap.size)).mono (by omega) (by rw [b1, b2]; omega)
   have W := nt (a := T.heap.size + 1) ((State.Warmed39.refl T).interns us (T.heap.size + 1)) (by show (T.vm.interned.push _).find? _ = _; simp [Array.find?_push, hf])
   have hz : (withString T S.cB S.cS S.kS S.fv S.fc us).heap.size = T.heap.size + 2 := by rw [hV]; simp
   refine ⟨T.heap.size + 1, (withString T S.cB S.cS S.kS S.fv S.fc us).setVm (({ T.vm with interned := T.vm.interned.push (us, T.heap.size + 1) } : Vm).noted g.method.cls index (.string (T.heap.size + 1))), fun Q E d acts q => ?_,
    Y.retabled (State.Warmed39.trans (t := T) X.warmed.wide W), W, ⟨?_, fun a cl q => ?_⟩, ⟨?_, Or.inr ⟨us, T.heap.size + 1, rfl, Nat.le_succ _, ?_⟩⟩,
    ⟨_, Vm.classes_note_self (vm := { T.vm with interned := T.vm.interned.push (us, T.heap.size + 1) }) index _ hk, Class.resolved_note_self _ ho⟩,
    Or.inr ⟨us, T.heap.size + 1, rfl, hf, fun hl => made_sl (s := T) wS L h4 rfl W.alike ?_ ?_ hl (by omega) 0⟩⟩
   ·refine ldc_w.wp_string_new X.here.top hk hcf hp hu ho hf L.found L.cls L.initialized L.ordinary L.foundB L.clsB L.kindB L.value L.coder ?_ ?_ (X.cellsAbove hc) ?_ (stringBytes_fit L.clsB L.kindB us) L.valueSlot L.coderSlot (fv _) (fc _) q
    ·rw [Launch.admits_arrayLengthLimit X.admits]; omega
    ·rw [Launch.admits_maxHeapBytes X.admits]; simp only [componentBytes]; omega
    ·have := X.slotsAbove hl'
     rw [h4]; omega
   ·show _ ≤ (withString T S.cB S.cS S.kS S.fv S.fc us).heap.size
    omega
   ·show (withString T S.cB S.cS S.kS S.fv S.fc us).heap[a]? = _
    have := (Array.getElem?_eq_some_iff.mp q).1
    rw [hV, Array.getElem?_push, if_neg (by simp; omega), Array.getElem?_push, if_neg (by omega), q]
   ·show _ ≤ (withString T S.cB S.cS S.kS S.fv S.fc us).heap.size
    omega
   ·show _ < (withString T S.cB S.cS S.kS S.fv S.fc us).heap.size
    omega
   ·show (withString T S.cB S.cS S.kS S.fv S.fc us).heap[T.heap.size]? = _
    rw [hV]; simp [Array.getElem?_push]
   ·show (withString T S.cB S.cS S.kS S.fv S.fc us).heap[T.heap.size + 1]? = _
    rw [hV, Array.getElem?_push, if_pos (by simp)]
 ·exact ⟨a, T, fun Q E d acts q => (ldc_w.wp_string X.here.top hk hcf hp hr).mpr (q _ _), (X.mono (by omega) (by omega)).retabled X.warmed.wide, State.Warmed39.refl T, ⟨Nat.le_refl _, fun _ _ q => q⟩, ⟨Nat.le_refl _, Or.inl rfl⟩, ⟨k, hk, hr⟩, Or.inl rfl⟩
/-- ldc_w of a String constant of EL, read -/
theorem own_ldcWC (X : Stand p l e R (s.setVm vm0) m args below meth c T locs cells slots) (hx : p.tables.exec = Jvm.exec) (hZ : Z.Warmed39 vm0) (hown : vm0.findClass own = some m.cls) (w : (Cond.stringLink own index text).before a0 Z = true) (wS : ∀ a ∈ Bundle.stringAtoms, a.before a0 Z = true)
  (eT : T.heap = h) {k0 : Nat} (hS : s.Since vm0 k0) (hk : k0 ≤ h.size) (hEL : EW Z a0 EL) (hmem : (own, index) ∈ EL) (H : CHv Z EL vm0 h)
  {vs : List Value} {z : Int32} (ht : (∀ c ∈ text.toList, c.toNat < 256) ∧ text.toList.map (fun c => Value.int (Jvm.Lit.byteI c.toNat.toUInt16)) = vs) (hz : ¬ z < 0) (hl : z.toNatClampNeg = vs.length)
  {g : JFrame} (hg : g.method = m) (hd : decode c.code g.pc = .ok (.ldc_w index, 3)) {n : Nat} (hn : 4 * text.toList.length ≤ n) (hbig : n ≤ 536870912) (hc : cells + 2 ≤ R.cells) (hl' : slots + (n + 4) ≤ R.slots) :
  ∃ (a : Addr) (T' : State) (h' : Heap) (k1 : Nat) (b : Addr) (k : ClassId), Stand p l e R (s.setVm T'.vm) m args below meth c T' locs (cells + 2) (slots + (n + 4)) ∧ T'.heap = h' ∧ Ext h h' ∧ s.Since T'.vm k1 ∧ k1 ≤ h'.size ∧ Z.Warmed39 (s.setVm T'.vm).vm ∧ (s.setVm T'.vm).vm.findClass own = some m.cls ∧
   Exa Z h' a "java/lang/String" ∧ Fld Z h' a "java/lang/String" "coder" "B" (.int 0) ∧ Fld Z h' a "java/lang/String" "value" "[B" (.ref b) ∧ Arv Z h' b k .byte z vs (.int 0) ∧ a < h'.size ∧ b < h'.size ∧ CHr Z EL vm0 h T'.vm h' ∧ Lit (s.setVm T'.vm) own index a ∧ (∀ x, Safe Z EL T'.vm h' x → x ≠ a ∧ x ≠ b) ∧
   ∀ target, Steps p.tables e below (T'.setTop { g with pc := g.pc + 3, stack := .ref a :: g.stack }) target → Steps p.tables e below (T.setTop g) target := by
 subst eT
 have zT : Z.Warmed39 T.vm := wtrans (s := s.setVm vm0) hZ X.warmed
 obtain ⟨a, U, lw, X', W, E, I, ⟨k2, aa, ac⟩, hint⟩ := own_lwRoad X (own := own) (text := text) (index := index) (by rw [X.warmed.alike.findClass]; exact hown) (mvS (s := T) zT w) (fun d hd => by
  have q := wS d hd
  simp only [Bundle.stringAtoms, List.mem_cons, List.not_mem_nil, or_false] at hd
  rcases hd with rfl | rfl | rfl | hd
  ·exact mv (s := T) zT q
  ·exact mv (s := T) zT q
  ·exact mvA (s := T) zT q
  ·rcases hd with rfl | rfl | rfl | rfl <;> exact mv (s := T) zT q) hg hn hbig hc hl'
 have zU : Z.Warmed39 U.vm := State.Warmed39.trans (t := T) zT W
 have A := CHv.at X hZ hEL H
 have B := CHv.later (vm := T.vm) (vm1 := U.vm) (h' := U.heap) zT (show (Wst Z T.vm T.heap).Warmed39 U.vm from W) hEL E (hint.imp id fun ⟨us, b, e1, e2, e3⟩ => ⟨us, b, e1, e2, fun lat => by
  obtain ⟨q, cS, hq, r1, r2, r3, r4, r5⟩ := e3 lat
  exact ⟨q, hq, SlB.carry (W := U) (V := Wst Z U.vm U.heap) ⟨cS, r1, r2, r3, r4⟩ (Vm.Alike.refl _) r1.1.ha r1.1.hd, r5.resolve_left fun z => Nat.not_lt_zero _ z.1⟩⟩) A.1
 have fU : U.vm.findClass own = some m.cls := by rw [W.alike.findClass, X.warmed.alike.findClass]; exact hown
 obtain ⟨k3, cf, i, us, ab, hcf, hp, hu, -, htext, -⟩ := Cond.stringLink_spec (s := Wst Z U.vm U.heap) fU (mvS (s := { Z with heap := U.heap }) (args := a0) zU w)
 obtain rfl : k3 = k2 := Option.some.inj (ab.symm.trans aa)
 have bk : Booksv U.vm own index us a := ⟨m.cls, k3, cf, i, fU, ab, hcf, hp, hu, Or.inl ac⟩
 obtain ⟨q, rfl, F⟩ := SlB.of (B.1 _ hmem us a bk)
 have ev : (us.toList.map fun u => Value.int (Jvm.Lit.byteI u)) = vs := by rw [← ht.2, Jvm.ClassFile.units_of_text htext ht.1, List.map_map]; rfl
 have S := own_said zU.alike F (Jvm.ClassFile.lat_of_text htext ht.1) hz (by rw [hl, ← ev]; simp)
 rw [ev] at S
 refine ⟨q.sa, U, _, U.heap.size, q.sd, q.SA.cls, X', rfl, E, hS.trans ⟨State.Warmed39.trans (t := T) X.warmed.wide W, State.Booked.step (X.warmed.no_new_pair _) X.same.2.1 I⟩ (Nat.le_trans hk E.1), Nat.le_refl _, zU, fU, S.1, S.2.1, S.2.2.1, S.2.2.2,
  (Array.getElem?_eq_some_iff.mp F.ha).1, (Array.getElem?_eq_some_iff.mp F.hd).1, A.trans ⟨B.1, E.1, B.2⟩, ?_, fun x Sx => ⟨fun e1 => Sx ⟨_, hmem, us, _, bk, q, rfl, F, Or.inl e1⟩, fun e1 => Sx ⟨_, hmem, us, _, bk, q, rfl, F, Or.inr e1⟩⟩, own_lwStep X hx hg hd X'.here.top lw⟩
 simp [Lit, State.resolvedAt?, fU, aa, ac]
end

abbrev SCs (Z : State) (g : Int32) : Prop := Sta Z Z.heap "java/lang/String" "COMPACT_STRINGS" "Z" (.int g)
abbrev SFm (Z : State) (g : Value) : Prop := Sta Z Z.heap "jdk/internal/util/Preconditions" "SIOOBE_FORMATTER" "Ljava/util/function/BiFunction;" g
abbrev SAd (Z : State) : Prop := Sta Z Z.heap "java/lang/StringUTF16" "$assertionsDisabled" "Z" (.int (1 : Int32))
abbrev SHi (Z : State) : Prop := Sta Z Z.heap "java/lang/StringUTF16" "HI_BYTE_SHIFT" "I" (.int (0 : Int32))
abbrev SLo (Z : State) : Prop := Sta Z Z.heap "java/lang/StringUTF16" "LO_BYTE_SHIFT" "I" (.int (8 : Int32))
abbrev FBv (Z : State) (h : Heap) (b : Addr) (v : Value) : Prop := Fld Z h b "java/lang/AbstractStringBuilder" "value" "[B" v
abbrev FBc (Z : State) (h : Heap) (b : Addr) (v : Value) : Prop := Fld Z h b "java/lang/AbstractStringBuilder" "coder" "B" v
abbrev FBn (Z : State) (h : Heap) (b : Addr) (v : Value) : Prop := Fld Z h b "java/lang/AbstractStringBuilder" "count" "I" v
abbrev FBm (Z : State) (h : Heap) (b : Addr) (v : Value) : Prop := Fld Z h b "java/lang/AbstractStringBuilder" "maybeLatin1" "Z" v
abbrev FSv (Z : State) (h : Heap) (b : Addr) (v : Value) : Prop := Fld Z h b "java/lang/String" "value" "[B" v
abbrev FSc (Z : State) (h : Heap) (b : Addr) (v : Value) : Prop := Fld Z h b "java/lang/String" "coder" "B" v
abbrev XBu (Z : State) (h : Heap) (b : Addr) : Prop := Exa Z h b "java/lang/StringBuilder"
abbrev XSt (Z : State) (h : Heap) (b : Addr) : Prop := Exa Z h b "java/lang/String"
abbrev OZ (Z : State) (h : Heap) (n : Nat) : Prop := Old Z Z.heap.size h ∧ @LE.le Nat instLENat Z.heap.size n
abbrev Lq (a b : Nat) : Prop := @LE.le Nat instLENat a b
abbrev Nq (a b : Nat) : Prop := ¬ @Eq Nat a b
theorem ln_ : (∀ a b : List Int32, (a ++ b).length = a.length + b.length) ∧ (∀ (x : Int32) (a : List Int32), (x :: a).length = a.length + 1) ∧ ([] : List Int32).length = 0 := ⟨fun _ _ => List.length_append, fun _ _ => List.length_cons, List.length_nil⟩
def Qpch (Z : State) (a : Addr) (ka : ClassId) (nz : Nat) (vs : List Value) (i : Nat) (ch : Int32) (h0 : Heap) (n0 : Nat) (v : Option Value) (h : Heap) (L : List Loc) : Prop := v = none ∧ Fr n0 L ∧ Keep h0 h [a] ∧ (Arv Z h a ka .byte (Int32.ofNat nz) ((vs.set (2 * i) (.int (StrChars.lo8 ch))).set (2 * i + 1) (.int (StrChars.hi8 ch))) (.int 0))
theorem pn_0 : plainName "java/lang/StringUTF16" = true := by first | (simp [plainName, overriddenIn]; done) | decide +kernel
theorem ef_pch (m : MethodId) (x0 : Addr) (x1 : Int32) (x2 : Int32) : entryFrame m #[(.ref x0), (.int x1), (.int x2)] 3 = mkF m 0 #[sR x0, sI x1, sI x2] [] := by first | (simp [entryFrame, mkF, argsToLocals, Value.category]; done) | rfl
abbrev K49 (i : Nat) := decode jdk_52_method_4_code i
theorem d49_0 : K49 0 = .ok (.getstatic 44, 3) := by decide +kernel
theorem d49_3 : K49 3 = .ok (.ifCond .ne 25, 3) := by decide +kernel
theorem d49_28 : K49 28 = .ok (.iload_n 1, 1) := by decide +kernel
theorem d49_29 : K49 29 = .ok (.iconst 1, 1) := by decide +kernel
theorem d49_30 : K49 30 = .ok (.ishl, 1) := by decide +kernel
theorem d49_31 : K49 31 = .ok (.istore_n 1, 1) := by decide +kernel
theorem d49_32 : K49 32 = .ok (.aload_n 0, 1) := by decide +kernel
theorem d49_33 : K49 33 = .ok (.iload_n 1, 1) := by decide +kernel
theorem d49_34 : K49 34 = .ok (.iinc 1 1, 3) := by decide +kernel
theorem d49_37 : K49 37 = .ok (.iload_n 2, 1) := by decide +kernel
theorem d49_38 : K49 38 = .ok (.getstatic 59, 3) := by decide +kernel
theorem d49_41 : K49 41 = .ok (.ishr, 1) := by decide +kernel
theorem d49_42 : K49 42 = .ok (.i2b, 1) := by decide +kernel
theorem d49_43 : K49 43 = .ok (.bastore, 1) := by decide +kernel
theorem d49_44 : K49 44 = .ok (.aload_n 0, 1) := by decide +kernel
theorem d49_45 : K49 45 = .ok (.iload_n 1, 1) := by decide +kernel
theorem d49_46 : K49 46 = .ok (.iload_n 2, 1) := by decide +kernel
theorem d49_47 : K49 47 = .ok (.getstatic 63, 3) := by decide +kernel
theorem d49_50 : K49 50 = .ok (.ishr, 1) := by decide +kernel
theorem d49_51 : K49 51 = .ok (.i2b, 1) := by decide +kernel
theorem d49_52 : K49 52 = .ok (.bastore, 1) := by decide +kernel
theorem d49_53 : K49 53 = .ok (.return_, 1) := by decide +kernel
set_option maxRecDepth 65536 in
set_option maxHeartbeats 40000000 in
theorem pch (l : Launch) (Z : State) (a0 : Array Value) (hw : ∀ d ∈ tables_1, d.before a0 Z = true) (ws : List Jvm.Cond) (a : Addr) (ka : ClassId) (nz : Nat) (vs : List Value) (i : Nat) (ch : Int32) (h0 : Heap) (n0 : Nat) (Z0 : n0 ≤ h0.size) (q0 : OZ Z h0 n0) (q1 : SAd Z) (q2 : SHi Z) (q3 : SLo Z) (q4 : Arv Z h0 a ka .byte (Int32.ofNat nz) vs (.int 0)) (q5 : Lq n0 a) (hii : 2 * i + 1 < nz) (hz : nz ≤ 64) (hvl : 2 * i + 1 < vs.length) :
  MetFree l y_0 (head1 (Jvm.Cond.code y_0 jdk_52_method_4_code 3 none :: ws) r_m0) (fun a_ U_ => a_ = #[(.ref a), (.int (Int32.ofNat i)), (.int ch)] ∧ Z.Warmed39 U_.vm ∧ U_.heap = h0) (fun _ _ _ _ _ => True) (fun _ U_ o_ V_ => ∃ v_ L_, o_ = .returned v_ ∧ Qpch Z a ka nz vs i ch h0 n0 v_ V_.heap L_ ∧ FrameEnd U_ o_ V_ L_ r_m0.cells r_m0.slots) := by
 refine MetFree.of_bodySF (plainFor_of_name pn_0) hisR ?_
 intro p e s m args below meth c s₁ Bd ap hP hK
 obtain ⟨rfl, hZ, hh⟩ := hP
 have hx := Bd.exec
 have dc := @hb _ _ Bd.bytes
 have hml : c.maxLocals = 3 := ap
 have hown : s.vm.findClass "java/lang/StringUTF16" = some m.cls := findClass_of_methodNamed Bd.named
 have hnm := (name_of_methodNamed Bd.named Bd.method).1
 have X0 : Stand p l e r_m0 s m #[(.ref a), (.int (Int32.ofNat i)), (.int ch)] below meth c s₁ [] 0 0 := Stand.of_body Bd
 have e0 : s₁.heap = h0 := by rw [← hh, Bd.state]; rfl
 have N0 := Fr.nil n0
 have Oo := q0.1
 have zo := q0.2
 have aw := own_alt q4.lt
 refine Gl.go (A := s₁.setTop (entryFrame m #[(.ref a), (.int (Int32.ofNat i)), (.int ch)] 3)) (P := fun o_ U_ => ∃ v_ L_, o_ = .returned v_ ∧ Qpch Z a ka nz vs i ch h0 n0 v_ U_.heap L_ ∧ FrameEnd s o_ U_ L_ r_m0.cells r_m0.slots) (fun t_ k_ => castTop (ef_pch m a (Int32.ofNat i) ch) k_) ?_
 show Gl p.tables e below _ (s₁.setTop (mkF m 0 #[sR a, sI (Int32.ofNat i), sI ch] []))
 refine gGetS (host := "") Gl.cl X0 hx hZ hown (Or.inl (tw hw 242 rfl)) Via.refl e0 (q1.ext Oo.2) rfl (dc d49_0) ?_
 intro T2 X2 e2
 refine Gl.go (fun _ hr => zifYes X2.here hx (pc0 := 3) (pc' := 28) rfl (dc d49_3) rfl (XT.i0_ne_t (by decide)) (by decide) (by decide) (ziloadN X2.here hx (dc d49_28) rfl (ziconst X2.here hx (dc d49_29) (zishl X2.here hx (dc d49_30) rfl hr)))) ?_
 show Gl p.tables e below _ (T2.setTop (mkF m 31 #[sR a, sI (Int32.ofNat i), sI ch] [(.int ((Int32.ofNat i) <<< ((1 : Int32) &&& 31)))]))
 rw [(own_shl1 (i := i) (by omega))]
 show Gl p.tables e below _ (T2.setTop (mkF m 31 #[sR a, sI (Int32.ofNat i), sI ch] [(.int (Int32.ofNat (2 * i)))]))
 refine Gl.go (fun _ hr => zistoreN X2.here hx (dc d49_31) rfl (l' := #[sR a, sI (Int32.ofNat (2 * i)), sI ch]) rfl (zaloadN X2.here hx (dc d49_32) rfl rfl (ziloadN X2.here hx (dc d49_33) rfl (ziinc X2.here hx (dc d49_34) rfl (l' := #[sR a, sI ((Int32.ofNat (2 * i)) + (1 : Int32)), sI ch]) rfl hr)))) ?_
 show Gl p.tables e below _ (T2.setTop (mkF m 37 #[sR a, sI ((Int32.ofNat (2 * i)) + (1 : Int32)), sI ch] [(.int (Int32.ofNat (2 * i))), (.ref a)]))
 rw [(own_nat_succ (2 * i))]
 show Gl p.tables e below _ (T2.setTop (mkF m 37 #[sR a, sI (Int32.ofNat (2 * i + 1)), sI ch] [(.int (Int32.ofNat (2 * i))), (.ref a)]))
 refine Gl.go (fun _ hr => ziloadN X2.here hx (dc d49_37) rfl hr) ?_
 refine gGetS (host := "") Gl.cl X2 hx hZ hown (Or.inl (tw hw 243 rfl)) Via.refl e2 (q2.ext Oo.2) rfl (dc d49_38) ?_
 intro T3 X3 e3
 refine Gl.go (fun _ hr => zishr X3.here hx (dc d49_41) rfl (zi2b X3.here hx (dc d49_42) rfl hr)) ?_
 show Gl p.tables e below _ (T3.setTop (mkF m 43 #[sR a, sI (Int32.ofNat (2 * i + 1)), sI ch] [(.int ((ch >>> ((0 : Int32) &&& 31)).toInt8.toInt32)), (.int (Int32.ofNat (2 * i))), (.ref a)]))
 rw [(own_lo ch)]
 show Gl p.tables e below _ (T3.setTop (mkF m 43 #[sR a, sI (Int32.ofNat (2 * i + 1)), sI ch] [(.int (StrChars.lo8 ch)), (.int (Int32.ofNat (2 * i))), (.ref a)]))
 obtain ⟨c4, a4, q4, s4, m4, H4, U4⟩ := id q4
 refine gstB Gl.cl X3 hx hZ e3 a4 (j := (Int32.ofNat (2 * i))) (inb_of s4 ⟨own_nn (by omega), own_lt32 (b := nz) (by omega) (by omega)⟩) rfl rfl (dc d49_43) ?_
 intro T4 h4 X4 e4 W4
 have z5 : h0.size ≤ h4.size := (Keep.of_wr W4).1
 rw [(own_narb _)] at W4
 have V4 : Arv Z h4 a ka .byte (Int32.ofNat nz) (vs.set (2 * i) (.int (StrChars.lo8 ch))) (.int 0) := Arv.set a4 q4 s4 m4 H4 U4 (own_fitb _) W4 (2 * i) (own_nat32 (by omega)) (by (try simp only [List.length_set]); omega)
 have af : Lq n0 a := by omega
 have N4 := Fr.snoc X4 N0 (own_ale af)
 refine Gl.go (fun _ hr => zaloadN X4.here hx (dc d49_44) rfl rfl (ziloadN X4.here hx (dc d49_45) rfl (ziloadN X4.here hx (dc d49_46) rfl hr))) ?_
 have ar : Lq Z.heap.size a := by omega
 have aj := (Oo.wr W4 (own_ale ar))
 refine gGetS (host := "") Gl.cl X4 hx hZ hown (Or.inl (tw hw 244 rfl)) Via.refl e4 (q3.ext aj.2) rfl (dc d49_47) ?_
 intro T7 X7 e7
 refine Gl.go (fun _ hr => zishr X7.here hx (dc d49_50) rfl (zi2b X7.here hx (dc d49_51) rfl hr)) ?_
 show Gl p.tables e below _ (T7.setTop (mkF m 52 #[sR a, sI (Int32.ofNat (2 * i + 1)), sI ch] [(.int ((ch >>> ((8 : Int32) &&& 31)).toInt8.toInt32)), (.int (Int32.ofNat (2 * i + 1))), (.ref a)]))
 show Gl p.tables e below _ (T7.setTop (mkF m 52 #[sR a, sI (Int32.ofNat (2 * i + 1)), sI ch] [(.int (StrChars.hi8 ch)), (.int (Int32.ofNat (2 * i + 1))), (.ref a)]))
 obtain ⟨av, ac, au, ag, aq, ah, al⟩ := id V4
 refine gstB Gl.cl X7 hx hZ e7 ac (j := (Int32.ofNat (2 * i + 1))) (inb_of ag ⟨own_nn (by omega), own_lt32 (b := nz) (by omega) (by omega)⟩) rfl rfl (dc d49_52) ?_
 intro ak ae ab ao aa
 have ax : h4.size ≤ ae.size := (Keep.of_wr aa).1
 rw [(own_narh _)] at aa
 have am : Arv Z ae a ka .byte (Int32.ofNat nz) ((vs.set (2 * i) (.int (StrChars.lo8 ch))).set (2 * i + 1) (.int (StrChars.hi8 ch))) (.int 0) := Arv.set ac au ag aq ah al (own_fith _) aa (2 * i + 1) (own_nat32 (by omega)) (by (try simp only [List.length_set]); omega)
 have ai := Fr.snoc ab N4 (own_ale af)
 obtain ⟨fs, hr, hrun, hended, hW, hsame⟩ := ab.leave (v := none) (fun _ => rfl)
 refine ⟨_, _, ab.returnOut hx Bd.returns (dc d49_53) hr, hrun, hended, _, _, rfl, ?_, ⟨⟨_, rfl⟩, hW, hsame.mono (by decide) (by decide)⟩⟩
 show Qpch Z a ka nz vs i ch h0 n0 _ ak.heap _
 rw [ao]
 exact ⟨rfl, ai, (((Keep.refl h0 [a]).wr W4 (Or.inl (by simp))).wr aa (Or.inl (by simp))), am⟩
def Qgtc (Z : State) (a : Addr) (ka : ClassId) (cs : List Int32) (i : Nat) (h0 : Heap) (n0 : Nat) (v : Option Value) (h : Heap) (L : List Loc) : Prop := v = some (.int (cs.getD i 0)) ∧ Fr n0 L ∧ h = h0
theorem ef_gtc (m : MethodId) (x0 : Addr) (x1 : Int32) : entryFrame m #[(.ref x0), (.int x1)] 2 = mkF m 0 #[sR x0, sI x1] [] := by first | (simp [entryFrame, mkF, argsToLocals, Value.category]; done) | rfl
abbrev K50 (i : Nat) := decode jdk_52_method_5_code i
theorem d50_0 : K50 0 = .ok (.getstatic 44, 3) := by decide +kernel
theorem d50_3 : K50 3 = .ok (.ifCond .ne 25, 3) := by decide +kernel
theorem d50_28 : K50 28 = .ok (.iload_n 1, 1) := by decide +kernel
theorem d50_29 : K50 29 = .ok (.iconst 1, 1) := by decide +kernel
theorem d50_30 : K50 30 = .ok (.ishl, 1) := by decide +kernel
theorem d50_31 : K50 31 = .ok (.istore_n 1, 1) := by decide +kernel
theorem d50_32 : K50 32 = .ok (.aload_n 0, 1) := by decide +kernel
theorem d50_33 : K50 33 = .ok (.iload_n 1, 1) := by decide +kernel
theorem d50_34 : K50 34 = .ok (.iinc 1 1, 3) := by decide +kernel
theorem d50_37 : K50 37 = .ok (.baload, 1) := by decide +kernel
theorem d50_38 : K50 38 = .ok (.sipush 255, 3) := by decide +kernel
theorem d50_41 : K50 41 = .ok (.iand, 1) := by decide +kernel
theorem d50_42 : K50 42 = .ok (.getstatic 59, 3) := by decide +kernel
theorem d50_45 : K50 45 = .ok (.ishl, 1) := by decide +kernel
theorem d50_46 : K50 46 = .ok (.aload_n 0, 1) := by decide +kernel
theorem d50_47 : K50 47 = .ok (.iload_n 1, 1) := by decide +kernel
theorem d50_48 : K50 48 = .ok (.baload, 1) := by decide +kernel
theorem d50_49 : K50 49 = .ok (.sipush 255, 3) := by decide +kernel
theorem d50_52 : K50 52 = .ok (.iand, 1) := by decide +kernel
theorem d50_53 : K50 53 = .ok (.getstatic 63, 3) := by decide +kernel
theorem d50_56 : K50 56 = .ok (.ishl, 1) := by decide +kernel
theorem d50_57 : K50 57 = .ok (.ior, 1) := by decide +kernel
theorem d50_58 : K50 58 = .ok (.i2c, 1) := by decide +kernel
theorem d50_59 : K50 59 = .ok (.ireturn, 1) := by decide +kernel
set_option maxRecDepth 65536 in
set_option maxHeartbeats 40000000 in
theorem gtc (l : Launch) (Z : State) (a0 : Array Value) (hw : ∀ d ∈ tables_1, d.before a0 Z = true) (ws : List Jvm.Cond) (a : Addr) (ka : ClassId) (cs : List Int32) (i : Nat) (h0 : Heap) (n0 : Nat) (Z0 : n0 ≤ h0.size) (q0 : OZ Z h0 n0) (q1 : SAd Z) (q2 : SHi Z) (q3 : SLo Z) (q4 : Arv Z h0 a ka .byte (Int32.ofNat (2 * cs.length)) (StrChars.Road.wideBytes cs) (.int 0)) (hii : i < cs.length) (hcl : cs.length ≤ 32) (hbd : ∀ c ∈ cs, Wid c) :
  MetFree l y_1 (head1 (Jvm.Cond.code y_1 jdk_52_method_5_code 2 (some .char) :: ws) r_m0) (fun a_ U_ => a_ = #[(.ref a), (.int (Int32.ofNat i))] ∧ Z.Warmed39 U_.vm ∧ U_.heap = h0) (fun _ _ _ _ _ => True) (fun _ U_ o_ V_ => ∃ v_ L_, o_ = .returned v_ ∧ Qgtc Z a ka cs i h0 n0 v_ V_.heap L_ ∧ FrameEnd U_ o_ V_ L_ r_m0.cells r_m0.slots) := by
 refine MetFree.of_bodySF (plainFor_of_name pn_0) hisR ?_
 intro p e s m args below meth c s₁ Bd aq hP hK
 obtain ⟨rfl, hZ, hh⟩ := hP
 have hx := Bd.exec
 have dc := @hb _ _ Bd.bytes
 have hml : c.maxLocals = 2 := aq
 have hown : s.vm.findClass "java/lang/StringUTF16" = some m.cls := findClass_of_methodNamed Bd.named
 have hnm := (name_of_methodNamed Bd.named Bd.method).1
 have X0 : Stand p l e r_m0 s m #[(.ref a), (.int (Int32.ofNat i))] below meth c s₁ [] 0 0 := Stand.of_body Bd
 have e0 : s₁.heap = h0 := by rw [← hh, Bd.state]; rfl
 have N0 := Fr.nil n0
 have Oo := q0.1
 have zo := q0.2
 have aA := own_alt q4.lt
 have hwc : Wid (cs.getD i 0) := hbd _ (own_getD_mem hii)
 refine Gl.go (A := s₁.setTop (entryFrame m #[(.ref a), (.int (Int32.ofNat i))] 2)) (P := fun o_ U_ => ∃ v_ L_, o_ = .returned v_ ∧ Qgtc Z a ka cs i h0 n0 v_ U_.heap L_ ∧ FrameEnd s o_ U_ L_ r_m0.cells r_m0.slots) (fun t_ k_ => castTop (ef_gtc m a (Int32.ofNat i)) k_) ?_
 show Gl p.tables e below _ (s₁.setTop (mkF m 0 #[sR a, sI (Int32.ofNat i)] []))
 refine gGetS (host := "") Gl.cl X0 hx hZ hown (Or.inl (tw hw 242 rfl)) Via.refl e0 (q1.ext Oo.2) rfl (dc d50_0) ?_
 intro ae aa ag
 refine Gl.go (fun _ hr => zifYes aa.here hx (pc0 := 3) (pc' := 28) rfl (dc d50_3) rfl (XT.i0_ne_t (by decide)) (by decide) (by decide) (ziloadN aa.here hx (dc d50_28) rfl (ziconst aa.here hx (dc d50_29) (zishl aa.here hx (dc d50_30) rfl hr)))) ?_
 show Gl p.tables e below _ (ae.setTop (mkF m 31 #[sR a, sI (Int32.ofNat i)] [(.int ((Int32.ofNat i) <<< ((1 : Int32) &&& 31)))]))
 rw [(own_shl1 (i := i) (by omega))]
 show Gl p.tables e below _ (ae.setTop (mkF m 31 #[sR a, sI (Int32.ofNat i)] [(.int (Int32.ofNat (2 * i)))]))
 refine Gl.go (fun _ hr => zistoreN aa.here hx (dc d50_31) rfl (l' := #[sR a, sI (Int32.ofNat (2 * i))]) rfl (zaloadN aa.here hx (dc d50_32) rfl rfl (ziloadN aa.here hx (dc d50_33) rfl (ziinc aa.here hx (dc d50_34) rfl (l' := #[sR a, sI ((Int32.ofNat (2 * i)) + (1 : Int32))]) rfl hr)))) ?_
 show Gl p.tables e below _ (ae.setTop (mkF m 37 #[sR a, sI ((Int32.ofNat (2 * i)) + (1 : Int32))] [(.int (Int32.ofNat (2 * i))), (.ref a)]))
 rw [(own_nat_succ (2 * i))]
 show Gl p.tables e below _ (ae.setTop (mkF m 37 #[sR a, sI (Int32.ofNat (2 * i + 1))] [(.int (Int32.ofNat (2 * i))), (.ref a)]))
 obtain ⟨ay, am, aD, ar, aB, ak, aw⟩ := id q4
 have ai := inb_of ar (j := (Int32.ofNat (2 * i))) ⟨own_nn (by omega), own_lt32 (b := 2 * cs.length) (by omega) (by omega)⟩
 refine g_baload Gl.cl aa hx hZ ag am ai (v := (.int (StrChars.lo8 (cs.getD i 0)))) (ak.at ai (by rw [own_nat32 (by omega)]; exact StrChars.Road.wide_lo _ cs i hii)) rfl rfl (dc d50_37) ?_
 refine Gl.go (fun _ hr => zsipush aa.here hx (dc d50_38) (ziand aa.here hx (dc d50_41) rfl hr)) ?_
 refine gGetS (host := "") Gl.cl aa hx hZ hown (Or.inl (tw hw 243 rfl)) Via.refl ag (q2.ext Oo.2) rfl (dc d50_42) ?_
 intro av ab ah
 refine Gl.go (fun _ hr => zishl ab.here hx (dc d50_45) rfl (zaloadN ab.here hx (dc d50_46) rfl rfl (ziloadN ab.here hx (dc d50_47) rfl hr))) ?_
 obtain ⟨az, ao, aE, au, aC, al, ax⟩ := id q4
 have aj := inb_of au (j := (Int32.ofNat (2 * i + 1))) ⟨own_nn (by omega), own_lt32 (b := 2 * cs.length) (by omega) (by omega)⟩
 refine g_baload Gl.cl ab hx hZ ah ao aj (v := (.int (StrChars.hi8 (cs.getD i 0)))) (al.at aj (by rw [own_nat32 (by omega)]; exact StrChars.Road.wide_hi _ cs i hii)) rfl rfl (dc d50_48) ?_
 refine Gl.go (fun _ hr => zsipush ab.here hx (dc d50_49) (ziand ab.here hx (dc d50_52) rfl hr)) ?_
 refine gGetS (host := "") Gl.cl ab hx hZ hown (Or.inl (tw hw 244 rfl)) Via.refl ah (q3.ext Oo.2) rfl (dc d50_53) ?_
 intro af ac ap
 refine Gl.go (fun _ hr => zishl ac.here hx (dc d50_56) rfl (zior ac.here hx (dc d50_57) rfl (zi2c ac.here hx (dc d50_58) rfl hr))) ?_
 show Gl p.tables e below _ (af.setTop (mkF m 59 #[sR a, sI (Int32.ofNat (2 * i + 1))] [(.int (((((StrChars.lo8 (cs.getD i 0)) &&& (255 : Int32)) <<< ((0 : Int32) &&& 31)) ||| (((StrChars.hi8 (cs.getD i 0)) &&& (255 : Int32)) <<< ((8 : Int32) &&& 31))).toUInt32.toUInt16.toUInt32.toInt32))]))
 have hpr := StrChars.pair_says hwc.1 hwc.2
 unfold StrChars.pairCh at hpr
 rw [hpr]
 show Gl p.tables e below _ (af.setTop (mkF m 59 #[sR a, sI (Int32.ofNat (2 * i + 1))] [(.int (cs.getD i 0))]))
 obtain ⟨fs, hr, hrun, hended, hW, hsame⟩ := ac.leave (v := some (.int (nar .char (cs.getD i 0)))) (fun h => by rw [Bd.returns] at h; cases h)
 refine ⟨_, _, retN ac hx (t := .char) Bd.returns (by simp) (dc d50_59) hr, hrun, hended, _, _, rfl, ?_, ⟨⟨_, rfl⟩, hW, hsame.mono (by decide) (by decide)⟩⟩
 show Qgtc Z a ka cs i h0 n0 _ af.heap _
 rw [ap]
 exact ⟨(own_some (own_nar_wid hwc)), N0, rfl⟩
theorem own_upto {cs : List Int32} (h1 : 0 < cs.length) (h4 : cs.length ≤ 2) : (∃ c0, cs = [c0]) ∨ (∃ c0 c1, cs = [c0, c1]) := by
 match cs, h1, h4 with
 | [c0], _, _ => exact Or.inl ⟨c0, rfl⟩
 | [c0, c1], _, _ => exact Or.inr (⟨c0, c1, rfl⟩)
theorem own_cfl0 {n : Nat} (h : n ≤ 4) : nar .byte ((XT.ushr (Int32.ofNat n - Int32.ofNat n) (31 : Int32)).toInt8.toInt32) = 0 := by
 have t : ∀ k : Fin 5, nar .byte ((XT.ushr (Int32.ofNat k.val - Int32.ofNat k.val) (31 : Int32)).toInt8.toInt32) = 0 := by decide +kernel
 exact t ⟨n, by omega⟩
theorem own_cfl1 {n : Nat} (h1 : 0 < n) (h : n ≤ 4) : nar .byte ((XT.ushr (Int32.ofNat n - Int32.ofNat (2 * n)) (31 : Int32)).toInt8.toInt32) = 1 := by
 have t : ∀ k : Fin 5, 0 < k.val → nar .byte ((XT.ushr (Int32.ofNat k.val - Int32.ofNat (2 * k.val)) (31 : Int32)).toInt8.toInt32) = 1 := by decide +kernel
 exact t ⟨n, by omega⟩ h1
def Qnbl1 (Z : State)  (h0 : Heap) (n0 : Nat) (v : Option Value) (h : Heap) (L : List Loc) : Prop := v = some (.int (2 : Int32)) ∧ Fr n0 L ∧ h = h0
theorem ef_nbl1 (m : MethodId) (x0 : Int32) : entryFrame m #[(.int x0)] 1 = mkF m 0 #[sI x0] [] := by first | (simp [entryFrame, mkF, argsToLocals, Value.category]; done) | rfl
abbrev K48 (i : Nat) := decode jdk_52_method_3_code i
theorem d48_0 : K48 0 = .ok (.iload_n 0, 1) := by decide +kernel
theorem d48_1 : K48 1 = .ok (.ifCond .ge 11, 3) := by decide +kernel
theorem d48_12 : K48 12 = .ok (.iload_n 0, 1) := by decide +kernel
theorem d48_13 : K48 13 = .ok (.ldc 20, 2) := by decide +kernel
theorem d48_15 : K48 15 = .ok (.if_icmp .lt 40, 3) := by decide +kernel
theorem d48_55 : K48 55 = .ok (.iload_n 0, 1) := by decide +kernel
theorem d48_56 : K48 56 = .ok (.iconst 1, 1) := by decide +kernel
theorem d48_57 : K48 57 = .ok (.ishl, 1) := by decide +kernel
theorem d48_58 : K48 58 = .ok (.ireturn, 1) := by decide +kernel
set_option maxRecDepth 65536 in
set_option maxHeartbeats 40000000 in
theorem nbl1 (l : Launch) (Z : State) (a0 : Array Value) (hw : ∀ d ∈ tables_1, d.before a0 Z = true) (ws : List Jvm.Cond)  (h0 : Heap) (n0 : Nat) (Z0 : n0 ≤ h0.size) :
  MetFree l y_2 (head1 (Jvm.Cond.code y_2 jdk_52_method_3_code 1 (some .int) :: ws) r_m0) (fun a_ U_ => a_ = #[(.int (1 : Int32))] ∧ Z.Warmed39 U_.vm ∧ U_.heap = h0) (fun _ _ _ _ _ => True) (fun _ U_ o_ V_ => ∃ v_ L_, o_ = .returned v_ ∧ Qnbl1 Z  h0 n0 v_ V_.heap L_ ∧ FrameEnd U_ o_ V_ L_ r_m0.cells r_m0.slots) := by
 refine MetFree.of_bodySF (plainFor_of_name pn_0) hisR ?_
 intro p e s m args below meth c s₁ Bd aa hP hK
 obtain ⟨rfl, hZ, hh⟩ := hP
 have hx := Bd.exec
 have dc := @hb _ _ Bd.bytes
 have hml : c.maxLocals = 1 := aa
 have hown : s.vm.findClass "java/lang/StringUTF16" = some m.cls := findClass_of_methodNamed Bd.named
 have hnm := (name_of_methodNamed Bd.named Bd.method).1
 have X0 : Stand p l e r_m0 s m #[(.int (1 : Int32))] below meth c s₁ [] 0 0 := Stand.of_body Bd
 have e0 : s₁.heap = h0 := by rw [← hh, Bd.state]; rfl
 have N0 := Fr.nil n0
 refine Gl.go (A := s₁.setTop (entryFrame m #[(.int (1 : Int32))] 1)) (P := fun o_ U_ => ∃ v_ L_, o_ = .returned v_ ∧ Qnbl1 Z  h0 n0 v_ U_.heap L_ ∧ FrameEnd s o_ U_ L_ r_m0.cells r_m0.slots) (fun t_ k_ => castTop (ef_nbl1 m (1 : Int32)) k_) ?_
 show Gl p.tables e below _ (s₁.setTop (mkF m 0 #[sI 1] []))
 refine Gl.go (fun _ hr => ziloadN X0.here hx (dc d48_0) rfl (zifYes X0.here hx (pc0 := 1) (pc' := 12) rfl (dc d48_1) rfl (XT.i0_ge_t (by decide)) (by decide) (by decide) (ziloadN X0.here hx (dc d48_12) rfl hr))) ?_
 refine Gl.go (X0.ldcInt hx hown (mvT hZ (tw hw 238 rfl)) rfl (dc d48_13)) ?_
 refine Gl.go (fun _ hr => zicmpYes X0.here hx (pc0 := 15) (pc' := 55) rfl (dc d48_15) rfl (XT.ii_lt_t (by decide)) (by decide) (by decide) (ziloadN X0.here hx (dc d48_55) rfl (ziconst X0.here hx (dc d48_56) (zishl X0.here hx (dc d48_57) rfl hr)))) ?_
 obtain ⟨fs, hr, hrun, hended, hW, hsame⟩ := X0.leave (v := some (.int (2 : Int32))) (fun h => by rw [Bd.returns] at h; cases h)
 refine ⟨_, _, retOut X0 hx Bd.returns rfl (Or.inl ⟨rfl, Or.inl rfl, _, rfl⟩) (dc d48_58) hr, hrun, hended, _, _, rfl, ?_, ⟨⟨_, rfl⟩, hW, hsame.mono (by decide) (by decide)⟩⟩
 show Qnbl1 Z  h0 n0 _ s₁.heap _
 rw [e0]
 exact ⟨rfl, N0, rfl⟩
def Qnbf1 (Z : State)  (h0 : Heap) (n0 : Nat) (v : Option Value) (h : Heap) (L : List Loc) : Prop := ∃ (r : Addr), ∃ (kr : ClassId), v = some (.ref r) ∧ Fr n0 L ∧ Keep h0 h [] ∧ (Arv Z h r kr .byte (2 : Int32) ([(.int (0 : Int32)), (.int (0 : Int32))]) (.int (0 : Int32))) ∧ (Lq h0.size r)
theorem ef_nbf1 (m : MethodId) (x0 : Int32) : entryFrame m #[(.int x0)] 1 = mkF m 0 #[sI x0] [] := by first | (simp [entryFrame, mkF, argsToLocals, Value.category]; done) | rfl
abbrev K47 (i : Nat) := decode jdk_52_method_2_code i
theorem d47_0 : K47 0 = .ok (.iload_n 0, 1) := by decide +kernel
theorem d47_1 : K47 1 = .ok (.invokestatic 11, 3) := by decide +kernel
theorem pd_0 : parseMethodDescriptor "(I)I" = some ⟨[.int], some .int⟩ := by decide +kernel
theorem d47_4 : K47 4 = .ok (.newarray .byte, 2) := by decide +kernel
theorem d47_6 : K47 6 = .ok (.areturn, 1) := by decide +kernel
set_option maxRecDepth 65536 in
set_option maxHeartbeats 40000000 in
theorem nbf1 (l : Launch) (Z : State) (a0 : Array Value) (hw : ∀ d ∈ tables_1, d.before a0 Z = true) (ws : List Jvm.Cond)  (h0 : Heap) (n0 : Nat) (Z0 : n0 ≤ h0.size) :
  MetFree l y_3 (head1 (Jvm.Cond.code y_3 jdk_52_method_2_code 1 (some (.array .byte)) :: ws) r_m1) (fun a_ U_ => a_ = #[(.int (1 : Int32))] ∧ Z.Warmed39 U_.vm ∧ U_.heap = h0) (fun _ _ _ _ _ => True) (fun _ U_ o_ V_ => ∃ v_ L_, o_ = .returned v_ ∧ Qnbf1 Z  h0 n0 v_ V_.heap L_ ∧ FrameEnd U_ o_ V_ L_ r_m1.cells r_m1.slots) := by
 refine MetFree.of_bodySF (plainFor_of_name pn_0) hisR ?_
 intro p e s m args below meth c s₁ Bd aq hP hK
 obtain ⟨rfl, hZ, hh⟩ := hP
 have hx := Bd.exec
 have dc := @hb _ _ Bd.bytes
 have hml : c.maxLocals = 1 := aq
 have hown : s.vm.findClass "java/lang/StringUTF16" = some m.cls := findClass_of_methodNamed Bd.named
 have hnm := (name_of_methodNamed Bd.named Bd.method).1
 have X0 : Stand p l e r_m1 s m #[(.int (1 : Int32))] below meth c s₁ [] 0 0 := Stand.of_body Bd
 have e0 : s₁.heap = h0 := by rw [← hh, Bd.state]; rfl
 have N0 := Fr.nil n0
 refine Gl.go (A := s₁.setTop (entryFrame m #[(.int (1 : Int32))] 1)) (P := fun o_ U_ => ∃ v_ L_, o_ = .returned v_ ∧ Qnbf1 Z  h0 n0 v_ U_.heap L_ ∧ FrameEnd s o_ U_ L_ r_m1.cells r_m1.slots) (fun t_ k_ => castTop (ef_nbf1 m (1 : Int32)) k_) ?_
 show Gl p.tables e below _ (s₁.setTop (mkF m 0 #[sI 1] []))
 refine Gl.go (fun _ hr => ziloadN X0.here hx (dc d47_0) rfl hr) ?_
 have ar : n0 ≤ h0.size := by omega
 refine gStaticN Gl.cl (y := y_2) (argsL := [(.int (1 : Int32))]) (rest := []) (mc := 0) (ms := 0) X0 hx hZ hown (mvT hZ (tw hw 235 rfl)) (mvT hZ (tw hw 236 rfl)) (mvT hZ (tw hw 221 rfl)) (mvT hZ (tw hw 237 rfl)) (by decide) (backOf (W := 0) (nbl1 l Z a0 hw []  h0 n0 ar ) hZ (tw hw 237 rfl) (tw hw 221 rfl) (by decide) (by decide)) rfl (by rw [hml]; rfl) (lenOf pd_0 rfl) rfl (by exact Nat.le_of_eq rfl) (dc d47_1) rfl e0 (by decide) (by decide) ?_
 intro az aw av ap al
 obtain ⟨rfl, ai, am⟩ := ap
 have ah := Fr.app N0 ai
 refine gNewPE Gl.cl al hx hZ (tw hw 20 rfl) am rfl (dc d47_4) rfl (by decide) (cap := 2) (by decide) (by decide) (by decide) (by decide) (ad := "[B") (by decide) ?_
 intro aj af aa ag ax ae ao ac ab au
 have aA : h0.size ≤ af.size := ac.1
 have ay := own_alt ab.lt
 have ak : Arv Z af aa ag .byte (2 : Int32) [(.int (0 : Int32)), (.int (0 : Int32))] (.int (0 : Int32)) := (Arv.new ab (by decide)).pad (pad_rep [] (.int (0 : Int32)) 2)
 obtain ⟨fs, hr, hrun, hended, hW, hsame⟩ := ae.leave (v := some (.ref aa)) (fun h => by rw [Bd.returns] at h; cases h)
 refine ⟨_, _, retOut ae hx Bd.returns rfl (Or.inr (Or.inr (Or.inr (Or.inr ⟨rfl, rfl, rfl⟩)))) (dc d47_6) hr, hrun, hended, _, _, rfl, ?_, ⟨⟨_, rfl⟩, hW, hsame.mono (by decide) (by decide)⟩⟩
 show Qnbf1 Z  h0 n0 _ aj.heap _
 rw [ao]
 exact ⟨aa, ag, rfl, ah, ((Keep.refl h0 []).ext ac), ak, (by omega)⟩
def Qtob1 (Z : State) (b : Addr) (ck : ClassId) (c0 : Int32) (h0 : Heap) (n0 : Nat) (v : Option Value) (h : Heap) (L : List Loc) : Prop := ∃ (r : Addr), ∃ (kr : ClassId), v = some (.ref r) ∧ Fr n0 L ∧ Keep h0 h [] ∧ (Arv Z h r kr .byte (2 : Int32) (StrChars.Road.wideBytes ([c0] : List Int32)) (.int (0 : Int32))) ∧ (Lq h0.size r)
theorem ef_tob1 (m : MethodId) (x0 : Addr) (x1 : Int32) (x2 : Int32) : entryFrame m #[(.ref x0), (.int x1), (.int x2)] 5 = mkF m 0 #[sR x0, sI x1, sI x2, sU, sU] [] := by first | (simp [entryFrame, mkF, argsToLocals, Value.category]; done) | rfl
abbrev K46 (i : Nat) := decode jdk_52_method_14_code i
theorem d46_0 : K46 0 = .ok (.iload_n 2, 1) := by decide +kernel
theorem d46_1 : K46 1 = .ok (.invokestatic 107, 3) := by decide +kernel
theorem pd_1 : parseMethodDescriptor "(I)[B" = some ⟨[.int], some (.array .byte)⟩ := by decide +kernel
theorem d46_4 : K46 4 = .ok (.astore_n 3, 1) := by decide +kernel
theorem d46_5 : K46 5 = .ok (.iconst 0, 1) := by decide +kernel
theorem d46_6 : K46 6 = .ok (.istore 4, 2) := by decide +kernel
theorem d46_8 : K46 8 = .ok (.iload 4, 2) := by decide +kernel
theorem d46_10 : K46 10 = .ok (.iload_n 2, 1) := by decide +kernel
theorem d46_11 : K46 11 = .ok (.if_icmp .ge 21, 3) := by decide +kernel
theorem d46_14 : K46 14 = .ok (.aload_n 3, 1) := by decide +kernel
theorem d46_15 : K46 15 = .ok (.iload 4, 2) := by decide +kernel
theorem d46_17 : K46 17 = .ok (.aload_n 0, 1) := by decide +kernel
theorem d46_18 : K46 18 = .ok (.iload_n 1, 1) := by decide +kernel
theorem d46_19 : K46 19 = .ok (.caload, 1) := by decide +kernel
theorem d46_20 : K46 20 = .ok (.invokestatic 111, 3) := by decide +kernel
theorem pd_2 : parseMethodDescriptor "([BII)V" = some ⟨[(.array .byte), .int, .int], none⟩ := by decide +kernel
theorem d46_23 : K46 23 = .ok (.iinc 1 1, 3) := by decide +kernel
theorem d46_26 : K46 26 = .ok (.iinc 4 1, 3) := by decide +kernel
theorem d46_29 : K46 29 = .ok (.goto (-21), 3) := by decide +kernel
theorem d46_32 : K46 32 = .ok (.aload_n 3, 1) := by decide +kernel
theorem d46_33 : K46 33 = .ok (.areturn, 1) := by decide +kernel
set_option maxRecDepth 65536 in
set_option maxHeartbeats 40000000 in
theorem tob1 (l : Launch) (Z : State) (a0 : Array Value) (hw : ∀ d ∈ tables_1, d.before a0 Z = true) (ws : List Jvm.Cond) (b : Addr) (ck : ClassId) (c0 : Int32) (h0 : Heap) (n0 : Nat) (Z0 : n0 ≤ h0.size) (q0 : OZ Z h0 n0) (q1 : SAd Z) (q2 : SHi Z) (q3 : SLo Z) (q4 : Arv Z h0 b ck .char (1 : Int32) ([(.int c0)]) (.int (0 : Int32))) :
  MetFree l y_4 (head1 (Jvm.Cond.code y_4 jdk_52_method_14_code 5 (some (.array .byte)) :: ws) r_m2) (fun a_ U_ => a_ = #[(.ref b), (.int (0 : Int32)), (.int (1 : Int32))] ∧ Z.Warmed39 U_.vm ∧ U_.heap = h0) (fun _ _ _ _ _ => True) (fun _ U_ o_ V_ => ∃ v_ L_, o_ = .returned v_ ∧ Qtob1 Z b ck c0 h0 n0 v_ V_.heap L_ ∧ FrameEnd U_ o_ V_ L_ r_m2.cells r_m2.slots) := by
 refine MetFree.of_bodySF (plainFor_of_name pn_0) hisR ?_
 intro p e s m args below meth c s₁ Bd ax hP hK
 obtain ⟨rfl, hZ, hh⟩ := hP
 have hx := Bd.exec
 have dc := @hb _ _ Bd.bytes
 have hml : c.maxLocals = 5 := ax
 have hown : s.vm.findClass "java/lang/StringUTF16" = some m.cls := findClass_of_methodNamed Bd.named
 have hnm := (name_of_methodNamed Bd.named Bd.method).1
 have X0 : Stand p l e r_m2 s m #[(.ref b), (.int (0 : Int32)), (.int (1 : Int32))] below meth c s₁ [] 0 0 := Stand.of_body Bd
 have e0 : s₁.heap = h0 := by rw [← hh, Bd.state]; rfl
 have N0 := Fr.nil n0
 have Oo := q0.1
 have zo := q0.2
 have aH := own_alt q4.lt
 refine Gl.go (A := s₁.setTop (entryFrame m #[(.ref b), (.int (0 : Int32)), (.int (1 : Int32))] 5)) (P := fun o_ U_ => ∃ v_ L_, o_ = .returned v_ ∧ Qtob1 Z b ck c0 h0 n0 v_ U_.heap L_ ∧ FrameEnd s o_ U_ L_ r_m2.cells r_m2.slots) (fun t_ k_ => castTop (ef_tob1 m b (0 : Int32) (1 : Int32)) k_) ?_
 show Gl p.tables e below _ (s₁.setTop (mkF m 0 #[sR b, sI 0, sI 1, sU, sU] []))
 refine Gl.go (fun _ hr => ziloadN X0.here hx (dc d46_0) rfl hr) ?_
 have aA : n0 ≤ h0.size := by omega
 refine gStaticN Gl.cl (y := y_3) (argsL := [(.int (1 : Int32))]) (rest := []) (mc := 1) (ms := 4) X0 hx hZ hown (mvT hZ (tw hw 232 rfl)) (mvT hZ (tw hw 233 rfl)) (mvT hZ (tw hw 221 rfl)) (mvT hZ (tw hw 234 rfl)) (by decide) (backOf (W := 0) (nbf1 l Z a0 hw []  h0 n0 aA ) hZ (tw hw 234 rfl) (tw hw 221 rfl) (by decide) (by decide)) rfl (by rw [hml]; rfl) (lenOf pd_1 rfl) rfl (by exact Nat.le_of_eq rfl) (dc d46_1) rfl e0 (by decide) (by decide) ?_
 intro aM ae aC av aa
 obtain ⟨ac, aj, rfl, ao, K22, ag, aG⟩ := av
 have aO : h0.size ≤ ae.heap.size := K22.1
 have al := Fr.app N0 ao
 have aI := own_alt ag.lt
 refine Gl.go (fun _ hr => zastoreN aa.here hx (dc d46_4) rfl rfl (l' := #[sR b, sI 0, sI 1, sR ac, sU]) rfl (ziconst aa.here hx (dc d46_5) (zistore aa.here hx (dc d46_6) rfl (l' := #[sR b, sI 0, sI 1, sR ac, sI 0]) rfl (ziload aa.here hx (dc d46_8) rfl (ziloadN aa.here hx (dc d46_10) rfl (zicmpNo aa.here hx (dc d46_11) rfl (XT.ii_ge_f (by decide)) (zaloadN aa.here hx (dc d46_14) rfl rfl (ziload aa.here hx (dc d46_15) rfl (zaloadN aa.here hx (dc d46_17) rfl rfl (ziloadN aa.here hx (dc d46_18) rfl hr)))))))))) ?_
 have ar := (q4.keep K22 nin0)
 obtain ⟨aF, au, aL, az, aK, ak, aE⟩ := id ar
 have ai := inb_of az (j := (0 : Int32)) ⟨(by decide), (by decide)⟩
 refine g_caload Gl.cl aa hx hZ (rfl : ae.heap = ae.heap) au ai (v := (.int c0)) (ak.at ai rfl) rfl rfl (dc d46_19) ?_
 have aq := (Oo.keep K22 all0)
 have aB : n0 ≤ ae.heap.size := by omega
 refine gStaticN Gl.cl (y := y_0) (argsL := [(.ref ac), (.int (0 : Int32)), (.int c0)]) (rest := []) (mc := 0) (ms := 0) aa hx hZ hown (mvT hZ (tw hw 239 rfl)) (mvT hZ (tw hw 240 rfl)) (mvT hZ (tw hw 221 rfl)) (mvT hZ (tw hw 241 rfl)) (by decide) (backOf (W := 0) (pch l Z a0 hw [] ac aj 2 ([(.int (0 : Int32)), (.int (0 : Int32))]) 0 c0 ae.heap n0 aB ⟨aq, (by omega)⟩ q1 q2 q3 ag (by omega) (by decide) (by decide) (Nat.le_of_ble_eq_true rfl)) hZ (tw hw 241 rfl) (tw hw 221 rfl) (by decide) (by decide)) rfl (by rw [hml]; rfl) (lenOf pd_2 rfl) rfl (by exact Nat.le_of_eq rfl) (dc d46_20) rfl (rfl : ae.heap = ae.heap) (by decide) (by decide) ?_
 intro aN af aD aw ab
 obtain ⟨rfl, ap, K27, ah⟩ := aw
 have aP : ae.heap.size ≤ af.heap.size := K27.1
 have am := Fr.app al ap
 have aJ := own_alt ah.lt
 refine Gl.go (fun _ hr => ziinc ab.here hx (dc d46_23) rfl (l' := #[sR b, sI 1, sI 1, sR ac, sI 0]) rfl (ziinc ab.here hx (dc d46_26) rfl (l' := #[sR b, sI 1, sI 1, sR ac, sI 1]) rfl (zgoto ab.here hx (pc0 := 29) (pc' := 8) rfl (dc d46_29) (by decide) (by decide) (ziload ab.here hx (dc d46_8) rfl (ziloadN ab.here hx (dc d46_10) rfl (zicmpYes ab.here hx (pc0 := 11) (pc' := 32) rfl (dc d46_11) rfl (XT.ii_ge_t (by decide)) (by decide) (by decide) (zaloadN ab.here hx (dc d46_32) rfl rfl hr))))))) ?_
 obtain ⟨fs, hr, hrun, hended, hW, hsame⟩ := ab.leave (v := some (.ref ac)) (fun h => by rw [Bd.returns] at h; cases h)
 have ay : Lq h0.size ac := by omega
 refine ⟨_, _, retOut ab hx Bd.returns rfl (Or.inr (Or.inr (Or.inr (Or.inr ⟨rfl, rfl, rfl⟩)))) (dc d46_33) hr, hrun, hended, _, _, rfl, ?_, ⟨⟨_, rfl⟩, hW, hsame.mono (by decide) (by decide)⟩⟩
 show Qtob1 Z b ck c0 h0 n0 _ af.heap _
 exact ⟨ac, aj, rfl, am, (((Keep.refl h0 []).trans K22 all0).trans K27 (allS (P := fun x_ => x_ ∈ ([] : List Addr) ∨ h0.size ≤ x_) (Or.inr (own_ale ay)) all0)), ah, (by omega)⟩
def Qcmq1 (Z : State) (b : Addr) (ck : ClassId) (a : Addr) (ka : ClassId) (c0 : Int32) (h0 : Heap) (n0 : Nat) (v : Option Value) (h : Heap) (L : List Loc) : Prop := ∃ (r : Nat), ∃ (ys : List Value), v = some (.int (Int32.ofNat r)) ∧ Fr n0 L ∧ Keep h0 h [a] ∧ (Arv Z h a ka .byte (1 : Int32) ys (.int (0 : Int32))) ∧ ((r = 1 ∧ ys = [(.int (StrChars.lo8 c0))] ∧ ∀ c ∈ ([c0] : List Int32), ¬ (255 : Int32) < c) ∨ (r < 1 ∧ (255 : Int32) < ([c0] : List Int32).getD r 0))
theorem ef_cmq1 (m : MethodId) (x0 : Addr) (x1 : Int32) (x2 : Addr) (x3 : Int32) (x4 : Int32) : entryFrame m #[(.ref x0), (.int x1), (.ref x2), (.int x3), (.int x4)] 7 = mkF m 0 #[sR x0, sI x1, sR x2, sI x3, sI x4, sU, sU] [] := by first | (simp [entryFrame, mkF, argsToLocals, Value.category]; done) | rfl
abbrev K44 (i : Nat) := decode jdk_52_method_21_code i
theorem d44_0 : K44 0 = .ok (.iconst 0, 1) := by decide +kernel
theorem d44_1 : K44 1 = .ok (.istore 5, 2) := by decide +kernel
theorem d44_3 : K44 3 = .ok (.iload 5, 2) := by decide +kernel
theorem d44_5 : K44 5 = .ok (.iload 4, 2) := by decide +kernel
theorem d44_7 : K44 7 = .ok (.if_icmp .ge 37, 3) := by decide +kernel
theorem d44_10 : K44 10 = .ok (.aload_n 0, 1) := by decide +kernel
theorem d44_11 : K44 11 = .ok (.iload_n 1, 1) := by decide +kernel
theorem d44_12 : K44 12 = .ok (.caload, 1) := by decide +kernel
theorem d44_13 : K44 13 = .ok (.istore 6, 2) := by decide +kernel
theorem d44_15 : K44 15 = .ok (.iload 6, 2) := by decide +kernel
theorem d44_17 : K44 17 = .ok (.sipush 255, 3) := by decide +kernel
theorem d44_20 : K44 20 = .ok (.if_icmp .le 6, 3) := by decide +kernel
theorem d44_23 : K44 23 = .ok (.iload 5, 2) := by decide +kernel
theorem d44_25 : K44 25 = .ok (.ireturn, 1) := by decide +kernel
theorem d44_26 : K44 26 = .ok (.aload_n 2, 1) := by decide +kernel
theorem d44_27 : K44 27 = .ok (.iload_n 3, 1) := by decide +kernel
theorem d44_28 : K44 28 = .ok (.iload 6, 2) := by decide +kernel
theorem d44_30 : K44 30 = .ok (.i2b, 1) := by decide +kernel
theorem d44_31 : K44 31 = .ok (.bastore, 1) := by decide +kernel
theorem d44_32 : K44 32 = .ok (.iinc 1 1, 3) := by decide +kernel
theorem d44_35 : K44 35 = .ok (.iinc 3 1, 3) := by decide +kernel
theorem d44_38 : K44 38 = .ok (.iinc 5 1, 3) := by decide +kernel
theorem d44_41 : K44 41 = .ok (.goto (-38), 3) := by decide +kernel
theorem d44_44 : K44 44 = .ok (.iload 4, 2) := by decide +kernel
theorem d44_46 : K44 46 = .ok (.ireturn, 1) := by decide +kernel
set_option maxRecDepth 65536 in
set_option maxHeartbeats 40000000 in
theorem cmq1 (l : Launch) (Z : State) (a0 : Array Value) (hw : ∀ d ∈ tables_1, d.before a0 Z = true) (ws : List Jvm.Cond) (b : Addr) (ck : ClassId) (a : Addr) (ka : ClassId) (c0 : Int32) (h0 : Heap) (n0 : Nat) (Z0 : n0 ≤ h0.size) (q0 : Arv Z h0 b ck .char (1 : Int32) ([(.int c0)]) (.int (0 : Int32))) (q1 : Arv Z h0 a ka .byte (1 : Int32) ([(.int (0 : Int32))]) (.int (0 : Int32))) (q2 : Lq n0 a) (q3 : Nq a b) :
  MetFree l y_5 (head1 (Jvm.Cond.code y_5 jdk_52_method_21_code 7 (some .int) :: ws) r_m0) (fun a_ U_ => a_ = #[(.ref b), (.int (0 : Int32)), (.ref a), (.int (0 : Int32)), (.int (1 : Int32))] ∧ Z.Warmed39 U_.vm ∧ U_.heap = h0) (fun _ _ _ _ _ => True) (fun _ U_ o_ V_ => ∃ v_ L_, o_ = .returned v_ ∧ Qcmq1 Z b ck a ka c0 h0 n0 v_ V_.heap L_ ∧ FrameEnd U_ o_ V_ L_ r_m0.cells r_m0.slots) := by
 refine MetFree.of_bodySF (plainFor_of_name pn_0) hisR ?_
 intro p e s m args below meth c s₁ Bd ar hP hK
 obtain ⟨rfl, hZ, hh⟩ := hP
 have hx := Bd.exec
 have dc := @hb _ _ Bd.bytes
 have hml : c.maxLocals = 7 := ar
 have hown : s.vm.findClass "java/lang/StringUTF16" = some m.cls := findClass_of_methodNamed Bd.named
 have hnm := (name_of_methodNamed Bd.named Bd.method).1
 have X0 : Stand p l e r_m0 s m #[(.ref b), (.int (0 : Int32)), (.ref a), (.int (0 : Int32)), (.int (1 : Int32))] below meth c s₁ [] 0 0 := Stand.of_body Bd
 have e0 : s₁.heap = h0 := by rw [← hh, Bd.state]; rfl
 have N0 := Fr.nil n0
 have aB := own_alt q0.lt
 have aC := own_alt q1.lt
 refine Gl.go (A := s₁.setTop (entryFrame m #[(.ref b), (.int (0 : Int32)), (.ref a), (.int (0 : Int32)), (.int (1 : Int32))] 7)) (P := fun o_ U_ => ∃ v_ L_, o_ = .returned v_ ∧ Qcmq1 Z b ck a ka c0 h0 n0 v_ U_.heap L_ ∧ FrameEnd s o_ U_ L_ r_m0.cells r_m0.slots) (fun t_ k_ => castTop (ef_cmq1 m b (0 : Int32) a (0 : Int32) (1 : Int32)) k_) ?_
 show Gl p.tables e below _ (s₁.setTop (mkF m 0 #[sR b, sI 0, sR a, sI 0, sI 1, sU, sU] []))
 refine Gl.go (fun _ hr => ziconst X0.here hx (dc d44_0) (zistore X0.here hx (dc d44_1) rfl (l' := #[sR b, sI 0, sR a, sI 0, sI 1, sI 0, sU]) rfl (ziload X0.here hx (dc d44_3) rfl (ziload X0.here hx (dc d44_5) rfl (zicmpNo X0.here hx (dc d44_7) rfl (XT.ii_ge_f (by decide)) (zaloadN X0.here hx (dc d44_10) rfl rfl (ziloadN X0.here hx (dc d44_11) rfl hr))))))) ?_
 obtain ⟨az, ap, aE, ax, aD, ai, ay⟩ := id q0
 have ag := inb_of ax (j := (0 : Int32)) ⟨(by decide), (by decide)⟩
 refine g_caload Gl.cl X0 hx hZ e0 ap ag (v := (.int c0)) (ai.at ag rfl) rfl rfl (dc d44_12) ?_
 refine Gl.go (fun _ hr => zistore X0.here hx (dc d44_13) rfl (l' := #[sR b, sI 0, sR a, sI 0, sI 1, sI 0, sI c0]) rfl (ziload X0.here hx (dc d44_15) rfl (zsipush X0.here hx (dc d44_17) hr))) ?_
 by_cases ac : (255 : Int32) < c0
 ·refine Gl.go (fun _ hr => zicmpNo X0.here hx (dc d44_20) rfl (XT.ii_le_f ac) (ziload X0.here hx (dc d44_23) rfl hr)) ?_
  obtain ⟨fs, hr, hrun, hended, hW, hsame⟩ := X0.leave (v := some (.int (0 : Int32))) (fun h => by rw [Bd.returns] at h; cases h)
  refine ⟨_, _, retOut X0 hx Bd.returns rfl (Or.inl ⟨rfl, Or.inl rfl, _, rfl⟩) (dc d44_25) hr, hrun, hended, _, _, rfl, ?_, ⟨⟨_, rfl⟩, hW, hsame.mono (by decide) (by decide)⟩⟩
  show Qcmq1 Z b ck a ka c0 h0 n0 _ s₁.heap _
  rw [e0]
  exact ⟨0, [(.int (0 : Int32))], rfl, N0, (Keep.refl h0 [a]), q1, (Or.inr ⟨by decide, ac⟩)⟩
 ·refine Gl.go (fun _ hr => zicmpYes X0.here hx (pc0 := 20) (pc' := 26) rfl (dc d44_20) rfl (XT.ii_le_t ac) (by decide) (by decide) (zaloadN X0.here hx (dc d44_26) rfl rfl (ziloadN X0.here hx (dc d44_27) rfl (ziload X0.here hx (dc d44_28) rfl (zi2b X0.here hx (dc d44_30) rfl hr))))) ?_
  show Gl p.tables e below _ (s₁.setTop (mkF m 31 #[sR b, sI 0, sR a, sI 0, sI 1, sI 0, sI c0] [(.int (c0.toInt8.toInt32)), (.int (0 : Int32)), (.ref a)]))
  show Gl p.tables e below _ (s₁.setTop (mkF m 31 #[sR b, sI 0, sR a, sI 0, sI 1, sI 0, sI c0] [(.int (StrChars.lo8 c0)), (.int (0 : Int32)), (.ref a)]))
  obtain ⟨aA, ae, aw, ah, au, aj, am⟩ := id q1
  refine gstB Gl.cl X0 hx hZ e0 ae (j := (0 : Int32)) (inb_of ah ⟨(by decide), (by decide)⟩) rfl rfl (dc d44_31) ?_
  intro al af aa aq ab
  have aF : h0.size ≤ af.size := (Keep.of_wr ab).1
  rw [(own_narb _)] at ab
  have ao : Arv Z af a ka .byte (1 : Int32) [(.int (StrChars.lo8 c0))] (.int (0 : Int32)) := Arv.set ae aw ah au aj am (own_fitb _) ab 0 rfl (Nat.le_of_ble_eq_true rfl)
  have av : Lq n0 a := by omega
  have ak := Fr.snoc aa N0 (own_ale av)
  refine Gl.go (fun _ hr => ziinc aa.here hx (dc d44_32) rfl (l' := #[sR b, sI 1, sR a, sI 0, sI 1, sI 0, sI c0]) rfl (ziinc aa.here hx (dc d44_35) rfl (l' := #[sR b, sI 1, sR a, sI 1, sI 1, sI 0, sI c0]) rfl (ziinc aa.here hx (dc d44_38) rfl (l' := #[sR b, sI 1, sR a, sI 1, sI 1, sI 1, sI c0]) rfl (zgoto aa.here hx (pc0 := 41) (pc' := 3) rfl (dc d44_41) (by decide) (by decide) (ziload aa.here hx (dc d44_3) rfl (ziload aa.here hx (dc d44_5) rfl (zicmpYes aa.here hx (pc0 := 7) (pc' := 44) rfl (dc d44_7) rfl (XT.ii_ge_t (by decide)) (by decide) (by decide) (ziload aa.here hx (dc d44_44) rfl hr)))))))) ?_
  obtain ⟨fs, hr, hrun, hended, hW, hsame⟩ := aa.leave (v := some (.int (1 : Int32))) (fun h => by rw [Bd.returns] at h; cases h)
  refine ⟨_, _, retOut aa hx Bd.returns rfl (Or.inl ⟨rfl, Or.inl rfl, _, rfl⟩) (dc d44_46) hr, hrun, hended, _, _, rfl, ?_, ⟨⟨_, rfl⟩, hW, hsame.mono (by decide) (by decide)⟩⟩
  show Qcmq1 Z b ck a ka c0 h0 n0 _ al.heap _
  rw [aq]
  exact ⟨1, [(.int (StrChars.lo8 c0))], rfl, ak, ((Keep.refl h0 [a]).wr ab (Or.inl (by simp))), ao, (Or.inl ⟨rfl, rfl, (own_cS (P := fun c => ¬ (255 : Int32) < c) ac own_c0)⟩)⟩
def Qnbl2 (Z : State)  (h0 : Heap) (n0 : Nat) (v : Option Value) (h : Heap) (L : List Loc) : Prop := v = some (.int (4 : Int32)) ∧ Fr n0 L ∧ h = h0
theorem ef_nbl2 (m : MethodId) (x0 : Int32) : entryFrame m #[(.int x0)] 1 = mkF m 0 #[sI x0] [] := by first | (simp [entryFrame, mkF, argsToLocals, Value.category]; done) | rfl
set_option maxRecDepth 65536 in
set_option maxHeartbeats 40000000 in
theorem nbl2 (l : Launch) (Z : State) (a0 : Array Value) (hw : ∀ d ∈ tables_1, d.before a0 Z = true) (ws : List Jvm.Cond)  (h0 : Heap) (n0 : Nat) (Z0 : n0 ≤ h0.size) :
  MetFree l y_2 (head1 (Jvm.Cond.code y_2 jdk_52_method_3_code 1 (some .int) :: ws) r_m0) (fun a_ U_ => a_ = #[(.int (2 : Int32))] ∧ Z.Warmed39 U_.vm ∧ U_.heap = h0) (fun _ _ _ _ _ => True) (fun _ U_ o_ V_ => ∃ v_ L_, o_ = .returned v_ ∧ Qnbl2 Z  h0 n0 v_ V_.heap L_ ∧ FrameEnd U_ o_ V_ L_ r_m0.cells r_m0.slots) := by
 refine MetFree.of_bodySF (plainFor_of_name pn_0) hisR ?_
 intro p e s m args below meth c s₁ Bd aa hP hK
 obtain ⟨rfl, hZ, hh⟩ := hP
 have hx := Bd.exec
 have dc := @hb _ _ Bd.bytes
 have hml : c.maxLocals = 1 := aa
 have hown : s.vm.findClass "java/lang/StringUTF16" = some m.cls := findClass_of_methodNamed Bd.named
 have hnm := (name_of_methodNamed Bd.named Bd.method).1
 have X0 : Stand p l e r_m0 s m #[(.int (2 : Int32))] below meth c s₁ [] 0 0 := Stand.of_body Bd
 have e0 : s₁.heap = h0 := by rw [← hh, Bd.state]; rfl
 have N0 := Fr.nil n0
 refine Gl.go (A := s₁.setTop (entryFrame m #[(.int (2 : Int32))] 1)) (P := fun o_ U_ => ∃ v_ L_, o_ = .returned v_ ∧ Qnbl2 Z  h0 n0 v_ U_.heap L_ ∧ FrameEnd s o_ U_ L_ r_m0.cells r_m0.slots) (fun t_ k_ => castTop (ef_nbl2 m (2 : Int32)) k_) ?_
 show Gl p.tables e below _ (s₁.setTop (mkF m 0 #[sI 2] []))
 refine Gl.go (fun _ hr => ziloadN X0.here hx (dc d48_0) rfl (zifYes X0.here hx (pc0 := 1) (pc' := 12) rfl (dc d48_1) rfl (XT.i0_ge_t (by decide)) (by decide) (by decide) (ziloadN X0.here hx (dc d48_12) rfl hr))) ?_
 refine Gl.go (X0.ldcInt hx hown (mvT hZ (tw hw 238 rfl)) rfl (dc d48_13)) ?_
 refine Gl.go (fun _ hr => zicmpYes X0.here hx (pc0 := 15) (pc' := 55) rfl (dc d48_15) rfl (XT.ii_lt_t (by decide)) (by decide) (by decide) (ziloadN X0.here hx (dc d48_55) rfl (ziconst X0.here hx (dc d48_56) (zishl X0.here hx (dc d48_57) rfl hr)))) ?_
 obtain ⟨fs, hr, hrun, hended, hW, hsame⟩ := X0.leave (v := some (.int (4 : Int32))) (fun h => by rw [Bd.returns] at h; cases h)
 refine ⟨_, _, retOut X0 hx Bd.returns rfl (Or.inl ⟨rfl, Or.inl rfl, _, rfl⟩) (dc d48_58) hr, hrun, hended, _, _, rfl, ?_, ⟨⟨_, rfl⟩, hW, hsame.mono (by decide) (by decide)⟩⟩
 show Qnbl2 Z  h0 n0 _ s₁.heap _
 rw [e0]
 exact ⟨rfl, N0, rfl⟩
def Qnbf2 (Z : State)  (h0 : Heap) (n0 : Nat) (v : Option Value) (h : Heap) (L : List Loc) : Prop := ∃ (r : Addr), ∃ (kr : ClassId), v = some (.ref r) ∧ Fr n0 L ∧ Keep h0 h [] ∧ (Arv Z h r kr .byte (4 : Int32) ([(.int (0 : Int32)), (.int (0 : Int32)), (.int (0 : Int32)), (.int (0 : Int32))]) (.int (0 : Int32))) ∧ (Lq h0.size r)
theorem ef_nbf2 (m : MethodId) (x0 : Int32) : entryFrame m #[(.int x0)] 1 = mkF m 0 #[sI x0] [] := by first | (simp [entryFrame, mkF, argsToLocals, Value.category]; done) | rfl
set_option maxRecDepth 65536 in
set_option maxHeartbeats 40000000 in
theorem nbf2 (l : Launch) (Z : State) (a0 : Array Value) (hw : ∀ d ∈ tables_1, d.before a0 Z = true) (ws : List Jvm.Cond)  (h0 : Heap) (n0 : Nat) (Z0 : n0 ≤ h0.size) :
  MetFree l y_3 (head1 (Jvm.Cond.code y_3 jdk_52_method_2_code 1 (some (.array .byte)) :: ws) r_m1) (fun a_ U_ => a_ = #[(.int (2 : Int32))] ∧ Z.Warmed39 U_.vm ∧ U_.heap = h0) (fun _ _ _ _ _ => True) (fun _ U_ o_ V_ => ∃ v_ L_, o_ = .returned v_ ∧ Qnbf2 Z  h0 n0 v_ V_.heap L_ ∧ FrameEnd U_ o_ V_ L_ r_m1.cells r_m1.slots) := by
 refine MetFree.of_bodySF (plainFor_of_name pn_0) hisR ?_
 intro p e s m args below meth c s₁ Bd aq hP hK
 obtain ⟨rfl, hZ, hh⟩ := hP
 have hx := Bd.exec
 have dc := @hb _ _ Bd.bytes
 have hml : c.maxLocals = 1 := aq
 have hown : s.vm.findClass "java/lang/StringUTF16" = some m.cls := findClass_of_methodNamed Bd.named
 have hnm := (name_of_methodNamed Bd.named Bd.method).1
 have X0 : Stand p l e r_m1 s m #[(.int (2 : Int32))] below meth c s₁ [] 0 0 := Stand.of_body Bd
 have e0 : s₁.heap = h0 := by rw [← hh, Bd.state]; rfl
 have N0 := Fr.nil n0
 refine Gl.go (A := s₁.setTop (entryFrame m #[(.int (2 : Int32))] 1)) (P := fun o_ U_ => ∃ v_ L_, o_ = .returned v_ ∧ Qnbf2 Z  h0 n0 v_ U_.heap L_ ∧ FrameEnd s o_ U_ L_ r_m1.cells r_m1.slots) (fun t_ k_ => castTop (ef_nbf2 m (2 : Int32)) k_) ?_
 show Gl p.tables e below _ (s₁.setTop (mkF m 0 #[sI 2] []))
 refine Gl.go (fun _ hr => ziloadN X0.here hx (dc d47_0) rfl hr) ?_
 have ar : n0 ≤ h0.size := by omega
 refine gStaticN Gl.cl (y := y_2) (argsL := [(.int (2 : Int32))]) (rest := []) (mc := 0) (ms := 0) X0 hx hZ hown (mvT hZ (tw hw 235 rfl)) (mvT hZ (tw hw 236 rfl)) (mvT hZ (tw hw 221 rfl)) (mvT hZ (tw hw 237 rfl)) (by decide) (backOf (W := 0) (nbl2 l Z a0 hw []  h0 n0 ar ) hZ (tw hw 237 rfl) (tw hw 221 rfl) (by decide) (by decide)) rfl (by rw [hml]; rfl) (lenOf pd_0 rfl) rfl (by exact Nat.le_of_eq rfl) (dc d47_1) rfl e0 (by decide) (by decide) ?_
 intro az aw av ap al
 obtain ⟨rfl, ai, am⟩ := ap
 have ah := Fr.app N0 ai
 refine gNewPE Gl.cl al hx hZ (tw hw 20 rfl) am rfl (dc d47_4) rfl (by decide) (cap := 4) (by decide) (by decide) (by decide) (by decide) (ad := "[B") (by decide) ?_
 intro aj af aa ag ax ae ao ac ab au
 have aA : h0.size ≤ af.size := ac.1
 have ay := own_alt ab.lt
 have ak : Arv Z af aa ag .byte (4 : Int32) [(.int (0 : Int32)), (.int (0 : Int32)), (.int (0 : Int32)), (.int (0 : Int32))] (.int (0 : Int32)) := (Arv.new ab (by decide)).pad (pad_rep [] (.int (0 : Int32)) 4)
 obtain ⟨fs, hr, hrun, hended, hW, hsame⟩ := ae.leave (v := some (.ref aa)) (fun h => by rw [Bd.returns] at h; cases h)
 refine ⟨_, _, retOut ae hx Bd.returns rfl (Or.inr (Or.inr (Or.inr (Or.inr ⟨rfl, rfl, rfl⟩)))) (dc d47_6) hr, hrun, hended, _, _, rfl, ?_, ⟨⟨_, rfl⟩, hW, hsame.mono (by decide) (by decide)⟩⟩
 show Qnbf2 Z  h0 n0 _ aj.heap _
 rw [ao]
 exact ⟨aa, ag, rfl, ah, ((Keep.refl h0 []).ext ac), ak, (by omega)⟩
def Qtob2 (Z : State) (b : Addr) (ck : ClassId) (c0 : Int32) (c1 : Int32) (h0 : Heap) (n0 : Nat) (v : Option Value) (h : Heap) (L : List Loc) : Prop := ∃ (r : Addr), ∃ (kr : ClassId), v = some (.ref r) ∧ Fr n0 L ∧ Keep h0 h [] ∧ (Arv Z h r kr .byte (4 : Int32) (StrChars.Road.wideBytes ([c0, c1] : List Int32)) (.int (0 : Int32))) ∧ (Lq h0.size r)
theorem ef_tob2 (m : MethodId) (x0 : Addr) (x1 : Int32) (x2 : Int32) : entryFrame m #[(.ref x0), (.int x1), (.int x2)] 5 = mkF m 0 #[sR x0, sI x1, sI x2, sU, sU] [] := by first | (simp [entryFrame, mkF, argsToLocals, Value.category]; done) | rfl
set_option maxRecDepth 65536 in
set_option maxHeartbeats 40000000 in
theorem tob2 (l : Launch) (Z : State) (a0 : Array Value) (hw : ∀ d ∈ tables_1, d.before a0 Z = true) (ws : List Jvm.Cond) (b : Addr) (ck : ClassId) (c0 : Int32) (c1 : Int32) (h0 : Heap) (n0 : Nat) (Z0 : n0 ≤ h0.size) (q0 : OZ Z h0 n0) (q1 : SAd Z) (q2 : SHi Z) (q3 : SLo Z) (q4 : Arv Z h0 b ck .char (2 : Int32) ([(.int c0), (.int c1)]) (.int (0 : Int32))) :
  MetFree l y_4 (head1 (Jvm.Cond.code y_4 jdk_52_method_14_code 5 (some (.array .byte)) :: ws) r_m2) (fun a_ U_ => a_ = #[(.ref b), (.int (0 : Int32)), (.int (2 : Int32))] ∧ Z.Warmed39 U_.vm ∧ U_.heap = h0) (fun _ _ _ _ _ => True) (fun _ U_ o_ V_ => ∃ v_ L_, o_ = .returned v_ ∧ Qtob2 Z b ck c0 c1 h0 n0 v_ V_.heap L_ ∧ FrameEnd U_ o_ V_ L_ r_m2.cells r_m2.slots) := by
 refine MetFree.of_bodySF (plainFor_of_name pn_0) hisR ?_
 intro p e s m args below meth c s₁ Bd aJ hP hK
 obtain ⟨rfl, hZ, hh⟩ := hP
 have hx := Bd.exec
 have dc := @hb _ _ Bd.bytes
 have hml : c.maxLocals = 5 := aJ
 have hown : s.vm.findClass "java/lang/StringUTF16" = some m.cls := findClass_of_methodNamed Bd.named
 have hnm := (name_of_methodNamed Bd.named Bd.method).1
 have X0 : Stand p l e r_m2 s m #[(.ref b), (.int (0 : Int32)), (.int (2 : Int32))] below meth c s₁ [] 0 0 := Stand.of_body Bd
 have e0 : s₁.heap = h0 := by rw [← hh, Bd.state]; rfl
 have N0 := Fr.nil n0
 have Oo := q0.1
 have zo := q0.2
 have aZ := own_alt q4.lt
 refine Gl.go (A := s₁.setTop (entryFrame m #[(.ref b), (.int (0 : Int32)), (.int (2 : Int32))] 5)) (P := fun o_ U_ => ∃ v_ L_, o_ = .returned v_ ∧ Qtob2 Z b ck c0 c1 h0 n0 v_ U_.heap L_ ∧ FrameEnd s o_ U_ L_ r_m2.cells r_m2.slots) (fun t_ k_ => castTop (ef_tob2 m b (0 : Int32) (2 : Int32)) k_) ?_
 show Gl p.tables e below _ (s₁.setTop (mkF m 0 #[sR b, sI 0, sI 2, sU, sU] []))
 refine Gl.go (fun _ hr => ziloadN X0.here hx (dc d46_0) rfl hr) ?_
 have aO : n0 ≤ h0.size := by omega
 refine gStaticN Gl.cl (y := y_3) (argsL := [(.int (2 : Int32))]) (rest := []) (mc := 1) (ms := 4) X0 hx hZ hown (mvT hZ (tw hw 232 rfl)) (mvT hZ (tw hw 233 rfl)) (mvT hZ (tw hw 221 rfl)) (mvT hZ (tw hw 234 rfl)) (by decide) (backOf (W := 0) (nbf2 l Z a0 hw []  h0 n0 aO ) hZ (tw hw 234 rfl) (tw hw 221 rfl) (by decide) (by decide)) rfl (by rw [hml]; rfl) (lenOf pd_1 rfl) rfl (by exact Nat.le_of_eq rfl) (dc d46_1) rfl e0 (by decide) (by decide) ?_
 intro bb af aR aG ab
 obtain ⟨aa, ah, rfl, az, K43, al, aY⟩ := aG
 have bf : h0.size ≤ af.heap.size := K43.1
 have aw := Fr.app N0 az
 have a3 := own_alt al.lt
 refine Gl.go (fun _ hr => zastoreN ab.here hx (dc d46_4) rfl rfl (l' := #[sR b, sI 0, sI 2, sR aa, sU]) rfl (ziconst ab.here hx (dc d46_5) (zistore ab.here hx (dc d46_6) rfl (l' := #[sR b, sI 0, sI 2, sR aa, sI 0]) rfl (ziload ab.here hx (dc d46_8) rfl (ziloadN ab.here hx (dc d46_10) rfl (zicmpNo ab.here hx (dc d46_11) rfl (XT.ii_ge_f (by decide)) (zaloadN ab.here hx (dc d46_14) rfl rfl (ziload ab.here hx (dc d46_15) rfl (zaloadN ab.here hx (dc d46_17) rfl rfl (ziloadN ab.here hx (dc d46_18) rfl hr)))))))))) ?_
 have ak := (q4.keep K43 nin0)
 obtain ⟨aW, aE, a9, aM, a7, au, aU⟩ := id ak
 have ap := inb_of aM (j := (0 : Int32)) ⟨(by decide), (by decide)⟩
 refine g_caload Gl.cl ab hx hZ (rfl : af.heap = af.heap) aE ap (v := (.int c0)) (au.at ap rfl) rfl rfl (dc d46_19) ?_
 have ai := (Oo.keep K43 all0)
 have aP : n0 ≤ af.heap.size := by omega
 refine gStaticN Gl.cl (y := y_0) (argsL := [(.ref aa), (.int (0 : Int32)), (.int c0)]) (rest := []) (mc := 0) (ms := 0) ab hx hZ hown (mvT hZ (tw hw 239 rfl)) (mvT hZ (tw hw 240 rfl)) (mvT hZ (tw hw 221 rfl)) (mvT hZ (tw hw 241 rfl)) (by decide) (backOf (W := 0) (pch l Z a0 hw [] aa ah 4 ([(.int (0 : Int32)), (.int (0 : Int32)), (.int (0 : Int32)), (.int (0 : Int32))]) 0 c0 af.heap n0 aP ⟨ai, (by omega)⟩ q1 q2 q3 al (by omega) (by decide) (by decide) (Nat.le_of_ble_eq_true rfl)) hZ (tw hw 241 rfl) (tw hw 221 rfl) (by decide) (by decide)) rfl (by rw [hml]; rfl) (lenOf pd_2 rfl) rfl (by exact Nat.le_of_eq rfl) (dc d46_20) rfl (rfl : af.heap = af.heap) (by decide) (by decide) ?_
 intro bc ag aS aH ac
 obtain ⟨rfl, aA, K48, am⟩ := aH
 have bg : af.heap.size ≤ ag.heap.size := K48.1
 have ax := Fr.app aw aA
 have a5 := own_alt am.lt
 refine Gl.go (fun _ hr => ziinc ac.here hx (dc d46_23) rfl (l' := #[sR b, sI 1, sI 2, sR aa, sI 0]) rfl (ziinc ac.here hx (dc d46_26) rfl (l' := #[sR b, sI 1, sI 2, sR aa, sI 1]) rfl (zgoto ac.here hx (pc0 := 29) (pc' := 8) rfl (dc d46_29) (by decide) (by decide) (ziload ac.here hx (dc d46_8) rfl (ziloadN ac.here hx (dc d46_10) rfl (zicmpNo ac.here hx (dc d46_11) rfl (XT.ii_ge_f (by decide)) (zaloadN ac.here hx (dc d46_14) rfl rfl (ziload ac.here hx (dc d46_15) rfl (zaloadN ac.here hx (dc d46_17) rfl rfl (ziloadN ac.here hx (dc d46_18) rfl hr)))))))))) ?_
 have aK : Nq b aa := by omega
 have aD := (ak.keep K48 (ninS (own_ane aK) nin0))
 obtain ⟨aX, aF, ba, aN, a8, av, aV⟩ := id aD
 have aq := inb_of aN (j := (1 : Int32)) ⟨(by decide), (by decide)⟩
 refine g_caload Gl.cl ac hx hZ (rfl : ag.heap = ag.heap) aF aq (v := (.int c1)) (av.at aq rfl) rfl rfl (dc d46_19) ?_
 have aL : Lq Z.heap.size aa := by omega
 have aC := (ai.keep K48 (allS (own_ale aL) all0))
 have aQ : n0 ≤ ag.heap.size := by omega
 refine gStaticN Gl.cl (y := y_0) (argsL := [(.ref aa), (.int (1 : Int32)), (.int c1)]) (rest := []) (mc := 0) (ms := 0) ac hx hZ hown (mvT hZ (tw hw 239 rfl)) (mvT hZ (tw hw 240 rfl)) (mvT hZ (tw hw 221 rfl)) (mvT hZ (tw hw 241 rfl)) (by decide) (backOf (W := 0) (pch l Z a0 hw [] aa ah 4 (([(.int (0 : Int32)), (.int (0 : Int32)), (.int (0 : Int32)), (.int (0 : Int32))].set (2 * 0) (.int (StrChars.lo8 c0))).set (2 * 0 + 1) (.int (StrChars.hi8 c0))) 1 c1 ag.heap n0 aQ ⟨aC, (by omega)⟩ q1 q2 q3 am (by omega) (by decide) (by decide) (Nat.le_of_ble_eq_true rfl)) hZ (tw hw 241 rfl) (tw hw 221 rfl) (by decide) (by decide)) rfl (by rw [hml]; rfl) (lenOf pd_2 rfl) rfl (by exact Nat.le_of_eq rfl) (dc d46_20) rfl (rfl : ag.heap = ag.heap) (by decide) (by decide) ?_
 intro be aj aT aI ae
 obtain ⟨rfl, aB, K55, ao⟩ := aI
 have bh : ag.heap.size ≤ aj.heap.size := K55.1
 have ay := Fr.app ax aB
 have a6 := own_alt ao.lt
 refine Gl.go (fun _ hr => ziinc ae.here hx (dc d46_23) rfl (l' := #[sR b, sI 2, sI 2, sR aa, sI 1]) rfl (ziinc ae.here hx (dc d46_26) rfl (l' := #[sR b, sI 2, sI 2, sR aa, sI 2]) rfl (zgoto ae.here hx (pc0 := 29) (pc' := 8) rfl (dc d46_29) (by decide) (by decide) (ziload ae.here hx (dc d46_8) rfl (ziloadN ae.here hx (dc d46_10) rfl (zicmpYes ae.here hx (pc0 := 11) (pc' := 32) rfl (dc d46_11) rfl (XT.ii_ge_t (by decide)) (by decide) (by decide) (zaloadN ae.here hx (dc d46_32) rfl rfl hr))))))) ?_
 obtain ⟨fs, hr, hrun, hended, hW, hsame⟩ := ae.leave (v := some (.ref aa)) (fun h => by rw [Bd.returns] at h; cases h)
 have ar : Lq h0.size aa := by omega
 refine ⟨_, _, retOut ae hx Bd.returns rfl (Or.inr (Or.inr (Or.inr (Or.inr ⟨rfl, rfl, rfl⟩)))) (dc d46_33) hr, hrun, hended, _, _, rfl, ?_, ⟨⟨_, rfl⟩, hW, hsame.mono (by decide) (by decide)⟩⟩
 show Qtob2 Z b ck c0 c1 h0 n0 _ aj.heap _
 exact ⟨aa, ah, rfl, ay, ((((Keep.refl h0 []).trans K43 all0).trans K48 (allS (P := fun x_ => x_ ∈ ([] : List Addr) ∨ h0.size ≤ x_) (Or.inr (own_ale ar)) all0)).trans K55 (allS (P := fun x_ => x_ ∈ ([] : List Addr) ∨ h0.size ≤ x_) (Or.inr (own_ale ar)) all0)), ao, (by omega)⟩
def Qcmq2 (Z : State) (b : Addr) (ck : ClassId) (a : Addr) (ka : ClassId) (c0 : Int32) (c1 : Int32) (h0 : Heap) (n0 : Nat) (v : Option Value) (h : Heap) (L : List Loc) : Prop := ∃ (r : Nat), ∃ (ys : List Value), v = some (.int (Int32.ofNat r)) ∧ Fr n0 L ∧ Keep h0 h [a] ∧ (Arv Z h a ka .byte (2 : Int32) ys (.int (0 : Int32))) ∧ ((r = 2 ∧ ys = [(.int (StrChars.lo8 c0)), (.int (StrChars.lo8 c1))] ∧ ∀ c ∈ ([c0, c1] : List Int32), ¬ (255 : Int32) < c) ∨ (r < 2 ∧ (255 : Int32) < ([c0, c1] : List Int32).getD r 0))
theorem ef_cmq2 (m : MethodId) (x0 : Addr) (x1 : Int32) (x2 : Addr) (x3 : Int32) (x4 : Int32) : entryFrame m #[(.ref x0), (.int x1), (.ref x2), (.int x3), (.int x4)] 7 = mkF m 0 #[sR x0, sI x1, sR x2, sI x3, sI x4, sU, sU] [] := by first | (simp [entryFrame, mkF, argsToLocals, Value.category]; done) | rfl
set_option maxRecDepth 65536 in
set_option maxHeartbeats 40000000 in
theorem cmq2 (l : Launch) (Z : State) (a0 : Array Value) (hw : ∀ d ∈ tables_1, d.before a0 Z = true) (ws : List Jvm.Cond) (b : Addr) (ck : ClassId) (a : Addr) (ka : ClassId) (c0 : Int32) (c1 : Int32) (h0 : Heap) (n0 : Nat) (Z0 : n0 ≤ h0.size) (q0 : Arv Z h0 b ck .char (2 : Int32) ([(.int c0), (.int c1)]) (.int (0 : Int32))) (q1 : Arv Z h0 a ka .byte (2 : Int32) ([(.int (0 : Int32)), (.int (0 : Int32))]) (.int (0 : Int32))) (q2 : Lq n0 a) (q3 : Nq a b) :
  MetFree l y_5 (head1 (Jvm.Cond.code y_5 jdk_52_method_21_code 7 (some .int) :: ws) r_m0) (fun a_ U_ => a_ = #[(.ref b), (.int (0 : Int32)), (.ref a), (.int (0 : Int32)), (.int (2 : Int32))] ∧ Z.Warmed39 U_.vm ∧ U_.heap = h0) (fun _ _ _ _ _ => True) (fun _ U_ o_ V_ => ∃ v_ L_, o_ = .returned v_ ∧ Qcmq2 Z b ck a ka c0 c1 h0 n0 v_ V_.heap L_ ∧ FrameEnd U_ o_ V_ L_ r_m0.cells r_m0.slots) := by
 refine MetFree.of_bodySF (plainFor_of_name pn_0) hisR ?_
 intro p e s m args below meth c s₁ Bd aK hP hK
 obtain ⟨rfl, hZ, hh⟩ := hP
 have hx := Bd.exec
 have dc := @hb _ _ Bd.bytes
 have hml : c.maxLocals = 7 := aK
 have hown : s.vm.findClass "java/lang/StringUTF16" = some m.cls := findClass_of_methodNamed Bd.named
 have hnm := (name_of_methodNamed Bd.named Bd.method).1
 have X0 : Stand p l e r_m0 s m #[(.ref b), (.int (0 : Int32)), (.ref a), (.int (0 : Int32)), (.int (2 : Int32))] below meth c s₁ [] 0 0 := Stand.of_body Bd
 have e0 : s₁.heap = h0 := by rw [← hh, Bd.state]; rfl
 have N0 := Fr.nil n0
 have aY := own_alt q0.lt
 have aZ := own_alt q1.lt
 refine Gl.go (A := s₁.setTop (entryFrame m #[(.ref b), (.int (0 : Int32)), (.ref a), (.int (0 : Int32)), (.int (2 : Int32))] 7)) (P := fun o_ U_ => ∃ v_ L_, o_ = .returned v_ ∧ Qcmq2 Z b ck a ka c0 c1 h0 n0 v_ U_.heap L_ ∧ FrameEnd s o_ U_ L_ r_m0.cells r_m0.slots) (fun t_ k_ => castTop (ef_cmq2 m b (0 : Int32) a (0 : Int32) (2 : Int32)) k_) ?_
 show Gl p.tables e below _ (s₁.setTop (mkF m 0 #[sR b, sI 0, sR a, sI 0, sI 2, sU, sU] []))
 refine Gl.go (fun _ hr => ziconst X0.here hx (dc d44_0) (zistore X0.here hx (dc d44_1) rfl (l' := #[sR b, sI 0, sR a, sI 0, sI 2, sI 0, sU]) rfl (ziload X0.here hx (dc d44_3) rfl (ziload X0.here hx (dc d44_5) rfl (zicmpNo X0.here hx (dc d44_7) rfl (XT.ii_ge_f (by decide)) (zaloadN X0.here hx (dc d44_10) rfl rfl (ziloadN X0.here hx (dc d44_11) rfl hr))))))) ?_
 obtain ⟨aU, aH, a6, aQ, a3, ax, aS⟩ := id q0
 have aq := inb_of aQ (j := (0 : Int32)) ⟨(by decide), (by decide)⟩
 refine g_caload Gl.cl X0 hx hZ e0 aH aq (v := (.int c0)) (ax.at aq rfl) rfl rfl (dc d44_12) ?_
 refine Gl.go (fun _ hr => zistore X0.here hx (dc d44_13) rfl (l' := #[sR b, sI 0, sR a, sI 0, sI 2, sI 0, sI c0]) rfl (ziload X0.here hx (dc d44_15) rfl (zsipush X0.here hx (dc d44_17) hr))) ?_
 by_cases af : (255 : Int32) < c0
 ·refine Gl.go (fun _ hr => zicmpNo X0.here hx (dc d44_20) rfl (XT.ii_le_f af) (ziload X0.here hx (dc d44_23) rfl hr)) ?_
  obtain ⟨fs, hr, hrun, hended, hW, hsame⟩ := X0.leave (v := some (.int (0 : Int32))) (fun h => by rw [Bd.returns] at h; cases h)
  refine ⟨_, _, retOut X0 hx Bd.returns rfl (Or.inl ⟨rfl, Or.inl rfl, _, rfl⟩) (dc d44_25) hr, hrun, hended, _, _, rfl, ?_, ⟨⟨_, rfl⟩, hW, hsame.mono (by decide) (by decide)⟩⟩
  show Qcmq2 Z b ck a ka c0 c1 h0 n0 _ s₁.heap _
  rw [e0]
  exact ⟨0, [(.int (0 : Int32)), (.int (0 : Int32))], rfl, N0, (Keep.refl h0 [a]), q1, (Or.inr ⟨by decide, af⟩)⟩
 ·refine Gl.go (fun _ hr => zicmpYes X0.here hx (pc0 := 20) (pc' := 26) rfl (dc d44_20) rfl (XT.ii_le_t af) (by decide) (by decide) (zaloadN X0.here hx (dc d44_26) rfl rfl (ziloadN X0.here hx (dc d44_27) rfl (ziload X0.here hx (dc d44_28) rfl (zi2b X0.here hx (dc d44_30) rfl hr))))) ?_
  show Gl p.tables e below _ (s₁.setTop (mkF m 31 #[sR b, sI 0, sR a, sI 0, sI 2, sI 0, sI c0] [(.int (c0.toInt8.toInt32)), (.int (0 : Int32)), (.ref a)]))
  show Gl p.tables e below _ (s₁.setTop (mkF m 31 #[sR b, sI 0, sR a, sI 0, sI 2, sI 0, sI c0] [(.int (StrChars.lo8 c0)), (.int (0 : Int32)), (.ref a)]))
  obtain ⟨aV, am, aO, av, aL, ay, aD⟩ := id q1
  refine gstB Gl.cl X0 hx hZ e0 am (j := (0 : Int32)) (inb_of av ⟨(by decide), (by decide)⟩) rfl rfl (dc d44_31) ?_
  intro ah aj aa ai ac
  have a8 : h0.size ≤ aj.size := (Keep.of_wr ac).1
  rw [(own_narb _)] at ac
  have al : Arv Z aj a ka .byte (2 : Int32) [(.int (StrChars.lo8 c0)), (.int (0 : Int32))] (.int (0 : Int32)) := Arv.set am aO av aL ay aD (own_fitb _) ac 0 rfl (Nat.le_of_ble_eq_true rfl)
  have au : Lq n0 a := by omega
  have ak := Fr.snoc aa N0 (own_ale au)
  refine Gl.go (fun _ hr => ziinc aa.here hx (dc d44_32) rfl (l' := #[sR b, sI 1, sR a, sI 0, sI 2, sI 0, sI c0]) rfl (ziinc aa.here hx (dc d44_35) rfl (l' := #[sR b, sI 1, sR a, sI 1, sI 2, sI 0, sI c0]) rfl (ziinc aa.here hx (dc d44_38) rfl (l' := #[sR b, sI 1, sR a, sI 1, sI 2, sI 1, sI c0]) rfl (zgoto aa.here hx (pc0 := 41) (pc' := 3) rfl (dc d44_41) (by decide) (by decide) (ziload aa.here hx (dc d44_3) rfl (ziload aa.here hx (dc d44_5) rfl (zicmpNo aa.here hx (dc d44_7) rfl (XT.ii_ge_f (by decide)) (zaloadN aa.here hx (dc d44_10) rfl rfl (ziloadN aa.here hx (dc d44_11) rfl hr))))))))) ?_
  have aN : Nq b a := by omega
  have aG := (q0.other ac (own_ane aN))
  obtain ⟨aW, aI, a7, aR, a5, az, aT⟩ := id aG
  have ar := inb_of aR (j := (1 : Int32)) ⟨(by decide), (by decide)⟩
  refine g_caload Gl.cl aa hx hZ ai aI ar (v := (.int c1)) (az.at ar rfl) rfl rfl (dc d44_12) ?_
  refine Gl.go (fun _ hr => zistore aa.here hx (dc d44_13) rfl (l' := #[sR b, sI 1, sR a, sI 1, sI 2, sI 1, sI c1]) rfl (ziload aa.here hx (dc d44_15) rfl (zsipush aa.here hx (dc d44_17) hr))) ?_
  by_cases ag : (255 : Int32) < c1
  ·refine Gl.go (fun _ hr => zicmpNo aa.here hx (dc d44_20) rfl (XT.ii_le_f ag) (ziload aa.here hx (dc d44_23) rfl hr)) ?_
   obtain ⟨fs, hr, hrun, hended, hW, hsame⟩ := aa.leave (v := some (.int (1 : Int32))) (fun h => by rw [Bd.returns] at h; cases h)
   refine ⟨_, _, retOut aa hx Bd.returns rfl (Or.inl ⟨rfl, Or.inl rfl, _, rfl⟩) (dc d44_25) hr, hrun, hended, _, _, rfl, ?_, ⟨⟨_, rfl⟩, hW, hsame.mono (by decide) (by decide)⟩⟩
   show Qcmq2 Z b ck a ka c0 c1 h0 n0 _ ah.heap _
   rw [ai]
   exact ⟨1, [(.int (StrChars.lo8 c0)), (.int (0 : Int32))], rfl, ak, ((Keep.refl h0 [a]).wr ac (Or.inl (by simp))), al, (Or.inr ⟨by decide, ag⟩)⟩
  ·refine Gl.go (fun _ hr => zicmpYes aa.here hx (pc0 := 20) (pc' := 26) rfl (dc d44_20) rfl (XT.ii_le_t ag) (by decide) (by decide) (zaloadN aa.here hx (dc d44_26) rfl rfl (ziloadN aa.here hx (dc d44_27) rfl (ziload aa.here hx (dc d44_28) rfl (zi2b aa.here hx (dc d44_30) rfl hr))))) ?_
   show Gl p.tables e below _ (ah.setTop (mkF m 31 #[sR b, sI 1, sR a, sI 1, sI 2, sI 1, sI c1] [(.int (c1.toInt8.toInt32)), (.int (1 : Int32)), (.ref a)]))
   show Gl p.tables e below _ (ah.setTop (mkF m 31 #[sR b, sI 1, sR a, sI 1, sI 2, sI 1, sI c1] [(.int (StrChars.lo8 c1)), (.int (1 : Int32)), (.ref a)]))
   obtain ⟨aX, ao, aP, aw, aM, aA, aE⟩ := id al
   refine gstB Gl.cl aa hx hZ ai ao (j := (1 : Int32)) (inb_of aw ⟨(by decide), (by decide)⟩) rfl rfl (dc d44_31) ?_
   intro aC ap ab aJ ae
   have a9 : aj.size ≤ ap.size := (Keep.of_wr ae).1
   rw [(own_narb _)] at ae
   have aF : Arv Z ap a ka .byte (2 : Int32) [(.int (StrChars.lo8 c0)), (.int (StrChars.lo8 c1))] (.int (0 : Int32)) := Arv.set ao aP aw aM aA aE (own_fitb _) ae 1 rfl (Nat.le_of_ble_eq_true rfl)
   have aB := Fr.snoc ab ak (own_ale au)
   refine Gl.go (fun _ hr => ziinc ab.here hx (dc d44_32) rfl (l' := #[sR b, sI 2, sR a, sI 1, sI 2, sI 1, sI c1]) rfl (ziinc ab.here hx (dc d44_35) rfl (l' := #[sR b, sI 2, sR a, sI 2, sI 2, sI 1, sI c1]) rfl (ziinc ab.here hx (dc d44_38) rfl (l' := #[sR b, sI 2, sR a, sI 2, sI 2, sI 2, sI c1]) rfl (zgoto ab.here hx (pc0 := 41) (pc' := 3) rfl (dc d44_41) (by decide) (by decide) (ziload ab.here hx (dc d44_3) rfl (ziload ab.here hx (dc d44_5) rfl (zicmpYes ab.here hx (pc0 := 7) (pc' := 44) rfl (dc d44_7) rfl (XT.ii_ge_t (by decide)) (by decide) (by decide) (ziload ab.here hx (dc d44_44) rfl hr)))))))) ?_
   obtain ⟨fs, hr, hrun, hended, hW, hsame⟩ := ab.leave (v := some (.int (2 : Int32))) (fun h => by rw [Bd.returns] at h; cases h)
   refine ⟨_, _, retOut ab hx Bd.returns rfl (Or.inl ⟨rfl, Or.inl rfl, _, rfl⟩) (dc d44_46) hr, hrun, hended, _, _, rfl, ?_, ⟨⟨_, rfl⟩, hW, hsame.mono (by decide) (by decide)⟩⟩
   show Qcmq2 Z b ck a ka c0 c1 h0 n0 _ aC.heap _
   rw [aJ]
   exact ⟨2, [(.int (StrChars.lo8 c0)), (.int (StrChars.lo8 c1))], rfl, aB, (((Keep.refl h0 [a]).wr ac (Or.inl (by simp))).wr ae (Or.inl (by simp))), aF, (Or.inl ⟨rfl, rfl, (own_cS (P := fun c => ¬ (255 : Int32) < c) af (own_cS (P := fun c => ¬ (255 : Int32) < c) ag own_c0))⟩)⟩
def QtobL (Z : State) (b : Addr) (ck : ClassId) (cs : List Int32) (h0 : Heap) (n0 : Nat) (v : Option Value) (h : Heap) (L : List Loc) : Prop := ∃ (r : Addr), ∃ (kr : ClassId), v = some (.ref r) ∧ Fr n0 L ∧ Keep h0 h [] ∧ (Arv Z h r kr .byte (Int32.ofNat (2 * cs.length)) (StrChars.Road.wideBytes cs) (.int (0 : Int32))) ∧ (Lq h0.size r)
set_option maxRecDepth 65536 in
set_option maxHeartbeats 40000000 in
theorem tobL (l : Launch) (Z : State) (a0 : Array Value) (hw : ∀ d ∈ tables_1, d.before a0 Z = true) (ws : List Jvm.Cond) (b : Addr) (ck : ClassId) (cs : List Int32) (h0 : Heap) (n0 : Nat) (Z0 : n0 ≤ h0.size) (q0 : OZ Z h0 n0) (q1 : SAd Z) (q2 : SHi Z) (q3 : SLo Z) (q4 : Arv Z h0 b ck .char (Int32.ofNat cs.length) (cs.map Value.int) (.int (0 : Int32))) (h1 : 0 < cs.length) (h4 : cs.length ≤ 2) :
  MetFree l y_4 (head1 (Jvm.Cond.code y_4 jdk_52_method_14_code 5 (some (.array .byte)) :: ws) r_m2) (fun a_ U_ => a_ = #[(.ref b), (.int (0 : Int32)), (.int (Int32.ofNat cs.length))] ∧ Z.Warmed39 U_.vm ∧ U_.heap = h0) (fun _ _ _ _ _ => True) (fun _ U_ o_ V_ => ∃ v_ L_, o_ = .returned v_ ∧ QtobL Z b ck cs h0 n0 v_ V_.heap L_ ∧ FrameEnd U_ o_ V_ L_ r_m2.cells r_m2.slots) := by
 rcases own_upto h1 h4 with ⟨c0, rfl⟩ | ⟨c0, c1, rfl⟩
 ·exact tob1 l Z a0 hw ws b ck c0 h0 n0 Z0 q0 q1 q2 q3 q4
 ·exact tob2 l Z a0 hw ws b ck c0 c1 h0 n0 Z0 q0 q1 q2 q3 q4
def QcmqL (Z : State) (b : Addr) (ck : ClassId) (a : Addr) (ka : ClassId) (cs : List Int32) (h0 : Heap) (n0 : Nat) (v : Option Value) (h : Heap) (L : List Loc) : Prop := ∃ (r : Nat), ∃ (ys : List Value), v = some (.int (Int32.ofNat r)) ∧ Fr n0 L ∧ Keep h0 h [a] ∧ (Arv Z h a ka .byte (Int32.ofNat cs.length) ys (.int (0 : Int32))) ∧ ((r = cs.length ∧ ys = (cs.map fun c => Value.int (StrChars.lo8 c)) ∧ ∀ c ∈ cs, ¬ (255 : Int32) < c) ∨ (r < cs.length ∧ (255 : Int32) < cs.getD r 0))
set_option maxRecDepth 65536 in
set_option maxHeartbeats 40000000 in
theorem cmqL (l : Launch) (Z : State) (a0 : Array Value) (hw : ∀ d ∈ tables_1, d.before a0 Z = true) (ws : List Jvm.Cond) (b : Addr) (ck : ClassId) (a : Addr) (ka : ClassId) (cs : List Int32) (h0 : Heap) (n0 : Nat) (Z0 : n0 ≤ h0.size) (q0 : Arv Z h0 b ck .char (Int32.ofNat cs.length) (cs.map Value.int) (.int (0 : Int32))) (q1 : Arv Z h0 a ka .byte (Int32.ofNat cs.length) ([]) (.int (0 : Int32))) (q2 : Lq n0 a) (q3 : Nq a b) (h1 : 0 < cs.length) (h4 : cs.length ≤ 2) :
  MetFree l y_5 (head1 (Jvm.Cond.code y_5 jdk_52_method_21_code 7 (some .int) :: ws) r_m0) (fun a_ U_ => a_ = #[(.ref b), (.int (0 : Int32)), (.ref a), (.int (0 : Int32)), (.int (Int32.ofNat cs.length))] ∧ Z.Warmed39 U_.vm ∧ U_.heap = h0) (fun _ _ _ _ _ => True) (fun _ U_ o_ V_ => ∃ v_ L_, o_ = .returned v_ ∧ QcmqL Z b ck a ka cs h0 n0 v_ V_.heap L_ ∧ FrameEnd U_ o_ V_ L_ r_m0.cells r_m0.slots) := by
 rcases own_upto h1 h4 with ⟨c0, rfl⟩ | ⟨c0, c1, rfl⟩
 ·exact cmq1 l Z a0 hw ws b ck a ka c0 h0 n0 Z0 q0 (q1.pad (pad_rep [] (.int (0 : Int32)) 1)) q2 q3
 ·exact cmq2 l Z a0 hw ws b ck a ka c0 c1 h0 n0 Z0 q0 (q1.pad (pad_rep [] (.int (0 : Int32)) 2)) q2 q3
def QcmpL (Z : State) (b : Addr) (ck : ClassId) (cs : List Int32) (h0 : Heap) (n0 : Nat) (v : Option Value) (h : Heap) (L : List Loc) : Prop := ∃ (r : Addr), ∃ (kr : ClassId), ∃ (cd : Int32), ∃ (N2 : Int32), ∃ (vs : List Value), v = some (.ref r) ∧ Fr n0 L ∧ Keep h0 h [] ∧ (Arv Z h r kr .byte N2 vs (.int (0 : Int32))) ∧ (Lq h0.size r) ∧ (StrChars.Road.CodA cs cd N2 vs)
theorem ef_cmpL (m : MethodId) (x0 : Addr) (x1 : Int32) (x2 : Int32) : entryFrame m #[(.ref x0), (.int x1), (.int x2)] 6 = mkF m 0 #[sR x0, sI x1, sI x2, sU, sU, sU] [] := by first | (simp [entryFrame, mkF, argsToLocals, Value.category]; done) | rfl
abbrev K43 (i : Nat) := decode jdk_52_method_16_code i
theorem d43_0 : K43 0 = .ok (.iload_n 2, 1) := by decide +kernel
theorem d43_1 : K43 1 = .ok (.newarray .byte, 2) := by decide +kernel
theorem d43_3 : K43 3 = .ok (.astore_n 3, 1) := by decide +kernel
theorem d43_4 : K43 4 = .ok (.aload_n 0, 1) := by decide +kernel
theorem d43_5 : K43 5 = .ok (.iload_n 1, 1) := by decide +kernel
theorem d43_6 : K43 6 = .ok (.aload_n 3, 1) := by decide +kernel
theorem d43_7 : K43 7 = .ok (.iconst 0, 1) := by decide +kernel
theorem d43_8 : K43 8 = .ok (.iload_n 2, 1) := by decide +kernel
theorem d43_9 : K43 9 = .ok (.invokestatic 115, 3) := by decide +kernel
theorem pd_3 : parseMethodDescriptor "([CI[BII)I" = some ⟨[(.array .char), .int, (.array .byte), .int, .int], some .int⟩ := by decide +kernel
theorem d43_12 : K43 12 = .ok (.istore 4, 2) := by decide +kernel
theorem d43_14 : K43 14 = .ok (.iload 4, 2) := by decide +kernel
theorem d43_16 : K43 16 = .ok (.iload_n 2, 1) := by decide +kernel
theorem d43_17 : K43 17 = .ok (.if_icmp .eq 40, 3) := by decide +kernel
theorem d43_57 : K43 57 = .ok (.aload_n 3, 1) := by decide +kernel
theorem d43_58 : K43 58 = .ok (.areturn, 1) := by decide +kernel
theorem d43_20 : K43 20 = .ok (.aload_n 0, 1) := by decide +kernel
theorem d43_21 : K43 21 = .ok (.iload_n 1, 1) := by decide +kernel
theorem d43_22 : K43 22 = .ok (.iload_n 2, 1) := by decide +kernel
theorem d43_23 : K43 23 = .ok (.invokestatic 119, 3) := by decide +kernel
theorem pd_4 : parseMethodDescriptor "([CII)[B" = some ⟨[(.array .char), .int, .int], some (.array .byte)⟩ := by decide +kernel
theorem d43_26 : K43 26 = .ok (.astore 5, 2) := by decide +kernel
theorem d43_28 : K43 28 = .ok (.aload 5, 2) := by decide +kernel
theorem d43_30 : K43 30 = .ok (.iload 4, 2) := by decide +kernel
theorem d43_32 : K43 32 = .ok (.invokestatic 71, 3) := by decide +kernel
theorem pd_5 : parseMethodDescriptor "([BI)C" = some ⟨[(.array .byte), .int], some .char⟩ := by decide +kernel
theorem d43_35 : K43 35 = .ok (.sipush 255, 3) := by decide +kernel
theorem d43_38 : K43 38 = .ok (.if_icmp .gt 16, 3) := by decide +kernel
theorem d43_54 : K43 54 = .ok (.aload 5, 2) := by decide +kernel
theorem d43_56 : K43 56 = .ok (.areturn, 1) := by decide +kernel
set_option maxRecDepth 65536 in
set_option maxHeartbeats 40000000 in
theorem cmpL (l : Launch) (Z : State) (a0 : Array Value) (hw : ∀ d ∈ tables_1, d.before a0 Z = true) (ws : List Jvm.Cond) (b : Addr) (ck : ClassId) (cs : List Int32) (h0 : Heap) (n0 : Nat) (Z0 : n0 ≤ h0.size) (q0 : OZ Z h0 n0) (q1 : SAd Z) (q2 : SHi Z) (q3 : SLo Z) (q4 : Arv Z h0 b ck .char (Int32.ofNat cs.length) (cs.map Value.int) (.int (0 : Int32))) (hbd : ∀ c ∈ cs, Wid c) (h1 : 0 < cs.length) (h4 : cs.length ≤ 2) :
  MetFree l y_6 (head1 (Jvm.Cond.code y_6 jdk_52_method_16_code 6 (some (.array .byte)) :: ws) r_m3) (fun a_ U_ => a_ = #[(.ref b), (.int (0 : Int32)), (.int (Int32.ofNat cs.length))] ∧ Z.Warmed39 U_.vm ∧ U_.heap = h0) (fun _ _ _ _ _ => True) (fun _ U_ o_ V_ => ∃ v_ L_, o_ = .returned v_ ∧ QcmpL Z b ck cs h0 n0 v_ V_.heap L_ ∧ FrameEnd U_ o_ V_ L_ r_m3.cells r_m3.slots) := by
 refine MetFree.of_bodySF (plainFor_of_name pn_0) hisR ?_
 intro p e s m args below meth c s₁ Bd aO hP hK
 obtain ⟨rfl, hZ, hh⟩ := hP
 have hx := Bd.exec
 have dc := @hb _ _ Bd.bytes
 have hml : c.maxLocals = 6 := aO
 have hown : s.vm.findClass "java/lang/StringUTF16" = some m.cls := findClass_of_methodNamed Bd.named
 have hnm := (name_of_methodNamed Bd.named Bd.method).1
 have X0 : Stand p l e r_m3 s m #[(.ref b), (.int (0 : Int32)), (.int (Int32.ofNat cs.length))] below meth c s₁ [] 0 0 := Stand.of_body Bd
 have e0 : s₁.heap = h0 := by rw [← hh, Bd.state]; rfl
 have N0 := Fr.nil n0
 have Oo := q0.1
 have zo := q0.2
 have a8 := own_alt q4.lt
 refine Gl.go (A := s₁.setTop (entryFrame m #[(.ref b), (.int (0 : Int32)), (.int (Int32.ofNat cs.length))] 6)) (P := fun o_ U_ => ∃ v_ L_, o_ = .returned v_ ∧ QcmpL Z b ck cs h0 n0 v_ U_.heap L_ ∧ FrameEnd s o_ U_ L_ r_m3.cells r_m3.slots) (fun t_ k_ => castTop (ef_cmpL m b (0 : Int32) (Int32.ofNat cs.length)) k_) ?_
 show Gl p.tables e below _ (s₁.setTop (mkF m 0 #[sR b, sI 0, sI (Int32.ofNat cs.length), sU, sU, sU] []))
 refine Gl.go (fun _ hr => ziloadN X0.here hx (dc d43_0) rfl hr) ?_
 refine gNewPE Gl.cl X0 hx hZ (tw hw 20 rfl) e0 rfl (dc d43_1) rfl (own_nn (by omega)) (cap := 2) (by rw [own_nat32 (by omega)]; omega) (by decide) (by decide) (by decide) (ad := "[B") (by decide) ?_
 intro a5 ak aa aq a7 ae aJ ag ar aX
 have bh : h0.size ≤ ak.size := ag.1
 have a9 := own_alt ar.lt
 have aH : Arv Z ak aa aq .byte (Int32.ofNat cs.length) [] (.int (0 : Int32)) := (Arv.new ar (own_nn (by omega))).pad (pad_rep [] (.int (0 : Int32)) 0)
 refine Gl.go (fun _ hr => zastoreN ae.here hx (dc d43_3) rfl rfl (l' := #[sR b, sI 0, sI (Int32.ofNat cs.length), sR aa, sU, sU]) rfl (zaloadN ae.here hx (dc d43_4) rfl rfl (ziloadN ae.here hx (dc d43_5) rfl (zaloadN ae.here hx (dc d43_6) rfl rfl (ziconst ae.here hx (dc d43_7) (ziloadN ae.here hx (dc d43_8) rfl hr)))))) ?_
 have aw := (q4.ext ag)
 have aU : n0 ≤ ak.size := by omega
 refine gStaticN Gl.cl (y := y_5) (argsL := [(.ref b), (.int (0 : Int32)), (.ref aa), (.int (0 : Int32)), (.int (Int32.ofNat cs.length))]) (rest := []) (mc := 0) (ms := 0) ae hx hZ hown (mvT hZ (tw hw 223 rfl)) (mvT hZ (tw hw 224 rfl)) (mvT hZ (tw hw 221 rfl)) (mvT hZ (tw hw 225 rfl)) (by decide) (backOf (W := 0) (cmqL l Z a0 hw [] b ck aa aq cs ak n0 aU aw aH (by omega) (by omega) (by assumption) (by assumption)) hZ (tw hw 225 rfl) (tw hw 221 rfl) (by decide) (by decide)) rfl (by rw [hml]; rfl) (lenOf pd_3 rfl) rfl (by exact Nat.le_of_eq rfl) (dc d43_9) rfl aJ (by decide) (by decide) ?_
 intro bc ac aY aL ab
 obtain ⟨af, bg, rfl, aC, ah, ax, aT⟩ := aL
 have bj : ak.size ≤ ac.heap.size := ah.1
 have au := Fr.app N0 aC
 have ba := own_alt ax.lt
 refine Gl.go (fun _ hr => zistore ab.here hx (dc d43_12) rfl (l' := #[sR b, sI 0, sI (Int32.ofNat cs.length), sR aa, sI (Int32.ofNat af), sU]) rfl hr) ?_
 show Gl p.tables e below _ (ac.setTop (mkF m 14 #[sR b, sI 0, sI (Int32.ofNat cs.length), sR aa, sI (Int32.ofNat af), sU] []))
 rcases aT with ⟨rfl, rfl, hl⟩ | ⟨hrl, ay⟩
 ·show Gl p.tables e below _ (ac.setTop (mkF m 14 #[sR b, sI 0, sI (Int32.ofNat cs.length), sR aa, sI (Int32.ofNat cs.length), sU] []))
  refine Gl.go (fun _ hr => ziload ab.here hx (dc d43_14) rfl (ziloadN ab.here hx (dc d43_16) rfl hr)) ?_
  refine Gl.go (fun _ hr => zicmpYes ab.here hx (pc0 := 17) (pc' := 57) rfl (dc d43_17) rfl (XT.ii_eq_t rfl) (by decide) (by decide) (zaloadN ab.here hx (dc d43_57) rfl rfl hr)) ?_
  obtain ⟨fs, hr, hrun, hended, hW, hsame⟩ := ab.leave (v := some (.ref aa)) (fun h => by rw [Bd.returns] at h; cases h)
  have aP : Lq h0.size aa := by omega
  refine ⟨_, _, retOut ab hx Bd.returns rfl (Or.inr (Or.inr (Or.inr (Or.inr ⟨rfl, rfl, rfl⟩)))) (dc d43_58) hr, hrun, hended, _, _, rfl, ?_, ⟨⟨_, rfl⟩, hW, hsame.mono (by decide) (by decide)⟩⟩
  show QcmpL Z b ck cs h0 n0 _ ac.heap _
  exact ⟨aa, aq, 0, (Int32.ofNat cs.length), (cs.map fun c => Value.int (StrChars.lo8 c)), rfl, au, (((Keep.refl h0 []).ext ag).trans ah (allS (P := fun x_ => x_ ∈ ([] : List Addr) ∨ h0.size ≤ x_) (Or.inr (own_ale aP)) all0)), ax, (by omega), (Or.inl ⟨rfl, rfl, rfl, hl⟩)⟩
 ·show Gl p.tables e below _ (ac.setTop (mkF m 14 #[sR b, sI 0, sI (Int32.ofNat cs.length), sR aa, sI (Int32.ofNat af), sU] []))
  refine Gl.go (fun _ hr => ziload ab.here hx (dc d43_14) rfl (ziloadN ab.here hx (dc d43_16) rfl hr)) ?_
  refine Gl.go (fun _ hr => zicmpNo ab.here hx (dc d43_17) rfl (XT.ii_eq_f (own_ne32 (b := cs.length) (by omega) (by omega) (by omega))) (zaloadN ab.here hx (dc d43_20) rfl rfl (ziloadN ab.here hx (dc d43_21) rfl (ziloadN ab.here hx (dc d43_22) rfl hr)))) ?_
  have aQ : Lq Z.heap.size aa := by omega
  have av := ((Oo.ext ag).keep ah (allS (own_ale aQ) all0))
  have aR : Nq b aa := by omega
  have aI := (aw.keep ah (ninS (own_ane aR) nin0))
  have aV : n0 ≤ ac.heap.size := by omega
  refine gStaticN Gl.cl (y := y_4) (argsL := [(.ref b), (.int (0 : Int32)), (.int (Int32.ofNat cs.length))]) (rest := []) (mc := 1) (ms := 4) ab hx hZ hown (mvT hZ (tw hw 229 rfl)) (mvT hZ (tw hw 230 rfl)) (mvT hZ (tw hw 221 rfl)) (mvT hZ (tw hw 231 rfl)) (by decide) (backOf (W := 0) (tobL l Z a0 hw [] b ck cs ac.heap n0 aV ⟨av, (by omega)⟩ q1 q2 q3 aI (by assumption) (by assumption)) hZ (tw hw 231 rfl) (tw hw 221 rfl) (by decide) (by decide)) rfl (by rw [hml]; rfl) (lenOf pd_4 rfl) rfl (by exact Nat.le_of_eq rfl) (dc d43_23) rfl (rfl : ac.heap = ac.heap) (by decide) (by decide) ?_
  intro be ai aZ aM am
  obtain ⟨al, az, rfl, aD, ao, ap, a6⟩ := aM
  have bl : ac.heap.size ≤ ai.heap.size := ao.1
  have aA := Fr.app au aD
  have bb := own_alt ap.lt
  refine Gl.go (fun _ hr => zastore am.here hx (dc d43_26) rfl rfl (l' := #[sR b, sI 0, sI (Int32.ofNat cs.length), sR aa, sI (Int32.ofNat af), sR al]) rfl (zaload am.here hx (dc d43_28) rfl rfl (ziload am.here hx (dc d43_30) rfl hr))) ?_
  have aF := (av.keep ao all0)
  have aW : n0 ≤ ai.heap.size := by omega
  refine gStaticN Gl.cl (y := y_1) (argsL := [(.ref al), (.int (Int32.ofNat af))]) (rest := []) (mc := 0) (ms := 0) am hx hZ hown (mvT hZ (tw hw 245 rfl)) (mvT hZ (tw hw 246 rfl)) (mvT hZ (tw hw 221 rfl)) (mvT hZ (tw hw 247 rfl)) (by decide) (backOf (W := 0) (gtc l Z a0 hw [] al az cs af ai.heap n0 aW ⟨aF, (by omega)⟩ q1 q2 q3 ap hrl (by omega) hbd) hZ (tw hw 247 rfl) (tw hw 221 rfl) (by decide) (by decide)) rfl (by rw [hml]; rfl) (lenOf pd_5 rfl) rfl (by exact Nat.le_of_eq rfl) (dc d43_32) rfl (rfl : ai.heap = ai.heap) (by decide) (by decide) ?_
  intro bf aG a3 aN aj
  obtain ⟨rfl, aE, aK⟩ := aN
  have aB := Fr.app aA aE
  refine Gl.go (fun _ hr => zsipush aj.here hx (dc d43_35) hr) ?_
  refine Gl.go (fun _ hr => zicmpYes aj.here hx (pc0 := 38) (pc' := 54) rfl (dc d43_38) rfl (XT.ii_gt_t ay) (by decide) (by decide) (zaload aj.here hx (dc d43_54) rfl rfl hr)) ?_
  obtain ⟨fs, hr, hrun, hended, hW, hsame⟩ := aj.leave (v := some (.ref al)) (fun h => by rw [Bd.returns] at h; cases h)
  have aS : Lq h0.size aa := by omega
  refine ⟨_, _, retOut aj hx Bd.returns rfl (Or.inr (Or.inr (Or.inr (Or.inr ⟨rfl, rfl, rfl⟩)))) (dc d43_56) hr, hrun, hended, _, _, rfl, ?_, ⟨⟨_, rfl⟩, hW, hsame.mono (by decide) (by decide)⟩⟩
  show QcmpL Z b ck cs h0 n0 _ aG.heap _
  rw [aK]
  exact ⟨al, az, 1, (Int32.ofNat (2 * cs.length)), (StrChars.Road.wideBytes cs), rfl, aB, ((((Keep.refl h0 []).ext ag).trans ah (allS (P := fun x_ => x_ ∈ ([] : List Addr) ∨ h0.size ≤ x_) (Or.inr (own_ale aS)) all0)).trans ao all0), ap, (by omega), (Or.inr ⟨rfl, rfl, rfl, _, own_getD_mem hrl, ay⟩)⟩
def Qcfl0 (Z : State) (a : Addr) (ka : ClassId) (vs : List Value) (n : Nat) (h0 : Heap) (n0 : Nat) (v : Option Value) (h : Heap) (L : List Loc) : Prop := v = some (.int (0 : Int32)) ∧ Fr n0 L ∧ h = h0
theorem ef_cfl0 (m : MethodId) (x0 : Addr) (x1 : Int32) : entryFrame m #[(.ref x0), (.int x1)] 2 = mkF m 0 #[sR x0, sI x1] [] := by first | (simp [entryFrame, mkF, argsToLocals, Value.category]; done) | rfl
abbrev K45 (i : Nat) := decode jdk_52_method_15_code i
theorem d45_0 : K45 0 = .ok (.iload_n 1, 1) := by decide +kernel
theorem d45_1 : K45 1 = .ok (.aload_n 0, 1) := by decide +kernel
theorem d45_2 : K45 2 = .ok (.arraylength, 1) := by decide +kernel
theorem d45_3 : K45 3 = .ok (.isub, 1) := by decide +kernel
theorem d45_4 : K45 4 = .ok (.bipush 31, 2) := by decide +kernel
theorem d45_6 : K45 6 = .ok (.iushr, 1) := by decide +kernel
theorem d45_7 : K45 7 = .ok (.i2b, 1) := by decide +kernel
theorem d45_8 : K45 8 = .ok (.ireturn, 1) := by decide +kernel
set_option maxRecDepth 65536 in
set_option maxHeartbeats 40000000 in
theorem cfl0 (l : Launch) (Z : State) (a0 : Array Value) (hw : ∀ d ∈ tables_1, d.before a0 Z = true) (ws : List Jvm.Cond) (a : Addr) (ka : ClassId) (vs : List Value) (n : Nat) (h0 : Heap) (n0 : Nat) (Z0 : n0 ≤ h0.size) (q0 : Arv Z h0 a ka .byte (Int32.ofNat n) vs (.int (0 : Int32))) (h1 : 0 < n) (h4 : n ≤ 4) :
  MetFree l y_7 (head1 (Jvm.Cond.code y_7 jdk_52_method_15_code 2 (some .byte) :: ws) r_m0) (fun a_ U_ => a_ = #[(.ref a), (.int (Int32.ofNat n))] ∧ Z.Warmed39 U_.vm ∧ U_.heap = h0) (fun _ _ _ _ _ => True) (fun _ U_ o_ V_ => ∃ v_ L_, o_ = .returned v_ ∧ Qcfl0 Z a ka vs n h0 n0 v_ V_.heap L_ ∧ FrameEnd U_ o_ V_ L_ r_m0.cells r_m0.slots) := by
 refine MetFree.of_bodySF (plainFor_of_name pn_0) hisR ?_
 intro p e s m args below meth c s₁ Bd ab hP hK
 obtain ⟨rfl, hZ, hh⟩ := hP
 have hx := Bd.exec
 have dc := @hb _ _ Bd.bytes
 have hml : c.maxLocals = 2 := ab
 have hown : s.vm.findClass "java/lang/StringUTF16" = some m.cls := findClass_of_methodNamed Bd.named
 have hnm := (name_of_methodNamed Bd.named Bd.method).1
 have X0 : Stand p l e r_m0 s m #[(.ref a), (.int (Int32.ofNat n))] below meth c s₁ [] 0 0 := Stand.of_body Bd
 have e0 : s₁.heap = h0 := by rw [← hh, Bd.state]; rfl
 have N0 := Fr.nil n0
 have ai := own_alt q0.lt
 refine Gl.go (A := s₁.setTop (entryFrame m #[(.ref a), (.int (Int32.ofNat n))] 2)) (P := fun o_ U_ => ∃ v_ L_, o_ = .returned v_ ∧ Qcfl0 Z a ka vs n h0 n0 v_ U_.heap L_ ∧ FrameEnd s o_ U_ L_ r_m0.cells r_m0.slots) (fun t_ k_ => castTop (ef_cfl0 m a (Int32.ofNat n)) k_) ?_
 show Gl p.tables e below _ (s₁.setTop (mkF m 0 #[sR a, sI (Int32.ofNat n)] []))
 refine Gl.go (fun _ hr => ziloadN X0.here hx (dc d45_0) rfl (zaloadN X0.here hx (dc d45_1) rfl rfl hr)) ?_
 obtain ⟨ah, aa, aj, ae, ac, af, ag⟩ := id q0
 refine gLen Gl.cl X0 hx hZ e0 aa ae ac rfl rfl (dc d45_2) ?_
 refine Gl.go (fun _ hr => zisub X0.here hx (dc d45_3) rfl (zbipush X0.here hx (dc d45_4) (ziushr X0.here hx (dc d45_6) rfl (zi2b X0.here hx (dc d45_7) rfl hr)))) ?_
 obtain ⟨fs, hr, hrun, hended, hW, hsame⟩ := X0.leave (v := some (.int (nar .byte ((XT.ushr ((Int32.ofNat n) - (Int32.ofNat n)) (31 : Int32)).toInt8.toInt32)))) (fun h => by rw [Bd.returns] at h; cases h)
 refine ⟨_, _, retN X0 hx (t := .byte) Bd.returns (by simp) (dc d45_8) hr, hrun, hended, _, _, rfl, ?_, ⟨⟨_, rfl⟩, hW, hsame.mono (by decide) (by decide)⟩⟩
 show Qcfl0 Z a ka vs n h0 n0 _ s₁.heap _
 rw [e0]
 exact ⟨(own_some (own_cfl0 h4)), N0, rfl⟩
def Qcfl1 (Z : State) (a : Addr) (ka : ClassId) (vs : List Value) (n : Nat) (h0 : Heap) (n0 : Nat) (v : Option Value) (h : Heap) (L : List Loc) : Prop := v = some (.int (1 : Int32)) ∧ Fr n0 L ∧ h = h0
theorem ef_cfl1 (m : MethodId) (x0 : Addr) (x1 : Int32) : entryFrame m #[(.ref x0), (.int x1)] 2 = mkF m 0 #[sR x0, sI x1] [] := by first | (simp [entryFrame, mkF, argsToLocals, Value.category]; done) | rfl
set_option maxRecDepth 65536 in
set_option maxHeartbeats 40000000 in
theorem cfl1 (l : Launch) (Z : State) (a0 : Array Value) (hw : ∀ d ∈ tables_1, d.before a0 Z = true) (ws : List Jvm.Cond) (a : Addr) (ka : ClassId) (vs : List Value) (n : Nat) (h0 : Heap) (n0 : Nat) (Z0 : n0 ≤ h0.size) (q0 : Arv Z h0 a ka .byte (Int32.ofNat (2 * n)) vs (.int (0 : Int32))) (h1 : 0 < n) (h4 : n ≤ 4) :
  MetFree l y_7 (head1 (Jvm.Cond.code y_7 jdk_52_method_15_code 2 (some .byte) :: ws) r_m0) (fun a_ U_ => a_ = #[(.ref a), (.int (Int32.ofNat n))] ∧ Z.Warmed39 U_.vm ∧ U_.heap = h0) (fun _ _ _ _ _ => True) (fun _ U_ o_ V_ => ∃ v_ L_, o_ = .returned v_ ∧ Qcfl1 Z a ka vs n h0 n0 v_ V_.heap L_ ∧ FrameEnd U_ o_ V_ L_ r_m0.cells r_m0.slots) := by
 refine MetFree.of_bodySF (plainFor_of_name pn_0) hisR ?_
 intro p e s m args below meth c s₁ Bd ab hP hK
 obtain ⟨rfl, hZ, hh⟩ := hP
 have hx := Bd.exec
 have dc := @hb _ _ Bd.bytes
 have hml : c.maxLocals = 2 := ab
 have hown : s.vm.findClass "java/lang/StringUTF16" = some m.cls := findClass_of_methodNamed Bd.named
 have hnm := (name_of_methodNamed Bd.named Bd.method).1
 have X0 : Stand p l e r_m0 s m #[(.ref a), (.int (Int32.ofNat n))] below meth c s₁ [] 0 0 := Stand.of_body Bd
 have e0 : s₁.heap = h0 := by rw [← hh, Bd.state]; rfl
 have N0 := Fr.nil n0
 have ai := own_alt q0.lt
 refine Gl.go (A := s₁.setTop (entryFrame m #[(.ref a), (.int (Int32.ofNat n))] 2)) (P := fun o_ U_ => ∃ v_ L_, o_ = .returned v_ ∧ Qcfl1 Z a ka vs n h0 n0 v_ U_.heap L_ ∧ FrameEnd s o_ U_ L_ r_m0.cells r_m0.slots) (fun t_ k_ => castTop (ef_cfl1 m a (Int32.ofNat n)) k_) ?_
 show Gl p.tables e below _ (s₁.setTop (mkF m 0 #[sR a, sI (Int32.ofNat n)] []))
 refine Gl.go (fun _ hr => ziloadN X0.here hx (dc d45_0) rfl (zaloadN X0.here hx (dc d45_1) rfl rfl hr)) ?_
 obtain ⟨ah, aa, aj, ae, ac, af, ag⟩ := id q0
 refine gLen Gl.cl X0 hx hZ e0 aa ae ac rfl rfl (dc d45_2) ?_
 refine Gl.go (fun _ hr => zisub X0.here hx (dc d45_3) rfl (zbipush X0.here hx (dc d45_4) (ziushr X0.here hx (dc d45_6) rfl (zi2b X0.here hx (dc d45_7) rfl hr)))) ?_
 obtain ⟨fs, hr, hrun, hended, hW, hsame⟩ := X0.leave (v := some (.int (nar .byte ((XT.ushr ((Int32.ofNat n) - (Int32.ofNat (2 * n))) (31 : Int32)).toInt8.toInt32)))) (fun h => by rw [Bd.returns] at h; cases h)
 refine ⟨_, _, retN X0 hx (t := .byte) Bd.returns (by simp) (dc d45_8) hr, hrun, hended, _, _, rfl, ?_, ⟨⟨_, rfl⟩, hW, hsame.mono (by decide) (by decide)⟩⟩
 show Qcfl1 Z a ka vs n h0 n0 _ s₁.heap _
 rw [e0]
 exact ⟨(own_some (own_cfl1 h1 h4)), N0, rfl⟩
def QinwL (Z : State) (x : Addr) (b : Addr) (ck : ClassId) (cs : List Int32) (G1 : Int32) (h0 : Heap) (n0 : Nat) (v : Option Value) (h : Heap) (L : List Loc) : Prop := ∃ (t : Addr), ∃ (kb : ClassId), ∃ (cd : Int32), ∃ (N2 : Int32), ∃ (vs : List Value), v = none ∧ Fr n0 L ∧ Keep h0 h [x] ∧ (XSt Z h x) ∧ (FSv Z h x (.ref t)) ∧ (FSc Z h x (.int cd)) ∧ (Arv Z h t kb .byte N2 vs (.int 0)) ∧ (Lq h0.size t) ∧ (StrChars.Road.CodA cs cd N2 vs)
theorem pn_1 : plainName "java/lang/String" = true := by first | (simp [plainName, overriddenIn]; done) | decide +kernel
theorem ef_inwL (m : MethodId) (x0 : Addr) (x1 : Addr) (x2 : Int32) (x3 : Int32) : entryFrame m #[(.ref x0), (.ref x1), (.int x2), (.int x3), .null] 6 = mkF m 0 #[sR x0, sR x1, sI x2, sI x3, .val .null, sU] [] := by first | (simp [entryFrame, mkF, argsToLocals, Value.category]; done) | rfl
abbrev K3 (i : Nat) := decode jdk_42_method_149_code i
theorem d3_0 : K3 0 = .ok (.aload_n 0, 1) := by decide +kernel
theorem d3_1 : K3 1 = .ok (.invokespecial 1, 3) := by decide +kernel
theorem d3_4 : K3 4 = .ok (.iload_n 3, 1) := by decide +kernel
theorem d3_5 : K3 5 = .ok (.ifCond .ne 22, 3) := by decide +kernel
theorem d3_27 : K3 27 = .ok (.getstatic 38, 3) := by decide +kernel
theorem d3_30 : K3 30 = .ok (.ifCond .eq 28, 3) := by decide +kernel
theorem d3_33 : K3 33 = .ok (.aload_n 1, 1) := by decide +kernel
theorem d3_34 : K3 34 = .ok (.iload_n 2, 1) := by decide +kernel
theorem d3_35 : K3 35 = .ok (.iload_n 3, 1) := by decide +kernel
theorem d3_36 : K3 36 = .ok (.invokestatic 177, 3) := by decide +kernel
theorem d3_39 : K3 39 = .ok (.astore 5, 2) := by decide +kernel
theorem d3_41 : K3 41 = .ok (.aload_n 0, 1) := by decide +kernel
theorem d3_42 : K3 42 = .ok (.aload 5, 2) := by decide +kernel
theorem d3_44 : K3 44 = .ok (.iload_n 3, 1) := by decide +kernel
theorem d3_45 : K3 45 = .ok (.invokestatic 47, 3) := by decide +kernel
theorem pd_6 : parseMethodDescriptor "([BI)B" = some ⟨[(.array .byte), .int], some .byte⟩ := by decide +kernel
theorem d3_48 : K3 48 = .ok (.putfield 15, 3) := by decide +kernel
theorem d3_51 : K3 51 = .ok (.aload_n 0, 1) := by decide +kernel
theorem d3_52 : K3 52 = .ok (.aload 5, 2) := by decide +kernel
theorem d3_54 : K3 54 = .ok (.putfield 9, 3) := by decide +kernel
theorem d3_57 : K3 57 = .ok (.return_, 1) := by decide +kernel
set_option maxRecDepth 65536 in
set_option maxHeartbeats 40000000 in
theorem inwL (l : Launch) (Z : State) (a0 : Array Value) (hw : ∀ d ∈ tables_1, d.before a0 Z = true) (ws : List Jvm.Cond) (x : Addr) (b : Addr) (ck : ClassId) (cs : List Int32) (G1 : Int32) (h0 : Heap) (n0 : Nat) (Z0 : n0 ≤ h0.size) (q0 : SCs Z G1) (P5 : ¬ (G1 = (0 : Int32))) (q2 : OZ Z h0 n0) (q3 : SAd Z) (q4 : SHi Z) (q5 : SLo Z) (q6 : Lq n0 x) (q7 : XSt Z h0 x) (q8 : FSv Z h0 x .null) (q9 : FSc Z h0 x (.int (0 : Int32))) (q10 : Arv Z h0 b ck .char (Int32.ofNat cs.length) (cs.map Value.int) (.int (0 : Int32))) (hbd : ∀ c ∈ cs, Wid c) (h1 : 0 < cs.length) (h4 : cs.length ≤ 2) :
  MetFree l y_8 (head1 (Jvm.Cond.code y_8 jdk_42_method_149_code 6 none :: ws) r_m4) (fun a_ U_ => a_ = #[(.ref x), (.ref b), (.int (0 : Int32)), (.int (Int32.ofNat cs.length)), .null] ∧ Z.Warmed39 U_.vm ∧ U_.heap = h0) (fun _ _ _ _ _ => True) (fun _ U_ o_ V_ => ∃ v_ L_, o_ = .returned v_ ∧ QinwL Z x b ck cs G1 h0 n0 v_ V_.heap L_ ∧ FrameEnd U_ o_ V_ L_ r_m4.cells r_m4.slots) := by
 refine MetFree.of_bodySF (plainFor_of_name pn_1) hisR ?_
 intro p e s m args below meth c s₁ Bd bq hP hK
 obtain ⟨rfl, hZ, hh⟩ := hP
 have hx := Bd.exec
 have dc := @hb _ _ Bd.bytes
 have hml : c.maxLocals = 6 := bq
 have hown : s.vm.findClass "java/lang/String" = some m.cls := findClass_of_methodNamed Bd.named
 have hnm := (name_of_methodNamed Bd.named Bd.method).1
 have X0 : Stand p l e r_m4 s m #[(.ref x), (.ref b), (.int (0 : Int32)), (.int (Int32.ofNat cs.length)), .null] below meth c s₁ [] 0 0 := Stand.of_body Bd
 have e0 : s₁.heap = h0 := by rw [← hh, Bd.state]; rfl
 have N0 := Fr.nil n0
 have Oo := q2.1
 have zo := q2.2
 have bL := own_alt q7.lt
 have bM := own_alt q8.lt
 have bN := own_alt q9.lt
 have bO := own_alt q10.lt
 refine Gl.go (A := s₁.setTop (entryFrame m #[(.ref x), (.ref b), (.int (0 : Int32)), (.int (Int32.ofNat cs.length)), .null] 6)) (P := fun o_ U_ => ∃ v_ L_, o_ = .returned v_ ∧ QinwL Z x b ck cs G1 h0 n0 v_ U_.heap L_ ∧ FrameEnd s o_ U_ L_ r_m4.cells r_m4.slots) (fun t_ k_ => castTop (ef_inwL m x b (0 : Int32) (Int32.ofNat cs.length)) k_) ?_
 show Gl p.tables e below _ (s₁.setTop (mkF m 0 #[sR x, sR b, sI 0, sI (Int32.ofNat cs.length), .val .null, sU] []))
 refine Gl.go (fun _ hr => zaloadN X0.here hx (dc d3_0) rfl rfl hr) ?_
 refine gInit Gl.cl (W := 0) X0 hx hZ hown (tw hw 16 rfl) (tw hw 17 rfl) (tw hw 18 rfl) e0 rfl (by rw [hml]; rfl) rfl (dc d3_1) (by decide) (by exact Nat.le_of_eq rfl) (by decide) ?_
 intro bC ap ba
 refine Gl.go (fun _ hr => ziloadN ap.here hx (dc d3_4) rfl hr) ?_
 refine Gl.go (fun _ hr => zifYes ap.here hx (pc0 := 5) (pc' := 27) rfl (dc d3_5) rfl (XT.i0_ne_t (own_ne32 (b := 0) (by omega) (by decide) (by omega))) (by decide) (by decide) hr) ?_
 refine gGetS (host := "") Gl.cl ap hx hZ hown (Or.inl (tw hw 57 rfl)) Via.refl ba (q0.ext Oo.2) rfl (dc d3_27) ?_
 intro bD aj bb
 refine Gl.go (fun _ hr => zifNo aj.here hx (dc d3_30) rfl (XT.i0_eq_f P5) (zaloadN aj.here hx (dc d3_33) rfl rfl (ziloadN aj.here hx (dc d3_34) rfl (ziloadN aj.here hx (dc d3_35) rfl hr)))) ?_
 have bs : n0 ≤ h0.size := by omega
 refine gStaticN Gl.cl (y := y_6) (argsL := [(.ref b), (.int (0 : Int32)), (.int (Int32.ofNat cs.length))]) (rest := []) (mc := 2) (ms := 6) aj hx hZ hown (mvT hZ (tw hw 219 rfl)) (mvT hZ (tw hw 220 rfl)) (mvT hZ (tw hw 221 rfl)) (mvT hZ (tw hw 222 rfl)) (by decide) (backOf (W := 0) (cmpL l Z a0 hw [] b ck cs h0 n0 bs ⟨Oo, (by omega)⟩ q3 q4 q5 q10 (by assumption) (by assumption) (by assumption)) hZ (tw hw 222 rfl) (tw hw 221 rfl) (by decide) (by decide)) rfl (by rw [hml]; rfl) (lenOf pd_4 rfl) rfl (by exact Nat.le_of_eq rfl) (dc d3_36) rfl bb (by decide) (by decide) ?_
 intro bP aa bv bn ae
 obtain ⟨ab, ao, bI, bB, bS, rfl, aX, ac, ak, bJ, br⟩ := bn
 have bT : h0.size ≤ aa.heap.size := ac.1
 have aC := Fr.app N0 aX
 have bK := own_alt ak.lt
 refine Gl.go (fun _ hr => zastore ae.here hx (dc d3_39) rfl rfl (l' := #[sR x, sR b, sI 0, sI (Int32.ofNat cs.length), .val .null, sR ab]) rfl hr) ?_
 show Gl p.tables e below _ (aa.setTop (mkF m 41 #[sR x, sR b, sI 0, sI (Int32.ofNat cs.length), .val .null, sR ab] []))
 rcases br with ⟨rfl, rfl, rfl, hl⟩ | ⟨rfl, rfl, rfl, hl⟩
 ·show Gl p.tables e below _ (aa.setTop (mkF m 41 #[sR x, sR b, sI 0, sI (Int32.ofNat cs.length), .val .null, sR ab] []))
  refine Gl.go (fun _ hr => zaloadN ae.here hx (dc d3_41) rfl rfl (zaload ae.here hx (dc d3_42) rfl rfl (ziloadN ae.here hx (dc d3_44) rfl hr))) ?_
  have bt : n0 ≤ aa.heap.size := by omega
  refine gStaticN Gl.cl (y := y_7) (argsL := [(.ref ab), (.int (Int32.ofNat cs.length))]) (rest := [(.ref x)]) (mc := 0) (ms := 0) ae hx hZ hown (mvT hZ (tw hw 226 rfl)) (mvT hZ (tw hw 227 rfl)) (mvT hZ (tw hw 221 rfl)) (mvT hZ (tw hw 228 rfl)) (by decide) (backOf (W := 1) (cfl0 l Z a0 hw [] ab ao (cs.map fun c => Value.int (StrChars.lo8 c)) cs.length aa.heap n0 bt ak h1 (by omega)) hZ (tw hw 228 rfl) (tw hw 221 rfl) (by decide) (by decide)) rfl (by rw [hml]; rfl) (lenOf pd_6 rfl) rfl (by exact Nat.le_of_eq rfl) (dc d3_45) rfl (rfl : aa.heap = aa.heap) (by decide) (by decide) ?_
  intro bQ bE bz bo a8
  obtain ⟨rfl, aY, bc⟩ := bo
  have aR := Fr.app aC aY
  have ay := (q9.keep ac nin0)
  have au := (q7.keep ac)
  refine gPutF (host := "") Gl.cl a8 hx hZ hown (Or.inl (tw hw 26 rfl)) Via.refl bc ay au (Or.inr ⟨(tw hw 22 rfl), rfl, hnm⟩) (tw hw 6 rfl) (ty := .byte) (by decide) rfl rfl rfl rfl (dc d3_48) ?_
  intro bF aD al be af
  have bU : aa.heap.size ≤ aD.size := (Keep.of_wr af).1
  have aN := ay.same af
  have aF : Lq n0 x := by omega
  have aS := Fr.snoc al aR (own_ale aF)
  refine Gl.go (fun _ hr => zaloadN al.here hx (dc d3_51) rfl rfl (zaload al.here hx (dc d3_52) rfl rfl hr)) ?_
  have az := ((q8.keep ac nin0).other af (Or.inr (slot_ne (Or.inr (tw hw 21 rfl)) (Or.inr (tw hw 22 rfl)) (by decide) (t := (.array .byte)) (t' := .byte) (by decide) (by decide))))
  have av := (au.wr af)
  refine gPutF (host := "") Gl.cl al hx hZ hown (Or.inl (tw hw 25 rfl)) Via.refl be az av (Or.inr ⟨(tw hw 21 rfl), rfl, hnm⟩) (tw hw 6 rfl) (ty := (.array .byte)) (by decide) rfl rfl rfl rfl (dc d3_54) ?_
  intro a3 bl aq bf ag
  have bV : aD.size ≤ bl.size := (Keep.of_wr ag).1
  have aO := az.same ag
  have aT := Fr.snoc aq aS (own_ale aF)
  have aJ := (av.wr ag)
  have aL := (aN.other ag (Or.inr (slot_ne (Or.inr (tw hw 22 rfl)) (Or.inr (tw hw 21 rfl)) (by decide) (t := .byte) (t' := (.array .byte)) (by decide) (by decide))))
  have aG : Nq ab x := by omega
  have a6 := ((ak.other af (own_ane aG)).other ag (own_ane aG))
  obtain ⟨fs, hr, hrun, hended, hW, hsame⟩ := aq.leave (v := none) (fun _ => rfl)
  refine ⟨_, _, aq.returnOut hx Bd.returns (dc d3_57) hr, hrun, hended, _, _, rfl, ?_, ⟨⟨_, rfl⟩, hW, hsame.mono (by decide) (by decide)⟩⟩
  show QinwL Z x b ck cs G1 h0 n0 _ a3.heap _
  rw [bf]
  exact ⟨ab, ao, 0, (Int32.ofNat cs.length), (cs.map fun c => Value.int (StrChars.lo8 c)), rfl, aT, ((((Keep.refl h0 [x]).trans ac all0).wr af (Or.inl (by simp))).wr ag (Or.inl (by simp))), aJ, aO, aL, a6, (by omega), (Or.inl ⟨rfl, rfl, rfl, hl⟩)⟩
 ·show Gl p.tables e below _ (aa.setTop (mkF m 41 #[sR x, sR b, sI 0, sI (Int32.ofNat cs.length), .val .null, sR ab] []))
  refine Gl.go (fun _ hr => zaloadN ae.here hx (dc d3_41) rfl rfl (zaload ae.here hx (dc d3_42) rfl rfl (ziloadN ae.here hx (dc d3_44) rfl hr))) ?_
  have bu : n0 ≤ aa.heap.size := by omega
  refine gStaticN Gl.cl (y := y_7) (argsL := [(.ref ab), (.int (Int32.ofNat cs.length))]) (rest := [(.ref x)]) (mc := 0) (ms := 0) ae hx hZ hown (mvT hZ (tw hw 226 rfl)) (mvT hZ (tw hw 227 rfl)) (mvT hZ (tw hw 221 rfl)) (mvT hZ (tw hw 228 rfl)) (by decide) (backOf (W := 1) (cfl1 l Z a0 hw [] ab ao (StrChars.Road.wideBytes cs) cs.length aa.heap n0 bu ak h1 (by omega)) hZ (tw hw 228 rfl) (tw hw 221 rfl) (by decide) (by decide)) rfl (by rw [hml]; rfl) (lenOf pd_6 rfl) rfl (by exact Nat.le_of_eq rfl) (dc d3_45) rfl (rfl : aa.heap = aa.heap) (by decide) (by decide) ?_
  intro bR bG bA bp a9
  obtain ⟨rfl, aZ, bg⟩ := bp
  have aU := Fr.app aC aZ
  have aA := (q9.keep ac nin0)
  have aw := (q7.keep ac)
  refine gPutF (host := "") Gl.cl a9 hx hZ hown (Or.inl (tw hw 26 rfl)) Via.refl bg aA aw (Or.inr ⟨(tw hw 22 rfl), rfl, hnm⟩) (tw hw 6 rfl) (ty := .byte) (by decide) rfl rfl rfl rfl (dc d3_48) ?_
  intro bH aE am bh ah
  have bW : aa.heap.size ≤ aE.size := (Keep.of_wr ah).1
  have aP := aA.same ah
  have aH : Lq n0 x := by omega
  have aV := Fr.snoc am aU (own_ale aH)
  refine Gl.go (fun _ hr => zaloadN am.here hx (dc d3_51) rfl rfl (zaload am.here hx (dc d3_52) rfl rfl hr)) ?_
  have aB := ((q8.keep ac nin0).other ah (Or.inr (slot_ne (Or.inr (tw hw 21 rfl)) (Or.inr (tw hw 22 rfl)) (by decide) (t := (.array .byte)) (t' := .byte) (by decide) (by decide))))
  have ax := (aw.wr ah)
  refine gPutF (host := "") Gl.cl am hx hZ hown (Or.inl (tw hw 25 rfl)) Via.refl bh aB ax (Or.inr ⟨(tw hw 21 rfl), rfl, hnm⟩) (tw hw 6 rfl) (ty := (.array .byte)) (by decide) rfl rfl rfl rfl (dc d3_54) ?_
  intro a5 bm ar bj ai
  have bX : aE.size ≤ bm.size := (Keep.of_wr ai).1
  have aQ := aB.same ai
  have aW := Fr.snoc ar aV (own_ale aH)
  have aK := (ax.wr ai)
  have aM := (aP.other ai (Or.inr (slot_ne (Or.inr (tw hw 22 rfl)) (Or.inr (tw hw 21 rfl)) (by decide) (t := .byte) (t' := (.array .byte)) (by decide) (by decide))))
  have aI : Nq ab x := by omega
  have a7 := ((ak.other ah (own_ane aI)).other ai (own_ane aI))
  obtain ⟨fs, hr, hrun, hended, hW, hsame⟩ := ar.leave (v := none) (fun _ => rfl)
  refine ⟨_, _, ar.returnOut hx Bd.returns (dc d3_57) hr, hrun, hended, _, _, rfl, ?_, ⟨⟨_, rfl⟩, hW, hsame.mono (by decide) (by decide)⟩⟩
  show QinwL Z x b ck cs G1 h0 n0 _ a5.heap _
  rw [bj]
  exact ⟨ab, ao, 1, (Int32.ofNat (2 * cs.length)), (StrChars.Road.wideBytes cs), rfl, aW, ((((Keep.refl h0 [x]).trans ac all0).wr ah (Or.inl (by simp))).wr ai (Or.inl (by simp))), aK, aQ, aM, a7, (by omega), (Or.inr ⟨rfl, rfl, rfl, hl⟩)⟩
def QinvL (Z : State) (x : Addr) (b : Addr) (ck : ClassId) (cs : List Int32) (G1 : Int32) (h0 : Heap) (n0 : Nat) (v : Option Value) (h : Heap) (L : List Loc) : Prop := ∃ (t : Addr), ∃ (kb : ClassId), ∃ (cd : Int32), ∃ (N2 : Int32), ∃ (vs : List Value), v = none ∧ Fr n0 L ∧ Keep h0 h [x] ∧ (XSt Z h x) ∧ (FSv Z h x (.ref t)) ∧ (FSc Z h x (.int cd)) ∧ (Arv Z h t kb .byte N2 vs (.int 0)) ∧ (Lq h0.size t) ∧ (StrChars.Road.CodA cs cd N2 vs)
theorem ef_invL (m : MethodId) (x0 : Addr) (x1 : Addr) : entryFrame m #[(.ref x0), (.ref x1)] 2 = mkF m 0 #[sR x0, sR x1] [] := by first | (simp [entryFrame, mkF, argsToLocals, Value.category]; done) | rfl
abbrev K2 (i : Nat) := decode jdk_42_method_3_code i
theorem d2_0 : K2 0 = .ok (.aload_n 0, 1) := by decide +kernel
theorem d2_1 : K2 1 = .ok (.aload_n 1, 1) := by decide +kernel
theorem d2_2 : K2 2 = .ok (.iconst 0, 1) := by decide +kernel
theorem d2_3 : K2 3 = .ok (.aload_n 1, 1) := by decide +kernel
theorem d2_4 : K2 4 = .ok (.arraylength, 1) := by decide +kernel
theorem d2_5 : K2 5 = .ok (.aconst_null, 1) := by decide +kernel
theorem d2_6 : K2 6 = .ok (.invokespecial 27, 3) := by decide +kernel
theorem pd_7 : parseMethodDescriptor "([CIILjava/lang/Void;)V" = some ⟨[(.array .char), .int, .int, (.object "java/lang/Void")], none⟩ := by decide +kernel
theorem d2_9 : K2 9 = .ok (.return_, 1) := by decide +kernel
set_option maxRecDepth 65536 in
set_option maxHeartbeats 40000000 in
theorem invL (l : Launch) (Z : State) (a0 : Array Value) (hw : ∀ d ∈ tables_1, d.before a0 Z = true) (ws : List Jvm.Cond) (x : Addr) (b : Addr) (ck : ClassId) (cs : List Int32) (G1 : Int32) (h0 : Heap) (n0 : Nat) (Z0 : n0 ≤ h0.size) (q0 : SCs Z G1) (P5 : ¬ (G1 = (0 : Int32))) (q2 : OZ Z h0 n0) (q3 : SAd Z) (q4 : SHi Z) (q5 : SLo Z) (q6 : Lq n0 x) (q7 : XSt Z h0 x) (q8 : FSv Z h0 x .null) (q9 : FSc Z h0 x (.int (0 : Int32))) (q10 : Arv Z h0 b ck .char (Int32.ofNat cs.length) (cs.map Value.int) (.int (0 : Int32))) (hbd : ∀ c ∈ cs, Wid c) (h1 : 0 < cs.length) (h4 : cs.length ≤ 2) :
  MetFree l y_9 (head1 (Jvm.Cond.code y_9 jdk_42_method_3_code 2 none :: ws) r_m5) (fun a_ U_ => a_ = #[(.ref x), (.ref b)] ∧ Z.Warmed39 U_.vm ∧ U_.heap = h0) (fun _ _ _ _ _ => True) (fun _ U_ o_ V_ => ∃ v_ L_, o_ = .returned v_ ∧ QinvL Z x b ck cs G1 h0 n0 v_ V_.heap L_ ∧ FrameEnd U_ o_ V_ L_ r_m5.cells r_m5.slots) := by
 refine MetFree.of_bodySF (plainFor_of_name pn_1) hisR ?_
 intro p e s m args below meth c s₁ Bd ap hP hK
 obtain ⟨rfl, hZ, hh⟩ := hP
 have hx := Bd.exec
 have dc := @hb _ _ Bd.bytes
 have hml : c.maxLocals = 2 := ap
 have hown : s.vm.findClass "java/lang/String" = some m.cls := findClass_of_methodNamed Bd.named
 have hnm := (name_of_methodNamed Bd.named Bd.method).1
 have X0 : Stand p l e r_m5 s m #[(.ref x), (.ref b)] below meth c s₁ [] 0 0 := Stand.of_body Bd
 have e0 : s₁.heap = h0 := by rw [← hh, Bd.state]; rfl
 have N0 := Fr.nil n0
 have Oo := q2.1
 have zo := q2.2
 have aD := own_alt q7.lt
 have aE := own_alt q8.lt
 have aF := own_alt q9.lt
 have aG := own_alt q10.lt
 refine Gl.go (A := s₁.setTop (entryFrame m #[(.ref x), (.ref b)] 2)) (P := fun o_ U_ => ∃ v_ L_, o_ = .returned v_ ∧ QinvL Z x b ck cs G1 h0 n0 v_ U_.heap L_ ∧ FrameEnd s o_ U_ L_ r_m5.cells r_m5.slots) (fun t_ k_ => castTop (ef_invL m x b) k_) ?_
 show Gl p.tables e below _ (s₁.setTop (mkF m 0 #[sR x, sR b] []))
 refine Gl.go (fun _ hr => zaloadN X0.here hx (dc d2_0) rfl rfl (zaloadN X0.here hx (dc d2_1) rfl rfl (ziconst X0.here hx (dc d2_2) (zaloadN X0.here hx (dc d2_3) rfl rfl hr)))) ?_
 obtain ⟨aB, al, aM, au, ar, ay, aA⟩ := id q10
 refine gLen Gl.cl X0 hx hZ e0 al au ar rfl rfl (dc d2_4) ?_
 refine Gl.go (fun _ hr => zaconstNull X0.here hx (dc d2_5) hr) ?_
 have ax : n0 ≤ h0.size := by omega
 refine gSpecialN Gl.cl (y := y_8) (b := x) (argsL := [(.ref b), (.int (0 : Int32)), (.int (Int32.ofNat cs.length)), .null]) (rest := []) (mc := 2) (ms := 6) X0 hx hZ hown rfl (mvT hZ (tw hw 12 rfl)) (mvT hZ (tw hw 13 rfl)) (mvT hZ (tw hw 15 rfl)) (by decide) (backOf (W := 0) (inwL l Z a0 hw [] x b ck cs G1 h0 n0 ax q0 (by assumption) ⟨Oo, (by omega)⟩ q3 q4 q5 (by omega) q7 q8 q9 q10 (by assumption) (by assumption) (by assumption)) hZ (tw hw 15 rfl) (tw hw 7 rfl) (by decide) (by decide)) rfl (by rw [hml]; rfl) (lenOf pd_7 rfl) rfl (by exact Nat.le_of_eq rfl) (dc d2_6) rfl e0 (by decide) (by decide) ?_
 intro aN ab az ao ac
 obtain ⟨av, aq, am, aj, aw, rfl, ak, aa, ae, af, ag, ah, aC, aL⟩ := ao
 have aO : h0.size ≤ ab.heap.size := aa.1
 have ai := Fr.app N0 ak
 have aH := own_alt ae.lt
 have aI := own_alt af.lt
 have aJ := own_alt ag.lt
 have aK := own_alt ah.lt
 obtain ⟨fs, hr, hrun, hended, hW, hsame⟩ := ac.leave (v := none) (fun _ => rfl)
 refine ⟨_, _, ac.returnOut hx Bd.returns (dc d2_9) hr, hrun, hended, _, _, rfl, ?_, ⟨⟨_, rfl⟩, hW, hsame.mono (by decide) (by decide)⟩⟩
 show QinvL Z x b ck cs G1 h0 n0 _ ab.heap _
 exact ⟨av, aq, am, aj, aw, rfl, ai, ((Keep.refl h0 [x]).trans aa (allS (P := fun x_ => x_ ∈ ([x] : List Addr) ∨ h0.size ≤ x_) (Or.inl (by simp)) all0)), ae, af, ag, ah, (by omega), (by first | rfl | assumption)⟩
def Qcod0 (Z : State) (x : Addr) (G1 : Int32) (h0 : Heap) (n0 : Nat) (v : Option Value) (h : Heap) (L : List Loc) : Prop := v = some (.int (0 : Int32)) ∧ Fr n0 L ∧ h = h0
theorem ef_cod0 (m : MethodId) (x0 : Addr) : entryFrame m #[(.ref x0)] 1 = mkF m 0 #[sR x0] [] := by first | (simp [entryFrame, mkF, argsToLocals, Value.category]; done) | rfl
abbrev K9 (i : Nat) := decode jdk_42_method_152_code i
theorem d9_0 : K9 0 = .ok (.getstatic 38, 3) := by decide +kernel
theorem d9_3 : K9 3 = .ok (.ifCond .eq 10, 3) := by decide +kernel
theorem d9_6 : K9 6 = .ok (.aload_n 0, 1) := by decide +kernel
theorem d9_7 : K9 7 = .ok (.getfield 15, 3) := by decide +kernel
theorem d9_10 : K9 10 = .ok (.goto 4, 3) := by decide +kernel
theorem d9_14 : K9 14 = .ok (.ireturn, 1) := by decide +kernel
set_option maxRecDepth 65536 in
set_option maxHeartbeats 40000000 in
theorem cod0 (l : Launch) (Z : State) (a0 : Array Value) (hw : ∀ d ∈ tables_1, d.before a0 Z = true) (ws : List Jvm.Cond) (x : Addr) (G1 : Int32) (h0 : Heap) (n0 : Nat) (Z0 : n0 ≤ h0.size) (q0 : SCs Z G1) (P5 : ¬ (G1 = (0 : Int32))) (q2 : OZ Z h0 n0) (q3 : FSc Z h0 x (.int (0 : Int32))) :
  MetFree l y_10 (head1 (Jvm.Cond.code y_10 jdk_42_method_152_code 1 (some .byte) :: ws) r_m0) (fun a_ U_ => a_ = #[(.ref x)] ∧ Z.Warmed39 U_.vm ∧ U_.heap = h0) (fun _ _ _ _ _ => True) (fun _ U_ o_ V_ => ∃ v_ L_, o_ = .returned v_ ∧ Qcod0 Z x G1 h0 n0 v_ V_.heap L_ ∧ FrameEnd U_ o_ V_ L_ r_m0.cells r_m0.slots) := by
 refine MetFree.of_bodySF (plainFor_of_name pn_1) hisR ?_
 intro p e s m args below meth c s₁ Bd ag hP hK
 obtain ⟨rfl, hZ, hh⟩ := hP
 have hx := Bd.exec
 have dc := @hb _ _ Bd.bytes
 have hml : c.maxLocals = 1 := ag
 have hown : s.vm.findClass "java/lang/String" = some m.cls := findClass_of_methodNamed Bd.named
 have hnm := (name_of_methodNamed Bd.named Bd.method).1
 have X0 : Stand p l e r_m0 s m #[(.ref x)] below meth c s₁ [] 0 0 := Stand.of_body Bd
 have e0 : s₁.heap = h0 := by rw [← hh, Bd.state]; rfl
 have N0 := Fr.nil n0
 have Oo := q2.1
 have zo := q2.2
 have ai := own_alt q3.lt
 refine Gl.go (A := s₁.setTop (entryFrame m #[(.ref x)] 1)) (P := fun o_ U_ => ∃ v_ L_, o_ = .returned v_ ∧ Qcod0 Z x G1 h0 n0 v_ U_.heap L_ ∧ FrameEnd s o_ U_ L_ r_m0.cells r_m0.slots) (fun t_ k_ => castTop (ef_cod0 m x) k_) ?_
 show Gl p.tables e below _ (s₁.setTop (mkF m 0 #[sR x] []))
 refine gGetS (host := "") Gl.cl X0 hx hZ hown (Or.inl (tw hw 57 rfl)) Via.refl e0 (q0.ext Oo.2) rfl (dc d9_0) ?_
 intro ah aa ae
 refine Gl.go (fun _ hr => zifNo aa.here hx (dc d9_3) rfl (XT.i0_eq_f P5) (zaloadN aa.here hx (dc d9_6) rfl rfl hr)) ?_
 refine gGetF (host := "") Gl.cl aa hx hZ hown (Or.inl (tw hw 26 rfl)) Via.refl ae q3 rfl rfl (dc d9_7) ?_
 intro ac ab af
 refine Gl.go (fun _ hr => zgoto ab.here hx (pc0 := 10) (pc' := 14) rfl (dc d9_10) (by decide) (by decide) hr) ?_
 obtain ⟨fs, hr, hrun, hended, hW, hsame⟩ := ab.leave (v := some (.int (0 : Int32))) (fun h => by rw [Bd.returns] at h; cases h)
 refine ⟨_, _, retN ab hx (t := .byte) Bd.returns (by simp) (dc d9_14) hr, hrun, hended, _, _, rfl, ?_, ⟨⟨_, rfl⟩, hW, hsame.mono (by decide) (by decide)⟩⟩
 show Qcod0 Z x G1 h0 n0 _ ac.heap _
 rw [af]
 exact ⟨rfl, N0, rfl⟩
def Qbl0 (Z : State) (b : Addr) (G1 : Int32) (h0 : Heap) (n0 : Nat) (v : Option Value) (h : Heap) (L : List Loc) : Prop := v = some (.int (1 : Int32)) ∧ Fr n0 L ∧ h = h0
theorem pn_2 : plainName "java/lang/AbstractStringBuilder" = true := by first | (simp [plainName, overriddenIn]; done) | decide +kernel
theorem ef_bl0 (m : MethodId) (x0 : Addr) : entryFrame m #[(.ref x0)] 1 = mkF m 0 #[sR x0] [] := by first | (simp [entryFrame, mkF, argsToLocals, Value.category]; done) | rfl
abbrev K20 (i : Nat) := decode jdk_68_method_68_code i
theorem d20_0 : K20 0 = .ok (.getstatic 18, 3) := by decide +kernel
theorem d20_3 : K20 3 = .ok (.ifCond .eq 14, 3) := by decide +kernel
theorem d20_6 : K20 6 = .ok (.aload_n 0, 1) := by decide +kernel
theorem d20_7 : K20 7 = .ok (.getfield 22, 3) := by decide +kernel
theorem d20_10 : K20 10 = .ok (.ifCond .ne 7, 3) := by decide +kernel
theorem d20_13 : K20 13 = .ok (.iconst 1, 1) := by decide +kernel
theorem d20_14 : K20 14 = .ok (.goto 4, 3) := by decide +kernel
theorem d20_18 : K20 18 = .ok (.ireturn, 1) := by decide +kernel
set_option maxRecDepth 65536 in
set_option maxHeartbeats 40000000 in
theorem bl0 (l : Launch) (Z : State) (a0 : Array Value) (hw : ∀ d ∈ tables_1, d.before a0 Z = true) (ws : List Jvm.Cond) (b : Addr) (G1 : Int32) (h0 : Heap) (n0 : Nat) (Z0 : n0 ≤ h0.size) (q0 : SCs Z G1) (P5 : ¬ (G1 = (0 : Int32))) (q2 : OZ Z h0 n0) (q3 : FBc Z h0 b (.int (0 : Int32))) :
  MetFree l y_11 (head1 (Jvm.Cond.code y_11 jdk_68_method_68_code 1 (some .boolean) :: ws) r_m0) (fun a_ U_ => a_ = #[(.ref b)] ∧ Z.Warmed39 U_.vm ∧ U_.heap = h0) (fun _ _ _ _ _ => True) (fun _ U_ o_ V_ => ∃ v_ L_, o_ = .returned v_ ∧ Qbl0 Z b G1 h0 n0 v_ V_.heap L_ ∧ FrameEnd U_ o_ V_ L_ r_m0.cells r_m0.slots) := by
 refine MetFree.of_bodySF (plainFor_of_name pn_2) hisR ?_
 intro p e s m args below meth c s₁ Bd ag hP hK
 obtain ⟨rfl, hZ, hh⟩ := hP
 have hx := Bd.exec
 have dc := @hb _ _ Bd.bytes
 have hml : c.maxLocals = 1 := ag
 have hown : s.vm.findClass "java/lang/AbstractStringBuilder" = some m.cls := findClass_of_methodNamed Bd.named
 have hnm := (name_of_methodNamed Bd.named Bd.method).1
 have X0 : Stand p l e r_m0 s m #[(.ref b)] below meth c s₁ [] 0 0 := Stand.of_body Bd
 have e0 : s₁.heap = h0 := by rw [← hh, Bd.state]; rfl
 have N0 := Fr.nil n0
 have Oo := q2.1
 have zo := q2.2
 have ai := own_alt q3.lt
 refine Gl.go (A := s₁.setTop (entryFrame m #[(.ref b)] 1)) (P := fun o_ U_ => ∃ v_ L_, o_ = .returned v_ ∧ Qbl0 Z b G1 h0 n0 v_ U_.heap L_ ∧ FrameEnd s o_ U_ L_ r_m0.cells r_m0.slots) (fun t_ k_ => castTop (ef_bl0 m b) k_) ?_
 show Gl p.tables e below _ (s₁.setTop (mkF m 0 #[sR b] []))
 refine gGetS (host := "") Gl.cl X0 hx hZ hown (Or.inl (tw hw 95 rfl)) Via.refl e0 (q0.ext Oo.2) rfl (dc d20_0) ?_
 intro ah ab ae
 refine Gl.go (fun _ hr => zifNo ab.here hx (dc d20_3) rfl (XT.i0_eq_f P5) (zaloadN ab.here hx (dc d20_6) rfl rfl hr)) ?_
 refine gGetF (host := "") Gl.cl ab hx hZ hown (Or.inl (tw hw 60 rfl)) Via.refl ae q3 rfl rfl (dc d20_7) ?_
 intro ac aa af
 refine Gl.go (fun _ hr => zifNo aa.here hx (dc d20_10) rfl (XT.i0_ne_f (by decide)) (ziconst aa.here hx (dc d20_13) (zgoto aa.here hx (pc0 := 14) (pc' := 18) rfl (dc d20_14) (by decide) (by decide) hr))) ?_
 obtain ⟨fs, hr, hrun, hended, hW, hsame⟩ := aa.leave (v := some (.int (1 : Int32))) (fun h => by rw [Bd.returns] at h; cases h)
 refine ⟨_, _, retN aa hx (t := .boolean) Bd.returns (by simp) (dc d20_18) hr, hrun, hended, _, _, rfl, ?_, ⟨⟨_, rfl⟩, hW, hsame.mono (by decide) (by decide)⟩⟩
 show Qbl0 Z b G1 h0 n0 _ ac.heap _
 rw [af]
 exact ⟨rfl, N0, rfl⟩
def Qcod1 (Z : State) (x : Addr) (G1 : Int32) (h0 : Heap) (n0 : Nat) (v : Option Value) (h : Heap) (L : List Loc) : Prop := v = some (.int (1 : Int32)) ∧ Fr n0 L ∧ h = h0
theorem ef_cod1 (m : MethodId) (x0 : Addr) : entryFrame m #[(.ref x0)] 1 = mkF m 0 #[sR x0] [] := by first | (simp [entryFrame, mkF, argsToLocals, Value.category]; done) | rfl
set_option maxRecDepth 65536 in
set_option maxHeartbeats 40000000 in
theorem cod1 (l : Launch) (Z : State) (a0 : Array Value) (hw : ∀ d ∈ tables_1, d.before a0 Z = true) (ws : List Jvm.Cond) (x : Addr) (G1 : Int32) (h0 : Heap) (n0 : Nat) (Z0 : n0 ≤ h0.size) (q0 : SCs Z G1) (P5 : ¬ (G1 = (0 : Int32))) (q2 : OZ Z h0 n0) (q3 : FSc Z h0 x (.int (1 : Int32))) :
  MetFree l y_10 (head1 (Jvm.Cond.code y_10 jdk_42_method_152_code 1 (some .byte) :: ws) r_m0) (fun a_ U_ => a_ = #[(.ref x)] ∧ Z.Warmed39 U_.vm ∧ U_.heap = h0) (fun _ _ _ _ _ => True) (fun _ U_ o_ V_ => ∃ v_ L_, o_ = .returned v_ ∧ Qcod1 Z x G1 h0 n0 v_ V_.heap L_ ∧ FrameEnd U_ o_ V_ L_ r_m0.cells r_m0.slots) := by
 refine MetFree.of_bodySF (plainFor_of_name pn_1) hisR ?_
 intro p e s m args below meth c s₁ Bd ag hP hK
 obtain ⟨rfl, hZ, hh⟩ := hP
 have hx := Bd.exec
 have dc := @hb _ _ Bd.bytes
 have hml : c.maxLocals = 1 := ag
 have hown : s.vm.findClass "java/lang/String" = some m.cls := findClass_of_methodNamed Bd.named
 have hnm := (name_of_methodNamed Bd.named Bd.method).1
 have X0 : Stand p l e r_m0 s m #[(.ref x)] below meth c s₁ [] 0 0 := Stand.of_body Bd
 have e0 : s₁.heap = h0 := by rw [← hh, Bd.state]; rfl
 have N0 := Fr.nil n0
 have Oo := q2.1
 have zo := q2.2
 have ai := own_alt q3.lt
 refine Gl.go (A := s₁.setTop (entryFrame m #[(.ref x)] 1)) (P := fun o_ U_ => ∃ v_ L_, o_ = .returned v_ ∧ Qcod1 Z x G1 h0 n0 v_ U_.heap L_ ∧ FrameEnd s o_ U_ L_ r_m0.cells r_m0.slots) (fun t_ k_ => castTop (ef_cod1 m x) k_) ?_
 show Gl p.tables e below _ (s₁.setTop (mkF m 0 #[sR x] []))
 refine gGetS (host := "") Gl.cl X0 hx hZ hown (Or.inl (tw hw 57 rfl)) Via.refl e0 (q0.ext Oo.2) rfl (dc d9_0) ?_
 intro ah aa ae
 refine Gl.go (fun _ hr => zifNo aa.here hx (dc d9_3) rfl (XT.i0_eq_f P5) (zaloadN aa.here hx (dc d9_6) rfl rfl hr)) ?_
 refine gGetF (host := "") Gl.cl aa hx hZ hown (Or.inl (tw hw 26 rfl)) Via.refl ae q3 rfl rfl (dc d9_7) ?_
 intro ac ab af
 refine Gl.go (fun _ hr => zgoto ab.here hx (pc0 := 10) (pc' := 14) rfl (dc d9_10) (by decide) (by decide) hr) ?_
 obtain ⟨fs, hr, hrun, hended, hW, hsame⟩ := ab.leave (v := some (.int (1 : Int32))) (fun h => by rw [Bd.returns] at h; cases h)
 refine ⟨_, _, retN ab hx (t := .byte) Bd.returns (by simp) (dc d9_14) hr, hrun, hended, _, _, rfl, ?_, ⟨⟨_, rfl⟩, hW, hsame.mono (by decide) (by decide)⟩⟩
 show Qcod1 Z x G1 h0 n0 _ ac.heap _
 rw [af]
 exact ⟨rfl, N0, rfl⟩
def Qbl1 (Z : State) (b : Addr) (G1 : Int32) (h0 : Heap) (n0 : Nat) (v : Option Value) (h : Heap) (L : List Loc) : Prop := v = some (.int (0 : Int32)) ∧ Fr n0 L ∧ h = h0
theorem ef_bl1 (m : MethodId) (x0 : Addr) : entryFrame m #[(.ref x0)] 1 = mkF m 0 #[sR x0] [] := by first | (simp [entryFrame, mkF, argsToLocals, Value.category]; done) | rfl
theorem d20_17 : K20 17 = .ok (.iconst 0, 1) := by decide +kernel
set_option maxRecDepth 65536 in
set_option maxHeartbeats 40000000 in
theorem bl1 (l : Launch) (Z : State) (a0 : Array Value) (hw : ∀ d ∈ tables_1, d.before a0 Z = true) (ws : List Jvm.Cond) (b : Addr) (G1 : Int32) (h0 : Heap) (n0 : Nat) (Z0 : n0 ≤ h0.size) (q0 : SCs Z G1) (P5 : ¬ (G1 = (0 : Int32))) (q2 : OZ Z h0 n0) (q3 : FBc Z h0 b (.int (1 : Int32))) :
  MetFree l y_11 (head1 (Jvm.Cond.code y_11 jdk_68_method_68_code 1 (some .boolean) :: ws) r_m0) (fun a_ U_ => a_ = #[(.ref b)] ∧ Z.Warmed39 U_.vm ∧ U_.heap = h0) (fun _ _ _ _ _ => True) (fun _ U_ o_ V_ => ∃ v_ L_, o_ = .returned v_ ∧ Qbl1 Z b G1 h0 n0 v_ V_.heap L_ ∧ FrameEnd U_ o_ V_ L_ r_m0.cells r_m0.slots) := by
 refine MetFree.of_bodySF (plainFor_of_name pn_2) hisR ?_
 intro p e s m args below meth c s₁ Bd ag hP hK
 obtain ⟨rfl, hZ, hh⟩ := hP
 have hx := Bd.exec
 have dc := @hb _ _ Bd.bytes
 have hml : c.maxLocals = 1 := ag
 have hown : s.vm.findClass "java/lang/AbstractStringBuilder" = some m.cls := findClass_of_methodNamed Bd.named
 have hnm := (name_of_methodNamed Bd.named Bd.method).1
 have X0 : Stand p l e r_m0 s m #[(.ref b)] below meth c s₁ [] 0 0 := Stand.of_body Bd
 have e0 : s₁.heap = h0 := by rw [← hh, Bd.state]; rfl
 have N0 := Fr.nil n0
 have Oo := q2.1
 have zo := q2.2
 have ai := own_alt q3.lt
 refine Gl.go (A := s₁.setTop (entryFrame m #[(.ref b)] 1)) (P := fun o_ U_ => ∃ v_ L_, o_ = .returned v_ ∧ Qbl1 Z b G1 h0 n0 v_ U_.heap L_ ∧ FrameEnd s o_ U_ L_ r_m0.cells r_m0.slots) (fun t_ k_ => castTop (ef_bl1 m b) k_) ?_
 show Gl p.tables e below _ (s₁.setTop (mkF m 0 #[sR b] []))
 refine gGetS (host := "") Gl.cl X0 hx hZ hown (Or.inl (tw hw 95 rfl)) Via.refl e0 (q0.ext Oo.2) rfl (dc d20_0) ?_
 intro ah ab ae
 refine Gl.go (fun _ hr => zifNo ab.here hx (dc d20_3) rfl (XT.i0_eq_f P5) (zaloadN ab.here hx (dc d20_6) rfl rfl hr)) ?_
 refine gGetF (host := "") Gl.cl ab hx hZ hown (Or.inl (tw hw 60 rfl)) Via.refl ae q3 rfl rfl (dc d20_7) ?_
 intro ac aa af
 refine Gl.go (fun _ hr => zifYes aa.here hx (pc0 := 10) (pc' := 17) rfl (dc d20_10) rfl (XT.i0_ne_t (by decide)) (by decide) (by decide) (ziconst aa.here hx (dc d20_17) hr)) ?_
 obtain ⟨fs, hr, hrun, hended, hW, hsame⟩ := aa.leave (v := some (.int (0 : Int32))) (fun h => by rw [Bd.returns] at h; cases h)
 refine ⟨_, _, retN aa hx (t := .boolean) Bd.returns (by simp) (dc d20_18) hr, hrun, hended, _, _, rfl, ?_, ⟨⟨_, rfl⟩, hW, hsame.mono (by decide) (by decide)⟩⟩
 show Qbl1 Z b G1 h0 n0 _ ac.heap _
 rw [af]
 exact ⟨rfl, N0, rfl⟩
def Qsl0 (Z : State) (x : Addr) (t : Addr) (kb : ClassId) (vs : List Value) (ds : List Int32) (G1 : Int32) (h0 : Heap) (n0 : Nat) (v : Option Value) (h : Heap) (L : List Loc) : Prop := v = some (.int (Int32.ofNat ds.length)) ∧ Fr n0 L ∧ h = h0
theorem ef_sl0 (m : MethodId) (x0 : Addr) : entryFrame m #[(.ref x0)] 1 = mkF m 0 #[sR x0] [] := by first | (simp [entryFrame, mkF, argsToLocals, Value.category]; done) | rfl
abbrev K8 (i : Nat) := decode jdk_42_method_54_code i
theorem d8_0 : K8 0 = .ok (.aload_n 0, 1) := by decide +kernel
theorem d8_1 : K8 1 = .ok (.getfield 9, 3) := by decide +kernel
theorem d8_4 : K8 4 = .ok (.arraylength, 1) := by decide +kernel
theorem d8_5 : K8 5 = .ok (.aload_n 0, 1) := by decide +kernel
theorem d8_6 : K8 6 = .ok (.invokevirtual 335, 3) := by decide +kernel
theorem pd_8 : parseMethodDescriptor "()B" = some ⟨[], some .byte⟩ := by decide +kernel
theorem d8_9 : K8 9 = .ok (.ishr, 1) := by decide +kernel
theorem d8_10 : K8 10 = .ok (.ireturn, 1) := by decide +kernel
set_option maxRecDepth 65536 in
set_option maxHeartbeats 40000000 in
theorem sl0 (l : Launch) (Z : State) (a0 : Array Value) (hw : ∀ d ∈ tables_1, d.before a0 Z = true) (ws : List Jvm.Cond) (x : Addr) (t : Addr) (kb : ClassId) (vs : List Value) (ds : List Int32) (G1 : Int32) (h0 : Heap) (n0 : Nat) (Z0 : n0 ≤ h0.size) (q0 : SCs Z G1) (P5 : ¬ (G1 = (0 : Int32))) (q2 : OZ Z h0 n0) (q3 : XSt Z h0 x) (q4 : FSv Z h0 x (.ref t)) (q5 : FSc Z h0 x (.int (0 : Int32))) (q6 : Arv Z h0 t kb .byte (Int32.ofNat ds.length) vs (.int (0 : Int32))) (hd : ds.length ≤ 32) :
  MetFree l y_12 (head1 (Jvm.Cond.code y_12 jdk_42_method_54_code 1 (some .int) :: ws) r_m6) (fun a_ U_ => a_ = #[(.ref x)] ∧ Z.Warmed39 U_.vm ∧ U_.heap = h0) (fun _ _ _ _ _ => True) (fun _ U_ o_ V_ => ∃ v_ L_, o_ = .returned v_ ∧ Qsl0 Z x t kb vs ds G1 h0 n0 v_ V_.heap L_ ∧ FrameEnd U_ o_ V_ L_ r_m6.cells r_m6.slots) := by
 refine MetFree.of_bodySF (plainFor_of_name pn_1) hisR ?_
 intro p e s m args below meth c s₁ Bd ak hP hK
 obtain ⟨rfl, hZ, hh⟩ := hP
 have hx := Bd.exec
 have dc := @hb _ _ Bd.bytes
 have hml : c.maxLocals = 1 := ak
 have hown : s.vm.findClass "java/lang/String" = some m.cls := findClass_of_methodNamed Bd.named
 have hnm := (name_of_methodNamed Bd.named Bd.method).1
 have X0 : Stand p l e r_m6 s m #[(.ref x)] below meth c s₁ [] 0 0 := Stand.of_body Bd
 have e0 : s₁.heap = h0 := by rw [← hh, Bd.state]; rfl
 have N0 := Fr.nil n0
 have Oo := q2.1
 have zo := q2.2
 have aw := own_alt q3.lt
 have ax := own_alt q4.lt
 have ay := own_alt q5.lt
 have az := own_alt q6.lt
 refine Gl.go (A := s₁.setTop (entryFrame m #[(.ref x)] 1)) (P := fun o_ U_ => ∃ v_ L_, o_ = .returned v_ ∧ Qsl0 Z x t kb vs ds G1 h0 n0 v_ U_.heap L_ ∧ FrameEnd s o_ U_ L_ r_m6.cells r_m6.slots) (fun t_ k_ => castTop (ef_sl0 m x) k_) ?_
 show Gl p.tables e below _ (s₁.setTop (mkF m 0 #[sR x] []))
 refine Gl.go (fun _ hr => zaloadN X0.here hx (dc d8_0) rfl rfl hr) ?_
 refine gGetF (host := "") Gl.cl X0 hx hZ hown (Or.inl (tw hw 25 rfl)) Via.refl e0 q4 rfl rfl (dc d8_1) ?_
 intro ar ab ae
 obtain ⟨av, ah, aA, am, al, ap, au⟩ := id q6
 refine gLen Gl.cl ab hx hZ ae ah am al rfl rfl (dc d8_4) ?_
 refine Gl.go (fun _ hr => zaloadN ab.here hx (dc d8_5) rfl rfl hr) ?_
 have ao : n0 ≤ h0.size := by omega
 refine gVirtualN Gl.cl (y := y_10) (z := y_10) (b := x) (argsL := []) (rest := [(.int (Int32.ofNat ds.length))]) (mc := 0) (ms := 0) ab hx hZ hown (mvT hZ (tw hw 52 rfl)) (mvT hZ (tw hw 53 rfl)) (notFace_of_selects (args := #[]) (mvT hZ (tw hw 55 rfl))) (mvT hZ (tw hw 55 rfl)) (mvT hZ (tw hw 54 rfl)) (by decide) q3 (backOf (W := 1) (cod0 l Z a0 hw [] x G1 h0 n0 ao q0 (by assumption) ⟨Oo, (by omega)⟩ q5) hZ (tw hw 56 rfl) (tw hw 7 rfl) (by decide) (by decide)) rfl (by rw [hml]; rfl) (lenOf pd_8 rfl) rfl (by exact Nat.le_of_eq rfl) (dc d8_6) rfl ae (by decide) (by decide) ?_
 intro aB aa aq aj ac
 obtain ⟨rfl, ag, ai⟩ := aj
 have af := Fr.app N0 ag
 refine Gl.go (fun _ hr => zishr ac.here hx (dc d8_9) rfl hr) ?_
 show Gl p.tables e below _ (aa.setTop (mkF m 10 #[sR x] [(.int ((Int32.ofNat ds.length) >>> ((0 : Int32) &&& 31)))]))
 rw [(StrChars.shr0 _)]
 show Gl p.tables e below _ (aa.setTop (mkF m 10 #[sR x] [(.int (Int32.ofNat ds.length))]))
 obtain ⟨fs, hr, hrun, hended, hW, hsame⟩ := ac.leave (v := some (.int (Int32.ofNat ds.length))) (fun h => by rw [Bd.returns] at h; cases h)
 refine ⟨_, _, retOut ac hx Bd.returns rfl (Or.inl ⟨rfl, Or.inl rfl, _, rfl⟩) (dc d8_10) hr, hrun, hended, _, _, rfl, ?_, ⟨⟨_, rfl⟩, hW, hsame.mono (by decide) (by decide)⟩⟩
 show Qsl0 Z x t kb vs ds G1 h0 n0 _ aa.heap _
 rw [ai]
 exact ⟨rfl, af, rfl⟩
abbrev K13 (i : Nat) := decode jdk_68_method_9_code i
theorem d13_0 : K13 0 = .ok (.aload_n 0, 1) := by decide +kernel
theorem d13_1 : K13 1 = .ok (.getfield 15, 3) := by decide +kernel
theorem d13_4 : K13 4 = .ok (.arraylength, 1) := by decide +kernel
theorem d13_5 : K13 5 = .ok (.aload_n 0, 1) := by decide +kernel
theorem d13_6 : K13 6 = .ok (.getfield 22, 3) := by decide +kernel
theorem d13_9 : K13 9 = .ok (.ishr, 1) := by decide +kernel
theorem d13_10 : K13 10 = .ok (.istore_n 2, 1) := by decide +kernel
theorem d13_11 : K13 11 = .ok (.iload_n 1, 1) := by decide +kernel
theorem d13_12 : K13 12 = .ok (.iload_n 2, 1) := by decide +kernel
theorem d13_13 : K13 13 = .ok (.isub, 1) := by decide +kernel
theorem d13_14 : K13 14 = .ok (.ifCond .le 24, 3) := by decide +kernel
theorem d13_38 : K13 38 = .ok (.return_, 1) := by decide +kernel
set_option maxRecDepth 65536 in
def Qsl1 (Z : State) (x : Addr) (t : Addr) (kb : ClassId) (vs : List Value) (ds : List Int32) (G1 : Int32) (h0 : Heap) (n0 : Nat) (v : Option Value) (h : Heap) (L : List Loc) : Prop := v = some (.int (Int32.ofNat ds.length)) ∧ Fr n0 L ∧ h = h0
theorem ef_sl1 (m : MethodId) (x0 : Addr) : entryFrame m #[(.ref x0)] 1 = mkF m 0 #[sR x0] [] := by first | (simp [entryFrame, mkF, argsToLocals, Value.category]; done) | rfl
set_option maxRecDepth 65536 in
set_option maxHeartbeats 40000000 in
theorem sl1 (l : Launch) (Z : State) (a0 : Array Value) (hw : ∀ d ∈ tables_1, d.before a0 Z = true) (ws : List Jvm.Cond) (x : Addr) (t : Addr) (kb : ClassId) (vs : List Value) (ds : List Int32) (G1 : Int32) (h0 : Heap) (n0 : Nat) (Z0 : n0 ≤ h0.size) (q0 : SCs Z G1) (P5 : ¬ (G1 = (0 : Int32))) (q2 : OZ Z h0 n0) (q3 : XSt Z h0 x) (q4 : FSv Z h0 x (.ref t)) (q5 : FSc Z h0 x (.int (1 : Int32))) (q6 : Arv Z h0 t kb .byte (Int32.ofNat (2 * ds.length)) vs (.int (0 : Int32))) (hd : ds.length ≤ 32) :
  MetFree l y_12 (head1 (Jvm.Cond.code y_12 jdk_42_method_54_code 1 (some .int) :: ws) r_m6) (fun a_ U_ => a_ = #[(.ref x)] ∧ Z.Warmed39 U_.vm ∧ U_.heap = h0) (fun _ _ _ _ _ => True) (fun _ U_ o_ V_ => ∃ v_ L_, o_ = .returned v_ ∧ Qsl1 Z x t kb vs ds G1 h0 n0 v_ V_.heap L_ ∧ FrameEnd U_ o_ V_ L_ r_m6.cells r_m6.slots) := by
 refine MetFree.of_bodySF (plainFor_of_name pn_1) hisR ?_
 intro p e s m args below meth c s₁ Bd ak hP hK
 obtain ⟨rfl, hZ, hh⟩ := hP
 have hx := Bd.exec
 have dc := @hb _ _ Bd.bytes
 have hml : c.maxLocals = 1 := ak
 have hown : s.vm.findClass "java/lang/String" = some m.cls := findClass_of_methodNamed Bd.named
 have hnm := (name_of_methodNamed Bd.named Bd.method).1
 have X0 : Stand p l e r_m6 s m #[(.ref x)] below meth c s₁ [] 0 0 := Stand.of_body Bd
 have e0 : s₁.heap = h0 := by rw [← hh, Bd.state]; rfl
 have N0 := Fr.nil n0
 have Oo := q2.1
 have zo := q2.2
 have aw := own_alt q3.lt
 have ax := own_alt q4.lt
 have ay := own_alt q5.lt
 have az := own_alt q6.lt
 refine Gl.go (A := s₁.setTop (entryFrame m #[(.ref x)] 1)) (P := fun o_ U_ => ∃ v_ L_, o_ = .returned v_ ∧ Qsl1 Z x t kb vs ds G1 h0 n0 v_ U_.heap L_ ∧ FrameEnd s o_ U_ L_ r_m6.cells r_m6.slots) (fun t_ k_ => castTop (ef_sl1 m x) k_) ?_
 show Gl p.tables e below _ (s₁.setTop (mkF m 0 #[sR x] []))
 refine Gl.go (fun _ hr => zaloadN X0.here hx (dc d8_0) rfl rfl hr) ?_
 refine gGetF (host := "") Gl.cl X0 hx hZ hown (Or.inl (tw hw 25 rfl)) Via.refl e0 q4 rfl rfl (dc d8_1) ?_
 intro ar ab ae
 obtain ⟨av, ah, aA, am, al, ap, au⟩ := id q6
 refine gLen Gl.cl ab hx hZ ae ah am al rfl rfl (dc d8_4) ?_
 refine Gl.go (fun _ hr => zaloadN ab.here hx (dc d8_5) rfl rfl hr) ?_
 have ao : n0 ≤ h0.size := by omega
 refine gVirtualN Gl.cl (y := y_10) (z := y_10) (b := x) (argsL := []) (rest := [(.int (Int32.ofNat (2 * ds.length)))]) (mc := 0) (ms := 0) ab hx hZ hown (mvT hZ (tw hw 52 rfl)) (mvT hZ (tw hw 53 rfl)) (notFace_of_selects (args := #[]) (mvT hZ (tw hw 55 rfl))) (mvT hZ (tw hw 55 rfl)) (mvT hZ (tw hw 54 rfl)) (by decide) q3 (backOf (W := 1) (cod1 l Z a0 hw [] x G1 h0 n0 ao q0 (by assumption) ⟨Oo, (by omega)⟩ q5) hZ (tw hw 56 rfl) (tw hw 7 rfl) (by decide) (by decide)) rfl (by rw [hml]; rfl) (lenOf pd_8 rfl) rfl (by exact Nat.le_of_eq rfl) (dc d8_6) rfl ae (by decide) (by decide) ?_
 intro aB aa aq aj ac
 obtain ⟨rfl, ag, ai⟩ := aj
 have af := Fr.app N0 ag
 refine Gl.go (fun _ hr => zishr ac.here hx (dc d8_9) rfl hr) ?_
 show Gl p.tables e below _ (aa.setTop (mkF m 10 #[sR x] [(.int ((Int32.ofNat (2 * ds.length)) >>> ((1 : Int32) &&& 31)))]))
 rw [(StrChars.shr1 (n := ds.length) (by omega))]
 show Gl p.tables e below _ (aa.setTop (mkF m 10 #[sR x] [(.int (Int32.ofNat ds.length))]))
 obtain ⟨fs, hr, hrun, hended, hW, hsame⟩ := ac.leave (v := some (.int (Int32.ofNat ds.length))) (fun h => by rw [Bd.returns] at h; cases h)
 refine ⟨_, _, retOut ac hx Bd.returns rfl (Or.inl ⟨rfl, Or.inl rfl, _, rfl⟩) (dc d8_10) hr, hrun, hended, _, _, rfl, ?_, ⟨⟨_, rfl⟩, hW, hsame.mono (by decide) (by decide)⟩⟩
 show Qsl1 Z x t kb vs ds G1 h0 n0 _ aa.heap _
 rw [ai]
 exact ⟨rfl, af, rfl⟩
def Qu16l (Z : State) (a : Addr) (ka : ClassId) (n2 : Nat) (vs : List Value) (h0 : Heap) (n0 : Nat) (v : Option Value) (h : Heap) (L : List Loc) : Prop := v = some (.int (Int32.ofNat n2)) ∧ Fr n0 L ∧ h = h0
theorem ef_u16l (m : MethodId) (x0 : Addr) : entryFrame m #[(.ref x0)] 1 = mkF m 0 #[sR x0] [] := by first | (simp [entryFrame, mkF, argsToLocals, Value.category]; done) | rfl
abbrev K55 (i : Nat) := decode jdk_52_method_6_code i
theorem d55_0 : K55 0 = .ok (.aload_n 0, 1) := by decide +kernel
theorem d55_1 : K55 1 = .ok (.arraylength, 1) := by decide +kernel
theorem d55_2 : K55 2 = .ok (.iconst 1, 1) := by decide +kernel
theorem d55_3 : K55 3 = .ok (.ishr, 1) := by decide +kernel
theorem d55_4 : K55 4 = .ok (.ireturn, 1) := by decide +kernel
set_option maxRecDepth 65536 in
set_option maxHeartbeats 40000000 in
theorem u16l (l : Launch) (Z : State) (a0 : Array Value) (hw : ∀ d ∈ tables_1, d.before a0 Z = true) (ws : List Jvm.Cond) (a : Addr) (ka : ClassId) (n2 : Nat) (vs : List Value) (h0 : Heap) (n0 : Nat) (Z0 : n0 ≤ h0.size) (q0 : Arv Z h0 a ka .byte (Int32.ofNat (2 * n2)) vs (.int (0 : Int32))) (hn2 : n2 ≤ 64) :
  MetFree l y_14 (head1 (Jvm.Cond.code y_14 jdk_52_method_6_code 1 (some .int) :: ws) r_m0) (fun a_ U_ => a_ = #[(.ref a)] ∧ Z.Warmed39 U_.vm ∧ U_.heap = h0) (fun _ _ _ _ _ => True) (fun _ U_ o_ V_ => ∃ v_ L_, o_ = .returned v_ ∧ Qu16l Z a ka n2 vs h0 n0 v_ V_.heap L_ ∧ FrameEnd U_ o_ V_ L_ r_m0.cells r_m0.slots) := by
 refine MetFree.of_bodySF (plainFor_of_name pn_0) hisR ?_
 intro p e s m args below meth c s₁ Bd ab hP hK
 obtain ⟨rfl, hZ, hh⟩ := hP
 have hx := Bd.exec
 have dc := @hb _ _ Bd.bytes
 have hml : c.maxLocals = 1 := ab
 have hown : s.vm.findClass "java/lang/StringUTF16" = some m.cls := findClass_of_methodNamed Bd.named
 have hnm := (name_of_methodNamed Bd.named Bd.method).1
 have X0 : Stand p l e r_m0 s m #[(.ref a)] below meth c s₁ [] 0 0 := Stand.of_body Bd
 have e0 : s₁.heap = h0 := by rw [← hh, Bd.state]; rfl
 have N0 := Fr.nil n0
 have ai := own_alt q0.lt
 refine Gl.go (A := s₁.setTop (entryFrame m #[(.ref a)] 1)) (P := fun o_ U_ => ∃ v_ L_, o_ = .returned v_ ∧ Qu16l Z a ka n2 vs h0 n0 v_ U_.heap L_ ∧ FrameEnd s o_ U_ L_ r_m0.cells r_m0.slots) (fun t_ k_ => castTop (ef_u16l m a) k_) ?_
 show Gl p.tables e below _ (s₁.setTop (mkF m 0 #[sR a] []))
 refine Gl.go (fun _ hr => zaloadN X0.here hx (dc d55_0) rfl rfl hr) ?_
 obtain ⟨ah, aa, aj, ae, ac, af, ag⟩ := id q0
 refine gLen Gl.cl X0 hx hZ e0 aa ae ac rfl rfl (dc d55_1) ?_
 refine Gl.go (fun _ hr => ziconst X0.here hx (dc d55_2) (zishr X0.here hx (dc d55_3) rfl hr)) ?_
 show Gl p.tables e below _ (s₁.setTop (mkF m 4 #[sR a] [(.int ((Int32.ofNat (2 * n2)) >>> ((1 : Int32) &&& 31)))]))
 rw [(StrChars.shr1 (n := n2) (by omega))]
 show Gl p.tables e below _ (s₁.setTop (mkF m 4 #[sR a] [(.int (Int32.ofNat n2))]))
 obtain ⟨fs, hr, hrun, hended, hW, hsame⟩ := X0.leave (v := some (.int (Int32.ofNat n2))) (fun h => by rw [Bd.returns] at h; cases h)
 refine ⟨_, _, retOut X0 hx Bd.returns rfl (Or.inl ⟨rfl, Or.inl rfl, _, rfl⟩) (dc d55_4) hr, hrun, hended, _, _, rfl, ?_, ⟨⟨_, rfl⟩, hW, hsame.mono (by decide) (by decide)⟩⟩
 show Qu16l Z a ka n2 vs h0 n0 _ s₁.heap _
 rw [e0]
 exact ⟨rfl, N0, rfl⟩
def Qcfs (Z : State) (off : Nat) (cnt : Nat) (n2 : Nat) (G3 : Value) (h0 : Heap) (n0 : Nat) (v : Option Value) (h : Heap) (L : List Loc) : Prop := v = some (.int (Int32.ofNat off)) ∧ Fr n0 L ∧ h = h0
theorem pn_3 : plainName "jdk/internal/util/Preconditions" = true := by first | (simp [plainName, overriddenIn]; done) | decide +kernel
theorem ef_cfs (m : MethodId) (x0 : Int32) (x1 : Int32) (x2 : Int32) (x3 : Value) (hx3 : x3.isRef = true) : entryFrame m #[(.int x0), (.int x1), (.int x2), x3] 4 = mkF m 0 #[sI x0, sI x1, sI x2, .val x3] [] := by
 cases x3 <;> first | rfl | exact Bool.noConfusion hx3 | (simp [entryFrame, mkF, argsToLocals, Value.category]; done)
abbrev K57 (i : Nat) := decode jdk_41_method_13_code i
theorem d57_0 : K57 0 = .ok (.iload_n 2, 1) := by decide +kernel
theorem d57_1 : K57 1 = .ok (.iload_n 0, 1) := by decide +kernel
theorem d57_2 : K57 2 = .ok (.ior, 1) := by decide +kernel
theorem d57_3 : K57 3 = .ok (.iload_n 1, 1) := by decide +kernel
theorem d57_4 : K57 4 = .ok (.ior, 1) := by decide +kernel
theorem d57_5 : K57 5 = .ok (.ifCond .lt 10, 3) := by decide +kernel
theorem d57_8 : K57 8 = .ok (.iload_n 1, 1) := by decide +kernel
theorem d57_9 : K57 9 = .ok (.iload_n 2, 1) := by decide +kernel
theorem d57_10 : K57 10 = .ok (.iload_n 0, 1) := by decide +kernel
theorem d57_11 : K57 11 = .ok (.isub, 1) := by decide +kernel
theorem d57_12 : K57 12 = .ok (.if_icmp .le 11, 3) := by decide +kernel
theorem d57_23 : K57 23 = .ok (.iload_n 0, 1) := by decide +kernel
theorem d57_24 : K57 24 = .ok (.ireturn, 1) := by decide +kernel
set_option maxRecDepth 65536 in
set_option maxHeartbeats 40000000 in
theorem cfs (l : Launch) (Z : State) (a0 : Array Value) (hw : ∀ d ∈ tables_1, d.before a0 Z = true) (ws : List Jvm.Cond) (off : Nat) (cnt : Nat) (n2 : Nat) (G3 : Value) (h0 : Heap) (n0 : Nat) (Z0 : n0 ≤ h0.size) (rG3 : G3.isRef = true) (hob : off + cnt ≤ n2) (hn2 : n2 ≤ 64) :
  MetFree l y_15 (head1 (Jvm.Cond.code y_15 jdk_41_method_13_code 4 (some .int) :: ws) r_m0) (fun a_ U_ => a_ = #[(.int (Int32.ofNat off)), (.int (Int32.ofNat cnt)), (.int (Int32.ofNat n2)), G3] ∧ Z.Warmed39 U_.vm ∧ U_.heap = h0) (fun _ _ _ _ _ => True) (fun _ U_ o_ V_ => ∃ v_ L_, o_ = .returned v_ ∧ Qcfs Z off cnt n2 G3 h0 n0 v_ V_.heap L_ ∧ FrameEnd U_ o_ V_ L_ r_m0.cells r_m0.slots) := by
 refine MetFree.of_bodySF (plainFor_of_name pn_3) hisR ?_
 intro p e s m args below meth c s₁ Bd aa hP hK
 obtain ⟨rfl, hZ, hh⟩ := hP
 have hx := Bd.exec
 have dc := @hb _ _ Bd.bytes
 have hml : c.maxLocals = 4 := aa
 have hown : s.vm.findClass "jdk/internal/util/Preconditions" = some m.cls := findClass_of_methodNamed Bd.named
 have hnm := (name_of_methodNamed Bd.named Bd.method).1
 have X0 : Stand p l e r_m0 s m #[(.int (Int32.ofNat off)), (.int (Int32.ofNat cnt)), (.int (Int32.ofNat n2)), G3] below meth c s₁ [] 0 0 := Stand.of_body Bd
 have e0 : s₁.heap = h0 := by rw [← hh, Bd.state]; rfl
 have N0 := Fr.nil n0
 refine Gl.go (A := s₁.setTop (entryFrame m #[(.int (Int32.ofNat off)), (.int (Int32.ofNat cnt)), (.int (Int32.ofNat n2)), G3] 4)) (P := fun o_ U_ => ∃ v_ L_, o_ = .returned v_ ∧ Qcfs Z off cnt n2 G3 h0 n0 v_ U_.heap L_ ∧ FrameEnd s o_ U_ L_ r_m0.cells r_m0.slots) (fun t_ k_ => castTop (ef_cfs m (Int32.ofNat off) (Int32.ofNat cnt) (Int32.ofNat n2) G3 (by assumption)) k_) ?_
 show Gl p.tables e below _ (s₁.setTop (mkF m 0 #[sI (Int32.ofNat off), sI (Int32.ofNat cnt), sI (Int32.ofNat n2), .val G3] []))
 refine Gl.go (fun _ hr => ziloadN X0.here hx (dc d57_0) rfl (ziloadN X0.here hx (dc d57_1) rfl (zior X0.here hx (dc d57_2) rfl (ziloadN X0.here hx (dc d57_3) rfl (zior X0.here hx (dc d57_4) rfl hr))))) ?_
 refine Gl.go (fun _ hr => zifNo X0.here hx (dc d57_5) rfl (XT.i0_lt_f (own_or3 (by omega) (by omega) (by omega))) (ziloadN X0.here hx (dc d57_8) rfl (ziloadN X0.here hx (dc d57_9) rfl (ziloadN X0.here hx (dc d57_10) rfl (zisub X0.here hx (dc d57_11) rfl hr))))) ?_
 show Gl p.tables e below _ (s₁.setTop (mkF m 12 #[sI (Int32.ofNat off), sI (Int32.ofNat cnt), sI (Int32.ofNat n2), .val G3] [(.int ((Int32.ofNat n2) - (Int32.ofNat off))), (.int (Int32.ofNat cnt))]))
 rw [(own_sub32 (by omega))]
 show Gl p.tables e below _ (s₁.setTop (mkF m 12 #[sI (Int32.ofNat off), sI (Int32.ofNat cnt), sI (Int32.ofNat n2), .val G3] [(.int (Int32.ofNat (n2 - off))), (.int (Int32.ofNat cnt))]))
 refine Gl.go (fun _ hr => zicmpYes X0.here hx (pc0 := 12) (pc' := 23) rfl (dc d57_12) rfl (XT.ii_le_t (own_nlt32 (by omega) (by omega) (by omega))) (by decide) (by decide) (ziloadN X0.here hx (dc d57_23) rfl hr)) ?_
 obtain ⟨fs, hr, hrun, hended, hW, hsame⟩ := X0.leave (v := some (.int (Int32.ofNat off))) (fun h => by rw [Bd.returns] at h; cases h)
 refine ⟨_, _, retOut X0 hx Bd.returns rfl (Or.inl ⟨rfl, Or.inl rfl, _, rfl⟩) (dc d57_24) hr, hrun, hended, _, _, rfl, ?_, ⟨⟨_, rfl⟩, hW, hsame.mono (by decide) (by decide)⟩⟩
 show Qcfs Z off cnt n2 G3 h0 n0 _ s₁.heap _
 rw [e0]
 exact ⟨rfl, N0, rfl⟩
def Qsbo (Z : State) (off : Nat) (cnt : Nat) (n2 : Nat) (G3 : Value) (h0 : Heap) (n0 : Nat) (v : Option Value) (h : Heap) (L : List Loc) : Prop := v = some (.int (Int32.ofNat off)) ∧ Fr n0 L ∧ h = h0
theorem ef_sbo (m : MethodId) (x0 : Int32) (x1 : Int32) (x2 : Int32) : entryFrame m #[(.int x0), (.int x1), (.int x2)] 3 = mkF m 0 #[sI x0, sI x1, sI x2] [] := by first | (simp [entryFrame, mkF, argsToLocals, Value.category]; done) | rfl
abbrev K56 (i : Nat) := decode jdk_42_method_157_code i
theorem d56_0 : K56 0 = .ok (.iload_n 0, 1) := by decide +kernel
theorem d56_1 : K56 1 = .ok (.iload_n 1, 1) := by decide +kernel
theorem d56_2 : K56 2 = .ok (.iload_n 2, 1) := by decide +kernel
theorem d56_3 : K56 3 = .ok (.getstatic 1053, 3) := by decide +kernel
theorem d56_6 : K56 6 = .ok (.invokestatic 1065, 3) := by decide +kernel
theorem pd_9 : parseMethodDescriptor "(IIILjava/util/function/BiFunction;)I" = some ⟨[.int, .int, .int, (.object "java/util/function/BiFunction")], some .int⟩ := by decide +kernel
theorem d56_9 : K56 9 = .ok (.ireturn, 1) := by decide +kernel
set_option maxRecDepth 65536 in
set_option maxHeartbeats 40000000 in
theorem sbo (l : Launch) (Z : State) (a0 : Array Value) (hw : ∀ d ∈ tables_1, d.before a0 Z = true) (ws : List Jvm.Cond) (off : Nat) (cnt : Nat) (n2 : Nat) (G3 : Value) (h0 : Heap) (n0 : Nat) (Z0 : n0 ≤ h0.size) (q0 : OZ Z h0 n0) (q1 : SFm Z G3) (rG3 : G3.isRef = true) (hob : off + cnt ≤ n2) (hn2 : n2 ≤ 64) :
  MetFree l y_16 (head1 (Jvm.Cond.code y_16 jdk_42_method_157_code 3 (some .int) :: ws) r_m6) (fun a_ U_ => a_ = #[(.int (Int32.ofNat off)), (.int (Int32.ofNat cnt)), (.int (Int32.ofNat n2))] ∧ Z.Warmed39 U_.vm ∧ U_.heap = h0) (fun _ _ _ _ _ => True) (fun _ U_ o_ V_ => ∃ v_ L_, o_ = .returned v_ ∧ Qsbo Z off cnt n2 G3 h0 n0 v_ V_.heap L_ ∧ FrameEnd U_ o_ V_ L_ r_m6.cells r_m6.slots) := by
 refine MetFree.of_bodySF (plainFor_of_name pn_1) hisR ?_
 intro p e s m args below meth c s₁ Bd aj hP hK
 obtain ⟨rfl, hZ, hh⟩ := hP
 have hx := Bd.exec
 have dc := @hb _ _ Bd.bytes
 have hml : c.maxLocals = 3 := aj
 have hown : s.vm.findClass "java/lang/String" = some m.cls := findClass_of_methodNamed Bd.named
 have hnm := (name_of_methodNamed Bd.named Bd.method).1
 have X0 : Stand p l e r_m6 s m #[(.int (Int32.ofNat off)), (.int (Int32.ofNat cnt)), (.int (Int32.ofNat n2))] below meth c s₁ [] 0 0 := Stand.of_body Bd
 have e0 : s₁.heap = h0 := by rw [← hh, Bd.state]; rfl
 have N0 := Fr.nil n0
 have Oo := q0.1
 have zo := q0.2
 refine Gl.go (A := s₁.setTop (entryFrame m #[(.int (Int32.ofNat off)), (.int (Int32.ofNat cnt)), (.int (Int32.ofNat n2))] 3)) (P := fun o_ U_ => ∃ v_ L_, o_ = .returned v_ ∧ Qsbo Z off cnt n2 G3 h0 n0 v_ U_.heap L_ ∧ FrameEnd s o_ U_ L_ r_m6.cells r_m6.slots) (fun t_ k_ => castTop (ef_sbo m (Int32.ofNat off) (Int32.ofNat cnt) (Int32.ofNat n2)) k_) ?_
 show Gl p.tables e below _ (s₁.setTop (mkF m 0 #[sI (Int32.ofNat off), sI (Int32.ofNat cnt), sI (Int32.ofNat n2)] []))
 refine Gl.go (fun _ hr => ziloadN X0.here hx (dc d56_0) rfl (ziloadN X0.here hx (dc d56_1) rfl (ziloadN X0.here hx (dc d56_2) rfl hr))) ?_
 refine gGetS (host := "") Gl.cl X0 hx hZ hown (Or.inl (tw hw 214 rfl)) Via.refl e0 (q1.ext Oo.2) rfl (dc d56_3) ?_
 intro am af ag
 have ak : n0 ≤ h0.size := by omega
 refine gStaticN Gl.cl (y := y_15) (argsL := [(.int (Int32.ofNat off)), (.int (Int32.ofNat cnt)), (.int (Int32.ofNat n2)), G3]) (rest := []) (mc := 0) (ms := 0) af hx hZ hown (mvT hZ (tw hw 270 rfl)) (mvT hZ (tw hw 271 rfl)) (mvT hZ (tw hw 215 rfl)) (mvT hZ (tw hw 272 rfl)) (by decide) (backOf (W := 0) (cfs l Z a0 hw [] off cnt n2 G3 h0 n0 ak (by assumption) (by assumption) (by assumption)) hZ (tw hw 272 rfl) (tw hw 215 rfl) (by decide) (by decide)) rfl (by rw [hml]; rfl) (lenOf pd_9 rfl) rfl (by exact Nat.le_of_eq rfl) (dc d56_6) rfl ag (by decide) (by decide) ?_
 intro ao ae al ai aa
 obtain ⟨rfl, ac, ah⟩ := ai
 have ab := Fr.app N0 ac
 obtain ⟨fs, hr, hrun, hended, hW, hsame⟩ := aa.leave (v := some (.int (Int32.ofNat off))) (fun h => by rw [Bd.returns] at h; cases h)
 refine ⟨_, _, retOut aa hx Bd.returns rfl (Or.inl ⟨rfl, Or.inl rfl, _, rfl⟩) (dc d56_9) hr, hrun, hended, _, _, rfl, ?_, ⟨⟨_, rfl⟩, hW, hsame.mono (by decide) (by decide)⟩⟩
 show Qsbo Z off cnt n2 G3 h0 n0 _ ae.heap _
 rw [ah]
 exact ⟨rfl, ab, rfl⟩
def Qubo (Z : State) (off : Nat) (cnt : Nat) (n2 : Nat) (a : Addr) (ka : ClassId) (vs : List Value) (G3 : Value) (h0 : Heap) (n0 : Nat) (v : Option Value) (h : Heap) (L : List Loc) : Prop := v = none ∧ Fr n0 L ∧ h = h0
theorem ef_ubo (m : MethodId) (x0 : Int32) (x1 : Int32) (x2 : Addr) : entryFrame m #[(.int x0), (.int x1), (.ref x2)] 3 = mkF m 0 #[sI x0, sI x1, sR x2] [] := by first | (simp [entryFrame, mkF, argsToLocals, Value.category]; done) | rfl
abbrev K54 (i : Nat) := decode jdk_52_method_94_code i
theorem d54_0 : K54 0 = .ok (.iload_n 0, 1) := by decide +kernel
theorem d54_1 : K54 1 = .ok (.iload_n 1, 1) := by decide +kernel
theorem d54_2 : K54 2 = .ok (.aload_n 2, 1) := by decide +kernel
theorem d54_3 : K54 3 = .ok (.invokestatic 48, 3) := by decide +kernel
theorem pd_10 : parseMethodDescriptor "([B)I" = some ⟨[(.array .byte)], some .int⟩ := by decide +kernel
theorem d54_6 : K54 6 = .ok (.invokestatic 419, 3) := by decide +kernel
theorem pd_11 : parseMethodDescriptor "(III)I" = some ⟨[.int, .int, .int], some .int⟩ := by decide +kernel
theorem d54_9 : K54 9 = .ok (.pop, 1) := by decide +kernel
theorem d54_10 : K54 10 = .ok (.return_, 1) := by decide +kernel
set_option maxRecDepth 65536 in
set_option maxHeartbeats 40000000 in
theorem ubo (l : Launch) (Z : State) (a0 : Array Value) (hw : ∀ d ∈ tables_1, d.before a0 Z = true) (ws : List Jvm.Cond) (off : Nat) (cnt : Nat) (n2 : Nat) (a : Addr) (ka : ClassId) (vs : List Value) (G3 : Value) (h0 : Heap) (n0 : Nat) (Z0 : n0 ≤ h0.size) (q0 : OZ Z h0 n0) (q1 : SFm Z G3) (rG3 : G3.isRef = true) (q3 : Arv Z h0 a ka .byte (Int32.ofNat (2 * n2)) vs (.int (0 : Int32))) (hob : off + cnt ≤ n2) (hn2 : n2 ≤ 64) :
  MetFree l y_17 (head1 (Jvm.Cond.code y_17 jdk_52_method_94_code 3 none :: ws) r_m7) (fun a_ U_ => a_ = #[(.int (Int32.ofNat off)), (.int (Int32.ofNat cnt)), (.ref a)] ∧ Z.Warmed39 U_.vm ∧ U_.heap = h0) (fun _ _ _ _ _ => True) (fun _ U_ o_ V_ => ∃ v_ L_, o_ = .returned v_ ∧ Qubo Z off cnt n2 a ka vs G3 h0 n0 v_ V_.heap L_ ∧ FrameEnd U_ o_ V_ L_ r_m7.cells r_m7.slots) := by
 refine MetFree.of_bodySF (plainFor_of_name pn_0) hisR ?_
 intro p e s m args below meth c s₁ Bd am hP hK
 obtain ⟨rfl, hZ, hh⟩ := hP
 have hx := Bd.exec
 have dc := @hb _ _ Bd.bytes
 have hml : c.maxLocals = 3 := am
 have hown : s.vm.findClass "java/lang/StringUTF16" = some m.cls := findClass_of_methodNamed Bd.named
 have hnm := (name_of_methodNamed Bd.named Bd.method).1
 have X0 : Stand p l e r_m7 s m #[(.int (Int32.ofNat off)), (.int (Int32.ofNat cnt)), (.ref a)] below meth c s₁ [] 0 0 := Stand.of_body Bd
 have e0 : s₁.heap = h0 := by rw [← hh, Bd.state]; rfl
 have N0 := Fr.nil n0
 have Oo := q0.1
 have zo := q0.2
 have av := own_alt q3.lt
 refine Gl.go (A := s₁.setTop (entryFrame m #[(.int (Int32.ofNat off)), (.int (Int32.ofNat cnt)), (.ref a)] 3)) (P := fun o_ U_ => ∃ v_ L_, o_ = .returned v_ ∧ Qubo Z off cnt n2 a ka vs G3 h0 n0 v_ U_.heap L_ ∧ FrameEnd s o_ U_ L_ r_m7.cells r_m7.slots) (fun t_ k_ => castTop (ef_ubo m (Int32.ofNat off) (Int32.ofNat cnt) a) k_) ?_
 show Gl p.tables e below _ (s₁.setTop (mkF m 0 #[sI (Int32.ofNat off), sI (Int32.ofNat cnt), sR a] []))
 refine Gl.go (fun _ hr => ziloadN X0.here hx (dc d54_0) rfl (ziloadN X0.here hx (dc d54_1) rfl (zaloadN X0.here hx (dc d54_2) rfl rfl hr))) ?_
 have ao : n0 ≤ h0.size := by omega
 refine gStaticN Gl.cl (y := y_14) (argsL := [(.ref a)]) (rest := [(.int (Int32.ofNat cnt)), (.int (Int32.ofNat off))]) (mc := 0) (ms := 0) X0 hx hZ hown (mvT hZ (tw hw 264 rfl)) (mvT hZ (tw hw 265 rfl)) (mvT hZ (tw hw 221 rfl)) (mvT hZ (tw hw 266 rfl)) (by decide) (backOf (W := 2) (u16l l Z a0 hw [] a ka n2 vs h0 n0 ao q3 (by omega)) hZ (tw hw 266 rfl) (tw hw 221 rfl) (by decide) (by decide)) rfl (by rw [hml]; rfl) (lenOf pd_10 rfl) rfl (by exact Nat.le_of_eq rfl) (dc d54_3) rfl e0 (by decide) (by decide) ?_
 intro aw au aq ak ah
 obtain ⟨rfl, ae, ai⟩ := ak
 have ab := Fr.app N0 ae
 have ap : n0 ≤ h0.size := by omega
 refine gStaticN Gl.cl (y := y_16) (argsL := [(.int (Int32.ofNat off)), (.int (Int32.ofNat cnt)), (.int (Int32.ofNat n2))]) (rest := []) (mc := 0) (ms := 0) ah hx hZ hown (mvT hZ (tw hw 267 rfl)) (mvT hZ (tw hw 268 rfl)) (mvT hZ (tw hw 7 rfl)) (mvT hZ (tw hw 269 rfl)) (by decide) (backOf (W := 0) (sbo l Z a0 hw [] off cnt n2 G3 h0 n0 ap ⟨Oo, (by omega)⟩ q1 (by assumption) (by assumption) (by assumption)) hZ (tw hw 269 rfl) (tw hw 7 rfl) (by decide) (by decide)) rfl (by rw [hml]; rfl) (lenOf pd_11 rfl) rfl (by exact Nat.le_of_eq rfl) (dc d54_6) rfl ai (by decide) (by decide) ?_
 intro ax ag ar al aa
 obtain ⟨rfl, af, aj⟩ := al
 have ac := Fr.app ab af
 refine Gl.go (fun _ hr => zpop aa.here hx (dc d54_9) rfl rfl hr) ?_
 obtain ⟨fs, hr, hrun, hended, hW, hsame⟩ := aa.leave (v := none) (fun _ => rfl)
 refine ⟨_, _, aa.returnOut hx Bd.returns (dc d54_10) hr, hrun, hended, _, _, rfl, ?_, ⟨⟨_, rfl⟩, hW, hsame.mono (by decide) (by decide)⟩⟩
 show Qubo Z off cnt n2 a ka vs G3 h0 n0 _ ag.heap _
 rw [aj]
 exact ⟨rfl, ac, rfl⟩
def Qpcw (Z : State) (a : Addr) (ka : ClassId) (nz : Nat) (xs : List Int32) (ch : Int32) (h0 : Heap) (n0 : Nat) (v : Option Value) (h : Heap) (L : List Loc) : Prop := v = none ∧ Fr n0 L ∧ Keep h0 h [a] ∧ (Arv Z h a ka .byte (Int32.ofNat nz) (StrChars.Road.wideBytes (xs ++ [ch])) (.int (0 : Int32)))
theorem ef_pcw (m : MethodId) (x0 : Addr) (x1 : Int32) (x2 : Int32) : entryFrame m #[(.ref x0), (.int x1), (.int x2)] 3 = mkF m 0 #[sR x0, sI x1, sI x2] [] := by first | (simp [entryFrame, mkF, argsToLocals, Value.category]; done) | rfl
set_option maxRecDepth 65536 in
set_option maxHeartbeats 40000000 in
theorem pcw (l : Launch) (Z : State) (a0 : Array Value) (hw : ∀ d ∈ tables_1, d.before a0 Z = true) (ws : List Jvm.Cond) (a : Addr) (ka : ClassId) (nz : Nat) (xs : List Int32) (ch : Int32) (h0 : Heap) (n0 : Nat) (Z0 : n0 ≤ h0.size) (q0 : OZ Z h0 n0) (q1 : SAd Z) (q2 : SHi Z) (q3 : SLo Z) (q4 : Arv Z h0 a ka .byte (Int32.ofNat nz) (StrChars.Road.wideBytes xs) (.int (0 : Int32))) (q5 : Lq n0 a) (hii : 2 * xs.length + 1 < nz) (hz : nz ≤ 64) :
  MetFree l y_0 (head1 (Jvm.Cond.code y_0 jdk_52_method_4_code 3 none :: ws) r_m0) (fun a_ U_ => a_ = #[(.ref a), (.int (Int32.ofNat xs.length)), (.int ch)] ∧ Z.Warmed39 U_.vm ∧ U_.heap = h0) (fun _ _ _ _ _ => True) (fun _ U_ o_ V_ => ∃ v_ L_, o_ = .returned v_ ∧ Qpcw Z a ka nz xs ch h0 n0 v_ V_.heap L_ ∧ FrameEnd U_ o_ V_ L_ r_m0.cells r_m0.slots) := by
 refine MetFree.of_bodySF (plainFor_of_name pn_0) hisR ?_
 intro p e s m args below meth c s₁ Bd aK hP hK
 obtain ⟨rfl, hZ, hh⟩ := hP
 have hx := Bd.exec
 have dc := @hb _ _ Bd.bytes
 have hml : c.maxLocals = 3 := aK
 have hown : s.vm.findClass "java/lang/StringUTF16" = some m.cls := findClass_of_methodNamed Bd.named
 have hnm := (name_of_methodNamed Bd.named Bd.method).1
 have X0 : Stand p l e r_m0 s m #[(.ref a), (.int (Int32.ofNat xs.length)), (.int ch)] below meth c s₁ [] 0 0 := Stand.of_body Bd
 have e0 : s₁.heap = h0 := by rw [← hh, Bd.state]; rfl
 have N0 := Fr.nil n0
 have Oo := q0.1
 have zo := q0.2
 have aT := own_alt q4.lt
 refine Gl.go (A := s₁.setTop (entryFrame m #[(.ref a), (.int (Int32.ofNat xs.length)), (.int ch)] 3)) (P := fun o_ U_ => ∃ v_ L_, o_ = .returned v_ ∧ Qpcw Z a ka nz xs ch h0 n0 v_ U_.heap L_ ∧ FrameEnd s o_ U_ L_ r_m0.cells r_m0.slots) (fun t_ k_ => castTop (ef_pcw m a (Int32.ofNat xs.length) ch) k_) ?_
 show Gl p.tables e below _ (s₁.setTop (mkF m 0 #[sR a, sI (Int32.ofNat xs.length), sI ch] []))
 have Vp := q4.pad (pad_rep (StrChars.Road.wideBytes xs) (.int (0 : Int32)) 2)
 refine gGetS (host := "") Gl.cl X0 hx hZ hown (Or.inl (tw hw 242 rfl)) Via.refl e0 (q1.ext Oo.2) rfl (dc d49_0) ?_
 intro ae aa aF
 refine Gl.go (fun _ hr => zifYes aa.here hx (pc0 := 3) (pc' := 28) rfl (dc d49_3) rfl (XT.i0_ne_t (by decide)) (by decide) (by decide) (ziloadN aa.here hx (dc d49_28) rfl (ziconst aa.here hx (dc d49_29) (zishl aa.here hx (dc d49_30) rfl hr)))) ?_
 show Gl p.tables e below _ (ae.setTop (mkF m 31 #[sR a, sI (Int32.ofNat xs.length), sI ch] [(.int ((Int32.ofNat xs.length) <<< ((1 : Int32) &&& 31)))]))
 rw [(own_shl1 (i := xs.length) (by omega))]
 show Gl p.tables e below _ (ae.setTop (mkF m 31 #[sR a, sI (Int32.ofNat xs.length), sI ch] [(.int (Int32.ofNat (2 * xs.length)))]))
 refine Gl.go (fun _ hr => zistoreN aa.here hx (dc d49_31) rfl (l' := #[sR a, sI (Int32.ofNat (2 * xs.length)), sI ch]) rfl (zaloadN aa.here hx (dc d49_32) rfl rfl (ziloadN aa.here hx (dc d49_33) rfl (ziinc aa.here hx (dc d49_34) rfl (l' := #[sR a, sI ((Int32.ofNat (2 * xs.length)) + (1 : Int32)), sI ch]) rfl hr)))) ?_
 show Gl p.tables e below _ (ae.setTop (mkF m 37 #[sR a, sI ((Int32.ofNat (2 * xs.length)) + (1 : Int32)), sI ch] [(.int (Int32.ofNat (2 * xs.length))), (.ref a)]))
 rw [(own_nat_succ (2 * xs.length))]
 show Gl p.tables e below _ (ae.setTop (mkF m 37 #[sR a, sI (Int32.ofNat (2 * xs.length + 1)), sI ch] [(.int (Int32.ofNat (2 * xs.length))), (.ref a)]))
 refine Gl.go (fun _ hr => ziloadN aa.here hx (dc d49_37) rfl hr) ?_
 refine gGetS (host := "") Gl.cl aa hx hZ hown (Or.inl (tw hw 243 rfl)) Via.refl aF (q2.ext Oo.2) rfl (dc d49_38) ?_
 intro ak ag aG
 refine Gl.go (fun _ hr => zishr ag.here hx (dc d49_41) rfl (zi2b ag.here hx (dc d49_42) rfl hr)) ?_
 show Gl p.tables e below _ (ak.setTop (mkF m 43 #[sR a, sI (Int32.ofNat (2 * xs.length + 1)), sI ch] [(.int ((ch >>> ((0 : Int32) &&& 31)).toInt8.toInt32)), (.int (Int32.ofNat (2 * xs.length))), (.ref a)]))
 rw [(own_lo ch)]
 show Gl p.tables e below _ (ak.setTop (mkF m 43 #[sR a, sI (Int32.ofNat (2 * xs.length + 1)), sI ch] [(.int (StrChars.lo8 ch)), (.int (Int32.ofNat (2 * xs.length))), (.ref a)]))
 obtain ⟨aR, am, aO, ar, aL, av, aB⟩ := id Vp
 refine gstB Gl.cl ag hx hZ aG am (j := (Int32.ofNat (2 * xs.length))) (inb_of ar ⟨own_nn (by omega), own_lt32 (b := nz) (by omega) (by omega)⟩) rfl rfl (dc d49_43) ?_
 intro aQ aj ac aH ab
 have aU : h0.size ≤ aj.size := (Keep.of_wr ab).1
 rw [(own_narb _)] at ab
 have aD : Arv Z aj a ka .byte (Int32.ofNat nz) ((StrChars.Road.wideBytes xs ++ List.replicate 2 (Value.int (0 : Int32))).set (2 * xs.length) (.int (StrChars.lo8 ch))) (.int (0 : Int32)) := Arv.set am aO ar aL av aB (own_fitb _) ab (2 * xs.length) (own_nat32 (by omega)) (by (try simp only [List.length_set]); rw [List.length_append, wide_len, List.length_replicate]; omega)
 have aq : Lq n0 a := by omega
 have ax := Fr.snoc ac N0 (own_ale aq)
 refine Gl.go (fun _ hr => zaloadN ac.here hx (dc d49_44) rfl rfl (ziloadN ac.here hx (dc d49_45) rfl (ziloadN ac.here hx (dc d49_46) rfl hr))) ?_
 have aN : Lq Z.heap.size a := by omega
 have az := (Oo.wr ab (own_ale aN))
 refine gGetS (host := "") Gl.cl ac hx hZ hown (Or.inl (tw hw 244 rfl)) Via.refl aH (q3.ext az.2) rfl (dc d49_47) ?_
 intro al ah aI
 refine Gl.go (fun _ hr => zishr ah.here hx (dc d49_50) rfl (zi2b ah.here hx (dc d49_51) rfl hr)) ?_
 show Gl p.tables e below _ (al.setTop (mkF m 52 #[sR a, sI (Int32.ofNat (2 * xs.length + 1)), sI ch] [(.int ((ch >>> ((8 : Int32) &&& 31)).toInt8.toInt32)), (.int (Int32.ofNat (2 * xs.length + 1))), (.ref a)]))
 show Gl p.tables e below _ (al.setTop (mkF m 52 #[sR a, sI (Int32.ofNat (2 * xs.length + 1)), sI ch] [(.int (StrChars.hi8 ch)), (.int (Int32.ofNat (2 * xs.length + 1))), (.ref a)]))
 obtain ⟨aS, ao, aP, au, aM, aw, aC⟩ := id aD
 refine gstB Gl.cl ah hx hZ aI ao (j := (Int32.ofNat (2 * xs.length + 1))) (inb_of au ⟨own_nn (by omega), own_lt32 (b := nz) (by omega) (by omega)⟩) rfl rfl (dc d49_52) ?_
 intro aA ap ai aJ af
 have aV : aj.size ≤ ap.size := (Keep.of_wr af).1
 rw [(own_narh _)] at af
 have aE : Arv Z ap a ka .byte (Int32.ofNat nz) (((StrChars.Road.wideBytes xs ++ List.replicate 2 (Value.int (0 : Int32))).set (2 * xs.length) (.int (StrChars.lo8 ch))).set (2 * xs.length + 1) (.int (StrChars.hi8 ch))) (.int (0 : Int32)) := Arv.set ao aP au aM aw aC (own_fith _) af (2 * xs.length + 1) (own_nat32 (by omega)) (by (try simp only [List.length_set]); rw [List.length_append, wide_len, List.length_replicate]; omega)
 have ay := Fr.snoc ai ax (own_ale aq)
 obtain ⟨fs, hr, hrun, hended, hW, hsame⟩ := ai.leave (v := none) (fun _ => rfl)
 refine ⟨_, _, ai.returnOut hx Bd.returns (dc d49_53) hr, hrun, hended, _, _, rfl, ?_, ⟨⟨_, rfl⟩, hW, hsame.mono (by decide) (by decide)⟩⟩
 show Qpcw Z a ka nz xs ch h0 n0 _ aA.heap _
 rw [aJ]
 exact ⟨rfl, ay, (((Keep.refl h0 [a]).wr ab (Or.inl (by simp))).wr af (Or.inl (by simp))), (by have q := aE; rw [own_wset rfl] at q; exact q)⟩
def Qufl (Z : State) (src : Addr) (ks : ClassId) (nz : Nat) (ds : List Int32) (a : Addr) (ka : ClassId) (cap : Nat) (cs : List Int32) (G3 : Value) (h0 : Heap) (n0 : Nat) (v : Option Value) (h : Heap) (L : List Loc) : Prop := v = none ∧ Fr n0 L ∧ Keep h0 h [a] ∧ (Arv Z h a ka .byte (Int32.ofNat (2 * cap)) (StrChars.Road.wideBytes (cs ++ ds)) (.int (0 : Int32)))
theorem ef_ufl (m : MethodId) (x0 : Addr) (x1 : Int32) (x2 : Addr) (x3 : Int32) (x4 : Int32) : entryFrame m #[(.ref x0), (.int x1), (.ref x2), (.int x3), (.int x4)] 6 = mkF m 0 #[sR x0, sI x1, sR x2, sI x3, sI x4, sU] [] := by first | (simp [entryFrame, mkF, argsToLocals, Value.category]; done) | rfl
abbrev K53 (i : Nat) := decode jdk_52_method_86_code i
theorem d53_10 : K53 10 = .ok (.iload 5, 2) := by decide +kernel
theorem d53_12 : K53 12 = .ok (.iload 4, 2) := by decide +kernel
theorem d53_14 : K53 14 = .ok (.if_icmp .ge 27, 3) := by decide +kernel
theorem d53_41 : K53 41 = .ok (.return_, 1) := by decide +kernel
theorem d53_17 : K53 17 = .ok (.aload_n 2, 1) := by decide +kernel
theorem d53_18 : K53 18 = .ok (.iload_n 3, 1) := by decide +kernel
theorem d53_19 : K53 19 = .ok (.iinc 3 1, 3) := by decide +kernel
theorem d53_22 : K53 22 = .ok (.aload_n 0, 1) := by decide +kernel
theorem d53_23 : K53 23 = .ok (.iload_n 1, 1) := by decide +kernel
theorem d53_24 : K53 24 = .ok (.iinc 1 1, 3) := by decide +kernel
theorem d53_27 : K53 27 = .ok (.baload, 1) := by decide +kernel
theorem d53_28 : K53 28 = .ok (.sipush 255, 3) := by decide +kernel
theorem d53_31 : K53 31 = .ok (.iand, 1) := by decide +kernel
theorem d53_32 : K53 32 = .ok (.invokestatic 111, 3) := by decide +kernel
theorem d53_35 : K53 35 = .ok (.iinc 5 1, 3) := by decide +kernel
theorem d53_38 : K53 38 = .ok (.goto (-28), 3) := by decide +kernel
theorem d53_0 : K53 0 = .ok (.iload_n 3, 1) := by decide +kernel
theorem d53_1 : K53 1 = .ok (.iload 4, 2) := by decide +kernel
theorem d53_3 : K53 3 = .ok (.aload_n 2, 1) := by decide +kernel
theorem d53_4 : K53 4 = .ok (.invokestatic 173, 3) := by decide +kernel
theorem pd_12 : parseMethodDescriptor "(II[B)V" = some ⟨[.int, .int, (.array .byte)], none⟩ := by decide +kernel
theorem d53_7 : K53 7 = .ok (.iconst 0, 1) := by decide +kernel
theorem d53_8 : K53 8 = .ok (.istore 5, 2) := by decide +kernel
set_option maxRecDepth 65536 in
set_option maxHeartbeats 40000000 in
theorem ufl (l : Launch) (Z : State) (a0 : Array Value) (hw : ∀ d ∈ tables_1, d.before a0 Z = true) (ws : List Jvm.Cond) (src : Addr) (ks : ClassId) (nz : Nat) (ds : List Int32) (a : Addr) (ka : ClassId) (cap : Nat) (cs : List Int32) (G3 : Value) (h0 : Heap) (n0 : Nat) (Z0 : n0 ≤ h0.size) (q0 : OZ Z h0 n0) (q1 : SFm Z G3) (rG3 : G3.isRef = true) (q3 : SAd Z) (q4 : SHi Z) (q5 : SLo Z) (q6 : Arv Z h0 src ks .byte (Int32.ofNat nz) (lb ds) (.int (0 : Int32))) (q7 : Arv Z h0 a ka .byte (Int32.ofNat (2 * cap)) (StrChars.Road.wideBytes cs) (.int (0 : Int32))) (q8 : Lq n0 a) (q9 : Nq a src) (hld : ∀ c ∈ ds, Lat c) (hfit : cs.length + ds.length ≤ cap) (hcap : cap ≤ 18) (hnz : ds.length ≤ nz) (hnz2 : nz ≤ 40) :
  MetFree l y_18 (head1 (Jvm.Cond.code y_18 jdk_52_method_86_code 6 none :: ws) r_m8) (fun a_ U_ => a_ = #[(.ref src), (.int (0 : Int32)), (.ref a), (.int (Int32.ofNat cs.length)), (.int (Int32.ofNat ds.length))] ∧ Z.Warmed39 U_.vm ∧ U_.heap = h0) (fun _ _ _ _ _ => True) (fun _ U_ o_ V_ => ∃ v_ L_, o_ = .returned v_ ∧ Qufl Z src ks nz ds a ka cap cs G3 h0 n0 v_ V_.heap L_ ∧ FrameEnd U_ o_ V_ L_ r_m8.cells r_m8.slots) := by
 refine MetFree.of_bodySF (plainFor_of_name pn_0) hisR ?_
 intro p e s m args below meth c s₁ Bd ax hP hK
 obtain ⟨rfl, hZ, hh⟩ := hP
 have hx := Bd.exec
 have dc := @hb _ _ Bd.bytes
 have hml : c.maxLocals = 6 := ax
 have hown : s.vm.findClass "java/lang/StringUTF16" = some m.cls := findClass_of_methodNamed Bd.named
 have hnm := (name_of_methodNamed Bd.named Bd.method).1
 have X0 : Stand p l e r_m8 s m #[(.ref src), (.int (0 : Int32)), (.ref a), (.int (Int32.ofNat cs.length)), (.int (Int32.ofNat ds.length))] below meth c s₁ [] 0 0 := Stand.of_body Bd
 have e0 : s₁.heap = h0 := by rw [← hh, Bd.state]; rfl
 have N0 := Fr.nil n0
 have Oo := q0.1
 have zo := q0.2
 have aH := own_alt q6.lt
 have aI := own_alt q7.lt
 refine Gl.go (A := s₁.setTop (entryFrame m #[(.ref src), (.int (0 : Int32)), (.ref a), (.int (Int32.ofNat cs.length)), (.int (Int32.ofNat ds.length))] 6)) (P := fun o_ U_ => ∃ v_ L_, o_ = .returned v_ ∧ Qufl Z src ks nz ds a ka cap cs G3 h0 n0 v_ U_.heap L_ ∧ FrameEnd s o_ U_ L_ r_m8.cells r_m8.slots) (fun t_ k_ => castTop (ef_ufl m src (0 : Int32) a (Int32.ofNat cs.length) (Int32.ofNat ds.length)) k_) ?_
 show Gl p.tables e below _ (s₁.setTop (mkF m 0 #[sR src, sI 0, sR a, sI (Int32.ofNat cs.length), sI (Int32.ofNat ds.length), sU] []))
 have lp : ∀ (r_ : Nat) (T : State) (hc : Heap) (lc : List Loc) (k : Nat), Fr n0 lc → Stand p l e r_m8 s m #[(.ref src), (.int (0 : Int32)), (.ref a), (.int (Int32.ofNat cs.length)), (.int (Int32.ofNat ds.length))] below meth c T lc 0 0 → T.heap = hc → Keep h0 hc [a] → Arv Z hc a ka .byte (Int32.ofNat (2 * cap)) (StrChars.Road.wideBytes (cs ++ ds.take k)) (.int (0 : Int32)) → (k + r_ = ds.length) → Gl p.tables e below (fun o_ U_ => ∃ v_ L_, o_ = .returned v_ ∧ Qufl Z src ks nz ds a ka cap cs G3 h0 n0 v_ U_.heap L_ ∧ FrameEnd s o_ U_ L_ r_m8.cells r_m8.slots) (T.setTop (mkF m 10 #[sR src, sI (Int32.ofNat k), sR a, sI (Int32.ofNat (cs.length + k)), sI (Int32.ofNat ds.length), sI (Int32.ofNat k)] [])) := by
  intro r_
  induction r_ with
  | zero =>
   intro T hc lc k Nc Xc ec Kc ab hkr
   have zc : h0.size ≤ hc.size := Kc.1
   have aJ := own_alt ab.lt
   have hkn : ds.length ≤ k := by omega
   show Gl p.tables e below _ (T.setTop (mkF m 10 #[sR src, sI (Int32.ofNat k), sR a, sI (Int32.ofNat (cs.length + k)), sI (Int32.ofNat ds.length), sI (Int32.ofNat k)] []))
   refine Gl.go (fun _ hr => ziload Xc.here hx (dc d53_10) rfl (ziload Xc.here hx (dc d53_12) rfl hr)) ?_
   refine Gl.go (fun _ hr => zicmpYes Xc.here hx (pc0 := 14) (pc' := 41) rfl (dc d53_14) rfl (XT.ii_ge_t (own_nlt32 (by omega) (by omega) hkn)) (by decide) (by decide) hr) ?_
   obtain ⟨fs, hr, hrun, hended, hW, hsame⟩ := Xc.leave (v := none) (fun _ => rfl)
   refine ⟨_, _, Xc.returnOut hx Bd.returns (dc d53_41) hr, hrun, hended, _, _, rfl, ?_, ⟨⟨_, rfl⟩, hW, hsame.mono (by decide) (by decide)⟩⟩
   show Qufl Z src ks nz ds a ka cap cs G3 h0 n0 _ T.heap _
   rw [ec]
   exact ⟨rfl, Nc, ((Keep.refl h0 [a]).trans Kc (allS (P := fun x_ => x_ ∈ ([a] : List Addr) ∨ h0.size ≤ x_) (Or.inl (by simp)) all0)), (by have q := ab; rw [List.take_of_length_le hkn] at q; exact q)⟩
  | succ r_ ih =>
   intro T hc lc k Nc Xc ec Kc ab hkr
   have zc : h0.size ≤ hc.size := Kc.1
   have aK := own_alt ab.lt
   have hkn : k < ds.length := by omega
   have hkl : (cs ++ ds.take k).length = cs.length + k := by rw [List.length_append, List.length_take, Nat.min_eq_left (by omega)]
   show Gl p.tables e below _ (T.setTop (mkF m 10 #[sR src, sI (Int32.ofNat k), sR a, sI (Int32.ofNat (cs.length + k)), sI (Int32.ofNat ds.length), sI (Int32.ofNat k)] []))
   refine Gl.go (fun _ hr => ziload Xc.here hx (dc d53_10) rfl (ziload Xc.here hx (dc d53_12) rfl hr)) ?_
   refine Gl.go (fun _ hr => zicmpNo Xc.here hx (dc d53_14) rfl (XT.ii_ge_f (own_lt32 (by omega) hkn)) (zaloadN Xc.here hx (dc d53_17) rfl rfl (ziloadN Xc.here hx (dc d53_18) rfl (ziinc Xc.here hx (dc d53_19) rfl (l' := #[sR src, sI (Int32.ofNat k), sR a, sI ((Int32.ofNat (cs.length + k)) + (1 : Int32)), sI (Int32.ofNat ds.length), sI (Int32.ofNat k)]) rfl hr)))) ?_
   show Gl p.tables e below _ (T.setTop (mkF m 22 #[sR src, sI (Int32.ofNat k), sR a, sI ((Int32.ofNat (cs.length + k)) + (1 : Int32)), sI (Int32.ofNat ds.length), sI (Int32.ofNat k)] [(.int (Int32.ofNat (cs.length + k))), (.ref a)]))
   rw [(own_nat_succ (cs.length + k))]
   show Gl p.tables e below _ (T.setTop (mkF m 22 #[sR src, sI (Int32.ofNat k), sR a, sI (Int32.ofNat (cs.length + k + 1)), sI (Int32.ofNat ds.length), sI (Int32.ofNat k)] [(.int (Int32.ofNat (cs.length + k))), (.ref a)]))
   refine Gl.go (fun _ hr => zaloadN Xc.here hx (dc d53_22) rfl rfl (ziloadN Xc.here hx (dc d53_23) rfl (ziinc Xc.here hx (dc d53_24) rfl (l' := #[sR src, sI ((Int32.ofNat k) + (1 : Int32)), sR a, sI (Int32.ofNat (cs.length + k + 1)), sI (Int32.ofNat ds.length), sI (Int32.ofNat k)]) rfl hr))) ?_
   show Gl p.tables e below _ (T.setTop (mkF m 27 #[sR src, sI ((Int32.ofNat k) + (1 : Int32)), sR a, sI (Int32.ofNat (cs.length + k + 1)), sI (Int32.ofNat ds.length), sI (Int32.ofNat k)] [(.int (Int32.ofNat k)), (.ref src), (.int (Int32.ofNat (cs.length + k))), (.ref a)]))
   rw [(own_nat_succ k)]
   show Gl p.tables e below _ (T.setTop (mkF m 27 #[sR src, sI (Int32.ofNat (k + 1)), sR a, sI (Int32.ofNat (cs.length + k + 1)), sI (Int32.ofNat ds.length), sI (Int32.ofNat k)] [(.int (Int32.ofNat k)), (.ref src), (.int (Int32.ofNat (cs.length + k))), (.ref a)]))
   have ay : Nq src a := by omega
   have aq := (q6.keep Kc (ninS (own_ane ay) nin0))
   obtain ⟨aG, ar, aN, aA, aM, ai, aF⟩ := id aq
   have ah := inb_of aA (j := (Int32.ofNat k)) ⟨own_nn (by omega), own_lt32 (b := nz) (by omega) (by omega)⟩
   refine g_baload Gl.cl Xc hx hZ ec ar ah (v := (.int (StrChars.lo8 (ds.getD k 0)))) (ai.at ah (by rw [own_nat32 (by omega)]; exact own_lbat _ ds k hkn)) rfl rfl (dc d53_27) ?_
   refine Gl.go (fun _ hr => zsipush Xc.here hx (dc d53_28) (ziand Xc.here hx (dc d53_31) rfl hr)) ?_
   show Gl p.tables e below _ (T.setTop (mkF m 32 #[sR src, sI (Int32.ofNat (k + 1)), sR a, sI (Int32.ofNat (cs.length + k + 1)), sI (Int32.ofNat ds.length), sI (Int32.ofNat k)] [(.int ((StrChars.lo8 (ds.getD k 0)) &&& (255 : Int32))), (.int (Int32.ofNat (cs.length + k))), (.ref a)]))
   rw [(own_chr8 (hld _ (own_getD_mem hkn)))]
   show Gl p.tables e below _ (T.setTop (mkF m 32 #[sR src, sI (Int32.ofNat (k + 1)), sR a, sI (Int32.ofNat (cs.length + k + 1)), sI (Int32.ofNat ds.length), sI (Int32.ofNat k)] [(.int (ds.getD k 0)), (.int (Int32.ofNat (cs.length + k))), (.ref a)]))
   rw [(congrArg Int32.ofNat hkl.symm)]
   show Gl p.tables e below _ (T.setTop (mkF m 32 #[sR src, sI (Int32.ofNat (k + 1)), sR a, sI (Int32.ofNat (cs.length + k + 1)), sI (Int32.ofNat ds.length), sI (Int32.ofNat k)] [(.int (ds.getD k 0)), (.int (Int32.ofNat (cs ++ ds.take k).length)), (.ref a)]))
   have az : Lq Z.heap.size a := by omega
   have ao := (Oo.keep Kc (allS (own_ale az) all0))
   have aB : n0 ≤ hc.size := by omega
   refine gStaticN Gl.cl (y := y_0) (argsL := [(.ref a), (.int (Int32.ofNat (cs ++ ds.take k).length)), (.int (ds.getD k 0))]) (rest := []) (mc := 0) (ms := 0) Xc hx hZ hown (mvT hZ (tw hw 239 rfl)) (mvT hZ (tw hw 240 rfl)) (mvT hZ (tw hw 221 rfl)) (mvT hZ (tw hw 241 rfl)) (by decide) (backOf (W := 0) (pcw l Z a0 hw [] a ka (2 * cap) (cs ++ ds.take k) (ds.getD k 0) hc n0 aB ⟨ao, (by omega)⟩ q3 q4 q5 ab (by omega) (by omega) (by omega)) hZ (tw hw 241 rfl) (tw hw 221 rfl) (by decide) (by decide)) rfl (by rw [hml]; rfl) (lenOf pd_2 rfl) rfl (by exact Nat.le_of_eq rfl) (dc d53_32) rfl ec (by decide) (by decide) ?_
   intro aO aa aD av ac
   obtain ⟨rfl, al, af, ag⟩ := av
   have aQ : hc.size ≤ aa.heap.size := af.1
   have aj := Fr.app Nc al
   have aL := own_alt ag.lt
   refine Gl.go (fun _ hr => ziinc ac.here hx (dc d53_35) rfl (l' := #[sR src, sI (Int32.ofNat (k + 1)), sR a, sI (Int32.ofNat (cs.length + k + 1)), sI (Int32.ofNat ds.length), sI ((Int32.ofNat k) + (1 : Int32))]) rfl (zgoto ac.here hx (pc0 := 38) (pc' := 10) rfl (dc d53_38) (by decide) (by decide) hr)) ?_
   show Gl p.tables e below _ (aa.setTop (mkF m 10 #[sR src, sI (Int32.ofNat (k + 1)), sR a, sI (Int32.ofNat (cs.length + k + 1)), sI (Int32.ofNat ds.length), sI ((Int32.ofNat k) + (1 : Int32))] []))
   rw [(own_nat_succ k)]
   show Gl p.tables e below _ (aa.setTop (mkF m 10 #[sR src, sI (Int32.ofNat (k + 1)), sR a, sI (Int32.ofNat (cs.length + k + 1)), sI (Int32.ofNat ds.length), sI (Int32.ofNat (k + 1))] []))
   exact ih aa aa.heap _ (k + 1) aj (ac.more (by decide) (by decide)) (rfl : aa.heap = aa.heap) (((Keep.refl h0 [a]).trans Kc (allS (P := fun x_ => x_ ∈ ([a] : List Addr) ∨ h0.size ≤ x_) (Or.inl (by simp)) all0)).trans af (allS (P := fun x_ => x_ ∈ ([a] : List Addr) ∨ h0.size ≤ x_) (Or.inl (by simp)) all0)) (by have q := ag; rw [List.append_assoc, own_takeS ds k hkn] at q; exact q) (by omega)
 refine Gl.go (fun _ hr => ziloadN X0.here hx (dc d53_0) rfl (ziload X0.here hx (dc d53_1) rfl (zaloadN X0.here hx (dc d53_3) rfl rfl hr))) ?_
 have aC : n0 ≤ h0.size := by omega
 refine gStaticN Gl.cl (y := y_17) (argsL := [(.int (Int32.ofNat cs.length)), (.int (Int32.ofNat ds.length)), (.ref a)]) (rest := []) (mc := 0) (ms := 0) X0 hx hZ hown (mvT hZ (tw hw 261 rfl)) (mvT hZ (tw hw 262 rfl)) (mvT hZ (tw hw 221 rfl)) (mvT hZ (tw hw 263 rfl)) (by decide) (backOf (W := 0) (ubo l Z a0 hw [] cs.length ds.length cap a ka (StrChars.Road.wideBytes cs) G3 h0 n0 aC ⟨Oo, (by omega)⟩ q1 (by assumption) q7 hfit (by omega)) hZ (tw hw 263 rfl) (tw hw 221 rfl) (by decide) (by decide)) rfl (by rw [hml]; rfl) (lenOf pd_12 rfl) rfl (by exact Nat.le_of_eq rfl) (dc d53_4) rfl e0 (by decide) (by decide) ?_
 intro aP ap aE aw ae
 obtain ⟨rfl, am, au⟩ := aw
 have ak := Fr.app N0 am
 refine Gl.go (fun _ hr => ziconst ae.here hx (dc d53_7) (zistore ae.here hx (dc d53_8) rfl (l' := #[sR src, sI 0, sR a, sI (Int32.ofNat cs.length), sI (Int32.ofNat ds.length), sI 0]) rfl hr)) ?_
 exact lp ds.length ap h0 _ 0 ak (ae.more (by decide) (by decide)) au (Keep.refl h0 [a]) (by rw [List.take_zero, List.append_nil]; exact q7) (by omega)
def Qlif (Z : State) (src : Addr) (ks : ClassId) (nz : Nat) (ds : List Int32) (a : Addr) (ka : ClassId) (cap : Nat) (cs : List Int32) (G3 : Value) (h0 : Heap) (n0 : Nat) (v : Option Value) (h : Heap) (L : List Loc) : Prop := v = none ∧ Fr n0 L ∧ Keep h0 h [a] ∧ (Arv Z h a ka .byte (Int32.ofNat (2 * cap)) (StrChars.Road.wideBytes (cs ++ ds)) (.int (0 : Int32)))
theorem pn_4 : plainName "java/lang/StringLatin1" = true := by first | (simp [plainName, overriddenIn]; done) | decide +kernel
theorem ef_lif (m : MethodId) (x0 : Addr) (x1 : Int32) (x2 : Addr) (x3 : Int32) (x4 : Int32) : entryFrame m #[(.ref x0), (.int x1), (.ref x2), (.int x3), (.int x4)] 5 = mkF m 0 #[sR x0, sI x1, sR x2, sI x3, sI x4] [] := by first | (simp [entryFrame, mkF, argsToLocals, Value.category]; done) | rfl
abbrev K52 (i : Nat) := decode jdk_43_method_50_code i
theorem d52_0 : K52 0 = .ok (.aload_n 0, 1) := by decide +kernel
theorem d52_1 : K52 1 = .ok (.iload_n 1, 1) := by decide +kernel
theorem d52_2 : K52 2 = .ok (.aload_n 2, 1) := by decide +kernel
theorem d52_3 : K52 3 = .ok (.iload_n 3, 1) := by decide +kernel
theorem d52_4 : K52 4 = .ok (.iload 4, 2) := by decide +kernel
theorem d52_6 : K52 6 = .ok (.invokestatic 240, 3) := by decide +kernel
theorem pd_13 : parseMethodDescriptor "([BI[BII)V" = some ⟨[(.array .byte), .int, (.array .byte), .int, .int], none⟩ := by decide +kernel
theorem d52_9 : K52 9 = .ok (.return_, 1) := by decide +kernel
set_option maxRecDepth 65536 in
set_option maxHeartbeats 40000000 in
theorem lif (l : Launch) (Z : State) (a0 : Array Value) (hw : ∀ d ∈ tables_1, d.before a0 Z = true) (ws : List Jvm.Cond) (src : Addr) (ks : ClassId) (nz : Nat) (ds : List Int32) (a : Addr) (ka : ClassId) (cap : Nat) (cs : List Int32) (G3 : Value) (h0 : Heap) (n0 : Nat) (Z0 : n0 ≤ h0.size) (q0 : OZ Z h0 n0) (q1 : SFm Z G3) (rG3 : G3.isRef = true) (q3 : SAd Z) (q4 : SHi Z) (q5 : SLo Z) (q6 : Arv Z h0 src ks .byte (Int32.ofNat nz) (lb ds) (.int (0 : Int32))) (q7 : Arv Z h0 a ka .byte (Int32.ofNat (2 * cap)) (StrChars.Road.wideBytes cs) (.int (0 : Int32))) (q8 : Lq n0 a) (q9 : Nq a src) (hld : ∀ c ∈ ds, Lat c) (hfit : cs.length + ds.length ≤ cap) (hcap : cap ≤ 18) (hnz : ds.length ≤ nz) (hnz2 : nz ≤ 40) :
  MetFree l y_19 (head1 (Jvm.Cond.code y_19 jdk_43_method_50_code 5 none :: ws) r_m9) (fun a_ U_ => a_ = #[(.ref src), (.int (0 : Int32)), (.ref a), (.int (Int32.ofNat cs.length)), (.int (Int32.ofNat ds.length))] ∧ Z.Warmed39 U_.vm ∧ U_.heap = h0) (fun _ _ _ _ _ => True) (fun _ U_ o_ V_ => ∃ v_ L_, o_ = .returned v_ ∧ Qlif Z src ks nz ds a ka cap cs G3 h0 n0 v_ V_.heap L_ ∧ FrameEnd U_ o_ V_ L_ r_m9.cells r_m9.slots) := by
 refine MetFree.of_bodySF (plainFor_of_name pn_4) hisR ?_
 intro p e s m args below meth c s₁ Bd ai hP hK
 obtain ⟨rfl, hZ, hh⟩ := hP
 have hx := Bd.exec
 have dc := @hb _ _ Bd.bytes
 have hml : c.maxLocals = 5 := ai
 have hown : s.vm.findClass "java/lang/StringLatin1" = some m.cls := findClass_of_methodNamed Bd.named
 have hnm := (name_of_methodNamed Bd.named Bd.method).1
 have X0 : Stand p l e r_m9 s m #[(.ref src), (.int (0 : Int32)), (.ref a), (.int (Int32.ofNat cs.length)), (.int (Int32.ofNat ds.length))] below meth c s₁ [] 0 0 := Stand.of_body Bd
 have e0 : s₁.heap = h0 := by rw [← hh, Bd.state]; rfl
 have N0 := Fr.nil n0
 have Oo := q0.1
 have zo := q0.2
 have al := own_alt q6.lt
 have am := own_alt q7.lt
 refine Gl.go (A := s₁.setTop (entryFrame m #[(.ref src), (.int (0 : Int32)), (.ref a), (.int (Int32.ofNat cs.length)), (.int (Int32.ofNat ds.length))] 5)) (P := fun o_ U_ => ∃ v_ L_, o_ = .returned v_ ∧ Qlif Z src ks nz ds a ka cap cs G3 h0 n0 v_ U_.heap L_ ∧ FrameEnd s o_ U_ L_ r_m9.cells r_m9.slots) (fun t_ k_ => castTop (ef_lif m src (0 : Int32) a (Int32.ofNat cs.length) (Int32.ofNat ds.length)) k_) ?_
 show Gl p.tables e below _ (s₁.setTop (mkF m 0 #[sR src, sI 0, sR a, sI (Int32.ofNat cs.length), sI (Int32.ofNat ds.length)] []))
 refine Gl.go (fun _ hr => zaloadN X0.here hx (dc d52_0) rfl rfl (ziloadN X0.here hx (dc d52_1) rfl (zaloadN X0.here hx (dc d52_2) rfl rfl (ziloadN X0.here hx (dc d52_3) rfl (ziload X0.here hx (dc d52_4) rfl hr))))) ?_
 have aj : n0 ≤ h0.size := by omega
 refine gStaticN Gl.cl (y := y_18) (argsL := [(.ref src), (.int (0 : Int32)), (.ref a), (.int (Int32.ofNat cs.length)), (.int (Int32.ofNat ds.length))]) (rest := []) (mc := 0) (ms := 0) X0 hx hZ hown (mvT hZ (tw hw 258 rfl)) (mvT hZ (tw hw 259 rfl)) (mvT hZ (tw hw 221 rfl)) (mvT hZ (tw hw 260 rfl)) (by decide) (backOf (W := 0) (ufl l Z a0 hw [] src ks nz ds a ka cap cs G3 h0 n0 aj ⟨Oo, (by omega)⟩ q1 (by assumption) q3 q4 q5 q6 q7 (by omega) (by omega) (by assumption) (by assumption) (by assumption) (by assumption) (by assumption)) hZ (tw hw 260 rfl) (tw hw 221 rfl) (by decide) (by decide)) rfl (by rw [hml]; rfl) (lenOf pd_13 rfl) rfl (by exact Nat.le_of_eq rfl) (dc d52_6) rfl e0 (by decide) (by decide) ?_
 intro ap ab ak ah ac
 obtain ⟨rfl, ag, aa, ae⟩ := ah
 have aq : h0.size ≤ ab.heap.size := aa.1
 have af := Fr.app N0 ag
 have ao := own_alt ae.lt
 obtain ⟨fs, hr, hrun, hended, hW, hsame⟩ := ac.leave (v := none) (fun _ => rfl)
 refine ⟨_, _, ac.returnOut hx Bd.returns (dc d52_9) hr, hrun, hended, _, _, rfl, ?_, ⟨⟨_, rfl⟩, hW, hsame.mono (by decide) (by decide)⟩⟩
 show Qlif Z src ks nz ds a ka cap cs G3 h0 n0 _ ab.heap _
 exact ⟨rfl, af, ((Keep.refl h0 [a]).trans aa (allS (P := fun x_ => x_ ∈ ([a] : List Addr) ∨ h0.size ≤ x_) (Or.inl (by simp)) all0)), ae⟩
def QnblG (Z : State) (n : Nat) (h0 : Heap) (n0 : Nat) (v : Option Value) (h : Heap) (L : List Loc) : Prop := v = some (.int (Int32.ofNat (2 * n))) ∧ Fr n0 L ∧ h = h0
theorem ef_nblG (m : MethodId) (x0 : Int32) : entryFrame m #[(.int x0)] 1 = mkF m 0 #[sI x0] [] := by first | (simp [entryFrame, mkF, argsToLocals, Value.category]; done) | rfl
set_option maxRecDepth 65536 in
set_option maxHeartbeats 40000000 in
theorem nblG (l : Launch) (Z : State) (a0 : Array Value) (hw : ∀ d ∈ tables_1, d.before a0 Z = true) (ws : List Jvm.Cond) (n : Nat) (h0 : Heap) (n0 : Nat) (Z0 : n0 ≤ h0.size) (hn : n ≤ 18) :
  MetFree l y_2 (head1 (Jvm.Cond.code y_2 jdk_52_method_3_code 1 (some .int) :: ws) r_m0) (fun a_ U_ => a_ = #[(.int (Int32.ofNat n))] ∧ Z.Warmed39 U_.vm ∧ U_.heap = h0) (fun _ _ _ _ _ => True) (fun _ U_ o_ V_ => ∃ v_ L_, o_ = .returned v_ ∧ QnblG Z n h0 n0 v_ V_.heap L_ ∧ FrameEnd U_ o_ V_ L_ r_m0.cells r_m0.slots) := by
 refine MetFree.of_bodySF (plainFor_of_name pn_0) hisR ?_
 intro p e s m args below meth c s₁ Bd aa hP hK
 obtain ⟨rfl, hZ, hh⟩ := hP
 have hx := Bd.exec
 have dc := @hb _ _ Bd.bytes
 have hml : c.maxLocals = 1 := aa
 have hown : s.vm.findClass "java/lang/StringUTF16" = some m.cls := findClass_of_methodNamed Bd.named
 have hnm := (name_of_methodNamed Bd.named Bd.method).1
 have X0 : Stand p l e r_m0 s m #[(.int (Int32.ofNat n))] below meth c s₁ [] 0 0 := Stand.of_body Bd
 have e0 : s₁.heap = h0 := by rw [← hh, Bd.state]; rfl
 have N0 := Fr.nil n0
 refine Gl.go (A := s₁.setTop (entryFrame m #[(.int (Int32.ofNat n))] 1)) (P := fun o_ U_ => ∃ v_ L_, o_ = .returned v_ ∧ QnblG Z n h0 n0 v_ U_.heap L_ ∧ FrameEnd s o_ U_ L_ r_m0.cells r_m0.slots) (fun t_ k_ => castTop (ef_nblG m (Int32.ofNat n)) k_) ?_
 show Gl p.tables e below _ (s₁.setTop (mkF m 0 #[sI (Int32.ofNat n)] []))
 refine Gl.go (fun _ hr => ziloadN X0.here hx (dc d48_0) rfl hr) ?_
 refine Gl.go (fun _ hr => zifYes X0.here hx (pc0 := 1) (pc' := 12) rfl (dc d48_1) rfl (XT.i0_ge_t (own_nn (by omega))) (by decide) (by decide) (ziloadN X0.here hx (dc d48_12) rfl hr)) ?_
 refine Gl.go (X0.ldcInt hx hown (mvT hZ (tw hw 238 rfl)) rfl (dc d48_13)) ?_
 refine Gl.go (fun _ hr => zicmpYes X0.here hx (pc0 := 15) (pc' := 55) rfl (dc d48_15) rfl (XT.ii_lt_t (own_lt32 (b := 1073741823) (by decide) (by omega))) (by decide) (by decide) (ziloadN X0.here hx (dc d48_55) rfl (ziconst X0.here hx (dc d48_56) (zishl X0.here hx (dc d48_57) rfl hr)))) ?_
 show Gl p.tables e below _ (s₁.setTop (mkF m 58 #[sI (Int32.ofNat n)] [(.int ((Int32.ofNat n) <<< ((1 : Int32) &&& 31)))]))
 rw [(own_shl1 (i := n) (by omega))]
 show Gl p.tables e below _ (s₁.setTop (mkF m 58 #[sI (Int32.ofNat n)] [(.int (Int32.ofNat (2 * n)))]))
 obtain ⟨fs, hr, hrun, hended, hW, hsame⟩ := X0.leave (v := some (.int (Int32.ofNat (2 * n)))) (fun h => by rw [Bd.returns] at h; cases h)
 refine ⟨_, _, retOut X0 hx Bd.returns rfl (Or.inl ⟨rfl, Or.inl rfl, _, rfl⟩) (dc d48_58) hr, hrun, hended, _, _, rfl, ?_, ⟨⟨_, rfl⟩, hW, hsame.mono (by decide) (by decide)⟩⟩
 show QnblG Z n h0 n0 _ s₁.heap _
 rw [e0]
 exact ⟨rfl, N0, rfl⟩
def QnbfG (Z : State) (n : Nat) (h0 : Heap) (n0 : Nat) (v : Option Value) (h : Heap) (L : List Loc) : Prop := ∃ (r : Addr), ∃ (kr : ClassId), v = some (.ref r) ∧ Fr n0 L ∧ Keep h0 h [] ∧ (Arv Z h r kr .byte (Int32.ofNat (2 * n)) ([]) (.int (0 : Int32))) ∧ (Lq h0.size r) ∧ (Exa Z h r "[B")
theorem ef_nbfG (m : MethodId) (x0 : Int32) : entryFrame m #[(.int x0)] 1 = mkF m 0 #[sI x0] [] := by first | (simp [entryFrame, mkF, argsToLocals, Value.category]; done) | rfl
set_option maxRecDepth 65536 in
set_option maxHeartbeats 40000000 in
theorem nbfG (l : Launch) (Z : State) (a0 : Array Value) (hw : ∀ d ∈ tables_1, d.before a0 Z = true) (ws : List Jvm.Cond) (n : Nat) (h0 : Heap) (n0 : Nat) (Z0 : n0 ≤ h0.size) (hn : n ≤ 18) :
  MetFree l y_3 (head1 (Jvm.Cond.code y_3 jdk_52_method_2_code 1 (some (.array .byte)) :: ws) r_m10) (fun a_ U_ => a_ = #[(.int (Int32.ofNat n))] ∧ Z.Warmed39 U_.vm ∧ U_.heap = h0) (fun _ _ _ _ _ => True) (fun _ U_ o_ V_ => ∃ v_ L_, o_ = .returned v_ ∧ QnbfG Z n h0 n0 v_ V_.heap L_ ∧ FrameEnd U_ o_ V_ L_ r_m10.cells r_m10.slots) := by
 refine MetFree.of_bodySF (plainFor_of_name pn_0) hisR ?_
 intro p e s m args below meth c s₁ Bd ar hP hK
 obtain ⟨rfl, hZ, hh⟩ := hP
 have hx := Bd.exec
 have dc := @hb _ _ Bd.bytes
 have hml : c.maxLocals = 1 := ar
 have hown : s.vm.findClass "java/lang/StringUTF16" = some m.cls := findClass_of_methodNamed Bd.named
 have hnm := (name_of_methodNamed Bd.named Bd.method).1
 have X0 : Stand p l e r_m10 s m #[(.int (Int32.ofNat n))] below meth c s₁ [] 0 0 := Stand.of_body Bd
 have e0 : s₁.heap = h0 := by rw [← hh, Bd.state]; rfl
 have N0 := Fr.nil n0
 refine Gl.go (A := s₁.setTop (entryFrame m #[(.int (Int32.ofNat n))] 1)) (P := fun o_ U_ => ∃ v_ L_, o_ = .returned v_ ∧ QnbfG Z n h0 n0 v_ U_.heap L_ ∧ FrameEnd s o_ U_ L_ r_m10.cells r_m10.slots) (fun t_ k_ => castTop (ef_nbfG m (Int32.ofNat n)) k_) ?_
 show Gl p.tables e below _ (s₁.setTop (mkF m 0 #[sI (Int32.ofNat n)] []))
 refine Gl.go (fun _ hr => ziloadN X0.here hx (dc d47_0) rfl hr) ?_
 have au : n0 ≤ h0.size := by omega
 refine gStaticN Gl.cl (y := y_2) (argsL := [(.int (Int32.ofNat n))]) (rest := []) (mc := 0) (ms := 0) X0 hx hZ hown (mvT hZ (tw hw 235 rfl)) (mvT hZ (tw hw 236 rfl)) (mvT hZ (tw hw 221 rfl)) (mvT hZ (tw hw 237 rfl)) (by decide) (backOf (W := 0) (nblG l Z a0 hw [] n h0 n0 au (by assumption)) hZ (tw hw 237 rfl) (tw hw 221 rfl) (by decide) (by decide)) rfl (by rw [hml]; rfl) (lenOf pd_0 rfl) rfl (by exact Nat.le_of_eq rfl) (dc d47_1) rfl e0 (by decide) (by decide) ?_
 intro az aw av aq am
 obtain ⟨rfl, aj, ao⟩ := aq
 have ai := Fr.app N0 aj
 refine gNewPE Gl.cl am hx hZ (tw hw 20 rfl) ao rfl (dc d47_4) rfl (own_nn (by omega)) (cap := 36) (by rw [own_nat32 (by omega)]; omega) (by decide) (by decide) (by decide) (ad := "[B") (by decide) ?_
 intro ak af aa ag ax ae ap ac ab ah
 have aA : h0.size ≤ af.size := ac.1
 have ay := own_alt ab.lt
 have al : Arv Z af aa ag .byte (Int32.ofNat (2 * n)) [] (.int (0 : Int32)) := (Arv.new ab (own_nn (by omega))).pad (pad_rep [] (.int (0 : Int32)) 0)
 obtain ⟨fs, hr, hrun, hended, hW, hsame⟩ := ae.leave (v := some (.ref aa)) (fun h => by rw [Bd.returns] at h; cases h)
 refine ⟨_, _, retOut ae hx Bd.returns rfl (Or.inr (Or.inr (Or.inr (Or.inr ⟨rfl, rfl, rfl⟩)))) (dc d47_6) hr, hrun, hended, _, _, rfl, ?_, ⟨⟨_, rfl⟩, hW, hsame.mono (by decide) (by decide)⟩⟩
 show QnbfG Z n h0 n0 _ ak.heap _
 rw [ap]
 exact ⟨aa, ag, rfl, ai, ((Keep.refl h0 []).ext ac), al, (by omega), ah⟩
def Qasi (Z : State) (b : Addr) (a : Addr) (ka : ClassId) (cap : Nat) (cs : List Int32) (G1 : Int32) (G3 : Value) (h0 : Heap) (n0 : Nat) (v : Option Value) (h : Heap) (L : List Loc) : Prop := ∃ (a2 : Addr), ∃ (k2 : ClassId), v = none ∧ Fr n0 L ∧ Keep h0 h [b] ∧ (XBu Z h b) ∧ (FBv Z h b (.ref a2)) ∧ (FBc Z h b (.int (1 : Int32))) ∧ (FBn Z h b (.int (Int32.ofNat cs.length))) ∧ (FBm Z h b (.int (0 : Int32))) ∧ (Exa Z h a2 "[B") ∧ (Arv Z h a2 k2 .byte (Int32.ofNat (2 * cap)) (StrChars.Road.wideBytes cs) (.int (0 : Int32))) ∧ (Lq h0.size a2)
theorem ef_asi (m : MethodId) (x0 : Addr) : entryFrame m #[(.ref x0)] 2 = mkF m 0 #[sR x0, sU] [] := by first | (simp [entryFrame, mkF, argsToLocals, Value.category]; done) | rfl
abbrev K51 (i : Nat) := decode jdk_68_method_11_code i
theorem d51_0 : K51 0 = .ok (.aload_n 0, 1) := by decide +kernel
theorem d51_1 : K51 1 = .ok (.invokevirtual 83, 3) := by decide +kernel
theorem pd_14 : parseMethodDescriptor "()Z" = some ⟨[], some .boolean⟩ := by decide +kernel
theorem d51_4 : K51 4 = .ok (.ifCond .ne 4, 3) := by decide +kernel
theorem d51_8 : K51 8 = .ok (.aload_n 0, 1) := by decide +kernel
theorem d51_9 : K51 9 = .ok (.getfield 15, 3) := by decide +kernel
theorem d51_12 : K51 12 = .ok (.arraylength, 1) := by decide +kernel
theorem d51_13 : K51 13 = .ok (.invokestatic 26, 3) := by decide +kernel
theorem d51_16 : K51 16 = .ok (.astore_n 1, 1) := by decide +kernel
theorem d51_17 : K51 17 = .ok (.aload_n 0, 1) := by decide +kernel
theorem d51_18 : K51 18 = .ok (.getfield 15, 3) := by decide +kernel
theorem d51_21 : K51 21 = .ok (.iconst 0, 1) := by decide +kernel
theorem d51_22 : K51 22 = .ok (.aload_n 1, 1) := by decide +kernel
theorem d51_23 : K51 23 = .ok (.iconst 0, 1) := by decide +kernel
theorem d51_24 : K51 24 = .ok (.aload_n 0, 1) := by decide +kernel
theorem d51_25 : K51 25 = .ok (.getfield 79, 3) := by decide +kernel
theorem d51_28 : K51 28 = .ok (.invokestatic 125, 3) := by decide +kernel
theorem d51_31 : K51 31 = .ok (.aload_n 0, 1) := by decide +kernel
theorem d51_32 : K51 32 = .ok (.aload_n 1, 1) := by decide +kernel
theorem d51_33 : K51 33 = .ok (.putfield 15, 3) := by decide +kernel
theorem d51_36 : K51 36 = .ok (.aload_n 0, 1) := by decide +kernel
theorem d51_37 : K51 37 = .ok (.iconst 1, 1) := by decide +kernel
theorem d51_38 : K51 38 = .ok (.putfield 22, 3) := by decide +kernel
theorem d51_41 : K51 41 = .ok (.return_, 1) := by decide +kernel
set_option maxRecDepth 65536 in
set_option maxHeartbeats 40000000 in
theorem asi (l : Launch) (Z : State) (a0 : Array Value) (hw : ∀ d ∈ tables_1, d.before a0 Z = true) (ws : List Jvm.Cond) (b : Addr) (a : Addr) (ka : ClassId) (cap : Nat) (cs : List Int32) (G1 : Int32) (G3 : Value) (h0 : Heap) (n0 : Nat) (Z0 : n0 ≤ h0.size) (q0 : SCs Z G1) (P5 : ¬ (G1 = (0 : Int32))) (q2 : OZ Z h0 n0) (q3 : SFm Z G3) (rG3 : G3.isRef = true) (q5 : SAd Z) (q6 : SHi Z) (q7 : SLo Z) (q8 : XBu Z h0 b) (q9 : FBv Z h0 b (.ref a)) (q10 : FBc Z h0 b (.int (0 : Int32))) (q11 : FBn Z h0 b (.int (Int32.ofNat cs.length))) (q12 : FBm Z h0 b (.int (0 : Int32))) (q13 : Exa Z h0 a "[B") (q14 : Arv Z h0 a ka .byte (Int32.ofNat cap) (lb cs) (.int (0 : Int32))) (q15 : Lq n0 a) (q16 : Lq n0 b) (q17 : Nq a b) (hcap : cap ≤ 18) (hlc : ∀ c ∈ cs, Lat c) (hcl : cs.length ≤ cap) :
  MetFree l y_20 (head1 (Jvm.Cond.code y_20 jdk_68_method_11_code 2 none :: ws) r_m11) (fun a_ U_ => a_ = #[(.ref b)] ∧ Z.Warmed39 U_.vm ∧ U_.heap = h0) (fun _ _ _ _ _ => True) (fun _ U_ o_ V_ => ∃ v_ L_, o_ = .returned v_ ∧ Qasi Z b a ka cap cs G1 G3 h0 n0 v_ V_.heap L_ ∧ FrameEnd U_ o_ V_ L_ r_m11.cells r_m11.slots) := by
 refine MetFree.of_bodySF (plainFor_of_name pn_2) hisR ?_
 intro p e s m args below meth c s₁ Bd bf hP hK
 obtain ⟨rfl, hZ, hh⟩ := hP
 have hx := Bd.exec
 have dc := @hb _ _ Bd.bytes
 have hml : c.maxLocals = 2 := bf
 have hown : s.vm.findClass "java/lang/AbstractStringBuilder" = some m.cls := findClass_of_methodNamed Bd.named
 have hnm := (name_of_methodNamed Bd.named Bd.method).1
 have X0 : Stand p l e r_m11 s m #[(.ref b)] below meth c s₁ [] 0 0 := Stand.of_body Bd
 have e0 : s₁.heap = h0 := by rw [← hh, Bd.state]; rfl
 have N0 := Fr.nil n0
 have Oo := q2.1
 have zo := q2.2
 have bD := own_alt q8.lt
 have bE := own_alt q9.lt
 have bF := own_alt q10.lt
 have bG := own_alt q11.lt
 have bH := own_alt q12.lt
 have bI := own_alt q13.lt
 have bJ := own_alt q14.lt
 refine Gl.go (A := s₁.setTop (entryFrame m #[(.ref b)] 2)) (P := fun o_ U_ => ∃ v_ L_, o_ = .returned v_ ∧ Qasi Z b a ka cap cs G1 G3 h0 n0 v_ U_.heap L_ ∧ FrameEnd s o_ U_ L_ r_m11.cells r_m11.slots) (fun t_ k_ => castTop (ef_asi m b) k_) ?_
 show Gl p.tables e below _ (s₁.setTop (mkF m 0 #[sR b, sU] []))
 refine Gl.go (fun _ hr => zaloadN X0.here hx (dc d51_0) rfl rfl hr) ?_
 have bl : n0 ≤ h0.size := by omega
 refine gVirtualN Gl.cl (y := y_11) (z := y_11) (b := b) (argsL := []) (rest := []) (mc := 0) (ms := 0) X0 hx hZ hown (mvT hZ (tw hw 121 rfl)) (mvT hZ (tw hw 122 rfl)) (notFace_of_selects (args := #[]) (mvT hZ (tw hw 124 rfl))) (mvT hZ (tw hw 124 rfl)) (mvT hZ (tw hw 123 rfl)) (by decide) q8 (backOf (W := 0) (bl0 l Z a0 hw [] b G1 h0 n0 bl q0 (by assumption) ⟨Oo, (by omega)⟩ q10) hZ (tw hw 125 rfl) (tw hw 44 rfl) (by decide) (by decide)) rfl (by rw [hml]; rfl) (lenOf pd_14 rfl) rfl (by exact Nat.le_of_eq rfl) (dc d51_1) rfl e0 (by decide) (by decide) ?_
 intro bO bs bp bb al
 obtain ⟨rfl, aS, a5⟩ := bb
 have aN := Fr.app N0 aS
 refine Gl.go (fun _ hr => zifYes al.here hx (pc0 := 4) (pc' := 8) rfl (dc d51_4) rfl (XT.i0_ne_t (by decide)) (by decide) (by decide) (zaloadN al.here hx (dc d51_8) rfl rfl hr)) ?_
 refine gGetF (host := "") Gl.cl al hx hZ hown (Or.inl (tw hw 62 rfl)) Via.refl a5 q9 rfl rfl (dc d51_9) ?_
 intro bt ay az
 obtain ⟨bB, a3, bN, bj, bg, bo, bA⟩ := id q14
 refine gLen Gl.cl ay hx hZ az a3 bj bg rfl rfl (dc d51_12) ?_
 have bm : n0 ≤ h0.size := by omega
 refine gStaticN Gl.cl (y := y_3) (argsL := [(.int (Int32.ofNat cap))]) (rest := []) (mc := 1) (ms := 36) ay hx hZ hown (mvT hZ (tw hw 254 rfl)) (mvT hZ (tw hw 233 rfl)) (mvT hZ (tw hw 221 rfl)) (mvT hZ (tw hw 234 rfl)) (by decide) (backOf (W := 0) (nbfG l Z a0 hw [] cap h0 n0 bm hcap) hZ (tw hw 234 rfl) (tw hw 221 rfl) (by decide) (by decide)) rfl (by rw [hml]; rfl) (lenOf pd_1 rfl) rfl (by exact Nat.le_of_eq rfl) (dc d51_13) rfl az (by decide) (by decide) ?_
 intro bP af bq bc am
 obtain ⟨ah, aE, rfl, aT, aa, aA, bC, aB⟩ := bc
 have bR : h0.size ≤ af.heap.size := aa.1
 have aO := Fr.app aN aT
 have bK := own_alt aA.lt
 have bL := own_alt aB.lt
 refine Gl.go (fun _ hr => zastoreN am.here hx (dc d51_16) rfl rfl (l' := #[sR b, sR ah]) rfl (zaloadN am.here hx (dc d51_17) rfl rfl hr)) ?_
 have au := (q9.keep aa nin0)
 refine gGetF (host := "") Gl.cl am hx hZ hown (Or.inl (tw hw 62 rfl)) Via.refl (rfl : af.heap = af.heap) au rfl rfl (dc d51_18) ?_
 intro bu ai a6
 refine Gl.go (fun _ hr => ziconst ai.here hx (dc d51_21) (zaloadN ai.here hx (dc d51_22) rfl rfl (ziconst ai.here hx (dc d51_23) (zaloadN ai.here hx (dc d51_24) rfl rfl hr)))) ?_
 have av := (q11.keep aa nin0)
 refine gGetF (host := "") Gl.cl ai hx hZ hown (Or.inl (tw hw 78 rfl)) Via.refl a6 av rfl rfl (dc d51_25) ?_
 intro bv aZ a7
 have aV := (Oo.keep aa all0)
 have aX := (q14.keep aa nin0)
 have bn : n0 ≤ af.heap.size := by omega
 refine gStaticN Gl.cl (y := y_19) (argsL := [(.ref a), (.int (0 : Int32)), (.ref ah), (.int (0 : Int32)), (.int (Int32.ofNat cs.length))]) (rest := []) (mc := 0) (ms := 0) aZ hx hZ hown (mvT hZ (tw hw 255 rfl)) (mvT hZ (tw hw 256 rfl)) (mvT hZ (tw hw 128 rfl)) (mvT hZ (tw hw 257 rfl)) (by decide) (backOf (W := 0) (lif l Z a0 hw [] a ka cap cs ah aE cap ([] : List Int32) G3 af.heap n0 bn ⟨aV, (by omega)⟩ q3 (by assumption) q5 q6 q7 aX aA (by omega) (by omega) hlc (by simp only [List.length_nil]; omega) hcap hcl (by omega)) hZ (tw hw 257 rfl) (tw hw 128 rfl) (by decide) (by decide)) rfl (by rw [hml]; rfl) (lenOf pd_13 rfl) rfl (by exact Nat.le_of_eq rfl) (dc d51_28) rfl a7 (by decide) (by decide) ?_
 intro bQ aj br be ao
 obtain ⟨rfl, aU, ae, aC⟩ := be
 have bS : af.heap.size ≤ aj.heap.size := ae.1
 have aP := Fr.app aO aU
 have bM := own_alt aC.lt
 refine Gl.go (fun _ hr => zaloadN ao.here hx (dc d51_31) rfl rfl (zaloadN ao.here hx (dc d51_32) rfl rfl hr)) ?_
 have ag : Nq b ah := by omega
 have aw := (au.keep ae (ninS (own_ane ag) nin0))
 have aq := ((q8.keep aa).keep ae)
 refine gPutF (host := "") Gl.cl ao hx hZ hown (Or.inl (tw hw 62 rfl)) Via.refl (rfl : aj.heap = aj.heap) aw aq (Or.inl (tw hw 63 rfl)) (tw hw 35 rfl) (ty := (.array .byte)) (by decide) rfl rfl rfl rfl (dc d51_33) ?_
 intro bz aD ak a8 ab
 have bT : aj.heap.size ≤ aD.size := (Keep.of_wr ab).1
 have aL := aw.same ab
 have aF : Lq n0 b := by omega
 have aQ := Fr.snoc ak aP (own_ale aF)
 refine Gl.go (fun _ hr => zaloadN ak.here hx (dc d51_36) rfl rfl (ziconst ak.here hx (dc d51_37) hr)) ?_
 have ax := (((q10.keep aa nin0).keep ae (ninS (own_ane ag) nin0)).other ab (Or.inr (slot_ne (Or.inl (tw hw 61 rfl)) (Or.inl (tw hw 63 rfl)) (by decide) (t := .byte) (t' := (.array .byte)) (by decide) (by decide))))
 have ar := (aq.wr ab)
 refine gPutF (host := "") Gl.cl ak hx hZ hown (Or.inl (tw hw 60 rfl)) Via.refl a8 ax ar (Or.inl (tw hw 61 rfl)) (tw hw 35 rfl) (ty := .byte) (by decide) rfl rfl rfl rfl (dc d51_38) ?_
 intro aW ba ap a9 ac
 have bU : aD.size ≤ ba.size := (Keep.of_wr ac).1
 have aM := ax.same ac
 have aR := Fr.snoc ap aQ (own_ale aF)
 have aG := (ar.wr ac)
 have aI := (aL.other ac (Or.inr (slot_ne (Or.inl (tw hw 63 rfl)) (Or.inl (tw hw 61 rfl)) (by decide) (t := (.array .byte)) (t' := .byte) (by decide) (by decide))))
 have aJ := (((av.keep ae (ninS (own_ane ag) nin0)).other ab (Or.inr (slot_ne (Or.inl (tw hw 79 rfl)) (Or.inl (tw hw 63 rfl)) (by decide) (t := .int) (t' := (.array .byte)) (by decide) (by decide)))).other ac (Or.inr (slot_ne (Or.inl (tw hw 79 rfl)) (Or.inl (tw hw 61 rfl)) (by decide) (t := .int) (t' := .byte) (by decide) (by decide))))
 have aK := ((((q12.keep aa nin0).keep ae (ninS (own_ane ag) nin0)).other ab (Or.inr (slot_ne (Or.inl (tw hw 283 rfl)) (Or.inl (tw hw 63 rfl)) (by decide) (t := .boolean) (t' := (.array .byte)) (by decide) (by decide)))).other ac (Or.inr (slot_ne (Or.inl (tw hw 283 rfl)) (Or.inl (tw hw 61 rfl)) (by decide) (t := .boolean) (t' := .byte) (by decide) (by decide))))
 have aH := (((aB.keep ae).wr ab).wr ac)
 have aY := ((aC.other ab (own_anes ag)).other ac (own_anes ag))
 obtain ⟨fs, hr, hrun, hended, hW, hsame⟩ := ap.leave (v := none) (fun _ => rfl)
 have bh : Lq h0.size ah := by omega
 refine ⟨_, _, ap.returnOut hx Bd.returns (dc d51_41) hr, hrun, hended, _, _, rfl, ?_, ⟨⟨_, rfl⟩, hW, hsame.mono (by decide) (by decide)⟩⟩
 show Qasi Z b a ka cap cs G1 G3 h0 n0 _ aW.heap _
 rw [a9]
 exact ⟨ah, aE, rfl, aR, (((((Keep.refl h0 [b]).trans aa all0).trans ae (allS (P := fun x_ => x_ ∈ ([b] : List Addr) ∨ h0.size ≤ x_) (Or.inr (own_ale bh)) all0)).wr ab (Or.inl (by simp))).wr ac (Or.inl (by simp))), aG, aI, aM, aJ, aK, aH, aY, (by omega)⟩
def Qasj (Z : State) (b : Addr) (G1 : Int32) (h0 : Heap) (n0 : Nat) (v : Option Value) (h : Heap) (L : List Loc) : Prop := v = none ∧ Fr n0 L ∧ h = h0
theorem ef_asj (m : MethodId) (x0 : Addr) : entryFrame m #[(.ref x0)] 2 = mkF m 0 #[sR x0, sU] [] := by first | (simp [entryFrame, mkF, argsToLocals, Value.category]; done) | rfl
theorem d51_7 : K51 7 = .ok (.return_, 1) := by decide +kernel
set_option maxRecDepth 65536 in
set_option maxHeartbeats 40000000 in
theorem asj (l : Launch) (Z : State) (a0 : Array Value) (hw : ∀ d ∈ tables_1, d.before a0 Z = true) (ws : List Jvm.Cond) (b : Addr) (G1 : Int32) (h0 : Heap) (n0 : Nat) (Z0 : n0 ≤ h0.size) (q0 : SCs Z G1) (P5 : ¬ (G1 = (0 : Int32))) (q2 : OZ Z h0 n0) (q3 : XBu Z h0 b) (q4 : FBc Z h0 b (.int (1 : Int32))) :
  MetFree l y_20 (head1 (Jvm.Cond.code y_20 jdk_68_method_11_code 2 none :: ws) r_m12) (fun a_ U_ => a_ = #[(.ref b)] ∧ Z.Warmed39 U_.vm ∧ U_.heap = h0) (fun _ _ _ _ _ => True) (fun _ U_ o_ V_ => ∃ v_ L_, o_ = .returned v_ ∧ Qasj Z b G1 h0 n0 v_ V_.heap L_ ∧ FrameEnd U_ o_ V_ L_ r_m12.cells r_m12.slots) := by
 refine MetFree.of_bodySF (plainFor_of_name pn_2) hisR ?_
 intro p e s m args below meth c s₁ Bd ah hP hK
 obtain ⟨rfl, hZ, hh⟩ := hP
 have hx := Bd.exec
 have dc := @hb _ _ Bd.bytes
 have hml : c.maxLocals = 2 := ah
 have hown : s.vm.findClass "java/lang/AbstractStringBuilder" = some m.cls := findClass_of_methodNamed Bd.named
 have hnm := (name_of_methodNamed Bd.named Bd.method).1
 have X0 : Stand p l e r_m12 s m #[(.ref b)] below meth c s₁ [] 0 0 := Stand.of_body Bd
 have e0 : s₁.heap = h0 := by rw [← hh, Bd.state]; rfl
 have N0 := Fr.nil n0
 have Oo := q2.1
 have zo := q2.2
 have ak := own_alt q3.lt
 have al := own_alt q4.lt
 refine Gl.go (A := s₁.setTop (entryFrame m #[(.ref b)] 2)) (P := fun o_ U_ => ∃ v_ L_, o_ = .returned v_ ∧ Qasj Z b G1 h0 n0 v_ U_.heap L_ ∧ FrameEnd s o_ U_ L_ r_m12.cells r_m12.slots) (fun t_ k_ => castTop (ef_asj m b) k_) ?_
 show Gl p.tables e below _ (s₁.setTop (mkF m 0 #[sR b, sU] []))
 refine Gl.go (fun _ hr => zaloadN X0.here hx (dc d51_0) rfl rfl hr) ?_
 have ai : n0 ≤ h0.size := by omega
 refine gVirtualN Gl.cl (y := y_11) (z := y_11) (b := b) (argsL := []) (rest := []) (mc := 0) (ms := 0) X0 hx hZ hown (mvT hZ (tw hw 121 rfl)) (mvT hZ (tw hw 122 rfl)) (notFace_of_selects (args := #[]) (mvT hZ (tw hw 124 rfl))) (mvT hZ (tw hw 124 rfl)) (mvT hZ (tw hw 123 rfl)) (by decide) q3 (backOf (W := 0) (bl1 l Z a0 hw [] b G1 h0 n0 ai q0 (by assumption) ⟨Oo, (by omega)⟩ q4) hZ (tw hw 125 rfl) (tw hw 44 rfl) (by decide) (by decide)) rfl (by rw [hml]; rfl) (lenOf pd_14 rfl) rfl (by exact Nat.le_of_eq rfl) (dc d51_1) rfl e0 (by decide) (by decide) ?_
 intro am ae aj ag aa
 obtain ⟨rfl, ac, af⟩ := ag
 have ab := Fr.app N0 ac
 refine Gl.go (fun _ hr => zifNo aa.here hx (dc d51_4) rfl (XT.i0_ne_f (by decide)) hr) ?_
 obtain ⟨fs, hr, hrun, hended, hW, hsame⟩ := aa.leave (v := none) (fun _ => rfl)
 refine ⟨_, _, aa.returnOut hx Bd.returns (dc d51_7) hr, hrun, hended, _, _, rfl, ?_, ⟨⟨_, rfl⟩, hW, hsame.mono (by decide) (by decide)⟩⟩
 show Qasj Z b G1 h0 n0 _ ae.heap _
 rw [af]
 exact ⟨rfl, ab, rfl⟩
def Qgv (Z : State) (b : Addr) (a : Addr) (h0 : Heap) (n0 : Nat) (v : Option Value) (h : Heap) (L : List Loc) : Prop := v = some (.ref a) ∧ Fr n0 L ∧ h = h0
theorem ef_gv (m : MethodId) (x0 : Addr) : entryFrame m #[(.ref x0)] 1 = mkF m 0 #[sR x0] [] := by first | (simp [entryFrame, mkF, argsToLocals, Value.category]; done) | rfl
abbrev K29 (i : Nat) := decode jdk_68_method_64_code i
theorem d29_0 : K29 0 = .ok (.aload_n 0, 1) := by decide +kernel
theorem d29_1 : K29 1 = .ok (.getfield 15, 3) := by decide +kernel
theorem d29_4 : K29 4 = .ok (.areturn, 1) := by decide +kernel
set_option maxRecDepth 65536 in
set_option maxHeartbeats 40000000 in
theorem gv (l : Launch) (Z : State) (a0 : Array Value) (hw : ∀ d ∈ tables_1, d.before a0 Z = true) (ws : List Jvm.Cond) (b : Addr) (a : Addr) (h0 : Heap) (n0 : Nat) (Z0 : n0 ≤ h0.size) (q0 : FBv Z h0 b (.ref a)) :
  MetFree l y_21 (head1 (Jvm.Cond.code y_21 jdk_68_method_64_code 1 (some (.array .byte)) :: ws) r_m0) (fun a_ U_ => a_ = #[(.ref b)] ∧ Z.Warmed39 U_.vm ∧ U_.heap = h0) (fun _ _ _ _ _ => True) (fun _ U_ o_ V_ => ∃ v_ L_, o_ = .returned v_ ∧ Qgv Z b a h0 n0 v_ V_.heap L_ ∧ FrameEnd U_ o_ V_ L_ r_m0.cells r_m0.slots) := by
 refine MetFree.of_bodySF (plainFor_of_name pn_2) hisR ?_
 intro p e s m args below meth c s₁ Bd ae hP hK
 obtain ⟨rfl, hZ, hh⟩ := hP
 have hx := Bd.exec
 have dc := @hb _ _ Bd.bytes
 have hml : c.maxLocals = 1 := ae
 have hown : s.vm.findClass "java/lang/AbstractStringBuilder" = some m.cls := findClass_of_methodNamed Bd.named
 have hnm := (name_of_methodNamed Bd.named Bd.method).1
 have X0 : Stand p l e r_m0 s m #[(.ref b)] below meth c s₁ [] 0 0 := Stand.of_body Bd
 have e0 : s₁.heap = h0 := by rw [← hh, Bd.state]; rfl
 have N0 := Fr.nil n0
 have af := own_alt q0.lt
 refine Gl.go (A := s₁.setTop (entryFrame m #[(.ref b)] 1)) (P := fun o_ U_ => ∃ v_ L_, o_ = .returned v_ ∧ Qgv Z b a h0 n0 v_ U_.heap L_ ∧ FrameEnd s o_ U_ L_ r_m0.cells r_m0.slots) (fun t_ k_ => castTop (ef_gv m b) k_) ?_
 show Gl p.tables e below _ (s₁.setTop (mkF m 0 #[sR b] []))
 refine Gl.go (fun _ hr => zaloadN X0.here hx (dc d29_0) rfl rfl hr) ?_
 refine gGetF (host := "") Gl.cl X0 hx hZ hown (Or.inl (tw hw 62 rfl)) Via.refl e0 q0 rfl rfl (dc d29_1) ?_
 intro ab aa ac
 obtain ⟨fs, hr, hrun, hended, hW, hsame⟩ := aa.leave (v := some (.ref a)) (fun h => by rw [Bd.returns] at h; cases h)
 refine ⟨_, _, retOut aa hx Bd.returns rfl (Or.inr (Or.inr (Or.inr (Or.inr ⟨rfl, rfl, rfl⟩)))) (dc d29_4) hr, hrun, hended, _, _, rfl, ?_, ⟨⟨_, rfl⟩, hW, hsame.mono (by decide) (by decide)⟩⟩
 show Qgv Z b a h0 n0 _ ab.heap _
 rw [ac]
 exact ⟨rfl, N0, rfl⟩
def Qasl (Z : State) (b : Addr) (n : Int32) (h0 : Heap) (n0 : Nat) (v : Option Value) (h : Heap) (L : List Loc) : Prop := v = some (.int n) ∧ Fr n0 L ∧ h = h0
theorem ef_asl (m : MethodId) (x0 : Addr) : entryFrame m #[(.ref x0)] 1 = mkF m 0 #[sR x0] [] := by first | (simp [entryFrame, mkF, argsToLocals, Value.category]; done) | rfl
abbrev K31 (i : Nat) := decode jdk_68_method_6_code i
theorem d31_0 : K31 0 = .ok (.aload_n 0, 1) := by decide +kernel
theorem d31_1 : K31 1 = .ok (.getfield 79, 3) := by decide +kernel
theorem d31_4 : K31 4 = .ok (.ireturn, 1) := by decide +kernel
set_option maxRecDepth 65536 in
set_option maxHeartbeats 40000000 in
theorem asl (l : Launch) (Z : State) (a0 : Array Value) (hw : ∀ d ∈ tables_1, d.before a0 Z = true) (ws : List Jvm.Cond) (b : Addr) (n : Int32) (h0 : Heap) (n0 : Nat) (Z0 : n0 ≤ h0.size) (q0 : FBn Z h0 b (.int n)) :
  MetFree l y_22 (head1 (Jvm.Cond.code y_22 jdk_68_method_6_code 1 (some .int) :: ws) r_m0) (fun a_ U_ => a_ = #[(.ref b)] ∧ Z.Warmed39 U_.vm ∧ U_.heap = h0) (fun _ _ _ _ _ => True) (fun _ U_ o_ V_ => ∃ v_ L_, o_ = .returned v_ ∧ Qasl Z b n h0 n0 v_ V_.heap L_ ∧ FrameEnd U_ o_ V_ L_ r_m0.cells r_m0.slots) := by
 refine MetFree.of_bodySF (plainFor_of_name pn_2) hisR ?_
 intro p e s m args below meth c s₁ Bd ae hP hK
 obtain ⟨rfl, hZ, hh⟩ := hP
 have hx := Bd.exec
 have dc := @hb _ _ Bd.bytes
 have hml : c.maxLocals = 1 := ae
 have hown : s.vm.findClass "java/lang/AbstractStringBuilder" = some m.cls := findClass_of_methodNamed Bd.named
 have hnm := (name_of_methodNamed Bd.named Bd.method).1
 have X0 : Stand p l e r_m0 s m #[(.ref b)] below meth c s₁ [] 0 0 := Stand.of_body Bd
 have e0 : s₁.heap = h0 := by rw [← hh, Bd.state]; rfl
 have N0 := Fr.nil n0
 have af := own_alt q0.lt
 refine Gl.go (A := s₁.setTop (entryFrame m #[(.ref b)] 1)) (P := fun o_ U_ => ∃ v_ L_, o_ = .returned v_ ∧ Qasl Z b n h0 n0 v_ U_.heap L_ ∧ FrameEnd s o_ U_ L_ r_m0.cells r_m0.slots) (fun t_ k_ => castTop (ef_asl m b) k_) ?_
 show Gl p.tables e below _ (s₁.setTop (mkF m 0 #[sR b] []))
 refine Gl.go (fun _ hr => zaloadN X0.here hx (dc d31_0) rfl rfl hr) ?_
 refine gGetF (host := "") Gl.cl X0 hx hZ hown (Or.inl (tw hw 78 rfl)) Via.refl e0 q0 rfl rfl (dc d31_1) ?_
 intro ab aa ac
 obtain ⟨fs, hr, hrun, hended, hW, hsame⟩ := aa.leave (v := some (.int n)) (fun h => by rw [Bd.returns] at h; cases h)
 refine ⟨_, _, retOut aa hx Bd.returns rfl (Or.inl ⟨rfl, Or.inl rfl, _, rfl⟩) (dc d31_4) hr, hrun, hended, _, _, rfl, ?_, ⟨⟨_, rfl⟩, hW, hsame.mono (by decide) (by decide)⟩⟩
 show Qasl Z b n h0 n0 _ ab.heap _
 rw [ac]
 exact ⟨rfl, N0, rfl⟩
def Qsbl (Z : State) (b : Addr) (n : Int32) (h0 : Heap) (n0 : Nat) (v : Option Value) (h : Heap) (L : List Loc) : Prop := v = some (.int n) ∧ Fr n0 L ∧ h = h0
theorem pn_5 : plainName "java/lang/StringBuilder" = true := by first | (simp [plainName, overriddenIn]; done) | decide +kernel
theorem ef_sbl (m : MethodId) (x0 : Addr) : entryFrame m #[(.ref x0)] 1 = mkF m 0 #[sR x0] [] := by first | (simp [entryFrame, mkF, argsToLocals, Value.category]; done) | rfl
abbrev K30 (i : Nat) := decode jdk_67_method_93_code i
theorem d30_0 : K30 0 = .ok (.aload_n 0, 1) := by decide +kernel
theorem d30_1 : K30 1 = .ok (.invokespecial 343, 3) := by decide +kernel
theorem pd_15 : parseMethodDescriptor "()I" = some ⟨[], some .int⟩ := by decide +kernel
theorem d30_4 : K30 4 = .ok (.ireturn, 1) := by decide +kernel
set_option maxRecDepth 65536 in
set_option maxHeartbeats 40000000 in
theorem sbl (l : Launch) (Z : State) (a0 : Array Value) (hw : ∀ d ∈ tables_1, d.before a0 Z = true) (ws : List Jvm.Cond) (b : Addr) (n : Int32) (h0 : Heap) (n0 : Nat) (Z0 : n0 ≤ h0.size) (q0 : XBu Z h0 b) (q1 : FBn Z h0 b (.int n)) :
  MetFree l y_23 (head1 (Jvm.Cond.code y_23 jdk_67_method_93_code 1 (some .int) :: ws) r_m13) (fun a_ U_ => a_ = #[(.ref b)] ∧ Z.Warmed39 U_.vm ∧ U_.heap = h0) (fun _ _ _ _ _ => True) (fun _ U_ o_ V_ => ∃ v_ L_, o_ = .returned v_ ∧ Qsbl Z b n h0 n0 v_ V_.heap L_ ∧ FrameEnd U_ o_ V_ L_ r_m13.cells r_m13.slots) := by
 refine MetFree.of_bodySF (plainFor_of_name pn_5) hisR ?_
 intro p e s m args below meth c s₁ Bd ah hP hK
 obtain ⟨rfl, hZ, hh⟩ := hP
 have hx := Bd.exec
 have dc := @hb _ _ Bd.bytes
 have hml : c.maxLocals = 1 := ah
 have hown : s.vm.findClass "java/lang/StringBuilder" = some m.cls := findClass_of_methodNamed Bd.named
 have hnm := (name_of_methodNamed Bd.named Bd.method).1
 have X0 : Stand p l e r_m13 s m #[(.ref b)] below meth c s₁ [] 0 0 := Stand.of_body Bd
 have e0 : s₁.heap = h0 := by rw [← hh, Bd.state]; rfl
 have N0 := Fr.nil n0
 have ak := own_alt q0.lt
 have al := own_alt q1.lt
 refine Gl.go (A := s₁.setTop (entryFrame m #[(.ref b)] 1)) (P := fun o_ U_ => ∃ v_ L_, o_ = .returned v_ ∧ Qsbl Z b n h0 n0 v_ U_.heap L_ ∧ FrameEnd s o_ U_ L_ r_m13.cells r_m13.slots) (fun t_ k_ => castTop (ef_sbl m b) k_) ?_
 show Gl p.tables e below _ (s₁.setTop (mkF m 0 #[sR b] []))
 refine Gl.go (fun _ hr => zaloadN X0.here hx (dc d30_0) rfl rfl hr) ?_
 have ai : n0 ≤ h0.size := by omega
 refine gSuperN Gl.cl (y := y_22) (b := b) (argsL := []) (rest := []) (mc := 0) (ms := 0) X0 hx hZ hown (tw hw 173 rfl) (own_same (y := y_22) (tw hw 168 rfl) (tw hw 83 rfl) rfl (by decide)) (tw hw 169 rfl) (tw hw 76 rfl) (by decide) (tw hw 174 rfl) (Ins.self q0) (backOf (W := 0) (asl l Z a0 hw [] b n h0 n0 ai q1) hZ (tw hw 174 rfl) (tw hw 44 rfl) (by decide) (by decide)) rfl (by rw [hml]; rfl) (lenOf pd_15 rfl) rfl (by exact Nat.le_of_eq rfl) (dc d30_1) rfl e0 (by decide) (by decide) ?_
 intro am ae aj ag aa
 obtain ⟨rfl, ac, af⟩ := ag
 have ab := Fr.app N0 ac
 obtain ⟨fs, hr, hrun, hended, hW, hsame⟩ := aa.leave (v := some (.int n)) (fun h => by rw [Bd.returns] at h; cases h)
 refine ⟨_, _, retOut aa hx Bd.returns rfl (Or.inl ⟨rfl, Or.inl rfl, _, rfl⟩) (dc d30_4) hr, hrun, hended, _, _, rfl, ?_, ⟨⟨_, rfl⟩, hW, hsame.mono (by decide) (by decide)⟩⟩
 show Qsbl Z b n h0 n0 _ ae.heap _
 rw [af]
 exact ⟨rfl, ab, rfl⟩
def Qcl (Z : State) (k : Nat) (zz : Nat) (h0 : Heap) (n0 : Nat) (v : Option Value) (h : Heap) (L : List Loc) : Prop := v = none ∧ Fr n0 L ∧ h = h0
theorem pn_6 : plainName "java/util/Arrays" = true := by first | (simp [plainName, overriddenIn]; done) | decide +kernel
theorem ef_cl (m : MethodId) (x0 : Int32) (x1 : Int32) : entryFrame m #[(.int x0), (.int x1)] 2 = mkF m 0 #[sI x0, sI x1] [] := by first | (simp [entryFrame, mkF, argsToLocals, Value.category]; done) | rfl
abbrev K34 (i : Nat) := decode jdk_65_method_131_code i
theorem d34_0 : K34 0 = .ok (.iload_n 1, 1) := by decide +kernel
theorem d34_1 : K34 1 = .ok (.iload_n 0, 1) := by decide +kernel
theorem d34_2 : K34 2 = .ok (.if_icmp .ge 35, 3) := by decide +kernel
theorem d34_37 : K34 37 = .ok (.return_, 1) := by decide +kernel
set_option maxRecDepth 65536 in
set_option maxHeartbeats 40000000 in
theorem cl (l : Launch) (Z : State) (a0 : Array Value) (hw : ∀ d ∈ tables_1, d.before a0 Z = true) (ws : List Jvm.Cond) (k : Nat) (zz : Nat) (h0 : Heap) (n0 : Nat) (Z0 : n0 ≤ h0.size) (hk : k < zz) (hzz : zz ≤ 36) :
  MetFree l y_24 (head1 (Jvm.Cond.code y_24 jdk_65_method_131_code 2 none :: ws) r_m0) (fun a_ U_ => a_ = #[(.int (0 : Int32)), (.int (Int32.ofNat k))] ∧ Z.Warmed39 U_.vm ∧ U_.heap = h0) (fun _ _ _ _ _ => True) (fun _ U_ o_ V_ => ∃ v_ L_, o_ = .returned v_ ∧ Qcl Z k zz h0 n0 v_ V_.heap L_ ∧ FrameEnd U_ o_ V_ L_ r_m0.cells r_m0.slots) := by
 refine MetFree.of_bodySF (plainFor_of_name pn_6) hisR ?_
 intro p e s m args below meth c s₁ Bd aa hP hK
 obtain ⟨rfl, hZ, hh⟩ := hP
 have hx := Bd.exec
 have dc := @hb _ _ Bd.bytes
 have hml : c.maxLocals = 2 := aa
 have hown : s.vm.findClass "java/util/Arrays" = some m.cls := findClass_of_methodNamed Bd.named
 have hnm := (name_of_methodNamed Bd.named Bd.method).1
 have X0 : Stand p l e r_m0 s m #[(.int (0 : Int32)), (.int (Int32.ofNat k))] below meth c s₁ [] 0 0 := Stand.of_body Bd
 have e0 : s₁.heap = h0 := by rw [← hh, Bd.state]; rfl
 have N0 := Fr.nil n0
 refine Gl.go (A := s₁.setTop (entryFrame m #[(.int (0 : Int32)), (.int (Int32.ofNat k))] 2)) (P := fun o_ U_ => ∃ v_ L_, o_ = .returned v_ ∧ Qcl Z k zz h0 n0 v_ U_.heap L_ ∧ FrameEnd s o_ U_ L_ r_m0.cells r_m0.slots) (fun t_ k_ => castTop (ef_cl m (0 : Int32) (Int32.ofNat k)) k_) ?_
 show Gl p.tables e below _ (s₁.setTop (mkF m 0 #[sI 0, sI (Int32.ofNat k)] []))
 refine Gl.go (fun _ hr => ziloadN X0.here hx (dc d34_0) rfl (ziloadN X0.here hx (dc d34_1) rfl hr)) ?_
 refine Gl.go (fun _ hr => zicmpYes X0.here hx (pc0 := 2) (pc' := 37) rfl (dc d34_2) rfl (XT.ii_ge_t (own_nn (by omega))) (by decide) (by decide) hr) ?_
 obtain ⟨fs, hr, hrun, hended, hW, hsame⟩ := X0.leave (v := none) (fun _ => rfl)
 refine ⟨_, _, X0.returnOut hx Bd.returns (dc d34_37) hr, hrun, hended, _, _, rfl, ?_, ⟨⟨_, rfl⟩, hW, hsame.mono (by decide) (by decide)⟩⟩
 show Qcl Z k zz h0 n0 _ s₁.heap _
 rw [e0]
 exact ⟨rfl, N0, rfl⟩
def Qmn (Z : State) (zz : Nat) (k : Nat) (h0 : Heap) (n0 : Nat) (v : Option Value) (h : Heap) (L : List Loc) : Prop := v = some (.int (Int32.ofNat k)) ∧ Fr n0 L ∧ h = h0
theorem ef_mn (m : MethodId) (x0 : Int32) (x1 : Int32) : entryFrame m #[(.int x0), (.int x1)] 2 = mkF m 0 #[sI x0, sI x1] [] := by first | (simp [entryFrame, mkF, argsToLocals, Value.category]; done) | rfl
abbrev K35 (i : Nat) := decode jdk_29_method_69_code i
theorem d35_0 : K35 0 = .ok (.iload_n 0, 1) := by decide +kernel
theorem d35_1 : K35 1 = .ok (.iload_n 1, 1) := by decide +kernel
theorem d35_2 : K35 2 = .ok (.if_icmp .gt 7, 3) := by decide +kernel
theorem d35_9 : K35 9 = .ok (.iload_n 1, 1) := by decide +kernel
theorem d35_10 : K35 10 = .ok (.ireturn, 1) := by decide +kernel
set_option maxRecDepth 65536 in
set_option maxHeartbeats 40000000 in
theorem mn (l : Launch) (Z : State) (a0 : Array Value) (hw : ∀ d ∈ tables_1, d.before a0 Z = true) (ws : List Jvm.Cond) (zz : Nat) (k : Nat) (h0 : Heap) (n0 : Nat) (Z0 : n0 ≤ h0.size) (hk : k < zz) (hzz : zz ≤ 36) :
  MetFree l y_25 (head1 (Jvm.Cond.code y_25 jdk_29_method_69_code 2 (some .int) :: ws) r_m0) (fun a_ U_ => a_ = #[(.int (Int32.ofNat zz)), (.int (Int32.ofNat k))] ∧ Z.Warmed39 U_.vm ∧ U_.heap = h0) (fun _ _ _ _ _ => True) (fun _ U_ o_ V_ => ∃ v_ L_, o_ = .returned v_ ∧ Qmn Z zz k h0 n0 v_ V_.heap L_ ∧ FrameEnd U_ o_ V_ L_ r_m0.cells r_m0.slots) := by
 refine MetFree.of_bodySF (Jvm.Free.JP.mathPlain rfl (by decide +kernel)) hisR ?_
 intro p e s m args below meth c s₁ Bd aa hP hK
 obtain ⟨rfl, hZ, hh⟩ := hP
 have hx := Bd.exec
 have dc := @hb _ _ Bd.bytes
 have hml : c.maxLocals = 2 := aa
 have hown : s.vm.findClass "java/lang/Math" = some m.cls := findClass_of_methodNamed Bd.named
 have hnm := (name_of_methodNamed Bd.named Bd.method).1
 have X0 : Stand p l e r_m0 s m #[(.int (Int32.ofNat zz)), (.int (Int32.ofNat k))] below meth c s₁ [] 0 0 := Stand.of_body Bd
 have e0 : s₁.heap = h0 := by rw [← hh, Bd.state]; rfl
 have N0 := Fr.nil n0
 refine Gl.go (A := s₁.setTop (entryFrame m #[(.int (Int32.ofNat zz)), (.int (Int32.ofNat k))] 2)) (P := fun o_ U_ => ∃ v_ L_, o_ = .returned v_ ∧ Qmn Z zz k h0 n0 v_ U_.heap L_ ∧ FrameEnd s o_ U_ L_ r_m0.cells r_m0.slots) (fun t_ k_ => castTop (ef_mn m (Int32.ofNat zz) (Int32.ofNat k)) k_) ?_
 show Gl p.tables e below _ (s₁.setTop (mkF m 0 #[sI (Int32.ofNat zz), sI (Int32.ofNat k)] []))
 refine Gl.go (fun _ hr => ziloadN X0.here hx (dc d35_0) rfl (ziloadN X0.here hx (dc d35_1) rfl hr)) ?_
 refine Gl.go (fun _ hr => zicmpYes X0.here hx (pc0 := 2) (pc' := 9) rfl (dc d35_2) rfl (XT.ii_gt_t (own_lt32 (by omega) hk)) (by decide) (by decide) (ziloadN X0.here hx (dc d35_9) rfl hr)) ?_
 obtain ⟨fs, hr, hrun, hended, hW, hsame⟩ := X0.leave (v := some (.int (Int32.ofNat k))) (fun h => by rw [Bd.returns] at h; cases h)
 refine ⟨_, _, retOut X0 hx Bd.returns rfl (Or.inl ⟨rfl, Or.inl rfl, _, rfl⟩) (dc d35_10) hr, hrun, hended, _, _, rfl, ?_, ⟨⟨_, rfl⟩, hW, hsame.mono (by decide) (by decide)⟩⟩
 show Qmn Z zz k h0 n0 _ s₁.heap _
 rw [e0]
 exact ⟨rfl, N0, rfl⟩
def Qcrb (Z : State) (a : Addr) (ka : ClassId) (zz : Nat) (k : Nat) (xs : List Value) (h0 : Heap) (n0 : Nat) (v : Option Value) (h : Heap) (L : List Loc) : Prop := ∃ (r : Addr), ∃ (kr : ClassId), v = some (.ref r) ∧ Fr n0 L ∧ Keep h0 h [] ∧ (Arv Z h r kr .byte (Int32.ofNat k) xs (.int (0 : Int32))) ∧ (Lq h0.size r)
theorem ef_crb (m : MethodId) (x0 : Addr) (x1 : Int32) (x2 : Int32) : entryFrame m #[(.ref x0), (.int x1), (.int x2)] 5 = mkF m 0 #[sR x0, sI x1, sI x2, sU, sU] [] := by first | (simp [entryFrame, mkF, argsToLocals, Value.category]; done) | rfl
abbrev K33 (i : Nat) := decode jdk_65_method_133_code i
theorem d33_0 : K33 0 = .ok (.iload_n 1, 1) := by decide +kernel
theorem d33_1 : K33 1 = .ok (.iload_n 2, 1) := by decide +kernel
theorem d33_2 : K33 2 = .ok (.invokestatic 343, 3) := by decide +kernel
theorem pd_16 : parseMethodDescriptor "(II)V" = some ⟨[.int, .int], none⟩ := by decide +kernel
theorem d33_5 : K33 5 = .ok (.iload_n 2, 1) := by decide +kernel
theorem d33_6 : K33 6 = .ok (.iload_n 1, 1) := by decide +kernel
theorem d33_7 : K33 7 = .ok (.isub, 1) := by decide +kernel
theorem d33_8 : K33 8 = .ok (.istore_n 3, 1) := by decide +kernel
theorem d33_9 : K33 9 = .ok (.iload_n 3, 1) := by decide +kernel
theorem d33_10 : K33 10 = .ok (.newarray .byte, 2) := by decide +kernel
theorem d33_12 : K33 12 = .ok (.astore 4, 2) := by decide +kernel
theorem d33_14 : K33 14 = .ok (.aload_n 0, 1) := by decide +kernel
theorem d33_15 : K33 15 = .ok (.iload_n 1, 1) := by decide +kernel
theorem d33_16 : K33 16 = .ok (.aload 4, 2) := by decide +kernel
theorem d33_18 : K33 18 = .ok (.iconst 0, 1) := by decide +kernel
theorem d33_19 : K33 19 = .ok (.aload_n 0, 1) := by decide +kernel
theorem d33_20 : K33 20 = .ok (.arraylength, 1) := by decide +kernel
theorem d33_21 : K33 21 = .ok (.iload_n 1, 1) := by decide +kernel
theorem d33_22 : K33 22 = .ok (.isub, 1) := by decide +kernel
theorem d33_23 : K33 23 = .ok (.iload_n 3, 1) := by decide +kernel
theorem d33_24 : K33 24 = .ok (.invokestatic 304, 3) := by decide +kernel
theorem pd_17 : parseMethodDescriptor "(II)I" = some ⟨[.int, .int], some .int⟩ := by decide +kernel
theorem d33_27 : K33 27 = .ok (.invokestatic 150, 3) := by decide +kernel
theorem d33_30 : K33 30 = .ok (.aload 4, 2) := by decide +kernel
theorem d33_32 : K33 32 = .ok (.areturn, 1) := by decide +kernel
set_option maxRecDepth 65536 in
set_option maxHeartbeats 40000000 in
theorem crb (l : Launch) (Z : State) (a0 : Array Value) (hw : ∀ d ∈ tables_1, d.before a0 Z = true) (ws : List Jvm.Cond) (a : Addr) (ka : ClassId) (zz : Nat) (k : Nat) (xs : List Value) (h0 : Heap) (n0 : Nat) (Z0 : n0 ≤ h0.size) (q0 : Arv Z h0 a ka .byte (Int32.ofNat zz) xs (.int (0 : Int32))) (hxl : xs.length = k) (hk : k < zz) (hzz : zz ≤ 36) :
  MetFree l y_26 (head1 (Jvm.Cond.code y_26 jdk_65_method_133_code 5 (some (.array .byte)) :: ws) r_m14) (fun a_ U_ => a_ = #[(.ref a), (.int (0 : Int32)), (.int (Int32.ofNat k))] ∧ Z.Warmed39 U_.vm ∧ U_.heap = h0) (fun _ _ _ _ _ => True) (fun _ U_ o_ V_ => ∃ v_ L_, o_ = .returned v_ ∧ Qcrb Z a ka zz k xs h0 n0 v_ V_.heap L_ ∧ FrameEnd U_ o_ V_ L_ r_m14.cells r_m14.slots) := by
 refine MetFree.of_bodySF (plainFor_of_name pn_6) hisR ?_
 intro p e s m args below meth c s₁ Bd aI hP hK
 obtain ⟨rfl, hZ, hh⟩ := hP
 have hx := Bd.exec
 have dc := @hb _ _ Bd.bytes
 have hml : c.maxLocals = 5 := aI
 have hown : s.vm.findClass "java/util/Arrays" = some m.cls := findClass_of_methodNamed Bd.named
 have hnm := (name_of_methodNamed Bd.named Bd.method).1
 have X0 : Stand p l e r_m14 s m #[(.ref a), (.int (0 : Int32)), (.int (Int32.ofNat k))] below meth c s₁ [] 0 0 := Stand.of_body Bd
 have e0 : s₁.heap = h0 := by rw [← hh, Bd.state]; rfl
 have N0 := Fr.nil n0
 have aX := own_alt q0.lt
 refine Gl.go (A := s₁.setTop (entryFrame m #[(.ref a), (.int (0 : Int32)), (.int (Int32.ofNat k))] 5)) (P := fun o_ U_ => ∃ v_ L_, o_ = .returned v_ ∧ Qcrb Z a ka zz k xs h0 n0 v_ U_.heap L_ ∧ FrameEnd s o_ U_ L_ r_m14.cells r_m14.slots) (fun t_ k_ => castTop (ef_crb m a (0 : Int32) (Int32.ofNat k)) k_) ?_
 show Gl p.tables e below _ (s₁.setTop (mkF m 0 #[sR a, sI 0, sI (Int32.ofNat k), sU, sU] []))
 refine Gl.go (fun _ hr => ziloadN X0.here hx (dc d33_0) rfl (ziloadN X0.here hx (dc d33_1) rfl hr)) ?_
 have aM : n0 ≤ h0.size := by omega
 refine gStaticN Gl.cl (y := y_24) (argsL := [(.int (0 : Int32)), (.int (Int32.ofNat k))]) (rest := []) (mc := 0) (ms := 0) X0 hx hZ hown (mvT hZ (tw hw 183 rfl)) (mvT hZ (tw hw 184 rfl)) (mvT hZ (tw hw 178 rfl)) (mvT hZ (tw hw 185 rfl)) (by decide) (backOf (W := 0) (cl l Z a0 hw [] k zz h0 n0 aM (by assumption) (by assumption)) hZ (tw hw 185 rfl) (tw hw 178 rfl) (by decide) (by decide)) rfl (by rw [hml]; rfl) (lenOf pd_16 rfl) rfl (by exact Nat.le_of_eq rfl) (dc d33_2) rfl e0 (by decide) (by decide) ?_
 intro a3 ak aR aG ac
 obtain ⟨rfl, av, aD⟩ := aG
 have aq := Fr.app N0 av
 refine Gl.go (fun _ hr => ziloadN ac.here hx (dc d33_5) rfl (ziloadN ac.here hx (dc d33_6) rfl (zisub ac.here hx (dc d33_7) rfl hr))) ?_
 show Gl p.tables e below _ (ak.setTop (mkF m 8 #[sR a, sI 0, sI (Int32.ofNat k), sU, sU] [(.int ((Int32.ofNat k) - (0 : Int32)))]))
 rw [own_sub0]
 show Gl p.tables e below _ (ak.setTop (mkF m 8 #[sR a, sI 0, sI (Int32.ofNat k), sU, sU] [(.int (Int32.ofNat k))]))
 refine Gl.go (fun _ hr => zistoreN ac.here hx (dc d33_8) rfl (l' := #[sR a, sI 0, sI (Int32.ofNat k), sI (Int32.ofNat k), sU]) rfl (ziloadN ac.here hx (dc d33_9) rfl hr)) ?_
 refine gNewPE Gl.cl ac hx hZ (tw hw 20 rfl) aD rfl (dc d33_10) rfl (own_nn (by omega)) (cap := 36) (by rw [own_nat32 (by omega)]; omega) (by decide) (by decide) (by decide) (ad := "[B") (by decide) ?_
 intro al ae ab ah aW aa ao af ai aO
 have a6 : h0.size ≤ ae.size := af.1
 have aY := own_alt ai.lt
 have ay : Arv Z ae ab ah .byte (Int32.ofNat k) [] (.int (0 : Int32)) := (Arv.new ai (own_nn (by omega))).pad (pad_rep [] (.int (0 : Int32)) 0)
 refine Gl.go (fun _ hr => zastore aa.here hx (dc d33_12) rfl rfl (l' := #[sR a, sI 0, sI (Int32.ofNat k), sI (Int32.ofNat k), sR ab]) rfl (zaloadN aa.here hx (dc d33_14) rfl rfl (ziloadN aa.here hx (dc d33_15) rfl (zaload aa.here hx (dc d33_16) rfl rfl (ziconst aa.here hx (dc d33_18) (zaloadN aa.here hx (dc d33_19) rfl rfl hr)))))) ?_
 have am := (q0.ext af)
 obtain ⟨aV, aC, aZ, aL, aJ, aP, aU⟩ := id am
 refine gLen Gl.cl aa hx hZ ao aC aL aJ rfl rfl (dc d33_20) ?_
 refine Gl.go (fun _ hr => ziloadN aa.here hx (dc d33_21) rfl (zisub aa.here hx (dc d33_22) rfl hr)) ?_
 show Gl p.tables e below _ (al.setTop (mkF m 23 #[sR a, sI 0, sI (Int32.ofNat k), sI (Int32.ofNat k), sR ab] [(.int ((Int32.ofNat zz) - (0 : Int32))), (.int (0 : Int32)), (.ref ab), (.int (0 : Int32)), (.ref a)]))
 rw [own_sub0]
 show Gl p.tables e below _ (al.setTop (mkF m 23 #[sR a, sI 0, sI (Int32.ofNat k), sI (Int32.ofNat k), sR ab] [(.int (Int32.ofNat zz)), (.int (0 : Int32)), (.ref ab), (.int (0 : Int32)), (.ref a)]))
 refine Gl.go (fun _ hr => ziloadN aa.here hx (dc d33_23) rfl hr) ?_
 have aN : n0 ≤ ae.size := by omega
 refine gStaticN Gl.cl (y := y_25) (argsL := [(.int (Int32.ofNat zz)), (.int (Int32.ofNat k))]) (rest := [(.int (0 : Int32)), (.ref ab), (.int (0 : Int32)), (.ref a)]) (mc := 0) (ms := 0) aa hx hZ hown (mvT hZ (tw hw 186 rfl)) (mvT hZ (tw hw 187 rfl)) (mvT hZ (tw hw 188 rfl)) (mvT hZ (tw hw 189 rfl)) (by decide) (backOf (W := 4) (mn l Z a0 hw [] zz k ae n0 aN (by assumption) (by assumption)) hZ (tw hw 189 rfl) (tw hw 188 rfl) (by decide) (by decide)) rfl (by rw [hml]; rfl) (lenOf pd_17 rfl) rfl (by exact Nat.le_of_eq rfl) (dc d33_24) rfl ao (by decide) (by decide) ?_
 intro a5 aT aS aH aB
 obtain ⟨rfl, aw, aE⟩ := aH
 have ar := Fr.app aq aw
 refine gCopy Gl.cl (us := xs) (n0 := n0) (W := 0) aB hx hZ hown (tw hw 190 rfl) (tw hw 104 rfl) (tw hw 102 rfl) (tw hw 103 rfl) aE am (ay.pad (pad_rep ([]) (.int (0 : Int32)) k)) (Or.inl ⟨rfl, rfl⟩) (by decide) (by decide) (own_nn (by omega)) (by rw [own_z0, own_nat32 (by omega), own_nat32 (by omega)]; omega) (by rw [own_z0, Nat.zero_add]; exact Nat.le_refl _) (own_us hxl (by omega)) (by rw [own_z0, own_nat32 (by omega)]; simp) ar (by omega) rfl (by rw [hml]; rfl) rfl (dc d33_27) (by decide) (by exact Nat.le_of_eq rfl) (by decide) ?_
 intro ax ap aQ ag aF au aj aA
 have a7 : ae.size ≤ ap.size := aj.1
 have az : Arv Z ap ab ah .byte (Int32.ofNat k) xs (.int (0 : Int32)) := own_cpy (by omega) aA
 refine Gl.go (fun _ hr => zaload ag.here hx (dc d33_30) rfl rfl hr) ?_
 obtain ⟨fs, hr, hrun, hended, hW, hsame⟩ := ag.leave (v := some (.ref ab)) (fun h => by rw [Bd.returns] at h; cases h)
 have aK : Lq h0.size ab := by omega
 refine ⟨_, _, retOut ag hx Bd.returns rfl (Or.inr (Or.inr (Or.inr (Or.inr ⟨rfl, rfl, rfl⟩)))) (dc d33_32) hr, hrun, hended, _, _, rfl, ?_, ⟨⟨_, rfl⟩, hW, hsame.mono (by decide) (by decide)⟩⟩
 show Qcrb Z a ka zz k xs h0 n0 _ ax.heap _
 rw [aF]
 exact ⟨ab, ah, rfl, au, (((Keep.refl h0 []).ext af).trans aj (allS (P := fun x_ => x_ ∈ ([] : List Addr) ∨ h0.size ≤ x_) (Or.inr (own_ale aK)) all0)), az, (by omega)⟩
abbrev K32 (i : Nat) := decode jdk_65_method_132_code i
theorem d32_0 : K32 0 = .ok (.iload_n 1, 1) := by decide +kernel
theorem d32_1 : K32 1 = .ok (.ifCond .ne 9, 3) := by decide +kernel
theorem d32_4 : K32 4 = .ok (.iload_n 2, 1) := by decide +kernel
theorem d32_5 : K32 5 = .ok (.aload_n 0, 1) := by decide +kernel
theorem d32_6 : K32 6 = .ok (.arraylength, 1) := by decide +kernel
theorem d32_7 : K32 7 = .ok (.if_icmp .eq 10, 3) := by decide +kernel
theorem d32_10 : K32 10 = .ok (.aload_n 0, 1) := by decide +kernel
theorem d32_11 : K32 11 = .ok (.iload_n 1, 1) := by decide +kernel
theorem d32_12 : K32 12 = .ok (.iload_n 2, 1) := by decide +kernel
theorem d32_13 : K32 13 = .ok (.invokestatic 339, 3) := by decide +kernel
theorem pd_18 : parseMethodDescriptor "([BII)[B" = some ⟨[(.array .byte), .int, .int], some (.array .byte)⟩ := by decide +kernel
theorem d32_16 : K32 16 = .ok (.areturn, 1) := by decide +kernel
set_option maxRecDepth 65536 in
def Qpci (Z : State) (i : Nat) (nz : Nat) (G3 : Value) (h0 : Heap) (n0 : Nat) (v : Option Value) (h : Heap) (L : List Loc) : Prop := v = some (.int (Int32.ofNat i)) ∧ Fr n0 L ∧ h = h0
theorem ef_pci (m : MethodId) (x0 : Int32) (x1 : Int32) (x2 : Value) (hx2 : x2.isRef = true) : entryFrame m #[(.int x0), (.int x1), x2] 3 = mkF m 0 #[sI x0, sI x1, .val x2] [] := by
 cases x2 <;> first | rfl | exact Bool.noConfusion hx2 | (simp [entryFrame, mkF, argsToLocals, Value.category]; done)
abbrev K42 (i : Nat) := decode jdk_41_method_11_code i
theorem d42_0 : K42 0 = .ok (.iload_n 0, 1) := by decide +kernel
theorem d42_1 : K42 1 = .ok (.ifCond .lt 8, 3) := by decide +kernel
theorem d42_4 : K42 4 = .ok (.iload_n 0, 1) := by decide +kernel
theorem d42_5 : K42 5 = .ok (.iload_n 1, 1) := by decide +kernel
theorem d42_6 : K42 6 = .ok (.if_icmp .lt 10, 3) := by decide +kernel
theorem d42_16 : K42 16 = .ok (.iload_n 0, 1) := by decide +kernel
theorem d42_17 : K42 17 = .ok (.ireturn, 1) := by decide +kernel
set_option maxRecDepth 65536 in
set_option maxHeartbeats 40000000 in
theorem pci (l : Launch) (Z : State) (a0 : Array Value) (hw : ∀ d ∈ tables_1, d.before a0 Z = true) (ws : List Jvm.Cond) (i : Nat) (nz : Nat) (G3 : Value) (h0 : Heap) (n0 : Nat) (Z0 : n0 ≤ h0.size) (rG3 : G3.isRef = true) (hii : i < nz) (hnz : nz < 2 ^ 31) :
  MetFree l y_28 (head1 (Jvm.Cond.code y_28 jdk_41_method_11_code 3 (some .int) :: ws) r_m0) (fun a_ U_ => a_ = #[(.int (Int32.ofNat i)), (.int (Int32.ofNat nz)), G3] ∧ Z.Warmed39 U_.vm ∧ U_.heap = h0) (fun _ _ _ _ _ => True) (fun _ U_ o_ V_ => ∃ v_ L_, o_ = .returned v_ ∧ Qpci Z i nz G3 h0 n0 v_ V_.heap L_ ∧ FrameEnd U_ o_ V_ L_ r_m0.cells r_m0.slots) := by
 refine MetFree.of_bodySF (plainFor_of_name pn_3) hisR ?_
 intro p e s m args below meth c s₁ Bd aa hP hK
 obtain ⟨rfl, hZ, hh⟩ := hP
 have hx := Bd.exec
 have dc := @hb _ _ Bd.bytes
 have hml : c.maxLocals = 3 := aa
 have hown : s.vm.findClass "jdk/internal/util/Preconditions" = some m.cls := findClass_of_methodNamed Bd.named
 have hnm := (name_of_methodNamed Bd.named Bd.method).1
 have X0 : Stand p l e r_m0 s m #[(.int (Int32.ofNat i)), (.int (Int32.ofNat nz)), G3] below meth c s₁ [] 0 0 := Stand.of_body Bd
 have e0 : s₁.heap = h0 := by rw [← hh, Bd.state]; rfl
 have N0 := Fr.nil n0
 refine Gl.go (A := s₁.setTop (entryFrame m #[(.int (Int32.ofNat i)), (.int (Int32.ofNat nz)), G3] 3)) (P := fun o_ U_ => ∃ v_ L_, o_ = .returned v_ ∧ Qpci Z i nz G3 h0 n0 v_ U_.heap L_ ∧ FrameEnd s o_ U_ L_ r_m0.cells r_m0.slots) (fun t_ k_ => castTop (ef_pci m (Int32.ofNat i) (Int32.ofNat nz) G3 (by assumption)) k_) ?_
 show Gl p.tables e below _ (s₁.setTop (mkF m 0 #[sI (Int32.ofNat i), sI (Int32.ofNat nz), .val G3] []))
 refine Gl.go (fun _ hr => ziloadN X0.here hx (dc d42_0) rfl hr) ?_
 refine Gl.go (fun _ hr => zifNo X0.here hx (dc d42_1) rfl (XT.i0_lt_f (own_nn (by omega))) (ziloadN X0.here hx (dc d42_4) rfl (ziloadN X0.here hx (dc d42_5) rfl hr))) ?_
 refine Gl.go (fun _ hr => zicmpYes X0.here hx (pc0 := 6) (pc' := 16) rfl (dc d42_6) rfl (XT.ii_lt_t (own_lt32 hnz hii)) (by decide) (by decide) (ziloadN X0.here hx (dc d42_16) rfl hr)) ?_
 obtain ⟨fs, hr, hrun, hended, hW, hsame⟩ := X0.leave (v := some (.int (Int32.ofNat i))) (fun h => by rw [Bd.returns] at h; cases h)
 refine ⟨_, _, retOut X0 hx Bd.returns rfl (Or.inl ⟨rfl, Or.inl rfl, _, rfl⟩) (dc d42_17) hr, hrun, hended, _, _, rfl, ?_, ⟨⟨_, rfl⟩, hW, hsame.mono (by decide) (by decide)⟩⟩
 show Qpci Z i nz G3 h0 n0 _ s₁.heap _
 rw [e0]
 exact ⟨rfl, N0, rfl⟩
def Qsci (Z : State) (i : Nat) (nz : Nat) (G3 : Value) (h0 : Heap) (n0 : Nat) (v : Option Value) (h : Heap) (L : List Loc) : Prop := v = none ∧ Fr n0 L ∧ h = h0
theorem ef_sci (m : MethodId) (x0 : Int32) (x1 : Int32) : entryFrame m #[(.int x0), (.int x1)] 2 = mkF m 0 #[sI x0, sI x1] [] := by first | (simp [entryFrame, mkF, argsToLocals, Value.category]; done) | rfl
abbrev K41 (i : Nat) := decode jdk_42_method_155_code i
theorem d41_0 : K41 0 = .ok (.iload_n 0, 1) := by decide +kernel
theorem d41_1 : K41 1 = .ok (.iload_n 1, 1) := by decide +kernel
theorem d41_2 : K41 2 = .ok (.getstatic 1053, 3) := by decide +kernel
theorem d41_5 : K41 5 = .ok (.invokestatic 1059, 3) := by decide +kernel
theorem pd_19 : parseMethodDescriptor "(IILjava/util/function/BiFunction;)I" = some ⟨[.int, .int, (.object "java/util/function/BiFunction")], some .int⟩ := by decide +kernel
theorem d41_8 : K41 8 = .ok (.pop, 1) := by decide +kernel
theorem d41_9 : K41 9 = .ok (.return_, 1) := by decide +kernel
set_option maxRecDepth 65536 in
set_option maxHeartbeats 40000000 in
theorem sci (l : Launch) (Z : State) (a0 : Array Value) (hw : ∀ d ∈ tables_1, d.before a0 Z = true) (ws : List Jvm.Cond) (i : Nat) (nz : Nat) (G3 : Value) (h0 : Heap) (n0 : Nat) (Z0 : n0 ≤ h0.size) (q0 : OZ Z h0 n0) (q1 : SFm Z G3) (rG3 : G3.isRef = true) (hii : i < nz) (hnz : nz < 2 ^ 31) :
  MetFree l y_29 (head1 (Jvm.Cond.code y_29 jdk_42_method_155_code 2 none :: ws) r_m16) (fun a_ U_ => a_ = #[(.int (Int32.ofNat i)), (.int (Int32.ofNat nz))] ∧ Z.Warmed39 U_.vm ∧ U_.heap = h0) (fun _ _ _ _ _ => True) (fun _ U_ o_ V_ => ∃ v_ L_, o_ = .returned v_ ∧ Qsci Z i nz G3 h0 n0 v_ V_.heap L_ ∧ FrameEnd U_ o_ V_ L_ r_m16.cells r_m16.slots) := by
 refine MetFree.of_bodySF (plainFor_of_name pn_1) hisR ?_
 intro p e s m args below meth c s₁ Bd aj hP hK
 obtain ⟨rfl, hZ, hh⟩ := hP
 have hx := Bd.exec
 have dc := @hb _ _ Bd.bytes
 have hml : c.maxLocals = 2 := aj
 have hown : s.vm.findClass "java/lang/String" = some m.cls := findClass_of_methodNamed Bd.named
 have hnm := (name_of_methodNamed Bd.named Bd.method).1
 have X0 : Stand p l e r_m16 s m #[(.int (Int32.ofNat i)), (.int (Int32.ofNat nz))] below meth c s₁ [] 0 0 := Stand.of_body Bd
 have e0 : s₁.heap = h0 := by rw [← hh, Bd.state]; rfl
 have N0 := Fr.nil n0
 have Oo := q0.1
 have zo := q0.2
 refine Gl.go (A := s₁.setTop (entryFrame m #[(.int (Int32.ofNat i)), (.int (Int32.ofNat nz))] 2)) (P := fun o_ U_ => ∃ v_ L_, o_ = .returned v_ ∧ Qsci Z i nz G3 h0 n0 v_ U_.heap L_ ∧ FrameEnd s o_ U_ L_ r_m16.cells r_m16.slots) (fun t_ k_ => castTop (ef_sci m (Int32.ofNat i) (Int32.ofNat nz)) k_) ?_
 show Gl p.tables e below _ (s₁.setTop (mkF m 0 #[sI (Int32.ofNat i), sI (Int32.ofNat nz)] []))
 refine Gl.go (fun _ hr => ziloadN X0.here hx (dc d41_0) rfl (ziloadN X0.here hx (dc d41_1) rfl hr)) ?_
 refine gGetS (host := "") Gl.cl X0 hx hZ hown (Or.inl (tw hw 214 rfl)) Via.refl e0 (q1.ext Oo.2) rfl (dc d41_2) ?_
 intro am af ag
 have ak : n0 ≤ h0.size := by omega
 refine gStaticN Gl.cl (y := y_28) (argsL := [(.int (Int32.ofNat i)), (.int (Int32.ofNat nz)), G3]) (rest := []) (mc := 0) (ms := 0) af hx hZ hown (mvT hZ (tw hw 216 rfl)) (mvT hZ (tw hw 217 rfl)) (mvT hZ (tw hw 215 rfl)) (mvT hZ (tw hw 218 rfl)) (by decide) (backOf (W := 0) (pci l Z a0 hw [] i nz G3 h0 n0 ak (by assumption) (by assumption) (by assumption)) hZ (tw hw 218 rfl) (tw hw 215 rfl) (by decide) (by decide)) rfl (by rw [hml]; rfl) (lenOf pd_19 rfl) rfl (by exact Nat.le_of_eq rfl) (dc d41_5) rfl ag (by decide) (by decide) ?_
 intro ao ae al ai aa
 obtain ⟨rfl, ac, ah⟩ := ai
 have ab := Fr.app N0 ac
 refine Gl.go (fun _ hr => zpop aa.here hx (dc d41_8) rfl rfl hr) ?_
 obtain ⟨fs, hr, hrun, hended, hW, hsame⟩ := aa.leave (v := none) (fun _ => rfl)
 refine ⟨_, _, aa.returnOut hx Bd.returns (dc d41_9) hr, hrun, hended, _, _, rfl, ?_, ⟨⟨_, rfl⟩, hW, hsame.mono (by decide) (by decide)⟩⟩
 show Qsci Z i nz G3 h0 n0 _ ae.heap _
 rw [ah]
 exact ⟨rfl, ab, rfl⟩
def Qisl0 (Z : State) (x : Addr) (G1 : Int32) (h0 : Heap) (n0 : Nat) (v : Option Value) (h : Heap) (L : List Loc) : Prop := v = some (.int (1 : Int32)) ∧ Fr n0 L ∧ h = h0
theorem ef_isl0 (m : MethodId) (x0 : Addr) : entryFrame m #[(.ref x0)] 1 = mkF m 0 #[sR x0] [] := by first | (simp [entryFrame, mkF, argsToLocals, Value.category]; done) | rfl
abbrev K39 (i : Nat) := decode jdk_42_method_154_code i
theorem d39_0 : K39 0 = .ok (.getstatic 38, 3) := by decide +kernel
theorem d39_3 : K39 3 = .ok (.ifCond .eq 14, 3) := by decide +kernel
theorem d39_6 : K39 6 = .ok (.aload_n 0, 1) := by decide +kernel
theorem d39_7 : K39 7 = .ok (.getfield 15, 3) := by decide +kernel
theorem d39_10 : K39 10 = .ok (.ifCond .ne 7, 3) := by decide +kernel
theorem d39_13 : K39 13 = .ok (.iconst 1, 1) := by decide +kernel
theorem d39_14 : K39 14 = .ok (.goto 4, 3) := by decide +kernel
theorem d39_18 : K39 18 = .ok (.ireturn, 1) := by decide +kernel
set_option maxRecDepth 65536 in
set_option maxHeartbeats 40000000 in
theorem isl0 (l : Launch) (Z : State) (a0 : Array Value) (hw : ∀ d ∈ tables_1, d.before a0 Z = true) (ws : List Jvm.Cond) (x : Addr) (G1 : Int32) (h0 : Heap) (n0 : Nat) (Z0 : n0 ≤ h0.size) (q0 : SCs Z G1) (P5 : ¬ (G1 = (0 : Int32))) (q2 : OZ Z h0 n0) (q3 : FSc Z h0 x (.int (0 : Int32))) :
  MetFree l y_30 (head1 (Jvm.Cond.code y_30 jdk_42_method_154_code 1 (some .boolean) :: ws) r_m0) (fun a_ U_ => a_ = #[(.ref x)] ∧ Z.Warmed39 U_.vm ∧ U_.heap = h0) (fun _ _ _ _ _ => True) (fun _ U_ o_ V_ => ∃ v_ L_, o_ = .returned v_ ∧ Qisl0 Z x G1 h0 n0 v_ V_.heap L_ ∧ FrameEnd U_ o_ V_ L_ r_m0.cells r_m0.slots) := by
 refine MetFree.of_bodySF (plainFor_of_name pn_1) hisR ?_
 intro p e s m args below meth c s₁ Bd ag hP hK
 obtain ⟨rfl, hZ, hh⟩ := hP
 have hx := Bd.exec
 have dc := @hb _ _ Bd.bytes
 have hml : c.maxLocals = 1 := ag
 have hown : s.vm.findClass "java/lang/String" = some m.cls := findClass_of_methodNamed Bd.named
 have hnm := (name_of_methodNamed Bd.named Bd.method).1
 have X0 : Stand p l e r_m0 s m #[(.ref x)] below meth c s₁ [] 0 0 := Stand.of_body Bd
 have e0 : s₁.heap = h0 := by rw [← hh, Bd.state]; rfl
 have N0 := Fr.nil n0
 have Oo := q2.1
 have zo := q2.2
 have ai := own_alt q3.lt
 refine Gl.go (A := s₁.setTop (entryFrame m #[(.ref x)] 1)) (P := fun o_ U_ => ∃ v_ L_, o_ = .returned v_ ∧ Qisl0 Z x G1 h0 n0 v_ U_.heap L_ ∧ FrameEnd s o_ U_ L_ r_m0.cells r_m0.slots) (fun t_ k_ => castTop (ef_isl0 m x) k_) ?_
 show Gl p.tables e below _ (s₁.setTop (mkF m 0 #[sR x] []))
 refine gGetS (host := "") Gl.cl X0 hx hZ hown (Or.inl (tw hw 57 rfl)) Via.refl e0 (q0.ext Oo.2) rfl (dc d39_0) ?_
 intro ah ab ae
 refine Gl.go (fun _ hr => zifNo ab.here hx (dc d39_3) rfl (XT.i0_eq_f P5) (zaloadN ab.here hx (dc d39_6) rfl rfl hr)) ?_
 refine gGetF (host := "") Gl.cl ab hx hZ hown (Or.inl (tw hw 26 rfl)) Via.refl ae q3 rfl rfl (dc d39_7) ?_
 intro ac aa af
 refine Gl.go (fun _ hr => zifNo aa.here hx (dc d39_10) rfl (XT.i0_ne_f (by decide)) (ziconst aa.here hx (dc d39_13) (zgoto aa.here hx (pc0 := 14) (pc' := 18) rfl (dc d39_14) (by decide) (by decide) hr))) ?_
 obtain ⟨fs, hr, hrun, hended, hW, hsame⟩ := aa.leave (v := some (.int (1 : Int32))) (fun h => by rw [Bd.returns] at h; cases h)
 refine ⟨_, _, retN aa hx (t := .boolean) Bd.returns (by simp) (dc d39_18) hr, hrun, hended, _, _, rfl, ?_, ⟨⟨_, rfl⟩, hW, hsame.mono (by decide) (by decide)⟩⟩
 show Qisl0 Z x G1 h0 n0 _ ac.heap _
 rw [af]
 exact ⟨rfl, N0, rfl⟩
def Qisl1 (Z : State) (x : Addr) (G1 : Int32) (h0 : Heap) (n0 : Nat) (v : Option Value) (h : Heap) (L : List Loc) : Prop := v = some (.int (0 : Int32)) ∧ Fr n0 L ∧ h = h0
theorem ef_isl1 (m : MethodId) (x0 : Addr) : entryFrame m #[(.ref x0)] 1 = mkF m 0 #[sR x0] [] := by first | (simp [entryFrame, mkF, argsToLocals, Value.category]; done) | rfl
theorem d39_17 : K39 17 = .ok (.iconst 0, 1) := by decide +kernel
set_option maxRecDepth 65536 in
set_option maxHeartbeats 40000000 in
theorem isl1 (l : Launch) (Z : State) (a0 : Array Value) (hw : ∀ d ∈ tables_1, d.before a0 Z = true) (ws : List Jvm.Cond) (x : Addr) (G1 : Int32) (h0 : Heap) (n0 : Nat) (Z0 : n0 ≤ h0.size) (q0 : SCs Z G1) (P5 : ¬ (G1 = (0 : Int32))) (q2 : OZ Z h0 n0) (q3 : FSc Z h0 x (.int (1 : Int32))) :
  MetFree l y_30 (head1 (Jvm.Cond.code y_30 jdk_42_method_154_code 1 (some .boolean) :: ws) r_m0) (fun a_ U_ => a_ = #[(.ref x)] ∧ Z.Warmed39 U_.vm ∧ U_.heap = h0) (fun _ _ _ _ _ => True) (fun _ U_ o_ V_ => ∃ v_ L_, o_ = .returned v_ ∧ Qisl1 Z x G1 h0 n0 v_ V_.heap L_ ∧ FrameEnd U_ o_ V_ L_ r_m0.cells r_m0.slots) := by
 refine MetFree.of_bodySF (plainFor_of_name pn_1) hisR ?_
 intro p e s m args below meth c s₁ Bd ag hP hK
 obtain ⟨rfl, hZ, hh⟩ := hP
 have hx := Bd.exec
 have dc := @hb _ _ Bd.bytes
 have hml : c.maxLocals = 1 := ag
 have hown : s.vm.findClass "java/lang/String" = some m.cls := findClass_of_methodNamed Bd.named
 have hnm := (name_of_methodNamed Bd.named Bd.method).1
 have X0 : Stand p l e r_m0 s m #[(.ref x)] below meth c s₁ [] 0 0 := Stand.of_body Bd
 have e0 : s₁.heap = h0 := by rw [← hh, Bd.state]; rfl
 have N0 := Fr.nil n0
 have Oo := q2.1
 have zo := q2.2
 have ai := own_alt q3.lt
 refine Gl.go (A := s₁.setTop (entryFrame m #[(.ref x)] 1)) (P := fun o_ U_ => ∃ v_ L_, o_ = .returned v_ ∧ Qisl1 Z x G1 h0 n0 v_ U_.heap L_ ∧ FrameEnd s o_ U_ L_ r_m0.cells r_m0.slots) (fun t_ k_ => castTop (ef_isl1 m x) k_) ?_
 show Gl p.tables e below _ (s₁.setTop (mkF m 0 #[sR x] []))
 refine gGetS (host := "") Gl.cl X0 hx hZ hown (Or.inl (tw hw 57 rfl)) Via.refl e0 (q0.ext Oo.2) rfl (dc d39_0) ?_
 intro ah ab ae
 refine Gl.go (fun _ hr => zifNo ab.here hx (dc d39_3) rfl (XT.i0_eq_f P5) (zaloadN ab.here hx (dc d39_6) rfl rfl hr)) ?_
 refine gGetF (host := "") Gl.cl ab hx hZ hown (Or.inl (tw hw 26 rfl)) Via.refl ae q3 rfl rfl (dc d39_7) ?_
 intro ac aa af
 refine Gl.go (fun _ hr => zifYes aa.here hx (pc0 := 10) (pc' := 17) rfl (dc d39_10) rfl (XT.i0_ne_t (by decide)) (by decide) (by decide) (ziconst aa.here hx (dc d39_17) hr)) ?_
 obtain ⟨fs, hr, hrun, hended, hW, hsame⟩ := aa.leave (v := some (.int (0 : Int32))) (fun h => by rw [Bd.returns] at h; cases h)
 refine ⟨_, _, retN aa hx (t := .boolean) Bd.returns (by simp) (dc d39_18) hr, hrun, hended, _, _, rfl, ?_, ⟨⟨_, rfl⟩, hW, hsame.mono (by decide) (by decide)⟩⟩
 show Qisl1 Z x G1 h0 n0 _ ac.heap _
 rw [af]
 exact ⟨rfl, N0, rfl⟩
def Qlch (Z : State) (a : Addr) (ka : ClassId) (cs : List Int32) (i : Nat) (G3 : Value) (h0 : Heap) (n0 : Nat) (v : Option Value) (h : Heap) (L : List Loc) : Prop := v = some (.int (cs.getD i 0)) ∧ Fr n0 L ∧ h = h0
theorem ef_lch (m : MethodId) (x0 : Addr) (x1 : Int32) : entryFrame m #[(.ref x0), (.int x1)] 2 = mkF m 0 #[sR x0, sI x1] [] := by first | (simp [entryFrame, mkF, argsToLocals, Value.category]; done) | rfl
abbrev K40 (i : Nat) := decode jdk_43_method_2_code i
theorem d40_0 : K40 0 = .ok (.iload_n 1, 1) := by decide +kernel
theorem d40_1 : K40 1 = .ok (.aload_n 0, 1) := by decide +kernel
theorem d40_2 : K40 2 = .ok (.arraylength, 1) := by decide +kernel
theorem d40_3 : K40 3 = .ok (.invokestatic 9, 3) := by decide +kernel
theorem d40_6 : K40 6 = .ok (.aload_n 0, 1) := by decide +kernel
theorem d40_7 : K40 7 = .ok (.iload_n 1, 1) := by decide +kernel
theorem d40_8 : K40 8 = .ok (.baload, 1) := by decide +kernel
theorem d40_9 : K40 9 = .ok (.sipush 255, 3) := by decide +kernel
theorem d40_12 : K40 12 = .ok (.iand, 1) := by decide +kernel
theorem d40_13 : K40 13 = .ok (.i2c, 1) := by decide +kernel
theorem d40_14 : K40 14 = .ok (.ireturn, 1) := by decide +kernel
set_option maxRecDepth 65536 in
set_option maxHeartbeats 40000000 in
theorem lch (l : Launch) (Z : State) (a0 : Array Value) (hw : ∀ d ∈ tables_1, d.before a0 Z = true) (ws : List Jvm.Cond) (a : Addr) (ka : ClassId) (cs : List Int32) (i : Nat) (G3 : Value) (h0 : Heap) (n0 : Nat) (Z0 : n0 ≤ h0.size) (q0 : OZ Z h0 n0) (q1 : SFm Z G3) (rG3 : G3.isRef = true) (q3 : Arv Z h0 a ka .byte (Int32.ofNat cs.length) (lb cs) (.int (0 : Int32))) (hlc : ∀ c ∈ cs, Lat c) (hii : i < cs.length) (hcl : cs.length ≤ 32) :
  MetFree l y_31 (head1 (Jvm.Cond.code y_31 jdk_43_method_2_code 2 (some .char) :: ws) r_m17) (fun a_ U_ => a_ = #[(.ref a), (.int (Int32.ofNat i))] ∧ Z.Warmed39 U_.vm ∧ U_.heap = h0) (fun _ _ _ _ _ => True) (fun _ U_ o_ V_ => ∃ v_ L_, o_ = .returned v_ ∧ Qlch Z a ka cs i G3 h0 n0 v_ V_.heap L_ ∧ FrameEnd U_ o_ V_ L_ r_m17.cells r_m17.slots) := by
 refine MetFree.of_bodySF (plainFor_of_name pn_4) hisR ?_
 intro p e s m args below meth c s₁ Bd al hP hK
 obtain ⟨rfl, hZ, hh⟩ := hP
 have hx := Bd.exec
 have dc := @hb _ _ Bd.bytes
 have hml : c.maxLocals = 2 := al
 have hown : s.vm.findClass "java/lang/StringLatin1" = some m.cls := findClass_of_methodNamed Bd.named
 have hnm := (name_of_methodNamed Bd.named Bd.method).1
 have X0 : Stand p l e r_m17 s m #[(.ref a), (.int (Int32.ofNat i))] below meth c s₁ [] 0 0 := Stand.of_body Bd
 have e0 : s₁.heap = h0 := by rw [← hh, Bd.state]; rfl
 have N0 := Fr.nil n0
 have Oo := q0.1
 have zo := q0.2
 have az := own_alt q3.lt
 have hq := hlc _ (own_getD_mem hii)
 refine Gl.go (A := s₁.setTop (entryFrame m #[(.ref a), (.int (Int32.ofNat i))] 2)) (P := fun o_ U_ => ∃ v_ L_, o_ = .returned v_ ∧ Qlch Z a ka cs i G3 h0 n0 v_ U_.heap L_ ∧ FrameEnd s o_ U_ L_ r_m17.cells r_m17.slots) (fun t_ k_ => castTop (ef_lch m a (Int32.ofNat i)) k_) ?_
 show Gl p.tables e below _ (s₁.setTop (mkF m 0 #[sR a, sI (Int32.ofNat i)] []))
 refine Gl.go (fun _ hr => ziloadN X0.here hx (dc d40_0) rfl (zaloadN X0.here hx (dc d40_1) rfl rfl hr)) ?_
 obtain ⟨ax, ai, aB, ao, am, ar, av⟩ := id q3
 refine gLen Gl.cl X0 hx hZ e0 ai ao am rfl rfl (dc d40_2) ?_
 have aq : n0 ≤ h0.size := by omega
 refine gStaticN Gl.cl (y := y_29) (argsL := [(.int (Int32.ofNat i)), (.int (Int32.ofNat cs.length))]) (rest := []) (mc := 0) (ms := 0) X0 hx hZ hown (mvT hZ (tw hw 211 rfl)) (mvT hZ (tw hw 212 rfl)) (mvT hZ (tw hw 7 rfl)) (mvT hZ (tw hw 213 rfl)) (by decide) (backOf (W := 0) (sci l Z a0 hw [] i cs.length G3 h0 n0 aq ⟨Oo, (by omega)⟩ q1 (by assumption) hii (by omega)) hZ (tw hw 213 rfl) (tw hw 7 rfl) (by decide) (by decide)) rfl (by rw [hml]; rfl) (lenOf pd_16 rfl) rfl (by exact Nat.le_of_eq rfl) (dc d40_3) rfl e0 (by decide) (by decide) ?_
 intro aD ab au ak aa
 obtain ⟨rfl, ah, ac⟩ := ak
 have ag := Fr.app N0 ah
 refine Gl.go (fun _ hr => zaloadN aa.here hx (dc d40_6) rfl rfl (ziloadN aa.here hx (dc d40_7) rfl hr)) ?_
 obtain ⟨ay, aj, aC, ap, aA, af, aw⟩ := id q3
 have ae := inb_of ap (j := (Int32.ofNat i)) ⟨own_nn (by omega), own_lt32 (b := cs.length) (by omega) hii⟩
 refine g_baload Gl.cl aa hx hZ ac aj ae (v := (.int (StrChars.lo8 (cs.getD i 0)))) (af.at ae (by rw [own_nat32 (by omega)]; exact own_lbat _ cs i hii)) rfl rfl (dc d40_8) ?_
 refine Gl.go (fun _ hr => zsipush aa.here hx (dc d40_9) (ziand aa.here hx (dc d40_12) rfl hr)) ?_
 show Gl p.tables e below _ (ab.setTop (mkF m 13 #[sR a, sI (Int32.ofNat i)] [(.int ((StrChars.lo8 (cs.getD i 0)) &&& (255 : Int32)))]))
 rw [(own_chr8 hq)]
 show Gl p.tables e below _ (ab.setTop (mkF m 13 #[sR a, sI (Int32.ofNat i)] [(.int (cs.getD i 0))]))
 refine Gl.go (fun _ hr => zi2c aa.here hx (dc d40_13) rfl hr) ?_
 show Gl p.tables e below _ (ab.setTop (mkF m 14 #[sR a, sI (Int32.ofNat i)] [(.int ((cs.getD i 0).toUInt32.toUInt16.toUInt32.toInt32))]))
 rw [(own_i2cW (own_latw hq))]
 show Gl p.tables e below _ (ab.setTop (mkF m 14 #[sR a, sI (Int32.ofNat i)] [(.int (cs.getD i 0))]))
 obtain ⟨fs, hr, hrun, hended, hW, hsame⟩ := aa.leave (v := some (.int (nar .char (cs.getD i 0)))) (fun h => by rw [Bd.returns] at h; cases h)
 refine ⟨_, _, retN aa hx (t := .char) Bd.returns (by simp) (dc d40_14) hr, hrun, hended, _, _, rfl, ?_, ⟨⟨_, rfl⟩, hW, hsame.mono (by decide) (by decide)⟩⟩
 show Qlch Z a ka cs i G3 h0 n0 _ ab.heap _
 rw [ac]
 exact ⟨(own_some (own_nar_wid (own_latw hq))), ag, rfl⟩
def Quci (Z : State) (a : Addr) (ka : ClassId) (cs : List Int32) (i : Nat) (G3 : Value) (h0 : Heap) (n0 : Nat) (v : Option Value) (h : Heap) (L : List Loc) : Prop := v = none ∧ Fr n0 L ∧ h = h0
theorem ef_uci (m : MethodId) (x0 : Int32) (x1 : Addr) : entryFrame m #[(.int x0), (.ref x1)] 2 = mkF m 0 #[sI x0, sR x1] [] := by first | (simp [entryFrame, mkF, argsToLocals, Value.category]; done) | rfl
abbrev K59 (i : Nat) := decode jdk_52_method_91_code i
theorem d59_0 : K59 0 = .ok (.iload_n 0, 1) := by decide +kernel
theorem d59_1 : K59 1 = .ok (.aload_n 1, 1) := by decide +kernel
theorem d59_2 : K59 2 = .ok (.invokestatic 48, 3) := by decide +kernel
theorem d59_5 : K59 5 = .ok (.invokestatic 414, 3) := by decide +kernel
theorem d59_8 : K59 8 = .ok (.return_, 1) := by decide +kernel
set_option maxRecDepth 65536 in
set_option maxHeartbeats 40000000 in
theorem uci (l : Launch) (Z : State) (a0 : Array Value) (hw : ∀ d ∈ tables_1, d.before a0 Z = true) (ws : List Jvm.Cond) (a : Addr) (ka : ClassId) (cs : List Int32) (i : Nat) (G3 : Value) (h0 : Heap) (n0 : Nat) (Z0 : n0 ≤ h0.size) (q0 : OZ Z h0 n0) (q1 : SFm Z G3) (rG3 : G3.isRef = true) (q3 : Arv Z h0 a ka .byte (Int32.ofNat (2 * cs.length)) (StrChars.Road.wideBytes cs) (.int (0 : Int32))) (hii : i < cs.length) (hcl : cs.length ≤ 32) :
  MetFree l y_32 (head1 (Jvm.Cond.code y_32 jdk_52_method_91_code 2 none :: ws) r_m17) (fun a_ U_ => a_ = #[(.int (Int32.ofNat i)), (.ref a)] ∧ Z.Warmed39 U_.vm ∧ U_.heap = h0) (fun _ _ _ _ _ => True) (fun _ U_ o_ V_ => ∃ v_ L_, o_ = .returned v_ ∧ Quci Z a ka cs i G3 h0 n0 v_ V_.heap L_ ∧ FrameEnd U_ o_ V_ L_ r_m17.cells r_m17.slots) := by
 refine MetFree.of_bodySF (plainFor_of_name pn_0) hisR ?_
 intro p e s m args below meth c s₁ Bd am hP hK
 obtain ⟨rfl, hZ, hh⟩ := hP
 have hx := Bd.exec
 have dc := @hb _ _ Bd.bytes
 have hml : c.maxLocals = 2 := am
 have hown : s.vm.findClass "java/lang/StringUTF16" = some m.cls := findClass_of_methodNamed Bd.named
 have hnm := (name_of_methodNamed Bd.named Bd.method).1
 have X0 : Stand p l e r_m17 s m #[(.int (Int32.ofNat i)), (.ref a)] below meth c s₁ [] 0 0 := Stand.of_body Bd
 have e0 : s₁.heap = h0 := by rw [← hh, Bd.state]; rfl
 have N0 := Fr.nil n0
 have Oo := q0.1
 have zo := q0.2
 have av := own_alt q3.lt
 refine Gl.go (A := s₁.setTop (entryFrame m #[(.int (Int32.ofNat i)), (.ref a)] 2)) (P := fun o_ U_ => ∃ v_ L_, o_ = .returned v_ ∧ Quci Z a ka cs i G3 h0 n0 v_ U_.heap L_ ∧ FrameEnd s o_ U_ L_ r_m17.cells r_m17.slots) (fun t_ k_ => castTop (ef_uci m (Int32.ofNat i) a) k_) ?_
 show Gl p.tables e below _ (s₁.setTop (mkF m 0 #[sI (Int32.ofNat i), sR a] []))
 refine Gl.go (fun _ hr => ziloadN X0.here hx (dc d59_0) rfl (zaloadN X0.here hx (dc d59_1) rfl rfl hr)) ?_
 have ao : n0 ≤ h0.size := by omega
 refine gStaticN Gl.cl (y := y_14) (argsL := [(.ref a)]) (rest := [(.int (Int32.ofNat i))]) (mc := 0) (ms := 0) X0 hx hZ hown (mvT hZ (tw hw 264 rfl)) (mvT hZ (tw hw 265 rfl)) (mvT hZ (tw hw 221 rfl)) (mvT hZ (tw hw 266 rfl)) (by decide) (backOf (W := 1) (u16l l Z a0 hw [] a ka cs.length (StrChars.Road.wideBytes cs) h0 n0 ao q3 (by omega)) hZ (tw hw 266 rfl) (tw hw 221 rfl) (by decide) (by decide)) rfl (by rw [hml]; rfl) (lenOf pd_10 rfl) rfl (by exact Nat.le_of_eq rfl) (dc d59_2) rfl e0 (by decide) (by decide) ?_
 intro aw au aq ak ah
 obtain ⟨rfl, ae, ai⟩ := ak
 have ab := Fr.app N0 ae
 have ap : n0 ≤ h0.size := by omega
 refine gStaticN Gl.cl (y := y_29) (argsL := [(.int (Int32.ofNat i)), (.int (Int32.ofNat cs.length))]) (rest := []) (mc := 0) (ms := 0) ah hx hZ hown (mvT hZ (tw hw 279 rfl)) (mvT hZ (tw hw 212 rfl)) (mvT hZ (tw hw 7 rfl)) (mvT hZ (tw hw 213 rfl)) (by decide) (backOf (W := 0) (sci l Z a0 hw [] i cs.length G3 h0 n0 ap ⟨Oo, (by omega)⟩ q1 (by assumption) hii (by omega)) hZ (tw hw 213 rfl) (tw hw 7 rfl) (by decide) (by decide)) rfl (by rw [hml]; rfl) (lenOf pd_16 rfl) rfl (by exact Nat.le_of_eq rfl) (dc d59_5) rfl ai (by decide) (by decide) ?_
 intro ax ag ar al aa
 obtain ⟨rfl, af, aj⟩ := al
 have ac := Fr.app ab af
 obtain ⟨fs, hr, hrun, hended, hW, hsame⟩ := aa.leave (v := none) (fun _ => rfl)
 refine ⟨_, _, aa.returnOut hx Bd.returns (dc d59_8) hr, hrun, hended, _, _, rfl, ?_, ⟨⟨_, rfl⟩, hW, hsame.mono (by decide) (by decide)⟩⟩
 show Quci Z a ka cs i G3 h0 n0 _ ag.heap _
 rw [aj]
 exact ⟨rfl, ac, rfl⟩
def Quch (Z : State) (a : Addr) (ka : ClassId) (cs : List Int32) (i : Nat) (G3 : Value) (h0 : Heap) (n0 : Nat) (v : Option Value) (h : Heap) (L : List Loc) : Prop := v = some (.int (cs.getD i 0)) ∧ Fr n0 L ∧ h = h0
theorem ef_uch (m : MethodId) (x0 : Addr) (x1 : Int32) : entryFrame m #[(.ref x0), (.int x1)] 2 = mkF m 0 #[sR x0, sI x1] [] := by first | (simp [entryFrame, mkF, argsToLocals, Value.category]; done) | rfl
abbrev K60 (i : Nat) := decode jdk_52_method_83_code i
theorem d60_0 : K60 0 = .ok (.iload_n 1, 1) := by decide +kernel
theorem d60_1 : K60 1 = .ok (.aload_n 0, 1) := by decide +kernel
theorem d60_2 : K60 2 = .ok (.invokestatic 67, 3) := by decide +kernel
theorem pd_20 : parseMethodDescriptor "(I[B)V" = some ⟨[.int, (.array .byte)], none⟩ := by decide +kernel
theorem d60_5 : K60 5 = .ok (.aload_n 0, 1) := by decide +kernel
theorem d60_6 : K60 6 = .ok (.iload_n 1, 1) := by decide +kernel
theorem d60_7 : K60 7 = .ok (.invokestatic 71, 3) := by decide +kernel
theorem d60_10 : K60 10 = .ok (.ireturn, 1) := by decide +kernel
set_option maxRecDepth 65536 in
set_option maxHeartbeats 40000000 in
theorem uch (l : Launch) (Z : State) (a0 : Array Value) (hw : ∀ d ∈ tables_1, d.before a0 Z = true) (ws : List Jvm.Cond) (a : Addr) (ka : ClassId) (cs : List Int32) (i : Nat) (G3 : Value) (h0 : Heap) (n0 : Nat) (Z0 : n0 ≤ h0.size) (q0 : OZ Z h0 n0) (q1 : SFm Z G3) (rG3 : G3.isRef = true) (q3 : SAd Z) (q4 : SHi Z) (q5 : SLo Z) (q6 : Arv Z h0 a ka .byte (Int32.ofNat (2 * cs.length)) (StrChars.Road.wideBytes cs) (.int (0 : Int32))) (hbd : ∀ c ∈ cs, Wid c) (hii : i < cs.length) (hcl : cs.length ≤ 32) :
  MetFree l y_33 (head1 (Jvm.Cond.code y_33 jdk_52_method_83_code 2 (some .char) :: ws) r_m18) (fun a_ U_ => a_ = #[(.ref a), (.int (Int32.ofNat i))] ∧ Z.Warmed39 U_.vm ∧ U_.heap = h0) (fun _ _ _ _ _ => True) (fun _ U_ o_ V_ => ∃ v_ L_, o_ = .returned v_ ∧ Quch Z a ka cs i G3 h0 n0 v_ V_.heap L_ ∧ FrameEnd U_ o_ V_ L_ r_m18.cells r_m18.slots) := by
 refine MetFree.of_bodySF (plainFor_of_name pn_0) hisR ?_
 intro p e s m args below meth c s₁ Bd am hP hK
 obtain ⟨rfl, hZ, hh⟩ := hP
 have hx := Bd.exec
 have dc := @hb _ _ Bd.bytes
 have hml : c.maxLocals = 2 := am
 have hown : s.vm.findClass "java/lang/StringUTF16" = some m.cls := findClass_of_methodNamed Bd.named
 have hnm := (name_of_methodNamed Bd.named Bd.method).1
 have X0 : Stand p l e r_m18 s m #[(.ref a), (.int (Int32.ofNat i))] below meth c s₁ [] 0 0 := Stand.of_body Bd
 have e0 : s₁.heap = h0 := by rw [← hh, Bd.state]; rfl
 have N0 := Fr.nil n0
 have Oo := q0.1
 have zo := q0.2
 have av := own_alt q6.lt
 refine Gl.go (A := s₁.setTop (entryFrame m #[(.ref a), (.int (Int32.ofNat i))] 2)) (P := fun o_ U_ => ∃ v_ L_, o_ = .returned v_ ∧ Quch Z a ka cs i G3 h0 n0 v_ U_.heap L_ ∧ FrameEnd s o_ U_ L_ r_m18.cells r_m18.slots) (fun t_ k_ => castTop (ef_uch m a (Int32.ofNat i)) k_) ?_
 show Gl p.tables e below _ (s₁.setTop (mkF m 0 #[sR a, sI (Int32.ofNat i)] []))
 refine Gl.go (fun _ hr => ziloadN X0.here hx (dc d60_0) rfl (zaloadN X0.here hx (dc d60_1) rfl rfl hr)) ?_
 have ao : n0 ≤ h0.size := by omega
 refine gStaticN Gl.cl (y := y_32) (argsL := [(.int (Int32.ofNat i)), (.ref a)]) (rest := []) (mc := 0) (ms := 0) X0 hx hZ hown (mvT hZ (tw hw 276 rfl)) (mvT hZ (tw hw 277 rfl)) (mvT hZ (tw hw 221 rfl)) (mvT hZ (tw hw 278 rfl)) (by decide) (backOf (W := 0) (uci l Z a0 hw [] a ka cs i G3 h0 n0 ao ⟨Oo, (by omega)⟩ q1 (by assumption) q6 (by assumption) (by assumption)) hZ (tw hw 278 rfl) (tw hw 221 rfl) (by decide) (by decide)) rfl (by rw [hml]; rfl) (lenOf pd_20 rfl) rfl (by exact Nat.le_of_eq rfl) (dc d60_2) rfl e0 (by decide) (by decide) ?_
 intro aw au aq ak aa
 obtain ⟨rfl, af, ai⟩ := ak
 have ac := Fr.app N0 af
 refine Gl.go (fun _ hr => zaloadN aa.here hx (dc d60_5) rfl rfl (ziloadN aa.here hx (dc d60_6) rfl hr)) ?_
 have ap : n0 ≤ h0.size := by omega
 refine gStaticN Gl.cl (y := y_1) (argsL := [(.ref a), (.int (Int32.ofNat i))]) (rest := []) (mc := 0) (ms := 0) aa hx hZ hown (mvT hZ (tw hw 245 rfl)) (mvT hZ (tw hw 246 rfl)) (mvT hZ (tw hw 221 rfl)) (mvT hZ (tw hw 247 rfl)) (by decide) (backOf (W := 0) (gtc l Z a0 hw [] a ka cs i h0 n0 ap ⟨Oo, (by omega)⟩ q3 q4 q5 q6 (by assumption) (by assumption) (by assumption)) hZ (tw hw 247 rfl) (tw hw 221 rfl) (by decide) (by decide)) rfl (by rw [hml]; rfl) (lenOf pd_5 rfl) rfl (by exact Nat.le_of_eq rfl) (dc d60_7) rfl ai (by decide) (by decide) ?_
 intro ax ah ar al ab
 obtain ⟨rfl, ag, aj⟩ := al
 have ae := Fr.app ac ag
 obtain ⟨fs, hr, hrun, hended, hW, hsame⟩ := ab.leave (v := some (.int (nar .char (cs.getD i 0)))) (fun h => by rw [Bd.returns] at h; cases h)
 refine ⟨_, _, retN ab hx (t := .char) Bd.returns (by simp) (dc d60_10) hr, hrun, hended, _, _, rfl, ?_, ⟨⟨_, rfl⟩, hW, hsame.mono (by decide) (by decide)⟩⟩
 show Quch Z a ka cs i G3 h0 n0 _ ah.heap _
 rw [aj]
 exact ⟨(own_some (own_nar_wid (hbd _ (own_getD_mem hii)))), ae, rfl⟩
def Qcha (Z : State) (x : Addr) (t : Addr) (kb : ClassId) (cd : Int32) (N : Int32) (vs : List Value) (cs : List Int32) (i : Nat) (G1 : Int32) (G3 : Value) (h0 : Heap) (n0 : Nat) (v : Option Value) (h : Heap) (L : List Loc) : Prop := v = some (.int (cs.getD i 0)) ∧ Fr n0 L ∧ h = h0
theorem ef_cha (m : MethodId) (x0 : Addr) (x1 : Int32) : entryFrame m #[(.ref x0), (.int x1)] 2 = mkF m 0 #[sR x0, sI x1] [] := by first | (simp [entryFrame, mkF, argsToLocals, Value.category]; done) | rfl
abbrev K38 (i : Nat) := decode jdk_42_method_56_code i
theorem d38_0 : K38 0 = .ok (.aload_n 0, 1) := by decide +kernel
theorem d38_1 : K38 1 = .ok (.invokevirtual 492, 3) := by decide +kernel
theorem d38_4 : K38 4 = .ok (.ifCond .eq 12, 3) := by decide +kernel
theorem d38_7 : K38 7 = .ok (.aload_n 0, 1) := by decide +kernel
theorem d38_8 : K38 8 = .ok (.getfield 9, 3) := by decide +kernel
theorem d38_11 : K38 11 = .ok (.iload_n 1, 1) := by decide +kernel
theorem d38_12 : K38 12 = .ok (.invokestatic 495, 3) := by decide +kernel
theorem d38_15 : K38 15 = .ok (.ireturn, 1) := by decide +kernel
theorem d38_16 : K38 16 = .ok (.aload_n 0, 1) := by decide +kernel
theorem d38_17 : K38 17 = .ok (.getfield 9, 3) := by decide +kernel
theorem d38_20 : K38 20 = .ok (.iload_n 1, 1) := by decide +kernel
theorem d38_21 : K38 21 = .ok (.invokestatic 498, 3) := by decide +kernel
theorem d38_24 : K38 24 = .ok (.ireturn, 1) := by decide +kernel
set_option maxRecDepth 65536 in
set_option maxHeartbeats 40000000 in
theorem cha (l : Launch) (Z : State) (a0 : Array Value) (hw : ∀ d ∈ tables_1, d.before a0 Z = true) (ws : List Jvm.Cond) (x : Addr) (t : Addr) (kb : ClassId) (cd : Int32) (N : Int32) (vs : List Value) (cs : List Int32) (i : Nat) (G1 : Int32) (G3 : Value) (h0 : Heap) (n0 : Nat) (Z0 : n0 ≤ h0.size) (q0 : SCs Z G1) (P5 : ¬ (G1 = (0 : Int32))) (q2 : OZ Z h0 n0) (q3 : SFm Z G3) (rG3 : G3.isRef = true) (q5 : SAd Z) (q6 : SHi Z) (q7 : SLo Z) (q8 : XSt Z h0 x) (q9 : FSv Z h0 x (.ref t)) (q10 : FSc Z h0 x (.int cd)) (q11 : Arv Z h0 t kb .byte N vs (.int (0 : Int32))) (cod : StrChars.Road.CodA cs cd N vs) (hbd : ∀ c ∈ cs, Wid c) (hii : i < cs.length) (hcl : cs.length ≤ 32) :
  MetFree l y_34 (head1 (Jvm.Cond.code y_34 jdk_42_method_56_code 2 (some .char) :: ws) r_m19) (fun a_ U_ => a_ = #[(.ref x), (.int (Int32.ofNat i))] ∧ Z.Warmed39 U_.vm ∧ U_.heap = h0) (fun _ _ _ _ _ => True) (fun _ U_ o_ V_ => ∃ v_ L_, o_ = .returned v_ ∧ Qcha Z x t kb cd N vs cs i G1 G3 h0 n0 v_ V_.heap L_ ∧ FrameEnd U_ o_ V_ L_ r_m19.cells r_m19.slots) := by
 refine MetFree.of_bodySF (plainFor_of_name pn_1) hisR ?_
 intro p e s m args below meth c s₁ Bd aE hP hK
 obtain ⟨rfl, hZ, hh⟩ := hP
 have hx := Bd.exec
 have dc := @hb _ _ Bd.bytes
 have hml : c.maxLocals = 2 := aE
 have hown : s.vm.findClass "java/lang/String" = some m.cls := findClass_of_methodNamed Bd.named
 have hnm := (name_of_methodNamed Bd.named Bd.method).1
 have X0 : Stand p l e r_m19 s m #[(.ref x), (.int (Int32.ofNat i))] below meth c s₁ [] 0 0 := Stand.of_body Bd
 have e0 : s₁.heap = h0 := by rw [← hh, Bd.state]; rfl
 have N0 := Fr.nil n0
 have Oo := q2.1
 have zo := q2.2
 have aR := own_alt q8.lt
 have aS := own_alt q9.lt
 have aT := own_alt q10.lt
 have aU := own_alt q11.lt
 refine Gl.go (A := s₁.setTop (entryFrame m #[(.ref x), (.int (Int32.ofNat i))] 2)) (P := fun o_ U_ => ∃ v_ L_, o_ = .returned v_ ∧ Qcha Z x t kb cd N vs cs i G1 G3 h0 n0 v_ U_.heap L_ ∧ FrameEnd s o_ U_ L_ r_m19.cells r_m19.slots) (fun t_ k_ => castTop (ef_cha m x (Int32.ofNat i)) k_) ?_
 show Gl p.tables e below _ (s₁.setTop (mkF m 0 #[sR x, sI (Int32.ofNat i)] []))
 rcases id cod with ⟨e1, e2, e3, e4⟩ | ⟨e1, e2, e3, e4⟩
 ·have Fk := q10
  rw [e1] at Fk
  have Vk := q11
  rw [e2, e3, own_lom] at Vk
  have hlc : ∀ c ∈ cs, Lat c := own_latL hbd e4
  show Gl p.tables e below _ (s₁.setTop (mkF m 0 #[sR x, sI (Int32.ofNat i)] []))
  refine Gl.go (fun _ hr => zaloadN X0.here hx (dc d38_0) rfl rfl hr) ?_
  have aF : n0 ≤ h0.size := by omega
  refine gVirtualN Gl.cl (y := y_30) (z := y_30) (b := x) (argsL := []) (rest := []) (mc := 0) (ms := 0) X0 hx hZ hown (mvT hZ (tw hw 203 rfl)) (mvT hZ (tw hw 204 rfl)) (notFace_of_selects (args := #[]) (mvT hZ (tw hw 206 rfl))) (mvT hZ (tw hw 206 rfl)) (mvT hZ (tw hw 205 rfl)) (by decide) q8 (backOf (W := 0) (isl0 l Z a0 hw [] x G1 h0 n0 aF q0 (by assumption) ⟨Oo, (by omega)⟩ Fk) hZ (tw hw 207 rfl) (tw hw 7 rfl) (by decide) (by decide)) rfl (by rw [hml]; rfl) (lenOf pd_14 rfl) rfl (by exact Nat.le_of_eq rfl) (dc d38_1) rfl e0 (by decide) (by decide) ?_
  intro aV aN aJ aA aa
  obtain ⟨rfl, al, au⟩ := aA
  have ah := Fr.app N0 al
  refine Gl.go (fun _ hr => zifNo aa.here hx (dc d38_4) rfl (XT.i0_eq_f (by decide)) (zaloadN aa.here hx (dc d38_7) rfl rfl hr)) ?_
  refine gGetF (host := "") Gl.cl aa hx hZ hown (Or.inl (tw hw 25 rfl)) Via.refl au q9 rfl rfl (dc d38_8) ?_
  intro aO ac av
  refine Gl.go (fun _ hr => ziloadN ac.here hx (dc d38_11) rfl hr) ?_
  have aG : n0 ≤ h0.size := by omega
  refine gStaticN Gl.cl (y := y_31) (argsL := [(.ref t), (.int (Int32.ofNat i))]) (rest := []) (mc := 0) (ms := 0) ac hx hZ hown (mvT hZ (tw hw 208 rfl)) (mvT hZ (tw hw 209 rfl)) (mvT hZ (tw hw 128 rfl)) (mvT hZ (tw hw 210 rfl)) (by decide) (backOf (W := 0) (lch l Z a0 hw [] t kb cs i G3 h0 n0 aG ⟨Oo, (by omega)⟩ q3 (by assumption) Vk (by assumption) (by assumption) (by assumption)) hZ (tw hw 210 rfl) (tw hw 128 rfl) (by decide) (by decide)) rfl (by rw [hml]; rfl) (lenOf pd_5 rfl) rfl (by exact Nat.le_of_eq rfl) (dc d38_12) rfl av (by decide) (by decide) ?_
  intro aW aq aK aB ae
  obtain ⟨rfl, am, aw⟩ := aB
  have ai := Fr.app ah am
  obtain ⟨fs, hr, hrun, hended, hW, hsame⟩ := ae.leave (v := some (.int (nar .char (cs.getD i 0)))) (fun h => by rw [Bd.returns] at h; cases h)
  refine ⟨_, _, retN ae hx (t := .char) Bd.returns (by simp) (dc d38_15) hr, hrun, hended, _, _, rfl, ?_, ⟨⟨_, rfl⟩, hW, hsame.mono (by decide) (by decide)⟩⟩
  show Qcha Z x t kb cd N vs cs i G1 G3 h0 n0 _ aq.heap _
  rw [aw]
  exact ⟨(own_some (own_nar_wid (hbd _ (own_getD_mem hii)))), ai, rfl⟩
 ·have Fk := q10
  rw [e1] at Fk
  have Vk := q11
  rw [e2, e3] at Vk
  show Gl p.tables e below _ (s₁.setTop (mkF m 0 #[sR x, sI (Int32.ofNat i)] []))
  refine Gl.go (fun _ hr => zaloadN X0.here hx (dc d38_0) rfl rfl hr) ?_
  have aH : n0 ≤ h0.size := by omega
  refine gVirtualN Gl.cl (y := y_30) (z := y_30) (b := x) (argsL := []) (rest := []) (mc := 0) (ms := 0) X0 hx hZ hown (mvT hZ (tw hw 203 rfl)) (mvT hZ (tw hw 204 rfl)) (notFace_of_selects (args := #[]) (mvT hZ (tw hw 206 rfl))) (mvT hZ (tw hw 206 rfl)) (mvT hZ (tw hw 205 rfl)) (by decide) q8 (backOf (W := 0) (isl1 l Z a0 hw [] x G1 h0 n0 aH q0 (by assumption) ⟨Oo, (by omega)⟩ Fk) hZ (tw hw 207 rfl) (tw hw 7 rfl) (by decide) (by decide)) rfl (by rw [hml]; rfl) (lenOf pd_14 rfl) rfl (by exact Nat.le_of_eq rfl) (dc d38_1) rfl e0 (by decide) (by decide) ?_
  intro aX aP aL aC ab
  obtain ⟨rfl, ao, ax⟩ := aC
  have aj := Fr.app N0 ao
  refine Gl.go (fun _ hr => zifYes ab.here hx (pc0 := 4) (pc' := 16) rfl (dc d38_4) rfl (XT.i0_eq_t (by decide)) (by decide) (by decide) (zaloadN ab.here hx (dc d38_16) rfl rfl hr)) ?_
  refine gGetF (host := "") Gl.cl ab hx hZ hown (Or.inl (tw hw 25 rfl)) Via.refl ax q9 rfl rfl (dc d38_17) ?_
  intro aQ af ay
  refine Gl.go (fun _ hr => ziloadN af.here hx (dc d38_20) rfl hr) ?_
  have aI : n0 ≤ h0.size := by omega
  refine gStaticN Gl.cl (y := y_33) (argsL := [(.ref t), (.int (Int32.ofNat i))]) (rest := []) (mc := 0) (ms := 0) af hx hZ hown (mvT hZ (tw hw 284 rfl)) (mvT hZ (tw hw 285 rfl)) (mvT hZ (tw hw 221 rfl)) (mvT hZ (tw hw 286 rfl)) (by decide) (backOf (W := 0) (uch l Z a0 hw [] t kb cs i G3 h0 n0 aI ⟨Oo, (by omega)⟩ q3 (by assumption) q5 q6 q7 Vk (by assumption) (by assumption) (by assumption)) hZ (tw hw 286 rfl) (tw hw 221 rfl) (by decide) (by decide)) rfl (by rw [hml]; rfl) (lenOf pd_5 rfl) rfl (by exact Nat.le_of_eq rfl) (dc d38_21) rfl ay (by decide) (by decide) ?_
  intro aY ar aM aD ag
  obtain ⟨rfl, ap, az⟩ := aD
  have ak := Fr.app aj ap
  obtain ⟨fs, hr, hrun, hended, hW, hsame⟩ := ag.leave (v := some (.int (nar .char (cs.getD i 0)))) (fun h => by rw [Bd.returns] at h; cases h)
  refine ⟨_, _, retN ag hx (t := .char) Bd.returns (by simp) (dc d38_24) hr, hrun, hended, _, _, rfl, ?_, ⟨⟨_, rfl⟩, hW, hsame.mono (by decide) (by decide)⟩⟩
  show Qcha Z x t kb cd N vs cs i G1 G3 h0 n0 _ ar.heap _
  rw [az]
  exact ⟨(own_some (own_nar_wid (hbd _ (own_getD_mem hii)))), ak, rfl⟩
def QslG (Z : State) (x : Addr) (t : Addr) (kb : ClassId) (cd : Int32) (N : Int32) (vs : List Value) (ds : List Int32) (G1 : Int32) (h0 : Heap) (n0 : Nat) (v : Option Value) (h : Heap) (L : List Loc) : Prop := v = some (.int (Int32.ofNat ds.length)) ∧ Fr n0 L ∧ h = h0
theorem ef_slG (m : MethodId) (x0 : Addr) : entryFrame m #[(.ref x0)] 1 = mkF m 0 #[sR x0] [] := by first | (simp [entryFrame, mkF, argsToLocals, Value.category]; done) | rfl
set_option maxRecDepth 65536 in
set_option maxHeartbeats 40000000 in
theorem slG (l : Launch) (Z : State) (a0 : Array Value) (hw : ∀ d ∈ tables_1, d.before a0 Z = true) (ws : List Jvm.Cond) (x : Addr) (t : Addr) (kb : ClassId) (cd : Int32) (N : Int32) (vs : List Value) (ds : List Int32) (G1 : Int32) (h0 : Heap) (n0 : Nat) (Z0 : n0 ≤ h0.size) (q0 : SCs Z G1) (P5 : ¬ (G1 = (0 : Int32))) (q2 : OZ Z h0 n0) (q3 : XSt Z h0 x) (q4 : FSv Z h0 x (.ref t)) (q5 : FSc Z h0 x (.int cd)) (q6 : Arv Z h0 t kb .byte N vs (.int (0 : Int32))) (cod_x : StrChars.Road.CodA ds cd N vs) (hb_x : ∀ c ∈ ds, Wid c) (hd : ds.length ≤ 32) :
  MetFree l y_12 (head1 (Jvm.Cond.code y_12 jdk_42_method_54_code 1 (some .int) :: ws) r_m6) (fun a_ U_ => a_ = #[(.ref x)] ∧ Z.Warmed39 U_.vm ∧ U_.heap = h0) (fun _ _ _ _ _ => True) (fun _ U_ o_ V_ => ∃ v_ L_, o_ = .returned v_ ∧ QslG Z x t kb cd N vs ds G1 h0 n0 v_ V_.heap L_ ∧ FrameEnd U_ o_ V_ L_ r_m6.cells r_m6.slots) := by
 refine MetFree.of_bodySF (plainFor_of_name pn_1) hisR ?_
 intro p e s m args below meth c s₁ Bd aw hP hK
 obtain ⟨rfl, hZ, hh⟩ := hP
 have hx := Bd.exec
 have dc := @hb _ _ Bd.bytes
 have hml : c.maxLocals = 1 := aw
 have hown : s.vm.findClass "java/lang/String" = some m.cls := findClass_of_methodNamed Bd.named
 have hnm := (name_of_methodNamed Bd.named Bd.method).1
 have X0 : Stand p l e r_m6 s m #[(.ref x)] below meth c s₁ [] 0 0 := Stand.of_body Bd
 have e0 : s₁.heap = h0 := by rw [← hh, Bd.state]; rfl
 have N0 := Fr.nil n0
 have Oo := q2.1
 have zo := q2.2
 have aN := own_alt q3.lt
 have aO := own_alt q4.lt
 have aP := own_alt q5.lt
 have aQ := own_alt q6.lt
 refine Gl.go (A := s₁.setTop (entryFrame m #[(.ref x)] 1)) (P := fun o_ U_ => ∃ v_ L_, o_ = .returned v_ ∧ QslG Z x t kb cd N vs ds G1 h0 n0 v_ U_.heap L_ ∧ FrameEnd s o_ U_ L_ r_m6.cells r_m6.slots) (fun t_ k_ => castTop (ef_slG m x) k_) ?_
 show Gl p.tables e below _ (s₁.setTop (mkF m 0 #[sR x] []))
 rcases id cod_x with ⟨e1x, e2x, e3x, e4x⟩ | ⟨e1x, e2x, e3x, e4x⟩
 ·have Fkx := q5
  rw [e1x] at Fkx
  have Vkx := q6
  rw [e2x, e3x, own_lom] at Vkx
  have hlx : ∀ c ∈ ds, Lat c := own_latL hb_x e4x
  show Gl p.tables e below _ (s₁.setTop (mkF m 0 #[sR x] []))
  refine Gl.go (fun _ hr => zaloadN X0.here hx (dc d8_0) rfl rfl hr) ?_
  refine gGetF (host := "") Gl.cl X0 hx hZ hown (Or.inl (tw hw 25 rfl)) Via.refl e0 q4 rfl rfl (dc d8_1) ?_
  intro aH ac ah
  obtain ⟨aL, ao, aR, az, ax, aD, aJ⟩ := id Vkx
  refine gLen Gl.cl ac hx hZ ah ao az ax rfl rfl (dc d8_4) ?_
  refine Gl.go (fun _ hr => zaloadN ac.here hx (dc d8_5) rfl rfl hr) ?_
  have aB : n0 ≤ h0.size := by omega
  refine gVirtualN Gl.cl (y := y_10) (z := y_10) (b := x) (argsL := []) (rest := [(.int (Int32.ofNat ds.length))]) (mc := 0) (ms := 0) ac hx hZ hown (mvT hZ (tw hw 52 rfl)) (mvT hZ (tw hw 53 rfl)) (notFace_of_selects (args := #[]) (mvT hZ (tw hw 55 rfl))) (mvT hZ (tw hw 55 rfl)) (mvT hZ (tw hw 54 rfl)) (by decide) q3 (backOf (W := 1) (cod0 l Z a0 hw [] x G1 h0 n0 aB q0 (by assumption) ⟨Oo, (by omega)⟩ Fkx) hZ (tw hw 56 rfl) (tw hw 7 rfl) (by decide) (by decide)) rfl (by rw [hml]; rfl) (lenOf pd_8 rfl) rfl (by exact Nat.le_of_eq rfl) (dc d8_6) rfl ah (by decide) (by decide) ?_
  intro aT aa aF au ae
  obtain ⟨rfl, al, aq⟩ := au
  have aj := Fr.app N0 al
  refine Gl.go (fun _ hr => zishr ae.here hx (dc d8_9) rfl hr) ?_
  show Gl p.tables e below _ (aa.setTop (mkF m 10 #[sR x] [(.int ((Int32.ofNat ds.length) >>> ((0 : Int32) &&& 31)))]))
  rw [(StrChars.shr0 _)]
  show Gl p.tables e below _ (aa.setTop (mkF m 10 #[sR x] [(.int (Int32.ofNat ds.length))]))
  obtain ⟨fs, hr, hrun, hended, hW, hsame⟩ := ae.leave (v := some (.int (Int32.ofNat ds.length))) (fun h => by rw [Bd.returns] at h; cases h)
  refine ⟨_, _, retOut ae hx Bd.returns rfl (Or.inl ⟨rfl, Or.inl rfl, _, rfl⟩) (dc d8_10) hr, hrun, hended, _, _, rfl, ?_, ⟨⟨_, rfl⟩, hW, hsame.mono (by decide) (by decide)⟩⟩
  show QslG Z x t kb cd N vs ds G1 h0 n0 _ aa.heap _
  rw [aq]
  exact ⟨rfl, aj, rfl⟩
 ·have Fkx := q5
  rw [e1x] at Fkx
  have Vkx := q6
  rw [e2x, e3x] at Vkx
  show Gl p.tables e below _ (s₁.setTop (mkF m 0 #[sR x] []))
  refine Gl.go (fun _ hr => zaloadN X0.here hx (dc d8_0) rfl rfl hr) ?_
  refine gGetF (host := "") Gl.cl X0 hx hZ hown (Or.inl (tw hw 25 rfl)) Via.refl e0 q4 rfl rfl (dc d8_1) ?_
  intro aI af ai
  obtain ⟨aM, ap, aS, aA, ay, aE, aK⟩ := id Vkx
  refine gLen Gl.cl af hx hZ ai ap aA ay rfl rfl (dc d8_4) ?_
  refine Gl.go (fun _ hr => zaloadN af.here hx (dc d8_5) rfl rfl hr) ?_
  have aC : n0 ≤ h0.size := by omega
  refine gVirtualN Gl.cl (y := y_10) (z := y_10) (b := x) (argsL := []) (rest := [(.int (Int32.ofNat (2 * ds.length)))]) (mc := 0) (ms := 0) af hx hZ hown (mvT hZ (tw hw 52 rfl)) (mvT hZ (tw hw 53 rfl)) (notFace_of_selects (args := #[]) (mvT hZ (tw hw 55 rfl))) (mvT hZ (tw hw 55 rfl)) (mvT hZ (tw hw 54 rfl)) (by decide) q3 (backOf (W := 1) (cod1 l Z a0 hw [] x G1 h0 n0 aC q0 (by assumption) ⟨Oo, (by omega)⟩ Fkx) hZ (tw hw 56 rfl) (tw hw 7 rfl) (by decide) (by decide)) rfl (by rw [hml]; rfl) (lenOf pd_8 rfl) rfl (by exact Nat.le_of_eq rfl) (dc d8_6) rfl ai (by decide) (by decide) ?_
  intro aU ab aG av ag
  obtain ⟨rfl, am, ar⟩ := av
  have ak := Fr.app N0 am
  refine Gl.go (fun _ hr => zishr ag.here hx (dc d8_9) rfl hr) ?_
  show Gl p.tables e below _ (ab.setTop (mkF m 10 #[sR x] [(.int ((Int32.ofNat (2 * ds.length)) >>> ((1 : Int32) &&& 31)))]))
  rw [(StrChars.shr1 (n := ds.length) (by omega))]
  show Gl p.tables e below _ (ab.setTop (mkF m 10 #[sR x] [(.int (Int32.ofNat ds.length))]))
  obtain ⟨fs, hr, hrun, hended, hW, hsame⟩ := ag.leave (v := some (.int (Int32.ofNat ds.length))) (fun h => by rw [Bd.returns] at h; cases h)
  refine ⟨_, _, retOut ag hx Bd.returns rfl (Or.inl ⟨rfl, Or.inl rfl, _, rfl⟩) (dc d8_10) hr, hrun, hended, _, _, rfl, ?_, ⟨⟨_, rfl⟩, hW, hsame.mono (by decide) (by decide)⟩⟩
  show QslG Z x t kb cd N vs ds G1 h0 n0 _ ab.heap _
  rw [ar]
  exact ⟨rfl, ak, rfl⟩
def QensG (Z : State) (b : Addr) (a : Addr) (ka : ClassId) (cap : Nat) (cs : List Int32) (cb : Int32) (z : Int32) (xs : List Value) (k : Nat) (h0 : Heap) (n0 : Nat) (v : Option Value) (h : Heap) (L : List Loc) : Prop := v = none ∧ Fr n0 L ∧ h = h0
theorem ef_ensG (m : MethodId) (x0 : Addr) (x1 : Int32) : entryFrame m #[(.ref x0), (.int x1)] 3 = mkF m 0 #[sR x0, sI x1, sU] [] := by first | (simp [entryFrame, mkF, argsToLocals, Value.category]; done) | rfl
set_option maxRecDepth 65536 in
set_option maxHeartbeats 40000000 in
theorem ensG (l : Launch) (Z : State) (a0 : Array Value) (hw : ∀ d ∈ tables_1, d.before a0 Z = true) (ws : List Jvm.Cond) (b : Addr) (a : Addr) (ka : ClassId) (cap : Nat) (cs : List Int32) (cb : Int32) (z : Int32) (xs : List Value) (k : Nat) (h0 : Heap) (n0 : Nat) (Z0 : n0 ≤ h0.size) (q0 : FBv Z h0 b (.ref a)) (q1 : FBc Z h0 b (.int cb)) (q2 : Arv Z h0 a ka .byte z xs (.int (0 : Int32))) (bw : BwA cs cap cb z xs) (hk : k ≤ cap) (hcap : cap ≤ 18) :
  MetFree l y_13 (head1 (Jvm.Cond.code y_13 jdk_68_method_9_code 3 none :: ws) r_m0) (fun a_ U_ => a_ = #[(.ref b), (.int (Int32.ofNat k))] ∧ Z.Warmed39 U_.vm ∧ U_.heap = h0) (fun _ _ _ _ _ => True) (fun _ U_ o_ V_ => ∃ v_ L_, o_ = .returned v_ ∧ QensG Z b a ka cap cs cb z xs k h0 n0 v_ V_.heap L_ ∧ FrameEnd U_ o_ V_ L_ r_m0.cells r_m0.slots) := by
 refine MetFree.of_bodySF (plainFor_of_name pn_2) hisR ?_
 intro p e s m args below meth c s₁ Bd ao hP hK
 obtain ⟨rfl, hZ, hh⟩ := hP
 have hx := Bd.exec
 have dc := @hb _ _ Bd.bytes
 have hml : c.maxLocals = 3 := ao
 have hown : s.vm.findClass "java/lang/AbstractStringBuilder" = some m.cls := findClass_of_methodNamed Bd.named
 have hnm := (name_of_methodNamed Bd.named Bd.method).1
 have X0 : Stand p l e r_m0 s m #[(.ref b), (.int (Int32.ofNat k))] below meth c s₁ [] 0 0 := Stand.of_body Bd
 have e0 : s₁.heap = h0 := by rw [← hh, Bd.state]; rfl
 have N0 := Fr.nil n0
 have aD := own_alt q0.lt
 have aE := own_alt q1.lt
 have aF := own_alt q2.lt
 refine Gl.go (A := s₁.setTop (entryFrame m #[(.ref b), (.int (Int32.ofNat k))] 3)) (P := fun o_ U_ => ∃ v_ L_, o_ = .returned v_ ∧ QensG Z b a ka cap cs cb z xs k h0 n0 v_ U_.heap L_ ∧ FrameEnd s o_ U_ L_ r_m0.cells r_m0.slots) (fun t_ k_ => castTop (ef_ensG m b (Int32.ofNat k)) k_) ?_
 show Gl p.tables e below _ (s₁.setTop (mkF m 0 #[sR b, sI (Int32.ofNat k), sU] []))
 rcases id bw with ⟨f1, f2, f3, f4⟩ | ⟨f1, f2, f3⟩
 ·have Fb := q1
  rw [f1] at Fb
  have Vb := q2
  rw [f2, f3] at Vb
  show Gl p.tables e below _ (s₁.setTop (mkF m 0 #[sR b, sI (Int32.ofNat k), sU] []))
  refine Gl.go (fun _ hr => zaloadN X0.here hx (dc d13_0) rfl rfl hr) ?_
  refine gGetF (host := "") Gl.cl X0 hx hZ hown (Or.inl (tw hw 62 rfl)) Via.refl e0 q0 rfl rfl (dc d13_1) ?_
  intro ax af ah
  obtain ⟨aB, aj, aG, ar, ap, av, az⟩ := id Vb
  refine gLen Gl.cl af hx hZ ah aj ar ap rfl rfl (dc d13_4) ?_
  refine Gl.go (fun _ hr => zaloadN af.here hx (dc d13_5) rfl rfl hr) ?_
  refine gGetF (host := "") Gl.cl af hx hZ hown (Or.inl (tw hw 60 rfl)) Via.refl ah Fb rfl rfl (dc d13_6) ?_
  intro ac aa al
  refine Gl.go (fun _ hr => zishr aa.here hx (dc d13_9) rfl hr) ?_
  show Gl p.tables e below _ (ac.setTop (mkF m 10 #[sR b, sI (Int32.ofNat k), sU] [(.int ((Int32.ofNat cap) >>> ((0 : Int32) &&& 31)))]))
  rw [(StrChars.shr0 _)]
  show Gl p.tables e below _ (ac.setTop (mkF m 10 #[sR b, sI (Int32.ofNat k), sU] [(.int (Int32.ofNat cap))]))
  refine Gl.go (fun _ hr => zistoreN aa.here hx (dc d13_10) rfl (l' := #[sR b, sI (Int32.ofNat k), sI (Int32.ofNat cap)]) rfl (ziloadN aa.here hx (dc d13_11) rfl (ziloadN aa.here hx (dc d13_12) rfl (zisub aa.here hx (dc d13_13) rfl hr)))) ?_
  refine Gl.go (fun _ hr => zifYes aa.here hx (pc0 := 14) (pc' := 38) rfl (dc d13_14) rfl (XT.i0_le_t (own_ensG hk hcap)) (by decide) (by decide) hr) ?_
  obtain ⟨fs, hr, hrun, hended, hW, hsame⟩ := aa.leave (v := none) (fun _ => rfl)
  refine ⟨_, _, aa.returnOut hx Bd.returns (dc d13_38) hr, hrun, hended, _, _, rfl, ?_, ⟨⟨_, rfl⟩, hW, hsame.mono (by decide) (by decide)⟩⟩
  show QensG Z b a ka cap cs cb z xs k h0 n0 _ ac.heap _
  rw [al]
  exact ⟨rfl, N0, rfl⟩
 ·have Fb := q1
  rw [f1] at Fb
  have Vb := q2
  rw [f2, f3] at Vb
  show Gl p.tables e below _ (s₁.setTop (mkF m 0 #[sR b, sI (Int32.ofNat k), sU] []))
  refine Gl.go (fun _ hr => zaloadN X0.here hx (dc d13_0) rfl rfl hr) ?_
  refine gGetF (host := "") Gl.cl X0 hx hZ hown (Or.inl (tw hw 62 rfl)) Via.refl e0 q0 rfl rfl (dc d13_1) ?_
  intro ay ag ai
  obtain ⟨aC, ak, aH, au, aq, aw, aA⟩ := id Vb
  refine gLen Gl.cl ag hx hZ ai ak au aq rfl rfl (dc d13_4) ?_
  refine Gl.go (fun _ hr => zaloadN ag.here hx (dc d13_5) rfl rfl hr) ?_
  refine gGetF (host := "") Gl.cl ag hx hZ hown (Or.inl (tw hw 60 rfl)) Via.refl ai Fb rfl rfl (dc d13_6) ?_
  intro ae ab am
  refine Gl.go (fun _ hr => zishr ab.here hx (dc d13_9) rfl hr) ?_
  show Gl p.tables e below _ (ae.setTop (mkF m 10 #[sR b, sI (Int32.ofNat k), sU] [(.int ((Int32.ofNat (2 * cap)) >>> ((1 : Int32) &&& 31)))]))
  rw [(StrChars.shr1 (n := cap) (by omega))]
  show Gl p.tables e below _ (ae.setTop (mkF m 10 #[sR b, sI (Int32.ofNat k), sU] [(.int (Int32.ofNat cap))]))
  refine Gl.go (fun _ hr => zistoreN ab.here hx (dc d13_10) rfl (l' := #[sR b, sI (Int32.ofNat k), sI (Int32.ofNat cap)]) rfl (ziloadN ab.here hx (dc d13_11) rfl (ziloadN ab.here hx (dc d13_12) rfl (zisub ab.here hx (dc d13_13) rfl hr)))) ?_
  refine Gl.go (fun _ hr => zifYes ab.here hx (pc0 := 14) (pc' := 38) rfl (dc d13_14) rfl (XT.i0_le_t (own_ensG hk hcap)) (by decide) (by decide) hr) ?_
  obtain ⟨fs, hr, hrun, hended, hW, hsame⟩ := ab.leave (v := none) (fun _ => rfl)
  refine ⟨_, _, ab.returnOut hx Bd.returns (dc d13_38) hr, hrun, hended, _, _, rfl, ?_, ⟨⟨_, rfl⟩, hW, hsame.mono (by decide) (by decide)⟩⟩
  show QensG Z b a ka cap cs cb z xs k h0 n0 _ ae.heap _
  rw [am]
  exact ⟨rfl, N0, rfl⟩
def QinfG (Z : State) (b : Addr) (a : Addr) (ka : ClassId) (cap : Nat) (cs : List Int32) (cb : Int32) (z : Int32) (xs : List Value) (x : Addr) (cd : Int32) (G1 : Int32) (G3 : Value) (h0 : Heap) (n0 : Nat) (v : Option Value) (h : Heap) (L : List Loc) : Prop := ∃ (a2 : Addr), ∃ (k2 : ClassId), ∃ (cb2 : Int32), ∃ (z2 : Int32), ∃ (xs2 : List Value), v = none ∧ Fr n0 L ∧ Keep h0 h [b] ∧ (XBu Z h b) ∧ (FBv Z h b (.ref a2)) ∧ (FBc Z h b (.int cb2)) ∧ (FBn Z h b (.int (Int32.ofNat cs.length))) ∧ (FBm Z h b (.int (0 : Int32))) ∧ (Exa Z h a2 "[B") ∧ (Arv Z h a2 k2 .byte z2 xs2 (.int (0 : Int32))) ∧ (BwA cs cap cb2 z2 xs2) ∧ (@Eq Nat a2 a ∨ Lq h0.size a2) ∧ (CbR cb cd cb2)
theorem ef_infG (m : MethodId) (x0 : Addr) (x1 : Addr) : entryFrame m #[(.ref x0), (.ref x1)] 2 = mkF m 0 #[sR x0, sR x1] [] := by first | (simp [entryFrame, mkF, argsToLocals, Value.category]; done) | rfl
abbrev K15 (i : Nat) := decode jdk_68_method_71_code i
theorem d15_0 : K15 0 = .ok (.getstatic 18, 3) := by decide +kernel
theorem d15_3 : K15 3 = .ok (.ifCond .eq 18, 3) := by decide +kernel
theorem d15_6 : K15 6 = .ok (.aload_n 0, 1) := by decide +kernel
theorem d15_7 : K15 7 = .ok (.getfield 22, 3) := by decide +kernel
theorem d15_10 : K15 10 = .ok (.aload_n 1, 1) := by decide +kernel
theorem d15_11 : K15 11 = .ok (.invokevirtual 40, 3) := by decide +kernel
theorem d15_14 : K15 14 = .ok (.if_icmp .eq 7, 3) := by decide +kernel
theorem d15_21 : K15 21 = .ok (.return_, 1) := by decide +kernel
theorem d15_17 : K15 17 = .ok (.aload_n 0, 1) := by decide +kernel
theorem d15_18 : K15 18 = .ok (.invokevirtual 195, 3) := by decide +kernel
theorem pd_21 : parseMethodDescriptor "()V" = some ⟨[], none⟩ := by decide +kernel
set_option maxRecDepth 65536 in
set_option maxHeartbeats 40000000 in
theorem infG (l : Launch) (Z : State) (a0 : Array Value) (hw : ∀ d ∈ tables_1, d.before a0 Z = true) (ws : List Jvm.Cond) (b : Addr) (a : Addr) (ka : ClassId) (cap : Nat) (cs : List Int32) (cb : Int32) (z : Int32) (xs : List Value) (x : Addr) (cd : Int32) (G1 : Int32) (G3 : Value) (h0 : Heap) (n0 : Nat) (Z0 : n0 ≤ h0.size) (q0 : SCs Z G1) (P5 : ¬ (G1 = (0 : Int32))) (q2 : OZ Z h0 n0) (q3 : SFm Z G3) (rG3 : G3.isRef = true) (q5 : SAd Z) (q6 : SHi Z) (q7 : SLo Z) (q8 : XBu Z h0 b) (q9 : FBv Z h0 b (.ref a)) (q10 : FBc Z h0 b (.int cb)) (q11 : FBn Z h0 b (.int (Int32.ofNat cs.length))) (q12 : FBm Z h0 b (.int (0 : Int32))) (q13 : Exa Z h0 a "[B") (q14 : Arv Z h0 a ka .byte z xs (.int (0 : Int32))) (bw : BwA cs cap cb z xs) (q16 : Lq n0 a) (q17 : Lq n0 b) (q18 : Nq a b) (hcap : cap ≤ 18) (hcl : cs.length ≤ cap) (q21 : XSt Z h0 x) (q22 : FSc Z h0 x (.int cd)) (hcd : cd = 0 ∨ cd = 1) (q24 : Nq b x) :
  MetFree l y_35 (head1 (Jvm.Cond.code y_35 jdk_68_method_71_code 2 none :: ws) r_m20) (fun a_ U_ => a_ = #[(.ref b), (.ref x)] ∧ Z.Warmed39 U_.vm ∧ U_.heap = h0) (fun _ _ _ _ _ => True) (fun _ U_ o_ V_ => ∃ v_ L_, o_ = .returned v_ ∧ QinfG Z b a ka cap cs cb z xs x cd G1 G3 h0 n0 v_ V_.heap L_ ∧ FrameEnd U_ o_ V_ L_ r_m20.cells r_m20.slots) := by
 refine MetFree.of_bodySF (plainFor_of_name pn_2) hisR ?_
 intro p e s m args below meth c s₁ Bd bf hP hK
 obtain ⟨rfl, hZ, hh⟩ := hP
 have hx := Bd.exec
 have dc := @hb _ _ Bd.bytes
 have hml : c.maxLocals = 2 := bf
 have hown : s.vm.findClass "java/lang/AbstractStringBuilder" = some m.cls := findClass_of_methodNamed Bd.named
 have hnm := (name_of_methodNamed Bd.named Bd.method).1
 have X0 : Stand p l e r_m20 s m #[(.ref b), (.ref x)] below meth c s₁ [] 0 0 := Stand.of_body Bd
 have e0 : s₁.heap = h0 := by rw [← hh, Bd.state]; rfl
 have N0 := Fr.nil n0
 have Oo := q2.1
 have zo := q2.2
 have bJ := own_alt q8.lt
 have bK := own_alt q9.lt
 have bL := own_alt q10.lt
 have bM := own_alt q11.lt
 have bN := own_alt q12.lt
 have bO := own_alt q13.lt
 have bP := own_alt q14.lt
 have bQ := own_alt q21.lt
 have bR := own_alt q22.lt
 refine Gl.go (A := s₁.setTop (entryFrame m #[(.ref b), (.ref x)] 2)) (P := fun o_ U_ => ∃ v_ L_, o_ = .returned v_ ∧ QinfG Z b a ka cap cs cb z xs x cd G1 G3 h0 n0 v_ U_.heap L_ ∧ FrameEnd s o_ U_ L_ r_m20.cells r_m20.slots) (fun t_ k_ => castTop (ef_infG m b x) k_) ?_
 show Gl p.tables e below _ (s₁.setTop (mkF m 0 #[sR b, sR x] []))
 rcases id bw with ⟨f1, f2, f3, f4⟩ | ⟨f1, f2, f3⟩
 ·have Fb := q10
  rw [f1] at Fb
  have Vb := q14
  rw [f2, f3] at Vb
  show Gl p.tables e below _ (s₁.setTop (mkF m 0 #[sR b, sR x] []))
  rcases id hcd with g1 | g1
  ·have Fx := q22
   rw [g1] at Fx
   show Gl p.tables e below _ (s₁.setTop (mkF m 0 #[sR b, sR x] []))
   refine gGetS (host := "") Gl.cl X0 hx hZ hown (Or.inl (tw hw 95 rfl)) Via.refl e0 (q0.ext Oo.2) rfl (dc d15_0) ?_
   intro bv aa aR
   refine Gl.go (fun _ hr => zifNo aa.here hx (dc d15_3) rfl (XT.i0_eq_f P5) (zaloadN aa.here hx (dc d15_6) rfl rfl hr)) ?_
   refine gGetF (host := "") Gl.cl aa hx hZ hown (Or.inl (tw hw 60 rfl)) Via.refl aR Fb rfl rfl (dc d15_7) ?_
   intro bz al aS
   refine Gl.go (fun _ hr => zaloadN al.here hx (dc d15_10) rfl rfl hr) ?_
   have bh : n0 ≤ h0.size := by omega
   refine gVirtualN Gl.cl (y := y_10) (z := y_10) (b := x) (argsL := []) (rest := [(.int (0 : Int32))]) (mc := 0) (ms := 0) al hx hZ hown (mvT hZ (tw hw 59 rfl)) (mvT hZ (tw hw 53 rfl)) (notFace_of_selects (args := #[]) (mvT hZ (tw hw 55 rfl))) (mvT hZ (tw hw 55 rfl)) (mvT hZ (tw hw 54 rfl)) (by decide) q21 (backOf (W := 1) (cod0 l Z a0 hw [] x G1 h0 n0 bh q0 (by assumption) ⟨Oo, (by omega)⟩ Fx) hZ (tw hw 56 rfl) (tw hw 7 rfl) (by decide) (by decide)) rfl (by rw [hml]; rfl) (lenOf pd_8 rfl) rfl (by exact Nat.le_of_eq rfl) (dc d15_11) rfl aS (by decide) (by decide) ?_
   intro bZ aN bp a8 ab
   obtain ⟨rfl, aH, aT⟩ := a8
   have aB := Fr.app N0 aH
   refine Gl.go (fun _ hr => zicmpYes ab.here hx (pc0 := 14) (pc' := 21) rfl (dc d15_14) rfl (XT.ii_eq_t (by decide)) (by decide) (by decide) hr) ?_
   obtain ⟨fs, hr, hrun, hended, hW, hsame⟩ := ab.leave (v := none) (fun _ => rfl)
   refine ⟨_, _, ab.returnOut hx Bd.returns (dc d15_21) hr, hrun, hended, _, _, rfl, ?_, ⟨⟨_, rfl⟩, hW, hsame.mono (by decide) (by decide)⟩⟩
   show QinfG Z b a ka cap cs cb z xs x cd G1 G3 h0 n0 _ aN.heap _
   rw [aT]
   exact ⟨a, ka, (0 : Int32), (Int32.ofNat cap), (lb cs), rfl, aB, (Keep.refl h0 [b]), q8, q9, Fb, q11, q12, q13, Vb, (Or.inl ⟨rfl, rfl, rfl, f4⟩), (Or.inl rfl), (Or.inl ⟨rfl, f1, g1⟩)⟩
  ·have Fx := q22
   rw [g1] at Fx
   show Gl p.tables e below _ (s₁.setTop (mkF m 0 #[sR b, sR x] []))
   refine gGetS (host := "") Gl.cl X0 hx hZ hown (Or.inl (tw hw 95 rfl)) Via.refl e0 (q0.ext Oo.2) rfl (dc d15_0) ?_
   intro bA ac aU
   refine Gl.go (fun _ hr => zifNo ac.here hx (dc d15_3) rfl (XT.i0_eq_f P5) (zaloadN ac.here hx (dc d15_6) rfl rfl hr)) ?_
   refine gGetF (host := "") Gl.cl ac hx hZ hown (Or.inl (tw hw 60 rfl)) Via.refl aU Fb rfl rfl (dc d15_7) ?_
   intro bB am aV
   refine Gl.go (fun _ hr => zaloadN am.here hx (dc d15_10) rfl rfl hr) ?_
   have bj : n0 ≤ h0.size := by omega
   refine gVirtualN Gl.cl (y := y_10) (z := y_10) (b := x) (argsL := []) (rest := [(.int (0 : Int32))]) (mc := 0) (ms := 0) am hx hZ hown (mvT hZ (tw hw 59 rfl)) (mvT hZ (tw hw 53 rfl)) (notFace_of_selects (args := #[]) (mvT hZ (tw hw 55 rfl))) (mvT hZ (tw hw 55 rfl)) (mvT hZ (tw hw 54 rfl)) (by decide) q21 (backOf (W := 1) (cod1 l Z a0 hw [] x G1 h0 n0 bj q0 (by assumption) ⟨Oo, (by omega)⟩ Fx) hZ (tw hw 56 rfl) (tw hw 7 rfl) (by decide) (by decide)) rfl (by rw [hml]; rfl) (lenOf pd_8 rfl) rfl (by exact Nat.le_of_eq rfl) (dc d15_11) rfl aV (by decide) (by decide) ?_
   intro b0 bC bq a9 ae
   obtain ⟨rfl, aI, aW⟩ := a9
   have aC := Fr.app N0 aI
   refine Gl.go (fun _ hr => zicmpNo ae.here hx (dc d15_14) rfl (XT.ii_eq_f (by decide)) (zaloadN ae.here hx (dc d15_17) rfl rfl hr)) ?_
   have bl : n0 ≤ h0.size := by omega
   refine gPrivN Gl.cl (y := y_20) (b := b) (argsL := []) (rest := []) (mc := 1) (ms := 36) ae hx hZ hown (mvT hZ (tw hw 249 rfl)) (mvT hZ (tw hw 250 rfl)) (mvT hZ (tw hw 252 rfl)) (mvP hZ (tw hw 251 rfl)) (mvT hZ (tw hw 253 rfl)) (by decide) q8 (backOf (W := 0) (asi l Z a0 hw [] b a ka cap cs G1 G3 h0 n0 bl q0 (by assumption) ⟨Oo, (by omega)⟩ q3 (by assumption) q5 q6 q7 q8 q9 Fb q11 q12 q13 Vb (by omega) (by omega) (by omega) (by assumption) f4 (by assumption)) hZ (tw hw 253 rfl) (tw hw 44 rfl) (by decide) (by decide)) rfl (by rw [hml]; rfl) (lenOf pd_21 rfl) rfl (by exact Nat.le_of_eq rfl) (dc d15_18) rfl aW (by decide) (by decide) ?_
   intro b3 ak br ba ao
   obtain ⟨aQ, bg, rfl, aJ, aj, au, av, aw, ax, ay, az, aA, bI⟩ := ba
   have b7 : h0.size ≤ ak.heap.size := aj.1
   have aD := Fr.app aC aJ
   have bS := own_alt au.lt
   have bT := own_alt av.lt
   have bU := own_alt aw.lt
   have bV := own_alt ax.lt
   have bW := own_alt ay.lt
   have bX := own_alt az.lt
   have bY := own_alt aA.lt
   obtain ⟨fs, hr, hrun, hended, hW, hsame⟩ := ao.leave (v := none) (fun _ => rfl)
   refine ⟨_, _, ao.returnOut hx Bd.returns (dc d15_21) hr, hrun, hended, _, _, rfl, ?_, ⟨⟨_, rfl⟩, hW, hsame.mono (by decide) (by decide)⟩⟩
   show QinfG Z b a ka cap cs cb z xs x cd G1 G3 h0 n0 _ ak.heap _
   exact ⟨aQ, bg, (1 : Int32), (Int32.ofNat (2 * cap)), (StrChars.Road.wideBytes cs), rfl, aD, ((Keep.refl h0 [b]).trans aj (allS (P := fun x_ => x_ ∈ ([b] : List Addr) ∨ h0.size ≤ x_) (Or.inl (by simp)) all0)), au, av, aw, ax, ay, az, aA, (Or.inr ⟨rfl, rfl, rfl⟩), (Or.inr (by omega)), (Or.inr ⟨rfl, Or.inr g1⟩)⟩
 ·have Fb := q10
  rw [f1] at Fb
  have Vb := q14
  rw [f2, f3] at Vb
  show Gl p.tables e below _ (s₁.setTop (mkF m 0 #[sR b, sR x] []))
  rcases id hcd with g1 | g1
  ·have Fx := q22
   rw [g1] at Fx
   show Gl p.tables e below _ (s₁.setTop (mkF m 0 #[sR b, sR x] []))
   refine gGetS (host := "") Gl.cl X0 hx hZ hown (Or.inl (tw hw 95 rfl)) Via.refl e0 (q0.ext Oo.2) rfl (dc d15_0) ?_
   intro bD af aX
   refine Gl.go (fun _ hr => zifNo af.here hx (dc d15_3) rfl (XT.i0_eq_f P5) (zaloadN af.here hx (dc d15_6) rfl rfl hr)) ?_
   refine gGetF (host := "") Gl.cl af hx hZ hown (Or.inl (tw hw 60 rfl)) Via.refl aX Fb rfl rfl (dc d15_7) ?_
   intro bE ap aY
   refine Gl.go (fun _ hr => zaloadN ap.here hx (dc d15_10) rfl rfl hr) ?_
   have bm : n0 ≤ h0.size := by omega
   refine gVirtualN Gl.cl (y := y_10) (z := y_10) (b := x) (argsL := []) (rest := [(.int (1 : Int32))]) (mc := 0) (ms := 0) ap hx hZ hown (mvT hZ (tw hw 59 rfl)) (mvT hZ (tw hw 53 rfl)) (notFace_of_selects (args := #[]) (mvT hZ (tw hw 55 rfl))) (mvT hZ (tw hw 55 rfl)) (mvT hZ (tw hw 54 rfl)) (by decide) q21 (backOf (W := 1) (cod0 l Z a0 hw [] x G1 h0 n0 bm q0 (by assumption) ⟨Oo, (by omega)⟩ Fx) hZ (tw hw 56 rfl) (tw hw 7 rfl) (by decide) (by decide)) rfl (by rw [hml]; rfl) (lenOf pd_8 rfl) rfl (by exact Nat.le_of_eq rfl) (dc d15_11) rfl aY (by decide) (by decide) ?_
   intro b4 bF bs bb ag
   obtain ⟨rfl, aK, aZ⟩ := bb
   have aE := Fr.app N0 aK
   refine Gl.go (fun _ hr => zicmpNo ag.here hx (dc d15_14) rfl (XT.ii_eq_f (by decide)) (zaloadN ag.here hx (dc d15_17) rfl rfl hr)) ?_
   have bn : n0 ≤ h0.size := by omega
   refine gPrivN Gl.cl (y := y_20) (b := b) (argsL := []) (rest := []) (mc := 0) (ms := 0) ag hx hZ hown (mvT hZ (tw hw 249 rfl)) (mvT hZ (tw hw 250 rfl)) (mvT hZ (tw hw 252 rfl)) (mvP hZ (tw hw 251 rfl)) (mvT hZ (tw hw 253 rfl)) (by decide) q8 (backOf (W := 0) (asj l Z a0 hw [] b G1 h0 n0 bn q0 (by assumption) ⟨Oo, (by omega)⟩ q8 Fb) hZ (tw hw 253 rfl) (tw hw 44 rfl) (by decide) (by decide)) rfl (by rw [hml]; rfl) (lenOf pd_21 rfl) rfl (by exact Nat.le_of_eq rfl) (dc d15_18) rfl aZ (by decide) (by decide) ?_
   intro b5 aO bt bc aq
   obtain ⟨rfl, aL, a3⟩ := bc
   have aF := Fr.app aE aL
   obtain ⟨fs, hr, hrun, hended, hW, hsame⟩ := aq.leave (v := none) (fun _ => rfl)
   refine ⟨_, _, aq.returnOut hx Bd.returns (dc d15_21) hr, hrun, hended, _, _, rfl, ?_, ⟨⟨_, rfl⟩, hW, hsame.mono (by decide) (by decide)⟩⟩
   show QinfG Z b a ka cap cs cb z xs x cd G1 G3 h0 n0 _ aO.heap _
   rw [a3]
   exact ⟨a, ka, (1 : Int32), (Int32.ofNat (2 * cap)), (StrChars.Road.wideBytes cs), rfl, aF, (Keep.refl h0 [b]), q8, q9, Fb, q11, q12, q13, Vb, (Or.inr ⟨rfl, rfl, rfl⟩), (Or.inl rfl), (Or.inr ⟨rfl, Or.inl f1⟩)⟩
  ·have Fx := q22
   rw [g1] at Fx
   show Gl p.tables e below _ (s₁.setTop (mkF m 0 #[sR b, sR x] []))
   refine gGetS (host := "") Gl.cl X0 hx hZ hown (Or.inl (tw hw 95 rfl)) Via.refl e0 (q0.ext Oo.2) rfl (dc d15_0) ?_
   intro bG ah a5
   refine Gl.go (fun _ hr => zifNo ah.here hx (dc d15_3) rfl (XT.i0_eq_f P5) (zaloadN ah.here hx (dc d15_6) rfl rfl hr)) ?_
   refine gGetF (host := "") Gl.cl ah hx hZ hown (Or.inl (tw hw 60 rfl)) Via.refl a5 Fb rfl rfl (dc d15_7) ?_
   intro bH ar a6
   refine Gl.go (fun _ hr => zaloadN ar.here hx (dc d15_10) rfl rfl hr) ?_
   have bo : n0 ≤ h0.size := by omega
   refine gVirtualN Gl.cl (y := y_10) (z := y_10) (b := x) (argsL := []) (rest := [(.int (1 : Int32))]) (mc := 0) (ms := 0) ar hx hZ hown (mvT hZ (tw hw 59 rfl)) (mvT hZ (tw hw 53 rfl)) (notFace_of_selects (args := #[]) (mvT hZ (tw hw 55 rfl))) (mvT hZ (tw hw 55 rfl)) (mvT hZ (tw hw 54 rfl)) (by decide) q21 (backOf (W := 1) (cod1 l Z a0 hw [] x G1 h0 n0 bo q0 (by assumption) ⟨Oo, (by omega)⟩ Fx) hZ (tw hw 56 rfl) (tw hw 7 rfl) (by decide) (by decide)) rfl (by rw [hml]; rfl) (lenOf pd_8 rfl) rfl (by exact Nat.le_of_eq rfl) (dc d15_11) rfl a6 (by decide) (by decide) ?_
   intro b6 aP bu be ai
   obtain ⟨rfl, aM, a7⟩ := be
   have aG := Fr.app N0 aM
   refine Gl.go (fun _ hr => zicmpYes ai.here hx (pc0 := 14) (pc' := 21) rfl (dc d15_14) rfl (XT.ii_eq_t (by decide)) (by decide) (by decide) hr) ?_
   obtain ⟨fs, hr, hrun, hended, hW, hsame⟩ := ai.leave (v := none) (fun _ => rfl)
   refine ⟨_, _, ai.returnOut hx Bd.returns (dc d15_21) hr, hrun, hended, _, _, rfl, ?_, ⟨⟨_, rfl⟩, hW, hsame.mono (by decide) (by decide)⟩⟩
   show QinfG Z b a ka cap cs cb z xs x cd G1 G3 h0 n0 _ aP.heap _
   rw [a7]
   exact ⟨a, ka, (1 : Int32), (Int32.ofNat (2 * cap)), (StrChars.Road.wideBytes cs), rfl, aG, (Keep.refl h0 [b]), q8, q9, Fb, q11, q12, q13, Vb, (Or.inr ⟨rfl, rfl, rfl⟩), (Or.inl rfl), (Or.inr ⟨rfl, Or.inl f1⟩)⟩
def QgbG (Z : State) (x : Addr) (t : Addr) (kb : ClassId) (cd : Int32) (N : Int32) (vs : List Value) (ds : List Int32) (a : Addr) (ka : ClassId) (cap : Nat) (cs : List Int32) (cb : Int32) (z : Int32) (xs : List Value) (G1 : Int32) (G3 : Value) (h0 : Heap) (n0 : Nat) (v : Option Value) (h : Heap) (L : List Loc) : Prop := ∃ (z2 : Int32), ∃ (xs2 : List Value), v = none ∧ Fr n0 L ∧ Keep h0 h [a] ∧ (Arv Z h a ka .byte z2 xs2 (.int (0 : Int32))) ∧ (BwA (cs ++ ds) cap cb z2 xs2)
theorem ef_gbG (m : MethodId) (x0 : Addr) (x1 : Addr) (x2 : Int32) (x3 : Int32) : entryFrame m #[(.ref x0), (.ref x1), (.int x2), (.int x3)] 4 = mkF m 0 #[sR x0, sR x1, sI x2, sI x3] [] := by first | (simp [entryFrame, mkF, argsToLocals, Value.category]; done) | rfl
abbrev K16 (i : Nat) := decode jdk_42_method_147_code i
theorem d16_0 : K16 0 = .ok (.aload_n 0, 1) := by decide +kernel
theorem d16_1 : K16 1 = .ok (.invokevirtual 335, 3) := by decide +kernel
theorem d16_4 : K16 4 = .ok (.iload_n 3, 1) := by decide +kernel
theorem d16_5 : K16 5 = .ok (.if_icmp .ne 23, 3) := by decide +kernel
theorem d16_8 : K16 8 = .ok (.aload_n 0, 1) := by decide +kernel
theorem d16_9 : K16 9 = .ok (.getfield 9, 3) := by decide +kernel
theorem d16_12 : K16 12 = .ok (.iconst 0, 1) := by decide +kernel
theorem d16_13 : K16 13 = .ok (.aload_n 1, 1) := by decide +kernel
theorem d16_14 : K16 14 = .ok (.iload_n 2, 1) := by decide +kernel
theorem d16_15 : K16 15 = .ok (.iload_n 3, 1) := by decide +kernel
theorem d16_16 : K16 16 = .ok (.ishl, 1) := by decide +kernel
theorem d16_17 : K16 17 = .ok (.aload_n 0, 1) := by decide +kernel
theorem d16_18 : K16 18 = .ok (.getfield 9, 3) := by decide +kernel
theorem d16_21 : K16 21 = .ok (.arraylength, 1) := by decide +kernel
theorem d16_22 : K16 22 = .ok (.invokestatic 212, 3) := by decide +kernel
theorem d16_25 : K16 25 = .ok (.goto 18, 3) := by decide +kernel
theorem d16_43 : K16 43 = .ok (.return_, 1) := by decide +kernel
theorem d16_28 : K16 28 = .ok (.aload_n 0, 1) := by decide +kernel
theorem d16_29 : K16 29 = .ok (.getfield 9, 3) := by decide +kernel
theorem d16_32 : K16 32 = .ok (.iconst 0, 1) := by decide +kernel
theorem d16_33 : K16 33 = .ok (.aload_n 1, 1) := by decide +kernel
theorem d16_34 : K16 34 = .ok (.iload_n 2, 1) := by decide +kernel
theorem d16_35 : K16 35 = .ok (.aload_n 0, 1) := by decide +kernel
theorem d16_36 : K16 36 = .ok (.getfield 9, 3) := by decide +kernel
theorem d16_39 : K16 39 = .ok (.arraylength, 1) := by decide +kernel
theorem d16_40 : K16 40 = .ok (.invokestatic 106, 3) := by decide +kernel
set_option maxRecDepth 65536 in
set_option maxHeartbeats 40000000 in
theorem gbG (l : Launch) (Z : State) (a0 : Array Value) (hw : ∀ d ∈ tables_1, d.before a0 Z = true) (ws : List Jvm.Cond) (x : Addr) (t : Addr) (kb : ClassId) (cd : Int32) (N : Int32) (vs : List Value) (ds : List Int32) (a : Addr) (ka : ClassId) (cap : Nat) (cs : List Int32) (cb : Int32) (z : Int32) (xs : List Value) (G1 : Int32) (G3 : Value) (h0 : Heap) (n0 : Nat) (Z0 : n0 ≤ h0.size) (q0 : SCs Z G1) (P5 : ¬ (G1 = (0 : Int32))) (q2 : OZ Z h0 n0) (q3 : SFm Z G3) (rG3 : G3.isRef = true) (q5 : SAd Z) (q6 : SHi Z) (q7 : SLo Z) (q8 : XSt Z h0 x) (q9 : FSv Z h0 x (.ref t)) (q10 : FSc Z h0 x (.int cd)) (q11 : Arv Z h0 t kb .byte N vs (.int (0 : Int32))) (cod_x : StrChars.Road.CodA ds cd N vs) (hb_x : ∀ c ∈ ds, Wid c) (q14 : Arv Z h0 a ka .byte z xs (.int (0 : Int32))) (bw : BwA cs cap cb z xs) (hle : cb = 0 → cd = 0) (q17 : Lq n0 a) (q18 : Nq a x) (q19 : Nq a t) (hcap : cap ≤ 18) (hfit : cs.length + ds.length ≤ cap) :
  MetFree l y_36 (head1 (Jvm.Cond.code y_36 jdk_42_method_147_code 4 none :: ws) r_m21) (fun a_ U_ => a_ = #[(.ref x), (.ref a), (.int (Int32.ofNat cs.length)), (.int cb)] ∧ Z.Warmed39 U_.vm ∧ U_.heap = h0) (fun _ _ _ _ _ => True) (fun _ U_ o_ V_ => ∃ v_ L_, o_ = .returned v_ ∧ QgbG Z x t kb cd N vs ds a ka cap cs cb z xs G1 G3 h0 n0 v_ V_.heap L_ ∧ FrameEnd U_ o_ V_ L_ r_m21.cells r_m21.slots) := by
 refine MetFree.of_bodySF (plainFor_of_name pn_1) hisR ?_
 intro p e s m args below meth c s₁ Bd bb hP hK
 obtain ⟨rfl, hZ, hh⟩ := hP
 have hx := Bd.exec
 have dc := @hb _ _ Bd.bytes
 have hml : c.maxLocals = 4 := bb
 have hown : s.vm.findClass "java/lang/String" = some m.cls := findClass_of_methodNamed Bd.named
 have hnm := (name_of_methodNamed Bd.named Bd.method).1
 have X0 : Stand p l e r_m21 s m #[(.ref x), (.ref a), (.int (Int32.ofNat cs.length)), (.int cb)] below meth c s₁ [] 0 0 := Stand.of_body Bd
 have e0 : s₁.heap = h0 := by rw [← hh, Bd.state]; rfl
 have N0 := Fr.nil n0
 have Oo := q2.1
 have zo := q2.2
 have bO := own_alt q8.lt
 have bP := own_alt q9.lt
 have bQ := own_alt q10.lt
 have bR := own_alt q11.lt
 have bS := own_alt q14.lt
 refine Gl.go (A := s₁.setTop (entryFrame m #[(.ref x), (.ref a), (.int (Int32.ofNat cs.length)), (.int cb)] 4)) (P := fun o_ U_ => ∃ v_ L_, o_ = .returned v_ ∧ QgbG Z x t kb cd N vs ds a ka cap cs cb z xs G1 G3 h0 n0 v_ U_.heap L_ ∧ FrameEnd s o_ U_ L_ r_m21.cells r_m21.slots) (fun t_ k_ => castTop (ef_gbG m x a (Int32.ofNat cs.length) cb) k_) ?_
 show Gl p.tables e below _ (s₁.setTop (mkF m 0 #[sR x, sR a, sI (Int32.ofNat cs.length), sI cb] []))
 rcases id bw with ⟨f1, f2, f3, f4⟩ | ⟨f1, f2, f3⟩
 ·refine Gl.cast (F' := (mkF m 0 #[sR x, sR a, sI (Int32.ofNat cs.length), sI 0] [])) (by rw [f1]) ?_
  have Vb := q14
  rw [f2, f3] at Vb
  show Gl p.tables e below _ (s₁.setTop (mkF m 0 #[sR x, sR a, sI (Int32.ofNat cs.length), sI 0] []))
  have g1 := hle f1
  rcases id cod_x with ⟨e1x, e2x, e3x, e4x⟩ | ⟨e1x, -⟩
  ·have Fkx := q10
   rw [e1x] at Fkx
   have Vkx := q11
   rw [e2x, e3x, own_lom] at Vkx
   have hlx : ∀ c ∈ ds, Lat c := own_latL hb_x e4x
   show Gl p.tables e below _ (s₁.setTop (mkF m 0 #[sR x, sR a, sI (Int32.ofNat cs.length), sI 0] []))
   refine Gl.go (fun _ hr => zaloadN X0.here hx (dc d16_0) rfl rfl hr) ?_
   have bl : n0 ≤ h0.size := by omega
   refine gVirtualN Gl.cl (y := y_10) (z := y_10) (b := x) (argsL := []) (rest := []) (mc := 0) (ms := 0) X0 hx hZ hown (mvT hZ (tw hw 52 rfl)) (mvT hZ (tw hw 53 rfl)) (notFace_of_selects (args := #[]) (mvT hZ (tw hw 55 rfl))) (mvT hZ (tw hw 55 rfl)) (mvT hZ (tw hw 54 rfl)) (by decide) q8 (backOf (W := 0) (cod0 l Z a0 hw [] x G1 h0 n0 bl q0 (by assumption) ⟨Oo, (by omega)⟩ Fkx) hZ (tw hw 56 rfl) (tw hw 7 rfl) (by decide) (by decide)) rfl (by rw [hml]; rfl) (lenOf pd_8 rfl) rfl (by exact Nat.le_of_eq rfl) (dc d16_1) rfl e0 (by decide) (by decide) ?_
   intro bX bB bu a7 ae
   obtain ⟨rfl, aI, aV⟩ := a7
   have aC := Fr.app N0 aI
   refine Gl.go (fun _ hr => ziloadN ae.here hx (dc d16_4) rfl (zicmpNo ae.here hx (dc d16_5) rfl (XT.ii_ne_f (by decide)) (zaloadN ae.here hx (dc d16_8) rfl rfl hr))) ?_
   refine gGetF (host := "") Gl.cl ae hx hZ hown (Or.inl (tw hw 25 rfl)) Via.refl aV q9 rfl rfl (dc d16_9) ?_
   intro am aa aW
   refine Gl.go (fun _ hr => ziconst aa.here hx (dc d16_12) (zaloadN aa.here hx (dc d16_13) rfl rfl (ziloadN aa.here hx (dc d16_14) rfl (ziloadN aa.here hx (dc d16_15) rfl (zishl aa.here hx (dc d16_16) rfl hr))))) ?_
   show Gl p.tables e below _ (am.setTop (mkF m 17 #[sR x, sR a, sI (Int32.ofNat cs.length), sI 0] [(.int ((Int32.ofNat cs.length) <<< ((0 : Int32) &&& 31))), (.ref a), (.int (0 : Int32)), (.ref t)]))
   rw [own_shl0]
   show Gl p.tables e below _ (am.setTop (mkF m 17 #[sR x, sR a, sI (Int32.ofNat cs.length), sI 0] [(.int (Int32.ofNat cs.length)), (.ref a), (.int (0 : Int32)), (.ref t)]))
   refine Gl.go (fun _ hr => zaloadN aa.here hx (dc d16_17) rfl rfl hr) ?_
   refine gGetF (host := "") Gl.cl aa hx hZ hown (Or.inl (tw hw 25 rfl)) Via.refl aW q9 rfl rfl (dc d16_18) ?_
   intro bC aq aw
   obtain ⟨bL, aS, bU, bg, bc, bp, bI⟩ := id Vkx
   refine gLen Gl.cl aq hx hZ aw aS bg bc rfl rfl (dc d16_21) ?_
   refine gCopy Gl.cl (us := lb ds) (n0 := n0) (W := 0) aq hx hZ hown (tw hw 101 rfl) (tw hw 104 rfl) (tw hw 102 rfl) (tw hw 103 rfl) aw Vkx (Vb.pad (pad_rep (lb cs) (.int (0 : Int32)) 36)) (Or.inl ⟨rfl, rfl⟩) (by decide) (own_nn (by omega)) (own_nn (by omega)) (by rw [own_z0, Nat.zero_add]; exact Nat.le_refl _) (by rw [own_nat32 (by omega), own_nat32 (by omega), own_nat32 (by omega)]; omega) (own_us (lb_len ds) (by omega)) (by rw [own_nat32 (by omega), own_nat32 (by omega), List.length_append, List.length_replicate, lb_len]; omega) aC (by omega) rfl (by rw [hml]; rfl) rfl (dc d16_22) (by decide) (by exact Nat.le_of_eq rfl) (by decide) ?_
   intro aM aA bs ah aX aD aj aQ
   have b3 : h0.size ≤ aA.size := aj.1
   have aO : Arv Z aA a ka .byte (Int32.ofNat cap) (lb (cs ++ ds)) (.int (0 : Int32)) := (by have q := own_catG (lb_len cs) (by omega) (by omega) aQ; rw [← lb_app] at q; exact q)
   refine Gl.go (fun _ hr => zgoto ah.here hx (pc0 := 25) (pc' := 43) rfl (dc d16_25) (by decide) (by decide) hr) ?_
   obtain ⟨fs, hr, hrun, hended, hW, hsame⟩ := ah.leave (v := none) (fun _ => rfl)
   refine ⟨_, _, ah.returnOut hx Bd.returns (dc d16_43) hr, hrun, hended, _, _, rfl, ?_, ⟨⟨_, rfl⟩, hW, hsame.mono (by decide) (by decide)⟩⟩
   show QgbG Z x t kb cd N vs ds a ka cap cs cb z xs G1 G3 h0 n0 _ aM.heap _
   rw [aX]
   exact ⟨(Int32.ofNat cap), (lb (cs ++ ds)), rfl, aD, ((Keep.refl h0 [a]).trans aj (allS (P := fun x_ => x_ ∈ ([a] : List Addr) ∨ h0.size ≤ x_) (Or.inl (by simp)) all0)), aO, (Or.inl ⟨f1, rfl, rfl, own_codC f4 hlx⟩)⟩
  ·rw [g1] at e1x
   exact absurd e1x (by decide)
 ·refine Gl.cast (F' := (mkF m 0 #[sR x, sR a, sI (Int32.ofNat cs.length), sI 1] [])) (by rw [f1]) ?_
  have Vb := q14
  rw [f2, f3] at Vb
  show Gl p.tables e below _ (s₁.setTop (mkF m 0 #[sR x, sR a, sI (Int32.ofNat cs.length), sI 1] []))
  rcases id cod_x with ⟨e1x, e2x, e3x, e4x⟩ | ⟨e1x, e2x, e3x, e4x⟩
  ·have Fkx := q10
   rw [e1x] at Fkx
   have Vkx := q11
   rw [e2x, e3x, own_lom] at Vkx
   have hlx : ∀ c ∈ ds, Lat c := own_latL hb_x e4x
   show Gl p.tables e below _ (s₁.setTop (mkF m 0 #[sR x, sR a, sI (Int32.ofNat cs.length), sI 1] []))
   refine Gl.go (fun _ hr => zaloadN X0.here hx (dc d16_0) rfl rfl hr) ?_
   have bm : n0 ≤ h0.size := by omega
   refine gVirtualN Gl.cl (y := y_10) (z := y_10) (b := x) (argsL := []) (rest := []) (mc := 0) (ms := 0) X0 hx hZ hown (mvT hZ (tw hw 52 rfl)) (mvT hZ (tw hw 53 rfl)) (notFace_of_selects (args := #[]) (mvT hZ (tw hw 55 rfl))) (mvT hZ (tw hw 55 rfl)) (mvT hZ (tw hw 54 rfl)) (by decide) q8 (backOf (W := 0) (cod0 l Z a0 hw [] x G1 h0 n0 bm q0 (by assumption) ⟨Oo, (by omega)⟩ Fkx) hZ (tw hw 56 rfl) (tw hw 7 rfl) (by decide) (by decide)) rfl (by rw [hml]; rfl) (lenOf pd_8 rfl) rfl (by exact Nat.le_of_eq rfl) (dc d16_1) rfl e0 (by decide) (by decide) ?_
   intro bY bD bv a8 af
   obtain ⟨rfl, aJ, aY⟩ := a8
   have aE := Fr.app N0 aJ
   refine Gl.go (fun _ hr => ziloadN af.here hx (dc d16_4) rfl (zicmpYes af.here hx (pc0 := 5) (pc' := 28) rfl (dc d16_5) rfl (XT.ii_ne_t (by decide)) (by decide) (by decide) (zaloadN af.here hx (dc d16_28) rfl rfl hr))) ?_
   refine gGetF (host := "") Gl.cl af hx hZ hown (Or.inl (tw hw 25 rfl)) Via.refl aY q9 rfl rfl (dc d16_29) ?_
   intro bE ac aZ
   refine Gl.go (fun _ hr => ziconst ac.here hx (dc d16_32) (zaloadN ac.here hx (dc d16_33) rfl rfl (ziloadN ac.here hx (dc d16_34) rfl (zaloadN ac.here hx (dc d16_35) rfl rfl hr)))) ?_
   refine gGetF (host := "") Gl.cl ac hx hZ hown (Or.inl (tw hw 25 rfl)) Via.refl aZ q9 rfl rfl (dc d16_36) ?_
   intro bF ar ax
   obtain ⟨bM, aT, bV, bh, be, bq, bJ⟩ := id Vkx
   refine gLen Gl.cl ar hx hZ ax aT bh be rfl rfl (dc d16_39) ?_
   have bn : n0 ≤ h0.size := by omega
   refine gStaticN Gl.cl (y := y_19) (argsL := [(.ref t), (.int (0 : Int32)), (.ref a), (.int (Int32.ofNat cs.length)), (.int (Int32.ofNat ds.length))]) (rest := []) (mc := 0) (ms := 0) ar hx hZ hown (mvT hZ (tw hw 281 rfl)) (mvT hZ (tw hw 256 rfl)) (mvT hZ (tw hw 128 rfl)) (mvT hZ (tw hw 257 rfl)) (by decide) (backOf (W := 0) (lif l Z a0 hw [] t kb ds.length ds a ka cap cs G3 h0 n0 bn ⟨Oo, (by omega)⟩ q3 (by assumption) q5 q6 q7 Vkx Vb (by omega) (by omega) hlx hfit hcap (Nat.le_refl _) (by omega)) hZ (tw hw 257 rfl) (tw hw 128 rfl) (by decide) (by decide)) rfl (by rw [hml]; rfl) (lenOf pd_13 rfl) rfl (by exact Nat.le_of_eq rfl) (dc d16_40) rfl ax (by decide) (by decide) ?_
   intro bZ ao bz a9 au
   obtain ⟨rfl, aK, ak, az⟩ := a9
   have b4 : h0.size ≤ ao.heap.size := ak.1
   have aF := Fr.app aE aK
   have bT := own_alt az.lt
   obtain ⟨fs, hr, hrun, hended, hW, hsame⟩ := au.leave (v := none) (fun _ => rfl)
   refine ⟨_, _, au.returnOut hx Bd.returns (dc d16_43) hr, hrun, hended, _, _, rfl, ?_, ⟨⟨_, rfl⟩, hW, hsame.mono (by decide) (by decide)⟩⟩
   show QgbG Z x t kb cd N vs ds a ka cap cs cb z xs G1 G3 h0 n0 _ ao.heap _
   exact ⟨(Int32.ofNat (2 * cap)), (StrChars.Road.wideBytes (cs ++ ds)), rfl, aF, ((Keep.refl h0 [a]).trans ak (allS (P := fun x_ => x_ ∈ ([a] : List Addr) ∨ h0.size ≤ x_) (Or.inl (by simp)) all0)), az, (Or.inr ⟨f1, rfl, rfl⟩)⟩
  ·have Fkx := q10
   rw [e1x] at Fkx
   have Vkx := q11
   rw [e2x, e3x] at Vkx
   show Gl p.tables e below _ (s₁.setTop (mkF m 0 #[sR x, sR a, sI (Int32.ofNat cs.length), sI 1] []))
   refine Gl.go (fun _ hr => zaloadN X0.here hx (dc d16_0) rfl rfl hr) ?_
   have bo : n0 ≤ h0.size := by omega
   refine gVirtualN Gl.cl (y := y_10) (z := y_10) (b := x) (argsL := []) (rest := []) (mc := 0) (ms := 0) X0 hx hZ hown (mvT hZ (tw hw 52 rfl)) (mvT hZ (tw hw 53 rfl)) (notFace_of_selects (args := #[]) (mvT hZ (tw hw 55 rfl))) (mvT hZ (tw hw 55 rfl)) (mvT hZ (tw hw 54 rfl)) (by decide) q8 (backOf (W := 0) (cod1 l Z a0 hw [] x G1 h0 n0 bo q0 (by assumption) ⟨Oo, (by omega)⟩ Fkx) hZ (tw hw 56 rfl) (tw hw 7 rfl) (by decide) (by decide)) rfl (by rw [hml]; rfl) (lenOf pd_8 rfl) rfl (by exact Nat.le_of_eq rfl) (dc d16_1) rfl e0 (by decide) (by decide) ?_
   intro b0 bG bA ba ag
   obtain ⟨rfl, aL, a3⟩ := ba
   have aG := Fr.app N0 aL
   refine Gl.go (fun _ hr => ziloadN ag.here hx (dc d16_4) rfl (zicmpNo ag.here hx (dc d16_5) rfl (XT.ii_ne_f (by decide)) (zaloadN ag.here hx (dc d16_8) rfl rfl hr))) ?_
   refine gGetF (host := "") Gl.cl ag hx hZ hown (Or.inl (tw hw 25 rfl)) Via.refl a3 q9 rfl rfl (dc d16_9) ?_
   intro ap ab a5
   refine Gl.go (fun _ hr => ziconst ab.here hx (dc d16_12) (zaloadN ab.here hx (dc d16_13) rfl rfl (ziloadN ab.here hx (dc d16_14) rfl (ziloadN ab.here hx (dc d16_15) rfl (zishl ab.here hx (dc d16_16) rfl hr))))) ?_
   show Gl p.tables e below _ (ap.setTop (mkF m 17 #[sR x, sR a, sI (Int32.ofNat cs.length), sI 1] [(.int ((Int32.ofNat cs.length) <<< ((1 : Int32) &&& 31))), (.ref a), (.int (0 : Int32)), (.ref t)]))
   rw [(own_shl1 (i := cs.length) (by omega))]
   show Gl p.tables e below _ (ap.setTop (mkF m 17 #[sR x, sR a, sI (Int32.ofNat cs.length), sI 1] [(.int (Int32.ofNat (2 * cs.length))), (.ref a), (.int (0 : Int32)), (.ref t)]))
   refine Gl.go (fun _ hr => zaloadN ab.here hx (dc d16_17) rfl rfl hr) ?_
   refine gGetF (host := "") Gl.cl ab hx hZ hown (Or.inl (tw hw 25 rfl)) Via.refl a5 q9 rfl rfl (dc d16_18) ?_
   intro bH av ay
   obtain ⟨bN, aU, bW, bj, bf, br, bK⟩ := id Vkx
   refine gLen Gl.cl av hx hZ ay aU bj bf rfl rfl (dc d16_21) ?_
   refine gCopy Gl.cl (us := StrChars.Road.wideBytes ds) (n0 := n0) (W := 0) av hx hZ hown (tw hw 101 rfl) (tw hw 104 rfl) (tw hw 102 rfl) (tw hw 103 rfl) ay Vkx (Vb.pad (pad_rep (StrChars.Road.wideBytes cs) (.int (0 : Int32)) 36)) (Or.inl ⟨rfl, rfl⟩) (by decide) (own_nn (by omega)) (own_nn (by omega)) (by rw [own_z0, Nat.zero_add]; exact Nat.le_refl _) (by rw [own_nat32 (by omega), own_nat32 (by omega), own_nat32 (by omega)]; omega) (own_us (wide_len ds) (by omega)) (by rw [own_nat32 (by omega), own_nat32 (by omega), List.length_append, List.length_replicate, wide_len]; omega) aG (by omega) rfl (by rw [hml]; rfl) rfl (dc d16_22) (by decide) (by exact Nat.le_of_eq rfl) (by decide) ?_
   intro aN aB bt ai a6 aH al aR
   have b5 : h0.size ≤ aB.size := al.1
   have aP : Arv Z aB a ka .byte (Int32.ofNat (2 * cap)) (StrChars.Road.wideBytes (cs ++ ds)) (.int (0 : Int32)) := (by have q := own_catG (wide_len cs) (by omega) (by omega) aR; rw [← wide_app] at q; exact q)
   refine Gl.go (fun _ hr => zgoto ai.here hx (pc0 := 25) (pc' := 43) rfl (dc d16_25) (by decide) (by decide) hr) ?_
   obtain ⟨fs, hr, hrun, hended, hW, hsame⟩ := ai.leave (v := none) (fun _ => rfl)
   refine ⟨_, _, ai.returnOut hx Bd.returns (dc d16_43) hr, hrun, hended, _, _, rfl, ?_, ⟨⟨_, rfl⟩, hW, hsame.mono (by decide) (by decide)⟩⟩
   show QgbG Z x t kb cd N vs ds a ka cap cs cb z xs G1 G3 h0 n0 _ aN.heap _
   rw [a6]
   exact ⟨(Int32.ofNat (2 * cap)), (StrChars.Road.wideBytes (cs ++ ds)), rfl, aH, ((Keep.refl h0 [a]).trans al (allS (P := fun x_ => x_ ∈ ([a] : List Addr) ∨ h0.size ≤ x_) (Or.inl (by simp)) all0)), aP, (Or.inr ⟨f1, rfl, rfl⟩)⟩
def QpsaG (Z : State) (b : Addr) (a : Addr) (ka : ClassId) (cap : Nat) (cs : List Int32) (cb : Int32) (z : Int32) (xs : List Value) (x : Addr) (t : Addr) (kb : ClassId) (cd : Int32) (N : Int32) (vs : List Value) (ds : List Int32) (G1 : Int32) (G3 : Value) (h0 : Heap) (n0 : Nat) (v : Option Value) (h : Heap) (L : List Loc) : Prop := ∃ (a2 : Addr), ∃ (k2 : ClassId), ∃ (cb2 : Int32), ∃ (z2 : Int32), ∃ (xs2 : List Value), v = none ∧ Fr n0 L ∧ Keep h0 h [b, a] ∧ (XBu Z h b) ∧ (FBv Z h b (.ref a2)) ∧ (FBc Z h b (.int cb2)) ∧ (FBn Z h b (.int (Int32.ofNat cs.length))) ∧ (FBm Z h b (.int (0 : Int32))) ∧ (Exa Z h a2 "[B") ∧ (Arv Z h a2 k2 .byte z2 xs2 (.int (0 : Int32))) ∧ (BwA (cs ++ ds) cap cb2 z2 xs2) ∧ (@Eq Nat a2 a ∨ Lq h0.size a2) ∧ (CbR cb cd cb2)
theorem ef_psaG (m : MethodId) (x0 : Addr) (x1 : Int32) (x2 : Addr) : entryFrame m #[(.ref x0), (.int x1), (.ref x2)] 3 = mkF m 0 #[sR x0, sI x1, sR x2] [] := by first | (simp [entryFrame, mkF, argsToLocals, Value.category]; done) | rfl
abbrev K14 (i : Nat) := decode jdk_68_method_73_code i
theorem d14_0 : K14 0 = .ok (.aload_n 0, 1) := by decide +kernel
theorem d14_1 : K14 1 = .ok (.aload_n 2, 1) := by decide +kernel
theorem d14_2 : K14 2 = .ok (.invokevirtual 397, 3) := by decide +kernel
theorem pd_22 : parseMethodDescriptor "(Ljava/lang/String;)V" = some ⟨[(.object "java/lang/String")], none⟩ := by decide +kernel
theorem d14_5 : K14 5 = .ok (.aload_n 2, 1) := by decide +kernel
theorem d14_6 : K14 6 = .ok (.aload_n 0, 1) := by decide +kernel
theorem d14_7 : K14 7 = .ok (.getfield 15, 3) := by decide +kernel
theorem d14_10 : K14 10 = .ok (.iload_n 1, 1) := by decide +kernel
theorem d14_11 : K14 11 = .ok (.aload_n 0, 1) := by decide +kernel
theorem d14_12 : K14 12 = .ok (.getfield 22, 3) := by decide +kernel
theorem d14_15 : K14 15 = .ok (.invokevirtual 399, 3) := by decide +kernel
theorem pd_23 : parseMethodDescriptor "([BIB)V" = some ⟨[(.array .byte), .int, .byte], none⟩ := by decide +kernel
theorem d14_18 : K14 18 = .ok (.return_, 1) := by decide +kernel
set_option maxRecDepth 65536 in
set_option maxHeartbeats 40000000 in
theorem psaG (l : Launch) (Z : State) (a0 : Array Value) (hw : ∀ d ∈ tables_1, d.before a0 Z = true) (ws : List Jvm.Cond) (b : Addr) (a : Addr) (ka : ClassId) (cap : Nat) (cs : List Int32) (cb : Int32) (z : Int32) (xs : List Value) (x : Addr) (t : Addr) (kb : ClassId) (cd : Int32) (N : Int32) (vs : List Value) (ds : List Int32) (G1 : Int32) (G3 : Value) (h0 : Heap) (n0 : Nat) (Z0 : n0 ≤ h0.size) (q0 : SCs Z G1) (P5 : ¬ (G1 = (0 : Int32))) (q2 : OZ Z h0 n0) (q3 : SFm Z G3) (rG3 : G3.isRef = true) (q5 : SAd Z) (q6 : SHi Z) (q7 : SLo Z) (q8 : XBu Z h0 b) (q9 : FBv Z h0 b (.ref a)) (q10 : FBc Z h0 b (.int cb)) (q11 : FBn Z h0 b (.int (Int32.ofNat cs.length))) (q12 : FBm Z h0 b (.int (0 : Int32))) (q13 : Exa Z h0 a "[B") (q14 : Arv Z h0 a ka .byte z xs (.int (0 : Int32))) (bw : BwA cs cap cb z xs) (q16 : Lq n0 a) (q17 : Lq n0 b) (q18 : Nq a b) (hcap : cap ≤ 18) (q20 : XSt Z h0 x) (q21 : FSv Z h0 x (.ref t)) (q22 : FSc Z h0 x (.int cd)) (q23 : Arv Z h0 t kb .byte N vs (.int (0 : Int32))) (cod_x : StrChars.Road.CodA ds cd N vs) (hb_x : ∀ c ∈ ds, Wid c) (q26 : Nq a x) (q27 : Nq a t) (q28 : Nq b x) (q29 : Nq b t) (hfit : cs.length + ds.length ≤ cap) :
  MetFree l y_37 (head1 (Jvm.Cond.code y_37 jdk_68_method_73_code 3 none :: ws) r_m22) (fun a_ U_ => a_ = #[(.ref b), (.int (Int32.ofNat cs.length)), (.ref x)] ∧ Z.Warmed39 U_.vm ∧ U_.heap = h0) (fun _ _ _ _ _ => True) (fun _ U_ o_ V_ => ∃ v_ L_, o_ = .returned v_ ∧ QpsaG Z b a ka cap cs cb z xs x t kb cd N vs ds G1 G3 h0 n0 v_ V_.heap L_ ∧ FrameEnd U_ o_ V_ L_ r_m22.cells r_m22.slots) := by
 refine MetFree.of_bodySF (plainFor_of_name pn_2) hisR ?_
 intro p e s m args below meth c s₁ Bd aX hP hK
 obtain ⟨rfl, hZ, hh⟩ := hP
 have hx := Bd.exec
 have dc := @hb _ _ Bd.bytes
 have hml : c.maxLocals = 3 := aX
 have hown : s.vm.findClass "java/lang/AbstractStringBuilder" = some m.cls := findClass_of_methodNamed Bd.named
 have hnm := (name_of_methodNamed Bd.named Bd.method).1
 have X0 : Stand p l e r_m22 s m #[(.ref b), (.int (Int32.ofNat cs.length)), (.ref x)] below meth c s₁ [] 0 0 := Stand.of_body Bd
 have e0 : s₁.heap = h0 := by rw [← hh, Bd.state]; rfl
 have N0 := Fr.nil n0
 have Oo := q2.1
 have zo := q2.2
 have bf := own_alt q8.lt
 have bg := own_alt q9.lt
 have bh := own_alt q10.lt
 have bj := own_alt q11.lt
 have bl := own_alt q12.lt
 have bm := own_alt q13.lt
 have bn := own_alt q14.lt
 have bo := own_alt q20.lt
 have bp := own_alt q21.lt
 have bq := own_alt q22.lt
 have br := own_alt q23.lt
 refine Gl.go (A := s₁.setTop (entryFrame m #[(.ref b), (.int (Int32.ofNat cs.length)), (.ref x)] 3)) (P := fun o_ U_ => ∃ v_ L_, o_ = .returned v_ ∧ QpsaG Z b a ka cap cs cb z xs x t kb cd N vs ds G1 G3 h0 n0 v_ U_.heap L_ ∧ FrameEnd s o_ U_ L_ r_m22.cells r_m22.slots) (fun t_ k_ => castTop (ef_psaG m b (Int32.ofNat cs.length) x) k_) ?_
 show Gl p.tables e below _ (s₁.setTop (mkF m 0 #[sR b, sI (Int32.ofNat cs.length), sR x] []))
 refine Gl.go (fun _ hr => zaloadN X0.here hx (dc d14_0) rfl rfl (zaloadN X0.here hx (dc d14_1) rfl rfl hr)) ?_
 have a8 : n0 ≤ h0.size := by omega
 refine gPrivN Gl.cl (y := y_35) (b := b) (argsL := [(.ref x)]) (rest := []) (mc := 1) (ms := 36) X0 hx hZ hown (mvT hZ (tw hw 90 rfl)) (mvT hZ (tw hw 91 rfl)) (mvT hZ (tw hw 93 rfl)) (mvP hZ (tw hw 92 rfl)) (mvT hZ (tw hw 94 rfl)) (by decide) q8 (backOf (W := 0) (infG l Z a0 hw [] b a ka cap cs cb z xs x cd G1 G3 h0 n0 a8 q0 (by assumption) ⟨Oo, (by omega)⟩ q3 (by assumption) q5 q6 q7 q8 q9 q10 q11 q12 q13 q14 (by assumption) (by omega) (by omega) (by omega) (by assumption) (by omega) q20 q22 (own_c01 cod_x) (by omega)) hZ (tw hw 94 rfl) (tw hw 44 rfl) (by decide) (by decide)) rfl (by rw [hml]; rfl) (lenOf pd_22 rfl) rfl (by exact Nat.le_of_eq rfl) (dc d14_2) rfl e0 (by decide) (by decide) ?_
 intro bD ac ba aV ag
 obtain ⟨ae, az, ai, a6, a3, rfl, aL, ab, aq, aj, ak, ar, au, av, aw, aS, aT, ax⟩ := aV
 have bF : h0.size ≤ ac.heap.size := ab.1
 have aJ := Fr.app N0 aL
 have bs := own_alt aq.lt
 have bt := own_alt aj.lt
 have bu := own_alt ak.lt
 have bv := own_alt ar.lt
 have bz := own_alt au.lt
 have bA := own_alt av.lt
 have bB := own_alt aw.lt
 have ap := aT
 refine Gl.go (fun _ hr => zaloadN ag.here hx (dc d14_5) rfl rfl (zaloadN ag.here hx (dc d14_6) rfl rfl hr)) ?_
 refine gGetF (host := "") Gl.cl ag hx hZ hown (Or.inl (tw hw 62 rfl)) Via.refl (rfl : ac.heap = ac.heap) aj rfl rfl (dc d14_7) ?_
 intro bc ah aQ
 refine Gl.go (fun _ hr => ziloadN ah.here hx (dc d14_10) rfl (zaloadN ah.here hx (dc d14_11) rfl rfl hr)) ?_
 refine gGetF (host := "") Gl.cl ah hx hZ hown (Or.inl (tw hw 60 rfl)) Via.refl aQ ak rfl rfl (dc d14_12) ?_
 intro be aP aR
 have aY : Lq Z.heap.size b := by omega
 have aN := (Oo.keep ab (allS (own_ale aY) all0))
 have al := (q20.keep ab)
 have aA : Nq x b := by omega
 have aD := (q21.keep ab (ninS (own_ane aA) nin0))
 have aE := (q22.keep ab (ninS (own_ane aA) nin0))
 have aZ : Nq t b := by omega
 have aO := (q23.keep ab (ninS (own_ane aZ) nin0))
 have a9 : n0 ≤ ac.heap.size := by omega
 refine gVirtualN Gl.cl (y := y_36) (z := y_36) (b := x) (argsL := [(.ref ae), (.int (Int32.ofNat cs.length)), (.int ai)]) (rest := []) (mc := 0) (ms := 0) aP hx hZ hown (mvT hZ (tw hw 96 rfl)) (mvT hZ (tw hw 97 rfl)) (notFace_of_selects (args := #[]) (mvT hZ (tw hw 99 rfl))) (mvT hZ (tw hw 99 rfl)) (mvT hZ (tw hw 98 rfl)) (by decide) al (backOf (W := 0) (gbG l Z a0 hw [] x t kb cd N vs ds ae az cap cs ai a6 a3 G1 G3 ac.heap n0 a9 q0 (by assumption) ⟨aN, (by omega)⟩ q3 (by assumption) q5 q6 q7 al aD aE aO cod_x hb_x aw aS ax.le (by omega) (by omega) (by omega) (by assumption) (by assumption)) hZ (tw hw 100 rfl) (tw hw 7 rfl) (by decide) (by decide)) rfl (by rw [hml]; rfl) (lenOf pd_23 rfl) rfl (by exact Nat.le_of_eq rfl) (dc d14_15) rfl aR (by decide) (by decide) ?_
 intro bE am bb aW ao
 obtain ⟨a7, a5, rfl, aM, aa, ay, aU⟩ := aW
 have bG : ac.heap.size ≤ am.heap.size := aa.1
 have aK := Fr.app aJ aM
 have bC := own_alt ay.lt
 have aB := (aq.keep aa)
 have af : Nq b ae := by omega
 have aF := (aj.keep aa (ninS (own_ane af) nin0))
 have aG := (ak.keep aa (ninS (own_ane af) nin0))
 have aH := (ar.keep aa (ninS (own_ane af) nin0))
 have aI := (au.keep aa (ninS (own_ane af) nin0))
 have aC := (av.keep aa)
 obtain ⟨fs, hr, hrun, hended, hW, hsame⟩ := ao.leave (v := none) (fun _ => rfl)
 refine ⟨_, _, ao.returnOut hx Bd.returns (dc d14_18) hr, hrun, hended, _, _, rfl, ?_, ⟨⟨_, rfl⟩, hW, hsame.mono (by decide) (by decide)⟩⟩
 show QpsaG Z b a ka cap cs cb z xs x t kb cd N vs ds G1 G3 h0 n0 _ am.heap _
 exact ⟨ae, az, ai, a7, a5, rfl, aK, (((Keep.refl h0 [b, a]).trans ab (allS (P := fun x_ => x_ ∈ ([b, a] : List Addr) ∨ h0.size ≤ x_) (Or.inl (by simp)) all0)).trans aa (allS (P := fun x_ => x_ ∈ ([b, a] : List Addr) ∨ h0.size ≤ x_) (own_ad ap) all0)), aB, aF, aG, aH, aI, aC, ay, aU, ap, ax⟩
def QapsG (Z : State) (b : Addr) (a : Addr) (ka : ClassId) (cap : Nat) (cs : List Int32) (cb : Int32) (z : Int32) (xs : List Value) (x : Addr) (t : Addr) (kb : ClassId) (cd : Int32) (N : Int32) (vs : List Value) (ds : List Int32) (G1 : Int32) (G3 : Value) (h0 : Heap) (n0 : Nat) (v : Option Value) (h : Heap) (L : List Loc) : Prop := ∃ (a2 : Addr), ∃ (k2 : ClassId), ∃ (cb2 : Int32), ∃ (z2 : Int32), ∃ (xs2 : List Value), v = some (.ref b) ∧ Fr n0 L ∧ Keep h0 h [b, a] ∧ (XBu Z h b) ∧ (FBv Z h b (.ref a2)) ∧ (FBc Z h b (.int cb2)) ∧ (FBn Z h b (.int (Int32.ofNat (cs ++ ds).length))) ∧ (FBm Z h b (.int (0 : Int32))) ∧ (Exa Z h a2 "[B") ∧ (Arv Z h a2 k2 .byte z2 xs2 (.int (0 : Int32))) ∧ (BdA (cs ++ ds) cap cb2 z2 xs2) ∧ (@Eq Nat a2 a ∨ Lq h0.size a2)
theorem ef_apsG (m : MethodId) (x0 : Addr) (x1 : Addr) : entryFrame m #[(.ref x0), (.ref x1)] 3 = mkF m 0 #[sR x0, sR x1, sU] [] := by first | (simp [entryFrame, mkF, argsToLocals, Value.category]; done) | rfl
abbrev K12 (i : Nat) := decode jdk_68_method_22_code i
theorem d12_0 : K12 0 = .ok (.aload_n 1, 1) := by decide +kernel
theorem d12_1 : K12 1 = .ok (.ifnonnull 8, 3) := by decide +kernel
theorem d12_9 : K12 9 = .ok (.aload_n 1, 1) := by decide +kernel
theorem d12_10 : K12 10 = .ok (.invokevirtual 32, 3) := by decide +kernel
theorem d12_13 : K12 13 = .ok (.istore_n 2, 1) := by decide +kernel
theorem d12_14 : K12 14 = .ok (.aload_n 0, 1) := by decide +kernel
theorem d12_15 : K12 15 = .ok (.aload_n 0, 1) := by decide +kernel
theorem d12_16 : K12 16 = .ok (.getfield 79, 3) := by decide +kernel
theorem d12_19 : K12 19 = .ok (.iload_n 2, 1) := by decide +kernel
theorem d12_20 : K12 20 = .ok (.iadd, 1) := by decide +kernel
theorem d12_21 : K12 21 = .ok (.invokevirtual 100, 3) := by decide +kernel
theorem pd_24 : parseMethodDescriptor "(I)V" = some ⟨[.int], none⟩ := by decide +kernel
theorem d12_24 : K12 24 = .ok (.aload_n 0, 1) := by decide +kernel
theorem d12_25 : K12 25 = .ok (.aload_n 0, 1) := by decide +kernel
theorem d12_26 : K12 26 = .ok (.getfield 79, 3) := by decide +kernel
theorem d12_29 : K12 29 = .ok (.aload_n 1, 1) := by decide +kernel
theorem d12_30 : K12 30 = .ok (.invokevirtual 208, 3) := by decide +kernel
theorem pd_25 : parseMethodDescriptor "(ILjava/lang/String;)V" = some ⟨[.int, (.object "java/lang/String")], none⟩ := by decide +kernel
theorem d12_33 : K12 33 = .ok (.aload_n 0, 1) := by decide +kernel
theorem d12_34 : K12 34 = .ok (.dup, 1) := by decide +kernel
theorem d12_35 : K12 35 = .ok (.getfield 79, 3) := by decide +kernel
theorem d12_38 : K12 38 = .ok (.iload_n 2, 1) := by decide +kernel
theorem d12_39 : K12 39 = .ok (.iadd, 1) := by decide +kernel
theorem d12_40 : K12 40 = .ok (.putfield 79, 3) := by decide +kernel
theorem d12_43 : K12 43 = .ok (.aload_n 0, 1) := by decide +kernel
theorem d12_44 : K12 44 = .ok (.areturn, 1) := by decide +kernel
set_option maxRecDepth 65536 in
set_option maxHeartbeats 40000000 in
theorem apsG (l : Launch) (Z : State) (a0 : Array Value) (hw : ∀ d ∈ tables_1, d.before a0 Z = true) (ws : List Jvm.Cond) (b : Addr) (a : Addr) (ka : ClassId) (cap : Nat) (cs : List Int32) (cb : Int32) (z : Int32) (xs : List Value) (x : Addr) (t : Addr) (kb : ClassId) (cd : Int32) (N : Int32) (vs : List Value) (ds : List Int32) (G1 : Int32) (G3 : Value) (h0 : Heap) (n0 : Nat) (Z0 : n0 ≤ h0.size) (q0 : SCs Z G1) (P5 : ¬ (G1 = (0 : Int32))) (q2 : OZ Z h0 n0) (q3 : SFm Z G3) (rG3 : G3.isRef = true) (q5 : SAd Z) (q6 : SHi Z) (q7 : SLo Z) (q8 : XBu Z h0 b) (q9 : FBv Z h0 b (.ref a)) (q10 : FBc Z h0 b (.int cb)) (q11 : FBn Z h0 b (.int (Int32.ofNat cs.length))) (q12 : FBm Z h0 b (.int (0 : Int32))) (q13 : Exa Z h0 a "[B") (q14 : Arv Z h0 a ka .byte z xs (.int (0 : Int32))) (bw : BwA cs cap cb z xs) (q16 : Lq n0 a) (q17 : Lq n0 b) (q18 : Nq a b) (hcap : cap ≤ 18) (q20 : XSt Z h0 x) (q21 : FSv Z h0 x (.ref t)) (q22 : FSc Z h0 x (.int cd)) (q23 : Arv Z h0 t kb .byte N vs (.int (0 : Int32))) (cod_x : StrChars.Road.CodA ds cd N vs) (hb_x : ∀ c ∈ ds, Wid c) (q26 : Nq a x) (q27 : Nq a t) (q28 : Nq b x) (q29 : Nq b t) (hfit : cs.length + ds.length ≤ cap) (bx : cb = 1 → (∃ c ∈ cs, (255 : Int32) < c) ∨ cd = 1) :
  MetFree l y_38 (head1 (Jvm.Cond.code y_38 jdk_68_method_22_code 3 (some (.object "java/lang/AbstractStringBuilder")) :: ws) r_m23) (fun a_ U_ => a_ = #[(.ref b), (.ref x)] ∧ Z.Warmed39 U_.vm ∧ U_.heap = h0) (fun _ _ _ _ _ => True) (fun _ U_ o_ V_ => ∃ v_ L_, o_ = .returned v_ ∧ QapsG Z b a ka cap cs cb z xs x t kb cd N vs ds G1 G3 h0 n0 v_ V_.heap L_ ∧ FrameEnd U_ o_ V_ L_ r_m23.cells r_m23.slots) := by
 refine MetFree.of_bodySF (plainFor_of_name pn_2) hisR ?_
 intro p e s m args below meth c s₁ Bd a6 hP hK
 obtain ⟨rfl, hZ, hh⟩ := hP
 have hx := Bd.exec
 have dc := @hb _ _ Bd.bytes
 have hml : c.maxLocals = 3 := a6
 have hown : s.vm.findClass "java/lang/AbstractStringBuilder" = some m.cls := findClass_of_methodNamed Bd.named
 have hnm := (name_of_methodNamed Bd.named Bd.method).1
 have X0 : Stand p l e r_m23 s m #[(.ref b), (.ref x)] below meth c s₁ [] 0 0 := Stand.of_body Bd
 have e0 : s₁.heap = h0 := by rw [← hh, Bd.state]; rfl
 have N0 := Fr.nil n0
 have Oo := q2.1
 have zo := q2.2
 have bo := own_alt q8.lt
 have bp := own_alt q9.lt
 have bq := own_alt q10.lt
 have br := own_alt q11.lt
 have bs := own_alt q12.lt
 have bt := own_alt q13.lt
 have bu := own_alt q14.lt
 have bv := own_alt q20.lt
 have bz := own_alt q21.lt
 have bA := own_alt q22.lt
 have bB := own_alt q23.lt
 refine Gl.go (A := s₁.setTop (entryFrame m #[(.ref b), (.ref x)] 3)) (P := fun o_ U_ => ∃ v_ L_, o_ = .returned v_ ∧ QapsG Z b a ka cap cs cb z xs x t kb cd N vs ds G1 G3 h0 n0 v_ U_.heap L_ ∧ FrameEnd s o_ U_ L_ r_m23.cells r_m23.slots) (fun t_ k_ => castTop (ef_apsG m b x) k_) ?_
 show Gl p.tables e below _ (s₁.setTop (mkF m 0 #[sR b, sR x, sU] []))
 refine Gl.go (fun _ hr => zaloadN X0.here hx (dc d12_0) rfl rfl (zifnonnullYes X0.here hx (pc0 := 1) (pc' := 9) rfl (dc d12_1) rfl (by decide) (by decide) (zaloadN X0.here hx (dc d12_9) rfl rfl hr))) ?_
 have bc : n0 ≤ h0.size := by omega
 refine gVirtualN Gl.cl (y := y_12) (z := y_12) (b := x) (argsL := []) (rest := []) (mc := 0) (ms := 0) X0 hx hZ hown (mvT hZ (tw hw 47 rfl)) (mvT hZ (tw hw 48 rfl)) (notFace_of_selects (args := #[]) (mvT hZ (tw hw 50 rfl))) (mvT hZ (tw hw 50 rfl)) (mvT hZ (tw hw 49 rfl)) (by decide) q20 (backOf (W := 0) (slG l Z a0 hw [] x t kb cd N vs ds G1 h0 n0 bc q0 (by assumption) ⟨Oo, (by omega)⟩ q20 q21 q22 q23 cod_x hb_x (by omega)) hZ (tw hw 51 rfl) (tw hw 7 rfl) (by decide) (by decide)) rfl (by rw [hml]; rfl) (lenOf pd_15 rfl) rfl (by exact Nat.le_of_eq rfl) (dc d12_10) rfl e0 (by decide) (by decide) ?_
 intro bJ bl bg aZ ac
 obtain ⟨rfl, aI, aP⟩ := aZ
 have aE := Fr.app N0 aI
 refine Gl.go (fun _ hr => zistoreN ac.here hx (dc d12_13) rfl (l' := #[sR b, sR x, sI (Int32.ofNat ds.length)]) rfl (zaloadN ac.here hx (dc d12_14) rfl rfl (zaloadN ac.here hx (dc d12_15) rfl rfl hr))) ?_
 refine gGetF (host := "") Gl.cl ac hx hZ hown (Or.inl (tw hw 78 rfl)) Via.refl aP q11 rfl rfl (dc d12_16) ?_
 intro am ag aQ
 refine Gl.go (fun _ hr => ziloadN ag.here hx (dc d12_19) rfl (ziadd ag.here hx (dc d12_20) rfl hr)) ?_
 show Gl p.tables e below _ (am.setTop (mkF m 21 #[sR b, sR x, sI (Int32.ofNat ds.length)] [(.int ((Int32.ofNat cs.length) + (Int32.ofNat ds.length))), (.ref b)]))
 rw [own_add32]
 show Gl p.tables e below _ (am.setTop (mkF m 21 #[sR b, sR x, sI (Int32.ofNat ds.length)] [(.int (Int32.ofNat (cs.length + ds.length))), (.ref b)]))
 have be : n0 ≤ h0.size := by omega
 refine gPrivN Gl.cl (y := y_13) (b := b) (argsL := [(.int (Int32.ofNat (cs.length + ds.length)))]) (rest := []) (mc := 0) (ms := 0) ag hx hZ hown (mvT hZ (tw hw 80 rfl)) (mvT hZ (tw hw 81 rfl)) (mvT hZ (tw hw 83 rfl)) (mvP hZ (tw hw 82 rfl)) (mvT hZ (tw hw 84 rfl)) (by decide) q8 (backOf (W := 0) (ensG l Z a0 hw [] b a ka cap cs cb z xs (cs.length + ds.length) h0 n0 be q9 q10 q14 bw hfit (by assumption)) hZ (tw hw 84 rfl) (tw hw 44 rfl) (by decide) (by decide)) rfl (by rw [hml]; rfl) (lenOf pd_24 rfl) rfl (by exact Nat.le_of_eq rfl) (dc d12_21) rfl aQ (by decide) (by decide) ?_
 intro bK bm bh a3 ah
 obtain ⟨rfl, aJ, aR⟩ := a3
 have aF := Fr.app aE aJ
 refine Gl.go (fun _ hr => zaloadN ah.here hx (dc d12_24) rfl rfl (zaloadN ah.here hx (dc d12_25) rfl rfl hr)) ?_
 refine gGetF (host := "") Gl.cl ah hx hZ hown (Or.inl (tw hw 78 rfl)) Via.refl aR q11 rfl rfl (dc d12_26) ?_
 intro bn ap aS
 refine Gl.go (fun _ hr => zaloadN ap.here hx (dc d12_29) rfl rfl hr) ?_
 have bf : n0 ≤ h0.size := by omega
 refine gPrivN Gl.cl (y := y_37) (b := b) (argsL := [(.int (Int32.ofNat cs.length)), (.ref x)]) (rest := []) (mc := 1) (ms := 36) ap hx hZ hown (mvT hZ (tw hw 85 rfl)) (mvT hZ (tw hw 86 rfl)) (mvT hZ (tw hw 88 rfl)) (mvP hZ (tw hw 87 rfl)) (mvT hZ (tw hw 89 rfl)) (by decide) q8 (backOf (W := 0) (psaG l Z a0 hw [] b a ka cap cs cb z xs x t kb cd N vs ds G1 G3 h0 n0 bf q0 (by assumption) ⟨Oo, (by omega)⟩ q3 (by assumption) q5 q6 q7 q8 q9 q10 q11 q12 q13 q14 (by assumption) (by omega) (by omega) (by omega) (by assumption) q20 q21 q22 q23 (by assumption) (by assumption) (by omega) (by omega) (by omega) (by omega) (by assumption)) hZ (tw hw 89 rfl) (tw hw 44 rfl) (by decide) (by decide)) rfl (by rw [hml]; rfl) (lenOf pd_25 rfl) rfl (by exact Nat.le_of_eq rfl) (dc d12_30) rfl aS (by decide) (by decide) ?_
 intro bL ab bj a5 ai
 obtain ⟨aq, a7, aO, bb, ba, rfl, aK, al, ak, ar, au, af, av, aw, ax, aV, aW, aX⟩ := a5
 have bM : h0.size ≤ ab.heap.size := al.1
 have aG := Fr.app aF aK
 have bC := own_alt ak.lt
 have bD := own_alt ar.lt
 have bE := own_alt au.lt
 have bF := own_alt af.lt
 have bG := own_alt av.lt
 have bH := own_alt aw.lt
 have bI := own_alt ax.lt
 have aN := aW
 refine Gl.go (fun _ hr => zaloadN ai.here hx (dc d12_33) rfl rfl (zdup ai.here hx (dc d12_34) rfl rfl hr)) ?_
 refine gGetF (host := "") Gl.cl ai hx hZ hown (Or.inl (tw hw 78 rfl)) Via.refl (rfl : ab.heap = ab.heap) af rfl rfl (dc d12_35) ?_
 intro ao aj aT
 refine Gl.go (fun _ hr => ziloadN aj.here hx (dc d12_38) rfl (ziadd aj.here hx (dc d12_39) rfl hr)) ?_
 show Gl p.tables e below _ (ao.setTop (mkF m 40 #[sR b, sR x, sI (Int32.ofNat ds.length)] [(.int ((Int32.ofNat cs.length) + (Int32.ofNat ds.length))), (.ref b)]))
 rw [(show Int32.ofNat cs.length + Int32.ofNat ds.length = Int32.ofNat (cs ++ ds).length from by rw [own_add32, List.length_append])]
 show Gl p.tables e below _ (ao.setTop (mkF m 40 #[sR b, sR x, sI (Int32.ofNat ds.length)] [(.int (Int32.ofNat (cs ++ ds).length)), (.ref b)]))
 refine gPutF (host := "") Gl.cl aj hx hZ hown (Or.inl (tw hw 78 rfl)) Via.refl aT af ak (Or.inl (tw hw 79 rfl)) (tw hw 35 rfl) (ty := .int) (by decide) rfl rfl rfl rfl (dc d12_40) ?_
 intro aL aY ae aU aa
 have bN : ab.heap.size ≤ aY.size := (Keep.of_wr aa).1
 have aD := af.same aa
 have a8 : Lq n0 b := by omega
 have aH := Fr.snoc ae aG (own_ale a8)
 refine Gl.go (fun _ hr => zaloadN ae.here hx (dc d12_43) rfl rfl hr) ?_
 have ay := (ak.wr aa)
 have aA := (ar.other aa (Or.inr (slot_ne (Or.inl (tw hw 63 rfl)) (Or.inl (tw hw 79 rfl)) (by decide) (t := (.array .byte)) (t' := .int) (by decide) (by decide))))
 have aB := (au.other aa (Or.inr (slot_ne (Or.inl (tw hw 61 rfl)) (Or.inl (tw hw 79 rfl)) (by decide) (t := .byte) (t' := .int) (by decide) (by decide))))
 have aC := (av.other aa (Or.inr (slot_ne (Or.inl (tw hw 283 rfl)) (Or.inl (tw hw 79 rfl)) (by decide) (t := .boolean) (t' := .int) (by decide) (by decide))))
 have az := (aw.wr aa)
 have a9 : Nq aq b := by omega
 have aM := (ax.other aa (own_ane a9))
 obtain ⟨fs, hr, hrun, hended, hW, hsame⟩ := ae.leave (v := some (.ref b)) (fun h => by rw [Bd.returns] at h; cases h)
 refine ⟨_, _, retOut ae hx Bd.returns rfl (Or.inr (Or.inr (Or.inr (Or.inr ⟨rfl, rfl, rfl⟩)))) (dc d12_44) hr, hrun, hended, _, _, rfl, ?_, ⟨⟨_, rfl⟩, hW, hsame.mono (by decide) (by decide)⟩⟩
 show QapsG Z b a ka cap cs cb z xs x t kb cd N vs ds G1 G3 h0 n0 _ aL.heap _
 rw [aU]
 exact ⟨aq, a7, aO, bb, ba, rfl, aH, (((Keep.refl h0 [b, a]).trans al (allS (P := fun x_ => x_ ∈ ([b, a] : List Addr) ∨ h0.size ≤ x_) (Or.inl (by simp)) (allS (P := fun x_ => x_ ∈ ([b, a] : List Addr) ∨ h0.size ≤ x_) (Or.inl (by simp)) all0))).wr aa (Or.inl (by simp))), ay, aA, aB, aD, aC, az, aM, (BdA.app bx cod_x aV aX), aN⟩
def QsbG (Z : State) (b : Addr) (a : Addr) (ka : ClassId) (cap : Nat) (cs : List Int32) (cb : Int32) (z : Int32) (xs : List Value) (x : Addr) (t : Addr) (kb : ClassId) (cd : Int32) (N : Int32) (vs : List Value) (ds : List Int32) (G1 : Int32) (G3 : Value) (h0 : Heap) (n0 : Nat) (v : Option Value) (h : Heap) (L : List Loc) : Prop := ∃ (a2 : Addr), ∃ (k2 : ClassId), ∃ (cb2 : Int32), ∃ (z2 : Int32), ∃ (xs2 : List Value), v = some (.ref b) ∧ Fr n0 L ∧ Keep h0 h [b, a] ∧ (XBu Z h b) ∧ (FBv Z h b (.ref a2)) ∧ (FBc Z h b (.int cb2)) ∧ (FBn Z h b (.int (Int32.ofNat (cs ++ ds).length))) ∧ (FBm Z h b (.int (0 : Int32))) ∧ (Exa Z h a2 "[B") ∧ (Arv Z h a2 k2 .byte z2 xs2 (.int (0 : Int32))) ∧ (BdA (cs ++ ds) cap cb2 z2 xs2) ∧ (@Eq Nat a2 a ∨ Lq h0.size a2)
theorem ef_sbG (m : MethodId) (x0 : Addr) (x1 : Addr) : entryFrame m #[(.ref x0), (.ref x1)] 2 = mkF m 0 #[sR x0, sR x1] [] := by first | (simp [entryFrame, mkF, argsToLocals, Value.category]; done) | rfl
abbrev K11 (i : Nat) := decode jdk_67_method_7_code i
theorem d11_0 : K11 0 = .ok (.aload_n 0, 1) := by decide +kernel
theorem d11_1 : K11 1 = .ok (.aload_n 1, 1) := by decide +kernel
theorem d11_2 : K11 2 = .ok (.invokespecial 29, 3) := by decide +kernel
theorem pd_26 : parseMethodDescriptor "(Ljava/lang/String;)Ljava/lang/AbstractStringBuilder;" = some ⟨[(.object "java/lang/String")], some (.object "java/lang/AbstractStringBuilder")⟩ := by decide +kernel
theorem d11_5 : K11 5 = .ok (.pop, 1) := by decide +kernel
theorem d11_6 : K11 6 = .ok (.aload_n 0, 1) := by decide +kernel
theorem d11_7 : K11 7 = .ok (.areturn, 1) := by decide +kernel
set_option maxRecDepth 65536 in
set_option maxHeartbeats 40000000 in
theorem sbG (l : Launch) (Z : State) (a0 : Array Value) (hw : ∀ d ∈ tables_1, d.before a0 Z = true) (ws : List Jvm.Cond) (b : Addr) (a : Addr) (ka : ClassId) (cap : Nat) (cs : List Int32) (cb : Int32) (z : Int32) (xs : List Value) (x : Addr) (t : Addr) (kb : ClassId) (cd : Int32) (N : Int32) (vs : List Value) (ds : List Int32) (G1 : Int32) (G3 : Value) (h0 : Heap) (n0 : Nat) (Z0 : n0 ≤ h0.size) (q0 : SCs Z G1) (P5 : ¬ (G1 = (0 : Int32))) (q2 : OZ Z h0 n0) (q3 : SFm Z G3) (rG3 : G3.isRef = true) (q5 : SAd Z) (q6 : SHi Z) (q7 : SLo Z) (q8 : XBu Z h0 b) (q9 : FBv Z h0 b (.ref a)) (q10 : FBc Z h0 b (.int cb)) (q11 : FBn Z h0 b (.int (Int32.ofNat cs.length))) (q12 : FBm Z h0 b (.int (0 : Int32))) (q13 : Exa Z h0 a "[B") (q14 : Arv Z h0 a ka .byte z xs (.int (0 : Int32))) (bw : BwA cs cap cb z xs) (q16 : Lq n0 a) (q17 : Lq n0 b) (q18 : Nq a b) (hcap : cap ≤ 18) (q20 : XSt Z h0 x) (q21 : FSv Z h0 x (.ref t)) (q22 : FSc Z h0 x (.int cd)) (q23 : Arv Z h0 t kb .byte N vs (.int (0 : Int32))) (cod_x : StrChars.Road.CodA ds cd N vs) (hb_x : ∀ c ∈ ds, Wid c) (q26 : Nq a x) (q27 : Nq a t) (q28 : Nq b x) (q29 : Nq b t) (hfit : cs.length + ds.length ≤ cap) (bx : cb = 1 → (∃ c ∈ cs, (255 : Int32) < c) ∨ cd = 1) :
  MetFree l y_39 (head1 (Jvm.Cond.code y_39 jdk_67_method_7_code 2 (some (.object "java/lang/StringBuilder")) :: ws) r_m24) (fun a_ U_ => a_ = #[(.ref b), (.ref x)] ∧ Z.Warmed39 U_.vm ∧ U_.heap = h0) (fun _ _ _ _ _ => True) (fun _ U_ o_ V_ => ∃ v_ L_, o_ = .returned v_ ∧ QsbG Z b a ka cap cs cb z xs x t kb cd N vs ds G1 G3 h0 n0 v_ V_.heap L_ ∧ FrameEnd U_ o_ V_ L_ r_m24.cells r_m24.slots) := by
 refine MetFree.of_bodySF (plainFor_of_name pn_5) hisR ?_
 intro p e s m args below meth c s₁ Bd aw hP hK
 obtain ⟨rfl, hZ, hh⟩ := hP
 have hx := Bd.exec
 have dc := @hb _ _ Bd.bytes
 have hml : c.maxLocals = 2 := aw
 have hown : s.vm.findClass "java/lang/StringBuilder" = some m.cls := findClass_of_methodNamed Bd.named
 have hnm := (name_of_methodNamed Bd.named Bd.method).1
 have X0 : Stand p l e r_m24 s m #[(.ref b), (.ref x)] below meth c s₁ [] 0 0 := Stand.of_body Bd
 have e0 : s₁.heap = h0 := by rw [← hh, Bd.state]; rfl
 have N0 := Fr.nil n0
 have Oo := q2.1
 have zo := q2.2
 have aC := own_alt q8.lt
 have aD := own_alt q9.lt
 have aE := own_alt q10.lt
 have aF := own_alt q11.lt
 have aG := own_alt q12.lt
 have aH := own_alt q13.lt
 have aI := own_alt q14.lt
 have aJ := own_alt q20.lt
 have aK := own_alt q21.lt
 have aL := own_alt q22.lt
 have aM := own_alt q23.lt
 refine Gl.go (A := s₁.setTop (entryFrame m #[(.ref b), (.ref x)] 2)) (P := fun o_ U_ => ∃ v_ L_, o_ = .returned v_ ∧ QsbG Z b a ka cap cs cb z xs x t kb cd N vs ds G1 G3 h0 n0 v_ U_.heap L_ ∧ FrameEnd s o_ U_ L_ r_m24.cells r_m24.slots) (fun t_ k_ => castTop (ef_sbG m b x) k_) ?_
 show Gl p.tables e below _ (s₁.setTop (mkF m 0 #[sR b, sR x] []))
 refine Gl.go (fun _ hr => zaloadN X0.here hx (dc d11_0) rfl rfl (zaloadN X0.here hx (dc d11_1) rfl rfl hr)) ?_
 have aA : n0 ≤ h0.size := by omega
 refine gSuperN Gl.cl (y := y_38) (b := b) (argsL := [(.ref x)]) (rest := []) (mc := 1) (ms := 36) X0 hx hZ hown (tw hw 75 rfl) (own_same (y := y_38) (tw hw 65 rfl) (tw hw 83 rfl) rfl (by decide)) (tw hw 66 rfl) (tw hw 76 rfl) (by decide) (tw hw 77 rfl) (Ins.self q8) (backOf (W := 0) (apsG l Z a0 hw [] b a ka cap cs cb z xs x t kb cd N vs ds G1 G3 h0 n0 aA q0 (by assumption) ⟨Oo, (by omega)⟩ q3 (by assumption) q5 q6 q7 q8 q9 q10 q11 q12 q13 q14 (by assumption) (by omega) (by omega) (by omega) (by assumption) q20 q21 q22 q23 (by assumption) (by assumption) (by omega) (by omega) (by omega) (by omega) (by assumption) (by assumption)) hZ (tw hw 77 rfl) (tw hw 44 rfl) (by decide) (by decide)) rfl (by rw [hml]; rfl) (lenOf pd_26 rfl) rfl (by exact Nat.le_of_eq rfl) (dc d11_2) rfl e0 (by decide) (by decide) ?_
 intro aU ac aB av aa
 obtain ⟨ao, ax, aq, az, ay, rfl, am, ab, ae, af, ag, ah, ai, aj, ak, ar, au⟩ := av
 have aV : h0.size ≤ ac.heap.size := ab.1
 have al := Fr.app N0 am
 have aN := own_alt ae.lt
 have aO := own_alt af.lt
 have aP := own_alt ag.lt
 have aQ := own_alt ah.lt
 have aR := own_alt ai.lt
 have aS := own_alt aj.lt
 have aT := own_alt ak.lt
 have ap := au
 refine Gl.go (fun _ hr => zpop aa.here hx (dc d11_5) rfl rfl (zaloadN aa.here hx (dc d11_6) rfl rfl hr)) ?_
 obtain ⟨fs, hr, hrun, hended, hW, hsame⟩ := aa.leave (v := some (.ref b)) (fun h => by rw [Bd.returns] at h; cases h)
 refine ⟨_, _, retOut aa hx Bd.returns rfl (Or.inr (Or.inr (Or.inr (Or.inr ⟨rfl, rfl, rfl⟩)))) (dc d11_7) hr, hrun, hended, _, _, rfl, ?_, ⟨⟨_, rfl⟩, hW, hsame.mono (by decide) (by decide)⟩⟩
 show QsbG Z b a ka cap cs cb z xs x t kb cd N vs ds G1 G3 h0 n0 _ ac.heap _
 exact ⟨ao, ax, aq, az, ay, rfl, al, ((Keep.refl h0 [b, a]).trans ab (allS (P := fun x_ => x_ ∈ ([b, a] : List Addr) ∨ h0.size ≤ x_) (Or.inl (by simp)) (allS (P := fun x_ => x_ ∈ ([b, a] : List Addr) ∨ h0.size ≤ x_) (Or.inl (by simp)) all0))), ae, af, ag, ah, ai, aj, ak, ar, ap⟩
def QcenL (Z : State) (ch : Int32) (h0 : Heap) (n0 : Nat) (v : Option Value) (h : Heap) (L : List Loc) : Prop := v = some (.int (1 : Int32)) ∧ Fr n0 L ∧ h = h0
theorem ef_cenL (m : MethodId) (x0 : Int32) : entryFrame m #[(.int x0)] 1 = mkF m 0 #[sI x0] [] := by first | (simp [entryFrame, mkF, argsToLocals, Value.category]; done) | rfl
abbrev K21 (i : Nat) := decode jdk_43_method_3_code i
theorem d21_0 : K21 0 = .ok (.iload_n 0, 1) := by decide +kernel
theorem d21_1 : K21 1 = .ok (.sipush 255, 3) := by decide +kernel
theorem d21_4 : K21 4 = .ok (.if_icmp .gt 7, 3) := by decide +kernel
theorem d21_7 : K21 7 = .ok (.iconst 1, 1) := by decide +kernel
theorem d21_8 : K21 8 = .ok (.goto 4, 3) := by decide +kernel
theorem d21_12 : K21 12 = .ok (.ireturn, 1) := by decide +kernel
set_option maxRecDepth 65536 in
set_option maxHeartbeats 40000000 in
theorem cenL (l : Launch) (Z : State) (a0 : Array Value) (hw : ∀ d ∈ tables_1, d.before a0 Z = true) (ws : List Jvm.Cond) (ch : Int32) (h0 : Heap) (n0 : Nat) (Z0 : n0 ≤ h0.size) (hch : Lat ch) :
  MetFree l y_40 (head1 (Jvm.Cond.code y_40 jdk_43_method_3_code 1 (some .boolean) :: ws) r_m0) (fun a_ U_ => a_ = #[(.int ch)] ∧ Z.Warmed39 U_.vm ∧ U_.heap = h0) (fun _ _ _ _ _ => True) (fun _ U_ o_ V_ => ∃ v_ L_, o_ = .returned v_ ∧ QcenL Z ch h0 n0 v_ V_.heap L_ ∧ FrameEnd U_ o_ V_ L_ r_m0.cells r_m0.slots) := by
 refine MetFree.of_bodySF (plainFor_of_name pn_4) hisR ?_
 intro p e s m args below meth c s₁ Bd aa hP hK
 obtain ⟨rfl, hZ, hh⟩ := hP
 have hx := Bd.exec
 have dc := @hb _ _ Bd.bytes
 have hml : c.maxLocals = 1 := aa
 have hown : s.vm.findClass "java/lang/StringLatin1" = some m.cls := findClass_of_methodNamed Bd.named
 have hnm := (name_of_methodNamed Bd.named Bd.method).1
 have X0 : Stand p l e r_m0 s m #[(.int ch)] below meth c s₁ [] 0 0 := Stand.of_body Bd
 have e0 : s₁.heap = h0 := by rw [← hh, Bd.state]; rfl
 have N0 := Fr.nil n0
 refine Gl.go (A := s₁.setTop (entryFrame m #[(.int ch)] 1)) (P := fun o_ U_ => ∃ v_ L_, o_ = .returned v_ ∧ QcenL Z ch h0 n0 v_ U_.heap L_ ∧ FrameEnd s o_ U_ L_ r_m0.cells r_m0.slots) (fun t_ k_ => castTop (ef_cenL m ch) k_) ?_
 show Gl p.tables e below _ (s₁.setTop (mkF m 0 #[sI ch] []))
 refine Gl.go (fun _ hr => ziloadN X0.here hx (dc d21_0) rfl (zsipush X0.here hx (dc d21_1) hr)) ?_
 refine Gl.go (fun _ hr => zicmpNo X0.here hx (dc d21_4) rfl (XT.ii_gt_f hch.2) (ziconst X0.here hx (dc d21_7) (zgoto X0.here hx (pc0 := 8) (pc' := 12) rfl (dc d21_8) (by decide) (by decide) hr))) ?_
 obtain ⟨fs, hr, hrun, hended, hW, hsame⟩ := X0.leave (v := some (.int (1 : Int32))) (fun h => by rw [Bd.returns] at h; cases h)
 refine ⟨_, _, retN X0 hx (t := .boolean) Bd.returns (by simp) (dc d21_12) hr, hrun, hended, _, _, rfl, ?_, ⟨⟨_, rfl⟩, hW, hsame.mono (by decide) (by decide)⟩⟩
 show QcenL Z ch h0 n0 _ s₁.heap _
 rw [e0]
 exact ⟨rfl, N0, rfl⟩
def QucG (Z : State) (i : Nat) (a : Addr) (ka : ClassId) (n2 : Nat) (vs : List Value) (G3 : Value) (h0 : Heap) (n0 : Nat) (v : Option Value) (h : Heap) (L : List Loc) : Prop := v = none ∧ Fr n0 L ∧ h = h0
theorem ef_ucG (m : MethodId) (x0 : Int32) (x1 : Addr) : entryFrame m #[(.int x0), (.ref x1)] 2 = mkF m 0 #[sI x0, sR x1] [] := by first | (simp [entryFrame, mkF, argsToLocals, Value.category]; done) | rfl
set_option maxRecDepth 65536 in
set_option maxHeartbeats 40000000 in
theorem ucG (l : Launch) (Z : State) (a0 : Array Value) (hw : ∀ d ∈ tables_1, d.before a0 Z = true) (ws : List Jvm.Cond) (i : Nat) (a : Addr) (ka : ClassId) (n2 : Nat) (vs : List Value) (G3 : Value) (h0 : Heap) (n0 : Nat) (Z0 : n0 ≤ h0.size) (q0 : OZ Z h0 n0) (q1 : SFm Z G3) (rG3 : G3.isRef = true) (q3 : Arv Z h0 a ka .byte (Int32.ofNat (2 * n2)) vs (.int (0 : Int32))) (hii : i < n2) (hn2 : n2 ≤ 64) :
  MetFree l y_32 (head1 (Jvm.Cond.code y_32 jdk_52_method_91_code 2 none :: ws) r_m17) (fun a_ U_ => a_ = #[(.int (Int32.ofNat i)), (.ref a)] ∧ Z.Warmed39 U_.vm ∧ U_.heap = h0) (fun _ _ _ _ _ => True) (fun _ U_ o_ V_ => ∃ v_ L_, o_ = .returned v_ ∧ QucG Z i a ka n2 vs G3 h0 n0 v_ V_.heap L_ ∧ FrameEnd U_ o_ V_ L_ r_m17.cells r_m17.slots) := by
 refine MetFree.of_bodySF (plainFor_of_name pn_0) hisR ?_
 intro p e s m args below meth c s₁ Bd am hP hK
 obtain ⟨rfl, hZ, hh⟩ := hP
 have hx := Bd.exec
 have dc := @hb _ _ Bd.bytes
 have hml : c.maxLocals = 2 := am
 have hown : s.vm.findClass "java/lang/StringUTF16" = some m.cls := findClass_of_methodNamed Bd.named
 have hnm := (name_of_methodNamed Bd.named Bd.method).1
 have X0 : Stand p l e r_m17 s m #[(.int (Int32.ofNat i)), (.ref a)] below meth c s₁ [] 0 0 := Stand.of_body Bd
 have e0 : s₁.heap = h0 := by rw [← hh, Bd.state]; rfl
 have N0 := Fr.nil n0
 have Oo := q0.1
 have zo := q0.2
 have av := own_alt q3.lt
 refine Gl.go (A := s₁.setTop (entryFrame m #[(.int (Int32.ofNat i)), (.ref a)] 2)) (P := fun o_ U_ => ∃ v_ L_, o_ = .returned v_ ∧ QucG Z i a ka n2 vs G3 h0 n0 v_ U_.heap L_ ∧ FrameEnd s o_ U_ L_ r_m17.cells r_m17.slots) (fun t_ k_ => castTop (ef_ucG m (Int32.ofNat i) a) k_) ?_
 show Gl p.tables e below _ (s₁.setTop (mkF m 0 #[sI (Int32.ofNat i), sR a] []))
 refine Gl.go (fun _ hr => ziloadN X0.here hx (dc d59_0) rfl (zaloadN X0.here hx (dc d59_1) rfl rfl hr)) ?_
 have ao : n0 ≤ h0.size := by omega
 refine gStaticN Gl.cl (y := y_14) (argsL := [(.ref a)]) (rest := [(.int (Int32.ofNat i))]) (mc := 0) (ms := 0) X0 hx hZ hown (mvT hZ (tw hw 264 rfl)) (mvT hZ (tw hw 265 rfl)) (mvT hZ (tw hw 221 rfl)) (mvT hZ (tw hw 266 rfl)) (by decide) (backOf (W := 1) (u16l l Z a0 hw [] a ka n2 vs h0 n0 ao q3 (by omega)) hZ (tw hw 266 rfl) (tw hw 221 rfl) (by decide) (by decide)) rfl (by rw [hml]; rfl) (lenOf pd_10 rfl) rfl (by exact Nat.le_of_eq rfl) (dc d59_2) rfl e0 (by decide) (by decide) ?_
 intro aw au aq ak ah
 obtain ⟨rfl, ae, ai⟩ := ak
 have ab := Fr.app N0 ae
 have ap : n0 ≤ h0.size := by omega
 refine gStaticN Gl.cl (y := y_29) (argsL := [(.int (Int32.ofNat i)), (.int (Int32.ofNat n2))]) (rest := []) (mc := 0) (ms := 0) ah hx hZ hown (mvT hZ (tw hw 279 rfl)) (mvT hZ (tw hw 212 rfl)) (mvT hZ (tw hw 7 rfl)) (mvT hZ (tw hw 213 rfl)) (by decide) (backOf (W := 0) (sci l Z a0 hw [] i n2 G3 h0 n0 ap ⟨Oo, (by omega)⟩ q1 (by assumption) hii (by omega)) hZ (tw hw 213 rfl) (tw hw 7 rfl) (by decide) (by decide)) rfl (by rw [hml]; rfl) (lenOf pd_16 rfl) rfl (by exact Nat.le_of_eq rfl) (dc d59_5) rfl ai (by decide) (by decide) ?_
 intro ax ag ar al aa
 obtain ⟨rfl, af, aj⟩ := al
 have ac := Fr.app ab af
 obtain ⟨fs, hr, hrun, hended, hW, hsame⟩ := aa.leave (v := none) (fun _ => rfl)
 refine ⟨_, _, aa.returnOut hx Bd.returns (dc d59_8) hr, hrun, hended, _, _, rfl, ?_, ⟨⟨_, rfl⟩, hW, hsame.mono (by decide) (by decide)⟩⟩
 show QucG Z i a ka n2 vs G3 h0 n0 _ ag.heap _
 rw [aj]
 exact ⟨rfl, ac, rfl⟩
def Qpcb (Z : State) (a : Addr) (ka : ClassId) (cap : Nat) (cs : List Int32) (ch : Int32) (G3 : Value) (h0 : Heap) (n0 : Nat) (v : Option Value) (h : Heap) (L : List Loc) : Prop := v = none ∧ Fr n0 L ∧ Keep h0 h [a] ∧ (Arv Z h a ka .byte (Int32.ofNat (2 * cap)) (StrChars.Road.wideBytes (cs ++ [ch])) (.int (0 : Int32)))
theorem ef_pcb (m : MethodId) (x0 : Addr) (x1 : Int32) (x2 : Int32) : entryFrame m #[(.ref x0), (.int x1), (.int x2)] 3 = mkF m 0 #[sR x0, sI x1, sI x2] [] := by first | (simp [entryFrame, mkF, argsToLocals, Value.category]; done) | rfl
abbrev K58 (i : Nat) := decode jdk_52_method_71_code i
theorem d58_0 : K58 0 = .ok (.iload_n 1, 1) := by decide +kernel
theorem d58_1 : K58 1 = .ok (.aload_n 0, 1) := by decide +kernel
theorem d58_2 : K58 2 = .ok (.invokestatic 67, 3) := by decide +kernel
theorem d58_5 : K58 5 = .ok (.aload_n 0, 1) := by decide +kernel
theorem d58_6 : K58 6 = .ok (.iload_n 1, 1) := by decide +kernel
theorem d58_7 : K58 7 = .ok (.iload_n 2, 1) := by decide +kernel
theorem d58_8 : K58 8 = .ok (.invokestatic 111, 3) := by decide +kernel
theorem d58_11 : K58 11 = .ok (.return_, 1) := by decide +kernel
set_option maxRecDepth 65536 in
set_option maxHeartbeats 40000000 in
theorem pcb (l : Launch) (Z : State) (a0 : Array Value) (hw : ∀ d ∈ tables_1, d.before a0 Z = true) (ws : List Jvm.Cond) (a : Addr) (ka : ClassId) (cap : Nat) (cs : List Int32) (ch : Int32) (G3 : Value) (h0 : Heap) (n0 : Nat) (Z0 : n0 ≤ h0.size) (q0 : OZ Z h0 n0) (q1 : SFm Z G3) (rG3 : G3.isRef = true) (q3 : SAd Z) (q4 : SHi Z) (q5 : SLo Z) (q6 : Arv Z h0 a ka .byte (Int32.ofNat (2 * cap)) (StrChars.Road.wideBytes cs) (.int (0 : Int32))) (q7 : Lq n0 a) (hcap : cap ≤ 18) (hf1 : cs.length + 1 ≤ cap) :
  MetFree l y_41 (head1 (Jvm.Cond.code y_41 jdk_52_method_71_code 3 none :: ws) r_m18) (fun a_ U_ => a_ = #[(.ref a), (.int (Int32.ofNat cs.length)), (.int ch)] ∧ Z.Warmed39 U_.vm ∧ U_.heap = h0) (fun _ _ _ _ _ => True) (fun _ U_ o_ V_ => ∃ v_ L_, o_ = .returned v_ ∧ Qpcb Z a ka cap cs ch G3 h0 n0 v_ V_.heap L_ ∧ FrameEnd U_ o_ V_ L_ r_m18.cells r_m18.slots) := by
 refine MetFree.of_bodySF (plainFor_of_name pn_0) hisR ?_
 intro p e s m args below meth c s₁ Bd ao hP hK
 obtain ⟨rfl, hZ, hh⟩ := hP
 have hx := Bd.exec
 have dc := @hb _ _ Bd.bytes
 have hml : c.maxLocals = 3 := ao
 have hown : s.vm.findClass "java/lang/StringUTF16" = some m.cls := findClass_of_methodNamed Bd.named
 have hnm := (name_of_methodNamed Bd.named Bd.method).1
 have X0 : Stand p l e r_m18 s m #[(.ref a), (.int (Int32.ofNat cs.length)), (.int ch)] below meth c s₁ [] 0 0 := Stand.of_body Bd
 have e0 : s₁.heap = h0 := by rw [← hh, Bd.state]; rfl
 have N0 := Fr.nil n0
 have Oo := q0.1
 have zo := q0.2
 have aw := own_alt q6.lt
 refine Gl.go (A := s₁.setTop (entryFrame m #[(.ref a), (.int (Int32.ofNat cs.length)), (.int ch)] 3)) (P := fun o_ U_ => ∃ v_ L_, o_ = .returned v_ ∧ Qpcb Z a ka cap cs ch G3 h0 n0 v_ U_.heap L_ ∧ FrameEnd s o_ U_ L_ r_m18.cells r_m18.slots) (fun t_ k_ => castTop (ef_pcb m a (Int32.ofNat cs.length) ch) k_) ?_
 show Gl p.tables e below _ (s₁.setTop (mkF m 0 #[sR a, sI (Int32.ofNat cs.length), sI ch] []))
 refine Gl.go (fun _ hr => ziloadN X0.here hx (dc d58_0) rfl (zaloadN X0.here hx (dc d58_1) rfl rfl hr)) ?_
 have ap : n0 ≤ h0.size := by omega
 refine gStaticN Gl.cl (y := y_32) (argsL := [(.int (Int32.ofNat cs.length)), (.ref a)]) (rest := []) (mc := 0) (ms := 0) X0 hx hZ hown (mvT hZ (tw hw 276 rfl)) (mvT hZ (tw hw 277 rfl)) (mvT hZ (tw hw 221 rfl)) (mvT hZ (tw hw 278 rfl)) (by decide) (backOf (W := 0) (ucG l Z a0 hw [] cs.length a ka cap (StrChars.Road.wideBytes cs) G3 h0 n0 ap ⟨Oo, (by omega)⟩ q1 (by assumption) q6 (by omega) (by omega)) hZ (tw hw 278 rfl) (tw hw 221 rfl) (by decide) (by decide)) rfl (by rw [hml]; rfl) (lenOf pd_20 rfl) rfl (by exact Nat.le_of_eq rfl) (dc d58_2) rfl e0 (by decide) (by decide) ?_
 intro ay av ar al aa
 obtain ⟨rfl, ai, ak⟩ := al
 have ag := Fr.app N0 ai
 refine Gl.go (fun _ hr => zaloadN aa.here hx (dc d58_5) rfl rfl (ziloadN aa.here hx (dc d58_6) rfl (ziloadN aa.here hx (dc d58_7) rfl hr))) ?_
 have aq : n0 ≤ h0.size := by omega
 refine gStaticN Gl.cl (y := y_0) (argsL := [(.ref a), (.int (Int32.ofNat cs.length)), (.int ch)]) (rest := []) (mc := 0) (ms := 0) aa hx hZ hown (mvT hZ (tw hw 239 rfl)) (mvT hZ (tw hw 240 rfl)) (mvT hZ (tw hw 221 rfl)) (mvT hZ (tw hw 241 rfl)) (by decide) (backOf (W := 0) (pcw l Z a0 hw [] a ka (2 * cap) cs ch h0 n0 aq ⟨Oo, (by omega)⟩ q3 q4 q5 q6 (by omega) (by omega) (by omega)) hZ (tw hw 241 rfl) (tw hw 221 rfl) (by decide) (by decide)) rfl (by rw [hml]; rfl) (lenOf pd_2 rfl) rfl (by exact Nat.le_of_eq rfl) (dc d58_8) rfl ak (by decide) (by decide) ?_
 intro az ac au am ae
 obtain ⟨rfl, aj, ab, af⟩ := am
 have aA : h0.size ≤ ac.heap.size := ab.1
 have ah := Fr.app ag aj
 have ax := own_alt af.lt
 obtain ⟨fs, hr, hrun, hended, hW, hsame⟩ := ae.leave (v := none) (fun _ => rfl)
 refine ⟨_, _, ae.returnOut hx Bd.returns (dc d58_11) hr, hrun, hended, _, _, rfl, ?_, ⟨⟨_, rfl⟩, hW, hsame.mono (by decide) (by decide)⟩⟩
 show Qpcb Z a ka cap cs ch G3 h0 n0 _ ac.heap _
 exact ⟨rfl, ah, ((Keep.refl h0 [a]).trans ab (allS (P := fun x_ => x_ ∈ ([a] : List Addr) ∨ h0.size ≤ x_) (Or.inl (by simp)) all0)), af⟩
def QapcG (Z : State) (b : Addr) (a : Addr) (ka : ClassId) (cap : Nat) (cs : List Int32) (cb : Int32) (z : Int32) (xs : List Value) (ch : Int32) (G1 : Int32) (G3 : Value) (h0 : Heap) (n0 : Nat) (v : Option Value) (h : Heap) (L : List Loc) : Prop := ∃ (cb2 : Int32), ∃ (z2 : Int32), ∃ (xs2 : List Value), v = some (.ref b) ∧ Fr n0 L ∧ Keep h0 h [b, a] ∧ (XBu Z h b) ∧ (FBv Z h b (.ref a)) ∧ (FBc Z h b (.int cb2)) ∧ (FBn Z h b (.int (Int32.ofNat (cs ++ [ch]).length))) ∧ (FBm Z h b (.int (0 : Int32))) ∧ (Exa Z h a "[B") ∧ (Arv Z h a ka .byte z2 xs2 (.int (0 : Int32))) ∧ (BdA (cs ++ [ch]) cap cb2 z2 xs2)
theorem ef_apcG (m : MethodId) (x0 : Addr) (x1 : Int32) : entryFrame m #[(.ref x0), (.int x1)] 2 = mkF m 0 #[sR x0, sI x1] [] := by first | (simp [entryFrame, mkF, argsToLocals, Value.category]; done) | rfl
abbrev K19 (i : Nat) := decode jdk_68_method_31_code i
theorem d19_0 : K19 0 = .ok (.aload_n 0, 1) := by decide +kernel
theorem d19_1 : K19 1 = .ok (.aload_n 0, 1) := by decide +kernel
theorem d19_2 : K19 2 = .ok (.getfield 79, 3) := by decide +kernel
theorem d19_5 : K19 5 = .ok (.iconst 1, 1) := by decide +kernel
theorem d19_6 : K19 6 = .ok (.iadd, 1) := by decide +kernel
theorem d19_7 : K19 7 = .ok (.invokevirtual 100, 3) := by decide +kernel
theorem d19_10 : K19 10 = .ok (.aload_n 0, 1) := by decide +kernel
theorem d19_11 : K19 11 = .ok (.invokevirtual 83, 3) := by decide +kernel
theorem d19_14 : K19 14 = .ok (.ifCond .eq 31, 3) := by decide +kernel
theorem d19_17 : K19 17 = .ok (.iload_n 1, 1) := by decide +kernel
theorem d19_18 : K19 18 = .ok (.invokestatic 191, 3) := by decide +kernel
theorem pd_27 : parseMethodDescriptor "(C)Z" = some ⟨[.char], some .boolean⟩ := by decide +kernel
theorem d19_21 : K19 21 = .ok (.ifCond .eq 24, 3) := by decide +kernel
theorem d19_24 : K19 24 = .ok (.aload_n 0, 1) := by decide +kernel
theorem d19_25 : K19 25 = .ok (.getfield 15, 3) := by decide +kernel
theorem d19_28 : K19 28 = .ok (.aload_n 0, 1) := by decide +kernel
theorem d19_29 : K19 29 = .ok (.dup, 1) := by decide +kernel
theorem d19_30 : K19 30 = .ok (.getfield 79, 3) := by decide +kernel
theorem d19_33 : K19 33 = .ok (.dup_x1, 1) := by decide +kernel
theorem d19_34 : K19 34 = .ok (.iconst 1, 1) := by decide +kernel
theorem d19_35 : K19 35 = .ok (.iadd, 1) := by decide +kernel
theorem d19_36 : K19 36 = .ok (.putfield 79, 3) := by decide +kernel
theorem d19_39 : K19 39 = .ok (.iload_n 1, 1) := by decide +kernel
theorem d19_40 : K19 40 = .ok (.i2b, 1) := by decide +kernel
theorem d19_41 : K19 41 = .ok (.bastore, 1) := by decide +kernel
theorem d19_42 : K19 42 = .ok (.goto 33, 3) := by decide +kernel
theorem d19_75 : K19 75 = .ok (.aload_n 0, 1) := by decide +kernel
theorem d19_76 : K19 76 = .ok (.areturn, 1) := by decide +kernel
theorem d19_45 : K19 45 = .ok (.aload_n 0, 1) := by decide +kernel
theorem d19_46 : K19 46 = .ok (.invokevirtual 83, 3) := by decide +kernel
theorem d19_49 : K19 49 = .ok (.ifCond .eq 7, 3) := by decide +kernel
theorem d19_56 : K19 56 = .ok (.aload_n 0, 1) := by decide +kernel
theorem d19_57 : K19 57 = .ok (.getfield 15, 3) := by decide +kernel
theorem d19_60 : K19 60 = .ok (.aload_n 0, 1) := by decide +kernel
theorem d19_61 : K19 61 = .ok (.dup, 1) := by decide +kernel
theorem d19_62 : K19 62 = .ok (.getfield 79, 3) := by decide +kernel
theorem d19_65 : K19 65 = .ok (.dup_x1, 1) := by decide +kernel
theorem d19_66 : K19 66 = .ok (.iconst 1, 1) := by decide +kernel
theorem d19_67 : K19 67 = .ok (.iadd, 1) := by decide +kernel
theorem d19_68 : K19 68 = .ok (.putfield 79, 3) := by decide +kernel
theorem d19_71 : K19 71 = .ok (.iload_n 1, 1) := by decide +kernel
theorem d19_72 : K19 72 = .ok (.invokestatic 197, 3) := by decide +kernel
set_option maxRecDepth 65536 in
set_option maxHeartbeats 40000000 in
theorem apcG (l : Launch) (Z : State) (a0 : Array Value) (hw : ∀ d ∈ tables_1, d.before a0 Z = true) (ws : List Jvm.Cond) (b : Addr) (a : Addr) (ka : ClassId) (cap : Nat) (cs : List Int32) (cb : Int32) (z : Int32) (xs : List Value) (ch : Int32) (G1 : Int32) (G3 : Value) (h0 : Heap) (n0 : Nat) (Z0 : n0 ≤ h0.size) (q0 : SCs Z G1) (P5 : ¬ (G1 = (0 : Int32))) (q2 : OZ Z h0 n0) (q3 : SFm Z G3) (rG3 : G3.isRef = true) (q5 : SAd Z) (q6 : SHi Z) (q7 : SLo Z) (q8 : XBu Z h0 b) (q9 : FBv Z h0 b (.ref a)) (q10 : FBc Z h0 b (.int cb)) (q11 : FBn Z h0 b (.int (Int32.ofNat cs.length))) (q12 : FBm Z h0 b (.int (0 : Int32))) (q13 : Exa Z h0 a "[B") (q14 : Arv Z h0 a ka .byte z xs (.int (0 : Int32))) (bd : BdA cs cap cb z xs) (q16 : Lq n0 a) (q17 : Lq n0 b) (q18 : Nq a b) (hcap : cap ≤ 18) (hch : Lat ch) (hf1 : cs.length + 1 ≤ cap) :
  MetFree l y_42 (head1 (Jvm.Cond.code y_42 jdk_68_method_31_code 2 (some (.object "java/lang/AbstractStringBuilder")) :: ws) r_m25) (fun a_ U_ => a_ = #[(.ref b), (.int ch)] ∧ Z.Warmed39 U_.vm ∧ U_.heap = h0) (fun _ _ _ _ _ => True) (fun _ U_ o_ V_ => ∃ v_ L_, o_ = .returned v_ ∧ QapcG Z b a ka cap cs cb z xs ch G1 G3 h0 n0 v_ V_.heap L_ ∧ FrameEnd U_ o_ V_ L_ r_m25.cells r_m25.slots) := by
 refine MetFree.of_bodySF (plainFor_of_name pn_2) hisR ?_
 intro p e s m args below meth c s₁ Bd bN hP hK
 obtain ⟨rfl, hZ, hh⟩ := hP
 have hx := Bd.exec
 have dc := @hb _ _ Bd.bytes
 have hml : c.maxLocals = 2 := bN
 have hown : s.vm.findClass "java/lang/AbstractStringBuilder" = some m.cls := findClass_of_methodNamed Bd.named
 have hnm := (name_of_methodNamed Bd.named Bd.method).1
 have X0 : Stand p l e r_m25 s m #[(.ref b), (.int ch)] below meth c s₁ [] 0 0 := Stand.of_body Bd
 have e0 : s₁.heap = h0 := by rw [← hh, Bd.state]; rfl
 have N0 := Fr.nil n0
 have Oo := q2.1
 have zo := q2.2
 have co := own_alt q8.lt
 have cp := own_alt q9.lt
 have ct := own_alt q10.lt
 have cu := own_alt q11.lt
 have cw := own_alt q12.lt
 have cx := own_alt q13.lt
 have cy := own_alt q14.lt
 refine Gl.go (A := s₁.setTop (entryFrame m #[(.ref b), (.int ch)] 2)) (P := fun o_ U_ => ∃ v_ L_, o_ = .returned v_ ∧ QapcG Z b a ka cap cs cb z xs ch G1 G3 h0 n0 v_ U_.heap L_ ∧ FrameEnd s o_ U_ L_ r_m25.cells r_m25.slots) (fun t_ k_ => castTop (ef_apcG m b ch) k_) ?_
 show Gl p.tables e below _ (s₁.setTop (mkF m 0 #[sR b, sI ch] []))
 refine Gl.go (fun _ hr => zaloadN X0.here hx (dc d19_0) rfl rfl (zaloadN X0.here hx (dc d19_1) rfl rfl hr)) ?_
 refine gGetF (host := "") Gl.cl X0 hx hZ hown (Or.inl (tw hw 78 rfl)) Via.refl e0 q11 rfl rfl (dc d19_2) ?_
 intro aB ap bs
 refine Gl.go (fun _ hr => ziconst ap.here hx (dc d19_5) (ziadd ap.here hx (dc d19_6) rfl hr)) ?_
 show Gl p.tables e below _ (aB.setTop (mkF m 7 #[sR b, sI ch] [(.int ((Int32.ofNat cs.length) + (1 : Int32))), (.ref b)]))
 rw [(own_nat_succ cs.length)]
 show Gl p.tables e below _ (aB.setTop (mkF m 7 #[sR b, sI ch] [(.int (Int32.ofNat (cs.length + 1))), (.ref b)]))
 have bU : n0 ≤ h0.size := by omega
 refine gPrivN Gl.cl (y := y_13) (b := b) (argsL := [(.int (Int32.ofNat (cs.length + 1)))]) (rest := []) (mc := 0) (ms := 0) ap hx hZ hown (mvT hZ (tw hw 80 rfl)) (mvT hZ (tw hw 81 rfl)) (mvT hZ (tw hw 83 rfl)) (mvP hZ (tw hw 82 rfl)) (mvT hZ (tw hw 84 rfl)) (by decide) q8 (backOf (W := 0) (ensG l Z a0 hw [] b a ka cap cs cb z xs (cs.length + 1) h0 n0 bU q9 q10 q14 bd.1 hf1 (by assumption)) hZ (tw hw 84 rfl) (tw hw 44 rfl) (by decide) (by decide)) rfl (by rw [hml]; rfl) (lenOf pd_24 rfl) rfl (by exact Nat.le_of_eq rfl) (dc d19_7) rfl bs (by decide) (by decide) ?_
 intro cC ao b0 bH ai
 obtain ⟨rfl, be, aH⟩ := bH
 have aA := Fr.app N0 be
 show Gl p.tables e below _ (ao.setTop (mkF m 10 #[sR b, sI ch] []))
 rcases bd.cod with ⟨f1, f2, f3, f4⟩ | ⟨f1, f2, f3, f4⟩
 ·have Fb := q10
  rw [f1] at Fb
  have Vb := q14
  rw [f2, f3] at Vb
  show Gl p.tables e below _ (ao.setTop (mkF m 10 #[sR b, sI ch] []))
  refine Gl.go (fun _ hr => zaloadN ai.here hx (dc d19_10) rfl rfl hr) ?_
  have bV : n0 ≤ h0.size := by omega
  refine gVirtualN Gl.cl (y := y_11) (z := y_11) (b := b) (argsL := []) (rest := []) (mc := 0) (ms := 0) ai hx hZ hown (mvT hZ (tw hw 121 rfl)) (mvT hZ (tw hw 122 rfl)) (notFace_of_selects (args := #[]) (mvT hZ (tw hw 124 rfl))) (mvT hZ (tw hw 124 rfl)) (mvT hZ (tw hw 123 rfl)) (by decide) q8 (backOf (W := 0) (bl0 l Z a0 hw [] b G1 h0 n0 bV q0 (by assumption) ⟨Oo, (by omega)⟩ Fb) hZ (tw hw 125 rfl) (tw hw 44 rfl) (by decide) (by decide)) rfl (by rw [hml]; rfl) (lenOf pd_14 rfl) rfl (by exact Nat.le_of_eq rfl) (dc d19_11) rfl aH (by decide) (by decide) ?_
  intro cD b8 b3 bI aq
  obtain ⟨rfl, bf, bt⟩ := bI
  have a5 := Fr.app aA bf
  refine Gl.go (fun _ hr => zifNo aq.here hx (dc d19_14) rfl (XT.i0_eq_f (by decide)) (ziloadN aq.here hx (dc d19_17) rfl hr)) ?_
  have bW : n0 ≤ h0.size := by omega
  refine gStaticN Gl.cl (y := y_40) (argsL := [(.int ch)]) (rest := []) (mc := 0) (ms := 0) aq hx hZ hown (mvT hZ (tw hw 126 rfl)) (mvT hZ (tw hw 127 rfl)) (mvT hZ (tw hw 128 rfl)) (mvT hZ (tw hw 129 rfl)) (by decide) (backOf (W := 0) (cenL l Z a0 hw [] ch h0 n0 bW (by assumption)) hZ (tw hw 129 rfl) (tw hw 128 rfl) (by decide) (by decide)) rfl (by rw [hml]; rfl) (lenOf pd_27 rfl) rfl (by exact Nat.le_of_eq rfl) (dc d19_18) rfl bt (by decide) (by decide) ?_
  intro cE b9 b4 bJ ar
  obtain ⟨rfl, bg, bu⟩ := bJ
  have a6 := Fr.app a5 bg
  refine Gl.go (fun _ hr => zifNo ar.here hx (dc d19_21) rfl (XT.i0_eq_f (by decide)) hr) ?_
  have Vp := Vb.pad (pad_rep (lb cs) (.int (0 : Int32)) 1)
  refine Gl.go (fun _ hr => zaloadN ar.here hx (dc d19_24) rfl rfl hr) ?_
  refine gGetF (host := "") Gl.cl ar hx hZ hown (Or.inl (tw hw 62 rfl)) Via.refl bu q9 rfl rfl (dc d19_25) ?_
  intro ca au bv
  refine Gl.go (fun _ hr => zaloadN au.here hx (dc d19_28) rfl rfl (zdup au.here hx (dc d19_29) rfl rfl hr)) ?_
  refine gGetF (host := "") Gl.cl au hx hZ hown (Or.inl (tw hw 78 rfl)) Via.refl bv q11 rfl rfl (dc d19_30) ?_
  intro aC aj bz
  refine Gl.go (fun _ hr => zdupX1 aj.here hx (dc d19_33) rfl rfl rfl (ziconst aj.here hx (dc d19_34) (ziadd aj.here hx (dc d19_35) rfl hr))) ?_
  show Gl p.tables e below _ (aC.setTop (mkF m 36 #[sR b, sI ch] [(.int ((Int32.ofNat cs.length) + (1 : Int32))), (.ref b), (.int (Int32.ofNat cs.length)), (.ref a)]))
  rw [(own_len1 cs ch)]
  show Gl p.tables e below _ (aC.setTop (mkF m 36 #[sR b, sI ch] [(.int (Int32.ofNat (cs ++ [ch]).length)), (.ref b), (.int (Int32.ofNat cs.length)), (.ref a)]))
  refine gPutF (host := "") Gl.cl aj hx hZ hown (Or.inl (tw hw 78 rfl)) Via.refl bz q11 q8 (Or.inl (tw hw 79 rfl)) (tw hw 35 rfl) (ty := .int) (by decide) rfl rfl rfl rfl (dc d19_36) ?_
  intro aD aJ ak bA ac
  have cI : h0.size ≤ aJ.size := (Keep.of_wr ac).1
  have aY := q11.same ac
  have bP : Lq n0 b := by omega
  have a7 := Fr.snoc ak a6 (own_ale bP)
  refine Gl.go (fun _ hr => ziloadN ak.here hx (dc d19_39) rfl (zi2b ak.here hx (dc d19_40) rfl hr)) ?_
  show Gl p.tables e below _ (aD.setTop (mkF m 41 #[sR b, sI ch] [(.int (ch.toInt8.toInt32)), (.int (Int32.ofNat cs.length)), (.ref a)]))
  show Gl p.tables e below _ (aD.setTop (mkF m 41 #[sR b, sI ch] [(.int (StrChars.lo8 ch)), (.int (Int32.ofNat cs.length)), (.ref a)]))
  have ag : Nq a b := by omega
  have bq := (Vp.other ac (own_ane ag))
  obtain ⟨cn, aG, bT, aL, bO, a3, bo⟩ := id bq
  refine gstB Gl.cl ak hx hZ bA aG (j := (Int32.ofNat cs.length)) (inb_of aL ⟨own_nn (by omega), own_lt32 (b := cap) (by omega) (by omega)⟩) rfl rfl (dc d19_41) ?_
  intro bn aK af bB aa
  have cJ : aJ.size ≤ aK.size := (Keep.of_wr aa).1
  rw [(own_narb _)] at aa
  have bp : Arv Z aK a ka .byte (Int32.ofNat cap) ((lb cs ++ List.replicate 1 (Value.int (0 : Int32))).set cs.length (.int (StrChars.lo8 ch))) (.int (0 : Int32)) := Arv.set aG bT aL bO a3 bo (own_fitb _) aa cs.length (own_nat32 (by omega)) (by rw [List.length_append, lb_len, List.length_replicate]; omega)
  have bQ : Lq n0 a := by omega
  have a8 := Fr.snoc af a7 (own_ale bQ)
  refine Gl.go (fun _ hr => zgoto af.here hx (pc0 := 42) (pc' := 75) rfl (dc d19_42) (by decide) (by decide) (zaloadN af.here hx (dc d19_75) rfl rfl hr)) ?_
  have aM := ((q8.wr ac).wr aa)
  have aQ := ((q9.other ac (Or.inr (slot_ne (Or.inl (tw hw 63 rfl)) (Or.inl (tw hw 79 rfl)) (by decide) (t := (.array .byte)) (t' := .int) (by decide) (by decide)))).other aa (Or.inl (own_anes ag)))
  have aR := ((Fb.other ac (Or.inr (slot_ne (Or.inl (tw hw 61 rfl)) (Or.inl (tw hw 79 rfl)) (by decide) (t := .byte) (t' := .int) (by decide) (by decide)))).other aa (Or.inl (own_anes ag)))
  have aS := (aY.other aa (Or.inl (own_anes ag)))
  have aT := ((q12.other ac (Or.inr (slot_ne (Or.inl (tw hw 283 rfl)) (Or.inl (tw hw 79 rfl)) (by decide) (t := .boolean) (t' := .int) (by decide) (by decide)))).other aa (Or.inl (own_anes ag)))
  have aN := ((q13.wr ac).wr aa)
  obtain ⟨fs, hr, hrun, hended, hW, hsame⟩ := af.leave (v := some (.ref b)) (fun h => by rw [Bd.returns] at h; cases h)
  refine ⟨_, _, retOut af hx Bd.returns rfl (Or.inr (Or.inr (Or.inr (Or.inr ⟨rfl, rfl, rfl⟩)))) (dc d19_76) hr, hrun, hended, _, _, rfl, ?_, ⟨⟨_, rfl⟩, hW, hsame.mono (by decide) (by decide)⟩⟩
  show QapcG Z b a ka cap cs cb z xs ch G1 G3 h0 n0 _ bn.heap _
  rw [bB]
  exact ⟨(0 : Int32), (Int32.ofNat cap), (lb (cs ++ [ch])), rfl, a8, (((Keep.refl h0 [b, a]).wr ac (Or.inl (by simp))).wr aa (Or.inl (by simp))), aM, aQ, aR, aS, aT, aN, (by have q := bp; rw [own_lset] at q; exact q), ⟨Or.inl ⟨rfl, rfl, rfl, own_codC f4 (own_lat1 hch)⟩, fun q => absurd q (by decide)⟩⟩
 ·have Fb := q10
  rw [f1] at Fb
  have Vb := q14
  rw [f2, f3] at Vb
  show Gl p.tables e below _ (ao.setTop (mkF m 10 #[sR b, sI ch] []))
  refine Gl.go (fun _ hr => zaloadN ai.here hx (dc d19_10) rfl rfl hr) ?_
  have bX : n0 ≤ h0.size := by omega
  refine gVirtualN Gl.cl (y := y_11) (z := y_11) (b := b) (argsL := []) (rest := []) (mc := 0) (ms := 0) ai hx hZ hown (mvT hZ (tw hw 121 rfl)) (mvT hZ (tw hw 122 rfl)) (notFace_of_selects (args := #[]) (mvT hZ (tw hw 124 rfl))) (mvT hZ (tw hw 124 rfl)) (mvT hZ (tw hw 123 rfl)) (by decide) q8 (backOf (W := 0) (bl1 l Z a0 hw [] b G1 h0 n0 bX q0 (by assumption) ⟨Oo, (by omega)⟩ Fb) hZ (tw hw 125 rfl) (tw hw 44 rfl) (by decide) (by decide)) rfl (by rw [hml]; rfl) (lenOf pd_14 rfl) rfl (by exact Nat.le_of_eq rfl) (dc d19_11) rfl aH (by decide) (by decide) ?_
  intro cF cg b5 bK av
  obtain ⟨rfl, bh, bC⟩ := bK
  have a9 := Fr.app aA bh
  refine Gl.go (fun _ hr => zifYes av.here hx (pc0 := 14) (pc' := 45) rfl (dc d19_14) rfl (XT.i0_eq_t (by decide)) (by decide) (by decide) (zaloadN av.here hx (dc d19_45) rfl rfl hr)) ?_
  have bY : n0 ≤ h0.size := by omega
  refine gVirtualN Gl.cl (y := y_11) (z := y_11) (b := b) (argsL := []) (rest := []) (mc := 0) (ms := 0) av hx hZ hown (mvT hZ (tw hw 121 rfl)) (mvT hZ (tw hw 122 rfl)) (notFace_of_selects (args := #[]) (mvT hZ (tw hw 124 rfl))) (mvT hZ (tw hw 124 rfl)) (mvT hZ (tw hw 123 rfl)) (by decide) q8 (backOf (W := 0) (bl1 l Z a0 hw [] b G1 h0 n0 bY q0 (by assumption) ⟨Oo, (by omega)⟩ Fb) hZ (tw hw 125 rfl) (tw hw 44 rfl) (by decide) (by decide)) rfl (by rw [hml]; rfl) (lenOf pd_14 rfl) rfl (by exact Nat.le_of_eq rfl) (dc d19_46) rfl bC (by decide) (by decide) ?_
  intro cG ci b6 bL aw
  obtain ⟨rfl, bj, bD⟩ := bL
  have ba := Fr.app a9 bj
  refine Gl.go (fun _ hr => zifYes aw.here hx (pc0 := 49) (pc' := 56) rfl (dc d19_49) rfl (XT.i0_eq_t (by decide)) (by decide) (by decide) (zaloadN aw.here hx (dc d19_56) rfl rfl hr)) ?_
  refine gGetF (host := "") Gl.cl aw hx hZ hown (Or.inl (tw hw 62 rfl)) Via.refl bD q9 rfl rfl (dc d19_57) ?_
  intro cj ax bE
  refine Gl.go (fun _ hr => zaloadN ax.here hx (dc d19_60) rfl rfl (zdup ax.here hx (dc d19_61) rfl rfl hr)) ?_
  refine gGetF (host := "") Gl.cl ax hx hZ hown (Or.inl (tw hw 78 rfl)) Via.refl bE q11 rfl rfl (dc d19_62) ?_
  intro aE al bF
  refine Gl.go (fun _ hr => zdupX1 al.here hx (dc d19_65) rfl rfl rfl (ziconst al.here hx (dc d19_66) (ziadd al.here hx (dc d19_67) rfl hr))) ?_
  show Gl p.tables e below _ (aE.setTop (mkF m 68 #[sR b, sI ch] [(.int ((Int32.ofNat cs.length) + (1 : Int32))), (.ref b), (.int (Int32.ofNat cs.length)), (.ref a)]))
  rw [(own_len1 cs ch)]
  show Gl p.tables e below _ (aE.setTop (mkF m 68 #[sR b, sI ch] [(.int (Int32.ofNat (cs ++ [ch]).length)), (.ref b), (.int (Int32.ofNat cs.length)), (.ref a)]))
  refine gPutF (host := "") Gl.cl al hx hZ hown (Or.inl (tw hw 78 rfl)) Via.refl bF q11 q8 (Or.inl (tw hw 79 rfl)) (tw hw 35 rfl) (ty := .int) (by decide) rfl rfl rfl rfl (dc d19_68) ?_
  intro cm am ay bG ab
  have cK : h0.size ≤ am.size := (Keep.of_wr ab).1
  have aZ := q11.same ab
  have bR : Lq n0 b := by omega
  have bb := Fr.snoc ay ba (own_ale bR)
  refine Gl.go (fun _ hr => ziloadN ay.here hx (dc d19_71) rfl hr) ?_
  have bS : Lq Z.heap.size b := by omega
  have bm := (Oo.wr ab (own_ale bS))
  have ah : Nq a b := by omega
  have br := (Vb.other ab (own_ane ah))
  have bZ : n0 ≤ am.size := by omega
  refine gStaticN Gl.cl (y := y_41) (argsL := [(.ref a), (.int (Int32.ofNat cs.length)), (.int ch)]) (rest := []) (mc := 0) (ms := 0) ay hx hZ hown (mvT hZ (tw hw 273 rfl)) (mvT hZ (tw hw 274 rfl)) (mvT hZ (tw hw 221 rfl)) (mvT hZ (tw hw 275 rfl)) (by decide) (backOf (W := 0) (pcb l Z a0 hw [] a ka cap cs ch G3 am n0 bZ ⟨bm, (by omega)⟩ q3 (by assumption) q5 q6 q7 br (by omega) (by assumption) (by assumption)) hZ (tw hw 275 rfl) (tw hw 221 rfl) (by decide) (by decide)) rfl (by rw [hml]; rfl) (lenOf pd_2 rfl) rfl (by exact Nat.le_of_eq rfl) (dc d19_72) rfl bG (by decide) (by decide) ?_
  intro cH aF b7 bM az
  obtain ⟨rfl, bl, ae, aI⟩ := bM
  have cL : am.size ≤ aF.heap.size := ae.1
  have bc := Fr.app bb bl
  have cz := own_alt aI.lt
  refine Gl.go (fun _ hr => zaloadN az.here hx (dc d19_75) rfl rfl hr) ?_
  have aO := ((q8.wr ab).keep ae)
  have aU := ((q9.other ab (Or.inr (slot_ne (Or.inl (tw hw 63 rfl)) (Or.inl (tw hw 79 rfl)) (by decide) (t := (.array .byte)) (t' := .int) (by decide) (by decide)))).keep ae (ninS (own_anes ah) nin0))
  have aV := ((Fb.other ab (Or.inr (slot_ne (Or.inl (tw hw 61 rfl)) (Or.inl (tw hw 79 rfl)) (by decide) (t := .byte) (t' := .int) (by decide) (by decide)))).keep ae (ninS (own_anes ah) nin0))
  have aW := (aZ.keep ae (ninS (own_anes ah) nin0))
  have aX := ((q12.other ab (Or.inr (slot_ne (Or.inl (tw hw 283 rfl)) (Or.inl (tw hw 79 rfl)) (by decide) (t := .boolean) (t' := .int) (by decide) (by decide)))).keep ae (ninS (own_anes ah) nin0))
  have aP := ((q13.wr ab).keep ae)
  obtain ⟨fs, hr, hrun, hended, hW, hsame⟩ := az.leave (v := some (.ref b)) (fun h => by rw [Bd.returns] at h; cases h)
  refine ⟨_, _, retOut az hx Bd.returns rfl (Or.inr (Or.inr (Or.inr (Or.inr ⟨rfl, rfl, rfl⟩)))) (dc d19_76) hr, hrun, hended, _, _, rfl, ?_, ⟨⟨_, rfl⟩, hW, hsame.mono (by decide) (by decide)⟩⟩
  show QapcG Z b a ka cap cs cb z xs ch G1 G3 h0 n0 _ aF.heap _
  exact ⟨(1 : Int32), (Int32.ofNat (2 * cap)), (StrChars.Road.wideBytes (cs ++ [ch])), rfl, bc, (((Keep.refl h0 [b, a]).wr ab (Or.inl (by simp))).trans ae (allS (P := fun x_ => x_ ∈ ([b, a] : List Addr) ∨ h0.size ≤ x_) (Or.inl (by simp)) all0)), aO, aU, aV, aW, aX, aP, aI, ⟨Or.inr ⟨rfl, rfl, rfl⟩, fun _ => own_exL f4⟩⟩
def QscG (Z : State) (b : Addr) (a : Addr) (ka : ClassId) (cap : Nat) (cs : List Int32) (cb : Int32) (z : Int32) (xs : List Value) (ch : Int32) (G1 : Int32) (G3 : Value) (h0 : Heap) (n0 : Nat) (v : Option Value) (h : Heap) (L : List Loc) : Prop := ∃ (cb2 : Int32), ∃ (z2 : Int32), ∃ (xs2 : List Value), v = some (.ref b) ∧ Fr n0 L ∧ Keep h0 h [b, a] ∧ (XBu Z h b) ∧ (FBv Z h b (.ref a)) ∧ (FBc Z h b (.int cb2)) ∧ (FBn Z h b (.int (Int32.ofNat (cs ++ [ch]).length))) ∧ (FBm Z h b (.int (0 : Int32))) ∧ (Exa Z h a "[B") ∧ (Arv Z h a ka .byte z2 xs2 (.int (0 : Int32))) ∧ (BdA (cs ++ [ch]) cap cb2 z2 xs2)
theorem ef_scG (m : MethodId) (x0 : Addr) (x1 : Int32) : entryFrame m #[(.ref x0), (.int x1)] 2 = mkF m 0 #[sR x0, sI x1] [] := by first | (simp [entryFrame, mkF, argsToLocals, Value.category]; done) | rfl
abbrev K18 (i : Nat) := decode jdk_67_method_14_code i
theorem d18_0 : K18 0 = .ok (.aload_n 0, 1) := by decide +kernel
theorem d18_1 : K18 1 = .ok (.iload_n 1, 1) := by decide +kernel
theorem d18_2 : K18 2 = .ok (.invokespecial 50, 3) := by decide +kernel
theorem pd_28 : parseMethodDescriptor "(C)Ljava/lang/AbstractStringBuilder;" = some ⟨[.char], some (.object "java/lang/AbstractStringBuilder")⟩ := by decide +kernel
theorem d18_5 : K18 5 = .ok (.pop, 1) := by decide +kernel
theorem d18_6 : K18 6 = .ok (.aload_n 0, 1) := by decide +kernel
theorem d18_7 : K18 7 = .ok (.areturn, 1) := by decide +kernel
set_option maxRecDepth 65536 in
set_option maxHeartbeats 40000000 in
theorem scG (l : Launch) (Z : State) (a0 : Array Value) (hw : ∀ d ∈ tables_1, d.before a0 Z = true) (ws : List Jvm.Cond) (b : Addr) (a : Addr) (ka : ClassId) (cap : Nat) (cs : List Int32) (cb : Int32) (z : Int32) (xs : List Value) (ch : Int32) (G1 : Int32) (G3 : Value) (h0 : Heap) (n0 : Nat) (Z0 : n0 ≤ h0.size) (q0 : SCs Z G1) (P5 : ¬ (G1 = (0 : Int32))) (q2 : OZ Z h0 n0) (q3 : SFm Z G3) (rG3 : G3.isRef = true) (q5 : SAd Z) (q6 : SHi Z) (q7 : SLo Z) (q8 : XBu Z h0 b) (q9 : FBv Z h0 b (.ref a)) (q10 : FBc Z h0 b (.int cb)) (q11 : FBn Z h0 b (.int (Int32.ofNat cs.length))) (q12 : FBm Z h0 b (.int (0 : Int32))) (q13 : Exa Z h0 a "[B") (q14 : Arv Z h0 a ka .byte z xs (.int (0 : Int32))) (bd : BdA cs cap cb z xs) (q16 : Lq n0 a) (q17 : Lq n0 b) (q18 : Nq a b) (hcap : cap ≤ 18) (hch : Lat ch) (hf1 : cs.length + 1 ≤ cap) :
  MetFree l y_43 (head1 (Jvm.Cond.code y_43 jdk_67_method_14_code 2 (some (.object "java/lang/StringBuilder")) :: ws) r_m26) (fun a_ U_ => a_ = #[(.ref b), (.int ch)] ∧ Z.Warmed39 U_.vm ∧ U_.heap = h0) (fun _ _ _ _ _ => True) (fun _ U_ o_ V_ => ∃ v_ L_, o_ = .returned v_ ∧ QscG Z b a ka cap cs cb z xs ch G1 G3 h0 n0 v_ V_.heap L_ ∧ FrameEnd U_ o_ V_ L_ r_m26.cells r_m26.slots) := by
 refine MetFree.of_bodySF (plainFor_of_name pn_5) hisR ?_
 intro p e s m args below meth c s₁ Bd ar hP hK
 obtain ⟨rfl, hZ, hh⟩ := hP
 have hx := Bd.exec
 have dc := @hb _ _ Bd.bytes
 have hml : c.maxLocals = 2 := ar
 have hown : s.vm.findClass "java/lang/StringBuilder" = some m.cls := findClass_of_methodNamed Bd.named
 have hnm := (name_of_methodNamed Bd.named Bd.method).1
 have X0 : Stand p l e r_m26 s m #[(.ref b), (.int ch)] below meth c s₁ [] 0 0 := Stand.of_body Bd
 have e0 : s₁.heap = h0 := by rw [← hh, Bd.state]; rfl
 have N0 := Fr.nil n0
 have Oo := q2.1
 have zo := q2.2
 have ay := own_alt q8.lt
 have az := own_alt q9.lt
 have aA := own_alt q10.lt
 have aB := own_alt q11.lt
 have aC := own_alt q12.lt
 have aD := own_alt q13.lt
 have aE := own_alt q14.lt
 refine Gl.go (A := s₁.setTop (entryFrame m #[(.ref b), (.int ch)] 2)) (P := fun o_ U_ => ∃ v_ L_, o_ = .returned v_ ∧ QscG Z b a ka cap cs cb z xs ch G1 G3 h0 n0 v_ U_.heap L_ ∧ FrameEnd s o_ U_ L_ r_m26.cells r_m26.slots) (fun t_ k_ => castTop (ef_scG m b ch) k_) ?_
 show Gl p.tables e below _ (s₁.setTop (mkF m 0 #[sR b, sI ch] []))
 refine Gl.go (fun _ hr => zaloadN X0.here hx (dc d18_0) rfl rfl (ziloadN X0.here hx (dc d18_1) rfl hr)) ?_
 have aw : n0 ≤ h0.size := by omega
 refine gSuperN Gl.cl (y := y_42) (b := b) (argsL := [(.int ch)]) (rest := []) (mc := 0) (ms := 0) X0 hx hZ hown (tw hw 117 rfl) (own_same (y := y_42) (tw hw 119 rfl) (tw hw 83 rfl) rfl (by decide)) (tw hw 118 rfl) (tw hw 76 rfl) (by decide) (tw hw 120 rfl) (Ins.self q8) (backOf (W := 0) (apcG l Z a0 hw [] b a ka cap cs cb z xs ch G1 G3 h0 n0 aw q0 (by assumption) ⟨Oo, (by omega)⟩ q3 (by assumption) q5 q6 q7 q8 q9 q10 q11 q12 q13 q14 (by assumption) (by omega) (by omega) (by omega) (by assumption) (by assumption) (by assumption)) hZ (tw hw 120 rfl) (tw hw 44 rfl) (by decide) (by decide)) rfl (by rw [hml]; rfl) (lenOf pd_28 rfl) rfl (by exact Nat.le_of_eq rfl) (dc d18_2) rfl e0 (by decide) (by decide) ?_
 intro aM ac ax aq aa
 obtain ⟨ao, av, au, rfl, am, ab, ae, af, ag, ah, ai, aj, ak, ap⟩ := aq
 have aN : h0.size ≤ ac.heap.size := ab.1
 have al := Fr.app N0 am
 have aF := own_alt ae.lt
 have aG := own_alt af.lt
 have aH := own_alt ag.lt
 have aI := own_alt ah.lt
 have aJ := own_alt ai.lt
 have aK := own_alt aj.lt
 have aL := own_alt ak.lt
 refine Gl.go (fun _ hr => zpop aa.here hx (dc d18_5) rfl rfl (zaloadN aa.here hx (dc d18_6) rfl rfl hr)) ?_
 obtain ⟨fs, hr, hrun, hended, hW, hsame⟩ := aa.leave (v := some (.ref b)) (fun h => by rw [Bd.returns] at h; cases h)
 refine ⟨_, _, retOut aa hx Bd.returns rfl (Or.inr (Or.inr (Or.inr (Or.inr ⟨rfl, rfl, rfl⟩)))) (dc d18_7) hr, hrun, hended, _, _, rfl, ?_, ⟨⟨_, rfl⟩, hW, hsame.mono (by decide) (by decide)⟩⟩
 show QscG Z b a ka cap cs cb z xs ch G1 G3 h0 n0 _ ac.heap _
 exact ⟨ao, av, au, rfl, al, ((Keep.refl h0 [b, a]).trans ab (allS (P := fun x_ => x_ ∈ ([b, a] : List Addr) ∨ h0.size ≤ x_) (Or.inl (by simp)) (allS (P := fun x_ => x_ ∈ ([b, a] : List Addr) ∨ h0.size ≤ x_) (Or.inl (by simp)) all0))), ae, af, ag, ah, ai, aj, ak, ap⟩
def QcorG (Z : State) (a : Addr) (ka : ClassId) (zz : Nat) (k : Nat) (xs : List Value) (h0 : Heap) (n0 : Nat) (v : Option Value) (h : Heap) (L : List Loc) : Prop := ∃ (r : Addr), ∃ (kr : ClassId), v = some (.ref r) ∧ Fr n0 L ∧ Keep h0 h [] ∧ (Arv Z h r kr .byte (Int32.ofNat k) xs (.int (0 : Int32))) ∧ (Lq h0.size r)
theorem ef_corG (m : MethodId) (x0 : Addr) (x1 : Int32) (x2 : Int32) : entryFrame m #[(.ref x0), (.int x1), (.int x2)] 3 = mkF m 0 #[sR x0, sI x1, sI x2] [] := by first | (simp [entryFrame, mkF, argsToLocals, Value.category]; done) | rfl
theorem d32_17 : K32 17 = .ok (.aload_n 0, 1) := by decide +kernel
theorem d32_18 : K32 18 = .ok (.invokevirtual 310, 3) := by decide +kernel
theorem d32_21 : K32 21 = .ok (.checkcast 311, 3) := by decide +kernel
theorem d32_24 : K32 24 = .ok (.areturn, 1) := by decide +kernel
set_option maxRecDepth 65536 in
set_option maxHeartbeats 40000000 in
theorem corG (l : Launch) (Z : State) (a0 : Array Value) (hw : ∀ d ∈ tables_1, d.before a0 Z = true) (ws : List Jvm.Cond) (a : Addr) (ka : ClassId) (zz : Nat) (k : Nat) (xs : List Value) (h0 : Heap) (n0 : Nat) (Z0 : n0 ≤ h0.size) (q0 : Exa Z h0 a "[B") (q1 : Arv Z h0 a ka .byte (Int32.ofNat zz) xs (.int (0 : Int32))) (hxl : xs.length = k) (hk : k ≤ zz) (hzz : zz ≤ 36) :
  MetFree l y_27 (head1 (Jvm.Cond.code y_27 jdk_65_method_132_code 3 (some (.array .byte)) :: ws) r_m15) (fun a_ U_ => a_ = #[(.ref a), (.int (0 : Int32)), (.int (Int32.ofNat k))] ∧ Z.Warmed39 U_.vm ∧ U_.heap = h0) (fun _ _ _ _ _ => True) (fun _ U_ o_ V_ => ∃ v_ L_, o_ = .returned v_ ∧ QcorG Z a ka zz k xs h0 n0 v_ V_.heap L_ ∧ FrameEnd U_ o_ V_ L_ r_m15.cells r_m15.slots) := by
 refine MetFree.of_bodySF (plainFor_of_name pn_6) hisR ?_
 intro p e s m args below meth c s₁ Bd aA hP hK
 obtain ⟨rfl, hZ, hh⟩ := hP
 have hx := Bd.exec
 have dc := @hb _ _ Bd.bytes
 have hml : c.maxLocals = 3 := aA
 have hown : s.vm.findClass "java/util/Arrays" = some m.cls := findClass_of_methodNamed Bd.named
 have hnm := (name_of_methodNamed Bd.named Bd.method).1
 have X0 : Stand p l e r_m15 s m #[(.ref a), (.int (0 : Int32)), (.int (Int32.ofNat k))] below meth c s₁ [] 0 0 := Stand.of_body Bd
 have e0 : s₁.heap = h0 := by rw [← hh, Bd.state]; rfl
 have N0 := Fr.nil n0
 have aP := own_alt q0.lt
 have aQ := own_alt q1.lt
 refine Gl.go (A := s₁.setTop (entryFrame m #[(.ref a), (.int (0 : Int32)), (.int (Int32.ofNat k))] 3)) (P := fun o_ U_ => ∃ v_ L_, o_ = .returned v_ ∧ QcorG Z a ka zz k xs h0 n0 v_ U_.heap L_ ∧ FrameEnd s o_ U_ L_ r_m15.cells r_m15.slots) (fun t_ k_ => castTop (ef_corG m a (0 : Int32) (Int32.ofNat k)) k_) ?_
 show Gl p.tables e below _ (s₁.setTop (mkF m 0 #[sR a, sI 0, sI (Int32.ofNat k)] []))
 rcases Nat.lt_or_eq_of_le hk with hlt | hlt
 ·show Gl p.tables e below _ (s₁.setTop (mkF m 0 #[sR a, sI 0, sI (Int32.ofNat k)] []))
  refine Gl.go (fun _ hr => ziloadN X0.here hx (dc d32_0) rfl (zifNo X0.here hx (dc d32_1) rfl (XT.i0_ne_f (by decide)) (ziloadN X0.here hx (dc d32_4) rfl (zaloadN X0.here hx (dc d32_5) rfl rfl hr)))) ?_
  obtain ⟨aM, av, aT, aE, aC, aH, aK⟩ := id q1
  refine gLen Gl.cl X0 hx hZ e0 av aE aC rfl rfl (dc d32_6) ?_
  refine Gl.go (fun _ hr => zicmpNo X0.here hx (dc d32_7) rfl (XT.ii_eq_f (own_ne32 (by omega) (by omega) (by omega))) (zaloadN X0.here hx (dc d32_10) rfl rfl (ziloadN X0.here hx (dc d32_11) rfl (ziloadN X0.here hx (dc d32_12) rfl hr)))) ?_
  have aG : n0 ≤ h0.size := by omega
  refine gStaticN Gl.cl (y := y_26) (argsL := [(.ref a), (.int (0 : Int32)), (.int (Int32.ofNat k))]) (rest := []) (mc := 1) (ms := 36) X0 hx hZ hown (mvT hZ (tw hw 180 rfl)) (mvT hZ (tw hw 181 rfl)) (mvT hZ (tw hw 178 rfl)) (mvT hZ (tw hw 182 rfl)) (by decide) (backOf (W := 0) (crb l Z a0 hw [] a ka zz k xs h0 n0 aG q1 (by assumption) (by assumption) (by assumption)) hZ (tw hw 182 rfl) (tw hw 178 rfl) (by decide) (by decide)) rfl (by rw [hml]; rfl) (lenOf pd_18 rfl) rfl (by exact Nat.le_of_eq rfl) (dc d32_13) rfl e0 (by decide) (by decide) ?_
  intro aV ae aJ az ag
  obtain ⟨ak, aB, rfl, ao, ac, ai, aO⟩ := az
  have aW : h0.size ≤ ae.heap.size := ac.1
  have am := Fr.app N0 ao
  have aR := own_alt ai.lt
  obtain ⟨fs, hr, hrun, hended, hW, hsame⟩ := ag.leave (v := some (.ref ak)) (fun h => by rw [Bd.returns] at h; cases h)
  refine ⟨_, _, retOut ag hx Bd.returns rfl (Or.inr (Or.inr (Or.inr (Or.inr ⟨rfl, rfl, rfl⟩)))) (dc d32_16) hr, hrun, hended, _, _, rfl, ?_, ⟨⟨_, rfl⟩, hW, hsame.mono (by decide) (by decide)⟩⟩
  show QcorG Z a ka zz k xs h0 n0 _ ae.heap _
  exact ⟨ak, aB, rfl, am, ((Keep.refl h0 []).trans ac all0), ai, (by omega)⟩
 ·show Gl p.tables e below _ (s₁.setTop (mkF m 0 #[sR a, sI 0, sI (Int32.ofNat k)] []))
  refine Gl.go (fun _ hr => ziloadN X0.here hx (dc d32_0) rfl (zifNo X0.here hx (dc d32_1) rfl (XT.i0_ne_f (by decide)) (ziloadN X0.here hx (dc d32_4) rfl (zaloadN X0.here hx (dc d32_5) rfl rfl hr)))) ?_
  obtain ⟨aN, aw, aU, aF, aD, aI, aL⟩ := id q1
  refine gLen Gl.cl X0 hx hZ e0 aw aF aD rfl rfl (dc d32_6) ?_
  refine Gl.go (fun _ hr => zicmpYes X0.here hx (pc0 := 7) (pc' := 17) rfl (dc d32_7) rfl (XT.ii_eq_t (congrArg Int32.ofNat hlt)) (by decide) (by decide) (zaloadN X0.here hx (dc d32_17) rfl rfl hr)) ?_
  obtain ⟨ap, aj, au, ax, ab, af, aa, al⟩ := cloneH X0 hx hZ hown (tw hw 287 rfl) (tw hw 288 rfl) (tw hw 292 rfl) (tw hw 290 rfl) (tw hw 291 rfl) (tw hw 293 rfl) e0 (Arv.arh q1) q0 (g := (mkF m 18 #[sR a, sI 0, sI (Int32.ofNat k)] [(.ref a)])) rfl (by rw [hml]; rfl) rfl (dc d32_18) (by decide) (W := 0) (cap := 36) (by exact Nat.le_of_eq rfl) (by decide) (by rw [own_nat32 (by omega)]; omega) (by decide) (by decide)
  obtain ⟨b561, g561⟩ : ∃ z, z = h0.size := ⟨_, rfl⟩
  rw [← g561] at af aa al
  have aX : h0.size ≤ aj.size := ab.1
  have aS := own_alt aa.lt
  have ar : Arv Z aj b561 ka .byte (Int32.ofNat zz) xs (.int (0 : Int32)) := af
  refine Gl.go al ?_
  show Gl p.tables e below _ (ap.setTop (mkF m 21 #[sR a, sI 0, sI (Int32.ofNat k)] [(.ref b561)]))
  refine gCast Gl.cl au hx hZ hown (tw hw 294 rfl) ax (Ins.self aa) rfl rfl (dc d32_21) ?_
  intro aq ah ay
  obtain ⟨fs, hr, hrun, hended, hW, hsame⟩ := ah.leave (v := some (.ref b561)) (fun h => by rw [Bd.returns] at h; cases h)
  refine ⟨_, _, retOut ah hx Bd.returns rfl (Or.inr (Or.inr (Or.inr (Or.inr ⟨rfl, rfl, rfl⟩)))) (dc d32_24) hr, hrun, hended, _, _, rfl, ?_, ⟨⟨_, rfl⟩, hW, hsame.mono (by decide) (by decide)⟩⟩
  show QcorG Z a ka zz k xs h0 n0 _ aq.heap _
  rw [ay]
  exact ⟨b561, ka, rfl, N0, ((Keep.refl h0 []).ext ab), (by have q := ar; rw [← hlt] at q; exact q), (by omega)⟩
def Qsi2G (Z : State) (x : Addr) (b : Addr) (a : Addr) (ka : ClassId) (cap : Nat) (cs : List Int32) (cb : Int32) (z : Int32) (xs : List Value) (G1 : Int32) (h0 : Heap) (n0 : Nat) (v : Option Value) (h : Heap) (L : List Loc) : Prop := ∃ (r : Addr), ∃ (kr : ClassId), ∃ (cdr : Int32), ∃ (N2 : Int32), ∃ (vsr : List Value), v = none ∧ Fr n0 L ∧ Keep h0 h [x] ∧ (XSt Z h x) ∧ (FSv Z h x (.ref r)) ∧ (FSc Z h x (.int cdr)) ∧ (Arv Z h r kr .byte N2 vsr (.int (0 : Int32))) ∧ (Lq h0.size r) ∧ (StrChars.Road.CodA cs cdr N2 vsr)
theorem ef_si2G (m : MethodId) (x0 : Addr) (x1 : Addr) : entryFrame m #[(.ref x0), (.ref x1), .null] 5 = mkF m 0 #[sR x0, sR x1, .val .null, sU, sU] [] := by first | (simp [entryFrame, mkF, argsToLocals, Value.category]; done) | rfl
abbrev K28 (i : Nat) := decode jdk_42_method_150_code i
theorem d28_0 : K28 0 = .ok (.aload_n 0, 1) := by decide +kernel
theorem d28_1 : K28 1 = .ok (.invokespecial 1, 3) := by decide +kernel
theorem d28_4 : K28 4 = .ok (.aload_n 1, 1) := by decide +kernel
theorem d28_5 : K28 5 = .ok (.invokevirtual 552, 3) := by decide +kernel
theorem pd_29 : parseMethodDescriptor "()[B" = some ⟨[], some (.array .byte)⟩ := by decide +kernel
theorem d28_8 : K28 8 = .ok (.astore_n 3, 1) := by decide +kernel
theorem d28_9 : K28 9 = .ok (.aload_n 1, 1) := by decide +kernel
theorem d28_10 : K28 10 = .ok (.invokevirtual 549, 3) := by decide +kernel
theorem d28_13 : K28 13 = .ok (.istore 4, 2) := by decide +kernel
theorem d28_15 : K28 15 = .ok (.aload_n 1, 1) := by decide +kernel
theorem d28_16 : K28 16 = .ok (.invokevirtual 1047, 3) := by decide +kernel
theorem d28_19 : K28 19 = .ok (.ifCond .eq 22, 3) := by decide +kernel
theorem d28_22 : K28 22 = .ok (.aload_n 0, 1) := by decide +kernel
theorem d28_23 : K28 23 = .ok (.iconst 0, 1) := by decide +kernel
theorem d28_24 : K28 24 = .ok (.putfield 15, 3) := by decide +kernel
theorem d28_27 : K28 27 = .ok (.aload_n 0, 1) := by decide +kernel
theorem d28_28 : K28 28 = .ok (.aload_n 3, 1) := by decide +kernel
theorem d28_29 : K28 29 = .ok (.iconst 0, 1) := by decide +kernel
theorem d28_30 : K28 30 = .ok (.iload 4, 2) := by decide +kernel
theorem d28_32 : K28 32 = .ok (.invokestatic 54, 3) := by decide +kernel
theorem d28_35 : K28 35 = .ok (.putfield 9, 3) := by decide +kernel
theorem d28_38 : K28 38 = .ok (.goto 59, 3) := by decide +kernel
theorem d28_97 : K28 97 = .ok (.return_, 1) := by decide +kernel
theorem d28_41 : K28 41 = .ok (.getstatic 38, 3) := by decide +kernel
theorem d28_44 : K28 44 = .ok (.ifCond .eq 35, 3) := by decide +kernel
theorem d28_47 : K28 47 = .ok (.aload_n 1, 1) := by decide +kernel
theorem d28_48 : K28 48 = .ok (.getfield 1048, 3) := by decide +kernel
theorem d28_51 : K28 51 = .ok (.ifCond .eq 28, 3) := by decide +kernel
theorem d28_79 : K28 79 = .ok (.aload_n 0, 1) := by decide +kernel
theorem d28_80 : K28 80 = .ok (.iconst 1, 1) := by decide +kernel
theorem d28_81 : K28 81 = .ok (.putfield 15, 3) := by decide +kernel
theorem d28_84 : K28 84 = .ok (.aload_n 0, 1) := by decide +kernel
theorem d28_85 : K28 85 = .ok (.aload_n 3, 1) := by decide +kernel
theorem d28_86 : K28 86 = .ok (.iconst 0, 1) := by decide +kernel
theorem d28_87 : K28 87 = .ok (.iload 4, 2) := by decide +kernel
theorem d28_89 : K28 89 = .ok (.iconst 1, 1) := by decide +kernel
theorem d28_90 : K28 90 = .ok (.ishl, 1) := by decide +kernel
theorem d28_91 : K28 91 = .ok (.invokestatic 54, 3) := by decide +kernel
theorem d28_94 : K28 94 = .ok (.putfield 9, 3) := by decide +kernel
set_option maxRecDepth 65536 in
set_option maxHeartbeats 40000000 in
theorem si2G (l : Launch) (Z : State) (a0 : Array Value) (hw : ∀ d ∈ tables_1, d.before a0 Z = true) (ws : List Jvm.Cond) (x : Addr) (b : Addr) (a : Addr) (ka : ClassId) (cap : Nat) (cs : List Int32) (cb : Int32) (z : Int32) (xs : List Value) (G1 : Int32) (h0 : Heap) (n0 : Nat) (Z0 : n0 ≤ h0.size) (q0 : SCs Z G1) (P5 : ¬ (G1 = (0 : Int32))) (q2 : OZ Z h0 n0) (q3 : Lq n0 x) (q4 : XSt Z h0 x) (q5 : FSv Z h0 x .null) (q6 : FSc Z h0 x (.int (0 : Int32))) (q7 : XBu Z h0 b) (q8 : FBv Z h0 b (.ref a)) (q9 : FBc Z h0 b (.int cb)) (q10 : FBn Z h0 b (.int (Int32.ofNat cs.length))) (q11 : FBm Z h0 b (.int (0 : Int32))) (q12 : Exa Z h0 a "[B") (q13 : Arv Z h0 a ka .byte z xs (.int (0 : Int32))) (bd : BdA cs cap cb z xs) (q15 : Nq x b) (q16 : Nq x a) (hcap : cap ≤ 18) (hcl : cs.length ≤ cap) :
  MetFree l y_44 (head1 (Jvm.Cond.code y_44 jdk_42_method_150_code 5 none :: ws) r_m27) (fun a_ U_ => a_ = #[(.ref x), (.ref b), .null] ∧ Z.Warmed39 U_.vm ∧ U_.heap = h0) (fun _ _ _ _ _ => True) (fun _ U_ o_ V_ => ∃ v_ L_, o_ = .returned v_ ∧ Qsi2G Z x b a ka cap cs cb z xs G1 h0 n0 v_ V_.heap L_ ∧ FrameEnd U_ o_ V_ L_ r_m27.cells r_m27.slots) := by
 refine MetFree.of_bodySF (plainFor_of_name pn_1) hisR ?_
 intro p e s m args below meth c s₁ Bd bX hP hK
 obtain ⟨rfl, hZ, hh⟩ := hP
 have hx := Bd.exec
 have dc := @hb _ _ Bd.bytes
 have hml : c.maxLocals = 5 := bX
 have hown : s.vm.findClass "java/lang/String" = some m.cls := findClass_of_methodNamed Bd.named
 have hnm := (name_of_methodNamed Bd.named Bd.method).1
 have X0 : Stand p l e r_m27 s m #[(.ref x), (.ref b), .null] below meth c s₁ [] 0 0 := Stand.of_body Bd
 have e0 : s₁.heap = h0 := by rw [← hh, Bd.state]; rfl
 have N0 := Fr.nil n0
 have Oo := q2.1
 have zo := q2.2
 have cO := own_alt q4.lt
 have cP := own_alt q5.lt
 have cQ := own_alt q6.lt
 have cR := own_alt q7.lt
 have cT := own_alt q8.lt
 have cU := own_alt q9.lt
 have cV := own_alt q10.lt
 have cW := own_alt q11.lt
 have cX := own_alt q12.lt
 have cY := own_alt q13.lt
 refine Gl.go (A := s₁.setTop (entryFrame m #[(.ref x), (.ref b), .null] 5)) (P := fun o_ U_ => ∃ v_ L_, o_ = .returned v_ ∧ Qsi2G Z x b a ka cap cs cb z xs G1 h0 n0 v_ U_.heap L_ ∧ FrameEnd s o_ U_ L_ r_m27.cells r_m27.slots) (fun t_ k_ => castTop (ef_si2G m x b) k_) ?_
 show Gl p.tables e below _ (s₁.setTop (mkF m 0 #[sR x, sR b, .val .null, sU, sU] []))
 rcases bd.cod with ⟨f1, f2, f3, f4⟩ | ⟨f1, f2, f3, f4⟩
 ·have Fb := q9
  rw [f1] at Fb
  have Vb := q13
  rw [f2, f3] at Vb
  show Gl p.tables e below _ (s₁.setTop (mkF m 0 #[sR x, sR b, .val .null, sU, sU] []))
  refine Gl.go (fun _ hr => zaloadN X0.here hx (dc d28_0) rfl rfl hr) ?_
  refine gInit Gl.cl (W := 0) X0 hx hZ hown (tw hw 16 rfl) (tw hw 17 rfl) (tw hw 18 rfl) e0 rfl (by rw [hml]; rfl) rfl (dc d28_1) (by decide) (by exact Nat.le_of_eq rfl) (by decide) ?_
  intro cy aE bz
  refine Gl.go (fun _ hr => zaloadN aE.here hx (dc d28_4) rfl rfl hr) ?_
  have b6 : n0 ≤ h0.size := by omega
  refine gVirtualN Gl.cl (y := y_21) (z := y_21) (b := b) (argsL := []) (rest := []) (mc := 0) (ms := 0) aE hx hZ hown (mvT hZ (tw hw 162 rfl)) (mvT hZ (tw hw 163 rfl)) (notFace_of_selects (args := #[]) (mvT hZ (tw hw 165 rfl))) (mvT hZ (tw hw 165 rfl)) (mvT hZ (tw hw 164 rfl)) (by decide) q7 (backOf (W := 0) (gv l Z a0 hw [] b a h0 n0 b6 q8) hZ (tw hw 166 rfl) (tw hw 44 rfl) (by decide) (by decide)) rfl (by rw [hml]; rfl) (lenOf pd_29 rfl) rfl (by exact Nat.le_of_eq rfl) (dc d28_5) rfl bz (by decide) (by decide) ?_
  intro c5 cz cm bP ar
  obtain ⟨rfl, be, bA⟩ := bP
  have aX := Fr.app N0 be
  refine Gl.go (fun _ hr => zastoreN ar.here hx (dc d28_8) rfl rfl (l' := #[sR x, sR b, .val .null, sR a, sU]) rfl (zaloadN ar.here hx (dc d28_9) rfl rfl hr)) ?_
  have b7 : n0 ≤ h0.size := by omega
  refine gVirtualN Gl.cl (y := y_22) (z := y_23) (b := b) (argsL := []) (rest := []) (mc := 0) (ms := 0) ar hx hZ hown (mvT hZ (tw hw 167 rfl)) (mvT hZ (tw hw 168 rfl)) (own_notFace (args := #[]) (mvT hZ (tw hw 83 rfl)) rfl) (mvT hZ (tw hw 170 rfl)) (mvT hZ (tw hw 171 rfl)) (by decide) q7 (backOf (W := 0) (sbl l Z a0 hw [] b (Int32.ofNat cs.length) h0 n0 b7 q7 q10) hZ (tw hw 172 rfl) (tw hw 36 rfl) (by decide) (by decide)) rfl (by rw [hml]; rfl) (lenOf pd_15 rfl) rfl (by exact Nat.le_of_eq rfl) (dc d28_10) rfl bA (by decide) (by decide) ?_
  intro c6 cC cn bQ au
  obtain ⟨rfl, bf, bB⟩ := bQ
  have aY := Fr.app aX bf
  refine Gl.go (fun _ hr => zistore au.here hx (dc d28_13) rfl (l' := #[sR x, sR b, .val .null, sR a, sI (Int32.ofNat cs.length)]) rfl (zaloadN au.here hx (dc d28_15) rfl rfl hr)) ?_
  have b8 : n0 ≤ h0.size := by omega
  refine gVirtualN Gl.cl (y := y_11) (z := y_11) (b := b) (argsL := []) (rest := []) (mc := 0) (ms := 0) au hx hZ hown (mvT hZ (tw hw 175 rfl)) (mvT hZ (tw hw 122 rfl)) (notFace_of_selects (args := #[]) (mvT hZ (tw hw 124 rfl))) (mvT hZ (tw hw 124 rfl)) (mvT hZ (tw hw 123 rfl)) (by decide) q7 (backOf (W := 0) (bl0 l Z a0 hw [] b G1 h0 n0 b8 q0 (by assumption) ⟨Oo, (by omega)⟩ Fb) hZ (tw hw 125 rfl) (tw hw 44 rfl) (by decide) (by decide)) rfl (by rw [hml]; rfl) (lenOf pd_14 rfl) rfl (by exact Nat.le_of_eq rfl) (dc d28_16) rfl bB (by decide) (by decide) ?_
  intro c7 cD co bR al
  obtain ⟨rfl, bg, bC⟩ := bR
  have aZ := Fr.app aY bg
  refine Gl.go (fun _ hr => zifNo al.here hx (dc d28_19) rfl (XT.i0_eq_f (by decide)) (zaloadN al.here hx (dc d28_22) rfl rfl (ziconst al.here hx (dc d28_23) hr))) ?_
  refine gPutF (host := "") Gl.cl al hx hZ hown (Or.inl (tw hw 26 rfl)) Via.refl bC q6 q4 (Or.inr ⟨(tw hw 22 rfl), rfl, hnm⟩) (tw hw 6 rfl) (ty := .byte) (by decide) rfl rfl rfl rfl (dc d28_24) ?_
  intro cE ap ag bD ab
  have df : h0.size ≤ ap.size := (Keep.of_wr ab).1
  have aT := q6.same ab
  have aJ : Lq n0 x := by omega
  have a3 := Fr.snoc ag aZ (own_ale aJ)
  refine Gl.go (fun _ hr => zaloadN ag.here hx (dc d28_27) rfl rfl (zaloadN ag.here hx (dc d28_28) rfl rfl (ziconst ag.here hx (dc d28_29) (ziload ag.here hx (dc d28_30) rfl hr)))) ?_
  have aN := (q12.wr ab)
  have b0 : Nq a x := by omega
  have bq := (Vb.other ab (own_ane b0))
  have b9 : n0 ≤ ap.size := by omega
  refine gStaticN Gl.cl (y := y_27) (argsL := [(.ref a), (.int (0 : Int32)), (.int (Int32.ofNat cs.length))]) (rest := [(.ref x)]) (mc := 1) (ms := 36) ag hx hZ hown (mvT hZ (tw hw 176 rfl)) (mvT hZ (tw hw 177 rfl)) (mvT hZ (tw hw 178 rfl)) (mvT hZ (tw hw 179 rfl)) (by decide) (backOf (W := 1) (corG l Z a0 hw [] a ka cap cs.length (lb cs) ap n0 b9 aN bq (lb_len cs) (by omega) (by omega)) hZ (tw hw 179 rfl) (tw hw 178 rfl) (by decide) (by decide)) rfl (by rw [hml]; rfl) (lenOf pd_18 rfl) rfl (by exact Nat.le_of_eq rfl) (dc d28_32) rfl bD (by decide) (by decide) ?_
  intro c8 aj cp bS bu
  obtain ⟨aL, bY, rfl, bh, ah, aH, cL⟩ := bS
  have dg : ap.size ≤ aj.heap.size := ah.1
  have a5 := Fr.app a3 bh
  have cZ := own_alt aH.lt
  have aB := ((q5.other ab (Or.inr (slot_ne (Or.inr (tw hw 21 rfl)) (Or.inr (tw hw 22 rfl)) (by decide) (t := (.array .byte)) (t' := .byte) (by decide) (by decide)))).keep ah nin0)
  have az := ((q4.wr ab).keep ah)
  refine gPutF (host := "") Gl.cl bu hx hZ hown (Or.inl (tw hw 25 rfl)) Via.refl (rfl : aj.heap = aj.heap) aB az (Or.inr ⟨(tw hw 21 rfl), rfl, hnm⟩) (tw hw 6 rfl) (ty := (.array .byte)) (by decide) rfl rfl rfl rfl (dc d28_35) ?_
  intro bo bN am bE ae
  have dh : aj.heap.size ≤ bN.size := (Keep.of_wr ae).1
  have aU := aB.same ae
  have a6 := Fr.snoc am a5 (own_ale aJ)
  refine Gl.go (fun _ hr => zgoto am.here hx (pc0 := 38) (pc' := 97) rfl (dc d28_38) (by decide) (by decide) hr) ?_
  have aO := (az.wr ae)
  have aR := ((aT.keep ah nin0).other ae (Or.inr (slot_ne (Or.inr (tw hw 22 rfl)) (Or.inr (tw hw 21 rfl)) (by decide) (t := .byte) (t' := (.array .byte)) (by decide) (by decide))))
  have b3 : Nq aL x := by omega
  have br := (aH.other ae (own_ane b3))
  obtain ⟨fs, hr, hrun, hended, hW, hsame⟩ := am.leave (v := none) (fun _ => rfl)
  refine ⟨_, _, am.returnOut hx Bd.returns (dc d28_97) hr, hrun, hended, _, _, rfl, ?_, ⟨⟨_, rfl⟩, hW, hsame.mono (by decide) (by decide)⟩⟩
  show Qsi2G Z x b a ka cap cs cb z xs G1 h0 n0 _ bo.heap _
  rw [bE]
  exact ⟨aL, bY, (0 : Int32), (Int32.ofNat cs.length), (lb cs), rfl, a6, ((((Keep.refl h0 [x]).wr ab (Or.inl (by simp))).trans ah all0).wr ae (Or.inl (by simp))), aO, aU, aR, br, (by omega), (Or.inl ⟨rfl, rfl, (own_lom _).symm, fun c hc => (f4 c hc).2⟩)⟩
 ·have Fb := q9
  rw [f1] at Fb
  have Vb := q13
  rw [f2, f3] at Vb
  show Gl p.tables e below _ (s₁.setTop (mkF m 0 #[sR x, sR b, .val .null, sU, sU] []))
  refine Gl.go (fun _ hr => zaloadN X0.here hx (dc d28_0) rfl rfl hr) ?_
  refine gInit Gl.cl (W := 0) X0 hx hZ hown (tw hw 16 rfl) (tw hw 17 rfl) (tw hw 18 rfl) e0 rfl (by rw [hml]; rfl) rfl (dc d28_1) (by decide) (by exact Nat.le_of_eq rfl) (by decide) ?_
  intro cF aF bF
  refine Gl.go (fun _ hr => zaloadN aF.here hx (dc d28_4) rfl rfl hr) ?_
  have ca : n0 ≤ h0.size := by omega
  refine gVirtualN Gl.cl (y := y_21) (z := y_21) (b := b) (argsL := []) (rest := []) (mc := 0) (ms := 0) aF hx hZ hown (mvT hZ (tw hw 162 rfl)) (mvT hZ (tw hw 163 rfl)) (notFace_of_selects (args := #[]) (mvT hZ (tw hw 165 rfl))) (mvT hZ (tw hw 165 rfl)) (mvT hZ (tw hw 164 rfl)) (by decide) q7 (backOf (W := 0) (gv l Z a0 hw [] b a h0 n0 ca q8) hZ (tw hw 166 rfl) (tw hw 44 rfl) (by decide) (by decide)) rfl (by rw [hml]; rfl) (lenOf pd_29 rfl) rfl (by exact Nat.le_of_eq rfl) (dc d28_5) rfl bF (by decide) (by decide) ?_
  intro c9 cG ct bT av
  obtain ⟨rfl, bj, bG⟩ := bT
  have a7 := Fr.app N0 bj
  refine Gl.go (fun _ hr => zastoreN av.here hx (dc d28_8) rfl rfl (l' := #[sR x, sR b, .val .null, sR a, sU]) rfl (zaloadN av.here hx (dc d28_9) rfl rfl hr)) ?_
  have cg : n0 ≤ h0.size := by omega
  refine gVirtualN Gl.cl (y := y_22) (z := y_23) (b := b) (argsL := []) (rest := []) (mc := 0) (ms := 0) av hx hZ hown (mvT hZ (tw hw 167 rfl)) (mvT hZ (tw hw 168 rfl)) (own_notFace (args := #[]) (mvT hZ (tw hw 83 rfl)) rfl) (mvT hZ (tw hw 170 rfl)) (mvT hZ (tw hw 171 rfl)) (by decide) q7 (backOf (W := 0) (sbl l Z a0 hw [] b (Int32.ofNat cs.length) h0 n0 cg q7 q10) hZ (tw hw 172 rfl) (tw hw 36 rfl) (by decide) (by decide)) rfl (by rw [hml]; rfl) (lenOf pd_15 rfl) rfl (by exact Nat.le_of_eq rfl) (dc d28_10) rfl bG (by decide) (by decide) ?_
  intro da cH cu bU aw
  obtain ⟨rfl, bl, bH⟩ := bU
  have a8 := Fr.app a7 bl
  refine Gl.go (fun _ hr => zistore aw.here hx (dc d28_13) rfl (l' := #[sR x, sR b, .val .null, sR a, sI (Int32.ofNat cs.length)]) rfl (zaloadN aw.here hx (dc d28_15) rfl rfl hr)) ?_
  have ci : n0 ≤ h0.size := by omega
  refine gVirtualN Gl.cl (y := y_11) (z := y_11) (b := b) (argsL := []) (rest := []) (mc := 0) (ms := 0) aw hx hZ hown (mvT hZ (tw hw 175 rfl)) (mvT hZ (tw hw 122 rfl)) (notFace_of_selects (args := #[]) (mvT hZ (tw hw 124 rfl))) (mvT hZ (tw hw 124 rfl)) (mvT hZ (tw hw 123 rfl)) (by decide) q7 (backOf (W := 0) (bl1 l Z a0 hw [] b G1 h0 n0 ci q0 (by assumption) ⟨Oo, (by omega)⟩ Fb) hZ (tw hw 125 rfl) (tw hw 44 rfl) (by decide) (by decide)) rfl (by rw [hml]; rfl) (lenOf pd_14 rfl) rfl (by exact Nat.le_of_eq rfl) (dc d28_16) rfl bH (by decide) (by decide) ?_
  intro db cI cw bV aG
  obtain ⟨rfl, bm, bI⟩ := bV
  have a9 := Fr.app a8 bm
  refine Gl.go (fun _ hr => zifYes aG.here hx (pc0 := 19) (pc' := 41) rfl (dc d28_19) rfl (XT.i0_eq_t (by decide)) (by decide) (by decide) hr) ?_
  refine gGetS (host := "") Gl.cl aG hx hZ hown (Or.inl (tw hw 57 rfl)) Via.refl bI (q0.ext Oo.2) rfl (dc d28_41) ?_
  intro cJ ax bJ
  refine Gl.go (fun _ hr => zifNo ax.here hx (dc d28_44) rfl (XT.i0_eq_f P5) (zaloadN ax.here hx (dc d28_47) rfl rfl hr)) ?_
  refine gGetF (host := "") Gl.cl ax hx hZ hown (Or.inl (tw hw 282 rfl)) Via.refl bJ q11 rfl rfl (dc d28_48) ?_
  intro cK ao bK
  refine Gl.go (fun _ hr => zifYes ao.here hx (pc0 := 51) (pc' := 79) rfl (dc d28_51) rfl (XT.i0_eq_t (by decide)) (by decide) (by decide) (zaloadN ao.here hx (dc d28_79) rfl rfl (ziconst ao.here hx (dc d28_80) hr))) ?_
  refine gPutF (host := "") Gl.cl ao hx hZ hown (Or.inl (tw hw 26 rfl)) Via.refl bK q6 q4 (Or.inr ⟨(tw hw 22 rfl), rfl, hnm⟩) (tw hw 6 rfl) (ty := .byte) (by decide) rfl rfl rfl rfl (dc d28_81) ?_
  intro aD aq aa bL ac
  have di : h0.size ≤ aq.size := (Keep.of_wr ac).1
  have aV := q6.same ac
  have aK : Lq n0 x := by omega
  have ba := Fr.snoc aa a9 (own_ale aK)
  refine Gl.go (fun _ hr => zaloadN aa.here hx (dc d28_84) rfl rfl (zaloadN aa.here hx (dc d28_85) rfl rfl (ziconst aa.here hx (dc d28_86) (ziload aa.here hx (dc d28_87) rfl (ziconst aa.here hx (dc d28_89) (zishl aa.here hx (dc d28_90) rfl hr)))))) ?_
  show Gl p.tables e below _ (aD.setTop (mkF m 91 #[sR x, sR b, .val .null, sR a, sI (Int32.ofNat cs.length)] [(.int ((Int32.ofNat cs.length) <<< ((1 : Int32) &&& 31))), (.int (0 : Int32)), (.ref a), (.ref x)]))
  rw [(own_shl1 (i := cs.length) (by omega))]
  show Gl p.tables e below _ (aD.setTop (mkF m 91 #[sR x, sR b, .val .null, sR a, sI (Int32.ofNat cs.length)] [(.int (Int32.ofNat (2 * cs.length))), (.int (0 : Int32)), (.ref a), (.ref x)]))
  have aP := (q12.wr ac)
  have b4 : Nq a x := by omega
  have bs := (Vb.other ac (own_ane b4))
  have cj : n0 ≤ aq.size := by omega
  refine gStaticN Gl.cl (y := y_27) (argsL := [(.ref a), (.int (0 : Int32)), (.int (Int32.ofNat (2 * cs.length)))]) (rest := [(.ref x)]) (mc := 1) (ms := 36) aa hx hZ hown (mvT hZ (tw hw 176 rfl)) (mvT hZ (tw hw 177 rfl)) (mvT hZ (tw hw 178 rfl)) (mvT hZ (tw hw 179 rfl)) (by decide) (backOf (W := 1) (corG l Z a0 hw [] a ka (2 * cap) (2 * cs.length) (StrChars.Road.wideBytes cs) aq n0 cj aP bs (wide_len cs) (by omega) (by omega)) hZ (tw hw 179 rfl) (tw hw 178 rfl) (by decide) (by decide)) rfl (by rw [hml]; rfl) (lenOf pd_18 rfl) rfl (by exact Nat.le_of_eq rfl) (dc d28_91) rfl bL (by decide) (by decide) ?_
  intro de ak cx bW bv
  obtain ⟨aM, bZ, rfl, bn, ai, aI, cN⟩ := bW
  have dj : aq.size ≤ ak.heap.size := ai.1
  have bb := Fr.app ba bn
  have c3 := own_alt aI.lt
  have aC := ((q5.other ac (Or.inr (slot_ne (Or.inr (tw hw 21 rfl)) (Or.inr (tw hw 22 rfl)) (by decide) (t := (.array .byte)) (t' := .byte) (by decide) (by decide)))).keep ai nin0)
  have aA := ((q4.wr ac).keep ai)
  refine gPutF (host := "") Gl.cl bv hx hZ hown (Or.inl (tw hw 25 rfl)) Via.refl (rfl : ak.heap = ak.heap) aC aA (Or.inr ⟨(tw hw 21 rfl), rfl, hnm⟩) (tw hw 6 rfl) (ty := (.array .byte)) (by decide) rfl rfl rfl rfl (dc d28_94) ?_
  intro bp bO ay bM af
  have dk : ak.heap.size ≤ bO.size := (Keep.of_wr af).1
  have aW := aC.same af
  have bc := Fr.snoc ay bb (own_ale aK)
  have aQ := (aA.wr af)
  have aS := ((aV.keep ai nin0).other af (Or.inr (slot_ne (Or.inr (tw hw 22 rfl)) (Or.inr (tw hw 21 rfl)) (by decide) (t := .byte) (t' := (.array .byte)) (by decide) (by decide))))
  have b5 : Nq aM x := by omega
  have bt := (aI.other af (own_ane b5))
  obtain ⟨fs, hr, hrun, hended, hW, hsame⟩ := ay.leave (v := none) (fun _ => rfl)
  refine ⟨_, _, ay.returnOut hx Bd.returns (dc d28_97) hr, hrun, hended, _, _, rfl, ?_, ⟨⟨_, rfl⟩, hW, hsame.mono (by decide) (by decide)⟩⟩
  show Qsi2G Z x b a ka cap cs cb z xs G1 h0 n0 _ bp.heap _
  rw [bM]
  exact ⟨aM, bZ, (1 : Int32), (Int32.ofNat (2 * cs.length)), (StrChars.Road.wideBytes cs), rfl, bc, ((((Keep.refl h0 [x]).wr ac (Or.inl (by simp))).trans ai all0).wr af (Or.inl (by simp))), aQ, aW, aS, bt, (by omega), (Or.inr ⟨rfl, rfl, rfl, f4⟩)⟩
def Qsi1G (Z : State) (x : Addr) (b : Addr) (a : Addr) (ka : ClassId) (cap : Nat) (cs : List Int32) (cb : Int32) (z : Int32) (xs : List Value) (G1 : Int32) (h0 : Heap) (n0 : Nat) (v : Option Value) (h : Heap) (L : List Loc) : Prop := ∃ (r : Addr), ∃ (kr : ClassId), ∃ (cdr : Int32), ∃ (N2 : Int32), ∃ (vsr : List Value), v = none ∧ Fr n0 L ∧ Keep h0 h [x] ∧ (XSt Z h x) ∧ (FSv Z h x (.ref r)) ∧ (FSc Z h x (.int cdr)) ∧ (Arv Z h r kr .byte N2 vsr (.int (0 : Int32))) ∧ (Lq h0.size r) ∧ (StrChars.Road.CodA cs cdr N2 vsr)
theorem ef_si1G (m : MethodId) (x0 : Addr) (x1 : Addr) : entryFrame m #[(.ref x0), (.ref x1)] 2 = mkF m 0 #[sR x0, sR x1] [] := by first | (simp [entryFrame, mkF, argsToLocals, Value.category]; done) | rfl
abbrev K27 (i : Nat) := decode jdk_42_method_53_code i
theorem d27_0 : K27 0 = .ok (.aload_n 0, 1) := by decide +kernel
theorem d27_1 : K27 1 = .ok (.aload_n 1, 1) := by decide +kernel
theorem d27_2 : K27 2 = .ok (.aconst_null, 1) := by decide +kernel
theorem d27_3 : K27 3 = .ok (.invokespecial 489, 3) := by decide +kernel
theorem pd_30 : parseMethodDescriptor "(Ljava/lang/AbstractStringBuilder;Ljava/lang/Void;)V" = some ⟨[(.object "java/lang/AbstractStringBuilder"), (.object "java/lang/Void")], none⟩ := by decide +kernel
theorem d27_6 : K27 6 = .ok (.return_, 1) := by decide +kernel
set_option maxRecDepth 65536 in
set_option maxHeartbeats 40000000 in
theorem si1G (l : Launch) (Z : State) (a0 : Array Value) (hw : ∀ d ∈ tables_1, d.before a0 Z = true) (ws : List Jvm.Cond) (x : Addr) (b : Addr) (a : Addr) (ka : ClassId) (cap : Nat) (cs : List Int32) (cb : Int32) (z : Int32) (xs : List Value) (G1 : Int32) (h0 : Heap) (n0 : Nat) (Z0 : n0 ≤ h0.size) (q0 : SCs Z G1) (P5 : ¬ (G1 = (0 : Int32))) (q2 : OZ Z h0 n0) (q3 : Lq n0 x) (q4 : XSt Z h0 x) (q5 : FSv Z h0 x .null) (q6 : FSc Z h0 x (.int (0 : Int32))) (q7 : XBu Z h0 b) (q8 : FBv Z h0 b (.ref a)) (q9 : FBc Z h0 b (.int cb)) (q10 : FBn Z h0 b (.int (Int32.ofNat cs.length))) (q11 : FBm Z h0 b (.int (0 : Int32))) (q12 : Exa Z h0 a "[B") (q13 : Arv Z h0 a ka .byte z xs (.int (0 : Int32))) (bd : BdA cs cap cb z xs) (q15 : Nq x b) (q16 : Nq x a) (hcap : cap ≤ 18) (hcl : cs.length ≤ cap) :
  MetFree l y_45 (head1 (Jvm.Cond.code y_45 jdk_42_method_53_code 2 none :: ws) r_m28) (fun a_ U_ => a_ = #[(.ref x), (.ref b)] ∧ Z.Warmed39 U_.vm ∧ U_.heap = h0) (fun _ _ _ _ _ => True) (fun _ U_ o_ V_ => ∃ v_ L_, o_ = .returned v_ ∧ Qsi1G Z x b a ka cap cs cb z xs G1 h0 n0 v_ V_.heap L_ ∧ FrameEnd U_ o_ V_ L_ r_m28.cells r_m28.slots) := by
 refine MetFree.of_bodySF (plainFor_of_name pn_1) hisR ?_
 intro p e s m args below meth c s₁ Bd ao hP hK
 obtain ⟨rfl, hZ, hh⟩ := hP
 have hx := Bd.exec
 have dc := @hb _ _ Bd.bytes
 have hml : c.maxLocals = 2 := ao
 have hown : s.vm.findClass "java/lang/String" = some m.cls := findClass_of_methodNamed Bd.named
 have hnm := (name_of_methodNamed Bd.named Bd.method).1
 have X0 : Stand p l e r_m28 s m #[(.ref x), (.ref b)] below meth c s₁ [] 0 0 := Stand.of_body Bd
 have e0 : s₁.heap = h0 := by rw [← hh, Bd.state]; rfl
 have N0 := Fr.nil n0
 have Oo := q2.1
 have zo := q2.2
 have ax := own_alt q4.lt
 have ay := own_alt q5.lt
 have az := own_alt q6.lt
 have aA := own_alt q7.lt
 have aB := own_alt q8.lt
 have aC := own_alt q9.lt
 have aD := own_alt q10.lt
 have aE := own_alt q11.lt
 have aF := own_alt q12.lt
 have aG := own_alt q13.lt
 refine Gl.go (A := s₁.setTop (entryFrame m #[(.ref x), (.ref b)] 2)) (P := fun o_ U_ => ∃ v_ L_, o_ = .returned v_ ∧ Qsi1G Z x b a ka cap cs cb z xs G1 h0 n0 v_ U_.heap L_ ∧ FrameEnd s o_ U_ L_ r_m28.cells r_m28.slots) (fun t_ k_ => castTop (ef_si1G m x b) k_) ?_
 show Gl p.tables e below _ (s₁.setTop (mkF m 0 #[sR x, sR b] []))
 refine Gl.go (fun _ hr => zaloadN X0.here hx (dc d27_0) rfl rfl (zaloadN X0.here hx (dc d27_1) rfl rfl (zaconstNull X0.here hx (dc d27_2) hr))) ?_
 have au : n0 ≤ h0.size := by omega
 refine gSpecialN Gl.cl (y := y_44) (b := x) (argsL := [(.ref b), .null]) (rest := []) (mc := 1) (ms := 36) X0 hx hZ hown rfl (mvT hZ (tw hw 159 rfl)) (mvT hZ (tw hw 160 rfl)) (mvT hZ (tw hw 161 rfl)) (by decide) (backOf (W := 0) (si2G l Z a0 hw [] x b a ka cap cs cb z xs G1 h0 n0 au q0 (by assumption) ⟨Oo, (by omega)⟩ (by omega) q4 q5 q6 q7 q8 q9 q10 q11 q12 q13 (by assumption) (by omega) (by omega) (by assumption) (by assumption)) hZ (tw hw 161 rfl) (tw hw 7 rfl) (by decide) (by decide)) rfl (by rw [hml]; rfl) (lenOf pd_30 rfl) rfl (by exact Nat.le_of_eq rfl) (dc d27_3) rfl e0 (by decide) (by decide) ?_
 intro aM ab av am ac
 obtain ⟨aq, ap, al, ai, ar, rfl, ak, aa, ae, af, ag, ah, aw, aL⟩ := am
 have aN : h0.size ≤ ab.heap.size := aa.1
 have aj := Fr.app N0 ak
 have aH := own_alt ae.lt
 have aI := own_alt af.lt
 have aJ := own_alt ag.lt
 have aK := own_alt ah.lt
 obtain ⟨fs, hr, hrun, hended, hW, hsame⟩ := ac.leave (v := none) (fun _ => rfl)
 refine ⟨_, _, ac.returnOut hx Bd.returns (dc d27_6) hr, hrun, hended, _, _, rfl, ?_, ⟨⟨_, rfl⟩, hW, hsame.mono (by decide) (by decide)⟩⟩
 show Qsi1G Z x b a ka cap cs cb z xs G1 h0 n0 _ ab.heap _
 exact ⟨aq, ap, al, ai, ar, rfl, aj, ((Keep.refl h0 [x]).trans aa (allS (P := fun x_ => x_ ∈ ([x] : List Addr) ∨ h0.size ≤ x_) (Or.inl (by simp)) all0)), ae, af, ag, ah, (by omega), (by assumption)⟩
def QtsG (Z : State) (b : Addr) (a : Addr) (ka : ClassId) (cap : Nat) (cs : List Int32) (cb : Int32) (z : Int32) (xs : List Value) (G1 : Int32) (h0 : Heap) (n0 : Nat) (v : Option Value) (h : Heap) (L : List Loc) : Prop := ∃ (r : Addr), ∃ (t : Addr), ∃ (kr : ClassId), ∃ (cdr : Int32), ∃ (N2 : Int32), ∃ (vsr : List Value), v = some (.ref r) ∧ Fr n0 L ∧ Keep h0 h [] ∧ (XSt Z h r) ∧ (FSv Z h r (.ref t)) ∧ (FSc Z h r (.int cdr)) ∧ (Arv Z h t kr .byte N2 vsr (.int (0 : Int32))) ∧ (@LE.le Nat instLENat h0.size r ∧ Lq h0.size t) ∧ (StrChars.Road.CodA cs cdr N2 vsr)
theorem ef_tsG (m : MethodId) (x0 : Addr) : entryFrame m #[(.ref x0)] 1 = mkF m 0 #[sR x0] [] := by first | (simp [entryFrame, mkF, argsToLocals, Value.category]; done) | rfl
abbrev K26 (i : Nat) := decode jdk_67_method_42_code i
theorem d26_0 : K26 0 = .ok (.new 18, 3) := by decide +kernel
theorem d26_3 : K26 3 = .ok (.dup, 1) := by decide +kernel
theorem d26_4 : K26 4 = .ok (.aload_n 0, 1) := by decide +kernel
theorem d26_5 : K26 5 = .ok (.invokespecial 137, 3) := by decide +kernel
theorem pd_31 : parseMethodDescriptor "(Ljava/lang/StringBuilder;)V" = some ⟨[(.object "java/lang/StringBuilder")], none⟩ := by decide +kernel
theorem d26_8 : K26 8 = .ok (.areturn, 1) := by decide +kernel
set_option maxRecDepth 65536 in
set_option maxHeartbeats 40000000 in
theorem tsG (l : Launch) (Z : State) (a0 : Array Value) (hw : ∀ d ∈ tables_1, d.before a0 Z = true) (ws : List Jvm.Cond) (b : Addr) (a : Addr) (ka : ClassId) (cap : Nat) (cs : List Int32) (cb : Int32) (z : Int32) (xs : List Value) (G1 : Int32) (h0 : Heap) (n0 : Nat) (Z0 : n0 ≤ h0.size) (q0 : SCs Z G1) (P5 : ¬ (G1 = (0 : Int32))) (q2 : OZ Z h0 n0) (q3 : XBu Z h0 b) (q4 : FBv Z h0 b (.ref a)) (q5 : FBc Z h0 b (.int cb)) (q6 : FBn Z h0 b (.int (Int32.ofNat cs.length))) (q7 : FBm Z h0 b (.int (0 : Int32))) (q8 : Exa Z h0 a "[B") (q9 : Arv Z h0 a ka .byte z xs (.int (0 : Int32))) (bd : BdA cs cap cb z xs) (hcap : cap ≤ 18) (hcl : cs.length ≤ cap) :
  MetFree l y_46 (head1 (Jvm.Cond.code y_46 jdk_67_method_42_code 1 (some (.object "java/lang/String")) :: ws) r_m29) (fun a_ U_ => a_ = #[(.ref b)] ∧ Z.Warmed39 U_.vm ∧ U_.heap = h0) (fun _ _ _ _ _ => True) (fun _ U_ o_ V_ => ∃ v_ L_, o_ = .returned v_ ∧ QtsG Z b a ka cap cs cb z xs G1 h0 n0 v_ V_.heap L_ ∧ FrameEnd U_ o_ V_ L_ r_m29.cells r_m29.slots) := by
 refine MetFree.of_bodySF (plainFor_of_name pn_5) hisR ?_
 intro p e s m args below meth c s₁ Bd aH hP hK
 obtain ⟨rfl, hZ, hh⟩ := hP
 have hx := Bd.exec
 have dc := @hb _ _ Bd.bytes
 have hml : c.maxLocals = 1 := aH
 have hown : s.vm.findClass "java/lang/StringBuilder" = some m.cls := findClass_of_methodNamed Bd.named
 have hnm := (name_of_methodNamed Bd.named Bd.method).1
 have X0 : Stand p l e r_m29 s m #[(.ref b)] below meth c s₁ [] 0 0 := Stand.of_body Bd
 have e0 : s₁.heap = h0 := by rw [← hh, Bd.state]; rfl
 have N0 := Fr.nil n0
 have Oo := q2.1
 have zo := q2.2
 have aR := own_alt q3.lt
 have aS := own_alt q4.lt
 have aT := own_alt q5.lt
 have aU := own_alt q6.lt
 have aV := own_alt q7.lt
 have aW := own_alt q8.lt
 have aX := own_alt q9.lt
 refine Gl.go (A := s₁.setTop (entryFrame m #[(.ref b)] 1)) (P := fun o_ U_ => ∃ v_ L_, o_ = .returned v_ ∧ QtsG Z b a ka cap cs cb z xs G1 h0 n0 v_ U_.heap L_ ∧ FrameEnd s o_ U_ L_ r_m29.cells r_m29.slots) (fun t_ k_ => castTop (ef_tsG m b) k_) ?_
 show Gl p.tables e below _ (s₁.setTop (mkF m 0 #[sR b] []))
 refine gNew Gl.cl X0 hx hZ hown (tw hw 155 rfl) (tw hw 6 rfl) (tw hw 7 rfl) e0 rfl (dc d26_0) (by decide) (by decide) ?_
 intro aO ac ab aQ ae aF aa af ag
 have a9 : h0.size ≤ ac.size := aa.1
 have aY := own_alt af.lt
 have au : FSv Z ac ab .null := ag (Or.inr (tw hw 21 rfl)) (ty := (.array .byte)) (by decide)
 have ar : FSc Z ac ab (.int (0 : Int32)) := ag (Or.inr (tw hw 22 rfl)) (ty := .byte) (by decide)
 refine Gl.go (fun _ hr => zdup ae.here hx (dc d26_3) rfl rfl (zaloadN ae.here hx (dc d26_4) rfl rfl hr)) ?_
 have aC := (Oo.ext aa)
 have ap := (q3.ext aa)
 have av := (q4.ext aa)
 have aw := (q5.ext aa)
 have ax := (q6.ext aa)
 have ay := (q7.ext aa)
 have aq := (q8.ext aa)
 have aD := (q9.ext aa)
 have aM : n0 ≤ ac.size := by omega
 refine gSpecialN Gl.cl (y := y_45) (b := ab) (argsL := [(.ref b)]) (rest := [(.ref ab)]) (mc := 1) (ms := 36) ae hx hZ hown rfl (mvT hZ (tw hw 156 rfl)) (mvT hZ (tw hw 157 rfl)) (mvT hZ (tw hw 158 rfl)) (by decide) (backOf (W := 1) (si1G l Z a0 hw [] ab b a ka cap cs cb z xs G1 ac n0 aM q0 (by assumption) ⟨aC, (by omega)⟩ (by omega) af au ar ap av aw ax ay aq aD (by assumption) (by omega) (by omega) (by assumption) (by assumption)) hZ (tw hw 158 rfl) (tw hw 7 rfl) (by decide) (by decide)) rfl (by rw [hml]; rfl) (lenOf pd_31 rfl) rfl (by exact Nat.le_of_eq rfl) (dc d26_5) rfl aF (by decide) (by decide) ?_
 intro a8 ai aN aG aj
 obtain ⟨aK, aI, aE, az, aL, rfl, aB, ah, ak, al, am, ao, aP, a7⟩ := aG
 have ba : ac.size ≤ ai.heap.size := ah.1
 have aA := Fr.app N0 aB
 have aZ := own_alt ak.lt
 have a3 := own_alt al.lt
 have a5 := own_alt am.lt
 have a6 := own_alt ao.lt
 obtain ⟨fs, hr, hrun, hended, hW, hsame⟩ := aj.leave (v := some (.ref ab)) (fun h => by rw [Bd.returns] at h; cases h)
 have aJ : Lq h0.size ab := by omega
 refine ⟨_, _, retOut aj hx Bd.returns rfl (Or.inr (Or.inr (Or.inr (Or.inr ⟨rfl, rfl, rfl⟩)))) (dc d26_8) hr, hrun, hended, _, _, rfl, ?_, ⟨⟨_, rfl⟩, hW, hsame.mono (by decide) (by decide)⟩⟩
 show QtsG Z b a ka cap cs cb z xs G1 h0 n0 _ ai.heap _
 exact ⟨ab, aK, aI, aE, az, aL, rfl, aA, (((Keep.refl h0 []).ext aa).trans ah (allS (P := fun x_ => x_ ∈ ([] : List Addr) ∨ h0.size ≤ x_) (Or.inr (own_ale aJ)) all0)), ak, al, am, ao, ⟨by omega, by omega⟩, (by assumption)⟩
def QbrgG (Z : State) (b : Addr) (a : Addr) (ka : ClassId) (cb : Int32) (z : Int32) (x : Addr) (t : Addr) (kb : ClassId) (cd : Int32) (N : Int32) (vs : List Value) (ds : List Int32) (G1 : Int32) (G3 : Value) (h0 : Heap) (n0 : Nat) (v : Option Value) (h : Heap) (L : List Loc) : Prop := ∃ (a2 : Addr), ∃ (k2 : ClassId), ∃ (cb2 : Int32), ∃ (z2 : Int32), ∃ (xs2 : List Value), v = some (.ref b) ∧ Fr n0 L ∧ Keep h0 h [b, a] ∧ (XBu Z h b) ∧ (FBv Z h b (.ref a2)) ∧ (FBc Z h b (.int cb2)) ∧ (FBn Z h b (.int (Int32.ofNat ds.length))) ∧ (FBm Z h b (.int (0 : Int32))) ∧ (Exa Z h a2 "[B") ∧ (Arv Z h a2 k2 .byte z2 xs2 (.int (0 : Int32))) ∧ (BdA ds (ds.length + 16) cb2 z2 xs2) ∧ (@Eq Nat a2 a ∨ Lq h0.size a2)
theorem ef_brgG (m : MethodId) (x0 : Addr) (x1 : Addr) : entryFrame m #[(.ref x0), (.ref x1)] 2 = mkF m 0 #[sR x0, sR x1] [] := by first | (simp [entryFrame, mkF, argsToLocals, Value.category]; done) | rfl
abbrev K10 (i : Nat) := decode jdk_67_method_80_code i
theorem d10_0 : K10 0 = .ok (.aload_n 0, 1) := by decide +kernel
theorem d10_1 : K10 1 = .ok (.aload_n 1, 1) := by decide +kernel
theorem d10_2 : K10 2 = .ok (.invokevirtual 23, 3) := by decide +kernel
theorem pd_32 : parseMethodDescriptor "(Ljava/lang/String;)Ljava/lang/StringBuilder;" = some ⟨[(.object "java/lang/String")], some (.object "java/lang/StringBuilder")⟩ := by decide +kernel
theorem d10_5 : K10 5 = .ok (.areturn, 1) := by decide +kernel
set_option maxRecDepth 65536 in
set_option maxHeartbeats 40000000 in
theorem brgG (l : Launch) (Z : State) (a0 : Array Value) (hw : ∀ d ∈ tables_1, d.before a0 Z = true) (ws : List Jvm.Cond) (b : Addr) (a : Addr) (ka : ClassId) (cb : Int32) (z : Int32) (x : Addr) (t : Addr) (kb : ClassId) (cd : Int32) (N : Int32) (vs : List Value) (ds : List Int32) (G1 : Int32) (G3 : Value) (h0 : Heap) (n0 : Nat) (Z0 : n0 ≤ h0.size) (q0 : SCs Z G1) (P5 : ¬ (G1 = (0 : Int32))) (q2 : OZ Z h0 n0) (q3 : SFm Z G3) (rG3 : G3.isRef = true) (q5 : SAd Z) (q6 : SHi Z) (q7 : SLo Z) (q8 : XBu Z h0 b) (q9 : FBv Z h0 b (.ref a)) (q10 : FBc Z h0 b (.int cb)) (q11 : FBn Z h0 b (.int (0 : Int32))) (q12 : FBm Z h0 b (.int (0 : Int32))) (q13 : Exa Z h0 a "[B") (q14 : Arv Z h0 a ka .byte z ([]) (.int (0 : Int32))) (bw : BwA [] (ds.length + 16) cb z []) (q16 : Lq n0 a) (q17 : Lq n0 b) (q18 : Nq a b) (q19 : XSt Z h0 x) (q20 : FSv Z h0 x (.ref t)) (q21 : FSc Z h0 x (.int cd)) (q22 : Arv Z h0 t kb .byte N vs (.int (0 : Int32))) (cod_x : StrChars.Road.CodA ds cd N vs) (hb_x : ∀ c ∈ ds, Wid c) (q25 : Nq a x) (q26 : Nq a t) (q27 : Nq b x) (q28 : Nq b t) (hd2 : ds.length ≤ 2) (bx : cb = 1 → (∃ c ∈ ([] : List Int32), (255 : Int32) < c) ∨ cd = 1) :
  MetFree l y_47 (head1 (Jvm.Cond.code y_47 jdk_67_method_80_code 2 (some (.object "java/lang/AbstractStringBuilder")) :: ws) r_m30) (fun a_ U_ => a_ = #[(.ref b), (.ref x)] ∧ Z.Warmed39 U_.vm ∧ U_.heap = h0) (fun _ _ _ _ _ => True) (fun _ U_ o_ V_ => ∃ v_ L_, o_ = .returned v_ ∧ QbrgG Z b a ka cb z x t kb cd N vs ds G1 G3 h0 n0 v_ V_.heap L_ ∧ FrameEnd U_ o_ V_ L_ r_m30.cells r_m30.slots) := by
 refine MetFree.of_bodySF (plainFor_of_name pn_5) hisR ?_
 intro p e s m args below meth c s₁ Bd aw hP hK
 obtain ⟨rfl, hZ, hh⟩ := hP
 have hx := Bd.exec
 have dc := @hb _ _ Bd.bytes
 have hml : c.maxLocals = 2 := aw
 have hown : s.vm.findClass "java/lang/StringBuilder" = some m.cls := findClass_of_methodNamed Bd.named
 have hnm := (name_of_methodNamed Bd.named Bd.method).1
 have X0 : Stand p l e r_m30 s m #[(.ref b), (.ref x)] below meth c s₁ [] 0 0 := Stand.of_body Bd
 have e0 : s₁.heap = h0 := by rw [← hh, Bd.state]; rfl
 have N0 := Fr.nil n0
 have Oo := q2.1
 have zo := q2.2
 have aC := own_alt q8.lt
 have aD := own_alt q9.lt
 have aE := own_alt q10.lt
 have aF := own_alt q11.lt
 have aG := own_alt q12.lt
 have aH := own_alt q13.lt
 have aI := own_alt q14.lt
 have aJ := own_alt q19.lt
 have aK := own_alt q20.lt
 have aL := own_alt q21.lt
 have aM := own_alt q22.lt
 refine Gl.go (A := s₁.setTop (entryFrame m #[(.ref b), (.ref x)] 2)) (P := fun o_ U_ => ∃ v_ L_, o_ = .returned v_ ∧ QbrgG Z b a ka cb z x t kb cd N vs ds G1 G3 h0 n0 v_ U_.heap L_ ∧ FrameEnd s o_ U_ L_ r_m30.cells r_m30.slots) (fun t_ k_ => castTop (ef_brgG m b x) k_) ?_
 show Gl p.tables e below _ (s₁.setTop (mkF m 0 #[sR b, sR x] []))
 refine Gl.go (fun _ hr => zaloadN X0.here hx (dc d10_0) rfl rfl (zaloadN X0.here hx (dc d10_1) rfl rfl hr)) ?_
 have aA : n0 ≤ h0.size := by omega
 refine gVirtualN Gl.cl (y := y_39) (z := y_39) (b := b) (argsL := [(.ref x)]) (rest := []) (mc := 1) (ms := 36) X0 hx hZ hown (mvT hZ (tw hw 70 rfl)) (mvT hZ (tw hw 71 rfl)) (notFace_of_selects (args := #[]) (mvT hZ (tw hw 73 rfl))) (mvT hZ (tw hw 73 rfl)) (mvT hZ (tw hw 72 rfl)) (by decide) q8 (backOf (W := 0) (sbG l Z a0 hw [] b a ka (ds.length + 16) ([] : List Int32) cb z ([]) x t kb cd N vs ds G1 G3 h0 n0 aA q0 (by assumption) ⟨Oo, (by omega)⟩ q3 (by assumption) q5 q6 q7 q8 q9 q10 q11 q12 q13 q14 bw (by omega) (by omega) (by omega) (by omega) q19 q20 q21 q22 cod_x hb_x (by omega) (by omega) (by omega) (by omega) (by simp only [List.length_nil]; omega) bx) hZ (tw hw 74 rfl) (tw hw 36 rfl) (by decide) (by decide)) rfl (by rw [hml]; rfl) (lenOf pd_32 rfl) rfl (by exact Nat.le_of_eq rfl) (dc d10_2) rfl e0 (by decide) (by decide) ?_
 intro aU ab aB av ac
 obtain ⟨ao, ax, aq, az, ay, rfl, am, aa, ae, af, ag, ah, ai, aj, ak, ar, au⟩ := av
 have aV : h0.size ≤ ab.heap.size := aa.1
 have al := Fr.app N0 am
 have aN := own_alt ae.lt
 have aO := own_alt af.lt
 have aP := own_alt ag.lt
 have aQ := own_alt ah.lt
 have aR := own_alt ai.lt
 have aS := own_alt aj.lt
 have aT := own_alt ak.lt
 have ap := au
 obtain ⟨fs, hr, hrun, hended, hW, hsame⟩ := ac.leave (v := some (.ref b)) (fun h => by rw [Bd.returns] at h; cases h)
 refine ⟨_, _, retOut ac hx Bd.returns rfl (Or.inr (Or.inr (Or.inr (Or.inr ⟨rfl, rfl, rfl⟩)))) (dc d10_5) hr, hrun, hended, _, _, rfl, ?_, ⟨⟨_, rfl⟩, hW, hsame.mono (by decide) (by decide)⟩⟩
 show QbrgG Z b a ka cb z x t kb cd N vs ds G1 G3 h0 n0 _ ab.heap _
 exact ⟨ao, ax, aq, az, ay, rfl, al, ((Keep.refl h0 [b, a]).trans aa (allS (P := fun x_ => x_ ∈ ([b, a] : List Addr) ∨ h0.size ≤ x_) (Or.inl (by simp)) (allS (P := fun x_ => x_ ∈ ([b, a] : List Addr) ∨ h0.size ≤ x_) (Or.inl (by simp)) all0))), ae, af, ag, ah, ai, aj, ak, ar, ap⟩
def QaisG (Z : State) (b : Addr) (x : Addr) (t : Addr) (kb : ClassId) (cd : Int32) (N : Int32) (vs : List Value) (ds : List Int32) (G1 : Int32) (G3 : Value) (h0 : Heap) (n0 : Nat) (v : Option Value) (h : Heap) (L : List Loc) : Prop := ∃ (a2 : Addr), ∃ (k2 : ClassId), ∃ (cb2 : Int32), ∃ (z2 : Int32), ∃ (xs2 : List Value), v = none ∧ Fr n0 L ∧ Keep h0 h [b] ∧ (XBu Z h b) ∧ (FBv Z h b (.ref a2)) ∧ (FBc Z h b (.int cb2)) ∧ (FBn Z h b (.int (Int32.ofNat ds.length))) ∧ (FBm Z h b (.int (0 : Int32))) ∧ (Exa Z h a2 "[B") ∧ (Arv Z h a2 k2 .byte z2 xs2 (.int (0 : Int32))) ∧ (BdA ds (ds.length + 16) cb2 z2 xs2) ∧ (Lq h0.size a2)
theorem ef_aisG (m : MethodId) (x0 : Addr) (x1 : Addr) : entryFrame m #[(.ref x0), (.ref x1)] 5 = mkF m 0 #[sR x0, sR x1, sU, sU, sU] [] := by first | (simp [entryFrame, mkF, argsToLocals, Value.category]; done) | rfl
abbrev K7 (i : Nat) := decode jdk_68_method_3_code i
theorem d7_0 : K7 0 = .ok (.aload_n 0, 1) := by decide +kernel
theorem d7_1 : K7 1 = .ok (.invokespecial 3, 3) := by decide +kernel
theorem d7_4 : K7 4 = .ok (.aload_n 1, 1) := by decide +kernel
theorem d7_5 : K7 5 = .ok (.invokevirtual 32, 3) := by decide +kernel
theorem d7_8 : K7 8 = .ok (.istore_n 2, 1) := by decide +kernel
theorem d7_9 : K7 9 = .ok (.iload_n 2, 1) := by decide +kernel
theorem d7_10 : K7 10 = .ok (.ldc 38, 2) := by decide +kernel
theorem d7_12 : K7 12 = .ok (.if_icmp .ge 10, 3) := by decide +kernel
theorem d7_15 : K7 15 = .ok (.iload_n 2, 1) := by decide +kernel
theorem d7_16 : K7 16 = .ok (.bipush 16, 2) := by decide +kernel
theorem d7_18 : K7 18 = .ok (.iadd, 1) := by decide +kernel
theorem d7_19 : K7 19 = .ok (.goto 5, 3) := by decide +kernel
theorem d7_24 : K7 24 = .ok (.istore_n 3, 1) := by decide +kernel
theorem d7_25 : K7 25 = .ok (.aload_n 1, 1) := by decide +kernel
theorem d7_26 : K7 26 = .ok (.invokevirtual 40, 3) := by decide +kernel
theorem d7_29 : K7 29 = .ok (.istore 4, 2) := by decide +kernel
theorem d7_31 : K7 31 = .ok (.aload_n 0, 1) := by decide +kernel
theorem d7_32 : K7 32 = .ok (.iload 4, 2) := by decide +kernel
theorem d7_34 : K7 34 = .ok (.putfield 22, 3) := by decide +kernel
theorem d7_37 : K7 37 = .ok (.aload_n 0, 1) := by decide +kernel
theorem d7_38 : K7 38 = .ok (.iload 4, 2) := by decide +kernel
theorem d7_40 : K7 40 = .ok (.ifCond .ne 9, 3) := by decide +kernel
theorem d7_43 : K7 43 = .ok (.iload_n 3, 1) := by decide +kernel
theorem d7_44 : K7 44 = .ok (.newarray .byte, 2) := by decide +kernel
theorem d7_46 : K7 46 = .ok (.goto 7, 3) := by decide +kernel
theorem d7_53 : K7 53 = .ok (.putfield 15, 3) := by decide +kernel
theorem d7_56 : K7 56 = .ok (.aload_n 0, 1) := by decide +kernel
theorem d7_57 : K7 57 = .ok (.aload_n 1, 1) := by decide +kernel
theorem d7_58 : K7 58 = .ok (.invokevirtual 43, 3) := by decide +kernel
theorem d7_61 : K7 61 = .ok (.pop, 1) := by decide +kernel
theorem d7_62 : K7 62 = .ok (.return_, 1) := by decide +kernel
theorem d7_49 : K7 49 = .ok (.iload_n 3, 1) := by decide +kernel
theorem d7_50 : K7 50 = .ok (.invokestatic 26, 3) := by decide +kernel
set_option maxRecDepth 65536 in
set_option maxHeartbeats 40000000 in
theorem aisG (l : Launch) (Z : State) (a0 : Array Value) (hw : ∀ d ∈ tables_1, d.before a0 Z = true) (ws : List Jvm.Cond) (b : Addr) (x : Addr) (t : Addr) (kb : ClassId) (cd : Int32) (N : Int32) (vs : List Value) (ds : List Int32) (G1 : Int32) (G3 : Value) (h0 : Heap) (n0 : Nat) (Z0 : n0 ≤ h0.size) (q0 : SCs Z G1) (P5 : ¬ (G1 = (0 : Int32))) (q2 : OZ Z h0 n0) (q3 : SFm Z G3) (rG3 : G3.isRef = true) (q5 : SAd Z) (q6 : SHi Z) (q7 : SLo Z) (q8 : Lq n0 b) (q9 : XBu Z h0 b) (q10 : FBv Z h0 b .null) (q11 : FBc Z h0 b (.int (0 : Int32))) (q12 : FBn Z h0 b (.int (0 : Int32))) (q13 : FBm Z h0 b (.int (0 : Int32))) (q14 : XSt Z h0 x) (q15 : FSv Z h0 x (.ref t)) (q16 : FSc Z h0 x (.int cd)) (q17 : Arv Z h0 t kb .byte N vs (.int (0 : Int32))) (cod_x : StrChars.Road.CodA ds cd N vs) (hb_x : ∀ c ∈ ds, Wid c) (q20 : Nq b x) (q21 : Nq b t) (hd2 : ds.length ≤ 2) :
  MetFree l y_48 (head1 (Jvm.Cond.code y_48 jdk_68_method_3_code 5 none :: ws) r_m31) (fun a_ U_ => a_ = #[(.ref b), (.ref x)] ∧ Z.Warmed39 U_.vm ∧ U_.heap = h0) (fun _ _ _ _ _ => True) (fun _ U_ o_ V_ => ∃ v_ L_, o_ = .returned v_ ∧ QaisG Z b x t kb cd N vs ds G1 G3 h0 n0 v_ V_.heap L_ ∧ FrameEnd U_ o_ V_ L_ r_m31.cells r_m31.slots) := by
 refine MetFree.of_bodySF (plainFor_of_name pn_2) hisR ?_
 intro p e s m args below meth c s₁ Bd cR hP hK
 obtain ⟨rfl, hZ, hh⟩ := hP
 have hx := Bd.exec
 have dc := @hb _ _ Bd.bytes
 have hml : c.maxLocals = 5 := cR
 have hown : s.vm.findClass "java/lang/AbstractStringBuilder" = some m.cls := findClass_of_methodNamed Bd.named
 have hnm := (name_of_methodNamed Bd.named Bd.method).1
 have X0 : Stand p l e r_m31 s m #[(.ref b), (.ref x)] below meth c s₁ [] 0 0 := Stand.of_body Bd
 have e0 : s₁.heap = h0 := by rw [← hh, Bd.state]; rfl
 have N0 := Fr.nil n0
 have Oo := q2.1
 have zo := q2.2
 have dF := own_alt q9.lt
 have dG := own_alt q10.lt
 have dH := own_alt q11.lt
 have dI := own_alt q12.lt
 have dJ := own_alt q13.lt
 have dK := own_alt q14.lt
 have dL := own_alt q15.lt
 have dM := own_alt q16.lt
 have dN := own_alt q17.lt
 refine Gl.go (A := s₁.setTop (entryFrame m #[(.ref b), (.ref x)] 5)) (P := fun o_ U_ => ∃ v_ L_, o_ = .returned v_ ∧ QaisG Z b x t kb cd N vs ds G1 G3 h0 n0 v_ U_.heap L_ ∧ FrameEnd s o_ U_ L_ r_m31.cells r_m31.slots) (fun t_ k_ => castTop (ef_aisG m b x) k_) ?_
 show Gl p.tables e below _ (s₁.setTop (mkF m 0 #[sR b, sR x, sU, sU, sU] []))
 rcases id cod_x with ⟨e1x, e2x, e3x, e4x⟩ | ⟨e1x, e2x, e3x, e4x⟩
 ·have Fkx := q16
  rw [e1x] at Fkx
  have Vkx := q17
  rw [e2x, e3x, own_lom] at Vkx
  have hlx : ∀ c ∈ ds, Lat c := own_latL hb_x e4x
  show Gl p.tables e below _ (s₁.setTop (mkF m 0 #[sR b, sR x, sU, sU, sU] []))
  refine Gl.go (fun _ hr => zaloadN X0.here hx (dc d7_0) rfl rfl hr) ?_
  refine gInit Gl.cl (W := 0) X0 hx hZ hown (tw hw 46 rfl) (tw hw 17 rfl) (tw hw 18 rfl) e0 rfl (by rw [hml]; rfl) rfl (dc d7_1) (by decide) (by exact Nat.le_of_eq rfl) (by decide) ?_
  intro dq aQ co
  refine Gl.go (fun _ hr => zaloadN aQ.here hx (dc d7_4) rfl rfl hr) ?_
  have c8 : n0 ≤ h0.size := by omega
  refine gVirtualN Gl.cl (y := y_12) (z := y_12) (b := x) (argsL := []) (rest := []) (mc := 0) (ms := 0) aQ hx hZ hown (mvT hZ (tw hw 47 rfl)) (mvT hZ (tw hw 48 rfl)) (notFace_of_selects (args := #[]) (mvT hZ (tw hw 50 rfl))) (mvT hZ (tw hw 50 rfl)) (mvT hZ (tw hw 49 rfl)) (by decide) q14 (backOf (W := 0) (sl0 l Z a0 hw [] x t kb (lb ds) ds G1 h0 n0 c8 q0 (by assumption) ⟨Oo, (by omega)⟩ q14 q15 Fkx Vkx (by omega)) hZ (tw hw 51 rfl) (tw hw 7 rfl) (by decide) (by decide)) rfl (by rw [hml]; rfl) (lenOf pd_15 rfl) rfl (by exact Nat.le_of_eq rfl) (dc d7_5) rfl co (by decide) (by decide) ?_
  intro d5 aM dh cJ ah
  obtain ⟨rfl, bV, cp⟩ := cJ
  have bK := Fr.app N0 bV
  refine Gl.go (fun _ hr => zistoreN ah.here hx (dc d7_8) rfl (l' := #[sR b, sR x, sI (Int32.ofNat ds.length), sU, sU]) rfl (ziloadN ah.here hx (dc d7_9) rfl hr)) ?_
  refine Gl.go (ah.ldcInt hx hown (mvT hZ (tw hw 58 rfl)) rfl (dc d7_10)) ?_
  refine Gl.go (fun _ hr => zicmpNo ah.here hx (dc d7_12) rfl (XT.ii_ge_f (own_lt32 (b := 2147483631) (by decide) (by omega))) (ziloadN ah.here hx (dc d7_15) rfl (zbipush ah.here hx (dc d7_16) (ziadd ah.here hx (dc d7_18) rfl (zgoto ah.here hx (pc0 := 19) (pc' := 24) rfl (dc d7_19) (by decide) (by decide) hr))))) ?_
  show Gl p.tables e below _ (aM.setTop (mkF m 24 #[sR b, sR x, sI (Int32.ofNat ds.length), sU, sU] [(.int ((Int32.ofNat ds.length) + (16 : Int32)))]))
  rw [(show Int32.ofNat ds.length + (16 : Int32) = Int32.ofNat (ds.length + 16) from own_add32 ds.length 16)]
  show Gl p.tables e below _ (aM.setTop (mkF m 24 #[sR b, sR x, sI (Int32.ofNat ds.length), sU, sU] [(.int (Int32.ofNat (ds.length + 16)))]))
  refine Gl.go (fun _ hr => zistoreN ah.here hx (dc d7_24) rfl (l' := #[sR b, sR x, sI (Int32.ofNat ds.length), sI (Int32.ofNat (ds.length + 16)), sU]) rfl (zaloadN ah.here hx (dc d7_25) rfl rfl hr)) ?_
  have c9 : n0 ≤ h0.size := by omega
  refine gVirtualN Gl.cl (y := y_10) (z := y_10) (b := x) (argsL := []) (rest := []) (mc := 0) (ms := 0) ah hx hZ hown (mvT hZ (tw hw 59 rfl)) (mvT hZ (tw hw 53 rfl)) (notFace_of_selects (args := #[]) (mvT hZ (tw hw 55 rfl))) (mvT hZ (tw hw 55 rfl)) (mvT hZ (tw hw 54 rfl)) (by decide) q14 (backOf (W := 0) (cod0 l Z a0 hw [] x G1 h0 n0 c9 q0 (by assumption) ⟨Oo, (by omega)⟩ Fkx) hZ (tw hw 56 rfl) (tw hw 7 rfl) (by decide) (by decide)) rfl (by rw [hml]; rfl) (lenOf pd_8 rfl) rfl (by exact Nat.le_of_eq rfl) (dc d7_26) rfl cp (by decide) (by decide) ?_
  intro d6 dr di cK am
  obtain ⟨rfl, bW, ct⟩ := cK
  have bL := Fr.app bK bW
  refine Gl.go (fun _ hr => zistore am.here hx (dc d7_29) rfl (l' := #[sR b, sR x, sI (Int32.ofNat ds.length), sI (Int32.ofNat (ds.length + 16)), sI 0]) rfl (zaloadN am.here hx (dc d7_31) rfl rfl (ziload am.here hx (dc d7_32) rfl hr))) ?_
  refine gPutF (host := "") Gl.cl am hx hZ hown (Or.inl (tw hw 60 rfl)) Via.refl ct q11 q9 (Or.inl (tw hw 61 rfl)) (tw hw 35 rfl) (ty := .byte) (by decide) rfl rfl rfl rfl (dc d7_34) ?_
  intro dt be aj cu af
  have ed : h0.size ≤ be.size := (Keep.of_wr af).1
  have bG := q11.same af
  have bg : Lq n0 b := by omega
  have bM := Fr.snoc aj bL (own_ale bg)
  refine Gl.go (fun _ hr => zaloadN aj.here hx (dc d7_37) rfl rfl (ziload aj.here hx (dc d7_38) rfl (zifNo aj.here hx (dc d7_40) rfl (XT.i0_ne_f (by decide)) (ziloadN aj.here hx (dc d7_43) rfl hr)))) ?_
  refine gNewPE Gl.cl aj hx hZ (tw hw 20 rfl) cu rfl (dc d7_44) rfl (own_nn (by omega)) (cap := 18) (by rw [own_nat32 (by omega)]; omega) (by decide) (by decide) (by decide) (ad := "[B") (by decide) ?_
  intro du aB ar bf dE aR cw ac aD bo
  have ee : be.size ≤ aB.size := ac.1
  have dO := own_alt aD.lt
  have b6 : Arv Z aB ar bf .byte (Int32.ofNat (ds.length + 16)) [] (.int (0 : Int32)) := (Arv.new aD (own_nn (by omega))).pad (pad_rep [] (.int (0 : Int32)) 0)
  refine Gl.go (fun _ hr => zgoto aR.here hx (pc0 := 46) (pc' := 53) rfl (dc d7_46) (by decide) (by decide) hr) ?_
  have aI := ((q10.other af (Or.inr (slot_ne (Or.inl (tw hw 63 rfl)) (Or.inl (tw hw 61 rfl)) (by decide) (t := (.array .byte)) (t' := .byte) (by decide) (by decide)))).ext ac)
  have aE := ((q9.wr af).ext ac)
  refine gPutF (host := "") Gl.cl aR hx hZ hown (Or.inl (tw hw 62 rfl)) Via.refl cw aI aE (Or.inl (tw hw 63 rfl)) (tw hw 35 rfl) (ty := (.array .byte)) (by decide) rfl rfl rfl rfl (dc d7_53) ?_
  intro dw au ao cx aa
  have ef : aB.size ≤ au.size := (Keep.of_wr aa).1
  have bH := aI.same aa
  have bN := Fr.snoc ao bM (own_ale bg)
  refine Gl.go (fun _ hr => zaloadN ao.here hx (dc d7_56) rfl rfl (zaloadN ao.here hx (dc d7_57) rfl rfl hr)) ?_
  have cod_k : StrChars.Road.CodA ds 0 (Int32.ofNat ds.length) (lb ds) := (Or.inl ⟨rfl, rfl, (own_lom _).symm, e4x⟩)
  have bh : Lq Z.heap.size b := by omega
  have b4 := (((Oo.wr af (own_ale bh)).ext ac).wr aa (own_ale bh))
  have aF := (aE.wr aa)
  have bt := ((bG.ext ac).other aa (Or.inr (slot_ne (Or.inl (tw hw 61 rfl)) (Or.inl (tw hw 63 rfl)) (by decide) (t := .byte) (t' := (.array .byte)) (by decide) (by decide))))
  have bu := (((q12.other af (Or.inr (slot_ne (Or.inl (tw hw 79 rfl)) (Or.inl (tw hw 61 rfl)) (by decide) (t := .int) (t' := .byte) (by decide) (by decide)))).ext ac).other aa (Or.inr (slot_ne (Or.inl (tw hw 79 rfl)) (Or.inl (tw hw 63 rfl)) (by decide) (t := .int) (t' := (.array .byte)) (by decide) (by decide))))
  have bv := (((q13.other af (Or.inr (slot_ne (Or.inl (tw hw 283 rfl)) (Or.inl (tw hw 61 rfl)) (by decide) (t := .boolean) (t' := .byte) (by decide) (by decide)))).ext ac).other aa (Or.inr (slot_ne (Or.inl (tw hw 283 rfl)) (Or.inl (tw hw 63 rfl)) (by decide) (t := .boolean) (t' := (.array .byte)) (by decide) (by decide))))
  have bp := (bo.wr aa)
  have cW : Nq ar b := by omega
  have b7 := (b6.other aa (own_ane cW))
  have bq := (((q14.wr af).ext ac).wr aa)
  have ax : Nq x b := by omega
  have bz := (((q15.other af (Or.inl (own_ane ax))).ext ac).other aa (Or.inl (own_ane ax)))
  have bA := (((Fkx.other af (Or.inl (own_ane ax))).ext ac).other aa (Or.inl (own_ane ax)))
  have bj : Nq t b := by omega
  have b8 := (((Vkx.other af (own_ane bj)).ext ac).other aa (own_ane bj))
  have da : n0 ≤ au.size := by omega
  refine gVirtualN Gl.cl (y := y_38) (z := y_47) (b := b) (argsL := [(.ref x)]) (rest := []) (mc := 1) (ms := 36) ao hx hZ hown (mvT hZ (tw hw 64 rfl)) (mvT hZ (tw hw 65 rfl)) (own_notFace (args := #[]) (mvT hZ (tw hw 83 rfl)) rfl) (mvT hZ (tw hw 67 rfl)) (mvT hZ (tw hw 68 rfl)) (by decide) aF (backOf (W := 0) (brgG l Z a0 hw [] b ar bf (0 : Int32) (Int32.ofNat (ds.length + 16)) x t kb (0 : Int32) (Int32.ofNat ds.length) (lb ds) ds G1 G3 au n0 da q0 (by assumption) ⟨b4, (by omega)⟩ q3 (by assumption) q5 q6 q7 aF bH bt bu bv bp b7 (Or.inl ⟨rfl, rfl, rfl, own_c0⟩) (by omega) (by omega) (by omega) bq bz bA b8 cod_k hb_x (by omega) (by omega) (by omega) (by omega) (by assumption) (fun q => absurd q (by decide))) hZ (tw hw 69 rfl) (tw hw 36 rfl) (by decide) (by decide)) rfl (by rw [hml]; rfl) (lenOf pd_26 rfl) rfl (by exact Nat.le_of_eq rfl) (dc d7_58) rfl cx (by decide) (by decide) ?_
  intro d7 aN dj cL az
  obtain ⟨ci, cT, cm, c6, c3, rfl, bX, aK, aT, aU, aV, aW, aX, aY, aZ, cF, cG⟩ := cL
  have eg : au.size ≤ aN.heap.size := aK.1
  have bO := Fr.app bN bX
  have dP := own_alt aT.lt
  have dQ := own_alt aU.lt
  have dR := own_alt aV.lt
  have dS := own_alt aW.lt
  have dT := own_alt aX.lt
  have dU := own_alt aY.lt
  have dV := own_alt aZ.lt
  have dB := cG
  refine Gl.go (fun _ hr => zpop az.here hx (dc d7_61) rfl rfl hr) ?_
  obtain ⟨fs, hr, hrun, hended, hW, hsame⟩ := az.leave (v := none) (fun _ => rfl)
  have cX : Lq h0.size ar := by omega
  refine ⟨_, _, az.returnOut hx Bd.returns (dc d7_62) hr, hrun, hended, _, _, rfl, ?_, ⟨⟨_, rfl⟩, hW, hsame.mono (by decide) (by decide)⟩⟩
  show QaisG Z b x t kb cd N vs ds G1 G3 h0 n0 _ aN.heap _
  exact ⟨ci, cT, cm, c6, c3, rfl, bO, (((((Keep.refl h0 [b]).wr af (Or.inl (by simp))).ext ac).wr aa (Or.inl (by simp))).trans aK (allS (P := fun x_ => x_ ∈ ([b] : List Addr) ∨ h0.size ≤ x_) (Or.inl (by simp)) (allS (P := fun x_ => x_ ∈ ([b] : List Addr) ∨ h0.size ≤ x_) (Or.inr (own_ale cX)) all0))), aT, aU, aV, aW, aX, aY, aZ, cF, (by omega)⟩
 ·have Fkx := q16
  rw [e1x] at Fkx
  have Vkx := q17
  rw [e2x, e3x] at Vkx
  show Gl p.tables e below _ (s₁.setTop (mkF m 0 #[sR b, sR x, sU, sU, sU] []))
  refine Gl.go (fun _ hr => zaloadN X0.here hx (dc d7_0) rfl rfl hr) ?_
  refine gInit Gl.cl (W := 0) X0 hx hZ hown (tw hw 46 rfl) (tw hw 17 rfl) (tw hw 18 rfl) e0 rfl (by rw [hml]; rfl) rfl (dc d7_1) (by decide) (by exact Nat.le_of_eq rfl) (by decide) ?_
  intro dx aS cy
  refine Gl.go (fun _ hr => zaloadN aS.here hx (dc d7_4) rfl rfl hr) ?_
  have db : n0 ≤ h0.size := by omega
  refine gVirtualN Gl.cl (y := y_12) (z := y_12) (b := x) (argsL := []) (rest := []) (mc := 0) (ms := 0) aS hx hZ hown (mvT hZ (tw hw 47 rfl)) (mvT hZ (tw hw 48 rfl)) (notFace_of_selects (args := #[]) (mvT hZ (tw hw 50 rfl))) (mvT hZ (tw hw 50 rfl)) (mvT hZ (tw hw 49 rfl)) (by decide) q14 (backOf (W := 0) (sl1 l Z a0 hw [] x t kb (StrChars.Road.wideBytes ds) ds G1 h0 n0 db q0 (by assumption) ⟨Oo, (by omega)⟩ q14 q15 Fkx Vkx (by omega)) hZ (tw hw 51 rfl) (tw hw 7 rfl) (by decide) (by decide)) rfl (by rw [hml]; rfl) (lenOf pd_15 rfl) rfl (by exact Nat.le_of_eq rfl) (dc d7_5) rfl cy (by decide) (by decide) ?_
  intro d8 aO dk cN ai
  obtain ⟨rfl, bY, cz⟩ := cN
  have bP := Fr.app N0 bY
  refine Gl.go (fun _ hr => zistoreN ai.here hx (dc d7_8) rfl (l' := #[sR b, sR x, sI (Int32.ofNat ds.length), sU, sU]) rfl (ziloadN ai.here hx (dc d7_9) rfl hr)) ?_
  refine Gl.go (ai.ldcInt hx hown (mvT hZ (tw hw 58 rfl)) rfl (dc d7_10)) ?_
  refine Gl.go (fun _ hr => zicmpNo ai.here hx (dc d7_12) rfl (XT.ii_ge_f (own_lt32 (b := 2147483631) (by decide) (by omega))) (ziloadN ai.here hx (dc d7_15) rfl (zbipush ai.here hx (dc d7_16) (ziadd ai.here hx (dc d7_18) rfl (zgoto ai.here hx (pc0 := 19) (pc' := 24) rfl (dc d7_19) (by decide) (by decide) hr))))) ?_
  show Gl p.tables e below _ (aO.setTop (mkF m 24 #[sR b, sR x, sI (Int32.ofNat ds.length), sU, sU] [(.int ((Int32.ofNat ds.length) + (16 : Int32)))]))
  rw [(show Int32.ofNat ds.length + (16 : Int32) = Int32.ofNat (ds.length + 16) from own_add32 ds.length 16)]
  show Gl p.tables e below _ (aO.setTop (mkF m 24 #[sR b, sR x, sI (Int32.ofNat ds.length), sU, sU] [(.int (Int32.ofNat (ds.length + 16)))]))
  refine Gl.go (fun _ hr => zistoreN ai.here hx (dc d7_24) rfl (l' := #[sR b, sR x, sI (Int32.ofNat ds.length), sI (Int32.ofNat (ds.length + 16)), sU]) rfl (zaloadN ai.here hx (dc d7_25) rfl rfl hr)) ?_
  have de : n0 ≤ h0.size := by omega
  refine gVirtualN Gl.cl (y := y_10) (z := y_10) (b := x) (argsL := []) (rest := []) (mc := 0) (ms := 0) ai hx hZ hown (mvT hZ (tw hw 59 rfl)) (mvT hZ (tw hw 53 rfl)) (notFace_of_selects (args := #[]) (mvT hZ (tw hw 55 rfl))) (mvT hZ (tw hw 55 rfl)) (mvT hZ (tw hw 54 rfl)) (by decide) q14 (backOf (W := 0) (cod1 l Z a0 hw [] x G1 h0 n0 de q0 (by assumption) ⟨Oo, (by omega)⟩ Fkx) hZ (tw hw 56 rfl) (tw hw 7 rfl) (by decide) (by decide)) rfl (by rw [hml]; rfl) (lenOf pd_8 rfl) rfl (by exact Nat.le_of_eq rfl) (dc d7_26) rfl cz (by decide) (by decide) ?_
  intro d9 dy dl cO ap
  obtain ⟨rfl, bZ, cC⟩ := cO
  have bQ := Fr.app bP bZ
  refine Gl.go (fun _ hr => zistore ap.here hx (dc d7_29) rfl (l' := #[sR b, sR x, sI (Int32.ofNat ds.length), sI (Int32.ofNat (ds.length + 16)), sI 1]) rfl (zaloadN ap.here hx (dc d7_31) rfl rfl (ziload ap.here hx (dc d7_32) rfl hr))) ?_
  refine gPutF (host := "") Gl.cl ap hx hZ hown (Or.inl (tw hw 60 rfl)) Via.refl cC q11 q9 (Or.inl (tw hw 61 rfl)) (tw hw 35 rfl) (ty := .byte) (by decide) rfl rfl rfl rfl (dc d7_34) ?_
  intro dz av ak cD ag
  have eh : h0.size ≤ av.size := (Keep.of_wr ag).1
  have bI := q11.same ag
  have bl : Lq n0 b := by omega
  have bR := Fr.snoc ak bQ (own_ale bl)
  refine Gl.go (fun _ hr => zaloadN ak.here hx (dc d7_37) rfl rfl (ziload ak.here hx (dc d7_38) rfl (zifYes ak.here hx (pc0 := 40) (pc' := 49) rfl (dc d7_40) rfl (XT.i0_ne_t (by decide)) (by decide) (by decide) (ziloadN ak.here hx (dc d7_49) rfl hr)))) ?_
  have df : n0 ≤ av.size := by omega
  refine gStaticN Gl.cl (y := y_3) (argsL := [(.int (Int32.ofNat (ds.length + 16)))]) (rest := [(.ref b)]) (mc := 1) (ms := 36) ak hx hZ hown (mvT hZ (tw hw 254 rfl)) (mvT hZ (tw hw 233 rfl)) (mvT hZ (tw hw 221 rfl)) (mvT hZ (tw hw 234 rfl)) (by decide) (backOf (W := 1) (nbfG l Z a0 hw [] (ds.length + 16) av n0 df (by omega)) hZ (tw hw 234 rfl) (tw hw 221 rfl) (by decide) (by decide)) rfl (by rw [hml]; rfl) (lenOf pd_1 rfl) rfl (by exact Nat.le_of_eq rfl) (dc d7_50) rfl cD (by decide) (by decide) ?_
  intro ea al dm cP cg
  obtain ⟨aC, cV, rfl, b0, ae, a3, dD, a5⟩ := cP
  have ei : av.size ≤ al.heap.size := ae.1
  have bS := Fr.app bR b0
  have dW := own_alt a3.lt
  have dX := own_alt a5.lt
  have aJ := ((q10.other ag (Or.inr (slot_ne (Or.inl (tw hw 63 rfl)) (Or.inl (tw hw 61 rfl)) (by decide) (t := (.array .byte)) (t' := .byte) (by decide) (by decide)))).keep ae nin0)
  have aG := ((q9.wr ag).keep ae)
  refine gPutF (host := "") Gl.cl cg hx hZ hown (Or.inl (tw hw 62 rfl)) Via.refl (rfl : al.heap = al.heap) aJ aG (Or.inl (tw hw 63 rfl)) (tw hw 35 rfl) (ty := (.array .byte)) (by decide) rfl rfl rfl rfl (dc d7_53) ?_
  intro dA aw aq cE ab
  have ej : al.heap.size ≤ aw.size := (Keep.of_wr ab).1
  have bJ := aJ.same ab
  have bT := Fr.snoc aq bS (own_ale bl)
  refine Gl.go (fun _ hr => zaloadN aq.here hx (dc d7_56) rfl rfl (zaloadN aq.here hx (dc d7_57) rfl rfl hr)) ?_
  have cod_k : StrChars.Road.CodA ds 1 (Int32.ofNat (2 * ds.length)) (StrChars.Road.wideBytes ds) := (Or.inr ⟨rfl, rfl, rfl, e4x⟩)
  have bm : Lq Z.heap.size b := by omega
  have b5 := (((Oo.wr ag (own_ale bm)).keep ae all0).wr ab (own_ale bm))
  have aH := (aG.wr ab)
  have bB := ((bI.keep ae nin0).other ab (Or.inr (slot_ne (Or.inl (tw hw 61 rfl)) (Or.inl (tw hw 63 rfl)) (by decide) (t := .byte) (t' := (.array .byte)) (by decide) (by decide))))
  have bC := (((q12.other ag (Or.inr (slot_ne (Or.inl (tw hw 79 rfl)) (Or.inl (tw hw 61 rfl)) (by decide) (t := .int) (t' := .byte) (by decide) (by decide)))).keep ae nin0).other ab (Or.inr (slot_ne (Or.inl (tw hw 79 rfl)) (Or.inl (tw hw 63 rfl)) (by decide) (t := .int) (t' := (.array .byte)) (by decide) (by decide))))
  have bD := (((q13.other ag (Or.inr (slot_ne (Or.inl (tw hw 283 rfl)) (Or.inl (tw hw 61 rfl)) (by decide) (t := .boolean) (t' := .byte) (by decide) (by decide)))).keep ae nin0).other ab (Or.inr (slot_ne (Or.inl (tw hw 283 rfl)) (Or.inl (tw hw 63 rfl)) (by decide) (t := .boolean) (t' := (.array .byte)) (by decide) (by decide))))
  have br := (a5.wr ab)
  have cY : Nq aC b := by omega
  have b9 := (a3.other ab (own_ane cY))
  have bs := (((q14.wr ag).keep ae).wr ab)
  have ay : Nq x b := by omega
  have bE := (((q15.other ag (Or.inl (own_ane ay))).keep ae nin0).other ab (Or.inl (own_ane ay)))
  have bF := (((Fkx.other ag (Or.inl (own_ane ay))).keep ae nin0).other ab (Or.inl (own_ane ay)))
  have bn : Nq t b := by omega
  have ca := (((Vkx.other ag (own_ane bn)).keep ae nin0).other ab (own_ane bn))
  have dg : n0 ≤ aw.size := by omega
  refine gVirtualN Gl.cl (y := y_38) (z := y_47) (b := b) (argsL := [(.ref x)]) (rest := []) (mc := 1) (ms := 36) aq hx hZ hown (mvT hZ (tw hw 64 rfl)) (mvT hZ (tw hw 65 rfl)) (own_notFace (args := #[]) (mvT hZ (tw hw 83 rfl)) rfl) (mvT hZ (tw hw 67 rfl)) (mvT hZ (tw hw 68 rfl)) (by decide) aH (backOf (W := 0) (brgG l Z a0 hw [] b aC cV (1 : Int32) (Int32.ofNat (2 * (ds.length + 16))) x t kb (1 : Int32) (Int32.ofNat (2 * ds.length)) (StrChars.Road.wideBytes ds) ds G1 G3 aw n0 dg q0 (by assumption) ⟨b5, (by omega)⟩ q3 (by assumption) q5 q6 q7 aH bJ bB bC bD br b9 (Or.inr ⟨rfl, rfl, rfl⟩) (by omega) (by omega) (by omega) bs bE bF ca cod_k hb_x (by omega) (by omega) (by omega) (by omega) (by assumption) (fun _ => Or.inr rfl)) hZ (tw hw 69 rfl) (tw hw 36 rfl) (by decide) (by decide)) rfl (by rw [hml]; rfl) (lenOf pd_26 rfl) rfl (by exact Nat.le_of_eq rfl) (dc d7_58) rfl cE (by decide) (by decide) ?_
  intro eb aP dn cQ aA
  obtain ⟨cj, cU, cn, c7, c5, rfl, b3, aL, a6, a7, a8, a9, ba, bb, bc, cH, cI⟩ := cQ
  have ek : aw.size ≤ aP.heap.size := aL.1
  have bU := Fr.app bT b3
  have dY := own_alt a6.lt
  have dZ := own_alt a7.lt
  have d0 := own_alt a8.lt
  have d1 := own_alt a9.lt
  have d2 := own_alt ba.lt
  have d3 := own_alt bb.lt
  have d4 := own_alt bc.lt
  have dC := cI
  refine Gl.go (fun _ hr => zpop aA.here hx (dc d7_61) rfl rfl hr) ?_
  obtain ⟨fs, hr, hrun, hended, hW, hsame⟩ := aA.leave (v := none) (fun _ => rfl)
  have cZ : Lq h0.size aC := by omega
  refine ⟨_, _, aA.returnOut hx Bd.returns (dc d7_62) hr, hrun, hended, _, _, rfl, ?_, ⟨⟨_, rfl⟩, hW, hsame.mono (by decide) (by decide)⟩⟩
  show QaisG Z b x t kb cd N vs ds G1 G3 h0 n0 _ aP.heap _
  exact ⟨cj, cU, cn, c7, c5, rfl, bU, (((((Keep.refl h0 [b]).wr ag (Or.inl (by simp))).trans ae all0).wr ab (Or.inl (by simp))).trans aL (allS (P := fun x_ => x_ ∈ ([b] : List Addr) ∨ h0.size ≤ x_) (Or.inl (by simp)) (allS (P := fun x_ => x_ ∈ ([b] : List Addr) ∨ h0.size ≤ x_) (Or.inr (own_ale cZ)) all0))), a6, a7, a8, a9, ba, bb, bc, cH, (by omega)⟩
def QsisG (Z : State) (b : Addr) (x : Addr) (t : Addr) (kb : ClassId) (cd : Int32) (N : Int32) (vs : List Value) (ds : List Int32) (G1 : Int32) (G3 : Value) (h0 : Heap) (n0 : Nat) (v : Option Value) (h : Heap) (L : List Loc) : Prop := ∃ (a2 : Addr), ∃ (k2 : ClassId), ∃ (cb2 : Int32), ∃ (z2 : Int32), ∃ (xs2 : List Value), v = none ∧ Fr n0 L ∧ Keep h0 h [b] ∧ (XBu Z h b) ∧ (FBv Z h b (.ref a2)) ∧ (FBc Z h b (.int cb2)) ∧ (FBn Z h b (.int (Int32.ofNat ds.length))) ∧ (FBm Z h b (.int (0 : Int32))) ∧ (Exa Z h a2 "[B") ∧ (Arv Z h a2 k2 .byte z2 xs2 (.int (0 : Int32))) ∧ (BdA ds (ds.length + 16) cb2 z2 xs2) ∧ (Lq h0.size a2)
theorem ef_sisG (m : MethodId) (x0 : Addr) (x1 : Addr) : entryFrame m #[(.ref x0), (.ref x1)] 2 = mkF m 0 #[sR x0, sR x1] [] := by first | (simp [entryFrame, mkF, argsToLocals, Value.category]; done) | rfl
abbrev K6 (i : Nat) := decode jdk_67_method_3_code i
theorem d6_0 : K6 0 = .ok (.aload_n 0, 1) := by decide +kernel
theorem d6_1 : K6 1 = .ok (.aload_n 1, 1) := by decide +kernel
theorem d6_2 : K6 2 = .ok (.invokespecial 7, 3) := by decide +kernel
theorem d6_5 : K6 5 = .ok (.return_, 1) := by decide +kernel
set_option maxRecDepth 65536 in
set_option maxHeartbeats 40000000 in
theorem sisG (l : Launch) (Z : State) (a0 : Array Value) (hw : ∀ d ∈ tables_1, d.before a0 Z = true) (ws : List Jvm.Cond) (b : Addr) (x : Addr) (t : Addr) (kb : ClassId) (cd : Int32) (N : Int32) (vs : List Value) (ds : List Int32) (G1 : Int32) (G3 : Value) (h0 : Heap) (n0 : Nat) (Z0 : n0 ≤ h0.size) (q0 : SCs Z G1) (P5 : ¬ (G1 = (0 : Int32))) (q2 : OZ Z h0 n0) (q3 : SFm Z G3) (rG3 : G3.isRef = true) (q5 : SAd Z) (q6 : SHi Z) (q7 : SLo Z) (q8 : Lq n0 b) (q9 : XBu Z h0 b) (q10 : FBv Z h0 b .null) (q11 : FBc Z h0 b (.int (0 : Int32))) (q12 : FBn Z h0 b (.int (0 : Int32))) (q13 : FBm Z h0 b (.int (0 : Int32))) (q14 : XSt Z h0 x) (q15 : FSv Z h0 x (.ref t)) (q16 : FSc Z h0 x (.int cd)) (q17 : Arv Z h0 t kb .byte N vs (.int (0 : Int32))) (cod_x : StrChars.Road.CodA ds cd N vs) (hb_x : ∀ c ∈ ds, Wid c) (q20 : Nq b x) (q21 : Nq b t) (hd2 : ds.length ≤ 2) :
  MetFree l y_49 (head1 (Jvm.Cond.code y_49 jdk_67_method_3_code 2 none :: ws) r_m32) (fun a_ U_ => a_ = #[(.ref b), (.ref x)] ∧ Z.Warmed39 U_.vm ∧ U_.heap = h0) (fun _ _ _ _ _ => True) (fun _ U_ o_ V_ => ∃ v_ L_, o_ = .returned v_ ∧ QsisG Z b x t kb cd N vs ds G1 G3 h0 n0 v_ V_.heap L_ ∧ FrameEnd U_ o_ V_ L_ r_m32.cells r_m32.slots) := by
 refine MetFree.of_bodySF (plainFor_of_name pn_5) hisR ?_
 intro p e s m args below meth c s₁ Bd au hP hK
 obtain ⟨rfl, hZ, hh⟩ := hP
 have hx := Bd.exec
 have dc := @hb _ _ Bd.bytes
 have hml : c.maxLocals = 2 := au
 have hown : s.vm.findClass "java/lang/StringBuilder" = some m.cls := findClass_of_methodNamed Bd.named
 have hnm := (name_of_methodNamed Bd.named Bd.method).1
 have X0 : Stand p l e r_m32 s m #[(.ref b), (.ref x)] below meth c s₁ [] 0 0 := Stand.of_body Bd
 have e0 : s₁.heap = h0 := by rw [← hh, Bd.state]; rfl
 have N0 := Fr.nil n0
 have Oo := q2.1
 have zo := q2.2
 have aB := own_alt q9.lt
 have aC := own_alt q10.lt
 have aD := own_alt q11.lt
 have aE := own_alt q12.lt
 have aF := own_alt q13.lt
 have aG := own_alt q14.lt
 have aH := own_alt q15.lt
 have aI := own_alt q16.lt
 have aJ := own_alt q17.lt
 refine Gl.go (A := s₁.setTop (entryFrame m #[(.ref b), (.ref x)] 2)) (P := fun o_ U_ => ∃ v_ L_, o_ = .returned v_ ∧ QsisG Z b x t kb cd N vs ds G1 G3 h0 n0 v_ U_.heap L_ ∧ FrameEnd s o_ U_ L_ r_m32.cells r_m32.slots) (fun t_ k_ => castTop (ef_sisG m b x) k_) ?_
 show Gl p.tables e below _ (s₁.setTop (mkF m 0 #[sR b, sR x] []))
 refine Gl.go (fun _ hr => zaloadN X0.here hx (dc d6_0) rfl rfl (zaloadN X0.here hx (dc d6_1) rfl rfl hr)) ?_
 have ay : n0 ≤ h0.size := by omega
 refine gSpecialN Gl.cl (y := y_48) (b := b) (argsL := [(.ref x)]) (rest := []) (mc := 2) (ms := 72) X0 hx hZ hown rfl (mvT hZ (tw hw 40 rfl)) (mvT hZ (tw hw 41 rfl)) (mvT hZ (tw hw 45 rfl)) (by decide) (backOf (W := 0) (aisG l Z a0 hw [] b x t kb cd N vs ds G1 G3 h0 n0 ay q0 (by assumption) ⟨Oo, (by omega)⟩ q3 (by assumption) q5 q6 q7 (by omega) q9 q10 q11 q12 q13 q14 q15 q16 q17 (by assumption) (by assumption) (by omega) (by omega) (by assumption)) hZ (tw hw 45 rfl) (tw hw 44 rfl) (by decide) (by decide)) rfl (by rw [hml]; rfl) (lenOf pd_22 rfl) rfl (by exact Nat.le_of_eq rfl) (dc d6_2) rfl e0 (by decide) (by decide) ?_
 intro aR ab az ar ac
 obtain ⟨ao, av, ap, ax, aw, rfl, am, aa, ae, af, ag, ah, ai, aj, ak, aq, aA⟩ := ar
 have aS : h0.size ≤ ab.heap.size := aa.1
 have al := Fr.app N0 am
 have aK := own_alt ae.lt
 have aL := own_alt af.lt
 have aM := own_alt ag.lt
 have aN := own_alt ah.lt
 have aO := own_alt ai.lt
 have aP := own_alt aj.lt
 have aQ := own_alt ak.lt
 obtain ⟨fs, hr, hrun, hended, hW, hsame⟩ := ac.leave (v := none) (fun _ => rfl)
 refine ⟨_, _, ac.returnOut hx Bd.returns (dc d6_5) hr, hrun, hended, _, _, rfl, ?_, ⟨⟨_, rfl⟩, hW, hsame.mono (by decide) (by decide)⟩⟩
 show QsisG Z b x t kb cd N vs ds G1 G3 h0 n0 _ ab.heap _
 exact ⟨ao, av, ap, ax, aw, rfl, al, ((Keep.refl h0 [b]).trans aa (allS (P := fun x_ => x_ ∈ ([b] : List Addr) ∨ h0.size ≤ x_) (Or.inl (by simp)) all0)), ae, af, ag, ah, ai, aj, ak, aq, (by omega)⟩
def Qe4 (Z : State) (x : Addr) (b : Addr) (h0 : Heap) (n0 : Nat) (v : Option Value) (h : Heap) (vm : Vm) (L : List Loc) : Prop := ∃ (t : Addr), ∃ (kb : ClassId), v = none ∧ Fr n0 L ∧ Keep h0 h [x] ∧ (XSt Z h x) ∧ (FSv Z h x (.ref t)) ∧ (FSc Z h x (.int (0 : Int32))) ∧ (Arv Z h t kb .byte (0 : Int32) ([]) (.int 0)) ∧ (Nq t x) ∧ (ChJ Z vm h)
set_option maxRecDepth 65536 in
theorem own_hstr : ∀ d ∈ Bundle.stringAtoms, d ∈ tables_1 := by decide +kernel
theorem ef_e4 (m : MethodId) (x0 : Addr) (x1 : Addr) (x2 : Int32) (x3 : Int32) : entryFrame m #[(.ref x0), (.ref x1), (.int x2), (.int x3), .null] 6 = mkF m 0 #[sR x0, sR x1, sI x2, sI x3, .val .null, sU] [] := by first | (simp [entryFrame, mkF, argsToLocals, Value.category]; done) | rfl
theorem d3_8 : K3 8 = .ok (.aload_n 0, 1) := by decide +kernel
theorem d3_9 : K3 9 = .ok (.ldc 7, 2) := by decide +kernel
theorem d3_11 : K3 11 = .ok (.getfield 9, 3) := by decide +kernel
theorem d3_14 : K3 14 = .ok (.putfield 9, 3) := by decide +kernel
theorem d3_17 : K3 17 = .ok (.aload_n 0, 1) := by decide +kernel
theorem d3_18 : K3 18 = .ok (.ldc 7, 2) := by decide +kernel
theorem d3_20 : K3 20 = .ok (.getfield 15, 3) := by decide +kernel
theorem d3_23 : K3 23 = .ok (.putfield 15, 3) := by decide +kernel
theorem d3_26 : K3 26 = .ok (.return_, 1) := by decide +kernel
set_option maxRecDepth 65536 in
set_option maxHeartbeats 40000000 in
theorem e4 (l : Launch) (Z : State) (a0 : Array Value) (hw : ∀ d ∈ tables_1, d.before a0 Z = true) (ws : List Jvm.Cond) (x : Addr) (b : Addr) (h0 : Heap) (n0 : Nat) (Z0 : n0 ≤ h0.size) (q0 : OZ Z h0 n0) (hew : EW Z a0 ELs) (q2 : Lq n0 x) (q3 : XSt Z h0 x) (q4 : FSv Z h0 x .null) (q5 : FSc Z h0 x (.int (0 : Int32))) :
  MetFree l y_8 (head1 (Jvm.Cond.code y_8 jdk_42_method_149_code 6 none :: ws) r_m33) (fun a_ U_ => a_ = #[(.ref x), (.ref b), (.int (0 : Int32)), (.int (0 : Int32)), .null] ∧ Z.Warmed39 U_.vm ∧ U_.heap = h0 ∧ ChS Z x x U_.vm h0) (fun _ _ _ _ _ => True) (fun _ U_ o_ V_ => ∃ v_ L_, o_ = .returned v_ ∧ Qe4 Z x b h0 n0 v_ V_.heap V_.vm L_ ∧ ReturnedEndW U_ o_ V_ L_ r_m33.cells r_m33.slots) := by
 refine MetFree.of_bodySF (plainFor_of_name pn_1) hisR ?_
 intro p e s m args below meth c s₁ Bd a8 hP hK
 obtain ⟨rfl, hZ, hh, hphi_cxx⟩ := hP
 have hx := Bd.exec
 have dc := @hb _ _ Bd.bytes
 have hml : c.maxLocals = 6 := a8
 have hown : s.vm.findClass "java/lang/String" = some m.cls := findClass_of_methodNamed Bd.named
 have hnm := (name_of_methodNamed Bd.named Bd.method).1
 have X0 : Stand p l e r_m33 (s.setVm s.vm) m #[(.ref x), (.ref b), (.int (0 : Int32)), (.int (0 : Int32)), .null] below meth c s₁ [] 0 0 := Stand.of_body Bd
 have e0 : s₁.heap = h0 := by rw [← hh, Bd.state]; rfl
 have N0 := Fr.nil n0
 have a3 : s.Since s.vm h0.size := (State.WarmedH.refl s).since _
 have a6 : h0.size ≤ h0.size := Nat.le_refl _
 have Oo := q0.1
 have zo := q0.2
 have bl := own_alt q3.lt
 have bm := own_alt q4.lt
 have bn := own_alt q5.lt
 have hstr : ∀ d ∈ Bundle.stringAtoms, d.before a0 Z = true := fun d hd => hw d (own_hstr d hd)
 refine Gl.go (A := s₁.setTop (entryFrame m #[(.ref x), (.ref b), (.int (0 : Int32)), (.int (0 : Int32)), .null] 6)) (P := fun o_ U_ => ∃ v_ L_, o_ = .returned v_ ∧ Qe4 Z x b h0 n0 v_ U_.heap U_.vm L_ ∧ ReturnedEndW s o_ U_ L_ r_m33.cells r_m33.slots) (fun t_ k_ => castTop (ef_e4 m x b (0 : Int32) (0 : Int32)) k_) ?_
 show Gl p.tables e below _ (s₁.setTop (mkF m 0 #[sR x, sR b, sI 0, sI 0, .val .null, sU] []))
 refine Gl.go (fun _ hr => zaloadN X0.here hx (dc d3_0) rfl rfl hr) ?_
 refine gInit Gl.cl (W := 0) X0 hx hZ hown (tw hw 16 rfl) (tw hw 17 rfl) (tw hw 18 rfl) e0 rfl (by rw [hml]; rfl) rfl (dc d3_1) (by decide) (by exact Nat.le_of_eq rfl) (by decide) ?_
 intro bf ah aV
 refine Gl.go (fun _ hr => ziloadN ah.here hx (dc d3_4) rfl (zifNo ah.here hx (dc d3_5) rfl (XT.i0_ne_f (by decide)) (zaloadN ah.here hx (dc d3_8) rfl rfl hr))) ?_
 obtain ⟨af, aw, al, bj, ak, a9, aS, aW, ae, a5, a7, ac, ag, ba, aC, aD, aB, -, -, aI, aN, av, be⟩ := ldcCH ah hx hZ hown (tw hw 19 rfl) hstr aV a3 (by have q := a6; omega) hew (by simp [ELs]) hphi_cxx.1.2.1 (vs := []) (z := (0 : Int32)) ⟨by decide +kernel, by decide +kernel⟩ (by decide) rfl (g := (mkF m 9 #[sR x, sR b, sI 0, sI 0, .val .null, sU] [(.ref x)])) rfl (dc d3_9) (n := 0) (by decide +kernel) (by decide) (by decide) (by decide)
 have bt : h0.size ≤ al.size := ae.1
 have bo := own_alt ba.lt
 have bp := own_alt aC.lt
 have bq := own_alt aD.lt
 have br := own_alt aB.lt
 have am := ChS.on hphi_cxx ac aI
 have aE := av x am.2.2.1
 have aF := av x am.2.1.1
 have bs : (¬ @Eq Nat x af ∧ Nq x ak) ∧ (¬ @Eq Nat x af ∧ Nq x ak) := ⟨⟨own_anq aE.1, own_anq aE.2⟩, ⟨own_anq aF.1, own_anq aF.2⟩⟩
 refine Gl.go be ?_
 show Gl p.tables e below _ (aw.setTop (mkF m 11 #[sR x, sR b, sI 0, sI 0, .val .null, sU] [(.ref af), (.ref x)]))
 refine gGetF (host := "") Gl.cl aS hx ac ag (Or.inl (tw hw 25 rfl)) Via.refl aW aD rfl rfl (dc d3_11) ?_
 intro bg aT aX
 have ar := (q4.ext ae)
 have ao := (q3.ext ae)
 refine gPutF (host := "") Gl.cl aT hx ac ag (Or.inl (tw hw 25 rfl)) Via.refl aX ar ao (Or.inr ⟨(tw hw 21 rfl), rfl, hnm⟩) (tw hw 6 rfl) (ty := (.array .byte)) (by decide) rfl rfl rfl rfl (dc d3_14) ?_
 intro aQ az ai aY aa
 have bu : al.size ≤ az.size := (Keep.of_wr aa).1
 have aL := ar.same aa
 have aG : Lq n0 x := by omega
 have aO := Fr.snoc ai N0 (own_ale aG)
 refine Gl.go (fun _ hr => zaloadN ai.here hx (dc d3_17) rfl rfl hr) ?_
 refine Gl.go (ldcAgain ai hx ac ag (tw hw 19 rfl) aN (g := (mkF m 18 #[sR x, sR b, sI 0, sI 0, .val .null, sU] [(.ref x)])) rfl (dc d3_18)) ?_
 show Gl p.tables e below _ (aQ.setTop (mkF m 20 #[sR x, sR b, sI 0, sI 0, .val .null, sU] [(.ref af), (.ref x)]))
 have bb : Nq af x := by omega
 have aJ := (aC.other aa (Or.inl (own_ane bb)))
 refine gGetF (host := "") Gl.cl ai hx ac ag (Or.inl (tw hw 26 rfl)) Via.refl aY aJ rfl rfl (dc d3_20) ?_
 intro bh aU aZ
 have au := ((q5.ext ae).other aa (Or.inr (slot_ne (Or.inr (tw hw 22 rfl)) (Or.inr (tw hw 21 rfl)) (by decide) (t := .byte) (t' := (.array .byte)) (by decide) (by decide))))
 have ap := (ao.wr aa)
 refine gPutF (host := "") Gl.cl aU hx ac ag (Or.inl (tw hw 26 rfl)) Via.refl aZ au ap (Or.inr ⟨(tw hw 22 rfl), rfl, hnm⟩) (tw hw 6 rfl) (ty := .byte) (by decide) rfl rfl rfl rfl (dc d3_23) ?_
 intro ax aA aj ay ab
 have bv : az.size ≤ aA.size := (Keep.of_wr ab).1
 have aM := au.same ab
 have aP := Fr.snoc aj aO (own_ale aG)
 have aq := (ap.wr ab)
 have aK := (aL.other ab (Or.inr (slot_ne (Or.inr (tw hw 21 rfl)) (Or.inr (tw hw 22 rfl)) (by decide) (t := (.array .byte)) (t' := .byte) (by decide) (by decide))))
 have aH : Nq ak x := by omega
 have aR := ((aB.other aa (own_ane aH)).other ab (own_ane aH))
 obtain ⟨fs, hr, hrun, hended, hE⟩ := aj.leaveW a5 (by have q := congrArg Array.size ay; have q2 := a7; omega) (v := none) (fun _ => rfl)
 refine ⟨_, _, aj.returnOut hx Bd.returns (dc d3_26) hr, hrun, hended, _, _, rfl, ?_, ⟨hE.1, hE.2.1, hE.2.2.1, hE.2.2.2.mono (by decide) (by decide)⟩⟩
 show Qe4 Z x b h0 n0 _ ax.heap ax.vm _
 rw [ay]
 have bc : ChJ Z aw.vm aA := (ChS.upd am (((Keep.refl al [x, x]).wr aa (Or.inl (by simp))).wr ab (Or.inl (by simp))) (Or.inl rfl) aq.lt).1
 exact ⟨ak, a9, rfl, aP, ((((Keep.refl h0 [x]).ext ae).wr aa (Or.inl (by simp))).wr ab (Or.inl (by simp))), aq, aK, aM, aR, (by omega), (bc.warm aj.warmed)⟩
def Qe1 (Z : State) (x : Addr) (b : Addr) (ck : ClassId) (h0 : Heap) (n0 : Nat) (v : Option Value) (h : Heap) (vm : Vm) (L : List Loc) : Prop := ∃ (t : Addr), ∃ (kb : ClassId), v = none ∧ Fr n0 L ∧ Keep h0 h [x] ∧ (XSt Z h x) ∧ (FSv Z h x (.ref t)) ∧ (FSc Z h x (.int (0 : Int32))) ∧ (Arv Z h t kb .byte (0 : Int32) ([]) (.int 0)) ∧ (Nq t x) ∧ (ChJ Z vm h)
theorem ef_e1 (m : MethodId) (x0 : Addr) (x1 : Addr) : entryFrame m #[(.ref x0), (.ref x1)] 2 = mkF m 0 #[sR x0, sR x1] [] := by first | (simp [entryFrame, mkF, argsToLocals, Value.category]; done) | rfl
set_option maxRecDepth 65536 in
set_option maxHeartbeats 40000000 in
theorem e1 (l : Launch) (Z : State) (a0 : Array Value) (hw : ∀ d ∈ tables_1, d.before a0 Z = true) (ws : List Jvm.Cond) (x : Addr) (b : Addr) (ck : ClassId) (h0 : Heap) (n0 : Nat) (Z0 : n0 ≤ h0.size) (q0 : OZ Z h0 n0) (hew : EW Z a0 ELs) (q2 : Lq n0 x) (q3 : XSt Z h0 x) (q4 : FSv Z h0 x .null) (q5 : FSc Z h0 x (.int (0 : Int32))) (q6 : Arv Z h0 b ck .char (0 : Int32) ([]) (.int (0 : Int32))) :
  MetFree l y_9 (head1 (Jvm.Cond.code y_9 jdk_42_method_3_code 2 none :: ws) r_m34) (fun a_ U_ => a_ = #[(.ref x), (.ref b)] ∧ Z.Warmed39 U_.vm ∧ U_.heap = h0 ∧ ChS Z x x U_.vm h0) (fun _ _ _ _ _ => True) (fun _ U_ o_ V_ => ∃ v_ L_, o_ = .returned v_ ∧ Qe1 Z x b ck h0 n0 v_ V_.heap V_.vm L_ ∧ ReturnedEndW U_ o_ V_ L_ r_m34.cells r_m34.slots) := by
 refine MetFree.of_bodySF (plainFor_of_name pn_1) hisR ?_
 intro p e s m args below meth c s₁ Bd ar hP hK
 obtain ⟨rfl, hZ, hh, hphi_cxx⟩ := hP
 have hx := Bd.exec
 have dc := @hb _ _ Bd.bytes
 have hml : c.maxLocals = 2 := ar
 have hown : s.vm.findClass "java/lang/String" = some m.cls := findClass_of_methodNamed Bd.named
 have hnm := (name_of_methodNamed Bd.named Bd.method).1
 have X0 : Stand p l e r_m34 (s.setVm s.vm) m #[(.ref x), (.ref b)] below meth c s₁ [] 0 0 := Stand.of_body Bd
 have e0 : s₁.heap = h0 := by rw [← hh, Bd.state]; rfl
 have N0 := Fr.nil n0
 have am : s.Since s.vm h0.size := (State.WarmedH.refl s).since _
 have ap : h0.size ≤ h0.size := Nat.le_refl _
 have Oo := q0.1
 have zo := q0.2
 have aH := own_alt q3.lt
 have aI := own_alt q4.lt
 have aJ := own_alt q5.lt
 have aK := own_alt q6.lt
 have hstr : ∀ d ∈ Bundle.stringAtoms, d.before a0 Z = true := fun d hd => hw d (own_hstr d hd)
 refine Gl.go (A := s₁.setTop (entryFrame m #[(.ref x), (.ref b)] 2)) (P := fun o_ U_ => ∃ v_ L_, o_ = .returned v_ ∧ Qe1 Z x b ck h0 n0 v_ U_.heap U_.vm L_ ∧ ReturnedEndW s o_ U_ L_ r_m34.cells r_m34.slots) (fun t_ k_ => castTop (ef_e1 m x b) k_) ?_
 show Gl p.tables e below _ (s₁.setTop (mkF m 0 #[sR x, sR b] []))
 refine Gl.go (fun _ hr => zaloadN X0.here hx (dc d2_0) rfl rfl (zaloadN X0.here hx (dc d2_1) rfl rfl (ziconst X0.here hx (dc d2_2) (zaloadN X0.here hx (dc d2_3) rfl rfl hr)))) ?_
 obtain ⟨aD, ak, aP, ax, av, aA, aC⟩ := id q6
 refine gLen Gl.cl X0 hx hZ e0 ak ax av rfl rfl (dc d2_4) ?_
 refine Gl.go (fun _ hr => zaconstNull X0.here hx (dc d2_5) hr) ?_
 have az : n0 ≤ h0.size := by omega
 refine gSpecialJ Gl.cl (y := y_8) (b := x) (argsL := [(.ref b), (.int (0 : Int32)), (.int (0 : Int32)), .null]) (rest := []) (mc := 2) (ms := 4) (Φ := fun vm => ChS Z x x vm h0) X0 hx hZ am (by have q := ap; omega) hown rfl (mvT hZ (tw hw 12 rfl)) (mvT hZ (tw hw 13 rfl)) (mvT hZ (tw hw 15 rfl)) (by decide) (backOfJ (Φ := fun vm => ChS Z x x vm h0) (W := 0) (e4 l Z a0 hw [] x b h0 n0 az ⟨Oo, (by omega)⟩ (by assumption) (by omega) q3 q4 q5) hZ (tw hw 15 rfl) (tw hw 7 rfl) (by decide) (by decide)) rfl (by rw [hml]; rfl) (lenOf pd_7 rfl) rfl (by exact Nat.le_of_eq rfl) (dc d2_6) rfl e0 (fun vm₁ hvm => hphi_cxx.warm hvm) (by decide) (by decide) ?_
 intro aQ aa aB al ab ao aF aG aq
 obtain ⟨ay, au, rfl, aj, ac, ae, af, ag, ah, aE, aw⟩ := al
 have aR : h0.size ≤ aa.heap.size := ac.1
 have ai := Fr.app N0 aj
 have aL := own_alt ae.lt
 have aM := own_alt af.lt
 have aN := own_alt ag.lt
 have aO := own_alt ah.lt
 obtain ⟨fs, hr, hrun, hended, hE⟩ := ab.leaveW ao (by have q := congrArg Array.size (rfl : aa.heap = aa.heap); have q2 := aq; omega) (v := none) (fun _ => rfl)
 refine ⟨_, _, ab.returnOut hx Bd.returns (dc d2_9) hr, hrun, hended, _, _, rfl, ?_, ⟨hE.1, hE.2.1, hE.2.2.1, hE.2.2.2.mono (by decide) (by decide)⟩⟩
 show Qe1 Z x b ck h0 n0 _ aa.heap aa.vm _
 exact ⟨ay, au, rfl, ai, ((Keep.refl h0 [x]).trans ac (allS (P := fun x_ => x_ ∈ ([x] : List Addr) ∨ h0.size ≤ x_) (Or.inl (by simp)) all0)), ae, af, ag, ah, (by omega), (aw.warm ab.warmed)⟩
def Qstrc (Z : State) (bi : Int32) (n : Nat) (G1 : Int32) (h0 : Heap) (n0 : Nat) (v : Option Value) (h : Heap) (vm : Vm) (L : List Loc) : Prop := ∃ (r : Addr), ∃ (t : Addr), ∃ (kb : ClassId), ∃ (cd : Int32), ∃ (N2 : Int32), ∃ (vs : List Value), v = some (.ref r) ∧ Fr n0 L ∧ Keep h0 h [] ∧ (XSt Z h r) ∧ (FSv Z h r (.ref t)) ∧ (FSc Z h r (.int cd)) ∧ (Arv Z h t kb .byte N2 vs (.int (0 : Int32))) ∧ (Lq h0.size r) ∧ (StrChars.Road.CodA (sx bi n) cd N2 vs) ∧ (ChJ Z vm h)
theorem pn_7 : plainName "org/latchkey/cli/ResultLineFieldPinLaw" = true := by first | (simp [plainName, overriddenIn]; done) | decide +kernel
theorem ef_strc (m : MethodId) (x0 : Int32) (x1 : Int32) : entryFrame m #[(.int x0), (.int x1)] 4 = mkF m 0 #[sI x0, sI x1, sU, sU] [] := by first | (simp [entryFrame, mkF, argsToLocals, Value.category]; done) | rfl
abbrev K1 (i : Nat) := decode method_2_code i
theorem d1_0 : K1 0 = .ok (.iload_n 0, 1) := by decide +kernel
theorem d1_1 : K1 1 = .ok (.ldc 7, 2) := by decide +kernel
theorem d1_3 : K1 3 = .ok (.iand, 1) := by decide +kernel
theorem d1_4 : K1 4 = .ok (.i2c, 1) := by decide +kernel
theorem d1_5 : K1 5 = .ok (.istore_n 2, 1) := by decide +kernel
theorem d1_6 : K1 6 = .ok (.iload_n 0, 1) := by decide +kernel
theorem d1_7 : K1 7 = .ok (.bipush 16, 2) := by decide +kernel
theorem d1_9 : K1 9 = .ok (.iushr, 1) := by decide +kernel
theorem d1_10 : K1 10 = .ok (.ldc 7, 2) := by decide +kernel
theorem d1_12 : K1 12 = .ok (.iand, 1) := by decide +kernel
theorem d1_13 : K1 13 = .ok (.i2c, 1) := by decide +kernel
theorem d1_14 : K1 14 = .ok (.istore_n 3, 1) := by decide +kernel
theorem d1_15 : K1 15 = .ok (.iload_n 1, 1) := by decide +kernel
theorem d1_16 : K1 16 = .ok (.ifCond .ne 14, 3) := by decide +kernel
theorem d1_19 : K1 19 = .ok (.new 8, 3) := by decide +kernel
theorem d1_22 : K1 22 = .ok (.dup, 1) := by decide +kernel
theorem d1_23 : K1 23 = .ok (.iconst 0, 1) := by decide +kernel
theorem d1_24 : K1 24 = .ok (.newarray .char, 2) := by decide +kernel
theorem d1_26 : K1 26 = .ok (.invokespecial 10, 3) := by decide +kernel
theorem pd_33 : parseMethodDescriptor "([C)V" = some ⟨[(.array .char)], none⟩ := by decide +kernel
theorem d1_29 : K1 29 = .ok (.areturn, 1) := by decide +kernel
theorem d1_30 : K1 30 = .ok (.iload_n 1, 1) := by decide +kernel
theorem d1_31 : K1 31 = .ok (.iconst 1, 1) := by decide +kernel
theorem d1_32 : K1 32 = .ok (.if_icmp .ne 18, 3) := by decide +kernel
theorem d1_35 : K1 35 = .ok (.new 8, 3) := by decide +kernel
theorem d1_38 : K1 38 = .ok (.dup, 1) := by decide +kernel
theorem d1_39 : K1 39 = .ok (.iconst 1, 1) := by decide +kernel
theorem d1_40 : K1 40 = .ok (.newarray .char, 2) := by decide +kernel
theorem d1_42 : K1 42 = .ok (.dup, 1) := by decide +kernel
theorem d1_43 : K1 43 = .ok (.iconst 0, 1) := by decide +kernel
theorem d1_44 : K1 44 = .ok (.iload_n 2, 1) := by decide +kernel
theorem d1_45 : K1 45 = .ok (.castore, 1) := by decide +kernel
theorem d1_46 : K1 46 = .ok (.invokespecial 10, 3) := by decide +kernel
theorem d1_49 : K1 49 = .ok (.areturn, 1) := by decide +kernel
theorem d1_50 : K1 50 = .ok (.new 8, 3) := by decide +kernel
theorem d1_53 : K1 53 = .ok (.dup, 1) := by decide +kernel
theorem d1_54 : K1 54 = .ok (.iconst 2, 1) := by decide +kernel
theorem d1_55 : K1 55 = .ok (.newarray .char, 2) := by decide +kernel
theorem d1_57 : K1 57 = .ok (.dup, 1) := by decide +kernel
theorem d1_58 : K1 58 = .ok (.iconst 0, 1) := by decide +kernel
theorem d1_59 : K1 59 = .ok (.iload_n 2, 1) := by decide +kernel
theorem d1_60 : K1 60 = .ok (.castore, 1) := by decide +kernel
theorem d1_61 : K1 61 = .ok (.dup, 1) := by decide +kernel
theorem d1_62 : K1 62 = .ok (.iconst 1, 1) := by decide +kernel
theorem d1_63 : K1 63 = .ok (.iload_n 3, 1) := by decide +kernel
theorem d1_64 : K1 64 = .ok (.castore, 1) := by decide +kernel
theorem d1_65 : K1 65 = .ok (.invokespecial 10, 3) := by decide +kernel
theorem d1_68 : K1 68 = .ok (.areturn, 1) := by decide +kernel
set_option maxRecDepth 65536 in
set_option maxHeartbeats 40000000 in
theorem strc (l : Launch) (Z : State) (a0 : Array Value) (hw : ∀ d ∈ tables_1, d.before a0 Z = true) (ws : List Jvm.Cond) (bi : Int32) (n : Nat) (G1 : Int32) (h0 : Heap) (n0 : Nat) (Z0 : n0 ≤ h0.size) (q0 : SCs Z G1) (P5 : ¬ (G1 = (0 : Int32))) (q2 : OZ Z h0 n0) (q3 : SAd Z) (q4 : SHi Z) (q5 : SLo Z) (hew : EW Z a0 ELs) (hn : n ≤ 2) :
  MetFree l y_50 (head1 (Jvm.Cond.code y_50 method_2_code 4 (some (.object "java/lang/String")) :: ws) r_m35) (fun a_ U_ => a_ = #[(.int bi), (.int (Int32.ofNat n))] ∧ Z.Warmed39 U_.vm ∧ U_.heap = h0 ∧ ChJ Z U_.vm h0) (fun _ _ _ _ _ => True) (fun _ U_ o_ V_ => ∃ v_ L_, o_ = .returned v_ ∧ Qstrc Z bi n G1 h0 n0 v_ V_.heap V_.vm L_ ∧ ReturnedEndW U_ o_ V_ L_ r_m35.cells r_m35.slots) := by
 refine MetFree.of_bodySF (plainFor_of_name pn_7) hisR ?_
 intro p e s m args below meth c s₁ Bd cX hP hK
 obtain ⟨rfl, hZ, hh, hphi_ch⟩ := hP
 have hx := Bd.exec
 have dc := @hb _ _ Bd.bytes
 have hml : c.maxLocals = 4 := cX
 have hown : s.vm.findClass "org/latchkey/cli/ResultLineFieldPinLaw" = some m.cls := findClass_of_methodNamed Bd.named
 have hnm := (name_of_methodNamed Bd.named Bd.method).1
 have X0 : Stand p l e r_m35 (s.setVm s.vm) m #[(.int bi), (.int (Int32.ofNat n))] below meth c s₁ [] 0 0 := Stand.of_body Bd
 have e0 : s₁.heap = h0 := by rw [← hh, Bd.state]; rfl
 have N0 := Fr.nil n0
 have aV : s.Since s.vm h0.size := (State.WarmedH.refl s).since _
 have aW : h0.size ≤ h0.size := Nat.le_refl _
 have Oo := q2.1
 have zo := q2.2
 have hstr : ∀ d ∈ Bundle.stringAtoms, d.before a0 Z = true := fun d hd => hw d (own_hstr d hd)
 refine Gl.go (A := s₁.setTop (entryFrame m #[(.int bi), (.int (Int32.ofNat n))] 4)) (P := fun o_ U_ => ∃ v_ L_, o_ = .returned v_ ∧ Qstrc Z bi n G1 h0 n0 v_ U_.heap U_.vm L_ ∧ ReturnedEndW s o_ U_ L_ r_m35.cells r_m35.slots) (fun t_ k_ => castTop (ef_strc m bi (Int32.ofNat n)) k_) ?_
 show Gl p.tables e below _ (s₁.setTop (mkF m 0 #[sI bi, sI (Int32.ofNat n), sU, sU] []))
 refine Gl.go (fun _ hr => ziloadN X0.here hx (dc d1_0) rfl hr) ?_
 refine Gl.go (X0.ldcInt hx hown (mvT hZ (tw hw 4 rfl)) rfl (dc d1_1)) ?_
 refine Gl.go (fun _ hr => ziand X0.here hx (dc d1_3) rfl (zi2c X0.here hx (dc d1_4) rfl hr)) ?_
 show Gl p.tables e below _ (s₁.setTop (mkF m 5 #[sI bi, sI (Int32.ofNat n), sU, sU] [(.int ((bi &&& (65535 : Int32)).toUInt32.toUInt16.toUInt32.toInt32))]))
 show Gl p.tables e below _ (s₁.setTop (mkF m 5 #[sI bi, sI (Int32.ofNat n), sU, sU] [(.int (lo16 bi))]))
 refine Gl.go (fun _ hr => zistoreN X0.here hx (dc d1_5) rfl (l' := #[sI bi, sI (Int32.ofNat n), sI (lo16 bi), sU]) rfl (ziloadN X0.here hx (dc d1_6) rfl (zbipush X0.here hx (dc d1_7) (ziushr X0.here hx (dc d1_9) rfl hr)))) ?_
 refine Gl.go (X0.ldcInt hx hown (mvT hZ (tw hw 4 rfl)) rfl (dc d1_10)) ?_
 refine Gl.go (fun _ hr => ziand X0.here hx (dc d1_12) rfl (zi2c X0.here hx (dc d1_13) rfl hr)) ?_
 show Gl p.tables e below _ (s₁.setTop (mkF m 14 #[sI bi, sI (Int32.ofNat n), sI (lo16 bi), sU] [(.int (((XT.ushr bi (16 : Int32)) &&& (65535 : Int32)).toUInt32.toUInt16.toUInt32.toInt32))]))
 show Gl p.tables e below _ (s₁.setTop (mkF m 14 #[sI bi, sI (Int32.ofNat n), sI (lo16 bi), sU] [(.int (hi16 bi))]))
 refine Gl.go (fun _ hr => zistoreN X0.here hx (dc d1_14) rfl (l' := #[sI bi, sI (Int32.ofNat n), sI (lo16 bi), sI (hi16 bi)]) rfl hr) ?_
 show Gl p.tables e below _ (s₁.setTop (mkF m 15 #[sI bi, sI (Int32.ofNat n), sI (lo16 bi), sI (hi16 bi)] []))
 rcases own_le2 hn with ak | ak | ak
 ·refine Gl.cast (F' := (mkF m 15 #[sI bi, sI 0, sI (lo16 bi), sI (hi16 bi)] [])) (by rw [ak]; first | done | rfl) ?_
  show Gl p.tables e below _ (s₁.setTop (mkF m 15 #[sI bi, sI 0, sI (lo16 bi), sI (hi16 bi)] []))
  refine Gl.go (fun _ hr => ziloadN X0.here hx (dc d1_15) rfl (zifNo X0.here hx (dc d1_16) rfl (XT.i0_ne_f (by decide)) hr)) ?_
  refine gNew Gl.cl X0 hx hZ hown (tw hw 5 rfl) (tw hw 6 rfl) (tw hw 7 rfl) e0 rfl (dc d1_19) (by decide) (by decide) ?_
  intro dF aC aa dU aL cH ax aZ a9
  have eo : h0.size ≤ aC.size := ax.1
  have d2 := own_alt aZ.lt
  have bN : FSv Z aC aa .null := a9 (Or.inr (tw hw 21 rfl)) (ty := (.array .byte)) (by decide)
  have bM : FSc Z aC aa (.int (0 : Int32)) := a9 (Or.inr (tw hw 22 rfl)) (ty := .byte) (by decide)
  refine Gl.go (fun _ hr => zdup aL.here hx (dc d1_22) rfl rfl (ziconst aL.here hx (dc d1_23) hr)) ?_
  refine gNewPE Gl.cl aL hx hZ (tw hw 8 rfl) cH rfl (dc d1_24) rfl (by decide) (cap := 0) (by decide) (by decide) (by decide) (by decide) (ad := "[C") (by decide) ?_
  intro dG aj aR bA dV cE cI al a3 dz
  have ep : aC.size ≤ aj.size := al.1
  have d3 := own_alt a3.lt
  have cw : Arv Z aj aR bA .char (0 : Int32) [] (.int (0 : Int32)) := (Arv.new a3 (by decide)).pad (pad_rep [] (.int (0 : Int32)) 0)
  have cm := ((Oo.ext ax).ext al)
  have aI := (aZ.ext al)
  have bS := (bN.ext al)
  have bT := (bM.ext al)
  have dw : n0 ≤ aj.size := by omega
  have aY : Lq h0.size aa := by omega
  have dh : ChS Z aa aa s.vm aj := ChS.make hphi_ch (((Keep.refl h0 []).ext ax).ext al) (own_ale aY) (own_ale aY) aI.lt aI.lt
  refine gSpecialJ Gl.cl (y := y_9) (b := aa) (argsL := [(.ref aR)]) (rest := [(.ref aa)]) (mc := 2) (ms := 4) (Φ := fun vm => ChS Z aa aa vm aj) cE hx hZ aV (by have q := aW; omega) hown rfl (mvT hZ (tw hw 9 rfl)) (mvT hZ (tw hw 10 rfl)) (mvT hZ (tw hw 11 rfl)) (by decide) (backOfJ (Φ := fun vm => ChS Z aa aa vm aj) (W := 1) (e1 l Z a0 hw [] aa aR bA aj n0 dw ⟨cm, (by omega)⟩ (by assumption) (by omega) aI bS bT cw) hZ (tw hw 11 rfl) (tw hw 7 rfl) (by decide) (by decide)) rfl (by rw [hml]; rfl) (lenOf pd_33 rfl) rfl (by exact Nat.le_of_eq rfl) (dc d1_26) rfl cI (fun vm₁ hvm => dh.warm hvm) (by decide) (by decide) ?_
  intro el ap dC cR aM cV d0 d1 cW
  obtain ⟨dn, c3, rfl, cg, bc, bl, bm, bn, bo, dR, dg⟩ := cR
  have er : aj.size ≤ ap.heap.size := bc.1
  have b5 := Fr.app N0 cg
  have d4 := own_alt bl.lt
  have d5 := own_alt bm.lt
  have d6 := own_alt bn.lt
  have d7 := own_alt bo.lt
  obtain ⟨fs, hr, hrun, hended, hE⟩ := aM.leaveW cV (by have q := congrArg Array.size (rfl : ap.heap = ap.heap); have q2 := cW; omega) (v := some (.ref aa)) (fun h => by rw [Bd.returns] at h; cases h)
  refine ⟨_, _, retOut aM hx Bd.returns rfl (Or.inr (Or.inr (Or.inr (Or.inr ⟨rfl, rfl, rfl⟩)))) (dc d1_29) hr, hrun, hended, _, _, rfl, ?_, ⟨hE.1, hE.2.1, hE.2.2.1, hE.2.2.2.mono (by decide) (by decide)⟩⟩
  show Qstrc Z bi n G1 h0 n0 _ ap.heap ap.vm _
  exact ⟨aa, dn, c3, 0, (0 : Int32), [], rfl, b5, ((((Keep.refl h0 []).ext ax).ext al).trans bc (allS (P := fun x_ => x_ ∈ ([] : List Addr) ∨ h0.size ≤ x_) (Or.inr (own_ale aY)) all0)), bl, bm, bn, bo, (by omega), (by rw [ak]; exact (show StrChars.Road.CodA [] 0 _ _ from Or.inl ⟨rfl, rfl, rfl, own_c0⟩)), (dg.warm aM.warmed)⟩
 ·refine Gl.cast (F' := (mkF m 15 #[sI bi, sI 1, sI (lo16 bi), sI (hi16 bi)] [])) (by rw [ak]; first | done | rfl) ?_
  show Gl p.tables e below _ (s₁.setTop (mkF m 15 #[sI bi, sI 1, sI (lo16 bi), sI (hi16 bi)] []))
  refine Gl.go (fun _ hr => ziloadN X0.here hx (dc d1_15) rfl (zifYes X0.here hx (pc0 := 16) (pc' := 30) rfl (dc d1_16) rfl (XT.i0_ne_t (by decide)) (by decide) (by decide) (ziloadN X0.here hx (dc d1_30) rfl (ziconst X0.here hx (dc d1_31) (zicmpNo X0.here hx (dc d1_32) rfl (XT.ii_ne_f (by decide)) hr))))) ?_
  refine gNew Gl.cl X0 hx hZ hown (tw hw 5 rfl) (tw hw 6 rfl) (tw hw 7 rfl) e0 rfl (dc d1_35) (by decide) (by decide) ?_
  intro dH aD af dW aN cJ ay a5 ba
  have es : h0.size ≤ aD.size := ay.1
  have d8 := own_alt a5.lt
  have bP : FSv Z aD af .null := ba (Or.inr (tw hw 21 rfl)) (ty := (.array .byte)) (by decide)
  have bO : FSc Z aD af (.int (0 : Int32)) := ba (Or.inr (tw hw 22 rfl)) (ty := .byte) (by decide)
  refine Gl.go (fun _ hr => zdup aN.here hx (dc d1_38) rfl rfl (ziconst aN.here hx (dc d1_39) hr)) ?_
  refine gNewPE Gl.cl aN hx hZ (tw hw 8 rfl) cJ rfl (dc d1_40) rfl (by decide) (cap := 1) (by decide) (by decide) (by decide) (by decide) (ad := "[C") (by decide) ?_
  intro dI aS ai aX dX aA cK am a6 dA
  have et : aD.size ≤ aS.size := am.1
  have d9 := own_alt a6.lt
  have cx : Arv Z aS ai aX .char (1 : Int32) [(.int (0 : Int32))] (.int (0 : Int32)) := (Arv.new a6 (by decide)).pad (pad_rep [] (.int (0 : Int32)) 1)
  refine Gl.go (fun _ hr => zdup aA.here hx (dc d1_42) rfl rfl (ziconst aA.here hx (dc d1_43) (ziloadN aA.here hx (dc d1_44) rfl hr))) ?_
  obtain ⟨dO, bg, dk, bH, c7, bY, cp⟩ := id cx
  refine gstC Gl.cl aA hx hZ cK bg (j := (0 : Int32)) (inb_of bH ⟨(by decide), (by decide)⟩) rfl rfl (dc d1_45) ?_
  intro dJ av be cL ab
  have eu : aS.size ≤ av.size := (Keep.of_wr ab).1
  rw [(own_nar_wid (lo16_wid bi))] at ab
  have cy : Arv Z av ai aX .char (1 : Int32) [(.int (lo16 bi))] (.int (0 : Int32)) := Arv.set bg dk bH c7 bY cp (own_fit_wid (lo16_wid bi)) ab 0 rfl (Nat.le_of_ble_eq_true rfl)
  have da : Lq n0 ai := by omega
  have b6 := Fr.snoc be N0 (own_ale da)
  have cY : ∀ c ∈ ([(lo16 bi)] : List Int32), Wid c := (own_cS (P := Wid) (lo16_wid bi) own_c0)
  have db : Lq Z.heap.size ai := by omega
  have cn := (((Oo.ext ay).ext am).wr ab (own_ale db))
  have bK := ((a5.ext am).wr ab)
  have bB : Nq af ai := by omega
  have bU := ((bP.ext am).other ab (Or.inl (own_ane bB)))
  have bV := ((bO.ext am).other ab (Or.inl (own_ane bB)))
  have dx : n0 ≤ av.size := by omega
  refine gSpecialN Gl.cl (y := y_9) (b := af) (argsL := [(.ref ai)]) (rest := [(.ref af)]) (mc := 2) (ms := 6) be hx hZ hown rfl (mvT hZ (tw hw 9 rfl)) (mvT hZ (tw hw 10 rfl)) (mvT hZ (tw hw 11 rfl)) (by decide) (backOf (W := 1) (invL l Z a0 hw [] af ai aX ([(lo16 bi)] : List Int32) G1 av n0 dx q0 (by assumption) ⟨cn, (by omega)⟩ q3 q4 q5 (by omega) bK bU bV cy cY (Nat.le_of_ble_eq_true rfl) (Nat.le_of_ble_eq_true rfl)) hZ (tw hw 11 rfl) (tw hw 7 rfl) (by decide) (by decide)) rfl (by rw [hml]; rfl) (lenOf pd_33 rfl) rfl (by exact Nat.le_of_eq rfl) (dc d1_46) rfl cL (by decide) (by decide) ?_
  intro em aq dD cT aO
  obtain ⟨dq, c5, cF, b3, dt, rfl, ci, aJ, bp, bq, br, bs, dS, de⟩ := cT
  have ew : av.size ≤ aq.heap.size := aJ.1
  have b7 := Fr.app b6 ci
  have ea := own_alt bp.lt
  have eb := own_alt bq.lt
  have ed := own_alt br.lt
  have ee := own_alt bs.lt
  obtain ⟨fs, hr, hrun, hended, hE⟩ := aO.leaveW aV (by have q := congrArg Array.size (rfl : aq.heap = aq.heap); have q2 := aW; omega) (v := some (.ref af)) (fun h => by rw [Bd.returns] at h; cases h)
  have bC : Lq h0.size ai := by omega
  have bD : Lq h0.size af := by omega
  refine ⟨_, _, retOut aO hx Bd.returns rfl (Or.inr (Or.inr (Or.inr (Or.inr ⟨rfl, rfl, rfl⟩)))) (dc d1_49) hr, hrun, hended, _, _, rfl, ?_, ⟨hE.1, hE.2.1, hE.2.2.1, hE.2.2.2.mono (by decide) (by decide)⟩⟩
  show Qstrc Z bi n G1 h0 n0 _ aq.heap aq.vm _
  have di := hphi_ch.keep (((((Keep.refl h0 []).ext ay).ext am).wr ab (Or.inr (own_ale bC))).trans aJ (allS (P := fun x_ => x_ ∈ ([] : List Addr) ∨ h0.size ≤ x_) (Or.inr (own_ale bD)) all0))
  exact ⟨af, dq, c5, cF, b3, dt, rfl, b7, (((((Keep.refl h0 []).ext ay).ext am).wr ab (Or.inr (own_ale bC))).trans aJ (allS (P := fun x_ => x_ ∈ ([] : List Addr) ∨ h0.size ≤ x_) (Or.inr (own_ale bD)) all0)), bp, bq, br, bs, (by omega), (by rw [ak]; exact de), (di.warm aO.warmed)⟩
 ·refine Gl.cast (F' := (mkF m 15 #[sI bi, sI 2, sI (lo16 bi), sI (hi16 bi)] [])) (by rw [ak]; first | done | rfl) ?_
  show Gl p.tables e below _ (s₁.setTop (mkF m 15 #[sI bi, sI 2, sI (lo16 bi), sI (hi16 bi)] []))
  refine Gl.go (fun _ hr => ziloadN X0.here hx (dc d1_15) rfl (zifYes X0.here hx (pc0 := 16) (pc' := 30) rfl (dc d1_16) rfl (XT.i0_ne_t (by decide)) (by decide) (by decide) (ziloadN X0.here hx (dc d1_30) rfl (ziconst X0.here hx (dc d1_31) (zicmpYes X0.here hx (pc0 := 32) (pc' := 50) rfl (dc d1_32) rfl (XT.ii_ne_t (by decide)) (by decide) (by decide) hr))))) ?_
  refine gNew Gl.cl X0 hx hZ hown (tw hw 5 rfl) (tw hw 6 rfl) (tw hw 7 rfl) e0 rfl (dc d1_50) (by decide) (by decide) ?_
  intro dK aE ag dY aP cN az a7 bb
  have ex : h0.size ≤ aE.size := az.1
  have ef := own_alt a7.lt
  have bR : FSv Z aE ag .null := bb (Or.inr (tw hw 21 rfl)) (ty := (.array .byte)) (by decide)
  have bQ : FSc Z aE ag (.int (0 : Int32)) := bb (Or.inr (tw hw 22 rfl)) (ty := .byte) (by decide)
  refine Gl.go (fun _ hr => zdup aP.here hx (dc d1_53) rfl rfl (ziconst aP.here hx (dc d1_54) hr)) ?_
  refine gNewPE Gl.cl aP hx hZ (tw hw 8 rfl) cN rfl (dc d1_55) rfl (by decide) (cap := 2) (by decide) (by decide) (by decide) (by decide) (ad := "[C") (by decide) ?_
  intro dL aT ah aF dZ aB cO ao a8 dB
  have ey : aE.size ≤ aT.size := ao.1
  have eg := own_alt a8.lt
  have cz : Arv Z aT ah aF .char (2 : Int32) [(.int (0 : Int32)), (.int (0 : Int32))] (.int (0 : Int32)) := (Arv.new a8 (by decide)).pad (pad_rep [] (.int (0 : Int32)) 2)
  refine Gl.go (fun _ hr => zdup aB.here hx (dc d1_57) rfl rfl (ziconst aB.here hx (dc d1_58) (ziloadN aB.here hx (dc d1_59) rfl hr))) ?_
  obtain ⟨dP, bh, dl, bI, c8, bZ, ct⟩ := id cz
  refine gstC Gl.cl aB hx hZ cO bh (j := (0 : Int32)) (inb_of bI ⟨(by decide), (by decide)⟩) rfl rfl (dc d1_60) ?_
  intro dM aU au cP ac
  have ez : aT.size ≤ aU.size := (Keep.of_wr ac).1
  rw [(own_nar_wid (lo16_wid bi))] at ac
  have cC : Arv Z aU ah aF .char (2 : Int32) [(.int (lo16 bi)), (.int (0 : Int32))] (.int (0 : Int32)) := Arv.set bh dl bI c8 bZ ct (own_fit_wid (lo16_wid bi)) ac 0 rfl (Nat.le_of_ble_eq_true rfl)
  have bE : Lq n0 ah := by omega
  have b8 := Fr.snoc au N0 (own_ale bE)
  refine Gl.go (fun _ hr => zdup au.here hx (dc d1_61) rfl rfl (ziconst au.here hx (dc d1_62) (ziloadN au.here hx (dc d1_63) rfl hr))) ?_
  obtain ⟨dQ, bj, dm, bJ, c9, b0, cu⟩ := id cC
  refine gstC Gl.cl au hx hZ cP bj (j := (1 : Int32)) (inb_of bJ ⟨(by decide), (by decide)⟩) rfl rfl (dc d1_64) ?_
  intro dN aw bf cQ ae
  have eA : aU.size ≤ aw.size := (Keep.of_wr ae).1
  rw [(own_nar_wid (hi16_wid bi))] at ae
  have cD : Arv Z aw ah aF .char (2 : Int32) [(.int (lo16 bi)), (.int (hi16 bi))] (.int (0 : Int32)) := Arv.set bj dm bJ c9 b0 cu (own_fit_wid (hi16_wid bi)) ae 1 rfl (Nat.le_of_ble_eq_true rfl)
  have b9 := Fr.snoc bf b8 (own_ale bE)
  have cZ : ∀ c ∈ ([(lo16 bi), (hi16 bi)] : List Int32), Wid c := (own_cS (P := Wid) (lo16_wid bi) (own_cS (P := Wid) (hi16_wid bi) own_c0))
  have bF : Lq Z.heap.size ah := by omega
  have co := ((((Oo.ext az).ext ao).wr ac (own_ale bF)).wr ae (own_ale bF))
  have bL := (((a7.ext ao).wr ac).wr ae)
  have aG : Nq ag ah := by omega
  have bW := (((bR.ext ao).other ac (Or.inl (own_ane aG))).other ae (Or.inl (own_ane aG)))
  have bX := (((bQ.ext ao).other ac (Or.inl (own_ane aG))).other ae (Or.inl (own_ane aG)))
  have dy : n0 ≤ aw.size := by omega
  refine gSpecialN Gl.cl (y := y_9) (b := ag) (argsL := [(.ref ah)]) (rest := [(.ref ag)]) (mc := 2) (ms := 6) bf hx hZ hown rfl (mvT hZ (tw hw 9 rfl)) (mvT hZ (tw hw 10 rfl)) (mvT hZ (tw hw 11 rfl)) (by decide) (backOf (W := 1) (invL l Z a0 hw [] ag ah aF ([(lo16 bi), (hi16 bi)] : List Int32) G1 aw n0 dy q0 (by assumption) ⟨co, (by omega)⟩ q3 q4 q5 (by omega) bL bW bX cD cZ (Nat.le_of_ble_eq_true rfl) (Nat.le_of_ble_eq_true rfl)) hZ (tw hw 11 rfl) (tw hw 7 rfl) (by decide) (by decide)) rfl (by rw [hml]; rfl) (lenOf pd_33 rfl) rfl (by exact Nat.le_of_eq rfl) (dc d1_65) rfl cQ (by decide) (by decide) ?_
  intro en ar dE cU aQ
  obtain ⟨dr, c6, cG, b4, du, rfl, cj, aK, bt, bu, bv, bz, dT, df⟩ := cU
  have eB : aw.size ≤ ar.heap.size := aK.1
  have ca := Fr.app b9 cj
  have eh := own_alt bt.lt
  have ei := own_alt bu.lt
  have ej := own_alt bv.lt
  have ek := own_alt bz.lt
  obtain ⟨fs, hr, hrun, hended, hE⟩ := aQ.leaveW aV (by have q := congrArg Array.size (rfl : ar.heap = ar.heap); have q2 := aW; omega) (v := some (.ref ag)) (fun h => by rw [Bd.returns] at h; cases h)
  have aH : Lq h0.size ah := by omega
  have bG : Lq h0.size ag := by omega
  refine ⟨_, _, retOut aQ hx Bd.returns rfl (Or.inr (Or.inr (Or.inr (Or.inr ⟨rfl, rfl, rfl⟩)))) (dc d1_68) hr, hrun, hended, _, _, rfl, ?_, ⟨hE.1, hE.2.1, hE.2.2.1, hE.2.2.2.mono (by decide) (by decide)⟩⟩
  show Qstrc Z bi n G1 h0 n0 _ ar.heap ar.vm _
  have dj := hphi_ch.keep ((((((Keep.refl h0 []).ext az).ext ao).wr ac (Or.inr (own_ale aH))).wr ae (Or.inr (own_ale aH))).trans aK (allS (P := fun x_ => x_ ∈ ([] : List Addr) ∨ h0.size ≤ x_) (Or.inr (own_ale bG)) all0))
  exact ⟨ag, dr, c6, cG, b4, du, rfl, ca, ((((((Keep.refl h0 []).ext az).ext ao).wr ac (Or.inr (own_ale aH))).wr ae (Or.inr (own_ale aH))).trans aK (allS (P := fun x_ => x_ ∈ ([] : List Addr) ∨ h0.size ≤ x_) (Or.inr (own_ale bG)) all0)), bt, bu, bv, bz, (by omega), (by rw [ak]; exact df), (dj.warm aQ.warmed)⟩
def Qrli (Z : State) (rl : Addr) (x : Addr) (t : Addr) (kb : ClassId) (cd : Int32) (N : Int32) (vs : List Value) (ds : List Int32) (G1 : Int32) (G3 : Value) (h0 : Heap) (n0 : Nat) (v : Option Value) (h : Heap) (L : List Loc) : Prop := ∃ (b : Addr), ∃ (a2 : Addr), ∃ (k2 : ClassId), ∃ (cb2 : Int32), ∃ (z2 : Int32), ∃ (xs2 : List Value), v = none ∧ Fr n0 L ∧ Keep h0 h [rl] ∧ (Exa Z h rl "org/latchkey/cli/ResultLine") ∧ (Fld Z h rl "org/latchkey/cli/ResultLine" "text" "Ljava/lang/StringBuilder;" (.ref b)) ∧ (XBu Z h b) ∧ (FBv Z h b (.ref a2)) ∧ (FBc Z h b (.int cb2)) ∧ (FBn Z h b (.int (Int32.ofNat ds.length))) ∧ (FBm Z h b (.int (0 : Int32))) ∧ (Exa Z h a2 "[B") ∧ (Arv Z h a2 k2 .byte z2 xs2 (.int (0 : Int32))) ∧ (BdA ds (ds.length + 16) cb2 z2 xs2) ∧ (@LE.le Nat instLENat h0.size b ∧ Lq h0.size a2) ∧ (Nq a2 b)
theorem pn_8 : plainName "org/latchkey/cli/ResultLine" = true := by first | (simp [plainName, overriddenIn]; done) | decide +kernel
theorem ef_rli (m : MethodId) (x0 : Addr) (x1 : Addr) : entryFrame m #[(.ref x0), (.ref x1)] 2 = mkF m 0 #[sR x0, sR x1] [] := by first | (simp [entryFrame, mkF, argsToLocals, Value.category]; done) | rfl
abbrev K5 (i : Nat) := decode prog_5_method_1_code i
theorem d5_0 : K5 0 = .ok (.aload_n 0, 1) := by decide +kernel
theorem d5_1 : K5 1 = .ok (.invokespecial 1, 3) := by decide +kernel
theorem d5_4 : K5 4 = .ok (.aload_n 0, 1) := by decide +kernel
theorem d5_5 : K5 5 = .ok (.new 7, 3) := by decide +kernel
theorem d5_8 : K5 8 = .ok (.dup, 1) := by decide +kernel
theorem d5_9 : K5 9 = .ok (.aload_n 1, 1) := by decide +kernel
theorem d5_10 : K5 10 = .ok (.invokespecial 9, 3) := by decide +kernel
theorem d5_13 : K5 13 = .ok (.putfield 12, 3) := by decide +kernel
theorem d5_16 : K5 16 = .ok (.return_, 1) := by decide +kernel
set_option maxRecDepth 65536 in
set_option maxHeartbeats 40000000 in
theorem rli (l : Launch) (Z : State) (a0 : Array Value) (hw : ∀ d ∈ tables_1, d.before a0 Z = true) (ws : List Jvm.Cond) (rl : Addr) (x : Addr) (t : Addr) (kb : ClassId) (cd : Int32) (N : Int32) (vs : List Value) (ds : List Int32) (G1 : Int32) (G3 : Value) (h0 : Heap) (n0 : Nat) (Z0 : n0 ≤ h0.size) (q0 : SCs Z G1) (P5 : ¬ (G1 = (0 : Int32))) (q2 : OZ Z h0 n0) (q3 : SFm Z G3) (rG3 : G3.isRef = true) (q5 : SAd Z) (q6 : SHi Z) (q7 : SLo Z) (q8 : Lq n0 rl) (q9 : Exa Z h0 rl "org/latchkey/cli/ResultLine") (q10 : Fld Z h0 rl "org/latchkey/cli/ResultLine" "text" "Ljava/lang/StringBuilder;" .null) (q11 : XSt Z h0 x) (q12 : FSv Z h0 x (.ref t)) (q13 : FSc Z h0 x (.int cd)) (q14 : Arv Z h0 t kb .byte N vs (.int (0 : Int32))) (cod_x : StrChars.Road.CodA ds cd N vs) (hb_x : ∀ c ∈ ds, Wid c) (hd2 : ds.length ≤ 2) :
  MetFree l y_51 (head1 (Jvm.Cond.code y_51 prog_5_method_1_code 2 none :: ws) r_m36) (fun a_ U_ => a_ = #[(.ref rl), (.ref x)] ∧ Z.Warmed39 U_.vm ∧ U_.heap = h0) (fun _ _ _ _ _ => True) (fun _ U_ o_ V_ => ∃ v_ L_, o_ = .returned v_ ∧ Qrli Z rl x t kb cd N vs ds G1 G3 h0 n0 v_ V_.heap L_ ∧ FrameEnd U_ o_ V_ L_ r_m36.cells r_m36.slots) := by
 refine MetFree.of_bodySF (plainFor_of_name pn_8) hisR ?_
 intro p e s m args below meth c s₁ Bd a8 hP hK
 obtain ⟨rfl, hZ, hh⟩ := hP
 have hx := Bd.exec
 have dc := @hb _ _ Bd.bytes
 have hml : c.maxLocals = 2 := a8
 have hown : s.vm.findClass "org/latchkey/cli/ResultLine" = some m.cls := findClass_of_methodNamed Bd.named
 have hnm := (name_of_methodNamed Bd.named Bd.method).1
 have X0 : Stand p l e r_m36 s m #[(.ref rl), (.ref x)] below meth c s₁ [] 0 0 := Stand.of_body Bd
 have e0 : s₁.heap = h0 := by rw [← hh, Bd.state]; rfl
 have N0 := Fr.nil n0
 have Oo := q2.1
 have zo := q2.2
 have bo := own_alt q9.lt
 have bp := own_alt q10.lt
 have bq := own_alt q11.lt
 have br := own_alt q12.lt
 have bs := own_alt q13.lt
 have bt := own_alt q14.lt
 refine Gl.go (A := s₁.setTop (entryFrame m #[(.ref rl), (.ref x)] 2)) (P := fun o_ U_ => ∃ v_ L_, o_ = .returned v_ ∧ Qrli Z rl x t kb cd N vs ds G1 G3 h0 n0 v_ U_.heap L_ ∧ FrameEnd s o_ U_ L_ r_m36.cells r_m36.slots) (fun t_ k_ => castTop (ef_rli m rl x) k_) ?_
 show Gl p.tables e below _ (s₁.setTop (mkF m 0 #[sR rl, sR x] []))
 refine Gl.go (fun _ hr => zaloadN X0.here hx (dc d5_0) rfl rfl hr) ?_
 refine gInit Gl.cl (W := 0) X0 hx hZ hown (tw hw 33 rfl) (tw hw 17 rfl) (tw hw 18 rfl) e0 rfl (by rw [hml]; rfl) rfl (dc d5_1) (by decide) (by exact Nat.le_of_eq rfl) (by decide) ?_
 intro bj ap aY
 refine Gl.go (fun _ hr => zaloadN ap.here hx (dc d5_4) rfl rfl hr) ?_
 refine gNew Gl.cl ap hx hZ hown (tw hw 34 rfl) (tw hw 35 rfl) (tw hw 36 rfl) aY rfl (dc d5_5) (by decide) (by decide) ?_
 intro bl ae ab bn aj aZ ac al ag
 have bG : h0.size ≤ ae.size := ac.1
 have bu := own_alt al.lt
 have aE : FBc Z ae ab (.int (0 : Int32)) := ag (Or.inl (tw hw 61 rfl)) (ty := .byte) (by decide)
 have aH : FBv Z ae ab .null := ag (Or.inl (tw hw 63 rfl)) (ty := (.array .byte)) (by decide)
 have aF : FBn Z ae ab (.int (0 : Int32)) := ag (Or.inl (tw hw 79 rfl)) (ty := .int) (by decide)
 have aG : FBm Z ae ab (.int (0 : Int32)) := ag (Or.inl (tw hw 283 rfl)) (ty := .boolean) (by decide)
 refine Gl.go (fun _ hr => zdup aj.here hx (dc d5_8) rfl rfl (zaloadN aj.here hx (dc d5_9) rfl rfl hr)) ?_
 have aS := (Oo.ext ac)
 have aA := (q11.ext ac)
 have aI := (q12.ext ac)
 have aJ := (q13.ext ac)
 have aU := (q14.ext ac)
 have bg : n0 ≤ ae.size := by omega
 refine gSpecialN Gl.cl (y := y_49) (b := ab) (argsL := [(.ref x)]) (rest := [(.ref ab), (.ref rl)]) (mc := 2) (ms := 72) aj hx hZ hown rfl (mvT hZ (tw hw 37 rfl)) (mvT hZ (tw hw 38 rfl)) (mvT hZ (tw hw 39 rfl)) (by decide) (backOf (W := 2) (sisG l Z a0 hw [] ab x t kb cd N vs ds G1 G3 ae n0 bg q0 (by assumption) ⟨aS, (by omega)⟩ q3 (by assumption) q5 q6 q7 (by omega) al aH aE aF aG aA aI aJ aU (by assumption) (by assumption) (by omega) (by omega) (by assumption)) hZ (tw hw 39 rfl) (tw hw 36 rfl) (by decide) (by decide)) rfl (by rw [hml]; rfl) (lenOf pd_22 rfl) rfl (by exact Nat.le_of_eq rfl) (dc d5_10) rfl aZ (by decide) (by decide) ?_
 intro bF ai bh a7 aW
 obtain ⟨aq, a9, aX, bf, be, rfl, aR, ah, ar, au, av, aw, ax, ay, az, a5, bm⟩ := a7
 have bH : ae.size ≤ ai.heap.size := ah.1
 have aP := Fr.app N0 aR
 have bv := own_alt ar.lt
 have bz := own_alt au.lt
 have bA := own_alt av.lt
 have bB := own_alt aw.lt
 have bC := own_alt ax.lt
 have bD := own_alt ay.lt
 have bE := own_alt az.lt
 have af : Nq rl ab := by omega
 have ao := ((q10.ext ac).keep ah (ninS (own_ane af) nin0))
 have am := ((q9.ext ac).keep ah)
 refine gPutF (host := "") Gl.cl aW hx hZ hown (Or.inl (tw hw 105 rfl)) Via.refl (rfl : ai.heap = ai.heap) ao am (Or.inr ⟨(tw hw 106 rfl), rfl, hnm⟩) (tw hw 28 rfl) (ty := (.object "java/lang/StringBuilder")) (by decide) rfl rfl rfl rfl (dc d5_13) ?_
 intro aT a6 ak a3 aa
 have bI : ai.heap.size ≤ a6.size := (Keep.of_wr aa).1
 have aO := ao.same aa
 have ba : Lq n0 rl := by omega
 have aQ := Fr.snoc ak aP (own_ale ba)
 have aB := (am.wr aa)
 have aC := (ar.wr aa)
 have aK := (au.other aa (Or.inl (own_anes af)))
 have aL := (av.other aa (Or.inl (own_anes af)))
 have aM := (aw.other aa (Or.inl (own_anes af)))
 have aN := (ax.other aa (Or.inl (own_anes af)))
 have aD := (ay.wr aa)
 have bb : Nq aq rl := by omega
 have aV := (az.other aa (own_ane bb))
 obtain ⟨fs, hr, hrun, hended, hW, hsame⟩ := ak.leave (v := none) (fun _ => rfl)
 have bc : Lq h0.size ab := by omega
 refine ⟨_, _, ak.returnOut hx Bd.returns (dc d5_16) hr, hrun, hended, _, _, rfl, ?_, ⟨⟨_, rfl⟩, hW, hsame.mono (by decide) (by decide)⟩⟩
 show Qrli Z rl x t kb cd N vs ds G1 G3 h0 n0 _ aT.heap _
 rw [a3]
 exact ⟨ab, aq, a9, aX, bf, be, rfl, aQ, ((((Keep.refl h0 [rl]).ext ac).trans ah (allS (P := fun x_ => x_ ∈ ([rl] : List Addr) ∨ h0.size ≤ x_) (Or.inr (own_ale bc)) all0)).wr aa (Or.inl (by simp))), aB, aO, aC, aK, aL, aM, aN, aD, aV, a5, ⟨by omega, by omega⟩, (by omega)⟩
def Qsts (Z : State) (x : Addr) (h0 : Heap) (n0 : Nat) (v : Option Value) (h : Heap) (L : List Loc) : Prop := v = some (.ref x) ∧ Fr n0 L ∧ h = h0
theorem ef_sts (m : MethodId) (x0 : Addr) : entryFrame m #[(.ref x0)] 1 = mkF m 0 #[sR x0] [] := by first | (simp [entryFrame, mkF, argsToLocals, Value.category]; done) | rfl
abbrev K24 (i : Nat) := decode jdk_42_method_126_code i
theorem d24_0 : K24 0 = .ok (.aload_n 0, 1) := by decide +kernel
theorem d24_1 : K24 1 = .ok (.areturn, 1) := by decide +kernel
set_option maxRecDepth 65536 in
set_option maxHeartbeats 40000000 in
theorem sts (l : Launch) (Z : State) (a0 : Array Value) (hw : ∀ d ∈ tables_1, d.before a0 Z = true) (ws : List Jvm.Cond) (x : Addr) (h0 : Heap) (n0 : Nat) (Z0 : n0 ≤ h0.size) :
  MetFree l y_52 (head1 (Jvm.Cond.code y_52 jdk_42_method_126_code 1 (some (.object "java/lang/String")) :: ws) r_m0) (fun a_ U_ => a_ = #[(.ref x)] ∧ Z.Warmed39 U_.vm ∧ U_.heap = h0) (fun _ _ _ _ _ => True) (fun _ U_ o_ V_ => ∃ v_ L_, o_ = .returned v_ ∧ Qsts Z x h0 n0 v_ V_.heap L_ ∧ FrameEnd U_ o_ V_ L_ r_m0.cells r_m0.slots) := by
 refine MetFree.of_bodySF (plainFor_of_name pn_1) hisR ?_
 intro p e s m args below meth c s₁ Bd aa hP hK
 obtain ⟨rfl, hZ, hh⟩ := hP
 have hx := Bd.exec
 have dc := @hb _ _ Bd.bytes
 have hml : c.maxLocals = 1 := aa
 have hown : s.vm.findClass "java/lang/String" = some m.cls := findClass_of_methodNamed Bd.named
 have hnm := (name_of_methodNamed Bd.named Bd.method).1
 have X0 : Stand p l e r_m0 s m #[(.ref x)] below meth c s₁ [] 0 0 := Stand.of_body Bd
 have e0 : s₁.heap = h0 := by rw [← hh, Bd.state]; rfl
 have N0 := Fr.nil n0
 refine Gl.go (A := s₁.setTop (entryFrame m #[(.ref x)] 1)) (P := fun o_ U_ => ∃ v_ L_, o_ = .returned v_ ∧ Qsts Z x h0 n0 v_ U_.heap L_ ∧ FrameEnd s o_ U_ L_ r_m0.cells r_m0.slots) (fun t_ k_ => castTop (ef_sts m x) k_) ?_
 show Gl p.tables e below _ (s₁.setTop (mkF m 0 #[sR x] []))
 refine Gl.go (fun _ hr => zaloadN X0.here hx (dc d24_0) rfl rfl hr) ?_
 obtain ⟨fs, hr, hrun, hended, hW, hsame⟩ := X0.leave (v := some (.ref x)) (fun h => by rw [Bd.returns] at h; cases h)
 refine ⟨_, _, retOut X0 hx Bd.returns rfl (Or.inr (Or.inr (Or.inr (Or.inr ⟨rfl, rfl, rfl⟩)))) (dc d24_1) hr, hrun, hended, _, _, rfl, ?_, ⟨⟨_, rfl⟩, hW, hsame.mono (by decide) (by decide)⟩⟩
 show Qsts Z x h0 n0 _ s₁.heap _
 rw [e0]
 exact ⟨rfl, N0, rfl⟩
def Qvos (Z : State) (x : Addr) (h0 : Heap) (n0 : Nat) (v : Option Value) (h : Heap) (L : List Loc) : Prop := v = some (.ref x) ∧ Fr n0 L ∧ h = h0
theorem ef_vos (m : MethodId) (x0 : Addr) : entryFrame m #[(.ref x0)] 1 = mkF m 0 #[sR x0] [] := by first | (simp [entryFrame, mkF, argsToLocals, Value.category]; done) | rfl
abbrev K23 (i : Nat) := decode jdk_42_method_133_code i
theorem d23_0 : K23 0 = .ok (.aload_n 0, 1) := by decide +kernel
theorem d23_1 : K23 1 = .ok (.ifnonnull 9, 3) := by decide +kernel
theorem d23_10 : K23 10 = .ok (.aload_n 0, 1) := by decide +kernel
theorem d23_11 : K23 11 = .ok (.invokevirtual 1007, 3) := by decide +kernel
theorem pd_34 : parseMethodDescriptor "()Ljava/lang/String;" = some ⟨[], some (.object "java/lang/String")⟩ := by decide +kernel
theorem d23_14 : K23 14 = .ok (.areturn, 1) := by decide +kernel
set_option maxRecDepth 65536 in
set_option maxHeartbeats 40000000 in
theorem vos (l : Launch) (Z : State) (a0 : Array Value) (hw : ∀ d ∈ tables_1, d.before a0 Z = true) (ws : List Jvm.Cond) (x : Addr) (h0 : Heap) (n0 : Nat) (Z0 : n0 ≤ h0.size) (q0 : XSt Z h0 x) :
  MetFree l y_53 (head1 (Jvm.Cond.code y_53 jdk_42_method_133_code 1 (some (.object "java/lang/String")) :: ws) r_m13) (fun a_ U_ => a_ = #[(.ref x)] ∧ Z.Warmed39 U_.vm ∧ U_.heap = h0) (fun _ _ _ _ _ => True) (fun _ U_ o_ V_ => ∃ v_ L_, o_ = .returned v_ ∧ Qvos Z x h0 n0 v_ V_.heap L_ ∧ FrameEnd U_ o_ V_ L_ r_m13.cells r_m13.slots) := by
 refine MetFree.of_bodySF (plainFor_of_name pn_1) hisR ?_
 intro p e s m args below meth c s₁ Bd ah hP hK
 obtain ⟨rfl, hZ, hh⟩ := hP
 have hx := Bd.exec
 have dc := @hb _ _ Bd.bytes
 have hml : c.maxLocals = 1 := ah
 have hown : s.vm.findClass "java/lang/String" = some m.cls := findClass_of_methodNamed Bd.named
 have hnm := (name_of_methodNamed Bd.named Bd.method).1
 have X0 : Stand p l e r_m13 s m #[(.ref x)] below meth c s₁ [] 0 0 := Stand.of_body Bd
 have e0 : s₁.heap = h0 := by rw [← hh, Bd.state]; rfl
 have N0 := Fr.nil n0
 have ak := own_alt q0.lt
 refine Gl.go (A := s₁.setTop (entryFrame m #[(.ref x)] 1)) (P := fun o_ U_ => ∃ v_ L_, o_ = .returned v_ ∧ Qvos Z x h0 n0 v_ U_.heap L_ ∧ FrameEnd s o_ U_ L_ r_m13.cells r_m13.slots) (fun t_ k_ => castTop (ef_vos m x) k_) ?_
 show Gl p.tables e below _ (s₁.setTop (mkF m 0 #[sR x] []))
 refine Gl.go (fun _ hr => zaloadN X0.here hx (dc d23_0) rfl rfl (zifnonnullYes X0.here hx (pc0 := 1) (pc' := 10) rfl (dc d23_1) rfl (by decide) (by decide) (zaloadN X0.here hx (dc d23_10) rfl rfl hr))) ?_
 have ai : n0 ≤ h0.size := by omega
 refine gVirtualN Gl.cl (y := y_54) (z := y_52) (b := x) (argsL := []) (rest := []) (mc := 0) (ms := 0) X0 hx hZ hown (mvT hZ (tw hw 139 rfl)) (mvT hZ (tw hw 140 rfl)) (own_notFace (args := #[]) (mvT hZ (tw hw 291 rfl)) rfl) (mvT hZ (tw hw 142 rfl)) (mvT hZ (tw hw 143 rfl)) (by decide) q0 (backOf (W := 0) (sts l Z a0 hw [] x h0 n0 ai ) hZ (tw hw 144 rfl) (tw hw 7 rfl) (by decide) (by decide)) rfl (by rw [hml]; rfl) (lenOf pd_34 rfl) rfl (by exact Nat.le_of_eq rfl) (dc d23_11) rfl e0 (by decide) (by decide) ?_
 intro al ae aj ag aa
 obtain ⟨rfl, ac, af⟩ := ag
 have ab := Fr.app N0 ac
 obtain ⟨fs, hr, hrun, hended, hW, hsame⟩ := aa.leave (v := some (.ref x)) (fun h => by rw [Bd.returns] at h; cases h)
 refine ⟨_, _, retOut aa hx Bd.returns rfl (Or.inr (Or.inr (Or.inr (Or.inr ⟨rfl, rfl, rfl⟩)))) (dc d23_14) hr, hrun, hended, _, _, rfl, ?_, ⟨⟨_, rfl⟩, hW, hsame.mono (by decide) (by decide)⟩⟩
 show Qvos Z x h0 n0 _ ae.heap _
 rw [af]
 exact ⟨rfl, ab, rfl⟩
def Qvon (Z : State) (b : Addr) (a : Addr) (h0 : Heap) (n0 : Nat) (v : Option Value) (h : Heap) (vm : Vm) (L : List Loc) : Prop := ∃ (r : Addr), ∃ (t : Addr), ∃ (kb : ClassId), v = some (.ref r) ∧ Fr n0 L ∧ Keep h0 h [] ∧ (XSt Z h r) ∧ (FSv Z h r (.ref t)) ∧ (FSc Z h r (.int (0 : Int32))) ∧ (Arv Z h t kb .byte (4 : Int32) (lb nul4) (.int (0 : Int32))) ∧ ((¬ @Eq Nat a r ∧ Nq a t) ∧ (¬ @Eq Nat b r ∧ Nq b t)) ∧ (ChS Z b a vm h)
theorem ef_von (m : MethodId)  : entryFrame m #[.null] 1 = mkF m 0 #[.val .null] [] := by first | (simp [entryFrame, mkF, argsToLocals, Value.category]; done) | rfl
theorem d23_4 : K23 4 = .ok (.ldc_w 1005, 3) := by decide +kernel
theorem d23_7 : K23 7 = .ok (.goto 7, 3) := by decide +kernel
set_option maxRecDepth 65536 in
set_option maxHeartbeats 40000000 in
theorem von (l : Launch) (Z : State) (a0 : Array Value) (hw : ∀ d ∈ tables_1, d.before a0 Z = true) (ws : List Jvm.Cond) (b : Addr) (a : Addr) (h0 : Heap) (n0 : Nat) (Z0 : n0 ≤ h0.size) (q0 : OZ Z h0 n0) (hew : EW Z a0 ELs) :
  MetFree l y_53 (head1 (Jvm.Cond.code y_53 jdk_42_method_133_code 1 (some (.object "java/lang/String")) :: ws) r_m37) (fun a_ U_ => a_ = #[.null] ∧ Z.Warmed39 U_.vm ∧ U_.heap = h0 ∧ ChS Z b a U_.vm h0) (fun _ _ _ _ _ => True) (fun _ U_ o_ V_ => ∃ v_ L_, o_ = .returned v_ ∧ Qvon Z b a h0 n0 v_ V_.heap V_.vm L_ ∧ ReturnedEndW U_ o_ V_ L_ r_m37.cells r_m37.slots) := by
 refine MetFree.of_bodySF (plainFor_of_name pn_1) hisR ?_
 intro p e s m args below meth c s₁ Bd az hP hK
 obtain ⟨rfl, hZ, hh, hphi_cs⟩ := hP
 have hx := Bd.exec
 have dc := @hb _ _ Bd.bytes
 have hml : c.maxLocals = 1 := az
 have hown : s.vm.findClass "java/lang/String" = some m.cls := findClass_of_methodNamed Bd.named
 have hnm := (name_of_methodNamed Bd.named Bd.method).1
 have X0 : Stand p l e r_m37 (s.setVm s.vm) m #[.null] below meth c s₁ [] 0 0 := Stand.of_body Bd
 have e0 : s₁.heap = h0 := by rw [← hh, Bd.state]; rfl
 have N0 := Fr.nil n0
 have au : s.Since s.vm h0.size := (State.WarmedH.refl s).since _
 have ax : h0.size ≤ h0.size := Nat.le_refl _
 have Oo := q0.1
 have zo := q0.2
 have hstr : ∀ d ∈ Bundle.stringAtoms, d.before a0 Z = true := fun d hd => hw d (own_hstr d hd)
 refine Gl.go (A := s₁.setTop (entryFrame m #[.null] 1)) (P := fun o_ U_ => ∃ v_ L_, o_ = .returned v_ ∧ Qvon Z b a h0 n0 v_ U_.heap U_.vm L_ ∧ ReturnedEndW s o_ U_ L_ r_m37.cells r_m37.slots) (fun t_ k_ => castTop (ef_von m ) k_) ?_
 show Gl p.tables e below _ (s₁.setTop (mkF m 0 #[.val .null] []))
 refine Gl.go (fun _ hr => zaloadN X0.here hx (dc d23_0) rfl rfl (zifnonnullNo X0.here hx (dc d23_1) rfl hr)) ?_
 obtain ⟨aa, ac, ar, aF, af, aA, ab, ai, ag, av, ay, aw, aE, al, ak, am, aj, -, -, aq, aD, ah, aC⟩ := own_ldcWC X0 hx hZ hown (tw hw 280 rfl) hstr e0 au (by have q := ax; omega) hew (by simp [ELs]) hphi_cs.1.2.1 (vs := ((([(110 : Int32), (117 : Int32), (108 : Int32), (108 : Int32)] : List Int32).map (fun c => c.toInt8.toInt32)).map Value.int)) (z := (4 : Int32)) ⟨by decide +kernel, by decide +kernel⟩ (by decide) rfl (g := (mkF m 4 #[.val .null] [])) rfl (dc d23_4) (n := 16) (by decide +kernel) (by decide) (by decide) (by decide)
 have aK : h0.size ≤ ar.size := ag.1
 have aG := own_alt al.lt
 have aH := own_alt ak.lt
 have aI := own_alt am.lt
 have aJ := own_alt aj.lt
 have ae := ChS.on hphi_cs aw aq
 have ao := ah a ae.2.2.1
 have ap := ah b ae.2.1.1
 have aB : (¬ @Eq Nat a aa ∧ Nq a af) ∧ (¬ @Eq Nat b aa ∧ Nq b af) := ⟨⟨own_anq ao.1, own_anq ao.2⟩, ⟨own_anq ap.1, own_anq ap.2⟩⟩
 refine Gl.go aC ?_
 show Gl p.tables e below _ (ac.setTop (mkF m 7 #[.val .null] [(.ref aa)]))
 refine Gl.go (fun _ hr => zgoto ab.here hx (pc0 := 7) (pc' := 14) rfl (dc d23_7) (by decide) (by decide) hr) ?_
 obtain ⟨fs, hr, hrun, hended, hE⟩ := ab.leaveW av (by have q := congrArg Array.size ai; have q2 := ay; omega) (v := some (.ref aa)) (fun h => by rw [Bd.returns] at h; cases h)
 refine ⟨_, _, retOut ab hx Bd.returns rfl (Or.inr (Or.inr (Or.inr (Or.inr ⟨rfl, rfl, rfl⟩)))) (dc d23_14) hr, hrun, hended, _, _, rfl, ?_, ⟨hE.1, hE.2.1, hE.2.2.1, hE.2.2.2.mono (by decide) (by decide)⟩⟩
 show Qvon Z b a h0 n0 _ ac.heap ac.vm _
 rw [ai]
 exact ⟨aa, af, aA, rfl, N0, ((Keep.refl h0 []).ext ag), al, am, ak, aj, aB, (ae.warm ab.warmed)⟩
def QsboS (Z : State) (b : Addr) (a : Addr) (ka : ClassId) (cap : Nat) (cs : List Int32) (cb : Int32) (z : Int32) (xs : List Value) (x : Addr) (t : Addr) (kb : ClassId) (cd : Int32) (N : Int32) (vs : List Value) (ds : List Int32) (G1 : Int32) (G3 : Value) (h0 : Heap) (n0 : Nat) (v : Option Value) (h : Heap) (L : List Loc) : Prop := ∃ (a2 : Addr), ∃ (k2 : ClassId), ∃ (cb2 : Int32), ∃ (z2 : Int32), ∃ (xs2 : List Value), v = some (.ref b) ∧ Fr n0 L ∧ Keep h0 h [b, a] ∧ (XBu Z h b) ∧ (FBv Z h b (.ref a2)) ∧ (FBc Z h b (.int cb2)) ∧ (FBn Z h b (.int (Int32.ofNat (cs ++ ds).length))) ∧ (FBm Z h b (.int (0 : Int32))) ∧ (Exa Z h a2 "[B") ∧ (Arv Z h a2 k2 .byte z2 xs2 (.int (0 : Int32))) ∧ (BdA (cs ++ ds) cap cb2 z2 xs2) ∧ (@Eq Nat a2 a ∨ Lq h0.size a2)
theorem ef_sboS (m : MethodId) (x0 : Addr) (x1 : Addr) : entryFrame m #[(.ref x0), (.ref x1)] 2 = mkF m 0 #[sR x0, sR x1] [] := by first | (simp [entryFrame, mkF, argsToLocals, Value.category]; done) | rfl
abbrev K22 (i : Nat) := decode jdk_67_method_6_code i
theorem d22_0 : K22 0 = .ok (.aload_n 0, 1) := by decide +kernel
theorem d22_1 : K22 1 = .ok (.aload_n 1, 1) := by decide +kernel
theorem d22_2 : K22 2 = .ok (.invokestatic 17, 3) := by decide +kernel
theorem pd_35 : parseMethodDescriptor "(Ljava/lang/Object;)Ljava/lang/String;" = some ⟨[(.object "java/lang/Object")], some (.object "java/lang/String")⟩ := by decide +kernel
theorem d22_5 : K22 5 = .ok (.invokevirtual 23, 3) := by decide +kernel
theorem d22_8 : K22 8 = .ok (.areturn, 1) := by decide +kernel
set_option maxRecDepth 65536 in
set_option maxHeartbeats 40000000 in
theorem sboS (l : Launch) (Z : State) (a0 : Array Value) (hw : ∀ d ∈ tables_1, d.before a0 Z = true) (ws : List Jvm.Cond) (b : Addr) (a : Addr) (ka : ClassId) (cap : Nat) (cs : List Int32) (cb : Int32) (z : Int32) (xs : List Value) (x : Addr) (t : Addr) (kb : ClassId) (cd : Int32) (N : Int32) (vs : List Value) (ds : List Int32) (G1 : Int32) (G3 : Value) (h0 : Heap) (n0 : Nat) (Z0 : n0 ≤ h0.size) (q0 : SCs Z G1) (P5 : ¬ (G1 = (0 : Int32))) (q2 : OZ Z h0 n0) (q3 : SFm Z G3) (rG3 : G3.isRef = true) (q5 : SAd Z) (q6 : SHi Z) (q7 : SLo Z) (q8 : XBu Z h0 b) (q9 : FBv Z h0 b (.ref a)) (q10 : FBc Z h0 b (.int cb)) (q11 : FBn Z h0 b (.int (Int32.ofNat cs.length))) (q12 : FBm Z h0 b (.int (0 : Int32))) (q13 : Exa Z h0 a "[B") (q14 : Arv Z h0 a ka .byte z xs (.int (0 : Int32))) (bd : BdA cs cap cb z xs) (q16 : Lq n0 a) (q17 : Lq n0 b) (q18 : Nq a b) (hcap : cap ≤ 18) (q20 : XSt Z h0 x) (q21 : FSv Z h0 x (.ref t)) (q22 : FSc Z h0 x (.int cd)) (q23 : Arv Z h0 t kb .byte N vs (.int (0 : Int32))) (cod_x : StrChars.Road.CodA ds cd N vs) (hb_x : ∀ c ∈ ds, Wid c) (q26 : Nq a x) (q27 : Nq a t) (q28 : Nq b x) (q29 : Nq b t) (hfit : cs.length + ds.length ≤ cap) :
  MetFree l y_55 (head1 (Jvm.Cond.code y_55 jdk_67_method_6_code 2 (some (.object "java/lang/StringBuilder")) :: ws) r_m30) (fun a_ U_ => a_ = #[(.ref b), (.ref x)] ∧ Z.Warmed39 U_.vm ∧ U_.heap = h0) (fun _ _ _ _ _ => True) (fun _ U_ o_ V_ => ∃ v_ L_, o_ = .returned v_ ∧ QsboS Z b a ka cap cs cb z xs x t kb cd N vs ds G1 G3 h0 n0 v_ V_.heap L_ ∧ FrameEnd U_ o_ V_ L_ r_m30.cells r_m30.slots) := by
 refine MetFree.of_bodySF (plainFor_of_name pn_5) hisR ?_
 intro p e s m args below meth c s₁ Bd aB hP hK
 obtain ⟨rfl, hZ, hh⟩ := hP
 have hx := Bd.exec
 have dc := @hb _ _ Bd.bytes
 have hml : c.maxLocals = 2 := aB
 have hown : s.vm.findClass "java/lang/StringBuilder" = some m.cls := findClass_of_methodNamed Bd.named
 have hnm := (name_of_methodNamed Bd.named Bd.method).1
 have X0 : Stand p l e r_m30 s m #[(.ref b), (.ref x)] below meth c s₁ [] 0 0 := Stand.of_body Bd
 have e0 : s₁.heap = h0 := by rw [← hh, Bd.state]; rfl
 have N0 := Fr.nil n0
 have Oo := q2.1
 have zo := q2.2
 have aL := own_alt q8.lt
 have aM := own_alt q9.lt
 have aN := own_alt q10.lt
 have aO := own_alt q11.lt
 have aP := own_alt q12.lt
 have aQ := own_alt q13.lt
 have aR := own_alt q14.lt
 have aS := own_alt q20.lt
 have aT := own_alt q21.lt
 have aU := own_alt q22.lt
 have aV := own_alt q23.lt
 refine Gl.go (A := s₁.setTop (entryFrame m #[(.ref b), (.ref x)] 2)) (P := fun o_ U_ => ∃ v_ L_, o_ = .returned v_ ∧ QsboS Z b a ka cap cs cb z xs x t kb cd N vs ds G1 G3 h0 n0 v_ U_.heap L_ ∧ FrameEnd s o_ U_ L_ r_m30.cells r_m30.slots) (fun t_ k_ => castTop (ef_sboS m b x) k_) ?_
 show Gl p.tables e below _ (s₁.setTop (mkF m 0 #[sR b, sR x] []))
 refine Gl.go (fun _ hr => zaloadN X0.here hx (dc d22_0) rfl rfl (zaloadN X0.here hx (dc d22_1) rfl rfl hr)) ?_
 have aF : n0 ≤ h0.size := by omega
 refine gStaticN Gl.cl (y := y_53) (argsL := [(.ref x)]) (rest := [(.ref b)]) (mc := 0) (ms := 0) X0 hx hZ hown (mvT hZ (tw hw 136 rfl)) (mvT hZ (tw hw 137 rfl)) (mvT hZ (tw hw 7 rfl)) (mvT hZ (tw hw 138 rfl)) (by decide) (backOf (W := 1) (vos l Z a0 hw [] x h0 n0 aF q20) hZ (tw hw 138 rfl) (tw hw 7 rfl) (by decide) (by decide)) rfl (by rw [hml]; rfl) (lenOf pd_35 rfl) rfl (by exact Nat.le_of_eq rfl) (dc d22_2) rfl e0 (by decide) (by decide) ?_
 intro a7 aJ aH az ar
 obtain ⟨rfl, ap, aw⟩ := az
 have am := Fr.app N0 ap
 have aG : n0 ≤ h0.size := by omega
 refine gVirtualN Gl.cl (y := y_39) (z := y_39) (b := b) (argsL := [(.ref x)]) (rest := []) (mc := 1) (ms := 36) ar hx hZ hown (mvT hZ (tw hw 70 rfl)) (mvT hZ (tw hw 71 rfl)) (notFace_of_selects (args := #[]) (mvT hZ (tw hw 73 rfl))) (mvT hZ (tw hw 73 rfl)) (mvT hZ (tw hw 72 rfl)) (by decide) q8 (backOf (W := 0) (sbG l Z a0 hw [] b a ka cap cs cb z xs x t kb cd N vs ds G1 G3 h0 n0 aG q0 (by assumption) ⟨Oo, (by omega)⟩ q3 (by assumption) q5 q6 q7 q8 q9 q10 q11 q12 q13 q14 bd.1 (by omega) (by omega) (by omega) hcap q20 q21 q22 q23 cod_x hb_x (by omega) (by omega) (by omega) (by omega) (by (try simp only [ln_]); omega) (fun q => Or.inl (bd.2 q))) hZ (tw hw 74 rfl) (tw hw 36 rfl) (by decide) (by decide)) rfl (by rw [hml]; rfl) (lenOf pd_32 rfl) rfl (by exact Nat.le_of_eq rfl) (dc d22_5) rfl aw (by decide) (by decide) ?_
 intro a8 ac aI aA ae
 obtain ⟨aa, aC, av, aE, aD, rfl, aq, ab, af, ag, ah, ai, aj, ak, al, ax, ay⟩ := aA
 have a9 : h0.size ≤ ac.heap.size := ab.1
 have ao := Fr.app am aq
 have aW := own_alt af.lt
 have aX := own_alt ag.lt
 have aY := own_alt ah.lt
 have aZ := own_alt ai.lt
 have a3 := own_alt aj.lt
 have a5 := own_alt ak.lt
 have a6 := own_alt al.lt
 have aK := ay
 have au : @Eq Nat aa a ∨ Lq h0.size aa := by omega
 obtain ⟨fs, hr, hrun, hended, hW, hsame⟩ := ae.leave (v := some (.ref b)) (fun h => by rw [Bd.returns] at h; cases h)
 refine ⟨_, _, retOut ae hx Bd.returns rfl (Or.inr (Or.inr (Or.inr (Or.inr ⟨rfl, rfl, rfl⟩)))) (dc d22_8) hr, hrun, hended, _, _, rfl, ?_, ⟨⟨_, rfl⟩, hW, hsame.mono (by decide) (by decide)⟩⟩
 show QsboS Z b a ka cap cs cb z xs x t kb cd N vs ds G1 G3 h0 n0 _ ac.heap _
 exact ⟨aa, aC, av, aE, aD, rfl, ao, ((Keep.refl h0 [b, a]).trans ab (allS (P := fun x_ => x_ ∈ ([b, a] : List Addr) ∨ h0.size ≤ x_) (Or.inl (by simp)) (allS (P := fun x_ => x_ ∈ ([b, a] : List Addr) ∨ h0.size ≤ x_) (Or.inl (by simp)) all0))), af, ag, ah, ai, aj, ak, al, ax, au⟩
def QsboN (Z : State) (b : Addr) (a : Addr) (ka : ClassId) (cap : Nat) (cs : List Int32) (cb : Int32) (z : Int32) (xs : List Value) (G1 : Int32) (G3 : Value) (h0 : Heap) (n0 : Nat) (v : Option Value) (h : Heap) (vm : Vm) (L : List Loc) : Prop := ∃ (a2 : Addr), ∃ (k2 : ClassId), ∃ (cb2 : Int32), ∃ (z2 : Int32), ∃ (xs2 : List Value), v = some (.ref b) ∧ Fr n0 L ∧ Keep h0 h [b, a] ∧ (XBu Z h b) ∧ (FBv Z h b (.ref a2)) ∧ (FBc Z h b (.int cb2)) ∧ (FBn Z h b (.int (Int32.ofNat (cs ++ nul4).length))) ∧ (FBm Z h b (.int (0 : Int32))) ∧ (Exa Z h a2 "[B") ∧ (Arv Z h a2 k2 .byte z2 xs2 (.int (0 : Int32))) ∧ (BdA (cs ++ nul4) cap cb2 z2 xs2) ∧ (@Eq Nat a2 a ∨ Lq h0.size a2) ∧ (ChS Z b a2 vm h)
theorem ef_sboN (m : MethodId) (x0 : Addr) : entryFrame m #[(.ref x0), .null] 2 = mkF m 0 #[sR x0, .val .null] [] := by first | (simp [entryFrame, mkF, argsToLocals, Value.category]; done) | rfl
set_option maxRecDepth 65536 in
set_option maxHeartbeats 40000000 in
theorem sboN (l : Launch) (Z : State) (a0 : Array Value) (hw : ∀ d ∈ tables_1, d.before a0 Z = true) (ws : List Jvm.Cond) (b : Addr) (a : Addr) (ka : ClassId) (cap : Nat) (cs : List Int32) (cb : Int32) (z : Int32) (xs : List Value) (G1 : Int32) (G3 : Value) (h0 : Heap) (n0 : Nat) (Z0 : n0 ≤ h0.size) (q0 : SCs Z G1) (P5 : ¬ (G1 = (0 : Int32))) (q2 : OZ Z h0 n0) (q3 : SFm Z G3) (rG3 : G3.isRef = true) (q5 : SAd Z) (q6 : SHi Z) (q7 : SLo Z) (hew : EW Z a0 ELs) (q9 : XBu Z h0 b) (q10 : FBv Z h0 b (.ref a)) (q11 : FBc Z h0 b (.int cb)) (q12 : FBn Z h0 b (.int (Int32.ofNat cs.length))) (q13 : FBm Z h0 b (.int (0 : Int32))) (q14 : Exa Z h0 a "[B") (q15 : Arv Z h0 a ka .byte z xs (.int (0 : Int32))) (bd : BdA cs cap cb z xs) (q17 : Lq n0 a) (q18 : Lq n0 b) (q19 : Nq a b) (hcap : cap ≤ 18) (hfit : cs.length + 4 ≤ cap) :
  MetFree l y_55 (head1 (Jvm.Cond.code y_55 jdk_67_method_6_code 2 (some (.object "java/lang/StringBuilder")) :: ws) r_m38) (fun a_ U_ => a_ = #[(.ref b), .null] ∧ Z.Warmed39 U_.vm ∧ U_.heap = h0 ∧ ChS Z b a U_.vm h0) (fun _ _ _ _ _ => True) (fun _ U_ o_ V_ => ∃ v_ L_, o_ = .returned v_ ∧ QsboN Z b a ka cap cs cb z xs G1 G3 h0 n0 v_ V_.heap V_.vm L_ ∧ ReturnedEndW U_ o_ V_ L_ r_m38.cells r_m38.slots) := by
 refine MetFree.of_bodySF (plainFor_of_name pn_5) hisR ?_
 intro p e s m args below meth c s₁ Bd aW hP hK
 obtain ⟨rfl, hZ, hh, hphi_cs⟩ := hP
 have hx := Bd.exec
 have dc := @hb _ _ Bd.bytes
 have hml : c.maxLocals = 2 := aW
 have hown : s.vm.findClass "java/lang/StringBuilder" = some m.cls := findClass_of_methodNamed Bd.named
 have hnm := (name_of_methodNamed Bd.named Bd.method).1
 have X0 : Stand p l e r_m38 (s.setVm s.vm) m #[(.ref b), .null] below meth c s₁ [] 0 0 := Stand.of_body Bd
 have e0 : s₁.heap = h0 := by rw [← hh, Bd.state]; rfl
 have N0 := Fr.nil n0
 have aS : s.Since s.vm h0.size := (State.WarmedH.refl s).since _
 have aU : h0.size ≤ h0.size := Nat.le_refl _
 have Oo := q2.1
 have zo := q2.2
 have bg := own_alt q9.lt
 have bh := own_alt q10.lt
 have bj := own_alt q11.lt
 have bl := own_alt q12.lt
 have bm := own_alt q13.lt
 have bn := own_alt q14.lt
 have bo := own_alt q15.lt
 have hstr : ∀ d ∈ Bundle.stringAtoms, d.before a0 Z = true := fun d hd => hw d (own_hstr d hd)
 refine Gl.go (A := s₁.setTop (entryFrame m #[(.ref b), .null] 2)) (P := fun o_ U_ => ∃ v_ L_, o_ = .returned v_ ∧ QsboN Z b a ka cap cs cb z xs G1 G3 h0 n0 v_ U_.heap U_.vm L_ ∧ ReturnedEndW s o_ U_ L_ r_m38.cells r_m38.slots) (fun t_ k_ => castTop (ef_sboN m b) k_) ?_
 show Gl p.tables e below _ (s₁.setTop (mkF m 0 #[sR b, .val .null] []))
 refine Gl.go (fun _ hr => zaloadN X0.here hx (dc d22_0) rfl rfl (zaloadN X0.here hx (dc d22_1) rfl rfl hr)) ?_
 have ba : n0 ≤ h0.size := by omega
 refine gStaticJ Gl.cl (y := y_53) (argsL := [.null]) (rest := [(.ref b)]) (mc := 2) (ms := 20) (Φ := fun vm => ChS Z b a vm h0) X0 hx hZ aS (by have q := aU; omega) hown (mvT hZ (tw hw 136 rfl)) (mvT hZ (tw hw 137 rfl)) (mvT hZ (tw hw 7 rfl)) (mvT hZ (tw hw 138 rfl)) (by decide) (backOfJ (Φ := fun vm => ChS Z b a vm h0) (W := 1) (von l Z a0 hw [] b a h0 n0 ba ⟨Oo, (by omega)⟩ (by assumption)) hZ (tw hw 138 rfl) (tw hw 7 rfl) (by decide) (by decide)) rfl (by rw [hml]; rfl) (lenOf pd_35 rfl) rfl (by exact Nat.le_of_eq rfl) (dc d22_2) rfl e0 (fun vm₁ hvm => hphi_cs.warm hvm) (by decide) (by decide) ?_
 intro bD ab bc aQ aJ aT ac aX aV
 obtain ⟨ax, a7, aZ, rfl, aF, aa, ak, al, am, ao, a3, a5⟩ := aQ
 have bF : h0.size ≤ ab.heap.size := aa.1
 have aD := Fr.app N0 aF
 have bp := own_alt ak.lt
 have bq := own_alt al.lt
 have br := own_alt am.lt
 have bs := own_alt ao.lt
 have bf := a3
 have aN : StrChars.Road.CodA nul4 0 (4 : Int32) (lb nul4) := Or.inl ⟨rfl, rfl, rfl, by decide⟩
 have aH := (Oo.keep aa all0)
 have aj := (q9.keep aa)
 have az := (q10.keep aa nin0)
 have aA := (q11.keep aa nin0)
 have aB := (q12.keep aa nin0)
 have aC := (q13.keep aa nin0)
 have ay := (q14.keep aa)
 have aI := (q15.keep aa nin0)
 have bb : n0 ≤ ab.heap.size := by omega
 refine gVirtualN Gl.cl (y := y_39) (z := y_39) (b := b) (argsL := [(.ref ax)]) (rest := []) (mc := 1) (ms := 36) aJ hx ac aX (mvT ac (tw hw 70 rfl)) (mvT ac (tw hw 71 rfl)) (notFace_of_selects (args := #[]) (mvT ac (tw hw 73 rfl))) (mvT ac (tw hw 73 rfl)) (mvT ac (tw hw 72 rfl)) (by decide) aj (backOf (W := 0) (sbG l Z a0 hw [] b a ka cap cs cb z xs ax a7 aZ (0 : Int32) (4 : Int32) (lb nul4) nul4 G1 G3 ab.heap n0 bb q0 (by assumption) ⟨aH, (by omega)⟩ q3 (by assumption) q5 q6 q7 aj az aA aB aC ay aI bd.1 (by omega) (by omega) (by omega) hcap ak al am ao aN (by decide) (by omega) (by omega) (by omega) (by omega) (by (try simp only [ln_]); omega) (fun q => Or.inl (bd.2 q))) ac (tw hw 74 rfl) (tw hw 36 rfl) (by decide) (by decide)) rfl (by rw [hml]; rfl) (lenOf pd_32 rfl) rfl (by exact Nat.le_of_eq rfl) (dc d22_5) rfl (rfl : ab.heap = ab.heap) (by decide) (by decide) ?_
 intro bE ae be aR ah
 obtain ⟨af, aY, aM, a9, a8, rfl, aG, ag, ap, aq, ar, au, av, ai, aw, aO, aP⟩ := aR
 have bG : ab.heap.size ≤ ae.heap.size := ag.1
 have aE := Fr.app aD aG
 have bt := own_alt ap.lt
 have bu := own_alt aq.lt
 have bv := own_alt ar.lt
 have bz := own_alt au.lt
 have bA := own_alt av.lt
 have bB := own_alt ai.lt
 have bC := own_alt aw.lt
 have aK := aP
 have aL : @Eq Nat af a ∨ Lq h0.size af := by omega
 obtain ⟨fs, hr, hrun, hended, hE⟩ := ah.leaveW aT (by have q := congrArg Array.size (rfl : ae.heap = ae.heap); have q2 := aV; omega) (v := some (.ref b)) (fun h => by rw [Bd.returns] at h; cases h)
 refine ⟨_, _, retOut ah hx Bd.returns rfl (Or.inr (Or.inr (Or.inr (Or.inr ⟨rfl, rfl, rfl⟩)))) (dc d22_8) hr, hrun, hended, _, _, rfl, ?_, ⟨hE.1, hE.2.1, hE.2.2.1, hE.2.2.2.mono (by decide) (by decide)⟩⟩
 show QsboN Z b a ka cap cs cb z xs G1 G3 h0 n0 _ ae.heap ae.vm _
 have a6 : ChS Z b af ab.vm ae.heap := ChS.upd a5 ((Keep.refl ab.heap [b, a]).trans ag (allS (P := fun x_ => x_ ∈ ([b, a] : List Addr) ∨ ab.heap.size ≤ x_) (Or.inl (by simp)) (allS (P := fun x_ => x_ ∈ ([b, a] : List Addr) ∨ ab.heap.size ≤ x_) (Or.inl (by simp)) all0))) aK ai.lt
 exact ⟨af, aY, aM, a9, a8, rfl, aE, (((Keep.refl h0 [b, a]).trans aa all0).trans ag (allS (P := fun x_ => x_ ∈ ([b, a] : List Addr) ∨ h0.size ≤ x_) (Or.inl (by simp)) (allS (P := fun x_ => x_ ∈ ([b, a] : List Addr) ∨ h0.size ≤ x_) (Or.inl (by simp)) all0))), ap, aq, ar, au, av, ai, aw, aO, aL, (a6.warm ah.warmed)⟩
def Qfls (Z : State) (rl : Addr) (b : Addr) (a : Addr) (ka : ClassId) (cap : Nat) (cs : List Int32) (cb : Int32) (z : Int32) (xs : List Value) (x : Addr) (t : Addr) (kb : ClassId) (cd : Int32) (N : Int32) (vs : List Value) (ns : List Int32) (y : Addr) (u : Addr) (kd : ClassId) (ce : Int32) (M : Int32) (ws_ : List Value) (ts : List Int32) (G1 : Int32) (G3 : Value) (h0 : Heap) (n0 : Nat) (v : Option Value) (h : Heap) (L : List Loc) : Prop := ∃ (a2 : Addr), ∃ (k2 : ClassId), ∃ (cb2 : Int32), ∃ (z2 : Int32), ∃ (xs2 : List Value), v = some (.ref rl) ∧ Fr n0 L ∧ Keep h0 h [b, a] ∧ (XBu Z h b) ∧ (FBv Z h b (.ref a2)) ∧ (FBc Z h b (.int cb2)) ∧ (FBn Z h b (.int (Int32.ofNat ((((cs ++ [(32 : Int32)]) ++ ns) ++ [(61 : Int32)]) ++ ts).length))) ∧ (FBm Z h b (.int (0 : Int32))) ∧ (Exa Z h a2 "[B") ∧ (Arv Z h a2 k2 .byte z2 xs2 (.int (0 : Int32))) ∧ (BdA ((((cs ++ [(32 : Int32)]) ++ ns) ++ [(61 : Int32)]) ++ ts) cap cb2 z2 xs2) ∧ (@Eq Nat a2 a ∨ Lq h0.size a2) ∧ (Nq a2 b)
theorem ef_fls (m : MethodId) (x0 : Addr) (x1 : Addr) (x2 : Addr) : entryFrame m #[(.ref x0), (.ref x1), (.ref x2)] 3 = mkF m 0 #[sR x0, sR x1, sR x2] [] := by first | (simp [entryFrame, mkF, argsToLocals, Value.category]; done) | rfl
abbrev K17 (i : Nat) := decode prog_5_method_2_code i
theorem d17_0 : K17 0 = .ok (.aload_n 0, 1) := by decide +kernel
theorem d17_1 : K17 1 = .ok (.getfield 12, 3) := by decide +kernel
theorem d17_4 : K17 4 = .ok (.bipush 32, 2) := by decide +kernel
theorem d17_6 : K17 6 = .ok (.invokevirtual 18, 3) := by decide +kernel
theorem pd_36 : parseMethodDescriptor "(C)Ljava/lang/StringBuilder;" = some ⟨[.char], some (.object "java/lang/StringBuilder")⟩ := by decide +kernel
theorem d17_9 : K17 9 = .ok (.aload_n 1, 1) := by decide +kernel
theorem d17_10 : K17 10 = .ok (.invokevirtual 22, 3) := by decide +kernel
theorem d17_13 : K17 13 = .ok (.bipush 61, 2) := by decide +kernel
theorem d17_15 : K17 15 = .ok (.invokevirtual 18, 3) := by decide +kernel
theorem d17_18 : K17 18 = .ok (.aload_n 2, 1) := by decide +kernel
theorem d17_19 : K17 19 = .ok (.invokevirtual 25, 3) := by decide +kernel
theorem pd_37 : parseMethodDescriptor "(Ljava/lang/Object;)Ljava/lang/StringBuilder;" = some ⟨[(.object "java/lang/Object")], some (.object "java/lang/StringBuilder")⟩ := by decide +kernel
theorem d17_22 : K17 22 = .ok (.pop, 1) := by decide +kernel
theorem d17_23 : K17 23 = .ok (.aload_n 0, 1) := by decide +kernel
theorem d17_24 : K17 24 = .ok (.areturn, 1) := by decide +kernel
set_option maxRecDepth 65536 in
set_option maxHeartbeats 40000000 in
theorem fls (l : Launch) (Z : State) (a0 : Array Value) (hw : ∀ d ∈ tables_1, d.before a0 Z = true) (ws : List Jvm.Cond) (rl : Addr) (b : Addr) (a : Addr) (ka : ClassId) (cap : Nat) (cs : List Int32) (cb : Int32) (z : Int32) (xs : List Value) (x : Addr) (t : Addr) (kb : ClassId) (cd : Int32) (N : Int32) (vs : List Value) (ns : List Int32) (y : Addr) (u : Addr) (kd : ClassId) (ce : Int32) (M : Int32) (ws_ : List Value) (ts : List Int32) (G1 : Int32) (G3 : Value) (h0 : Heap) (n0 : Nat) (Z0 : n0 ≤ h0.size) (q0 : SCs Z G1) (P5 : ¬ (G1 = (0 : Int32))) (q2 : OZ Z h0 n0) (q3 : SFm Z G3) (rG3 : G3.isRef = true) (q5 : SAd Z) (q6 : SHi Z) (q7 : SLo Z) (q8 : Exa Z h0 rl "org/latchkey/cli/ResultLine") (q9 : Fld Z h0 rl "org/latchkey/cli/ResultLine" "text" "Ljava/lang/StringBuilder;" (.ref b)) (q10 : XBu Z h0 b) (q11 : FBv Z h0 b (.ref a)) (q12 : FBc Z h0 b (.int cb)) (q13 : FBn Z h0 b (.int (Int32.ofNat cs.length))) (q14 : FBm Z h0 b (.int (0 : Int32))) (q15 : Exa Z h0 a "[B") (q16 : Arv Z h0 a ka .byte z xs (.int (0 : Int32))) (bd : BdA cs cap cb z xs) (q18 : Lq n0 a) (q19 : Lq n0 b) (q20 : Nq a b) (hcap : cap ≤ 18) (q22 : XSt Z h0 x) (q23 : FSv Z h0 x (.ref t)) (q24 : FSc Z h0 x (.int cd)) (q25 : Arv Z h0 t kb .byte N vs (.int (0 : Int32))) (cod_x : StrChars.Road.CodA ns cd N vs) (hb_x : ∀ c ∈ ns, Wid c) (q28 : Nq a x) (q29 : Nq a t) (q30 : Nq b x) (q31 : Nq b t) (q32 : XSt Z h0 y) (q33 : FSv Z h0 y (.ref u)) (q34 : FSc Z h0 y (.int ce)) (q35 : Arv Z h0 u kd .byte M ws_ (.int (0 : Int32))) (cod_y : StrChars.Road.CodA ts ce M ws_) (hb_y : ∀ c ∈ ts, Wid c) (q38 : Nq a y) (q39 : Nq a u) (q40 : Nq b y) (q41 : Nq b u) (hfit : cs.length + ns.length + ts.length + 2 ≤ cap) (hns : ns.length ≤ 2) :
  MetFree l y_56 (head1 (Jvm.Cond.code y_56 prog_5_method_2_code 3 (some (.object "org/latchkey/cli/ResultLine")) :: ws) r_m31) (fun a_ U_ => a_ = #[(.ref rl), (.ref x), (.ref y)] ∧ Z.Warmed39 U_.vm ∧ U_.heap = h0) (fun _ _ _ _ _ => True) (fun _ U_ o_ V_ => ∃ v_ L_, o_ = .returned v_ ∧ Qfls Z rl b a ka cap cs cb z xs x t kb cd N vs ns y u kd ce M ws_ ts G1 G3 h0 n0 v_ V_.heap L_ ∧ FrameEnd U_ o_ V_ L_ r_m31.cells r_m31.slots) := by
 refine MetFree.of_bodySF (plainFor_of_name pn_8) hisR ?_
 intro p e s m args below meth c s₁ Bd bP hP hK
 obtain ⟨rfl, hZ, hh⟩ := hP
 have hx := Bd.exec
 have dc := @hb _ _ Bd.bytes
 have hml : c.maxLocals = 3 := bP
 have hown : s.vm.findClass "org/latchkey/cli/ResultLine" = some m.cls := findClass_of_methodNamed Bd.named
 have hnm := (name_of_methodNamed Bd.named Bd.method).1
 have X0 : Stand p l e r_m31 s m #[(.ref rl), (.ref x), (.ref y)] below meth c s₁ [] 0 0 := Stand.of_body Bd
 have e0 : s₁.heap = h0 := by rw [← hh, Bd.state]; rfl
 have N0 := Fr.nil n0
 have Oo := q2.1
 have zo := q2.2
 have cY := own_alt q8.lt
 have cZ := own_alt q9.lt
 have c3 := own_alt q10.lt
 have c5 := own_alt q11.lt
 have c6 := own_alt q12.lt
 have c7 := own_alt q13.lt
 have c8 := own_alt q14.lt
 have c9 := own_alt q15.lt
 have da := own_alt q16.lt
 have db := own_alt q22.lt
 have de := own_alt q23.lt
 have df := own_alt q24.lt
 have dg := own_alt q25.lt
 have dh := own_alt q32.lt
 have di := own_alt q33.lt
 have dj := own_alt q34.lt
 have dk := own_alt q35.lt
 refine Gl.go (A := s₁.setTop (entryFrame m #[(.ref rl), (.ref x), (.ref y)] 3)) (P := fun o_ U_ => ∃ v_ L_, o_ = .returned v_ ∧ Qfls Z rl b a ka cap cs cb z xs x t kb cd N vs ns y u kd ce M ws_ ts G1 G3 h0 n0 v_ U_.heap L_ ∧ FrameEnd s o_ U_ L_ r_m31.cells r_m31.slots) (fun t_ k_ => castTop (ef_fls m rl x y) k_) ?_
 show Gl p.tables e below _ (s₁.setTop (mkF m 0 #[sR rl, sR x, sR y] []))
 refine Gl.go (fun _ hr => zaloadN X0.here hx (dc d17_0) rfl rfl hr) ?_
 refine gGetF (host := "") Gl.cl X0 hx hZ hown (Or.inl (tw hw 105 rfl)) Via.refl e0 q9 rfl rfl (dc d17_1) ?_
 intro cj aA bF
 refine Gl.go (fun _ hr => zbipush aA.here hx (dc d17_4) hr) ?_
 have b8 : n0 ≤ h0.size := by omega
 refine gVirtualN Gl.cl (y := y_43) (z := y_43) (b := b) (argsL := [(.int (32 : Int32))]) (rest := []) (mc := 0) (ms := 0) aA hx hZ hown (mvT hZ (tw hw 112 rfl)) (mvT hZ (tw hw 113 rfl)) (notFace_of_selects (args := #[]) (mvT hZ (tw hw 115 rfl))) (mvT hZ (tw hw 115 rfl)) (mvT hZ (tw hw 114 rfl)) (by decide) q10 (backOf (W := 0) (scG l Z a0 hw [] b a ka cap cs cb z xs (32 : Int32) G1 G3 h0 n0 b8 q0 (by assumption) ⟨Oo, (by omega)⟩ q3 (by assumption) q5 q6 q7 q10 q11 q12 q13 q14 q15 q16 bd (by omega) (by omega) (by omega) hcap (by decide) (by (try simp only [ln_]); omega)) hZ (tw hw 116 rfl) (tw hw 36 rfl) (by decide) (by decide)) rfl (by rw [hml]; rfl) (lenOf pd_36 rfl) rfl (by exact Nat.le_of_eq rfl) (dc d17_6) rfl bF (by decide) (by decide) ?_
 intro dq ah ci bO aB
 obtain ⟨bE, b4, bY, rfl, bt, aa, ap, aW, aX, aY, aZ, a3, a5, a6⟩ := bO
 have dr : h0.size ≤ ah.heap.size := aa.1
 have bp := Fr.app N0 bt
 have co := own_alt ap.lt
 have cp := own_alt aW.lt
 have ct := own_alt aX.lt
 have cu := own_alt aY.lt
 have cw := own_alt aZ.lt
 have cx := own_alt a3.lt
 have cy := own_alt a5.lt
 refine Gl.go (fun _ hr => zaloadN aB.here hx (dc d17_9) rfl rfl hr) ?_
 have aq : Lq Z.heap.size b := by omega
 have a8 : Lq Z.heap.size a := by omega
 have av := (Oo.keep aa (allS (own_ale aq) (allS (own_ale a8) all0)))
 have be := (q22.keep aa)
 have a9 : Nq x b := by omega
 have ba : Nq x a := by omega
 have bg := (q23.keep aa (ninS (own_ane a9) (ninS (own_ane ba) nin0)))
 have bh := (q24.keep aa (ninS (own_ane a9) (ninS (own_ane ba) nin0)))
 have bR : Nq t b := by omega
 have bS : Nq t a := by omega
 have bv := (q25.keep aa (ninS (own_ane bR) (ninS (own_ane bS) nin0)))
 have b5 : n0 ≤ ah.heap.size := by omega
 refine gVirtualN Gl.cl (y := y_39) (z := y_39) (b := b) (argsL := [(.ref x)]) (rest := []) (mc := 1) (ms := 36) aB hx hZ hown (mvT hZ (tw hw 130 rfl)) (mvT hZ (tw hw 71 rfl)) (notFace_of_selects (args := #[]) (mvT hZ (tw hw 73 rfl))) (mvT hZ (tw hw 73 rfl)) (mvT hZ (tw hw 72 rfl)) (by decide) ap (backOf (W := 0) (sbG l Z a0 hw [] b a ka cap (cs ++ [(32 : Int32)]) bE b4 bY x t kb cd N vs ns G1 G3 ah.heap n0 b5 q0 (by assumption) ⟨av, (by omega)⟩ q3 (by assumption) q5 q6 q7 ap aW aX aY aZ a3 a5 a6.1 (by omega) (by omega) (by omega) hcap be bg bh bv cod_x hb_x (by omega) (by omega) (by omega) (by omega) (by (try simp only [ln_]); omega) (fun q => Or.inl (a6.2 q))) hZ (tw hw 74 rfl) (tw hw 36 rfl) (by decide) (by decide)) rfl (by rw [hml]; rfl) (lenOf pd_32 rfl) rfl (by exact Nat.le_of_eq rfl) (dc d17_10) rfl (rfl : ah.heap = ah.heap) (by decide) (by decide) ?_
 intro dl af b9 bL ay
 obtain ⟨ae, a7, bB, bZ, bV, rfl, bq, ab, am, aD, aE, aF, aG, aH, aI, bG, bH⟩ := bL
 have dt : ah.heap.size ≤ af.heap.size := ab.1
 have bm := Fr.app bp bq
 have cz := own_alt am.lt
 have cC := own_alt aD.lt
 have cD := own_alt aE.lt
 have cE := own_alt aF.lt
 have cF := own_alt aG.lt
 have cG := own_alt aH.lt
 have cH := own_alt aI.lt
 have cm := bH
 have aC : @Eq Nat ae a ∨ Lq h0.size ae := by omega
 refine Gl.go (fun _ hr => zbipush ay.here hx (dc d17_13) hr) ?_
 have aw := (av.keep ab (allS (own_ale aq) (allS (own_ale a8) all0)))
 have b6 : n0 ≤ af.heap.size := by omega
 refine gVirtualN Gl.cl (y := y_43) (z := y_43) (b := b) (argsL := [(.int (61 : Int32))]) (rest := []) (mc := 0) (ms := 0) ay hx hZ hown (mvT hZ (tw hw 112 rfl)) (mvT hZ (tw hw 113 rfl)) (notFace_of_selects (args := #[]) (mvT hZ (tw hw 115 rfl))) (mvT hZ (tw hw 115 rfl)) (mvT hZ (tw hw 114 rfl)) (by decide) am (backOf (W := 0) (scG l Z a0 hw [] b ae a7 cap ((cs ++ [(32 : Int32)]) ++ ns) bB bZ bV (61 : Int32) G1 G3 af.heap n0 b6 q0 (by assumption) ⟨aw, (by omega)⟩ q3 (by assumption) q5 q6 q7 am aD aE aF aG aH aI bG (by omega) (by omega) (by omega) hcap (by decide) (by (try simp only [ln_]); omega)) hZ (tw hw 116 rfl) (tw hw 36 rfl) (by decide) (by decide)) rfl (by rw [hml]; rfl) (lenOf pd_36 rfl) rfl (by exact Nat.le_of_eq rfl) (dc d17_15) rfl (rfl : af.heap = af.heap) (by decide) (by decide) ?_
 intro dm ag ca bM az
 obtain ⟨bC, b0, bW, rfl, br, ac, ao, aJ, aK, aL, aM, aN, aO, bI⟩ := bM
 have du : af.heap.size ≤ ag.heap.size := ac.1
 have bn := Fr.app bm br
 have cI := own_alt ao.lt
 have cJ := own_alt aJ.lt
 have cK := own_alt aK.lt
 have cL := own_alt aL.lt
 have cN := own_alt aM.lt
 have cO := own_alt aN.lt
 have cP := own_alt aO.lt
 refine Gl.go (fun _ hr => zaloadN az.here hx (dc d17_18) rfl rfl hr) ?_
 have bT : Lq Z.heap.size ae := by omega
 have bu := (aw.keep ac (allS (own_ale aq) (allS (own_ale bT) all0)))
 have bf := (((q32.keep aa).keep ab).keep ac)
 have ai : Nq y b := by omega
 have ak : Nq y a := by omega
 have bb : Nq y ae := by omega
 have bj := (((q33.keep aa (ninS (own_ane ai) (ninS (own_ane ak) nin0))).keep ab (ninS (own_ane ai) (ninS (own_ane ak) nin0))).keep ac (ninS (own_ane ai) (ninS (own_ane bb) nin0)))
 have bl := (((q34.keep aa (ninS (own_ane ai) (ninS (own_ane ak) nin0))).keep ab (ninS (own_ane ai) (ninS (own_ane ak) nin0))).keep ac (ninS (own_ane ai) (ninS (own_ane bb) nin0)))
 have ar : Nq u b := by omega
 have bc : Nq u a := by omega
 have bU : Nq u ae := by omega
 have bz := (((q35.keep aa (ninS (own_ane ar) (ninS (own_ane bc) nin0))).keep ab (ninS (own_ane ar) (ninS (own_ane bc) nin0))).keep ac (ninS (own_ane ar) (ninS (own_ane bU) nin0)))
 have b7 : n0 ≤ ag.heap.size := by omega
 refine gVirtualN Gl.cl (y := y_55) (z := y_55) (b := b) (argsL := [(.ref y)]) (rest := []) (mc := 1) (ms := 36) az hx hZ hown (mvT hZ (tw hw 131 rfl)) (mvT hZ (tw hw 132 rfl)) (notFace_of_selects (args := #[]) (mvT hZ (tw hw 134 rfl))) (mvT hZ (tw hw 134 rfl)) (mvT hZ (tw hw 133 rfl)) (by decide) ao (backOf (W := 0) (sboS l Z a0 hw [] b ae a7 cap (((cs ++ [(32 : Int32)]) ++ ns) ++ [(61 : Int32)]) bC b0 bW y u kd ce M ws_ ts G1 G3 ag.heap n0 b7 q0 (by assumption) ⟨bu, (by omega)⟩ q3 (by assumption) q5 q6 q7 ao aJ aK aL aM aN aO bI (by omega) (by omega) (by omega) hcap bf bj bl bz cod_y hb_y (by omega) (by omega) (by omega) (by omega) (by (try simp only [ln_]); omega)) hZ (tw hw 135 rfl) (tw hw 36 rfl) (by decide) (by decide)) rfl (by rw [hml]; rfl) (lenOf pd_37 rfl) rfl (by exact Nat.le_of_eq rfl) (dc d17_19) rfl (rfl : ag.heap = ag.heap) (by decide) (by decide) ?_
 intro dn ax cg bN aj
 obtain ⟨al, bQ, bD, b3, bX, rfl, bs, au, aP, aQ, aR, aS, aT, aU, aV, bJ, bK⟩ := bN
 have dw : ag.heap.size ≤ ax.heap.size := au.1
 have bo := Fr.app bn bs
 have cQ := own_alt aP.lt
 have cR := own_alt aQ.lt
 have cT := own_alt aR.lt
 have cU := own_alt aS.lt
 have cV := own_alt aT.lt
 have cW := own_alt aU.lt
 have cX := own_alt aV.lt
 have cn := bK
 have bA : @Eq Nat al a ∨ Lq h0.size al := by omega
 refine Gl.go (fun _ hr => zpop aj.here hx (dc d17_22) rfl rfl (zaloadN aj.here hx (dc d17_23) rfl rfl hr)) ?_
 obtain ⟨fs, hr, hrun, hended, hW, hsame⟩ := aj.leave (v := some (.ref rl)) (fun h => by rw [Bd.returns] at h; cases h)
 refine ⟨_, _, retOut aj hx Bd.returns rfl (Or.inr (Or.inr (Or.inr (Or.inr ⟨rfl, rfl, rfl⟩)))) (dc d17_24) hr, hrun, hended, _, _, rfl, ?_, ⟨⟨_, rfl⟩, hW, hsame.mono (by decide) (by decide)⟩⟩
 show Qfls Z rl b a ka cap cs cb z xs x t kb cd N vs ns y u kd ce M ws_ ts G1 G3 h0 n0 _ ax.heap _
 exact ⟨al, bQ, bD, b3, bX, rfl, bo, (((((Keep.refl h0 [b, a]).trans aa (allS (P := fun x_ => x_ ∈ ([b, a] : List Addr) ∨ h0.size ≤ x_) (Or.inl (by simp)) (allS (P := fun x_ => x_ ∈ ([b, a] : List Addr) ∨ h0.size ≤ x_) (Or.inl (by simp)) all0))).trans ab (allS (P := fun x_ => x_ ∈ ([b, a] : List Addr) ∨ h0.size ≤ x_) (Or.inl (by simp)) (allS (P := fun x_ => x_ ∈ ([b, a] : List Addr) ∨ h0.size ≤ x_) (Or.inl (by simp)) all0))).trans ac (allS (P := fun x_ => x_ ∈ ([b, a] : List Addr) ∨ h0.size ≤ x_) (Or.inl (by simp)) (allS (P := fun x_ => x_ ∈ ([b, a] : List Addr) ∨ h0.size ≤ x_) (own_ad aC) all0))).trans au (allS (P := fun x_ => x_ ∈ ([b, a] : List Addr) ∨ h0.size ≤ x_) (Or.inl (by simp)) (allS (P := fun x_ => x_ ∈ ([b, a] : List Addr) ∨ h0.size ≤ x_) (own_ad aC) all0))), aP, aQ, aR, aS, aT, aU, aV, bJ, bA, (by omega)⟩
def Qfln (Z : State) (rl : Addr) (b : Addr) (a : Addr) (ka : ClassId) (cap : Nat) (cs : List Int32) (cb : Int32) (z : Int32) (xs : List Value) (x : Addr) (t : Addr) (kb : ClassId) (cd : Int32) (N : Int32) (vs : List Value) (ns : List Int32) (G1 : Int32) (G3 : Value) (h0 : Heap) (n0 : Nat) (v : Option Value) (h : Heap) (vm : Vm) (L : List Loc) : Prop := ∃ (a2 : Addr), ∃ (k2 : ClassId), ∃ (cb2 : Int32), ∃ (z2 : Int32), ∃ (xs2 : List Value), v = some (.ref rl) ∧ Fr n0 L ∧ Keep h0 h [b, a] ∧ (XBu Z h b) ∧ (FBv Z h b (.ref a2)) ∧ (FBc Z h b (.int cb2)) ∧ (FBn Z h b (.int (Int32.ofNat ((((cs ++ [(32 : Int32)]) ++ ns) ++ [(61 : Int32)]) ++ nul4).length))) ∧ (FBm Z h b (.int (0 : Int32))) ∧ (Exa Z h a2 "[B") ∧ (Arv Z h a2 k2 .byte z2 xs2 (.int (0 : Int32))) ∧ (BdA ((((cs ++ [(32 : Int32)]) ++ ns) ++ [(61 : Int32)]) ++ nul4) cap cb2 z2 xs2) ∧ (@Eq Nat a2 a ∨ Lq h0.size a2) ∧ (Nq a2 b) ∧ (ChS Z b a2 vm h)
theorem ef_fln (m : MethodId) (x0 : Addr) (x1 : Addr) : entryFrame m #[(.ref x0), (.ref x1), .null] 3 = mkF m 0 #[sR x0, sR x1, .val .null] [] := by first | (simp [entryFrame, mkF, argsToLocals, Value.category]; done) | rfl
set_option maxRecDepth 65536 in
set_option maxHeartbeats 40000000 in
theorem fln (l : Launch) (Z : State) (a0 : Array Value) (hw : ∀ d ∈ tables_1, d.before a0 Z = true) (ws : List Jvm.Cond) (rl : Addr) (b : Addr) (a : Addr) (ka : ClassId) (cap : Nat) (cs : List Int32) (cb : Int32) (z : Int32) (xs : List Value) (x : Addr) (t : Addr) (kb : ClassId) (cd : Int32) (N : Int32) (vs : List Value) (ns : List Int32) (G1 : Int32) (G3 : Value) (h0 : Heap) (n0 : Nat) (Z0 : n0 ≤ h0.size) (q0 : SCs Z G1) (P5 : ¬ (G1 = (0 : Int32))) (q2 : OZ Z h0 n0) (q3 : SFm Z G3) (rG3 : G3.isRef = true) (q5 : SAd Z) (q6 : SHi Z) (q7 : SLo Z) (hew : EW Z a0 ELs) (q9 : Exa Z h0 rl "org/latchkey/cli/ResultLine") (q10 : Fld Z h0 rl "org/latchkey/cli/ResultLine" "text" "Ljava/lang/StringBuilder;" (.ref b)) (q11 : XBu Z h0 b) (q12 : FBv Z h0 b (.ref a)) (q13 : FBc Z h0 b (.int cb)) (q14 : FBn Z h0 b (.int (Int32.ofNat cs.length))) (q15 : FBm Z h0 b (.int (0 : Int32))) (q16 : Exa Z h0 a "[B") (q17 : Arv Z h0 a ka .byte z xs (.int (0 : Int32))) (bd : BdA cs cap cb z xs) (q19 : Lq n0 a) (q20 : Lq n0 b) (q21 : Nq a b) (hcap : cap ≤ 18) (q23 : XSt Z h0 x) (q24 : FSv Z h0 x (.ref t)) (q25 : FSc Z h0 x (.int cd)) (q26 : Arv Z h0 t kb .byte N vs (.int (0 : Int32))) (cod_x : StrChars.Road.CodA ns cd N vs) (hb_x : ∀ c ∈ ns, Wid c) (q29 : Nq a x) (q30 : Nq a t) (q31 : Nq b x) (q32 : Nq b t) (hfit : cs.length + ns.length + 6 ≤ cap) (hns : ns.length ≤ 2) :
  MetFree l y_56 (head1 (Jvm.Cond.code y_56 prog_5_method_2_code 3 (some (.object "org/latchkey/cli/ResultLine")) :: ws) r_m39) (fun a_ U_ => a_ = #[(.ref rl), (.ref x), .null] ∧ Z.Warmed39 U_.vm ∧ U_.heap = h0 ∧ ChS Z b a U_.vm h0) (fun _ _ _ _ _ => True) (fun _ U_ o_ V_ => ∃ v_ L_, o_ = .returned v_ ∧ Qfln Z rl b a ka cap cs cb z xs x t kb cd N vs ns G1 G3 h0 n0 v_ V_.heap V_.vm L_ ∧ ReturnedEndW U_ o_ V_ L_ r_m39.cells r_m39.slots) := by
 refine MetFree.of_bodySF (plainFor_of_name pn_8) hisR ?_
 intro p e s m args below meth c s₁ Bd bK hP hK
 obtain ⟨rfl, hZ, hh, hphi_cs⟩ := hP
 have hx := Bd.exec
 have dc := @hb _ _ Bd.bytes
 have hml : c.maxLocals = 3 := bK
 have hown : s.vm.findClass "org/latchkey/cli/ResultLine" = some m.cls := findClass_of_methodNamed Bd.named
 have hnm := (name_of_methodNamed Bd.named Bd.method).1
 have X0 : Stand p l e r_m39 (s.setVm s.vm) m #[(.ref rl), (.ref x), .null] below meth c s₁ [] 0 0 := Stand.of_body Bd
 have e0 : s₁.heap = h0 := by rw [← hh, Bd.state]; rfl
 have N0 := Fr.nil n0
 have bG : s.Since s.vm h0.size := (State.WarmedH.refl s).since _
 have bI : h0.size ≤ h0.size := Nat.le_refl _
 have Oo := q2.1
 have zo := q2.2
 have cm := own_alt q9.lt
 have cn := own_alt q10.lt
 have co := own_alt q11.lt
 have cp := own_alt q12.lt
 have ct := own_alt q13.lt
 have cu := own_alt q14.lt
 have cw := own_alt q15.lt
 have cx := own_alt q16.lt
 have cy := own_alt q17.lt
 have cz := own_alt q23.lt
 have cC := own_alt q24.lt
 have cD := own_alt q25.lt
 have cE := own_alt q26.lt
 have hstr : ∀ d ∈ Bundle.stringAtoms, d.before a0 Z = true := fun d hd => hw d (own_hstr d hd)
 refine Gl.go (A := s₁.setTop (entryFrame m #[(.ref rl), (.ref x), .null] 3)) (P := fun o_ U_ => ∃ v_ L_, o_ = .returned v_ ∧ Qfln Z rl b a ka cap cs cb z xs x t kb cd N vs ns G1 G3 h0 n0 v_ U_.heap U_.vm L_ ∧ ReturnedEndW s o_ U_ L_ r_m39.cells r_m39.slots) (fun t_ k_ => castTop (ef_fln m rl x) k_) ?_
 show Gl p.tables e below _ (s₁.setTop (mkF m 0 #[sR rl, sR x, .val .null] []))
 refine Gl.go (fun _ hr => zaloadN X0.here hx (dc d17_0) rfl rfl hr) ?_
 refine gGetF (host := "") Gl.cl X0 hx hZ hown (Or.inl (tw hw 105 rfl)) Via.refl e0 q10 rfl rfl (dc d17_1) ?_
 intro b9 ax bt
 refine Gl.go (fun _ hr => zbipush ax.here hx (dc d17_4) hr) ?_
 have bZ : n0 ≤ h0.size := by omega
 refine gVirtualN Gl.cl (y := y_43) (z := y_43) (b := b) (argsL := [(.int (32 : Int32))]) (rest := []) (mc := 0) (ms := 0) ax hx hZ hown (mvT hZ (tw hw 112 rfl)) (mvT hZ (tw hw 113 rfl)) (notFace_of_selects (args := #[]) (mvT hZ (tw hw 115 rfl))) (mvT hZ (tw hw 115 rfl)) (mvT hZ (tw hw 114 rfl)) (by decide) q11 (backOf (W := 0) (scG l Z a0 hw [] b a ka cap cs cb z xs (32 : Int32) G1 G3 h0 n0 bZ q0 (by assumption) ⟨Oo, (by omega)⟩ q3 (by assumption) q5 q6 q7 q11 q12 q13 q14 q15 q16 q17 bd (by omega) (by omega) (by omega) hcap (by decide) (by (try simp only [ln_]); omega)) hZ (tw hw 116 rfl) (tw hw 36 rfl) (by decide) (by decide)) rfl (by rw [hml]; rfl) (lenOf pd_36 rfl) rfl (by exact Nat.le_of_eq rfl) (dc d17_6) rfl bt (by decide) (by decide) ?_
 intro df ae b5 bC ay
 obtain ⟨bp, bV, bR, rfl, bg, ab, am, aB, aC, aD, aE, aF, aG, aH⟩ := bC
 have dj : h0.size ≤ ae.heap.size := ab.1
 have bb := Fr.app N0 bg
 have cF := own_alt am.lt
 have cG := own_alt aB.lt
 have cH := own_alt aC.lt
 have cI := own_alt aD.lt
 have cJ := own_alt aE.lt
 have cK := own_alt aF.lt
 have cL := own_alt aG.lt
 refine Gl.go (fun _ hr => zaloadN ay.here hx (dc d17_9) rfl rfl hr) ?_
 have ar : Lq Z.heap.size b := by omega
 have a5 : Lq Z.heap.size a := by omega
 have av := (Oo.keep ab (allS (own_ale ar) (allS (own_ale a5) all0)))
 have a8 := (q23.keep ab)
 have a6 : Nq x b := by omega
 have a7 : Nq x a := by omega
 have a9 := (q24.keep ab (ninS (own_ane a6) (ninS (own_ane a7) nin0)))
 have ba := (q25.keep ab (ninS (own_ane a6) (ninS (own_ane a7) nin0)))
 have bM : Nq t b := by omega
 have bN : Nq t a := by omega
 have bn := (q26.keep ab (ninS (own_ane bM) (ninS (own_ane bN) nin0)))
 have b0 : n0 ≤ ae.heap.size := by omega
 refine gVirtualN Gl.cl (y := y_39) (z := y_39) (b := b) (argsL := [(.ref x)]) (rest := []) (mc := 1) (ms := 36) ay hx hZ hown (mvT hZ (tw hw 130 rfl)) (mvT hZ (tw hw 71 rfl)) (notFace_of_selects (args := #[]) (mvT hZ (tw hw 73 rfl))) (mvT hZ (tw hw 73 rfl)) (mvT hZ (tw hw 72 rfl)) (by decide) am (backOf (W := 0) (sbG l Z a0 hw [] b a ka cap (cs ++ [(32 : Int32)]) bp bV bR x t kb cd N vs ns G1 G3 ae.heap n0 b0 q0 (by assumption) ⟨av, (by omega)⟩ q3 (by assumption) q5 q6 q7 am aB aC aD aE aF aG aH.1 (by omega) (by omega) (by omega) hcap a8 a9 ba bn cod_x hb_x (by omega) (by omega) (by omega) (by omega) (by (try simp only [ln_]); omega) (fun q => Or.inl (aH.2 q))) hZ (tw hw 74 rfl) (tw hw 36 rfl) (by decide) (by decide)) rfl (by rw [hml]; rfl) (lenOf pd_32 rfl) rfl (by exact Nat.le_of_eq rfl) (dc d17_10) rfl (rfl : ae.heap = ae.heap) (by decide) (by decide) ?_
 intro dg af b6 bD az
 obtain ⟨ac, a3, bq, bW, bS, rfl, bh, ai, ao, aI, aJ, aK, aL, aM, aN, bu, bv⟩ := bD
 have dk : ae.heap.size ≤ af.heap.size := ai.1
 have bc := Fr.app bb bh
 have cN := own_alt ao.lt
 have cO := own_alt aI.lt
 have cP := own_alt aJ.lt
 have cQ := own_alt aK.lt
 have cR := own_alt aL.lt
 have cT := own_alt aM.lt
 have cU := own_alt aN.lt
 have ca := bv
 have ak : @Eq Nat ac a ∨ Lq h0.size ac := by omega
 refine Gl.go (fun _ hr => zbipush az.here hx (dc d17_13) hr) ?_
 have aw := (av.keep ai (allS (own_ale ar) (allS (own_ale a5) all0)))
 have b3 : n0 ≤ af.heap.size := by omega
 refine gVirtualN Gl.cl (y := y_43) (z := y_43) (b := b) (argsL := [(.int (61 : Int32))]) (rest := []) (mc := 0) (ms := 0) az hx hZ hown (mvT hZ (tw hw 112 rfl)) (mvT hZ (tw hw 113 rfl)) (notFace_of_selects (args := #[]) (mvT hZ (tw hw 115 rfl))) (mvT hZ (tw hw 115 rfl)) (mvT hZ (tw hw 114 rfl)) (by decide) ao (backOf (W := 0) (scG l Z a0 hw [] b ac a3 cap ((cs ++ [(32 : Int32)]) ++ ns) bq bW bS (61 : Int32) G1 G3 af.heap n0 b3 q0 (by assumption) ⟨aw, (by omega)⟩ q3 (by assumption) q5 q6 q7 ao aI aJ aK aL aM aN bu (by omega) (by omega) (by omega) hcap (by decide) (by (try simp only [ln_]); omega)) hZ (tw hw 116 rfl) (tw hw 36 rfl) (by decide) (by decide)) rfl (by rw [hml]; rfl) (lenOf pd_36 rfl) rfl (by exact Nat.le_of_eq rfl) (dc d17_15) rfl (rfl : af.heap = af.heap) (by decide) (by decide) ?_
 intro dh aa b7 bE aA
 obtain ⟨br, bX, bT, rfl, bj, aj, ap, aO, aP, aQ, aR, aq, aS, bz⟩ := bE
 have dl : af.heap.size ≤ aa.heap.size := aj.1
 have be := Fr.app bc bj
 have cV := own_alt ap.lt
 have cW := own_alt aO.lt
 have cX := own_alt aP.lt
 have cY := own_alt aQ.lt
 have cZ := own_alt aR.lt
 have c3 := own_alt aq.lt
 have c5 := own_alt aS.lt
 refine Gl.go (fun _ hr => zaloadN aA.here hx (dc d17_18) rfl rfl hr) ?_
 have bO : Lq Z.heap.size ac := by omega
 have bm := (aw.keep aj (allS (own_ale ar) (allS (own_ale bO) all0)))
 have b4 : n0 ≤ aa.heap.size := by omega
 have bQ : ChS Z b ac s.vm aa.heap := ChS.upd hphi_cs ((((Keep.refl h0 [b, a]).trans ab (allS (P := fun x_ => x_ ∈ ([b, a] : List Addr) ∨ h0.size ≤ x_) (Or.inl (by simp)) (allS (P := fun x_ => x_ ∈ ([b, a] : List Addr) ∨ h0.size ≤ x_) (Or.inl (by simp)) all0))).trans ai (allS (P := fun x_ => x_ ∈ ([b, a] : List Addr) ∨ h0.size ≤ x_) (Or.inl (by simp)) (allS (P := fun x_ => x_ ∈ ([b, a] : List Addr) ∨ h0.size ≤ x_) (Or.inl (by simp)) all0))).trans aj (allS (P := fun x_ => x_ ∈ ([b, a] : List Addr) ∨ h0.size ≤ x_) (Or.inl (by simp)) (allS (P := fun x_ => x_ ∈ ([b, a] : List Addr) ∨ h0.size ≤ x_) (own_ad ak) all0))) ak aq.lt
 refine gVirtualJ Gl.cl (y := y_55) (z := y_55) (b := b) (argsL := [.null]) (rest := []) (mc := 3) (ms := 56) (Φ := fun vm => ChS Z b ac vm aa.heap) aA hx hZ bG (by have q := bI; omega) hown (mvT hZ (tw hw 131 rfl)) (mvT hZ (tw hw 132 rfl)) (notFace_of_selects (args := #[]) (mvT hZ (tw hw 134 rfl))) (mvT hZ (tw hw 134 rfl)) (mvT hZ (tw hw 133 rfl)) (by decide) ap (backOfJ (Φ := fun vm => ChS Z b ac vm aa.heap) (W := 0) (sboN l Z a0 hw [] b ac a3 cap (((cs ++ [(32 : Int32)]) ++ ns) ++ [(61 : Int32)]) br bX bT G1 G3 aa.heap n0 b4 q0 (by assumption) ⟨bm, (by omega)⟩ q3 (by assumption) q5 q6 q7 (by assumption) ap aO aP aQ aR aq aS bz (by omega) (by omega) (by omega) hcap (by (try simp only [ln_]); omega)) hZ (tw hw 135 rfl) (tw hw 36 rfl) (by decide) (by decide)) rfl (by rw [hml]; rfl) (lenOf pd_37 rfl) rfl (by exact Nat.le_of_eq rfl) (dc d17_19) rfl (rfl : aa.heap = aa.heap) (fun vm₁ hvm => bQ.warm hvm) (by decide) (by decide) ?_
 intro di ag b8 bF ah bH ci cj bJ
 obtain ⟨al, bL, bs, bY, bU, rfl, bl, au, aT, aU, aV, aW, aX, aY, aZ, bA, bB, bP⟩ := bF
 have dm : aa.heap.size ≤ ag.heap.size := au.1
 have bf := Fr.app be bl
 have c6 := own_alt aT.lt
 have c7 := own_alt aU.lt
 have c8 := own_alt aV.lt
 have c9 := own_alt aW.lt
 have da := own_alt aX.lt
 have db := own_alt aY.lt
 have de := own_alt aZ.lt
 have cg := bB
 have bo : @Eq Nat al a ∨ Lq h0.size al := by omega
 refine Gl.go (fun _ hr => zpop ah.here hx (dc d17_22) rfl rfl (zaloadN ah.here hx (dc d17_23) rfl rfl hr)) ?_
 obtain ⟨fs, hr, hrun, hended, hE⟩ := ah.leaveW bH (by have q := congrArg Array.size (rfl : ag.heap = ag.heap); have q2 := bJ; omega) (v := some (.ref rl)) (fun h => by rw [Bd.returns] at h; cases h)
 refine ⟨_, _, retOut ah hx Bd.returns rfl (Or.inr (Or.inr (Or.inr (Or.inr ⟨rfl, rfl, rfl⟩)))) (dc d17_24) hr, hrun, hended, _, _, rfl, ?_, ⟨hE.1, hE.2.1, hE.2.2.1, hE.2.2.2.mono (by decide) (by decide)⟩⟩
 show Qfln Z rl b a ka cap cs cb z xs x t kb cd N vs ns G1 G3 h0 n0 _ ag.heap ag.vm _
 exact ⟨al, bL, bs, bY, bU, rfl, bf, (((((Keep.refl h0 [b, a]).trans ab (allS (P := fun x_ => x_ ∈ ([b, a] : List Addr) ∨ h0.size ≤ x_) (Or.inl (by simp)) (allS (P := fun x_ => x_ ∈ ([b, a] : List Addr) ∨ h0.size ≤ x_) (Or.inl (by simp)) all0))).trans ai (allS (P := fun x_ => x_ ∈ ([b, a] : List Addr) ∨ h0.size ≤ x_) (Or.inl (by simp)) (allS (P := fun x_ => x_ ∈ ([b, a] : List Addr) ∨ h0.size ≤ x_) (Or.inl (by simp)) all0))).trans aj (allS (P := fun x_ => x_ ∈ ([b, a] : List Addr) ∨ h0.size ≤ x_) (Or.inl (by simp)) (allS (P := fun x_ => x_ ∈ ([b, a] : List Addr) ∨ h0.size ≤ x_) (own_ad ak) all0))).trans au (allS (P := fun x_ => x_ ∈ ([b, a] : List Addr) ∨ h0.size ≤ x_) (Or.inl (by simp)) (allS (P := fun x_ => x_ ∈ ([b, a] : List Addr) ∨ h0.size ≤ x_) (own_ad ak) all0))), aT, aU, aV, aW, aX, aY, aZ, bA, bo, (by omega), (bP.warm ah.warmed)⟩
def Qrts (Z : State) (rl : Addr) (b : Addr) (a : Addr) (ka : ClassId) (cap : Nat) (cs : List Int32) (cb : Int32) (z : Int32) (xs : List Value) (G1 : Int32) (h0 : Heap) (n0 : Nat) (v : Option Value) (h : Heap) (L : List Loc) : Prop := ∃ (r : Addr), ∃ (t : Addr), ∃ (kr : ClassId), ∃ (cdr : Int32), ∃ (N2 : Int32), ∃ (vsr : List Value), v = some (.ref r) ∧ Fr n0 L ∧ Keep h0 h [] ∧ (XSt Z h r) ∧ (FSv Z h r (.ref t)) ∧ (FSc Z h r (.int cdr)) ∧ (Arv Z h t kr .byte N2 vsr (.int (0 : Int32))) ∧ (@LE.le Nat instLENat h0.size r ∧ Lq h0.size t) ∧ (StrChars.Road.CodA cs cdr N2 vsr)
theorem ef_rts (m : MethodId) (x0 : Addr) : entryFrame m #[(.ref x0)] 1 = mkF m 0 #[sR x0] [] := by first | (simp [entryFrame, mkF, argsToLocals, Value.category]; done) | rfl
abbrev K25 (i : Nat) := decode prog_5_method_7_code i
theorem d25_0 : K25 0 = .ok (.aload_n 0, 1) := by decide +kernel
theorem d25_1 : K25 1 = .ok (.getfield 12, 3) := by decide +kernel
theorem d25_4 : K25 4 = .ok (.invokevirtual 66, 3) := by decide +kernel
theorem d25_7 : K25 7 = .ok (.areturn, 1) := by decide +kernel
set_option maxRecDepth 65536 in
set_option maxHeartbeats 40000000 in
theorem rts (l : Launch) (Z : State) (a0 : Array Value) (hw : ∀ d ∈ tables_1, d.before a0 Z = true) (ws : List Jvm.Cond) (rl : Addr) (b : Addr) (a : Addr) (ka : ClassId) (cap : Nat) (cs : List Int32) (cb : Int32) (z : Int32) (xs : List Value) (G1 : Int32) (h0 : Heap) (n0 : Nat) (Z0 : n0 ≤ h0.size) (q0 : SCs Z G1) (P5 : ¬ (G1 = (0 : Int32))) (q2 : OZ Z h0 n0) (q3 : Exa Z h0 rl "org/latchkey/cli/ResultLine") (q4 : Fld Z h0 rl "org/latchkey/cli/ResultLine" "text" "Ljava/lang/StringBuilder;" (.ref b)) (q5 : XBu Z h0 b) (q6 : FBv Z h0 b (.ref a)) (q7 : FBc Z h0 b (.int cb)) (q8 : FBn Z h0 b (.int (Int32.ofNat cs.length))) (q9 : FBm Z h0 b (.int (0 : Int32))) (q10 : Exa Z h0 a "[B") (q11 : Arv Z h0 a ka .byte z xs (.int (0 : Int32))) (bd : BdA cs cap cb z xs) (hcap : cap ≤ 18) (hcl : cs.length ≤ cap) :
  MetFree l y_57 (head1 (Jvm.Cond.code y_57 prog_5_method_7_code 1 (some (.object "java/lang/String")) :: ws) r_m40) (fun a_ U_ => a_ = #[(.ref rl)] ∧ Z.Warmed39 U_.vm ∧ U_.heap = h0) (fun _ _ _ _ _ => True) (fun _ U_ o_ V_ => ∃ v_ L_, o_ = .returned v_ ∧ Qrts Z rl b a ka cap cs cb z xs G1 h0 n0 v_ V_.heap L_ ∧ FrameEnd U_ o_ V_ L_ r_m40.cells r_m40.slots) := by
 refine MetFree.of_bodySF (plainFor_of_name pn_8) hisR ?_
 intro p e s m args below meth c s₁ Bd ar hP hK
 obtain ⟨rfl, hZ, hh⟩ := hP
 have hx := Bd.exec
 have dc := @hb _ _ Bd.bytes
 have hml : c.maxLocals = 1 := ar
 have hown : s.vm.findClass "org/latchkey/cli/ResultLine" = some m.cls := findClass_of_methodNamed Bd.named
 have hnm := (name_of_methodNamed Bd.named Bd.method).1
 have X0 : Stand p l e r_m40 s m #[(.ref rl)] below meth c s₁ [] 0 0 := Stand.of_body Bd
 have e0 : s₁.heap = h0 := by rw [← hh, Bd.state]; rfl
 have N0 := Fr.nil n0
 have Oo := q2.1
 have zo := q2.2
 have aB := own_alt q3.lt
 have aC := own_alt q4.lt
 have aD := own_alt q5.lt
 have aE := own_alt q6.lt
 have aF := own_alt q7.lt
 have aG := own_alt q8.lt
 have aH := own_alt q9.lt
 have aI := own_alt q10.lt
 have aJ := own_alt q11.lt
 refine Gl.go (A := s₁.setTop (entryFrame m #[(.ref rl)] 1)) (P := fun o_ U_ => ∃ v_ L_, o_ = .returned v_ ∧ Qrts Z rl b a ka cap cs cb z xs G1 h0 n0 v_ U_.heap L_ ∧ FrameEnd s o_ U_ L_ r_m40.cells r_m40.slots) (fun t_ k_ => castTop (ef_rts m rl) k_) ?_
 show Gl p.tables e below _ (s₁.setTop (mkF m 0 #[sR rl] []))
 refine Gl.go (fun _ hr => zaloadN X0.here hx (dc d25_0) rfl rfl hr) ?_
 refine gGetF (host := "") Gl.cl X0 hx hZ hown (Or.inl (tw hw 105 rfl)) Via.refl e0 q4 rfl rfl (dc d25_1) ?_
 intro az am ap
 have ax : n0 ≤ h0.size := by omega
 refine gVirtualN Gl.cl (y := y_46) (z := y_46) (b := b) (argsL := []) (rest := []) (mc := 2) (ms := 40) am hx hZ hown (mvT hZ (tw hw 150 rfl)) (mvT hZ (tw hw 151 rfl)) (notFace_of_selects (args := #[]) (mvT hZ (tw hw 153 rfl))) (mvT hZ (tw hw 153 rfl)) (mvT hZ (tw hw 152 rfl)) (by decide) q5 (backOf (W := 0) (tsG l Z a0 hw [] b a ka cap cs cb z xs G1 h0 n0 ax q0 (by assumption) ⟨Oo, (by omega)⟩ q5 q6 q7 q8 q9 q10 q11 (by assumption) (by assumption) (by assumption)) hZ (tw hw 154 rfl) (tw hw 36 rfl) (by decide) (by decide)) rfl (by rw [hml]; rfl) (lenOf pd_34 rfl) rfl (by exact Nat.le_of_eq rfl) (dc d25_4) rfl ap (by decide) (by decide) ?_
 intro aP ab ay aq ac
 obtain ⟨ai, av, au, ao, ak, aw, rfl, al, aa, ae, af, ag, ah, aA, aO⟩ := aq
 have aQ : h0.size ≤ ab.heap.size := aa.1
 have aj := Fr.app N0 al
 have aK := own_alt ae.lt
 have aL := own_alt af.lt
 have aM := own_alt ag.lt
 have aN := own_alt ah.lt
 obtain ⟨fs, hr, hrun, hended, hW, hsame⟩ := ac.leave (v := some (.ref ai)) (fun h => by rw [Bd.returns] at h; cases h)
 refine ⟨_, _, retOut ac hx Bd.returns rfl (Or.inr (Or.inr (Or.inr (Or.inr ⟨rfl, rfl, rfl⟩)))) (dc d25_7) hr, hrun, hended, _, _, rfl, ?_, ⟨⟨_, rfl⟩, hW, hsame.mono (by decide) (by decide)⟩⟩
 show Qrts Z rl b a ka cap cs cb z xs G1 h0 n0 _ ab.heap _
 exact ⟨ai, av, au, ao, ak, aw, rfl, aj, ((Keep.refl h0 []).trans aa all0), ae, af, ag, ah, ⟨by omega, by omega⟩, (by assumption)⟩
def Qatc (Z : State) (x : Addr) (t : Addr) (kb : ClassId) (cd : Int32) (N : Int32) (vs : List Value) (rs : List Int32) (y : Addr) (u : Addr) (kd : ClassId) (ce : Int32) (M : Int32) (ws_ : List Value) (ts : List Int32) (pre : List Int32) (po : List Int32) (G1 : Int32) (G3 : Value) (h0 : Heap) (n0 : Nat) (v : Option Value) (h : Heap) (L : List Loc) : Prop := v = some (.int (1 : Int32)) ∧ Fr n0 L ∧ h = h0
theorem ef_atc (m : MethodId) (x0 : Addr) (x1 : Int32) (x2 : Addr) : entryFrame m #[(.ref x0), (.int x1), (.ref x2)] 5 = mkF m 0 #[sR x0, sI x1, sR x2, sU, sU] [] := by first | (simp [entryFrame, mkF, argsToLocals, Value.category]; done) | rfl
abbrev K36 (i : Nat) := decode method_3_code i
theorem d36_0 : K36 0 = .ok (.aload_n 2, 1) := by decide +kernel
theorem d36_1 : K36 1 = .ok (.invokevirtual 13, 3) := by decide +kernel
theorem d36_4 : K36 4 = .ok (.istore_n 3, 1) := by decide +kernel
theorem d36_5 : K36 5 = .ok (.iload_n 1, 1) := by decide +kernel
theorem d36_6 : K36 6 = .ok (.ifCond .lt 13, 3) := by decide +kernel
theorem d36_9 : K36 9 = .ok (.iload_n 1, 1) := by decide +kernel
theorem d36_10 : K36 10 = .ok (.iload_n 3, 1) := by decide +kernel
theorem d36_11 : K36 11 = .ok (.iadd, 1) := by decide +kernel
theorem d36_12 : K36 12 = .ok (.aload_n 0, 1) := by decide +kernel
theorem d36_13 : K36 13 = .ok (.invokevirtual 13, 3) := by decide +kernel
theorem d36_16 : K36 16 = .ok (.if_icmp .le 5, 3) := by decide +kernel
theorem d36_21 : K36 21 = .ok (.iconst 1, 1) := by decide +kernel
theorem d36_22 : K36 22 = .ok (.istore 4, 2) := by decide +kernel
theorem d36_24 : K36 24 = .ok (.iload_n 3, 1) := by decide +kernel
theorem d36_25 : K36 25 = .ok (.ifCond .le 28, 3) := by decide +kernel
theorem d36_28 : K36 28 = .ok (.iload 4, 2) := by decide +kernel
theorem d36_30 : K36 30 = .ok (.ifCond .eq 20, 3) := by decide +kernel
theorem d36_33 : K36 33 = .ok (.aload_n 0, 1) := by decide +kernel
theorem d36_34 : K36 34 = .ok (.iload_n 1, 1) := by decide +kernel
theorem d36_35 : K36 35 = .ok (.invokevirtual 17, 3) := by decide +kernel
theorem pd_38 : parseMethodDescriptor "(I)C" = some ⟨[.int], some .char⟩ := by decide +kernel
theorem d36_38 : K36 38 = .ok (.aload_n 2, 1) := by decide +kernel
theorem d36_39 : K36 39 = .ok (.iconst 0, 1) := by decide +kernel
theorem d36_40 : K36 40 = .ok (.invokevirtual 17, 3) := by decide +kernel
theorem d36_43 : K36 43 = .ok (.if_icmp .ne 7, 3) := by decide +kernel
theorem d36_46 : K36 46 = .ok (.iconst 1, 1) := by decide +kernel
theorem d36_47 : K36 47 = .ok (.goto 4, 3) := by decide +kernel
theorem d36_51 : K36 51 = .ok (.istore 4, 2) := by decide +kernel
theorem d36_53 : K36 53 = .ok (.iload_n 3, 1) := by decide +kernel
theorem d36_54 : K36 54 = .ok (.iconst 1, 1) := by decide +kernel
theorem d36_55 : K36 55 = .ok (.if_icmp .le 30, 3) := by decide +kernel
theorem d36_58 : K36 58 = .ok (.iload 4, 2) := by decide +kernel
theorem d36_60 : K36 60 = .ok (.ifCond .eq 22, 3) := by decide +kernel
theorem d36_63 : K36 63 = .ok (.aload_n 0, 1) := by decide +kernel
theorem d36_64 : K36 64 = .ok (.iload_n 1, 1) := by decide +kernel
theorem d36_65 : K36 65 = .ok (.iconst 1, 1) := by decide +kernel
theorem d36_66 : K36 66 = .ok (.iadd, 1) := by decide +kernel
theorem d36_67 : K36 67 = .ok (.invokevirtual 17, 3) := by decide +kernel
theorem d36_70 : K36 70 = .ok (.aload_n 2, 1) := by decide +kernel
theorem d36_71 : K36 71 = .ok (.iconst 1, 1) := by decide +kernel
theorem d36_72 : K36 72 = .ok (.invokevirtual 17, 3) := by decide +kernel
theorem d36_75 : K36 75 = .ok (.if_icmp .ne 7, 3) := by decide +kernel
theorem d36_78 : K36 78 = .ok (.iconst 1, 1) := by decide +kernel
theorem d36_79 : K36 79 = .ok (.goto 4, 3) := by decide +kernel
theorem d36_83 : K36 83 = .ok (.istore 4, 2) := by decide +kernel
theorem d36_85 : K36 85 = .ok (.iload_n 3, 1) := by decide +kernel
theorem d36_86 : K36 86 = .ok (.iconst 2, 1) := by decide +kernel
theorem d36_87 : K36 87 = .ok (.if_icmp .le 30, 3) := by decide +kernel
theorem d36_90 : K36 90 = .ok (.iload 4, 2) := by decide +kernel
theorem d36_92 : K36 92 = .ok (.ifCond .eq 22, 3) := by decide +kernel
theorem d36_95 : K36 95 = .ok (.aload_n 0, 1) := by decide +kernel
theorem d36_96 : K36 96 = .ok (.iload_n 1, 1) := by decide +kernel
theorem d36_97 : K36 97 = .ok (.iconst 2, 1) := by decide +kernel
theorem d36_98 : K36 98 = .ok (.iadd, 1) := by decide +kernel
theorem d36_99 : K36 99 = .ok (.invokevirtual 17, 3) := by decide +kernel
theorem d36_102 : K36 102 = .ok (.aload_n 2, 1) := by decide +kernel
theorem d36_103 : K36 103 = .ok (.iconst 2, 1) := by decide +kernel
theorem d36_104 : K36 104 = .ok (.invokevirtual 17, 3) := by decide +kernel
theorem d36_107 : K36 107 = .ok (.if_icmp .ne 7, 3) := by decide +kernel
theorem d36_110 : K36 110 = .ok (.iconst 1, 1) := by decide +kernel
theorem d36_111 : K36 111 = .ok (.goto 4, 3) := by decide +kernel
theorem d36_115 : K36 115 = .ok (.istore 4, 2) := by decide +kernel
theorem d36_117 : K36 117 = .ok (.iload_n 3, 1) := by decide +kernel
theorem d36_118 : K36 118 = .ok (.iconst 3, 1) := by decide +kernel
theorem d36_119 : K36 119 = .ok (.if_icmp .le 30, 3) := by decide +kernel
theorem d36_122 : K36 122 = .ok (.iload 4, 2) := by decide +kernel
theorem d36_124 : K36 124 = .ok (.ifCond .eq 22, 3) := by decide +kernel
theorem d36_127 : K36 127 = .ok (.aload_n 0, 1) := by decide +kernel
theorem d36_128 : K36 128 = .ok (.iload_n 1, 1) := by decide +kernel
theorem d36_129 : K36 129 = .ok (.iconst 3, 1) := by decide +kernel
theorem d36_130 : K36 130 = .ok (.iadd, 1) := by decide +kernel
theorem d36_131 : K36 131 = .ok (.invokevirtual 17, 3) := by decide +kernel
theorem d36_134 : K36 134 = .ok (.aload_n 2, 1) := by decide +kernel
theorem d36_135 : K36 135 = .ok (.iconst 3, 1) := by decide +kernel
theorem d36_136 : K36 136 = .ok (.invokevirtual 17, 3) := by decide +kernel
theorem d36_139 : K36 139 = .ok (.if_icmp .ne 7, 3) := by decide +kernel
theorem d36_142 : K36 142 = .ok (.iconst 1, 1) := by decide +kernel
theorem d36_143 : K36 143 = .ok (.goto 4, 3) := by decide +kernel
theorem d36_147 : K36 147 = .ok (.istore 4, 2) := by decide +kernel
theorem d36_149 : K36 149 = .ok (.iload 4, 2) := by decide +kernel
theorem d36_151 : K36 151 = .ok (.ireturn, 1) := by decide +kernel
set_option maxRecDepth 65536 in
set_option maxHeartbeats 40000000 in
theorem atc (l : Launch) (Z : State) (a0 : Array Value) (hw : ∀ d ∈ tables_1, d.before a0 Z = true) (ws : List Jvm.Cond) (x : Addr) (t : Addr) (kb : ClassId) (cd : Int32) (N : Int32) (vs : List Value) (rs : List Int32) (y : Addr) (u : Addr) (kd : ClassId) (ce : Int32) (M : Int32) (ws_ : List Value) (ts : List Int32) (pre : List Int32) (po : List Int32) (G1 : Int32) (G3 : Value) (h0 : Heap) (n0 : Nat) (Z0 : n0 ≤ h0.size) (q0 : SCs Z G1) (P5 : ¬ (G1 = (0 : Int32))) (q2 : OZ Z h0 n0) (q3 : SFm Z G3) (rG3 : G3.isRef = true) (q5 : SAd Z) (q6 : SHi Z) (q7 : SLo Z) (q8 : XSt Z h0 x) (q9 : FSv Z h0 x (.ref t)) (q10 : FSc Z h0 x (.int cd)) (q11 : Arv Z h0 t kb .byte N vs (.int (0 : Int32))) (cod_x : StrChars.Road.CodA rs cd N vs) (hb_x : ∀ c ∈ rs, Wid c) (q14 : XSt Z h0 y) (q15 : FSv Z h0 y (.ref u)) (q16 : FSc Z h0 y (.int ce)) (q17 : Arv Z h0 u kd .byte M ws_ (.int (0 : Int32))) (cod_y : StrChars.Road.CodA ts ce M ws_) (hb_y : ∀ c ∈ ts, Wid c) (hdec : rs = pre ++ (ts ++ po)) (h4 : ts.length ≤ 4) (h32 : rs.length ≤ 32) :
  MetFree l y_58 (head1 (Jvm.Cond.code y_58 method_3_code 5 (some .boolean) :: ws) r_m41) (fun a_ U_ => a_ = #[(.ref x), (.int (Int32.ofNat pre.length)), (.ref y)] ∧ Z.Warmed39 U_.vm ∧ U_.heap = h0) (fun _ _ _ _ _ => True) (fun _ U_ o_ V_ => ∃ v_ L_, o_ = .returned v_ ∧ Qatc Z x t kb cd N vs rs y u kd ce M ws_ ts pre po G1 G3 h0 n0 v_ V_.heap L_ ∧ FrameEnd U_ o_ V_ L_ r_m41.cells r_m41.slots) := by
 refine MetFree.of_bodySF (plainFor_of_name pn_7) hisR ?_
 intro p e s m args below meth c s₁ Bd bn hP hK
 obtain ⟨rfl, hZ, hh⟩ := hP
 have hx := Bd.exec
 have dc := @hb _ _ Bd.bytes
 have hml : c.maxLocals = 5 := bn
 have hown : s.vm.findClass "org/latchkey/cli/ResultLineFieldPinLaw" = some m.cls := findClass_of_methodNamed Bd.named
 have hnm := (name_of_methodNamed Bd.named Bd.method).1
 have X0 : Stand p l e r_m41 s m #[(.ref x), (.int (Int32.ofNat pre.length)), (.ref y)] below meth c s₁ [] 0 0 := Stand.of_body Bd
 have e0 : s₁.heap = h0 := by rw [← hh, Bd.state]; rfl
 have N0 := Fr.nil n0
 have Oo := q2.1
 have zo := q2.2
 have bP := own_alt q8.lt
 have bQ := own_alt q9.lt
 have bR := own_alt q10.lt
 have bS := own_alt q11.lt
 have bT := own_alt q14.lt
 have bU := own_alt q15.lt
 have bV := own_alt q16.lt
 have bW := own_alt q17.lt
 have hl := congrArg List.length hdec
 rw [List.length_append, List.length_append] at hl
 refine Gl.go (A := s₁.setTop (entryFrame m #[(.ref x), (.int (Int32.ofNat pre.length)), (.ref y)] 5)) (P := fun o_ U_ => ∃ v_ L_, o_ = .returned v_ ∧ Qatc Z x t kb cd N vs rs y u kd ce M ws_ ts pre po G1 G3 h0 n0 v_ U_.heap L_ ∧ FrameEnd s o_ U_ L_ r_m41.cells r_m41.slots) (fun t_ k_ => castTop (ef_atc m x (Int32.ofNat pre.length) y) k_) ?_
 show Gl p.tables e below _ (s₁.setTop (mkF m 0 #[sR x, sI (Int32.ofNat pre.length), sR y, sU, sU] []))
 refine Gl.go (fun _ hr => zaloadN X0.here hx (dc d36_0) rfl rfl hr) ?_
 have bo : n0 ≤ h0.size := by omega
 refine gVirtualN Gl.cl (y := y_12) (z := y_12) (b := y) (argsL := []) (rest := []) (mc := 0) (ms := 0) X0 hx hZ hown (mvT hZ (tw hw 191 rfl)) (mvT hZ (tw hw 48 rfl)) (notFace_of_selects (args := #[]) (mvT hZ (tw hw 50 rfl))) (mvT hZ (tw hw 50 rfl)) (mvT hZ (tw hw 49 rfl)) (by decide) q14 (backOf (W := 0) (slG l Z a0 hw [] y u kd ce M ws_ ts G1 h0 n0 bo q0 (by assumption) ⟨Oo, (by omega)⟩ q14 q15 q16 q17 cod_y hb_y (by omega)) hZ (tw hw 51 rfl) (tw hw 7 rfl) (by decide) (by decide)) rfl (by rw [hml]; rfl) (lenOf pd_15 rfl) rfl (by exact Nat.le_of_eq rfl) (dc d36_1) rfl e0 (by decide) (by decide) ?_
 intro bX au bB a6 ab
 obtain ⟨rfl, aJ, aT⟩ := a6
 have aA := Fr.app N0 aJ
 refine Gl.go (fun _ hr => zistoreN ab.here hx (dc d36_4) rfl (l' := #[sR x, sI (Int32.ofNat pre.length), sR y, sI (Int32.ofNat ts.length), sU]) rfl (ziloadN ab.here hx (dc d36_5) rfl hr)) ?_
 refine Gl.go (fun _ hr => zifNo ab.here hx (dc d36_6) rfl (XT.i0_lt_f (own_nn (by omega))) (ziloadN ab.here hx (dc d36_9) rfl (ziloadN ab.here hx (dc d36_10) rfl (ziadd ab.here hx (dc d36_11) rfl hr)))) ?_
 show Gl p.tables e below _ (au.setTop (mkF m 12 #[sR x, sI (Int32.ofNat pre.length), sR y, sI (Int32.ofNat ts.length), sU] [(.int ((Int32.ofNat pre.length) + (Int32.ofNat ts.length)))]))
 rw [own_add32]
 show Gl p.tables e below _ (au.setTop (mkF m 12 #[sR x, sI (Int32.ofNat pre.length), sR y, sI (Int32.ofNat ts.length), sU] [(.int (Int32.ofNat (pre.length + ts.length)))]))
 refine Gl.go (fun _ hr => zaloadN ab.here hx (dc d36_12) rfl rfl hr) ?_
 have bp : n0 ≤ h0.size := by omega
 refine gVirtualN Gl.cl (y := y_12) (z := y_12) (b := x) (argsL := []) (rest := [(.int (Int32.ofNat (pre.length + ts.length)))]) (mc := 0) (ms := 0) ab hx hZ hown (mvT hZ (tw hw 191 rfl)) (mvT hZ (tw hw 48 rfl)) (notFace_of_selects (args := #[]) (mvT hZ (tw hw 50 rfl))) (mvT hZ (tw hw 50 rfl)) (mvT hZ (tw hw 49 rfl)) (by decide) q8 (backOf (W := 1) (slG l Z a0 hw [] x t kb cd N vs rs G1 h0 n0 bp q0 (by assumption) ⟨Oo, (by omega)⟩ q8 q9 q10 q11 cod_x hb_x (by omega)) hZ (tw hw 51 rfl) (tw hw 7 rfl) (by decide) (by decide)) rfl (by rw [hml]; rfl) (lenOf pd_15 rfl) rfl (by exact Nat.le_of_eq rfl) (dc d36_13) rfl aT (by decide) (by decide) ?_
 intro bY ah bC a7 aa
 obtain ⟨rfl, aK, az⟩ := a7
 have ar := Fr.app aA aK
 refine Gl.go (fun _ hr => zicmpYes aa.here hx (pc0 := 16) (pc' := 21) rfl (dc d36_16) rfl (XT.ii_le_t (own_nlt32 (by omega) (by omega) (by omega))) (by decide) (by decide) (ziconst aa.here hx (dc d36_21) (zistore aa.here hx (dc d36_22) rfl (l' := #[sR x, sI (Int32.ofNat pre.length), sR y, sI (Int32.ofNat ts.length), sI 1]) rfl hr))) ?_
 show Gl p.tables e below _ (ah.setTop (mkF m 24 #[sR x, sI (Int32.ofNat pre.length), sR y, sI (Int32.ofNat ts.length), sI 1] []))
 obtain ⟨T1150, ⟨lc1150, N1150, X1150, e1150⟩, st1150⟩ : Sg (fun U => ∃ lc, Fr n0 lc ∧ Stand p l e r_m41 s m #[(.ref x), (.int (Int32.ofNat pre.length)), (.ref y)] below meth c U lc 0 0 ∧ U.heap = h0) (mkF m 53 #[sR x, sI (Int32.ofNat pre.length), sR y, sI (Int32.ofNat ts.length), sI 1] []) p.tables e below (ah.setTop (mkF m 24 #[sR x, sI (Int32.ofNat pre.length), sR y, sI (Int32.ofNat ts.length), sI 1] [])) := by
  refine Sg.go (fun _ hr => ziloadN aa.here hx (dc d36_24) rfl hr) ?_
  by_cases am : (0 : Int32) < (Int32.ofNat ts.length)
  ·refine Sg.go (fun _ hr => zifNo aa.here hx (dc d36_25) rfl (XT.i0_le_f am) hr) ?_
   have bh : 0 < ts.length := own_lt32' (a := 0) (b := ts.length) (by decide) (by omega) am
   refine Sg.go (fun _ hr => ziload aa.here hx (dc d36_28) rfl (zifNo aa.here hx (dc d36_30) rfl (XT.i0_eq_f (by decide)) (zaloadN aa.here hx (dc d36_33) rfl rfl (ziloadN aa.here hx (dc d36_34) rfl hr)))) ?_
   have bq : n0 ≤ h0.size := by omega
   refine gVirtualN Sg.cl (y := y_34) (z := y_34) (b := x) (argsL := [(.int (Int32.ofNat pre.length))]) (rest := []) (mc := 0) (ms := 0) aa hx hZ hown (mvT hZ (tw hw 198 rfl)) (mvT hZ (tw hw 199 rfl)) (notFace_of_selects (args := #[]) (mvT hZ (tw hw 201 rfl))) (mvT hZ (tw hw 201 rfl)) (mvT hZ (tw hw 200 rfl)) (by decide) q8 (backOf (W := 0) (cha l Z a0 hw [] x t kb cd N vs rs pre.length G1 G3 h0 n0 bq q0 (by assumption) ⟨Oo, (by omega)⟩ q3 (by assumption) q5 q6 q7 q8 q9 q10 q11 cod_x hb_x (by omega) (by omega)) hZ (tw hw 202 rfl) (tw hw 7 rfl) (by decide) (by decide)) rfl (by rw [hml]; rfl) (lenOf pd_38 rfl) rfl (by exact Nat.le_of_eq rfl) (dc d36_35) rfl az (by decide) (by decide) ?_
   intro bZ bL bD a8 ai
   obtain ⟨rfl, aL, aU⟩ := a8
   have aB := Fr.app ar aL
   refine Sg.go (fun _ hr => zaloadN ai.here hx (dc d36_38) rfl rfl (ziconst ai.here hx (dc d36_39) hr)) ?_
   have br : n0 ≤ h0.size := by omega
   refine gVirtualN Sg.cl (y := y_34) (z := y_34) (b := y) (argsL := [(.int (0 : Int32))]) (rest := [(.int (rs.getD pre.length 0))]) (mc := 0) (ms := 0) ai hx hZ hown (mvT hZ (tw hw 198 rfl)) (mvT hZ (tw hw 199 rfl)) (notFace_of_selects (args := #[]) (mvT hZ (tw hw 201 rfl))) (mvT hZ (tw hw 201 rfl)) (mvT hZ (tw hw 200 rfl)) (by decide) q14 (backOf (W := 1) (cha l Z a0 hw [] y u kd ce M ws_ ts 0 G1 G3 h0 n0 br q0 (by assumption) ⟨Oo, (by omega)⟩ q3 (by assumption) q5 q6 q7 q14 q15 q16 q17 cod_y hb_y (by omega) (by omega)) hZ (tw hw 202 rfl) (tw hw 7 rfl) (by decide) (by decide)) rfl (by rw [hml]; rfl) (lenOf pd_38 rfl) rfl (by exact Nat.le_of_eq rfl) (dc d36_40) rfl aU (by decide) (by decide) ?_
   intro b0 av bE a9 ac
   obtain ⟨rfl, aM, aV⟩ := a9
   have aC := Fr.app aB aM
   refine Sg.go (fun _ hr => zicmpNo ac.here hx (dc d36_43) rfl (XT.ii_ne_f (own_atj (j := 0) hdec bh)) (ziconst ac.here hx (dc d36_46) (zgoto ac.here hx (pc0 := 47) (pc' := 51) rfl (dc d36_47) (by decide) (by decide) (zistore ac.here hx (dc d36_51) rfl (l' := #[sR x, sI (Int32.ofNat pre.length), sR y, sI (Int32.ofNat ts.length), sI 1]) rfl hr)))) ?_
   show Sg _ _ p.tables e below (av.setTop (mkF m 53 #[sR x, sI (Int32.ofNat pre.length), sR y, sI (Int32.ofNat ts.length), sI 1] []))
   exact ⟨av, ⟨_, aC, ac, aV⟩, fun _ hr => hr⟩
  ·refine Sg.go (fun _ hr => zifYes aa.here hx (pc0 := 25) (pc' := 53) rfl (dc d36_25) rfl (XT.i0_le_t am) (by decide) (by decide) hr) ?_
   show Sg _ _ p.tables e below (ah.setTop (mkF m 53 #[sR x, sI (Int32.ofNat pre.length), sR y, sI (Int32.ofNat ts.length), sI 1] []))
   exact ⟨ah, ⟨_, ar, aa, az⟩, fun _ hr => hr⟩
 refine Gl.go st1150 ?_
 show Gl p.tables e below _ (T1150.setTop (mkF m 53 #[sR x, sI (Int32.ofNat pre.length), sR y, sI (Int32.ofNat ts.length), sI 1] []))
 obtain ⟨T1154, ⟨lc1154, N1154, X1154, e1154⟩, st1154⟩ : Sg (fun U => ∃ lc, Fr n0 lc ∧ Stand p l e r_m41 s m #[(.ref x), (.int (Int32.ofNat pre.length)), (.ref y)] below meth c U lc 0 0 ∧ U.heap = h0) (mkF m 85 #[sR x, sI (Int32.ofNat pre.length), sR y, sI (Int32.ofNat ts.length), sI 1] []) p.tables e below (T1150.setTop (mkF m 53 #[sR x, sI (Int32.ofNat pre.length), sR y, sI (Int32.ofNat ts.length), sI 1] [])) := by
  refine Sg.go (fun _ hr => ziloadN X1150.here hx (dc d36_53) rfl (ziconst X1150.here hx (dc d36_54) hr)) ?_
  by_cases ao : (1 : Int32) < (Int32.ofNat ts.length)
  ·refine Sg.go (fun _ hr => zicmpNo X1150.here hx (dc d36_55) rfl (XT.ii_le_f ao) hr) ?_
   have bj : 1 < ts.length := own_lt32' (a := 1) (b := ts.length) (by decide) (by omega) ao
   refine Sg.go (fun _ hr => ziload X1150.here hx (dc d36_58) rfl (zifNo X1150.here hx (dc d36_60) rfl (XT.i0_eq_f (by decide)) (zaloadN X1150.here hx (dc d36_63) rfl rfl (ziloadN X1150.here hx (dc d36_64) rfl (ziconst X1150.here hx (dc d36_65) (ziadd X1150.here hx (dc d36_66) rfl hr)))))) ?_
   show Sg _ _ p.tables e below (T1150.setTop (mkF m 67 #[sR x, sI (Int32.ofNat pre.length), sR y, sI (Int32.ofNat ts.length), sI 1] [(.int ((Int32.ofNat pre.length) + (1 : Int32))), (.ref x)]))
   rw [(show Int32.ofNat pre.length + (1 : Int32) = Int32.ofNat (pre.length + 1) from own_add32 pre.length 1)]
   show Sg _ _ p.tables e below (T1150.setTop (mkF m 67 #[sR x, sI (Int32.ofNat pre.length), sR y, sI (Int32.ofNat ts.length), sI 1] [(.int (Int32.ofNat (pre.length + 1))), (.ref x)]))
   have bs : n0 ≤ h0.size := by omega
   refine gVirtualN Sg.cl (y := y_34) (z := y_34) (b := x) (argsL := [(.int (Int32.ofNat (pre.length + 1)))]) (rest := []) (mc := 0) (ms := 0) X1150 hx hZ hown (mvT hZ (tw hw 198 rfl)) (mvT hZ (tw hw 199 rfl)) (notFace_of_selects (args := #[]) (mvT hZ (tw hw 201 rfl))) (mvT hZ (tw hw 201 rfl)) (mvT hZ (tw hw 200 rfl)) (by decide) q8 (backOf (W := 0) (cha l Z a0 hw [] x t kb cd N vs rs (pre.length + 1) G1 G3 h0 n0 bs q0 (by assumption) ⟨Oo, (by omega)⟩ q3 (by assumption) q5 q6 q7 q8 q9 q10 q11 cod_x hb_x (by omega) (by omega)) hZ (tw hw 202 rfl) (tw hw 7 rfl) (by decide) (by decide)) rfl (by rw [hml]; rfl) (lenOf pd_38 rfl) rfl (by exact Nat.le_of_eq rfl) (dc d36_67) rfl e1150 (by decide) (by decide) ?_
   intro b3 bM bF ba aj
   obtain ⟨rfl, aN, aW⟩ := ba
   have aD := Fr.app N1150 aN
   refine Sg.go (fun _ hr => zaloadN aj.here hx (dc d36_70) rfl rfl (ziconst aj.here hx (dc d36_71) hr)) ?_
   have bt : n0 ≤ h0.size := by omega
   refine gVirtualN Sg.cl (y := y_34) (z := y_34) (b := y) (argsL := [(.int (1 : Int32))]) (rest := [(.int (rs.getD (pre.length + 1) 0))]) (mc := 0) (ms := 0) aj hx hZ hown (mvT hZ (tw hw 198 rfl)) (mvT hZ (tw hw 199 rfl)) (notFace_of_selects (args := #[]) (mvT hZ (tw hw 201 rfl))) (mvT hZ (tw hw 201 rfl)) (mvT hZ (tw hw 200 rfl)) (by decide) q14 (backOf (W := 1) (cha l Z a0 hw [] y u kd ce M ws_ ts 1 G1 G3 h0 n0 bt q0 (by assumption) ⟨Oo, (by omega)⟩ q3 (by assumption) q5 q6 q7 q14 q15 q16 q17 cod_y hb_y (by omega) (by omega)) hZ (tw hw 202 rfl) (tw hw 7 rfl) (by decide) (by decide)) rfl (by rw [hml]; rfl) (lenOf pd_38 rfl) rfl (by exact Nat.le_of_eq rfl) (dc d36_72) rfl aW (by decide) (by decide) ?_
   intro b4 aw bG bb ae
   obtain ⟨rfl, aO, aX⟩ := bb
   have aE := Fr.app aD aO
   refine Sg.go (fun _ hr => zicmpNo ae.here hx (dc d36_75) rfl (XT.ii_ne_f (own_atj (j := 1) hdec bj)) (ziconst ae.here hx (dc d36_78) (zgoto ae.here hx (pc0 := 79) (pc' := 83) rfl (dc d36_79) (by decide) (by decide) (zistore ae.here hx (dc d36_83) rfl (l' := #[sR x, sI (Int32.ofNat pre.length), sR y, sI (Int32.ofNat ts.length), sI 1]) rfl hr)))) ?_
   show Sg _ _ p.tables e below (aw.setTop (mkF m 85 #[sR x, sI (Int32.ofNat pre.length), sR y, sI (Int32.ofNat ts.length), sI 1] []))
   exact ⟨aw, ⟨_, aE, ae, aX⟩, fun _ hr => hr⟩
  ·refine Sg.go (fun _ hr => zicmpYes X1150.here hx (pc0 := 55) (pc' := 85) rfl (dc d36_55) rfl (XT.ii_le_t ao) (by decide) (by decide) hr) ?_
   show Sg _ _ p.tables e below (T1150.setTop (mkF m 85 #[sR x, sI (Int32.ofNat pre.length), sR y, sI (Int32.ofNat ts.length), sI 1] []))
   exact ⟨T1150, ⟨_, N1150, X1150, e1150⟩, fun _ hr => hr⟩
 refine Gl.go st1154 ?_
 show Gl p.tables e below _ (T1154.setTop (mkF m 85 #[sR x, sI (Int32.ofNat pre.length), sR y, sI (Int32.ofNat ts.length), sI 1] []))
 obtain ⟨T1158, ⟨lc1158, N1158, X1158, e1158⟩, st1158⟩ : Sg (fun U => ∃ lc, Fr n0 lc ∧ Stand p l e r_m41 s m #[(.ref x), (.int (Int32.ofNat pre.length)), (.ref y)] below meth c U lc 0 0 ∧ U.heap = h0) (mkF m 117 #[sR x, sI (Int32.ofNat pre.length), sR y, sI (Int32.ofNat ts.length), sI 1] []) p.tables e below (T1154.setTop (mkF m 85 #[sR x, sI (Int32.ofNat pre.length), sR y, sI (Int32.ofNat ts.length), sI 1] [])) := by
  refine Sg.go (fun _ hr => ziloadN X1154.here hx (dc d36_85) rfl (ziconst X1154.here hx (dc d36_86) hr)) ?_
  by_cases ap : (2 : Int32) < (Int32.ofNat ts.length)
  ·refine Sg.go (fun _ hr => zicmpNo X1154.here hx (dc d36_87) rfl (XT.ii_le_f ap) hr) ?_
   have bl : 2 < ts.length := own_lt32' (a := 2) (b := ts.length) (by decide) (by omega) ap
   refine Sg.go (fun _ hr => ziload X1154.here hx (dc d36_90) rfl (zifNo X1154.here hx (dc d36_92) rfl (XT.i0_eq_f (by decide)) (zaloadN X1154.here hx (dc d36_95) rfl rfl (ziloadN X1154.here hx (dc d36_96) rfl (ziconst X1154.here hx (dc d36_97) (ziadd X1154.here hx (dc d36_98) rfl hr)))))) ?_
   show Sg _ _ p.tables e below (T1154.setTop (mkF m 99 #[sR x, sI (Int32.ofNat pre.length), sR y, sI (Int32.ofNat ts.length), sI 1] [(.int ((Int32.ofNat pre.length) + (2 : Int32))), (.ref x)]))
   rw [(show Int32.ofNat pre.length + (2 : Int32) = Int32.ofNat (pre.length + 2) from own_add32 pre.length 2)]
   show Sg _ _ p.tables e below (T1154.setTop (mkF m 99 #[sR x, sI (Int32.ofNat pre.length), sR y, sI (Int32.ofNat ts.length), sI 1] [(.int (Int32.ofNat (pre.length + 2))), (.ref x)]))
   have bu : n0 ≤ h0.size := by omega
   refine gVirtualN Sg.cl (y := y_34) (z := y_34) (b := x) (argsL := [(.int (Int32.ofNat (pre.length + 2)))]) (rest := []) (mc := 0) (ms := 0) X1154 hx hZ hown (mvT hZ (tw hw 198 rfl)) (mvT hZ (tw hw 199 rfl)) (notFace_of_selects (args := #[]) (mvT hZ (tw hw 201 rfl))) (mvT hZ (tw hw 201 rfl)) (mvT hZ (tw hw 200 rfl)) (by decide) q8 (backOf (W := 0) (cha l Z a0 hw [] x t kb cd N vs rs (pre.length + 2) G1 G3 h0 n0 bu q0 (by assumption) ⟨Oo, (by omega)⟩ q3 (by assumption) q5 q6 q7 q8 q9 q10 q11 cod_x hb_x (by omega) (by omega)) hZ (tw hw 202 rfl) (tw hw 7 rfl) (by decide) (by decide)) rfl (by rw [hml]; rfl) (lenOf pd_38 rfl) rfl (by exact Nat.le_of_eq rfl) (dc d36_99) rfl e1154 (by decide) (by decide) ?_
   intro b5 bN bH bc ak
   obtain ⟨rfl, aP, aY⟩ := bc
   have aF := Fr.app N1154 aP
   refine Sg.go (fun _ hr => zaloadN ak.here hx (dc d36_102) rfl rfl (ziconst ak.here hx (dc d36_103) hr)) ?_
   have bv : n0 ≤ h0.size := by omega
   refine gVirtualN Sg.cl (y := y_34) (z := y_34) (b := y) (argsL := [(.int (2 : Int32))]) (rest := [(.int (rs.getD (pre.length + 2) 0))]) (mc := 0) (ms := 0) ak hx hZ hown (mvT hZ (tw hw 198 rfl)) (mvT hZ (tw hw 199 rfl)) (notFace_of_selects (args := #[]) (mvT hZ (tw hw 201 rfl))) (mvT hZ (tw hw 201 rfl)) (mvT hZ (tw hw 200 rfl)) (by decide) q14 (backOf (W := 1) (cha l Z a0 hw [] y u kd ce M ws_ ts 2 G1 G3 h0 n0 bv q0 (by assumption) ⟨Oo, (by omega)⟩ q3 (by assumption) q5 q6 q7 q14 q15 q16 q17 cod_y hb_y (by omega) (by omega)) hZ (tw hw 202 rfl) (tw hw 7 rfl) (by decide) (by decide)) rfl (by rw [hml]; rfl) (lenOf pd_38 rfl) rfl (by exact Nat.le_of_eq rfl) (dc d36_104) rfl aY (by decide) (by decide) ?_
   intro b6 ax bI be af
   obtain ⟨rfl, aQ, aZ⟩ := be
   have aG := Fr.app aF aQ
   refine Sg.go (fun _ hr => zicmpNo af.here hx (dc d36_107) rfl (XT.ii_ne_f (own_atj (j := 2) hdec bl)) (ziconst af.here hx (dc d36_110) (zgoto af.here hx (pc0 := 111) (pc' := 115) rfl (dc d36_111) (by decide) (by decide) (zistore af.here hx (dc d36_115) rfl (l' := #[sR x, sI (Int32.ofNat pre.length), sR y, sI (Int32.ofNat ts.length), sI 1]) rfl hr)))) ?_
   show Sg _ _ p.tables e below (ax.setTop (mkF m 117 #[sR x, sI (Int32.ofNat pre.length), sR y, sI (Int32.ofNat ts.length), sI 1] []))
   exact ⟨ax, ⟨_, aG, af, aZ⟩, fun _ hr => hr⟩
  ·refine Sg.go (fun _ hr => zicmpYes X1154.here hx (pc0 := 87) (pc' := 117) rfl (dc d36_87) rfl (XT.ii_le_t ap) (by decide) (by decide) hr) ?_
   show Sg _ _ p.tables e below (T1154.setTop (mkF m 117 #[sR x, sI (Int32.ofNat pre.length), sR y, sI (Int32.ofNat ts.length), sI 1] []))
   exact ⟨T1154, ⟨_, N1154, X1154, e1154⟩, fun _ hr => hr⟩
 refine Gl.go st1158 ?_
 show Gl p.tables e below _ (T1158.setTop (mkF m 117 #[sR x, sI (Int32.ofNat pre.length), sR y, sI (Int32.ofNat ts.length), sI 1] []))
 obtain ⟨T1162, ⟨lc1162, N1162, X1162, e1162⟩, st1162⟩ : Sg (fun U => ∃ lc, Fr n0 lc ∧ Stand p l e r_m41 s m #[(.ref x), (.int (Int32.ofNat pre.length)), (.ref y)] below meth c U lc 0 0 ∧ U.heap = h0) (mkF m 149 #[sR x, sI (Int32.ofNat pre.length), sR y, sI (Int32.ofNat ts.length), sI 1] []) p.tables e below (T1158.setTop (mkF m 117 #[sR x, sI (Int32.ofNat pre.length), sR y, sI (Int32.ofNat ts.length), sI 1] [])) := by
  refine Sg.go (fun _ hr => ziloadN X1158.here hx (dc d36_117) rfl (ziconst X1158.here hx (dc d36_118) hr)) ?_
  by_cases aq : (3 : Int32) < (Int32.ofNat ts.length)
  ·refine Sg.go (fun _ hr => zicmpNo X1158.here hx (dc d36_119) rfl (XT.ii_le_f aq) hr) ?_
   have bm : 3 < ts.length := own_lt32' (a := 3) (b := ts.length) (by decide) (by omega) aq
   refine Sg.go (fun _ hr => ziload X1158.here hx (dc d36_122) rfl (zifNo X1158.here hx (dc d36_124) rfl (XT.i0_eq_f (by decide)) (zaloadN X1158.here hx (dc d36_127) rfl rfl (ziloadN X1158.here hx (dc d36_128) rfl (ziconst X1158.here hx (dc d36_129) (ziadd X1158.here hx (dc d36_130) rfl hr)))))) ?_
   show Sg _ _ p.tables e below (T1158.setTop (mkF m 131 #[sR x, sI (Int32.ofNat pre.length), sR y, sI (Int32.ofNat ts.length), sI 1] [(.int ((Int32.ofNat pre.length) + (3 : Int32))), (.ref x)]))
   rw [(show Int32.ofNat pre.length + (3 : Int32) = Int32.ofNat (pre.length + 3) from own_add32 pre.length 3)]
   show Sg _ _ p.tables e below (T1158.setTop (mkF m 131 #[sR x, sI (Int32.ofNat pre.length), sR y, sI (Int32.ofNat ts.length), sI 1] [(.int (Int32.ofNat (pre.length + 3))), (.ref x)]))
   have bz : n0 ≤ h0.size := by omega
   refine gVirtualN Sg.cl (y := y_34) (z := y_34) (b := x) (argsL := [(.int (Int32.ofNat (pre.length + 3)))]) (rest := []) (mc := 0) (ms := 0) X1158 hx hZ hown (mvT hZ (tw hw 198 rfl)) (mvT hZ (tw hw 199 rfl)) (notFace_of_selects (args := #[]) (mvT hZ (tw hw 201 rfl))) (mvT hZ (tw hw 201 rfl)) (mvT hZ (tw hw 200 rfl)) (by decide) q8 (backOf (W := 0) (cha l Z a0 hw [] x t kb cd N vs rs (pre.length + 3) G1 G3 h0 n0 bz q0 (by assumption) ⟨Oo, (by omega)⟩ q3 (by assumption) q5 q6 q7 q8 q9 q10 q11 cod_x hb_x (by omega) (by omega)) hZ (tw hw 202 rfl) (tw hw 7 rfl) (by decide) (by decide)) rfl (by rw [hml]; rfl) (lenOf pd_38 rfl) rfl (by exact Nat.le_of_eq rfl) (dc d36_131) rfl e1158 (by decide) (by decide) ?_
   intro b7 bO bJ bf al
   obtain ⟨rfl, aR, a3⟩ := bf
   have aH := Fr.app N1158 aR
   refine Sg.go (fun _ hr => zaloadN al.here hx (dc d36_134) rfl rfl (ziconst al.here hx (dc d36_135) hr)) ?_
   have bA : n0 ≤ h0.size := by omega
   refine gVirtualN Sg.cl (y := y_34) (z := y_34) (b := y) (argsL := [(.int (3 : Int32))]) (rest := [(.int (rs.getD (pre.length + 3) 0))]) (mc := 0) (ms := 0) al hx hZ hown (mvT hZ (tw hw 198 rfl)) (mvT hZ (tw hw 199 rfl)) (notFace_of_selects (args := #[]) (mvT hZ (tw hw 201 rfl))) (mvT hZ (tw hw 201 rfl)) (mvT hZ (tw hw 200 rfl)) (by decide) q14 (backOf (W := 1) (cha l Z a0 hw [] y u kd ce M ws_ ts 3 G1 G3 h0 n0 bA q0 (by assumption) ⟨Oo, (by omega)⟩ q3 (by assumption) q5 q6 q7 q14 q15 q16 q17 cod_y hb_y (by omega) (by omega)) hZ (tw hw 202 rfl) (tw hw 7 rfl) (by decide) (by decide)) rfl (by rw [hml]; rfl) (lenOf pd_38 rfl) rfl (by exact Nat.le_of_eq rfl) (dc d36_136) rfl a3 (by decide) (by decide) ?_
   intro b8 ay bK bg ag
   obtain ⟨rfl, aS, a5⟩ := bg
   have aI := Fr.app aH aS
   refine Sg.go (fun _ hr => zicmpNo ag.here hx (dc d36_139) rfl (XT.ii_ne_f (own_atj (j := 3) hdec bm)) (ziconst ag.here hx (dc d36_142) (zgoto ag.here hx (pc0 := 143) (pc' := 147) rfl (dc d36_143) (by decide) (by decide) (zistore ag.here hx (dc d36_147) rfl (l' := #[sR x, sI (Int32.ofNat pre.length), sR y, sI (Int32.ofNat ts.length), sI 1]) rfl hr)))) ?_
   show Sg _ _ p.tables e below (ay.setTop (mkF m 149 #[sR x, sI (Int32.ofNat pre.length), sR y, sI (Int32.ofNat ts.length), sI 1] []))
   exact ⟨ay, ⟨_, aI, ag, a5⟩, fun _ hr => hr⟩
  ·refine Sg.go (fun _ hr => zicmpYes X1158.here hx (pc0 := 119) (pc' := 149) rfl (dc d36_119) rfl (XT.ii_le_t aq) (by decide) (by decide) hr) ?_
   show Sg _ _ p.tables e below (T1158.setTop (mkF m 149 #[sR x, sI (Int32.ofNat pre.length), sR y, sI (Int32.ofNat ts.length), sI 1] []))
   exact ⟨T1158, ⟨_, N1158, X1158, e1158⟩, fun _ hr => hr⟩
 refine Gl.go st1162 ?_
 show Gl p.tables e below _ (T1162.setTop (mkF m 149 #[sR x, sI (Int32.ofNat pre.length), sR y, sI (Int32.ofNat ts.length), sI 1] []))
 refine Gl.go (fun _ hr => ziload X1162.here hx (dc d36_149) rfl hr) ?_
 obtain ⟨fs, hr, hrun, hended, hW, hsame⟩ := X1162.leave (v := some (.int (1 : Int32))) (fun h => by rw [Bd.returns] at h; cases h)
 refine ⟨_, _, retN X1162 hx (t := .boolean) Bd.returns (by simp) (dc d36_151) hr, hrun, hended, _, _, rfl, ?_, ⟨⟨_, rfl⟩, hW, hsame.mono (by decide) (by decide)⟩⟩
 show Qatc Z x t kb cd N vs rs y u kd ce M ws_ ts pre po G1 G3 h0 n0 _ T1162.heap _
 rw [e1162]
 exact ⟨rfl, N1162, rfl⟩
def Qfac (Z : State) (x : Addr) (t : Addr) (kb : ClassId) (cd : Int32) (N : Int32) (vs : List Value) (rs : List Int32) (y : Addr) (u : Addr) (kd : ClassId) (ce : Int32) (M : Int32) (ws_ : List Value) (ts : List Int32) (w_ : Addr) (tv : Addr) (kv : ClassId) (cv : Int32) (Nv : Int32) (wv : List Value) (us : List Int32) (pre : List Int32) (po : List Int32) (G1 : Int32) (G3 : Value) (h0 : Heap) (n0 : Nat) (v : Option Value) (h : Heap) (L : List Loc) : Prop := v = some (.int (1 : Int32)) ∧ Fr n0 L ∧ h = h0
theorem ef_fac (m : MethodId) (x0 : Addr) (x1 : Int32) (x2 : Addr) (x3 : Addr) : entryFrame m #[(.ref x0), (.int x1), (.ref x2), (.ref x3)] 5 = mkF m 0 #[sR x0, sI x1, sR x2, sR x3, sU] [] := by first | (simp [entryFrame, mkF, argsToLocals, Value.category]; done) | rfl
abbrev K37 (i : Nat) := decode method_4_code i
theorem d37_0 : K37 0 = .ok (.aload_n 2, 1) := by decide +kernel
theorem d37_1 : K37 1 = .ok (.invokevirtual 13, 3) := by decide +kernel
theorem d37_4 : K37 4 = .ok (.istore 4, 2) := by decide +kernel
theorem d37_6 : K37 6 = .ok (.iload_n 1, 1) := by decide +kernel
theorem d37_7 : K37 7 = .ok (.ifCond .lt 16, 3) := by decide +kernel
theorem d37_10 : K37 10 = .ok (.iload_n 1, 1) := by decide +kernel
theorem d37_11 : K37 11 = .ok (.iconst 2, 1) := by decide +kernel
theorem d37_12 : K37 12 = .ok (.iadd, 1) := by decide +kernel
theorem d37_13 : K37 13 = .ok (.iload 4, 2) := by decide +kernel
theorem d37_15 : K37 15 = .ok (.iadd, 1) := by decide +kernel
theorem d37_16 : K37 16 = .ok (.aload_n 0, 1) := by decide +kernel
theorem d37_17 : K37 17 = .ok (.invokevirtual 13, 3) := by decide +kernel
theorem d37_20 : K37 20 = .ok (.if_icmp .le 5, 3) := by decide +kernel
theorem d37_25 : K37 25 = .ok (.aload_n 0, 1) := by decide +kernel
theorem d37_26 : K37 26 = .ok (.iload_n 1, 1) := by decide +kernel
theorem d37_27 : K37 27 = .ok (.invokevirtual 17, 3) := by decide +kernel
theorem d37_30 : K37 30 = .ok (.bipush 32, 2) := by decide +kernel
theorem d37_32 : K37 32 = .ok (.if_icmp .ne 47, 3) := by decide +kernel
theorem d37_35 : K37 35 = .ok (.aload_n 0, 1) := by decide +kernel
theorem d37_36 : K37 36 = .ok (.iload_n 1, 1) := by decide +kernel
theorem d37_37 : K37 37 = .ok (.iconst 1, 1) := by decide +kernel
theorem d37_38 : K37 38 = .ok (.iadd, 1) := by decide +kernel
theorem d37_39 : K37 39 = .ok (.aload_n 2, 1) := by decide +kernel
theorem d37_40 : K37 40 = .ok (.invokestatic 21, 3) := by decide +kernel
theorem pd_39 : parseMethodDescriptor "(Ljava/lang/String;ILjava/lang/String;)Z" = some ⟨[(.object "java/lang/String"), .int, (.object "java/lang/String")], some .boolean⟩ := by decide +kernel
theorem d37_43 : K37 43 = .ok (.ifCond .eq 36, 3) := by decide +kernel
theorem d37_46 : K37 46 = .ok (.aload_n 0, 1) := by decide +kernel
theorem d37_47 : K37 47 = .ok (.iload_n 1, 1) := by decide +kernel
theorem d37_48 : K37 48 = .ok (.iconst 1, 1) := by decide +kernel
theorem d37_49 : K37 49 = .ok (.iadd, 1) := by decide +kernel
theorem d37_50 : K37 50 = .ok (.iload 4, 2) := by decide +kernel
theorem d37_52 : K37 52 = .ok (.iadd, 1) := by decide +kernel
theorem d37_53 : K37 53 = .ok (.invokevirtual 17, 3) := by decide +kernel
theorem d37_56 : K37 56 = .ok (.bipush 61, 2) := by decide +kernel
theorem d37_58 : K37 58 = .ok (.if_icmp .ne 21, 3) := by decide +kernel
theorem d37_61 : K37 61 = .ok (.aload_n 0, 1) := by decide +kernel
theorem d37_62 : K37 62 = .ok (.iload_n 1, 1) := by decide +kernel
theorem d37_63 : K37 63 = .ok (.iconst 2, 1) := by decide +kernel
theorem d37_64 : K37 64 = .ok (.iadd, 1) := by decide +kernel
theorem d37_65 : K37 65 = .ok (.iload 4, 2) := by decide +kernel
theorem d37_67 : K37 67 = .ok (.iadd, 1) := by decide +kernel
theorem d37_68 : K37 68 = .ok (.aload_n 3, 1) := by decide +kernel
theorem d37_69 : K37 69 = .ok (.invokestatic 21, 3) := by decide +kernel
theorem d37_72 : K37 72 = .ok (.ifCond .eq 7, 3) := by decide +kernel
theorem d37_75 : K37 75 = .ok (.iconst 1, 1) := by decide +kernel
theorem d37_76 : K37 76 = .ok (.goto 4, 3) := by decide +kernel
theorem d37_80 : K37 80 = .ok (.ireturn, 1) := by decide +kernel
set_option maxRecDepth 65536 in
set_option maxHeartbeats 40000000 in
theorem fac (l : Launch) (Z : State) (a0 : Array Value) (hw : ∀ d ∈ tables_1, d.before a0 Z = true) (ws : List Jvm.Cond) (x : Addr) (t : Addr) (kb : ClassId) (cd : Int32) (N : Int32) (vs : List Value) (rs : List Int32) (y : Addr) (u : Addr) (kd : ClassId) (ce : Int32) (M : Int32) (ws_ : List Value) (ts : List Int32) (w_ : Addr) (tv : Addr) (kv : ClassId) (cv : Int32) (Nv : Int32) (wv : List Value) (us : List Int32) (pre : List Int32) (po : List Int32) (G1 : Int32) (G3 : Value) (h0 : Heap) (n0 : Nat) (Z0 : n0 ≤ h0.size) (q0 : SCs Z G1) (P5 : ¬ (G1 = (0 : Int32))) (q2 : OZ Z h0 n0) (q3 : SFm Z G3) (rG3 : G3.isRef = true) (q5 : SAd Z) (q6 : SHi Z) (q7 : SLo Z) (q8 : XSt Z h0 x) (q9 : FSv Z h0 x (.ref t)) (q10 : FSc Z h0 x (.int cd)) (q11 : Arv Z h0 t kb .byte N vs (.int (0 : Int32))) (cod_x : StrChars.Road.CodA rs cd N vs) (hb_x : ∀ c ∈ rs, Wid c) (q14 : XSt Z h0 y) (q15 : FSv Z h0 y (.ref u)) (q16 : FSc Z h0 y (.int ce)) (q17 : Arv Z h0 u kd .byte M ws_ (.int (0 : Int32))) (cod_y : StrChars.Road.CodA ts ce M ws_) (hb_y : ∀ c ∈ ts, Wid c) (q20 : XSt Z h0 w_) (q21 : FSv Z h0 w_ (.ref tv)) (q22 : FSc Z h0 w_ (.int cv)) (q23 : Arv Z h0 tv kv .byte Nv wv (.int (0 : Int32))) (cod_w_ : StrChars.Road.CodA us cv Nv wv) (hb_w_ : ∀ c ∈ us, Wid c) (hdec : rs = pre ++ ((32 : Int32) :: (ts ++ ((61 : Int32) :: (us ++ po))))) (h4 : ts.length ≤ 4) (h5 : us.length ≤ 4) (h32 : rs.length ≤ 32) :
  MetFree l y_59 (head1 (Jvm.Cond.code y_59 method_4_code 5 (some .boolean) :: ws) r_m42) (fun a_ U_ => a_ = #[(.ref x), (.int (Int32.ofNat pre.length)), (.ref y), (.ref w_)] ∧ Z.Warmed39 U_.vm ∧ U_.heap = h0) (fun _ _ _ _ _ => True) (fun _ U_ o_ V_ => ∃ v_ L_, o_ = .returned v_ ∧ Qfac Z x t kb cd N vs rs y u kd ce M ws_ ts w_ tv kv cv Nv wv us pre po G1 G3 h0 n0 v_ V_.heap L_ ∧ FrameEnd U_ o_ V_ L_ r_m42.cells r_m42.slots) := by
 refine MetFree.of_bodySF (plainFor_of_name pn_7) hisR ?_
 intro p e s m args below meth c s₁ Bd aN hP hK
 obtain ⟨rfl, hZ, hh⟩ := hP
 have hx := Bd.exec
 have dc := @hb _ _ Bd.bytes
 have hml : c.maxLocals = 5 := aN
 have hown : s.vm.findClass "org/latchkey/cli/ResultLineFieldPinLaw" = some m.cls := findClass_of_methodNamed Bd.named
 have hnm := (name_of_methodNamed Bd.named Bd.method).1
 have X0 : Stand p l e r_m42 s m #[(.ref x), (.int (Int32.ofNat pre.length)), (.ref y), (.ref w_)] below meth c s₁ [] 0 0 := Stand.of_body Bd
 have e0 : s₁.heap = h0 := by rw [← hh, Bd.state]; rfl
 have N0 := Fr.nil n0
 have Oo := q2.1
 have zo := q2.2
 have a5 := own_alt q8.lt
 have a6 := own_alt q9.lt
 have a7 := own_alt q10.lt
 have a8 := own_alt q11.lt
 have a9 := own_alt q14.lt
 have ba := own_alt q15.lt
 have bb := own_alt q16.lt
 have bc := own_alt q17.lt
 have be := own_alt q20.lt
 have bf := own_alt q21.lt
 have bg := own_alt q22.lt
 have bh := own_alt q23.lt
 have hl := congrArg List.length hdec
 simp only [List.length_append, List.length_cons] at hl
 refine Gl.go (A := s₁.setTop (entryFrame m #[(.ref x), (.int (Int32.ofNat pre.length)), (.ref y), (.ref w_)] 5)) (P := fun o_ U_ => ∃ v_ L_, o_ = .returned v_ ∧ Qfac Z x t kb cd N vs rs y u kd ce M ws_ ts w_ tv kv cv Nv wv us pre po G1 G3 h0 n0 v_ U_.heap L_ ∧ FrameEnd s o_ U_ L_ r_m42.cells r_m42.slots) (fun t_ k_ => castTop (ef_fac m x (Int32.ofNat pre.length) y w_) k_) ?_
 show Gl p.tables e below _ (s₁.setTop (mkF m 0 #[sR x, sI (Int32.ofNat pre.length), sR y, sR w_, sU] []))
 refine Gl.go (fun _ hr => zaloadN X0.here hx (dc d37_0) rfl rfl hr) ?_
 have aO : n0 ≤ h0.size := by omega
 refine gVirtualN Gl.cl (y := y_12) (z := y_12) (b := y) (argsL := []) (rest := []) (mc := 0) (ms := 0) X0 hx hZ hown (mvT hZ (tw hw 191 rfl)) (mvT hZ (tw hw 48 rfl)) (notFace_of_selects (args := #[]) (mvT hZ (tw hw 50 rfl))) (mvT hZ (tw hw 50 rfl)) (mvT hZ (tw hw 49 rfl)) (by decide) q14 (backOf (W := 0) (slG l Z a0 hw [] y u kd ce M ws_ ts G1 h0 n0 aO q0 (by assumption) ⟨Oo, (by omega)⟩ q14 q15 q16 q17 cod_y hb_y (by omega)) hZ (tw hw 51 rfl) (tw hw 7 rfl) (by decide) (by decide)) rfl (by rw [hml]; rfl) (lenOf pd_15 rfl) rfl (by exact Nat.le_of_eq rfl) (dc d37_1) rfl e0 (by decide) (by decide) ?_
 intro bj ah aU aH aa
 obtain ⟨rfl, au, aB⟩ := aH
 have al := Fr.app N0 au
 refine Gl.go (fun _ hr => zistore aa.here hx (dc d37_4) rfl (l' := #[sR x, sI (Int32.ofNat pre.length), sR y, sR w_, sI (Int32.ofNat ts.length)]) rfl (ziloadN aa.here hx (dc d37_6) rfl hr)) ?_
 refine Gl.go (fun _ hr => zifNo aa.here hx (dc d37_7) rfl (XT.i0_lt_f (own_nn (by omega))) (ziloadN aa.here hx (dc d37_10) rfl (ziconst aa.here hx (dc d37_11) (ziadd aa.here hx (dc d37_12) rfl (ziload aa.here hx (dc d37_13) rfl (ziadd aa.here hx (dc d37_15) rfl hr)))))) ?_
 show Gl p.tables e below _ (ah.setTop (mkF m 16 #[sR x, sI (Int32.ofNat pre.length), sR y, sR w_, sI (Int32.ofNat ts.length)] [(.int (((Int32.ofNat pre.length) + (2 : Int32)) + (Int32.ofNat ts.length)))]))
 rw [(show Int32.ofNat pre.length + (2 : Int32) + Int32.ofNat ts.length = Int32.ofNat (pre.length + 2 + ts.length) from by rw [show Int32.ofNat pre.length + (2 : Int32) = Int32.ofNat (pre.length + 2) from own_add32 pre.length 2, own_add32])]
 show Gl p.tables e below _ (ah.setTop (mkF m 16 #[sR x, sI (Int32.ofNat pre.length), sR y, sR w_, sI (Int32.ofNat ts.length)] [(.int (Int32.ofNat (pre.length + 2 + ts.length)))]))
 refine Gl.go (fun _ hr => zaloadN aa.here hx (dc d37_16) rfl rfl hr) ?_
 have aP : n0 ≤ h0.size := by omega
 refine gVirtualN Gl.cl (y := y_12) (z := y_12) (b := x) (argsL := []) (rest := [(.int (Int32.ofNat (pre.length + 2 + ts.length)))]) (mc := 0) (ms := 0) aa hx hZ hown (mvT hZ (tw hw 191 rfl)) (mvT hZ (tw hw 48 rfl)) (notFace_of_selects (args := #[]) (mvT hZ (tw hw 50 rfl))) (mvT hZ (tw hw 50 rfl)) (mvT hZ (tw hw 49 rfl)) (by decide) q8 (backOf (W := 1) (slG l Z a0 hw [] x t kb cd N vs rs G1 h0 n0 aP q0 (by assumption) ⟨Oo, (by omega)⟩ q8 q9 q10 q11 cod_x hb_x (by omega)) hZ (tw hw 51 rfl) (tw hw 7 rfl) (by decide) (by decide)) rfl (by rw [hml]; rfl) (lenOf pd_15 rfl) rfl (by exact Nat.le_of_eq rfl) (dc d37_17) rfl aB (by decide) (by decide) ?_
 intro bl a3 aV aI ag
 obtain ⟨rfl, av, aC⟩ := aI
 have am := Fr.app al av
 refine Gl.go (fun _ hr => zicmpYes ag.here hx (pc0 := 20) (pc' := 25) rfl (dc d37_20) rfl (XT.ii_le_t (own_nlt32 (by omega) (by omega) (by omega))) (by decide) (by decide) (zaloadN ag.here hx (dc d37_25) rfl rfl (ziloadN ag.here hx (dc d37_26) rfl hr))) ?_
 have aQ : n0 ≤ h0.size := by omega
 refine gVirtualN Gl.cl (y := y_34) (z := y_34) (b := x) (argsL := [(.int (Int32.ofNat pre.length))]) (rest := []) (mc := 0) (ms := 0) ag hx hZ hown (mvT hZ (tw hw 198 rfl)) (mvT hZ (tw hw 199 rfl)) (notFace_of_selects (args := #[]) (mvT hZ (tw hw 201 rfl))) (mvT hZ (tw hw 201 rfl)) (mvT hZ (tw hw 200 rfl)) (by decide) q8 (backOf (W := 0) (cha l Z a0 hw [] x t kb cd N vs rs pre.length G1 G3 h0 n0 aQ q0 (by assumption) ⟨Oo, (by omega)⟩ q3 (by assumption) q5 q6 q7 q8 q9 q10 q11 cod_x hb_x (by (try simp only [ln_]); omega) (by omega)) hZ (tw hw 202 rfl) (tw hw 7 rfl) (by decide) (by decide)) rfl (by rw [hml]; rfl) (lenOf pd_38 rfl) rfl (by exact Nat.le_of_eq rfl) (dc d37_27) rfl aC (by decide) (by decide) ?_
 intro bm ai aW aJ ac
 obtain ⟨rfl, aw, aD⟩ := aJ
 have ao := Fr.app am aw
 refine Gl.go (fun _ hr => zbipush ac.here hx (dc d37_30) hr) ?_
 refine Gl.go (fun _ hr => zicmpNo ac.here hx (dc d37_32) rfl (XT.ii_ne_f (own_at0 hdec)) (zaloadN ac.here hx (dc d37_35) rfl rfl (ziloadN ac.here hx (dc d37_36) rfl (ziconst ac.here hx (dc d37_37) (ziadd ac.here hx (dc d37_38) rfl hr))))) ?_
 show Gl p.tables e below _ (ai.setTop (mkF m 39 #[sR x, sI (Int32.ofNat pre.length), sR y, sR w_, sI (Int32.ofNat ts.length)] [(.int ((Int32.ofNat pre.length) + (1 : Int32))), (.ref x)]))
 rw [(own_len1 pre 32)]
 show Gl p.tables e below _ (ai.setTop (mkF m 39 #[sR x, sI (Int32.ofNat pre.length), sR y, sR w_, sI (Int32.ofNat ts.length)] [(.int (Int32.ofNat (pre ++ [(32 : Int32)]).length)), (.ref x)]))
 refine Gl.go (fun _ hr => zaloadN ac.here hx (dc d37_39) rfl rfl hr) ?_
 have aR : n0 ≤ h0.size := by omega
 refine gStaticN Gl.cl (y := y_58) (argsL := [(.ref x), (.int (Int32.ofNat (pre ++ [(32 : Int32)]).length)), (.ref y)]) (rest := []) (mc := 0) (ms := 0) ac hx hZ hown (mvT hZ (tw hw 192 rfl)) (mvT hZ (tw hw 193 rfl)) (mvT hZ (tw hw 2 rfl)) (mvT hZ (tw hw 194 rfl)) (by decide) (backOf (W := 0) (atc l Z a0 hw [] x t kb cd N vs rs y u kd ce M ws_ ts (pre ++ [(32 : Int32)]) ((61 : Int32) :: (us ++ po)) G1 G3 h0 n0 aR q0 (by assumption) ⟨Oo, (by omega)⟩ q3 (by assumption) q5 q6 q7 q8 q9 q10 q11 cod_x hb_x q14 q15 q16 q17 cod_y hb_y (by rw [hdec]; simp) h4 h32) hZ (tw hw 194 rfl) (tw hw 2 rfl) (by decide) (by decide)) rfl (by rw [hml]; rfl) (lenOf pd_39 rfl) rfl (by exact Nat.le_of_eq rfl) (dc d37_40) rfl aD (by decide) (by decide) ?_
 intro bn aj aX aK ae
 obtain ⟨rfl, ax, aE⟩ := aK
 have ap := Fr.app ao ax
 refine Gl.go (fun _ hr => zifNo ae.here hx (dc d37_43) rfl (XT.i0_eq_f (by decide)) (zaloadN ae.here hx (dc d37_46) rfl rfl (ziloadN ae.here hx (dc d37_47) rfl (ziconst ae.here hx (dc d37_48) (ziadd ae.here hx (dc d37_49) rfl (ziload ae.here hx (dc d37_50) rfl (ziadd ae.here hx (dc d37_52) rfl hr))))))) ?_
 show Gl p.tables e below _ (aj.setTop (mkF m 53 #[sR x, sI (Int32.ofNat pre.length), sR y, sR w_, sI (Int32.ofNat ts.length)] [(.int (((Int32.ofNat pre.length) + (1 : Int32)) + (Int32.ofNat ts.length))), (.ref x)]))
 rw [(show Int32.ofNat pre.length + (1 : Int32) + Int32.ofNat ts.length = Int32.ofNat ((pre ++ [(32 : Int32)]) ++ ts).length from by rw [own_len1 pre 32, own_add32, ← List.length_append])]
 show Gl p.tables e below _ (aj.setTop (mkF m 53 #[sR x, sI (Int32.ofNat pre.length), sR y, sR w_, sI (Int32.ofNat ts.length)] [(.int (Int32.ofNat ((pre ++ [(32 : Int32)]) ++ ts).length)), (.ref x)]))
 have aS : n0 ≤ h0.size := by omega
 refine gVirtualN Gl.cl (y := y_34) (z := y_34) (b := x) (argsL := [(.int (Int32.ofNat ((pre ++ [(32 : Int32)]) ++ ts).length))]) (rest := []) (mc := 0) (ms := 0) ae hx hZ hown (mvT hZ (tw hw 198 rfl)) (mvT hZ (tw hw 199 rfl)) (notFace_of_selects (args := #[]) (mvT hZ (tw hw 201 rfl))) (mvT hZ (tw hw 201 rfl)) (mvT hZ (tw hw 200 rfl)) (by decide) q8 (backOf (W := 0) (cha l Z a0 hw [] x t kb cd N vs rs (((pre ++ [(32 : Int32)]) ++ ts).length) G1 G3 h0 n0 aS q0 (by assumption) ⟨Oo, (by omega)⟩ q3 (by assumption) q5 q6 q7 q8 q9 q10 q11 cod_x hb_x (by (try simp only [ln_]); omega) (by omega)) hZ (tw hw 202 rfl) (tw hw 7 rfl) (by decide) (by decide)) rfl (by rw [hml]; rfl) (lenOf pd_38 rfl) rfl (by exact Nat.le_of_eq rfl) (dc d37_53) rfl aE (by decide) (by decide) ?_
 intro bo ak aY aL ab
 obtain ⟨rfl, ay, aF⟩ := aL
 have aq := Fr.app ap ay
 refine Gl.go (fun _ hr => zbipush ab.here hx (dc d37_56) hr) ?_
 refine Gl.go (fun _ hr => zicmpNo ab.here hx (dc d37_58) rfl (XT.ii_ne_f (own_at0 (rs := rs) (pre := ((pre ++ [(32 : Int32)]) ++ ts)) (po := us ++ po) (by rw [hdec]; simp))) (zaloadN ab.here hx (dc d37_61) rfl rfl (ziloadN ab.here hx (dc d37_62) rfl (ziconst ab.here hx (dc d37_63) (ziadd ab.here hx (dc d37_64) rfl (ziload ab.here hx (dc d37_65) rfl (ziadd ab.here hx (dc d37_67) rfl hr))))))) ?_
 show Gl p.tables e below _ (ak.setTop (mkF m 68 #[sR x, sI (Int32.ofNat pre.length), sR y, sR w_, sI (Int32.ofNat ts.length)] [(.int (((Int32.ofNat pre.length) + (2 : Int32)) + (Int32.ofNat ts.length))), (.ref x)]))
 rw [(show Int32.ofNat pre.length + (2 : Int32) + Int32.ofNat ts.length = Int32.ofNat (((pre ++ [(32 : Int32)]) ++ ts) ++ [(61 : Int32)]).length from by rw [show Int32.ofNat pre.length + (2 : Int32) = Int32.ofNat (pre.length + 2) from own_add32 pre.length 2, own_add32]; simp only [ln_]; congr 1; omega)]
 show Gl p.tables e below _ (ak.setTop (mkF m 68 #[sR x, sI (Int32.ofNat pre.length), sR y, sR w_, sI (Int32.ofNat ts.length)] [(.int (Int32.ofNat (((pre ++ [(32 : Int32)]) ++ ts) ++ [(61 : Int32)]).length)), (.ref x)]))
 refine Gl.go (fun _ hr => zaloadN ab.here hx (dc d37_68) rfl rfl hr) ?_
 have aT : n0 ≤ h0.size := by omega
 refine gStaticN Gl.cl (y := y_58) (argsL := [(.ref x), (.int (Int32.ofNat (((pre ++ [(32 : Int32)]) ++ ts) ++ [(61 : Int32)]).length)), (.ref w_)]) (rest := []) (mc := 0) (ms := 0) ab hx hZ hown (mvT hZ (tw hw 192 rfl)) (mvT hZ (tw hw 193 rfl)) (mvT hZ (tw hw 2 rfl)) (mvT hZ (tw hw 194 rfl)) (by decide) (backOf (W := 0) (atc l Z a0 hw [] x t kb cd N vs rs w_ tv kv cv Nv wv us (((pre ++ [(32 : Int32)]) ++ ts) ++ [(61 : Int32)]) po G1 G3 h0 n0 aT q0 (by assumption) ⟨Oo, (by omega)⟩ q3 (by assumption) q5 q6 q7 q8 q9 q10 q11 cod_x hb_x q20 q21 q22 q23 cod_w_ hb_w_ (by rw [hdec]; simp) h5 h32) hZ (tw hw 194 rfl) (tw hw 2 rfl) (by decide) (by decide)) rfl (by rw [hml]; rfl) (lenOf pd_39 rfl) rfl (by exact Nat.le_of_eq rfl) (dc d37_69) rfl aF (by decide) (by decide) ?_
 intro bp aA aZ aM af
 obtain ⟨rfl, az, aG⟩ := aM
 have ar := Fr.app aq az
 refine Gl.go (fun _ hr => zifNo af.here hx (dc d37_72) rfl (XT.i0_eq_f (by decide)) (ziconst af.here hx (dc d37_75) (zgoto af.here hx (pc0 := 76) (pc' := 80) rfl (dc d37_76) (by decide) (by decide) hr))) ?_
 obtain ⟨fs, hr, hrun, hended, hW, hsame⟩ := af.leave (v := some (.int (1 : Int32))) (fun h => by rw [Bd.returns] at h; cases h)
 refine ⟨_, _, retN af hx (t := .boolean) Bd.returns (by simp) (dc d37_80) hr, hrun, hended, _, _, rfl, ?_, ⟨⟨_, rfl⟩, hW, hsame.mono (by decide) (by decide)⟩⟩
 show Qfac Z x t kb cd N vs rs y u kd ce M ws_ ts w_ tv kv cv Nv wv us pre po G1 G3 h0 n0 _ aA.heap _
 rw [aG]
 exact ⟨rfl, ar, rfl⟩
def Qlawrm (Z : State) (i0 : Int32) (i1 : Int32) (i2 : Int32) (i3 : Int32) (i4 : Int32) (i5 : Int32) (G1 : Int32) (G3 : Value) (h0 : Heap) (n0 : Nat) (v : Option Value) (h : Heap) (vm : Vm) (L : List Loc) : Prop := v = some (.int (1 : Int32)) ∧ Fr n0 L ∧ Keep h0 h []
theorem ef_lawrm (m : MethodId) (x0 : Int32) (x1 : Int32) (x2 : Int32) (x3 : Int32) (x4 : Int32) (x5 : Int32) : entryFrame m #[(.int x0), (.int x1), (.int x2), (.int x3), (.int x4), (.int x5)] maxLocals = mkF m 0 #[sI x0, sI x1, sI x2, sI x3, sI x4, sI x5, sU, sU, sU, sU, sU, sU, sU, sU, sU, sU, sU, sU, sU, sU, sU, sU, sU, sU, sU] [] := by first | (simp [entryFrame, mkF, argsToLocals, Value.category, maxLocals]; done) | rfl
theorem pd_40 : parseMethodDescriptor "(Ljava/lang/String;ILjava/lang/String;Ljava/lang/String;)Z" = some ⟨[(.object "java/lang/String"), .int, (.object "java/lang/String"), (.object "java/lang/String")], some .boolean⟩ := by decide +kernel
theorem pd_41 : parseMethodDescriptor "(II)Ljava/lang/String;" = some ⟨[.int, .int], some (.object "java/lang/String")⟩ := by decide +kernel
theorem pd_42 : parseMethodDescriptor "(Ljava/lang/String;Ljava/lang/Object;)Lorg/latchkey/cli/ResultLine;" = some ⟨[(.object "java/lang/String"), (.object "java/lang/Object")], some (.object "org/latchkey/cli/ResultLine")⟩ := by decide +kernel
set_option maxRecDepth 65536 in
set_option maxHeartbeats 40000000 in
theorem lawrm (l : Launch) (Z : State) (a0 : Array Value) (hw : ∀ d ∈ tables_1, d.before a0 Z = true) (ws : List Jvm.Cond) (i0 : Int32) (i1 : Int32) (i2 : Int32) (i3 : Int32) (i4 : Int32) (i5 : Int32) (G1 : Int32) (G3 : Value) (h0 : Heap) (n0 : Nat) (Z0 : n0 ≤ h0.size) (q0 : SCs Z G1) (P5 : ¬ (G1 = (0 : Int32))) (q2 : OZ Z h0 n0) (q3 : SFm Z G3) (rG3 : G3.isRef = true) (q5 : SAd Z) (q6 : SHi Z) (q7 : SLo Z) (hew : EW Z a0 ELs) :
  MetFree l x (head1 (Jvm.Cond.code x code maxLocals ret :: ws) room_1) (fun a_ U_ => a_ = #[(.int i0), (.int i1), (.int i2), (.int i3), (.int i4), (.int i5)] ∧ Z.Warmed39 U_.vm ∧ U_.heap = h0 ∧ ChJ Z U_.vm h0) (fun _ _ _ _ _ => True) (fun _ U_ o_ V_ => ∃ v_ L_, o_ = .returned v_ ∧ Qlawrm Z i0 i1 i2 i3 i4 i5 G1 G3 h0 n0 v_ V_.heap V_.vm L_ ∧ ReturnedEndW U_ o_ V_ L_ 72 3520) := by
 refine MetFree.of_bodySF (plainFor_of_name pn_7) hisR ?_
 intro p e s m args below meth c s₁ Bd vy hP hK
 obtain ⟨rfl, hZ, hh, hphi_ch⟩ := hP
 have hx := Bd.exec
 have dc := @hb _ _ Bd.bytes
 have hml : c.maxLocals = 25 := vy
 have hown : s.vm.findClass "org/latchkey/cli/ResultLineFieldPinLaw" = some m.cls := findClass_of_methodNamed Bd.named
 have hnm := (name_of_methodNamed Bd.named Bd.method).1
 have X0 : Stand p l e room_1 (s.setVm s.vm) m #[(.int i0), (.int i1), (.int i2), (.int i3), (.int i4), (.int i5)] below meth c s₁ [] 0 0 := Stand.of_body Bd
 have e0 : s₁.heap = h0 := by rw [← hh, Bd.state]; rfl
 have N0 := Fr.nil n0
 have u5 : s.Since s.vm h0.size := (State.WarmedH.refl s).since _
 have vj : h0.size ≤ h0.size := Nat.le_refl _
 have Oo := q2.1
 have zo := q2.2
 have hstr : ∀ d ∈ Bundle.stringAtoms, d.before a0 Z = true := fun d hd => hw d (own_hstr d hd)
 refine Gl.go (A := s₁.setTop (entryFrame m #[(.int i0), (.int i1), (.int i2), (.int i3), (.int i4), (.int i5)] maxLocals)) (P := fun o_ U_ => ∃ v_ L_, o_ = .returned v_ ∧ Qlawrm Z i0 i1 i2 i3 i4 i5 G1 G3 h0 n0 v_ U_.heap U_.vm L_ ∧ ReturnedEndW s o_ U_ L_ 72 3520) (fun t_ k_ => castTop (ef_lawrm m i0 i1 i2 i3 i4 i5) k_) ?_
 show Gl p.tables e below _ (s₁.setTop (mkF m 0 #[sI i0, sI i1, sI i2, sI i3, sI i4, sI i5, sU, sU, sU, sU, sU, sU, sU, sU, sU, sU, sU, sU, sU, sU, sU, sU, sU, sU, sU] []))
 have tC : ∀ (T : State) (hc : Heap) (lc : List Loc) (vmc : Vm) (kc : Nat) (W_ : List Int32) (A_ : List Int32) (T1 : List Int32) (B_ : List Int32) (T2 : List Int32) (xw : Addr) (ttw : Addr) (kkw : ClassId) (ddw : Int32) (NNw : Int32) (vvw : List Value) (xa : Addr) (tta : Addr) (kka : ClassId) (dda : Int32) (NNa : Int32) (vva : List Value) (xt : Addr) (ttt : Addr) (kkt : ClassId) (ddt : Int32) (NNt : Int32) (vvt : List Value) (xb : Addr) (ttb : Addr) (kkb : ClassId) (ddb : Int32) (NNb : Int32) (vvb : List Value) (xv : Addr) (ttv : Addr) (kkv : ClassId) (ddv : Int32) (NNv : Int32) (vvv : List Value) (xs : Addr) (tts : Addr) (kks : ClassId) (dds : Int32) (NNs : Int32) (vvs : List Value) (xz : Addr) (ttz : Addr) (kkz : ClassId) (ddz : Int32) (NNz : Int32) (vvz : List Value) (rl : Addr) (s9 : Slot) (g3 : Slot) (g4 : Slot) (g5 : Slot) (g6 : Slot) (g7 : Slot), Fr n0 lc → Stand p l e room_1 (s.setVm vmc) m #[(.int i0), (.int i1), (.int i2), (.int i3), (.int i4), (.int i5)] below meth c T lc 60 2000 → T.heap = hc → Keep h0 hc [] → s.Since vmc kc → kc ≤ hc.size → Z.Warmed39 (s.setVm vmc).vm → (s.setVm vmc).vm.findClass "org/latchkey/cli/ResultLineFieldPinLaw" = some m.cls → XSt Z hc xw → FSv Z hc xw (.ref ttw) → FSc Z hc xw (.int ddw) → Arv Z hc ttw kkw .byte NNw vvw (.int (0 : Int32)) → XSt Z hc xa → FSv Z hc xa (.ref tta) → FSc Z hc xa (.int dda) → Arv Z hc tta kka .byte NNa vva (.int (0 : Int32)) → XSt Z hc xt → FSv Z hc xt (.ref ttt) → FSc Z hc xt (.int ddt) → Arv Z hc ttt kkt .byte NNt vvt (.int (0 : Int32)) → XSt Z hc xb → FSv Z hc xb (.ref ttb) → FSc Z hc xb (.int ddb) → Arv Z hc ttb kkb .byte NNb vvb (.int (0 : Int32)) → XSt Z hc xv → FSv Z hc xv (.ref ttv) → FSc Z hc xv (.int ddv) → Arv Z hc ttv kkv .byte NNv vvv (.int (0 : Int32)) → XSt Z hc xs → FSv Z hc xs (.ref tts) → FSc Z hc xs (.int dds) → Arv Z hc tts kks .byte NNs vvs (.int (0 : Int32)) → XSt Z hc xz → FSv Z hc xz (.ref ttz) → FSc Z hc xz (.int ddz) → Arv Z hc ttz kkz .byte NNz vvz (.int (0 : Int32)) → (StrChars.Road.CodA W_ ddw NNw vvw) → (∀ c ∈ W_, Wid c) → (StrChars.Road.CodA A_ dda NNa vva) → (∀ c ∈ A_, Wid c) → (StrChars.Road.CodA T1 ddt NNt vvt) → (∀ c ∈ T1, Wid c) → (StrChars.Road.CodA B_ ddb NNb vvb) → (∀ c ∈ B_, Wid c) → (StrChars.Road.CodA T2 ddv NNv vvv) → (∀ c ∈ T2, Wid c) → (StrChars.Road.CodA ((((W_ ++ [(32 : Int32)]) ++ A_) ++ [(61 : Int32)]) ++ T1) dds NNs vvs) → (∀ c ∈ ((((W_ ++ [(32 : Int32)]) ++ A_) ++ [(61 : Int32)]) ++ T1), Wid c) → (StrChars.Road.CodA ((((((((W_ ++ [(32 : Int32)]) ++ A_) ++ [(61 : Int32)]) ++ T1) ++ [(32 : Int32)]) ++ B_) ++ [(61 : Int32)]) ++ T2) ddz NNz vvz) → (∀ c ∈ ((((((((W_ ++ [(32 : Int32)]) ++ A_) ++ [(61 : Int32)]) ++ T1) ++ [(32 : Int32)]) ++ B_) ++ [(61 : Int32)]) ++ T2), Wid c) → (W_.length ≤ 2) → (A_.length ≤ 2) → (B_.length ≤ 2) → (T1.length ≤ 4) → (T2.length ≤ 4) → Gl p.tables e below (fun o_ U_ => ∃ v_ L_, o_ = .returned v_ ∧ Qlawrm Z i0 i1 i2 i3 i4 i5 G1 G3 h0 n0 v_ U_.heap U_.vm L_ ∧ ReturnedEndW s o_ U_ L_ 72 3520) (T.setTop (mkF m 249 #[sI i0, sI i1, sI i2, sI i3, sI i4, sI i5, sR xw, sR xa, sR xb, s9, g3, g4, g5, g6, g7, sR xt, sR xv, sR rl, sR rl, sR xs, sR rl, sR xz, sI (Int32.ofNat W_.length), sI (Int32.ofNat ((((W_ ++ [(32 : Int32)]) ++ A_) ++ [(61 : Int32)]) ++ T1).length), sI (Int32.ofNat ((((((((W_ ++ [(32 : Int32)]) ++ A_) ++ [(61 : Int32)]) ++ T1) ++ [(32 : Int32)]) ++ B_) ++ [(61 : Int32)]) ++ T2).length)] [])) := by
  intro T hc lc vmc kc W_ A_ T1 B_ T2 xw ttw kkw ddw NNw vvw xa tta kka dda NNa vva xt ttt kkt ddt NNt vvt xb ttb kkb ddb NNb vvb xv ttv kkv ddv NNv vvv xs tts kks dds NNs vvs xz ttz kkz ddz NNz vvz rl s9 g3 g4 g5 g6 g7 Nc Xc ec Kc hSc hkc hZc hownc fS fT fX fY fZ f5 f6 f7 f9 ga fV fW ll lm ln lo lq lr ls lu dO d7 d8 d9 df dP dQ dR cod_xw hb_xw cod_xa hb_xa cod_xt hb_xt cod_xb hb_xb cod_xv hb_xv cod_xs hb_xs cod_xz hb_xz lW lA lB lT lU
  have zc : h0.size ≤ hc.size := Kc.1
  have B7 := own_alt fS.lt
  have B8 := own_alt fT.lt
  have B9 := own_alt fX.lt
  have Ca := own_alt fY.lt
  have Cb := own_alt fZ.lt
  have Cc := own_alt f5.lt
  have Cd := own_alt f6.lt
  have Ce := own_alt f7.lt
  have Cf := own_alt f9.lt
  have Cg := own_alt ga.lt
  have Ch := own_alt fV.lt
  have Ci := own_alt fW.lt
  have Cj := own_alt ll.lt
  have Ck := own_alt lm.lt
  have Cm := own_alt ln.lt
  have Cn := own_alt lo.lt
  have Co := own_alt lq.lt
  have Cp := own_alt lr.lt
  have Cq := own_alt ls.lt
  have Cr := own_alt lu.lt
  have Cs := own_alt dO.lt
  have Ct := own_alt d7.lt
  have Cu := own_alt d8.lt
  have Cv := own_alt d9.lt
  have Cw := own_alt df.lt
  have Cx := own_alt dP.lt
  have Cy := own_alt dQ.lt
  have Cz := own_alt dR.lt
  show Gl p.tables e below _ (T.setTop (mkF m 249 #[sI i0, sI i1, sI i2, sI i3, sI i4, sI i5, sR xw, sR xa, sR xb, s9, g3, g4, g5, g6, g7, sR xt, sR xv, sR rl, sR rl, sR xs, sR rl, sR xz, sI (Int32.ofNat W_.length), sI (Int32.ofNat ((((W_ ++ [(32 : Int32)]) ++ A_) ++ [(61 : Int32)]) ++ T1).length), sI (Int32.ofNat ((((((((W_ ++ [(32 : Int32)]) ++ A_) ++ [(61 : Int32)]) ++ T1) ++ [(32 : Int32)]) ++ B_) ++ [(61 : Int32)]) ++ T2).length)] []))
  refine Gl.go (fun _ hr => zaload Xc.here hx (dc at_249) rfl rfl (zaload Xc.here hx (dc at_251) rfl rfl hr)) ?_
  refine Gl.go (fun _ hr => zacmpNo Xc.here hx (dc at_253) rfl rfl rfl (XT.aa_ne_f rfl) (zaload Xc.here hx (dc at_256) rfl rfl (zaload Xc.here hx (dc at_258) rfl rfl hr))) ?_
  refine Gl.go (fun _ hr => zacmpNo Xc.here hx (dc at_260) rfl rfl rfl (XT.aa_ne_f rfl) (zaload Xc.here hx (dc at_263) rfl rfl hr)) ?_
  have ct := (Oo.keep Kc all0)
  have y0 : n0 ≤ hc.size := by omega
  refine gVirtualN Gl.cl (y := y_12) (z := y_12) (b := xs) (argsL := []) (rest := []) (mc := 0) (ms := 0) Xc hx hZc hownc (mvT hZc (tw hw 191 rfl)) (mvT hZc (tw hw 48 rfl)) (notFace_of_selects (args := #[]) (mvT hZc (tw hw 50 rfl))) (mvT hZc (tw hw 50 rfl)) (mvT hZc (tw hw 49 rfl)) (by decide) dO (backOf (W := 0) (slG l Z a0 hw [] xs tts kks dds NNs vvs ((((W_ ++ [(32 : Int32)]) ++ A_) ++ [(61 : Int32)]) ++ T1) G1 hc n0 y0 q0 (by assumption) ⟨ct, (by omega)⟩ dO d7 d8 d9 cod_xs hb_xs (by (try simp only [ln_]); omega)) hZc (tw hw 51 rfl) (tw hw 7 rfl) (by decide) (by decide)) rfl (by rw [hml]; rfl) (lenOf pd_15 rfl) rfl (by exact Nat.le_of_eq rfl) (dc at_265) rfl ec (by decide) (by decide) ?_
  intro Fn AW zZ ue d6
  obtain ⟨rfl, rT, tu⟩ := ue
  have qI := Fr.app Nc rT
  refine Gl.go (fun _ hr => ziload d6.here hx (dc at_268) rfl hr) ?_
  refine Gl.go (fun _ hr => zicmpNo d6.here hx (dc at_270) rfl (XT.ii_ne_f rfl) (zaload d6.here hx (dc at_273) rfl rfl hr)) ?_
  have y1 : n0 ≤ hc.size := by omega
  refine gVirtualN Gl.cl (y := y_12) (z := y_12) (b := xz) (argsL := []) (rest := []) (mc := 0) (ms := 0) d6 hx hZc hownc (mvT hZc (tw hw 191 rfl)) (mvT hZc (tw hw 48 rfl)) (notFace_of_selects (args := #[]) (mvT hZc (tw hw 50 rfl))) (mvT hZc (tw hw 50 rfl)) (mvT hZc (tw hw 49 rfl)) (by decide) df (backOf (W := 0) (slG l Z a0 hw [] xz ttz kkz ddz NNz vvz ((((((((W_ ++ [(32 : Int32)]) ++ A_) ++ [(61 : Int32)]) ++ T1) ++ [(32 : Int32)]) ++ B_) ++ [(61 : Int32)]) ++ T2) G1 hc n0 y1 q0 (by assumption) ⟨ct, (by omega)⟩ df dP dQ dR cod_xz hb_xz (by (try simp only [ln_]); omega)) hZc (tw hw 51 rfl) (tw hw 7 rfl) (by decide) (by decide)) rfl (by rw [hml]; rfl) (lenOf pd_15 rfl) rfl (by exact Nat.le_of_eq rfl) (dc at_275) rfl tu (by decide) (by decide) ?_
  intro Fo AX z0 uf cZ
  obtain ⟨rfl, rU, tx⟩ := uf
  have qJ := Fr.app qI rU
  refine Gl.go (fun _ hr => ziload cZ.here hx (dc at_278) rfl hr) ?_
  refine Gl.go (fun _ hr => zicmpNo cZ.here hx (dc at_280) rfl (XT.ii_ne_f rfl) (zaload cZ.here hx (dc at_283) rfl rfl (ziconst cZ.here hx (dc at_285) (zaload cZ.here hx (dc at_286) rfl rfl hr)))) ?_
  have y2 : n0 ≤ hc.size := by omega
  refine gStaticN Gl.cl (y := y_58) (argsL := [(.ref xs), (.int (0 : Int32)), (.ref xw)]) (rest := []) (mc := 0) (ms := 0) cZ hx hZc hownc (mvT hZc (tw hw 192 rfl)) (mvT hZc (tw hw 193 rfl)) (mvT hZc (tw hw 2 rfl)) (mvT hZc (tw hw 194 rfl)) (by decide) (backOf (W := 0) (atc l Z a0 hw [] xs tts kks dds NNs vvs ((((W_ ++ [(32 : Int32)]) ++ A_) ++ [(61 : Int32)]) ++ T1) xw ttw kkw ddw NNw vvw W_ ([] : List Int32) ((32 : Int32) :: (A_ ++ ((61 : Int32) :: T1))) G1 G3 hc n0 y2 q0 (by assumption) ⟨ct, (by omega)⟩ q3 (by assumption) q5 q6 q7 dO d7 d8 d9 cod_xs hb_xs fS fT fX fY cod_xw hb_xw (by simp) (by (try simp only [ln_]); omega) (by (try simp only [ln_]); omega)) hZc (tw hw 194 rfl) (tw hw 2 rfl) (by decide) (by decide)) rfl (by rw [hml]; rfl) (lenOf pd_39 rfl) rfl (by exact Nat.le_of_eq rfl) (dc at_288) rfl tx (by decide) (by decide) ?_
  intro Fp AY z1 ug c3
  obtain ⟨rfl, rV, tz⟩ := ug
  have qK := Fr.app qJ rV
  refine Gl.go (fun _ hr => zifNo c3.here hx (dc at_291) rfl (XT.i0_eq_f (by decide)) (zaload c3.here hx (dc at_294) rfl rfl (ziload c3.here hx (dc at_296) rfl (zaload c3.here hx (dc at_298) rfl rfl (zaload c3.here hx (dc at_300) rfl rfl hr))))) ?_
  have y3 : n0 ≤ hc.size := by omega
  refine gStaticN Gl.cl (y := y_59) (argsL := [(.ref xs), (.int (Int32.ofNat W_.length)), (.ref xa), (.ref xt)]) (rest := []) (mc := 0) (ms := 0) c3 hx hZc hownc (mvT hZc (tw hw 195 rfl)) (mvT hZc (tw hw 196 rfl)) (mvT hZc (tw hw 2 rfl)) (mvT hZc (tw hw 197 rfl)) (by decide) (backOf (W := 0) (fac l Z a0 hw [] xs tts kks dds NNs vvs ((((W_ ++ [(32 : Int32)]) ++ A_) ++ [(61 : Int32)]) ++ T1) xa tta kka dda NNa vva A_ xt ttt kkt ddt NNt vvt T1 W_ ([] : List Int32) G1 G3 hc n0 y3 q0 (by assumption) ⟨ct, (by omega)⟩ q3 (by assumption) q5 q6 q7 dO d7 d8 d9 cod_xs hb_xs fZ f5 f6 f7 cod_xa hb_xa f9 ga fV fW cod_xt hb_xt (by simp) (by (try simp only [ln_]); omega) (by (try simp only [ln_]); omega) (by (try simp only [ln_]); omega)) hZc (tw hw 197 rfl) (tw hw 2 rfl) (by decide) (by decide)) rfl (by rw [hml]; rfl) (lenOf pd_40 rfl) rfl (by exact Nat.le_of_eq rfl) (dc at_302) rfl tz (by decide) (by decide) ?_
  intro Fq AZ z3 uh dD
  obtain ⟨rfl, rW, tA⟩ := uh
  have qL := Fr.app qK rW
  refine Gl.go (fun _ hr => zifNo dD.here hx (dc at_305) rfl (XT.i0_eq_f (by decide)) (zaload dD.here hx (dc at_308) rfl rfl (ziconst dD.here hx (dc at_310) (zaload dD.here hx (dc at_311) rfl rfl hr)))) ?_
  have y4 : n0 ≤ hc.size := by omega
  refine gStaticN Gl.cl (y := y_58) (argsL := [(.ref xz), (.int (0 : Int32)), (.ref xw)]) (rest := []) (mc := 0) (ms := 0) dD hx hZc hownc (mvT hZc (tw hw 192 rfl)) (mvT hZc (tw hw 193 rfl)) (mvT hZc (tw hw 2 rfl)) (mvT hZc (tw hw 194 rfl)) (by decide) (backOf (W := 0) (atc l Z a0 hw [] xz ttz kkz ddz NNz vvz ((((((((W_ ++ [(32 : Int32)]) ++ A_) ++ [(61 : Int32)]) ++ T1) ++ [(32 : Int32)]) ++ B_) ++ [(61 : Int32)]) ++ T2) xw ttw kkw ddw NNw vvw W_ ([] : List Int32) ((32 : Int32) :: (A_ ++ ((61 : Int32) :: (T1 ++ ((32 : Int32) :: (B_ ++ ((61 : Int32) :: T2))))))) G1 G3 hc n0 y4 q0 (by assumption) ⟨ct, (by omega)⟩ q3 (by assumption) q5 q6 q7 df dP dQ dR cod_xz hb_xz fS fT fX fY cod_xw hb_xw (by simp) (by (try simp only [ln_]); omega) (by (try simp only [ln_]); omega)) hZc (tw hw 194 rfl) (tw hw 2 rfl) (by decide) (by decide)) rfl (by rw [hml]; rfl) (lenOf pd_39 rfl) rfl (by exact Nat.le_of_eq rfl) (dc at_313) rfl tA (by decide) (by decide) ?_
  intro Fs A0 z4 ui c5
  obtain ⟨rfl, rX, tB⟩ := ui
  have qM := Fr.app qL rX
  refine Gl.go (fun _ hr => zifNo c5.here hx (dc at_316) rfl (XT.i0_eq_f (by decide)) (zaload c5.here hx (dc at_319) rfl rfl (ziload c5.here hx (dc at_321) rfl (zaload c5.here hx (dc at_323) rfl rfl (zaload c5.here hx (dc at_325) rfl rfl hr))))) ?_
  have y5 : n0 ≤ hc.size := by omega
  refine gStaticN Gl.cl (y := y_59) (argsL := [(.ref xz), (.int (Int32.ofNat W_.length)), (.ref xa), (.ref xt)]) (rest := []) (mc := 0) (ms := 0) c5 hx hZc hownc (mvT hZc (tw hw 195 rfl)) (mvT hZc (tw hw 196 rfl)) (mvT hZc (tw hw 2 rfl)) (mvT hZc (tw hw 197 rfl)) (by decide) (backOf (W := 0) (fac l Z a0 hw [] xz ttz kkz ddz NNz vvz ((((((((W_ ++ [(32 : Int32)]) ++ A_) ++ [(61 : Int32)]) ++ T1) ++ [(32 : Int32)]) ++ B_) ++ [(61 : Int32)]) ++ T2) xa tta kka dda NNa vva A_ xt ttt kkt ddt NNt vvt T1 W_ ((32 : Int32) :: (B_ ++ ((61 : Int32) :: T2))) G1 G3 hc n0 y5 q0 (by assumption) ⟨ct, (by omega)⟩ q3 (by assumption) q5 q6 q7 df dP dQ dR cod_xz hb_xz fZ f5 f6 f7 cod_xa hb_xa f9 ga fV fW cod_xt hb_xt (by simp) (by (try simp only [ln_]); omega) (by (try simp only [ln_]); omega) (by (try simp only [ln_]); omega)) hZc (tw hw 197 rfl) (tw hw 2 rfl) (by decide) (by decide)) rfl (by rw [hml]; rfl) (lenOf pd_40 rfl) rfl (by exact Nat.le_of_eq rfl) (dc at_327) rfl tB (by decide) (by decide) ?_
  intro Ft A1 z6 uj c6
  obtain ⟨rfl, rY, tD⟩ := uj
  have qN := Fr.app qM rY
  refine Gl.go (fun _ hr => zifNo c6.here hx (dc at_330) rfl (XT.i0_eq_f (by decide)) (zaload c6.here hx (dc at_333) rfl rfl (ziload c6.here hx (dc at_335) rfl (zaload c6.here hx (dc at_337) rfl rfl (zaload c6.here hx (dc at_339) rfl rfl hr))))) ?_
  have y6 : n0 ≤ hc.size := by omega
  refine gStaticN Gl.cl (y := y_59) (argsL := [(.ref xz), (.int (Int32.ofNat ((((W_ ++ [(32 : Int32)]) ++ A_) ++ [(61 : Int32)]) ++ T1).length)), (.ref xb), (.ref xv)]) (rest := []) (mc := 0) (ms := 0) c6 hx hZc hownc (mvT hZc (tw hw 195 rfl)) (mvT hZc (tw hw 196 rfl)) (mvT hZc (tw hw 2 rfl)) (mvT hZc (tw hw 197 rfl)) (by decide) (backOf (W := 0) (fac l Z a0 hw [] xz ttz kkz ddz NNz vvz ((((((((W_ ++ [(32 : Int32)]) ++ A_) ++ [(61 : Int32)]) ++ T1) ++ [(32 : Int32)]) ++ B_) ++ [(61 : Int32)]) ++ T2) xb ttb kkb ddb NNb vvb B_ xv ttv kkv ddv NNv vvv T2 ((((W_ ++ [(32 : Int32)]) ++ A_) ++ [(61 : Int32)]) ++ T1) ([] : List Int32) G1 G3 hc n0 y6 q0 (by assumption) ⟨ct, (by omega)⟩ q3 (by assumption) q5 q6 q7 df dP dQ dR cod_xz hb_xz ll lm ln lo cod_xb hb_xb lq lr ls lu cod_xv hb_xv (by simp) (by (try simp only [ln_]); omega) (by (try simp only [ln_]); omega) (by (try simp only [ln_]); omega)) hZc (tw hw 197 rfl) (tw hw 2 rfl) (by decide) (by decide)) rfl (by rw [hml]; rfl) (lenOf pd_40 rfl) rfl (by exact Nat.le_of_eq rfl) (dc at_341) rfl tD (by decide) (by decide) ?_
  intro Fu ki z7 uk dE
  obtain ⟨rfl, rZ, lC⟩ := uk
  have qO := Fr.app qN rZ
  refine Gl.go (fun _ hr => zifNo dE.here hx (dc at_344) rfl (XT.i0_eq_f (by decide)) (ziconst dE.here hx (dc at_347) (zgoto dE.here hx (pc0 := 348) (pc' := 352) rfl (dc at_348) (by decide) (by decide) hr))) ?_
  obtain ⟨fs, hr, hrun, hended, hE⟩ := dE.leaveW hSc (by have q := congrArg Array.size lC; have q2 := hkc; omega) (v := some (.int (1 : Int32))) (fun h => by rw [Bd.returns] at h; cases h)
  refine ⟨_, _, retN dE hx (t := .boolean) Bd.returns (by simp) (dc at_352) hr, hrun, hended, _, _, rfl, ?_, ⟨hE.1, hE.2.1, hE.2.2.1, hE.2.2.2.mono (by decide) (by decide)⟩⟩
  show Qlawrm Z i0 i1 i2 i3 i4 i5 G1 G3 h0 n0 _ ki.heap ki.vm _
  rw [lC]
  exact ⟨rfl, qO, ((Keep.refl h0 []).trans Kc all0)⟩
 refine Gl.go (fun _ hr => ziloadN X0.here hx (dc at_0) rfl (ziload X0.here hx (dc at_1) rfl (ziconst X0.here hx (dc at_3) (ziand X0.here hx (dc at_4) rfl (ziconst X0.here hx (dc at_5) (zRW_iremM X0 hx rfl (dc at_6) rfl (by decide) hr)))))) ?_
 show Gl p.tables e below _ (s₁.setTop (mkF m 7 #[sI i0, sI i1, sI i2, sI i3, sI i4, sI i5, sU, sU, sU, sU, sU, sU, sU, sU, sU, sU, sU, sU, sU, sU, sU, sU, sU, sU, sU] [(.int ((i5 &&& (3 : Int32)) % (3 : Int32))), (.int i0)]))
 obtain ⟨nw, e_nw, h_nw⟩ := own_m3 i5
 rw [e_nw]
 show Gl p.tables e below _ (s₁.setTop (mkF m 7 #[sI i0, sI i1, sI i2, sI i3, sI i4, sI i5, sU, sU, sU, sU, sU, sU, sU, sU, sU, sU, sU, sU, sU, sU, sU, sU, sU, sU, sU] [(.int (Int32.ofNat nw)), (.int i0)]))
 have y7 : n0 ≤ h0.size := by omega
 refine gStaticJ Gl.cl (y := y_50) (argsL := [(.int i0), (.int (Int32.ofNat nw))]) (rest := []) (mc := 4) (ms := 20) (Φ := fun vm => ChJ Z vm h0) X0 hx hZ u5 (by have q := vj; omega) hown (mvT hZ (tw hw 0 rfl)) (mvT hZ (tw hw 1 rfl)) (mvT hZ (tw hw 2 rfl)) (mvT hZ (tw hw 3 rfl)) (by decide) (backOfJ (Φ := fun vm => ChJ Z vm h0) (W := 0) (strc l Z a0 hw [] i0 nw G1 h0 n0 y7 q0 (by assumption) ⟨Oo, (by omega)⟩ q5 q6 q7 (by assumption) h_nw) hZ (tw hw 3 rfl) (tw hw 2 rfl) (by decide) (by decide)) rfl (by rw [hml]; rfl) (lenOf pd_41 rfl) rfl (by exact Nat.le_of_eq rfl) (dc at_7) rfl e0 (fun vm₁ hvm => hphi_ch.warm hvm) (by decide) (by decide) ?_
 intro Fv bX z8 ul b3 u6 dg vz vk
 obtain ⟨ac, aE, bN, bK, bH, bT, rfl, r6, cN, dS, dT, dU, dV, Bi, bQ, yg⟩ := ul
 have Gg : h0.size ≤ bX.heap.size := cN.1
 have qP := Fr.app N0 r6
 have CA := own_alt dS.lt
 have CB := own_alt dT.lt
 have CC := own_alt dU.lt
 have CD := own_alt dV.lt
 have B2 := sx_len i0 nw
 refine Gl.go (fun _ hr => zastore b3.here hx (dc at_10) rfl rfl (l' := #[sI i0, sI i1, sI i2, sI i3, sI i4, sI i5, sR ac, sU, sU, sU, sU, sU, sU, sU, sU, sU, sU, sU, sU, sU, sU, sU, sU, sU, sU]) rfl (ziloadN b3.here hx (dc at_12) rfl (ziload b3.here hx (dc at_13) rfl (ziconst b3.here hx (dc at_15) (ziushr b3.here hx (dc at_16) rfl (ziconst b3.here hx (dc at_17) (ziand b3.here hx (dc at_18) rfl (ziconst b3.here hx (dc at_19) (zRW_iremM b3 hx rfl (dc at_20) rfl (by decide) hr))))))))) ?_
 show Gl p.tables e below _ (bX.setTop (mkF m 21 #[sI i0, sI i1, sI i2, sI i3, sI i4, sI i5, sR ac, sU, sU, sU, sU, sU, sU, sU, sU, sU, sU, sU, sU, sU, sU, sU, sU, sU, sU] [(.int (((XT.ushr i5 (2 : Int32)) &&& (3 : Int32)) % (3 : Int32))), (.int i1)]))
 obtain ⟨na, e_na, h_na⟩ := own_m3 (XT.ushr i5 (2 : Int32))
 rw [e_na]
 show Gl p.tables e below _ (bX.setTop (mkF m 21 #[sI i0, sI i1, sI i2, sI i3, sI i4, sI i5, sR ac, sU, sU, sU, sU, sU, sU, sU, sU, sU, sU, sU, sU, sU, sU, sU, sU, sU, sU] [(.int (Int32.ofNat na)), (.int i1)]))
 have jR := (Oo.keep cN all0)
 have y8 : n0 ≤ bX.heap.size := by omega
 refine gStaticJ Gl.cl (y := y_50) (argsL := [(.int i1), (.int (Int32.ofNat na))]) (rest := []) (mc := 4) (ms := 20) (Φ := fun vm => ChJ Z vm bX.heap) b3 hx dg u6 (by have q := vk; omega) vz (mvT dg (tw hw 0 rfl)) (mvT dg (tw hw 1 rfl)) (mvT dg (tw hw 2 rfl)) (mvT dg (tw hw 3 rfl)) (by decide) (backOfJ (Φ := fun vm => ChJ Z vm bX.heap) (W := 0) (strc l Z a0 hw [] i1 na G1 bX.heap n0 y8 q0 (by assumption) ⟨jR, (by omega)⟩ q5 q6 q7 (by assumption) h_na) dg (tw hw 3 rfl) (tw hw 2 rfl) (by decide) (by decide)) rfl (by rw [hml]; rfl) (lenOf pd_41 rfl) rfl (by exact Nat.le_of_eq rfl) (dc at_21) rfl (rfl : bX.heap = bX.heap) (fun vm₁ hvm => yg.warm hvm) (by decide) (by decide) ?_
 intro Fw bY z9 um b4 u7 dh vA vl
 obtain ⟨ae, aF, bO, bL, bI, bU, rfl, r7, a5, dW, dX, dY, dZ, Bj, bR, yh⟩ := um
 have Gh : bX.heap.size ≤ bY.heap.size := a5.1
 have qQ := Fr.app qP r7
 have CE := own_alt dW.lt
 have CF := own_alt dX.lt
 have CG := own_alt dY.lt
 have CH := own_alt dZ.lt
 have B3 := sx_len i1 na
 refine Gl.go (fun _ hr => zastore b4.here hx (dc at_24) rfl rfl (l' := #[sI i0, sI i1, sI i2, sI i3, sI i4, sI i5, sR ac, sR ae, sU, sU, sU, sU, sU, sU, sU, sU, sU, sU, sU, sU, sU, sU, sU, sU, sU]) rfl (ziloadN b4.here hx (dc at_26) rfl (ziload b4.here hx (dc at_27) rfl (ziconst b4.here hx (dc at_29) (ziushr b4.here hx (dc at_30) rfl (ziconst b4.here hx (dc at_31) (ziand b4.here hx (dc at_32) rfl (ziconst b4.here hx (dc at_33) (zRW_iremM b4 hx rfl (dc at_34) rfl (by decide) hr))))))))) ?_
 show Gl p.tables e below _ (bY.setTop (mkF m 35 #[sI i0, sI i1, sI i2, sI i3, sI i4, sI i5, sR ac, sR ae, sU, sU, sU, sU, sU, sU, sU, sU, sU, sU, sU, sU, sU, sU, sU, sU, sU] [(.int (((XT.ushr i5 (4 : Int32)) &&& (3 : Int32)) % (3 : Int32))), (.int i3)]))
 obtain ⟨nb, e_nb, h_nb⟩ := own_m3 (XT.ushr i5 (4 : Int32))
 rw [e_nb]
 show Gl p.tables e below _ (bY.setTop (mkF m 35 #[sI i0, sI i1, sI i2, sI i3, sI i4, sI i5, sR ac, sR ae, sU, sU, sU, sU, sU, sU, sU, sU, sU, sU, sU, sU, sU, sU, sU, sU, sU] [(.int (Int32.ofNat nb)), (.int i3)]))
 have jS := (jR.keep a5 all0)
 have y9 : n0 ≤ bY.heap.size := by omega
 refine gStaticJ Gl.cl (y := y_50) (argsL := [(.int i3), (.int (Int32.ofNat nb))]) (rest := []) (mc := 4) (ms := 20) (Φ := fun vm => ChJ Z vm bY.heap) b4 hx dh u7 (by have q := vl; omega) vA (mvT dh (tw hw 0 rfl)) (mvT dh (tw hw 1 rfl)) (mvT dh (tw hw 2 rfl)) (mvT dh (tw hw 3 rfl)) (by decide) (backOfJ (Φ := fun vm => ChJ Z vm bY.heap) (W := 0) (strc l Z a0 hw [] i3 nb G1 bY.heap n0 y9 q0 (by assumption) ⟨jS, (by omega)⟩ q5 q6 q7 (by assumption) h_nb) dh (tw hw 3 rfl) (tw hw 2 rfl) (by decide) (by decide)) rfl (by rw [hml]; rfl) (lenOf pd_41 rfl) rfl (by exact Nat.le_of_eq rfl) (dc at_35) rfl (rfl : bY.heap = bY.heap) (fun vm₁ hvm => yh.warm hvm) (by decide) (by decide) ?_
 intro Fy bZ Aa un b5 u8 di vB vn
 obtain ⟨af, aG, bP, bM, bJ, bV, rfl, r8, au, d0, d1, d2, d3, Bk, bS, yi⟩ := un
 have Gi : bY.heap.size ≤ bZ.heap.size := au.1
 have qR := Fr.app qQ r8
 have CJ := own_alt d0.lt
 have CK := own_alt d1.lt
 have CL := own_alt d2.lt
 have CM := own_alt d3.lt
 have B4 := sx_len i3 nb
 refine Gl.go (fun _ hr => zastore b5.here hx (dc at_38) rfl rfl (l' := #[sI i0, sI i1, sI i2, sI i3, sI i4, sI i5, sR ac, sR ae, sR af, sU, sU, sU, sU, sU, sU, sU, sU, sU, sU, sU, sU, sU, sU, sU, sU]) rfl (ziloadN b5.here hx (dc at_40) rfl (ziload b5.here hx (dc at_41) rfl (zbipush b5.here hx (dc at_43) (ziushr b5.here hx (dc at_45) rfl (ziconst b5.here hx (dc at_46) (ziand b5.here hx (dc at_47) rfl (ziconst b5.here hx (dc at_48) (zRW_iremM b5 hx rfl (dc at_49) rfl (by decide) hr))))))))) ?_
 show Gl p.tables e below _ (bZ.setTop (mkF m 50 #[sI i0, sI i1, sI i2, sI i3, sI i4, sI i5, sR ac, sR ae, sR af, sU, sU, sU, sU, sU, sU, sU, sU, sU, sU, sU, sU, sU, sU, sU, sU] [(.int (((XT.ushr i5 (6 : Int32)) &&& (3 : Int32)) % (3 : Int32))), (.int i2)]))
 obtain ⟨nva, e_nva, h_nva⟩ := own_m3 (XT.ushr i5 (6 : Int32))
 rw [e_nva]
 show Gl p.tables e below _ (bZ.setTop (mkF m 50 #[sI i0, sI i1, sI i2, sI i3, sI i4, sI i5, sR ac, sR ae, sR af, sU, sU, sU, sU, sU, sU, sU, sU, sU, sU, sU, sU, sU, sU, sU, sU] [(.int (Int32.ofNat nva)), (.int i2)]))
 have jT := (jS.keep au all0)
 have za : n0 ≤ bZ.heap.size := by omega
 refine gStaticJ Gl.cl (y := y_50) (argsL := [(.int i2), (.int (Int32.ofNat nva))]) (rest := []) (mc := 4) (ms := 20) (Φ := fun vm => ChJ Z vm bZ.heap) b5 hx di u8 (by have q := vn; omega) vB (mvT di (tw hw 0 rfl)) (mvT di (tw hw 1 rfl)) (mvT di (tw hw 2 rfl)) (mvT di (tw hw 3 rfl)) (by decide) (backOfJ (Φ := fun vm => ChJ Z vm bZ.heap) (W := 0) (strc l Z a0 hw [] i2 nva G1 bZ.heap n0 za q0 (by assumption) ⟨jT, (by omega)⟩ q5 q6 q7 (by assumption) h_nva) di (tw hw 3 rfl) (tw hw 2 rfl) (by decide) (by decide)) rfl (by rw [hml]; rfl) (lenOf pd_41 rfl) rfl (by exact Nat.le_of_eq rfl) (dc at_50) rfl (rfl : bZ.heap = bZ.heap) (fun vm₁ hvm => yi.warm hvm) (by decide) (by decide) ?_
 intro Fz b0 Ab uo b6 u9 dj vC vo
 obtain ⟨aa, bC, dk, db, cO, dw, rfl, r9, ap, gb, gc, gd, gf, Bl, dm, yj⟩ := uo
 have Gj : bZ.heap.size ≤ b0.heap.size := ap.1
 have qS := Fr.app qR r9
 have CN := own_alt gb.lt
 have CO := own_alt gc.lt
 have CP := own_alt gd.lt
 have CQ := own_alt gf.lt
 have B5 := sx_len i2 nva
 refine Gl.go (fun _ hr => zastore b6.here hx (dc at_53) rfl rfl (l' := #[sI i0, sI i1, sI i2, sI i3, sI i4, sI i5, sR ac, sR ae, sR af, sR aa, sU, sU, sU, sU, sU, sU, sU, sU, sU, sU, sU, sU, sU, sU, sU]) rfl (ziload b6.here hx (dc at_55) rfl (ziload b6.here hx (dc at_57) rfl (zbipush b6.here hx (dc at_59) (ziushr b6.here hx (dc at_61) rfl (ziconst b6.here hx (dc at_62) (ziand b6.here hx (dc at_63) rfl (ziconst b6.here hx (dc at_64) (zRW_iremM b6 hx rfl (dc at_65) rfl (by decide) hr))))))))) ?_
 show Gl p.tables e below _ (b0.setTop (mkF m 66 #[sI i0, sI i1, sI i2, sI i3, sI i4, sI i5, sR ac, sR ae, sR af, sR aa, sU, sU, sU, sU, sU, sU, sU, sU, sU, sU, sU, sU, sU, sU, sU] [(.int (((XT.ushr i5 (8 : Int32)) &&& (3 : Int32)) % (3 : Int32))), (.int i4)]))
 obtain ⟨nvb, e_nvb, h_nvb⟩ := own_m3 (XT.ushr i5 (8 : Int32))
 rw [e_nvb]
 show Gl p.tables e below _ (b0.setTop (mkF m 66 #[sI i0, sI i1, sI i2, sI i3, sI i4, sI i5, sR ac, sR ae, sR af, sR aa, sU, sU, sU, sU, sU, sU, sU, sU, sU, sU, sU, sU, sU, sU, sU] [(.int (Int32.ofNat nvb)), (.int i4)]))
 have dy := (jT.keep ap all0)
 have zb : n0 ≤ b0.heap.size := by omega
 refine gStaticJ Gl.cl (y := y_50) (argsL := [(.int i4), (.int (Int32.ofNat nvb))]) (rest := []) (mc := 4) (ms := 20) (Φ := fun vm => ChJ Z vm b0.heap) b6 hx dj u9 (by have q := vo; omega) vC (mvT dj (tw hw 0 rfl)) (mvT dj (tw hw 1 rfl)) (mvT dj (tw hw 2 rfl)) (mvT dj (tw hw 3 rfl)) (by decide) (backOfJ (Φ := fun vm => ChJ Z vm b0.heap) (W := 0) (strc l Z a0 hw [] i4 nvb G1 b0.heap n0 zb q0 (by assumption) ⟨dy, (by omega)⟩ q5 q6 q7 (by assumption) h_nvb) dj (tw hw 3 rfl) (tw hw 2 rfl) (by decide) (by decide)) rfl (by rw [hml]; rfl) (lenOf pd_41 rfl) rfl (by exact Nat.le_of_eq rfl) (dc at_66) rfl (rfl : b0.heap = b0.heap) (fun vm₁ hvm => yj.warm hvm) (by decide) (by decide) ?_
 intro FA bp Ac up ag ef ah bo eg
 obtain ⟨ab, bD, dl, de, cP, dx, rfl, sb, ai, gg, gh, gi, gj, Bm, dn, g2⟩ := up
 have Gk : b0.heap.size ≤ bp.heap.size := ai.1
 have d5 := Fr.app qS sb
 have CR := own_alt gg.lt
 have CS := own_alt gh.lt
 have CT := own_alt gi.lt
 have CU := own_alt gj.lt
 have B6 := sx_len i4 nvb
 refine Gl.go (fun _ hr => zastore ag.here hx (dc at_69) rfl rfl (l' := #[sI i0, sI i1, sI i2, sI i3, sI i4, sI i5, sR ac, sR ae, sR af, sR aa, sR ab, sU, sU, sU, sU, sU, sU, sU, sU, sU, sU, sU, sU, sU, sU]) rfl (ziload ag.here hx (dc at_71) rfl (zbipush ag.here hx (dc at_73) (ziushr ag.here hx (dc at_75) rfl (ziconst ag.here hx (dc at_76) (ziand ag.here hx (dc at_77) rfl hr)))))) ?_
 by_cases nv : ((XT.ushr i5 (10 : Int32)) &&& (1 : Int32)) = (0 : Int32)
 ·refine Gl.go (fun _ hr => zifYes ag.here hx (pc0 := 78) (pc' := 85) rfl (dc at_78) rfl (XT.i0_eq_t nv) (by decide) (by decide) (ziconst ag.here hx (dc at_85) (zistore ag.here hx (dc at_86) rfl (l' := #[sI i0, sI i1, sI i2, sI i3, sI i4, sI i5, sR ac, sR ae, sR af, sR aa, sR ab, sI 0, sU, sU, sU, sU, sU, sU, sU, sU, sU, sU, sU, sU, sU]) rfl (ziload ag.here hx (dc at_88) rfl (zbipush ag.here hx (dc at_90) (ziushr ag.here hx (dc at_92) rfl (ziconst ag.here hx (dc at_93) (ziand ag.here hx (dc at_94) rfl hr)))))))) ?_
  by_cases nx : ((XT.ushr i5 (11 : Int32)) &&& (1 : Int32)) = (0 : Int32)
  ·refine Gl.go (fun _ hr => zifYes ag.here hx (pc0 := 95) (pc' := 102) rfl (dc at_95) rfl (XT.i0_eq_t nx) (by decide) (by decide) (ziconst ag.here hx (dc at_102) (zistore ag.here hx (dc at_103) rfl (l' := #[sI i0, sI i1, sI i2, sI i3, sI i4, sI i5, sR ac, sR ae, sR af, sR aa, sR ab, sI 0, sI 0, sU, sU, sU, sU, sU, sU, sU, sU, sU, sU, sU, sU]) rfl (ziload ag.here hx (dc at_105) rfl (zifYes ag.here hx (pc0 := 107) (pc' := 114) rfl (dc at_107) rfl (XT.i0_eq_t (by decide)) (by decide) (by decide) (zaload ag.here hx (dc at_114) rfl rfl (zastore ag.here hx (dc at_116) rfl rfl (l' := #[sI i0, sI i1, sI i2, sI i3, sI i4, sI i5, sR ac, sR ae, sR af, sR aa, sR ab, sI 0, sI 0, sR aa, sU, sU, sU, sU, sU, sU, sU, sU, sU, sU, sU]) rfl (ziload ag.here hx (dc at_118) rfl (zifYes ag.here hx (pc0 := 120) (pc' := 127) rfl (dc at_120) rfl (XT.i0_eq_t (by decide)) (by decide) (by decide) (zaload ag.here hx (dc at_127) rfl rfl hr)))))))))) ?_
   refine Gl.go (fun _ hr => zastore ag.here hx (dc at_129) rfl rfl (l' := #[sI i0, sI i1, sI i2, sI i3, sI i4, sI i5, sR ac, sR ae, sR af, sR aa, sR ab, sI 0, sI 0, sR aa, sR ab, sU, sU, sU, sU, sU, sU, sU, sU, sU, sU]) rfl (ziload ag.here hx (dc at_131) rfl (zifYes ag.here hx (pc0 := 133) (pc' := 141) rfl (dc at_133) rfl (XT.i0_eq_t (by decide)) (by decide) (by decide) (zaload ag.here hx (dc at_141) rfl rfl (zastore ag.here hx (dc at_143) rfl rfl (l' := #[sI i0, sI i1, sI i2, sI i3, sI i4, sI i5, sR ac, sR ae, sR af, sR aa, sR ab, sI 0, sI 0, sR aa, sR ab, sR aa, sU, sU, sU, sU, sU, sU, sU, sU, sU]) rfl (ziload ag.here hx (dc at_145) rfl (zifYes ag.here hx (pc0 := 147) (pc' := 155) rfl (dc at_147) rfl (XT.i0_eq_t (by decide)) (by decide) (by decide) (zaload ag.here hx (dc at_155) rfl rfl (zastore ag.here hx (dc at_157) rfl rfl (l' := #[sI i0, sI i1, sI i2, sI i3, sI i4, sI i5, sR ac, sR ae, sR af, sR aa, sR ab, sI 0, sI 0, sR aa, sR ab, sR aa, sR ab, sU, sU, sU, sU, sU, sU, sU, sU]) rfl hr))))))))) ?_
   have l_nul : nul4.length = 4 := rfl
   refine gNew Gl.cl ag hx ah bo (tw hw 27 rfl) (tw hw 28 rfl) (tw hw 29 rfl) (rfl : bp.heap = bp.heap) rfl (dc at_159) (by decide) (by decide) ?_
   intro A2 cG aj BM fm tE aX hC pY
   have Gm : bp.heap.size ≤ cG.size := aX.1
   have CV := own_alt hC.lt
   have qc : Fld Z cG aj "org/latchkey/cli/ResultLine" "text" "Ljava/lang/StringBuilder;" .null := pY (Or.inr (tw hw 106 rfl)) (ty := (.object "java/lang/StringBuilder")) (by decide)
   refine Gl.go (fun _ hr => zdup fm.here hx (dc at_162) rfl rfl (zaload fm.here hx (dc at_163) rfl rfl hr)) ?_
   have jU := ((dy.keep ai all0).ext aX)
   have hJ := (((((dS.keep a5).keep au).keep ap).keep ai).ext aX)
   have iq := (((((dT.keep a5 nin0).keep au nin0).keep ap nin0).keep ai nin0).ext aX)
   have ir := (((((dU.keep a5 nin0).keep au nin0).keep ap nin0).keep ai nin0).ext aX)
   have kt := (((((dV.keep a5 nin0).keep au nin0).keep ap nin0).keep ai nin0).ext aX)
   have zd : n0 ≤ cG.size := by omega
   refine gSpecialN Gl.cl (y := y_51) (b := aj) (argsL := [(.ref ac)]) (rest := [(.ref aj)]) (mc := 3) (ms := 80) fm hx ah bo rfl (mvT ah (tw hw 30 rfl)) (mvT ah (tw hw 31 rfl)) (mvT ah (tw hw 32 rfl)) (by decide) (backOf (W := 1) (rli l Z a0 hw [] aj ac aE bN bK bH bT (sx i0 nw) G1 G3 cG n0 zd q0 (by assumption) ⟨jU, (by omega)⟩ q3 (by assumption) q5 q6 q7 (by omega) hC qc hJ iq ir kt bQ (sx_wid _ _) (by (try simp only [ln_]); omega)) ah (tw hw 32 rfl) (tw hw 29 rfl) (by decide) (by decide)) rfl (by rw [hml]; rfl) (lenOf pd_22 rfl) rfl (by exact Nat.le_of_eq rfl) (dc at_165) rfl tE (by decide) (by decide) ?_
   intro FB cQ Ad uq dF
   obtain ⟨bf, bu, vE, ta, yS, yK, rfl, sc, aY, ea, gk, lD, lE, lF, lG, lH, lI, lJ, t6, Bn, Bo⟩ := uq
   have Gn : cG.size ≤ cQ.heap.size := aY.1
   have qT := Fr.app d5 sc
   have CW := own_alt ea.lt
   have CX := own_alt gk.lt
   have CY := own_alt lD.lt
   have CZ := own_alt lE.lt
   have C0 := own_alt lF.lt
   have C1 := own_alt lG.lt
   have C2 := own_alt lH.lt
   have C3 := own_alt lI.lt
   have C4 := own_alt lJ.lt
   refine Gl.go (fun _ hr => zastore dF.here hx (dc at_168) rfl rfl (l' := #[sI i0, sI i1, sI i2, sI i3, sI i4, sI i5, sR ac, sR ae, sR af, sR aa, sR ab, sI 0, sI 0, sR aa, sR ab, sR aa, sR ab, sR aj, sU, sU, sU, sU, sU, sU, sU]) rfl (zaload dF.here hx (dc at_170) rfl rfl (zaload dF.here hx (dc at_172) rfl rfl (zaload dF.here hx (dc at_174) rfl rfl hr)))) ?_
   have vU : Lq Z.heap.size aj := by omega
   have jV := (jU.keep aY (allS (own_ale vU) all0))
   have hL := (((((dW.keep au).keep ap).keep ai).ext aX).keep aY)
   have nZ : Nq ae aj := by omega
   have iu := (((((dX.keep au nin0).keep ap nin0).keep ai nin0).ext aX).keep aY (ninS (own_ane nZ) nin0))
   have iw := (((((dY.keep au nin0).keep ap nin0).keep ai nin0).ext aX).keep aY (ninS (own_ane nZ) nin0))
   have vV : Nq aF aj := by omega
   have ku := (((((dZ.keep au nin0).keep ap nin0).keep ai nin0).ext aX).keep aY (ninS (own_ane vV) nin0))
   have hN := (((gb.keep ai).ext aX).keep aY)
   have n1 : Nq aa aj := by omega
   have ix := (((gc.keep ai nin0).ext aX).keep aY (ninS (own_ane n1) nin0))
   have iy := (((gd.keep ai nin0).ext aX).keep aY (ninS (own_ane n1) nin0))
   have vW : Nq bC aj := by omega
   have kw := (((gf.keep ai nin0).ext aX).keep aY (ninS (own_ane vW) nin0))
   have ze : n0 ≤ cQ.heap.size := by omega
   refine gVirtualN Gl.cl (y := y_56) (z := y_56) (b := aj) (argsL := [(.ref ae), (.ref aa)]) (rest := []) (mc := 2) (ms := 72) dF hx ah bo (mvT ah (tw hw 107 rfl)) (mvT ah (tw hw 108 rfl)) (notFace_of_selects (args := #[]) (mvT ah (tw hw 110 rfl))) (mvT ah (tw hw 110 rfl)) (mvT ah (tw hw 109 rfl)) (by decide) ea (backOf (W := 0) (fls l Z a0 hw [] aj bf bu vE ((sx i0 nw).length + 16) (sx i0 nw) ta yS yK ae aF bO bL bI bU (sx i1 na) aa bC dk db cO dw (sx i2 nva) G1 G3 cQ.heap n0 ze q0 (by assumption) ⟨jV, (by omega)⟩ q3 (by assumption) q5 q6 q7 ea gk lD lE lF lG lH lI lJ t6 (by omega) (by omega) (by omega) (by (try simp only [ln_]); omega) hL iu iw ku bR (sx_wid _ _) (by omega) (by omega) (by omega) (by omega) hN ix iy kw dm (sx_wid _ _) (by omega) (by omega) (by omega) (by omega) (by (try simp only [ln_]); omega) (by (try simp only [ln_]); omega)) ah (tw hw 111 rfl) (tw hw 29 rfl) (by decide) (by decide)) rfl (by rw [hml]; rfl) (lenOf pd_42 rfl) rfl (by exact Nat.le_of_eq rfl) (dc at_176) rfl (rfl : cQ.heap = cQ.heap) (by decide) (by decide) ?_
   intro FC cR Ae ur fn
   obtain ⟨bg, nB, lh, pQ, pM, rfl, se, aM, gl, gm, gn, gp, gq, gs, gu, lK, lL, Bp⟩ := ur
   have Go : cQ.heap.size ≤ cR.heap.size := aM.1
   have qU := Fr.app qT se
   have C5 := own_alt gl.lt
   have C6 := own_alt gm.lt
   have C7 := own_alt gn.lt
   have C8 := own_alt gp.lt
   have C9 := own_alt gq.lt
   have Da := own_alt gs.lt
   have Db := own_alt gu.lt
   have BQ : Lq cG.size bg := by rcases lL with q | q <;> omega
   clear lL
   refine Gl.go (fun _ hr => zastore fn.here hx (dc at_179) rfl rfl (l' := #[sI i0, sI i1, sI i2, sI i3, sI i4, sI i5, sR ac, sR ae, sR af, sR aa, sR ab, sI 0, sI 0, sR aa, sR ab, sR aa, sR ab, sR aj, sR aj, sU, sU, sU, sU, sU, sU]) rfl (zaload fn.here hx (dc at_181) rfl rfl hr)) ?_
   have n4 : Lq Z.heap.size bf := by omega
   have vX : Lq Z.heap.size bu := by omega
   have jW := (jV.keep aM (allS (own_ale n4) (allS (own_ale vX) all0)))
   have eD := (ea.keep aM)
   have n5 : Nq aj bf := by omega
   have vY : Nq aj bu := by omega
   have iz := (gk.keep aM (ninS (own_ane n5) (ninS (own_ane vY) nin0)))
   have zf : n0 ≤ cR.heap.size := by omega
   refine gVirtualN Gl.cl (y := y_57) (z := y_57) (b := aj) (argsL := []) (rest := []) (mc := 2) (ms := 40) fn hx ah bo (mvT ah (tw hw 145 rfl)) (mvT ah (tw hw 146 rfl)) (notFace_of_selects (args := #[]) (mvT ah (tw hw 148 rfl))) (mvT ah (tw hw 148 rfl)) (mvT ah (tw hw 147 rfl)) (by decide) eD (backOf (W := 0) (rts l Z a0 hw [] aj bf bg nB ((sx i0 nw).length + 16) (((((sx i0 nw) ++ [(32 : Int32)]) ++ (sx i1 na)) ++ [(61 : Int32)]) ++ (sx i2 nva)) lh pQ pM G1 cR.heap n0 zf q0 (by assumption) ⟨jW, (by omega)⟩ eD iz gl gm gn gp gq gs gu lK (by (try simp only [ln_]); omega) (by (try simp only [ln_]); omega)) ah (tw hw 149 rfl) (tw hw 29 rfl) (by decide) (by decide)) rfl (by rw [hml]; rfl) (lenOf pd_34 rfl) rfl (by exact Nat.le_of_eq rfl) (dc at_183) rfl (rfl : cR.heap = cR.heap) (by decide) (by decide) ?_
   intro FD cT Af ut dG
   obtain ⟨bB, g8, vM, tj, rL, yC, rfl, sf, ax, lM, lN, lO, lP, Bq, x8⟩ := ut
   have Gp : cR.heap.size ≤ cT.heap.size := ax.1
   have qV := Fr.app qU sf
   have Dc := own_alt lM.lt
   have Dd := own_alt lN.lt
   have De := own_alt lO.lt
   have Df := own_alt lP.lt
   refine Gl.go (fun _ hr => zastore dG.here hx (dc at_186) rfl rfl (l' := #[sI i0, sI i1, sI i2, sI i3, sI i4, sI i5, sR ac, sR ae, sR af, sR aa, sR ab, sI 0, sI 0, sR aa, sR ab, sR aa, sR ab, sR aj, sR aj, sR bB, sU, sU, sU, sU, sU]) rfl (zaload dG.here hx (dc at_188) rfl rfl (zaload dG.here hx (dc at_190) rfl rfl (zaload dG.here hx (dc at_192) rfl rfl hr)))) ?_
   have jX := (jW.keep ax all0)
   have eE := (eD.keep ax)
   have iA := (iz.keep ax nin0)
   have p2 := (gl.keep ax)
   have qg := (gm.keep ax nin0)
   have qh := (gn.keep ax nin0)
   have qi := (gp.keep ax nin0)
   have qj := (gq.keep ax nin0)
   have p3 := (gs.keep ax)
   have sY := (gu.keep ax nin0)
   have hO := ((((((d0.keep ap).keep ai).ext aX).keep aY).keep aM).keep ax)
   have n6 : Nq af aj := by omega
   have eh : Nq af bf := by omega
   have n7 : Nq af bu := by omega
   have iB := ((((((d1.keep ap nin0).keep ai nin0).ext aX).keep aY (ninS (own_ane n6) nin0)).keep aM (ninS (own_ane eh) (ninS (own_ane n7) nin0))).keep ax nin0)
   have iC := ((((((d2.keep ap nin0).keep ai nin0).ext aX).keep aY (ninS (own_ane n6) nin0)).keep aM (ninS (own_ane eh) (ninS (own_ane n7) nin0))).keep ax nin0)
   have vZ : Nq aG aj := by omega
   have n8 : Nq aG bf := by omega
   have v0 : Nq aG bu := by omega
   have kx := ((((((d3.keep ap nin0).keep ai nin0).ext aX).keep aY (ninS (own_ane vZ) nin0)).keep aM (ninS (own_ane n8) (ninS (own_ane v0) nin0))).keep ax nin0)
   have hR := ((((gg.ext aX).keep aY).keep aM).keep ax)
   have n9 : Nq ab aj := by omega
   have ei : Nq ab bf := by omega
   have oa : Nq ab bu := by omega
   have iD := ((((gh.ext aX).keep aY (ninS (own_ane n9) nin0)).keep aM (ninS (own_ane ei) (ninS (own_ane oa) nin0))).keep ax nin0)
   have iE := ((((gi.ext aX).keep aY (ninS (own_ane n9) nin0)).keep aM (ninS (own_ane ei) (ninS (own_ane oa) nin0))).keep ax nin0)
   have v3 : Nq bD aj := by omega
   have ob : Nq bD bf := by omega
   have v4 : Nq bD bu := by omega
   have ky := ((((gj.ext aX).keep aY (ninS (own_ane v3) nin0)).keep aM (ninS (own_ane ob) (ninS (own_ane v4) nin0))).keep ax nin0)
   have zg : n0 ≤ cT.heap.size := by omega
   refine gVirtualN Gl.cl (y := y_56) (z := y_56) (b := aj) (argsL := [(.ref af), (.ref ab)]) (rest := []) (mc := 2) (ms := 72) dG hx ah bo (mvT ah (tw hw 107 rfl)) (mvT ah (tw hw 108 rfl)) (notFace_of_selects (args := #[]) (mvT ah (tw hw 110 rfl))) (mvT ah (tw hw 110 rfl)) (mvT ah (tw hw 109 rfl)) (by decide) eE (backOf (W := 0) (fls l Z a0 hw [] aj bf bg nB ((sx i0 nw).length + 16) (((((sx i0 nw) ++ [(32 : Int32)]) ++ (sx i1 na)) ++ [(61 : Int32)]) ++ (sx i2 nva)) lh pQ pM af aG bP bM bJ bV (sx i3 nb) ab bD dl de cP dx (sx i4 nvb) G1 G3 cT.heap n0 zg q0 (by assumption) ⟨jX, (by omega)⟩ q3 (by assumption) q5 q6 q7 eE iA p2 qg qh qi qj p3 sY lK (by omega) (by omega) (by omega) (by (try simp only [ln_]); omega) hO iB iC kx bS (sx_wid _ _) (by omega) (by omega) (by omega) (by omega) hR iD iE ky dn (sx_wid _ _) (by omega) (by omega) (by omega) (by omega) (by (try simp only [ln_]); omega) (by (try simp only [ln_]); omega)) ah (tw hw 111 rfl) (tw hw 29 rfl) (by decide) (by decide)) rfl (by rw [hml]; rfl) (lenOf pd_42 rfl) rfl (by exact Nat.le_of_eq rfl) (dc at_194) rfl (rfl : cT.heap = cT.heap) (by decide) (by decide) ?_
   intro FE cU Ag uu fo
   obtain ⟨la, vF, tc, yT, yL, rfl, sg, az, lQ, lR, lS, lV, lX, lY, lZ, t7, l0, Br⟩ := uu
   have Gq : cT.heap.size ≤ cU.heap.size := az.1
   have qW := Fr.app qV sg
   have Dg := own_alt lQ.lt
   have Dh := own_alt lR.lt
   have Di := own_alt lS.lt
   have Dj := own_alt lV.lt
   have Dk := own_alt lX.lt
   have Dl := own_alt lY.lt
   have Dm := own_alt lZ.lt
   have BR : Lq cG.size la := by rcases l0 with q | q <;> omega
   clear l0
   refine Gl.go (fun _ hr => zastore fo.here hx (dc at_197) rfl rfl (l' := #[sI i0, sI i1, sI i2, sI i3, sI i4, sI i5, sR ac, sR ae, sR af, sR aa, sR ab, sI 0, sI 0, sR aa, sR ab, sR aa, sR ab, sR aj, sR aj, sR bB, sR aj, sU, sU, sU, sU]) rfl (zaload fo.here hx (dc at_199) rfl rfl hr)) ?_
   have v5 : Lq Z.heap.size bg := by omega
   have jY := (jX.keep az (allS (own_ale n4) (allS (own_ale v5) all0)))
   have hT := (eE.keep az)
   have v6 : Nq aj bg := by omega
   have qk := (iA.keep az (ninS (own_ane n5) (ninS (own_ane v6) nin0)))
   have zh : n0 ≤ cU.heap.size := by omega
   refine gVirtualN Gl.cl (y := y_57) (z := y_57) (b := aj) (argsL := []) (rest := []) (mc := 2) (ms := 40) fo hx ah bo (mvT ah (tw hw 145 rfl)) (mvT ah (tw hw 146 rfl)) (notFace_of_selects (args := #[]) (mvT ah (tw hw 148 rfl))) (mvT ah (tw hw 148 rfl)) (mvT ah (tw hw 147 rfl)) (by decide) hT (backOf (W := 0) (rts l Z a0 hw [] aj bf la vF ((sx i0 nw).length + 16) (((((((((sx i0 nw) ++ [(32 : Int32)]) ++ (sx i1 na)) ++ [(61 : Int32)]) ++ (sx i2 nva)) ++ [(32 : Int32)]) ++ (sx i3 nb)) ++ [(61 : Int32)]) ++ (sx i4 nvb)) tc yT yL G1 cU.heap n0 zh q0 (by assumption) ⟨jY, (by omega)⟩ hT qk lQ lR lS lV lX lY lZ t7 (by (try simp only [ln_]); omega) (by (try simp only [ln_]); omega)) ah (tw hw 149 rfl) (tw hw 29 rfl) (by decide) (by decide)) rfl (by rw [hml]; rfl) (lenOf pd_34 rfl) rfl (by exact Nat.le_of_eq rfl) (dc at_201) rfl (rfl : cU.heap = cU.heap) (by decide) (by decide) ?_
   intro FF bq Ah uv fp
   obtain ⟨b7, yy, vN, tk, rM, yD, rfl, sh, aH, l1, l3, l4, l5, Bs, x9⟩ := uv
   have Gr : cU.heap.size ≤ bq.heap.size := aH.1
   have qX := Fr.app qW sh
   have Dn := own_alt l1.lt
   have Do := own_alt l3.lt
   have Dp := own_alt l4.lt
   have Dq := own_alt l5.lt
   refine Gl.go (fun _ hr => zastore fp.here hx (dc at_204) rfl rfl (l' := #[sI i0, sI i1, sI i2, sI i3, sI i4, sI i5, sR ac, sR ae, sR af, sR aa, sR ab, sI 0, sI 0, sR aa, sR ab, sR aa, sR ab, sR aj, sR aj, sR bB, sR aj, sR b7, sU, sU, sU]) rfl (zaload fp.here hx (dc at_206) rfl rfl hr)) ?_
   have dz := (jY.keep aH all0)
   have eF := (((((hJ.keep aY).keep aM).keep ax).keep az).keep aH)
   have oc : Nq ac aj := by omega
   have ej : Nq ac bf := by omega
   have od : Nq ac bu := by omega
   have oe : Nq ac bg := by omega
   have iF := (((((iq.keep aY (ninS (own_ane oc) nin0)).keep aM (ninS (own_ane ej) (ninS (own_ane od) nin0))).keep ax nin0).keep az (ninS (own_ane ej) (ninS (own_ane oe) nin0))).keep aH nin0)
   have iG := (((((ir.keep aY (ninS (own_ane oc) nin0)).keep aM (ninS (own_ane ej) (ninS (own_ane od) nin0))).keep ax nin0).keep az (ninS (own_ane ej) (ninS (own_ane oe) nin0))).keep aH nin0)
   have v7 : Nq aE aj := by omega
   have og : Nq aE bf := by omega
   have v8 : Nq aE bu := by omega
   have v9 : Nq aE bg := by omega
   have kz := (((((kt.keep aY (ninS (own_ane v7) nin0)).keep aM (ninS (own_ane og) (ninS (own_ane v8) nin0))).keep ax nin0).keep az (ninS (own_ane og) (ninS (own_ane v9) nin0))).keep aH nin0)
   have zi : n0 ≤ bq.heap.size := by omega
   refine gVirtualN Gl.cl (y := y_12) (z := y_12) (b := ac) (argsL := []) (rest := []) (mc := 0) (ms := 0) fp hx ah bo (mvT ah (tw hw 191 rfl)) (mvT ah (tw hw 48 rfl)) (notFace_of_selects (args := #[]) (mvT ah (tw hw 50 rfl))) (mvT ah (tw hw 50 rfl)) (mvT ah (tw hw 49 rfl)) (by decide) eF (backOf (W := 0) (slG l Z a0 hw [] ac aE bN bK bH bT (sx i0 nw) G1 bq.heap n0 zi q0 (by assumption) ⟨dz, (by omega)⟩ eF iF iG kz bQ (sx_wid _ _) (by (try simp only [ln_]); omega)) ah (tw hw 51 rfl) (tw hw 7 rfl) (by decide) (by decide)) rfl (by rw [hml]; rfl) (lenOf pd_15 rfl) rfl (by exact Nat.le_of_eq rfl) (dc at_208) rfl (rfl : bq.heap = bq.heap) (by decide) (by decide) ?_
   intro FG sX Ai uw c7
   obtain ⟨rfl, si, tF⟩ := uw
   have qY := Fr.app qX si
   refine Gl.go (fun _ hr => zistore c7.here hx (dc at_211) rfl (l' := #[sI i0, sI i1, sI i2, sI i3, sI i4, sI i5, sR ac, sR ae, sR af, sR aa, sR ab, sI 0, sI 0, sR aa, sR ab, sR aa, sR ab, sR aj, sR aj, sR bB, sR aj, sR b7, sI (Int32.ofNat (sx i0 nw).length), sU, sU]) rfl (ziload c7.here hx (dc at_213) rfl (ziconst c7.here hx (dc at_215) (ziadd c7.here hx (dc at_216) rfl (zaload c7.here hx (dc at_217) rfl rfl hr))))) ?_
   show Gl p.tables e below _ (sX.setTop (mkF m 219 #[sI i0, sI i1, sI i2, sI i3, sI i4, sI i5, sR ac, sR ae, sR af, sR aa, sR ab, sI 0, sI 0, sR aa, sR ab, sR aa, sR ab, sR aj, sR aj, sR bB, sR aj, sR b7, sI (Int32.ofNat (sx i0 nw).length), sU, sU] [(.ref ae), (.int ((Int32.ofNat (sx i0 nw).length) + (2 : Int32)))]))
   have eG := ((((hL.keep aM).keep ax).keep az).keep aH)
   have ek : Nq ae bf := by omega
   have oh : Nq ae bu := by omega
   have oi : Nq ae bg := by omega
   have iH := ((((iu.keep aM (ninS (own_ane ek) (ninS (own_ane oh) nin0))).keep ax nin0).keep az (ninS (own_ane ek) (ninS (own_ane oi) nin0))).keep aH nin0)
   have iI := ((((iw.keep aM (ninS (own_ane ek) (ninS (own_ane oh) nin0))).keep ax nin0).keep az (ninS (own_ane ek) (ninS (own_ane oi) nin0))).keep aH nin0)
   have oj : Nq aF bf := by omega
   have wa : Nq aF bu := by omega
   have wb : Nq aF bg := by omega
   have kA := ((((ku.keep aM (ninS (own_ane oj) (ninS (own_ane wa) nin0))).keep ax nin0).keep az (ninS (own_ane oj) (ninS (own_ane wb) nin0))).keep aH nin0)
   have zj : n0 ≤ bq.heap.size := by omega
   refine gVirtualN Gl.cl (y := y_12) (z := y_12) (b := ae) (argsL := []) (rest := [(.int ((Int32.ofNat (sx i0 nw).length) + (2 : Int32)))]) (mc := 0) (ms := 0) c7 hx ah bo (mvT ah (tw hw 191 rfl)) (mvT ah (tw hw 48 rfl)) (notFace_of_selects (args := #[]) (mvT ah (tw hw 50 rfl))) (mvT ah (tw hw 50 rfl)) (mvT ah (tw hw 49 rfl)) (by decide) eG (backOf (W := 1) (slG l Z a0 hw [] ae aF bO bL bI bU (sx i1 na) G1 bq.heap n0 zj q0 (by assumption) ⟨dz, (by omega)⟩ eG iH iI kA bR (sx_wid _ _) (by (try simp only [ln_]); omega)) ah (tw hw 51 rfl) (tw hw 7 rfl) (by decide) (by decide)) rfl (by rw [hml]; rfl) (lenOf pd_15 rfl) rfl (by exact Nat.le_of_eq rfl) (dc at_219) rfl tF (by decide) (by decide) ?_
   intro FH A3 Aj ux fq
   obtain ⟨rfl, sj, tG⟩ := ux
   have qZ := Fr.app qY sj
   refine Gl.go (fun _ hr => ziadd fq.here hx (dc at_222) rfl (zaload fq.here hx (dc at_223) rfl rfl hr)) ?_
   have eH := ((((hN.keep aM).keep ax).keep az).keep aH)
   have el : Nq aa bf := by omega
   have ol : Nq aa bu := by omega
   have om : Nq aa bg := by omega
   have iJ := ((((ix.keep aM (ninS (own_ane el) (ninS (own_ane ol) nin0))).keep ax nin0).keep az (ninS (own_ane el) (ninS (own_ane om) nin0))).keep aH nin0)
   have iK := ((((iy.keep aM (ninS (own_ane el) (ninS (own_ane ol) nin0))).keep ax nin0).keep az (ninS (own_ane el) (ninS (own_ane om) nin0))).keep aH nin0)
   have oo : Nq bC bf := by omega
   have wd : Nq bC bu := by omega
   have we : Nq bC bg := by omega
   have kB := ((((kw.keep aM (ninS (own_ane oo) (ninS (own_ane wd) nin0))).keep ax nin0).keep az (ninS (own_ane oo) (ninS (own_ane we) nin0))).keep aH nin0)
   have zk : n0 ≤ bq.heap.size := by omega
   refine gVirtualN Gl.cl (y := y_12) (z := y_12) (b := aa) (argsL := []) (rest := [(.int (((Int32.ofNat (sx i0 nw).length) + (2 : Int32)) + (Int32.ofNat (sx i1 na).length)))]) (mc := 0) (ms := 0) fq hx ah bo (mvT ah (tw hw 191 rfl)) (mvT ah (tw hw 48 rfl)) (notFace_of_selects (args := #[]) (mvT ah (tw hw 50 rfl))) (mvT ah (tw hw 50 rfl)) (mvT ah (tw hw 49 rfl)) (by decide) eH (backOf (W := 1) (slG l Z a0 hw [] aa bC dk db cO dw (sx i2 nva) G1 bq.heap n0 zk q0 (by assumption) ⟨dz, (by omega)⟩ eH iJ iK kB dm (sx_wid _ _) (by (try simp only [ln_]); omega)) ah (tw hw 51 rfl) (tw hw 7 rfl) (by decide) (by decide)) rfl (by rw [hml]; rfl) (lenOf pd_15 rfl) rfl (by exact Nat.le_of_eq rfl) (dc at_225) rfl tG (by decide) (by decide) ?_
   intro FI kj Ak uy cz
   obtain ⟨rfl, sk, tH⟩ := uy
   have ra := Fr.app qZ sk
   refine Gl.go (fun _ hr => ziadd cz.here hx (dc at_228) rfl hr) ?_
   show Gl p.tables e below _ (kj.setTop (mkF m 229 #[sI i0, sI i1, sI i2, sI i3, sI i4, sI i5, sR ac, sR ae, sR af, sR aa, sR ab, sI 0, sI 0, sR aa, sR ab, sR aa, sR ab, sR aj, sR aj, sR bB, sR aj, sR b7, sI (Int32.ofNat (sx i0 nw).length), sU, sU] [(.int ((((Int32.ofNat (sx i0 nw).length) + (2 : Int32)) + (Int32.ofNat (sx i1 na).length)) + (Int32.ofNat (sx i2 nva).length)))]))
   rw [(show Int32.ofNat (sx i0 nw).length + (2 : Int32) + Int32.ofNat (sx i1 na).length + Int32.ofNat (sx i2 nva).length = Int32.ofNat (((((sx i0 nw) ++ [(32 : Int32)]) ++ (sx i1 na)) ++ [(61 : Int32)]) ++ (sx i2 nva)).length from by rw [show Int32.ofNat (sx i0 nw).length + (2 : Int32) = Int32.ofNat ((sx i0 nw).length + 2) from own_add32 _ 2, own_add32, own_add32]; congr 1; simp only [ln_]; omega)]
   show Gl p.tables e below _ (kj.setTop (mkF m 229 #[sI i0, sI i1, sI i2, sI i3, sI i4, sI i5, sR ac, sR ae, sR af, sR aa, sR ab, sI 0, sI 0, sR aa, sR ab, sR aa, sR ab, sR aj, sR aj, sR bB, sR aj, sR b7, sI (Int32.ofNat (sx i0 nw).length), sU, sU] [(.int (Int32.ofNat (((((sx i0 nw) ++ [(32 : Int32)]) ++ (sx i1 na)) ++ [(61 : Int32)]) ++ (sx i2 nva)).length))]))
   refine Gl.go (fun _ hr => zistore cz.here hx (dc at_229) rfl (l' := #[sI i0, sI i1, sI i2, sI i3, sI i4, sI i5, sR ac, sR ae, sR af, sR aa, sR ab, sI 0, sI 0, sR aa, sR ab, sR aa, sR ab, sR aj, sR aj, sR bB, sR aj, sR b7, sI (Int32.ofNat (sx i0 nw).length), sI (Int32.ofNat (((((sx i0 nw) ++ [(32 : Int32)]) ++ (sx i1 na)) ++ [(61 : Int32)]) ++ (sx i2 nva)).length), sU]) rfl (ziload cz.here hx (dc at_231) rfl (ziconst cz.here hx (dc at_233) (ziadd cz.here hx (dc at_234) rfl (zaload cz.here hx (dc at_235) rfl rfl hr))))) ?_
   have eI := ((hO.keep az).keep aH)
   have op : Nq af bg := by omega
   have iL := ((iB.keep az (ninS (own_ane eh) (ninS (own_ane op) nin0))).keep aH nin0)
   have iM := ((iC.keep az (ninS (own_ane eh) (ninS (own_ane op) nin0))).keep aH nin0)
   have wf : Nq aG bg := by omega
   have kC := ((kx.keep az (ninS (own_ane n8) (ninS (own_ane wf) nin0))).keep aH nin0)
   have zl : n0 ≤ bq.heap.size := by omega
   refine gVirtualN Gl.cl (y := y_12) (z := y_12) (b := af) (argsL := []) (rest := [(.int ((Int32.ofNat (((((sx i0 nw) ++ [(32 : Int32)]) ++ (sx i1 na)) ++ [(61 : Int32)]) ++ (sx i2 nva)).length) + (2 : Int32)))]) (mc := 0) (ms := 0) cz hx ah bo (mvT ah (tw hw 191 rfl)) (mvT ah (tw hw 48 rfl)) (notFace_of_selects (args := #[]) (mvT ah (tw hw 50 rfl))) (mvT ah (tw hw 50 rfl)) (mvT ah (tw hw 49 rfl)) (by decide) eI (backOf (W := 1) (slG l Z a0 hw [] af aG bP bM bJ bV (sx i3 nb) G1 bq.heap n0 zl q0 (by assumption) ⟨dz, (by omega)⟩ eI iL iM kC bS (sx_wid _ _) (by (try simp only [ln_]); omega)) ah (tw hw 51 rfl) (tw hw 7 rfl) (by decide) (by decide)) rfl (by rw [hml]; rfl) (lenOf pd_15 rfl) rfl (by exact Nat.le_of_eq rfl) (dc at_237) rfl tH (by decide) (by decide) ?_
   intro FJ A4 Al uz fr
   obtain ⟨rfl, sl, tI⟩ := uz
   have rb := Fr.app ra sl
   refine Gl.go (fun _ hr => ziadd fr.here hx (dc at_240) rfl (zaload fr.here hx (dc at_241) rfl rfl hr)) ?_
   have eJ := ((hR.keep az).keep aH)
   have oq : Nq ab bg := by omega
   have iN := ((iD.keep az (ninS (own_ane ei) (ninS (own_ane oq) nin0))).keep aH nin0)
   have iO := ((iE.keep az (ninS (own_ane ei) (ninS (own_ane oq) nin0))).keep aH nin0)
   have wg : Nq bD bg := by omega
   have kD := ((ky.keep az (ninS (own_ane ob) (ninS (own_ane wg) nin0))).keep aH nin0)
   have zm : n0 ≤ bq.heap.size := by omega
   refine gVirtualN Gl.cl (y := y_12) (z := y_12) (b := ab) (argsL := []) (rest := [(.int (((Int32.ofNat (((((sx i0 nw) ++ [(32 : Int32)]) ++ (sx i1 na)) ++ [(61 : Int32)]) ++ (sx i2 nva)).length) + (2 : Int32)) + (Int32.ofNat (sx i3 nb).length)))]) (mc := 0) (ms := 0) fr hx ah bo (mvT ah (tw hw 191 rfl)) (mvT ah (tw hw 48 rfl)) (notFace_of_selects (args := #[]) (mvT ah (tw hw 50 rfl))) (mvT ah (tw hw 50 rfl)) (mvT ah (tw hw 49 rfl)) (by decide) eJ (backOf (W := 1) (slG l Z a0 hw [] ab bD dl de cP dx (sx i4 nvb) G1 bq.heap n0 zm q0 (by assumption) ⟨dz, (by omega)⟩ eJ iN iO kD dn (sx_wid _ _) (by (try simp only [ln_]); omega)) ah (tw hw 51 rfl) (tw hw 7 rfl) (by decide) (by decide)) rfl (by rw [hml]; rfl) (lenOf pd_15 rfl) rfl (by exact Nat.le_of_eq rfl) (dc at_243) rfl tI (by decide) (by decide) ?_
   intro FK ff Am uA ft
   obtain ⟨rfl, sm, tJ⟩ := uA
   have rc := Fr.app rb sm
   refine Gl.go (fun _ hr => ziadd ft.here hx (dc at_246) rfl hr) ?_
   show Gl p.tables e below _ (ff.setTop (mkF m 247 #[sI i0, sI i1, sI i2, sI i3, sI i4, sI i5, sR ac, sR ae, sR af, sR aa, sR ab, sI 0, sI 0, sR aa, sR ab, sR aa, sR ab, sR aj, sR aj, sR bB, sR aj, sR b7, sI (Int32.ofNat (sx i0 nw).length), sI (Int32.ofNat (((((sx i0 nw) ++ [(32 : Int32)]) ++ (sx i1 na)) ++ [(61 : Int32)]) ++ (sx i2 nva)).length), sU] [(.int ((((Int32.ofNat (((((sx i0 nw) ++ [(32 : Int32)]) ++ (sx i1 na)) ++ [(61 : Int32)]) ++ (sx i2 nva)).length) + (2 : Int32)) + (Int32.ofNat (sx i3 nb).length)) + (Int32.ofNat (sx i4 nvb).length)))]))
   rw [(show Int32.ofNat (((((sx i0 nw) ++ [(32 : Int32)]) ++ (sx i1 na)) ++ [(61 : Int32)]) ++ (sx i2 nva)).length + (2 : Int32) + Int32.ofNat (sx i3 nb).length + Int32.ofNat (sx i4 nvb).length = Int32.ofNat (((((((((sx i0 nw) ++ [(32 : Int32)]) ++ (sx i1 na)) ++ [(61 : Int32)]) ++ (sx i2 nva)) ++ [(32 : Int32)]) ++ (sx i3 nb)) ++ [(61 : Int32)]) ++ (sx i4 nvb)).length from by rw [show Int32.ofNat (((((sx i0 nw) ++ [(32 : Int32)]) ++ (sx i1 na)) ++ [(61 : Int32)]) ++ (sx i2 nva)).length + (2 : Int32) = Int32.ofNat ((((((sx i0 nw) ++ [(32 : Int32)]) ++ (sx i1 na)) ++ [(61 : Int32)]) ++ (sx i2 nva)).length + 2) from own_add32 _ 2, own_add32, own_add32]; congr 1; simp only [ln_]; omega)]
   show Gl p.tables e below _ (ff.setTop (mkF m 247 #[sI i0, sI i1, sI i2, sI i3, sI i4, sI i5, sR ac, sR ae, sR af, sR aa, sR ab, sI 0, sI 0, sR aa, sR ab, sR aa, sR ab, sR aj, sR aj, sR bB, sR aj, sR b7, sI (Int32.ofNat (sx i0 nw).length), sI (Int32.ofNat (((((sx i0 nw) ++ [(32 : Int32)]) ++ (sx i1 na)) ++ [(61 : Int32)]) ++ (sx i2 nva)).length), sU] [(.int (Int32.ofNat (((((((((sx i0 nw) ++ [(32 : Int32)]) ++ (sx i1 na)) ++ [(61 : Int32)]) ++ (sx i2 nva)) ++ [(32 : Int32)]) ++ (sx i3 nb)) ++ [(61 : Int32)]) ++ (sx i4 nvb)).length))]))
   refine Gl.go (fun _ hr => zistore ft.here hx (dc at_247) rfl (l' := #[sI i0, sI i1, sI i2, sI i3, sI i4, sI i5, sR ac, sR ae, sR af, sR aa, sR ab, sI 0, sI 0, sR aa, sR ab, sR aa, sR ab, sR aj, sR aj, sR bB, sR aj, sR b7, sI (Int32.ofNat (sx i0 nw).length), sI (Int32.ofNat (((((sx i0 nw) ++ [(32 : Int32)]) ++ (sx i1 na)) ++ [(61 : Int32)]) ++ (sx i2 nva)).length), sI (Int32.ofNat (((((((((sx i0 nw) ++ [(32 : Int32)]) ++ (sx i1 na)) ++ [(61 : Int32)]) ++ (sx i2 nva)) ++ [(32 : Int32)]) ++ (sx i3 nb)) ++ [(61 : Int32)]) ++ (sx i4 nvb)).length)]) rfl hr) ?_
   have wh : Lq h0.size aj := by omega
   have or : Lq h0.size bf := by omega
   have wj : Lq h0.size bu := by omega
   have wk : Lq h0.size bg := by omega
   have p4 := ((lM.keep az).keep aH)
   have os : Nq bB bf := by omega
   have ot : Nq bB bg := by omega
   have ql := ((lN.keep az (ninS (own_ane os) (ninS (own_ane ot) nin0))).keep aH nin0)
   have qm := ((lO.keep az (ninS (own_ane os) (ninS (own_ane ot) nin0))).keep aH nin0)
   have wl : Nq g8 bf := by omega
   have wm : Nq g8 bg := by omega
   have sZ := ((lP.keep az (ninS (own_ane wl) (ninS (own_ane wm) nin0))).keep aH nin0)
   exact tC ff bq.heap _ bp.vm _ (sx i0 nw) (sx i1 na) (sx i2 nva) (sx i3 nb) (sx i4 nvb) ac aE bN bK bH bT ae aF bO bL bI bU aa bC dk db cO dw af aG bP bM bJ bV ab bD dl de cP dx bB g8 vM tj rL yC b7 yy vN tk rM yD aj (sR aa) (sR ab) (sI 0) (sI 0) (sR aa) (sR ab) rc (ft.more (by decide) (by decide)) tJ ((((((((((((Keep.refl h0 []).trans cN all0).trans a5 all0).trans au all0).trans ap all0).trans ai all0).ext aX).trans aY (allS (P := fun x_ => x_ ∈ ([] : List Addr) ∨ h0.size ≤ x_) (Or.inr (own_ale wh)) all0)).trans aM (allS (P := fun x_ => x_ ∈ ([] : List Addr) ∨ h0.size ≤ x_) (Or.inr (own_ale or)) (allS (P := fun x_ => x_ ∈ ([] : List Addr) ∨ h0.size ≤ x_) (Or.inr (own_ale wj)) all0))).trans ax all0).trans az (allS (P := fun x_ => x_ ∈ ([] : List Addr) ∨ h0.size ≤ x_) (Or.inr (own_ale or)) (allS (P := fun x_ => x_ ∈ ([] : List Addr) ∨ h0.size ≤ x_) (Or.inr (own_ale wk)) all0))).trans aH all0) ef (by have q := eg; omega) ah bo eF iF iG kz eG iH iI kA eH iJ iK kB eI iL iM kC eJ iN iO kD p4 ql qm sZ l1 l3 l4 l5 bQ (sx_wid _ _) bR (sx_wid _ _) dm (sx_wid _ _) bS (sx_wid _ _) dn (sx_wid _ _) x8 (own_widC (own_widC (own_widC (own_widC (sx_wid _ _) (by decide)) (sx_wid _ _)) (by decide)) (sx_wid _ _)) x9 (own_widC (own_widC (own_widC (own_widC (own_widC (own_widC (own_widC (own_widC (sx_wid _ _) (by decide)) (sx_wid _ _)) (by decide)) (sx_wid _ _)) (by decide)) (sx_wid _ _)) (by decide)) (sx_wid _ _)) (by (try simp only [ln_]); omega) (by (try simp only [ln_]); omega) (by (try simp only [ln_]); omega) (by (try simp only [ln_]); omega) (by (try simp only [ln_]); omega)
  ·refine Gl.go (fun _ hr => zifNo ag.here hx (dc at_95) rfl (XT.i0_eq_f nx) (ziconst ag.here hx (dc at_98) (zgoto ag.here hx (pc0 := 99) (pc' := 103) rfl (dc at_99) (by decide) (by decide) (zistore ag.here hx (dc at_103) rfl (l' := #[sI i0, sI i1, sI i2, sI i3, sI i4, sI i5, sR ac, sR ae, sR af, sR aa, sR ab, sI 0, sI 1, sU, sU, sU, sU, sU, sU, sU, sU, sU, sU, sU, sU]) rfl (ziload ag.here hx (dc at_105) rfl (zifYes ag.here hx (pc0 := 107) (pc' := 114) rfl (dc at_107) rfl (XT.i0_eq_t (by decide)) (by decide) (by decide) (zaload ag.here hx (dc at_114) rfl rfl (zastore ag.here hx (dc at_116) rfl rfl (l' := #[sI i0, sI i1, sI i2, sI i3, sI i4, sI i5, sR ac, sR ae, sR af, sR aa, sR ab, sI 0, sI 1, sR aa, sU, sU, sU, sU, sU, sU, sU, sU, sU, sU, sU]) rfl (ziload ag.here hx (dc at_118) rfl (zifNo ag.here hx (dc at_120) rfl (XT.i0_eq_f (by decide)) hr)))))))))) ?_
   refine Gl.go (fun _ hr => zaconstNull ag.here hx (dc at_123) (zgoto ag.here hx (pc0 := 124) (pc' := 129) rfl (dc at_124) (by decide) (by decide) (zastore ag.here hx (dc at_129) rfl rfl (l' := #[sI i0, sI i1, sI i2, sI i3, sI i4, sI i5, sR ac, sR ae, sR af, sR aa, sR ab, sI 0, sI 1, sR aa, .val .null, sU, sU, sU, sU, sU, sU, sU, sU, sU, sU]) rfl (ziload ag.here hx (dc at_131) rfl (zifYes ag.here hx (pc0 := 133) (pc' := 141) rfl (dc at_133) rfl (XT.i0_eq_t (by decide)) (by decide) (by decide) (zaload ag.here hx (dc at_141) rfl rfl (zastore ag.here hx (dc at_143) rfl rfl (l' := #[sI i0, sI i1, sI i2, sI i3, sI i4, sI i5, sR ac, sR ae, sR af, sR aa, sR ab, sI 0, sI 1, sR aa, .val .null, sR aa, sU, sU, sU, sU, sU, sU, sU, sU, sU]) rfl (ziload ag.here hx (dc at_145) rfl (zifNo ag.here hx (dc at_147) rfl (XT.i0_eq_f (by decide)) hr))))))))) ?_
   obtain ⟨a8, fg, bW, BY, dq, nF, fu, tK, bb, va, vp, aD, d4, nR, nN, nV, nJ, -, -, pU, zV, AS, yu⟩ := ldcCH ag hx ah bo (tw hw 248 rfl) hstr (rfl : bp.heap = bp.heap) ef (by have q := eg; omega) hew (by simp [ELs]) g2.2.1 (vs := ((([(110 : Int32), (117 : Int32), (108 : Int32), (108 : Int32)] : List Int32).map (fun c => c.toInt8.toInt32)).map Value.int)) (z := (4 : Int32)) ⟨by decide +kernel, by decide +kernel⟩ (by decide) rfl (g := (mkF m 150 #[sI i0, sI i1, sI i2, sI i3, sI i4, sI i5, sR ac, sR ae, sR af, sR aa, sR ab, sI 0, sI 1, sR aa, .val .null, sR aa, sU, sU, sU, sU, sU, sU, sU, sU, sU] [])) rfl (dc at_150) (n := 16) (by decide +kernel) (by decide) (by decide) (by decide)
   have Gs : bp.heap.size ≤ bW.size := bb.1
   have Dr := own_alt nR.lt
   have Ds := own_alt nN.lt
   have Dt := own_alt nV.lt
   have Du := own_alt nJ.lt
   have yk : ChJ Z fg.vm bW := ⟨aD, pU.1, _, hew⟩
   refine Gl.go yu ?_
   show Gl p.tables e below _ (fg.setTop (mkF m 152 #[sI i0, sI i1, sI i2, sI i3, sI i4, sI i5, sR ac, sR ae, sR af, sR aa, sR ab, sI 0, sI 1, sR aa, .val .null, sR aa, sU, sU, sU, sU, sU, sU, sU, sU, sU] [(.ref a8)]))
   have lv : StrChars.Road.CodA nul4 0 (4 : Int32) ((([(110 : Int32), (117 : Int32), (108 : Int32), (108 : Int32)] : List Int32).map (fun c => c.toInt8.toInt32)).map Value.int) := Or.inl ⟨rfl, rfl, rfl, by decide⟩
   refine Gl.go (fun _ hr => zgoto fu.here hx (pc0 := 152) (pc' := 157) rfl (dc at_152) (by decide) (by decide) (zastore fu.here hx (dc at_157) rfl rfl (l' := #[sI i0, sI i1, sI i2, sI i3, sI i4, sI i5, sR ac, sR ae, sR af, sR aa, sR ab, sI 0, sI 1, sR aa, .val .null, sR aa, sR a8, sU, sU, sU, sU, sU, sU, sU, sU]) rfl hr)) ?_
   have l_nul : nul4.length = 4 := rfl
   refine gNew Gl.cl fu hx aD d4 (tw hw 27 rfl) (tw hw 28 rfl) (tw hw 29 rfl) tK rfl (dc at_159) (by decide) (by decide) ?_
   intro A5 cH ak BN fw tL aQ hD pZ
   have Gt : bW.size ≤ cH.size := aQ.1
   have Dv := own_alt hD.lt
   have qd : Fld Z cH ak "org/latchkey/cli/ResultLine" "text" "Ljava/lang/StringBuilder;" .null := pZ (Or.inr (tw hw 106 rfl)) (ty := (.object "java/lang/StringBuilder")) (by decide)
   refine Gl.go (fun _ hr => zdup fw.here hx (dc at_162) rfl rfl (zaload fw.here hx (dc at_163) rfl rfl hr)) ?_
   have jZ := (((dy.keep ai all0).ext bb).ext aQ)
   have hX := ((((((dS.keep a5).keep au).keep ap).keep ai).ext bb).ext aQ)
   have iP := ((((((dT.keep a5 nin0).keep au nin0).keep ap nin0).keep ai nin0).ext bb).ext aQ)
   have iQ := ((((((dU.keep a5 nin0).keep au nin0).keep ap nin0).keep ai nin0).ext bb).ext aQ)
   have kE := ((((((dV.keep a5 nin0).keep au nin0).keep ap nin0).keep ai nin0).ext bb).ext aQ)
   have zn : n0 ≤ cH.size := by omega
   refine gSpecialN Gl.cl (y := y_51) (b := ak) (argsL := [(.ref ac)]) (rest := [(.ref ak)]) (mc := 3) (ms := 80) fw hx aD d4 rfl (mvT aD (tw hw 30 rfl)) (mvT aD (tw hw 31 rfl)) (mvT aD (tw hw 32 rfl)) (by decide) (backOf (W := 1) (rli l Z a0 hw [] ak ac aE bN bK bH bT (sx i0 nw) G1 G3 cH n0 zn q0 (by assumption) ⟨jZ, (by omega)⟩ q3 (by assumption) q5 q6 q7 (by omega) hD qd hX iP iQ kE bQ (sx_wid _ _) (by (try simp only [ln_]); omega)) aD (tw hw 32 rfl) (tw hw 29 rfl) (by decide) (by decide)) rfl (by rw [hml]; rfl) (lenOf pd_22 rfl) rfl (by exact Nat.le_of_eq rfl) (dc at_165) rfl tL (by decide) (by decide) ?_
   intro FL cV An uB dH
   obtain ⟨aZ, bn, vG, td, yU, yM, rfl, sn, aT, eb, gw, l6, l7, l8, l9, ma, mb, md, t8, Bt, Bu⟩ := uB
   have Gu : cH.size ≤ cV.heap.size := aT.1
   have rd := Fr.app d5 sn
   have Dw := own_alt eb.lt
   have Dx := own_alt gw.lt
   have Dy := own_alt l6.lt
   have Dz := own_alt l7.lt
   have DA := own_alt l8.lt
   have DB := own_alt l9.lt
   have DC := own_alt ma.lt
   have DD := own_alt mb.lt
   have DE := own_alt md.lt
   refine Gl.go (fun _ hr => zastore dH.here hx (dc at_168) rfl rfl (l' := #[sI i0, sI i1, sI i2, sI i3, sI i4, sI i5, sR ac, sR ae, sR af, sR aa, sR ab, sI 0, sI 1, sR aa, .val .null, sR aa, sR a8, sR ak, sU, sU, sU, sU, sU, sU, sU]) rfl (zaload dH.here hx (dc at_170) rfl rfl (zaload dH.here hx (dc at_172) rfl rfl (zaload dH.here hx (dc at_174) rfl rfl hr)))) ?_
   have wn : Lq Z.heap.size ak := by omega
   have j0 := (jZ.keep aT (allS (own_ale wn) all0))
   have hY := ((((((dW.keep au).keep ap).keep ai).ext bb).ext aQ).keep aT)
   have ou : Nq ae ak := by omega
   have iR := ((((((dX.keep au nin0).keep ap nin0).keep ai nin0).ext bb).ext aQ).keep aT (ninS (own_ane ou) nin0))
   have iS := ((((((dY.keep au nin0).keep ap nin0).keep ai nin0).ext bb).ext aQ).keep aT (ninS (own_ane ou) nin0))
   have wo : Nq aF ak := by omega
   have kF := ((((((dZ.keep au nin0).keep ap nin0).keep ai nin0).ext bb).ext aQ).keep aT (ninS (own_ane wo) nin0))
   have h7 := ((((gb.keep ai).ext bb).ext aQ).keep aT)
   have ov : Nq aa ak := by omega
   have iT := ((((gc.keep ai nin0).ext bb).ext aQ).keep aT (ninS (own_ane ov) nin0))
   have iU := ((((gd.keep ai nin0).ext bb).ext aQ).keep aT (ninS (own_ane ov) nin0))
   have wq : Nq bC ak := by omega
   have kG := ((((gf.keep ai nin0).ext bb).ext aQ).keep aT (ninS (own_ane wq) nin0))
   have zp : n0 ≤ cV.heap.size := by omega
   refine gVirtualN Gl.cl (y := y_56) (z := y_56) (b := ak) (argsL := [(.ref ae), (.ref aa)]) (rest := []) (mc := 2) (ms := 72) dH hx aD d4 (mvT aD (tw hw 107 rfl)) (mvT aD (tw hw 108 rfl)) (notFace_of_selects (args := #[]) (mvT aD (tw hw 110 rfl))) (mvT aD (tw hw 110 rfl)) (mvT aD (tw hw 109 rfl)) (by decide) eb (backOf (W := 0) (fls l Z a0 hw [] ak aZ bn vG ((sx i0 nw).length + 16) (sx i0 nw) td yU yM ae aF bO bL bI bU (sx i1 na) aa bC dk db cO dw (sx i2 nva) G1 G3 cV.heap n0 zp q0 (by assumption) ⟨j0, (by omega)⟩ q3 (by assumption) q5 q6 q7 eb gw l6 l7 l8 l9 ma mb md t8 (by omega) (by omega) (by omega) (by (try simp only [ln_]); omega) hY iR iS kF bR (sx_wid _ _) (by omega) (by omega) (by omega) (by omega) h7 iT iU kG dm (sx_wid _ _) (by omega) (by omega) (by omega) (by omega) (by (try simp only [ln_]); omega) (by (try simp only [ln_]); omega)) aD (tw hw 111 rfl) (tw hw 29 rfl) (by decide) (by decide)) rfl (by rw [hml]; rfl) (lenOf pd_42 rfl) rfl (by exact Nat.le_of_eq rfl) (dc at_176) rfl (rfl : cV.heap = cV.heap) (by decide) (by decide) ?_
   intro FM cW Ao uC fx
   obtain ⟨a7, nC, li, pR, pN, rfl, so, aL, gx, gy, gz, gA, gB, gC, gD, me, mf, Bv⟩ := uC
   have Gv : cV.heap.size ≤ cW.heap.size := aL.1
   have re := Fr.app rd so
   have DF := own_alt gx.lt
   have DG := own_alt gy.lt
   have DH := own_alt gz.lt
   have DI := own_alt gA.lt
   have DJ := own_alt gB.lt
   have DK := own_alt gC.lt
   have DL := own_alt gD.lt
   have BS : Lq cH.size a7 := by rcases mf with q | q <;> omega
   clear mf
   refine Gl.go (fun _ hr => zastore fx.here hx (dc at_179) rfl rfl (l' := #[sI i0, sI i1, sI i2, sI i3, sI i4, sI i5, sR ac, sR ae, sR af, sR aa, sR ab, sI 0, sI 1, sR aa, .val .null, sR aa, sR a8, sR ak, sR ak, sU, sU, sU, sU, sU, sU]) rfl (zaload fx.here hx (dc at_181) rfl rfl hr)) ?_
   have ow : Lq Z.heap.size aZ := by omega
   have wt : Lq Z.heap.size bn := by omega
   have j1 := (j0.keep aL (allS (own_ale ow) (allS (own_ale wt) all0)))
   have eK := (eb.keep aL)
   have ox : Nq ak aZ := by omega
   have wu : Nq ak bn := by omega
   have iV := (gw.keep aL (ninS (own_ane ox) (ninS (own_ane wu) nin0)))
   have zq : n0 ≤ cW.heap.size := by omega
   refine gVirtualN Gl.cl (y := y_57) (z := y_57) (b := ak) (argsL := []) (rest := []) (mc := 2) (ms := 40) fx hx aD d4 (mvT aD (tw hw 145 rfl)) (mvT aD (tw hw 146 rfl)) (notFace_of_selects (args := #[]) (mvT aD (tw hw 148 rfl))) (mvT aD (tw hw 148 rfl)) (mvT aD (tw hw 147 rfl)) (by decide) eK (backOf (W := 0) (rts l Z a0 hw [] ak aZ a7 nC ((sx i0 nw).length + 16) (((((sx i0 nw) ++ [(32 : Int32)]) ++ (sx i1 na)) ++ [(61 : Int32)]) ++ (sx i2 nva)) li pR pN G1 cW.heap n0 zq q0 (by assumption) ⟨j1, (by omega)⟩ eK iV gx gy gz gA gB gC gD me (by (try simp only [ln_]); omega) (by (try simp only [ln_]); omega)) aD (tw hw 149 rfl) (tw hw 29 rfl) (by decide) (by decide)) rfl (by rw [hml]; rfl) (lenOf pd_34 rfl) rfl (by exact Nat.le_of_eq rfl) (dc at_183) rfl (rfl : cW.heap = cW.heap) (by decide) (by decide) ?_
   intro FN b8 Ap uD dI
   obtain ⟨bE, g9, vO, tl, rN, yE, rfl, sq, av, mg, mh, mi, mj, Bw, ya⟩ := uD
   have Gw : cW.heap.size ≤ b8.heap.size := av.1
   have rf := Fr.app re sq
   have DM := own_alt mg.lt
   have DN := own_alt mh.lt
   have DO := own_alt mi.lt
   have DP := own_alt mj.lt
   refine Gl.go (fun _ hr => zastore dI.here hx (dc at_186) rfl rfl (l' := #[sI i0, sI i1, sI i2, sI i3, sI i4, sI i5, sR ac, sR ae, sR af, sR aa, sR ab, sI 0, sI 1, sR aa, .val .null, sR aa, sR a8, sR ak, sR ak, sR bE, sU, sU, sU, sU, sU]) rfl (zaload dI.here hx (dc at_188) rfl rfl (zaload dI.here hx (dc at_190) rfl rfl (zaload dI.here hx (dc at_192) rfl rfl hr)))) ?_
   have j2 := (j1.keep av all0)
   have eL := (eK.keep av)
   have iW := (iV.keep av nin0)
   have h8 := (gx.keep av)
   have qn := (gy.keep av nin0)
   have qo := (gz.keep av nin0)
   have qp := (gA.keep av nin0)
   have qq := (gB.keep av nin0)
   have h9 := (gC.keep av)
   have s1 := (gD.keep av nin0)
   have ia := (((((((d0.keep ap).keep ai).ext bb).ext aQ).keep aT).keep aL).keep av)
   have oy : Nq af ak := by omega
   have em : Nq af aZ := by omega
   have oz : Nq af bn := by omega
   have iX := (((((((d1.keep ap nin0).keep ai nin0).ext bb).ext aQ).keep aT (ninS (own_ane oy) nin0)).keep aL (ninS (own_ane em) (ninS (own_ane oz) nin0))).keep av nin0)
   have iY := (((((((d2.keep ap nin0).keep ai nin0).ext bb).ext aQ).keep aT (ninS (own_ane oy) nin0)).keep aL (ninS (own_ane em) (ninS (own_ane oz) nin0))).keep av nin0)
   have ww : Nq aG ak := by omega
   have oA : Nq aG aZ := by omega
   have wx : Nq aG bn := by omega
   have kH := (((((((d3.keep ap nin0).keep ai nin0).ext bb).ext aQ).keep aT (ninS (own_ane ww) nin0)).keep aL (ninS (own_ane oA) (ninS (own_ane wx) nin0))).keep av nin0)
   have zr : n0 ≤ b8.heap.size := by omega
   have wy : Lq bW.size ak := by omega
   have oB : Lq bW.size aZ := by omega
   have wA : Lq bW.size bn := by omega
   have wB : Lq bW.size a7 := by omega
   have yl : ChS Z aZ a7 fg.vm b8.heap := ChS.make yk (((((Keep.refl bW []).ext aQ).trans aT (allS (P := fun x_ => x_ ∈ ([] : List Addr) ∨ bW.size ≤ x_) (Or.inr (own_ale wy)) all0)).trans aL (allS (P := fun x_ => x_ ∈ ([] : List Addr) ∨ bW.size ≤ x_) (Or.inr (own_ale oB)) (allS (P := fun x_ => x_ ∈ ([] : List Addr) ∨ bW.size ≤ x_) (Or.inr (own_ale wA)) all0))).trans av all0) (own_ale oB) (own_ale wB) h8.lt h9.lt
   refine gVirtualJ Gl.cl (y := y_56) (z := y_56) (b := ak) (argsL := [(.ref af), .null]) (rest := []) (mc := 4) (ms := 92) (Φ := fun vm => ChS Z aZ a7 vm b8.heap) dI hx aD va (by have q := vp; omega) d4 (mvT aD (tw hw 107 rfl)) (mvT aD (tw hw 108 rfl)) (notFace_of_selects (args := #[]) (mvT aD (tw hw 110 rfl))) (mvT aD (tw hw 110 rfl)) (mvT aD (tw hw 109 rfl)) (by decide) eL (backOfJ (Φ := fun vm => ChS Z aZ a7 vm b8.heap) (W := 0) (fln l Z a0 hw [] ak aZ a7 nC ((sx i0 nw).length + 16) (((((sx i0 nw) ++ [(32 : Int32)]) ++ (sx i1 na)) ++ [(61 : Int32)]) ++ (sx i2 nva)) li pR pN af aG bP bM bJ bV (sx i3 nb) G1 G3 b8.heap n0 zr q0 (by assumption) ⟨j2, (by omega)⟩ q3 (by assumption) q5 q6 q7 (by assumption) eL iW h8 qn qo qp qq h9 s1 me (by omega) (by omega) (by omega) (by (try simp only [ln_]); omega) ia iX iY kH bS (sx_wid _ _) (by omega) (by omega) (by omega) (by omega) (by (try simp only [ln_]); omega) (by (try simp only [ln_]); omega)) aD (tw hw 111 rfl) (tw hw 29 rfl) (by decide) (by decide)) rfl (by rw [hml]; rfl) (lenOf pd_42 rfl) rfl (by exact Nat.le_of_eq rfl) (dc at_194) rfl (rfl : b8.heap = b8.heap) (fun vm₁ hvm => yl.warm hvm) (by decide) (by decide) ?_
   intro FO cu Aq uE fy vb aq cK vq
   obtain ⟨ld, vH, te, yV, yN, rfl, sr, aA, ml, mm, mo, mq, mr, mt, mu, t9, mw, Bx, Fj⟩ := uE
   have Gx : b8.heap.size ≤ cu.heap.size := aA.1
   have rg := Fr.app rf sr
   have DQ := own_alt ml.lt
   have DR := own_alt mm.lt
   have DS := own_alt mo.lt
   have DT := own_alt mq.lt
   have DU := own_alt mr.lt
   have DV := own_alt mt.lt
   have DW := own_alt mu.lt
   have BT : Lq cH.size ld := by rcases mw with q | q <;> omega
   clear mw
   refine Gl.go (fun _ hr => zastore fy.here hx (dc at_197) rfl rfl (l' := #[sI i0, sI i1, sI i2, sI i3, sI i4, sI i5, sR ac, sR ae, sR af, sR aa, sR ab, sI 0, sI 1, sR aa, .val .null, sR aa, sR a8, sR ak, sR ak, sR bE, sR ak, sU, sU, sU, sU]) rfl (zaload fy.here hx (dc at_199) rfl rfl hr)) ?_
   have wC : Lq Z.heap.size a7 := by omega
   have j3 := (j2.keep aA (allS (own_ale ow) (allS (own_ale wC) all0)))
   have ib := (eL.keep aA)
   have wD : Nq ak a7 := by omega
   have qr := (iW.keep aA (ninS (own_ane ox) (ninS (own_ane wD) nin0)))
   have zs : n0 ≤ cu.heap.size := by omega
   refine gVirtualN Gl.cl (y := y_57) (z := y_57) (b := ak) (argsL := []) (rest := []) (mc := 2) (ms := 40) fy hx aq cK (mvT aq (tw hw 145 rfl)) (mvT aq (tw hw 146 rfl)) (notFace_of_selects (args := #[]) (mvT aq (tw hw 148 rfl))) (mvT aq (tw hw 148 rfl)) (mvT aq (tw hw 147 rfl)) (by decide) ib (backOf (W := 0) (rts l Z a0 hw [] ak aZ ld vH ((sx i0 nw).length + 16) (((((((((sx i0 nw) ++ [(32 : Int32)]) ++ (sx i1 na)) ++ [(61 : Int32)]) ++ (sx i2 nva)) ++ [(32 : Int32)]) ++ (sx i3 nb)) ++ [(61 : Int32)]) ++ nul4) te yV yN G1 cu.heap n0 zs q0 (by assumption) ⟨j3, (by omega)⟩ ib qr ml mm mo mq mr mt mu t9 (by (try simp only [ln_]); omega) (by (try simp only [ln_]); omega)) aq (tw hw 149 rfl) (tw hw 29 rfl) (by decide) (by decide)) rfl (by rw [hml]; rfl) (lenOf pd_34 rfl) rfl (by exact Nat.le_of_eq rfl) (dc at_201) rfl (rfl : cu.heap = cu.heap) (by decide) (by decide) ?_
   intro FP br Ar uF fz
   obtain ⟨ci, yz, vP, tm, rO, yF, rfl, ss, aI, mx, my, mz, mA, By, yb⟩ := uF
   have Gy : cu.heap.size ≤ br.heap.size := aI.1
   have rh := Fr.app rg ss
   have DX := own_alt mx.lt
   have DY := own_alt my.lt
   have DZ := own_alt mz.lt
   have D0 := own_alt mA.lt
   refine Gl.go (fun _ hr => zastore fz.here hx (dc at_204) rfl rfl (l' := #[sI i0, sI i1, sI i2, sI i3, sI i4, sI i5, sR ac, sR ae, sR af, sR aa, sR ab, sI 0, sI 1, sR aa, .val .null, sR aa, sR a8, sR ak, sR ak, sR bE, sR ak, sR ci, sU, sU, sU]) rfl (zaload fz.here hx (dc at_206) rfl rfl hr)) ?_
   have dA := (j3.keep aI all0)
   have eM := (((((hX.keep aT).keep aL).keep av).keep aA).keep aI)
   have oC : Nq ac ak := by omega
   have en : Nq ac aZ := by omega
   have oD : Nq ac bn := by omega
   have oE : Nq ac a7 := by omega
   have iZ := (((((iP.keep aT (ninS (own_ane oC) nin0)).keep aL (ninS (own_ane en) (ninS (own_ane oD) nin0))).keep av nin0).keep aA (ninS (own_ane en) (ninS (own_ane oE) nin0))).keep aI nin0)
   have i6 := (((((iQ.keep aT (ninS (own_ane oC) nin0)).keep aL (ninS (own_ane en) (ninS (own_ane oD) nin0))).keep av nin0).keep aA (ninS (own_ane en) (ninS (own_ane oE) nin0))).keep aI nin0)
   have wE : Nq aE ak := by omega
   have oF : Nq aE aZ := by omega
   have wF : Nq aE bn := by omega
   have wG : Nq aE a7 := by omega
   have kI := (((((kE.keep aT (ninS (own_ane wE) nin0)).keep aL (ninS (own_ane oF) (ninS (own_ane wF) nin0))).keep av nin0).keep aA (ninS (own_ane oF) (ninS (own_ane wG) nin0))).keep aI nin0)
   have zt : n0 ≤ br.heap.size := by omega
   refine gVirtualN Gl.cl (y := y_12) (z := y_12) (b := ac) (argsL := []) (rest := []) (mc := 0) (ms := 0) fz hx aq cK (mvT aq (tw hw 191 rfl)) (mvT aq (tw hw 48 rfl)) (notFace_of_selects (args := #[]) (mvT aq (tw hw 50 rfl))) (mvT aq (tw hw 50 rfl)) (mvT aq (tw hw 49 rfl)) (by decide) eM (backOf (W := 0) (slG l Z a0 hw [] ac aE bN bK bH bT (sx i0 nw) G1 br.heap n0 zt q0 (by assumption) ⟨dA, (by omega)⟩ eM iZ i6 kI bQ (sx_wid _ _) (by (try simp only [ln_]); omega)) aq (tw hw 51 rfl) (tw hw 7 rfl) (by decide) (by decide)) rfl (by rw [hml]; rfl) (lenOf pd_15 rfl) rfl (by exact Nat.le_of_eq rfl) (dc at_208) rfl (rfl : br.heap = br.heap) (by decide) (by decide) ?_
   intro FQ A6 As uG c8
   obtain ⟨rfl, su, tM⟩ := uG
   have ri := Fr.app rh su
   refine Gl.go (fun _ hr => zistore c8.here hx (dc at_211) rfl (l' := #[sI i0, sI i1, sI i2, sI i3, sI i4, sI i5, sR ac, sR ae, sR af, sR aa, sR ab, sI 0, sI 1, sR aa, .val .null, sR aa, sR a8, sR ak, sR ak, sR bE, sR ak, sR ci, sI (Int32.ofNat (sx i0 nw).length), sU, sU]) rfl (ziload c8.here hx (dc at_213) rfl (ziconst c8.here hx (dc at_215) (ziadd c8.here hx (dc at_216) rfl (zaload c8.here hx (dc at_217) rfl rfl hr))))) ?_
   have eN := ((((hY.keep aL).keep av).keep aA).keep aI)
   have eo : Nq ae aZ := by omega
   have oG : Nq ae bn := by omega
   have oH : Nq ae a7 := by omega
   have i7 := ((((iR.keep aL (ninS (own_ane eo) (ninS (own_ane oG) nin0))).keep av nin0).keep aA (ninS (own_ane eo) (ninS (own_ane oH) nin0))).keep aI nin0)
   have i8 := ((((iS.keep aL (ninS (own_ane eo) (ninS (own_ane oG) nin0))).keep av nin0).keep aA (ninS (own_ane eo) (ninS (own_ane oH) nin0))).keep aI nin0)
   have oI : Nq aF aZ := by omega
   have wH : Nq aF bn := by omega
   have wI : Nq aF a7 := by omega
   have kJ := ((((kF.keep aL (ninS (own_ane oI) (ninS (own_ane wH) nin0))).keep av nin0).keep aA (ninS (own_ane oI) (ninS (own_ane wI) nin0))).keep aI nin0)
   have zu : n0 ≤ br.heap.size := by omega
   refine gVirtualN Gl.cl (y := y_12) (z := y_12) (b := ae) (argsL := []) (rest := [(.int ((Int32.ofNat (sx i0 nw).length) + (2 : Int32)))]) (mc := 0) (ms := 0) c8 hx aq cK (mvT aq (tw hw 191 rfl)) (mvT aq (tw hw 48 rfl)) (notFace_of_selects (args := #[]) (mvT aq (tw hw 50 rfl))) (mvT aq (tw hw 50 rfl)) (mvT aq (tw hw 49 rfl)) (by decide) eN (backOf (W := 1) (slG l Z a0 hw [] ae aF bO bL bI bU (sx i1 na) G1 br.heap n0 zu q0 (by assumption) ⟨dA, (by omega)⟩ eN i7 i8 kJ bR (sx_wid _ _) (by (try simp only [ln_]); omega)) aq (tw hw 51 rfl) (tw hw 7 rfl) (by decide) (by decide)) rfl (by rw [hml]; rfl) (lenOf pd_15 rfl) rfl (by exact Nat.le_of_eq rfl) (dc at_219) rfl tM (by decide) (by decide) ?_
   intro FR A7 Au uH fA
   obtain ⟨rfl, sv, tN⟩ := uH
   have rj := Fr.app ri sv
   refine Gl.go (fun _ hr => ziadd fA.here hx (dc at_222) rfl (zaload fA.here hx (dc at_223) rfl rfl hr)) ?_
   have eO := ((((h7.keep aL).keep av).keep aA).keep aI)
   have ep : Nq aa aZ := by omega
   have oJ : Nq aa bn := by omega
   have oK : Nq aa a7 := by omega
   have i9 := ((((iT.keep aL (ninS (own_ane ep) (ninS (own_ane oJ) nin0))).keep av nin0).keep aA (ninS (own_ane ep) (ninS (own_ane oK) nin0))).keep aI nin0)
   have ja := ((((iU.keep aL (ninS (own_ane ep) (ninS (own_ane oJ) nin0))).keep av nin0).keep aA (ninS (own_ane ep) (ninS (own_ane oK) nin0))).keep aI nin0)
   have oL : Nq bC aZ := by omega
   have wJ : Nq bC bn := by omega
   have wK : Nq bC a7 := by omega
   have kK := ((((kG.keep aL (ninS (own_ane oL) (ninS (own_ane wJ) nin0))).keep av nin0).keep aA (ninS (own_ane oL) (ninS (own_ane wK) nin0))).keep aI nin0)
   have zv : n0 ≤ br.heap.size := by omega
   refine gVirtualN Gl.cl (y := y_12) (z := y_12) (b := aa) (argsL := []) (rest := [(.int (((Int32.ofNat (sx i0 nw).length) + (2 : Int32)) + (Int32.ofNat (sx i1 na).length)))]) (mc := 0) (ms := 0) fA hx aq cK (mvT aq (tw hw 191 rfl)) (mvT aq (tw hw 48 rfl)) (notFace_of_selects (args := #[]) (mvT aq (tw hw 50 rfl))) (mvT aq (tw hw 50 rfl)) (mvT aq (tw hw 49 rfl)) (by decide) eO (backOf (W := 1) (slG l Z a0 hw [] aa bC dk db cO dw (sx i2 nva) G1 br.heap n0 zv q0 (by assumption) ⟨dA, (by omega)⟩ eO i9 ja kK dm (sx_wid _ _) (by (try simp only [ln_]); omega)) aq (tw hw 51 rfl) (tw hw 7 rfl) (by decide) (by decide)) rfl (by rw [hml]; rfl) (lenOf pd_15 rfl) rfl (by exact Nat.le_of_eq rfl) (dc at_225) rfl tN (by decide) (by decide) ?_
   intro FS kl Av uI cC
   obtain ⟨rfl, sw, tO⟩ := uI
   have rk := Fr.app rj sw
   refine Gl.go (fun _ hr => ziadd cC.here hx (dc at_228) rfl hr) ?_
   show Gl p.tables e below _ (kl.setTop (mkF m 229 #[sI i0, sI i1, sI i2, sI i3, sI i4, sI i5, sR ac, sR ae, sR af, sR aa, sR ab, sI 0, sI 1, sR aa, .val .null, sR aa, sR a8, sR ak, sR ak, sR bE, sR ak, sR ci, sI (Int32.ofNat (sx i0 nw).length), sU, sU] [(.int ((((Int32.ofNat (sx i0 nw).length) + (2 : Int32)) + (Int32.ofNat (sx i1 na).length)) + (Int32.ofNat (sx i2 nva).length)))]))
   rw [(show Int32.ofNat (sx i0 nw).length + (2 : Int32) + Int32.ofNat (sx i1 na).length + Int32.ofNat (sx i2 nva).length = Int32.ofNat (((((sx i0 nw) ++ [(32 : Int32)]) ++ (sx i1 na)) ++ [(61 : Int32)]) ++ (sx i2 nva)).length from by rw [show Int32.ofNat (sx i0 nw).length + (2 : Int32) = Int32.ofNat ((sx i0 nw).length + 2) from own_add32 _ 2, own_add32, own_add32]; congr 1; simp only [ln_]; omega)]
   show Gl p.tables e below _ (kl.setTop (mkF m 229 #[sI i0, sI i1, sI i2, sI i3, sI i4, sI i5, sR ac, sR ae, sR af, sR aa, sR ab, sI 0, sI 1, sR aa, .val .null, sR aa, sR a8, sR ak, sR ak, sR bE, sR ak, sR ci, sI (Int32.ofNat (sx i0 nw).length), sU, sU] [(.int (Int32.ofNat (((((sx i0 nw) ++ [(32 : Int32)]) ++ (sx i1 na)) ++ [(61 : Int32)]) ++ (sx i2 nva)).length))]))
   refine Gl.go (fun _ hr => zistore cC.here hx (dc at_229) rfl (l' := #[sI i0, sI i1, sI i2, sI i3, sI i4, sI i5, sR ac, sR ae, sR af, sR aa, sR ab, sI 0, sI 1, sR aa, .val .null, sR aa, sR a8, sR ak, sR ak, sR bE, sR ak, sR ci, sI (Int32.ofNat (sx i0 nw).length), sI (Int32.ofNat (((((sx i0 nw) ++ [(32 : Int32)]) ++ (sx i1 na)) ++ [(61 : Int32)]) ++ (sx i2 nva)).length), sU]) rfl (ziload cC.here hx (dc at_231) rfl (ziconst cC.here hx (dc at_233) (ziadd cC.here hx (dc at_234) rfl (zaload cC.here hx (dc at_235) rfl rfl hr))))) ?_
   have eP := ((ia.keep aA).keep aI)
   have oM : Nq af a7 := by omega
   have jb := ((iX.keep aA (ninS (own_ane em) (ninS (own_ane oM) nin0))).keep aI nin0)
   have jc := ((iY.keep aA (ninS (own_ane em) (ninS (own_ane oM) nin0))).keep aI nin0)
   have wL : Nq aG a7 := by omega
   have kL := ((kH.keep aA (ninS (own_ane oA) (ninS (own_ane wL) nin0))).keep aI nin0)
   have zw : n0 ≤ br.heap.size := by omega
   refine gVirtualN Gl.cl (y := y_12) (z := y_12) (b := af) (argsL := []) (rest := [(.int ((Int32.ofNat (((((sx i0 nw) ++ [(32 : Int32)]) ++ (sx i1 na)) ++ [(61 : Int32)]) ++ (sx i2 nva)).length) + (2 : Int32)))]) (mc := 0) (ms := 0) cC hx aq cK (mvT aq (tw hw 191 rfl)) (mvT aq (tw hw 48 rfl)) (notFace_of_selects (args := #[]) (mvT aq (tw hw 50 rfl))) (mvT aq (tw hw 50 rfl)) (mvT aq (tw hw 49 rfl)) (by decide) eP (backOf (W := 1) (slG l Z a0 hw [] af aG bP bM bJ bV (sx i3 nb) G1 br.heap n0 zw q0 (by assumption) ⟨dA, (by omega)⟩ eP jb jc kL bS (sx_wid _ _) (by (try simp only [ln_]); omega)) aq (tw hw 51 rfl) (tw hw 7 rfl) (by decide) (by decide)) rfl (by rw [hml]; rfl) (lenOf pd_15 rfl) rfl (by exact Nat.le_of_eq rfl) (dc at_237) rfl tO (by decide) (by decide) ?_
   intro FT A8 Aw uJ fB
   obtain ⟨rfl, sy, tP⟩ := uJ
   have rn := Fr.app rk sy
   refine Gl.go (fun _ hr => ziadd fB.here hx (dc at_240) rfl (zaload fB.here hx (dc at_241) rfl rfl hr)) ?_
   have eQ := ((((((nR.ext aQ).keep aT).keep aL).keep av).keep aA).keep aI)
   have oN : Nq a8 ak := by omega
   have er : Nq a8 aZ := by omega
   have oO : Nq a8 bn := by omega
   have oP : Nq a8 a7 := by omega
   have jd := ((((((nV.ext aQ).keep aT (ninS (own_ane oN) nin0)).keep aL (ninS (own_ane er) (ninS (own_ane oO) nin0))).keep av nin0).keep aA (ninS (own_ane er) (ninS (own_ane oP) nin0))).keep aI nin0)
   have je := ((((((nN.ext aQ).keep aT (ninS (own_ane oN) nin0)).keep aL (ninS (own_ane er) (ninS (own_ane oO) nin0))).keep av nin0).keep aA (ninS (own_ane er) (ninS (own_ane oP) nin0))).keep aI nin0)
   have wM : Nq dq ak := by omega
   have oQ : Nq dq aZ := by omega
   have wN : Nq dq bn := by omega
   have wO : Nq dq a7 := by omega
   have kM := ((((((nJ.ext aQ).keep aT (ninS (own_ane wM) nin0)).keep aL (ninS (own_ane oQ) (ninS (own_ane wN) nin0))).keep av nin0).keep aA (ninS (own_ane oQ) (ninS (own_ane wO) nin0))).keep aI nin0)
   have zx : n0 ≤ br.heap.size := by omega
   refine gVirtualN Gl.cl (y := y_12) (z := y_12) (b := a8) (argsL := []) (rest := [(.int (((Int32.ofNat (((((sx i0 nw) ++ [(32 : Int32)]) ++ (sx i1 na)) ++ [(61 : Int32)]) ++ (sx i2 nva)).length) + (2 : Int32)) + (Int32.ofNat (sx i3 nb).length)))]) (mc := 0) (ms := 0) fB hx aq cK (mvT aq (tw hw 191 rfl)) (mvT aq (tw hw 48 rfl)) (notFace_of_selects (args := #[]) (mvT aq (tw hw 50 rfl))) (mvT aq (tw hw 50 rfl)) (mvT aq (tw hw 49 rfl)) (by decide) eQ (backOf (W := 1) (slG l Z a0 hw [] a8 dq nF (0 : Int32) (4 : Int32) ((([(110 : Int32), (117 : Int32), (108 : Int32), (108 : Int32)] : List Int32).map (fun c => c.toInt8.toInt32)).map Value.int) nul4 G1 br.heap n0 zx q0 (by assumption) ⟨dA, (by omega)⟩ eQ jd je kM lv (by decide) (by decide)) aq (tw hw 51 rfl) (tw hw 7 rfl) (by decide) (by decide)) rfl (by rw [hml]; rfl) (lenOf pd_15 rfl) rfl (by exact Nat.le_of_eq rfl) (dc at_243) rfl tP (by decide) (by decide) ?_
   intro FU fh Ax uK fC
   obtain ⟨rfl, sz, tQ⟩ := uK
   have ro := Fr.app rn sz
   refine Gl.go (fun _ hr => ziadd fC.here hx (dc at_246) rfl hr) ?_
   show Gl p.tables e below _ (fh.setTop (mkF m 247 #[sI i0, sI i1, sI i2, sI i3, sI i4, sI i5, sR ac, sR ae, sR af, sR aa, sR ab, sI 0, sI 1, sR aa, .val .null, sR aa, sR a8, sR ak, sR ak, sR bE, sR ak, sR ci, sI (Int32.ofNat (sx i0 nw).length), sI (Int32.ofNat (((((sx i0 nw) ++ [(32 : Int32)]) ++ (sx i1 na)) ++ [(61 : Int32)]) ++ (sx i2 nva)).length), sU] [(.int ((((Int32.ofNat (((((sx i0 nw) ++ [(32 : Int32)]) ++ (sx i1 na)) ++ [(61 : Int32)]) ++ (sx i2 nva)).length) + (2 : Int32)) + (Int32.ofNat (sx i3 nb).length)) + (Int32.ofNat nul4.length)))]))
   rw [(show Int32.ofNat (((((sx i0 nw) ++ [(32 : Int32)]) ++ (sx i1 na)) ++ [(61 : Int32)]) ++ (sx i2 nva)).length + (2 : Int32) + Int32.ofNat (sx i3 nb).length + Int32.ofNat nul4.length = Int32.ofNat (((((((((sx i0 nw) ++ [(32 : Int32)]) ++ (sx i1 na)) ++ [(61 : Int32)]) ++ (sx i2 nva)) ++ [(32 : Int32)]) ++ (sx i3 nb)) ++ [(61 : Int32)]) ++ nul4).length from by rw [show Int32.ofNat (((((sx i0 nw) ++ [(32 : Int32)]) ++ (sx i1 na)) ++ [(61 : Int32)]) ++ (sx i2 nva)).length + (2 : Int32) = Int32.ofNat ((((((sx i0 nw) ++ [(32 : Int32)]) ++ (sx i1 na)) ++ [(61 : Int32)]) ++ (sx i2 nva)).length + 2) from own_add32 _ 2, own_add32, own_add32]; congr 1; simp only [ln_]; omega)]
   show Gl p.tables e below _ (fh.setTop (mkF m 247 #[sI i0, sI i1, sI i2, sI i3, sI i4, sI i5, sR ac, sR ae, sR af, sR aa, sR ab, sI 0, sI 1, sR aa, .val .null, sR aa, sR a8, sR ak, sR ak, sR bE, sR ak, sR ci, sI (Int32.ofNat (sx i0 nw).length), sI (Int32.ofNat (((((sx i0 nw) ++ [(32 : Int32)]) ++ (sx i1 na)) ++ [(61 : Int32)]) ++ (sx i2 nva)).length), sU] [(.int (Int32.ofNat (((((((((sx i0 nw) ++ [(32 : Int32)]) ++ (sx i1 na)) ++ [(61 : Int32)]) ++ (sx i2 nva)) ++ [(32 : Int32)]) ++ (sx i3 nb)) ++ [(61 : Int32)]) ++ nul4).length))]))
   refine Gl.go (fun _ hr => zistore fC.here hx (dc at_247) rfl (l' := #[sI i0, sI i1, sI i2, sI i3, sI i4, sI i5, sR ac, sR ae, sR af, sR aa, sR ab, sI 0, sI 1, sR aa, .val .null, sR aa, sR a8, sR ak, sR ak, sR bE, sR ak, sR ci, sI (Int32.ofNat (sx i0 nw).length), sI (Int32.ofNat (((((sx i0 nw) ++ [(32 : Int32)]) ++ (sx i1 na)) ++ [(61 : Int32)]) ++ (sx i2 nva)).length), sI (Int32.ofNat (((((((((sx i0 nw) ++ [(32 : Int32)]) ++ (sx i1 na)) ++ [(61 : Int32)]) ++ (sx i2 nva)) ++ [(32 : Int32)]) ++ (sx i3 nb)) ++ [(61 : Int32)]) ++ nul4).length)]) rfl hr) ?_
   have wP : Lq h0.size ak := by omega
   have oR : Lq h0.size aZ := by omega
   have wQ : Lq h0.size bn := by omega
   have wR : Lq h0.size a7 := by omega
   have p5 := ((mg.keep aA).keep aI)
   have oS : Nq bE aZ := by omega
   have oT : Nq bE a7 := by omega
   have qs := ((mh.keep aA (ninS (own_ane oS) (ninS (own_ane oT) nin0))).keep aI nin0)
   have qt := ((mi.keep aA (ninS (own_ane oS) (ninS (own_ane oT) nin0))).keep aI nin0)
   have wT : Nq g9 aZ := by omega
   have wU : Nq g9 a7 := by omega
   have s2 := ((mj.keep aA (ninS (own_ane wT) (ninS (own_ane wU) nin0))).keep aI nin0)
   exact tC fh br.heap _ cu.vm _ (sx i0 nw) (sx i1 na) (sx i2 nva) (sx i3 nb) nul4 ac aE bN bK bH bT ae aF bO bL bI bU aa bC dk db cO dw af aG bP bM bJ bV a8 dq nF (0 : Int32) (4 : Int32) ((([(110 : Int32), (117 : Int32), (108 : Int32), (108 : Int32)] : List Int32).map (fun c => c.toInt8.toInt32)).map Value.int) bE g9 vO tl rN yE ci yz vP tm rO yF ak (sR aa) (sR ab) (sI 0) (sI 1) (sR aa) (.val .null) ro (fC.more (by decide) (by decide)) tQ (((((((((((((Keep.refl h0 []).trans cN all0).trans a5 all0).trans au all0).trans ap all0).trans ai all0).ext bb).ext aQ).trans aT (allS (P := fun x_ => x_ ∈ ([] : List Addr) ∨ h0.size ≤ x_) (Or.inr (own_ale wP)) all0)).trans aL (allS (P := fun x_ => x_ ∈ ([] : List Addr) ∨ h0.size ≤ x_) (Or.inr (own_ale oR)) (allS (P := fun x_ => x_ ∈ ([] : List Addr) ∨ h0.size ≤ x_) (Or.inr (own_ale wQ)) all0))).trans av all0).trans aA (allS (P := fun x_ => x_ ∈ ([] : List Addr) ∨ h0.size ≤ x_) (Or.inr (own_ale oR)) (allS (P := fun x_ => x_ ∈ ([] : List Addr) ∨ h0.size ≤ x_) (Or.inr (own_ale wR)) all0))).trans aI all0) vb (by have q := vq; omega) aq cK eM iZ i6 kI eN i7 i8 kJ eO i9 ja kK eP jb jc kL eQ jd je kM p5 qs qt s2 mx my mz mA bQ (sx_wid _ _) bR (sx_wid _ _) dm (sx_wid _ _) bS (sx_wid _ _) lv (by decide) ya (own_widC (own_widC (own_widC (own_widC (sx_wid _ _) (by decide)) (sx_wid _ _)) (by decide)) (sx_wid _ _)) yb (own_widC (own_widC (own_widC (own_widC (own_widC (own_widC (own_widC (own_widC (sx_wid _ _) (by decide)) (sx_wid _ _)) (by decide)) (sx_wid _ _)) (by decide)) (sx_wid _ _)) (by decide)) (by decide)) (by (try simp only [ln_]); omega) (by (try simp only [ln_]); omega) (by (try simp only [ln_]); omega) (by (try simp only [ln_]); omega) (by (try simp only [ln_]); omega)
 ·refine Gl.go (fun _ hr => zifNo ag.here hx (dc at_78) rfl (XT.i0_eq_f nv) (ziconst ag.here hx (dc at_81) (zgoto ag.here hx (pc0 := 82) (pc' := 86) rfl (dc at_82) (by decide) (by decide) (zistore ag.here hx (dc at_86) rfl (l' := #[sI i0, sI i1, sI i2, sI i3, sI i4, sI i5, sR ac, sR ae, sR af, sR aa, sR ab, sI 1, sU, sU, sU, sU, sU, sU, sU, sU, sU, sU, sU, sU, sU]) rfl (ziload ag.here hx (dc at_88) rfl (zbipush ag.here hx (dc at_90) (ziushr ag.here hx (dc at_92) rfl (ziconst ag.here hx (dc at_93) (ziand ag.here hx (dc at_94) rfl hr))))))))) ?_
  by_cases ny : ((XT.ushr i5 (11 : Int32)) &&& (1 : Int32)) = (0 : Int32)
  ·refine Gl.go (fun _ hr => zifYes ag.here hx (pc0 := 95) (pc' := 102) rfl (dc at_95) rfl (XT.i0_eq_t ny) (by decide) (by decide) (ziconst ag.here hx (dc at_102) (zistore ag.here hx (dc at_103) rfl (l' := #[sI i0, sI i1, sI i2, sI i3, sI i4, sI i5, sR ac, sR ae, sR af, sR aa, sR ab, sI 1, sI 0, sU, sU, sU, sU, sU, sU, sU, sU, sU, sU, sU, sU]) rfl (ziload ag.here hx (dc at_105) rfl (zifNo ag.here hx (dc at_107) rfl (XT.i0_eq_f (by decide)) (zaconstNull ag.here hx (dc at_110) (zgoto ag.here hx (pc0 := 111) (pc' := 116) rfl (dc at_111) (by decide) (by decide) (zastore ag.here hx (dc at_116) rfl rfl (l' := #[sI i0, sI i1, sI i2, sI i3, sI i4, sI i5, sR ac, sR ae, sR af, sR aa, sR ab, sI 1, sI 0, .val .null, sU, sU, sU, sU, sU, sU, sU, sU, sU, sU, sU]) rfl (ziload ag.here hx (dc at_118) rfl (zifYes ag.here hx (pc0 := 120) (pc' := 127) rfl (dc at_120) rfl (XT.i0_eq_t (by decide)) (by decide) (by decide) hr)))))))))) ?_
   refine Gl.go (fun _ hr => zaload ag.here hx (dc at_127) rfl rfl (zastore ag.here hx (dc at_129) rfl rfl (l' := #[sI i0, sI i1, sI i2, sI i3, sI i4, sI i5, sR ac, sR ae, sR af, sR aa, sR ab, sI 1, sI 0, .val .null, sR ab, sU, sU, sU, sU, sU, sU, sU, sU, sU, sU]) rfl (ziload ag.here hx (dc at_131) rfl (zifNo ag.here hx (dc at_133) rfl (XT.i0_eq_f (by decide)) hr)))) ?_
   obtain ⟨a6, fi, co, BZ, dr, nG, cD, tR, bc, vc, vr, bv, gZ, nS, nO, nW, nK, -, -, pV, zW, AT, yv⟩ := ldcCH ag hx ah bo (tw hw 248 rfl) hstr (rfl : bp.heap = bp.heap) ef (by have q := eg; omega) hew (by simp [ELs]) g2.2.1 (vs := ((([(110 : Int32), (117 : Int32), (108 : Int32), (108 : Int32)] : List Int32).map (fun c => c.toInt8.toInt32)).map Value.int)) (z := (4 : Int32)) ⟨by decide +kernel, by decide +kernel⟩ (by decide) rfl (g := (mkF m 136 #[sI i0, sI i1, sI i2, sI i3, sI i4, sI i5, sR ac, sR ae, sR af, sR aa, sR ab, sI 1, sI 0, .val .null, sR ab, sU, sU, sU, sU, sU, sU, sU, sU, sU, sU] [])) rfl (dc at_136) (n := 16) (by decide +kernel) (by decide) (by decide) (by decide)
   have Gz : bp.heap.size ≤ co.size := bc.1
   have D1 := own_alt nS.lt
   have D2 := own_alt nO.lt
   have D3 := own_alt nW.lt
   have D4 := own_alt nK.lt
   have ym : ChJ Z fi.vm co := ⟨bv, pV.1, _, hew⟩
   refine Gl.go yv ?_
   show Gl p.tables e below _ (fi.setTop (mkF m 138 #[sI i0, sI i1, sI i2, sI i3, sI i4, sI i5, sR ac, sR ae, sR af, sR aa, sR ab, sI 1, sI 0, .val .null, sR ab, sU, sU, sU, sU, sU, sU, sU, sU, sU, sU] [(.ref a6)]))
   have lx : StrChars.Road.CodA nul4 0 (4 : Int32) ((([(110 : Int32), (117 : Int32), (108 : Int32), (108 : Int32)] : List Int32).map (fun c => c.toInt8.toInt32)).map Value.int) := Or.inl ⟨rfl, rfl, rfl, by decide⟩
   refine Gl.go (fun _ hr => zgoto cD.here hx (pc0 := 138) (pc' := 143) rfl (dc at_138) (by decide) (by decide) (zastore cD.here hx (dc at_143) rfl rfl (l' := #[sI i0, sI i1, sI i2, sI i3, sI i4, sI i5, sR ac, sR ae, sR af, sR aa, sR ab, sI 1, sI 0, .val .null, sR ab, sR a6, sU, sU, sU, sU, sU, sU, sU, sU, sU]) rfl (ziload cD.here hx (dc at_145) rfl (zifYes cD.here hx (pc0 := 147) (pc' := 155) rfl (dc at_147) rfl (XT.i0_eq_t (by decide)) (by decide) (by decide) (zaload cD.here hx (dc at_155) rfl rfl (zastore cD.here hx (dc at_157) rfl rfl (l' := #[sI i0, sI i1, sI i2, sI i3, sI i4, sI i5, sR ac, sR ae, sR af, sR aa, sR ab, sI 1, sI 0, .val .null, sR ab, sR a6, sR ab, sU, sU, sU, sU, sU, sU, sU, sU]) rfl hr)))))) ?_
   have l_nul : nul4.length = 4 := rfl
   refine gNew Gl.cl cD hx bv gZ (tw hw 27 rfl) (tw hw 28 rfl) (tw hw 29 rfl) tR rfl (dc at_159) (by decide) (by decide) ?_
   intro A9 cI al BO fD tS aR hH p0
   have GA : co.size ≤ cI.size := aR.1
   have D5 := own_alt hH.lt
   have qe : Fld Z cI al "org/latchkey/cli/ResultLine" "text" "Ljava/lang/StringBuilder;" .null := p0 (Or.inr (tw hw 106 rfl)) (ty := (.object "java/lang/StringBuilder")) (by decide)
   refine Gl.go (fun _ hr => zdup fD.here hx (dc at_162) rfl rfl (zaload fD.here hx (dc at_163) rfl rfl hr)) ?_
   have j4 := (((dy.keep ai all0).ext bc).ext aR)
   have ie := ((((((dS.keep a5).keep au).keep ap).keep ai).ext bc).ext aR)
   have jf := ((((((dT.keep a5 nin0).keep au nin0).keep ap nin0).keep ai nin0).ext bc).ext aR)
   have jg := ((((((dU.keep a5 nin0).keep au nin0).keep ap nin0).keep ai nin0).ext bc).ext aR)
   have kN := ((((((dV.keep a5 nin0).keep au nin0).keep ap nin0).keep ai nin0).ext bc).ext aR)
   have zy : n0 ≤ cI.size := by omega
   refine gSpecialN Gl.cl (y := y_51) (b := al) (argsL := [(.ref ac)]) (rest := [(.ref al)]) (mc := 3) (ms := 80) fD hx bv gZ rfl (mvT bv (tw hw 30 rfl)) (mvT bv (tw hw 31 rfl)) (mvT bv (tw hw 32 rfl)) (by decide) (backOf (W := 1) (rli l Z a0 hw [] al ac aE bN bK bH bT (sx i0 nw) G1 G3 cI n0 zy q0 (by assumption) ⟨j4, (by omega)⟩ q3 (by assumption) q5 q6 q7 (by omega) hH qe ie jf jg kN bQ (sx_wid _ _) (by (try simp only [ln_]); omega)) bv (tw hw 32 rfl) (tw hw 29 rfl) (by decide) (by decide)) rfl (by rw [hml]; rfl) (lenOf pd_22 rfl) rfl (by exact Nat.le_of_eq rfl) (dc at_165) rfl tS (by decide) (by decide) ?_
   intro FV b9 Ay uL dJ
   obtain ⟨a3, bh, vI, tf, yW, yO, rfl, sA, aU, ed, gE, gF, mB, mC, mD, mE, gG, mF, ua, Bz, BA⟩ := uL
   have GB : cI.size ≤ b9.heap.size := aU.1
   have rp := Fr.app d5 sA
   have D6 := own_alt ed.lt
   have D7 := own_alt gE.lt
   have D8 := own_alt gF.lt
   have D9 := own_alt mB.lt
   have Ea := own_alt mC.lt
   have Eb := own_alt mD.lt
   have Ec := own_alt mE.lt
   have Ed := own_alt gG.lt
   have Ee := own_alt mF.lt
   refine Gl.go (fun _ hr => zastore dJ.here hx (dc at_168) rfl rfl (l' := #[sI i0, sI i1, sI i2, sI i3, sI i4, sI i5, sR ac, sR ae, sR af, sR aa, sR ab, sI 1, sI 0, .val .null, sR ab, sR a6, sR ab, sR al, sU, sU, sU, sU, sU, sU, sU]) rfl (zaload dJ.here hx (dc at_170) rfl rfl (zaload dJ.here hx (dc at_172) rfl rfl (zaload dJ.here hx (dc at_174) rfl rfl hr)))) ?_
   have wV : Lq Z.heap.size al := by omega
   have j5 := (j4.keep aU (allS (own_ale wV) all0))
   have ig := ((((((dW.keep au).keep ap).keep ai).ext bc).ext aR).keep aU)
   have oU : Nq ae al := by omega
   have jh := ((((((dX.keep au nin0).keep ap nin0).keep ai nin0).ext bc).ext aR).keep aU (ninS (own_ane oU) nin0))
   have ji := ((((((dY.keep au nin0).keep ap nin0).keep ai nin0).ext bc).ext aR).keep aU (ninS (own_ane oU) nin0))
   have wW : Nq aF al := by omega
   have kO := ((((((dZ.keep au nin0).keep ap nin0).keep ai nin0).ext bc).ext aR).keep aU (ninS (own_ane wW) nin0))
   have zA : n0 ≤ b9.heap.size := by omega
   have wX : Lq co.size al := by omega
   have wY : Lq co.size a3 := by omega
   have wZ : Lq co.size bh := by omega
   have yn : ChS Z a3 bh fi.vm b9.heap := ChS.make ym (((Keep.refl co []).ext aR).trans aU (allS (P := fun x_ => x_ ∈ ([] : List Addr) ∨ co.size ≤ x_) (Or.inr (own_ale wX)) all0)) (own_ale wY) (own_ale wZ) gF.lt gG.lt
   refine gVirtualJ Gl.cl (y := y_56) (z := y_56) (b := al) (argsL := [(.ref ae), .null]) (rest := []) (mc := 4) (ms := 92) (Φ := fun vm => ChS Z a3 bh vm b9.heap) dJ hx bv vc (by have q := vr; omega) gZ (mvT bv (tw hw 107 rfl)) (mvT bv (tw hw 108 rfl)) (notFace_of_selects (args := #[]) (mvT bv (tw hw 110 rfl))) (mvT bv (tw hw 110 rfl)) (mvT bv (tw hw 109 rfl)) (by decide) ed (backOfJ (Φ := fun vm => ChS Z a3 bh vm b9.heap) (W := 0) (fln l Z a0 hw [] al a3 bh vI ((sx i0 nw).length + 16) (sx i0 nw) tf yW yO ae aF bO bL bI bU (sx i1 na) G1 G3 b9.heap n0 zA q0 (by assumption) ⟨j5, (by omega)⟩ q3 (by assumption) q5 q6 q7 (by assumption) ed gE gF mB mC mD mE gG mF ua (by omega) (by omega) (by omega) (by (try simp only [ln_]); omega) ig jh ji kO bR (sx_wid _ _) (by omega) (by omega) (by omega) (by omega) (by (try simp only [ln_]); omega) (by (try simp only [ln_]); omega)) bv (tw hw 111 rfl) (tw hw 29 rfl) (by decide) (by decide)) rfl (by rw [hml]; rfl) (lenOf pd_42 rfl) rfl (by exact Nat.le_of_eq rfl) (dc at_176) rfl (rfl : b9.heap = b9.heap) (fun vm₁ hvm => yn.warm hvm) (by decide) (by decide) ?_
   intro FW cw Az uM fE ve ao cg vt
   obtain ⟨bj, nD, lj, pS, pO, rfl, sB, aN, gH, gI, gJ, gK, gL, gM, gN, mG, mH, BB, Fl⟩ := uM
   have GC : b9.heap.size ≤ cw.heap.size := aN.1
   have rq := Fr.app rp sB
   have Ef := own_alt gH.lt
   have Eg := own_alt gI.lt
   have Eh := own_alt gJ.lt
   have Ei := own_alt gK.lt
   have Ej := own_alt gL.lt
   have Ek := own_alt gM.lt
   have El := own_alt gN.lt
   have BU : Lq cI.size bj := by rcases mH with q | q <;> omega
   clear mH
   refine Gl.go (fun _ hr => zastore fE.here hx (dc at_179) rfl rfl (l' := #[sI i0, sI i1, sI i2, sI i3, sI i4, sI i5, sR ac, sR ae, sR af, sR aa, sR ab, sI 1, sI 0, .val .null, sR ab, sR a6, sR ab, sR al, sR al, sU, sU, sU, sU, sU, sU]) rfl (zaload fE.here hx (dc at_181) rfl rfl hr)) ?_
   have oV : Lq Z.heap.size a3 := by omega
   have w6 : Lq Z.heap.size bh := by omega
   have j6 := (j5.keep aN (allS (own_ale oV) (allS (own_ale w6) all0)))
   have eR := (ed.keep aN)
   have oW : Nq al a3 := by omega
   have w7 : Nq al bh := by omega
   have jj := (gE.keep aN (ninS (own_ane oW) (ninS (own_ane w7) nin0)))
   have zB : n0 ≤ cw.heap.size := by omega
   refine gVirtualN Gl.cl (y := y_57) (z := y_57) (b := al) (argsL := []) (rest := []) (mc := 2) (ms := 40) fE hx ao cg (mvT ao (tw hw 145 rfl)) (mvT ao (tw hw 146 rfl)) (notFace_of_selects (args := #[]) (mvT ao (tw hw 148 rfl))) (mvT ao (tw hw 148 rfl)) (mvT ao (tw hw 147 rfl)) (by decide) eR (backOf (W := 0) (rts l Z a0 hw [] al a3 bj nD ((sx i0 nw).length + 16) (((((sx i0 nw) ++ [(32 : Int32)]) ++ (sx i1 na)) ++ [(61 : Int32)]) ++ nul4) lj pS pO G1 cw.heap n0 zB q0 (by assumption) ⟨j6, (by omega)⟩ eR jj gH gI gJ gK gL gM gN mG (by (try simp only [ln_]); omega) (by (try simp only [ln_]); omega)) ao (tw hw 149 rfl) (tw hw 29 rfl) (by decide) (by decide)) rfl (by rw [hml]; rfl) (lenOf pd_34 rfl) rfl (by exact Nat.le_of_eq rfl) (dc at_183) rfl (rfl : cw.heap = cw.heap) (by decide) (by decide) ?_
   intro FX cX AA uN dK
   obtain ⟨bF, he, vQ, tn, rP, yG, rfl, sC, ay, mI, mJ, mK, mL, BC, yc⟩ := uN
   have GD : cw.heap.size ≤ cX.heap.size := ay.1
   have rr := Fr.app rq sC
   have Em := own_alt mI.lt
   have En := own_alt mJ.lt
   have Eo := own_alt mK.lt
   have Ep := own_alt mL.lt
   refine Gl.go (fun _ hr => zastore dK.here hx (dc at_186) rfl rfl (l' := #[sI i0, sI i1, sI i2, sI i3, sI i4, sI i5, sR ac, sR ae, sR af, sR aa, sR ab, sI 1, sI 0, .val .null, sR ab, sR a6, sR ab, sR al, sR al, sR bF, sU, sU, sU, sU, sU]) rfl (zaload dK.here hx (dc at_188) rfl rfl (zaload dK.here hx (dc at_190) rfl rfl (zaload dK.here hx (dc at_192) rfl rfl hr)))) ?_
   have j7 := (j6.keep ay all0)
   have eS := (eR.keep ay)
   have jk := (jj.keep ay nin0)
   have p6 := (gH.keep ay)
   have qu := (gI.keep ay nin0)
   have qv := (gJ.keep ay nin0)
   have qw := (gK.keep ay nin0)
   have qx := (gL.keep ay nin0)
   have p7 := (gM.keep ay)
   have s3 := (gN.keep ay nin0)
   have ii := (((((((d0.keep ap).keep ai).ext bc).ext aR).keep aU).keep aN).keep ay)
   have oX : Nq af al := by omega
   have es : Nq af a3 := by omega
   have oY : Nq af bh := by omega
   have jl := (((((((d1.keep ap nin0).keep ai nin0).ext bc).ext aR).keep aU (ninS (own_ane oX) nin0)).keep aN (ninS (own_ane es) (ninS (own_ane oY) nin0))).keep ay nin0)
   have jm := (((((((d2.keep ap nin0).keep ai nin0).ext bc).ext aR).keep aU (ninS (own_ane oX) nin0)).keep aN (ninS (own_ane es) (ninS (own_ane oY) nin0))).keep ay nin0)
   have w8 : Nq aG al := by omega
   have oZ : Nq aG a3 := by omega
   have w9 : Nq aG bh := by omega
   have kQ := (((((((d3.keep ap nin0).keep ai nin0).ext bc).ext aR).keep aU (ninS (own_ane w8) nin0)).keep aN (ninS (own_ane oZ) (ninS (own_ane w9) nin0))).keep ay nin0)
   have ij := (((((gg.ext bc).ext aR).keep aU).keep aN).keep ay)
   have o0 : Nq ab al := by omega
   have et : Nq ab a3 := by omega
   have o1 : Nq ab bh := by omega
   have jn := (((((gh.ext bc).ext aR).keep aU (ninS (own_ane o0) nin0)).keep aN (ninS (own_ane et) (ninS (own_ane o1) nin0))).keep ay nin0)
   have jo := (((((gi.ext bc).ext aR).keep aU (ninS (own_ane o0) nin0)).keep aN (ninS (own_ane et) (ninS (own_ane o1) nin0))).keep ay nin0)
   have xc : Nq bD al := by omega
   have o2 : Nq bD a3 := by omega
   have xd : Nq bD bh := by omega
   have kR := (((((gj.ext bc).ext aR).keep aU (ninS (own_ane xc) nin0)).keep aN (ninS (own_ane o2) (ninS (own_ane xd) nin0))).keep ay nin0)
   have zC : n0 ≤ cX.heap.size := by omega
   refine gVirtualN Gl.cl (y := y_56) (z := y_56) (b := al) (argsL := [(.ref af), (.ref ab)]) (rest := []) (mc := 2) (ms := 72) dK hx ao cg (mvT ao (tw hw 107 rfl)) (mvT ao (tw hw 108 rfl)) (notFace_of_selects (args := #[]) (mvT ao (tw hw 110 rfl))) (mvT ao (tw hw 110 rfl)) (mvT ao (tw hw 109 rfl)) (by decide) eS (backOf (W := 0) (fls l Z a0 hw [] al a3 bj nD ((sx i0 nw).length + 16) (((((sx i0 nw) ++ [(32 : Int32)]) ++ (sx i1 na)) ++ [(61 : Int32)]) ++ nul4) lj pS pO af aG bP bM bJ bV (sx i3 nb) ab bD dl de cP dx (sx i4 nvb) G1 G3 cX.heap n0 zC q0 (by assumption) ⟨j7, (by omega)⟩ q3 (by assumption) q5 q6 q7 eS jk p6 qu qv qw qx p7 s3 mG (by omega) (by omega) (by omega) (by (try simp only [ln_]); omega) ii jl jm kQ bS (sx_wid _ _) (by omega) (by omega) (by omega) (by omega) ij jn jo kR dn (sx_wid _ _) (by omega) (by omega) (by omega) (by omega) (by (try simp only [ln_]); omega) (by (try simp only [ln_]); omega)) ao (tw hw 111 rfl) (tw hw 29 rfl) (by decide) (by decide)) rfl (by rw [hml]; rfl) (lenOf pd_42 rfl) rfl (by exact Nat.le_of_eq rfl) (dc at_194) rfl (rfl : cX.heap = cX.heap) (by decide) (by decide) ?_
   intro FY cY AB uO fF
   obtain ⟨lf, vJ, tg, yX, yP, rfl, sD, aB, mM, mN, mO, mP, mQ, mR, mS, ub, mT, BD⟩ := uO
   have GE : cX.heap.size ≤ cY.heap.size := aB.1
   have rt := Fr.app rr sD
   have Er := own_alt mM.lt
   have Es := own_alt mN.lt
   have Et := own_alt mO.lt
   have Eu := own_alt mP.lt
   have Ev := own_alt mQ.lt
   have Ew := own_alt mR.lt
   have Ex := own_alt mS.lt
   have BV : Lq cI.size lf := by rcases mT with q | q <;> omega
   clear mT
   refine Gl.go (fun _ hr => zastore fF.here hx (dc at_197) rfl rfl (l' := #[sI i0, sI i1, sI i2, sI i3, sI i4, sI i5, sR ac, sR ae, sR af, sR aa, sR ab, sI 1, sI 0, .val .null, sR ab, sR a6, sR ab, sR al, sR al, sR bF, sR al, sU, sU, sU, sU]) rfl (zaload fF.here hx (dc at_199) rfl rfl hr)) ?_
   have xe : Lq Z.heap.size bj := by omega
   have j8 := (j7.keep aB (allS (own_ale oV) (allS (own_ale xe) all0)))
   have ik := (eS.keep aB)
   have xf : Nq al bj := by omega
   have qy := (jk.keep aB (ninS (own_ane oW) (ninS (own_ane xf) nin0)))
   have zD : n0 ≤ cY.heap.size := by omega
   refine gVirtualN Gl.cl (y := y_57) (z := y_57) (b := al) (argsL := []) (rest := []) (mc := 2) (ms := 40) fF hx ao cg (mvT ao (tw hw 145 rfl)) (mvT ao (tw hw 146 rfl)) (notFace_of_selects (args := #[]) (mvT ao (tw hw 148 rfl))) (mvT ao (tw hw 148 rfl)) (mvT ao (tw hw 147 rfl)) (by decide) ik (backOf (W := 0) (rts l Z a0 hw [] al a3 lf vJ ((sx i0 nw).length + 16) (((((((((sx i0 nw) ++ [(32 : Int32)]) ++ (sx i1 na)) ++ [(61 : Int32)]) ++ nul4) ++ [(32 : Int32)]) ++ (sx i3 nb)) ++ [(61 : Int32)]) ++ (sx i4 nvb)) tg yX yP G1 cY.heap n0 zD q0 (by assumption) ⟨j8, (by omega)⟩ ik qy mM mN mO mP mQ mR mS ub (by (try simp only [ln_]); omega) (by (try simp only [ln_]); omega)) ao (tw hw 149 rfl) (tw hw 29 rfl) (by decide) (by decide)) rfl (by rw [hml]; rfl) (lenOf pd_34 rfl) rfl (by exact Nat.le_of_eq rfl) (dc at_201) rfl (rfl : cY.heap = cY.heap) (by decide) (by decide) ?_
   intro FZ bs AC uP fG
   obtain ⟨cj, yA, vR, tp, rQ, yH, rfl, sE, aJ, mU, mV, mW, mX, BE, yd⟩ := uP
   have GF : cY.heap.size ≤ bs.heap.size := aJ.1
   have ru := Fr.app rt sE
   have Ey := own_alt mU.lt
   have Ez := own_alt mV.lt
   have EA := own_alt mW.lt
   have EB := own_alt mX.lt
   refine Gl.go (fun _ hr => zastore fG.here hx (dc at_204) rfl rfl (l' := #[sI i0, sI i1, sI i2, sI i3, sI i4, sI i5, sR ac, sR ae, sR af, sR aa, sR ab, sI 1, sI 0, .val .null, sR ab, sR a6, sR ab, sR al, sR al, sR bF, sR al, sR cj, sU, sU, sU]) rfl (zaload fG.here hx (dc at_206) rfl rfl hr)) ?_
   have dB := (j8.keep aJ all0)
   have eU := (((((ie.keep aU).keep aN).keep ay).keep aB).keep aJ)
   have o3 : Nq ac al := by omega
   have eu : Nq ac a3 := by omega
   have o4 : Nq ac bh := by omega
   have o5 : Nq ac bj := by omega
   have jp := (((((jf.keep aU (ninS (own_ane o3) nin0)).keep aN (ninS (own_ane eu) (ninS (own_ane o4) nin0))).keep ay nin0).keep aB (ninS (own_ane eu) (ninS (own_ane o5) nin0))).keep aJ nin0)
   have jq := (((((jg.keep aU (ninS (own_ane o3) nin0)).keep aN (ninS (own_ane eu) (ninS (own_ane o4) nin0))).keep ay nin0).keep aB (ninS (own_ane eu) (ninS (own_ane o5) nin0))).keep aJ nin0)
   have xg : Nq aE al := by omega
   have o6 : Nq aE a3 := by omega
   have xh : Nq aE bh := by omega
   have xi : Nq aE bj := by omega
   have kT := (((((kN.keep aU (ninS (own_ane xg) nin0)).keep aN (ninS (own_ane o6) (ninS (own_ane xh) nin0))).keep ay nin0).keep aB (ninS (own_ane o6) (ninS (own_ane xi) nin0))).keep aJ nin0)
   have zE : n0 ≤ bs.heap.size := by omega
   refine gVirtualN Gl.cl (y := y_12) (z := y_12) (b := ac) (argsL := []) (rest := []) (mc := 0) (ms := 0) fG hx ao cg (mvT ao (tw hw 191 rfl)) (mvT ao (tw hw 48 rfl)) (notFace_of_selects (args := #[]) (mvT ao (tw hw 50 rfl))) (mvT ao (tw hw 50 rfl)) (mvT ao (tw hw 49 rfl)) (by decide) eU (backOf (W := 0) (slG l Z a0 hw [] ac aE bN bK bH bT (sx i0 nw) G1 bs.heap n0 zE q0 (by assumption) ⟨dB, (by omega)⟩ eU jp jq kT bQ (sx_wid _ _) (by (try simp only [ln_]); omega)) ao (tw hw 51 rfl) (tw hw 7 rfl) (by decide) (by decide)) rfl (by rw [hml]; rfl) (lenOf pd_15 rfl) rfl (by exact Nat.le_of_eq rfl) (dc at_208) rfl (rfl : bs.heap = bs.heap) (by decide) (by decide) ?_
   intro F1 Ba AD uQ c9
   obtain ⟨rfl, sF, tT⟩ := uQ
   have rv := Fr.app ru sF
   refine Gl.go (fun _ hr => zistore c9.here hx (dc at_211) rfl (l' := #[sI i0, sI i1, sI i2, sI i3, sI i4, sI i5, sR ac, sR ae, sR af, sR aa, sR ab, sI 1, sI 0, .val .null, sR ab, sR a6, sR ab, sR al, sR al, sR bF, sR al, sR cj, sI (Int32.ofNat (sx i0 nw).length), sU, sU]) rfl (ziload c9.here hx (dc at_213) rfl (ziconst c9.here hx (dc at_215) (ziadd c9.here hx (dc at_216) rfl (zaload c9.here hx (dc at_217) rfl rfl hr))))) ?_
   have eV := ((((ig.keep aN).keep ay).keep aB).keep aJ)
   have ew : Nq ae a3 := by omega
   have o7 : Nq ae bh := by omega
   have o8 : Nq ae bj := by omega
   have jr := ((((jh.keep aN (ninS (own_ane ew) (ninS (own_ane o7) nin0))).keep ay nin0).keep aB (ninS (own_ane ew) (ninS (own_ane o8) nin0))).keep aJ nin0)
   have js := ((((ji.keep aN (ninS (own_ane ew) (ninS (own_ane o7) nin0))).keep ay nin0).keep aB (ninS (own_ane ew) (ninS (own_ane o8) nin0))).keep aJ nin0)
   have o9 : Nq aF a3 := by omega
   have xj : Nq aF bh := by omega
   have xk : Nq aF bj := by omega
   have kU := ((((kO.keep aN (ninS (own_ane o9) (ninS (own_ane xj) nin0))).keep ay nin0).keep aB (ninS (own_ane o9) (ninS (own_ane xk) nin0))).keep aJ nin0)
   have zF : n0 ≤ bs.heap.size := by omega
   refine gVirtualN Gl.cl (y := y_12) (z := y_12) (b := ae) (argsL := []) (rest := [(.int ((Int32.ofNat (sx i0 nw).length) + (2 : Int32)))]) (mc := 0) (ms := 0) c9 hx ao cg (mvT ao (tw hw 191 rfl)) (mvT ao (tw hw 48 rfl)) (notFace_of_selects (args := #[]) (mvT ao (tw hw 50 rfl))) (mvT ao (tw hw 50 rfl)) (mvT ao (tw hw 49 rfl)) (by decide) eV (backOf (W := 1) (slG l Z a0 hw [] ae aF bO bL bI bU (sx i1 na) G1 bs.heap n0 zF q0 (by assumption) ⟨dB, (by omega)⟩ eV jr js kU bR (sx_wid _ _) (by (try simp only [ln_]); omega)) ao (tw hw 51 rfl) (tw hw 7 rfl) (by decide) (by decide)) rfl (by rw [hml]; rfl) (lenOf pd_15 rfl) rfl (by exact Nat.le_of_eq rfl) (dc at_219) rfl tT (by decide) (by decide) ?_
   intro F2 Bb AE uR fH
   obtain ⟨rfl, sG, tU⟩ := uR
   have rx := Fr.app rv sG
   refine Gl.go (fun _ hr => ziadd fH.here hx (dc at_222) rfl (zaload fH.here hx (dc at_223) rfl rfl hr)) ?_
   have eW := ((((((nS.ext aR).keep aU).keep aN).keep ay).keep aB).keep aJ)
   have pa : Nq a6 al := by omega
   have ex : Nq a6 a3 := by omega
   have pb : Nq a6 bh := by omega
   have pd : Nq a6 bj := by omega
   have jt := ((((((nW.ext aR).keep aU (ninS (own_ane pa) nin0)).keep aN (ninS (own_ane ex) (ninS (own_ane pb) nin0))).keep ay nin0).keep aB (ninS (own_ane ex) (ninS (own_ane pd) nin0))).keep aJ nin0)
   have ju := ((((((nO.ext aR).keep aU (ninS (own_ane pa) nin0)).keep aN (ninS (own_ane ex) (ninS (own_ane pb) nin0))).keep ay nin0).keep aB (ninS (own_ane ex) (ninS (own_ane pd) nin0))).keep aJ nin0)
   have xl : Nq dr al := by omega
   have pe : Nq dr a3 := by omega
   have xm : Nq dr bh := by omega
   have xn : Nq dr bj := by omega
   have kV := ((((((nK.ext aR).keep aU (ninS (own_ane xl) nin0)).keep aN (ninS (own_ane pe) (ninS (own_ane xm) nin0))).keep ay nin0).keep aB (ninS (own_ane pe) (ninS (own_ane xn) nin0))).keep aJ nin0)
   have zG : n0 ≤ bs.heap.size := by omega
   refine gVirtualN Gl.cl (y := y_12) (z := y_12) (b := a6) (argsL := []) (rest := [(.int (((Int32.ofNat (sx i0 nw).length) + (2 : Int32)) + (Int32.ofNat (sx i1 na).length)))]) (mc := 0) (ms := 0) fH hx ao cg (mvT ao (tw hw 191 rfl)) (mvT ao (tw hw 48 rfl)) (notFace_of_selects (args := #[]) (mvT ao (tw hw 50 rfl))) (mvT ao (tw hw 50 rfl)) (mvT ao (tw hw 49 rfl)) (by decide) eW (backOf (W := 1) (slG l Z a0 hw [] a6 dr nG (0 : Int32) (4 : Int32) ((([(110 : Int32), (117 : Int32), (108 : Int32), (108 : Int32)] : List Int32).map (fun c => c.toInt8.toInt32)).map Value.int) nul4 G1 bs.heap n0 zG q0 (by assumption) ⟨dB, (by omega)⟩ eW jt ju kV lx (by decide) (by decide)) ao (tw hw 51 rfl) (tw hw 7 rfl) (by decide) (by decide)) rfl (by rw [hml]; rfl) (lenOf pd_15 rfl) rfl (by exact Nat.le_of_eq rfl) (dc at_225) rfl tU (by decide) (by decide) ?_
   intro F3 km AF uS cE
   obtain ⟨rfl, sH, tV⟩ := uS
   have ry := Fr.app rx sH
   refine Gl.go (fun _ hr => ziadd cE.here hx (dc at_228) rfl hr) ?_
   show Gl p.tables e below _ (km.setTop (mkF m 229 #[sI i0, sI i1, sI i2, sI i3, sI i4, sI i5, sR ac, sR ae, sR af, sR aa, sR ab, sI 1, sI 0, .val .null, sR ab, sR a6, sR ab, sR al, sR al, sR bF, sR al, sR cj, sI (Int32.ofNat (sx i0 nw).length), sU, sU] [(.int ((((Int32.ofNat (sx i0 nw).length) + (2 : Int32)) + (Int32.ofNat (sx i1 na).length)) + (Int32.ofNat nul4.length)))]))
   rw [(show Int32.ofNat (sx i0 nw).length + (2 : Int32) + Int32.ofNat (sx i1 na).length + Int32.ofNat nul4.length = Int32.ofNat (((((sx i0 nw) ++ [(32 : Int32)]) ++ (sx i1 na)) ++ [(61 : Int32)]) ++ nul4).length from by rw [show Int32.ofNat (sx i0 nw).length + (2 : Int32) = Int32.ofNat ((sx i0 nw).length + 2) from own_add32 _ 2, own_add32, own_add32]; congr 1; simp only [ln_]; omega)]
   show Gl p.tables e below _ (km.setTop (mkF m 229 #[sI i0, sI i1, sI i2, sI i3, sI i4, sI i5, sR ac, sR ae, sR af, sR aa, sR ab, sI 1, sI 0, .val .null, sR ab, sR a6, sR ab, sR al, sR al, sR bF, sR al, sR cj, sI (Int32.ofNat (sx i0 nw).length), sU, sU] [(.int (Int32.ofNat (((((sx i0 nw) ++ [(32 : Int32)]) ++ (sx i1 na)) ++ [(61 : Int32)]) ++ nul4).length))]))
   refine Gl.go (fun _ hr => zistore cE.here hx (dc at_229) rfl (l' := #[sI i0, sI i1, sI i2, sI i3, sI i4, sI i5, sR ac, sR ae, sR af, sR aa, sR ab, sI 1, sI 0, .val .null, sR ab, sR a6, sR ab, sR al, sR al, sR bF, sR al, sR cj, sI (Int32.ofNat (sx i0 nw).length), sI (Int32.ofNat (((((sx i0 nw) ++ [(32 : Int32)]) ++ (sx i1 na)) ++ [(61 : Int32)]) ++ nul4).length), sU]) rfl (ziload cE.here hx (dc at_231) rfl (ziconst cE.here hx (dc at_233) (ziadd cE.here hx (dc at_234) rfl (zaload cE.here hx (dc at_235) rfl rfl hr))))) ?_
   have eX := ((ii.keep aB).keep aJ)
   have pf : Nq af bj := by omega
   have jv := ((jl.keep aB (ninS (own_ane es) (ninS (own_ane pf) nin0))).keep aJ nin0)
   have jw := ((jm.keep aB (ninS (own_ane es) (ninS (own_ane pf) nin0))).keep aJ nin0)
   have xo : Nq aG bj := by omega
   have kW := ((kQ.keep aB (ninS (own_ane oZ) (ninS (own_ane xo) nin0))).keep aJ nin0)
   have zH : n0 ≤ bs.heap.size := by omega
   refine gVirtualN Gl.cl (y := y_12) (z := y_12) (b := af) (argsL := []) (rest := [(.int ((Int32.ofNat (((((sx i0 nw) ++ [(32 : Int32)]) ++ (sx i1 na)) ++ [(61 : Int32)]) ++ nul4).length) + (2 : Int32)))]) (mc := 0) (ms := 0) cE hx ao cg (mvT ao (tw hw 191 rfl)) (mvT ao (tw hw 48 rfl)) (notFace_of_selects (args := #[]) (mvT ao (tw hw 50 rfl))) (mvT ao (tw hw 50 rfl)) (mvT ao (tw hw 49 rfl)) (by decide) eX (backOf (W := 1) (slG l Z a0 hw [] af aG bP bM bJ bV (sx i3 nb) G1 bs.heap n0 zH q0 (by assumption) ⟨dB, (by omega)⟩ eX jv jw kW bS (sx_wid _ _) (by (try simp only [ln_]); omega)) ao (tw hw 51 rfl) (tw hw 7 rfl) (by decide) (by decide)) rfl (by rw [hml]; rfl) (lenOf pd_15 rfl) rfl (by exact Nat.le_of_eq rfl) (dc at_237) rfl tV (by decide) (by decide) ?_
   intro F4 Bc AG uT fI
   obtain ⟨rfl, sJ, tW⟩ := uT
   have rz := Fr.app ry sJ
   refine Gl.go (fun _ hr => ziadd fI.here hx (dc at_240) rfl (zaload fI.here hx (dc at_241) rfl rfl hr)) ?_
   have eY := ((ij.keep aB).keep aJ)
   have pg : Nq ab bj := by omega
   have jx := ((jn.keep aB (ninS (own_ane et) (ninS (own_ane pg) nin0))).keep aJ nin0)
   have jy := ((jo.keep aB (ninS (own_ane et) (ninS (own_ane pg) nin0))).keep aJ nin0)
   have xp : Nq bD bj := by omega
   have kX := ((kR.keep aB (ninS (own_ane o2) (ninS (own_ane xp) nin0))).keep aJ nin0)
   have zI : n0 ≤ bs.heap.size := by omega
   refine gVirtualN Gl.cl (y := y_12) (z := y_12) (b := ab) (argsL := []) (rest := [(.int (((Int32.ofNat (((((sx i0 nw) ++ [(32 : Int32)]) ++ (sx i1 na)) ++ [(61 : Int32)]) ++ nul4).length) + (2 : Int32)) + (Int32.ofNat (sx i3 nb).length)))]) (mc := 0) (ms := 0) fI hx ao cg (mvT ao (tw hw 191 rfl)) (mvT ao (tw hw 48 rfl)) (notFace_of_selects (args := #[]) (mvT ao (tw hw 50 rfl))) (mvT ao (tw hw 50 rfl)) (mvT ao (tw hw 49 rfl)) (by decide) eY (backOf (W := 1) (slG l Z a0 hw [] ab bD dl de cP dx (sx i4 nvb) G1 bs.heap n0 zI q0 (by assumption) ⟨dB, (by omega)⟩ eY jx jy kX dn (sx_wid _ _) (by (try simp only [ln_]); omega)) ao (tw hw 51 rfl) (tw hw 7 rfl) (by decide) (by decide)) rfl (by rw [hml]; rfl) (lenOf pd_15 rfl) rfl (by exact Nat.le_of_eq rfl) (dc at_243) rfl tW (by decide) (by decide) ?_
   intro F5 fj AH uU fJ
   obtain ⟨rfl, sK, tX⟩ := uU
   have rA := Fr.app rz sK
   refine Gl.go (fun _ hr => ziadd fJ.here hx (dc at_246) rfl hr) ?_
   show Gl p.tables e below _ (fj.setTop (mkF m 247 #[sI i0, sI i1, sI i2, sI i3, sI i4, sI i5, sR ac, sR ae, sR af, sR aa, sR ab, sI 1, sI 0, .val .null, sR ab, sR a6, sR ab, sR al, sR al, sR bF, sR al, sR cj, sI (Int32.ofNat (sx i0 nw).length), sI (Int32.ofNat (((((sx i0 nw) ++ [(32 : Int32)]) ++ (sx i1 na)) ++ [(61 : Int32)]) ++ nul4).length), sU] [(.int ((((Int32.ofNat (((((sx i0 nw) ++ [(32 : Int32)]) ++ (sx i1 na)) ++ [(61 : Int32)]) ++ nul4).length) + (2 : Int32)) + (Int32.ofNat (sx i3 nb).length)) + (Int32.ofNat (sx i4 nvb).length)))]))
   rw [(show Int32.ofNat (((((sx i0 nw) ++ [(32 : Int32)]) ++ (sx i1 na)) ++ [(61 : Int32)]) ++ nul4).length + (2 : Int32) + Int32.ofNat (sx i3 nb).length + Int32.ofNat (sx i4 nvb).length = Int32.ofNat (((((((((sx i0 nw) ++ [(32 : Int32)]) ++ (sx i1 na)) ++ [(61 : Int32)]) ++ nul4) ++ [(32 : Int32)]) ++ (sx i3 nb)) ++ [(61 : Int32)]) ++ (sx i4 nvb)).length from by rw [show Int32.ofNat (((((sx i0 nw) ++ [(32 : Int32)]) ++ (sx i1 na)) ++ [(61 : Int32)]) ++ nul4).length + (2 : Int32) = Int32.ofNat ((((((sx i0 nw) ++ [(32 : Int32)]) ++ (sx i1 na)) ++ [(61 : Int32)]) ++ nul4).length + 2) from own_add32 _ 2, own_add32, own_add32]; congr 1; simp only [ln_]; omega)]
   show Gl p.tables e below _ (fj.setTop (mkF m 247 #[sI i0, sI i1, sI i2, sI i3, sI i4, sI i5, sR ac, sR ae, sR af, sR aa, sR ab, sI 1, sI 0, .val .null, sR ab, sR a6, sR ab, sR al, sR al, sR bF, sR al, sR cj, sI (Int32.ofNat (sx i0 nw).length), sI (Int32.ofNat (((((sx i0 nw) ++ [(32 : Int32)]) ++ (sx i1 na)) ++ [(61 : Int32)]) ++ nul4).length), sU] [(.int (Int32.ofNat (((((((((sx i0 nw) ++ [(32 : Int32)]) ++ (sx i1 na)) ++ [(61 : Int32)]) ++ nul4) ++ [(32 : Int32)]) ++ (sx i3 nb)) ++ [(61 : Int32)]) ++ (sx i4 nvb)).length))]))
   refine Gl.go (fun _ hr => zistore fJ.here hx (dc at_247) rfl (l' := #[sI i0, sI i1, sI i2, sI i3, sI i4, sI i5, sR ac, sR ae, sR af, sR aa, sR ab, sI 1, sI 0, .val .null, sR ab, sR a6, sR ab, sR al, sR al, sR bF, sR al, sR cj, sI (Int32.ofNat (sx i0 nw).length), sI (Int32.ofNat (((((sx i0 nw) ++ [(32 : Int32)]) ++ (sx i1 na)) ++ [(61 : Int32)]) ++ nul4).length), sI (Int32.ofNat (((((((((sx i0 nw) ++ [(32 : Int32)]) ++ (sx i1 na)) ++ [(61 : Int32)]) ++ nul4) ++ [(32 : Int32)]) ++ (sx i3 nb)) ++ [(61 : Int32)]) ++ (sx i4 nvb)).length)]) rfl hr) ?_
   have xq : Lq h0.size al := by omega
   have ph : Lq h0.size a3 := by omega
   have xr : Lq h0.size bh := by omega
   have xu : Lq h0.size bj := by omega
   have p8 := ((mI.keep aB).keep aJ)
   have pi : Nq bF a3 := by omega
   have pj : Nq bF bj := by omega
   have qz := ((mJ.keep aB (ninS (own_ane pi) (ninS (own_ane pj) nin0))).keep aJ nin0)
   have qA := ((mK.keep aB (ninS (own_ane pi) (ninS (own_ane pj) nin0))).keep aJ nin0)
   have xx : Nq he a3 := by omega
   have xy : Nq he bj := by omega
   have s5 := ((mL.keep aB (ninS (own_ane xx) (ninS (own_ane xy) nin0))).keep aJ nin0)
   exact tC fj bs.heap _ cw.vm _ (sx i0 nw) (sx i1 na) nul4 (sx i3 nb) (sx i4 nvb) ac aE bN bK bH bT ae aF bO bL bI bU a6 dr nG (0 : Int32) (4 : Int32) ((([(110 : Int32), (117 : Int32), (108 : Int32), (108 : Int32)] : List Int32).map (fun c => c.toInt8.toInt32)).map Value.int) af aG bP bM bJ bV ab bD dl de cP dx bF he vQ tn rP yG cj yA vR tp rQ yH al (sR aa) (sR ab) (sI 1) (sI 0) (.val .null) (sR ab) rA (fJ.more (by decide) (by decide)) tX (((((((((((((Keep.refl h0 []).trans cN all0).trans a5 all0).trans au all0).trans ap all0).trans ai all0).ext bc).ext aR).trans aU (allS (P := fun x_ => x_ ∈ ([] : List Addr) ∨ h0.size ≤ x_) (Or.inr (own_ale xq)) all0)).trans aN (allS (P := fun x_ => x_ ∈ ([] : List Addr) ∨ h0.size ≤ x_) (Or.inr (own_ale ph)) (allS (P := fun x_ => x_ ∈ ([] : List Addr) ∨ h0.size ≤ x_) (Or.inr (own_ale xr)) all0))).trans ay all0).trans aB (allS (P := fun x_ => x_ ∈ ([] : List Addr) ∨ h0.size ≤ x_) (Or.inr (own_ale ph)) (allS (P := fun x_ => x_ ∈ ([] : List Addr) ∨ h0.size ≤ x_) (Or.inr (own_ale xu)) all0))).trans aJ all0) ve (by have q := vt; omega) ao cg eU jp jq kT eV jr js kU eW jt ju kV eX jv jw kW eY jx jy kX p8 qz qA s5 mU mV mW mX bQ (sx_wid _ _) bR (sx_wid _ _) lx (by decide) bS (sx_wid _ _) dn (sx_wid _ _) yc (own_widC (own_widC (own_widC (own_widC (sx_wid _ _) (by decide)) (sx_wid _ _)) (by decide)) (by decide)) yd (own_widC (own_widC (own_widC (own_widC (own_widC (own_widC (own_widC (own_widC (sx_wid _ _) (by decide)) (sx_wid _ _)) (by decide)) (by decide)) (by decide)) (sx_wid _ _)) (by decide)) (sx_wid _ _)) (by (try simp only [ln_]); omega) (by (try simp only [ln_]); omega) (by (try simp only [ln_]); omega) (by (try simp only [ln_]); omega) (by (try simp only [ln_]); omega)
  ·refine Gl.go (fun _ hr => zifNo ag.here hx (dc at_95) rfl (XT.i0_eq_f ny) (ziconst ag.here hx (dc at_98) (zgoto ag.here hx (pc0 := 99) (pc' := 103) rfl (dc at_99) (by decide) (by decide) (zistore ag.here hx (dc at_103) rfl (l' := #[sI i0, sI i1, sI i2, sI i3, sI i4, sI i5, sR ac, sR ae, sR af, sR aa, sR ab, sI 1, sI 1, sU, sU, sU, sU, sU, sU, sU, sU, sU, sU, sU, sU]) rfl (ziload ag.here hx (dc at_105) rfl (zifNo ag.here hx (dc at_107) rfl (XT.i0_eq_f (by decide)) (zaconstNull ag.here hx (dc at_110) (zgoto ag.here hx (pc0 := 111) (pc' := 116) rfl (dc at_111) (by decide) (by decide) (zastore ag.here hx (dc at_116) rfl rfl (l' := #[sI i0, sI i1, sI i2, sI i3, sI i4, sI i5, sR ac, sR ae, sR af, sR aa, sR ab, sI 1, sI 1, .val .null, sU, sU, sU, sU, sU, sU, sU, sU, sU, sU, sU]) rfl (ziload ag.here hx (dc at_118) rfl hr)))))))))) ?_
   refine Gl.go (fun _ hr => zifNo ag.here hx (dc at_120) rfl (XT.i0_eq_f (by decide)) (zaconstNull ag.here hx (dc at_123) (zgoto ag.here hx (pc0 := 124) (pc' := 129) rfl (dc at_124) (by decide) (by decide) (zastore ag.here hx (dc at_129) rfl rfl (l' := #[sI i0, sI i1, sI i2, sI i3, sI i4, sI i5, sR ac, sR ae, sR af, sR aa, sR ab, sI 1, sI 1, .val .null, .val .null, sU, sU, sU, sU, sU, sU, sU, sU, sU, sU]) rfl (ziload ag.here hx (dc at_131) rfl (zifNo ag.here hx (dc at_133) rfl (XT.i0_eq_f (by decide)) hr)))))) ?_
   obtain ⟨aW, ko, gY, B0, dt, nH, dL, tY, bm, vf, vu, nu, vD, nT, nP, nX, nL, -, -, pW, zX, AU, yw⟩ := ldcCH ag hx ah bo (tw hw 248 rfl) hstr (rfl : bp.heap = bp.heap) ef (by have q := eg; omega) hew (by simp [ELs]) g2.2.1 (vs := ((([(110 : Int32), (117 : Int32), (108 : Int32), (108 : Int32)] : List Int32).map (fun c => c.toInt8.toInt32)).map Value.int)) (z := (4 : Int32)) ⟨by decide +kernel, by decide +kernel⟩ (by decide) rfl (g := (mkF m 136 #[sI i0, sI i1, sI i2, sI i3, sI i4, sI i5, sR ac, sR ae, sR af, sR aa, sR ab, sI 1, sI 1, .val .null, .val .null, sU, sU, sU, sU, sU, sU, sU, sU, sU, sU] [])) rfl (dc at_136) (n := 16) (by decide +kernel) (by decide) (by decide) (by decide)
   have GG : bp.heap.size ≤ gY.size := bm.1
   have EC := own_alt nT.lt
   have ED := own_alt nP.lt
   have EE := own_alt nX.lt
   have EF := own_alt nL.lt
   have yo : ChJ Z ko.vm gY := ⟨nu, pW.1, _, hew⟩
   refine Gl.go yw ?_
   show Gl p.tables e below _ (ko.setTop (mkF m 138 #[sI i0, sI i1, sI i2, sI i3, sI i4, sI i5, sR ac, sR ae, sR af, sR aa, sR ab, sI 1, sI 1, .val .null, .val .null, sU, sU, sU, sU, sU, sU, sU, sU, sU, sU] [(.ref aW)]))
   have ly : StrChars.Road.CodA nul4 0 (4 : Int32) ((([(110 : Int32), (117 : Int32), (108 : Int32), (108 : Int32)] : List Int32).map (fun c => c.toInt8.toInt32)).map Value.int) := Or.inl ⟨rfl, rfl, rfl, by decide⟩
   refine Gl.go (fun _ hr => zgoto dL.here hx (pc0 := 138) (pc' := 143) rfl (dc at_138) (by decide) (by decide) (zastore dL.here hx (dc at_143) rfl rfl (l' := #[sI i0, sI i1, sI i2, sI i3, sI i4, sI i5, sR ac, sR ae, sR af, sR aa, sR ab, sI 1, sI 1, .val .null, .val .null, sR aW, sU, sU, sU, sU, sU, sU, sU, sU, sU]) rfl (ziload dL.here hx (dc at_145) rfl (zifNo dL.here hx (dc at_147) rfl (XT.i0_eq_f (by decide)) hr)))) ?_
   obtain ⟨a9, fk, cp, B1, du, nI, fK, tZ, be, vg, vv, bz, g0, nU, nQ, nY, nM, -, -, pX, zY, AV, yx⟩ := ldcCH dL hx nu vD (tw hw 248 rfl) hstr tY vf (by have q := vu; omega) hew (by simp [ELs]) yo.2.1 (vs := ((([(110 : Int32), (117 : Int32), (108 : Int32), (108 : Int32)] : List Int32).map (fun c => c.toInt8.toInt32)).map Value.int)) (z := (4 : Int32)) ⟨by decide +kernel, by decide +kernel⟩ (by decide) rfl (g := (mkF m 150 #[sI i0, sI i1, sI i2, sI i3, sI i4, sI i5, sR ac, sR ae, sR af, sR aa, sR ab, sI 1, sI 1, .val .null, .val .null, sR aW, sU, sU, sU, sU, sU, sU, sU, sU, sU] [])) rfl (dc at_150) (n := 16) (by decide +kernel) (by decide) (by decide) (by decide)
   have GH : gY.size ≤ cp.size := be.1
   have EG := own_alt nU.lt
   have EH := own_alt nQ.lt
   have EI := own_alt nY.lt
   have EJ := own_alt nM.lt
   have yp : ChJ Z fk.vm cp := ⟨bz, pX.1, _, hew⟩
   refine Gl.go yx ?_
   show Gl p.tables e below _ (fk.setTop (mkF m 152 #[sI i0, sI i1, sI i2, sI i3, sI i4, sI i5, sR ac, sR ae, sR af, sR aa, sR ab, sI 1, sI 1, .val .null, .val .null, sR aW, sU, sU, sU, sU, sU, sU, sU, sU, sU] [(.ref a9)]))
   have lz : StrChars.Road.CodA nul4 0 (4 : Int32) ((([(110 : Int32), (117 : Int32), (108 : Int32), (108 : Int32)] : List Int32).map (fun c => c.toInt8.toInt32)).map Value.int) := Or.inl ⟨rfl, rfl, rfl, by decide⟩
   refine Gl.go (fun _ hr => zgoto fK.here hx (pc0 := 152) (pc' := 157) rfl (dc at_152) (by decide) (by decide) (zastore fK.here hx (dc at_157) rfl rfl (l' := #[sI i0, sI i1, sI i2, sI i3, sI i4, sI i5, sR ac, sR ae, sR af, sR aa, sR ab, sI 1, sI 1, .val .null, .val .null, sR aW, sR a9, sU, sU, sU, sU, sU, sU, sU, sU]) rfl hr)) ?_
   have l_nul : nul4.length = 4 := rfl
   refine gNew Gl.cl fK hx bz g0 (tw hw 27 rfl) (tw hw 28 rfl) (tw hw 29 rfl) tZ rfl (dc at_159) (by decide) (by decide) ?_
   intro Be cJ am BP fL t0 aS hI p1
   have GI : cp.size ≤ cJ.size := aS.1
   have EK := own_alt hI.lt
   have qf : Fld Z cJ am "org/latchkey/cli/ResultLine" "text" "Ljava/lang/StringBuilder;" .null := p1 (Or.inr (tw hw 106 rfl)) (ty := (.object "java/lang/StringBuilder")) (by decide)
   refine Gl.go (fun _ hr => zdup fL.here hx (dc at_162) rfl rfl (zaload fL.here hx (dc at_163) rfl rfl hr)) ?_
   have j9 := ((((dy.keep ai all0).ext bm).ext be).ext aS)
   have il := (((((((dS.keep a5).keep au).keep ap).keep ai).ext bm).ext be).ext aS)
   have jz := (((((((dT.keep a5 nin0).keep au nin0).keep ap nin0).keep ai nin0).ext bm).ext be).ext aS)
   have jA := (((((((dU.keep a5 nin0).keep au nin0).keep ap nin0).keep ai nin0).ext bm).ext be).ext aS)
   have kY := (((((((dV.keep a5 nin0).keep au nin0).keep ap nin0).keep ai nin0).ext bm).ext be).ext aS)
   have zJ : n0 ≤ cJ.size := by omega
   refine gSpecialN Gl.cl (y := y_51) (b := am) (argsL := [(.ref ac)]) (rest := [(.ref am)]) (mc := 3) (ms := 80) fL hx bz g0 rfl (mvT bz (tw hw 30 rfl)) (mvT bz (tw hw 31 rfl)) (mvT bz (tw hw 32 rfl)) (by decide) (backOf (W := 1) (rli l Z a0 hw [] am ac aE bN bK bH bT (sx i0 nw) G1 G3 cJ n0 zJ q0 (by assumption) ⟨j9, (by omega)⟩ q3 (by assumption) q5 q6 q7 (by omega) hI qf il jz jA kY bQ (sx_wid _ _) (by (try simp only [ln_]); omega)) bz (tw hw 32 rfl) (tw hw 29 rfl) (by decide) (by decide)) rfl (by rw [hml]; rfl) (lenOf pd_22 rfl) rfl (by exact Nat.le_of_eq rfl) (dc at_165) rfl t0 (by decide) (by decide) ?_
   intro F6 ca AI uV dM
   obtain ⟨aP, bl, vK, th, yY, yQ, rfl, sL, aV, ee, gO, gP, mY, mZ, m0, m1, gQ, m3, uc, BF, BG⟩ := uV
   have GJ : cJ.size ≤ ca.heap.size := aV.1
   have rB := Fr.app d5 sL
   have EM := own_alt ee.lt
   have EN := own_alt gO.lt
   have EO := own_alt gP.lt
   have EP := own_alt mY.lt
   have EQ := own_alt mZ.lt
   have ER := own_alt m0.lt
   have ES := own_alt m1.lt
   have ET := own_alt gQ.lt
   have EU := own_alt m3.lt
   refine Gl.go (fun _ hr => zastore dM.here hx (dc at_168) rfl rfl (l' := #[sI i0, sI i1, sI i2, sI i3, sI i4, sI i5, sR ac, sR ae, sR af, sR aa, sR ab, sI 1, sI 1, .val .null, .val .null, sR aW, sR a9, sR am, sU, sU, sU, sU, sU, sU, sU]) rfl (zaload dM.here hx (dc at_170) rfl rfl (zaload dM.here hx (dc at_172) rfl rfl (zaload dM.here hx (dc at_174) rfl rfl hr)))) ?_
   have xA : Lq Z.heap.size am := by omega
   have ke := (j9.keep aV (allS (own_ale xA) all0))
   have im := (((((((dW.keep au).keep ap).keep ai).ext bm).ext be).ext aS).keep aV)
   have pk : Nq ae am := by omega
   have jB := (((((((dX.keep au nin0).keep ap nin0).keep ai nin0).ext bm).ext be).ext aS).keep aV (ninS (own_ane pk) nin0))
   have jC := (((((((dY.keep au nin0).keep ap nin0).keep ai nin0).ext bm).ext be).ext aS).keep aV (ninS (own_ane pk) nin0))
   have xB : Nq aF am := by omega
   have kZ := (((((((dZ.keep au nin0).keep ap nin0).keep ai nin0).ext bm).ext be).ext aS).keep aV (ninS (own_ane xB) nin0))
   have zK : n0 ≤ ca.heap.size := by omega
   have xC : Lq cp.size am := by omega
   have xD : Lq cp.size aP := by omega
   have xE : Lq cp.size bl := by omega
   have yr : ChS Z aP bl fk.vm ca.heap := ChS.make yp (((Keep.refl cp []).ext aS).trans aV (allS (P := fun x_ => x_ ∈ ([] : List Addr) ∨ cp.size ≤ x_) (Or.inr (own_ale xC)) all0)) (own_ale xD) (own_ale xE) gP.lt gQ.lt
   refine gVirtualJ Gl.cl (y := y_56) (z := y_56) (b := am) (argsL := [(.ref ae), .null]) (rest := []) (mc := 4) (ms := 92) (Φ := fun vm => ChS Z aP bl vm ca.heap) dM hx bz vg (by have q := vv; omega) g0 (mvT bz (tw hw 107 rfl)) (mvT bz (tw hw 108 rfl)) (notFace_of_selects (args := #[]) (mvT bz (tw hw 110 rfl))) (mvT bz (tw hw 110 rfl)) (mvT bz (tw hw 109 rfl)) (by decide) ee (backOfJ (Φ := fun vm => ChS Z aP bl vm ca.heap) (W := 0) (fln l Z a0 hw [] am aP bl vK ((sx i0 nw).length + 16) (sx i0 nw) th yY yQ ae aF bO bL bI bU (sx i1 na) G1 G3 ca.heap n0 zK q0 (by assumption) ⟨ke, (by omega)⟩ q3 (by assumption) q5 q6 q7 (by assumption) ee gO gP mY mZ m0 m1 gQ m3 uc (by omega) (by omega) (by omega) (by (try simp only [ln_]); omega) im jB jC kZ bR (sx_wid _ _) (by omega) (by omega) (by omega) (by omega) (by (try simp only [ln_]); omega) (by (try simp only [ln_]); omega)) bz (tw hw 111 rfl) (tw hw 29 rfl) (by decide) (by decide)) rfl (by rw [hml]; rfl) (lenOf pd_42 rfl) rfl (by exact Nat.le_of_eq rfl) (dc at_176) rfl (rfl : ca.heap = ca.heap) (fun vm₁ hvm => yr.warm hvm) (by decide) (by decide) ?_
   intro F7 cx AJ uW fM vh bA nA vw
   obtain ⟨ba, nE, lk, pT, pP, rfl, sM, aO, gR, gS, gT, gU, gV, gW, gX, m5, m6, BH, yq⟩ := uW
   have GK : ca.heap.size ≤ cx.heap.size := aO.1
   have rC := Fr.app rB sM
   have EV := own_alt gR.lt
   have EX := own_alt gS.lt
   have EY := own_alt gT.lt
   have EZ := own_alt gU.lt
   have E0 := own_alt gV.lt
   have E1 := own_alt gW.lt
   have E2 := own_alt gX.lt
   have BW : Lq cJ.size ba := by rcases m6 with q | q <;> omega
   clear m6
   refine Gl.go (fun _ hr => zastore fM.here hx (dc at_179) rfl rfl (l' := #[sI i0, sI i1, sI i2, sI i3, sI i4, sI i5, sR ac, sR ae, sR af, sR aa, sR ab, sI 1, sI 1, .val .null, .val .null, sR aW, sR a9, sR am, sR am, sU, sU, sU, sU, sU, sU]) rfl (zaload fM.here hx (dc at_181) rfl rfl hr)) ?_
   have pl : Lq Z.heap.size aP := by omega
   have xF : Lq Z.heap.size bl := by omega
   have kf := (ke.keep aO (allS (own_ale pl) (allS (own_ale xF) all0)))
   have eZ := (ee.keep aO)
   have pm : Nq am aP := by omega
   have xG : Nq am bl := by omega
   have jD := (gO.keep aO (ninS (own_ane pm) (ninS (own_ane xG) nin0)))
   have zL : n0 ≤ cx.heap.size := by omega
   refine gVirtualN Gl.cl (y := y_57) (z := y_57) (b := am) (argsL := []) (rest := []) (mc := 2) (ms := 40) fM hx bA nA (mvT bA (tw hw 145 rfl)) (mvT bA (tw hw 146 rfl)) (notFace_of_selects (args := #[]) (mvT bA (tw hw 148 rfl))) (mvT bA (tw hw 148 rfl)) (mvT bA (tw hw 147 rfl)) (by decide) eZ (backOf (W := 0) (rts l Z a0 hw [] am aP ba nE ((sx i0 nw).length + 16) (((((sx i0 nw) ++ [(32 : Int32)]) ++ (sx i1 na)) ++ [(61 : Int32)]) ++ nul4) lk pT pP G1 cx.heap n0 zL q0 (by assumption) ⟨kf, (by omega)⟩ eZ jD gR gS gT gU gV gW gX m5 (by (try simp only [ln_]); omega) (by (try simp only [ln_]); omega)) bA (tw hw 149 rfl) (tw hw 29 rfl) (by decide) (by decide)) rfl (by rw [hml]; rfl) (lenOf pd_34 rfl) rfl (by exact Nat.le_of_eq rfl) (dc at_183) rfl (rfl : cx.heap = cx.heap) (by decide) (by decide) ?_
   intro F8 cn AK uX dN
   obtain ⟨bG, hB, vS, tq, rR, yI, rfl, sN, aw, m7, m8, m9, nc, BJ, ye⟩ := uX
   have GL : cx.heap.size ≤ cn.heap.size := aw.1
   have rD := Fr.app rC sN
   have E3 := own_alt m7.lt
   have E4 := own_alt m8.lt
   have E5 := own_alt m9.lt
   have E6 := own_alt nc.lt
   refine Gl.go (fun _ hr => zastore dN.here hx (dc at_186) rfl rfl (l' := #[sI i0, sI i1, sI i2, sI i3, sI i4, sI i5, sR ac, sR ae, sR af, sR aa, sR ab, sI 1, sI 1, .val .null, .val .null, sR aW, sR a9, sR am, sR am, sR bG, sU, sU, sU, sU, sU]) rfl (zaload dN.here hx (dc at_188) rfl rfl (zaload dN.here hx (dc at_190) rfl rfl (zaload dN.here hx (dc at_192) rfl rfl hr)))) ?_
   have kg := (kf.keep aw all0)
   have e8 := (eZ.keep aw)
   have jE := (jD.keep aw nin0)
   have p9 := (gR.keep aw)
   have qB := (gS.keep aw nin0)
   have qC := (gT.keep aw nin0)
   have qD := (gU.keep aw nin0)
   have qE := (gV.keep aw nin0)
   have qa := (gW.keep aw)
   have s6 := (gX.keep aw nin0)
   have io := ((((((((d0.keep ap).keep ai).ext bm).ext be).ext aS).keep aV).keep aO).keep aw)
   have pn : Nq af am := by omega
   have ey : Nq af aP := by omega
   have pp : Nq af bl := by omega
   have jF := ((((((((d1.keep ap nin0).keep ai nin0).ext bm).ext be).ext aS).keep aV (ninS (own_ane pn) nin0)).keep aO (ninS (own_ane ey) (ninS (own_ane pp) nin0))).keep aw nin0)
   have jG := ((((((((d2.keep ap nin0).keep ai nin0).ext bm).ext be).ext aS).keep aV (ninS (own_ane pn) nin0)).keep aO (ninS (own_ane ey) (ninS (own_ane pp) nin0))).keep aw nin0)
   have xH : Nq aG am := by omega
   have pq : Nq aG aP := by omega
   have xI : Nq aG bl := by omega
   have k4 := ((((((((d3.keep ap nin0).keep ai nin0).ext bm).ext be).ext aS).keep aV (ninS (own_ane xH) nin0)).keep aO (ninS (own_ane pq) (ninS (own_ane xI) nin0))).keep aw nin0)
   have zM : n0 ≤ cn.heap.size := by omega
   have yt := yq.keep ((Keep.refl cx.heap []).trans aw all0)
   refine gVirtualJ Gl.cl (y := y_56) (z := y_56) (b := am) (argsL := [(.ref af), .null]) (rest := []) (mc := 4) (ms := 92) (Φ := fun vm => ChS Z aP ba vm cn.heap) dN hx bA vh (by have q := vw; omega) nA (mvT bA (tw hw 107 rfl)) (mvT bA (tw hw 108 rfl)) (notFace_of_selects (args := #[]) (mvT bA (tw hw 110 rfl))) (mvT bA (tw hw 110 rfl)) (mvT bA (tw hw 109 rfl)) (by decide) e8 (backOfJ (Φ := fun vm => ChS Z aP ba vm cn.heap) (W := 0) (fln l Z a0 hw [] am aP ba nE ((sx i0 nw).length + 16) (((((sx i0 nw) ++ [(32 : Int32)]) ++ (sx i1 na)) ++ [(61 : Int32)]) ++ nul4) lk pT pP af aG bP bM bJ bV (sx i3 nb) G1 G3 cn.heap n0 zM q0 (by assumption) ⟨kg, (by omega)⟩ q3 (by assumption) q5 q6 q7 (by assumption) e8 jE p9 qB qC qD qE qa s6 m5 (by omega) (by omega) (by omega) (by (try simp only [ln_]); omega) io jF jG k4 bS (sx_wid _ _) (by omega) (by omega) (by omega) (by omega) (by (try simp only [ln_]); omega) (by (try simp only [ln_]); omega)) bA (tw hw 111 rfl) (tw hw 29 rfl) (by decide) (by decide)) rfl (by rw [hml]; rfl) (lenOf pd_42 rfl) rfl (by exact Nat.le_of_eq rfl) (dc at_194) rfl (rfl : cn.heap = cn.heap) (fun vm₁ hvm => yt.warm hvm) (by decide) (by decide) ?_
   intro F9 cy AL uY fN vi ar cL vx
   obtain ⟨lg, vL, ti, yZ, yR, rfl, sO, aC, nd, nf, ng, nh, ni, nj, nk, ud, nl, BK, Fm⟩ := uY
   have GM : cn.heap.size ≤ cy.heap.size := aC.1
   have rE := Fr.app rD sO
   have E7 := own_alt nd.lt
   have E8 := own_alt nf.lt
   have E9 := own_alt ng.lt
   have Fa := own_alt nh.lt
   have Fc := own_alt ni.lt
   have Fd := own_alt nj.lt
   have Fe := own_alt nk.lt
   have BX : Lq cJ.size lg := by rcases nl with q | q <;> omega
   clear nl
   refine Gl.go (fun _ hr => zastore fN.here hx (dc at_197) rfl rfl (l' := #[sI i0, sI i1, sI i2, sI i3, sI i4, sI i5, sR ac, sR ae, sR af, sR aa, sR ab, sI 1, sI 1, .val .null, .val .null, sR aW, sR a9, sR am, sR am, sR bG, sR am, sU, sU, sU, sU]) rfl (zaload fN.here hx (dc at_199) rfl rfl hr)) ?_
   have xJ : Lq Z.heap.size ba := by omega
   have kh := (kg.keep aC (allS (own_ale pl) (allS (own_ale xJ) all0)))
   have ip := (e8.keep aC)
   have xK : Nq am ba := by omega
   have qF := (jE.keep aC (ninS (own_ane pm) (ninS (own_ane xK) nin0)))
   have zN : n0 ≤ cy.heap.size := by omega
   refine gVirtualN Gl.cl (y := y_57) (z := y_57) (b := am) (argsL := []) (rest := []) (mc := 2) (ms := 40) fN hx ar cL (mvT ar (tw hw 145 rfl)) (mvT ar (tw hw 146 rfl)) (notFace_of_selects (args := #[]) (mvT ar (tw hw 148 rfl))) (mvT ar (tw hw 148 rfl)) (mvT ar (tw hw 147 rfl)) (by decide) ip (backOf (W := 0) (rts l Z a0 hw [] am aP lg vL ((sx i0 nw).length + 16) (((((((((sx i0 nw) ++ [(32 : Int32)]) ++ (sx i1 na)) ++ [(61 : Int32)]) ++ nul4) ++ [(32 : Int32)]) ++ (sx i3 nb)) ++ [(61 : Int32)]) ++ nul4) ti yZ yR G1 cy.heap n0 zN q0 (by assumption) ⟨kh, (by omega)⟩ ip qF nd nf ng nh ni nj nk ud (by (try simp only [ln_]); omega) (by (try simp only [ln_]); omega)) ar (tw hw 149 rfl) (tw hw 29 rfl) (by decide) (by decide)) rfl (by rw [hml]; rfl) (lenOf pd_34 rfl) rfl (by exact Nat.le_of_eq rfl) (dc at_201) rfl (rfl : cy.heap = cy.heap) (by decide) (by decide) ?_
   intro Ga bt AM uZ fO
   obtain ⟨cm, yB, vT, tr, rS, yJ, rfl, sP, aK, no, np, nq, nr, BL, yf⟩ := uZ
   have GN : cy.heap.size ≤ bt.heap.size := aK.1
   have rF := Fr.app rE sP
   have Ff := own_alt no.lt
   have Fg := own_alt np.lt
   have Fh := own_alt nq.lt
   have Fi := own_alt nr.lt
   refine Gl.go (fun _ hr => zastore fO.here hx (dc at_204) rfl rfl (l' := #[sI i0, sI i1, sI i2, sI i3, sI i4, sI i5, sR ac, sR ae, sR af, sR aa, sR ab, sI 1, sI 1, .val .null, .val .null, sR aW, sR a9, sR am, sR am, sR bG, sR am, sR cm, sU, sU, sU]) rfl (zaload fO.here hx (dc at_206) rfl rfl hr)) ?_
   have dC := (kh.keep aK all0)
   have e9 := (((((il.keep aV).keep aO).keep aw).keep aC).keep aK)
   have ps : Nq ac am := by omega
   have ez : Nq ac aP := by omega
   have pt : Nq ac bl := by omega
   have pu : Nq ac ba := by omega
   have jH := (((((jz.keep aV (ninS (own_ane ps) nin0)).keep aO (ninS (own_ane ez) (ninS (own_ane pt) nin0))).keep aw nin0).keep aC (ninS (own_ane ez) (ninS (own_ane pu) nin0))).keep aK nin0)
   have jI := (((((jA.keep aV (ninS (own_ane ps) nin0)).keep aO (ninS (own_ane ez) (ninS (own_ane pt) nin0))).keep aw nin0).keep aC (ninS (own_ane ez) (ninS (own_ane pu) nin0))).keep aK nin0)
   have xL : Nq aE am := by omega
   have pv : Nq aE aP := by omega
   have xM : Nq aE bl := by omega
   have xN : Nq aE ba := by omega
   have k5 := (((((kY.keep aV (ninS (own_ane xL) nin0)).keep aO (ninS (own_ane pv) (ninS (own_ane xM) nin0))).keep aw nin0).keep aC (ninS (own_ane pv) (ninS (own_ane xN) nin0))).keep aK nin0)
   have zO : n0 ≤ bt.heap.size := by omega
   refine gVirtualN Gl.cl (y := y_12) (z := y_12) (b := ac) (argsL := []) (rest := []) (mc := 0) (ms := 0) fO hx ar cL (mvT ar (tw hw 191 rfl)) (mvT ar (tw hw 48 rfl)) (notFace_of_selects (args := #[]) (mvT ar (tw hw 50 rfl))) (mvT ar (tw hw 50 rfl)) (mvT ar (tw hw 49 rfl)) (by decide) e9 (backOf (W := 0) (slG l Z a0 hw [] ac aE bN bK bH bT (sx i0 nw) G1 bt.heap n0 zO q0 (by assumption) ⟨dC, (by omega)⟩ e9 jH jI k5 bQ (sx_wid _ _) (by (try simp only [ln_]); omega)) ar (tw hw 51 rfl) (tw hw 7 rfl) (by decide) (by decide)) rfl (by rw [hml]; rfl) (lenOf pd_15 rfl) rfl (by exact Nat.le_of_eq rfl) (dc at_208) rfl (rfl : bt.heap = bt.heap) (by decide) (by decide) ?_
   intro Gb Bf AN u0 da
   obtain ⟨rfl, sQ, t1⟩ := u0
   have rG := Fr.app rF sQ
   refine Gl.go (fun _ hr => zistore da.here hx (dc at_211) rfl (l' := #[sI i0, sI i1, sI i2, sI i3, sI i4, sI i5, sR ac, sR ae, sR af, sR aa, sR ab, sI 1, sI 1, .val .null, .val .null, sR aW, sR a9, sR am, sR am, sR bG, sR am, sR cm, sI (Int32.ofNat (sx i0 nw).length), sU, sU]) rfl (ziload da.here hx (dc at_213) rfl (ziconst da.here hx (dc at_215) (ziadd da.here hx (dc at_216) rfl (zaload da.here hx (dc at_217) rfl rfl hr))))) ?_
   have fa := ((((im.keep aO).keep aw).keep aC).keep aK)
   have eA : Nq ae aP := by omega
   have pw : Nq ae bl := by omega
   have px : Nq ae ba := by omega
   have jJ := ((((jB.keep aO (ninS (own_ane eA) (ninS (own_ane pw) nin0))).keep aw nin0).keep aC (ninS (own_ane eA) (ninS (own_ane px) nin0))).keep aK nin0)
   have jK := ((((jC.keep aO (ninS (own_ane eA) (ninS (own_ane pw) nin0))).keep aw nin0).keep aC (ninS (own_ane eA) (ninS (own_ane px) nin0))).keep aK nin0)
   have pz : Nq aF aP := by omega
   have xO : Nq aF bl := by omega
   have xP : Nq aF ba := by omega
   have k6 := ((((kZ.keep aO (ninS (own_ane pz) (ninS (own_ane xO) nin0))).keep aw nin0).keep aC (ninS (own_ane pz) (ninS (own_ane xP) nin0))).keep aK nin0)
   have zP : n0 ≤ bt.heap.size := by omega
   refine gVirtualN Gl.cl (y := y_12) (z := y_12) (b := ae) (argsL := []) (rest := [(.int ((Int32.ofNat (sx i0 nw).length) + (2 : Int32)))]) (mc := 0) (ms := 0) da hx ar cL (mvT ar (tw hw 191 rfl)) (mvT ar (tw hw 48 rfl)) (notFace_of_selects (args := #[]) (mvT ar (tw hw 50 rfl))) (mvT ar (tw hw 50 rfl)) (mvT ar (tw hw 49 rfl)) (by decide) fa (backOf (W := 1) (slG l Z a0 hw [] ae aF bO bL bI bU (sx i1 na) G1 bt.heap n0 zP q0 (by assumption) ⟨dC, (by omega)⟩ fa jJ jK k6 bR (sx_wid _ _) (by (try simp only [ln_]); omega)) ar (tw hw 51 rfl) (tw hw 7 rfl) (by decide) (by decide)) rfl (by rw [hml]; rfl) (lenOf pd_15 rfl) rfl (by exact Nat.le_of_eq rfl) (dc at_219) rfl t1 (by decide) (by decide) ?_
   intro Gc Bg AO u1 fP
   obtain ⟨rfl, sS, t2⟩ := u1
   have rH := Fr.app rG sS
   refine Gl.go (fun _ hr => ziadd fP.here hx (dc at_222) rfl (zaload fP.here hx (dc at_223) rfl rfl hr)) ?_
   have fb := (((((((nT.ext be).ext aS).keep aV).keep aO).keep aw).keep aC).keep aK)
   have pA : Nq aW am := by omega
   have eB : Nq aW aP := by omega
   have pB : Nq aW bl := by omega
   have pC : Nq aW ba := by omega
   have jL := (((((((nX.ext be).ext aS).keep aV (ninS (own_ane pA) nin0)).keep aO (ninS (own_ane eB) (ninS (own_ane pB) nin0))).keep aw nin0).keep aC (ninS (own_ane eB) (ninS (own_ane pC) nin0))).keep aK nin0)
   have jM := (((((((nP.ext be).ext aS).keep aV (ninS (own_ane pA) nin0)).keep aO (ninS (own_ane eB) (ninS (own_ane pB) nin0))).keep aw nin0).keep aC (ninS (own_ane eB) (ninS (own_ane pC) nin0))).keep aK nin0)
   have xQ : Nq dt am := by omega
   have pD : Nq dt aP := by omega
   have xR : Nq dt bl := by omega
   have xS : Nq dt ba := by omega
   have k7 := (((((((nL.ext be).ext aS).keep aV (ninS (own_ane xQ) nin0)).keep aO (ninS (own_ane pD) (ninS (own_ane xR) nin0))).keep aw nin0).keep aC (ninS (own_ane pD) (ninS (own_ane xS) nin0))).keep aK nin0)
   have zQ : n0 ≤ bt.heap.size := by omega
   refine gVirtualN Gl.cl (y := y_12) (z := y_12) (b := aW) (argsL := []) (rest := [(.int (((Int32.ofNat (sx i0 nw).length) + (2 : Int32)) + (Int32.ofNat (sx i1 na).length)))]) (mc := 0) (ms := 0) fP hx ar cL (mvT ar (tw hw 191 rfl)) (mvT ar (tw hw 48 rfl)) (notFace_of_selects (args := #[]) (mvT ar (tw hw 50 rfl))) (mvT ar (tw hw 50 rfl)) (mvT ar (tw hw 49 rfl)) (by decide) fb (backOf (W := 1) (slG l Z a0 hw [] aW dt nH (0 : Int32) (4 : Int32) ((([(110 : Int32), (117 : Int32), (108 : Int32), (108 : Int32)] : List Int32).map (fun c => c.toInt8.toInt32)).map Value.int) nul4 G1 bt.heap n0 zQ q0 (by assumption) ⟨dC, (by omega)⟩ fb jL jM k7 ly (by decide) (by decide)) ar (tw hw 51 rfl) (tw hw 7 rfl) (by decide) (by decide)) rfl (by rw [hml]; rfl) (lenOf pd_15 rfl) rfl (by exact Nat.le_of_eq rfl) (dc at_225) rfl t2 (by decide) (by decide) ?_
   intro Gd kp AP u2 cF
   obtain ⟨rfl, sT, t3⟩ := u2
   have rI := Fr.app rH sT
   refine Gl.go (fun _ hr => ziadd cF.here hx (dc at_228) rfl hr) ?_
   show Gl p.tables e below _ (kp.setTop (mkF m 229 #[sI i0, sI i1, sI i2, sI i3, sI i4, sI i5, sR ac, sR ae, sR af, sR aa, sR ab, sI 1, sI 1, .val .null, .val .null, sR aW, sR a9, sR am, sR am, sR bG, sR am, sR cm, sI (Int32.ofNat (sx i0 nw).length), sU, sU] [(.int ((((Int32.ofNat (sx i0 nw).length) + (2 : Int32)) + (Int32.ofNat (sx i1 na).length)) + (Int32.ofNat nul4.length)))]))
   rw [(show Int32.ofNat (sx i0 nw).length + (2 : Int32) + Int32.ofNat (sx i1 na).length + Int32.ofNat nul4.length = Int32.ofNat (((((sx i0 nw) ++ [(32 : Int32)]) ++ (sx i1 na)) ++ [(61 : Int32)]) ++ nul4).length from by rw [show Int32.ofNat (sx i0 nw).length + (2 : Int32) = Int32.ofNat ((sx i0 nw).length + 2) from own_add32 _ 2, own_add32, own_add32]; congr 1; simp only [ln_]; omega)]
   show Gl p.tables e below _ (kp.setTop (mkF m 229 #[sI i0, sI i1, sI i2, sI i3, sI i4, sI i5, sR ac, sR ae, sR af, sR aa, sR ab, sI 1, sI 1, .val .null, .val .null, sR aW, sR a9, sR am, sR am, sR bG, sR am, sR cm, sI (Int32.ofNat (sx i0 nw).length), sU, sU] [(.int (Int32.ofNat (((((sx i0 nw) ++ [(32 : Int32)]) ++ (sx i1 na)) ++ [(61 : Int32)]) ++ nul4).length))]))
   refine Gl.go (fun _ hr => zistore cF.here hx (dc at_229) rfl (l' := #[sI i0, sI i1, sI i2, sI i3, sI i4, sI i5, sR ac, sR ae, sR af, sR aa, sR ab, sI 1, sI 1, .val .null, .val .null, sR aW, sR a9, sR am, sR am, sR bG, sR am, sR cm, sI (Int32.ofNat (sx i0 nw).length), sI (Int32.ofNat (((((sx i0 nw) ++ [(32 : Int32)]) ++ (sx i1 na)) ++ [(61 : Int32)]) ++ nul4).length), sU]) rfl (ziload cF.here hx (dc at_231) rfl (ziconst cF.here hx (dc at_233) (ziadd cF.here hx (dc at_234) rfl (zaload cF.here hx (dc at_235) rfl rfl hr))))) ?_
   have fd := ((io.keep aC).keep aK)
   have pE : Nq af ba := by omega
   have jN := ((jF.keep aC (ninS (own_ane ey) (ninS (own_ane pE) nin0))).keep aK nin0)
   have jO := ((jG.keep aC (ninS (own_ane ey) (ninS (own_ane pE) nin0))).keep aK nin0)
   have xT : Nq aG ba := by omega
   have k8 := ((k4.keep aC (ninS (own_ane pq) (ninS (own_ane xT) nin0))).keep aK nin0)
   have zR : n0 ≤ bt.heap.size := by omega
   refine gVirtualN Gl.cl (y := y_12) (z := y_12) (b := af) (argsL := []) (rest := [(.int ((Int32.ofNat (((((sx i0 nw) ++ [(32 : Int32)]) ++ (sx i1 na)) ++ [(61 : Int32)]) ++ nul4).length) + (2 : Int32)))]) (mc := 0) (ms := 0) cF hx ar cL (mvT ar (tw hw 191 rfl)) (mvT ar (tw hw 48 rfl)) (notFace_of_selects (args := #[]) (mvT ar (tw hw 50 rfl))) (mvT ar (tw hw 50 rfl)) (mvT ar (tw hw 49 rfl)) (by decide) fd (backOf (W := 1) (slG l Z a0 hw [] af aG bP bM bJ bV (sx i3 nb) G1 bt.heap n0 zR q0 (by assumption) ⟨dC, (by omega)⟩ fd jN jO k8 bS (sx_wid _ _) (by (try simp only [ln_]); omega)) ar (tw hw 51 rfl) (tw hw 7 rfl) (by decide) (by decide)) rfl (by rw [hml]; rfl) (lenOf pd_15 rfl) rfl (by exact Nat.le_of_eq rfl) (dc at_237) rfl t3 (by decide) (by decide) ?_
   intro Ge Bh AQ u3 fQ
   obtain ⟨rfl, sV, t4⟩ := u3
   have rJ := Fr.app rI sV
   refine Gl.go (fun _ hr => ziadd fQ.here hx (dc at_240) rfl (zaload fQ.here hx (dc at_241) rfl rfl hr)) ?_
   have fe := ((((((nU.ext aS).keep aV).keep aO).keep aw).keep aC).keep aK)
   have pF : Nq a9 am := by omega
   have eC : Nq a9 aP := by omega
   have pG : Nq a9 bl := by omega
   have pH : Nq a9 ba := by omega
   have jP := ((((((nY.ext aS).keep aV (ninS (own_ane pF) nin0)).keep aO (ninS (own_ane eC) (ninS (own_ane pG) nin0))).keep aw nin0).keep aC (ninS (own_ane eC) (ninS (own_ane pH) nin0))).keep aK nin0)
   have jQ := ((((((nQ.ext aS).keep aV (ninS (own_ane pF) nin0)).keep aO (ninS (own_ane eC) (ninS (own_ane pG) nin0))).keep aw nin0).keep aC (ninS (own_ane eC) (ninS (own_ane pH) nin0))).keep aK nin0)
   have xU : Nq du am := by omega
   have pI : Nq du aP := by omega
   have xV : Nq du bl := by omega
   have xW : Nq du ba := by omega
   have k9 := ((((((nM.ext aS).keep aV (ninS (own_ane xU) nin0)).keep aO (ninS (own_ane pI) (ninS (own_ane xV) nin0))).keep aw nin0).keep aC (ninS (own_ane pI) (ninS (own_ane xW) nin0))).keep aK nin0)
   have zS : n0 ≤ bt.heap.size := by omega
   refine gVirtualN Gl.cl (y := y_12) (z := y_12) (b := a9) (argsL := []) (rest := [(.int (((Int32.ofNat (((((sx i0 nw) ++ [(32 : Int32)]) ++ (sx i1 na)) ++ [(61 : Int32)]) ++ nul4).length) + (2 : Int32)) + (Int32.ofNat (sx i3 nb).length)))]) (mc := 0) (ms := 0) fQ hx ar cL (mvT ar (tw hw 191 rfl)) (mvT ar (tw hw 48 rfl)) (notFace_of_selects (args := #[]) (mvT ar (tw hw 50 rfl))) (mvT ar (tw hw 50 rfl)) (mvT ar (tw hw 49 rfl)) (by decide) fe (backOf (W := 1) (slG l Z a0 hw [] a9 du nI (0 : Int32) (4 : Int32) ((([(110 : Int32), (117 : Int32), (108 : Int32), (108 : Int32)] : List Int32).map (fun c => c.toInt8.toInt32)).map Value.int) nul4 G1 bt.heap n0 zS q0 (by assumption) ⟨dC, (by omega)⟩ fe jP jQ k9 lz (by decide) (by decide)) ar (tw hw 51 rfl) (tw hw 7 rfl) (by decide) (by decide)) rfl (by rw [hml]; rfl) (lenOf pd_15 rfl) rfl (by exact Nat.le_of_eq rfl) (dc at_243) rfl t4 (by decide) (by decide) ?_
   intro Gf fl AR u4 fR
   obtain ⟨rfl, sW, t5⟩ := u4
   have rK := Fr.app rJ sW
   refine Gl.go (fun _ hr => ziadd fR.here hx (dc at_246) rfl hr) ?_
   show Gl p.tables e below _ (fl.setTop (mkF m 247 #[sI i0, sI i1, sI i2, sI i3, sI i4, sI i5, sR ac, sR ae, sR af, sR aa, sR ab, sI 1, sI 1, .val .null, .val .null, sR aW, sR a9, sR am, sR am, sR bG, sR am, sR cm, sI (Int32.ofNat (sx i0 nw).length), sI (Int32.ofNat (((((sx i0 nw) ++ [(32 : Int32)]) ++ (sx i1 na)) ++ [(61 : Int32)]) ++ nul4).length), sU] [(.int ((((Int32.ofNat (((((sx i0 nw) ++ [(32 : Int32)]) ++ (sx i1 na)) ++ [(61 : Int32)]) ++ nul4).length) + (2 : Int32)) + (Int32.ofNat (sx i3 nb).length)) + (Int32.ofNat nul4.length)))]))
   rw [(show Int32.ofNat (((((sx i0 nw) ++ [(32 : Int32)]) ++ (sx i1 na)) ++ [(61 : Int32)]) ++ nul4).length + (2 : Int32) + Int32.ofNat (sx i3 nb).length + Int32.ofNat nul4.length = Int32.ofNat (((((((((sx i0 nw) ++ [(32 : Int32)]) ++ (sx i1 na)) ++ [(61 : Int32)]) ++ nul4) ++ [(32 : Int32)]) ++ (sx i3 nb)) ++ [(61 : Int32)]) ++ nul4).length from by rw [show Int32.ofNat (((((sx i0 nw) ++ [(32 : Int32)]) ++ (sx i1 na)) ++ [(61 : Int32)]) ++ nul4).length + (2 : Int32) = Int32.ofNat ((((((sx i0 nw) ++ [(32 : Int32)]) ++ (sx i1 na)) ++ [(61 : Int32)]) ++ nul4).length + 2) from own_add32 _ 2, own_add32, own_add32]; congr 1; simp only [ln_]; omega)]
   show Gl p.tables e below _ (fl.setTop (mkF m 247 #[sI i0, sI i1, sI i2, sI i3, sI i4, sI i5, sR ac, sR ae, sR af, sR aa, sR ab, sI 1, sI 1, .val .null, .val .null, sR aW, sR a9, sR am, sR am, sR bG, sR am, sR cm, sI (Int32.ofNat (sx i0 nw).length), sI (Int32.ofNat (((((sx i0 nw) ++ [(32 : Int32)]) ++ (sx i1 na)) ++ [(61 : Int32)]) ++ nul4).length), sU] [(.int (Int32.ofNat (((((((((sx i0 nw) ++ [(32 : Int32)]) ++ (sx i1 na)) ++ [(61 : Int32)]) ++ nul4) ++ [(32 : Int32)]) ++ (sx i3 nb)) ++ [(61 : Int32)]) ++ nul4).length))]))
   refine Gl.go (fun _ hr => zistore fR.here hx (dc at_247) rfl (l' := #[sI i0, sI i1, sI i2, sI i3, sI i4, sI i5, sR ac, sR ae, sR af, sR aa, sR ab, sI 1, sI 1, .val .null, .val .null, sR aW, sR a9, sR am, sR am, sR bG, sR am, sR cm, sI (Int32.ofNat (sx i0 nw).length), sI (Int32.ofNat (((((sx i0 nw) ++ [(32 : Int32)]) ++ (sx i1 na)) ++ [(61 : Int32)]) ++ nul4).length), sI (Int32.ofNat (((((((((sx i0 nw) ++ [(32 : Int32)]) ++ (sx i1 na)) ++ [(61 : Int32)]) ++ nul4) ++ [(32 : Int32)]) ++ (sx i3 nb)) ++ [(61 : Int32)]) ++ nul4).length)]) rfl hr) ?_
   have xX : Lq h0.size am := by omega
   have pJ : Lq h0.size aP := by omega
   have xY : Lq h0.size bl := by omega
   have xZ : Lq h0.size ba := by omega
   have qb := ((m7.keep aC).keep aK)
   have pK : Nq bG aP := by omega
   have pL : Nq bG ba := by omega
   have qG := ((m8.keep aC (ninS (own_ane pK) (ninS (own_ane pL) nin0))).keep aK nin0)
   have qH := ((m9.keep aC (ninS (own_ane pK) (ninS (own_ane pL) nin0))).keep aK nin0)
   have x6 : Nq hB aP := by omega
   have x7 : Nq hB ba := by omega
   have s7 := ((nc.keep aC (ninS (own_ane x6) (ninS (own_ane x7) nin0))).keep aK nin0)
   exact tC fl bt.heap _ cy.vm _ (sx i0 nw) (sx i1 na) nul4 (sx i3 nb) nul4 ac aE bN bK bH bT ae aF bO bL bI bU aW dt nH (0 : Int32) (4 : Int32) ((([(110 : Int32), (117 : Int32), (108 : Int32), (108 : Int32)] : List Int32).map (fun c => c.toInt8.toInt32)).map Value.int) af aG bP bM bJ bV a9 du nI (0 : Int32) (4 : Int32) ((([(110 : Int32), (117 : Int32), (108 : Int32), (108 : Int32)] : List Int32).map (fun c => c.toInt8.toInt32)).map Value.int) bG hB vS tq rR yI cm yB vT tr rS yJ am (sR aa) (sR ab) (sI 1) (sI 1) (.val .null) (.val .null) rK (fR.more (by decide) (by decide)) t5 ((((((((((((((Keep.refl h0 []).trans cN all0).trans a5 all0).trans au all0).trans ap all0).trans ai all0).ext bm).ext be).ext aS).trans aV (allS (P := fun x_ => x_ ∈ ([] : List Addr) ∨ h0.size ≤ x_) (Or.inr (own_ale xX)) all0)).trans aO (allS (P := fun x_ => x_ ∈ ([] : List Addr) ∨ h0.size ≤ x_) (Or.inr (own_ale pJ)) (allS (P := fun x_ => x_ ∈ ([] : List Addr) ∨ h0.size ≤ x_) (Or.inr (own_ale xY)) all0))).trans aw all0).trans aC (allS (P := fun x_ => x_ ∈ ([] : List Addr) ∨ h0.size ≤ x_) (Or.inr (own_ale pJ)) (allS (P := fun x_ => x_ ∈ ([] : List Addr) ∨ h0.size ≤ x_) (Or.inr (own_ale xZ)) all0))).trans aK all0) vi (by have q := vx; omega) ar cL e9 jH jI k5 fa jJ jK k6 fb jL jM k7 fd jN jO k8 fe jP jQ k9 qb qG qH s7 no np nq nr bQ (sx_wid _ _) bR (sx_wid _ _) ly (by decide) bS (sx_wid _ _) lz (by decide) ye (own_widC (own_widC (own_widC (own_widC (sx_wid _ _) (by decide)) (sx_wid _ _)) (by decide)) (by decide)) yf (own_widC (own_widC (own_widC (own_widC (own_widC (own_widC (own_widC (own_widC (sx_wid _ _) (by decide)) (sx_wid _ _)) (by decide)) (by decide)) (by decide)) (sx_wid _ _)) (by decide)) (by decide)) (by (try simp only [ln_]); omega) (by (try simp only [ln_]); omega) (by (try simp only [ln_]); omega) (by (try simp only [ln_]); omega) (by (try simp only [ln_]); omega)
set_option maxRecDepth 65536 in
set_option maxHeartbeats 40000000 in
theorem comes_1 {Post : Tables → Env → Array Value → State → Outcome → State → Prop} (hpost : ∀ tb e args s v u, (limb_1_1.after args s (.returned v) u = true ∧ limb_1_2.after args s (.returned v) u = true ∧ True) → ReturnedEndW s (.returned v) u (Jvm.fieldLocs frame_1_writes args s ++ Jvm.arrayLocs frame_1_arrays args s ++ Jvm.staticLocs frame_1_statics s) 72 3520 → Post tb e args s (.returned v) u) :
  ArmFor flags0 classFile x code maxLocals ret World_1 tables_1 room_1 Calls_1 rest_1 Pre_1 Post := by
 intro l hfl _ _ p e ha hc hk s m args below hf hA hF happ hP
 obtain ⟨hcalls, hrest, hpre⟩ := hP
 obtain ⟨-, -, -, hnamed, -, -, -, hat⟩ := (Spec.applies_iff hf).mp happ
 obtain ⟨hg, hn⟩ := and_e (Cond.before_iff.mp (show (Jvm.Cond.and given_1 narrow_1).before args s = true from hpre))
 obtain ⟨hcount, hgs⟩ := and_e hg
 obtain ⟨w0, w1, w2, w3, w4, w5, rfl⟩ : ∃ w0 w1 w2 w3 w4 w5 : Value, args = #[w0, w1, w2, w3, w4, w5] := by
  have hs : args.size = 6 := by simpa [Cond.value, given_1] using hcount
  obtain ⟨L⟩ := args
  match L, hs with
  | [w0, w1, w2, w3, w4, w5], _ => exact ⟨w0, w1, w2, w3, w4, w5, rfl⟩
 obtain ⟨ar, ab⟩ := and_e hgs
 obtain ⟨i0, ak⟩ := is_v ar
 obtain rfl : w0 = (.int i0) := Option.some.inj ak
 obtain ⟨au, aA⟩ := and_e ab
 obtain ⟨i1, al⟩ := is_v au
 obtain rfl : w1 = (.int i1) := Option.some.inj al
 obtain ⟨av, aB⟩ := and_e aA
 obtain ⟨i2, am⟩ := is_v av
 obtain rfl : w2 = (.int i2) := Option.some.inj am
 obtain ⟨aw, aC⟩ := and_e aB
 obtain ⟨i3, ao⟩ := is_v aw
 obtain rfl : w3 = (.int i3) := Option.some.inj ao
 obtain ⟨ax, aD⟩ := and_e aC
 obtain ⟨i4, ap⟩ := is_v ax
 obtain rfl : w4 = (.int i4) := Option.some.inj ap
 obtain ⟨i5, aq⟩ := is_v aD
 obtain rfl : w5 = (.int i5) := Option.some.inj aq
 have hw := fun d (hd : d ∈ tables_1) => atoms_spec (ws := Jvm.Cond.code x code maxLocals ret :: tables_1) hat d (List.mem_cons_of_mem _ hd)
 have hfit : Fit s := fun {y c} hc i hi => by
  obtain ⟨ha, rfl⟩ := Array.getElem?_eq_some_iff.mp hc
  have q := List.all_eq_true.mp ((Array.all_eq_true_iff_forall_mem.mp hF) _ (Array.getElem_mem ha)) i (List.mem_range.mpr hi)
  simpa [Array.getElem?_eq_getElem hi] using q
 obtain ⟨hsets, az⟩ := atoms_of _ (rest_1_c_eq ▸ (show rest_1_c.before _ s = true from hrest))
 have ab := Cond.before_iff.mp az
 have n3 := not_v (Cond.before_iff.mp (hsets _ (List.mem_of_getElem? (i := 2) rfl)))
 obtain ⟨G1, aa⟩ := is_v (Cond.before_iff.mp (hsets _ (List.mem_of_getElem? (i := 1) rfl)))
 have ac : Sta s s.heap "java/lang/String" "COMPACT_STRINGS" "Z" (.int G1) := Sta.start aa (Or.inl (hsets _ (List.mem_of_getElem? (i := 0) rfl)))
 have ai : ¬ (G1 = (0 : Int32)) := gotF (Cond.eq_ints aa (Term.int_eval (0))) n3
 obtain ⟨G3, aj, aE⟩ := isR_v (Cond.before_iff.mp (hsets _ (List.mem_of_getElem? (i := 8) rfl)))
 have ae : Sta s s.heap "jdk/internal/util/Preconditions" "SIOOBE_FORMATTER" "Ljava/util/function/BiFunction;" G3 := Sta.start aj (Or.inl (hsets _ (List.mem_of_getElem? (i := 7) rfl)))
 have af : Sta s s.heap "java/lang/StringUTF16" "$assertionsDisabled" "Z" (.int 1) := Sta.start (own_eqI (Cond.before_iff.mp (hsets _ (List.mem_of_getElem? (i := 12) rfl)))) (Or.inl (hsets _ (List.mem_of_getElem? (i := 11) rfl)))
 have ag : Sta s s.heap "java/lang/StringUTF16" "HI_BYTE_SHIFT" "I" (.int 0) := Sta.start (own_eqI (Cond.before_iff.mp (hsets _ (List.mem_of_getElem? (i := 15) rfl)))) (Or.inl (hsets _ (List.mem_of_getElem? (i := 14) rfl)))
 have ah : Sta s s.heap "java/lang/StringUTF16" "LO_BYTE_SHIFT" "I" (.int 8) := Sta.start (own_eqI (Cond.before_iff.mp (hsets _ (List.mem_of_getElem? (i := 18) rfl)))) (Or.inl (hsets _ (List.mem_of_getElem? (i := 17) rfl)))
 have hcw : Jvm.Lit.compactW.before _ s = true := (hsets _ (List.mem_of_getElem? (i := 2) rfl))
 have hew : EW s _ ELs := EW.cons (tw hw 19 rfl) (by decide) (EW.cons (tw hw 280 rfl) (by decide) (EW.cons (tw hw 248 rfl) (by decide) EW.nil))
 have ay : ChJ s s.vm s.heap := ⟨State.Warmed39.refl s, CHv.start hew (fun p hp => hcalls.1 p hp) hcw (tw hw 20 rfl) (tw hw 6 rfl), _, hew⟩
 obtain ⟨n, o, h1, h2, h3, _, L, rfl, ⟨rfl, N, -⟩, hq⟩ := lawrm l s _ hw tables_1 i0 i1 i2 i3 i4 i5 G1 G3 s.heap s.heap.size (Nat.le_refl _) ac ai ⟨Old.start s, Nat.le_refl _⟩ ae aE af ag ah hew p e ha hc hk s m _ below hf ((Spec.applies_iff_loose hf).mp happ).1 ⟨rfl, State.Warmed39.refl s, rfl, ay⟩ trivial
 refine ⟨n, _, h1, h2, h3, hpost _ _ _ _ _ _ ⟨Cond.after_iff.mpr rfl, Cond.after_iff.mpr (eq_i res_at (Term.int_eval (1)) rfl), trivial⟩ ⟨hq.1, hq.2.1, hq.2.2.1, (hq.2.2.2.sift fun y hy => Or.inr (N y hy)).mono (by decide) (by decide)⟩⟩
theorem main_1_1 : Claimed_1_1 := comes_1 fun _ _ _ _ _ _ h hF => ⟨h.1, hF⟩
theorem main_1_2 : Claimed_1_2 := comes_1 fun _ _ _ _ _ _ h hF => ⟨h.2.1, hF⟩
end Jvm.Pilot.@@N@@
namespace Jvm.Pilot.@@N@@
open Jvm Jvm.ClassFile Sem Op Lib Jvm.Free Jvm.Stand Jvm.Pilot.@@N@@.Jvm.D
/-! MADE BY PROGRAM (witnessworld.py) out of the Statement's table words and the real class files: 24 classes; the members and pool entries that the words name. The judged class is class 1, her method 4. -/
namespace start1
open Jvm.ClassFile
def u (s : String) : CpInfo := .utf8 (stringToUtf16 s)
/-- a pool by its gaps: so many unusable entries, then the entry; so many at the end -/
def gap : Nat → List CpInfo → List CpInfo
  | 0, r => r
  | n + 1, r => .unusable :: gap n r
def poolList (es : List (Nat × CpInfo)) (last : Nat) : List CpInfo := es.foldr (fun e r => gap e.1 (e.2 :: r)) (gap last [])
def pool (es : List (Nat × CpInfo)) (last : Nat) : Array CpInfo := ⟨poolList es last⟩
def fileOf (pool : Array CpInfo) (this : Nat) (attrs : Array Attribute := #[]) (ms : Array MethodInfo := #[]) (fl : Nat := 33) (sup : Nat := 0) (ifs : Array Nat := #[]) (fds : Array FieldInfo := #[]) : ClassFile where
  minorVersion := 0
  majorVersion := 65
  constantPool := pool
  accessFlags := fl
  thisClass := this
  superClass := sup
  interfaces := ifs
  fields := fds
  methods := ms
  attributes := attrs
def plain (name : String) (sup : Option ClassId) : Class where
  name := name
  kind := .ordinary
  loader := none
  accessFlags := 33
  super := sup
  interfaces := #[]
  cf := none
  fields := #[]
  methods := #[]
  instanceTypes := #[]
  staticTypes := #[]
  resolved := #[]
  callSites := []
  init := .initialized
  statics := none
  mirror := none

def pool0 : Array CpInfo := pool [(5, u "<init>"), (0, u "()V"), (1, .class_ 10), (1, u "java/lang/Object"), (7, u "()Ljava/lang/String;"), (18, u "toString"), (58, u "clone"), (0, u "()Ljava/lang/Object;")] 26

def k0c0 : Code := { maxStack := 0, maxLocals := 1, code := object_method_1_code, exceptionTable := #[], attributes := #[] }
def k0m0 : Method := { name := "<init>", desc := "()V", sig := { parameters := [], returnType := none }, accessFlags := 1, code := some k0c0 }
def k0m1 : Method := { name := "clone", desc := "()Ljava/lang/Object;", sig := { parameters := [], returnType := some (.object "java/lang/Object") }, accessFlags := 260, code := none }
def k0c2 : Code := { maxStack := 2, maxLocals := 1, code := ⟨#[0xbb, 0x00, 0x01, 0x59, 0xb7, 0x00, 0x03, 0x2a, 0xb6, 0x00, 0x07, 0xb6, 0x00, 0x0d, 0xb6, 0x00, 0x13, 0x12, 0x17, 0xb6, 0x00, 0x13, 0x2a, 0xb6, 0x00, 0x19, 0xb8, 0x00, 0x1d, 0xb6, 0x00, 0x13, 0xb6, 0x00, 0x23, 0xb0]⟩, exceptionTable := #[], attributes := #[] }
def k0m2 : Method := { name := "toString", desc := "()Ljava/lang/String;", sig := { parameters := [], returnType := some (.object "java/lang/String") }, accessFlags := 1, code := some k0c2 }
/-- java/lang/Object -/
def k0 : Class := { plain "java/lang/Object" none with
  accessFlags := 33
  interfaces := #[]
  cf := some (fileOf pool0 8 #[] #[{ accessFlags := 1, nameIndex := 5, descriptorIndex := 6, attributes := #[] }, { accessFlags := 260, nameIndex := 96, descriptorIndex := 97, attributes := #[] }, { accessFlags := 1, nameIndex := 37, descriptorIndex := 18, attributes := #[] }] 33 0 #[] #[])
  fields := #[]
  methods := #[k0m0, k0m1, k0m2]
  instanceTypes := #[]
  staticTypes := #[]
  resolved := Array.replicate 124 none
  statics := none }

def pool1 : Array CpInfo := pool [(2, .class_ 4), (1, u "java/lang/Object"), (0, u "<init>"), (0, u "()V"), (0, .integer 65535), (0, .class_ 9), (0, u "java/lang/String"), (0, .methodref 8 11), (0, .nameAndType 5 12), (0, u "([C)V"), (0, .methodref 8 14), (0, .nameAndType 15 16), (0, u "length"), (0, u "()I"), (0, .methodref 8 18), (0, .nameAndType 19 20), (0, u "charAt"), (0, u "(I)C"), (0, .methodref 22 23), (0, .class_ 24), (0, .nameAndType 25 26), (0, u "org/latchkey/cli/ResultLineFieldPinLaw"), (0, u "at"), (0, u "(Ljava/lang/String;ILjava/lang/String;)Z"), (0, .methodref 22 28), (0, .nameAndType 29 30), (0, u "str"), (0, u "(II)Ljava/lang/String;"), (0, .string 32), (0, u "null"), (0, .class_ 34), (0, u "org/latchkey/cli/ResultLine"), (0, .methodref 33 36), (0, .nameAndType 5 37), (0, u "(Ljava/lang/String;)V"), (0, .methodref 33 39), (0, .nameAndType 40 41), (0, u "field"), (0, u "(Ljava/lang/String;Ljava/lang/Object;)Lorg/latchkey/cli/ResultLine;"), (0, .methodref 33 43), (0, .nameAndType 44 45), (0, u "toString"), (0, u "()Ljava/lang/String;"), (0, .methodref 22 47), (0, .nameAndType 48 49), (0, u "fieldAt"), (0, u "(Ljava/lang/String;ILjava/lang/String;Ljava/lang/String;)Z"), (3, u "law"), (0, u "(IIIIII)Z")] 2

def k1m0 : Method := { name := "<init>", desc := "()V", sig := { parameters := [], returnType := none }, accessFlags := 1, code := none }
def k1c1 : Code := { maxStack := 6, maxLocals := 4, code := method_2_code, exceptionTable := #[], attributes := #[] }
def k1m1 : Method := { name := "str", desc := "(II)Ljava/lang/String;", sig := { parameters := [.int, .int], returnType := some (.object "java/lang/String") }, accessFlags := 10, code := some k1c1 }
def k1c2 : Code := { maxStack := 3, maxLocals := 5, code := method_3_code, exceptionTable := #[], attributes := #[] }
def k1m2 : Method := { name := "at", desc := "(Ljava/lang/String;ILjava/lang/String;)Z", sig := { parameters := [(.object "java/lang/String"), .int, (.object "java/lang/String")], returnType := some .boolean }, accessFlags := 10, code := some k1c2 }
def k1c3 : Code := { maxStack := 3, maxLocals := 5, code := method_4_code, exceptionTable := #[], attributes := #[] }
def k1m3 : Method := { name := "fieldAt", desc := "(Ljava/lang/String;ILjava/lang/String;Ljava/lang/String;)Z", sig := { parameters := [(.object "java/lang/String"), .int, (.object "java/lang/String"), (.object "java/lang/String")], returnType := some .boolean }, accessFlags := 10, code := some k1c3 }
def k1c4 : Code := { maxStack := 4, maxLocals := 25, code := code, exceptionTable := #[], attributes := #[] }
def k1m4 : Method := { name := "law", desc := "(IIIIII)Z", sig := { parameters := [.int, .int, .int, .int, .int, .int], returnType := some .boolean }, accessFlags := 9, code := some k1c4 }
/-- org/latchkey/cli/ResultLineFieldPinLaw -/
def k1 : Class := { plain "org/latchkey/cli/ResultLineFieldPinLaw" (some 0) with
  accessFlags := 49
  interfaces := #[]
  cf := some (fileOf pool1 22 #[] #[{ accessFlags := 1, nameIndex := 5, descriptorIndex := 6, attributes := #[] }, { accessFlags := 10, nameIndex := 29, descriptorIndex := 30, attributes := #[] }, { accessFlags := 10, nameIndex := 25, descriptorIndex := 26, attributes := #[] }, { accessFlags := 10, nameIndex := 48, descriptorIndex := 49, attributes := #[] }, { accessFlags := 9, nameIndex := 53, descriptorIndex := 54, attributes := #[] }] 49 2 #[] #[])
  fields := #[]
  methods := #[k1m0, k1m1, k1m2, k1m3, k1m4]
  instanceTypes := #[]
  staticTypes := #[]
  resolved := Array.replicate 57 none
  statics := none }

def pool2 : Array CpInfo := pool [(1, .class_ 2), (0, u "java/io/Serializable"), (0, .class_ 4), (0, u "java/lang/Object")] 2

/-- java/io/Serializable -/
def k2 : Class := { plain "java/io/Serializable" (some 0) with
  accessFlags := 1537
  interfaces := #[]
  cf := some (fileOf pool2 1 #[] #[] 1537 3 #[] #[])
  fields := #[]
  methods := #[]
  instanceTypes := #[]
  staticTypes := #[]
  resolved := Array.replicate 7 none
  statics := none }

def pool3 : Array CpInfo := pool [(1, .class_ 2), (0, u "java/lang/Comparable"), (0, .class_ 4), (0, u "java/lang/Object")] 7

/-- java/lang/Comparable -/
def k3 : Class := { plain "java/lang/Comparable" (some 0) with
  accessFlags := 1537
  interfaces := #[]
  cf := some (fileOf pool3 1 #[] #[] 1537 3 #[] #[])
  fields := #[]
  methods := #[]
  instanceTypes := #[]
  staticTypes := #[]
  resolved := Array.replicate 12 none
  statics := none }

def pool4 : Array CpInfo := pool [(2, .class_ 4), (1, u "java/lang/CharSequence"), (42, .class_ 48), (0, u "java/lang/CharSequence$1CodePointIterator"), (10, .class_ 60), (0, u "java/lang/CharSequence$1CharIterator"), (5, .class_ 67), (0, u "java/lang/Object")] 63

/-- java/lang/CharSequence -/
def k4 : Class := { plain "java/lang/CharSequence" (some 0) with
  accessFlags := 1537
  interfaces := #[]
  cf := some (fileOf pool4 2 #[.nestMembers #[47, 59]] #[] 1537 66 #[] #[])
  fields := #[]
  methods := #[]
  instanceTypes := #[]
  staticTypes := #[]
  resolved := Array.replicate 131 none
  statics := none }

def pool5 : Array CpInfo := pool [(1, .class_ 2), (0, u "java/lang/constant/Constable"), (0, .class_ 4), (0, u "java/lang/Object")] 6

/-- java/lang/constant/Constable -/
def k5 : Class := { plain "java/lang/constant/Constable" (some 0) with
  accessFlags := 1537
  interfaces := #[]
  cf := some (fileOf pool5 1 #[] #[] 1537 3 #[] #[])
  fields := #[]
  methods := #[]
  instanceTypes := #[]
  staticTypes := #[]
  resolved := Array.replicate 11 none
  statics := none }

def pool6 : Array CpInfo := pool [(1, .class_ 2), (0, u "java/lang/constant/ConstantDesc"), (0, .class_ 4), (0, u "java/lang/Object")] 32

/-- java/lang/constant/ConstantDesc -/
def k6 : Class := { plain "java/lang/constant/ConstantDesc" (some 0) with
  accessFlags := 1537
  interfaces := #[]
  cf := some (fileOf pool6 1 #[] #[] 1537 3 #[] #[])
  fields := #[]
  methods := #[]
  instanceTypes := #[]
  staticTypes := #[]
  resolved := Array.replicate 37 none
  statics := none }

def pool7 : Array CpInfo := pool [(1, .methodref 2 3), (0, .class_ 4), (0, .nameAndType 5 6), (0, u "java/lang/Object"), (0, u "<init>"), (0, u "()V"), (0, .string 8), (0, u ""), (0, .fieldref 10 11), (0, .class_ 12), (0, .nameAndType 13 14), (0, u "java/lang/String"), (0, u "value"), (0, u "[B"), (0, .fieldref 10 16), (0, .nameAndType 17 18), (0, u "coder"), (0, u "B"), (2, u "hash"), (0, u "I"), (2, u "hashIsZero"), (0, u "Z"), (0, .methodref 10 28), (0, .nameAndType 5 29), (0, u "([CIILjava/lang/Void;)V"), (6, u "checkBoundsOffCount"), (0, u "(III)I"), (0, .fieldref 10 39), (0, .nameAndType 40 26), (0, u "COMPACT_STRINGS"), (1, .class_ 44), (1, u "java/lang/StringUTF16"), (0, u "compress"), (1, .methodref 42 48), (0, .nameAndType 49 50), (0, u "coderFromArrayLen"), (0, u "([BI)B"), (3, .methodref 55 56), (0, .class_ 57), (0, .nameAndType 58 59), (0, u "java/util/Arrays"), (0, u "copyOfRange"), (0, u "([BII)[B"), (46, .methodref 107 108), (0, .class_ 109), (0, .nameAndType 110 111), (0, u "java/lang/StringLatin1"), (0, u "inflate"), (0, u "([BI[BII)V"), (30, u "()Z"), (34, .methodref 42 178), (0, .nameAndType 45 179), (0, u "([CII)[B"), (13, .class_ 195), (1, u "java/lang/System"), (16, .methodref 193 213), (0, .nameAndType 214 215), (0, u "arraycopy"), (0, u "(Ljava/lang/Object;ILjava/lang/Object;II)V"), (118, u "()I"), (0, .methodref 10 336), (0, .nameAndType 17 337), (0, u "()B"), (2, u "()[B"), (22, u "([BI)C"), (27, u "(II)V"), (35, u "(I)C"), (34, .nameAndType 463 464), (0, u "toString"), (0, u "()Ljava/lang/String;"), (24, .methodref 10 490), (0, .nameAndType 5 491), (0, u "(Ljava/lang/AbstractStringBuilder;Ljava/lang/Void;)V"), (0, .methodref 10 493), (0, .nameAndType 494 142), (0, u "isLatin1"), (0, .methodref 107 496), (0, .nameAndType 497 363), (0, u "charAt"), (0, .methodref 42 496), (2, u "checkIndex"), (4, .nameAndType 507 334), (0, u "length"), (24, u "getBytes"), (16, .methodref 550 506), (0, .class_ 551), (0, u "java/lang/AbstractStringBuilder"), (0, .methodref 550 553), (0, .nameAndType 554 340), (0, u "getValue"), (20, .class_ 576), (0, u "java/lang/CharSequence"), (22, u "CASE_INSENSITIVE_ORDER"), (0, u "Ljava/util/Comparator;"), (181, u "valueOf"), (25, u "(Ljava/lang/Object;)Ljava/lang/String;"), (12, u "([BIB)V"), (183, .string 1006), (0, u "null"), (0, .methodref 2 462), (2, u "([C)V"), (36, .methodref 550 493), (0, .fieldref 550 1049), (0, .nameAndType 1050 26), (0, u "maybeLatin1"), (2, .fieldref 1054 1055), (0, .class_ 1056), (0, .nameAndType 1057 1058), (0, u "jdk/internal/util/Preconditions"), (0, u "SIOOBE_FORMATTER"), (0, u "Ljava/util/function/BiFunction;"), (0, .methodref 1054 1060), (0, .nameAndType 501 1061), (0, u "(IILjava/util/function/BiFunction;)I"), (2, u "(IIILjava/util/function/BiFunction;)I"), (0, .methodref 1054 1066), (0, .nameAndType 1067 1064), (0, u "checkFromIndexSize"), (33, u "serialPersistentFields"), (0, u "[Ljava/io/ObjectStreamField;"), (0, .class_ 1104), (0, u "java/lang/String$CaseInsensitiveComparator"), (1, .class_ 1107), (0, u "java/io/Serializable"), (0, .class_ 1109), (0, u "java/lang/Comparable"), (0, .class_ 1111), (0, u "java/lang/constant/Constable"), (0, .class_ 1113), (0, u "java/lang/constant/ConstantDesc"), (2, u "serialVersionUID"), (0, u "J"), (3, u "REPL"), (0, u "C"), (2, u "LATIN1"), (1, u "UTF16"), (105, u "(Ljava/lang/StringBuilder;)V")] 217

def k7m0 : Method := { name := "<init>", desc := "()V", sig := { parameters := [], returnType := none }, accessFlags := 1, code := none }
def k7c1 : Code := { maxStack := 5, maxLocals := 2, code := jdk_42_method_3_code, exceptionTable := #[], attributes := #[] }
def k7m1 : Method := { name := "<init>", desc := "([C)V", sig := { parameters := [(.array .char)], returnType := none }, accessFlags := 1, code := some k7c1 }
def k7c2 : Code := { maxStack := 3, maxLocals := 2, code := jdk_42_method_53_code, exceptionTable := #[], attributes := #[] }
def k7m2 : Method := { name := "<init>", desc := "(Ljava/lang/StringBuilder;)V", sig := { parameters := [(.object "java/lang/StringBuilder")], returnType := none }, accessFlags := 1, code := some k7c2 }
def k7c3 : Code := { maxStack := 2, maxLocals := 1, code := jdk_42_method_54_code, exceptionTable := #[], attributes := #[] }
def k7m3 : Method := { name := "length", desc := "()I", sig := { parameters := [], returnType := some .int }, accessFlags := 1, code := some k7c3 }
def k7c4 : Code := { maxStack := 2, maxLocals := 2, code := jdk_42_method_56_code, exceptionTable := #[], attributes := #[] }
def k7m4 : Method := { name := "charAt", desc := "(I)C", sig := { parameters := [.int], returnType := some .char }, accessFlags := 1, code := some k7c4 }
def k7c5 : Code := { maxStack := 1, maxLocals := 1, code := jdk_42_method_126_code, exceptionTable := #[], attributes := #[] }
def k7m5 : Method := { name := "toString", desc := "()Ljava/lang/String;", sig := { parameters := [], returnType := some (.object "java/lang/String") }, accessFlags := 1, code := some k7c5 }
def k7c6 : Code := { maxStack := 1, maxLocals := 1, code := jdk_42_method_133_code, exceptionTable := #[], attributes := #[] }
def k7m6 : Method := { name := "valueOf", desc := "(Ljava/lang/Object;)Ljava/lang/String;", sig := { parameters := [(.object "java/lang/Object")], returnType := some (.object "java/lang/String") }, accessFlags := 9, code := some k7c6 }
def k7c7 : Code := { maxStack := 5, maxLocals := 4, code := jdk_42_method_147_code, exceptionTable := #[], attributes := #[] }
def k7m7 : Method := { name := "getBytes", desc := "([BIB)V", sig := { parameters := [(.array .byte), .int, .byte], returnType := none }, accessFlags := 0, code := some k7c7 }
def k7c8 : Code := { maxStack := 4, maxLocals := 6, code := jdk_42_method_149_code, exceptionTable := #[], attributes := #[] }
def k7m8 : Method := { name := "<init>", desc := "([CIILjava/lang/Void;)V", sig := { parameters := [(.array .char), .int, .int, (.object "java/lang/Void")], returnType := none }, accessFlags := 2, code := some k7c8 }
def k7c9 : Code := { maxStack := 5, maxLocals := 5, code := jdk_42_method_150_code, exceptionTable := #[], attributes := #[] }
def k7m9 : Method := { name := "<init>", desc := "(Ljava/lang/AbstractStringBuilder;Ljava/lang/Void;)V", sig := { parameters := [(.object "java/lang/AbstractStringBuilder"), (.object "java/lang/Void")], returnType := none }, accessFlags := 0, code := some k7c9 }
def k7c10 : Code := { maxStack := 1, maxLocals := 1, code := jdk_42_method_152_code, exceptionTable := #[], attributes := #[] }
def k7m10 : Method := { name := "coder", desc := "()B", sig := { parameters := [], returnType := some .byte }, accessFlags := 0, code := some k7c10 }
def k7c11 : Code := { maxStack := 1, maxLocals := 1, code := jdk_42_method_154_code, exceptionTable := #[], attributes := #[] }
def k7m11 : Method := { name := "isLatin1", desc := "()Z", sig := { parameters := [], returnType := some .boolean }, accessFlags := 0, code := some k7c11 }
def k7c12 : Code := { maxStack := 3, maxLocals := 2, code := jdk_42_method_155_code, exceptionTable := #[], attributes := #[] }
def k7m12 : Method := { name := "checkIndex", desc := "(II)V", sig := { parameters := [.int, .int], returnType := none }, accessFlags := 8, code := some k7c12 }
def k7c13 : Code := { maxStack := 4, maxLocals := 3, code := jdk_42_method_157_code, exceptionTable := #[], attributes := #[] }
def k7m13 : Method := { name := "checkBoundsOffCount", desc := "(III)I", sig := { parameters := [.int, .int, .int], returnType := some .int }, accessFlags := 8, code := some k7c13 }
/-- java/lang/String -/
def k7 : Class := { plain "java/lang/String" (some 0) with
  accessFlags := 49
  interfaces := #[2, 3, 4, 5, 6]
  cf := some (fileOf pool7 10 #[.nestMembers #[1103]] #[{ accessFlags := 1, nameIndex := 5, descriptorIndex := 6, attributes := #[] }, { accessFlags := 1, nameIndex := 5, descriptorIndex := 1010, attributes := #[] }, { accessFlags := 1, nameIndex := 5, descriptorIndex := 1233, attributes := #[] }, { accessFlags := 1, nameIndex := 507, descriptorIndex := 334, attributes := #[] }, { accessFlags := 1, nameIndex := 497, descriptorIndex := 427, attributes := #[] }, { accessFlags := 1, nameIndex := 463, descriptorIndex := 464, attributes := #[] }, { accessFlags := 9, nameIndex := 782, descriptorIndex := 808, attributes := #[] }, { accessFlags := 0, nameIndex := 532, descriptorIndex := 821, attributes := #[] }, { accessFlags := 2, nameIndex := 5, descriptorIndex := 29, attributes := #[] }, { accessFlags := 0, nameIndex := 5, descriptorIndex := 491, attributes := #[] }, { accessFlags := 0, nameIndex := 17, descriptorIndex := 337, attributes := #[] }, { accessFlags := 0, nameIndex := 494, descriptorIndex := 142, attributes := #[] }, { accessFlags := 8, nameIndex := 501, descriptorIndex := 391, attributes := #[] }, { accessFlags := 8, nameIndex := 36, descriptorIndex := 37, attributes := #[] }] 49 2 #[1106, 1108, 575, 1110, 1112] #[{ accessFlags := 18, nameIndex := 13, descriptorIndex := 14, attributes := #[] }, { accessFlags := 18, nameIndex := 17, descriptorIndex := 18, attributes := #[] }, { accessFlags := 2, nameIndex := 21, descriptorIndex := 22, attributes := #[] }, { accessFlags := 2, nameIndex := 25, descriptorIndex := 26, attributes := #[] }, { accessFlags := 26, nameIndex := 1116, descriptorIndex := 1117, attributes := #[] }, { accessFlags := 24, nameIndex := 40, descriptorIndex := 26, attributes := #[] }, { accessFlags := 26, nameIndex := 1101, descriptorIndex := 1102, attributes := #[] }, { accessFlags := 26, nameIndex := 1121, descriptorIndex := 1122, attributes := #[] }, { accessFlags := 25, nameIndex := 599, descriptorIndex := 600, attributes := #[] }, { accessFlags := 24, nameIndex := 1125, descriptorIndex := 18, attributes := #[] }, { accessFlags := 24, nameIndex := 1127, descriptorIndex := 18, attributes := #[] }])
  fields := #[{ name := "value", type := (.array .byte), accessFlags := 18, slot := 0, constantValue := 0 }, { name := "coder", type := .byte, accessFlags := 18, slot := 1, constantValue := 0 }, { name := "hash", type := .int, accessFlags := 2, slot := 2, constantValue := 0 }, { name := "hashIsZero", type := .boolean, accessFlags := 2, slot := 3, constantValue := 0 }, { name := "serialVersionUID", type := .long, accessFlags := 26, slot := 0, constantValue := 0 }, { name := "COMPACT_STRINGS", type := .boolean, accessFlags := 24, slot := 1, constantValue := 0 }, { name := "serialPersistentFields", type := (.array (.object "java/io/ObjectStreamField")), accessFlags := 26, slot := 2, constantValue := 0 }, { name := "REPL", type := .char, accessFlags := 26, slot := 3, constantValue := 0 }, { name := "CASE_INSENSITIVE_ORDER", type := (.object "java/util/Comparator"), accessFlags := 25, slot := 4, constantValue := 0 }, { name := "LATIN1", type := .byte, accessFlags := 24, slot := 5, constantValue := 0 }, { name := "UTF16", type := .byte, accessFlags := 24, slot := 6, constantValue := 0 }]
  methods := #[k7m0, k7m1, k7m2, k7m3, k7m4, k7m5, k7m6, k7m7, k7m8, k7m9, k7m10, k7m11, k7m12, k7m13]
  instanceTypes := #[(.array .byte), .byte, .int, .boolean]
  staticTypes := #[.long, .boolean, (.array (.object "java/io/ObjectStreamField")), .char, (.object "java/util/Comparator"), .byte, .byte]
  resolved := Array.replicate 1451 none
  statics := some 0 }

def pool8 : Array CpInfo := pool [(1, .methodref 2 3), (0, .class_ 4), (0, .nameAndType 5 6), (0, u "java/lang/Object"), (0, u "<init>"), (0, u "()V"), (0, .class_ 8), (0, u "java/lang/StringBuilder"), (0, .methodref 7 10), (0, .nameAndType 5 11), (0, u "(Ljava/lang/String;)V"), (0, .fieldref 13 14), (0, .class_ 15), (0, .nameAndType 16 17), (0, u "org/latchkey/cli/ResultLine"), (0, u "text"), (0, u "Ljava/lang/StringBuilder;"), (0, .methodref 7 19), (0, .nameAndType 20 21), (0, u "append"), (0, u "(C)Ljava/lang/StringBuilder;"), (0, .methodref 7 23), (0, .nameAndType 20 24), (0, u "(Ljava/lang/String;)Ljava/lang/StringBuilder;"), (0, .methodref 7 26), (0, .nameAndType 20 27), (0, u "(Ljava/lang/Object;)Ljava/lang/StringBuilder;"), (6, u "field"), (0, u "(Ljava/lang/String;Ljava/lang/Object;)Lorg/latchkey/cli/ResultLine;"), (30, .methodref 7 67), (0, .nameAndType 68 69), (0, u "toString"), (0, u "()Ljava/lang/String;")] 26

def k8c0 : Code := { maxStack := 4, maxLocals := 2, code := prog_5_method_1_code, exceptionTable := #[], attributes := #[] }
def k8m0 : Method := { name := "<init>", desc := "(Ljava/lang/String;)V", sig := { parameters := [(.object "java/lang/String")], returnType := none }, accessFlags := 0, code := some k8c0 }
def k8c1 : Code := { maxStack := 2, maxLocals := 3, code := prog_5_method_2_code, exceptionTable := #[], attributes := #[] }
def k8m1 : Method := { name := "field", desc := "(Ljava/lang/String;Ljava/lang/Object;)Lorg/latchkey/cli/ResultLine;", sig := { parameters := [(.object "java/lang/String"), (.object "java/lang/Object")], returnType := some (.object "org/latchkey/cli/ResultLine") }, accessFlags := 0, code := some k8c1 }
def k8c2 : Code := { maxStack := 1, maxLocals := 1, code := prog_5_method_7_code, exceptionTable := #[], attributes := #[] }
def k8m2 : Method := { name := "toString", desc := "()Ljava/lang/String;", sig := { parameters := [], returnType := some (.object "java/lang/String") }, accessFlags := 1, code := some k8c2 }
/-- org/latchkey/cli/ResultLine -/
def k8 : Class := { plain "org/latchkey/cli/ResultLine" (some 0) with
  accessFlags := 48
  interfaces := #[]
  cf := some (fileOf pool8 13 #[] #[{ accessFlags := 0, nameIndex := 5, descriptorIndex := 11, attributes := #[] }, { accessFlags := 0, nameIndex := 34, descriptorIndex := 35, attributes := #[] }, { accessFlags := 1, nameIndex := 68, descriptorIndex := 69, attributes := #[] }] 48 2 #[] #[{ accessFlags := 18, nameIndex := 16, descriptorIndex := 17, attributes := #[] }])
  fields := #[{ name := "text", type := (.object "java/lang/StringBuilder"), accessFlags := 18, slot := 0, constantValue := 0 }]
  methods := #[k8m0, k8m1, k8m2]
  instanceTypes := #[(.object "java/lang/StringBuilder")]
  staticTypes := #[]
  resolved := Array.replicate 96 none
  statics := none }

def pool9 : Array CpInfo := pool [(1, .class_ 2), (0, u "java/lang/Appendable"), (0, .class_ 4), (0, u "java/lang/Object")] 9

/-- java/lang/Appendable -/
def k9 : Class := { plain "java/lang/Appendable" (some 0) with
  accessFlags := 1537
  interfaces := #[]
  cf := some (fileOf pool9 1 #[] #[] 1537 3 #[] #[])
  fields := #[]
  methods := #[]
  instanceTypes := #[]
  staticTypes := #[]
  resolved := Array.replicate 14 none
  statics := none }

def pool10 : Array CpInfo := pool [(1, .class_ 2), (0, u "java/lang/String"), (0, .methodref 4 5), (0, .class_ 6), (0, .nameAndType 7 8), (0, u "java/lang/Object"), (0, u "<init>"), (0, u "()V"), (1, .class_ 12), (1, u "java/lang/AbstractStringBuilder"), (0, u "EMPTYVALUE"), (0, u "[B"), (0, .fieldref 10 16), (0, .nameAndType 17 14), (0, u "value"), (0, .fieldref 1 19), (0, .nameAndType 20 21), (0, u "COMPACT_STRINGS"), (0, u "Z"), (0, .fieldref 10 23), (0, .nameAndType 24 25), (0, u "coder"), (0, u "B"), (0, .methodref 27 28), (0, .class_ 29), (0, .nameAndType 30 31), (0, u "java/lang/StringUTF16"), (0, u "newBytesFor"), (0, u "(I)[B"), (0, .methodref 1 33), (0, .nameAndType 34 35), (0, u "length"), (0, u "()I"), (2, .integer 2147483631), (1, .methodref 1 41), (0, .nameAndType 24 42), (0, u "()B"), (0, .methodref 10 44), (0, .nameAndType 45 46), (0, u "append"), (0, u "(Ljava/lang/String;)Ljava/lang/AbstractStringBuilder;"), (1, .class_ 49), (0, u "java/lang/CharSequence"), (19, u "(Ljava/lang/String;)V"), (5, u "maybeLatin1"), (3, .fieldref 10 80), (0, .nameAndType 81 82), (0, u "count"), (0, u "I"), (0, .methodref 10 84), (0, .nameAndType 85 86), (0, u "isLatin1"), (0, u "()Z"), (1, .class_ 90), (1, u "java/lang/StringLatin1"), (9, .methodref 10 101), (0, .nameAndType 102 103), (0, u "ensureCapacityInternal"), (0, u "(I)V"), (21, .methodref 88 126), (0, .nameAndType 127 128), (0, u "inflate"), (0, u "([BI[BII)V"), (7, u "([BII)V"), (54, .methodref 88 192), (0, .nameAndType 193 194), (0, u "canEncode"), (0, u "(C)Z"), (0, .methodref 10 196), (0, .nameAndType 127 8), (0, .methodref 27 198), (0, .nameAndType 199 136), (0, u "putCharSB"), (8, .methodref 10 209), (0, .nameAndType 210 211), (0, u "putStringAt"), (0, u "(ILjava/lang/String;)V"), (5, u "inflateIfNeededFor"), (2, .nameAndType 221 222), (0, u "getBytes"), (0, u "([BIB)V"), (69, u "(C)Ljava/lang/AbstractStringBuilder;"), (104, .methodref 10 398), (0, .nameAndType 217 69), (0, .methodref 1 220), (3, u "()[B"), (40, .class_ 445), (0, u "java/lang/Appendable"), (106, u "getValue")] 56

def k10m0 : Method := { name := "<init>", desc := "()V", sig := { parameters := [], returnType := none }, accessFlags := 0, code := none }
def k10c1 : Code := { maxStack := 2, maxLocals := 5, code := jdk_68_method_3_code, exceptionTable := #[], attributes := #[] }
def k10m1 : Method := { name := "<init>", desc := "(Ljava/lang/String;)V", sig := { parameters := [(.object "java/lang/String")], returnType := none }, accessFlags := 0, code := some k10c1 }
def k10c2 : Code := { maxStack := 1, maxLocals := 1, code := jdk_68_method_6_code, exceptionTable := #[], attributes := #[] }
def k10m2 : Method := { name := "length", desc := "()I", sig := { parameters := [], returnType := some .int }, accessFlags := 1, code := some k10c2 }
def k10c3 : Code := { maxStack := 4, maxLocals := 3, code := jdk_68_method_9_code, exceptionTable := #[], attributes := #[] }
def k10m3 : Method := { name := "ensureCapacityInternal", desc := "(I)V", sig := { parameters := [.int], returnType := none }, accessFlags := 2, code := some k10c3 }
def k10c4 : Code := { maxStack := 5, maxLocals := 2, code := jdk_68_method_11_code, exceptionTable := #[], attributes := #[] }
def k10m4 : Method := { name := "inflate", desc := "()V", sig := { parameters := [], returnType := none }, accessFlags := 2, code := some k10c4 }
def k10c5 : Code := { maxStack := 3, maxLocals := 3, code := jdk_68_method_22_code, exceptionTable := #[], attributes := #[] }
def k10m5 : Method := { name := "append", desc := "(Ljava/lang/String;)Ljava/lang/AbstractStringBuilder;", sig := { parameters := [(.object "java/lang/String")], returnType := some (.object "java/lang/AbstractStringBuilder") }, accessFlags := 1, code := some k10c5 }
def k10c6 : Code := { maxStack := 5, maxLocals := 2, code := jdk_68_method_31_code, exceptionTable := #[], attributes := #[] }
def k10m6 : Method := { name := "append", desc := "(C)Ljava/lang/AbstractStringBuilder;", sig := { parameters := [.char], returnType := some (.object "java/lang/AbstractStringBuilder") }, accessFlags := 1, code := some k10c6 }
def k10c7 : Code := { maxStack := 1, maxLocals := 1, code := jdk_68_method_64_code, exceptionTable := #[], attributes := #[] }
def k10m7 : Method := { name := "getValue", desc := "()[B", sig := { parameters := [], returnType := some (.array .byte) }, accessFlags := 16, code := some k10c7 }
def k10c8 : Code := { maxStack := 1, maxLocals := 1, code := jdk_68_method_68_code, exceptionTable := #[], attributes := #[] }
def k10m8 : Method := { name := "isLatin1", desc := "()Z", sig := { parameters := [], returnType := some .boolean }, accessFlags := 16, code := some k10c8 }
def k10c9 : Code := { maxStack := 2, maxLocals := 2, code := jdk_68_method_71_code, exceptionTable := #[], attributes := #[] }
def k10m9 : Method := { name := "inflateIfNeededFor", desc := "(Ljava/lang/String;)V", sig := { parameters := [(.object "java/lang/String")], returnType := none }, accessFlags := 2, code := some k10c9 }
def k10c10 : Code := { maxStack := 4, maxLocals := 3, code := jdk_68_method_73_code, exceptionTable := #[], attributes := #[] }
def k10m10 : Method := { name := "putStringAt", desc := "(ILjava/lang/String;)V", sig := { parameters := [.int, (.object "java/lang/String")], returnType := none }, accessFlags := 2, code := some k10c10 }
/-- java/lang/AbstractStringBuilder -/
def k10 : Class := { plain "java/lang/AbstractStringBuilder" (some 0) with
  accessFlags := 1056
  interfaces := #[9, 4]
  cf := some (fileOf pool10 10 #[] #[{ accessFlags := 0, nameIndex := 7, descriptorIndex := 8, attributes := #[] }, { accessFlags := 0, nameIndex := 7, descriptorIndex := 69, attributes := #[] }, { accessFlags := 1, nameIndex := 34, descriptorIndex := 35, attributes := #[] }, { accessFlags := 2, nameIndex := 102, descriptorIndex := 103, attributes := #[] }, { accessFlags := 2, nameIndex := 127, descriptorIndex := 8, attributes := #[] }, { accessFlags := 1, nameIndex := 45, descriptorIndex := 46, attributes := #[] }, { accessFlags := 1, nameIndex := 45, descriptorIndex := 292, attributes := #[] }, { accessFlags := 16, nameIndex := 552, descriptorIndex := 403, attributes := #[] }, { accessFlags := 16, nameIndex := 85, descriptorIndex := 86, attributes := #[] }, { accessFlags := 2, nameIndex := 217, descriptorIndex := 69, attributes := #[] }, { accessFlags := 2, nameIndex := 210, descriptorIndex := 211, attributes := #[] }] 1056 4 #[444, 48] #[{ accessFlags := 0, nameIndex := 17, descriptorIndex := 14, attributes := #[] }, { accessFlags := 0, nameIndex := 24, descriptorIndex := 25, attributes := #[] }, { accessFlags := 0, nameIndex := 75, descriptorIndex := 21, attributes := #[] }, { accessFlags := 0, nameIndex := 81, descriptorIndex := 82, attributes := #[] }, { accessFlags := 26, nameIndex := 13, descriptorIndex := 14, attributes := #[] }])
  fields := #[{ name := "value", type := (.array .byte), accessFlags := 0, slot := 0, constantValue := 0 }, { name := "coder", type := .byte, accessFlags := 0, slot := 1, constantValue := 0 }, { name := "maybeLatin1", type := .boolean, accessFlags := 0, slot := 2, constantValue := 0 }, { name := "count", type := .int, accessFlags := 0, slot := 3, constantValue := 0 }, { name := "EMPTYVALUE", type := (.array .byte), accessFlags := 26, slot := 0, constantValue := 0 }]
  methods := #[k10m0, k10m1, k10m2, k10m3, k10m4, k10m5, k10m6, k10m7, k10m8, k10m9, k10m10]
  instanceTypes := #[(.array .byte), .byte, .boolean, .int]
  staticTypes := #[(.array .byte)]
  resolved := Array.replicate 609 none
  statics := none }

def pool11 : Array CpInfo := pool [(2, .class_ 4), (1, u "java/lang/AbstractStringBuilder"), (0, u "<init>"), (1, .methodref 2 8), (0, .nameAndType 5 9), (0, u "(Ljava/lang/String;)V"), (7, .methodref 18 19), (0, .class_ 20), (0, .nameAndType 21 22), (0, u "java/lang/String"), (0, u "valueOf"), (0, u "(Ljava/lang/Object;)Ljava/lang/String;"), (0, .methodref 24 25), (0, .class_ 26), (0, .nameAndType 27 28), (0, u "java/lang/StringBuilder"), (0, u "append"), (0, u "(Ljava/lang/String;)Ljava/lang/StringBuilder;"), (0, .methodref 2 30), (0, .nameAndType 27 31), (0, u "(Ljava/lang/String;)Ljava/lang/AbstractStringBuilder;"), (18, .methodref 2 51), (0, .nameAndType 27 52), (0, u "(C)Ljava/lang/AbstractStringBuilder;"), (84, .methodref 18 138), (0, .nameAndType 5 139), (0, u "(Ljava/lang/StringBuilder;)V"), (5, u "()V"), (10, u "()I"), (129, u "(C)Ljava/lang/StringBuilder;"), (20, u "(Ljava/lang/Object;)Ljava/lang/StringBuilder;"), (35, .methodref 2 344), (0, .nameAndType 345 156), (0, u "length"), (3, .class_ 350), (0, u "java/lang/Appendable"), (0, .class_ 352), (0, u "java/io/Serializable"), (0, .class_ 354), (0, u "java/lang/Comparable"), (0, .class_ 356), (0, u "java/lang/CharSequence"), (0, u "serialVersionUID"), (0, u "J"), (40, u "toString"), (0, u "()Ljava/lang/String;")] 21

def k11m0 : Method := { name := "<init>", desc := "()V", sig := { parameters := [], returnType := none }, accessFlags := 1, code := none }
def k11c1 : Code := { maxStack := 2, maxLocals := 2, code := jdk_67_method_3_code, exceptionTable := #[], attributes := #[] }
def k11m1 : Method := { name := "<init>", desc := "(Ljava/lang/String;)V", sig := { parameters := [(.object "java/lang/String")], returnType := none }, accessFlags := 1, code := some k11c1 }
def k11c2 : Code := { maxStack := 2, maxLocals := 2, code := jdk_67_method_6_code, exceptionTable := #[], attributes := #[] }
def k11m2 : Method := { name := "append", desc := "(Ljava/lang/Object;)Ljava/lang/StringBuilder;", sig := { parameters := [(.object "java/lang/Object")], returnType := some (.object "java/lang/StringBuilder") }, accessFlags := 1, code := some k11c2 }
def k11c3 : Code := { maxStack := 2, maxLocals := 2, code := jdk_67_method_7_code, exceptionTable := #[], attributes := #[] }
def k11m3 : Method := { name := "append", desc := "(Ljava/lang/String;)Ljava/lang/StringBuilder;", sig := { parameters := [(.object "java/lang/String")], returnType := some (.object "java/lang/StringBuilder") }, accessFlags := 1, code := some k11c3 }
def k11c4 : Code := { maxStack := 2, maxLocals := 2, code := jdk_67_method_14_code, exceptionTable := #[], attributes := #[] }
def k11m4 : Method := { name := "append", desc := "(C)Ljava/lang/StringBuilder;", sig := { parameters := [.char], returnType := some (.object "java/lang/StringBuilder") }, accessFlags := 1, code := some k11c4 }
def k11c5 : Code := { maxStack := 3, maxLocals := 1, code := jdk_67_method_42_code, exceptionTable := #[], attributes := #[] }
def k11m5 : Method := { name := "toString", desc := "()Ljava/lang/String;", sig := { parameters := [], returnType := some (.object "java/lang/String") }, accessFlags := 1, code := some k11c5 }
def k11c6 : Code := { maxStack := 2, maxLocals := 2, code := jdk_67_method_80_code, exceptionTable := #[], attributes := #[] }
def k11m6 : Method := { name := "append", desc := "(Ljava/lang/String;)Ljava/lang/AbstractStringBuilder;", sig := { parameters := [(.object "java/lang/String")], returnType := some (.object "java/lang/AbstractStringBuilder") }, accessFlags := 4161, code := some k11c6 }
def k11c7 : Code := { maxStack := 1, maxLocals := 1, code := jdk_67_method_93_code, exceptionTable := #[], attributes := #[] }
def k11m7 : Method := { name := "length", desc := "()I", sig := { parameters := [], returnType := some .int }, accessFlags := 4161, code := some k11c7 }
/-- java/lang/StringBuilder -/
def k11 : Class := { plain "java/lang/StringBuilder" (some 10) with
  accessFlags := 49
  interfaces := #[9, 2, 3, 4]
  cf := some (fileOf pool11 24 #[] #[{ accessFlags := 1, nameIndex := 5, descriptorIndex := 145, attributes := #[] }, { accessFlags := 1, nameIndex := 5, descriptorIndex := 9, attributes := #[] }, { accessFlags := 1, nameIndex := 27, descriptorIndex := 307, attributes := #[] }, { accessFlags := 1, nameIndex := 27, descriptorIndex := 28, attributes := #[] }, { accessFlags := 1, nameIndex := 27, descriptorIndex := 286, attributes := #[] }, { accessFlags := 1, nameIndex := 399, descriptorIndex := 400, attributes := #[] }, { accessFlags := 4161, nameIndex := 27, descriptorIndex := 31, attributes := #[] }, { accessFlags := 4161, nameIndex := 345, descriptorIndex := 156, attributes := #[] }] 49 2 #[349, 351, 353, 355] #[{ accessFlags := 24, nameIndex := 357, descriptorIndex := 358, attributes := #[] }])
  fields := #[{ name := "serialVersionUID", type := .long, accessFlags := 24, slot := 0, constantValue := 0 }]
  methods := #[k11m0, k11m1, k11m2, k11m3, k11m4, k11m5, k11m6, k11m7]
  instanceTypes := #[(.array .byte), .byte, .boolean, .int]
  staticTypes := #[.long]
  resolved := Array.replicate 422 none
  statics := none }

def pool12 : Array CpInfo := pool [(2, .class_ 4), (1, u "java/lang/Object"), (0, u "<init>"), (0, u "()V"), (1, .class_ 10), (1, u "java/lang/System"), (0, u "allowSecurityManager"), (0, u "I"), (16, u "cons"), (0, u "Ljava/io/Console;"), (77, .class_ 110), (1, u "java/lang/System$CallersHolder"), (43, u "initialErrStream"), (0, u "Ljava/io/PrintStream;"), (19, u "security"), (0, u "Ljava/lang/SecurityManager;"), (31, .class_ 209), (0, u "java/lang/System$1"), (7, u "props"), (0, u "Ljava/util/Properties;"), (2, u "lineSeparator"), (0, u "Ljava/lang/String;"), (96, .class_ 321), (1, u "java/lang/System$LoggerFinder"), (5, .class_ 328), (0, u "java/lang/System$Logger"), (67, u "err"), (2, u "out"), (91, u "notSupportedJnuEncoding"), (15, u "in"), (17, u "initialIn"), (0, u "Ljava/io/InputStream;"), (35, u "bootLayer"), (0, u "Ljava/lang/ModuleLayer;"), (99, .class_ 664), (0, u "java/lang/System$2"), (9, u "NEVER"), (2, u "MAYBE"), (49, u "arraycopy"), (0, u "(Ljava/lang/Object;ILjava/lang/Object;II)V"), (72, .class_ 802), (0, u "java/lang/System$Logger$Level")] 31

def k12m0 : Method := { name := "<init>", desc := "()V", sig := { parameters := [], returnType := none }, accessFlags := 2, code := none }
def k12m1 : Method := { name := "arraycopy", desc := "(Ljava/lang/Object;ILjava/lang/Object;II)V", sig := { parameters := [(.object "java/lang/Object"), .int, (.object "java/lang/Object"), .int, .int], returnType := none }, accessFlags := 265, code := none }
/-- java/lang/System -/
def k12 : Class := { plain "java/lang/System" (some 0) with
  accessFlags := 49
  interfaces := #[]
  cf := some (fileOf pool12 8 #[.nestMembers #[319, 327, 801, 108, 663, 208]] #[{ accessFlags := 2, nameIndex := 5, descriptorIndex := 6, attributes := #[] }, { accessFlags := 265, nameIndex := 727, descriptorIndex := 728, attributes := #[] }] 49 2 #[] #[{ accessFlags := 25, nameIndex := 507, descriptorIndex := 526, attributes := #[] }, { accessFlags := 25, nameIndex := 399, descriptorIndex := 155, attributes := #[] }, { accessFlags := 25, nameIndex := 396, descriptorIndex := 155, attributes := #[] }, { accessFlags := 10, nameIndex := 525, descriptorIndex := 526, attributes := #[] }, { accessFlags := 26, nameIndex := 674, descriptorIndex := 12, attributes := #[] }, { accessFlags := 26, nameIndex := 677, descriptorIndex := 12, attributes := #[] }, { accessFlags := 10, nameIndex := 11, descriptorIndex := 12, attributes := #[] }, { accessFlags := 74, nameIndex := 175, descriptorIndex := 176, attributes := #[] }, { accessFlags := 10, nameIndex := 491, descriptorIndex := 222, attributes := #[] }, { accessFlags := 74, nameIndex := 29, descriptorIndex := 30, attributes := #[] }, { accessFlags := 74, nameIndex := 154, descriptorIndex := 155, attributes := #[] }, { accessFlags := 10, nameIndex := 217, descriptorIndex := 218, attributes := #[] }, { accessFlags := 10, nameIndex := 221, descriptorIndex := 222, attributes := #[] }, { accessFlags := 8, nameIndex := 562, descriptorIndex := 563, attributes := #[] }])
  fields := #[{ name := "in", type := (.object "java/io/InputStream"), accessFlags := 25, slot := 0, constantValue := 0 }, { name := "out", type := (.object "java/io/PrintStream"), accessFlags := 25, slot := 1, constantValue := 0 }, { name := "err", type := (.object "java/io/PrintStream"), accessFlags := 25, slot := 2, constantValue := 0 }, { name := "initialIn", type := (.object "java/io/InputStream"), accessFlags := 10, slot := 3, constantValue := 0 }, { name := "NEVER", type := .int, accessFlags := 26, slot := 4, constantValue := 0 }, { name := "MAYBE", type := .int, accessFlags := 26, slot := 5, constantValue := 0 }, { name := "allowSecurityManager", type := .int, accessFlags := 10, slot := 6, constantValue := 0 }, { name := "security", type := (.object "java/lang/SecurityManager"), accessFlags := 74, slot := 7, constantValue := 0 }, { name := "notSupportedJnuEncoding", type := (.object "java/lang/String"), accessFlags := 10, slot := 8, constantValue := 0 }, { name := "cons", type := (.object "java/io/Console"), accessFlags := 74, slot := 9, constantValue := 0 }, { name := "initialErrStream", type := (.object "java/io/PrintStream"), accessFlags := 74, slot := 10, constantValue := 0 }, { name := "props", type := (.object "java/util/Properties"), accessFlags := 10, slot := 11, constantValue := 0 }, { name := "lineSeparator", type := (.object "java/lang/String"), accessFlags := 10, slot := 12, constantValue := 0 }, { name := "bootLayer", type := (.object "java/lang/ModuleLayer"), accessFlags := 8, slot := 13, constantValue := 0 }]
  methods := #[k12m0, k12m1]
  instanceTypes := #[]
  staticTypes := #[(.object "java/io/InputStream"), (.object "java/io/PrintStream"), (.object "java/io/PrintStream"), (.object "java/io/InputStream"), .int, .int, .int, (.object "java/lang/SecurityManager"), (.object "java/lang/String"), (.object "java/io/Console"), (.object "java/io/PrintStream"), (.object "java/util/Properties"), (.object "java/lang/String"), (.object "java/lang/ModuleLayer")]
  resolved := Array.replicate 834 none
  statics := none }

def pool13 : Array CpInfo := pool [(1, .class_ 2), (0, u "java/lang/String"), (1, .class_ 6), (1, u "java/lang/Object"), (0, u "<init>"), (0, u "()V"), (0, .methodref 1 10), (0, .nameAndType 11 12), (0, u "checkIndex"), (0, u "(II)V"), (1, .class_ 16), (1, u "java/lang/StringLatin1"), (0, u "inflate"), (2, .class_ 22), (1, u "java/lang/StringUTF16"), (3, .nameAndType 17 27), (0, u "([BI[BII)V"), (25, u "([BI)C"), (36, u "canEncode"), (14, u "(C)Z"), (15, u "$assertionsDisabled"), (0, u "Z"), (98, .class_ 223), (1, u "java/lang/StringLatin1$LinesSpliterator"), (16, .methodref 20 26), (11, u "charAt"), (137, .class_ 391), (0, u "java/lang/StringLatin1$CharsSpliterator")] 3

def k13m0 : Method := { name := "<init>", desc := "()V", sig := { parameters := [], returnType := none }, accessFlags := 0, code := none }
def k13c1 : Code := { maxStack := 2, maxLocals := 2, code := jdk_43_method_2_code, exceptionTable := #[], attributes := #[] }
def k13m1 : Method := { name := "charAt", desc := "([BI)C", sig := { parameters := [(.array .byte), .int], returnType := some .char }, accessFlags := 9, code := some k13c1 }
def k13c2 : Code := { maxStack := 2, maxLocals := 1, code := jdk_43_method_3_code, exceptionTable := #[], attributes := #[] }
def k13m2 : Method := { name := "canEncode", desc := "(C)Z", sig := { parameters := [.char], returnType := some .boolean }, accessFlags := 9, code := some k13c2 }
def k13c3 : Code := { maxStack := 5, maxLocals := 5, code := jdk_43_method_50_code, exceptionTable := #[], attributes := #[] }
def k13m3 : Method := { name := "inflate", desc := "([BI[BII)V", sig := { parameters := [(.array .byte), .int, (.array .byte), .int, .int], returnType := none }, accessFlags := 9, code := some k13c3 }
/-- java/lang/StringLatin1 -/
def k13 : Class := { plain "java/lang/StringLatin1" (some 0) with
  accessFlags := 48
  interfaces := #[]
  cf := some (fileOf pool13 14 #[.nestMembers #[390, 221]] #[{ accessFlags := 0, nameIndex := 7, descriptorIndex := 8, attributes := #[] }, { accessFlags := 9, nameIndex := 252, descriptorIndex := 53, attributes := #[] }, { accessFlags := 9, nameIndex := 90, descriptorIndex := 105, attributes := #[] }, { accessFlags := 9, nameIndex := 17, descriptorIndex := 27, attributes := #[] }] 48 4 #[] #[{ accessFlags := 4120, nameIndex := 121, descriptorIndex := 122, attributes := #[] }])
  fields := #[{ name := "$assertionsDisabled", type := .boolean, accessFlags := 4120, slot := 0, constantValue := 0 }]
  methods := #[k13m0, k13m1, k13m2, k13m3]
  instanceTypes := #[]
  staticTypes := #[.boolean]
  resolved := Array.replicate 395 none
  statics := none }

def pool14 : Array CpInfo := pool [(2, .class_ 4), (1, u "java/lang/Object"), (0, u "<init>"), (0, u "()V"), (7, .class_ 16), (1, u "java/util/Arrays"), (57, .class_ 76), (1, u "java/util/Arrays$NaturalOrder"), (32, u "()Ljava/lang/Object;"), (3, .class_ 115), (1, u "java/util/Arrays$LegacyMergeSort"), (1, u "Z"), (10, .nameAndType 129 109), (0, u "clone"), (9, u "copyOfRange"), (10, .methodref 151 152), (0, .class_ 153), (0, .nameAndType 154 155), (0, u "java/lang/System"), (0, u "arraycopy"), (0, u "(Ljava/lang/Object;ILjava/lang/Object;II)V"), (148, .methodref 305 306), (0, .class_ 307), (0, .nameAndType 308 309), (0, u "java/lang/Math"), (0, u "min"), (0, u "(II)I"), (0, .methodref 311 128), (0, .class_ 312), (0, u "[B"), (26, .methodref 14 340), (0, .nameAndType 341 342), (0, u "copyOfRangeByte"), (0, u "([BII)[B"), (0, .methodref 14 344), (0, .nameAndType 345 346), (0, u "checkLength"), (0, u "(II)V"), (28, .class_ 376), (0, u "java/util/Arrays$ArrayList"), (68, u "$assertionsDisabled"), (269, u "MIN_ARRAY_SORT_GRAN"), (0, u "I"), (2, u "INSERTIONSORT_THRESHOLD"), (255, .class_ 976), (0, u "java/util/Arrays$ArrayItr")] 52

def k14m0 : Method := { name := "<init>", desc := "()V", sig := { parameters := [], returnType := none }, accessFlags := 2, code := none }
def k14c1 : Code := { maxStack := 4, maxLocals := 2, code := jdk_65_method_131_code, exceptionTable := #[], attributes := #[] }
def k14m1 : Method := { name := "checkLength", desc := "(II)V", sig := { parameters := [.int, .int], returnType := none }, accessFlags := 10, code := some k14c1 }
def k14c2 : Code := { maxStack := 3, maxLocals := 3, code := jdk_65_method_132_code, exceptionTable := #[], attributes := #[] }
def k14m2 : Method := { name := "copyOfRange", desc := "([BII)[B", sig := { parameters := [(.array .byte), .int, .int], returnType := some (.array .byte) }, accessFlags := 9, code := some k14c2 }
def k14c3 : Code := { maxStack := 6, maxLocals := 5, code := jdk_65_method_133_code, exceptionTable := #[], attributes := #[] }
def k14m3 : Method := { name := "copyOfRangeByte", desc := "([BII)[B", sig := { parameters := [(.array .byte), .int, .int], returnType := some (.array .byte) }, accessFlags := 10, code := some k14c3 }
/-- java/util/Arrays -/
def k14 : Class := { plain "java/util/Arrays" (some 0) with
  accessFlags := 49
  interfaces := #[]
  cf := some (fileOf pool14 14 #[.nestMembers #[975, 375, 113, 74]] #[{ accessFlags := 2, nameIndex := 5, descriptorIndex := 6, attributes := #[] }, { accessFlags := 10, nameIndex := 345, descriptorIndex := 346, attributes := #[] }, { accessFlags := 9, nameIndex := 139, descriptorIndex := 342, attributes := #[] }, { accessFlags := 10, nameIndex := 341, descriptorIndex := 342, attributes := #[] }] 49 2 #[] #[{ accessFlags := 26, nameIndex := 715, descriptorIndex := 716, attributes := #[] }, { accessFlags := 26, nameIndex := 719, descriptorIndex := 716, attributes := #[] }, { accessFlags := 4120, nameIndex := 445, descriptorIndex := 117, attributes := #[] }])
  fields := #[{ name := "MIN_ARRAY_SORT_GRAN", type := .int, accessFlags := 26, slot := 0, constantValue := 0 }, { name := "INSERTIONSORT_THRESHOLD", type := .int, accessFlags := 26, slot := 1, constantValue := 0 }, { name := "$assertionsDisabled", type := .boolean, accessFlags := 4120, slot := 2, constantValue := 0 }]
  methods := #[k14m0, k14m1, k14m2, k14m3]
  instanceTypes := #[]
  staticTypes := #[.int, .int, .boolean]
  resolved := Array.replicate 1029 none
  statics := none }

def pool15 : Array CpInfo := pool [(1, .class_ 2), (0, u "java/lang/Math"), (1, .class_ 6), (1, u "java/lang/Object"), (0, u "<init>"), (0, u "()V"), (89, .class_ 100), (1, u "java/lang/Math$RandomNumberGeneratorHolder"), (71, u "negativeZeroFloatBits"), (0, u "J"), (2, u "negativeZeroDoubleBits"), (24, u "min"), (43, u "$assertionsDisabled"), (0, u "Z"), (88, u "(II)I"), (2, u "twoToTheDoubleScaleDown"), (0, u "D"), (4, u "twoToTheDoubleScaleUp"), (9, u "E"), (3, u "PI"), (2, u "TAU"), (2, u "DEGREES_TO_RADIANS"), (0, u "RADIANS_TO_DEGREES")] 94

def k15m0 : Method := { name := "<init>", desc := "()V", sig := { parameters := [], returnType := none }, accessFlags := 2, code := none }
def k15c1 : Code := { maxStack := 2, maxLocals := 2, code := jdk_29_method_69_code, exceptionTable := #[], attributes := #[] }
def k15m1 : Method := { name := "min", desc := "(II)I", sig := { parameters := [.int, .int], returnType := some .int }, accessFlags := 9, code := some k15c1 }
/-- java/lang/Math -/
def k15 : Class := { plain "java/lang/Math" (some 0) with
  accessFlags := 49
  interfaces := #[]
  cf := some (fileOf pool15 1 #[.nestMembers #[98]] #[{ accessFlags := 2, nameIndex := 7, descriptorIndex := 8, attributes := #[] }, { accessFlags := 9, nameIndex := 201, descriptorIndex := 335, attributes := #[] }] 49 4 #[] #[{ accessFlags := 25, nameIndex := 354, descriptorIndex := 339, attributes := #[] }, { accessFlags := 25, nameIndex := 358, descriptorIndex := 339, attributes := #[] }, { accessFlags := 25, nameIndex := 361, descriptorIndex := 339, attributes := #[] }, { accessFlags := 26, nameIndex := 364, descriptorIndex := 339, attributes := #[] }, { accessFlags := 26, nameIndex := 365, descriptorIndex := 339, attributes := #[] }, { accessFlags := 26, nameIndex := 172, descriptorIndex := 173, attributes := #[] }, { accessFlags := 26, nameIndex := 176, descriptorIndex := 173, attributes := #[] }, { accessFlags := 8, nameIndex := 344, descriptorIndex := 339, attributes := #[] }, { accessFlags := 8, nameIndex := 338, descriptorIndex := 339, attributes := #[] }, { accessFlags := 4120, nameIndex := 245, descriptorIndex := 246, attributes := #[] }])
  fields := #[{ name := "E", type := .double, accessFlags := 25, slot := 0, constantValue := 0 }, { name := "PI", type := .double, accessFlags := 25, slot := 1, constantValue := 0 }, { name := "TAU", type := .double, accessFlags := 25, slot := 2, constantValue := 0 }, { name := "DEGREES_TO_RADIANS", type := .double, accessFlags := 26, slot := 3, constantValue := 0 }, { name := "RADIANS_TO_DEGREES", type := .double, accessFlags := 26, slot := 4, constantValue := 0 }, { name := "negativeZeroFloatBits", type := .long, accessFlags := 26, slot := 5, constantValue := 0 }, { name := "negativeZeroDoubleBits", type := .long, accessFlags := 26, slot := 6, constantValue := 0 }, { name := "twoToTheDoubleScaleUp", type := .double, accessFlags := 8, slot := 7, constantValue := 0 }, { name := "twoToTheDoubleScaleDown", type := .double, accessFlags := 8, slot := 8, constantValue := 0 }, { name := "$assertionsDisabled", type := .boolean, accessFlags := 4120, slot := 9, constantValue := 0 }]
  methods := #[k15m0, k15m1]
  instanceTypes := #[]
  staticTypes := #[.double, .double, .double, .double, .double, .long, .long, .double, .double, .boolean]
  resolved := Array.replicate 460 none
  statics := none }

def pool16 : Array CpInfo := pool [(2, .class_ 4), (1, u "java/lang/Object"), (0, u "<init>"), (0, u "()V"), (17, .class_ 26), (1, u "jdk/internal/util/Preconditions"), (6, u "checkIndex"), (15, u "checkFromIndexSize"), (5, .class_ 56), (0, u "jdk/internal/util/Preconditions$4"), (57, .class_ 115), (0, u "jdk/internal/util/Preconditions$1"), (7, u "SIOOBE_FORMATTER"), (0, u "Ljava/util/function/BiFunction;"), (0, .class_ 126), (0, u "jdk/internal/util/Preconditions$2"), (3, u "AIOOBE_FORMATTER"), (0, .class_ 132), (0, u "jdk/internal/util/Preconditions$3"), (3, u "IOOBE_FORMATTER"), (41, u "(IILjava/util/function/BiFunction;)I"), (4, u "(IIILjava/util/function/BiFunction;)I")] 10

def k16m0 : Method := { name := "<init>", desc := "()V", sig := { parameters := [], returnType := none }, accessFlags := 1, code := none }
def k16c1 : Code := { maxStack := 3, maxLocals := 3, code := jdk_41_method_11_code, exceptionTable := #[], attributes := #[] }
def k16m1 : Method := { name := "checkIndex", desc := "(IILjava/util/function/BiFunction;)I", sig := { parameters := [.int, .int, (.object "java/util/function/BiFunction")], returnType := some .int }, accessFlags := 9, code := some k16c1 }
def k16c2 : Code := { maxStack := 4, maxLocals := 4, code := jdk_41_method_13_code, exceptionTable := #[], attributes := #[] }
def k16m2 : Method := { name := "checkFromIndexSize", desc := "(IIILjava/util/function/BiFunction;)I", sig := { parameters := [.int, .int, .int, (.object "java/util/function/BiFunction")], returnType := some .int }, accessFlags := 9, code := some k16c2 }
/-- jdk/internal/util/Preconditions -/
def k16 : Class := { plain "jdk/internal/util/Preconditions" (some 0) with
  accessFlags := 33
  interfaces := #[]
  cf := some (fileOf pool16 24 #[.nestMembers #[55, 131, 125, 114]] #[{ accessFlags := 1, nameIndex := 5, descriptorIndex := 6, attributes := #[] }, { accessFlags := 9, nameIndex := 33, descriptorIndex := 178, attributes := #[] }, { accessFlags := 9, nameIndex := 49, descriptorIndex := 183, attributes := #[] }] 33 2 #[] #[{ accessFlags := 25, nameIndex := 123, descriptorIndex := 124, attributes := #[] }, { accessFlags := 25, nameIndex := 130, descriptorIndex := 124, attributes := #[] }, { accessFlags := 25, nameIndex := 136, descriptorIndex := 124, attributes := #[] }])
  fields := #[{ name := "SIOOBE_FORMATTER", type := (.object "java/util/function/BiFunction"), accessFlags := 25, slot := 0, constantValue := 0 }, { name := "AIOOBE_FORMATTER", type := (.object "java/util/function/BiFunction"), accessFlags := 25, slot := 1, constantValue := 0 }, { name := "IOOBE_FORMATTER", type := (.object "java/util/function/BiFunction"), accessFlags := 25, slot := 2, constantValue := 0 }]
  methods := #[k16m0, k16m1, k16m2]
  instanceTypes := #[]
  staticTypes := #[(.object "java/util/function/BiFunction"), (.object "java/util/function/BiFunction"), (.object "java/util/function/BiFunction")]
  resolved := Array.replicate 194 none
  statics := some 1 }

def pool17 : Array CpInfo := pool [(3, .class_ 4), (0, u "java/lang/String"), (1, .class_ 8), (1, u "java/lang/Object"), (0, u "<init>"), (0, u "()V"), (0, .methodref 12 13), (0, .class_ 14), (0, .nameAndType 15 16), (0, u "java/lang/StringUTF16"), (0, u "newBytesLength"), (0, u "(I)I"), (3, .integer 1073741823), (23, .fieldref 12 45), (0, .nameAndType 46 47), (0, u "$assertionsDisabled"), (0, u "Z"), (0, .methodref 12 49), (0, .nameAndType 50 51), (0, u "length"), (0, u "([B)I"), (7, .fieldref 12 60), (0, .nameAndType 61 62), (0, u "HI_BYTE_SHIFT"), (0, u "I"), (0, .fieldref 12 64), (0, .nameAndType 65 62), (0, u "LO_BYTE_SHIFT"), (1, .methodref 12 68), (0, .nameAndType 69 70), (0, u "checkIndex"), (0, u "(I[B)V"), (0, .methodref 12 72), (0, .nameAndType 73 74), (0, u "getChar"), (0, u "([BI)C"), (24, u "(II[B)V"), (7, .methodref 12 108), (0, .nameAndType 109 110), (0, u "newBytesFor"), (0, u "(I)[B"), (0, .methodref 12 112), (0, .nameAndType 113 114), (0, u "putChar"), (0, u "([BII)V"), (0, .methodref 12 116), (0, .nameAndType 117 118), (0, u "compress"), (0, u "([CI[BII)I"), (0, .methodref 12 120), (0, .nameAndType 121 122), (0, u "toBytes"), (0, u "([CII)[B"), (17, u "inflate"), (0, u "([BI[BII)V"), (31, .methodref 12 174), (0, .nameAndType 175 99), (0, u "checkBoundsOffCount"), (85, u "coderFromArrayLen"), (0, u "([BI)B"), (18, u "(III)I"), (87, .class_ 371), (1, u "java/lang/StringUTF16$LinesSpliterator"), (20, u "charAt"), (21, .methodref 3 415), (0, .nameAndType 69 416), (0, u "(II)V"), (2, .methodref 3 420), (0, .nameAndType 175 281), (9, u "MAX_LENGTH"), (155, u "putCharSB"), (40, .class_ 628), (0, u "java/lang/StringUTF16$CodePointsSpliterator"), (0, .class_ 630), (0, u "java/lang/StringUTF16$CharsSpliterator")] 4

def k17m0 : Method := { name := "<init>", desc := "()V", sig := { parameters := [], returnType := none }, accessFlags := 0, code := none }
def k17c1 : Code := { maxStack := 1, maxLocals := 1, code := jdk_52_method_2_code, exceptionTable := #[], attributes := #[] }
def k17m1 : Method := { name := "newBytesFor", desc := "(I)[B", sig := { parameters := [.int], returnType := some (.array .byte) }, accessFlags := 9, code := some k17c1 }
def k17c2 : Code := { maxStack := 4, maxLocals := 1, code := jdk_52_method_3_code, exceptionTable := #[], attributes := #[] }
def k17m2 : Method := { name := "newBytesLength", desc := "(I)I", sig := { parameters := [.int], returnType := some .int }, accessFlags := 9, code := some k17c2 }
def k17c3 : Code := { maxStack := 4, maxLocals := 3, code := jdk_52_method_4_code, exceptionTable := #[], attributes := #[] }
def k17m3 : Method := { name := "putChar", desc := "([BII)V", sig := { parameters := [(.array .byte), .int, .int], returnType := none }, accessFlags := 8, code := some k17c3 }
def k17c4 : Code := { maxStack := 3, maxLocals := 2, code := jdk_52_method_5_code, exceptionTable := #[], attributes := #[] }
def k17m4 : Method := { name := "getChar", desc := "([BI)C", sig := { parameters := [(.array .byte), .int], returnType := some .char }, accessFlags := 8, code := some k17c4 }
def k17c5 : Code := { maxStack := 2, maxLocals := 1, code := jdk_52_method_6_code, exceptionTable := #[], attributes := #[] }
def k17m5 : Method := { name := "length", desc := "([B)I", sig := { parameters := [(.array .byte)], returnType := some .int }, accessFlags := 9, code := some k17c5 }
def k17c6 : Code := { maxStack := 4, maxLocals := 5, code := jdk_52_method_14_code, exceptionTable := #[], attributes := #[] }
def k17m6 : Method := { name := "toBytes", desc := "([CII)[B", sig := { parameters := [(.array .char), .int, .int], returnType := some (.array .byte) }, accessFlags := 9, code := some k17c6 }
def k17c7 : Code := { maxStack := 2, maxLocals := 2, code := jdk_52_method_15_code, exceptionTable := #[], attributes := #[] }
def k17m7 : Method := { name := "coderFromArrayLen", desc := "([BI)B", sig := { parameters := [(.array .byte), .int], returnType := some .byte }, accessFlags := 8, code := some k17c7 }
def k17c8 : Code := { maxStack := 5, maxLocals := 6, code := jdk_52_method_16_code, exceptionTable := #[], attributes := #[] }
def k17m8 : Method := { name := "compress", desc := "([CII)[B", sig := { parameters := [(.array .char), .int, .int], returnType := some (.array .byte) }, accessFlags := 9, code := some k17c8 }
def k17c9 : Code := { maxStack := 3, maxLocals := 7, code := jdk_52_method_21_code, exceptionTable := #[], attributes := #[] }
def k17m9 : Method := { name := "compress", desc := "([CI[BII)I", sig := { parameters := [(.array .char), .int, (.array .byte), .int, .int], returnType := some .int }, accessFlags := 9, code := some k17c9 }
def k17c10 : Code := { maxStack := 3, maxLocals := 3, code := jdk_52_method_71_code, exceptionTable := #[], attributes := #[] }
def k17m10 : Method := { name := "putCharSB", desc := "([BII)V", sig := { parameters := [(.array .byte), .int, .int], returnType := none }, accessFlags := 9, code := some k17c10 }
def k17c11 : Code := { maxStack := 2, maxLocals := 2, code := jdk_52_method_83_code, exceptionTable := #[], attributes := #[] }
def k17m11 : Method := { name := "charAt", desc := "([BI)C", sig := { parameters := [(.array .byte), .int], returnType := some .char }, accessFlags := 9, code := some k17c11 }
def k17c12 : Code := { maxStack := 4, maxLocals := 6, code := jdk_52_method_86_code, exceptionTable := #[], attributes := #[] }
def k17m12 : Method := { name := "inflate", desc := "([BI[BII)V", sig := { parameters := [(.array .byte), .int, (.array .byte), .int, .int], returnType := none }, accessFlags := 9, code := some k17c12 }
def k17c13 : Code := { maxStack := 2, maxLocals := 2, code := jdk_52_method_91_code, exceptionTable := #[], attributes := #[] }
def k17m13 : Method := { name := "checkIndex", desc := "(I[B)V", sig := { parameters := [.int, (.array .byte)], returnType := none }, accessFlags := 9, code := some k17c13 }
def k17c14 : Code := { maxStack := 3, maxLocals := 3, code := jdk_52_method_94_code, exceptionTable := #[], attributes := #[] }
def k17m14 : Method := { name := "checkBoundsOffCount", desc := "(II[B)V", sig := { parameters := [.int, .int, (.array .byte)], returnType := none }, accessFlags := 9, code := some k17c14 }
/-- java/lang/StringUTF16 -/
def k17 : Class := { plain "java/lang/StringUTF16" (some 0) with
  accessFlags := 48
  interfaces := #[]
  cf := some (fileOf pool17 12 #[.nestMembers #[627, 629, 369]] #[{ accessFlags := 0, nameIndex := 9, descriptorIndex := 10, attributes := #[] }, { accessFlags := 9, nameIndex := 109, descriptorIndex := 110, attributes := #[] }, { accessFlags := 9, nameIndex := 15, descriptorIndex := 16, attributes := #[] }, { accessFlags := 8, nameIndex := 113, descriptorIndex := 114, attributes := #[] }, { accessFlags := 8, nameIndex := 73, descriptorIndex := 74, attributes := #[] }, { accessFlags := 9, nameIndex := 50, descriptorIndex := 51, attributes := #[] }, { accessFlags := 9, nameIndex := 121, descriptorIndex := 122, attributes := #[] }, { accessFlags := 8, nameIndex := 261, descriptorIndex := 262, attributes := #[] }, { accessFlags := 9, nameIndex := 117, descriptorIndex := 122, attributes := #[] }, { accessFlags := 9, nameIndex := 117, descriptorIndex := 118, attributes := #[] }, { accessFlags := 9, nameIndex := 586, descriptorIndex := 114, attributes := #[] }, { accessFlags := 9, nameIndex := 392, descriptorIndex := 74, attributes := #[] }, { accessFlags := 9, nameIndex := 140, descriptorIndex := 141, attributes := #[] }, { accessFlags := 9, nameIndex := 69, descriptorIndex := 70, attributes := #[] }, { accessFlags := 9, nameIndex := 175, descriptorIndex := 99, attributes := #[] }] 48 6 #[] #[{ accessFlags := 26, nameIndex := 61, descriptorIndex := 62, attributes := #[] }, { accessFlags := 26, nameIndex := 65, descriptorIndex := 62, attributes := #[] }, { accessFlags := 24, nameIndex := 430, descriptorIndex := 62, attributes := #[] }, { accessFlags := 4120, nameIndex := 46, descriptorIndex := 47, attributes := #[] }])
  fields := #[{ name := "HI_BYTE_SHIFT", type := .int, accessFlags := 26, slot := 0, constantValue := 0 }, { name := "LO_BYTE_SHIFT", type := .int, accessFlags := 26, slot := 1, constantValue := 0 }, { name := "MAX_LENGTH", type := .int, accessFlags := 24, slot := 2, constantValue := 0 }, { name := "$assertionsDisabled", type := .boolean, accessFlags := 4120, slot := 3, constantValue := 0 }]
  methods := #[k17m0, k17m1, k17m2, k17m3, k17m4, k17m5, k17m6, k17m7, k17m8, k17m9, k17m10, k17m11, k17m12, k17m13, k17m14]
  instanceTypes := #[]
  staticTypes := #[.int, .int, .int, .boolean]
  resolved := Array.replicate 635 none
  statics := some 2 }

def pool18 : Array CpInfo := pool [(1, .class_ 2), (0, u "java/lang/Cloneable"), (0, .class_ 4), (0, u "java/lang/Object")] 2

/-- java/lang/Cloneable -/
def k18 : Class := { plain "java/lang/Cloneable" (some 0) with
  accessFlags := 1537
  interfaces := #[]
  cf := some (fileOf pool18 1 #[] #[] 1537 3 #[] #[])
  fields := #[]
  methods := #[]
  instanceTypes := #[]
  staticTypes := #[]
  resolved := Array.replicate 7 none
  statics := none }

def pool19 : Array CpInfo := pool [(9, u "<init>"), (6, .class_ 18), (1, u "java/lang/Object"), (0, u "()V"), (1, .class_ 23), (1, u "jdk/internal/util/ArraysSupport"), (0, u "LOG2_ARRAY_LONG_INDEX_SCALE"), (0, u "I"), (2, u "U"), (0, u "Ljdk/internal/misc/Unsafe;"), (8, u "BIG_ENDIAN"), (0, u "Z"), (8, u "LOG2_BYTE_BIT_SIZE"), (4, u "LOG2_ARRAY_INT_INDEX_SCALE"), (54, u "JLA"), (0, u "Ljdk/internal/access/JavaLangAccess;"), (11, u "LOG2_ARRAY_BOOLEAN_INDEX_SCALE"), (9, u "LOG2_ARRAY_BYTE_INDEX_SCALE"), (5, u "LOG2_ARRAY_CHAR_INDEX_SCALE"), (5, u "LOG2_ARRAY_SHORT_INDEX_SCALE"), (18, u "LOG2_ARRAY_FLOAT_INDEX_SCALE"), (24, u "LOG2_ARRAY_DOUBLE_INDEX_SCALE"), (89, u "T_BOOLEAN"), (2, u "T_CHAR"), (1, u "T_FLOAT"), (1, u "T_DOUBLE"), (1, u "T_BYTE"), (1, u "T_SHORT"), (1, u "T_INT"), (1, u "T_LONG"), (1, u "SOFT_MAX_ARRAY_LENGTH")] 83

def k19m0 : Method := { name := "<init>", desc := "()V", sig := { parameters := [], returnType := none }, accessFlags := 2, code := none }
/-- jdk/internal/util/ArraysSupport -/
def k19 : Class := { plain "jdk/internal/util/ArraysSupport" (some 0) with
  accessFlags := 33
  interfaces := #[]
  cf := some (fileOf pool19 21 #[] #[{ accessFlags := 2, nameIndex := 9, descriptorIndex := 19, attributes := #[] }] 33 16 #[] #[{ accessFlags := 24, nameIndex := 28, descriptorIndex := 29, attributes := #[] }, { accessFlags := 26, nameIndex := 38, descriptorIndex := 39, attributes := #[] }, { accessFlags := 25, nameIndex := 121, descriptorIndex := 25, attributes := #[] }, { accessFlags := 25, nameIndex := 131, descriptorIndex := 25, attributes := #[] }, { accessFlags := 25, nameIndex := 137, descriptorIndex := 25, attributes := #[] }, { accessFlags := 25, nameIndex := 143, descriptorIndex := 25, attributes := #[] }, { accessFlags := 25, nameIndex := 53, descriptorIndex := 25, attributes := #[] }, { accessFlags := 25, nameIndex := 24, descriptorIndex := 25, attributes := #[] }, { accessFlags := 25, nameIndex := 162, descriptorIndex := 25, attributes := #[] }, { accessFlags := 25, nameIndex := 187, descriptorIndex := 25, attributes := #[] }, { accessFlags := 26, nameIndex := 48, descriptorIndex := 25, attributes := #[] }, { accessFlags := 25, nameIndex := 277, descriptorIndex := 25, attributes := #[] }, { accessFlags := 25, nameIndex := 280, descriptorIndex := 25, attributes := #[] }, { accessFlags := 25, nameIndex := 282, descriptorIndex := 25, attributes := #[] }, { accessFlags := 25, nameIndex := 284, descriptorIndex := 25, attributes := #[] }, { accessFlags := 25, nameIndex := 286, descriptorIndex := 25, attributes := #[] }, { accessFlags := 25, nameIndex := 288, descriptorIndex := 25, attributes := #[] }, { accessFlags := 25, nameIndex := 290, descriptorIndex := 25, attributes := #[] }, { accessFlags := 25, nameIndex := 292, descriptorIndex := 25, attributes := #[] }, { accessFlags := 26, nameIndex := 108, descriptorIndex := 109, attributes := #[] }, { accessFlags := 25, nameIndex := 294, descriptorIndex := 25, attributes := #[] }])
  fields := #[{ name := "U", type := (.object "jdk/internal/misc/Unsafe"), accessFlags := 24, slot := 0, constantValue := 0 }, { name := "BIG_ENDIAN", type := .boolean, accessFlags := 26, slot := 1, constantValue := 0 }, { name := "LOG2_ARRAY_BOOLEAN_INDEX_SCALE", type := .int, accessFlags := 25, slot := 2, constantValue := 0 }, { name := "LOG2_ARRAY_BYTE_INDEX_SCALE", type := .int, accessFlags := 25, slot := 3, constantValue := 0 }, { name := "LOG2_ARRAY_CHAR_INDEX_SCALE", type := .int, accessFlags := 25, slot := 4, constantValue := 0 }, { name := "LOG2_ARRAY_SHORT_INDEX_SCALE", type := .int, accessFlags := 25, slot := 5, constantValue := 0 }, { name := "LOG2_ARRAY_INT_INDEX_SCALE", type := .int, accessFlags := 25, slot := 6, constantValue := 0 }, { name := "LOG2_ARRAY_LONG_INDEX_SCALE", type := .int, accessFlags := 25, slot := 7, constantValue := 0 }, { name := "LOG2_ARRAY_FLOAT_INDEX_SCALE", type := .int, accessFlags := 25, slot := 8, constantValue := 0 }, { name := "LOG2_ARRAY_DOUBLE_INDEX_SCALE", type := .int, accessFlags := 25, slot := 9, constantValue := 0 }, { name := "LOG2_BYTE_BIT_SIZE", type := .int, accessFlags := 26, slot := 10, constantValue := 0 }, { name := "T_BOOLEAN", type := .int, accessFlags := 25, slot := 11, constantValue := 0 }, { name := "T_CHAR", type := .int, accessFlags := 25, slot := 12, constantValue := 0 }, { name := "T_FLOAT", type := .int, accessFlags := 25, slot := 13, constantValue := 0 }, { name := "T_DOUBLE", type := .int, accessFlags := 25, slot := 14, constantValue := 0 }, { name := "T_BYTE", type := .int, accessFlags := 25, slot := 15, constantValue := 0 }, { name := "T_SHORT", type := .int, accessFlags := 25, slot := 16, constantValue := 0 }, { name := "T_INT", type := .int, accessFlags := 25, slot := 17, constantValue := 0 }, { name := "T_LONG", type := .int, accessFlags := 25, slot := 18, constantValue := 0 }, { name := "JLA", type := (.object "jdk/internal/access/JavaLangAccess"), accessFlags := 26, slot := 19, constantValue := 0 }, { name := "SOFT_MAX_ARRAY_LENGTH", type := .int, accessFlags := 25, slot := 20, constantValue := 0 }]
  methods := #[k19m0]
  instanceTypes := #[]
  staticTypes := #[(.object "jdk/internal/misc/Unsafe"), .boolean, .int, .int, .int, .int, .int, .int, .int, .int, .int, .int, .int, .int, .int, .int, .int, .int, .int, (.object "jdk/internal/access/JavaLangAccess"), .int]
  resolved := Array.replicate 378 none
  statics := none }

/-- the primitive byte -/
def k20 : Class := { plain "byte" none with kind := .primitive 'B', accessFlags := 0x411 }
/-- [B -/
def k21 : Class := { plain "[B" (some 0) with kind := .array 20 .byte, interfaces := #[18, 2], accessFlags := 1041 }

/-- the primitive char -/
def k22 : Class := { plain "char" none with kind := .primitive 'C', accessFlags := 0x411 }
/-- [C -/
def k23 : Class := { plain "[C" (some 0) with kind := .array 22 .char, interfaces := #[18, 2], accessFlags := 1041 }

def heap : Heap := #[{ cls := 7, slots := #[.long 0, .int 1, .null, .int 0, .null, .int 0, .int 0], vm := .statics 7 },
  { cls := 16, slots := #[.null, .null, .null], vm := .statics 16 },
  { cls := 17, slots := #[.int 0, .int 8, .int 0, .int 1], vm := .statics 17 }]
def classes : Array Class := #[k0, k1, k2, k3, k4, k5, k6, k7, k8, k9, k10, k11, k12, k13, k14, k15, k16, k17, k18, k19, k20, k21, k22, k23]
def interned : List (Array UInt16 × Addr) := []
def slotsUsed : Nat := 14
def theMethod : MethodId := ⟨1, 4⟩
def args0 : Array Value := #[.int 65, .int 66, .int 67, .int 68, .int 69, .int 341]
def aboutOver (below : List Frame) : State where
  vm := { classes := classes, interned := interned.toArray }
  heap := heap
  slotsUsed := slotsUsed
  threads := #[{ frames := .invoking theMethod args0 :: below }]
def below0 : List Frame := [.native { method := ⟨0, 0⟩, args := #[] }]
def about1 : State := aboutOver below0
def p0 : Program := .bare "" "" ""
def e0 : Env := launch0.env 0 0 0
theorem w_frames : about1.frames = Frame.invoking theMethod args0 :: below0 := rfl
set_option maxRecDepth 65536 in
theorem w_args : argsFit about1.vm theMethod args0 = true := by decide +kernel
set_option maxRecDepth 65536 in
theorem w_heap : heapFits about1 = true := by decide +kernel
set_option maxRecDepth 65536 in
theorem w_runnable : about1.curStatus? = some .runnable := by decide +kernel
set_option maxRecDepth 65536 in
theorem w_alone : about1.alone = true := by decide +kernel
set_option maxRecDepth 65536 in
theorem w_named : about1.methodNamed? x = some theMethod := by decide +kernel
set_option maxRecDepth 65536 in
theorem w_hears : about1.hears theMethod below0 = true := by decide +kernel
set_option maxRecDepth 65536 in
theorem w_ripe : about1.ripe theMethod args0 below0 = true := by decide +kernel
theorem w_running : about1.status = .running := rfl
set_option maxRecDepth 65536 in
theorem w_room : about1.hasRoom e0.platform room_1 = true :=
  launch0.hasRoom_least _ room_1 (by decide +kernel) (by decide +kernel) (by decide +kernel) (by decide +kernel) (by decide +kernel) (by decide +kernel)
theorem allAtoms_all (ts : List Jvm.Cond) (a : Array Jvm.Value) (st : Jvm.State) : (allAtoms ts).before a st = ts.all (fun c => c.before a st) := by
  induction ts with
  | nil => rfl
  | cons c t ih =>
    show (Jvm.Cond.and c (allAtoms t)).before a st = _
    rw [Jvm.Cond.before_and, ih, List.all_cons]
def words1 : List Jvm.Cond := Jvm.Cond.code x code maxLocals ret :: tables_1
/-- a 'code' word, met by the world's own term for the bytes: nothing is compared byte by byte -/
theorem code_word {y : MethodName} {bytes : ByteArray} {mx : Nat} {rt : Option FieldType} {a : Array Value} {s : State} {m : MethodId} {meth : Method} {c : Code} (h1 : s.methodNamed? y = some m) (h2 : s.vm.method? m = some meth) (h3 : meth.code = some c) (h4 : c.code = bytes)
    (h5 : (c.maxLocals == mx && c.exceptionTable.isEmpty && decide (c.maxStack ≤ mostOperands) && decide (meth.sig.returnType = rt) && !meth.locks && decide (parseMethodDescriptor y.desc = some meth.sig)) = true) : (Jvm.Cond.code y bytes mx rt).before a s = true := by
  simp only [Bool.and_eq_true, beq_iff_eq, Bool.not_eq_true', decide_eq_true_eq] at h5
  obtain ⟨⟨⟨⟨⟨g1, g2⟩, g3⟩, g4⟩, g5⟩, g6⟩ := h5
  simp [Cond.before, Cond.holds, Cond.value, h1, h2, h3, h4, g1, g2, g3, g4, g5, g6]
def isCode : Jvm.Cond → Bool
  | .code _ _ _ _ => true
  | _ => false
theorem all_split {L : List Jvm.Cond} {P : Jvm.Cond → Bool} (h1 : L.all (fun c => isCode c || P c) = true) (h2 : ∀ c ∈ L.filter isCode, P c = true) : L.all P = true := by
  refine List.all_eq_true.mpr fun c hc => ?_
  have h := List.all_eq_true.mp h1 c hc
  rcases Bool.eq_false_or_eq_true (isCode c) with hi | hi
  · exact h2 c (List.mem_filter.mpr ⟨hc, hi⟩)
  · simpa [hi] using h
set_option maxRecDepth 65536 in
theorem w_c0 : (Jvm.Cond.code x code maxLocals ret).before args0 about1 = true := code_word (m := ⟨1, 4⟩) (meth := k1m4) (c := k1c4) (by decide +kernel) rfl rfl rfl (by decide +kernel)
set_option maxRecDepth 65536 in
theorem w_c1 : (Jvm.Cond.code ({ cls := "org/latchkey/cli/ResultLineFieldPinLaw", name := "str", desc := "(II)Ljava/lang/String;" } : Jvm.MethodName) method_2_code (4 : Nat) (Option.some (Jvm.ClassFile.FieldType.object "java/lang/String"))).before args0 about1 = true := code_word (m := ⟨1, 1⟩) (meth := k1m1) (c := k1c1) (by decide +kernel) rfl rfl rfl (by decide +kernel)
set_option maxRecDepth 65536 in
theorem w_c2 : (Jvm.Cond.code ({ cls := "java/lang/String", name := "<init>", desc := "([C)V" } : Jvm.MethodName) jdk_42_method_3_code (2 : Nat) (Option.none : Option Jvm.ClassFile.FieldType)).before args0 about1 = true := code_word (m := ⟨7, 1⟩) (meth := k7m1) (c := k7c1) (by decide +kernel) rfl rfl rfl (by decide +kernel)
set_option maxRecDepth 65536 in
theorem w_c3 : (Jvm.Cond.code ({ cls := "java/lang/String", name := "<init>", desc := "([CIILjava/lang/Void;)V" } : Jvm.MethodName) jdk_42_method_149_code (6 : Nat) (Option.none : Option Jvm.ClassFile.FieldType)).before args0 about1 = true := code_word (m := ⟨7, 8⟩) (meth := k7m8) (c := k7c8) (by decide +kernel) rfl rfl rfl (by decide +kernel)
set_option maxRecDepth 65536 in
theorem w_c4 : (Jvm.Cond.code ({ cls := "java/lang/Object", name := "<init>", desc := "()V" } : Jvm.MethodName) object_method_1_code (1 : Nat) (Option.none : Option Jvm.ClassFile.FieldType)).before args0 about1 = true := code_word (m := ⟨0, 0⟩) (meth := k0m0) (c := k0c0) (by decide +kernel) rfl rfl rfl (by decide +kernel)
set_option maxRecDepth 65536 in
theorem w_c5 : (Jvm.Cond.code ({ cls := "org/latchkey/cli/ResultLine", name := "<init>", desc := "(Ljava/lang/String;)V" } : Jvm.MethodName) prog_5_method_1_code (2 : Nat) (Option.none : Option Jvm.ClassFile.FieldType)).before args0 about1 = true := code_word (m := ⟨8, 0⟩) (meth := k8m0) (c := k8c0) (by decide +kernel) rfl rfl rfl (by decide +kernel)
set_option maxRecDepth 65536 in
theorem w_c6 : (Jvm.Cond.code ({ cls := "java/lang/StringBuilder", name := "<init>", desc := "(Ljava/lang/String;)V" } : Jvm.MethodName) jdk_67_method_3_code (2 : Nat) (Option.none : Option Jvm.ClassFile.FieldType)).before args0 about1 = true := code_word (m := ⟨11, 1⟩) (meth := k11m1) (c := k11c1) (by decide +kernel) rfl rfl rfl (by decide +kernel)
set_option maxRecDepth 65536 in
theorem w_c7 : (Jvm.Cond.code ({ cls := "java/lang/AbstractStringBuilder", name := "<init>", desc := "(Ljava/lang/String;)V" } : Jvm.MethodName) jdk_68_method_3_code (5 : Nat) (Option.none : Option Jvm.ClassFile.FieldType)).before args0 about1 = true := code_word (m := ⟨10, 1⟩) (meth := k10m1) (c := k10c1) (by decide +kernel) rfl rfl rfl (by decide +kernel)
set_option maxRecDepth 65536 in
theorem w_c8 : (Jvm.Cond.code ({ cls := "java/lang/String", name := "length", desc := "()I" } : Jvm.MethodName) jdk_42_method_54_code (1 : Nat) (Option.some Jvm.ClassFile.FieldType.int)).before args0 about1 = true := code_word (m := ⟨7, 3⟩) (meth := k7m3) (c := k7c3) (by decide +kernel) rfl rfl rfl (by decide +kernel)
set_option maxRecDepth 65536 in
theorem w_c9 : (Jvm.Cond.code ({ cls := "java/lang/String", name := "coder", desc := "()B" } : Jvm.MethodName) jdk_42_method_152_code (1 : Nat) (Option.some Jvm.ClassFile.FieldType.byte)).before args0 about1 = true := code_word (m := ⟨7, 10⟩) (meth := k7m10) (c := k7c10) (by decide +kernel) rfl rfl rfl (by decide +kernel)
set_option maxRecDepth 65536 in
theorem w_c10 : (Jvm.Cond.code ({ cls := "java/lang/StringBuilder", name := "append", desc := "(Ljava/lang/String;)Ljava/lang/AbstractStringBuilder;" } : Jvm.MethodName) jdk_67_method_80_code (2 : Nat) (Option.some (Jvm.ClassFile.FieldType.object "java/lang/AbstractStringBuilder"))).before args0 about1 = true := code_word (m := ⟨11, 6⟩) (meth := k11m6) (c := k11c6) (by decide +kernel) rfl rfl rfl (by decide +kernel)
set_option maxRecDepth 65536 in
theorem w_c11 : (Jvm.Cond.code ({ cls := "java/lang/StringBuilder", name := "append", desc := "(Ljava/lang/String;)Ljava/lang/StringBuilder;" } : Jvm.MethodName) jdk_67_method_7_code (2 : Nat) (Option.some (Jvm.ClassFile.FieldType.object "java/lang/StringBuilder"))).before args0 about1 = true := code_word (m := ⟨11, 3⟩) (meth := k11m3) (c := k11c3) (by decide +kernel) rfl rfl rfl (by decide +kernel)
set_option maxRecDepth 65536 in
theorem w_c12 : (Jvm.Cond.code ({ cls := "java/lang/AbstractStringBuilder", name := "append", desc := "(Ljava/lang/String;)Ljava/lang/AbstractStringBuilder;" } : Jvm.MethodName) jdk_68_method_22_code (3 : Nat) (Option.some (Jvm.ClassFile.FieldType.object "java/lang/AbstractStringBuilder"))).before args0 about1 = true := code_word (m := ⟨10, 5⟩) (meth := k10m5) (c := k10c5) (by decide +kernel) rfl rfl rfl (by decide +kernel)
set_option maxRecDepth 65536 in
theorem w_c13 : (Jvm.Cond.code ({ cls := "java/lang/AbstractStringBuilder", name := "ensureCapacityInternal", desc := "(I)V" } : Jvm.MethodName) jdk_68_method_9_code (3 : Nat) (Option.none : Option Jvm.ClassFile.FieldType)).before args0 about1 = true := code_word (m := ⟨10, 3⟩) (meth := k10m3) (c := k10c3) (by decide +kernel) rfl rfl rfl (by decide +kernel)
set_option maxRecDepth 65536 in
theorem w_c14 : (Jvm.Cond.code ({ cls := "java/lang/AbstractStringBuilder", name := "putStringAt", desc := "(ILjava/lang/String;)V" } : Jvm.MethodName) jdk_68_method_73_code (3 : Nat) (Option.none : Option Jvm.ClassFile.FieldType)).before args0 about1 = true := code_word (m := ⟨10, 10⟩) (meth := k10m10) (c := k10c10) (by decide +kernel) rfl rfl rfl (by decide +kernel)
set_option maxRecDepth 65536 in
theorem w_c15 : (Jvm.Cond.code ({ cls := "java/lang/AbstractStringBuilder", name := "inflateIfNeededFor", desc := "(Ljava/lang/String;)V" } : Jvm.MethodName) jdk_68_method_71_code (2 : Nat) (Option.none : Option Jvm.ClassFile.FieldType)).before args0 about1 = true := code_word (m := ⟨10, 9⟩) (meth := k10m9) (c := k10c9) (by decide +kernel) rfl rfl rfl (by decide +kernel)
set_option maxRecDepth 65536 in
theorem w_c16 : (Jvm.Cond.code ({ cls := "java/lang/String", name := "getBytes", desc := "([BIB)V" } : Jvm.MethodName) jdk_42_method_147_code (4 : Nat) (Option.none : Option Jvm.ClassFile.FieldType)).before args0 about1 = true := code_word (m := ⟨7, 7⟩) (meth := k7m7) (c := k7c7) (by decide +kernel) rfl rfl rfl (by decide +kernel)
set_option maxRecDepth 65536 in
theorem w_c17 : (Jvm.Cond.code ({ cls := "org/latchkey/cli/ResultLine", name := "field", desc := "(Ljava/lang/String;Ljava/lang/Object;)Lorg/latchkey/cli/ResultLine;" } : Jvm.MethodName) prog_5_method_2_code (3 : Nat) (Option.some (Jvm.ClassFile.FieldType.object "org/latchkey/cli/ResultLine"))).before args0 about1 = true := code_word (m := ⟨8, 1⟩) (meth := k8m1) (c := k8c1) (by decide +kernel) rfl rfl rfl (by decide +kernel)
set_option maxRecDepth 65536 in
theorem w_c18 : (Jvm.Cond.code ({ cls := "java/lang/StringBuilder", name := "append", desc := "(C)Ljava/lang/StringBuilder;" } : Jvm.MethodName) jdk_67_method_14_code (2 : Nat) (Option.some (Jvm.ClassFile.FieldType.object "java/lang/StringBuilder"))).before args0 about1 = true := code_word (m := ⟨11, 4⟩) (meth := k11m4) (c := k11c4) (by decide +kernel) rfl rfl rfl (by decide +kernel)
set_option maxRecDepth 65536 in
theorem w_c19 : (Jvm.Cond.code ({ cls := "java/lang/AbstractStringBuilder", name := "append", desc := "(C)Ljava/lang/AbstractStringBuilder;" } : Jvm.MethodName) jdk_68_method_31_code (2 : Nat) (Option.some (Jvm.ClassFile.FieldType.object "java/lang/AbstractStringBuilder"))).before args0 about1 = true := code_word (m := ⟨10, 6⟩) (meth := k10m6) (c := k10c6) (by decide +kernel) rfl rfl rfl (by decide +kernel)
set_option maxRecDepth 65536 in
theorem w_c20 : (Jvm.Cond.code ({ cls := "java/lang/AbstractStringBuilder", name := "isLatin1", desc := "()Z" } : Jvm.MethodName) jdk_68_method_68_code (1 : Nat) (Option.some Jvm.ClassFile.FieldType.boolean)).before args0 about1 = true := code_word (m := ⟨10, 8⟩) (meth := k10m8) (c := k10c8) (by decide +kernel) rfl rfl rfl (by decide +kernel)
set_option maxRecDepth 65536 in
theorem w_c21 : (Jvm.Cond.code ({ cls := "java/lang/StringLatin1", name := "canEncode", desc := "(C)Z" } : Jvm.MethodName) jdk_43_method_3_code (1 : Nat) (Option.some Jvm.ClassFile.FieldType.boolean)).before args0 about1 = true := code_word (m := ⟨13, 2⟩) (meth := k13m2) (c := k13c2) (by decide +kernel) rfl rfl rfl (by decide +kernel)
set_option maxRecDepth 65536 in
theorem w_c22 : (Jvm.Cond.code ({ cls := "java/lang/StringBuilder", name := "append", desc := "(Ljava/lang/Object;)Ljava/lang/StringBuilder;" } : Jvm.MethodName) jdk_67_method_6_code (2 : Nat) (Option.some (Jvm.ClassFile.FieldType.object "java/lang/StringBuilder"))).before args0 about1 = true := code_word (m := ⟨11, 2⟩) (meth := k11m2) (c := k11c2) (by decide +kernel) rfl rfl rfl (by decide +kernel)
set_option maxRecDepth 65536 in
theorem w_c23 : (Jvm.Cond.code ({ cls := "java/lang/String", name := "valueOf", desc := "(Ljava/lang/Object;)Ljava/lang/String;" } : Jvm.MethodName) jdk_42_method_133_code (1 : Nat) (Option.some (Jvm.ClassFile.FieldType.object "java/lang/String"))).before args0 about1 = true := code_word (m := ⟨7, 6⟩) (meth := k7m6) (c := k7c6) (by decide +kernel) rfl rfl rfl (by decide +kernel)
set_option maxRecDepth 65536 in
theorem w_c24 : (Jvm.Cond.code ({ cls := "java/lang/String", name := "toString", desc := "()Ljava/lang/String;" } : Jvm.MethodName) jdk_42_method_126_code (1 : Nat) (Option.some (Jvm.ClassFile.FieldType.object "java/lang/String"))).before args0 about1 = true := code_word (m := ⟨7, 5⟩) (meth := k7m5) (c := k7c5) (by decide +kernel) rfl rfl rfl (by decide +kernel)
set_option maxRecDepth 65536 in
theorem w_c25 : (Jvm.Cond.code ({ cls := "org/latchkey/cli/ResultLine", name := "toString", desc := "()Ljava/lang/String;" } : Jvm.MethodName) prog_5_method_7_code (1 : Nat) (Option.some (Jvm.ClassFile.FieldType.object "java/lang/String"))).before args0 about1 = true := code_word (m := ⟨8, 2⟩) (meth := k8m2) (c := k8c2) (by decide +kernel) rfl rfl rfl (by decide +kernel)
set_option maxRecDepth 65536 in
theorem w_c26 : (Jvm.Cond.code ({ cls := "java/lang/StringBuilder", name := "toString", desc := "()Ljava/lang/String;" } : Jvm.MethodName) jdk_67_method_42_code (1 : Nat) (Option.some (Jvm.ClassFile.FieldType.object "java/lang/String"))).before args0 about1 = true := code_word (m := ⟨11, 5⟩) (meth := k11m5) (c := k11c5) (by decide +kernel) rfl rfl rfl (by decide +kernel)
set_option maxRecDepth 65536 in
theorem w_c27 : (Jvm.Cond.code ({ cls := "java/lang/String", name := "<init>", desc := "(Ljava/lang/StringBuilder;)V" } : Jvm.MethodName) jdk_42_method_53_code (2 : Nat) (Option.none : Option Jvm.ClassFile.FieldType)).before args0 about1 = true := code_word (m := ⟨7, 2⟩) (meth := k7m2) (c := k7c2) (by decide +kernel) rfl rfl rfl (by decide +kernel)
set_option maxRecDepth 65536 in
theorem w_c28 : (Jvm.Cond.code ({ cls := "java/lang/String", name := "<init>", desc := "(Ljava/lang/AbstractStringBuilder;Ljava/lang/Void;)V" } : Jvm.MethodName) jdk_42_method_150_code (5 : Nat) (Option.none : Option Jvm.ClassFile.FieldType)).before args0 about1 = true := code_word (m := ⟨7, 9⟩) (meth := k7m9) (c := k7c9) (by decide +kernel) rfl rfl rfl (by decide +kernel)
set_option maxRecDepth 65536 in
theorem w_c29 : (Jvm.Cond.code ({ cls := "java/lang/AbstractStringBuilder", name := "getValue", desc := "()[B" } : Jvm.MethodName) jdk_68_method_64_code (1 : Nat) (Option.some (Jvm.ClassFile.FieldType.array Jvm.ClassFile.FieldType.byte))).before args0 about1 = true := code_word (m := ⟨10, 7⟩) (meth := k10m7) (c := k10c7) (by decide +kernel) rfl rfl rfl (by decide +kernel)
set_option maxRecDepth 65536 in
theorem w_c30 : (Jvm.Cond.code ({ cls := "java/lang/StringBuilder", name := "length", desc := "()I" } : Jvm.MethodName) jdk_67_method_93_code (1 : Nat) (Option.some Jvm.ClassFile.FieldType.int)).before args0 about1 = true := code_word (m := ⟨11, 7⟩) (meth := k11m7) (c := k11c7) (by decide +kernel) rfl rfl rfl (by decide +kernel)
set_option maxRecDepth 65536 in
theorem w_c31 : (Jvm.Cond.code ({ cls := "java/lang/AbstractStringBuilder", name := "length", desc := "()I" } : Jvm.MethodName) jdk_68_method_6_code (1 : Nat) (Option.some Jvm.ClassFile.FieldType.int)).before args0 about1 = true := code_word (m := ⟨10, 2⟩) (meth := k10m2) (c := k10c2) (by decide +kernel) rfl rfl rfl (by decide +kernel)
set_option maxRecDepth 65536 in
theorem w_c32 : (Jvm.Cond.code ({ cls := "java/util/Arrays", name := "copyOfRange", desc := "([BII)[B" } : Jvm.MethodName) jdk_65_method_132_code (3 : Nat) (Option.some (Jvm.ClassFile.FieldType.array Jvm.ClassFile.FieldType.byte))).before args0 about1 = true := code_word (m := ⟨14, 2⟩) (meth := k14m2) (c := k14c2) (by decide +kernel) rfl rfl rfl (by decide +kernel)
set_option maxRecDepth 65536 in
theorem w_c33 : (Jvm.Cond.code ({ cls := "java/util/Arrays", name := "copyOfRangeByte", desc := "([BII)[B" } : Jvm.MethodName) jdk_65_method_133_code (5 : Nat) (Option.some (Jvm.ClassFile.FieldType.array Jvm.ClassFile.FieldType.byte))).before args0 about1 = true := code_word (m := ⟨14, 3⟩) (meth := k14m3) (c := k14c3) (by decide +kernel) rfl rfl rfl (by decide +kernel)
set_option maxRecDepth 65536 in
theorem w_c34 : (Jvm.Cond.code ({ cls := "java/util/Arrays", name := "checkLength", desc := "(II)V" } : Jvm.MethodName) jdk_65_method_131_code (2 : Nat) (Option.none : Option Jvm.ClassFile.FieldType)).before args0 about1 = true := code_word (m := ⟨14, 1⟩) (meth := k14m1) (c := k14c1) (by decide +kernel) rfl rfl rfl (by decide +kernel)
set_option maxRecDepth 65536 in
theorem w_c35 : (Jvm.Cond.code ({ cls := "java/lang/Math", name := "min", desc := "(II)I" } : Jvm.MethodName) jdk_29_method_69_code (2 : Nat) (Option.some Jvm.ClassFile.FieldType.int)).before args0 about1 = true := code_word (m := ⟨15, 1⟩) (meth := k15m1) (c := k15c1) (by decide +kernel) rfl rfl rfl (by decide +kernel)
set_option maxRecDepth 65536 in
theorem w_c36 : (Jvm.Cond.code ({ cls := "org/latchkey/cli/ResultLineFieldPinLaw", name := "at", desc := "(Ljava/lang/String;ILjava/lang/String;)Z" } : Jvm.MethodName) method_3_code (5 : Nat) (Option.some Jvm.ClassFile.FieldType.boolean)).before args0 about1 = true := code_word (m := ⟨1, 2⟩) (meth := k1m2) (c := k1c2) (by decide +kernel) rfl rfl rfl (by decide +kernel)
set_option maxRecDepth 65536 in
theorem w_c37 : (Jvm.Cond.code ({ cls := "org/latchkey/cli/ResultLineFieldPinLaw", name := "fieldAt", desc := "(Ljava/lang/String;ILjava/lang/String;Ljava/lang/String;)Z" } : Jvm.MethodName) method_4_code (5 : Nat) (Option.some Jvm.ClassFile.FieldType.boolean)).before args0 about1 = true := code_word (m := ⟨1, 3⟩) (meth := k1m3) (c := k1c3) (by decide +kernel) rfl rfl rfl (by decide +kernel)
set_option maxRecDepth 65536 in
theorem w_c38 : (Jvm.Cond.code ({ cls := "java/lang/String", name := "charAt", desc := "(I)C" } : Jvm.MethodName) jdk_42_method_56_code (2 : Nat) (Option.some Jvm.ClassFile.FieldType.char)).before args0 about1 = true := code_word (m := ⟨7, 4⟩) (meth := k7m4) (c := k7c4) (by decide +kernel) rfl rfl rfl (by decide +kernel)
set_option maxRecDepth 65536 in
theorem w_c39 : (Jvm.Cond.code ({ cls := "java/lang/String", name := "isLatin1", desc := "()Z" } : Jvm.MethodName) jdk_42_method_154_code (1 : Nat) (Option.some Jvm.ClassFile.FieldType.boolean)).before args0 about1 = true := code_word (m := ⟨7, 11⟩) (meth := k7m11) (c := k7c11) (by decide +kernel) rfl rfl rfl (by decide +kernel)
set_option maxRecDepth 65536 in
theorem w_c40 : (Jvm.Cond.code ({ cls := "java/lang/StringLatin1", name := "charAt", desc := "([BI)C" } : Jvm.MethodName) jdk_43_method_2_code (2 : Nat) (Option.some Jvm.ClassFile.FieldType.char)).before args0 about1 = true := code_word (m := ⟨13, 1⟩) (meth := k13m1) (c := k13c1) (by decide +kernel) rfl rfl rfl (by decide +kernel)
set_option maxRecDepth 65536 in
theorem w_c41 : (Jvm.Cond.code ({ cls := "java/lang/String", name := "checkIndex", desc := "(II)V" } : Jvm.MethodName) jdk_42_method_155_code (2 : Nat) (Option.none : Option Jvm.ClassFile.FieldType)).before args0 about1 = true := code_word (m := ⟨7, 12⟩) (meth := k7m12) (c := k7c12) (by decide +kernel) rfl rfl rfl (by decide +kernel)
set_option maxRecDepth 65536 in
theorem w_c42 : (Jvm.Cond.code ({ cls := "jdk/internal/util/Preconditions", name := "checkIndex", desc := "(IILjava/util/function/BiFunction;)I" } : Jvm.MethodName) jdk_41_method_11_code (3 : Nat) (Option.some Jvm.ClassFile.FieldType.int)).before args0 about1 = true := code_word (m := ⟨16, 1⟩) (meth := k16m1) (c := k16c1) (by decide +kernel) rfl rfl rfl (by decide +kernel)
set_option maxRecDepth 65536 in
theorem w_c43 : (Jvm.Cond.code ({ cls := "java/lang/StringUTF16", name := "compress", desc := "([CII)[B" } : Jvm.MethodName) jdk_52_method_16_code (6 : Nat) (Option.some (Jvm.ClassFile.FieldType.array Jvm.ClassFile.FieldType.byte))).before args0 about1 = true := code_word (m := ⟨17, 8⟩) (meth := k17m8) (c := k17c8) (by decide +kernel) rfl rfl rfl (by decide +kernel)
set_option maxRecDepth 65536 in
theorem w_c44 : (Jvm.Cond.code ({ cls := "java/lang/StringUTF16", name := "compress", desc := "([CI[BII)I" } : Jvm.MethodName) jdk_52_method_21_code (7 : Nat) (Option.some Jvm.ClassFile.FieldType.int)).before args0 about1 = true := code_word (m := ⟨17, 9⟩) (meth := k17m9) (c := k17c9) (by decide +kernel) rfl rfl rfl (by decide +kernel)
set_option maxRecDepth 65536 in
theorem w_c45 : (Jvm.Cond.code ({ cls := "java/lang/StringUTF16", name := "coderFromArrayLen", desc := "([BI)B" } : Jvm.MethodName) jdk_52_method_15_code (2 : Nat) (Option.some Jvm.ClassFile.FieldType.byte)).before args0 about1 = true := code_word (m := ⟨17, 7⟩) (meth := k17m7) (c := k17c7) (by decide +kernel) rfl rfl rfl (by decide +kernel)
set_option maxRecDepth 65536 in
theorem w_c46 : (Jvm.Cond.code ({ cls := "java/lang/StringUTF16", name := "toBytes", desc := "([CII)[B" } : Jvm.MethodName) jdk_52_method_14_code (5 : Nat) (Option.some (Jvm.ClassFile.FieldType.array Jvm.ClassFile.FieldType.byte))).before args0 about1 = true := code_word (m := ⟨17, 6⟩) (meth := k17m6) (c := k17c6) (by decide +kernel) rfl rfl rfl (by decide +kernel)
set_option maxRecDepth 65536 in
theorem w_c47 : (Jvm.Cond.code ({ cls := "java/lang/StringUTF16", name := "newBytesFor", desc := "(I)[B" } : Jvm.MethodName) jdk_52_method_2_code (1 : Nat) (Option.some (Jvm.ClassFile.FieldType.array Jvm.ClassFile.FieldType.byte))).before args0 about1 = true := code_word (m := ⟨17, 1⟩) (meth := k17m1) (c := k17c1) (by decide +kernel) rfl rfl rfl (by decide +kernel)
set_option maxRecDepth 65536 in
theorem w_c48 : (Jvm.Cond.code ({ cls := "java/lang/StringUTF16", name := "newBytesLength", desc := "(I)I" } : Jvm.MethodName) jdk_52_method_3_code (1 : Nat) (Option.some Jvm.ClassFile.FieldType.int)).before args0 about1 = true := code_word (m := ⟨17, 2⟩) (meth := k17m2) (c := k17c2) (by decide +kernel) rfl rfl rfl (by decide +kernel)
set_option maxRecDepth 65536 in
theorem w_c49 : (Jvm.Cond.code ({ cls := "java/lang/StringUTF16", name := "putChar", desc := "([BII)V" } : Jvm.MethodName) jdk_52_method_4_code (3 : Nat) (Option.none : Option Jvm.ClassFile.FieldType)).before args0 about1 = true := code_word (m := ⟨17, 3⟩) (meth := k17m3) (c := k17c3) (by decide +kernel) rfl rfl rfl (by decide +kernel)
set_option maxRecDepth 65536 in
theorem w_c50 : (Jvm.Cond.code ({ cls := "java/lang/StringUTF16", name := "getChar", desc := "([BI)C" } : Jvm.MethodName) jdk_52_method_5_code (2 : Nat) (Option.some Jvm.ClassFile.FieldType.char)).before args0 about1 = true := code_word (m := ⟨17, 4⟩) (meth := k17m4) (c := k17c4) (by decide +kernel) rfl rfl rfl (by decide +kernel)
set_option maxRecDepth 65536 in
theorem w_c51 : (Jvm.Cond.code ({ cls := "java/lang/AbstractStringBuilder", name := "inflate", desc := "()V" } : Jvm.MethodName) jdk_68_method_11_code (2 : Nat) (Option.none : Option Jvm.ClassFile.FieldType)).before args0 about1 = true := code_word (m := ⟨10, 4⟩) (meth := k10m4) (c := k10c4) (by decide +kernel) rfl rfl rfl (by decide +kernel)
set_option maxRecDepth 65536 in
theorem w_c52 : (Jvm.Cond.code ({ cls := "java/lang/StringLatin1", name := "inflate", desc := "([BI[BII)V" } : Jvm.MethodName) jdk_43_method_50_code (5 : Nat) (Option.none : Option Jvm.ClassFile.FieldType)).before args0 about1 = true := code_word (m := ⟨13, 3⟩) (meth := k13m3) (c := k13c3) (by decide +kernel) rfl rfl rfl (by decide +kernel)
set_option maxRecDepth 65536 in
theorem w_c53 : (Jvm.Cond.code ({ cls := "java/lang/StringUTF16", name := "inflate", desc := "([BI[BII)V" } : Jvm.MethodName) jdk_52_method_86_code (6 : Nat) (Option.none : Option Jvm.ClassFile.FieldType)).before args0 about1 = true := code_word (m := ⟨17, 12⟩) (meth := k17m12) (c := k17c12) (by decide +kernel) rfl rfl rfl (by decide +kernel)
set_option maxRecDepth 65536 in
theorem w_c54 : (Jvm.Cond.code ({ cls := "java/lang/StringUTF16", name := "checkBoundsOffCount", desc := "(II[B)V" } : Jvm.MethodName) jdk_52_method_94_code (3 : Nat) (Option.none : Option Jvm.ClassFile.FieldType)).before args0 about1 = true := code_word (m := ⟨17, 14⟩) (meth := k17m14) (c := k17c14) (by decide +kernel) rfl rfl rfl (by decide +kernel)
set_option maxRecDepth 65536 in
theorem w_c55 : (Jvm.Cond.code ({ cls := "java/lang/StringUTF16", name := "length", desc := "([B)I" } : Jvm.MethodName) jdk_52_method_6_code (1 : Nat) (Option.some Jvm.ClassFile.FieldType.int)).before args0 about1 = true := code_word (m := ⟨17, 5⟩) (meth := k17m5) (c := k17c5) (by decide +kernel) rfl rfl rfl (by decide +kernel)
set_option maxRecDepth 65536 in
theorem w_c56 : (Jvm.Cond.code ({ cls := "java/lang/String", name := "checkBoundsOffCount", desc := "(III)I" } : Jvm.MethodName) jdk_42_method_157_code (3 : Nat) (Option.some Jvm.ClassFile.FieldType.int)).before args0 about1 = true := code_word (m := ⟨7, 13⟩) (meth := k7m13) (c := k7c13) (by decide +kernel) rfl rfl rfl (by decide +kernel)
set_option maxRecDepth 65536 in
theorem w_c57 : (Jvm.Cond.code ({ cls := "jdk/internal/util/Preconditions", name := "checkFromIndexSize", desc := "(IIILjava/util/function/BiFunction;)I" } : Jvm.MethodName) jdk_41_method_13_code (4 : Nat) (Option.some Jvm.ClassFile.FieldType.int)).before args0 about1 = true := code_word (m := ⟨16, 2⟩) (meth := k16m2) (c := k16c2) (by decide +kernel) rfl rfl rfl (by decide +kernel)
set_option maxRecDepth 65536 in
theorem w_c58 : (Jvm.Cond.code ({ cls := "java/lang/StringUTF16", name := "putCharSB", desc := "([BII)V" } : Jvm.MethodName) jdk_52_method_71_code (3 : Nat) (Option.none : Option Jvm.ClassFile.FieldType)).before args0 about1 = true := code_word (m := ⟨17, 10⟩) (meth := k17m10) (c := k17c10) (by decide +kernel) rfl rfl rfl (by decide +kernel)
set_option maxRecDepth 65536 in
theorem w_c59 : (Jvm.Cond.code ({ cls := "java/lang/StringUTF16", name := "checkIndex", desc := "(I[B)V" } : Jvm.MethodName) jdk_52_method_91_code (2 : Nat) (Option.none : Option Jvm.ClassFile.FieldType)).before args0 about1 = true := code_word (m := ⟨17, 13⟩) (meth := k17m13) (c := k17c13) (by decide +kernel) rfl rfl rfl (by decide +kernel)
set_option maxRecDepth 65536 in
theorem w_c60 : (Jvm.Cond.code ({ cls := "java/lang/StringUTF16", name := "charAt", desc := "([BI)C" } : Jvm.MethodName) jdk_52_method_83_code (2 : Nat) (Option.some Jvm.ClassFile.FieldType.char)).before args0 about1 = true := code_word (m := ⟨17, 11⟩) (meth := k17m11) (c := k17c11) (by decide +kernel) rfl rfl rfl (by decide +kernel)
def codes1 : List Jvm.Cond := [Jvm.Cond.code x code maxLocals ret, Jvm.Cond.code ({ cls := "org/latchkey/cli/ResultLineFieldPinLaw", name := "str", desc := "(II)Ljava/lang/String;" } : Jvm.MethodName) method_2_code (4 : Nat) (Option.some (Jvm.ClassFile.FieldType.object "java/lang/String")), Jvm.Cond.code ({ cls := "java/lang/String", name := "<init>", desc := "([C)V" } : Jvm.MethodName) jdk_42_method_3_code (2 : Nat) (Option.none : Option Jvm.ClassFile.FieldType), Jvm.Cond.code ({ cls := "java/lang/String", name := "<init>", desc := "([CIILjava/lang/Void;)V" } : Jvm.MethodName) jdk_42_method_149_code (6 : Nat) (Option.none : Option Jvm.ClassFile.FieldType), Jvm.Cond.code ({ cls := "java/lang/Object", name := "<init>", desc := "()V" } : Jvm.MethodName) object_method_1_code (1 : Nat) (Option.none : Option Jvm.ClassFile.FieldType), Jvm.Cond.code ({ cls := "org/latchkey/cli/ResultLine", name := "<init>", desc := "(Ljava/lang/String;)V" } : Jvm.MethodName) prog_5_method_1_code (2 : Nat) (Option.none : Option Jvm.ClassFile.FieldType), Jvm.Cond.code ({ cls := "java/lang/StringBuilder", name := "<init>", desc := "(Ljava/lang/String;)V" } : Jvm.MethodName) jdk_67_method_3_code (2 : Nat) (Option.none : Option Jvm.ClassFile.FieldType), Jvm.Cond.code ({ cls := "java/lang/AbstractStringBuilder", name := "<init>", desc := "(Ljava/lang/String;)V" } : Jvm.MethodName) jdk_68_method_3_code (5 : Nat) (Option.none : Option Jvm.ClassFile.FieldType), Jvm.Cond.code ({ cls := "java/lang/String", name := "length", desc := "()I" } : Jvm.MethodName) jdk_42_method_54_code (1 : Nat) (Option.some Jvm.ClassFile.FieldType.int), Jvm.Cond.code ({ cls := "java/lang/String", name := "coder", desc := "()B" } : Jvm.MethodName) jdk_42_method_152_code (1 : Nat) (Option.some Jvm.ClassFile.FieldType.byte), Jvm.Cond.code ({ cls := "java/lang/StringBuilder", name := "append", desc := "(Ljava/lang/String;)Ljava/lang/AbstractStringBuilder;" } : Jvm.MethodName) jdk_67_method_80_code (2 : Nat) (Option.some (Jvm.ClassFile.FieldType.object "java/lang/AbstractStringBuilder")), Jvm.Cond.code ({ cls := "java/lang/StringBuilder", name := "append", desc := "(Ljava/lang/String;)Ljava/lang/StringBuilder;" } : Jvm.MethodName) jdk_67_method_7_code (2 : Nat) (Option.some (Jvm.ClassFile.FieldType.object "java/lang/StringBuilder")), Jvm.Cond.code ({ cls := "java/lang/AbstractStringBuilder", name := "append", desc := "(Ljava/lang/String;)Ljava/lang/AbstractStringBuilder;" } : Jvm.MethodName) jdk_68_method_22_code (3 : Nat) (Option.some (Jvm.ClassFile.FieldType.object "java/lang/AbstractStringBuilder")), Jvm.Cond.code ({ cls := "java/lang/AbstractStringBuilder", name := "ensureCapacityInternal", desc := "(I)V" } : Jvm.MethodName) jdk_68_method_9_code (3 : Nat) (Option.none : Option Jvm.ClassFile.FieldType), Jvm.Cond.code ({ cls := "java/lang/AbstractStringBuilder", name := "putStringAt", desc := "(ILjava/lang/String;)V" } : Jvm.MethodName) jdk_68_method_73_code (3 : Nat) (Option.none : Option Jvm.ClassFile.FieldType), Jvm.Cond.code ({ cls := "java/lang/AbstractStringBuilder", name := "inflateIfNeededFor", desc := "(Ljava/lang/String;)V" } : Jvm.MethodName) jdk_68_method_71_code (2 : Nat) (Option.none : Option Jvm.ClassFile.FieldType), Jvm.Cond.code ({ cls := "java/lang/String", name := "getBytes", desc := "([BIB)V" } : Jvm.MethodName) jdk_42_method_147_code (4 : Nat) (Option.none : Option Jvm.ClassFile.FieldType), Jvm.Cond.code ({ cls := "org/latchkey/cli/ResultLine", name := "field", desc := "(Ljava/lang/String;Ljava/lang/Object;)Lorg/latchkey/cli/ResultLine;" } : Jvm.MethodName) prog_5_method_2_code (3 : Nat) (Option.some (Jvm.ClassFile.FieldType.object "org/latchkey/cli/ResultLine")), Jvm.Cond.code ({ cls := "java/lang/StringBuilder", name := "append", desc := "(C)Ljava/lang/StringBuilder;" } : Jvm.MethodName) jdk_67_method_14_code (2 : Nat) (Option.some (Jvm.ClassFile.FieldType.object "java/lang/StringBuilder")), Jvm.Cond.code ({ cls := "java/lang/AbstractStringBuilder", name := "append", desc := "(C)Ljava/lang/AbstractStringBuilder;" } : Jvm.MethodName) jdk_68_method_31_code (2 : Nat) (Option.some (Jvm.ClassFile.FieldType.object "java/lang/AbstractStringBuilder")), Jvm.Cond.code ({ cls := "java/lang/AbstractStringBuilder", name := "isLatin1", desc := "()Z" } : Jvm.MethodName) jdk_68_method_68_code (1 : Nat) (Option.some Jvm.ClassFile.FieldType.boolean), Jvm.Cond.code ({ cls := "java/lang/StringLatin1", name := "canEncode", desc := "(C)Z" } : Jvm.MethodName) jdk_43_method_3_code (1 : Nat) (Option.some Jvm.ClassFile.FieldType.boolean), Jvm.Cond.code ({ cls := "java/lang/StringBuilder", name := "append", desc := "(Ljava/lang/Object;)Ljava/lang/StringBuilder;" } : Jvm.MethodName) jdk_67_method_6_code (2 : Nat) (Option.some (Jvm.ClassFile.FieldType.object "java/lang/StringBuilder")), Jvm.Cond.code ({ cls := "java/lang/String", name := "valueOf", desc := "(Ljava/lang/Object;)Ljava/lang/String;" } : Jvm.MethodName) jdk_42_method_133_code (1 : Nat) (Option.some (Jvm.ClassFile.FieldType.object "java/lang/String")), Jvm.Cond.code ({ cls := "java/lang/String", name := "toString", desc := "()Ljava/lang/String;" } : Jvm.MethodName) jdk_42_method_126_code (1 : Nat) (Option.some (Jvm.ClassFile.FieldType.object "java/lang/String")), Jvm.Cond.code ({ cls := "org/latchkey/cli/ResultLine", name := "toString", desc := "()Ljava/lang/String;" } : Jvm.MethodName) prog_5_method_7_code (1 : Nat) (Option.some (Jvm.ClassFile.FieldType.object "java/lang/String")), Jvm.Cond.code ({ cls := "java/lang/StringBuilder", name := "toString", desc := "()Ljava/lang/String;" } : Jvm.MethodName) jdk_67_method_42_code (1 : Nat) (Option.some (Jvm.ClassFile.FieldType.object "java/lang/String")), Jvm.Cond.code ({ cls := "java/lang/String", name := "<init>", desc := "(Ljava/lang/StringBuilder;)V" } : Jvm.MethodName) jdk_42_method_53_code (2 : Nat) (Option.none : Option Jvm.ClassFile.FieldType), Jvm.Cond.code ({ cls := "java/lang/String", name := "<init>", desc := "(Ljava/lang/AbstractStringBuilder;Ljava/lang/Void;)V" } : Jvm.MethodName) jdk_42_method_150_code (5 : Nat) (Option.none : Option Jvm.ClassFile.FieldType), Jvm.Cond.code ({ cls := "java/lang/AbstractStringBuilder", name := "getValue", desc := "()[B" } : Jvm.MethodName) jdk_68_method_64_code (1 : Nat) (Option.some (Jvm.ClassFile.FieldType.array Jvm.ClassFile.FieldType.byte)), Jvm.Cond.code ({ cls := "java/lang/StringBuilder", name := "length", desc := "()I" } : Jvm.MethodName) jdk_67_method_93_code (1 : Nat) (Option.some Jvm.ClassFile.FieldType.int), Jvm.Cond.code ({ cls := "java/lang/AbstractStringBuilder", name := "length", desc := "()I" } : Jvm.MethodName) jdk_68_method_6_code (1 : Nat) (Option.some Jvm.ClassFile.FieldType.int), Jvm.Cond.code ({ cls := "java/util/Arrays", name := "copyOfRange", desc := "([BII)[B" } : Jvm.MethodName) jdk_65_method_132_code (3 : Nat) (Option.some (Jvm.ClassFile.FieldType.array Jvm.ClassFile.FieldType.byte)), Jvm.Cond.code ({ cls := "java/util/Arrays", name := "copyOfRangeByte", desc := "([BII)[B" } : Jvm.MethodName) jdk_65_method_133_code (5 : Nat) (Option.some (Jvm.ClassFile.FieldType.array Jvm.ClassFile.FieldType.byte)), Jvm.Cond.code ({ cls := "java/util/Arrays", name := "checkLength", desc := "(II)V" } : Jvm.MethodName) jdk_65_method_131_code (2 : Nat) (Option.none : Option Jvm.ClassFile.FieldType), Jvm.Cond.code ({ cls := "java/lang/Math", name := "min", desc := "(II)I" } : Jvm.MethodName) jdk_29_method_69_code (2 : Nat) (Option.some Jvm.ClassFile.FieldType.int), Jvm.Cond.code ({ cls := "org/latchkey/cli/ResultLineFieldPinLaw", name := "at", desc := "(Ljava/lang/String;ILjava/lang/String;)Z" } : Jvm.MethodName) method_3_code (5 : Nat) (Option.some Jvm.ClassFile.FieldType.boolean), Jvm.Cond.code ({ cls := "org/latchkey/cli/ResultLineFieldPinLaw", name := "fieldAt", desc := "(Ljava/lang/String;ILjava/lang/String;Ljava/lang/String;)Z" } : Jvm.MethodName) method_4_code (5 : Nat) (Option.some Jvm.ClassFile.FieldType.boolean), Jvm.Cond.code ({ cls := "java/lang/String", name := "charAt", desc := "(I)C" } : Jvm.MethodName) jdk_42_method_56_code (2 : Nat) (Option.some Jvm.ClassFile.FieldType.char), Jvm.Cond.code ({ cls := "java/lang/String", name := "isLatin1", desc := "()Z" } : Jvm.MethodName) jdk_42_method_154_code (1 : Nat) (Option.some Jvm.ClassFile.FieldType.boolean), Jvm.Cond.code ({ cls := "java/lang/StringLatin1", name := "charAt", desc := "([BI)C" } : Jvm.MethodName) jdk_43_method_2_code (2 : Nat) (Option.some Jvm.ClassFile.FieldType.char), Jvm.Cond.code ({ cls := "java/lang/String", name := "checkIndex", desc := "(II)V" } : Jvm.MethodName) jdk_42_method_155_code (2 : Nat) (Option.none : Option Jvm.ClassFile.FieldType), Jvm.Cond.code ({ cls := "jdk/internal/util/Preconditions", name := "checkIndex", desc := "(IILjava/util/function/BiFunction;)I" } : Jvm.MethodName) jdk_41_method_11_code (3 : Nat) (Option.some Jvm.ClassFile.FieldType.int), Jvm.Cond.code ({ cls := "java/lang/StringUTF16", name := "compress", desc := "([CII)[B" } : Jvm.MethodName) jdk_52_method_16_code (6 : Nat) (Option.some (Jvm.ClassFile.FieldType.array Jvm.ClassFile.FieldType.byte)), Jvm.Cond.code ({ cls := "java/lang/StringUTF16", name := "compress", desc := "([CI[BII)I" } : Jvm.MethodName) jdk_52_method_21_code (7 : Nat) (Option.some Jvm.ClassFile.FieldType.int), Jvm.Cond.code ({ cls := "java/lang/StringUTF16", name := "coderFromArrayLen", desc := "([BI)B" } : Jvm.MethodName) jdk_52_method_15_code (2 : Nat) (Option.some Jvm.ClassFile.FieldType.byte), Jvm.Cond.code ({ cls := "java/lang/StringUTF16", name := "toBytes", desc := "([CII)[B" } : Jvm.MethodName) jdk_52_method_14_code (5 : Nat) (Option.some (Jvm.ClassFile.FieldType.array Jvm.ClassFile.FieldType.byte)), Jvm.Cond.code ({ cls := "java/lang/StringUTF16", name := "newBytesFor", desc := "(I)[B" } : Jvm.MethodName) jdk_52_method_2_code (1 : Nat) (Option.some (Jvm.ClassFile.FieldType.array Jvm.ClassFile.FieldType.byte)), Jvm.Cond.code ({ cls := "java/lang/StringUTF16", name := "newBytesLength", desc := "(I)I" } : Jvm.MethodName) jdk_52_method_3_code (1 : Nat) (Option.some Jvm.ClassFile.FieldType.int), Jvm.Cond.code ({ cls := "java/lang/StringUTF16", name := "putChar", desc := "([BII)V" } : Jvm.MethodName) jdk_52_method_4_code (3 : Nat) (Option.none : Option Jvm.ClassFile.FieldType), Jvm.Cond.code ({ cls := "java/lang/StringUTF16", name := "getChar", desc := "([BI)C" } : Jvm.MethodName) jdk_52_method_5_code (2 : Nat) (Option.some Jvm.ClassFile.FieldType.char), Jvm.Cond.code ({ cls := "java/lang/AbstractStringBuilder", name := "inflate", desc := "()V" } : Jvm.MethodName) jdk_68_method_11_code (2 : Nat) (Option.none : Option Jvm.ClassFile.FieldType), Jvm.Cond.code ({ cls := "java/lang/StringLatin1", name := "inflate", desc := "([BI[BII)V" } : Jvm.MethodName) jdk_43_method_50_code (5 : Nat) (Option.none : Option Jvm.ClassFile.FieldType), Jvm.Cond.code ({ cls := "java/lang/StringUTF16", name := "inflate", desc := "([BI[BII)V" } : Jvm.MethodName) jdk_52_method_86_code (6 : Nat) (Option.none : Option Jvm.ClassFile.FieldType), Jvm.Cond.code ({ cls := "java/lang/StringUTF16", name := "checkBoundsOffCount", desc := "(II[B)V" } : Jvm.MethodName) jdk_52_method_94_code (3 : Nat) (Option.none : Option Jvm.ClassFile.FieldType), Jvm.Cond.code ({ cls := "java/lang/StringUTF16", name := "length", desc := "([B)I" } : Jvm.MethodName) jdk_52_method_6_code (1 : Nat) (Option.some Jvm.ClassFile.FieldType.int), Jvm.Cond.code ({ cls := "java/lang/String", name := "checkBoundsOffCount", desc := "(III)I" } : Jvm.MethodName) jdk_42_method_157_code (3 : Nat) (Option.some Jvm.ClassFile.FieldType.int), Jvm.Cond.code ({ cls := "jdk/internal/util/Preconditions", name := "checkFromIndexSize", desc := "(IIILjava/util/function/BiFunction;)I" } : Jvm.MethodName) jdk_41_method_13_code (4 : Nat) (Option.some Jvm.ClassFile.FieldType.int), Jvm.Cond.code ({ cls := "java/lang/StringUTF16", name := "putCharSB", desc := "([BII)V" } : Jvm.MethodName) jdk_52_method_71_code (3 : Nat) (Option.none : Option Jvm.ClassFile.FieldType), Jvm.Cond.code ({ cls := "java/lang/StringUTF16", name := "checkIndex", desc := "(I[B)V" } : Jvm.MethodName) jdk_52_method_91_code (2 : Nat) (Option.none : Option Jvm.ClassFile.FieldType), Jvm.Cond.code ({ cls := "java/lang/StringUTF16", name := "charAt", desc := "([BI)C" } : Jvm.MethodName) jdk_52_method_83_code (2 : Nat) (Option.some Jvm.ClassFile.FieldType.char)]
set_option maxRecDepth 65536 in
theorem codes_eq : words1.filter isCode = codes1 := rfl
theorem w_codes : ∀ c ∈ words1.filter isCode, c.before args0 about1 = true := by
  rw [codes_eq]
  intro c hc
  simp only [codes1, List.mem_cons, List.not_mem_nil, or_false] at hc
  rcases hc with rfl | rfl | rfl | rfl | rfl | rfl | rfl | rfl | rfl | rfl | rfl | rfl | rfl | rfl | rfl | rfl | rfl | rfl | rfl | rfl | rfl | rfl | rfl | rfl | rfl | rfl | rfl | rfl | rfl | rfl | rfl | rfl | rfl | rfl | rfl | rfl | rfl | rfl | rfl | rfl | rfl | rfl | rfl | rfl | rfl | rfl | rfl | rfl | rfl | rfl | rfl | rfl | rfl | rfl | rfl | rfl | rfl | rfl | rfl | rfl | rfl
  · exact w_c0
  · exact w_c1
  · exact w_c2
  · exact w_c3
  · exact w_c4
  · exact w_c5
  · exact w_c6
  · exact w_c7
  · exact w_c8
  · exact w_c9
  · exact w_c10
  · exact w_c11
  · exact w_c12
  · exact w_c13
  · exact w_c14
  · exact w_c15
  · exact w_c16
  · exact w_c17
  · exact w_c18
  · exact w_c19
  · exact w_c20
  · exact w_c21
  · exact w_c22
  · exact w_c23
  · exact w_c24
  · exact w_c25
  · exact w_c26
  · exact w_c27
  · exact w_c28
  · exact w_c29
  · exact w_c30
  · exact w_c31
  · exact w_c32
  · exact w_c33
  · exact w_c34
  · exact w_c35
  · exact w_c36
  · exact w_c37
  · exact w_c38
  · exact w_c39
  · exact w_c40
  · exact w_c41
  · exact w_c42
  · exact w_c43
  · exact w_c44
  · exact w_c45
  · exact w_c46
  · exact w_c47
  · exact w_c48
  · exact w_c49
  · exact w_c50
  · exact w_c51
  · exact w_c52
  · exact w_c53
  · exact w_c54
  · exact w_c55
  · exact w_c56
  · exact w_c57
  · exact w_c58
  · exact w_c59
  · exact w_c60
set_option maxRecDepth 65536 in
theorem w_t1 : (words1.take 24).all (fun c => isCode c || c.before args0 about1) = true := by decide +kernel
set_option maxRecDepth 65536 in
theorem w_t2 : ((words1.drop 24).take 24).all (fun c => isCode c || c.before args0 about1) = true := by decide +kernel
set_option maxRecDepth 65536 in
theorem w_t3 : (((words1.drop 24).drop 24).take 24).all (fun c => isCode c || c.before args0 about1) = true := by decide +kernel
set_option maxRecDepth 65536 in
theorem w_t4 : ((((words1.drop 24).drop 24).drop 24).take 24).all (fun c => isCode c || c.before args0 about1) = true := by decide +kernel
set_option maxRecDepth 65536 in
theorem w_t5 : (((((words1.drop 24).drop 24).drop 24).drop 24).take 24).all (fun c => isCode c || c.before args0 about1) = true := by decide +kernel
set_option maxRecDepth 65536 in
theorem w_t6 : ((((((words1.drop 24).drop 24).drop 24).drop 24).drop 24).take 24).all (fun c => isCode c || c.before args0 about1) = true := by decide +kernel
set_option maxRecDepth 65536 in
theorem w_t7 : (((((((words1.drop 24).drop 24).drop 24).drop 24).drop 24).drop 24).take 24).all (fun c => isCode c || c.before args0 about1) = true := by decide +kernel
set_option maxRecDepth 65536 in
theorem w_t8 : ((((((((words1.drop 24).drop 24).drop 24).drop 24).drop 24).drop 24).drop 24).take 24).all (fun c => isCode c || c.before args0 about1) = true := by decide +kernel
set_option maxRecDepth 65536 in
theorem w_t9 : (((((((((words1.drop 24).drop 24).drop 24).drop 24).drop 24).drop 24).drop 24).drop 24).take 24).all (fun c => isCode c || c.before args0 about1) = true := by decide +kernel
set_option maxRecDepth 65536 in
theorem w_t10 : ((((((((((words1.drop 24).drop 24).drop 24).drop 24).drop 24).drop 24).drop 24).drop 24).drop 24).take 24).all (fun c => isCode c || c.before args0 about1) = true := by decide +kernel
set_option maxRecDepth 65536 in
theorem w_t11 : (((((((((((words1.drop 24).drop 24).drop 24).drop 24).drop 24).drop 24).drop 24).drop 24).drop 24).drop 24).take 24).all (fun c => isCode c || c.before args0 about1) = true := by decide +kernel
set_option maxRecDepth 65536 in
theorem w_t12 : ((((((((((((words1.drop 24).drop 24).drop 24).drop 24).drop 24).drop 24).drop 24).drop 24).drop 24).drop 24).drop 24).take 24).all (fun c => isCode c || c.before args0 about1) = true := by decide +kernel
set_option maxRecDepth 65536 in
theorem w_t13 : ((((((((((((words1.drop 24).drop 24).drop 24).drop 24).drop 24).drop 24).drop 24).drop 24).drop 24).drop 24).drop 24).drop 24).all (fun c => isCode c || c.before args0 about1) = true := by decide +kernel
theorem w_tables : (allAtoms (Jvm.Cond.code x code maxLocals ret :: tables_1)).before args0 about1 = true := by
  rw [allAtoms_all]
  show words1.all (fun c => c.before args0 about1) = true
  refine all_split ?_ w_codes
  rw [← List.take_append_drop 24 words1, List.all_append, w_t1, ← List.take_append_drop 24 (words1.drop 24), List.all_append, w_t2, ← List.take_append_drop 24 ((words1.drop 24).drop 24), List.all_append, w_t3, ← List.take_append_drop 24 (((words1.drop 24).drop 24).drop 24), List.all_append, w_t4, ← List.take_append_drop 24 ((((words1.drop 24).drop 24).drop 24).drop 24), List.all_append, w_t5, ← List.take_append_drop 24 (((((words1.drop 24).drop 24).drop 24).drop 24).drop 24), List.all_append, w_t6, ← List.take_append_drop 24 ((((((words1.drop 24).drop 24).drop 24).drop 24).drop 24).drop 24), List.all_append, w_t7, ← List.take_append_drop 24 (((((((words1.drop 24).drop 24).drop 24).drop 24).drop 24).drop 24).drop 24), List.all_append, w_t8, ← List.take_append_drop 24 ((((((((words1.drop 24).drop 24).drop 24).drop 24).drop 24).drop 24).drop 24).drop 24), List.all_append, w_t9, ← List.take_append_drop 24 (((((((((words1.drop 24).drop 24).drop 24).drop 24).drop 24).drop 24).drop 24).drop 24).drop 24), List.all_append, w_t10, ← List.take_append_drop 24 ((((((((((words1.drop 24).drop 24).drop 24).drop 24).drop 24).drop 24).drop 24).drop 24).drop 24).drop 24), List.all_append, w_t11, ← List.take_append_drop 24 (((((((((((words1.drop 24).drop 24).drop 24).drop 24).drop 24).drop 24).drop 24).drop 24).drop 24).drop 24).drop 24), List.all_append, w_t12, w_t13]
  rfl
set_option maxRecDepth 65536 in
theorem w_rest : rest_1_c.before args0 about1 = true := by decide +kernel
set_option maxRecDepth 65536 in
theorem w_case : (Jvm.Cond.and given_1 narrow_1).before args0 about1 = true := by decide +kernel
set_option maxRecDepth 65536 in
theorem w_consts : constsHeld consts_1 about1 := Jvm.Lit.constsHeldB_iff.mp (by decide +kernel)
theorem w_applies : (headSpec (Jvm.Cond.code x code maxLocals ret :: tables_1) room_1).applies x e0.platform about1 = true :=
  (Spec.applies_iff w_frames).mpr ⟨w_running, w_runnable, w_alone, w_named, w_hears, w_ripe, w_room, w_tables⟩
theorem atStart : AtStart classFile x code maxLocals ret World_1 tables_1 room_1 Calls_1 rest_1 Pre_1 launch0 p0 e0 about1 theMethod args0 below0 :=
  ⟨lists_1, trivial, launch0.admits_env _ _ _, launch0.least_env, fairChoices_fair.cas, fairChoices_fair.clock, w_frames, w_args, w_heap, w_applies, ⟨w_consts, trivial⟩, w_rest, w_case⟩
end start1
theorem witness_1 : WitnessClaimed_1 := ⟨start1.p0, start1.e0, start1.about1, start1.theMethod, start1.args0, start1.below0, start1.atStart⟩
end Jvm.Pilot.@@N@@
