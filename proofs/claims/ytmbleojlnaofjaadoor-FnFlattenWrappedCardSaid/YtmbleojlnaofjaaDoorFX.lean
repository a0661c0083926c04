/- Floats of halves: what float64(h), h / 2, 2 * x, Trunc and int make of whole numbers below 2^53. -/
import Derived.Laws.FloatArith
namespace Go.Proofs.YtmbleojlnaofjaaDoor
open Go Ieee
set_option linter.unusedVariables false
theorem dbl_bin : double.binade = 4503599627370496 := by decide +kernel
theorem dbl_inf : double.infRung = 9218868437227405312 := by decide +kernel
theorem dbl_sgn : double.signWeight = 9223372036854775808 := by decide +kernel
theorem dbl_lp : double.leastPlace = -1074 := by decide +kernel
theorem dbl_fb : double.fractionBits = 52 := rfl
theorem log2_of {n k : Nat} (h1 : 2 ^ k ≤ n) (h2 : n < 2 ^ (k + 1)) : n.log2 = k := by
  have h0 : n ≠ 0 := by have := Nat.two_pow_pos k; omega
  exact (Nat.log2_eq_iff h0).2 ⟨h1, h2⟩
theorem log2_mul {m d : Nat} (h1 : 4503599627370496 ≤ m) (h2 : m < 9007199254740992) : (m * 2 ^ d).log2 = 52 + d := by
  have hp := Nat.two_pow_pos d
  refine log2_of ?_ ?_
  · rw [Nat.pow_add]; exact Nat.mul_le_mul_right _ h1
  · rw [show 52 + d + 1 = 53 + d by omega, Nat.pow_add]; exact Nat.mul_lt_mul_of_pos_right h2 hp
/-- Digits that are whole behind the cut. -/
theorem near_exact (neg : Bool) {m d : Nat} {p : Int} (h1 : 4503599627370496 ≤ m) (h2 : m < 9007199254740992) (hp : -1074 ≤ p + d) (hq : p + d ≤ 900) :
    double.nearest neg (m * 2 ^ d) p = double.word neg ((p + d + 1074).toNat * 4503599627370496 + m) := by
  have hpd := Nat.two_pow_pos d
  have h0 : ¬ m * 2 ^ d = 0 := by
    intro h; rcases Nat.mul_eq_zero.1 h with h | h <;> omega
  unfold Format.nearest
  rw [if_neg h0, log2_mul h1 h2, dbl_lp, dbl_fb, dbl_bin, dbl_inf]
  have e1 : max (p + ((52 + d : Nat) : Int) - ((52 : Nat) : Int)) (-1074) = p + d := by omega
  simp only [e1]
  have e2 : (p - (p + (d : Int))).toNat = 0 := by omega
  have e3 : (p + (d : Int) - p).toNat = d := by omega
  rw [e2, e3]
  have e4 : (m * 2 ^ d) <<< 0 = m * 2 ^ d := rfl
  rw [e4]
  have e5 : Toward.even.cut neg (m * 2 ^ d) d = m := by
    unfold Toward.cut
    rw [log2_mul h1 h2, show min d (52 + d + 2) = d by omega, Nat.one_shiftLeft]
    dsimp only
    rw [Nat.mul_div_cancel _ hpd, Nat.mul_mod_left]
    simp only [Nat.mul_zero, Nat.not_lt_zero, decide_false, Bool.false_or]
    have h6 : (2 ^ d == 0) = false := by simp
    rw [h6]; rfl
  rw [e5]
  have e6 : p + (d : Int) - -1074 = p + d + 1074 := by omega
  rw [e6]
  have e7 : (p + (d : Int) + 1074).toNat ≤ 1974 := by omega
  rw [Nat.min_eq_left (by omega)]
/-- Digits that are too few: they move up. -/
theorem near_up (neg : Bool) {m d : Nat} {p : Int} (h1 : 4503599627370496 ≤ m * 2 ^ d) (h2 : m * 2 ^ d < 9007199254740992) (hd : d ≤ 52) (hp : -1074 ≤ p - d) (hq : p - d ≤ 900) :
    double.nearest neg m p = double.word neg ((p - d + 1074).toNat * 4503599627370496 + m * 2 ^ d) := by
  have hpd := Nat.two_pow_pos d
  have h0 : ¬ m = 0 := by intro h; rw [h] at h1; omega
  have hlog : m.log2 = 52 - d := by
    refine log2_of ?_ ?_
    · have : 2 ^ (52 - d) * 2 ^ d ≤ m * 2 ^ d := by rw [← Nat.pow_add, show 52 - d + d = 52 by omega]; exact h1
      exact Nat.le_of_mul_le_mul_right this hpd
    · have : m * 2 ^ d < 2 ^ (52 - d + 1) * 2 ^ d := by rw [← Nat.pow_add, show 52 - d + 1 + d = 53 by omega]; exact h2
      exact Nat.lt_of_mul_lt_mul_right this
  unfold Format.nearest
  rw [if_neg h0, hlog, dbl_lp, dbl_fb, dbl_bin, dbl_inf]
  have e1 : max (p + ((52 - d : Nat) : Int) - ((52 : Nat) : Int)) (-1074) = p - d := by omega
  simp only [e1]
  have e2 : (p - (p - (d : Int))).toNat = d := by omega
  have e3 : (p - (d : Int) - p).toNat = 0 := by omega
  rw [e2, e3, Nat.shiftLeft_eq]
  have e5 : Toward.even.cut neg (m * 2 ^ d) 0 = m * 2 ^ d := by
    unfold Toward.cut
    rw [Nat.zero_min]
    simp [Nat.mod_one]
  rw [e5]
  have e6 : p - (d : Int) - -1074 = p - d + 1074 := by omega
  rw [e6]
  have e7 : (p - (d : Int) + 1074).toNat ≤ 1974 := by omega
  rw [Nat.min_eq_left (by omega)]
theorem read_word (neg : Bool) {q m : Nat} (h1 : 4503599627370496 ≤ m) (h2 : m < 9007199254740992) (hq : q ≤ 1974) :
    double.read (double.word neg (q * 4503599627370496 + m)) = .number neg m ((q : Int) - 1074) := by
  unfold Format.read Format.word
  rw [dbl_sgn, dbl_bin, dbl_inf, dbl_lp]
  cases neg <;> simp only [Bool.false_eq_true, if_false, if_true]
  · have e1 : (q * 4503599627370496 + m) / 9223372036854775808 = 0 := by omega
    have e2 : (q * 4503599627370496 + m) % 9223372036854775808 = q * 4503599627370496 + m := by omega
    rw [e1, e2, if_neg (by omega), if_pos (by omega)]
    have e3 : 4503599627370496 + (q * 4503599627370496 + m) % 4503599627370496 = m := by omega
    have e4 : (-1074 : Int) + (((q * 4503599627370496 + m) / 4503599627370496 - 1 : Nat) : Int) = (q : Int) - 1074 := by omega
    rw [e3, e4]; rfl
  · have e1 : (9223372036854775808 + (q * 4503599627370496 + m)) / 9223372036854775808 = 1 := by omega
    have e2 : (9223372036854775808 + (q * 4503599627370496 + m)) % 9223372036854775808 = q * 4503599627370496 + m := by omega
    rw [e1, e2, if_neg (by omega), if_pos (by omega)]
    have e3 : 4503599627370496 + (q * 4503599627370496 + m) % 4503599627370496 = m := by omega
    have e4 : (-1074 : Int) + (((q * 4503599627370496 + m) / 4503599627370496 - 1 : Nat) : Int) = (q : Int) - 1074 := by omega
    rw [e3, e4]; rfl
/-- A whole number below 2^53, not 0: its digits, moved up to 53 of them. -/
structure Dig (h : Int) (m d : Nat) : Prop where
  pos : 0 < h.natAbs
  eq : m = h.natAbs * 2 ^ d
  lo : 4503599627370496 ≤ m
  hi : m < 9007199254740992
  d52 : d ≤ 52
theorem dig_of {h : Int} (h0 : h ≠ 0) (hb : h.natAbs < 9007199254740992) : ∃ m d, Dig h m d := by
  have hn : h.natAbs ≠ 0 := by omega
  have hlt := Nat.log2_lt (n := h.natAbs) (k := 53) hn
  have hk : h.natAbs.log2 < 53 := hlt.2 (by omega)
  have hs := (Nat.log2_eq_iff hn).1 rfl
  refine ⟨h.natAbs * 2 ^ (52 - h.natAbs.log2), 52 - h.natAbs.log2, ⟨by omega, rfl, ?_, ?_, by omega⟩⟩
  · have : 2 ^ h.natAbs.log2 * 2 ^ (52 - h.natAbs.log2) ≤ h.natAbs * 2 ^ (52 - h.natAbs.log2) := Nat.mul_le_mul_right _ hs.1
    rw [← Nat.pow_add, show h.natAbs.log2 + (52 - h.natAbs.log2) = 52 by omega] at this
    exact this
  · have : h.natAbs * 2 ^ (52 - h.natAbs.log2) < 2 ^ (h.natAbs.log2 + 1) * 2 ^ (52 - h.natAbs.log2) := Nat.mul_lt_mul_of_pos_right hs.2 (Nat.two_pow_pos _)
    rw [← Nat.pow_add, show h.natAbs.log2 + 1 + (52 - h.natAbs.log2) = 53 by omega] at this
    exact this
section
variable {h : Int} {m d : Nat}
def wordH (h : Int) (m d : Nat) : Nat := double.word (decide (h < 0)) ((1074 - d) * 4503599627370496 + m)
def wordF (h : Int) (m d : Nat) : Nat := double.word (decide (h < 0)) ((1073 - d) * 4503599627370496 + m)
theorem Dig.near (D : Dig h m d) : FloatKind.f64.nearest h = wordH h m d := by
  have e := D.eq
  show double.nearest (decide (h < 0)) h.natAbs 0 = _
  rw [near_up (decide (h < 0)) (m := h.natAbs) (d := d) (p := 0) (by rw [← e]; exact D.lo) (by rw [← e]; exact D.hi) D.d52 (by have := D.d52; omega) (by omega), ← e]
  unfold wordH
  have : ((0 : Int) - d + 1074).toNat = 1074 - d := by have := D.d52; omega
  rw [this]
theorem Dig.readH (D : Dig h m d) : double.read (wordH h m d) = .number (decide (h < 0)) m (-(d : Int)) := by
  unfold wordH
  rw [read_word _ D.lo D.hi (by omega)]
  have : ((1074 - d : Nat) : Int) - 1074 = -(d : Int) := by have := D.d52; omega
  rw [this]
theorem Dig.readF (D : Dig h m d) : double.read (wordF h m d) = .number (decide (h < 0)) m (-(d : Int) - 1) := by
  unfold wordF
  rw [read_word _ D.lo D.hi (by omega)]
  have : ((1073 - d : Nat) : Int) - 1074 = -(d : Int) - 1 := by have := D.d52; omega
  rw [this]
theorem read_two : double.read 4611686018427387904 = .number false 4503599627370496 (-51) := by decide +kernel
/-- h / 2. -/
theorem Dig.half (D : Dig h m d) : double.div (wordH h m d) 4611686018427387904 = some (wordF h m d) := by
  unfold Format.div
  rw [D.readH, read_two, dbl_fb]
  have hl : m.log2 = 52 := log2_of (k := 52) D.lo D.hi
  have hl2 : Nat.log2 4503599627370496 = 52 := log2_of (k := 52) (by decide) (by decide)
  simp only [Datum.quotient]
  rw [if_neg (by decide), hl, hl2]
  have e0 : 52 + 2 + 52 - 52 = 54 := by omega
  have e1 : m <<< 54 = m * 4 * 4503599627370496 := by rw [Nat.shiftLeft_eq, Nat.mul_assoc]
  rw [e0, e1, Nat.mul_div_cancel _ (by decide), Nat.mul_mod_left]
  simp only [Option.map_some, Bool.xor_false]
  have e2 : 2 * (m * 4) + (0 != 0 : Bool).toNat = m * 2 ^ 3 := by simp; omega
  rw [e2]
  show some (double.nearest _ _ _) = _
  rw [near_exact (d := 3) _ D.lo D.hi (by have := D.d52; omega) (by omega)]
  unfold wordF
  have e3 : (-(d : Int) - -51 - ((54 : Nat) : Int) - 1 + ((3 : Nat) : Int) + 1074).toNat = 1073 - d := by have := D.d52; omega
  rw [e3]
/-- 2 * (h / 2). -/
theorem Dig.twice (D : Dig h m d) : double.mul 4611686018427387904 (wordF h m d) = some (wordH h m d) := by
  unfold Format.mul
  rw [D.readF, read_two]
  simp only [Datum.product, Option.map_some, Bool.false_xor]
  show some (double.nearest _ _ _) = _
  rw [Nat.mul_comm, show m * 4503599627370496 = m * 2 ^ 52 from rfl, near_exact (d := 52) _ D.lo D.hi (by have := D.d52; omega) (by omega)]
  unfold wordH
  have e3 : ((-51 : Int) + (-(d : Int) - 1) + ((52 : Nat) : Int) + 1074).toNat = 1074 - d := by have := D.d52; omega
  rw [e3]
theorem Dig.cut (D : Dig h m d) (neg : Bool) : Toward.zero.cut neg m d = h.natAbs := by
  have hl : m.log2 = 52 := log2_of (k := 52) D.lo D.hi
  have hd := D.d52
  unfold Toward.cut
  rw [hl, show min d (52 + 2) = d by omega, Nat.one_shiftLeft, D.eq]
  dsimp only
  rw [Nat.mul_div_cancel _ (Nat.two_pow_pos _)]
  rfl
theorem Dig.integral (D : Dig h m d) : (FloatKind.f64.decode (wordH h m d)).integral .zero = .number (decide (h < 0)) h.natAbs 0 := by
  show (double.read (wordH h m d)).integral .zero = _
  rw [D.readH]
  simp only [Datum.integral]
  have e1 : (-(d : Int)).toNat = 0 := by omega
  have e2 : (- -(d : Int)).toNat = d := by omega
  rw [e1, e2, show m <<< 0 = m from rfl, D.cut]
theorem signed_nat (h : Int) : signed (decide (h < 0)) h.natAbs 0 = h := by
  unfold signed
  rw [show h.natAbs <<< 0 = h.natAbs from rfl]
  by_cases hc : h < 0 <;> simp [hc] <;> omega
/-- int(x). -/
theorem Dig.toInt (D : Dig h m d) (hb : h.natAbs < 9007199254740992) : floatToIntVal .f64 (wordH h m d) .i64 = some h := by
  unfold floatToIntVal Datum.toInt
  rw [D.integral]
  simp only [signed_nat]
  rw [if_pos]
  exact ⟨by show -9223372036854775808 ≤ h; omega, by show h ≤ 9223372036854775807; omega⟩
end
end Go.Proofs.YtmbleojlnaofjaaDoor
