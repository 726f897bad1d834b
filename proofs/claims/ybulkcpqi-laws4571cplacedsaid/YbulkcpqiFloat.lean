/-
  FLOATS, PLAIN: a 32-bit whole number times 2^-32, then times 2^64, exactly.
-/
import Derived.Laws.FloatArith
namespace Go.Proofs.Ybulkcpqi
open Ieee

/-- The word of v * 2^(x - 1022 - log2 v .. ): v's digits pushed up to the top, behind the exponent field 'x'. -/
def fw (v x : Nat) : Nat := (v.log2 + x) * 4503599627370496 + v * 2 ^ (52 - v.log2)

theorem top_bd (v : Nat) (h : 1 ≤ v) (hv : v < 4294967296) : v.log2 ≤ 31 ∧ 4503599627370496 ≤ v * 2 ^ (52 - v.log2) ∧ v * 2 ^ (52 - v.log2) < 9007199254740992 := by
  have h0 : v ≠ 0 := by omega
  have l31 : v.log2 ≤ 31 := by
    have := (Nat.log2_lt h0).2 (show v < 2 ^ 32 by omega)
    omega
  have a := Nat.log2_self_le h0
  have b : v < 2 ^ (v.log2 + 1) := Nat.lt_log2_self
  have p : 0 < 2 ^ (52 - v.log2) := Nat.two_pow_pos _
  refine ⟨l31, ?_, ?_⟩
  · have := Nat.mul_le_mul_right (2 ^ (52 - v.log2)) a
    rw [← Nat.pow_add, show v.log2 + (52 - v.log2) = 52 by omega] at this
    omega
  · have := Nat.mul_lt_mul_of_pos_right b p
    rw [← Nat.pow_add, show v.log2 + 1 + (52 - v.log2) = 53 by omega] at this
    omega

theorem d_least : double.leastPlace = -1074 := by decide
theorem d_binade : double.binade = 4503599627370496 := by decide
theorem d_inf : double.infRung = 9218868437227405312 := by decide
theorem d_sign : double.signWeight = 9223372036854775808 := by decide
theorem d_fr : double.fractionBits = 52 := rfl

theorem cut_zero (n : Nat) : Toward.even.cut false n 0 = n := by
  unfold Toward.cut
  simp
  omega

/-- float64(v) -/
theorem conv_word (v : Nat) (h : 1 ≤ v) (hv : v < 4294967296) : double.nearest false v 0 = fw v 1022 := by
  obtain ⟨l31, t1, t2⟩ := top_bd v h hv
  unfold Format.nearest
  rw [if_neg (by omega)]
  simp only [d_least, d_binade, d_inf, d_fr]
  have e1 : max ((0 : Int) + (v.log2 : Nat) - (52 : Nat)) (-1074) = (v.log2 : Int) - 52 := by omega
  rw [e1]
  have e2 : (0 - ((v.log2 : Int) - 52)).toNat = 52 - v.log2 := by omega
  have e3 : ((v.log2 : Int) - 52 - 0).toNat = 0 := by omega
  have e4 : ((v.log2 : Int) - 52 - -1074).toNat = v.log2 + 1022 := by omega
  rw [e2, e3, e4, cut_zero, Nat.shiftLeft_eq]
  unfold Format.word fw
  simp only [Bool.false_eq_true, if_false]
  omega

/-- What such a word stands for. -/
theorem read_word (v x : Nat) (h : 1 ≤ v) (hv : v < 4294967296) (hx1 : x ≤ 2000) : double.read (fw v x) = .number false (v * 2 ^ (52 - v.log2)) ((v.log2 : Int) + x - 1074) := by
  obtain ⟨l31, t1, t2⟩ := top_bd v h hv
  unfold Format.read fw
  simp only [d_least, d_binade, d_inf, d_sign]
  generalize v * 2 ^ (52 - v.log2) = m at *
  generalize v.log2 = l at *
  have e0 : ((l + x) * 4503599627370496 + m) % 9223372036854775808 = (l + x) * 4503599627370496 + m := by omega
  have e1 : ((l + x) * 4503599627370496 + m) / 9223372036854775808 = 0 := by omega
  rw [e0, e1, if_neg (by omega), if_pos (by omega)]
  have e2 : 4503599627370496 + ((l + x) * 4503599627370496 + m) % 4503599627370496 = m := by omega
  have e3 : ((l + x) * 4503599627370496 + m) / 4503599627370496 - 1 = l + x := by omega
  have e4 : (-1074 : Int) + ((l + x : Nat) : Int) = (l : Int) + x - 1074 := by omega
  rw [e2, e3, e4]
  rfl

theorem log2_mul_pow (v k : Nat) (h : 1 ≤ v) : (v * 2 ^ k).log2 = v.log2 + k := by
  have h0 : v ≠ 0 := by omega
  have hp : 0 < 2 ^ k := Nat.two_pow_pos _
  have a := Nat.log2_self_le h0
  have b : v < 2 ^ (v.log2 + 1) := Nat.lt_log2_self
  refine (Nat.log2_eq_iff (Nat.ne_of_gt (Nat.mul_pos (by omega) hp))).2 ⟨?_, ?_⟩
  · rw [Nat.pow_add]; exact Nat.mul_le_mul_right _ a
  · rw [show v.log2 + k + 1 = v.log2 + 1 + k by omega, Nat.pow_add]; exact Nat.mul_lt_mul_of_pos_right b hp

/-- The product's digits, cut back to 53: nothing is lost. -/
theorem cut_52 (m : Nat) (h1 : 4503599627370496 ≤ m) (_h2 : m < 9007199254740992) : Toward.even.cut false (m * 4503599627370496) 52 = m := by
  unfold Toward.cut
  have hl : 52 ≤ (m * 4503599627370496).log2 + 2 := by
    have h0 : m * 4503599627370496 ≠ 0 := by omega
    have := (Nat.le_log2 h0).2 (show 2 ^ 52 ≤ m * 4503599627370496 by omega)
    omega
  rw [Nat.min_eq_left hl]
  have hg : 1 <<< 52 = 4503599627370496 := by decide
  simp only [hg]
  have e1 : m * 4503599627370496 / 4503599627370496 = m := by omega
  have e2 : m * 4503599627370496 % 4503599627370496 = 0 := by omega
  rw [e1, e2]
  simp

theorem p52 : (2 : Nat) ^ 52 = 4503599627370496 := by decide
theorem p32 : (2 : Nat) ^ 32 = 4294967296 := by decide
theorem pow_52 (k : Nat) : 2 ^ k * 4503599627370496 = 2 ^ (k + 52) := by rw [Nat.pow_add, p52]

/-- A number of 53 digits times 2^52, written: plain. -/
theorem write_top (m : Nat) (pl : Int) (z : Nat) (h1 : 4503599627370496 ≤ m) (h2 : m < 9007199254740992) (hl : (m * 4503599627370496).log2 = 104) (hz : pl = (z : Int) - 1126) (hz1 : z ≤ 2040) :
    double.nearest false (m * 4503599627370496) pl = z * 4503599627370496 + m := by
  unfold Format.nearest
  rw [if_neg (by omega)]
  simp only [d_least, d_binade, d_inf, d_fr, hl]
  subst hz
  have e1 : max ((z : Int) - 1126 + ((104 : Nat) : Int) - ((52 : Nat) : Int)) (-1074) = (z : Int) - 1074 := by omega
  simp only [e1]
  have e2 : ((z : Int) - 1126 - ((z : Int) - 1074)).toNat = 0 := by omega
  have e3 : ((z : Int) - 1074 - ((z : Int) - 1126)).toNat = 52 := by omega
  have e4 : ((z : Int) - 1074 - -1074).toNat = z := by omega
  simp only [e2, e3, e4, Nat.shiftLeft_zero, cut_52 m h1 h2]
  unfold Format.word
  simp only [Bool.false_eq_true, if_false]
  omega

/-- Times a power of two: the exponent field moves. 'y': the power's word; it reads as 2^52 * 2^(k - 1074). -/
theorem mul_word (v x y k : Nat) (h : 1 ≤ v) (hv : v < 4294967296) (hx1 : x ≤ 2000) (hy : double.read y = .number false 4503599627370496 ((k : Int) - 1074)) (hk0 : 1022 ≤ x + k) (hk1 : x + k ≤ 3022) :
    double.mul (fw v x) y = some (fw v (x + k - 1022)) := by
  obtain ⟨l31, t1, t2⟩ := top_bd v h hv
  have hm : v * 2 ^ (52 - v.log2) * 4503599627370496 = v * 2 ^ (104 - v.log2) := by
    rw [Nat.mul_assoc, pow_52, show 52 - v.log2 + 52 = 104 - v.log2 by omega]
  have hl : (v * 2 ^ (52 - v.log2) * 4503599627370496).log2 = 104 := by
    rw [hm, log2_mul_pow v _ h]; omega
  unfold Format.mul
  rw [read_word v x h hv hx1, hy]
  simp only [Datum.product, Option.map_some, Format.write, Bool.false_xor]
  refine congrArg some ?_
  unfold fw
  clear hm
  generalize v * 2 ^ (52 - v.log2) = m at *
  generalize v.log2 = l at *
  exact write_top m _ (l + (x + k - 1022)) t1 t2 hl (by omega) (by omega)

theorem cut_up (n : Nat) : Toward.zero.cut false n 0 = n := by
  unfold Toward.cut
  simp only [Nat.zero_min, Nat.shiftLeft_zero, Nat.div_one, Bool.toNat_false, Nat.add_zero]

theorem cut_down (n d : Nat) (h : d ≤ n.log2 + 2) : Toward.zero.cut false n d = n / 2 ^ d := by
  unfold Toward.cut
  simp only [Nat.min_eq_left h, Nat.shiftLeft_eq, Nat.one_mul, Bool.toNat_false, Nat.add_zero]

theorem toInt_number (m r : Nat) (pl : Int) (h : Toward.zero.cut false (m <<< pl.toNat) (-pl).toNat = r) : (Datum.number false m pl).toInt .zero = some (r : Int) := by
  unfold Datum.toInt Datum.integral
  simp only [h]
  unfold signed
  simp only [Bool.false_eq_true, if_false, Nat.shiftLeft_zero]

theorem cut_v (v l : Nat) (i : Int) (h : 1 ≤ v) (hl : v.log2 = l) (l31 : l ≤ 31) (hi : i = (l : Int) - 20) :
    Toward.zero.cut false ((v * 2 ^ (52 - l)) <<< i.toNat) (-i).toNat = v * 4294967296 := by
  by_cases h20 : 20 ≤ l
  · have a1 : (-i).toNat = 0 := by omega
    have a2 : i.toNat = l - 20 := by omega
    have a3 : 52 - l + (l - 20) = 32 := by omega
    rw [a1, a2, cut_up, Nat.shiftLeft_eq, Nat.mul_assoc, ← Nat.pow_add, a3, p32]
  · have a1 : (-i).toNat = 20 - l := by omega
    have a2 : i.toNat = 0 := by omega
    have a3 : 52 - l = 32 + (20 - l) := by omega
    have a4 : 20 - l ≤ (v * 2 ^ (52 - l)).log2 + 2 := by rw [log2_mul_pow v _ h]; omega
    rw [a1, a2, Nat.shiftLeft_zero, cut_down _ _ a4, a3, Nat.pow_add, ← Nat.mul_assoc, Nat.mul_div_cancel _ (Nat.two_pow_pos _), p32]

theorem u64_min : IntKind.u64.min = 0 := by decide
theorem u64_max : IntKind.u64.max = 18446744073709551615 := by decide +kernel

theorem toIntVal_of (b m r : Nat) (pl : Int) (hd : double.read b = .number false m pl) (h : Toward.zero.cut false (m <<< pl.toNat) (-pl).toNat = r) (hr : r ≤ 18446744073709551615) :
    floatToIntVal .f64 b .u64 = some (r : Int) := by
  have h2 := toInt_number m r pl h
  have e6 : (0 : Int) ≤ (r : Int) ∧ (r : Int) ≤ 18446744073709551615 := by omega
  unfold floatToIntVal FloatKind.decode
  rw [show FloatKind.f64.format = double from rfl, hd, h2, u64_min, u64_max]
  simp only [e6, and_self, if_true]

/-- v * 2^32, cut to a whole number. -/
theorem to_int_word (v : Nat) (h : 1 ≤ v) (hv : v < 4294967296) : floatToIntVal .f64 (fw v 1054) .u64 = some ((v : Int) * 4294967296) := by
  have l31 := (top_bd v h hv).1
  have e5 : (v : Int) * 4294967296 = ((v * 4294967296 : Nat) : Int) := by omega
  rw [e5]
  exact toIntVal_of _ _ _ _ (read_word v 1054 h hv (by omega)) (cut_v v _ _ h rfl l31 (by omega)) (by omega)

theorem read_m32 : double.read 4463067230724161536 = .number false 4503599627370496 ((990 : Nat) - 1074) := by decide +kernel
theorem read_64 : double.read 4895412794951729152 = .number false 4503599627370496 ((1086 : Nat) - 1074) := by decide +kernel

/-- The word of v * 2^-32. -/
def flr (v : Int) : Nat := if v = 0 then 0 else fw v.toNat 990
/-- The word of v * 2^32. -/
def flu (v : Int) : Nat := if v = 0 then 0 else fw v.toNat 1054

theorem flr_of (v : Int) (h0 : 0 ≤ v) (h1 : v ≤ 4294967295) : floatBits .mul .f64 (floatOfInt .f64 v) 4463067230724161536 = some (flr v) := by
  unfold floatBits flr
  by_cases hz : v = 0
  · subst hz; decide +kernel
  · obtain ⟨n, rfl⟩ := Int.eq_ofNat_of_zero_le h0
    rw [if_neg hz, Int.toNat_natCast]
    have hc : floatOfInt .f64 (n : Int) = fw n 1022 := by
      unfold floatOfInt FloatKind.nearest FloatKind.encode
      simp only [Format.write]
      rw [show decide ((n : Int) < 0) = false by simp, Int.natAbs_natCast]
      exact conv_word n (by omega) (by omega)
    show double.mul _ _ = _
    rw [hc, mul_word n 1022 _ 990 (by omega) (by omega) (by omega) read_m32 (by omega) (by omega)]

theorem flu_of (v : Int) (h0 : 0 ≤ v) (h1 : v ≤ 4294967295) : floatBits .mul .f64 (flr v) 4895412794951729152 = some (flu v) := by
  unfold floatBits flr flu
  by_cases hz : v = 0
  · subst hz; decide +kernel
  · obtain ⟨n, rfl⟩ := Int.eq_ofNat_of_zero_le h0
    rw [if_neg hz, if_neg hz, Int.toNat_natCast]
    show double.mul _ _ = _
    rw [mul_word n 990 _ 1086 (by omega) (by omega) (by omega) read_64 (by omega) (by omega)]

theorem flu_int (v : Int) (h0 : 0 ≤ v) (h1 : v ≤ 4294967295) : floatToIntVal .f64 (flu v) .u64 = some (v * 4294967296) := by
  unfold flu
  by_cases hz : v = 0
  · subst hz; decide +kernel
  · obtain ⟨n, rfl⟩ := Int.eq_ofNat_of_zero_le h0
    rw [if_neg hz, Int.toNat_natCast]
    exact to_int_word n (by omega) (by omega)
end Go.Proofs.Ybulkcpqi
