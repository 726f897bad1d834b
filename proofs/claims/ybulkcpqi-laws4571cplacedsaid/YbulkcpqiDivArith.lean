/-
  THE PLAIN ARITHMETIC UNDER math/bits.Div64 (the schoolbook division of four halves by two): no Go in sight.
-/
import Derived.Lib.BitFns
namespace Go.Proofs.Ybulkcpqi

/-- What holds at the head of one of Div64's two correcting loops: the guess q, what is left r. -/
def DInv (D v1 _v0 u t q r : Int) : Prop :=
  (u * 4294967296 + t) / D ≤ q ∧ q ≤ 4294967297 ∧ 0 ≤ r ∧ r < 4294967296 ∧ q * v1 + r = u

/-- The halves of the divisor and of what is divided. -/
def DCtx (D v1 v0 u t : Int) : Prop :=
  D = v1 * 4294967296 + v0 ∧ 2147483648 ≤ v1 ∧ v1 < 4294967296 ∧ 0 ≤ v0 ∧ v0 < 4294967296 ∧ 0 ≤ u ∧ u < D ∧ 0 ≤ t ∧ t < 4294967296

theorem q_bd {D v1 v0 u t : Int} (c : DCtx D v1 v0 u t) : 0 ≤ (u * 4294967296 + t) / D ∧ (u * 4294967296 + t) / D < 4294967296 := by
  obtain ⟨rfl, c1, c2, c3, c4, c5, c6, c7, c8⟩ := c
  refine ⟨Int.ediv_nonneg (by omega) (by omega), ?_⟩
  rw [Int.ediv_lt_iff_lt_mul (by omega)]
  omega

theorem q_mul_le {D v1 v0 u t : Int} (c : DCtx D v1 v0 u t) : (u * 4294967296 + t) / D * D ≤ u * 4294967296 + t := by
  obtain ⟨rfl, c1, c2, c3, c4, c5, c6, c7, c8⟩ := c
  exact Int.ediv_mul_le _ (by omega)

theorem inv_start {D v1 v0 u t : Int} (c : DCtx D v1 v0 u t) : DInv D v1 v0 u t (u / v1) (u - u / v1 * v1) := by
  have hq := q_mul_le c
  obtain ⟨hD, c1, c2, c3, c4, c5, c6, c7, c8⟩ := c
  have hm := Int.emod_nonneg u (show v1 ≠ 0 by omega)
  have hl := Int.emod_lt_of_pos u (show 0 < v1 by omega)
  have he := Int.mul_ediv_add_emod u v1
  have hc : v1 * (u / v1) = u / v1 * v1 := Int.mul_comm _ _
  generalize hQ : (u * 4294967296 + t) / D = Q at hq
  generalize hq1 : u / v1 = q at *
  refine ⟨?_, ?_, ?_, ?_, ?_⟩
  · rw [hQ, ← hq1, Int.le_ediv_iff_mul_le (by omega)]
    have hQ0 : 0 ≤ Q := by rw [← hQ]; exact Int.ediv_nonneg (by omega) (by omega)
    have h1 : Q * D = Q * v1 * 4294967296 + Q * v0 := by rw [hD, Int.mul_add, Int.mul_assoc]
    have h2 : 0 ≤ Q * v0 := Int.mul_nonneg hQ0 c3
    omega
  · have h3 : q * v1 < 4294967298 * v1 := by omega
    have := Int.lt_of_mul_lt_mul_right h3 (by omega)
    omega
  · omega
  · omega
  · omega

theorem start_bd {D v1 v0 u t : Int} (c : DCtx D v1 v0 u t) (_hu : u ≤ 18446744073709551615) :
    0 ≤ u / v1 ∧ u / v1 ≤ 4294967297 ∧ 0 ≤ u / v1 * v1 ∧ u / v1 * v1 ≤ 18446744073709551615 ∧ 0 ≤ u - u / v1 * v1 ∧ u - u / v1 * v1 < 4294967296 := by
  obtain ⟨i1, i2, i3, i4, i5⟩ := inv_start c
  obtain ⟨hD, c1, c2, c3, c4, c5, c6, c7, c8⟩ := c
  have h0 : 0 ≤ u / v1 := Int.ediv_nonneg c5 (by omega)
  have h1 : 0 ≤ u / v1 * v1 := Int.mul_nonneg h0 (by omega)
  exact ⟨h0, i2, h1, by omega, i3, i4⟩

theorem inv_dec {D v1 v0 u t q r : Int} (c : DCtx D v1 v0 u t) (i : DInv D v1 v0 u t q r)
    (h : 4294967296 ≤ q ∨ 4294967296 * r + t < q * v0) : (u * 4294967296 + t) / D ≤ q - 1 := by
  have hb := q_bd c
  have hq := q_mul_le c
  obtain ⟨hD, c1, c2, c3, c4, c5, c6, c7, c8⟩ := c
  obtain ⟨i1, i2, i3, i4, i5⟩ := i
  generalize (u * 4294967296 + t) / D = Q at *
  by_cases e : Q = q
  · subst e
    have h1 : Q * D = Q * v1 * 4294967296 + Q * v0 := by rw [hD, Int.mul_add, Int.mul_assoc]
    omega
  · omega

theorem inv_exit {D v1 v0 u t q r : Int} (c : DCtx D v1 v0 u t) (h1 : (u * 4294967296 + t) / D ≤ q) (h2 : q * v1 + r = u)
    (h : q * v0 ≤ 4294967296 * r + t) : (u * 4294967296 + t) / D = q := by
  obtain ⟨hD, c1, c2, c3, c4, c5, c6, c7, c8⟩ := c
  have h3 : q ≤ (u * 4294967296 + t) / D := by
    rw [Int.le_ediv_iff_mul_le (by omega)]
    have h4 : q * D = q * v1 * 4294967296 + q * v0 := by rw [hD, Int.mul_add, Int.mul_assoc]
    omega
  omega

theorem inv_exit2 {D v1 v0 u t q r : Int} (c : DCtx D v1 v0 u t) (i : DInv D v1 v0 u t q r)
    (h : 4294967296 ≤ q ∨ 4294967296 * r + t < q * v0) (hr : 4294967296 ≤ r + v1) : (u * 4294967296 + t) / D = q - 1 := by
  have hd := inv_dec c i h
  have hb := q_bd c
  obtain ⟨i1, i2, i3, i4, i5⟩ := i
  have h5 : (q - 1) * v1 + (r + v1) = u := by rw [Int.sub_mul]; omega
  refine inv_exit c hd h5 ?_
  obtain ⟨hD, c1, c2, c3, c4, c5, c6, c7, c8⟩ := c
  have h6 : (q - 1) * v0 ≤ 4294967296 * v0 := Int.mul_le_mul_of_nonneg_right (by omega) c3
  omega

theorem inv_next {D v1 v0 u t q r : Int} (c : DCtx D v1 v0 u t) (i : DInv D v1 v0 u t q r)
    (h : 4294967296 ≤ q ∨ 4294967296 * r + t < q * v0) (hr : r + v1 < 4294967296) : DInv D v1 v0 u t (q - 1) (r + v1) := by
  have hd := inv_dec c i h
  obtain ⟨i1, i2, i3, i4, i5⟩ := i
  obtain ⟨hD, c1, c2, c3, c4, c5, c6, c7, c8⟩ := c
  have h5 : (q - 1) * v1 + (r + v1) = u := by rw [Int.sub_mul]; omega
  exact ⟨hd, by omega, by omega, hr, h5⟩

/-- The product in the loop's test does not wrap. -/
theorem prod_bd {v0 q : Int} (h0 : 0 ≤ q) (h1 : q < 4294967296) (h2 : 0 ≤ v0) (h3 : v0 < 4294967296) : 0 ≤ q * v0 ∧ q * v0 ≤ 18446744073709551615 := by
  refine ⟨Int.mul_nonneg h0 h2, ?_⟩
  have h4 : q * v0 ≤ 4294967295 * 4294967295 := Int.mul_le_mul (by omega) (by omega) h2 (by omega)
  omega

/-- What is left over behind one digit: it is the remainder, in spite of the wraps. -/
theorem rem_wrap {D v1 v0 u t : Int} (c : DCtx D v1 v0 u t) :
    ((u * 4294967296 % 18446744073709551616 + t) % 18446744073709551616 - (u * 4294967296 + t) / D * D % 18446744073709551616) % 18446744073709551616 = (u * 4294967296 + t) % D := by
  obtain ⟨hD, c1, c2, c3, c4, c5, c6, c7, c8⟩ := c
  have he := Int.mul_ediv_add_emod (u * 4294967296 + t) D
  have hc : D * ((u * 4294967296 + t) / D) = (u * 4294967296 + t) / D * D := Int.mul_comm _ _
  have hm := Int.emod_nonneg (u * 4294967296 + t) (show D ≠ 0 by omega)
  have hl := Int.emod_lt_of_pos (u * 4294967296 + t) (show 0 < D by omega)
  generalize (u * 4294967296 + t) % D = R at *
  generalize (u * 4294967296 + t) / D * D = P at *
  omega

/-- The whole: two digits make the quotient; what is left, shifted back, the remainder. -/
theorem whole (X y k D u L t1 t0 : Int) (hk : 1 ≤ k) (hy : 1 ≤ y) (_hX : 0 ≤ X) (hD : D = y * k) (hU : X * k = u * 18446744073709551616 + L) (hL : L = t1 * 4294967296 + t0) :
    (u * 4294967296 + t1) / D * 4294967296 + ((u * 4294967296 + t1) % D * 4294967296 + t0) / D = X / y ∧ ((u * 4294967296 + t1) % D * 4294967296 + t0) % D / k = X % y := by
  have hD0 : 0 < D := by rw [hD]; exact Int.mul_pos (by omega) (by omega)
  have e1 := Int.mul_ediv_add_emod (u * 4294967296 + t1) D
  have e0 := Int.mul_ediv_add_emod ((u * 4294967296 + t1) % D * 4294967296 + t0) D
  have m0 := Int.emod_nonneg ((u * 4294967296 + t1) % D * 4294967296 + t0) (show D ≠ 0 by omega)
  have l0 := Int.emod_lt_of_pos ((u * 4294967296 + t1) % D * 4294967296 + t0) hD0
  generalize (u * 4294967296 + t1) / D = Q1 at *
  generalize (u * 4294967296 + t1) % D = R1 at *
  generalize hQ0 : (R1 * 4294967296 + t0) / D = Q0 at *
  generalize hR0 : (R1 * 4294967296 + t0) % D = R0 at *
  have hU2 : X * k = D * (Q1 * 4294967296 + Q0) + R0 := by
    rw [hU, hL, Int.mul_add, ← Int.mul_assoc]; omega
  have hq : X * k / D = Q1 * 4294967296 + Q0 := by
    rw [hU2, Int.mul_add_ediv_left _ _ (show D ≠ 0 by omega), Int.ediv_eq_zero_of_lt m0 l0]; omega
  have hr : X * k % D = R0 := by
    rw [hU2, Int.mul_add_emod_self_left, Int.emod_eq_of_lt m0 l0]
  rw [hD] at hq hr
  rw [Int.mul_ediv_mul_of_pos_left _ _ (show 0 < k by omega)] at hq
  rw [Int.mul_comm X k, Int.mul_comm y k, Int.mul_emod_mul_of_pos _ _ (show 0 < k by omega)] at hr
  refine ⟨hq.symm, ?_⟩
  rw [← hr, Int.mul_ediv_cancel_left _ (by omega)]

/-! ### The shift that makes the divisor's top bit 1 -/
theorem bitLen_spec (y : Nat) (h : 1 ≤ y) (hy : y < 18446744073709551616) : 1 ≤ Lib.bitLen y ∧ Lib.bitLen y ≤ 64 ∧ 2 ^ (Lib.bitLen y - 1) ≤ y ∧ y < 2 ^ Lib.bitLen y := by
  have hh := Lib.bitLen_half y (by omega) hy
  have hl := Lib.bitLen_le y 64 (by omega) hy
  refine ⟨by omega, hl, ?_, ?_⟩
  · refine Nat.le_of_not_lt fun hlt => ?_
    have := Lib.bitLen_le y (Lib.bitLen y - 1) (by omega) hlt
    omega
  · refine Nat.lt_of_not_le fun hle => ?_
    have hs := Lib.bitLen_shift (Lib.bitLen y) y hle hy
    have hd : 1 ≤ y / 2 ^ Lib.bitLen y := (Nat.le_div_iff_mul_le (Nat.two_pow_pos _)).2 (by omega)
    have h2 := Lib.bitLen_half (y / 2 ^ Lib.bitLen y) (by omega) (Nat.lt_of_le_of_lt (Nat.div_le_self _ _) hy)
    omega

theorem shift_bd (y : Int) (s : Nat) (h : 1 ≤ y) (hy : y ≤ 18446744073709551615) (hs : Lib.bitLen y.toNat + s = 64) :
    s ≤ 63 ∧ 9223372036854775808 ≤ y * 2 ^ s ∧ y * 2 ^ s ≤ 18446744073709551615 := by
  obtain ⟨n, rfl⟩ := Int.eq_ofNat_of_zero_le (show 0 ≤ y by omega)
  rw [Int.toNat_natCast] at hs
  obtain ⟨b1, b2, b3, b4⟩ := bitLen_spec n (by omega) (by omega)
  refine ⟨by omega, ?_, ?_⟩
  · have h3 : 2 ^ (Lib.bitLen n - 1) * 2 ^ s ≤ n * 2 ^ s := Nat.mul_le_mul_right _ b3
    rw [← Nat.pow_add, show Lib.bitLen n - 1 + s = 63 by omega] at h3
    have : ((2 ^ 63 : Nat) : Int) ≤ ((n * 2 ^ s : Nat) : Int) := by omega
    simpa using this
  · have h3 : n * 2 ^ s < 2 ^ Lib.bitLen n * 2 ^ s := Nat.mul_lt_mul_of_pos_right b4 (Nat.two_pow_pos _)
    rw [← Nat.pow_add, hs] at h3
    have : ((n * 2 ^ s : Nat) : Int) < ((2 ^ 64 : Nat) : Int) := by omega
    have h5 : (n : Int) * 2 ^ s < 18446744073709551616 := by simpa using this
    omega

/-- 'hi<<s | lo>>(64-s)' as a sum; 'lo<<s' as what is left. -/
theorem shift_split (hi lo : Nat) (s : Nat) (hs : s ≤ 63)  (hlo : lo < 18446744073709551616) :
    (hi * 2 ^ s) ||| (lo / 2 ^ (64 - s)) = hi * 2 ^ s + lo / 2 ^ (64 - s) ∧ lo / 2 ^ (64 - s) < 2 ^ s ∧
    (hi * 18446744073709551616 + lo) * 2 ^ s = (hi * 2 ^ s + lo / 2 ^ (64 - s)) * 18446744073709551616 + lo * 2 ^ s % 18446744073709551616 := by
  have hp : (2 : Nat) ^ (64 - s) * 2 ^ s = 18446744073709551616 := by rw [← Nat.pow_add, show 64 - s + s = 64 by omega]
  have hlt : lo / 2 ^ (64 - s) < 2 ^ s := by
    rw [Nat.div_lt_iff_lt_mul (Nat.two_pow_pos _), Nat.mul_comm, hp]; exact hlo
  refine ⟨?_, hlt, ?_⟩
  · rw [← Nat.shiftLeft_eq, Nat.shiftLeft_add_eq_or_of_lt hlt]
  · have e : lo * 2 ^ s / 18446744073709551616 = lo / 2 ^ (64 - s) := by
      rw [← hp, Nat.mul_div_mul_right _ _ (Nat.two_pow_pos _)]
    have d := Nat.div_add_mod (lo * 2 ^ s) 18446744073709551616
    rw [e] at d
    rw [Nat.add_mul, Nat.add_mul, Nat.mul_right_comm]
    omega
end Go.Proofs.Ybulkcpqi
