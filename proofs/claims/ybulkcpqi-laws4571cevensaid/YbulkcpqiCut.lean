/-
  mariposa.cut over this program: the ceiling of length*i/parts.
-/
import Derived.Test.YbulkcpqiDivAny
import Derived.RowKit3
namespace Go.Proofs.Ybulkcpqi
open Go.RowKit
set_option linter.unusedVariables false

/-- ⌈L*i/p⌉ -/
def cutN (L i p : Int) : Int := (L * i + p - 1) / p

theorem mul64_n (x y H Lo : Int) (hx0 : 0 ≤ x) (hx : x ≤ 18446744073709551615) (hy0 : 0 ≤ y) (hy : y ≤ 18446744073709551615) (hH : x * y / 18446744073709551616 = H) (hL : x * y % 18446744073709551616 = Lo) (w : World) :
    Calls Yba.prog 8 #[.int .u64 x, .int .u64 y] w fun e w' => e = .returned (.tuple #[.int .u64 H, .int .u64 Lo]) ∧ w' = w := by
  subst hH hL
  exact mul64_any x y hx0 hx hy0 hy w

theorem div64_n (hi lo y Q R : Int) (w : World) (h0 : 0 ≤ hi) (hy : hi < y) (hy1 : y ≤ 18446744073709551615) (hl0 : 0 ≤ lo) (hl1 : lo ≤ 18446744073709551615)
    (hQ : (hi * 18446744073709551616 + lo) / y = Q) (hR : (hi * 18446744073709551616 + lo) % y = R) :
    Calls Yba.prog 12 #[.int .u64 hi, .int .u64 lo, .int .u64 y] w fun e w' => e = .returned (.tuple #[.int .u64 Q, .int .u64 R]) ∧ ∃ n, w' = w.drewN n := by
  subst hQ hR
  exact div64_any hi lo y w h0 hy hy1 hl0 hl1

theorem cutN_cases (L i p : Int) (hp : 1 ≤ p) : (L * i % p = 0 → cutN L i p = L * i / p) ∧ (L * i % p ≠ 0 → cutN L i p = L * i / p + 1) := by
  unfold cutN
  have e := Int.mul_ediv_add_emod (L * i) p
  have m0 := Int.emod_nonneg (L * i) (show p ≠ 0 by omega)
  have m1 := Int.emod_lt_of_pos (L * i) (show 0 < p by omega)
  generalize (L * i) % p = m at *
  generalize (L * i) / p = q at *
  have hp0 : p ≠ 0 := by omega
  constructor
  · intro h
    rw [show L * i + p - 1 = p * q + (p - 1) by omega, Int.mul_add_ediv_left _ _ hp0, Int.ediv_eq_zero_of_lt (by omega) (by omega)]
    omega
  · intro h
    rw [show L * i + p - 1 = p * q + (p + (m - 1)) by omega, Int.mul_add_ediv_left _ _ hp0]
    rw [show p + (m - 1) = p * 1 + (m - 1) by omega, Int.mul_add_ediv_left _ _ hp0, Int.ediv_eq_zero_of_lt (by omega) (by omega)]
    omega

theorem cutN_bd (L i p : Int) (hL : 0 ≤ L) (hi : 0 ≤ i) (hip : i ≤ p) (hp : 1 ≤ p) : 0 ≤ cutN L i p ∧ cutN L i p ≤ L := by
  unfold cutN
  have h1 : 0 ≤ L * i := Int.mul_nonneg hL hi
  have h2 : L * i ≤ L * p := Int.mul_le_mul_of_nonneg_left hip hL
  refine ⟨Int.ediv_nonneg (by omega) (by omega), ?_⟩
  have h3 : (L * i + p - 1) / p < L + 1 := by
    rw [Int.ediv_lt_iff_lt_mul (by omega), Int.add_mul]
    omega
  omega

theorem cut_walk (L i p H Lo Q R : Int) (w : World) (hL0 : 0 ≤ L) (hL : L ≤ 18446744073709551615) (hi : 0 ≤ i) (hip : i ≤ p) (hp : 1 ≤ p) (hp1 : p ≤ 9223372036854775807)
    (hH : Hid (L * i / 18446744073709551616 = H)) (hLo : Hid (L * i % 18446744073709551616 = Lo)) (hQ : Hid ((H * 18446744073709551616 + Lo) / p = Q)) (hR : Hid ((H * 18446744073709551616 + Lo) % p = R))
    (H0 : 0 ≤ H) (H1 : H < p) (L0 : 0 ≤ Lo) (L1 : Lo ≤ 18446744073709551615) (Q0 : 0 ≤ Q) (Q1 : (R = 0 → Q ≤ 18446744073709551615)) (Q2 : (R ≠ 0 → Q + 1 ≤ 18446744073709551615)) :
    Calls Yba.prog 7 #[.int .u64 L, .int .i64 i, .int .i64 p] w fun e w' => e = .returned (.int .u64 (if R = 0 then Q else Q + 1)) ∧ ∃ n, w' = w.drewN n := by
  by_cases hz : R = 0
  · subst hz
    have Q1 := Q1 rfl
    clear Q2
    go_enter Yba.func7, Yba.ntmps7
    go_wp2_with (first | (go_at_call 8; refine (mul64_n L i H Lo hL0 hL hi (by omega) hH.out hLo.out _).mono ?_; rintro e w' ⟨rfl, rfl⟩) | (go_at_call 12; refine (div64_n H Lo p Q 0 _ H0 H1 (by omega) L0 L1 hQ.out hR.out).mono ?_; rintro e w' ⟨rfl, n, rfl⟩))
    go_ret
    exact ⟨rfl, _, rfl⟩
  · have Q2 := Q2 hz
    clear Q1
    have hb : (R != 0) = true := by rw [bne_iff_ne]; exact hz
    go_enter Yba.func7, Yba.ntmps7
    go_wp2_with (first | (go_at_call 8; refine (mul64_n L i H Lo hL0 hL hi (by omega) hH.out hLo.out _).mono ?_; rintro e w' ⟨rfl, rfl⟩) | (go_at_call 12; refine (div64_n H Lo p Q R _ H0 H1 (by omega) L0 L1 hQ.out hR.out).mono ?_; rintro e w' ⟨rfl, n, rfl⟩))
    go_ret
    exact ⟨rfl, _, rfl⟩

/-- MARIPOSA.CUT: ⌈L*i/p⌉, for i from 0 to p. -/
theorem cut_any (L i p : Int) (w : World) (hL0 : 0 ≤ L) (hL : L ≤ 18446744073709551615) (hi : 0 ≤ i) (hip : i ≤ p) (hp : 1 ≤ p) (hp1 : p ≤ 9223372036854775807) :
    Calls Yba.prog 7 #[.int .u64 L, .int .i64 i, .int .i64 p] w fun e w' => e = .returned (.int .u64 (cutN L i p)) ∧ ∃ n, w' = w.drewN n := by
  have h1 : 0 ≤ L * i := Int.mul_nonneg hL0 hi
  have h2 : L * i ≤ L * p := Int.mul_le_mul_of_nonneg_left hip hL0
  have h3 : L * p ≤ 18446744073709551615 * p := Int.mul_le_mul_of_nonneg_right hL (by omega)
  have hc := cutN_cases L i p hp
  have hb := cutN_bd L i p hL0 hi hip hp
  have q0 : 0 ≤ L * i / p := Int.ediv_nonneg h1 (by omega)
  have hX : L * i / 18446744073709551616 * 18446744073709551616 + L * i % 18446744073709551616 = L * i := by omega
  have h := cut_walk L i p (L * i / 18446744073709551616) (L * i % 18446744073709551616) (L * i / p) (L * i % p) w hL0 hL hi hip hp hp1 rfl rfl (by show _ = _; rw [hX]) (by show _ = _; rw [hX])
    (by omega) (by omega) (by omega) (by omega) q0 (fun hz => by have := hc.1 hz; omega) (fun hz => by have := hc.2 hz; omega)
  have e : (if L * i % p = 0 then L * i / p else L * i / p + 1) = cutN L i p := by
    by_cases hz : L * i % p = 0
    · rw [if_pos hz, hc.1 hz]
    · rw [if_neg hz, hc.2 hz]
  rw [e] at h
  exact h

theorem cut_n (L i p c : Int) (w : World) (hL0 : 0 ≤ L) (hL : L ≤ 18446744073709551615) (hi : 0 ≤ i) (hip : i ≤ p) (hp : 1 ≤ p) (hp1 : p ≤ 9223372036854775807) (hc : cutN L i p = c) :
    Calls Yba.prog 7 #[.int .u64 L, .int .i64 i, .int .i64 p] w fun e w' => e = .returned (.int .u64 c) ∧ ∃ n, w' = w.drewN n := by
  subst hc
  exact cut_any L i p w hL0 hL hi hip hp hp1

theorem grown_drewN {W w : World} (h : Grown W w) (n : Nat) : Grown W (w.drewN n) := h

/-! ### Plain laws -/
theorem cutN_zero (L p : Int) (hp : 1 ≤ p) : cutN L 0 p = 0 := by
  unfold cutN
  rw [Int.mul_zero]
  exact Int.ediv_eq_zero_of_lt (by omega) (by omega)

theorem cutN_full (L p : Int) (hp : 1 ≤ p) : cutN L p p = L := by
  unfold cutN
  rw [show L * p + p - 1 = p * L + (p - 1) by rw [Int.mul_comm]; omega, Int.mul_add_ediv_left _ _ (by omega), Int.ediv_eq_zero_of_lt (by omega) (by omega)]
  omega

theorem cutN_step (L j p : Int) (hp : 1 ≤ p) (hL : 0 ≤ L) :
    (L % p = 0 → cutN L j p - cutN L (j - 1) p = L / p) ∧ (L % p ≠ 0 → cutN L j p - cutN L (j - 1) p = L / p ∨ cutN L j p - cutN L (j - 1) p = L / p + 1) := by
  unfold cutN
  have e := Int.mul_ediv_add_emod L p
  have m0 := Int.emod_nonneg L (show p ≠ 0 by omega)
  have m1 := Int.emod_lt_of_pos L (show 0 < p by omega)
  have ej : L * j = L * (j - 1) + L := by rw [Int.mul_sub]; omega
  rw [ej]
  generalize L * (j - 1) = A at *
  have e2 := Int.mul_ediv_add_emod (A + p - 1) p
  have n0 := Int.emod_nonneg (A + p - 1) (show p ≠ 0 by omega)
  have n1 := Int.emod_lt_of_pos (A + p - 1) (show 0 < p by omega)
  generalize (A + p - 1) / p = c at *
  generalize (A + p - 1) % p = a at *
  generalize L / p = f at *
  generalize L % p = m at *
  have hp0 : p ≠ 0 := by omega
  have hk : A + L + p - 1 = p * (c + f) + (a + m) := by rw [Int.mul_add]; omega
  rw [hk, Int.mul_add_ediv_left _ _ hp0]
  by_cases h : a + m < p
  · rw [Int.ediv_eq_zero_of_lt (by omega) h]
    constructor
    · intro; omega
    · intro; omega
  · have h2 : (a + m) / p = 1 := by
      rw [show a + m = p * 1 + (a + m - p) by omega, Int.mul_add_ediv_left _ _ hp0, Int.ediv_eq_zero_of_lt (by omega) (by omega)]
      rfl
    rw [h2]
    constructor
    · intro; omega
    · intro; omega
end Go.Proofs.Ybulkcpqi
