/-
  math/bits.Div64 over this program, whole: the walk of YbulkcpqiDiv met with the arithmetic.
-/
import Derived.Test.YbulkcpqiDiv
namespace Go.Proofs.Ybulkcpqi
open Go.RowKit

/-- MATH/BITS.DIV64, WHERE THE QUOTIENT FITS (hi < y): the quotient and the remainder of hi:lo by y. It may draw; it writes nothing. -/
theorem div64_any (hi lo y : Int) (w : World) (h0 : 0 ≤ hi) (hy : hi < y) (hy1 : y ≤ 18446744073709551615) (hl0 : 0 ≤ lo) (hl1 : lo ≤ 18446744073709551615) :
    Calls Yba.prog 12 #[.int .u64 hi, .int .u64 lo, .int .u64 y] w fun e w' =>
      e = .returned (.tuple #[.int .u64 ((hi * 18446744073709551616 + lo) / y), .int .u64 ((hi * 18446744073709551616 + lo) % y)]) ∧ ∃ n, w' = w.drewN n := by
  by_cases hz : hi = 0
  · subst hz
    have m0 := Int.emod_nonneg lo (show y ≠ 0 by omega)
    have m1 := Int.emod_lt_of_pos lo (show 0 < y by omega)
    have d0 := Int.ediv_nonneg hl0 (show 0 ≤ y by omega)
    have d1 := Int.ediv_le_self y hl0
    have h := div64_low lo y w (by omega) hy1 hl0 hl1 d0 (by omega) m0 (by omega)
    rw [show (0 : Int) * 18446744073709551616 + lo = lo by omega]
    exact h
  · obtain ⟨s, hs⟩ : ∃ s : Nat, Lib.bitLen y.toNat + s = 64 := ⟨64 - Lib.bitLen y.toNat, by have := bitLen_le64 y (by omega) hy1; omega⟩
    obtain ⟨s63, D63, D64⟩ := shift_bd y s (by omega) hy1 hs
    have hk : (1 : Int) ≤ 2 ^ s := by
      have := Nat.one_le_two_pow (n := s)
      have h2 : ((1 : Nat) : Int) ≤ ((2 ^ s : Nat) : Int) := by omega
      simpa using h2
    have eD : IntKind.u64.wrap (y * 2 ^ s) = y * 2 ^ s := by rw [IntKind.wrap_u64]; omega
    obtain ⟨D, hD⟩ : ∃ D, D = y * 2 ^ s := ⟨_, rfl⟩
    rw [← hD] at eD D63 D64
    obtain ⟨hin, rfl⟩ := Int.eq_ofNat_of_zero_le h0
    obtain ⟨lon, rfl⟩ := Int.eq_ofNat_of_zero_le hl0
    have hmul : (hin : Int) * 2 ^ s + 2 ^ s ≤ D := by
      have h1 : ((hin : Int) + 1) * 2 ^ s ≤ y * 2 ^ s := Int.mul_le_mul_of_nonneg_right (by omega) (by omega)
      rw [Int.add_mul] at h1
      omega
    obtain ⟨sp1, sp2, sp3⟩ := shift_split hin lon s s63 (by omega)
    have hcast : ((hin * 2 ^ s : Nat) : Int) = (hin : Int) * 2 ^ s := by simp
    have hcast2 : ((lon / 2 ^ (64 - s) : Nat) : Int) = (lon : Int) / 2 ^ (64 - s) := by simp
    have hcast3 : ((lon * 2 ^ s : Nat) : Int) = (lon : Int) * 2 ^ s := by simp
    have hcast4 : ((2 ^ s : Nat) : Int) = 2 ^ s := by simp
    have hlt : (hin * 2 ^ s : Nat) < 18446744073709551616 := by omega
    have hlt2 : (lon / 2 ^ (64 - s) : Nat) < 18446744073709551616 := Nat.lt_of_le_of_lt (Nat.div_le_self _ _) (by omega)
    have eu : bits .or .u64 (IntKind.u64.wrap ((hin : Int) * 2 ^ s)) ((lon : Int) / 2 ^ (64 - s)) = ((hin * 2 ^ s + lon / 2 ^ (64 - s) : Nat) : Int) := by
      rw [← hcast, ← hcast2, M64.wrapN _ hlt, bits_or_u64_nat _ _ hlt hlt2, sp1]
    have eL : IntKind.u64.wrap ((lon : Int) * 2 ^ s) = ((lon * 2 ^ s % 18446744073709551616 : Nat) : Int) := by
      rw [← hcast3, M64.wrapM]
    have hUu : ((hin : Int) * 18446744073709551616 + lon) * 2 ^ s = ((hin * 2 ^ s + lon / 2 ^ (64 - s) : Nat) : Int) * 18446744073709551616 + ((lon * 2 ^ s % 18446744073709551616 : Nat) : Int) := by
      have h := congrArg (fun n : Nat => (n : Int)) sp3
      simp only [Int.natCast_mul, Int.natCast_add] at h
      rw [hcast4] at h
      have hc5 : ((18446744073709551616 : Nat) : Int) = 18446744073709551616 := rfl
      rw [hc5] at h
      rw [Int.natCast_add, Int.natCast_mul, hcast4]
      exact h
    have hu0 : (hin * 2 ^ s + lon / 2 ^ (64 - s) : Nat) < D := by omega
    generalize (hin * 2 ^ s + lon / 2 ^ (64 - s) : Nat) = un at *
    have hLlt : lon * 2 ^ s % 18446744073709551616 < 18446744073709551616 := Nat.mod_lt _ (by omega)
    generalize (lon * 2 ^ s % 18446744073709551616 : Nat) = Ln at *
    obtain ⟨Dn, rfl⟩ := Int.eq_ofNat_of_zero_le (show 0 ≤ D by omega)
    have hh1 : (1 : Int) ≤ hin := by omega
    have hX0 : (0 : Int) ≤ (hin : Int) * 18446744073709551616 + lon := by omega
    have hy0 : 1 ≤ y := by omega
    clear sp1 sp2 sp3 hcast hcast2 hcast3 hcast4 hlt hlt2 hmul
    have d1 : (1 : Int) ≤ (Dn : Int) / 4294967296 := by omega
    have d2 : (Dn : Int) / 4294967296 < 4294967296 := by omega
    have d3 : (0 : Int) ≤ un := by omega
    have d4 : (un : Int) ≤ 18446744073709551615 := by omega
    have d5 : (0 : Int) ≤ ((Dn % 4294967296 : Nat) : Int) := by omega
    have d6 : ((Dn % 4294967296 : Nat) : Int) < 4294967296 := by omega
    have d7 : (0 : Int) ≤ (Ln : Int) / 4294967296 := by omega
    have d8 : (Ln : Int) / 4294967296 < 4294967296 := by omega
    have d9 : (0 : Int) ≤ ((Ln % 4294967296 : Nat) : Int) := by omega
    have d10 : ((Ln % 4294967296 : Nat) : Int) < 4294967296 := by omega
    have hDn : (Dn : Int) = (Dn : Int) / 4294967296 * 4294967296 + ((Dn % 4294967296 : Nat) : Int) := by omega
    have hLn : (Ln : Int) = (Ln : Int) / 4294967296 * 4294967296 + ((Ln % 4294967296 : Nat) : Int) := by omega
    have hv1 : (2147483648 : Int) ≤ (Dn : Int) / 4294967296 := by omega
    have hDlt : Dn < 18446744073709551616 := by omega
    have hDne : (Dn : Int) ≠ 0 := by omega
    have hDpos : (0 : Int) < Dn := by omega
    have eD2 : IntKind.u64.wrap (y * 2 ^ s) = Dn := by rw [← hD, eD]
    have m1 := M64.maskN Dn hDlt
    have m2 := M64.maskN Ln hLlt
    have wh := fun h => whole ((hin : Int) * 18446744073709551616 + lon) y (2 ^ s) Dn un Ln ((Ln : Int) / 4294967296) ((Ln % 4294967296 : Nat) : Int) hk hy0 hX0 hD hUu h
    have wh := wh hLn
    rw [← wh.1, ← wh.2]
    clear wh
    generalize ((Dn % 4294967296 : Nat) : Int) = v0 at *
    generalize ((Ln % 4294967296 : Nat) : Int) = t0 at *
    generalize ev1 : (Dn : Int) / 4294967296 = v1 at *
    generalize et1 : (Ln : Int) / 4294967296 = t1 at *
    have c : DCtx (Dn : Int) v1 v0 (un : Int) t1 := ⟨hDn, hv1, d2, d5, d6, d3, hu0, d7, d8⟩
    have b1 := q_bd c
    have R1b := Int.emod_nonneg ((un : Int) * 4294967296 + t1) hDne
    have R1l := Int.emod_lt_of_pos ((un : Int) * 4294967296 + t1) hDpos
    have R1m : ((un : Int) * 4294967296 + t1) % (Dn : Int) ≤ 18446744073709551615 := Int.le_trans (Int.le_of_lt R1l) D64
    have c' : DCtx (Dn : Int) v1 v0 (((un : Int) * 4294967296 + t1) % (Dn : Int)) t0 := ⟨hDn, hv1, d2, d5, d6, R1b, R1l, d9, d10⟩
    have b0 := q_bd c'
    obtain ⟨z1, z2, z3, z4, z5, z6⟩ := start_bd c d4
    obtain ⟨y1, y2, y3, y4, y5, y6⟩ := start_bd c' R1m
    have eR1 : IntKind.u64.wrap (IntKind.u64.wrap (IntKind.u64.wrap ((un : Int) * 4294967296) + t1) - IntKind.u64.wrap (((un : Int) * 4294967296 + t1) / Dn * Dn)) = ((un : Int) * 4294967296 + t1) % Dn := by
      simp only [IntKind.wrap_u64]; exact rem_wrap c
    have eR0 : IntKind.u64.wrap (IntKind.u64.wrap (IntKind.u64.wrap (((un : Int) * 4294967296 + t1) % Dn * 4294967296) + t0) - IntKind.u64.wrap ((((un : Int) * 4294967296 + t1) % Dn * 4294967296 + t0) / Dn * Dn)) = (((un : Int) * 4294967296 + t1) % Dn * 4294967296 + t0) % Dn := by
      simp only [IntKind.wrap_u64]; exact rem_wrap c'
    exact div_core (hin : Int) lon y s Dn v1 v0 un Ln t1 t0 _ _ _ _ _ _ _ _ w hh1 hy hy1 hl0 hl1 hs s63 eD2 ev1 m1 eu eL et1 m2 rfl rfl
      z1 z2 z3 z4 d1 d2 d3 d4 z5 z6 d5 d6 d7 d8 d9 d10 c (inv_start c) rfl b1.1 b1.2
      eR1 R1b R1m rfl rfl y1 y2 y3 y4 y5 y6 c' (inv_start c') rfl b0.1 b0.2 eR0
end Go.Proofs.Ybulkcpqi
