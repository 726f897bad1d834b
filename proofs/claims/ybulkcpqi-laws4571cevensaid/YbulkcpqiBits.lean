/-
  THE LIBRARY's math/bits on the seat's roads: Mul64, Len64, LeadingZeros64: contracts over this program.
-/
import Derived.Test.YbulkcpqiProg
import Derived.WalkKit
import Derived.Lib.Mul64
import Derived.Laws.Bits64b
import Derived.Test.YbulkcpqiLen
namespace Go.Proofs.Ybulkcpqi
open Go.RowKit Go.Lib

namespace M64
theorem maskN (a : Nat) (ha : a < 18446744073709551616) : bits .and .u64 (a : Int) 4294967295 = ((a % 4294967296 : Nat) : Int) := by
  have h := bits_and_u64_nat a 4294967295 ha (by omega)
  have e : a &&& 4294967295 = a % 4294967296 := Nat.and_two_pow_sub_one_eq_mod a 32
  rw [e] at h
  exact h
theorem divN (a : Nat) : (a : Int) / 4294967296 = ((a / 4294967296 : Nat) : Int) := by omega
theorem mulN (a b : Nat) : (a : Int) * (b : Int) = ((a * b : Nat) : Int) := (Int.natCast_mul a b).symm
theorem addN (a b : Nat) : (a : Int) + (b : Int) = ((a + b : Nat) : Int) := (Int.natCast_add a b).symm
theorem wrapN (a : Nat) (ha : a < 18446744073709551616) : IntKind.u64.wrap (a : Int) = (a : Int) := by rw [IntKind.wrap_u64]; omega
theorem wrapM (a : Nat) : IntKind.u64.wrap (a : Int) = ((a % 18446744073709551616 : Nat) : Int) := by rw [IntKind.wrap_u64]; omega
end M64

set_option maxHeartbeats 1000000 in
theorem mul64_nat (x y : Nat) (hx : x < 18446744073709551616) (hy : y < 18446744073709551616) (w : World) :
    Calls Yba.prog 8 #[.int .u64 x, .int .u64 y] w fun e w' => e = .returned (.tuple #[.int .u64 ((x * y / 18446744073709551616 : Nat) : Int), .int .u64 ((x * y % 18446744073709551616 : Nat) : Int)]) ∧ w' = w := by
  obtain ⟨bd, bt, bw, hhi⟩ := Lib.mul64_hi x y hx hy
  have ba := Lib.half_mul_le (a := x / 4294967296) (b := y / 4294967296) (by omega) (by omega)
  have bb := Lib.half_mul_le (a := x / 4294967296) (b := y % 4294967296) (by omega) (by omega)
  have bc := Lib.half_mul_le (a := x % 4294967296) (b := y / 4294967296) (by omega) (by omega)
  have ba' : x / 4294967296 * (y / 4294967296) < 18446744073709551616 := by omega
  have bb' : x / 4294967296 * (y % 4294967296) < 18446744073709551616 := by omega
  have bc' : x % 4294967296 * (y / 4294967296) < 18446744073709551616 := by omega
  have bh1 : x / 4294967296 * (y / 4294967296) + (x / 4294967296 * (y % 4294967296) + x % 4294967296 * (y % 4294967296) / 4294967296) / 4294967296 < 18446744073709551616 := by omega
  have bh : x / 4294967296 * (y / 4294967296) + (x / 4294967296 * (y % 4294967296) + x % 4294967296 * (y % 4294967296) / 4294967296) / 4294967296 + ((x / 4294967296 * (y % 4294967296) + x % 4294967296 * (y % 4294967296) / 4294967296) % 4294967296 + x % 4294967296 * (y / 4294967296)) / 4294967296 < 18446744073709551616 := by omega
  go_enter Yba.func8, Yba.ntmps8
  go_wp2
  simp only [M64.maskN x hx, M64.maskN y hy, M64.divN, M64.mulN, M64.addN, M64.wrapN _ bd, M64.wrapN _ bb', M64.wrapN _ bt, M64.maskN _ bt, M64.wrapN _ bc', M64.wrapN _ bw, M64.wrapN _ ba', M64.wrapN _ bh1, M64.wrapN _ bh, M64.wrapM (x * y)]
  rw [hhi]
  go_ret2
  exact ⟨rfl, rfl⟩

/-- Mul64, its arguments as plain Ints. -/
theorem mul64_any (x y : Int) (hx0 : 0 ≤ x) (hx : x ≤ 18446744073709551615) (hy0 : 0 ≤ y) (hy : y ≤ 18446744073709551615) (w : World) :
    Calls Yba.prog 8 #[.int .u64 x, .int .u64 y] w fun e w' => e = .returned (.tuple #[.int .u64 (x * y / 18446744073709551616), .int .u64 (x * y % 18446744073709551616)]) ∧ w' = w := by
  obtain ⟨x, rfl⟩ := Int.eq_ofNat_of_zero_le hx0
  obtain ⟨y, rfl⟩ := Int.eq_ofNat_of_zero_le hy0
  have h := mul64_nat x y (by omega) (by omega) w
  have e1 : ((x * y / 18446744073709551616 : Nat) : Int) = (x : Int) * (y : Int) / 18446744073709551616 := by
    rw [Int.natCast_ediv, Int.natCast_mul]; rfl
  have e2 : ((x * y % 18446744073709551616 : Nat) : Int) = (x : Int) * (y : Int) % 18446744073709551616 := by
    rw [Int.natCast_emod, Int.natCast_mul]; rfl
  rw [e1, e2] at h
  exact h

theorem bitLen_le64 (x : Int) (h0 : 0 ≤ x) (h1 : x ≤ 18446744073709551615) : Lib.bitLen x.toNat ≤ 64 := Lib.bitLen_le x.toNat 64 (by omega) (by omega)

theorem lz64_any (x : Int) (w : World) (h0 : 0 ≤ x) (h1 : x ≤ 18446744073709551615) :
    Calls Yba.prog 14 #[.int .u64 x] w fun e w' => e = .returned (.int .i64 (64 - (Lib.bitLen x.toNat : Int))) ∧ w' = w := by
  have l := bitLen_le64 x h0 h1
  go_enter Yba.func14, Yba.ntmps14
  go_wp2_with (go_at_call 17; refine (len64_any x _ h0 h1).mono ?_; rintro e w' ⟨rfl, rfl⟩)
  go_ret
  exact ⟨rfl, rfl⟩
end Go.Proofs.Ybulkcpqi
