/-
  math/bits.Div64 over this program: the library's own text walked; the arithmetic: YbulkcpqiDivArith.
-/
import Derived.Test.YbulkcpqiBits
import Derived.Test.YbulkcpqiDivArith
import Derived.BigQuiet
import Derived.Deep.QuietTactic
import Derived.WalkSpells
namespace Go.Proofs.Ybulkcpqi
open Go.RowKit
set_option linter.unusedVariables false

theorem lz64_s (x : Int) (s : Nat) (w : World) (h0 : 0 ≤ x) (h1 : x ≤ 18446744073709551615) (hs : Lib.bitLen x.toNat + s = 64) :
    Calls Yba.prog 14 #[.int .u64 x] w fun e w' => e = .returned (.int .i64 s) ∧ w' = w := by
  have h := lz64_any x w h0 h1
  have e : (64 - (Lib.bitLen x.toNat : Int)) = s := by omega
  rw [e] at h
  exact h

/-- the high word is 0 -/
theorem div64_low (lo y : Int) (w : World) (hy : 1 ≤ y) (hy1 : y ≤ 18446744073709551615) (hl0 : 0 ≤ lo) (hl1 : lo ≤ 18446744073709551615)
    (a0 : 0 ≤ lo / y) (a1 : lo / y ≤ 18446744073709551615) (b0 : 0 ≤ lo % y) (b1 : lo % y ≤ 18446744073709551615) :
    Calls Yba.prog 12 #[.int .u64 0, .int .u64 lo, .int .u64 y] w fun e w' => e = .returned (.tuple #[.int .u64 (lo / y), .int .u64 (lo % y)]) ∧ ∃ n, w' = w.drewN n := by
  have hyn : decide (y ≤ 0) = false := by simp; omega
  go_enter Yba.func12, Yba.ntmps12
  go_wp2_with fail
  go_quiet (fail)
  go_wp2
  go_ret2
  exact ⟨rfl, _, rfl⟩

theorem dcases {D v1 v0 u t q r : Int} (c : DCtx D v1 v0 u t) (i : DInv D v1 v0 u t q r) :
    ((4294967296 ≤ q ∨ (q < 4294967296 ∧ 4294967296 * r + t < q * v0)) ∧ r + v1 < 4294967296 ∧ (u * 4294967296 + t) / D ≤ q - 1) ∨
    ((4294967296 ≤ q ∨ (q < 4294967296 ∧ 4294967296 * r + t < q * v0)) ∧ 4294967296 ≤ r + v1 ∧ q - 1 = (u * 4294967296 + t) / D) ∨
    (q < 4294967296 ∧ q * v0 ≤ 4294967296 * r + t ∧ (u * 4294967296 + t) / D = q) := by
  by_cases hd : 4294967296 ≤ q ∨ (q < 4294967296 ∧ 4294967296 * r + t < q * v0)
  · have hd' : 4294967296 ≤ q ∨ 4294967296 * r + t < q * v0 := hd.elim Or.inl fun x => Or.inr x.2
    by_cases hr : r + v1 < 4294967296
    · exact Or.inl ⟨hd, hr, inv_dec c i hd'⟩
    · exact Or.inr (Or.inl ⟨hd, by omega, (inv_exit2 c i hd' (by omega)).symm⟩)
  · have h1 : q < 4294967296 := by omega
    have h2 : q * v0 ≤ 4294967296 * r + t := by
      refine Int.not_lt.1 fun h => hd (Or.inr ⟨h1, h⟩)
    exact Or.inr (Or.inr ⟨h1, h2, inv_exit c i.1 i.2.2.2.2 h2⟩)

set_option maxHeartbeats 1000000 in
theorem div_core (hi lo y : Int) (s : Nat) (D v1 v0 u L t1 t0 q r Q1 R1 q' r' Q0 R0 : Int) (w : World) (h0 : 1 ≤ hi) (hy : hi < y) (hy1 : y ≤ 18446744073709551615) (hl0 : 0 ≤ lo) (hl1 : lo ≤ 18446744073709551615)
    (hs : Hid (Lib.bitLen y.toNat + s = 64)) (hs63 : s ≤ 63)
    (eD : IntKind.u64.wrap (y * 2 ^ s) = D) (e1 : D / 4294967296 = v1) (e0 : bits .and .u64 D 4294967295 = v0)
    (eu : bits .or .u64 (IntKind.u64.wrap (hi * 2 ^ s)) (lo / 2 ^ (64 - s)) = u) (eL : IntKind.u64.wrap (lo * 2 ^ s) = L)
    (et1 : L / 4294967296 = t1) (et0 : bits .and .u64 L 4294967295 = t0) (eq : u / v1 = q) (er : u - q * v1 = r)
    (bq : 0 ≤ q) (bq1 : q ≤ 4294967297) (bm : 0 ≤ q * v1) (bm1 : q * v1 ≤ 18446744073709551615) (bv : 1 ≤ v1) (bv1 : v1 < 4294967296) (bu : 0 ≤ u) (bu1 : u ≤ 18446744073709551615) (br : 0 ≤ r) (br1 : r < 4294967296)
    (bv0 : 0 ≤ v0) (bv01 : v0 < 4294967296) (bt1 : 0 ≤ t1) (bt11 : t1 < 4294967296) (bt0 : 0 ≤ t0) (bt01 : t0 < 4294967296)
    (c : DCtx D v1 v0 u t1) (hi1 : DInv D v1 v0 u t1 q r)
    (hQ1 : Hid ((u * 4294967296 + t1) / D = Q1)) (bQ1 : 0 ≤ Q1) (bQ11 : Q1 < 4294967296)
    (eR1 : IntKind.u64.wrap (IntKind.u64.wrap (IntKind.u64.wrap (u * 4294967296) + t1) - IntKind.u64.wrap (Q1 * D)) = R1)
    (bR1 : 0 ≤ R1) (bR11 : R1 ≤ 18446744073709551615) (eq' : R1 / v1 = q') (er' : R1 - q' * v1 = r')
    (bq' : 0 ≤ q') (bq1' : q' ≤ 4294967297) (bm' : 0 ≤ q' * v1) (bm1' : q' * v1 ≤ 18446744073709551615) (br' : 0 ≤ r') (br1' : r' < 4294967296)
    (c' : DCtx D v1 v0 R1 t0) (hi1' : DInv D v1 v0 R1 t0 q' r')
    (hQ0 : Hid ((R1 * 4294967296 + t0) / D = Q0)) (bQ0 : 0 ≤ Q0) (bQ01 : Q0 < 4294967296)
    (eR0 : IntKind.u64.wrap (IntKind.u64.wrap (IntKind.u64.wrap (R1 * 4294967296) + t0) - IntKind.u64.wrap (Q0 * D)) = R0) :
    Calls Yba.prog 12 #[.int .u64 hi, .int .u64 lo, .int .u64 y] w fun e w' => e = .returned (.tuple #[.int .u64 (Q1 * 4294967296 + Q0), .int .u64 (R0 / 2 ^ s)]) ∧ ∃ n, w' = w.drewN n := by
  have hyn : decide (y ≤ hi) = false := by simp; omega
  go_enter Yba.func12, Yba.ntmps12
  go_wp2_with (go_at_call 14; refine (lz64_s y s _ (by omega) (by omega) hs.out).mono ?_; rintro e w' ⟨rfl, rfl⟩)
  clear eD e1 e0 eu eL et1 et0
  go_loop [15, 16] (fun a b => ∃ q r : Int, a = .int .u64 q ∧ b = .int .u64 r ∧ DInv D v1 v0 u t1 q r) (fun a _ => (intOf a).toNat)
  case atStart => subst eq; exact ⟨_, _, rfl, rfl, hi1⟩
  case round =>
    clear bq bq1 bm bm1 br br1 hi1 eq er
    obtain ⟨q, r, rfl, rfl, hin⟩ := hrel
    have key := dcases c hin
    have hin2 := hin
    obtain ⟨i1, i2, i3, i4, i5⟩ := hin2
    rw [hQ1.out] at i1 key
    clear i5
    rcases key with ⟨hd, hr, hd1⟩ | ⟨hd, hr, hd1⟩ | ⟨hd, hr, hd1⟩
    · rcases hd with hd | ⟨hd, hd2⟩
      · go_wp2
        go_round
        case rel => exact ⟨_, _, rfl, rfl, inv_next c hin (Or.inl hd) hr⟩
        case measure => simp [intOf]; omega
      · have hp := prod_bd (by omega) hd bv0 bv01
        obtain ⟨hp1, hp2⟩ := hp
        go_wp2
        go_round
        case rel => exact ⟨_, _, rfl, rfl, inv_next c hin (Or.inr hd2) hr⟩
        case measure => simp [intOf]; omega
    · clear hin
      rcases hd with hd | ⟨hd, hd2⟩
      · go_wp2
        clear hd hr hd1 i1 i2 i3 i4 eR1 eq' er'
        go_loop [18, 16] (fun a b => ∃ q r : Int, a = .int .u64 q ∧ b = .int .u64 r ∧ DInv D v1 v0 R1 t0 q r) (fun a _ => (intOf a).toNat)
        case atStart => exact ⟨_, _, rfl, rfl, hi1'⟩
        case round =>
          clear bq' bq1' bm' bm1' br' br1' hi1'
          obtain ⟨q, r, rfl, rfl, hin⟩ := hrel
          have key := dcases c' hin
          have hin2 := hin
          obtain ⟨i1, i2, i3, i4, i5⟩ := hin2
          rw [hQ0.out] at i1 key
          clear i5
          rcases key with ⟨hd, hr, hd1⟩ | ⟨hd, hr, hd1⟩ | ⟨hd, hr, hd1⟩
          · rcases hd with hd | ⟨hd, hd2⟩
            · go_wp2
              go_round
              case rel => exact ⟨_, _, rfl, rfl, inv_next c' hin (Or.inl hd) hr⟩
              case measure => simp [intOf]; omega
            · have hp := prod_bd (by omega) hd bv0 bv01
              obtain ⟨hp1, hp2⟩ := hp
              go_wp2
              go_round
              case rel => exact ⟨_, _, rfl, rfl, inv_next c' hin (Or.inr hd2) hr⟩
              case measure => simp [intOf]; omega
          · clear hin
            rcases hd with hd | ⟨hd, hd2⟩
            · go_wp2
              go_ret2
              exact ⟨rfl, 0, rfl⟩
            · have hp := prod_bd (by omega) hd bv0 bv01
              obtain ⟨hp1, hp2⟩ := hp
              go_wp2
              go_ret2
              exact ⟨rfl, 0, rfl⟩
          · clear hin
            have hp := prod_bd (by omega) hd bv0 bv01
            obtain ⟨hp1, hp2⟩ := hp
            subst hd1
            go_wp2
            go_ret2
            exact ⟨rfl, 0, rfl⟩
      · have hp := prod_bd (by omega) hd bv0 bv01
        obtain ⟨hp1, hp2⟩ := hp
        go_wp2
        clear hd hd2 hr hd1 i1 i2 i3 i4 eR1 eq' er' hp1 hp2
        go_loop [18, 16] (fun a b => ∃ q r : Int, a = .int .u64 q ∧ b = .int .u64 r ∧ DInv D v1 v0 R1 t0 q r) (fun a _ => (intOf a).toNat)
        case atStart => exact ⟨_, _, rfl, rfl, hi1'⟩
        case round =>
          clear bq' bq1' bm' bm1' br' br1' hi1'
          obtain ⟨q, r, rfl, rfl, hin⟩ := hrel
          have key := dcases c' hin
          have hin2 := hin
          obtain ⟨i1, i2, i3, i4, i5⟩ := hin2
          rw [hQ0.out] at i1 key
          clear i5
          rcases key with ⟨hd, hr, hd1⟩ | ⟨hd, hr, hd1⟩ | ⟨hd, hr, hd1⟩
          · rcases hd with hd | ⟨hd, hd2⟩
            · go_wp2
              go_round
              case rel => exact ⟨_, _, rfl, rfl, inv_next c' hin (Or.inl hd) hr⟩
              case measure => simp [intOf]; omega
            · have hp := prod_bd (by omega) hd bv0 bv01
              obtain ⟨hp1, hp2⟩ := hp
              go_wp2
              go_round
              case rel => exact ⟨_, _, rfl, rfl, inv_next c' hin (Or.inr hd2) hr⟩
              case measure => simp [intOf]; omega
          · clear hin
            rcases hd with hd | ⟨hd, hd2⟩
            · go_wp2
              go_ret2
              exact ⟨rfl, 0, rfl⟩
            · have hp := prod_bd (by omega) hd bv0 bv01
              obtain ⟨hp1, hp2⟩ := hp
              go_wp2
              go_ret2
              exact ⟨rfl, 0, rfl⟩
          · clear hin
            have hp := prod_bd (by omega) hd bv0 bv01
            obtain ⟨hp1, hp2⟩ := hp
            subst hd1
            go_wp2
            go_ret2
            exact ⟨rfl, 0, rfl⟩
    · clear hin
      have hp := prod_bd (by omega) hd bv0 bv01
      obtain ⟨hp1, hp2⟩ := hp
      subst hd1
      go_wp2
      clear hd hr i1 i2 i3 i4 eR1 eq' er' hp1 hp2
      go_loop [18, 16] (fun a b => ∃ q r : Int, a = .int .u64 q ∧ b = .int .u64 r ∧ DInv D v1 v0 R1 t0 q r) (fun a _ => (intOf a).toNat)
      case atStart => exact ⟨_, _, rfl, rfl, hi1'⟩
      case round =>
        clear bq' bq1' bm' bm1' br' br1' hi1'
        obtain ⟨q, r, rfl, rfl, hin⟩ := hrel
        have key := dcases c' hin
        have hin2 := hin
        obtain ⟨i1, i2, i3, i4, i5⟩ := hin2
        rw [hQ0.out] at i1 key
        clear i5
        rcases key with ⟨hd, hr, hd1⟩ | ⟨hd, hr, hd1⟩ | ⟨hd, hr, hd1⟩
        · rcases hd with hd | ⟨hd, hd2⟩
          · go_wp2
            go_round
            case rel => exact ⟨_, _, rfl, rfl, inv_next c' hin (Or.inl hd) hr⟩
            case measure => simp [intOf]; omega
          · have hp := prod_bd (by omega) hd bv0 bv01
            obtain ⟨hp1, hp2⟩ := hp
            go_wp2
            go_round
            case rel => exact ⟨_, _, rfl, rfl, inv_next c' hin (Or.inr hd2) hr⟩
            case measure => simp [intOf]; omega
        · clear hin
          rcases hd with hd | ⟨hd, hd2⟩
          · go_wp2
            go_ret2
            exact ⟨rfl, 0, rfl⟩
          · have hp := prod_bd (by omega) hd bv0 bv01
            obtain ⟨hp1, hp2⟩ := hp
            go_wp2
            go_ret2
            exact ⟨rfl, 0, rfl⟩
        · clear hin
          have hp := prod_bd (by omega) hd bv0 bv01
          obtain ⟨hp1, hp2⟩ := hp
          subst hd1
          go_wp2
          go_ret2
          exact ⟨rfl, 0, rfl⟩
end Go.Proofs.Ybulkcpqi
