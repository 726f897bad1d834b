/-
  LawS4574CSince: newFeed, since, the walk.
-/
import Derived.Test.YbulkcprySt
import Derived.BigQuiet
import Derived.BigRegion
import Derived.Deep.QuietTactic
import Derived.Outline
namespace Go.Proofs.Ybulkcpry.lawS4574CSince
open Go.RowKit
set_option linter.unusedVariables false

theorem since_lt (w : World) (fb : Nat) (d : Int) (d0 : 0 ≤ d) (d1 : d ≤ 65535) (g n p ec : Nat) (ch : Nat) (c0 : w.cell? ⟨fb, 0, none⟩ = some (.slice (some ⟨g, 0, none⟩) n ec)) (c1 : w.cell? ⟨fb, 1, none⟩ = some (.int .i64 d)) (c2 : w.cell? ⟨fb, 2, none⟩ = some (.chan (some ch)))
    (hp : p < n) (hn : n ≤ 2048) (hnc : n ≤ ec) :
    Calls Yba.prog 9 #[.pointer (some ⟨fb, 0, none⟩), .int .i64 (d + p)] w fun e w' => e = .returned (.tuple #[.slice (some ⟨g, p, none⟩) (n - p) (n - p), .chan (some ch)]) ∧ ∃ m, w' = w.drewN m := by
  have e1 : d + (p : Int) - d = p := by omega
  go_enter Yba.func9, Yba.ntmps9
  go_wp2
  go_quiet (fail)
  go_wp2
  go_ret2
  exact ⟨rfl, _, rfl⟩

theorem since_eq (w : World) (fb : Nat) (d : Int) (d0 : 0 ≤ d) (d1 : d ≤ 65535) (g n ec : Nat) (ch : Nat) (c0 : w.cell? ⟨fb, 0, none⟩ = some (.slice (some ⟨g, 0, none⟩) n ec)) (c1 : w.cell? ⟨fb, 1, none⟩ = some (.int .i64 d)) (c2 : w.cell? ⟨fb, 2, none⟩ = some (.chan (some ch)))
    (hn : n ≤ 2048) (hnc : n ≤ ec) :
    Calls Yba.prog 9 #[.pointer (some ⟨fb, 0, none⟩), .int .i64 (d + n)] w fun e w' => e = .returned (.tuple #[.slice (some ⟨g, 0, none⟩) 0 0, .chan (some ch)]) ∧ ∃ m, w' = w.drewN m := by
  have e1 : d + (n : Int) - d = n := by omega
  go_enter Yba.func9, Yba.ntmps9
  go_wp2
  go_quiet (fail)
  go_wp2
  go_ret2
  exact ⟨rfl, _, rfl⟩

theorem since_nil (w : World) (fb : Nat) (d : Int) (d0 : 0 ≤ d) (d1 : d ≤ 65535) (ch : Nat) (c0 : w.cell? ⟨fb, 0, none⟩ = some (.slice none 0 0)) (c1 : w.cell? ⟨fb, 1, none⟩ = some (.int .i64 d)) (c2 : w.cell? ⟨fb, 2, none⟩ = some (.chan (some ch))) :
    Calls Yba.prog 9 #[.pointer (some ⟨fb, 0, none⟩), .int .i64 d] w fun e w' => e = .returned (.tuple #[.slice none 0 0, .chan (some ch)]) ∧ ∃ m, w' = w.drewN m := by
  have e1 : d - d = 0 := by omega
  go_enter Yba.func9, Yba.ntmps9
  go_wp2
  go_quiet (fail)
  go_wp2
  go_ret2
  exact ⟨rfl, _, rfl⟩

/-- since, at the feed of the law: the events behind the first p. -/
theorem since_any {B : Nat} (w : World) (fb : Nat) (d : Int) (d0 : 0 ≤ d) (d1 : d ≤ 65535) (ve : Value) (p m base : Nat) (L : Nat → List Int) (ch : Nat) (hf : Feed B w fb d ve ch) (ho : Own B w base ve (p + m) L) (hn : p + m ≤ 2048) :
    Calls Yba.prog 9 #[.pointer (some ⟨fb, 0, none⟩), .int .i64 (d + p)] w fun e w' => ∃ a, e = .returned (.tuple #[.slice a m m, .chan (some ch)]) ∧
      (0 < m → ∃ g, a = some ⟨g, p, none⟩ ∧ ∀ j, j < m → ∃ u, w.cell? ⟨g, p + j, none⟩ = some u ∧ Bytes B w u (L (p + j))) ∧ ∃ k, w' = w.drewN k := by
  obtain ⟨c0, c1, c2, _⟩ := hf.cell
  obtain ⟨ea, ec, rfl, hnc, hnil, hcell⟩ := ho.shape
  cases ea with
  | none =>
    obtain ⟨h0, rfl⟩ := hnil rfl
    obtain ⟨rfl, rfl⟩ : p = 0 ∧ m = 0 := by omega
    have h := since_nil w fb d d0 d1 ch c0 c1 c2
    rw [show d = d + ((0 : Nat) : Int) by omega] at h
    refine (by simpa using h : Calls Yba.prog 9 #[.pointer (some ⟨fb, 0, none⟩), .int .i64 (d + ((0 : Nat) : Int))] w _).mono ?_
    rintro e w' ⟨rfl, hk⟩
    exact ⟨_, rfl, fun h => absurd h (by omega), hk⟩
  | some x =>
    obtain ⟨g, rfl, _, _, _, hg⟩ := hcell x rfl
    by_cases hm : m = 0
    · subst hm
      refine (since_eq w fb d d0 d1 g p ec ch c0 c1 c2 (by omega) hnc).mono ?_
      rintro e w' ⟨rfl, hk⟩
      exact ⟨_, rfl, fun h => absurd h (by omega), hk⟩
    · refine (since_lt w fb d d0 d1 g (p + m) p ec ch c0 c1 c2 (by omega) (by omega) hnc).mono ?_
      rintro e w' ⟨rfl, hk⟩
      refine ⟨_, by rw [show p + m - p = m by omega], fun _ => ⟨g, rfl, fun j hj => hg (p + j) (by omega)⟩, hk⟩

/-- newFeed -/
theorem newFeed_any (w : World) : Calls Yba.prog 8 #[] w fun e w' => e = .returned (.pointer (some ⟨w.heap.size + 1, 0, none⟩)) ∧ w' = (w.alloc chan0).alloc (.cells #[.slice none 0 0, .int .i64 0, .chan (some w.heap.size)] 27) := by
  have kmk := mk0
  go_enter Yba.func8, Yba.ntmps8
  go_wp2
  go_ret
  exact ⟨by simp, rfl⟩
end Go.Proofs.Ybulkcpry.lawS4574CSince
