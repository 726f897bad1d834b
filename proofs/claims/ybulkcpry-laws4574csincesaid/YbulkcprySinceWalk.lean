/-
  LawS4574CSince: the walk of the law itself.
-/
import Derived.Test.YbulkcprySince
import Derived.Test.YbulkcpryAppends
namespace Go.Proofs.Ybulkcpry.lawS4574CSince
open Go.RowKit
set_option linter.unusedVariables false

set_option maxRecDepth 100000 in
theorem out_long (pa : Option Addr) (np pc : Nat) (d : Int) (ba : Option Addr) (nb bc : Nat) (w : World) (hp : np ≤ 9223372036854775807) (hb : nb ≤ 9223372036854775807) (h : 1024 < np ∨ np ≤ 1024 ∧ 1024 < nb) :
    Calls Yba.prog 4 #[.slice pa np pc, .int .u16 d, .slice ba nb bc] w fun e w' => e = .returned (.bool true) ∧ Below w.heap.size w w' := by
  rcases h with h | ⟨h1, h⟩
  · go_enter Yba.func4, Yba.ntmps4
    go_wp2
    go_ret
    exact ⟨rfl, Below.refl _ _⟩
  · go_enter Yba.func4, Yba.ntmps4
    go_wp2
    go_ret
    exact ⟨rfl, Below.refl _ _⟩

theorem below_dN {B : Nat} {a w : World} (h : Below B a w) (n : Nat) : Below B a (w.drewN n) := h.trans ⟨rfl, rfl, rfl, Nat.le_refl _, fun _ _ => rfl⟩
theorem keep_dN {B : Nat} (w : World) (n : Nat) : Keep B w (w.drewN n) := ⟨below_dN (Below.refl _ _) n, fun _ _ _ h => h⟩

set_option maxRecDepth 100000 in
set_option maxHeartbeats 2000000 in
theorem walk_in (pa : Option Addr) (np pc : Nat) (Lp : Nat → List Int) (d : Int) (d0 : 0 ≤ d) (d1 : d ≤ 65535) (ba : Option Addr) (nb bc : Nat) (Lb : Nat → List Int) (w : World)
    (hp : Rows w.heap.size w pa np Lp) (hb : Rows w.heap.size w ba nb Lb) (h1 : np ≤ 1024) (h2 : nb ≤ 1024) :
    Calls Yba.prog 4 #[.slice pa np pc, .int .u16 d, .slice ba nb bc] w fun e w' => e = .returned (.bool true) ∧ Below w.heap.size w w' := by
  have HP : Hid (Rows w.heap.size w pa np Lp) := hp
  have HB : Hid (Rows w.heap.size w ba nb Lb) := hb
  obtain ⟨f0, k0⟩ := lawS4574CAppends.feed0 w d
  have hfc := f0.cell
  clear hp hb
  go_enter Yba.func4, Yba.ntmps4
  go_wp2_with fail
  refine (newFeed_any w).mono ?_
  rintro e w' ⟨rfl, rfl⟩
  go_wp2_with fail
  refine (clones_any w.heap.size pa np pc Lp _ (by simp; omega) (HP.out.keep k0) h1).mono ?_
  rintro e w1 ⟨v1, rfl, g1, o1⟩
  obtain ⟨ea, ec, rfl, _⟩ := o1.shape
  have hb1 := g1.block _ hfc.2.2.2.2.1 (by simp)
  have c0 := (World.cell?_of_block (a := ⟨w.heap.size + 1, 0, none⟩) hb1).trans hfc.1
  have c1 := (World.frozen?_of_block (a := ⟨w.heap.size + 1, 0, none⟩) hb1).trans (hfc.2.2.2.1 0)
  have hs1 := g1.size
  simp at hs1
  have k1 : Keep w.heap.size w w1 := k0.trans (keep_of_grown g1 (by simp; omega) (by simp))
  have f1 := f0.carry hb1 (g1.block _ hfc.2.2.2.2.2 (by simp))
  have f2 := f1.set (ve' := .slice ea np ec)
  have k2 := k1.trans (f1.setKeep (.slice ea np ec))
  have o2 : Own w.heap.size (w1.setCell ⟨w.heap.size + 1, 0, none⟩ (.slice ea np ec)) w.heap.size (.slice ea np ec) np Lp := (o1.carry (f1.setKeep (.slice ea np ec)) (fun g hg => heap_setCell_other _ _ _ _ (by
    obtain ⟨a, _⟩ := o1.row g hg
    simp at a
    show g ≠ w.heap.size + 1
    omega))).mono (by simp; omega)
  have c2 := f2.cell.2.2.1
  have F2 : Hid (Feed w.heap.size (w1.setCell ⟨w.heap.size + 1, 0, none⟩ (.slice ea np ec)) (w.heap.size + 1) d (.slice ea np ec) w.heap.size) := f2
  have K2 : Hid (Keep w.heap.size w (w1.setCell ⟨w.heap.size + 1, 0, none⟩ (.slice ea np ec))) := k2
  have O2 : Hid (Own w.heap.size (w1.setCell ⟨w.heap.size + 1, 0, none⟩ (.slice ea np ec)) w.heap.size (.slice ea np ec) np Lp) := o2
  clear g1 o1 hb1 k1 f1 f0 k0 hfc f2 k2 o2
  go_wp2_with fail
  refine (clones_any w.heap.size ba nb bc Lb _ K2.out.1.size (HB.out.keep K2.out) h2).mono ?_
  rintro e w3 ⟨vd, rfl, g3, od⟩
  have s3 := g3.size
  have k3 : Keep w.heap.size w w3 := K2.out.trans (keep_of_grown g3 K2.out.1.size (by simp))
  have f3 := F2.out.carry (g3.block _ F2.out.cell.2.2.2.2.1 (by simp)) (g3.block _ F2.out.cell.2.2.2.2.2 (by simp))
  have o3 := O2.out.carry (keep_of_grown g3 K2.out.1.size (by simp)) (fun g hg => g3.block g (O2.out.row g hg).2.1 (by simp))
  clear F2 K2 O2 g3 c0 c1 c2
  go_wp2_with fail
  refine (add_any w.heap.size w3 (w.heap.size + 1) d ea np ec w.heap.size w.heap.size Lp vd nb _ Lb f3 o3 od (Nat.le_refl _) k3.1.size (by omega)).mono ?_
  rintro e w4 ⟨rfl, ve4, ch4, f4, o4, k4, hb4, hs4, hl4, hz4, hnz4⟩
  have K4 : Hid (Keep w.heap.size w w4) := k3.trans k4
  obtain ⟨ea4, ec4, hve4, _⟩ := o4.shape
  subst hve4
  obtain ⟨q0, q1, q2, _⟩ := f4.cell
  have F4 : Hid (Feed w.heap.size w4 (w.heap.size + 1) d (.slice ea4 (np + nb) ec4) ch4) := f4
  have O4 : Hid (Own w.heap.size w4 w.heap.size (.slice ea4 (np + nb) ec4) (np + nb) (cat np Lp Lb)) := o4
  clear k3 f3 o3 od f4 o4 k4 hb4 hs4 hl4 s3 hs1
  go_wp2_with fail
  refine (since_any w4 (w.heap.size + 1) d d0 d1 _ np nb w.heap.size (cat np Lp Lb) ch4 F4.out O4.out (by omega)).mono ?_
  rintro e w5 ⟨a5, rfl, hc5, k5, rfl⟩
  have kn35 := chan_neq 35 .recv 56 Yba.underlying35
  have kn25 := chan_neq 25 .both 56 Yba.underlying25
  have C5 : Hid (0 < nb → ∃ g, a5 = some ⟨g, np, none⟩ ∧ ∀ j, j < nb → ∃ u, w4.cell? ⟨g, np + j, none⟩ = some u ∧ Bytes w.heap.size w4 u (cat np Lp Lb (np + j))) := hc5
  clear hc5 F4 O4
  have key : (decide (0 < (nb : Int)) = false ∧ (some ch4 != some w.heap.size) = false ∧ nb ≤ 0) ∨ (decide (0 < (nb : Int)) = true ∧ (some ch4 != some w.heap.size) = true ∧ 0 < nb) := by
    by_cases hm0 : nb = 0
    · exact Or.inl ⟨by simp; omega, by rw [hz4 hm0]; simp, by omega⟩
    · exact Or.inr ⟨by simp; omega, by rw [bne_iff_ne]; intro h; injection h with h; exact hnz4 (by omega) h, by omega⟩
  clear hz4 hnz4
  rcases key with ⟨hq1, hq2, hq3⟩ | ⟨hq1, hq2, hq3⟩
  · go_wp2_with fail
    clear kn35 kn25 hq1 hq2
    go_loop [73] (fun i => ∃ t : Nat, t ≤ nb ∧ i = .int .i64 t) (fun i => nb - (intOf i).toNat)
    case atStart => exact ⟨0, Nat.zero_le _, rfl⟩
    case round =>
      obtain ⟨t, ht, rfl⟩ := hrel
      have htm : ¬ t < nb := by omega
      go_wp2
      go_ret
      exact ⟨rfl, below_dN K4.out.1 k5⟩
  · go_wp2_with fail
    clear kn35 kn25 hq1 hq2
    go_loop [73] (fun i => ∃ t : Nat, t ≤ nb ∧ i = .int .i64 t) (fun i => nb - (intOf i).toNat)
    case atStart => exact ⟨0, Nat.zero_le _, rfl⟩
    case round =>
      obtain ⟨t, ht, rfl⟩ := hrel
      by_cases htm : t < nb
      · obtain ⟨rb, ro, V, hra, hrb, hV⟩ := (HB.out.keep K4.out) (by omega)
        subst hra
        obtain ⟨hvc, hvb⟩ := hV t htm
        obtain ⟨g, hg, hgc⟩ := C5.out (by omega)
        subst hg
        obtain ⟨uu, huc, hub⟩ := hgc t htm
        rw [cat_add] at hub
        have B1 : Hid (Bytes w.heap.size (w4.drewN k5) uu (Lb t)) := hub.keep (keep_dN w4 k5)
        have B2 : Hid (Bytes w.heap.size (w4.drewN k5) (V t) (Lb t)) := hvb.keep (keep_dN w4 k5)
        clear hub hvb hgc hV
        go_wp2_with fail
        refine (equal_any _ _ uu (V t) (Lb t) _ B1.out B2.out).mono ?_
        rintro e w' ⟨rfl, rfl⟩
        go_wp2
        go_round
        case rel => exact ⟨t + 1, by omega, by go_num⟩
        case measure => simp [intOf]; omega
      · go_wp2
        go_ret
        exact ⟨rfl, below_dN K4.out.1 k5⟩
end Go.Proofs.Ybulkcpry.lawS4574CSince
