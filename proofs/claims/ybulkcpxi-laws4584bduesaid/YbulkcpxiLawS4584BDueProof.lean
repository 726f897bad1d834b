/-
  'Rows.LawS4584BDueSaid': the row, over the walk of YbulkcpxiLaw.
-/
import Derived.Test.YbulkcpxiRows
import Derived.Test.YbulkcpxiChecked
import Derived.Test.YbulkcpxiLaw
import Derived.WalkKit
import Derived.ProofKit
import Derived.OpenShut
import Derived.ShutString
import Derived.ChangeOld
import Derived.Below
import Derived.Deep.Grids
namespace Go.Proofs.Ybulkcpxi.lawS4584BDue
open Go.ChangeShapes Go.WideShapes Go.ChangeAt Go.RowKit
set_option linter.unusedVariables false

theorem own : ownKnob Yba.prog.godebug = none := by kernel_rfl
theorem laidOut : laidOutB Yba.prog = true := by kernel_rfl
theorem cells4 : Yba.prog.cellsOf 4 = 1 := by kernel_rfl
theorem cells5 : Yba.prog.cellsOf 5 = 1 := by kernel_rfl

set_option maxRecDepth 100000 in
theorem out_long (tr last park : Bool) (ca : Option Addr) (nc cc : Nat) (kk pvn : Int) (pa : Option Addr) (np pc : Nat) (w : World) (h1 : nc ≤ 9223372036854775807) (h2 : np ≤ 9223372036854775807) (h : 1024 < nc ∨ nc ≤ 1024 ∧ 1024 < np) :
    Calls Yba.prog 4 #[.bool tr, .slice ca nc cc, .bool last, .int .u64 kk, .int .u64 pvn, .bool park, .slice pa np pc] w fun e w' => e = .returned (.bool true) ∧ Below w.heap.size w w' := by
  rcases h with h | ⟨h1, h⟩
  · go_enter Yba.func4, Yba.ntmps4
    go_wp2
    go_ret
    exact ⟨rfl, Below.refl _ _⟩
  · go_enter Yba.func4, Yba.ntmps4
    go_wp2
    go_ret
    exact ⟨rfl, Below.refl _ _⟩

theorem walk (tr last park : Bool) (ca : Option Addr) (nc cc : Nat) (C : Nat → Bool) (kk pvn : Int) (pa : Option Addr) (np pc : Nat) (P : Nat → Int) (w : World)
    (hkk : 0 ≤ kk ∧ kk ≤ 18446744073709551615) (hpv : 0 ≤ pvn ∧ pvn ≤ 18446744073709551615) (hnc : nc ≤ maxLen) (hnp : np ≤ maxLen)
    (hC : ∀ j, j < nc → ∃ a, ca = some a ∧ a.block < w.heap.size ∧ w.cell? (a.add j) = some (.bool (C j)))
    (hP : ∀ j, j < np → ∃ a, pa = some a ∧ a.block < w.heap.size ∧ w.cell? (a.add j) = some (.int .u8 (P j)) ∧ 0 ≤ P j ∧ P j < 256) :
    Calls Yba.prog 4 #[.bool tr, .slice ca nc cc, .bool last, .int .u64 kk, .int .u64 pvn, .bool park, .slice pa np pc] w fun e w' => e = .returned (.bool true) ∧ Below w.heap.size w w' := by
  unfold maxLen at hnc hnp
  by_cases h1 : 1024 < nc
  · exact out_long tr last park ca nc cc kk pvn pa np pc w (by omega) (by omega) (Or.inl h1)
  · by_cases h2 : 1024 < np
    · exact out_long tr last park ca nc cc kk pvn pa np pc w (by omega) (by omega) (Or.inr ⟨by omega, h2⟩)
    · obtain ⟨kn, rfl⟩ : ∃ n : Nat, kk = n := ⟨kk.toNat, by omega⟩
      obtain ⟨pn, rfl⟩ : ∃ n : Nat, pvn = n := ⟨pvn.toNat, by omega⟩
      exact law_in tr last park ca nc cc C kn pn pa np pc P w (by omega) (by omega) (by omega) (by omega) hC hP

theorem bools_of {H : Type} {enc : TypeId × Value → H} {W : World} {f : Nat} {a : Option Addr} {n c : Nat} {x : DataW H × List MemPlace} (h : DataW.trod enc Yba.prog W 0 (fun _ => true) true f 35 [.slice a n c] = some x) :
    n ≤ maxLen ∧ ∃ C : Nat → Bool, ∀ j, j < n → ∃ b, a = some b ∧ b.block < W.heap.size ∧ W.cell? (b.add j) = some (.bool (C j)) := by
  rcases Go.Deep.open_bools Yba.underlying35 Yba.underlying4 cells4 h with ⟨h1, _⟩ | ⟨b, len, cap, B, h1, _, h3, h4, _, h6⟩
  · simp at h1
    obtain ⟨rfl, rfl, rfl⟩ := h1
    exact ⟨by unfold maxLen; omega, fun _ => false, fun j hj => absurd hj (by omega)⟩
  · simp at h1
    obtain ⟨rfl, rfl, rfl⟩ := h1
    refine ⟨by omega, B, fun j hj => ⟨b, rfl, ?_, h6 j (by omega)⟩⟩
    have := World.block_lt_of_cell? W _ (h6 j (by omega))
    rwa [add_block] at this

theorem ints_of {H : Type} {enc : TypeId × Value → H} {W : World} {f : Nat} {a : Option Addr} {n c : Nat} {x : DataW H × List MemPlace} (h : DataW.trod enc Yba.prog W 0 (fun _ => true) true f 32 [.slice a n c] = some x) :
    n ≤ maxLen ∧ ∃ P : Nat → Int, ∀ j, j < n → ∃ b, a = some b ∧ b.block < W.heap.size ∧ W.cell? (b.add j) = some (.int .u8 (P j)) ∧ 0 ≤ P j ∧ P j < 256 := by
  rcases open_ints Yba.underlying32 Yba.underlying5 cells5 h with ⟨h1, _⟩ | ⟨b, len, cap, zs, h1, _, h3, h4, h5, _, h6, h7⟩
  · simp at h1
    obtain ⟨rfl, rfl, rfl⟩ := h1
    exact ⟨by unfold maxLen; omega, fun _ => 0, fun j hj => absurd hj (by omega)⟩
  · simp at h1
    obtain ⟨rfl, rfl, rfl⟩ := h1
    simp only [if_true] at h5
    refine ⟨by omega, fun j => zs.getD j 0, fun j hj => ⟨b, rfl, ?_, h6 j (by omega), ?_⟩⟩
    · have := World.block_lt_of_cell? W _ (h6 j (by omega))
      rwa [add_block] at this
    · have hm : zs.getD j 0 ∈ zs := by
        rw [List.getD_eq_getElem?_getD, List.getElem?_eq_getElem (by omega)]
        exact List.getElem_mem _
      have := bounds_u8 (h7 _ hm)
      exact ⟨this.1, by show zs.getD j 0 < 256; omega⟩

set_option maxRecDepth 100000 in
theorem lifted (os : Os) (started : os.Started) (H : Type) (enc : TypeId × Value → H) :
    ReturnsInHanded {} Yba.checked os 4 .any (Rows.lawS4584BDueSpec.pre6 enc Yba.prog Yba.f4 Rows.lawS4584BDueRow.domain false) (Rows.lawS4584BDueSpec.post enc Yba.prog Yba.f4 false true false false) := by
  refine returnsInHanded_of_change_sized (C := Yba.checked) own started (by kernel_rfl) Yba.func4
    (ChangeSpec.witness6 (enc := enc) (C := Yba.checked) false ⟨#[], #[.bool false, .slice none 0 0, .bool false, .int .u64 0, .int .u64 0, .bool false, .slice none 0 0], []⟩ 8 (by kernel_rfl) (by kernel_rfl) (by kernel_rfl) (by kernel_rfl)) ?_
  intro W base args ds gs before hval0 hW hcnd hsz0 _
  have hval : ∀ (j : Nat) t v, Yba.f4.params[j]? = some t → args[j]? = some v → Value.okWide Yba.prog W .any base t v := hval0
  have hW' := hW
  obtain ⟨p, q, hA0, hV, rfl, hfz, hnd⟩ := hW
  have hA : DataW.TrodAll enc Yba.prog W 0 (fun _ => true) true Yba.f4.params.toList args.toList ds p := hA0
  rw [Yba.params4] at hA hval
  obtain ⟨v0, vs0, d0, ds0, p0, q0, hargs, rfl, rfl, h0, r0⟩ := trodAll_cons hA
  obtain ⟨v1, vs1, d1, ds1, p1, q1, rfl, rfl, rfl, h1, r1⟩ := trodAll_cons r0
  obtain ⟨v2, vs2, d2, ds2, p2, q2, rfl, rfl, rfl, h2, r2⟩ := trodAll_cons r1
  obtain ⟨v3, vs3, d3, ds3, p3, q3, rfl, rfl, rfl, h3, r3⟩ := trodAll_cons r2
  obtain ⟨v4, vs4, d4, ds4, p4, q4, rfl, rfl, rfl, h4, r4⟩ := trodAll_cons r3
  obtain ⟨v5, vs5, d5, ds5, p5, q5, rfl, rfl, rfl, h5, r5⟩ := trodAll_cons r4
  obtain ⟨v6, vs6, d6, ds6, p6, q6, rfl, rfl, rfl, h6, r6⟩ := trodAll_cons r5
  obtain ⟨rfl, rfl, rfl⟩ := trodAll_nil r6
  obtain rfl : args = #[v0, v1, v2, v3, v4, v5, v6] := by cases args; simp_all
  obtain ⟨rfl, rfl⟩ := trodVars_none hV
  have k1 := h1
  have lt1 : ∀ x ∈ p1, x.block < W.heap.size := by obtain ⟨m, hm⟩ := k1; exact DataW.trod_lt m _ _ _ hm
  have k6 := h6
  have lt6 : ∀ x ∈ p6, x.block < W.heap.size := by obtain ⟨m, hm⟩ := k6; exact DataW.trod_lt m _ _ _ hm
  obtain ⟨a1, len1, cap1, rfl⟩ := okWide_slice Yba.underlying35 (hval 1 35 v1 rfl rfl)
  obtain ⟨a6, len6, cap6, rfl⟩ := okWide_slice Yba.underlying32 (hval 6 32 v6 rfl rfl)
  obtain ⟨b0, rfl, rfl, rfl⟩ := open_bool Yba.underlying4 (hval 0 4 v0 rfl rfl) h0
  obtain ⟨b2, rfl, rfl, rfl⟩ := open_bool Yba.underlying4 (hval 2 4 v2 rfl rfl) h2
  obtain ⟨b5, rfl, rfl, rfl⟩ := open_bool Yba.underlying4 (hval 5 4 v5 rfl rfl) h5
  obtain ⟨z3, rfl, rfl, rfl, w3⟩ := open_int Yba.underlying36 (hval 3 36 v3 rfl rfl) h3
  obtain ⟨z4, rfl, rfl, rfl, w4⟩ := open_int Yba.underlying36 (hval 4 36 v4 rfl rfl) h4
  obtain ⟨f1, hf1⟩ := h1
  obtain ⟨f6, hf6⟩ := h6
  obtain ⟨m1, C, hC⟩ := bools_of (by simpa [Value.cells] using hf1)
  obtain ⟨m6, P, hP⟩ := ints_of (by simpa [Value.cells] using hf6)
  clear hA0 hval0 hsz0
  refine (walk b0 b2 b5 a1 len1 cap1 C z3 z4 a6 len6 cap6 P W (bounds_u64 w3) (bounds_u64 w4) m1 m6 hC hP).mono fun e W' ⟨he, bel⟩ => ?_
  subst he
  exact ⟨_, rfl, _, _, _, [], _, [], hW', trodAll_mk1 (shut_bool Yba.underlying4 _), (trodAll_cons_mk (shut_bool Yba.underlying4 _) (trodAll_cons_mk (Below.trod laidOut (by kernel_rfl) (of_decide_eq_true (by kernel_rfl)) k1 bel lt1) (trodAll_cons_mk (shut_bool Yba.underlying4 _) (trodAll_cons_mk (shut_int Yba.underlying36 w3) (trodAll_cons_mk (shut_int Yba.underlying36 w4) (trodAll_cons_mk (shut_bool Yba.underlying4 _) (trodAll_cons_mk (Below.trod laidOut (by kernel_rfl) (of_decide_eq_true (by kernel_rfl)) k6 bel lt6) trodAll_mk0))))))), rfl, bel.frame _, fun h => by cases h⟩

theorem over : Rows.lawS4584BDueRow.holds Yba.pinned (OpenSpec.ofChange Rows.lawS4584BDueSpec) :=
  OpenClaim.holds_of_wide 4 Yba.f4 rfl rfl rfl rfl rfl rfl rfl ⟨rfl, rfl, rfl, rfl, rfl⟩ rfl rfl rfl rfl rfl (by kernel_rfl) Yba.func4 (by kernel_rfl)
    (of_decide_eq_true (by kernel_rfl)) (by unfold Func.isWrapper; first | (rw [if_pos (by decide +kernel)]; kernel_rfl) | (rw [if_neg (by decide +kernel)]; exact ⟨rfl, rfl⟩))
    (fun os started H enc _ => lifted os started H enc)

/-- THE STATEMENT -/
theorem proved : Rows.LawS4584BDueSaid := over
end Go.Proofs.Ybulkcpxi.lawS4584BDue
