/-
  THE SHELL OF A PROOF OF 'Rows.LawS4571AEndsSaid' ('example.com/hopweave/hopweave/mariposa.LawS4571AEnds'), WRITTEN BY PROGRAM (proof-skeleton.mjs) off the guide's own print for that function. Not trusted: Lean checks it.
-/
import Derived.Test.YbulkcpqiRows
import Derived.Test.YbulkcpqiCut
import Derived.WalkKit
import Derived.ProofKit
import Derived.OpenShut
import Derived.ShutString
namespace Go.Proofs.Ybulkcpqi.lawS4571AEnds
open Go.ChangeShapes Go.WideShapes Go.ChangeAt Go.RowKit
open Go.ChangeMaps (open_string shut_string)
set_option linter.unusedVariables false      -- a walk need not use every 'w<i>' (that an integer argument fits its kind)

theorem own : ownKnob Yba.prog.godebug = none := by kernel_rfl

theorem endsCore (L p ce : Int) (a1 : Int) (w : World) (hL0 : 0 ≤ L) (hL : L ≤ 18446744073709551615) (hp : 1 ≤ p) (hp1 : p ≤ 300)
    (ha0 : 0 ≤ a1) (ha1 : a1 ≤ 65535) (ha : a1 % 300 + 1 = p) (f0 : 0 ≤ L / p) (m0 : 0 ≤ L % p) (m1 : L % p ≤ 18446744073709551615)
    (hce : ce = L / p ∧ (L % p != 0) = false ∨ ce = L / p + 1 ∧ (L % p != 0) = true) (f1 : ce ≤ 18446744073709551615)
    (hstep : Hid (∀ j, cutN L j p - cutN L (j - 1) p = L / p ∨ cutN L j p - cutN L (j - 1) p = ce))
    (hbd : Hid (∀ j, 0 ≤ j → j ≤ p → 0 ≤ cutN L j p ∧ cutN L j p ≤ L)) (hz : Hid (cutN L 0 p = 0)) (hfull : Hid (cutN L p p = L)) :
    Calls Yba.prog 4 #[.int .u64 L, .int .u16 a1] w fun e w' => e = .returned (.bool true) ∧ Grown w w' := by
  rcases hce with ⟨rfl, hm⟩ | ⟨rfl, hm⟩
  all_goals
    go_enter Yba.func4, Yba.ntmps4
    go_wp2_with fail
    refine (cut_n L 0 p 0 _ hL0 hL (by omega) (by omega) hp (by omega) hz.out).mono ?_
    rintro e w' ⟨rfl, n, rfl⟩
    go_wp2_with fail
    refine (cut_n L p p L _ hL0 hL (by omega) (by omega) hp (by omega) hfull.out).mono ?_
    rintro e w' ⟨rfl, n2, rfl⟩
    go_wp2_with fail
    go_loopw [8, 9] (fun pv j wr => ∃ k : Int, 1 ≤ k ∧ k ≤ p + 1 ∧ j = .int .i64 k ∧ pv = .int .u64 (cutN L (k - 1) p) ∧ Grown w wr) (fun _ j _ => (p + 1 - intOf j).toNat)
    case atStart => exact ⟨1, by omega, by omega, rfl, by rw [show (1 : Int) - 1 = 0 by omega, hz.out], Grown.refl _⟩
    case round =>
      obtain ⟨k, hk1, hk2, rfl, rfl, hg⟩ := hrel
      clear hm ha m0 m1
      by_cases hk : k ≤ p
      · have hs := hstep.out k
        obtain ⟨b1, b2⟩ := hbd.out k (by omega) hk
        obtain ⟨b3, b4⟩ := hbd.out (k - 1) (by omega) (by omega)
        generalize hc : cutN L k p = c at *
        generalize hc' : cutN L (k - 1) p = c' at *
        have Hc : Hid (cutN L k p = c) := hc
        clear hc hc'
        rcases hs with hs | hs
        all_goals
          go_wp2_with fail
          refine (cut_n L k p c _ hL0 hL (by omega) hk hp (by omega) Hc.out).mono ?_
          rintro e w' ⟨rfl, n3, rfl⟩
          go_wp2_with fail
          go_roundw
          case rel => exact ⟨k + 1, by omega, by omega, rfl, by rw [show k + 1 - 1 = k by omega, Hc.out], grown_drewN hg _⟩
          case measure => simp [intOf]; omega
      · go_wp2
        go_ret
        exact ⟨rfl, hg⟩

/-! ### STEP 1: THE WALK: the Go text returns true. 'Grown w w'': the world has at most new blocks (Derived/RowKit3.lean). Part the cases AHEAD of 'go_enter' where a test parts the walk; take each callee by a contract of your own. -/
theorem walk (a0 : Int) (a1 : Int) (w0 : (Lit.int .u64 a0).wf = true) (w1 : (Lit.int .u16 a1).wf = true) (w : World) :
    Calls Yba.prog 4 #[.int .u64 a0, .int .u16 a1] w fun e w' => e = .returned (.bool true) ∧ Grown w w' := by
  have b0 := bounds_u64 w0
  have b1 := bounds_u16 w1
  have hp : 1 ≤ a1 % 300 + 1 := by omega
  have hp1 : a1 % 300 + 1 ≤ 300 := by omega
  generalize hpe : a1 % 300 + 1 = p at *
  have m0 := Int.emod_nonneg a0 (show p ≠ 0 by omega)
  have m1 := Int.emod_lt_of_pos a0 (show 0 < p by omega)
  have f0 := Int.ediv_nonneg b0.1 (show 0 ≤ p by omega)
  have f1 := Int.ediv_le_self p b0.1
  have e := Int.mul_ediv_add_emod a0 p
  have st := fun j => cutN_step a0 j p hp b0.1
  by_cases hm : a0 % p = 0
  · exact endsCore a0 p (a0 / p) a1 w b0.1 b0.2 hp hp1 b1.1 b1.2 hpe f0 m0 (by omega) (Or.inl ⟨rfl, by rw [hm]; rfl⟩) (by omega)
      (fun j => Or.inl ((st j).1 hm)) (fun j h1 h2 => cutN_bd a0 j p b0.1 h1 h2 hp) (cutN_zero a0 p hp) (cutN_full a0 p hp)
  · have f2 : a0 / p + 1 ≤ 18446744073709551615 := by
      have h5 : a0 / p ≤ p * (a0 / p) := by
        have := Int.mul_le_mul_of_nonneg_right hp f0
        omega
      omega
    exact endsCore a0 p (a0 / p + 1) a1 w b0.1 b0.2 hp hp1 b1.1 b1.2 hpe f0 m0 (by omega) (Or.inr ⟨rfl, by rw [bne_iff_ne]; exact hm⟩) f2
      (fun j => (st j).2 hm) (fun j h1 h2 => cutN_bd a0 j p b0.1 h1 h2 hp) (cutN_zero a0 p hp) (cutN_full a0 p hp)

/-! ### THE ROW's STEP: WRITTEN OUT: LEAVE IT -/
set_option maxRecDepth 100000 in
theorem lifted (os : Os) (started : os.Started) (H : Type) (enc : TypeId × Value → H) :
    ReturnsInHanded {} Yba.checked os 4 .any (Rows.lawS4571AEndsSpec.pre6 enc Yba.prog Yba.f4 Rows.lawS4571AEndsRow.domain false) (Rows.lawS4571AEndsSpec.post enc Yba.prog Yba.f4 false true false false) := by
  refine returnsInHanded_of_change (C := Yba.checked) own started (by kernel_rfl) Yba.func4
    (ChangeSpec.witness6 (enc := enc) (C := Yba.checked) false ⟨#[], #[.int .u64 0, .int .u16 0], []⟩ 8 (by kernel_rfl) (by kernel_rfl) (by kernel_rfl) (by kernel_rfl)) ?_
  intro W base args ds gs before hval0 hW hcnd _
  have hval : ∀ (j : Nat) t v, Yba.f4.params[j]? = some t → args[j]? = some v → Value.okWide Yba.prog W .any base t v := hval0
  have hW' := hW
  obtain ⟨p, q, hA0, hV, rfl, hfz, hnd⟩ := hW
  have hA : DataW.TrodAll enc Yba.prog W 0 (fun _ => true) true Yba.f4.params.toList args.toList ds p := hA0
  rw [Yba.params4] at hA hval
  obtain ⟨v0, vs0, d0, ds0, p0, q0, hargs, rfl, rfl, h0, r0⟩ := trodAll_cons hA
  obtain ⟨v1, vs1, d1, ds1, p1, q1, rfl, rfl, rfl, h1, r1⟩ := trodAll_cons r0
  obtain ⟨rfl, rfl, rfl⟩ := trodAll_nil r1
  obtain rfl : args = #[v0, v1] := by cases args; simp_all
  obtain ⟨rfl, rfl⟩ := trodVars_none hV
  obtain ⟨a0, rfl, rfl, rfl, w0⟩ := open_int Yba.underlying22 (hval 0 22 v0 rfl rfl) h0
  obtain ⟨a1, rfl, rfl, rfl, w1⟩ := open_int Yba.underlying29 (hval 1 29 v1 rfl rfl) h1
  clear hA0 hval0
  simp only [List.append_nil] at hW'
  refine (walk a0 a1 w0 w1 W).mono fun e W' ⟨he, hg⟩ => ?_
  subst he
  exact ⟨_, rfl, post_of_same (pa := []) (pv := []) hW' (fun _ _ _ => (trodAll_cons_mk (shut_bool Yba.underlying4 _) trodAll_mk0)) (fun sp _ => (trodAll_cons_mk (shut_int Yba.underlying22 w0) (trodAll_cons_mk (shut_int Yba.underlying29 w1) trodAll_mk0))) (fun _ _ => rfl) rfl
    (hg.frame _) hg.2.1 (ok_one (by kernel_rfl) rfl (okWide_bool_mk Yba.underlying4 _))⟩

theorem over : Rows.lawS4571AEndsRow.holds Yba.pinned (OpenSpec.ofChange Rows.lawS4571AEndsSpec) :=
  OpenClaim.holds_of_wide 4 Yba.f4 rfl rfl rfl rfl rfl rfl rfl ⟨rfl, rfl, rfl, rfl, rfl⟩ rfl rfl rfl rfl rfl (by kernel_rfl) Yba.func4 (by kernel_rfl)
    (of_decide_eq_true (by kernel_rfl)) (by unfold Func.isWrapper; first | (rw [if_pos (by decide +kernel)]; kernel_rfl) | (rw [if_neg (by decide +kernel)]; exact ⟨rfl, rfl⟩))
    (fun os started H enc _ => lifted os started H enc)

/-- ████ THE STATEMENT ████ -/
theorem proved : Rows.LawS4571AEndsSaid :=
  over
end Go.Proofs.Ybulkcpqi.lawS4571AEnds
