/-
  THE SHELL OF A PROOF OF 'Rows.LawS4571ACeilSaid' ('example.com/hopweave/hopweave/mariposa.LawS4571ACeil'), WRITTEN BY PROGRAM (proof-skeleton.mjs) off the guide's own print for that function. Not trusted: Lean checks it.
-/
import Derived.Test.YbulkcpqiRows
import Derived.Test.YbulkcpqiCut
import Derived.WalkKit
import Derived.ProofKit
import Derived.OpenShut
import Derived.ShutString
namespace Go.Proofs.Ybulkcpqi.lawS4571ACeil
open Go.ChangeShapes Go.WideShapes Go.ChangeAt Go.RowKit
open Go.ChangeMaps (open_string shut_string)
set_option linter.unusedVariables false      -- a walk need not use every 'w<i>' (that an integer argument fits its kind)

theorem own : ownKnob Yba.prog.godebug = none := by kernel_rfl

/-! ### zzs4571aless, and the plain law -/
theorem less_yes (ah al bh bl : Int) (w : World) (a0 : 0 ≤ al) (a1 : al ≤ 18446744073709551615) (b0 : 0 ≤ bl) (b1 : bl ≤ 18446744073709551615)
    (h : Hid (ah * 18446744073709551616 + al < bh * 18446744073709551616 + bl)) :
    Calls Yba.prog 9 #[.int .u64 ah, .int .u64 al, .int .u64 bh, .int .u64 bl] w fun e w' => e = .returned (.bool true) ∧ w' = w := by
  have h' := h.out
  by_cases e : ah = bh
  · subst e
    have h1 : al < bl := by omega
    clear h'
    go_enter Yba.func9, Yba.ntmps9
    go_wp2
    go_ret
    exact ⟨by simp, rfl⟩
  · have h1 : ah < bh := by omega
    clear h'
    go_enter Yba.func9, Yba.ntmps9
    go_wp2
    go_ret
    exact ⟨by simp, rfl⟩

theorem less_no (ah al bh bl : Int) (w : World) (a0 : 0 ≤ al) (a1 : al ≤ 18446744073709551615) (b0 : 0 ≤ bl) (b1 : bl ≤ 18446744073709551615)
    (h : Hid (bh * 18446744073709551616 + bl ≤ ah * 18446744073709551616 + al)) :
    Calls Yba.prog 9 #[.int .u64 ah, .int .u64 al, .int .u64 bh, .int .u64 bl] w fun e w' => e = .returned (.bool false) ∧ w' = w := by
  have h' := h.out
  by_cases e : ah = bh
  · subst e
    have h1 : ¬ al < bl := by omega
    clear h'
    go_enter Yba.func9, Yba.ntmps9
    go_wp2
    go_ret
    exact ⟨by simp, rfl⟩
  · have h1 : ¬ ah < bh := by omega
    clear h'
    go_enter Yba.func9, Yba.ntmps9
    go_wp2
    go_ret
    exact ⟨by simp, rfl⟩

theorem ceil_def (L i p : Int) (hp : 1 ≤ p) : L * i ≤ cutN L i p * p ∧ (cutN L i p - 1) * p < L * i := by
  unfold cutN
  have e2 := Int.mul_ediv_add_emod (L * i + p - 1) p
  have n0 := Int.emod_nonneg (L * i + p - 1) (show p ≠ 0 by omega)
  have n1 := Int.emod_lt_of_pos (L * i + p - 1) (show 0 < p by omega)
  have hc : p * ((L * i + p - 1) / p) = (L * i + p - 1) / p * p := Int.mul_comm _ _
  rw [Int.sub_mul]
  generalize (L * i + p - 1) / p = c at *
  generalize (L * i + p - 1) % p = a at *
  generalize L * i = X at *
  omega

/-- A product's two words, under names. -/
theorem words (x y : Int) : ∃ H Lo, Hid (x * y / 18446744073709551616 = H) ∧ Hid (x * y % 18446744073709551616 = Lo) ∧ 0 ≤ Lo ∧ Lo ≤ 18446744073709551615 ∧ Hid (H * 18446744073709551616 + Lo = x * y) := by
  refine ⟨_, _, rfl, rfl, ?_, ?_, ?_⟩
  · omega
  · omega
  · show _ = _; omega

theorem ceilCore (L a1 a2 p i c : Int) (w : World) (hL0 : 0 ≤ L) (hL : L ≤ 18446744073709551615) (a10 : 0 ≤ a1) (a11 : a1 ≤ 18446744073709551615) (a20 : 0 ≤ a2) (a21 : a2 ≤ 18446744073709551615)
    (hp : 1 ≤ p) (hp1 : p ≤ 4611686018427387904) (ep : a2 / 4 + 1 = p) (ei : a1 % (p + 1) = i) (i0 : 0 ≤ i) (i1 : i ≤ p)
    (c0 : 0 ≤ c) (c1 : c ≤ L) (hc : Hid (cutN L i p = c)) (h1 : Hid (L * i ≤ c * p)) (h2 : Hid ((c - 1) * p < L * i)) :
    Calls Yba.prog 3 #[.int .u64 L, .int .u64 a1, .int .u64 a2] w fun e w' => e = .returned (.bool true) ∧ Grown w w' := by
  obtain ⟨xh, xl, X1, X2, X3, X4, X5⟩ := words L i
  obtain ⟨ah, al, A1, A2, A3, A4, A5⟩ := words c p
  obtain ⟨bh, bl, B1, B2, B3, B4, B5⟩ := words (c - 1) p
  have hA : Hid (xh * 18446744073709551616 + xl ≤ ah * 18446744073709551616 + al) := by show _ ≤ _; rw [X5.out, A5.out]; exact h1.out
  have hB : Hid (bh * 18446744073709551616 + bl < xh * 18446744073709551616 + xl) := by show _ < _; rw [X5.out, B5.out]; exact h2.out
  by_cases hz : 0 < c
  · go_enter Yba.func3, Yba.ntmps3
    go_wp2_with fail
    refine (cut_n L i p c _ hL0 hL i0 i1 hp (by omega) hc.out).mono ?_
    rintro e w' ⟨rfl, n, rfl⟩
    go_wp2_with fail
    refine (mul64_n L i xh xl hL0 hL i0 (by omega) X1.out X2.out _).mono ?_
    rintro e w' ⟨rfl, rfl⟩
    go_wp2_with fail
    refine (mul64_n c p ah al c0 (by omega) (by omega) (by omega) A1.out A2.out _).mono ?_
    rintro e w' ⟨rfl, rfl⟩
    go_wp2_with fail
    refine (less_no ah al xh xl _ A3 A4 X3 X4 hA).mono ?_
    rintro e w' ⟨rfl, rfl⟩
    go_wp2_with fail
    refine (mul64_n (c - 1) p bh bl (by omega) (by omega) (by omega) (by omega) B1.out B2.out _).mono ?_
    rintro e w' ⟨rfl, rfl⟩
    go_wp2_with fail
    refine (less_yes bh bl xh xl _ B3 B4 X3 X4 hB).mono ?_
    rintro e w' ⟨rfl, rfl⟩
    go_wp2
    go_ret
    exact ⟨rfl, grown_drewN (Grown.refl _) _⟩
  · go_enter Yba.func3, Yba.ntmps3
    go_wp2_with fail
    refine (cut_n L i p c _ hL0 hL i0 i1 hp (by omega) hc.out).mono ?_
    rintro e w' ⟨rfl, n, rfl⟩
    go_wp2_with fail
    refine (mul64_n L i xh xl hL0 hL i0 (by omega) X1.out X2.out _).mono ?_
    rintro e w' ⟨rfl, rfl⟩
    go_wp2_with fail
    refine (mul64_n c p ah al c0 (by omega) (by omega) (by omega) A1.out A2.out _).mono ?_
    rintro e w' ⟨rfl, rfl⟩
    go_wp2_with fail
    refine (less_no ah al xh xl _ A3 A4 X3 X4 hA).mono ?_
    rintro e w' ⟨rfl, rfl⟩
    go_wp2
    go_ret
    exact ⟨rfl, grown_drewN (Grown.refl _) _⟩

/-! ### STEP 1: THE WALK -/
theorem walk (a0 : Int) (a1 : Int) (a2 : Int) (w0 : (Lit.int .u64 a0).wf = true) (w1 : (Lit.int .u64 a1).wf = true) (w2 : (Lit.int .u64 a2).wf = true) (w : World) :
    Calls Yba.prog 3 #[.int .u64 a0, .int .u64 a1, .int .u64 a2] w fun e w' => e = .returned (.bool true) ∧ Grown w w' := by
  have b0 := bounds_u64 w0
  have b1 := bounds_u64 w1
  have b2 := bounds_u64 w2
  have hp : 1 ≤ a2 / 4 + 1 := by omega
  have hp1 : a2 / 4 + 1 ≤ 4611686018427387904 := by omega
  generalize hpe : a2 / 4 + 1 = p at *
  have m0 := Int.emod_nonneg a1 (show p + 1 ≠ 0 by omega)
  have m1 := Int.emod_lt_of_pos a1 (show 0 < p + 1 by omega)
  have hc := ceil_def a0 (a1 % (p + 1)) p hp
  have hb := cutN_bd a0 (a1 % (p + 1)) p b0.1 m0 (by omega) hp
  exact ceilCore a0 a1 a2 p _ _ w b0.1 b0.2 b1.1 b1.2 b2.1 b2.2 hp hp1 hpe rfl m0 (by omega) hb.1 hb.2 rfl hc.1 hc.2

/-! ### THE ROW's STEP: WRITTEN OUT: LEAVE IT -/
set_option maxRecDepth 100000 in
theorem lifted (os : Os) (started : os.Started) (H : Type) (enc : TypeId × Value → H) :
    ReturnsInHanded {} Yba.checked os 3 .any (Rows.lawS4571ACeilSpec.pre6 enc Yba.prog Yba.f3 Rows.lawS4571ACeilRow.domain false) (Rows.lawS4571ACeilSpec.post enc Yba.prog Yba.f3 false true false false) := by
  refine returnsInHanded_of_change (C := Yba.checked) own started (by kernel_rfl) Yba.func3
    (ChangeSpec.witness6 (enc := enc) (C := Yba.checked) false ⟨#[], #[.int .u64 0, .int .u64 0, .int .u64 0], []⟩ 8 (by kernel_rfl) (by kernel_rfl) (by kernel_rfl) (by kernel_rfl)) ?_
  intro W base args ds gs before hval0 hW hcnd _
  have hval : ∀ (j : Nat) t v, Yba.f3.params[j]? = some t → args[j]? = some v → Value.okWide Yba.prog W .any base t v := hval0
  have hW' := hW
  obtain ⟨p, q, hA0, hV, rfl, hfz, hnd⟩ := hW
  have hA : DataW.TrodAll enc Yba.prog W 0 (fun _ => true) true Yba.f3.params.toList args.toList ds p := hA0
  rw [Yba.params3] at hA hval
  obtain ⟨v0, vs0, d0, ds0, p0, q0, hargs, rfl, rfl, h0, r0⟩ := trodAll_cons hA
  obtain ⟨v1, vs1, d1, ds1, p1, q1, rfl, rfl, rfl, h1, r1⟩ := trodAll_cons r0
  obtain ⟨v2, vs2, d2, ds2, p2, q2, rfl, rfl, rfl, h2, r2⟩ := trodAll_cons r1
  obtain ⟨rfl, rfl, rfl⟩ := trodAll_nil r2
  obtain rfl : args = #[v0, v1, v2] := by cases args; simp_all
  obtain ⟨rfl, rfl⟩ := trodVars_none hV
  obtain ⟨a0, rfl, rfl, rfl, w0⟩ := open_int Yba.underlying22 (hval 0 22 v0 rfl rfl) h0
  obtain ⟨a1, rfl, rfl, rfl, w1⟩ := open_int Yba.underlying22 (hval 1 22 v1 rfl rfl) h1
  obtain ⟨a2, rfl, rfl, rfl, w2⟩ := open_int Yba.underlying22 (hval 2 22 v2 rfl rfl) h2
  clear hA0 hval0
  simp only [List.append_nil] at hW'
  refine (walk a0 a1 a2 w0 w1 w2 W).mono fun e W' ⟨he, hg⟩ => ?_
  subst he
  exact ⟨_, rfl, post_of_same (pa := []) (pv := []) hW' (fun _ _ _ => (trodAll_cons_mk (shut_bool Yba.underlying4 _) trodAll_mk0)) (fun sp _ => (trodAll_cons_mk (shut_int Yba.underlying22 w0) (trodAll_cons_mk (shut_int Yba.underlying22 w1) (trodAll_cons_mk (shut_int Yba.underlying22 w2) trodAll_mk0)))) (fun _ _ => rfl) rfl
    (hg.frame _) hg.2.1 (ok_one (by kernel_rfl) rfl (okWide_bool_mk Yba.underlying4 _))⟩

theorem over : Rows.lawS4571ACeilRow.holds Yba.pinned (OpenSpec.ofChange Rows.lawS4571ACeilSpec) :=
  OpenClaim.holds_of_wide 3 Yba.f3 rfl rfl rfl rfl rfl rfl rfl ⟨rfl, rfl, rfl, rfl, rfl⟩ rfl rfl rfl rfl rfl (by kernel_rfl) Yba.func3 (by kernel_rfl)
    (of_decide_eq_true (by kernel_rfl)) (by unfold Func.isWrapper; first | (rw [if_pos (by decide +kernel)]; kernel_rfl) | (rw [if_neg (by decide +kernel)]; exact ⟨rfl, rfl⟩))
    (fun os started H enc _ => lifted os started H enc)

/-- ████ THE STATEMENT ████ -/
theorem proved : Rows.LawS4571ACeilSaid :=
  over
end Go.Proofs.Ybulkcpqi.lawS4571ACeil
