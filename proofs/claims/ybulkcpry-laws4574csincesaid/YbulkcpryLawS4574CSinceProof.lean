/-
  'Rows.LawS4574CSinceSaid': the row, over the walk of YbulkcprySinceWalk.
-/
import Derived.Test.YbulkcpryRows
import Derived.Test.YbulkcpryOpen
import Derived.Test.YbulkcprySinceWalk
import Derived.WalkKit
import Derived.ProofKit
import Derived.OpenShut
import Derived.ShutString
import Derived.ChangeOld
import Derived.Below
namespace Go.Proofs.Ybulkcpry.lawS4574CSince
open Go.ChangeShapes Go.WideShapes Go.ChangeAt Go.RowKit
set_option linter.unusedVariables false

theorem own : ownKnob Yba.prog.godebug = none := by kernel_rfl
theorem laidOut : laidOutB Yba.prog = true := by kernel_rfl

theorem walk (pa : Option Addr) (np pc : Nat) (Lp : Nat → List Int) (d : Int) (d0 : 0 ≤ d) (d1 : d ≤ 65535) (ba : Option Addr) (nb bc : Nat) (Lb : Nat → List Int) (w : World)
    (hnp : np ≤ maxLen) (hnb : nb ≤ maxLen) (hp : Rows w.heap.size w pa np Lp) (hb : Rows w.heap.size w ba nb Lb) :
    Calls Yba.prog 4 #[.slice pa np pc, .int .u16 d, .slice ba nb bc] w fun e w' => e = .returned (.bool true) ∧ Below w.heap.size w w' := by
  unfold maxLen at hnp hnb
  by_cases h1 : 1024 < np
  · exact out_long pa np pc d ba nb bc w (by omega) (by omega) (Or.inl h1)
  · by_cases h2 : 1024 < nb
    · exact out_long pa np pc d ba nb bc w (by omega) (by omega) (Or.inr ⟨by omega, h2⟩)
    · exact walk_in pa np pc Lp d d0 d1 ba nb bc Lb w hp hb (by omega) (by omega)

set_option maxRecDepth 100000 in
theorem lifted (os : Os) (started : os.Started) (H : Type) (enc : TypeId × Value → H) :
    ReturnsInHanded {} Yba.checked os 4 .any (Rows.lawS4574CSinceSpec.pre6 enc Yba.prog Yba.f4 Rows.lawS4574CSinceRow.domain false) (Rows.lawS4574CSinceSpec.post enc Yba.prog Yba.f4 false true false false) := by
  refine returnsInHanded_of_change_sized (C := Yba.checked) own started (by kernel_rfl) Yba.func4
    (ChangeSpec.witness6 (enc := enc) (C := Yba.checked) false ⟨#[], #[.slice none 0 0, .int .u16 0, .slice none 0 0], []⟩ 8 (by kernel_rfl) (by kernel_rfl) (by kernel_rfl) (by kernel_rfl)) ?_
  intro W base args ds gs before hval0 hW hcnd hsz0 _
  have hval : ∀ (j : Nat) t v, Yba.f4.params[j]? = some t → args[j]? = some v → Value.okWide Yba.prog W .any base t v := hval0
  have hsz : (DataW.weightsEach Yba.prog (Yba.f4.params.toList ++ Rows.lawS4574CSinceSpec.plain.varTypes Yba.prog) (ds ++ gs)).all (· ≤ reachBytes) = true := hsz0
  have hW' := hW
  obtain ⟨p, q, hA0, hV, rfl, hfz, hnd⟩ := hW
  have hA : DataW.TrodAll enc Yba.prog W 0 (fun _ => true) true Yba.f4.params.toList args.toList ds p := hA0
  rw [Yba.params4] at hA hval hsz
  obtain ⟨v0, vs0, d0, ds0, p0, q0, hargs, rfl, rfl, h0, r0⟩ := trodAll_cons hA
  obtain ⟨v1, vs1, d1, ds1, p1, q1, rfl, rfl, rfl, h1, r1⟩ := trodAll_cons r0
  obtain ⟨v2, vs2, d2, ds2, p2, q2, rfl, rfl, rfl, h2, r2⟩ := trodAll_cons r1
  obtain ⟨rfl, rfl, rfl⟩ := trodAll_nil r2
  obtain rfl : args = #[v0, v1, v2] := by cases args; simp_all
  obtain ⟨rfl, rfl⟩ := trodVars_none hV
  have hall := List.all_eq_true.1 hsz
  have z0 : ∀ n ∈ d0.weights Yba.prog 22, n ≤ reachBytes := fun n hn => by
    have := hall n (DataW.weights_mem_each (j := 0) rfl rfl n hn)
    simpa using this
  have z2 : ∀ n ∈ d2.weights Yba.prog 22, n ≤ reachBytes := fun n hn => by
    have := hall n (DataW.weights_mem_each (j := 2) rfl rfl n hn)
    simpa using this
  have k0 := h0
  have lt0 : ∀ x ∈ p0, x.block < W.heap.size := by obtain ⟨m, hm⟩ := k0; exact DataW.trod_lt m _ _ _ hm
  have k2 := h2
  have lt2 : ∀ x ∈ p2, x.block < W.heap.size := by obtain ⟨m, hm⟩ := k2; exact DataW.trod_lt m _ _ _ hm
  obtain ⟨a0, len0, cap0, rfl⟩ := okWide_slice Yba.underlying22 (hval 0 22 v0 rfl rfl)
  obtain ⟨a2, len2, cap2, rfl⟩ := okWide_slice Yba.underlying22 (hval 2 22 v2 rfl rfl)
  obtain ⟨dd, rfl, rfl, rfl, w1⟩ := open_int Yba.underlying33 (hval 1 33 v1 rfl rfl) h1
  have b1 := bounds_u16 w1
  obtain ⟨f0, hf0⟩ := h0
  obtain ⟨f2, hf2⟩ := h2
  obtain ⟨x0, l0, c0, L0, e0, m0, R0⟩ := rows_of_trod (v := .slice a0 len0 cap0) (by simpa [Value.cells] using hf0) z0
  obtain ⟨x2, l2, c2, L2, e2, m2, R2⟩ := rows_of_trod (v := .slice a2 len2 cap2) (by simpa [Value.cells] using hf2) z2
  injection e0 with e01 e02 e03
  injection e2 with e21 e22 e23
  subst e01 e02 e03 e21 e22 e23
  clear hA0 hval0 hsz hsz0 hall
  refine (walk a0 len0 cap0 L0 dd b1.1 b1.2 a2 len2 cap2 L2 W m0 m2 R0 R2).mono fun e W' ⟨he, bel⟩ => ?_
  subst he
  exact ⟨_, rfl, _, _, _, [], _, [], hW', trodAll_mk1 (shut_bool Yba.underlying4 _), (trodAll_cons_mk (Below.trod laidOut (by kernel_rfl) (of_decide_eq_true (by kernel_rfl)) k0 bel lt0) (trodAll_cons_mk (shut_int Yba.underlying33 w1) (trodAll_cons_mk (Below.trod laidOut (by kernel_rfl) (of_decide_eq_true (by kernel_rfl)) k2 bel lt2) trodAll_mk0))), rfl, bel.frame _, fun h => by cases h⟩

theorem over : Rows.lawS4574CSinceRow.holds Yba.pinned (OpenSpec.ofChange Rows.lawS4574CSinceSpec) :=
  OpenClaim.holds_of_wide 4 Yba.f4 rfl rfl rfl rfl rfl rfl rfl ⟨rfl, rfl, rfl, rfl, rfl⟩ rfl rfl rfl rfl rfl (by kernel_rfl) Yba.func4 (by kernel_rfl)
    (of_decide_eq_true (by kernel_rfl)) (by unfold Func.isWrapper; first | (rw [if_pos (by decide +kernel)]; kernel_rfl) | (rw [if_neg (by decide +kernel)]; exact ⟨rfl, rfl⟩))
    (fun os started H enc _ => lifted os started H enc)

/-- THE STATEMENT -/
theorem proved : Rows.LawS4574CSinceSaid := over
end Go.Proofs.Ybulkcpry.lawS4574CSince
