/-
  THE SHELL OF A PROOF OF 'Rows.LawS4571CEvenSaid' ('example.com/hopweave/hopweave/mariposa.LawS4571CEven'), WRITTEN BY PROGRAM (proof-skeleton.mjs, third state) off the guide's own print for that function. Not trusted: Lean checks it.
-/
import Derived.Test.YbulkcpqiRows
import Derived.Test.YbulkcpqiCheck
import Derived.WalkKit
import Derived.ProofKit
import Derived.OpenShut
import Derived.ShutString
import Derived.ChangeOld
import Derived.Below
namespace Go.Proofs.Ybulkcpqi.lawS4571CEven
open Go.ChangeShapes Go.WideShapes Go.ChangeAt Go.RowKit
open Go.ChangeMaps (open_string shut_string)
set_option linter.unusedVariables false

theorem own : ownKnob Yba.prog.godebug = none := by kernel_rfl
theorem laidOut : laidOutB Yba.prog = true := by kernel_rfl

theorem below_dN {B : Nat} {a w : World} (h : Below B a w) (n : Nat) : Below B a (w.drewN n) := h.trans ⟨rfl, rfl, rfl, Nat.le_refl _, fun _ _ => rfl⟩

/-- nothing, or more than 1024 numbers: true at once -/
theorem walk_out (a0 : Option Addr) (len0 cap0 : Nat) (a1 : Int) (w : World) (hl : len0 ≤ 9223372036854775807) (h : len0 = 0 ∨ 1024 < len0) :
    Calls Yba.prog 6 #[.slice a0 len0 cap0, .int .u16 a1] w fun e w' => e = .returned (.bool true) ∧ Below w.heap.size w w' := by
  rcases h with rfl | h
  · go_enter Yba.func6, Yba.ntmps6
    go_wp2
    go_ret
    exact ⟨rfl, Below.refl _ _⟩
  · go_enter Yba.func6, Yba.ntmps6
    go_wp2
    go_ret
    exact ⟨rfl, Below.refl _ _⟩

set_option maxHeartbeats 1000000 in
theorem walk_in (a0 : Option Addr) (n cap0 : Nat) (z0 : List Int) (a1 : Int) (w : World) (w0 : IsRow .u32 w a0 n cap0 z0) (b0 : 0 ≤ a1) (b1 : a1 ≤ 65535) (h1 : 1 ≤ n) (h2 : n ≤ 1024) (i : Nat) (hi : i < n) (ei : a1 % (n : Int) = (i : Int)) :
    Calls Yba.prog 6 #[.slice a0 n cap0, .int .u16 a1] w fun e w' => e = .returned (.bool true) ∧ Below w.heap.size w w' := by
  have k33 := fun w => made 33 34 (.float .f64 0) 8 (by omega) Yba.underlying33 info34 n h2 w
  have k31 := fun w => made 31 22 (.int .u64 0) 8 (by omega) Yba.underlying31 info22 n h2 w
  have ksf : ∀ (w : World) (a : Addr) (b : Nat) (m : Mode), (store a (.float .f64 b) m).run Yba.prog w = stored Yba.prog w a (.float .f64 b) m := fun w a b m => run_store Yba.prog w a _ m rfl
  have hn0 : ((n : Int) == 0) = false := beq_eq_false_iff_ne.2 (by omega)
  have W0 : Hid (IsRow .u32 w a0 n cap0 z0) := w0
  have hd := drawn_bd w0 i
  obtain ⟨p, hp⟩ := posIs_ex i n (by omega) (by omega) (by omega)
  clear w0
  go_enter Yba.func6, Yba.ntmps6
  go_wp2
  clear k33 k31
  go_loopw [8] (fun j wr => ∃ k : Nat, k ≤ n ∧ j = .int .i64 k ∧ Fill w wr w.heap.size w.heap.size (w.heap.size + 1) (w.heap.size + 2) n k (drawn z0 n)) (fun j _ => n - (intOf j).toNat)
  case atStart => exact ⟨0, by omega, rfl, fill_start _ (Below.refl _ _) (Nat.le_refl _)⟩
  case round =>
    obtain ⟨k, hk, rfl, hf⟩ := hrel
    by_cases hkn : k < n
    · obtain ⟨⟨x, hx⟩, ⟨y, hy⟩, f1, f2⟩ := hf.2.2.1 k hkn
      go_wp2_with fail
      refine (crange_any W0.out w.heap.size (Nat.le_refl _) k (by omega) _ hf.2.1).mono ?_
      rintro e w' ⟨rfl, rfl⟩
      have F : Hid (Fill w w' w.heap.size w.heap.size (w.heap.size + 1) (w.heap.size + 2) n k (drawn z0 n)) := hf
      clear hf
      go_wp2
      go_roundw
      case rel => exact ⟨k + 1, by omega, by go_num, fill_step F.out hkn (by omega) (by omega) (by omega)⟩
      case measure => simp [intOf]; omega
    · obtain rfl : k = n := by omega
      obtain ⟨hsz, hbel, -, hfin⟩ := hf
      obtain ⟨c1, c2⟩ := hfin i hi
      clear hfin
      generalize drawn z0 k i = v at *
      have P : Hid (PosIs i k p) := hp
      obtain ⟨Q, R, hQ, hR, q0, q1, hp⟩ := hp
      have HQ : Hid ((i * 18446744073709551616 + 0) / (k : Int) = Q) := hQ
      have HR : Hid ((i * 18446744073709551616 + 0) % (k : Int) = R) := hR
      clear hQ hR
      have hin : (i : Int) < k := by omega
      rcases hp with ⟨rfl, rfl⟩ | ⟨hr, rfl⟩
      · go_wp2_with fail
        refine (div64_n i 0 k _ 0 _ (by omega) hin (by omega) (by omega) (by omega) HQ.out HR.out).mono ?_
        rintro e w' ⟨rfl, m, rfl⟩
        go_wp2_with fail
        refine (check_even (w.heap.size + 2) w.heap.size k k i _ v _ (by simp [go_sem, hsz]) (by simp [go_sem, hsz]) hi h2 (by simp [go_sem, hsz]; exact c1) hd.1 hd.2 P.out).mono ?_
        rintro e w' ⟨rfl, hb⟩
        go_wp2
        go_ret
        exact ⟨rfl, (below_dN (hbel.alloc (by omega) _) m).trans (hb.mono (by simp; omega))⟩
      · have hbn : (R != 0) = true := by rw [bne_iff_ne]; exact hr
        go_wp2_with fail
        refine (div64_n i 0 k _ R _ (by omega) hin (by omega) (by omega) (by omega) HQ.out HR.out).mono ?_
        rintro e w' ⟨rfl, m, rfl⟩
        go_wp2_with fail
        refine (check_even (w.heap.size + 2) w.heap.size k k i _ v _ (by simp [go_sem, hsz]) (by simp [go_sem, hsz]) hi h2 (by simp [go_sem, hsz]; exact c1) hd.1 hd.2 P.out).mono ?_
        rintro e w' ⟨rfl, hb⟩
        go_wp2
        go_ret
        exact ⟨rfl, (below_dN (hbel.alloc (by omega) _) m).trans (hb.mono (by simp; omega))⟩

/-! ### STEP 1: THE WALK: the Go text returns true, AND WRITES NOTHING THAT WAS THERE: 'Below w.heap.size w w'' (Derived/Below.lean: '.refl', '.alloc', '.drew', '.setCell' at a new block, '.trans'). Open each 'IsRow' by 'rcases' AHEAD of 'go_enter'; part every test ahead of the walk. -/
theorem walk (a0 : Option Addr) (len0 cap0 : Nat) (z0 : List Int) (a1 : Int) (w : World) (w0 : IsRow .u32 w a0 len0 cap0 z0) (w1 : (Lit.int .u16 a1).wf = true) :
    Calls Yba.prog 6 #[.slice a0 len0 cap0, .int .u16 a1] w fun e w' => e = .returned (.bool true) ∧ Below w.heap.size w w' := by
  have b1 := bounds_u16 w1
  have hl : len0 ≤ 9223372036854775807 := by
    rcases w0 with ⟨_, h, _⟩ | ⟨_, _, h, hm, _⟩
    · omega
    · unfold maxLen at hm; omega
  by_cases h : len0 = 0 ∨ 1024 < len0
  · exact walk_out a0 len0 cap0 a1 w hl h
  · have hm : a1 % (len0 : Int) = ((a1.toNat % len0 : Nat) : Int) := by
      obtain ⟨m, rfl⟩ := Int.eq_ofNat_of_zero_le b1.1
      rw [Int.toNat_natCast, Int.natCast_emod]
    exact walk_in a0 len0 cap0 z0 a1 w w0 b1.1 b1.2 (by omega) (by omega) (a1.toNat % len0) (Nat.mod_lt _ (by omega)) hm

/-! ### THE ROW's STEP: WRITTEN OUT: LEAVE IT -/
set_option maxRecDepth 100000 in
theorem lifted (os : Os) (started : os.Started) (H : Type) (enc : TypeId × Value → H) :
    ReturnsInHanded {} Yba.checked os 6 .any (Rows.lawS4571CEvenSpec.pre6 enc Yba.prog Yba.f6 Rows.lawS4571CEvenRow.domain false) (Rows.lawS4571CEvenSpec.post enc Yba.prog Yba.f6 false true false false) := by
  refine returnsInHanded_of_change (C := Yba.checked) own started (by kernel_rfl) Yba.func6
    (ChangeSpec.witness6 (enc := enc) (C := Yba.checked) false ⟨#[], #[.slice none 0 0, .int .u16 0], []⟩ 8 (by kernel_rfl) (by kernel_rfl) (by kernel_rfl) (by kernel_rfl)) ?_
  intro W base args ds gs before hval0 hW hcnd _
  have hval : ∀ (j : Nat) t v, Yba.f6.params[j]? = some t → args[j]? = some v → Value.okWide Yba.prog W .any base t v := hval0
  have hW' := hW
  obtain ⟨p, q, hA0, hV, rfl, hfz, hnd⟩ := hW
  have hA : DataW.TrodAll enc Yba.prog W 0 (fun _ => true) true Yba.f6.params.toList args.toList ds p := hA0
  rw [Yba.params6] at hA hval
  obtain ⟨v0, vs0, d0, ds0, p0, q0, hargs, rfl, rfl, h0, r0⟩ := trodAll_cons hA
  obtain ⟨v1, vs1, d1, ds1, p1, q1, rfl, rfl, rfl, h1, r1⟩ := trodAll_cons r0
  obtain ⟨rfl, rfl, rfl⟩ := trodAll_nil r1
  obtain rfl : args = #[v0, v1] := by cases args; simp_all
  obtain ⟨rfl, rfl⟩ := trodVars_none hV
  obtain ⟨a0, len0, cap0, rfl⟩ := okWide_slice Yba.underlying32 (hval 0 32 v0 rfl rfl)
  have k0 := h0
  have lt0 : ∀ x ∈ p0, x.block < W.heap.size := by obtain ⟨m, hm⟩ := k0; exact DataW.trod_lt m _ _ _ hm
  obtain ⟨z0, w0⟩ : ∃ zs, IsRow .u32 W a0 len0 cap0 zs := by
    obtain ⟨fuel, hf⟩ := h0
    rcases open_ints Yba.underlying32 Yba.underlying52 (by kernel_rfl) hf with ⟨hcs, _⟩ | ⟨x, l, c, zs, hcs, _, hl, hm, hz, _, hcell, hwz⟩
    · simp [Value.cells] at hcs
      obtain ⟨rfl, rfl, rfl⟩ := hcs
      exact ⟨[], .inl ⟨rfl, rfl, rfl, rfl⟩⟩
    · simp [Value.cells] at hcs
      obtain ⟨rfl, rfl, rfl⟩ := hcs
      exact ⟨zs, .inr ⟨_, rfl, hl, hm, by simpa using hz, hcell, hwz⟩⟩
  obtain ⟨a1, rfl, rfl, rfl, w1⟩ := open_int Yba.underlying29 (hval 1 29 v1 rfl rfl) h1
  clear hA0 hval0
  refine (walk a0 len0 cap0 z0 a1 W w0 w1).mono fun e W' ⟨he, bel⟩ => ?_
  subst he
  exact ⟨_, rfl, _, _, _, [], _, [], hW', trodAll_mk1 (shut_bool Yba.underlying4 _), (trodAll_cons_mk (Below.trod laidOut (by kernel_rfl) (of_decide_eq_true (by kernel_rfl)) k0 bel lt0) (trodAll_cons_mk (shut_int Yba.underlying29 w1) trodAll_mk0)), rfl, bel.frame _, fun h => by cases h⟩

theorem over : Rows.lawS4571CEvenRow.holds Yba.pinned (OpenSpec.ofChange Rows.lawS4571CEvenSpec) :=
  OpenClaim.holds_of_wide 6 Yba.f6 rfl rfl rfl rfl rfl rfl rfl ⟨rfl, rfl, rfl, rfl, rfl⟩ rfl rfl rfl rfl rfl (by kernel_rfl) Yba.func6 (by kernel_rfl)
    (of_decide_eq_true (by kernel_rfl)) (by unfold Func.isWrapper; first | (rw [if_pos (by decide +kernel)]; kernel_rfl) | (rw [if_neg (by decide +kernel)]; exact ⟨rfl, rfl⟩))
    (fun os started H enc _ => lifted os started H enc)

/-- ████ THE STATEMENT ████ -/
theorem proved : Rows.LawS4571CEvenSaid := over
end Go.Proofs.Ybulkcpqi.lawS4571CEven
