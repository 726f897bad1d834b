/-
  THE SHELL OF A PROOF OF 'Rows.LawS4571CPlacedSaid' ('example.com/hopweave/hopweave/mariposa.LawS4571CPlaced'), WRITTEN BY PROGRAM (proof-skeleton.mjs, third state) off the guide's own print for that function. Not trusted: Lean checks it.
-/
import Derived.Test.YbulkcpqiRows
import Derived.Test.YbulkcpqiCheck
import Derived.Laws.CopyOwn
import Derived.BigQuiet
import Derived.Deep.QuietTactic
import Derived.Deep.RegionWith
import Derived.WalkKit
import Derived.ProofKit
import Derived.OpenShut
import Derived.ShutString
import Derived.ChangeOld
import Derived.Below
namespace Go.Proofs.Ybulkcpqi.lawS4571CPlaced
open Go.ChangeShapes Go.WideShapes Go.ChangeAt Go.RowKit
open Go.ChangeMaps (open_string shut_string)
set_option linter.unusedVariables false

theorem own : ownKnob Yba.prog.godebug = none := by kernel_rfl
theorem laidOut : laidOutB Yba.prog = true := by kernel_rfl

theorem below_dN {B : Nat} {a w : World} (h : Below B a w) (n : Nat) : Below B a (w.drewN n) := h.trans ⟨rfl, rfl, rfl, Nat.le_refl _, fun _ _ => rfl⟩

/-- nothing, or more than 1024 places: true at once -/
theorem walk_out (a0 : Option Addr) (len0 cap0 : Nat) (v1 : Value) (a2 : Int) (w : World) (hl : len0 ≤ 9223372036854775807) (h : len0 = 0 ∨ 1024 < len0) :
    Calls Yba.prog 5 #[.slice a0 len0 cap0, v1, .int .u16 a2] w fun e w' => e = .returned (.bool true) ∧ Below w.heap.size w w' := by
  rcases h with rfl | h
  · go_enter Yba.func5, Yba.ntmps5
    go_wp2
    go_ret
    exact ⟨rfl, Below.refl _ _⟩
  · go_enter Yba.func5, Yba.ntmps5
    go_wp2
    go_ret
    exact ⟨rfl, Below.refl _ _⟩

theorem sz22 : (Yba.prog.info? 22).map (·.size) = some 1 := by kernel_rfl

/-- What the copy leaves: the places' own row. -/
def Copied (w W : World) (n : Nat) (z0 : List Int) : Prop :=
  Below w.heap.size w W ∧ w.heap.size < W.heap.size ∧ ∀ t, t < n → W.cell? ⟨w.heap.size, t, none⟩ = some (.int .u64 (z0.getD t 0))

theorem copy_run (w : World) (b off n cap0 : Nat) (z0 : List Int) (hz : n ≤ z0.length) (hcell : ∀ t, t < n → w.cell? ⟨b, off + t, none⟩ = some (.int .u64 (z0.getD t 0))) :
    ∃ W, Copied w W n z0 ∧ (Builtin.copy_ #[31, 31] 3 #[.slice (some ⟨w.heap.size, 0, none⟩) n n, .slice (some ⟨b, off, none⟩) n cap0]).run Yba.prog (w.alloc (.cells (zrow (.int .u64 0) n) 22)) = .ok (goInt n) W := by
  have hlen : ((z0.take n).map (Value.int .u64)).length = n := by simp; omega
  have hg : (w.alloc (.cells (zrow (.int .u64 0) n) 22)).heap[w.heap.size]? = some (.cells (zrow (.int .u64 0) n) 22 (0, 0)) := heap_alloc_new _ _
  have hr := run_copy_row (P := Yba.prog) (w.alloc (.cells (zrow (.int .u64 0) n) 22)) 31 31 3 22 w.heap.size 0 n n ⟨b, off, none⟩ n cap0 (zrow (.int .u64 0) n) 22 ((z0.take n).map (Value.int .u64)) Yba.underlying31 sz22 hg (by rw [hlen]; exact (Nat.min_self n).symm)
    (by
      intro j v hj
      have hjn : j < n := by
        have := (List.getElem?_eq_some_iff.1 hj).1
        omega
      rw [Go.WideShapes.add_plain]
      have hc := hcell j hjn
      have hlt := World.block_lt_of_cell? _ _ hc
      rw [World.cell?_alloc_past _ _ _ hlt, hc, ← hj, List.getElem?_map, List.getElem?_take_of_lt hjn, List.getElem?_eq_getElem (by omega), List.getD_eq_getElem?_getD, List.getElem?_eq_getElem (by omega)]
      rfl)
    (by rw [hlen, zrow_size]; omega)
    (by intro v hv; obtain ⟨x, _, rfl⟩ := List.mem_map.1 hv; rfl)
  rw [hlen] at hr
  refine ⟨_, ⟨?_, ?_, ?_⟩, hr⟩
  · exact below_setRow ((Below.refl _ _).alloc (Nat.le_refl _) _) (Nat.le_refl _) _
  · simp
  · intro t ht
    rw [cell_of_row _ _ t _ _ _ (setRow_heap _ _ _ _ _ _ hg)]
    simp only [List.take_zero, List.nil_append, List.getElem?_toArray]
    rw [List.getElem?_append_left (by omega), List.getElem?_map, List.getElem?_take_of_lt ht, List.getElem?_eq_getElem (by omega), List.getD_eq_getElem?_getD, List.getElem?_eq_getElem (by omega)]
    rfl

/-- The world in which the check is called: two rows of numbers for the nodes and their places, and the overlay. -/
theorem ck (w W wr : World) (A : Array Value) (x y k i : Nat) (p v : Int) (hsz : wr.heap.size = W.heap.size + 2) (hlt : w.heap.size < W.heap.size)
    (c0 : wr.cell? ⟨w.heap.size, i, none⟩ = some (.int .u64 p)) (c1 : wr.cell? ⟨W.heap.size, i, none⟩ = some (.float .f64 (flr v))) (hi : i < k) (hk : k ≤ 1024) (v0 : 0 ≤ v) (v1 : v ≤ 4294967295) (p0 : 0 ≤ p) (p1 : p ≤ 18446744073709551615) :
    Calls Yba.prog 11 #[.pointer (some ⟨W.heap.size + 2 + 1 + 1, 0, none⟩), .int .i64 i, .int .u64 p, .int .u64 (v * 4294967296)]
      (((wr.alloc (.cells A 21)).alloc (.cells A 21)).alloc (.cells #[.int .i64 0, .slice (some ⟨w.heap.size, 0, none⟩) k k, .slice (some ⟨x, 0, none⟩) k k, .slice (some ⟨y, 0, none⟩) k k, .slice none 0 0, .int .u64 0, .slice (some ⟨W.heap.size, 0, none⟩) k k,
        .slice none 0 0, .slice none 0 0, .slice none 0 0, .float .f64 0, .float .f64 0, .float .f64 0, .float .f64 0, .float .f64 0, .int .i64 0, .int .i64 0, .int .i64 0] 47)).drew.drew
      fun e w' => e = .returned (.bool true) ∧ Below (W.heap.size + 2) wr w' := by
  have s3 : ((wr.alloc (.cells A 21)).alloc (.cells A 21)).heap.size = W.heap.size + 2 + 1 + 1 := by simp [hsz]
  have hb0 : Below (W.heap.size + 2) wr ((wr.alloc (.cells A 21)).alloc (.cells A 21)) := ((Below.refl _ _).alloc (by omega) _).alloc (by simp; omega) _
  have c0' : ((wr.alloc (.cells A 21)).alloc (.cells A 21)).cell? ⟨w.heap.size, i, none⟩ = some (.int .u64 p) := (hb0.cell (p := ⟨w.heap.size, i, none⟩) (by show w.heap.size < _; omega)).trans c0
  have c1' : ((wr.alloc (.cells A 21)).alloc (.cells A 21)).cell? ⟨W.heap.size, i, none⟩ = some (.float .f64 (flr v)) := (hb0.cell (p := ⟨W.heap.size, i, none⟩) (by show W.heap.size < _; omega)).trans c1
  generalize (wr.alloc (.cells A 21)).alloc (.cells A 21) = X at *
  refine (check_placed (W.heap.size + 2 + 1 + 1) W.heap.size k k i p v ⟨y, 0, none⟩ k k w.heap.size k _ ?_ ?_ ?_ ?_ hi hk ?_ v0 v1 p0 p1).mono ?_
  · show (X.alloc _).cell? _ = _
    rw [World.cell?_alloc_at _ _ _ _ s3.symm]; rfl
  · show (X.alloc _).cell? _ = _
    rw [World.cell?_alloc_at _ _ _ _ s3.symm]; rfl
  · show (X.alloc _).cell? _ = _
    rw [World.cell?_alloc_at _ _ _ _ s3.symm]; rfl
  · show (X.alloc _).cell? _ = _
    rw [World.cell?_alloc_past _ _ _ (by omega)]; exact c0'
  · show (X.alloc _).cell? _ = _
    rw [World.cell?_alloc_past _ _ _ (by omega)]; exact c1'
  · rintro e w' ⟨rfl, hb⟩
    refine ⟨rfl, ?_⟩
    have hb1 : Below (W.heap.size + 2) wr (X.alloc (.cells #[.int .i64 0, .slice (some ⟨w.heap.size, 0, none⟩) k k, .slice (some ⟨x, 0, none⟩) k k, .slice (some ⟨y, 0, none⟩) k k, .slice none 0 0, .int .u64 0, .slice (some ⟨W.heap.size, 0, none⟩) k k,
        .slice none 0 0, .slice none 0 0, .slice none 0 0, .float .f64 0, .float .f64 0, .float .f64 0, .float .f64 0, .float .f64 0, .int .i64 0, .int .i64 0, .int .i64 0] 47)) := hb0.alloc (by omega) _
    refine (hb1.drew.drew).trans (hb.mono ?_)
    show _ ≤ (X.alloc _).heap.size
    simp [s3]

set_option maxHeartbeats 1000000 in
theorem walk_in (b off n cap0 : Nat) (z0 : List Int) (a1 : Option Addr) (len1 cap1 : Nat) (z1 : List Int) (a2 : Int) (w : World) (hz : n ≤ z0.length) (hcell : ∀ t, t < n → w.cell? ⟨b, off + t, none⟩ = some (.int .u64 (z0.getD t 0)))
    (hzb : ∀ t, 0 ≤ z0.getD t 0 ∧ z0.getD t 0 ≤ 18446744073709551615)
    (w1 : IsRow .u32 w a1 len1 cap1 z1) (b0 : 0 ≤ a2) (b1 : a2 ≤ 65535) (h1 : 1 ≤ n) (h2 : n ≤ 1024) (i : Nat) (hi : i < n) (ei : a2 % (n : Int) = (i : Int)) :
    Calls Yba.prog 5 #[.slice (some ⟨b, off, none⟩) n cap0, .slice a1 len1 cap1, .int .u16 a2] w fun e w' => e = .returned (.bool true) ∧ Below w.heap.size w w' := by
  have k33 := fun w => made 33 34 (.float .f64 0) 8 (by omega) Yba.underlying33 info34 n h2 w
  have k31 := fun w => made 31 22 (.int .u64 0) 8 (by omega) Yba.underlying31 info22 n h2 w
  have k38 := fun w => made 38 21 (.int .i32 0) 4 (by omega) Yba.underlying38 info21 n h2 w
  have ksf : ∀ (w : World) (a : Addr) (b : Nat) (m : Mode), (store a (.float .f64 b) m).run Yba.prog w = stored Yba.prog w a (.float .f64 b) m := fun w a b m => run_store Yba.prog w a _ m rfl
  have hn0 : ((n : Int) == 0) = false := beq_eq_false_iff_ne.2 (by omega)
  have W1 : Hid (IsRow .u32 w a1 len1 cap1 z1) := w1
  obtain ⟨W, hcp, kcp⟩ := copy_run w b off n cap0 z0 hz hcell
  have HC : Hid (∀ t, t < n → w.cell? ⟨b, off + t, none⟩ = some (.int .u64 (z0.getD t 0))) := hcell
  have HZ : Hid (∀ t, 0 ≤ z0.getD t 0 ∧ z0.getD t 0 ≤ 18446744073709551615) := hzb
  have hd := drawn_bd w1 i
  clear w1 hcell hzb
  go_enter Yba.func5, Yba.ntmps5
  go_wp2
  clear kcp k33 k31
  go_loopw [11] (fun j wr => ∃ k : Nat, k ≤ n ∧ j = .int .i64 k ∧ Fill W wr W.heap.size W.heap.size (W.heap.size + 1) (W.heap.size + 2) n k (drawn z1 len1)) (fun j _ => n - (intOf j).toNat)
  case atStart => exact ⟨0, by omega, rfl, fill_start _ (Below.refl _ _) (Nat.le_refl _)⟩
  case round =>
    obtain ⟨k, hk, rfl, hf⟩ := hrel
    by_cases hkn : k < n
    · obtain ⟨⟨x, hx⟩, ⟨y, hy⟩, f1, f2⟩ := hf.2.2.1 k hkn
      have hbl : Below w.heap.size w wr := hcp.1.trans (hf.2.1.mono (Nat.le_of_lt hcp.2.1))
      go_wp2_with fail
      refine (crange_any W1.out w.heap.size (Nat.le_refl _) k (by omega) _ hbl).mono ?_
      rintro e w' ⟨rfl, rfl⟩
      have F : Hid (Fill W w' W.heap.size W.heap.size (W.heap.size + 1) (W.heap.size + 2) n k (drawn z1 len1)) := hf
      clear hf hbl
      go_wp2
      go_roundw
      case rel => exact ⟨k + 1, by omega, by go_num, fill_step F.out hkn (by omega) (by omega) (by omega)⟩
      case measure => simp [intOf]; omega
    · obtain rfl : k = n := by omega
      obtain ⟨hsz, hbel, -, hfin⟩ := hf
      obtain ⟨c1, c2⟩ := hfin i hi
      clear hfin
      generalize drawn z1 len1 i = v at *
      obtain ⟨hbw, hlt, hps⟩ := hcp
      have hps2 : Hid (∀ t, t < k → wr.cell? ⟨w.heap.size, t, none⟩ = some (.int .u64 (z0.getD t 0))) := fun t ht => (hbel.cell (p := ⟨w.heap.size, t, none⟩) hlt).trans (hps t ht)
      have hbl : Below w.heap.size w wr := hbw.trans (hbel.mono (Nat.le_of_lt hlt))
      have c0 : wr.cell? ⟨w.heap.size, i, none⟩ = some (.int .u64 (z0.getD i 0)) := hps2.out i hi
      obtain ⟨pb0, pb1⟩ := HZ.out i
      generalize z0.getD i 0 = p at *
      clear hps hbw hbel
      have z1 : w.heap.size < W.heap.size + 2 := by omega
      have z2 : w.heap.size < W.heap.size + 2 + 1 := by omega
      have z3 : w.heap.size < W.heap.size + 2 + 1 + 1 := by omega
      go_wp2
      go_region
      all_goals
        go_wp2
        go_region_with (go_at_call 11; refine (ck w W wr _ _ _ k i p v hsz hlt c0 c1 hi h2 hd.1 hd.2 pb0 pb1).mono ?_; rintro e w' ⟨rfl, hb⟩)
        all_goals
          go_wp2
          clear c0 c1 c2 hd pb0 pb1 ei k38 ksf hsz
          go_loopw [16] (fun j wq => ∃ t : Nat, t ≤ k ∧ j = .int .i64 t ∧ Below (W.heap.size + 2) wr wq) (fun j _ => k - (intOf j).toNat)
          case atStart => exact ⟨0, by omega, rfl, by assumption⟩
          case round =>
            rename_i wq _
            obtain ⟨t, ht, rfl, hq⟩ := hrel
            by_cases htk : t < k
            · have d1 := (hq.cell (p := ⟨w.heap.size, t, none⟩) z1).trans (hps2.out t htk)
              have hw0 := HC.out t htk
              have hbb : b < w.heap.size := World.block_lt_of_cell? _ _ hw0
              have d2 := ((hq.cell (p := ⟨b, off + t, none⟩) (by show b < _; omega)).trans (hbl.cell (p := ⟨b, off + t, none⟩) hbb)).trans hw0
              generalize z0.getD t 0 = z at *
              have htk' : (t : Int) < (k : Int) := by omega
              clear hw0
              go_wp2
              go_quiet (fail)
              go_wp2
              go_roundw
              case rel => exact ⟨t + 1, by omega, by go_num, below_dN hq _⟩
              case measure => simp [intOf]; omega
            · go_wp2
              go_ret
              exact ⟨rfl, hbl.trans (hq.mono (by omega))⟩

/-! ### STEP 1: THE WALK: the Go text returns true, AND WRITES NOTHING THAT WAS THERE: 'Below w.heap.size w w'' (Derived/Below.lean: '.refl', '.alloc', '.drew', '.setCell' at a new block, '.trans'). Open each 'IsRow' by 'rcases' AHEAD of 'go_enter'; part every test ahead of the walk. -/
theorem walk (a0 : Option Addr) (len0 cap0 : Nat) (z0 : List Int) (a1 : Option Addr) (len1 cap1 : Nat) (z1 : List Int) (a2 : Int) (w : World) (w0 : IsRow .u64 w a0 len0 cap0 z0) (w1 : IsRow .u32 w a1 len1 cap1 z1) (w2 : (Lit.int .u16 a2).wf = true) :
    Calls Yba.prog 5 #[.slice a0 len0 cap0, .slice a1 len1 cap1, .int .u16 a2] w fun e w' => e = .returned (.bool true) ∧ Below w.heap.size w w' := by
  have b2 := bounds_u16 w2
  have hl : len0 ≤ 9223372036854775807 := by
    rcases w0 with ⟨_, h, _⟩ | ⟨_, _, h, hm, _⟩
    · omega
    · unfold maxLen at hm; omega
  by_cases h : len0 = 0 ∨ 1024 < len0
  · exact walk_out a0 len0 cap0 _ a2 w hl h
  · have hm : a2 % (len0 : Int) = ((a2.toNat % len0 : Nat) : Int) := by
      obtain ⟨m, rfl⟩ := Int.eq_ofNat_of_zero_le b2.1
      rw [Int.toNat_natCast, Int.natCast_emod]
    rcases w0 with ⟨_, h0, _⟩ | ⟨x, rfl, hlc, hmx, hz, hc, hw⟩
    · omega
    · obtain ⟨b, off, rfl, hc'⟩ := ints_at hc (by omega)
      refine walk_in b off len0 cap0 z0 a1 len1 cap1 z1 a2 w (by omega) (fun t ht => hc' t (by omega)) ?_ w1 b2.1 b2.2 (by omega) (by omega) (a2.toNat % len0) (Nat.mod_lt _ (by omega)) hm
      intro t
      rw [List.getD_eq_getElem?_getD]
      by_cases ht : t < z0.length
      · rw [List.getElem?_eq_getElem ht, Option.getD_some]
        exact bounds_u64 (hw _ (List.getElem_mem ht))
      · rw [List.getElem?_eq_none (by omega)]
        simp

/-! ### THE ROW's STEP: WRITTEN OUT: LEAVE IT -/
set_option maxRecDepth 100000 in
theorem lifted (os : Os) (started : os.Started) (H : Type) (enc : TypeId × Value → H) :
    ReturnsInHanded {} Yba.checked os 5 .any (Rows.lawS4571CPlacedSpec.pre6 enc Yba.prog Yba.f5 Rows.lawS4571CPlacedRow.domain false) (Rows.lawS4571CPlacedSpec.post enc Yba.prog Yba.f5 false true false false) := by
  refine returnsInHanded_of_change (C := Yba.checked) own started (by kernel_rfl) Yba.func5
    (ChangeSpec.witness6 (enc := enc) (C := Yba.checked) false ⟨#[], #[.slice none 0 0, .slice none 0 0, .int .u16 0], []⟩ 8 (by kernel_rfl) (by kernel_rfl) (by kernel_rfl) (by kernel_rfl)) ?_
  intro W base args ds gs before hval0 hW hcnd _
  have hval : ∀ (j : Nat) t v, Yba.f5.params[j]? = some t → args[j]? = some v → Value.okWide Yba.prog W .any base t v := hval0
  have hW' := hW
  obtain ⟨p, q, hA0, hV, rfl, hfz, hnd⟩ := hW
  have hA : DataW.TrodAll enc Yba.prog W 0 (fun _ => true) true Yba.f5.params.toList args.toList ds p := hA0
  rw [Yba.params5] at hA hval
  obtain ⟨v0, vs0, d0, ds0, p0, q0, hargs, rfl, rfl, h0, r0⟩ := trodAll_cons hA
  obtain ⟨v1, vs1, d1, ds1, p1, q1, rfl, rfl, rfl, h1, r1⟩ := trodAll_cons r0
  obtain ⟨v2, vs2, d2, ds2, p2, q2, rfl, rfl, rfl, h2, r2⟩ := trodAll_cons r1
  obtain ⟨rfl, rfl, rfl⟩ := trodAll_nil r2
  obtain rfl : args = #[v0, v1, v2] := by cases args; simp_all
  obtain ⟨rfl, rfl⟩ := trodVars_none hV
  obtain ⟨a0, len0, cap0, rfl⟩ := okWide_slice Yba.underlying31 (hval 0 31 v0 rfl rfl)
  have k0 := h0
  have lt0 : ∀ x ∈ p0, x.block < W.heap.size := by obtain ⟨m, hm⟩ := k0; exact DataW.trod_lt m _ _ _ hm
  obtain ⟨z0, w0⟩ : ∃ zs, IsRow .u64 W a0 len0 cap0 zs := by
    obtain ⟨fuel, hf⟩ := h0
    rcases open_ints Yba.underlying31 Yba.underlying22 (by kernel_rfl) hf with ⟨hcs, _⟩ | ⟨x, l, c, zs, hcs, _, hl, hm, hz, _, hcell, hwz⟩
    · simp [Value.cells] at hcs
      obtain ⟨rfl, rfl, rfl⟩ := hcs
      exact ⟨[], .inl ⟨rfl, rfl, rfl, rfl⟩⟩
    · simp [Value.cells] at hcs
      obtain ⟨rfl, rfl, rfl⟩ := hcs
      exact ⟨zs, .inr ⟨_, rfl, hl, hm, by simpa using hz, hcell, hwz⟩⟩
  obtain ⟨a1, len1, cap1, rfl⟩ := okWide_slice Yba.underlying32 (hval 1 32 v1 rfl rfl)
  have k1 := h1
  have lt1 : ∀ x ∈ p1, x.block < W.heap.size := by obtain ⟨m, hm⟩ := k1; exact DataW.trod_lt m _ _ _ hm
  obtain ⟨z1, w1⟩ : ∃ zs, IsRow .u32 W a1 len1 cap1 zs := by
    obtain ⟨fuel, hf⟩ := h1
    rcases open_ints Yba.underlying32 Yba.underlying52 (by kernel_rfl) hf with ⟨hcs, _⟩ | ⟨x, l, c, zs, hcs, _, hl, hm, hz, _, hcell, hwz⟩
    · simp [Value.cells] at hcs
      obtain ⟨rfl, rfl, rfl⟩ := hcs
      exact ⟨[], .inl ⟨rfl, rfl, rfl, rfl⟩⟩
    · simp [Value.cells] at hcs
      obtain ⟨rfl, rfl, rfl⟩ := hcs
      exact ⟨zs, .inr ⟨_, rfl, hl, hm, by simpa using hz, hcell, hwz⟩⟩
  obtain ⟨a2, rfl, rfl, rfl, w2⟩ := open_int Yba.underlying29 (hval 2 29 v2 rfl rfl) h2
  clear hA0 hval0
  refine (walk a0 len0 cap0 z0 a1 len1 cap1 z1 a2 W w0 w1 w2).mono fun e W' ⟨he, bel⟩ => ?_
  subst he
  exact ⟨_, rfl, _, _, _, [], _, [], hW', trodAll_mk1 (shut_bool Yba.underlying4 _), (trodAll_cons_mk (Below.trod laidOut (by kernel_rfl) (of_decide_eq_true (by kernel_rfl)) k0 bel lt0) (trodAll_cons_mk (Below.trod laidOut (by kernel_rfl) (of_decide_eq_true (by kernel_rfl)) k1 bel lt1) (trodAll_cons_mk (shut_int Yba.underlying29 w2) trodAll_mk0))), rfl, bel.frame _, fun h => by cases h⟩

theorem over : Rows.lawS4571CPlacedRow.holds Yba.pinned (OpenSpec.ofChange Rows.lawS4571CPlacedSpec) :=
  OpenClaim.holds_of_wide 5 Yba.f5 rfl rfl rfl rfl rfl rfl rfl ⟨rfl, rfl, rfl, rfl, rfl⟩ rfl rfl rfl rfl rfl (by kernel_rfl) Yba.func5 (by kernel_rfl)
    (of_decide_eq_true (by kernel_rfl)) (by unfold Func.isWrapper; first | (rw [if_pos (by decide +kernel)]; kernel_rfl) | (rw [if_neg (by decide +kernel)]; exact ⟨rfl, rfl⟩))
    (fun os started H enc _ => lifted os started H enc)

/-- ████ THE STATEMENT ████ -/
theorem proved : Rows.LawS4571CPlacedSaid := over
end Go.Proofs.Ybulkcpqi.lawS4571CPlaced
