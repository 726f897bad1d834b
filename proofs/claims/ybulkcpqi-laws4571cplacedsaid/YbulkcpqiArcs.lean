/-
  mariposa's arcs over this program: zzs4571crange, units, Nodes, ring.Position, (*Overlay).position.
-/
import Derived.Test.YbulkcpqiCut
import Derived.Test.YbulkcpqiFloat
import Derived.WalkLawsBesides
import Derived.Below
import Derived.Lib.SliceRun
import Derived.BigQuiet
import Derived.Deep.QuietTactic
namespace Go.Proofs.Ybulkcpqi
open Go.RowKit
set_option linter.unusedVariables false

/-- units: the word of v*2^-32, in units of 2^-64. -/
theorem units_any (v : Int) (w : World) (h0 : 0 ≤ v) (h1 : v ≤ 4294967295) :
    Calls Yba.prog 16 #[.float .f64 (flr v)] w fun e w' => e = .returned (.int .u64 (v * 4294967296)) ∧ w' = w := by
  have k1 := fun w => run_float_arith (P := Yba.prog) w .mul 34 .f64 (flr v) 4895412794951729152 (flu v) (flu_of v h0 h1)
  have k2 := fun w => run_convert_float_int (P := Yba.prog) w 34 22 .f64 .u64 (flu v) (v * 4294967296) (by rw [Yba.underlying34]; rfl) Yba.underlying22 (flu_int v h0 h1)
  go_enter Yba.func16, Yba.ntmps16
  go_wp2
  go_ret
  exact ⟨rfl, rfl⟩

/-- zzs4571crange at no numbers. -/
theorem crange_none (a : Option Addr) (cap : Nat) (j : Int) (w : World) :
    Calls Yba.prog 10 #[.slice a 0 cap, .int .i64 j] w fun e w' => e = .returned (.tuple #[.float .f64 (flr 0), .int .u64 (0 * 4294967296)]) ∧ w' = w := by
  go_enter Yba.func10, Yba.ntmps10
  go_wp2
  go_ret2
  exact ⟨rfl, rfl⟩

/-- zzs4571crange: the number at j % len. -/
theorem crange_some (b off len cap : Nat) (j v : Int) (w : World) (hlen : 1 ≤ len) (hlen1 : len ≤ 9223372036854775807) (j0 : 0 ≤ j) (j1 : j ≤ 9223372036854775807) (h0 : 0 ≤ v) (h1 : v ≤ 4294967295)
    (hm0 : 0 ≤ j % (len : Int)) (hm1 : j % (len : Int) < len)
    (hc : w.cell? ⟨b, off + (j % (len : Int)).toNat, none⟩ = some (.int .u32 v)) :
    Calls Yba.prog 10 #[.slice (some ⟨b, off, none⟩) len cap, .int .i64 j] w fun e w' => e = .returned (.tuple #[.float .f64 (flr v), .int .u64 (v * 4294967296)]) ∧ w' = w := by
  have k1 := fun w => run_float_arith (P := Yba.prog) w .mul 34 .f64 (floatOfInt .f64 v) 4463067230724161536 (flr v) (flr_of v h0 h1)
  have hl0 : ((len : Int) == 0) = false := beq_eq_false_iff_ne.2 (by omega)
  go_enter Yba.func10, Yba.ntmps10
  go_wp2
  go_ret2
  exact ⟨rfl, rfl⟩

/-- ⌈i*2^64/n⌉, by its quotient and remainder. -/
def PosIs (i n p : Int) : Prop := ∃ Q R, (i * 18446744073709551616 + 0) / n = Q ∧ (i * 18446744073709551616 + 0) % n = R ∧ 0 ≤ Q ∧ Q + 1 ≤ 18446744073709551615 ∧ (R = 0 ∧ p = Q ∨ R ≠ 0 ∧ p = Q + 1)

theorem posIs_ex (i n : Int) (h0 : 0 ≤ i) (h1 : i < n) (hn : n ≤ 1024) : ∃ p, PosIs i n p := by
  have q0 : 0 ≤ (i * 18446744073709551616 + 0) / n := Int.ediv_nonneg (by omega) (by omega)
  have q1 : (i * 18446744073709551616 + 0) / n < 18446744073709551615 := by
    rw [Int.ediv_lt_iff_lt_mul (by omega)]; omega
  by_cases hz : (i * 18446744073709551616 + 0) % n = 0
  · exact ⟨_, _, _, rfl, rfl, q0, by omega, Or.inl ⟨hz, rfl⟩⟩
  · exact ⟨_, _, _, rfl, rfl, q0, by omega, Or.inr ⟨hz, rfl⟩⟩

theorem posIs_bd {i n p : Int} (h : PosIs i n p) : 0 ≤ p ∧ p ≤ 18446744073709551615 := by
  obtain ⟨Q, R, _, _, a, b, c⟩ := h
  omega

/-- ring.Position -/
theorem ringPos_any (i n p : Int) (w : World) (h0 : 0 ≤ i) (h1 : i < n) (hn : n ≤ 1024) (hp : PosIs i n p) :
    Calls Yba.prog 18 #[.int .i64 i, .int .i64 n] w fun e w' => e = .returned (.int .u64 p) ∧ ∃ m, w' = w.drewN m := by
  obtain ⟨Q, R, hQ, hR, q0, q1, hp⟩ := hp
  have HQ : Hid ((i * 18446744073709551616 + 0) / n = Q) := hQ
  have HR : Hid ((i * 18446744073709551616 + 0) % n = R) := hR
  clear hQ hR
  rcases hp with ⟨rfl, rfl⟩ | ⟨hr, rfl⟩
  · go_enter Yba.func18, Yba.ntmps18
    go_wp2_with (go_at_call 12; refine (div64_n i 0 n _ 0 _ h0 h1 (by omega) (by omega) (by omega) HQ.out HR.out).mono ?_; rintro e w' ⟨rfl, m, rfl⟩)
    go_ret
    exact ⟨rfl, _, rfl⟩
  · have hb : (R != 0) = true := by rw [bne_iff_ne]; exact hr
    go_enter Yba.func18, Yba.ntmps18
    go_wp2_with (go_at_call 12; refine (div64_n i 0 n _ R _ h0 h1 (by omega) (by omega) (by omega) HQ.out HR.out).mono ?_; rintro e w' ⟨rfl, m, rfl⟩)
    go_ret
    exact ⟨rfl, _, rfl⟩

/-- (*Overlay).Nodes -/
theorem nodes_any (ob : Nat) (ra : Option Addr) (n c : Nat) (w : World) (hr : w.cell? ⟨ob, 6, none⟩ = some (.slice ra n c)) :
    Calls Yba.prog 19 #[.pointer (some ⟨ob, 0, none⟩)] w fun e w' => e = .returned (.int .i64 n) ∧ w' = w := by
  go_enter Yba.func19, Yba.ntmps19
  go_wp2
  go_ret
  exact ⟨rfl, rfl⟩

/-- (*Overlay).position where the nodes stand evenly -/
theorem position_even (ob : Nat) (ra : Option Addr) (n c : Nat) (i p : Int) (w : World) (hr : w.cell? ⟨ob, 6, none⟩ = some (.slice ra n c)) (hpl : w.cell? ⟨ob, 3, none⟩ = some (.slice none 0 0))
    (h0 : 0 ≤ i) (h1 : i < n) (hn : n ≤ 1024) (hp : PosIs i n p) :
    Calls Yba.prog 15 #[.pointer (some ⟨ob, 0, none⟩), .int .i64 i] w fun e w' => e = .returned (.int .u64 p) ∧ ∃ m, w' = w.drewN m := by
  have q38 : ∀ (w : World) (a : Option Addr) (n c n' c' : Nat), (binOp .eql 38 (.slice a n c) (.slice none n' c')).run Yba.prog w = .ok (.bool a.isNone) w := fun w a n c n' c' => Lib.run_eql_slice_nil w _ _ a n c n' c' Yba.underlying38
  go_enter Yba.func15, Yba.ntmps15
  go_wp2_with (first | (go_at_call 19; refine (nodes_any ob ra n c _ hr).mono ?_; rintro e w' ⟨rfl, rfl⟩) | (go_at_call 18; refine (ringPos_any i n p _ h0 h1 (by omega) hp).mono ?_; rintro e w' ⟨rfl, m, rfl⟩))
  go_ret
  exact ⟨rfl, _, rfl⟩

/-- (*Overlay).position where each stands at a place of its own -/
theorem position_placed (ob : Nat) (pa : Addr) (pl pc : Nat) (xb n c : Nat) (i : Nat) (p : Int) (w : World) (hpl : w.cell? ⟨ob, 3, none⟩ = some (.slice (some pa) pl pc))
    (hx : w.cell? ⟨ob, 1, none⟩ = some (.slice (some ⟨xb, 0, none⟩) n c)) (h1 : i < n) (hn : n ≤ 1024) (hp : w.cell? ⟨xb, i, none⟩ = some (.int .u64 p)) :
    Calls Yba.prog 15 #[.pointer (some ⟨ob, 0, none⟩), .int .i64 i] w fun e w' => e = .returned (.int .u64 p) ∧ ∃ m, w' = w.drewN m := by
  have q38 : ∀ (w : World) (a : Option Addr) (n c n' c' : Nat), (binOp .eql 38 (.slice a n c) (.slice none n' c')).run Yba.prog w = .ok (.bool a.isNone) w := fun w a n c n' c' => Lib.run_eql_slice_nil w _ _ a n c n' c' Yba.underlying38
  go_enter Yba.func15, Yba.ntmps15
  go_wp2
  go_ret
  exact ⟨rfl, 0, rfl⟩

/-! ### (*Overlay).arc: its position by a contract (hpos), its range in memory -/
theorem below_one (w : World) (o : Obj) (n : Nat) : Below w.heap.size w ((w.alloc o).drewN n) := ((Below.refl _ _).alloc (Nat.le_refl _) _).trans ⟨rfl, rfl, rfl, Nat.le_refl _, fun _ _ => rfl⟩

theorem arc_any (ob rb n c : Nat) (i : Nat) (p v : Int) (role : Int) (w : World) (S Lg : Int) (hro : role = 0 ∧ S = p ∧ Lg = v * 4294967296 ∨ role = 1 ∧ S = IntKind.u64.wrap (p - v * 4294967296) ∧ Lg = v * 4294967296 ∨ role = 2 ∧ S = IntKind.u64.wrap (p + v * 4294967296) ∧ Lg = IntKind.u64.wrap (-IntKind.u64.wrap (2 * (v * 4294967296)))) (hr : w.cell? ⟨ob, 6, none⟩ = some (.slice (some ⟨rb, 0, none⟩) n c))
    (h1 : i < n) (hn : n ≤ 1024) (hv : w.cell? ⟨rb, i, none⟩ = some (.float .f64 (flr v))) (hob : ob < w.heap.size) (hrb : rb < w.heap.size) (v0 : 0 ≤ v) (v1 : v ≤ 4294967295) (p0 : 0 ≤ p) (p1 : p ≤ 18446744073709551615)
    (hpos : Hid (∀ W, Below w.heap.size w W → Calls Yba.prog 15 #[.pointer (some ⟨ob, 0, none⟩), .int .i64 i] W fun e w' => e = .returned (.int .u64 p) ∧ ∃ m, w' = W.drewN m)) :
    Calls Yba.prog 13 #[.pointer (some ⟨ob, 0, none⟩), .int .i64 i, .int .i64 role] w fun e w' => e = .returned (.agg #[.int .u64 S, .int .u64 Lg]) ∧ Below w.heap.size w w' := by
  have hb1 := below_one w
  rcases hro with ⟨rfl, rfl, rfl⟩ | ⟨rfl, rfl, rfl⟩ | ⟨rfl, rfl, rfl⟩
  all_goals
    go_enter Yba.func13, Yba.ntmps13
    go_wp2
    go_quiet ((first | (go_at_call 15; exact Calls.quiet_of (hpos.out _ (hb1 _ _))) | (go_at_call 16; exact Calls.quiet_of_same (units_any v _ v0 v1))))
    go_wp2
  · exact bodyPost_ret (v := .agg #[.int .u64 _, .int .u64 (v * 4294967296)]) (by simp [results, Yba.results13, go_sem]) rfl ⟨rfl, ((hb1 _ _).setCell (Nat.le_refl _) _).setCell (Nat.le_refl _) _⟩
  · exact bodyPost_ret (v := .agg #[.int .u64 (IntKind.u64.wrap (p - v * 4294967296)), .int .u64 (v * 4294967296)]) (by simp [results, Yba.results13, go_sem]) rfl ⟨rfl, ((hb1 _ _).setCell (Nat.le_refl _) _).setCell (Nat.le_refl _) _⟩
  · exact bodyPost_ret (v := .agg #[.int .u64 (IntKind.u64.wrap (p + v * 4294967296)), .int .u64 (IntKind.u64.wrap (-IntKind.u64.wrap (2 * (v * 4294967296))))]) (by simp [results, Yba.results13, go_sem]) rfl ⟨rfl, ((hb1 _ _).setCell (Nat.le_refl _) _).setCell (Nat.le_refl _) _⟩

theorem bcell {W w1 : World} (hb : Below W.heap.size W w1) : (∀ b o, b < W.heap.size → w1.cell? ⟨b, o, none⟩ = W.cell? ⟨b, o, none⟩) ∧ (∀ b o, b < W.heap.size → w1.frozen? ⟨b, o, none⟩ = W.frozen? ⟨b, o, none⟩) :=
  ⟨fun b o h => hb.cell (p := ⟨b, o, none⟩) h, fun b o h => hb.frozen (p := ⟨b, o, none⟩) h⟩

/-- zzs4571ccheck, the three arcs by their contracts. -/
theorem ccheck_any (ob : Nat) (i : Nat) (p r S1 S2 L2 : Int) (w : World) (p0 : 0 ≤ p) (p1 : p ≤ 18446744073709551615) (r0 : 0 ≤ r) (r1 : r ≤ 18446744073709551615)
    (e1 : IntKind.u64.wrap (p - r) = S1) (e2 : IntKind.u64.wrap (p + r) = S2) (e3 : IntKind.u64.wrap (-IntKind.u64.wrap (2 * r)) = L2) (e4 : IntKind.u64.wrap (S2 + L2) = S1) (e5 : IntKind.u64.wrap (S1 + r) = p)
    (harc : Hid (∀ W, Below w.heap.size w W → ∀ role S L, (role = 0 ∧ S = p ∧ L = r ∨ role = 1 ∧ S = S1 ∧ L = r ∨ role = 2 ∧ S = S2 ∧ L = L2) →
      Calls Yba.prog 13 #[.pointer (some ⟨ob, 0, none⟩), .int .i64 i, .int .i64 role] W fun e w' => e = .returned (.agg #[.int .u64 S, .int .u64 L]) ∧ Below W.heap.size W w')) :
    Calls Yba.prog 11 #[.pointer (some ⟨ob, 0, none⟩), .int .i64 i, .int .u64 p, .int .u64 r] w fun e w' => e = .returned (.bool true) ∧ Below w.heap.size w w' := by
  go_enter Yba.func11, Yba.ntmps11
  go_wp2_with fail
  refine (harc.out _ (Below.refl _ _) 0 p r (Or.inl ⟨rfl, rfl, rfl⟩)).mono ?_
  rintro e w1 ⟨rfl, hb1⟩
  go_wp2_with fail
  have s1 := hb1.size
  have hB1 := hb1.alloc s1 (Obj.cells #[Value.int IntKind.u64 p, Value.int IntKind.u64 r] 54)
  refine (harc.out _ hB1 1 S1 r (Or.inr (Or.inl ⟨rfl, rfl, rfl⟩))).mono ?_
  rintro e w2 ⟨rfl, hb2⟩
  have s2 := hb2.size
  rw [World.size_alloc] at s2
  have ca0 : w2.cell? ⟨w1.heap.size, 0, none⟩ = some (.int .u64 p) := (hb2.cell (by simp)).trans (by simp [go_sem])
  have ca1 : w2.cell? ⟨w1.heap.size, 1, none⟩ = some (.int .u64 r) := (hb2.cell (by simp)).trans (by simp [go_sem])
  have hB2 := hB1.trans (hb2.mono (by simp; omega))
  clear hb2 hB1
  go_wp2_with fail
  have hB3 := hB2.alloc (by omega) (Obj.cells #[Value.int IntKind.u64 S1, Value.int IntKind.u64 r] 54)
  refine (harc.out _ hB3 2 S2 L2 (Or.inr (Or.inr ⟨rfl, rfl, rfl⟩))).mono ?_
  rintro e w3 ⟨rfl, hb3⟩
  have s3 := hb3.size
  rw [World.size_alloc] at s3
  have da0 : w3.cell? ⟨w1.heap.size, 0, none⟩ = some (.int .u64 p) := (hb3.cell (by simp; omega)).trans (by rw [World.cell?_alloc_past _ _ _ (by show w1.heap.size < _; omega)]; exact ca0)
  have da1 : w3.cell? ⟨w1.heap.size, 1, none⟩ = some (.int .u64 r) := (hb3.cell (by simp; omega)).trans (by rw [World.cell?_alloc_past _ _ _ (by show w1.heap.size < _; omega)]; exact ca1)
  have db0 : w3.cell? ⟨w2.heap.size, 0, none⟩ = some (.int .u64 S1) := (hb3.cell (by simp)).trans (by simp [go_sem])
  have db1 : w3.cell? ⟨w2.heap.size, 1, none⟩ = some (.int .u64 r) := (hb3.cell (by simp)).trans (by simp [go_sem])
  have hB4 := hB3.trans (hb3.mono (by simp; omega))
  clear hb3 hB3 hB2 ca0 ca1
  have z1 : w1.heap.size < w3.heap.size := by omega
  have z2 : w2.heap.size < w3.heap.size := by omega
  go_wp2
  go_ret
  exact ⟨by simp, hB4.alloc (by omega) _⟩
end Go.Proofs.Ybulkcpqi
