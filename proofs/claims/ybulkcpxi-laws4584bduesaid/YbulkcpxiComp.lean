/-
  Saga.pastPivot, compensates over this program.
-/
import Derived.Test.YbulkcpxiSaga
import Derived.BigQuiet
import Derived.Deep.QuietTactic
namespace Go.Proofs.Ybulkcpxi
open Go.RowKit
set_option linter.unusedVariables false

set_option maxRecDepth 100000 in
theorem past_any (w : World) (sb m cb : Nat) (has : Nat → Bool) (pv : ByteArray) (piv i : Nat) (h : StepsAt w sb m cb has) (hsb : sb < w.heap.size) (hm : m ≤ 1025) (hp : PivAt m pv piv) (b : Bool) (hb : decide (piv < i) = b) :
    Calls Yba.prog 27 #[saga sb m pv, .int .i64 i] w fun e w' => e = .returned (.bool b) ∧ Below w.heap.size w w' := by
  have H : Hid (StepsAt w sb m cb has) := h
  have P : Hid (PivAt m pv piv) := hp
  have HB : Hid (decide (piv < i) = b) := hb
  clear h hp hb
  unfold saga
  go_enter Yba.func27, Yba.ntmps27
  go_wp2_with fail
  have hb1 : Below w.heap.size w (w.alloc (.cells #[.string ⟨#[120]⟩, .slice (some ⟨sb, 0, none⟩) m m, .int .i64 0, .int .i64 0, .float .f64 0, .int .i64 0, .int .i64 0, .int .i64 0, .string pv] 53)) := (Below.refl _ _).alloc (Nat.le_refl _) _
  refine (pivot_any _ sb m cb has pv piv (H.out.below hb1 hsb) (by simp; omega) hm P.out).mono ?_
  rintro e w' ⟨rfl, hb2⟩
  go_wp2
  go_ret
  exact ⟨congrArg (fun b => Ending.returned (.bool b)) HB.out, hb1.trans (hb2.mono (by simp))⟩

/-- a world in which nothing of w below B has turned -/
structure BW (B : Nat) (w : World) where
  val : World
  ok : Below B w val

/-- A region whose operations read, and whose callees read or make memory: at the class of worlds in which nothing below B has turned. -/
theorem region_below {B : Nat} {id : Nat} {Q : Exit → Act → World → Prop} {a : Act} {w : World} {l : List Oper} (hB : Region.lexB .any l.toArray = true)
    (h : wpQuiet Yba.prog l.toArray (fun w' => ∃ x : BW B w, w' = x.val) (fun a' => ∀ w', (∃ x : BW B w, w' = x.val) → Q .normal a' w') l a) : (Code.region id l.toArray true).wp Yba.prog Q a w :=
  wp_region_quiet (C := fun w' => ∃ x : BW B w, w' = x.val) (by kernel_rfl) hB ⟨⟨_, (Below.refl B w).drew⟩, rfl⟩ (by simpa using h)

theorem past_quiet {w : World} {o : Obj} {sb m cb : Nat} {has : Nat → Bool} {pv : ByteArray} {piv i : Nat} (x : BW (w.heap.size + 1) (w.alloc o)) (h : StepsAt w sb m cb has) (hsb : sb < w.heap.size) (hm : m ≤ 1025) (hp : PivAt m pv piv) (b : Bool) (hb : decide (piv < i) = b) :
    Calls Yba.prog 27 #[saga sb m pv, .int .i64 i] x.val fun e w'' => e = .returned (.bool b) ∧ ∃ y : BW (w.heap.size + 1) (w.alloc o), w'' = y.val := by
  have hs := x.ok.size
  simp at hs
  have hb1 : Below w.heap.size w x.val := ((Below.refl _ _).alloc (Nat.le_refl _) _).trans (x.ok.mono (by omega))
  refine (past_any x.val sb m cb has pv piv i (h.below hb1 hsb) (by omega) hm hp b hb).mono ?_
  rintro e w' ⟨rfl, hw⟩
  exact ⟨rfl, ⟨w', x.ok.trans (hw.mono hs)⟩, rfl⟩

/-- what compensates answers -/
def compB (piv i : Nat) (tr : Bool) : Bool := !decide (piv < i) && !(tr && decide (i = piv))

set_option maxRecDepth 100000 in
set_option maxHeartbeats 1000000 in
theorem comp_any (w : World) (sb m cb : Nat) (has : Nat → Bool) (pv : ByteArray) (piv i : Nat) (tr : Bool) (h : StepsAt w sb m cb has) (hsb : sb < w.heap.size) (hm : m ≤ 1025) (hp : PivAt m pv piv) (hi : i < m) :
    Calls Yba.prog 18 #[saga sb m pv, .int .i64 i, .bool tr] w fun e w' => e = .returned (.bool (compB piv i tr)) ∧ Below w.heap.size w w' := by
  have H : Hid (StepsAt w sb m cb has) := h
  have P : Hid (PivAt m pv piv) := hp
  have hb1 : Below w.heap.size w (w.alloc (.cells #[.string ⟨#[120]⟩, .slice (some ⟨sb, 0, none⟩) m m, .int .i64 0, .int .i64 0, .float .f64 0, .int .i64 0, .int .i64 0, .int .i64 0, .string pv] 53)) := (Below.refl _ _).alloc (Nat.le_refl _) _
  have f0 : ∀ (x : BW (w.heap.size + 1) (w.alloc (.cells #[.string ⟨#[120]⟩, .slice (some ⟨sb, 0, none⟩) m m, .int .i64 0, .int .i64 0, .float .f64 0, .int .i64 0, .int .i64 0, .int .i64 0, .string pv] 53))) (j : Nat), x.val.cell? ⟨w.heap.size, j, none⟩ = (#[.string ⟨#[120]⟩, .slice (some ⟨sb, 0, none⟩) m m, .int .i64 0, .int .i64 0, .float .f64 0, .int .i64 0, .int .i64 0, .int .i64 0, .string pv] : Array Value)[j]? :=
    fun x j => (x.ok.cell (p := ⟨w.heap.size, j, none⟩) (by simp)).trans (World.cell?_alloc_at _ _ _ _ rfl)
  have f1 : ∀ (x : BW (w.heap.size + 1) (w.alloc (.cells #[.string ⟨#[120]⟩, .slice (some ⟨sb, 0, none⟩) m m, .int .i64 0, .int .i64 0, .float .f64 0, .int .i64 0, .int .i64 0, .int .i64 0, .string pv] 53))), x.val.cell? ⟨sb, i * 8, none⟩ = some (.string (nm i)) :=
    fun x => ((h.below (hb1.trans (x.ok.mono (by omega))) hsb) i hi).1
  have hne : Nonempty (BW (w.heap.size + 1) (w.alloc (.cells #[.string ⟨#[120]⟩, .slice (some ⟨sb, 0, none⟩) m m, .int .i64 0, .int .i64 0, .float .f64 0, .int .i64 0, .int .i64 0, .int .i64 0, .string pv] 53))) := ⟨⟨_, Below.refl _ _⟩⟩
  have hq := piv_eq hp hm i hi
  have him : (i : Int) < (m : Int) := by omega
  clear h hp
  unfold saga
  by_cases hb : piv < i
  · have r0 : compB piv i tr = false := by simp [compB, hb]
    rw [r0]
    have KC : Hid (∀ x : BW (w.heap.size + 1) (w.alloc (.cells #[.string ⟨#[120]⟩, .slice (some ⟨sb, 0, none⟩) m m, .int .i64 0, .int .i64 0, .float .f64 0, .int .i64 0, .int .i64 0, .int .i64 0, .string pv] 53)), Calls Yba.prog 27 #[saga sb m pv, .int .i64 i] x.val fun e w'' => e = .returned (.bool true) ∧ ∃ y : BW (w.heap.size + 1) (w.alloc (.cells #[.string ⟨#[120]⟩, .slice (some ⟨sb, 0, none⟩) m m, .int .i64 0, .int .i64 0, .float .f64 0, .int .i64 0, .int .i64 0, .int .i64 0, .string pv] 53)), w'' = y.val) := fun x => past_quiet (i := i) x H.out hsb hm P.out true (by simp [hb])
    clear r0 hb hq
    generalize nm i = nk at *
    go_enter Yba.func18, Yba.ntmps18
    go_wp2
    refine region_below (B := w.heap.size + 1) (by kernel_rfl) ?_
    repeat (first | go_big_quiet_step ((go_at_call 27; exact KC.out _)) | quiet_step ((go_at_call 27; exact KC.out _)))
    refine wpQuiet_nil ?_
    rintro _ ⟨x, rfl⟩
    go_wp2
    go_ret
    exact ⟨rfl, hb1.trans (x.ok.mono (by omega))⟩
  · have KC : Hid (∀ x : BW (w.heap.size + 1) (w.alloc (.cells #[.string ⟨#[120]⟩, .slice (some ⟨sb, 0, none⟩) m m, .int .i64 0, .int .i64 0, .float .f64 0, .int .i64 0, .int .i64 0, .int .i64 0, .string pv] 53)), Calls Yba.prog 27 #[saga sb m pv, .int .i64 i] x.val fun e w'' => e = .returned (.bool false) ∧ ∃ y : BW (w.heap.size + 1) (w.alloc (.cells #[.string ⟨#[120]⟩, .slice (some ⟨sb, 0, none⟩) m m, .int .i64 0, .int .i64 0, .float .f64 0, .int .i64 0, .int .i64 0, .int .i64 0, .string pv] 53)), w'' = y.val) := fun x => past_quiet (i := i) x H.out hsb hm P.out false (by simp [hb])
    have key : (tr = false ∧ compB piv i tr = true) ∨ (tr = true ∧ compB piv i tr = false ∧ ((nm i).toList == pv.toList) = true) ∨ (tr = true ∧ compB piv i tr = true ∧ ((nm i).toList == pv.toList) = false) := by
      cases tr
      · exact Or.inl ⟨rfl, by simp [compB, hb]⟩
      · by_cases he : i = piv
        · exact Or.inr (Or.inl ⟨rfl, by simp [compB, he], by rw [hq.2 he]; simp⟩)
        · exact Or.inr (Or.inr ⟨rfl, by simp [compB, hb, he], str_ne (fun e => he (hq.1 e))⟩)
    clear hb hq
    rcases key with ⟨rfl, r0⟩ | ⟨rfl, r0, hs⟩ | ⟨rfl, r0, hs⟩
    all_goals
      rw [r0]
      clear r0
      generalize nm i = nk at *
      go_enter Yba.func18, Yba.ntmps18
      go_wp2
      refine region_below (B := w.heap.size + 1) (by kernel_rfl) ?_
      repeat (first | go_big_quiet_step ((go_at_call 27; exact KC.out _)) | quiet_step ((go_at_call 27; exact KC.out _)))
      refine wpQuiet_nil ?_
      rintro _ ⟨x, rfl⟩
      go_wp2
      go_ret
      exact ⟨rfl, hb1.trans (x.ok.mono (by omega))⟩
end Go.Proofs.Ybulkcpxi
