/-
  Saga.pivot, pastPivot, compensates over this program.
-/
import Derived.Test.YbulkcpxiName
import Derived.Laws.EntriesVeiled
import Derived.Outline
namespace Go.Proofs.Ybulkcpxi
open Go.RowKit
set_option linter.unusedVariables false

/-- The law's two closures; cb: the block of 'calls'. -/
def StepsAt (w : World) (sb m cb : Nat) (has : Nat → Bool) : Prop :=
  ∀ t, t < m → w.cell? ⟨sb, t * 8, none⟩ = some (.string (nm t)) ∧ w.cell? ⟨sb, t * 8 + 1, none⟩ = some (.func (.func 10) #[] #[.pointer (some ⟨cb, 0, none⟩)]) ∧
    w.cell? ⟨sb, t * 8 + 2, none⟩ = some (if has t then .func (.func 9) #[] #[.pointer (some ⟨cb, 0, none⟩)] else .nilFunc) ∧
    w.cell? ⟨sb, t * 8 + 3, none⟩ = some (.int .i64 0) ∧ w.cell? ⟨sb, t * 8 + 4, none⟩ = some (.int .i64 0) ∧ w.cell? ⟨sb, t * 8 + 5, none⟩ = some (.float .f64 0) ∧ w.cell? ⟨sb, t * 8 + 6, none⟩ = some (.int .i64 0) ∧ w.cell? ⟨sb, t * 8 + 7, none⟩ = some (.int .i64 0)

theorem StepsAt.below {w w' : World} {sb m cb : Nat} {has : Nat → Bool} (h : StepsAt w sb m cb has) {B : Nat} (hb : Below B w w') (hs : sb < B) : StepsAt w' sb m cb has := by
  intro t ht
  obtain ⟨e0, e1, e2, e3, e4, e5, e6, e7⟩ := h t ht
  have k := fun o => hb.cell (p := ⟨sb, o, none⟩) hs
  exact ⟨(k _).trans e0, (k _).trans e1, (k _).trans e2, (k _).trans e3, (k _).trans e4, (k _).trans e5, (k _).trans e6, (k _).trans e7⟩

/-- the saga as a value -/
def saga (sb m : Nat) (pv : ByteArray) : Value :=
  .agg #[.string ⟨#[120]⟩, .slice (some ⟨sb, 0, none⟩) m m, .int .i64 0, .int .i64 0, .float .f64 0, .int .i64 0, .int .i64 0, .int .i64 0, .string pv]

theorem ksf (w : World) (a : Addr) (b : Nat) (m : Mode) : (store a (.float .f64 b) m).run Yba.prog w = stored Yba.prog w a (.float .f64 b) m := run_store Yba.prog w a _ m rfl

/-- which step the pivot is; m: none -/
def PivAt (m : Nat) (pv : ByteArray) (piv : Nat) : Prop := piv < m ∧ pv = nm piv ∨ piv = m ∧ pv = ⟨#[]⟩

theorem str_ne {a b : ByteArray} (h : ¬ a = b) : (a.toList == b.toList) = false := by
  rw [beq_eq_false_iff_ne]
  intro e
  rw [ByteArray.toList_eq, ByteArray.toList_eq] at e
  apply h
  cases a
  cases b
  simp at e
  rw [e]

theorem piv_eq {m : Nat} {pv : ByteArray} {piv : Nat} (h : PivAt m pv piv) (hm : m ≤ 1025) (t : Nat) (ht : t < m) : (nm t = pv) ↔ t = piv := by
  rcases h with ⟨h1, rfl⟩ | ⟨rfl, rfl⟩
  · exact ⟨fun e => nm_inj t piv (by omega) (by omega) e, fun e => by rw [e]⟩
  · exact ⟨fun e => absurd e (nm_ne t), fun e => by omega⟩

set_option maxRecDepth 100000 in
theorem pivot_any (w : World) (sb m cb : Nat) (has : Nat → Bool) (pv : ByteArray) (piv : Nat) (h : StepsAt w sb m cb has) (hsb : sb < w.heap.size) (hm : m ≤ 1025) (hp : PivAt m pv piv) :
    Calls Yba.prog 33 #[saga sb m pv] w fun e w' => e = .returned (.int .i64 piv) ∧ Below w.heap.size w w' := by
  unfold saga
  have H : Hid (StepsAt w sb m cb has) := h
  have P : Hid (PivAt m pv piv) := hp
  have hpm : piv ≤ m := by rcases hp with ⟨a, _⟩ | ⟨a, _⟩ <;> omega
  have kf := ksf
  clear h hp
  go_enter Yba.func33, Yba.ntmps33
  go_wp2
  go_loopw [8] (fun i wr => ∃ k : Nat, k ≤ m ∧ i = .int .i64 k ∧ k ≤ piv ∧ Below (w.heap.size + 1) (w.alloc (.cells #[.string ⟨#[120]⟩, .slice (some ⟨sb, 0, none⟩) m m, .int .i64 0, .int .i64 0, .float .f64 0, .int .i64 0, .int .i64 0, .int .i64 0, .string pv] 53)) wr) (fun i _ => m - (intOf i).toNat)
  case atStart => exact ⟨0, Nat.zero_le _, rfl, Nat.zero_le _, Below.refl _ _⟩
  case round =>
    obtain ⟨k, hk, rfl, hkp, hbel⟩ := hrel
    have hs := hbel.size
    simp at hs
    have b1 := (hbel.cell (p := ⟨w.heap.size, 1, none⟩) (by simp)).trans (World.cell?_alloc_at _ _ _ _ rfl)
    have b8 := (hbel.cell (p := ⟨w.heap.size, 8, none⟩) (by simp)).trans (World.cell?_alloc_at _ _ _ _ rfl)
    simp at b1 b8
    have hB0 : Below w.heap.size w wr := ((Below.refl _ _).alloc (Nat.le_refl _) _).trans (hbel.mono (by omega))
    have hz : w.heap.size < wr.heap.size := by omega
    by_cases hkm : k < m
    · obtain ⟨e0, e1, e2, e3, e4, e5, e6, e7⟩ := (H.out.below hB0 hsb) k hkm
      have hq := piv_eq P.out hm k hkm
      have BE : Hid (Below (w.heap.size + 1) (w.alloc (.cells #[.string ⟨#[120]⟩, .slice (some ⟨sb, 0, none⟩) m m, .int .i64 0, .int .i64 0, .float .f64 0, .int .i64 0, .int .i64 0, .int .i64 0, .string pv] 53)) wr) := hbel
      clear hbel
      generalize nm k = nk at *
      by_cases hkp2 : k = piv
      · obtain rfl := hq.2 hkp2
        have KP : Hid (k = piv) := hkp2
        clear hq hkp2
        cases hh : has k <;> rw [hh] at e2 <;> simp only [Bool.false_eq_true, if_false, if_true] at e2
        all_goals
          clear hh
          go_wp2
          go_ret
          exact ⟨congrArg Ending.returned (congrArg (Value.int IntKind.i64) (congrArg Int.ofNat KP.out)), hB0.alloc (by omega) _⟩
      · have hne := str_ne (fun e => hkp2 (hq.1 e))
        clear hq
        cases hh : has k <;> rw [hh] at e2 <;> simp only [Bool.false_eq_true, if_false, if_true] at e2
        all_goals
          clear hh
          go_wp2
          go_roundw
          case rel => exact ⟨k + 1, by omega, by go_num, by omega, BE.out.alloc (by omega) _⟩
          case measure => simp [intOf]; omega
    · obtain rfl : k = piv := by omega
      go_wp2
      go_ret
      obtain rfl : k = m := by omega
      exact ⟨rfl, hB0⟩
end Go.Proofs.Ybulkcpxi
