/-
  The loop of LawS4571CEven and LawS4571CPlaced that fills the ranges and their units: what holds at its head; 'make'; zzs4571crange as it is met there.
-/
import Derived.Test.YbulkcpqiArcs
import Derived.ProofKit
import Derived.OpenShut
import Derived.Laws.MakeOwn
import Derived.OwnWalk
namespace Go.Proofs.Ybulkcpqi
open Go.RowKit Go.ChangeShapes
set_option linter.unusedVariables false

def IsRow (k : IntKind) (w : World) (a : Option Addr) (len cap : Nat) (zs : List Int) : Prop :=
  (a = none ∧ len = 0 ∧ cap = 0 ∧ zs = []) ∨
  ∃ x, a = some x ∧ len ≤ cap ∧ cap ≤ maxLen ∧ zs.length = cap ∧ (∀ i, i < zs.length → w.cell? (x.add i) = some (.int k (zs.getD i 0))) ∧ ∀ n ∈ zs, (Lit.int k n).wf = true

/-- A new row of n zero cells. -/
def zrow (z : Value) (n : Nat) : Array Value := madeCells z.cells n
theorem zrow_size (z : Value) (n : Nat) : (zrow z n).size = n := size_madeCells _ _
theorem zrow_get (z : Value) (n t : Nat) (h : t < n) : ∃ x, (zrow z n)[t]? = some x := ⟨(zrow z n)[t]'(by rw [zrow_size]; exact h), Array.getElem?_eq_getElem _⟩

theorem info34 : (Yba.prog.info? 34).map (fun i => (i.zero, i.size, i.bytes)) = some (some (.float .f64 0), 1, 8) := by kernel_rfl
theorem info22 : (Yba.prog.info? 22).map (fun i => (i.zero, i.size, i.bytes)) = some (some (.int .u64 0), 1, 8) := by kernel_rfl
theorem info21 : (Yba.prog.info? 21).map (fun i => (i.zero, i.size, i.bytes)) = some (some (.int .i32 0), 1, 4) := by kernel_rfl

theorem made (t e : TypeId) (z : Value) (b : Nat) (hb : b ≤ 8) (hu : Yba.prog.underlying t = some (.slice e)) (hi : (Yba.prog.info? e).map (fun i => (i.zero, i.size, i.bytes)) = some (some z, 1, b)) (n : Nat) (hn : n ≤ 1024) (w : World) :
    (Instr.makeSlice t (.int .i64 (n : Int)) (.int .i64 (n : Int))).run Yba.prog w = .ok (.slice (some ⟨w.heap.size, 0, none⟩) n n) (w.alloc (.cells (zrow z n) e)) := by
  obtain ⟨i, h1, h2, h3, h4⟩ := info_parts hi
  have hm : i.bytes * n ≤ 8 * 1024 := Nat.mul_le_mul (by omega) hn
  have h := run_make (P := Yba.prog) w t e i z hu h1 h2 .i64 .i64 n n (by omega) (by omega) (by rw [← Int.natCast_mul]; omega) (by omega)
  rw [h, h3, Int.toNat_natCast, Nat.mul_one]
  rfl

/-- AT THE LOOP's HEAD: of the two rows (blocks R: floats, U: units) the first k cells are filled. -/
def Fill (w wr : World) (B R U Z n k : Nat) (V : Nat → Int) : Prop :=
  wr.heap.size = Z ∧ Below B w wr ∧
  (∀ t, t < n → (∃ x, wr.cell? ⟨R, t, none⟩ = some x) ∧ (∃ x, wr.cell? ⟨U, t, none⟩ = some x) ∧ wr.frozen? ⟨R, t, none⟩ = false ∧ wr.frozen? ⟨U, t, none⟩ = false) ∧
  ∀ t, t < k → wr.cell? ⟨R, t, none⟩ = some (.float .f64 (flr (V t))) ∧ wr.cell? ⟨U, t, none⟩ = some (.int .u64 (V t * 4294967296))

theorem fill_start {w W : World} {B n : Nat} (V : Nat → Int) (hb : Below B w W) (hB : B ≤ W.heap.size) :
    Fill w ((W.alloc (.cells (zrow (.float .f64 0) n) 34)).alloc (.cells (zrow (.int .u64 0) n) 22)) B W.heap.size (W.heap.size + 1) (W.heap.size + 2) n 0 V := by
  refine ⟨by simp, (hb.alloc hB _).alloc (by simp; omega) _, ?_, fun t h => absurd h (by omega)⟩
  intro t ht
  obtain ⟨x, hx⟩ := zrow_get (.float .f64 0) n t ht
  obtain ⟨y, hy⟩ := zrow_get (.int .u64 0) n t ht
  refine ⟨⟨x, ?_⟩, ⟨y, ?_⟩, ?_, ?_⟩
  · rw [World.cell?_alloc_past _ _ _ (by simp), World.cell?_alloc_at _ _ _ _ rfl, hx]
  · rw [World.cell?_alloc_at _ _ _ _ (by simp), hy]
  · rw [World.frozen?_alloc_past _ _ _ (by simp), World.frozen?_alloc_at _ _ _ _ rfl]
  · rw [World.frozen?_alloc_at _ _ _ _ (by simp)]

theorem fill_step {w wr : World} {B R U Z n k : Nat} {V : Nat → Int} (h : Fill w wr B R U Z n k V) (hk : k < n) (hRU : R ≠ U) (hR : B ≤ R) (hU : B ≤ U) :
    Fill w ((wr.setCell ⟨R, k, none⟩ (.float .f64 (flr (V k)))).setCell ⟨U, k, none⟩ (.int .u64 (V k * 4294967296))) B R U Z n (k + 1) V := by
  obtain ⟨h1, h2, h3, h4⟩ := h
  refine ⟨by simp [h1], (h2.setCell hR _).setCell hU _, ?_, ?_⟩
  · intro t ht
    obtain ⟨⟨x, hx⟩, ⟨y, hy⟩, f1, f2⟩ := h3 t ht
    refine ⟨?_, ?_, by simp [f1], by simp [f2]⟩
    · obtain ⟨x', hx'⟩ := cell?_setCell_some (p := ⟨R, k, none⟩) (x := .float .f64 (flr (V k))) hx
      exact cell?_setCell_some hx'
    · obtain ⟨x', hx'⟩ := cell?_setCell_some (p := ⟨R, k, none⟩) (x := .float .f64 (flr (V k))) hy
      exact cell?_setCell_some hx'
  · intro t ht
    have hne : (⟨R, k, none⟩ : Addr) ≠ ⟨U, t, none⟩ := by intro e; injection e with e1; exact hRU e1
    have hne2 : (⟨U, k, none⟩ : Addr) ≠ ⟨R, t, none⟩ := by intro e; injection e with e1; exact hRU e1.symm
    obtain ⟨⟨x, hx⟩, ⟨y, hy⟩, f1, f2⟩ := h3 k hk
    by_cases e : t = k
    · subst e
      refine ⟨?_, ?_⟩
      · rw [World.cell?_setCell_other _ _ _ _ hne2]; exact World.cell?_setCell_same _ _ _ hx
      · refine World.cell?_setCell_same _ _ _ (u := y) ?_
        rw [World.cell?_setCell_other _ _ _ _ hne]; exact hy
    · obtain ⟨g1, g2⟩ := h4 t (by omega)
      refine ⟨?_, ?_⟩
      · rw [World.cell?_setCell_other _ _ _ _ hne2, World.cell?_setCell_other _ _ _ _ (by intro e'; injection e' with _ e2; exact e e2.symm)]; exact g1
      · rw [World.cell?_setCell_other _ _ _ _ (by intro e'; injection e' with _ e2; exact e e2.symm), World.cell?_setCell_other _ _ _ _ hne]; exact g2

/-- The number that node j draws. -/
def drawn (zs : List Int) (len : Nat) (j : Nat) : Int := if len = 0 then 0 else zs.getD (j % len) 0

theorem drawn_bd {w : World} {a : Option Addr} {len cap : Nat} {zs : List Int} (h : IsRow .u32 w a len cap zs) (j : Nat) : 0 ≤ drawn zs len j ∧ drawn zs len j ≤ 4294967295 := by
  unfold drawn
  rcases h with ⟨_, rfl, _, _⟩ | ⟨x, _, hl, _, hz, _, hw⟩
  · simp
  · split
    · simp
    · have hlt : j % len < zs.length := by have := Nat.mod_lt j (show 0 < len by omega); omega
      rw [List.getD_eq_getElem?_getD, List.getElem?_eq_getElem hlt, Option.getD_some]
      exact bounds_u32 (hw _ (List.getElem_mem hlt))

/-- zzs4571crange as the loops meet it. -/
theorem crange_any {w : World} {a : Option Addr} {len cap : Nat} {zs : List Int} (h : IsRow .u32 w a len cap zs) (B : Nat) (hB : w.heap.size ≤ B) (j : Nat) (hj : j ≤ 1024) (W : World) (hb : Below B w W) :
    Calls Yba.prog 10 #[.slice a len cap, .int .i64 j] W fun e w' => e = .returned (.tuple #[.float .f64 (flr (drawn zs len j)), .int .u64 (drawn zs len j * 4294967296)]) ∧ w' = W := by
  have hd := drawn_bd h j
  by_cases hz : len = 0
  · subst hz
    have e : drawn zs 0 j = 0 := by simp [drawn]
    rw [e]
    exact crange_none a cap j W
  · rcases h with ⟨_, h0, _, _⟩ | ⟨x, rfl, hl, hm, hlen, hc, hw⟩
    · exact absurd h0 hz
    · obtain ⟨b, off, rfl, hc'⟩ := ints_at hc (by omega)
      unfold maxLen at hm
      have hlt : j % len < zs.length := by have := Nat.mod_lt j (show 0 < len by omega); omega
      have hcell := hc' (j % len) hlt
      have hlt2 := World.block_lt_of_cell? _ _ hcell
      have e1 : ((j : Int) % (len : Int)).toNat = j % len := by rw [← Int.natCast_emod, Int.toNat_natCast]
      have e2 : drawn zs len j = zs.getD (j % len) 0 := by simp [drawn, hz]
      refine crange_some b off len cap j (drawn zs len j) W (by omega) (by omega) (by omega) (by omega) hd.1 hd.2 (Int.emod_nonneg _ (by omega)) (Int.emod_lt_of_pos _ (by omega)) ?_
      rw [e1, e2, hb.cell (p := ⟨b, off + j % len, none⟩) (by show b < B; simp at hlt2; omega)]
      exact hcell
end Go.Proofs.Ybulkcpqi
