/-
  What the law lays before the call of fail: plain.
-/
import Derived.Test.YbulkcpxiFail
import Derived.Deep.MidRow
import Derived.Deep.WholeRow
namespace Go.Proofs.Ybulkcpxi
open Go.RowKit
set_option linter.unusedVariables false

def z51 : Value := .agg #[.string ⟨#[]⟩, .nilFunc, .nilFunc, .int .i64 0, .int .i64 0, .float .f64 0, .int .i64 0, .int .i64 0]
theorem info51 : (Yba.prog.info? 51).map (fun i => (i.zero, i.size, i.bytes)) = some (some z51, 8, 72) := by kernel_rfl
theorem size51 : (Yba.prog.info? 51).map (·.size) = some 8 := by kernel_rfl
theorem size53 : (Yba.prog.info? 53).map (·.size) = some 9 := by kernel_rfl
theorem info9 : (Yba.prog.info? 9).map (fun i => (i.zero, i.size, i.bytes)) = some (some (.string ⟨#[]⟩), 1, 16) := by kernel_rfl
theorem info4 : (Yba.prog.info? 4).map (fun i => (i.zero, i.size, i.bytes)) = some (some (.bool false), 1, 1) := by kernel_rfl

def rowOf (z : Value) (n : Nat) : Array Value := madeCells z.cells n
theorem rowOf_size (z : Value) (n : Nat) : (rowOf z n).size = n := size_madeCells _ _

theorem mk_any (t e : TypeId) (z : Value) (sz bytes : Nat) (ht : Yba.prog.underlying t = some (.slice e)) (hinfo : (Yba.prog.info? e).map (fun i => (i.zero, i.size, i.bytes)) = some (some z, sz, bytes)) (hb : bytes ≤ 1000) (n : Nat) (hn : n ≤ 2000) (w : World) :
    (Instr.makeSlice t (.int .i64 (n : Int)) (.int .i64 (n : Int))).run Yba.prog w = .ok (.slice (some ⟨w.heap.size, 0, none⟩) n n) (w.alloc (.cells (rowOf z (n * sz)) e)) := by
  obtain ⟨i, h1, h2, h3, h4⟩ := info_parts hinfo
  have hx : bytes * n ≤ 1000 * 2000 := Nat.mul_le_mul hb hn
  have hy : ((bytes * n : Nat) : Int) ≤ 2000000 := by omega
  rw [Int.natCast_mul] at hy
  have h := run_make (P := Yba.prog) w t e i z ht h1 h2 .i64 .i64 (n : Int) (n : Int) (by omega) (by omega) (by rw [h4]; omega) (by omega)
  rw [h, h3]
  simp [rowOf]

theorem there_alloc_row (w : World) (cs : Array Value) (t : TypeId) (n : Nat) (hn : cs.size = n) : (w.alloc (.cells cs t)).there w.heap.size 0 n := by
  intro j hj
  rw [Nat.zero_add]
  have h1 := heap_alloc_new w (Obj.cells cs t)
  refine ⟨?_, ?_⟩
  · rw [cell_of_row _ _ j cs t (0, 0) h1]
    simp [hn, hj]
  · unfold World.frozen?
    simp only [h1]
    simp

theorem there_of_block {w w' : World} {b o n : Nat} (h : w.there b o n) (e : w'.heap[b]? = w.heap[b]?) : w'.there b o n := fun j hj => by
  rw [World.cell?_of_block (w := w) (a := ⟨b, o + j, none⟩) e, World.frozen?_of_block (w := w) (a := ⟨b, o + j, none⟩) e]
  exact h j hj

theorem there_setCell {w : World} {b o n : Nat} (h : w.there b o n) (a : Addr) (v : Value) : (w.setCell a v).there b o n := fun j hj => by
  obtain ⟨h1, h2⟩ := h j hj
  refine ⟨?_, by rw [World.frozen?_setCell]; exact h2⟩
  obtain ⟨u, hu⟩ := Option.isSome_iff_exists.1 h1
  by_cases e : a = (⟨b, o + j, none⟩ : Addr)
  · subst e; rw [World.cell?_setCell_same _ _ _ hu]; rfl
  · rw [World.cell?_setCell_other _ _ _ _ e, hu]; rfl

/-- The first loop's memory: B: the counter; B + 1: the steps; B + 2: has. k of m steps are laid. -/
def L1 (w wr : World) (m k : Nat) (has : Nat → Bool) : Prop :=
  Below w.heap.size w wr ∧ wr.cell? ⟨w.heap.size, 0, none⟩ = some (.int .i64 0) ∧ StepsAt wr (w.heap.size + 1) k w.heap.size has ∧ wr.there (w.heap.size + 1) 0 (m * 8) ∧
    (∀ t, t < k → wr.cell? ⟨w.heap.size + 2, t, none⟩ = some (.bool (has t))) ∧ wr.there (w.heap.size + 2) 0 m ∧ w.heap.size + 3 ≤ wr.heap.size

/-- a step without compensation -/
def step0 (cb : Nat) (s : ByteArray) : Array Value := #[.string s, .func (.func 10) #[] #[.pointer (some ⟨cb, 0, none⟩)], .nilFunc, .int .i64 0, .int .i64 0, .float .f64 0, .int .i64 0, .int .i64 0]

theorem step0_one (cb : Nat) (s : ByteArray) : ((step0 cb s).all fun x => x.oneCell') = true := by simp [step0, Value.oneCell']

theorem L1.start (w : World) (m : Nat) (has : Nat → Bool) : L1 w (((w.alloc (.cells #[.int .i64 0] 3)).alloc (.cells (rowOf z51 (m * 8)) 51)).alloc (.cells (rowOf (.bool false) m) 4)) m 0 has := by
  refine ⟨(((Below.refl _ _).alloc (Nat.le_refl _) _).alloc (by simp) _).alloc (by simp; omega) _, ?_, fun t ht => absurd ht (by omega), ?_, fun t ht => absurd ht (by omega), ?_, by simp⟩
  · rw [World.cell?_alloc_lt _ _ _ (by simp; omega), World.cell?_alloc_lt _ _ _ (by simp)]
    exact World.cell?_alloc_at _ _ _ _ rfl
  · have h := there_alloc_row (w.alloc (.cells #[.int .i64 0] 3)) (rowOf z51 (m * 8)) 51 (m * 8) (rowOf_size _ _)
    rw [World.size_alloc] at h
    exact World.there_alloc h _
  · have h := there_alloc_row ((w.alloc (.cells #[.int .i64 0] 3)).alloc (.cells (rowOf z51 (m * 8)) 51)) (rowOf (.bool false) m) 4 m (rowOf_size _ _)
    simp only [World.size_alloc] at h
    exact h

theorem below_setCells {B : Nat} {w : World} {b : Nat} (hb : B ≤ b) : ∀ (vs : List Value) (o : Nat) (w2 : World), Below B w w2 → Below B w (w2.setCells b o vs)
  | [], _, _, h => h
  | v :: r, o, w2, h => by
    rw [World.setCells]
    exact below_setCells hb r (o + 1) _ (h.setCell (p := ⟨b, o, none⟩) hb v)

theorem size_setCells (b : Nat) : ∀ (vs : List Value) (o : Nat) (w2 : World), (w2.setCells b o vs).heap.size = w2.heap.size
  | [], _, _ => rfl
  | v :: r, o, w2 => by rw [World.setCells, size_setCells b r]; simp

/-- eight cells stored one by one, each world with a name -/
theorem store8 (w2 : World) (b o : Nat) (v0 v1 v2 v3 v4 v5 v6 v7 : Value) (h : w2.there b o 8) : ∃ (x1 x2 x3 x4 x5 x6 x7 : World) (u0 u1 u2 u3 u4 u5 u6 u7 : Value), w2.setCell ⟨b, o, none⟩ v0 = x1 ∧ x1.setCell ⟨b, o + 1, none⟩ v1 = x2 ∧ x2.setCell ⟨b, o + 2, none⟩ v2 = x3 ∧ x3.setCell ⟨b, o + 3, none⟩ v3 = x4 ∧ x4.setCell ⟨b, o + 4, none⟩ v4 = x5 ∧ x5.setCell ⟨b, o + 5, none⟩ v5 = x6 ∧ x6.setCell ⟨b, o + 6, none⟩ v6 = x7 ∧ x7.setCell ⟨b, o + 7, none⟩ v7 = w2.setCells b o [v0, v1, v2, v3, v4, v5, v6, v7] ∧ w2.cell? ⟨b, o, none⟩ = some u0 ∧ x1.cell? ⟨b, o + 1, none⟩ = some u1 ∧ x2.cell? ⟨b, o + 2, none⟩ = some u2 ∧ x3.cell? ⟨b, o + 3, none⟩ = some u3 ∧ x4.cell? ⟨b, o + 4, none⟩ = some u4 ∧ x5.cell? ⟨b, o + 5, none⟩ = some u5 ∧ x6.cell? ⟨b, o + 6, none⟩ = some u6 ∧ x7.cell? ⟨b, o + 7, none⟩ = some u7 ∧ w2.frozen? ⟨b, o, none⟩ = false ∧ x1.frozen? ⟨b, o + 1, none⟩ = false ∧ x2.frozen? ⟨b, o + 2, none⟩ = false ∧ x3.frozen? ⟨b, o + 3, none⟩ = false ∧ x4.frozen? ⟨b, o + 4, none⟩ = false ∧ x5.frozen? ⟨b, o + 5, none⟩ = false ∧ x6.frozen? ⟨b, o + 6, none⟩ = false ∧ x7.frozen? ⟨b, o + 7, none⟩ = false := by
  have hs : ∀ (x : World) (j : Nat), x.there b o 8 → j < 8 → ∃ u, x.cell? ⟨b, o + j, none⟩ = some u ∧ x.frozen? ⟨b, o + j, none⟩ = false := fun x j hx hj => by
    obtain ⟨u, hu⟩ := Option.isSome_iff_exists.1 (hx j hj).1
    exact ⟨u, hu, (hx j hj).2⟩
  have t0 := h
  obtain ⟨u0, c0, f0⟩ := hs _ 0 t0 (by omega)
  have t1 := there_setCell t0 ⟨b, o + 0, none⟩ v0
  obtain ⟨u1, c1, f1⟩ := hs _ 1 t1 (by omega)
  have t2 := there_setCell t1 ⟨b, o + 1, none⟩ v1
  obtain ⟨u2, c2, f2⟩ := hs _ 2 t2 (by omega)
  have t3 := there_setCell t2 ⟨b, o + 2, none⟩ v2
  obtain ⟨u3, c3, f3⟩ := hs _ 3 t3 (by omega)
  have t4 := there_setCell t3 ⟨b, o + 3, none⟩ v3
  obtain ⟨u4, c4, f4⟩ := hs _ 4 t4 (by omega)
  have t5 := there_setCell t4 ⟨b, o + 4, none⟩ v4
  obtain ⟨u5, c5, f5⟩ := hs _ 5 t5 (by omega)
  have t6 := there_setCell t5 ⟨b, o + 5, none⟩ v5
  obtain ⟨u6, c6, f6⟩ := hs _ 6 t6 (by omega)
  have t7 := there_setCell t6 ⟨b, o + 6, none⟩ v6
  obtain ⟨u7, c7, f7⟩ := hs _ 7 t7 (by omega)
  exact ⟨_, _, _, _, _, _, _, u0, u1, u2, u3, u4, u5, u6, u7, rfl, rfl, rfl, rfl, rfl, rfl, rfl, rfl, c0, c1, c2, c3, c4, c5, c6, c7, f0, f1, f2, f3, f4, f5, f6, f7⟩

/-- One round: has[k] stored, the name made, the step stored. -/
theorem L1.step {w wr w2 : World} {m k : Nat} {has : Nat → Bool} (h : L1 w wr m k has) (hk : k < m) (g : (wr.setCell ⟨w.heap.size + 2, k, none⟩ (.bool (has k))).grownBy w2 none) :
    w2.there (w.heap.size + 1) (k * 8) 8 ∧
    (w2.setCells (w.heap.size + 1) (k * 8) (step0 w.heap.size (nm k)).toList).cell? ⟨w.heap.size + 2, k, none⟩ = some (.bool (has k)) ∧
    (w2.setCells (w.heap.size + 1) (k * 8) (step0 w.heap.size (nm k)).toList).cell? ⟨w.heap.size + 1, k * 8 + 2, none⟩ = some .nilFunc ∧
    (∀ j, j < m * 8 → (w2.setCells (w.heap.size + 1) (k * 8) (step0 w.heap.size (nm k)).toList).frozen? ⟨w.heap.size + 1, j, none⟩ = false) ∧
    (has k = false → L1 w (w2.setCells (w.heap.size + 1) (k * 8) (step0 w.heap.size (nm k)).toList) m (k + 1) has) ∧
    (has k = true → L1 w ((w2.setCells (w.heap.size + 1) (k * 8) (step0 w.heap.size (nm k)).toList).setCell ⟨w.heap.size + 1, k * 8 + 2, none⟩ (.func (.func 9) #[] #[.pointer (some ⟨w.heap.size, 0, none⟩)])) m (k + 1) has) := by
  obtain ⟨hB, h0, hst, hth, hhas, hth2, hsz⟩ := h
  have gs := g.size
  simp at gs
  have hbl : ∀ b, b < wr.heap.size → w2.heap[b]? = (wr.setCell ⟨w.heap.size + 2, k, none⟩ (.bool (has k))).heap[b]? := fun b hb => g.block b (by simpa using hb) (by simp)
  have t2 : w2.there (w.heap.size + 1) 0 (m * 8) := there_of_block (there_setCell hth _ _) (hbl _ (by omega))
  have t3 : w2.there (w.heap.size + 1) (k * 8) 8 := fun j hj => by
    have := t2 (k * 8 + j) (by omega)
    rw [Nat.zero_add] at this
    exact this
  have t4 : w2.there (w.heap.size + 2) 0 m := there_of_block (there_setCell hth2 _ _) (hbl _ (by omega))
  have hlen : (step0 w.heap.size (nm k)).toList.length = 8 := rfl
  have cout : ∀ b j, b < wr.heap.size → (b ≠ w.heap.size + 2 ∨ j ≠ k) → (b ≠ w.heap.size + 1 ∨ j < k * 8 ∨ k * 8 + 8 ≤ j) → (w2.setCells (w.heap.size + 1) (k * 8) (step0 w.heap.size (nm k)).toList).cell? ⟨b, j, none⟩ = wr.cell? ⟨b, j, none⟩ := by
    intro b j hb h1 h2
    rw [World.cell?_setCells_out _ _ _ _ _ (fun e1 _ => by
      rw [hlen]
      rcases h2 with h2 | h2
      · exact absurd e1 h2
      · exact h2), World.cell?_of_block (w := wr.setCell ⟨w.heap.size + 2, k, none⟩ (.bool (has k))) (hbl b hb)]
    refine World.cell?_setCell_other _ _ _ _ (fun e => ?_)
    injection e with e1 e2
    rcases h1 with h1 | h1
    · exact h1 e1.symm
    · exact h1 e2.symm
  have cin := World.cell?_setCells_in (w.heap.size + 1) (step0 w.heap.size (nm k)).toList (k * 8) w2 (fun j hj => (t3 j (by rw [hlen] at hj; exact hj)).1)
  have chas : (w2.setCells (w.heap.size + 1) (k * 8) (step0 w.heap.size (nm k)).toList).cell? ⟨w.heap.size + 2, k, none⟩ = some (.bool (has k)) := by
    rw [World.cell?_setCells_out _ _ _ _ _ (fun e1 _ => by simp at e1), World.cell?_of_block (w := wr.setCell ⟨w.heap.size + 2, k, none⟩ (.bool (has k))) (hbl _ (by simp; omega))]
    obtain ⟨u, hu⟩ := Option.isSome_iff_exists.1 (hth2 k hk).1
    rw [Nat.zero_add] at hu
    exact World.cell?_setCell_same _ _ _ hu
  have bel : Below w.heap.size w (w2.setCells (w.heap.size + 1) (k * 8) (step0 w.heap.size (nm k)).toList) := below_setCells (by omega) _ _ _ ((hB.setCell (p := ⟨w.heap.size + 2, k, none⟩) (by simp) _).grown g (by simp; omega) (by simp))
  have szs := size_setCells (w.heap.size + 1) (step0 w.heap.size (nm k)).toList (k * 8) w2
  have sold : ∀ t, t < k → ∀ j, j < 8 → (w2.setCells (w.heap.size + 1) (k * 8) (step0 w.heap.size (nm k)).toList).cell? ⟨w.heap.size + 1, t * 8 + j, none⟩ = wr.cell? ⟨w.heap.size + 1, t * 8 + j, none⟩ := fun t ht j hj => cout _ _ (by omega) (Or.inl (by omega)) (Or.inr (Or.inl (by omega)))
  have hold : ∀ t, t < k → (w2.setCells (w.heap.size + 1) (k * 8) (step0 w.heap.size (nm k)).toList).cell? ⟨w.heap.size + 2, t, none⟩ = some (.bool (has t)) := fun t ht => (cout _ _ (by omega) (Or.inr (by omega)) (Or.inl (by omega))).trans (hhas t ht)
  have c0 := cin 0 (by rw [hlen]; omega)
  have c1 := cin 1 (by rw [hlen]; omega)
  have c2 := cin 2 (by rw [hlen]; omega)
  have c3 := cin 3 (by rw [hlen]; omega)
  have c4 := cin 4 (by rw [hlen]; omega)
  have c5 := cin 5 (by rw [hlen]; omega)
  have c6 := cin 6 (by rw [hlen]; omega)
  have c7 := cin 7 (by rw [hlen]; omega)
  have t5 := World.there_setCells t2 (w.heap.size + 1) (k * 8) (step0 w.heap.size (nm k)).toList
  have t6 := World.there_setCells t4 (w.heap.size + 1) (k * 8) (step0 w.heap.size (nm k)).toList
  have call0 := (cout w.heap.size 0 (by omega) (Or.inl (by omega)) (Or.inl (by omega))).trans h0
  clear cout cin t2 t4
  generalize w2.setCells (w.heap.size + 1) (k * 8) (step0 w.heap.size (nm k)).toList = w3 at *
  refine ⟨t3, chas, c2, fun j hj => ?_, fun hf => ?_, fun hT => ?_⟩
  · have := (t5 j hj).2
    rw [Nat.zero_add] at this
    exact this
  · refine ⟨bel, call0, fun t ht => ?_, t5, fun t ht => ?_, t6, by omega⟩
    · by_cases e : t = k
      · subst e
        rw [hf]
        exact ⟨c0, c1, c2, c3, c4, c5, c6, c7⟩
      · obtain ⟨e0, e1, e2, e3, e4, e5, e6, e7⟩ := hst t (by omega)
        have k' := sold t (by omega)
        exact ⟨(k' 0 (by omega)).trans e0, (k' 1 (by omega)).trans e1, (k' 2 (by omega)).trans e2, (k' 3 (by omega)).trans e3, (k' 4 (by omega)).trans e4, (k' 5 (by omega)).trans e5, (k' 6 (by omega)).trans e6, (k' 7 (by omega)).trans e7⟩
    · by_cases e : t = k
      · rw [e]; exact chas
      · exact hold t (by omega)
  · have oth : ∀ b j, (b ≠ w.heap.size + 1 ∨ j ≠ k * 8 + 2) → (w3.setCell ⟨w.heap.size + 1, k * 8 + 2, none⟩ (.func (.func 9) #[] #[.pointer (some ⟨w.heap.size, 0, none⟩)])).cell? ⟨b, j, none⟩ = w3.cell? ⟨b, j, none⟩ := by
      intro b j h1
      refine World.cell?_setCell_other _ _ _ _ (fun e => ?_)
      injection e with e1 e2
      rcases h1 with h1 | h1
      · exact h1 e1.symm
      · exact h1 e2.symm
    refine ⟨bel.setCell (p := ⟨w.heap.size + 1, k * 8 + 2, none⟩) (by simp) _, (oth _ _ (Or.inl (by omega))).trans call0, fun t ht => ?_, there_setCell t5 _ _, fun t ht => ?_, there_setCell t6 _ _, by simp; omega⟩
    · by_cases e : t = k
      · subst e
        rw [hT]
        exact ⟨(oth _ _ (Or.inr (by omega))).trans c0, (oth _ _ (Or.inr (by omega))).trans c1, World.cell?_setCell_same _ _ _ c2, (oth _ _ (Or.inr (by omega))).trans c3, (oth _ _ (Or.inr (by omega))).trans c4, (oth _ _ (Or.inr (by omega))).trans c5, (oth _ _ (Or.inr (by omega))).trans c6, (oth _ _ (Or.inr (by omega))).trans c7⟩
      · obtain ⟨e0, e1, e2, e3, e4, e5, e6, e7⟩ := hst t (by omega)
        have k' := fun j hj => (oth (w.heap.size + 1) (t * 8 + j) (Or.inr (by omega))).trans (sold t (by omega) j hj)
        exact ⟨(k' 0 (by omega)).trans e0, (k' 1 (by omega)).trans e1, (k' 2 (by omega)).trans e2, (k' 3 (by omega)).trans e3, (k' 4 (by omega)).trans e4, (k' 5 (by omega)).trans e5, (k' 6 (by omega)).trans e6, (k' 7 (by omega)).trans e7⟩
    · by_cases e : t = k
      · rw [e]; exact (oth _ _ (Or.inl (by omega))).trans chas
      · exact (oth _ _ (Or.inl (by omega))).trans (hold t (by omega))
def sagaArr (sb m : Nat) (pv : ByteArray) : Array Value := #[.string ⟨#[120]⟩, .slice (some ⟨sb, 0, none⟩) m m, .int .i64 0, .int .i64 0, .float .f64 0, .int .i64 0, .int .i64 0, .int .i64 0, .string pv]

/-- The second loop's memory: the saga's box, the results' row behind it, j of n names laid. -/
def L2 (w wr : World) (sb m : Nat) (pv : ByteArray) (n j : Nat) : Prop :=
  Below (w.heap.size + 1) (w.alloc (.cells (sagaArr sb m pv) 53)) wr ∧ (∀ t, t < j → wr.cell? ⟨w.heap.size + 1, t, none⟩ = some (.string (nm t))) ∧ wr.there (w.heap.size + 1) 0 n ∧ w.heap.size + 2 ≤ wr.heap.size

theorem L2.start (w : World) (sb m : Nat) (pv : ByteArray) (n : Nat) (cs : Array Value) (h : cs.size = n) : L2 w ((w.alloc (.cells (sagaArr sb m pv) 53)).alloc (.cells cs 9)) sb m pv n 0 := by
  refine ⟨(Below.refl _ _).alloc (by simp) _, fun t ht => absurd ht (by omega), ?_, by simp⟩
  have h := there_alloc_row (w.alloc (.cells (sagaArr sb m pv) 53)) cs 9 n h
  rw [World.size_alloc] at h
  exact h

theorem L2.step {w wr w2 : World} {sb m : Nat} {pv : ByteArray} {n j : Nat} (h : L2 w wr sb m pv n j) (hj : j < n) (g : wr.grownBy w2 none) :
    (∃ u, w2.cell? ⟨w.heap.size + 1, j, none⟩ = some u) ∧ w2.frozen? ⟨w.heap.size + 1, j, none⟩ = false ∧ L2 w (w2.setCell ⟨w.heap.size + 1, j, none⟩ (.string (nm j))) sb m pv n (j + 1) := by
  obtain ⟨h1, h2, h3, h4⟩ := h
  have gs := g.size
  have hb := g.block (w.heap.size + 1) (by omega) (by simp)
  have t2 := there_of_block h3 hb
  obtain ⟨u, hu⟩ := Option.isSome_iff_exists.1 (t2 j hj).1
  have hf := (t2 j hj).2
  rw [Nat.zero_add] at hu hf
  refine ⟨⟨u, hu⟩, hf, (h1.grown g (by omega) (by simp)).setCell (p := ⟨w.heap.size + 1, j, none⟩) (Nat.le_refl _) _, fun t ht => ?_, there_setCell t2 _ _, by simp; omega⟩
  by_cases e : t = j
  · subst e
    exact World.cell?_setCell_same _ _ _ hu
  · rw [World.cell?_setCell_other _ _ _ _ (fun e' => by injection e' with _ e2; exact e e2.symm), World.cell?_of_block (w := wr) hb]
    exact h2 t (by omega)

/-- its saga -/
theorem L2.saga {w wr : World} {sb m : Nat} {pv : ByteArray} {n j : Nat} (h : L2 w wr sb m pv n j) (i : Nat) : wr.cell? ⟨w.heap.size, i, none⟩ = (sagaArr sb m pv)[i]? :=
  (h.1.cell (p := ⟨w.heap.size, i, none⟩) (by simp)).trans (World.cell?_alloc_at _ _ _ _ rfl)

theorem L2.below {w wr : World} {sb m : Nat} {pv : ByteArray} {n j : Nat} (h : L2 w wr sb m pv n j) : Below w.heap.size w wr :=
  ((Below.refl _ _).alloc (Nat.le_refl _) _).trans (h.1.mono (by omega))

/-- the given list's first i numbers -/
def preL (P : Nat → Int) (i : Nat) : List Int := (List.range i).map P
theorem preL_succ (P : Nat → Int) (i : Nat) : preL P (i + 1) = preL P i ++ [P i] := by simp [preL, List.range_succ]
theorem preL_len (P : Nat → Int) (i : Nat) : (preL P i).length = i := by simp [preL]
theorem preL_get (P : Nat → Int) (n : Nat) (r : List Int) (i : Nat) (h : i < n) : (preL P n ++ r).getD i 0 = P i := by
  rw [List.getD_eq_getElem?_getD, List.getElem?_append_left (by rw [preL_len]; exact h)]
  simp [preL, h]
theorem name_quiet {w : World} (i : Nat) (hi : i ≤ 1025) (x : BW w.heap.size w) : Calls Yba.prog 11 #[.int .i64 i] x.val fun e w'' => e = .returned (.string (nm i)) ∧ ∃ y : BW w.heap.size w, w'' = y.val := by
  refine (name_any i hi x.val).mono ?_
  rintro e w' ⟨rfl, g⟩
  exact ⟨rfl, ⟨w', x.ok.grown g x.ok.size (by simp)⟩, rfl⟩

theorem due_get {P : Nat → Int} {np : Nat} {has : Nat → Bool} {N t : Nat} {dn : List Int} (h : dueL has N = dn ++ dueL has (t + 1)) (ht : has t = true) :
    (preL P np ++ dueL has N).getD (np + dn.length) 0 = (t : Int) ∧ np + dn.length < (preL P np ++ dueL has N).length ∧ dueL has N = (dn ++ [(t : Int)]) ++ dueL has t := by
  have e : dueL has (t + 1) = (t : Int) :: dueL has t := by simp [dueL, ht]
  rw [e] at h
  refine ⟨?_, ?_, by rw [h]; simp⟩
  · rw [h, List.getD_eq_getElem?_getD, List.getElem?_append_right (by rw [preL_len]; omega), preL_len, Nat.add_sub_cancel_left, List.getElem?_append_right (Nat.le_refl _), Nat.sub_self]
    rfl
  · rw [h, List.length_append, List.length_append, preL_len, List.length_cons]
    omega

/-- the law's own test, and what compensates answered -/
theorem comp_cases {k n : Nat} {pv : ByteArray} {piv : Nat} {tr : Bool} (h : PivAt k pv piv) :
    ∃ c, compB piv n tr = c ∧ ((c = false ∧ (piv : Int) < (n : Int)) ∨ (c = false ∧ ¬ ((piv : Int) < (n : Int)) ∧ tr = true ∧ ((n : Int) == (piv : Int)) = true) ∨ (c = true ∧ ¬ ((piv : Int) < (n : Int)) ∧ tr = false) ∨ (c = true ∧ ¬ ((piv : Int) < (n : Int)) ∧ tr = true ∧ ((n : Int) == (piv : Int)) = false)) := by
  refine ⟨_, rfl, ?_⟩
  unfold compB
  by_cases h1 : piv < n
  · exact Or.inl ⟨by simp [h1], by omega⟩
  · right
    cases tr
    · exact Or.inr (Or.inl ⟨by simp [h1], by omega, rfl⟩)
    · by_cases h2 : n = piv
      · exact Or.inl ⟨by simp [h2], by omega, rfl, by simp [h2]⟩
      · exact Or.inr (Or.inr ⟨by simp [h1, h2], by omega, rfl, beq_eq_false_iff_ne.2 (by omega)⟩)
end Go.Proofs.Ybulkcpxi
