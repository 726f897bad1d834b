/-
  The arguments opened: [][]byte and [][][]byte as the walks want them.
-/
import Derived.Test.YbulkcpryAppends
import Derived.Deep.Matrix
import Derived.SizedLaws
import Derived.KernelRfl
namespace Go.Proofs.Ybulkcpry
open Go.RowKit Go.Deep Go.ChangeShapes
set_option linter.unusedVariables false

theorem cells22 : Yba.prog.cellsOf 22 = 1 := by kernel_rfl
theorem cells30 : Yba.prog.cellsOf 30 = 1 := by kernel_rfl
theorem cells5 : Yba.prog.cellsOf 5 = 1 := by kernel_rfl
theorem bytes5 : Yba.prog.bytesOf 5 = 1 := by kernel_rfl

theorem weightsAll_mem {H : Type} {P : Program} {e : TypeId} : ∀ {ds : List (DataW H)} {x : DataW H}, x ∈ ds → ∀ n ∈ x.weights P e, n ∈ DataW.weightsAll P e ds
  | d :: r, x, hx, n, hn => by
    rw [DataW.weightsAll, List.mem_append]
    rcases List.mem_cons.1 hx with rfl | h
    · exact Or.inl hn
    · exact Or.inr (weightsAll_mem h n hn)
  | [], x, hx, _, _ => by cases hx

theorem weights_elem {H : Type} {P : Program} {t e : TypeId} {elems spare : List (DataW H)} {x : DataW H} (hu : P.underlying t = some (.slice e)) (hx : x ∈ elems) : ∀ n ∈ x.weights P e, n ∈ (DataW.slice elems spare).weights P t := by
  intro n hn
  simp only [DataW.weights, hu, List.mem_cons, List.mem_append]
  exact Or.inr (Or.inl (weightsAll_mem hx n hn))

/-- A []byte's own weight: its bytes. -/
theorem row_weight {H : Type} (a : Addr) (l : Nat) (zs : List Int) (h : ∀ n ∈ (intRow (H := H) .u8 (some a) l zs).weights Yba.prog 30, n ≤ reachBytes) : zs.length ≤ 140737488351232 := by
  have h1 := h (zs.length) (by
    simp only [intRow, DataW.weights, Yba.underlying30, List.mem_cons, bytes5]
    left
    simp [lits]
    omega)
  unfold reachBytes at h1
  omega

theorem addr_plain {w : World} {a : Addr} {v : Value} (h : w.cell? (a.add 0) = some v) : ∃ b off, a = ⟨b, off, none⟩ := by
  obtain ⟨b, off, spot⟩ := a
  have hspot : spot = none := by simpa [Addr.add] using World.cell?_spot h
  exact ⟨b, off, by rw [hspot]⟩

theorem rows_of_trod {H : Type} {enc : TypeId × Value → H} {W : World} {fuel : Nat} {v : Value} {d : DataW H} {ps : List MemPlace} (h : DataW.trod enc Yba.prog W 0 (fun _ => true) true fuel 22 [v] = some (d, ps)) (hsz : ∀ n ∈ d.weights Yba.prog 22, n ≤ reachBytes) :
    ∃ a len cap L, v = .slice a len cap ∧ len ≤ maxLen ∧ Rows W.heap.size W a len L := by
  rcases open_int_rows Yba.underlying22 Yba.underlying30 Yba.underlying5 cells30 cells5 h with ⟨hcs, _⟩ | ⟨a, len, cap, A, L, C, Z, hcs, _, hl, hm, hx, hr⟩
  · simp only [List.cons.injEq, and_true] at hcs
    exact ⟨none, 0, 0, fun _ => [], hcs, Nat.zero_le _, fun hp => absurd hp (by omega)⟩
  · simp only [List.cons.injEq, and_true] at hcs
    simp only [Prod.mk.injEq] at hx
    refine ⟨some a, len, cap, fun r => (Z r).take (L r), hcs, Nat.le_trans hl hm, fun hp => ?_⟩
    obtain ⟨b, off, rfl⟩ := addr_plain (hr 0 (by omega)).1
    have hb : b < W.heap.size := by
      have := World.block_lt_of_cell? _ _ (hr 0 (by omega)).1
      rw [add_block] at this
      exact this
    refine ⟨b, off, fun r => .slice (A r) (L r) (C r), rfl, hb, fun j hj => ?_⟩
    obtain ⟨e1, e2, e3, e4, e5, e6, e7⟩ := hr j (by omega)
    refine ⟨by rw [← Go.WideShapes.add_plain]; exact e1, ?_⟩
    have hlen : ((Z j).take (L j)).length = L j := by rw [List.length_take]; omega
    have hbound : (A j ≠ none) → (Z j).length ≤ 140737488351232 := by
      intro hne
      cases hA : A j with
      | none => exact absurd hA hne
      | some a' =>
        refine row_weight (H := H) a' (L j) (Z j) (fun n hn => hsz n ?_)
        rw [hx.1]
        refine weights_elem Yba.underlying22 (List.mem_map.2 ⟨j, List.mem_range.2 hj, ?_⟩) n hn
        rw [hA]
    refine ⟨A j, C j, by rw [hlen], ?_, ?_, fun x hxe => ⟨fun i hi => ?_, fun hp5 => Or.inl ?_⟩⟩
    · rw [hlen]
      cases hA : A j with
      | none => have := e6 hA; omega
      | some a' => have := hbound (by rw [hA]; simp); omega
    · intro hn
      have := e6 hn
      exact ⟨this, List.eq_nil_of_length_eq_zero (by show ((Z j).take (L j)).length = 0; omega)⟩
    · rw [hlen] at hi
      have hc := (e7 x hxe).2 i (by omega)
      rw [hc, List.getD_eq_getElem?_getD, List.getD_eq_getElem?_getD, List.getElem?_take_of_lt hi]
    · have hp6 : 0 < ((Z j).take (L j)).length := hp5
      have hc := (e7 x hxe).2 0 (by omega)
      have := World.block_lt_of_cell? _ _ hc
      rw [add_block] at this
      exact this

theorem batches_of_trod {H : Type} {enc : TypeId × Value → H} {W : World} {fuel : Nat} {v : Value} {d : DataW H} {ps : List MemPlace} (h : DataW.trod enc Yba.prog W 0 (fun _ => true) true fuel 23 [v] = some (d, ps)) (hsz : ∀ n ∈ d.weights Yba.prog 23, n ≤ reachBytes) :
    ∃ a len cap BA BL BC Ls, v = .slice a len cap ∧ len ≤ maxLen ∧ lawS4574CAppends.Batches W.heap.size W a len BA BL BC Ls := by
  rcases open_slice1 Yba.underlying23 cells22 h with ⟨hcs, _⟩ | ⟨a, len, cap, m, n, V, D, Pl, hcs, _, hl, hm, hmm, hx, hr⟩
  · simp only [List.cons.injEq, and_true] at hcs
    exact ⟨none, 0, 0, fun _ => none, fun _ => 0, fun _ => 0, fun _ _ => [], hcs, Nat.zero_le _, fun hp => absurd hp (by omega)⟩
  · simp only [List.cons.injEq, and_true] at hcs
    simp only [Prod.mk.injEq] at hx
    simp only [if_true] at hmm
    have each : ∀ i, i < len → ∃ y : Option Addr × Nat × Nat × (Nat → List Int), V i = .slice y.1 y.2.1 y.2.2.1 ∧ y.2.1 ≤ maxLen ∧ Rows W.heap.size W y.1 y.2.1 y.2.2.2 := by
      intro i hi
      obtain ⟨a', l', c', L', r1, r2, r3⟩ := rows_of_trod (hr i (by omega)).2 (fun k hk => hsz k (by
        rw [hx.1]
        exact weights_elem Yba.underlying23 (List.mem_map.2 ⟨i, List.mem_range.2 hi, rfl⟩) k hk))
      exact ⟨(a', l', c', L'), r1, r2, r3⟩
    obtain ⟨y, hy⟩ := choose_lt each
    refine ⟨some a, len, cap, fun i => (y i).1, fun i => (y i).2.1, fun i => (y i).2.2.1, fun i => (y i).2.2.2, hcs, Nat.le_trans hl hm, fun hp => ?_⟩
    obtain ⟨b, off, rfl⟩ := addr_plain (hr 0 (by omega)).1
    have hb : b < W.heap.size := by
      have := World.block_lt_of_cell? _ _ (hr 0 (by omega)).1
      rw [add_block] at this
      exact this
    refine ⟨b, off, rfl, hb, fun j hj => ?_⟩
    obtain ⟨y1, y2, y3⟩ := hy j hj
    refine ⟨?_, by unfold maxLen at y2; omega, y3⟩
    rw [← Go.WideShapes.add_plain, (hr j (by omega)).1, y1]
end Go.Proofs.Ybulkcpry
