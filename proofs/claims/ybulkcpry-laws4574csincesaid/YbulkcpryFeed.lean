/-
  store.feed: newFeed, add over this program.
-/
import Derived.Test.YbulkcpryBytes
import Derived.Conc.SmallLaws
import Derived.Laws.EntriesVeiled
namespace Go.Proofs.Ybulkcpry
open Go.RowKit
set_option linter.unusedVariables false

/-- an open channel without room -/
def chan0 : Obj := .chan 0 #[] false 0 0 false
def chanX : Obj := .chan 0 #[] true 0 0 false

theorem mk0 (w : World) : (Instr.makeChan 25 (.int .i64 0)).run Yba.prog w = .ok (.chan (some w.heap.size)) (w.alloc chan0) := by
  have h : (Yba.prog.info? 56).map (·.bytes) = some 0 := by kernel_rfl
  obtain ⟨i, hi, hb⟩ := Option.map_eq_some_iff.1 h
  unfold chan0
  simpa using Go.Conc.run_makeChan (P := Yba.prog) (w := w) Yba.underlying25 hi .i64 0 (by omega) (by rw [hb]; omega)

/-- The feed in memory. -/
def Feed (B : Nat) (w : World) (fb : Nat) (d : Int) (ve : Value) (ch : Nat) : Prop :=
  w.heap[fb]? = some (Obj.cells #[ve, .int .i64 d, .chan (some ch)] 27 (0, 0)) ∧ B ≤ fb ∧ w.heap[ch]? = some chan0 ∧ B ≤ ch

theorem Feed.cell {B : Nat} {w : World} {fb : Nat} {d : Int} {ve : Value} {ch : Nat} (h : Feed B w fb d ve ch) :
    w.cell? ⟨fb, 0, none⟩ = some ve ∧ w.cell? ⟨fb, 1, none⟩ = some (.int .i64 d) ∧ w.cell? ⟨fb, 2, none⟩ = some (.chan (some ch)) ∧ (∀ j, w.frozen? ⟨fb, j, none⟩ = false) ∧ fb < w.heap.size ∧ ch < w.heap.size := by
  obtain ⟨h1, h2, h3, h4⟩ := h
  refine ⟨?_, ?_, ?_, fun j => ?_, (Array.getElem?_eq_some_iff.1 h1).1, (Array.getElem?_eq_some_iff.1 h3).1⟩
  · rw [cell_of_row w fb 0 _ _ _ h1]; rfl
  · rw [cell_of_row w fb 1 _ _ _ h1]; rfl
  · rw [cell_of_row w fb 2 _ _ _ h1]; rfl
  · simp [World.frozen?, h1]

theorem Feed.carry {B : Nat} {w w' : World} {fb : Nat} {d : Int} {ve : Value} {ch : Nat} (h : Feed B w fb d ve ch) (e1 : w'.heap[fb]? = w.heap[fb]?) (e2 : w'.heap[ch]? = w.heap[ch]?) : Feed B w' fb d ve ch :=
  ⟨e1.trans h.1, h.2.1, e2.trans h.2.2.1, h.2.2.2⟩

/-- a row of slices is not the feed, nor its channel -/
theorem Feed.ne {B : Nat} {w : World} {fb : Nat} {d : Int} {ve : Value} {ch : Nat} (h : Feed B w fb d ve ch) {k : Nat} {cs : Array Value} {t : TypeId} {fr : Nat × Nat} (hk : w.heap[k]? = some (Obj.cells cs t fr)) (ht : t ≠ 27) : k ≠ fb ∧ k ≠ ch ∧ fb ≠ ch := by
  obtain ⟨h1, h2, h3, h4⟩ := h
  refine ⟨?_, ?_, ?_⟩
  · rintro rfl
    rw [h1] at hk
    simp at hk
    exact ht hk.2.1.symm
  · rintro rfl
    rw [h3] at hk
    simp [chan0] at hk
  · rintro rfl
    rw [h1] at h3
    simp [chan0] at h3
theorem Feed.ne2 {B : Nat} {w : World} {fb : Nat} {d : Int} {ve : Value} {ch : Nat} (h : Feed B w fb d ve ch) : fb ≠ ch := by
  obtain ⟨h1, h2, h3, h4⟩ := h
  rintro rfl
  rw [h1] at h3
  simp [chan0] at h3

theorem Own.carry {B : Nat} {w w' : World} {base : Nat} {v : Value} {n : Nat} {L : Nat → List Int} (h : Own B w base v n L) (k : Keep B w w') (hb : ∀ g, v.ownBlock = some g → w'.heap[g]? = w.heap[g]?) : Own B w' base v n L := by
  obtain ⟨xs, ⟨ho1, ho2⟩, hB⟩ := h
  refine ⟨xs, ⟨ho1, ?_⟩, fun j hj => (hB j hj).keep k⟩
  rcases ho2 with h0 | ⟨g, cap, cur, rfl, h2, h3, h4⟩
  · exact Or.inl h0
  · exact Or.inr ⟨g, cap, cur, rfl, h2, (hb g rfl).trans h3, h4⟩

/-- The world behind 'close(c)'. -/
def closed (w : World) (c : Nat) : World := { w with heap := w.heap.setIfInBounds c chanX }
theorem closed_size (w : World) (c : Nat) : (closed w c).heap.size = w.heap.size := by simp [closed]
theorem closed_other (w : World) (c k : Nat) (h : k ≠ c) : (closed w c).heap[k]? = w.heap[k]? := by
  simp only [closed]
  rw [Array.getElem?_setIfInBounds_ne (Ne.symm h)]

theorem close_run (w : World) (c : Nat) (ats : Array TypeId) (ty : TypeId) (h : w.heap[c]? = some chan0) : (Builtin.close_ ats ty #[.chan (some c)]).run Yba.prog w = .ok (.tuple #[]) (closed w c) :=
  Go.run_close_open ats ty h

/-- What add leaves of a world 'w1' in which the events have been appended: the field stored, the old channel closed, a new one made and stored. -/
def added (w1 : World) (fb ch : Nat) (ve' : Value) : World :=
  ((closed (w1.setCell ⟨fb, 0, none⟩ ve') ch).setCell ⟨fb, 2, none⟩ (.chan (some w1.heap.size))).alloc chan0

theorem added_other (w1 : World) (fb ch : Nat) (ve' : Value) (k : Nat) (hk : k < w1.heap.size) (h1 : k ≠ fb) (h2 : k ≠ ch) : (added w1 fb ch ve').heap[k]? = w1.heap[k]? := by
  unfold added
  rw [Below.heap_alloc _ _ k (by rw [World.size_setCell, closed_size]; simpa using hk), heap_setCell_other _ _ k _ h1, closed_other _ _ _ h2, heap_setCell_other _ _ k _ h1]

theorem added_size (w1 : World) (fb ch : Nat) (ve' : Value) : (added w1 fb ch ve').heap.size = w1.heap.size + 1 := by simp [added, closed]

theorem added_feed {B : Nat} {w1 : World} {fb : Nat} {d : Int} {ve ve' : Value} {ch : Nat} (h : Feed B w1 fb d ve ch) (hB : B ≤ w1.heap.size) : Feed B (added w1 fb ch ve') fb d ve' w1.heap.size := by
  have hne := h.ne2
  obtain ⟨h1, h2, h3, h4⟩ := h
  have hfb : fb < w1.heap.size := (Array.getElem?_eq_some_iff.1 h1).1
  have e1 : (w1.setCell ⟨fb, 0, none⟩ ve').heap[fb]? = some (Obj.cells #[ve', .int .i64 d, .chan (some ch)] 27 (0, 0)) := heap_setCell_same w1 fb 0 _ 27 ve' h1
  have e2 : (closed (w1.setCell ⟨fb, 0, none⟩ ve') ch).heap[fb]? = some (Obj.cells #[ve', .int .i64 d, .chan (some ch)] 27 (0, 0)) := by
    rw [closed_other _ _ _ hne]; exact e1
  have hsz : ((closed (w1.setCell ⟨fb, 0, none⟩ ve') ch).setCell ⟨fb, 2, none⟩ (.chan (some w1.heap.size))).heap.size = w1.heap.size := by simp [closed]
  refine ⟨?_, h2, ?_, hB⟩
  · unfold added
    rw [Below.heap_alloc _ _ fb (by rw [hsz]; exact hfb)]
    exact heap_setCell_same _ fb 2 _ 27 _ e2
  · unfold added
    have h5 := heap_alloc_new ((closed (w1.setCell ⟨fb, 0, none⟩ ve') ch).setCell ⟨fb, 2, none⟩ (.chan (some w1.heap.size))) chan0
    rw [hsz] at h5
    exact h5

theorem added_keep {B : Nat} {w1 : World} {fb : Nat} {d : Int} {ve ve' : Value} {ch : Nat} (h : Feed B w1 fb d ve ch) : Keep B w1 (added w1 fb ch ve') := by
  have hc := h.cell
  refine ⟨⟨rfl, rfl, rfl, by rw [added_size]; omega, fun k hk => added_other w1 fb ch ve' k (by have := h.2.1; omega) (by have := h.2.1; omega) (by have := h.2.2.2; omega)⟩, fun g cs fr hg => ?_⟩
  have hn := h.ne hg (by decide)
  rw [added_other w1 fb ch ve' g (Array.getElem?_eq_some_iff.1 hg).1 hn.1 hn.2.1]
  exact hg

/-- add of nothing -/
theorem add_none (p : Value) (a : Option Addr) (c : Nat) (w : World) : Calls Yba.prog 6 #[p, .slice a 0 c] w fun e w' => e = .returned (.tuple #[]) ∧ w' = w := by
  go_enter Yba.func6, Yba.ntmps6
  go_wp2
  exact bodyPost_ret (v := .tuple #[]) (by simp [results, Yba.results6, go_sem]) rfl ⟨rfl, rfl⟩

theorem add_some (B : Nat) (w : World) (fb : Nat) (d : Int) (ea : Option Addr) (n ec : Nat) (ch : Nat) (base : Nat) (Le : Nat → List Int) (dg m dc : Nat) (based : Nat) (Ld : Nat → List Int)
    (hf : Feed B w fb d (.slice ea n ec) ch) (ho : Own B w base (.slice ea n ec) n Le) (hd : Own B w based (.slice (some ⟨dg, 0, none⟩) m dc) m Ld) (hB : B ≤ base) (hbase : base ≤ w.heap.size) (hm : 1 ≤ m) (hn : n + m ≤ 1000000) :
    Calls Yba.prog 6 #[.pointer (some ⟨fb, 0, none⟩), .slice (some ⟨dg, 0, none⟩) m dc] w fun e w' => e = .returned (.tuple #[]) ∧ ∃ ve' w1, w' = added w1 fb ch ve' ∧ Own B w1 base ve' (n + m) (fun j => if j < n then Le j else Ld (j - n)) ∧
      w.grownBy w1 (Value.ownBlock (.slice ea n ec)) ∧ Keep B w w1 ∧ (ve'.ownBlock = Value.ownBlock (.slice ea n ec) ∨ ∀ k, ve'.ownBlock = some k → w.heap.size ≤ k) := by
  obtain ⟨xs, hxo, hxb⟩ := hd
  have hxl : xs.length = m := by have := hxo.1; omega
  obtain ⟨ve', w1, hap, o1, g1, k1, l1, _⟩ := own_append ho hB hbase ⟨dg, 0, none⟩ m dc xs Ld hxl (hxo.cells rfl) hxb hn
  have hrow := ho.row
  have e1 : w1.heap[fb]? = w.heap[fb]? := g1.block fb hf.cell.2.2.2.2.1 (fun e => by
    obtain ⟨_, _, cs, hcs⟩ := hrow fb e.symm
    exact (hf.ne hcs (by decide)).1 rfl)
  have e2 : w1.heap[ch]? = w.heap[ch]? := g1.block ch hf.cell.2.2.2.2.2 (fun e => by
    obtain ⟨_, _, cs, hcs⟩ := hrow ch e.symm
    exact (hf.ne hcs (by decide)).2.1 rfl)
  have hf1 := hf.carry e1 e2
  have hne := hf.ne2
  obtain ⟨c0, c1, c2, cf, cs1, cs2⟩ := hf.cell
  obtain ⟨d0, d1, d2, df, ds1, ds2⟩ := hf1.cell
  have hcl := fun ats ty => close_run (w1.setCell ⟨fb, 0, none⟩ ve') ch ats ty ((heap_setCell_other _ _ _ _ (Ne.symm hne)).trans hf1.2.2.1)
  have d2' : (w1.setCell ⟨fb, 0, none⟩ ve').cell? ⟨fb, 2, none⟩ = some (.chan (some ch)) := (World.cell?_setCell_other _ _ _ _ (by simp)).trans d2
  have hm0 : ((m : Int) == 0) = false := beq_eq_false_iff_ne.2 (by omega)
  have HA : Hid ((Builtin.append_ #[22, 22] 22 #[.slice ea n ec, .slice (some ⟨dg, 0, none⟩) m dc]).run Yba.prog w = .ok ve' w1) := hap
  have kmk := mk0
  clear hap e1 e2 hf hf1 c1 c2 cs1 cs2 hxo hxb hrow d1 cf
  obtain ⟨ve0, vl, vc, rfl⟩ : ∃ a n c, ve' = .slice a n c := by
    obtain ⟨a, c, h, _⟩ := o1.shape
    exact ⟨a, _, c, h⟩
  have z0 : (closed (w1.setCell ⟨fb, 0, none⟩ (.slice ve0 vl vc)) ch).heap.size = w1.heap.size := by rw [closed_size]; simp
  have hblk : ((closed (w1.setCell ⟨fb, 0, none⟩ (.slice ve0 vl vc)) ch).alloc chan0).heap[fb]? = (w1.setCell ⟨fb, 0, none⟩ (.slice ve0 vl vc)).heap[fb]? := by
    rw [Below.heap_alloc _ _ fb (by rw [z0]; exact ds1), closed_other _ _ _ hne]
  have f1 : ((closed (w1.setCell ⟨fb, 0, none⟩ (.slice ve0 vl vc)) ch).alloc chan0).cell? ⟨fb, 2, none⟩ = some (.chan (some ch)) := (World.cell?_of_block hblk).trans d2'
  have f2 : ((closed (w1.setCell ⟨fb, 0, none⟩ (.slice ve0 vl vc)) ch).alloc chan0).frozen? ⟨fb, 2, none⟩ = false := (World.frozen?_of_block hblk).trans (by simp [df])
  clear hblk
  go_enter Yba.func6, Yba.ntmps6
  go_wp2_with (at_builtin; refine wpList_app rfl (.tmp 11) (.tmp 12) 22 rfl rfl _ _ _ w1 rfl rfl HA.out ?_)
  go_end0
  exact ⟨rfl, _, w1, rfl, o1, g1, k1, l1⟩
end Go.Proofs.Ybulkcpry
