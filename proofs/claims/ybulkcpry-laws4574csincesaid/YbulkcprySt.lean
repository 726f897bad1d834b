/-
  The feed and the list that is wanted, side by side in memory: plain.
-/
import Derived.Test.YbulkcpryAdd
namespace Go.Proofs.Ybulkcpry
open Go.RowKit
set_option linter.unusedVariables false

/-- The feed at block fb with events ve (N of them, reading as L), the list vw (M, reading as K), in two rows. -/
def St (w wr : World) (fb : Nat) (d : Int) (ve : Value) (ch N : Nat) (L : Nat → List Int) (vw : Value) (M : Nat) (K : Nat → List Int) : Prop :=
  Feed w.heap.size wr fb d ve ch ∧ Own w.heap.size wr w.heap.size ve N L ∧ Own w.heap.size wr w.heap.size vw M K ∧ (∀ g, ve.ownBlock = some g → vw.ownBlock = some g → False) ∧ Keep w.heap.size w wr

theorem St.grown {w wr w1 : World} {fb : Nat} {d : Int} {ve : Value} {ch N : Nat} {L : Nat → List Int} {vw : Value} {M : Nat} {K : Nat → List Int} (h : St w wr fb d ve ch N L vw M K) (g : wr.grownBy w1 none) : St w w1 fb d ve ch N L vw M K := by
  obtain ⟨h1, h2, h3, h4, h5⟩ := h
  have hs := h5.1.size
  have k : Keep w.heap.size wr w1 := keep_of_grown g hs (by simp)
  have hc := h1.cell
  refine ⟨h1.carry (g.block _ hc.2.2.2.2.1 (by simp)) (g.block _ hc.2.2.2.2.2 (by simp)), h2.carry k (fun b hb => g.block b (h2.row b hb).2.1 (by simp)), h3.carry k (fun b hb => g.block b (h3.row b hb).2.1 (by simp)), h4, h5.trans k⟩

theorem St.add {w w1 w2 : World} {fb : Nat} {d : Int} {ve ve' : Value} {ch ch' N N' : Nat} {L L' : Nat → List Int} {vw : Value} {M : Nat} {K : Nat → List Int} (h : St w w1 fb d ve ch N L vw M K)
    (f' : Feed w.heap.size w2 fb d ve' ch') (o' : Own w.heap.size w2 w.heap.size ve' N' L') (k' : Keep w.heap.size w1 w2)
    (hb : ∀ k, k < w1.heap.size → k ≠ fb → k ≠ ch → some k ≠ ve.ownBlock → w2.heap[k]? = w1.heap[k]?) (hl : ve'.ownBlock = ve.ownBlock ∨ ∀ k, ve'.ownBlock = some k → w1.heap.size ≤ k) : St w w2 fb d ve' ch' N' L' vw M K := by
  obtain ⟨h1, h2, h3, h4, h5⟩ := h
  refine ⟨f', o', h3.carry k' (fun b hbb => ?_), ?_, h5.trans k'⟩
  · obtain ⟨r1, r2, cs, r3⟩ := h3.row b hbb
    have hne := h1.ne r3 (by decide)
    exact hb b r2 hne.1 hne.2.1 (fun e => h4 b e.symm hbb)
  · intro g hg hw
    rcases hl with hl | hl
    · rw [hl] at hg
      exact h4 g hg hw
    · have := hl g hg
      have := (h3.row g hw).2.1
      omega

theorem St.want {w w1 w2 : World} {fb : Nat} {d : Int} {ve : Value} {ch N : Nat} {L : Nat → List Int} {vw vw' : Value} {M M' : Nat} {K K' : Nat → List Int} (h : St w w1 fb d ve ch N L vw M K)
    (o' : Own w.heap.size w2 w.heap.size vw' M' K') (k' : Keep w.heap.size w1 w2) (g : w1.grownBy w2 vw.ownBlock)
    (hl : vw'.ownBlock = vw.ownBlock ∨ ∀ k, vw'.ownBlock = some k → w1.heap.size ≤ k) : St w w2 fb d ve ch N L vw' M' K' := by
  obtain ⟨h1, h2, h3, h4, h5⟩ := h
  have hc := h1.cell
  have hr := h3.row
  have n1 : ∀ b, vw.ownBlock = some b → b ≠ fb ∧ b ≠ ch := fun b hb => by
    obtain ⟨_, _, cs, r3⟩ := hr b hb
    exact ⟨(h1.ne r3 (by decide)).1, (h1.ne r3 (by decide)).2.1⟩
  refine ⟨h1.carry (g.block _ hc.2.2.2.2.1 (fun e => (n1 _ e.symm).1 rfl)) (g.block _ hc.2.2.2.2.2 (fun e => (n1 _ e.symm).2 rfl)), h2.carry k' (fun b hb => g.block b (h2.row b hb).2.1 (fun e => h4 b hb e.symm)), o', ?_, h5.trans k'⟩
  intro b hb hw
  rcases hl with hl | hl
  · rw [hl] at hw
    exact h4 b hb hw
  · have := hl b hw
    have := (h2.row b hb).2.1
    omega

/-- the field 'events' stored -/
theorem Feed.set {B : Nat} {w : World} {fb : Nat} {d : Int} {ve ve' : Value} {ch : Nat} (h : Feed B w fb d ve ch) : Feed B (w.setCell ⟨fb, 0, none⟩ ve') fb d ve' ch :=
  ⟨heap_setCell_same w fb 0 _ 27 ve' h.1, h.2.1, (heap_setCell_other _ _ _ _ (Ne.symm h.ne2)).trans h.2.2.1, h.2.2.2⟩

theorem Feed.setKeep {B : Nat} {w : World} {fb : Nat} {d : Int} {ve : Value} {ch : Nat} (h : Feed B w fb d ve ch) (v : Value) : Keep B w (w.setCell ⟨fb, 0, none⟩ v) := by
  refine ⟨(Below.refl B w).setCell h.2.1 v, fun g cs fr hg => ?_⟩
  rw [heap_setCell_other _ _ _ _ (h.ne hg (by decide)).1]
  exact hg

/-- append of nothing, from nil -/
theorem app_nil_src (w : World) (v : Value) (n c : Nat) (a : Option Addr) (hv : v = .slice a n c) (hn : n ≤ c) (c' : Nat) (hb : n ≤ 1000000) : (Builtin.append_ #[22, 22] 22 #[v, .slice none 0 c']).run Yba.prog w = .ok v w := by
  subst hv
  obtain ⟨i, i1, i2, i3, i4⟩ := info_parts info30
  cases a with
  | none => simp [Builtin.append_, run_underlying Yba.underlying22, sizeOf, typeInfo, i1, Builtin.lenOf, Builtin.firstCells, hn]
  | some x => simp [Builtin.append_, run_underlying Yba.underlying22, sizeOf, typeInfo, i1, Builtin.lenOf, Builtin.firstCells, hn, storeCells]

theorem cat_add (N : Nat) (L M : Nat → List Int) (t : Nat) : cat N L M (N + t) = M t := by
  unfold cat
  rw [if_neg (by omega), Nat.add_sub_cancel_left]

theorem want_append {w w3 : World} {fb : Nat} {d : Int} {ve : Value} {ch N' : Nat} {L' : Nat → List Int} {vw : Value} {N : Nat} {L : Nat → List Int} (h : St w w3 fb d ve ch N' L' vw N L) (based : Nat) (vd : Value) (m : Nat) (Lk : Nat → List Int)
    (hd : Own w.heap.size w3 based vd m Lk) (hb : N + m ≤ 1000000) :
    ∃ vw' w4, (Builtin.append_ #[22, 22] 22 #[vw, vd]).run Yba.prog w3 = .ok vw' w4 ∧ St w w4 fb d ve ch N' L' vw' (N + m) (cat N L Lk) := by
  obtain ⟨da, dc, rfl, hmc, hnil, hda⟩ := hd.shape
  cases da with
  | none =>
    obtain ⟨rfl, rfl⟩ := hnil rfl
    obtain ⟨wa, wc, rfl, hnc, _⟩ := h.2.2.1.shape
    refine ⟨_, w3, app_nil_src w3 _ N wc wa rfl hnc 0 (by omega), h.1, h.2.1, ?_, h.2.2.2.1, h.2.2.2.2⟩
    exact h.2.2.1.congr (fun j hj => by simp [cat, hj])
  | some x =>
    obtain ⟨g, rfl, _⟩ := hda x rfl
    obtain ⟨xs, hxo, hxb⟩ := hd
    have hxl : xs.length = m := by have := hxo.1; omega
    obtain ⟨vw', w4, hr, o1, g1, k1, l1, _⟩ := own_append h.2.2.1 (Nat.le_refl _) h.2.2.2.2.1.size ⟨g, 0, none⟩ m dc xs Lk hxl (hxo.cells rfl) hxb hb
    exact ⟨vw', w4, hr, h.want o1 k1 g1 l1⟩
end Go.Proofs.Ybulkcpry
