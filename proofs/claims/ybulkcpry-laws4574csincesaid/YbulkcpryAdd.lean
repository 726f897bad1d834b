/-
  store.feed: add at whatever batch; channels compared.
-/
import Derived.Test.YbulkcpryFeed
namespace Go.Proofs.Ybulkcpry
open Go.RowKit
set_option linter.unusedVariables false

theorem equalIn_chan (d : Nat) (t : TypeId) (dir : ChanDir) (e : TypeId) (ht : Yba.prog.underlying t = some (.chan dir e)) (w : World) (a b : Option Nat) : (Op.equalIn (d + 1) t (.chan a) (.chan b)).run Yba.prog w = .ok (a == b) w := by
  simp [Op.equalIn, run_underlying ht]
theorem chan_eql (t : TypeId) (dir : ChanDir) (e : TypeId) (ht : Yba.prog.underlying t = some (.chan dir e)) (w : World) (a b : Option Nat) : (binOp .eql t (.chan a) (.chan b)).run Yba.prog w = .ok (.bool (a == b)) w := by
  simp only [binOp]
  simp [Op.equal, Op.maxDepth, equalIn_chan 9999 t dir e ht]
theorem chan_neq (t : TypeId) (dir : ChanDir) (e : TypeId) (ht : Yba.prog.underlying t = some (.chan dir e)) (w : World) (a b : Option Nat) : (binOp .neq t (.chan a) (.chan b)).run Yba.prog w = .ok (.bool (a != b)) w := by
  simp only [binOp]
  simp [Op.equal, Op.maxDepth, equalIn_chan 9999 t dir e ht, bne]

/-- the events and behind them the batch -/
def cat (n : Nat) (L M : Nat → List Int) : Nat → List Int := fun j => if j < n then L j else M (j - n)

theorem add_any (B : Nat) (w : World) (fb : Nat) (d : Int) (ea : Option Addr) (n ec : Nat) (ch : Nat) (base : Nat) (Le : Nat → List Int) (vd : Value) (m : Nat) (based : Nat) (Ld : Nat → List Int)
    (hf : Feed B w fb d (.slice ea n ec) ch) (ho : Own B w base (.slice ea n ec) n Le) (hd : Own B w based vd m Ld) (hB : B ≤ base) (hbase : base ≤ w.heap.size) (hn : n + m ≤ 1000000) :
    Calls Yba.prog 6 #[.pointer (some ⟨fb, 0, none⟩), vd] w fun e w' => e = .returned (.tuple #[]) ∧ ∃ ve' ch', Feed B w' fb d ve' ch' ∧ Own B w' base ve' (n + m) (cat n Le Ld) ∧ Keep B w w' ∧
      (∀ k, k < w.heap.size → k ≠ fb → k ≠ ch → some k ≠ Value.ownBlock (.slice ea n ec) → w'.heap[k]? = w.heap[k]?) ∧ w.heap.size ≤ w'.heap.size ∧
      (ve'.ownBlock = Value.ownBlock (.slice ea n ec) ∨ ∀ k, ve'.ownBlock = some k → w.heap.size ≤ k) ∧ (m = 0 → ch' = ch) ∧ (1 ≤ m → ch' ≠ ch) := by
  obtain ⟨da, dc, rfl, hmc, hnil, hda⟩ := hd.shape
  by_cases hm : m = 0
  · subst hm
    refine (add_none _ da dc w).mono ?_
    rintro e w' ⟨rfl, rfl⟩
    refine ⟨rfl, .slice ea n ec, ch, hf, ?_, Keep.refl _ _, fun _ _ _ _ _ => rfl, Nat.le_refl _, Or.inl rfl, fun _ => rfl, fun h => absurd h (by omega)⟩
    refine ho.congr (fun j hj => ?_)
    simp [cat, hj]
  · cases da with
    | none => exact absurd (hnil rfl).1 hm
    | some x =>
      obtain ⟨g, rfl, _⟩ := hda x rfl
      have hfc := hf.cell
      have hrow := ho.row
      refine (add_some B w fb d ea n ec ch base Le g m dc based Ld hf ho hd hB hbase (by omega) hn).mono ?_
      rintro e w' ⟨rfl, ve', w1, rfl, o1, g1, k1, l1⟩
      have e1 : w1.heap[fb]? = w.heap[fb]? := g1.block fb hfc.2.2.2.2.1 (fun e => by
        obtain ⟨_, _, cs, hcs⟩ := hrow fb e.symm
        exact (hf.ne hcs (by decide)).1 rfl)
      have e2 : w1.heap[ch]? = w.heap[ch]? := g1.block ch hfc.2.2.2.2.2 (fun e => by
        obtain ⟨_, _, cs, hcs⟩ := hrow ch e.symm
        exact (hf.ne hcs (by decide)).2.1 rfl)
      have hf1 := hf.carry e1 e2
      have hs := g1.size
      have ka := added_keep (ve' := ve') hf1
      refine ⟨rfl, ve', w1.heap.size, added_feed hf1 (by have := hf.2.1; omega), ?_, k1.trans ka, ?_, by rw [added_size]; omega, l1, fun h => absurd h hm, fun _ => by omega⟩
      · refine o1.carry ka (fun k hk => ?_)
        obtain ⟨_, h2, cs, hcs⟩ := o1.row k hk
        have hne := hf1.ne hcs (by decide)
        exact added_other w1 fb ch ve' k h2 hne.1 hne.2.1
      · intro k hk h1 h2 h3
        rw [added_other w1 fb ch ve' k (by omega) h1 h2]
        exact g1.block k hk h3
end Go.Proofs.Ybulkcpry
