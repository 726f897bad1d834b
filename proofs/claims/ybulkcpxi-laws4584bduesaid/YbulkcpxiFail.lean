/-
  position.fail over this program.
-/
import Derived.Test.YbulkcpxiComp
namespace Go.Proofs.Ybulkcpxi
open Go.RowKit
set_option linter.unusedVariables false

/-- a row of ints of the call's own -/
def Is (w : World) (base : Nat) (v : Value) (l : List Int) : Prop := w.ownsRow base 3 1 v l.length (l.map (Value.int .i64))

theorem info3 : (Yba.prog.info? 3).map (fun i => (i.zero, i.size, i.bytes)) = some (some (.int .i64 0), 1, 8) := by kernel_rfl

/-- one int more -/
theorem push_int {w : World} {base : Nat} {v : Value} {l : List Int} (h : Is w base v l) (hb : base ≤ w.heap.size) (hl : l.length ≤ 5000) (x : Int) :
    ∃ v' w', (Builtin.append_ #[55, 55] 55 #[v, .slice (some ⟨w.heap.size, 0, none⟩) 1 1]).run Yba.prog (w.alloc (.cells #[.int .i64 x] 3)) = .ok v' w' ∧ Is w' base v' (l ++ [x]) ∧ (w.alloc (.cells #[.int .i64 x] 3)).grownBy w' v.ownBlock := by
  obtain ⟨v', w', hr, r1, r2, _⟩ := app_own 55 3 (.int .i64 0) 8 Yba.underlying55 info3 rfl (w.alloc (.cells #[.int .i64 x] 3)) base v l.length _ (World.ownsRow.alloc h _) ⟨w.heap.size, 0, none⟩ 1 1 [.int .i64 x] rfl
    (by intro j u hj; match j, hj with | 0, hj => (simp at hj; subst hj; exact World.cell?_alloc_at _ _ _ _ rfl))
    (by intro u hu; simp at hu; subst hu; rfl) (by omega) (by unfold maxLen; omega) (by simp; omega)
  refine ⟨v', w', hr, ?_, r2⟩
  unfold Is
  rw [List.length_append, List.map_append]
  exact r1

theorem Is.shape {w : World} {base : Nat} {v : Value} {l : List Int} (h : Is w base v l) : ∃ a c, v = .slice a l.length c ∧ ∀ j, j < l.length → ∃ g, a = some ⟨g, 0, none⟩ ∧ w.cell? ⟨g, j, none⟩ = some (.int .i64 (l.getD j 0)) := by
  rcases h.2 with ⟨rfl, h0⟩ | ⟨g, cap, cur, rfl, h2, h3, h4, h5, h6, h7⟩
  · exact ⟨none, 0, by rw [h0], fun j hj => absurd hj (by omega)⟩
  · refine ⟨_, cap, rfl, fun j hj => ⟨g, rfl, ?_⟩⟩
    rw [cell_of_row w g j cur 3 (0, 0) h3]
    have e1 : cur[j]? = (cur.toList.take (l.length * 1))[j]? := by rw [List.getElem?_take_of_lt (by omega)]; simp
    rw [e1, h7, List.getElem?_map, List.getElem?_eq_getElem hj, List.getD_eq_getElem?_getD, List.getElem?_eq_getElem hj]
    rfl

theorem Is.row {w : World} {base : Nat} {v : Value} {l : List Int} (h : Is w base v l) : ∀ k, v.ownBlock = some k → base ≤ k ∧ k < w.heap.size ∧ ∃ cs fr, w.heap[k]? = some (Obj.cells cs 3 fr) := by
  intro k hk
  rcases h.2 with ⟨rfl, h0⟩ | ⟨g, cap, cur, rfl, h2, h3, h4⟩
  · simp [Value.ownBlock] at hk
  · simp [Value.ownBlock] at hk
    subst hk
    exact ⟨h2, (Array.getElem?_eq_some_iff.1 h3).1, cur, _, h3⟩

theorem Is.carry {w w' : World} {base : Nat} {v : Value} {l : List Int} (h : Is w base v l) (hb : ∀ g, v.ownBlock = some g → w'.heap[g]? = w.heap[g]?) : Is w' base v l := by
  obtain ⟨ho1, ho2⟩ := h
  refine ⟨ho1, ?_⟩
  rcases ho2 with h0 | ⟨g, cap, cur, rfl, h2, h3, h4⟩
  · exact Or.inl h0
  · exact Or.inr ⟨g, cap, cur, rfl, h2, (hb g rfl).trans h3, h4⟩

/-- the position in memory -/
def Pos (w : World) (pb : Nat) (ra : Option Addr) (n : Nat) (fl st : Bool) (v : Value) (park : Bool) : Prop :=
  w.heap[pb]? = some (Obj.cells #[.slice ra n n, .bool fl, .bool st, v, .slice none 0 0, .bool park] 58 (0, 0))

theorem Pos.cell {w : World} {pb : Nat} {ra : Option Addr} {n : Nat} {fl st : Bool} {v : Value} {park : Bool} (h : Pos w pb ra n fl st v park) :
    w.cell? ⟨pb, 0, none⟩ = some (.slice ra n n) ∧ w.cell? ⟨pb, 1, none⟩ = some (.bool fl) ∧ w.cell? ⟨pb, 2, none⟩ = some (.bool st) ∧ w.cell? ⟨pb, 3, none⟩ = some v ∧ w.cell? ⟨pb, 4, none⟩ = some (.slice none 0 0) ∧ w.cell? ⟨pb, 5, none⟩ = some (.bool park) ∧
      (∀ j, w.frozen? ⟨pb, j, none⟩ = false) ∧ pb < w.heap.size := by
  refine ⟨?_, ?_, ?_, ?_, ?_, ?_, fun j => ?_, (Array.getElem?_eq_some_iff.1 h).1⟩
  · rw [cell_of_row w pb 0 _ _ _ h]; rfl
  · rw [cell_of_row w pb 1 _ _ _ h]; rfl
  · rw [cell_of_row w pb 2 _ _ _ h]; rfl
  · rw [cell_of_row w pb 3 _ _ _ h]; rfl
  · rw [cell_of_row w pb 4 _ _ _ h]; rfl
  · rw [cell_of_row w pb 5 _ _ _ h]; rfl
  · unfold Pos at h
    simp [World.frozen?, h]

theorem ty_ne {w : World} {k pb : Nat} {cs cs' : Array Value} {t t' : TypeId} {fr fr' : Nat × Nat} (h : w.heap[k]? = some (Obj.cells cs t fr)) (h' : w.heap[pb]? = some (Obj.cells cs' t' fr')) (ht : t ≠ t') : k ≠ pb := by
  rintro rfl
  rw [h] at h'
  simp at h'
  exact ht h'.2.1

/-- the compensations due for the steps below k, the newest first -/
def dueL (has : Nat → Bool) : Nat → List Int
  | 0 => []
  | k + 1 => (if has k then [(k : Int)] else []) ++ dueL has k

theorem dueL_len (has : Nat → Bool) : ∀ k, (dueL has k).length ≤ k
  | 0 => Nat.le_refl _
  | k + 1 => by
    have := dueL_len has k
    unfold dueL
    split <;> simp <;> omega

theorem equalIn_fn (d : Nat) (w : World) (f : Fn) (a b : Array Value) : (Op.equalIn (d + 1) 45 (.func f a b) .nilFunc).run Yba.prog w = .ok false w := by
  simp [Op.equalIn, run_underlying Yba.underlying45]
theorem equalIn_nil (d : Nat) (w : World) : (Op.equalIn (d + 1) 45 .nilFunc .nilFunc).run Yba.prog w = .ok true w := by
  simp [Op.equalIn, run_underlying Yba.underlying45]
theorem fn_neq (w : World) (f : Fn) (a b : Array Value) : (binOp .neq 45 (.func f a b) .nilFunc).run Yba.prog w = .ok (.bool true) w := by
  simp only [binOp]
  simp [Op.equal, Op.maxDepth, equalIn_fn 9999]
theorem nil_neq (w : World) : (binOp .neq 45 .nilFunc .nilFunc).run Yba.prog w = .ok (.bool false) w := by
  simp only [binOp]
  simp [Op.equal, Op.maxDepth, equalIn_nil 9999]

theorem Pos.set {w : World} {pb : Nat} {ra : Option Addr} {n : Nat} {fl st : Bool} {v : Value} {park : Bool} (h : Pos w pb ra n fl st v park) (v' : Value) : Pos (w.setCell ⟨pb, 3, none⟩ v') pb ra n fl st v' park :=
  heap_setCell_same w pb 3 _ 58 v' h
theorem Pos.fails {w : World} {pb : Nat} {ra : Option Addr} {n : Nat} {fl st : Bool} {v : Value} {park : Bool} (h : Pos w pb ra n fl st v park) (b : Bool) : Pos (w.setCell ⟨pb, 1, none⟩ (.bool b)) pb ra n b st v park :=
  heap_setCell_same w pb 1 _ 58 (.bool b) h
theorem Pos.sticks {w : World} {pb : Nat} {ra : Option Addr} {n : Nat} {fl st : Bool} {v : Value} {park : Bool} (h : Pos w pb ra n fl st v park) (b : Bool) : Pos (w.setCell ⟨pb, 2, none⟩ (.bool b)) pb ra n fl b v park :=
  heap_setCell_same w pb 2 _ 58 (.bool b) h

set_option maxRecDepth 100000 in
set_option maxHeartbeats 1000000 in
theorem fail_any (w : World) (sb m cb : Nat) (has : Nat → Bool) (pv : ByteArray) (piv : Nat) (tr : Bool) (base pb : Nat) (ra : Option Addr) (n : Nat) (v : Value) (l : List Int) (park : Bool)
    (h : StepsAt w sb m cb has) (hsb : sb < base) (hm : m ≤ 1025) (hp : PivAt m pv piv) (hn : n < m) (hpb : base ≤ pb) (hpos : Pos w pb ra n false false v park) (his : Is w base v l) (hl : l.length ≤ 1024) (c : Bool) (hc : compB piv n tr = c) (N : Nat) (hN : N = n + tr.toNat) :
    Calls Yba.prog 12 #[.pointer (some ⟨pb, 0, none⟩), .bool tr, saga sb m pv] w fun e w' => e = .returned (.tuple #[]) ∧ Below base w w' ∧ ∃ v', Is w' base v' (l ++ (if c then dueL has N else [])) ∧ Pos w' pb ra n c (!c) v' park := by
  have H : Hid (StepsAt w sb m cb has) := h
  have P : Hid (PivAt m pv piv) := hp
  have hb1 : Below w.heap.size w (w.alloc (.cells #[.string ⟨#[120]⟩, .slice (some ⟨sb, 0, none⟩) m m, .int .i64 0, .int .i64 0, .float .f64 0, .int .i64 0, .int .i64 0, .int .i64 0, .string pv] 53)) := (Below.refl _ _).alloc (Nat.le_refl _) _
  obtain ⟨c0, c1, c2, c3, c4, c5, cf, hps⟩ := hpos.cell
  have PO : Hid (Pos w pb ra n false false v park) := hpos
  have IS : Hid (Is w base v l) := his
  have ST : Hid (StepsAt w sb m cb has) := h
  have PV : Hid (PivAt m pv piv) := hp
  clear h hp hpos his
  unfold saga
  go_enter Yba.func12, Yba.ntmps12
  go_wp2_with fail
  refine (comp_any _ sb m cb has pv piv n tr (ST.out.below hb1 (by omega)) (by simp; omega) hm PV.out hn).mono ?_
  rintro e w1 ⟨rfl, hb2⟩
  have hB1 : Below w.heap.size w w1 := hb1.trans (hb2.mono (by simp))
  have hs1 := hb2.size
  simp at hs1
  have po1 : Pos w1 pb ra n false false v park := (hB1.block pb hps).trans PO.out
  have is1 : Is w1 base v l := IS.out.carry (fun g hg => hB1.block g (IS.out.row g hg).2.1)
  have bx1 : w1.heap[w.heap.size]? = some (Obj.cells #[.string ⟨#[120]⟩, .slice (some ⟨sb, 0, none⟩) m m, .int .i64 0, .int .i64 0, .float .f64 0, .int .i64 0, .int .i64 0, .int .i64 0, .string pv] 53 (0, 0)) := (hb2.block w.heap.size (by simp)).trans (heap_alloc_new _ _)
  have hBb : Below base w w1 := hB1.mono (by omega)
  have hm0 : base ≤ w.heap.size := by omega
  clear hb1 hb2 c0 c1 c2 c3 c4 c5 cf PO IS
  obtain ⟨c0, c1, c2, c3, c4, c5, cf, _⟩ := po1.cell
  have PO : Hid (Pos w1 pb ra n false false v park) := po1
  have IS : Hid (Is w1 base v l) := is1
  have BX : Hid (w1.heap[w.heap.size]? = some (Obj.cells #[.string ⟨#[120]⟩, .slice (some ⟨sb, 0, none⟩) m m, .int .i64 0, .int .i64 0, .float .f64 0, .int .i64 0, .int .i64 0, .int .i64 0, .string pv] 53 (0, 0))) := bx1
  clear po1 is1 bx1
  rw [hc]
  clear hc
  cases c
  · go_wp2
    refine bodyPost_ret (v := .tuple #[]) (by simp [results, Yba.results12, go_sem]) rfl ?_
    refine ⟨rfl, hBb.setCell (p := ⟨pb, 2, none⟩) hpb _, v, ?_, PO.out.sticks true⟩
    exact IS.out.carry (fun g hg => heap_setCell_other _ _ _ _ (by obtain ⟨_, _, cs, fr, r⟩ := IS.out.row g hg; exact (show g ≠ pb from ty_ne r PO.out (by decide))))
  · have is2 : Is (w1.setCell ⟨pb, 1, none⟩ (.bool true)) base v l := IS.out.carry (fun g hg => heap_setCell_other _ _ _ _ (by obtain ⟨_, _, cs, fr, r⟩ := IS.out.row g hg; exact (show g ≠ pb from ty_ne r PO.out (by decide))))
    have po2 := PO.out.fails true
    have bx2 : (w1.setCell ⟨pb, 1, none⟩ (.bool true)).heap[w.heap.size]? = some (Obj.cells #[.string ⟨#[120]⟩, .slice (some ⟨sb, 0, none⟩) m m, .int .i64 0, .int .i64 0, .float .f64 0, .int .i64 0, .int .i64 0, .int .i64 0, .string pv] 53 (0, 0)) := (heap_setCell_other _ _ _ _ (show w.heap.size ≠ pb by omega)).trans BX.out
    have hB2 : Below base w (w1.setCell ⟨pb, 1, none⟩ (.bool true)) := hBb.setCell (p := ⟨pb, 1, none⟩) hpb _
    have IS2 : Hid (Is (w1.setCell ⟨pb, 1, none⟩ (.bool true)) base v l) := is2
    have PO2 : Hid (Pos (w1.setCell ⟨pb, 1, none⟩ (.bool true)) pb ra n true false v park) := po2
    have BX2 : Hid ((w1.setCell ⟨pb, 1, none⟩ (.bool true)).heap[w.heap.size]? = some (Obj.cells #[.string ⟨#[120]⟩, .slice (some ⟨sb, 0, none⟩) m m, .int .i64 0, .int .i64 0, .float .f64 0, .int .i64 0, .int .i64 0, .int .i64 0, .string pv] 53 (0, 0))) := bx2
    clear is2 po2 bx2
    cases tr
    all_goals
      have hN2 : N ≤ m := by simp at hN; omega
      go_wp2
      go_loopw [7] (fun iv wr => ∃ (k : Nat) (v' : Value) (l' : List Int), iv = .int .i64 ((k : Int) - 1) ∧ k ≤ m ∧ Is wr base v' l' ∧ Pos wr pb ra n true false v' park ∧ l'.length + k ≤ 2050 ∧ l' ++ dueL has k = l ++ dueL has N ∧ Below base w wr ∧
        wr.heap[w.heap.size]? = some (Obj.cells #[.string ⟨#[120]⟩, .slice (some ⟨sb, 0, none⟩) m m, .int .i64 0, .int .i64 0, .float .f64 0, .int .i64 0, .int .i64 0, .int .i64 0, .string pv] 53 (0, 0))) (fun iv _ => (intOf iv + 1).toNat)
      case atStart => exact ⟨N, v, l, by simp at hN; subst hN; first | rfl | (congr 1; omega), hN2, IS2.out, PO2.out, by omega, rfl, hB2, BX2.out⟩
      case round =>
        obtain ⟨k, v', l', rfl, hk, is3, po3, hlen, hdue, hB3, bx3⟩ := hrel
        clear c0 c1 c2 c3 c4 c5 cf hN
        obtain ⟨c0, c1, c2, c3, c4, c5, cf, hps3⟩ := po3.cell
        have hs3 : w.heap.size < wr.heap.size := (Array.getElem?_eq_some_iff.1 bx3).1
        cases k with
        | zero =>
          go_wp2
          go_end0
          refine ⟨rfl, hB3, v', ?_, po3⟩
          have hd : l' = l ++ dueL has N := by simpa [dueL] using hdue
          rw [hd] at is3
          simpa using is3
        | succ t =>
          have e : ((t + 1 : Nat) : Int) - 1 = (t : Int) := by omega
          rw [e]
          have htm : (t : Int) < (m : Int) := by omega
          obtain ⟨_, _, e2, _⟩ := (ST.out.below hB3 hsb) t (by omega)
          have b1 : wr.cell? ⟨w.heap.size, 1, none⟩ = some (.slice (some ⟨sb, 0, none⟩) m m) := by rw [cell_of_row wr _ 1 _ _ _ bx3]; rfl
          have PO3 : Hid (Pos wr pb ra n true false v' park) := po3
          have IS3 : Hid (Is wr base v' l') := is3
          have BX3 : Hid (wr.heap[w.heap.size]? = some (Obj.cells #[.string ⟨#[120]⟩, .slice (some ⟨sb, 0, none⟩) m m, .int .i64 0, .int .i64 0, .float .f64 0, .int .i64 0, .int .i64 0, .int .i64 0, .string pv] 53 (0, 0))) := bx3
          have HD : Hid (l' ++ dueL has (t + 1) = l ++ dueL has N) := hdue
          obtain ⟨a', q', hv', _⟩ := is3.shape
          clear hdue po3 is3 bx3 e
          subst hv'
          have knil := nil_neq
          have kfn := fn_neq
          have hh : has t = true ∨ has t = false := by cases has t <;> simp
          rcases hh with hh | hh
          · rw [hh] at e2
            simp only [if_true] at e2
            obtain ⟨v2, w2, hap, is4, g4⟩ := push_int IS3.out (by omega) (by omega) (t : Int)
            obtain ⟨a2, q2, hv2, _⟩ := is4.shape
            generalize (l' ++ [(t : Int)]).length = n2 at hv2
            have hrow := IS3.out.row
            have gp : w2.heap[pb]? = wr.heap[pb]? := (g4.block pb (by simp; omega) (fun e => by obtain ⟨_, _, cs, fr, r⟩ := hrow pb e.symm; exact ty_ne r PO3.out (by decide) rfl)).trans (Below.heap_alloc _ _ _ hps3)
            have gx : w2.heap[w.heap.size]? = wr.heap[w.heap.size]? := (g4.block _ (by simp; omega) (fun e => by obtain ⟨_, _, cs, fr, r⟩ := hrow _ e.symm; exact ty_ne r BX3.out (by decide) rfl)).trans (Below.heap_alloc _ _ _ hs3)
            have hB4 : Below base w w2 := (hB3.alloc (by omega) _).grown g4 (by simp; omega) (fun k hk => (hrow k hk).1)
            have po4 : Pos w2 pb ra n true false (.slice a' l'.length q') park := gp.trans PO3.out
            obtain ⟨d0, d1, d2, d3, d4, d5, df, hps4⟩ := po4.cell
            have hne : ∀ g, v2.ownBlock = some g → g ≠ pb := fun g hg => by obtain ⟨_, _, cs, fr, r⟩ := is4.row g hg; exact ty_ne r po4 (by decide)
            have PO4 : Hid (Pos w2 pb ra n true false (.slice a' l'.length q') park) := po4
            have HA : Hid ((Builtin.append_ #[55, 55] 55 #[.slice a' l'.length q', .slice (some ⟨wr.heap.size, 0, none⟩) 1 1]).run Yba.prog (wr.alloc (.cells #[.int .i64 (t : Int)] 3)) = .ok v2 w2) := hap
            have IS4 : Hid (Is w2 base v2 (l' ++ [(t : Int)])) := is4
            clear hap is4 po4 gp hrow g4
            subst hv2
            go_wp2_with (at_builtin; refine wpList_app rfl (.tmp 44) (.tmp 46) 55 rfl rfl _ _ _ w2 rfl rfl HA.out ?_)
            go_roundw
            case rel =>
              refine ⟨t, _, l' ++ [(t : Int)], by first | rfl | (congr 1; omega), by omega, IS4.out.carry (fun g hg => heap_setCell_other _ _ _ _ (show g ≠ pb from hne g hg)), PO4.out.set _, by simp; omega, ?_, hB4.setCell (p := ⟨pb, 3, none⟩) hpb _, (heap_setCell_other _ _ _ _ (show w.heap.size ≠ pb by omega)).trans (gx.trans BX3.out)⟩
              rw [← HD.out]
              simp [dueL, hh]
            case measure => simp [intOf]
          · rw [hh] at e2
            simp only [Bool.false_eq_true, if_false] at e2
            go_wp2
            go_roundw
            case rel =>
              refine ⟨t, _, l', by first | rfl | (congr 1; omega), by omega, IS3.out, PO3.out, by omega, ?_, hB3, BX3.out⟩
              rw [← HD.out]
              simp [dueL, hh]
            case measure => simp [intOf]
end Go.Proofs.Ybulkcpxi
