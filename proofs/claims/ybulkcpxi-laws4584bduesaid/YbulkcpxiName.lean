/-
  zzs4584bname over this program: 's' and the decimal digits.
-/
import Derived.Test.YbulkcpxiPlain
import Derived.WalkLawsBesides
import Derived.WalkSpells
import Derived.Laws.MakeOwn
namespace Go.Proofs.Ybulkcpxi
open Go.RowKit
set_option linter.unusedVariables false

/-- a row of bytes of the call's own -/
def Bs (w : World) (base : Nat) (v : Value) (l : List Int) : Prop := w.ownsRow base 5 1 v l.length (l.map (Value.int .u8))

/-- one byte more -/
theorem push_byte {w : World} {base : Nat} {v : Value} {l : List Int} (h : Bs w base v l) (hb : base ≤ w.heap.size) (hl : l.length ≤ 100) (x : Int) :
    ∃ v' w', (Builtin.append_ #[32, 32] 32 #[v, .slice (some ⟨w.heap.size, 0, none⟩) 1 1]).run Yba.prog (w.alloc (.cells #[.int .u8 x] 5)) = .ok v' w' ∧ Bs w' base v' (l ++ [x]) ∧ (w.alloc (.cells #[.int .u8 x] 5)).grownBy w' v.ownBlock := by
  obtain ⟨v', w', hr, r1, r2, _⟩ := app_own 32 5 (.int .u8 0) 1 Yba.underlying32 info5 rfl (w.alloc (.cells #[.int .u8 x] 5)) base v l.length _ (World.ownsRow.alloc h _) ⟨w.heap.size, 0, none⟩ 1 1 [.int .u8 x] rfl
    (by intro j u hj; match j, hj with | 0, hj => (simp at hj; subst hj; exact World.cell?_alloc_at _ _ _ _ rfl))
    (by intro u hu; simp at hu; subst hu; rfl) (by omega) (by unfold maxLen; omega) (by simp; omega)
  refine ⟨v', w', hr, ?_, r2⟩
  unfold Bs
  rw [List.length_append, List.map_append]
  exact r1

theorem Bs.shape {w : World} {base : Nat} {v : Value} {l : List Int} (h : Bs w base v l) : ∃ a c, v = .slice a l.length c ∧ (0 < l.length → ∃ g, a = some ⟨g, 0, none⟩ ∧ base ≤ g ∧ g < w.heap.size ∧ ∀ j, j < l.length → w.cell? ⟨g, j, none⟩ = some (.int .u8 (l.getD j 0))) := by
  rcases h.2 with ⟨rfl, h0⟩ | ⟨g, cap, cur, rfl, h2, h3, h4, h5, h6, h7⟩
  · refine ⟨none, 0, by rw [h0], fun hp => absurd hp (by omega)⟩
  · refine ⟨_, cap, rfl, fun _ => ⟨g, rfl, h2, (Array.getElem?_eq_some_iff.1 h3).1, fun j hj => ?_⟩⟩
    rw [cell_of_row w g j cur 5 (0, 0) h3]
    have e1 : cur[j]? = (cur.toList.take (l.length * 1))[j]? := by rw [List.getElem?_take_of_lt (by omega)]; simp
    rw [e1, h7, List.getElem?_map, List.getElem?_eq_getElem hj, List.getD_eq_getElem?_getD, List.getElem?_eq_getElem hj]
    rfl

theorem Bs.row {w : World} {base : Nat} {v : Value} {l : List Int} (h : Bs w base v l) : ∀ k, v.ownBlock = some k → base ≤ k ∧ k < w.heap.size := World.ownsRow.lt h

/-- its text -/
theorem Bs.conv {w : World} {base : Nat} {v : Value} {l : List Int} (h : Bs w base v l) (h0 : 0 < l.length) : (convert 32 9 v).run Yba.prog w = .ok (.string (strOfNums l)) w := by
  obtain ⟨a, c, rfl, hx⟩ := h.shape
  obtain ⟨g, rfl, _, _, hc⟩ := hx h0
  exact run_convert_bytes_arg w 32 5 Yba.underlying32 Yba.underlying5 g 0 l.length c l rfl (fun i hi => by rw [Nat.zero_add]; exact hc i hi) 9 Yba.underlying9

def zr (n : Nat) : Array Value := madeCells (Value.int .u8 0).cells n
theorem zr_size (n : Nat) : (zr n).size = n := size_madeCells _ _
theorem mkcap (n : Nat) (hn : n ≤ 100) (w : World) : (Instr.makeSlice 32 (.int .i64 0) (.int .i64 ((n : Int) + 1))).run Yba.prog w = .ok (.slice (some ⟨w.heap.size, 0, none⟩) 0 (n + 1)) (w.alloc (.cells (zr (n + 1)) 5)) := by
  obtain ⟨i, h1, h2, h3, h4⟩ := info_parts info5
  have h := run_make (P := Yba.prog) w 32 5 i (.int .u8 0) Yba.underlying32 h1 h2 .i64 .i64 0 ((n : Int) + 1) (by omega) (by omega) (by rw [h4]; omega) (by omega)
  rw [h, h3, show ((n : Int) + 1).toNat = n + 1 by omega, Nat.mul_one]
  rfl

theorem drop_rev (L : List Int) (t : Nat) (h : t < L.length) : (115 :: (L.drop (t + 1)).reverse) ++ [L.getD t 0] = 115 :: (L.drop t).reverse := by
  rw [List.drop_eq_getElem_cons h, List.reverse_cons, List.getD_eq_getElem?_getD, List.getElem?_eq_getElem h]
  rfl

/-- the second half: the digits L turned round behind an 's' -/
def Turned (w w' : World) (v : Value) (L : List Int) : Prop := Bs w' w.heap.size v L ∧ w.grownBy w' none

set_option maxRecDepth 100000 in
theorem name_any (i : Nat) (hi : i ≤ 1025) (w : World) :
    Calls Yba.prog 11 #[.int .i64 i] w fun e w' => e = .returned (.string (nm i)) ∧ w.grownBy w' none := by
  go_enter Yba.func11, Yba.ntmps11
  go_wp2
  go_loopw [0, 3] (fun iv bv wr => ∃ r f ds, iv = .int .i64 ((r : Nat) : Int) ∧ r ≤ 1025 ∧ r < 10 ^ (f + 1) ∧ ds.length + (f + 1) ≤ 5 ∧ ds ++ digs (f + 1) r = digs 5 i ∧ Bs wr w.heap.size bv ds ∧ w.grownBy wr none) (fun iv _ _ => (intOf iv).toNat)
  case atStart => exact ⟨i, 4, [], rfl, hi, by omega, by simp, rfl, World.ownsRow_nil _ _ _ _, grownBy_refl _ _⟩
  case round =>
    obtain ⟨r, f, ds, rfl, hr, hrf, hlen, hds, hbs, hg⟩ := hrel
    have HD : Hid (ds ++ digs (f + 1) r = digs 5 i) := hds
    have HF : Hid (r < 10 ^ (f + 1)) := hrf
    clear hds hrf
    obtain ⟨v', w', hap, hb', hg'⟩ := push_byte hbs hg.size (by omega) (48 + (r : Int) % 10)
    have HA : Hid ((Builtin.append_ #[32, 32] 32 #[u3, .slice (some ⟨wr.heap.size, 0, none⟩) 1 1]).run Yba.prog (wr.alloc (.cells #[.int .u8 (48 + (r : Int) % 10)] 5)) = .ok v' w') := hap
    have g2 : w.grownBy w' none := grownBy_trans_none (grownBy_trans_none hg (World.grownBy_alloc _ _ none) (by simp)) hg' (fun k hk => (hbs.row k hk).1)
    clear hap hg' hg hbs
    by_cases hz : r / 10 = 0
    · have hz' : ((r : Int) / 10 == 0) = true := beq_iff_eq.2 (by omega)
      have eL : ds ++ [48 + (r : Int) % 10] = digs 5 i := by
        rw [← HD.out]
        simp [digs, hz]
      have hlL := digs_len 5 i
      have hn1 : 0 < (digs 5 i).length := by rw [← eL]; simp
      rw [eL] at hb'
      clear eL HD HF hlen
      have HN : Hid (nm i = strOfNums (115 :: (digs 5 i).reverse)) := rfl
      generalize digs 5 i = L at *
      obtain ⟨ba, bc, hv', hcell⟩ := hb'.shape
      obtain ⟨g, rfl, hgb, hglt, hgc⟩ := hcell hn1
      subst hv'
      have kmk := mkcap L.length (by omega)
      have hob : Bs (w'.alloc (.cells (zr (L.length + 1)) 5)) w'.heap.size (.slice (some ⟨w'.heap.size, 0, none⟩) 0 (L.length + 1)) [] := World.ownsRow_made w' _ _ (Nat.le_refl _) (by unfold maxLen; omega) (by rw [zr_size]; omega)
      obtain ⟨v1, w1, hap1, hb1, hg1⟩ := push_byte hob (by simp) (by simp) 115
      have HA1 : Hid ((Builtin.append_ #[32, 32] 32 #[.slice (some ⟨w'.heap.size, 0, none⟩) 0 (L.length + 1), .slice (some ⟨w'.heap.size + 1, 0, none⟩) 1 1]).run Yba.prog ((w'.alloc (.cells (zr (L.length + 1)) 5)).alloc (.cells #[.int .u8 115] 5)) = .ok v1 w1) := by
        have h := hap1
        rw [World.size_alloc] at h
        exact h
      have g3 : w'.grownBy w1 none := grownBy_trans_none (grownBy_trans_none (World.grownBy_alloc _ _ none) (World.grownBy_alloc _ _ none) (by simp)) hg1 (by intro k hk; simp [Value.ownBlock] at hk; omega)
      have HG : Hid (∀ j, j < L.length → w'.cell? ⟨g, j, none⟩ = some (.int .u8 (L.getD j 0))) := hgc
      have HB1 : Hid (Bs w1 w'.heap.size v1 [115]) := hb1
      clear hap1 hob hg1 hb1 hcell hgc hb' hz
      go_wp2_with (first | (at_builtin; refine wpList_app rfl (.tmp 8) (.tmp 13) 32 rfl rfl _ _ _ w' rfl rfl HA.out ?_) | (at_builtin; refine wpList_app rfl (.tmp 23) (.tmp 24) 32 rfl rfl _ _ v1 w1 rfl rfl HA1.out ?_))
      clear kmk HA HA1
      go_loopw [4, 5] (fun ov jv wq => ∃ k : Nat, k ≤ L.length ∧ jv = .int .i64 ((k : Int) - 1) ∧ Bs wq w'.heap.size ov (115 :: (L.drop k).reverse) ∧ w'.grownBy wq none) (fun _ jv _ => (intOf jv + 1).toNat)
      case atStart => exact ⟨L.length, Nat.le_refl _, rfl, by rw [List.drop_length]; exact HB1.out, g3⟩
      case round =>
        obtain ⟨k, hk, rfl, hbq, hgq⟩ := hrel
        clear HB1 g3
        cases k with
        | zero =>
          have hcv := hbq.conv (by simp)
          rw [List.drop_zero, ← HN.out] at hcv
          go_wp2
          go_ret
          exact ⟨rfl, grownBy_trans_none g2 hgq (by simp)⟩
        | succ t =>
          have e : ((t + 1 : Nat) : Int) - 1 = (t : Int) := by omega
          rw [e]
          have hc := HG.out t (by omega)
          have hc' := (World.cell?_of_block (a := ⟨g, t, none⟩) (hgq.block g hglt (by simp))).trans hc
          obtain ⟨v2, w2, hap2, hb2, hg2⟩ := push_byte hbq hgq.size (by simp; omega) (L.getD t 0)
          rw [drop_rev L t (by omega)] at hb2
          generalize L.getD t 0 = z at *
          have g4 : w'.grownBy w2 none := grownBy_trans_none (grownBy_trans_none hgq (World.grownBy_alloc _ _ none) (by simp)) hg2 (fun k hk => (hbq.row k hk).1)
          have HB2 : Hid (Bs w2 w'.heap.size v2 (115 :: (L.drop t).reverse)) := hb2
          have HA2 : Hid ((Builtin.append_ #[32, 32] 32 #[u4, .slice (some ⟨wr.heap.size, 0, none⟩) 1 1]).run Yba.prog (wr.alloc (.cells #[.int .u8 z] 5)) = .ok v2 w2) := hap2
          have htl : (t : Int) < (L.length : Int) := by omega
          clear hbq hg2 hb2 hc e hap2
          go_wp2_with (at_builtin; refine wpList_app rfl (.tmp 33) (.tmp 38) 32 rfl rfl _ _ v2 w2 rfl rfl HA2.out ?_)
          go_roundw
          case rel => exact ⟨t, by omega, rfl, HB2.out, g4⟩
          case measure => simp [intOf]
    · have hz' : ((r : Int) / 10 == 0) = false := beq_eq_false_iff_ne.2 (by omega)
      obtain ⟨f', rfl⟩ : ∃ f', f = f' + 1 := by
        cases f with
        | zero => have := HF.out; omega
        | succ f' => exact ⟨f', rfl⟩
      have hd2 : (ds ++ [48 + (r : Int) % 10]) ++ digs (f' + 1) (r / 10) = digs 5 i := by
        rw [← HD.out, List.append_assoc]
        congr 1
        conv => rhs; unfold digs
        rw [if_neg hz]
        simp
      have HD2 : Hid ((ds ++ [48 + (r : Int) % 10]) ++ digs (f' + 1) (r / 10) = digs 5 i) := hd2
      clear hd2 HD
      go_wp2_with (at_builtin; refine wpList_app rfl (.tmp 8) (.tmp 13) 32 rfl rfl _ _ v' w' rfl rfl HA.out ?_)
      go_roundw
      case rel => exact ⟨r / 10, f', _, by go_num, by omega, by have := HF.out; rw [Nat.pow_succ] at this; omega, by simp; omega, HD2.out, hb', g2⟩
      case measure => simp [intOf]; omega
end Go.Proofs.Ybulkcpxi
