/-
  bytes.Equal, zzs4574cclone, zzs4574cclones over this program.
-/
import Derived.Test.YbulkcpryPlain
import Derived.WalkLawsBesides
import Derived.WalkSpells
import Derived.Lib.SliceRun
import Derived.Outline
namespace Go.Proofs.Ybulkcpry
open Go.RowKit
set_option linter.unusedVariables false

theorem equal_any (B B' : Nat) (v1 v2 : Value) (l : List Int) (w : World) (h1 : Bytes B w v1 l) (h2 : Bytes B' w v2 l) :
    Calls Yba.prog 7 #[v1, v2] w fun e w' => e = .returned (.bool true) ∧ w' = w := by
  have k1 := h1.conv
  have k2 := h2.conv
  clear h1 h2
  go_enter Yba.func7, Yba.ntmps7
  go_wp2
  go_ret
  exact ⟨by simp, rfl⟩

theorem bytes_of_own {B : Nat} {w : World} {base : Nat} {v : Value} {l : List Int} (h : w.ownsRow base 5 1 v l.length (l.map (Value.int .u8))) (hl : l.length ≤ 140737488351232) : Bytes B w v l := by
  rcases h.2 with ⟨rfl, h0⟩ | ⟨g, cap, cur, rfl, h2, h3, h4, h5, h6, h7⟩
  · obtain rfl : l = [] := List.eq_nil_of_length_eq_zero h0
    exact ⟨none, 0, rfl, by simp, fun _ => ⟨rfl, rfl⟩, fun x hx => by cases hx⟩
  · refine ⟨_, cap, rfl, hl, (fun hh => by cases hh), fun x hx => ?_⟩
    cases hx
    refine ⟨fun j hj => ?_, fun _ => Or.inr ⟨_, _, h3⟩⟩
    rw [Go.WideShapes.add_plain, Nat.zero_add, cell_of_row w g j cur 5 (0, 0) h3]
    have e1 : cur[j]? = (cur.toList.take (l.length * 1))[j]? := by rw [List.getElem?_take_of_lt (by omega)]; simp
    rw [e1, h7, List.getElem?_map, List.getElem?_eq_getElem hj, List.getD_eq_getElem?_getD, List.getElem?_eq_getElem hj]
    rfl

/-- zzs4574cclone: the same bytes; only new blocks. -/
theorem clone_any (B : Nat) (v : Value) (l : List Int) (w : World) (h : Bytes B w v l) :
    Calls Yba.prog 10 #[v] w fun e w' => ∃ v', e = .returned v' ∧ w.grownBy w' none ∧ Bytes B w' v' l := by
  obtain ⟨a, cap, rfl, hl, hn, hx⟩ := h
  have q30 : ∀ (w : World) (a : Option Addr) (n c n' c' : Nat), (binOp .eql 30 (.slice a n c) (.slice none n' c')).run Yba.prog w = .ok (.bool a.isNone) w := fun w a n c n' c' => Lib.run_eql_slice_nil w _ _ a n c n' c' Yba.underlying30
  cases a with
  | none =>
    obtain ⟨rfl, rfl⟩ := hn rfl
    go_enter Yba.func10, Yba.ntmps10
    go_wp2
    go_ret
    exact ⟨_, rfl, grownBy_refl _ _, none, 0, rfl, by simp, fun _ => ⟨rfl, rfl⟩, fun x hx => by cases hx⟩
  | some x =>
    obtain ⟨hc, _⟩ := hx x rfl
    clear hn hx
    have hlen : (l.map (Value.int .u8)).length = l.length := by simp
    have ho : (w.alloc (.cells #[] 5)).ownsRow w.heap.size 5 1 (.slice (some ⟨w.heap.size, 0, none⟩) 0 0) 0 [] := World.ownsRow_made w #[] 0 (Nat.le_refl _) (by unfold maxLen; omega) rfl
    obtain ⟨v', w', hap, r1, r2, r3, r4⟩ := app_own 30 5 (.int .u8 0) 1 Yba.underlying30 info5 rfl (w.alloc (.cells #[] 5)) w.heap.size _ 0 [] ho x l.length cap (l.map (Value.int .u8)) hlen
      (by
        intro j u hj
        have hjl : j < l.length := by
          have := (List.getElem?_eq_some_iff.1 hj).1
          omega
        have hcj := hc j hjl
        have hlt := World.block_lt_of_cell? _ _ hcj
        rw [World.cell?_alloc_lt _ _ _ hlt, hcj, ← hj, List.getElem?_map, List.getElem?_eq_getElem hjl, List.getD_eq_getElem?_getD, List.getElem?_eq_getElem hjl]
        rfl)
      (by intro u hu; obtain ⟨y, _, rfl⟩ := List.mem_map.1 hu; rfl) (by omega) (by unfold maxLen; omega) (by simp)
    rw [Nat.zero_add, List.nil_append] at r1
    have hg : w.grownBy w' none := grownBy_trans_none (World.grownBy_alloc w _ none) r2 (by intro g hg; simp [Value.ownBlock] at hg; omega)
    have hB : Bytes B w' v' l := bytes_of_own r1 hl
    clear r1 r2 r3 r4 ho hlen hc
    have HA : Hid ((Builtin.append_ #[30, 30] 30 #[.slice (some ⟨w.heap.size, 0, none⟩) 0 0, .slice (some x) l.length cap]).run Yba.prog (w.alloc (.cells #[] 5)) = .ok v' w') := hap
    clear hap
    go_enter Yba.func10, Yba.ntmps10
    go_wp2_with (at_builtin; refine wpList_app rfl (.tmp 5) (.tmp 6) 30 rfl rfl _ _ v' w' rfl rfl HA.out ?_)
    go_ret
    exact ⟨_, rfl, hg, hB⟩

/-- zzs4574cclones: a row of the call's own that reads the same; only new blocks. -/
theorem clones_any (B : Nat) (a : Option Addr) (len cap : Nat) (L : Nat → List Int) (w : World) (hB : B ≤ w.heap.size) (h : Rows B w a len L) (hlen : len ≤ 1024) :
    Calls Yba.prog 5 #[.slice a len cap] w fun e w' => ∃ v, e = .returned v ∧ w.grownBy w' none ∧ Own B w' w.heap.size v len L := by
  have H : Hid (Rows B w a len L) := h
  clear h
  go_enter Yba.func5, Yba.ntmps5
  go_wp2
  go_loopw [3, 8] (fun v i wr => ∃ k : Nat, k ≤ len ∧ i = .int .i64 k ∧ w.grownBy wr none ∧ Own B wr w.heap.size v k L) (fun _ i _ => len - (intOf i).toNat)
  case atStart => exact ⟨0, Nat.zero_le _, rfl, grownBy_refl _ _, [], World.ownsRow_nil _ _ _ _, fun j hj => absurd hj (by omega)⟩
  case round =>
    obtain ⟨k, hk, rfl, hg, hown⟩ := hrel
    by_cases hkl : k < len
    · have hkp : Keep B w wr := keep_of_grown hg hB (by simp)
      obtain ⟨b, off, V, rfl, hbB, hV⟩ := H.out (by omega)
      obtain ⟨hc, hby⟩ := hV k hkl
      have hc' := (hkp.1.cell (p := ⟨b, off + k, none⟩) hbB).trans hc
      have hby' := hby.keep hkp
      have BY : Hid (Bytes B wr (V k) (L k)) := hby'
      have OW : Hid (Own B wr w.heap.size u3 k L) := hown
      have HG : Hid (w.grownBy wr none) := hg
      clear hby hby' hc hV hown hg hkp
      go_wp2_with fail
      refine (clone_any B (V k) (L k) _ BY.out).mono ?_
      rintro e w1 ⟨v', rfl, hg1, hb1⟩
      have hb1' := hb1
      obtain ⟨a', c', hv', _⟩ := hb1'
      subst hv'
      have s0 := HG.out.size
      have s1 := hg1.size
      have k1 : Keep B wr w1 := keep_of_grown hg1 (by omega) (by simp)
      have hA := World.grownBy_alloc w1 (.cells #[.slice a' (L k).length c'] 30) none
      have k2 : Keep B w1 (w1.alloc (.cells #[.slice a' (L k).length c'] 30)) := keep_of_grown hA (by omega) (by simp)
      have o2 : Own B (w1.alloc (.cells #[.slice a' (L k).length c'] 30)) w.heap.size u3 k L :=
        ((OW.out.keep k1 hg1 (by cases u3.ownBlock <;> simp)).keep k2 hA (by cases u3.ownBlock <;> simp))
      obtain ⟨v2, w2, hap, ow2, g2, k3, _, _⟩ := own_append o2 hB (by simp; omega) ⟨w1.heap.size, 0, none⟩ 1 1 [.slice a' (L k).length c'] (fun _ => L k) rfl
        (by intro j u hj; match j, hj with | 0, hj => (simp at hj; subst hj; exact World.cell?_alloc_at _ _ _ _ rfl))
        (by intro j hj; match j, hj with | 0, _ => exact hb1.keep k2) (by omega)
      have o3 : Own B w2 w.heap.size v2 (k + 1) L := ow2.congr (fun j hj => by
        by_cases hjk : j < k
        · simp [hjk]
        · have : j = k := by omega
          subst this
          simp)
      have g3 : w.grownBy w2 none := grownBy_trans_none (grownBy_trans_none (grownBy_trans_none HG.out hg1 (by simp)) hA (by simp)) g2 (fun g hg => (OW.out.row g hg).1)
      clear s0 s1 k1 hA k2 o2 ow2 g2 k3 hb1 hg1
      have HA : Hid ((Builtin.append_ #[22, 22] 22 #[u3, .slice (some ⟨w1.heap.size, 0, none⟩) 1 1]).run Yba.prog (w1.alloc (.cells #[.slice a' (L k).length c'] 30)) = .ok v2 w2) := hap
      clear hap
      go_wp2_with (at_builtin; refine wpList_app rfl (.tmp 12) (.tmp 15) 22 rfl rfl _ _ v2 w2 rfl rfl HA.out ?_)
      go_roundw
      case rel => exact ⟨k + 1, by omega, by go_num, g3, o3⟩
      case measure => simp [intOf]; omega
    · go_wp2
      go_ret
      obtain rfl : k = len := by omega
      exact ⟨_, rfl, hg, hown⟩
end Go.Proofs.Ybulkcpry
