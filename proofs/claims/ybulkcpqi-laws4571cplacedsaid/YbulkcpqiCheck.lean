/-
  zzs4571ccheck in a world that holds an overlay: nodes standing evenly; nodes at places of their own.
-/
import Derived.Test.YbulkcpqiFill
namespace Go.Proofs.Ybulkcpqi
open Go.RowKit
set_option linter.unusedVariables false

theorem tile (p r : Int) (p0 : 0 ≤ p) (p1 : p ≤ 18446744073709551615) (r0 : 0 ≤ r) (r1 : r ≤ 18446744073709551615) :
    IntKind.u64.wrap (IntKind.u64.wrap (p + r) + IntKind.u64.wrap (-IntKind.u64.wrap (2 * r))) = IntKind.u64.wrap (p - r) ∧ IntKind.u64.wrap (IntKind.u64.wrap (p - r) + r) = p := by
  simp only [IntKind.wrap_u64]
  constructor <;> omega

theorem check_of (ob rb n c : Nat) (i : Nat) (p v : Int) (w : World) (hr : w.cell? ⟨ob, 6, none⟩ = some (.slice (some ⟨rb, 0, none⟩) n c))
    (h1 : i < n) (hn : n ≤ 1024) (hv : w.cell? ⟨rb, i, none⟩ = some (.float .f64 (flr v))) (v0 : 0 ≤ v) (v1 : v ≤ 4294967295) (p0 : 0 ≤ p) (p1 : p ≤ 18446744073709551615)
    (hpos : ∀ W, Below w.heap.size w W → Calls Yba.prog 15 #[.pointer (some ⟨ob, 0, none⟩), .int .i64 i] W fun e w' => e = .returned (.int .u64 p) ∧ ∃ m, w' = W.drewN m) :
    Calls Yba.prog 11 #[.pointer (some ⟨ob, 0, none⟩), .int .i64 i, .int .u64 p, .int .u64 (v * 4294967296)] w fun e w' => e = .returned (.bool true) ∧ Below w.heap.size w w' := by
  have hob : ob < w.heap.size := World.block_lt_of_cell? _ _ hr
  have hrb : rb < w.heap.size := World.block_lt_of_cell? _ _ hv
  have ht := tile p (v * 4294967296) p0 p1 (by omega) (by omega)
  refine ccheck_any ob i p (v * 4294967296) _ _ _ w p0 p1 (by omega) (by omega) rfl rfl rfl ht.1 ht.2 ?_
  intro W hb role S L hro
  have hs := hb.size
  refine arc_any ob rb n c i p v role W S L ?_ ((hb.cell (p := ⟨ob, 6, none⟩) hob).trans hr) h1 hn ((hb.cell (p := ⟨rb, i, none⟩) hrb).trans hv) (by omega) (by omega) v0 v1 p0 p1 ?_
  · exact hro
  · intro W' hb'
    exact hpos W' (hb.trans (hb'.mono hs))

theorem check_even (ob rb n c : Nat) (i : Nat) (p v : Int) (w : World) (hr : w.cell? ⟨ob, 6, none⟩ = some (.slice (some ⟨rb, 0, none⟩) n c)) (hpl : w.cell? ⟨ob, 3, none⟩ = some (.slice none 0 0))
    (h1 : i < n) (hn : n ≤ 1024) (hv : w.cell? ⟨rb, i, none⟩ = some (.float .f64 (flr v))) (v0 : 0 ≤ v) (v1 : v ≤ 4294967295) (hp : PosIs i n p) :
    Calls Yba.prog 11 #[.pointer (some ⟨ob, 0, none⟩), .int .i64 i, .int .u64 p, .int .u64 (v * 4294967296)] w fun e w' => e = .returned (.bool true) ∧ Below w.heap.size w w' := by
  have hob : ob < w.heap.size := World.block_lt_of_cell? _ _ hr
  have pb := posIs_bd hp
  refine check_of ob rb n c i p v w hr h1 hn hv v0 v1 pb.1 pb.2 ?_
  intro W hb
  exact position_even ob (some ⟨rb, 0, none⟩) n c i p W ((hb.cell (p := ⟨ob, 6, none⟩) hob).trans hr) ((hb.cell (p := ⟨ob, 3, none⟩) hob).trans hpl) (by omega) (by omega) hn hp

theorem check_placed (ob rb n c : Nat) (i : Nat) (p v : Int) (pa : Addr) (pl pc xb xc : Nat) (w : World) (hr : w.cell? ⟨ob, 6, none⟩ = some (.slice (some ⟨rb, 0, none⟩) n c)) (hpl : w.cell? ⟨ob, 3, none⟩ = some (.slice (some pa) pl pc))
    (hx : w.cell? ⟨ob, 1, none⟩ = some (.slice (some ⟨xb, 0, none⟩) n xc)) (hp : w.cell? ⟨xb, i, none⟩ = some (.int .u64 p))
    (h1 : i < n) (hn : n ≤ 1024) (hv : w.cell? ⟨rb, i, none⟩ = some (.float .f64 (flr v))) (v0 : 0 ≤ v) (v1 : v ≤ 4294967295) (p0 : 0 ≤ p) (p1 : p ≤ 18446744073709551615) :
    Calls Yba.prog 11 #[.pointer (some ⟨ob, 0, none⟩), .int .i64 i, .int .u64 p, .int .u64 (v * 4294967296)] w fun e w' => e = .returned (.bool true) ∧ Below w.heap.size w w' := by
  have hob : ob < w.heap.size := World.block_lt_of_cell? _ _ hr
  have hxb : xb < w.heap.size := World.block_lt_of_cell? _ _ hp
  refine check_of ob rb n c i p v w hr h1 hn hv v0 v1 p0 p1 ?_
  intro W hb
  exact position_placed ob pa pl pc xb n xc i p W ((hb.cell (p := ⟨ob, 3, none⟩) hob).trans hpl) ((hb.cell (p := ⟨ob, 1, none⟩) hob).trans hx) h1 hn ((hb.cell (p := ⟨xb, i, none⟩) hxb).trans hp)
end Go.Proofs.Ybulkcpqi
