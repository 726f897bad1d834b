/-
  Plain laws over this program's memory: appends to rows of the call's own; the decimal names.
-/
import Derived.Test.YbulkcpxiProg
import Derived.WalkKit
import Derived.OwnWalk
import Derived.Below
import Derived.Laws.BytesArg
import Derived.KernelRfl
namespace Go.Proofs.Ybulkcpxi
open Go.RowKit
set_option linter.unusedVariables false

theorem below_of_grown {B : Nat} {w w' : World} {row : Option Nat} (g : w.grownBy w' row) (hB : B ≤ w.heap.size) (hr : ∀ k, row = some k → B ≤ k) : Below B w w' :=
  (Below.refl B w).grown g hB hr

theorem grownBy_trans_none {w a b : World} {row : Option Nat} (h : w.grownBy a none) (k : a.grownBy b row) (hr : ∀ g, row = some g → w.heap.size ≤ g) : w.grownBy b none :=
  ⟨k.os.trans h.os, k.tape.trans h.tape, k.output.trans h.output, Nat.le_trans h.size k.size,
    fun i hi _ => (k.block i (Nat.lt_of_lt_of_le hi h.size) (fun e => by have := hr i e.symm; omega)).trans (h.block i hi (by simp))⟩

theorem grownBy_refl (w : World) (row : Option Nat) : w.grownBy w row := ⟨rfl, rfl, rfl, Nat.le_refl _, fun _ _ _ => rfl⟩

theorem info5 : (Yba.prog.info? 5).map (fun i => (i.zero, i.size, i.bytes)) = some (some (.int .u8 0), 1, 1) := by kernel_rfl

set_option maxRecDepth 100000 in
/-- APPEND TO A ROW OF THE CALL's OWN, and where the new row lies: where the old one lay, or in a new block. -/
theorem app_own (t e : TypeId) (z : Value) (bytes : Nat) (ht : Yba.prog.underlying t = some (.slice e)) (hinfo : (Yba.prog.info? e).map (fun i => (i.zero, i.size, i.bytes)) = some (some z, 1, bytes)) (hz1 : z.cells.size = 1)
    (w : World) (base : Nat) (v : Value) (n : Nat) (xs : List Value) (hown : w.ownsRow base e 1 v n xs) (a : Addr) (m c : Nat) (news : List Value) (hl : news.length = m)
    (hnews : ∀ j u, news[j]? = some u → w.cell? (a.add j) = some u) (h1 : ∀ u ∈ news, u.oneCell' = true) (hb : (n + m) * bytes ≤ 140737488355328) (hm : n + m ≤ maxLen) (hbase : base ≤ w.heap.size) :
    ∃ v' w', (Builtin.append_ #[t, t] t #[v, .slice (some a) m c]).run Yba.prog w = .ok v' w' ∧ w'.ownsRow base e 1 v' (n + m) (xs ++ news) ∧ w.grownBy w' v.ownBlock ∧
      (v'.ownBlock = v.ownBlock ∨ ∀ k, v'.ownBlock = some k → w.heap.size ≤ k) ∧ (v' = .slice none 0 0 ↔ v = .slice none 0 0 ∧ m = 0) := by
  obtain ⟨i, i1, i2, i3, i4⟩ := info_parts hinfo
  obtain ⟨v', w', hr, r1, r2, r3⟩ := run_append_own (P := Yba.prog) w base t t e i z 1 bytes ht i1 i2 i3 i4 hz1 (by omega) v n xs hown a m c news (by omega) hnews h1 hm hb hbase
  refine ⟨v', w', hr, r1, r2, ?_, r3⟩
  have hown2 := hown.2
  unfold maxLen at hm
  rcases hown2 with ⟨rfl, rfl⟩ | ⟨g, cap, cur, rfl, hbg, hg, hnc, hcm, hcs, htake⟩
  · by_cases hm0 : m = 0
    · subst hm0
      left
      rw [r3.2 ⟨rfl, rfl⟩]
    · right
      have hx : xs = [] := List.eq_nil_of_length_eq_zero (by simpa using hown.1)
      have h2 := run_append_nil (P := Yba.prog) w t t e i z ht i1 i2 a m c news (by rw [i3]; omega) hnews (by omega) (by omega) (by rw [i4]; rw [Nat.zero_add] at hb; omega)
      have h3 := hr.symm.trans h2
      injection h3 with h4 _
      subst h4
      intro k hk
      simp [Value.ownBlock] at hk
      omega
  · by_cases hroom : n + m ≤ cap
    · left
      have h2 := run_append_room (P := Yba.prog) w t t e i ht i1 g n cap cur hg a m c news (by rw [i3]; omega) hnews h1 hroom (by rw [hl, i3, hcs]; omega)
      have h3 := hr.symm.trans h2
      injection h3 with h4 _
      subst h4
      rfl
    · right
      have holds : ∀ j u, xs[j]? = some u → w.cell? ((⟨g, 0, none⟩ : Addr).add j) = some u := hown.cells (g := g) rfl
      have h2 := run_append_grow (P := Yba.prog) w t t e i z ht i1 i2 ⟨g, 0, none⟩ n cap xs (by rw [i3]; exact hown.1) holds a m c news (by rw [i3]; omega) hnews (by omega) (by omega) (by rw [i4]; exact growslice_fits (by omega) hb)
      have h3 := hr.symm.trans h2
      injection h3 with h4 _
      subst h4
      intro k hk
      simp [Value.ownBlock] at hk
      omega

/-- An append whose run is known, as a law for the walk. -/
theorem wpList_app {w : World} {ops : Array Oper} {rest : List Oper} {o : Oper} {a : Act} {Q : Exit → Act → World → Prop} (hgd : o.guard = none) (s x : Operand) (t : TypeId)
    (ho : o.op = .call { callee := .builtin .append, args := #[s, x], argTypes := #[t, t] }) (hty : o.type = t) (vs vx v' : Value) (w' : World) (hs : a.eval s = vs) (hx : a.eval x = vx)
    (hrun : (Builtin.append_ #[t, t] t #[vs, vx]).run Yba.prog w = .ok v' w') (h : wpList Yba.prog ops Q rest (a.put o.dst v') w') : wpList Yba.prog ops Q (o :: rest) a w := by
  refine wpList_plain hgd fun K hK => ?_
  unfold Oper.wp execOp
  simp only [ho, hty, resolve, invoke, builtin, Sem.run_bind, Sem.run_pure, Result.andThen_ok, List.map_toArray, List.map_cons, List.map_nil, hs, hx, hrun]
  exact hK _ _ h

theorem add_block (x : Addr) (j : Nat) : (x.add j).block = x.block := by unfold Addr.add; split <;> rfl

/-! ### The names -/
/-- r's decimal digits as bytes, the last first; one at least. -/
def digs : Nat → Nat → List Int
  | 0, _ => []
  | f + 1, r => (48 + ((r % 10 : Nat) : Int)) :: (if r / 10 = 0 then [] else digs f (r / 10))

/-- The name's bytes. -/
def nmL (i : Nat) : List Int := 115 :: (digs 5 i).reverse
def nm (i : Nat) : ByteArray := strOfNums (nmL i)

theorem digs_len : ∀ (f r : Nat), (digs f r).length ≤ f
  | 0, _ => Nat.le_refl _
  | f + 1, r => by
    unfold digs
    split
    · simp
    · have := digs_len f (r / 10)
      simp
      omega

/-- back from the name to the number -/
def unnm (b : ByteArray) : Nat := (b.data.toList.drop 1).foldl (fun a c => a * 10 + (c.toNat - 48)) 0

theorem unnm_nm : ∀ i : Fin 1030, unnm (nm i.val) = i.val := by decide +kernel
theorem nm_inj (i j : Nat) (hi : i < 1030) (hj : j < 1030) (h : nm i = nm j) : i = j := by
  have a := unnm_nm ⟨i, hi⟩
  have b := unnm_nm ⟨j, hj⟩
  simp only at a b
  rw [← a, ← b, h]
theorem nm_ne (i : Nat) : nm i ≠ ⟨#[]⟩ := by
  intro h
  have h1 : (nm i).size = (nmL i).length := strOfNums_size _
  have h2 : (nmL i).length = (digs 5 i).reverse.length + 1 := List.length_cons
  have h3 : (⟨#[]⟩ : ByteArray).size = 0 := rfl
  rw [h] at h1
  omega
end Go.Proofs.Ybulkcpxi
