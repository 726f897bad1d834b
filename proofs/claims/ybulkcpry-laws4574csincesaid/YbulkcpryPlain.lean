/-
  store.feed over this program: what memory holds, and how it is carried from world to world. No walk in this text.
-/
import Derived.Test.YbulkcpryProg
import Derived.WalkKit
import Derived.OwnWalk
import Derived.Below
import Derived.Laws.BytesArg
import Derived.Laws.AppendOwnNone
import Derived.KernelRfl
namespace Go.Proofs.Ybulkcpry
open Go.RowKit
set_option linter.unusedVariables false

/-- v reads as the bytes l; what it reads lies below block B, or in a block of bytes. -/
def Bytes (B : Nat) (w : World) (v : Value) (l : List Int) : Prop :=
  ∃ a cap, v = .slice a l.length cap ∧ l.length ≤ 140737488351232 ∧ (a = none → cap = 0 ∧ l = []) ∧
    ∀ x, a = some x → (∀ j, j < l.length → w.cell? (x.add j) = some (.int .u8 (l.getD j 0))) ∧ (0 < l.length → x.block < B ∨ ∃ cs fr, w.heap[x.block]? = some (.cells cs 5 fr))

/-- Below B nothing has turned, and no block of bytes has. -/
def Keep (B : Nat) (w w' : World) : Prop := Below B w w' ∧ ∀ (g : Nat) cs fr, w.heap[g]? = some (Obj.cells cs 5 fr) → w'.heap[g]? = some (Obj.cells cs 5 fr)

theorem Keep.refl (B : Nat) (w : World) : Keep B w w := ⟨Below.refl _ _, fun _ _ _ h => h⟩
theorem Keep.trans {B : Nat} {a b c : World} (h : Keep B a b) (k : Keep B b c) : Keep B a c := ⟨h.1.trans k.1, fun g cs fr e => k.2 g cs fr (h.2 g cs fr e)⟩

theorem add_block (x : Addr) (j : Nat) : (x.add j).block = x.block := by unfold Addr.add; split <;> rfl

theorem Bytes.keep {B : Nat} {w w' : World} {v : Value} {l : List Int} (h : Bytes B w v l) (k : Keep B w w') : Bytes B w' v l := by
  obtain ⟨a, cap, rfl, hl, hn, hx⟩ := h
  refine ⟨a, cap, rfl, hl, hn, fun x hxe => ?_⟩
  obtain ⟨hc, hb⟩ := hx x hxe
  refine ⟨fun j hj => ?_, fun hp => ?_⟩
  · rcases hb (by omega) with hlt | ⟨cs, fr, hh⟩
    · rw [k.1.cell (p := x.add j) (by rw [add_block]; exact hlt)]; exact hc j hj
    · rw [World.cell?_of_block (w := w) (by rw [add_block, k.2 _ _ _ hh]; exact hh.symm)]; exact hc j hj
  · rcases hb hp with hlt | ⟨cs, fr, hh⟩
    · exact Or.inl hlt
    · exact Or.inr ⟨cs, fr, k.2 _ _ _ hh⟩

theorem below_of_grown {B : Nat} {w w' : World} {row : Option Nat} (g : w.grownBy w' row) (hB : B ≤ w.heap.size) (hr : ∀ k, row = some k → B ≤ k) : Below B w w' :=
  (Below.refl B w).grown g hB hr

/-- writes to a row of another type alone, and new blocks -/
theorem keep_of_grown {B : Nat} {w w' : World} {row : Option Nat} (g : w.grownBy w' row) (hB : B ≤ w.heap.size) (hr : ∀ k, row = some k → B ≤ k ∧ ∀ cs fr, w.heap[k]? ≠ some (.cells cs 5 fr)) : Keep B w w' := by
  refine ⟨below_of_grown g hB (fun k hk => (hr k hk).1), fun k cs fr h => ?_⟩
  rw [g.block k (Array.getElem?_eq_some_iff.1 h).1 (fun e => (hr k e.symm).2 cs fr h)]
  exact h

theorem grownBy_trans_none {w a b : World} {row : Option Nat} (h : w.grownBy a none) (k : a.grownBy b row) (hr : ∀ g, row = some g → w.heap.size ≤ g) : w.grownBy b none :=
  ⟨k.os.trans h.os, k.tape.trans h.tape, k.output.trans h.output, Nat.le_trans h.size k.size,
    fun i hi _ => (k.block i (Nat.lt_of_lt_of_le hi h.size) (fun e => by have := hr i e.symm; omega)).trans (h.block i hi (by simp))⟩

theorem grownBy_refl (w : World) (row : Option Nat) : w.grownBy w row := ⟨rfl, rfl, rfl, Nat.le_refl _, fun _ _ _ => rfl⟩

/-- The convert that bytes.Equal makes. -/
theorem Bytes.conv {B : Nat} {w : World} {v : Value} {l : List Int} (h : Bytes B w v l) : (convert 30 9 v).run Yba.prog w = .ok (.string (strOfNums l)) w := by
  obtain ⟨a, cap, rfl, hl, hn, hx⟩ := h
  cases a with
  | none =>
    obtain ⟨rfl, rfl⟩ := hn rfl
    exact run_convert_bytes_nil w 30 5 Yba.underlying30 Yba.underlying5 _ _ 9 Yba.underlying9
  | some x =>
    obtain ⟨hc, _⟩ := hx x rfl
    have hload : (loadCells x l.length).run Yba.prog w = .ok (l.map (Value.int .u8)).toArray w := by
      have := run_loadCells_list (P := Yba.prog) w x (l.map (Value.int .u8)) (fun j v hj => by
        have hjl : j < l.length := by
          have := (List.getElem?_eq_some_iff.1 hj).1
          simpa using this
        rw [hc j hjl]
        simp [List.getElem?_eq_getElem hjl] at hj
        subst hj
        simp [List.getD, List.getElem?_eq_getElem hjl])
      simpa using this
    rw [run_convert_bytes_string w 30 9 5 _ l.length cap Yba.underlying30 Yba.underlying5 Yba.underlying9, run_bytesToString w _ l.length cap l hload, foldl_push_bytes]
    simp [strOfNums, ByteArray.empty, ByteArray.emptyWithCapacity]
    rfl

/-- A row of byte slices that came in. -/
def Rows (B : Nat) (w : World) (a : Option Addr) (len : Nat) (L : Nat → List Int) : Prop :=
  0 < len → ∃ b off, ∃ V : Nat → Value, a = some ⟨b, off, none⟩ ∧ b < B ∧ ∀ j, j < len → w.cell? ⟨b, off + j, none⟩ = some (V j) ∧ Bytes B w (V j) (L j)

theorem Rows.keep {B : Nat} {w w' : World} {a : Option Addr} {len : Nat} {L : Nat → List Int} (h : Rows B w a len L) (k : Keep B w w') : Rows B w' a len L := by
  intro hp
  obtain ⟨b, off, V, ha, hb, hj⟩ := h hp
  exact ⟨b, off, V, ha, hb, fun j hl => ⟨(k.1.cell (p := ⟨b, off + j, none⟩) hb).trans (hj j hl).1, (hj j hl).2.keep k⟩⟩

/-- A row of byte slices of the call's own. -/
def Own (B : Nat) (w : World) (base : Nat) (v : Value) (n : Nat) (L : Nat → List Int) : Prop :=
  ∃ xs, w.ownsRow base 30 1 v n xs ∧ ∀ j, j < n → Bytes B w (xs.getD j undef) (L j)

theorem Own.keep {B : Nat} {w w' : World} {base : Nat} {v : Value} {n : Nat} {L : Nat → List Int} {row : Option Nat} (h : Own B w base v n L) (k : Keep B w w') (g : w.grownBy w' row) (hne : v.ownBlock = none ∨ v.ownBlock ≠ row) : Own B w' base v n L := by
  obtain ⟨xs, ho, hb⟩ := h
  exact ⟨xs, ho.kept g hne, fun j hj => (hb j hj).keep k⟩

theorem Own.mono {B : Nat} {w : World} {base base' : Nat} {v : Value} {n : Nat} {L : Nat → List Int} (h : Own B w base v n L) (hb : base' ≤ base) : Own B w base' v n L := by
  obtain ⟨xs, ⟨ho1, ho2⟩, hB⟩ := h
  refine ⟨xs, ⟨ho1, ?_⟩, hB⟩
  rcases ho2 with h0 | ⟨g, cap, cur, h1, h2, h3⟩
  · exact Or.inl h0
  · exact Or.inr ⟨g, cap, cur, h1, Nat.le_trans hb h2, h3⟩

/-- Its shape, its cells. -/
theorem Own.shape {B : Nat} {w : World} {base : Nat} {v : Value} {n : Nat} {L : Nat → List Int} (h : Own B w base v n L) :
    ∃ a c, v = .slice a n c ∧ n ≤ c ∧ (a = none → n = 0 ∧ c = 0) ∧ (∀ x, a = some x → ∃ g, x = ⟨g, 0, none⟩ ∧ base ≤ g ∧ g < w.heap.size ∧ (∃ cs fr, w.heap[g]? = some (.cells cs 30 fr)) ∧ ∀ j, j < n → ∃ u, w.cell? ⟨g, j, none⟩ = some u ∧ Bytes B w u (L j)) := by
  obtain ⟨xs, ⟨ho1, ho2⟩, hB⟩ := h
  rcases ho2 with ⟨rfl, rfl⟩ | ⟨g, cap, cur, rfl, h2, h3, h4, h5, h6, h7⟩
  · exact ⟨none, 0, rfl, Nat.le_refl _, fun _ => ⟨rfl, rfl⟩, fun x hx => by cases hx⟩
  · refine ⟨_, cap, rfl, h4, (fun hh => by cases hh), fun x hx => ?_⟩
    cases hx
    refine ⟨g, rfl, h2, (Array.getElem?_eq_some_iff.1 h3).1, ⟨_, _, h3⟩, fun j hj => ⟨xs.getD j undef, ?_, hB j hj⟩⟩
    rw [cell_of_row w g j cur 30 (0, 0) h3]
    have hjx : j < xs.length := by omega
    rw [List.getD_eq_getElem?_getD, List.getElem?_eq_getElem hjx, Option.getD_some, ← List.getElem?_eq_getElem hjx, ← h7]
    rw [List.getElem?_take_of_lt (by omega)]
    simp

theorem info30 : (Yba.prog.info? 30).map (fun i => (i.zero, i.size, i.bytes)) = some (some (.slice none 0 0), 1, 24) := by kernel_rfl
theorem info5 : (Yba.prog.info? 5).map (fun i => (i.zero, i.size, i.bytes)) = some (some (.int .u8 0), 1, 1) := by kernel_rfl

/-- APPEND TO A ROW OF THE CALL's OWN, and where the new row lies: where the old one lay, or in a new block. -/
theorem app_own (t e : TypeId) (z : Value) (bytes : Nat) (ht : Yba.prog.underlying t = some (.slice e)) (hinfo : (Yba.prog.info? e).map (fun i => (i.zero, i.size, i.bytes)) = some (some z, 1, bytes)) (hz1 : z.cells.size = 1)
    (w : World) (base : Nat) (v : Value) (n : Nat) (xs : List Value) (hown : w.ownsRow base e 1 v n xs) (a : Addr) (m c : Nat) (news : List Value) (hl : news.length = m)
    (hnews : ∀ j u, news[j]? = some u → w.cell? (a.add j) = some u) (h1 : ∀ u ∈ news, u.oneCell' = true) (hb : (n + m) * bytes ≤ 140737488355328) (hm : n + m ≤ maxLen) (hbase : base ≤ w.heap.size) :
    ∃ v' w', (Builtin.append_ #[t, t] t #[v, .slice (some a) m c]).run Yba.prog w = .ok v' w' ∧ w'.ownsRow base e 1 v' (n + m) (xs ++ news) ∧ w.grownBy w' v.ownBlock ∧
      (v'.ownBlock = v.ownBlock ∨ ∀ k, v'.ownBlock = some k → w.heap.size ≤ k) ∧ (v' = .slice none 0 0 ↔ v = .slice none 0 0 ∧ m = 0) := by
  obtain ⟨i, i1, i2, i3, i4⟩ := info_parts hinfo
  obtain ⟨v', w', hr, r1, r2, r3⟩ := run_append_own (P := Yba.prog) w base t t e i z 1 bytes ht i1 i2 i3 i4 hz1 (by omega) v n xs hown a m c news (by omega) hnews h1 hm hb hbase
  refine ⟨v', w', hr, r1, r2, ?_, r3⟩
  have hown2 := hown.2
  unfold maxLen at hm
  rcases hown2 with ⟨rfl, rfl⟩ | ⟨g, cap, cur, rfl, hbg, hg, hnc, hcm, hcs, htake⟩
  · by_cases hm0 : m = 0
    · subst hm0
      left
      rw [r3.2 ⟨rfl, rfl⟩]
    · right
      have hx : xs = [] := List.eq_nil_of_length_eq_zero (by simpa using hown.1)
      have h2 := run_append_nil (P := Yba.prog) w t t e i z ht i1 i2 a m c news (by rw [i3]; omega) hnews (by omega) (by omega) (by rw [i4]; rw [Nat.zero_add] at hb; omega)
      have h3 := hr.symm.trans h2
      injection h3 with h4 _
      subst h4
      intro k hk
      simp [Value.ownBlock] at hk
      omega
  · by_cases hroom : n + m ≤ cap
    · left
      have h2 := run_append_room (P := Yba.prog) w t t e i ht i1 g n cap cur hg a m c news (by rw [i3]; omega) hnews h1 hroom (by rw [hl, i3, hcs]; omega)
      have h3 := hr.symm.trans h2
      injection h3 with h4 _
      subst h4
      rfl
    · right
      have holds : ∀ j u, xs[j]? = some u → w.cell? ((⟨g, 0, none⟩ : Addr).add j) = some u := hown.cells (g := g) rfl
      have h2 := run_append_grow (P := Yba.prog) w t t e i z ht i1 i2 ⟨g, 0, none⟩ n cap xs (by rw [i3]; exact hown.1) holds a m c news (by rw [i3]; omega) hnews (by omega) (by omega) (by rw [i4]; exact growslice_fits (by omega) hb)
      have h3 := hr.symm.trans h2
      injection h3 with h4 _
      subst h4
      intro k hk
      simp [Value.ownBlock] at hk
      omega

theorem Own.congr {B : Nat} {w : World} {base : Nat} {v : Value} {n : Nat} {L M : Nat → List Int} (h : Own B w base v n L) (e : ∀ j, j < n → L j = M j) : Own B w base v n M := by
  obtain ⟨xs, ho, hb⟩ := h
  exact ⟨xs, ho, fun j hj => e j hj ▸ hb j hj⟩

/-- what owns a row of slices is no block of bytes -/
theorem Own.row {B : Nat} {w : World} {base : Nat} {v : Value} {n : Nat} {L : Nat → List Int} (h : Own B w base v n L) : ∀ k, v.ownBlock = some k → base ≤ k ∧ k < w.heap.size ∧ ∃ cs, w.heap[k]? = some (Obj.cells cs 30 (0, 0)) := by
  obtain ⟨xs, ⟨ho1, ho2⟩, hb⟩ := h
  intro k hk
  rcases ho2 with ⟨rfl, _⟩ | ⟨g, cap, cur, rfl, h2, h3, _⟩
  · simp [Value.ownBlock] at hk
  · simp [Value.ownBlock] at hk
    subst hk
    exact ⟨h2, (Array.getElem?_eq_some_iff.1 h3).1, cur, h3⟩

theorem Bytes.oneCell {B : Nat} {w : World} {v : Value} {l : List Int} (h : Bytes B w v l) : v.oneCell' = true := by
  obtain ⟨a, cap, rfl, _⟩ := h
  rfl

/-- APPEND TO A ROW OF BYTE SLICES. -/
theorem own_append {B : Nat} {W : World} {base : Nat} {v : Value} {n : Nat} {L : Nat → List Int} (h : Own B W base v n L) (hB : B ≤ base) (hbase : base ≤ W.heap.size) (a : Addr) (m c : Nat) (news : List Value) (M : Nat → List Int) (hl : news.length = m)
    (hnews : ∀ j u, news[j]? = some u → W.cell? (a.add j) = some u) (hM : ∀ j, j < m → Bytes B W (news.getD j undef) (M j)) (hb : n + m ≤ 1000000) :
    ∃ v' w', (Builtin.append_ #[22, 22] 22 #[v, .slice (some a) m c]).run Yba.prog W = .ok v' w' ∧ Own B w' base v' (n + m) (fun j => if j < n then L j else M (j - n)) ∧ W.grownBy w' v.ownBlock ∧ Keep B W w' ∧
      (v'.ownBlock = v.ownBlock ∨ ∀ k, v'.ownBlock = some k → W.heap.size ≤ k) ∧ (v' = .slice none 0 0 ↔ v = .slice none 0 0 ∧ m = 0) := by
  have hrow := h.row
  obtain ⟨xs, ho, hby⟩ := h
  have h1 : ∀ u ∈ news, u.oneCell' = true := by
    intro u hu
    obtain ⟨j, hj, rfl⟩ := List.getElem_of_mem hu
    have hh := (hM j (by omega)).oneCell
    rw [List.getD_eq_getElem?_getD, List.getElem?_eq_getElem hj] at hh
    exact hh
  obtain ⟨v', w', hr, r1, r2, r3, r4⟩ := app_own 22 30 (.slice none 0 0) 24 Yba.underlying22 info30 rfl W base v n xs ho a m c news hl hnews h1 (by omega) (by unfold maxLen; omega) hbase
  have hk : Keep B W w' := keep_of_grown r2 (by omega) (fun k hk => by
    obtain ⟨a1, a2, cs, a3⟩ := hrow k hk
    refine ⟨by omega, fun cs' fr e => ?_⟩
    rw [a3] at e
    simp at e)
  have hxl : xs.length = n := by have := ho.1; omega
  refine ⟨v', w', hr, ⟨xs ++ news, r1, fun j hj => ?_⟩, r2, hk, r3, r4⟩
  show Bytes B w' _ (if j < n then L j else M (j - n))
  rw [List.getD_eq_getElem?_getD]
  by_cases hjn : j < n
  · rw [List.getElem?_append_left (by omega), if_pos hjn, ← List.getD_eq_getElem?_getD]
    exact (hby j hjn).keep hk
  · rw [List.getElem?_append_right (by omega), if_neg hjn, ← List.getD_eq_getElem?_getD, hxl]
    exact (hM (j - n) (by omega)).keep hk

/-- An append whose run is known, as a law for the walk. -/
theorem wpList_app {w : World} {ops : Array Oper} {rest : List Oper} {o : Oper} {a : Act} {Q : Exit → Act → World → Prop} (hgd : o.guard = none) (s x : Operand) (t : TypeId)
    (ho : o.op = .call { callee := .builtin .append, args := #[s, x], argTypes := #[t, t] }) (hty : o.type = t) (vs vx v' : Value) (w' : World) (hs : a.eval s = vs) (hx : a.eval x = vx)
    (hrun : (Builtin.append_ #[t, t] t #[vs, vx]).run Yba.prog w = .ok v' w') (h : wpList Yba.prog ops Q rest (a.put o.dst v') w') : wpList Yba.prog ops Q (o :: rest) a w := by
  refine wpList_plain hgd fun K hK => ?_
  unfold Oper.wp execOp
  simp only [ho, hty, resolve, invoke, builtin, Sem.run_bind, Sem.run_pure, Result.andThen_ok, List.map_toArray, List.map_cons, List.map_nil, hs, hx, hrun]
  exact hK _ _ h
end Go.Proofs.Ybulkcpry
