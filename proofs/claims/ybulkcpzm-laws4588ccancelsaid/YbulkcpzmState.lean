/-
  The memory that the law makes: the set, the channel, the journal file, the sync e, the row of the others, and how each operation turns it.
-/
import Derived.Test.YbulkcpzmSet
import Derived.Test.YbulkcpzmTry
import Derived.Conc.EventLaws
import Derived.Laws.AppendOwn
import Derived.Maps.OwnSet
import Derived.OwnWalk
namespace Go.Proofs.Ybulkcpzm
open Go.RowKit Go.MuLone

theorem Plain.lt {w : World} {b : Nat} (h : Plain w b) : b < w.heap.size := by
  obtain ⟨cs, t, h⟩ := h
  exact (Array.getElem?_eq_some_iff.1 h).1
theorem Plain.keep {w w' : World} {b : Nat} (h : Plain w b) (e : w'.heap[b]? = w.heap[b]?) : Plain w' b := by
  obtain ⟨cs, t, h⟩ := h
  exact ⟨cs, t, e.trans h⟩
theorem Plain.frozen {w : World} {b : Nat} (h : Plain w b) (o : Nat) : w.frozen? ⟨b, o, none⟩ = false := by
  obtain ⟨cs, t, h⟩ := h
  simp [World.frozen?, h]
theorem Plain.setCell {w : World} {b : Nat} (h : Plain w b) (a : Addr) (v : Value) : Plain (w.setCell a v) b := by
  by_cases e : b = a.block
  · obtain ⟨cs, t, h⟩ := h
    subst e
    refine ⟨if a.spot.isSome then cs else cs.setIfInBounds a.off v, t, ?_⟩
    simp only [World.setCell, Array.getElem?_modify, if_true, h, Option.map_some]
  · exact h.keep (Below.heap_setCell w a v b e)
theorem SetAt.keep {w w' : World} {m : Nat} {l : List Nat} (h : SetAt w m l) (e : w'.heap[m]? = w.heap[m]?) : SetAt w' m l := by
  obtain ⟨es, clock, hb, hk, hv⟩ := h
  exact ⟨es, clock, e.trans hb, hk, hv⟩

/-- Below block N nothing has turned; no cell has become a string's. -/
structure Ext (N : Nat) (w w' : World) : Prop where
  below : Below N w w'
  frozen : ∀ a, w'.frozen? a = w.frozen? a

theorem Ext.refl (N : Nat) (w : World) : Ext N w w := ⟨Below.refl _ _, fun _ => rfl⟩
theorem Ext.trans {N : Nat} {a b c : World} (h : Ext N a b) (k : Ext N b c) : Ext N a c := ⟨h.below.trans k.below, fun x => (k.frozen x).trans (h.frozen x)⟩
theorem Ext.alloc {N : Nat} {a w : World} (h : Ext N a w) (hN : N ≤ w.heap.size) (cs : Array Value) (t : TypeId) : Ext N a (w.alloc (.cells cs t)) :=
  ⟨h.below.alloc hN _, fun x => (frozen?_alloc_cells w cs t x).trans (h.frozen x)⟩
theorem Ext.setCell {N : Nat} {a w : World} (h : Ext N a w) {p : Addr} (hp : N ≤ p.block) (v : Value) : Ext N a (w.setCell p v) :=
  ⟨h.below.setCell hp v, fun x => (World.frozen?_setCell _ _ _ _).trans (h.frozen x)⟩
/-- A block that is no row of cells, written by another that is none. -/
theorem Ext.setObj {N : Nat} {w : World} {m : Nat} (hm : N ≤ m) {o : Obj} (hold : ∀ c t f, w.heap[m]? ≠ some (.cells c t f)) (hnew : ∀ c t f, o ≠ .cells c t f) :
    Ext N w { w with heap := w.heap.setIfInBounds m o } := by
  refine ⟨⟨rfl, rfl, rfl, by simp, fun j hj => ?_⟩, fun a => ?_⟩
  · simp only
    rw [Array.getElem?_setIfInBounds_ne (by omega)]
  · by_cases e : a.block = m
    · have h1 : ∀ u : World, (∀ c t f, u.heap[a.block]? ≠ some (.cells c t f)) → u.frozen? a = false := fun u hu => by
        unfold World.frozen?
        split
        · rename_i c t lo hi hc
          exact absurd hc (hu c t _)
        · rfl
      rw [h1 w (by rw [e]; exact hold), h1 _ ?_]
      intro c t f
      simp only [e]
      by_cases hlt : m < w.heap.size
      · simp only [Array.getElem?_setIfInBounds_self_of_lt hlt]
        intro h
        exact hnew c t f (Option.some.inj h)
      · rw [Array.getElem?_eq_none (by simpa using Nat.le_of_not_lt hlt)]
        simp
    · have h2 : ({ w with heap := w.heap.setIfInBounds m o } : World).heap[a.block]? = w.heap[a.block]? := by
        simp only
        rw [Array.getElem?_setIfInBounds_ne (fun h => e h.symm)]
      exact World.frozen?_of_block h2

/-- THE MEMORY: l: the keys of the set · os: the others, in the row's order · mu, aw, cl: the lock's word, the count, whether the channel is closed. -/
structure St (N k : Nat) (ea : Bool) (l os : List Nat) (mu aw : Int) (cl : Bool) (w : World) : Prop where
  set : SetAt w N l
  chan : w.heap[N + 1]? = some (.chan 1 #[] cl 0 0 false)
  jp : Plain w (N + 2)
  c2 : w.cell? ⟨N + 2, 2, none⟩ = some (.int .i32 mu)
  c9 : w.cell? ⟨N + 2, 9, none⟩ = some (.map (some N))
  c10 : w.cell? ⟨N + 2, 10, none⟩ = some (.int .i64 aw)
  c11 : w.cell? ⟨N + 2, 11, none⟩ = some (.chan (some (N + 1)))
  ep : Plain w (N + 3)
  e0 : w.cell? ⟨N + 3, 0, none⟩ = some (pt (N + 2))
  e1 : w.cell? ⟨N + 3, 1, none⟩ = some (.bool ea)
  row : w.heap[N + 4]? = some (.cells (os.map pt ++ List.replicate (k - os.length) (Value.pointer none)).toArray 39 (0, 0))
  box : ∀ b ∈ os, N + 4 < b ∧ Plain w b
  nd : os.Nodup
  len : os.length ≤ k

section
variable {N k : Nat} {ea : Bool} {l os : List Nat} {mu aw : Int} {cl : Bool} {w w' : World}

theorem St.lt (h : St N k ea l os mu aw cl w) : N + 4 < w.heap.size := (Array.getElem?_eq_some_iff.1 h.row).1

theorem St.keep (h : St N k ea l os mu aw cl w) (e : ∀ j, j < w.heap.size → w'.heap[j]? = w.heap[j]?) : St N k ea l os mu aw cl w' := by
  have hlt := h.lt
  have c : ∀ b o, b < w.heap.size → w'.cell? ⟨b, o, none⟩ = w.cell? ⟨b, o, none⟩ := fun b o hb => World.cell?_of_block (e b hb)
  exact ⟨h.set.keep (e _ (by omega)), (e _ (by omega)).trans h.chan, h.jp.keep (e _ (by omega)), (c _ _ (by omega)).trans h.c2, (c _ _ (by omega)).trans h.c9, (c _ _ (by omega)).trans h.c10, (c _ _ (by omega)).trans h.c11,
    h.ep.keep (e _ (by omega)), (c _ _ (by omega)).trans h.e0, (c _ _ (by omega)).trans h.e1, (e _ (by omega)).trans h.row, fun b hb => ⟨(h.box b hb).1, (h.box b hb).2.keep (e _ (h.box b hb).2.lt)⟩, h.nd, h.len⟩

theorem St.alloc (h : St N k ea l os mu aw cl w) (o : Obj) : St N k ea l os mu aw cl (w.alloc o) := h.keep fun j hj => Below.heap_alloc w o j hj

/-- A store into the journal file's block: the lock's word, or the count. -/
theorem St.setMu (h : St N k ea l os mu aw cl w) (mu' : Int) : St N k ea l os mu' aw cl (w.setCell ⟨N + 2, 2, none⟩ (.int .i32 mu')) := by
  have e : ∀ j, j ≠ N + 2 → (w.setCell ⟨N + 2, 2, none⟩ (.int .i32 mu')).heap[j]? = w.heap[j]? := fun j hj => Below.heap_setCell _ _ _ _ hj
  have c : ∀ b o, b ≠ N + 2 ∨ o ≠ 2 → (w.setCell ⟨N + 2, 2, none⟩ (.int .i32 mu')).cell? ⟨b, o, none⟩ = w.cell? ⟨b, o, none⟩ := fun b o hb =>
    World.cell?_setCell_other _ _ _ _ (by simp only [ne_eq, Addr.mk.injEq, not_and]; omega)
  exact ⟨h.set.keep (e _ (by omega)), (e _ (by omega)).trans h.chan, h.jp.setCell _ _, World.cell?_setCell_same _ _ _ h.c2, (c _ _ (by omega)).trans h.c9, (c _ _ (by omega)).trans h.c10, (c _ _ (by omega)).trans h.c11,
    h.ep.setCell _ _, (c _ _ (by omega)).trans h.e0, (c _ _ (by omega)).trans h.e1, (e _ (by omega)).trans h.row, fun b hb => ⟨(h.box b hb).1, (h.box b hb).2.setCell _ _⟩, h.nd, h.len⟩

theorem St.setAw (h : St N k ea l os mu aw cl w) (aw' : Int) : St N k ea l os mu aw' cl (w.setCell ⟨N + 2, 10, none⟩ (.int .i64 aw')) := by
  have e : ∀ j, j ≠ N + 2 → (w.setCell ⟨N + 2, 10, none⟩ (.int .i64 aw')).heap[j]? = w.heap[j]? := fun j hj => Below.heap_setCell _ _ _ _ hj
  have c : ∀ b o, b ≠ N + 2 ∨ o ≠ 10 → (w.setCell ⟨N + 2, 10, none⟩ (.int .i64 aw')).cell? ⟨b, o, none⟩ = w.cell? ⟨b, o, none⟩ := fun b o hb =>
    World.cell?_setCell_other _ _ _ _ (by simp only [ne_eq, Addr.mk.injEq, not_and]; omega)
  exact ⟨h.set.keep (e _ (by omega)), (e _ (by omega)).trans h.chan, h.jp.setCell _ _, (c _ _ (by omega)).trans h.c2, (c _ _ (by omega)).trans h.c9, World.cell?_setCell_same _ _ _ h.c10, (c _ _ (by omega)).trans h.c11,
    h.ep.setCell _ _, (c _ _ (by omega)).trans h.e0, (c _ _ (by omega)).trans h.e1, (e _ (by omega)).trans h.row, fun b hb => ⟨(h.box b hb).1, (h.box b hb).2.setCell _ _⟩, h.nd, h.len⟩

/-- One of the two first blocks written. -/
theorem St.first (h : St N k ea l os mu aw cl w) {x : Nat} (hx : x ≤ N + 1) {o : Obj} {l' : List Nat} {cl' : Bool} (hset : SetAt { w with heap := w.heap.setIfInBounds x o } N l')
    (hchan : ({ w with heap := w.heap.setIfInBounds x o } : World).heap[N + 1]? = some (.chan 1 #[] cl' 0 0 false)) : St N k ea l' os mu aw cl' { w with heap := w.heap.setIfInBounds x o } := by
  have e : ∀ j, j ≠ x → ({ w with heap := w.heap.setIfInBounds x o } : World).heap[j]? = w.heap[j]? := fun j hj => by
    simp only
    rw [Array.getElem?_setIfInBounds_ne (fun h => hj h.symm)]
  have c : ∀ b o', b ≠ x → ({ w with heap := w.heap.setIfInBounds x o } : World).cell? ⟨b, o', none⟩ = w.cell? ⟨b, o', none⟩ := fun b o' hb => World.cell?_of_block (e b hb)
  exact ⟨hset, hchan, h.jp.keep (e _ (by omega)), (c _ _ (by omega)).trans h.c2, (c _ _ (by omega)).trans h.c9, (c _ _ (by omega)).trans h.c10, (c _ _ (by omega)).trans h.c11,
    h.ep.keep (e _ (by omega)), (c _ _ (by omega)).trans h.e0, (c _ _ (by omega)).trans h.e1, (e _ (by omega)).trans h.row, fun b hb => ⟨(h.box b hb).1, (h.box b hb).2.keep (e _ (by have := (h.box b hb).1; omega))⟩, h.nd, h.len⟩

theorem St.put (h : St N k ea l os mu aw cl w) {p : Nat} (hp : Plain w p) (hl : ∀ b ∈ l, Plain w b) (hm : p ∉ l) :
    ∃ w', (Instr.mapUpdate 23 (.map (some N)) (pt p) (.agg #[])).run Yba.prog w = .ok () w' ∧ St N k ea (l ++ [p]) os mu aw cl w' ∧ Ext N w w' ∧ w'.heap.size = w.heap.size ∧ ∀ j, j ≠ N → w'.heap[j]? = w.heap[j]? := by
  obtain ⟨o, hrun, ⟨es, clock, rfl⟩, hset⟩ := h.set.put hp hl hm
  obtain ⟨es0, clock0, hb, _, _⟩ := h.set
  have e : ∀ j, j ≠ N → ({ w with heap := w.heap.setIfInBounds N (.map es clock) } : World).heap[j]? = w.heap[j]? := fun j hj => by
    simp only
    rw [Array.getElem?_setIfInBounds_ne (fun h => hj h.symm)]
  exact ⟨_, hrun, h.first (by omega) hset ((e _ (by omega)).trans h.chan), Ext.setObj (Nat.le_refl _) (by simp [hb]) (by simp), by simp, e⟩

theorem St.del {p : Nat} (h : St N k ea (l ++ [p]) os mu aw cl w) (hp : Plain w p) (hl : ∀ b ∈ l, Plain w b) (hm : p ∉ l) (ty : TypeId) :
    ∃ w', (Builtin.delete_ #[23, 39] ty #[.map (some N), pt p]).run Yba.prog w = .ok (.tuple #[]) w' ∧ St N k ea l os mu aw cl w' ∧ Ext N w w' := by
  obtain ⟨o, hrun, ⟨es, clock, rfl⟩, hset⟩ := h.set.del hp hl hm ty
  obtain ⟨es0, clock0, hb, _, _⟩ := h.set
  have e : ∀ j, j ≠ N → ({ w with heap := w.heap.setIfInBounds N (.map es clock) } : World).heap[j]? = w.heap[j]? := fun j hj => by
    simp only
    rw [Array.getElem?_setIfInBounds_ne (fun h => hj h.symm)]
  exact ⟨_, hrun, h.first (by omega) hset ((e _ (by omega)).trans h.chan), Ext.setObj (Nat.le_refl _) (by simp [hb]) (by simp)⟩

theorem St.close (h : St N k ea l os mu aw false w) (ats : Array TypeId) (ty : TypeId) :
    ∃ w', (Builtin.close_ ats ty #[.chan (some (N + 1))]).run Yba.prog w = .ok (.tuple #[]) w' ∧ St N k ea l os mu aw true w' ∧ Ext N w w' := by
  refine ⟨_, run_close_open (P := Yba.prog) (w := w) ats ty h.chan, h.first (Nat.le_refl _) (h.set.keep ?_) ?_, Ext.setObj (by omega) (by simp [h.chan]) (by simp)⟩
  · simp only
    rw [Array.getElem?_setIfInBounds_ne (by omega)]
  · have := h.lt
    simp only
    rw [Array.getElem?_setIfInBounds_self_of_lt (by omega)]
end
end Go.Proofs.Ybulkcpzm
