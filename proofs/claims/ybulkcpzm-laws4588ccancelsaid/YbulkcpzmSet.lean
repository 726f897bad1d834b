/-
  A set keyed by pointers ('map[*Expected]struct{}'): look-up, store of a new key, delete, len, as equations of the model's own runs.
-/
import Derived.Test.YbulkcpzmProg
import Derived.MapKept
import Derived.LaidEqlPtr
import Derived.WideLaws
import Derived.Below
import Derived.WalkKit
import Derived.KernelRfl
namespace Go.Proofs.Ybulkcpzm
open Go.RowKit

/-- The pointer to block b's first cell. -/
abbrev pt (b : Nat) : Value := .pointer (some ⟨b, 0, none⟩)

/-- Block b is a row of cells none of which shares a string's bytes. -/
def Plain (w : World) (b : Nat) : Prop := ∃ cs t, w.heap[b]? = some (.cells cs t (0, 0))

/-- Block m is a set whose keys are the pointers to the blocks on l. -/
def SetAt (w : World) (m : Nat) (l : List Nat) : Prop :=
  ∃ es clock, w.heap[m]? = some (.map es clock) ∧ es.toList.map (·.key) = l.map pt ∧ ∀ x ∈ es.toList, x.val = .agg #[]

theorem info41 : (Yba.prog.info? 41).map (fun i => i.size) = some 2 := by kernel_rfl
theorem zero26 (w : World) : (zeroValue 26).run Yba.prog w = .ok (.agg #[]) w := by kernel_rfl

theorem equal_pt (w : World) (a b : Nat) (ha : Plain w a) (hb : Plain w b) : (Op.equal 39 (pt a) (pt b)).run Yba.prog w = .ok (decide (a = b)) w := by
  obtain ⟨j, hj, hs⟩ := Option.map_eq_some_iff.1 info41
  obtain ⟨ca, ta, ha⟩ := ha
  obtain ⟨cb, tb, hb⟩ := hb
  by_cases h : a = b
  · subst h
    have h : ∀ d : Nat, (Op.equalIn (d + 1) 39 (pt a) (pt a)).run Yba.prog w = .ok true w := fun d => by
      simp [Op.equalIn, run_underlying Yba.underlying39, sizeOf, typeInfo, hj, run_sameAddr_same]
    simp [Op.equal, Op.maxDepth, h 9999]
  · have hne : (⟨a, 0, none⟩ : Addr) ≠ ⟨b, 0, none⟩ := fun e => h (congrArg Addr.block e)
    have h' : ∀ d : Nat, (Op.equalIn (d + 1) 39 (pt a) (pt b)).run Yba.prog w = .ok false w := fun d => by
      simp [Op.equalIn, run_underlying Yba.underlying39, sizeOf, typeInfo, hj, hs, run_sameAddr_other w hne ha hb]
    simp [Op.equal, Op.maxDepth, h' 9999, h]

theorem asking_pt (w : World) (p : Nat) (hp : Plain w p) : ∀ (es : List MapEntry) (l : List Nat) (i : Nat), es.map (·.key) = l.map pt → (∀ b ∈ l, Plain w b) → (∀ x ∈ es, x.val = .agg #[]) →
    (Instr.findAsking 39 (pt p) es i).run Yba.prog w = .ok (if p ∈ l then some (i + l.idxOf p, .agg #[]) else none) w
  | [], l, i, h, _, _ => by
    have : l = [] := by cases l <;> simp_all
    subst this
    simp [Instr.findAsking]
  | x :: es, l, i, h, hl, hv => by
    cases l with
    | nil => simp at h
    | cons b l =>
      simp only [List.map_cons, List.cons.injEq] at h
      have ih := asking_pt w p hp es l (i + 1) h.2 (fun c hc => hl c (List.mem_cons_of_mem _ hc)) (fun y hy => hv y (List.mem_cons_of_mem _ hy))
      have he := equal_pt w p b hp (hl b (by simp))
      simp only [Instr.findAsking, Sem.run_bind, h.1, he, Result.andThen]
      by_cases hpb : p = b
      · subst hpb
        simp [hv x (by simp)]
      · have hbp : ¬ b = p := fun e => hpb e.symm
        simp only [hpb, decide_false, Bool.false_eq_true, if_false, ih, List.mem_cons, false_or]
        have e1 : (b :: l).idxOf p = l.idxOf p + 1 := by
          have hb' : (b == p) = false := beq_false_of_ne hbp
          rw [List.idxOf_cons, hb']
          rfl
        rw [e1]
        congr 1
        split
        · congr 2
          omega
        · rfl

theorem find_pt (w : World) (p : Nat) (hp : Plain w p) (es : List MapEntry) (l : List Nat) (h : es.map (·.key) = l.map pt) (hl : ∀ b ∈ l, Plain w b) (hv : ∀ x ∈ es, x.val = .agg #[]) :
    (Instr.findKey 39 (pt p) es).run Yba.prog w = .ok (if p ∈ l then some (l.idxOf p, .agg #[]) else none) w := by
  have hask := asking_pt w p hp es l 0 h hl hv
  simp only [Nat.zero_add] at hask
  cases es with
  | nil =>
    have : l = [] := by cases l <;> simp_all
    subst this
    simp [Instr.findKey, run_underlying Yba.underlying39, Result.andThen, Instr.findNow]
  | cons x es =>
    have hn : Instr.findNow (.pointer 41) (pt p) (x :: es) 0 = none := by simp [Instr.findNow, Instr.sameNow]
    simp only [Instr.findKey, Sem.run_bind, run_underlying Yba.underlying39, Result.andThen, hn]
    exact hask

theorem check_pt (w : World) (p : Nat) (em : Bool) : (Instr.checkKey em 10000 39 (pt p)).run Yba.prog w = .ok () w := by
  rw [show (10000 : Nat) = 9999 + 1 from rfl]
  unfold Instr.checkKey
  simp [run_underlying Yba.underlying39, Result.andThen]

theorem erase_map {α β : Type} (f : α → β) : ∀ (l : List α) (i : Nat), (l.eraseIdx i).map f = (l.map f).eraseIdx i
  | [], _ => rfl
  | _ :: _, 0 => rfl
  | x :: l, i + 1 => by simp [erase_map f l i]

section
variable {w : World} {m p : Nat} {l : List Nat}

theorem SetAt.get (h : SetAt w m l) (hp : Plain w p) (hl : ∀ b ∈ l, Plain w b) :
    (Instr.lookup 23 (.map (some m)) (pt p) true).run Yba.prog w = .ok (.tuple #[.agg #[], .bool (decide (p ∈ l))]) w := by
  obtain ⟨es, clock, hb, hk, hv⟩ := h
  have hf := find_pt w p hp es.toList l hk hl hv
  by_cases hm : p ∈ l
  · simp [Instr.lookup, run_underlying Yba.underlying23, MapKept.run_getObj_map hb, check_pt, hf, hm, Result.andThen]
  · simp [Instr.lookup, run_underlying Yba.underlying23, MapKept.run_getObj_map hb, check_pt, hf, hm, Result.andThen]

theorem SetAt.put (h : SetAt w m l) (hp : Plain w p) (hl : ∀ b ∈ l, Plain w b) (hm : p ∉ l) :
    ∃ o, (Instr.mapUpdate 23 (.map (some m)) (pt p) (.agg #[])).run Yba.prog w = .ok () { w with heap := w.heap.setIfInBounds m o } ∧ (∃ es clock, o = .map es clock) ∧
      SetAt { w with heap := w.heap.setIfInBounds m o } m (l ++ [p]) := by
  obtain ⟨es, clock, hb, hk, hv⟩ := h
  have hf := find_pt w p hp es.toList l hk hl hv
  refine ⟨.map (es.push ⟨pt p, .agg #[], clock⟩) (clock + 1), ?_, ⟨_, _, rfl⟩, es.push ⟨pt p, .agg #[], clock⟩, clock + 1, (MapKept.heap_set hb).1, ?_, ?_⟩
  · simp [Instr.mapUpdate, run_underlying Yba.underlying23, MapKept.run_getObj_map hb, check_pt, hf, hm, MapKept.run_setObj_map _ hb, Result.andThen]
  · simp [hk]
  · intro x hx
    simp only [Array.toList_push, List.mem_append, List.mem_singleton] at hx
    rcases hx with hx | rfl
    · exact hv x hx
    · rfl

theorem SetAt.del (h : SetAt w m (l ++ [p])) (hp : Plain w p) (hl : ∀ b ∈ l, Plain w b) (hm : p ∉ l) (ty : TypeId) :
    ∃ o, (Builtin.delete_ #[23, 39] ty #[.map (some m), pt p]).run Yba.prog w = .ok (.tuple #[]) { w with heap := w.heap.setIfInBounds m o } ∧ (∃ es clock, o = .map es clock) ∧
      SetAt { w with heap := w.heap.setIfInBounds m o } m l := by
  obtain ⟨es, clock, hb, hk, hv⟩ := h
  have hl' : ∀ b ∈ l ++ [p], Plain w b := fun b hb' => by
    rcases List.mem_append.1 hb' with h1 | h1
    · exact hl b h1
    · exact List.mem_singleton.1 h1 ▸ hp
  have hf := find_pt w p hp es.toList (l ++ [p]) hk hl' hv
  have hlen : es.size = l.length + 1 := by
    have := congrArg List.length hk
    simpa using this
  have hi : (l ++ [p]).idxOf p = l.length := by
    rw [List.idxOf_append]
    simp [hm]
  refine ⟨.map (es.eraseIdxIfInBounds l.length) clock, ?_, ⟨_, _, rfl⟩, _, clock, (MapKept.heap_set hb).1, ?_, ?_⟩
  · simp [Builtin.delete_, run_underlying Yba.underlying23, MapKept.run_getObj_map hb, check_pt, hf, hi, MapKept.run_setObj_map _ hb, Result.andThen]
  · have hsub : (es.eraseIdxIfInBounds l.length).toList = es.toList.eraseIdx l.length := by
      unfold Array.eraseIdxIfInBounds
      rw [dif_pos (by omega)]
      simp
    have e0 : (es.toList.eraseIdx l.length).map (·.key) = (es.toList.map (·.key)).eraseIdx l.length := by
      exact erase_map _ _ _
    rw [hsub, e0, hk]
    simp [List.eraseIdx_append_of_length_le]
  · intro x hx
    have hsub : (es.eraseIdxIfInBounds l.length).toList = es.toList.eraseIdx l.length := by
      unfold Array.eraseIdxIfInBounds
      rw [dif_pos (by omega)]
      simp
    rw [hsub] at hx
    exact hv x ((List.eraseIdx_sublist _ _).subset hx)

theorem SetAt.len (h : SetAt w m l) (ty : TypeId) : (Builtin.len_ #[23] ty #[.map (some m)]).run Yba.prog w = .ok (.int .i64 l.length) w := by
  obtain ⟨es, clock, hb, hk, hv⟩ := h
  have hlen : es.size = l.length := by
    have := congrArg List.length hk
    simpa using this
  simp [Builtin.len_, run_underlying Yba.underlying23, MapKept.run_getObj_map hb, goInt, hlen]
end
end Go.Proofs.Ybulkcpzm
