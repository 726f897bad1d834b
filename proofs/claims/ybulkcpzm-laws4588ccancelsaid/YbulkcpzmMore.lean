/-
  What the law's own walk needs beside Cancel: the row of the others, the lock tried and let go, the channel.
-/
import Derived.Test.YbulkcpzmCancel
import Derived.Test.YbulkcpzmComm
import Derived.Laws.MakeOwn
namespace Go.Proofs.Ybulkcpzm
open Go.RowKit Go.MuLone Go.Conc

theorem info26 : (Yba.prog.info? 26).map (fun i => i.bytes) = some 0 := by kernel_rfl
theorem info39 : (Yba.prog.info? 39).map (fun i => (i.zero, i.size, i.bytes)) = some (some (.pointer none), 1, 8) := by kernel_rfl
theorem info38 : (Yba.prog.info? 38).map (fun i => i.size) = some 15 := by kernel_rfl
theorem mk24 (w : World) : (Instr.makeChan 24 (.int .i64 1)).run Yba.prog w = .ok (.chan (some w.heap.size)) (w.alloc (.chan 1 #[] false 0 0 false)) := by
  obtain ⟨i, hi, hb⟩ := Option.map_eq_some_iff.1 info26
  simpa using run_makeChan (P := Yba.prog) (w := w) Yba.underlying24 hi .i64 1 (by omega) (by rw [hb]; omega)

theorem made_replicate (v : Value) (n : Nat) : madeCells #[v] n = (List.replicate n v).toArray := by
  apply Array.ext
  · simp [size_madeCells]
  · intro i h1 h2
    simp [madeCells, Nat.mod_one]

theorem mk42 (w : World) (k : Nat) (hk : k < 8) : (Instr.makeSlice 42 (.int .i64 0) (.int .i64 (k : Int))).run Yba.prog w =
    .ok (.slice (some ⟨w.heap.size, 0, none⟩) 0 k) (w.alloc (.cells (List.replicate k (Value.pointer none)).toArray 39)) := by
  obtain ⟨i, i1, i2, i3, i4⟩ := info_parts info39
  have h := run_make (P := Yba.prog) w 42 39 i (.pointer none) Yba.underlying42 i1 i2 .i64 .i64 0 (k : Int) (by omega) (by omega) (by rw [i4]; omega) (by omega)
  rw [i3] at h
  simpa [Value.cells, made_replicate] using h

theorem neq22 (w : World) (b : Nat) : (binOp .neq 22 (pt b) (pt b)).run Yba.prog w = .ok (.bool false) w := by
  obtain ⟨j, hj, hs⟩ := Option.map_eq_some_iff.1 info38
  have h : ∀ d : Nat, (Op.equalIn (d + 1) 22 (pt b) (pt b)).run Yba.prog w = .ok true w := fun d => by
    simp [Op.equalIn, run_underlying Yba.underlying22, sizeOf, typeInfo, hj, run_sameAddr_same]
  simp only [binOp]
  simp [Op.equal, Op.maxDepth, h 9999]

theorem cell_of {w : World} {b : Nat} {cs : Array Value} {t : TypeId} (h : w.heap[b]? = some (.cells cs t (0, 0))) (o : Nat) : w.cell? ⟨b, o, none⟩ = cs[o]? := by simp [World.cell?, h]

theorem push5 (h : Array Obj) (a b c d e : Obj) : (((((h.push a).push b).push c).push d).push e)[h.size]? = some a ∧ (((((h.push a).push b).push c).push d).push e)[h.size + 1]? = some b ∧
    (((((h.push a).push b).push c).push d).push e)[h.size + 2]? = some c ∧ (((((h.push a).push b).push c).push d).push e)[h.size + 3]? = some d ∧ (((((h.push a).push b).push c).push d).push e)[h.size + 4]? = some e := by
  simp only [Array.getElem?_push, Array.size_push]
  refine ⟨?_, ?_, ?_, ?_, ?_⟩
  · rw [if_neg (by omega), if_neg (by omega), if_neg (by omega), if_neg (by omega), if_pos trivial]
  · rw [if_neg (by omega), if_neg (by omega), if_neg (by omega), if_pos trivial]
  · rw [if_neg (by omega), if_neg (by omega), if_pos trivial]
  · rw [if_neg (by omega), if_pos trivial]
  · rw [if_pos trivial]

section
variable {N k : Nat} {ea : Bool} {l os : List Nat} {mu aw : Int} {cl : Bool} {w w' : World}

/-- The first state: the set, the channel, the file, e, the row, all new. -/
theorem St.start (w : World) (k : Nat) (ea : Bool) (N : Nat) (hN : w.heap.size = N) (cs : Array Value) (h2 : cs[2]? = some (.int .i32 0)) (h9 : cs[9]? = some (.map (some N))) (h10 : cs[10]? = some (.int .i64 0)) (h11 : cs[11]? = some (.chan (some (N + 1)))) :
    St N k ea [] [] 0 0 false (((((w.alloc (.map #[] 0)).alloc (.chan 1 #[] false 0 0 false)).alloc (.cells cs 38)).alloc (.cells #[pt (N + 2), .bool ea] 41)).alloc (.cells (List.replicate k (Value.pointer none)).toArray 39)) ∧
    Ext N w (((((w.alloc (.map #[] 0)).alloc (.chan 1 #[] false 0 0 false)).alloc (.cells cs 38)).alloc (.cells #[pt (N + 2), .bool ea] 41)).alloc (.cells (List.replicate k (Value.pointer none)).toArray 39)) := by
  subst hN
  have e0 : (((((w.alloc (.map #[] 0)).alloc (.chan 1 #[] false 0 0 false)).alloc (.cells cs 38)).alloc (.cells #[pt (w.heap.size + 2), .bool ea] 41)).alloc (.cells (List.replicate k (Value.pointer none)).toArray 39)).heap =
      ((((w.heap.push (.map #[] 0)).push (.chan 1 #[] false 0 0 false)).push (.cells cs 38)).push (.cells #[pt (w.heap.size + 2), .bool ea] 41)).push (.cells (List.replicate k (Value.pointer none)).toArray 39) := rfl
  have hm : (((((w.alloc (.map #[] 0)).alloc (.chan 1 #[] false 0 0 false)).alloc (.cells cs 38)).alloc (.cells #[pt (w.heap.size + 2), .bool ea] 41)).alloc (.cells (List.replicate k (Value.pointer none)).toArray 39)).heap[w.heap.size]? = some (.map #[] 0) := by
    rw [e0]; exact (push5 _ _ _ _ _ _).1
  have hc : (((((w.alloc (.map #[] 0)).alloc (.chan 1 #[] false 0 0 false)).alloc (.cells cs 38)).alloc (.cells #[pt (w.heap.size + 2), .bool ea] 41)).alloc (.cells (List.replicate k (Value.pointer none)).toArray 39)).heap[w.heap.size + 1]? = some (.chan 1 #[] false 0 0 false) := by
    rw [e0]; exact (push5 _ _ _ _ _ _).2.1
  have hj : (((((w.alloc (.map #[] 0)).alloc (.chan 1 #[] false 0 0 false)).alloc (.cells cs 38)).alloc (.cells #[pt (w.heap.size + 2), .bool ea] 41)).alloc (.cells (List.replicate k (Value.pointer none)).toArray 39)).heap[w.heap.size + 2]? = some (.cells cs 38 (0, 0)) := by
    rw [e0]; exact (push5 _ _ _ _ _ _).2.2.1
  have he : (((((w.alloc (.map #[] 0)).alloc (.chan 1 #[] false 0 0 false)).alloc (.cells cs 38)).alloc (.cells #[pt (w.heap.size + 2), .bool ea] 41)).alloc (.cells (List.replicate k (Value.pointer none)).toArray 39)).heap[w.heap.size + 3]? = some (.cells #[pt (w.heap.size + 2), .bool ea] 41 (0, 0)) := by
    rw [e0]; exact (push5 _ _ _ _ _ _).2.2.2.1
  have hr : (((((w.alloc (.map #[] 0)).alloc (.chan 1 #[] false 0 0 false)).alloc (.cells cs 38)).alloc (.cells #[pt (w.heap.size + 2), .bool ea] 41)).alloc (.cells (List.replicate k (Value.pointer none)).toArray 39)).heap[w.heap.size + 4]? = some (.cells (List.replicate k (Value.pointer none)).toArray 39 (0, 0)) := by
    rw [e0]; exact (push5 _ _ _ _ _ _).2.2.2.2
  refine ⟨⟨⟨#[], 0, hm, rfl, by simp⟩, hc, ⟨_, _, hj⟩, ?_, ?_, ?_, ?_, ⟨_, _, he⟩, ?_, ?_, ?_, by simp, by simp, by simp⟩, ?_⟩
  · exact (cell_of hj 2).trans h2
  · exact (cell_of hj 9).trans h9
  · exact (cell_of hj 10).trans h10
  · exact (cell_of hj 11).trans h11
  · exact (cell_of he 0).trans rfl
  · exact (cell_of he 1).trans rfl
  · simpa using hr
  · have x1 : Ext w.heap.size w (w.alloc (.map #[] 0)) := ⟨(Below.refl _ _).alloc (Nat.le_refl _) _, fun a => by
      by_cases h : a.block = w.heap.size
      · have q1 : (w.alloc (.map #[] 0)).heap[a.block]? = some (.map #[] 0) := by rw [h]; exact (MapKept.heap_alloc w _).1
        have q2 : w.heap[a.block]? = none := by rw [h]; simp
        simp [World.frozen?, q1, q2]
      · by_cases h' : a.block < w.heap.size
        · exact World.frozen?_of_block (Below.heap_alloc w _ _ h')
        · have q1 : (w.alloc (.map #[] 0)).heap[a.block]? = none := by
            apply Array.getElem?_eq_none
            simp
            omega
          have q2 : w.heap[a.block]? = none := by apply Array.getElem?_eq_none; omega
          simp [World.frozen?, q1, q2]⟩
    have x2 : Ext w.heap.size (w.alloc (.map #[] 0)) ((w.alloc (.map #[] 0)).alloc (.chan 1 #[] false 0 0 false)) := ⟨(Below.refl _ _).alloc (by simp) _, fun a => by
      by_cases h : a.block = (w.alloc (.map #[] 0)).heap.size
      · have q1 : ((w.alloc (.map #[] 0)).alloc (.chan 1 #[] false 0 0 false)).heap[a.block]? = some (.chan 1 #[] false 0 0 false) := by rw [h]; exact (MapKept.heap_alloc _ _).1
        have q2 : (w.alloc (.map #[] 0)).heap[a.block]? = none := by rw [h]; simp
        simp [World.frozen?, q1, q2]
      · by_cases h' : a.block < (w.alloc (.map #[] 0)).heap.size
        · exact World.frozen?_of_block (Below.heap_alloc _ _ _ h')
        · have q1 : ((w.alloc (.map #[] 0)).alloc (.chan 1 #[] false 0 0 false)).heap[a.block]? = none := by
            apply Array.getElem?_eq_none
            rw [World.size_alloc]
            omega
          have q2 : (w.alloc (.map #[] 0)).heap[a.block]? = none := by apply Array.getElem?_eq_none; omega
          simp [World.frozen?, q1, q2]⟩
    exact (((x1.trans x2).alloc (by simp; omega) _ _).alloc (by simp; omega) _ _).alloc (by simp; omega) _ _

theorem St.rowAt (h : St N k ea l os mu aw cl w) {i : Nat} (hi : i < os.length) : ∃ b, b ∈ os ∧ w.cell? ⟨N + 4, i, none⟩ = some (pt b) := by
  refine ⟨os[i], List.getElem_mem hi, ?_⟩
  simp [World.cell?, h.row, List.getElem?_append, hi]

theorem St.app {p : Nat} (h : St N k ea (os ++ [p]) os mu aw cl w) (hp : Plain w p) (hpN : N + 4 < p) (hpo : p ∉ os) (hi : os.length < k) :
    ∃ w', (Builtin.append_ #[42, 42] 42 #[.slice (some ⟨N + 4, 0, none⟩) os.length k, .slice (some ⟨w.heap.size, 0, none⟩) 1 1]).run Yba.prog (w.alloc (.cells #[pt p] 39)) = .ok (.slice (some ⟨N + 4, 0, none⟩) (os.length + 1) k) w' ∧
      St N k ea (os ++ [p]) (os ++ [p]) mu aw cl w' ∧ Ext N w w' := by
  obtain ⟨i, i1, i2, i3, i4⟩ := info_parts info39
  have hA := h.alloc (.cells #[pt p] 39)
  have hnew : (w.alloc (.cells #[pt p] 39)).heap[w.heap.size]? = some (.cells #[pt p] 39 (0, 0)) := (MapKept.heap_alloc w _).1
  have hr := run_append_room (P := Yba.prog) (w.alloc (.cells #[pt p] 39)) 42 42 39 i Yba.underlying42 i1 (N + 4) os.length k _ hA.row ⟨w.heap.size, 0, none⟩ 1 1 [pt p] (by rw [i3]; rfl)
    (by
      intro j u hj
      match j, hj with
      | 0, hj =>
        simp at hj
        subst hj
        exact (cell_of hnew 0).trans rfl
      | j + 1, hj => simp at hj)
    (by intro u hu; simp at hu; subst hu; rfl) (by omega) (by rw [i3]; simp; omega)
  rw [i3] at hr
  have harr : (List.take (os.length * 1) (os.map pt ++ List.replicate (k - os.length) (Value.pointer none)).toArray.toList ++ [pt p] ++ List.drop (os.length * 1 + [pt p].length) (os.map pt ++ List.replicate (k - os.length) (Value.pointer none)).toArray.toList) =
      ((os ++ [p]).map pt ++ List.replicate (k - (os ++ [p]).length) (Value.pointer none)) := by
    have e : k - os.length - 1 = k - (os.length + 1) := by omega
    have e2 : os.length + 1 - os.length = 1 := by omega
    simp [List.drop_append, e, e2]
  rw [harr] at hr
  refine ⟨_, hr, ?_, ?_⟩
  · have e : ∀ j, j ≠ N + 4 → ((w.alloc (.cells #[pt p] 39)).setRow (N + 4) ((os ++ [p]).map pt ++ List.replicate (k - (os ++ [p]).length) (Value.pointer none)).toArray).heap[j]? = (w.alloc (.cells #[pt p] 39)).heap[j]? := fun j hj => by
      simp only [World.setRow, Array.getElem?_modify]
      rw [if_neg (by omega)]
    have c : ∀ b o, b ≠ N + 4 → ((w.alloc (.cells #[pt p] 39)).setRow (N + 4) ((os ++ [p]).map pt ++ List.replicate (k - (os ++ [p]).length) (Value.pointer none)).toArray).cell? ⟨b, o, none⟩ = (w.alloc (.cells #[pt p] 39)).cell? ⟨b, o, none⟩ :=
      fun b o hb => World.cell?_of_block (e b hb)
    refine ⟨hA.set.keep (e _ (by omega)), (e _ (by omega)).trans hA.chan, hA.jp.keep (e _ (by omega)), (c _ _ (by omega)).trans hA.c2, (c _ _ (by omega)).trans hA.c9, (c _ _ (by omega)).trans hA.c10, (c _ _ (by omega)).trans hA.c11,
      hA.ep.keep (e _ (by omega)), (c _ _ (by omega)).trans hA.e0, (c _ _ (by omega)).trans hA.e1, ?_, ?_, ?_, ?_⟩
    · simp only [World.setRow, Array.getElem?_modify, if_true, hA.row, Option.map_some]
    · intro b hb
      rcases List.mem_append.1 hb with hb | hb
      · exact ⟨(hA.box b hb).1, (hA.box b hb).2.keep (e _ (by have := (hA.box b hb).1; omega))⟩
      · obtain rfl := List.mem_singleton.1 hb
        exact ⟨hpN, (hp.keep (Below.heap_alloc _ _ _ hp.lt)).keep (e _ (by omega))⟩
    · rw [List.nodup_append]
      refine ⟨hA.nd, by simp, ?_⟩
      intro a ha b hb
      simp at hb
      subst hb
      exact fun e => hpo (e ▸ ha)
    · simp
      omega
  · have hx : Ext N w (w.alloc (.cells #[pt p] 39)) := (Ext.refl _ _).alloc (by have := h.lt; omega) _ _
    refine hx.trans ⟨⟨rfl, rfl, rfl, by simp [World.setRow], fun j hj => ?_⟩, fun a => ?_⟩
    · simp only [World.setRow, Array.getElem?_modify]
      rw [if_neg (by omega)]
    · by_cases ha : a.block = N + 4
      · simp only [World.frozen?, World.setRow, Array.getElem?_modify, ha, if_true, hA.row, Option.map_some]
      · refine World.frozen?_of_block ?_
        simp only [World.setRow, Array.getElem?_modify]
        rw [if_neg (fun e => ha e.symm)]

theorem try_st (hS : St N k ea l os 0 aw cl w) : Calls Yba.prog 5 #[.pointer (some ⟨N + 2, 2, none⟩)] w fun e w' => e = .returned (.bool true) ∧ St N k ea l os 1 aw cl w' ∧ Ext N w w' := by
  refine (try_free ⟨N + 2, 2, none⟩ w hS.c2 (hS.jp.frozen 2)).mono ?_
  rintro e w' ⟨rfl, rfl⟩
  exact ⟨rfl, hS.setMu 1, (Ext.refl _ _).setCell (show N ≤ N + 2 by omega) _⟩

theorem unl_st (hS : St N k ea l os 1 aw cl w) : Calls Yba.prog 6 #[.pointer (some ⟨N + 2, 2, none⟩)] w fun e w' => e = .returned (.tuple #[]) ∧ St N k ea l os 0 aw cl w' ∧ Ext N w w' := by
  refine (unlock_held Yba.muLib ⟨N + 2, 2, none⟩ w hS.c2 (hS.jp.frozen 2)).mono ?_
  rintro e w' ⟨rfl, rfl⟩
  exact ⟨rfl, hS.setMu 0, (Ext.refl _ _).setCell (show N ≤ N + 2 by omega) _⟩

theorem Ext.setChan {c cap : Nat} {buf : Array Value} {cl : Bool} {s r : Nat} {tm : Bool} (hN : N ≤ c) (hc : w.heap[c]? = some (.chan cap buf cl s r tm)) (cap' : Nat) (buf' : Array Value) (cl' : Bool) (s' r' : Nat) (tm' : Bool) :
    Ext N w (w.setChan c cap' buf' cl' s' r' tm') := Ext.setObj hN (by simp [hc]) (by simp)

theorem St.sent (h : St N k ea l os mu aw false w) (v : Value) :
    ∃ W, W = w.setChan (N + 1) 1 #[v] false 1 0 false ∧ W.heap[N + 1]? = some (.chan 1 #[v] false 1 0 false) ∧ W.cell? ⟨N + 2, 11, none⟩ = some (.chan (some (N + 1))) ∧ Ext N w W ∧ N ≤ W.heap.size := by
  have hl := h.lt
  refine ⟨_, rfl, heap_setChan w (N + 1) 1 #[v] false 1 0 false (by omega), ?_, Ext.setChan (by omega) h.chan _ _ _ _ _ _, by rw [size_setChan]; omega⟩
  refine (World.cell?_of_block ?_).trans h.c11
  simp only [World.setChan]
  rw [Array.getElem?_setIfInBounds_ne (by simp)]

theorem got_it {W : World} {v : Value} (h : W.heap[N + 1]? = some (.chan 1 #[v] false 1 0 false)) : ∃ W', W' = W.setChan (N + 1) 1 (#[v].extract 1 #[v].size) false 1 (0 + 1) false ∧ Ext N W W' ∧ W'.heap.size = W.heap.size :=
  ⟨_, rfl, Ext.setChan (by omega) h _ _ _ _ _ _, size_setChan _ _ _ _ _ _ _ _⟩
end

/-- An append whose run is known, as a law for the walk. -/
theorem wpList_app {w : World} {ops : Array Oper} {rest : List Oper} {o : Oper} {a : Act} {Q : Exit → Act → World → Prop} (hgd : o.guard = none) (s x : Operand) (t : TypeId)
    (ho : o.op = .call { callee := .builtin .append, args := #[s, x], argTypes := #[t, t] }) (hty : o.type = t) (vs vx v' : Value) (w' : World) (hs : a.eval s = vs) (hx : a.eval x = vx)
    (hrun : (Builtin.append_ #[t, t] t #[vs, vx]).run Yba.prog w = .ok v' w') (h : wpList Yba.prog ops Q rest (a.put o.dst v') w') : wpList Yba.prog ops Q (o :: rest) a w := by
  refine wpList_plain hgd fun K hK => ?_
  unfold Oper.wp execOp
  simp only [ho, hty, resolve, invoke, builtin, Sem.run_bind, Sem.run_pure, Result.andThen_ok, List.map_toArray, List.map_cons, List.map_nil, hs, hx, hrun]
  exact hK _ _ h
end Go.Proofs.Ybulkcpzm
