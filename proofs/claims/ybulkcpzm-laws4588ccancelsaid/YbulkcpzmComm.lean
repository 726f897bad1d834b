/-
  A send and a receive in the plain walk of one goroutine: a region whose operations are taken one step of the machine at a time.
-/
import Derived.Test.YbulkcpzmProg
import Derived.Conc.LoneCalls
import Derived.WalkKit
namespace Go.Proofs.Ybulkcpzm
open Go.RowKit Go.Conc

/-- From inside a region, the operations of l still to come, the machine comes to an end of which Q holds. -/
def OpsTo (ops : Array Oper) (Q : Exit → Act → World → Prop) (l : List Nat) (a : Act) (w : World) : Prop :=
  ∀ (b : Frame) (k : List Item) (cs : List Frame), ∃ e a' w', Q e a' w' ∧ Arrives Yba.prog (lone (b.at a (.inRegion ops l :: k)) cs w) b k cs e a' w'

section
variable {ops : Array Oper} {Q : Exit → Act → World → Prop} {a : Act} {w w' : World} {i : Nat} {rest : List Nat} {o : Oper} {v z : Value} {c cap s r : Nat} {buf : Array Value} {tm closed ok : Bool}

theorem region_to {id : Nat} (h : OpsTo ops Q (List.range ops.size) a w) : (Code.region id ops false).wp Yba.prog Q a w :=
  fun b k cs => let ⟨e, a', w', q, r⟩ := h b k cs; ⟨e, a', w', q, .of_steps (.one step_region) r⟩

theorem seq_to {id : Nat} {y : Code} (h : ∀ K : Act → World → Prop, (∀ a w, y.wp Yba.prog Q a w → K a w) → OpsTo ops (Exit.then K Q) (List.range ops.size) a w) : (Code.seq (Code.region id ops false) y).wp Yba.prog Q a w :=
  wp_seq_k fun K hK => region_to (h K hK)

theorem opsTo_list (n : Nat) (l : List Oper) (hl : ∀ j, l[j]? = ops[n + j]?) (hr : rest = List.range' n l.length) (h : wpList Yba.prog ops Q l a w) : OpsTo ops Q rest a w := by
  subst hr
  exact fun b k cs => wp_ops _ a w (by rw [wpOps_eq_wpList l n hl]; exact h) b k cs

theorem opsTo_rest (n : Nat) (hr : rest = List.range' n (ops.toList.drop n).length) (h : wpList Yba.prog ops Q (ops.toList.drop n) a w) : OpsTo ops Q rest a w :=
  opsTo_list n _ (fun j => by simp) hr h

theorem opsTo_nil (h : Q .normal a w) : OpsTo ops Q [] a w := fun _ _ _ => ⟨.normal, a, w, h, .one step_region_end⟩

theorem opsTo_value (ho : ops[i]? = some o) (hg : o.guard = none) (hr : (execOp a.eval o).run Yba.prog w = .ok (.value v) w') (h : OpsTo ops Q rest (a.put o.dst v) w') : OpsTo ops Q (i :: rest) a w := by
  intro b k cs
  obtain ⟨e, a', w'', hq, harr⟩ := h b k cs
  refine ⟨e, a', w'', hq, .of_steps (.one (step_lone_go ?_)) harr⟩
  have hw : Region.wanted o (yielded ops a.tmps) = true := by simp [Region.wanted, hg]
  have hfin : (b.at a (.inRegion ops (i :: rest) :: k)).finish v = b.at (a.put o.dst v) (.inRegion ops rest :: k) := by
    rw [Frame.finish_at, ho]; rfl
  rw [stepG_op ho hw, ← hfin]
  simp [stepG.apply, hr]

/-- The operation is a communication: the goroutine's step hands it up. -/
theorem step_comm {cases : Array CommCase} {shape : CommShape} (ho : ops[i]? = some o) (hg : o.guard = none) (hr : (execOp a.eval o).run Yba.prog w = .ok (.comm cases true shape) w') (b : Frame) (k : List Item) (cs : List Frame) :
    ∃ es, stepG Yba.prog true (G (b.at a (.inRegion ops (i :: rest) :: k)) cs) w = .comm (G (b.at a (.inRegion ops (i :: rest) :: k)) cs) cases true shape w' es := by
  have hw : Region.wanted o (yielded ops a.tmps) = true := by simp [Region.wanted, hg]
  rw [stepG_oper ho hw]
  simp only [stepG.apply, Sem.runT_eq, hr, GStep.after, if_true]
  exact ⟨_, rfl⟩

theorem opsTo_send (ho : ops[i]? = some o) (hg : o.guard = none) (hr : (execOp a.eval o).run Yba.prog w = .ok (.comm #[scase c v z] true .send) w) (hc : w.heap[c]? = some (.chan cap buf false s r tm)) (hroom : buf.size < cap)
    (h : OpsTo ops Q rest (a.put o.dst undef) (w.setChan c cap (buf.push v) false (s + 1) r tm)) : OpsTo ops Q (i :: rest) a w := by
  intro b k cs
  obtain ⟨e, a', w'', hq, harr⟩ := h b k cs
  obtain ⟨es, hG⟩ := step_comm (rest := rest) ho hg hr b k cs
  have hs := step_lone_send_room hG hc hroom
  rw [Frame.finish_at, ho] at hs
  exact ⟨e, a', w'', hq, .of_steps (.one hs) harr⟩

theorem opsTo_recv (ho : ops[i]? = some o) (hg : o.guard = none) (hr : (execOp a.eval o).run Yba.prog w = .ok (.comm #[rcase c z] true (.recv ok)) w) (hc : w.heap[c]? = some (.chan cap buf closed s r tm)) (hsome : 0 < buf.size)
    (h : OpsTo ops Q rest (a.put o.dst (got ok (buf.getD 0 undef) true)) (w.setChan c cap (buf.extract 1 buf.size) closed s (r + 1) tm)) : OpsTo ops Q (i :: rest) a w := by
  intro b k cs
  obtain ⟨e, a', w'', hq, harr⟩ := h b k cs
  obtain ⟨es, hG⟩ := step_comm (rest := rest) ho hg hr b k cs
  have hs := step_lone_recv_buf ok hG hc hsome
  rw [Frame.finish_at, ho] at hs
  exact ⟨e, a', w'', hq, .of_steps (.one hs) harr⟩

theorem opsTo_shut (ho : ops[i]? = some o) (hg : o.guard = none) (hr : (execOp a.eval o).run Yba.prog w = .ok (.comm #[rcase c z] true (.recv ok)) w) (hc : w.heap[c]? = some (.chan cap #[] true s r tm))
    (h : OpsTo ops Q rest (a.put o.dst (got ok z false)) w) : OpsTo ops Q (i :: rest) a w := by
  intro b k cs
  obtain ⟨e, a', w'', hq, harr⟩ := h b k cs
  obtain ⟨es, hG⟩ := step_comm (rest := rest) ho hg hr b k cs
  have hs := step_lone_recv_shut ok hG hc
  rw [Frame.finish_at, ho] at hs
  exact ⟨e, a', w'', hq, .of_steps (.one hs) harr⟩
end
end Go.Proofs.Ybulkcpzm
