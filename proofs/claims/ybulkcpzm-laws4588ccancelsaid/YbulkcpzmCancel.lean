/-
  (*Expected).Cancel over the law's memory.
-/
import Derived.Test.YbulkcpzmState
namespace Go.Proofs.Ybulkcpzm
open Go.RowKit Go.MuLone

section
variable {N k : Nat} {ea : Bool} {l os : List Nat} {mu aw : Int} {cl : Bool} {w : World} {ops : Array Oper} {rest : List Oper} {o : Oper} {a : Act} {Q : Exit → Act → World → Prop}

theorem wpList_put (hg : o.guard = none) (m x v : Operand) (hop : o.op = Op.mapUpdate 23 m x v) (hm : a.eval m = .map (some N)) (p : Nat) (hx : a.eval x = pt p) (hv : a.eval v = .agg #[])
    (hS : St N k ea l os mu aw cl w) (hp : Plain w p) (hl : ∀ b ∈ l, Plain w b) (hpl : p ∉ l)
    (hK : ∀ w', St N k ea (l ++ [p]) os mu aw cl w' → Ext N w w' → w'.heap.size = w.heap.size → (∀ j, j ≠ N → w'.heap[j]? = w.heap[j]?) → wpList Yba.prog ops Q rest (a.put o.dst undef) w') : wpList Yba.prog ops Q (o :: rest) a w := by
  refine wpList_plain hg fun K' hK' => ?_
  obtain ⟨w', hrun, r1, r2, r3, r4⟩ := hS.put hp hl hpl
  unfold Oper.wp
  simp [execOp, hop, hm, hx, hv, hrun, Result.andThen]
  exact hK' _ _ (hK w' r1 r2 r3 r4)

theorem wpList_get (hg : o.guard = none) (m x : Operand) (hop : o.op = Op.lookup 23 m x true) (hm : a.eval m = .map (some N)) (p : Nat) (hx : a.eval x = pt p)
    (hS : St N k ea l os mu aw cl w) (hp : Plain w p) (hl : ∀ b ∈ l, Plain w b) (t : Bool) (ht : decide (p ∈ l) = t)
    (hK : wpList Yba.prog ops Q rest (a.put o.dst (.tuple #[.agg #[], .bool t])) w) : wpList Yba.prog ops Q (o :: rest) a w := by
  refine wpList_plain hg fun K' hK' => ?_
  have hrun := hS.set.get hp hl
  rw [ht] at hrun
  unfold Oper.wp
  simp [execOp, hop, hm, hx, hrun, Result.andThen]
  exact hK' _ _ hK

theorem wpList_del (hg : o.guard = none) (m x : Operand) (hop : o.op = Op.call { callee := Callee.builtin Builtin.delete, args := #[m, x], argTypes := #[23, 39] }) (hm : a.eval m = .map (some N)) (p : Nat) (hx : a.eval x = pt p)
    (hS : St N k ea (l ++ [p]) os mu aw cl w) (hp : Plain w p) (hl : ∀ b ∈ l, Plain w b) (hpl : p ∉ l)
    (hK : ∀ w', St N k ea l os mu aw cl w' → Ext N w w' → wpList Yba.prog ops Q rest (a.put o.dst (.tuple #[])) w') : wpList Yba.prog ops Q (o :: rest) a w := by
  refine wpList_plain hg fun K' hK' => ?_
  obtain ⟨w', hrun, r1, r2⟩ := hS.del hp hl hpl o.type
  unfold Oper.wp
  simp [execOp, hop, resolve, invoke, builtin, hm, hx, hrun, Result.andThen]
  exact hK' _ _ (hK w' r1 r2)

theorem lock_st (hS : St N k ea l os 0 aw cl w) : Calls Yba.prog 7 #[.pointer (some ⟨N + 2, 2, none⟩)] w fun e w' => e = .returned (.tuple #[]) ∧ St N k ea l os 1 aw cl w' ∧ Ext N w w' := by
  refine (lock_free Yba.muLib ⟨N + 2, 2, none⟩ w hS.c2 (hS.jp.frozen 2)).mono ?_
  rintro e w' ⟨rfl, rfl⟩
  exact ⟨rfl, hS.setMu 1, (Ext.refl _ _).setCell (show N ≤ N + 2 by omega) _⟩

theorem unlock_st (hS : St N k ea l os 1 aw cl w) : CallsD Yba.prog 6 #[.pointer (some ⟨N + 2, 2, none⟩)] .returning w fun e u' w' => u' = .returning ∧ (e = .returned (.tuple #[]) ∧ St N k ea l os 0 aw cl w' ∧ Ext N w w') := by
  refine (unlock_deferred Yba.muLib ⟨N + 2, 2, none⟩ .returning w hS.c2 (hS.jp.frozen 2)).mono ?_
  rintro e u w' ⟨rfl, rfl, rfl⟩
  exact ⟨rfl, rfl, hS.setMu 0, (Ext.refl _ _).setCell (show N ≤ N + 2 by omega) _⟩
end

section
variable {N k : Nat} {ea : Bool} {os : List Nat} {aw : Int} {cl : Bool} {w : World}

theorem St.plains {l : List Nat} {mu : Int} (h : St N k ea l os mu aw cl w) : ∀ b ∈ os, Plain w b := fun b hb => (h.box b hb).2
theorem St.out {l : List Nat} {mu : Int} (h : St N k ea l os mu aw cl w) : N + 3 ∉ os := fun hm => by have := (h.box _ hm).1; omega

set_option maxHeartbeats 1600000 in
/-- e is not announced: nothing is turned. -/
theorem cancel_out (hS : St N k ea os os 0 aw cl w) :
    Calls Yba.prog 4 #[pt (N + 3)] w fun e w' => e = .returned (.tuple #[]) ∧ St N k ea os os 0 aw cl w' ∧ Ext N w w' := by
  have e0 := hS.e0
  go_enter_defers Yba.func4, Yba.ntmps4
  go_wp2_with fail
  refine (lock_st hS).mono ?_
  rintro e w1 ⟨rfl, hS1, hX1⟩
  have c9 := hS1.c9
  go_wp2_with (at_lookup; refine wpList_get rfl _ _ rfl rfl (N + 3) rfl hS1 hS1.ep hS1.plains false (by simp [hS1.out]) ?_)
  have hS2 := hS1.alloc (.cells #[] 26)
  refine leaves_cons (f := 6) (args := #[.pointer (some ⟨N + 2, 2, none⟩)]) (by simp) (by simp [go_sem]) ?_
  refine (unlock_st hS2).mono ?_
  rintro e u' w'' ⟨rfl, rfl, hS3, hX3⟩
  have := hS1.lt
  exact ⟨_, results_none rfl _ _ _, rfl, hS3, (hX1.alloc (by omega) _ _).trans hX3⟩

set_option maxHeartbeats 1600000 in
/-- e is announced and not awaited: it leaves the set. -/
theorem cancel_idle (hS : St N k false (os ++ [N + 3]) os 0 aw cl w) :
    Calls Yba.prog 4 #[pt (N + 3)] w fun e w' => e = .returned (.tuple #[]) ∧ St N k false os os 0 aw cl w' ∧ Ext N w w' := by
  have e0 := hS.e0
  go_enter_defers Yba.func4, Yba.ntmps4
  go_wp2_with fail
  refine (lock_st hS).mono ?_
  rintro e w1 ⟨rfl, hS1, hX1⟩
  have c9 := hS1.c9
  have hS2 := hS1.alloc (.cells #[] 26)
  have c9' := hS2.c9
  go_wp2_with (first
    | (at_lookup; refine wpList_get rfl _ _ rfl rfl (N + 3) rfl hS1 hS1.ep (by intro b hb; rcases List.mem_append.1 hb with h | h; exact hS1.plains b h; exact List.mem_singleton.1 h ▸ hS1.ep) true (by simp) ?_)
    | (at_delete; refine wpList_del rfl _ _ rfl rfl (N + 3) rfl hS2 hS2.ep hS2.plains hS2.out ?_; intro w2 hS3 hX3; have e1 := hS3.e1))
  refine leaves_cons (f := 6) (args := #[.pointer (some ⟨N + 2, 2, none⟩)]) (by simp) (by simp [go_sem]) ?_
  refine (unlock_st hS3).mono ?_
  rintro e u' w'' ⟨rfl, rfl, hS4, hX4⟩
  have := hS1.lt
  exact ⟨_, results_none rfl _ _ _, rfl, hS4, ((hX1.alloc (by omega) _ _).trans hX3).trans hX4⟩

set_option maxHeartbeats 1600000 in
/-- e is announced and awaited, others are awaited too: the count goes down by one. -/
theorem cancel_some (hS : St N k true (os ++ [N + 3]) os 0 aw false w) (h1 : aw ≠ 1) (h2 : -1000 < aw) (h3 : aw < 1000) :
    Calls Yba.prog 4 #[pt (N + 3)] w fun e w' => e = .returned (.tuple #[]) ∧ St N k true os os 0 (aw - 1) false w' ∧ Ext N w w' := by
  have e0 := hS.e0
  have hwr : wrap64 (aw - 1) = aw - 1 := by unfold wrap64; omega
  have hne : ¬ (aw - 1 = 0) := by omega
  go_enter_defers Yba.func4, Yba.ntmps4
  go_wp2_with fail
  refine (lock_st hS).mono ?_
  rintro e w1 ⟨rfl, hS1, hX1⟩
  have c9 := hS1.c9
  have hS2 := hS1.alloc (.cells #[] 26)
  have c9' := hS2.c9
  go_wp2_with (first
    | (at_lookup; refine wpList_get rfl _ _ rfl rfl (N + 3) rfl hS1 hS1.ep (by intro b hb; rcases List.mem_append.1 hb with h | h; exact hS1.plains b h; exact List.mem_singleton.1 h ▸ hS1.ep) true (by simp) ?_)
    | (at_delete; refine wpList_del rfl _ _ rfl rfl (N + 3) rfl hS2 hS2.ep hS2.plains hS2.out ?_; intro w2 hS3 hX3; have e1 := hS3.e1; have c10 := hS3.c10; have f10 := hS3.jp.frozen 10))
  have hS4 := hS3.setAw (aw - 1)
  refine leaves_cons (f := 6) (args := #[.pointer (some ⟨N + 2, 2, none⟩)]) (by simp) (by simp [go_sem]) ?_
  refine (unlock_st hS4).mono ?_
  rintro e u' w'' ⟨rfl, rfl, hS5, hX5⟩
  have := hS1.lt
  exact ⟨_, results_none rfl _ _ _, rfl, hS5, (((hX1.alloc (by omega) _ _).trans hX3).setCell (show N ≤ N + 2 by omega) _).trans hX5⟩

set_option maxHeartbeats 1600000 in
/-- e is announced and is the last that is awaited: the channel is closed. -/
theorem cancel_last (hS : St N k true (os ++ [N + 3]) os 0 1 false w) :
    Calls Yba.prog 4 #[pt (N + 3)] w fun e w' => e = .returned (.tuple #[]) ∧ St N k true os os 0 0 true w' ∧ Ext N w w' := by
  have e0 := hS.e0
  go_enter_defers Yba.func4, Yba.ntmps4
  go_wp2_with fail
  refine (lock_st hS).mono ?_
  rintro e w1 ⟨rfl, hS1, hX1⟩
  have c9 := hS1.c9
  have hS2 := hS1.alloc (.cells #[] 26)
  have c9' := hS2.c9
  go_wp2_with (first
    | (at_lookup; refine wpList_get rfl _ _ rfl rfl (N + 3) rfl hS1 hS1.ep (by intro b hb; rcases List.mem_append.1 hb with h | h; exact hS1.plains b h; exact List.mem_singleton.1 h ▸ hS1.ep) true (by simp) ?_)
    | (at_delete; refine wpList_del rfl _ _ rfl rfl (N + 3) rfl hS2 hS2.ep hS2.plains hS2.out ?_; intro w2 hS3 hX3; have e1 := hS3.e1; have c10 := hS3.c10; have f10 := hS3.jp.frozen 10; have hS4 := hS3.setAw 0; have c11 := hS4.c11; obtain ⟨w3, hcl, hS5, hX5⟩ := hS4.close #[24] 0))
  refine leaves_cons (f := 6) (args := #[.pointer (some ⟨N + 2, 2, none⟩)]) (by simp) (by simp [go_sem]) ?_
  refine (unlock_st hS5).mono ?_
  rintro e u' w'' ⟨rfl, rfl, hS6, hX6⟩
  have := hS1.lt
  exact ⟨_, results_none rfl _ _ _, rfl, hS6, ((((hX1.alloc (by omega) _ _).trans hX3).setCell (show N ≤ N + 2 by omega) _).trans hX5).trans hX6⟩
end
end Go.Proofs.Ybulkcpzm
