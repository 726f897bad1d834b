/-
  THE LAW's WALK: e is announced and the last that is awaited.
-/
import Derived.Test.YbulkcpzmMore
namespace Go.Proofs.Ybulkcpzm
open Go.RowKit Go.MuLone Go.Conc

set_option maxHeartbeats 8000000 in
set_option maxRecDepth 100000 in
theorem law_last (a0 a1 : Int) (a4 : Bool) (k N : Nat) (hk : wrap64 (a0.tmod 8) = (k : Int)) (hk8 : k < 8) (hb : wrap64 (a1.tmod 4) = 0) (w : World) (hN : w.heap.size = N) :
    Calls Yba.prog 3 #[.int .u8 a0, .int .u8 a1, .bool true, .bool true, .bool a4] w fun e w' => e = .returned (.bool true) ∧ Ext N w w' := by
  have hmm := @run_makeMap Yba.prog
  have hmc := mk24
  have hms := fun w => mk42 w k hk8
  have n2 : N + 1 + 1 = N + 2 := rfl
  have n3 : N + 2 + 1 = N + 3 := rfl
  have n4 : N + 3 + 1 = N + 4 := rfl
  go_enter Yba.func3, Yba.ntmps3
  go_wp2_with fail
  clear hmm hmc hms
  go_loopw [15, 16] (fun sv iv wr => ∃ os : List Nat, sv = .slice (some ⟨N + 4, 0, none⟩) os.length k ∧ iv = .int .i64 (os.length : Int) ∧ St N k true os os 0 0 false wr ∧ Ext N w wr) (fun _ iv _ => k - (intOf iv).toNat)
  case atStart =>
    have h := St.start w k true N hN #[Value.string { data := #[] }, Value.pointer none, Value.int IntKind.i32 0, Value.int IntKind.u32 0, Value.int IntKind.i64 0, Value.int IntKind.i64 0, Value.slice none 0 0, Value.nilIface, Value.map none, Value.map (some N), Value.int IntKind.i64 0, Value.chan (some (N + 1)), Value.int IntKind.i32 0, Value.int IntKind.u32 0, Value.int IntKind.i64 0] rfl rfl rfl rfl
    exact ⟨[], rfl, rfl, h.1, h.2⟩
  case round =>
    obtain ⟨os, rfl, rfl, hS, hX⟩ := hrel
    by_cases hlt : os.length < k
    · have hlti : (os.length : Int) < (k : Int) := by omega
      have c9 : ∀ o, (wr.alloc o).cell? ⟨N + 2, 9, none⟩ = some (.map (some N)) := fun o => (hS.alloc o).c9
      have SH : Hid (St N k true os os 0 0 false wr) := hS
      have XH : Hid (Ext N w wr) := hX
      have hwr : wrap64 ((os.length : Int) + 1) = (os.length : Int) + 1 := by unfold wrap64; omega
      have hsz := hS.lt
      have hnm : wr.heap.size ∉ os := fun hm => Nat.lt_irrefl _ (hS.plains _ hm).lt
      clear hS hX
      go_wp2_with (first
        | (at_mapUpdate; refine wpList_put rfl _ _ _ rfl rfl wr.heap.size rfl rfl (SH.out.alloc _) ⟨_, _, (MapKept.heap_alloc wr _).1⟩ (SH.out.alloc _).plains hnm ?_; intro w2 hS2 hX2 hs2 hh2;
           have hp2 : Plain w2 wr.heap.size := Plain.keep ⟨_, _, (MapKept.heap_alloc wr _).1⟩ (hh2 _ (by omega))
           obtain ⟨w4, hap, hS4, hX4⟩ := hS2.app hp2 (by omega) hnm hlt
           have HA : Hid ((Builtin.append_ #[42, 42] 42 #[.slice (some ⟨N + 4, 0, none⟩) os.length k, .slice (some ⟨w2.heap.size, 0, none⟩) 1 1]).run Yba.prog (w2.alloc (.cells #[pt wr.heap.size] 39)) = .ok (.slice (some ⟨N + 4, 0, none⟩) (os.length + 1) k) w4) := hap
           have S4 : Hid (St N k true (os ++ [wr.heap.size]) (os ++ [wr.heap.size]) 0 0 false w4) := hS4
           have X4 : Hid (Ext N w w4) := ((XH.out.alloc (by omega) _ _).trans hX2).trans hX4
           clear hap hS4 hX4 hS2 hX2 hh2 hp2 hs2 c9 hsz)
        | (at_builtin; refine wpList_app rfl (.tmp 64) (.tmp 66) 42 rfl rfl _ _ _ w4 rfl rfl HA.out ?_))
      exact ⟨⟨os ++ [wr.heap.size], by simp, by simp, S4.out, X4.out⟩, by simp [intOf]; omega⟩
    · have hlen : os.length = k := by have := hS.len; omega
      obtain ⟨W1, rfl⟩ : ∃ W : World, W = wr := ⟨_, rfl⟩
      clear hlt
      have c9 := hS.c9
      have X1 : Hid (Ext N w W1) := hX
      clear hX
      go_wp2_with (at_mapUpdate; refine wpList_put rfl _ _ _ rfl rfl (N + 3) rfl rfl hS hS.ep hS.plains hS.out ?_; intro w2 hS2 hX2 hs2 hh2; have c10 := hS2.c10; have f10 := hS2.jp.frozen 10; clear hs2 hh2)
      refine (cancel_last (hS2.setAw 1)).mono ?_
      rintro e w5 ⟨rfl, hS5, hX5⟩
      have X5 : Hid (Ext N w w5) := ((X1.out.trans hX2).setCell (show N ≤ N + 2 by omega) _).trans hX5
      clear hS2 hX2 X1 hX5 c9 c10 f10 hS
      cases a4
      rotate_left
      focus
        go_wp2_with fail
        refine (cancel_out hS5).mono ?_
        rintro e w6 ⟨rfl, hS6, hX6⟩
        have X6 : Hid (Ext N w w6) := X5.out.trans hX6
        clear hS5 hX6 X5
      rotate_left
      focus
        have hS6 := hS5
        have X6 := X5
        clear hS5 X5
      all_goals
        have c9 := hS6.c9
        have c10 := hS6.c10
        have hln := hS6.set.len
        have S6 : Hid (St N k true os os 0 0 true _) := hS6
        clear hS6
        go_wp2_with (at_lookup; refine wpList_get rfl _ _ rfl rfl (N + 3) rfl S6.out S6.out.ep S6.out.plains false (by simp [S6.out.out]) ?_)
        clear c9 c10 hln
        go_loopw [120] (fun iv wr => ∃ i : Nat, iv = .int .i64 (i : Int) ∧ i ≤ k ∧ St N k true os os 0 0 true wr ∧ Ext N w wr) (fun iv _ => k - (intOf iv).toNat)
        case atStart => exact ⟨0, rfl, by omega, S6.out.alloc _, X6.out.alloc (by have := S6.out.lt; omega) _ _⟩
        case round =>
          obtain ⟨i, rfl, hi, hS7, hX7⟩ := hrel
          by_cases hik : i < k
          · have hiki : (i : Int) < (k : Int) := by omega
            obtain ⟨x, hx, hcx⟩ := hS7.rowAt (i := i) (by omega)
            have c9 := hS7.c9
            have hwr : wrap64 ((i : Int) + 1) = (i : Int) + 1 := by unfold wrap64; omega
            have S7 : Hid (St N k true os os 0 0 true wr) := hS7
            have X7 : Hid (Ext N w wr) := hX7
            clear hS7 hX7
            go_wp2_with (at_lookup; refine wpList_get rfl _ _ rfl rfl x rfl S7.out (S7.out.plains x hx) S7.out.plains true (by simp [hx]) ?_)
            exact ⟨⟨i + 1, by simp, by omega, S7.out.alloc _, X7.out.alloc (by have := S7.out.lt; omega) _ _⟩, by simp [intOf]; omega⟩
          · obtain rfl : k = i := by omega
            clear hi hik
            obtain ⟨W7, rfl⟩ : ∃ W : World, W = wr := ⟨_, rfl⟩
            have e0 := hS7.e0
            have e1 := hS7.e1
            have hne := fun w => neq22 w (N + 2)
            have S7 : Hid (St N k true os os 0 0 true W7) := hS7
            have X7 : Hid (Ext N w W7) := hX7
            clear hS7 hX7 S6 X6
            go_wp2_with fail
            refine (try_st S7.out).mono ?_
            rintro e w8 ⟨rfl, hS8, hX8⟩
            have X8 : Hid (Ext N w w8) := X7.out.trans hX8
            have S8 : Hid (St N k true os os 1 0 true w8) := hS8
            clear hS8 hX8 X7 S7 e0 e1 hne
            go_wp2_with fail
            refine (unl_st S8.out).mono ?_
            rintro e w9 ⟨rfl, hS9, hX9⟩
            have X9 : Hid (Ext N w w9) := X8.out.trans hX9
            have S9 : Hid (St N k true os os 0 0 true w9) := hS9
            clear hS9 hX9 X8 S8
            have c11 := S9.out.c11
            dsimp only
            repeat (first | (with_reducible refine seq_to (id := 45) ?_) | go_values | go_skip | go_guarded | go_step | go_upon)
            intro K hK
            change OpsTo _ _ [0, 1, 2, 3, 4, 5, 6, 7, 8, 9, 10] _ _
            refine opsTo_value (v := pt (N + 2)) (w' := w9) rfl rfl (by go_simp) ?_
            go_simp
            refine opsTo_value (v := pt (N + 2)) (w' := w9) rfl rfl (by go_simp) ?_
            go_simp
            refine opsTo_value (v := .pointer (some ⟨N + 2, 11, none⟩)) (w' := w9) rfl rfl (by go_simp) ?_
            go_simp
            refine opsTo_value (v := .chan (some (N + 1))) (w' := w9) rfl rfl (by go_simp) ?_
            go_simp
            refine opsTo_shut (c := N + 1) (z := .agg #[]) (ok := true) rfl rfl (by simp [go_sem, execOp, rcase, Act.eval]) S9.out.chan ?_
            refine opsTo_rest 5 rfl ?_
            simp only [got, List.drop_succ_cons, List.drop_zero]
            go_simp
            go_wp2
            go_ret
            exact ⟨rfl, X9.out.alloc (by have := S9.out.lt; omega) _ _⟩
end Go.Proofs.Ybulkcpzm
