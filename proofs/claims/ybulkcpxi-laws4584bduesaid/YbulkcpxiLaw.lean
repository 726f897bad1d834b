/-
  LawS4584BDue over this program.
-/
import Derived.Test.YbulkcpxiLay
namespace Go.Proofs.Ybulkcpxi
open Go.RowKit
set_option linter.unusedVariables false

set_option maxRecDepth 100000 in
set_option maxHeartbeats 16000000 in
theorem law_in (tr last park : Bool) (ca : Option Addr) (nc cc : Nat) (C : Nat → Bool) (kk pvn : Nat) (pa : Option Addr) (np pc : Nat) (P : Nat → Int) (w : World)
    (hkk : kk < 18446744073709551616) (hpv : pvn < 18446744073709551616) (hnc : nc ≤ 1024) (hnp : np ≤ 1024)
    (hC : ∀ j, j < nc → ∃ a, ca = some a ∧ a.block < w.heap.size ∧ w.cell? (a.add j) = some (.bool (C j)))
    (hP : ∀ j, j < np → ∃ a, pa = some a ∧ a.block < w.heap.size ∧ w.cell? (a.add j) = some (.int .u8 (P j)) ∧ 0 ≤ P j ∧ P j < 256) :
    Calls Yba.prog 4 #[.bool tr, .slice ca nc cc, .bool last, .int .u64 (kk : Int), .int .u64 (pvn : Int), .bool park, .slice pa np pc] w fun e w' => e = .returned (.bool true) ∧ Below w.heap.size w w' := by
  have HC : Hid (∀ j, j < nc → ∃ a, ca = some a ∧ a.block < w.heap.size ∧ w.cell? (a.add j) = some (.bool (C j))) := hC
  have HP : Hid (∀ j, j < np → ∃ a, pa = some a ∧ a.block < w.heap.size ∧ w.cell? (a.add j) = some (.int .u8 (P j)) ∧ 0 ≤ P j ∧ P j < 256) := hP
  clear hC hP
  obtain ⟨has, hhas⟩ : ∃ has : Nat → Bool, has = fun t => if t = nc then last else C t := ⟨_, rfl⟩
  have HH : Hid (has nc = last ∧ ∀ t, t ≠ nc → has t = C t) := ⟨by rw [hhas]; simp, fun t ht => by rw [hhas]; simp [ht]⟩
  clear hhas
  obtain ⟨m, hm⟩ : ∃ m, m = nc + 1 := ⟨_, rfl⟩
  have hmi : (nc : Int) + 1 = (m : Int) := by omega
  have n1 : ¬ (1024 : Int) < (nc : Int) := by omega
  have n2 : ¬ (1024 : Int) < (np : Int) := by omega
  have k43 := mk_any 43 51 z51 8 72 Yba.underlying43 info51 (by omega) m (by omega)
  have k35 := mk_any 35 4 (.bool false) 1 1 Yba.underlying35 info4 (by omega) m (by omega)
  have hm1 : m ≤ 1025 := by omega
  have HM : Hid (m = nc + 1) := hm
  clear hm
  go_enter Yba.func4, Yba.ntmps4
  go_wp2
  clear k43 k35
  go_loopw [21] (fun iv wr => ∃ k : Nat, iv = .int .i64 (k : Int) ∧ k ≤ m ∧ L1 w wr m k has) (fun iv _ => m - (intOf iv).toNat)
  case atStart => exact ⟨0, rfl, by omega, L1.start w m has⟩
  case round =>
    obtain ⟨k, rfl, hk, hL⟩ := hrel
    by_cases hkm : k < m
    · have hkmi : (k : Int) < (m : Int) := by omega
      have hstep := fun w2 g => hL.step hkm (w2 := w2) g
      obtain ⟨o2, ho2⟩ := Option.isSome_iff_exists.1 (hL.2.2.2.2.2.1 k hkm).1
      have hf2 := (hL.2.2.2.2.2.1 k hkm).2
      rw [Nat.zero_add] at ho2 hf2
      have hsz := hL.2.2.2.2.2.2
      have BEL : Hid (Below w.heap.size w wr) := hL.1
      have HS : Hid (∀ w2, (wr.setCell ⟨w.heap.size + 2, k, none⟩ (.bool (has k))).grownBy w2 none → _) := hstep
      clear hL hstep
      have key : (((k : Int) == (nc : Int)) = true ∧ has k = last) ∨ (∃ a, ((k : Int) == (nc : Int)) = false ∧ (k : Int) < (nc : Int) ∧ ca = some a ∧ wr.cell? (a.add k) = some (.bool (has k))) := by
        by_cases e : k = nc
        · exact Or.inl ⟨by rw [e]; simp, by rw [e]; exact HH.out.1⟩
        · right
          have hM := HM.out
          obtain ⟨a, ha, hb, hc⟩ := HC.out k (by omega)
          exact ⟨a, beq_eq_false_iff_ne.2 (by omega), by omega, ha, by rw [BEL.out.cell (by rw [add_block]; exact hb), hc, HH.out.2 k e]⟩
      rcases key with ⟨hq, hl⟩ | ⟨a, hq, hlt, rfl, hca⟩
      · rw [hl] at HS
        go_wp2_with fail
        refine (name_any k (by omega) _).mono ?_
        rintro e w2 ⟨rfl, g⟩
        obtain ⟨t3, f1, f2, f3, L0, LT⟩ := HS.out w2 g
        have f4 := f3 (k * 8 + 2) (by omega)
        have LL : Hid ((last = false → L1 w (w2.setCells (w.heap.size + 1) (k * 8) (step0 w.heap.size (nm k)).toList) m (k + 1) has) ∧ (last = true → L1 w ((w2.setCells (w.heap.size + 1) (k * 8) (step0 w.heap.size (nm k)).toList).setCell ⟨w.heap.size + 1, k * 8 + 2, none⟩ (.func (.func 9) #[] #[.pointer (some ⟨w.heap.size, 0, none⟩)])) m (k + 1) has)) := ⟨L0, LT⟩
        clear L0 LT g HS f3
        generalize nm k = s at *
        obtain ⟨x1, x2, x3, x4, x5, x6, x7, o0, o1, o2, o3, o4, o5, o6, o7, q0, q1, q2, q3, q4, q5, q6, q7, p0, p1, p2, p3, p4, p5, p6, p7, r0, r1, r2, r3, r4, r5, r6, r7⟩ := store8 w2 (w.heap.size + 1) (k * 8) (.string s) (.func (.func 10) #[] #[.pointer (some ⟨w.heap.size, 0, none⟩)]) .nilFunc (.int .i64 0) (.int .i64 0) (.float .f64 0) (.int .i64 0) (.int .i64 0) t3
        have eW : w2.setCells (w.heap.size + 1) (k * 8) (step0 w.heap.size s).toList = w2.setCells (w.heap.size + 1) (k * 8) [.string s, .func (.func 10) #[] #[.pointer (some ⟨w.heap.size, 0, none⟩)], .nilFunc, .int .i64 0, .int .i64 0, .float .f64 0, .int .i64 0, .int .i64 0] := rfl
        rw [eW] at LL f1 f2 f4
        clear eW t3
        generalize w2.setCells (w.heap.size + 1) (k * 8) [.string s, .func (.func 10) #[] #[.pointer (some ⟨w.heap.size, 0, none⟩)], .nilFunc, .int .i64 0, .int .i64 0, .float .f64 0, .int .i64 0, .int .i64 0] = w3 at *
        have kf := ksf
        cases last
        · go_wp2
          exact ⟨⟨k + 1, by simp, by omega, by simpa using LL.out⟩, by simp [intOf]; omega⟩
        · go_wp2
          exact ⟨⟨k + 1, by simp, by omega, by simpa using LL.out⟩, by simp [intOf]; omega⟩
      · generalize has k = b at hca HS
        go_wp2_with fail
        refine (name_any k (by omega) _).mono ?_
        rintro e w2 ⟨rfl, g⟩
        obtain ⟨t3, f1, f2, f3, L0, LT⟩ := HS.out w2 g
        have f4 := f3 (k * 8 + 2) (by omega)
        have LL : Hid ((b = false → L1 w (w2.setCells (w.heap.size + 1) (k * 8) (step0 w.heap.size (nm k)).toList) m (k + 1) has) ∧ (b = true → L1 w ((w2.setCells (w.heap.size + 1) (k * 8) (step0 w.heap.size (nm k)).toList).setCell ⟨w.heap.size + 1, k * 8 + 2, none⟩ (.func (.func 9) #[] #[.pointer (some ⟨w.heap.size, 0, none⟩)])) m (k + 1) has)) := ⟨L0, LT⟩
        clear L0 LT g HS f3
        generalize nm k = s at *
        obtain ⟨x1, x2, x3, x4, x5, x6, x7, o0, o1, o2, o3, o4, o5, o6, o7, q0, q1, q2, q3, q4, q5, q6, q7, p0, p1, p2, p3, p4, p5, p6, p7, r0, r1, r2, r3, r4, r5, r6, r7⟩ := store8 w2 (w.heap.size + 1) (k * 8) (.string s) (.func (.func 10) #[] #[.pointer (some ⟨w.heap.size, 0, none⟩)]) .nilFunc (.int .i64 0) (.int .i64 0) (.float .f64 0) (.int .i64 0) (.int .i64 0) t3
        have eW : w2.setCells (w.heap.size + 1) (k * 8) (step0 w.heap.size s).toList = w2.setCells (w.heap.size + 1) (k * 8) [.string s, .func (.func 10) #[] #[.pointer (some ⟨w.heap.size, 0, none⟩)], .nilFunc, .int .i64 0, .int .i64 0, .float .f64 0, .int .i64 0, .int .i64 0] := rfl
        rw [eW] at LL f1 f2 f4
        clear eW t3
        generalize w2.setCells (w.heap.size + 1) (k * 8) [.string s, .func (.func 10) #[] #[.pointer (some ⟨w.heap.size, 0, none⟩)], .nilFunc, .int .i64 0, .int .i64 0, .float .f64 0, .int .i64 0, .int .i64 0] = w3 at *
        have kf := ksf
        cases b
        · go_wp2
          exact ⟨⟨k + 1, by simp, by omega, by simpa using LL.out⟩, by simp [intOf]; omega⟩
        · go_wp2
          exact ⟨⟨k + 1, by simp, by omega, by simpa using LL.out⟩, by simp [intOf]; omega⟩
    · obtain rfl : k = m := by omega
      clear hkm hk
      obtain ⟨W1, rfl⟩ : ∃ W : World, W = wr := ⟨_, rfl⟩
      obtain ⟨hB, h0, hst, hth, hhs, hth2, hsz⟩ := hL
      clear hth hth2
      have BEL : Hid (Below w.heap.size w W1) := hB
      have CALL : Hid (W1.cell? ⟨w.heap.size, 0, none⟩ = some (.int .i64 0)) := h0
      have ST : Hid (StepsAt W1 (w.heap.size + 1) k w.heap.size has) := hst
      have HAS : Hid (∀ t, t < k → W1.cell? ⟨w.heap.size + 2, t, none⟩ = some (.bool (has t))) := hhs
      clear hB h0 hst hhs
      have hM := HM.out
      obtain ⟨sel, hsel0⟩ : ∃ sel, sel = pvn % (k + 1) := ⟨_, rfl⟩
      have hsel : (pvn : Int) % ((k : Int) + 1) = (sel : Int) := by rw [hsel0]; exact (Int.natCast_emod pvn (k + 1)).symm
      have hsel1 : sel < k + 1 := by rw [hsel0]; exact Nat.mod_lt _ (by omega)
      obtain ⟨n, hn0⟩ : ∃ n, n = kk % k := ⟨_, rfl⟩
      have hn : (kk : Int) % (k : Int) = (n : Int) := by rw [hn0]; exact (Int.natCast_emod kk k).symm
      have hn1 : n < k := by rw [hn0]; exact Nat.mod_lt _ (by omega)
      have k1 : (k : Int) ≠ 0 := by omega
      have k2 : (k : Int) + 1 ≠ 0 := by omega
      clear hn0 hsel0 hM
      have k54 := mk_any 54 9 (.string ⟨#[]⟩) 1 16 Yba.underlying54 info9 (by omega) n (by omega)
      have kf := ksf
      have key : (((sel : Int) < (k : Int)) ∧ W1.cell? ⟨w.heap.size + 1, sel * 8, none⟩ = some (.string (nm sel)) ∧ Hid (PivAt k (nm sel) sel)) ∨ (¬ ((sel : Int) < (k : Int)) ∧ True ∧ Hid (PivAt k ⟨#[]⟩ k)) := by
        by_cases e : sel < k
        · exact Or.inl ⟨by omega, (ST.out sel e).1, Or.inl ⟨e, rfl⟩⟩
        · exact Or.inr ⟨by omega, trivial, Or.inr ⟨rfl, rfl⟩⟩
      rcases key with ⟨hlt, hcs, PV⟩ | ⟨hlt, hcs, PV⟩
      all_goals
        go_wp2_with fail
        clear hlt hcs k54 hsel hsel1 hn k1 k2
      generalize nm sel = pv at *
      rotate_left
      generalize (⟨#[]⟩ : ByteArray) = pv at *
      rotate_left
      all_goals
        go_loopw [28] (fun iv wr => ∃ j : Nat, iv = .int .i64 (j : Int) ∧ j ≤ n ∧ L2 W1 wr (w.heap.size + 1) k pv n j) (fun iv _ => n - (intOf iv).toNat)
        case atStart => exact ⟨0, rfl, by omega, L2.start _ _ _ _ _ _ (rowOf_size _ _)⟩
        case round =>
          obtain ⟨j, rfl, hj, hL2⟩ := hrel
          by_cases hjn : j < n
          · have hjni : (j : Int) < (n : Int) := by omega
            have L2H : Hid (L2 W1 wr (w.heap.size + 1) k pv n j) := hL2
            have hs2 := hL2.2.2.2
            clear hL2
            go_wp2_with fail
            refine (name_any j (by omega) _).mono ?_
            rintro e w2 ⟨rfl, g⟩
            obtain ⟨⟨u, hu⟩, hf, L3⟩ := L2H.out.step hjn g
            have L3H : Hid (L2 W1 (w2.setCell ⟨W1.heap.size + 1, j, none⟩ (.string (nm j))) (w.heap.size + 1) k pv n (j + 1)) := L3
            clear L3 g L2H
            generalize nm j = s at *
            go_wp2
            exact ⟨⟨j + 1, by simp, by omega, L3H.out⟩, by simp [intOf]; omega⟩
          · obtain rfl : n = j := by omega
            clear hj hjn
            obtain ⟨W2, rfl⟩ : ∃ W : World, W = wr := ⟨_, rfl⟩
            have L2H : Hid (L2 W1 W2 (w.heap.size + 1) k pv n n) := hL2
            have hs2 := hL2.2.2.2
            have HW2 : Hid (Below w.heap.size w W2) := BEL.out.trans (hL2.below.mono (by omega))
            clear hL2
            go_wp2_with fail
            go_loopw [29, 30] (fun dv iv wr => ∃ i : Nat, iv = .int .i64 (i : Int) ∧ i ≤ np ∧ Is wr W2.heap.size dv (preL P i) ∧ Below W2.heap.size W2 wr) (fun _ iv _ => np - (intOf iv).toNat)
            case atStart => exact ⟨0, rfl, by omega, World.ownsRow_nil _ _ _ _, Below.refl _ _⟩
            case round =>
              obtain ⟨i, rfl, hi, his, hB3⟩ := hrel
              by_cases hin : i < np
              · have hini : (i : Int) < (np : Int) := by omega
                obtain ⟨a, ha, hab, hac, hp0, hp1⟩ := HP.out i hin
                obtain rfl := ha
                have hac' : wr.cell? (a.add i) = some (.int .u8 (P i)) := (hB3.cell (by rw [add_block]; omega)).trans ((HW2.out.cell (by rw [add_block]; exact hab)).trans hac)
                obtain ⟨v', w', hap, is', g'⟩ := push_int his hB3.size (by rw [preL_len]; omega) (P i)
                rw [← preL_succ] at is'
                have HA : Hid ((Builtin.append_ #[55, 55] 55 #[u29, .slice (some ⟨wr.heap.size, 0, none⟩) 1 1]).run Yba.prog (wr.alloc (.cells #[.int .i64 (P i)] 3)) = .ok v' w') := hap
                have IS' : Hid (Is w' W2.heap.size v' (preL P (i + 1))) := is'
                have hB' : Below W2.heap.size W2 w' := (hB3.alloc hB3.size _).grown g' (by simp; have := hB3.size; omega) (fun k hk => (his.row k hk).1)
                clear hap is' g' his hac
                generalize P i = z at *
                go_wp2_with (at_builtin; refine wpList_app rfl (.tmp 133) (.tmp 139) 55 rfl rfl _ _ _ w' rfl rfl HA.out ?_)
                exact ⟨⟨i + 1, by simp, by omega, IS'.out, hB'⟩, by simp [intOf]; omega⟩
              · obtain rfl : np = i := by omega
                clear hi hin
                obtain ⟨W3, rfl⟩ : ∃ W : World, W = wr := ⟨_, rfl⟩
                obtain ⟨a3, q3, hv3, _⟩ := his.shape
                rw [preL_len] at hv3
                obtain rfl := hv3
                have hs3 := hB3.size
                have W13 : Hid (Below W1.heap.size W1 W3) := L2H.out.below.trans (hB3.mono (by omega))
                have sg := fun i => (hB3.cell (p := ⟨W1.heap.size, i, none⟩) (by simp; omega)).trans (L2H.out.saga i)
                have s0 := sg 0
                have s1 := sg 1
                have s2 := sg 2
                have s3 := sg 3
                have s4 := sg 4
                have s5 := sg 5
                have s6 := sg 6
                have s7 := sg 7
                have s8 := sg 8
                clear sg
                simp [sagaArr] at s0 s1 s2 s3 s4 s5 s6 s7 s8
                have hz : W1.heap.size < W3.heap.size := by omega
                have IS3 : Hid (Is W3 W2.heap.size (.slice a3 np q3) (preL P np)) := his
                have HB3 : Hid (Below W2.heap.size W2 W3) := hB3
                clear his hB3
                go_wp2_with fail
                obtain ⟨c, hc, hcc⟩ := comp_cases (n := n) (tr := tr) PV.out
                obtain ⟨N, hN⟩ : ∃ N, N = n + tr.toNat := ⟨_, rfl⟩
                refine (fail_any _ (w.heap.size + 1) k w.heap.size has pv _ tr W2.heap.size W3.heap.size (some ⟨W1.heap.size + 1, 0, none⟩) n (.slice a3 np q3) (preL P np) park
                  (ST.out.below (W13.out.alloc (by omega) _) (by omega)) (by omega) hm1 PV.out hn1 hs3 (heap_alloc_new _ _) (World.ownsRow.alloc IS3.out _) (by rw [preL_len]; omega) c hc N hN).mono ?_
                rintro e W4 ⟨rfl, hB4, v4, is4, po4⟩
                clear s0 s1 s2 s3 s4 s5 s6 s7 s8 hc
                have hW4 : Below W2.heap.size W2 W4 := (HB3.out.alloc hs3 _).trans hB4
                have W14 : Hid (Below W1.heap.size W1 W4) := L2H.out.below.trans (hW4.mono (by omega))
                have hcall : W4.cell? ⟨w.heap.size, 0, none⟩ = some (.int .i64 0) := (W14.out.cell (p := ⟨w.heap.size, 0, none⟩) (by simp; omega)).trans CALL.out
                have RES : Hid (∀ t, t < n → W4.cell? ⟨W1.heap.size + 1, t, none⟩ = some (.string (nm t))) := fun t ht => (hW4.cell (p := ⟨W1.heap.size + 1, t, none⟩) (by simp; omega)).trans (L2H.out.2.1 t ht)
                have HS4 : Hid (∀ t, t < k → W4.cell? ⟨w.heap.size + 2, t, none⟩ = some (.bool (has t))) := fun t ht => (W14.out.cell (p := ⟨w.heap.size + 2, t, none⟩) (by simp; omega)).trans (HAS.out t ht)
                have HW4 : Hid (Below w.heap.size w W4) := HW2.out.trans (hW4.mono (by have := HW2.out.size; omega))
                obtain ⟨c0, c1, c2, c3, c4, c5, cf, hps4⟩ := po4.cell
                obtain ⟨a4, q4, hv4, hcells4⟩ := is4.shape
                obtain ⟨Lt, hLt⟩ : ∃ Lt, Lt = (preL P np ++ if c = true then dueL has N else []).length := ⟨_, rfl⟩
                rw [← hLt] at hv4 hcells4
                obtain rfl := hv4
                have hLt0 : np ≤ Lt := by rw [hLt, List.length_append, preL_len]; omega
                have hLt1 : ¬ (Lt : Int) < (np : Int) := by omega
                have hLt2 : (decide (Lt < np)) = false := decide_eq_false (by omega)
                have hsw : w.heap.size ≤ W4.heap.size := HW4.out.size
                have hs14 : W1.heap.size + 1 < W4.heap.size := by have := hW4.size; omega
                have DUE : Hid (∀ j, j < Lt → ∃ g, a4 = some ⟨g, 0, none⟩ ∧ W4.cell? ⟨g, j, none⟩ = some (.int .i64 ((preL P np ++ if c = true then dueL has N else []).getD j 0))) := hcells4
                have HLT : Hid (Lt = (preL P np ++ if c = true then dueL has N else []).length) := hLt
                have HN : Hid (N = n + tr.toNat ∧ N ≤ k) := ⟨hN, by rw [hN]; cases tr <;> simp <;> omega⟩
                have HCC : Hid _ := hcc
                have PO : Hid (Pos W4 W3.heap.size (some ⟨W1.heap.size + 1, 0, none⟩) n c (!c) (.slice a4 Lt q4) park) := po4
                clear hcells4 hLt is4 po4 hB4 hN hcc hW4
                go_wp2_with fail
                clear hcall c0 c1 c2 c3 c4 c5 cf
                go_loopw [32] (fun iv wr => ∃ i : Nat, iv = .int .i64 (i : Int) ∧ i ≤ n ∧ Below W4.heap.size W4 wr) (fun iv _ => n - (intOf iv).toNat)
                case atStart => exact ⟨0, rfl, by omega, Below.refl _ _⟩
                case round =>
                  obtain ⟨i, rfl, hi, hB5⟩ := hrel
                  have hs5 := hB5.size
                  by_cases hin : i < n
                  · have hini : (i : Int) < (n : Int) := by omega
                    have f0 : ∀ x : BW wr.heap.size wr, x.val.cell? ⟨W3.heap.size, 0, none⟩ = some (.slice (some ⟨W1.heap.size + 1, 0, none⟩) n n) := fun x => (x.ok.cell (p := ⟨W3.heap.size, 0, none⟩) (by simp; omega)).trans ((hB5.cell (p := ⟨W3.heap.size, 0, none⟩) hps4).trans PO.out.cell.1)
                    have f1 : ∀ x : BW wr.heap.size wr, x.val.cell? ⟨W1.heap.size + 1, i, none⟩ = some (.string (nm i)) := fun x => (x.ok.cell (p := ⟨W1.heap.size + 1, i, none⟩) (by simp; omega)).trans ((hB5.cell (p := ⟨W1.heap.size + 1, i, none⟩) (by simp; omega)).trans (RES.out i hin))
                    have hne : Nonempty (BW wr.heap.size wr) := ⟨⟨_, Below.refl _ _⟩⟩
                    have KC : Hid (∀ x : BW wr.heap.size wr, Calls Yba.prog 11 #[.int .i64 i] x.val fun e w'' => e = .returned (.string (nm i)) ∧ ∃ y : BW wr.heap.size wr, w'' = y.val) := fun x => name_quiet i (by omega) x
                    generalize nm i = s at *
                    go_wp2
                    refine region_below (B := wr.heap.size) (by kernel_rfl) ?_
                    repeat (first | go_big_quiet_step ((go_at_call 11; exact KC.out _)) | quiet_step ((go_at_call 11; exact KC.out _)))
                    refine wpQuiet_nil ?_
                    rintro _ ⟨x, rfl⟩
                    go_wp2
                    exact ⟨⟨i + 1, by simp, by omega, hB5.trans (x.ok.mono hs5)⟩, by simp [intOf]; omega⟩
                  · obtain rfl : n = i := by omega
                    clear hi hin
                    obtain ⟨W5, rfl⟩ : ∃ W : World, W = wr := ⟨_, rfl⟩
                    have d3 : W5.cell? ⟨W3.heap.size, 3, none⟩ = some (.slice a4 Lt q4) := (hB5.cell (p := ⟨W3.heap.size, 3, none⟩) hps4).trans PO.out.cell.2.2.2.1
                    go_wp2_with fail
                    clear d3
                    go_loopw [33] (fun iv wr => ∃ i : Nat, iv = .int .i64 (i : Int) ∧ i ≤ np ∧ Below W4.heap.size W4 wr) (fun iv _ => np - (intOf iv).toNat)
                    case atStart => exact ⟨0, rfl, by omega, hB5⟩
                    case round =>
                      clear hB5 hs5
                      obtain ⟨i, rfl, hi, hB5⟩ := hrel
                      have hs5 := hB5.size
                      by_cases hin : i < np
                      · have hini : (i : Int) < (np : Int) := by omega
                        have hinl : (i : Int) < (Lt : Int) := by omega
                        obtain ⟨a, ha, hab, hac, hp0, hp1⟩ := HP.out i hin
                        obtain ⟨g, hg, hgc⟩ := DUE.out i (by omega)
                        rw [preL_get P np _ i hin] at hgc
                        have hgl := World.block_lt_of_cell? W4 _ hgc
                        obtain rfl := ha
                        have HG : Hid (a4 = some ⟨g, 0, none⟩) := hg
                        clear hg
                        have f0 : ∀ x : BW wr.heap.size wr, x.val.cell? ⟨W3.heap.size, 3, none⟩ = some (.slice (some ⟨g, 0, none⟩) Lt q4) := fun x => by
                          rw [← HG.out]
                          exact (x.ok.cell (p := ⟨W3.heap.size, 3, none⟩) (by simp; omega)).trans ((hB5.cell (p := ⟨W3.heap.size, 3, none⟩) hps4).trans PO.out.cell.2.2.2.1)
                        have f1 : ∀ x : BW wr.heap.size wr, x.val.cell? ⟨g, i, none⟩ = some (.int .i64 (P i)) := fun x => (x.ok.cell (p := ⟨g, i, none⟩) (by simp at hgl ⊢; omega)).trans ((hB5.cell (p := ⟨g, i, none⟩) hgl).trans hgc)
                        have f2 : ∀ x : BW wr.heap.size wr, x.val.cell? (a.add i) = some (.int .u8 (P i)) := fun x => (x.ok.cell (by rw [add_block]; omega)).trans ((hB5.cell (by rw [add_block]; omega)).trans ((HW4.out.cell (by rw [add_block]; exact hab)).trans hac))
                        have hne : Nonempty (BW wr.heap.size wr) := ⟨⟨_, Below.refl _ _⟩⟩
                        clear hac hgc
                        generalize P i = z at *
                        go_wp2
                        refine region_below (B := wr.heap.size) (by kernel_rfl) ?_
                        repeat (first | go_big_quiet_step (fail) | quiet_step (fail))
                        refine wpQuiet_nil ?_
                        rintro _ ⟨x, rfl⟩
                        go_wp2
                        exact ⟨⟨i + 1, by simp, by omega, hB5.trans (x.ok.mono hs5)⟩, by simp [intOf]; omega⟩
                      · obtain rfl : np = i := by omega
                        clear hi hin
                        obtain ⟨W6, rfl⟩ : ∃ W : World, W = wr := ⟨_, rfl⟩
                        have pc := PO.out.cell
                        have d1 := (hB5.cell (p := ⟨W3.heap.size, 1, none⟩) hps4).trans pc.2.1
                        have d2 := (hB5.cell (p := ⟨W3.heap.size, 2, none⟩) hps4).trans pc.2.2.1
                        have d3 := (hB5.cell (p := ⟨W3.heap.size, 3, none⟩) hps4).trans pc.2.2.2.1
                        clear pc
                        have HB5 : Hid (Below W4.heap.size W4 W6) := hB5
                        have HF : Hid (Below w.heap.size w W6) := HW4.out.trans (hB5.mono hsw)
                        clear hB5
                        have hcc := HCC.out
                        rcases hcc with ⟨rfl, h1⟩ | ⟨rfl, h1, rfl, h2⟩ | ⟨rfl, h1, rfl⟩ | ⟨rfl, h1, rfl, h2⟩
                        · first
                          | (exfalso; omega)
                          | (have hLe : Lt = np := by have := HLT.out; simp [preL_len] at this; exact this
                             subst hLe
                             simp only [Bool.not_false] at d2
                             go_wp2
                             go_ret
                             exact ⟨rfl, HF.out⟩)
                        · first
                          | (exfalso; have h3 := eq_of_beq h2; omega)
                          | (have hLe : Lt = np := by have := HLT.out; simp [preL_len] at this; exact this
                             subst hLe
                             simp only [Bool.not_false] at d2
                             go_wp2
                             go_ret
                             exact ⟨rfl, HF.out⟩)
                        all_goals
                          simp only [Bool.not_true] at d2
                          have hNk := HN.out.2
                          have hN0 := HN.out.1
                          simp only [Bool.toNat_false, Bool.toNat_true, Nat.add_zero] at hN0
                          have hlt2 : Lt = (preL P np ++ dueL has N).length := by have := HLT.out; simpa using this
                          have HLT2 : Hid (Lt = (preL P np ++ dueL has N).length) := hlt2
                          clear hlt2
                          have due2 : ∀ j, j < Lt → ∃ g, a4 = some ⟨g, 0, none⟩ ∧ W4.cell? ⟨g, j, none⟩ = some (.int .i64 ((preL P np ++ dueL has N).getD j 0)) := fun j hj => by
                            obtain ⟨g, h1, h2⟩ := DUE.out j hj
                            rw [if_pos rfl] at h2
                            exact ⟨g, h1, h2⟩
                          have DUE2 : Hid (∀ j, j < Lt → ∃ g, a4 = some ⟨g, 0, none⟩ ∧ W4.cell? ⟨g, j, none⟩ = some (.int .i64 ((preL P np ++ dueL has N).getD j 0))) := due2
                          clear due2
                          have hLt3 : Lt ≤ 4000 := by have := HLT2.out; have h4 := dueL_len has N; rw [List.length_append, preL_len] at this; omega
                          clear HLT DUE HN HCC
                          go_wp2
                          clear d1 d2 d3
                          go_loopw [36, 37] (fun jv iv wr => ∃ (t : Nat) (dn : List Int) (jj : Nat), iv = .int .i64 ((t : Int) - 1) ∧ t ≤ k ∧ jv = .int .i64 (jj : Int) ∧ jj = np + dn.length ∧ jj ≤ Lt ∧ dueL has N = dn ++ dueL has t ∧ Below W4.heap.size W4 wr) (fun _ iv _ => (intOf iv + 1).toNat)
                          case atStart => exact ⟨N, [], np, by rw [hN0]; first | done | rfl | (congr 1; omega) | (congr 1), hNk, rfl, rfl, hLt0, rfl, HB5.out⟩
                          case round =>
                            obtain ⟨t, dn, jj, rfl, ht, rfl, hjj, hjl, hdn, hB6⟩ := hrel
                            have HJ : Hid (jj = np + dn.length) := hjj
                            have HD : Hid (dueL has N = dn ++ dueL has t) := hdn
                            clear hjj hdn
                            have pc := PO.out.cell
                            have d3 := (hB6.cell (p := ⟨W3.heap.size, 3, none⟩) hps4).trans pc.2.2.2.1
                            clear pc
                            have HF2 : Hid (Below w.heap.size w wr) := HW4.out.trans (hB6.mono hsw)
                            cases t with
                            | zero =>
                              have hJL : Lt = jj := by
                                have h1 := HJ.out
                                have h2 := HD.out
                                have h3 := HLT2.out
                                rw [h3, h1, h2, List.length_append, preL_len]
                                simp [dueL]
                              subst hJL
                              go_wp2
                              go_ret
                              exact ⟨rfl, HF2.out⟩
                            | succ s =>
                              have e : ((s + 1 : Nat) : Int) - 1 = (s : Int) := by omega
                              rw [e]
                              have hsk : (s : Int) < (k : Int) := by omega
                              have hhc : wr.cell? ⟨w.heap.size + 2, s, none⟩ = some (.bool (has s)) := (hB6.cell (p := ⟨w.heap.size + 2, s, none⟩) (by simp; omega)).trans (HS4.out s (by omega))
                              have hh : has s = true ∨ has s = false := by cases has s <;> simp
                              rcases hh with hh | hh
                              · rw [hh] at hhc
                                obtain ⟨g1, g2, g3⟩ := due_get (P := P) (np := np) HD.out hh
                                rw [← HJ.out] at g1 g2
                                rw [← HLT2.out] at g2
                                obtain ⟨g, hg, hgc⟩ := DUE2.out jj g2
                                rw [g1] at hgc
                                have hgl := World.block_lt_of_cell? W4 _ hgc
                                rw [hg] at d3
                                clear hg
                                have hgc' := (hB6.cell (p := ⟨g, jj, none⟩) hgl).trans hgc
                                have hjl2 : (jj : Int) < (Lt : Int) := by omega
                                have G3 : Hid (dueL has N = (dn ++ [(s : Int)]) ++ dueL has s) := g3
                                clear g1 g3 hgc e
                                go_wp2
                                have hj2 : jj + 1 = np + (dn ++ [(s : Int)]).length := by have h := HJ.out; rw [List.length_append, List.length_singleton]; omega
                                have hj3 : jj + 1 ≤ Lt := by omega
                                have hsk2 : s ≤ k := by omega
                                have hg3 := G3.out
                                rw [hN0] at hg3
                                exact ⟨⟨u14, .int .i64 ((jj : Int) + 1), .int .i64 ((s : Int) - 1), ⟨s, rfl, hsk2, dn ++ [(s : Int)], jj + 1, by first | rfl | go_num | simp, hj2, hj3, hg3⟩, rfl, rfl, rfl⟩, by first | (simp [intOf]; done) | (simp [intOf]; omega) | (simp only [intOf]; omega)⟩
                              · rw [hh] at hhc
                                have g3 : dueL has N = dn ++ dueL has s := by
                                  have h := HD.out
                                  simp only [dueL, hh] at h
                                  simpa using h
                                have G3 : Hid (dueL has N = dn ++ dueL has s) := g3
                                clear g3
                                clear e
                                go_wp2
                                exact ⟨⟨s, dn, jj, by go_num, by omega, rfl, HJ.out, hjl, G3.out, hB6⟩, by simp [intOf] <;> omega⟩
end Go.Proofs.Ybulkcpxi
