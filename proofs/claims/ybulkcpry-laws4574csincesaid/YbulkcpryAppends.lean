/-
  LawS4574CAppends: the walk.
-/
import Derived.Test.YbulkcprySt
namespace Go.Proofs.Ybulkcpry.lawS4574CAppends
open Go.RowKit
set_option linter.unusedVariables false

/-- The batches that came in. -/
def Batches (B : Nat) (w : World) (ba : Option Addr) (nb : Nat) (BA : Nat → Option Addr) (BL BC : Nat → Nat) (Ls : Nat → Nat → List Int) : Prop :=
  0 < nb → ∃ b off, ba = some ⟨b, off, none⟩ ∧ b < B ∧ ∀ j, j < nb → w.cell? ⟨b, off + j, none⟩ = some (.slice (BA j) (BL j) (BC j)) ∧ BL j ≤ 9223372036854775807 ∧ Rows B w (BA j) (BL j) (Ls j)

set_option maxRecDepth 100000 in
theorem out_long (pa : Option Addr) (np pc : Nat) (d : Int) (ba : Option Addr) (nb bc : Nat) (w : World) (hp : np ≤ 9223372036854775807) (hb : nb ≤ 9223372036854775807) (h : 1024 < np ∨ np ≤ 1024 ∧ 256 < nb) :
    Calls Yba.prog 3 #[.slice pa np pc, .int .i64 d, .slice ba nb bc] w fun e w' => e = .returned (.bool true) ∧ Below w.heap.size w w' := by
  rcases h with h | ⟨h1, h⟩
  · go_enter Yba.func3, Yba.ntmps3
    go_wp2
    go_ret
    exact ⟨rfl, Below.refl _ _⟩
  · go_enter Yba.func3, Yba.ntmps3
    go_wp2
    go_ret
    exact ⟨rfl, Below.refl _ _⟩

theorem feed0 (w : World) (d : Int) : Feed w.heap.size ((w.alloc chan0).alloc (.cells #[.slice none 0 0, .int .i64 d, .chan (some w.heap.size)] 27)) (w.heap.size + 1) d (.slice none 0 0) w.heap.size ∧
    Keep w.heap.size w ((w.alloc chan0).alloc (.cells #[.slice none 0 0, .int .i64 d, .chan (some w.heap.size)] 27)) := by
  have g : w.grownBy ((w.alloc chan0).alloc (.cells #[.slice none 0 0, .int .i64 d, .chan (some w.heap.size)] 27)) none :=
    grownBy_trans_none (World.grownBy_alloc w chan0 none) (World.grownBy_alloc _ _ none) (by simp)
  refine ⟨⟨?_, by omega, ?_, Nat.le_refl _⟩, keep_of_grown g (Nat.le_refl _) (by simp)⟩
  · have := heap_alloc_new (w.alloc chan0) (.cells #[.slice none 0 0, .int .i64 d, .chan (some w.heap.size)] 27)
    rw [World.size_alloc] at this
    exact this
  · rw [Below.heap_alloc _ _ _ (by simp)]
    exact heap_alloc_new _ _

/-- The start of the second loop: the events and the list, both read as 'pre'. -/
theorem st0 {w w1 w2 : World} {d : Int} {ea : Option Addr} {np ec : Nat} {vw : Value} {Lp : Nat → List Int}
    (g1 : ((w.alloc chan0).alloc (.cells #[.slice none 0 0, .int .i64 d, .chan (some w.heap.size)] 27)).grownBy w1 none)
    (o1 : Own w.heap.size w1 (w.heap.size + 2) (.slice ea np ec) np Lp) (g2 : (w1.setCell ⟨w.heap.size + 1, 0, none⟩ (.slice ea np ec)).grownBy w2 none) (o2 : Own w.heap.size w2 w1.heap.size vw np Lp) :
    St w w2 (w.heap.size + 1) d (.slice ea np ec) w.heap.size np Lp vw np Lp := by
  obtain ⟨f0, k0⟩ := feed0 w d
  have hc := f0.cell
  have hs := g1.size
  simp at hs
  have k1 := keep_of_grown (B := w.heap.size) g1 (by simp; omega) (by simp)
  have f1 := f0.carry (g1.block _ hc.2.2.2.2.1 (by simp)) (g1.block _ hc.2.2.2.2.2 (by simp))
  have f2 := f1.set (ve' := .slice ea np ec)
  have k2 := f1.setKeep (.slice ea np ec)
  have oe : Own w.heap.size (w1.setCell ⟨w.heap.size + 1, 0, none⟩ (.slice ea np ec)) (w.heap.size + 2) (.slice ea np ec) np Lp := o1.carry k2 (fun g hg => heap_setCell_other _ _ _ _ (by
    obtain ⟨a, _⟩ := o1.row g hg
    show g ≠ w.heap.size + 1
    omega))
  have k3 := keep_of_grown (B := w.heap.size) g2 (by simp; omega) (by simp)
  have hc2 := f2.cell
  refine ⟨f2.carry (g2.block _ hc2.2.2.2.2.1 (by simp)) (g2.block _ hc2.2.2.2.2.2 (by simp)), (oe.carry k3 (fun g hg => g2.block g (oe.row g hg).2.1 (by simp))).mono (by omega), o2.mono (by omega), ?_, ((k0.trans k1).trans k2).trans k3⟩
  intro g h1 h2
  have a1 := (o2.row g h2).1
  have a2 := (oe.row g h1).2.1
  simp at a2
  omega

set_option maxRecDepth 100000 in
set_option maxHeartbeats 2000000 in
theorem walk_in (pa : Option Addr) (np pc : Nat) (Lp : Nat → List Int) (d : Int) (d0 : -9223372036854775808 ≤ d) (d1 : d ≤ 9223372036854775807) (ba : Option Addr) (nb bc : Nat) (BA : Nat → Option Addr) (BL BC : Nat → Nat) (Ls : Nat → Nat → List Int) (w : World)
    (hp : Rows w.heap.size w pa np Lp) (hb : Batches w.heap.size w ba nb BA BL BC Ls) (h1 : np ≤ 1024) (h2 : nb ≤ 256) :
    Calls Yba.prog 3 #[.slice pa np pc, .int .i64 d, .slice ba nb bc] w fun e w' => e = .returned (.bool true) ∧ Below w.heap.size w w' := by
  have HP : Hid (Rows w.heap.size w pa np Lp) := hp
  have HB : Hid (Batches w.heap.size w ba nb BA BL BC Ls) := hb
  clear hp hb
  go_enter Yba.func3, Yba.ntmps3
  go_wp2
  go_loop [30] (fun i => ∃ k : Nat, k ≤ nb ∧ i = .int .i64 k ∧ ∀ j, j < k → BL j ≤ 1024) (fun i => nb - (intOf i).toNat)
  case atStart => exact ⟨0, Nat.zero_le _, rfl, fun j hj => absurd hj (by omega)⟩
  case round =>
    obtain ⟨k, hk, rfl, hall⟩ := hrel
    by_cases hkn : k < nb
    · obtain ⟨b, off, rfl, hbB, hj⟩ := HB.out (by omega)
      obtain ⟨hc, hm, _⟩ := hj k hkn
      have ALL : Hid (∀ j, j < k → BL j ≤ 1024) := hall
      clear hj hall
      by_cases hbig : 1024 < BL k
      · go_wp2
        go_ret
        exact ⟨rfl, Below.refl _ _⟩
      · go_wp2
        go_round
        case rel => exact ⟨k + 1, by omega, by go_num, fun j hj => by
          by_cases e : j = k
          · subst e; omega
          · exact ALL.out j (by omega)⟩
        case measure => simp [intOf]; omega
    · obtain rfl : nb = k := by omega
      have ALL : Hid (∀ j, j < nb → BL j ≤ 1024) := hall
      clear hall
      have kmk := mk0
      obtain ⟨f0, k0⟩ := feed0 w d
      have hfc := f0.cell
      go_wp2_with fail
      refine (clones_any w.heap.size pa np pc Lp _ (by simp; omega) (HP.out.keep k0) h1).mono ?_
      rintro e w1 ⟨v1, rfl, g1, o1⟩
      obtain ⟨ea, ec, rfl, _⟩ := o1.shape
      have hb1 := g1.block _ hfc.2.2.2.2.1 (by simp)
      have c0 := (World.cell?_of_block (a := ⟨w.heap.size + 1, 0, none⟩) hb1).trans hfc.1
      have c1 := (World.frozen?_of_block (a := ⟨w.heap.size + 1, 0, none⟩) hb1).trans (hfc.2.2.2.1 0)
      have hs1 := g1.size
      simp at hs1
      have k1 : Keep w.heap.size w w1 := k0.trans (keep_of_grown g1 (by simp; omega) (by simp))
      have f1 := f0.carry hb1 (g1.block _ hfc.2.2.2.2.2 (by simp))
      have k2 := k1.trans (f1.setKeep (.slice ea np ec))
      have G1 : Hid (((w.alloc chan0).alloc (.cells #[.slice none 0 0, .int .i64 d, .chan (some w.heap.size)] 27)).grownBy w1 none) := g1
      have O1 : Hid (Own w.heap.size w1 (w.heap.size + 2) (.slice ea np ec) np Lp) := by
        have h := o1
        simp only [World.size_alloc] at h
        exact h
      clear g1 o1 hb1 k1 f1 f0 k0 hfc
      go_wp2_with fail
      refine (clones_any w.heap.size pa np pc Lp _ (by simp; omega) (HP.out.keep k2) h1).mono ?_
      rintro e w2 ⟨vw, rfl, g2, o2⟩
      have ST := st0 G1.out O1.out g2 (by simpa using o2)
      clear c0 c1 hs1 k2 G1 O1 g2 o2 HP
      go_wp2_with fail
      clear kmk
      go_loopw [10, 51] (fun vw i wr => ∃ k : Nat, k ≤ nb ∧ i = .int .i64 k ∧ ∃ ve ch N L, N ≤ 1024 + 1024 * k ∧ St w wr (w.heap.size + 1) d ve ch N L vw N L) (fun _ i _ => nb - (intOf i).toNat)
      case atStart => exact ⟨0, by omega, rfl, _, _, np, Lp, by omega, ST⟩
      case round =>
        clear ST
        obtain ⟨k, hk, rfl, ve, ch, N, L, hN, hst⟩ := hrel
        by_cases hkn : k < nb
        · obtain ⟨b, off, rfl, hbB, hj⟩ := HB.out (by omega)
          obtain ⟨hc, hm, hrows⟩ := hj k hkn
          have hlen := ALL.out k hkn
          clear hj
          generalize BA k = aa at *
          generalize BL k = m at *
          generalize BC k = cc at *
          generalize Ls k = Lk at *
          obtain ⟨ea', ec', hve, hnc, _⟩ := hst.2.1.shape
          subst hve
          obtain ⟨p0, p1, p2, pf, ps1, ps2⟩ := hst.1.cell
          have hc' := (hst.2.2.2.2.1.cell (p := ⟨b, off + k, none⟩) hbB).trans hc
          have R : Hid (Rows w.heap.size w aa m Lk) := hrows
          have S0 : Hid (St w wr (w.heap.size + 1) d (.slice ea' N ec') ch N L u10 N L) := hst
          clear hst hrows hc pf ps1 ps2 hnc
          go_wp2_with fail
          refine (clones_any w.heap.size aa m cc Lk _ S0.out.2.2.2.2.1.size (R.out.keep S0.out.2.2.2.2) hlen).mono ?_
          rintro e w1 ⟨vd, rfl, g1, od⟩
          have S1 : Hid (St w w1 (w.heap.size + 1) d (.slice ea' N ec') ch N L u10 N L) := S0.out.grown g1
          clear S0 p0 p1 p2 hc' g1
          go_wp2_with fail
          refine (add_any w.heap.size w1 (w.heap.size + 1) d ea' N ec' ch w.heap.size L vd m _ Lk S1.out.1 S1.out.2.1 od (Nat.le_refl _) S1.out.2.2.2.2.1.size (by omega)).mono ?_
          rintro e w2 ⟨rfl, ve2, ch2, f2, o2, k2, hb2, hs2, hl2, hz2, hnz2⟩
          have S2 : Hid (St w w2 (w.heap.size + 1) d ve2 ch2 (N + m) (cat N L Lk) u10 N L) := S1.out.add f2 o2 k2 hb2 hl2
          obtain ⟨ea2, ec2, hve2, _, hnil2, hcell2⟩ := o2.shape
          subst hve2
          obtain ⟨q0, q1, q2, qf, _, _⟩ := f2.cell
          have CE : Hid (∀ x, ea2 = some x → ∃ g, x = ⟨g, 0, none⟩ ∧ w.heap.size ≤ g ∧ g < w2.heap.size ∧ (∃ cs fr, w2.heap[g]? = some (.cells cs 30 fr)) ∧ ∀ j, j < N + m → ∃ u, w2.cell? ⟨g, j, none⟩ = some u ∧ Bytes w.heap.size w2 u (cat N L Lk j)) := hcell2
          have NI : Hid (ea2 = none → N + m = 0 ∧ ec2 = 0) := hnil2
          clear f2 o2 k2 hb2 hs2 hl2 hcell2 S1 od qf hnil2
          have kq := chan_eql 25 .both 56 Yba.underlying25
          have kn := chan_neq 25 .both 56 Yba.underlying25
          have key : (((m : Int) == 0) = true ∧ ch2 = ch) ∨ (((m : Int) == 0) = false ∧ (some ch2 == some ch) = false ∧ (ch2 == ch) = false) := by
            by_cases hm0 : m = 0
            · exact Or.inl ⟨beq_iff_eq.2 (by omega), hz2 hm0⟩
            · exact Or.inr ⟨beq_eq_false_iff_ne.2 (by omega), by simp; exact hnz2 (by omega), beq_eq_false_iff_ne.2 (hnz2 (by omega))⟩
          clear hnz2 hz2
          rcases key with ⟨hmm, rfl⟩ | ⟨hmm, hne, hne2⟩
          all_goals
            go_wp2_with fail
            clear kq kn
            go_loop [109] (fun i => ∃ t : Nat, t ≤ m ∧ i = .int .i64 t) (fun i => m - (intOf i).toNat)
            case atStart => exact ⟨0, Nat.zero_le _, rfl⟩
            case round =>
              obtain ⟨t, ht, rfl⟩ := hrel
              by_cases htm : t < m
              · obtain ⟨rb, ro, V, hra, hrb, hV⟩ := (R.out.keep S2.out.2.2.2.2) (by omega)
                subst hra
                obtain ⟨hvc, hvb⟩ := hV t htm
                obtain ⟨x, hx⟩ : ∃ x, ea2 = some x := by
                  cases hea : ea2 with
                  | none => have := (NI.out hea).1; omega
                  | some x => exact ⟨x, rfl⟩
                obtain ⟨g, rfl, _, _, _, hgc⟩ := CE.out x hx
                subst hx
                obtain ⟨uu, huc, hub⟩ := hgc (N + t) (by omega)
                rw [cat_add] at hub
                have B1 : Hid (Bytes w.heap.size w2 uu (Lk t)) := hub
                have B2 : Hid (Bytes w.heap.size w2 (V t) (Lk t)) := hvb
                clear hub hvb hgc hV
                go_wp2_with fail
                refine (equal_any _ _ uu (V t) (Lk t) _ B1.out B2.out).mono ?_
                rintro e w' ⟨rfl, rfl⟩
                go_wp2
                go_round
                case rel => exact ⟨t + 1, by omega, by go_num⟩
                case measure => simp [intOf]; omega
              · clear CE NI q0 q1 q2
                go_wp2_with fail
                refine (clones_any w.heap.size aa m cc Lk _ S2.out.2.2.2.2.1.size (R.out.keep S2.out.2.2.2.2) hlen).mono ?_
                rintro e w3 ⟨vd2, rfl, g3, od2⟩
                obtain ⟨vw', w4, hap, S4⟩ := want_append (S2.out.grown g3) _ vd2 m Lk od2 (by omega)
                have HA : Hid ((Builtin.append_ #[22, 22] 22 #[u10, vd2]).run Yba.prog w3 = .ok vw' w4) := hap
                have T4 : Hid (St w w4 (w.heap.size + 1) d (.slice ea2 (N + m) ec2) ch2 (N + m) (cat N L Lk) vw' (N + m) (cat N L Lk)) := S4
                clear hap S4 g3 od2
                go_wp2_with (at_builtin; refine wpList_app rfl (.tmp 127) (.tmp 129) 22 rfl rfl _ _ vw' w4 rfl rfl HA.out ?_)
                go_roundw
                case rel => exact ⟨k + 1, by omega, by go_num, _, ch2, N + m, cat N L Lk, by omega, T4.out⟩
                case measure => simp [intOf]; omega
        · obtain ⟨ea', ec', hve, _, hnil, hcell⟩ := hst.2.1.shape
          subst hve
          obtain ⟨wa, wc, hvw, _, hnilw, hcellw⟩ := hst.2.2.1.shape
          subst hvw
          obtain ⟨p0, p1, p2, pf, ps1, ps2⟩ := hst.1.cell
          have KB : Hid (Below w.heap.size w wr) := hst.2.2.2.2.1
          have NI : Hid (ea' = none → N = 0 ∧ ec' = 0) := hnil
          have NW : Hid (wa = none → N = 0 ∧ wc = 0) := hnilw
          have CE : Hid (∀ x, ea' = some x → ∃ g, x = ⟨g, 0, none⟩ ∧ w.heap.size ≤ g ∧ g < wr.heap.size ∧ (∃ cs fr, wr.heap[g]? = some (.cells cs 30 fr)) ∧ ∀ j, j < N → ∃ u, wr.cell? ⟨g, j, none⟩ = some u ∧ Bytes w.heap.size wr u (L j)) := hcell
          have CW : Hid (∀ x, wa = some x → ∃ g, x = ⟨g, 0, none⟩ ∧ w.heap.size ≤ g ∧ g < wr.heap.size ∧ (∃ cs fr, wr.heap[g]? = some (.cells cs 30 fr)) ∧ ∀ j, j < N → ∃ u, wr.cell? ⟨g, j, none⟩ = some u ∧ Bytes w.heap.size wr u (L j)) := hcellw
          clear hst hnil hnilw hcell hcellw pf ps1 ps2
          go_wp2_with fail
          go_loop [142] (fun i => ∃ t : Nat, t ≤ N ∧ i = .int .i64 t) (fun i => N - (intOf i).toNat)
          case atStart => exact ⟨0, Nat.zero_le _, rfl⟩
          case round =>
            obtain ⟨t, ht, rfl⟩ := hrel
            by_cases htm : t < N
            · obtain ⟨x, hx⟩ : ∃ x, ea' = some x := by
                cases hea : ea' with
                | none => have := (NI.out hea).1; omega
                | some x => exact ⟨x, rfl⟩
              obtain ⟨g, rfl, _, _, _, hgc⟩ := CE.out x hx
              obtain ⟨y, hy⟩ : ∃ x, wa = some x := by
                cases hea : wa with
                | none => have := (NW.out hea).1; omega
                | some x => exact ⟨x, rfl⟩
              obtain ⟨gw, rfl, _, _, _, hgw⟩ := CW.out y hy
              subst hx
              subst hy
              obtain ⟨uu, huc, hub⟩ := hgc t htm
              obtain ⟨vv, hvc, hvb⟩ := hgw t htm
              have B1 : Hid (Bytes w.heap.size wr uu (L t)) := hub
              have B2 : Hid (Bytes w.heap.size wr vv (L t)) := hvb
              clear hub hvb hgc hgw
              go_wp2_with fail
              refine (equal_any _ _ uu vv (L t) _ B1.out B2.out).mono ?_
              rintro e w' ⟨rfl, rfl⟩
              go_wp2
              go_round
              case rel => exact ⟨t + 1, by omega, by go_num⟩
              case measure => simp [intOf]; omega
            · go_wp2
              go_ret
              exact ⟨rfl, KB.out⟩
end Go.Proofs.Ybulkcpry.lawS4574CAppends
