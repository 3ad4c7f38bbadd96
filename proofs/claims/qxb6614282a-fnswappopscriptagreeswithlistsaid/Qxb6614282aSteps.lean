import Derived.Test.Qxb6614282aFull
namespace Go.Proofs.Qxb6614282a
open Go.RowKit Go.Deep

set_option maxHeartbeats 400000 in
theorem zz15_yes (a c : Option Addr) (n cap m cap' : Nat) (w : World) (h : n + m ≤ 1048576) :
    Calls Try.prog 15 #[.slice a n cap, .slice c m cap'] w fun e w' => e = .returned (.bool true) ∧ w = w' := by
  go_enter Try.func15, Try.ntmps15
  go_wp2
  go_ret
  exact ⟨rfl, rfl⟩

set_option maxHeartbeats 400000 in
theorem zz15_no (a c : Option Addr) (n cap m cap' : Nat) (w : World) (hn : n ≤ maxLen) (hm : m ≤ maxLen) (h : ¬ n + m ≤ 1048576) :
    Calls Try.prog 15 #[.slice a n cap, .slice c m cap'] w fun e w' => e = .returned (.bool false) ∧ w = w' := by
  unfold maxLen at hn hm
  by_cases h1 : n ≤ 1048576
  · by_cases h2 : m ≤ 1048576
    · go_enter Try.func15, Try.ntmps15
      go_wp2
      go_ret
      exact ⟨rfl, rfl⟩
    · go_enter Try.func15, Try.ntmps15
      go_wp2
      go_ret
      exact ⟨rfl, rfl⟩
  · go_enter Try.func15, Try.ntmps15
    go_wp2
    go_ret
    exact ⟨rfl, rfl⟩

set_option maxRecDepth 100000 in
set_option maxHeartbeats 1000000 in
theorem steps_walk (a c : Option Addr) (n cap m cap' : Nat) (z I J : Nat → Int) (P : Nat → Bool) (w : World) (hn : n ≤ maxLen) (hm : m ≤ maxLen) (ha : Nums w a n z) (hp : Steps w c m P I J) :
    Calls Try.prog 6 #[.slice a n cap, .slice c m cap'] w fun e w' => e = .returned (.bool true) ∧ Below w.heap.size w w' := by
  by_cases h1 : n + m ≤ 1048576
  case neg =>
    go_enter Try.func6, Try.ntmps6
    go_wp2_with (go_at_call 15; refine (zz15_no _ _ _ _ _ _ _ hn hm h1).mono ?_; rintro e w' ⟨rfl, rfl⟩)
    go_ret
    exact ⟨rfl, Below.refl _ _⟩
  clear hn hm
  by_cases h2 : n ≤ 131072
  case neg =>
    go_enter Try.func6, Try.ntmps6
    go_wp2_with (go_at_call 15; refine (zz15_yes _ _ _ _ _ _ _ h1).mono ?_; rintro e w' ⟨rfl, rfl⟩)
    go_ret
    exact ⟨rfl, Below.refl _ _⟩
  by_cases h3 : m ≤ 65536
  case neg =>
    go_enter Try.func6, Try.ntmps6
    go_wp2_with (go_at_call 15; refine (zz15_yes _ _ _ _ _ _ _ h1).mono ?_; rintro e w' ⟨rfl, rfl⟩)
    go_ret
    exact ⟨rfl, Below.refl _ _⟩
  by_cases h4 : 8 * n + 24 * m ≤ 1048576
  case neg =>
    go_enter Try.func6, Try.ntmps6
    go_wp2_with (go_at_call 15; refine (zz15_yes _ _ _ _ _ _ _ h1).mono ?_; rintro e w' ⟨rfl, rfl⟩)
    go_ret
    exact ⟨rfl, Below.refl _ _⟩
  go_enter Try.func6, Try.ntmps6
  go_wp2_with (go_at_call 15; refine (zz15_yes _ _ _ _ _ _ _ h1).mono ?_; rintro e w' ⟨rfl, rfl⟩)
  go_loop [5, 6] (fun l s => ∃ k L : Nat, k ≤ m ∧ L ≤ n ∧ s = .int .i64 k ∧ l = .int .i64 L ∧ Hid (L = live n P k) ∧ Hid (∀ t, t < k → Good n P I J t)) (fun _ s => m - (intOf s).toNat)
  case atStart => exact ⟨0, n, Nat.zero_le _, Nat.le_refl _, rfl, rfl, rfl, fun t ht => by omega⟩
  case round =>
    obtain ⟨k, L, hk, hLn, rfl, rfl, HL, hall⟩ := hrel
    by_cases hlt : k < m
    · obtain ⟨b, off, rfl, hbs, hc⟩ := hp k hlt
      obtain ⟨hcP, hcI, hcJ⟩ := hc k hlt
      clear hc ha hp
      cases hPk : P k with
      | true =>
        rw [hPk] at hcP
        have HP : Hid (P k = true) := hPk
        clear hPk
        by_cases hL1 : L < 1
        · go_wp2
          go_ret
          exact ⟨rfl, Below.refl _ _⟩
        · go_wp2
          go_round
          case rel =>
            refine ⟨k + 1, L - 1, by omega, by omega, by go_num, by go_num, ?_, fun t ht => ?_⟩
            · show L - 1 = live n P (k + 1)
              rw [live_pop HP.out, ← HL.out]
            · by_cases e : t = k
              · subst e
                exact ⟨(fun _ => by rw [← HL.out]; omega), (fun h => by rw [HP.out] at h; cases h)⟩
              · exact hall.out t (by omega)
          case measure => simp [intOf]; omega
      | false =>
        rw [hPk] at hcP
        have HP : Hid (P k = false) := hPk
        clear hPk
        by_cases hI0 : I k < 0
        · go_wp2
          go_ret
          exact ⟨rfl, Below.refl _ _⟩
        by_cases hI1 : L ≤ I k
        · go_wp2
          go_ret
          exact ⟨rfl, Below.refl _ _⟩
        by_cases hJ0 : J k < 0
        · go_wp2
          go_ret
          exact ⟨rfl, Below.refl _ _⟩
        by_cases hJ1 : L ≤ J k
        · go_wp2
          go_ret
          exact ⟨rfl, Below.refl _ _⟩
        go_wp2
        go_round
        case rel =>
          refine ⟨k + 1, L, by omega, hLn, by go_num, rfl, ?_, fun t ht => ?_⟩
          · show L = live n P (k + 1)
            rw [live_swap HP.out]
            exact HL.out
          · by_cases e : t = k
            · subst e
              exact ⟨(fun h => by rw [HP.out] at h; cases h), (fun _ => by rw [← HL.out]; omega)⟩
            · exact hall.out t (by omega)
        case measure => simp [intOf]; omega
    · have e : m = k := by omega
      subst e
      have hmk := run_make_row' (P := Try.prog) 31 3 (.int .i64 0) 8 Try.underlying31 Try.info3 rfl .i64 .i64 n (by omega) (by omega)
      go_wp2_with fail
      refine (build_any _ _ _ z _ (by omega) ha).mono ?_
      rintro e w1 ⟨rfl, I1, hb1, hs1⟩
      have F1 : Hid (FullFil w ((w1.alloc (.cells #[.slice (some ⟨w.heap.size, 0, none⟩) n n] 28)).alloc (.cells (madeCells #[.int .i64 0] n) 3)) w.heap.size n z w1.heap.size (w1.heap.size + 1) 0) := FullFil.start I1 hs1 hb1
      clear I1 hb1 hs1 HL hLn
      go_wp2
      clear hmk
      go_loopw [10] (fun i wr => ∃ k : Nat, k ≤ n ∧ i = .int .i64 k ∧ FullFil w wr w.heap.size n z w1.heap.size (w1.heap.size + 1) k) (fun i _ => n - (intOf i).toNat)
      case atStart => exact ⟨0, Nat.zero_le _, rfl, F1.out⟩
      case round =>
        clear F1
        obtain ⟨k, hk, rfl, F⟩ := hrel
        by_cases hlt : k < n
        · have c1 := F.fil.ids.cell hlt
          have f1 := F.fil.ids.frozen k
          simp only [Nat.lt_irrefl, if_false] at c1
          go_wp2
          go_roundw
          case rel => exact ⟨k + 1, by omega, by go_num, F.step⟩
          case measure => simp [intOf]; omega
        · have e : n = k := by omega
          subst e
          have S1 : Hid (Full w wr w.heap.size n z n (fun k => k) w1.heap.size (w1.heap.size + 1)) := F.done
          clear F
          go_wp2_with fail
          go_loopw [9, 11] (fun v s wr => ∃ (k L : Nat) (hp : Nat → Nat), k ≤ m ∧ s = .int .i64 k ∧ v = .slice (some ⟨w1.heap.size + 1, 0, none⟩) L n ∧ Hid (L = live n P k) ∧ Full w wr w.heap.size n z L hp w1.heap.size (w1.heap.size + 1)) (fun _ s _ => m - (intOf s).toNat)
          case atStart => exact ⟨0, n, _, Nat.zero_le _, rfl, rfl, rfl, S1.out⟩
          case round =>
            clear S1
            obtain ⟨k, L, hq, hk, rfl, rfl, HL, S⟩ := hrel
            have hLn := S.st.inv.le
            by_cases hlt : k < m
            · obtain ⟨b, off, rfl, hbs, hc⟩ := hp k hlt
              obtain ⟨g1, g2⟩ := hall.out k hlt
              obtain ⟨hcP, hcI, hcJ⟩ := hc k hlt
              replace hcP := (S.st.below.cell (p := ⟨b, off + k * 3, none⟩) hbs).trans hcP
              replace hcI := (S.st.below.cell (p := ⟨b, off + k * 3 + 1, none⟩) hbs).trans hcI
              replace hcJ := (S.st.below.cell (p := ⟨b, off + k * 3 + 2, none⟩) hbs).trans hcJ
              rw [← HL.out] at g1 g2
              cases hPk : P k with
              | true =>
                rw [hPk] at hcP
                have HP : Hid (P k = true) := hPk
                have hL1 := g1 hPk
                clear hPk g1 g2 hcI hcJ hc hp hall
                obtain ⟨l, rfl⟩ : ∃ l, L = l + 1 := ⟨L - 1, by omega⟩
                have hln : l < n := by omega
                have hlq := S.st.inv.lt l (by omega)
                have c2 := S.st.cell (k := l) (by omega)
                obtain ⟨b2, off2, rfl, hbs2, hc2⟩ := ha l hln
                have hpi : ((hq l : Nat) : Int) < (n : Int) := by omega
                clear ha
                go_wp2_with fail
                refine (zzpop_inv S.st.inv (by omega) w1.heap.size S.far S.var).mono ?_
                rintro e w4 ⟨rfl, I4, t4, v4, o4⟩
                have S4 := S.popped I4 v4 o4
                clear S I4 v4 o4 hcP c2
                have cv := cell_of_one S4.var
                have c2 := S4.st.inv.ocell hlq
                have c3 := t4.cell7
                have c4 := t4.cell3
                have c5 := (S4.st.below.cell (p := ⟨b2, off2 + hq l, none⟩) hbs2).trans (hc2 _ hlq)
                have S5 : Hid (Full w w4 w.heap.size n z l hq w1.heap.size (w1.heap.size + 1)) := S4
                clear S4 t4 hc2
                generalize hq l = p at *
                generalize z p = y at *
                have hne := neq_same
                go_wp2_with fail
                go_quiet (first | (go_at_call 10; exact Calls.quiet_of_same (index_any _ _ _ c3)) | (go_at_call 11; exact Calls.quiet_of_same (period_any _ _ _ c4)))
                go_wp2
                go_roundw
                case rel =>
                  refine ⟨k + 1, l, hq, by omega, by go_num, rfl, ?_, S5.out.drewN _⟩
                  show l = live n P (k + 1)
                  rw [live_pop HP.out, ← HL.out]
                  rfl
                case measure => simp [intOf]; omega
              | false =>
                rw [hPk] at hcP
                have HP : Hid (P k = false) := hPk
                have g3 := g2 hPk
                obtain ⟨i, hi⟩ := Int.eq_ofNat_of_zero_le g3.1
                obtain ⟨j, hj⟩ := Int.eq_ofNat_of_zero_le g3.2.2.1
                rw [hi] at hcI g3
                rw [hj] at hcJ g3
                have hin : i < L := by omega
                have hjn : j < L := by omega
                clear hPk g1 g2 g3 hi hj hc ha hp hall
                have cv := cell_of_one S.var
                go_wp2_with fail
                refine (swap_inv S.st.inv i j hin hjn).mono ?_
                rintro e w2 ⟨rfl, I2, o2⟩
                clear cv hcP hcI hcJ
                have ci := S.st.cell_out o2 hin
                have cj := S.st.cell_out o2 hjn
                have fi := S.st.frozen_out o2 i
                obtain ⟨u, cu⟩ := S.st.cell_set o2 (i := i) hjn (.int .i64 (hq j : Nat))
                have fj := S.st.frozen_set o2 i j (.int .i64 (hq j : Nat))
                have S2 : Hid (Full w ((w2.setCell ⟨w1.heap.size + 1, i, none⟩ (.int .i64 (hq j : Nat))).setCell ⟨w1.heap.size + 1, j, none⟩ (.int .i64 (hq i : Nat))) w.heap.size n z L (swp hq i j) w1.heap.size (w1.heap.size + 1)) := S.swapped I2 o2
                clear S I2 o2
                go_wp2
                go_roundw
                case rel =>
                  refine ⟨k + 1, L, _, by omega, by go_num, rfl, ?_, S2.out⟩
                  show L = live n P (k + 1)
                  rw [live_swap HP.out]
                  exact HL.out
                case measure => simp [intOf]; omega
            · have e : m = k := by omega
              subst e
              have S1 : Hid (Full w wr w.heap.size n z L hq w1.heap.size (w1.heap.size + 1)) := S
              have cv := cell_of_one S.var
              clear S HL
              go_wp2_with fail
              clear cv
              go_loopw [19] (fun s wr => ∃ k : Nat, k ≤ L ∧ s = .int .i64 k ∧ Full w wr w.heap.size n z L hq w1.heap.size (w1.heap.size + 1)) (fun s _ => L - (intOf s).toNat)
              case atStart => exact ⟨0, Nat.zero_le _, rfl, S1.out⟩
              case round =>
                clear S1
                obtain ⟨k, hk, rfl, S⟩ := hrel
                by_cases hlt : k < L
                · have hlq := S.st.inv.lt k hlt
                  obtain ⟨b, off, rfl, hbs, hc⟩ := ha _ hlq
                  have cv := cell_of_one S.var
                  have c1 := S.st.inv.cell hlt
                  have c2 := S.st.cell hlt
                  have c3 := S.st.inv.ocell hlq
                  have c4 := S.st.inv.tcell hlt
                  have c5 := S.st.inv.pcell hlq
                  have c6 := (S.st.below.cell (p := ⟨b, off + hq k, none⟩) hbs).trans (hc _ hlq)
                  have S2 : Hid (Full w wr w.heap.size n z L hq w1.heap.size (w1.heap.size + 1)) := S
                  clear S hc ha hp hall
                  generalize hq k = p at *
                  generalize z p = y at *
                  have hki : (k : Int) < (L : Int) := by omega
                  have hpi : (p : Int) < (n : Int) := by omega
                  have hne := neq_same
                  go_wp2_with fail
                  go_quiet (fail)
                  go_wp2_with fail
                  have d0 : (wr.drewN nq).cell? _ = _ := cv
                  have d1 : (wr.drewN nq).cell? _ = _ := c1
                  have d2 : (wr.drewN nq).cell? _ = _ := c2
                  have d4 : (wr.drewN nq).cell? _ = _ := c4
                  have d5 : (wr.drewN nq).cell? _ = _ := c5
                  have d6 : (wr.drewN nq).cell? _ = _ := c6
                  have S3 : Hid (Full w (wr.drewN nq) w.heap.size n z L hq w1.heap.size (w1.heap.size + 1)) := S2.out.drewN nq
                  clear cv c1 c2 c3 c4 c5 c6 S2 hne
                  generalize wr.drewN nq = w3 at *
                  go_quiet (first | (go_at_call 10; exact Calls.quiet_of_same (index_any _ _ _ d4)) | (go_at_call 11; exact Calls.quiet_of_same (period_any _ _ _ d5)))
                  go_wp2_with fail
                  go_roundw
                  case rel => exact ⟨k + 1, by omega, by go_num, S3.out.drewN _⟩
                  case measure => simp [intOf]; omega
                · go_wp2
                  go_ret
                  exact ⟨rfl, S.st.below⟩

end Go.Proofs.Qxb6614282a
