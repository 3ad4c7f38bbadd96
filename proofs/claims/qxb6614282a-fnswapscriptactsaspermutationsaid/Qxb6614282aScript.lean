import Derived.Test.Qxb6614282aState
namespace Go.Proofs.Qxb6614282a
open Go.RowKit Go.Deep

set_option maxHeartbeats 400000 in
theorem zz7_yes (a c : Option Addr) (n cap m cap' : Nat) (w : World) (h : n + m ≤ 1048576) :
    Calls Try.prog 7 #[.slice a n cap, .slice c m cap'] w fun e w' => e = .returned (.bool true) ∧ w = w' := by
  go_enter Try.func7, Try.ntmps7
  go_wp2
  go_ret
  exact ⟨rfl, rfl⟩

set_option maxHeartbeats 400000 in
theorem zz7_no (a c : Option Addr) (n cap m cap' : Nat) (w : World) (hn : n ≤ maxLen) (hm : m ≤ maxLen) (h : ¬ n + m ≤ 1048576) :
    Calls Try.prog 7 #[.slice a n cap, .slice c m cap'] w fun e w' => e = .returned (.bool false) ∧ w = w' := by
  unfold maxLen at hn hm
  by_cases h1 : n ≤ 1048576
  · by_cases h2 : m ≤ 1048576
    · go_enter Try.func7, Try.ntmps7
      go_wp2
      go_ret
      exact ⟨rfl, rfl⟩
    · go_enter Try.func7, Try.ntmps7
      go_wp2
      go_ret
      exact ⟨rfl, rfl⟩
  · go_enter Try.func7, Try.ntmps7
    go_wp2
    go_ret
    exact ⟨rfl, rfl⟩

set_option maxRecDepth 100000 in
set_option maxHeartbeats 400000 in
theorem script_walk (a c : Option Addr) (n cap m cap' : Nat) (z I J : Nat → Int) (w : World) (hn : n ≤ maxLen) (hm : m ≤ maxLen) (ha : Nums w a n z) (hp : Pairs w c m I J) :
    Calls Try.prog 3 #[.slice a n cap, .slice c m cap'] w fun e w' => e = .returned (.bool true) ∧ Below w.heap.size w w' := by
  by_cases h1 : n + m ≤ 1048576
  case neg =>
    go_enter Try.func3, Try.ntmps3
    go_wp2_with (go_at_call 7; refine (zz7_no _ _ _ _ _ _ _ hn hm h1).mono ?_; rintro e w' ⟨rfl, rfl⟩)
    go_ret
    exact ⟨rfl, Below.refl _ _⟩
  clear hn hm
  by_cases h2 : n ≤ 131072
  case neg =>
    go_enter Try.func3, Try.ntmps3
    go_wp2_with (go_at_call 7; refine (zz7_yes _ _ _ _ _ _ _ h1).mono ?_; rintro e w' ⟨rfl, rfl⟩)
    go_ret
    exact ⟨rfl, Below.refl _ _⟩
  by_cases h3 : m ≤ 65536
  case neg =>
    go_enter Try.func3, Try.ntmps3
    go_wp2_with (go_at_call 7; refine (zz7_yes _ _ _ _ _ _ _ h1).mono ?_; rintro e w' ⟨rfl, rfl⟩)
    go_ret
    exact ⟨rfl, Below.refl _ _⟩
  by_cases h4 : 8 * n + 16 * m ≤ 1048576
  case neg =>
    go_enter Try.func3, Try.ntmps3
    go_wp2_with (go_at_call 7; refine (zz7_yes _ _ _ _ _ _ _ h1).mono ?_; rintro e w' ⟨rfl, rfl⟩)
    go_ret
    exact ⟨rfl, Below.refl _ _⟩
  go_enter Try.func3, Try.ntmps3
  go_wp2_with (go_at_call 7; refine (zz7_yes _ _ _ _ _ _ _ h1).mono ?_; rintro e w' ⟨rfl, rfl⟩)
  go_loop [6] (fun s => ∃ k : Nat, k ≤ m ∧ s = .int .i64 k ∧ ∀ t, t < k → 0 ≤ I t ∧ I t < n ∧ 0 ≤ J t ∧ J t < n) (fun s => m - (intOf s).toNat)
  case atStart => exact ⟨0, Nat.zero_le _, rfl, fun t ht => by omega⟩
  case round =>
    obtain ⟨k, hk, rfl, hall⟩ := hrel
    by_cases hlt : k < m
    · obtain ⟨b, off, rfl, hbs, hc⟩ := hp k hlt
      have hcI := (hc k hlt).1
      have hcJ := (hc k hlt).2
      clear hc ha hp
      by_cases hI0 : I k < 0
      · go_wp2
        go_ret
        exact ⟨rfl, Below.refl _ _⟩
      by_cases hI1 : n ≤ I k
      · go_wp2
        go_ret
        exact ⟨rfl, Below.refl _ _⟩
      by_cases hJ0 : J k < 0
      · go_wp2
        go_ret
        exact ⟨rfl, Below.refl _ _⟩
      by_cases hJ1 : n ≤ J k
      · go_wp2
        go_ret
        exact ⟨rfl, Below.refl _ _⟩
      go_wp2
      go_round
      case rel =>
        refine ⟨k + 1, by omega, by go_num, fun t ht => ?_⟩
        by_cases e : t = k
        · subst e; omega
        · exact hall t (by omega)
      case measure => simp [intOf]; omega
    · have e : m = k := by omega
      subst e
      have hmk := run_make_row' (P := Try.prog) 31 3 (.int .i64 0) 8 Try.underlying31 Try.info3 rfl .i64 .i64 n (by omega) (by omega)
      go_wp2_with fail
      refine (build_any _ _ _ z _ (by omega) ha).mono ?_
      rintro e w1 ⟨rfl, I1, hb1, hs1⟩
      have F1 : Hid (Fil w (w1.alloc (.cells (madeCells #[.int .i64 0] n) 3)) w.heap.size n z w1.heap.size 0) := Fil.start I1 hs1 hb1
      clear I1 hb1 hs1
      go_wp2
      clear hmk
      go_loopw [10] (fun i wr => ∃ k : Nat, k ≤ n ∧ i = .int .i64 k ∧ Fil w wr w.heap.size n z w1.heap.size k) (fun i _ => n - (intOf i).toNat)
      case atStart => exact ⟨0, Nat.zero_le _, rfl, F1.out⟩
      case round =>
        clear F1
        obtain ⟨k, hk, rfl, F⟩ := hrel
        by_cases hlt : k < n
        · have c1 := F.ids.cell hlt
          have f1 := F.ids.frozen k
          simp only [Nat.lt_irrefl, if_false] at c1
          go_wp2
          go_roundw
          case rel => exact ⟨k + 1, by omega, by go_num, F.step⟩
          case measure => simp [intOf]; omega
        · have e : n = k := by omega
          subst e
          have S1 : Hid (St w wr w.heap.size n z n (fun k => k) w1.heap.size) := F.done
          clear F
          go_wp2_with fail
          go_loopw [11] (fun s wr => ∃ k : Nat, k ≤ m ∧ s = .int .i64 k ∧ ∃ hp, St w wr w.heap.size n z n hp w1.heap.size) (fun s _ => m - (intOf s).toNat)
          case atStart => exact ⟨0, Nat.zero_le _, rfl, _, S1.out⟩
          case round =>
            clear S1
            obtain ⟨k, hk, rfl, hq, S⟩ := hrel
            by_cases hlt : k < m
            · obtain ⟨b, off, rfl, hbs, hc⟩ := hp k hlt
              have hall' := hall k hlt
              obtain ⟨i, hi⟩ := Int.eq_ofNat_of_zero_le hall'.1
              obtain ⟨j, hj⟩ := Int.eq_ofNat_of_zero_le hall'.2.2.1
              have hcI := (S.below.cell (p := ⟨b, off + k * 2, none⟩) hbs).trans (hc k hlt).1
              have hcJ := (S.below.cell (p := ⟨b, off + k * 2 + 1, none⟩) hbs).trans (hc k hlt).2
              rw [hi] at hcI hall'
              rw [hj] at hcJ hall'
              have hin : i < n := by omega
              have hjn : j < n := by omega
              clear hi hj hall hall' hc ha hp
              go_wp2_with fail
              refine (swap_inv S.inv i j hin hjn).mono ?_
              rintro e w2 ⟨rfl, I2, o2⟩
              have ci := S.cell_out o2 hin
              have cj := S.cell_out o2 hjn
              have fi := S.frozen_out o2 i
              obtain ⟨u, cu⟩ := S.cell_set o2 (i := i) hjn (.int .i64 (hq j : Nat))
              have fj := S.frozen_set o2 i j (.int .i64 (hq j : Nat))
              have S2 : Hid (St w ((w2.setCell ⟨w1.heap.size, i, none⟩ (.int .i64 (hq j : Nat))).setCell ⟨w1.heap.size, j, none⟩ (.int .i64 (hq i : Nat))) w.heap.size n z n (swp hq i j) w1.heap.size) := S.swapped I2 o2
              clear S I2 o2
              go_wp2
              go_roundw
              case rel => exact ⟨k + 1, by omega, by go_num, _, S2.out⟩
              case measure => simp [intOf]; omega
            · have e : m = k := by omega
              subst e
              have S1 : Hid (∃ hp, St w wr w.heap.size n z n hp w1.heap.size) := ⟨_, S⟩
              clear S
              go_wp2_with fail
              go_loopw [16] (fun s wr => ∃ k : Nat, k ≤ n ∧ s = .int .i64 k ∧ ∃ hp, St w wr w.heap.size n z n hp w1.heap.size) (fun s _ => n - (intOf s).toNat)
              case atStart => exact ⟨0, Nat.zero_le _, rfl, S1.out⟩
              case round =>
                clear S1
                obtain ⟨k, hk, rfl, hq, S⟩ := hrel
                by_cases hlt : k < n
                · obtain ⟨b, off, rfl, hbs, hc⟩ := ha k hlt
                  have hlq := S.inv.lt k hlt
                  have c1 := S.inv.cell hlt
                  have c2 := S.cell hlt
                  have c3 := S.inv.ocell hlq
                  have c4 := S.inv.tcell hlt
                  have c5 := S.inv.pcell hlq
                  have c6 := (S.below.cell (p := ⟨b, off + hq k, none⟩) hbs).trans (hc _ hlq)
                  have S2 : Hid (St w wr w.heap.size n z n hq w1.heap.size) := S
                  clear S hc ha hp hall
                  generalize hq k = p at *
                  generalize z p = y at *
                  have hki : (k : Int) < (n : Int) := by omega
                  have hpi : (p : Int) < (n : Int) := by omega
                  have hne := neq_same
                  go_wp2_with fail
                  go_quiet (fail)
                  go_wp2_with fail
                  have d1 : (wr.drewN nq).cell? _ = _ := c1
                  have d2 : (wr.drewN nq).cell? _ = _ := c2
                  have d4 : (wr.drewN nq).cell? _ = _ := c4
                  have d5 : (wr.drewN nq).cell? _ = _ := c5
                  have d6 : (wr.drewN nq).cell? _ = _ := c6
                  have S3 : Hid (St w (wr.drewN nq) w.heap.size n z n hq w1.heap.size) := S2.out.drewN nq
                  clear c1 c2 c3 c4 c5 c6 S2 hne
                  generalize wr.drewN nq = w3 at *
                  go_quiet (first | (go_at_call 10; exact Calls.quiet_of_same (index_any _ _ _ d4)) | (go_at_call 11; exact Calls.quiet_of_same (period_any _ _ _ d5)))
                  go_wp2_with fail
                  go_roundw
                  case rel => exact ⟨k + 1, by omega, by go_num, _, S3.out.drewN _⟩
                  case measure => simp [intOf]; omega
                · go_wp2
                  go_ret
                  exact ⟨rfl, S.below⟩

end Go.Proofs.Qxb6614282a
