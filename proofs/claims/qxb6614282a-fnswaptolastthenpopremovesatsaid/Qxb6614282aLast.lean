import Derived.Test.Qxb6614282aState
namespace Go.Proofs.Qxb6614282a
open Go.RowKit Go.Deep

set_option maxHeartbeats 400000 in
theorem zz12_yes (a : Option Addr) (n cap : Nat) (x : Value) (w : World) (h : n ≤ 1048576) :
    Calls Try.prog 12 #[.slice a n cap, x] w fun e w' => e = .returned (.bool true) ∧ w = w' := by
  go_enter Try.func12, Try.ntmps12
  go_wp2
  go_ret
  exact ⟨rfl, rfl⟩

set_option maxHeartbeats 400000 in
theorem zz12_no (a : Option Addr) (n cap : Nat) (x : Value) (w : World) (h : ¬ n ≤ 1048576) :
    Calls Try.prog 12 #[.slice a n cap, x] w fun e w' => e = .returned (.bool false) ∧ w = w' := by
  go_enter Try.func12, Try.ntmps12
  go_wp2
  go_ret
  exact ⟨rfl, rfl⟩

theorem Var.swap {W w w' : World} {B n : Nat} {z : Nat → Int} {L : Nat} {hp hq : Nat → Nat} {c : Nat} (S : Var W w B n z L hp c) (I : Inv w' B n z L hq) (o : Out (Own B n) w w') : Var W w' B n z L hq c :=
  ⟨I, (o.block c (fun h => by have := S.far; have := h.2; omega)).trans S.var, S.far, S.below.trans (o.below fun k hk => hk.1)⟩

set_option maxRecDepth 100000 in
set_option maxHeartbeats 400000 in
theorem last_walk (a : Option Addr) (n cap : Nat) (z : Nat → Int) (x : Int) (w : World) (ha : Nums w a n z) :
    Calls Try.prog 4 #[.slice a n cap, .int .i64 x] w fun e w' => e = .returned (.bool true) ∧ Below w.heap.size w w' := by
  by_cases h1 : n ≤ 1048576
  case neg =>
    go_enter Try.func4, Try.ntmps4
    go_wp2_with (go_at_call 12; refine (zz12_no _ _ _ _ _ h1).mono ?_; rintro e w' ⟨rfl, rfl⟩)
    go_ret
    exact ⟨rfl, Below.refl _ _⟩
  by_cases h2 : n ≤ 131072
  case neg =>
    go_enter Try.func4, Try.ntmps4
    go_wp2_with (go_at_call 12; refine (zz12_yes _ _ _ _ _ h1).mono ?_; rintro e w' ⟨rfl, rfl⟩)
    go_ret
    exact ⟨rfl, Below.refl _ _⟩
  by_cases h3 : n < 1
  case pos =>
    go_enter Try.func4, Try.ntmps4
    go_wp2_with (go_at_call 12; refine (zz12_yes _ _ _ _ _ h1).mono ?_; rintro e w' ⟨rfl, rfl⟩)
    go_ret
    exact ⟨rfl, Below.refl _ _⟩
  by_cases h4 : x < 0
  case pos =>
    go_enter Try.func4, Try.ntmps4
    go_wp2_with (go_at_call 12; refine (zz12_yes _ _ _ _ _ h1).mono ?_; rintro e w' ⟨rfl, rfl⟩)
    go_ret
    exact ⟨rfl, Below.refl _ _⟩
  by_cases h5 : x < n
  case neg =>
    go_enter Try.func4, Try.ntmps4
    go_wp2_with (go_at_call 12; refine (zz12_yes _ _ _ _ _ h1).mono ?_; rintro e w' ⟨rfl, rfl⟩)
    go_ret
    exact ⟨rfl, Below.refl _ _⟩
  obtain ⟨i, rfl⟩ := Int.eq_ofNat_of_zero_le (show 0 ≤ x by omega)
  obtain ⟨m, hm⟩ : ∃ m, n = m + 1 := ⟨n - 1, by omega⟩
  have HM : Hid (n = m + 1) := hm
  have hi : i < n := by omega
  have hmn : m < n := by omega
  have hi' : (i : Int) < (n : Int) := by omega
  clear h3 h4 hm
  obtain ⟨b, off, rfl, hbs, hc⟩ := ha i hi
  have H1 : Hid (swp (fun k => k) i m m = i) := by simp [swp, Hid]
  have H2 : Hid ((n : Int) - 1 = (m : Int)) := by have := HM.out; show (n : Int) - 1 = (m : Int); omega
  go_enter Try.func4, Try.ntmps4
  go_wp2_with (go_at_call 12; refine (zz12_yes _ _ _ _ _ h1).mono ?_; rintro e w' ⟨rfl, rfl⟩)
  refine (build_any _ _ _ z _ (by omega) ha).mono ?_
  rintro e w1 ⟨rfl, I1, hb1, hs1⟩
  have S1 : Var w (w1.alloc (.cells #[.slice (some ⟨w.heap.size, 0, none⟩) n n] 28)) w.heap.size n z n (fun k => k) w1.heap.size := Var.start I1 hs1 hb1
  clear I1 hb1 hs1 ha
  go_wp2_with fail
  rw [H2.out]
  refine (swap_inv S1.inv i m hi hmn).mono ?_
  rintro e w2 ⟨rfl, I2, o2⟩
  have S2 := S1.swap I2 o2
  clear S1 I2 o2
  go_wp2_with fail
  have I3 : Inv w2 w.heap.size n z (m + 1) (swp (fun k => k) i m) := by rw [← HM.out]; exact S2.inv
  have v3 : w2.heap[w1.heap.size]? = some (.cells #[.slice (some ⟨w.heap.size, 0, none⟩) (m + 1) n] 28 (0, 0)) := by rw [← HM.out]; exact S2.var
  have key := zzpop_inv I3 (by omega) w1.heap.size S2.far v3
  rw [H1.out] at key
  refine key.mono ?_
  rintro e w4 ⟨rfl, I4, t4, v4, o4⟩
  have S4 : Var w w4 w.heap.size n z m (swp (fun k => k) i m) w1.heap.size := by
    have S3 : Var w w2 w.heap.size n z (m + 1) (swp (fun k => k) i m) w1.heap.size := ⟨I3, v3, S2.far, S2.below⟩
    exact S3.pop I4 v4 o4
  clear key I3 v3 S2 I4 v4 o4
  have cv := cell_of_one S4.var
  have c2 := S4.inv.ocell (k := i) hi
  have c3 := t4.cell7
  have c4 := t4.cell3
  have c5 := (S4.below.cell (p := ⟨b, off + i, none⟩) hbs).trans (hc i hi)
  have S5 : Hid (Var w w4 w.heap.size n z m (swp (fun k => k) i m) w1.heap.size) := S4
  clear S4 t4
  have hne := neq_same
  go_wp2_with fail
  go_quiet (first | (go_at_call 10; exact Calls.quiet_of_same (index_any _ _ _ c3)) | (go_at_call 11; exact Calls.quiet_of_same (period_any _ _ _ c4)))
  have S6 : Hid (Var w (w4.drewN nq) w.heap.size n z m (swp (fun k => k) i m) w1.heap.size) := S5.out.drewN nq
  have hb2 : ((m : Int) != (n : Int) - 1) = false := by have := HM.out; simp; omega
  go_wp2_with fail
  rw [H2.out]
  go_loopw [9] (fun s wr => ∃ k : Nat, k ≤ m ∧ s = .int .i64 k ∧ Var w wr w.heap.size n z m (swp (fun k => k) i m) w1.heap.size) (fun s _ => m - (intOf s).toNat)
  case atStart => exact ⟨0, Nat.zero_le _, rfl, S6.out⟩
  case round =>
    clear S5 S6 cv c2 c3 c4 c5 hb2
    obtain ⟨k, hk, rfl, S⟩ := hrel
    by_cases hlt : k < m
    · have hkn : (k : Int) < (n : Int) - 1 := by have := HM.out; omega
      have hki : (k : Int) < (m : Int) := by omega
      have hmi : (m : Int) < (n : Int) := by omega
      have hkk : (k : Int) < (n : Int) := by omega
      have cv := cell_of_one S.var
      have hlq := S.inv.lt k hlt
      have c1 := S.inv.cell hlt
      have c3 := S.inv.ocell hlq
      have c4 := S.inv.tcell hlt
      have c5 := S.inv.pcell hlq
      have c6 := (S.below.cell (p := ⟨b, off + swp (fun k => k) i m k, none⟩) hbs).trans (hc _ hlq)
      have S2 : Hid (Var w wr w.heap.size n z m (swp (fun k => k) i m) w1.heap.size) := S
      have hq : swp (fun k => k) i m k = if k = i then m else k := by simp only [swp]; rw [if_neg (by omega)]
      clear S hc
      by_cases e : k = i
      · rw [if_pos e] at hq
        rw [hq] at c1 c3 c4 c5 c6
        clear hlq hq
        subst e
        go_wp2_with fail
        rw [H2.out]
        go_quiet (fail)
        go_wp2_with fail
        have d0 : (wr.drewN nq).cell? _ = _ := cv
        have d1 : (wr.drewN nq).cell? _ = _ := c1
        have d4 : (wr.drewN nq).cell? _ = _ := c4
        have d5 : (wr.drewN nq).cell? _ = _ := c5
        have d6 : (wr.drewN nq).cell? _ = _ := c6
        have S3 : Hid (Var w (wr.drewN nq) w.heap.size n z m (swp (fun k => k) k m) w1.heap.size) := S2.out.drewN nq
        clear cv c1 c3 c4 c5 c6 S2 hne
        generalize wr.drewN nq = w3 at *
        go_quiet (first | (go_at_call 10; exact Calls.quiet_of_same (index_any _ _ _ d4)) | (go_at_call 11; exact Calls.quiet_of_same (period_any _ _ _ d5)))
        go_wp2_with fail
        go_roundw
        case rel => exact ⟨k + 1, by omega, by go_num, S3.out.drewN _⟩
        case measure => simp [intOf]; omega
      · rw [if_neg e] at hq
        rw [hq] at c1 c3 c4 c5 c6
        clear hlq hq
        have hkb : ((k : Int) == (i : Int)) = false := by simp; omega
        go_wp2_with fail
        go_quiet (fail)
        go_wp2_with fail
        have d0 : (wr.drewN nq).cell? _ = _ := cv
        have d1 : (wr.drewN nq).cell? _ = _ := c1
        have d4 : (wr.drewN nq).cell? _ = _ := c4
        have d5 : (wr.drewN nq).cell? _ = _ := c5
        have d6 : (wr.drewN nq).cell? _ = _ := c6
        have S3 : Hid (Var w (wr.drewN nq) w.heap.size n z m (swp (fun k => k) i m) w1.heap.size) := S2.out.drewN nq
        clear cv c1 c3 c4 c5 c6 S2 hne
        generalize wr.drewN nq = w3 at *
        go_quiet (first | (go_at_call 10; exact Calls.quiet_of_same (index_any _ _ _ d4)) | (go_at_call 11; exact Calls.quiet_of_same (period_any _ _ _ d5)))
        go_wp2_with fail
        go_roundw
        case rel => exact ⟨k + 1, by omega, by go_num, S3.out.drewN _⟩
        case measure => simp [intOf]; omega
    · have hkn : ¬ (k : Int) < (n : Int) - 1 := by have := HM.out; omega
      go_wp2
      go_ret
      exact ⟨rfl, S.below⟩

end Go.Proofs.Qxb6614282a
