import Derived.Test.Qxb6614282aState
namespace Go.Proofs.Qxb6614282a
open Go.RowKit Go.Deep

set_option maxHeartbeats 400000 in
theorem zz14_yes (a : Option Addr) (n cap : Nat) (w : World) (h : n ≤ 1048576) :
    Calls Try.prog 14 #[.slice a n cap] w fun e w' => e = .returned (.bool true) ∧ w = w' := by
  go_enter Try.func14, Try.ntmps14
  go_wp2
  go_ret
  exact ⟨rfl, rfl⟩

set_option maxHeartbeats 400000 in
theorem zz14_no (a : Option Addr) (n cap : Nat) (w : World) (h : ¬ n ≤ 1048576) :
    Calls Try.prog 14 #[.slice a n cap] w fun e w' => e = .returned (.bool false) ∧ w = w' := by
  go_enter Try.func14, Try.ntmps14
  go_wp2
  go_ret
  exact ⟨rfl, rfl⟩

set_option maxRecDepth 100000 in
set_option maxHeartbeats 400000 in
theorem drain_walk (a : Option Addr) (n cap : Nat) (z : Nat → Int) (w : World) (ha : Nums w a n z) :
    Calls Try.prog 5 #[.slice a n cap] w fun e w' => e = .returned (.bool true) ∧ Below w.heap.size w w' := by
  by_cases h1 : n ≤ 1048576
  case neg =>
    go_enter Try.func5, Try.ntmps5
    go_wp2_with (go_at_call 14; refine (zz14_no _ _ _ _ h1).mono ?_; rintro e w' ⟨rfl, rfl⟩)
    go_ret
    exact ⟨rfl, Below.refl _ _⟩
  by_cases h2 : n ≤ 131072
  case neg =>
    go_enter Try.func5, Try.ntmps5
    go_wp2_with (go_at_call 14; refine (zz14_yes _ _ _ _ h1).mono ?_; rintro e w' ⟨rfl, rfl⟩)
    go_ret
    exact ⟨rfl, Below.refl _ _⟩
  go_enter Try.func5, Try.ntmps5
  go_wp2_with (go_at_call 14; refine (zz14_yes _ _ _ _ h1).mono ?_; rintro e w' ⟨rfl, rfl⟩)
  refine (build_any _ _ _ z _ (by omega) ha).mono ?_
  rintro e w1 ⟨rfl, I1, hb1, hs1⟩
  have S1 : Hid (Var w (w1.alloc (.cells #[.slice (some ⟨w.heap.size, 0, none⟩) n n] 28)) w.heap.size n z n (fun k => k) w1.heap.size) := Var.start I1 hs1 hb1
  clear I1 hb1 hs1
  go_wp2
  go_loopw [5] (fun i wr => ∃ L : Nat, L ≤ n ∧ i = .int .i64 ((L : Int) - 1) ∧ Var w wr w.heap.size n z L (fun k => k) w1.heap.size) (fun i _ => (intOf i + 1).toNat)
  case atStart => exact ⟨n, Nat.le_refl _, rfl, S1.out⟩
  case round =>
    clear S1
    obtain ⟨L, hL, rfl, S⟩ := hrel
    have cv := cell_of_one S.var
    match L with
    | 0 =>
      go_wp2
      go_ret
      exact ⟨rfl, S.below⟩
    | k + 1 =>
      rw [show (((k + 1 : Nat) : Int) - 1) = (k : Int) from by omega]
      obtain ⟨b, off, rfl, hbs, hc⟩ := ha k hL
      have c1 := S.inv.cell (k := k) (by omega)
      have c2 := S.inv.ocell (k := k) hL
      have c3 := S.inv.tcell (k := k) (by omega)
      have S2 : Hid (Var w wr w.heap.size n z (k + 1) (fun k => k) w1.heap.size) := S
      clear S
      have hki : (k : Int) < (n : Int) := by omega
      have hne := neq_same
      go_wp2_with fail
      go_quiet ((go_at_call 10; exact Calls.quiet_of_same (index_any _ _ _ c3)))
      go_wp2_with fail
      have S3 := S2.out.drewN nq
      clear cv c1 c2 c3 S2
      generalize wr.drewN nq = w3 at *
      refine (zzpop_inv S3.inv (by omega) w1.heap.size S3.far S3.var).mono ?_
      rintro e w4 ⟨rfl, I4, t4, v4, o4⟩
      have S4 := S3.pop I4 v4 o4
      clear I4 v4 o4 S3
      have cv := cell_of_one S4.var
      have c2 := S4.inv.ocell (k := k) hL
      have c3 := t4.cell7
      have c4 := t4.cell3
      have c5 := (S4.below.cell (p := ⟨b, off + k, none⟩) hbs).trans (hc k hL)
      have S5 : Hid (Var w w4 w.heap.size n z k (fun k => k) w1.heap.size) := S4
      clear S4 t4 hc ha
      go_wp2_with fail
      go_quiet (first | (go_at_call 10; exact Calls.quiet_of_same (index_any _ _ _ c3)) | (go_at_call 11; exact Calls.quiet_of_same (period_any _ _ _ c4)))
      go_wp2_with fail
      go_roundw
      case rel => exact ⟨k, by omega, rfl, S5.out.drewN _⟩
      case measure => simp [intOf]

end Go.Proofs.Qxb6614282a
