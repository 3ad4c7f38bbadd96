import Derived.Test.Qxb6614282aCalls
namespace Go.Proofs.Qxb6614282a
open Go.RowKit Go.Deep

theorem Try.info33 : (Try.prog.info? 33).map (fun i => (i.zero, i.size, i.bytes)) = some (some (.pointer none), 1, 8) := by kernel_rfl

/-- Half built: the first k timers are laid. -/
structure Half (w : World) (B n : Nat) (z : Nat → Int) (k : Nat) : Prop where
  row : w.rowIs B 33 n (fun j => if j < k then .pointer (some ⟨B + 2 + j, 0, none⟩) else .pointer none)
  orig : w.rowIs (B + 1) 33 n (fun j => if j < k then .pointer (some ⟨B + 2 + j, 0, none⟩) else .pointer none)
  tim : ∀ j, j < k → Tim w (B + 2 + j) (z j) j
  size : w.heap.size = B + 2 + k

theorem Half.start (w : World) (n : Nat) (z : Nat → Int) :
    Half ((w.alloc (.cells (madeCells #[.pointer none] n) 33)).alloc (.cells (madeCells #[.pointer none] n) 33)) w.heap.size n z 0 := by
  refine ⟨?_, ?_, fun j hj => by omega, by simp⟩
  · exact ((World.rowIs_made w (.pointer none) n 33).alloc _).congr fun i _ => by simp
  · have := World.rowIs_made (w.alloc (.cells (madeCells #[.pointer none] n) 33)) (.pointer none) n 33
    rw [nblk_alloc] at this
    exact this.congr fun i _ => by simp

theorem Half.step {w : World} {B n : Nat} {z : Nat → Int} {k : Nat} (h : Half w B n z k) :
    Half (((w.setCell ⟨B, k, none⟩ (.pointer (some ⟨w.heap.size, 0, none⟩))).setCell ⟨B + 1, k, none⟩ (.pointer (some ⟨w.heap.size, 0, none⟩))).alloc (.cells #[.pointer none, .nilFunc, .chan none, .int .i64 (z k), .int .u64 0, .int .i64 0, .pointer none, .int .i64 k] 54)) B n z (k + 1) := by
  have hs := h.size
  refine ⟨?_, ?_, ?_, by rw [nblk_alloc, nblk_setCell, nblk_setCell]; omega⟩
  · refine (((h.row.set k _).setOther (by simp) _).alloc _).congr fun i _ => ?_
    show (if i = k then _ else if i < k then _ else _) = if i < k + 1 then _ else _
    by_cases e : i = k
    · subst e; rw [if_pos rfl, if_pos (by omega), hs]
    · rw [if_neg e]
      by_cases l : i < k
      · rw [if_pos l, if_pos (by omega)]
      · rw [if_neg l, if_neg (by omega)]
  · refine (((h.orig.setOther (by simp) _).set k _).alloc _).congr fun i _ => ?_
    show (if i = k then _ else if i < k then _ else _) = if i < k + 1 then _ else _
    by_cases e : i = k
    · subst e; rw [if_pos rfl, if_pos (by omega), hs]
    · rw [if_neg e]
      by_cases l : i < k
      · rw [if_pos l, if_pos (by omega)]
      · rw [if_neg l, if_neg (by omega)]
  · intro j hj
    by_cases e : j = k
    · subst e
      have t := tim_new ((w.setCell ⟨B, j, none⟩ (.pointer (some ⟨w.heap.size, 0, none⟩))).setCell ⟨B + 1, j, none⟩ (.pointer (some ⟨w.heap.size, 0, none⟩))) (z j) j
      rw [nblk_setCell, nblk_setCell, hs] at t
      rw [hs]
      exact t
    · exact (((h.tim j (by omega)).setOther (by simp; omega) _).setOther (by simp; omega) _).alloc _

theorem Half.done {w : World} {B n : Nat} {z : Nat → Int} (h : Half w B n z n) : Inv w B n z n (fun k => k) := by
  refine ⟨Nat.le_refl _, ⟨_, h.row, fun k hk => if_pos hk⟩, h.orig.congr fun i hi => if_pos hi, fun k hk => ⟨_, h.tim k hk⟩, h.tim, fun k hk => hk, fun k l _ _ e => e⟩

/-- What is known of the slice of numbers that came in. -/
def Nums (w : World) (a : Option Addr) (n : Nat) (z : Nat → Int) : Prop :=
  ∀ k, k < n → ∃ b off, a = some ⟨b, off, none⟩ ∧ b < w.heap.size ∧ ∀ k, k < n → w.cell? ⟨b, off + k, none⟩ = some (.int .i64 (z k))

theorem Nums.below {w w' : World} {a : Option Addr} {n : Nat} {z : Nat → Int} (h : Nums w a n z) (hb : Below w.heap.size w w') : Nums w' a n z := by
  intro k hk
  obtain ⟨b, off, e, hlt, hc⟩ := h k hk
  exact ⟨b, off, e, by have := hb.size; omega, fun k hk => (hb.cell (p := ⟨b, off + k, none⟩) hlt).trans (hc k hk)⟩

set_option maxHeartbeats 400000 in
theorem build_any (a : Option Addr) (n cap : Nat) (z : Nat → Int) (w : World) (hn : n ≤ 1000000) (ha : Nums w a n z) :
    Calls Try.prog 8 #[.slice a n cap] w fun e w' => e = .returned (.tuple #[.slice (some ⟨w.heap.size, 0, none⟩) n n, .slice (some ⟨w.heap.size + 1, 0, none⟩) n n]) ∧
      Inv w' w.heap.size n z n (fun k => k) ∧ Below w.heap.size w w' ∧ w'.heap.size = w.heap.size + 2 + n := by
  have hmk := run_make_row' (P := Try.prog) 28 33 (.pointer none) 8 Try.underlying28 Try.info33 rfl .i64 .i64 n (by omega) (by omega)
  have hmk2 := run_make_row' (P := Try.prog) 27 33 (.pointer none) 8 Try.underlying27 Try.info33 rfl .i64 .i64 n (by omega) (by omega)
  go_enter Try.func8, Try.ntmps8
  go_wp2
  clear hmk hmk2
  go_loopw [7] (fun i wr => ∃ k : Nat, k ≤ n ∧ i = .int .i64 k ∧ Half wr w.heap.size n z k ∧ Below w.heap.size w wr) (fun i _ => n - (intOf i).toNat)
  case atStart => exact ⟨0, Nat.zero_le _, rfl, Half.start w n z, ((Below.refl _ _).alloc (Nat.le_refl _) _).alloc (by simp) _⟩
  case round =>
    obtain ⟨k, hk, rfl, H, hb⟩ := hrel
    by_cases hlt : k < n
    · obtain ⟨b, off, rfl, hbs, hc⟩ := ha k hlt
      have hcx : wr.cell? ⟨b, off + k, none⟩ = some (.int .i64 (z k)) := (hb.cell (p := ⟨b, off + k, none⟩) hbs).trans (hc k hlt)
      have c1 := H.row.cell hlt
      have c2 := H.orig.cell hlt
      have f1 := H.row.frozen k
      have f2 := H.orig.frozen k
      have s1 := H.row.lt
      have s2 := H.orig.lt
      simp only [Nat.lt_irrefl, if_false] at c1 c2
      have HR : Hid (Half (((wr.setCell ⟨w.heap.size, k, none⟩ (.pointer (some ⟨wr.heap.size, 0, none⟩))).setCell ⟨w.heap.size + 1, k, none⟩ (.pointer (some ⟨wr.heap.size, 0, none⟩))).alloc (.cells #[.pointer none, .nilFunc, .chan none, .int .i64 (z k), .int .u64 0, .int .i64 0, .pointer none, .int .i64 k] 54)) w.heap.size n z (k + 1)) := H.step
      clear H hc ha
      go_wp2_with (go_at_call 16; refine (newTimer_any _ _ _).mono ?_; rintro e w' ⟨rfl, rfl⟩)
      go_roundw
      case rel => exact ⟨k + 1, by omega, by go_num, HR.out, ((hb.setCell (Nat.le_refl _) _).setCell (Nat.le_succ _) _).alloc (by rw [nblk_setCell, nblk_setCell]; exact hb.size) _⟩
      case measure => simp [intOf]; omega
    · have e : k = n := by omega
      subst e
      go_wp2
      go_ret2
      exact ⟨rfl, H.done, hb, H.size⟩

end Go.Proofs.Qxb6614282a
