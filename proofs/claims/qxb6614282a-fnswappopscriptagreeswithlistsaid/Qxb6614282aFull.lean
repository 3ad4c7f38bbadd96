import Derived.Test.Qxb6614282aState
namespace Go.Proofs.Qxb6614282a
open Go.RowKit Go.Deep

/-- What is known of the slice of steps that came in. -/
def Steps (w : World) (a : Option Addr) (n : Nat) (P : Nat → Bool) (I J : Nat → Int) : Prop :=
  ∀ k, k < n → ∃ b off, a = some ⟨b, off, none⟩ ∧ b < w.heap.size ∧ ∀ k, k < n → w.cell? ⟨b, off + k * 3, none⟩ = some (.bool (P k)) ∧ w.cell? ⟨b, off + k * 3 + 1, none⟩ = some (.int .i64 (I k)) ∧ w.cell? ⟨b, off + k * 3 + 2, none⟩ = some (.int .i64 (J k))

/-- How many timers are live behind the first k steps. -/
def live (n : Nat) (P : Nat → Bool) : Nat → Nat
  | 0 => n
  | k + 1 => if P k then live n P k - 1 else live n P k

theorem live_le (n : Nat) (P : Nat → Bool) (k : Nat) : live n P k ≤ n := by
  induction k with
  | zero => exact Nat.le_refl _
  | succ k ih =>
    show (if P k then live n P k - 1 else live n P k) ≤ n
    split <;> omega

theorem live_pop {n : Nat} {P : Nat → Bool} {k : Nat} (h : P k = true) : live n P (k + 1) = live n P k - 1 := by
  show (if P k then live n P k - 1 else live n P k) = _
  rw [if_pos h]

theorem live_swap {n : Nat} {P : Nat → Bool} {k : Nat} (h : P k = false) : live n P (k + 1) = live n P k := by
  show (if P k then live n P k - 1 else live n P k) = _
  rw [if_neg (by simp [h])]

/-- Step t stays in range. -/
def Good (n : Nat) (P : Nat → Bool) (I J : Nat → Int) (t : Nat) : Prop :=
  (P t = true → 1 ≤ live n P t) ∧ (P t = false → 0 ≤ I t ∧ I t < live n P t ∧ 0 ≤ J t ∧ J t < live n P t)

/-- The heap, its variable h (block c), the list of timer numbers (block D). -/
structure Full (W w : World) (B n : Nat) (z : Nat → Int) (L : Nat) (hp : Nat → Nat) (c D : Nat) : Prop where
  st : St W w B n z L hp D
  var : w.heap[c]? = some (.cells #[.slice (some ⟨B, 0, none⟩) L n] 28 (0, 0))
  far : B + 2 + n ≤ c
  ne : c ≠ D

namespace Full
variable {W w w1 : World} {B n L c D : Nat} {z : Nat → Int} {hp : Nat → Nat}

theorem drewN (S : Full W w B n z L hp c D) (q : Nat) : Full W (w.drewN q) B n z L hp c D := ⟨S.st.drewN q, S.var, S.far, S.ne⟩

theorem var_out (S : Full W w B n z L hp c D) (o : Out (Own B n) w w1) : w1.heap[c]? = some (.cells #[.slice (some ⟨B, 0, none⟩) L n] 28 (0, 0)) :=
  (o.block c (fun h => by have := S.far; have := h.2; omega)).trans S.var

theorem swapped (S : Full W w B n z L hp c D) {i j : Nat} (I1 : Inv w1 B n z L (swp hp i j)) (o : Out (Own B n) w w1) :
    Full W ((w1.setCell ⟨D, i, none⟩ (.int .i64 (hp j : Nat))).setCell ⟨D, j, none⟩ (.int .i64 (hp i : Nat))) B n z L (swp hp i j) c D := by
  have hne := S.ne
  refine ⟨S.st.swapped I1 o, ?_, S.far, S.ne⟩
  rw [blk_setCell_other _ _ _ _ (by simp; omega), blk_setCell_other _ _ _ _ (by simp; omega)]
  exact S.var_out o

theorem popped (S : Full W w B n z (L + 1) hp c D) (I1 : Inv w1 B n z L hp) (v : w1.heap[c]? = some (.cells #[.slice (some ⟨B, 0, none⟩) L n] 28 (0, 0)))
    (o : Out (fun k => Own B n k ∨ k = c) w w1) : Full W w1 B n z L hp c D := by
  have h1 := S.st.far
  have h2 := S.far
  have h3 := S.ne
  refine ⟨⟨I1, ?_, S.st.far, S.st.below.trans (o.below fun k hk => by rcases hk with hk | hk <;> first | exact hk.1 | omega)⟩, v, S.far, S.ne⟩
  obtain ⟨f, hf, e⟩ := S.st.ids
  exact ⟨f, hf.of_block (o.block D (fun h => by rcases h with h | h <;> first | (have := h.2; omega) | omega)), fun k hk => e k (by omega)⟩

end Full

/-- The list while it is filled, h in its variable. -/
structure FullFil (W w : World) (B n : Nat) (z : Nat → Int) (c D k : Nat) : Prop where
  fil : Fil W w B n z D k
  var : w.heap[c]? = some (.cells #[.slice (some ⟨B, 0, none⟩) n n] 28 (0, 0))
  far : B + 2 + n ≤ c
  ne : c ≠ D

namespace FullFil
variable {W w : World} {B n c D k : Nat} {z : Nat → Int}

theorem start (I : Inv w B n z n (fun k => k)) (hs : w.heap.size = B + 2 + n) (hb : Below B W w) :
    FullFil W ((w.alloc (.cells #[.slice (some ⟨B, 0, none⟩) n n] 28)).alloc (.cells (madeCells #[.int .i64 0] n) 3)) B n z w.heap.size (w.heap.size + 1) 0 := by
  refine ⟨⟨(I.alloc (by omega) _).alloc (by rw [nblk_alloc]; omega) _, ?_, by omega, (hb.alloc (by omega) _).alloc (by rw [nblk_alloc]; omega) _⟩, ?_, by omega, by omega⟩
  · have := World.rowIs_made (w.alloc (.cells #[.slice (some ⟨B, 0, none⟩) n n] 28)) (.int .i64 0) n 3
    rw [nblk_alloc] at this
    exact this.congr fun i _ => by simp
  · rw [blk_alloc_lt _ _ _ (by rw [nblk_alloc]; omega)]
    exact blk_alloc_new _ _

theorem step (F : FullFil W w B n z c D k) : FullFil W (w.setCell ⟨D, k, none⟩ (.int .i64 k)) B n z c D (k + 1) := by
  have hne := F.ne
  refine ⟨F.fil.step, ?_, F.far, F.ne⟩
  rw [blk_setCell_other _ _ _ _ (by simp; omega)]
  exact F.var

theorem done (F : FullFil W w B n z c D n) : Full W w B n z n (fun k => k) c D := ⟨F.fil.done, F.var, F.far, F.ne⟩
end FullFil
end Go.Proofs.Qxb6614282a
