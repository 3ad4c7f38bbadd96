import Derived.Test.Qxb6614282aBuild
namespace Go.Proofs.Qxb6614282a
open Go.RowKit Go.Deep

theorem Try.info3 : (Try.prog.info? 3).map (fun i => (i.zero, i.size, i.bytes)) = some (some (.int .i64 0), 1, 8) := by kernel_rfl

/-- The heap and the list of timer numbers (block D) go together; what lay below B when the call began is as it was. -/
structure St (W w : World) (B n : Nat) (z : Nat → Int) (L : Nat) (hp : Nat → Nat) (D : Nat) : Prop where
  inv : Inv w B n z L hp
  ids : ∃ f, w.rowIs D 3 n f ∧ ∀ k, k < L → f k = .int .i64 (hp k : Nat)
  far : B + 2 + n ≤ D
  below : Below B W w

namespace St
variable {W w w1 : World} {B n L D : Nat} {z : Nat → Int} {hp : Nat → Nat}

theorem cell (S : St W w B n z L hp D) {k : Nat} (hk : k < L) : w.cell? ⟨D, k, none⟩ = some (.int .i64 (hp k : Nat)) := by
  obtain ⟨f, hf, e⟩ := S.ids
  rw [hf.cell (by have := S.inv.le; omega), e k hk]

theorem frozen (S : St W w B n z L hp D) (k : Nat) : w.frozen? ⟨D, k, none⟩ = false := by
  obtain ⟨f, hf, e⟩ := S.ids
  exact hf.frozen k

theorem drewN (S : St W w B n z L hp D) (q : Nat) : St W (w.drewN q) B n z L hp D :=
  ⟨S.inv.alike ⟨rfl, rfl, rfl⟩, S.ids, S.far, below_drewN S.below q⟩

/-- Behind the heap's own exchange the list reads as it did. -/
theorem cell_out (S : St W w B n z L hp D) (o : Out (Own B n) w w1) {k : Nat} (hk : k < L) : w1.cell? ⟨D, k, none⟩ = some (.int .i64 (hp k : Nat)) := by
  rw [← S.cell hk]
  exact World.cell?_of_block (w := w) (o.block D (fun h => by have := h.2; have := S.far; omega))

theorem frozen_out (S : St W w B n z L hp D) (o : Out (Own B n) w w1) (k : Nat) : w1.frozen? ⟨D, k, none⟩ = false := by
  rw [← S.frozen k]
  exact World.frozen?_of_block (w := w) (o.block D (fun h => by have := h.2; have := S.far; omega))

/-- The second cell of an exchange, behind the first store. -/
theorem cell_set (S : St W w B n z L hp D) (o : Out (Own B n) w w1) {i j : Nat} (hj : j < L) (v : Value) : ∃ u, (w1.setCell ⟨D, i, none⟩ v).cell? ⟨D, j, none⟩ = some u := by
  obtain ⟨f, hf, e⟩ := S.ids
  have h1 : w1.rowIs D 3 n f := hf.of_block (o.block D (fun h => by have := h.2; have := S.far; omega))
  exact ⟨_, (h1.set i v).cell (by have := S.inv.le; omega)⟩

theorem frozen_set (S : St W w B n z L hp D) (o : Out (Own B n) w w1) (i j : Nat) (v : Value) : (w1.setCell ⟨D, i, none⟩ v).frozen? ⟨D, j, none⟩ = false := by
  obtain ⟨f, hf, e⟩ := S.ids
  have h1 : w1.rowIs D 3 n f := hf.of_block (o.block D (fun h => by have := h.2; have := S.far; omega))
  exact (h1.set i v).frozen j

/-- One exchange on both sides. -/
theorem swapped (S : St W w B n z L hp D) {i j : Nat} (I1 : Inv w1 B n z L (swp hp i j)) (o : Out (Own B n) w w1) :
    St W ((w1.setCell ⟨D, i, none⟩ (.int .i64 (hp j : Nat))).setCell ⟨D, j, none⟩ (.int .i64 (hp i : Nat))) B n z L (swp hp i j) D := by
  have hf := S.far
  refine ⟨I1.of_blocks fun k h1 h2 => ?_, ?_, S.far, ?_⟩
  · rw [blk_setCell_other _ _ _ _ (by simp; omega), blk_setCell_other _ _ _ _ (by simp; omega)]
  · obtain ⟨f, hf, e⟩ := S.ids
    have h1 : w1.rowIs D 3 n f := hf.of_block (o.block D (fun h => by have := h.2; omega))
    refine ⟨_, (h1.set i _).set j _, fun k hk => ?_⟩
    show (if k = j then _ else if k = i then _ else f k) = _
    unfold swp
    split
    · rfl
    · split
      · rfl
      · exact e k hk
  · exact ((S.below.trans (o.below fun k hk => hk.1)).setCell (by simp; omega) _).setCell (by simp; omega) _

end St

/-- The list while it is filled. -/
structure Fil (W w : World) (B n : Nat) (z : Nat → Int) (D k : Nat) : Prop where
  inv : Inv w B n z n (fun k => k)
  ids : w.rowIs D 3 n (fun j => if j < k then .int .i64 j else .int .i64 0)
  far : B + 2 + n ≤ D
  below : Below B W w

namespace Fil
variable {W w : World} {B n D k : Nat} {z : Nat → Int}

theorem start (I : Inv w B n z n (fun k => k)) (hs : w.heap.size = B + 2 + n) (hb : Below B W w) : Fil W (w.alloc (.cells (madeCells #[.int .i64 0] n) 3)) B n z w.heap.size 0 :=
  ⟨I.alloc (by omega) _, (World.rowIs_made w (.int .i64 0) n 3).congr fun i _ => by simp, by omega, hb.alloc (by omega) _⟩

theorem step (F : Fil W w B n z D k) : Fil W (w.setCell ⟨D, k, none⟩ (.int .i64 k)) B n z D (k + 1) := by
  have hf := F.far
  refine ⟨F.inv.of_blocks fun j h1 h2 => ?_, (F.ids.set k _).congr fun i _ => ?_, F.far, F.below.setCell (by simp; omega) _⟩
  · rw [blk_setCell_other _ _ _ _ (by simp; omega)]
  · show (if i = k then _ else if i < k then _ else _) = if i < k + 1 then _ else _
    by_cases e : i = k
    · subst e; rw [if_pos rfl, if_pos (by omega)]
    · rw [if_neg e]
      by_cases l : i < k
      · rw [if_pos l, if_pos (by omega)]
      · rw [if_neg l, if_neg (by omega)]

theorem done (F : Fil W w B n z D n) : St W w B n z n (fun k => k) D :=
  ⟨F.inv, ⟨_, F.ids, fun _ hk => if_pos hk⟩, F.far, F.below⟩

end Fil
/-- What is known of the slice of pairs that came in. -/
def Pairs (w : World) (a : Option Addr) (n : Nat) (I J : Nat → Int) : Prop :=
  ∀ k, k < n → ∃ b off, a = some ⟨b, off, none⟩ ∧ b < w.heap.size ∧ ∀ k, k < n → w.cell? ⟨b, off + k * 2, none⟩ = some (.int .i64 (I k)) ∧ w.cell? ⟨b, off + k * 2 + 1, none⟩ = some (.int .i64 (J k))

theorem Pairs.below {w w' : World} {a : Option Addr} {n : Nat} {I J : Nat → Int} (h : Pairs w a n I J) (hb : Below w.heap.size w w') : Pairs w' a n I J := by
  intro k hk
  obtain ⟨b, off, e, hlt, hc⟩ := h k hk
  exact ⟨b, off, e, by have := hb.size; omega, fun k hk => ⟨(hb.cell (p := ⟨b, off + k * 2, none⟩) hlt).trans (hc k hk).1, (hb.cell (p := ⟨b, off + k * 2 + 1, none⟩) hlt).trans (hc k hk).2⟩⟩

/-- The heap, its variable h in block c, L timers left. -/
structure Var (W w : World) (B n : Nat) (z : Nat → Int) (L : Nat) (hp : Nat → Nat) (c : Nat) : Prop where
  inv : Inv w B n z L hp
  var : w.heap[c]? = some (.cells #[.slice (some ⟨B, 0, none⟩) L n] 28 (0, 0))
  far : B + 2 + n ≤ c
  below : Below B W w

theorem Var.start {W w : World} {B n : Nat} {z : Nat → Int} (I : Inv w B n z n (fun k => k)) (hs : w.heap.size = B + 2 + n) (hb : Below B W w) :
    Var W (w.alloc (.cells #[.slice (some ⟨B, 0, none⟩) n n] 28)) B n z n (fun k => k) w.heap.size :=
  ⟨I.alloc (by omega) _, blk_alloc_new _ _, by omega, hb.alloc (by omega) _⟩

theorem Var.drewN {W w : World} {B n : Nat} {z : Nat → Int} {L : Nat} {hp : Nat → Nat} {c : Nat} (S : Var W w B n z L hp c) (q : Nat) : Var W (w.drewN q) B n z L hp c :=
  ⟨S.inv.alike ⟨rfl, rfl, rfl⟩, S.var, S.far, below_drewN S.below q⟩

theorem Var.pop {W w w' : World} {B n : Nat} {z : Nat → Int} {L : Nat} {hp : Nat → Nat} {c : Nat} (S : Var W w B n z (L + 1) hp c) (I : Inv w' B n z L hp)
    (v : w'.heap[c]? = some (.cells #[.slice (some ⟨B, 0, none⟩) L n] 28 (0, 0))) (o : Out (fun k => Own B n k ∨ k = c) w w') : Var W w' B n z L hp c :=
  ⟨I, v, S.far, S.below.trans (o.below fun k hk => by have := S.far; rcases hk with hk | hk <;> first | exact hk.1 | omega)⟩

end Go.Proofs.Qxb6614282a
