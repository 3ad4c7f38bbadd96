import Derived.Test.Qxb6614282aSwap
import Derived.Test.Qxb6614282aPop
import Derived.Test.Qxb6614282aInv
namespace Go.Proofs.Qxb6614282a
open Go.RowKit Go.Deep

/-- The blocks of a heap of n timers, from B on. -/
def Own (B n : Nat) : Nat → Prop := fun k => B ≤ k ∧ k < B + 2 + n

theorem swap_inv {w : World} {B n L : Nat} {z : Nat → Int} {hp : Nat → Nat} (I : Inv w B n z L hp) (i j : Nat) (hi : i < L) (hj : j < L) :
    Calls Try.prog 9 #[.slice (some ⟨B, 0, none⟩) L n, .int .i64 i, .int .i64 j] w fun e w' => e = .returned (.tuple #[]) ∧ Inv w' B n z L (swp hp i j) ∧ Out (Own B n) w w' := by
  have li := I.lt i hi
  have lj := I.lt j hj
  have fin : ∀ w' : World, w'.Alike ((((w.setCell ⟨B, i, none⟩ (.pointer (some ⟨B + 2 + hp j, 0, none⟩))).setCell ⟨B, j, none⟩ (.pointer (some ⟨B + 2 + hp i, 0, none⟩))).setCell ⟨B + 2 + hp j, 7, none⟩ (.int .i64 i)).setCell ⟨B + 2 + hp i, 7, none⟩ (.int .i64 j)) → w'.tape = w.tape →
      Inv w' B n z L (swp hp i j) ∧ Out (Own B n) w w' := by
    intro w' hw ht
    refine ⟨(I.swap hi hj).alike hw, ?_⟩
    have o := ((((Out.refl (Own B n) w).setCell (a := ⟨B, i, none⟩) ⟨by simp, by simp; omega⟩ (.pointer (some ⟨B + 2 + hp j, 0, none⟩))).setCell (a := ⟨B, j, none⟩) ⟨by simp, by simp; omega⟩ (.pointer (some ⟨B + 2 + hp i, 0, none⟩))).setCell (a := ⟨B + 2 + hp j, 7, none⟩) ⟨by simp; omega, by simp; omega⟩ (.int .i64 i)).setCell (a := ⟨B + 2 + hp i, 7, none⟩) ⟨by simp; omega, by simp; omega⟩ (.int .i64 j)
    exact ⟨hw.2.1.trans o.os, ht, hw.2.2.trans o.output, by rw [hw.1]; exact o.size, fun k hk => by rw [hw.1]; exact o.block k hk⟩
  by_cases e : i = j
  · subst e
    refine (swap_eq B L n i (B + 2 + hp i) _ w hi (by omega) (I.cell hi) (I.frozen i) (I.idx i hi).cell7 (I.idx i hi).frozen7).mono ?_
    rintro e w' ⟨rfl, hw, ht⟩
    exact ⟨rfl, fin w' hw ht⟩
  · have hne : hp i ≠ hp j := fun h => e (I.inj i j hi hj h)
    refine (swap_ne B L n i j (B + 2 + hp i) (B + 2 + hp j) _ _ w hi hj e (by omega) (by omega) (by omega) (I.cell hi) (I.cell hj) (I.frozen i) (I.frozen j) (I.idx i hi).cell7 (I.idx j hj).cell7 (I.idx i hi).frozen7 (I.idx j hj).frozen7).mono ?_
    rintro e w' ⟨rfl, hw, ht⟩
    exact ⟨rfl, fin w' hw ht⟩

theorem zzpop_inv {w : World} {B n L : Nat} {z : Nat → Int} {hp : Nat → Nat} (I : Inv w B n z (L + 1) hp) (hn : n ≤ 1000000) (c : Nat) (hc : B + 2 + n ≤ c)
    (cc : w.heap[c]? = some (.cells #[.slice (some ⟨B, 0, none⟩) (L + 1) n] 28 (0, 0))) :
    Calls Try.prog 13 #[.pointer (some ⟨c, 0, none⟩)] w fun e w' => e = .returned (.pointer (some ⟨B + 2 + hp L, 0, none⟩)) ∧ Inv w' B n z L hp ∧ Tim w' (B + 2 + hp L) (z (hp L)) (-1) ∧
      w'.heap[c]? = some (.cells #[.slice (some ⟨B, 0, none⟩) L n] 28 (0, 0)) ∧ Out (fun k => Own B n k ∨ k = c) w w' := by
  have lL := I.lt L (by omega)
  have hle := I.le
  refine (zzpop_any c B L n (B + 2 + hp L) _ w (by omega) hn (by omega) (by omega) (by omega) (cell_of_one cc) (I.cell (by omega)) (free_of_one cc) (I.frozen L) (I.idx L (by omega)).cell7 (I.idx L (by omega)).frozen7).mono ?_
  rintro e w' ⟨rfl, rfl⟩
  refine ⟨rfl, I.pop hc _, I.popped hc _, ?_, ?_⟩
  · rw [blk_setCell_other _ _ _ _ (by simp; omega)]
    exact one_setCell (by rw [blk_setCell_other _ _ _ _ (by simp; omega)]; exact cc)
  · exact (((Out.refl _ w).setCell (.inl ⟨by simp, by simp; omega⟩) _).setCell (.inr rfl) _).setCell (.inl ⟨by simp; omega, by simp; omega⟩) _

end Go.Proofs.Qxb6614282a
