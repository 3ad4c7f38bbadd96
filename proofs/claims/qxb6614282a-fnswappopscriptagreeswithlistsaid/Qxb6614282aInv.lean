import Derived.Test.Qxb6614282aParts
namespace Go.Proofs.Qxb6614282a
open Go.RowKit Go.Deep

/-! ### A timer in memory -/

/-- Block b is a timer: its period p, its index i. -/
def Tim (w : World) (b : Nat) (p i : Int) : Prop :=
  ∃ c : Array Value, w.heap[b]? = some (.cells c 54 (0, 0)) ∧ c[3]? = some (.int .i64 p) ∧ c[7]? = some (.int .i64 i)

namespace Tim
variable {w : World} {b : Nat} {p i : Int}

theorem cell3 (h : Tim w b p i) : w.cell? ⟨b, 3, none⟩ = some (.int .i64 p) := by
  obtain ⟨c, hb, h3, _⟩ := h
  simp [World.cell?, hb, h3]

theorem cell7 (h : Tim w b p i) : w.cell? ⟨b, 7, none⟩ = some (.int .i64 i) := by
  obtain ⟨c, hb, _, h7⟩ := h
  simp [World.cell?, hb, h7]

theorem frozen7 (h : Tim w b p i) : w.frozen? ⟨b, 7, none⟩ = false := by
  obtain ⟨c, hb, _, _⟩ := h
  simp [World.frozen?, hb]

theorem lt (h : Tim w b p i) : b < w.heap.size := by
  obtain ⟨c, hb, _, _⟩ := h
  obtain ⟨hlt, _⟩ := Array.getElem?_eq_some_iff.1 hb
  exact hlt

theorem of_block {w' : World} (h : Tim w b p i) (e : w'.heap[b]? = w.heap[b]?) : Tim w' b p i := by
  obtain ⟨c, hb, h3, h7⟩ := h
  exact ⟨c, e.trans hb, h3, h7⟩

theorem setOther (h : Tim w b p i) {a : Addr} (ha : b ≠ a.block) (v : Value) : Tim (w.setCell a v) b p i := h.of_block (blk_setCell_other _ _ _ _ ha)

theorem alloc (h : Tim w b p i) (o : Obj) : Tim (w.alloc o) b p i := h.of_block (blk_alloc_lt _ _ _ h.lt)

theorem set7 (h : Tim w b p i) (j : Int) : Tim (w.setCell ⟨b, 7, none⟩ (.int .i64 j)) b p j := by
  obtain ⟨c, hb, h3, h7⟩ := h
  have h7' : 7 < c.size := by
    obtain ⟨hlt, _⟩ := Array.getElem?_eq_some_iff.1 h7
    exact hlt
  refine ⟨c.setIfInBounds 7 (.int .i64 j), ?_, ?_, ?_⟩
  · simp [World.setCell, Array.getElem?_modify, hb]
  · rw [Array.getElem?_setIfInBounds, if_neg (by omega)]
    exact h3
  · rw [Array.getElem?_setIfInBounds]
    simp [h7']

end Tim

/-- A timer that has just been laid. -/
theorem tim_new (w : World) (p i : Int) :
    Tim (w.alloc (.cells #[.pointer none, .nilFunc, .chan none, .int .i64 p, .int .u64 0, .int .i64 0, .pointer none, .int .i64 i] 54)) w.heap.size p i :=
  ⟨_, blk_alloc_new _ _, rfl, rfl⟩

/-! ### What a call leaves alone -/

/-- Outside S every block is as it was; the streams too; as many blocks as before. -/
structure Out (S : Nat → Prop) (w w' : World) : Prop where
  os : w'.os = w.os
  tape : w'.tape = w.tape
  output : w'.output = w.output
  size : w'.heap.size = w.heap.size
  block : ∀ k, ¬ S k → w'.heap[k]? = w.heap[k]?

namespace Out
variable {S : Nat → Prop} {w w' w'' : World}
theorem refl (S : Nat → Prop) (w : World) : Out S w w := ⟨rfl, rfl, rfl, rfl, fun _ _ => rfl⟩
theorem trans (h : Out S w w') (k : Out S w' w'') : Out S w w'' :=
  ⟨k.os.trans h.os, k.tape.trans h.tape, k.output.trans h.output, k.size.trans h.size, fun i hi => (k.block i hi).trans (h.block i hi)⟩
theorem setCell (h : Out S w w') {a : Addr} (ha : S a.block) (v : Value) : Out S w (w'.setCell a v) :=
  h.trans ⟨rfl, rfl, rfl, by rw [nblk_setCell], fun k hk => blk_setCell_other _ _ _ _ (fun e => hk (by rw [e]; exact ha))⟩
theorem mono {S' : Nat → Prop} (h : Out S w w') (hs : ∀ k, S k → S' k) : Out S' w w' := ⟨h.os, h.tape, h.output, h.size, fun k hk => h.block k (fun e => hk (hs k e))⟩
theorem below {B : Nat} (h : Out S w w') (hs : ∀ k, S k → B ≤ k) : Below B w w' :=
  ⟨h.os, h.tape, h.output, by rw [h.size]; exact Nat.le_refl _, fun k hk => h.block k (fun e => by have := hs k e; omega)⟩
end Out

/-! ### The heap of timers -/

/-- The first L places of the heap (block B) hold the timers 'hp 0', 'hp 1', ..; 'orig' (block B + 1) holds timer k at place k; timer k lies at block B + 2 + k with period z k; each timer in the heap has its place for its index. -/
structure Inv (w : World) (B n : Nat) (z : Nat → Int) (L : Nat) (hp : Nat → Nat) : Prop where
  le : L ≤ n
  row : ∃ f, w.rowIs B 33 n f ∧ ∀ k, k < L → f k = .pointer (some ⟨B + 2 + hp k, 0, none⟩)
  orig : w.rowIs (B + 1) 33 n (fun k => .pointer (some ⟨B + 2 + k, 0, none⟩))
  tim : ∀ k, k < n → ∃ i, Tim w (B + 2 + k) (z k) i
  idx : ∀ k, k < L → Tim w (B + 2 + hp k) (z (hp k)) k
  lt : ∀ k, k < L → hp k < n
  inj : ∀ k l, k < L → l < L → hp k = hp l → k = l

/-- Two places exchanged. -/
def swp (hp : Nat → Nat) (i j : Nat) : Nat → Nat := fun k => if k = j then hp i else if k = i then hp j else hp k

def place (i j k : Nat) : Nat := if k = j then i else if k = i then j else k
theorem swp_eq (hp : Nat → Nat) (i j k : Nat) : swp hp i j k = hp (place i j k) := by
  unfold swp place
  split
  · rfl
  · split <;> rfl
theorem place_lt {i j k L : Nat} (hi : i < L) (hj : j < L) (hk : k < L) : place i j k < L := by
  unfold place
  split
  · exact hi
  · split
    · exact hj
    · exact hk
theorem place_cases (i j k : Nat) : (k = j ∧ place i j k = i) ∨ (k ≠ j ∧ k = i ∧ place i j k = j) ∨ (k ≠ j ∧ k ≠ i ∧ place i j k = k) := by
  unfold place
  by_cases a : k = j
  · exact .inl ⟨a, if_pos a⟩
  · rw [if_neg a]
    by_cases b : k = i
    · exact .inr (.inl ⟨a, b, if_pos b⟩)
    · exact .inr (.inr ⟨a, b, if_neg b⟩)
theorem place_inj {i j k l : Nat} (h : place i j k = place i j l) : k = l := by
  have h1 := place_cases i j k
  have h2 := place_cases i j l
  omega

namespace Inv
variable {w w' : World} {B n L : Nat} {z : Nat → Int} {hp : Nat → Nat}

theorem cell (I : Inv w B n z L hp) {k : Nat} (hk : k < L) : w.cell? ⟨B, k, none⟩ = some (.pointer (some ⟨B + 2 + hp k, 0, none⟩)) := by
  obtain ⟨f, hf, e⟩ := I.row
  rw [hf.cell (by have := I.le; omega), e k hk]

theorem frozen (I : Inv w B n z L hp) (k : Nat) : w.frozen? ⟨B, k, none⟩ = false := by
  obtain ⟨f, hf, e⟩ := I.row
  exact hf.frozen k

theorem ocell (I : Inv w B n z L hp) {k : Nat} (hk : k < n) : w.cell? ⟨B + 1, k, none⟩ = some (.pointer (some ⟨B + 2 + k, 0, none⟩)) := I.orig.cell hk

theorem tcell (I : Inv w B n z L hp) {k : Nat} (hk : k < L) : w.cell? ⟨B + 2 + hp k, 7, none⟩ = some (.int .i64 k) := (I.idx k hk).cell7
theorem pcell (I : Inv w B n z L hp) {k : Nat} (hk : k < n) : w.cell? ⟨B + 2 + k, 3, none⟩ = some (.int .i64 (z k)) := by
  obtain ⟨i, h⟩ := I.tim k hk
  exact h.cell3

theorem of_blocks (I : Inv w B n z L hp) (h : ∀ k, B ≤ k → k < B + 2 + n → w'.heap[k]? = w.heap[k]?) : Inv w' B n z L hp := by
  refine ⟨I.le, ?_, I.orig.of_block (h _ (by omega) (by omega)), ?_, ?_, I.lt, I.inj⟩
  · obtain ⟨f, hf, e⟩ := I.row
    exact ⟨f, hf.of_block (h _ (by omega) (by omega)), e⟩
  · intro k hk
    obtain ⟨i, hi⟩ := I.tim k hk
    exact ⟨i, hi.of_block (h _ (by omega) (by omega))⟩
  · intro k hk
    have := I.lt k hk
    exact (I.idx k hk).of_block (h _ (by omega) (by omega))

theorem alloc (I : Inv w B n z L hp) (hs : B + 2 + n ≤ w.heap.size) (o : Obj) : Inv (w.alloc o) B n z L hp :=
  I.of_blocks fun k _ h2 => blk_alloc_lt _ _ _ (by omega)

theorem alike (I : Inv w B n z L hp) (h : w'.Alike w) : Inv w' B n z L hp := I.of_blocks fun k _ _ => by rw [h.1]

theorem swap (I : Inv w B n z L hp) {i j : Nat} (hi : i < L) (hj : j < L) :
    Inv ((((w.setCell ⟨B, i, none⟩ (.pointer (some ⟨B + 2 + hp j, 0, none⟩))).setCell ⟨B, j, none⟩ (.pointer (some ⟨B + 2 + hp i, 0, none⟩))).setCell ⟨B + 2 + hp j, 7, none⟩ (.int .i64 i)).setCell ⟨B + 2 + hp i, 7, none⟩ (.int .i64 j)) B n z L (swp hp i j) := by
  have li := I.lt i hi
  have lj := I.lt j hj
  refine ⟨I.le, ?_, ?_, ?_, ?_, ?_, ?_⟩
  · obtain ⟨f, hf, e⟩ := I.row
    refine ⟨_, (((hf.set i _).set j _).setOther (by simp; omega) _).setOther (by simp; omega) _, ?_⟩
    intro k hk
    show (if k = j then _ else if k = i then _ else f k) = _
    unfold swp
    split
    · rfl
    · split
      · rfl
      · exact e k hk
  · exact (((I.orig.setOther (by simp) _).setOther (by simp) _).setOther (by simp; omega) _).setOther (by simp; omega) _
  · intro k hk
    obtain ⟨t, ht⟩ := I.tim k hk
    have h2 := (ht.setOther (a := ⟨B, i, none⟩) (by simp; omega) (.pointer (some ⟨B + 2 + hp j, 0, none⟩))).setOther (a := ⟨B, j, none⟩) (by simp; omega) (.pointer (some ⟨B + 2 + hp i, 0, none⟩))
    have h3 : ∃ t, Tim (((w.setCell ⟨B, i, none⟩ (.pointer (some ⟨B + 2 + hp j, 0, none⟩))).setCell ⟨B, j, none⟩ (.pointer (some ⟨B + 2 + hp i, 0, none⟩))).setCell ⟨B + 2 + hp j, 7, none⟩ (.int .i64 i)) (B + 2 + k) (z k) t := by
      by_cases e : k = hp j
      · subst e; exact ⟨_, h2.set7 _⟩
      · exact ⟨_, h2.setOther (by simp; omega) _⟩
    obtain ⟨t', h3⟩ := h3
    by_cases e : k = hp i
    · subst e; exact ⟨_, h3.set7 _⟩
    · exact ⟨_, h3.setOther (by simp; omega) _⟩
  · intro k hk
    have lk := I.lt k hk
    unfold swp
    by_cases ej : k = j
    · subst ej
      rw [if_pos rfl]
      have h2 := ((I.idx i hi).setOther (a := ⟨B, i, none⟩) (by simp; omega) (.pointer (some ⟨B + 2 + hp k, 0, none⟩))).setOther (a := ⟨B, k, none⟩) (by simp; omega) (.pointer (some ⟨B + 2 + hp i, 0, none⟩))
      by_cases e : hp k = hp i
      · rw [e] at h2 ⊢
        exact (h2.set7 _).set7 _
      · exact (h2.setOther (by simp; omega) _).set7 _
    · rw [if_neg ej]
      by_cases ei : k = i
      · subst ei
        rw [if_pos rfl]
        have h2 := ((I.idx j hj).setOther (a := ⟨B, k, none⟩) (by simp; omega) (.pointer (some ⟨B + 2 + hp j, 0, none⟩))).setOther (a := ⟨B, j, none⟩) (by simp; omega) (.pointer (some ⟨B + 2 + hp k, 0, none⟩))
        have hne : hp j ≠ hp k := fun e => ej (I.inj j k hj hi e).symm
        exact (h2.set7 _).setOther (by simp; omega) _
      · rw [if_neg ei]
        have n1 : hp k ≠ hp i := fun e => ei (I.inj k i hk hi e)
        have n2 : hp k ≠ hp j := fun e => ej (I.inj k j hk hj e)
        exact ((((I.idx k hk).setOther (by simp; omega) _).setOther (by simp; omega) _).setOther (by simp; omega) _).setOther (by simp; omega) _
  · intro k hk
    unfold swp
    split
    · exact li
    · split
      · exact lj
      · exact I.lt k hk
  · intro k l hk hl e
    rw [swp_eq, swp_eq] at e
    exact place_inj (I.inj _ _ (place_lt hi hj hk) (place_lt hi hj hl) e)

theorem pop (I : Inv w B n z (L + 1) hp) {c : Nat} (hc : B + 2 + n ≤ c) (v : Value) :
    Inv (((w.setCell ⟨B, L, none⟩ (.pointer none)).setCell ⟨c, 0, none⟩ v).setCell ⟨B + 2 + hp L, 7, none⟩ (.int .i64 (-1))) B n z L hp := by
  have lL := I.lt L (by omega)
  have hle := I.le
  refine ⟨by omega, ?_, ?_, ?_, ?_, fun k hk => I.lt k (by omega), fun k l hk hl => I.inj k l (by omega) (by omega)⟩
  · obtain ⟨f, hf, e⟩ := I.row
    refine ⟨_, ((hf.set L _).setOther (by simp; omega) _).setOther (by simp; omega) _, ?_⟩
    intro k hk
    show (if k = L then _ else f k) = _
    rw [if_neg (by omega)]
    exact e k (by omega)
  · exact ((I.orig.setOther (by simp) _).setOther (by simp; omega) _).setOther (by simp; omega) _
  · intro k hk
    obtain ⟨t, ht⟩ := I.tim k hk
    have h2 := (ht.setOther (a := ⟨B, L, none⟩) (by simp; omega) (.pointer none)).setOther (a := ⟨c, 0, none⟩) (by simp; omega) v
    by_cases e : k = hp L
    · subst e; exact ⟨_, h2.set7 _⟩
    · exact ⟨_, h2.setOther (by simp; omega) _⟩
  · intro k hk
    have lk := I.lt k (by omega)
    have n1 : hp k ≠ hp L := fun e => by have := I.inj k L (by omega) (by omega) e; omega
    exact (((I.idx k (by omega)).setOther (by simp; omega) _).setOther (by simp; omega) _).setOther (by simp; omega) _

theorem popped (I : Inv w B n z (L + 1) hp) {c : Nat} (hc : B + 2 + n ≤ c) (v : Value) :
    Tim (((w.setCell ⟨B, L, none⟩ (.pointer none)).setCell ⟨c, 0, none⟩ v).setCell ⟨B + 2 + hp L, 7, none⟩ (.int .i64 (-1))) (B + 2 + hp L) (z (hp L)) (-1) := by
  have lL := I.lt L (by omega)
  exact (((I.idx L (by omega)).setOther (by simp; omega) _).setOther (by simp; omega) _).set7 _

end Inv
end Go.Proofs.Qxb6614282a
