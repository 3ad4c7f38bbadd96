import Derived.Test.Qxb6614282aState
import Derived.ProofKit
import Derived.OpenShut
import Derived.ShutString
import Derived.ChangeOld
import Derived.Deep.SlicePairs
import Derived.Deep.Strs
namespace Go.Proofs.Qxb6614282a
open Go.ChangeShapes Go.WideShapes Go.ChangeAt Go.RowKit Go.Deep

theorem Try.own : ownKnob Try.prog.godebug = none := by kernel_rfl
theorem Try.laidOut : laidOutB Try.prog = true := by kernel_rfl
theorem Try.cells2 : Try.prog.cellsOf 2 = 1 := by kernel_rfl
theorem Try.cells3 : Try.prog.cellsOf 3 = 1 := by kernel_rfl
theorem Try.cells4 : Try.prog.cellsOf 4 = 1 := by kernel_rfl
theorem Try.cells26 : Try.prog.cellsOf 26 = 2 := by kernel_rfl
theorem Try.cells43 : Try.prog.cellsOf 43 = 3 := by kernel_rfl

theorem lt_of_cell {w : World} {a : Addr} {v : Value} (h : w.cell? a = some v) : a.block < w.heap.size := by
  rcases Nat.lt_or_ge a.block w.heap.size with h' | h'
  · exact h'
  · simp [World.cell?, Array.getElem?_eq_none h'] at h

section
variable {H : Type} {enc : TypeId × Value → H} {W : World}

/-- The slice of periods, opened. -/
theorem nums_of {a : Option Addr} {n cap : Nat} {d : DataW H} {p : List MemPlace} (h : DataW.Trod enc Try.prog W 0 (fun _ => true) true 22 (.slice a n cap) d p) :
    n ≤ maxLen ∧ ∃ z, Nums W a n z := by
  obtain ⟨fuel, hf⟩ := h
  rcases open_ints Try.underlying22 Try.underlying2 Try.cells2 hf with ⟨hcs, _⟩ | ⟨x, l, c, zs, hcs, _, hl, hm, hz, _, hcell, _⟩
  · simp [Value.cells] at hcs
    obtain ⟨rfl, rfl, rfl⟩ := hcs
    exact ⟨Nat.zero_le _, fun _ => 0, fun k hk => by omega⟩
  · simp [Value.cells] at hcs
    obtain ⟨rfl, rfl, rfl⟩ := hcs
    simp only [if_true] at hz
    refine ⟨by omega, fun k => zs.getD k 0, fun k hk => ?_⟩
    have h0 := hcell 0 (by omega)
    obtain ⟨b, off, spot⟩ := x
    have hspot : spot = none := by simpa [Addr.add] using World.cell?_spot h0
    subst hspot
    exact ⟨b, off, rfl, lt_of_cell h0, fun j hj => by have := hcell j (by omega); rwa [add_plain] at this⟩

/-- The slice of pairs, opened. -/
theorem pairs_of {a : Option Addr} {n cap : Nat} {d : DataW H} {p : List MemPlace} (h : DataW.Trod enc Try.prog W 0 (fun _ => true) true 23 (.slice a n cap) d p) :
    n ≤ maxLen ∧ ∃ I J, Pairs W a n I J := by
  obtain ⟨fuel, hf⟩ := h
  rcases open_slice_pairs Try.underlying23 Try.underlying26 Try.cells26 rfl rfl Try.cells3 Try.cells3 hf with ⟨hcs, _⟩ | ⟨x, l, c, m, q, V0, V1, D0, D1, P0, P1, hcs, _, hl, hm, hz, _, hcell⟩
  · simp [Value.cells] at hcs
    obtain ⟨rfl, rfl, rfl⟩ := hcs
    exact ⟨Nat.zero_le _, fun _ => 0, fun _ => 0, fun k hk => by omega⟩
  · simp [Value.cells] at hcs
    obtain ⟨rfl, rfl, rfl⟩ := hcs
    simp only [if_true] at hz
    subst hz
    refine ⟨by omega, fun k => intOf (V0 k), fun k => intOf (V1 k), fun k hk => ?_⟩
    have h0 := (hcell 0 (by omega)).1
    obtain ⟨b, off, spot⟩ := x
    have hspot : spot = none := by simpa [Addr.add] using World.cell?_spot h0
    subst hspot
    refine ⟨b, off, rfl, lt_of_cell h0, fun j hj => ?_⟩
    obtain ⟨g0, g1, t0, t1⟩ := hcell j (by omega)
    rw [add_plain] at g0 g1
    obtain ⟨x0, e0, _⟩ := DataW.trod_int Try.underlying3 t0
    obtain ⟨x1, e1, _⟩ := DataW.trod_int Try.underlying3 t1
    simp only [List.cons.injEq, and_true] at e0 e1
    rw [e0] at g0
    rw [e1] at g1
    refine ⟨?_, ?_⟩
    · show W.cell? _ = some (.int .i64 (intOf (V0 j)))
      rw [e0]; exact g0
    · show W.cell? _ = some (.int .i64 (intOf (V1 j)))
      rw [e1]; exact g1
end
end Go.Proofs.Qxb6614282a
