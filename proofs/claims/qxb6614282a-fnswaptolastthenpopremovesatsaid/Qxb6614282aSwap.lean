import Derived.Test.Qxb6614282aParts
namespace Go.Proofs.Qxb6614282a
open Go.RowKit Go.Deep

set_option maxHeartbeats 400000 in
theorem swap_ne (b len cap i j p q : Nat) (x y : Value) (w : World) (hi : i < len) (hj : j < len) (hij : i ≠ j) (hpq : p ≠ q) (hpb : p ≠ b) (hqb : q ≠ b)
    (ci : w.cell? ⟨b, i, none⟩ = some (.pointer (some ⟨p, 0, none⟩))) (cj : w.cell? ⟨b, j, none⟩ = some (.pointer (some ⟨q, 0, none⟩)))
    (fi : w.frozen? ⟨b, i, none⟩ = false) (fj : w.frozen? ⟨b, j, none⟩ = false)
    (cp : w.cell? ⟨p, 7, none⟩ = some x) (cq : w.cell? ⟨q, 7, none⟩ = some y)
    (fp : w.frozen? ⟨p, 7, none⟩ = false) (fq : w.frozen? ⟨q, 7, none⟩ = false) :
    Calls Try.prog 9 #[.slice (some ⟨b, 0, none⟩) len cap, .int .i64 i, .int .i64 j] w fun e w' => e = .returned (.tuple #[]) ∧
      w'.Alike ((((w.setCell ⟨b, i, none⟩ (.pointer (some ⟨q, 0, none⟩))).setCell ⟨b, j, none⟩ (.pointer (some ⟨p, 0, none⟩))).setCell ⟨q, 7, none⟩ (.int .i64 i)).setCell ⟨p, 7, none⟩ (.int .i64 j)) ∧ w'.tape = w.tape := by
  have hi' : (i : Int) < (len : Int) := by omega
  have hj' : (j : Int) < (len : Int) := by omega
  go_enter Try.func9, Try.ntmps9
  go_wp2
  go_region
  all_goals (go_wp2)
  all_goals (go_end0; exact ⟨rfl, ⟨rfl, rfl, rfl⟩, rfl⟩)

set_option maxHeartbeats 400000 in
theorem swap_eq (b len cap i p : Nat) (x : Value) (w : World) (hi : i < len) (hpb : p ≠ b)
    (ci : w.cell? ⟨b, i, none⟩ = some (.pointer (some ⟨p, 0, none⟩)))
    (fi : w.frozen? ⟨b, i, none⟩ = false)
    (cp : w.cell? ⟨p, 7, none⟩ = some x)
    (fp : w.frozen? ⟨p, 7, none⟩ = false) :
    Calls Try.prog 9 #[.slice (some ⟨b, 0, none⟩) len cap, .int .i64 i, .int .i64 i] w fun e w' => e = .returned (.tuple #[]) ∧
      w'.Alike ((((w.setCell ⟨b, i, none⟩ (.pointer (some ⟨p, 0, none⟩))).setCell ⟨b, i, none⟩ (.pointer (some ⟨p, 0, none⟩))).setCell ⟨p, 7, none⟩ (.int .i64 i)).setCell ⟨p, 7, none⟩ (.int .i64 i)) ∧ w'.tape = w.tape := by
  have hi' : (i : Int) < (len : Int) := by omega
  go_enter Try.func9, Try.ntmps9
  go_wp2
  go_region
  all_goals (go_wp2)
  all_goals (go_end0; exact ⟨rfl, ⟨rfl, rfl, rfl⟩, rfl⟩)
end Go.Proofs.Qxb6614282a
