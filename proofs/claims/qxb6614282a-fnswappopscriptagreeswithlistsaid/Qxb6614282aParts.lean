import Derived.Test.Qxb6614282aRows
import Derived.WalkKit
import Derived.WalkSpells
import Derived.WalkLawsBesides
import Derived.Deep.OwnRows
import Derived.Deep.QuietTactic
import Derived.BigQuiet
import Derived.Lib.Builder
namespace Go.Proofs.Qxb6614282a
open Go.RowKit Go.Deep

/-- A pointer to a timer held against itself by '!='. -/
theorem neq_same (a : Addr) (w : World) : (binOp .neq 33 (.pointer (some a)) (.pointer (some a))).run Try.prog w = .ok (.bool false) w := by
  obtain ⟨j, hj⟩ := Option.isSome_iff_exists.1 (show (Try.prog.info? 54).isSome = true by kernel_rfl)
  exact Lib.run_neq_ptr_same w a Try.underlying33 hj

/-- ZZindex -/
theorem index_any (b : Nat) (i : Int) (w : World) (h : w.cell? ⟨b, 7, none⟩ = some (.int .i64 i)) :
    Calls Try.prog 10 #[.pointer (some ⟨b, 0, none⟩)] w fun e w' => e = .returned (.int .i64 i) ∧ w' = w := by
  go_enter Try.func10, Try.ntmps10
  go_wp2
  go_ret
  exact ⟨rfl, rfl⟩

theorem period_any (b : Nat) (i : Int) (w : World) (h : w.cell? ⟨b, 3, none⟩ = some (.int .i64 i)) :
    Calls Try.prog 11 #[.pointer (some ⟨b, 0, none⟩)] w fun e w' => e = .returned (.int .i64 i) ∧ w' = w := by
  go_enter Try.func11, Try.ntmps11
  go_wp2
  go_ret
  exact ⟨rfl, rfl⟩

theorem newTimer_any (p i : Int) (w : World) :
    Calls Try.prog 16 #[.int .i64 p, .int .i64 i] w fun e w' => e = .returned (.pointer (some ⟨w.heap.size, 0, none⟩)) ∧
      w' = w.alloc (.cells #[.pointer none, .nilFunc, .chan none, .int .i64 p, .int .u64 0, .int .i64 0, .pointer none, .int .i64 i] 54) := by
  go_enter Try.func16, Try.ntmps16
  go_wp2
  go_ret
  exact ⟨rfl, rfl⟩

end Go.Proofs.Qxb6614282a
