import Derived.Test.Qxb6614282aParts
namespace Go.Proofs.Qxb6614282a
open Go.RowKit Go.Deep

set_option maxHeartbeats 400000 in
theorem pop_any (c b m cap p : Nat) (x : Value) (w : World) (hm : m < cap) (hcap : cap ≤ 1000000) (hpb : p ≠ b) (hcb : c ≠ b) (hpc : p ≠ c)
    (cc : w.cell? ⟨c, 0, none⟩ = some (.slice (some ⟨b, 0, none⟩) (m + 1) cap))
    (cb : w.cell? ⟨b, m, none⟩ = some (.pointer (some ⟨p, 0, none⟩)))
    (fc : w.frozen? ⟨c, 0, none⟩ = false) (fb : w.frozen? ⟨b, m, none⟩ = false)
    (cp : w.cell? ⟨p, 7, none⟩ = some x)
    (fp : w.frozen? ⟨p, 7, none⟩ = false) :
    Calls Try.prog 17 #[.pointer (some ⟨c, 0, none⟩)] w fun e w' => e = .returned (.iface 33 (.pointer (some ⟨p, 0, none⟩))) ∧
      w' = ((w.setCell ⟨b, m, none⟩ (.pointer none)).setCell ⟨c, 0, none⟩ (.slice (some ⟨b, 0, none⟩) m cap)).setCell ⟨p, 7, none⟩ (.int .i64 (-1)) := by
  go_enter Try.func17, Try.ntmps17
  go_wp2
  go_ret
  exact ⟨rfl, rfl⟩

theorem assert_ok (a : Addr) (w : World) : (Instr.typeAssert (.iface 33 (.pointer (some a))) 20 33 true).run Try.prog w = .ok (.tuple #[.pointer (some a), .bool true]) w := by kernel_rfl

set_option maxHeartbeats 400000 in
theorem zzpop_any (c b m cap p : Nat) (x : Value) (w : World) (hm : m < cap) (hcap : cap ≤ 1000000) (hpb : p ≠ b) (hcb : c ≠ b) (hpc : p ≠ c)
    (cc : w.cell? ⟨c, 0, none⟩ = some (.slice (some ⟨b, 0, none⟩) (m + 1) cap))
    (cb : w.cell? ⟨b, m, none⟩ = some (.pointer (some ⟨p, 0, none⟩)))
    (fc : w.frozen? ⟨c, 0, none⟩ = false) (fb : w.frozen? ⟨b, m, none⟩ = false)
    (cp : w.cell? ⟨p, 7, none⟩ = some x)
    (fp : w.frozen? ⟨p, 7, none⟩ = false) :
    Calls Try.prog 13 #[.pointer (some ⟨c, 0, none⟩)] w fun e w' => e = .returned (.pointer (some ⟨p, 0, none⟩)) ∧
      w' = ((w.setCell ⟨b, m, none⟩ (.pointer none)).setCell ⟨c, 0, none⟩ (.slice (some ⟨b, 0, none⟩) m cap)).setCell ⟨p, 7, none⟩ (.int .i64 (-1)) := by
  have ha := assert_ok
  go_enter Try.func13, Try.ntmps13
  go_wp2_with fail
  refine (pop_any c b m cap p x w hm hcap hpb hcb hpc cc cb fc fb cp fp).mono ?_
  rintro e w' ⟨rfl, rfl⟩
  go_wp2
  go_ret
  exact ⟨rfl, rfl⟩

end Go.Proofs.Qxb6614282a
