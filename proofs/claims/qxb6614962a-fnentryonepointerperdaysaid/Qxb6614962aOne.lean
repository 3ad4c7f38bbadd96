import Derived.Test.Qxb6614962aSize
namespace Go.Proofs.Qxb6614962a
open Go.RowKit Go.Deep
open Go.MapKept

theorem zero9 (w : World) : (zeroValue 9).run Try.prog w = .ok (.string ByteArray.empty) w := by kernel_rfl

theorem info54 : ∃ j, Try.prog.info? 54 = some j ∧ j.size ≠ 0 := by
  obtain ⟨j, hj, e⟩ := Option.map_eq_some_iff.1 (show (Try.prog.info? 54).map (fun i => i.size) = some 5 by kernel_rfl)
  exact ⟨j, hj, by rw [e]; decide⟩

/-- A pointer to an entry held against itself by '!='. -/
theorem neq_same (a : Addr) (w : World) : (binOp .neq 27 (.pointer (some a)) (.pointer (some a))).run Try.prog w = .ok (.bool false) w := by
  obtain ⟨j, hj, _⟩ := info54
  exact Lib.run_neq_ptr_same w a Try.underlying27 hj

/-- 'owner': each entry's block with its day. -/
def ows (ms : List (ByteArray × Nat)) : List (Value × Value) := ms.map fun p => (.pointer (some ⟨p.2, 0, none⟩), .string p.1)

/-- The loop's state: the directory; 'seen' holds what the directory's map holds; 'owner' the same, turned round. -/
structure One (W w : World) (B : Nat) (path : ByteArray) (ms : List (ByteArray × Nat)) : Prop where
  dir : Dir w (B + 1) B path ms
  seen : MapIs w (B + 2) (kvs ms)
  owner : MapIs w (B + 3) (ows ms)
  below : Below B W w

namespace One
variable {W w w2 : World} {B : Nat} {path : ByteArray} {ms : List (ByteArray × Nat)}

theorem start (w : World) (path : ByteArray) :
    One w ((((w.alloc (.map #[] 0)).alloc (.cells #[.string path, .map (some w.heap.size), .int .i32 0, .int .u32 0] 43)).alloc (.map #[] 0)).alloc (.map #[] 0)) w.heap.size path [] := by
  have e1 : (w.alloc (.map #[] 0)).heap.size = w.heap.size + 1 := nblk_alloc _ _
  have e2 : ((w.alloc (.map #[] 0)).alloc (.cells #[.string path, .map (some w.heap.size), .int .i32 0, .int .u32 0] 43)).heap.size = w.heap.size + 2 := by rw [nblk_alloc, e1]
  have e3 : (((w.alloc (.map #[] 0)).alloc (.cells #[.string path, .map (some w.heap.size), .int .i32 0, .int .u32 0] 43)).alloc (.map #[] 0)).heap.size = w.heap.size + 3 := by rw [nblk_alloc, e2]
  refine ⟨⟨?_, ?_, by simp, by simp⟩, ?_, ?_, ?_⟩
  · rw [blk_alloc_lt _ _ _ (by rw [e3]; omega), blk_alloc_lt _ _ _ (by rw [e2]; omega), ← e1]
    exact blk_alloc_new _ _
  · exact (((mapIs_new w).alloc _).alloc _).alloc _
  · have := mapIs_new ((w.alloc (.map #[] 0)).alloc (.cells #[.string path, .map (some w.heap.size), .int .i32 0, .int .u32 0] 43))
    rw [e2] at this
    exact this.alloc _
  · have := mapIs_new (((w.alloc (.map #[] 0)).alloc (.cells #[.string path, .map (some w.heap.size), .int .i32 0, .int .u32 0] 43)).alloc (.map #[] 0))
    rw [e3] at this
    exact this
  · exact ((((Below.refl _ w).alloc (Nat.le_refl _) _).alloc (by rw [e1]; omega) _).alloc (by rw [e2]; omega) _).alloc (by rw [e3]; omega) _

theorem seen_turned (O : One W w B path ms) (T : Turned (B + 1) B w w2) : MapIs w2 (B + 2) (kvs ms) := O.seen.of_block (T.block _ O.seen.lt (by omega) (by omega))
theorem owner_turned (O : One W w B path ms) (T : Turned (B + 1) B w w2) : MapIs w2 (B + 3) (ows ms) := O.owner.of_block (T.block _ O.owner.lt (by omega) (by omega))
theorem below_turned (O : One W w B path ms) (T : Turned (B + 1) B w w2) : Below B W w2 := T.below (by omega) (by omega) (by have := O.dir.mlt; omega) O.below

theorem hit (O : One W w B path ms) (D : Dir w2 (B + 1) B path ms) (T : Turned (B + 1) B w w2) : One W w2 B path ms :=
  ⟨D, O.seen_turned T, O.owner_turned T, O.below_turned T⟩

theorem others (O : One W w B path ms) (T : Turned (B + 1) B w w2) : Others w2 w.heap.size (ows ms) := by
  intro p hp
  obtain ⟨q, hq, rfl⟩ := List.mem_map.1 hp
  obtain ⟨c, hc⟩ := O.dir.kept q hq
  have h1 := O.dir.kept_lt hq
  exact ⟨q.2, c, 54, rfl, by omega, (T.block _ h1 (O.dir.kept_ne hq) (O.dir.kept_ne_m hq)).trans hc⟩

end One

/-- The two stores of a new day. -/
theorem one_miss {W w w2 : World} {B : Nat} {path s : ByteArray} {ms : List (ByteArray × Nat)} (O : One W w B path ms) (hm : s ∉ ms.map (·.1)) (D : Dir w2 (B + 1) B path (ms ++ [(s, w.heap.size)])) (T : Turned (B + 1) B w w2) :
    (Instr.lookup 29 (.map (some (B + 2))) (.string s) true).run Try.prog w2 = .ok (.tuple #[.pointer none, .bool false]) w2 ∧
    (Instr.lookup 30 (.map (some (B + 3))) (.pointer (some ⟨w.heap.size, 0, none⟩)) true).run Try.prog w2 = .ok (.tuple #[.string ByteArray.empty, .bool false]) w2 ∧
    ∃ w3 w4, (Instr.mapUpdate 29 (.map (some (B + 2))) (.string s) (.pointer (some ⟨w.heap.size, 0, none⟩))).run Try.prog w2 = .ok () w3 ∧
      (Instr.mapUpdate 30 (.map (some (B + 3))) (.pointer (some ⟨w.heap.size, 0, none⟩)) (.string s)).run Try.prog w3 = .ok () w4 ∧ One W w4 B path (ms ++ [(s, w.heap.size)]) := by
  obtain ⟨j, hj, hsz⟩ := info54
  have S2 := O.seen_turned T
  have O2 := O.owner_turned T
  have ho := O.others T
  obtain ⟨c, hx⟩ := D.kept (s, w.heap.size) (by simp)
  refine ⟨look_miss (P := Try.prog) Try.underlying29 Try.underlying9 zero27 S2 (kvs_key ms) (kvs_miss hm) true, look_ptr_miss (P := Try.prog) Try.underlying30 Try.underlying27 hj hsz zero9 O2 hx ho true, ?_⟩
  obtain ⟨w3, hu3, S3, B3⟩ := store_miss (P := Try.prog) Try.underlying29 Try.underlying9 S2 (kvs_key ms) (kvs_miss hm) (.pointer (some ⟨w.heap.size, 0, none⟩))
  have nx : w.heap.size ≠ B + 2 := (S2.ne_cells hx).symm
  have hx3 : w3.heap[w.heap.size]? = some (.cells c 54 (0, 0)) := (B3.block _ nx).trans hx
  have O3 : MapIs w3 (B + 3) (ows ms) := O2.of_block (B3.block _ (by omega))
  have ho3 : Others w3 w.heap.size (ows ms) := by
    intro p hp
    obtain ⟨y, cy, ty, h1, h2, h3⟩ := ho p hp
    exact ⟨y, cy, ty, h1, h2, (B3.block _ (S2.ne_cells h3).symm).trans h3⟩
  obtain ⟨w4, hu4, O4, B4⟩ := store_ptr_miss (P := Try.prog) Try.underlying30 Try.underlying27 hj hsz O3 hx3 ho3 (.string s)
  refine ⟨w3, w4, hu3, hu4, ⟨?_, ?_, D.days, ?_⟩, ?_, ?_, ?_⟩
  · rw [B4.block _ (by omega), B3.block _ (by omega)]
    exact D.dir
  · exact D.map.of_block (by rw [B4.block _ (by omega), B3.block _ (by omega)])
  · intro p hp
    obtain ⟨cp, hcp⟩ := D.kept p hp
    exact ⟨cp, by rw [B4.block _ (O2.ne_cells hcp).symm, B3.block _ (S2.ne_cells hcp).symm]; exact hcp⟩
  · have : kvs (ms ++ [(s, w.heap.size)]) = kvs ms ++ [(.string s, .pointer (some ⟨w.heap.size, 0, none⟩))] := by simp [kvs]
    rw [this]
    exact S3.of_block (B4.block _ (by omega))
  · have : ows (ms ++ [(s, w.heap.size)]) = ows ms ++ [(.pointer (some ⟨w.heap.size, 0, none⟩), .string s)] := by simp [ows]
    rw [this]
    exact O4
  · exact B4.below (by omega) (B3.below (by omega) (O.below_turned T))

set_option maxRecDepth 100000 in
set_option maxHeartbeats 400000 in
theorem one_walk (path : ByteArray) (a : Option Addr) (n cap : Nat) (S : Nat → ByteArray) (w : World) (hpath : path.size ≤ maxLen) (hn : n ≤ maxLen) (ha : Days w a n S) :
    Calls Try.prog 4 #[.string path, .slice a n cap] w fun e w' => e = .returned (.bool true) ∧ Below w.heap.size w w' := by
  have hmm := @run_makeMap Try.prog
  go_enter Try.func4, Try.ntmps4
  go_wp2_with fail
  refine (zzbytes11 path a n cap S w hpath hn ha).mono ?_
  rintro e w' ⟨⟨bl, rfl⟩, rfl⟩
  cases bl
  · go_wp2_with fail
    go_ret
    exact ⟨rfl, Below.refl _ _⟩
  go_wp2_with fail
  refine (toobig path a n cap S w hpath hn ha).mono ?_
  rintro e w' ⟨⟨bl, rfl⟩, rfl⟩
  cases bl
  rotate_left
  · go_wp2_with fail
    go_ret
    exact ⟨rfl, Below.refl _ _⟩
  go_wp2_with fail
  refine (new_any path w).mono ?_
  rintro e w' ⟨rfl, rfl⟩
  have H0 : Hid (One w ((((w.alloc (.map #[] 0)).alloc (.cells #[.string path, .map (some w.heap.size), .int .i32 0, .int .u32 0] 43)).alloc (.map #[] 0)).alloc (.map #[] 0)) w.heap.size path []) := One.start w path
  go_wp2_with fail
  clear hmm
  rw [show w.heap.size + 1 + 1 + 1 = w.heap.size + 3 from rfl, show w.heap.size + 1 + 1 = w.heap.size + 2 from rfl]
  go_loopw [8] (fun i wr => ∃ (k : Nat) (ms : List (ByteArray × Nat)), k ≤ n ∧ i = .int .i64 k ∧ One w wr w.heap.size path ms) (fun i _ => n - (intOf i).toNat)
  case atStart => exact ⟨0, [], Nat.zero_le _, rfl, H0.out⟩
  case round =>
    clear H0
    obtain ⟨k, ms, hk, rfl, O⟩ := hrel
    unfold maxLen at hn
    by_cases hlt : k < n
    · obtain ⟨b, off, rfl, hbs, hc⟩ := ha k hlt
      have c1 := (O.below.cell (p := ⟨b, off + k, none⟩) hbs).trans (hc k hlt)
      generalize S k = s at *
      clear hc ha
      have hki : (k : Int) < (n : Int) := by omega
      by_cases hin : s ∈ ms.map (·.1)
      · obtain ⟨⟨s', x⟩, hp, hs⟩ := List.mem_map.1 hin
        have hs' : s' = s := hs
        subst hs'
        clear hs hin
        go_wp2_with fail
        refine (zzentry_hit O.dir s' x hp).mono ?_
        rintro e w2 ⟨rfl, D2, T2⟩
        have hl := look_hit (P := Try.prog) Try.underlying29 Try.underlying9 (O.seen_turned T2) (kvs_key ms) (kvs_nodup D2.days) (s := s') (v := .pointer (some ⟨x, 0, none⟩)) (List.mem_map.2 ⟨(s', x), hp, rfl⟩) true
        simp only [if_true] at hl
        have H2 : Hid (One w w2 w.heap.size path ms) := O.hit D2 T2
        clear O D2 T2 c1 hp
        have hne := neq_same
        go_wp2
        go_roundw
        case rel => exact ⟨k + 1, ms, by omega, by go_num, H2.out⟩
        case measure => simp [intOf]; omega
      · go_wp2_with fail
        refine (zzentry_miss O.dir s hin).mono ?_
        rintro e w2 ⟨rfl, D2, T2⟩
        obtain ⟨hl1, hl2, w3, w4, hu3, hu4, O4⟩ := one_miss O hin D2 T2
        have H4 : Hid (One w w4 w.heap.size path (ms ++ [(s, wr.heap.size)])) := O4
        clear O D2 T2 O4 c1 hin
        go_wp2
        go_roundw
        case rel => exact ⟨k + 1, _, by omega, by go_num, H4.out⟩
        case measure => simp [intOf]; omega
    · go_wp2
      go_ret
      exact ⟨rfl, O.below⟩

end Go.Proofs.Qxb6614962a
