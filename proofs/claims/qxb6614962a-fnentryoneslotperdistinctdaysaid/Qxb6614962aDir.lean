import Derived.Test.Qxb6614962aParts
namespace Go.Proofs.Qxb6614962a
open Go.RowKit Go.Deep
open Go.MuLone
open Go.MapKept

theorem zero27 (w : World) : (zeroValue 27).run Try.prog w = .ok (.pointer none) w := by kernel_rfl

/-- A day and the block of its entry, as the map holds them. -/
def kvs (ms : List (ByteArray × Nat)) : List (Value × Value) := ms.map fun p => (.string p.1, .pointer (some ⟨p.2, 0, none⟩))

/-- The directory at block d: its path; its map (block m) holds the days of ms, each with the block of its entry; the lock is free. -/
structure Dir (w : World) (d m : Nat) (path : ByteArray) (ms : List (ByteArray × Nat)) : Prop where
  dir : w.heap[d]? = some (.cells #[.string path, .map (some m), .int .i32 0, .int .u32 0] 43 (0, 0))
  map : MapIs w m (kvs ms)
  days : (ms.map (·.1)).Nodup
  kept : ∀ p ∈ ms, ∃ c, w.heap[p.2]? = some (.cells c 54 (0, 0))

theorem kvs_key (ms : List (ByteArray × Nat)) : ∀ p ∈ kvs ms, IsKey .string p.1 := by
  intro p hp
  obtain ⟨q, _, rfl⟩ := List.mem_map.1 hp
  exact trivial

theorem kvs_nodup : ∀ {ms : List (ByteArray × Nat)}, (ms.map (·.1)).Nodup → ((kvs ms).map (·.1)).Nodup
  | [], _ => by simp [kvs]
  | p :: ms, h => by
    simp only [List.map_cons, List.nodup_cons] at h
    show ((Value.string p.1) :: (kvs ms).map (·.1)).Nodup
    refine List.nodup_cons.2 ⟨fun hm => h.1 ?_, kvs_nodup h.2⟩
    obtain ⟨q, hq, e⟩ := List.mem_map.1 hm
    obtain ⟨r, hr, rfl⟩ := List.mem_map.1 hq
    simp only [Value.string.injEq] at e
    exact List.mem_map.2 ⟨r, hr, e⟩

theorem kvs_miss {ms : List (ByteArray × Nat)} {s : ByteArray} (h : s ∉ ms.map (·.1)) : ∀ p ∈ kvs ms, p.1 ≠ Value.string s := by
  intro p hp e
  obtain ⟨q, hq, rfl⟩ := List.mem_map.1 hp
  simp only [Value.string.injEq] at e
  exact h (by rw [← e]; exact List.mem_map.2 ⟨q, hq, rfl⟩)

/-- NewSharedDir -/
theorem new_any (path : ByteArray) (w : World) :
    Calls Try.prog 8 #[.string path] w fun e w' => e = .returned (.pointer (some ⟨w.heap.size + 1, 0, none⟩)) ∧
      w' = (w.alloc (.map #[] 0)).alloc (.cells #[.string path, .map (some w.heap.size), .int .i32 0, .int .u32 0] 43) := by
  have hmm := @run_makeMap Try.prog
  go_enter Try.func8, Try.ntmps8
  go_wp2
  go_ret
  exact ⟨rfl, rfl⟩

/-- (*Dir).Name -/
theorem name_any (d : Nat) (path : ByteArray) (w : World) (h : w.cell? ⟨d, 0, none⟩ = some (.string path)) :
    Calls Try.prog 9 #[.pointer (some ⟨d, 0, none⟩)] w fun e w' => e = .returned (.string path) ∧ w' = w := by
  go_enter Try.func9, Try.ntmps9
  go_wp2
  go_ret
  exact ⟨rfl, rfl⟩

set_option maxHeartbeats 400000 in
/-- (*Dir).entry, the day's entry there: it is handed out. -/
theorem entry_hit_raw (d m b : Nat) (s : ByteArray) (w : World) (c1 : w.cell? ⟨d, 1, none⟩ = some (.map (some m))) (c2 : w.cell? ⟨d, 2, none⟩ = some (.int .i32 0)) (f2 : w.frozen? ⟨d, 2, none⟩ = false)
    (hl : (Instr.lookup 29 (.map (some m)) (.string s) true).run Try.prog (w.setCell ⟨d, 2, none⟩ (.int .i32 1)) = .ok (.tuple #[.pointer (some ⟨b, 0, none⟩), .bool true]) (w.setCell ⟨d, 2, none⟩ (.int .i32 1))) :
    Calls Try.prog 14 #[.pointer (some ⟨d, 0, none⟩), .string s] w fun e w' => e = .returned (.pointer (some ⟨b, 0, none⟩)) ∧
      w' = (w.setCell ⟨d, 2, none⟩ (.int .i32 1)).setCell ⟨d, 2, none⟩ (.int .i32 0) := by
  go_enter_defers Try.func14, Try.ntmps14
  go_wp2_with (go_at_call 15; refine (lock_free Try.muLib ⟨d, 2, none⟩ _ c2 f2).mono ?_; rintro e w' ⟨rfl, rfl⟩)
  refine leaves_cons (f := 16) (args := #[.pointer (some ⟨d, 2, none⟩)]) (by simp) (by simp [go_sem]) ?_
  refine (unlock_deferred Try.muLib ⟨d, 2, none⟩ .returning _ ?_ ?_).mono ?_
  · exact World.cell?_setCell_same w ⟨d, 2, none⟩ (.int .i32 1) c2
  · simp [f2]
  rintro e u' w'' ⟨rfl, rfl, rfl⟩
  exact ⟨_, results_tmp rfl _ _ _, rfl, rfl⟩

set_option maxHeartbeats 400000 in
/-- (*Dir).entry, no entry of that day: a new one is laid and handed out. -/
theorem entry_miss_raw (d m : Nat) (s : ByteArray) (w w3 : World) (c1 : w.cell? ⟨d, 1, none⟩ = some (.map (some m))) (c2 : w.cell? ⟨d, 2, none⟩ = some (.int .i32 0)) (f2 : w.frozen? ⟨d, 2, none⟩ = false)
    (hl : (Instr.lookup 29 (.map (some m)) (.string s) true).run Try.prog (w.setCell ⟨d, 2, none⟩ (.int .i32 1)) = .ok (.tuple #[.pointer none, .bool false]) (w.setCell ⟨d, 2, none⟩ (.int .i32 1)))
    (hu : (Instr.mapUpdate 29 (.map (some m)) (.string s) (.pointer (some ⟨w.heap.size, 0, none⟩))).run Try.prog ((w.setCell ⟨d, 2, none⟩ (.int .i32 1)).alloc (.cells #[.int .u32 0, .int .i32 0, .int .u32 0, .map none, .nilIface] 54)) = .ok () w3)
    (c3 : w3.cell? ⟨d, 2, none⟩ = some (.int .i32 1)) (f3 : w3.frozen? ⟨d, 2, none⟩ = false) :
    Calls Try.prog 14 #[.pointer (some ⟨d, 0, none⟩), .string s] w fun e w' => e = .returned (.pointer (some ⟨w.heap.size, 0, none⟩)) ∧
      w' = w3.setCell ⟨d, 2, none⟩ (.int .i32 0) := by
  have hd : d < w.heap.size := World.block_lt_of_cell? _ _ c1
  go_enter_defers Try.func14, Try.ntmps14
  go_wp2_with (go_at_call 15; refine (lock_free Try.muLib ⟨d, 2, none⟩ _ c2 f2).mono ?_; rintro e w' ⟨rfl, rfl⟩)
  refine leaves_cons (f := 16) (args := #[.pointer (some ⟨d, 2, none⟩)]) (by simp) (by simp [go_sem]) ?_
  refine (unlock_deferred Try.muLib ⟨d, 2, none⟩ .returning _ c3 f3).mono ?_
  rintro e u' w'' ⟨rfl, rfl, rfl⟩
  exact ⟨_, results_tmp rfl _ _ _, rfl, rfl⟩

end Go.Proofs.Qxb6614962a
