import Derived.Test.Qxb6614962aSize
namespace Go.Proofs.Qxb6614962a
open Go.RowKit Go.Deep
open Go.MapKept

theorem zero4 (w : World) : (zeroValue 4).run Try.prog w = .ok (.bool false) w := by kernel_rfl

/-- 'asked': each day asked for, with true. -/
def aks (ms : List (ByteArray × Nat)) : List (Value × Value) := ms.map fun p => (.string p.1, .bool true)

theorem aks_key (ms : List (ByteArray × Nat)) : ∀ p ∈ aks ms, IsKey .string p.1 := by
  intro p hp
  obtain ⟨q, _, rfl⟩ := List.mem_map.1 hp
  exact trivial

theorem aks_nodup {ms : List (ByteArray × Nat)} (h : (ms.map (·.1)).Nodup) : ((aks ms).map (·.1)).Nodup := by
  have e : (aks ms).map (·.1) = (kvs ms).map (·.1) := by simp [aks, kvs, List.map_map]
  rw [e]
  exact kvs_nodup h

theorem aks_miss {ms : List (ByteArray × Nat)} {s : ByteArray} (h : s ∉ ms.map (·.1)) : ∀ p ∈ aks ms, p.1 ≠ Value.string s := by
  intro p hp e
  obtain ⟨q, hq, rfl⟩ := List.mem_map.1 hp
  simp only [Value.string.injEq] at e
  exact h (by rw [← e]; exact List.mem_map.2 ⟨q, hq, rfl⟩)

/-- The loop's state: the directory; 'asked' holds the days of its map. -/
structure Slt (W w : World) (B : Nat) (path : ByteArray) (ms : List (ByteArray × Nat)) : Prop where
  dir : Dir w (B + 1) B path ms
  asked : MapIs w (B + 2) (aks ms)
  below : Below B W w

namespace Slt
variable {W w w2 : World} {B : Nat} {path : ByteArray} {ms : List (ByteArray × Nat)}

theorem asked_turned (O : Slt W w B path ms) (T : Turned (B + 1) B w w2) : MapIs w2 (B + 2) (aks ms) := O.asked.of_block (T.block _ O.asked.lt (by omega) (by omega))
theorem below_turned (O : Slt W w B path ms) (T : Turned (B + 1) B w w2) : Below B W w2 := T.below (by omega) (by omega) (by have := O.dir.mlt; omega) O.below

theorem hit (O : Slt W w B path ms) (D : Dir w2 (B + 1) B path ms) (T : Turned (B + 1) B w w2) : Slt W w2 B path ms :=
  ⟨D, O.asked_turned T, O.below_turned T⟩

theorem miss {s : ByteArray} (O : Slt W w B path ms) (hm : s ∉ ms.map (·.1)) (D : Dir w2 (B + 1) B path (ms ++ [(s, w.heap.size)])) (T : Turned (B + 1) B w w2) :
    ∃ w3, (Instr.mapUpdate 34 (.map (some (B + 2))) (.string s) (.bool true)).run Try.prog w2 = .ok () w3 ∧ Slt W w3 B path (ms ++ [(s, w.heap.size)]) := by
  have S2 := O.asked_turned T
  obtain ⟨w3, hu3, S3, B3⟩ := store_miss (P := Try.prog) Try.underlying34 Try.underlying9 S2 (aks_key ms) (aks_miss hm) (.bool true)
  refine ⟨w3, hu3, ⟨?_, ?_, D.days, ?_⟩, ?_, ?_⟩
  · rw [B3.block _ (by omega)]
    exact D.dir
  · exact D.map.of_block (B3.block _ (by omega))
  · intro p hp
    obtain ⟨cp, hcp⟩ := D.kept p hp
    exact ⟨cp, by rw [B3.block _ (S2.ne_cells hcp).symm]; exact hcp⟩
  · have : aks (ms ++ [(s, w.heap.size)]) = aks ms ++ [(.string s, .bool true)] := by simp [aks]
    rw [this]
    exact S3
  · exact B3.below (by omega) (O.below_turned T)

end Slt

theorem slt_start {w w1 : World} {path : ByteArray} (D : Dir w1 (w.heap.size + 1) w.heap.size path []) (hs : w1.heap.size = w.heap.size + 2) (hb : Below w.heap.size w w1) :
    Slt w (w1.alloc (.map #[] 0)) w.heap.size path [] := by
  refine ⟨⟨?_, D.map.alloc _, D.days, by simp⟩, ?_, hb.alloc (by omega) _⟩
  · rw [blk_alloc_lt _ _ _ D.dlt]
    exact D.dir
  · have := mapIs_new w1
    rw [hs] at this
    exact this

theorem dir_start (w : World) (path : ByteArray) :
    Dir ((w.alloc (.map #[] 0)).alloc (.cells #[.string path, .map (some w.heap.size), .int .i32 0, .int .u32 0] 43)) (w.heap.size + 1) w.heap.size path [] ∧
    ((w.alloc (.map #[] 0)).alloc (.cells #[.string path, .map (some w.heap.size), .int .i32 0, .int .u32 0] 43)).heap.size = w.heap.size + 2 ∧
    Below w.heap.size w ((w.alloc (.map #[] 0)).alloc (.cells #[.string path, .map (some w.heap.size), .int .i32 0, .int .u32 0] 43)) := by
  have e1 : (w.alloc (.map #[] 0)).heap.size = w.heap.size + 1 := nblk_alloc _ _
  refine ⟨⟨?_, ?_, by simp, by simp⟩, by rw [nblk_alloc, e1], ?_⟩
  · rw [← e1]
    exact blk_alloc_new _ _
  · exact (mapIs_new w).alloc _
  · exact ((Below.refl _ w).alloc (Nat.le_refl _) _).alloc (by rw [e1]; omega) _

set_option maxRecDepth 100000 in
set_option maxHeartbeats 400000 in
theorem slot_walk (path : ByteArray) (a : Option Addr) (n cap : Nat) (S : Nat → ByteArray) (w : World) (hpath : path.size ≤ maxLen) (hn : n ≤ maxLen) (ha : Days w a n S) :
    Calls Try.prog 5 #[.string path, .slice a n cap] w fun e w' => e = .returned (.bool true) ∧ Below w.heap.size w w' := by
  have hmm := @run_makeMap Try.prog
  go_enter Try.func5, Try.ntmps5
  go_wp2_with fail
  refine (zzbytes12 path a n cap S w hpath hn ha).mono ?_
  rintro e w' ⟨⟨bl, rfl⟩, rfl⟩
  cases bl
  · go_wp2_with fail
    go_ret
    exact ⟨rfl, Below.refl _ _⟩
  go_wp2_with fail
  refine (toobig path a n cap S w hpath hn ha).mono ?_
  rintro e w' ⟨⟨bl, rfl⟩, rfl⟩
  cases bl
  rotate_left
  · go_wp2_with fail
    go_ret
    exact ⟨rfl, Below.refl _ _⟩
  go_wp2_with fail
  refine (new_any path w).mono ?_
  rintro e w1 ⟨rfl, hw⟩
  obtain ⟨D1, s1, b1⟩ := dir_start w path
  rw [← hw] at D1 s1 b1
  have H1 : Hid (w1.heap.size = w.heap.size + 2 ∧ Below w.heap.size w w1) := ⟨s1, b1⟩
  clear hw s1 b1
  go_wp2_with fail
  refine (keptLen D1).mono ?_
  rintro e w' ⟨rfl, rfl⟩
  have H2 : Hid (Slt w (w1.alloc (.map #[] 0)) w.heap.size path []) := slt_start D1 H1.out.1 H1.out.2
  have H3 : Hid (w1.heap.size = w.heap.size + 2) := H1.out.1
  clear D1 H1
  go_wp2_with fail
  rw [H3.out]
  clear hmm H3
  go_loopw [7, 8] (fun c i wr => ∃ (k : Nat) (ms : List (ByteArray × Nat)), k ≤ n ∧ ms.length ≤ k ∧ i = .int .i64 k ∧ c = .int .i64 (ms.length : Nat) ∧ Slt w wr w.heap.size path ms) (fun _ i _ => n - (intOf i).toNat)
  case atStart => exact ⟨0, [], Nat.zero_le _, Nat.le_refl _, rfl, rfl, H2.out⟩
  case round =>
    clear H2
    obtain ⟨k, ms, hk, hml, rfl, rfl, O⟩ := hrel
    unfold maxLen at hn
    by_cases hlt : k < n
    · obtain ⟨b, off, rfl, hbs, hc⟩ := ha k hlt
      have c1 := (O.below.cell (p := ⟨b, off + k, none⟩) hbs).trans (hc k hlt)
      generalize S k = s at *
      clear hc ha
      have hki : (k : Int) < (n : Int) := by omega
      by_cases hin : s ∈ ms.map (·.1)
      · obtain ⟨⟨s', x⟩, hp, hs⟩ := List.mem_map.1 hin
        have hs' : s' = s := hs
        subst hs'
        clear hs hin
        go_wp2_with fail
        refine (zzentry_hit O.dir s' x hp).mono ?_
        rintro e w2 ⟨rfl, D2, T2⟩
        have hl := look_hit (P := Try.prog) Try.underlying34 Try.underlying9 (O.asked_turned T2) (aks_key ms) (aks_nodup D2.days) (s := s') (v := .bool true) (List.mem_map.2 ⟨(s', x), hp, rfl⟩) false
        simp only [if_false, Bool.false_eq_true] at hl
        have O2 := O.hit D2 T2
        clear O D2 T2 c1 hp
        go_wp2_with fail
        refine (keptLen O2.dir).mono ?_
        rintro e w' ⟨rfl, rfl⟩
        have H2 : Hid (Slt w w2 w.heap.size path ms) := O2
        clear O2 hl
        go_wp2
        go_roundw
        case rel => exact ⟨k + 1, ms, by omega, by omega, by go_num, rfl, H2.out⟩
        case measure => simp [intOf]; omega
      · go_wp2_with fail
        refine (zzentry_miss O.dir s hin).mono ?_
        rintro e w2 ⟨rfl, D2, T2⟩
        have hl := look_miss (P := Try.prog) Try.underlying34 Try.underlying9 zero4 (O.asked_turned T2) (aks_key ms) (aks_miss hin) false
        simp only [if_false, Bool.false_eq_true] at hl
        obtain ⟨w3, hu3, O3⟩ := O.miss hin D2 T2
        clear O D2 T2 c1 hin
        go_wp2_with fail
        refine (keptLen O3.dir).mono ?_
        rintro e w' ⟨rfl, rfl⟩
        have H3 : Hid (Slt w w3 w.heap.size path (ms ++ [(s, wr.heap.size)])) := O3
        have hlen : (ms ++ [(s, wr.heap.size)]).length = ms.length + 1 := by simp
        clear O3 hl hu3
        go_wp2
        go_roundw
        case rel => exact ⟨k + 1, _, by omega, by rw [hlen]; omega, by go_num, by rw [hlen]; go_num, H3.out⟩
        case measure => simp [intOf]; omega
    · go_wp2
      go_ret
      exact ⟨rfl, O.below⟩

end Go.Proofs.Qxb6614962a
