import Derived.Test.Qxb6614962aSize
namespace Go.Proofs.Qxb6614962a
open Go.RowKit Go.Deep
open Go.MapKept

/-- The loop's state: the directory alone. -/
structure Nam (W w : World) (B : Nat) (path : ByteArray) (ms : List (ByteArray × Nat)) : Prop where
  dir : Dir w (B + 1) B path ms
  below : Below B W w

theorem Nam.start (w : World) (path : ByteArray) :
    Nam w ((w.alloc (.map #[] 0)).alloc (.cells #[.string path, .map (some w.heap.size), .int .i32 0, .int .u32 0] 43)) w.heap.size path [] := by
  have e1 : (w.alloc (.map #[] 0)).heap.size = w.heap.size + 1 := nblk_alloc _ _
  refine ⟨⟨?_, ?_, by simp, by simp⟩, ?_⟩
  · rw [← e1]
    exact blk_alloc_new _ _
  · exact (mapIs_new w).alloc _
  · exact ((Below.refl _ w).alloc (Nat.le_refl _) _).alloc (by rw [e1]; omega) _

theorem Nam.next {W w w2 : World} {B : Nat} {path : ByteArray} {ms ms' : List (ByteArray × Nat)} (O : Nam W w B path ms) (D : Dir w2 (B + 1) B path ms') (T : Turned (B + 1) B w w2) : Nam W w2 B path ms' :=
  ⟨D, T.below (by omega) (by omega) (by have := O.dir.mlt; omega) O.below⟩

set_option maxRecDepth 100000 in
set_option maxHeartbeats 400000 in
theorem name_walk (path : ByteArray) (a : Option Addr) (n cap : Nat) (S : Nat → ByteArray) (w : World) (hpath : path.size ≤ maxLen) (hn : n ≤ maxLen) (ha : Days w a n S) :
    Calls Try.prog 3 #[.string path, .slice a n cap] w fun e w' => e = .returned (.bool true) ∧ Below w.heap.size w w' := by
  go_enter Try.func3, Try.ntmps3
  go_wp2_with fail
  refine (zzbytes6 path a n cap S w hpath hn ha).mono ?_
  rintro e w' ⟨⟨bl, rfl⟩, rfl⟩
  cases bl
  · go_wp2_with fail
    go_ret
    exact ⟨rfl, Below.refl _ _⟩
  go_wp2_with fail
  refine (toobig path a n cap S w hpath hn ha).mono ?_
  rintro e w' ⟨⟨bl, rfl⟩, rfl⟩
  cases bl
  rotate_left
  · go_wp2_with fail
    go_ret
    exact ⟨rfl, Below.refl _ _⟩
  go_wp2_with fail
  refine (new_any path w).mono ?_
  rintro e w' ⟨rfl, hw⟩
  have H0 := Nam.start w path
  rw [← hw] at H0
  clear hw
  go_wp2_with fail
  refine (name_any _ path w' H0.dir.cell0).mono ?_
  rintro e w1 ⟨rfl, rfl⟩
  have H1 : Hid (Nam w w1 w.heap.size path []) := H0
  clear H0
  go_wp2_with fail
  go_loopw [6] (fun i wr => ∃ (k : Nat) (ms : List (ByteArray × Nat)), k ≤ n ∧ i = .int .i64 k ∧ Nam w wr w.heap.size path ms) (fun i _ => n - (intOf i).toNat)
  case atStart => exact ⟨0, [], Nat.zero_le _, rfl, H1.out⟩
  case round =>
    clear H1
    obtain ⟨k, ms, hk, rfl, O⟩ := hrel
    unfold maxLen at hn
    by_cases hlt : k < n
    · obtain ⟨b, off, rfl, hbs, hc⟩ := ha k hlt
      have c1 := (O.below.cell (p := ⟨b, off + k, none⟩) hbs).trans (hc k hlt)
      generalize S k = s at *
      clear hc ha
      have hki : (k : Int) < (n : Int) := by omega
      have key : Calls Try.prog 10 #[.pointer (some ⟨w.heap.size + 1, 0, none⟩), .string s] wr fun e w' => ∃ x ms', e = .returned (.pointer (some ⟨x, 0, none⟩)) ∧ Nam w w' w.heap.size path ms' := by
        by_cases hin : s ∈ ms.map (·.1)
        · obtain ⟨⟨s', x⟩, hp, hs⟩ := List.mem_map.1 hin
          have hs' : s' = s := hs
          subst hs'
          refine (zzentry_hit O.dir s' x hp).mono ?_
          rintro e w2 ⟨rfl, D2, T2⟩
          exact ⟨x, ms, rfl, O.next D2 T2⟩
        · refine (zzentry_miss O.dir s hin).mono ?_
          rintro e w2 ⟨rfl, D2, T2⟩
          exact ⟨_, _, rfl, O.next D2 T2⟩
      have HK : Hid (Calls Try.prog 10 #[.pointer (some ⟨w.heap.size + 1, 0, none⟩), .string s] wr fun e w' => ∃ x ms', e = .returned (.pointer (some ⟨x, 0, none⟩)) ∧ Nam w w' w.heap.size path ms') := key
      clear key O
      go_wp2_with fail
      refine HK.out.mono ?_
      rintro e w2 ⟨x, ms', rfl, O2⟩
      clear HK c1
      go_wp2_with fail
      refine (name_any _ path w2 O2.dir.cell0).mono ?_
      rintro e w3 ⟨rfl, rfl⟩
      have H3 : Hid (Nam w w3 w.heap.size path ms') := O2
      clear O2
      go_wp2
      go_roundw
      case rel => exact ⟨k + 1, ms', by omega, by go_num, H3.out⟩
      case measure => simp [intOf]; omega
    · have H3 : Hid (Nam w wr w.heap.size path ms) := O
      clear O
      go_wp2_with fail
      refine (name_any _ path wr H3.out.dir.cell0).mono ?_
      rintro e w3 ⟨rfl, rfl⟩
      go_wp2
      go_ret
      exact ⟨by simp, H3.out.below⟩

end Go.Proofs.Qxb6614962a
