import Derived.Test.Qxb6614962aEntry
namespace Go.Proofs.Qxb6614962a
open Go.RowKit Go.Deep

/-- What is known of the slice of days that came in. -/
def Days (w : World) (a : Option Addr) (n : Nat) (S : Nat → ByteArray) : Prop :=
  ∀ k, k < n → ∃ b off, a = some ⟨b, off, none⟩ ∧ b < w.heap.size ∧ ∀ k, k < n → w.cell? ⟨b, off + k, none⟩ = some (.string (S k))

/-- It returned a bool. -/
def AnyBool (e : Ending) : Prop := ∃ bl, e = .returned (.bool bl)

set_option maxRecDepth 100000 in
set_option maxHeartbeats 400000 in
theorem zzbytes6 (path : ByteArray) (a : Option Addr) (n cap : Nat) (S : Nat → ByteArray) (w : World) (hpath : path.size ≤ maxLen) (hn : n ≤ maxLen) (ha : Days w a n S) :
    Calls Try.prog 6 #[.string path, .slice a n cap] w fun e w' => AnyBool e ∧ w = w' := by
  unfold maxLen at hpath hn
  by_cases h1 : path.size ≤ 1048576
  case neg =>
    go_enter Try.func6, Try.ntmps6
    go_wp2
    go_ret
    exact ⟨⟨_, rfl⟩, rfl⟩
  by_cases h2 : n ≤ 1048576
  case neg =>
    go_enter Try.func6, Try.ntmps6
    go_wp2
    go_ret
    exact ⟨⟨_, rfl⟩, rfl⟩
  by_cases h3 : path.size + n ≤ 1048576
  case neg =>
    go_enter Try.func6, Try.ntmps6
    go_wp2
    go_ret
    exact ⟨⟨_, rfl⟩, rfl⟩
  go_enter Try.func6, Try.ntmps6
  go_wp2
  go_loop [5, 6] (fun t i => ∃ k q : Nat, k ≤ n ∧ q ≤ 1048576 ∧ i = .int .i64 k ∧ t = .int .i64 q) (fun _ i => n - (intOf i).toNat)
  case atStart => exact ⟨0, path.size + n, Nat.zero_le _, h3, rfl, by go_num⟩
  case round =>
    obtain ⟨k, q, hk, hq, rfl, rfl⟩ := hrel
    by_cases hlt : k < n
    · obtain ⟨b, off, rfl, hbs, hc⟩ := ha k hlt
      have c1 := hc k hlt
      generalize S k = s at *
      clear hc ha
      by_cases h4 : s.size ≤ 1048576
      · by_cases h5 : q + s.size ≤ 1048576
        · go_wp2
          go_round
          case rel => exact ⟨k + 1, q + s.size, by omega, h5, by go_num, by go_num⟩
          case measure => simp [intOf]; omega
        · go_wp2
          go_ret
          exact ⟨⟨_, rfl⟩, rfl⟩
      · go_wp2
        go_ret
        exact ⟨⟨_, rfl⟩, rfl⟩
    · go_wp2
      go_ret
      exact ⟨⟨_, rfl⟩, rfl⟩

set_option maxRecDepth 100000 in
set_option maxHeartbeats 400000 in
theorem zzbytes11 (path : ByteArray) (a : Option Addr) (n cap : Nat) (S : Nat → ByteArray) (w : World) (hpath : path.size ≤ maxLen) (hn : n ≤ maxLen) (ha : Days w a n S) :
    Calls Try.prog 11 #[.string path, .slice a n cap] w fun e w' => AnyBool e ∧ w = w' := by
  unfold maxLen at hpath hn
  by_cases h1 : path.size ≤ 1048576
  case neg =>
    go_enter Try.func11, Try.ntmps11
    go_wp2
    go_ret
    exact ⟨⟨_, rfl⟩, rfl⟩
  by_cases h2 : n ≤ 1048576
  case neg =>
    go_enter Try.func11, Try.ntmps11
    go_wp2
    go_ret
    exact ⟨⟨_, rfl⟩, rfl⟩
  by_cases h3 : path.size + n ≤ 1048576
  case neg =>
    go_enter Try.func11, Try.ntmps11
    go_wp2
    go_ret
    exact ⟨⟨_, rfl⟩, rfl⟩
  go_enter Try.func11, Try.ntmps11
  go_wp2
  go_loop [5, 6] (fun t i => ∃ k q : Nat, k ≤ n ∧ q ≤ 1048576 ∧ i = .int .i64 k ∧ t = .int .i64 q) (fun _ i => n - (intOf i).toNat)
  case atStart => exact ⟨0, path.size + n, Nat.zero_le _, h3, rfl, by go_num⟩
  case round =>
    obtain ⟨k, q, hk, hq, rfl, rfl⟩ := hrel
    by_cases hlt : k < n
    · obtain ⟨b, off, rfl, hbs, hc⟩ := ha k hlt
      have c1 := hc k hlt
      generalize S k = s at *
      clear hc ha
      by_cases h4 : s.size ≤ 1048576
      · by_cases h5 : q + s.size ≤ 1048576
        · go_wp2
          go_round
          case rel => exact ⟨k + 1, q + s.size, by omega, h5, by go_num, by go_num⟩
          case measure => simp [intOf]; omega
        · go_wp2
          go_ret
          exact ⟨⟨_, rfl⟩, rfl⟩
      · go_wp2
        go_ret
        exact ⟨⟨_, rfl⟩, rfl⟩
    · go_wp2
      go_ret
      exact ⟨⟨_, rfl⟩, rfl⟩

set_option maxRecDepth 100000 in
set_option maxHeartbeats 400000 in
theorem zzbytes12 (path : ByteArray) (a : Option Addr) (n cap : Nat) (S : Nat → ByteArray) (w : World) (hpath : path.size ≤ maxLen) (hn : n ≤ maxLen) (ha : Days w a n S) :
    Calls Try.prog 12 #[.string path, .slice a n cap] w fun e w' => AnyBool e ∧ w = w' := by
  unfold maxLen at hpath hn
  by_cases h1 : path.size ≤ 1048576
  case neg =>
    go_enter Try.func12, Try.ntmps12
    go_wp2
    go_ret
    exact ⟨⟨_, rfl⟩, rfl⟩
  by_cases h2 : n ≤ 1048576
  case neg =>
    go_enter Try.func12, Try.ntmps12
    go_wp2
    go_ret
    exact ⟨⟨_, rfl⟩, rfl⟩
  by_cases h3 : path.size + n ≤ 1048576
  case neg =>
    go_enter Try.func12, Try.ntmps12
    go_wp2
    go_ret
    exact ⟨⟨_, rfl⟩, rfl⟩
  go_enter Try.func12, Try.ntmps12
  go_wp2
  go_loop [5, 6] (fun t i => ∃ k q : Nat, k ≤ n ∧ q ≤ 1048576 ∧ i = .int .i64 k ∧ t = .int .i64 q) (fun _ i => n - (intOf i).toNat)
  case atStart => exact ⟨0, path.size + n, Nat.zero_le _, h3, rfl, by go_num⟩
  case round =>
    obtain ⟨k, q, hk, hq, rfl, rfl⟩ := hrel
    by_cases hlt : k < n
    · obtain ⟨b, off, rfl, hbs, hc⟩ := ha k hlt
      have c1 := hc k hlt
      generalize S k = s at *
      clear hc ha
      by_cases h4 : s.size ≤ 1048576
      · by_cases h5 : q + s.size ≤ 1048576
        · go_wp2
          go_round
          case rel => exact ⟨k + 1, q + s.size, by omega, h5, by go_num, by go_num⟩
          case measure => simp [intOf]; omega
        · go_wp2
          go_ret
          exact ⟨⟨_, rfl⟩, rfl⟩
      · go_wp2
        go_ret
        exact ⟨⟨_, rfl⟩, rfl⟩
    · go_wp2
      go_ret
      exact ⟨⟨_, rfl⟩, rfl⟩

set_option maxRecDepth 100000 in
set_option maxHeartbeats 400000 in
theorem toobig (path : ByteArray) (a : Option Addr) (n cap : Nat) (S : Nat → ByteArray) (w : World) (hpath : path.size ≤ maxLen) (hn : n ≤ maxLen) (ha : Days w a n S) :
    Calls Try.prog 7 #[.string path, .slice a n cap] w fun e w' => AnyBool e ∧ w = w' := by
  unfold maxLen at hpath hn
  by_cases h1 : path.size ≤ 1048576
  case neg =>
    go_enter Try.func7, Try.ntmps7
    go_wp2
    go_ret
    exact ⟨⟨_, rfl⟩, rfl⟩
  by_cases h2 : n ≤ 65536
  case neg =>
    go_enter Try.func7, Try.ntmps7
    go_wp2
    go_ret
    exact ⟨⟨_, rfl⟩, rfl⟩
  go_enter Try.func7, Try.ntmps7
  go_wp2
  go_loop [5, 6] (fun t i => ∃ k q : Nat, k ≤ n ∧ q ≤ 1048576 ∧ i = .int .i64 k ∧ t = .int .i64 q) (fun _ i => n - (intOf i).toNat)
  case atStart => exact ⟨0, path.size, Nat.zero_le _, h1, rfl, by go_num⟩
  case round =>
    obtain ⟨k, q, hk, hq, rfl, rfl⟩ := hrel
    by_cases hlt : k < n
    · obtain ⟨b, off, rfl, hbs, hc⟩ := ha k hlt
      have c1 := hc k hlt
      generalize S k = s at *
      clear hc ha
      by_cases h4 : s.size ≤ 1048576
      · by_cases h5 : q + (16 + s.size) ≤ 1048576
        · go_wp2
          go_round
          case rel => exact ⟨k + 1, q + (16 + s.size), by omega, h5, by go_num, by go_num⟩
          case measure => simp [intOf]; omega
        · go_wp2
          go_ret
          exact ⟨⟨_, rfl⟩, rfl⟩
      · go_wp2
        go_ret
        exact ⟨⟨_, rfl⟩, rfl⟩
    · go_wp2
      go_ret
      exact ⟨⟨_, rfl⟩, rfl⟩

end Go.Proofs.Qxb6614962a
