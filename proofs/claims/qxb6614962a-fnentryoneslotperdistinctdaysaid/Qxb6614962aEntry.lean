import Derived.Test.Qxb6614962aDir
namespace Go.Proofs.Qxb6614962a
open Go.RowKit Go.Deep
open Go.MuLone
open Go.MapKept

/-- But for blocks d and m, all that was there is as it was. -/
structure Turned (d m : Nat) (w w' : World) : Prop where
  os : w'.os = w.os
  tape : w'.tape = w.tape
  output : w'.output = w.output
  size : w.heap.size ≤ w'.heap.size
  block : ∀ k, k < w.heap.size → k ≠ d → k ≠ m → w'.heap[k]? = w.heap[k]?

theorem Turned.below {d m B : Nat} {W w w' : World} (h : Turned d m w w') (hd : B ≤ d) (hm : B ≤ m) (hB : B ≤ w.heap.size) (hb : Below B W w) : Below B W w' :=
  hb.trans ⟨h.os, h.tape, h.output, h.size, fun k hk => h.block k (by omega) (by omega) (by omega)⟩

theorem Turned.cell {d m : Nat} {w w' : World} (h : Turned d m w w') {a : Addr} {v : Value} (ha : w.cell? a = some v) (h1 : a.block ≠ d) (h2 : a.block ≠ m) : w'.cell? a = some v := by
  rw [← ha]
  exact World.cell?_of_block (w := w) (h.block _ (World.block_lt_of_cell? _ _ ha) h1 h2)

namespace Dir
variable {w : World} {d m : Nat} {path : ByteArray} {ms : List (ByteArray × Nat)}

theorem cell0 (D : Dir w d m path ms) : w.cell? ⟨d, 0, none⟩ = some (.string path) := by simp [World.cell?, D.dir]
theorem cell1 (D : Dir w d m path ms) : w.cell? ⟨d, 1, none⟩ = some (.map (some m)) := by simp [World.cell?, D.dir]
theorem cell2 (D : Dir w d m path ms) : w.cell? ⟨d, 2, none⟩ = some (.int .i32 0) := by simp [World.cell?, D.dir]
theorem frozen2 (D : Dir w d m path ms) : w.frozen? ⟨d, 2, none⟩ = false := by simp [World.frozen?, D.dir]
theorem ne (D : Dir w d m path ms) : m ≠ d := D.map.ne_cells D.dir
theorem dlt (D : Dir w d m path ms) : d < w.heap.size := (Array.getElem?_eq_some_iff.1 D.dir).1
theorem mlt (D : Dir w d m path ms) : m < w.heap.size := D.map.lt

theorem kept_ne (D : Dir w d m path ms) {p : ByteArray × Nat} (hp : p ∈ ms) : p.2 ≠ d := by
  obtain ⟨c, hc⟩ := D.kept p hp
  intro e
  rw [e, D.dir] at hc
  simp at hc

theorem kept_ne_m (D : Dir w d m path ms) {p : ByteArray × Nat} (hp : p ∈ ms) : p.2 ≠ m := by
  obtain ⟨c, hc⟩ := D.kept p hp
  exact (D.map.ne_cells hc).symm

theorem kept_lt (D : Dir w d m path ms) {p : ByteArray × Nat} (hp : p ∈ ms) : p.2 < w.heap.size := by
  obtain ⟨c, hc⟩ := D.kept p hp
  exact (Array.getElem?_eq_some_iff.1 hc).1

end Dir

theorem set_block {w : World} {d : Nat} {c : Array Value} {t : TypeId} (h : w.heap[d]? = some (.cells c t (0, 0))) (i : Nat) (v : Value) : (w.setCell ⟨d, i, none⟩ v).heap[d]? = some (.cells (c.setIfInBounds i v) t (0, 0)) := by
  simp [World.setCell, Array.getElem?_modify, h]

theorem entry_hit {w : World} {d m : Nat} {path : ByteArray} {ms : List (ByteArray × Nat)} (D : Dir w d m path ms) (s : ByteArray) (b : Nat) (hm : (s, b) ∈ ms) :
    Calls Try.prog 14 #[.pointer (some ⟨d, 0, none⟩), .string s] w fun e w' => e = .returned (.pointer (some ⟨b, 0, none⟩)) ∧ Dir w' d m path ms ∧ Turned d m w w' := by
  have M1 : MapIs (w.setCell ⟨d, 2, none⟩ (.int .i32 1)) m (kvs ms) := D.map.setCell D.ne _
  have hl := look_hit (P := Try.prog) Try.underlying29 Try.underlying9 M1 (kvs_key ms) (kvs_nodup D.days) (s := s) (v := .pointer (some ⟨b, 0, none⟩)) (List.mem_map.2 ⟨(s, b), hm, rfl⟩) true
  refine (entry_hit_raw d m b s w D.cell1 D.cell2 D.frozen2 hl).mono ?_
  rintro e w' ⟨rfl, rfl⟩
  refine ⟨rfl, ⟨?_, M1.setCell D.ne _, D.days, ?_⟩, rfl, rfl, rfl, by rw [nblk_setCell, nblk_setCell]; exact Nat.le_refl _, ?_⟩
  · rw [set_block (set_block D.dir 2 (.int .i32 1)) 2 (.int .i32 0)]
    rfl
  · intro p hp
    obtain ⟨c, hc⟩ := D.kept p hp
    have hne := D.kept_ne hp
    exact ⟨c, by rw [blk_setCell_other _ _ _ _ hne, blk_setCell_other _ _ _ _ hne]; exact hc⟩
  · intro k _ h1 _
    rw [blk_setCell_other _ _ _ _ h1, blk_setCell_other _ _ _ _ h1]

theorem entry_miss {w : World} {d m : Nat} {path : ByteArray} {ms : List (ByteArray × Nat)} (D : Dir w d m path ms) (s : ByteArray) (hm : s ∉ ms.map (·.1)) :
    Calls Try.prog 14 #[.pointer (some ⟨d, 0, none⟩), .string s] w fun e w' => e = .returned (.pointer (some ⟨w.heap.size, 0, none⟩)) ∧ Dir w' d m path (ms ++ [(s, w.heap.size)]) ∧ Turned d m w w' := by
  have M1 : MapIs (w.setCell ⟨d, 2, none⟩ (.int .i32 1)) m (kvs ms) := D.map.setCell D.ne _
  have hl := look_miss (P := Try.prog) Try.underlying29 Try.underlying9 zero27 M1 (kvs_key ms) (kvs_miss hm) true
  have M2 := M1.alloc (.cells #[.int .u32 0, .int .i32 0, .int .u32 0, .map none, .nilIface] 54)
  obtain ⟨w3, hu, M3, B3⟩ := store_miss (P := Try.prog) Try.underlying29 Try.underlying9 M2 (kvs_key ms) (kvs_miss hm) (.pointer (some ⟨w.heap.size, 0, none⟩))
  have hdlt := D.dlt
  have hne := D.ne
  have hd3 : w3.heap[d]? = some (.cells #[.string path, .map (some m), .int .i32 1, .int .u32 0] 43 (0, 0)) := by
    rw [B3.block d (Ne.symm D.ne), blk_alloc_lt _ _ _ (by rw [nblk_setCell]; exact hdlt), set_block D.dir 2 (.int .i32 1)]
    rfl
  have c3 : w3.cell? ⟨d, 2, none⟩ = some (.int .i32 1) := by simp [World.cell?, hd3]
  have f3 : w3.frozen? ⟨d, 2, none⟩ = false := by simp [World.frozen?, hd3]
  refine (entry_miss_raw d m s w w3 D.cell1 D.cell2 D.frozen2 hl hu c3 f3).mono ?_
  rintro e w' ⟨rfl, rfl⟩
  have hs3 : w3.heap.size = w.heap.size + 1 := by rw [B3.size, nblk_alloc, nblk_setCell]
  refine ⟨rfl, ⟨?_, ?_, ?_, ?_⟩, B3.os, B3.tape, B3.output, by rw [nblk_setCell]; omega, ?_⟩
  · rw [set_block hd3 2 (.int .i32 0)]
    rfl
  · have : kvs (ms ++ [(s, w.heap.size)]) = kvs ms ++ [(.string s, .pointer (some ⟨w.heap.size, 0, none⟩))] := by simp [kvs]
    rw [this]
    exact M3.setCell D.ne _
  · rw [List.map_append]
    refine List.nodup_append.2 ⟨D.days, by simp, ?_⟩
    intro x hx y hy e
    simp at hy
    subst hy
    subst e
    exact hm hx
  · intro p hp
    rcases List.mem_append.1 hp with hp | hp
    · obtain ⟨c, hc⟩ := D.kept p hp
      have h1 := D.kept_ne hp
      have h2 := D.kept_ne_m hp
      have h3 := D.kept_lt hp
      exact ⟨c, by rw [blk_setCell_other _ _ _ _ h1, B3.block _ h2, blk_alloc_lt _ _ _ (by rw [nblk_setCell]; exact h3), blk_setCell_other _ _ _ _ h1]; exact hc⟩
    · simp at hp
      subst hp
      have hmlt := D.mlt
      have := blk_alloc_new (w.setCell ⟨d, 2, none⟩ (.int .i32 1)) (.cells #[.int .u32 0, .int .i32 0, .int .u32 0, .map none, .nilIface] 54)
      rw [nblk_setCell] at this
      exact ⟨_, by rw [blk_setCell_other _ _ _ _ (by simp; omega), B3.block _ (by simp; omega)]; exact this⟩
  · intro k hk h1 h2
    rw [blk_setCell_other _ _ _ _ h1, B3.block _ h2, blk_alloc_lt _ _ _ (by rw [nblk_setCell]; exact hk), blk_setCell_other _ _ _ _ h1]

/-- ZZentry: as entry. -/
theorem zzentry_of {w : World} {a : Addr} {s : ByteArray} {Q : Value → World → Prop} (h : Calls Try.prog 14 #[.pointer (some a), .string s] w fun e w' => ∃ v, e = .returned (.pointer v) ∧ Q (.pointer v) w') :
    Calls Try.prog 10 #[.pointer (some a), .string s] w fun e w' => ∃ v, e = .returned (.pointer v) ∧ Q (.pointer v) w' := by
  have H : Hid (Calls Try.prog 14 #[.pointer (some a), .string s] w fun e w' => ∃ v, e = .returned (.pointer v) ∧ Q (.pointer v) w') := h
  clear h
  go_enter Try.func10, Try.ntmps10
  go_wp2_with fail
  refine H.out.mono ?_
  rintro e w' ⟨v, rfl, hq⟩
  have HQ : Hid (Q (.pointer v) w') := hq
  clear hq
  go_wp2
  go_ret
  exact ⟨v, rfl, HQ.out⟩

theorem zzentry_hit {w : World} {d m : Nat} {path : ByteArray} {ms : List (ByteArray × Nat)} (D : Dir w d m path ms) (s : ByteArray) (b : Nat) (hm : (s, b) ∈ ms) :
    Calls Try.prog 10 #[.pointer (some ⟨d, 0, none⟩), .string s] w fun e w' => e = .returned (.pointer (some ⟨b, 0, none⟩)) ∧ Dir w' d m path ms ∧ Turned d m w w' := by
  refine (zzentry_of (Q := fun v w' => v = .pointer (some ⟨b, 0, none⟩) ∧ Dir w' d m path ms ∧ Turned d m w w') ((entry_hit D s b hm).mono ?_)).mono ?_
  · rintro e w' ⟨rfl, h⟩
    exact ⟨_, rfl, rfl, h⟩
  · rintro e w' ⟨v, rfl, h1, h2⟩
    exact ⟨by rw [h1], h2⟩

theorem zzentry_miss {w : World} {d m : Nat} {path : ByteArray} {ms : List (ByteArray × Nat)} (D : Dir w d m path ms) (s : ByteArray) (hm : s ∉ ms.map (·.1)) :
    Calls Try.prog 10 #[.pointer (some ⟨d, 0, none⟩), .string s] w fun e w' => e = .returned (.pointer (some ⟨w.heap.size, 0, none⟩)) ∧ Dir w' d m path (ms ++ [(s, w.heap.size)]) ∧ Turned d m w w' := by
  refine (zzentry_of (Q := fun v w' => v = .pointer (some ⟨w.heap.size, 0, none⟩) ∧ Dir w' d m path (ms ++ [(s, w.heap.size)]) ∧ Turned d m w w') ((entry_miss D s hm).mono ?_)).mono ?_
  · rintro e w' ⟨rfl, h⟩
    exact ⟨_, rfl, rfl, h⟩
  · rintro e w' ⟨v, rfl, h1, h2⟩
    exact ⟨by rw [h1], h2⟩

theorem len_map {w : World} {b : Nat} {kv : List (Value × Value)} (h : MapIs w b kv) (ty : TypeId) : (Builtin.len_ #[29] ty #[.map (some b)]).run Try.prog w = .ok (.int .i64 kv.length) w := by
  obtain ⟨es, c, hb, he⟩ := h
  subst he
  simp [Builtin.len_, run_underlying Try.underlying29, MapKept.run_getObj_map hb, goInt]

theorem keptLen {w : World} {d m : Nat} {path : ByteArray} {ms : List (ByteArray × Nat)} (D : Dir w d m path ms) :
    Calls Try.prog 13 #[.pointer (some ⟨d, 0, none⟩)] w fun e w' => e = .returned (.int .i64 ms.length) ∧ w = w' := by
  have hl : ∀ ty, (Builtin.len_ #[29] ty #[.map (some m)]).run Try.prog w = .ok (.int .i64 ms.length) w := fun ty => by
    rw [len_map D.map ty, show (kvs ms).length = ms.length by simp [kvs]]
  have c1 := D.cell1
  clear D
  go_enter Try.func13, Try.ntmps13
  go_wp2
  go_ret
  exact ⟨rfl, rfl⟩

end Go.Proofs.Qxb6614962a
