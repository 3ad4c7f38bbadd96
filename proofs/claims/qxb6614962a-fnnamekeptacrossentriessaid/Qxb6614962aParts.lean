import Derived.Test.Qxb6614962aRows
import Derived.Test.Qxb6614962aLocks
import Derived.Conc.MuLone
import Derived.MapKept
import Derived.Lib.Builder
import Derived.WalkKit
import Derived.WalkSpells
import Derived.WalkLawsBesides
import Derived.Deep.OwnRows
import Derived.Deep.QuietTactic
import Derived.BigQuiet
namespace Go.Proofs.Qxb6614962a
open Go.RowKit Go.Deep
open Go.MuLone
open Go.MapKept

/-! ### Maps, by their entries in order -/

/-- Block b is a map whose entries are, in order, kv. -/
def MapIs (w : World) (b : Nat) (kv : List (Value × Value)) : Prop :=
  ∃ es clock, w.heap[b]? = some (.map es clock) ∧ es.toList.map (fun e => (e.key, e.val)) = kv

namespace MapIs
variable {w w' : World} {b : Nat} {kv : List (Value × Value)}

theorem lt (h : MapIs w b kv) : b < w.heap.size := by
  obtain ⟨es, c, hb, _⟩ := h
  exact (Array.getElem?_eq_some_iff.1 hb).1

theorem of_block (h : MapIs w b kv) (e : w'.heap[b]? = w.heap[b]?) : MapIs w' b kv := by
  obtain ⟨es, c, hb, he⟩ := h
  exact ⟨es, c, e.trans hb, he⟩

theorem setCell (h : MapIs w b kv) {a : Addr} (ha : b ≠ a.block) (v : Value) : MapIs (w.setCell a v) b kv := h.of_block (blk_setCell_other _ _ _ _ ha)

theorem alloc (h : MapIs w b kv) (o : Obj) : MapIs (w.alloc o) b kv := h.of_block (blk_alloc_lt _ _ _ h.lt)

theorem ne_cells (h : MapIs w b kv) {k : Nat} {c : Array Value} {t : TypeId} {z : Nat × Nat} (hk : w.heap[k]? = some (.cells c t z)) : b ≠ k := by
  obtain ⟨es, cl, hb, _⟩ := h
  intro e
  subst e
  rw [hb] at hk
  cases hk

end MapIs

theorem mapIs_new (w : World) : MapIs (w.alloc (.map #[] 0)) w.heap.size [] := ⟨#[], 0, blk_alloc_new _ _, rfl⟩

/-- Every block but b is as it was. -/
structure But (b : Nat) (w w' : World) : Prop where
  os : w'.os = w.os
  tape : w'.tape = w.tape
  output : w'.output = w.output
  size : w'.heap.size = w.heap.size
  block : ∀ k, k ≠ b → w'.heap[k]? = w.heap[k]?

theorem But.below {b B : Nat} {W w w' : World} (h : But b w w') (hB : B ≤ b) (hb : Below B W w) : Below B W w' :=
  hb.trans ⟨h.os, h.tape, h.output, by rw [h.size]; exact Nat.le_refl _, fun k hk => h.block k (by omega)⟩

theorem But.cell {b : Nat} {w w' : World} (h : But b w w') {a : Addr} (ha : a.block ≠ b) : w'.cell? a = w.cell? a := World.cell?_of_block (w := w) (h.block _ ha)
theorem But.frozen {b : Nat} {w w' : World} (h : But b w w') {a : Addr} (ha : a.block ≠ b) : w'.frozen? a = w.frozen? a := World.frozen?_of_block (w := w) (h.block _ ha)

section
variable {P : Program} {w : World} {T K E : TypeId} {b : Nat} {kv : List (Value × Value)}

theorem nodup_val {kv : List (Value × Value)} (hn : (kv.map (·.1)).Nodup) {k v v' : Value} (h : (k, v) ∈ kv) (h' : (k, v') ∈ kv) : v = v' := by
  induction kv with
  | nil => cases h
  | cons p ps ih =>
    simp only [List.map_cons, List.nodup_cons] at hn
    rcases List.mem_cons.1 h with e | h1
    · rcases List.mem_cons.1 h' with e' | h2
      · rw [← e] at e'
        exact (Prod.mk.inj e').2.symm
      · exact absurd (List.mem_map.2 ⟨_, h2, by rw [← e]⟩) hn.1
    · rcases List.mem_cons.1 h' with e' | h2
      · exact absurd (List.mem_map.2 ⟨_, h1, by rw [← e']⟩) hn.1
      · exact ih hn.2 h1 h2

/-- A string key that is there, once. -/
theorem look_hit (hT : P.underlying T = some (.map K E)) (hK : P.underlying K = some .string) (h : MapIs w b kv) (hk : ∀ p ∈ kv, IsKey .string p.1) (hn : (kv.map (·.1)).Nodup)
    {s : ByteArray} {v : Value} (hm : (Value.string s, v) ∈ kv) (ok : Bool) :
    (Instr.lookup T (.map (some b)) (.string s) ok).run P w = .ok (if ok then .tuple #[v, .bool true] else v) w := by
  obtain ⟨es, c, hb, he⟩ := h
  have hks : ∀ x ∈ es.toList, IsKey .string x.key := fun x hx => hk (x.key, x.val) (by rw [← he]; exact List.mem_map.2 ⟨x, hx, rfl⟩)
  have hkk : IsKey .string (Value.string s) := trivial
  rcases findNow_spec hkk es.toList 0 hks with ⟨_, h2⟩ | ⟨j, e, h1, h2, h3⟩
  · exfalso
    rw [← he] at hm
    obtain ⟨x, hx, ex⟩ := List.mem_map.1 hm
    simp only [Prod.mk.injEq] at ex
    exact h2 x hx ex.1
  · have hv : e.val = v := by
      have m1 : (e.key, e.val) ∈ kv := by rw [← he]; exact List.mem_map.2 ⟨e, List.mem_of_getElem? h2, rfl⟩
      rw [h3] at m1
      exact nodup_val hn m1 hm
    simp [Instr.lookup, run_underlying hT, MapKept.run_getObj_map hb, MapKept.run_checkKey hK hkk, MapKept.run_findKey hK h1, Result.andThen, hv]

/-- A string key that is not there. -/
theorem look_miss (hT : P.underlying T = some (.map K E)) (hK : P.underlying K = some .string) {z : Value} (hz : ∀ w, (zeroValue E).run P w = .ok z w) (h : MapIs w b kv) (hk : ∀ p ∈ kv, IsKey .string p.1)
    {s : ByteArray} (hm : ∀ p ∈ kv, p.1 ≠ Value.string s) (ok : Bool) :
    (Instr.lookup T (.map (some b)) (.string s) ok).run P w = .ok (if ok then .tuple #[z, .bool false] else z) w := by
  obtain ⟨es, c, hb, he⟩ := h
  have hks : ∀ x ∈ es.toList, IsKey .string x.key := fun x hx => hk (x.key, x.val) (by rw [← he]; exact List.mem_map.2 ⟨x, hx, rfl⟩)
  have hkk : IsKey .string (Value.string s) := trivial
  rcases findNow_spec hkk es.toList 0 hks with ⟨h1, _⟩ | ⟨j, e, h1, h2, h3⟩
  · simp [Instr.lookup, run_underlying hT, MapKept.run_getObj_map hb, MapKept.run_checkKey hK hkk, MapKept.run_findKey hK h1, Result.andThen, hz]
  · exact absurd h3 (hm (e.key, e.val) (by rw [← he]; exact List.mem_map.2 ⟨e, List.mem_of_getElem? h2, rfl⟩))

/-- A store at a string key that is not there: one entry more, behind the others. -/
theorem store_miss (hT : P.underlying T = some (.map K E)) (hK : P.underlying K = some .string) (h : MapIs w b kv) (hk : ∀ p ∈ kv, IsKey .string p.1)
    {s : ByteArray} (hm : ∀ p ∈ kv, p.1 ≠ Value.string s) (v : Value) :
    ∃ w', (Instr.mapUpdate T (.map (some b)) (.string s) v).run P w = .ok () w' ∧ MapIs w' b (kv ++ [(.string s, v)]) ∧ But b w w' := by
  obtain ⟨es, c, hb, he⟩ := h
  have hks : ∀ x ∈ es.toList, IsKey .string x.key := fun x hx => hk (x.key, x.val) (by rw [← he]; exact List.mem_map.2 ⟨x, hx, rfl⟩)
  have hkk : IsKey .string (Value.string s) := trivial
  rcases findNow_spec hkk es.toList 0 hks with ⟨h1, _⟩ | ⟨j, e, h1, h2, h3⟩
  · refine ⟨{ w with heap := w.heap.setIfInBounds b (.map (es.push { key := .string s, val := v, born := c }) (c + 1)) }, ?_, ⟨_, _, (heap_set hb).1, ?_⟩, rfl, rfl, rfl, by simp, fun k hk => (heap_set hb).2 k hk⟩
    · simp [Instr.mapUpdate, run_underlying hT, MapKept.run_getObj_map hb, MapKept.run_checkKey hK hkk, MapKept.run_findKey hK h1, MapKept.run_setObj_map _ hb, Result.andThen]
    simp [he]
  · exact absurd h3 (hm (e.key, e.val) (by rw [← he]; exact List.mem_map.2 ⟨e, List.mem_of_getElem? h2, rfl⟩))

/-! ### A map keyed by pointers: a key that is not there -/

theorem run_equal_ptr_other {tp te : TypeId} {j : TypeInfo} {x y : Addr} {ca cb : Array Value} {ta tb : TypeId} (hp : P.underlying tp = some (.pointer te)) (hte : P.info? te = some j) (hsz : j.size ≠ 0)
    (hne : x ≠ y) (ha : w.heap[x.block]? = some (.cells ca ta (0, 0))) (hb : w.heap[y.block]? = some (.cells cb tb (0, 0))) :
    (Op.equal tp (.pointer (some x)) (.pointer (some y))).run P w = .ok false w := by
  have h : ∀ d : Nat, (Op.equalIn (d + 1) tp (.pointer (some x)) (.pointer (some y))).run P w = .ok false w := fun d => by
    simp [Op.equalIn, run_underlying hp, sizeOf, typeInfo, hte, hsz, run_sameAddr_other w hne ha hb]
  simp [Op.equal, Op.maxDepth, h 9999]

/-- The keys are pointers to timers' own blocks, none of them x's. -/
def Others (w : World) (x : Nat) (kv : List (Value × Value)) : Prop :=
  ∀ p ∈ kv, ∃ y c t, p.1 = Value.pointer (some ⟨y, 0, none⟩) ∧ y ≠ x ∧ w.heap[y]? = some (.cells c t (0, 0))

theorem findAsking_none {tp te : TypeId} {j : TypeInfo} (hp : P.underlying tp = some (.pointer te)) (hte : P.info? te = some j) (hsz : j.size ≠ 0) {x : Nat} {cx : Array Value} {tx : TypeId}
    (hx : w.heap[x]? = some (.cells cx tx (0, 0))) : ∀ (es : List MapEntry) (i : Nat), Others w x (es.map fun e => (e.key, e.val)) →
    (Instr.findAsking tp (.pointer (some ⟨x, 0, none⟩)) es i).run P w = .ok none w
  | [], _, _ => by simp [Instr.findAsking]
  | e :: es, i, h => by
    obtain ⟨y, c, t, hy, hne, hc⟩ := h (e.key, e.val) (by simp)
    have ih := findAsking_none hp hte hsz hx es (i + 1) (fun p hq => h p (by simp only [List.map_cons, List.mem_cons]; exact .inr hq))
    have he : (Op.equal tp (.pointer (some ⟨x, 0, none⟩)) e.key).run P w = .ok false w := by
      have hy' : e.key = Value.pointer (some ⟨y, 0, none⟩) := hy
      rw [hy']
      exact run_equal_ptr_other hp hte hsz (fun q => hne (by cases q; rfl)) hx hc
    simp [Instr.findAsking, he, ih, Result.andThen]

theorem findNow_ptr {te : TypeId} {x : Addr} : ∀ (es : List MapEntry), Instr.findNow (.pointer te) (.pointer (some x)) es 0 = some none ∧ es = [] ∨ Instr.findNow (.pointer te) (.pointer (some x)) es 0 = none
  | [] => .inl ⟨rfl, rfl⟩
  | e :: es => .inr (by simp [Instr.findNow, Instr.sameNow])

theorem findKey_none {tp te : TypeId} {j : TypeInfo} (hp : P.underlying tp = some (.pointer te)) (hte : P.info? te = some j) (hsz : j.size ≠ 0) {x : Nat} {cx : Array Value} {tx : TypeId}
    (hx : w.heap[x]? = some (.cells cx tx (0, 0))) (es : List MapEntry) (h : Others w x (es.map fun e => (e.key, e.val))) :
    (Instr.findKey tp (.pointer (some ⟨x, 0, none⟩)) es).run P w = .ok none w := by
  rcases findNow_ptr (te := te) (x := ⟨x, 0, none⟩) es with ⟨h1, _⟩ | h1
  · simp [Instr.findKey, run_underlying hp, Result.andThen, h1]
  · simp [Instr.findKey, run_underlying hp, Result.andThen, h1, findAsking_none hp hte hsz hx es 0 h]

theorem checkKey_ptr {tp te : TypeId} (hp : P.underlying tp = some (.pointer te)) (e : Bool) (n : Nat) (x : Option Addr) : (Instr.checkKey e (n + 1) tp (.pointer x)).run P w = .ok () w := by
  unfold Instr.checkKey
  simp [run_underlying hp, Result.andThen]

theorem look_ptr_miss {te : TypeId} {j : TypeInfo} (hT : P.underlying T = some (.map K E)) (hK : P.underlying K = some (.pointer te)) (hte : P.info? te = some j) (hsz : j.size ≠ 0) {z : Value} (hz : ∀ w, (zeroValue E).run P w = .ok z w)
    (h : MapIs w b kv) {x : Nat} {cx : Array Value} {tx : TypeId} (hx : w.heap[x]? = some (.cells cx tx (0, 0))) (ho : Others w x kv) (ok : Bool) :
    (Instr.lookup T (.map (some b)) (.pointer (some ⟨x, 0, none⟩)) ok).run P w = .ok (if ok then .tuple #[z, .bool false] else z) w := by
  obtain ⟨es, c, hb, he⟩ := h
  subst he
  simp [Instr.lookup, run_underlying hT, MapKept.run_getObj_map hb, checkKey_ptr hK, findKey_none hK hte hsz hx es.toList ho, Result.andThen, hz]

theorem store_ptr_miss {te : TypeId} {j : TypeInfo} (hT : P.underlying T = some (.map K E)) (hK : P.underlying K = some (.pointer te)) (hte : P.info? te = some j) (hsz : j.size ≠ 0)
    (h : MapIs w b kv) {x : Nat} {cx : Array Value} {tx : TypeId} (hx : w.heap[x]? = some (.cells cx tx (0, 0))) (ho : Others w x kv) (v : Value) :
    ∃ w', (Instr.mapUpdate T (.map (some b)) (.pointer (some ⟨x, 0, none⟩)) v).run P w = .ok () w' ∧ MapIs w' b (kv ++ [(.pointer (some ⟨x, 0, none⟩), v)]) ∧ But b w w' := by
  obtain ⟨es, c, hb, he⟩ := h
  subst he
  refine ⟨{ w with heap := w.heap.setIfInBounds b (.map (es.push { key := .pointer (some ⟨x, 0, none⟩), val := v, born := c }) (c + 1)) }, ?_, ⟨_, _, (heap_set hb).1, ?_⟩, rfl, rfl, rfl, by simp, fun k hk => (heap_set hb).2 k hk⟩
  · simp [Instr.mapUpdate, run_underlying hT, MapKept.run_getObj_map hb, checkKey_ptr hK, findKey_none hK hte hsz hx es.toList ho, MapKept.run_setObj_map _ hb, Result.andThen]
  · simp

end
end Go.Proofs.Qxb6614962a
