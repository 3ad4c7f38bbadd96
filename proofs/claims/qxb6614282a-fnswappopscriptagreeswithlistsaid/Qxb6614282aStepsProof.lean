import Derived.Test.Qxb6614282aOpen
import Derived.Test.Qxb6614282aSteps
namespace Go.Proofs.Qxb6614282a
open Go.ChangeShapes Go.WideShapes Go.ChangeAt Go.RowKit Go.Deep

theorem three_of {α : Type} {l : List α} (h : l.length = 3) : ∃ a b c, l = [a, b, c] := by
  match l, h with
  | [a, b, c], _ => exact ⟨a, b, c, rfl⟩

/-- The slice of steps, opened. -/
theorem steps_of {H : Type} {enc : TypeId × Value → H} {W : World} {a : Option Addr} {n cap : Nat} {d : DataW H} {p : List MemPlace} (h : DataW.Trod enc Try.prog W 0 (fun _ => true) true 40 (.slice a n cap) d p) :
    n ≤ maxLen ∧ ∃ P I J, Steps W a n P I J := by
  obtain ⟨fuel, hf⟩ := h
  rcases open_slice Try.underlying40 hf with ⟨hcs, _⟩ | ⟨x, l, c, m, q, D, Pl, hcs, _, hl, hm, hz, _, hel⟩
  · simp [Value.cells] at hcs
    obtain ⟨rfl, rfl, rfl⟩ := hcs
    exact ⟨Nat.zero_le _, fun _ => false, fun _ => 0, fun _ => 0, fun k hk => by omega⟩
  · simp [Value.cells] at hcs
    obtain ⟨rfl, rfl, rfl⟩ := hcs
    simp only [if_true] at hz
    subst hz
    rw [Try.cells43] at hel
    have each : ∀ i, i < m → ∃ r : Bool × Int × Int, W.cell? (x.add (i * 3)) = some (.bool r.1) ∧ W.cell? (x.add (i * 3 + 1)) = some (.int .i64 r.2.1) ∧ W.cell? (x.add (i * 3 + 2)) = some (.int .i64 r.2.2) := by
      intro i hi
      obtain ⟨cs', h1, h2⟩ := hel i hi
      obtain ⟨_, hlen, hcell⟩ := World.cells?_some h1
      obtain ⟨y0, y1, y2, k, _, _, t0, t1, t2⟩ := trod_struct3 Try.underlying43 h2
      obtain ⟨v0, v1, v2, rfl⟩ := three_of hlen
      simp [Try.cells3, Try.cells4] at t0 t1 t2
      all_goals
        obtain ⟨x0, e0, _⟩ := DataW.trod_bool Try.underlying4 t0
        obtain ⟨x1, e1, _⟩ := DataW.trod_int Try.underlying3 t1
        obtain ⟨x2, e2, _⟩ := DataW.trod_int Try.underlying3 t2
        simp only [List.cons.injEq, and_true] at e0 e1 e2
        subst e0 e1 e2
        have g0 := hcell 0 (by omega)
        have g1 := hcell 1 (by omega)
        have g2 := hcell 2 (by omega)
        rw [add_add] at g0 g1 g2
        exact ⟨(x0, x1, x2), by simpa using g0, by simpa using g1, by simpa using g2⟩
    obtain ⟨r, hr⟩ := choose_lt each
    refine ⟨by omega, fun k => (r k).1, fun k => (r k).2.1, fun k => (r k).2.2, fun k hk => ?_⟩
    have h0 := (hr 0 (by omega)).1
    obtain ⟨b, off, spot⟩ := x
    have hspot : spot = none := by simpa [Addr.add] using World.cell?_spot h0
    subst hspot
    refine ⟨b, off, rfl, lt_of_cell h0, fun j hj => ?_⟩
    obtain ⟨g0, g1, g2⟩ := hr j (by omega)
    rw [add_plain] at g0 g1 g2
    exact ⟨g0, g1, g2⟩

namespace StepsLift
set_option maxRecDepth 100000 in
theorem lifted (os : Os) (started : os.Started) (H : Type) (enc : TypeId × Value → H) :
    ReturnsInHanded {} Try.checked os 6 .any (Rows.fnSwapPopScriptAgreesWithListSpec.pre6 enc Try.prog Try.f6 Rows.fnSwapPopScriptAgreesWithListRow.domain false) (Rows.fnSwapPopScriptAgreesWithListSpec.post enc Try.prog Try.f6 false true false false) := by
  refine returnsInHanded_of_change (C := Try.checked) Try.own started (by kernel_rfl) Try.func6
    (ChangeSpec.witness6 (enc := enc) (C := Try.checked) false ⟨#[], #[.slice none 0 0, .slice none 0 0], []⟩ 8 (by kernel_rfl) (by kernel_rfl) (by kernel_rfl) (by kernel_rfl)) ?_
  intro W base args ds gs before hval0 hW hcnd _
  have hval : ∀ (j : Nat) t v, Try.f6.params[j]? = some t → args[j]? = some v → Value.okWide Try.prog W .any base t v := hval0
  have hW' := hW
  obtain ⟨p, q, hA0, hV, rfl, hfz, hnd⟩ := hW
  have hA : DataW.TrodAll enc Try.prog W 0 (fun _ => true) true Try.f6.params.toList args.toList ds p := hA0
  rw [Try.params6] at hA hval
  obtain ⟨v0, vs0, d0, ds0, p0, q0, hargs, rfl, rfl, h0, r0⟩ := trodAll_cons hA
  obtain ⟨v1, vs1, d1, ds1, p1, q1, rfl, rfl, rfl, h1, r1⟩ := trodAll_cons r0
  obtain ⟨rfl, rfl, rfl⟩ := trodAll_nil r1
  obtain rfl : args = #[v0, v1] := by cases args; simp_all
  obtain ⟨rfl, rfl⟩ := trodVars_none hV
  obtain ⟨a0, len0, cap0, rfl⟩ := okWide_slice Try.underlying22 (hval 0 22 v0 rfl rfl)
  obtain ⟨a1, len1, cap1, rfl⟩ := okWide_slice Try.underlying40 (hval 1 40 v1 rfl rfl)
  have lt0 : ∀ x ∈ p0, x.block < W.heap.size := by obtain ⟨m, hm⟩ := h0; exact DataW.trod_lt m _ _ _ hm
  have lt1 : ∀ x ∈ p1, x.block < W.heap.size := by obtain ⟨m, hm⟩ := h1; exact DataW.trod_lt m _ _ _ hm
  obtain ⟨hn, z, nz⟩ := nums_of h0
  obtain ⟨hm, P, I, J, nI⟩ := steps_of h1
  clear hA0 hval0
  refine (steps_walk a0 a1 len0 cap0 len1 cap1 z I J P W hn hm nz nI).mono fun e W' ⟨he, bel⟩ => ?_
  subst he
  exact ⟨_, rfl, _, _, _, [], _, [], hW', trodAll_mk1 (shut_bool Try.underlying4 _), (trodAll_cons_mk (Below.trod Try.laidOut (by kernel_rfl) (of_decide_eq_true (by kernel_rfl)) h0 bel lt0) (trodAll_cons_mk (Below.trod Try.laidOut (by kernel_rfl) (of_decide_eq_true (by kernel_rfl)) h1 bel lt1) trodAll_mk0)), rfl, bel.frame _, fun h => by cases h⟩

theorem over : Rows.fnSwapPopScriptAgreesWithListRow.holds Try.pinned (OpenSpec.ofChange Rows.fnSwapPopScriptAgreesWithListSpec) :=
  OpenClaim.holds_of_wide 6 Try.f6 rfl rfl rfl rfl rfl rfl rfl ⟨rfl, rfl, rfl, rfl, rfl⟩ rfl rfl rfl rfl rfl (by kernel_rfl) Try.func6 (by kernel_rfl)
    (of_decide_eq_true (by kernel_rfl)) (by unfold Func.isWrapper; first | (rw [if_pos (by decide +kernel)]; kernel_rfl) | (rw [if_neg (by decide +kernel)]; exact ⟨rfl, rfl⟩))
    (fun os started H enc _ => lifted os started H enc)
end StepsLift

/-- THE STATEMENT. -/
theorem swap_pop_script_proved : Rows.FnSwapPopScriptAgreesWithListSaid := StepsLift.over
#print axioms swap_pop_script_proved
end Go.Proofs.Qxb6614282a
