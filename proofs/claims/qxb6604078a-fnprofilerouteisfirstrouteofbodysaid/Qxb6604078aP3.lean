import Derived.Test.Qxb6604078aRows
import Derived.Test.Qxb6604078aH3
import Derived.Test.Qxb6604078aO3
import Derived.ProofKit
import Derived.OpenShut
import Derived.ShutString
import Derived.ChangeOld
namespace Go.Proofs.Qxb6604078a.fnProfileRouteIsFirstRouteOfBody
open Go.ChangeShapes Go.WideShapes Go.ChangeAt Go.RowKit
open Go.ChangeMaps (open_string shut_string)
set_option linter.unusedVariables false

theorem own : ownKnob Try.prog.godebug = none := by kernel_rfl
theorem laidOut : laidOutB Try.prog = true := by kernel_rfl

set_option maxRecDepth 100000 in
theorem lifted (os : Os) (started : os.Started) (H : Type) (enc : TypeId × Value → H) :
    ReturnsInHanded {} Try.checked os 3 .any (Rows.fnProfileRouteIsFirstRouteOfBodySpec.pre6 enc Try.prog Try.f3 Rows.fnProfileRouteIsFirstRouteOfBodyRow.domain false) (Rows.fnProfileRouteIsFirstRouteOfBodySpec.post enc Try.prog Try.f3 false true false false) := by
  refine returnsInHanded_of_change_sized (C := Try.checked) own started (by kernel_rfl) Try.func3
    (ChangeSpec.witness6 (enc := enc) (C := Try.checked) false ⟨#[], #[.string ⟨#[]⟩, .string ⟨#[]⟩, .slice none 0 0, .slice none 0 0, .pointer none, .string ⟨#[]⟩], []⟩ 8 (by kernel_rfl) (by kernel_rfl) (by kernel_rfl) (by kernel_rfl)) ?_
  intro W base args ds gs before hval0 hW hcnd hsz0 _
  have hval : ∀ (j : Nat) t v, Try.f3.params[j]? = some t → args[j]? = some v → Value.okWide Try.prog W .any base t v := hval0
  have hsz : (DataW.weightsEach Try.prog (Try.f3.params.toList ++ Rows.fnProfileRouteIsFirstRouteOfBodySpec.plain.varTypes Try.prog) (ds ++ gs)).all (· ≤ reachBytes) = true := hsz0
  have hW' := hW
  obtain ⟨p, q, hA0, hV, rfl, hfz, hnd⟩ := hW
  have hA : DataW.TrodAll enc Try.prog W 0 (fun _ => true) true Try.f3.params.toList args.toList ds p := hA0
  rw [Try.params3] at hA hval hsz
  obtain ⟨v0, vs0, d0, ds0, p0, q0, hargs, rfl, rfl, h0, r0⟩ := trodAll_cons hA
  obtain ⟨v1, vs1, d1, ds1, p1, q1, rfl, rfl, rfl, h1, r1⟩ := trodAll_cons r0
  obtain ⟨v2, vs2, d2, ds2, p2, q2, rfl, rfl, rfl, h2, r2⟩ := trodAll_cons r1
  obtain ⟨v3, vs3, d3, ds3, p3, q3, rfl, rfl, rfl, h3, r3⟩ := trodAll_cons r2
  obtain ⟨v4, vs4, d4, ds4, p4, q4, rfl, rfl, rfl, h4, r4⟩ := trodAll_cons r3
  obtain ⟨v5, vs5, d5, ds5, p5, q5, rfl, rfl, rfl, h5, r5⟩ := trodAll_cons r4
  obtain ⟨rfl, rfl, rfl⟩ := trodAll_nil r5
  obtain rfl : args = #[v0, v1, v2, v3, v4, v5] := by cases args; simp_all
  obtain ⟨rfl, rfl⟩ := trodVars_none hV
  have l0 : Light Try.prog 9 d0 := light_of hsz (j := 0) rfl rfl
  obtain ⟨s0, rfl, rfl, rfl, hs0⟩ := open_string Try.underlying9 (hval 0 9 v0 rfl rfl) h0
  have hz0 : s0.size ≤ 9223372036854775807 := by unfold maxLen at hs0; omega
  have l1 : Light Try.prog 9 d1 := light_of hsz (j := 1) rfl rfl
  obtain ⟨s1, rfl, rfl, rfl, hs1⟩ := open_string Try.underlying9 (hval 1 9 v1 rfl rfl) h1
  have hz1 : s1.size ≤ 9223372036854775807 := by unfold maxLen at hs1; omega
  obtain ⟨a2, len2, cap2, rfl⟩ := okWide_slice Try.underlying22 (hval 2 22 v2 rfl rfl)
  have k2 := h2
  have lt2 : ∀ x ∈ p2, x.block < W.heap.size := by obtain ⟨m, hm⟩ := k2; exact DataW.trod_lt m _ _ _ hm
  have l2 : Light Try.prog 22 d2 := light_of hsz (j := 2) rfl rfl
  obtain ⟨X2, hX2⟩ : ∃ X, Twos W a2 len2 cap2 X := by
    obtain ⟨fuel, hf⟩ := h2
    obtain ⟨a, n, c, X, e, hX⟩ := open_deals hf l2
    simp [Value.cells] at e
    obtain ⟨rfl, rfl, rfl⟩ := e
    exact ⟨X, hX⟩
  obtain ⟨a3, len3, cap3, rfl⟩ := okWide_slice Try.underlying23 (hval 3 23 v3 rfl rfl)
  have k3 := h3
  have lt3 : ∀ x ∈ p3, x.block < W.heap.size := by obtain ⟨m, hm⟩ := k3; exact DataW.trod_lt m _ _ _ hm
  have l3 : Light Try.prog 23 d3 := light_of hsz (j := 3) rfl rfl
  obtain ⟨X3, hX3⟩ : ∃ X, Rts W a3 len3 cap3 X := by
    obtain ⟨fuel, hf⟩ := h3
    obtain ⟨a, n, c, X, e, hX⟩ := open_routes hf l3
    simp [Value.cells] at e
    obtain ⟨rfl, rfl, rfl⟩ := e
    exact ⟨X, hX⟩
  obtain ⟨a4, rfl⟩ := okWide_pointer Try.underlying24 (hval 4 24 v4 rfl rfl)
  have k4 := h4
  have lt4 : ∀ x ∈ p4, x.block < W.heap.size := by obtain ⟨m, hm⟩ := k4; exact DataW.trod_lt m _ _ _ hm
  have l4 : Light Try.prog 24 d4 := light_of hsz (j := 4) rfl rfl
  have hX4 : BV W a4 := by
    obtain ⟨fuel, hf⟩ := h4
    obtain ⟨p, e, hX⟩ := open_bv hf l4
    simp [Value.cells] at e
    subst e
    exact hX
  have l5 : Light Try.prog 9 d5 := light_of hsz (j := 5) rfl rfl
  obtain ⟨s5, rfl, rfl, rfl, hs5⟩ := open_string Try.underlying9 (hval 5 9 v5 rfl rfl) h5
  have hz5 : s5.size ≤ 9223372036854775807 := by unfold maxLen at hs5; omega
  clear hA0 hval0
  refine (law3_any s0 s1 s5 a2 len2 cap2 X2 a3 len3 cap3 X3 a4 W hX2 hX3 hX4).mono fun e W' ⟨he, bel⟩ => ?_
  subst he
  exact ⟨_, rfl, _, _, _, [], _, [], hW', trodAll_mk1 (shut_bool Try.underlying4 _), (trodAll_cons_mk (shut_string Try.underlying9 hs0) (trodAll_cons_mk (shut_string Try.underlying9 hs1) (trodAll_cons_mk (Below.trod laidOut (by kernel_rfl) (of_decide_eq_true (by kernel_rfl)) k2 bel lt2) (trodAll_cons_mk (Below.trod laidOut (by kernel_rfl) (of_decide_eq_true (by kernel_rfl)) k3 bel lt3) (trodAll_cons_mk (Below.trod laidOut (by kernel_rfl) (of_decide_eq_true (by kernel_rfl)) k4 bel lt4) (trodAll_cons_mk (shut_string Try.underlying9 hs5) trodAll_mk0)))))), rfl, bel.frame _, fun h => by cases h⟩

theorem over : Rows.fnProfileRouteIsFirstRouteOfBodyRow.holds Try.pinned (OpenSpec.ofChange Rows.fnProfileRouteIsFirstRouteOfBodySpec) :=
  OpenClaim.holds_of_wide 3 Try.f3 rfl rfl rfl rfl rfl rfl rfl ⟨rfl, rfl, rfl, rfl, rfl⟩ rfl rfl rfl rfl rfl (by kernel_rfl) Try.func3 (by kernel_rfl)
    (of_decide_eq_true (by kernel_rfl)) (by unfold Func.isWrapper; first | (rw [if_pos (by decide +kernel)]; kernel_rfl) | (rw [if_neg (by decide +kernel)]; exact ⟨rfl, rfl⟩))
    (fun os started H enc _ => lifted os started H enc)

/-- THE STATEMENT -/
theorem proved : Rows.FnProfileRouteIsFirstRouteOfBodySaid := over
#print axioms proved
end Go.Proofs.Qxb6604078a.fnProfileRouteIsFirstRouteOfBody
