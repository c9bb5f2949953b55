import Derived.Test.Qxb6629989aOpen
import Derived.Test.Qxb6629989aLaw4
namespace Go.Proofs.Qxb6629989a.p4
open Go.ChangeShapes Go.WideShapes Go.ChangeAt Go.RowKit
open Go.Joins
set_option linter.unusedVariables false

theorem own : ownKnob Try.prog.godebug = none := by kernel_rfl
theorem laidOut : laidOutB Try.prog = true := by kernel_rfl

set_option maxRecDepth 100000 in
theorem lifted (os : Os) (started : os.Started) (H : Type) (enc : TypeId × Value → H) :
    ReturnsInHanded {} Try.checked os 4 .any (Rows.fnSatisfiableOneSpecPutInAnywhereSpec.pre6 enc Try.prog Try.f4 Rows.fnSatisfiableOneSpecPutInAnywhereRow.domain false) (Rows.fnSatisfiableOneSpecPutInAnywhereSpec.post enc Try.prog Try.f4 false true false false) := by
  refine returnsInHanded_of_change (C := Try.checked) own started (by kernel_rfl) Try.func4
    (ChangeSpec.witness6 (enc := enc) (C := Try.checked) false ⟨#[], #[.slice none 0 0, .int .i64 0, .agg #[.int .i64 0, .int .i64 0, .int .i64 0], .int .i64 0], []⟩ 8 (by kernel_rfl) (by kernel_rfl) (by kernel_rfl) (by kernel_rfl)) ?_
  intro W base args ds gs before hval0 hW hcnd _
  have hval : ∀ (j : Nat) t v, Try.f4.params[j]? = some t → args[j]? = some v → Value.okWide Try.prog W .any base t v := hval0
  have hW' := hW
  obtain ⟨p, q, hA0, hV, rfl, hfz, hnd⟩ := hW
  have hA : DataW.TrodAll enc Try.prog W 0 (fun _ => true) true Try.f4.params.toList args.toList ds p := hA0
  rw [Try.params4] at hA hval
  obtain ⟨v0, vs0, d0, ds0, p0, q0, hargs, rfl, rfl, h0, r0⟩ := trodAll_cons hA
  obtain ⟨v1, vs1, d1, ds1, p1, q1, rfl, rfl, rfl, h1, r1⟩ := trodAll_cons r0
  obtain ⟨v2, vs2, d2, ds2, p2, q2, rfl, rfl, rfl, h2, r2⟩ := trodAll_cons r1
  obtain ⟨v3, vs3, d3, ds3, p3, q3, rfl, rfl, rfl, h3, r3⟩ := trodAll_cons r2
  obtain ⟨rfl, rfl, rfl⟩ := trodAll_nil r3
  obtain rfl : args = #[v0, v1, v2, v3] := by cases args; simp_all
  obtain ⟨rfl, rfl⟩ := trodVars_none hV
  obtain ⟨a0, len0, cap0, rfl⟩ := okWide_slice Try.underlying22 (hval 0 22 v0 rfl rfl)
  have k0 := h0
  have lt0 : ∀ x ∈ p0, x.block < W.heap.size := by obtain ⟨m, hm⟩ := k0; exact DataW.trod_lt m _ _ _ hm
  have k2 := h2
  have lt2 : ∀ x ∈ p2, x.block < W.heap.size := by obtain ⟨m, hm⟩ := k2; exact DataW.trod_lt m _ _ _ hm
  obtain ⟨z1, rfl, rfl, rfl, w1⟩ := open_int Try.underlying2 (hval 1 2 v1 rfl rfl) h1
  obtain ⟨z3, rfl, rfl, rfl, w3⟩ := open_int Try.underlying3 (hval 3 3 v3 rfl rfl) h3
  have b1 := bounds_i64 w1
  obtain ⟨x, hx⟩ : ∃ x : Sp, v2 = .agg #[.int .i64 x.a, .int .i64 x.b, .int .i64 x.c] := by
    obtain ⟨c0, c1, c2, y0, y1, y2, m, rfl, rfl, rfl, hy0, hy1, hy2⟩ := open_agg3 Try.underlying29 (by kernel_rfl) cells29 (hval 2 29 v2 rfl rfl) h2
    obtain ⟨n0, e0, _⟩ := DataW.trod_int Try.underlying2 hy0
    obtain ⟨n1, e1, _⟩ := DataW.trod_int Try.underlying2 hy1
    obtain ⟨n2, e2, _⟩ := DataW.trod_int Try.underlying2 hy2
    simp at e0 e1 e2
    subst e0 e1 e2
    exact ⟨⟨n0, n1, n2⟩, rfl⟩
  have wk : Calls Try.prog 4 #[.slice a0 len0 cap0, .int .i64 z1, v2, .int .i64 z3] W (TrueEnd W) := by
    rw [hx]
    obtain ⟨fuel, hf⟩ := h0
    rcases row_specs (by simpa [Value.cells] using hf) with ⟨rfl, rfl, rfl⟩ | ⟨ad, f, rfl, hr, hm⟩
    · exact law4 W none 0 0 (fun _ => ⟨0, 0, 0⟩) (fun _ => ⟨rfl, rfl⟩) (fun i hi => absurd hi (Nat.not_lt_zero _)) (by omega) z1 (by omega) x z3
    · exact law4 W (some ad) len0 cap0 f (fun h => by cases h) hr (by unfold maxLen at hm; omega) z1 (by omega) x z3
  clear hA0 hval0
  refine wk.mono fun e W' ⟨he, bel⟩ => ?_
  subst he
  exact ⟨_, rfl, _, _, _, [], _, [], hW', trodAll_mk1 (shut_bool Try.underlying4 _), (trodAll_cons_mk (Below.trod laidOut (by kernel_rfl) (of_decide_eq_true (by kernel_rfl)) k0 bel lt0) (trodAll_cons_mk (shut_int Try.underlying2 w1) (trodAll_cons_mk (Below.trod laidOut (by kernel_rfl) (of_decide_eq_true (by kernel_rfl)) k2 bel lt2) (trodAll_cons_mk (shut_int Try.underlying3 w3) trodAll_mk0)))), rfl, bel.frame _, fun h => by cases h⟩

theorem over : Rows.fnSatisfiableOneSpecPutInAnywhereRow.holds Try.pinned (OpenSpec.ofChange Rows.fnSatisfiableOneSpecPutInAnywhereSpec) :=
  OpenClaim.holds_of_wide 4 Try.f4 rfl rfl rfl rfl rfl rfl rfl ⟨rfl, rfl, rfl, rfl, rfl⟩ rfl rfl rfl rfl rfl (by kernel_rfl) Try.func4 (by kernel_rfl)
    (of_decide_eq_true (by kernel_rfl)) (by unfold Func.isWrapper; first | (rw [if_pos (by decide +kernel)]; kernel_rfl) | (rw [if_neg (by decide +kernel)]; exact ⟨rfl, rfl⟩))
    (fun os started H enc _ => lifted os started H enc)

theorem proved : Rows.FnSatisfiableOneSpecPutInAnywhereSaid := over
end Go.Proofs.Qxb6629989a.p4
namespace Go.Proofs.Qxb6629989a
/-- THE STATEMENT -/
theorem fnSatisfiableOneSpecPutInAnywhere_proved : Rows.FnSatisfiableOneSpecPutInAnywhereSaid := p4.proved
#print axioms fnSatisfiableOneSpecPutInAnywhere_proved
end Go.Proofs.Qxb6629989a
