import Derived.Test.Qxb6628968aOpen
import Derived.Test.Qxb6628968aLaw4
namespace Go.Proofs.Qxb6628968a.p4
open Go.ChangeShapes Go.WideShapes Go.ChangeAt Go.RowKit
open Go.ChangeMaps (open_string shut_string)
set_option linter.unusedVariables false

theorem own : ownKnob Try.prog.godebug = none := by kernel_rfl
theorem laidOut : laidOutB Try.prog = true := by kernel_rfl

set_option maxRecDepth 100000 in
theorem lifted (os : Os) (started : os.Started) (H : Type) (enc : TypeId × Value → H) :
    ReturnsInHanded {} Try.checked os 4 .any (Rows.fnIndexSeesOnlyIndexColumnsSpec.pre6 enc Try.prog Try.f4 Rows.fnIndexSeesOnlyIndexColumnsRow.domain false) (Rows.fnIndexSeesOnlyIndexColumnsSpec.post enc Try.prog Try.f4 false true false false) := by
  refine returnsInHanded_of_change (C := Try.checked) own started (by kernel_rfl) Try.func4
    (ChangeSpec.witness6 (enc := enc) (C := Try.checked) false ⟨#[], #[.string ⟨#[]⟩, .string ⟨#[]⟩, .slice none 0 0, .slice none 0 0, .slice none 0 0, .slice none 0 0, .slice none 0 0, .slice none 0 0, .slice none 0 0], []⟩ 8 (by kernel_rfl) (by kernel_rfl) (by kernel_rfl) (by kernel_rfl)) ?_
  intro W base args ds gs before hval0 hW hcnd _
  have hval : ∀ (j : Nat) t v, Try.f4.params[j]? = some t → args[j]? = some v → Value.okWide Try.prog W .any base t v := hval0
  have hW' := hW
  obtain ⟨p, q, hA0, hV, rfl, hfz, hnd⟩ := hW
  have hA : DataW.TrodAll enc Try.prog W 0 (fun _ => true) true Try.f4.params.toList args.toList ds p := hA0
  rw [Try.params4] at hA hval
  obtain ⟨v0, vs0, d0, ds0, p0, q0, hargs, rfl, rfl, h0, r0⟩ := trodAll_cons hA
  obtain ⟨v1, vs1, d1, ds1, p1, q1, rfl, rfl, rfl, h1, r1⟩ := trodAll_cons r0
  obtain ⟨v2, vs2, d2, ds2, p2, q2, rfl, rfl, rfl, h2, r2⟩ := trodAll_cons r1
  obtain ⟨v3, vs3, d3, ds3, p3, q3, rfl, rfl, rfl, h3, r3⟩ := trodAll_cons r2
  obtain ⟨v4, vs4, d4, ds4, p4, q4, rfl, rfl, rfl, h4, r4⟩ := trodAll_cons r3
  obtain ⟨v5, vs5, d5, ds5, p5, q5, rfl, rfl, rfl, h5, r5⟩ := trodAll_cons r4
  obtain ⟨v6, vs6, d6, ds6, p6, q6, rfl, rfl, rfl, h6, r6⟩ := trodAll_cons r5
  obtain ⟨v7, vs7, d7, ds7, p7, q7, rfl, rfl, rfl, h7, r7⟩ := trodAll_cons r6
  obtain ⟨v8, vs8, d8, ds8, p8, q8, rfl, rfl, rfl, h8, r8⟩ := trodAll_cons r7
  obtain ⟨rfl, rfl, rfl⟩ := trodAll_nil r8
  obtain rfl : args = #[v0, v1, v2, v3, v4, v5, v6, v7, v8] := by cases args; simp_all
  obtain ⟨rfl, rfl⟩ := trodVars_none hV
  obtain ⟨s0, rfl, rfl, rfl, w0⟩ := open_string Try.underlying9 (hval 0 9 v0 rfl rfl) h0
  obtain ⟨s1, rfl, rfl, rfl, w1⟩ := open_string Try.underlying9 (hval 1 9 v1 rfl rfl) h1
  obtain ⟨a2, len2, cap2, rfl⟩ := okWide_slice Try.underlying22 (hval 2 22 v2 rfl rfl)
  have k2 := h2
  have lt2 : ∀ x ∈ p2, x.block < W.heap.size := by obtain ⟨m, hm⟩ := k2; exact DataW.trod_lt m _ _ _ hm
  obtain ⟨f2, w2, m2⟩ : ∃ f : Nat → ByteArray, Row W.heap.size W a2 len2 (fun i => .string (f i)) ∧ len2 ≤ maxLen := by
    obtain ⟨fuel, hf⟩ := h2
    exact row_strs (by simpa [Value.cells] using hf)
  obtain ⟨a3, len3, cap3, rfl⟩ := okWide_slice Try.underlying23 (hval 3 23 v3 rfl rfl)
  have k3 := h3
  have lt3 : ∀ x ∈ p3, x.block < W.heap.size := by obtain ⟨m, hm⟩ := k3; exact DataW.trod_lt m _ _ _ hm
  obtain ⟨f3, w3, m3⟩ : ∃ f : Nat → Int, Row W.heap.size W a3 len3 (fun i => .int .i64 (f i)) ∧ len3 ≤ maxLen := by
    obtain ⟨fuel, hf⟩ := h3
    exact row_ints (by simpa [Value.cells] using hf)
  obtain ⟨a4, len4, cap4, rfl⟩ := okWide_slice Try.underlying24 (hval 4 24 v4 rfl rfl)
  have k4 := h4
  have lt4 : ∀ x ∈ p4, x.block < W.heap.size := by obtain ⟨m, hm⟩ := k4; exact DataW.trod_lt m _ _ _ hm
  obtain ⟨f4, w4, m4⟩ : ∃ f : Nat → Bool, Row W.heap.size W a4 len4 (fun i => .bool (f i)) ∧ len4 ≤ maxLen := by
    obtain ⟨fuel, hf⟩ := h4
    exact row_bools (by simpa [Value.cells] using hf)
  obtain ⟨a5, len5, cap5, rfl⟩ := okWide_slice Try.underlying25 (hval 5 25 v5 rfl rfl)
  have k5 := h5
  have lt5 : ∀ x ∈ p5, x.block < W.heap.size := by obtain ⟨m, hm⟩ := k5; exact DataW.trod_lt m _ _ _ hm
  obtain ⟨A5, L5, C5, w5, m5, n5⟩ : ∃ (A : Nat → Option Addr) (L C : Nat → Nat), Row W.heap.size W a5 len5 (fun i => .slice (A i) (L i) (C i)) ∧ len5 ≤ maxLen ∧ ∀ i, i < len5 → ∃ vf : Nat → Int, Row W.heap.size W (A i) (L i) (fun j => .int .u32 (vf j)) ∧ L i ≤ maxLen := by
    obtain ⟨fuel, hf⟩ := h5
    exact row_rows (by simpa [Value.cells] using hf)
  obtain ⟨a6, len6, cap6, rfl⟩ := okWide_slice Try.underlying24 (hval 6 24 v6 rfl rfl)
  have k6 := h6
  have lt6 : ∀ x ∈ p6, x.block < W.heap.size := by obtain ⟨m, hm⟩ := k6; exact DataW.trod_lt m _ _ _ hm
  obtain ⟨f6, w6, m6⟩ : ∃ f : Nat → Bool, Row W.heap.size W a6 len6 (fun i => .bool (f i)) ∧ len6 ≤ maxLen := by
    obtain ⟨fuel, hf⟩ := h6
    exact row_bools (by simpa [Value.cells] using hf)
  obtain ⟨a7, len7, cap7, rfl⟩ := okWide_slice Try.underlying24 (hval 7 24 v7 rfl rfl)
  have k7 := h7
  have lt7 : ∀ x ∈ p7, x.block < W.heap.size := by obtain ⟨m, hm⟩ := k7; exact DataW.trod_lt m _ _ _ hm
  obtain ⟨f7, w7, m7⟩ : ∃ f : Nat → Bool, Row W.heap.size W a7 len7 (fun i => .bool (f i)) ∧ len7 ≤ maxLen := by
    obtain ⟨fuel, hf⟩ := h7
    exact row_bools (by simpa [Value.cells] using hf)
  obtain ⟨a8, len8, cap8, rfl⟩ := okWide_slice Try.underlying24 (hval 8 24 v8 rfl rfl)
  have k8 := h8
  have lt8 : ∀ x ∈ p8, x.block < W.heap.size := by obtain ⟨m, hm⟩ := k8; exact DataW.trod_lt m _ _ _ hm
  obtain ⟨f8, w8, m8⟩ : ∃ f : Nat → Bool, Row W.heap.size W a8 len8 (fun i => .bool (f i)) ∧ len8 ≤ maxLen := by
    obtain ⟨fuel, hf⟩ := h8
    exact row_bools (by simpa [Value.cells] using hf)
  clear hA0 hval0
  have H5 := bytes10_any W.heap.size W s0 s1 a2 a3 a4 a5 a6 a7 a8 len2 cap2 len3 cap3 len4 cap4 len5 cap5 len6 cap6 len7 cap7 len8 cap8 f2 A5 L5 C5 w2 w5 m2 m5
  have H6 := size_any W.heap.size W s0 s1 a2 a3 a4 a5 a6 a7 a8 len2 cap2 len3 cap3 len4 cap4 len5 cap5 len6 cap6 len7 cap7 len8 cap8 f2 A5 L5 C5 w2 w5 m2 m5
  have H7 : ∀ W', Below W.heap.size W W' → ∀ i : Nat, i < len6 → Calls Try.prog 7 #[.int .i64 i, .slice a2 len2 cap2, .slice a3 len3 cap3, .slice a4 len4 cap4, .slice a5 len5 cap5, .slice a6 len6 cap6, .slice a7 len7 cap7, .slice a8 len8 cap8] W' (AttrEnd (atOf len2 f2 len3 f3 len4 f4 len5 A5 L5 C5 f6 len7 f7 len8 f8 i) W') := fun W' hb i hi =>
    attrAt_any W.heap.size W' hb.size i a2 a3 a4 a5 a6 a7 a8 len2 cap2 len3 cap3 len4 cap4 len5 cap5 len6 cap6 len7 cap7 len8 cap8 f2 f3 f4 A5 L5 C5 f6 f7 f8 (w2.later hb) (w3.later hb) (w4.later hb) (w5.later hb) (w6.later hb) (w7.later hb) (w8.later hb) hi
  refine (law4 W s0 s1 a2 a3 a4 a5 a6 a7 a8 len2 cap2 len3 cap3 len4 cap4 len5 cap5 len6 cap6 len7 cap7 len8 cap8 (atOf len2 f2 len3 f3 len4 f4 len5 A5 L5 C5 f6 len7 f7 len8 f8) H5 H6 H7 (fun i _ => good_at n5 i) w6).mono fun e W' ⟨he, bel⟩ => ?_
  subst he
  exact ⟨_, rfl, _, _, _, [], _, [], hW', trodAll_mk1 (shut_bool Try.underlying4 _), (trodAll_cons_mk (shut_string Try.underlying9 w0) (trodAll_cons_mk (shut_string Try.underlying9 w1) (trodAll_cons_mk (Below.trod laidOut (by kernel_rfl) (of_decide_eq_true (by kernel_rfl)) k2 bel lt2) (trodAll_cons_mk (Below.trod laidOut (by kernel_rfl) (of_decide_eq_true (by kernel_rfl)) k3 bel lt3) (trodAll_cons_mk (Below.trod laidOut (by kernel_rfl) (of_decide_eq_true (by kernel_rfl)) k4 bel lt4) (trodAll_cons_mk (Below.trod laidOut (by kernel_rfl) (of_decide_eq_true (by kernel_rfl)) k5 bel lt5) (trodAll_cons_mk (Below.trod laidOut (by kernel_rfl) (of_decide_eq_true (by kernel_rfl)) k6 bel lt6) (trodAll_cons_mk (Below.trod laidOut (by kernel_rfl) (of_decide_eq_true (by kernel_rfl)) k7 bel lt7) (trodAll_cons_mk (Below.trod laidOut (by kernel_rfl) (of_decide_eq_true (by kernel_rfl)) k8 bel lt8) trodAll_mk0))))))))), rfl, bel.frame _, fun h => by cases h⟩

theorem over : Rows.fnIndexSeesOnlyIndexColumnsRow.holds Try.pinned (OpenSpec.ofChange Rows.fnIndexSeesOnlyIndexColumnsSpec) :=
  OpenClaim.holds_of_wide 4 Try.f4 rfl rfl rfl rfl rfl rfl rfl ⟨rfl, rfl, rfl, rfl, rfl⟩ rfl rfl rfl rfl rfl (by kernel_rfl) Try.func4 (by kernel_rfl)
    (of_decide_eq_true (by kernel_rfl)) (by unfold Func.isWrapper; first | (rw [if_pos (by decide +kernel)]; kernel_rfl) | (rw [if_neg (by decide +kernel)]; exact ⟨rfl, rfl⟩))
    (fun os started H enc _ => lifted os started H enc)

theorem proved : Rows.FnIndexSeesOnlyIndexColumnsSaid := over
end Go.Proofs.Qxb6628968a.p4
namespace Go.Proofs.Qxb6628968a
/-- THE STATEMENT -/
theorem fnIndexSeesOnlyIndexColumns_proved : Rows.FnIndexSeesOnlyIndexColumnsSaid := p4.proved
#print axioms fnIndexSeesOnlyIndexColumns_proved
end Go.Proofs.Qxb6628968a
