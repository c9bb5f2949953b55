import Derived.Test.Qxb6630067aWo
import Derived.Test.Qxb6630067aLaw3
namespace Go.Proofs.Qxb6630067a
open Go.RowKit
set_option linter.unusedVariables false

theorem wo_has {f : Nat → ByteArray} {x : ByteArray} {n : Nat} {l : List ByteArray} (h : Kept f x n l) : has (fun i => l.getD i ⟨#[]⟩) l.length x = false :=
  has_false (fun k hk => h.all _ (by rw [List.getD_eq_getElem?_getD, List.getElem?_eq_getElem hk]; exact List.getElem_mem _))
theorem wo_was {f : Nat → ByteArray} {x : ByteArray} {n : Nat} {l : List ByteArray} (h : Kept f x n l) : has f n x = decide (l.length < n) := by
  have hle := h.le
  by_cases e : l.length < n
  · obtain ⟨i, hi, hx⟩ := h.less e
    rw [has_true hi hx, decide_eq_true e]
  · rw [has_false (h.full (by omega)), decide_eq_false e]

set_option maxRecDepth 20000 in
set_option maxHeartbeats 4000000 in
theorem law4 (w : World) (na va : Option Addr) (nl nc vl vc : Nat) (nf vf : Nat → ByteArray) (hn : Row w.heap.size w na nl nf) (hv : Row w.heap.size w va vl vf) (hnl : nl ≤ 9223372036854775807) (hvl : vl ≤ 9223372036854775807) (name : ByteArray) :
    Calls Try.prog 4 #[.slice na nl nc, .slice va vl vc, .string name] w (TrueEnd w) := by
  have HN : Hid _ := hn
  have HV : Hid _ := hv
  clear hn hv
  go_enter Try.func4, Try.ntmps4
  go_wp2_with fail
  refine Calls.mono (bytes9_any w.heap.size w na va nl nc vl vc name nf vf (Hid.out HN) (Hid.out HV) hnl hvl) ?_
  rintro e w' ⟨b5, rfl, hw⟩
  have hw := hw.symm
  subst hw
  cases b5 with
  | false =>
    go_wp2
    go_ret
    exact ⟨rfl, Below.refl _ _⟩
  | true =>
  go_wp2_with fail
  refine Calls.mono (size_any w.heap.size w na va nl nc vl vc name ⟨#[]⟩ nf vf (Hid.out HN) (Hid.out HV) hnl hvl) ?_
  rintro e w' ⟨b6, rfl, h16, hw⟩
  have hw := hw.symm
  subst hw
  cases b6 with
  | true =>
    go_wp2
    go_ret
    exact ⟨rfl, Below.refl _ _⟩
  | false =>
  have HL : Hid (nl ≤ 65536) := h16 rfl
  clear h16
  go_wp2_with fail
  refine Calls.mono (wo_any w.heap.size w (Nat.le_refl _) na nl nc nf (Hid.out HN) HL.out name) ?_
  rintro e w1 ⟨a1, q, l, rfl, hlq, hkept, hr1, hb1⟩
  have hafter := wo_has hkept
  have hwas := wo_was hkept
  rw [hlq] at hafter hwas
  have hqle : q ≤ nl := by have := hkept.le; omega
  obtain ⟨bw, hbw⟩ : ∃ b, has nf nl name = b := ⟨_, rfl⟩
  have hqb : decide (q < nl) = bw := by rw [← hwas, hbw]
  have HBW : Hid _ := hbw
  have HAF : Hid _ := hafter
  have HR1 : Hid _ := hr1
  have HB1 : Hid _ := hb1
  have HQB : Hid _ := hqb
  clear hlq hkept hafter hwas hbw hr1 hb1 hqb
  go_wp2_with fail
  have k1 := has_any w.heap.size w1 HB1.out.size na nl nc nf (Row.later (Hid.out HN) HB1.out) hnl va vl vc name
  rw [HBW.out] at k1
  refine Calls.mono k1 ?_
  rintro e w2 ⟨rfl, hb2⟩
  have HB2 : Hid (Below w.heap.size w w2) := HB1.out.trans (hb2.mono HB1.out.size)
  have HR2 : Hid _ := Row.later (Hid.out HR1) hb2
  have hz2 := hb2.size
  clear hb2 k1
  go_wp2_with fail
  have k1 := has_any w.heap.size w2 HB2.out.size na nl nc nf (Row.later (Hid.out HN) HB2.out) hnl none 0 0 name
  rw [HBW.out] at k1
  refine Calls.mono k1 ?_
  rintro e w3 ⟨rfl, hb3⟩
  have HB3 : Hid (Below w.heap.size w w3) := HB2.out.trans (hb3.mono HB2.out.size)
  have HR3 : Hid _ := Row.later (Hid.out HR2) (hb3.mono hz2)
  have hz3 := Nat.le_trans hz2 hb3.size
  clear hb3 k1
  go_wp2_with fail
  have k1 := has_any w1.heap.size w3 hz3 a1 q nl _ (Hid.out HR3) (by omega) va vl vc name
  rw [HAF.out] at k1
  refine Calls.mono k1 ?_
  rintro e w4 ⟨rfl, hb4⟩
  have HB4 : Hid (Below w.heap.size w w4) := HB3.out.trans (hb4.mono HB3.out.size)
  have hqb : decide (q < nl) = bw := HQB.out
  clear hb4 k1 hz2 hz3 HB1 HB2 HB3 HR1 HR2 HR3 HBW HAF HN HV HQB
  cases bw
  all_goals
    go_wp2_with fail
    go_ret
    exact ⟨rfl, HB4.out⟩
end Go.Proofs.Qxb6630067a
