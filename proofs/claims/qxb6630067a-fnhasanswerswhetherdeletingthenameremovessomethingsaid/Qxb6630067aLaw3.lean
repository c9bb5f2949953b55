import Derived.Test.Qxb6630067aIns
import Derived.Test.Qxb6630067aSize
namespace Go.Proofs.Qxb6630067a
open Go.RowKit
set_option linter.unusedVariables false

/-- Ends in true; nothing old has turned. -/
def TrueEnd (w : World) (e : Ending) (w' : World) : Prop := e = .returned (.bool true) ∧ Below w.heap.size w w'

theorem elem22 : Try.prog.elem 22 = 9 := by kernel_rfl
theorem under22 : Try.prog.underlying 22 = some (.slice (Try.prog.elem 22)) := by rw [elem22]; exact Try.underlying22
theorem size9 (W : World) : (sizeOf 9).run Try.prog W = .ok 1 W := by
  obtain ⟨i, hi, _, hs, _⟩ := info_parts info9
  simp [sizeOf, typeInfo, hi, hs]
/-- 'names[:c]'. -/
theorem slice_head (na : Option Addr) (nl nc c : Nat) (hc : c ≤ nc) (W : World) : (Instr.slice 22 (.slice na nl nc) none (some (.int .i64 (c : Int))) none).run Try.prog W = .ok (.slice na c nc) W := by
  rw [run_slice_h W 22 na nl nc under22 .i64 c (by omega) (by omega), elem22, size9]
  show Result.ok (sliced na 0 c nc 1) W = _
  unfold sliced
  have e : na.map (fun a => a.add (0 * 1)) = na := by cases na <;> simp [Addr.add]
  rw [e]
  simp
/-- 'names[c:]'. -/
theorem slice_tail (na : Option Addr) (nl nc c : Nat) (hc : c ≤ nl) (hn : nl ≤ nc) : ∃ ta, (∀ b off, c < nl → na = some ⟨b, off, none⟩ → ta = some ⟨b, off + c, none⟩) ∧
    ∀ W : World, (Instr.slice 22 (.slice na nl nc) (some (.int .i64 (c : Int))) none none).run Try.prog W = .ok (.slice ta (nl - c) (nc - c)) W := by
  refine ⟨if nc = c then na else na.map (fun a => a.add (c * 1)), fun b off h e => ?_, fun W => ?_⟩
  · rw [if_neg (by omega), e]
    simp [Addr.add_mid]
  · rw [run_slice_l W 22 na nl nc under22 .i64 c (by omega) (by omega), elem22, size9]
    rfl
theorem Row.tail {B : Nat} {w : World} {na ta : Option Addr} {nl c : Nat} {f : Nat → ByteArray} (h : Row B w na nl f) (hc : c ≤ nl) (ht : ∀ b off, c < nl → na = some ⟨b, off, none⟩ → ta = some ⟨b, off + c, none⟩) : Row B w ta (nl - c) (fun i => f (c + i)) := fun i hi => by
  obtain ⟨b, off, e, hlt, hcell⟩ := h (c + i) (by omega)
  exact ⟨b, off + c, ht b off (by omega) e, hlt, by rw [Nat.add_assoc]; exact hcell⟩

/-! ### The plain law -/
theorem has_cut (f : Nat → ByteArray) (n c : Nat) (x : ByteArray) (hc : c ≤ n) : has f n x = (has f c x || has (fun i => f (c + i)) (n - c) x) := by
  rw [Bool.eq_iff_iff, Bool.or_eq_true, has_iff, has_iff, has_iff]
  constructor
  · rintro ⟨k, hk, h⟩
    rcases Nat.lt_or_ge k c with hkc | hkc
    · exact .inl ⟨k, hkc, h⟩
    · exact .inr ⟨k - c, by omega, by rw [show c + (k - c) = k from by omega]; exact h⟩
  · rintro (⟨k, hk, h⟩ | ⟨k, hk, h⟩)
    · exact ⟨k, by omega, h⟩
    · exact ⟨c + k, by omega, h⟩
theorem has_ins (f : Nat → ByteArray) (n c : Nat) (x y : ByteArray) (hc : c ≤ n) : has (insF f c y) (n + 1) x = (has f n x || same y x) := by
  rw [Bool.eq_iff_iff, Bool.or_eq_true, has_iff, has_iff]
  constructor
  · rintro ⟨k, hk, h⟩
    rcases Nat.lt_trichotomy k c with hkc | hkc | hkc
    · rw [insF_before hkc] at h; exact .inl ⟨k, by omega, h⟩
    · rw [hkc, insF_there] at h; exact .inr h
    · obtain ⟨j, rfl⟩ : ∃ j, k = j + 1 := ⟨k - 1, by omega⟩
      rw [insF_behind (by omega)] at h
      exact .inl ⟨j, by omega, h⟩
  · rintro (⟨k, hk, h⟩ | h)
    · rcases Nat.lt_or_ge k c with hkc | hkc
      · exact ⟨k, by omega, by rw [insF_before hkc]; exact h⟩
      · exact ⟨k + 1, by omega, by rw [insF_behind hkc]; exact h⟩
    · exact ⟨c, by omega, by rw [insF_there]; exact h⟩
theorem same_self (x : ByteArray) : same x x = true := by simp [same]

set_option maxRecDepth 20000 in
set_option maxHeartbeats 4000000 in
theorem law3 (w : World) (na va : Option Addr) (nl nc vl vc : Nat) (nf vf : Nat → ByteArray) (hn : Row w.heap.size w na nl nf) (hv : Row w.heap.size w va vl vf) (hnc : nl ≤ nc) (hnl : nl ≤ 9223372036854775807) (hncm : nc ≤ 9223372036854775807) (hvl : vl ≤ 9223372036854775807) (name : ByteArray) (cut : Int) (other : ByteArray) :
    Calls Try.prog 3 #[.slice na nl nc, .slice va vl vc, .string name, .int .i64 cut, .string other] w (TrueEnd w) := by
  have HN : Hid _ := hn
  have HV : Hid _ := hv
  clear hn hv
  go_enter Try.func3, Try.ntmps3
  go_wp2_with fail
  refine Calls.mono (bytes5_any w.heap.size w na va nl nc vl vc name cut other nf vf (Hid.out HN) (Hid.out HV) hnl hvl) ?_
  rintro e w' ⟨b5, rfl, hw⟩
  have hw := hw.symm
  subst hw
  cases b5 with
  | false =>
    go_wp2
    go_ret
    exact ⟨rfl, Below.refl _ _⟩
  | true =>
  go_wp2_with fail
  refine Calls.mono (size_any w.heap.size w na va nl nc vl vc name other nf vf (Hid.out HN) (Hid.out HV) hnl hvl) ?_
  rintro e w' ⟨b6, rfl, h16, hw⟩
  have hw := hw.symm
  subst hw
  cases b6 with
  | true =>
    go_wp2
    go_ret
    exact ⟨rfl, Below.refl _ _⟩
  | false =>
  have HL : Hid (nl ≤ 65536) := h16 rfl
  clear h16
  by_cases c0 : cut < 0
  · go_wp2
    go_ret
    exact ⟨rfl, Below.refl _ _⟩
  obtain ⟨c, rfl⟩ : ∃ c : Nat, cut = c := ⟨cut.toNat, by omega⟩
  clear c0
  by_cases c1 : nl < c
  · go_wp2
    go_ret
    exact ⟨rfl, Below.refl _ _⟩
  have hc : c ≤ nl := by omega
  have d1 : decide ((c : Int) < 0) = false := decide_eq_false (by omega)
  have d2 : decide (nl < c) = false := decide_eq_false (by omega)
  clear c1
  obtain ⟨bl, hbl⟩ : ∃ b, has nf c name = b := ⟨_, rfl⟩
  obtain ⟨br, hbr⟩ : ∃ b, has (fun i => nf (c + i)) (nl - c) name = b := ⟨_, rfl⟩
  obtain ⟨bo, hbo⟩ : ∃ b, same other name = b := ⟨_, rfl⟩
  have hbw : has nf nl name = (bl || br) := by rw [has_cut nf nl c name hc, hbl, hbr]
  have hbp : has (insF nf c name) (nl + 1) name = true := by rw [has_ins nf nl c name name hc, same_self, Bool.or_true]
  have hbq : has (insF nf c other) (nl + 1) name = (bl || br || bo) := by rw [has_ins nf nl c name other hc, hbw, hbo]
  have hs1 := slice_head na nl nc c (by omega)
  obtain ⟨ta, hta, hs2⟩ := slice_tail na nl nc c hc hnc
  have HTA : Hid _ := hta
  have HBL : Hid _ := hbl
  have HBR : Hid _ := hbr
  have HBW : Hid _ := hbw
  have HBP : Hid _ := hbp
  have HBQ : Hid _ := hbq
  have HBO : Hid _ := hbo
  clear hbl hbr hbw hbp hbq hta hbo
  go_wp2_with fail
  have k1 := has_any w.heap.size w (Nat.le_refl _) na nl nc nf (Hid.out HN) hnl va vl vc name
  rw [HBW.out] at k1
  refine Calls.mono k1 ?_
  rintro e w1 ⟨rfl, hb1⟩
  have HB1 : Hid _ := hb1
  clear hb1 k1
  go_wp2_with fail
  have k1 := has_any w.heap.size w1 HB1.out.size na c nc nf ((Row.later (Hid.out HN) HB1.out).short hc) (by omega) va vl vc name
  rw [HBL.out] at k1
  refine Calls.mono k1 ?_
  rintro e w2 ⟨rfl, hb2⟩
  have HB2 : Hid (Below w.heap.size w w2) := HB1.out.trans (hb2.mono HB1.out.size)
  clear hb2 k1 HB1
  go_wp2_with fail
  have k1 := has_any w.heap.size w2 HB2.out.size ta (nl - c) (nc - c) _ (Row.tail (Row.later (Hid.out HN) HB2.out) hc HTA.out) (by omega) none 0 0 name
  rw [HBR.out] at k1
  refine Calls.mono k1 ?_
  rintro e w3 ⟨rfl, hb3⟩
  have HB3 : Hid (Below w.heap.size w w3) := HB2.out.trans (hb3.mono HB2.out.size)
  clear hb3 k1 HB2 hs1 hs2
  go_wp2_with fail
  refine Calls.mono (ins_any w.heap.size w3 HB3.out.size na nl nc nf (Row.later (Hid.out HN) HB3.out) HL.out c hc name) ?_
  rintro e w4 ⟨a4, rfl, hr4, hb4⟩
  have HR4 : Hid _ := hr4
  have HB4 : Hid (Below w.heap.size w w4) := HB3.out.trans (hb4.mono HB3.out.size)
  clear hb4 hr4 HB3
  go_wp2_with fail
  refine Calls.mono (ins_any w.heap.size w4 HB4.out.size na nl nc nf (Row.later (Hid.out HN) HB4.out) HL.out c hc other) ?_
  rintro e w5 ⟨a5, rfl, hr5, hb5⟩
  have HR5 : Hid _ := hr5
  have HR4' : Hid _ := Row.more (Row.later (Hid.out HR4) hb5) hb5.size
  have HB5 : Hid (Below w.heap.size w w5) := HB4.out.trans (hb5.mono HB4.out.size)
  clear hb5 hr5 HB4 HR4
  go_wp2_with fail
  have k1 := has_any w5.heap.size w5 (Nat.le_refl _) a4 (nl + 1) (nl + 1) _ (Hid.out HR4') (by have := HL.out; omega) va vl vc name
  rw [HBP.out] at k1
  refine Calls.mono k1 ?_
  rintro e w6 ⟨rfl, hb6⟩
  have HB6 : Hid (Below w.heap.size w w6) := HB5.out.trans (hb6.mono HB5.out.size)
  have HR5' : Hid _ := Row.later (Hid.out HR5) hb6
  have hsz := hb6.size
  clear hb6 k1 HB5
  go_wp2_with fail
  have k1 := has_any w5.heap.size w6 hsz a5 (nl + 1) (nl + 1) _ (Hid.out HR5') (by have := HL.out; omega) va vl vc name
  rw [HBQ.out] at k1
  refine Calls.mono k1 ?_
  rintro e w7 ⟨rfl, hb7⟩
  have HB7 : Hid (Below w.heap.size w w7) := HB6.out.trans (hb7.mono HB6.out.size)
  have hbo : (other.toList == name.toList) = bo := HBO.out
  clear hb7 k1 HB6 HN HV HR5 HR5' HR4' HBO HBL HBR HBW HBP HBQ HTA hsz
  cases bl <;> cases br <;> cases bo
  all_goals
    go_wp2_with fail
    go_ret
    exact ⟨rfl, HB7.out⟩
end Go.Proofs.Qxb6630067a
