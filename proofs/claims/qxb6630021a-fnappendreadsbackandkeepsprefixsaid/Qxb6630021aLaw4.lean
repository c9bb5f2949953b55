import Derived.Test.Qxb6630021aFour
namespace Go.Proofs.Qxb6630021a
open Go.RowKit
set_option linter.unusedVariables false

set_option maxRecDepth 20000 in
set_option maxHeartbeats 4000000 in
theorem law4 (w : World) (a : Int) (h0 : -9223372036854775808 ≤ a) (h1 : a ≤ 9223372036854775807) (ao : Option Addr) (len cap : Nat) (l : List Int) (h : Bs w.heap.size w ao len cap l) (hm : len ≤ 9223372036854775807) :
    Calls Try.prog 4 #[.int .i64 a, .slice ao len cap] w (TrueEnd w) := by
  have H : Hid _ := h
  clear h
  go_enter Try.func4, Try.ntmps4
  go_wp2_with fail
  refine Calls.mono (bytes10_any w a ao len cap) ?_
  rintro e w' ⟨b5, rfl, hw⟩
  have hw := hw.symm
  subst hw
  cases b5 with
  | false =>
    go_wp2
    go_ret
    exact ⟨rfl, Below.refl _ _⟩
  | true =>
  by_cases l0 : 1048576 < len
  · go_wp2
    go_ret
    exact ⟨rfl, Below.refl _ _⟩
  have hlen : len ≤ 1048576 := by omega
  have HLN : Hid (l.length = len) := (Hid.out H).hlen
  have dl : decide ((1048576 : Int) < (len : Int)) = false := decide_eq_false (by omega)
  clear l0
  have hL := text_length (a := a) (by omega)
  go_wp2_with fail
  refine Calls.mono (clone_any w.heap.size w (Nat.le_refl _) ao len cap l (Hid.out H) hlen) ?_
  rintro e w1 ⟨v1, rfl, ho1, hb1⟩
  rw [show l.length = len from HLN.out] at ho1
  obtain ⟨a1, c1, rfl, hs1, hnc1, hcm1, hB1⟩ := owned_bs ho1
  have HO1 : Hid _ := ho1
  have HS1 : Hid _ := hs1
  have HB1 : Hid _ := hb1
  have HBs1 : Hid _ := hB1
  clear ho1 hs1 hb1 hB1
  go_wp2_with fail
  refine Calls.mono (clone_any w1.heap.size w1 (Nat.le_refl _) a1 len c1 l (Hid.out HBs1) hlen) ?_
  rintro e w2 ⟨v2, rfl, ho2, hb2⟩
  rw [show l.length = len from HLN.out] at ho2
  obtain ⟨a2, c2, rfl, hs2, hnc2, hcm2, hB2⟩ := owned_bs ho2
  have HO2 : Hid _ := ho2
  have HS2 : Hid _ := hs2
  have HB2 : Hid _ := hb2
  have HBs2 : Hid _ := hB2
  clear ho2 hs2 hb2 hB2
  go_wp2_with fail
  refine Calls.mono (append_any w2.heap.size w2 (Nat.le_refl _) (.slice none 0 0) 0 [] (World.ownsRow_nil _ _ _ _) (by omega) a h0 h1) ?_
  rintro e w3 ⟨v3, rfl, ho3, hg3⟩
  rw [Nat.zero_add, List.nil_append] at ho3
  obtain ⟨a3, c3, rfl, hs3, hnc3, hcm3, hB3⟩ := owned_bs ho3
  have hb3 : Below w2.heap.size w2 w3 := ⟨hg3.os, hg3.tape, hg3.output, hg3.size, fun k hk => hg3.block k hk (by simp [Value.ownBlock])⟩
  have HO3 : Hid _ := ho3
  have HS3 : Hid _ := hs3
  have HB3 : Hid _ := hb3
  have HBs3 : Hid _ := hB3
  clear ho3 hs3 hb3 hB3 hg3
  have ho1' : w3.ownsRow w.heap.size 5 1 (.slice a1 len c1) len (vals l) :=
    ownsRow_below (ownsRow_below (Hid.out HO1) (Hid.out HB2) (fun k hk => (World.ownsRow.lt (Hid.out HO1) k hk).2)) (Hid.out HB3) (fun k hk => Nat.lt_of_lt_of_le (World.ownsRow.lt (Hid.out HO1) k hk).2 (Hid.out HB2).size)
  have HO1' : Hid _ := ho1'
  clear ho1'
  go_wp2_with fail
  refine Calls.mono (append_any w.heap.size w3 (Nat.le_trans HB1.out.size (Nat.le_trans HB2.out.size HB3.out.size)) (.slice a1 len c1) len l (Hid.out HO1') hlen a h0 h1) ?_
  rintro e w4 ⟨v4, rfl, ho4, hg4⟩
  obtain ⟨a4, c4, rfl, hs4, hnc4, hcm4, hB4⟩ := owned_bs ho4
  obtain ⟨g3, rfl, hg3b⟩ : ∃ g3, a3 = some ⟨g3, 0, none⟩ ∧ w2.heap.size ≤ g3 := by
    rcases Hid.out HS3 with rfl | ⟨g, rfl, _, hg⟩
    · have := (Hid.out HBs3).hnil rfl
      omega
    · exact ⟨g, rfl, hg⟩
  have hrow : ∀ g, (Value.slice a1 len c1).ownBlock = some g → w.heap.size ≤ g ∧ g < w1.heap.size := fun g hg => World.ownsRow.lt (Hid.out HO1) g hg
  have hF : Four w a l len a2 c2 g3 c3 a4 c4 w4 := by
    refine ⟨?_, ?_, ?_, hB4⟩
    · have q := (HB1.out.trans (HB2.out.mono HB1.out.size))
      have q := q.trans (HB3.out.mono q.size)
      exact q.grown hg4 q.size (fun k hk => (hrow k hk).1)
    · refine (((Hid.out HBs2).later (Hid.out HB3)).grown hg4 HB3.out.size (fun g hg e => ?_) ?_).more (Nat.le_trans HB3.out.size hg4.size)
      · rcases Hid.out HS2 with h | ⟨g', h, _, hb⟩
        · rw [h] at hg; cases hg
        · rw [h] at hg
          have := (hrow g e.symm).2
          have hgg := congrArg Addr.block (Option.some.inj hg)
          have hgg : g' = g := hgg
          omega
      · rcases Hid.out HS2 with h | ⟨g', h, _⟩
        · exact .inl h
        · exact .inr ⟨g', h⟩
    · refine ((Hid.out HBs3).grown hg4 (Nat.le_refl _) (fun g hg e => ?_) (.inr ⟨g3, rfl⟩)).more hg4.size
      have := (hrow g e.symm).2
      have := HB2.out.size
      have hgg : g3 = g := congrArg Addr.block (Option.some.inj hg)
      omega
  have HF : Hid _ := hF
  clear hF hB4 hs4 ho4 hg4 hrow HO1' HO3 HS3 HB3 HBs3 HO2 HS2 HB2 HBs2 HO1 HS1 HB1 HBs1 H dl hg3b
  go_wp2_with fail
  go_loopg [8] len (fun g v wr => ∃ k : Nat, k ≤ len ∧ g = len - k ∧ v = .int .i64 k ∧ Four w a l len a2 c2 g3 c3 a4 c4 wr)
  case atStart => exact ⟨0, Nat.zero_le _, rfl, rfl, HF.out⟩
  case round =>
    obtain ⟨k, hk, hgk, rfl, hF⟩ := hrel
    have HK : Hid (gk = len - k) := hgk
    have HFr : Hid _ := hF
    clear hgk HF
    by_cases hlt : k < len
    · obtain ⟨b2, o2, rfl, _, hc2⟩ := hF.keep.at_ k hlt
      obtain ⟨b4, o4, rfl, _, hc4⟩ := hF.got.at_ k (by omega)
      rw [getD_left (by have := HLN.out; omega)] at hc4
      obtain ⟨x, hx⟩ : ∃ x, x = l.getD k 0 := ⟨_, rfl⟩
      rw [← hx] at hc2 hc4
      have i1 : (0 : Int) ≤ (k : Int) := by omega
      have i2 : (k : Int) < (len : Int) := by omega
      have i3 : (k : Int) < (len : Int) + ((text a).length : Int) := by omega
      clear hF hx
      go_wp2_with fail
      go_quiet (fail)
      go_wp2_with fail
      go_roundg (len - (k + 1))
      case rel => exact ⟨k + 1, by omega, rfl, by go_num, Four.drewN (Hid.out HFr) _⟩
      case measure => have := HK.out; omega
    · clear hF HK
      go_wp2_with fail
      go_loopg [9] (text a).length (fun g v wr => ∃ k : Nat, k ≤ (text a).length ∧ g = (text a).length - k ∧ v = .int .i64 k ∧ Four w a l len a2 c2 g3 c3 a4 c4 wr)
      case atStart => exact ⟨0, Nat.zero_le _, rfl, rfl, HFr.out⟩
      case round =>
        clear HFr hlt hk
        obtain ⟨k, hk, hgk, rfl, hF⟩ := hrel
        have HK : Hid (gk = (text a).length - k) := hgk
        have HFr : Hid _ := hF
        clear hgk
        by_cases hlt : k < (text a).length
        · obtain ⟨b3, o3, e3, _, hc3⟩ := hF.txt.at_ k hlt
          simp only [Option.some.injEq, Addr.mk.injEq, and_true] at e3
          obtain ⟨rfl, rfl⟩ := e3
          obtain ⟨b4, o4, rfl, _, hc4⟩ := hF.got.at_ (len + k) (by omega)
          rw [← HLN.out, getD_right, HLN.out] at hc4
          obtain ⟨x, hx⟩ : ∃ x, x = (text a).getD k 0 := ⟨_, rfl⟩
          rw [← hx] at hc3 hc4
          rw [Nat.zero_add] at hc3
          have i1 : (0 : Int) ≤ (k : Int) := by omega
          have i2 : (k : Int) < ((text a).length : Int) := by omega
          have i3 : (len : Int) + (k : Int) < (len : Int) + ((text a).length : Int) := by omega
          clear hF hx
          go_wp2_with fail
          go_quiet (fail)
          go_wp2_with fail
          go_roundg ((text a).length - (k + 1))
          case rel => exact ⟨k + 1, by omega, rfl, by go_num, Four.drewN (Hid.out HFr) _⟩
          case measure => have := HK.out; omega
        · clear hF HK
          go_wp2_with fail
          refine Calls.mono (read_text _ g3 (text a).length c3 a h0 h1 (Hid.out HFr).txt hnc3) ?_
          rintro e w5 ⟨rfl, hb5⟩
          go_wp2_with fail
          go_ret
          exact ⟨rfl, (Hid.out HFr).bel.trans (hb5.mono (Hid.out HFr).bel.size)⟩
end Go.Proofs.Qxb6630021a
