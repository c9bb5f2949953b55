import Derived.Test.Qxb6630021aModel
namespace Go.Proofs.Qxb6630021a
open Go.RowKit
set_option linter.unusedVariables false

set_option maxHeartbeats 2000000 in
theorem same_any (w : World) (a1 a2 : Option Addr) (n c1 c2 : Nat) (l : List Int) (h1 : Bs w.heap.size w a1 n c1 l) (h2 : Bs w.heap.size w a2 n c2 l) (hn : n ≤ 9223372036854775807) : Calls Try.prog 9 #[.slice a1 n c1, .slice a2 n c2] w (TrueEnd w) := by
  have H1 : Hid _ := h1
  have H2 : Hid _ := h2
  clear h1 h2
  go_enter Try.func9, Try.ntmps9
  go_wp2_with fail
  go_loopg [5] n (fun g v wr => ∃ k m : Nat, k ≤ n ∧ g = n - k ∧ v = .int .i64 k ∧ wr = w.drewN m)
  case atStart => exact ⟨0, 0, Nat.zero_le _, rfl, rfl, rfl⟩
  case round =>
    obtain ⟨k, m, hk, hgk, rfl, hwr⟩ := hrel
    subst hwr
    have HK : Hid (gk = n - k) := hgk
    clear hgk
    by_cases hlt : k < n
    · obtain ⟨b1, o1, rfl, _, hc1⟩ := (Hid.out H1).at_ k hlt
      obtain ⟨b2, o2, rfl, _, hc2⟩ := (Hid.out H2).at_ k hlt
      obtain ⟨x, hx⟩ : ∃ x, x = l.getD k 0 := ⟨_, rfl⟩
      rw [← hx] at hc1 hc2
      have i1 : (0 : Int) ≤ (k : Int) := by omega
      have i2 : (k : Int) < (n : Int) := by omega
      clear hx
      go_wp2_with fail
      go_quiet (fail)
      go_wp2_with fail
      go_roundg (n - (k + 1))
      case rel => exact ⟨k + 1, _, by omega, rfl, by go_num, rfl⟩
      case measure => have := HK.out; omega
    · go_wp2_with fail
      go_ret
      exact ⟨rfl, below_drewN (Below.refl _ _) _⟩

set_option maxRecDepth 20000 in
set_option maxHeartbeats 4000000 in
theorem law3 (w : World) (a : Int) (h0 : -9223372036854775808 ≤ a) (h1 : a ≤ 9223372036854775807) (ao : Option Addr) (len cap : Nat) (l : List Int) (h : Bs w.heap.size w ao len cap l) (hm : len ≤ 9223372036854775807) :
    Calls Try.prog 3 #[.int .i64 a, .slice ao len cap] w (TrueEnd w) := by
  have H : Hid _ := h
  clear h
  go_enter Try.func3, Try.ntmps3
  go_wp2_with fail
  refine Calls.mono (bytes5_any w a ao len cap) ?_
  rintro e w' ⟨b5, rfl, hw⟩
  have hw := hw.symm
  subst hw
  cases b5 with
  | false =>
    go_wp2
    go_ret
    exact ⟨rfl, Below.refl _ _⟩
  | true =>
  by_cases l0 : 1048576 < len
  · go_wp2
    go_ret
    exact ⟨rfl, Below.refl _ _⟩
  have hlen : len ≤ 1048576 := by omega
  have HLN : Hid (l.length = len) := (Hid.out H).hlen
  have dl : decide ((1048576 : Int) < (len : Int)) = false := decide_eq_false (by omega)
  clear l0
  have hL := text_length (a := a) (by omega)
  go_wp2_with fail
  refine Calls.mono (clone_any w.heap.size w (Nat.le_refl _) ao len cap l (Hid.out H) hlen) ?_
  rintro e w1 ⟨v1, rfl, ho1, hb1⟩
  rw [show l.length = len from HLN.out] at ho1
  obtain ⟨a1, c1, rfl, hs1, hnc1, hcm1, hB1⟩ := owned_bs ho1
  have HO1 : Hid _ := ho1
  have HB1 : Hid _ := hb1
  have HBs1 : Hid _ := hB1
  clear ho1 hs1 hb1 hB1
  go_wp2_with fail
  refine Calls.mono (clone_any w1.heap.size w1 (Nat.le_refl _) a1 len c1 l (Hid.out HBs1) hlen) ?_
  rintro e w2 ⟨v2, rfl, ho2, hb2⟩
  rw [show l.length = len from HLN.out] at ho2
  obtain ⟨a2, c2, rfl, hs2, hnc2, hcm2, hB2⟩ := owned_bs ho2
  have HB2 : Hid _ := hb2
  have HBs2 : Hid _ := hB2
  clear ho2 hs2 hb2 hB2
  go_wp2_with fail
  refine Calls.mono (model_any w2.heap.size w2 (Nat.le_refl _) a2 len c2 l (Hid.out HBs2) hlen a h0 h1) ?_
  rintro e w3 ⟨v3, rfl, ho3, hb3⟩
  rw [show l.length = len from HLN.out] at ho3
  obtain ⟨a3, c3, rfl, hs3, hnc3, hcm3, hB3⟩ := owned_bs ho3
  have HO3 : Hid _ := ho3
  have HS3 : Hid _ := hs3
  have HB3 : Hid _ := hb3
  have HBs3 : Hid _ := hB3
  clear ho3 hs3 hb3 hB3
  have ho1' : w3.ownsRow w.heap.size 5 1 (.slice a1 len c1) len (vals l) :=
    ownsRow_below (ownsRow_below (Hid.out HO1) (Hid.out HB2) (fun k hk => (World.ownsRow.lt (Hid.out HO1) k hk).2)) (Hid.out HB3) (fun k hk => Nat.lt_of_lt_of_le (World.ownsRow.lt (Hid.out HO1) k hk).2 (Hid.out HB2).size)
  have HO1' : Hid _ := ho1'
  clear ho1'
  go_wp2_with fail
  refine Calls.mono (append_any w.heap.size w3 (Nat.le_trans HB1.out.size (Nat.le_trans HB2.out.size HB3.out.size)) (.slice a1 len c1) len l (Hid.out HO1') hlen a h0 h1) ?_
  rintro e w4 ⟨v4, rfl, ho4, hg4⟩
  obtain ⟨a4, c4, rfl, hs4, hnc4, hcm4, hB4⟩ := owned_bs ho4
  have hrow : ∀ g, (Value.slice a1 len c1).ownBlock = some g → w.heap.size ≤ g ∧ g < w1.heap.size := fun g hg => World.ownsRow.lt (Hid.out HO1) g hg
  have hbel : Below w.heap.size w w4 := by
    have q := (HB1.out.trans (HB2.out.mono HB1.out.size))
    have q := q.trans (HB3.out.mono q.size)
    exact q.grown hg4 q.size (fun k hk => (hrow k hk).1)
  have hB34 : Bs w4.heap.size w4 a3 (len + (text a).length) c3 (l ++ text a) := by
    refine ((Hid.out HBs3).grown hg4 (Nat.le_refl _) (fun g hg e => ?_) ?_).more hg4.size
    · rcases Hid.out HS3 with h | ⟨g', h, _, hb⟩
      · rw [h] at hg; cases hg
      · rw [h] at hg
        have := (hrow g e.symm).2
        have hgg : g' = g := congrArg Addr.block (Option.some.inj hg)
        have := HB2.out.size
        omega
    · rcases Hid.out HS3 with h | ⟨g', h, _⟩
      · exact .inl h
      · exact .inr ⟨g', h⟩
  have HBE : Hid _ := hbel
  have HB34 : Hid _ := hB34
  have HB4 : Hid _ := hB4
  clear hbel hB34 hB4 hs4 ho4 hg4 hrow HO1' HO3 HS3 HB3 HBs3 HB2 HBs2 HO1 HB1 HBs1 H dl
  go_wp2_with fail
  refine Calls.mono (same_any w4 a4 a3 (len + (text a).length) c4 c3 (l ++ text a) (Hid.out HB4) (Hid.out HB34) (by omega)) ?_
  rintro e w5 ⟨rfl, hb5⟩
  go_wp2_with fail
  go_ret
  exact ⟨rfl, HBE.out.trans (hb5.mono HBE.out.size)⟩
end Go.Proofs.Qxb6630021a
