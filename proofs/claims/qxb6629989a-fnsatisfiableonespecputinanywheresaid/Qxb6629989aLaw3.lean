import Derived.Test.Qxb6629989aFind
import Derived.Test.Qxb6629989aConv
namespace Go.Proofs.Qxb6629989a
open Go.RowKit
set_option linter.unusedVariables false

/-- Ends in true; nothing old has turned. -/
def TrueEnd (w : World) (e : Ending) (w' : World) : Prop := e = .returned (.bool true) ∧ Below w.heap.size w w'
/-- Ends in a bool; nothing old has turned. -/
def BoolEnd (w : World) (e : Ending) (w' : World) : Prop := ∃ b, e = .returned (.bool b) ∧ Below w.heap.size w w'

theorem bytes5_any (w : World) (a : Option Addr) (len cap : Nat) (size cut : Int) : Calls Try.prog 5 #[.slice a len cap, .int .i64 size, .int .i64 cut] w fun e w' => ∃ b, e = .returned (.bool b) ∧ w = w' := by
  suffices h : Calls Try.prog 5 #[.slice a len cap, .int .i64 size, .int .i64 cut] w fun e w' => (e = .returned (.bool true) ∨ e = .returned (.bool false)) ∧ w = w' by
    refine h.mono ?_
    rintro e w' ⟨rfl | rfl, rfl⟩
    · exact ⟨_, rfl, rfl⟩
    · exact ⟨_, rfl, rfl⟩
  go_enter Try.func5, Try.ntmps5
  go_wp2
  all_goals go_ret
  all_goals first | exact ⟨.inl rfl, rfl⟩ | exact ⟨.inr rfl, rfl⟩

theorem bytes9_any (w : World) (a : Option Addr) (len cap : Nat) (size p : Int) (x : Sp) : Calls Try.prog 9 #[.slice a len cap, .int .i64 size, .agg #[.int .i64 x.a, .int .i64 x.b, .int .i64 x.c], .int .i64 p] w (BoolEnd w) := by
  go_enter Try.func9, Try.ntmps9
  go_wp2
  all_goals go_ret
  all_goals exact ⟨_, rfl, (Below.refl _ _).alloc (Nat.le_refl _) _⟩

/-- Ends in -1; nothing old has turned. -/
def NoneEnd (w : World) (e : Ending) (w' : World) : Prop := e = .returned (.int .i64 (-1)) ∧ Below w.heap.size w w'
theorem find_nil (w : World) (a : Option Addr) (c : Nat) (size : Int) (h0 : 0 ≤ size) (h1 : size ≤ 9223372036854775807) : Calls Try.prog 7 #[.slice a 0 c, .int .i64 size] w (NoneEnd w) := by
  refine (find_any w.heap.size w (Nat.le_refl _) a 0 c (fun _ => ⟨0, 0, 0⟩) (fun i hi => absurd hi (Nat.not_lt_zero _)) (by omega) size h0 h1).mono ?_
  rintro e w' ⟨o, rfl, hf, hb⟩
  rw [hf.miss (fun i hi => absurd hi (Nat.not_lt_zero _))]
  exact ⟨rfl, hb⟩

set_option maxHeartbeats 2000000 in
theorem law3_nil (w : World) (size cut : Int) (h1 : size ≤ 9223372036854775807) : Calls Try.prog 3 #[.slice none 0 0, .int .i64 size, .int .i64 cut] w (TrueEnd w) := by
  go_enter Try.func3, Try.ntmps3
  go_wp2_with fail
  refine Calls.mono (bytes5_any _ _ _ _ _ _) ?_
  rintro e w' ⟨b5, rfl, rfl⟩
  cases b5 with
  | false =>
    go_wp2
    go_ret
    exact ⟨rfl, Below.refl _ _⟩
  | true =>
  by_cases s0 : size < 0
  · go_wp2
    go_ret
    exact ⟨rfl, Below.refl _ _⟩
  have s1 : 0 ≤ size := by omega
  by_cases c0 : cut = 0
  · subst c0
    go_wp2_with fail
    refine Calls.mono (conv_nil w) ?_
    rintro e w1 ⟨rfl, hw⟩
    have hw := hw.symm
    subst hw
    go_wp2_with fail
    refine Calls.mono (find_nil w none 0 size s1 h1) ?_
    rintro e w1 ⟨rfl, hb1⟩
    have HB1 : Hid _ := hb1
    clear hb1
    go_wp2_with fail
    refine Calls.mono (find_nil w1 none 0 size s1 h1) ?_
    rintro e w2 ⟨rfl, hb2⟩
    have HB2 : Hid (Below w.heap.size w w2) := HB1.out.trans (hb2.mono HB1.out.size)
    clear hb2 HB1
    go_wp2_with fail
    refine Calls.mono (find_nil w2 none 0 size s1 h1) ?_
    rintro e w3 ⟨rfl, hb3⟩
    have HB3 : Hid (Below w.heap.size w w3) := HB2.out.trans (hb3.mono HB2.out.size)
    clear hb3 HB2
    go_wp2_with fail
    refine wp_loop_rounds 1 ?_
    rw [rounds_succ]
    go_wp2
    go_ret
    exact ⟨rfl, HB3.out⟩
  · by_cases c1 : cut < 0
    · go_wp2
      go_ret
      exact ⟨rfl, Below.refl _ _⟩
    · have c2 : 0 < cut := by omega
      go_wp2
      go_ret
      exact ⟨rfl, Below.refl _ _⟩

set_option maxRecDepth 20000 in
set_option maxHeartbeats 4000000 in
theorem law3 (w : World) (ad : Addr) (len cap : Nat) (f : Nat → Sp) (hf : Rows3 w.heap.size w (some ad) len f) (hm : len ≤ 9223372036854775807) (size cut : Int) (h1 : size ≤ 9223372036854775807) :
    Calls Try.prog 3 #[.slice (some ad) len cap, .int .i64 size, .int .i64 cut] w (TrueEnd w) := by
  have HF : Hid _ := hf
  clear hf
  go_enter Try.func3, Try.ntmps3
  go_wp2_with fail
  refine Calls.mono (bytes5_any _ _ _ _ _ _) ?_
  rintro e w' ⟨b5, rfl, rfl⟩
  cases b5 with
  | false =>
    go_wp2
    go_ret
    exact ⟨rfl, Below.refl _ _⟩
  | true =>
  by_cases l0 : 32768 < len
  · go_wp2
    go_ret
    exact ⟨rfl, Below.refl _ _⟩
  have HL : Hid (len ≤ 65536) := by show len ≤ 65536; omega
  have dl : decide ((32768 : Int) < (len : Int)) = false := decide_eq_false (by omega)
  clear l0
  by_cases s0 : size < 0
  · go_wp2
    go_ret
    exact ⟨rfl, Below.refl _ _⟩
  have s1 : 0 ≤ size := by omega
  have ds : decide (size < 0) = false := decide_eq_false (by omega)
  clear s0
  by_cases c0 : cut < 0
  · go_wp2
    go_ret
    exact ⟨rfl, Below.refl _ _⟩
  obtain ⟨c, rfl⟩ : ∃ c : Nat, cut = c := ⟨cut.toNat, by omega⟩
  clear c0
  by_cases c1 : len < c
  · go_wp2
    go_ret
    exact ⟨rfl, Below.refl _ _⟩
  have hc : c ≤ len := by omega
  have d1 : decide ((c : Int) < 0) = false := decide_eq_false (by omega)
  have d2 : decide (len < c) = false := decide_eq_false (by omega)
  clear c1
  go_wp2_with fail
  refine Calls.mono (conv_any w.heap.size w (Nat.le_refl _) ad len cap f HF.out HL.out) ?_
  rintro e w1 ⟨rfl, hfil, hb1⟩
  have HFl : Hid _ := hfil
  have HB1 : Hid _ := hb1
  have hz1 : w.heap.size < w1.heap.size := hfil.lt
  clear hfil hb1
  go_wp2_with fail
  refine Calls.mono (find_any w1.heap.size w1 (Nat.le_refl _) (some ⟨w.heap.size, 0, none⟩) len len f (HFl.out.rows _ hz1 len (Nat.le_refl _)) hm size s1 h1) ?_
  rintro e w2 ⟨o0, rfl, hF0, hb2⟩
  have HF0 : Hid _ := hF0
  have HB2 : Hid _ := hb2
  clear hF0 hb2
  go_wp2_with fail
  refine Calls.mono (find_any w1.heap.size w2 HB2.out.size (some ⟨w.heap.size, 0, none⟩) c len f ((HFl.out.later HB2.out hz1).rows _ hz1 c hc) (by omega) size s1 h1) ?_
  rintro e w3 ⟨o1, rfl, hF1, hb3⟩
  have HF1 : Hid _ := hF1
  have HB3 : Hid (Below w1.heap.size w1 w3) := HB2.out.trans (hb3.mono HB2.out.size)
  clear hF1 hb3 HB2
  go_upto_region 12 with fail
  go_cut [10] (fun s wx => ∃ o2 : Int, s = .int .i64 o2 ∧ Fst (fun i => sat size (f (c + i))) (len - c) o2 ∧ Below w1.heap.size w1 wx)
  case first =>
    by_cases e : len = c
    · subst e
      go_wp2_with fail
      refine Calls.mono (find_nil w3 _ _ size s1 h1) ?_
      rintro e w4 ⟨rfl, hb4⟩
      go_wp2_with fail
      go_meet
      exact ⟨-1, rfl, .inl ⟨rfl, fun i hi => absurd hi (by omega)⟩, HB3.out.trans (hb4.mono HB3.out.size)⟩
    · go_wp2_with fail
      refine Calls.mono (find_any w1.heap.size w3 HB3.out.size _ (len - c) (len - c) (fun i => f (c + i)) ((HFl.out.later HB3.out hz1).tail _ hz1 c hc _ (fun _ => rfl)) (by omega) size s1 h1) ?_
      rintro e w4 ⟨o2, rfl, hF2, hb4⟩
      go_wp2_with fail
      go_meet
      exact ⟨o2, rfl, hF2, HB3.out.trans (hb4.mono HB3.out.size)⟩
  case rest =>
  obtain ⟨o2, rfl, hF2, hb4⟩ := hcut
  have hrel := Fst.cut hc (Hid.out HF0) (Hid.out HF1) hF2
  have r0 := Fst.range (Hid.out HF0)
  have r1 := Fst.range (Hid.out HF1)
  have r2 := Fst.range hF2
  have HB4 : Hid (Below w.heap.size w wc) := HB1.out.trans (hb4.mono HB1.out.size)
  have HR : Hid _ := hrel
  clear hrel hF2 hb4 HB3 HB1 HFl HF1 d1 d2 dl ds hz1
  go_wp2_with fail
  go_loopg [11, 12] len (fun g v1 v2 W => ∃ k : Nat, k ≤ len ∧ g = len - k ∧ v1 = .int .i64 (-1) ∧ v2 = .int .i64 k ∧ Below w.heap.size w W ∧ ∀ i, i < k → sat size (f i) = false)
  case atStart => exact ⟨0, Nat.zero_le _, rfl, rfl, rfl, HB4.out, fun i hi => absurd hi (Nat.not_lt_zero _)⟩
  case round =>
    obtain ⟨k, hk, hgk, rfl, rfl, hbw, hno⟩ := hrel
    have HK : Hid (gk = len - k) := hgk
    have HN : Hid _ := hno
    have HBw : Hid _ := hbw
    clear hgk hno
    by_cases hlt : k < len
    · obtain ⟨b, off, had, hb, hcc⟩ := Hid.out HF k hlt
      simp only [Option.some.injEq] at had
      subst had
      obtain ⟨e0, e1, e2⟩ := cells3 (w := wr) (b := b) (o := off + k * 3) (t := f k) (fun j v hv => (hbw.cell (p := ⟨b, off + k * 3 + j, none⟩) hb).trans (hcc j v hv))
      clear hcc hbw
      go_wp2_with fail
      refine Calls.mono (model_any wr (f k) size) ?_
      rintro e w5 ⟨rfl, hb5⟩
      have HB5 : Hid (Below w.heap.size w w5) := HBw.out.trans (hb5.mono HBw.out.size)
      clear hb5
      cases hs : sat size (f k) with
      | false =>
        go_wp2_with fail
        go_roundg (len - (k + 1))
        case rel =>
          refine ⟨k + 1, by omega, rfl, rfl, by go_num, HB5.out, fun i hi => ?_⟩
          by_cases e : i = k
          · rw [e]; exact hs
          · exact Hid.out HN i (by omega)
        case measure => have := HK.out; omega
      | true =>
        have ho : o0 = k := Fst.hit (Hid.out HF0) hlt hs (Hid.out HN)
        subst ho
        obtain ⟨g1, g2, g3⟩ := Hid.out HR
        clear HR HF0 HN HBw HK hs
        by_cases p1 : 0 ≤ o1
        · have q := g1 p1
          subst q
          clear g1 g2 g3
          go_wp2_with fail
          go_ret
          exact ⟨rfl, HB5.out⟩
        · by_cases p2 : 0 ≤ o2
          · have q := g2 (by omega) p2
            have qa : (c : Int) + o2 ≤ k := by omega
            have qb : (k : Int) ≤ c + o2 := by omega
            have qe : ((c : Int) + o2 == (k : Int)) = true := by rw [beq_iff_eq]; omega
            clear g1 g2 g3 q
            go_wp2_with fail
            go_ret
            exact ⟨rfl, HB5.out⟩
          · have q := g3 (by omega) (by omega)
            omega
    · have ho : o0 = -1 := Fst.miss (Hid.out HF0) (fun i hi => Hid.out HN i (by omega))
      subst ho
      obtain ⟨g1, g2, g3⟩ := Hid.out HR
      have p1 : o1 < 0 := by
        by_cases h : 0 ≤ o1
        · have := g1 h; omega
        · omega
      have p2 : o2 < 0 := by
        by_cases h : 0 ≤ o2
        · have := g2 p1 h; omega
        · omega
      clear g1 g2 g3 HR HF0 HN HK
      go_wp2_with fail
      go_ret
      exact ⟨rfl, HBw.out⟩
end Go.Proofs.Qxb6629989a
