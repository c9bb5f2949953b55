import Derived.Test.Qxb6628968aParts
namespace Go.Proofs.Qxb6628968a
open Go.RowKit
set_option linter.unusedVariables false

set_option maxRecDepth 20000 in
set_option maxHeartbeats 4000000 in
theorem law3 (w : World) (gn gt : ByteArray) (na ba la sa ia ka da : Option Addr) (nl nc bl bc ll lc sl sc il ic kl kc dl dc : Nat) (cut : Int) (f : Nat → At)
    (h5 : Calls Try.prog 5 #[.string gn, .string gt, .slice na nl nc, .slice ba bl bc, .slice la ll lc, .slice sa sl sc, .slice ia il ic, .slice ka kl kc, .slice da dl dc, .int .i64 cut] w (BoolEnd w))
    (h6 : Calls Try.prog 6 #[.string gn, .string gt, .slice na nl nc, .slice ba bl bc, .slice la ll lc, .slice sa sl sc, .slice ia il ic, .slice ka kl kc, .slice da dl dc] w (SizeEnd il w))
    (h7 : ∀ W, Below w.heap.size w W → ∀ i : Nat, i < il → Calls Try.prog 7 #[.int .i64 i, .slice na nl nc, .slice ba bl bc, .slice la ll lc, .slice sa sl sc, .slice ia il ic, .slice ka kl kc, .slice da dl dc] W (AttrEnd (f i) W))
    (hG : ∀ i, i < il → Good w.heap.size w (f i)) (hx : Row w.heap.size w ia il (fun i => .bool (f i).x)) (hcut : (Lit.int .i64 cut).wf = true) :
    Calls Try.prog 3 #[.string gn, .string gt, .slice na nl nc, .slice ba bl bc, .slice la ll lc, .slice sa sl sc, .slice ia il ic, .slice ka kl kc, .slice da dl dc, .int .i64 cut] w (TrueEnd w) := by
  have H5 : Hid _ := h5
  have H6 : Hid _ := h6
  have H7 : Hid _ := h7
  have HG : Hid _ := hG
  have HX : Hid _ := hx
  clear h5 h6 h7 hG hx hcut
  go_enter Try.func3, Try.ntmps3
  go_wp2_with fail
  refine Calls.mono (Hid.out H5) ?_
  rintro e w' ⟨b5, rfl, hw⟩
  have hw := hw.symm
  subst hw
  cases b5 with
  | false =>
    go_wp2
    go_ret
    exact ⟨rfl, Below.refl _ _⟩
  | true =>
  go_wp2_with fail
  refine Calls.mono (Hid.out H6) ?_
  rintro e w' ⟨b6, rfl, h16, hw⟩
  have hw := hw.symm
  subst hw
  cases b6 with
  | false =>
    go_wp2
    go_ret
    exact ⟨rfl, Below.refl _ _⟩
  | true =>
  have hil0 : il ≤ 65536 := h16 rfl
  clear h16
  obtain ⟨C, hC, hmk⟩ := make_run il il (Nat.le_refl _) hil0
  have HC : Hid _ := hC
  have HI : Hid _ := hil0
  have hil : il ≤ 9223372036854775807 := by omega
  clear hC hil0
  by_cases c0 : cut < 0
  · go_wp2
    go_ret
    exact ⟨rfl, Below.refl _ _⟩
  obtain ⟨c, rfl⟩ : ∃ c : Nat, cut = c := ⟨cut.toNat, by omega⟩
  clear c0 H5 H6
  by_cases c1 : il < c
  · go_wp2
    go_ret
    exact ⟨rfl, Below.refl _ _⟩
  have hc : c ≤ il := by omega
  clear c1
  have d1 : decide ((c : Int) < 0) = false := decide_eq_false (by omega)
  have d2 : decide (il < c) = false := decide_eq_false (by omega)
  go_wp2_with fail
  clear hmk
  go_loopg [23] il (fun g v wr => ∃ k : Nat, k ≤ il ∧ g = il - k ∧ v = .int .i64 k ∧ Below w.heap.size w wr ∧ Filled w.heap.size il k f wr)
  case atStart => exact ⟨0, Nat.zero_le _, rfl, rfl, (Below.refl _ _).alloc (Nat.le_refl _) _, Filled.made w C il f HC.out⟩
  case round =>
    obtain ⟨k, hk, hgk, rfl, hbel, hfil⟩ := hrel
    have HK : Hid (gk = il - k) := hgk
    clear hgk
    by_cases hlt : k < il
    · go_wp2_with fail
      refine Calls.mono (Hid.out H7 wr hbel k hlt) ?_
      rintro e w1 ⟨rfl, hb1⟩
      have hbw : Below w.heap.size w w1 := hbel.trans (hb1.mono hbel.size)
      have hf1 : Filled w.heap.size il k f w1 := hfil.later hb1 hfil.lt
      have ht := hf1.there7 hlt
      have HF : Hid _ := hf1
      have HB : Hid _ := hbw
      clear hbel hfil hb1 hf1 hbw
      obtain ⟨⟨z0, z1, z2, z3, z4, z5, z6, y0, y1, y2, y3, y4, y5, y6⟩, fr0, fr1, fr2, fr3, fr4, fr5, fr6⟩ := there_cells7 ht
      clear ht
      go_wp2_with fail
      go_roundg (il - (k + 1))
      case rel => exact ⟨k + 1, by omega, rfl, by go_num, below_put7 HB.out (Nat.le_refl _), HF.out.put hlt⟩
      case measure => have := HK.out; omega
    · have e : il = k := by omega
      subst e
      have hsz := hfil.lt
      have HF : Hid _ := hfil
      have HB : Hid _ := hbel
      clear hlt hbel hfil HK hk
      go_upto_region 15 with fail
      go_cut [26] (fun s wx => s = .pointer (some ⟨wr.heap.size + 2, 0, none⟩) ∧ Groups wr wx w.heap.size c il)
      case first =>
        by_cases e : il = c
        · subst e
          go_wp2_with fail
          go_meet
          have G := Groups.mk3 wr w.heap.size il il gn gt (some ⟨w.heap.size, 0, none⟩) (fun h => absurd h (Nat.lt_irrefl _))
          rw [Nat.sub_self] at G
          exact ⟨rfl, G⟩
        · go_wp2_with fail
          go_meet
          exact ⟨rfl, Groups.mk3 wr w.heap.size c il gn gt _ (fun _ => rfl)⟩
      case rest =>
      obtain ⟨rfl, G⟩ := hcut
      have I0 : Hid (∀ W, Below wc.heap.size wc W → Calls Try.prog 8 #[.pointer (some ⟨wr.heap.size, 0, none⟩)] W (IndexEnd f il W)) := fun W hW =>
        index_any wc.heap.size W hW.size wr.heap.size (by have := G.size; omega) _ il il f ((hW.cell (p := ⟨wr.heap.size, 2, none⟩) (by have := G.size; show wr.heap.size < _; omega)).trans G.g0)
          (((HF.out.later G.bel hsz).later hW (by have := G.size; omega)).rows _ (by have := G.size; omega) il (Nat.le_refl _)) (by unfold maxLen; omega)
      have I1 : Hid (∀ W, Below wc.heap.size wc W → Calls Try.prog 8 #[.pointer (some ⟨wr.heap.size + 1, 0, none⟩)] W (IndexEnd f c W)) := fun W hW =>
        index_any wc.heap.size W hW.size (wr.heap.size + 1) (by have := G.size; omega) _ c il f ((hW.cell (p := ⟨wr.heap.size + 1, 2, none⟩) (by have := G.size; show wr.heap.size + 1 < _; omega)).trans G.g1)
          (((HF.out.later G.bel hsz).later hW (by have := G.size; omega)).rows _ (by have := G.size; omega) c hc) (by unfold maxLen; omega)
      have I2 : Hid (∀ W, Below wc.heap.size wc W → Calls Try.prog 8 #[.pointer (some ⟨wr.heap.size + 2, 0, none⟩)] W (IndexEnd (fun i => f (c + i)) (il - c) W)) := fun W hW => by
        obtain ⟨ta, hta, hg2⟩ := G.g2
        exact index_any wc.heap.size W hW.size (wr.heap.size + 2) (by have := G.size; omega) ta (il - c) (il - c) _ ((hW.cell (p := ⟨wr.heap.size + 2, 2, none⟩) (by have := G.size; show wr.heap.size + 2 < _; omega)).trans hg2)
          (((HF.out.later G.bel hsz).later hW (by have := G.size; omega)).tail _ (by have := G.size; omega) c hc ta hta) (by unfold maxLen; omega)
      have hBc : Below w.heap.size w wc := HB.out.trans (G.bel.mono HB.out.size)
      have HBc : Hid _ := hBc
      clear G HF HB hBc d1 d2
      go_wp2_with fail
      refine Calls.mono (Hid.out I0 wc (Below.refl _ _)) ?_
      rintro e w1 ⟨tw, bw, rfl, hfw, hb1⟩
      have HFw : Hid _ := hfw
      have HB1 : Hid _ := hb1
      clear hfw hb1 I0
      go_wp2_with fail
      refine Calls.mono (Hid.out I1 _ ?_) ?_
      · exact HB1.out.alloc HB1.out.size _
      rintro e w2 ⟨th, bh, rfl, hfh, hb2⟩
      have HFh : Hid _ := hfh
      have HB2 : Hid _ := hb2
      clear hfh hb2 I1
      go_wp2_with fail
      refine Calls.mono (Hid.out I2 _ ?_) ?_
      · have q1 := HB1.out.alloc HB1.out.size (.cells #[.string tw.s, .int .i64 tw.n, .bool tw.l, .slice tw.a tw.len tw.cap, .bool tw.x, .bool tw.k, .bool tw.d] 35)
        have q2 := q1.trans (HB2.out.mono q1.size)
        exact q2.alloc q2.size _
      rintro e w3 ⟨tt, bt, rfl, hft, hb3⟩
      have HFt : Hid _ := hft
      have HB3 : Hid _ := hb3
      clear hft hb3 I2
      have rels := FirstOf.cut hc HFw.out HFh.out HFt.out
      have q1 := HB1.out.alloc HB1.out.size (.cells #[.string tw.s, .int .i64 tw.n, .bool tw.l, .slice tw.a tw.len tw.cap, .bool tw.x, .bool tw.k, .bool tw.d] 35)
      have q2 := q1.trans (HB2.out.mono q1.size)
      have q3 := q2.alloc q2.size (.cells #[.string th.s, .int .i64 th.n, .bool th.l, .slice th.a th.len th.cap, .bool th.x, .bool th.k, .bool th.d] 35)
      have q4 := q3.trans (HB3.out.mono q3.size)
      have hbel : Below w.heap.size w w3 := HBc.out.trans (q4.mono HBc.out.size)
      have x1 := ((Boxed7.new w1 tw).later HB2.out (by simp))
      have x1 := (x1.later ((Below.refl _ _).alloc (Nat.le_refl _) (.cells #[.string th.s, .int .i64 th.n, .bool th.l, .slice th.a th.len th.cap, .bool th.x, .bool th.k, .bool th.d] 35)) x1.1)
      have x1 := x1.later HB3.out x1.1
      have x2 := ((Boxed7.new w2 th).later HB3.out (by simp))
      have hg : Good w.heap.size w3 tw := (FirstOf.good HFw.out HG.out).later hbel
      have HGd : Hid _ := hg
      have HBl : Hid _ := hbel
      have HX1 : Hid _ := x1
      have hz1 := x1.1
      have hz2 := x2.1
      obtain ⟨a0, a1, a2, a3, a4, a5, a6⟩ := x1.cells
      obtain ⟨b0, b1, b2, b3, b4, b5, b6⟩ := x2.cells
      clear q1 q2 q3 q4 hbel x1 x2 hg HB1 HB2 HB3 HFh HFt HBc
      go_upto_if 120 with fail
      go_cut [] (fun wx => Below w3.heap.size w3 wx)
      case first =>
        have H9 : Hid (∀ W, Below w3.heap.size w3 W → Calls Try.prog 9 #[.agg #[.string tw.s, .int .i64 tw.n, .bool tw.l, .slice tw.a tw.len tw.cap, .bool tw.x, .bool tw.k, .bool tw.d], .agg #[.string tw.s, .int .i64 tw.n, .bool tw.l, .slice tw.a tw.len tw.cap, .bool tw.x, .bool tw.k, .bool tw.d]] W (TrueEnd W)) := fun W hW =>
          same_good w.heap.size W (Nat.le_trans HBl.out.size hW.size) tw (Good.later (Hid.out HGd) (hW.mono HBl.out.size))
        cases bh with
        | true =>
          obtain ⟨rfl, rfl⟩ := rels.1 rfl
          clear rels
          go_wp2_with fail
          refine Calls.mono (Hid.out H9 _ ?_) ?_
          · exact (Below.refl _ _).alloc (Nat.le_refl _) _
          rintro e w4 ⟨rfl, hb4⟩
          go_wp2_with fail
          go_meet
          exact ((Below.refl _ _).alloc (Nat.le_refl _) _).trans (hb4.mono (by simp))
        | false =>
          obtain ⟨rfl, rfl⟩ := rels.2 rfl
          clear rels
          go_wp2_with fail
          refine Calls.mono (Hid.out H9 _ ?_) ?_
          · exact (Below.refl _ _).alloc (Nat.le_refl _) _
          rintro e w4 ⟨rfl, hb4⟩
          go_wp2_with fail
          go_meet
          exact ((Below.refl _ _).alloc (Nat.le_refl _) _).trans (hb4.mono (by simp))
      case rest =>
      have HC4 : Hid _ := hcut
      have x1 : Boxed7 wc w1.heap.size tw := Boxed7.later (Hid.out HX1) hcut hz1
      have hbc : Below w.heap.size w wc := HBl.out.trans (hcut.mono HBl.out.size)
      have HBc : Hid _ := hbc
      have hgc : Good w.heap.size wc tw := (FirstOf.good HFw.out HG.out).later hbc
      have HGc : Hid _ := hgc
      have hzc := x1.1
      clear hcut rels a0 a1 a2 a3 a4 a5 a6 b0 b1 b2 b3 b4 b5 b6 hz2 HGd HBl HX1 HC4 hbc hgc
      obtain ⟨a0, a1, a2, a3, a4, a5, a6⟩ := x1.cells
      have HX1 : Hid _ := x1
      clear x1
      go_wp2_with fail
      go_loopg [33, 34] il (fun g v1 v2 W => ∃ k : Nat, k ≤ il ∧ g = il - k ∧ v1 = .int .i64 (-1) ∧ v2 = .int .i64 k ∧ W = wc ∧ ∀ i, i < k → (f i).x = false)
      case atStart => exact ⟨0, Nat.zero_le _, rfl, rfl, rfl, rfl, fun i hi => absurd hi (Nat.not_lt_zero _)⟩
      case round =>
        obtain ⟨k, hk, hgk, rfl, rfl, hW, hno⟩ := hrel
        have hW := hW.symm
        subst hW
        have HK : Hid (gk = il - k) := hgk
        have HN : Hid _ := hno
        clear hgk hno
        by_cases hlt : k < il
        · obtain ⟨b, off, rfl, hb, hcx⟩ := Hid.out HX k hlt
          have hcx : wc.cell? ⟨b, off + k, none⟩ = some (.bool (f k).x) := (Below.cell (Hid.out HBc) (p := ⟨b, off + k, none⟩) hb).trans hcx
          cases hxk : (f k).x with
          | false =>
            rw [hxk] at hcx
            go_wp2_with fail
            go_roundg (il - (k + 1))
            case rel =>
              refine ⟨k + 1, by omega, rfl, rfl, by go_num, rfl, fun i hi => ?_⟩
              by_cases e : i = k
              · rw [e]; exact hxk
              · exact Hid.out HN i (by omega)
            case measure => have := HK.out; omega
          | true =>
            rw [hxk] at hcx
            obtain ⟨htw, hbw⟩ := FirstOf.hit HFw.out hlt hxk HN.out
            subst hbw
            subst htw
            clear hxk HK
            go_upto_region 32 with fail
            clear hcx HN HFw HG hil hc HI HC hsz
            go_region_held3 (fun W => W.cell? ⟨w1.heap.size, 0, none⟩ = some (.string (f k).s) ∧ W.cell? ⟨w1.heap.size, 1, none⟩ = some (.int .i64 (f k).n) ∧ W.cell? ⟨w1.heap.size, 2, none⟩ = some (.bool (f k).l) ∧ W.cell? ⟨w1.heap.size, 3, none⟩ = some (.slice (f k).a (f k).len (f k).cap) ∧ W.cell? ⟨w1.heap.size, 4, none⟩ = some (.bool (f k).x) ∧ W.cell? ⟨w1.heap.size, 5, none⟩ = some (.bool (f k).k) ∧ W.cell? ⟨w1.heap.size, 6, none⟩ = some (.bool (f k).d)) (go_keep)
              (first | (go_at_call 7; refine Calls.mono (Hid.out H7 _ ?_ k hlt) ?_; exact Below.drew (Hid.out HBc); rintro e w4 ⟨rfl, hb4⟩; have hb4 := below_of_drew hb4; obtain ⟨e0, e1, e2, e3, e4, e5, e6⟩ := (Boxed7.later (Hid.out HX1) hb4 hzc).cells) | (go_at_call 9; refine Calls.mono (same_good w.heap.size _ ?_ _ ?_) ?_; exact Nat.le_trans (Hid.out HBc).size hb4.size; exact Good.later (Hid.out HGc) (hb4.mono (Hid.out HBc).size); rintro e w5 ⟨rfl, hb5⟩; have hb5 := hb4.trans (hb5.mono hb4.size); obtain ⟨g0, g1, g2, g3, g4, g5, g6⟩ := (Boxed7.later (Hid.out HX1) hb5 hzc).cells))
            go_wp2
            go_ret
            exact ⟨rfl, (Hid.out HBc).trans (hb5.mono (Hid.out HBc).size)⟩
        · obtain ⟨htw, hbw⟩ := FirstOf.miss HFw.out (fun i hi => Hid.out HN i (by omega))
          subst hbw
          subst htw
          clear HK
          go_wp2_with fail
          have h9 : Calls Try.prog 9 #[.agg #[.string At.zero.s, .int .i64 At.zero.n, .bool At.zero.l, .slice At.zero.a At.zero.len At.zero.cap, .bool At.zero.x, .bool At.zero.k, .bool At.zero.d], .agg #[.string ⟨#[]⟩, .int .i64 0, .bool false, .slice none 0 0, .bool false, .bool false, .bool false]] wc (TrueEnd wc) :=
            same_good w.heap.size wc (Hid.out HBc).size At.zero (Hid.out HGc)
          refine Calls.mono h9 ?_
          rintro e w4 ⟨rfl, hb4⟩
          go_wp2_with fail
          go_ret
          exact ⟨rfl, (Hid.out HBc).trans (hb4.mono (Hid.out HBc).size)⟩
end Go.Proofs.Qxb6628968a
