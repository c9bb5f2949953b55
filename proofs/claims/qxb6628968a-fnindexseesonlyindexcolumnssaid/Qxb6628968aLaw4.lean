import Derived.Test.Qxb6628968aMem4
namespace Go.Proofs.Qxb6628968a
open Go.RowKit
set_option linter.unusedVariables false

theorem info35 : (Try.prog.info? 35).map (fun i => (i.zero, i.size, i.bytes)) = some (some (.agg #[.string ⟨#[]⟩, .int .i64 0, .bool false, .slice none 0 0, .bool false, .bool false, .bool false]), 7, 64) := by kernel_rfl

set_option maxRecDepth 20000 in
set_option maxHeartbeats 4000000 in
theorem law4 (w : World) (gn gt : ByteArray) (na ba la sa ia ka da : Option Addr) (nl nc bl bc ll lc sl sc il ic kl kc dl dc : Nat) (f : Nat → At)
    (h5 : Calls Try.prog 10 #[.string gn, .string gt, .slice na nl nc, .slice ba bl bc, .slice la ll lc, .slice sa sl sc, .slice ia il ic, .slice ka kl kc, .slice da dl dc] w (BoolEnd w))
    (h6 : Calls Try.prog 6 #[.string gn, .string gt, .slice na nl nc, .slice ba bl bc, .slice la ll lc, .slice sa sl sc, .slice ia il ic, .slice ka kl kc, .slice da dl dc] w (SizeEnd il w))
    (h7 : ∀ W, Below w.heap.size w W → ∀ i : Nat, i < il → Calls Try.prog 7 #[.int .i64 i, .slice na nl nc, .slice ba bl bc, .slice la ll lc, .slice sa sl sc, .slice ia il ic, .slice ka kl kc, .slice da dl dc] W (AttrEnd (f i) W))
    (hG : ∀ i, i < il → Good w.heap.size w (f i)) (hx : Row w.heap.size w ia il (fun i => .bool (f i).x)) :
    Calls Try.prog 4 #[.string gn, .string gt, .slice na nl nc, .slice ba bl bc, .slice la ll lc, .slice sa sl sc, .slice ia il ic, .slice ka kl kc, .slice da dl dc] w (TrueEnd w) := by
  have H5 : Hid _ := h5
  have H6 : Hid _ := h6
  have H7 : Hid _ := h7
  have HG : Hid _ := hG
  have HX : Hid _ := hx
  clear h5 h6 h7 hG hx
  go_enter Try.func4, Try.ntmps4
  go_wp2_with fail
  refine Calls.mono (Hid.out H5) ?_
  rintro e w' ⟨b5, rfl, hw⟩
  have hw := hw.symm
  subst hw
  cases b5 with
  | false =>
    go_wp2
    go_ret
    exact ⟨rfl, Below.refl _ _⟩
  | true =>
  go_wp2_with fail
  refine Calls.mono (Hid.out H6) ?_
  rintro e w' ⟨b6, rfl, h16, hw⟩
  have hw := hw.symm
  subst hw
  cases b6 with
  | false =>
    go_wp2
    go_ret
    exact ⟨rfl, Below.refl _ _⟩
  | true =>
  have hil0 : il ≤ 65536 := h16 rfl
  clear h16
  obtain ⟨C, hC, hmk⟩ := make_run il il (Nat.le_refl _) hil0
  obtain ⟨C2, hC2, hmk2⟩ := make_run 0 il (Nat.zero_le _) hil0
  have hmk2 : ∀ W : World, (Instr.makeSlice 28 (.int .i64 0) (.int .i64 (il : Int))).run Try.prog W = .ok (.slice (some ⟨W.heap.size, 0, none⟩) 0 il) (W.alloc (.cells C2 35)) := hmk2
  obtain ⟨i0, hi0, hz0, hz1, hz2⟩ := info_parts info35
  have HI0 : Hid _ := hi0
  have HZ1 : Hid _ := hz1
  have HC : Hid _ := hC
  have HC2 : Hid _ := hC2
  have HI : Hid _ := hil0
  have hil : il ≤ 9223372036854775807 := by omega
  clear hC hC2 hil0 H5 H6 hi0 hz0 hz1 hz2
  go_wp2_with fail
  clear hmk hmk2
  go_loopg [21, 22, 23] il (fun g v1 v2 v3 wr => ∃ (k : Nat) (o : Int), k ≤ il ∧ g = il - k ∧ v1 = .slice (some ⟨w.heap.size + 1, 0, none⟩) (fs f k).length il ∧ v2 = .int .i64 o ∧ v3 = .int .i64 k ∧ Fst f k o ∧ Below w.heap.size w wr ∧ Filled w.heap.size il k f wr ∧ Own (w.heap.size + 1) il (fs f k) wr)
  case atStart =>
    refine ⟨0, -1, Nat.zero_le _, rfl, rfl, rfl, rfl, .inl ⟨rfl, fun i hi => absurd hi (Nat.not_lt_zero _)⟩, ((Below.refl _ _).alloc (Nat.le_refl _) _).alloc (by simp) _, ?_, ?_⟩
    · exact (Filled.made w C il f HC.out).later ((Below.refl _ _).alloc (Nat.le_refl _) _) (by simp)
    · have q := Own.made (w.alloc (.cells C 35)) C2 il HC2.out (by unfold maxLen; omega)
      rw [show (w.alloc (.cells C 35)).heap.size = w.heap.size + 1 from by simp] at q
      exact q
  case round =>
    obtain ⟨k, o, hk, hgk, rfl, rfl, rfl, hfst, hbel, hfil, hown⟩ := hrel
    have HK : Hid (gk = il - k) := hgk
    clear hgk
    by_cases hlt : k < il
    · have HFS : Hid _ := hfst
      have HW : Hid _ := hown
      have hln : Hid ((fs f k).length ≤ k) := fs_le f k
      go_upto_region 12 with fail
      go_cut [] (fun wx => Below w.heap.size w wx ∧ Filled w.heap.size il (k + 1) f wx ∧ Own (w.heap.size + 1) il (fs f k) wx)
      case first =>
        clear hfst hown
        go_wp2_with fail
        refine Calls.mono (Hid.out H7 wr hbel k hlt) ?_
        rintro e w1 ⟨rfl, hb1⟩
        have hbw : Below w.heap.size w w1 := hbel.trans (hb1.mono hbel.size)
        have hf1 : Filled w.heap.size il k f w1 := hfil.later hb1 hfil.lt
        have ho1 : Own (w.heap.size + 1) il (fs f k) w1 := Own.later (Hid.out HW) hb1 (Own.lt (Hid.out HW))
        have ht := hf1.there7 hlt
        have HF : Hid _ := hf1
        have HB : Hid _ := hbw
        have HO : Hid _ := ho1
        clear hbel hfil hb1 hf1 hbw ho1
        obtain ⟨⟨z0, z1, z2, z3, z4, z5, z6, y0, y1, y2, y3, y4, y5, y6⟩, fr0, fr1, fr2, fr3, fr4, fr5, fr6⟩ := there_cells7 ht
        clear ht
        go_wp2_with fail
        go_meet
        exact ⟨below_put7 HB.out (Nat.le_refl _), HF.out.put hlt, Own.put (Hid.out HO) (by omega)⟩
      case rest =>
      obtain ⟨hbc, hfc, hoc⟩ := hcut
      clear hbel hfil hown hfst HW
      obtain ⟨b, off, rfl, hb, hcx⟩ := Hid.out HX k hlt
      have hcx : wc.cell? ⟨b, off + k, none⟩ = some (.bool (f k).x) := (Below.cell hbc (p := ⟨b, off + k, none⟩) hb).trans hcx
      have HBc : Hid _ := hbc
      have HFc : Hid _ := hfc
      have HOc : Hid _ := hoc
      clear hbc hfc hoc
      cases hxk : (f k).x with
      | false =>
        rw [hxk] at hcx
        go_wp2_with fail
        go_roundg (il - (k + 1))
        case rel => exact ⟨k + 1, o, by omega, rfl, by rw [fs_no hxk], rfl, by go_num, Fst.no (Hid.out HFS) hxk, HBc.out, HFc.out, by rw [fs_no hxk]; exact HOc.out⟩
        case measure => have := HK.out; omega
      | true =>
        rw [hxk] at hcx
        have HXK : Hid _ := hxk
        clear hxk
        go_wp2_with fail
        refine Calls.mono (Hid.out H7 wc HBc.out k hlt) ?_
        rintro e w2 ⟨rfl, hb2⟩
        have hb2' : Below w.heap.size w w2 := HBc.out.trans (hb2.mono HBc.out.size)
        have hf2 : Filled w.heap.size il (k + 1) f w2 := HFc.out.later hb2 HFc.out.lt
        have ho2 : Own (w.heap.size + 1) il (fs f k) w2 := Own.later (Hid.out HOc) hb2 (Own.lt (Hid.out HOc))
        have HB2 : Hid _ := hb2'
        have HF2 : Hid _ := hf2
        have HO2 : Hid _ := ho2
        clear hb2 hb2' hf2 ho2
        go_wp2_with (at_builtin; refine wpList_append_fits _ rfl (.tmp 79) (.tmp 89) 28 rfl (w.heap.size + 1) 35 i0 7 Try.underlying28 HI0.out HZ1.out (w.heap.size + 1) (fs f k).length il ((fs f k).flatMap At.cells) rfl (World.ownsRow.alloc (Hid.out HO2) _) ⟨w2.heap.size, 0, none⟩ 1 1 (f k).cells rfl rfl ?q1 (At.cells_one _) ?q2 ?_)
        case q1 =>
          intro j u hj
          rw [Addr.add_mid, Nat.zero_add]
          exact (Boxed7.new w2 (f k)).2 j u hj
        case q2 => have := hln.out; omega
        intro w3 hown3 hgrow
        have hown3 : Own (w.heap.size + 1) il (fs f (k + 1)) w3 := by
          rw [fs_yes HXK.out]
          unfold Own
          rw [List.flatMap_append, List.length_append]
          simpa using hown3
        have hb3 : Below w.heap.size w w3 := (HB2.out.alloc HB2.out.size _).grown hgrow (by have := HB2.out.size; simp; omega) (fun k' e => by have := Option.some.inj e; omega)
        have hf3 : Filled w.heap.size il (k + 1) f w3 := (HF2.out.later ((Below.refl _ _).alloc (Nat.le_refl _) _) HF2.out.lt).grown hgrow (by omega)
        have HO3 : Hid _ := hown3
        have HB3 : Hid _ := hb3
        have HF3 : Hid _ := hf3
        have HLN : Hid ((fs f k).length + 1 = (fs f (k + 1)).length) := by
          show (fs f k).length + 1 = (fs f (k + 1)).length
          rw [fs_yes HXK.out]
          simp
        clear hown3 hb3 hf3 hgrow HO2 HB2 HF2 HOc HBc HFc hcx
        by_cases ho : o < 0
        · go_wp2_with fail
          go_roundg (il - (k + 1))
          case rel => exact ⟨k + 1, k, by omega, rfl, by rw [HLN.out], rfl, by go_num, Fst.new (Hid.out HFS) ho HXK.out, HB3.out, HF3.out, HO3.out⟩
          case measure => have := HK.out; omega
        · go_wp2_with fail
          go_roundg (il - (k + 1))
          case rel => exact ⟨k + 1, o, by omega, rfl, by rw [HLN.out], rfl, by go_num, Fst.old (Hid.out HFS) (by omega), HB3.out, HF3.out, HO3.out⟩
          case measure => have := HK.out; omega
    · have e : il = k := by omega
      subst e
      have HFS : Hid _ := hfst
      have HOw : Hid _ := hown
      have HFl : Hid _ := hfil
      have HBl : Hid _ := hbel
      have hsz : w.heap.size < wr.heap.size := hfil.lt
      have hsz1 : w.heap.size + 1 < wr.heap.size := Own.lt hown
      clear hlt hbel hfil hown hfst HK hk
      go_upto_region 18 with fail
      go_cut [25] (fun s wx => s = .pointer (some ⟨wr.heap.size + 1, 0, none⟩) ∧ Groups2 wr wx w.heap.size (w.heap.size + 1) (fs f il).length il)
      case first =>
        go_wp2_with fail
        go_meet
        exact ⟨rfl, Groups2.mk2 wr _ _ _ _ _ _ _ _⟩
      case rest =>
      obtain ⟨rfl, G⟩ := hcut
      obtain ⟨F, hF⟩ : ∃ F : Nat → At, ∀ i, i < (fs f il).length → (fs f il)[i]? = some (F i) := ⟨fun i => (fs f il)[i]?.getD At.zero, fun i hi => by simp [List.getElem?_eq_getElem hi]⟩
      have I0 : Hid (∀ W, Below wc.heap.size wc W → Calls Try.prog 8 #[.pointer (some ⟨wr.heap.size, 0, none⟩)] W (IndexEnd f il W)) := fun W hW =>
        index_any wc.heap.size W hW.size wr.heap.size (by have := G.size; omega) _ il il f ((hW.cell (p := ⟨wr.heap.size, 2, none⟩) (by have := G.size; show wr.heap.size < _; omega)).trans G.g0)
          (((HFl.out.later G.bel hsz).later hW (by have := G.size; omega)).rows _ (by have := G.size; omega) il (Nat.le_refl _)) (by unfold maxLen; omega)
      have I1 : Hid (∀ W, Below wc.heap.size wc W → Calls Try.prog 8 #[.pointer (some ⟨wr.heap.size + 1, 0, none⟩)] W (IndexEnd F (fs f il).length W)) := fun W hW =>
        index_any wc.heap.size W hW.size (wr.heap.size + 1) (by have := G.size; omega) _ (fs f il).length il F ((hW.cell (p := ⟨wr.heap.size + 1, 2, none⟩) (by have := G.size; show wr.heap.size + 1 < _; omega)).trans G.g1)
          (Own.rows (Own.later (Own.later (Hid.out HOw) G.bel hsz1) hW (by have := G.size; omega)) _ (by have := G.size; omega) F hF) (by have := fs_le f il; unfold maxLen; omega)
      have hBc : Below w.heap.size w wc := HBl.out.trans (G.bel.mono HBl.out.size)
      have HBc : Hid _ := hBc
      have HF : Hid _ := hF
      clear G HFl HBl HOw hBc hF
      go_wp2_with fail
      refine Calls.mono (Hid.out I0 wc (Below.refl _ _)) ?_
      rintro e w1 ⟨tw, bw, rfl, hfw, hb1⟩
      have HFw : Hid _ := hfw
      have HB1 : Hid _ := hb1
      clear hfw hb1 I0
      go_wp2_with fail
      refine Calls.mono (Hid.out I1 _ ?_) ?_
      · exact HB1.out.alloc HB1.out.size _
      rintro e w2 ⟨tb, bb, rfl, hfb, hb2⟩
      obtain ⟨hbb, htb⟩ := FirstOf.filtered HF.out HFw.out hfb
      subst hbb
      subst htb
      have q1 := HB1.out.alloc HB1.out.size (.cells #[.string tw.s, .int .i64 tw.n, .bool tw.l, .slice tw.a tw.len tw.cap, .bool tw.x, .bool tw.k, .bool tw.d] 35)
      have q2 := q1.trans (hb2.mono q1.size)
      have hbel : Below w.heap.size w w2 := HBc.out.trans (q2.mono HBc.out.size)
      have x1 := ((Boxed7.new w1 tw).later hb2 (by simp))
      have hg : Good w.heap.size w2 tw := (FirstOf.good HFw.out HG.out).later hbel
      have HGd : Hid _ := hg
      have HBl : Hid _ := hbel
      have HX1 : Hid _ := x1
      have hz1 := x1.1
      obtain ⟨a0, a1, a2, a3, a4, a5, a6⟩ := x1.cells
      clear q1 q2 hbel x1 hg HB1 hb2 hfb I1 HBc
      go_wp2_with fail
      refine Calls.mono (same_good w.heap.size _ ?_ tw ?_) ?_
      · have := HBl.out.size; simp; omega
      · exact Good.later (Hid.out HGd) ((Below.refl _ _).alloc HBl.out.size _)
      rintro e w3 ⟨rfl, hb3⟩
      have hb3 : Below w2.heap.size w2 w3 := ((Below.refl _ _).alloc (Nat.le_refl _) _).trans (hb3.mono (by simp))
      have x1 : Boxed7 w3 w1.heap.size tw := Boxed7.later (Hid.out HX1) hb3 hz1
      have hbc : Below w.heap.size w w3 := HBl.out.trans (hb3.mono HBl.out.size)
      have hgc : Good w.heap.size w3 tw := Good.later (Hid.out HGd) (hb3.mono HBl.out.size)
      have HBc : Hid _ := hbc
      have HGc : Hid _ := hgc
      have hzc := x1.1
      clear a0 a1 a2 a3 a4 a5 a6 HGd HBl HX1 hb3 hbc hgc
      obtain ⟨a0, a1, a2, a3, a4, a5, a6⟩ := x1.cells
      have HX1 : Hid _ := x1
      clear x1
      rcases Hid.out HFS with ⟨rfl, hno⟩ | ⟨k, rfl, hlt, hxk, hno⟩
      · obtain ⟨htw, hbw⟩ := FirstOf.miss HFw.out hno
        subst hbw
        subst htw
        clear hno HFS HFw HF
        go_wp2_with fail
        have h9 : Calls Try.prog 9 #[.agg #[.string At.zero.s, .int .i64 At.zero.n, .bool At.zero.l, .slice At.zero.a At.zero.len At.zero.cap, .bool At.zero.x, .bool At.zero.k, .bool At.zero.d], .agg #[.string ⟨#[]⟩, .int .i64 0, .bool false, .slice none 0 0, .bool false, .bool false, .bool false]] w3 (TrueEnd w3) :=
          same_good w.heap.size w3 (Hid.out HBc).size At.zero (Hid.out HGc)
        refine Calls.mono h9 ?_
        rintro e w4 ⟨rfl, hb4⟩
        go_wp2_with fail
        go_ret
        exact ⟨rfl, (Hid.out HBc).trans (hb4.mono (Hid.out HBc).size)⟩
      · obtain ⟨htw, hbw⟩ := FirstOf.hit HFw.out hlt hxk hno
        subst hbw
        subst htw
        clear hno HFS HFw HF hxk HG hil HI HC HC2 hsz hsz1
        go_upto_region 25 with fail
        go_region_held3 (fun W => W.cell? ⟨w1.heap.size, 0, none⟩ = some (.string (f k).s) ∧ W.cell? ⟨w1.heap.size, 1, none⟩ = some (.int .i64 (f k).n) ∧ W.cell? ⟨w1.heap.size, 2, none⟩ = some (.bool (f k).l) ∧ W.cell? ⟨w1.heap.size, 3, none⟩ = some (.slice (f k).a (f k).len (f k).cap) ∧ W.cell? ⟨w1.heap.size, 4, none⟩ = some (.bool (f k).x) ∧ W.cell? ⟨w1.heap.size, 5, none⟩ = some (.bool (f k).k) ∧ W.cell? ⟨w1.heap.size, 6, none⟩ = some (.bool (f k).d)) (go_keep)
          (first | (go_at_call 7; refine Calls.mono (Hid.out H7 _ ?_ k hlt) ?_; exact Below.drew (Hid.out HBc); rintro e w4 ⟨rfl, hb4⟩; have hb4 := below_of_drew hb4; obtain ⟨e0, e1, e2, e3, e4, e5, e6⟩ := (Boxed7.later (Hid.out HX1) hb4 hzc).cells) | (go_at_call 9; refine Calls.mono (same_good w.heap.size _ ?_ _ ?_) ?_; exact Nat.le_trans (Hid.out HBc).size hb4.size; exact Good.later (Hid.out HGc) (hb4.mono (Hid.out HBc).size); rintro e w5 ⟨rfl, hb5⟩; have hb5 := hb4.trans (hb5.mono hb4.size); obtain ⟨g0, g1, g2, g3, g4, g5, g6⟩ := (Boxed7.later (Hid.out HX1) hb5 hzc).cells))
        go_wp2
        go_ret
        exact ⟨rfl, (Hid.out HBc).trans (hb5.mono (Hid.out HBc).size)⟩
end Go.Proofs.Qxb6628968a
