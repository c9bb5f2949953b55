import Derived.Test.Qxb6630021aFour
namespace Go.Proofs.Qxb6630021a
open Go.RowKit
set_option linter.unusedVariables false

/-- Ends in a slice of new memory that holds l and the text; nothing old has turned. -/
def ModelEnd (l : List Int) (a : Int) (w : World) (e : Ending) (w' : World) : Prop :=
  ∃ v, e = .returned v ∧ w'.ownsRow w.heap.size 5 1 v (l.length + (text a).length) (vals (l ++ text a)) ∧ Below w.heap.size w w'

/-- The block g holds the bytes of the list x, and has room for cap. -/
structure Out (g cap q : Nat) (x : List Int) (w : World) : Prop where
  hlen : x.length = q
  own : w.ownsRow g 5 1 (.slice (some ⟨g, 0, none⟩) q cap) q (vals x)
theorem Out.grew {g cap q : Nat} {x : List Int} {c : Int} {w w' : World} (h : Out g cap q x w) (hown : w'.ownsRow g 5 1 (.slice (some ⟨g, 0, none⟩) (q + 1) cap) (q + 1) (vals x ++ [.int .u8 c])) : Out g cap (q + 1) (x ++ [c]) w' :=
  ⟨by rw [List.length_append, h.hlen]; rfl, by rw [vals_append]; exact hown⟩
theorem below_grew {g B : Nat} {w W w' : World} {o : Obj} (h : Below B w W) (hg : (W.alloc o).grownBy w' (some g)) (hB : B ≤ g) (hB2 : B ≤ W.heap.size) : Below B w w' :=
  (h.alloc hB2 o).grown hg (by simp; omega) (fun k e => by have := Option.some.inj e; omega)
theorem news_one (w : World) (c : Int) (j : Nat) (u : Value) (hj : [Value.int .u8 c][j]? = some u) : (w.alloc (.cells #[.int .u8 c] 5)).cell? ((⟨w.heap.size, 0, none⟩ : Addr).add j) = some u := by
  match j, hj with
  | 0, hj => simp at hj; subst hj; simp [Addr.add]
theorem one_one (c : Int) : ∀ u ∈ [Value.int .u8 c], u.oneCell' = true := by intro u hu; simp at hu; subst hu; rfl

/-- The digits that have been laid down, the last one first: R; y is left. -/
structure Rev (Y g y n : Nat) (R : List Int) (w : World) : Prop where
  hlen : R.length = n
  lt : y < 10 ^ (17 - n)
  num : n ≤ 17
  dig : (Y = 0 ∧ y = 0 ∧ R = []) ∨ (y ≠ 0 ∧ dz Y = dz y ++ R.reverse)
  glt : g < w.heap.size
  room : w.there g 0 20
  at_ : w.rangeAt g 0 (vals R)

theorem range_put {w : World} {g n : Nat} {R : List Int} {c : Int} (hlen : R.length = n) (room : w.there g 0 20) (hn : n < 20) (h : w.rangeAt g 0 (vals R)) : (w.setCell ⟨g, n, none⟩ (.int .u8 c)).rangeAt g 0 (vals (R ++ [c])) := fun j v hv => by
  have hr := room n hn
  rw [Nat.zero_add] at hr
  obtain ⟨z, hz⟩ := Option.isSome_iff_exists.1 hr.1
  by_cases e : j = n
  · subst e
    have : v = .int .u8 c := by
      rw [vals_append, List.getElem?_append_right (by rw [vals_length]; omega), vals_length, show j - R.length = 0 from by omega] at hv
      exact (Option.some.inj hv).symm
    rw [this, Nat.zero_add]
    exact World.cell?_setCell_same _ _ _ hz
  · have hj : j < R.length := by
      have := (List.getElem?_eq_some_iff.1 hv).1
      rw [vals_length, List.length_append] at this
      simp at this
      omega
    rw [vals_append, List.getElem?_append_left (by rw [vals_length]; exact hj)] at hv
    rw [World.cell?_setCell_other _ _ _ _ (fun hh => e (by have := congrArg Addr.off hh; simp at this; omega))]
    exact h j v hv
theorem Rev.step {Y g y n : Nat} {R : List Int} {w : World} (h : Rev Y g y n R w) (hn : n ≤ 16) (hy : y / 10 ≠ 0) (hb : y < 10 ^ 20) : Rev Y g (y / 10) (n + 1) (R ++ [48 + (y : Int) % 10]) (w.setCell ⟨g, n, none⟩ (.int .u8 (48 + (y : Int) % 10))) := by
  refine ⟨by rw [List.length_append, h.hlen]; rfl, ?_, by omega, .inr ⟨hy, ?_⟩, by simpa [World.setCell] using h.glt, World.there_setCells h.room g n [.int .u8 (48 + (y : Int) % 10)], range_put h.hlen h.room (by omega) h.at_⟩
  · have := h.lt
    rw [show 17 - n = (17 - (n + 1)) + 1 from by omega, Nat.pow_succ] at this
    omega
  · rcases h.dig with ⟨_, h0, _⟩ | ⟨h0, hd⟩
    · rw [h0] at hy; simp at hy
    · rw [hd, dz_step h0 hb, List.reverse_append, List.append_assoc, show ((y % 10 : Nat) : Int) = (y : Int) % 10 from by omega]
      rfl
theorem Rev.last {Y g y n : Nat} {R : List Int} {w : World} (h : Rev Y g y n R w) (hy : y / 10 = 0) : dgs Y = (R ++ [48 + (y : Int) % 10]).reverse := by
  rw [List.reverse_append]
  rcases h.dig with ⟨rfl, rfl, rfl⟩ | ⟨h0, hd⟩
  · rfl
  · rw [last_more h0 (by omega) hd, show (y : Int) % 10 = y from by omega]
    rfl

theorem model_end {w w' : World} {x z x2 R : List Int} {a : Int} {m Y q cap : Nat} (hz : z = x ++ sg a) (hm : m = a.natAbs) (hY : Y = m / 100) (hR : dgs Y = R.reverse) (hx2 : x2 = z ++ (R.drop 0).reverse) {c d : Int} (hc : c = 48 + (m : Int) % 100 / 10) (hd : d = 48 + (m : Int) % 10)
    (ho : Out w.heap.size cap q (x2 ++ [46] ++ [c] ++ [d]) w') (hb : Below w.heap.size w w') : ModelEnd x a w (.returned (.slice (some ⟨w.heap.size, 0, none⟩) q cap)) w' := by
  have e : x2 ++ [46] ++ [c] ++ [d] = x ++ text a := by
    rw [hx2, hz, List.drop_zero, ← hR, hc, hd]
    show _ = x ++ (sg a ++ body a.natAbs)
    rw [← hm]
    unfold body
    rw [← hY]
    simp
  rw [e] at ho
  refine ⟨_, rfl, ?_, hb⟩
  have hl := ho.hlen
  rw [List.length_append] at hl
  rw [hl]
  exact ho.own

theorem tmod_neg (y : Nat) (k : Nat) : (-(y : Int)).tmod k = -((y : Int) % k) := by rw [Int.neg_tmod, Int.tmod_eq_emod_of_nonneg (by omega)]
theorem tdiv_neg (y : Nat) (k : Nat) : (-(y : Int)).tdiv k = -((y : Int) / k) := by rw [Int.neg_tdiv, Int.tdiv_eq_ediv_of_nonneg (by omega)]

set_option maxRecDepth 20000 in
set_option maxHeartbeats 4000000 in
theorem model_any (B : Nat) (w : World) (hB : B ≤ w.heap.size) (ao : Option Addr) (len cap : Nat) (l : List Int) (h : Bs B w ao len cap l) (hl : len ≤ 1048576) (a : Int) (h0 : -9223372036854775808 ≤ a) (h1 : a ≤ 9223372036854775807) :
    Calls Try.prog 7 #[.slice ao len cap, .int .i64 a] w (ModelEnd l a w) := by
  obtain ⟨i0, hi0, hz0, hz1, hzb⟩ := info_parts info5
  have HI0 : Hid _ := hi0
  have HZ1 : Hid _ := hz1
  have HL : Hid (l.length = len) := h.hlen
  have HA : Hid _ := h.at_
  obtain ⟨C, hC, hmk⟩ := make_run 0 (len + 24) (Nat.zero_le _) (by omega)
  have hmk : ∀ W : World, (Instr.makeSlice 22 (.int .i64 0) (.int .i64 ((len : Int) + 24))).run Try.prog W = .ok (.slice (some ⟨W.heap.size, 0, none⟩) 0 (len + 24)) (W.alloc (.cells C 5)) := hmk
  have HC : Hid _ := hC
  clear hi0 hz0 hz1 hzb h hC
  go_enter Try.func7, Try.ntmps7
  go_wp2_with fail
  clear hmk
  go_loopg [5, 6] len (fun g v1 v2 wr => ∃ (k : Nat) (x : List Int), k ≤ len ∧ g = len - k ∧ x = l.take k ∧ v1 = .slice (some ⟨w.heap.size, 0, none⟩) k (len + 24) ∧ v2 = .int .i64 k ∧ Below w.heap.size w wr ∧ Out w.heap.size (len + 24) k x wr)
  case atStart => exact ⟨0, [], Nat.zero_le _, rfl, rfl, rfl, rfl, (Below.refl _ _).alloc (Nat.le_refl _) _, rfl, World.ownsRow_made w C (len + 24) (Nat.le_refl _) (by unfold maxLen; omega) (by rw [HC.out]; omega)⟩
  case round =>
    obtain ⟨k, x, hk, hgk, hx, rfl, rfl, hbel, hout⟩ := hrel
    have HK : Hid (gk = len - k) := hgk
    have HX : Hid _ := hx
    have HBl : Hid _ := hbel
    have HO : Hid _ := hout
    clear hgk hx
    by_cases hlt : k < len
    · obtain ⟨b, off, rfl, hb, hc⟩ := Hid.out HA k hlt
      obtain ⟨c, hcc, hcx⟩ : ∃ c, wr.cell? ⟨b, off + k, none⟩ = some (.int .u8 c) ∧ c = l.getD k 0 := ⟨_, (hbel.cell (p := ⟨b, off + k, none⟩) (by show b < _; omega)).trans hc, rfl⟩
      have HCX : Hid _ := hcx
      clear hc hcx hbel hout
      go_wp2_with (at_builtin; refine wpList_append_fits _ rfl (.tmp 22) (.tmp 27) 22 rfl w.heap.size 5 i0 1 Try.underlying22 HI0.out HZ1.out w.heap.size k (len + 24) (vals x) rfl (World.ownsRow.alloc (Hid.out HO).own _) ⟨wr.heap.size, 0, none⟩ 1 1 [.int .u8 c] rfl rfl (news_one wr c) (one_one c) (by omega) ?_)
      intro w3 hown3 hgrow
      have HO3 : Hid _ := Out.grew (Hid.out HO) hown3
      have HB3 : Hid _ := below_grew (Hid.out HBl) hgrow (Nat.le_refl _) HBl.out.size
      clear hown3 hgrow
      go_wp2_with fail
      go_roundg (len - (k + 1))
      case rel =>
        refine ⟨k + 1, x ++ [c], by omega, rfl, ?_, rfl, by go_num, HB3.out, HO3.out⟩
        have hkl : k < l.length := by have := HL.out; omega
        rw [HX.out, HCX.out, List.take_succ_eq_append_getElem hkl, List.getD_eq_getElem?_getD, List.getElem?_eq_getElem hkl]
        rfl
      case measure => have := HK.out; omega
    · have e : k = len := by omega
      subst e
      have ex : x = l := by rw [HX.out, List.take_of_length_le (by have := HL.out; omega)]
      subst ex
      clear hlt hbel hout HK HX hk
      go_upto_if 30 with fail
      go_cut [5] (fun v wx => ∃ (q : Nat) (y : List Int), y = x ++ sg a ∧ q ≤ k + 1 ∧ v = .slice (some ⟨w.heap.size, 0, none⟩) q (k + 24) ∧ Out w.heap.size (k + 24) q y wx ∧ Below w.heap.size w wx)
      case first =>
        by_cases ha : a < 0
        · go_wp2_with (at_builtin; refine wpList_append_fits _ rfl (.tmp 31) (.tmp 32) 22 rfl w.heap.size 5 i0 1 Try.underlying22 HI0.out HZ1.out w.heap.size k (k + 24) (vals x) rfl (World.ownsRow.alloc (Hid.out HO).own _) ⟨wr.heap.size, 0, none⟩ 1 1 [.int .u8 45] rfl rfl (news_one wr 45) (one_one 45) (by omega) ?_)
          intro w3 hown3 hgrow
          have HO3 : Hid _ := Out.grew (Hid.out HO) hown3
          have HB3 : Hid _ := below_grew (Hid.out HBl) hgrow (Nat.le_refl _) HBl.out.size
          clear hown3 hgrow
          go_wp2_with fail
          go_meet
          exact ⟨k + 1, x ++ [45], by rw [show sg a = [45] from if_pos ha], Nat.le_refl _, rfl, HO3.out, HB3.out⟩
        · go_wp2_with fail
          go_meet
          exact ⟨k, x, by rw [show sg a = [] from if_neg (by omega), List.append_nil], by omega, rfl, HO.out, HBl.out⟩
      case rest =>
      obtain ⟨q, z, hz, hq, rfl, hout, hbel⟩ := hcut
      have HZZ : Hid _ := hz
      clear hz HO HBl
      have HO : Hid _ := hout
      have HBl : Hid _ := hbel
      clear hout hbel
      obtain ⟨m, hm⟩ : ∃ m : Nat, m = a.natAbs := ⟨_, rfl⟩
      obtain ⟨Y, hY⟩ : ∃ Y : Nat, Y = m / 100 := ⟨_, rfl⟩
      have hYb : Y ≤ 92233720368547758 := by omega
      have HM : Hid _ := hm
      have HY : Hid _ := hY
      go_upto_region 8 with fail
      go_cut [7] (fun v wx => ∃ yy : Int, v = .int .i64 yy ∧ (yy = Y ∨ yy = -(Y : Int)) ∧ wx = wc)
      case first =>
        by_cases ha : a < 0
        · obtain rfl : a = -(m : Int) := by omega
          have ht := tdiv_neg m 100
          clear hm hY
          go_wp2_with fail
          go_meet
          exact ⟨_, rfl, .inr (by have := HY.out; omega), rfl⟩
        · obtain rfl : a = (m : Int) := by omega
          clear hm hY
          go_wp2_with fail
          go_meet
          exact ⟨_, rfl, .inl (by have := HY.out; omega), rfl⟩
      case rest =>
      obtain ⟨yy, rfl, hyy, hww⟩ := hcut
      have hww := hww.symm
      subst hww
      have HYY : Hid _ := hyy
      clear hyy hm hY
      go_upto_if 39 with fail
      go_cut [8] (fun v wx => v = .int .i64 ((m : Int) % 100) ∧ wx = wc)
      case first =>
        have hm := HM.out
        have ht : a.tmod 100 = (m : Int) % 100 ∨ a.tmod 100 = -((m : Int) % 100) := by
          by_cases ha : a < 0
          · obtain rfl : a = -(m : Int) := by omega
            exact .inr (tmod_neg m 100)
          · obtain rfl : a = (m : Int) := by omega
            exact .inl (Int.tmod_eq_emod_of_nonneg (by omega))
        have HT : Hid _ := ht
        have hlo : -99 ≤ a.tmod 100 := by omega
        have hhi : a.tmod 100 ≤ 99 := by omega
        clear hm ht
        by_cases hz : a.tmod 100 < 0
        · have hb : decide (a.tmod 100 < 0) = true := decide_eq_true hz
          go_wp2_with fail
          go_meet
          exact ⟨congrArg (Value.int .i64) (by have := HT.out; omega), rfl⟩
        · have hb : decide (a.tmod 100 < 0) = false := decide_eq_false hz
          go_wp2_with fail
          go_meet
          exact ⟨congrArg (Value.int .i64) (by have := HT.out; omega), rfl⟩
      case rest =>
      obtain ⟨rfl, hww⟩ := hcut
      have hww := hww.symm
      subst hww
      have HT : Hid _ := Txt.made wc #[.int .u8 0, .int .u8 0, .int .u8 0, .int .u8 0, .int .u8 0, .int .u8 0, .int .u8 0, .int .u8 0, .int .u8 0, .int .u8 0, .int .u8 0, .int .u8 0, .int .u8 0, .int .u8 0, .int .u8 0, .int .u8 0, .int .u8 0, .int .u8 0, .int .u8 0, .int .u8 0] 20 [] rfl rfl (fun j v hv => by simp [vals] at hv)
      go_wp2_with fail
      go_loopg [7, 10] 18 (fun g v1 v2 W => ∃ (y n : Nat) (R : List Int) (yy : Int), g = 18 - n ∧ v1 = .int .i64 yy ∧ v2 = .int .i64 n ∧ (yy = y ∨ yy = -(y : Int)) ∧ Below wc.heap.size wc W ∧ Rev Y wc.heap.size y n R W)
      case atStart =>
        refine ⟨Y, 0, [], yy, rfl, rfl, rfl, HYY.out, (Below.refl _ _).alloc (Nat.le_refl _) _, rfl, by show Y < 10 ^ 17; omega, by omega, ?_, HT.out.lt, HT.out.room, fun j v hv => by simp [vals] at hv⟩
        by_cases h : Y = 0
        · exact .inl ⟨h, h, rfl⟩
        · exact .inr ⟨h, by simp⟩
      case round =>
        clear HYY HT
        obtain ⟨y, n, R, yy, hgn, rfl, rfl, hyy, hbw, hrev⟩ := hrel
        have HGN : Hid (gk = 18 - n) := hgn
        have HYY : Hid _ := hyy
        have HBw : Hid _ := hbw
        have HRV : Hid _ := hrev
        have hn17 := hrev.num
        have hn16 : n ≤ 16 ∨ y = 0 := by
          by_cases h : n ≤ 16
          · exact .inl h
          · have h2 := hrev.lt
            rw [show 17 - n = 0 from by omega] at h2
            simp at h2
            exact .inr h2
        have hyb : y ≤ 100000000000000000 := by
          have h2 := hrev.lt
          have h3 : (10 : Nat) ^ (17 - n) ≤ 10 ^ 17 := Nat.pow_le_pow_right (by omega) (by omega)
          omega
        have hyl : -100000000000000000 ≤ yy := by omega
        have hyh : yy ≤ 100000000000000000 := by omega
        clear hgn hyy hbw hrev
        have ht : yy.tmod 10 = (y : Int) % 10 ∨ yy.tmod 10 = -((y : Int) % 10) := by
          rcases Hid.out HYY with rfl | rfl
          · exact .inl (Int.tmod_eq_emod_of_nonneg (by omega))
          · exact .inr (tmod_neg y 10)
        have htd : yy.tdiv 10 = ((y / 10 : Nat) : Int) ∨ yy.tdiv 10 = -((y / 10 : Nat) : Int) := by
          rcases Hid.out HYY with rfl | rfl
          · exact .inl (by rw [Int.tdiv_eq_ediv_of_nonneg (by omega)]; omega)
          · exact .inr (by have q : (-(y : Int)).tdiv 10 = -((y : Int) / 10) := tdiv_neg y 10; rw [q]; omega)
        have HTD : Hid _ := htd
        have HT : Hid _ := ht
        have hlo : -9 ≤ yy.tmod 10 := by omega
        have hhi : yy.tmod 10 ≤ 9 := by omega
        have hdlo : -100000000000000000 ≤ yy.tdiv 10 := by omega
        have hdhi : yy.tdiv 10 ≤ 100000000000000000 := by omega
        clear ht htd
        go_upto_if 45 with fail
        go_cut [11] (fun v wx => v = .int .i64 ((y : Int) % 10) ∧ wx = wr)
        case first =>
          by_cases hz : yy.tmod 10 < 0
          · have hb : decide (yy.tmod 10 < 0) = true := decide_eq_true hz
            go_wp2_with fail
            go_meet
            exact ⟨congrArg (Value.int .i64) (by have := HT.out; omega), rfl⟩
          · have hb : decide (yy.tmod 10 < 0) = false := decide_eq_false hz
            go_wp2_with fail
            go_meet
            exact ⟨congrArg (Value.int .i64) (by have := HT.out; omega), rfl⟩
        case rest =>
        obtain ⟨rfl, hww⟩ := hcut
        have hww := hww.symm
        subst hww
        have i1 : (n : Int) < 20 := by omega
        have hr := (Hid.out HRV).room n (by omega)
        rw [Nat.zero_add] at hr
        obtain ⟨z0, y0⟩ := Option.isSome_iff_exists.1 hr.1
        have f0 := hr.2
        clear hr hlo hhi HT
        by_cases hz : y / 10 = 0
        · have hb : (yy.tdiv 10 == 0) = true := by rw [beq_iff_eq]; have := HTD.out; omega
          obtain ⟨R', hR'⟩ : ∃ R', R' = R ++ [48 + (y : Int) % 10] := ⟨_, rfl⟩
          have hn19 : n < 20 := by omega
          have HDG : Hid (dgs Y = R'.reverse) := by show dgs Y = R'.reverse; rw [hR']; exact Rev.last (Hid.out HRV) hz
          have HRL : Hid (R'.length = n + 1) := by show R'.length = n + 1; rw [hR', List.length_append, (Hid.out HRV).hlen]; rfl
          have HRA : Hid ((wr.setCell ⟨wc.heap.size, n, none⟩ (.int .u8 (48 + (y : Int) % 10))).rangeAt wc.heap.size 0 (vals R')) := by
            show World.rangeAt _ _ _ _
            rw [hR']
            exact range_put (Hid.out HRV).hlen (Hid.out HRV).room hn19 (Hid.out HRV).at_
          have HGL : Hid (wc.heap.size < (wr.setCell ⟨wc.heap.size, n, none⟩ (.int .u8 (48 + (y : Int) % 10))).heap.size) := by
            show _ < _
            simpa [World.setCell] using (Hid.out HRV).glt
          have HOz : Hid (Out w.heap.size (k + 24) q z (wr.setCell ⟨wc.heap.size, n, none⟩ (.int .u8 (48 + (y : Int) % 10)))) := by
            have hlt : w.heap.size < wc.heap.size := (World.ownsRow.lt (Hid.out HO).own w.heap.size rfl).2
            refine ⟨(Hid.out HO).hlen, ownsRow_below (Hid.out HO).own (HBw.out.setCell (Nat.le_refl _) _) (fun j hj => ?_)⟩
            have : w.heap.size = j := Option.some.inj hj
            omega
          have HBz : Hid (Below w.heap.size w (wr.setCell ⟨wc.heap.size, n, none⟩ (.int .u8 (48 + (y : Int) % 10)))) := HBl.out.trans ((HBw.out.setCell (Nat.le_refl _) _).mono HBl.out.size)
          have hsep : w.heap.size < wc.heap.size := (World.ownsRow.lt (Hid.out HO).own w.heap.size rfl).2
          clear hR' HRV HBw HTD HYY HGN
          go_wp2_with fail
          go_loopg [5, 10] (n + 1) (fun g v1 v2 W => ∃ (j q2 : Nat) (x2 : List Int), g = j ∧ j ≤ n + 1 ∧ q2 = q + (n + 1 - j) ∧ x2 = z ++ (R'.drop j).reverse ∧ v1 = .slice (some ⟨w.heap.size, 0, none⟩) q2 (k + 24) ∧ v2 = .int .i64 j ∧ Below w.heap.size w W ∧ Out w.heap.size (k + 24) q2 x2 W ∧ wc.heap.size < W.heap.size ∧ W.rangeAt wc.heap.size 0 (vals R'))
          case atStart => exact ⟨n + 1, q, z, rfl, Nat.le_refl _, by omega, by rw [List.drop_of_length_le (by have := HRL.out; omega)]; simp, rfl, by go_num, HBz.out, HOz.out, HGL.out, HRA.out⟩
          case round =>
            clear HBz HOz HGL HRA
            obtain ⟨j, q2, x2, hgj, hj, hq2, hx2, rfl, rfl, hbw, how, hgw, hra⟩ := hrel
            have HGJ : Hid (gk = j) := hgj
            have HQ2 : Hid _ := hq2
            have HX2 : Hid _ := hx2
            have HBw : Hid _ := hbw
            have HOw : Hid _ := how
            have HGw : Hid _ := hgw
            have HRA : Hid _ := hra
            have hq2b : q2 ≤ k + 20 := by omega
            clear hgj hq2 hx2
            by_cases hj0 : 0 < j
            · obtain ⟨i, rfl⟩ : ∃ i, j = i + 1 := ⟨j - 1, by omega⟩
              obtain ⟨c, hc, hcx⟩ : ∃ c, wr.cell? ⟨wc.heap.size, i, none⟩ = some (.int .u8 c) ∧ c = R'.getD i 0 := by
                have := hra i _ (vals_at R' i (by have := HRL.out; omega))
                rw [Nat.zero_add] at this
                exact ⟨_, this, rfl⟩
              have HCX : Hid _ := hcx
              have i20 : (i : Int) < 20 := by omega
              clear hra hbw how hgw hcx
              go_wp2_with (at_builtin; refine wpList_append_fits _ rfl (.tmp 63) (.tmp 67) 22 rfl w.heap.size 5 i0 1 Try.underlying22 HI0.out HZ1.out w.heap.size q2 (k + 24) (vals x2) rfl (World.ownsRow.alloc (Hid.out HOw).own _) ⟨wr.heap.size, 0, none⟩ 1 1 [.int .u8 c] rfl rfl (news_one wr c) (one_one c) (by omega) ?_)
              intro w3 hown3 hgrow
              have HO3 : Hid _ := Out.grew (Hid.out HOw) hown3
              have HB3 : Hid _ := below_grew (Hid.out HBw) hgrow (Nat.le_refl _) HBw.out.size
              have hblk : w3.heap[wc.heap.size]? = wr.heap[wc.heap.size]? := by
                have q1 := hgrow.block wc.heap.size (by have := HGw.out; simp; omega) (by intro e; have := Option.some.inj e; omega)
                exact q1.trans (Below.heap_alloc _ _ _ HGw.out)
              have HG3 : Hid (wc.heap.size < w3.heap.size) := by
                show _ < _
                have := hgrow.size
                have := HGw.out
                simp at *
                omega
              have HRA3 : Hid (w3.rangeAt wc.heap.size 0 (vals R')) := fun j v hv => (World.cell?_of_block (w := wr) (a := ⟨wc.heap.size, 0 + j, none⟩) hblk).trans (Hid.out HRA j v hv)
              clear hown3 hgrow hblk
              go_wp2_with fail
              go_roundg i
              case rel =>
                refine ⟨i, q2 + 1, x2 ++ [c], rfl, by omega, by have := HQ2.out; omega, ?_, rfl, rfl, HB3.out, HO3.out, HG3.out, HRA3.out⟩
                have hiR : i < R'.length := by have := HRL.out; omega
                rw [HX2.out, List.append_assoc, HCX.out, List.drop_eq_getElem_cons hiR, List.reverse_cons, List.getD_eq_getElem?_getD, List.getElem?_eq_getElem hiR]
                rfl
              case measure => have := HGJ.out; omega
            · have e : j = 0 := by omega
              subst e
              clear hra hbw how hgw hj0 hj HGJ HRL HGw HRA
              go_wp2_with (at_builtin; refine wpList_append_fits _ rfl (.tmp 69) (.tmp 70) 22 rfl w.heap.size 5 i0 1 Try.underlying22 HI0.out HZ1.out w.heap.size q2 (k + 24) (vals x2) rfl (World.ownsRow.alloc (Hid.out HOw).own _) ⟨wr.heap.size, 0, none⟩ 1 1 [.int .u8 46] rfl rfl (news_one wr _) (one_one _) (by omega) ?_)
              intro w3 hown3 hgrow
              have HO3 : Hid _ := Out.grew (Hid.out HOw) hown3
              have HB3 : Hid _ := below_grew (Hid.out HBw) hgrow (Nat.le_refl _) HBw.out.size
              clear hown3 hgrow HOw HBw
              have HOw := HO3
              go_wp2_with (at_builtin; refine wpList_append_fits _ rfl (.tmp 72) (.tmp 77) 22 rfl w.heap.size 5 i0 1 Try.underlying22 HI0.out HZ1.out w.heap.size (q2 + 1) (k + 24) (vals (x2 ++ [46])) rfl (World.ownsRow.alloc (Hid.out HOw).own _) ⟨w3.heap.size, 0, none⟩ 1 1 [.int .u8 (48 + (m : Int) % 100 / 10)] rfl rfl (news_one w3 _) (one_one _) (by omega) ?_)
              intro w4 hown4 hgrow
              have HO4 : Hid _ := Out.grew (Hid.out HO3) hown4
              have HB4 : Hid _ := below_grew (Hid.out HB3) hgrow (Nat.le_refl _) HB3.out.size
              clear hown4 hgrow HOw HB3 HO3
              have HOw := HO4
              go_wp2_with (at_builtin; refine wpList_append_fits _ rfl (.tmp 79) (.tmp 84) 22 rfl w.heap.size 5 i0 1 Try.underlying22 HI0.out HZ1.out w.heap.size (q2 + 1 + 1) (k + 24) (vals (x2 ++ [46] ++ [48 + (m : Int) % 100 / 10])) rfl (World.ownsRow.alloc (Hid.out HOw).own _) ⟨w4.heap.size, 0, none⟩ 1 1 [.int .u8 (48 + (m : Int) % 10)] rfl rfl (news_one w4 _) (one_one _) (by omega) ?_)
              intro w5 hown5 hgrow
              rw [show x2 ++ [46, 48 + (m : Int) % 100 / 10] = x2 ++ [46] ++ [48 + (m : Int) % 100 / 10] from by rw [List.append_assoc]; rfl] at hown5
              have HO5 : Hid _ := Out.grew (Hid.out HO4) hown5
              have HB5 : Hid _ := below_grew (Hid.out HB4) hgrow (Nat.le_refl _) HB4.out.size
              clear hown5 hgrow
              go_wp2_with fail
              go_ret
              exact model_end HZZ.out HM.out HY.out HDG.out HX2.out rfl rfl HO5.out HB5.out
        · have hb : (yy.tdiv 10 == 0) = false := by rw [beq_eq_false_iff_ne]; have := HTD.out; omega
          go_wp2_with fail
          go_roundg (18 - (n + 1))
          case rel => exact ⟨y / 10, n + 1, _, _, rfl, rfl, by go_num, HTD.out, HBw.out.setCell (Nat.le_refl _) _, Rev.step (Hid.out HRV) (by omega) hz (by omega)⟩
          case measure => have := HGN.out; omega
end Go.Proofs.Qxb6630021a
