import Derived.Test.Qxb6630021aPairs
namespace Go.Proofs.Qxb6630021a
open Go.RowKit
set_option linter.unusedVariables false

/-- The sign. -/
def sg (a : Int) : List Int := if a < 0 then [45] else []

/-- Behind the sign. -/
structure Signed (base : Nat) (w : World) (v : Value) (n : Nat) (l : List Int) (a : Int) (v1 : Value) (wx : World) : Prop where
  own : wx.ownsRow base 5 1 v1 (n + (sg a).length) (vals (l ++ sg a))
  grown : w.grownBy wx v.ownBlock
  blk : v1.ownBlock = v.ownBlock ∨ ∃ k, w.heap.size ≤ k ∧ v1.ownBlock = some k

theorem natAbs_neg (a : Int) (ha : a < 0) (h0 : -9223372036854775808 ≤ a) : IntKind.u64.wrap (-IntKind.u64.wrap a) = (a.natAbs : Int) := by
  simp only [IntKind.wrap_u64]
  omega
theorem natAbs_pos (a : Int) (ha : ¬ a < 0) (h1 : a ≤ 9223372036854775807) : IntKind.u64.wrap a = (a.natAbs : Int) := by
  simp only [IntKind.wrap_u64]
  omega
theorem ten_le {u i : Nat} (h : 10 ≤ u) (hu : u < 10 ^ i) : 2 ≤ i := by
  rcases Nat.lt_or_ge i 2 with h2 | h2
  · match i, h2 with
    | 0, _ => simp at hu; omega
    | 1, _ => simp at hu; omega
  · exact h2
theorem ten_div {u i : Nat} (hu : u < 10 ^ (i + 2)) : u / 100 < 10 ^ i := by
  rw [Nat.pow_add] at hu
  omega

/-- The loop's state: u is left; W has been written behind place i. -/
structure Left (Y : Nat) (tail : List Int) (g : Nat) (wc : World) (u i : Nat) (wr : World) : Prop where
  lt : u < 10 ^ i
  odd : i % 2 = 1 ∧ i ≤ 17
  bel : Below wc.heap.size wc wr
  txt : ∃ W, W.length + i = 17 ∧ dz Y = dz u ++ W ∧ Txt g i (W ++ tail) wr

theorem app_end {base : Nat} {w wc W w' : World} {v u1 v' : Value} {n : Nat} {l : List Int} {a : Int} {m L : Nat} (hsg : Signed base w v n l a u1 wc) (hm : m = a.natAbs) (hb : Below wc.heap.size wc W) (hL : (vals (body m)).length = L * 1)
    (hown : w'.ownsRow base 5 1 v' (n + (sg a).length + L) (vals (l ++ sg a) ++ vals (body m))) (hg : W.grownBy w' u1.ownBlock) : AppendEnd base v n l a w (.returned v') w' := by
  refine ⟨v', rfl, ?_, ?_⟩
  · have e : text a = sg a ++ body m := by rw [hm]; rfl
    rw [vals_length] at hL
    rw [e, List.length_append, ← List.append_assoc, vals_append (l ++ sg a), show n + ((sg a).length + (body m).length) = n + (sg a).length + L from by omega]
    exact hown
  · refine ⟨hg.os.trans (hb.os.trans hsg.grown.os), hg.tape.trans (hb.tape.trans hsg.grown.tape), hg.output.trans (hb.output.trans hsg.grown.output), Nat.le_trans hsg.grown.size (Nat.le_trans hb.size hg.size), fun k hk hne => ?_⟩
    have hkc : k < wc.heap.size := Nat.lt_of_lt_of_le hk hsg.grown.size
    refine (hg.block k (Nat.lt_of_lt_of_le hkc hb.size) ?_).trans ((hb.block k hkc).trans (hsg.grown.block k hk hne))
    rcases hsg.blk with h | ⟨k', hk', h⟩
    · rw [h]; exact hne
    · rw [h]; intro e; have := Option.some.inj e; omega
theorem own_later {base : Nat} {w wc W : World} {v u1 : Value} {n : Nat} {l : List Int} {a : Int} (hsg : Signed base w v n l a u1 wc) (hb : Below wc.heap.size wc W) : W.ownsRow base 5 1 u1 (n + (sg a).length) (vals (l ++ sg a)) :=
  ownsRow_below hsg.own hb (fun k hk => (World.ownsRow.lt hsg.own k hk).2)
theorem sg_len (a : Int) : (sg a).length ≤ 1 := by
  unfold sg
  split <;> simp
theorem dz_nil {Y : Nat} (hY : Y < 10 ^ 20) (h : dz Y = []) : Y = 0 := by
  by_cases h0 : Y = 0
  · exact h0
  · have := dz_pos h0 hY
    rw [h] at this
    simp at this
/-- What the last step makes of the digits. -/
theorem last_first {Y u : Nat} (hY : Y < 10 ^ 20) (hu : ¬ 10 ≤ u) (h : dz Y = dz u ++ []) : dgs Y = [48 + (u : Int)] := by
  rw [List.append_nil] at h
  by_cases h0 : u = 0
  · subst h0
    have := dz_nil hY (h.trans dz_zero)
    subst this
    rfl
  · rw [dz_one h0 (by omega)] at h
    unfold dgs
    rw [if_neg, h]
    intro e
    rw [e] at h
    cases h
theorem last_more {Y u : Nat} {W : List Int} (h0 : u ≠ 0) (hu : ¬ 10 ≤ u) (h : dz Y = dz u ++ W) : dgs Y = (48 + (u : Int)) :: W := by
  rw [dz_one h0 (by omega)] at h
  unfold dgs
  rw [if_neg, h]
  · rfl
  · intro e
    rw [e] at h
    cases h
theorem last_none {Y : Nat} {W : List Int} (hW : 0 < W.length) (h : dz Y = dz 0 ++ W) : dgs Y = W := by
  rw [dz_zero, List.nil_append] at h
  unfold dgs
  rw [if_neg, h]
  intro e
  rw [e, dz_zero] at h
  rw [← h] at hW
  simp at hW
theorem Txt.news {g i : Nat} {l : List Int} {w : World} (h : Txt g i l w) : ∀ j u, (vals l)[j]? = some u → w.cell? ((⟨g, i, none⟩ : Addr).add j) = some u := fun j u hj => by
  rw [Addr.add_mid]
  exact h.at_ j u hj

theorem len30 : Try.prog.arrayLen 30 = 20 := by kernel_rfl
theorem elem30 : Try.prog.elem 30 = 5 := by kernel_rfl
theorem under30 : Try.prog.underlying 30 = some (.array (Try.prog.arrayLen 30) (Try.prog.elem 30)) := by rw [len30, elem30]; exact Try.underlying30
/-- 'text[i:]'. -/
theorem slice_run (g i : Nat) (hi : i < 20) (x : Int) (hx : x = i) (W : World) : (Instr.sliceAt 30 (.pointer (some ⟨g, 0, none⟩)) (some (.int .i64 x)) none none).run Try.prog W = .ok (.slice (some ⟨g, i, none⟩) (20 - i) (20 - i)) W := by
  subst hx
  obtain ⟨i0, hi0, _, hz1, _⟩ := info_parts info5
  rw [run_sliceAt_array_l W 30 ⟨g, 0, none⟩ under30 .i64 i (by omega) (by rw [len30]; omega), elem30, len30]
  have hso : (sizeOf 5).run Try.prog W = .ok 1 W := by simp [sizeOf, typeInfo, hi0, hz1]
  rw [hso]
  show Result.ok (slicedAt ⟨g, 0, none⟩ i 20 20 1) W = _
  unfold slicedAt
  rw [if_neg (by omega), Addr.add_mid, Nat.zero_add, Nat.mul_one]

set_option maxRecDepth 20000 in
set_option maxHeartbeats 4000000 in
theorem append_any (base : Nat) (w : World) (hbase : base ≤ w.heap.size) (v : Value) (n : Nat) (l : List Int) (hown : w.ownsRow base 5 1 v n (vals l)) (hn : n ≤ 1048576) (a : Int) (h0 : -9223372036854775808 ≤ a) (h1 : a ≤ 9223372036854775807) :
    Calls Try.prog 8 #[.int .i64 a, v] w (AppendEnd base v n l a w) := by
  obtain ⟨i0, hi0, hz0, hz1, hzb⟩ := info_parts info5
  have HI0 : Hid _ := hi0
  have HZ0 : Hid _ := hz0
  have HZ1 : Hid _ := hz1
  have HZB : Hid _ := hzb
  have HO : Hid _ := hown
  clear hi0 hz0 hz1 hzb hown
  go_enter Try.func8, Try.ntmps8
  go_upto_if 11 with fail
  go_cut [1, 5] (fun v1 u wx => ∃ m : Nat, m = a.natAbs ∧ u = .int .u64 (m : Int) ∧ Signed base w v n l a v1 wx)
  case first =>
    by_cases ha : a < 0
    · go_wp2_with (at_builtin; refine wpList_append_own_at _ rfl (.tmp 12) (.tmp 13) 22 rfl base 5 i0 (.int .u8 0) 1 1 Try.underlying22 HI0.out HZ0.out HZ1.out HZB.out rfl (by decide) v n (vals l) rfl (World.ownsRow.alloc (Hid.out HO) _) ⟨w.heap.size, 0, none⟩ 1 1 [.int .u8 45] rfl rfl ?q1 ?q2 ?q3 ?q4 ?q5 ?_)
      case q1 =>
        intro j u hj
        match j, hj with
        | 0, hj => simp at hj; subst hj; simp [Addr.add]
      case q2 => intro u hu; simp at hu; subst hu; rfl
      case q3 => unfold maxLen; omega
      case q4 => omega
      case q5 => simp; omega
      intro v1 w1 hown1 hgrow _ hblk
      go_wp2_with fail
      go_meet
      refine ⟨a.natAbs, rfl, by rw [natAbs_neg a ha h0], ⟨?_, ?_, ?_⟩⟩
      · rw [show sg a = [45] from if_pos ha, vals_append]
        exact hown1
      · exact ⟨hgrow.os, hgrow.tape, hgrow.output, by have := hgrow.size; simp at this; omega, fun k hk hne => (hgrow.block k (by simp; omega) hne).trans (Below.heap_alloc _ _ _ hk)⟩
      · rcases hblk with h | h
        · exact .inl h
        · exact .inr ⟨_, by simp, h⟩
    · go_wp2_with fail
      go_meet
      refine ⟨a.natAbs, rfl, by rw [natAbs_pos a (by omega) h1], ⟨?_, World.grownBy.refl _ _, .inl rfl⟩⟩
      rw [show sg a = [] from if_neg (by omega), List.append_nil]
      exact HO.out
  case rest =>
  obtain ⟨m, hm, rfl, hsg⟩ := hcut
  have HM : Hid _ := hm
  have HSG : Hid _ := hsg
  have hm2 : (m : Int) ≤ 9223372036854775808 := by omega
  clear hm hsg HO h0 h1
  have hp0 := pairs_hi m
  have hp1 := pairs_lo m
  go_wp2_with fail
  go_region
  clear hp0 hp1
  go_wp2_with fail
  go_loopg [5, 7] 17 (fun g s1 s2 wr => ∃ u i : Nat, g = i ∧ s1 = .int .u64 (u : Int) ∧ s2 = .int .i64 (i : Int) ∧ Left (m / 100) [46, 48 + (m : Int) % 100 / 10, 48 + (m : Int) % 10] wc.heap.size wc u i wr)
  case atStart =>
    refine ⟨m / 100, 17, rfl, by go_num, rfl, ⟨by omega, by omega, ((Below.refl _ _).alloc (Nat.le_refl _) _).drew, [], rfl, by simp, ?_⟩⟩
    refine (Txt.made wc _ 17 _ rfl rfl ?_).drew
    intro j v hv
    match j, hv with
    | 0, hv => exact hv
    | 1, hv => exact hv
    | 2, hv => exact hv
  case round =>
    obtain ⟨u, i, hgi, rfl, rfl, hleft⟩ := hrel
    have HGI : Hid (gk = i) := hgi
    have HL : Hid _ := hleft
    have hodd := hleft.odd
    clear hgi
    by_cases hu : 10 ≤ u
    · obtain ⟨i2, rfl⟩ : ∃ i2, i = i2 + 2 := ⟨i - 2, by have := ten_le hu hleft.lt; omega⟩
      have hu2 : (u : Int) ≤ 9223372036854775808 := by
        have h3 := hleft.lt
        have h4 : (10 : Nat) ^ (i2 + 2) ≤ 10 ^ 17 := Nat.pow_le_pow_right (by omega) hodd.2
        omega
      obtain ⟨W, hWl, hWd, hWt⟩ := hleft.txt
      obtain ⟨⟨z0, y0⟩, f0⟩ := hWt.there1 (j := i2) (by omega)
      obtain ⟨⟨z1, y1⟩, f1⟩ := hWt.there1 (j := i2 + 1) (by omega)
      have HW : Hid _ := hWt
      have HD : Hid _ := hWd
      have HWL : Hid _ := hWl
      have hp0 := pairs_hi u
      have hp1 := pairs_lo u
      clear hleft hWt hWd hWl
      go_wp2_with fail
      go_region
      clear hp0 hp1
      go_wp2_with fail
      go_roundg i2
      case rel =>
        refine ⟨u / 100, i2, rfl, by go_num, rfl, ⟨ten_div (Hid.out HL).lt, by omega, ?_, (48 + (u : Int) % 100 / 10) :: (48 + (u : Int) % 10) :: W, ?_, ?_, (Txt.two (Hid.out HW) _ _).drew⟩⟩
        · exact (((Hid.out HL).bel.setCell (Nat.le_refl _) _).setCell (Nat.le_refl _) _).drew
        · have := HWL.out
          simp
          omega
        · rw [HD.out, dz_two hu (by omega), List.append_assoc]
          rfl
      case measure => have := HGI.out; omega
    · obtain ⟨W, hWl, hWd, hWt⟩ := hleft.txt
      obtain ⟨i1, rfl⟩ : ∃ i1, i = i1 + 1 := ⟨i - 1, by omega⟩
      obtain ⟨⟨z0, y0⟩, f0⟩ := hWt.there1 (j := i1) (by omega)
      have HB : Hid _ := hleft.bel
      have HW : Hid _ := hWt
      have HD : Hid _ := hWd
      have HWL : Hid _ := hWl
      clear hleft hWt hWd hWl HL HGI
      have hs1 := sg_len a
      have hY : m / 100 < 10 ^ 20 := by omega
      have HY : Hid _ := hY
      clear hY
      by_cases c1 : i1 = 16
      · subst c1
        have hw0 : W = [] := List.length_eq_zero_iff.1 (by have := HWL.out; omega)
        subst hw0
        have htx : Txt wc.heap.size 16 (body m) (wr.setCell ⟨wc.heap.size, 16, none⟩ (.int .u8 (48 + (u : Int)))) := by
          unfold body
          rw [last_first HY.out hu HD.out]
          exact Txt.one (Hid.out HW) _
        have HTX : Hid _ := htx
        have HLX : Hid ((vals (body m)).length = 4 * 1) := by
          show (vals (body m)).length = 4 * 1
          rw [vals_length]
          have := htx.len
          omega
        have HBX : Hid (Below wc.heap.size wc (wr.setCell ⟨wc.heap.size, 16, none⟩ (.int .u8 (48 + (u : Int))))) := HB.out.setCell (Nat.le_refl _) _
        clear htx HD HW HB HWL HY
        go_wp2_with (at_builtin; refine wpList_append_own_at _ rfl (.tmp 69) (.tmp 71) 22 rfl base 5 i0 (.int .u8 0) 1 1 Try.underlying22 HI0.out HZ0.out HZ1.out HZB.out rfl (by decide) u1 (n + (sg a).length) (vals (l ++ sg a)) rfl (own_later (Hid.out HSG) HBX.out) ⟨wc.heap.size, 16, none⟩ _ _ (vals (body m)) rfl HLX.out HTX.out.news (vals_one _) (by unfold maxLen; omega) (by omega) (by have := HBX.out.size; have := (Hid.out HSG).grown.size; omega) ?_)
        intro v' w' hown' hgrow _ _
        go_wp2_with fail
        go_ret
        exact app_end (Hid.out HSG) HM.out HBX.out HLX.out hown' hgrow
      · have k1 : ((i1 : Int) + 1 == 17) = false := by rw [beq_eq_false_iff_ne]; omega
        by_cases c2 : u = 0
        · subst c2
          have htx : Txt wc.heap.size (i1 + 1) (body m) wr := by
            unfold body
            rw [last_none (by have := HWL.out; omega) HD.out]
            exact Hid.out HW
          have HTX : Hid _ := htx
          have HLX : Hid ((vals (body m)).length = (19 - i1) * 1) := by
            show (vals (body m)).length = (19 - i1) * 1
            rw [vals_length]
            have := htx.len
            omega
          have HBX : Hid (Below wc.heap.size wc wr) := HB.out
          have hsl : ∀ W : World, (Instr.sliceAt 30 (.pointer (some ⟨wc.heap.size, 0, none⟩)) (some (.int .i64 ((i1 : Int) + 1))) none none).run Try.prog W = .ok (.slice (some ⟨wc.heap.size, i1 + 1, none⟩) (19 - i1) (19 - i1)) W := fun W => by
            have q := slice_run wc.heap.size (i1 + 1) (by omega) ((i1 : Int) + 1) (by omega) W
            rwa [show 20 - (i1 + 1) = 19 - i1 from by omega] at q
          clear htx HD HW HB HWL HY
          go_wp2_with (at_builtin; refine wpList_append_own_at _ rfl (.tmp 69) (.tmp 71) 22 rfl base 5 i0 (.int .u8 0) 1 1 Try.underlying22 HI0.out HZ0.out HZ1.out HZB.out rfl (by decide) u1 (n + (sg a).length) (vals (l ++ sg a)) rfl (own_later (Hid.out HSG) HBX.out) ⟨wc.heap.size, i1 + 1, none⟩ _ _ (vals (body m)) rfl HLX.out HTX.out.news (vals_one _) (by unfold maxLen; omega) (by omega) (by have := HBX.out.size; have := (Hid.out HSG).grown.size; omega) ?_)
          intro v' w' hown' hgrow _ _
          go_wp2_with fail
          go_ret
          exact app_end (Hid.out HSG) HM.out HBX.out HLX.out hown' hgrow
        · have k2 : 0 < u := by omega
          have htx : Txt wc.heap.size i1 (body m) (wr.setCell ⟨wc.heap.size, i1, none⟩ (.int .u8 (48 + (u : Int)))) := by
            unfold body
            rw [last_more c2 hu HD.out]
            exact Txt.one (Hid.out HW) _
          have HTX : Hid _ := htx
          have HLX : Hid ((vals (body m)).length = (20 - i1) * 1) := by
            show (vals (body m)).length = (20 - i1) * 1
            rw [vals_length]
            have := htx.len
            omega
          have HBX : Hid (Below wc.heap.size wc (wr.setCell ⟨wc.heap.size, i1, none⟩ (.int .u8 (48 + (u : Int))))) := HB.out.setCell (Nat.le_refl _) _
          have hsl := slice_run wc.heap.size i1 (by omega) (i1 : Int) rfl
          clear htx HD HW HB HWL HY
          go_wp2_with (at_builtin; refine wpList_append_own_at _ rfl (.tmp 69) (.tmp 71) 22 rfl base 5 i0 (.int .u8 0) 1 1 Try.underlying22 HI0.out HZ0.out HZ1.out HZB.out rfl (by decide) u1 (n + (sg a).length) (vals (l ++ sg a)) rfl (own_later (Hid.out HSG) HBX.out) ⟨wc.heap.size, i1, none⟩ _ _ (vals (body m)) rfl HLX.out HTX.out.news (vals_one _) (by unfold maxLen; omega) (by omega) (by have := HBX.out.size; have := (Hid.out HSG).grown.size; omega) ?_)
          intro v' w' hown' hgrow _ _
          go_wp2_with fail
          go_ret
          exact app_end (Hid.out HSG) HM.out HBX.out HLX.out hown' hgrow
end Go.Proofs.Qxb6630021a
