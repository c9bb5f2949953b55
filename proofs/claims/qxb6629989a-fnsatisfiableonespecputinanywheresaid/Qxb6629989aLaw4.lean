import Derived.Test.Qxb6629989aLaw3
import Derived.Test.Qxb6629989aMem4
namespace Go.Proofs.Qxb6629989a
open Go.RowKit
set_option linter.unusedVariables false

theorem info31 : (Try.prog.info? 31).map (fun i => (i.zero, i.size, i.bytes)) = some (some (.agg #[.int .i64 0, .int .i64 0, .int .i64 0]), 3, 24) := by kernel_rfl

/-- toSpecs, nil or not. -/
def ConvBoth (f : Nat → Sp) (len : Nat) (w : World) (e : Ending) (w' : World) : Prop := ∃ al, e = .returned (.slice al len len) ∧ Rows3 w'.heap.size w' al len f ∧ Below w.heap.size w w'
theorem conv_both (B : Nat) (w : World) (hB : B ≤ w.heap.size) (a : Option Addr) (len cap : Nat) (f : Nat → Sp) (ha : a = none → len = 0 ∧ cap = 0) (hf : Rows3 B w a len f) (hl : len ≤ 65536) : Calls Try.prog 6 #[.slice a len cap] w (ConvBoth f len w) := by
  cases a with
  | none =>
    obtain ⟨rfl, rfl⟩ := ha rfl
    refine (conv_nil w).mono ?_
    rintro e w' ⟨rfl, rfl⟩
    exact ⟨none, rfl, fun i hi => absurd hi (Nat.not_lt_zero _), Below.refl _ _⟩
  | some ad =>
    refine (conv_any B w hB ad len cap f hf hl).mono ?_
    rintro e w' ⟨rfl, hfil, hb⟩
    exact ⟨_, rfl, hfil.rows _ hfil.lt len (Nat.le_refl _), hb⟩

/-- What is carried through the two loops of appends. -/
structure St (w2 : World) (len : Nat) (x : Sp) (l : List Sp) (wr : World) : Prop where
  bel : Below w2.heap.size w2 wr
  box : Boxed wr w2.heap.size x
  own : Own (w2.heap.size + 1) (len + 1) l wr

theorem St.grew {w2 : World} {len : Nat} {x t : Sp} {l : List Sp} {wr w3 : World} (h : St w2 len x l wr) (o : Obj)
    (hown : w3.ownsRow (w2.heap.size + 1) 31 3 (.slice (some ⟨w2.heap.size + 1, 0, none⟩) (l.length + 1) (len + 1)) (l.length + 1) (l.flatMap Sp.cells ++ t.cells)) (hg : (wr.alloc o).grownBy w3 (some (w2.heap.size + 1))) : St w2 len x (l ++ [t]) w3 := by
  refine ⟨?_, ?_, Own.grew (k := 0) hown⟩
  · exact (h.bel.alloc h.bel.size o).grown hg (by have := h.bel.size; simp; omega) (fun k e => by have := Option.some.inj e; omega)
  · exact (h.box.later ((Below.refl _ _).alloc (Nat.le_refl _) o) h.box.1).grown hg (by omega)

theorem news_at (w : World) (t : Sp) (j : Nat) (u : Value) (hj : t.cells[j]? = some u) : (w.alloc (.cells #[.int .i64 t.a, .int .i64 t.b, .int .i64 t.c] 31)).cell? ((⟨w.heap.size, 0, none⟩ : Addr).add j) = some u := by
  rw [Addr.add_mid, Nat.zero_add]
  exact (Boxed.new w t 31).2 j u hj

set_option maxRecDepth 20000 in
set_option maxHeartbeats 4000000 in
theorem law4 (w : World) (a : Option Addr) (len cap : Nat) (f : Nat → Sp) (ha : a = none → len = 0 ∧ cap = 0) (hf : Rows3 w.heap.size w a len f) (hm : len ≤ 9223372036854775807) (size : Int) (h1 : size ≤ 9223372036854775807) (x : Sp) (p : Int) :
    Calls Try.prog 4 #[.slice a len cap, .int .i64 size, .agg #[.int .i64 x.a, .int .i64 x.b, .int .i64 x.c], .int .i64 p] w (TrueEnd w) := by
  have HF : Hid _ := hf
  have HA : Hid _ := ha
  clear hf ha
  go_enter Try.func4, Try.ntmps4
  go_wp2_with fail
  refine Calls.mono (bytes9_any _ _ _ _ _ _ _) ?_
  rintro e w1 ⟨b5, rfl, hb1⟩
  have x1 : Boxed w1 w.heap.size x := (Boxed.new w x 29).later hb1 (by simp)
  have hbw1 : Below w.heap.size w w1 := ((Below.refl _ _).alloc (Nat.le_refl _) _).trans (hb1.mono (by simp))
  have HX1 : Hid _ := x1
  have HB1 : Hid _ := hbw1
  clear x1 hb1 hbw1
  cases b5 with
  | false =>
    go_wp2
    go_ret
    exact ⟨rfl, HB1.out⟩
  | true =>
  by_cases l0 : 32768 < len
  · go_wp2
    go_ret
    exact ⟨rfl, HB1.out⟩
  have HL : Hid (len ≤ 32768) := by show len ≤ 32768; omega
  have dl : decide ((32768 : Int) < (len : Int)) = false := decide_eq_false (by omega)
  clear l0
  by_cases s0 : size < 0
  · go_wp2
    go_ret
    exact ⟨rfl, HB1.out⟩
  have s1 : 0 ≤ size := by omega
  have ds : decide (size < 0) = false := decide_eq_false (by omega)
  clear s0
  by_cases c0 : p < 0
  · go_wp2
    go_ret
    exact ⟨rfl, HB1.out⟩
  obtain ⟨c, rfl⟩ : ∃ c : Nat, p = c := ⟨p.toNat, by omega⟩
  clear c0
  by_cases c1 : len < c
  · go_wp2
    go_ret
    exact ⟨rfl, HB1.out⟩
  have hc : c ≤ len := by omega
  have d1 : decide ((c : Int) < 0) = false := decide_eq_false (by omega)
  have d2 : decide (len < c) = false := decide_eq_false (by omega)
  clear c1
  go_wp2_with fail
  refine Calls.mono (conv_both w.heap.size w1 HB1.out.size a len cap f HA.out (Rows3.later (Hid.out HF) HB1.out) (Nat.le_trans HL.out (by omega))) ?_
  rintro e w2 ⟨al, rfl, hrows, hb2⟩
  have x2 : Boxed w2 w.heap.size x := Boxed.later (Hid.out HX1) hb2 (Hid.out HX1).1
  have HB2 : Hid (Below w.heap.size w w2) := HB1.out.trans (hb2.mono HB1.out.size)
  have HR : Hid _ := hrows
  have hz2 : w.heap.size < w2.heap.size := x2.1
  obtain ⟨e0, e1, e2⟩ := x2.cells
  have HX2 : Hid _ := x2
  clear x2 hrows hb2 HB1 HX1 HA HF
  obtain ⟨C, hC, hmk⟩ := make_run 0 (len + 1) (Nat.zero_le _) (by have := HL.out; omega)
  have hmk : ∀ W : World, (Instr.makeSlice 24 (.int .i64 0) (.int .i64 ((len : Int) + 1))).run Try.prog W = .ok (.slice (some ⟨W.heap.size, 0, none⟩) 0 (len + 1)) (W.alloc (.cells C 31)) := hmk
  have hm1 : len ≤ 9223372036854775806 := by have := HL.out; omega
  have HC : Hid _ := hC
  obtain ⟨i0, hi0, hz0, hz1, hzb⟩ := info_parts info31
  have HI0 : Hid _ := hi0
  have HZ1 : Hid _ := hz1
  clear hC hi0 hz0 hz1 hzb
  go_wp2_with fail
  clear hmk e0 e1 e2 dl ds d1 d2
  go_loopg [11, 12] c (fun g v1 v2 wr => ∃ (k : Nat) (l : List Sp), k ≤ c ∧ g = c - k ∧ l.length = k ∧ l = (List.range k).map f ∧ v1 = .slice (some ⟨w2.heap.size + 1, 0, none⟩) k (len + 1) ∧ v2 = .int .i64 k ∧ St w2 len x l wr)
  case atStart =>
    refine ⟨0, [], Nat.zero_le _, rfl, rfl, rfl, rfl, rfl, ((Below.refl _ _).alloc (Nat.le_refl _) _).alloc (by simp) _, (Boxed.new w2 x 31).later ((Below.refl _ _).alloc (Nat.le_refl _) _) (by simp), ?_⟩
    have q := Own.made (w2.alloc (.cells #[.int .i64 x.a, .int .i64 x.b, .int .i64 x.c] 31)) C (len + 1) HC.out (by unfold maxLen; omega)
    rw [show (w2.alloc (.cells #[.int .i64 x.a, .int .i64 x.b, .int .i64 x.c] 31)).heap.size = w2.heap.size + 1 from by simp] at q
    exact q
  case round =>
    obtain ⟨k, l, hk, hgk, hlen, hl, rfl, rfl, hst⟩ := hrel
    have HK : Hid (gk = c - k) := hgk
    have HLn : Hid (l.length = k) := hlen
    have HLl : Hid _ := hl
    have HS : Hid _ := hst
    clear hgk hlen hl
    by_cases hlt : k < c
    · obtain ⟨b, off, rfl, hb, hcc⟩ := Hid.out HR k (by omega)
      obtain ⟨e0, e1, e2⟩ := cells3 (w := wr) (b := b) (o := off + k * 3) (t := f k) (fun j v hv => (hst.bel.cell (p := ⟨b, off + k * 3 + j, none⟩) hb).trans (hcc j v hv))
      have hkl : k < len := by omega
      have hown : wr.ownsRow (w2.heap.size + 1) 31 3 (.slice (some ⟨w2.heap.size + 1, 0, none⟩) k (len + 1)) k (l.flatMap Sp.cells) := HLn.out ▸ hst.own
      have HO : Hid _ := hown
      clear hcc hst hown
      go_wp2_with (at_builtin; refine wpList_append_fits _ rfl (.tmp 59) (.tmp 64) 24 rfl (w2.heap.size + 1) 31 i0 3 Try.underlying24 HI0.out HZ1.out (w2.heap.size + 1) k (len + 1) (l.flatMap Sp.cells) rfl (World.ownsRow.alloc (Hid.out HO) _) ⟨wr.heap.size, 0, none⟩ 1 1 (f k).cells rfl rfl (news_at wr (f k)) (Sp.cells_one _) (by omega) ?_)
      intro w3 hown3 hgrow
      have hst3 : St w2 len x (l ++ [f k]) w3 := by
        have q := HLn.out
        exact St.grew (Hid.out HS) _ (by rw [q]; exact hown3) hgrow
      have HS3 : Hid _ := hst3
      clear hst3 hown3 hgrow HO e0 e1 e2
      go_wp2_with fail
      go_roundg (c - (k + 1))
      case rel => exact ⟨k + 1, l ++ [f k], by omega, rfl, by rw [List.length_append, HLn.out]; rfl, by rw [HLl.out, List.range_succ, List.map_append]; rfl, rfl, by go_num, HS3.out⟩
      case measure => have := HK.out; omega
    · have e : c = k := by omega
      subst e
      have hown : wr.ownsRow (w2.heap.size + 1) 31 3 (.slice (some ⟨w2.heap.size + 1, 0, none⟩) c (len + 1)) c (l.flatMap Sp.cells) := HLn.out ▸ hst.own
      have HO : Hid _ := hown
      obtain ⟨e0, e1, e2⟩ := hst.box.cells
      clear hst hown hlt HK hk
      go_wp2_with (at_builtin; refine wpList_append_fits _ rfl (.tmp 66) (.tmp 68) 24 rfl (w2.heap.size + 1) 31 i0 3 Try.underlying24 HI0.out HZ1.out (w2.heap.size + 1) c (len + 1) (l.flatMap Sp.cells) rfl (World.ownsRow.alloc (Hid.out HO) _) ⟨wr.heap.size, 0, none⟩ 1 1 x.cells rfl rfl (news_at wr x) (Sp.cells_one _) (by omega) ?_)
      intro w3 hown3 hgrow
      have hst3 : St w2 len x (l ++ [x]) w3 := by
        have q := HLn.out
        exact St.grew (Hid.out HS) _ (by rw [q]; exact hown3) hgrow
      have HS3 : Hid _ := hst3
      clear hst3 hown3 hgrow HO e0 e1 e2 HS
      go_wp2_with fail
      go_loopg [11, 13] (len - c) (fun g v1 v2 wr => ∃ (j : Nat) (l : List Sp), c + j ≤ len ∧ g = len - c - j ∧ l.length = c + 1 + j ∧ l = (List.range c).map f ++ x :: (List.range j).map (fun i => f (c + i)) ∧ v1 = .slice (some ⟨w2.heap.size + 1, 0, none⟩) (c + 1 + j) (len + 1) ∧ v2 = .int .i64 ((c + j : Nat) : Int) ∧ St w2 len x l wr)
      case atStart => exact ⟨0, l ++ [x], by omega, rfl, by rw [List.length_append, HLn.out]; rfl, by rw [HLl.out]; rfl, rfl, rfl, HS3.out⟩
      case round =>
        clear HLn HLl HS3
        obtain ⟨j, l, hk, hgk, hlen, hl, rfl, rfl, hst⟩ := hrel
        have HK : Hid (gk = len - c - j) := hgk
        have HLn : Hid (l.length = c + 1 + j) := hlen
        have HLl : Hid _ := hl
        have HS : Hid _ := hst
        clear hgk hlen hl
        by_cases hlt : c + j < len
        · obtain ⟨b, off, rfl, hb, hcc⟩ := Hid.out HR (c + j) hlt
          obtain ⟨e0, e1, e2⟩ := cells3 (w := wr) (b := b) (o := off + (c + j) * 3) (t := f (c + j)) (fun i v hv => (hst.bel.cell (p := ⟨b, off + (c + j) * 3 + i, none⟩) hb).trans (hcc i v hv))
          have hown : wr.ownsRow (w2.heap.size + 1) 31 3 (.slice (some ⟨w2.heap.size + 1, 0, none⟩) (c + 1 + j) (len + 1)) (c + 1 + j) (l.flatMap Sp.cells) := HLn.out ▸ hst.own
          have HO : Hid _ := hown
          clear hcc hst hown
          go_wp2_with (at_builtin; refine wpList_append_fits _ rfl (.tmp 77) (.tmp 82) 24 rfl (w2.heap.size + 1) 31 i0 3 Try.underlying24 HI0.out HZ1.out (w2.heap.size + 1) (c + 1 + j) (len + 1) (l.flatMap Sp.cells) rfl (World.ownsRow.alloc (Hid.out HO) _) ⟨wr.heap.size, 0, none⟩ 1 1 (f (c + j)).cells rfl rfl (news_at wr (f (c + j))) (Sp.cells_one _) (by omega) ?_)
          intro w3 hown3 hgrow
          have hst3 : St w2 len x (l ++ [f (c + j)]) w3 := by
            have q := HLn.out
            exact St.grew (Hid.out HS) _ (by rw [q]; exact hown3) hgrow
          have HS3 : Hid _ := hst3
          clear hst3 hown3 hgrow HO e0 e1 e2
          go_wp2_with fail
          go_roundg (len - c - (j + 1))
          case rel => exact ⟨j + 1, l ++ [f (c + j)], by omega, rfl, by rw [List.length_append, HLn.out]; rfl, by rw [HLl.out, List.range_succ, List.map_append]; simp, rfl, by go_num, HS3.out⟩
          case measure => have := HK.out; omega
        · have e : j = len - c := by omega
          subst e
          have hL : l = ins f len c x := HLl.out
          subst hL
          clear HLl HK hlt hk
          go_wp2_with fail
          refine Calls.mono (find_any w2.heap.size wr hst.bel.size al len len f (Rows3.later (Hid.out HR) hst.bel) hm size s1 h1) ?_
          rintro e w4 ⟨o0, rfl, hF0, hb4⟩
          have hr2 : Rows3 wr.heap.size w4 (some ⟨w2.heap.size + 1, 0, none⟩) (c + 1 + (len - c)) (insF f c x) := HLn.out ▸ Own.rows (Own.later hst.own hb4 hst.own.lt) wr.heap.size hst.own.lt (insF f c x) (ins_at f len c x hc)
          have HR2 : Hid _ := hr2
          have HF0 : Hid _ := hF0
          have HB4 : Hid _ := hb4
          clear hr2 hF0 hb4 hst
          go_wp2_with fail
          refine Calls.mono (find_any wr.heap.size w4 HB4.out.size _ _ (len + 1) (insF f c x) HR2.out (by omega) size s1 h1) ?_
          rintro e w5 ⟨o1, rfl, hF1, hb5⟩
          have hb5 : Below wr.heap.size wr w5 := HB4.out.trans (hb5.mono HB4.out.size)
          have hF1 : Fst (fun i => sat size (insF f c x i)) (len + 1) o1 := by rwa [show c + 1 + (len - c) = len + 1 from by omega] at hF1
          obtain ⟨g1, g2, g3, g4⟩ := Fst.ins (q := sat size) hc (Hid.out HF0) hF1
          have r0 := Fst.range (Hid.out HF0)
          have HB5 : Hid (Below w2.heap.size w2 w5) := (Hid.out HS).bel.trans (hb5.mono (Hid.out HS).bel.size)
          have y5 : Boxed w5 w2.heap.size x := (Hid.out HS).box.later hb5 (Hid.out HS).box.1
          obtain ⟨e0, e1, e2⟩ := y5.cells
          have hz5 := y5.1
          obtain ⟨bx, hbx⟩ : ∃ b, b = sat size x := ⟨_, rfl⟩
          have hres := resolve_any w5 x size s1 h1
          rw [← hbx] at hres g2 g3 g4
          have HBX : Hid _ := hbx
          have HG : Hid ((0 ≤ o0 → o0 < c → o1 = o0) ∧ (¬ (0 ≤ o0 ∧ o0 < c) → bx = true → o1 = c) ∧ (¬ (0 ≤ o0 ∧ o0 < c) → bx = false → 0 ≤ o0 → o1 = o0 + 1) ∧ (¬ (0 ≤ o0 ∧ o0 < c) → bx = false → o0 < 0 → o1 = -1)) := ⟨g1, g2, g3, g4⟩
          have HRES : Hid _ := hres
          clear HB4 HR2 hb5 hF1 g1 g2 g3 g4 y5 hbx hres HS HLn
          go_wp2_with fail
          refine Calls.mono (Hid.out HRES) ?_
          rintro e w6 ⟨t0, t1, rfl, hb6⟩
          have hb6 : Below w2.heap.size w2 w6 := HB5.out.trans (hb6.mono HB5.out.size)
          have HB6 : Hid _ := hb6
          have x6 : Boxed w6 w.heap.size x := Boxed.later (Hid.out HX2) hb6 hz2
          obtain ⟨f0, f1, f2⟩ := x6.cells
          have hz6 := x6.1
          have hmod := fun W => model_any W x size
          rw [show sat size x = bx from HBX.out.symm] at hmod
          have HMOD : Hid _ := hmod
          have HX6 : Hid _ := x6
          clear hb6 HB5 e0 e1 e2 HRES HBX x6 hmod hz5
          by_cases k0 : 0 ≤ o0
          · obtain ⟨j, rfl, hj, hsj⟩ := Fst.named (Hid.out HF0) k0
            have HSJ : Hid (sat size (f j) = true) := hsj
            obtain ⟨b, off, rfl, hb, hcc⟩ := Hid.out HR j hj
            obtain ⟨c0, c1, c2⟩ := cells3 (w := w6) (b := b) (o := off + j * 3) (t := f j) (fun i v hv => ((Hid.out HB6).cell (p := ⟨b, off + j * 3 + i, none⟩) hb).trans (hcc i v hv))
            have hzb : b < w6.heap.size := Nat.lt_of_lt_of_le hb HB6.out.size
            clear hcc hsj HF0
            go_upto_if 122 with (go_at_call 10; refine Calls.mono (resolve_any _ (f j) size s1 h1) ?_; rintro e w7 ⟨u0, u1, rfl, hb7⟩; rw [show sat size (f j) = true from Hid.out HSJ])
            have hb7' : Below w6.heap.size w6 w7 := ((Below.refl _ _).alloc (Nat.le_refl _) _).trans (hb7.mono (by simp))
            have x7 : Boxed w7 w.heap.size x := Boxed.later (Hid.out HX6) hb7' hz6
            have hw7 : Below w.heap.size w w7 := (HB2.out.trans (HB6.out.mono HB2.out.size)).trans (hb7'.mono (HB2.out.trans (HB6.out.mono HB2.out.size)).size)
            have HBz : Hid (Below w.heap.size w (w7.alloc (.cells #[.int .i64 u0, .int .i64 u1] 33))) := hw7.alloc hw7.size _
            obtain ⟨q0, q1, q2⟩ := x7.cells
            have hz7 := x7.1
            obtain ⟨g1, g2, g3, g4⟩ := Hid.out HG
            clear hb7 hb7' x7 hw7 f0 f1 f2 hz6 c0 c1 c2 HX6 HB6 HG HSJ HR hzb
            by_cases m1 : j < c
            · have ho := g1 (by omega) (by omega)
              subst ho
              clear g1 g2 g3 g4
              go_wp2_with fail
              refine Calls.mono (Hid.out HMOD _) ?_
              rintro e w8 ⟨rfl, hb8⟩
              go_wp2_with fail
              go_ret
              exact ⟨rfl, HBz.out.trans (hb8.mono HBz.out.size)⟩
            · cases bx with
              | true =>
                have ho := g2 (by omega) rfl
                subst ho
                clear g1 g2 g3 g4
                go_wp2_with fail
                refine Calls.mono (Hid.out HMOD _) ?_
                rintro e w8 ⟨rfl, hb8⟩
                go_wp2_with fail
                go_ret
                exact ⟨rfl, HBz.out.trans (hb8.mono HBz.out.size)⟩
              | false =>
                have ho := g3 (by omega) rfl (by omega)
                subst ho
                clear g1 g2 g3 g4
                go_wp2_with fail
                refine Calls.mono (Hid.out HMOD _) ?_
                rintro e w8 ⟨rfl, hb8⟩
                go_wp2_with fail
                go_ret
                exact ⟨rfl, HBz.out.trans (hb8.mono HBz.out.size)⟩
          · have hk : o0 = -1 := by omega
            subst hk
            have hw6 : Below w.heap.size w w6 := HB2.out.trans (HB6.out.mono HB2.out.size)
            have HBz : Hid (Below w.heap.size w (w6.alloc (.cells #[.int .i64 t0, .int .i64 t1] 33))) := hw6.alloc hw6.size _
            obtain ⟨g1, g2, g3, g4⟩ := Hid.out HG
            clear hw6 HX6 HB6 HG HR HF0 k0
            cases bx with
            | true =>
              have ho := g2 (by omega) rfl
              subst ho
              clear g1 g2 g3 g4
              go_wp2_with fail
              refine Calls.mono (Hid.out HMOD _) ?_
              rintro e w8 ⟨rfl, hb8⟩
              go_wp2_with fail
              go_ret
              exact ⟨rfl, HBz.out.trans (hb8.mono HBz.out.size)⟩
            | false =>
              have ho := g4 (by omega) rfl (by omega)
              subst ho
              clear g1 g2 g3 g4
              go_wp2_with fail
              refine Calls.mono (Hid.out HMOD _) ?_
              rintro e w8 ⟨rfl, hb8⟩
              go_wp2_with fail
              go_ret
              exact ⟨rfl, HBz.out.trans (hb8.mono HBz.out.size)⟩
end Go.Proofs.Qxb6629989a
