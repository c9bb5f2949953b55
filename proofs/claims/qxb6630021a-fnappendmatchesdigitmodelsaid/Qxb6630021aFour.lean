import Derived.Test.Qxb6630021aRead
namespace Go.Proofs.Qxb6630021a
open Go.RowKit
set_option linter.unusedVariables false

/-- Ends in true; nothing old has turned. -/
def TrueEnd (w : World) (e : Ending) (w' : World) : Prop := e = .returned (.bool true) ∧ Below w.heap.size w w'
/-- It answers a bool, and nothing has turned. -/
def BoolEnd (w : World) (e : Ending) (w' : World) : Prop := ∃ b, e = .returned (.bool b) ∧ w' = w

theorem bytes10_any (w : World) (a : Int) (ao : Option Addr) (len cap : Nat) : Calls Try.prog 10 #[.int .i64 a, .slice ao len cap] w (BoolEnd w) := by
  go_enter Try.func10, Try.ntmps10
  go_wp2
  all_goals go_ret
  all_goals exact ⟨_, rfl, rfl⟩
theorem bytes5_any (w : World) (a : Int) (ao : Option Addr) (len cap : Nat) : Calls Try.prog 5 #[.int .i64 a, .slice ao len cap] w (BoolEnd w) := by
  go_enter Try.func5, Try.ntmps5
  go_wp2
  all_goals go_ret
  all_goals exact ⟨_, rfl, rfl⟩

theorem below_drewN {B : Nat} {a w : World} (h : Below B a w) (n : Nat) : Below B a (w.drewN n) := h.trans ⟨rfl, rfl, rfl, Nat.le_refl _, fun _ _ => rfl⟩
theorem Bs.grown {B : Nat} {w w' : World} {a : Option Addr} {n cap : Nat} {l : List Int} {row : Option Nat} (h : Bs B w a n cap l) (hg : w.grownBy w' row) (hB : B ≤ w.heap.size) (hr : ∀ g, a = some ⟨g, 0, none⟩ → some g ≠ row) (ha : a = none ∨ ∃ g, a = some ⟨g, 0, none⟩) : Bs B w' a n cap l :=
  ⟨h.hlen, h.hnil, fun i hi => by
    obtain ⟨b, off, e, hlt, hc⟩ := h.at_ i hi
    refine ⟨b, off, e, hlt, ?_⟩
    rcases ha with rfl | ⟨g, rfl⟩
    · cases e
    · simp at e
      obtain ⟨rfl, rfl⟩ := e
      exact (World.cell?_of_block (w := w) (a := ⟨g, 0 + i, none⟩) (hg.block g (by omega) (hr g rfl))).trans hc⟩

/-- The four slices at once, behind the two calls of Append. -/
structure Four (w : World) (a : Int) (l : List Int) (len : Nat) (a2 : Option Addr) (c2 : Nat) (g3 : Nat) (c3 : Nat) (a4 : Option Addr) (c4 : Nat) (w4 : World) : Prop where
  bel : Below w.heap.size w w4
  keep : Bs w4.heap.size w4 a2 len c2 l
  txt : Bs w4.heap.size w4 (some ⟨g3, 0, none⟩) (text a).length c3 (text a)
  got : Bs w4.heap.size w4 a4 (len + (text a).length) c4 (l ++ text a)
theorem Four.drewN {w : World} {a : Int} {l : List Int} {len : Nat} {a2 : Option Addr} {c2 g3 c3 : Nat} {a4 : Option Addr} {c4 : Nat} {w4 : World} (h : Four w a l len a2 c2 g3 c3 a4 c4 w4) (n : Nat) : Four w a l len a2 c2 g3 c3 a4 c4 (w4.drewN n) :=
  ⟨below_drewN h.bel n, h.keep.later (below_drewN (Below.refl _ _) n), h.txt.later (below_drewN (Below.refl _ _) n), h.got.later (below_drewN (Below.refl _ _) n)⟩

theorem getD_left {l m : List Int} {i : Nat} (h : i < l.length) : (l ++ m).getD i 0 = l.getD i 0 := by
  rw [List.getD_eq_getElem?_getD, List.getD_eq_getElem?_getD, List.getElem?_append_left h]
theorem getD_right {l m : List Int} {i : Nat} : (l ++ m).getD (l.length + i) 0 = m.getD i 0 := by
  rw [List.getD_eq_getElem?_getD, List.getD_eq_getElem?_getD, List.getElem?_append_right (by omega), show l.length + i - l.length = i from by omega]

/-- readAmountText on what Append wrote. -/
theorem read_text (w : World) (g n cap : Nat) (a : Int) (h0 : -9223372036854775808 ≤ a) (h1 : a ≤ 9223372036854775807) (h : Bs w.heap.size w (some ⟨g, 0, none⟩) n cap (text a)) (hcap : n ≤ cap) :
    Calls Try.prog 11 #[.slice (some ⟨g, 0, none⟩) n cap] w (ReadEnd a w) := by
  have hY : a.natAbs / 100 < 10 ^ 17 := by omega
  have hlen := dgs_length hY
  obtain ⟨p1, p2, p3, p4, p5, p6⟩ := text_parts a _ rfl _ rfl
  have hcell : ∀ i, i < n → w.cell? ⟨g, 0 + i, none⟩ = some (.int .u8 ((text a).getD i 0)) := fun i hi => by
    obtain ⟨b, off, e, _, hc⟩ := h.at_ i hi
    simp at e
    obtain ⟨rfl, rfl⟩ := e
    exact hc
  have hn : n = (sg a).length + (dgs (a.natAbs / 100)).length + 3 := by rw [← h.hlen, p1]
  refine read_any w g 0 n cap (sg a).length (dgs (a.natAbs / 100)).length a (a.natAbs / 100) 0 _ _ (dgs (a.natAbs / 100)) rfl h0 h1 ?_ (by omega) hn hcap (fun x hx => dgs_digit x hx) (dgs_worth (by omega)) rfl ?_ ?_ ?_ ?_ ?_ rfl rfl
  · by_cases ha : a < 0
    · refine .inl ⟨ha, by rw [show sg a = [45] from if_pos ha]; rfl, ?_⟩
      have := hcell 0 (by omega)
      rw [p2 ha] at this
      exact this
    · exact .inr ⟨by omega, by rw [show sg a = [] from if_neg ha]; rfl⟩
  · intro hd
    have := dgs_head (n := a.natAbs / 100) (by omega) hd ((dgs (a.natAbs / 100)).getD 0 0) (by rw [List.getD_eq_getElem?_getD, List.getElem?_eq_getElem (by omega)]; rfl)
    exact this
  · intro k hk
    rw [← p3 k hk]
    exact hcell _ (by omega)
  · rw [← p4]; exact hcell _ (by omega)
  · rw [← p5]; exact hcell _ (by omega)
  · rw [← p6]; exact hcell _ (by omega)
end Go.Proofs.Qxb6630021a
