import Derived.Test.Qxb6630021aRows
import Derived.Test.Qxb6630021aNum
import Derived.WalkKit
import Derived.ProofKit
import Derived.Below
import Derived.WalkSpells
import Derived.WalkLawsBesides
import Derived.Outline
import Derived.BigQuiet
import Derived.Deep.QuietTactic
import Derived.Deep.DeepCutAuto
import Derived.Deep.LoopGhost
import Derived.Deep.MidRow
import Derived.Deep.RegionHeld3
import Derived.Deep.DrawnRows
import Derived.Maps.AppendAt
namespace Go.Proofs.Qxb6630021a
open Go.RowKit
set_option linter.unusedVariables false

theorem info5 : (Try.prog.info? 5).map (fun i => (i.zero, i.size, i.bytes)) = some (some (.int .u8 0), 1, 1) := by kernel_rfl
/-- Bytes as values. -/
def vals (l : List Int) : List Value := l.map (Value.int .u8)
theorem vals_append (l m : List Int) : vals (l ++ m) = vals l ++ vals m := by simp [vals]
theorem vals_length (l : List Int) : (vals l).length = l.length := by simp [vals]
theorem vals_one (l : List Int) : ∀ u ∈ vals l, u.oneCell' = true := by
  intro u hu
  obtain ⟨n, _, rfl⟩ := List.mem_map.1 hu
  rfl

/-- What Append leaves: the text behind what was owned; of old memory the one row alone may be written. -/
def AppendEnd (base : Nat) (v : Value) (n : Nat) (l : List Int) (a : Int) (w : World) (e : Ending) (w' : World) : Prop :=
  ∃ v', e = .returned v' ∧ w'.ownsRow base 5 1 v' (n + (text a).length) (vals (l ++ text a)) ∧ w.grownBy w' v.ownBlock

/-- The block g is an array of twenty bytes; from place i on it holds l. -/
structure Txt (g i : Nat) (l : List Int) (w : World) : Prop where
  lt : g < w.heap.size
  room : w.there g 0 20
  len : i + l.length = 20
  at_ : w.rangeAt g i (vals l)
theorem Txt.made (w : World) (C : Array Value) (i : Nat) (l : List Int) (hC : C.size = 20) (hl : i + l.length = 20) (h : ∀ j v, (vals l)[j]? = some v → C[i + j]? = some v) : Txt w.heap.size i l (w.alloc (.cells C 30)) := by
  have hh := heap_alloc_new w (.cells C 30)
  refine ⟨by simp, fun j hj => ?_, hl, fun j v hv => ?_⟩
  · constructor
    · rw [cell_of_row _ _ _ _ _ _ hh, Nat.zero_add, Array.getElem?_eq_getElem (show j < C.size by omega)]
      rfl
    · show (match (w.alloc (.cells C 30)).heap[w.heap.size]? with | some (.cells _ _ (lo, hi)) => decide (lo ≤ 0 + j) && decide (0 + j < hi) | _ => false) = false
      rw [hh]
      simp
  · rw [cell_of_row _ _ _ _ _ _ hh]
    exact h j v hv
theorem Txt.drew {g i : Nat} {l : List Int} {w : World} (h : Txt g i l w) : Txt g i l w.drew := ⟨h.lt, h.room, h.len, h.at_⟩
theorem Txt.there1 {g i : Nat} {l : List Int} {w : World} (h : Txt g i l w) {j : Nat} (hj : j < 20) : (∃ z, w.cell? ⟨g, j, none⟩ = some z) ∧ w.frozen? ⟨g, j, none⟩ = false := by
  have := h.room j hj
  rw [Nat.zero_add] at this
  exact ⟨Option.isSome_iff_exists.1 this.1, this.2⟩
theorem Txt.one {g i : Nat} {l : List Int} {w : World} (h : Txt g (i + 1) l w) (c : Int) : Txt g i (c :: l) (w.setCell ⟨g, i, none⟩ (.int .u8 c)) := by
  have hi : i < 20 := by have := h.len; omega
  obtain ⟨⟨z, hz⟩, _⟩ := h.there1 hi
  refine ⟨by simpa [World.setCell] using h.lt, fun j hj => ?_, by have := h.len; simp; omega, fun j v hv => ?_⟩
  · have q := h.room j hj
    refine ⟨?_, ?_⟩
    · obtain ⟨y, hy⟩ := Option.isSome_iff_exists.1 q.1
      by_cases e : 0 + j = i
      · rw [e, World.cell?_setCell_same _ _ _ hz]; rfl
      · rw [World.cell?_setCell_other _ _ _ _ (fun hh => e (congrArg Addr.off hh).symm)]; exact q.1
    · have := World.frozen?_setCells g [.int .u8 c] i w ⟨g, 0 + j, none⟩
      exact this.trans q.2
  · cases j with
    | zero =>
      simp [vals] at hv
      subst hv
      rw [Nat.add_zero, World.cell?_setCell_same _ _ _ hz]
    | succ j =>
      rw [World.cell?_setCell_other _ _ _ _ (by intro hh; simp at hh)]
      have := h.at_ j v (by simpa [vals] using hv)
      rw [show i + 1 + j = i + (j + 1) from by omega] at this
      exact this
theorem Txt.two {g i : Nat} {l : List Int} {w : World} (h : Txt g (i + 2) l w) (c d : Int) : Txt g i (c :: d :: l) ((w.setCell ⟨g, i, none⟩ (.int .u8 c)).setCell ⟨g, i + 1, none⟩ (.int .u8 d)) := by
  have hl := h.len
  have e : (w.setCell ⟨g, i, none⟩ (.int .u8 c)).setCell ⟨g, i + 1, none⟩ (.int .u8 d) = w.setCells g i [.int .u8 c, .int .u8 d] := rfl
  rw [e]
  have ht : w.there g i 2 := fun j hj => by
    have := h.room (i + j) (by omega)
    rwa [Nat.zero_add] at this
  refine ⟨by simpa [World.setCells, World.setCell] using h.lt, World.there_setCells h.room _ _ _, by simp; omega, fun j v hv => ?_⟩
  match j, hv with
  | 0, hv => exact World.rangeAt_setCells_same _ _ _ _ ht 0 v hv
  | 1, hv => exact World.rangeAt_setCells_same _ _ _ _ ht 1 v hv
  | j + 2, hv =>
    have := World.rangeAt_setCells_apart h.at_ g i [.int .u8 c, .int .u8 d] (.inr (.inr (by simp))) j v (by simpa [vals] using hv)
    rwa [show i + 2 + j = i + (j + 2) from by omega] at this
theorem Txt.later {g i B : Nat} {l : List Int} {w w' : World} (h : Txt g i l w) (hb : Below B w w') (hB : g < B) : Txt g i l w' := by
  refine ⟨Nat.lt_of_lt_of_le h.lt hb.size, fun j hj => ?_, h.len, fun j v hv => ?_⟩
  · rw [hb.cell (p := ⟨g, 0 + j, none⟩) hB, hb.frozen (p := ⟨g, 0 + j, none⟩) hB]
    exact h.room j hj
  · rw [hb.cell (p := ⟨g, i + j, none⟩) hB]
    exact h.at_ j v hv

theorem ownsRow_below {B base n : Nat} {v : Value} {xs : List Value} {w w' : World} (h : w.ownsRow base 5 1 v n xs) (hb : Below B w w') (hB : ∀ k, v.ownBlock = some k → k < B) : w'.ownsRow base 5 1 v n xs := by
  obtain ⟨h1, h2⟩ := h
  refine ⟨h1, ?_⟩
  rcases h2 with h2 | ⟨g, cap, cur, hv, hg, hh, r⟩
  · exact .inl h2
  · exact .inr ⟨g, cap, cur, hv, hg, (hb.block g (hB g (by rw [hv]; rfl))).trans hh, r⟩
end Go.Proofs.Qxb6630021a
