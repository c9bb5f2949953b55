import Derived.Test.Qxb6630021aAid
namespace Go.Proofs.Qxb6630021a
open Go.RowKit
set_option linter.unusedVariables false

/-- A slice of bytes: it holds the list l; where there is an element it lies below block B. -/
structure Bs (B : Nat) (w : World) (a : Option Addr) (len cap : Nat) (l : List Int) : Prop where
  hlen : l.length = len
  hnil : a = none → len = 0 ∧ cap = 0
  at_ : ∀ i, i < len → ∃ b off, a = some ⟨b, off, none⟩ ∧ b < B ∧ w.cell? ⟨b, off + i, none⟩ = some (.int .u8 (l.getD i 0))
theorem Bs.later {B : Nat} {w w' : World} {a : Option Addr} {len cap : Nat} {l : List Int} (h : Bs B w a len cap l) (hb : Below B w w') : Bs B w' a len cap l :=
  ⟨h.hlen, h.hnil, fun i hi => by
    obtain ⟨b, off, e, hlt, hc⟩ := h.at_ i hi
    exact ⟨b, off, e, hlt, (hb.cell (p := ⟨b, off + i, none⟩) hlt).trans hc⟩⟩
theorem Bs.more {B B' : Nat} {w : World} {a : Option Addr} {len cap : Nat} {l : List Int} (h : Bs B w a len cap l) (hB : B ≤ B') : Bs B' w a len cap l :=
  ⟨h.hlen, h.hnil, fun i hi => by
    obtain ⟨b, off, e, hlt, hc⟩ := h.at_ i hi
    exact ⟨b, off, e, by omega, hc⟩⟩

theorem vals_at (l : List Int) (i : Nat) (h : i < l.length) : (vals l)[i]? = some (.int .u8 (l.getD i 0)) := by
  simp [vals, List.getD, List.getElem?_eq_getElem h]

/-- What is owned is such a slice. -/
theorem owned_bs {w : World} {base : Nat} {v : Value} {n : Nat} {l : List Int} (h : w.ownsRow base 5 1 v n (vals l)) :
    ∃ a cap, v = .slice a n cap ∧ (a = none ∨ ∃ g, a = some ⟨g, 0, none⟩ ∧ v.ownBlock = some g ∧ base ≤ g) ∧ n ≤ cap ∧ cap ≤ maxLen ∧ Bs w.heap.size w a n cap l := by
  have hl : l.length = n := by have := h.1; rw [vals_length] at this; omega
  rcases h.2 with ⟨rfl, rfl⟩ | ⟨g, cap, cur, rfl, hg, hh, hnc, hcm, _, _⟩
  · exact ⟨none, 0, rfl, .inl rfl, Nat.le_refl _, Nat.zero_le _, hl, fun _ => ⟨rfl, rfl⟩, fun i hi => absurd hi (Nat.not_lt_zero _)⟩
  · refine ⟨_, cap, rfl, .inr ⟨g, rfl, rfl, hg⟩, hnc, hcm, hl, (by intro e; cases e), fun i hi => ⟨g, 0, rfl, (World.ownsRow.lt h g rfl).2, ?_⟩⟩
    rw [Nat.zero_add, World.ownsRow.cellAt h i (by omega), vals_at l i (by omega)]

/-- 'make([]byte, l, n)'. -/
theorem make_run (l n : Nat) (hl : l ≤ n) (hn : n ≤ 2097152) : ∃ C : Array Value, C.size = n ∧ ∀ W : World,
    (Instr.makeSlice 22 (.int .i64 (l : Int)) (.int .i64 (n : Int))).run Try.prog W = .ok (.slice (some ⟨W.heap.size, 0, none⟩) l n) (W.alloc (.cells C 5)) := by
  obtain ⟨i, hi, hz, hs, hb⟩ := info_parts info5
  refine ⟨madeCells (Value.int .u8 0).cells (n * 1), by rw [size_madeCells]; omega, fun W => ?_⟩
  have := run_make (P := Try.prog) W 22 5 i _ Try.underlying22 hi hz .i64 .i64 l n (by omega) (by omega) (by rw [hb]; omega) (by omega)
  simp only [Int.toNat_natCast, hs] at this
  exact this

/-- Ends in a slice that holds l and lies in a new block (or is nil); nothing old has turned. -/
def CloneEnd (l : List Int) (w : World) (e : Ending) (w' : World) : Prop :=
  ∃ v, e = .returned v ∧ w'.ownsRow w.heap.size 5 1 v l.length (vals l) ∧ Below w.heap.size w w'

theorem eq_vals {l : List Int} {xs : List Value} (hx : xs.length = l.length) (h : ∀ j, j < l.length → xs[j]? = some (.int .u8 (l.getD j 0))) : xs = vals l := by
  apply List.ext_getElem?
  intro j
  by_cases hj : j < l.length
  · rw [h j hj, vals_at l j hj]
  · rw [List.getElem?_eq_none (by omega), List.getElem?_eq_none (by rw [vals_length]; omega)]

set_option maxHeartbeats 2000000 in
theorem clone_any (B : Nat) (w : World) (hB : B ≤ w.heap.size) (a : Option Addr) (len cap : Nat) (l : List Int) (h : Bs B w a len cap l) (hl : len ≤ 1048576) : Calls Try.prog 6 #[.slice a len cap] w (CloneEnd l w) := by
  have q : ∀ (w : World) (a : Option Addr) (n c : Nat), (binOp .eql 22 (.slice a n c) (.slice none 0 0)).run Try.prog w = .ok (.bool a.isNone) w := fun w a n c => Lib.run_eql_slice_nil w _ _ a n c 0 0 Try.underlying22
  cases a with
  | none =>
    obtain ⟨rfl, rfl⟩ := h.hnil rfl
    have e : l = [] := List.length_eq_zero_iff.1 h.hlen
    subst e
    clear h
    go_enter Try.func6, Try.ntmps6
    go_wp2
    go_ret
    exact ⟨_, rfl, World.ownsRow_nil _ _ _ _, Below.refl _ _⟩
  | some ad =>
    obtain ⟨C, hC, hmk⟩ := make_run len len (Nat.le_refl _) (by omega)
    have HC : Hid _ := hC
    have HL : Hid _ := h.hlen
    have HA : Hid _ := h.at_
    have hm : len ≤ 9223372036854775807 := by omega
    clear hC h hl
    go_enter Try.func6, Try.ntmps6
    go_wp2
    clear hmk q
    go_loopg [4] len (fun g v wr => ∃ (k : Nat) (xs : List Value), k ≤ len ∧ g = len - k ∧ v = .int .i64 k ∧ Below w.heap.size w wr ∧ wr.ownsRow w.heap.size 5 1 (.slice (some ⟨w.heap.size, 0, none⟩) len len) len xs ∧ ∀ j, j < k → xs[j]? = some (.int .u8 (l.getD j 0)))
    case atStart =>
      refine ⟨0, C.toList, Nat.zero_le _, rfl, rfl, (Below.refl _ _).alloc (Nat.le_refl _) _, ⟨by simp [HC.out], .inr ⟨w.heap.size, len, C, rfl, Nat.le_refl _, heap_alloc_new w _, Nat.le_refl _, by unfold maxLen; omega, by rw [HC.out]; omega, ?_⟩⟩, fun i hi => absurd hi (Nat.not_lt_zero _)⟩
      rw [List.take_of_length_le (by simp [HC.out])]
    case round =>
      obtain ⟨k, xs, hk, hgk, rfl, hbel, hown, hxs⟩ := hrel
      have HK : Hid (gk = len - k) := hgk
      have HBl : Hid _ := hbel
      have HO : Hid _ := hown
      have HX : Hid _ := hxs
      clear hgk hxs
      by_cases hlt : k < len
      · obtain ⟨b, off, had, hb, hc⟩ := Hid.out HA k hlt
        simp only [Option.some.injEq] at had
        subst had
        have c0 : wr.cell? ⟨b, off + k, none⟩ = some (.int .u8 (l.getD k 0)) := (hbel.cell (p := ⟨b, off + k, none⟩) (by show b < _; omega)).trans hc
        obtain ⟨z, hz⟩ : ∃ z, wr.cell? ⟨w.heap.size, k, none⟩ = some z := by
          rw [World.ownsRow.cellAt hown k (by omega)]
          exact ⟨_, List.getElem?_eq_getElem (by have := hown.1; omega)⟩
        have hfz := World.ownsRow.frozenAt hown k
        clear hc hbel hown
        obtain ⟨x, hx⟩ : ∃ x, x = l.getD k 0 := ⟨_, rfl⟩
        rw [← hx] at c0
        have HXX : Hid _ := hx
        clear hx
        go_wp2
        go_roundg (len - (k + 1))
        case rel =>
          refine ⟨k + 1, xs.set k (.int .u8 x), by omega, rfl, by go_num, HBl.out.setCell (Nat.le_refl _) _, (World.ownsRow.stored (Hid.out HO) k _).1, fun j hj => ?_⟩
          by_cases e : j = k
          · subst e
            rw [List.getElem?_set_self (by have := (Hid.out HO).1; omega), HXX.out]
          · rw [List.getElem?_set_ne (by omega)]
            exact Hid.out HX j (by omega)
        case measure => have := HK.out; omega
      · go_wp2
        go_ret
        have e : k = len := by omega
        subst e
        have ev : xs = vals l := eq_vals (by have := (Hid.out HO).1; have := HL.out; omega) (fun j hj => Hid.out HX j (by have := HL.out; omega))
        subst ev
        exact ⟨_, rfl, by rw [HL.out]; exact HO.out, HBl.out⟩
end Go.Proofs.Qxb6630021a
