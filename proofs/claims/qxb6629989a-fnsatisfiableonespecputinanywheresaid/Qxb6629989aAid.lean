import Derived.Test.Qxb6629989aRows
import Derived.WalkKit
import Derived.ProofKit
import Derived.Below
import Derived.WalkSpells
import Derived.WalkLawsBesides
import Derived.Outline
import Derived.BigQuiet
import Derived.Deep.QuietTactic
import Derived.Deep.DeepCutAuto
import Derived.Deep.LoopGhost
import Derived.Deep.MidRow
import Derived.Deep.RegionHeld3
import Derived.Deep.DrawnRows
namespace Go.Proofs.Qxb6629989a
open Go.RowKit
set_option linter.unusedVariables false

/-- A range-spec: its three cells. -/
structure Sp where
  a : Int
  b : Int
  c : Int
def Sp.cells (t : Sp) : List Value := [.int .i64 t.a, .int .i64 t.b, .int .i64 t.c]

/-- A slice of specs: element j's three cells. -/
def Rows3 (B : Nat) (w : World) (a : Option Addr) (len : Nat) (f : Nat → Sp) : Prop :=
  ∀ i, i < len → ∃ b off, a = some ⟨b, off, none⟩ ∧ b < B ∧ ∀ j v, (f i).cells[j]? = some v → w.cell? ⟨b, off + i * 3 + j, none⟩ = some v

theorem Rows3.later {B : Nat} {w w' : World} {a : Option Addr} {len : Nat} {f : Nat → Sp} (h : Rows3 B w a len f) (hb : Below B w w') : Rows3 B w' a len f := fun i hi => by
  obtain ⟨b, off, ha, hlt, hc⟩ := h i hi
  exact ⟨b, off, ha, hlt, fun j v hv => (hb.cell (p := ⟨b, off + i * 3 + j, none⟩) hlt).trans (hc j v hv)⟩

theorem Rows3.more {B B' : Nat} {w : World} {a : Option Addr} {len : Nat} {f : Nat → Sp} (h : Rows3 B w a len f) (hB : B ≤ B') : Rows3 B' w a len f := fun i hi => by
  obtain ⟨b, off, ha, hlt, hc⟩ := h i hi
  exact ⟨b, off, ha, by omega, hc⟩

theorem cells3 {w : World} {b o : Nat} {t : Sp} (h : ∀ j v, t.cells[j]? = some v → w.cell? ⟨b, o + j, none⟩ = some v) :
    w.cell? ⟨b, o, none⟩ = some (.int .i64 t.a) ∧ w.cell? ⟨b, o + 1, none⟩ = some (.int .i64 t.b) ∧ w.cell? ⟨b, o + 2, none⟩ = some (.int .i64 t.c) :=
  ⟨h 0 _ rfl, h 1 _ rfl, h 2 _ rfl⟩

/-- Is the spec satisfiable in a file of that many bytes? -/
def sat (size : Int) (t : Sp) : Bool := if 0 ≤ t.a then decide (t.a < size) else (t.c != 0 && decide (0 < size))

/-- The first place at which p holds: -1, or a place below k. -/
def Fst (p : Nat → Bool) (k : Nat) (o : Int) : Prop := (o = -1 ∧ ∀ i, i < k → p i = false) ∨ ∃ j : Nat, o = j ∧ j < k ∧ p j = true ∧ ∀ i, i < j → p i = false
theorem Fst.hit {p : Nat → Bool} {k : Nat} {o : Int} (h : Fst p k o) {j : Nat} (hj : j < k) (hx : p j = true) (hl : ∀ i, i < j → p i = false) : o = j := by
  rcases h with ⟨rfl, h⟩ | ⟨i, rfl, hi, hix, hil⟩
  · rw [h j hj] at hx; cases hx
  · rcases Nat.lt_trichotomy i j with h | h | h
    · rw [hl i h] at hix; cases hix
    · rw [h]
    · rw [hil j h] at hx; cases hx
theorem Fst.miss {p : Nat → Bool} {k : Nat} {o : Int} (h : Fst p k o) (hl : ∀ i, i < k → p i = false) : o = -1 := by
  rcases h with ⟨rfl, h⟩ | ⟨i, rfl, hi, hix, hil⟩
  · rfl
  · rw [hl i hi] at hix; cases hix
theorem Fst.range {p : Nat → Bool} {k : Nat} {o : Int} (h : Fst p k o) : -1 ≤ o ∧ o < k := by
  rcases h with ⟨rfl, h⟩ | ⟨i, rfl, hi, _⟩ <;> omega
theorem Fst.uniq {p : Nat → Bool} {k : Nat} {o o' : Int} (h : Fst p k o) (h' : Fst p k o') : o = o' := by
  rcases h with ⟨rfl, h⟩ | ⟨i, rfl, hi, hix, hil⟩
  · exact (h'.miss h).symm
  · exact (h'.hit hi hix hil).symm
/-- At a cut: the first part's answer, else the cut and the second part's. -/
theorem Fst.cut {p : Nat → Bool} {n c : Nat} (hc : c ≤ n) {ow oh ot : Int} (hw : Fst p n ow) (hh : Fst p c oh) (ht : Fst (fun i => p (c + i)) (n - c) ot) :
    (0 ≤ oh → ow = oh) ∧ (oh < 0 → 0 ≤ ot → ow = c + ot) ∧ (oh < 0 → ot < 0 → ow = -1) := by
  rcases hh with ⟨rfl, hh⟩ | ⟨i, rfl, hi, hix, hil⟩
  · refine ⟨fun h => by omega, fun _ h0 => ?_, fun _ h0 => ?_⟩
    · rcases ht with ⟨rfl, ht⟩ | ⟨i, rfl, hi, hix, hil⟩
      · omega
      · have := hw.hit (j := c + i) (by omega) hix (fun l hl => by
          rcases Nat.lt_or_ge l c with h | h
          · exact hh l h
          · have : p (c + (l - c)) = false := hil (l - c) (by omega)
            rwa [show c + (l - c) = l from by omega] at this)
        omega
    · rcases ht with ⟨rfl, ht⟩ | ⟨i, rfl, hi, hix, hil⟩
      · exact hw.miss (fun l hl => by
          rcases Nat.lt_or_ge l c with h | h
          · exact hh l h
          · have : p (c + (l - c)) = false := ht (l - c) (by omega)
            rwa [show c + (l - c) = l from by omega] at this)
      · omega
  · refine ⟨fun _ => hw.hit (by omega) hix hil, fun h => by omega, fun h => by omega⟩

/-! ### Memory: a block of specs -/
/-- The block g holds n specs, the first k of them f 0, f 1, ..; it may be written. -/
structure Filled (g n k : Nat) (f : Nat → Sp) (w : World) : Prop where
  lt : g < w.heap.size
  room : w.there g 0 (n * 3)
  at_ : ∀ i, i < k → w.rangeAt g (i * 3) (f i).cells

theorem Filled.made (w : World) (C : Array Value) (n : Nat) (f : Nat → Sp) (hC : C.size = n * 3) : Filled w.heap.size n 0 f (w.alloc (.cells C 31)) := by
  refine ⟨by simp, fun j hj => ?_, fun i hi => absurd hi (Nat.not_lt_zero _)⟩
  have h := heap_alloc_new w (.cells C 31)
  constructor
  · rw [cell_of_row _ _ _ _ _ _ h, Nat.zero_add, Array.getElem?_eq_getElem (show j < C.size by omega)]
    rfl
  · show (match (w.alloc (.cells C 31)).heap[w.heap.size]? with | some (.cells _ _ (lo, hi)) => decide (lo ≤ 0 + j) && decide (0 + j < hi) | _ => false) = false
    rw [h]
    simp

theorem Filled.later {g n k : Nat} {f : Nat → Sp} {w w' : World} {B : Nat} (h : Filled g n k f w) (hb : Below B w w') (hB : g < B) : Filled g n k f w' := by
  refine ⟨Nat.lt_of_lt_of_le h.lt hb.size, fun j hj => ?_, fun i hi j v hv => ?_⟩
  · rw [hb.cell (p := ⟨g, 0 + j, none⟩) hB, hb.frozen (p := ⟨g, 0 + j, none⟩) hB]
    exact h.room j hj
  · rw [hb.cell (p := ⟨g, i * 3 + j, none⟩) hB]
    exact h.at_ i hi j v hv

theorem Sp.cells_length (t : Sp) : t.cells.length = 3 := rfl
theorem Sp.cells_one (t : Sp) : ∀ v ∈ t.cells, v.oneCell' = true := by
  intro v hv
  simp only [Sp.cells, List.mem_cons, List.not_mem_nil, or_false] at hv
  rcases hv with rfl | rfl | rfl <;> rfl

theorem setCells_size (b : Nat) : ∀ (vs : List Value) (o : Nat) (w : World), (w.setCells b o vs).heap.size = w.heap.size
  | [], _, _ => rfl
  | v :: r, o, w => by rw [World.setCells, setCells_size b r]; simp [World.setCell]

theorem Filled.there3 {g n k : Nat} {f : Nat → Sp} {w : World} (h : Filled g n k f w) {j : Nat} (hj : j < n) : w.there g (j * 3) 3 := fun i hi => by
  have := h.room (j * 3 + i) (by omega)
  simpa using this

theorem there_cells3 {w : World} {g o : Nat} (h : w.there g o 3) :
    (∃ z0 z1 z2, w.cell? ⟨g, o, none⟩ = some z0 ∧ w.cell? ⟨g, o + 1, none⟩ = some z1 ∧ w.cell? ⟨g, o + 2, none⟩ = some z2) ∧
    w.frozen? ⟨g, o, none⟩ = false ∧ w.frozen? ⟨g, o + 1, none⟩ = false ∧ w.frozen? ⟨g, o + 2, none⟩ = false := by
  obtain ⟨z0, h0⟩ := Option.isSome_iff_exists.1 (h 0 (by omega)).1
  obtain ⟨z1, h1⟩ := Option.isSome_iff_exists.1 (h 1 (by omega)).1
  obtain ⟨z2, h2⟩ := Option.isSome_iff_exists.1 (h 2 (by omega)).1
  exact ⟨⟨z0, z1, z2, h0, h1, h2⟩, (h 0 (by omega)).2, (h 1 (by omega)).2, (h 2 (by omega)).2⟩

/-- The three stores, one behind the other. -/
def put3 (w : World) (g o : Nat) (t : Sp) : World :=
  ((w.setCell ⟨g, o, none⟩ (.int .i64 t.a)).setCell ⟨g, o + 1, none⟩ (.int .i64 t.b)).setCell ⟨g, o + 2, none⟩ (.int .i64 t.c)
theorem put3_eq (w : World) (g o : Nat) (t : Sp) : put3 w g o t = w.setCells g o t.cells := rfl

theorem Filled.put {g n k : Nat} {f : Nat → Sp} {w : World} (h : Filled g n k f w) (hk : k < n) : Filled g n (k + 1) f (put3 w g (k * 3) (f k)) := by
  rw [put3_eq]
  refine ⟨by rw [setCells_size]; exact h.lt, World.there_setCells h.room _ _ _, fun i hi => ?_⟩
  by_cases e : i = k
  · subst e
    exact World.rangeAt_setCells_same _ _ _ _ (by rw [Sp.cells_length]; exact h.there3 hk)
  · exact World.rangeAt_setCells_apart (h.at_ i (by omega)) _ _ _ (.inr (.inl (by rw [Sp.cells_length]; omega)))

theorem below_setCells {B : Nat} {a : World} (g : Nat) (hg : B ≤ g) : ∀ (vs : List Value) (o : Nat) (w : World), Below B a w → Below B a (w.setCells g o vs)
  | [], _, _, h => h
  | v :: r, o, w, h => below_setCells g hg r (o + 1) _ (h.setCell (p := ⟨g, o, none⟩) hg v)
theorem below_put3 {B g o : Nat} {a w : World} {t : Sp} (h : Below B a w) (hg : B ≤ g) : Below B a (put3 w g o t) := by
  rw [put3_eq]
  exact below_setCells g hg _ _ _ h

theorem Filled.rows {g n k : Nat} {f : Nat → Sp} {w : World} (h : Filled g n k f w) (B : Nat) (hB : g < B) (m : Nat) (hm : m ≤ k) : Rows3 B w (some ⟨g, 0, none⟩) m f := fun i hi =>
  ⟨g, 0, rfl, hB, fun j v hv => by rw [Nat.zero_add]; exact h.at_ i (by omega) j v hv⟩

theorem Filled.tail {g n k : Nat} {f : Nat → Sp} {w : World} (h : Filled g n k f w) (B : Nat) (hB : g < B) (c : Nat) (hc : c ≤ k) (a : Option Addr) (ha : c < k → a = some ⟨g, c * 3, none⟩) :
    Rows3 B w a (k - c) (fun i => f (c + i)) := fun i hi =>
  ⟨g, c * 3, ha (by omega), hB, fun j v hv => by rw [show c * 3 + i * 3 + j = (c + i) * 3 + j from by omega]; exact h.at_ (c + i) (by omega) j v hv⟩

theorem below_of_drew {w w' : World} (h : Below w.drew.heap.size w.drew w') : Below w.heap.size w w' := (Below.refl _ w).drew.trans h

/-- 'make([]byterange.Spec, l, n)': a block of n * 3 cells. -/
theorem make_run (l n : Nat) (hl : l ≤ n) (hn : n ≤ 65536) : ∃ C : Array Value, C.size = n * 3 ∧ ∀ W : World,
    (Instr.makeSlice 24 (.int .i64 (l : Int)) (.int .i64 (n : Int))).run Try.prog W = .ok (.slice (some ⟨W.heap.size, 0, none⟩) l n) (W.alloc (.cells C 31)) := by
  have hinfo : (Try.prog.info? 31).map (fun i => (i.zero, i.size, i.bytes)) = some (some (.agg #[.int .i64 0, .int .i64 0, .int .i64 0]), 3, 24) := by kernel_rfl
  obtain ⟨i, hi, hz, hs, hb⟩ := info_parts hinfo
  refine ⟨madeCells (Value.agg #[.int .i64 0, .int .i64 0, .int .i64 0]).cells (n * 3), size_madeCells _ _, fun W => ?_⟩
  have := run_make (P := Try.prog) W 24 31 i _ Try.underlying24 hi hz .i64 .i64 l n (by omega) (by omega) (by rw [hb]; omega) (by omega)
  simp only [Int.toNat_natCast, hs] at this
  exact this
end Go.Proofs.Qxb6629989a
