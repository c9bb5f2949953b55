import Derived.Test.Qxb6628968aAid
namespace Go.Proofs.Qxb6628968a
open Go.RowKit
set_option linter.unusedVariables false

/-- The block g holds n attributes, the first k of them f 0, f 1, ..; it may be written. -/
structure Filled (g n k : Nat) (f : Nat → At) (w : World) : Prop where
  lt : g < w.heap.size
  room : w.there g 0 (n * 7)
  at_ : ∀ i, i < k → w.rangeAt g (i * 7) (f i).cells

theorem Filled.made (w : World) (C : Array Value) (n : Nat) (f : Nat → At) (hC : C.size = n * 7) : Filled w.heap.size n 0 f (w.alloc (.cells C 35)) := by
  refine ⟨by simp, fun j hj => ?_, fun i hi => absurd hi (Nat.not_lt_zero _)⟩
  have h := heap_alloc_new w (.cells C 35)
  constructor
  · rw [cell_of_row _ _ _ _ _ _ h, Nat.zero_add, Array.getElem?_eq_getElem (show j < C.size by omega)]
    rfl
  · show (match (w.alloc (.cells C 35)).heap[w.heap.size]? with | some (.cells _ _ (lo, hi)) => decide (lo ≤ 0 + j) && decide (0 + j < hi) | _ => false) = false
    rw [h]
    simp

theorem Filled.later {g n k : Nat} {f : Nat → At} {w w' : World} {B : Nat} (h : Filled g n k f w) (hb : Below B w w') (hB : g < B) : Filled g n k f w' := by
  refine ⟨Nat.lt_of_lt_of_le h.lt hb.size, fun j hj => ?_, fun i hi j v hv => ?_⟩
  · rw [hb.cell (p := ⟨g, 0 + j, none⟩) hB, hb.frozen (p := ⟨g, 0 + j, none⟩) hB]
    exact h.room j hj
  · rw [hb.cell (p := ⟨g, i * 7 + j, none⟩) hB]
    exact h.at_ i hi j v hv

theorem At.cells_length (t : At) : t.cells.length = 7 := rfl
theorem At.cells_one (t : At) : ∀ v ∈ t.cells, v.oneCell' = true := by
  intro v hv
  simp only [At.cells, List.mem_cons, List.not_mem_nil, or_false] at hv
  rcases hv with rfl | rfl | rfl | rfl | rfl | rfl | rfl <;> rfl

theorem setCells_size (b : Nat) : ∀ (vs : List Value) (o : Nat) (w : World), (w.setCells b o vs).heap.size = w.heap.size
  | [], _, _ => rfl
  | v :: r, o, w => by rw [World.setCells, setCells_size b r]; simp [World.setCell]

theorem Filled.there7 {g n k : Nat} {f : Nat → At} {w : World} (h : Filled g n k f w) {j : Nat} (hj : j < n) : w.there g (j * 7) 7 := fun i hi => by
  have := h.room (j * 7 + i) (by omega)
  simpa using this

theorem there_cells7 {w : World} {g o : Nat} (h : w.there g o 7) :
    (∃ z0 z1 z2 z3 z4 z5 z6, w.cell? ⟨g, o, none⟩ = some z0 ∧ w.cell? ⟨g, o + 1, none⟩ = some z1 ∧ w.cell? ⟨g, o + 2, none⟩ = some z2 ∧ w.cell? ⟨g, o + 3, none⟩ = some z3 ∧ w.cell? ⟨g, o + 4, none⟩ = some z4 ∧ w.cell? ⟨g, o + 5, none⟩ = some z5 ∧ w.cell? ⟨g, o + 6, none⟩ = some z6) ∧
    w.frozen? ⟨g, o, none⟩ = false ∧ w.frozen? ⟨g, o + 1, none⟩ = false ∧ w.frozen? ⟨g, o + 2, none⟩ = false ∧ w.frozen? ⟨g, o + 3, none⟩ = false ∧ w.frozen? ⟨g, o + 4, none⟩ = false ∧ w.frozen? ⟨g, o + 5, none⟩ = false ∧ w.frozen? ⟨g, o + 6, none⟩ = false := by
  obtain ⟨z0, h0⟩ := Option.isSome_iff_exists.1 (h 0 (by omega)).1
  obtain ⟨z1, h1⟩ := Option.isSome_iff_exists.1 (h 1 (by omega)).1
  obtain ⟨z2, h2⟩ := Option.isSome_iff_exists.1 (h 2 (by omega)).1
  obtain ⟨z3, h3⟩ := Option.isSome_iff_exists.1 (h 3 (by omega)).1
  obtain ⟨z4, h4⟩ := Option.isSome_iff_exists.1 (h 4 (by omega)).1
  obtain ⟨z5, h5⟩ := Option.isSome_iff_exists.1 (h 5 (by omega)).1
  obtain ⟨z6, h6⟩ := Option.isSome_iff_exists.1 (h 6 (by omega)).1
  exact ⟨⟨z0, z1, z2, z3, z4, z5, z6, h0, h1, h2, h3, h4, h5, h6⟩, (h 0 (by omega)).2, (h 1 (by omega)).2, (h 2 (by omega)).2, (h 3 (by omega)).2, (h 4 (by omega)).2, (h 5 (by omega)).2, (h 6 (by omega)).2⟩

/-- The seven stores, one behind the other. -/
def put7 (w : World) (g o : Nat) (t : At) : World :=
  ((((((w.setCell ⟨g, o, none⟩ (.string t.s)).setCell ⟨g, o + 1, none⟩ (.int .i64 t.n)).setCell ⟨g, o + 2, none⟩ (.bool t.l)).setCell ⟨g, o + 3, none⟩ (.slice t.a t.len t.cap)).setCell ⟨g, o + 4, none⟩ (.bool t.x)).setCell ⟨g, o + 5, none⟩ (.bool t.k)).setCell ⟨g, o + 6, none⟩ (.bool t.d)
theorem put7_eq (w : World) (g o : Nat) (t : At) : put7 w g o t = w.setCells g o t.cells := rfl

theorem Filled.store {g n k : Nat} {f : Nat → At} {w : World} (h : Filled g n k f w) (hk : k < n) : Filled g n (k + 1) f (w.setCells g (k * 7) (f k).cells) := by
  refine ⟨by rw [setCells_size]; exact h.lt, ?_, fun i hi => ?_⟩
  · exact World.there_setCells h.room _ _ _
  · by_cases e : i = k
    · subst e
      exact World.rangeAt_setCells_same _ _ _ _ (by rw [At.cells_length]; exact h.there7 hk)
    · exact World.rangeAt_setCells_apart (h.at_ i (by omega)) _ _ _ (.inr (.inl (by rw [At.cells_length]; omega)))

theorem Below.setCells7 {B : Nat} {a : World} (g : Nat) (hg : B ≤ g) : ∀ (vs : List Value) (o : Nat) (w : World), Below B a w → Below B a (w.setCells g o vs)
  | [], _, _, h => h
  | v :: r, o, w, h => Below.setCells7 g hg r (o + 1) _ (h.setCell (p := ⟨g, o, none⟩) hg v)

theorem Filled.put {g n k : Nat} {f : Nat → At} {w : World} (h : Filled g n k f w) (hk : k < n) : Filled g n (k + 1) f (put7 w g (k * 7) (f k)) := by
  rw [put7_eq]
  exact h.store hk
theorem below_put7 {B g o : Nat} {a w : World} {t : At} (h : Below B a w) (hg : B ≤ g) : Below B a (put7 w g o t) := by
  rw [put7_eq]
  exact Below.setCells7 g hg _ _ _ h

/-- The three groups behind the loop: whole, head, tail. -/
structure Groups (wr wx : World) (g c n : Nat) : Prop where
  size : wx.heap.size = wr.heap.size + 3
  bel : Below wr.heap.size wr wx
  g0 : wx.cell? ⟨wr.heap.size, 2, none⟩ = some (.slice (some ⟨g, 0, none⟩) n n)
  g1 : wx.cell? ⟨wr.heap.size + 1, 2, none⟩ = some (.slice (some ⟨g, 0, none⟩) c n)
  g2 : ∃ ta, (c < n → ta = some ⟨g, c * 7, none⟩) ∧ wx.cell? ⟨wr.heap.size + 2, 2, none⟩ = some (.slice ta (n - c) (n - c))

theorem Groups.mk3 (wr : World) (g c n : Nat) (gn gt : ByteArray) (ta : Option Addr) (hta : c < n → ta = some ⟨g, c * 7, none⟩) :
    Groups wr (((wr.alloc (.cells #[.string gn, .string gt, .slice (some ⟨g, 0, none⟩) n n] 39)).alloc (.cells #[.string gn, .string gt, .slice (some ⟨g, 0, none⟩) c n] 39)).alloc (.cells #[.string gn, .string gt, .slice ta (n - c) (n - c)] 39)) g c n := by
  refine ⟨by simp, (((Below.refl _ _).alloc (Nat.le_refl _) _).alloc (by simp) _).alloc (by simp; omega) _, ?_, ?_, ta, hta, ?_⟩
  · go_simp
  · go_simp
  · go_simp

theorem Filled.rows {g n k : Nat} {f : Nat → At} {w : World} (h : Filled g n k f w) (B : Nat) (hB : g < B) (m : Nat) (hm : m ≤ k) : Rows7 B w (some ⟨g, 0, none⟩) m f := fun i hi =>
  ⟨g, 0, rfl, hB, fun j v hv => by rw [Nat.zero_add]; exact h.at_ i (by omega) j v hv⟩

theorem Filled.tail {g n k : Nat} {f : Nat → At} {w : World} (h : Filled g n k f w) (B : Nat) (hB : g < B) (c : Nat) (hc : c ≤ k) (a : Option Addr) (ha : c < k → a = some ⟨g, c * 7, none⟩) :
    Rows7 B w a (k - c) (fun i => f (c + i)) := fun i hi =>
  ⟨g, c * 7, ha (by omega), hB, fun j v hv => by rw [show c * 7 + i * 7 + j = (c + i) * 7 + j from by omega]; exact h.at_ (c + i) (by omega) j v hv⟩

/-- What Index answers: the first attribute that is an index, and true; or the zero one, and false. -/
def FirstOf (f : Nat → At) (n : Nat) (t : At) (b : Bool) : Prop :=
  (∃ j, j < n ∧ (f j).x = true ∧ (∀ i, i < j → (f i).x = false) ∧ t = f j ∧ b = true) ∨ ((∀ i, i < n → (f i).x = false) ∧ t = At.zero ∧ b = false)

theorem FirstOf.cut {f : Nat → At} {n c : Nat} (hc : c ≤ n) {tw th tt : At} {bw bh bt : Bool} (hw : FirstOf f n tw bw) (hh : FirstOf f c th bh) (ht : FirstOf (fun i => f (c + i)) (n - c) tt bt) :
    (bh = true → bw = true ∧ tw = th) ∧ (bh = false → bw = bt ∧ tw = tt) := by
  rcases hw with ⟨j, hj, hx, hl, rfl, rfl⟩ | ⟨hl, rfl, rfl⟩
  · rcases hh with ⟨i, hi, hix, hil, rfl, rfl⟩ | ⟨hil, rfl, rfl⟩
    · refine ⟨fun _ => ⟨rfl, ?_⟩, fun h => by cases h⟩
      rcases Nat.lt_trichotomy i j with h | h | h
      · rw [hl i h] at hix; cases hix
      · rw [h]
      · rw [hil j h] at hx; cases hx
    · refine ⟨fun h => (by cases h), fun _ => ?_⟩
      have hcj : c ≤ j := by
        rcases Nat.lt_or_ge j c with h | h
        · rw [hil j h] at hx; cases hx
        · exact h
      rcases ht with ⟨i, hi, hix, hitl, rfl, rfl⟩ | ⟨hitl, rfl, rfl⟩
      · refine ⟨rfl, ?_⟩
        rcases Nat.lt_trichotomy (c + i) j with h | h | h
        · rw [hl _ h] at hix; cases hix
        · show f j = f (c + i)
          rw [h]
        · have := hitl (j - c) (by omega)
          simp only [show c + (j - c) = j from by omega] at this
          rw [this] at hx; cases hx
      · have := hitl (j - c) (by omega)
        simp only [show c + (j - c) = j from by omega] at this
        rw [this] at hx; cases hx
  · rcases hh with ⟨i, hi, hix, hil, rfl, rfl⟩ | ⟨hil, rfl, rfl⟩
    · rw [hl i (by omega)] at hix; cases hix
    · refine ⟨fun h => (by cases h), fun _ => ?_⟩
      rcases ht with ⟨i, hi, hix, hitl, rfl, rfl⟩ | ⟨hitl, rfl, rfl⟩
      · rw [hl _ (by omega)] at hix; cases hix
      · exact ⟨rfl, rfl⟩

theorem FirstOf.hit {f : Nat → At} {n : Nat} {t : At} {b : Bool} (h : FirstOf f n t b) {j : Nat} (hj : j < n) (hx : (f j).x = true) (hl : ∀ i, i < j → (f i).x = false) : t = f j ∧ b = true := by
  rcases h with ⟨i, hi, hix, hil, rfl, rfl⟩ | ⟨hil, rfl, rfl⟩
  · rcases Nat.lt_trichotomy i j with h | h | h
    · rw [hl i h] at hix; cases hix
    · rw [h]; exact ⟨rfl, rfl⟩
    · rw [hil j h] at hx; cases hx
  · rw [hil j hj] at hx; cases hx

theorem FirstOf.miss {f : Nat → At} {n : Nat} {t : At} {b : Bool} (h : FirstOf f n t b) (hl : ∀ i, i < n → (f i).x = false) : t = At.zero ∧ b = false := by
  rcases h with ⟨i, hi, hix, hil, rfl, rfl⟩ | ⟨hil, rfl, rfl⟩
  · rw [hl i hi] at hix; cases hix
  · exact ⟨rfl, rfl⟩

/-- The block b holds the attribute t. -/
def Boxed7 (w : World) (b : Nat) (t : At) : Prop := b < w.heap.size ∧ ∀ j v, t.cells[j]? = some v → w.cell? ⟨b, j, none⟩ = some v
theorem Boxed7.later {w w' : World} {b B : Nat} {t : At} (h : Boxed7 w b t) (hb : Below B w w') (hB : b < B) : Boxed7 w' b t :=
  ⟨Nat.lt_of_lt_of_le h.1 hb.size, fun j v hv => (hb.cell (p := ⟨b, j, none⟩) hB).trans (h.2 j v hv)⟩
theorem Boxed7.new (w : World) (t : At) : Boxed7 (w.alloc (.cells #[.string t.s, .int .i64 t.n, .bool t.l, .slice t.a t.len t.cap, .bool t.x, .bool t.k, .bool t.d] 35)) w.heap.size t := by
  refine ⟨by simp, fun j v hv => ?_⟩
  rw [cell_of_row _ _ _ _ _ _ (heap_alloc_new w _)]
  show t.cells.toArray[j]? = some v
  rw [List.getElem?_toArray]
  exact hv
theorem Boxed7.cells {w : World} {b : Nat} {t : At} (h : Boxed7 w b t) :
    w.cell? ⟨b, 0, none⟩ = some (.string t.s) ∧ w.cell? ⟨b, 1, none⟩ = some (.int .i64 t.n) ∧ w.cell? ⟨b, 2, none⟩ = some (.bool t.l) ∧ w.cell? ⟨b, 3, none⟩ = some (.slice t.a t.len t.cap) ∧
      w.cell? ⟨b, 4, none⟩ = some (.bool t.x) ∧ w.cell? ⟨b, 5, none⟩ = some (.bool t.k) ∧ w.cell? ⟨b, 6, none⟩ = some (.bool t.d) :=
  ⟨h.2 0 _ rfl, h.2 1 _ rfl, h.2 2 _ rfl, h.2 3 _ rfl, h.2 4 _ rfl, h.2 5 _ rfl, h.2 6 _ rfl⟩

/-- An attribute's Source can be read. -/
def Good (B : Nat) (w : World) (t : At) : Prop := ∃ vf : Nat → Int, Row B w t.a t.len (fun i => .int .u32 (vf i)) ∧ t.len ≤ maxLen
theorem Good.later {B : Nat} {w w' : World} {t : At} (h : Good B w t) (hb : Below B w w') : Good B w' t := by
  obtain ⟨vf, h1, h2⟩ := h
  exact ⟨vf, h1.later hb, h2⟩
theorem Good.zero (B : Nat) (w : World) : Good B w At.zero := ⟨fun _ => 0, fun i hi => absurd hi (Nat.not_lt_zero _), Nat.zero_le _⟩
theorem FirstOf.good {f : Nat → At} {n : Nat} {t : At} {b : Bool} (h : FirstOf f n t b) {B : Nat} {w : World} (hg : ∀ i, i < n → Good B w (f i)) : Good B w t := by
  rcases h with ⟨j, hj, _, _, rfl, _⟩ | ⟨_, rfl, _⟩
  · exact hg j hj
  · exact Good.zero _ _
end Go.Proofs.Qxb6628968a
