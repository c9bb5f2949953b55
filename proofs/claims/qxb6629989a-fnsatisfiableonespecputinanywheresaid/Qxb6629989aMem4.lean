import Derived.Test.Qxb6629989aAid
namespace Go.Proofs.Qxb6629989a
open Go.RowKit
set_option linter.unusedVariables false

/-- The block g holds the specs of the list l, and has room for n. -/
def Own (g n : Nat) (l : List Sp) (w : World) : Prop := w.ownsRow g 31 3 (.slice (some ⟨g, 0, none⟩) l.length n) l.length (l.flatMap Sp.cells)

theorem Own.made (w : World) (C : Array Value) (n : Nat) (hC : C.size = n * 3) (hn : n ≤ maxLen) : Own w.heap.size n [] (w.alloc (.cells C 31)) :=
  World.ownsRow_made w C n (Nat.le_refl _) hn hC
theorem own_block {g n : Nat} {l : List Sp} {w w' : World} (h : Own g n l w) (e : w'.heap[g]? = w.heap[g]?) : Own g n l w' := by
  obtain ⟨h1, h2⟩ := h
  refine ⟨h1, ?_⟩
  rcases h2 with ⟨h, _⟩ | ⟨g', cap, cur, hv, hg, hh, r⟩
  · simp at h
  · simp only [Value.slice.injEq, Option.some.injEq, Addr.mk.injEq, and_true, true_and] at hv
    obtain ⟨rfl, rfl⟩ := hv
    exact .inr ⟨g, n, cur, rfl, hg, e.trans hh, r⟩
theorem Own.later {g n B : Nat} {l : List Sp} {w w' : World} (h : Own g n l w) (hb : Below B w w') (hB : g < B) : Own g n l w' := own_block h (hb.block g hB)
theorem Own.lt {g n : Nat} {l : List Sp} {w : World} (h : Own g n l w) : g < w.heap.size := (World.ownsRow.lt h g rfl).2

theorem flat3 (l : List Sp) : ∀ (i : Nat) (t : Sp) (j : Nat) (v : Value), l[i]? = some t → t.cells[j]? = some v → (l.flatMap Sp.cells)[i * 3 + j]? = some v := by
  induction l with
  | nil => intro i t j v h; simp at h
  | cons a l ih =>
    intro i t j v h hv
    rw [List.flatMap_cons]
    cases i with
    | zero =>
      simp at h
      subst h
      have hj : j < a.cells.length := (List.getElem?_eq_some_iff.1 hv).1
      rw [Nat.zero_mul, Nat.zero_add, List.getElem?_append_left hj]
      exact hv
    | succ i =>
      rw [List.getElem?_append_right (by rw [Sp.cells_length]; omega), Sp.cells_length, show (i + 1) * 3 + j - 3 = i * 3 + j from by omega]
      exact ih i t j v (by simpa using h) hv

theorem Own.rows {g n : Nat} {l : List Sp} {w : World} (h : Own g n l w) (B : Nat) (hB : g < B) (F : Nat → Sp) (hF : ∀ i, i < l.length → l[i]? = some (F i)) : Rows3 B w (some ⟨g, 0, none⟩) l.length F := fun i hi =>
  ⟨g, 0, rfl, hB, fun j v hv => by
    have := World.ownsRow.cells h (g := g) rfl (i * 3 + j) v (flat3 l i (F i) j v (hF i hi) hv)
    rw [Addr.add_mid] at this
    rw [Nat.zero_add] at this ⊢
    exact this⟩

/-- What follows an append: the list has grown by one; the row alone was written. -/
theorem Own.grew {g n k : Nat} {l : List Sp} {t : Sp} {w' : World} (h : w'.ownsRow g 31 3 (.slice (some ⟨g, 0, none⟩) (l.length + 1) n) (l.length + 1) (l.flatMap Sp.cells ++ t.cells)) : Own g n (l ++ [t]) w' := by
  unfold Own
  rw [List.flatMap_append, List.length_append]
  simpa using h

theorem Filled.grown {g g' n k : Nat} {f : Nat → Sp} {w w' : World} (h : Filled g n k f w) (hg : w.grownBy w' (some g')) (hne : g ≠ g') : Filled g n k f w' := by
  have e : w'.heap[g]? = w.heap[g]? := hg.block g h.lt (fun e => hne (Option.some.inj e))
  refine ⟨Nat.lt_of_lt_of_le h.lt hg.size, fun j hj => ?_, fun i hi j v hv => ?_⟩
  · rw [World.cell?_of_block (w := w) (a := ⟨g, 0 + j, none⟩) e, World.frozen?_of_block (w := w) (a := ⟨g, 0 + j, none⟩) e]
    exact h.room j hj
  · rw [World.cell?_of_block (w := w) (a := ⟨g, i * 3 + j, none⟩) e]
    exact h.at_ i hi j v hv

/-- The block b holds the spec t. -/
def Boxed (w : World) (b : Nat) (t : Sp) : Prop := b < w.heap.size ∧ ∀ j v, t.cells[j]? = some v → w.cell? ⟨b, j, none⟩ = some v
theorem Boxed.later {w w' : World} {b B : Nat} {t : Sp} (h : Boxed w b t) (hb : Below B w w') (hB : b < B) : Boxed w' b t :=
  ⟨Nat.lt_of_lt_of_le h.1 hb.size, fun j v hv => (hb.cell (p := ⟨b, j, none⟩) hB).trans (h.2 j v hv)⟩
theorem Boxed.grown {w w' : World} {b g : Nat} {t : Sp} (h : Boxed w b t) (hg : w.grownBy w' (some g)) (hne : b ≠ g) : Boxed w' b t :=
  ⟨Nat.lt_of_lt_of_le h.1 hg.size, fun j v hv => by
    rw [World.cell?_of_block (w := w) (a := ⟨b, j, none⟩) (hg.block b h.1 (fun e => hne (Option.some.inj e)))]
    exact h.2 j v hv⟩
theorem Boxed.new (w : World) (t : Sp) (ty : TypeId) : Boxed (w.alloc (.cells #[.int .i64 t.a, .int .i64 t.b, .int .i64 t.c] ty)) w.heap.size t := by
  refine ⟨by simp, fun j v hv => ?_⟩
  rw [cell_of_row _ _ _ _ _ _ (heap_alloc_new w _)]
  show t.cells.toArray[j]? = some v
  rw [List.getElem?_toArray]
  exact hv
theorem Boxed.cells {w : World} {b : Nat} {t : Sp} (h : Boxed w b t) : w.cell? ⟨b, 0, none⟩ = some (.int .i64 t.a) ∧ w.cell? ⟨b, 1, none⟩ = some (.int .i64 t.b) ∧ w.cell? ⟨b, 2, none⟩ = some (.int .i64 t.c) :=
  ⟨h.2 0 _ rfl, h.2 1 _ rfl, h.2 2 _ rfl⟩

/-! ### The plain law -/
/-- The list with x put in at p. -/
def ins (f : Nat → Sp) (n p : Nat) (x : Sp) : List Sp := (List.range p).map f ++ x :: (List.range (n - p)).map fun i => f (p + i)
theorem ins_length (f : Nat → Sp) (n p : Nat) (x : Sp) (h : p ≤ n) : (ins f n p x).length = n + 1 := by simp [ins]; omega
def insF (f : Nat → Sp) (p : Nat) (x : Sp) (i : Nat) : Sp := if i < p then f i else if i = p then x else f (i - 1)
theorem ins_at (f : Nat → Sp) (n p : Nat) (x : Sp) (h : p ≤ n) (i : Nat) (hi : i < (ins f n p x).length) : (ins f n p x)[i]? = some (insF f p x i) := by
  rw [ins_length f n p x h] at hi
  unfold ins insF
  by_cases h1 : i < p
  · rw [List.getElem?_append_left (by simpa using h1)]
    simp [h1]
  · rw [List.getElem?_append_right (by simp; omega)]
    simp only [List.length_map, List.length_range, h1, if_false]
    by_cases h2 : i = p
    · subst h2
      simp
    · obtain ⟨j, rfl⟩ : ∃ j, i = p + (j + 1) := ⟨i - p - 1, by omega⟩
      rw [show p + (j + 1) - p = j + 1 from by omega]
      simp only [List.getElem?_cons_succ, h2, if_false]
      rw [List.getElem?_map, List.getElem?_range (by omega)]
      simp only [Option.map_some]
      rw [show p + (j + 1) - 1 = p + j from by omega]

/-- The answer with x put in at p. -/
theorem Fst.ins {q : Sp → Bool} {f : Nat → Sp} {n p : Nat} {x : Sp} (hp : p ≤ n) {k k2 : Int} (h : Fst (fun i => q (f i)) n k) (h2 : Fst (fun i => q (insF f p x i)) (n + 1) k2) :
    (0 ≤ k → k < p → k2 = k) ∧ (¬ (0 ≤ k ∧ k < p) → q x = true → k2 = p) ∧ (¬ (0 ≤ k ∧ k < p) → q x = false → 0 ≤ k → k2 = k + 1) ∧ (¬ (0 ≤ k ∧ k < p) → q x = false → k < 0 → k2 = -1) := by
  have before : ∀ i, i < p → insF f p x i = f i := fun i hi => by simp [insF, hi]
  have there : insF f p x p = x := by simp [insF]
  have behind : ∀ i, p ≤ i → insF f p x (i + 1) = f i := fun i hi => by
    have h1 : ¬ i + 1 < p := by omega
    have h2 : ¬ i + 1 = p := by omega
    simp [insF, h1, h2]
  have none_before : ¬ (0 ≤ k ∧ k < p) → ∀ i, i < p → q (f i) = false := fun hk i hi => by
    rcases h with ⟨rfl, h⟩ | ⟨j, rfl, hj, hx, hl⟩
    · exact h i (by omega)
    · exact hl i (by omega)
  refine ⟨fun h0 h1 => ?_, fun hk hx => ?_, fun hk hx h0 => ?_, fun hk hx h0 => ?_⟩
  · rcases h with ⟨rfl, h⟩ | ⟨j, rfl, hj, hx, hl⟩
    · omega
    · exact h2.hit (j := j) (by omega) (by show q (insF f p x j) = true; rw [before j (by omega)]; exact hx) (fun i hi => by show q (insF f p x i) = false; rw [before i (by omega)]; exact hl i hi)
  · exact h2.hit (j := p) (by omega) (by show q (insF f p x p) = true; rw [there]; exact hx) (fun i hi => by show q (insF f p x i) = false; rw [before i hi]; exact none_before hk i hi)
  · rcases h with ⟨rfl, h⟩ | ⟨j, rfl, hj, hxj, hl⟩
    · omega
    · have := h2.hit (j := j + 1) (by omega) (by show q (insF f p x (j + 1)) = true; rw [behind j (by omega)]; exact hxj) (fun i hi => by
        show q (insF f p x i) = false
        rcases Nat.lt_trichotomy i p with hip | hip | hip
        · rw [before i hip]; exact none_before hk i hip
        · rw [hip, there]; exact hx
        · obtain ⟨m, rfl⟩ : ∃ m, i = m + 1 := ⟨i - 1, by omega⟩
          rw [behind m (by omega)]; exact hl m (by omega))
      omega
  · rcases h with ⟨rfl, h⟩ | ⟨j, rfl, hj, hxj, hl⟩
    · exact h2.miss (fun i hi => by
        show q (insF f p x i) = false
        rcases Nat.lt_trichotomy i p with hip | hip | hip
        · rw [before i hip]; exact h i (by omega)
        · rw [hip, there]; exact hx
        · obtain ⟨m, rfl⟩ : ∃ m, i = m + 1 := ⟨i - 1, by omega⟩
          rw [behind m (by omega)]; exact h m (by omega))
    · omega
/-- What the answer names is satisfiable. -/
theorem Fst.named {q : Nat → Bool} {n : Nat} {k : Int} (h : Fst q n k) (h0 : 0 ≤ k) : ∃ j : Nat, k = j ∧ j < n ∧ q j = true := by
  rcases h with ⟨rfl, h⟩ | ⟨j, rfl, hj, hx, hl⟩
  · omega
  · exact ⟨j, rfl, hj, hx⟩
end Go.Proofs.Qxb6629989a
