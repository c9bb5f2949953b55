import Derived.Test.Qxb6628968aParts
namespace Go.Proofs.Qxb6628968a
open Go.RowKit
set_option linter.unusedVariables false

/-- The index attributes among the first k, in order. -/
def fs (f : Nat → At) (k : Nat) : List At := ((List.range k).map f).filter (·.x)
theorem fs_yes {f : Nat → At} {k : Nat} (h : (f k).x = true) : fs f (k + 1) = fs f k ++ [f k] := by simp [fs, List.range_succ, List.filter_append, h]
theorem fs_no {f : Nat → At} {k : Nat} (h : (f k).x = false) : fs f (k + 1) = fs f k := by simp [fs, List.range_succ, List.filter_append, h]
theorem fs_le (f : Nat → At) (k : Nat) : (fs f k).length ≤ k := by
  have := List.length_filter_le (fun t : At => t.x) ((List.range k).map f)
  simpa [fs] using this
theorem fs_x (f : Nat → At) (k : Nat) : ∀ t ∈ fs f k, t.x = true := fun t ht => by
  have := (List.mem_filter.1 ht).2
  simpa using this

/-- Where none of the first k is an index there is none; else the first one comes first. -/
theorem fs_none {f : Nat → At} {k : Nat} (h : ∀ i, i < k → (f i).x = false) : fs f k = [] := by
  rw [fs, List.filter_eq_nil_iff]
  intro t ht
  obtain ⟨i, hi, rfl⟩ := List.mem_map.1 ht
  simp [h i (by simpa using hi)]
theorem fs_first {f : Nat → At} {k j : Nat} (hj : j < k) (hx : (f j).x = true) (hl : ∀ i, i < j → (f i).x = false) : (fs f k)[0]? = some (f j) := by
  induction k with
  | zero => omega
  | succ k ih =>
    by_cases e : j = k
    · subst e
      rw [fs_yes hx, fs_none hl]
      rfl
    · have h0 := ih (by omega)
      cases hk : (f k).x with
      | true =>
        rw [fs_yes hk, List.getElem?_append_left (List.getElem?_eq_some_iff.1 h0).1]
        exact h0
      | false => rw [fs_no hk]; exact h0

theorem FirstOf.filtered {f : Nat → At} {n : Nat} {F : Nat → At} (hF : ∀ i, i < (fs f n).length → (fs f n)[i]? = some (F i)) {tw tb : At} {bw bb : Bool} (hw : FirstOf f n tw bw) (hb : FirstOf F (fs f n).length tb bb) : bw = bb ∧ tw = tb := by
  rcases hw with ⟨j, hj, hx, hl, rfl, rfl⟩ | ⟨hl, rfl, rfl⟩
  · have h0 := fs_first hj hx hl
    have hlen : 0 < (fs f n).length := (List.getElem?_eq_some_iff.1 h0).1
    have e : F 0 = f j := by
      have := hF 0 hlen
      rw [h0] at this
      exact (Option.some.inj this).symm
    obtain ⟨h1, h2⟩ := hb.hit hlen (by rw [e]; exact hx) (fun i hi => absurd hi (Nat.not_lt_zero _))
    exact ⟨h2.symm, by rw [h1, e]⟩
  · rw [fs_none hl] at hb
    obtain ⟨h1, h2⟩ := hb.miss (fun i hi => absurd hi (Nat.not_lt_zero _))
    exact ⟨h2.symm, h1.symm⟩

/-- The block g holds the attributes of the list l, and has room for n. -/
def Own (g n : Nat) (l : List At) (w : World) : Prop := w.ownsRow g 35 7 (.slice (some ⟨g, 0, none⟩) l.length n) l.length (l.flatMap At.cells)

theorem Own.made (w : World) (C : Array Value) (n : Nat) (hC : C.size = n * 7) (hn : n ≤ maxLen) : Own w.heap.size n [] (w.alloc (.cells C 35)) :=
  World.ownsRow_made w C n (Nat.le_refl _) hn hC

theorem own_block {g n : Nat} {l : List At} {w w' : World} (h : Own g n l w) (e : w'.heap[g]? = w.heap[g]?) : Own g n l w' := by
  obtain ⟨h1, h2⟩ := h
  refine ⟨h1, ?_⟩
  rcases h2 with ⟨h, _⟩ | ⟨g', cap, cur, hv, hg, hh, r⟩
  · simp at h
  · simp only [Value.slice.injEq, Option.some.injEq, Addr.mk.injEq, and_true, true_and] at hv
    obtain ⟨rfl, rfl⟩ := hv
    exact .inr ⟨g, n, cur, rfl, hg, e.trans hh, r⟩
theorem Own.later {g n B : Nat} {l : List At} {w w' : World} (h : Own g n l w) (hb : Below B w w') (hB : g < B) : Own g n l w' := own_block h (hb.block g hB)
theorem Own.lt {g n : Nat} {l : List At} {w : World} (h : Own g n l w) : g < w.heap.size := (World.ownsRow.lt h g rfl).2
theorem heap_setCells_other (b k : Nat) (hk : k ≠ b) : ∀ (vs : List Value) (o : Nat) (w : World), (w.setCells b o vs).heap[k]? = w.heap[k]?
  | [], _, _ => rfl
  | v :: r, o, w => by rw [World.setCells, heap_setCells_other b k hk r]; exact Below.heap_setCell _ _ _ _ hk
theorem Own.put {g n g' o : Nat} {l : List At} {w : World} {t : At} (h : Own g n l w) (hne : g ≠ g') : Own g n l (put7 w g' o t) := own_block h (by rw [put7_eq]; exact heap_setCells_other _ _ hne _ _ _)

theorem flat7 (l : List At) : ∀ (i : Nat) (t : At) (j : Nat) (v : Value), l[i]? = some t → t.cells[j]? = some v → (l.flatMap At.cells)[i * 7 + j]? = some v := by
  induction l with
  | nil => intro i t j v h; simp at h
  | cons a l ih =>
    intro i t j v h hv
    rw [List.flatMap_cons]
    cases i with
    | zero =>
      simp at h
      subst h
      have hj : j < a.cells.length := (List.getElem?_eq_some_iff.1 hv).1
      rw [Nat.zero_mul, Nat.zero_add, List.getElem?_append_left hj]
      exact hv
    | succ i =>
      rw [List.getElem?_append_right (by rw [At.cells_length]; omega), At.cells_length, show (i + 1) * 7 + j - 7 = i * 7 + j from by omega]
      exact ih i t j v (by simpa using h) hv

theorem Own.rows {g n : Nat} {l : List At} {w : World} (h : Own g n l w) (B : Nat) (hB : g < B) (F : Nat → At) (hF : ∀ i, i < l.length → l[i]? = some (F i)) : Rows7 B w (some ⟨g, 0, none⟩) l.length F := fun i hi =>
  ⟨g, 0, rfl, hB, fun j v hv => by
    have := World.ownsRow.cells h (g := g) rfl (i * 7 + j) v (flat7 l i (F i) j v (hF i hi) hv)
    rw [Addr.add_mid] at this
    rw [Nat.zero_add] at this ⊢
    exact this⟩

theorem Filled.grown {g g' n k : Nat} {f : Nat → At} {w w' : World} (h : Filled g n k f w) (hg : w.grownBy w' (some g')) (hne : g ≠ g') : Filled g n k f w' := by
  have e : w'.heap[g]? = w.heap[g]? := hg.block g h.lt (fun e => hne (Option.some.inj e))
  refine ⟨Nat.lt_of_lt_of_le h.lt hg.size, fun j hj => ?_, fun i hi j v hv => ?_⟩
  · rw [World.cell?_of_block (w := w) (a := ⟨g, 0 + j, none⟩) e, World.frozen?_of_block (w := w) (a := ⟨g, 0 + j, none⟩) e]
    exact h.room j hj
  · rw [World.cell?_of_block (w := w) (a := ⟨g, i * 7 + j, none⟩) e]
    exact h.at_ i hi j v hv

/-- Which index is the first so far: -1, or a place. -/
def Fst (f : Nat → At) (k : Nat) (o : Int) : Prop := (o = -1 ∧ ∀ i, i < k → (f i).x = false) ∨ ∃ j : Nat, o = j ∧ j < k ∧ (f j).x = true ∧ ∀ i, i < j → (f i).x = false
theorem Fst.no {f : Nat → At} {k : Nat} {o : Int} (h : Fst f k o) (hk : (f k).x = false) : Fst f (k + 1) o := by
  rcases h with ⟨rfl, h⟩ | ⟨j, rfl, hj, hx, hl⟩
  · refine .inl ⟨rfl, fun i hi => ?_⟩
    by_cases e : i = k
    · rw [e]; exact hk
    · exact h i (by omega)
  · exact .inr ⟨j, rfl, by omega, hx, hl⟩
theorem Fst.old {f : Nat → At} {k : Nat} {o : Int} (h : Fst f k o) (ho : 0 ≤ o) : Fst f (k + 1) o := by
  rcases h with ⟨rfl, h⟩ | ⟨j, rfl, hj, hx, hl⟩
  · omega
  · exact .inr ⟨j, rfl, by omega, hx, hl⟩
theorem Fst.new {f : Nat → At} {k : Nat} {o : Int} (h : Fst f k o) (ho : o < 0) (hk : (f k).x = true) : Fst f (k + 1) k := by
  rcases h with ⟨rfl, h⟩ | ⟨j, rfl, hj, hx, hl⟩
  · exact .inr ⟨k, rfl, by omega, hk, h⟩
  · omega

/-- The two groups behind the loop: whole, bare. -/
structure Groups2 (wr wx : World) (g g2 m n : Nat) : Prop where
  size : wx.heap.size = wr.heap.size + 2
  bel : Below wr.heap.size wr wx
  g0 : wx.cell? ⟨wr.heap.size, 2, none⟩ = some (.slice (some ⟨g, 0, none⟩) n n)
  g1 : wx.cell? ⟨wr.heap.size + 1, 2, none⟩ = some (.slice (some ⟨g2, 0, none⟩) m n)
theorem Groups2.mk2 (wr : World) (g g2 m n : Nat) (gn gt gn' gt' : ByteArray) :
    Groups2 wr ((wr.alloc (.cells #[.string gn, .string gt, .slice (some ⟨g, 0, none⟩) n n] 39)).alloc (.cells #[.string gn', .string gt', .slice (some ⟨g2, 0, none⟩) m n] 39)) g g2 m n := by
  refine ⟨by simp, ((Below.refl _ _).alloc (Nat.le_refl _) _).alloc (by simp) _, ?_, ?_⟩
  · go_simp
  · go_simp
end Go.Proofs.Qxb6628968a
