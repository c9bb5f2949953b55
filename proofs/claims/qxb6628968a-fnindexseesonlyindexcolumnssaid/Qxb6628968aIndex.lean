import Derived.Test.Qxb6628968aAid
namespace Go.Proofs.Qxb6628968a
open Go.RowKit

set_option maxHeartbeats 1000000 in
theorem index_some (B : Nat) (w : World) (hB : B ≤ w.heap.size) (gb : Nat) (hgb : gb < B) (a : Option Addr) (m c : Nat) (f : Nat → At) (hg : w.cell? ⟨gb, 2, none⟩ = some (.slice a m c))
    (hf : Rows7 B w a m f) (hm : m ≤ maxLen) (j : Nat) (hj : j < m) (hx : (f j).x = true) (hlt : ∀ i, i < j → (f i).x = false) :
    Calls Try.prog 8 #[.pointer (some ⟨gb, 0, none⟩)] w fun e w' => e = .returned (.tuple #[.agg (f j).cells.toArray, .bool true]) ∧ Below w.heap.size w w' := by
  have hgz : ∀ o, (w.alloc o).cell? ⟨gb, 2, none⟩ = some (.slice a m c) := fun o => ((Below.refl B w).alloc hB o).cell (p := ⟨gb, 2, none⟩) hgb |>.trans hg
  unfold maxLen at hm
  go_enter Try.func8, Try.ntmps8
  go_wp2
  go_loopg [11] (j + 1) (fun g v wr => ∃ k : Nat, k ≤ j ∧ g = j + 1 - k ∧ v = .int .i64 k ∧ Below (w.heap.size + 1) (w.alloc (.cells #[.string ⟨#[]⟩, .int .i64 0, .bool false, .slice none 0 0, .bool false, .bool false, .bool false] 35)) wr)
  case atStart => exact ⟨0, by omega, rfl, rfl, Below.refl _ _⟩
  case round =>
    obtain ⟨k, hk, hgk, rfl, hbel⟩ := hrel
    have HG : Hid (gk = j + 1 - k) := hgk
    clear hgk
    obtain ⟨b, off, rfl, hb, hc⟩ := hf k (by omega)
    have hkm : k < m := by omega
    have hbel0 : Below w.heap.size w wr := ((Below.refl _ w).alloc (Nat.le_refl _) _).trans (hbel.mono (by omega))
    have hsz : w.heap.size < wr.heap.size := by have := hbel.size; simp at this; omega
    obtain ⟨c0, c1, c2, c3, c4, c5, c6⟩ := cells7 (w := wr) (b := b) (o := off + k * 7) (t := f k) (fun j v hv => (hbel0.cell (p := ⟨b, off + k * 7 + j, none⟩) (by show b < _; omega)).trans (hc j v hv))
    by_cases hkj : k = j
    · subst hkj
      obtain ⟨hz, hfz⟩ := zero7 w wr hbel
      obtain ⟨z0, y0⟩ := hz 0 (by omega); obtain ⟨z1, y1⟩ := hz 1 (by omega); obtain ⟨z2, y2⟩ := hz 2 (by omega); obtain ⟨z3, y3⟩ := hz 3 (by omega); obtain ⟨z4, y4⟩ := hz 4 (by omega); obtain ⟨z5, y5⟩ := hz 5 (by omega); obtain ⟨z6, y6⟩ := hz 6 (by omega)
      clear hz hc hf hlt hgz hg
      go_wp2
      refine bodyPost_ret (v := .tuple #[.agg (f k).cells.toArray, .bool true]) ?_ rfl ⟨rfl, ?_⟩
      · simp [results, Try.results8, go_sem, At.cells, y0, y1, y2, y3, y4, y5, y6, hsz, hx]
      · refine (((((((hbel0.setCell ?_ _).setCell ?_ _).setCell ?_ _).setCell ?_ _).setCell ?_ _).setCell ?_ _).setCell ?_ _).alloc ?_ _
        all_goals simp
        omega
    · have hxk := hlt k (by omega)
      go_wp2
      go_roundg (j + 1 - (k + 1))
      case rel => exact ⟨k + 1, by omega, rfl, by go_num, hbel.alloc (by omega) _⟩
      case measure => have := HG.out; omega

set_option maxHeartbeats 1000000 in
theorem index_none (B : Nat) (w : World) (hB : B ≤ w.heap.size) (gb : Nat) (hgb : gb < B) (a : Option Addr) (m c : Nat) (f : Nat → At) (hg : w.cell? ⟨gb, 2, none⟩ = some (.slice a m c))
    (hf : Rows7 B w a m f) (hm : m ≤ maxLen) (hlt : ∀ i, i < m → (f i).x = false) :
    Calls Try.prog 8 #[.pointer (some ⟨gb, 0, none⟩)] w fun e w' => e = .returned (.tuple #[.agg At.zero.cells.toArray, .bool false]) ∧ Below w.heap.size w w' := by
  have hgz : ∀ o, (w.alloc o).cell? ⟨gb, 2, none⟩ = some (.slice a m c) := fun o => ((Below.refl B w).alloc hB o).cell (p := ⟨gb, 2, none⟩) hgb |>.trans hg
  unfold maxLen at hm
  go_enter Try.func8, Try.ntmps8
  go_wp2
  go_loopg [11] (m + 1) (fun g v wr => ∃ k : Nat, k ≤ m ∧ g = m + 1 - k ∧ v = .int .i64 k ∧ Below (w.heap.size + 1) (w.alloc (.cells #[.string ⟨#[]⟩, .int .i64 0, .bool false, .slice none 0 0, .bool false, .bool false, .bool false] 35)) wr)
  case atStart => exact ⟨0, by omega, rfl, rfl, Below.refl _ _⟩
  case round =>
    obtain ⟨k, hk, hgk, rfl, hbel⟩ := hrel
    have HG : Hid (gk = m + 1 - k) := hgk
    clear hgk
    have hbel0 : Below w.heap.size w wr := ((Below.refl _ w).alloc (Nat.le_refl _) _).trans (hbel.mono (by omega))
    have hsz : w.heap.size < wr.heap.size := by have := hbel.size; simp at this; omega
    by_cases hkm : k < m
    · obtain ⟨b, off, rfl, hb, hc⟩ := hf k hkm
      obtain ⟨c0, c1, c2, c3, c4, c5, c6⟩ := cells7 (w := wr) (b := b) (o := off + k * 7) (t := f k) (fun j v hv => (hbel0.cell (p := ⟨b, off + k * 7 + j, none⟩) (by show b < _; omega)).trans (hc j v hv))
      have hxk := hlt k hkm
      go_wp2
      go_roundg (m + 1 - (k + 1))
      case rel => exact ⟨k + 1, by omega, rfl, by go_num, hbel.alloc (by omega) _⟩
      case measure => have := HG.out; omega
    · obtain ⟨hz, hfz⟩ := zero7 w wr hbel
      obtain ⟨z0, y0⟩ := hz 0 (by omega); obtain ⟨z1, y1⟩ := hz 1 (by omega); obtain ⟨z2, y2⟩ := hz 2 (by omega); obtain ⟨z3, y3⟩ := hz 3 (by omega); obtain ⟨z4, y4⟩ := hz 4 (by omega); obtain ⟨z5, y5⟩ := hz 5 (by omega); obtain ⟨z6, y6⟩ := hz 6 (by omega)
      clear hz hf hlt hgz hg
      go_wp2
      refine bodyPost_ret (v := .tuple #[.agg At.zero.cells.toArray, .bool false]) ?_ rfl ⟨rfl, ?_⟩
      · simp [results, Try.results8, go_sem, At.cells, At.zero, y0, y1, y2, y3, y4, y5, y6]
      · refine (((((((hbel0.setCell ?_ _).setCell ?_ _).setCell ?_ _).setCell ?_ _).setCell ?_ _).setCell ?_ _).setCell ?_ _)
        all_goals simp
end Go.Proofs.Qxb6628968a
