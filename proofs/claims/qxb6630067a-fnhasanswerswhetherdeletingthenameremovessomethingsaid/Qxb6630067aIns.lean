import Derived.Test.Qxb6630067aAid
namespace Go.Proofs.Qxb6630067a
open Go.RowKit
set_option linter.unusedVariables false

theorem info9 : (Try.prog.info? 9).map (fun i => (i.zero, i.size, i.bytes)) = some (some (.string ⟨#[]⟩), 1, 16) := by kernel_rfl
/-- 'make([]string, l, n)'. -/
theorem make_run (l n : Nat) (hl : l ≤ n) (hn : n ≤ 2097152) : ∃ C : Array Value, C.size = n ∧ ∀ W : World,
    (Instr.makeSlice 22 (.int .i64 (l : Int)) (.int .i64 (n : Int))).run Try.prog W = .ok (.slice (some ⟨W.heap.size, 0, none⟩) l n) (W.alloc (.cells C 9)) := by
  obtain ⟨i, hi, hz, hs, hb⟩ := info_parts info9
  refine ⟨madeCells (Value.string ⟨#[]⟩).cells (n * 1), by rw [size_madeCells]; omega, fun W => ?_⟩
  have := run_make (P := Try.prog) W 22 9 i _ Try.underlying22 hi hz .i64 .i64 l n (by omega) (by omega) (by rw [hb]; omega) (by omega)
  simp only [Int.toNat_natCast, hs] at this
  exact this

/-- The block g is a row of n strings that may be written; the first k are F 0, F 1, .. -/
structure Fil (g n k : Nat) (F : Nat → ByteArray) (w : World) : Prop where
  lt : g < w.heap.size
  room : w.there g 0 n
  at_ : ∀ i, i < k → w.cell? ⟨g, i, none⟩ = some (.string (F i))
theorem Fil.made (w : World) (C : Array Value) (n : Nat) (F : Nat → ByteArray) (hC : C.size = n) : Fil w.heap.size n 0 F (w.alloc (.cells C 9)) := by
  have h := heap_alloc_new w (.cells C 9)
  refine ⟨by simp, fun j hj => ?_, fun i hi => absurd hi (Nat.not_lt_zero _)⟩
  constructor
  · rw [cell_of_row _ _ _ _ _ _ h, Nat.zero_add, Array.getElem?_eq_getElem (show j < C.size by omega)]
    rfl
  · show (match (w.alloc (.cells C 9)).heap[w.heap.size]? with | some (.cells _ _ (lo, hi)) => decide (lo ≤ 0 + j) && decide (0 + j < hi) | _ => false) = false
    rw [h]
    simp
theorem Fil.there1 {g n k : Nat} {F : Nat → ByteArray} {w : World} (h : Fil g n k F w) {j : Nat} (hj : j < n) : (∃ z, w.cell? ⟨g, j, none⟩ = some z) ∧ w.frozen? ⟨g, j, none⟩ = false := by
  have := h.room j hj
  rw [Nat.zero_add] at this
  exact ⟨Option.isSome_iff_exists.1 this.1, this.2⟩
theorem Fil.put {g n k : Nat} {F : Nat → ByteArray} {w : World} (h : Fil g n k F w) (hk : k < n) : Fil g n (k + 1) F (w.setCell ⟨g, k, none⟩ (.string (F k))) := by
  obtain ⟨⟨z, hz⟩, _⟩ := h.there1 hk
  refine ⟨by simpa [World.setCell] using h.lt, World.there_setCells h.room g k [.string (F k)], fun i hi => ?_⟩
  by_cases e : i = k
  · subst e
    exact World.cell?_setCell_same _ _ _ hz
  · rw [World.cell?_setCell_other _ _ _ _ (fun hh => e (congrArg Addr.off hh).symm)]
    exact h.at_ i (by omega)
theorem Fil.row {g n k : Nat} {F : Nat → ByteArray} {w : World} (h : Fil g n k F w) : Row w.heap.size w (some ⟨g, 0, none⟩) k F := fun i hi =>
  ⟨g, 0, rfl, h.lt, by rw [Nat.zero_add]; exact h.at_ i hi⟩

/-- x put in at place c. -/
def insF (f : Nat → ByteArray) (c : Nat) (x : ByteArray) (i : Nat) : ByteArray := if i < c then f i else if i = c then x else f (i - 1)
theorem insF_before {f : Nat → ByteArray} {c : Nat} {x : ByteArray} {i : Nat} (h : i < c) : insF f c x i = f i := by simp [insF, h]
theorem insF_there {f : Nat → ByteArray} {c : Nat} {x : ByteArray} : insF f c x c = x := by simp [insF]
theorem insF_behind {f : Nat → ByteArray} {c : Nat} {x : ByteArray} {i : Nat} (h : c ≤ i) : insF f c x (i + 1) = f i := by
  have h1 : ¬ i + 1 < c := by omega
  have h2 : ¬ i + 1 = c := by omega
  simp [insF, h1, h2]

/-- Ends in a new slice that holds F; nothing old has turned. -/
def NewEnd (F : Nat → ByteArray) (n : Nat) (w : World) (e : Ending) (w' : World) : Prop := ∃ a, e = .returned (.slice a n n) ∧ Row w'.heap.size w' a n F ∧ Below w.heap.size w w'

set_option maxHeartbeats 2000000 in
theorem ins_any (B : Nat) (w : World) (hB : B ≤ w.heap.size) (a : Option Addr) (len cap : Nat) (f : Nat → ByteArray) (h : Row B w a len f) (hm : len ≤ 65536) (c : Nat) (hc : c ≤ len) (x : ByteArray) :
    Calls Try.prog 8 #[.slice a len cap, .int .i64 (c : Int), .string x] w (NewEnd (insF f c x) (len + 1) w) := by
  obtain ⟨C, hC, hmk⟩ := make_run (len + 1) (len + 1) (Nat.le_refl _) (by omega)
  have hmk : ∀ W : World, (Instr.makeSlice 22 (.int .i64 ((len : Int) + 1)) (.int .i64 ((len : Int) + 1))).run Try.prog W = .ok (.slice (some ⟨W.heap.size, 0, none⟩) (len + 1) (len + 1)) (W.alloc (.cells C 9)) := hmk
  have H : Hid _ := h
  have HC : Hid _ := hC
  have hl : len ≤ 9223372036854775806 := by omega
  clear h hC hm
  go_enter Try.func8, Try.ntmps8
  go_wp2
  clear hmk
  go_loopg [8] c (fun g v wr => ∃ k : Nat, k ≤ c ∧ g = c - k ∧ v = .int .i64 k ∧ Below w.heap.size w wr ∧ Fil w.heap.size (len + 1) k (insF f c x) wr)
  case atStart => exact ⟨0, Nat.zero_le _, rfl, rfl, (Below.refl _ _).alloc (Nat.le_refl _) _, Fil.made w C (len + 1) _ HC.out⟩
  case round =>
    obtain ⟨k, hk, hgk, rfl, hbel, hfil⟩ := hrel
    have HK : Hid (gk = c - k) := hgk
    have HBl : Hid _ := hbel
    have HFl : Hid _ := hfil
    clear hgk
    by_cases hlt : k < c
    · obtain ⟨b, off, rfl, hb, hcc⟩ := Hid.out H k (by omega)
      have c0 : wr.cell? ⟨b, off + k, none⟩ = some (.string (insF f c x k)) := by
        rw [insF_before hlt]
        exact (hbel.cell (p := ⟨b, off + k, none⟩) (by show b < _; omega)).trans hcc
      obtain ⟨⟨z, hz⟩, hfz⟩ := hfil.there1 (j := k) (by omega)
      have hkl : (k : Int) < (len : Int) := by omega
      clear hcc hbel hfil
      go_wp2
      go_roundg (c - (k + 1))
      case rel => exact ⟨k + 1, by omega, rfl, by go_num, HBl.out.setCell (Nat.le_refl _) _, HFl.out.put (by omega)⟩
      case measure => have := HK.out; omega
    · have e : c = k := by omega
      subst e
      obtain ⟨⟨z, hz⟩, hfz⟩ := hfil.there1 (j := c) (by omega)
      clear hlt hbel hfil HK hk
      go_wp2
      go_loopg [9] (len - c) (fun g v wr => ∃ k : Nat, c ≤ k ∧ k ≤ len ∧ g = len - k ∧ v = .int .i64 k ∧ Below w.heap.size w wr ∧ Fil w.heap.size (len + 1) (k + 1) (insF f c x) wr)
      case atStart =>
        refine ⟨c, Nat.le_refl _, hc, rfl, rfl, HBl.out.setCell (Nat.le_refl _) _, ?_⟩
        have q := HFl.out.put (show c < len + 1 by omega)
        rw [insF_there] at q
        exact q
      case round =>
        clear hz hfz HBl HFl
        obtain ⟨k, hck, hk, hgk, rfl, hbel, hfil⟩ := hrel
        have HK : Hid (gk = len - k) := hgk
        have HBl : Hid _ := hbel
        have HFl : Hid _ := hfil
        clear hgk
        by_cases hlt : k < len
        · obtain ⟨b, off, rfl, hb, hcc⟩ := Hid.out H k hlt
          have c0 : wr.cell? ⟨b, off + k, none⟩ = some (.string (insF f c x (k + 1))) := by
            rw [insF_behind hck]
            exact (hbel.cell (p := ⟨b, off + k, none⟩) (by show b < _; omega)).trans hcc
          obtain ⟨⟨z, hz⟩, hfz⟩ := hfil.there1 (j := k + 1) (by omega)
          clear hcc hbel hfil
          go_wp2
          go_roundg (len - (k + 1))
          case rel => exact ⟨k + 1, by omega, by omega, rfl, by go_num, HBl.out.setCell (Nat.le_refl _) _, HFl.out.put (by omega)⟩
          case measure => have := HK.out; omega
        · go_wp2
          go_ret
          have e : k = len := by omega
          subst e
          exact ⟨_, rfl, HFl.out.row, HBl.out⟩
end Go.Proofs.Qxb6630067a
