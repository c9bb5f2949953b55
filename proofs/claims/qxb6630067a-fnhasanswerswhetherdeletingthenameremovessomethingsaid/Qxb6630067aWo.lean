import Derived.Test.Qxb6630067aIns
namespace Go.Proofs.Qxb6630067a
open Go.RowKit
set_option linter.unusedVariables false

/-- What is left of the first k when all that equal x are taken out. -/
structure Kept (f : Nat → ByteArray) (x : ByteArray) (k : Nat) (l : List ByteArray) : Prop where
  all : ∀ s ∈ l, same s x = false
  le : l.length ≤ k
  full : l.length = k → ∀ i, i < k → same (f i) x = false
  less : l.length < k → ∃ i, i < k ∧ same (f i) x = true
theorem Kept.keep {f : Nat → ByteArray} {x : ByteArray} {k : Nat} {l : List ByteArray} (h : Kept f x k l) (hs : same (f k) x = false) : Kept f x (k + 1) (l ++ [f k]) := by
  have hle := h.le
  refine ⟨fun s hm => ?_, by simp; omega, fun e i hi => ?_, fun e => ?_⟩
  · rcases List.mem_append.1 hm with hm | hm
    · exact h.all s hm
    · simp at hm; subst hm; exact hs
  · simp at e
    by_cases he : i = k
    · rw [he]; exact hs
    · exact h.full (by omega) i (by omega)
  · simp at e
    obtain ⟨i, hi, hx⟩ := h.less (by omega)
    exact ⟨i, by omega, hx⟩
theorem Kept.drop {f : Nat → ByteArray} {x : ByteArray} {k : Nat} {l : List ByteArray} (h : Kept f x k l) (hs : same (f k) x = true) : Kept f x (k + 1) l := by
  have hle := h.le
  exact ⟨h.all, by omega, fun e => by omega, fun _ => ⟨k, by omega, hs⟩⟩

def strs (l : List ByteArray) : List Value := l.map Value.string
/-- The block g holds the strings of the list l, and has room for n. -/
structure Own (g n q : Nat) (l : List ByteArray) (w : World) : Prop where
  hlen : l.length = q
  own : w.ownsRow g 9 1 (.slice (some ⟨g, 0, none⟩) q n) q (strs l)
theorem Own.grew {g cap q : Nat} {x : List ByteArray} {c : ByteArray} {w w' : World} (h : Own g cap q x w) (hown : w'.ownsRow g 9 1 (.slice (some ⟨g, 0, none⟩) (q + 1) cap) (q + 1) (strs x ++ [.string c])) : Own g cap (q + 1) (x ++ [c]) w' :=
  ⟨by rw [List.length_append, h.hlen]; rfl, by rw [show strs (x ++ [c]) = strs x ++ [.string c] from by simp [strs]]; exact hown⟩
theorem below_grew {g B : Nat} {w W w' : World} {o : Obj} (h : Below B w W) (hg : (W.alloc o).grownBy w' (some g)) (hB : B ≤ g) (hB2 : B ≤ W.heap.size) : Below B w w' :=
  (h.alloc hB2 o).grown hg (by simp; omega) (fun k e => by have := Option.some.inj e; omega)
theorem news_one (w : World) (c : ByteArray) (j : Nat) (u : Value) (hj : [Value.string c][j]? = some u) : (w.alloc (.cells #[.string c] 9)).cell? ((⟨w.heap.size, 0, none⟩ : Addr).add j) = some u := by
  match j, hj with
  | 0, hj => simp at hj; subst hj; simp [Addr.add]
theorem one_one (c : ByteArray) : ∀ u ∈ [Value.string c], u.oneCell' = true := by intro u hu; simp at hu; subst hu; rfl
theorem Own.row {g n q : Nat} {l : List ByteArray} {w : World} (h : Own g n q l w) : Row w.heap.size w (some ⟨g, 0, none⟩) q (fun i => l.getD i ⟨#[]⟩) := fun i hi => by
  refine ⟨g, 0, rfl, (World.ownsRow.lt h.own g rfl).2, ?_⟩
  have hl := h.hlen
  rw [Nat.zero_add, World.ownsRow.cellAt h.own i (by omega), strs, List.getElem?_map, List.getElem?_eq_getElem (by omega)]
  show some (Value.string l[i]) = some (Value.string (l.getD i ⟨#[]⟩))
  rw [List.getD_eq_getElem?_getD, List.getElem?_eq_getElem (by omega)]
  rfl

/-- Ends in what is left, in a new slice; nothing old has turned. -/
def WoEnd (f : Nat → ByteArray) (x : ByteArray) (len : Nat) (w : World) (e : Ending) (w' : World) : Prop :=
  ∃ (a : Option Addr) (q : Nat) (l : List ByteArray), e = .returned (.slice a q len) ∧ l.length = q ∧ Kept f x len l ∧ Row w'.heap.size w' a q (fun i => l.getD i ⟨#[]⟩) ∧ Below w.heap.size w w'

set_option maxHeartbeats 2000000 in
theorem wo_any (B : Nat) (w : World) (hB : B ≤ w.heap.size) (a : Option Addr) (len cap : Nat) (f : Nat → ByteArray) (h : Row B w a len f) (hm : len ≤ 65536) (x : ByteArray) :
    Calls Try.prog 10 #[.slice a len cap, .string x] w (WoEnd f x len w) := by
  obtain ⟨C, hC, hmk⟩ := make_run 0 len (Nat.zero_le _) (by omega)
  have hmk : ∀ W : World, (Instr.makeSlice 22 (.int .i64 0) (.int .i64 (len : Int))).run Try.prog W = .ok (.slice (some ⟨W.heap.size, 0, none⟩) 0 len) (W.alloc (.cells C 9)) := hmk
  obtain ⟨i0, hi0, hz0, hz1, hzb⟩ := info_parts info9
  have HI0 : Hid _ := hi0
  have HZ1 : Hid _ := hz1
  have H : Hid _ := h
  have HC : Hid _ := hC
  have hl : len ≤ 9223372036854775806 := by omega
  clear h hC hm hi0 hz0 hz1 hzb
  go_enter Try.func10, Try.ntmps10
  go_wp2_with fail
  clear hmk
  go_loopg [5, 6] len (fun g v1 v2 wr => ∃ (k q : Nat) (l : List ByteArray), k ≤ len ∧ g = len - k ∧ v1 = .slice (some ⟨w.heap.size, 0, none⟩) q len ∧ v2 = .int .i64 k ∧ q ≤ k ∧ Kept f x k l ∧ Below w.heap.size w wr ∧ Own w.heap.size len q l wr)
  case atStart =>
    exact ⟨0, 0, [], Nat.zero_le _, rfl, rfl, rfl, Nat.le_refl _, ⟨fun s hs => absurd hs (by simp), Nat.le_refl _, fun _ i hi => absurd hi (Nat.not_lt_zero _), fun h => absurd h (by simp)⟩, (Below.refl _ _).alloc (Nat.le_refl _) _, rfl, World.ownsRow_made w C len (Nat.le_refl _) (by unfold maxLen; omega) (by rw [HC.out]; omega)⟩
  case round =>
    obtain ⟨k, q, l, hk, hgk, rfl, rfl, hqk, hkept, hbel, hown⟩ := hrel
    have HK : Hid (gk = len - k) := hgk
    have HKP : Hid _ := hkept
    have HBl : Hid _ := hbel
    have HO : Hid _ := hown
    clear hgk hkept
    by_cases hlt : k < len
    · obtain ⟨b, off, rfl, hb, hc⟩ := Hid.out H k hlt
      have hcc : wr.cell? ⟨b, off + k, none⟩ = some (.string (f k)) := (hbel.cell (p := ⟨b, off + k, none⟩) (by show b < _; omega)).trans hc
      clear hc hbel hown
      cases hs : ((f k).toList == x.toList) with
      | true =>
        have HS : Hid (same (f k) x = true) := hs
        go_wp2_with fail
        go_roundg (len - (k + 1))
        case rel => exact ⟨k + 1, q, l, by omega, rfl, rfl, by go_num, by omega, Kept.drop (Hid.out HKP) HS.out, HBl.out, HO.out⟩
        case measure => have := HK.out; omega
      | false =>
        have HS : Hid (same (f k) x = false) := hs
        go_wp2_with (at_builtin; refine wpList_append_fits _ rfl (.tmp 22) (.tmp 27) 22 rfl w.heap.size 9 i0 1 Try.underlying22 HI0.out HZ1.out w.heap.size q len (strs l) rfl (World.ownsRow.alloc (Hid.out HO).own _) ⟨wr.heap.size, 0, none⟩ 1 1 [.string (f k)] rfl rfl (news_one wr (f k)) (one_one (f k)) (by omega) ?_)
        intro w3 hown3 hgrow
        have HO3 : Hid _ := Own.grew (Hid.out HO) hown3
        have HB3 : Hid _ := below_grew (Hid.out HBl) hgrow (Nat.le_refl _) HBl.out.size
        clear hown3 hgrow
        go_wp2_with fail
        go_roundg (len - (k + 1))
        case rel => exact ⟨k + 1, q + 1, l ++ [f k], by omega, rfl, rfl, by go_num, by omega, Kept.keep (Hid.out HKP) HS.out, HB3.out, HO3.out⟩
        case measure => have := HK.out; omega
    · have e : k = len := by omega
      subst e
      clear hbel hown
      go_wp2_with fail
      go_ret
      exact ⟨_, q, l, rfl, (Hid.out HO).hlen, HKP.out, (Hid.out HO).row, HBl.out⟩
end Go.Proofs.Qxb6630067a
