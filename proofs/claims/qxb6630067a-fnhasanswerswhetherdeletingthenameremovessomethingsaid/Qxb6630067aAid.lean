import Derived.Test.Qxb6630067aRows
import Derived.WalkKit
import Derived.ProofKit
import Derived.Below
import Derived.WalkSpells
import Derived.WalkLawsBesides
import Derived.Outline
import Derived.BigQuiet
import Derived.Deep.QuietTactic
import Derived.Deep.DeepCutAuto
import Derived.Deep.LoopGhost
import Derived.Deep.MidRow
namespace Go.Proofs.Qxb6630067a
open Go.RowKit
set_option linter.unusedVariables false

/-- A slice of strings, as far as it is read: where there is an element the slice leads to a block below B. -/
def Row (B : Nat) (w : World) (a : Option Addr) (len : Nat) (f : Nat → ByteArray) : Prop :=
  ∀ i, i < len → ∃ b off, a = some ⟨b, off, none⟩ ∧ b < B ∧ w.cell? ⟨b, off + i, none⟩ = some (.string (f i))
theorem Row.later {B : Nat} {w w' : World} {a : Option Addr} {len : Nat} {f : Nat → ByteArray} (h : Row B w a len f) (hb : Below B w w') : Row B w' a len f := fun i hi => by
  obtain ⟨b, off, ha, hlt, hc⟩ := h i hi
  exact ⟨b, off, ha, hlt, (hb.cell (p := ⟨b, off + i, none⟩) hlt).trans hc⟩
theorem Row.short {B : Nat} {w : World} {a : Option Addr} {len n : Nat} {f : Nat → ByteArray} (h : Row B w a len f) (hn : n ≤ len) : Row B w a n f := fun i hi => h i (by omega)
theorem Row.more {B B' : Nat} {w : World} {a : Option Addr} {len : Nat} {f : Nat → ByteArray} (h : Row B w a len f) (hB : B ≤ B') : Row B' w a len f := fun i hi => by
  obtain ⟨b, off, ha, hlt, hc⟩ := h i hi
  exact ⟨b, off, ha, by omega, hc⟩

/-- Is x among the first n? -/
def same (a b : ByteArray) : Bool := a.toList == b.toList
def has (f : Nat → ByteArray) (n : Nat) (x : ByteArray) : Bool := (List.range n).any fun i => same (f i) x
theorem has_true {f : Nat → ByteArray} {n : Nat} {x : ByteArray} {k : Nat} (hk : k < n) (h : same (f k) x = true) : has f n x = true := by
  rw [has, List.any_eq_true]
  exact ⟨k, by simpa using hk, h⟩
theorem has_false {f : Nat → ByteArray} {n : Nat} {x : ByteArray} (h : ∀ k, k < n → same (f k) x = false) : has f n x = false := by
  rw [has, List.any_eq_false]
  intro k hk
  rw [h k (by simpa using hk)]
  simp
theorem has_iff {f : Nat → ByteArray} {n : Nat} {x : ByteArray} : has f n x = true ↔ ∃ k, k < n ∧ same (f k) x = true := by
  rw [has, List.any_eq_true]
  constructor
  · rintro ⟨k, hk, h⟩
    exact ⟨k, by simpa using hk, h⟩
  · rintro ⟨k, hk, h⟩
    exact ⟨k, by simpa using hk, h⟩

/-- It answers a bool, and nothing has turned. -/
def BoolEnd (w : World) (e : Ending) (w' : World) : Prop := ∃ b, e = .returned (.bool b) ∧ w' = w
/-- It answers a bool; false only where the first slice is no longer than 65536; nothing has turned. -/
def SizeEnd (nl : Nat) (w : World) (e : Ending) (w' : World) : Prop := ∃ b, e = .returned (.bool b) ∧ (b = false → nl ≤ 65536) ∧ w' = w
/-- Ends in this bool; nothing old has turned. -/
def BoolIs (b : Bool) (w : World) (e : Ending) (w' : World) : Prop := e = .returned (.bool b) ∧ Below w.heap.size w w'

set_option maxHeartbeats 2000000 in
theorem has_any (B : Nat) (w : World) (hB : B ≤ w.heap.size) (a : Option Addr) (len cap : Nat) (f : Nat → ByteArray) (h : Row B w a len f) (hm : len ≤ 9223372036854775807) (a' : Option Addr) (len' cap' : Nat) (x : ByteArray) :
    Calls Try.prog 7 #[.agg #[.slice a len cap, .slice a' len' cap'], .string x] w (BoolIs (has f len x) w) := by
  have H : Hid _ := h
  clear h
  go_enter Try.func7, Try.ntmps7
  go_wp2
  go_loopg [10] len (fun g v wr => ∃ k : Nat, k ≤ len ∧ g = len - k ∧ v = .int .i64 k ∧ wr = w.alloc (.cells #[.slice a len cap, .slice a' len' cap'] 26) ∧ ∀ i, i < k → same (f i) x = false)
  case atStart => exact ⟨0, Nat.zero_le _, rfl, rfl, rfl, fun i hi => absurd hi (Nat.not_lt_zero _)⟩
  case round =>
    obtain ⟨k, hk, hgk, rfl, hwr, hno⟩ := hrel
    subst hwr
    have HK : Hid (gk = len - k) := hgk
    have HN : Hid _ := hno
    clear hgk hno
    by_cases hlt : k < len
    · obtain ⟨b, off, rfl, hb, hc⟩ := Hid.out H k hlt
      have hcc : ∀ o, (w.alloc o).cell? ⟨b, off + k, none⟩ = some (.string (f k)) := fun o => (((Below.refl B w).alloc hB o).cell (p := ⟨b, off + k, none⟩) hb).trans hc
      cases hs : ((f k).toList == x.toList) with
      | true =>
        have HS : Hid (same (f k) x = true) := hs
        go_wp2
        go_ret
        exact ⟨by rw [has_true hlt HS.out]; rfl, (Below.refl _ _).alloc (Nat.le_refl _) _⟩
      | false =>
        have HS : Hid (same (f k) x = false) := hs
        go_wp2
        go_roundg (len - (k + 1))
        case rel =>
          refine ⟨k + 1, by omega, rfl, by go_num, rfl, fun i hi => ?_⟩
          by_cases e : i = k
          · rw [e]; exact HS.out
          · exact Hid.out HN i (by omega)
        case measure => have := HK.out; omega
    · go_wp2
      go_ret
      exact ⟨by rw [has_false (fun i hi => Hid.out HN i (by omega))]; rfl, (Below.refl _ _).alloc (Nat.le_refl _) _⟩
end Go.Proofs.Qxb6630067a
