import Derived.Test.Qxb6628968aRows
import Derived.WalkKit
import Derived.ProofKit
import Derived.Below
import Derived.WalkSpells
import Derived.WalkLawsBesides
import Derived.Outline
import Derived.BigQuiet
import Derived.Deep.QuietTactic
import Derived.Deep.DeepCutAuto
import Derived.Deep.LoopGhost
import Derived.Deep.MidRow
namespace Go.Proofs.Qxb6628968a
open Go.RowKit

/-- A slice's cells, as far as they are read: where there is an element the slice leads to a block below B. -/
def Row (B : Nat) (w : World) (a : Option Addr) (len : Nat) (f : Nat → Value) : Prop :=
  ∀ i, i < len → ∃ b off, a = some ⟨b, off, none⟩ ∧ b < B ∧ w.cell? ⟨b, off + i, none⟩ = some (f i)

theorem Row.later {B : Nat} {w w' : World} {a : Option Addr} {len : Nat} {f : Nat → Value} (h : Row B w a len f) (hb : Below B w w') : Row B w' a len f := fun i hi => by
  obtain ⟨b, off, ha, hlt, hc⟩ := h i hi
  exact ⟨b, off, ha, hlt, (hb.cell (p := ⟨b, off + i, none⟩) hlt).trans hc⟩

theorem bcell {B : Nat} {W w1 : World} (hb : Below B W w1) : (∀ b o, b < B → w1.cell? ⟨b, o, none⟩ = W.cell? ⟨b, o, none⟩) ∧ (∀ b o, b < B → w1.frozen? ⟨b, o, none⟩ = W.frozen? ⟨b, o, none⟩) :=
  ⟨fun b o h => hb.cell (p := ⟨b, o, none⟩) h, fun b o h => hb.frozen (p := ⟨b, o, none⟩) h⟩

/-- What attribute i's fields are. -/
def strAt (l : Nat) (f : Nat → ByteArray) (i : Nat) : ByteArray := if i < l then f i else ⟨#[]⟩
def intAt (l : Nat) (f : Nat → Int) (i : Nat) : Int := if i < l then f i else 0
def boolAt (l : Nat) (f : Nat → Bool) (i : Nat) : Bool := if i < l then f i else false
def addrAt (l : Nat) (f : Nat → Option Addr) (i : Nat) : Option Addr := if i < l then f i else none
def natAt (l : Nat) (f : Nat → Nat) (i : Nat) : Nat := if i < l then f i else 0

/-- An attribute: its seven cells. -/
structure At where
  s : ByteArray
  n : Int
  l : Bool
  a : Option Addr
  len : Nat
  cap : Nat
  x : Bool
  k : Bool
  d : Bool
def At.zero : At := ⟨⟨#[]⟩, 0, false, none, 0, 0, false, false, false⟩
def At.cells (t : At) : List Value := [.string t.s, .int .i64 t.n, .bool t.l, .slice t.a t.len t.cap, .bool t.x, .bool t.k, .bool t.d]

/-- A slice of attributes: element j's seven cells. -/
def Rows7 (B : Nat) (w : World) (a : Option Addr) (len : Nat) (f : Nat → At) : Prop :=
  ∀ i, i < len → ∃ b off, a = some ⟨b, off, none⟩ ∧ b < B ∧ ∀ j v, (f i).cells[j]? = some v → w.cell? ⟨b, off + i * 7 + j, none⟩ = some v

theorem Rows7.later {B : Nat} {w w' : World} {a : Option Addr} {len : Nat} {f : Nat → At} (h : Rows7 B w a len f) (hb : Below B w w') : Rows7 B w' a len f := fun i hi => by
  obtain ⟨b, off, ha, hlt, hc⟩ := h i hi
  exact ⟨b, off, ha, hlt, fun j v hv => (hb.cell (p := ⟨b, off + i * 7 + j, none⟩) hlt).trans (hc j v hv)⟩

theorem cells7 {w : World} {b o : Nat} {t : At} (h : ∀ j v, t.cells[j]? = some v → w.cell? ⟨b, o + j, none⟩ = some v) :
    w.cell? ⟨b, o, none⟩ = some (.string t.s) ∧ w.cell? ⟨b, o + 1, none⟩ = some (.int .i64 t.n) ∧ w.cell? ⟨b, o + 2, none⟩ = some (.bool t.l) ∧ w.cell? ⟨b, o + 3, none⟩ = some (.slice t.a t.len t.cap) ∧
      w.cell? ⟨b, o + 4, none⟩ = some (.bool t.x) ∧ w.cell? ⟨b, o + 5, none⟩ = some (.bool t.k) ∧ w.cell? ⟨b, o + 6, none⟩ = some (.bool t.d) :=
  ⟨h 0 _ rfl, h 1 _ rfl, h 2 _ rfl, h 3 _ rfl, h 4 _ rfl, h 5 _ rfl, h 6 _ rfl⟩

theorem zero7 (w : World) (wr : World) (h : Below (w.heap.size + 1) (w.alloc (.cells #[.string ⟨#[]⟩, .int .i64 0, .bool false, .slice none 0 0, .bool false, .bool false, .bool false] 35)) wr) :
    (∀ j, j < 7 → ∃ v, wr.cell? ⟨w.heap.size, j, none⟩ = some v) ∧ ∀ j, wr.frozen? ⟨w.heap.size, j, none⟩ = false := by
  constructor
  · intro j hj
    rw [h.cell (p := ⟨w.heap.size, j, none⟩) (Nat.lt_succ_self _)]
    match j, hj with
    | 0, _ | 1, _ | 2, _ | 3, _ | 4, _ | 5, _ | 6, _ => exact Option.isSome_iff_exists.1 (by go_simp)
  · intro j
    rw [h.frozen (p := ⟨w.heap.size, j, none⟩) (Nat.lt_succ_self _)]
    go_simp

/-- The first place below m at which x holds. -/
def fst (x : Nat → Bool) : Nat → Option Nat
  | 0 => none
  | m + 1 => match fst x m with
    | some j => some j
    | none => if x m then some m else none

end Go.Proofs.Qxb6628968a
