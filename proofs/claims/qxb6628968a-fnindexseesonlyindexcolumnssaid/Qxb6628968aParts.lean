import Derived.Test.Qxb6628968aAttr
import Derived.Test.Qxb6628968aSame
import Derived.Test.Qxb6628968aIndex
import Derived.Test.Qxb6628968aBytes
import Derived.Test.Qxb6628968aSize
import Derived.Test.Qxb6628968aMem
import Derived.Deep.RegionHeld3
import Derived.Deep.DrawnRows
namespace Go.Proofs.Qxb6628968a
open Go.RowKit
set_option linter.unusedVariables false

/-- The attribute whose fields come from the seven slices. -/
def atOf (nl : Nat) (nf : Nat → ByteArray) (bl : Nat) (bf : Nat → Int) (ll : Nat) (lf : Nat → Bool) (sl : Nat) (sA : Nat → Option Addr) (sL sC : Nat → Nat) (xf : Nat → Bool) (kl : Nat) (kf : Nat → Bool) (dl : Nat) (df : Nat → Bool) (i : Nat) : At :=
  ⟨strAt nl nf i, intAt bl bf i, boolAt ll lf i, addrAt sl sA i, natAt sl sL i, natAt sl sC i, xf i, boolAt kl kf i, boolAt dl df i⟩

/-- Ends in an attribute; nothing old has turned. -/
def AttrEnd (t : At) (w : World) (e : Ending) (w' : World) : Prop :=
  e = .returned (.agg #[.string t.s, .int .i64 t.n, .bool t.l, .slice t.a t.len t.cap, .bool t.x, .bool t.k, .bool t.d]) ∧ Below w.heap.size w w'

/-- Ends in what Index answers. -/
def IndexEnd (f : Nat → At) (m : Nat) (w : World) (e : Ending) (w' : World) : Prop :=
  ∃ t b, e = .returned (.tuple #[.agg #[.string t.s, .int .i64 t.n, .bool t.l, .slice t.a t.len t.cap, .bool t.x, .bool t.k, .bool t.d], .bool b]) ∧ FirstOf f m t b ∧ Below w.heap.size w w'

theorem first_dec (x : Nat → Bool) (m : Nat) : (∃ j, j < m ∧ x j = true ∧ ∀ i, i < j → x i = false) ∨ ∀ i, i < m → x i = false := by
  induction m with
  | zero => exact .inr fun i hi => absurd hi (Nat.not_lt_zero _)
  | succ m ih =>
    rcases ih with ⟨j, hj, h⟩ | h
    · exact .inl ⟨j, by omega, h⟩
    · cases hx : x m with
      | true => exact .inl ⟨m, by omega, hx, h⟩
      | false =>
        refine .inr fun i hi => ?_
        by_cases e : i = m
        · rw [e]; exact hx
        · exact h i (by omega)

theorem index_any (B : Nat) (w : World) (hB : B ≤ w.heap.size) (gb : Nat) (hgb : gb < B) (a : Option Addr) (m c : Nat) (f : Nat → At) (hg : w.cell? ⟨gb, 2, none⟩ = some (.slice a m c))
    (hf : Rows7 B w a m f) (hm : m ≤ maxLen) : Calls Try.prog 8 #[.pointer (some ⟨gb, 0, none⟩)] w (IndexEnd f m w) := by
  rcases first_dec (fun i => (f i).x) m with ⟨j, hj, hx, hl⟩ | hl
  · exact (index_some B w hB gb hgb a m c f hg hf hm j hj hx hl).mono fun e w' ⟨he, hb⟩ => ⟨f j, true, he, .inl ⟨j, hj, hx, hl, rfl, rfl⟩, hb⟩
  · exact (index_none B w hB gb hgb a m c f hg hf hm hl).mono fun e w' ⟨he, hb⟩ => ⟨At.zero, false, he, .inr ⟨hl, rfl, rfl⟩, hb⟩

/-- Ends in true; nothing old has turned. -/
def TrueEnd (w : World) (e : Ending) (w' : World) : Prop := e = .returned (.bool true) ∧ Below w.heap.size w w'

theorem same_good (B : Nat) (w : World) (hB : B ≤ w.heap.size) (t : At) (h : Good B w t) :
    Calls Try.prog 9 #[.agg #[.string t.s, .int .i64 t.n, .bool t.l, .slice t.a t.len t.cap, .bool t.x, .bool t.k, .bool t.d], .agg #[.string t.s, .int .i64 t.n, .bool t.l, .slice t.a t.len t.cap, .bool t.x, .bool t.k, .bool t.d]] w (TrueEnd w) := by
  obtain ⟨vf, h1, h2⟩ := h
  exact same_any B w hB _ _ _ _ _ _ _ _ _ vf h1 h2

theorem size_any (B : Nat) (w : World) (gn gt : ByteArray) (na ba la sa ia ka da : Option Addr) (nl nc bl bc ll lc sl sc il ic kl kc dl dc : Nat)
    (nf : Nat → ByteArray) (sA : Nat → Option Addr) (sL sC : Nat → Nat)
    (hn : Row B w na nl (fun i => .string (nf i))) (hs : Row B w sa sl (fun i => .slice (sA i) (sL i) (sC i))) (hnl : nl ≤ maxLen) (hsl : sl ≤ maxLen) :
    Calls Try.prog 6 #[.string gn, .string gt, .slice na nl nc, .slice ba bl bc, .slice la ll lc, .slice sa sl sc, .slice ia il ic, .slice ka kl kc, .slice da dl dc] w (SizeEnd il w) := by
  by_cases h : il ≤ 65536
  · exact size_short B w gn gt na ba la sa ia ka da nl nc bl bc ll lc sl sc il ic kl kc dl dc nf sA sL sC hn hs hnl hsl h
  · exact size_long w gn gt na ba la sa ia ka da nl nc bl bc ll lc sl sc il ic kl kc dl dc (by omega)

/-- 'make([]definition.Attribute, l, n)': a block of n * 7 cells. -/
theorem make_run (l n : Nat) (hl : l ≤ n) (hn : n ≤ 65536) : ∃ C : Array Value, C.size = n * 7 ∧ ∀ W : World,
    (Instr.makeSlice 28 (.int .i64 (l : Int)) (.int .i64 (n : Int))).run Try.prog W = .ok (.slice (some ⟨W.heap.size, 0, none⟩) l n) (W.alloc (.cells C 35)) := by
  have hinfo : (Try.prog.info? 35).map (fun i => (i.zero, i.size, i.bytes)) = some (some (.agg #[.string ⟨#[]⟩, .int .i64 0, .bool false, .slice none 0 0, .bool false, .bool false, .bool false]), 7, 64) := by kernel_rfl
  obtain ⟨i, hi, hz, hs, hb⟩ := info_parts hinfo
  refine ⟨madeCells (Value.agg #[.string ⟨#[]⟩, .int .i64 0, .bool false, .slice none 0 0, .bool false, .bool false, .bool false]).cells (n * 7), size_madeCells _ _, fun W => ?_⟩
  · have := run_make (P := Try.prog) W 28 35 i _ Try.underlying28 hi hz .i64 .i64 l n (by omega) (by omega) (by rw [hb]; omega) (by omega)
    simp only [Int.toNat_natCast, hs] at this
    exact this
theorem below_of_drew {w w' : World} (h : Below w.drew.heap.size w.drew w') : Below w.heap.size w w' := (Below.refl _ w).drew.trans h
theorem size35 : (Try.prog.info? 35).map (·.size) = some 7 := by kernel_rfl
end Go.Proofs.Qxb6628968a
