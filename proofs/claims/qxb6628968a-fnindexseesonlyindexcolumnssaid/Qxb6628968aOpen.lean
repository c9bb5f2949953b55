import Derived.Test.Qxb6628968aParts
import Derived.Deep.Grids
import Derived.Deep.Matrix
import Derived.Deep.Strs
import Derived.OpenShut
import Derived.ShutString
import Derived.ChangeOld
namespace Go.Proofs.Qxb6628968a
open Go.RowKit Go.Deep Go.ChangeShapes Go.WideShapes Go.ChangeAt
set_option linter.unusedVariables false

theorem row_of {W : World} {a : Addr} {len : Nat} {f : Nat → Value} (h : ∀ i, i < len → W.cell? (a.add i) = some (f i)) : Row W.heap.size W (some a) len f := fun i hi => by
  have hc := h i hi
  obtain ⟨b, off, spot⟩ := a
  have hs : spot = none := by simpa [Addr.add] using World.cell?_spot (h 0 (by omega))
  subst hs
  rw [Addr.add_mid] at hc
  exact ⟨b, off, rfl, World.block_lt_of_cell? W _ hc, hc⟩

theorem row_none {W : World} (f : Nat → Value) (a : Option Addr) : Row W.heap.size W a 0 f := fun i hi => absurd hi (Nat.not_lt_zero _)

variable {H : Type} {enc : TypeId × Value → H} {W : World} {held : Bool} {fuel : Nat} {a : Option Addr} {len cap : Nat} {x : DataW H × List MemPlace}

theorem row_strs (h : DataW.trod enc Try.prog W 0 (fun _ => true) held fuel 22 [.slice a len cap] = some x) : ∃ f : Nat → ByteArray, Row W.heap.size W a len (fun i => .string (f i)) ∧ len ≤ maxLen := by
  rcases open_strs Try.underlying22 Try.underlying9 (by kernel_rfl) h with ⟨hcs, _⟩ | ⟨a', l, c, m, f, hcs, _, hl, hm, hmm, _, hc⟩
  · simp at hcs
    obtain ⟨rfl, rfl, rfl⟩ := hcs
    exact ⟨fun _ => ⟨#[]⟩, row_none _ _, Nat.zero_le _⟩
  · simp at hcs
    obtain ⟨rfl, rfl, rfl⟩ := hcs
    simp only [if_true] at hmm
    exact ⟨f, row_of (fun i hi => (hc i (by omega)).1), by omega⟩

theorem row_ints (h : DataW.trod enc Try.prog W 0 (fun _ => true) held fuel 23 [.slice a len cap] = some x) : ∃ f : Nat → Int, Row W.heap.size W a len (fun i => .int .i64 (f i)) ∧ len ≤ maxLen := by
  rcases open_ints Try.underlying23 Try.underlying3 (by kernel_rfl) h with ⟨hcs, _⟩ | ⟨a', l, c, zs, hcs, _, hl, hm, hmm, _, hc, _⟩
  · simp at hcs
    obtain ⟨rfl, rfl, rfl⟩ := hcs
    exact ⟨fun _ => 0, row_none _ _, Nat.zero_le _⟩
  · simp at hcs
    obtain ⟨rfl, rfl, rfl⟩ := hcs
    simp only [if_true] at hmm
    exact ⟨fun i => zs.getD i 0, row_of (fun i hi => hc i (by omega)), by omega⟩

theorem row_bools (h : DataW.trod enc Try.prog W 0 (fun _ => true) held fuel 24 [.slice a len cap] = some x) : ∃ f : Nat → Bool, Row W.heap.size W a len (fun i => .bool (f i)) ∧ len ≤ maxLen := by
  rcases open_bools Try.underlying24 Try.underlying4 (by kernel_rfl) h with ⟨hcs, _⟩ | ⟨a', l, c, f, hcs, _, hl, hm, _, hc⟩
  · simp at hcs
    obtain ⟨rfl, rfl, rfl⟩ := hcs
    exact ⟨fun _ => false, row_none _ _, Nat.zero_le _⟩
  · simp at hcs
    obtain ⟨rfl, rfl, rfl⟩ := hcs
    exact ⟨f, row_of (fun i hi => hc i (by omega)), by omega⟩

theorem row_rows (h : DataW.trod enc Try.prog W 0 (fun _ => true) held fuel 25 [.slice a len cap] = some x) : ∃ (A : Nat → Option Addr) (L C : Nat → Nat),
    Row W.heap.size W a len (fun i => .slice (A i) (L i) (C i)) ∧ len ≤ maxLen ∧ ∀ i, i < len → ∃ vf : Nat → Int, Row W.heap.size W (A i) (L i) (fun j => .int .u32 (vf j)) ∧ L i ≤ maxLen := by
  rcases open_int_rows Try.underlying25 Try.underlying32 Try.underlying43 (by kernel_rfl) (by kernel_rfl) h with ⟨hcs, _⟩ | ⟨a', l, c, A, L, C, Z, hcs, _, hl, hm, _, hc⟩
  · simp at hcs
    obtain ⟨rfl, rfl, rfl⟩ := hcs
    exact ⟨fun _ => none, fun _ => 0, fun _ => 0, row_none _ _, Nat.zero_le _, fun i hi => absurd hi (Nat.not_lt_zero _)⟩
  · simp at hcs
    obtain ⟨rfl, rfl, rfl⟩ := hcs
    refine ⟨A, L, C, row_of (fun i hi => (hc i (by omega)).1), by omega, fun i hi => ?_⟩
    obtain ⟨_, h1, h2, _, _, h5, h6⟩ := hc i (by omega)
    refine ⟨fun j => (Z i).getD j 0, ?_, by omega⟩
    cases hA : A i with
    | none =>
      have := h5 hA
      rw [show L i = 0 from by omega]
      exact row_none _ _
    | some a' => exact row_of (fun j hj => (h6 a' hA).2 j (by omega))

theorem good_at {nl : Nat} {nf : Nat → ByteArray} {bl : Nat} {bf : Nat → Int} {ll : Nat} {lf : Nat → Bool} {sl : Nat} {sA : Nat → Option Addr} {sL sC : Nat → Nat} {xf : Nat → Bool} {kl : Nat} {kf : Nat → Bool} {dl : Nat} {df : Nat → Bool}
    (h : ∀ i, i < sl → ∃ vf : Nat → Int, Row W.heap.size W (sA i) (sL i) (fun j => .int .u32 (vf j)) ∧ sL i ≤ maxLen) (i : Nat) : Good W.heap.size W (atOf nl nf bl bf ll lf sl sA sL sC xf kl kf dl df i) := by
  by_cases hi : i < sl
  · obtain ⟨vf, h1, h2⟩ := h i hi
    refine ⟨vf, ?_, ?_⟩
    · simpa [atOf, addrAt, natAt, hi] using h1
    · simpa [atOf, natAt, hi] using h2
  · refine ⟨fun _ => 0, ?_, ?_⟩
    · simpa [atOf, addrAt, natAt, hi] using row_none _ _
    · simp [atOf, natAt, hi]
end Go.Proofs.Qxb6628968a
