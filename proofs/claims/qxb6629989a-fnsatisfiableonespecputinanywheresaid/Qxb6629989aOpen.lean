import Derived.Test.Qxb6629989aAid
import Derived.Deep.Strs
import Derived.Lib.SmallJoins
import Derived.OpenShut
import Derived.ShutString
import Derived.ChangeOld
namespace Go.Proofs.Qxb6629989a
open Go.RowKit Go.Deep Go.ChangeShapes Go.WideShapes Go.ChangeAt
set_option linter.unusedVariables false

theorem cells2 : Try.prog.cellsOf 2 = 1 := by kernel_rfl
theorem cells29 : Try.prog.cellsOf 29 = 3 := by kernel_rfl

variable {H : Type} {enc : TypeId × Value → H} {W : World} {held : Bool} {fuel : Nat} {a : Option Addr} {len cap : Nat} {x : DataW H × List MemPlace}

theorem rows_of {W : World} {a : Addr} {len : Nat} {f : Nat → Sp} (h : ∀ i, i < len → ∀ j v, (f i).cells[j]? = some v → W.cell? (a.add (i * 3 + j)) = some v) : Rows3 W.heap.size W (some a) len f := fun i hi => by
  obtain ⟨b, off, spot⟩ := a
  have hc0 := h 0 (by omega) 0 _ rfl
  have hs : spot = none := by simpa [Addr.add] using World.cell?_spot hc0
  subst hs
  rw [Addr.add_mid] at hc0
  refine ⟨b, off, rfl, World.block_lt_of_cell? W _ hc0, fun j v hv => ?_⟩
  have := h i hi j v hv
  rw [Addr.add_mid] at this
  rw [Nat.add_assoc]
  exact this

theorem row_specs (h : DataW.trod enc Try.prog W 0 (fun _ => true) held fuel 22 [.slice a len cap] = some x) :
    (a = none ∧ len = 0 ∧ cap = 0) ∨ ∃ (ad : Addr) (f : Nat → Sp), a = some ad ∧ Rows3 W.heap.size W (some ad) len f ∧ len ≤ maxLen := by
  rcases open_slice Try.underlying22 h with ⟨hcs, _⟩ | ⟨a', l, c, m, n, D, Pl, hcs, _, hl, hm, hmm, _, hx⟩
  · simp at hcs
    exact .inl hcs
  · simp at hcs
    obtain ⟨rfl, rfl, rfl⟩ := hcs
    simp only [if_true] at hmm
    have each : ∀ i, i < len → ∃ t : Sp, ∀ j v, t.cells[j]? = some v → W.cell? (a'.add (i * 3 + j)) = some v := by
      intro i hi
      obtain ⟨cs', h1, h2⟩ := hx i (by omega)
      rw [cells29] at h1
      obtain ⟨_, hlen, hcell⟩ := World.cells?_some h1
      obtain ⟨y0, y1, y2, k, _, _, g0, g1, g2⟩ := trod_struct3 Try.underlying29 h2
      match cs', hlen with
      | [v0, v1, v2], _ =>
        simp [cells2] at g0 g1 g2
        obtain ⟨n0, e0, _⟩ := DataW.trod_int Try.underlying2 g0
        obtain ⟨n1, e1, _⟩ := DataW.trod_int Try.underlying2 g1
        obtain ⟨n2, e2, _⟩ := DataW.trod_int Try.underlying2 g2
        simp at e0 e1 e2
        subst e0 e1 e2
        refine ⟨⟨n0, n1, n2⟩, fun j v hv => ?_⟩
        have hj : j < 3 := (List.getElem?_eq_some_iff.1 hv).1
        have e := hcell j (by simpa using hj)
        rw [add_add] at e
        rw [e]
        exact hv
    have inh : Inhabited Sp := ⟨⟨0, 0, 0⟩⟩
    obtain ⟨f, hf⟩ := choose_lt each
    exact .inr ⟨a', f, rfl, rows_of hf, by omega⟩
end Go.Proofs.Qxb6629989a
