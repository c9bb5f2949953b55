import Derived.Test.Qxb6630067aAid
import Derived.Deep.Strs
import Derived.OpenShut
import Derived.ShutString
import Derived.ChangeOld
namespace Go.Proofs.Qxb6630067a
open Go.RowKit Go.Deep Go.ChangeShapes Go.WideShapes Go.ChangeAt
set_option linter.unusedVariables false

theorem row_of {W : World} {a : Addr} {len : Nat} {f : Nat → ByteArray} (h : ∀ i, i < len → W.cell? (a.add i) = some (.string (f i))) : Row W.heap.size W (some a) len f := fun i hi => by
  have hc := h i hi
  obtain ⟨b, off, spot⟩ := a
  have hs : spot = none := by simpa [Addr.add] using World.cell?_spot (h 0 (by omega))
  subst hs
  rw [Addr.add_mid] at hc
  exact ⟨b, off, rfl, World.block_lt_of_cell? W _ hc, hc⟩

variable {H : Type} {enc : TypeId × Value → H} {W : World} {held : Bool} {fuel : Nat} {a : Option Addr} {len cap : Nat} {x : DataW H × List MemPlace}

theorem row_strs (h : DataW.trod enc Try.prog W 0 (fun _ => true) held fuel 22 [.slice a len cap] = some x) : ∃ f : Nat → ByteArray, Row W.heap.size W a len f ∧ len ≤ cap ∧ cap ≤ maxLen := by
  rcases open_strs Try.underlying22 Try.underlying9 (by kernel_rfl) h with ⟨hcs, _⟩ | ⟨a', l, c, m, f, hcs, _, hl, hm, hmm, _, hc⟩
  · simp at hcs
    obtain ⟨rfl, rfl, rfl⟩ := hcs
    exact ⟨fun _ => ⟨#[]⟩, fun i hi => absurd hi (Nat.not_lt_zero _), Nat.le_refl _, Nat.zero_le _⟩
  · simp at hcs
    obtain ⟨rfl, rfl, rfl⟩ := hcs
    simp only [if_true] at hmm
    exact ⟨f, row_of (fun i hi => (hc i (by omega)).1), hl, hm⟩
end Go.Proofs.Qxb6630067a
