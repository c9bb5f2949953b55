import Derived.Test.Qxb6629989aAid
namespace Go.Proofs.Qxb6629989a
open Go.RowKit
set_option linter.unusedVariables false

/-- Ends in a new slice that holds the specs; nothing old has turned. -/
def ConvEnd (f : Nat → Sp) (len : Nat) (w : World) (e : Ending) (w' : World) : Prop := e = .returned (.slice (some ⟨w.heap.size, 0, none⟩) len len) ∧ Filled w.heap.size len len f w' ∧ Below w.heap.size w w'

theorem conv_nil (w : World) : Calls Try.prog 6 #[.slice none 0 0] w fun e w' => e = .returned (.slice none 0 0) ∧ w' = w := by
  have q : ∀ (w : World) (a : Option Addr) (n c : Nat), (binOp .eql 22 (.slice a n c) (.slice none 0 0)).run Try.prog w = .ok (.bool a.isNone) w := fun w a n c => Lib.run_eql_slice_nil w _ _ a n c 0 0 Try.underlying22
  go_enter Try.func6, Try.ntmps6
  go_wp2
  go_ret
  exact ⟨rfl, rfl⟩

set_option maxHeartbeats 2000000 in
theorem conv_any (B : Nat) (w : World) (hB : B ≤ w.heap.size) (ad : Addr) (len cap : Nat) (f : Nat → Sp) (hf : Rows3 B w (some ad) len f) (hl : len ≤ 65536) :
    Calls Try.prog 6 #[.slice (some ad) len cap] w (ConvEnd f len w) := by
  have q : ∀ (w : World) (a : Option Addr) (n c : Nat), (binOp .eql 22 (.slice a n c) (.slice none 0 0)).run Try.prog w = .ok (.bool a.isNone) w := fun w a n c => Lib.run_eql_slice_nil w _ _ a n c 0 0 Try.underlying22
  obtain ⟨C, hC, hmk⟩ := make_run len len (Nat.le_refl _) hl
  have HC : Hid _ := hC
  have HF : Hid _ := hf
  have hm : len ≤ 9223372036854775807 := by omega
  clear hC hf hl
  go_enter Try.func6, Try.ntmps6
  go_wp2
  clear hmk q
  go_loopg [4] len (fun g v wr => ∃ k : Nat, k ≤ len ∧ g = len - k ∧ v = .int .i64 k ∧ Below w.heap.size w wr ∧ Filled w.heap.size len k f wr)
  case atStart => exact ⟨0, Nat.zero_le _, rfl, rfl, (Below.refl _ _).alloc (Nat.le_refl _) _, Filled.made w C len f HC.out⟩
  case round =>
    obtain ⟨k, hk, hgk, rfl, hbel, hfil⟩ := hrel
    have HK : Hid (gk = len - k) := hgk
    have HBl : Hid _ := hbel
    have HFl : Hid _ := hfil
    clear hgk
    by_cases hlt : k < len
    · obtain ⟨b, off, had, hb, hc⟩ := Hid.out HF k hlt
      simp only [Option.some.injEq] at had
      subst had
      obtain ⟨c0, c1, c2⟩ := cells3 (w := wr) (b := b) (o := off + k * 3) (t := f k) (fun j v hv => (hbel.cell (p := ⟨b, off + k * 3 + j, none⟩) (by show b < _; omega)).trans (hc j v hv))
      obtain ⟨⟨z0, z1, z2, y0, y1, y2⟩, fr0, fr1, fr2⟩ := there_cells3 (hfil.there3 hlt)
      have hne : b ≠ w.heap.size := by omega
      have hne2 : w.heap.size ≠ b := by omega
      have i0 : (0 : Int) ≤ (k : Int) := by omega
      have i1 : (k : Int) < (len : Int) := by omega
      clear hc hbel hfil
      go_wp2
      go_region_held3 (fun W => W.cell? ⟨b, off + k * 3, none⟩ = some (.int .i64 (f k).a) ∧ W.cell? ⟨b, off + k * 3 + 1, none⟩ = some (.int .i64 (f k).b) ∧ W.cell? ⟨b, off + k * 3 + 2, none⟩ = some (.int .i64 (f k).c)) (go_keep) (fail)
      go_wp2
      go_roundg (len - (k + 1))
      case rel => exact ⟨k + 1, by omega, rfl, by go_num, (below_put3 HBl.out (Nat.le_refl _)).drew, (HFl.out.put hlt).later ((Below.refl _ _).drew) (HFl.out.put hlt).lt⟩
      case measure => have := HK.out; omega
    · go_wp2
      go_ret
      have e : k = len := by omega
      subst e
      exact ⟨rfl, HFl.out, HBl.out⟩
end Go.Proofs.Qxb6629989a
