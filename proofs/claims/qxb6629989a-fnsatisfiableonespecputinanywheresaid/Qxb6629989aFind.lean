import Derived.Test.Qxb6629989aSat
namespace Go.Proofs.Qxb6629989a
open Go.RowKit
set_option linter.unusedVariables false

/-- Ends in the first place at which p holds, or -1; nothing old has turned. -/
def IxEnd (p : Nat → Bool) (m : Nat) (w : World) (e : Ending) (w' : World) : Prop := ∃ o : Int, e = .returned (.int .i64 o) ∧ Fst p m o ∧ Below w.heap.size w w'

set_option maxHeartbeats 2000000 in
theorem find_any (B : Nat) (w : World) (hB : B ≤ w.heap.size) (a : Option Addr) (m c : Nat) (f : Nat → Sp) (hf : Rows3 B w a m f) (hm : m ≤ 9223372036854775807) (size : Int) (h0 : 0 ≤ size) (h1 : size ≤ 9223372036854775807) :
    Calls Try.prog 7 #[.slice a m c, .int .i64 size] w (IxEnd (fun i => sat size (f i)) m w) := by
  have HF : Hid _ := hf
  clear hf
  go_enter Try.func7, Try.ntmps7
  go_wp2
  go_loopg [11] m (fun g v wr => ∃ k : Nat, k ≤ m ∧ g = m - k ∧ v = .int .i64 k ∧ Below w.heap.size w wr ∧ ∀ i, i < k → sat size (f i) = false)
  case atStart => exact ⟨0, Nat.zero_le _, rfl, rfl, Below.refl _ _, fun i hi => absurd hi (Nat.not_lt_zero _)⟩
  case round =>
    obtain ⟨k, hk, hgk, rfl, hbel, hno⟩ := hrel
    have HK : Hid (gk = m - k) := hgk
    have HN : Hid _ := hno
    have HBl : Hid _ := hbel
    clear hgk hno
    by_cases hlt : k < m
    · obtain ⟨b, off, rfl, hb, hc⟩ := Hid.out HF k hlt
      obtain ⟨c0, c1, c2⟩ := cells3 (w := wr) (b := b) (o := off + k * 3) (t := f k) (fun j v hv => (hbel.cell (p := ⟨b, off + k * 3 + j, none⟩) (by show b < _; omega)).trans (hc j v hv))
      clear hc hbel
      cases hs : sat size (f k) with
      | true =>
        have HS : Hid _ := hs
        go_wp2_with fail
        refine Calls.mono (resolve_any _ (f k) size h0 h1) ?_
        rintro e w1 ⟨r0, r1, rfl, hb1⟩
        rw [hs]
        have HB1 : Hid _ := hb1
        clear hb1 hs
        go_wp2
        go_ret
        refine ⟨k, rfl, .inr ⟨k, rfl, hlt, HS.out, HN.out⟩, ?_⟩
        have q := HBl.out.alloc HBl.out.size (.cells #[.int .i64 (f k).a, .int .i64 (f k).b, .int .i64 (f k).c] 31)
        have q2 := q.trans (HB1.out.mono q.size)
        exact q2.alloc q2.size _
      | false =>
        have HS : Hid _ := hs
        go_wp2_with fail
        refine Calls.mono (resolve_any _ (f k) size h0 h1) ?_
        rintro e w1 ⟨r0, r1, rfl, hb1⟩
        rw [hs]
        have HB1 : Hid _ := hb1
        clear hb1 hs
        go_wp2
        go_roundg (m - (k + 1))
        case rel =>
          have q := HBl.out.alloc HBl.out.size (.cells #[.int .i64 (f k).a, .int .i64 (f k).b, .int .i64 (f k).c] 31)
          have q2 := q.trans (HB1.out.mono q.size)
          refine ⟨k + 1, by omega, rfl, by go_num, q2.alloc q2.size _, fun i hi => ?_⟩
          by_cases e : i = k
          · rw [e]; exact HS.out
          · exact Hid.out HN i (by omega)
        case measure => have := HK.out; omega
    · go_wp2
      go_ret
      exact ⟨-1, rfl, .inl ⟨rfl, fun i hi => Hid.out HN i (by omega)⟩, HBl.out⟩
end Go.Proofs.Qxb6629989a
