import Derived.Test.Qxb6628968aAid
namespace Go.Proofs.Qxb6628968a
open Go.RowKit

set_option maxHeartbeats 1000000 in
theorem same_any (B : Nat) (w : World) (hB : B ≤ w.heap.size) (s : ByteArray) (n : Int) (l x k' d : Bool) (sa : Option Addr) (sl sc : Nat) (vf : Nat → Int)
    (hs : Row B w sa sl (fun i => .int .u32 (vf i))) (hm : sl ≤ maxLen) :
    Calls Try.prog 9 #[.agg #[.string s, .int .i64 n, .bool l, .slice sa sl sc, .bool x, .bool k', .bool d], .agg #[.string s, .int .i64 n, .bool l, .slice sa sl sc, .bool x, .bool k', .bool d]] w fun e w' =>
      e = .returned (.bool true) ∧ Below w.heap.size w w' := by
  have q : ∀ (w : World) (a : Option Addr) (n c : Nat), (binOp .eql 33 (.slice a n c) (.slice none 0 0)).run Try.prog w = .ok (.bool a.isNone) w := fun w a n c => Lib.run_eql_slice_nil w _ _ a n c 0 0 Try.underlying33
  have past : ∀ (b o : Nat) (v : Value), b < B → w.cell? ⟨b, o, none⟩ = some v → ∀ o1 o2 m, (((w.alloc o1).alloc o2).drewN m).cell? ⟨b, o, none⟩ = some v := fun b o v h hc o1 o2 m =>
    (((Below.refl B w).alloc hB o1).alloc (by simp; omega) o2).cell (p := ⟨b, o, none⟩) h |>.trans hc
  unfold maxLen at hm
  go_enter Try.func9, Try.ntmps9
  go_wp2
  go_loopg [5] sl (fun g v wr => ∃ k m : Nat, k ≤ sl ∧ g = sl - k ∧ v = .int .i64 k ∧ wr = ((w.alloc (.cells #[.string s, .int .i64 n, .bool l, .slice sa sl sc, .bool x, .bool k', .bool d] 35)).alloc (.cells #[.string s, .int .i64 n, .bool l, .slice sa sl sc, .bool x, .bool k', .bool d] 35)).drewN m)
  case atStart => exact ⟨0, 0, Nat.zero_le _, rfl, rfl, rfl⟩
  case round =>
    obtain ⟨k, m, hk, hg, rfl, rfl⟩ := hrel
    have HG : Hid (gk = sl - k) := hg
    clear hg
    by_cases hlt : k < sl
    · obtain ⟨b, off, rfl, hb, hc⟩ := hs k hlt
      have hcc := past _ _ _ hb hc
      go_wp2
      go_quiet (fail)
      go_wp2
      go_roundg (sl - (k + 1))
      case rel => exact ⟨k + 1, _, by omega, rfl, by go_num, rfl⟩
      case measure => have := HG.out; omega
    · go_wp2
      go_ret
      exact ⟨rfl, (((Below.refl _ _).alloc (Nat.le_refl _) _).alloc (by simp) _).trans ⟨rfl, rfl, rfl, Nat.le_refl _, fun _ _ => rfl⟩⟩
end Go.Proofs.Qxb6628968a
