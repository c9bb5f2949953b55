import Derived.Test.Qxb6628968aAid
namespace Go.Proofs.Qxb6628968a
open Go.RowKit

/-- It answers a bool; true only where the seventh slice is no longer than 65536; nothing has turned. -/
def SizeEnd (il : Nat) (w : World) (e : Ending) (w' : World) : Prop := ∃ b, e = .returned (.bool b) ∧ (b = true → il ≤ 65536) ∧ w' = w

set_option maxHeartbeats 2000000 in
theorem size_long (w : World) (gn gt : ByteArray) (na ba la sa ia ka da : Option Addr) (nl nc bl bc ll lc sl sc il ic kl kc dl dc : Nat) (h : 65536 < il) :
    Calls Try.prog 6 #[.string gn, .string gt, .slice na nl nc, .slice ba bl bc, .slice la ll lc, .slice sa sl sc, .slice ia il ic, .slice ka kl kc, .slice da dl dc] w (SizeEnd il w) := by
  go_enter Try.func6, Try.ntmps6
  go_wp2
  all_goals (go_ret; exact ⟨_, rfl, (by intro h; cases h), rfl⟩)

set_option maxHeartbeats 2000000 in
theorem size_short (B : Nat) (w : World) (gn gt : ByteArray) (na ba la sa ia ka da : Option Addr) (nl nc bl bc ll lc sl sc il ic kl kc dl dc : Nat)
    (nf : Nat → ByteArray) (sA : Nat → Option Addr) (sL sC : Nat → Nat)
    (hn : Row B w na nl (fun i => .string (nf i))) (hs : Row B w sa sl (fun i => .slice (sA i) (sL i) (sC i))) (hnl : nl ≤ maxLen) (hsl : sl ≤ maxLen) (h : il ≤ 65536) :
    Calls Try.prog 6 #[.string gn, .string gt, .slice na nl nc, .slice ba bl bc, .slice la ll lc, .slice sa sl sc, .slice ia il ic, .slice ka kl kc, .slice da dl dc] w (SizeEnd il w) := by
  have H : Hid (il ≤ 65536) := h
  unfold maxLen at hnl hsl
  go_enter Try.func6, Try.ntmps6
  go_wp2
  all_goals (first | (go_ret; exact ⟨_, rfl, fun _ => H.out, rfl⟩) | skip)
  go_loopg [19, 20] nl (fun g z v wr => ∃ (k : Nat) (n : Int), k ≤ nl ∧ g = nl - k ∧ z = .int .i64 n ∧ v = .int .i64 k ∧ w = wr)
  case atStart => exact ⟨0, _, Nat.zero_le _, rfl, rfl, rfl, rfl⟩
  case round =>
    obtain ⟨k, n, hk, hgk, rfl, rfl, rfl⟩ := hrel
    have HG : Hid (gk = nl - k) := hgk
    clear hgk
    by_cases hlt : k < nl
    · obtain ⟨b, off, rfl, hb, hc⟩ := hn k hlt
      go_wp2
      all_goals (first | (go_ret; exact ⟨_, rfl, fun _ => H.out, rfl⟩) | skip)
      go_roundg (nl - (k + 1))
      case rel => exact ⟨k + 1, _, by omega, rfl, rfl, by go_num, rfl⟩
      case measure => have := HG.out; omega
    · go_wp2
      go_loopg [19, 21] sl (fun g z v wr => ∃ (k : Nat) (n : Int), k ≤ sl ∧ g = sl - k ∧ z = .int .i64 n ∧ v = .int .i64 k ∧ w = wr)
      case atStart => exact ⟨0, _, Nat.zero_le _, rfl, rfl, rfl, rfl⟩
      case round =>
        obtain ⟨k, n, hk, hgk, rfl, rfl, rfl⟩ := hrel
        have HG : Hid (gk = sl - k) := hgk
        clear hgk
        by_cases hlt : k < sl
        · obtain ⟨b, off, rfl, hb, hc⟩ := hs k hlt
          go_wp2
          all_goals (first | (go_ret; exact ⟨_, rfl, fun _ => H.out, rfl⟩) | skip)
          go_roundg (sl - (k + 1))
          case rel => exact ⟨k + 1, _, by omega, rfl, rfl, by go_num, rfl⟩
          case measure => have := HG.out; omega
        · go_wp2
          all_goals (go_ret; exact ⟨_, rfl, fun _ => H.out, rfl⟩)
end Go.Proofs.Qxb6628968a
