import Derived.Test.Qxb6628968aAid
namespace Go.Proofs.Qxb6628968a
open Go.RowKit

/-- It answers a bool, and nothing has turned. -/
def BoolEnd (w : World) (e : Ending) (w' : World) : Prop := ∃ b, e = .returned (.bool b) ∧ w' = w

set_option maxHeartbeats 1000000 in
theorem bytes5_any (B : Nat) (w : World) (gn gt : ByteArray) (na ba la sa ia ka da : Option Addr) (nl nc bl bc ll lc sl sc il ic kl kc dl dc : Nat) (cut : Int)
    (nf : Nat → ByteArray) (sA : Nat → Option Addr) (sL sC : Nat → Nat)
    (hn : Row B w na nl (fun i => .string (nf i))) (hs : Row B w sa sl (fun i => .slice (sA i) (sL i) (sC i))) (hnl : nl ≤ maxLen) (hsl : sl ≤ maxLen) :
    Calls Try.prog 5 #[.string gn, .string gt, .slice na nl nc, .slice ba bl bc, .slice la ll lc, .slice sa sl sc, .slice ia il ic, .slice ka kl kc, .slice da dl dc, .int .i64 cut] w (BoolEnd w) := by
  unfold maxLen at hnl hsl
  go_enter Try.func5, Try.ntmps5
  go_wp2
  all_goals (first | (go_ret; exact ⟨_, rfl, rfl⟩) | skip)
  go_loopg [21, 22] nl (fun g z v wr => ∃ (k : Nat) (n : Int), k ≤ nl ∧ g = nl - k ∧ z = .int .i64 n ∧ v = .int .i64 k ∧ w = wr)
  case atStart => exact ⟨0, _, Nat.zero_le _, rfl, rfl, rfl, rfl⟩
  case round =>
    obtain ⟨k, n, hk, hgk, rfl, rfl, rfl⟩ := hrel
    have HG : Hid (gk = nl - k) := hgk
    clear hgk
    by_cases hlt : k < nl
    · obtain ⟨b, off, rfl, hb, hc⟩ := hn k hlt
      go_wp2
      all_goals (first | (go_ret; exact ⟨_, rfl, rfl⟩) | skip)
      go_roundg (nl - (k + 1))
      case rel => exact ⟨k + 1, _, by omega, rfl, rfl, by go_num, rfl⟩
      case measure => have := HG.out; omega
    · go_wp2
      all_goals (first | (go_ret; exact ⟨_, rfl, rfl⟩) | skip)
      go_loopg [21, 23] sl (fun g z v wr => ∃ (k : Nat) (n : Int), k ≤ sl ∧ g = sl - k ∧ z = .int .i64 n ∧ v = .int .i64 k ∧ w = wr)
      case atStart => exact ⟨0, _, Nat.zero_le _, rfl, rfl, rfl, rfl⟩
      case round =>
        obtain ⟨k, n, hk, hgk, rfl, rfl, rfl⟩ := hrel
        have HG : Hid (gk = sl - k) := hgk
        clear hgk
        by_cases hlt : k < sl
        · obtain ⟨b, off, rfl, hb, hc⟩ := hs k hlt
          go_wp2
          all_goals (first | (go_ret; exact ⟨_, rfl, rfl⟩) | skip)
          go_roundg (sl - (k + 1))
          case rel => exact ⟨k + 1, _, by omega, rfl, rfl, by go_num, rfl⟩
          case measure => have := HG.out; omega
        · go_wp2
          all_goals (go_ret; exact ⟨_, rfl, rfl⟩)

set_option maxHeartbeats 1000000 in
theorem bytes10_any (B : Nat) (w : World) (gn gt : ByteArray) (na ba la sa ia ka da : Option Addr) (nl nc bl bc ll lc sl sc il ic kl kc dl dc : Nat)
    (nf : Nat → ByteArray) (sA : Nat → Option Addr) (sL sC : Nat → Nat)
    (hn : Row B w na nl (fun i => .string (nf i))) (hs : Row B w sa sl (fun i => .slice (sA i) (sL i) (sC i))) (hnl : nl ≤ maxLen) (hsl : sl ≤ maxLen) :
    Calls Try.prog 10 #[.string gn, .string gt, .slice na nl nc, .slice ba bl bc, .slice la ll lc, .slice sa sl sc, .slice ia il ic, .slice ka kl kc, .slice da dl dc] w (BoolEnd w) := by
  unfold maxLen at hnl hsl
  go_enter Try.func10, Try.ntmps10
  go_wp2
  all_goals (first | (go_ret; exact ⟨_, rfl, rfl⟩) | skip)
  go_loopg [19, 20] nl (fun g z v wr => ∃ (k : Nat) (n : Int), k ≤ nl ∧ g = nl - k ∧ z = .int .i64 n ∧ v = .int .i64 k ∧ w = wr)
  case atStart => exact ⟨0, _, Nat.zero_le _, rfl, rfl, rfl, rfl⟩
  case round =>
    obtain ⟨k, n, hk, hgk, rfl, rfl, rfl⟩ := hrel
    have HG : Hid (gk = nl - k) := hgk
    clear hgk
    by_cases hlt : k < nl
    · obtain ⟨b, off, rfl, hb, hc⟩ := hn k hlt
      go_wp2
      all_goals (first | (go_ret; exact ⟨_, rfl, rfl⟩) | skip)
      go_roundg (nl - (k + 1))
      case rel => exact ⟨k + 1, _, by omega, rfl, rfl, by go_num, rfl⟩
      case measure => have := HG.out; omega
    · go_wp2
      all_goals (first | (go_ret; exact ⟨_, rfl, rfl⟩) | skip)
      go_loopg [19, 21] sl (fun g z v wr => ∃ (k : Nat) (n : Int), k ≤ sl ∧ g = sl - k ∧ z = .int .i64 n ∧ v = .int .i64 k ∧ w = wr)
      case atStart => exact ⟨0, _, Nat.zero_le _, rfl, rfl, rfl, rfl⟩
      case round =>
        obtain ⟨k, n, hk, hgk, rfl, rfl, rfl⟩ := hrel
        have HG : Hid (gk = sl - k) := hgk
        clear hgk
        by_cases hlt : k < sl
        · obtain ⟨b, off, rfl, hb, hc⟩ := hs k hlt
          go_wp2
          all_goals (first | (go_ret; exact ⟨_, rfl, rfl⟩) | skip)
          go_roundg (sl - (k + 1))
          case rel => exact ⟨k + 1, _, by omega, rfl, rfl, by go_num, rfl⟩
          case measure => have := HG.out; omega
        · go_wp2
          all_goals (go_ret; exact ⟨_, rfl, rfl⟩)
end Go.Proofs.Qxb6628968a
