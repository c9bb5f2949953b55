import Derived.Test.Qxb6630067aAid
namespace Go.Proofs.Qxb6630067a
open Go.RowKit
set_option linter.unusedVariables false

set_option maxHeartbeats 2000000 in
theorem bytes5_any (B : Nat) (w : World) (na va : Option Addr) (nl nc vl vc : Nat) (name : ByteArray) (cut : Int) (other : ByteArray) (nf vf : Nat → ByteArray) (hn : Row B w na nl nf) (hv : Row B w va vl vf) (hnl : nl ≤ 9223372036854775807) (hvl : vl ≤ 9223372036854775807) :
    Calls Try.prog 5 #[.slice na nl nc, .slice va vl vc, .string name, .int .i64 cut, .string other] w (BoolEnd w) := by
  go_enter Try.func5, Try.ntmps5
  go_wp2
  all_goals (first | (go_ret; exact ⟨_, rfl, rfl⟩) | skip)
  go_loopg [11, 12] nl (fun g z v wr => ∃ (k : Nat) (n : Int), k ≤ nl ∧ g = nl - k ∧ z = .int .i64 n ∧ v = .int .i64 k ∧ w = wr)
  case atStart => exact ⟨0, _, Nat.zero_le _, rfl, rfl, rfl, rfl⟩
  case round =>
    obtain ⟨k, n, hk, hgk, rfl, rfl, rfl⟩ := hrel
    have HG : Hid (gk = nl - k) := hgk
    clear hgk
    by_cases hlt : k < nl
    · obtain ⟨b, off, rfl, hb, hc⟩ := hn k hlt
      go_wp2
      all_goals (first | (go_ret; exact ⟨_, rfl, rfl⟩) | skip)
      go_roundg (nl - (k + 1))
      case rel => exact ⟨k + 1, _, by omega, rfl, rfl, by go_num, rfl⟩
      case measure => have := HG.out; omega
    · go_wp2
      all_goals (first | (go_ret; exact ⟨_, rfl, rfl⟩) | skip)
      go_loopg [11, 13] vl (fun g z v wr => ∃ (k : Nat) (n : Int), k ≤ vl ∧ g = vl - k ∧ z = .int .i64 n ∧ v = .int .i64 k ∧ w = wr)
      case atStart => exact ⟨0, _, Nat.zero_le _, rfl, rfl, rfl, rfl⟩
      case round =>
        obtain ⟨k, n, hk, hgk, rfl, rfl, rfl⟩ := hrel
        have HG : Hid (gk = vl - k) := hgk
        clear hgk
        by_cases hlt : k < vl
        · obtain ⟨b, off, rfl, hb, hc⟩ := hv k hlt
          go_wp2
          all_goals (first | (go_ret; exact ⟨_, rfl, rfl⟩) | skip)
          go_roundg (vl - (k + 1))
          case rel => exact ⟨k + 1, _, by omega, rfl, rfl, by go_num, rfl⟩
          case measure => have := HG.out; omega
        · go_wp2
          all_goals (go_ret; exact ⟨_, rfl, rfl⟩)

set_option maxHeartbeats 2000000 in
theorem bytes9_any (B : Nat) (w : World) (na va : Option Addr) (nl nc vl vc : Nat) (name : ByteArray) (nf vf : Nat → ByteArray) (hn : Row B w na nl nf) (hv : Row B w va vl vf) (hnl : nl ≤ 9223372036854775807) (hvl : vl ≤ 9223372036854775807) :
    Calls Try.prog 9 #[.slice na nl nc, .slice va vl vc, .string name] w (BoolEnd w) := by
  go_enter Try.func9, Try.ntmps9
  go_wp2
  all_goals (first | (go_ret; exact ⟨_, rfl, rfl⟩) | skip)
  go_loopg [7, 8] nl (fun g z v wr => ∃ (k : Nat) (n : Int), k ≤ nl ∧ g = nl - k ∧ z = .int .i64 n ∧ v = .int .i64 k ∧ w = wr)
  case atStart => exact ⟨0, _, Nat.zero_le _, rfl, rfl, rfl, rfl⟩
  case round =>
    obtain ⟨k, n, hk, hgk, rfl, rfl, rfl⟩ := hrel
    have HG : Hid (gk = nl - k) := hgk
    clear hgk
    by_cases hlt : k < nl
    · obtain ⟨b, off, rfl, hb, hc⟩ := hn k hlt
      go_wp2
      all_goals (first | (go_ret; exact ⟨_, rfl, rfl⟩) | skip)
      go_roundg (nl - (k + 1))
      case rel => exact ⟨k + 1, _, by omega, rfl, rfl, by go_num, rfl⟩
      case measure => have := HG.out; omega
    · go_wp2
      all_goals (first | (go_ret; exact ⟨_, rfl, rfl⟩) | skip)
      go_loopg [7, 9] vl (fun g z v wr => ∃ (k : Nat) (n : Int), k ≤ vl ∧ g = vl - k ∧ z = .int .i64 n ∧ v = .int .i64 k ∧ w = wr)
      case atStart => exact ⟨0, _, Nat.zero_le _, rfl, rfl, rfl, rfl⟩
      case round =>
        obtain ⟨k, n, hk, hgk, rfl, rfl, rfl⟩ := hrel
        have HG : Hid (gk = vl - k) := hgk
        clear hgk
        by_cases hlt : k < vl
        · obtain ⟨b, off, rfl, hb, hc⟩ := hv k hlt
          go_wp2
          all_goals (first | (go_ret; exact ⟨_, rfl, rfl⟩) | skip)
          go_roundg (vl - (k + 1))
          case rel => exact ⟨k + 1, _, by omega, rfl, rfl, by go_num, rfl⟩
          case measure => have := HG.out; omega
        · go_wp2
          all_goals (go_ret; exact ⟨_, rfl, rfl⟩)

set_option maxHeartbeats 2000000 in
theorem size_long (w : World) (na va : Option Addr) (nl nc vl vc : Nat) (x y : ByteArray) (h : 65536 < nl) :
    Calls Try.prog 6 #[.slice na nl nc, .slice va vl vc, .string x, .string y] w (SizeEnd nl w) := by
  go_enter Try.func6, Try.ntmps6
  go_wp2
  all_goals (go_ret; exact ⟨_, rfl, (by intro h; cases h), rfl⟩)

set_option maxHeartbeats 2000000 in
theorem size_short (B : Nat) (w : World) (na va : Option Addr) (nl nc vl vc : Nat) (x y : ByteArray) (nf vf : Nat → ByteArray) (hn : Row B w na nl nf) (hv : Row B w va vl vf) (hnl : nl ≤ 9223372036854775807) (hvl : vl ≤ 9223372036854775807) (h : nl ≤ 65536) :
    Calls Try.prog 6 #[.slice na nl nc, .slice va vl vc, .string x, .string y] w (SizeEnd nl w) := by
  have H : Hid (nl ≤ 65536) := h
  clear h
  go_enter Try.func6, Try.ntmps6
  go_wp2
  all_goals (first | (go_ret; exact ⟨_, rfl, fun _ => H.out, rfl⟩) | skip)
  go_loopg [9, 10] nl (fun g z v wr => ∃ (k : Nat) (n : Int), k ≤ nl ∧ g = nl - k ∧ z = .int .i64 n ∧ v = .int .i64 k ∧ w = wr)
  case atStart => exact ⟨0, _, Nat.zero_le _, rfl, rfl, rfl, rfl⟩
  case round =>
    obtain ⟨k, n, hk, hgk, rfl, rfl, rfl⟩ := hrel
    have HG : Hid (gk = nl - k) := hgk
    clear hgk
    by_cases hlt : k < nl
    · obtain ⟨b, off, rfl, hb, hc⟩ := hn k hlt
      go_wp2
      all_goals (first | (go_ret; exact ⟨_, rfl, fun _ => H.out, rfl⟩) | skip)
      go_roundg (nl - (k + 1))
      case rel => exact ⟨k + 1, _, by omega, rfl, rfl, by go_num, rfl⟩
      case measure => have := HG.out; omega
    · go_wp2
      go_loopg [9, 11] vl (fun g z v wr => ∃ (k : Nat) (n : Int), k ≤ vl ∧ g = vl - k ∧ z = .int .i64 n ∧ v = .int .i64 k ∧ w = wr)
      case atStart => exact ⟨0, _, Nat.zero_le _, rfl, rfl, rfl, rfl⟩
      case round =>
        obtain ⟨k, n, hk, hgk, rfl, rfl, rfl⟩ := hrel
        have HG : Hid (gk = vl - k) := hgk
        clear hgk
        by_cases hlt : k < vl
        · obtain ⟨b, off, rfl, hb, hc⟩ := hv k hlt
          go_wp2
          all_goals (first | (go_ret; exact ⟨_, rfl, fun _ => H.out, rfl⟩) | skip)
          go_roundg (vl - (k + 1))
          case rel => exact ⟨k + 1, _, by omega, rfl, rfl, by go_num, rfl⟩
          case measure => have := HG.out; omega
        · go_wp2
          all_goals (go_ret; exact ⟨_, rfl, fun _ => H.out, rfl⟩)
theorem size_any (B : Nat) (w : World) (na va : Option Addr) (nl nc vl vc : Nat) (x y : ByteArray) (nf vf : Nat → ByteArray) (hn : Row B w na nl nf) (hv : Row B w va vl vf) (hnl : nl ≤ 9223372036854775807) (hvl : vl ≤ 9223372036854775807) :
    Calls Try.prog 6 #[.slice na nl nc, .slice va vl vc, .string x, .string y] w (SizeEnd nl w) := by
  by_cases h : nl ≤ 65536
  · exact size_short B w na va nl nc vl vc x y nf vf hn hv hnl hvl h
  · exact size_long w na va nl nc vl vc x y (by omega)
end Go.Proofs.Qxb6630067a
