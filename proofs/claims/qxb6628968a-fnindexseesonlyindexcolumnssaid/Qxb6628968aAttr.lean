import Derived.Test.Qxb6628968aAid
namespace Go.Proofs.Qxb6628968a
open Go.RowKit

set_option maxHeartbeats 1000000 in
theorem attrAt_any (B : Nat) (w : World) (hB : B ≤ w.heap.size) (i : Nat) (na ba la sa ia ka da : Option Addr) (nl nc bl bc ll lc sl sc il ic kl kc dl dc : Nat)
    (nf : Nat → ByteArray) (bf : Nat → Int) (lf : Nat → Bool) (sA : Nat → Option Addr) (sL sC : Nat → Nat) (xf kf df : Nat → Bool)
    (hn : Row B w na nl (fun i => .string (nf i))) (hb : Row B w ba bl (fun i => .int .i64 (bf i))) (hl : Row B w la ll (fun i => .bool (lf i)))
    (hs : Row B w sa sl (fun i => .slice (sA i) (sL i) (sC i))) (hx : Row B w ia il (fun i => .bool (xf i))) (hk : Row B w ka kl (fun i => .bool (kf i))) (hd : Row B w da dl (fun i => .bool (df i)))
    (hi : i < il) :
    Calls Try.prog 7 #[.int .i64 i, .slice na nl nc, .slice ba bl bc, .slice la ll lc, .slice sa sl sc, .slice ia il ic, .slice ka kl kc, .slice da dl dc] w fun e w' =>
      e = .returned (.agg #[.string (strAt nl nf i), .int .i64 (intAt bl bf i), .bool (boolAt ll lf i), .slice (addrAt sl sA i) (natAt sl sL i) (natAt sl sC i), .bool (xf i), .bool (boolAt kl kf i), .bool (boolAt dl df i)]) ∧ Below w.heap.size w w' := by
  have past : ∀ (b o : Nat) (v : Value), b < B → w.cell? ⟨b, o, none⟩ = some v → ∀ o1 o2, ((w.alloc o1).alloc o2).cell? ⟨b, o, none⟩ = some v := fun b o v h hc o1 o2 =>
    (((Below.refl B w).alloc hB o1).alloc (by simp; omega) o2).cell (p := ⟨b, o, none⟩) h |>.trans hc
  go_enter Try.func7, Try.ntmps7
  go_upto_if 21 with fail
  go_cut [] (fun wx => wx = (w.alloc (.cells #[.string ⟨#[]⟩, .int .i64 0, .bool false, .slice none 0 0, .bool false, .bool false, .bool false] 35)).alloc (.cells #[.string (strAt nl nf i), .int .i64 0, .bool false, .slice none 0 0, .bool false, .bool false, .bool false] 35))
  case first =>
    by_cases h : i < nl
    · obtain ⟨b, off, rfl, hlt, hc⟩ := hn i h
      have hcc := past _ _ _ hlt hc
      go_wp2_with fail
      go_meet
      simp [strAt, h]
    · go_wp2_with fail
      go_meet
      simp [strAt, h]
  case rest =>
  subst hcut
  go_upto_if 30 with fail
  go_cut [] (fun wx => wx = (w.alloc (.cells #[.string ⟨#[]⟩, .int .i64 0, .bool false, .slice none 0 0, .bool false, .bool false, .bool false] 35)).alloc (.cells #[.string (strAt nl nf i), .int .i64 (intAt bl bf i), .bool false, .slice none 0 0, .bool false, .bool false, .bool false] 35))
  case first =>
    by_cases h : i < bl
    · obtain ⟨b, off, rfl, hlt, hc⟩ := hb i h
      have hcc := past _ _ _ hlt hc
      go_wp2_with fail
      go_meet
      simp [intAt, h]
    · go_wp2_with fail
      go_meet
      simp [intAt, h]
  case rest =>
  subst hcut
  go_upto_if 40 with fail
  go_cut [] (fun wx => wx = (w.alloc (.cells #[.string ⟨#[]⟩, .int .i64 0, .bool false, .slice none 0 0, .bool false, .bool false, .bool false] 35)).alloc (.cells #[.string (strAt nl nf i), .int .i64 (intAt bl bf i), .bool (boolAt ll lf i), .slice none 0 0, .bool false, .bool false, .bool false] 35))
  case first =>
    by_cases h : i < ll
    · obtain ⟨b, off, rfl, hlt, hc⟩ := hl i h
      have hcc := past _ _ _ hlt hc
      go_wp2_with fail
      go_meet
      simp [boolAt, h]
    · go_wp2_with fail
      go_meet
      simp [boolAt, h]
  case rest =>
  subst hcut
  go_upto_if 50 with fail
  go_cut [] (fun wx => wx = (w.alloc (.cells #[.string ⟨#[]⟩, .int .i64 0, .bool false, .slice none 0 0, .bool false, .bool false, .bool false] 35)).alloc (.cells #[.string (strAt nl nf i), .int .i64 (intAt bl bf i), .bool (boolAt ll lf i), .slice (addrAt sl sA i) (natAt sl sL i) (natAt sl sC i), .bool false, .bool false, .bool false] 35))
  case first =>
    by_cases h : i < sl
    · obtain ⟨b, off, rfl, hlt, hc⟩ := hs i h
      have hcc := past _ _ _ hlt hc
      go_wp2_with fail
      go_meet
      simp [addrAt, natAt, h]
    · go_wp2_with fail
      go_meet
      simp [addrAt, natAt, h]
  case rest =>
  subst hcut
  obtain ⟨xb, xo, rfl, xlt, xc⟩ := hx i hi
  have xcc := past _ _ _ xlt xc
  go_upto_if 64 with fail
  go_cut [] (fun wx => wx = (w.alloc (.cells #[.string ⟨#[]⟩, .int .i64 0, .bool false, .slice none 0 0, .bool false, .bool false, .bool false] 35)).alloc (.cells #[.string (strAt nl nf i), .int .i64 (intAt bl bf i), .bool (boolAt ll lf i), .slice (addrAt sl sA i) (natAt sl sL i) (natAt sl sC i), .bool (xf i), .bool (boolAt kl kf i), .bool false] 35))
  case first =>
    by_cases h : i < kl
    · obtain ⟨b, off, rfl, hlt, hc⟩ := hk i h
      have hcc := past _ _ _ hlt hc
      go_wp2_with fail
      go_meet
      simp [boolAt, h]
    · go_wp2_with fail
      go_meet
      simp [boolAt, h]
  case rest =>
  subst hcut
  go_upto_if 73 with fail
  go_cut [] (fun wx => wx = (w.alloc (.cells #[.string ⟨#[]⟩, .int .i64 0, .bool false, .slice none 0 0, .bool false, .bool false, .bool false] 35)).alloc (.cells #[.string (strAt nl nf i), .int .i64 (intAt bl bf i), .bool (boolAt ll lf i), .slice (addrAt sl sA i) (natAt sl sL i) (natAt sl sC i), .bool (xf i), .bool (boolAt kl kf i), .bool (boolAt dl df i)] 35))
  case first =>
    by_cases h : i < dl
    · obtain ⟨b, off, rfl, hlt, hc⟩ := hd i h
      have hcc := past _ _ _ hlt hc
      go_wp2_with fail
      go_meet
      simp [boolAt, h]
    · go_wp2_with fail
      go_meet
      simp [boolAt, h]
  case rest =>
  subst hcut
  go_wp2_with fail
  exact bodyPost_ret (v := .agg #[.string (strAt nl nf i), .int .i64 (intAt bl bf i), .bool (boolAt ll lf i), .slice (addrAt sl sA i) (natAt sl sL i) (natAt sl sC i), .bool (xf i), .bool (boolAt kl kf i), .bool (boolAt dl df i)]) (by simp [results, Try.results7, go_sem]) rfl ⟨rfl, ((Below.refl _ _).alloc (Nat.le_refl _) _).alloc (by simp) _⟩
end Go.Proofs.Qxb6628968a
