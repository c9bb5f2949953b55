import Derived.Test.Qxb6630021aClone
import Derived.Test.Qxb6630021aApp
namespace Go.Proofs.Qxb6630021a
open Go.RowKit
set_option linter.unusedVariables false

/-- Where the parts of the text lie. -/
theorem text_parts (a : Int) (s : Nat) (hs : s = (sg a).length) (Y : Nat) (hY : Y = a.natAbs / 100) : (text a).length = s + (dgs Y).length + 3 ∧ (a < 0 → (text a).getD 0 0 = 45) ∧ (∀ k, k < (dgs Y).length → (text a).getD (s + k) 0 = (dgs Y).getD k 0) ∧
    (text a).getD (s + (dgs Y).length) 0 = 46 ∧ (text a).getD (s + (dgs Y).length + 1) 0 = 48 + (a.natAbs : Int) % 100 / 10 ∧ (text a).getD (s + (dgs Y).length + 2) 0 = 48 + (a.natAbs : Int) % 10 := by
  have e : text a = sg a ++ (dgs Y ++ [46, 48 + (a.natAbs : Int) % 100 / 10, 48 + (a.natAbs : Int) % 10]) := by rw [hY]; rfl
  have far : ∀ k, (text a).getD (s + k) 0 = (dgs Y ++ [46, 48 + (a.natAbs : Int) % 100 / 10, 48 + (a.natAbs : Int) % 10]).getD k 0 := fun k => by
    rw [e, List.getD_eq_getElem?_getD, List.getD_eq_getElem?_getD, List.getElem?_append_right (by omega), show s + k - (sg a).length = k from by omega]
  have far2 : ∀ k, (dgs Y ++ [46, 48 + (a.natAbs : Int) % 100 / 10, 48 + (a.natAbs : Int) % 10]).getD ((dgs Y).length + k) 0 = [46, 48 + (a.natAbs : Int) % 100 / 10, 48 + (a.natAbs : Int) % 10].getD k 0 := fun k => by
    rw [List.getD_eq_getElem?_getD, List.getD_eq_getElem?_getD, List.getElem?_append_right (by omega), show (dgs Y).length + k - (dgs Y).length = k from by omega]
  refine ⟨by rw [e]; simp; omega, fun ha => ?_, fun k hk => ?_, ?_, ?_, ?_⟩
  · rw [e, show sg a = [45] from if_pos ha]; rfl
  · rw [far, List.getD_eq_getElem?_getD, List.getD_eq_getElem?_getD, List.getElem?_append_left hk]
  · rw [far]; exact far2 0
  · rw [Nat.add_assoc, far]; exact far2 1
  · rw [Nat.add_assoc, far]; exact far2 2

theorem back_neg (a : Int) (ha : a < 0) (h0 : -9223372036854775808 ≤ a) (x : Int) (hx : x = (a.natAbs : Int)) : wrap64 (IntKind.u64.wrap (-x)) = a := by
  subst hx
  simp only [IntKind.wrap_u64]
  unfold wrap64
  omega
theorem ret2_int {a b : Int} (h : a = b) : Ending.returned (.tuple #[.int .i64 a, .bool true]) = .returned (.tuple #[.int .i64 b, .bool true]) := by rw [h]

/-- What readAmountText answers. -/
def ReadEnd (a : Int) (w : World) (e : Ending) (w' : World) : Prop := e = .returned (.tuple #[.int .i64 a, .bool true]) ∧ Below w.heap.size w w'

set_option maxRecDepth 20000 in
set_option maxHeartbeats 4000000 in
theorem read_any (w : World) (b off n cap s d : Nat) (a : Int) (Y : Nat) (x0 x1 x2 : Int) (D : List Int) (hD : D.length = d) (h0 : -9223372036854775808 ≤ a) (h1 : a ≤ 9223372036854775807)
    (hs : (a < 0 ∧ s = 1 ∧ w.cell? ⟨b, off, none⟩ = some (.int .u8 45)) ∨ (0 ≤ a ∧ s = 0)) (hd : 1 ≤ d ∧ d ≤ 17) (hn : n = s + d + 3) (hnc : n ≤ cap)
    (hdig : ∀ x ∈ D, 48 ≤ x ∧ x ≤ 57) (hw : worth D = Y) (hY : Y = a.natAbs / 100) (hhead : 1 < d → D.getD 0 0 ≠ 48)
    (hc : ∀ k, k < d → w.cell? ⟨b, off + (s + k), none⟩ = some (.int .u8 (D.getD k 0))) (c0 : w.cell? ⟨b, off + (s + d), none⟩ = some (.int .u8 46)) (c1 : w.cell? ⟨b, off + (s + d + 1), none⟩ = some (.int .u8 x1)) (c2 : w.cell? ⟨b, off + (s + d + 2), none⟩ = some (.int .u8 x2))
    (hx1 : x1 = 48 + (a.natAbs : Int) % 100 / 10) (hx2 : x2 = 48 + (a.natAbs : Int) % 10) :
    Calls Try.prog 11 #[.slice (some ⟨b, off, none⟩) n cap] w (ReadEnd a w) := by
  have dig : ∀ k, k < d → 48 ≤ D.getD k 0 ∧ D.getD k 0 ≤ 57 := fun k hk => by
    rw [List.getD_eq_getElem?_getD, List.getElem?_eq_getElem (by omega)]
    exact hdig _ (List.getElem_mem _)
  obtain ⟨t0, ht0, hnb⟩ : ∃ t0, w.cell? ⟨b, off, none⟩ = some (.int .u8 t0) ∧ ((t0 == 45) = true ∧ a < 0 ∧ s = 1 ∨ (t0 == 45) = false ∧ 0 ≤ a ∧ s = 0) := by
    rcases hs with ⟨ha, rfl, hc45⟩ | ⟨ha, rfl⟩
    · exact ⟨45, hc45, .inl ⟨rfl, ha, rfl⟩⟩
    · refine ⟨D.getD 0 0, by simpa using hc 0 (by omega), .inr ⟨?_, ha, rfl⟩⟩
      have := dig 0 (by omega)
      rw [beq_eq_false_iff_ne]
      omega
  have HNB : Hid _ := hnb
  have HN : Hid _ := hn
  have HC : Hid _ := hc
  have HDIG : Hid _ := dig
  have HW : Hid _ := hw
  have HHD : Hid _ := hhead
  have HX1 : Hid _ := hx1
  have HX2 : Hid _ := hx2
  have HY : Hid _ := hY
  have HALL : Hid _ := hdig
  have HD : Hid _ := hD
  have hn0 : (0 : Int) < (n : Int) := by omega
  have hnm : n ≤ 30 := by rcases hs with ⟨_, rfl, _⟩ | ⟨_, rfl⟩ <;> omega
  have hsm : s ≤ 1 := by rcases hs with ⟨_, rfl, _⟩ | ⟨_, rfl⟩ <;> omega
  have hnlo : s + d + 3 ≤ n := by omega
  have hnhi : n ≤ s + d + 3 := by omega
  have bx1 : 48 ≤ x1 ∧ x1 ≤ 57 := by omega
  have bx2 : 48 ≤ x2 ∧ x2 ≤ 57 := by omega
  obtain ⟨bx1a, bx1b⟩ := bx1
  obtain ⟨bx2a, bx2b⟩ := bx2
  clear hs hn hc dig hw hhead hx1 hx2 hY hdig hD hnb
  go_enter Try.func11, Try.ntmps11
  go_upto_if 22 with fail
  go_cut [4, 5] (fun v1 v2 wx => ∃ nb : Bool, v1 = .int .i64 (s : Int) ∧ v2 = .bool nb ∧ (nb = true ∧ a < 0 ∨ nb = false ∧ 0 ≤ a) ∧ wx = w)
  case first =>
    rcases Hid.out HNB with ⟨hb, ha, rfl⟩ | ⟨hb, ha, rfl⟩
    · go_wp2_with fail
      go_meet
      exact ⟨true, rfl, rfl, .inl ⟨rfl, ha⟩, rfl⟩
    · go_wp2_with fail
      go_meet
      exact ⟨false, rfl, rfl, .inr ⟨rfl, ha⟩, rfl⟩
  case rest =>
  obtain ⟨nb, rfl, rfl, hnb, hwx⟩ := hcut
  have hwx := hwx.symm
  subst hwx
  have HNB2 : Hid _ := hnb
  clear hnb HNB ht0
  go_wp2_with fail
  go_loopg [4, 7] (d + 1) (fun g v1 v2 wr => ∃ (k p : Nat) (y : Int), k ≤ d ∧ g = d + 1 - k ∧ p = s + k ∧ v1 = .int .i64 (p : Int) ∧ v2 = .int .u64 y ∧ y = worth (D.take k) ∧ wr = w)
  case atStart => exact ⟨0, s, 0, Nat.zero_le _, rfl, rfl, rfl, rfl, rfl, rfl⟩
  case round =>
    obtain ⟨k, p, y, hk, hgk, hp, rfl, rfl, hy, hwr⟩ := hrel
    have hwr := hwr.symm
    subst hwr
    have HK : Hid (gk = d + 1 - k) := hgk
    have HP : Hid (p = s + k) := hp
    have HYY : Hid _ := hy
    have hty := worth_take D k (Hid.out HALL)
    have hyl : (0 : Int) ≤ y := by omega
    have hyh : y ≤ 100000000000000000 := by have := HW.out; have := HY.out; omega
    have hpn : (p : Int) < (n : Int) := by omega
    by_cases hlt : k < d
    · obtain ⟨x, hx, hxb⟩ : ∃ x, w.cell? ⟨b, off + p, none⟩ = some (.int .u8 x) ∧ x = D.getD k 0 := ⟨_, by rw [hp]; exact Hid.out HC k hlt, rfl⟩
      have hxa := Hid.out HDIG k hlt
      rw [← hxb] at hxa
      obtain ⟨hx48, hx57⟩ := hxa
      have HXB : Hid _ := hxb
      clear hgk hp hy hty hxb
      go_wp2_with fail
      go_roundg (d + 1 - (k + 1))
      case rel =>
        refine ⟨k + 1, p + 1, y * 10 + (x - 48), by omega, rfl, by have := HP.out; omega, by go_num, rfl, ?_, rfl⟩
        rw [worth_take_succ D k (by have := HD.out; omega), ← HYY.out, HXB.out, List.getD_eq_getElem?_getD, List.getElem?_eq_getElem (by have := HD.out; omega)]
        rfl
      case measure => have := HK.out; omega
    · have e : k = d := by omega
      subst e
      have e0 : w.cell? ⟨b, off + p, none⟩ = some (.int .u8 46) := by rw [hp]; exact c0
      have e1 : w.cell? ⟨b, off + (p + 1), none⟩ = some (.int .u8 x1) := by rw [hp]; exact c1
      have e2 : w.cell? ⟨b, off + (p + 2), none⟩ = some (.int .u8 x2) := by rw [hp]; exact c2
      have hY2 : y = (a.natAbs / 100 : Nat) := by rw [HYY.out, List.take_of_length_le (by have := HD.out; omega), HW.out, HY.out]
      have hmag : y * 100 + ((x1 - 48) * 10 + (x2 - 48)) = (a.natAbs : Int) := by have := HX1.out; have := HX2.out; omega
      have HMAG : Hid _ := hmag
      have hp1 : (p : Int) + 1 < (n : Int) := by omega
      have hp2 : (p : Int) + 2 < (n : Int) := by omega
      have hp3a : p + 3 ≤ n := by omega
      have hp3b : n ≤ p + 3 := by omega
      have hnd : s + 1 ≤ p := by omega
      obtain ⟨xs, hxs, hxsb⟩ : ∃ xs, w.cell? ⟨b, off + s, none⟩ = some (.int .u8 xs) ∧ xs = D.getD 0 0 := ⟨_, by have := Hid.out HC 0 (by omega); simpa using this, rfl⟩
      have hsn : (s : Int) < (n : Int) := by omega
      by_cases hone : p = s + 1
      · have ho : p ≤ s + 1 := by omega
        clear c0 c1 c2 hgk hp hy hty hY2 hmag hxs hxsb hone hk hlt HK HP HYY HD HALL HHD HW HDIG HC
        go_wp2_with fail
        go_quiet (fail)
        rcases Hid.out HNB2 with ⟨rfl, ha⟩ | ⟨rfl, ha⟩
        · have mg0 : (y * 100 + ((x1 - 48) * 10 + (x2 - 48)) == 0) = false := by rw [beq_eq_false_iff_ne, HMAG.out]; omega
          have mg1 : y * 100 + ((x1 - 48) * 10 + (x2 - 48)) ≤ 9223372036854775808 := by rw [HMAG.out]; omega
          go_wp2_with fail
          go_ret2
          refine ⟨?_, ⟨rfl, rfl, rfl, Nat.le_refl _, fun _ _ => rfl⟩⟩
          exact ret2_int (back_neg a ha h0 _ HMAG.out)
        · have mg1 : y * 100 + ((x1 - 48) * 10 + (x2 - 48)) ≤ 9223372036854775807 := by rw [HMAG.out]; omega
          go_wp2_with fail
          go_ret2
          refine ⟨?_, ⟨rfl, rfl, rfl, Nat.le_refl _, fun _ _ => rfl⟩⟩
          exact ret2_int (by rw [HMAG.out]; omega)
      · have ho : s + 1 < p := by omega
        have hxf : (xs == 48) = false := by
          rw [beq_eq_false_iff_ne, hxsb]
          exact Hid.out HHD (by omega)
        clear c0 c1 c2 hgk hp hy hty hY2 hmag hxsb hone hk hlt HK HP HYY HD HALL HHD HW HDIG HC
        go_wp2_with fail
        go_quiet (fail)
        rcases Hid.out HNB2 with ⟨rfl, ha⟩ | ⟨rfl, ha⟩
        · have mg0 : (y * 100 + ((x1 - 48) * 10 + (x2 - 48)) == 0) = false := by rw [beq_eq_false_iff_ne, HMAG.out]; omega
          have mg1 : y * 100 + ((x1 - 48) * 10 + (x2 - 48)) ≤ 9223372036854775808 := by rw [HMAG.out]; omega
          go_wp2_with fail
          go_ret2
          refine ⟨?_, ⟨rfl, rfl, rfl, Nat.le_refl _, fun _ _ => rfl⟩⟩
          exact ret2_int (back_neg a ha h0 _ HMAG.out)
        · have mg1 : y * 100 + ((x1 - 48) * 10 + (x2 - 48)) ≤ 9223372036854775807 := by rw [HMAG.out]; omega
          go_wp2_with fail
          go_ret2
          refine ⟨?_, ⟨rfl, rfl, rfl, Nat.le_refl _, fun _ _ => rfl⟩⟩
          exact ret2_int (by rw [HMAG.out]; omega)
end Go.Proofs.Qxb6630021a
