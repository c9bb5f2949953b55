import Derived.Test.Qxb6629989aAid
namespace Go.Proofs.Qxb6629989a
open Go.RowKit
set_option linter.unusedVariables false

/-- Ends in a bool; nothing old has turned. -/
def BoolIs (b : Bool) (w : World) (e : Ending) (w' : World) : Prop := e = .returned (.bool b) ∧ Below w.heap.size w w'
/-- Ends in some range and a bool; nothing old has turned. -/
def PairIs (b : Bool) (w : World) (e : Ending) (w' : World) : Prop := ∃ r0 r1 : Int, e = .returned (.tuple #[.agg #[.int .i64 r0, .int .i64 r1], .bool b]) ∧ Below w.heap.size w w'

theorem sat_pos {size : Int} {t : Sp} (h : 0 ≤ t.a) (k : t.a < size) : sat size t = true := by simp [sat, h, k]
theorem sat_past {size : Int} {t : Sp} (h : 0 ≤ t.a) (k : ¬ t.a < size) : sat size t = false := by simp [sat, h, k]
theorem sat_sfx {size : Int} {t : Sp} (h : t.a < 0) : sat size t = (t.c != 0 && decide (0 < size)) := by simp [sat, Int.not_le.2 h]

set_option maxHeartbeats 1000000 in
theorem model_any (w : World) (t : Sp) (size : Int) :
    Calls Try.prog 8 #[.agg #[.int .i64 t.a, .int .i64 t.b, .int .i64 t.c], .int .i64 size] w (BoolIs (sat size t) w) := by
  obtain ⟨s, hs⟩ : ∃ s, s = sat size t := ⟨_, rfl⟩
  rw [← hs]
  have HS : Hid _ := hs
  clear hs
  by_cases h : 0 ≤ t.a
  · by_cases k : t.a < size
    · have hs : true = s := by rw [HS.out]; exact (sat_pos h k).symm
      subst hs
      go_enter Try.func8, Try.ntmps8
      go_wp2
      go_ret
      exact ⟨rfl, (Below.refl _ _).alloc (Nat.le_refl _) _⟩
    · have hs : false = s := by rw [HS.out]; exact (sat_past h k).symm
      subst hs
      go_enter Try.func8, Try.ntmps8
      go_wp2
      go_ret
      exact ⟨rfl, (Below.refl _ _).alloc (Nat.le_refl _) _⟩
  · have h' : t.a < 0 := by omega
    by_cases k : t.c = 0
    · have kb : (t.c != 0) = false := by simp [k]
      have hs : false = s := by rw [HS.out, sat_sfx h', kb]; rfl
      subst hs
      clear k
      go_enter Try.func8, Try.ntmps8
      go_wp2
      go_ret
      exact ⟨rfl, (Below.refl _ _).alloc (Nat.le_refl _) _⟩
    · have kb : (t.c != 0) = true := by simp [k]
      by_cases z : 0 < size
      · have hs : true = s := by rw [HS.out, sat_sfx h', kb]; simp [z]
        subst hs
        go_enter Try.func8, Try.ntmps8
        go_wp2
        go_ret
        exact ⟨rfl, (Below.refl _ _).alloc (Nat.le_refl _) _⟩
      · have hs : false = s := by rw [HS.out, sat_sfx h', kb]; simp [z]
        subst hs
        go_enter Try.func8, Try.ntmps8
        go_wp2
        go_ret
        exact ⟨rfl, (Below.refl _ _).alloc (Nat.le_refl _) _⟩

set_option maxHeartbeats 1000000 in
theorem resolve_any (w : World) (t : Sp) (size : Int) (h0 : 0 ≤ size) (h1 : size ≤ 9223372036854775807) :
    Calls Try.prog 10 #[.agg #[.int .i64 t.a, .int .i64 t.b, .int .i64 t.c], .int .i64 size] w (PairIs (sat size t) w) := by
  obtain ⟨s, hs⟩ : ∃ s, s = sat size t := ⟨_, rfl⟩
  rw [← hs]
  have HS : Hid _ := hs
  clear hs
  by_cases h : t.a < 0
  · by_cases k : t.c = 0
    · have kb : (t.c == 0) = true := by simp [k]
      have hs : false = s := by rw [HS.out, sat_sfx h, k]; rfl
      subst hs
      clear k
      go_enter Try.func10, Try.ntmps10
      go_wp2
      exact bodyPost_ret (v := .tuple #[.agg #[.int .i64 0, .int .i64 0], .bool false]) (by simp [results, Try.results10, go_sem]) rfl ⟨0, 0, rfl, ((Below.refl _ _).alloc (Nat.le_refl _) _).alloc (by simp) _⟩
    · have kb : (t.c == 0) = false := by simp [k]
      by_cases z : size = 0
      · have zb : (size == 0) = true := by simp [z]
        have hs : false = s := by rw [HS.out, sat_sfx h, z]; simp
        subst hs
        clear z k
        go_enter Try.func10, Try.ntmps10
        go_wp2
        exact bodyPost_ret (v := .tuple #[.agg #[.int .i64 0, .int .i64 0], .bool false]) (by simp [results, Try.results10, go_sem]) rfl ⟨0, 0, rfl, ((Below.refl _ _).alloc (Nat.le_refl _) _).alloc (by simp) _⟩
      · have zb : (size == 0) = false := by simp [z]
        have hs : true = s := by rw [HS.out, sat_sfx h]; simp [k]; omega
        subst hs
        clear z k
        go_enter Try.func10, Try.ntmps10
        go_wp2
        all_goals first
          | (refine bodyPost_ret (v := .tuple #[.agg #[.int .i64 (wrap64 (size - t.c)), .int .i64 (size - 1)], .bool true]) ?_ rfl ⟨_, _, rfl, ((Below.refl _ _).alloc (Nat.le_refl _) _).alloc ?_ _⟩ <;> (simp [results, Try.results10, go_sem]; done))
          | (refine bodyPost_ret (v := .tuple #[.agg #[.int .i64 (wrap64 0), .int .i64 (size - 1)], .bool true]) ?_ rfl ⟨_, _, rfl, ((Below.refl _ _).alloc (Nat.le_refl _) _).alloc ?_ _⟩ <;> (simp [results, Try.results10, go_sem]; done))
  · by_cases k : size ≤ t.a
    · have hs : false = s := by rw [HS.out, sat_past (by omega) (by omega)]
      subst hs
      go_enter Try.func10, Try.ntmps10
      go_wp2
      exact bodyPost_ret (v := .tuple #[.agg #[.int .i64 0, .int .i64 0], .bool false]) (by simp [results, Try.results10, go_sem]) rfl ⟨0, 0, rfl, ((Below.refl _ _).alloc (Nat.le_refl _) _).alloc (by simp) _⟩
    · have hs : true = s := by rw [HS.out, sat_pos (by omega) (by omega)]
      subst hs
      by_cases b0 : t.b < 0
      · go_enter Try.func10, Try.ntmps10
        go_wp2
        exact bodyPost_ret (v := .tuple #[.agg #[.int .i64 t.a, .int .i64 (size - 1)], .bool true]) (by simp [results, Try.results10, go_sem]) rfl ⟨_, _, rfl, ((Below.refl _ _).alloc (Nat.le_refl _) _).alloc (by simp) _⟩
      · by_cases b1 : size ≤ t.b
        · go_enter Try.func10, Try.ntmps10
          go_wp2
          exact bodyPost_ret (v := .tuple #[.agg #[.int .i64 t.a, .int .i64 (size - 1)], .bool true]) (by simp [results, Try.results10, go_sem]) rfl ⟨_, _, rfl, ((Below.refl _ _).alloc (Nat.le_refl _) _).alloc (by simp) _⟩
        · go_enter Try.func10, Try.ntmps10
          go_wp2
          exact bodyPost_ret (v := .tuple #[.agg #[.int .i64 t.a, .int .i64 t.b], .bool true]) (by simp [results, Try.results10, go_sem]) rfl ⟨_, _, rfl, ((Below.refl _ _).alloc (Nat.le_refl _) _).alloc (by simp) _⟩
end Go.Proofs.Qxb6629989a
