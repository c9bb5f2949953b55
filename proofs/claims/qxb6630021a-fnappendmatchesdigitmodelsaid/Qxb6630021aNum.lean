import Init
namespace Go.Proofs.Qxb6630021a
set_option linter.unusedVariables false

/-! THE PLAIN MATHEMATICS: decimal digits. No Go in sight. -/
/-- The decimal digits of n, none for 0; fuel. -/
def dzF : Nat → Nat → List Int
  | 0, _ => []
  | f + 1, n => if n = 0 then [] else dzF f (n / 10) ++ [48 + ((n % 10 : Nat) : Int)]
def dz (n : Nat) : List Int := dzF 20 n
theorem dzF_succ (f n : Nat) : dzF (f + 1) n = if n = 0 then [] else dzF f (n / 10) ++ [48 + ((n % 10 : Nat) : Int)] := rfl
theorem dzF_more : ∀ (f n : Nat), n < 10 ^ f → dzF (f + 1) n = dzF f n
  | 0, n, h => by
    have : n = 0 := by simp at h; exact h
    subst this
    rfl
  | f + 1, n, h => by
    rw [dzF_succ (f + 1) n, dzF_succ f n]
    by_cases h0 : n = 0
    · rw [if_pos h0, if_pos h0]
    · rw [if_neg h0, if_neg h0, dzF_more f (n / 10) (by rw [Nat.pow_succ] at h; omega)]
theorem dz_zero : dz 0 = [] := rfl
theorem dz_step {n : Nat} (h0 : n ≠ 0) (h : n < 10 ^ 20) : dz n = dz (n / 10) ++ [48 + ((n % 10 : Nat) : Int)] := by
  show dzF (19 + 1) n = dzF (19 + 1) (n / 10) ++ _
  rw [dzF_more 19 (n / 10) (by have : (10 : Nat) ^ 20 = 10 ^ 19 * 10 := rfl; omega), dzF, if_neg h0]
theorem dz_two {u : Nat} (h0 : 10 ≤ u) (h : u < 10 ^ 20) : dz u = dz (u / 100) ++ [48 + (u : Int) % 100 / 10, 48 + (u : Int) % 10] := by
  rw [dz_step (by omega) h, dz_step (n := u / 10) (by omega) (by omega), Nat.div_div_eq_div_mul, List.append_assoc]
  rw [show ((u / 10 % 10 : Nat) : Int) = (u : Int) % 100 / 10 from by omega, show ((u % 10 : Nat) : Int) = (u : Int) % 10 from by omega]
  rfl
theorem dz_one {u : Nat} (h0 : u ≠ 0) (h : u < 10) : dz u = [48 + (u : Int)] := by
  rw [dz_step h0 (Nat.lt_of_lt_of_le h (by decide)), show u / 10 = 0 from by omega, dz_zero, show u % 10 = u from by omega]
  rfl

theorem dzF_digit : ∀ (f n : Nat), ∀ d ∈ dzF f n, 48 ≤ d ∧ d ≤ 57
  | 0, n, d, h => by simp [dzF] at h
  | f + 1, n, d, h => by
    rw [dzF] at h
    by_cases h0 : n = 0
    · simp [h0] at h
    · rw [if_neg h0, List.mem_append] at h
      rcases h with h | h
      · exact dzF_digit f _ d h
      · simp at h
        omega
theorem dzF_length : ∀ (f n k : Nat), n < 10 ^ k → (dzF f n).length ≤ k
  | 0, n, k, h => by simp [dzF]
  | f + 1, n, k, h => by
    rw [dzF]
    by_cases h0 : n = 0
    · simp [h0]
    · rw [if_neg h0, List.length_append]
      cases k with
      | zero => simp at h; exact absurd h h0
      | succ k =>
        have := dzF_length f (n / 10) k (by rw [Nat.pow_succ] at h; omega)
        simp
        omega
theorem dz_pos {n : Nat} (h0 : n ≠ 0) (h : n < 10 ^ 20) : 0 < (dz n).length := by rw [dz_step h0 h]; simp
theorem dzF_head : ∀ (f n : Nat), n < 10 ^ f → ∀ d, (dzF f n)[0]? = some d → d ≠ 48
  | 0, n, _, d, h => by simp [dzF] at h
  | f + 1, n, hn, d, h => by
    rw [dzF] at h
    by_cases h0 : n = 0
    · simp [h0] at h
    · rw [if_neg h0] at h
      by_cases h1 : n / 10 = 0
      · have e : dzF f (n / 10) = [] := by rw [h1]; cases f <;> simp [dzF]
        rw [e] at h
        simp at h
        omega
      · have hl : 0 < (dzF f (n / 10)).length := by
          cases f with
          | zero => simp at hn; omega
          | succ f => rw [dzF, if_neg h1]; simp
        rw [List.getElem?_append_left hl] at h
        exact dzF_head f (n / 10) (by rw [Nat.pow_succ] at hn; omega) d h

/-- The digits of n, at least one. -/
def dgs (n : Nat) : List Int := if n = 0 then [48] else dz n
/-- What a row of digits is worth. -/
def worth (l : List Int) : Int := l.foldl (fun v d => v * 10 + (d - 48)) 0
theorem worth_snoc (l : List Int) (d : Int) : worth (l ++ [d]) = worth l * 10 + (d - 48) := by simp [worth]
theorem dzF_worth : ∀ (f n : Nat), n < 10 ^ f → worth (dzF f n) = n
  | 0, n, h => by simp at h; simp [dzF, worth, h]
  | f + 1, n, h => by
    rw [dzF]
    by_cases h0 : n = 0
    · simp [h0, worth]
    · rw [if_neg h0, worth_snoc, dzF_worth f (n / 10) (by rw [Nat.pow_succ] at h; omega)]
      omega
theorem dgs_worth {n : Nat} (h : n < 10 ^ 20) : worth (dgs n) = n := by
  unfold dgs
  by_cases h0 : n = 0
  · subst h0; rfl
  · rw [if_neg h0]; exact dzF_worth 20 n h
theorem dgs_digit {n : Nat} : ∀ d ∈ dgs n, 48 ≤ d ∧ d ≤ 57 := by
  intro d hd
  unfold dgs at hd
  by_cases h0 : n = 0
  · rw [if_pos h0] at hd; simp at hd; omega
  · rw [if_neg h0] at hd; exact dzF_digit _ _ d hd
theorem dgs_length {n : Nat} (h : n < 10 ^ 17) : 0 < (dgs n).length ∧ (dgs n).length ≤ 17 := by
  unfold dgs
  by_cases h0 : n = 0
  · rw [if_pos h0]; simp
  · rw [if_neg h0]
    exact ⟨dz_pos h0 (Nat.lt_of_lt_of_le h (by decide)), dzF_length 20 n 17 h⟩
theorem dgs_head {n : Nat} (h : n < 10 ^ 20) (h1 : 1 < (dgs n).length) : ∀ d, (dgs n)[0]? = some d → d ≠ 48 := by
  intro d hd
  unfold dgs at hd h1
  by_cases h0 : n = 0
  · rw [if_pos h0] at h1; simp at h1
  · rw [if_neg h0] at hd; exact dzF_head 20 n h d hd

/-- A part of the digits is worth no more than all of them. -/
theorem worth_nonneg : ∀ (l : List Int) (v : Int), 0 ≤ v → (∀ d ∈ l, 48 ≤ d ∧ d ≤ 57) → v ≤ l.foldl (fun v d => v * 10 + (d - 48)) v
  | [], v, hv, _ => Int.le_refl _
  | d :: l, v, hv, h => by
    have hd := h d (by simp)
    have := worth_nonneg l (v * 10 + (d - 48)) (by omega) (fun e he => h e (by simp [he]))
    simp only [List.foldl_cons]
    omega
theorem worth_take (l : List Int) (k : Nat) (h : ∀ d ∈ l, 48 ≤ d ∧ d ≤ 57) : 0 ≤ worth (l.take k) ∧ worth (l.take k) ≤ worth l := by
  have h0 : 0 ≤ worth (l.take k) := worth_nonneg (l.take k) 0 (Int.le_refl _) (fun d hd => h d (List.mem_of_mem_take hd))
  refine ⟨h0, ?_⟩
  have e : worth l = (l.drop k).foldl (fun v d => v * 10 + (d - 48)) (worth (l.take k)) := by
    unfold worth
    rw [← List.foldl_append, List.take_append_drop]
  rw [e]
  exact worth_nonneg _ _ h0 (fun d hd => h d (List.mem_of_mem_drop hd))
theorem worth_take_succ (l : List Int) (k : Nat) (hk : k < l.length) : worth (l.take (k + 1)) = worth (l.take k) * 10 + (l[k] - 48) := by
  rw [List.take_succ_eq_append_getElem hk, worth_snoc]

/-- An amount of m fen, as text behind its sign. -/
def body (m : Nat) : List Int := dgs (m / 100) ++ [46, 48 + (m : Int) % 100 / 10, 48 + (m : Int) % 10]
/-- An amount as text. -/
def text (a : Int) : List Int := (if a < 0 then [45] else []) ++ body a.natAbs
theorem body_length {m : Nat} (h : m < 10 ^ 19) : 4 ≤ (body m).length ∧ (body m).length ≤ 20 := by
  have := dgs_length (n := m / 100) (by omega)
  simp [body]
  omega
theorem text_length {a : Int} (h : a.natAbs < 10 ^ 19) : 4 ≤ (text a).length ∧ (text a).length ≤ 21 := by
  have := body_length h
  unfold text
  by_cases h0 : a < 0
  · simp [h0]; omega
  · simp [h0]; omega
theorem body_byte {m : Nat} : ∀ d ∈ body m, 0 ≤ d ∧ d ≤ 255 := by
  intro d hd
  simp only [body, List.mem_append, List.mem_cons, List.not_mem_nil, or_false] at hd
  rcases hd with h | h | h | h
  · have := dgs_digit d h; omega
  · omega
  · omega
  · omega
end Go.Proofs.Qxb6630021a
