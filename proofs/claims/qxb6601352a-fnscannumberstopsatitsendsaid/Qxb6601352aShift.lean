import Derived.Test.Qxb6601352aNum
namespace Go.Proofs.Qxb6601352a.Num
open Go.Proofs.Qxb6601352a.Small Go.Proofs.Qxb6601352a.Plain

/-! ### SCANNING FROM n ON IS SCANNING WHAT LIES FROM n ON -/
theorem getD_drop (l : List Int) (n j : Nat) : (l.drop n).getD j 0 = l.getD (n + j) 0 := by simp [List.getD]
theorem sk_shift (l : List Int) (n j : Nat) : sk dig l (n + j) = n + sk dig (l.drop n) j := by
  unfold sk; rw [List.drop_drop]; omega
theorem pS_shift (l : List Int) (n j : Nat) : pS l (n + j) = n + pS (l.drop n) j := by
  unfold pS; rw [getD_drop]; split <;> omega
theorem pX_shift (l : List Int) (n j : Nat) : pX l (n + j) = (pX (l.drop n) j).map (n + ·) := by
  unfold pX; rw [sk_shift]
  by_cases h : sk dig (l.drop n) j = j
  · rw [if_pos h, if_pos (by omega)]; rfl
  · rw [if_neg h, if_neg (by omega)]; rfl
theorem pD_shift (l : List Int) (n j : Nat) : pD l (n + j) = (pD (l.drop n) j).map (n + ·) := by
  unfold pD
  rw [getD_drop, Nat.add_assoc, pS_shift, pX_shift]
  split <;> rfl
theorem pC_shift (l : List Int) (n j : Nat) : pC l (n + j) = (pC (l.drop n) j).map (n + ·) := by
  unfold pC
  rw [getD_drop, Nat.add_assoc, sk_shift, pD_shift, pD_shift]
  by_cases h : l.getD (n + j) 0 = 46
  · rw [if_pos h, if_pos h]
    by_cases h2 : sk dig (l.drop n) (j + 1) = j + 1
    · rw [if_pos h2, if_pos (by omega)]; rfl
    · rw [if_neg h2, if_neg (by omega)]
  · rw [if_neg h, if_neg h]
theorem pB_shift (l : List Int) (n j : Nat) : pB l (n + j) = (pB (l.drop n) j).map (n + ·) := by
  unfold pB
  rw [getD_drop, Nat.add_assoc, sk_shift, pC_shift]
  split
  · rfl
  · split
    · rw [pC_shift]
    · rfl
theorem pA_shift (l : List Int) (n j : Nat) : pA l (n + j) = n + pA (l.drop n) j := by
  unfold pA; rw [getD_drop]; split <;> omega
theorem scan_shift (l : List Int) (n : Nat) : scan l n = (scan (l.drop n) 0).map (n + ·) := by
  unfold scan
  have h := pA_shift l n 0
  rw [Nat.add_zero] at h
  rw [h, pB_shift]

/-! ### WHERE IT ENDS -/
theorem pX_bd (l : List Int) (m r : Nat) (hm : m ≤ l.length) (h : pX l m = some r) : m < r ∧ r ≤ l.length := by
  unfold pX at h
  have h1 := sk_ge dig l m
  have h2 := sk_le dig l m hm
  split at h
  · cases h
  · injection h with h; omega
theorem pD_bd (l : List Int) (m r : Nat) (hm : m ≤ l.length) (h : pD l m = some r) : m ≤ r ∧ r ≤ l.length := by
  unfold pD at h
  by_cases hc : l.getD m 0 = 101 ∨ l.getD m 0 = 69
  · rw [if_pos hc] at h
    have hlt := lt_of_getD l m (by omega)
    have hp : m + 1 ≤ pS l (m + 1) ∧ pS l (m + 1) ≤ l.length := by
      unfold pS
      by_cases hd : l.getD (m + 1) 0 = 43 ∨ l.getD (m + 1) 0 = 45
      · rw [if_pos hd]; have := lt_of_getD l (m + 1) (by omega); omega
      · rw [if_neg hd]; omega
    have := pX_bd l _ r hp.2 h
    omega
  · rw [if_neg hc] at h; injection h with h; omega
theorem pC_bd (l : List Int) (m r : Nat) (hm : m ≤ l.length) (h : pC l m = some r) : m ≤ r ∧ r ≤ l.length := by
  unfold pC at h
  by_cases hc : l.getD m 0 = 46
  · rw [if_pos hc] at h
    have hlt := lt_of_getD l m (by omega)
    have h1 := sk_ge dig l (m + 1)
    have h2 := sk_le dig l (m + 1) (by omega)
    split at h
    · cases h
    · have := pD_bd l _ r h2 h; omega
  · rw [if_neg hc] at h; exact pD_bd l m r hm h
theorem pB_bd (l : List Int) (m r : Nat) (h : pB l m = some r) : m < r ∧ r ≤ l.length := by
  unfold pB at h
  by_cases hc : l.getD m 0 = 48
  · rw [if_pos hc] at h
    have hlt := lt_of_getD l m (by omega)
    have := pC_bd l _ r (by omega) h; omega
  · rw [if_neg hc] at h
    by_cases hd : 49 ≤ l.getD m 0 ∧ l.getD m 0 ≤ 57
    · rw [if_pos hd] at h
      have hlt := lt_of_getD l m (by omega)
      have h1 := sk_ge dig l (m + 1)
      have h2 := sk_le dig l (m + 1) (by omega)
      have := pC_bd l _ r h2 h; omega
    · rw [if_neg hd] at h; cases h
theorem scan_bd (l : List Int) (n r : Nat) (h : scan l n = some r) : n < r ∧ r ≤ l.length := by
  have h1 := pB_bd l (pA l n) r h
  have h2 : n ≤ pA l n := by unfold pA; split <;> omega
  omega
/-- the two answers, as Go gives them -/
theorem out_rest (l : List Int) (n : Nat) : (outI (scan (l.drop n) 0) = -1 ∧ outI (scan l n) = -1) ∨
    (0 ≤ outI (scan (l.drop n) 0) ∧ outI (scan (l.drop n) 0) ≤ l.length ∧ outI (scan l n) = outI (scan (l.drop n) 0) + n) := by
  have h := scan_shift l n
  cases hr : scan (l.drop n) 0 with
  | none => left; rw [h, hr]; exact ⟨rfl, rfl⟩
  | some r =>
    right
    rw [h, hr]
    have := scan_bd _ _ _ hr
    rw [List.length_drop] at this
    simp only [outI, Option.map_some]
    omega
end Go.Proofs.Qxb6601352a.Num
