import Derived.Test.Qxb6601352aShift
namespace Go.Proofs.Qxb6601352a.Num
open Go.Proofs.Qxb6601352a.Small Go.Proofs.Qxb6601352a.Plain

/-! ### EVERY BYTE OF THE NUMBER IS A NUMBER BYTE -/
def AllNb (l : List Int) (a b : Nat) : Prop := ∀ k, a ≤ k → k < b → nb (l.getD k 0) = true
theorem AllNb.join {l : List Int} {a b c : Nat} (h1 : AllNb l a b) (h2 : AllNb l b c) : AllNb l a c := fun k p q => by
  by_cases h : k < b
  · exact h1 k p h
  · exact h2 k (by omega) q
theorem AllNb.one {l : List Int} {a : Nat} (h : nb (l.getD a 0) = true) : AllNb l a (a + 1) := fun k p q => by
  obtain rfl : k = a := by omega
  exact h
theorem AllNb.none (l : List Int) (a : Nat) : AllNb l a a := fun k p q => by omega
theorem AllNb.digs (l : List Int) (a : Nat) : AllNb l a (sk dig l a) := fun k p q => by
  have := sk_all dig l a k p q
  unfold nb
  rw [this]; rfl
theorem nb_of {c : Int} (h : c = 45 ∨ c = 43 ∨ c = 46 ∨ c = 101 ∨ c = 69 ∨ (48 ≤ c ∧ c ≤ 57)) : nb c = true := by
  simp only [nb, dig, Bool.or_eq_true, Bool.and_eq_true, decide_eq_true_eq, beq_iff_eq]; omega
theorem pX_nb (l : List Int) (m r : Nat) (h : pX l m = some r) : AllNb l m r := by
  unfold pX at h
  split at h
  · cases h
  · injection h with h; subst h; exact AllNb.digs l m
theorem pD_nb (l : List Int) (m r : Nat) (h : pD l m = some r) : AllNb l m r := by
  unfold pD at h
  by_cases hc : l.getD m 0 = 101 ∨ l.getD m 0 = 69
  · rw [if_pos hc] at h
    refine (AllNb.one (nb_of (by omega))).join ?_
    unfold pS at h
    by_cases hd : l.getD (m + 1) 0 = 43 ∨ l.getD (m + 1) 0 = 45
    · rw [if_pos hd] at h
      exact (AllNb.one (nb_of (by omega))).join (pX_nb l _ r h)
    · rw [if_neg hd] at h
      exact pX_nb l _ r h
  · rw [if_neg hc] at h; injection h with h; subst h; exact AllNb.none l m
theorem pC_nb (l : List Int) (m r : Nat) (h : pC l m = some r) : AllNb l m r := by
  unfold pC at h
  by_cases hc : l.getD m 0 = 46
  · rw [if_pos hc] at h
    split at h
    · cases h
    · exact (AllNb.one (nb_of (by omega))).join ((AllNb.digs l (m + 1)).join (pD_nb l _ r h))
  · rw [if_neg hc] at h; exact pD_nb l m r h
theorem pB_nb (l : List Int) (m r : Nat) (h : pB l m = some r) : AllNb l m r := by
  unfold pB at h
  by_cases hc : l.getD m 0 = 48
  · rw [if_pos hc] at h
    exact (AllNb.one (nb_of (by omega))).join (pC_nb l _ r h)
  · rw [if_neg hc] at h
    by_cases hd : 49 ≤ l.getD m 0 ∧ l.getD m 0 ≤ 57
    · rw [if_pos hd] at h
      exact (AllNb.one (nb_of (by omega))).join ((AllNb.digs l (m + 1)).join (pC_nb l _ r h))
    · rw [if_neg hd] at h; cases h
theorem scan_nb (l : List Int) (n r : Nat) (h : scan l n = some r) : AllNb l n r := by
  unfold scan pA at h
  by_cases hc : l.getD n 0 = 45
  · rw [if_pos hc] at h
    exact (AllNb.one (nb_of (by omega))).join (pB_nb l _ r h)
  · rw [if_neg hc] at h; exact pB_nb l n r h

/-! ### CUTTING AT THE END TURNS NOTHING -/
theorem getD_take_lt (l : List Int) (r j : Nat) (h : j < r) : (l.take r).getD j 0 = l.getD j 0 := by simp [List.getD, h]
theorem getD_take_ge (l : List Int) (r j : Nat) (h : r ≤ j) : (l.take r).getD j 0 = 0 := by
  apply getD_past; rw [List.length_take]; omega
theorem getD_take_or (l : List Int) (r j : Nat) : (l.take r).getD j 0 = l.getD j 0 ∨ (l.take r).getD j 0 = 0 := by
  by_cases h : j < r
  · exact .inl (getD_take_lt l r j h)
  · exact .inr (getD_take_ge l r j (by omega))
theorem takeWhile_take_len (f : Int → Bool) (l : List Int) (k : Nat) (h : (l.takeWhile f).length ≤ k) : ((l.take k).takeWhile f).length = (l.takeWhile f).length := by
  induction l generalizing k with
  | nil => simp
  | cons c l ih =>
    cases k with
    | zero =>
      rw [Nat.le_zero] at h
      rw [h]; rfl
    | succ k =>
      rw [List.take_succ_cons, List.takeWhile_cons, List.takeWhile_cons]
      rw [List.takeWhile_cons] at h
      cases hf : f c with
      | true =>
        rw [hf] at h
        simp only [if_true, List.length_cons] at h ⊢
        rw [ih k (by omega)]
      | false => simp
theorem sk_take (l : List Int) (r j : Nat) (h : sk dig l j ≤ r) : sk dig (l.take r) j = sk dig l j := by
  unfold sk at h ⊢
  rw [List.drop_take, takeWhile_take_len dig (l.drop j) (r - j) (by omega)]
theorem pX_take (l : List Int) (m r : Nat) (h : pX l m = some r) : pX (l.take r) m = some r := by
  unfold pX at h ⊢
  split at h
  · cases h
  · next hne =>
    injection h with h
    rw [sk_take l r m (by omega), if_neg hne, h]
theorem pD_take (l : List Int) (m r : Nat) (_hm : m ≤ l.length) (h : pD l m = some r) : pD (l.take r) m = some r := by
  unfold pD at h ⊢
  by_cases hc : l.getD m 0 = 101 ∨ l.getD m 0 = 69
  · rw [if_pos hc] at h
    have hlt := lt_of_getD l m (by omega)
    unfold pS at h
    by_cases hd : l.getD (m + 1) 0 = 43 ∨ l.getD (m + 1) 0 = 45
    · rw [if_pos hd] at h
      have hl2 := lt_of_getD l (m + 1) (by omega)
      have hb := pX_bd l _ r (by omega) h
      rw [if_pos (by rw [getD_take_lt l r m (by omega)]; exact hc)]
      unfold pS
      rw [if_pos (by rw [getD_take_lt l r (m + 1) (by omega)]; exact hd)]
      exact pX_take l _ r h
    · rw [if_neg hd] at h
      have hb := pX_bd l _ r (by omega) h
      rw [if_pos (by rw [getD_take_lt l r m (by omega)]; exact hc)]
      unfold pS
      rw [if_neg (by rcases getD_take_or l r (m + 1) with e | e <;> rw [e]; exact hd; decide)]
      exact pX_take l _ r h
  · rw [if_neg hc] at h
    rw [if_neg (by rcases getD_take_or l r m with e | e <;> rw [e]; exact hc; decide)]
    exact h
theorem pC_take (l : List Int) (m r : Nat) (hm : m ≤ l.length) (h : pC l m = some r) : pC (l.take r) m = some r := by
  unfold pC at h ⊢
  by_cases hc : l.getD m 0 = 46
  · rw [if_pos hc] at h
    have hlt := lt_of_getD l m (by omega)
    have h1 := sk_ge dig l (m + 1)
    have h2 := sk_le dig l (m + 1) (by omega)
    split at h
    · cases h
    · next hne =>
      have hb := pD_bd l _ r h2 h
      rw [if_pos (by rw [getD_take_lt l r m (by omega)]; exact hc), sk_take l r (m + 1) hb.1, if_neg hne]
      exact pD_take l _ r h2 h
  · rw [if_neg hc] at h
    rw [if_neg (by rcases getD_take_or l r m with e | e <;> rw [e]; exact hc; decide)]
    exact pD_take l m r hm h
theorem pB_take (l : List Int) (m r : Nat) (h : pB l m = some r) : pB (l.take r) m = some r := by
  have hb := pB_bd l m r h
  unfold pB at h ⊢
  rw [getD_take_lt l r m hb.1]
  by_cases hc : l.getD m 0 = 48
  · rw [if_pos hc] at h ⊢
    exact pC_take l _ r (by omega) h
  · rw [if_neg hc] at h ⊢
    by_cases hd : 49 ≤ l.getD m 0 ∧ l.getD m 0 ≤ 57
    · rw [if_pos hd] at h ⊢
      have h2 := sk_le dig l (m + 1) (by omega)
      have hb2 := pC_bd l _ r h2 h
      rw [sk_take l r (m + 1) hb2.1]
      exact pC_take l _ r h2 h
    · rw [if_neg hd] at h; cases h
theorem scan_take (l : List Int) (n r : Nat) (h : scan l n = some r) : scan (l.take r) n = some r := by
  have hb := scan_bd l n r h
  unfold scan pA at h ⊢
  rw [getD_take_lt l r n hb.1]
  exact pB_take l _ r h
end Go.Proofs.Qxb6601352a.Num
