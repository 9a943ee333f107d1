import Derived.Test.Qxb6601352aNum
namespace Go.Proofs.Qxb6601352a.Num
open Go.Proofs.Qxb6601352a.Small Go.Proofs.Qxb6601352a.Plain

/-! ### THE AUTOMATON, AS PLAIN FUNCTIONS -/
/-- the kind of a byte: 1 minus, 2 plus, 3 point, 4 the digit 0, 5 another digit, 6 e or E, 0 any other -/
def cls (c : Int) : Nat :=
  if c = 45 then 1 else if c = 43 then 2 else if c = 46 then 3 else if c = 48 then 4 else if 49 ≤ c ∧ c ≤ 57 then 5 else if c = 101 ∨ c = 69 then 6 else 0
/-- the table: a state and a kind -/
def tab : Nat → Nat → Nat
  | 1, 1 => 2
  | 1, 4 => 3
  | 1, 5 => 4
  | 2, 4 => 3
  | 2, 5 => 4
  | 3, 3 => 5
  | 3, 6 => 7
  | 4, 4 => 4
  | 4, 5 => 4
  | 4, 3 => 5
  | 4, 6 => 7
  | 5, 4 => 6
  | 5, 5 => 6
  | 6, 4 => 6
  | 6, 5 => 6
  | 6, 6 => 7
  | 7, 1 => 8
  | 7, 2 => 8
  | 7, 4 => 9
  | 7, 5 => 9
  | 8, 4 => 9
  | 8, 5 => 9
  | 9, 4 => 9
  | 9, 5 => 9
  | _, _ => 0
def step (s : Nat) (c : Int) : Nat := tab s (cls c)
def accB (s : Nat) : Bool := s == 3 || s == 4 || s == 6 || s == 9
/-- the greedy run: where it stops and in which state -/
def run : Nat → List Int → Nat → Nat × Nat
  | s, [], p => (s, p)
  | s, c :: t, p => if step s c = 0 then (s, p) else run (step s c) t (p + 1)
def fin (x : Nat × Nat) : Option Nat := if accB x.1 = true then some x.2 else none
def model (l : List Int) (n : Nat) : Option Nat := fin (run 1 (l.drop n) n)

theorem cls_le (c : Int) : cls c ≤ 6 := by unfold cls; repeat' split
                                           all_goals omega
theorem tab_le (s k : Nat) : tab s k ≤ 9 := by unfold tab; split <;> omega
theorem step_le (s : Nat) (c : Int) : step s c ≤ 9 := tab_le _ _

/-! ### THE RUN OVER A LIST, BY PLACES -/
def R (l : List Int) (s p : Nat) : Nat × Nat := run s (l.drop p) p
theorem tab_zero (s : Nat) : tab s 0 = 0 := by unfold tab; split <;> simp_all
theorem R_eq (l : List Int) (s p : Nat) : R l s p = if step s (l.getD p 0) = 0 then (s, p) else R l (step s (l.getD p 0)) (p + 1) := by
  unfold R
  by_cases h : p < l.length
  · rw [drop_cons l p h, run]
  · rw [getD_past l p h, List.drop_eq_nil_of_le (by omega), run]
    have h0 : step s 0 = 0 := tab_zero s
    rw [if_pos h0]
theorem R_go (l : List Int) (s p t : Nat) (h : step s (l.getD p 0) = t) (ht : t ≠ 0) : R l s p = R l t (p + 1) := by
  rw [R_eq, h, if_neg ht]
theorem R_stop (l : List Int) (s p : Nat) (h : step s (l.getD p 0) = 0) : R l s p = (s, p) := by
  rw [R_eq, if_pos h]

/-- the digits: the kind is 4 or 5 -/
theorem cls_dig (c : Int) (h : dig c = true) : cls c = 4 ∨ cls c = 5 := by
  simp only [dig, Bool.and_eq_true, decide_eq_true_eq] at h
  unfold cls
  rw [if_neg (by omega), if_neg (by omega), if_neg (by omega)]
  by_cases h4 : c = 48
  · rw [if_pos h4]; exact .inl rfl
  · rw [if_neg h4, if_pos (by omega)]; exact .inr rfl
theorem cls_nodig (c : Int) (h : dig c = false) : cls c ≠ 4 ∧ cls c ≠ 5 := by
  have h' : ¬ (48 ≤ c ∧ c ≤ 57) := by
    intro hc
    have : dig c = true := by simp [dig, hc.1, hc.2]
    rw [h] at this
    cases this
  have h4 : ¬ c = 48 := by omega
  have h5 : ¬ (49 ≤ c ∧ c ≤ 57) := by omega
  unfold cls
  rw [if_neg h4, if_neg h5]
  repeat' split
  all_goals exact ⟨by omega, by omega⟩
theorem loops (s : Nat) (hs : s = 4 ∨ s = 6 ∨ s = 9) (c : Int) (h : dig c = true) : step s c = s := by
  unfold step
  rcases cls_dig c h with e | e <;> rw [e] <;> rcases hs with rfl | rfl | rfl <;> rfl
theorem R_digs (l : List Int) (s p : Nat) (hs : s = 4 ∨ s = 6 ∨ s = 9) : R l s p = R l s (sk dig l p) := by
  obtain ⟨d, hd⟩ : ∃ d, l.length - p = d := ⟨_, rfl⟩
  induction d generalizing p with
  | zero => rw [sk_past dig l p (by omega)]
  | succ d ih =>
    have hl : p < l.length := by omega
    cases hf : dig (l.getD p 0) with
    | true => rw [sk_go dig l p hl hf, R_go l s p s (loops s hs _ hf) (by omega)]; exact ih (p + 1) (by omega)
    | false => rw [sk_stop dig l p hl hf]
theorem nodig_end (l : List Int) (p : Nat) : dig (l.getD (sk dig l p) 0) = false := by
  by_cases h : sk dig l p < l.length
  · exact sk_end dig l p h
  · rw [getD_past l _ h]; rfl
theorem dig_lt (l : List Int) (p : Nat) (h : dig (l.getD p 0) = true) : p < l.length := by
  by_cases hl : p < l.length
  · exact hl
  · rw [getD_past l p hl] at h; cases h
theorem sk_dig (l : List Int) (p : Nat) (h : dig (l.getD p 0) = true) : sk dig l p = sk dig l (p + 1) := sk_go dig l p (dig_lt l p h) h
theorem sk_nodig (l : List Int) (p : Nat) (h : dig (l.getD p 0) = false) : sk dig l p = p := by
  by_cases hl : p < l.length
  · exact sk_stop dig l p hl h
  · exact sk_past dig l p (by omega)

/-! ### STAGE BY STAGE, THE LAST FIRST -/
theorem fin_nine (l : List Int) (p : Nat) : fin (R l 9 p) = some (sk dig l p) := by
  rw [R_digs l 9 p (by omega), R_stop]
  · rfl
  · have h := cls_nodig _ (nodig_end l p)
    unfold step tab
    split <;> simp_all
theorem step_nodig_eight (c : Int) (h : dig c = false) : step 8 c = 0 := by
  have h := cls_nodig c h
  unfold step tab
  split <;> simp_all
theorem step_dig_eight (c : Int) (h : dig c = true) : step 8 c = 9 := by
  unfold step
  rcases cls_dig c h with e | e <;> rw [e] <;> rfl
theorem fin_eight (l : List Int) (m : Nat) : fin (R l 8 m) = pX l m := by
  unfold pX
  cases hf : dig (l.getD m 0) with
  | true =>
    rw [R_go l 8 m 9 (step_dig_eight _ hf) (by omega), fin_nine, sk_dig l m hf, if_neg (by have := sk_ge dig l (m + 1); omega)]
  | false => rw [R_stop l 8 m (step_nodig_eight _ hf), sk_nodig l m hf, if_pos rfl]; rfl
theorem fin_seven (l : List Int) (m : Nat) : fin (R l 7 m) = pX l (pS l m) := by
  unfold pS
  by_cases hs : l.getD m 0 = 43 ∨ l.getD m 0 = 45
  · rw [if_pos hs, ← fin_eight, R_go l 7 m 8 _ (by omega)]
    rcases hs with e | e <;> rw [e] <;> rfl
  · rw [if_neg hs]
    cases hf : dig (l.getD m 0) with
    | true =>
      rw [R_go l 7 m 9 (by unfold step; rcases cls_dig _ hf with e | e <;> rw [e] <;> rfl) (by omega), fin_nine, pX, sk_dig l m hf, if_neg (by have := sk_ge dig l (m + 1); omega)]
    | false =>
      rw [R_stop l 7 m, pX, sk_nodig l m hf, if_pos rfl]
      · rfl
      · have h := cls_nodig _ hf
        have h1 : cls (l.getD m 0) ≠ 1 := by unfold cls; rw [if_neg (by omega)]; repeat' split
                                             all_goals omega
        have h2 : cls (l.getD m 0) ≠ 2 := by unfold cls; rw [if_neg (by omega), if_neg (by omega)]; repeat' split
                                             all_goals omega
        unfold step tab
        split <;> simp_all
/-- no point: the kind is not 3; no e: the kind is not 6 -/
theorem cls_three (c : Int) (h : c ≠ 46) : cls c ≠ 3 := by
  unfold cls; repeat' split
  all_goals omega
theorem cls_six (c : Int) (h : ¬ (c = 101 ∨ c = 69)) : cls c ≠ 6 := by
  unfold cls; repeat' split
  all_goals omega
theorem cls_e (c : Int) (h : c = 101 ∨ c = 69) : cls c = 6 := by rcases h with rfl | rfl <;> rfl
theorem fin_three (l : List Int) (m : Nat) (hp : l.getD m 0 ≠ 46) : fin (R l 3 m) = pD l m := by
  unfold pD
  by_cases he : l.getD m 0 = 101 ∨ l.getD m 0 = 69
  · rw [if_pos he, ← fin_seven, R_go l 3 m 7 (by unfold step; rw [cls_e _ he]; rfl) (by omega)]
  · rw [if_neg he, R_stop l 3 m]
    · rfl
    · have h3 := cls_three _ hp
      have h6 := cls_six _ he
      unfold step tab
      split <;> simp_all
theorem fin_four (l : List Int) (m : Nat) (hp : l.getD m 0 ≠ 46) (hf : dig (l.getD m 0) = false) : fin (R l 4 m) = pD l m := by
  unfold pD
  by_cases he : l.getD m 0 = 101 ∨ l.getD m 0 = 69
  · rw [if_pos he, ← fin_seven, R_go l 4 m 7 (by unfold step; rw [cls_e _ he]; rfl) (by omega)]
  · rw [if_neg he, R_stop l 4 m]
    · rfl
    · have h3 := cls_three _ hp
      have h6 := cls_six _ he
      have h := cls_nodig _ hf
      unfold step tab
      split <;> simp_all
theorem fin_six (l : List Int) (m : Nat) (hf : dig (l.getD m 0) = false) : fin (R l 6 m) = pD l m := by
  unfold pD
  by_cases he : l.getD m 0 = 101 ∨ l.getD m 0 = 69
  · rw [if_pos he, ← fin_seven, R_go l 6 m 7 (by unfold step; rw [cls_e _ he]; rfl) (by omega)]
  · rw [if_neg he, R_stop l 6 m]
    · rfl
    · have h6 := cls_six _ he
      have h := cls_nodig _ hf
      unfold step tab
      split <;> simp_all
theorem fin_five (l : List Int) (m : Nat) : fin (R l 5 m) = if sk dig l m = m then none else pD l (sk dig l m) := by
  cases hf : dig (l.getD m 0) with
  | true =>
    rw [R_go l 5 m 6 (by unfold step; rcases cls_dig _ hf with e | e <;> rw [e] <;> rfl) (by omega), R_digs l 6 (m + 1) (by omega), sk_dig l m hf,
      if_neg (by have := sk_ge dig l (m + 1); omega), fin_six l _ (nodig_end l (m + 1))]
  | false =>
    rw [sk_nodig l m hf, if_pos rfl, R_stop l 5 m]
    · rfl
    · have h := cls_nodig _ hf
      unfold step tab
      split <;> simp_all
theorem pC_three (l : List Int) (m : Nat) : fin (R l 3 m) = pC l m := by
  unfold pC
  by_cases hp : l.getD m 0 = 46
  · rw [if_pos hp, ← fin_five, R_go l 3 m 5 (by rw [hp]; rfl) (by omega)]
  · rw [if_neg hp, fin_three l m hp]
theorem pC_four (l : List Int) (m : Nat) (hf : dig (l.getD m 0) = false) : fin (R l 4 m) = pC l m := by
  unfold pC
  by_cases hp : l.getD m 0 = 46
  · rw [if_pos hp, ← fin_five, R_go l 4 m 5 (by rw [hp]; rfl) (by omega)]
  · rw [if_neg hp, fin_four l m hp hf]
theorem cls_five (c : Int) (h : 49 ≤ c ∧ c ≤ 57) : cls c = 5 := by
  unfold cls
  rw [if_neg (by omega), if_neg (by omega), if_neg (by omega), if_neg (by omega), if_pos h]
theorem pB_head (l : List Int) (s m : Nat) (hs : s = 1 ∧ l.getD m 0 ≠ 45 ∨ s = 2) : fin (R l s m) = pB l m := by
  unfold pB
  by_cases h0 : l.getD m 0 = 48
  · rw [if_pos h0, ← pC_three, R_go l s m 3 (by rw [h0]; rcases hs with ⟨rfl, _⟩ | rfl <;> rfl) (by omega)]
  · rw [if_neg h0]
    by_cases h1 : 49 ≤ l.getD m 0 ∧ l.getD m 0 ≤ 57
    · rw [if_pos h1, R_go l s m 4 (by unfold step; rw [cls_five _ h1]; rcases hs with ⟨rfl, _⟩ | rfl <;> rfl) (by omega), R_digs l 4 (m + 1) (by omega), pC_four l _ (nodig_end l (m + 1))]
    · rw [if_neg h1, R_stop l s m]
      · rcases hs with ⟨rfl, _⟩ | rfl <;> rfl
      · have hf : dig (l.getD m 0) = false := by
          cases hd : dig (l.getD m 0) with
          | false => rfl
          | true => simp only [dig, Bool.and_eq_true, decide_eq_true_eq] at hd; omega
        have h := cls_nodig _ hf
        rcases hs with ⟨rfl, hm⟩ | rfl
        · have hc : cls (l.getD m 0) ≠ 1 := by unfold cls; rw [if_neg hm]; repeat' split
                                               all_goals omega
          unfold step tab
          split <;> simp_all
        · unfold step tab
          split <;> simp_all
/-- ████ scanNumber's plain function is the automaton's ████ -/
theorem scan_model (l : List Int) (n : Nat) : scan l n = model l n := by
  unfold scan pA
  show _ = fin (R l 1 n)
  by_cases h : l.getD n 0 = 45
  · rw [if_pos h, R_go l 1 n 2 (by rw [h]; rfl) (by omega), pB_head l 2 (n + 1) (.inr rfl)]
  · rw [if_neg h, pB_head l 1 n (.inl ⟨rfl, h⟩)]
end Go.Proofs.Qxb6601352a.Num
