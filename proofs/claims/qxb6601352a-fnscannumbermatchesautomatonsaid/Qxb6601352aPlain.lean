import Derived.Test.Qxb6601352aSmall
namespace Go.Proofs.Qxb6601352a.Plain
open Go.Proofs.Qxb6601352a.Small

/-- the first place from i on (i itself where i lies past the end) whose byte does not pass the test -/
def sk (f : Int → Bool) (l : List Int) (i : Nat) : Nat := i + ((l.drop i).takeWhile f).length
theorem sk_past (f : Int → Bool) (l : List Int) (i : Nat) (h : l.length ≤ i) : sk f l i = i := by
  unfold sk; rw [List.drop_eq_nil_of_le h]; rfl
theorem drop_cons (l : List Int) (i : Nat) (h : i < l.length) : l.drop i = l.getD i 0 :: l.drop (i + 1) := by
  rw [List.drop_eq_getElem_cons h]; simp [h]
theorem sk_go (f : Int → Bool) (l : List Int) (i : Nat) (h : i < l.length) (hf : f (l.getD i 0) = true) : sk f l i = sk f l (i + 1) := by
  unfold sk; rw [drop_cons l i h, List.takeWhile_cons, if_pos hf]; simp only [List.length_cons]; omega
theorem sk_stop (f : Int → Bool) (l : List Int) (i : Nat) (h : i < l.length) (hf : f (l.getD i 0) = false) : sk f l i = i := by
  unfold sk; rw [drop_cons l i h, List.takeWhile_cons, if_neg (by rw [hf]; exact Bool.false_ne_true)]; rfl
theorem sk_ge (f : Int → Bool) (l : List Int) (i : Nat) : i ≤ sk f l i := by unfold sk; omega
theorem sk_le (f : Int → Bool) (l : List Int) (i : Nat) (h : i ≤ l.length) : sk f l i ≤ l.length := by
  unfold sk
  have h1 := (List.takeWhile_prefix f (l := l.drop i)).length_le
  rw [List.length_drop] at h1
  omega
theorem sk_all (f : Int → Bool) (l : List Int) (i k : Nat) (h1 : i ≤ k) (h2 : k < sk f l i) : f (l.getD k 0) = true := by
  obtain ⟨d, rfl⟩ : ∃ d, k = i + d := ⟨k - i, by omega⟩
  clear h1
  induction d generalizing i with
  | zero =>
    by_cases hl : i < l.length
    · cases hf : f (l.getD i 0) with
      | true => rfl
      | false => rw [sk_stop f l i hl hf] at h2; omega
    · rw [sk_past f l i (by omega)] at h2; omega
  | succ d ih =>
    by_cases hl : i < l.length
    · cases hf : f (l.getD i 0) with
      | true => rw [sk_go f l i hl hf] at h2; have := ih (i + 1) (by omega); rwa [show i + 1 + d = i + (d + 1) from by omega] at this
      | false => rw [sk_stop f l i hl hf] at h2; omega
    · rw [sk_past f l i (by omega)] at h2; omega
theorem sk_end (f : Int → Bool) (l : List Int) (i : Nat) (h : sk f l i < l.length) : f (l.getD (sk f l i) 0) = false := by
  obtain ⟨d, hd⟩ : ∃ d, l.length - i = d := ⟨_, rfl⟩
  induction d generalizing i with
  | zero => rw [sk_past f l i (by omega)] at h; omega
  | succ d ih =>
    have hl : i < l.length := by omega
    cases hf : f (l.getD i 0) with
    | true => rw [sk_go f l i hl hf] at h ⊢; exact ih (i + 1) h (by omega)
    | false => rw [sk_stop f l i hl hf]; exact hf
end Go.Proofs.Qxb6601352a.Plain
