import Derived.Test.Qxb6601352aPlain
namespace Go.Proofs.Qxb6601352a.Num
open Go.Proofs.Qxb6601352a.Small Go.Proofs.Qxb6601352a.Plain

/-- past a sign of the exponent -/
def pS (l : List Int) (n : Nat) : Nat := if l.getD n 0 = 43 ∨ l.getD n 0 = 45 then n + 1 else n
/-- the digits of the exponent: at least one -/
def pX (l : List Int) (m : Nat) : Option Nat := if sk dig l m = m then none else some (sk dig l m)
/-- the exponent's part, if there is one -/
def pD (l : List Int) (n : Nat) : Option Nat := if l.getD n 0 = 101 ∨ l.getD n 0 = 69 then pX l (pS l (n + 1)) else some n
/-- the fraction's part, if there is one, and all that follows -/
def pC (l : List Int) (n : Nat) : Option Nat := if l.getD n 0 = 46 then (if sk dig l (n + 1) = n + 1 then none else pD l (sk dig l (n + 1))) else pD l n
/-- the integer's part and all that follows -/
def pB (l : List Int) (n : Nat) : Option Nat := if l.getD n 0 = 48 then pC l (n + 1) else if 49 ≤ l.getD n 0 ∧ l.getD n 0 ≤ 57 then pC l (sk dig l (n + 1)) else none
/-- past the minus sign -/
def pA (l : List Int) (n : Nat) : Nat := if l.getD n 0 = 45 then n + 1 else n
/-- the end of the number that starts at n -/
def scan (l : List Int) (n : Nat) : Option Nat := pB l (pA l n)
/-- as Go answers it -/
def outI : Option Nat → Int
  | none => -1
  | some k => k
theorem getD_past (l : List Int) (n : Nat) (h : ¬ n < l.length) : l.getD n 0 = 0 := by simp [List.getD, List.getElem?_eq_none (by omega : l.length ≤ n)]
theorem lt_of_getD (l : List Int) (n : Nat) (h : l.getD n 0 ≠ 0) : n < l.length := by
  by_cases hl : n < l.length
  · exact hl
  · exact absurd (getD_past l n hl) h
end Go.Proofs.Qxb6601352a.Num
