import Derived.Test.Qxb6601352aAuto
import Derived.Test.Qxb6601352aReads
namespace Go.Proofs.Qxb6601352a.Step
open Go.ChangeShapes Go.WideShapes Go.ChangeAt Go.RowKit
open Go.Proofs.Qxb6601352a.Small Go.Proofs.Qxb6601352a.Plain Go.Proofs.Qxb6601352a.Num
open Go.Proofs.Qxb6601352a.Reads (ret_int)

theorem accepts_any (s : Nat) (w : World) (h1 : 1 ≤ s) (h2 : s ≤ 9) : Calls Try.prog 28 #[.int .i64 s] w fun e w' => e = .returned (.bool (accB s)) ∧ w' = w := by
  obtain rfl | rfl | rfl | rfl | rfl | rfl | rfl | rfl | rfl : s = 1 ∨ s = 2 ∨ s = 3 ∨ s = 4 ∨ s = 5 ∨ s = 6 ∨ s = 7 ∨ s = 8 ∨ s = 9 := by omega
  all_goals
    clear h1 h2
    go_enter Try.func28, Try.ntmps28
    go_wp2
    go_ret
    exact ⟨rfl, rfl⟩

theorem ret_tab {k : IntKind} {a : Int} {b d : Nat} (h : b = d) (e : a = (d : Int)) : Ending.returned (.int k a) = .returned (.int k (b : Int)) := by rw [h, e]

set_option maxHeartbeats 2000000 in
/-- a byte that is written out -/
theorem step_lit (s : Nat) (c : Int) (w : World) (h1 : 1 ≤ s) (h2 : s ≤ 9) (hc : c = 45 ∨ c = 43 ∨ c = 46 ∨ c = 48 ∨ c = 101 ∨ c = 69) :
    Calls Try.prog 27 #[.int .i64 s, .int .u8 c] w fun e w' => e = .returned (.int .i64 (Num.step s c : Nat)) ∧ w' = w := by
  obtain rfl | rfl | rfl | rfl | rfl | rfl | rfl | rfl | rfl : s = 1 ∨ s = 2 ∨ s = 3 ∨ s = 4 ∨ s = 5 ∨ s = 6 ∨ s = 7 ∨ s = 8 ∨ s = 9 := by omega
  all_goals
    clear h1 h2
    rcases hc with rfl | rfl | rfl | rfl | rfl | rfl
  all_goals
    go_enter Try.func27, Try.ntmps27
    go_wp2
    go_ret
    exact ⟨rfl, rfl⟩

set_option maxHeartbeats 2000000 in
/-- a digit other than 0 -/
theorem step_dig (s : Nat) (c : Int) (w : World) (h1 : 1 ≤ s) (h2 : s ≤ 9) (hc : 49 ≤ c ∧ c ≤ 57) :
    Calls Try.prog 27 #[.int .i64 s, .int .u8 c] w fun e w' => e = .returned (.int .i64 (Num.step s c : Nat)) ∧ w' = w := by
  have HS : Hid (Num.step s c = tab s 5) := by show tab s (cls c) = _; rw [cls_five c hc]
  obtain ⟨p, q⟩ := hc
  have q0 : 48 ≤ c := by omega
  have b1 : (c == 45) = false := by simp; omega
  have b2 : (c == 43) = false := by simp; omega
  have b3 : (c == 46) = false := by simp; omega
  have b4 : (c == 48) = false := by simp; omega
  have b5 : (c == 101) = false := by simp; omega
  have b6 : (c == 69) = false := by simp; omega
  obtain rfl | rfl | rfl | rfl | rfl | rfl | rfl | rfl | rfl : s = 1 ∨ s = 2 ∨ s = 3 ∨ s = 4 ∨ s = 5 ∨ s = 6 ∨ s = 7 ∨ s = 8 ∨ s = 9 := by omega
  all_goals
    clear h1 h2
    go_enter Try.func27, Try.ntmps27
    go_wp2
    go_ret
    exact ⟨ret_tab HS.out rfl, rfl⟩

set_option maxHeartbeats 2000000 in
/-- any other byte -/
theorem step_oth (s : Nat) (c : Int) (w : World) (h1 : 1 ≤ s) (h2 : s ≤ 9) (hc : cls c = 0) (b1 : (c == 45) = false) (b2 : (c == 43) = false) (b3 : (c == 46) = false) (b4 : (c == 48) = false) (b5 : (c == 101) = false) (b6 : (c == 69) = false) (hr : c < 48 ∨ 57 < c) :
    Calls Try.prog 27 #[.int .i64 s, .int .u8 c] w fun e w' => e = .returned (.int .i64 (Num.step s c : Nat)) ∧ w' = w := by
  have HS : Hid (Num.step s c = tab s 0) := by show tab s (cls c) = _; rw [hc]
  clear hc
  by_cases h3 : c < 48
  · clear hr
    obtain rfl | rfl | rfl | rfl | rfl | rfl | rfl | rfl | rfl : s = 1 ∨ s = 2 ∨ s = 3 ∨ s = 4 ∨ s = 5 ∨ s = 6 ∨ s = 7 ∨ s = 8 ∨ s = 9 := by omega
    all_goals
      clear h1 h2
      go_enter Try.func27, Try.ntmps27
      go_wp2
      go_ret
      exact ⟨ret_tab HS.out rfl, rfl⟩
  · have h4 : 57 < c := by omega
    clear hr
    obtain rfl | rfl | rfl | rfl | rfl | rfl | rfl | rfl | rfl : s = 1 ∨ s = 2 ∨ s = 3 ∨ s = 4 ∨ s = 5 ∨ s = 6 ∨ s = 7 ∨ s = 8 ∨ s = 9 := by omega
    all_goals
      clear h1 h2
      go_enter Try.func27, Try.ntmps27
      go_wp2
      go_ret
      exact ⟨ret_tab HS.out rfl, rfl⟩

/-- one step of the automaton -/
theorem step_any (s : Nat) (c : Int) (w : World) (h1 : 1 ≤ s) (h2 : s ≤ 9) :
    Calls Try.prog 27 #[.int .i64 s, .int .u8 c] w fun e w' => e = .returned (.int .i64 (Num.step s c : Nat)) ∧ w' = w := by
  by_cases hc : c = 45 ∨ c = 43 ∨ c = 46 ∨ c = 48 ∨ c = 101 ∨ c = 69
  · exact step_lit s c w h1 h2 hc
  · by_cases hd : 49 ≤ c ∧ c ≤ 57
    · exact step_dig s c w h1 h2 hd
    · refine step_oth s c w h1 h2 ?_ (by simp; omega) (by simp; omega) (by simp; omega) (by simp; omega) (by simp; omega) (by simp; omega) (by omega)
      unfold cls
      rw [if_neg (by omega), if_neg (by omega), if_neg (by omega), if_neg (by omega), if_neg hd, if_neg (by omega)]
end Go.Proofs.Qxb6601352a.Step
