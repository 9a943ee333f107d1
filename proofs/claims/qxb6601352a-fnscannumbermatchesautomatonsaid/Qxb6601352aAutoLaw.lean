import Derived.Test.Qxb6601352aStep
import Derived.Test.Qxb6601352aScan
import Derived.Test.Qxb6601352aClone
namespace Go.Proofs.Qxb6601352a.AutoLaw
open Go.ChangeShapes Go.WideShapes Go.ChangeAt Go.RowKit
open Go.Proofs.Qxb6601352a.Small Go.Proofs.Qxb6601352a.Plain Go.Proofs.Qxb6601352a.Num Go.Proofs.Qxb6601352a.Clone Go.Proofs.Qxb6601352a.Scan Go.Proofs.Qxb6601352a.Step
open Go.Proofs.Qxb6601352a.Reads (Seg ret_int)

theorem out_acc (l : List Int) (n s p : Nat) (h : run 1 (l.drop n) n = (s, p)) : outI (model l n) = if accB s = true then (p : Int) else -1 := by
  unfold model fin
  rw [h]
  cases accB s <;> rfl

theorem model_any (a : Option Addr) (cap : Nat) (l : List Int) (n : Nat) (w : World) (hs : Seg w a l) (hl : l.length ≤ 1048576) :
    Calls Try.prog 14 #[.slice a l.length cap, .int .i64 n] w fun e w' => e = .returned (.int .i64 (outI (model l n))) ∧ w' = w := by
  go_enter Try.func14, Try.ntmps14
  go_wp2
  go_loop [5, 6] (fun x y => ∃ s p : Nat, x = .int .i64 s ∧ y = .int .i64 p ∧ 1 ≤ s ∧ s ≤ 9 ∧ Hid (run 1 (l.drop n) n = R l s p)) (fun _ y => l.length - (intOf y).toNat)
  case atStart => exact ⟨1, n, rfl, rfl, by omega, by omega, rfl⟩
  case round =>
    obtain ⟨s, p, rfl, rfl, h1, h9, HR⟩ := hrel
    by_cases hlt : p < l.length
    · obtain ⟨b, off, rfl, hc⟩ := hs p hlt
      clear hs
      have hle := step_le s (l.getD p 0)
      have HE : Hid (R l s p = if Num.step s (l.getD p 0) = 0 then (s, p) else R l (Num.step s (l.getD p 0)) (p + 1)) := R_eq l s p
      obtain ⟨t, HT⟩ : ∃ t, Hid (Num.step s (l.getD p 0) = t) := ⟨_, rfl⟩
      rw [HT.out] at hle HE
      generalize l.getD p 0 = c at hc HT
      by_cases ht : t = 0
      · subst ht
        have HO : Hid (outI (model l n) = if accB s = true then (p : Int) else -1) := out_acc l n s p (by rw [HR.out, HE.out, if_pos rfl])
        clear HE HR
        cases hacc : accB s with
        | true =>
          rw [hacc, if_pos rfl] at HO
          go_wp2_with (first | (go_at_call 27; refine (step_any s c _ h1 h9).mono ?_; rintro e w ⟨rfl, rfl⟩; rw [HT.out]) | (go_at_call 28; refine (accepts_any s _ h1 h9).mono ?_; rintro e w ⟨rfl, rfl⟩; rw [hacc]))
          go_ret
          exact ⟨ret_int HO.out.symm, rfl⟩
        | false =>
          rw [hacc, if_neg Bool.false_ne_true] at HO
          go_wp2_with (first | (go_at_call 27; refine (step_any s c _ h1 h9).mono ?_; rintro e w ⟨rfl, rfl⟩; rw [HT.out]) | (go_at_call 28; refine (accepts_any s _ h1 h9).mono ?_; rintro e w ⟨rfl, rfl⟩; rw [hacc]))
          go_ret
          exact ⟨ret_int HO.out.symm, rfl⟩
      · have ht1 : 1 ≤ t := by omega
        have HN : Hid (run 1 (l.drop n) n = R l t (p + 1)) := by show run 1 (l.drop n) n = _; rw [HR.out, HE.out, if_neg ht]
        clear ht HE HR
        go_wp2_with (go_at_call 27; refine (step_any s c _ h1 h9).mono ?_; rintro e w ⟨rfl, rfl⟩; rw [HT.out])
        go_round
        case rel => exact ⟨t, p + 1, rfl, by go_num, ht1, hle, HN⟩
        case measure => simp [intOf]; omega
    · clear hs
      have HO : Hid (outI (model l n) = if accB s = true then (p : Int) else -1) := out_acc l n s p (by rw [HR.out, R, List.drop_eq_nil_of_le (by omega), run])
      clear HR
      cases hacc : accB s with
      | true =>
        rw [hacc, if_pos rfl] at HO
        go_wp2_with (go_at_call 28; refine (accepts_any s _ h1 h9).mono ?_; rintro e w ⟨rfl, rfl⟩; rw [hacc])
        go_ret
        exact ⟨ret_int HO.out.symm, rfl⟩
      | false =>
        rw [hacc, if_neg Bool.false_ne_true] at HO
        go_wp2_with (go_at_call 28; refine (accepts_any s _ h1 h9).mono ?_; rintro e w ⟨rfl, rfl⟩; rw [hacc])
        go_ret
        exact ⟨ret_int HO.out.symm, rfl⟩

theorem zz_ok (a : Option Addr) (cap n : Nat) (i : Int) (w : World) (hl : n ≤ 1048576) : Calls Try.prog 11 #[.slice a n cap, .int .i64 i] w fun e w' => e = .returned (.bool true) ∧ w' = w := by
  go_enter Try.func11, Try.ntmps11
  go_wp2
  go_ret
  exact ⟨rfl, rfl⟩
theorem law_big (a : Option Addr) (cap n : Nat) (i : Int) (w : World) (hl : 1048576 < n) :
    Calls Try.prog 3 #[.slice a n cap, .int .i64 i] w fun e w' => e = .returned (.bool true) ∧ Below w.heap.size w w' := by
  go_enter Try.func3, Try.ntmps3
  go_wp2
  go_ret
  exact ⟨rfl, Below.refl _ _⟩
theorem law_neg (a : Option Addr) (cap n : Nat) (i : Int) (w : World) (hl : n ≤ 1048576) (hi : i < 0) :
    Calls Try.prog 3 #[.slice a n cap, .int .i64 i] w fun e w' => e = .returned (.bool true) ∧ Below w.heap.size w w' := by
  go_enter Try.func3, Try.ntmps3
  go_wp2
  go_ret
  exact ⟨rfl, Below.refl _ _⟩
theorem law_main (a : Option Addr) (cap : Nat) (l : List Int) (n : Nat) (w : World) (hs : Seg w a l) (hl : l.length ≤ 1048576) :
    Calls Try.prog 3 #[.slice a l.length cap, .int .i64 n] w fun e w' => e = .returned (.bool true) ∧ Below w.heap.size w w' := by
  obtain ⟨g, HG⟩ : ∃ g, Hid (outI (scan l n) = g) := ⟨_, rfl⟩
  have HM : Hid (outI (model l n) = g) := by show outI (model l n) = g; rw [← scan_model]; exact HG
  go_enter Try.func3, Try.ntmps3
  go_wp2_with (first | (go_at_call 12; refine (clone_any a cap l _ hs hl).mono ?_; rintro e w1 ⟨a1, rfl, hb, hs1⟩) | (go_at_call 11; refine (zz_ok _ _ _ _ _ hl).mono ?_; rintro e w ⟨rfl, rfl⟩) | (go_at_call 13; refine (zzScan_any _ _ l _ n _ (by assumption) hl rfl).mono ?_; rintro e w1 ⟨rfl, rfl⟩; rw [HG.out]) | (go_at_call 14; refine (model_any _ _ l n _ (by assumption) hl).mono ?_; rintro e w1 ⟨rfl, rfl⟩; rw [HM.out]))
  go_ret
  exact ⟨rfl, hb⟩

/-- the law returns true at every input -/
theorem law (a : Option Addr) (cap : Nat) (l : List Int) (i : Int) (w : World) (hs : Seg w a l) :
    Calls Try.prog 3 #[.slice a l.length cap, .int .i64 i] w fun e w' => e = .returned (.bool true) ∧ Below w.heap.size w w' := by
  by_cases hl : l.length ≤ 1048576
  · by_cases hi : i < 0
    · exact law_neg a cap l.length i w hl hi
    · obtain ⟨n, rfl⟩ : ∃ n : Nat, i = n := ⟨i.toNat, by omega⟩
      exact law_main a cap l n w hs hl
  · exact law_big a cap l.length i w (by omega)
end Go.Proofs.Qxb6601352a.AutoLaw
