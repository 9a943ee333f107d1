import Derived.Test.Qxb6601352aScan
import Derived.Test.Qxb6601352aClone
import Derived.Test.Qxb6601352aShift
namespace Go.Proofs.Qxb6601352a.Rest
open Go.ChangeShapes Go.WideShapes Go.ChangeAt Go.RowKit
open Go.Proofs.Qxb6601352a.Small Go.Proofs.Qxb6601352a.Plain Go.Proofs.Qxb6601352a.Num Go.Proofs.Qxb6601352a.Clone Go.Proofs.Qxb6601352a.Scan
open Go.Proofs.Qxb6601352a.Reads (Seg)

theorem zz_ok (a : Option Addr) (cap n : Nat) (i : Int) (w : World) (hl : n ≤ 1048576) : Calls Try.prog 15 #[.slice a n cap, .int .i64 i] w fun e w' => e = .returned (.bool true) ∧ w' = w := by
  go_enter Try.func15, Try.ntmps15
  go_wp2
  go_ret
  exact ⟨rfl, rfl⟩
theorem law_big (a : Option Addr) (cap n : Nat) (i : Int) (w : World) (hl : 1048576 < n) :
    Calls Try.prog 4 #[.slice a n cap, .int .i64 i] w fun e w' => e = .returned (.bool true) ∧ Below w.heap.size w w' := by
  go_enter Try.func4, Try.ntmps4
  go_wp2
  go_ret
  exact ⟨rfl, Below.refl _ _⟩
theorem law_out (a : Option Addr) (cap n : Nat) (i : Int) (w : World) (hl : n ≤ 1048576) (hi : i < 0 ∨ n < i) :
    Calls Try.prog 4 #[.slice a n cap, .int .i64 i] w fun e w' => e = .returned (.bool true) ∧ Below w.heap.size w w' := by
  by_cases h : i < 0
  · clear hi
    go_enter Try.func4, Try.ntmps4
    go_wp2
    go_ret
    exact ⟨rfl, Below.refl _ _⟩
  · have h2 : (n : Int) < i := by omega
    clear hi
    go_enter Try.func4, Try.ntmps4
    go_wp2
    go_ret
    exact ⟨rfl, Below.refl _ _⟩
theorem zzScan_len (a : Option Addr) (len cap : Nat) (l : List Int) (i : Int) (n : Nat) (w : World) (hs : Seg w a l) (hlen : l.length = len) (hl : len ≤ 1048576) (hi : i = n) :
    Calls Try.prog 13 #[.slice a len cap, .int .i64 i] w fun e w' => e = .returned (.int .i64 (outI (scan l n))) ∧ w' = w := by
  subst hlen
  exact zzScan_any a cap l i n w hs hl hi

theorem law_some (x : Addr) (cap : Nat) (l : List Int) (n : Nat) (w : World) (hs : Seg w (some x) l) (hl : l.length ≤ 1048576) (hn : n ≤ l.length) :
    Calls Try.prog 4 #[.slice (some x) l.length cap, .int .i64 n] w fun e w' => e = .returned (.bool true) ∧ Below w.heap.size w w' := by
  obtain ⟨r, HR⟩ : ∃ r, Hid (outI (scan (l.drop n) 0) = r) := ⟨_, rfl⟩
  obtain ⟨g, HG⟩ : ∃ g, Hid (outI (scan l n) = g) := ⟨_, rfl⟩
  have hrg := out_rest l n
  rw [HR.out, HG.out] at hrg
  go_enter Try.func4, Try.ntmps4
  go_wp2_with (first | (go_at_call 12; refine (clone_some x cap l _ hs hl).mono ?_; rintro e w1 ⟨rfl, hb, _, hc⟩) | (go_at_call 15; refine (zz_ok _ _ _ _ _ hl).mono ?_; rintro e w ⟨rfl, rfl⟩))
  have HC : Hid (Seg w1 (some ⟨w.heap.size, 0, none⟩) l) := fun i hi => ⟨w.heap.size, 0, rfl, by rw [Nat.zero_add]; exact hc i hi⟩
  have HD : Hid (Seg w1 (some ⟨w.heap.size, n, none⟩) (l.drop n)) := fun i hi => ⟨w.heap.size, n, rfl, by rw [List.length_drop] at hi; rw [getD_drop]; exact hc (n + i) (by omega)⟩
  have HE : Hid (l.length = n → Seg w1 (some ⟨w.heap.size, 0, none⟩) (l.drop n)) := fun h i hi => by rw [List.length_drop] at hi; omega
  clear hc hs
  go_wp2_with fail
  refine (zzScan_any (some ⟨w.heap.size, 0, none⟩) l.length l _ n _ HC.out hl rfl).mono ?_
  rintro e w1 ⟨rfl, rfl⟩
  rw [HG.out]
  clear HC HG
  by_cases he : l.length = n
  · have HE' := HE.out he
    go_wp2_with fail
    refine (zzScan_len (some ⟨w.heap.size, 0, none⟩) 0 0 (l.drop n) _ 0 _ HE' (by rw [List.length_drop]; omega) (by omega) rfl).mono ?_
    rintro e w1 ⟨rfl, rfl⟩
    rw [HR.out]
    clear HE HD HR HE' he
    rcases hrg with ⟨rfl, rfl⟩ | ⟨h0, h1, rfl⟩
    · go_wp2
      go_ret
      exact ⟨rfl, hb⟩
    · go_wp2
      go_ret
      exact ⟨rfl, hb⟩
  · go_wp2_with fail
    refine (zzScan_len (some ⟨w.heap.size, n, none⟩) (l.length - n) (l.length - n) (l.drop n) _ 0 _ HD.out (by rw [List.length_drop]) (by omega) rfl).mono ?_
    rintro e w1 ⟨rfl, rfl⟩
    rw [HR.out]
    clear HE HD HR he
    rcases hrg with ⟨rfl, rfl⟩ | ⟨h0, h1, rfl⟩
    · go_wp2
      go_ret
      exact ⟨rfl, hb⟩
    · go_wp2
      go_ret
      exact ⟨rfl, hb⟩
theorem law_none (cap : Nat) (w : World) :
    Calls Try.prog 4 #[.slice none 0 cap, .int .i64 0] w fun e w' => e = .returned (.bool true) ∧ Below w.heap.size w w' := by
  have hs : Seg w none [] := fun i hi => by simp at hi
  have h0 : outI (scan [] 0) = -1 := by decide
  go_enter Try.func4, Try.ntmps4
  go_wp2_with (first | (go_at_call 12; refine (clone_none cap _).mono ?_; rintro e w ⟨rfl, rfl⟩) | (go_at_call 15; refine (zz_ok _ _ _ _ _ (by omega)).mono ?_; rintro e w ⟨rfl, rfl⟩) | (go_at_call 13; refine (zzScan_len none 0 0 [] _ 0 _ hs rfl (by omega) rfl).mono ?_; rintro e w ⟨rfl, rfl⟩))
  go_ret
  exact ⟨rfl, Below.refl _ _⟩

/-- the law returns true at every input -/
theorem law (a : Option Addr) (cap : Nat) (l : List Int) (i : Int) (w : World) (hs : Seg w a l) :
    Calls Try.prog 4 #[.slice a l.length cap, .int .i64 i] w fun e w' => e = .returned (.bool true) ∧ Below w.heap.size w w' := by
  by_cases hl : l.length ≤ 1048576
  · by_cases hi : i < 0 ∨ l.length < i
    · exact law_out a cap l.length i w hl hi
    · obtain ⟨n, rfl⟩ : ∃ n : Nat, i = n := ⟨i.toNat, by omega⟩
      cases a with
      | some x => exact law_some x cap l n w hs hl (by omega)
      | none =>
        have h0 : l.length = 0 := by
          by_cases h : l.length = 0
          · exact h
          · obtain ⟨b, off, h', _⟩ := hs 0 (by omega)
            simp at h'
        obtain rfl : n = 0 := by omega
        rw [h0]
        exact law_none cap w
  · exact law_big a cap l.length i w (by omega)
end Go.Proofs.Qxb6601352a.Rest
