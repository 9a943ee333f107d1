import Derived.Test.Qxb6601352aScan
import Derived.Test.Qxb6601352aClone
import Derived.Test.Qxb6601352aEnds
namespace Go.Proofs.Qxb6601352a.Stops
open Go.ChangeShapes Go.WideShapes Go.ChangeAt Go.RowKit
open Go.Proofs.Qxb6601352a.Small Go.Proofs.Qxb6601352a.Plain Go.Proofs.Qxb6601352a.Num Go.Proofs.Qxb6601352a.Clone Go.Proofs.Qxb6601352a.Scan
open Go.Proofs.Qxb6601352a.Reads (Seg)

theorem zz_ok (a : Option Addr) (cap n : Nat) (i : Int) (w : World) (hl : n ≤ 1048576) : Calls Try.prog 16 #[.slice a n cap, .int .i64 i] w fun e w' => e = .returned (.bool true) ∧ w' = w := by
  go_enter Try.func16, Try.ntmps16
  go_wp2
  go_ret
  exact ⟨rfl, rfl⟩
theorem law_big (a : Option Addr) (cap n : Nat) (i : Int) (w : World) (hl : 1048576 < n) :
    Calls Try.prog 5 #[.slice a n cap, .int .i64 i] w fun e w' => e = .returned (.bool true) ∧ Below w.heap.size w w' := by
  go_enter Try.func5, Try.ntmps5
  go_wp2
  go_ret
  exact ⟨rfl, Below.refl _ _⟩
theorem law_neg (a : Option Addr) (cap n : Nat) (i : Int) (w : World) (hl : n ≤ 1048576) (hi : i < 0) :
    Calls Try.prog 5 #[.slice a n cap, .int .i64 i] w fun e w' => e = .returned (.bool true) ∧ Below w.heap.size w w' := by
  go_enter Try.func5, Try.ntmps5
  go_wp2
  go_ret
  exact ⟨rfl, Below.refl _ _⟩
theorem law_none (a : Option Addr) (cap : Nat) (l : List Int) (n : Nat) (w : World) (hs : Seg w a l) (hl : l.length ≤ 1048576) (hn : scan l n = none) :
    Calls Try.prog 5 #[.slice a l.length cap, .int .i64 n] w fun e w' => e = .returned (.bool true) ∧ Below w.heap.size w w' := by
  have HN : Hid (outI (scan l n) = -1) := by show outI (scan l n) = -1; rw [hn]; rfl
  clear hn
  go_enter Try.func5, Try.ntmps5
  go_wp2_with (first | (go_at_call 12; refine (clone_any a cap l _ hs hl).mono ?_; rintro e w1 ⟨a1, rfl, hb, hs1⟩) | (go_at_call 13; refine (zzScan_any _ _ l _ n _ (by assumption) hl rfl).mono ?_; rintro e w1 ⟨rfl, rfl⟩; rw [HN.out]) | (go_at_call 16; refine (zz_ok _ _ _ _ _ hl).mono ?_; rintro e w ⟨rfl, rfl⟩))
  go_ret
  exact ⟨rfl, hb⟩
theorem zzScan_len (a : Option Addr) (len cap : Nat) (l : List Int) (i : Int) (n : Nat) (w : World) (hs : Seg w a l) (hlen : l.length = len) (hl : len ≤ 1048576) (hi : i = n) :
    Calls Try.prog 13 #[.slice a len cap, .int .i64 i] w fun e w' => e = .returned (.int .i64 (outI (scan l n))) ∧ w' = w := by
  subst hlen
  exact zzScan_any a cap l i n w hs hl hi
theorem law_some (x : Addr) (cap : Nat) (l : List Int) (n r : Nat) (w : World) (hs : Seg w (some x) l) (hl : l.length ≤ 1048576) (hr : scan l n = some r) :
    Calls Try.prog 5 #[.slice (some x) l.length cap, .int .i64 n] w fun e w' => e = .returned (.bool true) ∧ Below w.heap.size w w' := by
  obtain ⟨h1, h2⟩ := scan_bd l n r hr
  have HN : Hid (outI (scan l n) = (r : Int)) := by show outI (scan l n) = _; rw [hr]; rfl
  have HT : Hid (outI (scan (l.take r) n) = (r : Int)) := by show outI (scan (l.take r) n) = _; rw [scan_take l n r hr]; rfl
  have HA : Hid (AllNb l n r) := scan_nb l n r hr
  clear hr
  have q1 : ¬ r ≤ n := by omega
  have q2 : ¬ l.length < r := by omega
  go_enter Try.func5, Try.ntmps5
  go_wp2_with (first | (go_at_call 12; refine (clone_some x cap l _ hs hl).mono ?_; rintro e w1 ⟨rfl, hb, _, hc⟩) | (go_at_call 16; refine (zz_ok _ _ _ _ _ hl).mono ?_; rintro e w ⟨rfl, rfl⟩))
  have HC : Hid (Seg w1 (some ⟨w.heap.size, 0, none⟩) l) := fun i hi => ⟨w.heap.size, 0, rfl, by rw [Nat.zero_add]; exact hc i hi⟩
  have HD : Hid (Seg w1 (some ⟨w.heap.size, 0, none⟩) (l.take r)) := fun i hi => ⟨w.heap.size, 0, rfl, by rw [List.length_take] at hi; rw [Nat.zero_add, getD_take_lt l r i (by omega)]; exact hc i (by omega)⟩
  have HK : Hid (∀ i, i < l.length → w1.cell? ⟨w.heap.size, i, none⟩ = some (.int .u8 (l.getD i 0))) := hc
  clear hc hs
  go_wp2_with fail
  refine (zzScan_any (some ⟨w.heap.size, 0, none⟩) l.length l _ n _ HC.out hl rfl).mono ?_
  rintro e w1 ⟨rfl, rfl⟩
  rw [HN.out]
  clear HC HN
  go_wp2_with fail
  go_loop [6] (fun i => ∃ k : Nat, n ≤ k ∧ k ≤ r ∧ i = .int .i64 k) (fun i => r - (intOf i).toNat)
  case atStart => exact ⟨n, by omega, by omega, rfl⟩
  case round =>
    obtain ⟨k, hk1, hk2, rfl⟩ := hrel
    by_cases hlt : k < r
    · have hck := HK.out k (by omega)
      have hsp := HA.out k hk1 hlt
      generalize l.getD k 0 = c at hck hsp
      clear HK HD HA HT
      go_wp2_with (go_at_call 17; refine (numByte_any _ _).mono ?_; rintro e w' ⟨rfl, rfl⟩)
      go_round
      case rel => exact ⟨k + 1, by omega, by omega, by go_num⟩
      case measure => simp [intOf]; omega
    · obtain rfl : k = r := by omega
      clear HK HA
      go_wp2_with fail
      refine (zzScan_len (some ⟨w.heap.size, 0, none⟩) k l.length (l.take k) _ n _ HD.out (by rw [List.length_take]; omega) (by omega) rfl).mono ?_
      rintro e w1 ⟨rfl, rfl⟩
      rw [HT.out]
      go_wp2
      go_ret
      exact ⟨rfl, hb⟩

/-- the law returns true at every input -/
theorem law (a : Option Addr) (cap : Nat) (l : List Int) (i : Int) (w : World) (hs : Seg w a l) :
    Calls Try.prog 5 #[.slice a l.length cap, .int .i64 i] w fun e w' => e = .returned (.bool true) ∧ Below w.heap.size w w' := by
  by_cases hl : l.length ≤ 1048576
  · by_cases hi : i < 0
    · exact law_neg a cap l.length i w hl hi
    · obtain ⟨n, rfl⟩ : ∃ n : Nat, i = n := ⟨i.toNat, by omega⟩
      cases hr : scan l n with
      | none => exact law_none a cap l n w hs hl hr
      | some r =>
        have hb := scan_bd l n r hr
        obtain ⟨b, off, rfl, _⟩ := hs 0 (by omega)
        exact law_some _ cap l n r w hs hl hr
  · exact law_big a cap l.length i w (by omega)
end Go.Proofs.Qxb6601352a.Stops
