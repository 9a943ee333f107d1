import Derived.Test.Qxb6601352aClone
namespace Go.Proofs.Qxb6601352a.Skip
open Go.ChangeShapes Go.WideShapes Go.ChangeAt Go.RowKit
open Go.Proofs.Qxb6601352a.Small Go.Proofs.Qxb6601352a.Plain Go.Proofs.Qxb6601352a.Reads Go.Proofs.Qxb6601352a.Clone

theorem law_big (a : Option Addr) (cap n : Nat) (i : Int) (w : World) (hl : 1048576 < n) :
    Calls Try.prog 6 #[.slice a n cap, .int .i64 i] w fun e w' => e = .returned (.bool true) ∧ Below w.heap.size w w' := by
  go_enter Try.func6, Try.ntmps6
  go_wp2
  go_ret
  exact ⟨rfl, Below.refl _ _⟩
theorem law_neg (a : Option Addr) (cap n : Nat) (i : Int) (w : World) (hl : n ≤ 1048576) (hi : i < 0) :
    Calls Try.prog 6 #[.slice a n cap, .int .i64 i] w fun e w' => e = .returned (.bool true) ∧ Below w.heap.size w w' := by
  go_enter Try.func6, Try.ntmps6
  go_wp2
  go_ret
  exact ⟨rfl, Below.refl _ _⟩
theorem law_past (a : Option Addr) (cap : Nat) (l : List Int) (n : Nat) (w : World) (hs : Seg w a l) (hl : l.length ≤ 1048576) (hn : l.length ≤ n) :
    Calls Try.prog 6 #[.slice a l.length cap, .int .i64 n] w fun e w' => e = .returned (.bool true) ∧ Below w.heap.size w w' := by
  have hsk := sk_past spB l n hn
  go_enter Try.func6, Try.ntmps6
  go_wp2_with (first | (go_at_call 12; refine (clone_any a cap l _ hs hl).mono ?_; rintro e w1 ⟨a1, rfl, hb, hs1⟩) | (go_at_call 19; refine (skipSpace_any _ _ l _ n _ (by assumption) hl rfl).mono ?_; rintro e w1 ⟨rfl, rfl⟩) | (go_at_call 18; go_in))
  go_ret
  exact ⟨rfl, hb⟩

theorem law_in (a : Option Addr) (cap : Nat) (l : List Int) (n : Nat) (w : World) (hs : Seg w a l) (hl : l.length ≤ 1048576) (hn : n < l.length) :
    Calls Try.prog 6 #[.slice a l.length cap, .int .i64 n] w fun e w' => e = .returned (.bool true) ∧ Below w.heap.size w w' := by
  have h1 := sk_ge spB l n
  have h2 := sk_le spB l n (by omega)
  have HA : Hid (∀ k, n ≤ k → k < sk spB l n → spB (l.getD k 0) = true) := sk_all spB l n
  have HE : Hid (sk spB l n < l.length → spB (l.getD (sk spB l n) 0) = false) := sk_end spB l n
  go_enter Try.func6, Try.ntmps6
  go_wp2_with (first | (go_at_call 12; refine (clone_any a cap l _ hs hl).mono ?_; rintro e w1 ⟨a1, rfl, hb, hs1⟩) | (go_at_call 19; refine (skipSpace_any _ _ l _ n _ (by assumption) hl rfl).mono ?_; rintro e w1 ⟨rfl, rfl⟩) | (go_at_call 18; go_in))
  generalize sk spB l n = r at h1 h2 HA HE ⊢
  obtain ⟨b, off, rfl, hc⟩ : ∃ b off, a1 = some ⟨b, off, none⟩ ∧ ∀ i, i < l.length → w1.cell? ⟨b, off + i, none⟩ = some (.int .u8 (l.getD i 0)) := by
    rcases hs1.cases with h | h
    · omega
    · exact h
  clear hs hs1
  go_loop [6] (fun i => ∃ k : Nat, n ≤ k ∧ k ≤ r ∧ i = .int .i64 k) (fun i => r - (intOf i).toNat)
  case atStart => exact ⟨n, by omega, by omega, rfl⟩
  case round =>
    obtain ⟨k, hk1, hk2, rfl⟩ := hrel
    by_cases hlt : k < r
    · have hck := hc k (by omega)
      have hsp := HA.out k hk1 hlt
      generalize l.getD k 0 = c at hck hsp
      clear hc
      go_wp2_with (go_at_call 20; refine (jsonSpace_any _ _).mono ?_; rintro e w' ⟨rfl, rfl⟩)
      go_round
      case rel => exact ⟨k + 1, by omega, by omega, by go_num⟩
      case measure => simp [intOf]; omega
    · obtain rfl : k = r := by omega
      by_cases he : k = l.length
      · subst he
        clear hc
        go_wp2_with (go_at_call 20; refine (jsonSpace_any _ _).mono ?_; rintro e w' ⟨rfl, rfl⟩)
        go_ret
        exact ⟨rfl, hb⟩
      · have hck := hc k (by omega)
        have hsp := HE.out (by omega)
        generalize l.getD k 0 = c at hck hsp
        clear hc
        go_wp2_with (go_at_call 20; refine (jsonSpace_any _ _).mono ?_; rintro e w' ⟨rfl, rfl⟩)
        go_ret
        exact ⟨rfl, hb⟩

/-- the law returns true at every input -/
theorem law (a : Option Addr) (cap : Nat) (l : List Int) (i : Int) (w : World) (hs : Seg w a l) :
    Calls Try.prog 6 #[.slice a l.length cap, .int .i64 i] w fun e w' => e = .returned (.bool true) ∧ Below w.heap.size w w' := by
  by_cases hl : l.length ≤ 1048576
  · by_cases hi : i < 0
    · exact law_neg a cap l.length i w hl hi
    · obtain ⟨n, rfl⟩ : ∃ n : Nat, i = n := ⟨i.toNat, by omega⟩
      by_cases hn : n < l.length
      · exact law_in a cap l n w hs hl hn
      · exact law_past a cap l n w hs hl (by omega)
  · exact law_big a cap l.length i w (by omega)
end Go.Proofs.Qxb6601352a.Skip
