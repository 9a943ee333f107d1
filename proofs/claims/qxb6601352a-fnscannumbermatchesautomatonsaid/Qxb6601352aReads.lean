import Derived.Test.Qxb6601352aPlain
namespace Go.Proofs.Qxb6601352a.Reads
open Go.ChangeShapes Go.WideShapes Go.ChangeAt Go.RowKit
open Go.Proofs.Qxb6601352a.Small Go.Proofs.Qxb6601352a.Plain

/-- the slice at a holds the bytes l -/
def Seg (w : World) (a : Option Addr) (l : List Int) : Prop :=
  ∀ i, i < l.length → ∃ b off, a = some ⟨b, off, none⟩ ∧ w.cell? ⟨b, off + i, none⟩ = some (.int .u8 (l.getD i 0))
theorem Seg.cases {w : World} {a : Option Addr} {l : List Int} (h : Seg w a l) :
    l.length = 0 ∨ ∃ b off, a = some ⟨b, off, none⟩ ∧ ∀ i, i < l.length → w.cell? ⟨b, off + i, none⟩ = some (.int .u8 (l.getD i 0)) := by
  by_cases h0 : l.length = 0
  · exact .inl h0
  · obtain ⟨b, off, rfl, _⟩ := h 0 (by omega)
    refine .inr ⟨b, off, rfl, fun i hi => ?_⟩
    obtain ⟨b', off', e, hc⟩ := h i hi
    injection e with e
    injection e with e1 e2
    subst e1 e2
    exact hc

theorem ret_int {k : IntKind} {a b : Int} (h : a = b) : Ending.returned (.int k a) = .returned (.int k b) := by rw [h]
theorem ret_nat {k : IntKind} {a b : Nat} (h : a = b) : Ending.returned (.int k (a : Int)) = .returned (.int k (b : Int)) := by rw [h]
theorem getD_past (l : List Int) (n : Nat) (h : ¬ n < l.length) : l.getD n 0 = 0 := by simp [List.getD, List.getElem?_eq_none (by omega : l.length ≤ n)]
theorem byteAt_any (a : Option Addr) (cap : Nat) (l : List Int) (i : Int) (n : Nat) (w : World) (hs : Seg w a l) (hi : i = n) :
    Calls Try.prog 31 #[.slice a l.length cap, .int .i64 i] w fun e w' => e = .returned (.int .u8 (l.getD n 0)) ∧ w' = w := by
  subst hi
  by_cases hl : n < l.length
  · obtain ⟨b, off, rfl, hc⟩ := hs n hl
    clear hs
    generalize l.getD n 0 = c at hc ⊢
    go_enter Try.func31, Try.ntmps31
    go_wp2
    go_ret
    exact ⟨rfl, rfl⟩
  · clear hs
    go_enter Try.func31, Try.ntmps31
    go_wp2
    go_ret
    exact ⟨ret_int (getD_past l n hl).symm, rfl⟩

theorem skipDigits_any (a : Option Addr) (cap : Nat) (l : List Int) (i : Int) (n : Nat) (w : World) (hs : Seg w a l) (hl : l.length ≤ 1048576) (hi : i = n) (hn : n ≤ l.length) :
    Calls Try.prog 32 #[.slice a l.length cap, .int .i64 i] w fun e w' => e = .returned (.int .i64 (sk dig l n : Nat)) ∧ w' = w := by
  subst hi
  go_enter Try.func32, Try.ntmps32
  go_wp2
  go_loop [1] (fun i => ∃ k : Nat, k ≤ l.length ∧ Hid (sk dig l k = sk dig l n) ∧ i = .int .i64 k) (fun i => l.length - (intOf i).toNat)
  case atStart => exact ⟨n, hn, rfl, rfl⟩
  case round =>
    obtain ⟨k, hk, HS, rfl⟩ := hrel
    by_cases hlt : k < l.length
    · obtain ⟨b, off, rfl, hc⟩ := hs k hlt
      clear hs
      have HG : Hid (dig (l.getD k 0) = true → sk dig l k = sk dig l (k + 1)) := fun h => sk_go dig l k hlt h
      have HT : Hid (dig (l.getD k 0) = false → sk dig l k = k) := fun h => sk_stop dig l k hlt h
      generalize l.getD k 0 = c at hc HG HT
      by_cases h1 : 48 ≤ c
      · by_cases h2 : c ≤ 57
        · go_wp2
          go_round
          case rel => exact ⟨k + 1, by omega, (HG.out (by simp [dig, h1, h2])).symm.trans HS.out, by go_num⟩
          case measure => simp [intOf]; omega
        · go_wp2
          go_ret
          exact ⟨ret_nat ((HT.out (by simp [dig]; omega)).symm.trans HS.out), rfl⟩
      · go_wp2
        go_ret
        exact ⟨ret_nat ((HT.out (by simp [dig]; omega)).symm.trans HS.out), rfl⟩
    · clear hs
      go_wp2
      go_ret
      exact ⟨ret_nat ((sk_past dig l k (by omega)).symm.trans HS.out), rfl⟩

theorem skipSpace_any (a : Option Addr) (cap : Nat) (l : List Int) (i : Int) (n : Nat) (w : World) (hs : Seg w a l) (hl : l.length ≤ 1048576) (hi : i = n) :
    Calls Try.prog 19 #[.slice a l.length cap, .int .i64 i] w fun e w' => e = .returned (.int .i64 (sk spB l n : Nat)) ∧ w' = w := by
  subst hi
  go_enter Try.func19, Try.ntmps19
  go_wp2
  go_loop [1] (fun i => ∃ k : Nat, Hid (sk spB l k = sk spB l n) ∧ i = .int .i64 k) (fun i => l.length - (intOf i).toNat)
  case atStart => exact ⟨n, rfl, rfl⟩
  case round =>
    obtain ⟨k, HS, rfl⟩ := hrel
    by_cases hlt : k < l.length
    · obtain ⟨b, off, rfl, hc⟩ := hs k hlt
      clear hs
      have HG : Hid (spB (l.getD k 0) = true → sk spB l k = sk spB l (k + 1)) := fun h => sk_go spB l k hlt h
      have HT : Hid (spB (l.getD k 0) = false → sk spB l k = k) := fun h => sk_stop spB l k hlt h
      generalize l.getD k 0 = c at hc HG HT
      by_cases h1 : c ≤ 32
      · cases h2 : spB c with
        | true =>
          go_wp2_with (go_at_call 29; refine (isSpace_any _ _).mono ?_; rintro e w' ⟨rfl, rfl⟩)
          go_round
          case rel => exact ⟨k + 1, (HG.out h2).symm.trans HS.out, by go_num⟩
          case measure => simp [intOf]; omega
        | false =>
          go_wp2_with (go_at_call 29; refine (isSpace_any _ _).mono ?_; rintro e w' ⟨rfl, rfl⟩)
          go_ret
          exact ⟨ret_nat ((HT.out h2).symm.trans HS.out), rfl⟩
      · go_wp2
        go_ret
        exact ⟨ret_nat ((HT.out (by simp [spB]; omega)).symm.trans HS.out), rfl⟩
    · clear hs
      go_wp2
      go_ret
      exact ⟨ret_nat ((sk_past spB l k (by omega)).symm.trans HS.out), rfl⟩
end Go.Proofs.Qxb6601352a.Reads
