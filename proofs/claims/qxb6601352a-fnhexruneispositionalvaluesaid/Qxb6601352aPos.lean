import Derived.Test.Qxb6601352aHex
import Derived.Test.Qxb6601352aClone
namespace Go.Proofs.Qxb6601352a.Pos
open Go.ChangeShapes Go.WideShapes Go.ChangeAt Go.RowKit
open Go.Proofs.Qxb6601352a.Reads Go.Proofs.Qxb6601352a.Clone Go.Proofs.Qxb6601352a.Hex

/-- the value of a hexadecimal digit -/
def hexv (c : Int) : Int := if c ≤ 57 then c - 48 else if 97 ≤ c then c - 87 else c - 55
/-- is the byte a hexadecimal digit? -/
def hexOk (c : Int) : Bool := decide (48 ≤ c ∧ c ≤ 57 ∨ 97 ≤ c ∧ c ≤ 102 ∨ 65 ≤ c ∧ c ≤ 70)
theorem hexD_of {c : Int} (h : hexOk c = true) : HexD c (hexv c) := by
  simp only [hexOk, decide_eq_true_eq] at h
  unfold HexD hexv
  rcases h with h | h | h
  · exact .inl ⟨h.1, h.2, by rw [if_pos (by omega)]⟩
  · exact .inr (.inl ⟨h.1, h.2, by rw [if_neg (by omega), if_pos (by omega)]⟩)
  · exact .inr (.inr ⟨h.1, h.2, by rw [if_neg (by omega), if_neg (by omega)]⟩)

theorem ret_ib {k : IntKind} {a b : Int} {c : Bool} (h : a = b) : Ending.returned (.tuple #[.int k a, .bool c]) = .returned (.tuple #[.int k b, .bool c]) := by rw [h]
theorem hexVal_yes (c v : Int) (w : World) (h : HexD c v) : Calls Try.prog 24 #[.int .u8 c] w fun e w' => e = .returned (.tuple #[.int .i32 v, .bool true]) ∧ w' = w := by
  rcases h with ⟨h1, h2, h3⟩ | ⟨h1, h2, h3⟩ | ⟨h1, h2, h3⟩
  all_goals
    have HV := Hid.out h3
    clear h3
  · subst HV
    go_enter Try.func24, Try.ntmps24
    go_wp2
    go_ret2
    exact ⟨rfl, rfl⟩
  · have HV' : Hid (v = c - 97 + 10) := by show v = _; omega
    clear HV
    have h3 : 57 < c := by omega
    go_enter Try.func24, Try.ntmps24
    go_wp2
    go_ret2
    exact ⟨ret_ib HV'.out.symm, rfl⟩
  · have HV' : Hid (v = c - 65 + 10) := by show v = _; omega
    clear HV
    have h3 : 57 < c := by omega
    have h4 : c < 97 := by omega
    go_enter Try.func24, Try.ntmps24
    go_wp2
    go_ret2
    exact ⟨ret_ib HV'.out.symm, rfl⟩
theorem hexVal_no (c : Int) (w : World) (h : hexOk c = false) : Calls Try.prog 24 #[.int .u8 c] w fun e w' => e = .returned (.tuple #[.int .i32 0, .bool false]) ∧ w' = w := by
  simp only [hexOk, decide_eq_false_iff_not] at h
  by_cases h1 : 48 ≤ c
  · have h2 : 57 < c := by omega
    by_cases h3 : 97 ≤ c
    · have h4 : 102 < c := by omega
      have h5 : 70 < c := by omega
      clear h
      go_enter Try.func24, Try.ntmps24
      go_wp2
      go_ret2
      exact ⟨rfl, rfl⟩
    · by_cases h5 : 65 ≤ c
      · have h6 : 70 < c := by omega
        clear h
        go_enter Try.func24, Try.ntmps24
        go_wp2
        go_ret2
        exact ⟨rfl, rfl⟩
      · clear h
        go_enter Try.func24, Try.ntmps24
        go_wp2
        go_ret2
        exact ⟨rfl, rfl⟩
  · have h3 : c < 97 := by omega
    have h5 : c < 65 := by omega
    clear h
    go_enter Try.func24, Try.ntmps24
    go_wp2
    go_ret2
    exact ⟨rfl, rfl⟩

theorem zz_ok (a : Option Addr) (cap n : Nat) (w : World) (hl : n ≤ 1048576) : Calls Try.prog 23 #[.slice a n cap] w fun e w' => e = .returned (.bool true) ∧ w' = w := by
  go_enter Try.func23, Try.ntmps23
  go_wp2
  go_ret
  exact ⟨rfl, rfl⟩
theorem law_short (a : Option Addr) (cap n : Nat) (w : World) (hl : 1048576 < n ∨ n < 4) :
    Calls Try.prog 9 #[.slice a n cap] w fun e w' => e = .returned (.bool true) ∧ Below w.heap.size w w' := by
  rcases hl with hl | hl
  · go_enter Try.func9, Try.ntmps9
    go_wp2
    go_ret
    exact ⟨rfl, Below.refl _ _⟩
  · have h2 : n ≤ 1048576 := by omega
    go_enter Try.func9, Try.ntmps9
    go_wp2
    go_ret
    exact ⟨rfl, Below.refl _ _⟩
/-- the place's weight at the head of round k -/
def placeAt : Nat → Int
  | 0 => 4096
  | 1 => 256
  | 2 => 16
  | 3 => 1
  | _ => 0
/-- the sum at the head of round k -/
def wantAt (l : List Int) : Nat → Int
  | 0 => 0
  | k + 1 => wantAt l k + hexv (l.getD k 0) * placeAt k
theorem wantAt_bd (l : List Int) (k : Nat) (hk : k < 4) (h : ∀ j, j < k → hexOk (l.getD j 0) = true) : 0 ≤ wantAt l k ∧ wantAt l k ≤ 65535 := by
  obtain rfl | rfl | rfl | rfl : k = 0 ∨ k = 1 ∨ k = 2 ∨ k = 3 := by omega
  · simp [wantAt]
  · have h0 := (hexD_of (h 0 (by omega))).bd
    simp only [wantAt, placeAt]; omega
  · have h0 := (hexD_of (h 0 (by omega))).bd
    have h1 := (hexD_of (h 1 (by omega))).bd
    simp only [wantAt, placeAt]; omega
  · have h0 := (hexD_of (h 0 (by omega))).bd
    have h1 := (hexD_of (h 1 (by omega))).bd
    have h2 := (hexD_of (h 2 (by omega))).bd
    simp only [wantAt, placeAt]; omega
theorem law_main (b off : Nat) (cap : Nat) (l : List Int) (w : World) (hs : Seg w (some ⟨b, off, none⟩) l) (hl : l.length ≤ 1048576) (h4 : 4 ≤ l.length) :
    Calls Try.prog 9 #[.slice (some ⟨b, off, none⟩) l.length cap] w fun e w' => e = .returned (.bool true) ∧ Below w.heap.size w w' := by
  have hc : ∀ i, i < l.length → w.cell? ⟨b, off + i, none⟩ = some (.int .u8 (l.getD i 0)) := by
    rcases hs.cases with h | ⟨b', off', e, h⟩
    · omega
    · injection e with e
      injection e with e1 e2
      subst e1 e2
      exact h
  have hsz : b < w.heap.size := World.block_lt_of_cell? w _ (hc 0 (by omega))
  have HC := show Hid (∀ i, i < l.length → w.cell? ⟨b, off + i, none⟩ = some (.int .u8 (l.getD i 0))) from hc
  clear hc
  go_enter Try.func9, Try.ntmps9
  go_wp2_with (go_at_call 23; refine (zz_ok _ _ _ _ hl).mono ?_; rintro e w ⟨rfl, rfl⟩)
  go_loop [3, 4, 5] (fun x y i => ∃ k : Nat, k ≤ 4 ∧ i = .int .i64 k ∧ Hid (∀ j, j < k → hexOk (l.getD j 0) = true) ∧ x = .int .i32 (wantAt l k) ∧ y = .int .i32 (placeAt k)) (fun _ _ i => 4 - (intOf i).toNat)
  case atStart => exact ⟨0, by omega, rfl, fun j hj => by omega, rfl, rfl⟩
  case round =>
    obtain ⟨k, hk, rfl, HA, rfl, rfl⟩ := hrel
    obtain hk4 | rfl : k < 4 ∨ k = 4 := by omega
    · have hck := HC.out k (by omega)
      clear HC hs
      cases hok : hexOk (l.getD k 0) with
      | false =>
        generalize l.getD k 0 = c at hck hok
        generalize wantAt l k = x
        generalize placeAt k = y
        go_wp2_with (go_at_call 24; refine (hexVal_no _ _ hok).mono ?_; rintro e w' ⟨rfl, rfl⟩)
        go_ret
        exact ⟨rfl, Below.refl _ _⟩
      | true =>
        have HN : Hid (∀ j, j < k + 1 → hexOk (l.getD j 0) = true) := fun j hj => by
          by_cases h : j < k
          · exact HA.out j h
          · obtain rfl : j = k := by omega
            exact hok
        have hb := wantAt_bd l k hk4 HA.out
        have HS : Hid (wantAt l (k + 1) = wantAt l k + hexv (l.getD k 0) * placeAt k) := rfl
        have hv := hexD_of hok
        have hvb := hv.bd
        have HV := show Hid (HexD (l.getD k 0) (hexv (l.getD k 0))) from hv
        clear hv HA hok
        generalize hexv (l.getD k 0) = v at HS HV hvb
        generalize l.getD k 0 = c at hck HV
        generalize wantAt l k = x at hb HS ⊢
        obtain rfl | rfl | rfl | rfl : k = 0 ∨ k = 1 ∨ k = 2 ∨ k = 3 := by omega
        all_goals
          simp only [placeAt] at HS hb ⊢
          try simp only [Nat.add_zero] at hck
          go_wp2_with (go_at_call 24; refine (hexVal_yes _ _ _ HV.out).mono ?_; rintro e w' ⟨rfl, rfl⟩)
          go_round
          case rel => exact ⟨_ + 1, by omega, rfl, HN, by first | (rw [HS.out]; done) | (rw [HS.out]; go_num), rfl⟩
          case measure => simp [intOf]
    · have HQ : Hid (acc (fun j => hexv (l.getD j 0)) 4 = wantAt l 4) := by
        show acc _ 4 = wantAt l 4
        simp only [acc, wantAt, placeAt]
        omega
      have HV : Hid (∀ j, j < 4 → HexD (l.getD j 0) (hexv (l.getD j 0))) := fun j hj => hexD_of (HA.out j hj)
      clear HA HC
      generalize wantAt l 4 = x at HQ ⊢
      generalize placeAt 4 = y
      have hfin : (acc (fun j => hexv (l.getD j 0)) 4 == x) = true := by rw [HQ.out]; simp
      clear HQ
      generalize hA : acc (fun j => hexv (l.getD j 0)) 4 = A at hfin
      have HE := show Hid _ from hA
      clear hA
      go_wp2_with (go_at_call 12; refine (clone_some _ cap l _ hs hl).mono ?_; rintro e w1 ⟨rfl, hb, _, hc1⟩)
      have HC1 : Hid (∀ j, j < 4 → w1.cell? ⟨w.heap.size, 0 + j, none⟩ = some (.int .u8 (l.getD j 0))) := fun j hj => by rw [Nat.zero_add]; exact hc1 j (by omega)
      clear hc1
      go_wp2_with fail
      refine (zzHexRune_any w.heap.size 0 l.length l.length (fun j => l.getD j 0) (fun j => hexv (l.getD j 0)) _ h4 (Nat.le_refl _) (by unfold maxLen; omega) HC1.out HV.out).mono ?_
      rintro e w2 ⟨rfl, rfl⟩
      rw [HE.out]
      go_wp2
      go_ret
      exact ⟨rfl, hb⟩

/-- the law returns true at every input -/
theorem law (a : Option Addr) (cap : Nat) (l : List Int) (w : World) (hs : Seg w a l) :
    Calls Try.prog 9 #[.slice a l.length cap] w fun e w' => e = .returned (.bool true) ∧ Below w.heap.size w w' := by
  by_cases h : 1048576 < l.length ∨ l.length < 4
  · exact law_short a cap l.length w h
  · rcases hs.cases with h0 | ⟨b, off, rfl, _⟩
    · omega
    · exact law_main b off cap l w hs (by omega) (by omega)
end Go.Proofs.Qxb6601352a.Pos
