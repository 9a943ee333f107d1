import Derived.Test.Qxb6601352aRows
import Derived.WalkKit
import Derived.ProofKit
import Derived.OpenShut
import Derived.Laws.BitsAllLaws
namespace Go.Proofs.Qxb6601352a.Hex
open Go.ChangeShapes Go.WideShapes Go.ChangeAt Go.RowKit

/-- the byte c is a hexadecimal digit of value v -/
def HexD (c v : Int) : Prop := (48 ≤ c ∧ c ≤ 57 ∧ v = c - 48) ∨ (97 ≤ c ∧ c ≤ 102 ∧ v = c - 87) ∨ (65 ≤ c ∧ c ≤ 70 ∧ v = c - 55)
theorem HexD.bd {c v : Int} (h : HexD c v) : 0 ≤ v ∧ v < 16 := by unfold HexD at h; omega

/-- the positional value of the first k digits -/
def acc (v : Nat → Int) : Nat → Int
  | 0 => 0
  | k + 1 => acc v k * 16 + v k
theorem acc_bd (c v : Nat → Int) (h : ∀ j, j < 4 → HexD (c j) (v j)) (k : Nat) (hk : k < 4) : 0 ≤ acc v k ∧ acc v k < 4096 := by
  have h0 := (h 0 (by omega)).bd
  have h1 := (h 1 (by omega)).bd
  have h2 := (h 2 (by omega)).bd
  have e0 : acc v 0 = 0 := rfl
  have e1 : acc v 1 = acc v 0 * 16 + v 0 := rfl
  have e2 : acc v 2 = acc v 1 * 16 + v 1 := rfl
  have e3 : acc v 3 = acc v 2 * 16 + v 2 := rfl
  obtain rfl | rfl | rfl | rfl : k = 0 ∨ k = 1 ∨ k = 2 ∨ k = 3 := by omega
  all_goals omega

theorem or_nib (x y : Int) (h0 : 0 ≤ x) (h1 : x < 4096) (h2 : 0 ≤ y) (h3 : y < 16) : bits .or .i32 (x * 16) y = x * 16 + y :=
  bits_join .i32 31 (by decide) wraps_i32 4 (x * 16) y (by omega) (by omega) (by omega) h2 (by omega) (by omega)
theorem or_low (y : Int) (h0 : 97 ≤ y) (h1 : y ≤ 102) : bits .or .u8 y 32 = y := by
  obtain rfl | rfl | rfl | rfl | rfl | rfl : y = 97 ∨ y = 98 ∨ y = 99 ∨ y = 100 ∨ y = 101 ∨ y = 102 := by omega
  all_goals decide
theorem or_up (y : Int) (h0 : 65 ≤ y) (h1 : y ≤ 70) : bits .or .u8 y 32 = y + 32 := by
  obtain rfl | rfl | rfl | rfl | rfl | rfl : y = 65 ∨ y = 66 ∨ y = 67 ∨ y = 68 ∨ y = 69 ∨ y = 70 := by omega
  all_goals decide

theorem hexRune_any (b off len cap : Nat) (c v : Nat → Int) (w : World) (h4 : 4 ≤ len) (hlc : len ≤ cap) (hcap : cap ≤ maxLen)
    (hc : ∀ k, k < 4 → w.cell? ⟨b, off + k, none⟩ = some (.int .u8 (c k))) (hv : ∀ k, k < 4 → HexD (c k) (v k)) :
    Calls Try.prog 30 #[.slice (some ⟨b, off, none⟩) len cap] w fun e w' => e = .returned (.int .i32 (acc v 4)) ∧ w' = w := by
  unfold maxLen at hcap
  go_enter Try.func30, Try.ntmps30
  go_wp2
  go_loop [3, 9] (fun r i => ∃ k : Nat, k ≤ 4 ∧ i = .int .i64 k ∧ r = .int .i32 (acc v k)) (fun _ i => 4 - (intOf i).toNat)
  case atStart => exact ⟨0, by omega, rfl, rfl⟩
  case round =>
    obtain ⟨k, hk, rfl, rfl⟩ := hrel
    by_cases hlt : k < 4
    · have hck := hc k hlt
      have hb := acc_bd c v hv k hlt
      have hvk := hv k hlt
      have hs : Hid (acc v (k + 1) = acc v k * 16 + v k) := rfl
      clear hc hv
      generalize hx : acc v k = x at hb hs ⊢
      generalize hy : c k = y at hck hvk ⊢
      generalize hz : v k = z at hs hvk
      have ho : ∀ n, 0 ≤ n → n < 16 → bits .or .i32 (x * 16) n = x * 16 + n := fun n => or_nib x n hb.1 hb.2
      clear hx hy hz
      rcases hvk with ⟨p, q, hv'⟩ | ⟨p, q, hv'⟩ | ⟨p, q, hv'⟩
      · have HV : Hid (z = y - 48) := hv'
        clear hv'
        go_wp2
        go_round
        case rel => exact ⟨k + 1, by omega, by go_num, by rw [hs.out, HV.out, ho _ (by omega) (by omega)]⟩
        case measure => simp [intOf]; omega
      · have HV : Hid (z = y - 87) := hv'
        clear hv'
        have hl := or_low y p q
        go_wp2
        go_round
        case rel => exact ⟨k + 1, by omega, by go_num, by rw [hs.out, HV.out, ho _ (by omega) (by omega)]; go_num⟩
        case measure => simp [intOf]; omega
      · have HV : Hid (z = y - 55) := hv'
        clear hv'
        have hl := or_up y p q
        go_wp2
        go_round
        case rel => exact ⟨k + 1, by omega, by go_num, by rw [hs.out, HV.out, ho _ (by omega) (by omega)]; go_num⟩
        case measure => simp [intOf]; omega
    · obtain rfl : k = 4 := by omega
      go_wp2
      go_ret
      exact ⟨rfl, rfl⟩
theorem zzHexRune_any (b off len cap : Nat) (c v : Nat → Int) (w : World) (h4 : 4 ≤ len) (hlc : len ≤ cap) (hcap : cap ≤ maxLen)
    (hc : ∀ k, k < 4 → w.cell? ⟨b, off + k, none⟩ = some (.int .u8 (c k))) (hv : ∀ k, k < 4 → HexD (c k) (v k)) :
    Calls Try.prog 25 #[.slice (some ⟨b, off, none⟩) len cap] w fun e w' => e = .returned (.int .i32 (acc v 4)) ∧ w' = w := by
  go_enter Try.func25, Try.ntmps25
  go_wp2_with (go_at_call 30; refine (hexRune_any b off len cap c v _ h4 hlc hcap hc hv).mono ?_; rintro e w' ⟨rfl, rfl⟩)
  go_ret
  exact ⟨rfl, rfl⟩
end Go.Proofs.Qxb6601352a.Hex
