import Derived.Test.Qxb6601352aRows
import Derived.WalkKit
import Derived.ProofKit
import Derived.OpenShut
import Derived.Test.Qxb6601352aHex
namespace Go.Proofs.Qxb6601352a.Back
open Go.ChangeShapes Go.WideShapes Go.ChangeAt Go.RowKit
open Hex

theorem and15 (x : Int) (h0 : 0 ≤ x) (h1 : x < 65536) : bits .and .u16 x 15 = x % 16 :=
  bits_mask .u16 16 (by decide) (fun n p q => by rw [IntKind.wrap_u16]; omega) 4 (by decide) x h0 h1
/-- the nibble as a number of its own -/
theorem nibAt (x : Int) (h0 : 0 ≤ x) (h1 : x < 65536) : ∃ n : Int, bits .and .u16 x 15 = n ∧ 0 ≤ n ∧ n < 16 ∧ Hid (n = x % 16) :=
  ⟨x % 16, and15 x h0 h1, by omega, by omega, rfl⟩
theorem hexD_dec (n : Int) (h0 : 0 ≤ n) (h1 : n < 10) : HexD (48 + n) n := by unfold HexD; omega
theorem hexD_up (n : Int) (h0 : 10 ≤ n) (h1 : n < 16) : HexD (65 + n - 10) n := by unfold HexD; omega
theorem hexD_low (n : Int) (h0 : 10 ≤ n) (h1 : n < 16) : HexD (97 + n - 10) n := by unfold HexD; omega
def sel (c0 c1 c2 c3 : Int) : Nat → Int
  | 0 => c0
  | 1 => c1
  | 2 => c2
  | _ => c3

theorem walk (a0 : Int) (a1 : Int) (w0 : (Lit.int .u16 a0).wf = true) (w1 : (Lit.int .u8 a1).wf = true) (w : World) :
    Calls Try.prog 10 #[.int .u16 a0, .int .u8 a1] w fun e w' => e = .returned (.bool true) ∧ Grown w w' := by
  have hw0 : 0 ≤ a0 ∧ a0 ≤ 65535 := bounds_u16 w0
  have hw1 : 0 ≤ a1 ∧ a1 ≤ 255 := bounds_u8 w1
  have hmk : ∀ w, (Instr.makeSlice 22 (.int .i64 4) (.int .i64 4)).run Try.prog w = .ok (.slice (some ⟨w.heap.size, 0, none⟩) 4 4) (w.alloc (.cells #[.int .u8 0, .int .u8 0, .int .u8 0, .int .u8 0] 5)) := fun _ => by kernel_rfl
  obtain ⟨n0, e0, l0, u0, H0⟩ := nibAt (a0 / 4096) (by omega) (by omega)
  obtain ⟨n1, e1, l1, u1, H1⟩ := nibAt (a0 / 256) (by omega) (by omega)
  obtain ⟨n2, e2, l2, u2, H2⟩ := nibAt (a0 / 16) (by omega) (by omega)
  obtain ⟨n3, e3, l3, u3, H3⟩ := nibAt a0 (by omega) (by omega)
  have hsum : (acc (sel n0 n1 n2 n3) 4 == a0) = true := by
    have g0 := H0.out; have g1 := H1.out; have g2 := H2.out; have g3 := H3.out
    have : acc (sel n0 n1 n2 n3) 4 = (((0 * 16 + n0) * 16 + n1) * 16 + n2) * 16 + n3 := rfl
    simp only [beq_iff_eq]
    omega
  clear H0 H1 H2 H3
  go_enter Try.func10, Try.ntmps10
  go_wp2
  go_loopw [6] (fun i wr => ∃ (k : Nat) (c0 c1 c2 c3 : Int), k ≤ 4 ∧ i = .int .i64 k ∧ wr = w.alloc (.cells #[.int .u8 c0, .int .u8 c1, .int .u8 c2, .int .u8 c3] 5) ∧ (0 < k → HexD c0 n0) ∧ (1 < k → HexD c1 n1) ∧ (2 < k → HexD c2 n2) ∧ (3 < k → HexD c3 n3))
    (fun i _ => 4 - (intOf i).toNat)
  case atStart => exact ⟨0, 0, 0, 0, 0, by omega, rfl, rfl, by omega, by omega, by omega, by omega⟩
  case round =>
    obtain ⟨k, c0, c1, c2, c3, hk, rfl, rfl, g0, g1, g2, g3⟩ := hrel
    clear hmk
    obtain rfl | rfl | rfl | rfl | rfl : k = 0 ∨ k = 1 ∨ k = 2 ∨ k = 3 ∨ k = 4 := by omega
    · clear g0 g1 g2 g3 hk hsum
      go_wp2
      all_goals
        go_roundw
        case rel => exact ⟨1, _, _, _, _, by omega, rfl, rfl, fun _ => by first | exact hexD_dec _ (by omega) (by omega) | exact hexD_up _ (by omega) (by omega) | exact hexD_low _ (by omega) (by omega), by omega, by omega, by omega⟩
        case measure => simp [intOf]
    · replace g0 := g0 (by omega)
      clear g1 g2 g3 hk hsum
      go_wp2
      all_goals
        go_roundw
        case rel => exact ⟨2, _, _, _, _, by omega, rfl, rfl, fun _ => g0, fun _ => by first | exact hexD_dec _ (by omega) (by omega) | exact hexD_up _ (by omega) (by omega) | exact hexD_low _ (by omega) (by omega), by omega, by omega⟩
        case measure => simp [intOf]
    · replace g0 := g0 (by omega)
      replace g1 := g1 (by omega)
      clear g2 g3 hk hsum
      go_wp2
      all_goals
        go_roundw
        case rel => exact ⟨3, _, _, _, _, by omega, rfl, rfl, fun _ => g0, fun _ => g1, fun _ => by first | exact hexD_dec _ (by omega) (by omega) | exact hexD_up _ (by omega) (by omega) | exact hexD_low _ (by omega) (by omega), by omega⟩
        case measure => simp [intOf]
    · replace g0 := g0 (by omega)
      replace g1 := g1 (by omega)
      replace g2 := g2 (by omega)
      clear g3 hk hsum
      go_wp2
      all_goals
        go_roundw
        case rel => exact ⟨4, _, _, _, _, by omega, rfl, rfl, fun _ => g0, fun _ => g1, fun _ => g2, fun _ => by first | exact hexD_dec _ (by omega) (by omega) | exact hexD_up _ (by omega) (by omega) | exact hexD_low _ (by omega) (by omega)⟩
        case measure => simp [intOf]
    · replace g0 := g0 (by omega)
      replace g1 := g1 (by omega)
      replace g2 := g2 (by omega)
      replace g3 := g3 (by omega)
      have hc : ∀ k, k < 4 → (w.alloc (.cells #[.int .u8 c0, .int .u8 c1, .int .u8 c2, .int .u8 c3] 5)).cell? ⟨w.heap.size, 0 + k, none⟩ = some (.int .u8 (sel c0 c1 c2 c3 k)) := by
        intro k hk
        obtain rfl | rfl | rfl | rfl : k = 0 ∨ k = 1 ∨ k = 2 ∨ k = 3 := by omega
        all_goals simp [sel]
      have hv : ∀ k, k < 4 → HexD (sel c0 c1 c2 c3 k) (sel n0 n1 n2 n3 k) := by
        intro k hk
        obtain rfl | rfl | rfl | rfl : k = 0 ∨ k = 1 ∨ k = 2 ∨ k = 3 := by omega
        all_goals simpa [sel]
      have HC : Hid (∀ k, k < 4 → (w.alloc (.cells #[.int .u8 c0, .int .u8 c1, .int .u8 c2, .int .u8 c3] 5)).cell? ⟨w.heap.size, 0 + k, none⟩ = some (.int .u8 (sel c0 c1 c2 c3 k))) := hc
      have HV : Hid (∀ k, k < 4 → HexD (sel c0 c1 c2 c3 k) (sel n0 n1 n2 n3 k)) := hv
      clear hc hv g0 g1 g2 g3
      go_wp2_with (go_at_call 25; refine (zzHexRune_any _ 0 4 4 _ _ _ (by omega) (by omega) (by decide) HC.out HV.out).mono ?_; rintro e w' ⟨rfl, rfl⟩)
      go_ret
      exact ⟨rfl, by repeat (first | exact Grown.refl _ | apply Grown.drew | apply Grown.alloc)⟩
end Go.Proofs.Qxb6601352a.Back
