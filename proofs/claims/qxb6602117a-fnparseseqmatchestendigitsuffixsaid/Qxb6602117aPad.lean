import Derived.Test.Qxb6602117aRows
import Derived.WalkKit
import Derived.ProofKit
import Derived.OpenShut
import Derived.WalkSpells
import Derived.Laws.BytesArg
namespace Go.Proofs.Qxb6602117a.Pad
open Go.ChangeShapes Go.WideShapes Go.ChangeAt Go.RowKit

/-- the ten digits of n, as bytes -/
def padL (n : Int) : List Int :=
  [48 + n / 10 / 10 / 10 / 10 / 10 / 10 / 10 / 10 / 10 % 10, 48 + n / 10 / 10 / 10 / 10 / 10 / 10 / 10 / 10 % 10, 48 + n / 10 / 10 / 10 / 10 / 10 / 10 / 10 % 10, 48 + n / 10 / 10 / 10 / 10 / 10 / 10 % 10,
    48 + n / 10 / 10 / 10 / 10 / 10 % 10, 48 + n / 10 / 10 / 10 / 10 % 10, 48 + n / 10 / 10 / 10 % 10, 48 + n / 10 / 10 % 10, 48 + n / 10 % 10, 48 + n % 10]

theorem conv10 (w : World) (x0 x1 x2 x3 x4 x5 x6 x7 x8 x9 : Int) :
    (convert 31 9 (.slice (some ⟨w.heap.size, 0, none⟩) 10 10)).run Try.prog (w.alloc (.cells #[.int .u8 x0, .int .u8 x1, .int .u8 x2, .int .u8 x3, .int .u8 x4, .int .u8 x5, .int .u8 x6, .int .u8 x7, .int .u8 x8, .int .u8 x9] 30)) =
      .ok (.string (strOfNums [x0, x1, x2, x3, x4, x5, x6, x7, x8, x9])) (w.alloc (.cells #[.int .u8 x0, .int .u8 x1, .int .u8 x2, .int .u8 x3, .int .u8 x4, .int .u8 x5, .int .u8 x6, .int .u8 x7, .int .u8 x8, .int .u8 x9] 30)) := by
  refine run_convert_bytes_arg _ 31 5 Try.underlying31 Try.underlying5 w.heap.size 0 10 10 [x0, x1, x2, x3, x4, x5, x6, x7, x8, x9] rfl ?_ 9 Try.underlying9
  intro i hi
  obtain rfl | rfl | rfl | rfl | rfl | rfl | rfl | rfl | rfl | rfl : i = 0 ∨ i = 1 ∨ i = 2 ∨ i = 3 ∨ i = 4 ∨ i = 5 ∨ i = 6 ∨ i = 7 ∨ i = 8 ∨ i = 9 := by omega
  all_goals simp

set_option maxHeartbeats 1000000 in
theorem pad_any (n : Int) (w : World) (h0 : 0 ≤ n) (h1 : n ≤ 9999999999) :
    Calls Try.prog 9 #[.int .i64 n] w fun e w' => e = .returned (.string (strOfNums (padL n))) ∧ Below w.heap.size w w' := by
  have hcv := conv10 w
  go_enter Try.func9, Try.ntmps9
  go_wp2
  refine wp_loop_rounds 11 ?_
  iterate 11 (rw [rounds_succ]; go_wp2)
  go_ret
  exact ⟨rfl, (Below.refl _ _).alloc (Nat.le_refl _) _⟩

theorem padL_val (n : Int) (h0 : 0 ≤ n) (h1 : n ≤ 9999999999) : (padL n).foldl (fun a c => a * 10 + (c - 48)) 0 = n := by
  simp only [padL, List.foldl_cons, List.foldl_nil]
  omega
theorem padL_back (d0 d1 d2 d3 d4 d5 d6 d7 d8 d9 : Int) (h0 : 48 ≤ d0 ∧ d0 ≤ 57) (h1 : 48 ≤ d1 ∧ d1 ≤ 57) (h2 : 48 ≤ d2 ∧ d2 ≤ 57) (h3 : 48 ≤ d3 ∧ d3 ≤ 57) (h4 : 48 ≤ d4 ∧ d4 ≤ 57)
    (h5 : 48 ≤ d5 ∧ d5 ≤ 57) (h6 : 48 ≤ d6 ∧ d6 ≤ 57) (h7 : 48 ≤ d7 ∧ d7 ≤ 57) (h8 : 48 ≤ d8 ∧ d8 ≤ 57) (h9 : 48 ≤ d9 ∧ d9 ≤ 57) (n : Int)
    (hn : [d0, d1, d2, d3, d4, d5, d6, d7, d8, d9].foldl (fun a c => a * 10 + (c - 48)) 0 = n) : padL n = [d0, d1, d2, d3, d4, d5, d6, d7, d8, d9] := by
  simp only [List.foldl_cons, List.foldl_nil] at hn
  simp only [padL, List.cons.injEq, and_true]
  refine ⟨?_, ?_, ?_, ?_, ?_, ?_, ?_, ?_, ?_, ?_⟩ <;> omega
end Go.Proofs.Qxb6602117a.Pad
