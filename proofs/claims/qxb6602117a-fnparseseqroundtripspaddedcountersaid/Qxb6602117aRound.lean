import Derived.Test.Qxb6602117aParse
namespace Go.Proofs.Qxb6602117a.Round
open Go.ChangeShapes Go.WideShapes Go.ChangeAt Go.RowKit
open Go.Proofs.Qxb6602117a.Pad Go.Proofs.Qxb6602117a.Parse

theorem zzb_ok (p : ByteArray) (n : Int) (w : World) (h : p.size ≤ 1048576) : Calls Try.prog 10 #[.string p, .int .i64 n] w fun e w' => e = .returned (.bool true) ∧ w' = w := by
  go_enter Try.func10, Try.ntmps10
  go_wp2
  go_ret
  exact ⟨rfl, rfl⟩
theorem law_big (p : ByteArray) (n : Int) (w : World) (h : 1048576 < p.size) :
    Calls Try.prog 4 #[.string p, .int .i64 n] w fun e w' => e = .returned (.bool true) ∧ Below w.heap.size w w' := by
  go_enter Try.func4, Try.ntmps4
  go_wp2
  go_ret
  exact ⟨rfl, Below.refl _ _⟩
theorem law_out (p : ByteArray) (n : Int) (w : World) (h : p.size ≤ 1048576) (hn : n < 0 ∨ 9999999999 < n) :
    Calls Try.prog 4 #[.string p, .int .i64 n] w fun e w' => e = .returned (.bool true) ∧ Below w.heap.size w w' := by
  by_cases h1 : n < 0
  · clear hn
    go_enter Try.func4, Try.ntmps4
    go_wp2
    go_ret
    exact ⟨rfl, Below.refl _ _⟩
  · have h2 : 9999999999 < n := by omega
    clear hn
    go_enter Try.func4, Try.ntmps4
    go_wp2
    go_ret
    exact ⟨rfl, Below.refl _ _⟩

theorem nums_of (xs : List Int) (h : ∀ x ∈ xs, 0 ≤ x ∧ x ≤ 255) : nums (strOfNums xs) = xs := by
  unfold nums
  rw [strOfNums_data, List.map_map]
  conv => rhs; rw [← List.map_id xs]
  apply List.map_congr_left
  intro x hx
  have := h x hx
  simp only [Function.comp, UInt8.toNat_ofNat', id]
  omega
theorem suf_append (p q : ByteArray) (hq : q.size = 10) : suf (p ++ q) = q := by
  unfold suf
  have hs : (p ++ q).size = p.size + q.size := ByteArray.size_append
  exact ByteArray.extract_append_eq_right (by omega) hs
theorem pad_size (n : Int) : (strOfNums (padL n)).size = 10 := by rw [strOfNums_size]; rfl
theorem pad_range (n : Int) : ∀ x ∈ padL n, 48 ≤ x ∧ x ≤ 57 := by
  intro x hx
  simp only [padL, List.mem_cons, List.not_mem_nil, or_false] at hx
  omega
theorem suf_nums (p : ByteArray) (n : Int) : nums (suf (p ++ strOfNums (padL n))) = padL n := by
  rw [suf_append _ _ (pad_size n), nums_of _ (fun x hx => by have := pad_range n x hx; omega)]
theorem all_pad (n : Int) : All (padL n) := by
  intro j hj
  have hl : (padL n).length = 10 := rfl
  rw [List.getD_eq_getElem?_getD, List.getElem?_eq_getElem (by omega), Option.getD_some]
  exact pad_range n _ (List.getElem_mem _)
theorem val_pad (n : Int) (h0 : 0 ≤ n) (h1 : n ≤ 9999999999) : valK (padL n) 10 = n := by
  have h := padL_val n h0 h1
  simp only [padL, List.foldl_cons, List.foldl_nil] at h
  simp only [valK]
  have e : ∀ (x0 x1 x2 x3 x4 x5 x6 x7 x8 x9 : Int), ([x0, x1, x2, x3, x4, x5, x6, x7, x8, x9].getD 0 0 = x0 ∧ [x0, x1, x2, x3, x4, x5, x6, x7, x8, x9].getD 1 0 = x1 ∧ [x0, x1, x2, x3, x4, x5, x6, x7, x8, x9].getD 2 0 = x2 ∧ [x0, x1, x2, x3, x4, x5, x6, x7, x8, x9].getD 3 0 = x3 ∧ [x0, x1, x2, x3, x4, x5, x6, x7, x8, x9].getD 4 0 = x4) ∧ [x0, x1, x2, x3, x4, x5, x6, x7, x8, x9].getD 5 0 = x5 ∧ [x0, x1, x2, x3, x4, x5, x6, x7, x8, x9].getD 6 0 = x6 ∧ [x0, x1, x2, x3, x4, x5, x6, x7, x8, x9].getD 7 0 = x7 ∧ [x0, x1, x2, x3, x4, x5, x6, x7, x8, x9].getD 8 0 = x8 ∧ [x0, x1, x2, x3, x4, x5, x6, x7, x8, x9].getD 9 0 = x9 := fun _ _ _ _ _ _ _ _ _ _ => ⟨⟨rfl, rfl, rfl, rfl, rfl⟩, rfl, rfl, rfl, rfl, rfl⟩
  unfold padL
  obtain ⟨⟨e0, e1, e2, e3, e4⟩, e5, e6, e7, e8, e9⟩ := e (48 + n / 10 / 10 / 10 / 10 / 10 / 10 / 10 / 10 / 10 % 10) (48 + n / 10 / 10 / 10 / 10 / 10 / 10 / 10 / 10 % 10) (48 + n / 10 / 10 / 10 / 10 / 10 / 10 / 10 % 10) (48 + n / 10 / 10 / 10 / 10 / 10 / 10 % 10)
    (48 + n / 10 / 10 / 10 / 10 / 10 % 10) (48 + n / 10 / 10 / 10 / 10 % 10) (48 + n / 10 / 10 / 10 % 10) (48 + n / 10 / 10 % 10) (48 + n / 10 % 10) (48 + n % 10)
  rw [e0, e1, e2, e3, e4, e5, e6, e7, e8, e9]
  exact h

theorem law_main (p : ByteArray) (n : Int) (w : World) (h : p.size ≤ 1048576) (h0 : 0 ≤ n) (h1 : n ≤ 9999999999) :
    Calls Try.prog 4 #[.string p, .int .i64 n] w fun e w' => e = .returned (.bool true) ∧ Below w.heap.size w w' := by
  have hqs := pad_size n
  have HS : Hid (nums (suf (p ++ strOfNums (padL n))) = padL n) := suf_nums p n
  have HA : Hid (All (padL n)) := all_pad n
  have HV : Hid (valK (padL n) 10 = n) := val_pad n h0 h1
  obtain ⟨q, HQ⟩ : ∃ q, Hid (strOfNums (padL n) = q) := ⟨_, rfl⟩
  rw [HQ.out] at hqs HS
  have hsz : (p ++ q).size = p.size + 10 := by rw [ByteArray.size_append, hqs]
  have HZ : Hid ((p ++ q).size = p.size + 10) := hsz
  clear hsz
  go_enter Try.func4, Try.ntmps4
  go_wp2_with (first | (go_at_call 9; refine (pad_any n _ h0 h1).mono ?_; rintro e w1 ⟨rfl, hb⟩; rw [HQ.out]) | (go_at_call 10; refine (zzb_ok _ _ _ h).mono ?_; rintro e w ⟨rfl, rfl⟩))
  refine (zz_any (p ++ q) _ (by rw [HZ.out]; omega) (by rw [HZ.out]; unfold maxLen; omega)).mono ?_
  rintro e w2 ⟨hans, hb2⟩
  rw [HS.out] at hans
  have hbb : Below w.heap.size w w2 := hb.trans (hb2.mono hb.size)
  rcases hans with ⟨_, rfl⟩ | ⟨hn, _⟩
  · rw [HV.out]
    clear HS HA HV HQ HZ hb hb2
    go_wp2
    go_ret
    exact ⟨rfl, hbb⟩
  · exact absurd HA.out hn

/-- the law returns true at every input -/
theorem law (p : ByteArray) (n : Int) (w : World) :
    Calls Try.prog 4 #[.string p, .int .i64 n] w fun e w' => e = .returned (.bool true) ∧ Below w.heap.size w w' := by
  by_cases h : p.size ≤ 1048576
  · by_cases hn : n < 0 ∨ 9999999999 < n
    · exact law_out p n w h hn
    · exact law_main p n w h (by omega) (by omega)
  · exact law_big p n w (by omega)
end Go.Proofs.Qxb6602117a.Round
