import Derived.Test.Qxb6602117aParse
namespace Go.Proofs.Qxb6602117a.Suffix
open Go.ChangeShapes Go.WideShapes Go.ChangeAt Go.RowKit
open Go.Proofs.Qxb6602117a.Pad Go.Proofs.Qxb6602117a.Parse

theorem zzb_ok (s : ByteArray) (w : World) (h : s.size ≤ 1048576) : Calls Try.prog 6 #[.string s] w fun e w' => e = .returned (.bool true) ∧ w' = w := by
  go_enter Try.func6, Try.ntmps6
  go_wp2
  go_ret
  exact ⟨rfl, rfl⟩
theorem law_big (s : ByteArray) (w : World) (h : 1048576 < s.size) :
    Calls Try.prog 3 #[.string s] w fun e w' => e = .returned (.bool true) ∧ Below w.heap.size w w' := by
  go_enter Try.func3, Try.ntmps3
  go_wp2
  go_ret
  exact ⟨rfl, Below.refl _ _⟩
theorem law_short (s : ByteArray) (w : World) (h : s.size < 10) :
    Calls Try.prog 3 #[.string s] w fun e w' => e = .returned (.bool true) ∧ Below w.heap.size w w' := by
  have h2 : s.size ≤ 1048576 := by omega
  go_enter Try.func3, Try.ntmps3
  go_wp2_with (first | (go_at_call 7; refine (zz_short s _ h).mono ?_; rintro e w ⟨rfl, rfl⟩) | (go_at_call 6; refine (zzb_ok _ _ h2).mono ?_; rintro e w ⟨rfl, rfl⟩))
  go_ret
  exact ⟨rfl, Below.refl _ _⟩
/-- a decimal digit -/
def digB (c : Int) : Bool := decide (48 ≤ c) && decide (c ≤ 57)
theorem isDigit_yes (c : Int) (w : World) (h : digB c = true) : Calls Try.prog 8 #[.int .u8 c] w fun e w' => e = .returned (.bool true) ∧ w' = w := by
  simp only [digB, Bool.and_eq_true, decide_eq_true_eq] at h
  obtain ⟨h1, h2⟩ := h
  go_enter Try.func8, Try.ntmps8
  go_wp2
  go_ret
  exact ⟨rfl, rfl⟩
theorem isDigit_no (c : Int) (w : World) (h : digB c = false) : Calls Try.prog 8 #[.int .u8 c] w fun e w' => e = .returned (.bool false) ∧ w' = w := by
  have hn : ¬ (48 ≤ c ∧ c ≤ 57) := by
    intro hc
    have : digB c = true := by simp [digB, hc.1, hc.2]
    rw [h] at this
    cases this
  clear h
  by_cases h1 : 48 ≤ c
  · have h2 : ¬ c ≤ 57 := by omega
    have h3 : decide (c ≤ 57) = false := by simp; omega
    clear hn
    go_enter Try.func8, Try.ntmps8
    go_wp2
    go_ret
    exact ⟨rfl, rfl⟩
  · clear hn
    go_enter Try.func8, Try.ntmps8
    go_wp2
    go_ret
    exact ⟨rfl, rfl⟩
/-- are the first k digits? -/
def upB (ds : List Int) : Nat → Bool
  | 0 => true
  | k + 1 => upB ds k && digB (ds.getD k 0)
theorem upB_iff (ds : List Int) (k : Nat) : upB ds k = true ↔ ∀ j, j < k → 48 ≤ ds.getD j 0 ∧ ds.getD j 0 ≤ 57 := by
  induction k with
  | zero => exact ⟨fun _ j hj => by omega, fun _ => rfl⟩
  | succ k ih =>
    rw [upB, Bool.and_eq_true, ih, digB, Bool.and_eq_true, decide_eq_true_eq, decide_eq_true_eq]
    constructor
    · rintro ⟨h1, h2⟩ j hj
      by_cases hjk : j < k
      · exact h1 j hjk
      · obtain rfl : j = k := by omega
        exact h2
    · intro h
      exact ⟨fun j hj => h j (by omega), h k (by omega)⟩
theorem nums_get (t : ByteArray) (k : Nat) (hk : k < t.size) : (nums t).getD k 0 = (t[k].toNat : Int) := by
  have hk' : k < t.data.size := hk
  simp only [nums, List.getD, List.getElem?_map, Array.getElem?_toList, Array.getElem?_eq_getElem hk', Option.map_some, Option.getD_some]
  rfl
theorem str_nums (t : ByteArray) : strOfNums (nums t) = t := by
  apply ByteArray.ext
  apply Array.ext'
  show (strOfNums (nums t)).data.toList = _
  rw [strOfNums_data, nums, List.map_map]
  conv => rhs; rw [← List.map_id t.data.toList]
  apply List.map_congr_left
  intro x hx
  simp
theorem pad_back (ds : List Int) (hl : ds.length = 10) (h : All ds) : padL (valK ds 10) = ds := by
  match ds, hl with
  | [d0, d1, d2, d3, d4, d5, d6, d7, d8, d9], _ =>
    refine padL_back d0 d1 d2 d3 d4 d5 d6 d7 d8 d9 (h 0 (by omega)) (h 1 (by omega)) (h 2 (by omega)) (h 3 (by omega)) (h 4 (by omega)) (h 5 (by omega)) (h 6 (by omega)) (h 7 (by omega)) (h 8 (by omega)) (h 9 (by omega)) _ ?_
    simp only [List.foldl_cons, List.foldl_nil, valK]
    rfl
theorem pad_suf (t : ByteArray) (ht : t.size = 10) (h : All (nums t)) : strOfNums (padL (valK (nums t) 10)) = t := by
  rw [pad_back (nums t) (by rw [nums_len, ht]) h, str_nums]

theorem law_main (s : ByteArray) (w : World) (h : s.size ≤ 1048576) (h10 : 10 ≤ s.size) :
    Calls Try.prog 3 #[.string s] w fun e w' => e = .returned (.bool true) ∧ Below w.heap.size w w' := by
  have hts := suf_size s h10
  obtain ⟨t, HT⟩ : ∃ t, Hid (s.extract (s.size - 10) s.size = t) := ⟨_, rfl⟩
  have hst : suf s = t := HT.out
  rw [hst] at hts
  have HST : Hid (suf s = t) := hst
  clear hst
  go_enter Try.func3, Try.ntmps3
  go_wp2_with (go_at_call 6; refine (zzb_ok _ _ h).mono ?_; rintro e w ⟨rfl, rfl⟩)
  refine (zz_any s _ h10 (by unfold maxLen; omega)).mono ?_
  rintro e w1 ⟨hans, hb⟩
  rw [HST.out] at hans
  obtain ⟨v, b, rfl, HP⟩ : ∃ v b, e = .returned (.tuple #[.int .i64 v, .bool b]) ∧ Hid ((All (nums t) ∧ v = valK (nums t) 10 ∧ b = true) ∨ (¬ All (nums t) ∧ v = 0 ∧ b = false)) := by
    rcases hans with ⟨ha, rfl⟩ | ⟨hn, rfl⟩
    · exact ⟨_, _, rfl, .inl ⟨ha, rfl, rfl⟩⟩
    · exact ⟨_, _, rfl, .inr ⟨hn, rfl, rfl⟩⟩
  clear hans
  have HTS : Hid (t.size = 10) := hts
  clear hts
  go_wp2
  rw [HT.out]
  clear HT HST
  have hts : t.size = 10 := HTS.out
  go_loop [6, 7] (fun x i => ∃ k : Nat, k ≤ 10 ∧ i = .int .i64 k ∧ x = .bool (upB (nums t) k)) (fun _ i => 10 - (intOf i).toNat)
  case atStart => exact ⟨0, by omega, rfl, rfl⟩
  case round =>
    obtain ⟨k, hk, rfl, rfl⟩ := hrel
    by_cases hlt : k < 10
    · have hkt : k < t.size := by omega
      have HG : Hid ((nums t).getD k 0 = ((t[k]'hkt).toNat : Int)) := nums_get t k hkt
      have HU : Hid (upB (nums t) (k + 1) = (upB (nums t) k && digB ((t[k]'hkt).toNat : Int))) := by show upB (nums t) (k + 1) = _; rw [upB, HG.out]
      clear HG HP HTS
      generalize upB (nums t) k = x at HU ⊢
      cases hd : digB ((t[k]'hkt).toNat : Int) with
      | true =>
        rw [hd, Bool.and_true] at HU
        have HD : Hid (digB ((t[k]'hkt).toNat : Int) = true) := hd
        clear hd
        go_wp2_with (go_at_call 8; refine (isDigit_yes _ _ HD.out).mono ?_; rintro e w1 ⟨rfl, rfl⟩)
        go_round
        case rel => exact ⟨k + 1, by omega, by go_num, by rw [HU.out]⟩
        case measure => simp [intOf]; omega
      | false =>
        rw [hd, Bool.and_false] at HU
        have HD : Hid (digB ((t[k]'hkt).toNat : Int) = false) := hd
        clear hd
        go_wp2_with (go_at_call 8; refine (isDigit_no _ _ HD.out).mono ?_; rintro e w1 ⟨rfl, rfl⟩)
        go_round
        case rel => exact ⟨k + 1, by omega, by go_num, by rw [HU.out]⟩
        case measure => simp [intOf]; omega
    · obtain rfl : k = 10 := by omega
      rcases HP.out with ⟨ha, hv, rfl⟩ | ⟨hn, rfl, rfl⟩
      · have hu : upB (nums t) 10 = true := (upB_iff _ _).2 ha
        have hbd := valK_lt (nums t) 10 (by omega) ha
        have hq := pad_suf t HTS.out ha
        rw [← hv] at hbd hq
        have HQ : Hid (strOfNums (padL v) = t) := hq
        rw [hu]
        obtain ⟨b0, b1⟩ := hbd
        clear hq hu ha hv HP HTS
        go_wp2_with (go_at_call 9; refine (pad_any v _ b0 b1).mono ?_; rintro e w2 ⟨rfl, hb2⟩; rw [HQ.out])
        go_ret
        exact ⟨rfl, hb.trans (hb2.mono hb.size)⟩
      · have hu : upB (nums t) 10 = false := by
          cases hx : upB (nums t) 10 with
          | false => rfl
          | true => exact absurd ((upB_iff _ _).1 hx) hn
        rw [hu]
        clear hu hn HP HTS
        go_wp2
        go_ret
        exact ⟨rfl, hb⟩

/-- the law returns true at every input -/
theorem law (s : ByteArray) (w : World) :
    Calls Try.prog 3 #[.string s] w fun e w' => e = .returned (.bool true) ∧ Below w.heap.size w w' := by
  by_cases h : s.size ≤ 1048576
  · by_cases h10 : s.size < 10
    · exact law_short s w h10
    · exact law_main s w h (by omega)
  · exact law_big s w (by omega)
end Go.Proofs.Qxb6602117a.Suffix
