import Derived.Test.Qxb6602117aPad
import Derived.Laws.IdiomStrings
import Derived.Lib.Strings
namespace Go.Proofs.Qxb6602117a.Parse
open Go.ChangeShapes Go.WideShapes Go.ChangeAt Go.RowKit
open Go.Proofs.Qxb6602117a.Pad

/-- a string's bytes, as numbers -/
def nums (t : ByteArray) : List Int := t.data.toList.map fun b => (b.toNat : Int)
/-- the last ten bytes -/
def suf (s : ByteArray) : ByteArray := s.extract (s.size - 10) s.size
theorem nums_len (t : ByteArray) : (nums t).length = t.size := by rw [nums, List.length_map, Array.length_toList]; rfl

theorem conv_bytes (t : ByteArray) (ht : t.size = 10) (w : World) : ∃ cp w1, (convert 9 31 (.string t)).run Try.prog w = .ok (.slice (some ⟨w.heap.size, 0, none⟩) 10 cp) w1 ∧ Below w.heap.size w w1 ∧
    ∀ k, k < 10 → w1.cell? ⟨w.heap.size, k, none⟩ = some (.int .u8 ((nums t).getD k 0)) := by
  have h := run_bytes_of_string (P := Try.prog) w 9 31 5 t Try.underlying9 Try.underlying31 Try.underlying5
  rw [ht] at h
  refine ⟨_, _, h, (Below.refl _ _).drew.alloc (by exact Nat.le_refl _) _, fun k hk => ?_⟩
  have hs : w.heap.size = w.drew.heap.size := rfl
  rw [hs, World.cell?_alloc_mark]
  unfold bytesRow
  have hk' : k < t.data.size := by have : t.data.size = t.size := rfl; omega
  rw [Array.getElem?_append_left (by simpa using hk')]
  rw [Array.getElem?_map, Array.getElem?_eq_getElem hk']
  simp only [nums, List.getD, List.getElem?_map, Array.getElem?_toList, Array.getElem?_eq_getElem hk', Option.map_some, Option.getD_some]

theorem suf_size (s : ByteArray) (h : 10 ≤ s.size) : (suf s).size = 10 := by
  unfold suf
  rw [ByteArray.size_extract]; omega

theorem parse_short (s : ByteArray) (w : World) (h : s.size < 10) : Calls Try.prog 13 #[.string s] w fun e w' => e = .returned (.tuple #[.int .i64 0, .bool false]) ∧ w' = w := by
  go_enter Try.func13, Try.ntmps13
  go_wp2
  go_ret2
  exact ⟨rfl, rfl⟩

/-- the first ten are decimal digits -/
def All (ds : List Int) : Prop := ∀ j, j < 10 → 48 ≤ ds.getD j 0 ∧ ds.getD j 0 ≤ 57
/-- the number that the first k digits spell -/
def valK (ds : List Int) : Nat → Int
  | 0 => 0
  | k + 1 => valK ds k * 10 + (ds.getD k 0 - 48)
theorem valK_bd (ds : List Int) (k : Nat) (h : ∀ j, j < k → 48 ≤ ds.getD j 0 ∧ ds.getD j 0 ≤ 57) : 0 ≤ valK ds k ∧ valK ds k + 1 ≤ 10 ^ k := by
  induction k with
  | zero => simp [valK]
  | succ k ih =>
    have h1 := ih (fun j hj => h j (by omega))
    have h2 := h k (by omega)
    rw [Int.pow_succ]
    simp only [valK]
    omega
theorem valK_lt (ds : List Int) (k : Nat) (hk : k ≤ 10) (h : ∀ j, j < k → 48 ≤ ds.getD j 0 ∧ ds.getD j 0 ≤ 57) : 0 ≤ valK ds k ∧ valK ds k ≤ 9999999999 := by
  have h1 := valK_bd ds k h
  have h2 : (10 : Int) ^ k ≤ 10000000000 := by
    obtain rfl | rfl | rfl | rfl | rfl | rfl | rfl | rfl | rfl | rfl | rfl : k = 0 ∨ k = 1 ∨ k = 2 ∨ k = 3 ∨ k = 4 ∨ k = 5 ∨ k = 6 ∨ k = 7 ∨ k = 8 ∨ k = 9 ∨ k = 10 := by omega
    all_goals decide
  omega

/-- what parseSeq answers at a name whose last ten bytes are ds -/
def Answer (ds : List Int) (e : Ending) : Prop :=
  (All ds ∧ e = .returned (.tuple #[.int .i64 (valK ds 10), .bool true])) ∨ (¬ All ds ∧ e = .returned (.tuple #[.int .i64 0, .bool false]))

theorem parse_any (s : ByteArray) (w : World) (h : 10 ≤ s.size) (hm : s.size ≤ maxLen) :
    Calls Try.prog 13 #[.string s] w fun e w' => Answer (nums (suf s)) e ∧ Below w.heap.size w w' := by
  unfold maxLen at hm
  obtain ⟨cp, w1, hrun, hb, hc⟩ := conv_bytes (suf s) (suf_size s h) w
  generalize nums (suf s) = ds at hc ⊢
  unfold suf at hrun
  go_enter Try.func13, Try.ntmps13
  go_wp2
  clear hrun
  have HC : Hid (∀ k, k < 10 → w1.cell? ⟨w.heap.size, k, none⟩ = some (.int .u8 (ds.getD k 0))) := hc
  clear hc
  go_loop [4, 17] (fun x i => ∃ k : Nat, k ≤ 10 ∧ i = .int .i64 k ∧ x = .int .i64 (valK ds k) ∧ Hid (∀ j, j < k → 48 ≤ ds.getD j 0 ∧ ds.getD j 0 ≤ 57)) (fun _ i => 10 - (intOf i).toNat)
  case atStart => exact ⟨0, by omega, rfl, rfl, fun j hj => by omega⟩
  case round =>
    obtain ⟨k, hk, rfl, rfl, HA⟩ := hrel
    by_cases hlt : k < 10
    · have hck := HC.out k hlt
      have hbd := valK_lt ds k hk HA.out
      have HS : Hid (valK ds (k + 1) = valK ds k * 10 + (ds.getD k 0 - 48)) := rfl
      have HN : Hid (48 ≤ ds.getD k 0 ∧ ds.getD k 0 ≤ 57 → ∀ j, j < k + 1 → 48 ≤ ds.getD j 0 ∧ ds.getD j 0 ≤ 57) := fun hd j hj => by
        by_cases hjk : j < k
        · exact HA.out j hjk
        · obtain rfl : j = k := by omega
          exact hd
      have HX : Hid (¬ (48 ≤ ds.getD k 0 ∧ ds.getD k 0 ≤ 57) → ¬ All ds) := fun hn ha => hn (ha k hlt)
      clear HC HA
      generalize ds.getD k 0 = c at hck HS HN HX
      generalize valK ds k = x at hbd HS ⊢
      by_cases h1 : 48 ≤ c
      · by_cases h2 : c ≤ 57
        · go_wp2
          go_round
          case rel => exact ⟨k + 1, by omega, by go_num, by rw [HS.out], HN.out ⟨h1, h2⟩⟩
          case measure => simp [intOf]; omega
        · go_wp2
          go_ret2
          exact ⟨.inr ⟨HX.out (by omega), rfl⟩, hb⟩
      · go_wp2
        go_ret2
        exact ⟨.inr ⟨HX.out (by omega), rfl⟩, hb⟩
    · obtain rfl : k = 10 := by omega
      clear HC
      go_wp2
      go_ret2
      exact ⟨.inl ⟨HA.out, rfl⟩, hb⟩

theorem ret_ib {k : IntKind} {a b : Int} {c : Bool} (h : a = b) : Ending.returned (.tuple #[.int k a, .bool c]) = .returned (.tuple #[.int k b, .bool c]) := by rw [h]
theorem zz_any (s : ByteArray) (w : World) (h : 10 ≤ s.size) (hm : s.size ≤ maxLen) :
    Calls Try.prog 7 #[.string s] w fun e w' => Answer (nums (suf s)) e ∧ Below w.heap.size w w' := by
  go_enter Try.func7, Try.ntmps7
  go_wp2_with fail
  refine (parse_any s _ h hm).mono ?_
  rintro e w1 ⟨⟨ha, rfl⟩ | ⟨ha, rfl⟩, hb⟩
  · have HA : Hid (All (nums (suf s))) := ha
    clear ha
    generalize hv : valK (nums (suf s)) 10 = v
    have HV : Hid (valK (nums (suf s)) 10 = v) := hv
    clear hv
    go_wp2
    go_ret2
    exact ⟨.inl ⟨HA.out, ret_ib HV.out.symm⟩, hb⟩
  · have HA : Hid (¬ All (nums (suf s))) := ha
    clear ha
    go_wp2
    go_ret2
    exact ⟨.inr ⟨HA.out, rfl⟩, hb⟩
theorem zz_short (s : ByteArray) (w : World) (h : s.size < 10) : Calls Try.prog 7 #[.string s] w fun e w' => e = .returned (.tuple #[.int .i64 0, .bool false]) ∧ w' = w := by
  go_enter Try.func7, Try.ntmps7
  go_wp2_with (go_at_call 13; refine (parse_short s _ h).mono ?_; rintro e w1 ⟨rfl, rfl⟩)
  go_ret2
  exact ⟨rfl, rfl⟩
end Go.Proofs.Qxb6602117a.Parse
