import Derived.Test.Qxb6601352aReads
import Derived.WalkSpells
import Derived.Deep.OwnRows
namespace Go.Proofs.Qxb6601352a.Clone
open Go.ChangeShapes Go.WideShapes Go.ChangeAt Go.RowKit
open Go.Proofs.Qxb6601352a.Small Go.Proofs.Qxb6601352a.Plain Go.Proofs.Qxb6601352a.Reads

theorem info5 : (Try.prog.info? 5).map (fun i => (i.zero, i.size, i.bytes)) = some (some (.int .u8 0), 1, 1) := by kernel_rfl

/-- the clone's cells behind k rounds -/
def cellsAt (l : List Int) (k : Nat) : List Value := (l.take k).map (Value.int .u8) ++ List.replicate (l.length - k) (.int .u8 0)
theorem cellsAt_len (l : List Int) (k : Nat) (hk : k ≤ l.length) : (cellsAt l k).length = l.length := by
  unfold cellsAt; simp; omega
theorem cellsAt_set (l : List Int) (k : Nat) (hk : k < l.length) : (cellsAt l k).set k (.int .u8 (l.getD k 0)) = cellsAt l (k + 1) := by
  unfold cellsAt
  apply List.ext_getElem?
  intro j
  rw [List.getElem?_set]
  by_cases hj : k = j
  · subst hj
    rw [if_pos rfl, if_pos (by simp; omega), List.getElem?_append_left (by simp; omega)]
    simp [hk]
  · rw [if_neg hj]
    by_cases h1 : j < k
    · rw [List.getElem?_append_left (by simp; omega), List.getElem?_append_left (by simp; omega)]
      simp [h1, show j < k + 1 by omega]
    · rw [List.getElem?_append_right (by simp; omega), List.getElem?_append_right (by simp; omega)]
      simp only [List.length_map, List.length_take, List.getElem?_replicate]
      have e1 : min k l.length = k := by omega
      have e2 : min (k + 1) l.length = k + 1 := by omega
      rw [e1, e2]
      by_cases h2 : j < l.length
      · rw [if_pos (by omega), if_pos (by omega)]
      · rw [if_neg (by omega), if_neg (by omega)]
theorem cellsAt_full (l : List Int) (i : Nat) (hi : i < l.length) : (cellsAt l l.length)[i]? = some (.int .u8 (l.getD i 0)) := by
  unfold cellsAt; simp [hi]
theorem cellsAt_zero (l : List Int) : cellsAt l 0 = List.replicate l.length (.int .u8 0) := by simp [cellsAt]
theorem cellsAt_get (l : List Int) (k : Nat) (hk : k < l.length) : (cellsAt l k)[k]? = some (.int .u8 0) := by
  unfold cellsAt
  rw [List.getElem?_append_right (by simp; omega)]
  simp [List.getElem?_replicate]; omega

theorem made_owns (l : List Int) (w : World) (hl : l.length ≤ 1048576) :
    (w.alloc (.cells (madeCells #[.int .u8 0] l.length) 5)).ownsRow w.heap.size 5 1 (.slice (some ⟨w.heap.size, 0, none⟩) l.length l.length) l.length (cellsAt l 0) := by
  have h := World.ownsRow_lit (base := w.heap.size) (e := 5) (size := 1) w (madeCells #[.int .u8 0] l.length) l.length (Nat.le_refl _) (by unfold maxLen; omega) (by rw [← Array.length_toList, toList_madeCells_one]; simp)
  rwa [toList_madeCells_one, ← cellsAt_zero] at h
theorem clone_some (x : Addr) (cap : Nat) (l : List Int) (w : World) (hs : Seg w (some x) l) (hl : l.length ≤ 1048576) :
    Calls Try.prog 12 #[.slice (some x) l.length cap] w fun e w' => e = .returned (.slice (some ⟨w.heap.size, 0, none⟩) l.length l.length) ∧ Below w.heap.size w w' ∧ w.heap.size < w'.heap.size ∧
      ∀ i, i < l.length → w'.cell? ⟨w.heap.size, i, none⟩ = some (.int .u8 (l.getD i 0)) := by
  have hmk := fun w => run_make_row' (P := Try.prog) 22 5 (.int .u8 0) 1 Try.underlying22 info5 rfl .i64 .i64 l.length (by omega) (by omega) w
  have hnil : ∀ (w : World) (a : Option Addr) (n c n' c' : Nat), (binOp .eql 22 (.slice a n c) (.slice none n' c')).run Try.prog w = .ok (.bool a.isNone) w := fun w a n c n' c' => Lib.run_eql_slice_nil w _ _ a n c n' c' Try.underlying22
  go_enter Try.func12, Try.ntmps12
  go_wp2
  clear hmk hnil
  go_loopw [4] (fun i wr => ∃ k : Nat, k ≤ l.length ∧ i = .int .i64 k ∧ wr.ownsRow w.heap.size 5 1 (.slice (some ⟨w.heap.size, 0, none⟩) l.length l.length) l.length (cellsAt l k) ∧ Below w.heap.size w wr ∧ w.heap.size < wr.heap.size)
    (fun i _ => l.length - (intOf i).toNat)
  case atStart => exact ⟨0, by omega, rfl, made_owns l w hl, (Below.refl _ _).alloc (Nat.le_refl _) _, by simp⟩
  case round =>
    obtain ⟨k, hk, rfl, hown, hbel, hsz⟩ := hrel
    by_cases hlt : k < l.length
    · obtain ⟨b, off, hx, hc⟩ := hs k hlt
      injection hx with hx
      subst hx
      have hbl : b < w.heap.size := World.block_lt_of_cell? w _ hc
      have hcr : wr.cell? ⟨b, off + k, none⟩ = some (.int .u8 (l.getD k 0)) := (hbel.cell (by exact hbl)).trans hc
      have hold : wr.cell? ⟨w.heap.size, k, none⟩ = some (.int .u8 0) := (hown.cellAt k (by omega)).trans (cellsAt_get l k hlt)
      have hfr : wr.frozen? ⟨w.heap.size, k, none⟩ = false := hown.frozenAt k
      have R := (hown.stored k (.int .u8 (l.getD k 0))).1
      rw [cellsAt_set l k hlt] at R
      have HR : Hid ((wr.setCell ⟨w.heap.size, k, none⟩ (.int .u8 (l.getD k 0))).ownsRow w.heap.size 5 1 (.slice (some ⟨w.heap.size, 0, none⟩) l.length l.length) l.length (cellsAt l (k + 1))) := R
      clear R hown hs hc
      generalize l.getD k 0 = c at hcr HR
      go_wp2
      go_roundw
      case rel => exact ⟨k + 1, by omega, by go_num, HR.out, hbel.setCell (by simp) _, by simpa using hsz⟩
      case measure => simp [intOf]; omega
    · obtain rfl : k = l.length := by omega
      clear hs
      go_wp2
      go_ret
      exact ⟨rfl, hbel, hsz, fun i hi => (hown.cellAt i (by omega)).trans (cellsAt_full l i hi)⟩

/-- the nil slice is handed back as it is -/
theorem clone_none (cap : Nat) (w : World) :
    Calls Try.prog 12 #[.slice none 0 cap] w fun e w' => e = .returned (.slice none 0 0) ∧ w' = w := by
  have hnil : ∀ (w : World) (a : Option Addr) (n c n' c' : Nat), (binOp .eql 22 (.slice a n c) (.slice none n' c')).run Try.prog w = .ok (.bool a.isNone) w := fun w a n c n' c' => Lib.run_eql_slice_nil w _ _ a n c n' c' Try.underlying22
  go_enter Try.func12, Try.ntmps12
  go_wp2
  go_ret
  exact ⟨rfl, rfl⟩

/-- whatever slice of bytes: the clone holds the same bytes, in new memory -/
theorem clone_any (a : Option Addr) (cap : Nat) (l : List Int) (w : World) (hs : Seg w a l) (hl : l.length ≤ 1048576) :
    Calls Try.prog 12 #[.slice a l.length cap] w fun e w' => ∃ a', e = .returned (.slice a' l.length l.length) ∧ Below w.heap.size w w' ∧ Seg w' a' l := by
  cases a with
  | none =>
    have h0 : l.length = 0 := by
      by_cases h : l.length = 0
      · exact h
      · obtain ⟨b, off, h', _⟩ := hs 0 (by omega)
        simp at h'
    rw [h0]
    refine (clone_none cap w).mono ?_
    rintro e w' ⟨rfl, rfl⟩
    exact ⟨none, rfl, Below.refl _ _, fun i hi => by omega⟩
  | some x =>
    refine (clone_some x cap l w hs hl).mono ?_
    rintro e w' ⟨rfl, hb, _, hc⟩
    exact ⟨_, rfl, hb, fun i hi => ⟨w.heap.size, 0, rfl, by rw [Nat.zero_add]; exact hc i hi⟩⟩

/-- what the frame tells of a slice of bytes that came in, as 'Seg' -/
theorem seg_row {w : World} {a : Option Addr} {len cap : Nat} {zs : List Int}
    (h : (a = none ∧ len = 0 ∧ cap = 0 ∧ zs = []) ∨ ∃ x, a = some x ∧ len ≤ cap ∧ cap ≤ maxLen ∧ zs.length = cap ∧ (∀ i, i < zs.length → w.cell? (x.add i) = some (.int .u8 (zs.getD i 0))) ∧ ∀ n ∈ zs, (Lit.int .u8 n).wf = true) :
    ∃ l : List Int, l.length = len ∧ Seg w a l ∧ ∀ n ∈ l, (Lit.int .u8 n).wf = true := by
  rcases h with ⟨rfl, rfl, rfl, rfl⟩ | ⟨x, rfl, hlc, _, hz, hc, hw⟩
  · exact ⟨[], rfl, fun i hi => by simp at hi, fun n hn => by simp at hn⟩
  · refine ⟨zs.take len, by rw [List.length_take]; omega, fun i hi => ?_, fun n hn => hw n (List.mem_of_mem_take hn)⟩
    rw [List.length_take] at hi
    have hci := hc i (by omega)
    obtain ⟨b, off, spot⟩ := x
    have hspot : spot = none := by simpa [Addr.add] using World.cell?_spot (hc 0 (by omega))
    subst hspot
    refine ⟨b, off, rfl, ?_⟩
    rw [← add_plain]
    rw [hci]
    simp [List.getD, show i < len by omega]
end Go.Proofs.Qxb6601352a.Clone
