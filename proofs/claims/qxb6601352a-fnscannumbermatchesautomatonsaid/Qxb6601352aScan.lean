import Derived.Test.Qxb6601352aReads
import Derived.Test.Qxb6601352aNum
import Derived.Deep.DeepCutAuto
import Derived.Deep.CutBlock
namespace Go.Proofs.Qxb6601352a.Scan
open Go.ChangeShapes Go.WideShapes Go.ChangeAt Go.RowKit
open Go.Proofs.Qxb6601352a.Small Go.Proofs.Qxb6601352a.Plain Go.Proofs.Qxb6601352a.Num
open Go.Proofs.Qxb6601352a.Reads (Seg byteAt_any skipDigits_any ret_int ret_nat)

/-- a byte under a name of its own -/
theorem byteAs (l : List Int) (n : Nat) : ∃ c : Int, Hid (l.getD n 0 = c) ∧ (c ≠ 0 → n < l.length) := ⟨l.getD n 0, rfl, lt_of_getD l n⟩

set_option maxHeartbeats 1000000 in
theorem scan_any (a : Option Addr) (cap : Nat) (l : List Int) (n : Nat) (w : World) (hs : Seg w a l) (hl : l.length ≤ 1048576) :
    Calls Try.prog 26 #[.slice a l.length cap, .int .i64 n] w fun e w' => e = .returned (.int .i64 (outI (scan l n))) ∧ w' = w := by
  obtain ⟨c, HC, hcl⟩ := byteAs l n
  go_enter Try.func26, Try.ntmps26
  go_upto_if 13 with (go_at_call 31; refine (byteAt_any a cap l _ n _ hs rfl).mono ?_; rintro e w ⟨rfl, rfl⟩; rw [HC.out])
  go_cut [1] (fun s wc => ∃ m : Nat, s = .int .i64 m ∧ wc = w ∧ Hid (scan l n = pB l m))
  case first =>
    by_cases h : c = 45
    · have hcl' := hcl (by omega)
      have hb : (c == 45) = true := by simp [h]
      have HM : Hid (scan l n = pB l (n + 1)) := by show scan l n = _; rw [scan, pA, if_pos (HC.out.trans h)]
      clear h hcl HC
      go_wp2_with fail
      go_meet
      case rel => exact ⟨n + 1, by go_num, rfl, HM⟩
    · have hb : (c == 45) = false := by simp [h]
      have HM : Hid (scan l n = pB l n) := by show scan l n = _; rw [scan, pA, if_neg (by rw [HC.out]; exact h)]
      clear h hcl HC
      go_wp2_with fail
      go_meet
      case rel => exact ⟨n, rfl, rfl, HM⟩
  case rest =>
    obtain ⟨m, rfl, rfl, HM⟩ := hcut
    clear HC hcl c
    obtain ⟨c, HC, hcl⟩ := byteAs l m
    go_upto_block 0 with (go_at_call 31; refine (byteAt_any a cap l _ m _ hs rfl).mono ?_; rintro e w ⟨rfl, rfl⟩; rw [HC.out])
    go_cut [1] (fun s wc => ∃ m : Nat, s = .int .i64 m ∧ wc = w ∧ m ≤ l.length ∧ Hid (scan l n = pC l m))
    case first =>
      by_cases h : c = 48
      · have hcl' := hcl (by omega)
        have hb : (c == 48) = true := by simp [h]
        have HN : Hid (scan l n = pC l (m + 1)) := by show scan l n = _; rw [HM.out, pB, if_pos (HC.out.trans h)]
        clear h hcl HC HM
        go_wp2_with fail
        go_meet
        case rel => exact ⟨m + 1, by go_num, rfl, by omega, HN⟩
      · have hb : (c == 48) = false := by simp [h]
        by_cases h2 : 49 ≤ c ∧ c ≤ 57
        · have hcl' := hcl (by omega)
          have HN : Hid (scan l n = pC l (sk dig l (m + 1))) := by show scan l n = _; rw [HM.out, pB, if_neg (by rw [HC.out]; exact h), if_pos (by rw [HC.out]; exact h2)]
          obtain ⟨h3, h4⟩ := h2
          have hle := sk_le dig l (m + 1) (by omega)
          clear h hcl HC HM
          go_wp2_with (go_at_call 32; refine (skipDigits_any a cap l _ (m + 1) _ hs hl (by omega) (by omega)).mono ?_; rintro e w ⟨rfl, rfl⟩)
          go_meet
          case rel => exact ⟨sk dig l (m + 1), rfl, rfl, hle, HN⟩
        · have HN : Hid (scan l n = none) := by show scan l n = _; rw [HM.out, pB, if_neg (by rw [HC.out]; exact h), if_neg (by rw [HC.out]; exact h2)]
          clear hcl HC HM
          by_cases h3 : 49 ≤ c
          · have h4 : 57 < c := by omega
            clear h h2
            go_wp2_with fail
            go_ret
            exact ⟨ret_int (by rw [HN.out]; rfl), rfl⟩
          · clear h h2
            go_wp2_with fail
            go_ret
            exact ⟨ret_int (by rw [HN.out]; rfl), rfl⟩
    case rest =>
      clear HC hcl HM
      obtain ⟨m2, rfl, rfl, hm2, HM⟩ := hcut
      obtain ⟨c, HC, hcl⟩ := byteAs l m2
      go_upto_if 38 with (go_at_call 31; refine (byteAt_any a cap l _ m2 _ hs rfl).mono ?_; rintro e w ⟨rfl, rfl⟩; rw [HC.out])
      go_cut [1] (fun s wc => ∃ m : Nat, s = .int .i64 m ∧ wc = w ∧ m ≤ l.length ∧ Hid (scan l n = pD l m))
      case first =>
        by_cases h : c = 46
        · have hcl' := hcl (by omega)
          have hb : (c == 46) = true := by simp [h]
          have hle := sk_le dig l (m2 + 1) (by omega)
          by_cases h2 : sk dig l (m2 + 1) = m2 + 1
          · have HN : Hid (scan l n = none) := by show scan l n = _; rw [HM.out, pC, if_pos (by rw [HC.out]; exact h), if_pos h2]
            have hbq : ((sk dig l (m2 + 1) : Int) == (m2 : Int) + 1) = true := by simp; omega
            clear h hcl HC HM h2
            go_wp2_with (go_at_call 32; refine (skipDigits_any a cap l _ (m2 + 1) _ hs hl (by omega) (by omega)).mono ?_; rintro e w ⟨rfl, rfl⟩)
            go_ret
            exact ⟨ret_int (by rw [HN.out]; rfl), rfl⟩
          · have HN : Hid (scan l n = pD l (sk dig l (m2 + 1))) := by show scan l n = _; rw [HM.out, pC, if_pos (by rw [HC.out]; exact h), if_neg h2]
            have hbq : ((sk dig l (m2 + 1) : Int) == (m2 : Int) + 1) = false := by simp; omega
            clear h hcl HC HM h2
            go_wp2_with (go_at_call 32; refine (skipDigits_any a cap l _ (m2 + 1) _ hs hl (by omega) (by omega)).mono ?_; rintro e w ⟨rfl, rfl⟩)
            go_meet
            case rel => exact ⟨sk dig l (m2 + 1), rfl, rfl, hle, HN⟩
        · have hb : (c == 46) = false := by simp [h]
          have HN : Hid (scan l n = pD l m2) := by show scan l n = _; rw [HM.out, pC, if_neg (by rw [HC.out]; exact h)]
          clear h hcl HC HM
          go_wp2_with fail
          go_meet
          case rel => exact ⟨m2, rfl, rfl, hm2, HN⟩
      case rest =>
        clear HC hcl HM
        obtain ⟨m3, rfl, rfl, hm3, HM⟩ := hcut
        obtain ⟨c, HC, hcl⟩ := byteAs l m3
        by_cases h : c = 101 ∨ c = 69
        · have hcl' := hcl (by omega)
          have HN : Hid (scan l n = pX l (pS l (m3 + 1))) := by show scan l n = _; rw [HM.out, pD, if_pos (by rw [HC.out]; exact h)]
          clear HM hcl
          obtain ⟨d, HD, hdl⟩ := byteAs l (m3 + 1)
          obtain ⟨m4, HS, hm4, hs4⟩ : ∃ m4, Hid (pS l (m3 + 1) = m4) ∧ m4 ≤ l.length ∧ ((d = 43 ∨ d = 45) ∧ m4 = m3 + 2 ∨ ¬ (d = 43 ∨ d = 45) ∧ m4 = m3 + 1) := by
            by_cases hd : d = 43 ∨ d = 45
            · exact ⟨m3 + 2, by show pS l (m3 + 1) = m3 + 2; rw [pS, if_pos (by rw [HD.out]; exact hd)], by have := hdl (by omega); omega, .inl ⟨hd, rfl⟩⟩
            · exact ⟨m3 + 1, by show pS l (m3 + 1) = m3 + 1; rw [pS, if_neg (by rw [HD.out]; exact hd)], by omega, .inr ⟨hd, rfl⟩⟩
          clear hdl
          obtain ⟨q, HQ, hq1, hq2⟩ : ∃ q, Hid (sk dig l m4 = q) ∧ m4 ≤ q ∧ q ≤ l.length := ⟨sk dig l m4, rfl, sk_ge dig l m4, sk_le dig l m4 hm4⟩
          obtain ⟨hq, HZ⟩ | ⟨hq, HZ⟩ : (q = m4 ∧ Hid (scan l n = none)) ∨ (m4 < q ∧ Hid (scan l n = some q)) := by
            by_cases hq : q = m4
            · exact .inl ⟨hq, by show scan l n = none; rw [HN.out, HS.out, pX, HQ.out, if_pos hq]⟩
            · exact .inr ⟨by omega, by show scan l n = some q; rw [HN.out, HS.out, pX, HQ.out, if_neg hq]⟩
          · subst hq
            clear HN HS hq1
            rcases h with rfl | rfl <;> rcases hs4 with ⟨rfl | rfl, rfl⟩ | ⟨hd, rfl⟩
            all_goals
              first
                | (have hd1 : (d == 43) = false := by simp; omega)
                | skip
              first
                | (have hd2 : (d == 45) = false := by simp; omega)
                | skip
              try clear hd
              go_wp2_with (first | (go_at_call 31; refine (byteAt_any a cap l _ m3 _ hs (by omega)).mono ?_; rintro e w ⟨rfl, rfl⟩; rw [HC.out]) | (go_at_call 31; refine (byteAt_any a cap l _ (m3 + 1) _ hs (by omega)).mono ?_; rintro e w ⟨rfl, rfl⟩; rw [HD.out]) | (go_at_call 32; refine (skipDigits_any a cap l _ _ _ hs hl (by omega) hm4).mono ?_; rintro e w ⟨rfl, rfl⟩; rw [HQ.out]))
              go_ret
              exact ⟨ret_int (by rw [HZ.out]; rfl), rfl⟩
          · clear HN HS hq1
            rcases h with rfl | rfl <;> rcases hs4 with ⟨rfl | rfl, rfl⟩ | ⟨hd, rfl⟩
            all_goals
              first
                | (have hd1 : (d == 43) = false := by simp; omega)
                | skip
              first
                | (have hd2 : (d == 45) = false := by simp; omega)
                | skip
              try clear hd
              go_wp2_with (first | (go_at_call 31; refine (byteAt_any a cap l _ m3 _ hs (by omega)).mono ?_; rintro e w ⟨rfl, rfl⟩; rw [HC.out]) | (go_at_call 31; refine (byteAt_any a cap l _ (m3 + 1) _ hs (by omega)).mono ?_; rintro e w ⟨rfl, rfl⟩; rw [HD.out]) | (go_at_call 32; refine (skipDigits_any a cap l _ _ _ hs hl (by omega) hm4).mono ?_; rintro e w ⟨rfl, rfl⟩; rw [HQ.out]))
              go_ret
              exact ⟨ret_int (by rw [HZ.out]; rfl), rfl⟩
        · have HN : Hid (scan l n = some m3) := by show scan l n = _; rw [HM.out, pD, if_neg (by rw [HC.out]; exact h)]
          have h1 : (c == 101) = false := by simp; omega
          have h2 : (c == 69) = false := by simp; omega
          clear h hcl HM
          go_wp2_with (go_at_call 31; refine (byteAt_any a cap l _ m3 _ hs rfl).mono ?_; rintro e w ⟨rfl, rfl⟩; rw [HC.out])
          go_ret
          exact ⟨ret_int (by rw [HN.out]; rfl), rfl⟩

/-- 'ZZscanNumber': the same -/
theorem zzScan_any (a : Option Addr) (cap : Nat) (l : List Int) (i : Int) (n : Nat) (w : World) (hs : Seg w a l) (hl : l.length ≤ 1048576) (hi : i = n) :
    Calls Try.prog 13 #[.slice a l.length cap, .int .i64 i] w fun e w' => e = .returned (.int .i64 (outI (scan l n))) ∧ w' = w := by
  subst hi
  go_enter Try.func13, Try.ntmps13
  go_wp2_with (go_at_call 26; refine (scan_any a cap l n _ hs hl).mono ?_; rintro e w ⟨rfl, rfl⟩)
  go_ret
  exact ⟨rfl, rfl⟩
end Go.Proofs.Qxb6601352a.Scan
