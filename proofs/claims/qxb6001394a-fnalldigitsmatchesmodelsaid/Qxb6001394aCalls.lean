/-
  THE WALKS of the callees of the law FnAllDigitsMatchesModel: a contract a function.
-/
import Derived.Test.Qxb6001394aRows
import Derived.Test.Qxb6001394aPlain
import Derived.WalkKit
import Derived.WalkSpells
import Derived.WalkLawsBesides
namespace Go.Proofs.Qxb6001394a.Callees
open Go.RowKit Go.Proofs.Qxb6001394a.Plain

/-- 'isDigitByte' -/
theorem isDigit_any (c : Int) (w : World) :
    Calls Try.prog 10 #[.int .u8 c] w fun e w' => e = .returned (.bool (digB c)) ∧ w' = w := by
  by_cases h : 48 ≤ c ∧ c ≤ 57
  · have hd : digB c = true := by simp [digB, h]
    rw [hd]
    have hc : c = 48 ∨ c = 49 ∨ c = 50 ∨ c = 51 ∨ c = 52 ∨ c = 53 ∨ c = 54 ∨ c = 55 ∨ c = 56 ∨ c = 57 := by omega
    clear h hd
    rcases hc with rfl | rfl | rfl | rfl | rfl | rfl | rfl | rfl | rfl | rfl
    all_goals
      go_enter Try.func10, Try.ntmps10
      go_wp2
      go_ret
      exact ⟨rfl, rfl⟩
  · have hd : digB c = false := by simp [digB, h]
    rw [hd]
    have h0 : (c == 48) = false := beq_eq_false_iff_ne.2 (by omega)
    have h1 : (c == 49) = false := beq_eq_false_iff_ne.2 (by omega)
    have h2 : (c == 50) = false := beq_eq_false_iff_ne.2 (by omega)
    have h3 : (c == 51) = false := beq_eq_false_iff_ne.2 (by omega)
    have h4 : (c == 52) = false := beq_eq_false_iff_ne.2 (by omega)
    have h5 : (c == 53) = false := beq_eq_false_iff_ne.2 (by omega)
    have h6 : (c == 54) = false := beq_eq_false_iff_ne.2 (by omega)
    have h7 : (c == 55) = false := beq_eq_false_iff_ne.2 (by omega)
    have h8 : (c == 56) = false := beq_eq_false_iff_ne.2 (by omega)
    have h9 : (c == 57) = false := beq_eq_false_iff_ne.2 (by omega)
    clear h hd
    go_enter Try.func10, Try.ntmps10
    go_wp2
    go_ret
    exact ⟨rfl, rfl⟩

/-- 'zzBytes_..': is the string at most 1<<20 bytes? -/
theorem bytes_any (s : ByteArray) (hs : s.size ≤ maxLen) (w : World) :
    Calls Try.prog 5 #[.string s] w fun e w' => e = .returned (.bool (decide (s.size ≤ 1048576))) ∧ w' = w := by
  unfold maxLen at hs
  by_cases h : s.size ≤ 1048576
  · rw [decide_eq_true h]
    go_enter Try.func5, Try.ntmps5
    go_wp2
    go_ret
    exact ⟨rfl, rfl⟩
  · rw [decide_eq_false h]
    go_enter Try.func5, Try.ntmps5
    go_wp2
    go_ret
    exact ⟨rfl, rfl⟩

theorem ret_bool {a b : Bool} (h : a = b) : Ending.returned (.bool a) = .returned (.bool b) := by rw [h]

/-- 'allDigits' -/
theorem allDigits_any (s : ByteArray) (hs : s.size ≤ maxLen) (w : World) :
    Calls Try.prog 9 #[.string s] w fun e w' => e = .returned (.bool (allD s.data.toList)) ∧ w' = w := by
  unfold maxLen at hs
  by_cases he : s.size = 0
  · have h0 : s.toList.isEmpty = true := by rw [ByteArray.toList_eq]; exact empty_of s he
    rw [allD_no s he]
    clear he
    go_enter Try.func9, Try.ntmps9
    go_wp2
    go_ret
    exact ⟨rfl, rfl⟩
  · have h0 : s.toList.isEmpty = false := by rw [ByteArray.toList_eq]; exact not_empty_of s he
    have HR : Hid (allD s.data.toList = s.data.toList.all fun c => digB c.toNat) := allD_yes s he
    clear he
    go_enter Try.func9, Try.ntmps9
    go_wp2
    go_loop [3] (fun i => ∃ k : Nat, k ≤ s.size ∧ i = .int .i64 k ∧ ((s.data.toList.take k).all fun c => digB c.toNat) = true) (fun i => s.size - (intOf i).toNat)
    case atStart => exact ⟨0, Nat.zero_le _, rfl, rfl⟩
    case round =>
      obtain ⟨k, hk, rfl, hall⟩ := hrel
      have HA : Hid (((s.data.toList.take k).all fun c => digB c.toNat) = true) := hall
      clear hall
      by_cases hlt : k < s.size
      · by_cases h1 : (s[k].toNat : Int) < 48
        · go_wp2
          go_ret
          exact ⟨ret_bool (HR.out.trans (not_all_of s.data.toList k (by simpa using hlt) (dig_no _ (Or.inl h1)))).symm, rfl⟩
        · by_cases h2 : 57 < (s[k].toNat : Int)
          · go_wp2
            go_ret
            exact ⟨ret_bool (HR.out.trans (not_all_of s.data.toList k (by simpa using hlt) (dig_no _ (Or.inr h2)))).symm, rfl⟩
          · go_wp2
            go_round
            case rel =>
              refine ⟨k + 1, by omega, by go_num, ?_⟩
              rw [take_snoc s k hlt, all_snoc, HA.out, dig_yes _ (by omega) (by omega)]
              rfl
            case measure => simp [intOf]; omega
      · go_wp2
        go_ret
        refine ⟨ret_bool ?_, rfl⟩
        have := HA.out
        rw [List.take_of_length_le (by simp; omega)] at this
        exact (HR.out.trans this).symm

/-- 'modelAllDigits' -/
theorem model_any (s : ByteArray) (hs : s.size ≤ maxLen) (w : World) :
    Calls Try.prog 7 #[.string s] w fun e w' => e = .returned (.bool (allD s.data.toList)) ∧ w' = w := by
  unfold maxLen at hs
  go_enter Try.func7, Try.ntmps7
  go_wp2
  go_loop [3, 4] (fun n i => ∃ k : Nat, k ≤ s.size ∧ i = .int .i64 k ∧ n = .int .i64 (cnt (s.data.toList.take k))) (fun _ i => s.size - (intOf i).toNat)
  case atStart => exact ⟨0, Nat.zero_le _, rfl, rfl⟩
  case round =>
    obtain ⟨k, hk, rfl, rfl⟩ := hrel
    have hd := cnt_le (s.data.toList.take k)
    have hl : (s.data.toList.take k).length ≤ k := List.length_take_le _ _
    by_cases hlt : k < s.size
    · have HS : Hid (cnt (s.data.toList.take (k + 1)) = cnt (s.data.toList.take k) + if digB s[k].toNat = true then 1 else 0) := by rw [take_snoc s k hlt]; exact cnt_snoc _ _
      by_cases hdg : digB s[k].toNat = true
      · go_wp2_with (go_at_call 10; refine (isDigit_any _ _).mono ?_; rintro e w' ⟨rfl, rfl⟩)
        go_round
        case rel => exact ⟨k + 1, by omega, by go_num, by rw [HS.out, if_pos hdg]⟩
        case measure => simp [intOf]; omega
      · have hdf : digB s[k].toNat = false := by simpa using hdg
        clear hdg
        go_wp2_with (go_at_call 10; refine (isDigit_any _ _).mono ?_; rintro e w' ⟨rfl, rfl⟩)
        go_round
        case rel => exact ⟨k + 1, by omega, by go_num, by rw [HS.out, if_neg (by simp [hdf])]; go_num⟩
        case measure => simp [intOf]; omega
    · have hks : k = s.size := by omega
      have HT : Hid (s.data.toList.take k = s.data.toList) := List.take_of_length_le (by simp; omega)
      rw [HT.out] at hd
      clear hks
      by_cases hz : 0 < s.size
      · go_wp2
        go_ret
        refine ⟨ret_bool ?_, rfl⟩
        rw [HT.out]
        exact cnt_allD s (by omega)
      · go_wp2
        go_ret
        exact ⟨ret_bool (allD_no s (by omega)).symm, rfl⟩

/-- 'ZZAllDigits' -/
theorem zz_any (s : ByteArray) (hs : s.size ≤ maxLen) (w : World) :
    Calls Try.prog 6 #[.string s] w fun e w' => e = .returned (.bool (allD s.data.toList)) ∧ w' = w := by
  go_enter Try.func6, Try.ntmps6
  go_wp2_with (go_at_call 9; refine (allDigits_any _ hs _).mono ?_; rintro e w' ⟨rfl, rfl⟩)
  go_ret
  exact ⟨rfl, rfl⟩

end Go.Proofs.Qxb6001394a.Callees
