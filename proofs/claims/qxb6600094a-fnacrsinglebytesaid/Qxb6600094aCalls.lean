/-
  THE WALKS of the callees of the law FnACRSingleByte: isACRValue at the empty string and at a string of one byte.
-/
import Derived.Test.Qxb6600094aRows
import Derived.WalkKit
import Derived.WalkSpells
import Derived.WalkLawsBesides
import Derived.Laws.IdiomStrings
namespace Go.Proofs.Qxb6600094a.Callees
open Go.RowKit

theorem ret_bool {a b : Bool} (h : a = b) : Ending.returned (.bool a) = .returned (.bool b) := by rw [h]

/-- the empty string is refused -/
theorem acr_empty (w : World) : Calls Try.prog 6 #[.string ⟨#[]⟩] w fun e w' => e = .returned (.bool false) ∧ w' = w := by
  go_enter Try.func6, Try.ntmps6
  go_wp2
  go_ret
  exact ⟨rfl, rfl⟩

/-- is the byte one that the program takes? -/
def acrB (c : Int) : Bool := decide (¬ (c ≤ 32 ∨ 126 < c ∨ c = 34 ∨ c = 92))
theorem acr_no (c : Int) (h : c ≤ 32 ∨ 126 < c ∨ c = 34 ∨ c = 92) : acrB c = false := by
  unfold acrB; rw [decide_eq_false_iff_not]; exact fun g => g h
theorem acr_yes (c : Int) (h1 : ¬ c ≤ 32) (h2 : ¬ 126 < c) (h3 : ¬ c = 34) (h4 : ¬ c = 92) : acrB c = true := by
  unfold acrB; rw [decide_eq_true_iff]; omega

/-- '[]byte(class)' at a string of one byte: a new block, whose first cell is that byte -/
theorem conv_one (b : UInt8) (w : World) : ∃ cap C fr, (convert 9 24 (.string ⟨#[b]⟩)).run Try.prog w = .ok (.slice (some ⟨w.heap.size, 0, none⟩) 1 cap) (w.drew.alloc (.cells C 5 fr)) ∧ (w.alloc (.cells C 5 fr)).cell? ⟨w.heap.size, 0, none⟩ = some (.int .u8 (b.toNat : Int)) :=
  ⟨_, _, _, run_bytes_of_string w 9 24 5 ⟨#[b]⟩ Try.underlying9 Try.underlying24 Try.underlying5, by rw [World.cell?_alloc_mark]; exact bytesRow_at ⟨#[b]⟩ _ 0 (by simp)⟩

set_option maxHeartbeats 400000 in
/-- 'isACRValue' at a string of one byte -/
theorem acr_one (b : UInt8) (w : World) : Calls Try.prog 7 #[.string ⟨#[b]⟩] w fun e w' => e = .returned (.bool (acrB (b.toNat : Int))) ∧ Below w.heap.size w w' := by
  obtain ⟨cap, C, fr, hcv, hcell⟩ := conv_one b w
  obtain ⟨c, hc⟩ : ∃ c : Int, c = (b.toNat : Int) := ⟨_, rfl⟩
  rw [← hc] at hcell
  rw [← hc]
  clear hc
  go_enter Try.func7, Try.ntmps7
  go_wp2
  clear hcv
  go_loop [10] (fun i => ∃ k : Nat, i = .int .i64 k ∧ k ≤ 1 ∧ Hid (k = 1 → acrB c = true)) (fun i => 1 - (intOf i).toNat)
  case atStart => exact ⟨0, rfl, by omega, fun h => by cases h⟩
  case round =>
    obtain ⟨k, rfl, hk, HK⟩ := hrel
    have hk2 : k = 0 ∨ k = 1 := by omega
    rcases hk2 with rfl | rfl
    · by_cases h1 : c ≤ 32
      · have HR : Hid (acrB c = false) := acr_no c (Or.inl h1)
        go_wp2
        go_ret
        exact ⟨ret_bool HR.out.symm, ((Below.refl _ _).alloc (Nat.le_refl _) _).drew⟩
      by_cases h2 : 126 < c
      · have HR : Hid (acrB c = false) := acr_no c (Or.inr (Or.inl h2))
        go_wp2
        go_ret
        exact ⟨ret_bool HR.out.symm, ((Below.refl _ _).alloc (Nat.le_refl _) _).drew⟩
      by_cases h3 : c = 34
      · have HR : Hid (acrB c = false) := acr_no c (Or.inr (Or.inr (Or.inl h3)))
        have b3 : (c == 34) = true := by simp [h3]
        clear h3
        go_wp2
        go_ret
        exact ⟨ret_bool HR.out.symm, ((Below.refl _ _).alloc (Nat.le_refl _) _).drew⟩
      by_cases h4 : c = 92
      · have HR : Hid (acrB c = false) := acr_no c (Or.inr (Or.inr (Or.inr h4)))
        have b3 : (c == 34) = false := beq_eq_false_iff_ne.2 h3
        have b4 : (c == 92) = true := by simp [h4]
        clear h3 h4
        go_wp2
        go_ret
        exact ⟨ret_bool HR.out.symm, ((Below.refl _ _).alloc (Nat.le_refl _) _).drew⟩
      have HR : Hid (acrB c = true) := acr_yes c h1 h2 h3 h4
      have b3 : (c == 34) = false := beq_eq_false_iff_ne.2 h3
      have b4 : (c == 92) = false := beq_eq_false_iff_ne.2 h4
      clear h3 h4
      go_wp2
      go_round
      case rel => exact ⟨1, by go_num, by omega, fun _ => HR.out⟩
      case measure => simp [intOf]
    · have HR : Hid (acrB c = true) := HK.out rfl
      clear HK
      go_wp2
      go_ret
      exact ⟨ret_bool HR.out.symm, ((Below.refl _ _).alloc (Nat.le_refl _) _).drew⟩

/-- 'ZZisACRValue' at a string of one byte -/
theorem zz_one (b : UInt8) (w : World) : Calls Try.prog 6 #[.string ⟨#[b]⟩] w fun e w' => e = .returned (.bool (acrB (b.toNat : Int))) ∧ Below w.heap.size w w' := by
  go_enter Try.func6, Try.ntmps6
  go_wp2_with (go_at_call 7; refine (acr_one b _).mono ?_; rintro e w' ⟨rfl, hb⟩)
  go_ret
  exact ⟨rfl, hb⟩

/-- 'string([]byte{c})' -/
theorem back_one (b : UInt8) (w : World) : (convert 24 9 (.slice (some ⟨w.heap.size, 0, none⟩) 1 1)).run Try.prog (w.alloc (.cells #[.int .u8 (b.toNat : Int)] 5)) = .ok (.string ⟨#[b]⟩) (w.alloc (.cells #[.int .u8 (b.toNat : Int)] 5)) :=
  run_convert_bytes_back (P := Try.prog) (w.alloc (.cells #[.int .u8 (b.toNat : Int)] 5)) 24 9 5 ⟨w.heap.size, 0, none⟩ 1 [b] Try.underlying24 Try.underlying5 Try.underlying9 (fun j hj => by
    have h0 : j = 0 := by simpa using hj
    subst h0
    exact World.cell?_alloc_mark w _ _ _ 0)

end Go.Proofs.Qxb6600094a.Callees
