/-
  THE WALK of appendJSONString onto nil: it lays the token. One walk a kind of byte.
-/
import Derived.Test.Qxb6600088aLaws
import Derived.Deep.RegionLaw
import Derived.Deep.DrawnRows
import Derived.Laws.BitsLemmas
namespace Go.Proofs.Qxb6600088a.Enc
open Go.RowKit Go.Proofs.Qxb6600088a.Plain Go.Proofs.Qxb6600088a.Bytes
attribute [local go_sem ↓] Go.wp_at_zero Go.wp_at_succ

set_option maxHeartbeats 1000000 in
theorem enc_any (s : ByteArray) (hs : s.size ≤ 1048576) (w : World) :
    Calls Try.prog 19 #[.slice none 0 0, .string s] w fun e w' => ∃ g n cap, e = .returned (.slice (some ⟨g, 0, none⟩) n cap) ∧ Row w w' g n cap (tok s) := by
  go_enter Try.func19, Try.ntmps19
  go_wp2_with (at_builtin; refine app (by rfl) _ _ (by rfl) w w _ [] (by rfl) (own_nil w) #[.int .u8 34] 1 1 [34] rfl rfl rfl (by decide) (by decide) ?_; intro g0 n0 cap0 w1 hr0)
  go_loopw [0, 5] (fun b i wr => ∃ k g n cap : Nat, k ≤ s.size ∧ i = .int .i64 k ∧ b = .slice (some ⟨g, 0, none⟩) n cap ∧ Row w wr g n cap (E s k)) (fun _ i _ => s.size - (intOf i).toNat)
  case atStart => exact ⟨0, g0, n0, cap0, Nat.zero_le _, rfl, rfl, by rw [E_zero]; exact hr0⟩
  case round =>
    obtain ⟨k, g, n, cap, hk, rfl, rfl, hrow⟩ := hrel
    have hE := E_len s k hk
    by_cases hlt : k < s.size
    · have HE : Hid (E s (k + 1) = E s k ++ esc (s[k].toNat : Int)) := E_succ s k hlt
      by_cases h34 : (s[k].toNat : Int) = 34
      · have HN : Hid (E s (k + 1) = E s k ++ [92, 34]) := by rw [h34] at HE; exact HE
        clear HE
        go_wp2_with (at_builtin; refine app (by rfl) _ _ (by rfl) w wr _ (E s k) (by rfl) hrow.2 #[.int .u8 92, .int .u8 34] 2 2 [92, 34] rfl (by rfl) rfl (by decide) (by omega) ?_; intro g' n' cap' w1 hr')
        go_roundw
        case rel => exact ⟨k + 1, g', n', cap', by omega, by go_num, rfl, by rw [HN.out]; exact hr'⟩
        case measure => simp [intOf]; omega
      by_cases h92 : (s[k].toNat : Int) = 92
      · have HN : Hid (E s (k + 1) = E s k ++ [92, 92]) := by rw [h92] at HE; exact HE
        clear HE
        go_wp2_with (at_builtin; refine app (by rfl) _ _ (by rfl) w wr _ (E s k) (by rfl) hrow.2 #[.int .u8 92, .int .u8 92] 2 2 [92, 92] rfl (by rfl) rfl (by decide) (by omega) ?_; intro g' n' cap' w1 hr')
        go_roundw
        case rel => exact ⟨k + 1, g', n', cap', by omega, by go_num, rfl, by rw [HN.out]; exact hr'⟩
        case measure => simp [intOf]; omega
      have b34 : ((s[k].toNat : Int) == 34) = false := beq_eq_false_iff_ne.2 h34
      have b92 : ((s[k].toNat : Int) == 92) = false := beq_eq_false_iff_ne.2 h92
      by_cases h32 : 32 ≤ (s[k].toNat : Int)
      · have HN : Hid (E s (k + 1) = E s k ++ [(s[k].toNat : Int)]) := by rw [esc_one _ h32 h34 h92] at HE; exact HE
        have b10 : ((s[k].toNat : Int) == 10) = false := beq_eq_false_iff_ne.2 (by omega)
        have b13 : ((s[k].toNat : Int) == 13) = false := beq_eq_false_iff_ne.2 (by omega)
        have b9 : ((s[k].toNat : Int) == 9) = false := beq_eq_false_iff_ne.2 (by omega)
        have b8 : ((s[k].toNat : Int) == 8) = false := beq_eq_false_iff_ne.2 (by omega)
        have b12 : ((s[k].toNat : Int) == 12) = false := beq_eq_false_iff_ne.2 (by omega)
        clear HE h34 h92
        go_wp2_with (at_builtin; refine app (by rfl) _ _ (by rfl) w wr _ (E s k) (by rfl) hrow.2 #[.int .u8 (s[k].toNat : Int)] 1 1 [(s[k].toNat : Int)] rfl (by rfl) rfl (by decide) (by omega) ?_; intro g' n' cap' w1 hr')
        go_roundw
        case rel => exact ⟨k + 1, g', n', cap', by omega, by go_num, rfl, by rw [HN.out]; exact hr'⟩
        case measure => simp [intOf]; omega
      by_cases h10 : (s[k].toNat : Int) = 10
      · have HN : Hid (E s (k + 1) = E s k ++ [92, 110]) := by rw [h10] at HE; exact HE
        clear HE
        go_wp2_with (at_builtin; refine app (by rfl) _ _ (by rfl) w wr _ (E s k) (by rfl) hrow.2 #[.int .u8 92, .int .u8 110] 2 2 [92, 110] rfl (by rfl) rfl (by decide) (by omega) ?_; intro g' n' cap' w1 hr')
        go_roundw
        case rel => exact ⟨k + 1, g', n', cap', by omega, by go_num, rfl, by rw [HN.out]; exact hr'⟩
        case measure => simp [intOf]; omega
      have b10 : ((s[k].toNat : Int) == 10) = false := beq_eq_false_iff_ne.2 h10
      by_cases h13 : (s[k].toNat : Int) = 13
      · have HN : Hid (E s (k + 1) = E s k ++ [92, 114]) := by rw [h13] at HE; exact HE
        clear HE
        go_wp2_with (at_builtin; refine app (by rfl) _ _ (by rfl) w wr _ (E s k) (by rfl) hrow.2 #[.int .u8 92, .int .u8 114] 2 2 [92, 114] rfl (by rfl) rfl (by decide) (by omega) ?_; intro g' n' cap' w1 hr')
        go_roundw
        case rel => exact ⟨k + 1, g', n', cap', by omega, by go_num, rfl, by rw [HN.out]; exact hr'⟩
        case measure => simp [intOf]; omega
      have b13 : ((s[k].toNat : Int) == 13) = false := beq_eq_false_iff_ne.2 h13
      by_cases h9 : (s[k].toNat : Int) = 9
      · have HN : Hid (E s (k + 1) = E s k ++ [92, 116]) := by rw [h9] at HE; exact HE
        clear HE
        go_wp2_with (at_builtin; refine app (by rfl) _ _ (by rfl) w wr _ (E s k) (by rfl) hrow.2 #[.int .u8 92, .int .u8 116] 2 2 [92, 116] rfl (by rfl) rfl (by decide) (by omega) ?_; intro g' n' cap' w1 hr')
        go_roundw
        case rel => exact ⟨k + 1, g', n', cap', by omega, by go_num, rfl, by rw [HN.out]; exact hr'⟩
        case measure => simp [intOf]; omega
      have b9 : ((s[k].toNat : Int) == 9) = false := beq_eq_false_iff_ne.2 h9
      by_cases h8 : (s[k].toNat : Int) = 8
      · have HN : Hid (E s (k + 1) = E s k ++ [92, 98]) := by rw [h8] at HE; exact HE
        clear HE
        go_wp2_with (at_builtin; refine app (by rfl) _ _ (by rfl) w wr _ (E s k) (by rfl) hrow.2 #[.int .u8 92, .int .u8 98] 2 2 [92, 98] rfl (by rfl) rfl (by decide) (by omega) ?_; intro g' n' cap' w1 hr')
        go_roundw
        case rel => exact ⟨k + 1, g', n', cap', by omega, by go_num, rfl, by rw [HN.out]; exact hr'⟩
        case measure => simp [intOf]; omega
      have b8 : ((s[k].toNat : Int) == 8) = false := beq_eq_false_iff_ne.2 h8
      by_cases h12 : (s[k].toNat : Int) = 12
      · have HN : Hid (E s (k + 1) = E s k ++ [92, 102]) := by rw [h12] at HE; exact HE
        clear HE
        go_wp2_with (at_builtin; refine app (by rfl) _ _ (by rfl) w wr _ (E s k) (by rfl) hrow.2 #[.int .u8 92, .int .u8 102] 2 2 [92, 102] rfl (by rfl) rfl (by decide) (by omega) ?_; intro g' n' cap' w1 hr')
        go_roundw
        case rel => exact ⟨k + 1, g', n', cap', by omega, by go_num, rfl, by rw [HN.out]; exact hr'⟩
        case measure => simp [intOf]; omega
      have b12 : ((s[k].toNat : Int) == 12) = false := beq_eq_false_iff_ne.2 h12
      have HN : Hid (E s (k + 1) = E s k ++ [92, 117, 48, 48, hx ((s[k].toNat : Int) / 16), hx ((s[k].toNat : Int) % 16)]) := by rw [esc_hex _ (by omega) h10 h13 h9 h8 h12] at HE; exact HE
      clear HE h34 h92 h10 h13 h9 h8 h12
      have q0 : 0 ≤ (s[k].toNat : Int) / 16 := by omega
      have q1 : (s[k].toNat : Int) / 16 < 16 := by omega
      have r0 : 0 ≤ (s[k].toNat : Int) % 16 := by omega
      have r1 : (s[k].toNat : Int) % 16 < 16 := by omega
      have hand : bits .and .u8 (s[k].toNat : Int) 15 = (s[k].toNat : Int) % 16 := u8_and15 _ (by omega) (by omega)
      go_wp2_with fail
      go_region_law ((refine step_app (by rfl) _ _ (by rfl) w wr _ (E s k) (by rfl) hrow.2 _ 6 6 [92, 117, 48, 48, _, _] (by rfl) (by rfl) rfl (by decide) (by omega) ?_; intro g' n' cap' w1 hr'))
      all_goals
        rw [hexAt _ q0 q1, hexAt _ r0 r1] at hr'
        go_wp2
        go_roundw
        case rel => exact ⟨k + 1, g', n', cap', by omega, by go_num, rfl, by rw [HN.out]; exact hr'⟩
        case measure => simp [intOf]; omega
    · go_wp2_with (at_builtin; refine app (by rfl) _ _ (by rfl) w wr _ (E s k) (by rfl) hrow.2 #[.int .u8 34] 1 1 [34] rfl (by rfl) rfl (by decide) (by omega) ?_; intro g' n' cap' w1 hr')
      go_ret
      have hks : k = s.size := by omega
      subst hks
      exact ⟨g', n', cap', rfl, hr'⟩

/-- 'ZZAppendJSONString' onto nil -/
theorem zzenc_any (s : ByteArray) (hs : s.size ≤ 1048576) (w : World) :
    Calls Try.prog 9 #[.slice none 0 0, .string s] w fun e w' => ∃ g n cap, e = .returned (.slice (some ⟨g, 0, none⟩) n cap) ∧ Row w w' g n cap (tok s) := by
  go_enter Try.func9, Try.ntmps9
  go_wp2_with (go_at_call 19; refine (enc_any s hs _).mono ?_; rintro e w' ⟨g, n, cap, rfl, hr⟩)
  go_ret
  exact ⟨g, n, cap, rfl, hr⟩

end Go.Proofs.Qxb6600088a.Enc
