/-
  THE WALK of decodeJSONString at the token that the encoder lays: it hands back the string. One walk a kind of byte.
-/
import Derived.Test.Qxb6600088aSmall
namespace Go.Proofs.Qxb6600088a.Dec
open Go.RowKit Go.Proofs.Qxb6600088a.Plain Go.Proofs.Qxb6600088a.Bytes

set_option maxRecDepth 100000 in
set_option maxHeartbeats 2000000 in
theorem dec_any (s : ByteArray) (hs : s.size ≤ 1048576) (w : World) (g n cap : Nat) (ht : Tok w g n (tok s)) :
    Calls Try.prog 10 #[.slice (some ⟨g, 0, none⟩) n cap] w fun e w' => ∃ g2 n2 cap2, e = .returned (.tuple #[.slice (some ⟨g2, 0, none⟩) n2 cap2, .bool true]) ∧ Row w w' g2 n2 cap2 (str s) := by
  have hl := tok_len s
  have hn1 : s.size + 2 ≤ n := ht.1 ▸ hl.1
  have hn2 : n ≤ 6 * s.size + 2 := ht.1 ▸ hl.2
  have hc0 : w.cell? ⟨g, 0, none⟩ = some (.int .u8 34) := ht.2.2 0 34 (tok_first s)
  have d0 : decide ((n : Int) < 2) = false := decide_eq_false (by omega)
  clear hl
  go_enter Try.func10, Try.ntmps10
  go_wp2_with (at_make; refine mk (by rfl) _ _ (by rfl) w _ _ n (by rfl) (by rfl) (by omega) ?_; intro g1 cap1 w1 hr1)
  go_loopw [4, 5] (fun o i wr => ∃ k p g2 n2 cap2 : Nat, k ≤ s.size ∧ Hid (p = (E s k).length) ∧ i = .int .i64 p ∧ o = .slice (some ⟨g2, 0, none⟩) n2 cap2 ∧ Row w wr g2 n2 cap2 ((str s).take k)) (fun _ i _ => n - (intOf i).toNat)
  case atStart => exact ⟨0, 1, g1, 0, cap1, Nat.zero_le _, by rw [E_zero]; rfl, rfl, rfl, hr1⟩
  case round =>
    obtain ⟨k, p, g2, n2, cap2, hk, HP, rfl, rfl, hrow⟩ := hrel
    have htr := tok_below ht hrow.2.2
    clear hc0
    by_cases hlt : k < s.size
    · have HC : Hid (∀ j u, (esc (s[k].toNat : Int))[j]? = some u → wr.cell? ⟨g, p + j, none⟩ = some (.int .u8 u)) := fun j u h => htr.2.2 _ _ (by rw [HP.out]; exact tok_at s k hlt j u h)
      have HE : Hid (E s (k + 1) = E s k ++ esc (s[k].toNat : Int)) := E_succ s k hlt
      have HT : Hid ((str s).take (k + 1) = (str s).take k ++ [(s[k].toNat : Int)]) := take_snoc s k hlt
      have hroom : p + (esc (s[k].toNat : Int)).length < n := by rw [HP.out, ht.1]; exact tok_room s k hlt
      have hlen : ((str s).take k).length ≤ 1048576 := by rw [Plain.take_len s k hk]; omega
      by_cases h34 : (s[k].toNat : Int) = 34
      · rw [h34] at HE HC HT
        have he : esc 34 = [92, 34] := by decide
        have c0 : wr.cell? ⟨g, p, none⟩ = some (.int .u8 92) := HC.out 0 92 (by rw [he]; rfl)
        have c1 : wr.cell? ⟨g, p + 1, none⟩ = some (.int .u8 34) := HC.out 1 34 (by rw [he]; rfl)
        have hr2 : p + 2 < n := by rw [h34, he] at hroom; exact hroom
        have HL : Hid (p + 2 = (E s (k + 1)).length) := by rw [HE.out, List.length_append, ← HP.out, he]; rfl
        clear he h34 hroom HE HC
        go_wp2_with (at_builtin; refine app (by rfl) _ _ (by rfl) w wr _ ((str s).take k) (by rfl) hrow.2 #[.int .u8 34] 1 1 [34] rfl (by rfl) rfl (by decide) (by omega) ?_; intro g' n' cap' w1 hr')
        go_roundw
        case rel => exact ⟨k + 1, p + 2, g', n', cap', by omega, HL, by go_num, rfl, by rw [HT.out]; exact hr'⟩
        case measure => simp [intOf]; omega
      by_cases h92 : (s[k].toNat : Int) = 92
      · rw [h92] at HE HC HT
        have he : esc 92 = [92, 92] := by decide
        have c0 : wr.cell? ⟨g, p, none⟩ = some (.int .u8 92) := HC.out 0 92 (by rw [he]; rfl)
        have c1 : wr.cell? ⟨g, p + 1, none⟩ = some (.int .u8 92) := HC.out 1 92 (by rw [he]; rfl)
        have hr2 : p + 2 < n := by rw [h92, he] at hroom; exact hroom
        have HL : Hid (p + 2 = (E s (k + 1)).length) := by rw [HE.out, List.length_append, ← HP.out, he]; rfl
        clear he h92 hroom HE HC
        go_wp2_with (at_builtin; refine app (by rfl) _ _ (by rfl) w wr _ ((str s).take k) (by rfl) hrow.2 #[.int .u8 92] 1 1 [92] rfl (by rfl) rfl (by decide) (by omega) ?_; intro g' n' cap' w1 hr')
        go_roundw
        case rel => exact ⟨k + 1, p + 2, g', n', cap', by omega, HL, by go_num, rfl, by rw [HT.out]; exact hr'⟩
        case measure => simp [intOf]; omega
      by_cases h10 : (s[k].toNat : Int) = 10
      · rw [h10] at HE HC HT
        have he : esc 10 = [92, 110] := by decide
        have c0 : wr.cell? ⟨g, p, none⟩ = some (.int .u8 92) := HC.out 0 92 (by rw [he]; rfl)
        have c1 : wr.cell? ⟨g, p + 1, none⟩ = some (.int .u8 110) := HC.out 1 110 (by rw [he]; rfl)
        have hr2 : p + 2 < n := by rw [h10, he] at hroom; exact hroom
        have HL : Hid (p + 2 = (E s (k + 1)).length) := by rw [HE.out, List.length_append, ← HP.out, he]; rfl
        clear he h10 hroom HE HC
        go_wp2_with (at_builtin; refine app (by rfl) _ _ (by rfl) w wr _ ((str s).take k) (by rfl) hrow.2 #[.int .u8 10] 1 1 [10] rfl (by rfl) rfl (by decide) (by omega) ?_; intro g' n' cap' w1 hr')
        go_roundw
        case rel => exact ⟨k + 1, p + 2, g', n', cap', by omega, HL, by go_num, rfl, by rw [HT.out]; exact hr'⟩
        case measure => simp [intOf]; omega
      by_cases h13 : (s[k].toNat : Int) = 13
      · rw [h13] at HE HC HT
        have he : esc 13 = [92, 114] := by decide
        have c0 : wr.cell? ⟨g, p, none⟩ = some (.int .u8 92) := HC.out 0 92 (by rw [he]; rfl)
        have c1 : wr.cell? ⟨g, p + 1, none⟩ = some (.int .u8 114) := HC.out 1 114 (by rw [he]; rfl)
        have hr2 : p + 2 < n := by rw [h13, he] at hroom; exact hroom
        have HL : Hid (p + 2 = (E s (k + 1)).length) := by rw [HE.out, List.length_append, ← HP.out, he]; rfl
        clear he h13 hroom HE HC
        go_wp2_with (at_builtin; refine app (by rfl) _ _ (by rfl) w wr _ ((str s).take k) (by rfl) hrow.2 #[.int .u8 13] 1 1 [13] rfl (by rfl) rfl (by decide) (by omega) ?_; intro g' n' cap' w1 hr')
        go_roundw
        case rel => exact ⟨k + 1, p + 2, g', n', cap', by omega, HL, by go_num, rfl, by rw [HT.out]; exact hr'⟩
        case measure => simp [intOf]; omega
      by_cases h9 : (s[k].toNat : Int) = 9
      · rw [h9] at HE HC HT
        have he : esc 9 = [92, 116] := by decide
        have c0 : wr.cell? ⟨g, p, none⟩ = some (.int .u8 92) := HC.out 0 92 (by rw [he]; rfl)
        have c1 : wr.cell? ⟨g, p + 1, none⟩ = some (.int .u8 116) := HC.out 1 116 (by rw [he]; rfl)
        have hr2 : p + 2 < n := by rw [h9, he] at hroom; exact hroom
        have HL : Hid (p + 2 = (E s (k + 1)).length) := by rw [HE.out, List.length_append, ← HP.out, he]; rfl
        clear he h9 hroom HE HC
        go_wp2_with (at_builtin; refine app (by rfl) _ _ (by rfl) w wr _ ((str s).take k) (by rfl) hrow.2 #[.int .u8 9] 1 1 [9] rfl (by rfl) rfl (by decide) (by omega) ?_; intro g' n' cap' w1 hr')
        go_roundw
        case rel => exact ⟨k + 1, p + 2, g', n', cap', by omega, HL, by go_num, rfl, by rw [HT.out]; exact hr'⟩
        case measure => simp [intOf]; omega
      by_cases h8 : (s[k].toNat : Int) = 8
      · rw [h8] at HE HC HT
        have he : esc 8 = [92, 98] := by decide
        have c0 : wr.cell? ⟨g, p, none⟩ = some (.int .u8 92) := HC.out 0 92 (by rw [he]; rfl)
        have c1 : wr.cell? ⟨g, p + 1, none⟩ = some (.int .u8 98) := HC.out 1 98 (by rw [he]; rfl)
        have hr2 : p + 2 < n := by rw [h8, he] at hroom; exact hroom
        have HL : Hid (p + 2 = (E s (k + 1)).length) := by rw [HE.out, List.length_append, ← HP.out, he]; rfl
        clear he h8 hroom HE HC
        go_wp2_with (at_builtin; refine app (by rfl) _ _ (by rfl) w wr _ ((str s).take k) (by rfl) hrow.2 #[.int .u8 8] 1 1 [8] rfl (by rfl) rfl (by decide) (by omega) ?_; intro g' n' cap' w1 hr')
        go_roundw
        case rel => exact ⟨k + 1, p + 2, g', n', cap', by omega, HL, by go_num, rfl, by rw [HT.out]; exact hr'⟩
        case measure => simp [intOf]; omega
      by_cases h12 : (s[k].toNat : Int) = 12
      · rw [h12] at HE HC HT
        have he : esc 12 = [92, 102] := by decide
        have c0 : wr.cell? ⟨g, p, none⟩ = some (.int .u8 92) := HC.out 0 92 (by rw [he]; rfl)
        have c1 : wr.cell? ⟨g, p + 1, none⟩ = some (.int .u8 102) := HC.out 1 102 (by rw [he]; rfl)
        have hr2 : p + 2 < n := by rw [h12, he] at hroom; exact hroom
        have HL : Hid (p + 2 = (E s (k + 1)).length) := by rw [HE.out, List.length_append, ← HP.out, he]; rfl
        clear he h12 hroom HE HC
        go_wp2_with (at_builtin; refine app (by rfl) _ _ (by rfl) w wr _ ((str s).take k) (by rfl) hrow.2 #[.int .u8 12] 1 1 [12] rfl (by rfl) rfl (by decide) (by omega) ?_; intro g' n' cap' w1 hr')
        go_roundw
        case rel => exact ⟨k + 1, p + 2, g', n', cap', by omega, HL, by go_num, rfl, by rw [HT.out]; exact hr'⟩
        case measure => simp [intOf]; omega
      by_cases h32 : 32 ≤ (s[k].toNat : Int)
      · have he := esc_one _ h32 h34 h92
        have c0 : wr.cell? ⟨g, p, none⟩ = some (.int .u8 (s[k].toNat : Int)) := HC.out 0 _ (by rw [he]; rfl)
        have hr2 : p + 1 < n := by rw [he] at hroom; exact hroom
        have HL : Hid (p + 1 = (E s (k + 1)).length) := by rw [HE.out, List.length_append, ← HP.out, he]; rfl
        have b34 : ((s[k].toNat : Int) == 34) = false := beq_eq_false_iff_ne.2 h34
        have b92 : ((s[k].toNat : Int) != 92) = true := bne_iff_ne.2 h92
        clear he h34 h92 h10 h13 h9 h8 h12 hroom HE HC
        go_wp2_with (at_builtin; refine app (by rfl) _ _ (by rfl) w wr _ ((str s).take k) (by rfl) hrow.2 #[.int .u8 (s[k].toNat : Int)] 1 1 [(s[k].toNat : Int)] rfl (by rfl) rfl (by decide) (by omega) ?_; intro g' n' cap' w1 hr')
        go_roundw
        case rel => exact ⟨k + 1, p + 1, g', n', cap', by omega, HL, by go_num, rfl, by rw [HT.out]; exact hr'⟩
        case measure => simp [intOf]; omega
      have he := esc_hex _ (by omega) h10 h13 h9 h8 h12
      have c0 : wr.cell? ⟨g, p, none⟩ = some (.int .u8 92) := HC.out 0 _ (by rw [he]; rfl)
      have c1 : wr.cell? ⟨g, p + 1, none⟩ = some (.int .u8 117) := HC.out 1 _ (by rw [he]; rfl)
      have hr2 : p + 6 < n := by rw [he] at hroom; exact hroom
      have HL : Hid (p + 6 = (E s (k + 1)).length) := by rw [HE.out, List.length_append, ← HP.out, he]; rfl
      obtain ⟨c, hc⟩ : ∃ c : Int, c = (s[k].toNat : Int) := ⟨_, rfl⟩
      rw [← hc] at HC he HT h32
      have hc0 : 0 ≤ c := by omega
      have HD : Hid (∀ j, j < 4 → wr.cell? ⟨g, p + (2 + j), none⟩ = some (.int .u8 (hx (digit c j)))) := fun j hj => HC.out _ _ (esc_digit c he j hj)
      have hc1 : c < 32 := by omega
      clear he h34 h92 h10 h13 h9 h8 h12 hroom HE HC h32 hc
      have d1 : p < n := by omega
      have d2 : decide ((n : Int) ≤ (p : Int) + 1) = false := decide_eq_false (by omega)
      have d3 : decide ((n : Int) < (p : Int) + 6) = false := decide_eq_false (by omega)
      go_wp2_with fail
      go_loop [8, 9] (fun v q => ∃ (j q' : Nat) (x : Int), j ≤ 4 ∧ Hid (q' = p + (2 + j)) ∧ q = .int .i64 q' ∧ Hid (x = hexTo c j) ∧ v = .int .i64 x) (fun _ q => p + 6 - (intOf q).toNat)
      case atStart => exact ⟨0, p + 2, 0, by omega, rfl, by go_num, rfl, rfl⟩
      case round =>
        obtain ⟨j, q, x, hj, HQ, rfl, HX, rfl⟩ := hrel
        have hxb := hexTo_bd c hc0 hc1 j
        rw [← HX.out] at hxb
        obtain ⟨hx0, hx1⟩ := hxb
        by_cases hj4 : j < 4
        · have hqc : wr.cell? ⟨g, q, none⟩ = some (.int .u8 (hx (digit c j))) := by rw [HQ.out]; exact HD.out j hj4
          have hq6 : q < p + 6 := by rw [HQ.out]; omega
          have hdb := digit_bd c hc0 hc1 j
          obtain ⟨d, hd⟩ : ∃ d, d = digit c j := ⟨_, rfl⟩
          rw [← hd] at hqc hdb
          obtain ⟨hd0, hd1⟩ := hdb
          have HN : Hid (x * 16 + d = hexTo c (j + 1)) := by rw [HX.out, hd]; exact hexTo_succ c j hj4
          have HQ' : Hid (q + 1 = p + (2 + (j + 1))) := by have := HQ.out; show q + 1 = p + (2 + (j + 1)); omega
          clear hd
          go_wp2_with (go_at_call 20; refine (Small.hexVal_any d hd0 hd1 _).mono ?_; rintro e w' ⟨rfl, rfl⟩)
          go_round
          case rel => exact ⟨j + 1, q + 1, x * 16 + d, by omega, HQ', by go_num, HN, rfl⟩
          case measure => simp [intOf]; omega
        · have h4 : j = 4 := by omega
          have hq6 : q = p + 6 := by rw [HQ.out, h4]
          have hxc : x = c := by rw [HX.out, h4]; rfl
          subst hq6
          subst hxc
          clear HQ HX HD h4
          go_wp2_with (go_at_call 21; refine (Small.cp_any w wr _ ((str s).take k) hrow.2 x hx0 (by omega) (by omega)).mono ?_; rintro e w2 ⟨g', n', cap', rfl, hr'⟩)
          go_roundw
          case rel => exact ⟨k + 1, p + 6, g', n', cap', by omega, HL, by go_num, rfl, by rw [HT.out]; exact hr'⟩
          case measure => simp [intOf]; omega
    · have hks : k = s.size := by omega
      have hp : p + 1 = n := by rw [HP.out, ht.1, tok_last, hks]
      have hcp : wr.cell? ⟨g, p, none⟩ = some (.int .u8 34) := htr.2.2 p 34 (by rw [HP.out, hks]; exact tok_end s)
      have hfin : Row w wr g2 n2 cap2 (str s) := by rw [hks, str_all] at hrow; exact hrow
      have hpn : ((p : Int) != (n : Int) - 1) = false := by simp; omega
      subst hp
      clear hks
      go_wp2
      go_ret2
      exact ⟨g2, n2, cap2, rfl, hfin⟩

end Go.Proofs.Qxb6600088a.Dec
