/-
  THE WALKS of the decoder's small callees: hexVal, appendCodePoint (below 0x80), bytesEqualString (at equal bytes).
-/
import Derived.Test.Qxb6600088aLaws
import Derived.Deep.QuietTactic
import Derived.BigQuiet
namespace Go.Proofs.Qxb6600088a.Small
open Go.RowKit Go.Proofs.Qxb6600088a.Plain Go.Proofs.Qxb6600088a.Bytes

theorem ret_int {k : IntKind} {a b : Int} (h : a = b) : Ending.returned (.int k a) = .returned (.int k b) := by rw [h]

/-- 'hexVal' at a digit that the encoder writes -/
theorem hexVal_any (d : Int) (h0 : 0 ≤ d) (h1 : d < 16) (w : World) :
    Calls Try.prog 20 #[.int .u8 (hx d)] w fun e w' => e = .returned (.int .i64 d) ∧ w' = w := by
  by_cases h : d < 10
  · obtain ⟨c, hc⟩ : ∃ c, c = hx d := ⟨_, rfl⟩
    rw [← hc]
    have hd : c = 48 + d := by rw [hc]; unfold hx; rw [if_pos h]
    clear hc
    have g1 : 48 ≤ c := by omega
    have g2 : c ≤ 57 := by omega
    have H : Hid (c = 48 + d) := hd
    clear hd h h0 h1
    go_enter Try.func20, Try.ntmps20
    go_wp2
    go_ret
    exact ⟨ret_int (by rw [H.out]; omega), rfl⟩
  · obtain ⟨c, hc⟩ : ∃ c, c = hx d := ⟨_, rfl⟩
    rw [← hc]
    have hd : c = 87 + d := by rw [hc]; unfold hx; rw [if_neg h]
    clear hc
    have g1 : 97 ≤ c := by omega
    have g2 : c ≤ 102 := by omega
    have H : Hid (c = 87 + d) := hd
    clear hd h h0 h1
    go_enter Try.func20, Try.ntmps20
    go_wp2
    go_ret
    exact ⟨ret_int (by rw [H.out]; omega), rfl⟩

/-- 'appendCodePoint' below 0x80: one byte -/
theorem cp_any (w0 w : World) (v : Value) (xs : List Int) (hown : Own w0 w v xs) (x : Int) (h0 : 0 ≤ x) (h1 : x < 128) (hb : xs.length + 1 ≤ 100000000) :
    Calls Try.prog 21 #[v, .int .i64 x] w fun e w' => ∃ g n cap, e = .returned (.slice (some ⟨g, 0, none⟩) n cap) ∧ Row w0 w' g n cap (xs ++ [x]) := by
  go_enter Try.func21, Try.ntmps21
  go_wp2_with (at_builtin; refine app (by rfl) _ _ (by rfl) w0 w _ xs (by rfl) hown #[.int .u8 x] 1 1 [x] rfl (by rfl) rfl (by decide) hb ?_; intro g n cap w1 hr)
  go_ret
  exact ⟨g, n, cap, rfl, hr⟩

/-- 'bytesEqualString' where the bytes are the string's -/
theorem eq_any (s : ByteArray) (hs : s.size ≤ 1048576) (w : World) (g n cap : Nat) (ht : Tok w g n (str s)) :
    Calls Try.prog 11 #[.slice (some ⟨g, 0, none⟩) n cap, .string s] w fun e w' => e = .returned (.bool true) ∧ Below w.heap.size w w' := by
  have hn : n = s.size := ht.1.trans (str_length s)
  subst hn
  go_enter Try.func11, Try.ntmps11
  go_wp2
  go_loopw [5] (fun i wr => ∃ k : Nat, k ≤ s.size ∧ i = .int .i64 k ∧ Below w.heap.size w wr) (fun i _ => s.size - (intOf i).toNat)
  case atStart => exact ⟨0, Nat.zero_le _, rfl, Below.refl _ _⟩
  case round =>
    obtain ⟨k, hk, rfl, hbel⟩ := hrel
    by_cases hlt : k < s.size
    · have hc : wr.cell? ⟨g, k, none⟩ = some (.int .u8 (s[k].toNat : Int)) := (tok_below ht hbel).2.2 k _ (str_at s k hlt)
      have k0 : (0 : Int) ≤ (k : Int) := by omega
      have k1 : (k : Int) < (s.size : Int) := by omega
      go_wp2
      go_quiet (fail)
      go_wp2
      go_roundw
      case rel => exact ⟨k + 1, by omega, by go_num, below_drewN hbel _⟩
      case measure => simp [intOf]; omega
    · go_wp2
      go_ret
      exact ⟨rfl, hbel⟩

end Go.Proofs.Qxb6600088a.Small
