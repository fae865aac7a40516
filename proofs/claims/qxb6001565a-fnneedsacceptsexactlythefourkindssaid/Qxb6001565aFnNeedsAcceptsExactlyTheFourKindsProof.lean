/-
  THE PROOF OF 'Rows.FnNeedsAcceptsExactlyTheFourKindsSaid' ('example.com/vestline/vestline/zzlaws_root_b1.FnNeedsAcceptsExactlyTheFourKinds'), WRITTEN BY PROGRAM (proof-skeleton.mjs) off the guide's own print for that function.
  Filled: the walk, out of the callees' contracts (Qxb6001565aCalls.lean).
-/
import Derived.Test.Qxb6001565aRows
import Derived.Test.Qxb6001565aCalls
import Derived.WalkKit
import Derived.ProofKit
import Derived.OpenShut
import Derived.ShutString
namespace Go.Proofs.Qxb6001565a.fnNeedsAcceptsExactlyTheFourKinds
open Go.ChangeShapes Go.WideShapes Go.ChangeAt Go.RowKit
open Go.ChangeMaps (open_string shut_string)
set_option linter.unusedVariables false      -- a walk need not use every 'w<i>' (that an integer argument fits its kind)

theorem own : ownKnob Try.prog.godebug = none := by kernel_rfl

/-! ### STEP 1: THE WALK: the Go text returns true, out of the callees' contracts: one walk a kind. -/
/-- one key: the world behind 'needs' holds one string, which 'isValueKey' takes -/
theorem walk_one (a0 : ByteArray) (w0 : a0.size ≤ maxLen) (hb : decide (a0.size ≤ 1048576) = true) (key : ByteArray)
    (hn : ∀ w : World, Calls Try.prog 7 #[.string a0] w fun e w' => e = .returned (.slice (some ⟨w.heap.size, 0, none⟩) 1 1) ∧ w' = w.alloc (.cells #[.string key] 9))
    (hk : ∀ w : World, Calls Try.prog 8 #[.string a0] w fun e w' => e = .returned (.bool true) ∧ w' = w)
    (hv : ∀ w : World, Calls Try.prog 9 #[.string key] w fun e w' => e = .returned (.bool true) ∧ w' = w) (w : World) :
    Calls Try.prog 3 #[.string a0] w fun e w' => e = .returned (.bool true) ∧ Grown w w' := by
  have Hn : Hid (∀ w : World, Calls Try.prog 7 #[.string a0] w fun e w' => e = .returned (.slice (some ⟨w.heap.size, 0, none⟩) 1 1) ∧ w' = w.alloc (.cells #[.string key] 9)) := hn
  have Hk : Hid (∀ w : World, Calls Try.prog 8 #[.string a0] w fun e w' => e = .returned (.bool true) ∧ w' = w) := hk
  have Hv : Hid (∀ w : World, Calls Try.prog 9 #[.string key] w fun e w' => e = .returned (.bool true) ∧ w' = w) := hv
  clear hn hk hv
  have hsz : a0.size ≤ 1048576 := of_decide_eq_true hb
  go_enter Try.func3, Try.ntmps3
  go_wp2_with (first | (go_at_call 6; refine (Callees.bytes_any _ w0 _).mono ?_; rintro e w' ⟨rfl, rfl⟩) | (go_at_call 7; refine (Hn.out _).mono ?_; rintro e w' ⟨rfl, rfl⟩) | (go_at_call 8; refine (Hk.out _).mono ?_; rintro e w' ⟨rfl, rfl⟩))
  go_loop [5] (fun i => ∃ k : Nat, k ≤ 1 ∧ i = .int .i64 k) (fun i => 1 - (intOf i).toNat)
  case atStart => exact ⟨0, by omega, rfl⟩
  case round =>
    obtain ⟨k, hk, rfl⟩ := hrel
    by_cases hz : k = 0
    · subst hz
      go_wp2_with (go_at_call 9; refine (Hv.out _).mono ?_; rintro e w' ⟨rfl, rfl⟩)
      go_round
      case rel => exact ⟨1, by omega, by go_num⟩
      case measure => simp [intOf]
    · have h1 : k = 1 := by omega
      subst h1
      go_wp2
      go_ret
      exact ⟨rfl, (Grown.refl _).alloc _ _⟩

/-- three keys -/
theorem walk_three (a0 : ByteArray) (w0 : a0.size ≤ maxLen) (hb : decide (a0.size ≤ 1048576) = true)
    (hn : ∀ w : World, Calls Try.prog 7 #[.string a0] w fun e w' => e = .returned (.slice (some ⟨w.heap.size, 0, none⟩) 3 3) ∧ w' = w.alloc (.cells #[.string ⟨#[110]⟩, .string ⟨#[112, 49]⟩, .string ⟨#[112, 50]⟩] 9))
    (hk : ∀ w : World, Calls Try.prog 8 #[.string a0] w fun e w' => e = .returned (.bool true) ∧ w' = w) (w : World) :
    Calls Try.prog 3 #[.string a0] w fun e w' => e = .returned (.bool true) ∧ Grown w w' := by
  have Hn : Hid (∀ w : World, Calls Try.prog 7 #[.string a0] w fun e w' => e = .returned (.slice (some ⟨w.heap.size, 0, none⟩) 3 3) ∧ w' = w.alloc (.cells #[.string ⟨#[110]⟩, .string ⟨#[112, 49]⟩, .string ⟨#[112, 50]⟩] 9)) := hn
  have Hk : Hid (∀ w : World, Calls Try.prog 8 #[.string a0] w fun e w' => e = .returned (.bool true) ∧ w' = w) := hk
  clear hn hk
  have hsz : a0.size ≤ 1048576 := of_decide_eq_true hb
  go_enter Try.func3, Try.ntmps3
  go_wp2_with (first | (go_at_call 6; refine (Callees.bytes_any _ w0 _).mono ?_; rintro e w' ⟨rfl, rfl⟩) | (go_at_call 7; refine (Hn.out _).mono ?_; rintro e w' ⟨rfl, rfl⟩) | (go_at_call 8; refine (Hk.out _).mono ?_; rintro e w' ⟨rfl, rfl⟩))
  go_loop [5] (fun i => ∃ k : Nat, k ≤ 3 ∧ i = .int .i64 k) (fun i => 3 - (intOf i).toNat)
  case atStart => exact ⟨0, by omega, rfl⟩
  case round =>
    obtain ⟨k, hk, rfl⟩ := hrel
    have h4 : k = 0 ∨ k = 1 ∨ k = 2 ∨ k = 3 := by omega
    rcases h4 with rfl | rfl | rfl | rfl
    · go_wp2_with (go_at_call 9; refine (Callees.key_n _).mono ?_; rintro e w' ⟨rfl, rfl⟩)
      go_round
      case rel => exact ⟨1, by omega, by go_num⟩
      case measure => simp [intOf]
    · go_wp2_with (go_at_call 9; refine (Callees.key_p1 _).mono ?_; rintro e w' ⟨rfl, rfl⟩)
      go_round
      case rel => exact ⟨2, by omega, by go_num⟩
      case measure => simp [intOf]
    · go_wp2_with (go_at_call 9; refine (Callees.key_p2 _).mono ?_; rintro e w' ⟨rfl, rfl⟩)
      go_round
      case rel => exact ⟨3, by omega, by go_num⟩
      case measure => simp [intOf]
    · go_wp2
      go_ret
      exact ⟨rfl, (Grown.refl _).alloc _ _⟩

/-- no key: the kind is unknown -/
theorem walk_none (a0 : ByteArray) (w0 : a0.size ≤ maxLen) (hb : decide (a0.size ≤ 1048576) = true)
    (hn : ∀ w : World, Calls Try.prog 7 #[.string a0] w fun e w' => e = .returned (.slice none 0 0) ∧ w' = w)
    (hk : ∀ w : World, Calls Try.prog 8 #[.string a0] w fun e w' => e = .returned (.bool false) ∧ w' = w) (w : World) :
    Calls Try.prog 3 #[.string a0] w fun e w' => e = .returned (.bool true) ∧ Grown w w' := by
  have Hn : Hid (∀ w : World, Calls Try.prog 7 #[.string a0] w fun e w' => e = .returned (.slice none 0 0) ∧ w' = w) := hn
  have Hk : Hid (∀ w : World, Calls Try.prog 8 #[.string a0] w fun e w' => e = .returned (.bool false) ∧ w' = w) := hk
  clear hn hk
  have hsz : a0.size ≤ 1048576 := of_decide_eq_true hb
  go_enter Try.func3, Try.ntmps3
  go_wp2_with (first | (go_at_call 6; refine (Callees.bytes_any _ w0 _).mono ?_; rintro e w' ⟨rfl, rfl⟩) | (go_at_call 7; refine (Hn.out _).mono ?_; rintro e w' ⟨rfl, rfl⟩) | (go_at_call 8; refine (Hk.out _).mono ?_; rintro e w' ⟨rfl, rfl⟩))
  go_loop [5] (fun i => i = .int .i64 0) (fun _ => 0)
  case atStart => exact rfl
  case round =>
    subst hrel
    go_wp2
    go_ret
    exact ⟨rfl, Grown.refl _⟩

theorem walk (a0 : ByteArray) (w0 : a0.size ≤ maxLen) (w : World) :
    Calls Try.prog 3 #[.string a0] w fun e w' => e = .returned (.bool true) ∧ Grown w w' := by
  by_cases h : a0.size ≤ 1048576
  · have hb : decide (a0.size ≤ 1048576) = true := decide_eq_true h
    cases h1 : (a0.toList == [98, 111, 110, 117, 115])
    · cases h2 : (a0.toList == [99, 111, 110, 115, 111, 108, 105, 100, 97, 116, 105, 111, 110])
      · cases h3 : (a0.toList == [114, 105, 103, 104, 116, 115])
        · cases h4 : (a0.toList == [100, 105, 118, 105, 100, 101, 110, 100])
          · exact walk_none a0 w0 hb (Callees.needs_none a0 h1 h2 h3 h4) (Callees.known_no a0 (by simp only [Callees.knownB, h1, h2, h3, h4]; rfl)) w
          · exact walk_one a0 w0 hb _ (Callees.needs_dividend a0 h1 h2 h3 h4) (Callees.known_yes a0 (by simp only [Callees.knownB, h1, h2, h3, h4]; rfl)) Callees.key_v w
        · exact walk_three a0 w0 hb (Callees.needs_rights a0 h1 h2 h3) (Callees.known_yes a0 (by simp only [Callees.knownB, h1, h2, h3]; rfl)) w
      · exact walk_one a0 w0 hb _ (Callees.needs_cons a0 h1 h2) (Callees.known_yes a0 (by simp only [Callees.knownB, h1, h2]; rfl)) Callees.key_n w
    · exact walk_one a0 w0 hb _ (Callees.needs_bonus a0 h1) (Callees.known_yes a0 (by simp only [Callees.knownB, h1]; rfl)) Callees.key_n w
  · have hb : decide (a0.size ≤ 1048576) = false := decide_eq_false h
    go_enter Try.func3, Try.ntmps3
    go_wp2_with (go_at_call 6; refine (Callees.bytes_any _ w0 _).mono ?_; rintro e w' ⟨rfl, rfl⟩)
    go_ret
    exact ⟨rfl, Grown.refl _⟩

/-! ### THE ROW's STEP: WRITTEN OUT: LEAVE IT -/
set_option maxRecDepth 100000 in
theorem lifted (os : Os) (started : os.Started) (H : Type) (enc : TypeId × Value → H) :
    ReturnsInHanded {} Try.checked os 3 .any (Rows.fnNeedsAcceptsExactlyTheFourKindsSpec.pre6 enc Try.prog Try.f3 Rows.fnNeedsAcceptsExactlyTheFourKindsRow.domain false) (Rows.fnNeedsAcceptsExactlyTheFourKindsSpec.post enc Try.prog Try.f3 false true false false) := by
  refine returnsInHanded_of_change (C := Try.checked) own started (by kernel_rfl) Try.func3
    (ChangeSpec.witness6 (enc := enc) (C := Try.checked) false ⟨#[], #[.string ByteArray.empty], []⟩ 8 (by kernel_rfl) (by kernel_rfl) (by kernel_rfl) (by kernel_rfl)) ?_
  intro W base args ds gs before hval0 hW hcnd _
  have hval : ∀ (j : Nat) t v, Try.f3.params[j]? = some t → args[j]? = some v → Value.okWide Try.prog W .any base t v := hval0
  have hW' := hW
  obtain ⟨p, q, hA0, hV, rfl, hfz, hnd⟩ := hW
  have hA : DataW.TrodAll enc Try.prog W 0 (fun _ => true) true Try.f3.params.toList args.toList ds p := hA0
  rw [Try.params3] at hA hval
  obtain ⟨v0, vs0, d0, ds0, p0, q0, hargs, rfl, rfl, h0, r0⟩ := trodAll_cons hA
  obtain ⟨rfl, rfl, rfl⟩ := trodAll_nil r0
  obtain rfl : args = #[v0] := by cases args; simp_all
  obtain ⟨rfl, rfl⟩ := trodVars_none hV
  obtain ⟨a0, rfl, rfl, rfl, w0⟩ := open_string Try.underlying9 (hval 0 9 v0 rfl rfl) h0
  clear hA0 hval0
  simp only [List.append_nil] at hW'
  refine (walk a0 w0 W).mono fun e W' ⟨he, hg⟩ => ?_
  subst he
  exact ⟨_, rfl, post_of_same (pa := []) (pv := []) hW' (fun _ _ _ => (trodAll_cons_mk (shut_bool Try.underlying4 _) trodAll_mk0)) (fun sp _ => (trodAll_cons_mk (shut_string Try.underlying9 w0) trodAll_mk0)) (fun _ _ => rfl) rfl
    (hg.frame _) hg.2.1 (ok_one (by kernel_rfl) rfl (okWide_bool_mk Try.underlying4 _))⟩

theorem over : Rows.fnNeedsAcceptsExactlyTheFourKindsRow.holds Try.pinned (OpenSpec.ofChange Rows.fnNeedsAcceptsExactlyTheFourKindsSpec) :=
  OpenClaim.holds_of_wide 3 Try.f3 rfl rfl rfl rfl rfl rfl rfl ⟨rfl, rfl, rfl, rfl, rfl⟩ rfl rfl rfl rfl rfl (by kernel_rfl) Try.func3 (by kernel_rfl)
    (of_decide_eq_true (by kernel_rfl)) (by unfold Func.isWrapper; first | (rw [if_pos (by decide +kernel)]; kernel_rfl) | (rw [if_neg (by decide +kernel)]; exact ⟨rfl, rfl⟩))
    (fun os started H enc _ => lifted os started H enc)

/-- ████ THE STATEMENT ████ -/
theorem proved : Rows.FnNeedsAcceptsExactlyTheFourKindsSaid :=
  over
end Go.Proofs.Qxb6001565a.fnNeedsAcceptsExactlyTheFourKinds
