/-
  THE PROOF OF 'Rows.FnAppendJSONStringLengthBoundsSaid' ('example.com/tidemark/tidemark/zzlaws_root_b1.FnAppendJSONStringLengthBounds'), WRITTEN BY PROGRAM (proof-skeleton.mjs) off the guide's own print for that function.
  Filled: the walk, out of the callees' contracts (Qxb6600088aEnc.lean).
-/
import Derived.Test.Qxb6600088aRows
import Derived.Test.Qxb6600088aEnc
import Derived.WalkKit
import Derived.ProofKit
import Derived.OpenShut
import Derived.ShutString
namespace Go.Proofs.Qxb6600088a.fnAppendJSONStringLengthBounds
open Go.ChangeShapes Go.WideShapes Go.ChangeAt Go.RowKit
open Go.ChangeMaps (open_string shut_string)
open Go.Proofs.Qxb6600088a.Plain
set_option linter.unusedVariables false      -- a walk need not use every 'w<i>' (that an integer argument fits its kind)

theorem own : ownKnob Try.prog.godebug = none := by kernel_rfl

/-! ### STEP 1: THE WALK: the Go text returns true, out of the callees' contracts. -/
theorem ret_bool {a b : Bool} (h : a = b) : Ending.returned (.bool a) = .returned (.bool b) := by rw [h]

/-- 'zzBytes_..': is the string at most 1<<20 bytes? -/
theorem bytes_any (s : ByteArray) (hs : s.size ≤ maxLen) (w : World) :
    Calls Try.prog 14 #[.string s] w fun e w' => e = .returned (.bool (decide (s.size ≤ 1048576))) ∧ w' = w := by
  unfold maxLen at hs
  by_cases h : s.size ≤ 1048576
  · rw [decide_eq_true h]
    go_enter Try.func14, Try.ntmps14
    go_wp2
    go_ret
    exact ⟨rfl, rfl⟩
  · rw [decide_eq_false h]
    go_enter Try.func14, Try.ntmps14
    go_wp2
    go_ret
    exact ⟨rfl, rfl⟩

set_option maxHeartbeats 1000000 in
theorem walk (a0 : ByteArray) (w0 : a0.size ≤ maxLen) (w : World) :
    Calls Try.prog 5 #[.string a0] w fun e w' => e = .returned (.bool true) ∧ Below w.heap.size w w' := by
  by_cases h : a0.size ≤ 1048576
  · have hb : decide (a0.size ≤ 1048576) = true := decide_eq_true h
    go_enter Try.func5, Try.ntmps5
    go_wp2_with (first | (go_at_call 14; refine (bytes_any _ w0 _).mono ?_; rintro e w' ⟨rfl, rfl⟩) | (go_at_call 9; refine (Enc.zzenc_any a0 h _).mono ?_; rintro e w2 ⟨g, n, cap, rfl, hr⟩; have hn1 : a0.size + 2 ≤ n := hr.1 ▸ (tok_len a0).1; have hn2 : n ≤ 6 * a0.size + 2 := hr.1 ▸ (tok_len a0).2))
    go_loop [4, 5] (fun p i => ∃ k : Nat, k ≤ a0.size ∧ i = .int .i64 k ∧ p = .bool (pl a0 k)) (fun _ i => a0.size - (intOf i).toNat)
    case atStart => exact ⟨0, Nat.zero_le _, rfl, rfl⟩
    case round =>
      obtain ⟨k, hk, rfl, rfl⟩ := hrel
      by_cases hlt : k < a0.size
      · have HP : Hid (pl a0 (k + 1) = (pl a0 k && plainB (a0[k].toNat : Int))) := pl_succ a0 k hlt
        by_cases h32 : (a0[k].toNat : Int) < 32
        · have HN : Hid (pl a0 (k + 1) = false) := by rw [plain_no _ (Or.inl h32), Bool.and_false] at HP; exact HP
          clear HP
          go_wp2
          go_round
          case rel => exact ⟨k + 1, by omega, by go_num, by rw [HN.out]⟩
          case measure => simp [intOf]; omega
        by_cases h34 : (a0[k].toNat : Int) = 34
        · have HN : Hid (pl a0 (k + 1) = false) := by rw [plain_no _ (Or.inr (Or.inl h34)), Bool.and_false] at HP; exact HP
          clear HP
          go_wp2
          go_round
          case rel => exact ⟨k + 1, by omega, by go_num, by rw [HN.out]⟩
          case measure => simp [intOf]; omega
        by_cases h92 : (a0[k].toNat : Int) = 92
        · have HN : Hid (pl a0 (k + 1) = false) := by rw [plain_no _ (Or.inr (Or.inr h92)), Bool.and_false] at HP; exact HP
          clear HP
          go_wp2
          go_round
          case rel => exact ⟨k + 1, by omega, by go_num, by rw [HN.out]⟩
          case measure => simp [intOf]; omega
        have HN : Hid (pl a0 (k + 1) = pl a0 k) := by rw [plain_yes _ h32 h34 h92, Bool.and_true] at HP; exact HP
        have b34 : ((a0[k].toNat : Int) == 34) = false := beq_eq_false_iff_ne.2 h34
        have b92 : ((a0[k].toNat : Int) == 92) = false := beq_eq_false_iff_ne.2 h92
        clear HP h34 h92
        go_wp2
        go_round
        case rel => exact ⟨k + 1, by omega, by go_num, by rw [HN.out]⟩
        case measure => simp [intOf]; omega
      · go_wp2
        go_ret
        have hks : k = a0.size := by omega
        subst hks
        refine ⟨ret_bool ?_, hr.2.2⟩
        rw [tok_plain a0 n hr.1]
        simp
  · have hb : decide (a0.size ≤ 1048576) = false := decide_eq_false h
    go_enter Try.func5, Try.ntmps5
    go_wp2_with (go_at_call 14; refine (bytes_any _ w0 _).mono ?_; rintro e w' ⟨rfl, rfl⟩)
    go_ret
    exact ⟨rfl, Below.refl _ _⟩

/-! ### THE ROW's STEP: WRITTEN OUT: LEAVE IT -/
set_option maxRecDepth 100000 in
theorem lifted (os : Os) (started : os.Started) (H : Type) (enc : TypeId × Value → H) :
    ReturnsInHanded {} Try.checked os 5 .any (Rows.fnAppendJSONStringLengthBoundsSpec.pre6 enc Try.prog Try.f5 Rows.fnAppendJSONStringLengthBoundsRow.domain false) (Rows.fnAppendJSONStringLengthBoundsSpec.post enc Try.prog Try.f5 false true false false) := by
  refine returnsInHanded_of_change (C := Try.checked) own started (by kernel_rfl) Try.func5
    (ChangeSpec.witness6 (enc := enc) (C := Try.checked) false ⟨#[], #[.string ByteArray.empty], []⟩ 8 (by kernel_rfl) (by kernel_rfl) (by kernel_rfl) (by kernel_rfl)) ?_
  intro W base args ds gs before hval0 hW hcnd _
  have hval : ∀ (j : Nat) t v, Try.f5.params[j]? = some t → args[j]? = some v → Value.okWide Try.prog W .any base t v := hval0
  have hW' := hW
  obtain ⟨p, q, hA0, hV, rfl, hfz, hnd⟩ := hW
  have hA : DataW.TrodAll enc Try.prog W 0 (fun _ => true) true Try.f5.params.toList args.toList ds p := hA0
  rw [Try.params5] at hA hval
  obtain ⟨v0, vs0, d0, ds0, p0, q0, hargs, rfl, rfl, h0, r0⟩ := trodAll_cons hA
  obtain ⟨rfl, rfl, rfl⟩ := trodAll_nil r0
  obtain rfl : args = #[v0] := by cases args; simp_all
  obtain ⟨rfl, rfl⟩ := trodVars_none hV
  obtain ⟨a0, rfl, rfl, rfl, w0⟩ := open_string Try.underlying9 (hval 0 9 v0 rfl rfl) h0
  clear hA0 hval0
  simp only [List.append_nil] at hW'
  refine (walk a0 w0 W).mono fun e W' ⟨he, hg⟩ => ?_
  subst he
  exact ⟨_, rfl, _, _, _, [], [], [], hW', trodAll_cons_mk (shut_bool Try.underlying4 _) trodAll_mk0, trodAll_cons_mk (shut_string Try.underlying9 w0) trodAll_mk0, rfl, hg.frame _, fun h => by cases h⟩

theorem over : Rows.fnAppendJSONStringLengthBoundsRow.holds Try.pinned (OpenSpec.ofChange Rows.fnAppendJSONStringLengthBoundsSpec) :=
  OpenClaim.holds_of_wide 5 Try.f5 rfl rfl rfl rfl rfl rfl rfl ⟨rfl, rfl, rfl, rfl, rfl⟩ rfl rfl rfl rfl rfl (by kernel_rfl) Try.func5 (by kernel_rfl)
    (of_decide_eq_true (by kernel_rfl)) (by unfold Func.isWrapper; first | (rw [if_pos (by decide +kernel)]; kernel_rfl) | (rw [if_neg (by decide +kernel)]; exact ⟨rfl, rfl⟩))
    (fun os started H enc _ => lifted os started H enc)

/-- ████ THE STATEMENT ████ -/
theorem proved : Rows.FnAppendJSONStringLengthBoundsSaid :=
  over
end Go.Proofs.Qxb6600088a.fnAppendJSONStringLengthBounds
