/-
  THE PROOF OF 'Rows.FnAppendJSONStringRoundTripSaid' ('example.com/tidemark/tidemark/zzlaws_root_b1.FnAppendJSONStringRoundTrip'), WRITTEN BY PROGRAM (proof-skeleton.mjs) off the guide's own print for that function.
  Filled: the walk, out of the callees' contracts (Qxb6600088aEnc.lean, Qxb6600088aSmall.lean, Qxb6600088aDec.lean).
-/
import Derived.Test.Qxb6600088aRows
import Derived.Test.Qxb6600088aEnc
import Derived.Test.Qxb6600088aDec
import Derived.WalkKit
import Derived.ProofKit
import Derived.OpenShut
import Derived.ShutString
namespace Go.Proofs.Qxb6600088a.fnAppendJSONStringRoundTrip
open Go.ChangeShapes Go.WideShapes Go.ChangeAt Go.RowKit
open Go.ChangeMaps (open_string shut_string)
open Go.Proofs.Qxb6600088a.Plain Go.Proofs.Qxb6600088a.Bytes
set_option linter.unusedVariables false      -- a walk need not use every 'w<i>' (that an integer argument fits its kind)

theorem own : ownKnob Try.prog.godebug = none := by kernel_rfl

/-! ### STEP 1: THE WALK: the Go text returns true, out of the callees' contracts. -/
/-- 'zzBytes_..': is the string at most 1<<20 bytes? -/
theorem bytes_any (s : ByteArray) (hs : s.size ≤ maxLen) (w : World) :
    Calls Try.prog 8 #[.string s] w fun e w' => e = .returned (.bool (decide (s.size ≤ 1048576))) ∧ w' = w := by
  unfold maxLen at hs
  by_cases h : s.size ≤ 1048576
  · rw [decide_eq_true h]
    go_enter Try.func8, Try.ntmps8
    go_wp2
    go_ret
    exact ⟨rfl, rfl⟩
  · rw [decide_eq_false h]
    go_enter Try.func8, Try.ntmps8
    go_wp2
    go_ret
    exact ⟨rfl, rfl⟩

set_option maxHeartbeats 1000000 in
theorem walk (a0 : ByteArray) (w0 : a0.size ≤ maxLen) (w : World) :
    Calls Try.prog 3 #[.string a0] w fun e w' => e = .returned (.bool true) ∧ Below w.heap.size w w' := by
  by_cases h : a0.size ≤ 1048576
  · have hb : decide (a0.size ≤ 1048576) = true := decide_eq_true h
    go_enter Try.func3, Try.ntmps3
    go_wp2_with (first | (go_at_call 8; refine (bytes_any _ w0 _).mono ?_; rintro e w' ⟨rfl, rfl⟩) | (go_at_call 9; refine (Enc.zzenc_any a0 h _).mono ?_; rintro e w2 ⟨g, n, cap, rfl, hr⟩) | (go_at_call 10; refine (Dec.dec_any a0 h _ _ _ _ (tok_of_row hr)).mono ?_; rintro e w3 ⟨g3, n3, cap3, rfl, hr3⟩) | (go_at_call 11; refine (Small.eq_any a0 h _ _ _ _ (tok_of_row hr3)).mono ?_; rintro e w4 ⟨rfl, hb4⟩))
    go_ret
    have h2 := hr.2.2
    have h3 := hr3.2.2
    exact ⟨rfl, (h2.trans (h3.mono h2.size)).trans (hb4.mono (Nat.le_trans h2.size h3.size))⟩
  · have hb : decide (a0.size ≤ 1048576) = false := decide_eq_false h
    go_enter Try.func3, Try.ntmps3
    go_wp2_with (go_at_call 8; refine (bytes_any _ w0 _).mono ?_; rintro e w' ⟨rfl, rfl⟩)
    go_ret
    exact ⟨rfl, Below.refl _ _⟩

/-! ### THE ROW's STEP: WRITTEN OUT: LEAVE IT -/
set_option maxRecDepth 100000 in
theorem lifted (os : Os) (started : os.Started) (H : Type) (enc : TypeId × Value → H) :
    ReturnsInHanded {} Try.checked os 3 .any (Rows.fnAppendJSONStringRoundTripSpec.pre6 enc Try.prog Try.f3 Rows.fnAppendJSONStringRoundTripRow.domain false) (Rows.fnAppendJSONStringRoundTripSpec.post enc Try.prog Try.f3 false true false false) := by
  refine returnsInHanded_of_change (C := Try.checked) own started (by kernel_rfl) Try.func3
    (ChangeSpec.witness6 (enc := enc) (C := Try.checked) false ⟨#[], #[.string ByteArray.empty], []⟩ 8 (by kernel_rfl) (by kernel_rfl) (by kernel_rfl) (by kernel_rfl)) ?_
  intro W base args ds gs before hval0 hW hcnd _
  have hval : ∀ (j : Nat) t v, Try.f3.params[j]? = some t → args[j]? = some v → Value.okWide Try.prog W .any base t v := hval0
  have hW' := hW
  obtain ⟨p, q, hA0, hV, rfl, hfz, hnd⟩ := hW
  have hA : DataW.TrodAll enc Try.prog W 0 (fun _ => true) true Try.f3.params.toList args.toList ds p := hA0
  rw [Try.params3] at hA hval
  obtain ⟨v0, vs0, d0, ds0, p0, q0, hargs, rfl, rfl, h0, r0⟩ := trodAll_cons hA
  obtain ⟨rfl, rfl, rfl⟩ := trodAll_nil r0
  obtain rfl : args = #[v0] := by cases args; simp_all
  obtain ⟨rfl, rfl⟩ := trodVars_none hV
  obtain ⟨a0, rfl, rfl, rfl, w0⟩ := open_string Try.underlying9 (hval 0 9 v0 rfl rfl) h0
  clear hA0 hval0
  simp only [List.append_nil] at hW'
  refine (walk a0 w0 W).mono fun e W' ⟨he, hg⟩ => ?_
  subst he
  exact ⟨_, rfl, _, _, _, [], [], [], hW', trodAll_cons_mk (shut_bool Try.underlying4 _) trodAll_mk0, trodAll_cons_mk (shut_string Try.underlying9 w0) trodAll_mk0, rfl, hg.frame _, fun h => by cases h⟩

theorem over : Rows.fnAppendJSONStringRoundTripRow.holds Try.pinned (OpenSpec.ofChange Rows.fnAppendJSONStringRoundTripSpec) :=
  OpenClaim.holds_of_wide 3 Try.f3 rfl rfl rfl rfl rfl rfl rfl ⟨rfl, rfl, rfl, rfl, rfl⟩ rfl rfl rfl rfl rfl (by kernel_rfl) Try.func3 (by kernel_rfl)
    (of_decide_eq_true (by kernel_rfl)) (by unfold Func.isWrapper; first | (rw [if_pos (by decide +kernel)]; kernel_rfl) | (rw [if_neg (by decide +kernel)]; exact ⟨rfl, rfl⟩))
    (fun os started H enc _ => lifted os started H enc)

/-- ████ THE STATEMENT ████ -/
theorem proved : Rows.FnAppendJSONStringRoundTripSaid :=
  over
end Go.Proofs.Qxb6600088a.fnAppendJSONStringRoundTrip
