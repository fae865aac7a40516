/-
  THE PROOF OF 'Rows.FnACRSingleByteSaid' ('example.com/principl/principl/zzlaws_root_b1.FnACRSingleByte'), WRITTEN BY PROGRAM (proof-skeleton.mjs) off the guide's own print for that function.
  Filled: the walk, out of the callees' contracts (Qxb6600094aCalls.lean).
-/
import Derived.Test.Qxb6600094aRows
import Derived.Test.Qxb6600094aCalls
import Derived.WalkKit
import Derived.ProofKit
import Derived.OpenShut
import Derived.ShutString
namespace Go.Proofs.Qxb6600094a.fnACRSingleByte
open Go.ChangeShapes Go.WideShapes Go.ChangeAt Go.RowKit
open Go.ChangeMaps (open_string shut_string)
set_option linter.unusedVariables false      -- a walk need not use every 'w<i>' (that an integer argument fits its kind)

theorem own : ownKnob Try.prog.godebug = none := by kernel_rfl

/-! ### STEP 1: THE WALK: the Go text returns true, out of the callees' contracts: one walk a range of bytes. -/
theorem byte_of (a : Int) (h : (Lit.int .u8 a).wf = true) : ∃ b : UInt8, a = (b.toNat : Int) := by
  have hb := bounds_u8 h
  refine ⟨UInt8.ofNat a.toNat, ?_⟩
  rw [UInt8.toNat_ofNat']
  omega

set_option maxHeartbeats 1000000 in
theorem walk (a0 : Int) (w0 : (Lit.int .u8 a0).wf = true) (w : World) :
    Calls Try.prog 4 #[.int .u8 a0] w fun e w' => e = .returned (.bool true) ∧ Below w.heap.size w w' := by
  obtain ⟨b, hb⟩ := byte_of a0 w0
  clear w0
  have hcv := Callees.back_one b w
  have hz := Callees.zz_one b
  rw [← hb] at hcv hz
  have HZ : Hid (∀ w : World, Calls Try.prog 6 #[.string ⟨#[b]⟩] w fun e w' => e = .returned (.bool (Callees.acrB a0)) ∧ Below w.heap.size w w') := hz
  clear hz hb
  by_cases h1 : a0 ≤ 32
  · have HR : Hid (Callees.acrB a0 = false) := Callees.acr_no a0 (Or.inl h1)
    have b1 : (a0 == 33) = false := beq_eq_false_iff_ne.2 (by omega)
    go_enter Try.func4, Try.ntmps4
    go_wp2_with fail
    refine (Callees.acr_empty _).mono ?_
    rintro e w' ⟨rfl, rfl⟩
    go_wp2_with fail
    refine (HZ.out _).mono ?_
    rintro e w2 ⟨rfl, hbl⟩
    rw [HR.out]
    go_wp2
    go_ret
    exact ⟨rfl, ((Below.refl _ _).alloc (Nat.le_refl _) _).trans (hbl.mono (by simp))⟩
  by_cases h2 : 126 < a0
  · have HR : Hid (Callees.acrB a0 = false) := Callees.acr_no a0 (Or.inr (Or.inl h2))
    have d1 : decide (a0 ≤ 91) = false := decide_eq_false (by omega)
    have d2 : decide (a0 ≤ 126) = false := decide_eq_false (by omega)
    have b1 : (a0 == 33) = false := beq_eq_false_iff_ne.2 (by omega)
    go_enter Try.func4, Try.ntmps4
    go_wp2_with fail
    refine (Callees.acr_empty _).mono ?_
    rintro e w' ⟨rfl, rfl⟩
    go_wp2_with fail
    refine (HZ.out _).mono ?_
    rintro e w2 ⟨rfl, hbl⟩
    rw [HR.out]
    go_wp2
    go_ret
    exact ⟨rfl, ((Below.refl _ _).alloc (Nat.le_refl _) _).trans (hbl.mono (by simp))⟩
  by_cases h33 : a0 = 33
  · subst h33
    have HR : Hid (Callees.acrB 33 = true) := (by decide : Callees.acrB 33 = true)
    clear h1 h2
    go_enter Try.func4, Try.ntmps4
    go_wp2_with fail
    refine (Callees.acr_empty _).mono ?_
    rintro e w' ⟨rfl, rfl⟩
    go_wp2_with fail
    refine (HZ.out _).mono ?_
    rintro e w2 ⟨rfl, hbl⟩
    rw [HR.out]
    go_wp2
    go_ret
    exact ⟨rfl, ((Below.refl _ _).alloc (Nat.le_refl _) _).trans (hbl.mono (by simp))⟩
  by_cases h34 : a0 = 34
  · subst h34
    have HR : Hid (Callees.acrB 34 = false) := (by decide : Callees.acrB 34 = false)
    clear h1 h2
    go_enter Try.func4, Try.ntmps4
    go_wp2_with fail
    refine (Callees.acr_empty _).mono ?_
    rintro e w' ⟨rfl, rfl⟩
    go_wp2_with fail
    refine (HZ.out _).mono ?_
    rintro e w2 ⟨rfl, hbl⟩
    rw [HR.out]
    go_wp2
    go_ret
    exact ⟨rfl, ((Below.refl _ _).alloc (Nat.le_refl _) _).trans (hbl.mono (by simp))⟩
  by_cases h92 : a0 = 92
  · subst h92
    have HR : Hid (Callees.acrB 92 = false) := (by decide : Callees.acrB 92 = false)
    clear h1 h2
    go_enter Try.func4, Try.ntmps4
    go_wp2_with fail
    refine (Callees.acr_empty _).mono ?_
    rintro e w' ⟨rfl, rfl⟩
    go_wp2_with fail
    refine (HZ.out _).mono ?_
    rintro e w2 ⟨rfl, hbl⟩
    rw [HR.out]
    go_wp2
    go_ret
    exact ⟨rfl, ((Below.refl _ _).alloc (Nat.le_refl _) _).trans (hbl.mono (by simp))⟩
  have HR : Hid (Callees.acrB a0 = true) := Callees.acr_yes a0 h1 h2 h34 h92
  have b1 : (a0 == 33) = false := beq_eq_false_iff_ne.2 h33
  by_cases h91 : a0 ≤ 91
  · have h35 : 35 ≤ a0 := by omega
    clear h33 h34 h92
    go_enter Try.func4, Try.ntmps4
    go_wp2_with fail
    refine (Callees.acr_empty _).mono ?_
    rintro e w' ⟨rfl, rfl⟩
    go_wp2_with fail
    refine (HZ.out _).mono ?_
    rintro e w2 ⟨rfl, hbl⟩
    rw [HR.out]
    go_wp2
    go_ret
    exact ⟨rfl, ((Below.refl _ _).alloc (Nat.le_refl _) _).trans (hbl.mono (by simp))⟩
  · have h93 : 93 ≤ a0 := by omega
    clear h33 h34 h92
    go_enter Try.func4, Try.ntmps4
    go_wp2_with fail
    refine (Callees.acr_empty _).mono ?_
    rintro e w' ⟨rfl, rfl⟩
    go_wp2_with fail
    refine (HZ.out _).mono ?_
    rintro e w2 ⟨rfl, hbl⟩
    rw [HR.out]
    go_wp2
    go_ret
    exact ⟨rfl, ((Below.refl _ _).alloc (Nat.le_refl _) _).trans (hbl.mono (by simp))⟩

/-! ### THE ROW's STEP: WRITTEN OUT: LEAVE IT -/
set_option maxRecDepth 100000 in
theorem lifted (os : Os) (started : os.Started) (H : Type) (enc : TypeId × Value → H) :
    ReturnsInHanded {} Try.checked os 4 .any (Rows.fnACRSingleByteSpec.pre6 enc Try.prog Try.f4 Rows.fnACRSingleByteRow.domain false) (Rows.fnACRSingleByteSpec.post enc Try.prog Try.f4 false true false false) := by
  refine returnsInHanded_of_change (C := Try.checked) own started (by kernel_rfl) Try.func4
    (ChangeSpec.witness6 (enc := enc) (C := Try.checked) false ⟨#[], #[.int .u8 0], []⟩ 8 (by kernel_rfl) (by kernel_rfl) (by kernel_rfl) (by kernel_rfl)) ?_
  intro W base args ds gs before hval0 hW hcnd _
  have hval : ∀ (j : Nat) t v, Try.f4.params[j]? = some t → args[j]? = some v → Value.okWide Try.prog W .any base t v := hval0
  have hW' := hW
  obtain ⟨p, q, hA0, hV, rfl, hfz, hnd⟩ := hW
  have hA : DataW.TrodAll enc Try.prog W 0 (fun _ => true) true Try.f4.params.toList args.toList ds p := hA0
  rw [Try.params4] at hA hval
  obtain ⟨v0, vs0, d0, ds0, p0, q0, hargs, rfl, rfl, h0, r0⟩ := trodAll_cons hA
  obtain ⟨rfl, rfl, rfl⟩ := trodAll_nil r0
  obtain rfl : args = #[v0] := by cases args; simp_all
  obtain ⟨rfl, rfl⟩ := trodVars_none hV
  obtain ⟨a0, rfl, rfl, rfl, w0⟩ := open_int Try.underlying5 (hval 0 5 v0 rfl rfl) h0
  clear hA0 hval0
  simp only [List.append_nil] at hW'
  refine (walk a0 w0 W).mono fun e W' ⟨he, hg⟩ => ?_
  subst he
  exact ⟨_, rfl, _, _, _, [], [], [], hW', trodAll_cons_mk (shut_bool Try.underlying4 _) trodAll_mk0, trodAll_cons_mk (shut_int Try.underlying5 w0) trodAll_mk0, rfl, hg.frame _, fun h => by cases h⟩

theorem over : Rows.fnACRSingleByteRow.holds Try.pinned (OpenSpec.ofChange Rows.fnACRSingleByteSpec) :=
  OpenClaim.holds_of_wide 4 Try.f4 rfl rfl rfl rfl rfl rfl rfl ⟨rfl, rfl, rfl, rfl, rfl⟩ rfl rfl rfl rfl rfl (by kernel_rfl) Try.func4 (by kernel_rfl)
    (of_decide_eq_true (by kernel_rfl)) (by unfold Func.isWrapper; first | (rw [if_pos (by decide +kernel)]; kernel_rfl) | (rw [if_neg (by decide +kernel)]; exact ⟨rfl, rfl⟩))
    (fun os started H enc _ => lifted os started H enc)

/-- ████ THE STATEMENT ████ -/
theorem proved : Rows.FnACRSingleByteSaid :=
  over
end Go.Proofs.Qxb6600094a.fnACRSingleByte
