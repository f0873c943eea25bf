/-
  The proof of 'Rows.FnQuotedEndsAtFirstUnescapedQuoteSaid': the frame is the kit's template, written by its program; the walk is ours.
-/
import Derived.Test.Qxb6619429aRows
import Derived.Test.Qxb6619429aWalkp
import Derived.WalkKit
import Derived.ProofKit
import Derived.OpenShut
import Derived.ShutString
namespace Go.Proofs.Qxb6619429a.fnQuotedEndsAtFirstUnescapedQuote
open Go.ChangeShapes Go.WideShapes Go.ChangeAt Go.RowKit
open Go.ChangeMaps (open_string shut_string)
set_option linter.unusedVariables false      -- a walk need not use every 'w<i>' (that an integer argument fits its kind)

theorem own : ownKnob Try.prog.godebug = none := by kernel_rfl

/-! ### The walk -/
set_option maxHeartbeats 400000 in
theorem bytes_ok (a0 : ByteArray) (a1 : Bool) (h : a0.size ≤ 1048576) (w : World) :
    Calls Try.prog 7 #[.string a0, .bool a1] w fun e w' => e = .returned (.bool true) ∧ w' = w := by
  go_enter Try.func7, Try.ntmps7
  go_wp2
  go_ret
  exact ⟨rfl, rfl⟩

set_option maxHeartbeats 400000 in
theorem bytes_no (a0 : ByteArray) (a1 : Bool) (h : ¬ a0.size ≤ 1048576) (w0 : a0.size ≤ maxLen) (w : World) :
    Calls Try.prog 7 #[.string a0, .bool a1] w fun e w' => e = .returned (.bool false) ∧ w' = w := by
  unfold maxLen at w0
  go_enter Try.func7, Try.ntmps7
  go_wp2
  go_ret
  exact ⟨rfl, rfl⟩

set_option maxHeartbeats 400000 in
theorem walk (a0 : ByteArray) (a1 : Bool) (w0 : a0.size ≤ maxLen) (w : World) :
    Calls Try.prog 3 #[.string a0, .bool a1] w fun e w' => e = .returned (.bool true) ∧ Grown w w' := by
  by_cases hsz : a0.size ≤ 1048576
  · by_cases hz : a0.size = 0
    · go_enter Try.func3, Try.ntmps3
      go_wp2_with (go_at_call 7; refine (bytes_ok _ _ hsz _).mono ?_; rintro e w' ⟨rfl, rfl⟩)
      go_ret
      exact ⟨rfl, Grown.refl _⟩
    · have h1 : 1 ≤ a0.size := by omega
      go_enter Try.func3, Try.ntmps3
      go_wp2_with (first | (go_at_call 7; refine (bytes_ok _ _ hsz _).mono ?_; rintro e w' ⟨rfl, rfl⟩) | (go_at_call 8; refine (zz_any _ _ _ h1 hsz).mono ?_; rintro e w' ⟨rfl, rfl⟩) | (go_at_call 9; refine (parity_any _ _ _ h1 hsz).mono ?_; rintro e w' ⟨rfl, rfl⟩))
      go_ret
      exact ⟨rfl, Grown.refl _⟩
  · go_enter Try.func3, Try.ntmps3
    go_wp2_with (go_at_call 7; refine (bytes_no _ _ hsz w0 _).mono ?_; rintro e w' ⟨rfl, rfl⟩)
    go_ret
    exact ⟨rfl, Grown.refl _⟩

/-! ### THE ROW's STEP: WRITTEN OUT: LEAVE IT -/
set_option maxRecDepth 100000 in
theorem lifted (os : Os) (started : os.Started) (H : Type) (enc : TypeId × Value → H) :
    ReturnsInHanded {} Try.checked os 3 .any (Rows.fnQuotedEndsAtFirstUnescapedQuoteSpec.pre6 enc Try.prog Try.f3 Rows.fnQuotedEndsAtFirstUnescapedQuoteRow.domain false) (Rows.fnQuotedEndsAtFirstUnescapedQuoteSpec.post enc Try.prog Try.f3 false true false false) := by
  refine returnsInHanded_of_change (C := Try.checked) own started (by kernel_rfl) Try.func3
    (ChangeSpec.witness6 (enc := enc) (C := Try.checked) false ⟨#[], #[.string ByteArray.empty, .bool false], []⟩ 8 (by kernel_rfl) (by kernel_rfl) (by kernel_rfl) (by kernel_rfl)) ?_
  intro W base args ds gs before hval0 hW hcnd _
  have hval : ∀ (j : Nat) t v, Try.f3.params[j]? = some t → args[j]? = some v → Value.okWide Try.prog W .any base t v := hval0
  have hW' := hW
  obtain ⟨p, q, hA0, hV, rfl, hfz, hnd⟩ := hW
  have hA : DataW.TrodAll enc Try.prog W 0 (fun _ => true) true Try.f3.params.toList args.toList ds p := hA0
  rw [Try.params3] at hA hval
  obtain ⟨v0, vs0, d0, ds0, p0, q0, hargs, rfl, rfl, h0, r0⟩ := trodAll_cons hA
  obtain ⟨v1, vs1, d1, ds1, p1, q1, rfl, rfl, rfl, h1, r1⟩ := trodAll_cons r0
  obtain ⟨rfl, rfl, rfl⟩ := trodAll_nil r1
  obtain rfl : args = #[v0, v1] := by cases args; simp_all
  obtain ⟨rfl, rfl⟩ := trodVars_none hV
  obtain ⟨a0, rfl, rfl, rfl, w0⟩ := open_string Try.underlying9 (hval 0 9 v0 rfl rfl) h0
  obtain ⟨a1, rfl, rfl, rfl⟩ := open_bool Try.underlying4 (hval 1 4 v1 rfl rfl) h1
  clear hA0 hval0
  simp only [List.append_nil] at hW'
  refine (walk a0 a1 w0 W).mono fun e W' ⟨he, hg⟩ => ?_
  subst he
  exact ⟨_, rfl, post_of_same (pa := []) (pv := []) hW' (fun _ _ _ => (trodAll_cons_mk (shut_bool Try.underlying4 _) trodAll_mk0)) (fun sp _ => (trodAll_cons_mk (shut_string Try.underlying9 w0) (trodAll_cons_mk (shut_bool Try.underlying4 _) trodAll_mk0))) (fun _ _ => rfl) rfl
    (hg.frame _) hg.2.1 (ok_one (by kernel_rfl) rfl (okWide_bool_mk Try.underlying4 _))⟩

theorem over : Rows.fnQuotedEndsAtFirstUnescapedQuoteRow.holds Try.pinned (OpenSpec.ofChange Rows.fnQuotedEndsAtFirstUnescapedQuoteSpec) :=
  OpenClaim.holds_of_wide 3 Try.f3 rfl rfl rfl rfl rfl rfl rfl ⟨rfl, rfl, rfl, rfl, rfl⟩ rfl rfl rfl rfl rfl (by kernel_rfl) Try.func3 (by kernel_rfl)
    (of_decide_eq_true (by kernel_rfl)) (by unfold Func.isWrapper; first | (rw [if_pos (by decide +kernel)]; kernel_rfl) | (rw [if_neg (by decide +kernel)]; exact ⟨rfl, rfl⟩))
    (fun os started H enc _ => lifted os started H enc)

/-- ████ THE STATEMENT ████ -/
theorem proved : Rows.FnQuotedEndsAtFirstUnescapedQuoteSaid :=
  over
end Go.Proofs.Qxb6619429a.fnQuotedEndsAtFirstUnescapedQuote
