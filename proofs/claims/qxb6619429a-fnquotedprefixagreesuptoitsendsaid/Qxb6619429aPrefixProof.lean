/-
  The proof of 'Rows.FnQuotedPrefixAgreesUpToItsEndSaid': the frame is the kit's template, written by its program; the walk is ours.
-/
import Derived.Test.Qxb6619429aRows
import Derived.Test.Qxb6619429aWalkq
import Derived.WalkKit
import Derived.ProofKit
import Derived.OpenShut
import Derived.ShutString
namespace Go.Proofs.Qxb6619429a.fnQuotedPrefixAgreesUpToItsEnd
open Go.ChangeShapes Go.WideShapes Go.ChangeAt Go.RowKit
open Go.ChangeMaps (open_string shut_string)
set_option linter.unusedVariables false      -- a walk need not use every 'w<i>' (that an integer argument fits its kind)

theorem own : ownKnob Try.prog.godebug = none := by kernel_rfl

/-! ### The walk -/
theorem cut_eq (s : ByteArray) (esc : Bool) (k : Nat) (h : k ≤ s.size) : Plain.qlen esc (s.extract 0 k).data.toList = min k (Plain.qlen esc s.data.toList) := by
  rw [← Plain.qlen_take]; simp [ByteArray.data_extract]

set_option maxHeartbeats 400000 in
theorem bytes_ok (a0 : ByteArray) (a1 : Bool) (a2 : Int) (h : a0.size ≤ 1048576) (w : World) :
    Calls Try.prog 10 #[.string a0, .bool a1, .int .i64 a2] w fun e w' => e = .returned (.bool true) ∧ w' = w := by
  go_enter Try.func10, Try.ntmps10
  go_wp2
  go_ret
  exact ⟨rfl, rfl⟩

set_option maxHeartbeats 400000 in
theorem bytes_no (a0 : ByteArray) (a1 : Bool) (a2 : Int) (h : ¬ a0.size ≤ 1048576) (w0 : a0.size ≤ maxLen) (w : World) :
    Calls Try.prog 10 #[.string a0, .bool a1, .int .i64 a2] w fun e w' => e = .returned (.bool false) ∧ w' = w := by
  unfold maxLen at w0
  go_enter Try.func10, Try.ntmps10
  go_wp2
  go_ret
  exact ⟨rfl, rfl⟩

set_option maxHeartbeats 400000 in
theorem walk (a0 : ByteArray) (a1 : Bool) (a2 : Int) (w0 : a0.size ≤ maxLen) (w2 : (Lit.int .i64 a2).wf = true) (w : World) :
    Calls Try.prog 4 #[.string a0, .bool a1, .int .i64 a2] w fun e w' => e = .returned (.bool true) ∧ Grown w w' := by
  by_cases hsz : a0.size ≤ 1048576
  · by_cases hz : a0.size = 0
    · go_enter Try.func4, Try.ntmps4
      go_wp2_with (go_at_call 10; refine (bytes_ok _ _ _ hsz _).mono ?_; rintro e w' ⟨rfl, rfl⟩)
      go_ret
      exact ⟨rfl, Grown.refl _⟩
    · by_cases hk : 1 ≤ a2 ∧ a2 ≤ a0.size
      · obtain ⟨hk1, hk2⟩ := hk
        obtain ⟨k, rfl⟩ := Int.eq_ofNat_of_zero_le (by omega : 0 ≤ a2)
        have h1 : 1 ≤ a0.size := by omega
        have hk3 : k ≤ a0.size := by omega
        have hle := Plain.qlen_le a1 a0.data.toList
        rw [size_toList] at hle
        have hone := Plain.qlen_one a1 a0.data.toList (by rw [size_toList]; exact h1)
        have htwo : 2 ≤ a0.size → 2 ≤ Plain.qlen a1 a0.data.toList := fun h => Plain.qlen_lo a1 a0.data.toList (by rw [size_toList]; exact h)
        have hcut := cut_eq a0 a1 k hk3
        have hsc : (a0.extract 0 k).size = k := by simp; omega
        obtain ⟨R, hR⟩ : ∃ R, R = Plain.qlen a1 a0.data.toList := ⟨_, rfl⟩
        have hz1 : Hid (∀ w, Calls Try.prog 8 #[.string a0, .bool a1] w fun e w' => e = .returned (.int .i64 (R : Nat)) ∧ w' = w) := by
          intro w; rw [hR]; exact zz_any _ _ _ h1 hsz
        have hz2 : Hid (∀ w, Calls Try.prog 8 #[.string (a0.extract 0 k), .bool a1] w fun e w' => e = .returned (.int .i64 (min k R : Nat)) ∧ w' = w) := by
          intro w; rw [hR, ← hcut]; exact zz_any _ _ _ (by omega) (by omega)
        rw [← hR] at hle hone htwo
        clear hcut hsc hR
        by_cases h2 : a0.size < 2
        · clear htwo
          by_cases hRk : R < k
          · exfalso; omega
          · rw [Nat.min_eq_left (by omega)] at hz2
            go_enter Try.func4, Try.ntmps4
            go_wp2_with (go_at_call 10; refine (bytes_ok _ _ _ hsz _).mono ?_; rintro e w' ⟨rfl, rfl⟩)
            refine (hz1.out _).mono ?_
            rintro e w' ⟨rfl, rfl⟩
            go_wp2_with fail
            refine (hz2.out _).mono ?_
            rintro e w' ⟨rfl, rfl⟩
            go_wp2
            go_ret
            exact ⟨rfl, Grown.refl _⟩
        · have htwo' := htwo (by omega)
          clear htwo
          by_cases hRk : R < k
          · rw [Nat.min_eq_right (by omega)] at hz2
            go_enter Try.func4, Try.ntmps4
            go_wp2_with (go_at_call 10; refine (bytes_ok _ _ _ hsz _).mono ?_; rintro e w' ⟨rfl, rfl⟩)
            refine (hz1.out _).mono ?_
            rintro e w' ⟨rfl, rfl⟩
            go_wp2_with fail
            refine (hz2.out _).mono ?_
            rintro e w' ⟨rfl, rfl⟩
            go_wp2
            go_ret
            exact ⟨rfl, Grown.refl _⟩
          · rw [Nat.min_eq_left (by omega)] at hz2
            go_enter Try.func4, Try.ntmps4
            go_wp2_with (go_at_call 10; refine (bytes_ok _ _ _ hsz _).mono ?_; rintro e w' ⟨rfl, rfl⟩)
            refine (hz1.out _).mono ?_
            rintro e w' ⟨rfl, rfl⟩
            go_wp2_with fail
            refine (hz2.out _).mono ?_
            rintro e w' ⟨rfl, rfl⟩
            go_wp2
            go_ret
            exact ⟨rfl, Grown.refl _⟩
      · by_cases hk1 : a2 < 1
        · go_enter Try.func4, Try.ntmps4
          go_wp2_with (go_at_call 10; refine (bytes_ok _ _ _ hsz _).mono ?_; rintro e w' ⟨rfl, rfl⟩)
          go_ret
          exact ⟨rfl, Grown.refl _⟩
        · have hk2 : (a0.size : Int) < a2 := by omega
          go_enter Try.func4, Try.ntmps4
          go_wp2_with (go_at_call 10; refine (bytes_ok _ _ _ hsz _).mono ?_; rintro e w' ⟨rfl, rfl⟩)
          go_ret
          exact ⟨rfl, Grown.refl _⟩
  · go_enter Try.func4, Try.ntmps4
    go_wp2_with (go_at_call 10; refine (bytes_no _ _ _ hsz w0 _).mono ?_; rintro e w' ⟨rfl, rfl⟩)
    go_ret
    exact ⟨rfl, Grown.refl _⟩

/-! ### THE ROW's STEP: WRITTEN OUT: LEAVE IT -/
set_option maxRecDepth 100000 in
theorem lifted (os : Os) (started : os.Started) (H : Type) (enc : TypeId × Value → H) :
    ReturnsInHanded {} Try.checked os 4 .any (Rows.fnQuotedPrefixAgreesUpToItsEndSpec.pre6 enc Try.prog Try.f4 Rows.fnQuotedPrefixAgreesUpToItsEndRow.domain false) (Rows.fnQuotedPrefixAgreesUpToItsEndSpec.post enc Try.prog Try.f4 false true false false) := by
  refine returnsInHanded_of_change (C := Try.checked) own started (by kernel_rfl) Try.func4
    (ChangeSpec.witness6 (enc := enc) (C := Try.checked) false ⟨#[], #[.string ByteArray.empty, .bool false, .int .i64 0], []⟩ 8 (by kernel_rfl) (by kernel_rfl) (by kernel_rfl) (by kernel_rfl)) ?_
  intro W base args ds gs before hval0 hW hcnd _
  have hval : ∀ (j : Nat) t v, Try.f4.params[j]? = some t → args[j]? = some v → Value.okWide Try.prog W .any base t v := hval0
  have hW' := hW
  obtain ⟨p, q, hA0, hV, rfl, hfz, hnd⟩ := hW
  have hA : DataW.TrodAll enc Try.prog W 0 (fun _ => true) true Try.f4.params.toList args.toList ds p := hA0
  rw [Try.params4] at hA hval
  obtain ⟨v0, vs0, d0, ds0, p0, q0, hargs, rfl, rfl, h0, r0⟩ := trodAll_cons hA
  obtain ⟨v1, vs1, d1, ds1, p1, q1, rfl, rfl, rfl, h1, r1⟩ := trodAll_cons r0
  obtain ⟨v2, vs2, d2, ds2, p2, q2, rfl, rfl, rfl, h2, r2⟩ := trodAll_cons r1
  obtain ⟨rfl, rfl, rfl⟩ := trodAll_nil r2
  obtain rfl : args = #[v0, v1, v2] := by cases args; simp_all
  obtain ⟨rfl, rfl⟩ := trodVars_none hV
  obtain ⟨a0, rfl, rfl, rfl, w0⟩ := open_string Try.underlying9 (hval 0 9 v0 rfl rfl) h0
  obtain ⟨a1, rfl, rfl, rfl⟩ := open_bool Try.underlying4 (hval 1 4 v1 rfl rfl) h1
  obtain ⟨a2, rfl, rfl, rfl, w2⟩ := open_int Try.underlying3 (hval 2 3 v2 rfl rfl) h2
  clear hA0 hval0
  simp only [List.append_nil] at hW'
  refine (walk a0 a1 a2 w0 w2 W).mono fun e W' ⟨he, hg⟩ => ?_
  subst he
  exact ⟨_, rfl, post_of_same (pa := []) (pv := []) hW' (fun _ _ _ => (trodAll_cons_mk (shut_bool Try.underlying4 _) trodAll_mk0)) (fun sp _ => (trodAll_cons_mk (shut_string Try.underlying9 w0) (trodAll_cons_mk (shut_bool Try.underlying4 _) (trodAll_cons_mk (shut_int Try.underlying3 w2) trodAll_mk0)))) (fun _ _ => rfl) rfl
    (hg.frame _) hg.2.1 (ok_one (by kernel_rfl) rfl (okWide_bool_mk Try.underlying4 _))⟩

theorem over : Rows.fnQuotedPrefixAgreesUpToItsEndRow.holds Try.pinned (OpenSpec.ofChange Rows.fnQuotedPrefixAgreesUpToItsEndSpec) :=
  OpenClaim.holds_of_wide 4 Try.f4 rfl rfl rfl rfl rfl rfl rfl ⟨rfl, rfl, rfl, rfl, rfl⟩ rfl rfl rfl rfl rfl (by kernel_rfl) Try.func4 (by kernel_rfl)
    (of_decide_eq_true (by kernel_rfl)) (by unfold Func.isWrapper; first | (rw [if_pos (by decide +kernel)]; kernel_rfl) | (rw [if_neg (by decide +kernel)]; exact ⟨rfl, rfl⟩))
    (fun os started H enc _ => lifted os started H enc)

/-- ████ THE STATEMENT ████ -/
theorem proved : Rows.FnQuotedPrefixAgreesUpToItsEndSaid :=
  over
end Go.Proofs.Qxb6619429a.fnQuotedPrefixAgreesUpToItsEnd
