/-
  The proof of 'Rows.FnQuotedLenSplitsAtAnyCutSaid': the frame is the kit's template, written by its program; the walk is ours.
-/
import Derived.Test.Qxb6619446aRows
import Derived.Test.Qxb6619446aWalkq
import Derived.WalkKit
import Derived.ProofKit
import Derived.OpenShut
import Derived.ShutString
namespace Go.Proofs.Qxb6619446a.fnQuotedLenSplitsAtAnyCut
open Go.ChangeShapes Go.WideShapes Go.ChangeAt Go.RowKit
open Go.ChangeMaps (open_string shut_string)
set_option linter.unusedVariables false      -- a walk need not use every 'w<i>' (that an integer argument fits its kind)

theorem own : ownKnob Try.prog.godebug = none := by kernel_rfl

/-! ### The walk -/
set_option maxHeartbeats 400000 in
theorem bytes_ok (a0 : ByteArray) (a1 : Int) (h : a0.size ≤ 1048576) (w : World) :
    Calls Try.prog 4 #[.string a0, .int .i64 a1] w fun e w' => e = .returned (.bool true) ∧ w' = w := by
  go_enter Try.func4, Try.ntmps4
  go_wp2
  go_ret
  exact ⟨rfl, rfl⟩

set_option maxHeartbeats 400000 in
theorem bytes_no (a0 : ByteArray) (a1 : Int) (h : ¬ a0.size ≤ 1048576) (w0 : a0.size ≤ maxLen) (w : World) :
    Calls Try.prog 4 #[.string a0, .int .i64 a1] w fun e w' => e = .returned (.bool false) ∧ w' = w := by
  unfold maxLen at w0
  go_enter Try.func4, Try.ntmps4
  go_wp2
  go_ret
  exact ⟨rfl, rfl⟩

theorem law (s : ByteArray) (k : Nat) (h : k ≤ s.size) : qn s + 2 = qn (s.extract 0 k) + qn (s.extract k s.size) ∧ s.size + 2 ≤ qn s ∧ qn s ≤ 6 * s.size + 2 := by
  have h1 := Plain.cost_cut s.data.toList k
  have h2 := Plain.cost_le s.data.toList
  rw [size_toList] at h2
  have e1 : (s.extract 0 k).data.toList = s.data.toList.take k := by simp [ByteArray.data_extract]
  have e2 : (s.extract k s.size).data.toList = s.data.toList.drop k := by
    simp only [ByteArray.data_extract, Array.toList_extract, List.extract_eq_take_drop]
    rw [List.take_of_length_le]; simp
  have z1 : (s.extract 0 k).size = k := by simp; omega
  have z2 : (s.extract k s.size).size = s.size - k := by simp
  unfold qn
  rw [e1, e2, z1, z2]
  omega

set_option maxHeartbeats 400000 in
theorem walk (a0 : ByteArray) (a1 : Int) (w0 : a0.size ≤ maxLen) (w1 : (Lit.int .i64 a1).wf = true) (w : World) :
    Calls Try.prog 3 #[.string a0, .int .i64 a1] w fun e w' => e = .returned (.bool true) ∧ Grown w w' := by
  by_cases hsz : a0.size ≤ 1048576
  · by_cases hk0 : a1 < 0
    · go_enter Try.func3, Try.ntmps3
      go_wp2_with (go_at_call 4; refine (bytes_ok _ _ hsz _).mono ?_; rintro e w' ⟨rfl, rfl⟩)
      go_ret
      exact ⟨rfl, Grown.refl _⟩
    · by_cases hk1 : (a0.size : Int) < a1
      · go_enter Try.func3, Try.ntmps3
        go_wp2_with (go_at_call 4; refine (bytes_ok _ _ hsz _).mono ?_; rintro e w' ⟨rfl, rfl⟩)
        go_ret
        exact ⟨rfl, Grown.refl _⟩
      · obtain ⟨k, rfl⟩ := Int.eq_ofNat_of_zero_le (by omega : 0 ≤ a1)
        have hk3 : k ≤ a0.size := by omega
        obtain ⟨l1, l2, l3⟩ := law a0 k hk3
        have z1 : (a0.extract 0 k).size ≤ 1048576 := by simp; omega
        have z2 : (a0.extract k a0.size).size ≤ 1048576 := by simp; omega
        have c2 := fun w => zz_any (a0.extract 0 k) w z1
        have c3 := fun w => zz_any (a0.extract k a0.size) w z2
        have c1 : ∀ w, Calls Try.prog 5 #[.string a0] w fun e w' => e = .returned (.int .i64 ((qn (a0.extract 0 k) : Int) + (qn (a0.extract k a0.size) : Int) - 2)) ∧ w' = w := by
          intro w
          have e : ((qn (a0.extract 0 k) : Int) + (qn (a0.extract k a0.size) : Int) - 2) = (qn a0 : Nat) := by omega
          rw [e]; exact zz_any a0 w hsz
        clear z1 z2
        generalize qn (a0.extract 0 k) = L at *
        generalize qn (a0.extract k a0.size) = R at *
        have b1 : (a0.size : Int) + 2 ≤ (L : Int) + (R : Int) - 2 := by omega
        have b2 : (L : Int) + (R : Int) - 2 ≤ 6 * (a0.size : Int) + 2 := by omega
        clear l1 l2 l3
        have C1 := hide c1
        have C2 := hide c2
        have C3 := hide c3
        clear c1 c2 c3
        go_enter Try.func3, Try.ntmps3
        go_wp2_with (go_at_call 4; refine (bytes_ok _ _ hsz _).mono ?_; rintro e w' ⟨rfl, rfl⟩)
        refine (C1.out _).mono ?_
        rintro e w' ⟨rfl, rfl⟩
        go_wp2_with fail
        refine (C2.out _).mono ?_
        rintro e w' ⟨rfl, rfl⟩
        go_wp2_with fail
        refine (C3.out _).mono ?_
        rintro e w' ⟨rfl, rfl⟩
        go_wp2
        go_ret
        exact ⟨rfl, Grown.refl _⟩
  · go_enter Try.func3, Try.ntmps3
    go_wp2_with (go_at_call 4; refine (bytes_no _ _ hsz w0 _).mono ?_; rintro e w' ⟨rfl, rfl⟩)
    go_ret
    exact ⟨rfl, Grown.refl _⟩

/-! ### THE ROW's STEP: WRITTEN OUT: LEAVE IT -/
set_option maxRecDepth 100000 in
theorem lifted (os : Os) (started : os.Started) (H : Type) (enc : TypeId × Value → H) :
    ReturnsInHanded {} Try.checked os 3 .any (Rows.fnQuotedLenSplitsAtAnyCutSpec.pre6 enc Try.prog Try.f3 Rows.fnQuotedLenSplitsAtAnyCutRow.domain false) (Rows.fnQuotedLenSplitsAtAnyCutSpec.post enc Try.prog Try.f3 false true false false) := by
  refine returnsInHanded_of_change (C := Try.checked) own started (by kernel_rfl) Try.func3
    (ChangeSpec.witness6 (enc := enc) (C := Try.checked) false ⟨#[], #[.string ByteArray.empty, .int .i64 0], []⟩ 8 (by kernel_rfl) (by kernel_rfl) (by kernel_rfl) (by kernel_rfl)) ?_
  intro W base args ds gs before hval0 hW hcnd _
  have hval : ∀ (j : Nat) t v, Try.f3.params[j]? = some t → args[j]? = some v → Value.okWide Try.prog W .any base t v := hval0
  have hW' := hW
  obtain ⟨p, q, hA0, hV, rfl, hfz, hnd⟩ := hW
  have hA : DataW.TrodAll enc Try.prog W 0 (fun _ => true) true Try.f3.params.toList args.toList ds p := hA0
  rw [Try.params3] at hA hval
  obtain ⟨v0, vs0, d0, ds0, p0, q0, hargs, rfl, rfl, h0, r0⟩ := trodAll_cons hA
  obtain ⟨v1, vs1, d1, ds1, p1, q1, rfl, rfl, rfl, h1, r1⟩ := trodAll_cons r0
  obtain ⟨rfl, rfl, rfl⟩ := trodAll_nil r1
  obtain rfl : args = #[v0, v1] := by cases args; simp_all
  obtain ⟨rfl, rfl⟩ := trodVars_none hV
  obtain ⟨a0, rfl, rfl, rfl, w0⟩ := open_string Try.underlying9 (hval 0 9 v0 rfl rfl) h0
  obtain ⟨a1, rfl, rfl, rfl, w1⟩ := open_int Try.underlying3 (hval 1 3 v1 rfl rfl) h1
  clear hA0 hval0
  simp only [List.append_nil] at hW'
  refine (walk a0 a1 w0 w1 W).mono fun e W' ⟨he, hg⟩ => ?_
  subst he
  exact ⟨_, rfl, post_of_same (pa := []) (pv := []) hW' (fun _ _ _ => (trodAll_cons_mk (shut_bool Try.underlying4 _) trodAll_mk0)) (fun sp _ => (trodAll_cons_mk (shut_string Try.underlying9 w0) (trodAll_cons_mk (shut_int Try.underlying3 w1) trodAll_mk0))) (fun _ _ => rfl) rfl
    (hg.frame _) hg.2.1 (ok_one (by kernel_rfl) rfl (okWide_bool_mk Try.underlying4 _))⟩

theorem over : Rows.fnQuotedLenSplitsAtAnyCutRow.holds Try.pinned (OpenSpec.ofChange Rows.fnQuotedLenSplitsAtAnyCutSpec) :=
  OpenClaim.holds_of_wide 3 Try.f3 rfl rfl rfl rfl rfl rfl rfl ⟨rfl, rfl, rfl, rfl, rfl⟩ rfl rfl rfl rfl rfl (by kernel_rfl) Try.func3 (by kernel_rfl)
    (of_decide_eq_true (by kernel_rfl)) (by unfold Func.isWrapper; first | (rw [if_pos (by decide +kernel)]; kernel_rfl) | (rw [if_neg (by decide +kernel)]; exact ⟨rfl, rfl⟩))
    (fun os started H enc _ => lifted os started H enc)

/-- ████ THE STATEMENT ████ -/
theorem proved : Rows.FnQuotedLenSplitsAtAnyCutSaid :=
  over
end Go.Proofs.Qxb6619446a.fnQuotedLenSplitsAtAnyCut
