/-
  The walks of quotedLen (6), ZZquotedLen (5).
-/
import Derived.Test.Qxb6619446aRows
import Derived.Test.Qxb6619446aPlain
import Derived.WalkKit
import Derived.WalkSpells
import Derived.WalkLawsBesides
namespace Go.Proofs.Qxb6619446a
open Go.RowKit Plain

theorem ret_int {k : IntKind} {a b : Int} (h : a = b) : Ending.returned (.int k a) = .returned (.int k b) := by rw [h]
theorem size_toList (s : ByteArray) : s.data.toList.length = s.size := by simp
theorem hide {p : Prop} (h : p) : Hid p := h
theorem extra_one (c : Int) (h : c = 34 ∨ c = 92 ∨ c = 8 ∨ c = 12 ∨ c = 10 ∨ c = 13 ∨ c = 9) : extra c = 1 := by unfold extra; rw [if_pos h]
theorem extra_five (c : Int) (h : ¬ (c = 34 ∨ c = 92 ∨ c = 8 ∨ c = 12 ∨ c = 10 ∨ c = 13 ∨ c = 9)) (h2 : c < 32) : extra c = 5 := by unfold extra; rw [if_neg h, if_pos h2]
theorem extra_none (c : Int) (h : ¬ (c = 34 ∨ c = 92 ∨ c = 8 ∨ c = 12 ∨ c = 10 ∨ c = 13 ∨ c = 9)) (h2 : ¬ c < 32) : extra c = 0 := by unfold extra; rw [if_neg h, if_neg h2]

theorem cost_at (s : ByteArray) (k : Nat) (h : k < s.size) : cost (s.data.toList.take (k + 1)) = cost (s.data.toList.take k) + extra (s[k].toNat : Int) :=
  cost_take s.data.toList k (by simpa using h)

/-- quotedLen's answer. -/
def qn (s : ByteArray) : Nat := s.size + 2 + cost s.data.toList

set_option maxHeartbeats 1000000 in
theorem len_any (s : ByteArray) (w : World) (hs : s.size ≤ 1048576) :
    Calls Try.prog 6 #[.string s] w fun e w' => e = .returned (.int .i64 (qn s : Nat)) ∧ w' = w := by
  go_enter Try.func6, Try.ntmps6
  go_wp2
  go_loop [3, 11] (fun n i => ∃ k : Nat, k ≤ s.size ∧ n = .int .i64 (s.size + 2 + cost (s.data.toList.take k) : Nat) ∧ i = .int .i64 k) (fun _ i => s.size - (intOf i).toNat)
  case atStart => exact ⟨0, by omega, by simp [cost], rfl⟩
  case round =>
    obtain ⟨k, hk, rfl, rfl⟩ := hrel
    have hb := cost_le (s.data.toList.take k)
    have hl : (s.data.toList.take k).length ≤ k := List.length_take_le _ _
    by_cases hlt : k < s.size
    · have HX : Hid (cost (s.data.toList.take (k + 1)) = cost (s.data.toList.take k) + extra (s[k].toNat : Int)) := cost_at s k hlt
      generalize cost (s.data.toList.take k) = C at *
      cases h34 : ((s[k].toNat : Int) == 34)
      rotate_left
      · have ex := HX.out
        rw [extra_one _ (by simp only [beq_iff_eq] at h34; omega)] at ex
        have EX := hide ex
        clear ex HX
        go_wp2
        go_round
        case rel => exact ⟨k + 1, by omega, by rw [EX.out]; go_num, by go_num⟩
        case measure => simp [intOf]; omega
      cases h92 : ((s[k].toNat : Int) == 92)
      rotate_left
      · have ex := HX.out
        rw [extra_one _ (by simp only [beq_iff_eq] at h92; omega)] at ex
        have EX := hide ex
        clear ex HX
        go_wp2
        go_round
        case rel => exact ⟨k + 1, by omega, by rw [EX.out]; go_num, by go_num⟩
        case measure => simp [intOf]; omega
      cases h8 : ((s[k].toNat : Int) == 8)
      rotate_left
      · have ex := HX.out
        rw [extra_one _ (by simp only [beq_iff_eq] at h8; omega)] at ex
        have EX := hide ex
        clear ex HX
        go_wp2
        go_round
        case rel => exact ⟨k + 1, by omega, by rw [EX.out]; go_num, by go_num⟩
        case measure => simp [intOf]; omega
      cases h12 : ((s[k].toNat : Int) == 12)
      rotate_left
      · have ex := HX.out
        rw [extra_one _ (by simp only [beq_iff_eq] at h12; omega)] at ex
        have EX := hide ex
        clear ex HX
        go_wp2
        go_round
        case rel => exact ⟨k + 1, by omega, by rw [EX.out]; go_num, by go_num⟩
        case measure => simp [intOf]; omega
      cases h10 : ((s[k].toNat : Int) == 10)
      rotate_left
      · have ex := HX.out
        rw [extra_one _ (by simp only [beq_iff_eq] at h10; omega)] at ex
        have EX := hide ex
        clear ex HX
        go_wp2
        go_round
        case rel => exact ⟨k + 1, by omega, by rw [EX.out]; go_num, by go_num⟩
        case measure => simp [intOf]; omega
      cases h13 : ((s[k].toNat : Int) == 13)
      rotate_left
      · have ex := HX.out
        rw [extra_one _ (by simp only [beq_iff_eq] at h13; omega)] at ex
        have EX := hide ex
        clear ex HX
        go_wp2
        go_round
        case rel => exact ⟨k + 1, by omega, by rw [EX.out]; go_num, by go_num⟩
        case measure => simp [intOf]; omega
      cases h9 : ((s[k].toNat : Int) == 9)
      rotate_left
      · have ex := HX.out
        rw [extra_one _ (by simp only [beq_iff_eq] at h9; omega)] at ex
        have EX := hide ex
        clear ex HX
        go_wp2
        go_round
        case rel => exact ⟨k + 1, by omega, by rw [EX.out]; go_num, by go_num⟩
        case measure => simp [intOf]; omega
      by_cases hlo : (s[k].toNat : Int) < 32
      · have ex := HX.out
        rw [extra_five _ (by simp only [beq_eq_false_iff_ne, ne_eq] at h34 h92 h8 h12 h10 h13 h9; omega) (by omega)] at ex
        have EX := hide ex
        clear ex HX
        go_wp2
        go_round
        case rel => exact ⟨k + 1, by omega, by rw [EX.out]; go_num, by go_num⟩
        case measure => simp [intOf]; omega
      · have ex := HX.out
        rw [extra_none _ (by simp only [beq_eq_false_iff_ne, ne_eq] at h34 h92 h8 h12 h10 h13 h9; omega) (by omega)] at ex
        have EX := hide ex
        clear ex HX
        go_wp2
        go_round
        case rel => exact ⟨k + 1, by omega, by rw [EX.out]; go_num, by go_num⟩
        case measure => simp [intOf]; omega
    · go_wp2
      go_ret
      exact ⟨ret_int (by rw [List.take_of_length_le (by rw [size_toList]; omega)]; rfl), rfl⟩

set_option maxHeartbeats 400000 in
theorem zz_any (s : ByteArray) (w : World) (hs : s.size ≤ 1048576) :
    Calls Try.prog 5 #[.string s] w fun e w' => e = .returned (.int .i64 (qn s : Nat)) ∧ w' = w := by
  go_enter Try.func5, Try.ntmps5
  go_wp2_with (go_at_call 6; refine (len_any _ _ hs).mono ?_; rintro e w' ⟨rfl, rfl⟩)
  go_ret
  exact ⟨rfl, rfl⟩

end Go.Proofs.Qxb6619446a
