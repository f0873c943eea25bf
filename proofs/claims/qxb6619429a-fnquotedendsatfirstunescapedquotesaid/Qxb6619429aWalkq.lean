/-
  The walks of sqlQuoted (16), ZZSqlQuoted (8), quotedEndByParity (9) and the two bounds (7, 10).
-/
import Derived.Test.Qxb6619429aRows
import Derived.Test.Qxb6619429aPlain
import Derived.WalkKit
import Derived.WalkSpells
import Derived.WalkLawsBesides
namespace Go.Proofs.Qxb6619429a
open Go.RowKit Plain

theorem ret_int {k : IntKind} {a b : Int} (h : a = b) : Ending.returned (.int k a) = .returned (.int k b) := by rw [h]

theorem size_toList (s : ByteArray) : s.data.toList.length = s.size := by simp

theorem byte_eq (a b : UInt8) : ((a.toNat : Int) == (b.toNat : Int)) = (a == b) := by
  rw [Bool.eq_iff_iff]; simp only [beq_iff_eq, ← UInt8.toNat_inj]; omega

theorem byte_92 (a : UInt8) : ((a.toNat : Int) == 92) = (a == 92) := byte_eq a 92

theorem start_eq (s : ByteArray) (esc : Bool) (h : 0 < s.size) : qAt s[0] esc s.data.toList 1 = qlen esc s.data.toList := by
  have h' : 0 < s.data.toList.length := by simpa using h
  have e : s.data.toList = s[0] :: s.data.toList.drop 1 := drop_at s.data.toList 0 h'
  generalize s[0] = q at e
  rw [e]; exact qAt_start _ _ _

theorem st_skip (s : ByteArray) (q : UInt8) (k : Nat) (h : k < s.size) (hc : ((s[k].toNat : Int) == 92) = true) :
    qAt q true s.data.toList (k + 2) = qAt q true s.data.toList k := by
  rw [byte_92] at hc
  exact qAt_skip q true _ k (by simpa using h) (by rw [Bool.true_and]; exact hc)

theorem st_quote (s : ByteArray) (q : UInt8) (esc : Bool) (k : Nat) (h : k < s.size) (h0 : (esc && (s[k].toNat : Int) == 92) = false) (hc : ((s[k].toNat : Int) == q.toNat) = true) :
    qAt q esc s.data.toList k = k + 1 := by
  rw [byte_92] at h0; rw [byte_eq] at hc
  exact qAt_quote q esc _ k (by simpa using h) h0 hc

theorem st_next (s : ByteArray) (q : UInt8) (esc : Bool) (k : Nat) (h : k < s.size) (h0 : (esc && (s[k].toNat : Int) == 92) = false) (hc : ((s[k].toNat : Int) == q.toNat) = false) :
    qAt q esc s.data.toList (k + 1) = qAt q esc s.data.toList k := by
  rw [byte_92] at h0; rw [byte_eq] at hc
  exact qAt_next q esc _ k (by simpa using h) h0 hc

set_option maxHeartbeats 400000 in
theorem quoted_any (s : ByteArray) (esc : Bool) (w : World) (h1 : 1 ≤ s.size) (hs : s.size ≤ 1048576) :
    Calls Try.prog 16 #[.string s, .bool esc] w fun e w' => e = .returned (.int .i64 (qlen esc s.data.toList : Nat)) ∧ w' = w := by
  have hst : Hid (qAt s[0] esc s.data.toList 1 = qlen esc s.data.toList) := start_eq s esc h1
  go_enter Try.func16, Try.ntmps16
  go_wp2
  go_loop [6] (fun i => ∃ k : Nat, 1 ≤ k ∧ k ≤ s.size + 1 ∧ i = .int .i64 k ∧ Hid (qAt s[0] esc s.data.toList k = qlen esc s.data.toList)) (fun i => s.size + 1 - (intOf i).toNat)
  case atStart => exact ⟨1, by omega, by omega, rfl, hst⟩
  case round =>
    obtain ⟨k, hk1, hk2, rfl, hq⟩ := hrel
    by_cases hlt : k < s.size
    · cases esc
      · go_wp2
        · go_ret
          exact ⟨ret_int (by rw [← hq.out, st_quote s s[0] false k hlt rfl (by assumption)]; rfl), rfl⟩
        · go_round
          case rel => exact ⟨k + 1, by omega, by omega, by go_num, (st_next s s[0] false k hlt rfl (by assumption)).trans hq.out⟩
          case measure => simp [intOf]; omega
      · go_wp2
        · go_round
          case rel => exact ⟨k + 2, by omega, by omega, by go_num, (st_skip s s[0] k hlt (by assumption)).trans hq.out⟩
          case measure => simp [intOf]; omega
        · have h92 : ((s[k].toNat : Int) == 92) = false := by assumption
          go_ret
          exact ⟨ret_int (by rw [← hq.out, st_quote s s[0] true k hlt (by rw [h92]; rfl) (by assumption)]; rfl), rfl⟩
        · have h92 : ((s[k].toNat : Int) == 92) = false := by assumption
          go_round
          case rel => exact ⟨k + 1, by omega, by omega, by go_num, (st_next s s[0] true k hlt (by rw [h92]; rfl) (by assumption)).trans hq.out⟩
          case measure => simp [intOf]; omega
    · go_wp2
      go_ret
      exact ⟨ret_int (by rw [← hq.out, qAt_end _ _ _ _ (by rw [size_toList]; omega), size_toList]), rfl⟩

set_option maxHeartbeats 400000 in
theorem zz_any (s : ByteArray) (esc : Bool) (w : World) (h1 : 1 ≤ s.size) (hs : s.size ≤ 1048576) :
    Calls Try.prog 8 #[.string s, .bool esc] w fun e w' => e = .returned (.int .i64 (qlen esc s.data.toList : Nat)) ∧ w' = w := by
  go_enter Try.func8, Try.ntmps8
  go_wp2_with (go_at_call 16; refine (quoted_any _ _ _ h1 hs).mono ?_; rintro e w' ⟨rfl, rfl⟩)
  go_ret
  exact ⟨rfl, rfl⟩

end Go.Proofs.Qxb6619429a
