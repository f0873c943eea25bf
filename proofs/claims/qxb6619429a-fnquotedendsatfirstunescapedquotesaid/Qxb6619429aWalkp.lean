/-
  The walk of quotedEndByParity (9).
-/
import Derived.Test.Qxb6619429aWalkq
namespace Go.Proofs.Qxb6619429a
open Go.RowKit Plain

theorem pstart_eq (s : ByteArray) (esc : Bool) (h : 0 < s.size) : pAt s[0] esc s.data.toList 1 0 = qlen esc s.data.toList := by
  have h' : 0 < s.data.toList.length := by simpa using h
  have e : s.data.toList = s[0] :: s.data.toList.drop 1 := drop_at s.data.toList 0 h'
  generalize s[0] = q at e
  rw [e]; exact pAt_start _ _ _

theorem hide {p : Prop} (h : p) : Hid p := h

theorem par_eq (run : Nat) : ((run : Int) % 2 == 0) = (run % 2 == 0) := by
  rw [Bool.eq_iff_iff]; simp only [beq_iff_eq]; omega

theorem pst_quote (s : ByteArray) (q : UInt8) (esc : Bool) (k run : Nat) (h : k < s.size)
    (h1 : (((s[k].toNat : Int) == q.toNat) && (!esc || (!((s[k].toNat : Int) == 92) && ((run : Int) % 2 == 0)))) = true) : pAt q esc s.data.toList k run = k + 1 := by
  rw [byte_92, byte_eq, par_eq] at h1
  exact pAt_quote q esc _ k run (by simpa using h) h1

theorem pst_next (s : ByteArray) (q : UInt8) (esc : Bool) (k run : Nat) (h : k < s.size) (r : Nat)
    (h1 : (((s[k].toNat : Int) == q.toNat) && (!esc || (!((s[k].toNat : Int) == 92) && ((run : Int) % 2 == 0)))) = false)
    (h2 : r = if ((s[k].toNat : Int) == 92) = true then run + 1 else 0) : pAt q esc s.data.toList (k + 1) r = pAt q esc s.data.toList k run := by
  rw [byte_92, byte_eq, par_eq] at h1
  rw [byte_92] at h2
  rw [h2]
  exact pAt_next q esc _ k run (by simpa using h) h1

set_option maxHeartbeats 400000 in
theorem parity_any (s : ByteArray) (esc : Bool) (w : World) (h1 : 1 ≤ s.size) (hs : s.size ≤ 1048576) :
    Calls Try.prog 9 #[.string s, .bool esc] w fun e w' => e = .returned (.int .i64 (qlen esc s.data.toList : Nat)) ∧ w' = w := by
  have hst : Hid (pAt s[0] esc s.data.toList 1 0 = qlen esc s.data.toList) := pstart_eq s esc h1
  go_enter Try.func9, Try.ntmps9
  go_wp2
  go_loop [6, 7] (fun r i => ∃ k run : Nat, 1 ≤ k ∧ k ≤ s.size ∧ run ≤ k ∧ i = .int .i64 k ∧ r = .int .i64 run ∧ Hid (pAt s[0] esc s.data.toList k run = qlen esc s.data.toList)) (fun _ i => s.size - (intOf i).toNat)
  case atStart => exact ⟨1, 0, by omega, by omega, by omega, rfl, rfl, hst⟩
  case round =>
    obtain ⟨k, run, hk1, hk2, hr, rfl, rfl, hq⟩ := hrel
    by_cases hlt : k < s.size
    · have hpq := pst_quote s s[0] esc k run hlt
      have hpn := pst_next s s[0] esc k run hlt
      have HQ := hide hpq
      have HN := hide hpn
      clear hpq hpn
      cases hc : ((s[k].toNat : Int) == (s[0].toNat : Int)) <;> cases h92 : ((s[k].toNat : Int) == 92)
      all_goals
        have hn92 : ((s[k].toNat : Int) != 92) = !((s[k].toNat : Int) == 92) := rfl
        rw [h92] at hn92
      · go_wp2
        go_round
        case rel => exact ⟨k + 1, 0, by omega, by omega, by omega, by go_num, rfl, (HN.out 0 (by rw [hc]; rfl) (by rw [h92]; rfl)).trans hq.out⟩
        case measure => simp [intOf]; omega
      · go_wp2
        go_round
        case rel => exact ⟨k + 1, run + 1, by omega, by omega, by omega, by go_num, by go_num, (HN.out (run + 1) (by rw [hc]; rfl) (by rw [h92]; rfl)).trans hq.out⟩
        case measure => simp [intOf]; omega
      · cases esc
        · go_wp2
          go_ret
          exact ⟨ret_int (by rw [← hq.out, HQ.out (by rw [hc]; rfl)]; rfl), rfl⟩
        · cases hpar : ((run : Int) % 2 == 0)
          · go_wp2
            go_round
            case rel => exact ⟨k + 1, 0, by omega, by omega, by omega, by go_num, rfl, (HN.out 0 (by rw [hc, h92, hpar]; rfl) (by rw [h92]; rfl)).trans hq.out⟩
            case measure => simp [intOf]; omega
          · go_wp2
            go_ret
            exact ⟨ret_int (by rw [← hq.out, HQ.out (by rw [hc, h92, hpar]; rfl)]; rfl), rfl⟩
      · cases esc
        · go_wp2
          go_ret
          exact ⟨ret_int (by rw [← hq.out, HQ.out (by rw [hc]; rfl)]; rfl), rfl⟩
        · go_wp2
          go_round
          case rel => exact ⟨k + 1, run + 1, by omega, by omega, by omega, by go_num, by go_num, (HN.out (run + 1) (by rw [hc, h92]; rfl) (by rw [h92]; rfl)).trans hq.out⟩
          case measure => simp [intOf]; omega
    · go_wp2
      go_ret
      exact ⟨ret_int (by rw [← hq.out, pAt_end _ _ _ _ _ (by rw [size_toList]; omega), size_toList]), rfl⟩

end Go.Proofs.Qxb6619429a
