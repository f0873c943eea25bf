/-
  The walks of isDigits (16), ZZIsDigits (7).
-/
import Derived.Test.Qxb6619682aRows
import Derived.Test.Qxb6619682aPlain
import Derived.WalkKit
import Derived.WalkSpells
import Derived.WalkLawsBesides
import Derived.BigQuiet
import Derived.Deep.QuietTactic
namespace Go.Proofs.Qxb6619682a
open Go.RowKit Plain

theorem ret_int {k : IntKind} {a b : Int} (h : a = b) : Ending.returned (.int k a) = .returned (.int k b) := by rw [h]
theorem ret_bool {a b : Bool} (h : a = b) : Ending.returned (.bool a) = .returned (.bool b) := by rw [h]
theorem hide {p : Prop} (h : p) : Hid p := h
theorem size_toList (s : ByteArray) : s.data.toList.length = s.size := by simp

/-- []byte(s): a new row with the string's bytes. -/
theorem bytes_of (s : ByteArray) (w : World) : ∃ (cap : Nat) (W : World), (convert 9 38 (.string s)).run Try.prog w = .ok (.slice (some ⟨w.heap.size, 0, none⟩) s.size cap) W ∧
    (∀ j (h : j < s.size), W.cell? ⟨w.heap.size, j, none⟩ = some (.int .u8 (s[j].toNat : Int))) ∧ Below w.heap.size w W := by
  refine ⟨_, _, run_bytes_of_string w 9 38 5 s Try.underlying9 Try.underlying38 Try.underlying5, fun j h => ?_, ?_⟩
  · show (w.alloc (.cells (bytesRow s (grownCap w s.size 0 5)) 5 ((bytesRow s (grownCap w s.size 0 5)).size, (bytesRow s (grownCap w s.size 0 5)).size + 1))).cell? ⟨w.heap.size, j, none⟩ = _
    rw [World.cell?_alloc_mark, bytesRow_at s _ j h]
    rfl
  · have hb : Below w.heap.size w w.drew := (Below.refl _ _).drew
    exact hb.alloc (Nat.le_refl _) _

theorem empty_of (s : ByteArray) (h : s.size = 0) : s.toList.isEmpty = true := by
  rw [ByteArray.toList_eq, List.isEmpty_iff, ← List.length_eq_zero_iff, size_toList]; exact h

theorem nonempty_of (s : ByteArray) (h : ¬ s.size = 0) : s.toList.isEmpty = false := by
  rw [ByteArray.toList_eq, Bool.eq_false_iff]
  intro g
  rw [List.isEmpty_iff, ← List.length_eq_zero_iff, size_toList] at g
  exact h g

theorem digits_yes (s : ByteArray) (h : ¬ s.size = 0) (ha : ∀ j (hj : j < s.size), 48 ≤ (s[j].toNat : Int) ∧ (s[j].toNat : Int) ≤ 57) : digits s.data.toList = true := by
  unfold digits
  rw [Bool.and_eq_true]
  refine ⟨?_, ?_⟩
  · have := nonempty_of s h; rw [ByteArray.toList_eq] at this; rw [this]; rfl
  · rw [List.all_eq_true]
    intro x hx
    obtain ⟨j, hj, rfl⟩ := List.getElem_of_mem hx
    have := ha j (by simpa using hj)
    show decide _ = true
    rw [decide_eq_true_eq]
    have e : s.data.toList[j] = s[j]'(by simpa using hj) := rfl
    rw [e]
    omega

theorem digits_no (s : ByteArray) (j : Nat) (hj : j < s.size) (ha : ¬ (48 ≤ (s[j].toNat : Int) ∧ (s[j].toNat : Int) ≤ 57)) : digits s.data.toList = false := by
  rw [Bool.eq_false_iff]
  intro g
  unfold digits at g
  rw [Bool.and_eq_true, List.all_eq_true] at g
  have := g.2 (s.data.toList[j]'(by simpa using hj)) (List.getElem_mem _)
  have e : s.data.toList[j]'(by simpa using hj) = s[j] := rfl
  rw [e] at this
  unfold isDig at this
  rw [decide_eq_true_eq] at this
  omega

set_option maxHeartbeats 400000 in
theorem digits_any (s : ByteArray) (w : World) (hs : s.size ≤ 1048576) :
    Calls Try.prog 16 #[.string s] w fun e w' => e = .returned (.bool (digits s.data.toList)) ∧ Below w.heap.size w w' := by
  by_cases h0 : s.size = 0
  · have he := empty_of s h0
    have HD : Hid (digits s.data.toList = false) := by
      unfold digits; rw [ByteArray.toList_eq] at he; rw [he]; rfl
    go_enter Try.func16, Try.ntmps16
    go_wp2
    go_ret
    exact ⟨ret_bool HD.out.symm, Below.refl _ _⟩
  · have he := nonempty_of s h0
    obtain ⟨cap, W, hcv, hc, hb⟩ := bytes_of s w
    have HC := hide hc
    have HB := hide hb
    have HYES := hide (digits_yes s h0)
    have HNO := hide (digits_no s)
    clear hc hb
    go_enter Try.func16, Try.ntmps16
    go_wp2
    go_loop [10] (fun a => ∃ k : Nat, k ≤ s.size ∧ a = .int .i64 k ∧ Hid (∀ j (hj : j < s.size), j < k → 48 ≤ (s[j].toNat : Int) ∧ (s[j].toNat : Int) ≤ 57)) (fun a => s.size - (intOf a).toNat)
    case atStart => exact ⟨0, Nat.zero_le _, rfl, fun j _ h => by omega⟩
    case round =>
      obtain ⟨k, hk, rfl, hA⟩ := hrel
      by_cases hlt : k < s.size
      · have hc := HC.out k hlt
        by_cases h1 : (s[k].toNat : Int) < 48
        · go_wp2
          go_ret
          exact ⟨ret_bool (HNO.out k hlt (by omega)).symm, HB.out⟩
        · by_cases h2 : (57 : Int) < (s[k].toNat : Int)
          · go_wp2
            go_ret
            exact ⟨ret_bool (HNO.out k hlt (by omega)).symm, HB.out⟩
          · go_wp2
            go_round
            case rel => exact ⟨k + 1, by omega, by go_num, fun j hj hjk => by
                          by_cases e : j = k
                          · subst e; omega
                          · exact hA.out j hj (by omega)⟩
            case measure => simp [intOf]; omega
      · go_wp2
        go_ret
        exact ⟨ret_bool (HYES.out (fun j hj => hA.out j hj (by omega))).symm, HB.out⟩

set_option maxHeartbeats 400000 in
theorem zzdig_any (s : ByteArray) (w : World) (hs : s.size ≤ 1048576) :
    Calls Try.prog 7 #[.string s] w fun e w' => e = .returned (.bool (digits s.data.toList)) ∧ Below w.heap.size w w' := by
  go_enter Try.func7, Try.ntmps7
  go_wp2_with fail
  refine (digits_any s _ hs).mono ?_
  rintro e w' ⟨rfl, hb⟩
  have HB := hide hb
  clear hb
  go_wp2
  go_ret
  exact ⟨rfl, HB.out⟩

end Go.Proofs.Qxb6619682a
