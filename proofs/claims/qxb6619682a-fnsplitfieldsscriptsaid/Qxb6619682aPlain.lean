/-
  The plain mathematics of the seat b6619682a: no Go in sight.
-/
import Derived.WalkKit
namespace Go.Proofs.Qxb6619682a.Plain

/-! ### Digits -/
def isDig (c : UInt8) : Bool := decide (48 ≤ c.toNat ∧ c.toNat ≤ 57)

def digits (l : List UInt8) : Bool := !l.isEmpty && l.all isDig

def count : List UInt8 → Nat
  | [] => 0
  | c :: t => (if isDig c = true then 1 else 0) + count t

theorem count_append (a b : List UInt8) : count (a ++ b) = count a + count b := by
  induction a with
  | nil => simp [count]
  | cons c t ih => simp only [List.cons_append, count, ih]; omega

theorem count_le (l : List UInt8) : count l ≤ l.length := by
  induction l with
  | nil => simp [count]
  | cons c t ih => simp only [count, List.length_cons]; split <;> omega

theorem count_take (l : List UInt8) (k : Nat) (h : k < l.length) : count (l.take (k + 1)) = count (l.take k) + if isDig l[k] = true then 1 else 0 := by
  rw [List.take_succ_eq_append_getElem h, count_append]; simp [count]

theorem all_iff (l : List UInt8) : l.all isDig = true ↔ count l = l.length := by
  induction l with
  | nil => simp [count]
  | cons c t ih =>
    have := count_le t
    simp only [List.all_cons, Bool.and_eq_true, ih, count, List.length_cons]
    by_cases h : isDig c = true
    · rw [if_pos h]; exact ⟨fun g => by omega, fun g => ⟨h, by omega⟩⟩
    · rw [if_neg h]; exact ⟨fun g => absurd g.1 h, fun g => by omega⟩

theorem digits_iff (l : List UInt8) : digits l = true ↔ 0 < l.length ∧ count l = l.length := by
  unfold digits
  rw [Bool.and_eq_true, all_iff]
  cases l with
  | nil => simp
  | cons c t => simp

theorem digits_one (c : UInt8) : digits [c] = isDig c := by simp [digits]

theorem all_split (l : List UInt8) (k : Nat) : l.all isDig = ((l.take k).all isDig && (l.drop k).all isDig) := by
  rw [← List.all_append, List.take_append_drop]

/-- An empty piece counts as passing. -/
theorem digits_cut (l : List UInt8) (k : Nat) (h : k ≤ l.length) (h0 : 0 < l.length) :
    digits l = ((decide (k = 0) || digits (l.take k)) && (decide (k = l.length) || digits (l.drop k))) := by
  have e1 : digits l = l.all isDig := by
    unfold digits
    cases l with
    | nil => simp at h0
    | cons c t => rfl
  have e2 : (decide (k = 0) || digits (l.take k)) = (l.take k).all isDig := by
    by_cases hk : k = 0
    · subst hk; simp
    · unfold digits
      have : (l.take k).isEmpty = false := by
        cases l with
        | nil => simp at h0
        | cons c t => cases k with
          | zero => exact absurd rfl hk
          | succ k => rfl
      simp [hk, this]
  have e3 : (decide (k = l.length) || digits (l.drop k)) = (l.drop k).all isDig := by
    by_cases hk : k = l.length
    · subst hk; simp
    · unfold digits
      have : (l.drop k).isEmpty = false := by
        rw [List.isEmpty_eq_false_iff_exists_mem]
        exact ⟨_, List.getElem_mem (show 0 < (l.drop k).length by simp; omega)⟩
      simp [hk, this]
  rw [e1, e2, e3, all_split l k]

end Go.Proofs.Qxb6619682a.Plain
