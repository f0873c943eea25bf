/-
  The plain mathematics of the seat b6619446a: no Go in sight.
-/
import Derived.WalkKit
namespace Go.Proofs.Qxb6619446a.Plain

/-- What a byte, as a number, adds to the text's length when it is quoted. -/
def extra (c : Int) : Nat :=
  if c = 34 ∨ c = 92 ∨ c = 8 ∨ c = 12 ∨ c = 10 ∨ c = 13 ∨ c = 9 then 1 else if c < 32 then 5 else 0

theorem extra_le (c : Int) : extra c ≤ 5 := by
  unfold extra; split <;> (try split) <;> omega

def cost : List UInt8 → Nat
  | [] => 0
  | c :: t => extra (c.toNat : Int) + cost t

theorem cost_append (a b : List UInt8) : cost (a ++ b) = cost a + cost b := by
  induction a with
  | nil => simp [cost]
  | cons c t ih => simp only [List.cons_append, cost, ih]; omega

theorem cost_le (l : List UInt8) : cost l ≤ 5 * l.length := by
  induction l with
  | nil => simp [cost]
  | cons c t ih => have := extra_le (c.toNat : Int); simp only [cost, List.length_cons]; omega

theorem cost_take (l : List UInt8) (k : Nat) (h : k < l.length) : cost (l.take (k + 1)) = cost (l.take k) + extra (l[k].toNat : Int) := by
  rw [List.take_succ_eq_append_getElem h, cost_append]; simp [cost]

theorem cost_cut (l : List UInt8) (k : Nat) : cost (l.take k) + cost (l.drop k) = cost l := by
  rw [← cost_append, List.take_append_drop]

end Go.Proofs.Qxb6619446a.Plain
