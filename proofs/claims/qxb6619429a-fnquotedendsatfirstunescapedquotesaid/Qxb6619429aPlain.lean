/-
  The plain mathematics of the seat b6619429a: no Go in sight.
-/
import Derived.WalkKit
namespace Go.Proofs.Qxb6619429a.Plain

/-- How many bytes of what stands behind the opening quote the quoted text takes, its closing quote included. -/
def qscan (q : UInt8) (esc : Bool) : List UInt8 → Nat
  | [] => 0
  | [_] => 1
  | c :: d :: t => if (esc && c == 92) = true then 2 + qscan q esc t else if (c == q) = true then 1 else 1 + qscan q esc (d :: t)

theorem qscan_le (q : UInt8) (esc : Bool) (l : List UInt8) : qscan q esc l ≤ l.length := by
  induction l using qscan.induct q esc with
  | case1 => simp [qscan]
  | case2 => simp [qscan]
  | case3 c d t h ih => rw [qscan, if_pos h]; simp; omega
  | case4 c d t h h2 => rw [qscan, if_neg h, if_pos h2]; simp
  | case5 c d t h h2 ih => rw [qscan, if_neg h, if_neg h2]; simp at ih ⊢; omega

theorem qscan_pos (q : UInt8) (esc : Bool) (c : UInt8) (t : List UInt8) : 1 ≤ qscan q esc (c :: t) := by
  cases t with
  | nil => simp [qscan]
  | cons d t => rw [qscan]; split <;> (try split) <;> omega

theorem qscan_take (q : UInt8) (esc : Bool) (l : List UInt8) : ∀ n, qscan q esc (l.take n) = min n (qscan q esc l) := by
  induction l using qscan.induct q esc with
  | case1 => intro n; simp [qscan]
  | case2 c => intro n; cases n with
    | zero => simp [qscan]
    | succ n => simp [qscan]
  | case3 c d t h ih =>
    intro n
    match n with
    | 0 => simp [qscan]
    | 1 => rw [qscan, if_pos h]; simp [qscan]; omega
    | n + 2 => rw [List.take_succ_cons, List.take_succ_cons, qscan, if_pos h, qscan, if_pos h, ih]; omega
  | case4 c d t h h2 =>
    intro n
    match n with
    | 0 => simp [qscan]
    | 1 => rw [qscan, if_neg h, if_pos h2]; simp [qscan]
    | n + 2 => rw [List.take_succ_cons, List.take_succ_cons, qscan, if_neg h, if_pos h2, qscan, if_neg h, if_pos h2]; omega
  | case5 c d t h h2 ih =>
    intro n
    match n with
    | 0 => simp [qscan]
    | 1 => have := qscan_pos q esc d t; rw [qscan, if_neg h, if_neg h2]; simp [qscan]
    | n + 2 =>
      have := ih (n + 1)
      rw [List.take_succ_cons] at this
      rw [List.take_succ_cons, List.take_succ_cons, qscan, if_neg h, if_neg h2, qscan, if_neg h, if_neg h2, this]; omega

/-- The quoted text's length. -/
def qlen (esc : Bool) : List UInt8 → Nat
  | [] => 0
  | q :: t => 1 + qscan q esc t

theorem qlen_le (esc : Bool) (l : List UInt8) : qlen esc l ≤ l.length := by
  cases l with
  | nil => simp [qlen]
  | cons q t => have := qscan_le q esc t; simp [qlen]; omega

theorem qlen_lo (esc : Bool) (l : List UInt8) (h : 2 ≤ l.length) : 2 ≤ qlen esc l := by
  match l, h with
  | q :: c :: t, _ => have := qscan_pos q esc c t; simp only [qlen]; omega

theorem qlen_one (esc : Bool) (l : List UInt8) (h : 1 ≤ l.length) : 1 ≤ qlen esc l := by
  match l, h with
  | q :: t, _ => simp only [qlen]; omega

theorem qlen_take (esc : Bool) (l : List UInt8) (n : Nat) : qlen esc (l.take n) = min n (qlen esc l) := by
  match l, n with
  | [], n => simp [qlen]
  | q :: t, 0 => simp [qlen]
  | q :: t, n + 1 => rw [List.take_succ_cons, qlen, qlen, qscan_take]; omega

/-- The answer that the loop's place k leads to. -/
def qAt (q : UInt8) (esc : Bool) (l : List UInt8) (k : Nat) : Nat := min l.length (k + qscan q esc (l.drop k))

theorem drop_at (l : List UInt8) (k : Nat) (h : k < l.length) : l.drop k = l[k] :: l.drop (k + 1) := List.drop_eq_getElem_cons h

theorem qAt_start (esc : Bool) (q : UInt8) (t : List UInt8) : qAt q esc (q :: t) 1 = qlen esc (q :: t) := by
  have := qscan_le q esc t
  simp [qAt, qlen]; omega

theorem qAt_end (q : UInt8) (esc : Bool) (l : List UInt8) (k : Nat) (h : l.length ≤ k) : qAt q esc l k = l.length := by
  unfold qAt; omega

theorem qAt_skip (q : UInt8) (esc : Bool) (l : List UInt8) (k : Nat) (h : k < l.length) (h1 : (esc && l[k] == 92) = true) : qAt q esc l (k + 2) = qAt q esc l k := by
  unfold qAt
  rw [drop_at l k h]
  by_cases h2 : k + 1 < l.length
  · rw [drop_at l (k + 1) h2, qscan, if_pos h1, show k + 1 + 1 = k + 2 from rfl]; omega
  · rw [List.drop_eq_nil_of_le (by omega : l.length ≤ k + 1), List.drop_eq_nil_of_le (by omega : l.length ≤ k + 2)]
    simp [qscan]; omega

theorem qAt_quote (q : UInt8) (esc : Bool) (l : List UInt8) (k : Nat) (h : k < l.length) (h1 : (esc && l[k] == 92) = false) (h2 : (l[k] == q) = true) : qAt q esc l k = k + 1 := by
  unfold qAt
  rw [drop_at l k h]
  by_cases h3 : k + 1 < l.length
  · rw [drop_at l (k + 1) h3, qscan, if_neg (by simp [h1]), if_pos h2]; omega
  · rw [List.drop_eq_nil_of_le (by omega : l.length ≤ k + 1)]
    simp [qscan]; omega

theorem qAt_next (q : UInt8) (esc : Bool) (l : List UInt8) (k : Nat) (h : k < l.length) (h1 : (esc && l[k] == 92) = false) (h2 : (l[k] == q) = false) : qAt q esc l (k + 1) = qAt q esc l k := by
  unfold qAt
  rw [drop_at l k h]
  by_cases h3 : k + 1 < l.length
  · rw [drop_at l (k + 1) h3, qscan, if_neg (by simp [h1]), if_neg (by simp [h2])]; omega
  · rw [List.drop_eq_nil_of_le (by omega : l.length ≤ k + 1)]
    simp [qscan]

/-! ### The scan by parity -/
def pscan (q : UInt8) (esc : Bool) : Nat → List UInt8 → Nat
  | _, [] => 0
  | run, c :: t => if (c == q && (!esc || (!(c == 92) && run % 2 == 0))) = true then 1 else 1 + pscan q esc (if (c == 92) = true then run + 1 else 0) t

theorem pscan_eq (q : UInt8) (esc : Bool) (l : List UInt8) : ∀ run, run % 2 = 0 → pscan q esc run l = qscan q esc l := by
  induction l using qscan.induct q esc with
  | case1 => intro run _; simp [pscan, qscan]
  | case2 c => intro run _; simp only [pscan, qscan]; split <;> rfl
  | case3 c d t h ih =>
    intro run hr
    simp only [Bool.and_eq_true, beq_iff_eq] at h
    obtain ⟨he, hc⟩ := h
    subst he hc
    have h1 : (run + 1) % 2 = 1 := by omega
    rw [qscan, if_pos (by rfl), pscan, if_neg (by simp), pscan, if_neg (by simp [h1]), ih]
    · omega
    · split
      · simp; omega
      · rfl
  | case4 c d t h h2 =>
    intro run hr
    rw [qscan, if_neg h, if_pos h2, pscan, if_pos]
    cases esc <;> simp_all
  | case5 c d t h h2 ih =>
    intro run hr
    rw [qscan, if_neg h, if_neg h2, pscan, if_neg (by simp_all)]
    cases esc with
    | false =>
      have : ∀ r, pscan q false r (d :: t) = pscan q false 0 (d :: t) := by
        intro r
        have g : ∀ (l : List UInt8) r, pscan q false r l = pscan q false 0 l := by
          intro l
          induction l with
          | nil => intro r; rfl
          | cons c t ih => intro r; simp only [pscan]; rw [ih (if (c == 92) = true then r + 1 else 0), ih (if (c == 92) = true then 0 + 1 else 0)]; simp
        exact g _ r
      rw [this, ih 0 rfl]
    | true =>
      have hc : (c == 92) = false := by simpa using h
      rw [hc, if_neg (by simp), ih 0 rfl]

/-- The answer that the parity loop's place k, with its run, leads to. -/
def pAt (q : UInt8) (esc : Bool) (l : List UInt8) (k run : Nat) : Nat := k + pscan q esc run (l.drop k)

theorem pAt_start (esc : Bool) (q : UInt8) (t : List UInt8) : pAt q esc (q :: t) 1 0 = qlen esc (q :: t) := by
  simp [pAt, qlen, pscan_eq]

theorem pAt_end (q : UInt8) (esc : Bool) (l : List UInt8) (k run : Nat) (h : k = l.length) : pAt q esc l k run = l.length := by
  subst h; simp [pAt, pscan]

theorem pAt_quote (q : UInt8) (esc : Bool) (l : List UInt8) (k run : Nat) (h : k < l.length) (h1 : (l[k] == q && (!esc || (!(l[k] == 92) && run % 2 == 0))) = true) : pAt q esc l k run = k + 1 := by
  unfold pAt; rw [drop_at l k h, pscan, if_pos h1]

theorem pAt_next (q : UInt8) (esc : Bool) (l : List UInt8) (k run : Nat) (h : k < l.length) (h1 : (l[k] == q && (!esc || (!(l[k] == 92) && run % 2 == 0))) = false) : pAt q esc l (k + 1) (if (l[k] == 92) = true then run + 1 else 0) = pAt q esc l k run := by
  unfold pAt; rw [drop_at l k h, pscan, if_neg (c := (l[k] == q && (!esc || (!(l[k] == 92) && run % 2 == 0))) = true) (by simp only [h1]; decide)]; omega

end Go.Proofs.Qxb6619429a.Plain
