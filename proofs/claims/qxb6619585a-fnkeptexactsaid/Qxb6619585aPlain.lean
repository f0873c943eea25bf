/-
  The plain mathematics of the seat b6619585a: no Go in sight.
-/
import Derived.WalkKit
namespace Go.Proofs.Qxb6619585a

/-- The next number ahead of the damaged end. -/
def preF (nx : Int) (n : Nat) (Z : Nat → Int) : Int :=
  if n = 0 then max nx 1 else max (max nx 1) (IntKind.u64.wrap (Z (n - 1) + 1))

/-- The next number, by the model's own words. -/
def nextF (nx de : Int) (n : Nat) (Z : Nat → Int) : Int := IntKind.u64.wrap (preF nx n Z + IntKind.u64.wrap de)

theorem if_max (nx : Int) : (if nx < 1 then (1 : Int) else nx) = max nx 1 := by
  split <;> omega

theorem preF_zero (nx : Int) (Z : Nat → Int) : preF nx 0 Z = (if nx < 1 then (1 : Int) else nx) := by
  rw [if_max]; rfl

theorem preF_pos (nx : Int) (n : Nat) (Z : Nat → Int) (h : 0 < n) : preF nx n Z = max (if nx < 1 then (1 : Int) else nx) (IntKind.u64.wrap (Z (n - 1) + 1)) := by
  rw [if_max]; unfold preF; rw [if_neg (by omega)]

/-- Record j lies within the header's capacity of the last one. -/
def Near (hc : Int) (n : Nat) (Z : Nat → Int) (j : Nat) : Prop := IntKind.u64.wrap (Z (n - 1) - Z j) < IntKind.u64.wrap hc

/-- The loop that drops records drops record j when it comes to it. -/
def Drop (hc cp : Int) (n : Nat) (Z : Nat → Int) (j : Nat) : Prop := ¬ Near hc n Z j ∨ cp < ((n - j : Nat) : Int)

/-- K is where what is kept begins. -/
def Start (hc cp : Int) (n : Nat) (Z : Nat → Int) (K : Nat) : Prop :=
  K ≤ n ∧ (∀ j, j < K → Drop hc cp n Z j) ∧ (K < n → ¬ Drop hc cp n Z K)

theorem Start.unique {hc cp : Int} {n : Nat} {Z : Nat → Int} {K K' : Nat} (h : Start hc cp n Z K) (h' : Start hc cp n Z K') : K = K' := by
  obtain ⟨a, b, c⟩ := h
  obtain ⟨a', b', c'⟩ := h'
  rcases Nat.lt_trichotomy K K' with g | g | g
  · exact absurd (b' K g) (c (by omega))
  · exact g
  · exact absurd (b K' g) (c' (by omega))

/-- What the scan from the back finds. -/
theorem Start.of_scan {hc cp : Int} {n : Nat} {Z : Nat → Int} {lo k : Nat} (hlo : (lo : Int) = if cp < n then (n : Int) - cp else 0) (_h0 : 0 ≤ cp) (h1 : lo ≤ k) (h2 : k ≤ n)
    (h3 : ∀ j, lo ≤ j → j < k → ¬ Near hc n Z j) (h4 : k < n → Near hc n Z k) : Start hc cp n Z k := by
  refine ⟨h2, fun j hj => ?_, fun hk => ?_⟩
  · by_cases g : lo ≤ j
    · exact Or.inl (h3 j g hj)
    · right
      split at hlo <;> omega
  · intro hd
    rcases hd with hd | hd
    · exact hd (h4 hk)
    · split at hlo <;> omega

theorem Start.none {hc cp : Int} {n : Nat} {Z : Nat → Int} (h : n = 0 ∨ cp < 0) : Start hc cp n Z n :=
  ⟨Nat.le_refl _, fun j hj => Or.inr (by omega), fun h => absurd h (Nat.lt_irrefl _)⟩

theorem wrap_id {x : Int} (h0 : 0 ≤ x) (h1 : x < 18446744073709551616) : IntKind.u64.wrap x = x := by
  rw [IntKind.wrap_u64]; omega

/-- Where the numbers rise, the later record is near if the earlier is. -/
theorem Near.later {hc : Int} {n : Nat} {Z : Nat → Int} (hZ : ∀ j, j < n → 0 ≤ Z j ∧ Z j < 18446744073709551616) (hs : ∀ j, j + 1 < n → Z j ≤ Z (j + 1)) {a b : Nat} (hab : a ≤ b) (hb : b < n) (h : Near hc n Z a) : Near hc n Z b := by
  have mono : ∀ d i, i + d < n → Z i ≤ Z (i + d) := by
    intro d
    induction d with
    | zero => intro i _; exact Int.le_refl _
    | succ d ih => intro i hi; exact Int.le_trans (ih i (by omega)) (hs (i + d) (by omega))
  have h1 := mono (b - a) a (by omega)
  rw [show a + (b - a) = b from by omega] at h1
  have h2 := mono (n - 1 - b) b (by omega)
  rw [show b + (n - 1 - b) = n - 1 from by omega] at h2
  have za := hZ a (by omega)
  have zb := hZ b hb
  have zn := hZ (n - 1) (by omega)
  unfold Near at h ⊢
  rw [wrap_id (by omega) (by omega)] at h ⊢
  omega

/-- What is kept at the smaller capacity is the end of what is kept at the greater. -/
theorem shrink {hc sm bg : Int} {n : Nat} {Z : Nat → Int} {K1 K2 : Nat} (hZ : ∀ j, j < n → 0 ≤ Z j ∧ Z j < 18446744073709551616) (hs : ∀ j, j + 1 < n → Z j ≤ Z (j + 1)) (hsb : sm ≤ bg)
    (h1 : Start hc sm n Z K1) (h2 : Start hc bg n Z K2) : K2 ≤ K1 ∧ (if (if sm < 0 then 0 else sm) > ((n - K2 : Nat) : Int) then ((n - K2 : Nat) : Int) else (if sm < 0 then 0 else sm)) = ((n - K1 : Nat) : Int) := by
  obtain ⟨a1, b1, c1⟩ := h1
  obtain ⟨a2, b2, c2⟩ := h2
  have le1 : K1 < n → ((n - K1 : Nat) : Int) ≤ sm := by
    intro h
    have := c1 h
    unfold Drop at this
    omega
  have near1 : K1 < n → Near hc n Z K1 := by
    intro h
    have := c1 h
    unfold Drop at this
    exact Classical.byContradiction fun g => this (Or.inl g)
  have near2 : K2 < n → Near hc n Z K2 := by
    intro h
    have := c2 h
    unfold Drop at this
    exact Classical.byContradiction fun g => this (Or.inl g)
  have le2 : K2 ≤ K1 := by
    by_cases g : K2 ≤ K1
    · exact g
    · rcases b2 K1 (by omega) with h | h
      · exact absurd (near1 (by omega)) h
      · have := le1 (by omega); omega
  refine ⟨le2, ?_⟩
  have key : K2 < K1 → ((n - K1 : Nat) : Int) < sm → False := by
    intro hK hlt
    rcases b1 (K1 - 1) (by omega) with h | h
    · exact h (Near.later hZ hs (show K2 ≤ K1 - 1 by omega) (by omega) (near2 (by omega)))
    · omega
  by_cases g0 : K1 < n
  · have := le1 g0
    by_cases g1 : K2 < K1
    · have := Int.not_lt.1 (fun h => key g1 h)
      split <;> split <;> omega
    · split <;> split <;> omega
  · by_cases g1 : K2 < K1
    · have := Int.not_lt.1 (fun h => key g1 h)
      split <;> split <;> omega
    · split <;> split <;> omega

def sumTo (ln : Nat → Nat) : Nat → Nat
  | 0 => 0
  | k + 1 => sumTo ln k + ln k

theorem sumTo_mono (ln : Nat → Nat) {a b : Nat} (h : a ≤ b) : sumTo ln a ≤ sumTo ln b := by
  induction b with
  | zero => have : a = 0 := by omega
            subst this; exact Nat.le_refl _
  | succ b ih =>
    by_cases g : a = b + 1
    · subst g; exact Nat.le_refl _
    · have := ih (by omega); simp only [sumTo]; omega

theorem le_sumTo (ln : Nat → Nat) {j n : Nat} (h : j < n) : ln j ≤ sumTo ln n := by
  have := sumTo_mono ln (show j + 1 ≤ n from h); simp only [sumTo] at this; omega

theorem sumTo_shift (ln : Nat → Nat) (K : Nat) : ∀ m, sumTo (fun j => ln (K + j)) m + sumTo ln K = sumTo ln (K + m)
  | 0 => by simp [sumTo]
  | m + 1 => by
    have := sumTo_shift ln K m
    show sumTo (fun j => ln (K + j)) m + ln (K + m) + sumTo ln K = sumTo ln (K + m) + ln (K + m)
    omega

theorem sumTo_shift_le (ln : Nat → Nat) (K m n : Nat) (h : K + m ≤ n) : sumTo (fun j => ln (K + j)) m ≤ sumTo ln n := by
  have h1 := sumTo_shift ln K m
  have h2 := sumTo_mono ln h
  omega

end Go.Proofs.Qxb6619585a
