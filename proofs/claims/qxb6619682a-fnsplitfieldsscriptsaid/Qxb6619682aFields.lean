/-
  The plain mathematics of split: no Go in sight.
-/
import Derived.WalkKit
namespace Go.Proofs.Qxb6619682a.Plain

/-- A space or a tab. -/
def blk (c : UInt8) : Bool := decide ((c.toNat : Int) = 32 ∨ (c.toNat : Int) = 9)
def solid (c : UInt8) : Bool := !blk c

def allB (l : List UInt8) : Bool := l.all blk

def skip (l : List UInt8) : List UInt8 := l.dropWhile blk
def fld (l : List UInt8) : List UInt8 := (skip l).takeWhile solid
def rst (l : List UInt8) : List UInt8 := (skip l).dropWhile solid

def bs (l : List UInt8) : ByteArray := ⟨l.toArray⟩
theorem bs_data (l : List UInt8) : (bs l).data.toList = l := rfl
theorem bs_size (l : List UInt8) : (bs l).size = l.length := by simp [bs, ByteArray.size]
theorem bs_self (s : ByteArray) : bs s.data.toList = s := rfl
theorem eq_bs {s : ByteArray} {l : List UInt8} (h : s.data.toList = l) : s = bs l := by rw [← h]; rfl

theorem tw_len (p : UInt8 → Bool) : ∀ (l : List UInt8) (k : Nat), k ≤ l.length → (∀ j (h : j < l.length), j < k → p l[j] = true) → (∀ h : k < l.length, p l[k] = false) → (l.takeWhile p).length = k := by
  intro l
  induction l with
  | nil => intro k hk _ _; simp at hk ⊢; omega
  | cons c t ih =>
    intro k hk h1 h2
    cases k with
    | zero => have := h2 (by simp); simp at this; simp [List.takeWhile, this]
    | succ k =>
      have h0 := h1 0 (by simp) (by omega)
      simp at h0
      simp only [List.takeWhile, h0, List.length_cons]
      rw [ih k (by simpa using hk) (fun j h hj => h1 (j + 1) (by simpa using h) (by omega)) (fun h => h2 (by simpa using h))]

theorem tw_take (p : UInt8 → Bool) (l : List UInt8) : l.take (l.takeWhile p).length = l.takeWhile p := by
  induction l with
  | nil => rfl
  | cons c t ih =>
    by_cases h : p c = true
    · simp [List.takeWhile, h, ih]
    · simp [List.takeWhile, h]

theorem dw_drop (p : UInt8 → Bool) (l : List UInt8) : l.drop (l.takeWhile p).length = l.dropWhile p := by
  induction l with
  | nil => rfl
  | cons c t ih =>
    by_cases h : p c = true
    · simp [List.takeWhile, List.dropWhile, h, ih]
    · simp [List.takeWhile, List.dropWhile, h]

theorem tw_le (p : UInt8 → Bool) (l : List UInt8) : (l.takeWhile p).length ≤ l.length := by
  induction l with
  | nil => simp
  | cons c t ih =>
    by_cases h : p c = true
    · simp [List.takeWhile, h]; exact ih
    · simp [List.takeWhile, h]

/-- Where the field begins, and where it ends. -/
def sA (l : List UInt8) : Nat := (l.takeWhile blk).length
def sB (l : List UInt8) : Nat := sA l + ((l.drop (sA l)).takeWhile solid).length

theorem sA_le (l : List UInt8) : sA l ≤ l.length := tw_le _ _
theorem sB_le (l : List UInt8) : sB l ≤ l.length := by
  have h1 := sA_le l
  have h2 := tw_le solid (l.drop (sA l))
  simp at h2
  unfold sB
  omega
theorem sA_le_sB (l : List UInt8) : sA l ≤ sB l := Nat.le_add_right _ _

theorem fld_at (l : List UInt8) : (l.drop (sA l)).take (sB l - sA l) = fld l := by
  unfold fld skip sB
  rw [Nat.add_sub_cancel_left, tw_take, show sA l = (l.takeWhile blk).length from rfl, dw_drop]

theorem rst_at (l : List UInt8) : l.drop (sB l) = rst l := by
  unfold rst skip sB
  rw [← List.drop_drop, dw_drop, show sA l = (l.takeWhile blk).length from rfl, dw_drop]

theorem sA_of (l : List UInt8) (k : Nat) (hk : k ≤ l.length) (h1 : ∀ j (h : j < l.length), j < k → blk l[j] = true) (h2 : ∀ h : k < l.length, blk l[k] = false) : sA l = k := tw_len _ _ _ hk h1 h2

theorem sB_of (l : List UInt8) (k : Nat) (hk : k ≤ l.length) (ha : sA l ≤ k) (h1 : ∀ j (h : j < l.length), sA l ≤ j → j < k → blk l[j] = false) (h2 : ∀ h : k < l.length, blk l[k] = true) : sB l = k := by
  unfold sB
  rw [tw_len solid (l.drop (sA l)) (k - sA l) (by simp; omega) (fun j h hj => ?_) (fun h => ?_)]
  · omega
  · simp at h
    have := h1 (sA l + j) (by omega) (by omega) (by omega)
    simp [solid, this]
  · simp at h
    have := h2 (by omega)
    simp only [solid, List.getElem_drop, show sA l + (k - sA l) = k from by omega, this]
    rfl

/-! ### The laws on appending -/

theorem skip_blank {l : List UInt8} (h : l.all blk = true) (m : List UInt8) : skip (l ++ m) = skip m := by
  induction l with
  | nil => rfl
  | cons c t ih =>
    simp only [List.all_cons, Bool.and_eq_true] at h
    unfold skip at ih ⊢
    rw [List.cons_append, List.dropWhile_cons, if_pos h.1]
    exact ih h.2

theorem skip_all {l : List UInt8} (h : l.all blk = true) : skip l = [] := by
  have := skip_blank h []
  rw [List.append_nil] at this
  rw [this]; rfl

theorem skip_some {l : List UInt8} (h : l.all blk = false) (m : List UInt8) : skip (l ++ m) = skip l ++ m := by
  induction l with
  | nil => simp at h
  | cons c t ih =>
    unfold skip at ih ⊢
    rw [List.cons_append, List.dropWhile_cons, List.dropWhile_cons]
    by_cases hc : blk c = true
    · rw [if_pos hc, if_pos hc]
      exact ih (by simpa [hc] using h)
    · rw [if_neg hc, if_neg hc]; rfl

theorem tw_append {x m : List UInt8} (hm : ∀ c ∈ m.head?, blk c = true) : (x ++ m).takeWhile solid = x.takeWhile solid ∧ (x ++ m).dropWhile solid = x.dropWhile solid ++ m := by
  induction x with
  | nil =>
    cases m with
    | nil => exact ⟨rfl, rfl⟩
    | cons c t =>
      have := hm c (by simp)
      simp [List.takeWhile, List.dropWhile, solid, this]
  | cons c t ih =>
    by_cases hc : solid c = true
    · simp [List.takeWhile, List.dropWhile, hc, ih.1, ih.2]
    · simp [List.takeWhile, List.dropWhile, hc]

theorem fld_append {l m : List UInt8} (h : l.all blk = false) (hm : ∀ c ∈ m.head?, blk c = true) : fld (l ++ m) = fld l := by
  unfold fld; rw [skip_some h]; exact (tw_append hm).1
theorem rst_append {l m : List UInt8} (h : l.all blk = false) (hm : ∀ c ∈ m.head?, blk c = true) : rst (l ++ m) = rst l ++ m := by
  unfold rst; rw [skip_some h]; exact (tw_append hm).2
theorem fld_skip {l m : List UInt8} (h : l.all blk = true) : fld (l ++ m) = fld m := by
  unfold fld; rw [skip_blank h]
theorem rst_skip {l m : List UInt8} (h : l.all blk = true) : rst (l ++ m) = rst m := by
  unfold rst; rw [skip_blank h]
theorem fld_blank {l : List UInt8} (h : l.all blk = true) : fld l = [] := by unfold fld; rw [skip_all h]; rfl
theorem rst_blank {l : List UInt8} (h : l.all blk = true) : rst l = [] := by unfold rst; rw [skip_all h]; rfl

theorem skip_head (l : List UInt8) (h : l.all blk = false) : ∃ c t, skip l = c :: t ∧ blk c = false := by
  induction l with
  | nil => simp at h
  | cons c t ih =>
    unfold skip
    rw [List.dropWhile_cons]
    by_cases hc : blk c = true
    · rw [if_pos hc]; exact ih (by simpa [hc] using h)
    · rw [if_neg hc]; exact ⟨c, t, rfl, by simpa using hc⟩

theorem fld_some {l : List UInt8} (h : l.all blk = false) : fld l ≠ [] := by
  obtain ⟨c, t, e, hc⟩ := skip_head l h
  unfold fld
  rw [e, List.takeWhile_cons, if_pos (by simp [solid, hc])]
  exact List.cons_ne_nil _ _

end Go.Proofs.Qxb6619682a.Plain
