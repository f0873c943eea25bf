/-
  The plain mathematics of the fields: no Go in sight.
-/
import Derived.Test.Qxb6619682aFields
namespace Go.Proofs.Qxb6619682a.Plain

/-- The fields of what follows, 'cur' being what is read of the field that is open. -/
def goF : List UInt8 → List UInt8 → List (List UInt8)
  | cur, [] => if cur = [] then [] else [cur]
  | cur, c :: t => if blk c = true then (if cur = [] then goF [] t else cur :: goF [] t) else goF (cur ++ [c]) t

def fields (l : List UInt8) : List (List UInt8) := goF [] l

theorem goF_blk {c : UInt8} (h : blk c = true) (t : List UInt8) : goF [] (c :: t) = goF [] t := by
  rw [goF, if_pos h, if_pos rfl]

theorem goF_solid {c : UInt8} (h : blk c = false) (cur t : List UInt8) : goF cur (c :: t) = goF (cur ++ [c]) t := by
  rw [goF, if_neg (by simp [h])]

theorem goF_end {cur m : List UInt8} (h : cur ≠ []) (hm : ∀ c ∈ m.head?, blk c = true) : goF cur m = cur :: goF [] m := by
  cases m with
  | nil => simp [goF, h]
  | cons b t =>
    have hb := hm b (by simp)
    rw [goF_blk hb, goF, if_pos hb, if_neg h]

theorem goF_run (x : List UInt8) (hx : ∀ c ∈ x, blk c = false) (m : List UInt8) : ∀ cur, goF cur (x ++ m) = goF (cur ++ x) m := by
  induction x with
  | nil => intro cur; simp
  | cons c t ih =>
    intro cur
    rw [List.cons_append, goF_solid (hx c (by simp)), ih (fun d hd => hx d (by simp [hd]))]
    simp

theorem goF_skip (l : List UInt8) : goF [] l = goF [] (skip l) := by
  induction l with
  | nil => rfl
  | cons c t ih =>
    unfold skip
    rw [List.dropWhile_cons]
    by_cases h : blk c = true
    · rw [if_pos h, goF_blk h]; exact ih
    · rw [if_neg h]

theorem fields_blank {l : List UInt8} (h : l.all blk = true) : fields l = [] := by
  unfold fields
  rw [goF_skip, skip_all h]; rfl

theorem fld_rst (l : List UInt8) : fld l ++ rst l = skip l := List.takeWhile_append_dropWhile

theorem solid_fld (l : List UInt8) : ∀ c ∈ fld l, blk c = false := by
  intro c hc
  have : solid c = true := by
    unfold fld at hc
    generalize skip l = x at hc
    induction x with
    | nil => simp at hc
    | cons d t ih =>
      rw [List.takeWhile_cons] at hc
      by_cases hd : solid d = true
      · rw [if_pos hd] at hc
        rcases List.mem_cons.1 hc with rfl | hc
        · exact hd
        · exact ih hc
      · rw [if_neg hd] at hc; simp at hc
  simpa [solid] using this

theorem head_rst (l : List UInt8) : ∀ c ∈ (rst l).head?, blk c = true := by
  intro c hc
  unfold rst at hc
  generalize skip l = x at hc
  induction x with
  | nil => simp at hc
  | cons d t ih =>
    rw [List.dropWhile_cons] at hc
    by_cases hd : solid d = true
    · rw [if_pos hd] at hc; exact ih hc
    · rw [if_neg hd] at hc
      simp at hc
      subst hc
      simpa [solid] using hd

theorem fields_some {l : List UInt8} (h : l.all blk = false) : fields l = fld l :: fields (rst l) := by
  unfold fields
  rw [goF_skip, ← fld_rst, goF_run _ (solid_fld l), List.nil_append, goF_end (fld_some h) (head_rst l)]

theorem rst_lt {l : List UInt8} (h : l.all blk = false) : (rst l).length < l.length := by
  have h1 := fld_some h
  have h2 : (fld l).length + (rst l).length = (skip l).length := by rw [← fld_rst, List.length_append]
  have h3 : (skip l).length ≤ l.length := by unfold skip; rw [← dw_drop]; simp
  have h4 : 0 < (fld l).length := List.length_pos_iff.2 h1
  omega

theorem split_len (l : List UInt8) : sA l + ((fld l).length + (rst l).length) = l.length := by
  have h2 : (fld l).length + (rst l).length = (skip l).length := by rw [← fld_rst, List.length_append]
  have h3 : (skip l).length = l.length - sA l := by unfold skip sA; rw [← dw_drop]; simp
  have := sA_le l
  omega

theorem sB_eq (l : List UInt8) : sB l = sA l + (fld l).length := by
  unfold sB fld skip
  rw [show sA l = (l.takeWhile blk).length from rfl, dw_drop]

theorem take_blank (l : List UInt8) : (l.take (sA l)).all blk = true := by
  unfold sA
  rw [tw_take]
  rw [List.all_eq_true]
  intro c hc
  induction l with
  | nil => simp at hc
  | cons d t ih =>
    rw [List.takeWhile_cons] at hc
    by_cases hd : blk d = true
    · rw [if_pos hd] at hc
      rcases List.mem_cons.1 hc with rfl | hc
      · exact hd
      · exact ih hc
    · rw [if_neg hd] at hc; simp at hc

theorem goF_len (l : List UInt8) : ∀ cur, (goF cur l).length ≤ l.length + (if cur = [] then 0 else 1) := by
  induction l with
  | nil => intro cur; rw [goF]; split <;> simp
  | cons c t ih =>
    intro cur
    rw [goF]
    split
    · split
      · have := ih []; simp at this ⊢; omega
      · have := ih []; simp at this ⊢; omega
    · have := ih (cur ++ [c])
      rw [if_neg (by simp)] at this
      simp only [List.length_cons]
      omega

theorem fields_len (l : List UInt8) : (fields l).length ≤ l.length := by
  have := goF_len l []
  rw [if_pos rfl] at this
  exact this

/-! ### The scan by word boundaries -/

/-- Is place i a blank one, or behind the end? -/
def bl (l : List UInt8) (i : Nat) : Bool := match l[i]? with | some c => blk c | none => true

theorem bl_at {l : List UInt8} {i : Nat} (h : i < l.length) : bl l i = blk l[i] := by
  unfold bl; rw [List.getElem?_eq_getElem h]
theorem bl_end {l : List UInt8} {i : Nat} (h : l.length ≤ i) : bl l i = true := by
  unfold bl; rw [List.getElem?_eq_none h]

theorem head_drop {l : List UInt8} {i : Nat} (h : bl l i = true) : ∀ c ∈ (l.drop i).head?, blk c = true := by
  intro c hc
  rw [List.head?_drop] at hc
  unfold bl at h
  rw [Option.mem_def.1 hc] at h
  exact h

/-- What the scan has found when it stands at place i: 'out' the fields that are closed, 'st' where the open one began. -/
def Scan (l : List UInt8) (i st : Nat) (out : List (List UInt8)) : Prop :=
  ∃ cur, out ++ goF cur (l.drop i) = fields l ∧ out.length ≤ i ∧
    ((cur = [] ∧ (bl l i = true ∨ i = 0 ∨ bl l (i - 1) = true)) ∨ (bl l i = false ∧ 0 < i ∧ bl l (i - 1) = false ∧ st < i ∧ cur = (l.drop st).take (i - st)))

theorem Scan.start (l : List UInt8) : Scan l 0 0 [] := ⟨[], rfl, Nat.le_refl _, Or.inl ⟨rfl, Or.inr (Or.inl rfl)⟩⟩

theorem Scan.done {l : List UInt8} {i st : Nat} {out : List (List UInt8)} (h : Scan l i st out) (hi : l.length ≤ i) : out = fields l := by
  obtain ⟨cur, h1, _, h2⟩ := h
  rcases h2 with ⟨rfl, _⟩ | ⟨h3, _⟩
  · rw [List.drop_eq_nil_of_le hi] at h1; simpa [goF] using h1
  · rw [bl_end hi] at h3; cases h3

theorem Scan.blank {l : List UInt8} {i st : Nat} {out : List (List UInt8)} (h : Scan l i st out) (hi : i < l.length) (hb : bl l i = true) : Scan l (i + 1) st out := by
  obtain ⟨cur, h1, h0, h2⟩ := h
  rcases h2 with ⟨rfl, _⟩ | ⟨h3, _⟩
  · refine ⟨[], ?_, by omega, Or.inl ⟨rfl, Or.inr (Or.inr hb)⟩⟩
    rw [List.drop_eq_getElem_cons hi, goF_blk (by rw [← bl_at hi]; exact hb)] at h1
    exact h1
  · rw [hb] at h3; cases h3

/-- The field that is open at the solid place i, this place with it: it began at s. -/
theorem Scan.piece {l : List UInt8} {i st s : Nat} {out : List (List UInt8)} (h : Scan l i st out) (hi : i < l.length) (hb : bl l i = false)
    (hs : (s = i ∧ (i = 0 ∨ bl l (i - 1) = true)) ∨ (s = st ∧ 0 < i ∧ bl l (i - 1) = false)) :
    s ≤ i ∧ out ++ goF ((l.drop s).take (i + 1 - s)) (l.drop (i + 1)) = fields l ∧ out.length ≤ i := by
  obtain ⟨cur, h1, h0, h2⟩ := h
  rw [List.drop_eq_getElem_cons hi, goF_solid (by rw [← bl_at hi]; exact hb)] at h1
  rcases hs with ⟨rfl, ho⟩ | ⟨rfl, ho1, ho2⟩
  · rcases h2 with ⟨rfl, _⟩ | ⟨_, h3, h4, _⟩
    · refine ⟨Nat.le_refl _, ?_, h0⟩
      have e : (l.drop s).take (s + 1 - s) = [] ++ [l[s]] := by
        rw [List.drop_eq_getElem_cons hi, Nat.add_sub_cancel_left]; rfl
      rw [e]; exact h1
    · rcases ho with ho | ho
      · omega
      · rw [h4] at ho; cases ho
  · rcases h2 with ⟨_, h3⟩ | ⟨_, _, _, h5, h6⟩
    · rcases h3 with h3 | h3 | h3
      · rw [hb] at h3; cases h3
      · omega
      · rw [ho2] at h3; cases h3
    · refine ⟨by omega, ?_, h0⟩
      have e : (l.drop s).take (i + 1 - s) = cur ++ [l[i]] := by
        rw [h6, show i + 1 - s = (i - s) + 1 from by omega, List.take_succ_eq_append_getElem (by simp; omega)]
        simp [show s + (i - s) = i from by omega]
      rw [e]; exact h1

theorem Scan.close {l : List UInt8} {i st s : Nat} {out : List (List UInt8)} (h : Scan l i st out) (hi : i < l.length) (hb : bl l i = false)
    (hs : (s = i ∧ (i = 0 ∨ bl l (i - 1) = true)) ∨ (s = st ∧ 0 < i ∧ bl l (i - 1) = false)) (hc : bl l (i + 1) = true) : Scan l (i + 1) s (out ++ [(l.drop s).take (i + 1 - s)]) := by
  obtain ⟨h1, h2, h3⟩ := h.piece hi hb hs
  refine ⟨[], ?_, by simp; omega, Or.inl ⟨rfl, Or.inl hc⟩⟩
  rw [goF_end ?_ (head_drop hc)] at h2
  · rw [List.append_assoc]; exact h2
  · intro g
    have := congrArg List.length g
    simp at this
    omega

theorem Scan.go {l : List UInt8} {i st s : Nat} {out : List (List UInt8)} (h : Scan l i st out) (hi : i < l.length) (hb : bl l i = false)
    (hs : (s = i ∧ (i = 0 ∨ bl l (i - 1) = true)) ∨ (s = st ∧ 0 < i ∧ bl l (i - 1) = false)) (hc : bl l (i + 1) = false) : Scan l (i + 1) s out := by
  obtain ⟨h1, h2, h3⟩ := h.piece hi hb hs
  exact ⟨_, h2, by omega, Or.inr ⟨hc, by omega, by rw [Nat.add_sub_cancel]; exact hb, by omega, rfl⟩⟩

end Go.Proofs.Qxb6619682a.Plain
