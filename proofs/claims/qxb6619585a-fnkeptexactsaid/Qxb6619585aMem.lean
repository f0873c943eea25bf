/-
  What the walks of kept and ZZKept say of memory.
-/
import Derived.Test.Qxb6619585aWalka
import Derived.Deep.OwnRows
import Derived.Deep.DeepCutAuto
import Derived.Deep.CutBlock
import Derived.BigRegion
namespace Go.Proofs.Qxb6619585a
open Go.RowKit

theorem info5 : (Try.prog.info? 5).map (fun i => (i.zero, i.size, i.bytes)) = some (some (.int .u8 0), 1, 1) := by kernel_rfl
theorem info22 : (Try.prog.info? 22).map (fun i => (i.zero, i.size, i.bytes)) = some (some (.int .u64 0), 1, 8) := by kernel_rfl
theorem info32 : (Try.prog.info? 32).map (fun i => (i.zero, i.size, i.bytes)) = some (some (.slice none 0 0), 1, 24) := by kernel_rfl
theorem info36 : (Try.prog.info? 36).map (fun i => (i.zero, i.size, i.bytes)) = some (some (.agg #[.int .u64 0, .slice none 0 0]), 2, 32) := by kernel_rfl

/-- make([]record, m) -/
theorem make_recs (m : Nat) (hm : m ≤ 65536) (w : World) :
    (Instr.makeSlice 34 (.int .i64 (m : Int)) (.int .i64 (m : Int))).run Try.prog w = .ok (.slice (some ⟨w.heap.size, 0, none⟩) m m) (w.alloc (.cells (madeCells #[.int .u64 0, .slice none 0 0] (m * 2)) 36)) := by
  obtain ⟨i, hi, hz, hs, hb⟩ := info_parts info36
  have hr := run_make (P := Try.prog) w 34 36 i _ Try.underlying34 hi hz .i64 .i64 (m : Int) (m : Int) (by omega) (by omega) (by rw [hb]; omega) (by omega)
  rw [hs] at hr
  exact hr

/-- make([]byte, 0, s) -/
theorem make_bytes (s : Nat) (hs' : s ≤ 1048576) (w : World) :
    (Instr.makeSlice 32 (.int .i64 0) (.int .i64 (s : Int))).run Try.prog w = .ok (.slice (some ⟨w.heap.size, 0, none⟩) 0 s) (w.alloc (.cells (madeCells #[.int .u8 0] s) 5)) := by
  obtain ⟨i, hi, hz, hs, hb⟩ := info_parts info5
  have hr := run_make (P := Try.prog) w 32 5 i _ Try.underlying32 hi hz .i64 .i64 0 (s : Int) (by omega) (by omega) (by rw [hb]; omega) (by omega)
  rw [hs, Nat.mul_one] at hr
  exact hr

/-- make([]uint64, m) -/
theorem make_seqs (m : Nat) (hm : m ≤ 65536) (w : World) :
    (Instr.makeSlice 23 (.int .i64 (m : Int)) (.int .i64 (m : Int))).run Try.prog w = .ok (.slice (some ⟨w.heap.size, 0, none⟩) m m) (w.alloc (.cells (madeCells #[.int .u64 0] m) 22)) :=
  run_make_row' 23 22 _ 8 Try.underlying23 info22 rfl .i64 .i64 m (by omega) (by omega) w

/-- make([][]byte, m) -/
theorem make_lines (m : Nat) (hm : m ≤ 65536) (w : World) :
    (Instr.makeSlice 24 (.int .i64 (m : Int)) (.int .i64 (m : Int))).run Try.prog w = .ok (.slice (some ⟨w.heap.size, 0, none⟩) m m) (w.alloc (.cells (madeCells #[.slice none 0 0] m) 32)) :=
  run_make_row' 24 32 _ 24 Try.underlying24 info32 rfl .i64 .i64 m (by omega) (by omega) w

/-- The cells of a row of records. -/
def recF (Z : Nat → Int) (la : Nat → Option Addr) (ln lc : Nat → Nat) (i : Nat) : Value :=
  if i % 2 = 0 then .int .u64 (Z (i / 2)) else .slice (la (i / 2)) (ln (i / 2)) (lc (i / 2))

theorem recF_even (Z : Nat → Int) (la : Nat → Option Addr) (ln lc : Nat → Nat) (k : Nat) : recF Z la ln lc (k * 2) = .int .u64 (Z k) := by
  unfold recF; rw [if_pos (by omega), show k * 2 / 2 = k from by omega]
theorem recF_odd (Z : Nat → Int) (la : Nat → Option Addr) (ln lc : Nat → Nat) (k : Nat) : recF Z la ln lc (k * 2 + 1) = .slice (la k) (ln k) (lc k) := by
  unfold recF; rw [if_neg (by omega), show (k * 2 + 1) / 2 = k from by omega]

/-- Only draws part the two worlds. -/
def Still (w wc : World) : Prop := ∃ q, wc = w.drewN q
theorem Still.one (w : World) (a : Nat) : Still w (w.drewN a) := ⟨a, rfl⟩
theorem Still.two (w : World) (a b : Nat) : Still w ((w.drewN a).drewN b) := ⟨a + b, by rw [World.drewN_drewN]⟩

theorem drop_succ {hc cp : Int} {n k : Nat} {Z : Nat → Int} (h : ∀ j, j < k → Drop hc cp n Z j) (g : Drop hc cp n Z k) : ∀ j, j < k + 1 → Drop hc cp n Z j := by
  intro j hj
  by_cases e : j = k
  · subst e; exact g
  · exact h j (by omega)

/-- Behind the loop that drops records. -/
def Cut1 (hc cp nx : Int) (n R : Nat) (Z : Nat → Int) (w : World) (a b : Value) (wc : World) : Prop :=
  ∃ K o : Nat, Start hc cp n Z K ∧ a = .int .u64 (preF nx n Z) ∧ b = .slice (some ⟨R, o, none⟩) (n - K) (n - K) ∧ (K < n → o = K * 2) ∧ Still w wc

/-! ### The last loop of kept: the lines' bytes gathered in one row, the records in another -/

/-- 'k' records are laid: G the bytes' row, H the records'. 'Z', 'ln', 'bt': of the records that are kept. -/
structure Laid (w wr : World) (G H m SS k : Nat) (Z : Nat → Int) (ln : Nat → Nat) (bt : Nat → Nat → Int) : Prop where
  below : Below w.heap.size w wr
  hG : w.heap.size ≤ G
  hH : w.heap.size ≤ H
  hGH : G ≠ H
  hHlt : H < wr.heap.size
  own : ∃ xs : List Value, wr.ownsRow w.heap.size 5 1 (.slice (some ⟨G, 0, none⟩) (sumTo ln k) SS) (sumTo ln k) xs ∧ ∀ j t, j < k → t < ln j → xs[sumTo ln j + t]? = some (.int .u8 (bt j t))
  row : ∃ f : Nat → Value, wr.rowIs H 36 (m * 2) f ∧ ∀ j, j < k → f (j * 2) = .int .u64 (Z j) ∧ ∃ a, f (j * 2 + 1) = .slice a (ln j) (ln j) ∧ (ln j ≠ 0 → a = some ⟨G, sumTo ln j, none⟩)

theorem Laid.start {w wr : World} {m SS : Nat} (hb : Below w.heap.size w wr) (hS : SS ≤ maxLen) (Z : Nat → Int) (ln : Nat → Nat) (bt : Nat → Nat → Int) :
    Laid w ((wr.alloc (.cells (madeCells #[.int .u8 0] SS) 5)).alloc (.cells (madeCells #[.int .u64 0, .slice none 0 0] (m * 2)) 36)) wr.heap.size (wr.heap.size + 1) m SS 0 Z ln bt := by
  have hsz : w.heap.size ≤ wr.heap.size := hb.size
  refine ⟨(hb.alloc hsz _).alloc (by simp; omega) _, hsz, by omega, by omega, by simp, ⟨[], ?_, fun j t h => by omega⟩, ?_⟩
  · exact (World.ownsRow_made wr _ SS hsz hS (by rw [size_madeCells]; omega)).alloc _
  · refine ⟨fun i => (madeCells #[.int .u64 0, .slice none 0 0] (m * 2))[i]?.getD default, ?_, fun j h => by omega⟩
    have := World.rowIs_alloc (wr.alloc (.cells (madeCells #[.int .u8 0] SS) 5)) (madeCells #[.int .u64 0, .slice none 0 0] (m * 2)) 36 (fun i => (madeCells #[.int .u64 0, .slice none 0 0] (m * 2))[i]?.getD default) (fun i hi => by
      rw [Array.getElem?_eq_getElem hi]; rfl)
    rw [size_madeCells] at this
    simpa using this

theorem IntsAt.below {w wr : World} {k : IntKind} {a : Option Addr} {n : Nat} {f : Nat → Int} (h : IntsAt w k a n f) (hb : Below w.heap.size w wr) : IntsAt wr k a n f := by
  rcases h with h | ⟨b, off, ha, hc⟩
  · exact Or.inl h
  · exact Or.inr ⟨b, off, ha, fun j hj => (hb.cell (p := ⟨b, off + j, none⟩) (World.block_lt_of_cell? w _ (hc j hj))).trans (hc j hj)⟩

theorem IntsAt.news {w : World} {k : IntKind} {a : Option Addr} {n : Nat} {f : Nat → Int} (h : IntsAt w k a n f) {W : World} (_hb : Below W.heap.size W w) (o : Obj) :
    ∀ ad, a = some ad → ∀ j u, ((List.range n).map fun t => Value.int k (f t))[j]? = some u → (w.alloc o).cell? (ad.add j) = some u := by
  intro ad had j u hu
  have hj : j < n := by
    have := (List.getElem?_eq_some_iff.1 hu).1
    simpa using this
  rcases h with h | ⟨b, off, ha, hc⟩
  · omega
  · rw [ha] at had
    obtain rfl := Option.some.inj had
    rw [Addr.add_lit, World.cell?_alloc_past _ _ _ (World.block_lt_of_cell? w _ (hc j hj)), hc j hj]
    simpa [hj] using hu

theorem ints_oneCell' (k : IntKind) (n : Nat) (f : Nat → Int) : ∀ u ∈ (List.range n).map (fun t => Value.int k (f t)), u.oneCell' = true := by
  intro u hu
  obtain ⟨_, _, rfl⟩ := List.mem_map.1 hu
  rfl

theorem after_append {wr w1 : World} {x y : Value} {G : Nat} (hgr : (wr.alloc (.cells #[x, y] 36)).grownBy w1 (some G)) (hG : G < wr.heap.size) :
    w1.cell? ⟨wr.heap.size, 0, none⟩ = some x ∧ w1.cell? ⟨wr.heap.size, 1, none⟩ = some y ∧ wr.heap.size < w1.heap.size := by
  refine ⟨hgr.cell (a := ⟨wr.heap.size, 0, none⟩) ?_ (by simp; omega), hgr.cell (a := ⟨wr.heap.size, 1, none⟩) ?_ (by simp; omega), ?_⟩
  · rw [World.cell?_alloc_at _ _ _ _ rfl]; rfl
  · rw [World.cell?_alloc_at _ _ _ _ rfl]; rfl
  · have := hgr.size; simp at this; omega

theorem Laid.step {w wr w1 : World} {G m SS i : Nat} {Z : Nat → Int} {ln : Nat → Nat} {bt : Nat → Nat → Int} {x y : Value} {xs : List Value} {f : Nat → Value} {av : Option Addr}
    (hb : Below w.heap.size w wr) (hG : w.heap.size ≤ G) (hH : w.heap.size ≤ G + 1) (_him : i < m) (hgr : (wr.alloc (.cells #[x, y] 36)).grownBy w1 (some G))
    (hown1 : w1.ownsRow w.heap.size 5 1 (.slice (some ⟨G, 0, none⟩) (sumTo ln i + ln i) SS) (sumTo ln i + ln i) (xs ++ (List.range (ln i)).map fun t => Value.int .u8 (bt i t)))
    (hxl : xs.length = sumTo ln i * 1) (hxs : ∀ j t, j < i → t < ln j → xs[sumTo ln j + t]? = some (.int .u8 (bt j t))) (hf1 : w1.rowIs (G + 1) 36 (m * 2) f)
    (hfj : ∀ j, j < i → f (j * 2) = .int .u64 (Z j) ∧ ∃ a, f (j * 2 + 1) = .slice a (ln j) (ln j) ∧ (ln j ≠ 0 → a = some ⟨G, sumTo ln j, none⟩)) (hav : ln i ≠ 0 → av = some ⟨G, sumTo ln i, none⟩) :
    Laid w ((w1.setCell ⟨G + 1, i * 2, none⟩ (.int .u64 (Z i))).setCell ⟨G + 1, i * 2 + 1, none⟩ (.slice av (ln i) (ln i))).drew G (G + 1) m SS (i + 1) Z ln bt := by
  have hb1 : Below w.heap.size w w1 := (hb.alloc hb.size _).grown hgr (by have := hb.size; simp; omega) (fun k hk => by obtain rfl := Option.some.inj hk; exact hG)
  refine ⟨((hb1.setCell (p := ⟨G + 1, i * 2, none⟩) hH _).setCell (p := ⟨G + 1, i * 2 + 1, none⟩) hH _).drew, hG, hH, by omega, ?_, ?_, ?_⟩
  · have := hf1.lt
    show G + 1 < ((w1.setCell _ _).setCell _ _).heap.size
    simpa [World.setCell] using this
  · refine ⟨xs ++ (List.range (ln i)).map fun t => Value.int .u8 (bt i t), ?_, ?_⟩
    · refine World.ownsRow.drew ?_
      obtain ⟨h1, h2⟩ := hown1
      refine ⟨h1, ?_⟩
      rcases h2 with ⟨h2, _⟩ | ⟨g, cap, cur, hv, hg, hh, r⟩
      · cases h2
      · refine Or.inr ⟨g, cap, cur, hv, hg, ?_, r⟩
        simp only [Value.slice.injEq, Option.some.injEq, Addr.mk.injEq] at hv
        rw [Below.heap_setCell _ _ _ _ (by simp; omega), Below.heap_setCell _ _ _ _ (by simp; omega)]
        exact hh
    · intro j t hj ht
      by_cases e : j = i
      · subst e
        rw [List.getElem?_append_right (by omega), show sumTo ln j + t - xs.length = t from by omega]
        simp [ht]
      · have hjt : sumTo ln j + t < xs.length := by
          have h1 := sumTo_mono ln (show j + 1 ≤ i by omega)
          simp only [sumTo] at h1
          omega
        rw [List.getElem?_append_left hjt]
        exact hxs j t (by omega) ht
  · refine ⟨_, ((hf1.set (i * 2) _).set (i * 2 + 1) _).drew, fun j hj => ?_⟩
    by_cases e : j = i
    · subst e
      refine ⟨?_, av, ?_, hav⟩
      · show (if j * 2 = j * 2 + 1 then _ else if j * 2 = j * 2 then _ else f (j * 2)) = _
        rw [if_neg (by omega), if_pos rfl]
      · show (if j * 2 + 1 = j * 2 + 1 then _ else _) = _
        rw [if_pos rfl]
    · obtain ⟨h1, a, h2, h3⟩ := hfj j (by omega)
      refine ⟨?_, a, ?_, h3⟩
      · show (if j * 2 = i * 2 + 1 then _ else if j * 2 = i * 2 then _ else f (j * 2)) = _
        rw [if_neg (by omega), if_neg (by omega), h1]
      · show (if j * 2 + 1 = i * 2 + 1 then _ else if j * 2 + 1 = i * 2 then _ else f (j * 2 + 1)) = _
        rw [if_neg (by omega), if_neg (by omega), h2]

/-- What the last loop leaves, read as records. -/
theorem Laid.done {w wr : World} {G H m SS : Nat} {Z : Nat → Int} {ln : Nat → Nat} {bt : Nat → Nat → Int} (h : Laid w wr G H m SS m Z ln bt) :
    ∃ la : Nat → Option Addr, wr.rowIs H 36 (m * 2) (recF Z la ln ln) ∧ ∀ j, j < m → IntsAt wr .u8 (la j) (ln j) (bt j) := by
  obtain ⟨_, _, _, _, _, ⟨xs, hown, hxs⟩, ⟨f, hf, hfj⟩⟩ := h
  refine ⟨fun j => match f (j * 2 + 1) with | .slice a _ _ => a | _ => none, hf.congr fun i hi => ?_, fun j hj => ?_⟩
  · unfold recF
    obtain ⟨h1, a, h2, _⟩ := hfj (i / 2) (by omega)
    split
    · rw [← h1, show i / 2 * 2 = i from by omega]
    · have e : i = i / 2 * 2 + 1 := by omega
      have h4 : f i = .slice a (ln (i / 2)) (ln (i / 2)) := by rw [← h2, ← e]
      have h5 : (match f (i / 2 * 2 + 1) with | .slice a _ _ => a | _ => none) = a := by rw [h2]
      rw [h4]
      show _ = Value.slice (match f (i / 2 * 2 + 1) with | .slice a _ _ => a | _ => none) (ln (i / 2)) (ln (i / 2))
      rw [h5]
  · obtain ⟨_, a, h2, h3⟩ := hfj j hj
    show IntsAt wr .u8 (match f (j * 2 + 1) with | .slice a _ _ => a | _ => none) (ln j) (bt j)
    rw [h2]
    by_cases h0 : ln j = 0
    · exact Or.inl h0
    · refine Or.inr ⟨G, sumTo ln j, h3 h0, fun t ht => ?_⟩
      have h4 := sumTo_mono ln (show j + 1 ≤ m from hj)
      simp only [sumTo] at h4
      rw [hown.cellAt (sumTo ln j + t) (by omega)]
      exact hxs j t hj ht

/-- What kept leaves. -/
def KeptPost (hc cp nx de : Int) (n : Nat) (Z : Nat → Int) (ln : Nat → Nat) (bt : Nat → Nat → Int) (w : World) (e : Ending) (w' : World) : Prop :=
  ∃ (K H : Nat) (la : Nat → Option Addr), Start hc cp n Z K ∧ e = .returned (.tuple #[.slice (some ⟨H, 0, none⟩) (n - K) (n - K), .int .u64 (nextF nx de n Z)]) ∧ w.heap.size ≤ H ∧ Below w.heap.size w w' ∧
    w'.rowIs H 36 ((n - K) * 2) (recF (fun j => Z (K + j)) la (fun j => ln (K + j)) (fun j => ln (K + j))) ∧ ∀ j, j < n - K → IntsAt w' .u8 (la j) (ln (K + j)) (bt (K + j))

theorem KeptPost.mk {hc cp nx de : Int} {n K m G H SS : Nat} {Z Z' : Nat → Int} {ln ln' : Nat → Nat} {bt bt' : Nat → Nat → Int} {w w' : World} (hS : Start hc cp n Z K) (hm : n - K = m)
    (hZ : Z' = fun j => Z (K + j)) (hln : ln' = fun j => ln (K + j)) (hbt : bt' = fun j => bt (K + j)) (hL : Laid w w' G H m SS m Z' ln' bt') :
    KeptPost hc cp nx de n Z ln bt w (.returned (.tuple #[.slice (some ⟨H, 0, none⟩) m m, .int .u64 (IntKind.u64.wrap (preF nx n Z + IntKind.u64.wrap de))])) w' := by
  obtain ⟨la, h1, h2⟩ := hL.done
  subst hZ hln hbt hm
  exact ⟨K, H, la, hS, rfl, hL.hH, hL.below, h1, h2⟩

end Go.Proofs.Qxb6619585a
