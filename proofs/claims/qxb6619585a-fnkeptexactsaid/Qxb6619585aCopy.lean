/-
  'a copy first': copy(zzc, seqs).
-/
import Derived.Test.Qxb6619585aWalkz
import Derived.Test.Qxb6619585aWalkb
import Derived.Laws.CopyOwn
namespace Go.Proofs.Qxb6619585a
open Go.RowKit

/-- Behind 'a copy first'. -/
def Cut3 (w : World) (n : Nat) (Z : Nat → Int) (a : Value) (wc : World) : Prop :=
  ∃ ao cap, a = .slice ao n cap ∧ IntsAt wc .u64 ao n Z ∧ Below w.heap.size w wc

theorem copy_seqs (w : World) (ad : Addr) (n sc : Nat) (Z : Nat → Int) (hz : IntsAt w .u64 (some ad) n Z) :
    ∃ (W : World) (v : Value), (Builtin.copy_ #[23, 23] 3 #[.slice (some ⟨w.heap.size, 0, none⟩) n n, .slice (some ad) n sc]).run Try.prog (w.alloc (.cells (madeCells #[.int .u64 0] n) 22)) = .ok v W ∧
      IntsAt W .u64 (some ⟨w.heap.size, 0, none⟩) n Z ∧ Below w.heap.size w W := by
  have hsz : (Try.prog.info? 22).map (·.size) = some 1 := by kernel_rfl
  have hb0 : Below w.heap.size w (w.alloc (.cells (madeCells #[.int .u64 0] n) 22)) := (Below.refl _ _).alloc (Nat.le_refl _) _
  by_cases h0 : n = 0
  · subst h0
    exact ⟨_, _, run_copy_none (P := Try.prog) _ 23 23 3 22 _ _ 0 0 0 sc Try.underlying23 hsz rfl, Or.inl rfl, hb0⟩
  · have hg : (w.alloc (.cells (madeCells #[.int .u64 0] n) 22)).heap[w.heap.size]? = some (.cells (madeCells #[.int .u64 0] n) 22 (0, 0)) := heap_alloc_new w _
    have hrun := run_copy_row (P := Try.prog) (w.alloc (.cells (madeCells #[.int .u64 0] n) 22)) 23 23 3 22 w.heap.size 0 n n ad n sc (madeCells #[.int .u64 0] n) 22 ((List.range n).map fun t => Value.int .u64 (Z t))
      Try.underlying23 hsz hg (by simp) (hz.news (Below.refl w.heap.size w) _ ad rfl) (by simp [size_madeCells]) (ints_oneCell' _ _ _)
    refine ⟨_, _, hrun, Or.inr ⟨w.heap.size, 0, rfl, fun j hj => ?_⟩, below_setRow hb0 (Nat.le_refl _) _⟩
    have hh := setRow_heap (w.alloc (.cells (madeCells #[.int .u64 0] n) 22)) w.heap.size _ ((madeCells #[.int .u64 0] n).toList.take 0 ++ ((List.range n).map fun t => Value.int .u64 (Z t)) ++ (madeCells #[.int .u64 0] n).toList.drop (0 + ((List.range n).map fun t => Value.int .u64 (Z t)).length)).toArray 22 (0, 0) hg
    rw [World.cell?, hh]
    simp
    rw [List.getElem?_append_left (by simpa using hj)]
    simp [hj]

theorem LinesAt.below {w wr : World} {a : Option Addr} {n : Nat} {la : Nat → Option Addr} {ln lc : Nat → Nat} (h : LinesAt w a n la ln lc) (hb : Below w.heap.size w wr) : LinesAt wr a n la ln lc := by
  rcases h with h | ⟨b, off, ha, hc⟩
  · exact Or.inl h
  · exact Or.inr ⟨b, off, ha, fun j hj => (hb.cell (p := ⟨b, off + j, none⟩) (World.block_lt_of_cell? w _ (hc j hj))).trans (hc j hj)⟩

theorem quiet_sum {P : Program} {f : FuncId} {args : Array Value} {w : World} {a n : Nat} {v : Value} (h : Calls P f args (w.drewN (a + n)) fun e w' => e = .returned v ∧ ∃ m, w' = (w.drewN (a + n)).drewN m) :
    Calls P f args (w.drewN (a + n)) fun e w'' => e = .returned v ∧ ∃ m, w'' = w.drewN (a + m) :=
  h.mono fun _ _ ⟨he, m, hm⟩ => ⟨he, n + m, by rw [hm, World.drewN_drewN, Nat.add_assoc]⟩

theorem below_drewN' {B : Nat} {w wc : World} (h : Below B w wc) (q : Nat) : Below B w (wc.drewN q) := ⟨h.os, h.tape, h.output, h.size, h.block⟩

end Go.Proofs.Qxb6619585a
