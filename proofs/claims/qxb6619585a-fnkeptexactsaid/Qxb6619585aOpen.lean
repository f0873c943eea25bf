/-
  The arguments' slices, opened.
-/
import Derived.Test.Qxb6619585aWalka
import Derived.ProofKit
import Derived.OpenShut
import Derived.ShutString
import Derived.ChangeOld
import Derived.Below
import Derived.Deep.Matrix
namespace Go.Proofs.Qxb6619585a
open Go.ChangeShapes Go.WideShapes Go.ChangeAt Go.RowKit

theorem own : ownKnob Try.prog.godebug = none := by kernel_rfl
theorem laidOut : laidOutB Try.prog = true := by kernel_rfl
theorem cells5 : Try.prog.cellsOf 5 = 1 := by kernel_rfl
theorem cells22 : Try.prog.cellsOf 22 = 1 := by kernel_rfl
theorem cells32 : Try.prog.cellsOf 32 = 1 := by kernel_rfl

/-- What is told of the numbers that came in. -/
def SeqsIn (w : World) (a : Option Addr) (n : Nat) (Z : Nat → Int) : Prop :=
  n ≤ maxLen ∧ IntsAt w .u64 a n Z ∧ (∀ j, j < n → 0 ≤ Z j ∧ Z j < 18446744073709551616) ∧ (a = none → n = 0)

/-- What is told of the lines that came in. -/
def LinesIn (w : World) (a : Option Addr) (n : Nat) (la : Nat → Option Addr) (ln lc : Nat → Nat) (bt : Nat → Nat → Int) : Prop :=
  n ≤ maxLen ∧ LinesAt w a n la ln lc ∧ (∀ j, j < n → ln j ≤ maxLen) ∧ (∀ j, j < n → IntsAt w .u8 (la j) (ln j) (bt j)) ∧ ∀ j, j < n → la j = none → ln j = 0 ∧ lc j = 0

theorem spot_none {w : World} {x : Addr} {v : Value} (h : w.cell? (x.add 0) = some v) : ∃ b off, x = ⟨b, off, none⟩ := by
  obtain ⟨b, off, spot⟩ := x
  have hspot : spot = none := by simpa [Addr.add] using World.cell?_spot h
  subst hspot
  exact ⟨b, off, rfl⟩

theorem row_at {w : World} {k : IntKind} {x : Addr} {n : Nat} {f : Nat → Int} (h : ∀ j, j < n → w.cell? (x.add j) = some (.int k (f j))) : IntsAt w k (some x) n f := by
  by_cases h0 : n = 0
  · exact Or.inl h0
  · obtain ⟨b, off, rfl⟩ := spot_none (h 0 (by omega))
    exact Or.inr ⟨b, off, rfl, fun j hj => by rw [← Addr.add_lit]; exact h j hj⟩

theorem seqs_in {H : Type} {enc : TypeId × Value → H} {W : World} {a : Option Addr} {len cap fuel : Nat} {x : DataW H × List MemPlace}
    (hf : DataW.trod enc Try.prog W 0 (fun _ => true) true fuel 23 [.slice a len cap] = some x) : ∃ Z, SeqsIn W a len Z := by
  rcases open_ints Try.underlying23 Try.underlying22 cells22 hf with ⟨hcs, _⟩ | ⟨x, l, c, zs, hcs, _, hl, hm, hz, _, hcell, hwz⟩
  · simp at hcs
    obtain ⟨rfl, rfl, rfl⟩ := hcs
    exact ⟨fun _ => 0, Nat.zero_le _, Or.inl rfl, fun j h => by omega, fun _ => rfl⟩
  · simp at hcs
    obtain ⟨rfl, rfl, rfl⟩ := hcs
    simp at hz
    refine ⟨fun j => zs.getD j 0, by omega, row_at fun j hj => hcell j (by omega), fun j hj => ?_, fun h => by cases h⟩
    have hw := hwz (zs.getD j 0) (by simp [List.getD, show j < zs.length by omega])
    have hb := bounds_u64 hw
    exact ⟨hb.1, by show zs.getD j 0 < _; omega⟩

theorem lines_in {H : Type} {enc : TypeId × Value → H} {W : World} {a : Option Addr} {len cap fuel : Nat} {x : DataW H × List MemPlace}
    (hf : DataW.trod enc Try.prog W 0 (fun _ => true) true fuel 24 [.slice a len cap] = some x) : ∃ la ln lc bt, LinesIn W a len la ln lc bt := by
  rcases Deep.open_int_rows Try.underlying24 Try.underlying32 Try.underlying5 cells32 cells5 hf with ⟨hcs, _⟩ | ⟨x, l, c, A, L, C, Zs, hcs, _, hl, hm, _, hall⟩
  · simp at hcs
    obtain ⟨rfl, rfl, rfl⟩ := hcs
    exact ⟨fun _ => none, fun _ => 0, fun _ => 0, fun _ _ => 0, Nat.zero_le _, Or.inl rfl, fun j h => by omega, fun j h => by omega, fun j h => by omega⟩
  · simp at hcs
    obtain ⟨rfl, rfl, rfl⟩ := hcs
    refine ⟨A, L, C, fun j t => (Zs j).getD t 0, by omega, ?_, fun j hj => ?_, fun j hj => ?_, fun j hj hn => ?_⟩
    · by_cases h0 : len = 0
      · exact Or.inl h0
      · obtain ⟨b, off, rfl⟩ := spot_none (hall 0 (by omega)).1
        exact Or.inr ⟨b, off, rfl, fun j hj => by rw [← Addr.add_lit]; exact (hall j (by omega)).1⟩
    · obtain ⟨_, h1, h2, _⟩ := hall j (by omega)
      omega
    · obtain ⟨_, h1, h2, h3, _, h5, h6⟩ := hall j (by omega)
      cases hA : A j with
      | none => exact Or.inl (by have := h5 hA; omega)
      | some a' => exact row_at fun t ht => (h6 a' hA).2 t (by omega)
    · obtain ⟨_, h1, h2, h3, _, h5, h6⟩ := hall j (by omega)
      have := h5 hn
      exact ⟨by omega, this⟩

end Go.Proofs.Qxb6619585a
