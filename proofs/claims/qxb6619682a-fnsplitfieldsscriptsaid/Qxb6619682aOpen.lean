/-
  The argument's slice of strings, opened.
-/
import Derived.Test.Qxb6619682aStrs
import Derived.ProofKit
import Derived.OpenShut
import Derived.SliceStrings
namespace Go.Proofs.Qxb6619682a
open Go.ChangeShapes Go.WideShapes Go.ChangeAt Go.RowKit

theorem cells9 : Try.prog.cellsOf 9 = 1 := by kernel_rfl

/-- What is told of the strings that came in. -/
def StrsIn (w : World) (a : Option Addr) (n : Nat) (f : Nat → ByteArray) : Prop :=
  n ≤ maxLen ∧ StrsAt w a n f ∧ (∀ j, j < n → (f j).size ≤ maxLen) ∧ (a = none → n = 0)

theorem spot_none {w : World} {x : Addr} {v : Value} (h : w.cell? (x.add 0) = some v) : ∃ b off, x = ⟨b, off, none⟩ := by
  obtain ⟨b, off, spot⟩ := x
  have hspot : spot = none := by simpa [Addr.add] using World.cell?_spot h
  subst hspot
  exact ⟨b, off, rfl⟩

theorem strs_in {H : Type} {enc : TypeId × Value → H} {W : World} {a : Option Addr} {len cap fuel : Nat} {x : DataW H × List MemPlace}
    (hf : DataW.trod enc Try.prog W 0 (fun _ => true) true fuel 26 [.slice a len cap] = some x) : ∃ f, StrsIn W a len f := by
  rcases open_strings Try.underlying26 Try.underlying9 cells9 hf with ⟨hcs, hx⟩ | ⟨x, l, c, ss, hcs, _, hl, hm, hz, hx, hcell, hws⟩
  · simp at hcs
    obtain ⟨rfl, rfl, rfl⟩ := hcs
    exact ⟨fun _ => ByteArray.empty, Nat.zero_le _, Or.inl rfl, fun j h => by omega, fun _ => rfl⟩
  · simp at hcs
    obtain ⟨rfl, rfl, rfl⟩ := hcs
    simp at hz
    refine ⟨fun j => ss.getD j ByteArray.empty, by omega, ?_, fun j hj => ?_, fun h => by cases h⟩
    · by_cases h0 : len = 0
      · exact Or.inl h0
      · obtain ⟨b, off, rfl⟩ := spot_none (hcell 0 (by omega))
        exact Or.inr ⟨b, off, rfl, fun j hj => by rw [← Addr.add_lit]; exact hcell j (by omega)⟩
    · exact hws _ (by simp [List.getD, show j < ss.length by omega])

end Go.Proofs.Qxb6619682a
