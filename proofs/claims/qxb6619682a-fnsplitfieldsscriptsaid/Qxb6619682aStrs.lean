/-
  The walks of zzBytes_FnSplitFieldsScript (12), cloneStrings (13), sameStrings (15).
-/
import Derived.Test.Qxb6619682aTailw
import Derived.Deep.OwnRows
namespace Go.Proofs.Qxb6619682a
open Go.RowKit Plain

/-- A slice of strings that reads as f: its cells lie there, unless it is empty. -/
def StrsAt (w : World) (ao : Option Addr) (n : Nat) (f : Nat → ByteArray) : Prop :=
  n = 0 ∨ ∃ b off, ao = some ⟨b, off, none⟩ ∧ ∀ j, j < n → w.cell? ⟨b, off + j, none⟩ = some (.string (f j))

theorem StrsAt.below {w wr : World} {a : Option Addr} {n : Nat} {f : Nat → ByteArray} (h : StrsAt w a n f) (hb : Below w.heap.size w wr) : StrsAt wr a n f := by
  rcases h with h | ⟨b, off, ha, hc⟩
  · exact Or.inl h
  · exact Or.inr ⟨b, off, ha, fun j hj => (hb.cell (p := ⟨b, off + j, none⟩) (World.block_lt_of_cell? w _ (hc j hj))).trans (hc j hj)⟩

set_option maxHeartbeats 400000 in
theorem bytes12_pos (s : ByteArray) (b off n cap : Nat) (f : Nat → ByteArray) (w : World) (hs : s.size ≤ 1048576) (hn : n ≤ 1048576) (hsn : s.size + n ≤ 1048576) (hf : ∀ j, j < n → (f j).size ≤ maxLen)
    (hc : ∀ j, j < n → w.cell? ⟨b, off + j, none⟩ = some (.string (f j))) :
    Calls Try.prog 12 #[.string s, .slice (some ⟨b, off, none⟩) n cap] w fun e w' => YesIf (∀ j, j < n → (f j).size ≤ 1048576) e ∧ w' = w := by
  unfold maxLen at hf
  go_enter Try.func12, Try.ntmps12
  go_wp2
  go_loop [5, 6] (fun tv iv => ∃ k t : Nat, k ≤ n ∧ iv = .int .i64 k ∧ tv = .int .i64 t ∧ t ≤ 1048576 ∧ Hid (∀ j, j < k → (f j).size ≤ 1048576)) (fun _ iv => n - (intOf iv).toNat)
  case atStart => exact ⟨0, s.size + n, Nat.zero_le _, rfl, by go_num, hsn, fun j h => by omega⟩
  case round =>
    obtain ⟨k, t, hk, rfl, rfl, ht, hA⟩ := hrel
    by_cases hlt : k < n
    · have g1 := hc k hlt
      have g2 := hf k hlt
      by_cases g3 : (f k).size ≤ 1048576
      · by_cases g4 : t + (f k).size ≤ 1048576
        · go_wp2
          go_round
          case rel => exact ⟨k + 1, t + (f k).size, by omega, by go_num, by go_num, g4, fun j hj => by
                        by_cases e : j = k
                        · subst e; exact g3
                        · exact hA.out j (by omega)⟩
          case measure => simp [intOf]; omega
        · go_wp2
          go_ret
          exact ⟨YesIf.no _, rfl⟩
      · go_wp2
        go_ret
        exact ⟨YesIf.no _, rfl⟩
    · go_wp2
      go_ret
      exact ⟨YesIf.yes (fun j hj => hA.out j (by omega)), rfl⟩

set_option maxHeartbeats 400000 in
theorem bytes12_any (s : ByteArray) (ao : Option Addr) (n cap : Nat) (f : Nat → ByteArray) (w : World) (hs0 : s.size ≤ maxLen) (hn0 : n ≤ maxLen) (hf : ∀ j, j < n → (f j).size ≤ maxLen) (hc : StrsAt w ao n f) :
    Calls Try.prog 12 #[.string s, .slice ao n cap] w fun e w' => YesIf (∀ j, j < n → (f j).size ≤ 1048576) e ∧ w' = w := by
  by_cases hs : s.size ≤ 1048576
  · by_cases hn : n ≤ 1048576
    · by_cases hsn : s.size + n ≤ 1048576
      · by_cases h0 : n = 0
        · subst h0
          go_enter Try.func12, Try.ntmps12
          go_wp2
          refine wp_loop_rounds 1 ?_
          rw [rounds_succ]
          go_wp2
          go_ret
          exact ⟨YesIf.yes (fun j h => by omega), rfl⟩
        · obtain ⟨b, off, rfl, g⟩ := hc.resolve_left h0
          exact bytes12_pos s b off n cap f w hs hn hsn hf g
      · go_enter Try.func12, Try.ntmps12
        go_wp2
        go_ret
        exact ⟨YesIf.no _, rfl⟩
    · unfold maxLen at hn0
      go_enter Try.func12, Try.ntmps12
      go_wp2
      go_ret
      exact ⟨YesIf.no _, rfl⟩
  · unfold maxLen at hs0
    go_enter Try.func12, Try.ntmps12
    go_wp2
    go_ret
    exact ⟨YesIf.no _, rfl⟩

theorem info9 : (Try.prog.info? 9).map (fun i => (i.zero, i.size, i.bytes)) = some (some (.string ⟨#[]⟩), 1, 16) := by kernel_rfl

/-- make([]string, m) -/
theorem make_strs (m : Nat) (hm : m ≤ 65536) (w : World) :
    (Instr.makeSlice 26 (.int .i64 (m : Int)) (.int .i64 (m : Int))).run Try.prog w = .ok (.slice (some ⟨w.heap.size, 0, none⟩) m m) (w.alloc (.cells (madeCells #[.string ⟨#[]⟩] m) 9)) :=
  run_make_row' 26 9 _ 16 Try.underlying26 info9 rfl .i64 .i64 m (by omega) (by omega) w

/-- 'i' strings are copied. -/
structure Cloned (w wr : World) (n i : Nat) (f : Nat → ByteArray) : Prop where
  below : Below w.heap.size w wr
  lt : w.heap.size < wr.heap.size
  row : ∃ g : Nat → Value, wr.rowIs w.heap.size 9 n g ∧ ∀ j, j < i → g j = .string (f j)

theorem Cloned.start (w : World) (n : Nat) (f : Nat → ByteArray) : Cloned w (w.alloc (.cells (madeCells #[.string ⟨#[]⟩] n) 9)) n 0 f :=
  ⟨(Below.refl _ _).alloc (Nat.le_refl _) _, by simp, ⟨_, World.rowIs_made w _ n 9, fun j h => by omega⟩⟩

theorem Cloned.step {w wr : World} {n i : Nat} {f : Nat → ByteArray} (h : Cloned w wr n i f) : Cloned w (wr.setCell ⟨w.heap.size, i, none⟩ (.string (f i))) n (i + 1) f := by
  obtain ⟨hb, hlt, g, hg, hgj⟩ := h
  refine ⟨hb.setCell (p := ⟨w.heap.size, i, none⟩) (Nat.le_refl _) _, ?_, ⟨_, hg.set i _, fun j hj => ?_⟩⟩
  · simpa [World.setCell] using hlt
  · show (if j = i then _ else g j) = _
    by_cases e : j = i
    · subst e; rw [if_pos rfl]
    · rw [if_neg e]; exact hgj j (by omega)

theorem Cloned.done {w wr : World} {n : Nat} {f : Nat → ByteArray} (h : Cloned w wr n n f) : StrsAt wr (some ⟨w.heap.size, 0, none⟩) n f := by
  obtain ⟨_, _, g, hg, hgj⟩ := h
  refine Or.inr ⟨w.heap.size, 0, rfl, fun j hj => ?_⟩
  rw [Nat.zero_add, hg.cell hj, hgj j hj]

/-- What cloneStrings leaves. -/
def ClonePost (ao : Option Addr) (n : Nat) (f : Nat → ByteArray) (w : World) (e : Ending) (w' : World) : Prop :=
  ∃ bo cap, e = .returned (.slice bo n cap) ∧ (bo = none ↔ ao = none) ∧ StrsAt w' bo n f ∧ Below w.heap.size w w'

set_option maxHeartbeats 400000 in
theorem clone_any (ao : Option Addr) (n cap : Nat) (f : Nat → ByteArray) (w : World) (hn : n ≤ 65536) (hc : StrsAt w ao n f) (h0 : ao = none → n = 0) :
    Calls Try.prog 13 #[.slice ao n cap] w fun e w' => ClonePost ao n f w e w' := by
  have heq := fun w => Lib.run_eql_slice_nil (P := Try.prog) w 26 9 ao n cap 0 0 Try.underlying26
  have HC := hide hc
  clear hc
  cases ao with
  | none =>
    obtain rfl : n = 0 := h0 rfl
    go_enter Try.func13, Try.ntmps13
    go_wp2_with fail
    go_ret
    exact ⟨none, 0, rfl, Iff.rfl, Or.inl rfl, Below.refl _ _⟩
  | some ad =>
    have hmk := make_strs n hn
    clear h0
    go_enter Try.func13, Try.ntmps13
    go_wp2_with fail
    go_loopg [4] n (fun g a wr => ∃ i : Nat, g + i = n ∧ a = .int .i64 i ∧ Cloned w wr n i f)
    case atStart => exact ⟨0, rfl, rfl, Cloned.start w n f⟩
    case round =>
      obtain ⟨i, hi, rfl, hF⟩ := hrel
      by_cases hg : gk = 0
      · subst hg
        obtain rfl : i = n := by omega
        have HF := hide hF
        clear hF
        go_wp2_with fail
        go_ret
        exact ⟨some ⟨w.heap.size, 0, none⟩, _, rfl, by simp, HF.out.done, HF.out.below⟩
      · obtain ⟨b1, o1, had, h1⟩ := HC.out.resolve_left (by omega)
        obtain rfl := Option.some.inj had
        obtain ⟨g, hg', hgj⟩ := hF.row
        have hin : i < n := by omega
        have q1 := (hF.below.cell (p := ⟨b1, o1 + i, none⟩) (World.block_lt_of_cell? w _ (h1 i hin))).trans (h1 i hin)
        have e1 := hg'.cell (i := i) hin
        have z1 := hg'.frozen i
        have HF := hide hF
        clear hF hg' hgj h1 had
        go_wp2_with fail
        go_roundg (gk - 1)
        case measure => omega
        case rel => exact ⟨i + 1, by omega, by go_num, HF.out.step⟩

set_option maxHeartbeats 400000 in
theorem same_any (ao bo : Option Addr) (n c1 c2 : Nat) (f : Nat → ByteArray) (w : World) (hn : n ≤ 65536) (h1 : StrsAt w ao n f) (h2 : StrsAt w bo n f) (h0 : ao = none ↔ bo = none) :
    Calls Try.prog 15 #[.slice ao n c1, .slice bo n c2] w fun e w' => e = .returned (.bool true) ∧ ∃ q, w' = w.drewN q := by
  have heq1 := fun w => Lib.run_eql_slice_nil (P := Try.prog) w 26 9 ao n c1 0 0 Try.underlying26
  have heq2 := fun w => Lib.run_eql_slice_nil (P := Try.prog) w 26 9 bo n c2 0 0 Try.underlying26
  have hnn : bo.isNone = ao.isNone := by
    cases ao <;> cases bo <;> simp_all
  rw [hnn] at heq2
  have H1 := hide h1
  have H2 := hide h2
  clear h1 h2 h0 hnn
  generalize ao.isNone = t at heq1 heq2
  go_enter Try.func15, Try.ntmps15
  go_wp2_with fail
  go_loopg [5] n (fun g a wr => ∃ i q : Nat, g + i = n ∧ a = .int .i64 i ∧ wr = w.drewN q)
  case atStart => exact ⟨0, 0, rfl, rfl, rfl⟩
  case round =>
    obtain ⟨i, q, hi, rfl, rfl⟩ := hrel
    by_cases hg : gk = 0
    · go_wp2_with fail
      go_ret
      exact ⟨rfl, q, rfl⟩
    · obtain ⟨b1, o1, rfl, g1⟩ := H1.out.resolve_left (by omega)
      obtain ⟨b2, o2, rfl, g2⟩ := H2.out.resolve_left (by omega)
      have hin : i < n := by omega
      have q1 := g1 i hin
      have q2 := g2 i hin
      clear g1 g2
      go_wp2_with fail
      go_quiet (fail)
      go_wp2_with fail
      go_roundg (gk - 1)
      case measure => omega
      case rel => exact ⟨i + 1, _, by omega, by go_num, rfl⟩

end Go.Proofs.Qxb6619682a
