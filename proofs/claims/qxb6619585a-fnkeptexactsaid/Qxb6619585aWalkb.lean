/-
  The walks of the two bounds on the total length (5, 11).
-/
import Derived.Test.Qxb6619585aWalka
namespace Go.Proofs.Qxb6619585a
open Go.RowKit

set_option maxHeartbeats 400000 in
theorem bytes5_pos (nx hc de cp : Int) (sa : Option Addr) (n sc b off m cap : Nat) (la : Nat → Option Addr) (ln lc : Nat → Nat) (w : World) (hn : n ≤ 1048576) (hm : m ≤ 1048576) (hnm : n + m ≤ 1048576) (hln : ∀ j, j < m → ln j ≤ maxLen)
    (hl : ∀ j, j < m → w.cell? ⟨b, off + j, none⟩ = some (.slice (la j) (ln j) (lc j))) :
    Calls Try.prog 5 #[.int .u64 nx, .int .i64 hc, .slice sa n sc, .slice (some ⟨b, off, none⟩) m cap, .int .i64 de, .int .i64 cp] w fun e w' => YesIf True e ∧ w' = w := by
  unfold maxLen at hln
  go_enter Try.func5, Try.ntmps5
  go_wp2
  go_loop [13, 14] (fun tv iv => ∃ k t : Nat, k ≤ m ∧ iv = .int .i64 k ∧ tv = .int .i64 t ∧ t ≤ 1048576) (fun _ iv => m - (intOf iv).toNat)
  case atStart => exact ⟨0, n + m, Nat.zero_le _, rfl, by go_num, hnm⟩
  case round =>
    obtain ⟨k, t, hk, rfl, rfl, hs⟩ := hrel
    by_cases hlt : k < m
    · have g1 := hl k hlt
      have g2 := hln k hlt
      by_cases g3 : ln k ≤ 1048576
      · by_cases g4 : t + ln k ≤ 1048576
        · go_wp2
          go_round
          case rel => exact ⟨k + 1, t + ln k, by omega, by go_num, by go_num, g4⟩
          case measure => simp [intOf]; omega
        · go_wp2
          go_ret
          exact ⟨YesIf.no _, rfl⟩
      · go_wp2
        go_ret
        exact ⟨YesIf.no _, rfl⟩
    · go_wp2
      go_ret
      exact ⟨YesIf.yes trivial, rfl⟩

set_option maxHeartbeats 400000 in
theorem bytes5_any (nx hc de cp : Int) (sa bo : Option Addr) (n sc m cap : Nat) (la : Nat → Option Addr) (ln lc : Nat → Nat) (w : World) (hn0 : n ≤ maxLen) (hm0 : m ≤ maxLen) (hln : ∀ j, j < m → ln j ≤ maxLen) (hl : LinesAt w bo m la ln lc) :
    Calls Try.prog 5 #[.int .u64 nx, .int .i64 hc, .slice sa n sc, .slice bo m cap, .int .i64 de, .int .i64 cp] w fun e w' => YesIf True e ∧ w' = w := by
  by_cases hn : n ≤ 1048576
  · by_cases hm : m ≤ 1048576
    · by_cases hnm : n + m ≤ 1048576
      · by_cases h0 : m = 0
        · subst h0
          go_enter Try.func5, Try.ntmps5
          go_wp2
          refine wp_loop_rounds 1 ?_
          rw [rounds_succ]
          go_wp2
          go_ret
          exact ⟨YesIf.yes trivial, rfl⟩
        · obtain ⟨b, off, rfl, g⟩ := hl.resolve_left h0
          exact bytes5_pos nx hc de cp sa n sc b off m cap la ln lc w hn hm hnm hln g
      · go_enter Try.func5, Try.ntmps5
        go_wp2
        go_ret
        exact ⟨YesIf.no _, rfl⟩
    · unfold maxLen at hm0
      go_enter Try.func5, Try.ntmps5
      go_wp2
      go_ret
      exact ⟨YesIf.no _, rfl⟩
  · unfold maxLen at hn0
    go_enter Try.func5, Try.ntmps5
    go_wp2
    go_ret
    exact ⟨YesIf.no _, rfl⟩

set_option maxHeartbeats 400000 in
theorem bytes11_pos (nx hc de c1 c2 : Int) (sa : Option Addr) (n sc b off m cap : Nat) (la : Nat → Option Addr) (ln lc : Nat → Nat) (w : World) (hn : n ≤ 1048576) (hm : m ≤ 1048576) (hnm : n + m ≤ 1048576) (hln : ∀ j, j < m → ln j ≤ maxLen)
    (hl : ∀ j, j < m → w.cell? ⟨b, off + j, none⟩ = some (.slice (la j) (ln j) (lc j))) :
    Calls Try.prog 11 #[.int .u64 nx, .int .i64 hc, .slice sa n sc, .slice (some ⟨b, off, none⟩) m cap, .int .i64 de, .int .i64 c1, .int .i64 c2] w fun e w' => YesIf True e ∧ w' = w := by
  unfold maxLen at hln
  go_enter Try.func11, Try.ntmps11
  go_wp2
  go_loop [15, 16] (fun tv iv => ∃ k t : Nat, k ≤ m ∧ iv = .int .i64 k ∧ tv = .int .i64 t ∧ t ≤ 1048576) (fun _ iv => m - (intOf iv).toNat)
  case atStart => exact ⟨0, n + m, Nat.zero_le _, rfl, by go_num, hnm⟩
  case round =>
    obtain ⟨k, t, hk, rfl, rfl, hs⟩ := hrel
    by_cases hlt : k < m
    · have g1 := hl k hlt
      have g2 := hln k hlt
      by_cases g3 : ln k ≤ 1048576
      · by_cases g4 : t + ln k ≤ 1048576
        · go_wp2
          go_round
          case rel => exact ⟨k + 1, t + ln k, by omega, by go_num, by go_num, g4⟩
          case measure => simp [intOf]; omega
        · go_wp2
          go_ret
          exact ⟨YesIf.no _, rfl⟩
      · go_wp2
        go_ret
        exact ⟨YesIf.no _, rfl⟩
    · go_wp2
      go_ret
      exact ⟨YesIf.yes trivial, rfl⟩

set_option maxHeartbeats 400000 in
theorem bytes11_any (nx hc de c1 c2 : Int) (sa bo : Option Addr) (n sc m cap : Nat) (la : Nat → Option Addr) (ln lc : Nat → Nat) (w : World) (hn0 : n ≤ maxLen) (hm0 : m ≤ maxLen) (hln : ∀ j, j < m → ln j ≤ maxLen) (hl : LinesAt w bo m la ln lc) :
    Calls Try.prog 11 #[.int .u64 nx, .int .i64 hc, .slice sa n sc, .slice bo m cap, .int .i64 de, .int .i64 c1, .int .i64 c2] w fun e w' => YesIf True e ∧ w' = w := by
  by_cases hn : n ≤ 1048576
  · by_cases hm : m ≤ 1048576
    · by_cases hnm : n + m ≤ 1048576
      · by_cases h0 : m = 0
        · subst h0
          go_enter Try.func11, Try.ntmps11
          go_wp2
          refine wp_loop_rounds 1 ?_
          rw [rounds_succ]
          go_wp2
          go_ret
          exact ⟨YesIf.yes trivial, rfl⟩
        · obtain ⟨b, off, rfl, g⟩ := hl.resolve_left h0
          exact bytes11_pos nx hc de c1 c2 sa n sc b off m cap la ln lc w hn hm hnm hln g
      · go_enter Try.func11, Try.ntmps11
        go_wp2
        go_ret
        exact ⟨YesIf.no _, rfl⟩
    · unfold maxLen at hm0
      go_enter Try.func11, Try.ntmps11
      go_wp2
      go_ret
      exact ⟨YesIf.no _, rfl⟩
  · unfold maxLen at hn0
    go_enter Try.func11, Try.ntmps11
    go_wp2
    go_ret
    exact ⟨YesIf.no _, rfl⟩

end Go.Proofs.Qxb6619585a
