/-
  The walks of nextModel (8), keptStart (7), sameBytes (10).
-/
import Derived.Test.Qxb6619585aRows
import Derived.Test.Qxb6619585aPlain
import Derived.WalkKit
import Derived.WalkSpells
import Derived.WalkLawsBesides
import Derived.BigQuiet
import Derived.Deep.QuietTactic
namespace Go.Proofs.Qxb6619585a
open Go.RowKit

theorem ret_int {k : IntKind} {a b : Int} (h : a = b) : Ending.returned (.int k a) = .returned (.int k b) := by rw [h]
theorem hide {p : Prop} (h : p) : Hid p := h

/-- A slice of numbers that reads as f: its cells lie there, unless it is empty. -/
def IntsAt (w : World) (k : IntKind) (ao : Option Addr) (n : Nat) (f : Nat → Int) : Prop :=
  n = 0 ∨ ∃ b off, ao = some ⟨b, off, none⟩ ∧ ∀ j, j < n → w.cell? ⟨b, off + j, none⟩ = some (.int k (f j))

set_option maxHeartbeats 400000 in
theorem next_any (nx de : Int) (ao : Option Addr) (n cap : Nat) (Z : Nat → Int) (w : World) (hn2 : n ≤ 65536) (hz : IntsAt w .u64 ao n Z) :
    Calls Try.prog 8 #[.int .u64 nx, .slice ao n cap, .int .i64 de] w fun e w' => e = .returned (.int .u64 (nextF nx de n Z)) ∧ w' = w := by
  by_cases hn : n = 0
  · subst hn
    clear hz
    by_cases h1 : nx < 1
    · go_enter Try.func8, Try.ntmps8
      go_wp2
      go_ret
      exact ⟨ret_int (by unfold nextF preF; rw [if_pos rfl, Int.max_eq_right (by omega)]), rfl⟩
    · go_enter Try.func8, Try.ntmps8
      go_wp2
      go_ret
      exact ⟨ret_int (by unfold nextF preF; rw [if_pos rfl, Int.max_eq_left (by omega)]), rfl⟩
  · obtain ⟨b, off, rfl, hz'⟩ := hz.resolve_left hn
    have hl := hz' (n - 1) (by omega)
    clear hz hz'
    by_cases h1 : nx < 1
    · have HF : Hid (nextF nx de n Z = IntKind.u64.wrap (max 1 (IntKind.u64.wrap (Z (n - 1) + 1)) + IntKind.u64.wrap de)) := by
        unfold nextF preF; rw [if_neg hn, Int.max_eq_right (by omega : nx ≤ 1)]; rfl
      go_enter Try.func8, Try.ntmps8
      go_wp2
      · go_ret
        exact ⟨ret_int (by rw [HF.out, Int.max_eq_right (by omega)]), rfl⟩
      · go_ret
        exact ⟨ret_int (by rw [HF.out, Int.max_eq_left (by omega)]), rfl⟩
    · have HF : Hid (nextF nx de n Z = IntKind.u64.wrap (max nx (IntKind.u64.wrap (Z (n - 1) + 1)) + IntKind.u64.wrap de)) := by
        unfold nextF preF; rw [if_neg hn, Int.max_eq_left (by omega : 1 ≤ nx)]; rfl
      go_enter Try.func8, Try.ntmps8
      go_wp2
      · go_ret
        exact ⟨ret_int (by rw [HF.out, Int.max_eq_right (by omega)]), rfl⟩
      · go_ret
        exact ⟨ret_int (by rw [HF.out, Int.max_eq_left (by omega)]), rfl⟩

set_option maxHeartbeats 400000 in
theorem start_pos (hc cp : Int) (b off n cap lo : Nat) (Z : Nat → Int) (w : World) (hn : 0 < n) (hn2 : n ≤ 65536) (hcp : 0 ≤ cp) (hz : ∀ j, j < n → w.cell? ⟨b, off + j, none⟩ = some (.int .u64 (Z j)))
    (hlo : (lo : Int) = if cp < n then (n : Int) - cp else 0) (hlo2 : lo ≤ n) :
    Calls Try.prog 7 #[.int .i64 hc, .slice (some ⟨b, off, none⟩) n cap, .int .i64 cp] w fun e w' => (∃ K : Nat, e = .returned (.int .i64 K) ∧ Start hc cp n Z K) ∧ w' = w := by
  have hl := hz (n - 1) (by omega)
  have hn0 : ((n : Int) == 0) = false := by simp only [beq_eq_false_iff_ne]; omega
  have hcp' : ¬ cp < 0 := by omega
  have HLO := hide hlo
  by_cases h2 : cp < n
  all_goals
    first | rw [if_pos h2] at hlo | rw [if_neg h2] at hlo
    have hb1 := Int.le_of_eq hlo
    have hb2 := Int.le_of_eq hlo.symm
    clear hlo
    go_enter Try.func7, Try.ntmps7
    go_wp2
    go_loop [10, 11] (fun kv iv => ∃ t k : Nat, lo ≤ t ∧ t ≤ k ∧ k ≤ n ∧ kv = .int .i64 k ∧ iv = .int .i64 ((t : Int) - 1) ∧ (∀ j, t ≤ j → j < k → ¬ Near hc n Z j) ∧ (k < n → Near hc n Z k)) (fun _ iv => (intOf iv + 1).toNat)
    case atStart => exact ⟨n, n, hlo2, Nat.le_refl _, Nat.le_refl _, rfl, rfl, fun j _ _ => by omega, fun h => by omega⟩
    case round =>
      obtain ⟨t, k, ht1, ht2, hk, rfl, hi, hA, hB⟩ := hrel
      by_cases hlt : lo < t
      · obtain ⟨s, rfl⟩ : ∃ s, t = s + 1 := ⟨t - 1, by omega⟩
        rw [show ((s + 1 : Nat) : Int) - 1 = (s : Int) from by omega] at hi
        subst hi
        have hc1 := hz s (by omega)
        have HA := hide hA
        have HB := hide hB
        clear hA hB
        by_cases hnear : IntKind.u64.wrap (Z (n - 1) - Z s) < IntKind.u64.wrap hc
        · go_wp2
          go_round
          case rel => exact ⟨s, s, by omega, by omega, by omega, rfl, by go_num, fun j _ _ => by omega, fun _ => hnear⟩
          case measure => simp [intOf]
        · go_wp2
          go_round
          case rel => exact ⟨s, k, by omega, by omega, by omega, rfl, by go_num, fun j h1 h2 => by
                        by_cases e : j = s
                        · subst e; exact hnear
                        · exact HA.out j (by omega) h2, HB.out⟩
          case measure => simp [intOf]
      · have HA := hide hA
        have HB := hide hB
        clear hA hB
        subst hi
        go_wp2
        go_ret
        exact ⟨⟨k, rfl, Start.of_scan HLO.out hcp (by omega) hk (fun j h1 h2 => HA.out j (by omega) h2) HB.out⟩, rfl⟩

set_option maxHeartbeats 400000 in
theorem start_any (hc cp : Int) (ao : Option Addr) (n cap : Nat) (Z : Nat → Int) (w : World) (hn2 : n ≤ 65536) (hz : IntsAt w .u64 ao n Z) :
    Calls Try.prog 7 #[.int .i64 hc, .slice ao n cap, .int .i64 cp] w fun e w' => (∃ K : Nat, e = .returned (.int .i64 K) ∧ Start hc cp n Z K) ∧ w' = w := by
  by_cases hn : n = 0
  · subst hn
    go_enter Try.func7, Try.ntmps7
    go_wp2
    go_ret
    exact ⟨⟨0, rfl, Start.none (Or.inl rfl)⟩, rfl⟩
  · by_cases hcp : cp < 0
    · go_enter Try.func7, Try.ntmps7
      go_wp2
      go_ret
      exact ⟨⟨n, rfl, Start.none (Or.inr hcp)⟩, rfl⟩
    · obtain ⟨b, off, rfl, hz'⟩ := hz.resolve_left hn
      refine start_pos hc cp b off n cap (if cp < n then n - cp.toNat else 0) Z w (by omega) hn2 (by omega) hz' ?_ ?_
      · split <;> omega
      · split <;> omega

set_option maxHeartbeats 400000 in
theorem same_pos (b1 o1 c1 b2 o2 c2 n : Nat) (f : Nat → Int) (w : World) (hn : n ≤ 1048576) (h1 : ∀ j, j < n → w.cell? ⟨b1, o1 + j, none⟩ = some (.int .u8 (f j))) (h2 : ∀ j, j < n → w.cell? ⟨b2, o2 + j, none⟩ = some (.int .u8 (f j))) :
    Calls Try.prog 10 #[.slice (some ⟨b1, o1, none⟩) n c1, .slice (some ⟨b2, o2, none⟩) n c2] w fun e w' => e = .returned (.bool true) ∧ ∃ q, w' = w.drewN q := by
  go_enter Try.func10, Try.ntmps10
  go_wp2
  go_loopw [5] (fun iv wr => ∃ k q : Nat, k ≤ n ∧ iv = .int .i64 k ∧ wr = w.drewN q) (fun iv _ => n - (intOf iv).toNat)
  case atStart => exact ⟨0, 0, Nat.zero_le _, rfl, rfl⟩
  case round =>
    obtain ⟨k, q, hk, rfl, rfl⟩ := hrel
    by_cases hlt : k < n
    · have g1 := h1 k hlt
      have g2 := h2 k hlt
      go_wp2
      go_quiet (fail)
      go_wp2
      go_roundw
      case rel => exact ⟨k + 1, _, by omega, by go_num, rfl⟩
      case measure => simp [intOf]; omega
    · go_wp2
      go_ret
      exact ⟨rfl, q, rfl⟩

set_option maxHeartbeats 400000 in
theorem same_any (a1 a2 : Option Addr) (c1 c2 n : Nat) (f : Nat → Int) (w : World) (hn : n ≤ 1048576) (h1 : IntsAt w .u8 a1 n f) (h2 : IntsAt w .u8 a2 n f) :
    Calls Try.prog 10 #[.slice a1 n c1, .slice a2 n c2] w fun e w' => e = .returned (.bool true) ∧ ∃ q, w' = w.drewN q := by
  by_cases h0 : n = 0
  · subst h0
    go_enter Try.func10, Try.ntmps10
    go_wp2
    refine wp_loop_rounds 1 ?_
    rw [rounds_succ]
    go_wp2
    go_ret
    exact ⟨rfl, 0, rfl⟩
  · obtain ⟨b1, o1, rfl, g1⟩ := h1.resolve_left h0
    obtain ⟨b2, o2, rfl, g2⟩ := h2.resolve_left h0
    exact same_pos b1 o1 c1 b2 o2 c2 n f w hn g1 g2

/-- A slice of byte slices: each line's slice value. -/
def LinesAt (w : World) (ao : Option Addr) (n : Nat) (la : Nat → Option Addr) (ln lc : Nat → Nat) : Prop :=
  n = 0 ∨ ∃ b off, ao = some ⟨b, off, none⟩ ∧ ∀ j, j < n → w.cell? ⟨b, off + j, none⟩ = some (.slice (la j) (ln j) (lc j))

/-- A bool is handed back; where it is true, P holds. -/
def YesIf (P : Prop) (e : Ending) : Prop := ∃ t : Bool, e = .returned (.bool t) ∧ (t = true → P)
theorem YesIf.no (P : Prop) : YesIf P (.returned (.bool false)) := ⟨false, rfl, fun h => by cases h⟩
theorem YesIf.yes {P : Prop} (h : P) : YesIf P (.returned (.bool true)) := ⟨true, rfl, fun _ => h⟩

set_option maxHeartbeats 400000 in
theorem size_pos (sa : Option Addr) (n sc b off m cap : Nat) (la : Nat → Option Addr) (ln lc : Nat → Nat) (w : World) (hn : n ≤ 65536) (hm : m ≤ 65536) (hln : ∀ j, j < m → ln j ≤ maxLen)
    (hl : ∀ j, j < m → w.cell? ⟨b, off + j, none⟩ = some (.slice (la j) (ln j) (lc j))) :
    Calls Try.prog 6 #[.slice sa n sc, .slice (some ⟨b, off, none⟩) m cap] w fun e w' => YesIf (sumTo ln m ≤ 1048576) e ∧ w' = w := by
  unfold maxLen at hln
  go_enter Try.func6, Try.ntmps6
  go_wp2
  go_loop [5, 6] (fun tv iv => ∃ k : Nat, k ≤ m ∧ iv = .int .i64 k ∧ tv = .int .i64 (8 * n + (8 * k + sumTo ln k) : Nat) ∧ sumTo ln k ≤ 1048576) (fun _ iv => m - (intOf iv).toNat)
  case atStart => exact ⟨0, Nat.zero_le _, rfl, by simp [sumTo], by simp [sumTo]⟩
  case round =>
    obtain ⟨k, hk, rfl, rfl, hs⟩ := hrel
    by_cases hlt : k < m
    · have g1 := hl k hlt
      have g2 := hln k hlt
      have HS : Hid (sumTo ln (k + 1) = sumTo ln k + ln k) := rfl
      by_cases g3 : ln k ≤ 1048576
      · by_cases g4 : 8 * n + (8 * k + sumTo ln k) + (8 + ln k) ≤ 1048576
        · go_wp2
          go_round
          case rel => exact ⟨k + 1, by omega, by go_num, by rw [HS.out]; go_num, by rw [HS.out]; omega⟩
          case measure => simp [intOf]; omega
        · go_wp2
          go_ret
          exact ⟨YesIf.no _, rfl⟩
      · go_wp2
        go_ret
        exact ⟨YesIf.no _, rfl⟩
    · go_wp2
      go_ret
      exact ⟨YesIf.yes (by rw [show m = k from by omega]; exact hs), rfl⟩

set_option maxHeartbeats 400000 in
theorem size_any (sa bo : Option Addr) (n sc m cap : Nat) (la : Nat → Option Addr) (ln lc : Nat → Nat) (w : World) (hn0 : n ≤ maxLen) (hm0 : m ≤ maxLen) (hln : ∀ j, j < m → ln j ≤ maxLen) (hl : LinesAt w bo m la ln lc) :
    Calls Try.prog 6 #[.slice sa n sc, .slice bo m cap] w fun e w' => YesIf (n ≤ 65536 ∧ m ≤ 65536 ∧ sumTo ln m ≤ 1048576) e ∧ w' = w := by
  by_cases hn : n ≤ 65536
  · by_cases hm : m ≤ 65536
    · by_cases h0 : m = 0
      · subst h0
        go_enter Try.func6, Try.ntmps6
        go_wp2
        refine wp_loop_rounds 1 ?_
        rw [rounds_succ]
        go_wp2
        go_ret
        exact ⟨YesIf.yes ⟨hn, by omega, by simp [sumTo]⟩, rfl⟩
      · obtain ⟨b, off, rfl, g⟩ := hl.resolve_left h0
        refine (size_pos sa n sc b off m cap la ln lc w hn hm hln g).mono ?_
        rintro e w' ⟨⟨t, he, ht⟩, hw⟩
        exact ⟨⟨t, he, fun h => ⟨hn, hm, ht h⟩⟩, hw⟩
    · unfold maxLen at hm0
      go_enter Try.func6, Try.ntmps6
      go_wp2
      go_ret
      exact ⟨YesIf.no _, rfl⟩
  · unfold maxLen at hn0
    go_enter Try.func6, Try.ntmps6
    go_wp2
    go_ret
    exact ⟨YesIf.no _, rfl⟩

end Go.Proofs.Qxb6619585a
