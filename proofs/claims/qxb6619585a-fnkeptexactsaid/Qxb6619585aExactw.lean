/-
  The walk of FnKeptExact (3).
-/
import Derived.Test.Qxb6619585aCopy
namespace Go.Proofs.Qxb6619585a
open Go.RowKit

set_option maxHeartbeats 1000000 in
set_option maxRecDepth 100000 in
theorem exact_walk (nx hc de cp : Int) (sa bo : Option Addr) (n sc m bc : Nat) (Z : Nat → Int) (la : Nat → Option Addr) (ln lc : Nat → Nat) (bt : Nat → Nat → Int) (w : World)
    (hn0 : n ≤ maxLen) (hm0 : m ≤ maxLen) (hln : ∀ j, j < m → ln j ≤ maxLen) (hz : IntsAt w .u64 sa n Z) (hsn : sa = none → n = 0) (hl : LinesAt w bo m la ln lc) (hbt : ∀ j, j < m → IntsAt w .u8 (la j) (ln j) (bt j)) (hnil : ∀ j, j < m → la j = none → ln j = 0 ∧ lc j = 0) :
    Calls Try.prog 3 #[.int .u64 nx, .int .i64 hc, .slice sa n sc, .slice bo m bc, .int .i64 de, .int .i64 cp] w fun e w' => e = .returned (.bool true) ∧ Below w.heap.size w w' := by
  have B11 := hide (bytes5_any nx hc de cp sa bo n sc m bc la ln lc w hn0 hm0 hln hl)
  have B6 := hide (size_any sa bo n sc m bc la ln lc w hn0 hm0 hln hl)
  have HZ := hide hz
  have HSN := hide hsn
  have HL := hide hl
  have HBT := hide hbt
  have HNIL := hide hnil
  clear hz hsn hl hbt hnil hln
  unfold maxLen at hn0 hm0
  go_enter Try.func3, Try.ntmps3
  go_wp2_with fail
  refine B11.out.mono ?_
  rintro e w' ⟨⟨t, rfl, -⟩, rfl⟩
  cases t
  · go_wp2_with fail
    go_ret
    exact ⟨rfl, Below.refl _ _⟩
  go_wp2_with fail
  refine B6.out.mono ?_
  rintro e w' ⟨⟨t, rfl, hsz⟩, rfl⟩
  cases t
  · clear hsz
    go_wp2_with fail
    go_ret
    exact ⟨rfl, Below.refl _ _⟩
  obtain ⟨hn, hm, hsum⟩ := hsz rfl
  clear hsz B11 B6
  by_cases hnm : ¬ n = m
  · go_wp2_with fail
    go_ret
    exact ⟨rfl, Below.refl _ _⟩
  obtain rfl : n = m := Classical.not_not.1 hnm
  have HSUM := hide hsum
  clear hsum hn0 hm0 hm hnm
  have hneq := fun w => run_neq_slice_nil_any (P := Try.prog) w 23 22 sa n sc 0 0 Try.underlying23
  go_upto_if 39 with fail
  go_cut [2] (fun a wc => Cut3 w' n Z a wc)
  case first =>
    cases sa with
    | none =>
      obtain rfl : n = 0 := HSN.out rfl
      go_wp2_with fail
      go_meet
      case rel => exact ⟨none, sc, rfl, Or.inl rfl, Below.refl _ _⟩
    | some ad =>
      have hmk := make_seqs n hn
      obtain ⟨W3, v3, hcp, hz3, hb3⟩ := copy_seqs w' ad n sc Z HZ.out
      have HZ3 := hide hz3
      have HB3 := hide hb3
      clear hz3 hb3
      go_wp2_with fail
      go_meet
      case rel => exact ⟨_, _, rfl, HZ3.out, HB3.out⟩
  case rest =>
    clear hneq HSN HZ
    obtain ⟨ao, cap, rfl, hzc, hbc⟩ := hcut
    have HZC := hide hzc
    have HBC := hide hbc
    clear hzc hbc
    go_wp2_with fail
    refine (start_any hc cp ao n cap Z _ hn HZC.out).mono ?_
    rintro e wd ⟨⟨K, rfl, hS⟩, rfl⟩
    have HS := hide hS
    have hKn : K ≤ n := hS.1
    clear hS
    go_wp2_with fail
    refine (next_any nx de ao n cap Z _ hn HZC.out).mono ?_
    rintro e we ⟨rfl, rfl⟩
    go_wp2_with fail
    refine (zz_any nx hc de cp ao bo n cap bc Z la ln lc bt _ hn HZC.out (HL.out.below HBC.out) (fun j hj => (HBT.out j hj).below HBC.out) HNIL.out HSUM.out).mono ?_
    rintro e w1 ⟨K1, Q1, la1, hS1, rfl, hQ1, hb1, hr1, hl1, hi1⟩
    obtain rfl : K = K1 := HS.out.unique hS1
    obtain ⟨m, hm⟩ : ∃ m, n - K = m := ⟨_, rfl⟩
    have hbc1 : Below w'.heap.size w' w1 := HBC.out.trans (hb1.mono HBC.out.size)
    have HEND := hide hbc1
    have HZ1 : Hid (IntsAt w1 .u64 ao n Z) := HZC.out.below hb1
    have HL1 : Hid (LinesAt w1 bo n la ln lc) := HL.out.below hbc1
    have FIN : Hid (∀ i, i < m → w1.cell? ⟨Q1, i, none⟩ = some (.int .u64 (Z (K + i))) ∧ w1.cell? ⟨Q1 + 1, i, none⟩ = some (.slice (la1 i) (ln (K + i)) (ln (K + i))) ∧
        IntsAt w1 .u8 (la1 i) (ln (K + i)) (bt (K + i)) ∧ IntsAt w1 .u8 (la (K + i)) (ln (K + i)) (bt (K + i)) ∧ ln (K + i) ≤ 1048576) := by
      intro i hi
      exact ⟨hr1.cell (by omega), hl1.cell (by omega), hi1 i (by omega), (HBT.out (K + i) (by omega)).below hbc1, Nat.le_trans (le_sumTo ln (by omega)) HSUM.out⟩
    have hmn : K + m = n := by omega
    have HMN := hide hmn
    have hKm : K + m ≤ n := by omega
    rw [hm]
    clear hS1 hb1 hr1 hl1 hi1 hbc1 HZC HBC HL HBT HNIL HSUM HS hm hmn
    go_upto_region 16 with fail
    go_cut [19] (fun a wx => a = .int .i64 (m : Nat) ∧ wx = w1)
    case first =>
      go_wp2_with fail
      go_meet
      case rel => exact ⟨by rw [show (n : Int) - K = m from by have := HMN.out; omega], rfl⟩
    case rest =>
      obtain ⟨rfl, rfl⟩ := hcut
      go_wp2_with fail
      go_loopg [20] m (fun g a wr => ∃ i q : Nat, g + i = m ∧ a = .int .i64 i ∧ wr = wc.drewN q)
      case atStart => exact ⟨0, 0, rfl, rfl, rfl⟩
      case round =>
        obtain ⟨i, q, hi, rfl, rfl⟩ := hrel
        by_cases hg : gk = 0
        · go_wp2_with fail
          go_ret
          exact ⟨rfl, below_drewN' HEND.out _⟩
        · obtain ⟨a1, a3, a5, a6, hli⟩ := FIN.out i (by omega)
          obtain ⟨b1, o1, rfl, h1⟩ := HZ1.out.resolve_left (by omega)
          obtain ⟨b2, o2, rfl, h2⟩ := HL1.out.resolve_left (by omega)
          have a2 := h1 (K + i) (by omega)
          have a4 := h2 (K + i) (by omega)
          have HSA := hide (fun q1 c1 c2 => same_any (la1 i) (la (K + i)) c1 c2 (ln (K + i)) (bt (K + i)) (wc.drewN q1) hli a5 a6)
          clear a5 a6 h1 h2
          have him : i < m := by omega
          have hdi : K + i < n := by omega
          go_wp2_with fail
          go_quiet (fail)
          go_wp2_with fail
          go_quiet ((go_at_call 10; exact quiet_sum (HSA.out _ _ _)))
          go_wp2_with fail
          go_roundg (gk - 1)
          case measure => omega
          case rel => exact ⟨i + 1, _, by omega, by go_num, rfl⟩

end Go.Proofs.Qxb6619585a
