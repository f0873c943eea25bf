/-
  The walk of FnKeptShrinkCapacity (4).
-/
import Derived.Test.Qxb6619585aCopy
namespace Go.Proofs.Qxb6619585a
open Go.RowKit

def Cut4 (w : World) (n : Nat) (ao : Option Addr) (Z : Nat → Int) (a b : Value) (wc : World) : Prop :=
  ∃ sm bg : Int, sm ≤ bg ∧ a = .int .i64 sm ∧ b = .int .i64 bg ∧ IntsAt wc .u64 ao n Z ∧ Below w.heap.size w wc

set_option maxHeartbeats 1000000 in
set_option maxRecDepth 100000 in
theorem shrink_walk (nx hc de c1 c2 : Int) (sa bo : Option Addr) (n sc m bc : Nat) (Z : Nat → Int) (la : Nat → Option Addr) (ln lc : Nat → Nat) (bt : Nat → Nat → Int) (w : World)
    (hn0 : n ≤ maxLen) (hm0 : m ≤ maxLen) (hln : ∀ j, j < m → ln j ≤ maxLen) (hz : IntsAt w .u64 sa n Z) (hZ : ∀ j, j < n → 0 ≤ Z j ∧ Z j < 18446744073709551616) (hsn : sa = none → n = 0) (hl : LinesAt w bo m la ln lc) (hbt : ∀ j, j < m → IntsAt w .u8 (la j) (ln j) (bt j)) (hnil : ∀ j, j < m → la j = none → ln j = 0 ∧ lc j = 0) :
    Calls Try.prog 4 #[.int .u64 nx, .int .i64 hc, .slice sa n sc, .slice bo m bc, .int .i64 de, .int .i64 c1, .int .i64 c2] w fun e w' => e = .returned (.bool true) ∧ Below w.heap.size w w' := by
  have B11 := hide (bytes11_any nx hc de c1 c2 sa bo n sc m bc la ln lc w hn0 hm0 hln hl)
  have B6 := hide (size_any sa bo n sc m bc la ln lc w hn0 hm0 hln hl)
  have HZ := hide hz
  have HZZ := hide hZ
  have HSN := hide hsn
  have HL := hide hl
  have HBT := hide hbt
  have HNIL := hide hnil
  clear hz hZ hsn hl hbt hnil hln
  unfold maxLen at hn0 hm0
  go_enter Try.func4, Try.ntmps4
  go_wp2_with fail
  refine B11.out.mono ?_
  rintro e w' ⟨⟨t, rfl, -⟩, rfl⟩
  cases t
  · go_wp2_with fail
    go_ret
    exact ⟨rfl, Below.refl _ _⟩
  go_wp2_with fail
  refine B6.out.mono ?_
  rintro e w' ⟨⟨t, rfl, hsz⟩, rfl⟩
  cases t
  · clear hsz
    go_wp2_with fail
    go_ret
    exact ⟨rfl, Below.refl _ _⟩
  obtain ⟨hn, hm, hsum⟩ := hsz rfl
  clear hsz B11 B6
  by_cases hnm : ¬ n = m
  · go_wp2_with fail
    go_ret
    exact ⟨rfl, Below.refl _ _⟩
  obtain rfl : n = m := Classical.not_not.1 hnm
  have HSUM := hide hsum
  clear hsum hn0 hm0 hm hnm
  have hneq := fun w => run_neq_slice_nil_any (P := Try.prog) w 23 22 sa n sc 0 0 Try.underlying23
  go_upto_if 48 with fail
  go_cut [2] (fun a wc => Cut3 w' n Z a wc)
  case first =>
    cases sa with
    | none =>
      obtain rfl : n = 0 := HSN.out rfl
      go_wp2_with fail
      go_meet
      case rel => exact ⟨none, sc, rfl, Or.inl rfl, Below.refl _ _⟩
    | some ad =>
      have hmk := make_seqs n hn
      obtain ⟨W3, v3, hcp, hz3, hb3⟩ := copy_seqs w' ad n sc Z HZ.out
      have HZ3 := hide hz3
      have HB3 := hide hb3
      clear hz3 hb3
      go_wp2_with fail
      go_meet
      case rel => exact ⟨_, _, rfl, HZ3.out, HB3.out⟩
  case rest =>
    clear hneq HSN HZ
    obtain ⟨ao, cap, rfl, hzc, hbc⟩ := hcut
    have HZC := hide hzc
    have HBC := hide hbc
    clear hzc hbc
    go_wp2_with fail
    go_loopg [16] n (fun g a wr => ∃ i q : Nat, g + i = n + 1 ∧ 1 ≤ i ∧ a = .int .i64 i ∧ (∀ j, j + 1 < i → j + 1 < n → Z j ≤ Z (j + 1)) ∧ wr = wc.drewN q)
    case atStart => exact ⟨1, 0, rfl, Nat.le_refl _, rfl, fun j h => by omega, rfl⟩
    case round =>
      obtain ⟨i, q, hi, hi1, rfl, hso, rfl⟩ := hrel
      have HSO := hide hso
      clear hso
      by_cases hin : i < n
      · obtain ⟨b, off, rfl, hc⟩ := HZC.out.resolve_left (by omega)
        have q1 := hc i hin
        have q2 := hc (i - 1) (by omega)
        clear hc
        by_cases hlt : Z i < Z (i - 1)
        · go_wp2_with fail
          go_quiet (fail)
          go_wp2_with fail
          go_ret
          exact ⟨rfl, below_drewN' (below_drewN' HBC.out _) _⟩
        · go_wp2_with fail
          go_quiet (fail)
          go_wp2_with fail
          go_roundg (gk - 1)
          case measure => omega
          case rel => exact ⟨i + 1, _, by omega, by omega, by go_num, fun j h1 h2 => by
                        by_cases e : j + 1 = i
                        · subst e; have := hlt; simp only [Nat.add_sub_cancel] at this; omega
                        · exact HSO.out j (by omega) h2, rfl⟩
      · have HSORT : Hid (∀ j, j + 1 < n → Z j ≤ Z (j + 1)) := fun j h => HSO.out j (by omega) h
        clear HSO
        go_upto_if 76 with fail
        go_cut [17, 18] (fun a b wx => Cut4 w' n ao Z a b wx)
        case first =>
          by_cases hcc : c2 < c1
          · go_wp2_with fail
            go_meet
            case rel => exact ⟨c2, c1, by omega, rfl, rfl, HZC.out, below_drewN' HBC.out _⟩
          · go_wp2_with fail
            go_meet
            case rel => exact ⟨c1, c2, by omega, rfl, rfl, HZC.out, below_drewN' HBC.out _⟩
        case rest =>
          clear HZC HBC
          obtain ⟨sm, bg, hsb, rfl, rfl, hzc, hbc⟩ := hcut
          have HZC := hide hzc
          have HBC := hide hbc
          clear hzc hbc
          go_wp2_with fail
          refine (next_any nx de ao n cap Z _ hn HZC.out).mono ?_
          rintro e wd ⟨rfl, rfl⟩
          go_wp2_with fail
          refine (zz_any nx hc de sm ao bo n cap bc Z la ln lc bt _ hn HZC.out (HL.out.below HBC.out) (fun j hj => (HBT.out j hj).below HBC.out) HNIL.out HSUM.out).mono ?_
          rintro e w1 ⟨K1, Q1, la1, hS1, rfl, hQ1, hb1, hr1, hl1, hi1⟩
          have hbc1 : Below w'.heap.size w' w1 := HBC.out.trans (hb1.mono HBC.out.size)
          have HBC1 := hide hbc1
          have HB1 := hide hb1
          have HR1 := hide hr1
          have HL1 := hide hl1
          have HI1 := hide hi1
          have HS1 := hide hS1
          clear hbc1 hb1 hr1 hl1 hi1 hS1
          go_wp2_with fail
          refine (zz_any nx hc de bg ao bo n cap bc Z la ln lc bt _ hn (HZC.out.below HB1.out) (HL.out.below HBC1.out) (fun j hj => (HBT.out j hj).below HBC1.out) HNIL.out HSUM.out).mono ?_
          rintro e w2 ⟨K2, Q2, la2, hS2, rfl, hQ2, hb2, hr2, hl2, hi2⟩
          obtain ⟨m1, hm1⟩ : ∃ m1, n - K1 = m1 := ⟨_, rfl⟩
          obtain ⟨m2, hm2⟩ : ∃ m2, n - K2 = m2 := ⟨_, rfl⟩
          have hsh := shrink HZZ.out HSORT.out hsb HS1.out hS2
          have hK1 := HS1.out.1
          have hK2 := hS2.1
          have hkk := hsh.1
          obtain ⟨d, hd⟩ : ∃ d, d = m2 - m1 := ⟨_, rfl⟩
          have FIN : Hid (∀ i, i < m1 → w2.cell? ⟨Q1, i, none⟩ = some (.int .u64 (Z (K1 + i))) ∧ w2.cell? ⟨Q2, d + i, none⟩ = some (.int .u64 (Z (K1 + i))) ∧
              w2.cell? ⟨Q1 + 1, i, none⟩ = some (.slice (la1 i) (ln (K1 + i)) (ln (K1 + i))) ∧ w2.cell? ⟨Q2 + 1, d + i, none⟩ = some (.slice (la2 (d + i)) (ln (K1 + i)) (ln (K1 + i))) ∧
              IntsAt w2 .u8 (la1 i) (ln (K1 + i)) (bt (K1 + i)) ∧ IntsAt w2 .u8 (la2 (d + i)) (ln (K1 + i)) (bt (K1 + i))) := by
            intro i hi
            have e : K2 + (d + i) = K1 + i := by omega
            have a1 := (HR1.out.of_block (hb2.block Q1 HR1.out.lt)).cell (i := i) (by omega)
            have a2 := hr2.cell (i := d + i) (by omega)
            have a3 := (HL1.out.of_block (hb2.block (Q1 + 1) HL1.out.lt)).cell (i := i) (by omega)
            have a4 := hl2.cell (i := d + i) (by omega)
            have a5 := (HI1.out i (by omega)).below hb2
            have a6 := hi2 (d + i) (by omega)
            rw [e] at a2 a4 a6
            exact ⟨a1, a2, a3, a4, a5, a6⟩
          have HEND : Hid (Below w'.heap.size w' w2) := HBC1.out.trans (hb2.mono HBC1.out.size)
          have hle : ∀ j, j < n → ln j ≤ 1048576 := fun j hj => Nat.le_trans (le_sumTo ln hj) HSUM.out
          have HLE := hide hle
          have hmf := hsh.2
          rw [hm1, hm2] at hmf
          rw [hm1, hm2]
          have HMF := hide hmf
          have h12 : m1 ≤ m2 := by omega
          have HD := hide hd
          have hd2 : d + m1 ≤ m2 := by omega
          have h2n : m2 ≤ n := by omega
          have hkm : K1 + m1 ≤ n := by omega
          clear hd hS2 hb2 hr2 hl2 hi2 hsh hle hmf hm1 hm2 hkk hK1 hK2 HBC1 HB1 HR1 HL1 HI1 HS1 HZC HBC HL HBT HNIL HSUM HZZ HSORT
          go_upto_if 120 with fail
          go_cut [26] (fun a wx => a = .int .i64 (if sm < 0 then 0 else sm) ∧ wx = w2)
          case first =>
            by_cases h : sm < 0
            · go_wp2_with fail
              go_meet
              case rel => exact ⟨by rw [if_pos h], rfl⟩
            · go_wp2_with fail
              go_meet
              case rel => exact ⟨by rw [if_neg (by omega)], rfl⟩
          case rest =>
            obtain ⟨rfl, rfl⟩ := hcut
            generalize (if sm < 0 then (0 : Int) else sm) = S at HMF ⊢
            go_upto_if 124 with fail
            go_cut [26] (fun a wx => a = .int .i64 (m1 : Nat) ∧ wx = wc)
            case first =>
              by_cases h : (m2 : Int) < S
              · go_wp2_with fail
                go_meet
                case rel => exact ⟨by rw [← HMF.out, if_pos h], rfl⟩
              · go_wp2_with fail
                go_meet
                case rel => exact ⟨by rw [← HMF.out, if_neg (by omega)], rfl⟩
            case rest =>
              obtain ⟨rfl, rfl⟩ := hcut
              go_upto_region 33 with fail
              go_cut [27] (fun a wx => a = .int .i64 (d : Nat) ∧ wx = wc)
              case first =>
                go_wp2_with fail
                go_meet
                case rel => exact ⟨by rw [show (m2 : Int) - m1 = d from by have := HD.out; omega], rfl⟩
              obtain ⟨rfl, rfl⟩ := hcut
              go_wp2_with fail
              go_loopg [28] m1 (fun g a wr => ∃ i q : Nat, g + i = m1 ∧ a = .int .i64 i ∧ wr = wc.drewN q)
              case atStart => exact ⟨0, 0, rfl, rfl, rfl⟩
              case round =>
                obtain ⟨i, q, hi, rfl, rfl⟩ := hrel
                by_cases hg : gk = 0
                · go_wp2_with fail
                  go_ret
                  exact ⟨rfl, below_drewN' HEND.out _⟩
                · obtain ⟨a1, a2, a3, a4, a5, a6⟩ := FIN.out i (by omega)
                  have hli := HLE.out (K1 + i) (by omega)
                  have HSA := hide (fun q1 c1 c2 => same_any (la1 i) (la2 (d + i)) c1 c2 (ln (K1 + i)) (bt (K1 + i)) (wc.drewN q1) hli a5 a6)
                  clear a5 a6
                  have him : i < m1 := by omega
                  have hdi : d + i < m2 := by omega
                  go_wp2_with fail
                  go_quiet (fail)
                  go_wp2_with fail
                  go_quiet ((go_at_call 10; exact quiet_sum (HSA.out _ _ _)))
                  go_wp2_with fail
                  go_roundg (gk - 1)
                  case measure => omega
                  case rel => exact ⟨i + 1, _, by omega, by go_num, rfl⟩

end Go.Proofs.Qxb6619585a
