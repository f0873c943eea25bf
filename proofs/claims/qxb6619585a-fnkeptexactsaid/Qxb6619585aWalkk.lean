/-
  The walk of kept (12).
-/
import Derived.Test.Qxb6619585aMem
namespace Go.Proofs.Qxb6619585a
open Go.RowKit

set_option maxHeartbeats 1000000 in
set_option maxRecDepth 100000 in
theorem kept_any (C R n : Nat) (hc nx de cp : Int) (Z : Nat → Int) (la : Nat → Option Addr) (ln lc : Nat → Nat) (bt : Nat → Nat → Int) (w : World)
    (c2 : w.cell? ⟨C, 2, none⟩ = some (.int .i64 hc)) (c3 : w.cell? ⟨C, 3, none⟩ = some (.int .u64 nx)) (c4 : w.cell? ⟨C, 4, none⟩ = some (.slice (some ⟨R, 0, none⟩) n n)) (c8 : w.cell? ⟨C, 8, none⟩ = some (.int .i64 de))
    (hn : n ≤ 65536) (hrow : w.rowIs R 36 (n * 2) (recF Z la ln lc)) (hbt : ∀ j, j < n → IntsAt w .u8 (la j) (ln j) (bt j)) (hnil : ∀ j, j < n → la j = none → ln j = 0 ∧ lc j = 0) (hsum : sumTo ln n ≤ 1048576) :
    Calls Try.prog 12 #[.pointer (some ⟨C, 0, none⟩), .int .i64 cp] w fun e w' => KeptPost hc cp nx de n Z ln bt w e w' := by
  have hz : ∀ k, k < n → w.cell? ⟨R, k * 2, none⟩ = some (.int .u64 (Z k)) := fun k hk => by rw [hrow.cell (by omega), recF_even]
  have HR := hide hrow
  have HZ := hide hz
  have HBT := hide hbt
  have HNIL := hide hnil
  have hsum0 : ∀ K m, K + m ≤ n → sumTo (fun j => ln (K + j)) m ≤ 1048576 := fun K m h => Nat.le_trans (sumTo_shift_le ln K m n h) hsum
  have HS0 := hide hsum0
  clear hrow hz hbt hnil hsum0 hsum
  go_enter Try.func12, Try.ntmps12
  go_wp2_with fail
  go_quiet (fail)
  generalize hM : (if nx < 1 then (1 : Int) else nx) = M
  have HM := hide hM
  clear hM
  go_upto_if 28 with fail
  go_cut [6, 7] (fun a b wc => Cut1 hc cp nx n R Z w a b wc)
  case first =>
    by_cases h0 : n = 0
    · subst h0
      go_wp2_with fail
      go_meet
      case rel => exact ⟨0, 0, Start.none (Or.inl rfl), by rw [preF_zero, HM.out], rfl, fun _ => rfl, Still.one _ _⟩
    · have hl := HZ.out (n - 1) (by omega)
      have hpos : 0 < n := by omega
      clear h0
      go_upto_region 4 with fail
      go_cut [6] (fun a wx => a = .int .u64 (max M (IntKind.u64.wrap (Z (n - 1) + 1))) ∧ wx = w.drewN nq)
      case first =>
        go_wp2_with fail
        · go_meet
          case rel => exact ⟨by rw [Int.max_eq_right (by omega)], rfl⟩
        · go_meet
          case rel => exact ⟨by rw [Int.max_eq_left (by omega)], rfl⟩
      case rest =>
        obtain ⟨rfl, rfl⟩ := hcut
        generalize hM2 : max M (IntKind.u64.wrap (Z (n - 1) + 1)) = M2
        have HM2 := hide hM2
        clear hM2
        go_wp2_with fail
        go_loopg [7] n (fun g b wr => ∃ k o q : Nat, g + k = n ∧ b = .slice (some ⟨R, o, none⟩) g g ∧ (k < n → o = k * 2) ∧ (∀ j, j < k → Drop hc cp n Z j) ∧ wr = w.drewN q)
        case atStart => exact ⟨0, 0, _, rfl, rfl, fun _ => rfl, fun j h => absurd h (Nat.not_lt_zero _), rfl⟩
        case round =>
          obtain ⟨k, o, q, hk, rfl, ho, hD, rfl⟩ := hrel
          have HD := hide hD
          clear hD
          by_cases hg : gk = 0
          · subst hg
            go_wp2_with fail
            go_quiet (fail)
            go_wp2_with fail
            go_meet
            case rel => exact ⟨n, o, ⟨Nat.le_refl _, fun j hj => HD.out j (by omega), fun h => absurd h (Nat.lt_irrefl _)⟩, by rw [preF_pos nx n Z hpos, HM.out, HM2.out], by rw [Nat.sub_self], fun h => absurd h (Nat.lt_irrefl _), Still.two _ _ _⟩
          · obtain rfl := ho (by omega)
            clear ho
            have hcell := HZ.out k (by omega)
            have hgp : 0 < gk := by omega
            have hgd : decide (0 < gk) = true := decide_eq_true hgp
            by_cases hnear : IntKind.u64.wrap hc ≤ IntKind.u64.wrap (Z (n - 1) - Z k)
            · have hnd : decide (IntKind.u64.wrap hc ≤ IntKind.u64.wrap (Z (n - 1) - Z k)) = true := decide_eq_true hnear
              have HDk : Hid (Drop hc cp n Z k) := Or.inl (by unfold Near; omega)
              go_wp2_with fail
              go_quiet (fail)
              go_wp2_with fail
              · go_roundg (gk - 1)
                case measure => omega
                case rel => exact ⟨k + 1, k * 2, _, by omega, by rw [show gk - 1 = 0 from by omega], fun _ => by omega, drop_succ HD.out HDk.out, rfl⟩
              · go_roundg (gk - 1)
                case measure => omega
                case rel => exact ⟨k + 1, k * 2 + 2, _, by omega, rfl, fun _ => by omega, drop_succ HD.out HDk.out, rfl⟩
            · have hnd : decide (IntKind.u64.wrap hc ≤ IntKind.u64.wrap (Z (n - 1) - Z k)) = false := decide_eq_false hnear
              by_cases hlen : cp < (gk : Int)
              · have HDk : Hid (Drop hc cp n Z k) := Or.inr (by omega)
                go_wp2_with fail
                go_quiet (fail)
                go_wp2_with fail
                · go_roundg (gk - 1)
                  case measure => omega
                  case rel => exact ⟨k + 1, k * 2, _, by omega, by rw [show gk - 1 = 0 from by omega], fun _ => by omega, drop_succ HD.out HDk.out, rfl⟩
                · go_roundg (gk - 1)
                  case measure => omega
                  case rel => exact ⟨k + 1, k * 2 + 2, _, by omega, rfl, fun _ => by omega, drop_succ HD.out HDk.out, rfl⟩
              · have HDk : Hid (¬ Drop hc cp n Z k) := by intro h; unfold Drop Near at h; omega
                go_wp2_with fail
                go_quiet (fail)
                go_wp2_with fail
                go_meet
                case rel => exact ⟨k, k * 2, ⟨by omega, HD.out, fun _ => HDk.out⟩, by rw [preF_pos nx n Z hpos, HM.out, HM2.out], by rw [show n - k = gk from by omega], fun _ => rfl, Still.two _ _ _⟩
  case rest =>
    obtain ⟨K, o, HS, rfl, rfl, ho, q, rfl⟩ := hcut
    have hKn : K ≤ n := HS.1
    have HSt := hide HS
    clear HS
    obtain ⟨m, hm⟩ : ∃ m, n - K = m := ⟨_, rfl⟩
    have hRlt : R < w.heap.size := HR.out.lt
    obtain ⟨Z', hZ'⟩ : ∃ f : Nat → Int, f = fun j => Z (K + j) := ⟨_, rfl⟩
    obtain ⟨la', hla'⟩ : ∃ f : Nat → Option Addr, f = fun j => la (K + j) := ⟨_, rfl⟩
    obtain ⟨ln', hln'⟩ : ∃ f : Nat → Nat, f = fun j => ln (K + j) := ⟨_, rfl⟩
    obtain ⟨lc', hlc'⟩ : ∃ f : Nat → Nat, f = fun j => lc (K + j) := ⟨_, rfl⟩
    obtain ⟨bt', hbt'⟩ : ∃ f : Nat → Nat → Int, f = fun j => bt (K + j) := ⟨_, rfl⟩
    have HZ' := hide hZ'
    have Hla' := hide hla'
    have Hln' := hide hln'
    have Hlc' := hide hlc'
    have Hbt' := hide hbt'
    have HA : Hid (∀ j, j < m → w.cell? ⟨R, o + j * 2, none⟩ = some (.int .u64 (Z' j)) ∧ w.cell? ⟨R, o + j * 2 + 1, none⟩ = some (.slice (la' j) (ln' j) (lc' j))) := by
      intro j hj
      rw [ho (by omega)]
      have e1 : K * 2 + j * 2 = (K + j) * 2 := by omega
      rw [e1, HR.out.cell (by omega), HR.out.cell (by omega), recF_even, recF_odd]
      rw [hZ', hla', hln', hlc']
      exact ⟨rfl, rfl⟩
    rw [hm]
    have HM3 : Hid (n - K = m) := hm
    have hmn : K + m = n := by omega
    have HMN := hide hmn
    have hm2 : m ≤ 65536 := by omega
    have hsum : ∀ k, k ≤ m → sumTo ln' k ≤ 1048576 := fun k hk => by rw [hln']; exact HS0.out K k (by omega)
    have HSU := hide hsum
    clear hsum
    have hn0 : ∀ j, j < m → la' j = none → ln' j = 0 ∧ lc' j = 0 := by
      intro j hj; rw [hla', hln', hlc']; exact HNIL.out (K + j) (by omega)
    have HN0 := hide hn0
    have hin0 : ∀ j, j < m → IntsAt w .u8 (la' j) (ln' j) (bt' j) := by
      intro j hj; rw [hla', hln', hbt']; exact HBT.out (K + j) (by omega)
    have HIN0 := hide hin0
    clear hm ho hmn hZ' hla' hln' hlc' hbt' hn0 hin0
    have hmk1 := make_bytes (sumTo ln' m) (HSU.out m (Nat.le_refl _))
    have hmk2 := make_recs m hm2
    go_wp2_with fail
    go_loopg [9, 75] m (fun g a b wr => ∃ k : Nat, g + k = m ∧ a = .int .i64 (sumTo ln' k) ∧ b = .int .i64 k ∧ Below w.heap.size w wr)
    case atStart => exact ⟨0, rfl, rfl, rfl, ⟨rfl, rfl, rfl, Nat.le_refl _, fun _ _ => rfl⟩⟩
    case round =>
      obtain ⟨k, hk, rfl, rfl, hb⟩ := hrel
      by_cases hg : gk = 0
      · subst hg
        obtain rfl : k = m := by omega
        have HB := hide hb
        clear hb
        go_wp2_with fail
        have hL := Laid.start (m := k) (SS := sumTo ln' k) HB.out (by have := HSU.out k (Nat.le_refl _); unfold maxLen; omega) Z' ln' bt'
        have HL := hide hL
        clear hL
        generalize hG : wr.heap.size = G at HL ⊢
        clear hG HB
        go_loopg [12, 92] k (fun g a b wr2 => ∃ i : Nat, g + i = k ∧ a = .slice (some ⟨G, 0, none⟩) (sumTo ln' i) (sumTo ln' k) ∧ b = .int .i64 i ∧ Laid w wr2 G (G + 1) k (sumTo ln' k) i Z' ln' bt')
        case atStart => exact ⟨0, rfl, rfl, rfl, HL.out⟩
        case round =>
          clear HL
          obtain ⟨i, hi, rfl, rfl, hL⟩ := hrel
          by_cases hg : gk = 0
          · subst hg
            obtain rfl : i = k := by omega
            have HL := hide hL
            clear hL
            go_wp2_with fail
            go_ret2
            exact KeptPost.mk HSt.out HM3.out HZ'.out Hln'.out Hbt'.out HL.out
          · obtain ⟨hb, hG, hH, hGH, hHlt, ⟨xs, hown, hxs⟩, ⟨f, hf, hfj⟩⟩ := hL
            obtain ⟨g1, g2⟩ := HA.out i (by omega)
            have q1 := (hb.cell (p := ⟨R, o + i * 2, none⟩) hRlt).trans g1
            have q2 := (hb.cell (p := ⟨R, o + i * 2 + 1, none⟩) hRlt).trans g2
            have hs1 : sumTo ln' (i + 1) ≤ sumTo ln' k := sumTo_mono _ (by omega)
            have hs3 : sumTo ln' (i + 1) = sumTo ln' i + ln' i := rfl
            have hs2 := HSU.out k (Nat.le_refl _)
            rw [hs3] at hs1
            have HS3 := hide hs3
            have hik : i < k := by omega
            have hn0 : la' i = none → ln' i = 0 ∧ lc' i = 0 := HN0.out i hik
            have hin : IntsAt wr .u8 (la' i) (ln' i) (bt' i) := (HIN0.out i hik).below hb
            have HOWN := hide hown
            have HXS := hide hxs
            have HF := hide hf
            have HFJ := hide hfj
            have HN1 := hide hn0
            have HIN := hide hin
            have HB := hide hb
            clear g1 g2 HA hs3 hown hxs hf hfj hn0 hin hb
            obtain ⟨i5, hi5, hz5, hs5, hb5⟩ := info_parts info5
            go_wp2_with (at_builtin; refine wpList_append_fits_any _ rfl (.tmp 97) (.tmp 99) 32 rfl w.heap.size 5 i5 1 Try.underlying32 hi5 hs5 G _ _ xs rfl (HOWN.out.alloc _) (la' i) (ln' i) (lc' i) ((List.range (ln' i)).map fun t => Value.int .u8 (bt' i t)) rfl (by simp) HN1.out ?hc1 ?hc2 hs1 ?_)
            case hc1 => exact HIN.out.news HB.out _
            case hc2 => exact ints_oneCell' _ _ _
            intro w1 hown1 hgr
            have hHw : G + 1 < wr.heap.size := hHlt
            obtain ⟨r1, r2, r3⟩ := after_append hgr (by omega)
            have hf1 : w1.rowIs (G + 1) 36 (k * 2) f := (HF.out.alloc _).of_block (hgr.block (G + 1) (by simp; omega) (by simp))
            have e1 := hf1.cell (i := i * 2) (by omega)
            have e2 := hf1.cell (i := i * 2 + 1) (by omega)
            have z1 := hf1.frozen (i * 2)
            have z2 := hf1.frozen (i * 2 + 1)
            have HO1 := hide hown1
            have HGR := hide hgr
            have HF1 := hide hf1
            clear hown1 hgr hf1
            go_wp2_with fail
            go_region
            generalize hav : (if ln' i = 0 then some (⟨G, 0, none⟩ : Addr) else some ⟨G, sumTo ln' i, none⟩) = av
            have HAV := hide hav
            clear hav
            generalize (if sumTo ln' i + ln' i = sumTo ln' i then some (⟨G, 0, none⟩ : Addr) else some ⟨G, sumTo ln' i, none⟩) = av2
            go_wp2_with fail
            go_roundg (gk - 1)
            case measure => omega
            case rel => exact ⟨i + 1, by omega, rfl, by go_num, Laid.step HB.out hG hH hik HGR.out HO1.out HOWN.out.1 HXS.out HF1.out HFJ.out (fun h => by rw [← HAV.out, if_neg h])⟩
      · obtain ⟨g1, g2⟩ := HA.out k (by omega)
        have q1 := (hb.cell (p := ⟨R, o + k * 2, none⟩) hRlt).trans g1
        have q2 := (hb.cell (p := ⟨R, o + k * 2 + 1, none⟩) hRlt).trans g2
        clear g1 g2
        have HB := hide hb
        clear hb
        have hkm : k < m := by omega
        have hs1 := HSU.out k (by omega)
        have hs2 := HSU.out (k + 1) (by omega)
        have hs3 : sumTo ln' (k + 1) = sumTo ln' k + ln' k := rfl
        rw [hs3] at hs2
        have HS3 := hide hs3
        clear hs3 HA
        go_wp2_with fail
        go_roundg (gk - 1)
        case measure => omega
        case rel => exact ⟨k + 1, by omega, by rw [HS3.out]; go_num, by go_num, HB.out.alloc HB.out.size _⟩

end Go.Proofs.Qxb6619585a
