/-
  The walk of FnSplitFieldsScript (5).
-/
import Derived.Test.Qxb6619682aModel
namespace Go.Proofs.Qxb6619682a
open Go.RowKit Plain

/-- What one call of split says of the text that is left. -/
structure CutOf (c : ByteArray) (F R : ByteArray) (A : Nat) : Prop where
  sum1 : A + (F.size + R.size) ≤ c.size
  sum2 : c.size ≤ A + (F.size + R.size)
  fld : c.extract A (A + F.size) = F
  rst : c.extract (A + F.size) c.size = R
  bla : allB (c.extract 0 A).data.toList = true

theorem cut_of (c : ByteArray) : CutOf c (bs (fld c.data.toList)) (bs (rst c.data.toList)) (sA c.data.toList) := by
  have h := split_len c.data.toList
  rw [size_toList] at h
  have hB := sB_eq c.data.toList
  refine ⟨by rw [bs_size, bs_size]; omega, by rw [bs_size, bs_size]; omega, ?_, ?_, ?_⟩
  · apply eq_bs
    rw [bs_size, ← hB]
    simp only [ByteArray.data_extract, Array.toList_extract, List.extract_eq_take_drop]
    exact fld_at _
  · apply eq_bs
    rw [bs_size, ← hB]
    simp only [ByteArray.data_extract, Array.toList_extract, List.extract_eq_take_drop]
    rw [List.take_of_length_le (by simp)]
    exact rst_at _
  · have e : (c.extract 0 (sA c.data.toList)).data.toList = c.data.toList.take (sA c.data.toList) := by simp [ByteArray.data_extract]
    rw [e]
    exact take_blank _

/-- How far the script has come. -/
structure Stands (l : List UInt8) (c : ByteArray) (k : Nat) : Prop where
  rest : (fields l).drop k = fields c.data.toList
  le : k ≤ (fields l).length

theorem Stands.last {l : List UInt8} {c : ByteArray} {k : Nat} (h : Stands l c k) (hb : allB c.data.toList = true) : k = (fields l).length := by
  have h1 := h.rest
  rw [fields_blank hb] at h1
  have := congrArg List.length h1
  simp at this
  have := h.le
  omega

theorem Stands.step {l : List UInt8} {c : ByteArray} {k : Nat} (h : Stands l c k) (hb : allB c.data.toList = false) :
    k < (fields l).length ∧ (fields l).getD k [] = fld c.data.toList ∧ Stands l (bs (rst c.data.toList)) (k + 1) := by
  have h1 := h.rest
  rw [fields_some hb] at h1
  have hlt : k < (fields l).length := by
    have := congrArg List.length h1
    simp at this
    omega
  rw [List.drop_eq_getElem_cons hlt] at h1
  obtain ⟨h2, h3⟩ := List.cons.inj h1
  refine ⟨hlt, ?_, h3, hlt⟩
  rw [List.getD_eq_getElem?_getD, List.getElem?_eq_getElem hlt]
  exact h2

set_option maxHeartbeats 1000000 in
set_option maxRecDepth 100000 in
theorem script_walk (s : ByteArray) (ao : Option Addr) (n cap : Nat) (f : Nat → ByteArray) (w : World) (hs0 : s.size ≤ maxLen) (hn0 : n ≤ maxLen) (hc : StrsAt w ao n f) (hf : ∀ j, j < n → (f j).size ≤ maxLen) (h0 : ao = none → n = 0) :
    Calls Try.prog 5 #[.string s, .slice ao n cap] w fun e w' => e = .returned (.bool true) ∧ Below w.heap.size w w' := by
  have B12 := hide (bytes12_any s ao n cap f w hs0 hn0 hf hc)
  have HC := hide hc
  have H0 := hide h0
  clear hc hf h0
  unfold maxLen at hs0 hn0
  go_enter Try.func5, Try.ntmps5
  go_wp2_with fail
  refine B12.out.mono ?_
  rintro e w' ⟨⟨t, rfl, hsz⟩, rfl⟩
  cases t
  · clear hsz
    go_wp2_with fail
    go_ret
    exact ⟨rfl, Below.refl _ _⟩
  have HF := hide (hsz rfl)
  clear hsz B12
  by_cases hs1 : ¬ s.size ≤ 65536
  · go_wp2_with fail
    go_ret
    exact ⟨rfl, Below.refl _ _⟩
  have hs : s.size ≤ 65536 := Classical.not_not.1 hs1
  by_cases hn1 : ¬ n ≤ 4096
  · go_wp2_with fail
    go_ret
    exact ⟨rfl, Below.refl _ _⟩
  have hn : n ≤ 4096 := Classical.not_not.1 hn1
  clear hs1 hn1 hs0 hn0
  go_wp2_with fail
  go_loopg [5, 6] n (fun g a b wr => ∃ i t : Nat, g + i = n ∧ t ≤ 1048576 ∧ a = .int .i64 t ∧ b = .int .i64 i ∧ wr = w')
  case atStart => exact ⟨0, s.size + 16 * n, rfl, by omega, by go_num, rfl, rfl⟩
  case round =>
    obtain ⟨i, t, hi, ht, rfl, rfl, rfl⟩ := hrel
    by_cases hin : i < n
    · obtain ⟨b, off, rfl, hcell⟩ := HC.out.resolve_left (by omega)
      have q1 := hcell i hin
      have q2 := HF.out i hin
      clear hcell
      by_cases hle : t + (f i).size ≤ 1048576
      · go_wp2_with fail
        go_roundg (gk - 1)
        case measure => omega
        case rel => exact ⟨i + 1, t + (f i).size, by omega, hle, by go_num, by go_num, rfl⟩
      · go_wp2_with fail
        go_ret
        exact ⟨rfl, Below.refl _ _⟩
    · clear HF
      go_wp2_with fail
      refine (clone_any ao n cap f _ (by omega) HC.out H0.out).mono ?_
      rintro e w1 ⟨bo, cb, rfl, hno1, hsb, hb1⟩
      have HNO1 := hide hno1
      have HSB := hide hsb
      have HB1 := hide hb1
      clear hno1 hsb hb1
      go_wp2_with fail
      refine (clone_any bo n cb f _ (by omega) HSB.out (fun h => H0.out (HNO1.out.1 h))).mono ?_
      rintro e w2 ⟨co, cc, rfl, hno2, hsc, hb2⟩
      have HNO2 := hide hno2
      have HSC := hide hsc
      have HB2 := hide hb2
      clear hno2 hsc hb2
      go_wp2_with fail
      refine (model_any s _ hs).mono ?_
      rintro e w3 ⟨wo, cw, rfl, hsw, hb3⟩
      have hB2 := HB1.out.trans (HB2.out.mono HB1.out.size)
      have HBW := hide (hB2.trans (hb3.mono hB2.size))
      have HS3 := hide ((HSB.out.below HB2.out).below hb3)
      have HC3 := hide (HSC.out.below hb3)
      have HW3 := hide hsw
      have hN : (fields s.data.toList).length ≤ 65536 := by have := fields_len s.data.toList; rw [size_toList] at this; omega
      clear hsw hb3 hB2 HSB HSC HB1 HB2 HC H0 HNO1
      generalize hNN : (fields s.data.toList).length = N at *
      have HNN := hide hNN
      clear hNN
      go_wp2_with fail
      go_loopg [9, 10, 11] s.size (fun g a b d wr => ∃ (c : ByteArray) (k st : Nat), g = c.size ∧ a = .string c ∧ b = .int .i64 k ∧ d = .int .i64 st ∧ st + c.size ≤ s.size ∧ Stands s.data.toList c k ∧ Below w3.heap.size w3 wr)
      case atStart => exact ⟨s, 0, 0, rfl, rfl, rfl, rfl, by omega, ⟨rfl, Nat.zero_le _⟩, Below.refl _ _⟩
      case round =>
        obtain ⟨c, k, st, hg, rfl, rfl, rfl, hst, hL, hb⟩ := hrel
        have HL := hide hL
        have HB := hide hb
        have hkN : k ≤ N := by have := hL.le; rw [HNN.out] at this; exact this
        have hcs : c.size ≤ 65536 := by omega
        have hC1 := zzsplit_any c bo n cb wr (by omega)
        have hcf := cut_of c
        have HS4 : Hid (∀ w4, Below wr.heap.size wr w4 → StrsAt w4 bo n f ∧ StrsAt w4 co n f ∧ StrsAt w4 wo N (fun j => bs ((fields s.data.toList).getD j []))) := by
          intro w4 h4
          have h5 := hb.trans (h4.mono hb.size)
          exact ⟨HS3.out.below h5, HC3.out.below h5, HW3.out.below h5⟩
        cases hall : allB c.data.toList
        · obtain ⟨hkN1, hgd, hL2⟩ := hL.step hall
          rw [HNN.out] at hkN1
          have hfe : (bs (fld c.data.toList)).toList.isEmpty = false := by
            rw [ByteArray.toList_eq, bs_data, Bool.eq_false_iff]
            intro g
            exact fld_some hall (List.isEmpty_iff.1 g)
          have hrl : (bs (rst c.data.toList)).size < c.size := by rw [bs_size, ← size_toList c]; exact rst_lt hall
          have hhd : ∀ h : 0 < (bs (rst c.data.toList)).size, blk (bs (rst c.data.toList))[0] = true := by
            intro h
            refine head_rst c.data.toList _ ?_
            rw [Option.mem_def, List.head?_eq_getElem?, List.getElem?_eq_getElem (by simpa [bs_size] using h)]
            rfl
          have hwk : ∀ w4, Below wr.heap.size wr w4 → ∃ b off, wo = some ⟨b, off, none⟩ ∧ w4.cell? ⟨b, off + k, none⟩ = some (.string (bs (fld c.data.toList))) := by
            intro w4 h4
            obtain ⟨b, off, hwo, hcl⟩ := (HS4.out w4 h4).2.2.resolve_left (by omega)
            refine ⟨b, off, hwo, ?_⟩
            rw [hcl k hkN1]
            show some (Value.string (bs ((fields s.data.toList).getD k []))) = _
            rw [hgd]
          generalize sA c.data.toList = A at *
          generalize bs (fld c.data.toList) = F at *
          generalize bs (rst c.data.toList) = R at *
          have HC1 := hide hC1
          have HCF := hide hcf
          have HWK := hide hwk
          have HL2 := hide hL2
          have HHD := hide hhd
          clear hC1 hcf hwk hL2 hhd hgd hall hL hb HL
          go_wp2_with fail
          refine HC1.out.mono ?_
          rintro e w4 ⟨rfl, hb4⟩
          have HB4 := hide hb4
          clear hb4 HC1
          go_wp2_with fail
          refine (same_any bo co n cb cc f _ (by omega) (HS4.out _ HB4.out).1 (HS4.out _ HB4.out).2.1 HNO2.out.symm).mono ?_
          rintro e w5 ⟨rfl, q, rfl⟩
          have hsum1 := HCF.out.sum1
          have hsum2 := HCF.out.sum2
          go_upto_region 30 with fail
          go_cut [17] (fun a wx => a = .int .i64 (A : Nat) ∧ wx = w4.drewN q)
          case first =>
            go_wp2_with fail
            go_meet
            case rel => exact ⟨by rw [show (c.size : Int) - (F.size + R.size) = A from by omega], rfl⟩
          case rest =>
            obtain ⟨rfl, rfl⟩ := hcut
            have hab := allBlank_any (c.extract 0 A) (w4.drewN q) (by simp; omega)
            rw [HCF.out.bla] at hab
            have HAB := hide hab
            have hx1 := HCF.out.fld
            have hx2 := HCF.out.rst
            clear hab HCF
            have hAc : A + F.size ≤ c.size := by omega
            obtain ⟨b, off, rfl, hwk⟩ := HWK.out w4 HB4.out
            clear HWK
            go_wp2_with fail
            refine HAB.out.mono ?_
            rintro e w6 hw6
            obtain ⟨rfl, hw6'⟩ := hw6
            have hwk6 : w6.cell? ⟨b, off + k, none⟩ = some (.string F) := by rw [hw6']; exact hwk
            have HW6 := hide hw6'
            clear hwk hw6'
            have HEND : Hid (Below w3.heap.size w3 w6) := by rw [HW6.out]; exact below_drewN' (HB.out.trans (HB4.out.mono HB.out.size)) _
            by_cases hR0 : R.size = 0
            · have hRe := empty_of R hR0
              go_wp2_with fail
              go_roundg R.size
              case measure => omega
              case rel => exact ⟨R, k + 1, st + 1, rfl, rfl, by go_num, by go_num, by omega, HL2.out, HEND.out⟩
            · have hRe := nonempty_of R hR0
              have hRp : 0 < R.size := by omega
              have hbk := b9_any R[0]
              rw [HHD.out hRp] at hbk
              have HBK := hide hbk
              clear hbk
              go_wp2_with fail
              refine (HBK.out _).mono ?_
              rintro e w7 ⟨rfl, rfl⟩
              go_wp2_with fail
              go_roundg R.size
              case measure => omega
              case rel => exact ⟨R, k + 1, st + 1, rfl, rfl, by go_num, by go_num, by omega, HL2.out, HEND.out⟩
        · have hkl := hL.last hall
          rw [HNN.out] at hkl
          obtain rfl := hkl
          have hfe : (bs (fld c.data.toList)).toList.isEmpty = true := by
            rw [fld_blank hall, ByteArray.toList_eq, bs_data]; rfl
          have hre : (bs (rst c.data.toList)).toList.isEmpty = true := by
            rw [rst_blank hall, ByteArray.toList_eq, bs_data]; rfl
          have hac := fun w => allBlank_any c w (by omega)
          rw [hall] at hac
          generalize sA c.data.toList = A at *
          generalize bs (fld c.data.toList) = F at *
          generalize bs (rst c.data.toList) = R at *
          have HC1 := hide hC1
          have HCF := hide hcf
          have HAC := hide hac
          clear hC1 hcf hac hall hL hb HL
          go_wp2_with fail
          refine HC1.out.mono ?_
          rintro e w4 ⟨rfl, hb4⟩
          have HB4 := hide hb4
          clear hb4 HC1
          go_wp2_with fail
          refine (same_any bo co n cb cc f _ (by omega) (HS4.out _ HB4.out).1 (HS4.out _ HB4.out).2.1 HNO2.out.symm).mono ?_
          rintro e w5 ⟨rfl, q, rfl⟩
          have hsum1 := HCF.out.sum1
          have hsum2 := HCF.out.sum2
          go_upto_region 30 with fail
          go_cut [17] (fun a wx => a = .int .i64 (A : Nat) ∧ wx = w4.drewN q)
          case first =>
            go_wp2_with fail
            go_meet
            case rel => exact ⟨by rw [show (c.size : Int) - (F.size + R.size) = A from by omega], rfl⟩
          case rest =>
            obtain ⟨rfl, hwq⟩ := hcut
            have hE := below_drewN' (HBW.out.trans ((HB.out.trans (HB4.out.mono HB.out.size)).mono HBW.out.size)) q
            rw [← hwq] at hE
            have HEND := hide hE
            clear hE
            have hab := allBlank_any (c.extract 0 A) wc (by simp; omega)
            rw [HCF.out.bla] at hab
            have HAB := hide hab
            have hx1 := HCF.out.fld
            have hx2 := HCF.out.rst
            clear hab HCF hwq
            have hAc : A + F.size ≤ c.size := by omega
            go_wp2_with fail
            refine HAB.out.mono ?_
            rintro e w6 ⟨rfl, rfl⟩
            go_wp2_with fail
            refine (HAC.out _).mono ?_
            rintro e w7 ⟨rfl, rfl⟩
            go_wp2_with fail
            go_ret
            exact ⟨rfl, HEND.out⟩

end Go.Proofs.Qxb6619682a
