/-
  The walk of FnIsDigitsCutsAndBytes (3).
-/
import Derived.Test.Qxb6619682aDigits
import Derived.Deep.LoopGhost
namespace Go.Proofs.Qxb6619682a
open Go.RowKit Plain

set_option maxHeartbeats 400000 in
theorem bytes6_ok (a0 : ByteArray) (a1 : Int) (h : a0.size ≤ 1048576) (w : World) :
    Calls Try.prog 6 #[.string a0, .int .i64 a1] w fun e w' => e = .returned (.bool true) ∧ w' = w := by
  go_enter Try.func6, Try.ntmps6
  go_wp2
  go_ret
  exact ⟨rfl, rfl⟩

set_option maxHeartbeats 400000 in
theorem bytes6_no (a0 : ByteArray) (a1 : Int) (h : ¬ a0.size ≤ 1048576) (w0 : a0.size ≤ maxLen) (w : World) :
    Calls Try.prog 6 #[.string a0, .int .i64 a1] w fun e w' => e = .returned (.bool false) ∧ w' = w := by
  unfold maxLen at w0
  go_enter Try.func6, Try.ntmps6
  go_wp2
  go_ret
  exact ⟨rfl, rfl⟩

theorem one_data (s : ByteArray) (k : Nat) (h : k < s.size) : (s.extract k (k + 1)).data.toList = [s[k]] := by
  simp only [ByteArray.data_extract, Array.toList_extract, List.extract_eq_take_drop, Nat.add_sub_cancel_left]
  rw [List.drop_eq_getElem_cons (by simpa using h)]
  rfl

theorem zzdig_one (s : ByteArray) (k : Nat) (h : k < s.size) (w : World) :
    Calls Try.prog 7 #[.string (s.extract k (k + 1))] w fun e w' => e = .returned (.bool (isDig s[k])) ∧ Below w.heap.size w w' := by
  have := zzdig_any (s.extract k (k + 1)) w (by simp; omega)
  rw [one_data s k h, digits_one] at this
  exact this

theorem isDig_yes {c : UInt8} (h1 : ¬ (c.toNat : Int) < 48) (h2 : ¬ (57 : Int) < (c.toNat : Int)) : isDig c = true := by
  unfold isDig; rw [decide_eq_true_eq]; omega
theorem isDig_no {c : UInt8} (h : (c.toNat : Int) < 48 ∨ (57 : Int) < (c.toNat : Int)) : isDig c = false := by
  unfold isDig; rw [decide_eq_false_iff_not]; omega

theorem count_at (s : ByteArray) (k : Nat) (h : k < s.size) : count (s.data.toList.take (k + 1)) = count (s.data.toList.take k) + if isDig s[k] = true then 1 else 0 :=
  count_take s.data.toList k (by simpa using h)

set_option maxHeartbeats 1000000 in
theorem digits_walk (s : ByteArray) (a1 : Int) (w0 : s.size ≤ maxLen) (w : World) :
    Calls Try.prog 3 #[.string s, .int .i64 a1] w fun e w' => e = .returned (.bool true) ∧ Below w.heap.size w w' := by
  by_cases hsz : s.size ≤ 1048576
  · by_cases hsz2 : s.size ≤ 65536
    · by_cases hk0 : a1 < 0
      · go_enter Try.func3, Try.ntmps3
        go_wp2_with (go_at_call 6; refine (bytes6_ok _ _ hsz _).mono ?_; rintro e w' ⟨rfl, rfl⟩)
        go_ret
        exact ⟨rfl, Below.refl _ _⟩
      · by_cases hk1 : (s.size : Int) < a1
        · go_enter Try.func3, Try.ntmps3
          go_wp2_with (go_at_call 6; refine (bytes6_ok _ _ hsz _).mono ?_; rintro e w' ⟨rfl, rfl⟩)
          go_ret
          exact ⟨rfl, Below.refl _ _⟩
        · obtain ⟨c, rfl⟩ := Int.eq_ofNat_of_zero_le (by omega : 0 ≤ a1)
          have hcs : c ≤ s.size := by omega
          obtain ⟨G, hG⟩ : ∃ G, digits s.data.toList = G := ⟨_, rfl⟩
          obtain ⟨L, hL⟩ : ∃ L, digits (s.extract 0 c).data.toList = L := ⟨_, rfl⟩
          obtain ⟨R, hR⟩ : ∃ R, digits (s.extract c s.size).data.toList = R := ⟨_, rfl⟩
          have CG := fun w => zzdig_any s w hsz
          have CL := fun w => zzdig_any (s.extract 0 c) w (by simp; omega)
          have CR := fun w => zzdig_any (s.extract c s.size) w (by simp; omega)
          have e1 : (s.extract 0 c).data.toList = s.data.toList.take c := by simp [ByteArray.data_extract]
          have e2 : (s.extract c s.size).data.toList = s.data.toList.drop c := by
            simp only [ByteArray.data_extract, Array.toList_extract, List.extract_eq_take_drop]
            rw [List.take_of_length_le]; simp
          have FG := digits_iff s.data.toList
          have FC := digits_cut s.data.toList c (by rw [size_toList]; exact hcs)
          rw [← e1, ← e2, hL, hR, hG, size_toList] at FC
          rw [hG, size_toList] at FG
          rw [hG] at CG
          rw [hL] at CL
          rw [hR] at CR
          have HCG := hide CG
          have HCL := hide CL
          have HCR := hide CR
          have HFG := hide FG
          have HFC := hide FC
          clear CG CL CR FG FC hG hL hR e1 e2
          go_enter Try.func3, Try.ntmps3
          go_wp2_with (go_at_call 6; refine (bytes6_ok _ _ hsz _).mono ?_; rintro e w' ⟨rfl, rfl⟩)
          refine (HCG.out _).mono ?_
          rintro e w1 ⟨rfl, hb1⟩
          have HB1 := hide hb1
          clear hb1
          go_wp2_with fail
          go_loopg [6, 7, 8] s.size (fun g a b i wr => ∃ k : Nat, g + k = s.size ∧ a = .int .i64 (count (s.data.toList.take k) : Nat) ∧ b = .int .i64 (count (s.data.toList.take k) : Nat) ∧ i = .int .i64 k ∧ Below w'.heap.size w' wr)
          case atStart => exact ⟨0, rfl, rfl, rfl, rfl, HB1.out⟩
          case round =>
            obtain ⟨k, hk, rfl, rfl, rfl, hb⟩ := hrel
            have HB := hide hb
            clear hb HB1
            by_cases hlt : k < s.size
            · have hcl := count_le (s.data.toList.take k)
              have hl : (s.data.toList.take k).length ≤ k := List.length_take_le _ _
              have HX : Hid (count (s.data.toList.take (k + 1)) = count (s.data.toList.take k) + if isDig s[k] = true then 1 else 0) := count_at s k hlt
              generalize count (s.data.toList.take k) = C at *
              have HONE := hide (zzdig_one s k hlt)
              by_cases h1 : (s[k].toNat : Int) < 48
              · have hd := isDig_no (Or.inl h1)
                rw [hd] at HONE HX
                go_wp2_with fail
                refine (HONE.out _).mono ?_
                rintro e w2 ⟨rfl, hb2⟩
                have HB2 := hide (HB.out.trans (hb2.mono HB.out.size))
                clear hb2
                go_wp2_with fail
                go_roundg (gk - 1)
                case measure => omega
                case rel => exact ⟨k + 1, by omega, by rw [HX.out]; rfl, by rw [HX.out]; rfl, by go_num, HB2.out⟩
              · by_cases h2 : (57 : Int) < (s[k].toNat : Int)
                · have hd := isDig_no (Or.inr h2)
                  rw [hd] at HONE HX
                  go_wp2_with fail
                  refine (HONE.out _).mono ?_
                  rintro e w2 ⟨rfl, hb2⟩
                  have HB2 := hide (HB.out.trans (hb2.mono HB.out.size))
                  clear hb2
                  go_wp2_with fail
                  go_roundg (gk - 1)
                  case measure => omega
                  case rel => exact ⟨k + 1, by omega, by rw [HX.out]; rfl, by rw [HX.out]; rfl, by go_num, HB2.out⟩
                · have hd := isDig_yes h1 h2
                  rw [hd] at HONE HX
                  go_wp2_with fail
                  refine (HONE.out _).mono ?_
                  rintro e w2 ⟨rfl, hb2⟩
                  have HB2 := hide (HB.out.trans (hb2.mono HB.out.size))
                  clear hb2
                  go_wp2_with fail
                  go_roundg (gk - 1)
                  case measure => omega
                  case rel => exact ⟨k + 1, by omega, by rw [HX.out]; go_num, by rw [HX.out]; go_num, by go_num, HB2.out⟩
            · obtain rfl : k = s.size := by omega
              have hC1 : count (s.data.toList.take s.size) = count s.data.toList := by rw [List.take_of_length_le (by rw [size_toList]; omega)]
              have hC2 := count_le s.data.toList
              rw [size_toList] at hC2
              rw [hC1]
              have FG := HFG.out
              have FC := HFC.out
              clear HFG HFC hC1 hlt
              generalize count s.data.toList = C at *
              by_cases hz : s.size = 0
              · obtain rfl : c = 0 := by omega
                obtain rfl : C = 0 := by omega
                obtain rfl : G = false := by
                  cases G
                  · rfl
                  · have := (FG.1 rfl).1; omega
                have hz' : (s.size : Int) = 0 := by omega
                clear FG FC hz
                go_wp2_with fail
                go_ret
                exact ⟨rfl, HB.out⟩
              · have hpos : 0 < s.size := by omega
                have FC' := FC hpos
                clear FC
                have hcpos : (0 : Int) < (s.size : Int) := by omega
                by_cases h0 : c = 0
                · subst h0
                  have h1 : ((0 : Int) == (s.size : Int)) = false := by rw [beq_eq_false_iff_ne]; omega
                  have h1' : ¬ 0 = s.size := by omega
                  simp only [decide_true, Bool.true_or, Bool.true_and, h1', decide_false, Bool.false_or] at FC'
                  subst FC'
                  clear h1'
                  cases G
                  · have hne : ((C : Int) == (s.size : Int)) = false := by
                      rw [beq_eq_false_iff_ne]; intro g; have := FG.2 ⟨hpos, by omega⟩; cases this
                    clear FG
                    go_wp2_with fail
                    refine (HCG.out _).mono ?_
                    rintro e w3 ⟨rfl, hb3⟩
                    have HB3 := hide (HB.out.trans (hb3.mono HB.out.size))
                    clear hb3
                    go_wp2_with fail
                    go_ret
                    exact ⟨rfl, HB3.out⟩
                  · obtain rfl : C = s.size := (FG.1 rfl).2
                    clear FG
                    go_wp2_with fail
                    refine (HCG.out _).mono ?_
                    rintro e w3 ⟨rfl, hb3⟩
                    have HB3 := hide (HB.out.trans (hb3.mono HB.out.size))
                    clear hb3
                    go_wp2_with fail
                    go_ret
                    exact ⟨rfl, HB3.out⟩
                · have h0' : ((c : Int) == 0) = false := by rw [beq_eq_false_iff_ne]; omega
                  by_cases h1 : c = s.size
                  · subst h1
                    simp only [h0, decide_false, Bool.false_or, decide_true, Bool.true_or, Bool.and_true] at FC'
                    subst FC'
                    cases G
                    · have hne : ((C : Int) == (s.size : Int)) = false := by
                        rw [beq_eq_false_iff_ne]; intro g; have := FG.2 ⟨hpos, by omega⟩; cases this
                      clear FG
                      go_wp2_with fail
                      refine (HCG.out _).mono ?_
                      rintro e w3 ⟨rfl, hb3⟩
                      have HB3 := hide (HB.out.trans (hb3.mono HB.out.size))
                      clear hb3
                      go_wp2_with fail
                      go_ret
                      exact ⟨rfl, HB3.out⟩
                    · obtain rfl : C = s.size := (FG.1 rfl).2
                      clear FG
                      go_wp2_with fail
                      refine (HCG.out _).mono ?_
                      rintro e w3 ⟨rfl, hb3⟩
                      have HB3 := hide (HB.out.trans (hb3.mono HB.out.size))
                      clear hb3
                      go_wp2_with fail
                      go_ret
                      exact ⟨rfl, HB3.out⟩
                  · have h1' : ((c : Int) == (s.size : Int)) = false := by rw [beq_eq_false_iff_ne]; omega
                    simp only [h0, h1, decide_false, Bool.false_or] at FC'
                    subst FC'
                    cases L
                    · cases R
                      · have hne : ((C : Int) == (s.size : Int)) = false := by
                          rw [beq_eq_false_iff_ne]; intro g; have := FG.2 ⟨hpos, by omega⟩; cases this
                        clear FG
                        go_wp2_with fail
                        refine (HCL.out _).mono ?_
                        rintro e w3 ⟨rfl, hb3⟩
                        have HB3 := hide (HB.out.trans (hb3.mono HB.out.size))
                        clear hb3
                        go_wp2_with fail
                        refine (HCR.out _).mono ?_
                        rintro e w4 ⟨rfl, hb4⟩
                        have HB4 := hide (HB3.out.trans (hb4.mono HB3.out.size))
                        clear hb4
                        go_wp2_with fail
                        go_ret
                        exact ⟨rfl, HB4.out⟩
                      · have hne : ((C : Int) == (s.size : Int)) = false := by
                          rw [beq_eq_false_iff_ne]; intro g; have := FG.2 ⟨hpos, by omega⟩; cases this
                        clear FG
                        go_wp2_with fail
                        refine (HCL.out _).mono ?_
                        rintro e w3 ⟨rfl, hb3⟩
                        have HB3 := hide (HB.out.trans (hb3.mono HB.out.size))
                        clear hb3
                        go_wp2_with fail
                        refine (HCR.out _).mono ?_
                        rintro e w4 ⟨rfl, hb4⟩
                        have HB4 := hide (HB3.out.trans (hb4.mono HB3.out.size))
                        clear hb4
                        go_wp2_with fail
                        go_ret
                        exact ⟨rfl, HB4.out⟩
                    · cases R
                      · have hne : ((C : Int) == (s.size : Int)) = false := by
                          rw [beq_eq_false_iff_ne]; intro g; have := FG.2 ⟨hpos, by omega⟩; cases this
                        clear FG
                        go_wp2_with fail
                        refine (HCL.out _).mono ?_
                        rintro e w3 ⟨rfl, hb3⟩
                        have HB3 := hide (HB.out.trans (hb3.mono HB.out.size))
                        clear hb3
                        go_wp2_with fail
                        refine (HCR.out _).mono ?_
                        rintro e w4 ⟨rfl, hb4⟩
                        have HB4 := hide (HB3.out.trans (hb4.mono HB3.out.size))
                        clear hb4
                        go_wp2_with fail
                        go_ret
                        exact ⟨rfl, HB4.out⟩
                      · obtain rfl : C = s.size := (FG.1 rfl).2
                        clear FG
                        go_wp2_with fail
                        refine (HCL.out _).mono ?_
                        rintro e w3 ⟨rfl, hb3⟩
                        have HB3 := hide (HB.out.trans (hb3.mono HB.out.size))
                        clear hb3
                        go_wp2_with fail
                        refine (HCR.out _).mono ?_
                        rintro e w4 ⟨rfl, hb4⟩
                        have HB4 := hide (HB3.out.trans (hb4.mono HB3.out.size))
                        clear hb4
                        go_wp2_with fail
                        go_ret
                        exact ⟨rfl, HB4.out⟩
    · go_enter Try.func3, Try.ntmps3
      go_wp2_with (go_at_call 6; refine (bytes6_ok _ _ hsz _).mono ?_; rintro e w' ⟨rfl, rfl⟩)
      go_ret
      exact ⟨rfl, Below.refl _ _⟩
  · go_enter Try.func3, Try.ntmps3
    go_wp2_with (go_at_call 6; refine (bytes6_no _ _ hsz w0 _).mono ?_; rintro e w' ⟨rfl, rfl⟩)
    go_ret
    exact ⟨rfl, Below.refl _ _⟩

end Go.Proofs.Qxb6619682a
