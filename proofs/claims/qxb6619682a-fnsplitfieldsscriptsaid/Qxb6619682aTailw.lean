/-
  The walk of FnSplitAfterBlankTail (4).
-/
import Derived.Test.Qxb6619682aSplit
namespace Go.Proofs.Qxb6619682a
open Go.RowKit Plain

/-- A bool is handed back; where it is true, P holds. -/
def YesIf (P : Prop) (e : Ending) : Prop := ∃ t : Bool, e = .returned (.bool t) ∧ (t = true → P)
theorem YesIf.no (P : Prop) : YesIf P (.returned (.bool false)) := ⟨false, rfl, fun h => by cases h⟩
theorem YesIf.yes {P : Prop} (h : P) : YesIf P (.returned (.bool true)) := ⟨true, rfl, fun _ => h⟩

set_option maxHeartbeats 400000 in
theorem bytes8_any (a b c : ByteArray) (ha : a.size ≤ maxLen) (hb : b.size ≤ maxLen) (hc : c.size ≤ maxLen) (w : World) :
    Calls Try.prog 8 #[.string a, .string b, .string c] w fun e w' => YesIf True e ∧ w' = w := by
  unfold maxLen at ha hb hc
  by_cases h1 : a.size ≤ 1048576
  · by_cases h2 : b.size ≤ 1048576
    · by_cases h3 : a.size + b.size ≤ 1048576
      · by_cases h4 : c.size ≤ 1048576
        · by_cases h5 : a.size + b.size + c.size ≤ 1048576
          · go_enter Try.func8, Try.ntmps8
            go_wp2
            go_ret
            exact ⟨YesIf.yes trivial, rfl⟩
          · go_enter Try.func8, Try.ntmps8
            go_wp2
            go_ret
            exact ⟨YesIf.no _, rfl⟩
        · go_enter Try.func8, Try.ntmps8
          go_wp2
          go_ret
          exact ⟨YesIf.no _, rfl⟩
      · go_enter Try.func8, Try.ntmps8
        go_wp2
        go_ret
        exact ⟨YesIf.no _, rfl⟩
    · go_enter Try.func8, Try.ntmps8
      go_wp2
      go_ret
      exact ⟨YesIf.no _, rfl⟩
  · go_enter Try.func8, Try.ntmps8
    go_wp2
    go_ret
    exact ⟨YesIf.no _, rfl⟩

theorem data_app (a b : ByteArray) : (a ++ b).data.toList = a.data.toList ++ b.data.toList := by
  rw [ByteArray.data_append, Array.toList_append]

theorem head_blk {b : ByteArray} (h : 0 < b.size) (hb : blk b[0] = true) (m : List UInt8) : ∀ x ∈ (b.data.toList ++ m).head?, blk x = true := by
  have e : b.data.toList = b[0] :: b.data.toList.drop 1 := List.drop_eq_getElem_cons (l := b.data.toList) (i := 0) (by simpa using h)
  intro x hx
  rw [e] at hx
  simp only [List.cons_append, List.head?_cons, Option.mem_def, Option.some.injEq] at hx
  rw [← hx]; exact hb

theorem rst_le (l : List UInt8) : (rst l).length ≤ l.length := by rw [← rst_at]; simp

set_option maxHeartbeats 1000000 in
theorem tail_walk (a b c : ByteArray) (ha : a.size ≤ maxLen) (hb : b.size ≤ maxLen) (hc : c.size ≤ maxLen) (w : World) :
    Calls Try.prog 4 #[.string a, .string b, .string c] w fun e w' => e = .returned (.bool true) ∧ Below w.heap.size w w' := by
  have H8 := hide (bytes8_any a b c ha hb hc w)
  unfold maxLen at ha hb hc
  go_enter Try.func4, Try.ntmps4
  go_wp2_with fail
  refine H8.out.mono ?_
  rintro e w' ⟨⟨t, rfl, -⟩, rfl⟩
  cases t
  · go_wp2_with fail
    go_ret
    exact ⟨rfl, Below.refl _ _⟩
  clear H8
  by_cases h1 : ¬ a.size ≤ 65536
  · go_wp2_with fail
    go_ret
    exact ⟨rfl, Below.refl _ _⟩
  have h1' : a.size ≤ 65536 := Classical.not_not.1 h1
  by_cases h2 : ¬ b.size ≤ 65536
  · go_wp2_with fail
    go_ret
    exact ⟨rfl, Below.refl _ _⟩
  have h2' : b.size ≤ 65536 := Classical.not_not.1 h2
  by_cases h3 : ¬ c.size ≤ 65536
  · go_wp2_with fail
    go_ret
    exact ⟨rfl, Below.refl _ _⟩
  have h3' : c.size ≤ 65536 := Classical.not_not.1 h3
  clear h1 h2 h3 ha hb hc
  by_cases hz : b.size = 0
  · go_wp2_with fail
    go_ret
    exact ⟨rfl, Below.refl _ _⟩
  have hz' : ((b.size : Int) == 0) = false := by rw [beq_eq_false_iff_ne]; omega
  have hbp : 0 < b.size := by omega
  have hbk := b9_any b[0]
  cases hb : blk b[0]
  · rw [hb] at hbk
    have HBK := hide hbk
    clear hbk
    go_wp2_with fail
    refine (HBK.out _).mono ?_
    rintro e w1 ⟨rfl, rfl⟩
    go_wp2_with fail
    go_ret
    exact ⟨rfl, Below.refl _ _⟩
  rw [hb] at hbk
  have HBK := hide hbk
  have HB0 := hide hb
  clear hbk hb
  have dbc : (b ++ c).data.toList = b.data.toList ++ c.data.toList := data_app _ _
  have dabc : (a ++ b ++ c).data.toList = a.data.toList ++ (b.data.toList ++ c.data.toList) := by rw [data_app, data_app, List.append_assoc]
  have sbc : (b ++ c).size ≤ 1048576 := by rw [ByteArray.size_append]; omega
  have sabc : (a ++ b ++ c).size ≤ 1048576 := by rw [ByteArray.size_append, ByteArray.size_append]; omega
  have hhead := head_blk hbp HB0.out c.data.toList
  have C1 := fun w => zzsplit_any a none 0 0 w (by omega)
  have C2 := fun w => zzsplit_any (a ++ b ++ c) none 0 0 w sabc
  have C3 := fun w => zzsplit_any (b ++ c) none 0 0 w sbc
  have CA := fun w => allBlank_any a w (by omega)
  rw [dabc] at C2
  rw [dbc] at C3
  cases hall : allB a.data.toList
  · have hall' : a.data.toList.all blk = false := hall
    have hrl : (bs (rst a.data.toList)).size ≤ 65536 := by rw [bs_size]; have := rst_le a.data.toList; rw [size_toList] at this; omega
    have hfe : (bs (fld a.data.toList)).toList.isEmpty = false := by
      rw [ByteArray.toList_eq, bs_data, Bool.eq_false_iff]
      intro g
      exact fld_some hall' (List.isEmpty_iff.1 g)
    have er : bs (rst a.data.toList ++ (b.data.toList ++ c.data.toList)) = bs (rst a.data.toList) ++ b ++ c := by
      refine (eq_bs ?_).symm
      rw [data_app, data_app, bs_data, List.append_assoc]
    rw [fld_append hall' hhead, rst_append hall' hhead, er] at C2
    rw [hall] at CA
    generalize bs (fld a.data.toList) = F at *
    generalize bs (rst a.data.toList) = R at *
    have HC1 := hide C1
    have HC2 := hide C2
    have HCA := hide CA
    clear C1 C2 C3 CA er hall hall' hhead dbc dabc sbc sabc
    go_wp2_with fail
    refine (HBK.out _).mono ?_
    rintro e w1 ⟨rfl, rfl⟩
    go_wp2_with fail
    refine (HC1.out _).mono ?_
    rintro e w2 ⟨rfl, hb2⟩
    have HB2 := hide hb2
    clear hb2
    go_wp2_with fail
    refine (HC2.out _).mono ?_
    rintro e w3 ⟨rfl, hb3⟩
    have HB3 := hide (HB2.out.trans (hb3.mono HB2.out.size))
    clear hb3
    go_wp2_with fail
    refine (HCA.out _).mono ?_
    rintro e w4 ⟨rfl, rfl⟩
    go_wp2_with fail
    go_ret
    exact ⟨rfl, HB3.out⟩
  · have hall' : a.data.toList.all blk = true := hall
    have hE : (bs []).toList.isEmpty = true := by rw [ByteArray.toList_eq, bs_data]; rfl
    rw [fld_blank hall', rst_blank hall'] at C1
    rw [fld_skip hall', rst_skip hall'] at C2
    rw [hall] at CA
    generalize bs [] = E at *
    generalize bs (fld (b.data.toList ++ c.data.toList)) = F at *
    generalize bs (rst (b.data.toList ++ c.data.toList)) = R at *
    have HC1 := hide C1
    have HC2 := hide C2
    have HC3 := hide C3
    have HCA := hide CA
    clear C1 C2 C3 CA hall hall' hhead dbc dabc sbc sabc
    go_wp2_with fail
    refine (HBK.out _).mono ?_
    rintro e w1 ⟨rfl, rfl⟩
    go_wp2_with fail
    refine (HC1.out _).mono ?_
    rintro e w2 ⟨rfl, hb2⟩
    have HB2 := hide hb2
    clear hb2
    go_wp2_with fail
    refine (HC2.out _).mono ?_
    rintro e w3 ⟨rfl, hb3⟩
    have HB3 := hide (HB2.out.trans (hb3.mono HB2.out.size))
    clear hb3
    go_wp2_with fail
    refine (HCA.out _).mono ?_
    rintro e w4 ⟨rfl, rfl⟩
    go_wp2_with fail
    refine (HC3.out _).mono ?_
    rintro e w5 ⟨rfl, hb5⟩
    have HB5 := hide (HB3.out.trans (hb5.mono HB3.out.size))
    clear hb5
    go_wp2_with fail
    go_ret
    exact ⟨rfl, HB5.out⟩

end Go.Proofs.Qxb6619682a
