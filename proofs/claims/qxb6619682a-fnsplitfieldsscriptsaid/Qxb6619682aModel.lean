/-
  The walk of modelFields (14).
-/
import Derived.Test.Qxb6619682aStrs
import Derived.Test.Qxb6619682aScan
namespace Go.Proofs.Qxb6619682a
open Go.RowKit Plain

theorem bl_s {s : ByteArray} {i : Nat} (h : i < s.size) : bl s.data.toList i = blk s[i] := bl_at (l := s.data.toList) (by simpa using h)
theorem bl_s_end {s : ByteArray} {i : Nat} (h : s.size ≤ i) : bl s.data.toList i = true := bl_end (by rw [size_toList]; exact h)

theorem piece_eq (s : ByteArray) (a k : Nat) : s.extract a (k + 1) = bs ((s.data.toList.drop a).take (k + 1 - a)) := by
  apply eq_bs
  simp only [ByteArray.data_extract, Array.toList_extract, List.extract_eq_take_drop]

/-- The cells of a list of strings. -/
def strCells (fs : List (List UInt8)) : List Value := fs.map fun f => .string (bs f)
theorem strCells_snoc (fs : List (List UInt8)) (f : List UInt8) : strCells fs ++ [.string (bs f)] = strCells (fs ++ [f]) := by simp [strCells]
theorem strCells_len (fs : List (List UInt8)) : (strCells fs).length = fs.length := by simp [strCells]

/-- The scan stands at place k: 'out' is gathered in v. -/
def Model (w wr : World) (l : List UInt8) (k st : Nat) (v : Value) : Prop :=
  ∃ out, Scan l k st out ∧ wr.ownsRow w.heap.size 9 1 v out.length (strCells out) ∧ Below w.heap.size w wr

/-- What modelFields leaves. -/
def ModelPost (l : List UInt8) (w : World) (e : Ending) (w' : World) : Prop :=
  ∃ ao cap, e = .returned (.slice ao (fields l).length cap) ∧ StrsAt w' ao (fields l).length (fun j => bs ((fields l).getD j [])) ∧ Below w.heap.size w w'

theorem Model.done {w wr : World} {l : List UInt8} {k st : Nat} {v : Value} (h : Model w wr l k st v) (hk : l.length ≤ k) : ModelPost l w (.returned v) wr := by
  obtain ⟨out, hS, hown, hb⟩ := h
  obtain rfl := hS.done hk
  rcases hown.2 with ⟨rfl, h0⟩ | ⟨g, cap, cur, rfl, hg, hh, _, _, _, ht⟩
  · exact ⟨none, 0, by rw [h0], Or.inl h0, hb⟩
  · refine ⟨some ⟨g, 0, none⟩, cap, rfl, Or.inr ⟨g, 0, rfl, fun j hj => ?_⟩, hb⟩
    rw [Nat.zero_add, hown.cellAt j (by omega)]
    simp [strCells, hj]

set_option maxHeartbeats 1000000 in
set_option maxRecDepth 100000 in
theorem model_any (s : ByteArray) (w : World) (hs : s.size ≤ 65536) :
    Calls Try.prog 14 #[.string s] w fun e w' => ModelPost s.data.toList w e w' := by
  obtain ⟨i0, hi, hz0, hz1, hz2⟩ := info_parts info9
  go_enter Try.func14, Try.ntmps14
  go_wp2_with fail
  go_loopg [3, 4, 5] s.size (fun g v a b wr => ∃ k st : Nat, g + k = s.size ∧ a = .int .i64 st ∧ b = .int .i64 k ∧ Model w wr s.data.toList k st v)
  case atStart => exact ⟨0, 0, rfl, rfl, rfl, [], Scan.start _, World.ownsRow_nil _ _ _ _, Below.refl _ _⟩
  case round =>
    obtain ⟨k, st, hk, rfl, rfl, hM⟩ := hrel
    have HM := hide hM
    clear hM
    by_cases hlt : k < s.size
    · have hc := b9_any s[k]
      have hbl := bl_s hlt
      cases hb : blk s[k]
      · rw [hb] at hc hbl
        have HC := hide hc
        have HBL := hide hbl
        clear hc hbl hb
        obtain ⟨T, hT⟩ : ∃ T : Bool, T = (decide (k = 0) || bl s.data.toList (k - 1)) := ⟨_, rfl⟩
        have HT := hide hT
        clear hT
        go_wp2_with fail
        refine (HC.out _).mono ?_
        rintro e w' ⟨rfl, rfl⟩
        go_upto_region 7 with fail
        go_cut [24] (fun a wx => a = .bool T ∧ wx = w')
        case first =>
          by_cases h0 : k = 0
          · subst h0
            go_wp2_with fail
            go_meet
            case rel => exact ⟨by rw [HT.out]; rfl, rfl⟩
          · have h0' : ((k : Int) == 0) = false := by rw [beq_eq_false_iff_ne]; omega
            have hlt1 : k - 1 < s.size := by omega
            have hc1 := b9_any s[k - 1]
            rw [← bl_s hlt1] at hc1
            have hT1 : T = bl s.data.toList (k - 1) := by rw [HT.out]; simp [h0]
            rw [← hT1] at hc1
            have HC1 := hide hc1
            clear hc1 hT1
            go_wp2_with fail
            refine (HC1.out _).mono ?_
            rintro e w1 ⟨rfl, rfl⟩
            go_wp2_with fail
            go_meet
            case rel => exact ⟨rfl, rfl⟩
        case rest =>
          obtain ⟨rfl, rfl⟩ := hcut
          obtain ⟨S, hS⟩ : ∃ S : Nat, S = if T = true then k else st := ⟨_, rfl⟩
          have HS := hide hS
          clear hS
          go_upto_if 24 with fail
          go_cut [4] (fun a wx => a = .int .i64 (S : Nat) ∧ wx = wc)
          case first =>
            cases T
            · go_wp2_with fail
              go_meet
              case rel => exact ⟨by rw [HS.out]; rfl, rfl⟩
            · go_wp2_with fail
              go_meet
              case rel => exact ⟨by rw [HS.out]; rfl, rfl⟩
          case rest =>
            obtain ⟨rfl, rfl⟩ := hcut
            obtain ⟨U, hU⟩ : ∃ U : Bool, U = bl s.data.toList (k + 1) := ⟨_, rfl⟩
            have HU := hide hU
            clear hU
            have HSS : Hid ((S = k ∧ (k = 0 ∨ bl s.data.toList (k - 1) = true)) ∨ (S = st ∧ 0 < k ∧ bl s.data.toList (k - 1) = false)) := by
              have h1 := HS.out
              have h2 := HT.out
              by_cases h0 : k = 0
              · left
                rw [h2] at h1
                simp [h0] at h1
                exact ⟨by omega, Or.inl h0⟩
              · simp [h0] at h2
                rw [h2] at h1
                cases hb : bl s.data.toList (k - 1)
                · right; rw [hb] at h1; exact ⟨by simpa using h1, by omega, rfl⟩
                · left; rw [hb] at h1; exact ⟨by simpa using h1, Or.inr rfl⟩
            clear HS HT
            go_upto_region 9 with fail
            go_cut [37] (fun a wx => a = .bool U ∧ wx = wc)
            case first =>
              by_cases h1 : k + 1 = s.size
              · have h1' : (((k : Int) + 1) == (s.size : Int)) = true := by rw [beq_iff_eq]; omega
                go_wp2_with fail
                go_meet
                case rel => exact ⟨by rw [HU.out, bl_s_end (by omega)], rfl⟩
              · have h1' : (((k : Int) + 1) == (s.size : Int)) = false := by rw [beq_eq_false_iff_ne]; omega
                have hlt1 : k + 1 < s.size := by omega
                have hc1 := b9_any s[k + 1]
                rw [← bl_s hlt1, ← HU.out] at hc1
                have HC1 := hide hc1
                clear hc1
                go_wp2_with fail
                refine (HC1.out _).mono ?_
                rintro e w1 ⟨rfl, rfl⟩
                go_wp2_with fail
                go_meet
                case rel => exact ⟨rfl, rfl⟩
            case rest =>
              obtain ⟨rfl, rfl⟩ := hcut
              cases U
              · go_wp2_with fail
                go_roundg (gk - 1)
                case measure => omega
                case rel =>
                  obtain ⟨out, h1, h2, h3⟩ := HM.out
                  exact ⟨k + 1, S, by omega, rfl, by go_num, out, h1.go (by rw [size_toList]; exact hlt) HBL.out HSS.out HU.out.symm, h2, h3⟩
              · obtain ⟨out, hSc, hown, hbe⟩ := HM.out
                have hpc := hSc.piece (by rw [size_toList]; exact hlt) HBL.out HSS.out
                have hSk : S ≤ k := hpc.1
                have hol : out.length ≤ k := hpc.2.2
                have HSC := hide hSc
                have HOWN := hide hown
                have HBE := hide hbe
                clear hSc hown hbe hpc HM
                go_wp2_with (at_builtin; refine wpList_append_own _ rfl (.tmp 38) (.tmp 44) 26 rfl w.heap.size 9 i0 (.string ⟨#[]⟩) 1 16 Try.underlying26 hi hz0 hz1 hz2 rfl (by decide) _ _ _ rfl (HOWN.out.alloc _) ⟨wc.heap.size, 0, none⟩ 1 1 [.string (s.extract S (k + 1))] rfl rfl ?c1 ?c2 ?c3 ?c4 ?c5 ?_)
                case c1 =>
                  intro j u hj
                  match j, hj with
                  | 0, hj => simp at hj; subst hj; simp [Addr.add]
                case c2 => intro u hu; simp at hu; subst hu; rfl
                case c3 => unfold maxLen; omega
                case c4 => omega
                case c5 => have := HBE.out.size; simp; omega
                intro v' w1 hown' hgrow _
                have HR : Hid (Model w w1 s.data.toList (k + 1) S v') := by
                  refine ⟨out ++ [(s.data.toList.drop S).take (k + 1 - S)], HSC.out.close (by rw [size_toList]; exact hlt) HBL.out HSS.out HU.out.symm, ?_, ?_⟩
                  · rw [piece_eq, strCells_snoc] at hown'
                    simpa using hown'
                  · exact (HBE.out.alloc HBE.out.size _).grown hgrow (by have := HBE.out.size; simp; omega) (fun q hq => (HOWN.out.lt q hq).1)
                clear hown' hgrow
                go_wp2_with fail
                go_roundg (gk - 1)
                case measure => omega
                case rel => exact ⟨k + 1, S, by omega, rfl, by go_num, HR.out⟩
      · rw [hb] at hc hbl
        have HC := hide hc
        have HBL := hide hbl
        clear hc hbl hb
        go_wp2_with (go_at_call 9; refine (HC.out _).mono ?_; rintro e w' ⟨rfl, rfl⟩)
        go_roundg (gk - 1)
        case measure => omega
        case rel =>
          obtain ⟨out, h1, h2, h3⟩ := HM.out
          exact ⟨k + 1, st, by omega, rfl, by go_num, out, h1.blank (by rw [size_toList]; exact hlt) HBL.out, h2, h3⟩
    · go_wp2_with fail
      go_ret
      exact HM.out.done (by rw [size_toList]; omega)

end Go.Proofs.Qxb6619682a
