/-
  The walks of isBlank (18), isBlankByte (9), split (17), ZZSplit (10), allBlank (11).
-/
import Derived.Test.Qxb6619682aRows
import Derived.Test.Qxb6619682aFields
import Derived.Test.Qxb6619682aDigits
import Derived.Deep.DeepCutAuto
import Derived.Deep.CutBlock
namespace Go.Proofs.Qxb6619682a
open Go.RowKit Plain

theorem blank_yes {c : UInt8} (h : (c.toNat : Int) = 32 ∨ (c.toNat : Int) = 9) : blk c = true := decide_eq_true h
theorem blank_no {c : UInt8} (h : ¬ ((c.toNat : Int) = 32 ∨ (c.toNat : Int) = 9)) : blk c = false := decide_eq_false h
theorem blank_iff (c : UInt8) : blk c = true ↔ ((c.toNat : Int) = 32 ∨ (c.toNat : Int) = 9) := by unfold blk; exact decide_eq_true_iff

set_option maxHeartbeats 400000 in
theorem b18_any (c : UInt8) (w : World) : Calls Try.prog 18 #[.int .u8 (c.toNat : Int)] w fun e w' => e = .returned (.bool (blk c)) ∧ w' = w := by
  cases h1 : ((c.toNat : Int) == 32)
  · cases h2 : ((c.toNat : Int) == 9)
    · have HD := hide (blank_no (c := c) (by simp only [beq_eq_false_iff_ne, ne_eq] at h1 h2; omega))
      go_enter Try.func18, Try.ntmps18
      go_wp2
      go_ret
      exact ⟨ret_bool HD.out.symm, rfl⟩
    · have HD := hide (blank_yes (c := c) (by simp only [beq_iff_eq] at h2; omega))
      go_enter Try.func18, Try.ntmps18
      go_wp2
      go_ret
      exact ⟨ret_bool HD.out.symm, rfl⟩
  · have HD := hide (blank_yes (c := c) (by simp only [beq_iff_eq] at h1; omega))
    go_enter Try.func18, Try.ntmps18
    go_wp2
    go_ret
    exact ⟨ret_bool HD.out.symm, rfl⟩

set_option maxHeartbeats 400000 in
theorem b9_any (c : UInt8) (w : World) : Calls Try.prog 9 #[.int .u8 (c.toNat : Int)] w fun e w' => e = .returned (.bool (blk c)) ∧ w' = w := by
  cases h1 : ((c.toNat : Int) == 32)
  · cases h2 : ((c.toNat : Int) == 9)
    · have HD := hide (blank_no (c := c) (by simp only [beq_eq_false_iff_ne, ne_eq] at h1 h2; omega))
      go_enter Try.func9, Try.ntmps9
      go_wp2
      go_ret
      exact ⟨ret_bool HD.out.symm, rfl⟩
    · have HD := hide (blank_yes (c := c) (by simp only [beq_iff_eq] at h2; omega))
      go_enter Try.func9, Try.ntmps9
      go_wp2
      go_ret
      exact ⟨ret_bool HD.out.symm, rfl⟩
  · have HD := hide (blank_yes (c := c) (by simp only [beq_iff_eq] at h1; omega))
    go_enter Try.func9, Try.ntmps9
    go_wp2
    go_ret
    exact ⟨ret_bool HD.out.symm, rfl⟩

set_option maxHeartbeats 400000 in
theorem allBlank_any (s : ByteArray) (w : World) (hs : s.size ≤ 1048576) : Calls Try.prog 11 #[.string s] w fun e w' => e = .returned (.bool (allB s.data.toList)) ∧ w' = w := by
  go_enter Try.func11, Try.ntmps11
  go_wp2_with fail
  go_loop [3] (fun a => ∃ k : Nat, k ≤ s.size ∧ a = .int .i64 k ∧ Hid (∀ j (hj : j < s.size), j < k → blk s[j] = true)) (fun a => s.size - (intOf a).toNat)
  case atStart => exact ⟨0, Nat.zero_le _, rfl, fun j _ h => by omega⟩
  case round =>
    obtain ⟨k, hk, rfl, hA⟩ := hrel
    by_cases hlt : k < s.size
    · have hc := b9_any s[k]
      cases hb : blk s[k]
      · rw [hb] at hc
        have HC := hide hc
        have HALL : Hid (allB s.data.toList = false) := by
          unfold allB; rw [Bool.eq_false_iff]
          intro g
          rw [List.all_eq_true] at g
          have := g (s.data.toList[k]'(by simpa using hlt)) (List.getElem_mem _)
          have e : s.data.toList[k]'(by simpa using hlt) = s[k] := rfl
          rw [e, hb] at this
          cases this
        clear hc hb
        go_wp2_with (go_at_call 9; refine (HC.out _).mono ?_; rintro e w' ⟨rfl, rfl⟩)
        go_ret
        exact ⟨ret_bool HALL.out.symm, rfl⟩
      · rw [hb] at hc
        have HC := hide hc
        have HBK := hide hb
        clear hc hb
        go_wp2_with (go_at_call 9; refine (HC.out _).mono ?_; rintro e w' ⟨rfl, rfl⟩)
        go_round
        case rel => exact ⟨k + 1, by omega, by go_num, fun j hj hjk => by
                      by_cases e : j = k
                      · subst e; exact HBK.out
                      · exact hA.out j hj (by omega)⟩
        case measure => simp [intOf]; omega
    · have HALL : Hid (allB s.data.toList = true) := by
        show s.data.toList.all blk = true
        rw [List.all_eq_true]
        intro x hx
        obtain ⟨j, hj, rfl⟩ := List.getElem_of_mem hx
        exact hA.out j (by simpa using hj) (by simp at hj; omega)
      go_wp2_with fail
      go_ret
      exact ⟨ret_bool HALL.out.symm, rfl⟩

set_option maxHeartbeats 1000000 in
set_option maxRecDepth 100000 in
theorem split_any (s : ByteArray) (P : Nat) (w : World) (hs : s.size ≤ 1048576) (h0 : w.cell? ⟨P, 0, none⟩ = some (.string s)) :
    Calls Try.prog 17 #[.pointer (some ⟨P, 0, none⟩)] w fun e w' => e = .returned (.tuple #[.string (bs (fld s.data.toList)), .string (bs (rst s.data.toList))]) ∧ ∃ q, w' = w.drewN q := by
  have HFA : Hid (∀ k, k ≤ s.size → (∀ j (h : j < s.size), j < k → blk s[j] = true) → (∀ h : k < s.size, blk s[k] = false) → sA s.data.toList = k) := by
    intro k hk h1 h2
    exact sA_of s.data.toList k (by rw [size_toList]; exact hk) (fun j h hj => h1 j (by simpa using h) hj) (fun h => h2 (by simpa using h))
  have HFB : Hid (∀ k, k ≤ s.size → sA s.data.toList ≤ k → (∀ j (h : j < s.size), sA s.data.toList ≤ j → j < k → blk s[j] = false) → (∀ h : k < s.size, blk s[k] = true) → sB s.data.toList = k) := by
    intro k hk ha h1 h2
    exact sB_of s.data.toList k (by rw [size_toList]; exact hk) ha (fun j h hj hk => h1 j (by simpa using h) hj hk) (fun h => h2 (by simpa using h))
  have hA := sA_le s.data.toList
  have hAB := sA_le_sB s.data.toList
  have hB := sB_le s.data.toList
  rw [size_toList] at hA hB
  have e1 : s.extract (sA s.data.toList) (sB s.data.toList) = bs (fld s.data.toList) := by
    apply eq_bs
    rw [← fld_at]
    simp only [ByteArray.data_extract, Array.toList_extract, List.extract_eq_take_drop]
  have e2 : s.extract (sB s.data.toList) s.size = bs (rst s.data.toList) := by
    apply eq_bs
    rw [← rst_at]
    simp only [ByteArray.data_extract, Array.toList_extract, List.extract_eq_take_drop]
    rw [List.take_of_length_le]; simp
  have HE1 := hide e1
  have HE2 := hide e2
  clear e1 e2
  generalize sA s.data.toList = A at *
  generalize sB s.data.toList = B at *
  go_enter Try.func17, Try.ntmps17
  go_upto_block 0 with fail
  go_cut [4] (fun a wx => a = .int .i64 (A : Nat) ∧ wx = w)
  case first =>
    go_wp2_with fail
    go_loopg [4] s.size (fun g a wr => ∃ k : Nat, g + k = s.size ∧ a = .int .i64 k ∧ Hid (∀ j (hj : j < s.size), j < k → blk s[j] = true) ∧ wr = w)
    case atStart => exact ⟨0, rfl, rfl, fun j _ h => by omega, rfl⟩
    case round =>
      obtain ⟨k, hk, rfl, hbl, rfl⟩ := hrel
      by_cases hlt : k < s.size
      · have hc := b18_any s[k]
        cases hb : blk s[k]
        · rw [hb] at hc
          have HC := hide hc
          have HBK := hide hb
          clear hc hb
          go_wp2_with (go_at_call 18; refine (HC.out _).mono ?_; rintro e w' ⟨rfl, rfl⟩)
          go_meet
          case rel => exact ⟨by rw [HFA.out k (by omega) hbl.out (fun _ => HBK.out)], rfl⟩
        · rw [hb] at hc
          have HC := hide hc
          have HBK := hide hb
          clear hc hb
          go_wp2_with (go_at_call 18; refine (HC.out _).mono ?_; rintro e w' ⟨rfl, rfl⟩)
          go_roundg (gk - 1)
          case measure => omega
          case rel => exact ⟨k + 1, by omega, by go_num, fun j hj hjk => by
                        by_cases e : j = k
                        · subst e; exact HBK.out
                        · exact hbl.out j hj (by omega), rfl⟩
      · go_wp2_with fail
        go_meet
        case rel => exact ⟨by rw [HFA.out k (by omega) hbl.out (fun h => by omega)], rfl⟩
  case rest =>
    obtain ⟨rfl, rfl⟩ := hcut
    go_upto_block 2 with fail
    go_cut [5] (fun a wx => a = .int .i64 (B : Nat) ∧ wx = wc)
    case first =>
      go_wp2_with fail
      go_loopg [5] (s.size - A) (fun g a wr => ∃ k : Nat, g + k = s.size ∧ A ≤ k ∧ a = .int .i64 k ∧ Hid (∀ j (hj : j < s.size), A ≤ j → j < k → blk s[j] = false) ∧ wr = wc)
      case atStart => exact ⟨A, by omega, Nat.le_refl _, rfl, fun j _ h1 h2 => by omega, rfl⟩
      case round =>
        obtain ⟨k, hk, hAk, rfl, hbl, rfl⟩ := hrel
        by_cases hlt : k < s.size
        · have hc := b18_any s[k]
          cases hb : blk s[k]
          · rw [hb] at hc
            have HC := hide hc
            have HBK := hide hb
            clear hc hb
            go_wp2_with (go_at_call 18; refine (HC.out _).mono ?_; rintro e w' ⟨rfl, rfl⟩)
            go_roundg (gk - 1)
            case measure => omega
            case rel => exact ⟨k + 1, by omega, by omega, by go_num, fun j hj hj2 hjk => by
                          by_cases e : j = k
                          · subst e; exact HBK.out
                          · exact hbl.out j hj hj2 (by omega), rfl⟩
          · rw [hb] at hc
            have HC := hide hc
            have HBK := hide hb
            clear hc hb
            go_wp2_with (go_at_call 18; refine (HC.out _).mono ?_; rintro e w' ⟨rfl, rfl⟩)
            go_meet
            case rel => exact ⟨by rw [HFB.out k (by omega) hAk hbl.out (fun _ => HBK.out)], rfl⟩
        · go_wp2_with fail
          go_meet
          case rel => exact ⟨by rw [HFB.out k (by omega) hAk hbl.out (fun h => by omega)], rfl⟩
    case rest =>
      obtain ⟨rfl, rfl⟩ := hcut
      clear HFA HFB
      go_wp2_with fail
      go_quiet (fail)
      go_wp2_with fail
      go_ret2
      exact ⟨by rw [← HE1.out, ← HE2.out]; rfl, _, rfl⟩

theorem results_tmp4 {fn : Func} {t u v x : Tmp} (h : fn.results = #[.tmp t, .tmp u, .tmp v, .tmp x]) (tmps : Array Value) (P : Program) (w : World) :
    (results fn tmps).run P w = .ok (.tuple #[tmps.getD t undef, tmps.getD u undef, tmps.getD v undef, tmps.getD x undef]) w := by
  simp [results, h]

theorem below_drewN' {B : Nat} {w wc : World} (h : Below B w wc) (q : Nat) : Below B w (wc.drewN q) := ⟨h.os, h.tape, h.output, h.size, h.block⟩

set_option maxHeartbeats 1000000 in
theorem zzsplit_any (s : ByteArray) (ao : Option Addr) (n cap : Nat) (w : World) (hs : s.size ≤ 1048576) :
    Calls Try.prog 10 #[.string s, .slice ao n cap] w fun e w' => e = .returned (.tuple #[.string (bs (fld s.data.toList)), .string (bs (rst s.data.toList)), .string s, .slice ao n cap]) ∧ Below w.heap.size w w' := by
  go_enter Try.func10, Try.ntmps10
  go_wp2_with fail
  refine (split_any s w.heap.size _ hs (by rw [World.cell?_alloc_at _ _ _ _ rfl]; rfl)).mono ?_
  rintro e w1 ⟨rfl, q, rfl⟩
  go_wp2_with fail
  go_quiet (fail)
  go_wp2_with fail
  refine bodyPost_ret (results_tmp4 rfl _ _ _) rfl ?_
  exact ⟨rfl, below_drewN' (below_drewN' ((Below.refl _ _).alloc (Nat.le_refl _) _) _) _⟩

end Go.Proofs.Qxb6619682a
