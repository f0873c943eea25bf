/-
  The walk of ZZKept (9).
-/
import Derived.Test.Qxb6619585aWalkk
namespace Go.Proofs.Qxb6619585a
open Go.RowKit

theorem IntsAt.alloc {w : World} {k : IntKind} {a : Option Addr} {n : Nat} {f : Nat → Int} (h : IntsAt w k a n f) (o : Obj) : IntsAt (w.alloc o) k a n f :=
  h.below ((Below.refl _ _).alloc (Nat.le_refl _) _)

/-- Behind the loop that fills the records. -/
def Cut2 (w : World) (n : Nat) (Z : Nat → Int) (la : Nat → Option Addr) (ln lc : Nat → Nat) (wr : World) : Prop :=
  Below w.heap.size w wr ∧ wr.rowIs w.heap.size 36 (n * 2) (recF Z la ln lc) ∧ w.heap.size < wr.heap.size

/-- 'i' records are filled. -/
structure Fill (w wr : World) (n i : Nat) (Z : Nat → Int) (la : Nat → Option Addr) (ln lc : Nat → Nat) : Prop where
  below : Below w.heap.size w wr
  lt : w.heap.size < wr.heap.size
  row : ∃ f : Nat → Value, wr.rowIs w.heap.size 36 (n * 2) f ∧ ∀ j, j < i → f (j * 2) = .int .u64 (Z j) ∧ f (j * 2 + 1) = .slice (la j) (ln j) (lc j)

theorem Fill.start (w : World) (n : Nat) (Z : Nat → Int) (la : Nat → Option Addr) (ln lc : Nat → Nat) :
    Fill w (w.alloc (.cells (madeCells #[.int .u64 0, .slice none 0 0] (n * 2)) 36)) n 0 Z la ln lc := by
  refine ⟨(Below.refl _ _).alloc (Nat.le_refl _) _, by simp, ⟨fun i => (madeCells #[.int .u64 0, .slice none 0 0] (n * 2))[i]?.getD default, ?_, fun j h => by omega⟩⟩
  have := World.rowIs_alloc w (madeCells #[.int .u64 0, .slice none 0 0] (n * 2)) 36 (fun i => (madeCells #[.int .u64 0, .slice none 0 0] (n * 2))[i]?.getD default) (fun i hi => by
      rw [Array.getElem?_eq_getElem hi]; rfl)
  rw [size_madeCells] at this
  exact this

theorem Fill.step {w wr : World} {n i : Nat} {Z : Nat → Int} {la : Nat → Option Addr} {ln lc : Nat → Nat} (h : Fill w wr n i Z la ln lc) :
    Fill w ((wr.setCell ⟨w.heap.size, i * 2, none⟩ (.int .u64 (Z i))).setCell ⟨w.heap.size, i * 2 + 1, none⟩ (.slice (la i) (ln i) (lc i))).drew n (i + 1) Z la ln lc := by
  obtain ⟨hb, hlt, f, hf, hfj⟩ := h
  refine ⟨((hb.setCell (p := ⟨w.heap.size, i * 2, none⟩) (Nat.le_refl _) _).setCell (p := ⟨w.heap.size, i * 2 + 1, none⟩) (Nat.le_refl _) _).drew, ?_, ⟨_, ((hf.set (i * 2) _).set (i * 2 + 1) _).drew, fun j hj => ?_⟩⟩
  · show w.heap.size < ((wr.setCell _ _).setCell _ _).heap.size
    simpa [World.setCell] using hlt
  · by_cases e : j = i
    · subst e
      refine ⟨?_, ?_⟩
      · show (if j * 2 = j * 2 + 1 then _ else if j * 2 = j * 2 then _ else f (j * 2)) = _
        rw [if_neg (by omega), if_pos rfl]
      · show (if j * 2 + 1 = j * 2 + 1 then _ else _) = _
        rw [if_pos rfl]
    · obtain ⟨h1, h2⟩ := hfj j (by omega)
      refine ⟨?_, ?_⟩
      · show (if j * 2 = i * 2 + 1 then _ else if j * 2 = i * 2 then _ else f (j * 2)) = _
        rw [if_neg (by omega), if_neg (by omega), h1]
      · show (if j * 2 + 1 = i * 2 + 1 then _ else if j * 2 + 1 = i * 2 then _ else f (j * 2 + 1)) = _
        rw [if_neg (by omega), if_neg (by omega), h2]

theorem Fill.done {w wr : World} {n : Nat} {Z : Nat → Int} {la : Nat → Option Addr} {ln lc : Nat → Nat} (h : Fill w wr n n Z la ln lc) : Cut2 w n Z la ln lc wr := by
  obtain ⟨hb, hlt, f, hf, hfj⟩ := h
  refine ⟨hb, hf.congr fun i hi => ?_, hlt⟩
  obtain ⟨h1, h2⟩ := hfj (i / 2) (by omega)
  unfold recF
  split
  · rw [← h1, show i / 2 * 2 = i from by omega]
  · rw [← h2, show i / 2 * 2 + 1 = i from by omega]

/-- 'i' numbers and lines are handed out. -/
structure Out (w wr : World) (m i : Nat) (Z : Nat → Int) (la : Nat → Option Addr) (ln : Nat → Nat) : Prop where
  below : Below w.heap.size w wr
  lt : w.heap.size + 1 < wr.heap.size
  row1 : ∃ f : Nat → Value, wr.rowIs w.heap.size 22 m f ∧ ∀ j, j < i → f j = .int .u64 (Z j)
  row2 : ∃ f : Nat → Value, wr.rowIs (w.heap.size + 1) 32 m f ∧ ∀ j, j < i → f j = .slice (la j) (ln j) (ln j)

theorem Out.start (w : World) (m : Nat) (Z : Nat → Int) (la : Nat → Option Addr) (ln : Nat → Nat) :
    Out w ((w.alloc (.cells (madeCells #[.int .u64 0] m) 22)).alloc (.cells (madeCells #[.slice none 0 0] m) 32)) m 0 Z la ln := by
  refine ⟨((Below.refl _ _).alloc (Nat.le_refl _) _).alloc (by simp) _, by simp, ⟨_, (World.rowIs_made w _ m 22).alloc _, fun j h => by omega⟩, ⟨fun _ => .slice none 0 0, ?_, fun j h => by omega⟩⟩
  · have := World.rowIs_made (w.alloc (.cells (madeCells #[.int .u64 0] m) 22)) (.slice none 0 0) m 32
    simpa using this

theorem Out.step {w wr : World} {m i : Nat} {Z : Nat → Int} {la : Nat → Option Addr} {ln : Nat → Nat} (h : Out w wr m i Z la ln) :
    Out w ((wr.setCell ⟨w.heap.size, i, none⟩ (.int .u64 (Z i))).setCell ⟨w.heap.size + 1, i, none⟩ (.slice (la i) (ln i) (ln i))) m (i + 1) Z la ln := by
  obtain ⟨hb, hlt, ⟨f, hf, hfj⟩, ⟨g, hg, hgj⟩⟩ := h
  refine ⟨(hb.setCell (p := ⟨w.heap.size, i, none⟩) (Nat.le_refl _) _).setCell (p := ⟨w.heap.size + 1, i, none⟩) (Nat.le_succ _) _, ?_, ⟨_, (hf.set i _).setOther (by simp) _, fun j hj => ?_⟩, ⟨_, (hg.setOther (by simp) _).set i _, fun j hj => ?_⟩⟩
  · simpa [World.setCell] using hlt
  · show (if j = i then _ else f j) = _
    by_cases e : j = i
    · subst e; rw [if_pos rfl]
    · rw [if_neg e]; exact hfj j (by omega)
  · show (if j = i then _ else g j) = _
    by_cases e : j = i
    · subst e; rw [if_pos rfl]
    · rw [if_neg e]; exact hgj j (by omega)

/-- What ZZKept leaves. -/
def ZPost (hc cp nx de : Int) (n : Nat) (Z : Nat → Int) (ln : Nat → Nat) (bt : Nat → Nat → Int) (w : World) (e : Ending) (w' : World) : Prop :=
  ∃ (K Q : Nat) (la : Nat → Option Addr), Start hc cp n Z K ∧ e = .returned (.tuple #[.slice (some ⟨Q, 0, none⟩) (n - K) (n - K), .slice (some ⟨Q + 1, 0, none⟩) (n - K) (n - K), .int .u64 (nextF nx de n Z)]) ∧
    w.heap.size ≤ Q ∧ Below w.heap.size w w' ∧ w'.rowIs Q 22 (n - K) (fun j => .int .u64 (Z (K + j))) ∧ w'.rowIs (Q + 1) 32 (n - K) (fun j => .slice (la j) (ln (K + j)) (ln (K + j))) ∧
    ∀ j, j < n - K → IntsAt w' .u8 (la j) (ln (K + j)) (bt (K + j))

set_option maxHeartbeats 1000000 in
set_option maxRecDepth 100000 in
theorem zz_any (nx hc de cp : Int) (sa bo : Option Addr) (n sc bc : Nat) (Z : Nat → Int) (la : Nat → Option Addr) (ln lc : Nat → Nat) (bt : Nat → Nat → Int) (w : World)
    (hn : n ≤ 65536) (hz : IntsAt w .u64 sa n Z) (hl : LinesAt w bo n la ln lc) (hbt : ∀ j, j < n → IntsAt w .u8 (la j) (ln j) (bt j)) (hnil : ∀ j, j < n → la j = none → ln j = 0 ∧ lc j = 0) (hsum : sumTo ln n ≤ 1048576) :
    Calls Try.prog 9 #[.int .u64 nx, .int .i64 hc, .slice sa n sc, .slice bo n bc, .int .i64 de, .int .i64 cp] w fun e w' => ZPost hc cp nx de n Z ln bt w e w' := by
  have HZ := hide hz
  have HL := hide hl
  have HBT := hide hbt
  have HNIL := hide hnil
  have HSUM := hide hsum
  clear hz hl hbt hnil hsum
  have hmk1 := make_recs n hn
  go_enter Try.func9, Try.ntmps9
  go_upto_block 0 with fail
  go_cut [16] (fun a wr => Cut2 w n Z la ln lc wr)
  case first =>
    go_wp2_with fail
    go_loopg [16] n (fun g a wr => ∃ i : Nat, g + i = n ∧ a = .int .i64 i ∧ Fill w wr n i Z la ln lc)
    case atStart => exact ⟨0, rfl, rfl, Fill.start w n Z la ln lc⟩
    case round =>
      obtain ⟨i, hi, rfl, hF⟩ := hrel
      by_cases hg : gk = 0
      · subst hg
        obtain rfl : i = n := by omega
        have HF := hide hF
        clear hF
        go_wp2_with fail
        go_meet
        case rel => exact HF.out.done
      · obtain ⟨b1, o1, rfl, h1⟩ := HZ.out.resolve_left (by omega)
        obtain ⟨b2, o2, rfl, h2⟩ := HL.out.resolve_left (by omega)
        obtain ⟨f, hf, hfj⟩ := hF.row
        have hin : i < n := by omega
        have q1 := (hF.below.cell (p := ⟨b1, o1 + i, none⟩) (World.block_lt_of_cell? w _ (h1 i hin))).trans (h1 i hin)
        have q2 := (hF.below.cell (p := ⟨b2, o2 + i, none⟩) (World.block_lt_of_cell? w _ (h2 i hin))).trans (h2 i hin)
        have e1 := hf.cell (i := i * 2) (by omega)
        have e2 := hf.cell (i := i * 2 + 1) (by omega)
        have z1 := hf.frozen (i * 2)
        have z2 := hf.frozen (i * 2 + 1)
        have hne1 : b1 < w.heap.size := World.block_lt_of_cell? w _ (h1 i hin)
        have hne2 : b2 < w.heap.size := World.block_lt_of_cell? w _ (h2 i hin)
        have HF := hide hF
        clear hF hf hfj h1 h2
        go_wp2_with fail
        go_region
        go_wp2_with fail
        go_roundg (gk - 1)
        case measure => omega
        case rel => exact ⟨i + 1, by omega, by go_num, HF.out.step⟩
  case rest =>
    obtain ⟨hb, hrow, hsz⟩ := hcut
    have HB := hide hb
    have HROW := hide hrow
    clear hb hrow
    go_wp2_with fail
    refine (kept_any wc.heap.size w.heap.size n hc nx de cp Z la ln lc bt _ (by rw [World.cell?_alloc_at _ _ _ _ rfl]; rfl) (by rw [World.cell?_alloc_at _ _ _ _ rfl]; rfl) (by rw [World.cell?_alloc_at _ _ _ _ rfl]; rfl) (by rw [World.cell?_alloc_at _ _ _ _ rfl]; rfl) hn (HROW.out.alloc _) (fun j hj => ((HBT.out j hj).below HB.out).alloc _) HNIL.out HSUM.out).mono ?_
    rintro e w2 ⟨K, H, la2, hS, rfl, hH, hb2, hrow2, hin2⟩
    obtain ⟨m, hm⟩ : ∃ m, n - K = m := ⟨_, rfl⟩
    obtain ⟨Z', hZ'⟩ : ∃ f : Nat → Int, f = fun j => Z (K + j) := ⟨_, rfl⟩
    obtain ⟨ln', hln'⟩ : ∃ f : Nat → Nat, f = fun j => ln (K + j) := ⟨_, rfl⟩
    have HFIN : Hid (∀ e wr, (e = Ending.returned (.tuple #[.slice (some ⟨w2.heap.size, 0, none⟩) m m, .slice (some ⟨w2.heap.size + 1, 0, none⟩) m m, .int .u64 (nextF nx de n Z)])) → Out w2 wr m m Z' la2 ln' → ZPost hc cp nx de n Z ln bt w e wr) := by
      rintro e wr rfl hO
      subst hZ' hln' hm
      have hbW : Below w.heap.size w (wc.alloc (.cells #[.string ⟨#[]⟩, .int .i64 0, .int .i64 hc, .int .u64 nx, .slice (some ⟨w.heap.size, 0, none⟩) n n, .int .i64 0, .int .i64 0, .int .i64 0, .int .i64 de, .bool false] 41)) := HB.out.alloc HB.out.size _
      have hsz2 := hb2.size
      have hszW := hbW.size
      obtain ⟨hb3, hlt3, ⟨f, hf, hfj⟩, ⟨g, hg, hgj⟩⟩ := hO
      refine ⟨K, w2.heap.size, la2, hS, rfl, Nat.le_trans hszW hsz2, (hbW.trans (hb2.mono hszW)).trans (hb3.mono (Nat.le_trans hszW hsz2)), hf.congr hfj, hg.congr hgj, fun j hj => (hin2 j hj).below hb3⟩
    have hm2 : m ≤ 65536 := by omega
    have HR2 : Hid (∀ j, j < m → w2.cell? ⟨H, j * 2, none⟩ = some (.int .u64 (Z' j)) ∧ w2.cell? ⟨H, j * 2 + 1, none⟩ = some (.slice (la2 j) (ln' j) (ln' j))) := by
      intro j hj
      rw [hrow2.cell (by omega), hrow2.cell (by omega), recF_even, recF_odd, hZ', hln']
      exact ⟨rfl, rfl⟩
    have hHlt : H < w2.heap.size := hrow2.lt
    have hmk2 := make_seqs m hm2
    have hmk3 := make_lines m hm2
    rw [hm]
    clear hS hb2 hrow2 hin2 hmk1 HBT HNIL HSUM HZ HL HB HROW hm hZ' hln'
    go_wp2_with fail
    go_loopg [22] m (fun g a wr => ∃ i : Nat, g + i = m ∧ a = .int .i64 i ∧ Out w2 wr m i Z' la2 ln')
    case atStart => exact ⟨0, rfl, rfl, Out.start w2 m Z' la2 ln'⟩
    case round =>
      obtain ⟨i, hi, rfl, hO⟩ := hrel
      by_cases hg : gk = 0
      · subst hg
        obtain rfl : i = m := by omega
        have HO := hide hO
        clear hO
        go_wp2_with fail
        go_ret3
        exact HFIN.out _ _ rfl HO.out
      · have him : i < m := by omega
        obtain ⟨g1, g2⟩ := HR2.out i him
        have q1 := (hO.below.cell (p := ⟨H, i * 2, none⟩) hHlt).trans g1
        have q2 := (hO.below.cell (p := ⟨H, i * 2 + 1, none⟩) hHlt).trans g2
        obtain ⟨f, hf, hfj⟩ := hO.row1
        obtain ⟨g, hg', hgj⟩ := hO.row2
        have e1 := hf.cell (i := i) him
        have z1 := hf.frozen i
        have e2 := hg'.cell (i := i) him
        have z2 := hg'.frozen i
        have hlt := hO.lt
        have HO := hide hO
        clear hO hf hfj hg' hgj g1 g2
        go_wp2_with fail
        go_roundg (gk - 1)
        case measure => omega
        case rel => exact ⟨i + 1, by omega, by go_num, HO.out.step⟩

end Go.Proofs.Qxb6619585a
