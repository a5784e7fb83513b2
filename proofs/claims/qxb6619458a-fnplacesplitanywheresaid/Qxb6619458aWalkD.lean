/- The walk: placeBuild. -/
import Derived.Test.Qxb6619458aWalkC
namespace Go.Proofs.Qxb6619458a
open Go.RowKit Go.Deep

/-- The row of pointers to the records, k of them laid. -/
def ptrs (B k : Nat) : Nat → Value := fun j => if j < k then .pointer (some ⟨B + 1 + j, 0, none⟩) else .pointer none
/-- What a record's 'to' holds. -/
def toOf (ri : Int) (tv : Value) (j : Nat) : Value := if (j : Int) = ri then tv else .slice none 0 0

theorem toOf_at (tv : Value) (j : Nat) : toOf (j : Int) tv j = tv := by simp [toOf]
theorem toOf_off {ri : Int} {tv : Value} {j : Nat} (h : ¬ (j : Int) = ri) : toOf ri tv j = .slice none 0 0 := by simp [toOf, h]

/-- Block b is a record. -/
def IsRec (w : World) (b : Nat) (tv : Value) (un : Nat) (cl : Bool) : Prop := ∃ ua uc, w.heap[b]? = some (.cells (recCells tv (.slice ua un uc) cl) 99 (0, 0))

theorem IsRec.of_block {w w' : World} {b : Nat} {tv : Value} {un : Nat} {cl : Bool} (h : IsRec w b tv un cl) (e : w'.heap[b]? = w.heap[b]?) : IsRec w' b tv un cl := by
  obtain ⟨ua, uc, h⟩ := h
  exact ⟨ua, uc, e.trans h⟩

/-- What holds when k records are made. -/
structure Recs (w wr : World) (m k : Nat) (ri : Int) (tv : Value) (U : Nat → Nat) (cl : Nat → Bool) : Prop where
  below : Below w.heap.size w wr
  size : wr.heap.size = w.heap.size + 1 + k
  rs : wr.rowIs w.heap.size 40 m (ptrs w.heap.size k)
  recs : ∀ j, j < k → IsRec wr (w.heap.size + 1 + j) (toOf ri tv j) (U j) (cl j)

theorem recs_start (w : World) (m : Nat) (ri : Int) (tv : Value) (U : Nat → Nat) (cl : Nat → Bool) : Recs w (w.alloc (.cells (madeCells #[.pointer none] m) 40)) m 0 ri tv U cl :=
  ⟨below_made _ _, by simp, (World.rowIs_made w (.pointer none) m 40).congr (fun j _ => by simp [ptrs]), fun j h => absurd h (by omega)⟩

theorem recs_step {w wr : World} {m k : Nat} {ri : Int} {tv : Value} {U : Nat → Nat} {cl : Nat → Bool} (h : Recs w wr m k ri tv U cl) (ua : Option Addr) (uc : Nat) :
    Recs w ((wr.alloc (.cells (recCells (toOf ri tv k) (.slice ua (U k) uc) (cl k)) 99)).setCell ⟨w.heap.size, k, none⟩ (.pointer (some ⟨w.heap.size + 1 + k, 0, none⟩))).drew m (k + 1) ri tv U cl := by
  refine ⟨((h.below.alloc (by rw [h.size]; omega) _).setCell (Nat.le_refl _) _).drew, by simp [h.size]; omega, (((h.rs.alloc _).set k _).congr fun j _ => ?_).drew, fun j hj => ?_⟩
  · unfold ptrs
    by_cases e : j = k
    · subst e; simp
    · rw [if_neg e]
      by_cases hlt : j < k
      · rw [if_pos hlt, if_pos (by omega)]
      · rw [if_neg hlt, if_neg (by omega)]
  · by_cases e : j = k
    · subst e
      refine ⟨ua, uc, ?_⟩
      show ((wr.alloc _).setCell _ _).heap[w.heap.size + 1 + j]? = _
      rw [blk_setCell_other _ _ _ _ (by show w.heap.size + 1 + j ≠ w.heap.size; omega), ← h.size]
      exact blk_alloc_new _ _
    · refine (h.recs j (by omega)).of_block ?_
      show ((wr.alloc _).setCell _ _).heap[w.heap.size + 1 + j]? = _
      rw [blk_setCell_other _ _ _ _ (by show w.heap.size + 1 + j ≠ w.heap.size; omega), blk_alloc_lt _ _ _ (by rw [h.size]; omega)]

/-- A group's last record: -1 for none. -/
def lp (B : Nat) (z : Int) : Value := if 0 ≤ z then .pointer (some ⟨B + 1 + z.toNat, 0, none⟩) else .pointer none
def lasts (B : Nat) (zl : Nat → Int) (k : Nat) : Nat → Value := fun g => if g < k then lp B (zl g) else .pointer none

/-- WHAT placeBuild LEAVES, k of the groups' last records laid: the row of pointers at B, the records behind it, then the row of last records, the map, the summary. -/
structure Built (w wr : World) (m n k : Nat) (ri : Int) (tv ov : Value) (U : Nat → Nat) (cl : Nat → Bool) (zl : Nat → Int) : Prop where
  below : Below w.heap.size w wr
  size : wr.heap.size = w.heap.size + 4 + m
  rs : wr.rowIs w.heap.size 40 m (fun j => .pointer (some ⟨w.heap.size + 1 + j, 0, none⟩))
  recs : ∀ j, j < m → IsRec wr (w.heap.size + 1 + j) (toOf ri tv j) (U j) (cl j)
  lst : wr.rowIs (w.heap.size + 1 + m) 40 n (lasts w.heap.size zl k)
  sm : wr.heap[w.heap.size + 3 + m]? = some (.cells (sumCells (.slice (some ⟨w.heap.size + 1 + m, 0, none⟩) n n) ov (w.heap.size + 2 + m)) 96 (0, 0))

theorem sm_last {w : World} {S mb : Nat} {lv ov : Value} (h : w.heap[S]? = some (.cells (sumCells lv ov mb) 96 (0, 0))) : w.cell? ⟨S, 18, none⟩ = some lv := by simp [World.cell?, h, sumCells]
theorem sm_open {w : World} {S mb : Nat} {lv ov : Value} (h : w.heap[S]? = some (.cells (sumCells lv ov mb) 96 (0, 0))) : w.cell? ⟨S, 19, none⟩ = some ov := by simp [World.cell?, h, sumCells]

theorem built_start {w wr : World} {m n : Nat} {ri : Int} {tv ov : Value} {U : Nat → Nat} {cl : Nat → Bool} {zl : Nat → Int} (h : Recs w wr m m ri tv U cl) :
    Built w (((wr.alloc (.cells (madeCells #[.pointer none] n) 40)).alloc (.map #[] 0)).alloc (.cells (sumCells (.slice (some ⟨wr.heap.size, 0, none⟩) n n) ov (wr.heap.size + 1)) 96)) m n 0 ri tv ov U cl zl := by
  have hs := h.size
  have e1 : w.heap.size + 1 + m = wr.heap.size := by omega
  have e2 : w.heap.size + 2 + m = wr.heap.size + 1 := by omega
  have e3 : w.heap.size + 3 + m = wr.heap.size + 2 := by omega
  refine ⟨?_, ?_, ?_, ?_, ?_, ?_⟩
  · exact ((h.below.alloc (by omega) _).alloc (by simp; omega) _).alloc (by simp; omega) _
  · simp [hs]; omega
  · exact (((h.rs.alloc _).alloc _).alloc _).congr (fun j hj => by simp [ptrs, hj])
  · intro j hj
    refine (h.recs j hj).of_block ?_
    rw [blk_alloc_lt _ _ _ (by simp; omega), blk_alloc_lt _ _ _ (by simp; omega), blk_alloc_lt _ _ _ (by omega)]
  · rw [e1]
    exact (((World.rowIs_made wr (.pointer none) n 40).alloc _).alloc _).congr (fun j _ => by simp [lasts])
  · rw [e1, e2, e3]
    have : wr.heap.size + 2 = ((wr.alloc (.cells (madeCells #[.pointer none] n) 40)).alloc (.map #[] 0)).heap.size := by simp
    rw [this]
    exact blk_alloc_new _ _

theorem lasts_none {B k : Nat} {zl : Nat → Int} (hz : zl k < 0) (j : Nat) : lasts B zl k j = lasts B zl (k + 1) j := by
  unfold lasts
  by_cases e : j = k
  · subst e; simp [lp]; omega
  · by_cases hlt : j < k
    · rw [if_pos hlt, if_pos (by omega)]
    · rw [if_neg hlt, if_neg (by omega)]

theorem built_none {w wr : World} {m n k : Nat} {ri : Int} {tv ov : Value} {U : Nat → Nat} {cl : Nat → Bool} {zl : Nat → Int} (h : Built w wr m n k ri tv ov U cl zl) (hz : zl k < 0) : Built w wr m n (k + 1) ri tv ov U cl zl :=
  ⟨h.below, h.size, h.rs, h.recs, h.lst.congr fun j _ => lasts_none hz j, h.sm⟩

theorem built_some {w wr : World} {m n k p : Nat} {ri : Int} {tv ov : Value} {U : Nat → Nat} {cl : Nat → Bool} {zl : Nat → Int} (h : Built w wr m n k ri tv ov U cl zl) (hz : zl k = p) :
    Built w (wr.setCell ⟨w.heap.size + 1 + m, k, none⟩ (.pointer (some ⟨w.heap.size + 1 + p, 0, none⟩))) m n (k + 1) ri tv ov U cl zl := by
  have hs := h.size
  refine ⟨h.below.setCell (by show w.heap.size ≤ w.heap.size + 1 + m; omega) _, by simp [hs], h.rs.setOther (by show w.heap.size ≠ w.heap.size + 1 + m; omega) _, fun j hj => (h.recs j hj).of_block (blk_setCell_other _ _ _ _ (by show w.heap.size + 1 + j ≠ w.heap.size + 1 + m; omega)),
    (h.lst.set k _).congr fun j _ => ?_, (blk_setCell_other _ _ _ _ (by show w.heap.size + 3 + m ≠ w.heap.size + 1 + m; omega)).trans h.sm⟩
  unfold lasts
  by_cases e : j = k
  · subst e; simp [lp, hz]
  · rw [if_neg e]
    by_cases hlt : j < k
    · rw [if_pos hlt, if_pos (by omega)]
    · rw [if_neg hlt, if_neg (by omega)]

set_option maxHeartbeats 1000000 in
theorem placeBuild_any (oa la ua ca ta : Option Addr) (n m oc lc uc cc tn tc : Nat) (ri : Int) (zl : Nat → Int) (U : Nat → Nat) (cl : Nat → Bool) (w : World)
    (hn : n ≤ 65536) (hm : m ≤ 65536) (hl : RowAt w la n (fun i => .int .i64 (zl i))) (hz : ∀ g, g < n → -1 ≤ zl g ∧ zl g < m) (hu : LensAt w ua m U) (hcl : RowAt w ca m (fun i => .bool (cl i))) :
    Calls Try.prog 28 #[.slice oa n oc, .slice la n lc, .slice ua m uc, .slice ca m cc, .int .i64 ri, .slice ta tn tc] w fun e w' =>
      e = .returned (.tuple #[.slice (some ⟨w.heap.size, 0, none⟩) m m, .pointer (some ⟨w.heap.size + 3 + m, 0, none⟩)]) ∧ Built w w' m n n ri (.slice ta tn tc) (.slice oa n oc) U cl zl := by
  have hmk := run_make_row' (P := Try.prog) 30 40 (.pointer none) 8 Try.underlying30 Try.info40 rfl .i64 .i64 m (by omega) (by omega)
  go_enter Try.func28, Try.ntmps28
  go_wp2
  clear hmk
  go_loopw [15] (fun i wr => ∃ k : Nat, k ≤ m ∧ i = .int .i64 k ∧ Recs w wr m k ri (.slice ta tn tc) U cl) (fun i _ => m - (intOf i).toNat)
  case atStart => exact ⟨0, Nat.zero_le _, rfl, recs_start ..⟩
  case round =>
    obtain ⟨k, hk, rfl, hR⟩ := hrel
    by_cases hlt : k < m
    · obtain ⟨b1, o1, ua', uc', e1, hc1⟩ := hu.below hR.below k hlt
      cases e1
      obtain ⟨b2, o2, e2, hc2⟩ := hcl.below hR.below k hlt
      cases e2
      have hsize := hR.size
      have g1 : ∀ o, (wr.alloc o).cell? ⟨w.heap.size, k, none⟩ = some (ptrs w.heap.size k k) := fun o => (hR.rs.alloc o).cell hlt
      have g2 : ∀ o, (wr.alloc o).frozen? ⟨w.heap.size, k, none⟩ = false := fun o => (hR.rs.alloc o).frozen k
      have HS := recs_step hR ua' uc'
      clear hl hz hu hcl hR
      by_cases hri : (k : Int) = ri
      · subst hri
        rw [toOf_at] at HS
        go_wp2
        go_region_with (go_at_call 46; refine (newRecord _ _ _ _ _ _ _ _).mono ?_; rintro e w1 ⟨rfl, rfl⟩)
        all_goals go_wp2
        all_goals
          go_roundw
          case rel => exact ⟨k + 1, by omega, by go_num, HS⟩
          case measure => simp [intOf]; omega
      · have hri' : ((k : Int) == ri) = false := by simp [hri]
        rw [toOf_off hri] at HS
        go_wp2
        go_region_with (go_at_call 46; refine (newRecord _ _ _ _ _ _ _ _).mono ?_; rintro e w1 ⟨rfl, rfl⟩)
        all_goals go_wp2
        all_goals
          go_roundw
          case rel => exact ⟨k + 1, by omega, by go_num, HS⟩
          case measure => simp [intOf]; omega
    · have hkm : k = m := by omega
      subst hkm
      clear hu hcl
      go_wp2_with fail
      refine (newSummary oa n oc (by omega) wr).mono ?_
      rintro e w1 ⟨rfl, rfl⟩
      have hB := built_start (n := n) (ov := .slice oa n oc) (zl := zl) hR
      have hsz := hR.size
      have e3 : wr.heap.size + 2 = w.heap.size + 3 + k := by omega
      rw [e3]
      clear hR hsz e3
      go_wp2
      go_loopw [18] (fun i wx => ∃ g : Nat, g ≤ n ∧ i = .int .i64 g ∧ Built w wx k n g ri (.slice ta tn tc) (.slice oa n oc) U cl zl) (fun i _ => n - (intOf i).toNat)
      case atStart => exact ⟨0, Nat.zero_le _, rfl, hB⟩
      case round =>
        clear hB
        obtain ⟨g, hg, rfl, hB⟩ := hrel
        by_cases hlt2 : g < n
        · obtain ⟨b, o, ea, hc⟩ := hl.below hB.below g hlt2
          cases ea
          have hzg := hz g hlt2
          clear hl hz
          by_cases t1 : zl g < 0
          · have HN := built_none hB t1
            clear hB
            go_wp2
            go_roundw
            case rel => exact ⟨g + 1, by omega, by go_num, HN⟩
            case measure => simp [intOf]; omega
          · obtain ⟨p, hp⟩ := Int.eq_ofNat_of_zero_le (show 0 ≤ zl g by omega)
            have HN := built_some hB hp
            simp only [hp] at hc
            rw [hp] at hzg t1
            have hpk : p < k := by omega
            have g1 := hB.rs.cell hpk
            have g2 := sm_last hB.sm
            have g3 := hB.lst.cell hlt2
            have g4 := hB.lst.frozen g
            clear hp hB
            go_wp2_with fail
            refine (setLast _ _ g n hlt2 _ _ wr g2 g3 g4).mono ?_
            rintro e w1 ⟨rfl, rfl⟩
            clear g1 g2 g3 g4
            go_wp2
            go_roundw
            case rel => exact ⟨g + 1, by omega, by go_num, HN⟩
            case measure => simp [intOf]; omega
        · have hgn : g = n := by omega
          subst hgn
          clear hl hz
          go_wp2
          go_ret2
          exact ⟨rfl, hB⟩
end Go.Proofs.Qxb6619458a
