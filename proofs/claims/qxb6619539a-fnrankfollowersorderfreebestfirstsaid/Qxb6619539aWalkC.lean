/- The walk: ZZRankFollowers. -/
import Derived.Test.Qxb6619539aSort
namespace Go.Proofs.Qxb6619539a
open Go.RowKit Go.Deep

/-- The first k are the new ones. -/
def mix (F' F : Nat → Fol) (k : Nat) : Nat → Fol := fun i => if i < k then F' i else F i
theorem mix_step (F' F : Nat → Fol) (k : Nat) : upd (mix F' F k) k (F' k) = mix F' F (k + 1) := by
  funext i
  unfold upd mix
  by_cases e : i = k
  · subst e; simp
  · rw [if_neg e]
    by_cases hlt : i < k
    · rw [if_pos hlt, if_pos (by omega)]
    · rw [if_neg hlt, if_neg (by omega)]

theorem But.trans {blk : Nat} {a b c : World} (h : But blk a b) (k : But blk b c) : But blk a c :=
  ⟨k.os.trans h.os, k.tape.trans h.tape, k.output.trans h.output, Nat.le_trans h.size k.size, fun i hi hne => (k.block i (Nat.lt_of_lt_of_le hi h.size) hne).trans (h.block i hi hne)⟩
theorem But.set {blk : Nat} {a w : World} (h : But blk a w) (o : Nat) (u : Value) : But blk a (w.setCell ⟨blk, o, none⟩ u) :=
  h.trans ⟨rfl, rfl, rfl, by simp [World.setCell], fun k _ hne => Below.heap_setCell _ _ _ _ hne⟩
theorem But.put {blk : Nat} {a w : World} (h : But blk a w) (o : Nat) (x : Fol) : But blk a (put5 w blk o x) :=
  ((((h.set o _).set (o + 1) _).set (o + 2) _).set (o + 3) _).set (o + 4) _
theorem But.drew {blk : Nat} {a w : World} (h : But blk a w) : But blk a w.drew := ⟨h.os, h.tape, h.output, h.size, h.block⟩

theorem FolAt.put_other {w : World} {b blk o n : Nat} {F : Nat → Fol} {x : Fol} (h : FolAt w (some ⟨b, 0, none⟩) n F) (hne : b ≠ blk) : FolAt (put5 w blk o x) (some ⟨b, 0, none⟩) n F := by
  intro i hi
  obtain ⟨b', o', e, hc⟩ := h i hi
  cases e
  exact ⟨b, 0, rfl, hc.of_block (put5_other _ _ _ _ _ hne)⟩
theorem FolAt.drew {w : World} {a : Option Addr} {n : Nat} {F : Nat → Fol} (h : FolAt w a n F) : FolAt w.drew a n F := by
  intro i hi
  obtain ⟨b, o, rfl, hc⟩ := h i hi
  exact ⟨b, o, rfl, hc.c0, hc.c1, hc.c2, hc.c3, hc.c4⟩

structure ZRankSay (r : Int) (blk n : Nat) (F : Nat → Fol) (w : World) (e : Ending) (w' : World) : Prop where
  out : e = .returned (.tuple #[]) ∧ But blk w w' ∧ ∃ F', RowF w' blk 45 n F' ∧ Ordered r n F F'

set_option maxHeartbeats 1000000 in
theorem zzRank_any (blk n : Nat) (F : Nat → Fol) (r : Int) (w : World) (hn : n ≤ 1048576) (hR : RowF w blk 45 n F) :
    Calls Try.prog 11 #[.slice (some ⟨blk, 0, none⟩) n n, .int .u64 r] w fun e w' => ZRankSay r blk n F w e w' := by
  have hmk := run_make5 46 49 _ Try.underlying46 Try.info49 n hn
  have hblk := hR.lt
  have hr := hR.fol
  go_enter Try.func11, Try.ntmps11
  go_wp2
  clear hmk
  go_loopw [5] (fun i wr => ∃ k : Nat, k ≤ n ∧ i = .int .i64 k ∧ RowF wr w.heap.size 49 n (upto F k) ∧ Below w.heap.size w wr) (fun i _ => n - (intOf i).toNat)
  case atStart => exact ⟨0, Nat.zero_le _, rfl, (rowF_made w n 49).congr (fun i _ => by simp [upto]), below_made _ _⟩
  case round =>
    obtain ⟨k, hk, rfl, hrow, hb⟩ := hrel
    by_cases hlt : k < n
    · obtain ⟨g0, g1, g2, g3, g4⟩ := (hR.of_block (hb.block _ hblk)).at5 hlt
      obtain ⟨x0, x1, x2, x3, x4⟩ := hrow.at5 hlt
      have y0 := hrow.frozen (k * 5)
      have y1 := hrow.frozen (k * 5 + 1)
      have y2 := hrow.frozen (k * 5 + 2)
      have y3 := hrow.frozen (k * 5 + 3)
      have y4 := hrow.frozen (k * 5 + 4)
      have R1 := hrow.put k (F k)
      rw [upto_step] at R1
      have R2 := below_put hb (Nat.le_refl _) (k * 5) (F k)
      clear hrow hb hr hR
      go_wp2
      go_region
      all_goals go_wp2
      all_goals
        go_roundw
        case rel => exact ⟨k + 1, by omega, by go_num, R1.drew, R2.drew⟩
        case measure => simp [intOf]; omega
    · have hkn : k = n := by omega
      subst hkn
      have hrow' : RowF wr w.heap.size 49 k F := hrow.congr fun i hi => upto_full hi
      clear hr hrow
      go_wp2_with fail
      refine (rankFollowers_any w.heap.size k F r wr hn hrow').mono ?_
      rintro e W2 ⟨rfl, hbut, F', hF', hord⟩
      have hR2 : RowF W2 blk 45 k F := (hR.of_block (hb.block _ hblk)).of_block (hbut.block _ (Nat.lt_of_lt_of_le hblk hb.size) (Nat.ne_of_lt hblk))
      have B2 : But blk w W2 := ⟨hbut.os.trans hb.os, hbut.tape.trans hb.tape, hbut.output.trans hb.output, Nat.le_trans hb.size hbut.size, fun j hj hne => (hbut.block j (Nat.lt_of_lt_of_le hj hb.size) (by omega)).trans (hb.block j hj)⟩
      clear hR hb hbut hrow'
      go_wp2
      go_loopw [6] (fun i wx => ∃ j : Nat, j ≤ k ∧ i = .int .i64 j ∧ RowF wx blk 45 k (mix F' F j) ∧ FolAt wx (some ⟨w.heap.size, 0, none⟩) k F' ∧ But blk w wx) (fun i _ => k - (intOf i).toNat)
      case atStart => exact ⟨0, Nat.zero_le _, rfl, hR2.congr (fun i _ => by simp [mix]), hF', B2⟩
      case round =>
        clear hR2 hF' B2
        obtain ⟨j, hj, rfl, hrow, hF, hB⟩ := hrel
        by_cases hlj : j < k
        · obtain ⟨b, o, ea, hc⟩ := hF j hlj
          cases ea
          obtain ⟨g0, g1, g2, g3, g4⟩ := hc
          simp only [Nat.zero_add] at g0 g1 g2 g3 g4
          obtain ⟨x0, x1, x2, x3, x4⟩ := hrow.at5 hlj
          have y0 := hrow.frozen (j * 5)
          have y1 := hrow.frozen (j * 5 + 1)
          have y2 := hrow.frozen (j * 5 + 2)
          have y3 := hrow.frozen (j * 5 + 3)
          have y4 := hrow.frozen (j * 5 + 4)
          have R1 := hrow.put j (F' j)
          rw [mix_step] at R1
          have R2 := hB.put (j * 5) (F' j)
          have R3 := hF.put_other (blk := blk) (o := j * 5) (x := F' j) (by omega)
          clear hrow hB hF
          go_wp2
          go_region
          all_goals go_wp2
          all_goals
            go_roundw
            case rel => exact ⟨j + 1, by omega, by go_num, R1.drew, R3.drew, R2.drew⟩
            case measure => simp [intOf]; omega
        · have hjn : j = k := by omega
          subst hjn
          go_wp2
          go_end0
          exact ⟨rfl, hB, F', hrow.congr (fun i hi => by simp [mix, hi]), hord⟩
end Go.Proofs.Qxb6619539a
