/- The walks: headerNames, ZZheaderNames. -/
import Derived.Test.Qxb6623437aMem
namespace Go.Proofs.Qxb6623437a
open Go.RowKit Go.Deep

theorem Try.info9 : (Try.prog.info? 9).map (fun i => (i.zero, i.size, i.bytes)) = some (some (.string ⟨#[]⟩), 1, 16) := by kernel_rfl

/-- The first i names are laid. -/
def laid (R : List (List ByteArray)) (i : Nat) : Nat → Value := fun k => .string (if k < i then jn (R.getD k []) comma else ⟨#[]⟩)

theorem laid_step {w : World} {b t n i : Nat} {R : List (List ByteArray)} {r : List ByteArray} (h : w.rowIs b t n (laid R i)) (hr : R[i]? = some r) : (w.setCell ⟨b, i, none⟩ (.string (jn r comma))).rowIs b t n (laid R (i + 1)) := by
  refine (h.set i _).congr fun k _ => ?_
  unfold laid
  by_cases e : k = i
  · subst e
    simp [hr]
  · by_cases hl : k < i
    · simp [e, hl, show k < i + 1 by omega]
    · simp [e, hl, show ¬ k < i + 1 by omega]

/-- The bounds under which Join is told. -/
structure Fits (R : List (List ByteArray)) : Prop where
  n : R.length ≤ 1048576
  row : ∀ r, r ∈ R → r.length ≤ 1048576 ∧ (jn r comma).size ≤ 140737488355328
  all : (names R).size ≤ 140737488355328

set_option maxHeartbeats 4000000 in
theorem headerNames_any (a : Option Addr) (c : Nat) (R : List (List ByteArray)) (w : World) (hR : RowsAt w a R) (hf : Fits R) :
    Calls Try.prog 9 #[.slice a R.length c] w fun e w' => Joined (names R) w e w' := by
  have hn := hf.n
  have hmk := run_make_row' (P := Try.prog) 24 9 (.string ⟨#[]⟩) 16 Try.underlying24 Try.info9 rfl .i64 .i64 R.length (by omega) (by omega)
  go_enter Try.func9, Try.ntmps9
  go_wp2
  clear hmk
  go_loopw [11] (fun s wr => ∃ i : Nat, i ≤ R.length ∧ s = .int .i64 i ∧ wr.rowIs w.heap.size 9 R.length (laid R i) ∧ Below w.heap.size w wr) (fun s _ => R.length - (intOf s).toNat)
  case atStart => exact ⟨0, Nat.zero_le _, rfl, (World.rowIs_made w (.string ⟨#[]⟩) R.length 9).congr (fun k _ => by simp [laid]), (Below.refl _ _).alloc (Nat.le_refl _) _⟩
  case round =>
    obtain ⟨i, hi, rfl, hrow, hb⟩ := hrel
    by_cases hlt : i < R.length
    · have hr : R[i]? = some R[i] := List.getElem?_eq_getElem hlt
      have hm := hf.row R[i] (List.getElem_mem hlt)
      obtain ⟨b, o, a', c', ea, hc, hcap, hs⟩ := hR i R[i] hr
      have hc2 := (hb.cell (p := ⟨b, o + i, none⟩) (World.block_lt_of_cell? _ _ hc)).trans hc
      have HS : Hid (StrAt wr a' R[i]) := hs.below hb
      clear hs hc hR hf
      subst ea
      generalize R[i] = r at *
      go_wp2_with fail
      refine (join_n a' r.length c' r comma wr rfl HS.out (by omega) hcap hm.2).mono ?_
      rintro e w1 ⟨rfl, be⟩
      have hrow1 := hrow.of_block (be.block _ hrow.lt)
      have x0 := hrow1.cell hlt
      have y0 := hrow1.frozen i
      have R1 := laid_step hrow1 hr
      have R2 : Below w.heap.size w (w1.setCell ⟨w.heap.size, i, none⟩ (.string (jn r comma))) := (hb.trans (be.mono hb.size)).setCell (Nat.le_refl _) _
      clear hrow hrow1 hb be hr HS hm hc2
      go_wp2
      go_roundw
      case rel => exact ⟨i + 1, by omega, by go_num, R1, R2⟩
      case measure => simp [intOf]; omega
    · have e1 : i = R.length := by omega
      have hs : StrAt wr (some ⟨w.heap.size, 0, none⟩) (R.map (jn · comma)) := fun j x hj => by
        rw [List.getElem?_map] at hj
        obtain ⟨r, hr, rfl⟩ := Option.map_eq_some_iff.1 hj
        have hjl : j < R.length := by
          by_cases h : j < R.length
          · exact h
          · rw [List.getElem?_eq_none (by omega)] at hr; cases hr
        refine ⟨_, _, rfl, ?_⟩
        have := hrow.cell hjl
        simp only [laid, e1, hjl, if_true] at this
        rw [Nat.zero_add, this]
        simp [hr]
      have HS : Hid (StrAt wr (some ⟨w.heap.size, 0, none⟩) (R.map (jn · comma))) := hs
      have HF := hf.all
      clear hs hrow hR hf e1
      go_wp2_with fail
      refine (join_n (some ⟨w.heap.size, 0, none⟩) R.length R.length (R.map (jn · comma)) orS wr (by simp) HS.out (by omega) (Nat.le_refl _) HF).mono ?_
      rintro e w1 ⟨rfl, be⟩
      go_wp2
      go_ret
      exact ⟨rfl, hb.trans (be.mono hb.size)⟩

theorem zzHeaderNames_any (a : Option Addr) (c : Nat) (R : List (List ByteArray)) (w : World) (hR : RowsAt w a R) (hf : Fits R) :
    Calls Try.prog 6 #[.slice a R.length c] w fun e w' => Joined (names R) w e w' := by
  have HR : Hid (RowsAt w a R) := hR
  clear hR
  go_enter Try.func6, Try.ntmps6
  go_wp2_with fail
  refine (headerNames_any a c R w HR.out hf).mono ?_
  rintro e w1 ⟨rfl, be⟩
  go_wp2
  go_ret
  exact ⟨rfl, be⟩
end Go.Proofs.Qxb6623437a
