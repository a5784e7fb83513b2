/- The walks: zzMakeBounds. -/
import Derived.Test.Qxb6623401aWalkA
import Derived.BigRegion
import Derived.Deep.RegionHeld3
namespace Go.Proofs.Qxb6623401a
open Go.RowKit Go.Deep

theorem Try.info37 : (Try.prog.info? 37).map (fun i => (i.zero, i.size, i.bytes)) = some (some (.agg #[.string ⟨#[]⟩, .int .i64 0, .string ⟨#[]⟩, .int .i64 0, .bool false]), 5, 56) := by kernel_rfl
theorem run_make5 (t e : TypeId) (z : Value) (ht : Try.prog.underlying t = some (.slice e)) (hinfo : (Try.prog.info? e).map (fun i => (i.zero, i.size, i.bytes)) = some (some z, 5, 56)) (n : Nat) (hn : n ≤ 1048576) (w : World) :
    (Instr.makeSlice t (.int .i64 (n : Int)) (.int .i64 (n : Int))).run Try.prog w = .ok (.slice (some ⟨w.heap.size, 0, none⟩) n n) (w.alloc (.cells (madeCells z.cells (n * 5)) e)) := by
  obtain ⟨i, hi, hzz⟩ := Option.map_eq_some_iff.1 hinfo
  simp only [Prod.mk.injEq] at hzz
  obtain ⟨hz, hs, hb⟩ := hzz
  have hr := run_make (P := Try.prog) w t e i z ht hi hz .i64 .i64 n n (by omega) (Int.le_refl _) (by rw [hb]; omega) (by omega)
  simp only [Int.toNat_natCast, hs] at hr
  exact hr

/-- The i-th span. -/
def spanOf (L : Nat → ByteArray) (l : Nat → Int) (H : Nat → ByteArray) (h : Nat → Int) (B : Nat → Bool) (i : Nat) : Fol := (L i, l i, H i, h i, B i)

theorem FolAt.congr {w : World} {a : Option Addr} {n : Nat} {F G : Nat → Fol} (h : FolAt w a n F) (e : ∀ i, i < n → F i = G i) : FolAt w a n G := by
  intro i hi
  obtain ⟨b, o, rfl, hc⟩ := h i hi
  exact ⟨b, o, rfl, e i hi ▸ hc⟩

structure Bounds (w : World) (a0 : Option Addr) (n0 c0 n : Nat) (F : Nat → Fol) (e : Ending) (w' : World) : Prop where
  out : e = .returned (.agg #[.slice a0 n0 c0, .slice (some ⟨w.heap.size + 1, 0, none⟩) n n]) ∧ Below w.heap.size w w' ∧ FolAt w' (some ⟨w.heap.size + 1, 0, none⟩) n F

set_option maxHeartbeats 4000000 in
set_option maxRecDepth 20000 in
theorem makeBounds_any (a0 a1 a2 a3 a4 a5 : Option Addr) (n0 n c0 c1 c2 c3 c4 c5 : Nat) (L H : Nat → ByteArray) (l h : Nat → Int) (B : Nat → Bool) (w : World) (h1 : RowAt w a1 n (strs L)) (h2 : RowAt w a2 n (ints l)) (h3 : RowAt w a3 n (strs H)) (h4 : RowAt w a4 n (ints h)) (h5 : RowAt w a5 n (boos B)) (hn : n ≤ 1048576) :
    Calls Try.prog 8 #[.slice a0 n0 c0, .slice a1 n c1, .slice a2 n c2, .slice a3 n c3, .slice a4 n c4, .slice a5 n c5] w fun e w' => Bounds w a0 n0 c0 n (spanOf L l H h B) e w' := by
  have hmk := run_make5 29 37 _ Try.underlying29 Try.info37 n hn
  go_enter Try.func8, Try.ntmps8
  go_wp2
  clear hmk
  have R0 : RowF ((w.alloc (Obj.cells #[Value.slice none 0 0, Value.slice none 0 0] 31)).alloc (Obj.cells (madeCells #[.string ⟨#[]⟩, .int .i64 0, .string ⟨#[]⟩, .int .i64 0, .bool false] (n * 5)) 37)) (w.heap.size + 1) 37 n (upto (spanOf L l H h B) 0) := by
    have := rowF_made (w.alloc (Obj.cells #[Value.slice none 0 0, Value.slice none 0 0] 31)) n 37
    simp only [World.size_alloc] at this
    exact this.congr (fun i _ => by simp [upto])
  have R1 : ((w.alloc (Obj.cells #[Value.slice none 0 0, Value.slice none 0 0] 31)).alloc (Obj.cells (madeCells #[.string ⟨#[]⟩, .int .i64 0, .string ⟨#[]⟩, .int .i64 0, .bool false] (n * 5)) 37)).rowIs w.heap.size 31 2 (fun _ => .slice none 0 0) := by
    have hr : (w.alloc (Obj.cells #[Value.slice none 0 0, Value.slice none 0 0] 31)).rowIs w.heap.size 31 2 (fun _ => .slice none 0 0) := ⟨_, blk_alloc_new _ _, rfl, fun c hc => by
      match c, hc with
      | 0, _ => rfl
      | 1, _ => rfl⟩
    exact hr.of_block ((below_made _ _).block _ hr.lt)
  have R2 : Below w.heap.size w ((w.alloc (Obj.cells #[Value.slice none 0 0, Value.slice none 0 0] 31)).alloc (Obj.cells (madeCells #[.string ⟨#[]⟩, .int .i64 0, .string ⟨#[]⟩, .int .i64 0, .bool false] (n * 5)) 37)) := ((Below.refl _ _).alloc (Nat.le_refl _) _).alloc (by simp) _
  go_loopw [14] (fun s wr => ∃ i : Nat, i ≤ n ∧ s = .int .i64 i ∧ RowF wr (w.heap.size + 1) 37 n (upto (spanOf L l H h B) i) ∧ wr.rowIs w.heap.size 31 2 (fun _ => .slice none 0 0) ∧ Below w.heap.size w wr) (fun s _ => n - (intOf s).toNat)
  case atStart => exact ⟨0, Nat.zero_le _, rfl, R0, R1, R2⟩
  case round =>
    clear R0 R1 R2
    obtain ⟨i, hi, rfl, hrow, hres, hb⟩ := hrel
    by_cases hlt : i < n
    · obtain ⟨x0, x1, x2, x3, x4⟩ := hrow.at5 hlt
      have y0 := hrow.frozen (i * 5)
      have y1 := hrow.frozen (i * 5 + 1)
      have y2 := hrow.frozen (i * 5 + 2)
      have y3 := hrow.frozen (i * 5 + 3)
      have y4 := hrow.frozen (i * 5 + 4)
      have P1 := hrow.put i (spanOf L l H h B i)
      rw [upto_step] at P1
      have P2 := hres.of_block (put5_other wr (w.heap.size + 1) (i * 5) (spanOf L l H h B i) w.heap.size (by omega))
      have P3 := below_put hb (show w.heap.size ≤ w.heap.size + 1 by omega) (i * 5) (spanOf L l H h B i)
      obtain ⟨b1, o1, e1, k1⟩ := h1 i hlt
      obtain ⟨b2, o2, e2, k2⟩ := h2 i hlt
      obtain ⟨b3, o3, e3, k3⟩ := h3 i hlt
      obtain ⟨b4, o4, e4, k4⟩ := h4 i hlt
      obtain ⟨b5, o5, e5, k5⟩ := h5 i hlt
      have l1 : b1 ≠ w.heap.size + 1 := by have := World.block_lt_of_cell? _ _ k1; simp only at this; omega
      have l2 : b2 ≠ w.heap.size + 1 := by have := World.block_lt_of_cell? _ _ k2; simp only at this; omega
      have l3 : b3 ≠ w.heap.size + 1 := by have := World.block_lt_of_cell? _ _ k3; simp only at this; omega
      have l4 : b4 ≠ w.heap.size + 1 := by have := World.block_lt_of_cell? _ _ k4; simp only at this; omega
      have l5 : b5 ≠ w.heap.size + 1 := by have := World.block_lt_of_cell? _ _ k5; simp only at this; omega
      have m1 := (hb.cell (p := ⟨b1, o1 + i, none⟩) (World.block_lt_of_cell? _ _ k1)).trans k1
      have m2 := (hb.cell (p := ⟨b2, o2 + i, none⟩) (World.block_lt_of_cell? _ _ k2)).trans k2
      have m3 := (hb.cell (p := ⟨b3, o3 + i, none⟩) (World.block_lt_of_cell? _ _ k3)).trans k3
      have m4 := (hb.cell (p := ⟨b4, o4 + i, none⟩) (World.block_lt_of_cell? _ _ k4)).trans k4
      have m5 := (hb.cell (p := ⟨b5, o5 + i, none⟩) (World.block_lt_of_cell? _ _ k5)).trans k5
      simp only [strs, ints, boos] at m1 m2 m3 m4 m5
      subst e1 e2 e3 e4 e5
      clear h1 h2 h3 h4 h5 k1 k2 k3 k4 k5 hrow hres hb
      go_wp2
      go_region_held3 (fun w' => w'.cell? ⟨b1, o1 + i, none⟩ = some (.string (L i)) ∧ w'.cell? ⟨b2, o2 + i, none⟩ = some (.int .i64 (l i)) ∧ w'.cell? ⟨b3, o3 + i, none⟩ = some (.string (H i)) ∧ w'.cell? ⟨b4, o4 + i, none⟩ = some (.int .i64 (h i)) ∧ w'.cell? ⟨b5, o5 + i, none⟩ = some (.bool (B i))) (simp [go_sem, *]) (fail)
      rename_i hHeld
      clear hHeld
      go_wp2
      go_roundw
      case rel => exact ⟨i + 1, by omega, by go_num, P1.drew, P2.drew, P3.drew⟩
      case measure => simp [intOf]; omega
    · have e1 : i = n := by omega
      subst e1
      have z0 := hres.cell (i := 0) (by omega)
      have z1 := hres.cell (i := 1) (by omega)
      have y0 := hres.frozen 0
      have y1 := hres.frozen 1
      clear h1 h2 h3 h4 h5
      have P1 : RowF ((wr.setCell ⟨w.heap.size, 0, none⟩ (.slice a0 n0 c0)).setCell ⟨w.heap.size, 1, none⟩ (.slice (some ⟨w.heap.size + 1, 0, none⟩) i i)) (w.heap.size + 1) 37 i (upto (spanOf L l H h B) i) :=
        (hrow.of_block (blk_setCell_other _ _ _ _ (by simp))).of_block (blk_setCell_other _ _ _ _ (by simp))
      have P2 : Below w.heap.size w ((wr.setCell ⟨w.heap.size, 0, none⟩ (.slice a0 n0 c0)).setCell ⟨w.heap.size, 1, none⟩ (.slice (some ⟨w.heap.size + 1, 0, none⟩) i i)) := (hb.setCell (Nat.le_refl _) _).setCell (Nat.le_refl _) _
      clear hrow hb hres
      go_wp2
      refine bodyPost_ret (v := .agg #[.slice a0 n0 c0, .slice (some ⟨w.heap.size + 1, 0, none⟩) i i]) (by simp [results, Try.f8, go_sem, *]) rfl ?_
      exact ⟨rfl, P2, P1.fol.congr (fun j hj => upto_full hj)⟩
end Go.Proofs.Qxb6623401a
