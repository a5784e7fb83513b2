/- Memory words for the walks over 'place': rows that are read, rows of the call's own. -/
import Derived.Test.Qxb6619458aRows
import Derived.WalkKit
import Derived.WalkSpells
import Derived.WalkLawsBesides
import Derived.Deep.OwnRows
namespace Go.Proofs.Qxb6619458a
open Go.RowKit Go.Deep

theorem Try.cells3 : Try.prog.cellsOf 3 = 1 := by kernel_rfl
theorem Try.cells4 : Try.prog.cellsOf 4 = 1 := by kernel_rfl
theorem Try.cells23 : Try.prog.cellsOf 23 = 1 := by kernel_rfl
theorem Try.info3 : (Try.prog.info? 3).map (fun i => (i.zero, i.size, i.bytes)) = some (some (.int .i64 0), 1, 8) := by kernel_rfl
theorem Try.info4 : (Try.prog.info? 4).map (fun i => (i.zero, i.size, i.bytes)) = some (some (.bool false), 1, 1) := by kernel_rfl
theorem Try.info23 : (Try.prog.info? 23).map (fun i => (i.zero, i.size, i.bytes)) = some (some (.slice none 0 0), 1, 24) := by kernel_rfl
theorem Try.info40 : (Try.prog.info? 40).map (fun i => (i.zero, i.size, i.bytes)) = some (some (.pointer none), 1, 8) := by kernel_rfl

/-- A slice's n elements, each one cell: element i holds 'f i'. (An empty slice: nothing is said of its address.) -/
def RowAt (w : World) (a : Option Addr) (n : Nat) (f : Nat → Value) : Prop :=
  ∀ i, i < n → ∃ b o, a = some ⟨b, o, none⟩ ∧ w.cell? ⟨b, o + i, none⟩ = some (f i)

theorem RowAt.below {w w' : World} {a : Option Addr} {n : Nat} {f : Nat → Value} (h : RowAt w a n f) (hb : Below w.heap.size w w') : RowAt w' a n f := by
  intro i hi
  obtain ⟨b, o, rfl, hc⟩ := h i hi
  refine ⟨b, o, rfl, ?_⟩
  rw [hb.cell (p := ⟨b, o + i, none⟩) (World.block_lt_of_cell? _ _ hc)]
  exact hc

theorem RowAt.congr {w : World} {a : Option Addr} {n : Nat} {f g : Nat → Value} (h : RowAt w a n f) (e : ∀ i, i < n → f i = g i) : RowAt w a n g := by
  intro i hi
  obtain ⟨b, o, rfl, hc⟩ := h i hi
  exact ⟨b, o, rfl, by rw [hc, e i hi]⟩

/-- A row in a block of the call's own, from block B on. -/
def OwnAt (B : Nat) (w : World) (a : Option Addr) (t : TypeId) (n : Nat) (f : Nat → Value) : Prop :=
  0 < n → ∃ b, B ≤ b ∧ a = some ⟨b, 0, none⟩ ∧ w.rowIs b t n f

theorem OwnAt.row {B : Nat} {w : World} {a : Option Addr} {t : TypeId} {n : Nat} {f : Nat → Value} (h : OwnAt B w a t n f) : RowAt w a n f := by
  intro i hi
  obtain ⟨b, _, rfl, hr⟩ := h (by omega)
  exact ⟨b, 0, rfl, by simpa using hr.cell hi⟩

/-- The same row in a later world, all blocks that were there being as they were. -/
theorem OwnAt.below {B : Nat} {w w' : World} {a : Option Addr} {t : TypeId} {n : Nat} {f : Nat → Value} (h : OwnAt B w a t n f) (hb : Below w.heap.size w w') : OwnAt B w' a t n f := by
  intro hn
  obtain ⟨b, h1, h2, hr⟩ := h hn
  exact ⟨b, h1, h2, hr.of_block (hb.block b hr.lt)⟩

/-- A slice of slices of which only the lengths are told. -/
def LensAt (w : World) (a : Option Addr) (n : Nat) (U : Nat → Nat) : Prop :=
  ∀ i, i < n → ∃ b o a' c', a = some ⟨b, o, none⟩ ∧ w.cell? ⟨b, o + i, none⟩ = some (.slice a' (U i) c')

theorem LensAt.below {w w' : World} {a : Option Addr} {n : Nat} {U : Nat → Nat} (h : LensAt w a n U) (hb : Below w.heap.size w w') : LensAt w' a n U := by
  intro i hi
  obtain ⟨b, o, a', c', rfl, hc⟩ := h i hi
  refine ⟨b, o, a', c', rfl, ?_⟩
  rw [hb.cell (p := ⟨b, o + i, none⟩) (World.block_lt_of_cell? _ _ hc)]
  exact hc

/-- A slice of slices of numbers. -/
def IntssAt (w : World) (a : Option Addr) (n : Nat) (U : Nat → Nat) : Prop :=
  ∀ i, i < n → ∃ b o a' c', a = some ⟨b, o, none⟩ ∧ w.cell? ⟨b, o + i, none⟩ = some (.slice a' (U i) c') ∧ (a' = none → U i = 0 ∧ c' = 0) ∧ ∃ z : Nat → Int, RowAt w a' (U i) (fun j => .int .i64 (z j))

theorem IntssAt.below {w w' : World} {a : Option Addr} {n : Nat} {U : Nat → Nat} (h : IntssAt w a n U) (hb : Below w.heap.size w w') : IntssAt w' a n U := by
  intro i hi
  obtain ⟨b, o, a', c', rfl, hc, hn, z, hz⟩ := h i hi
  refine ⟨b, o, a', c', rfl, ?_, hn, z, hz.below hb⟩
  rw [hb.cell (p := ⟨b, o + i, none⟩) (World.block_lt_of_cell? _ _ hc)]
  exact hc

theorem IntssAt.lens {w : World} {a : Option Addr} {n : Nat} {U : Nat → Nat} (h : IntssAt w a n U) : LensAt w a n U := by
  intro i hi
  obtain ⟨b, o, a', c', rfl, hc, _, _⟩ := h i hi
  exact ⟨b, o, a', c', rfl, hc⟩

/-- A row that make has just laid. -/
theorem below_made (w : World) (o : Obj) : Below w.heap.size w (w.alloc o) := (Below.refl _ _).alloc (Nat.le_refl _) _

end Go.Proofs.Qxb6619458a
