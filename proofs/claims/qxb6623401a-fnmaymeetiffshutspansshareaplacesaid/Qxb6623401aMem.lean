/- Memory words: rows of one-cell elements; rows of spans (structs of five cells). -/
import Derived.Test.Qxb6623401aRows
import Derived.WalkKit
import Derived.WalkSpells
import Derived.WalkLawsBesides
import Derived.Deep.OwnRows
import Derived.Laws.CopyOwn
namespace Go.Proofs.Qxb6623401a
open Go.RowKit Go.Deep

/-- A span: low base, low steps, high base, high steps, bounded. -/
abbrev Fol := ByteArray × Int × ByteArray × Int × Bool

/-- The five cells from (b, o) on hold x. -/
structure At5 (w : World) (b o : Nat) (x : Fol) : Prop where
  c0 : w.cell? ⟨b, o, none⟩ = some (.string x.1)
  c1 : w.cell? ⟨b, o + 1, none⟩ = some (.int .i64 x.2.1)
  c2 : w.cell? ⟨b, o + 2, none⟩ = some (.string x.2.2.1)
  c3 : w.cell? ⟨b, o + 3, none⟩ = some (.int .i64 x.2.2.2.1)
  c4 : w.cell? ⟨b, o + 4, none⟩ = some (.bool x.2.2.2.2)

/-- A slice's n followers. -/
def FolAt (w : World) (a : Option Addr) (n : Nat) (F : Nat → Fol) : Prop :=
  ∀ i, i < n → ∃ b o, a = some ⟨b, o, none⟩ ∧ At5 w b (o + i * 5) (F i)

theorem At5.lt {w : World} {b o : Nat} {x : Fol} (h : At5 w b o x) : b < w.heap.size := World.block_lt_of_cell? _ _ h.c0

theorem At5.of_block {w w' : World} {b o : Nat} {x : Fol} (h : At5 w b o x) (e : w'.heap[b]? = w.heap[b]?) : At5 w' b o x :=
  ⟨(World.cell?_of_block (w := w) e).trans h.c0, (World.cell?_of_block (w := w) e).trans h.c1, (World.cell?_of_block (w := w) e).trans h.c2, (World.cell?_of_block (w := w) e).trans h.c3, (World.cell?_of_block (w := w) e).trans h.c4⟩

theorem FolAt.below {w w' : World} {a : Option Addr} {n : Nat} {F : Nat → Fol} (h : FolAt w a n F) (hb : Below w.heap.size w w') : FolAt w' a n F := by
  intro i hi
  obtain ⟨b, o, rfl, hc⟩ := h i hi
  exact ⟨b, o, rfl, hc.of_block (hb.block b hc.lt)⟩

/-! ### A row of followers in a block of the call's own -/
def fld (x : Fol) : Nat → Value
  | 0 => .string x.1
  | 1 => .int .i64 x.2.1
  | 2 => .string x.2.2.1
  | 3 => .int .i64 x.2.2.2.1
  | _ => .bool x.2.2.2.2

/-- Block b is a row of n followers, the i-th of them G i. -/
def RowF (w : World) (b : Nat) (t : TypeId) (n : Nat) (G : Nat → Fol) : Prop := w.rowIs b t (n * 5) (fun c => fld (G (c / 5)) (c % 5))

def upd (G : Nat → Fol) (k : Nat) (x : Fol) : Nat → Fol := fun i => if i = k then x else G i

/-- The five stores of one follower. -/
def put5 (w : World) (b o : Nat) (x : Fol) : World :=
  ((((w.setCell ⟨b, o, none⟩ (.string x.1)).setCell ⟨b, o + 1, none⟩ (.int .i64 x.2.1)).setCell ⟨b, o + 2, none⟩ (.string x.2.2.1)).setCell ⟨b, o + 3, none⟩ (.int .i64 x.2.2.2.1)).setCell ⟨b, o + 4, none⟩ (.bool x.2.2.2.2)

section
variable {w : World} {b n : Nat} {t : TypeId} {G : Nat → Fol}

theorem RowF.put (h : RowF w b t n G) (k : Nat) (x : Fol) : RowF (put5 w b (k * 5) x) b t n (upd G k x) := by
  unfold RowF put5 at *
  refine (((((h.set (k * 5) _).set (k * 5 + 1) _).set (k * 5 + 2) _).set (k * 5 + 3) _).set (k * 5 + 4) _).congr fun c _ => ?_
  by_cases e : c / 5 = k
  · have hu : upd G k x (c / 5) = x := by simp [upd, e]
    rw [hu]
    have hm : c % 5 < 5 := Nat.mod_lt _ (by omega)
    have hc : c = k * 5 + c % 5 := by omega
    generalize c % 5 = j at hm hc
    subst hc
    match j, hm with
    | 0, _ => simp [fld]
    | 1, _ => simp [fld]
    | 2, _ => simp [fld]
    | 3, _ => simp [fld]
    | 4, _ => simp [fld]
  · have hu : upd G k x (c / 5) = G (c / 5) := by simp [upd, e]
    rw [hu, if_neg (by omega), if_neg (by omega), if_neg (by omega), if_neg (by omega), if_neg (by omega)]

theorem RowF.at5 (h : RowF w b t n G) {i : Nat} (hi : i < n) : At5 w b (i * 5) (G i) := by
  have key : ∀ j, j < 5 → w.cell? ⟨b, i * 5 + j, none⟩ = some (fld (G i) j) := fun j hj => by
    have := World.rowIs.cell h (i := i * 5 + j) (by omega)
    simp only [show (i * 5 + j) / 5 = i by omega, show (i * 5 + j) % 5 = j by omega] at this
    exact this
  exact ⟨key 0 (by omega), key 1 (by omega), key 2 (by omega), key 3 (by omega), key 4 (by omega)⟩

theorem RowF.frozen (h : RowF w b t n G) (o : Nat) : w.frozen? ⟨b, o, none⟩ = false := World.rowIs.frozen h o
theorem RowF.lt (h : RowF w b t n G) : b < w.heap.size := World.rowIs.lt h
theorem RowF.of_block {w' : World} (h : RowF w b t n G) (e : w'.heap[b]? = w.heap[b]?) : RowF w' b t n G := World.rowIs.of_block h e
theorem RowF.congr {G' : Nat → Fol} (h : RowF w b t n G) (e : ∀ i, i < n → G i = G' i) : RowF w b t n G' :=
  World.rowIs.congr h fun c hc => by rw [e (c / 5) (by omega)]
theorem RowF.drew (h : RowF w b t n G) : RowF w.drew b t n G := World.rowIs.drew h
theorem RowF.fol (h : RowF w b t n G) : FolAt w (some ⟨b, 0, none⟩) n G := fun i hi => ⟨b, 0, rfl, by simpa using h.at5 hi⟩

theorem rowF_made (w : World) (n : Nat) (t : TypeId) : RowF (w.alloc (.cells (madeCells #[.string ⟨#[]⟩, .int .i64 0, .string ⟨#[]⟩, .int .i64 0, .bool false] (n * 5)) t)) w.heap.size t n (fun _ => (⟨#[]⟩, 0, ⟨#[]⟩, 0, false)) := by
  refine ⟨_, blk_alloc_new _ _, size_madeCells _ _, fun c hc => ?_⟩
  have hm : c % 5 < 5 := Nat.mod_lt _ (by omega)
  have : (madeCells #[.string ⟨#[]⟩, .int .i64 0, .string ⟨#[]⟩, .int .i64 0, .bool false] (n * 5))[c]? = some (#[Value.string ⟨#[]⟩, .int .i64 0, .string ⟨#[]⟩, .int .i64 0, .bool false][c % 5]!) := by
    simp [madeCells, hc]
  rw [this]
  show some _ = some (fld (⟨#[]⟩, 0, ⟨#[]⟩, 0, false) (c % 5))
  generalize c % 5 = j at hm
  match j, hm with
  | 0, _ => rfl
  | 1, _ => rfl
  | 2, _ => rfl
  | 3, _ => rfl
  | 4, _ => rfl

theorem below_put {B : Nat} {a : World} (h : Below B a w) (hb : B ≤ b) (o : Nat) (x : Fol) : Below B a (put5 w b o x) :=
  ((((h.setCell hb _).setCell hb _).setCell hb _).setCell hb _).setCell hb _

theorem put5_other (w : World) (b o : Nat) (x : Fol) (k : Nat) (h : k ≠ b) : (put5 w b o x).heap[k]? = w.heap[k]? := by
  unfold put5
  rw [blk_setCell_other _ _ _ _ h, blk_setCell_other _ _ _ _ h, blk_setCell_other _ _ _ _ h, blk_setCell_other _ _ _ _ h, blk_setCell_other _ _ _ _ h]
end

/-- The first k are laid. -/
def upto (F : Nat → Fol) (k : Nat) : Nat → Fol := fun i => if i < k then F i else (⟨#[]⟩, 0, ⟨#[]⟩, 0, false)
theorem upto_step (F : Nat → Fol) (k : Nat) : upd (upto F k) k (F k) = upto F (k + 1) := by
  funext i
  unfold upd upto
  by_cases e : i = k
  · subst e; simp
  · rw [if_neg e]
    by_cases hlt : i < k
    · rw [if_pos hlt, if_pos (by omega)]
    · rw [if_neg hlt, if_neg (by omega)]
theorem upto_full {F : Nat → Fol} {n i : Nat} (h : i < n) : upto F n i = F i := by simp [upto, h]

theorem below_made (w : World) (o : Obj) : Below w.heap.size w (w.alloc o) := (Below.refl _ _).alloc (Nat.le_refl _) _

/-! ### Rows of one-cell elements -/
/-- A slice's n elements, each one cell: element i holds 'f i'. (An empty slice: nothing is said of its address.) -/
def RowAt (w : World) (a : Option Addr) (n : Nat) (f : Nat → Value) : Prop :=
  ∀ i, i < n → ∃ b o, a = some ⟨b, o, none⟩ ∧ w.cell? ⟨b, o + i, none⟩ = some (f i)

theorem RowAt.below {w w' : World} {a : Option Addr} {n : Nat} {f : Nat → Value} (h : RowAt w a n f) (hb : Below w.heap.size w w') : RowAt w' a n f := by
  intro i hi
  obtain ⟨b, o, rfl, hc⟩ := h i hi
  refine ⟨b, o, rfl, ?_⟩
  rw [hb.cell (p := ⟨b, o + i, none⟩) (World.block_lt_of_cell? _ _ hc)]
  exact hc

def strs (S : Nat → ByteArray) : Nat → Value := fun i => .string (S i)
def ints (S : Nat → Int) : Nat → Value := fun i => .int .i64 (S i)
def boos (S : Nat → Bool) : Nat → Value := fun i => .bool (S i)

theorem RowAt.nil {w : World} {n : Nat} {f : Nat → Value} (h : RowAt w none n f) : n = 0 := by
  cases n with
  | zero => rfl
  | succ n => obtain ⟨b, o, e, _⟩ := h 0 (by omega); cases e

/-- The row behind a copy. -/
theorem row_copied {w : World} {g t n : Nat} {f : Nat → Value} {cur : List Value} (hc : cur.length = n) (h : w.heap[g]? = some (.cells (splice cur 0 ((List.range n).map f)).toArray t (0, 0))) : RowAt w (some ⟨g, 0, none⟩) n f := by
  intro i hi
  refine ⟨g, 0, rfl, ?_⟩
  have e : splice cur 0 ((List.range n).map f) = (List.range n).map f := by simp [splice, hc]
  rw [e] at h
  have hr : w.rowIs g t n f := ⟨_, h, by simp, fun c hc => by simp [hc]⟩
  simpa using hr.cell hi
end Go.Proofs.Qxb6623401a
