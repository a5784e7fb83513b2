/- What the law's last regions read; the two predicates as quiet calls. -/
import Derived.Test.Qxb6623401aWalkE
namespace Go.Proofs.Qxb6623401a
open Go.RowKit Go.Deep

theorem below_drewN {B : Nat} {w w' : World} (h : Below B w w') (q : Nat) : Below B w (w'.drewN q) := ⟨h.os, h.tape, h.output, h.size, h.block⟩

theorem placeLE_q (p q : ByteArray) (m n : Int) (v : Bool) (w : World) (hv : leP p m q n = v) : Calls Try.prog 6 #[.string p, .int .i64 m, .string q, .int .i64 n] w fun e w' => e = .returned (.bool v) ∧ w' = w :=
  (placeLE_any p q m n w).mono fun e w' h => by rw [← hv]; exact h.out

theorem inSpan_q (qb lb hb : ByteArray) (qs ls hs : Int) (v : Bool) (w : World) (hv : inP qb qs lb ls hb hs = v) : Calls Try.prog 7 #[.string qb, .int .i64 qs, .string lb, .int .i64 ls, .string hb, .int .i64 hs] w fun e w' => e = .returned (.bool v) ∧ w' = w :=
  (inSpan_any qb lb hb qs ls hs w).mono fun e w' h => by rw [← hv]; exact h.out

/-- The cells of the two spans. -/
structure Eyes (w : World) (aL al aH ah : Addr) (cx cy : Nat) (L H : Nat → ByteArray) (l h : Nat → Int) : Prop where
  x1 : w.cell? ⟨aL.block, aL.off + cx, none⟩ = some (.string (L cx))
  x2 : w.cell? ⟨al.block, al.off + cx, none⟩ = some (.int .i64 (l cx))
  x3 : w.cell? ⟨aH.block, aH.off + cx, none⟩ = some (.string (H cx))
  x4 : w.cell? ⟨ah.block, ah.off + cx, none⟩ = some (.int .i64 (h cx))
  y1 : w.cell? ⟨aL.block, aL.off + cy, none⟩ = some (.string (L cy))
  y2 : w.cell? ⟨al.block, al.off + cy, none⟩ = some (.int .i64 (l cy))
  y3 : w.cell? ⟨aH.block, aH.off + cy, none⟩ = some (.string (H cy))
  y4 : w.cell? ⟨ah.block, ah.off + cy, none⟩ = some (.int .i64 (h cy))

theorem Eyes.drewN {w : World} {aL al aH ah : Addr} {cx cy : Nat} {L H : Nat → ByteArray} {l h : Nat → Int} (e : Eyes w aL al aH ah cx cy L H l h) (q : Nat) : Eyes (w.drewN q) aL al aH ah cx cy L H l h :=
  ⟨e.x1, e.x2, e.x3, e.x4, e.y1, e.y2, e.y3, e.y4⟩

/-- What a region that only reads leaves: one Boolean. -/
structure Bo (w : World) (v : Bool) (s : Value) (wx : World) : Prop where
  out : s = .bool v ∧ ∃ nq, wx = w.drewN nq
end Go.Proofs.Qxb6623401a
