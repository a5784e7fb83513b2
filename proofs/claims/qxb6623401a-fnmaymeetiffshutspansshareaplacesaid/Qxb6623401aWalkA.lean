/- The walks: placeLE, inBoundedSpan, shut. -/
import Derived.Test.Qxb6623401aMem
import Derived.WalkSmall
namespace Go.Proofs.Qxb6623401a
open Go.RowKit Go.Deep

/-- One place at or before another: by base (bytes), then by steps. -/
def leP (p : ByteArray) (m : Int) (q : ByteArray) (n : Int) : Bool := if p.toList == q.toList then decide (m ≤ n) else Op.bytesLess p.toList q.toList

structure Ret (v : Bool) (w : World) (e : Ending) (w' : World) : Prop where
  out : e = .returned (.bool v) ∧ w' = w

theorem placeLE_any (p q : ByteArray) (m n : Int) (w : World) : Calls Try.prog 6 #[.string p, .int .i64 m, .string q, .int .i64 n] w fun e w' => Ret (leP p m q n) w e w' := by
  cases h : (p.toList == q.toList) with
  | true =>
    have e1 : leP p m q n = decide (m ≤ n) := by simp only [leP, h]; rfl
    rw [e1]
    go_enter Try.func6, Try.ntmps6
    go_wp2
    go_ret
    exact ⟨rfl, rfl⟩
  | false =>
    have e1 : leP p m q n = Op.bytesLess p.toList q.toList := by simp only [leP, h]; rfl
    rw [e1]
    go_enter Try.func6, Try.ntmps6
    go_wp2
    go_ret
    exact ⟨rfl, rfl⟩

def inP (qb : ByteArray) (qs : Int) (lb : ByteArray) (ls : Int) (hb : ByteArray) (hs : Int) : Bool := leP lb ls qb qs && leP qb qs hb hs

theorem inSpan_any (qb lb hb : ByteArray) (qs ls hs : Int) (w : World) : Calls Try.prog 7 #[.string qb, .int .i64 qs, .string lb, .int .i64 ls, .string hb, .int .i64 hs] w fun e w' => Ret (inP qb qs lb ls hb hs) w e w' := by
  unfold inP
  cases h1 : leP lb ls qb qs with
  | false =>
    go_enter Try.func7, Try.ntmps7
    go_wp2_with fail
    refine (placeLE_any lb qb ls qs w).mono ?_
    rintro e w1 ⟨rfl, rfl⟩
    rw [h1]
    go_wp2
    go_ret
    exact ⟨rfl, rfl⟩
  | true =>
    go_enter Try.func7, Try.ntmps7
    go_wp2_with fail
    refine (placeLE_any lb qb ls qs w).mono ?_
    rintro e w1 ⟨rfl, rfl⟩
    rw [h1]
    go_wp2_with fail
    refine (placeLE_any qb hb qs hs _).mono ?_
    rintro e w1 ⟨rfl, rfl⟩
    go_wp2
    go_ret
    exact ⟨rfl, rfl⟩

/-- A span's value. -/
abbrev spv (x : Fol) : Value := .agg #[.string x.1, .int .i64 x.2.1, .string x.2.2.1, .int .i64 x.2.2.2.1, .bool x.2.2.2.2]
def shutF (x : Fol) : Bool := x.2.2.2.2 && (x.1.toList == x.2.2.1.toList)

structure RetB (v : Bool) (w : World) (e : Ending) (w' : World) : Prop where
  out : e = .returned (.bool v) ∧ ∃ A : Obj, w' = w.alloc A

theorem shut_any (x : Fol) (w : World) : Calls Try.prog 10 #[spv x] w fun e w' => RetB (shutF x) w e w' := by
  obtain ⟨lb, ls, hb, hs, bd⟩ := x
  unfold shutF
  cases bd with
  | false =>
    go_enter Try.func10, Try.ntmps10
    go_wp2
    go_ret
    exact ⟨rfl, _, rfl⟩
  | true =>
    go_enter Try.func10, Try.ntmps10
    go_wp2
    go_ret
    exact ⟨by simp, _, rfl⟩
end Go.Proofs.Qxb6623401a
