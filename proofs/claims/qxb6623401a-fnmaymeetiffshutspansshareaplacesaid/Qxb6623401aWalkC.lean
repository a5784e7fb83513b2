/- The walks: mayMeet. -/
import Derived.Test.Qxb6623401aWalkA
import Derived.BigRegion
import Derived.Deep.RegionHeld3
namespace Go.Proofs.Qxb6623401a
open Go.RowKit Go.Deep

/-- What mayMeet answers. -/
def meet (p q : Fol) : Bool := shutF p && shutF q && (p.1.toList == q.1.toList) && decide (max p.2.1 q.2.1 ≤ min p.2.2.2.1 q.2.2.2.1)

structure Met (v : Bool) (w : World) (e : Ending) (w' : World) : Prop where
  out : e = .returned (.bool v) ∧ Below w.heap.size w w'

theorem below4 (w : World) (X Y Z A : Obj) : Below w.heap.size w ((((w.alloc X).alloc Y).alloc Z).alloc A).drew :=
  (((((Below.refl _ _).alloc (Nat.le_refl _) _).alloc (by simp) _).alloc (by simp; omega) _).alloc (by simp; omega) _).drew
theorem below5 (w : World) (X Y Z A B : Obj) : Below w.heap.size w (((((w.alloc X).alloc Y).alloc Z).alloc A).alloc B).drew :=
  ((((((Below.refl _ _).alloc (Nat.le_refl _) _).alloc (by simp) _).alloc (by simp; omega) _).alloc (by simp; omega) _).alloc (by simp; omega) _).drew

theorem meet_no1 {p q : Fol} (h : shutF p = false) : meet p q = false := by simp [meet, h]
theorem meet_no2 {p q : Fol} (h : shutF q = false) : meet p q = false := by simp [meet, h]
theorem meet_no3 {p q : Fol} (h : (p.1.toList == q.1.toList) = false) : meet p q = false := by simp only [meet, h]; simp
theorem meet_yes {p q : Fol} (h1 : shutF p = true) (h2 : shutF q = true) (h3 : (p.1.toList == q.1.toList) = true) : meet p q = decide (max p.2.1 q.2.1 ≤ min p.2.2.2.1 q.2.2.2.1) := by simp only [meet, h1, h2, h3]; simp

set_option maxHeartbeats 4000000 in
set_option maxRecDepth 20000 in
theorem mayMeet_any (a s : Option Addr) (m n c d : Nat) (C : Nat → Int) (G : Nat → Fol) (x y cx cy : Nat) (w : World) (hC : RowAt w a m (ints C)) (hG : FolAt w s n G) (hx : x < m) (hy : y < m) (ex : C x = cx) (ey : C y = cy) (kx : cx < n) (ky : cy < n) :
    Calls Try.prog 9 #[.agg #[.slice a m c, .slice s n d], .int .i64 x, .int .i64 y] w fun e w' => Met (meet (G cx) (G cy)) w e w' := by
  obtain ⟨b, o, ea, c1⟩ := hC x hx
  cases ea
  obtain ⟨b, o, ea, c2⟩ := hC y hy
  cases ea
  obtain ⟨b2, o2, ea, d1⟩ := hG cx kx
  cases ea
  obtain ⟨b2, o2, ea, d2⟩ := hG cy ky
  cases ea
  simp only [ints, ex, ey] at c1 c2
  obtain ⟨g0, g1, g2, g3, g4⟩ := d1
  obtain ⟨k0, k1, k2, k3, k4⟩ := d2
  have lb := World.block_lt_of_cell? _ _ c1
  have lg := World.block_lt_of_cell? _ _ g0
  clear hC hG ex ey
  generalize G cx = p at *
  generalize G cy = q at *
  go_enter Try.func9, Try.ntmps9
  go_wp2
  have lb1 : b < w.heap.size + 1 := by omega
  have lb2 : b < w.heap.size + 2 := by omega
  have lb3 : b < w.heap.size + 3 := by omega
  have lg1 : b2 < w.heap.size + 1 := by omega
  have lg2 : b2 < w.heap.size + 2 := by omega
  have lg3 : b2 < w.heap.size + 3 := by omega
  have e1 : b ≠ w.heap.size := by omega
  have e2 : b ≠ w.heap.size + 1 := by omega
  have e3 : b ≠ w.heap.size + 2 := by omega
  have f1 : b2 ≠ w.heap.size := by omega
  have f2 : b2 ≠ w.heap.size + 1 := by omega
  have f3 : b2 ≠ w.heap.size + 2 := by omega
  go_region_held3 (fun w' => w'.cell? ⟨w.heap.size, 0, none⟩ = some (.slice (some ⟨b, o, none⟩) m c) ∧ w'.cell? ⟨w.heap.size, 1, none⟩ = some (.slice (some ⟨b2, o2, none⟩) n d) ∧ w'.cell? ⟨b, o + x, none⟩ = some (.int .i64 cx) ∧ w'.cell? ⟨b, o + y, none⟩ = some (.int .i64 cy) ∧ w'.cell? ⟨b2, o2 + cx * 5, none⟩ = some (.string p.1) ∧ w'.cell? ⟨b2, o2 + cx * 5 + 1, none⟩ = some (.int .i64 p.2.1) ∧ w'.cell? ⟨b2, o2 + cx * 5 + 2, none⟩ = some (.string p.2.2.1) ∧ w'.cell? ⟨b2, o2 + cx * 5 + 3, none⟩ = some (.int .i64 p.2.2.2.1) ∧ w'.cell? ⟨b2, o2 + cx * 5 + 4, none⟩ = some (.bool p.2.2.2.2) ∧ w'.cell? ⟨b2, o2 + cy * 5, none⟩ = some (.string q.1) ∧ w'.cell? ⟨b2, o2 + cy * 5 + 1, none⟩ = some (.int .i64 q.2.1) ∧ w'.cell? ⟨b2, o2 + cy * 5 + 2, none⟩ = some (.string q.2.2.1) ∧ w'.cell? ⟨b2, o2 + cy * 5 + 3, none⟩ = some (.int .i64 q.2.2.2.1) ∧ w'.cell? ⟨b2, o2 + cy * 5 + 4, none⟩ = some (.bool q.2.2.2.2)) (simp [go_sem, World.cell?_alloc_past, *]) (fail)
  all_goals
    rename_i hHeld
    clear hHeld
    clear lb1 lb2 lb3 lg1 lg2 lg3 e1 e2 e3 f1 f2 f3 c1 c2 g0 g1 g2 g3 g4 k0 k1 k2 k3 k4
    cases hp : shutF p with
    | false =>
      go_wp2_with fail
      refine (shut_any p _).mono ?_
      rintro e w1 ⟨rfl, A, rfl⟩
      rw [hp]
      go_wp2
      go_ret
      exact ⟨by rw [meet_no1 hp]; rfl, below4 _ _ _ _ _⟩
    | true =>
      cases hq : shutF q with
      | false =>
        go_wp2_with fail
        refine (shut_any p _).mono ?_
        rintro e w1 ⟨rfl, A, rfl⟩
        rw [hp]
        go_wp2_with fail
        refine (shut_any q _).mono ?_
        rintro e w1 ⟨rfl, A', rfl⟩
        rw [hq]
        go_wp2
        go_ret
        exact ⟨by rw [meet_no2 hq]; rfl, below5 _ _ _ _ _ _⟩
      | true =>
        cases hb : (p.1.toList == q.1.toList) with
        | false =>
          go_wp2_with fail
          refine (shut_any p _).mono ?_
          rintro e w1 ⟨rfl, A, rfl⟩
          rw [hp]
          go_wp2_with fail
          refine (shut_any q _).mono ?_
          rintro e w1 ⟨rfl, A', rfl⟩
          rw [hq]
          go_wp2
          go_ret
          exact ⟨by rw [meet_no3 hb]; rfl, below5 _ _ _ _ _ _⟩
        | true =>
          go_wp2_with fail
          refine (shut_any p _).mono ?_
          rintro e w1 ⟨rfl, A, rfl⟩
          rw [hp]
          go_wp2_with fail
          refine (shut_any q _).mono ?_
          rintro e w1 ⟨rfl, A', rfl⟩
          rw [hq]
          go_wp2
          all_goals
            go_ret
            exact ⟨by rw [meet_yes hp hq hb]; exact congrArg (fun v => Ending.returned (.bool v)) (by rw [decide_eq_decide]; omega), below5 _ _ _ _ _ _⟩
end Go.Proofs.Qxb6623401a
