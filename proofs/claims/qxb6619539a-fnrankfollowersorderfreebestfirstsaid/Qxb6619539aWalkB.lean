/- The walks: cmp.Compare, the two closures of rankFollowers. -/
import Derived.Test.Qxb6619539aWalkA
import Derived.Deep.RegionWith
import Derived.Deep.RegionHeld3
import Derived.Sort.Grow
namespace Go.Proofs.Qxb6619539a
open Go.RowKit Go.Deep

def cmpI (x y : Int) : Int := if x < y then -1 else if y < x then 1 else 0
theorem cmpI_bd (x y : Int) : -1 ≤ cmpI x y ∧ cmpI x y ≤ 1 := by unfold cmpI; split <;> (try split) <;> omega

structure CmpSay (x y : Int) (w : World) (e : Ending) (w' : World) : Prop where
  out : e = .returned (.int .i64 (cmpI x y)) ∧ w' = w

set_option maxHeartbeats 400000 in
theorem compare23 (x y : Int) (w : World) : Calls Try.prog 23 #[.int .u64 x, .int .u64 y] w fun e w' => CmpSay x y w e w' := by
  by_cases h1 : x < y
  · have e : cmpI x y = -1 := by simp [cmpI, h1]
    go_enter Try.func23, Try.ntmps23
    go_wp2
    go_ret
    exact ⟨by rw [e]; rfl, rfl⟩
  · by_cases h2 : y < x
    · have e : cmpI x y = 1 := by simp [cmpI, h1, h2]
      go_enter Try.func23, Try.ntmps23
      go_wp2
      go_ret
      exact ⟨by rw [e]; rfl, rfl⟩
    · have e : cmpI x y = 0 := by simp [cmpI, h1, h2]
      go_enter Try.func23, Try.ntmps23
      go_wp2
      go_ret
      exact ⟨by rw [e]; rfl, rfl⟩
set_option maxHeartbeats 400000 in
theorem compare27 (x y : Int) (w : World) : Calls Try.prog 27 #[.int .i64 x, .int .i64 y] w fun e w' => CmpSay x y w e w' := by
  by_cases h1 : x < y
  · have e : cmpI x y = -1 := by simp [cmpI, h1]
    go_enter Try.func27, Try.ntmps27
    go_wp2
    go_ret
    exact ⟨by rw [e]; rfl, rfl⟩
  · by_cases h2 : y < x
    · have e : cmpI x y = 1 := by simp [cmpI, h1, h2]
      go_enter Try.func27, Try.ntmps27
      go_wp2
      go_ret
      exact ⟨by rw [e]; rfl, rfl⟩
    · have e : cmpI x y = 0 := by simp [cmpI, h1, h2]
      go_enter Try.func27, Try.ntmps27
      go_wp2
      go_ret
      exact ⟨by rw [e]; rfl, rfl⟩
set_option maxHeartbeats 400000 in
theorem compare28 (x y : Int) (w : World) : Calls Try.prog 28 #[.int .i64 x, .int .i64 y] w fun e w' => CmpSay x y w e w' := by
  by_cases h1 : x < y
  · have e : cmpI x y = -1 := by simp [cmpI, h1]
    go_enter Try.func28, Try.ntmps28
    go_wp2
    go_ret
    exact ⟨by rw [e]; rfl, rfl⟩
  · by_cases h2 : y < x
    · have e : cmpI x y = 1 := by simp [cmpI, h1, h2]
      go_enter Try.func28, Try.ntmps28
      go_wp2
      go_ret
      exact ⟨by rw [e]; rfl, rfl⟩
    · have e : cmpI x y = 0 := by simp [cmpI, h1, h2]
      go_enter Try.func28, Try.ntmps28
      go_wp2
      go_ret
      exact ⟨by rw [e]; rfl, rfl⟩

/-- 'answered+1 >= round', the sum as Go reckons it. -/
def pa (r : Int) (x : Fol) : Bool := decide (r ≤ (x.2.2.2.1 + 1) % 18446744073709551616)

theorem closure24 (x : Fol) (r : Int) (rb : Nat) (w : World) (hr : w.cell? ⟨rb, 0, none⟩ = some (.int .u64 r)) :
    Calls Try.prog 24 #[.agg #[.int .i64 x.1, .int .u64 x.2.1, .int .u64 x.2.2.1, .int .u64 x.2.2.2.1, .int .i64 x.2.2.2.2], .pointer (some ⟨rb, 0, none⟩)] w fun e w' =>
      e = .returned (.bool (pa r x)) ∧ w' = w.alloc (.cells #[.int .i64 x.1, .int .u64 x.2.1, .int .u64 x.2.2.1, .int .u64 x.2.2.2.1, .int .i64 x.2.2.2.2] 49) := by
  have hlt := World.block_lt_of_cell? _ _ hr
  go_enter Try.func24, Try.ntmps24
  go_wp2
  go_ret
  exact ⟨rfl, rfl⟩

/-- What the comparison says. -/
def cf (r : Int) (x y : Fol) : Int :=
  if cmpI x.2.1 y.2.1 = 0 then
    if pa r x = pa r y then if cmpI x.2.2.2.2 y.2.2.2.2 = 0 then -(cmpI x.1 y.1) else -(cmpI x.2.2.2.2 y.2.2.2.2)
    else if pa r x then -1 else 1
  else -(cmpI x.2.1 y.2.1)

structure CloseSay (r : Int) (x y : Fol) (w : World) (e : Ending) (w' : World) : Prop where
  out : e = .returned (.int .i64 (cf r x y)) ∧ ∃ q os, w' = Go.Sort.grow (w.drewN q) os

set_option maxHeartbeats 1000000 in
theorem closure26 (x y : Fol) (r : Int) (fb rb : Nat) (w : World) (hf : w.cell? ⟨fb, 0, none⟩ = some (.func (.func 24) #[] #[.pointer (some ⟨rb, 0, none⟩)])) (hr : w.cell? ⟨rb, 0, none⟩ = some (.int .u64 r)) :
    Calls Try.prog 26 #[.agg #[.int .i64 x.1, .int .u64 x.2.1, .int .u64 x.2.2.1, .int .u64 x.2.2.2.1, .int .i64 x.2.2.2.2], .agg #[.int .i64 y.1, .int .u64 y.2.1, .int .u64 y.2.2.1, .int .u64 y.2.2.2.1, .int .i64 y.2.2.2.2], .pointer (some ⟨fb, 0, none⟩)] w fun e w' =>
      CloseSay r x y w e w' := by
  have hlf := World.block_lt_of_cell? _ _ hf
  have hlr := World.block_lt_of_cell? _ _ hr
  simp only at hlf hlr
  have lf1 : fb < w.heap.size + 1 := by omega
  have lf2 : fb < w.heap.size + 2 := by omega
  have lf3 : fb < w.heap.size + 3 := by omega
  have lr1 : rb < w.heap.size + 1 := by omega
  have lr2 : rb < w.heap.size + 2 := by omega
  have lr3 : rb < w.heap.size + 3 := by omega
  have b1 := cmpI_bd x.2.1 y.2.1
  by_cases h1 : cmpI x.2.1 y.2.1 = 0
  · have h1' : (cmpI x.2.1 y.2.1 == 0) = true := by simp [h1]
    go_enter Try.func26, Try.ntmps26
    go_wp2_with (go_at_call 23; refine (compare23 _ _ _).mono ?_; rintro e w1 ⟨rfl, rfl⟩)
    go_region_held3 (fun w' => w'.cell? ⟨fb, 0, none⟩ = some (.func (.func 24) #[] #[.pointer (some ⟨rb, 0, none⟩)]) ∧ w'.cell? ⟨rb, 0, none⟩ = some (.int .u64 r) ∧ w'.cell? ⟨w.heap.size, 0, none⟩ = some (.int .i64 x.1) ∧ w'.cell? ⟨w.heap.size, 1, none⟩ = some (.int .u64 x.2.1) ∧ w'.cell? ⟨w.heap.size, 2, none⟩ = some (.int .u64 x.2.2.1) ∧ w'.cell? ⟨w.heap.size, 3, none⟩ = some (.int .u64 x.2.2.2.1) ∧ w'.cell? ⟨w.heap.size, 4, none⟩ = some (.int .i64 x.2.2.2.2) ∧ w'.cell? ⟨w.heap.size + 1, 0, none⟩ = some (.int .i64 y.1) ∧ w'.cell? ⟨w.heap.size + 1, 1, none⟩ = some (.int .u64 y.2.1) ∧ w'.cell? ⟨w.heap.size + 1, 2, none⟩ = some (.int .u64 y.2.2.1) ∧ w'.cell? ⟨w.heap.size + 1, 3, none⟩ = some (.int .u64 y.2.2.2.1) ∧ w'.cell? ⟨w.heap.size + 1, 4, none⟩ = some (.int .i64 y.2.2.2.2)) (simp [go_sem, World.cell?_alloc_past, *])
      (first | (go_at_call_of 24 (x.1); refine (closure24 x r rb _ (by go_simp)).mono ?_; rintro e w1 ⟨rfl, rfl⟩) | (go_at_call_of 24 (y.1); refine (closure24 y r rb _ (by go_simp)).mono ?_; rintro e w1 ⟨rfl, rfl⟩))
    have HE : Hid (∀ A B C D : Obj, ((((w.alloc A).alloc B).alloc C).alloc D).drew = Go.Sort.grow (w.drewN 1) #[A, B, C, D]) := fun A B C D => by
      simp only [Go.Sort.alloc_eq_grow, Go.Sort.grow_grow]; rfl
    have b2 := cmpI_bd x.2.2.2.2 y.2.2.2.2
    have b3 := cmpI_bd x.1 y.1
    clear hf hr hlf hlr lf1 lf2 lf3 lr1 lr2 lr3 b1
    cases hx : pa r x with
    | true =>
      cases hy : pa r y with
      | true =>
        by_cases h2 : cmpI x.2.2.2.2 y.2.2.2.2 = 0
        · have h2' : (cmpI x.2.2.2.2 y.2.2.2.2 == 0) = true := by simp [h2]
          go_wp2_with (first | (go_at_call 27; refine (compare27 _ _ _).mono ?_; rintro e w1 ⟨rfl, rfl⟩) | (go_at_call 28; refine (compare28 _ _ _).mono ?_; rintro e w1 ⟨rfl, rfl⟩))
          go_ret
          exact ⟨by simp [cf, h1, hx, hy, h2], 1, _, HE.out _ _ _ _⟩
        · have h2' : (cmpI x.2.2.2.2 y.2.2.2.2 == 0) = false := by simp [h2]
          go_wp2_with (first | (go_at_call 27; refine (compare27 _ _ _).mono ?_; rintro e w1 ⟨rfl, rfl⟩) | (go_at_call 28; refine (compare28 _ _ _).mono ?_; rintro e w1 ⟨rfl, rfl⟩))
          go_ret
          exact ⟨by simp [cf, h1, hx, hy, h2], 1, _, HE.out _ _ _ _⟩
      | false =>
        go_wp2
        go_ret
        exact ⟨by simp [cf, h1, hx, hy], 1, _, HE.out _ _ _ _⟩
    | false =>
      cases hy : pa r y with
      | true =>
        go_wp2
        go_ret
        exact ⟨by simp [cf, h1, hx, hy], 1, _, HE.out _ _ _ _⟩
      | false =>
        by_cases h2 : cmpI x.2.2.2.2 y.2.2.2.2 = 0
        · have h2' : (cmpI x.2.2.2.2 y.2.2.2.2 == 0) = true := by simp [h2]
          go_wp2_with (first | (go_at_call 27; refine (compare27 _ _ _).mono ?_; rintro e w1 ⟨rfl, rfl⟩) | (go_at_call 28; refine (compare28 _ _ _).mono ?_; rintro e w1 ⟨rfl, rfl⟩))
          go_ret
          exact ⟨by simp [cf, h1, hx, hy, h2], 1, _, HE.out _ _ _ _⟩
        · have h2' : (cmpI x.2.2.2.2 y.2.2.2.2 == 0) = false := by simp [h2]
          go_wp2_with (first | (go_at_call 27; refine (compare27 _ _ _).mono ?_; rintro e w1 ⟨rfl, rfl⟩) | (go_at_call 28; refine (compare28 _ _ _).mono ?_; rintro e w1 ⟨rfl, rfl⟩))
          go_ret
          exact ⟨by simp [cf, h1, hx, hy, h2], 1, _, HE.out _ _ _ _⟩
  · have h1' : (cmpI x.2.1 y.2.1 == 0) = false := by simp [h1]
    go_enter Try.func26, Try.ntmps26
    go_wp2_with (go_at_call 23; refine (compare23 _ _ _).mono ?_; rintro e w1 ⟨rfl, rfl⟩)
    go_ret
    refine ⟨?_, 0, _, by rw [Go.Sort.alloc_eq_grow, Go.Sort.alloc_eq_grow, Go.Sort.grow_grow]; rfl⟩
    simp [cf, h1]
end Go.Proofs.Qxb6619539a
