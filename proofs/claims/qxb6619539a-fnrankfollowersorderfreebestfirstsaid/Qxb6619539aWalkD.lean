/- The walks: answeredPrevious, ranksBefore; two followers held against each other. -/
import Derived.Test.Qxb6619539aWalkC
namespace Go.Proofs.Qxb6619539a
open Go.RowKit Go.Deep

def pa2 (r : Int) (x : Fol) : Bool := decide (r ≤ 1) || decide (r - 1 ≤ x.2.2.2.1)

structure PrevSay (r : Int) (x : Fol) (w : World) (e : Ending) (w' : World) : Prop where
  out : e = .returned (.bool (pa2 r x)) ∧ w' = w

theorem answeredPrevious_any (r : Int) (x : Fol) (w : World) (h0 : 0 ≤ r) (h1 : r < 18446744073709551616) : Calls Try.prog 21 #[.int .u64 x.2.2.2.1, .int .u64 r] w fun e w' => PrevSay r x w e w' := by
  by_cases h : r ≤ 1
  · go_enter Try.func21, Try.ntmps21
    go_wp2
    go_ret
    exact ⟨by simp [pa2, h], rfl⟩
  · go_enter Try.func21, Try.ntmps21
    go_wp2
    go_ret
    refine ⟨?_, rfl⟩
    simp [pa2]
    omega

theorem eql_fol (x y : Fol) (w : World) : (binOp .eql 33 (.agg #[.int .i64 x.1, .int .u64 x.2.1, .int .u64 x.2.2.1, .int .u64 x.2.2.2.1, .int .i64 x.2.2.2.2]) (.agg #[.int .i64 y.1, .int .u64 y.2.1, .int .u64 y.2.2.1, .int .u64 y.2.2.2.1, .int .i64 y.2.2.2.2])).run Try.prog w = .ok (.bool (decide (x = y))) w := by
  obtain ⟨x0, x1, x2, x3, x4⟩ := x
  obtain ⟨y0, y1, y2, y3, y4⟩ := y
  simp only [go_sem, Try.underlying33]
  by_cases e0 : x0 = y0 <;> by_cases e1 : x1 = y1 <;> by_cases e2 : x2 = y2 <;> by_cases e3 : x3 = y3 <;> by_cases e4 : x4 = y4 <;> simp [go_sem, e0, e1, e2, e3, e4]

theorem neq_fol (x y : Fol) (w : World) : (binOp .neq 33 (.agg #[.int .i64 x.1, .int .u64 x.2.1, .int .u64 x.2.2.1, .int .u64 x.2.2.2.1, .int .i64 x.2.2.2.2]) (.agg #[.int .i64 y.1, .int .u64 y.2.1, .int .u64 y.2.2.1, .int .u64 y.2.2.2.1, .int .i64 y.2.2.2.2])).run Try.prog w = .ok (.bool (!decide (x = y))) w := by
  obtain ⟨x0, x1, x2, x3, x4⟩ := x
  obtain ⟨y0, y1, y2, y3, y4⟩ := y
  simp only [go_sem, Try.underlying33]
  by_cases e0 : x0 = y0 <;> by_cases e1 : x1 = y1 <;> by_cases e2 : x2 = y2 <;> by_cases e3 : x3 = y3 <;> by_cases e4 : x4 = y4 <;> simp [go_sem, e0, e1, e2, e3, e4]

/-- A follower whose 'answered' has a round behind it. -/
def Valid (x : Fol) : Prop := 0 ≤ x.2.2.2.1 ∧ x.2.2.2.1 < 18446744073709551615

theorem pa_eq {r : Int} {x : Fol} (h : Valid x) : pa2 r x = pa r x := by
  obtain ⟨h1, h2⟩ := h
  unfold pa2 pa
  rw [Bool.eq_iff_iff]
  simp only [Bool.or_eq_true, decide_eq_true_eq]
  omega

structure RankBefore (r : Int) (x y : Fol) (w : World) (e : Ending) (w' : World) : Prop where
  out : e = .returned (.bool (ltF r x y)) ∧ ∃ A B : Obj, w' = (w.alloc A).alloc B

theorem ltF_mi {r : Int} {x y : Fol} (h : ¬ x.2.1 = y.2.1) : ltF r x y = decide (y.2.1 < x.2.1) := by
  rw [Bool.eq_iff_iff, ltF_iff, decide_eq_true_eq]
  simp [h]
theorem ltF_pa {r : Int} {x y : Fol} (h : x.2.1 = y.2.1) (h2 : ¬ pa r x = pa r y) : ltF r x y = pa r x := by
  rw [Bool.eq_iff_iff, ltF_iff]
  cases hx : pa r x <;> cases hy : pa r y <;> simp [hx, hy] at h2 ⊢ <;> omega
theorem ltF_re {r : Int} {x y : Fol} (h : x.2.1 = y.2.1) (h2 : pa r x = pa r y) (h3 : ¬ x.2.2.2.2 = y.2.2.2.2) : ltF r x y = decide (y.2.2.2.2 < x.2.2.2.2) := by
  rw [Bool.eq_iff_iff, ltF_iff, decide_eq_true_eq]
  rw [h2]
  cases hy : pa r y <;> simp [h, h3]
theorem ltF_id {r : Int} {x y : Fol} (h : x.2.1 = y.2.1) (h2 : pa r x = pa r y) (h3 : x.2.2.2.2 = y.2.2.2.2) : ltF r x y = decide (y.1 < x.1) := by
  rw [Bool.eq_iff_iff, ltF_iff, decide_eq_true_eq]
  rw [h2]
  cases hy : pa r y <;> simp [h, h3]

set_option maxHeartbeats 1000000 in
theorem ranksBefore_any (r : Int) (x y : Fol) (w : World) (h0 : 0 ≤ r) (h1 : r < 18446744073709551616) (hx : Valid x) (hy : Valid y) :
    Calls Try.prog 13 #[.agg #[.int .i64 x.1, .int .u64 x.2.1, .int .u64 x.2.2.1, .int .u64 x.2.2.2.1, .int .i64 x.2.2.2.2], .agg #[.int .i64 y.1, .int .u64 y.2.1, .int .u64 y.2.2.1, .int .u64 y.2.2.2.1, .int .i64 y.2.2.2.2], .int .u64 r] w fun e w' =>
      RankBefore r x y w e w' := by
  have HX : Hid (pa2 r x = pa r x) := pa_eq hx
  have HY : Hid (pa2 r y = pa r y) := pa_eq hy
  clear hx hy
  by_cases e1 : x.2.1 = y.2.1
  · have E1 : Hid (x.2.1 = y.2.1) := e1
    have e1' : (x.2.1 == y.2.1) = true := by simp [e1]
    clear e1
    cases hpx : pa2 r x with
    | true =>
      cases hpy : pa2 r y with
      | true =>
        have hp : pa r x = pa r y := by rw [← HX.out, ← HY.out, hpx, hpy]
        have HP : Hid (pa r x = pa r y) := hp
        clear hp
        by_cases e2 : x.2.2.2.2 = y.2.2.2.2
        · have E2 : Hid (x.2.2.2.2 = y.2.2.2.2) := e2
          have e2' : (x.2.2.2.2 == y.2.2.2.2) = true := by simp [e2]
          clear e2
          go_enter Try.func13, Try.ntmps13
          go_wp2_with (first | (go_at_call_of 21 (x.2.2.2.1); refine (answeredPrevious_any r x _ h0 h1).mono ?_; rintro e w1 ⟨rfl, rfl⟩) | (go_at_call_of 21 (y.2.2.2.1); refine (answeredPrevious_any r y _ h0 h1).mono ?_; rintro e w1 ⟨rfl, rfl⟩))
          go_ret
          exact ⟨by rw [ltF_id E1.out HP.out E2.out]; rfl, _, _, rfl⟩
        · have e2' : (x.2.2.2.2 == y.2.2.2.2) = false := by simp [e2]
          go_enter Try.func13, Try.ntmps13
          go_wp2_with (first | (go_at_call_of 21 (x.2.2.2.1); refine (answeredPrevious_any r x _ h0 h1).mono ?_; rintro e w1 ⟨rfl, rfl⟩) | (go_at_call_of 21 (y.2.2.2.1); refine (answeredPrevious_any r y _ h0 h1).mono ?_; rintro e w1 ⟨rfl, rfl⟩))
          go_ret
          exact ⟨by rw [ltF_re E1.out HP.out e2]; rfl, _, _, rfl⟩
      | false =>
        have hp : ¬ pa r x = pa r y := by rw [← HX.out, ← HY.out, hpx, hpy]; decide
        have HP : Hid (¬ pa r x = pa r y) := hp
        clear hp
        go_enter Try.func13, Try.ntmps13
        go_wp2_with (first | (go_at_call_of 21 (x.2.2.2.1); refine (answeredPrevious_any r x _ h0 h1).mono ?_; rintro e w1 ⟨rfl, rfl⟩) | (go_at_call_of 21 (y.2.2.2.1); refine (answeredPrevious_any r y _ h0 h1).mono ?_; rintro e w1 ⟨rfl, rfl⟩))
        go_ret
        exact ⟨by rw [ltF_pa E1.out HP.out, ← HX.out, hpx]; rfl, _, _, rfl⟩
    | false =>
      cases hpy : pa2 r y with
      | true =>
        have hp : ¬ pa r x = pa r y := by rw [← HX.out, ← HY.out, hpx, hpy]; decide
        have HP : Hid (¬ pa r x = pa r y) := hp
        clear hp
        go_enter Try.func13, Try.ntmps13
        go_wp2_with (first | (go_at_call_of 21 (x.2.2.2.1); refine (answeredPrevious_any r x _ h0 h1).mono ?_; rintro e w1 ⟨rfl, rfl⟩) | (go_at_call_of 21 (y.2.2.2.1); refine (answeredPrevious_any r y _ h0 h1).mono ?_; rintro e w1 ⟨rfl, rfl⟩))
        go_ret
        exact ⟨by rw [ltF_pa E1.out HP.out, ← HX.out, hpx]; rfl, _, _, rfl⟩
      | false =>
        have hp : pa r x = pa r y := by rw [← HX.out, ← HY.out, hpx, hpy]
        have HP : Hid (pa r x = pa r y) := hp
        clear hp
        by_cases e2 : x.2.2.2.2 = y.2.2.2.2
        · have E2 : Hid (x.2.2.2.2 = y.2.2.2.2) := e2
          have e2' : (x.2.2.2.2 == y.2.2.2.2) = true := by simp [e2]
          clear e2
          go_enter Try.func13, Try.ntmps13
          go_wp2_with (first | (go_at_call_of 21 (x.2.2.2.1); refine (answeredPrevious_any r x _ h0 h1).mono ?_; rintro e w1 ⟨rfl, rfl⟩) | (go_at_call_of 21 (y.2.2.2.1); refine (answeredPrevious_any r y _ h0 h1).mono ?_; rintro e w1 ⟨rfl, rfl⟩))
          go_ret
          exact ⟨by rw [ltF_id E1.out HP.out E2.out]; rfl, _, _, rfl⟩
        · have e2' : (x.2.2.2.2 == y.2.2.2.2) = false := by simp [e2]
          go_enter Try.func13, Try.ntmps13
          go_wp2_with (first | (go_at_call_of 21 (x.2.2.2.1); refine (answeredPrevious_any r x _ h0 h1).mono ?_; rintro e w1 ⟨rfl, rfl⟩) | (go_at_call_of 21 (y.2.2.2.1); refine (answeredPrevious_any r y _ h0 h1).mono ?_; rintro e w1 ⟨rfl, rfl⟩))
          go_ret
          exact ⟨by rw [ltF_re E1.out HP.out e2]; rfl, _, _, rfl⟩
  · have e1' : (x.2.1 == y.2.1) = false := by simp [e1]
    go_enter Try.func13, Try.ntmps13
    go_wp2
    go_ret
    exact ⟨by rw [ltF_mi e1]; rfl, _, _, rfl⟩
end Go.Proofs.Qxb6619539a
