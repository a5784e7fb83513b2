/- The plain law of 'place': no Go in sight. -/
import Derived.Test.Qxb6619458aRows
import Derived.WalkKit
namespace Go.Proofs.Qxb6619458a
open Go.RowKit

/-- The state that 'place' turns: the open counts, each group's last record (-1: none), which records clash. -/
structure St where
  op : Nat → Int
  la : Nat → Int
  cl : Nat → Bool

/-- One visit of record ri to group g. -/
def step (U : Nat → Nat) (ri : Nat) (s : St) (g : Nat) : St where
  op := fun x => if x = g then wrap64 (s.op g + 1) else s.op x
  la := fun x => if x = g then (ri : Int) else s.la x
  cl := fun k => s.cl k || (decide (0 < s.op g) && decide (k = ri)) || (decide (0 ≤ s.la g) && decide ((k : Int) = s.la g) && decide (0 < U k))

def run (U : Nat → Nat) (ri : Nat) (t : Nat → Nat) (s : St) : Nat → St
  | 0 => s
  | k + 1 => step U ri (run U ri t s k) (t k)

/-- How often group g stands among the first k. -/
def cnt (t : Nat → Nat) (g : Nat) : Nat → Nat
  | 0 => 0
  | k + 1 => cnt t g k + if t k = g then 1 else 0

theorem cnt_le (t : Nat → Nat) (g k : Nat) : cnt t g k ≤ k := by
  induction k with
  | zero => simp [cnt]
  | succ k ih => simp only [cnt]; split <;> omega

theorem cnt_pos {t : Nat → Nat} {g k : Nat} (h : 0 < cnt t g k) : ∃ i, i < k ∧ t i = g := by
  induction k with
  | zero => simp [cnt] at h
  | succ k ih =>
    simp only [cnt] at h
    by_cases e : t k = g
    · exact ⟨k, by omega, e⟩
    · rw [if_neg e] at h
      obtain ⟨i, hi, h'⟩ := ih (by omega)
      exact ⟨i, by omega, h'⟩

def InRange (x : Int) : Prop := -9223372036854775808 ≤ x ∧ x ≤ 9223372036854775807

theorem wrap64_in {x : Int} (h : InRange x) : wrap64 x = x := by
  obtain ⟨h1, h2⟩ := h
  unfold wrap64
  omega

theorem wrap64_wrap64 (x y : Int) : wrap64 (wrap64 x + y) = wrap64 (x + y) := by
  unfold wrap64
  omega

theorem run_op (U : Nat → Nat) (ri : Nat) (t : Nat → Nat) (s : St) (g : Nat) (h : InRange (s.op g)) (k : Nat) : (run U ri t s k).op g = wrap64 (s.op g + cnt t g k) := by
  induction k with
  | zero => simp [run, cnt, wrap64_in h]
  | succ k ih =>
    simp only [run, step, cnt]
    by_cases e : t k = g
    · subst e
      rw [if_pos rfl, if_pos rfl, ih, wrap64_wrap64]
      congr 1
      omega
    · rw [if_neg (fun h => e h.symm), if_neg e, ih]
      simp

theorem run_la (U : Nat → Nat) (ri : Nat) (t : Nat → Nat) (s : St) (g : Nat) (k : Nat) : (run U ri t s k).la g = if 0 < cnt t g k then (ri : Int) else s.la g := by
  induction k with
  | zero => simp [run, cnt]
  | succ k ih =>
    by_cases e : t k = g
    · subst e
      simp [run, step, cnt]
    · have e' : ¬ g = t k := fun h => e h.symm
      simp [run, step, cnt, e, e', ih]

/-- Record j is marked on account of group g, which was visited c times (c at least 1). -/
def Hit (U : Nat → Nat) (ri : Nat) (s : St) (g c j : Nat) : Prop :=
  (0 ≤ s.la g ∧ (j : Int) = s.la g ∧ 0 < U j) ∨ (j = ri ∧ (0 < s.op g ∨ 0 < s.op g + ((c : Int) - 1) ∨ (2 ≤ c ∧ 0 < U ri)))

theorem pos_iff {x : Int} (h : InRange x) (c : Nat) (hc : c ≤ 1048576) : (0 < x ∨ 0 < wrap64 (x + c)) ↔ (0 < x ∨ 0 < x + c) := by
  by_cases hx : 0 < x
  · simp [hx]
  · have : wrap64 (x + c) = x + c := wrap64_in ⟨by have := h.1; omega, by omega⟩
    rw [this]

theorem run_cl (U : Nat → Nat) (ri : Nat) (t : Nat → Nat) (s : St) (h : ∀ i, InRange (s.op (t i))) (j : Nat) (k : Nat) (hk : k ≤ 1048576) :
    (run U ri t s k).cl j = true ↔ s.cl j = true ∨ ∃ g, 0 < cnt t g k ∧ Hit U ri s g (cnt t g k) j := by
  induction k with
  | zero => simp [run, cnt]
  | succ k ih =>
    have ih := ih (by omega)
    have hop := run_op U ri t s (t k) (h k) k
    have hla := run_la U ri t s (t k) k
    have hcl := cnt_le t (t k) k
    have hpos := pos_iff (h k) (cnt t (t k) k) (by omega)
    simp only [run, step, Bool.or_eq_true, Bool.and_eq_true, decide_eq_true_eq]
    rw [ih, hop, hla]
    have hc1 : cnt t (t k) (k + 1) = cnt t (t k) k + 1 := by simp [cnt]
    have hcne : ∀ g, g ≠ t k → cnt t g (k + 1) = cnt t g k := fun g hg => by simp only [cnt]; rw [if_neg (fun h => hg h.symm)]; rfl
    constructor
    · rintro (((hs | ⟨g, hg, hh⟩) | hA) | hB)
      · exact .inl hs
      · refine .inr ⟨g, ?_⟩
        by_cases e : g = t k
        · subst e
          rw [hc1]
          refine ⟨by omega, ?_⟩
          rcases hh with hh | ⟨e2, hh | hh | hh⟩
          · exact .inl hh
          · exact .inr ⟨e2, .inl hh⟩
          · exact .inr ⟨e2, .inr (.inl (by omega))⟩
          · exact .inr ⟨e2, .inr (.inr ⟨by omega, hh.2⟩)⟩
        · rw [hcne g e]
          exact ⟨hg, hh⟩
      · refine .inr ⟨t k, by omega, .inr ⟨hA.2, ?_⟩⟩
        rw [hc1]
        rcases hpos.1 (.inr hA.1) with h1 | h1
        · exact .inl h1
        · exact .inr (.inl (by omega))
      · refine .inr ⟨t k, by omega, ?_⟩
        rw [hc1]
        obtain ⟨⟨hB1, hB2⟩, hB3⟩ := hB
        by_cases hc : 0 < cnt t (t k) k
        · rw [if_pos hc] at hB2
          have : j = ri := by omega
          subst this
          exact .inr ⟨rfl, .inr (.inr ⟨by omega, hB3⟩)⟩
        · rw [if_neg hc] at hB1 hB2
          exact .inl ⟨hB1, hB2, hB3⟩
    · rintro (hs | ⟨g, hg, hh⟩)
      · exact .inl (.inl (.inl hs))
      · by_cases e : g = t k
        · subst e
          rw [hc1] at hh
          by_cases hc : 0 < cnt t (t k) k
          · rw [if_pos hc]
            rcases hh with hh | ⟨e2, hh | hh | hh⟩
            · exact .inl (.inl (.inr ⟨_, hc, .inl hh⟩))
            · exact .inl (.inl (.inr ⟨_, hc, .inr ⟨e2, .inl hh⟩⟩))
            · rcases hpos.2 (.inr (by omega)) with h1 | h1
              · exact .inl (.inl (.inr ⟨_, hc, .inr ⟨e2, .inl h1⟩⟩))
              · exact .inl (.inr ⟨h1, e2⟩)
            · subst e2
              exact .inr ⟨⟨by omega, rfl⟩, hh.2⟩
          · rw [if_neg hc]
            have hc0 : cnt t (t k) k = 0 := by omega
            rcases hh with hh | ⟨e2, hh | hh | hh⟩
            · exact .inr ⟨⟨hh.1, hh.2.1⟩, hh.2.2⟩
            · refine .inl (.inr ⟨?_, e2⟩)
              rw [hc0]
              simpa [wrap64_in (h k)] using hh
            · refine .inl (.inr ⟨?_, e2⟩)
              rw [hc0] at hh ⊢
              simpa [wrap64_in (h k)] using hh
            · omega
        · rw [hcne g e] at hg hh
          exact .inl (.inl (.inr ⟨g, hg, hh⟩))

/-- What placeWantClashes does at group g. -/
def wstep (U : Nat → Nat) (ri : Nat) (op la : Nat → Int) (c : Nat → Nat) (v : Nat → Bool) (g : Nat) : Nat → Bool := fun j =>
  v j || (decide (0 < c g) && ((decide (0 ≤ la g) && decide ((j : Int) = la g) && decide (0 < U j)) || (decide (j = ri) && (decide (0 < op g) || decide (0 < wrap64 (op g + ((c g : Int) - 1))))) || (decide (j = ri) && decide (2 ≤ c g) && decide (0 < U ri))))

def wrun (U : Nat → Nat) (ri : Nat) (op la : Nat → Int) (c : Nat → Nat) (v : Nat → Bool) : Nat → Nat → Bool
  | 0 => v
  | k + 1 => wstep U ri op la c (wrun U ri op la c v k) k

theorem wrun_cl (U : Nat → Nat) (ri : Nat) (s : St) (c : Nat → Nat) (n : Nat) (h : ∀ g, g < n → InRange (s.op g)) (hc : ∀ g, g < n → c g ≤ 1048576) (j k : Nat) (hk : k ≤ n) :
    wrun U ri s.op s.la c s.cl k j = true ↔ s.cl j = true ∨ ∃ g, g < k ∧ 0 < c g ∧ Hit U ri s g (c g) j := by
  induction k with
  | zero => simp [wrun]
  | succ k ih =>
    have ih := ih (by omega)
    simp only [wrun, wstep, Bool.or_eq_true, Bool.and_eq_true, decide_eq_true_eq]
    rw [ih]
    have key : 0 < c k → ((0 < s.op k ∨ 0 < wrap64 (s.op k + ((c k : Int) - 1))) ↔ (0 < s.op k ∨ 0 < s.op k + ((c k : Int) - 1))) := by
      intro h0
      have := pos_iff (h k (by omega)) (c k - 1) (by have := hc k (by omega); omega)
      have e : ((c k - 1 : Nat) : Int) = (c k : Int) - 1 := by omega
      rw [e] at this
      exact this
    constructor
    · rintro ((hs | ⟨g, hg, hh⟩) | ⟨h0, hh⟩)
      · exact .inl hs
      · exact .inr ⟨g, by omega, hh⟩
      · refine .inr ⟨k, by omega, h0, ?_⟩
        rcases hh with (hh | hh) | hh
        · exact .inl ⟨hh.1.1, hh.1.2, hh.2⟩
        · rcases (key h0).1 hh.2 with h1 | h1
          · exact .inr ⟨hh.1, .inl h1⟩
          · exact .inr ⟨hh.1, .inr (.inl h1)⟩
        · exact .inr ⟨hh.1.1, .inr (.inr ⟨hh.1.2, hh.2⟩)⟩
    · rintro (hs | ⟨g, hg, h0, hh⟩)
      · exact .inl (.inl hs)
      · by_cases e : g = k
        · subst e
          refine .inr ⟨h0, ?_⟩
          rcases hh with hh | ⟨e2, hh | hh | hh⟩
          · exact .inl (.inl ⟨⟨hh.1, hh.2.1⟩, hh.2.2⟩)
          · exact .inl (.inr ⟨e2, .inl hh⟩)
          · exact .inl (.inr ⟨e2, (key h0).2 (.inr hh)⟩)
          · exact .inr ⟨⟨e2, hh.1⟩, hh.2⟩
        · exact .inl (.inr ⟨g, by omega, h0, hh⟩)

/-- THE LAW: what place leaves of the marks is what placeWantClashes says. -/
theorem marks (U : Nat → Nat) (ri n nt : Nat) (t : Nat → Nat) (s : St) (h : ∀ g, g < n → InRange (s.op g)) (ht : ∀ i, i < nt → t i < n) (hnt : nt ≤ 1048576) (j : Nat) :
    (run U ri t s nt).cl j = wrun U ri s.op s.la (fun g => cnt t g nt) s.cl n j := by
  -- beyond nt the list of groups does not matter
  have hw := wrun_cl U ri s (fun g => cnt t g nt) n h (fun g _ => by have := cnt_le t g nt; omega) j n (Nat.le_refl _)
  let t' : Nat → Nat := fun i => if i < nt then t i else t 0
  have e1 : ∀ k, k ≤ nt → run U ri t s k = run U ri t' s k := by
    intro k
    induction k with
    | zero => intro _; rfl
    | succ k ih => intro hk; simp only [run]; rw [ih (by omega)]; simp [t', show k < nt by omega]
  have e2 : ∀ g k, k ≤ nt → cnt t g k = cnt t' g k := by
    intro g k
    induction k with
    | zero => intro _; rfl
    | succ k ih => intro hk; simp only [cnt]; rw [ih (by omega)]; simp [t', show k < nt by omega]
  by_cases h0 : nt = 0
  · subst h0
    rw [Bool.eq_iff_iff, hw]
    simp [run, cnt]
  · have hr := run_cl U ri t' s (fun i => by
      simp only [t']
      split
      · exact h _ (ht _ (by assumption))
      · exact h _ (ht 0 (by omega))) j nt hnt
    rw [Bool.eq_iff_iff, hw, e1 nt (Nat.le_refl _), hr]
    constructor
    · rintro (hs | ⟨g, hg, hh⟩)
      · exact .inl hs
      · rw [← e2 g nt (Nat.le_refl _)] at hg hh
        obtain ⟨i, hi, rfl⟩ := cnt_pos hg
        exact .inr ⟨_, ht i hi, hg, hh⟩
    · rintro (hs | ⟨g, _, hg, hh⟩)
      · exact .inl hs
      · simp only [e2 g nt (Nat.le_refl _)] at hg hh
        exact .inr ⟨g, hg, hh⟩
end Go.Proofs.Qxb6619458a
