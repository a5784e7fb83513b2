/- The walk: ZZMayMeet; the plain law. -/
import Derived.Test.Qxb6623401aWalkB
import Derived.Test.Qxb6623401aWalkC
import Derived.Test.Qxb6623401aWalkD
namespace Go.Proofs.Qxb6623401a
open Go.RowKit Go.Deep

set_option maxHeartbeats 4000000 in
theorem zzMayMeet_any (a0 a1 a2 a3 a4 a5 : Option Addr) (m n c0 c1 c2 c3 c4 c5 : Nat) (C : Nat → Int) (L H : Nat → ByteArray) (l h : Nat → Int) (B : Nat → Bool) (x y cx cy : Nat) (w : World) (h0 : RowAt w a0 m (ints C)) (h1 : RowAt w a1 n (strs L)) (h2 : RowAt w a2 n (ints l)) (h3 : RowAt w a3 n (strs H)) (h4 : RowAt w a4 n (ints h)) (h5 : RowAt w a5 n (boos B)) (hn : n ≤ 1048576) (hx : x < m) (hy : y < m) (ex : C x = cx) (ey : C y = cy) (kx : cx < n) (ky : cy < n) :
    Calls Try.prog 5 #[.slice a0 m c0, .slice a1 n c1, .slice a2 n c2, .slice a3 n c3, .slice a4 n c4, .slice a5 n c5, .int .i64 x, .int .i64 y] w fun e w' => Met (meet (spanOf L l H h B cx) (spanOf L l H h B cy)) w e w' := by
  go_enter Try.func5, Try.ntmps5
  go_wp2_with fail
  refine (makeBounds_any a0 a1 a2 a3 a4 a5 m n c0 c1 c2 c3 c4 c5 L H l h B w h1 h2 h3 h4 h5 hn).mono ?_
  rintro e w1 ⟨rfl, bel, hF⟩
  have h0' := h0.below bel
  clear h0 h1 h2 h3 h4 h5
  go_wp2_with fail
  refine (mayMeet_any a0 _ m n c0 n C (spanOf L l H h B) x y cx cy w1 h0' hF hx hy ex ey kx ky).mono ?_
  rintro e w2 ⟨rfl, bel2⟩
  clear h0' hF ex ey
  go_wp2
  go_ret
  exact ⟨rfl, bel.trans (bel2.mono bel.size)⟩

/-! ### The plain law -/
theorem meet_comm (p q : Fol) : meet p q = meet q p := by
  unfold meet
  rw [Bool.and_comm (shutF p) (shutF q), Int.max_comm, Int.min_comm, Bool.beq_comm (a := p.1.toList)]

theorem leP_same {a b : ByteArray} {m n : Int} (h : (a.toList == b.toList) = true) : leP a m b n = decide (m ≤ n) := by simp only [leP, h]; rfl

/-- The later of the two lows. -/
def lateB (p q : Fol) : ByteArray := if leP p.1 p.2.1 q.1 q.2.1 then q.1 else p.1
def lateS (p q : Fol) : Int := if leP p.1 p.2.1 q.1 q.2.1 then q.2.1 else p.2.1

theorem meet_parts {p q : Fol} (h : meet p q = true) : shutF p = true ∧ shutF q = true ∧ (p.1.toList == q.1.toList) = true ∧ p.2.1 ≤ p.2.2.2.1 ∧ p.2.1 ≤ q.2.2.2.1 ∧ q.2.1 ≤ p.2.2.2.1 ∧ q.2.1 ≤ q.2.2.2.1 := by
  simp only [meet, Bool.and_eq_true, decide_eq_true_eq] at h
  refine ⟨h.1.1.1, h.1.1.2, h.1.2, ?_, ?_, ?_, ?_⟩ <;> omega

theorem shut_base {p : Fol} (h : shutF p = true) : p.1.toList = p.2.2.1.toList := by
  simp only [shutF, Bool.and_eq_true, beq_iff_eq] at h
  exact h.2

theorem inP_same {qb lb hb : ByteArray} {qs ls hs : Int} (h1 : lb.toList = qb.toList) (h2 : qb.toList = hb.toList) (k1 : ls ≤ qs) (k2 : qs ≤ hs) : inP qb qs lb ls hb hs = true := by
  unfold inP
  rw [leP_same (by simp [h1]), leP_same (by simp [h2])]
  simp [k1, k2]

theorem late_in {p q : Fol} (h : meet p q = true) : inP (lateB p q) (lateS p q) p.1 p.2.1 p.2.2.1 p.2.2.2.1 = true ∧ inP (lateB p q) (lateS p q) q.1 q.2.1 q.2.2.1 q.2.2.2.1 = true := by
  obtain ⟨h1, h2, h3, k1, k2, k3, k4⟩ := meet_parts h
  have b1 := shut_base h1
  have b2 := shut_base h2
  have e := leP_same (m := p.2.1) (n := q.2.1) h3
  have h4 : p.1.toList = q.1.toList := by simpa using h3
  unfold lateB lateS
  rw [e]
  by_cases hd : p.2.1 ≤ q.2.1
  · simp only [hd, decide_true, if_true]
    exact ⟨inP_same h4 (h4 ▸ b1) hd k3, inP_same rfl b2 (Int.le_refl _) k4⟩
  · simp only [hd, decide_false]
    exact ⟨inP_same rfl b1 (Int.le_refl _) k1, inP_same h4.symm (h4.trans b2) (by omega) k2⟩

theorem less_asymm : ∀ (a b : List UInt8), Op.bytesLess a b = true → Op.bytesLess b a = true → False := by
  intro a
  induction a with
  | nil => intro b h1 h2; cases b <;> simp [Op.bytesLess] at h1 h2
  | cons x xs ih =>
    intro b h1 h2
    cases b with
    | nil => simp [Op.bytesLess] at h1
    | cons y ys =>
      simp only [Op.bytesLess, Bool.or_eq_true, Bool.and_eq_true, decide_eq_true_eq, beq_iff_eq] at h1 h2
      rcases h1 with h1 | ⟨e1, h1⟩
      · rcases h2 with h2 | ⟨e2, h2⟩
        · exact absurd (UInt8.lt_trans h1 h2) (UInt8.lt_irrefl _)
        · rw [e2] at h1; exact absurd h1 (UInt8.lt_irrefl _)
      · rcases h2 with h2 | ⟨e2, h2⟩
        · rw [e1] at h2; exact absurd h2 (UInt8.lt_irrefl _)
        · exact ih ys h1 h2

/-- A place in a shut span is of the span's base. -/
theorem inP_parts {qb lb hb : ByteArray} {qs ls hs : Int} (h : inP qb qs lb ls hb hs = true) (e : lb.toList = hb.toList) : lb.toList = qb.toList ∧ ls ≤ qs ∧ qs ≤ hs := by
  simp only [inP, Bool.and_eq_true] at h
  obtain ⟨h1, h2⟩ := h
  by_cases hq : lb.toList = qb.toList
  · have hq2 : qb.toList = hb.toList := hq.symm.trans e
    rw [leP_same (by simp [hq])] at h1
    rw [leP_same (by simp [hq2])] at h2
    simp only [decide_eq_true_eq] at h1 h2
    exact ⟨hq, h1, h2⟩
  · have hq2 : ¬ qb.toList = hb.toList := fun hh => hq (e.trans hh.symm)
    simp only [leP, beq_iff_eq] at h1 h2
    rw [if_neg hq] at h1
    rw [if_neg hq2, ← e] at h2
    exact (less_asymm _ _ h1 h2).elim

theorem meet_of_in {p q : Fol} {qb : ByteArray} {qs : Int} (h1 : shutF p = true) (h2 : shutF q = true) (k1 : inP qb qs p.1 p.2.1 p.2.2.1 p.2.2.2.1 = true) (k2 : inP qb qs q.1 q.2.1 q.2.2.1 q.2.2.2.1 = true) : meet p q = true := by
  obtain ⟨e1, a1, a2⟩ := inP_parts k1 (shut_base h1)
  obtain ⟨e2, b1, b2⟩ := inP_parts k2 (shut_base h2)
  rw [meet_yes h1 h2 (by simp [e1, e2])]
  simp only [decide_eq_true_eq]
  omega
end Go.Proofs.Qxb6623401a
