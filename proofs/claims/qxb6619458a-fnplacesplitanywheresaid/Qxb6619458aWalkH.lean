/- The walk: placeWantClashes. -/
import Derived.Test.Qxb6619458aWalkG
namespace Go.Proofs.Qxb6619458a
open Go.RowKit Go.Deep

def bools (v : Nat → Bool) : Nat → Value := fun j => .bool (v j)
def bpart (v : Nat → Bool) (k : Nat) : Nat → Value := fun j => if j < k then .bool (v j) else .bool false

theorem bools_set {w : World} {b m p : Nat} {v : Nat → Bool} (h : w.rowIs b 4 m (bools v)) : (w.setCell ⟨b, p, none⟩ (.bool true)).rowIs b 4 m (bools (setT v p)) := by
  refine (h.set p _).congr fun j _ => ?_
  unfold bools setT
  by_cases e : j = p
  · subst e; simp
  · simp [e]

theorem bpart_set {w : World} {b n k : Nat} {v : Nat → Bool} (h : w.rowIs b 4 n (bpart v k)) : (w.setCell ⟨b, k, none⟩ (.bool (v k))).rowIs b 4 n (bpart v (k + 1)) := by
  refine (h.set k _).congr fun j _ => ?_
  unfold bpart
  by_cases e : j = k
  · subst e; simp
  · rw [if_neg e]
    by_cases hlt : j < k
    · rw [if_pos hlt, if_pos (by omega)]
    · rw [if_neg hlt, if_neg (by omega)]

structure Wanted (w : World) (m : Nat) (f : Nat → Bool) (e : Ending) (w' : World) : Prop where
  out : e = .returned (.slice (some ⟨w.heap.size, 0, none⟩) m m) ∧ Below w.heap.size w w' ∧ w'.rowIs w.heap.size 4 m (bools f)

/-! ### The ways through one group -/
section
variable {U : Nat → Nat} {ri g : Nat} {op la : Nat → Int} {c : Nat → Nat} {v : Nat → Bool}
theorem ws_idle (h : c g = 0) : wstep U ri op la c v g = v := by
  funext j; simp [wstep, h]

/-- The mark on the group's last record. -/
def wA (U : Nat → Nat) (la : Nat → Int) (v : Nat → Bool) (g : Nat) : Nat → Bool := fun j => v j || (decide (0 ≤ la g) && decide ((j : Int) = la g) && decide (0 < U j))
def wB (ri : Nat) (op : Nat → Int) (c : Nat → Nat) (v : Nat → Bool) (g : Nat) : Nat → Bool := fun j => v j || (decide (j = ri) && (decide (0 < op g) || decide (0 < wrap64 (op g + ((c g : Int) - 1)))))
def wC (U : Nat → Nat) (ri : Nat) (c : Nat → Nat) (v : Nat → Bool) (g : Nat) : Nat → Bool := fun j => v j || (decide (j = ri) && decide (2 ≤ c g) && decide (0 < U ri))
theorem ws_abc (h : 0 < c g) : wstep U ri op la c v g = wC U ri c (wB ri op c (wA U la v g) g) g := by
  funext j; simp [wstep, wA, wB, wC, h, Bool.or_assoc]
theorem wA_none (h : la g < 0) : wA U la v g = v := by
  funext j
  have : ¬ 0 ≤ la g := by omega
  simp [wA, this]
theorem wA_no {p : Nat} (h : la g = p) (hu : ¬ 0 < U p) : wA U la v g = v := by
  funext j
  have hi : ((j : Int) = (p : Int)) ↔ j = p := by omega
  by_cases e : j = p
  · subst e; simp [wA, h, hu]
  · simp [wA, h, hi, e]
theorem wA_yes {p : Nat} (h : la g = p) (hu : 0 < U p) : wA U la v g = setT v p := by
  funext j
  have hi : ((j : Int) = (p : Int)) ↔ j = p := by omega
  by_cases e : j = p
  · subst e; simp [wA, setT, h, hu]
  · simp [wA, setT, h, hi, e]
theorem wB_1 (h : 0 < op g) : wB ri op c v g = setT v ri := by
  funext j
  by_cases e : j = ri <;> simp [wB, setT, h, e]
theorem wB_2 (h : 0 < wrap64 (op g + ((c g : Int) - 1))) : wB ri op c v g = setT v ri := by
  funext j
  by_cases e : j = ri <;> simp [wB, setT, h, e]
theorem wB_3 (h : ¬ 0 < op g) (h2 : ¬ 0 < wrap64 (op g + ((c g : Int) - 1))) : wB ri op c v g = v := by
  funext j
  simp [wB, h, h2]
theorem wC_yes (h : 2 ≤ c g) (hu : 0 < U ri) : wC U ri c v g = setT v ri := by
  funext j
  by_cases e : j = ri <;> simp [wC, setT, h, hu, e]
theorem wC_no (h : 2 ≤ c g) (hu : ¬ 0 < U ri) : wC U ri c v g = v := by
  funext j
  simp [wC, h, hu]
theorem wC_few (h : ¬ 2 ≤ c g) : wC U ri c v g = v := by
  funext j
  simp [wC, h]
end

set_option maxHeartbeats 8000000 in
set_option maxRecDepth 20000 in
theorem placeWantClashes_any (ba la ua ca ka : Option Addr) (n m bc lc uc cc kc ri : Nat) (op zl : Nat → Int) (U : Nat → Nat) (cl : Nat → Bool) (c : Nat → Nat) (w : World)
    (hn : n ≤ 65536) (hm : m ≤ 65536) (hri : ri < m) (hb : RowAt w ba n (fun i => .int .i64 (op i))) (hl : RowAt w la n (fun i => .int .i64 (zl i))) (hz : ∀ g, g < n → -1 ≤ zl g ∧ zl g < m) (hu : LensAt w ua m U)
    (hcl : RowAt w ca m (fun i => .bool (cl i))) (hk : RowAt w ka n (fun i => .int .i64 (c i : Int))) (hc : ∀ g, g < n → c g ≤ 1048576) :
    Calls Try.prog 30 #[.slice ba n bc, .slice la n lc, .slice ua m uc, .slice ca m cc, .int .i64 ri, .slice ka n kc] w fun e w' => Wanted w m (wrun U ri op zl c cl n) e w' := by
  have hmk := run_make_row' (P := Try.prog) 56 4 (.bool false) 1 Try.underlying56 Try.info4 rfl .i64 .i64 m (by omega) (by omega)
  go_enter Try.func30, Try.ntmps30
  go_wp2
  clear hmk
  go_loopw [14] (fun i wr => ∃ k : Nat, k ≤ m ∧ i = .int .i64 k ∧ wr.rowIs w.heap.size 4 m (bpart cl k) ∧ Below w.heap.size w wr) (fun i _ => m - (intOf i).toNat)
  case atStart => exact ⟨0, Nat.zero_le _, rfl, (World.rowIs_made w (.bool false) m 4).congr (fun j _ => by simp [bpart]), below_made _ _⟩
  case round =>
    obtain ⟨k, hkm, rfl, hrow, hbe⟩ := hrel
    by_cases hlt : k < m
    · obtain ⟨b, o, ea, hc1⟩ := hcl.below hbe k hlt
      cases ea
      have g2 := hrow.cell hlt
      have g3 := hrow.frozen k
      have R1 := bpart_set hrow
      have R2 : Below w.heap.size w (wr.setCell ⟨w.heap.size, k, none⟩ (.bool (cl k))) := hbe.setCell (Nat.le_refl _) _
      clear hrow hbe hb hl hz hu hcl hk hc
      go_wp2
      go_roundw
      case rel => exact ⟨k + 1, by omega, by go_num, R1, R2⟩
      case measure => simp [intOf]; omega
    · have hkn : k = m := by omega
      subst hkn
      have hrow' : wr.rowIs w.heap.size 4 k (bools cl) := hrow.congr fun j hj => by simp [bpart, bools, hj]
      clear hrow hcl
      go_wp2
      go_loopw [15] (fun i wx => ∃ g : Nat, g ≤ n ∧ i = .int .i64 g ∧ wx.rowIs w.heap.size 4 k (bools (wrun U ri op zl c cl g)) ∧ Below w.heap.size w wx) (fun i _ => n - (intOf i).toNat)
      case atStart => exact ⟨0, Nat.zero_le _, rfl, hrow', hbe⟩
      case round =>
        clear hrow' hbe
        obtain ⟨g, hgn, rfl, hrow, hbe⟩ := hrel
        by_cases hg : g < n
        · obtain ⟨v, HV⟩ : ∃ v, Hid (v = wrun U ri op zl c cl g) := ⟨_, rfl⟩
          have HN : Hid (wrun U ri op zl c cl (g + 1) = wstep U ri op zl c v g) := by rw [HV.out]; rfl
          rw [← HV.out] at hrow
          clear HV
          obtain ⟨b1, o1, e1, c1⟩ := hk g hg
          cases e1
          have q1 := Nat.ne_of_lt (World.block_lt_of_cell? _ _ c1)
          have q1' := Ne.symm q1
          have c1 := cell_later hbe c1
          obtain ⟨b2, o2, e2, c2⟩ := hl.below hbe g hg
          cases e2
          obtain ⟨b3, o3, e3, c3⟩ := hb g hg
          cases e3
          have q3 := Nat.ne_of_lt (World.block_lt_of_cell? _ _ c3)
          have q3' := Ne.symm q3
          have c3 := cell_later hbe c3
          obtain ⟨b4, o4, ua4, uc4, e4, c4⟩ := hu ri hri
          cases e4
          have q4 := Nat.ne_of_lt (World.block_lt_of_cell? _ _ c4)
          have q4' := Ne.symm q4
          have c4 := cell_later hbe c4
          have hzg := hz g hg
          have hcg := hc g hg
          by_cases h0 : c g = 0
          · have h0' : ((c g : Int) == 0) = true := by simp [h0]
            rw [ws_idle h0] at HN
            rw [← HN.out] at hrow
            clear HN hb hl hz hu hk hc c2 c3 c4 h0
            go_wp2
            go_roundw
            case rel => exact ⟨g + 1, by omega, by go_num, hrow, hbe⟩
            case measure => simp [intOf]; omega
          · have h0' : ((c g : Int) == 0) = false := by simp; omega
            rw [ws_abc (show 0 < c g by omega)] at HN
            have s0 := hrow.cell hri
            clear hb hl hz hk hc h0
            by_cases hp : zl g < 0
            · clear hu
              by_cases hB : 0 < op g
              · skip
                by_cases hC : 2 ≤ c g
                · by_cases hur : 0 < U ri
                  · skip
                    rw [wA_none hp] at HN
                    have R0 := hrow
                    have E0 := hbe
                    rw [wB_1 hB] at HN
                    have x1 := R0.cell hri
                    have y1 := R0.frozen ri
                    have R1 := bools_set (p := ri) R0
                    have E1 := E0.setCell (p := ⟨w.heap.size, ri, none⟩) (Nat.le_refl _) (.bool true)
                    rw [wC_yes hC hur] at HN
                    have x2 := R1.cell hri
                    have y2 := R1.frozen ri
                    have R2 := bools_set (p := ri) R1
                    have E2 := E1.setCell (p := ⟨w.heap.size, ri, none⟩) (Nat.le_refl _) (.bool true)
                    rw [← HN.out] at R2
                    have hd : decide (0 < op g) = true := by simpa using hB
                    clear HN hrow hbe R0 E0 R1 E1
                    go_wp2
                    go_quiet (fail)
                    go_wp2
                    go_roundw
                    case rel => exact ⟨g + 1, by omega, by go_num, R2, below_drewN E2 _⟩
                    case measure => simp [intOf]; omega
                  · skip
                    rw [wA_none hp] at HN
                    have R0 := hrow
                    have E0 := hbe
                    rw [wB_1 hB] at HN
                    have x1 := R0.cell hri
                    have y1 := R0.frozen ri
                    have R1 := bools_set (p := ri) R0
                    have E1 := E0.setCell (p := ⟨w.heap.size, ri, none⟩) (Nat.le_refl _) (.bool true)
                    rw [wC_no hC hur] at HN
                    rw [← HN.out] at R1
                    have hd : decide (0 < op g) = true := by simpa using hB
                    clear HN hrow hbe R0 E0
                    go_wp2
                    go_quiet (fail)
                    go_wp2
                    go_roundw
                    case rel => exact ⟨g + 1, by omega, by go_num, R1, below_drewN E1 _⟩
                    case measure => simp [intOf]; omega
                · skip
                  rw [wA_none hp] at HN
                  have R0 := hrow
                  have E0 := hbe
                  rw [wB_1 hB] at HN
                  have x1 := R0.cell hri
                  have y1 := R0.frozen ri
                  have R1 := bools_set (p := ri) R0
                  have E1 := E0.setCell (p := ⟨w.heap.size, ri, none⟩) (Nat.le_refl _) (.bool true)
                  rw [wC_few hC] at HN
                  rw [← HN.out] at R1
                  have hd : decide (0 < op g) = true := by simpa using hB
                  clear HN hrow hbe R0 E0
                  go_wp2
                  go_quiet (fail)
                  go_wp2
                  go_roundw
                  case rel => exact ⟨g + 1, by omega, by go_num, R1, below_drewN E1 _⟩
                  case measure => simp [intOf]; omega
              · by_cases hB2 : 0 < wrap64 (op g + ((c g : Int) - 1))
                · skip
                  by_cases hC : 2 ≤ c g
                  · by_cases hur : 0 < U ri
                    · skip
                      rw [wA_none hp] at HN
                      have R0 := hrow
                      have E0 := hbe
                      rw [wB_2 hB2] at HN
                      have x1 := R0.cell hri
                      have y1 := R0.frozen ri
                      have R1 := bools_set (p := ri) R0
                      have E1 := E0.setCell (p := ⟨w.heap.size, ri, none⟩) (Nat.le_refl _) (.bool true)
                      rw [wC_yes hC hur] at HN
                      have x2 := R1.cell hri
                      have y2 := R1.frozen ri
                      have R2 := bools_set (p := ri) R1
                      have E2 := E1.setCell (p := ⟨w.heap.size, ri, none⟩) (Nat.le_refl _) (.bool true)
                      rw [← HN.out] at R2
                      have hd : decide (0 < op g) = false := by simpa using hB
                      clear HN hrow hbe R0 E0 R1 E1
                      go_wp2
                      go_quiet (fail)
                      go_wp2
                      go_roundw
                      case rel => exact ⟨g + 1, by omega, by go_num, R2, below_drewN E2 _⟩
                      case measure => simp [intOf]; omega
                    · skip
                      rw [wA_none hp] at HN
                      have R0 := hrow
                      have E0 := hbe
                      rw [wB_2 hB2] at HN
                      have x1 := R0.cell hri
                      have y1 := R0.frozen ri
                      have R1 := bools_set (p := ri) R0
                      have E1 := E0.setCell (p := ⟨w.heap.size, ri, none⟩) (Nat.le_refl _) (.bool true)
                      rw [wC_no hC hur] at HN
                      rw [← HN.out] at R1
                      have hd : decide (0 < op g) = false := by simpa using hB
                      clear HN hrow hbe R0 E0
                      go_wp2
                      go_quiet (fail)
                      go_wp2
                      go_roundw
                      case rel => exact ⟨g + 1, by omega, by go_num, R1, below_drewN E1 _⟩
                      case measure => simp [intOf]; omega
                  · skip
                    rw [wA_none hp] at HN
                    have R0 := hrow
                    have E0 := hbe
                    rw [wB_2 hB2] at HN
                    have x1 := R0.cell hri
                    have y1 := R0.frozen ri
                    have R1 := bools_set (p := ri) R0
                    have E1 := E0.setCell (p := ⟨w.heap.size, ri, none⟩) (Nat.le_refl _) (.bool true)
                    rw [wC_few hC] at HN
                    rw [← HN.out] at R1
                    have hd : decide (0 < op g) = false := by simpa using hB
                    clear HN hrow hbe R0 E0
                    go_wp2
                    go_quiet (fail)
                    go_wp2
                    go_roundw
                    case rel => exact ⟨g + 1, by omega, by go_num, R1, below_drewN E1 _⟩
                    case measure => simp [intOf]; omega
                · skip
                  by_cases hC : 2 ≤ c g
                  · by_cases hur : 0 < U ri
                    · skip
                      rw [wA_none hp] at HN
                      have R0 := hrow
                      have E0 := hbe
                      rw [wB_3 hB hB2] at HN
                      rw [wC_yes hC hur] at HN
                      have x1 := R0.cell hri
                      have y1 := R0.frozen ri
                      have R1 := bools_set (p := ri) R0
                      have E1 := E0.setCell (p := ⟨w.heap.size, ri, none⟩) (Nat.le_refl _) (.bool true)
                      rw [← HN.out] at R1
                      have hd : decide (0 < op g) = false := by simpa using hB
                      clear HN hrow hbe R0 E0
                      go_wp2
                      go_quiet (fail)
                      go_wp2
                      go_roundw
                      case rel => exact ⟨g + 1, by omega, by go_num, R1, below_drewN E1 _⟩
                      case measure => simp [intOf]; omega
                    · skip
                      rw [wA_none hp] at HN
                      have R0 := hrow
                      have E0 := hbe
                      rw [wB_3 hB hB2] at HN
                      rw [wC_no hC hur] at HN
                      rw [← HN.out] at R0
                      have hd : decide (0 < op g) = false := by simpa using hB
                      clear HN hrow hbe
                      go_wp2
                      go_quiet (fail)
                      go_wp2
                      go_roundw
                      case rel => exact ⟨g + 1, by omega, by go_num, R0, below_drewN E0 _⟩
                      case measure => simp [intOf]; omega
                  · skip
                    rw [wA_none hp] at HN
                    have R0 := hrow
                    have E0 := hbe
                    rw [wB_3 hB hB2] at HN
                    rw [wC_few hC] at HN
                    rw [← HN.out] at R0
                    have hd : decide (0 < op g) = false := by simpa using hB
                    clear HN hrow hbe
                    go_wp2
                    go_quiet (fail)
                    go_wp2
                    go_roundw
                    case rel => exact ⟨g + 1, by omega, by go_num, R0, below_drewN E0 _⟩
                    case measure => simp [intOf]; omega
            · obtain ⟨p, hp⟩ := Int.eq_ofNat_of_zero_le (show 0 ≤ zl g by omega)
              have hpk : p < k := by omega
              obtain ⟨b5, o5, ua5, uc5, e5, c5⟩ := hu.below hbe p hpk
              cases e5
              simp only [hp] at c2
              clear hu hzg
              by_cases hup : 0 < U p
              · skip
                by_cases hB : 0 < op g
                · skip
                  by_cases hC : 2 ≤ c g
                  · by_cases hur : 0 < U ri
                    · skip
                      rw [wA_yes hp hup] at HN
                      have R0 := hrow
                      have E0 := hbe
                      have x1 := R0.cell hpk
                      have y1 := R0.frozen p
                      have R1 := bools_set (p := p) R0
                      have E1 := E0.setCell (p := ⟨w.heap.size, p, none⟩) (Nat.le_refl _) (.bool true)
                      rw [wB_1 hB] at HN
                      have x2 := R1.cell hri
                      have y2 := R1.frozen ri
                      have R2 := bools_set (p := ri) R1
                      have E2 := E1.setCell (p := ⟨w.heap.size, ri, none⟩) (Nat.le_refl _) (.bool true)
                      rw [wC_yes hC hur] at HN
                      have x3 := R2.cell hri
                      have y3 := R2.frozen ri
                      have R3 := bools_set (p := ri) R2
                      have E3 := E2.setCell (p := ⟨w.heap.size, ri, none⟩) (Nat.le_refl _) (.bool true)
                      rw [← HN.out] at R3
                      have hd : decide (0 < op g) = true := by simpa using hB
                      clear HN hrow hbe R0 E0 R1 E1 R2 E2
                      go_wp2
                      go_quiet (fail)
                      go_wp2
                      go_roundw
                      case rel => exact ⟨g + 1, by omega, by go_num, R3, below_drewN E3 _⟩
                      case measure => simp [intOf]; omega
                    · skip
                      rw [wA_yes hp hup] at HN
                      have R0 := hrow
                      have E0 := hbe
                      have x1 := R0.cell hpk
                      have y1 := R0.frozen p
                      have R1 := bools_set (p := p) R0
                      have E1 := E0.setCell (p := ⟨w.heap.size, p, none⟩) (Nat.le_refl _) (.bool true)
                      rw [wB_1 hB] at HN
                      have x2 := R1.cell hri
                      have y2 := R1.frozen ri
                      have R2 := bools_set (p := ri) R1
                      have E2 := E1.setCell (p := ⟨w.heap.size, ri, none⟩) (Nat.le_refl _) (.bool true)
                      rw [wC_no hC hur] at HN
                      rw [← HN.out] at R2
                      have hd : decide (0 < op g) = true := by simpa using hB
                      clear HN hrow hbe R0 E0 R1 E1
                      go_wp2
                      go_quiet (fail)
                      go_wp2
                      go_roundw
                      case rel => exact ⟨g + 1, by omega, by go_num, R2, below_drewN E2 _⟩
                      case measure => simp [intOf]; omega
                  · skip
                    rw [wA_yes hp hup] at HN
                    have R0 := hrow
                    have E0 := hbe
                    have x1 := R0.cell hpk
                    have y1 := R0.frozen p
                    have R1 := bools_set (p := p) R0
                    have E1 := E0.setCell (p := ⟨w.heap.size, p, none⟩) (Nat.le_refl _) (.bool true)
                    rw [wB_1 hB] at HN
                    have x2 := R1.cell hri
                    have y2 := R1.frozen ri
                    have R2 := bools_set (p := ri) R1
                    have E2 := E1.setCell (p := ⟨w.heap.size, ri, none⟩) (Nat.le_refl _) (.bool true)
                    rw [wC_few hC] at HN
                    rw [← HN.out] at R2
                    have hd : decide (0 < op g) = true := by simpa using hB
                    clear HN hrow hbe R0 E0 R1 E1
                    go_wp2
                    go_quiet (fail)
                    go_wp2
                    go_roundw
                    case rel => exact ⟨g + 1, by omega, by go_num, R2, below_drewN E2 _⟩
                    case measure => simp [intOf]; omega
                · by_cases hB2 : 0 < wrap64 (op g + ((c g : Int) - 1))
                  · skip
                    by_cases hC : 2 ≤ c g
                    · by_cases hur : 0 < U ri
                      · skip
                        rw [wA_yes hp hup] at HN
                        have R0 := hrow
                        have E0 := hbe
                        have x1 := R0.cell hpk
                        have y1 := R0.frozen p
                        have R1 := bools_set (p := p) R0
                        have E1 := E0.setCell (p := ⟨w.heap.size, p, none⟩) (Nat.le_refl _) (.bool true)
                        rw [wB_2 hB2] at HN
                        have x2 := R1.cell hri
                        have y2 := R1.frozen ri
                        have R2 := bools_set (p := ri) R1
                        have E2 := E1.setCell (p := ⟨w.heap.size, ri, none⟩) (Nat.le_refl _) (.bool true)
                        rw [wC_yes hC hur] at HN
                        have x3 := R2.cell hri
                        have y3 := R2.frozen ri
                        have R3 := bools_set (p := ri) R2
                        have E3 := E2.setCell (p := ⟨w.heap.size, ri, none⟩) (Nat.le_refl _) (.bool true)
                        rw [← HN.out] at R3
                        have hd : decide (0 < op g) = false := by simpa using hB
                        clear HN hrow hbe R0 E0 R1 E1 R2 E2
                        go_wp2
                        go_quiet (fail)
                        go_wp2
                        go_roundw
                        case rel => exact ⟨g + 1, by omega, by go_num, R3, below_drewN E3 _⟩
                        case measure => simp [intOf]; omega
                      · skip
                        rw [wA_yes hp hup] at HN
                        have R0 := hrow
                        have E0 := hbe
                        have x1 := R0.cell hpk
                        have y1 := R0.frozen p
                        have R1 := bools_set (p := p) R0
                        have E1 := E0.setCell (p := ⟨w.heap.size, p, none⟩) (Nat.le_refl _) (.bool true)
                        rw [wB_2 hB2] at HN
                        have x2 := R1.cell hri
                        have y2 := R1.frozen ri
                        have R2 := bools_set (p := ri) R1
                        have E2 := E1.setCell (p := ⟨w.heap.size, ri, none⟩) (Nat.le_refl _) (.bool true)
                        rw [wC_no hC hur] at HN
                        rw [← HN.out] at R2
                        have hd : decide (0 < op g) = false := by simpa using hB
                        clear HN hrow hbe R0 E0 R1 E1
                        go_wp2
                        go_quiet (fail)
                        go_wp2
                        go_roundw
                        case rel => exact ⟨g + 1, by omega, by go_num, R2, below_drewN E2 _⟩
                        case measure => simp [intOf]; omega
                    · skip
                      rw [wA_yes hp hup] at HN
                      have R0 := hrow
                      have E0 := hbe
                      have x1 := R0.cell hpk
                      have y1 := R0.frozen p
                      have R1 := bools_set (p := p) R0
                      have E1 := E0.setCell (p := ⟨w.heap.size, p, none⟩) (Nat.le_refl _) (.bool true)
                      rw [wB_2 hB2] at HN
                      have x2 := R1.cell hri
                      have y2 := R1.frozen ri
                      have R2 := bools_set (p := ri) R1
                      have E2 := E1.setCell (p := ⟨w.heap.size, ri, none⟩) (Nat.le_refl _) (.bool true)
                      rw [wC_few hC] at HN
                      rw [← HN.out] at R2
                      have hd : decide (0 < op g) = false := by simpa using hB
                      clear HN hrow hbe R0 E0 R1 E1
                      go_wp2
                      go_quiet (fail)
                      go_wp2
                      go_roundw
                      case rel => exact ⟨g + 1, by omega, by go_num, R2, below_drewN E2 _⟩
                      case measure => simp [intOf]; omega
                  · skip
                    by_cases hC : 2 ≤ c g
                    · by_cases hur : 0 < U ri
                      · skip
                        rw [wA_yes hp hup] at HN
                        have R0 := hrow
                        have E0 := hbe
                        have x1 := R0.cell hpk
                        have y1 := R0.frozen p
                        have R1 := bools_set (p := p) R0
                        have E1 := E0.setCell (p := ⟨w.heap.size, p, none⟩) (Nat.le_refl _) (.bool true)
                        rw [wB_3 hB hB2] at HN
                        rw [wC_yes hC hur] at HN
                        have x2 := R1.cell hri
                        have y2 := R1.frozen ri
                        have R2 := bools_set (p := ri) R1
                        have E2 := E1.setCell (p := ⟨w.heap.size, ri, none⟩) (Nat.le_refl _) (.bool true)
                        rw [← HN.out] at R2
                        have hd : decide (0 < op g) = false := by simpa using hB
                        clear HN hrow hbe R0 E0 R1 E1
                        go_wp2
                        go_quiet (fail)
                        go_wp2
                        go_roundw
                        case rel => exact ⟨g + 1, by omega, by go_num, R2, below_drewN E2 _⟩
                        case measure => simp [intOf]; omega
                      · skip
                        rw [wA_yes hp hup] at HN
                        have R0 := hrow
                        have E0 := hbe
                        have x1 := R0.cell hpk
                        have y1 := R0.frozen p
                        have R1 := bools_set (p := p) R0
                        have E1 := E0.setCell (p := ⟨w.heap.size, p, none⟩) (Nat.le_refl _) (.bool true)
                        rw [wB_3 hB hB2] at HN
                        rw [wC_no hC hur] at HN
                        rw [← HN.out] at R1
                        have hd : decide (0 < op g) = false := by simpa using hB
                        clear HN hrow hbe R0 E0
                        go_wp2
                        go_quiet (fail)
                        go_wp2
                        go_roundw
                        case rel => exact ⟨g + 1, by omega, by go_num, R1, below_drewN E1 _⟩
                        case measure => simp [intOf]; omega
                    · skip
                      rw [wA_yes hp hup] at HN
                      have R0 := hrow
                      have E0 := hbe
                      have x1 := R0.cell hpk
                      have y1 := R0.frozen p
                      have R1 := bools_set (p := p) R0
                      have E1 := E0.setCell (p := ⟨w.heap.size, p, none⟩) (Nat.le_refl _) (.bool true)
                      rw [wB_3 hB hB2] at HN
                      rw [wC_few hC] at HN
                      rw [← HN.out] at R1
                      have hd : decide (0 < op g) = false := by simpa using hB
                      clear HN hrow hbe R0 E0
                      go_wp2
                      go_quiet (fail)
                      go_wp2
                      go_roundw
                      case rel => exact ⟨g + 1, by omega, by go_num, R1, below_drewN E1 _⟩
                      case measure => simp [intOf]; omega
              · skip
                by_cases hB : 0 < op g
                · skip
                  by_cases hC : 2 ≤ c g
                  · by_cases hur : 0 < U ri
                    · skip
                      rw [wA_no hp hup] at HN
                      have R0 := hrow
                      have E0 := hbe
                      rw [wB_1 hB] at HN
                      have x1 := R0.cell hri
                      have y1 := R0.frozen ri
                      have R1 := bools_set (p := ri) R0
                      have E1 := E0.setCell (p := ⟨w.heap.size, ri, none⟩) (Nat.le_refl _) (.bool true)
                      rw [wC_yes hC hur] at HN
                      have x2 := R1.cell hri
                      have y2 := R1.frozen ri
                      have R2 := bools_set (p := ri) R1
                      have E2 := E1.setCell (p := ⟨w.heap.size, ri, none⟩) (Nat.le_refl _) (.bool true)
                      rw [← HN.out] at R2
                      have hd : decide (0 < op g) = true := by simpa using hB
                      clear HN hrow hbe R0 E0 R1 E1
                      go_wp2
                      go_quiet (fail)
                      go_wp2
                      go_roundw
                      case rel => exact ⟨g + 1, by omega, by go_num, R2, below_drewN E2 _⟩
                      case measure => simp [intOf]; omega
                    · skip
                      rw [wA_no hp hup] at HN
                      have R0 := hrow
                      have E0 := hbe
                      rw [wB_1 hB] at HN
                      have x1 := R0.cell hri
                      have y1 := R0.frozen ri
                      have R1 := bools_set (p := ri) R0
                      have E1 := E0.setCell (p := ⟨w.heap.size, ri, none⟩) (Nat.le_refl _) (.bool true)
                      rw [wC_no hC hur] at HN
                      rw [← HN.out] at R1
                      have hd : decide (0 < op g) = true := by simpa using hB
                      clear HN hrow hbe R0 E0
                      go_wp2
                      go_quiet (fail)
                      go_wp2
                      go_roundw
                      case rel => exact ⟨g + 1, by omega, by go_num, R1, below_drewN E1 _⟩
                      case measure => simp [intOf]; omega
                  · skip
                    rw [wA_no hp hup] at HN
                    have R0 := hrow
                    have E0 := hbe
                    rw [wB_1 hB] at HN
                    have x1 := R0.cell hri
                    have y1 := R0.frozen ri
                    have R1 := bools_set (p := ri) R0
                    have E1 := E0.setCell (p := ⟨w.heap.size, ri, none⟩) (Nat.le_refl _) (.bool true)
                    rw [wC_few hC] at HN
                    rw [← HN.out] at R1
                    have hd : decide (0 < op g) = true := by simpa using hB
                    clear HN hrow hbe R0 E0
                    go_wp2
                    go_quiet (fail)
                    go_wp2
                    go_roundw
                    case rel => exact ⟨g + 1, by omega, by go_num, R1, below_drewN E1 _⟩
                    case measure => simp [intOf]; omega
                · by_cases hB2 : 0 < wrap64 (op g + ((c g : Int) - 1))
                  · skip
                    by_cases hC : 2 ≤ c g
                    · by_cases hur : 0 < U ri
                      · skip
                        rw [wA_no hp hup] at HN
                        have R0 := hrow
                        have E0 := hbe
                        rw [wB_2 hB2] at HN
                        have x1 := R0.cell hri
                        have y1 := R0.frozen ri
                        have R1 := bools_set (p := ri) R0
                        have E1 := E0.setCell (p := ⟨w.heap.size, ri, none⟩) (Nat.le_refl _) (.bool true)
                        rw [wC_yes hC hur] at HN
                        have x2 := R1.cell hri
                        have y2 := R1.frozen ri
                        have R2 := bools_set (p := ri) R1
                        have E2 := E1.setCell (p := ⟨w.heap.size, ri, none⟩) (Nat.le_refl _) (.bool true)
                        rw [← HN.out] at R2
                        have hd : decide (0 < op g) = false := by simpa using hB
                        clear HN hrow hbe R0 E0 R1 E1
                        go_wp2
                        go_quiet (fail)
                        go_wp2
                        go_roundw
                        case rel => exact ⟨g + 1, by omega, by go_num, R2, below_drewN E2 _⟩
                        case measure => simp [intOf]; omega
                      · skip
                        rw [wA_no hp hup] at HN
                        have R0 := hrow
                        have E0 := hbe
                        rw [wB_2 hB2] at HN
                        have x1 := R0.cell hri
                        have y1 := R0.frozen ri
                        have R1 := bools_set (p := ri) R0
                        have E1 := E0.setCell (p := ⟨w.heap.size, ri, none⟩) (Nat.le_refl _) (.bool true)
                        rw [wC_no hC hur] at HN
                        rw [← HN.out] at R1
                        have hd : decide (0 < op g) = false := by simpa using hB
                        clear HN hrow hbe R0 E0
                        go_wp2
                        go_quiet (fail)
                        go_wp2
                        go_roundw
                        case rel => exact ⟨g + 1, by omega, by go_num, R1, below_drewN E1 _⟩
                        case measure => simp [intOf]; omega
                    · skip
                      rw [wA_no hp hup] at HN
                      have R0 := hrow
                      have E0 := hbe
                      rw [wB_2 hB2] at HN
                      have x1 := R0.cell hri
                      have y1 := R0.frozen ri
                      have R1 := bools_set (p := ri) R0
                      have E1 := E0.setCell (p := ⟨w.heap.size, ri, none⟩) (Nat.le_refl _) (.bool true)
                      rw [wC_few hC] at HN
                      rw [← HN.out] at R1
                      have hd : decide (0 < op g) = false := by simpa using hB
                      clear HN hrow hbe R0 E0
                      go_wp2
                      go_quiet (fail)
                      go_wp2
                      go_roundw
                      case rel => exact ⟨g + 1, by omega, by go_num, R1, below_drewN E1 _⟩
                      case measure => simp [intOf]; omega
                  · skip
                    by_cases hC : 2 ≤ c g
                    · by_cases hur : 0 < U ri
                      · skip
                        rw [wA_no hp hup] at HN
                        have R0 := hrow
                        have E0 := hbe
                        rw [wB_3 hB hB2] at HN
                        rw [wC_yes hC hur] at HN
                        have x1 := R0.cell hri
                        have y1 := R0.frozen ri
                        have R1 := bools_set (p := ri) R0
                        have E1 := E0.setCell (p := ⟨w.heap.size, ri, none⟩) (Nat.le_refl _) (.bool true)
                        rw [← HN.out] at R1
                        have hd : decide (0 < op g) = false := by simpa using hB
                        clear HN hrow hbe R0 E0
                        go_wp2
                        go_quiet (fail)
                        go_wp2
                        go_roundw
                        case rel => exact ⟨g + 1, by omega, by go_num, R1, below_drewN E1 _⟩
                        case measure => simp [intOf]; omega
                      · skip
                        rw [wA_no hp hup] at HN
                        have R0 := hrow
                        have E0 := hbe
                        rw [wB_3 hB hB2] at HN
                        rw [wC_no hC hur] at HN
                        rw [← HN.out] at R0
                        have hd : decide (0 < op g) = false := by simpa using hB
                        clear HN hrow hbe
                        go_wp2
                        go_quiet (fail)
                        go_wp2
                        go_roundw
                        case rel => exact ⟨g + 1, by omega, by go_num, R0, below_drewN E0 _⟩
                        case measure => simp [intOf]; omega
                    · skip
                      rw [wA_no hp hup] at HN
                      have R0 := hrow
                      have E0 := hbe
                      rw [wB_3 hB hB2] at HN
                      rw [wC_few hC] at HN
                      rw [← HN.out] at R0
                      have hd : decide (0 < op g) = false := by simpa using hB
                      clear HN hrow hbe
                      go_wp2
                      go_quiet (fail)
                      go_wp2
                      go_roundw
                      case rel => exact ⟨g + 1, by omega, by go_num, R0, below_drewN E0 _⟩
                      case measure => simp [intOf]; omega
        · have hkn : g = n := by omega
          subst hkn
          clear hb hl hz hu hk hc
          go_wp2
          go_ret
          exact ⟨rfl, hbe, hrow⟩
end Go.Proofs.Qxb6619458a
