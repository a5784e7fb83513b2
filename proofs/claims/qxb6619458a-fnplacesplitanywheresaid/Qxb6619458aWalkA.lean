/- The walks: cloneInts, cloneIntss. -/
import Derived.Test.Qxb6619458aMem
import Derived.Deep.RegionWith
import Derived.Deep.QuietTactic
import Derived.BigQuiet
namespace Go.Proofs.Qxb6619458a
open Go.RowKit Go.Deep

/-- What stands in a row of numbers of which the first k are laid. -/
def part (z : Nat → Int) (k : Nat) : Nat → Value := fun j => if j < k then .int .i64 (z j) else .int .i64 0

theorem part_set {w : World} {b n k : Nat} {z : Nat → Int} (h : w.rowIs b 3 n (part z k)) : (w.setCell ⟨b, k, none⟩ (.int .i64 (z k))).rowIs b 3 n (part z (k + 1)) := by
  refine (h.set k _).congr fun j _ => ?_
  unfold part
  by_cases e : j = k
  · subst e; simp
  · rw [if_neg e]
    by_cases hlt : j < k
    · rw [if_pos hlt, if_pos (by omega)]
    · rw [if_neg hlt, if_neg (by omega)]

theorem part_full {w : World} {b n : Nat} {z : Nat → Int} (h : w.rowIs b 3 n (part z n)) : w.rowIs b 3 n (fun j => .int .i64 (z j)) :=
  h.congr fun j hj => by simp [part, hj]

/-- What cloneInts leaves: a slice of as many numbers, the same, in a block of its own. -/
structure Cloned (w : World) (n : Nat) (z : Nat → Int) (e : Ending) (w' : World) : Prop where
  out : ∃ a' c', e = .returned (.slice a' n c') ∧ (a' = none → n = 0) ∧ Below w.heap.size w w' ∧ OwnAt w.heap.size w' a' 3 n (fun i => .int .i64 (z i))

set_option maxHeartbeats 400000 in
theorem cloneInts_any (a : Option Addr) (n c : Nat) (z : Nat → Int) (w : World) (ha : a = none → n = 0) (hn : n ≤ 1048576) (hr : RowAt w a n (fun i => .int .i64 (z i))) :
    Calls Try.prog 11 #[.slice a n c] w fun e w' => Cloned w n z e w' := by
  have q23 : ∀ (w : World) (a : Option Addr) (n c n' c' : Nat), (binOp .eql 23 (.slice a n c) (.slice none n' c')).run Try.prog w = .ok (.bool a.isNone) w := fun w a n c n' c' => Lib.run_eql_slice_nil w _ _ a n c n' c' Try.underlying23
  cases a with
  | none =>
    obtain rfl := ha rfl
    go_enter Try.func11, Try.ntmps11
    go_wp2
    go_ret
    exact ⟨none, _, rfl, fun _ => rfl, Below.refl _ _, fun h => absurd h (by omega)⟩
  | some a =>
    have hmk := run_make_row' (P := Try.prog) 23 3 (.int .i64 0) 8 Try.underlying23 Try.info3 rfl .i64 .i64 n (by omega) (by omega)
    go_enter Try.func11, Try.ntmps11
    go_wp2
    clear hmk q23
    go_loopw [4] (fun i wr => ∃ k : Nat, k ≤ n ∧ i = .int .i64 k ∧ wr.rowIs w.heap.size 3 n (part z k) ∧ Below w.heap.size w wr) (fun i _ => n - (intOf i).toNat)
    case atStart => exact ⟨0, Nat.zero_le _, rfl, (World.rowIs_made w (.int .i64 0) n 3).congr (fun j _ => by simp [part]), below_made _ _⟩
    case round =>
      obtain ⟨k, hk, rfl, hrow, hb⟩ := hrel
      by_cases hlt : k < n
      · obtain ⟨b, o, ea, hc⟩ := hr k hlt
        cases ea
        have g1 : wr.cell? ⟨b, o + k, none⟩ = some (.int .i64 (z k)) := cell_later hb hc
        have g2 : wr.cell? ⟨w.heap.size, k, none⟩ = some (part z k k) := hrow.cell hlt
        have g3 : wr.frozen? ⟨w.heap.size, k, none⟩ = false := hrow.frozen k
        have R1 := part_set hrow
        have R2 : Below w.heap.size w (wr.setCell ⟨w.heap.size, k, none⟩ (.int .i64 (z k))) := hb.setCell (Nat.le_refl _) _
        clear hrow hb hc hr
        go_wp2
        go_roundw
        case rel => exact ⟨k + 1, by omega, by go_num, R1, R2⟩
        case measure => simp [intOf]; omega
      · have hkn : k = n := by omega
        subst hkn
        go_wp2
        go_ret
        exact ⟨_, _, rfl, (fun h => by cases h), hb, fun _ => ⟨w.heap.size, Nat.le_refl _, rfl, part_full hrow⟩⟩

/-! ### cloneIntss -/

/-- Of the new row of slices: the first k are laid. -/
def LensPart (n k : Nat) (U : Nat → Nat) (f : Nat → Value) : Prop := ∀ j, j < n → if j < k then ∃ a' c', f j = .slice a' (U j) c' else f j = .slice none 0 0

theorem LensPart.step {n k : Nat} {U : Nat → Nat} {f : Nat → Value} (h : LensPart n k U f) (a' : Option Addr) (c' : Nat) : LensPart n (k + 1) U (fun j => if j = k then .slice a' (U k) c' else f j) := by
  intro j hj
  have := h j hj
  by_cases e : j = k
  · subst e; simp
  · by_cases hlt : j < k
    · rw [if_pos hlt] at this
      rw [if_pos (by omega)]
      simpa [e] using this
    · rw [if_neg hlt] at this
      rw [if_neg (by omega)]
      simpa [e] using this

/-- What cloneIntss leaves: a slice of as many slices, of the same lengths, in a block of its own. -/
structure Clonedd (w : World) (n : Nat) (U : Nat → Nat) (e : Ending) (w' : World) : Prop where
  out : ∃ a' c', e = .returned (.slice a' n c') ∧ Below w.heap.size w w' ∧ (0 < n → ∃ b f, w.heap.size ≤ b ∧ a' = some ⟨b, 0, none⟩ ∧ w'.rowIs b 23 n f ∧ LensPart n n U f)

set_option maxHeartbeats 400000 in
theorem cloneIntss_any (a : Option Addr) (n c : Nat) (U : Nat → Nat) (w : World) (ha : a = none → n = 0) (hn : n ≤ 1048576) (hU : ∀ i, i < n → U i ≤ 1048576) (hr : IntssAt w a n U) :
    Calls Try.prog 27 #[.slice a n c] w fun e w' => Clonedd w n U e w' := by
  have q23 : ∀ (w : World) (a : Option Addr) (n c n' c' : Nat), (binOp .eql 55 (.slice a n c) (.slice none n' c')).run Try.prog w = .ok (.bool a.isNone) w := fun w a n c n' c' => Lib.run_eql_slice_nil w _ _ a n c n' c' Try.underlying55
  cases a with
  | none =>
    obtain rfl := ha rfl
    go_enter Try.func27, Try.ntmps27
    go_wp2
    go_ret
    exact ⟨none, _, rfl, Below.refl _ _, fun h => absurd h (by omega)⟩
  | some a =>
    have hmk := run_make_row' (P := Try.prog) 55 23 (.slice none 0 0) 24 Try.underlying55 Try.info23 rfl .i64 .i64 n (by omega) (by omega)
    go_enter Try.func27, Try.ntmps27
    go_wp2
    clear hmk q23
    go_loopw [4] (fun i wr => ∃ k : Nat, k ≤ n ∧ i = .int .i64 k ∧ (∃ f, wr.rowIs w.heap.size 23 n f ∧ LensPart n k U f) ∧ Below w.heap.size w wr) (fun i _ => n - (intOf i).toNat)
    case atStart => exact ⟨0, Nat.zero_le _, rfl, ⟨_, World.rowIs_made w (.slice none 0 0) n 23, fun j _ => by simp⟩, below_made _ _⟩
    case round =>
      obtain ⟨k, hk, rfl, ⟨f, hrow, hf⟩, hb⟩ := hrel
      by_cases hlt : k < n
      · obtain ⟨b, o, a', c', ea, hc, hnil, z, hz⟩ := hr.below hb k hlt
        cases ea
        have hUk := hU k hlt
        clear hr hU
        go_wp2_with fail
        refine (cloneInts_any a' (U k) c' z wr (fun h => (hnil h).1) hUk hz).mono ?_
        rintro e w1 ⟨a2, c2, rfl, _, hb2, _⟩
        have hrow1 := hrow.of_block (hb2.block _ hrow.lt)
        have hb1 : Below w.heap.size w w1 := hb.trans (hb2.mono hb.size)
        have g2 : w1.cell? ⟨w.heap.size, k, none⟩ = some (f k) := hrow1.cell hlt
        have g3 : w1.frozen? ⟨w.heap.size, k, none⟩ = false := hrow1.frozen k
        have R1 := hrow1.set k (.slice a2 (U k) c2)
        have R2 : Below w.heap.size w (w1.setCell ⟨w.heap.size, k, none⟩ (.slice a2 (U k) c2)) := hb1.setCell (Nat.le_refl _) _
        have R3 := hf.step a2 c2
        clear hrow hb hc hz hrow1 hb1 hb2 hf hnil
        go_wp2
        go_roundw
        case rel => exact ⟨k + 1, by omega, by go_num, ⟨_, R1, R3⟩, R2⟩
        case measure => simp [intOf]; omega
      · have hkn : k = n := by omega
        subst hkn
        go_wp2
        go_ret
        exact ⟨_, _, rfl, hb, fun _ => ⟨w.heap.size, f, Nat.le_refl _, rfl, hrow, hf⟩⟩
end Go.Proofs.Qxb6619458a
