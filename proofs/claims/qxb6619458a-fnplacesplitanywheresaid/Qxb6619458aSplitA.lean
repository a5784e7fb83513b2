/- For FnPlaceSplitAnywhere: the guard's walk, a copy with its capacity, ZZSetTo; how two summaries lie side by side. -/
import Derived.Test.Qxb6619458aWalkI
namespace Go.Proofs.Qxb6619458a
open Go.RowKit Go.Deep

set_option maxHeartbeats 400000 in
theorem zzBytes32 (a0 a1 a2 a3 a5 : Option Addr) (n0 n1 n2 n3 n5 c0 c1 c2 c3 c5 : Nat) (ri cut : Int) (U : Nat → Nat) (w : World) (hr : LensAt w a2 n2 U) :
    Calls Try.prog 32 #[.slice a0 n0 c0, .slice a1 n1 c1, .slice a2 n2 c2, .slice a3 n3 c3, .int .i64 ri, .slice a5 n5 c5, .int .i64 cut] w fun e w' => BytesSay n0 n1 n2 n3 n5 U w e w' := by
  go_enter Try.func32, Try.ntmps32
  go_wp2
  all_goals try (go_ret; exact BytesSay.no)
  go_loop [15, 16] (fun t i => ∃ k s : Nat, k ≤ n2 ∧ s ≤ 1048576 ∧ i = .int .i64 k ∧ t = .int .i64 s ∧ ∀ j, j < k → U j ≤ 1048576) (fun _ i => n2 - (intOf i).toNat)
  case atStart => exact ⟨0, n0 + n1 + n2, by omega, by omega, rfl, by go_num, fun j h => absurd h (by omega)⟩
  case round =>
    obtain ⟨k, s, hk, hs, rfl, rfl, hU⟩ := hrel
    by_cases hlt : k < n2
    · obtain ⟨b, o, a', c', ea, hc⟩ := hr k hlt
      cases ea
      clear hr
      go_wp2
      all_goals try (go_ret; exact BytesSay.no)
      go_round
      case rel => exact ⟨k + 1, s + U k, by omega, by omega, by go_num, by go_num, lens_step hU (by omega)⟩
      case measure => simp [intOf]; omega
    · have hkn : k = n2 := by omega
      subst hkn
      clear hr
      go_wp2
      all_goals try (go_ret; exact BytesSay.no)
      go_ret
      exact ⟨true, rfl, rfl, fun _ => ⟨by omega, by omega, by omega, by omega, by omega, hU⟩⟩

/-- What cloneInts leaves, its capacity told. -/
structure ClonedN (w : World) (n : Nat) (z : Nat → Int) (e : Ending) (w' : World) : Prop where
  out : ∃ a', e = .returned (.slice a' n n) ∧ (a' = none → n = 0) ∧ Below w.heap.size w w' ∧ (∀ x, a' = some x → x = ⟨w.heap.size, 0, none⟩) ∧ OwnAt w.heap.size w' a' 3 n (fun i => .int .i64 (z i))

set_option maxHeartbeats 400000 in
theorem cloneInts_n (a : Option Addr) (n c : Nat) (z : Nat → Int) (w : World) (ha : a = none → n = 0) (hn : n ≤ 1048576) (hr : RowAt w a n (fun i => .int .i64 (z i))) :
    Calls Try.prog 11 #[.slice a n c] w fun e w' => ClonedN w n z e w' := by
  have q23 : ∀ (w : World) (a : Option Addr) (n c n' c' : Nat), (binOp .eql 23 (.slice a n c) (.slice none n' c')).run Try.prog w = .ok (.bool a.isNone) w := fun w a n c n' c' => Lib.run_eql_slice_nil w _ _ a n c n' c' Try.underlying23
  cases a with
  | none =>
    obtain rfl := ha rfl
    go_enter Try.func11, Try.ntmps11
    go_wp2
    go_ret
    exact ⟨none, rfl, fun _ => rfl, Below.refl _ _, (fun x h => by cases h), fun h => absurd h (by omega)⟩
  | some a =>
    have hmk := run_make_row' (P := Try.prog) 23 3 (.int .i64 0) 8 Try.underlying23 Try.info3 rfl .i64 .i64 n (by omega) (by omega)
    go_enter Try.func11, Try.ntmps11
    go_wp2
    clear hmk q23
    go_loopw [4] (fun i wr => ∃ k : Nat, k ≤ n ∧ i = .int .i64 k ∧ wr.rowIs w.heap.size 3 n (part z k) ∧ Below w.heap.size w wr) (fun i _ => n - (intOf i).toNat)
    case atStart => exact ⟨0, Nat.zero_le _, rfl, (World.rowIs_made w (.int .i64 0) n 3).congr (fun j _ => by simp [part]), below_made _ _⟩
    case round =>
      obtain ⟨k, hk, rfl, hrow, hb⟩ := hrel
      by_cases hlt : k < n
      · obtain ⟨b, o, ea, hc⟩ := hr k hlt
        cases ea
        have g1 : wr.cell? ⟨b, o + k, none⟩ = some (.int .i64 (z k)) := cell_later hb hc
        have g2 : wr.cell? ⟨w.heap.size, k, none⟩ = some (part z k k) := hrow.cell hlt
        have g3 : wr.frozen? ⟨w.heap.size, k, none⟩ = false := hrow.frozen k
        have R1 := part_set hrow
        have R2 : Below w.heap.size w (wr.setCell ⟨w.heap.size, k, none⟩ (.int .i64 (z k))) := hb.setCell (Nat.le_refl _) _
        clear hrow hb hc hr
        go_wp2
        go_roundw
        case rel => exact ⟨k + 1, by omega, by go_num, R1, R2⟩
        case measure => simp [intOf]; omega
      · have hkn : k = n := by omega
        subst hkn
        go_wp2
        go_ret
        exact ⟨_, rfl, (fun h => by cases h), hb, (fun x h => by cases h; rfl), fun _ => ⟨w.heap.size, Nat.le_refl _, rfl, part_full hrow⟩⟩

theorem zzSetTo (b tn tc : Nat) (ta : Option Addr) (u : Value) (w : World) (hc : w.cell? ⟨b, 3, none⟩ = some u) (hf : w.frozen? ⟨b, 3, none⟩ = false) :
    Calls Try.prog 33 #[.pointer (some ⟨b, 0, none⟩), .slice ta tn tc] w fun e w' => e = .returned (.tuple #[]) ∧ w' = w.setCell ⟨b, 3, none⟩ (.slice ta tn tc) := by
  go_enter Try.func33, Try.ntmps33
  go_wp2
  go_end0
  exact ⟨rfl, rfl⟩

theorem rec_setTo {w : World} {b un : Nat} {tv u : Value} {cl : Bool} (h : IsRec w b tv un cl) : IsRec (w.setCell ⟨b, 3, none⟩ u) b u un cl := by
  obtain ⟨ua, uc, e⟩ := h
  refine ⟨ua, uc, ?_⟩
  simp [World.setCell, Array.getElem?_modify, e, recCells]

def setV (tv : Nat → Value) (p : Nat) (u : Value) : Nat → Value := fun j => if j = p then u else tv j

section
variable {w w' : World} {B m n O oc : Nat} {oa : Option Addr} {tv : Nat → Value} {U : Nat → Nat} {st : St}

theorem mem_setTo (h : Mem w B m n O oa oc tv U st) {p : Nat} (hp : p < m) (u : Value) : Mem (w.setCell ⟨B + 1 + p, 3, none⟩ u) B m n O oa oc (setV tv p u) U st := by
  refine ⟨h.rs.setOther (by show B ≠ B + 1 + p; omega) _, fun j hj => ?_, h.lst.setOther (by show B + 1 + m ≠ B + 1 + p; omega) _, ?_, fun hn => ?_⟩
  · by_cases e : j = p
    · subst e
      simpa [setV] using rec_setTo (h.recs j hj)
    · have := (h.recs j hj).of_block (w' := w.setCell ⟨B + 1 + p, 3, none⟩ u) (blk_setCell_other _ _ _ _ (by show B + 1 + j ≠ B + 1 + p; omega))
      simpa [setV, e] using this
  · rw [blk_setCell_other _ _ _ _ (by show B + 3 + m ≠ B + 1 + p; omega)]; exact h.sm
  · obtain ⟨h1, h2, h3⟩ := h.own hn
    exact ⟨h1, h2, h3.setOther (by show O ≠ B + 1 + p; omega) _⟩

/-- A summary in a later world in which its own blocks are as they were. -/
theorem Mem.blocks (h : Mem w B m n O oa oc tv U st) (hb : ∀ b, (B ≤ b ∧ b < B + 4 + m) ∨ (0 < n ∧ b = O) → w'.heap[b]? = w.heap[b]?) : Mem w' B m n O oa oc tv U st := by
  refine ⟨h.rs.of_block (hb _ (.inl (by omega))), fun j hj => (h.recs j hj).of_block (hb _ (.inl (by omega))), h.lst.of_block (hb _ (.inl (by omega))), (hb _ (.inl (by omega))).trans h.sm, fun hn => ?_⟩
  obtain ⟨h1, h2, h3⟩ := h.own hn
  exact ⟨h1, h2, h3.of_block (hb _ (.inr ⟨hn, rfl⟩))⟩

theorem mem_of_built2 {W W' : World} {lim : Nat} {r : Int} {tv : Value} {zo zl : Nat → Int} {cl : Nat → Bool} (S : OwnAt lim W oa 3 n (fun i => .int .i64 (zo i))) (hlim : lim ≤ W.heap.size)
    (h : Built W W' m n n r tv (.slice oa n oc) U cl zl) : ∃ O, lim ≤ O ∧ (0 < n → oa = some ⟨O, 0, none⟩ ∧ O < W.heap.size) ∧ (n = 0 → O = W.heap.size) ∧ Mem W' W.heap.size m n O oa oc (toOf r tv) U ⟨zo, zl, cl⟩ := by
  by_cases hn : 0 < n
  · obtain ⟨O, h1, h2, hr⟩ := S hn
    refine ⟨O, h1, fun _ => ⟨h2, hr.lt⟩, fun h => absurd h (by omega), h.rs, h.recs, h.lst.congr fun g hg => ?_, h.sm, fun _ => ⟨h2, hr.lt, hr.of_block (h.below.block _ hr.lt)⟩⟩
    simp [lasts, hg]
  · exact ⟨W.heap.size, hlim, fun h => absurd h hn, fun _ => rfl, h.rs, h.recs, h.lst.congr fun g hg => absurd hg (by omega), h.sm, fun h => absurd h hn⟩
end

theorem Kept.below {O B lim : Nat} {w w' : World} (k : Kept O B w w') (h1 : lim ≤ O) (h2 : lim ≤ B) : Below lim w w' :=
  ⟨k.os, k.tape, k.output, by rw [k.size]; exact Nat.le_refl _, fun i hi => k.block i (by omega) (by omega)⟩

theorem run_add (U : Nat → Nat) (ri : Nat) (t : Nat → Nat) (s : St) (c k : Nat) : run U ri (fun i => t (c + i)) (run U ri t s c) k = run U ri t s (c + k) := by
  induction k with
  | zero => rfl
  | succ k ih => show step U ri (run U ri (fun i => t (c + i)) (run U ri t s c) k) (t (c + k)) = step U ri (run U ri t s (c + k)) (t (c + k)); rw [ih]

theorem RowAt.upto {w : World} {a : Option Addr} {n c : Nat} {f : Nat → Value} (h : RowAt w a n f) (hc : c ≤ n) : RowAt w a c f := fun i hi => h i (by omega)

end Go.Proofs.Qxb6619458a
