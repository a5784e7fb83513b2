/- The walk: place. -/
import Derived.Test.Qxb6619458aWalkD
import Derived.Test.Qxb6619458aPlain
namespace Go.Proofs.Qxb6619458a
open Go.RowKit Go.Deep

/-- HOW A STATE LIES IN MEMORY: the row of pointers at B, the records behind it, the row of last records, the map, the summary; the open counts in block O. -/
structure Mem (w : World) (B m n O : Nat) (oa : Option Addr) (oc : Nat) (tv : Nat → Value) (U : Nat → Nat) (st : St) : Prop where
  rs : w.rowIs B 40 m (fun j => .pointer (some ⟨B + 1 + j, 0, none⟩))
  recs : ∀ j, j < m → IsRec w (B + 1 + j) (tv j) (U j) (st.cl j)
  lst : w.rowIs (B + 1 + m) 40 n (fun g => lp B (st.la g))
  sm : w.heap[B + 3 + m]? = some (.cells (sumCells (.slice (some ⟨B + 1 + m, 0, none⟩) n n) (.slice oa n oc) (B + 2 + m)) 96 (0, 0))
  own : 0 < n → oa = some ⟨O, 0, none⟩ ∧ O < B ∧ w.rowIs O 3 n (fun g => .int .i64 (st.op g))

/-- What a stretch of 'place' turns: of the blocks below B the one of the open counts alone. -/
structure Kept (O B : Nat) (w w' : World) : Prop where
  os : w'.os = w.os
  tape : w'.tape = w.tape
  output : w'.output = w.output
  size : w'.heap.size = w.heap.size
  block : ∀ k, k < B → k ≠ O → w'.heap[k]? = w.heap[k]?

theorem Kept.refl (O B : Nat) (w : World) : Kept O B w w := ⟨rfl, rfl, rfl, rfl, fun _ _ _ => rfl⟩
theorem Kept.trans {O B : Nat} {a b c : World} (h : Kept O B a b) (k : Kept O B b c) : Kept O B a c :=
  ⟨k.os.trans h.os, k.tape.trans h.tape, k.output.trans h.output, k.size.trans h.size, fun i hi ho => (k.block i hi ho).trans (h.block i hi ho)⟩
theorem Kept.set {O B : Nat} {a w : World} (h : Kept O B a w) {p : Addr} (hp : B ≤ p.block ∨ p.block = O) (u : Value) : Kept O B a (w.setCell p u) :=
  h.trans ⟨rfl, rfl, rfl, by simp, fun k hk ho => Below.heap_setCell _ _ _ _ (by omega)⟩

def setT (f : Nat → Bool) (p : Nat) : Nat → Bool := fun k => if k = p then true else f k

theorem rec_clash' {w : World} {b un : Nat} {tv : Value} {cl : Bool} (h : IsRec w b tv un cl) : IsRec (w.setCell ⟨b, 5, none⟩ (.bool true)) b tv un true := by
  obtain ⟨ua, uc, e⟩ := h
  refine ⟨ua, uc, ?_⟩
  simp [World.setCell, Array.getElem?_modify, e, recCells]

section
variable {w : World} {B m n O oc : Nat} {oa : Option Addr} {tv : Nat → Value} {U : Nat → Nat} {st : St}

theorem mem_clash (h : Mem w B m n O oa oc tv U st) {p : Nat} (hp : p < m) : Mem (w.setCell ⟨B + 1 + p, 5, none⟩ (.bool true)) B m n O oa oc tv U { st with cl := setT st.cl p } := by
  refine ⟨h.rs.setOther (by show B ≠ B + 1 + p; omega) _, fun j hj => ?_, h.lst.setOther (by show B + 1 + m ≠ B + 1 + p; omega) _, ?_, fun hn => ?_⟩
  · by_cases e : j = p
    · subst e
      simpa [setT] using rec_clash' (h.recs j hj)
    · have := (h.recs j hj).of_block (w' := w.setCell ⟨B + 1 + p, 5, none⟩ (.bool true)) (blk_setCell_other _ _ _ _ (by show B + 1 + j ≠ B + 1 + p; omega))
      simpa [setT, e] using this
  · rw [blk_setCell_other _ _ _ _ (by show B + 3 + m ≠ B + 1 + p; omega)]; exact h.sm
  · obtain ⟨h1, h2, h3⟩ := h.own hn
    exact ⟨h1, h2, h3.setOther (by show O ≠ B + 1 + p; omega) _⟩

theorem mem_last (h : Mem w B m n O oa oc tv U st) (g ri : Nat) : Mem (w.setCell ⟨B + 1 + m, g, none⟩ (.pointer (some ⟨B + 1 + ri, 0, none⟩))) B m n O oa oc tv U { st with la := fun x => if x = g then (ri : Int) else st.la x } := by
  refine ⟨h.rs.setOther (by show B ≠ B + 1 + m; omega) _, fun j hj => (h.recs j hj).of_block (blk_setCell_other _ _ _ _ (by show B + 1 + j ≠ B + 1 + m; omega)), (h.lst.set g _).congr fun j _ => ?_, ?_, fun hn => ?_⟩
  · by_cases e : j = g
    · subst e; simp [lp]
    · simp [e]
  · rw [blk_setCell_other _ _ _ _ (by show B + 3 + m ≠ B + 1 + m; omega)]; exact h.sm
  · obtain ⟨h1, h2, h3⟩ := h.own hn
    exact ⟨h1, h2, h3.setOther (by show O ≠ B + 1 + m; omega) _⟩

theorem mem_open (h : Mem w B m n O oa oc tv U st) (hn : 0 < n) (g : Nat) (v : Int) : Mem (w.setCell ⟨O, g, none⟩ (.int .i64 v)) B m n O oa oc tv U { st with op := fun x => if x = g then v else st.op x } := by
  obtain ⟨h1, h2, h3⟩ := h.own hn
  refine ⟨h.rs.setOther (by show B ≠ O; omega) _, fun j hj => (h.recs j hj).of_block (blk_setCell_other _ _ _ _ (by show B + 1 + j ≠ O; omega)), h.lst.setOther (by show B + 1 + m ≠ O; omega) _, ?_, fun _ => ⟨h1, h2, (h3.set g _).congr fun j _ => ?_⟩⟩
  · rw [blk_setCell_other _ _ _ _ (by show B + 3 + m ≠ O; omega)]; exact h.sm
  · by_cases e : j = g
    · subst e; simp
    · simp [e]

theorem Mem.st_eq {st' : St} (h : Mem w B m n O oa oc tv U st) (e : st = st') : Mem w B m n O oa oc tv U st' := e ▸ h

theorem rec_cl {b un : Nat} {t : Value} {cl : Bool} (h : IsRec w b t un cl) : w.cell? ⟨b, 5, none⟩ = some (.bool cl) := by
  obtain ⟨ua, uc, e⟩ := h
  simp [World.cell?, e, recCells]
theorem rec_fr {b un : Nat} {t : Value} {cl : Bool} (h : IsRec w b t un cl) (o : Nat) : w.frozen? ⟨b, o, none⟩ = false := by
  obtain ⟨ua, uc, e⟩ := h
  simp [World.frozen?, e]
theorem rec_un {b un : Nat} {t : Value} {cl : Bool} (h : IsRec w b t un cl) : ∃ ua uc, w.cell? ⟨b, 4, none⟩ = some (.slice ua un uc) := by
  obtain ⟨ua, uc, e⟩ := h
  exact ⟨ua, uc, by simp [World.cell?, e, recCells]⟩
theorem rec_to {b un : Nat} {t : Value} {cl : Bool} (h : IsRec w b t un cl) : w.cell? ⟨b, 3, none⟩ = some t := by
  obtain ⟨ua, uc, e⟩ := h
  simp [World.cell?, e, recCells]
end

/-! ### The states of one round -/
theorem step_cl1 (U : Nat → Nat) (ri g : Nat) (s : St) (h1 : 0 < s.op g) (h2 : s.la g < 0) : setT s.cl ri = (step U ri s g).cl := by
  funext k
  have h2' : ¬ 0 ≤ s.la g := by omega
  by_cases e : k = ri <;> simp [setT, step, h1, h2', e]
theorem step_cl0 (U : Nat → Nat) (ri g : Nat) (s : St) (h1 : ¬ 0 < s.op g) (h2 : s.la g < 0) : s.cl = (step U ri s g).cl := by
  funext k
  have h2' : ¬ 0 ≤ s.la g := by omega
  simp [step, h1, h2']
theorem step_cl1n (U : Nat → Nat) (ri g p : Nat) (s : St) (h1 : 0 < s.op g) (h2 : s.la g = p) (h3 : ¬ 0 < U p) : setT s.cl ri = (step U ri s g).cl := by
  funext k
  have hi : ((k : Int) = (p : Int)) ↔ k = p := by omega
  by_cases e2 : k = p
  · subst e2; by_cases e : k = ri <;> simp [setT, step, h1, h2, h3, e]
  · by_cases e : k = ri <;> simp [setT, step, h1, h2, hi, e, e2]
theorem step_cl0n (U : Nat → Nat) (ri g p : Nat) (s : St) (h1 : ¬ 0 < s.op g) (h2 : s.la g = p) (h3 : ¬ 0 < U p) : s.cl = (step U ri s g).cl := by
  funext k
  have hi : ((k : Int) = (p : Int)) ↔ k = p := by omega
  by_cases e2 : k = p
  · subst e2; simp [step, h1, h2, h3]
  · simp [step, h1, h2, hi, e2]
theorem step_cl1y (U : Nat → Nat) (ri g p : Nat) (s : St) (h1 : 0 < s.op g) (h2 : s.la g = p) (h3 : 0 < U p) : setT (setT s.cl ri) p = (step U ri s g).cl := by
  funext k
  have hi : ((k : Int) = (p : Int)) ↔ k = p := by omega
  by_cases e2 : k = p
  · subst e2; simp [setT, step, h2, h3]
  · by_cases e : k = ri <;> simp [setT, step, h1, h2, hi, e, e2]
theorem step_cl0y (U : Nat → Nat) (ri g p : Nat) (s : St) (h1 : ¬ 0 < s.op g) (h2 : s.la g = p) (h3 : 0 < U p) : setT s.cl p = (step U ri s g).cl := by
  funext k
  have hi : ((k : Int) = (p : Int)) ↔ k = p := by omega
  by_cases e2 : k = p
  · subst e2; simp [setT, step, h2, h3]
  · simp [setT, step, h1, h2, hi, e2]
end Go.Proofs.Qxb6619458a
