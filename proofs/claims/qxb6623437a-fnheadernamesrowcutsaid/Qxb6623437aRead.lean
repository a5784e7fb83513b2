/- How the laws' arguments are read. -/
import Derived.Test.Qxb6623437aMem
import Derived.ProofKit
import Derived.OpenShut
import Derived.ShutString
import Derived.ChangeOld
import Derived.Deep.Strs
namespace Go.Proofs.Qxb6623437a
open Go.ChangeShapes Go.WideShapes Go.ChangeAt Go.RowKit Go.Deep

theorem own : ownKnob Try.prog.godebug = none := by kernel_rfl
theorem laidOut : laidOutB Try.prog = true := by kernel_rfl
theorem Try.cells9 : Try.prog.cellsOf 9 = 1 := by kernel_rfl
theorem Try.cells24 : Try.prog.cellsOf 24 = 1 := by kernel_rfl

theorem strAt_of {W : World} {a : Addr} {n : Nat} {S : Nat → ByteArray} (h : ∀ i, i < n → W.cell? (a.add i) = some (.string (S i))) : StrAt W (some a) ((List.range n).map S) := by
  intro j x hj
  have hjn : j < n ∧ S j = x := by
    rw [List.getElem?_map] at hj
    by_cases hjn : j < n
    · rw [List.getElem?_range hjn] at hj
      simp at hj
      exact ⟨hjn, hj⟩
    · rw [List.getElem?_eq_none (by simp; omega)] at hj
      simp at hj
  obtain ⟨b, off, spot⟩ := a
  have hspot : spot = none := by simpa [Addr.add] using World.cell?_spot (h 0 (by omega))
  subst hspot
  exact ⟨b, off, rfl, by rw [← add_plain, ← hjn.2]; exact h j hjn.1⟩

section
variable {H : Type} {enc : TypeId × Value → H} {W : World} {a : Option Addr} {len cap : Nat} {d : DataW H} {p : List MemPlace}

theorem read_cell {fuel : Nat} {v : Value} {x : DataW H × List MemPlace} (hf : DataW.trod enc Try.prog W 0 (fun _ => true) true fuel 24 [v] = some x) : ∃ (a : Option Addr) (c : Nat) (xs : List ByteArray), v = .slice a xs.length c ∧ xs.length ≤ c ∧ StrAt W a xs := by
  rcases open_strs Try.underlying24 Try.underlying9 Try.cells9 hf with ⟨hcs, _⟩ | ⟨x, l, c, m, S, hcs, _, hl, hm, hz, _, hcell⟩
  · simp at hcs
    subst hcs
    exact ⟨none, 0, [], rfl, Nat.le_refl _, fun j x hj => by simp at hj⟩
  · simp at hcs
    subst hcs
    simp only [if_true] at hz
    exact ⟨some x, c, (List.range l).map S, by simp, by simpa using hl, strAt_of fun i hi => (hcell i (by omega)).1⟩

theorem read_strs (h : DataW.Trod enc Try.prog W 0 (fun _ => true) true 24 (.slice a len cap) d p) : ∃ xs : List ByteArray, xs.length = len ∧ len ≤ cap ∧ StrAt W a xs := by
  obtain ⟨fuel, hf⟩ := h
  obtain ⟨a', c', xs, e, h1, h2⟩ := read_cell (v := .slice a len cap) hf
  cases e
  exact ⟨xs, rfl, h1, h2⟩

theorem read_rows (h : DataW.Trod enc Try.prog W 0 (fun _ => true) true 22 (.slice a len cap) d p) : ∃ R : List (List ByteArray), R.length = len ∧ len ≤ cap ∧ RowsAt W a R := by
  obtain ⟨fuel, hf⟩ := h
  rcases open_slice1 Try.underlying22 Try.cells24 hf with ⟨hcs, _⟩ | ⟨x, l, c, m, n, V, D, Pl, hcs, _, hl, hm, hmm, _, hx⟩
  · simp [Value.cells] at hcs
    obtain ⟨rfl, rfl, rfl⟩ := hcs
    exact ⟨[], rfl, Nat.le_refl _, fun i r hi => by simp at hi⟩
  · simp [Value.cells] at hcs
    obtain ⟨rfl, rfl, rfl⟩ := hcs
    simp only [if_true] at hmm
    have key : ∀ i, i < len → ∃ y : List ByteArray, ∃ (a' : Option Addr) (c' : Nat), V i = .slice a' y.length c' ∧ y.length ≤ c' ∧ StrAt W a' y := fun i hi => by
      obtain ⟨a', c', xs, e, k1, k2⟩ := read_cell (hx i (by omega)).2
      exact ⟨xs, a', c', e, k1, k2⟩
    obtain ⟨F, hF⟩ := choose_lt (α := List ByteArray) (p := fun i y => ∃ (a' : Option Addr) (c' : Nat), V i = .slice a' y.length c' ∧ y.length ≤ c' ∧ StrAt W a' y) key
    refine ⟨(List.range len).map F, by simp, hl, fun i r hi => ?_⟩
    have hil : i < len ∧ F i = r := by
      rw [List.getElem?_map] at hi
      by_cases hjn : i < len
      · rw [List.getElem?_range hjn] at hi
        simp at hi
        exact ⟨hjn, hi⟩
      · rw [List.getElem?_eq_none (by simp; omega)] at hi
        simp at hi
    obtain ⟨hil, rfl⟩ := hil
    obtain ⟨a', c', e, k1, k2⟩ := hF i hil
    have hc : ∀ j, j < len → W.cell? (x.add j) = some (V j) := fun j hj => (hx j (by omega)).1
    obtain ⟨b, off, spot⟩ := x
    have hspot : spot = none := by simpa [Addr.add] using World.cell?_spot (hc 0 (by omega))
    subst hspot
    exact ⟨b, off, a', c', rfl, by rw [← add_plain, hc i hil, e], k1, k2⟩
end
end Go.Proofs.Qxb6623437a
