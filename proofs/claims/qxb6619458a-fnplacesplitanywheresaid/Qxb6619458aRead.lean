/- How the arguments of the two laws over 'place' are read. -/
import Derived.Test.Qxb6619458aWalkI
import Derived.ProofKit
import Derived.ShutString
import Derived.ChangeOld
import Derived.Deep.Matrix
import Derived.Deep.Grids
namespace Go.Proofs.Qxb6619458a
open Go.ChangeShapes Go.WideShapes Go.ChangeAt Go.RowKit Go.Deep

theorem own : ownKnob Try.prog.godebug = none := by kernel_rfl
theorem laidOut : laidOutB Try.prog = true := by kernel_rfl

theorem inRange_of_wf {x : Int} (h : (Lit.int .i64 x).wf = true) : InRange x := by
  simp [Lit.wf, IntKind.min, IntKind.max, IntKind.signed, IntKind.bits] at h
  exact ⟨by omega, by omega⟩

theorem rowAt_of {W : World} {a : Addr} {n : Nat} {f : Nat → Value} (h : ∀ i, i < n → W.cell? (a.add i) = some (f i)) : RowAt W (some a) n f := by
  intro i hi
  obtain ⟨b, off, spot⟩ := a
  have hspot : spot = none := by simpa [Addr.add] using World.cell?_spot (h 0 (by omega))
  subst hspot
  exact ⟨b, off, rfl, by rw [← add_plain]; exact h i hi⟩

section
variable {H : Type} {enc : TypeId × Value → H} {W : World} {a : Option Addr} {len cap : Nat} {d : DataW H} {p : List MemPlace}

theorem read_ints (h : DataW.Trod enc Try.prog W 0 (fun _ => true) true 23 (.slice a len cap) d p) :
    ∃ z : Nat → Int, (a = none → len = 0) ∧ RowAt W a len (fun i => .int .i64 (z i)) ∧ ∀ i, i < len → InRange (z i) := by
  obtain ⟨fuel, hf⟩ := h
  rcases open_ints Try.underlying23 Try.underlying3 Try.cells3 hf with ⟨hcs, _⟩ | ⟨x, l, c, zs, hcs, _, hl, hm, hz, _, hcell, hwz⟩
  · simp [Value.cells] at hcs
    obtain ⟨rfl, rfl, rfl⟩ := hcs
    exact ⟨fun _ => 0, fun _ => rfl, fun i hi => absurd hi (by omega), fun i hi => absurd hi (by omega)⟩
  · simp [Value.cells] at hcs
    obtain ⟨rfl, rfl, rfl⟩ := hcs
    simp only [if_true] at hz
    refine ⟨fun i => zs.getD i 0, (fun h => by cases h), rowAt_of fun i hi => hcell i (by omega), fun i hi => inRange_of_wf (hwz _ ?_)⟩
    have hi' : i < zs.length := by omega
    show zs.getD i 0 ∈ zs
    rw [List.getD_eq_getElem?_getD, List.getElem?_eq_getElem hi']
    exact List.getElem_mem hi'

theorem read_bools (h : DataW.Trod enc Try.prog W 0 (fun _ => true) true 56 (.slice a len cap) d p) :
    ∃ v : Nat → Bool, (a = none → len = 0) ∧ RowAt W a len (fun i => .bool (v i)) := by
  obtain ⟨fuel, hf⟩ := h
  rcases open_bools Try.underlying56 Try.underlying4 Try.cells4 hf with ⟨hcs, _⟩ | ⟨x, l, c, B, hcs, _, hl, hm, _, hcell⟩
  · simp [Value.cells] at hcs
    obtain ⟨rfl, rfl, rfl⟩ := hcs
    exact ⟨fun _ => false, fun _ => rfl, fun i hi => absurd hi (by omega)⟩
  · simp [Value.cells] at hcs
    obtain ⟨rfl, rfl, rfl⟩ := hcs
    exact ⟨B, (fun h => by cases h), rowAt_of fun i hi => hcell i (by omega)⟩

theorem read_intss (h : DataW.Trod enc Try.prog W 0 (fun _ => true) true 55 (.slice a len cap) d p) :
    ∃ U : Nat → Nat, (a = none → len = 0) ∧ IntssAt W a len U := by
  obtain ⟨fuel, hf⟩ := h
  rcases open_int_rows Try.underlying55 Try.underlying23 Try.underlying3 Try.cells23 Try.cells3 hf with ⟨hcs, _⟩ | ⟨x, l, c, A, L, C, Z, hcs, _, hl, hm, _, hcell⟩
  · simp [Value.cells] at hcs
    obtain ⟨rfl, rfl, rfl⟩ := hcs
    exact ⟨fun _ => 0, fun _ => rfl, fun i hi => absurd hi (by omega)⟩
  · simp [Value.cells] at hcs
    obtain ⟨rfl, rfl, rfl⟩ := hcs
    refine ⟨L, (fun h => by cases h), fun i hi => ?_⟩
    obtain ⟨b, o, e, hc⟩ := rowAt_of (W := W) (a := x) (n := len) (f := fun r => .slice (A r) (L r) (C r)) (fun r hr => (hcell r (by omega)).1) i hi
    obtain ⟨_, h2, _, h4, _, h6, h7⟩ := hcell i (by omega)
    refine ⟨b, o, A i, C i, e, hc, fun hA => ⟨by have := h6 hA; omega, h6 hA⟩, fun j => (Z i).getD j 0, ?_⟩
    cases hA : A i with
    | none => intro j hj; have := h6 hA; omega
    | some a' => exact rowAt_of fun j hj => (h7 a' hA).2 j (by omega)
end
end Go.Proofs.Qxb6619458a
