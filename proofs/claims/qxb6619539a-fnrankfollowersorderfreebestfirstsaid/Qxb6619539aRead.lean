/- How the followers that came in are read. -/
import Derived.Test.Qxb6619539aMem
import Derived.ProofKit
import Derived.OpenShut
import Derived.ShutString
import Derived.ChangeOld
import Derived.Deep.Slices
namespace Go.Proofs.Qxb6619539a
open Go.ChangeShapes Go.WideShapes Go.ChangeAt Go.RowKit Go.Deep

theorem own : ownKnob Try.prog.godebug = none := by kernel_rfl
theorem laidOut : laidOutB Try.prog = true := by kernel_rfl
theorem Try.cells33 : Try.prog.cellsOf 33 = 5 := by kernel_rfl
theorem Try.cells3 : Try.prog.cellsOf 3 = 1 := by kernel_rfl
theorem Try.cells23 : Try.prog.cellsOf 23 = 1 := by kernel_rfl

theorem u64_of_wf {x : Int} (h : (Lit.int .u64 x).wf = true) : 0 ≤ x ∧ x ≤ 18446744073709551615 := by
  simp [Lit.wf, IntKind.min, IntKind.max, IntKind.signed, IntKind.bits] at h
  exact ⟨by omega, by omega⟩

section
variable {H : Type} {enc : TypeId × Value → H} {W : World} {a : Option Addr} {len cap : Nat} {d : DataW H} {p : List MemPlace}

theorem read_one {n : Nat} {cs : List Value} {y : DataW H × List MemPlace} (h : DataW.trod enc Try.prog W 0 (fun _ => true) true n 33 cs = some y) :
    ∃ x : Fol, cs = fcells x ∧ 0 ≤ x.2.2.2.1 ∧ x.2.2.2.1 ≤ 18446744073709551615 := by
  obtain ⟨xs, m, _, _, hl, hlen, hf⟩ := DataW.trod_struct Try.underlying33 h
  rw [Try.cells33] at hl
  have hlen5 : xs.length = 5 := hlen
  match cs, hl, xs, hlen5 with
  | [c0, c1, c2, c3, c4], _, [y0, y1, y2, y3, y4], _ =>
    have f0 : DataW.trod enc Try.prog W 0 (fun _ => true) true m 3 (([c0, c1, c2, c3, c4].drop 0).take (Try.prog.cellsOf 3)) = some y0 := hf 0 _ rfl
    have f1 : DataW.trod enc Try.prog W 0 (fun _ => true) true m 23 (([c0, c1, c2, c3, c4].drop 1).take (Try.prog.cellsOf 23)) = some y1 := hf 1 _ rfl
    have f2 : DataW.trod enc Try.prog W 0 (fun _ => true) true m 23 (([c0, c1, c2, c3, c4].drop 2).take (Try.prog.cellsOf 23)) = some y2 := hf 2 _ rfl
    have f3 : DataW.trod enc Try.prog W 0 (fun _ => true) true m 23 (([c0, c1, c2, c3, c4].drop 3).take (Try.prog.cellsOf 23)) = some y3 := hf 3 _ rfl
    have f4 : DataW.trod enc Try.prog W 0 (fun _ => true) true m 3 (([c0, c1, c2, c3, c4].drop 4).take (Try.prog.cellsOf 3)) = some y4 := hf 4 _ rfl
    rw [Try.cells3] at f0 f4
    rw [Try.cells23] at f1 f2 f3
    obtain ⟨x0, e0, _, _⟩ := DataW.trod_int Try.underlying3 f0
    obtain ⟨x1, e1, _, _⟩ := DataW.trod_int Try.underlying23 f1
    obtain ⟨x2, e2, _, _⟩ := DataW.trod_int Try.underlying23 f2
    obtain ⟨x3, e3, _, w3⟩ := DataW.trod_int Try.underlying23 f3
    obtain ⟨x4, e4, _, _⟩ := DataW.trod_int Try.underlying3 f4
    simp at e0 e1 e2 e3 e4
    subst e0 e1 e2 e3 e4
    exact ⟨(x0, x1, x2, x3, x4), rfl, u64_of_wf w3⟩

theorem read_fols (h : DataW.Trod enc Try.prog W 0 (fun _ => true) true 22 (.slice a len cap) d p) :
    ∃ F : Nat → Fol, (a = none → len = 0) ∧ FolAt W a len F ∧ ∀ i, i < len → 0 ≤ (F i).2.2.2.1 ∧ (F i).2.2.2.1 ≤ 18446744073709551615 := by
  obtain ⟨fuel, hf⟩ := h
  rcases open_slice Try.underlying22 hf with ⟨hcs, _⟩ | ⟨x, l, c, m, n, D, Pl, hcs, _, hl, hm, hmm, _, hx⟩
  · simp [Value.cells] at hcs
    obtain ⟨rfl, rfl, rfl⟩ := hcs
    exact ⟨fun _ => (0, 0, 0, 0, 0), fun _ => rfl, fun i hi => absurd hi (by omega), fun i hi => absurd hi (by omega)⟩
  · simp [Value.cells] at hcs
    obtain ⟨rfl, rfl, rfl⟩ := hcs
    simp only [if_true] at hmm
    subst hmm
    rw [Try.cells33] at hx
    have key : ∀ i, i < len → ∃ y : Fol, (∀ j, j < 5 → W.cell? ((x.add (i * 5)).add j) = (fcells y)[j]?) ∧ 0 ≤ y.2.2.2.1 ∧ y.2.2.2.1 ≤ 18446744073709551615 := by
      intro i hi
      obtain ⟨cs', h1, h2⟩ := hx i (by omega)
      obtain ⟨_, _, hc⟩ := World.cells?_some h1
      obtain ⟨y, rfl, hy⟩ := read_one h2
      exact ⟨y, hc, hy⟩
    obtain ⟨F, hF⟩ := choose_lt (α := Fol) (p := fun i y => (∀ j, j < 5 → W.cell? ((x.add (i * 5)).add j) = (fcells y)[j]?) ∧ 0 ≤ y.2.2.2.1 ∧ y.2.2.2.1 ≤ 18446744073709551615) key
    refine ⟨F, (fun h => by cases h), fun i hi => ?_, fun i hi => (hF i hi).2⟩
    obtain ⟨b, off, spot⟩ := x
    have h00 := (hF 0 (by omega)).1 0 (by omega)
    have hspot : spot = none := by
      have := World.cell?_spot (h00.trans rfl)
      simpa [Addr.add] using this
    subst hspot
    have hc := (hF i hi).1
    simp only [add_plain] at hc
    exact ⟨b, off, rfl, hc 0 (by omega), hc 1 (by omega), hc 2 (by omega), hc 3 (by omega), hc 4 (by omega)⟩
end
end Go.Proofs.Qxb6619539a
