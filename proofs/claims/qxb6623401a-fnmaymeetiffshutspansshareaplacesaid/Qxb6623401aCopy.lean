/- copy(zzc, x), zzc being new: as a law for the walk. -/
import Derived.Test.Qxb6623401aMem
namespace Go.Proofs.Qxb6623401a
open Go.RowKit Go.Deep

structure Copied (w0 : World) (n : Nat) (f : Nat → Value) (w' : World) : Prop where
  row : RowAt w' (some ⟨w0.heap.size, 0, none⟩) n f
  below : Below w0.heap.size w0 w'

theorem wpList_copyT {ops : Array Oper} {rest : List Oper} {o : Oper} {a : Act} {Q : Exit → Act → World → Prop} (w0 : World) (T E : TypeId) (z : Value) (hu : Try.prog.underlying T = some (.slice E)) (hsz : (Try.prog.info? E).map (·.size) = some 1) (hgd : o.guard = none) (d s : Operand)
    (ho : o.op = .call { callee := .builtin .copy, args := #[d, s], argTypes := #[T, T] }) (n c : Nat) (ad : Option Addr) (f : Nat → Value) (hf1 : ∀ i, (f i).oneCell' = true) (hrow : RowAt w0 ad n f)
    (hd : a.eval d = .slice (some ⟨w0.heap.size, 0, none⟩) n n) (hs : a.eval s = .slice ad n c)
    (h : ∀ w', Copied w0 n f w' → wpList Try.prog ops Q rest (a.put o.dst (goInt n)) w') : wpList Try.prog ops Q (o :: rest) a (w0.alloc (.cells (madeCells #[z] n) E)) := by
  have hlen : ((List.range n).map f).length = n := by simp
  have hsz2 : (madeCells #[z] n).toList.length = n := by rw [Array.length_toList]; exact size_madeCells _ _
  have bel := below_made w0 (.cells (madeCells #[z] n) E)
  refine wpList_copy_splice hgd d s T T ho E hu hsz _ _ _ _ _ _ hd hs w0.heap.size 0 (madeCells #[z] n).toList E ?_ ((List.range n).map f) (by simp) ?_ (by omega) ?_ w0.heap.size w0 bel (Nat.le_refl _) ?_
  · rw [Array.toArray_toList]; exact blk_alloc_new _ _
  · intro hp
    refine ⟨rfl, ?_⟩
    obtain ⟨b, o', rfl, _⟩ := hrow 0 (by omega)
    refine ⟨_, rfl, fun j v hj => ?_⟩
    have hj' : j < n ∧ f j = v := by
      rw [List.getElem?_map] at hj
      by_cases hjn : j < n
      · rw [List.getElem?_range hjn] at hj
        simp at hj
        exact ⟨hjn, hj⟩
      · rw [List.getElem?_eq_none (by simp; omega)] at hj
        simp at hj
    obtain ⟨b2, o2, e2, hc⟩ := (hrow.below bel) j hj'.1
    cases e2
    rw [← hj'.2]
    by_cases h0 : j = 0
    · subst h0; simpa [Addr.add] using hc
    · simpa [Addr.add, h0] using hc
  · intro v hv
    obtain ⟨i, _, rfl⟩ := List.mem_map.1 hv
    exact hf1 i
  · intro w' hg hb
    have := h w' ⟨row_copied hsz2 hg.out, hb⟩
    rw [hlen]
    exact this
end Go.Proofs.Qxb6623401a
