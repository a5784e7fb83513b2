/- The walks: the makers: ZZNewRecord, ZZNewSummary, ZZSetLast, placeBuild. -/
import Derived.Test.Qxb6619458aWalkB
namespace Go.Proofs.Qxb6619458a
open Go.RowKit Go.Deep

/-- A record's cells. -/
def recCells (tv uv : Value) (cl : Bool) : Array Value :=
  #[.string ⟨#[]⟩, .int .i64 0, .string ⟨#[]⟩, tv, uv, .bool cl, .bool false, .bool false, .int .i64 0, .int .i64 0, .bool false, .int .i64 0, .int .i64 0, .bool false, .int .i64 0]

theorem newRecord (ta ua : Option Addr) (tn tc un uc : Nat) (cl : Bool) (w : World) :
    Calls Try.prog 46 #[.string ⟨#[]⟩, .slice ta tn tc, .slice ua un uc, .bool cl, .bool false, .bool false, .int .i64 0, .int .i64 0, .bool false, .int .i64 0, .int .i64 0, .bool false, .int .i64 0] w
      fun e w' => e = .returned (.pointer (some ⟨w.heap.size, 0, none⟩)) ∧ w' = w.alloc (.cells (recCells (.slice ta tn tc) (.slice ua un uc) cl) 99) := by
  go_enter Try.func46, Try.ntmps46
  go_wp2
  go_ret
  exact ⟨rfl, rfl⟩

/-- A summary's cells. -/
def sumCells (lv ov : Value) (mb : Nat) : Array Value :=
  #[.int .i64 0, .int .i64 0, .int .i64 0, .int .i64 0, .int .i64 0, .bool false, .int .i64 0, .int .i64 0, .bool false, .int .i64 0, .int .i64 0, .bool false, .int .i64 0, .int .i64 0, .bool false,
    .int .i64 0, .int .i64 0, .slice none 0 0, lv, ov, .map (some mb), .slice none 0 0]

set_option maxHeartbeats 400000 in
theorem newSummary (oa : Option Addr) (n oc : Nat) (hn : n ≤ 1048576) (w : World) :
    Calls Try.prog 47 #[.int .i64 0, .int .i64 0, .int .i64 0, .int .i64 0, .int .i64 0, .bool false, .int .i64 0, .int .i64 0, .bool false, .slice oa n oc] w
      fun e w' => e = .returned (.pointer (some ⟨w.heap.size + 2, 0, none⟩)) ∧
        w' = ((w.alloc (.cells (madeCells #[.pointer none] n) 40)).alloc (.map #[] 0)).alloc (.cells (sumCells (.slice (some ⟨w.heap.size, 0, none⟩) n n) (.slice oa n oc) (w.heap.size + 1)) 96) := by
  have hmk := run_make_row' (P := Try.prog) 30 40 (.pointer none) 8 Try.underlying30 Try.info40 rfl .i64 .i64 n (by omega) (by omega)
  have hmm := @run_makeMap Try.prog
  go_enter Try.func47, Try.ntmps47
  go_wp2
  go_ret
  exact ⟨rfl, rfl⟩

theorem setLast (S L g n : Nat) (hg : g < n) (pv : Option Addr) (u : Value) (w : World) (hs : w.cell? ⟨S, 18, none⟩ = some (.slice (some ⟨L, 0, none⟩) n n))
    (hc : w.cell? ⟨L, g, none⟩ = some u) (hf : w.frozen? ⟨L, g, none⟩ = false) :
    Calls Try.prog 48 #[.pointer (some ⟨S, 0, none⟩), .int .i64 g, .pointer pv] w fun e w' => e = .returned (.tuple #[]) ∧ w' = w.setCell ⟨L, g, none⟩ (.pointer pv) := by
  go_enter Try.func48, Try.ntmps48
  go_wp2
  go_end0
  exact ⟨rfl, rfl⟩
end Go.Proofs.Qxb6619458a
