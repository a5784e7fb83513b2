/- The walks: the small readers; placeCounts. -/
import Derived.Test.Qxb6619458aWalkF
import Derived.LaidEqlPtr
namespace Go.Proofs.Qxb6619458a
open Go.RowKit Go.Deep

theorem zzOpen (S O g n oc : Nat) (hg : g < n) (v : Int) (w : World) (hs : w.cell? ⟨S, 19, none⟩ = some (.slice (some ⟨O, 0, none⟩) n oc)) (hc : w.cell? ⟨O, g, none⟩ = some (.int .i64 v)) :
    Calls Try.prog 18 #[.pointer (some ⟨S, 0, none⟩), .int .i64 g] w fun e w' => e = .returned (.int .i64 v) ∧ w' = w := by
  go_enter Try.func18, Try.ntmps18
  go_wp2
  go_ret
  exact ⟨rfl, rfl⟩

theorem zzLast (S L g n : Nat) (hg : g < n) (v : Option Addr) (w : World) (hs : w.cell? ⟨S, 18, none⟩ = some (.slice (some ⟨L, 0, none⟩) n n)) (hc : w.cell? ⟨L, g, none⟩ = some (.pointer v)) :
    Calls Try.prog 20 #[.pointer (some ⟨S, 0, none⟩), .int .i64 g] w fun e w' => e = .returned (.pointer v) ∧ w' = w := by
  go_enter Try.func20, Try.ntmps20
  go_wp2
  go_ret
  exact ⟨rfl, rfl⟩

theorem zzClashes (b : Nat) (v : Bool) (w : World) (hc : w.cell? ⟨b, 5, none⟩ = some (.bool v)) :
    Calls Try.prog 21 #[.pointer (some ⟨b, 0, none⟩)] w fun e w' => e = .returned (.bool v) ∧ w' = w := by
  go_enter Try.func21, Try.ntmps21
  go_wp2
  go_ret
  exact ⟨rfl, rfl⟩

def wantLast (l c ri : Int) : Int := if 0 < c then ri else l
theorem placeWantLast_any (l c ri : Int) (w : World) : Calls Try.prog 31 #[.int .i64 l, .int .i64 c, .int .i64 ri] w fun e w' => e = .returned (.int .i64 (wantLast l c ri)) ∧ w' = w := by
  unfold wantLast
  by_cases h : 0 < c
  · go_enter Try.func31, Try.ntmps31
    go_wp2
    go_ret
    exact ⟨by simp, rfl⟩
  · go_enter Try.func31, Try.ntmps31
    go_wp2
    go_ret
    exact ⟨by simp, rfl⟩

theorem lastIs_none (rs : Option Addr) (n c : Nat) (k : Int) (hk : k < 0) (w : World) : Calls Try.prog 19 #[.pointer none, .slice rs n c, .int .i64 k] w fun e w' => e = .returned (.bool true) ∧ w' = w := by
  go_enter Try.func19, Try.ntmps19
  go_wp2
  go_ret
  exact ⟨rfl, rfl⟩

theorem Try.some99 : (Try.prog.info? 99).isSome = true := by kernel_rfl
theorem eql_same (a : Addr) (w : World) : (binOp .eql 40 (.pointer (some a)) (.pointer (some a))).run Try.prog w = .ok (.bool true) w := by
  obtain ⟨j, hj⟩ := Option.isSome_iff_exists.1 Try.some99
  exact run_eql_ptr_same w a Try.underlying40 hj

theorem lastIs_some (B n k : Nat) (hk : k < n) (R : Nat) (w : World) (hc : w.cell? ⟨B, k, none⟩ = some (.pointer (some ⟨R, 0, none⟩))) :
    Calls Try.prog 19 #[.pointer (some ⟨R, 0, none⟩), .slice (some ⟨B, 0, none⟩) n n, .int .i64 k] w fun e w' => e = .returned (.bool true) ∧ w' = w := by
  have hq := eql_same ⟨R, 0, none⟩
  go_enter Try.func19, Try.ntmps19
  go_wp2
  go_ret
  exact ⟨rfl, rfl⟩

/-! ### placeCounts -/
def cnts (t : Nat → Nat) (k : Nat) : Nat → Value := fun g => .int .i64 (cnt t g k : Int)

theorem cnts_step {w : World} {b n k : Nat} {t : Nat → Nat} (h : w.rowIs b 3 n (cnts t k)) : (w.setCell ⟨b, t k, none⟩ (.int .i64 ((cnt t (t k) k : Int) + 1))).rowIs b 3 n (cnts t (k + 1)) := by
  refine (h.set (t k) _).congr fun j _ => ?_
  unfold cnts
  by_cases e : j = t k
  · subst e; simp [cnt]
  · have e' : ¬ t k = j := fun h => e h.symm
    simp [cnt, e, e']

structure Counted (w : World) (n nt : Nat) (t : Nat → Nat) (e : Ending) (w' : World) : Prop where
  out : e = .returned (.slice (some ⟨w.heap.size, 0, none⟩) n n) ∧ Below w.heap.size w w' ∧ w'.rowIs w.heap.size 3 n (cnts t nt)

set_option maxHeartbeats 400000 in
theorem placeCounts_any (ta : Option Addr) (n nt tc : Nat) (t : Nat → Nat) (w : World) (hn : n ≤ 1048576) (hnt : nt ≤ 1048576) (ht : RowAt w ta nt (fun i => .int .i64 (t i))) (htn : ∀ i, i < nt → t i < n) :
    Calls Try.prog 29 #[.int .i64 n, .slice ta nt tc] w fun e w' => Counted w n nt t e w' := by
  have hmk := run_make_row' (P := Try.prog) 23 3 (.int .i64 0) 8 Try.underlying23 Try.info3 rfl .i64 .i64 n (by omega) (by omega)
  go_enter Try.func29, Try.ntmps29
  go_wp2
  clear hmk
  go_loopw [6] (fun i wr => ∃ k : Nat, k ≤ nt ∧ i = .int .i64 k ∧ wr.rowIs w.heap.size 3 n (cnts t k) ∧ Below w.heap.size w wr) (fun i _ => nt - (intOf i).toNat)
  case atStart => exact ⟨0, Nat.zero_le _, rfl, (World.rowIs_made w (.int .i64 0) n 3).congr (fun j _ => by simp [cnts, cnt]), below_made _ _⟩
  case round =>
    obtain ⟨k, hk, rfl, hrow, hb⟩ := hrel
    by_cases hlt : k < nt
    · obtain ⟨b, o, ea, hc⟩ := ht.below hb k hlt
      cases ea
      have hg := htn k hlt
      have g2 := hrow.cell hg
      have g3 := hrow.frozen (t k)
      have hle := cnt_le t (t k) k
      have R1 := cnts_step hrow
      have R2 : Below w.heap.size w (wr.setCell ⟨w.heap.size, t k, none⟩ (.int .i64 ((cnt t (t k) k : Int) + 1))) := hb.setCell (Nat.le_refl _) _
      simp only [cnts] at g2
      clear hrow hb ht htn
      go_wp2
      go_roundw
      case rel => exact ⟨k + 1, by omega, by go_num, R1, R2⟩
      case measure => simp [intOf]; omega
    · have hkn : k = nt := by omega
      subst hkn
      clear ht htn
      go_wp2
      go_ret
      exact ⟨rfl, hb, hrow⟩
end Go.Proofs.Qxb6619458a
