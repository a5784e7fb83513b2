/- The walks: the two guards: zzBytes_FnPlaceClosedForm, placeFits. -/
import Derived.Test.Qxb6619458aWalkA
namespace Go.Proofs.Qxb6619458a
open Go.RowKit Go.Deep

structure BytesSay (n0 n1 n2 n3 n5 : Nat) (U : Nat → Nat) (w : World) (e : Ending) (w' : World) : Prop where
  out : ∃ v, e = .returned (.bool v) ∧ w' = w ∧ (v = true → n0 ≤ 1048576 ∧ n1 ≤ 1048576 ∧ n2 ≤ 1048576 ∧ n3 ≤ 1048576 ∧ n5 ≤ 1048576 ∧ ∀ i, i < n2 → U i ≤ 1048576)

theorem BytesSay.no {n0 n1 n2 n3 n5 : Nat} {U : Nat → Nat} {w : World} : BytesSay n0 n1 n2 n3 n5 U w (.returned (.bool false)) w := ⟨false, rfl, rfl, fun h => by cases h⟩

theorem lens_step {U : Nat → Nat} {k : Nat} (h : ∀ j, j < k → U j ≤ 1048576) (hk : U k ≤ 1048576) : ∀ j, j < k + 1 → U j ≤ 1048576 := by
  intro j hj
  by_cases e : j = k
  · subst e; exact hk
  · exact h j (by omega)

set_option maxHeartbeats 400000 in
theorem zzBytes25 (a0 a1 a2 a3 a5 : Option Addr) (n0 n1 n2 n3 n5 c0 c1 c2 c3 c5 : Nat) (ri : Int) (U : Nat → Nat) (w : World) (hr : LensAt w a2 n2 U) :
    Calls Try.prog 25 #[.slice a0 n0 c0, .slice a1 n1 c1, .slice a2 n2 c2, .slice a3 n3 c3, .int .i64 ri, .slice a5 n5 c5] w fun e w' => BytesSay n0 n1 n2 n3 n5 U w e w' := by
  go_enter Try.func25, Try.ntmps25
  go_wp2
  all_goals try (go_ret; exact BytesSay.no)
  go_loop [13, 14] (fun t i => ∃ k s : Nat, k ≤ n2 ∧ s ≤ 1048576 ∧ i = .int .i64 k ∧ t = .int .i64 s ∧ ∀ j, j < k → U j ≤ 1048576) (fun _ i => n2 - (intOf i).toNat)
  case atStart => exact ⟨0, n0 + n1 + n2, by omega, by omega, rfl, by go_num, fun j h => absurd h (by omega)⟩
  case round =>
    obtain ⟨k, s, hk, hs, rfl, rfl, hU⟩ := hrel
    by_cases hlt : k < n2
    · obtain ⟨b, o, a', c', ea, hc⟩ := hr k hlt
      cases ea
      clear hr
      go_wp2
      all_goals try (go_ret; exact BytesSay.no)
      go_round
      case rel => exact ⟨k + 1, s + U k, by omega, by omega, by go_num, by go_num, lens_step hU (by omega)⟩
      case measure => simp [intOf]; omega
    · have hkn : k = n2 := by omega
      subst hkn
      clear hr
      go_wp2
      all_goals try (go_ret; exact BytesSay.no)
      go_ret
      exact ⟨true, rfl, rfl, fun _ => ⟨by omega, by omega, by omega, by omega, by omega, hU⟩⟩

/-! ### placeFits -/
theorem fits_step {zl : Nat → Int} {n k : Nat} (h : Hid (∀ j, j < k → -1 ≤ zl j ∧ zl j < n)) (hk : -1 ≤ zl k ∧ zl k < n) : Hid (∀ j, j < k + 1 → -1 ≤ zl j ∧ zl j < n) := by
  intro j hj
  by_cases e : j = k
  · subst e; exact hk
  · exact h.out j (by omega)
theorem fits_step2 {zl : Nat → Int} {n k : Nat} (h : Hid (∀ j, j < k → 0 ≤ zl j ∧ zl j < n)) (hk : 0 ≤ zl k ∧ zl k < n) : Hid (∀ j, j < k + 1 → 0 ≤ zl j ∧ zl j < n) := by
  intro j hj
  by_cases e : j = k
  · subst e; exact hk
  · exact h.out j (by omega)
structure FitsSay (n0 n1 n2 n3 n5 : Nat) (ri : Int) (zl zt : Nat → Int) (w : World) (e : Ending) (w' : World) : Prop where
  out : ∃ v, e = .returned (.bool v) ∧ w' = w ∧ (v = true → n1 = n0 ∧ n2 = n3 ∧ 0 ≤ ri ∧ ri < n3 ∧ (∀ g, g < n0 → -1 ≤ zl g ∧ zl g < n3) ∧ (∀ i, i < n5 → 0 ≤ zt i ∧ zt i < n0))

theorem FitsSay.no {n0 n1 n2 n3 n5 : Nat} {ri : Int} {zl zt : Nat → Int} {w : World} : FitsSay n0 n1 n2 n3 n5 ri zl zt w (.returned (.bool false)) w := ⟨false, rfl, rfl, fun h => by cases h⟩

set_option maxHeartbeats 1000000 in
theorem placeFits_any (a0 a1 a2 a3 a5 : Option Addr) (n0 n1 n2 n3 n5 c0 c1 c2 c3 c5 : Nat) (ri : Int) (U : Nat → Nat) (zl zt : Nat → Int) (w : World)
    (h0 : n0 ≤ 65536) (h1 : n1 ≤ 65536) (h2 : n2 ≤ 65536) (h3 : n3 ≤ 65536) (h5 : n5 ≤ 65536) (hU : ∀ i, i < n2 → U i ≤ 1048576)
    (hr : LensAt w a2 n2 U) (hl : RowAt w a1 n1 (fun i => .int .i64 (zl i))) (ht : RowAt w a5 n5 (fun i => .int .i64 (zt i))) :
    Calls Try.prog 26 #[.slice a0 n0 c0, .slice a1 n1 c1, .slice a2 n2 c2, .slice a3 n3 c3, .int .i64 ri, .slice a5 n5 c5] w fun e w' => FitsSay n0 n1 n2 n3 n5 ri zl zt w e w' := by
  go_enter Try.func26, Try.ntmps26
  go_wp2
  go_loop [13, 14] (fun t i => ∃ k s : Nat, k ≤ n2 ∧ s ≤ 10000000 ∧ i = .int .i64 k ∧ t = .int .i64 s) (fun _ i => n2 - (intOf i).toNat)
  case atStart => exact ⟨0, 8 * n0 + 8 * n1 + 24 * n2 + n3 + 8 * n5, by omega, by omega, rfl, by go_num⟩
  case round =>
    obtain ⟨k, s, hk, hs, rfl, rfl⟩ := hrel
    by_cases hgo : k < n2 ∧ s ≤ 1048576
    · obtain ⟨hlt, hs2⟩ := hgo
      obtain ⟨b, o, a', c', ea, hc⟩ := hr k hlt
      cases ea
      have hUk := hU k hlt
      clear hr hl ht hU
      go_wp2
      go_round
      case rel => exact ⟨k + 1, s + 8 * U k, by omega, by omega, by go_num, by go_num⟩
      case measure => simp [intOf]; omega
    · clear hr hU
      by_cases hs2 : s ≤ 1048576
      · have hkn : ¬ k < n2 := by omega
        clear hgo
        by_cases e1 : n1 = n0
        · subst e1
          by_cases e2 : n2 = n3
          · subst e2
            by_cases e3 : 0 ≤ ri
            · by_cases e4 : ri < n2
              · go_wp2
                go_loop [16] (fun i => ∃ k : Nat, k ≤ n1 ∧ i = .int .i64 k ∧ Hid (∀ j, j < k → -1 ≤ zl j ∧ zl j < n2)) (fun i => n1 - (intOf i).toNat)
                case atStart => exact ⟨0, Nat.zero_le _, rfl, fun j h => absurd h (by omega)⟩
                case round =>
                  obtain ⟨g, hg, rfl, HL⟩ := hrel
                  by_cases hlt : g < n1
                  · obtain ⟨b, o, ea, hc⟩ := hl g hlt
                    cases ea
                    clear hl ht
                    by_cases t1 : zl g < -1
                    · go_wp2
                      go_ret
                      exact FitsSay.no
                    · by_cases t2 : zl g < n2
                      · go_wp2
                        go_round
                        case rel => exact ⟨g + 1, by omega, by go_num, fits_step HL (by omega)⟩
                        case measure => simp [intOf]; omega
                      · go_wp2
                        go_ret
                        exact FitsSay.no
                  · have hgn : g = n1 := by omega
                    subst hgn
                    clear hl
                    go_wp2
                    go_loop [17] (fun i => ∃ k : Nat, k ≤ n5 ∧ i = .int .i64 k ∧ Hid (∀ j, j < k → 0 ≤ zt j ∧ zt j < g)) (fun i => n5 - (intOf i).toNat)
                    case atStart => exact ⟨0, Nat.zero_le _, rfl, fun j h => absurd h (by omega)⟩
                    case round =>
                      obtain ⟨i, hi, rfl, HT⟩ := hrel
                      by_cases hlt2 : i < n5
                      · obtain ⟨b, o, ea, hc⟩ := ht i hlt2
                        cases ea
                        clear ht
                        by_cases t1 : zt i < 0
                        · go_wp2
                          go_ret
                          exact FitsSay.no
                        · by_cases t2 : zt i < g
                          · go_wp2
                            go_round
                            case rel => exact ⟨i + 1, by omega, by go_num, fits_step2 HT (by omega)⟩
                            case measure => simp [intOf]; omega
                          · go_wp2
                            go_ret
                            exact FitsSay.no
                      · have hin : i = n5 := by omega
                        subst hin
                        clear ht
                        go_wp2
                        go_ret
                        exact ⟨true, rfl, rfl, fun _ => ⟨rfl, rfl, e3, e4, HL.out, HT.out⟩⟩
              · clear hl ht
                go_wp2
                go_ret
                exact FitsSay.no
            · clear hl ht
              go_wp2
              go_ret
              exact FitsSay.no
          · have e2' : ((n2 : Int) == (n3 : Int)) = false := by simp; omega
            clear hl ht
            go_wp2
            go_ret
            exact FitsSay.no
        · have e1' : ((n1 : Int) == (n0 : Int)) = false := by simp; omega
          clear hl ht
          go_wp2
          go_ret
          exact FitsSay.no
      · clear hgo hl ht
        by_cases hlt : k < n2
        · go_wp2
          go_ret
          exact FitsSay.no
        · go_wp2
          go_ret
          exact FitsSay.no
end Go.Proofs.Qxb6619458a
