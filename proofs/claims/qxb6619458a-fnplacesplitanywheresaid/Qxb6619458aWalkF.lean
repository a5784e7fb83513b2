/- The walk: place. -/
import Derived.Test.Qxb6619458aWalkE
namespace Go.Proofs.Qxb6619458a
open Go.RowKit Go.Deep

theorem lp_none {B : Nat} {z : Int} (h : z < 0) : lp B z = .pointer none := by
  unfold lp
  rw [if_neg (by omega)]
theorem lp_some {B p : Nat} {z : Int} (h : z = p) : lp B z = .pointer (some ⟨B + 1 + p, 0, none⟩) := by
  subst h
  simp [lp]

theorem run_la_range {U : Nat → Nat} {ri m n : Nat} {t : Nat → Nat} {s : St} (hri : ri < m) (hla : ∀ g, g < n → -1 ≤ s.la g ∧ s.la g < m) (k g : Nat) (hg : g < n) : -1 ≤ (run U ri t s k).la g ∧ (run U ri t s k).la g < m := by
  rw [run_la]
  split
  · omega
  · exact hla g hg

theorem step_eta (U : Nat → Nat) (ri : Nat) (s : St) (g : Nat) : step U ri s g = { op := fun x => if x = g then wrap64 (s.op g + 1) else s.op x, la := fun x => if x = g then (ri : Int) else s.la x, cl := (step U ri s g).cl } := rfl

set_option maxHeartbeats 2000000 in
theorem place_any (B m n O oc ri nt tc : Nat) (oa ta : Option Addr) (tv : Nat → Value) (U : Nat → Nat) (t : Nat → Nat) (s0 : St) (w : World) (hnt : nt ≤ 1048576) (hri : ri < m) (htv : tv ri = .slice ta nt tc)
    (hM : Mem w B m n O oa oc tv U s0) (ht : RowAt w ta nt (fun i => .int .i64 (t i))) (htB : ∀ b o, 0 < nt → ta = some ⟨b, o, none⟩ → b < B ∧ b ≠ O) (htn : ∀ i, i < nt → t i < n) (hla : ∀ g, g < n → -1 ≤ s0.la g ∧ s0.la g < m) :
    Calls Try.prog 53 #[.pointer (some ⟨B + 3 + m, 0, none⟩), .pointer (some ⟨B + 1 + ri, 0, none⟩)] w fun e w' =>
      e = .returned (.tuple #[]) ∧ Mem w' B m n O oa oc tv U (run U ri t s0 nt) ∧ Kept O B w w' := by
  have hto := rec_to (hM.recs ri hri)
  rw [htv] at hto
  go_enter Try.func53, Try.ntmps53
  go_wp2
  clear hto
  go_loopw [12] (fun i wr => ∃ k : Nat, k ≤ nt ∧ i = .int .i64 k ∧ Mem wr B m n O oa oc tv U (run U ri t s0 k) ∧ Kept O B w wr) (fun i _ => nt - (intOf i).toNat)
  case atStart => exact ⟨0, Nat.zero_le _, rfl, hM, Kept.refl _ _ _⟩
  case round =>
    clear hM
    obtain ⟨k, hk, rfl, hM, hK⟩ := hrel
    by_cases hlt : k < nt
    · obtain ⟨bt, ot, ea, hct⟩ := ht k hlt
      have hb := htB bt ot (by omega) ea
      cases ea
      have hg := htn k hlt
      have hct' : wr.cell? ⟨bt, ot + k, none⟩ = some (.int .i64 (t k : Int)) := by
        rw [← hct]
        exact World.cell?_of_block (w := w) (hK.block _ hb.1 hb.2)
      have hlr := run_la_range (U := U) (t := t) hri hla k (t k) hg
      have hn : 0 < n := by omega
      clear hct ht htB htn hla htv
      obtain ⟨g, HG⟩ : ∃ g, Hid (g = t k) := ⟨_, rfl⟩
      obtain ⟨s, HS⟩ : ∃ s, Hid (s = run U ri t s0 k) := ⟨_, rfl⟩
      have HN : Hid (run U ri t s0 (k + 1) = step U ri s g) := by rw [HG.out, HS.out]; rfl
      rw [← HG.out] at hct' hg hlr
      rw [← HS.out] at hM hlr
      clear HS HG
      obtain ⟨ho1, ho2, ho3⟩ := hM.own hn
      subst ho1
      by_cases h1 : 0 < s.op g
      · by_cases hz : s.la g < 0
        · have hl := hz
          have r0 := hM.recs ri hri
          have a19 := sm_open hM.sm
          have aO := ho3.cell hg
          have b1 := rec_cl r0
          have b2 := rec_fr r0 5
          have M1 := mem_clash hM hri
          have K1 : Kept O B w (wr.setCell ⟨B + 1 + ri, 5, none⟩ (.bool true)) := hK.set (.inl (by show B ≤ B + 1 + ri; omega)) _
          have c18 := sm_last M1.sm
          have cL := M1.lst.cell hg
          simp only [lp_none hl] at cL
          have M2 := M1
          have K2 := K1
          have e18 := sm_last M2.sm
          have eL := M2.lst.cell hg
          have eF := M2.lst.frozen g
          have M3 := mem_last M2 g ri
          have K3 := K2.set (p := ⟨B + 1 + m, g, none⟩) (.inl (by show B ≤ B + 1 + m; omega)) (.pointer (some ⟨B + 1 + ri, 0, none⟩))
          have f19 := sm_open M3.sm
          have fO := (M3.own hn).2.2.cell hg
          have fF := (M3.own hn).2.2.frozen g
          have M4 := mem_open M3 hn g (wrap64 (s.op g + 1))
          have K4 := K3.set (p := ⟨O, g, none⟩) (.inr rfl) (.int .i64 (wrap64 (s.op g + 1)))
          have MM := M4.st_eq (st' := step U ri s g) (by rw [step_eta U ri s g]; congr 1; exact step_cl1 U ri g s h1 hl)
          rw [← HN.out] at MM
          clear HN hM hK r0 M1 K1 M2 K2 M3 K3 M4 hlr ho2 ho3
          go_wp2
          go_roundw
          case rel => exact ⟨k + 1, by omega, by go_num, MM, K4⟩
          case measure => simp [intOf]; omega
        · obtain ⟨p, hl⟩ := Int.eq_ofNat_of_zero_le (show 0 ≤ s.la g by omega)
          have hp : p < m := by omega
          by_cases h3 : 0 < U p
          · skip
            have r0 := hM.recs ri hri
            have a19 := sm_open hM.sm
            have aO := ho3.cell hg
            have b1 := rec_cl r0
            have b2 := rec_fr r0 5
            have M1 := mem_clash hM hri
            have K1 : Kept O B w (wr.setCell ⟨B + 1 + ri, 5, none⟩ (.bool true)) := hK.set (.inl (by show B ≤ B + 1 + ri; omega)) _
            have c18 := sm_last M1.sm
            have cL := M1.lst.cell hg
            simp only [lp_some hl] at cL
            obtain ⟨ua, uc, d4⟩ := rec_un (M1.recs p hp)
            have d5 := rec_cl (M1.recs p hp)
            have df := rec_fr (M1.recs p hp) 5
            have M2 := mem_clash M1 hp
            have K2 := K1.set (p := ⟨B + 1 + p, 5, none⟩) (.inl (by show B ≤ B + 1 + p; omega)) (.bool true)
            have e18 := sm_last M2.sm
            have eL := M2.lst.cell hg
            have eF := M2.lst.frozen g
            have M3 := mem_last M2 g ri
            have K3 := K2.set (p := ⟨B + 1 + m, g, none⟩) (.inl (by show B ≤ B + 1 + m; omega)) (.pointer (some ⟨B + 1 + ri, 0, none⟩))
            have f19 := sm_open M3.sm
            have fO := (M3.own hn).2.2.cell hg
            have fF := (M3.own hn).2.2.frozen g
            have M4 := mem_open M3 hn g (wrap64 (s.op g + 1))
            have K4 := K3.set (p := ⟨O, g, none⟩) (.inr rfl) (.int .i64 (wrap64 (s.op g + 1)))
            have MM := M4.st_eq (st' := step U ri s g) (by rw [step_eta U ri s g]; congr 1; exact step_cl1y U ri g p s h1 hl h3)
            rw [← HN.out] at MM
            clear HN hM hK r0 M1 K1 M2 K2 M3 K3 M4 hlr ho2 ho3
            go_wp2
            go_roundw
            case rel => exact ⟨k + 1, by omega, by go_num, MM, K4⟩
            case measure => simp [intOf]; omega
          · skip
            have r0 := hM.recs ri hri
            have a19 := sm_open hM.sm
            have aO := ho3.cell hg
            have b1 := rec_cl r0
            have b2 := rec_fr r0 5
            have M1 := mem_clash hM hri
            have K1 : Kept O B w (wr.setCell ⟨B + 1 + ri, 5, none⟩ (.bool true)) := hK.set (.inl (by show B ≤ B + 1 + ri; omega)) _
            have c18 := sm_last M1.sm
            have cL := M1.lst.cell hg
            simp only [lp_some hl] at cL
            obtain ⟨ua, uc, d4⟩ := rec_un (M1.recs p hp)
            have M2 := M1
            have K2 := K1
            have e18 := sm_last M2.sm
            have eL := M2.lst.cell hg
            have eF := M2.lst.frozen g
            have M3 := mem_last M2 g ri
            have K3 := K2.set (p := ⟨B + 1 + m, g, none⟩) (.inl (by show B ≤ B + 1 + m; omega)) (.pointer (some ⟨B + 1 + ri, 0, none⟩))
            have f19 := sm_open M3.sm
            have fO := (M3.own hn).2.2.cell hg
            have fF := (M3.own hn).2.2.frozen g
            have M4 := mem_open M3 hn g (wrap64 (s.op g + 1))
            have K4 := K3.set (p := ⟨O, g, none⟩) (.inr rfl) (.int .i64 (wrap64 (s.op g + 1)))
            have MM := M4.st_eq (st' := step U ri s g) (by rw [step_eta U ri s g]; congr 1; exact step_cl1n U ri g p s h1 hl h3)
            rw [← HN.out] at MM
            clear HN hM hK r0 M1 K1 M2 K2 M3 K3 M4 hlr ho2 ho3
            go_wp2
            go_roundw
            case rel => exact ⟨k + 1, by omega, by go_num, MM, K4⟩
            case measure => simp [intOf]; omega
      · by_cases hz : s.la g < 0
        · have hl := hz
          have r0 := hM.recs ri hri
          have a19 := sm_open hM.sm
          have aO := ho3.cell hg
          have M1 := hM
          have K1 := hK
          have c18 := sm_last M1.sm
          have cL := M1.lst.cell hg
          simp only [lp_none hl] at cL
          have M2 := M1
          have K2 := K1
          have e18 := sm_last M2.sm
          have eL := M2.lst.cell hg
          have eF := M2.lst.frozen g
          have M3 := mem_last M2 g ri
          have K3 := K2.set (p := ⟨B + 1 + m, g, none⟩) (.inl (by show B ≤ B + 1 + m; omega)) (.pointer (some ⟨B + 1 + ri, 0, none⟩))
          have f19 := sm_open M3.sm
          have fO := (M3.own hn).2.2.cell hg
          have fF := (M3.own hn).2.2.frozen g
          have M4 := mem_open M3 hn g (wrap64 (s.op g + 1))
          have K4 := K3.set (p := ⟨O, g, none⟩) (.inr rfl) (.int .i64 (wrap64 (s.op g + 1)))
          have MM := M4.st_eq (st' := step U ri s g) (by rw [step_eta U ri s g]; congr 1; exact step_cl0 U ri g s h1 hl)
          rw [← HN.out] at MM
          clear HN hM hK r0 M1 K1 M2 K2 M3 K3 M4 hlr ho2 ho3
          go_wp2
          go_roundw
          case rel => exact ⟨k + 1, by omega, by go_num, MM, K4⟩
          case measure => simp [intOf]; omega
        · obtain ⟨p, hl⟩ := Int.eq_ofNat_of_zero_le (show 0 ≤ s.la g by omega)
          have hp : p < m := by omega
          by_cases h3 : 0 < U p
          · skip
            have r0 := hM.recs ri hri
            have a19 := sm_open hM.sm
            have aO := ho3.cell hg
            have M1 := hM
            have K1 := hK
            have c18 := sm_last M1.sm
            have cL := M1.lst.cell hg
            simp only [lp_some hl] at cL
            obtain ⟨ua, uc, d4⟩ := rec_un (M1.recs p hp)
            have d5 := rec_cl (M1.recs p hp)
            have df := rec_fr (M1.recs p hp) 5
            have M2 := mem_clash M1 hp
            have K2 := K1.set (p := ⟨B + 1 + p, 5, none⟩) (.inl (by show B ≤ B + 1 + p; omega)) (.bool true)
            have e18 := sm_last M2.sm
            have eL := M2.lst.cell hg
            have eF := M2.lst.frozen g
            have M3 := mem_last M2 g ri
            have K3 := K2.set (p := ⟨B + 1 + m, g, none⟩) (.inl (by show B ≤ B + 1 + m; omega)) (.pointer (some ⟨B + 1 + ri, 0, none⟩))
            have f19 := sm_open M3.sm
            have fO := (M3.own hn).2.2.cell hg
            have fF := (M3.own hn).2.2.frozen g
            have M4 := mem_open M3 hn g (wrap64 (s.op g + 1))
            have K4 := K3.set (p := ⟨O, g, none⟩) (.inr rfl) (.int .i64 (wrap64 (s.op g + 1)))
            have MM := M4.st_eq (st' := step U ri s g) (by rw [step_eta U ri s g]; congr 1; exact step_cl0y U ri g p s h1 hl h3)
            rw [← HN.out] at MM
            clear HN hM hK r0 M1 K1 M2 K2 M3 K3 M4 hlr ho2 ho3
            go_wp2
            go_roundw
            case rel => exact ⟨k + 1, by omega, by go_num, MM, K4⟩
            case measure => simp [intOf]; omega
          · skip
            have r0 := hM.recs ri hri
            have a19 := sm_open hM.sm
            have aO := ho3.cell hg
            have M1 := hM
            have K1 := hK
            have c18 := sm_last M1.sm
            have cL := M1.lst.cell hg
            simp only [lp_some hl] at cL
            obtain ⟨ua, uc, d4⟩ := rec_un (M1.recs p hp)
            have M2 := M1
            have K2 := K1
            have e18 := sm_last M2.sm
            have eL := M2.lst.cell hg
            have eF := M2.lst.frozen g
            have M3 := mem_last M2 g ri
            have K3 := K2.set (p := ⟨B + 1 + m, g, none⟩) (.inl (by show B ≤ B + 1 + m; omega)) (.pointer (some ⟨B + 1 + ri, 0, none⟩))
            have f19 := sm_open M3.sm
            have fO := (M3.own hn).2.2.cell hg
            have fF := (M3.own hn).2.2.frozen g
            have M4 := mem_open M3 hn g (wrap64 (s.op g + 1))
            have K4 := K3.set (p := ⟨O, g, none⟩) (.inr rfl) (.int .i64 (wrap64 (s.op g + 1)))
            have MM := M4.st_eq (st' := step U ri s g) (by rw [step_eta U ri s g]; congr 1; exact step_cl0n U ri g p s h1 hl h3)
            rw [← HN.out] at MM
            clear HN hM hK r0 M1 K1 M2 K2 M3 K3 M4 hlr ho2 ho3
            go_wp2
            go_roundw
            case rel => exact ⟨k + 1, by omega, by go_num, MM, K4⟩
            case measure => simp [intOf]; omega
    · have hkn : k = nt := by omega
      subst hkn
      clear ht htB htn hla htv
      go_wp2
      go_end0
      exact ⟨rfl, hM, hK⟩
end Go.Proofs.Qxb6619458a
