/- The law's walk: FnHeaderNamesRowCut. -/
import Derived.Test.Qxb6623437aWalkC
namespace Go.Proofs.Qxb6623437a
open Go.RowKit Go.Deep

theorem zz_n (a : Option Addr) (n c : Nat) (R : List (List ByteArray)) (w : World) (hn : R.length = n) (hR : RowsAt w a R) (h1 : n ≤ 65536) (h2 : sumF wt R ≤ 1048576) :
    Calls Try.prog 6 #[.slice a n c] w fun e w' => Joined (names R) w e w' := by
  subst hn
  exact zzHeaderNames_any a c R w hR (fits_of h1 h2)

theorem names_append {A B : List (List ByteArray)} (h1 : A ≠ []) (h2 : B ≠ []) : (names (A ++ B)).data.toList = (names A).data.toList ++ orS.data.toList ++ (names B).data.toList := by
  unfold names
  rw [List.map_append]
  exact jn_append (by simpa using h1) (by simpa using h2)

set_option maxHeartbeats 4000000 in
set_option maxRecDepth 20000 in
theorem law3_any (a : Option Addr) (n c : Nat) (k : Int) (R : List (List ByteArray)) (w : World) (hn : R.length = n) (hcap : n ≤ c) (hx : RowsAt w a R) :
    Calls Try.prog 3 #[.slice a n c, .int .i64 k] w fun e w' => Said w e w' := by
  have HX : Hid (RowsAt w a R) := hx
  clear hx
  go_enter Try.func3, Try.ntmps3
  go_wp2_with fail
  refine (zzBytes5 a n c k R w hn HX.out).mono ?_
  rintro e w1 ⟨v, rfl, rfl, hsh⟩
  cases v with
  | false =>
    clear hsh
    go_wp2
    go_ret
    exact ⟨rfl, Below.refl _ _⟩
  | true =>
    have HS : Hid (ShR R R.length) := hsh rfl
    clear hsh
    by_cases hn1 : n ≤ 65536
    · go_wp2
      go_loopw [6, 5] (fun s t wr => ∃ i : Nat, i ≤ n ∧ sumF wt (R.take i) ≤ 1048576 ∧ s = .int .i64 i ∧ t = .int .i64 ((sumF wt (R.take i) : Nat) : Int) ∧ w1 = wr) (fun s _ _ => n - (intOf s).toNat)
      case atStart => exact ⟨0, Nat.zero_le _, by simp [sumF], rfl, by simp [sumF], rfl⟩
      case round =>
        obtain ⟨i, hi, hm, rfl, rfl, rfl⟩ := hrel
        by_cases hlt : i < n
        · obtain ⟨r, hr⟩ := get_of_lt hn hlt
          obtain ⟨b, o, a', c', ea, hc, hcp, hs⟩ := HX.out i r hr
          have HR : Hid (StrAt w1 a' r) := hs
          have hsr := HS.out i r (by omega) hr
          have hrl := hsr.1
          have HSr : Hid (Short r r.length) := hsr.2
          have HE : Hid (sumF wt (R.take (i + 1)) = sumF wt (R.take i) + (24 + (16 * r.length + tot r))) := sumF_step (f := wt) hr
          cases ea
          clear hs HX hr hn HS hsr
          generalize sumF wt (R.take i) = S at *
          by_cases k24 : S + 24 ≤ 1048576
          · have hd : decide ((1048576 : Int) < (S : Int) + 24) = false := by simp only [decide_eq_false_iff_not]; omega
            go_wp2
            go_loopw [8, 5] (fun s t wr => ∃ j : Nat, j ≤ r.length ∧ S + 24 + (16 * j + tot (r.take j)) ≤ 1048576 ∧ s = .int .i64 j ∧ t = .int .i64 ((S + 24 + (16 * j + tot (r.take j)) : Nat) : Int) ∧ w1 = wr) (fun s _ _ => r.length - (intOf s).toNat)
            case atStart => exact ⟨0, Nat.zero_le _, by simp [tot]; omega, rfl, by simp [tot], rfl⟩
            case round =>
              obtain ⟨j, hj, hm2, rfl, rfl, rfl⟩ := hrel
              by_cases hlt2 : j < r.length
              · obtain ⟨x, hxj⟩ := get_of_lt (n := r.length) rfl hlt2
                obtain ⟨b2, o2, ea, hc2⟩ := HR.out j x hxj
                have hst := tot_step hxj
                have hsz := HSr.out j x hlt2 hxj
                cases ea
                clear HR hxj HSr
                generalize tot (r.take j) = m at *
                by_cases ks : S + 24 + (16 * j + m) + (16 + x.size) ≤ 1048576
                · go_wp2
                  go_roundw
                  case rel => exact ⟨j + 1, by omega, by omega, by go_num, by rw [hst]; go_num, by simp⟩
                  case measure => simp [intOf]; omega
                · go_wp2
                  go_ret
                  exact ⟨rfl, Below.refl _ _⟩
              · have ej : tot (r.take j) = tot r := tot_all (by omega)
                have ej2 : j = r.length := by omega
                rw [ej] at hm2
                rw [ej]
                clear ej HR HSr
                generalize tot r = T at *
                go_wp2
                go_roundw
                case rel => exact ⟨i + 1, by omega, by rw [HE.out]; omega, by go_num, by rw [HE.out]; go_num, by simp⟩
                case measure => simp [intOf]; omega
          · have hd : decide ((1048576 : Int) < (S : Int) + 24) = true := by simp only [decide_eq_true_eq]; omega
            go_wp2
            go_ret
            exact ⟨rfl, Below.refl _ _⟩
        · have e1 : i = n := by omega
          have hT : sumF wt R ≤ 1048576 := by rw [sumF_all (by omega)] at hm; exact hm
          have HT : Hid (sumF wt R ≤ 1048576) := hT
          clear hm hT HS
          generalize sumF wt (R.take i) = m0 at *
          go_wp2_with fail
          refine (zz_n a n c R w1 hn HX.out hn1 HT.out).mono ?_
          rintro e W1 ⟨rfl, be⟩
          have HX1 : Hid (RowsAt W1 a R) := HX.out.below be
          clear HX
          go_wp2_with fail
          refine (len_any a n c R W1 hn HX1.out hn1 HT.out).mono ?_
          rintro e W1 ⟨rfl, rfl⟩
          have hG : (names R).size = sumF rl R + 4 * (n - 1) := by rw [names_size, hn]
          rw [← hG]
          have hLs : (names R).size ≤ 2097152 := by
            have h1 := sumF_mono rl_le R
            have h2 := HT.out
            rw [hG]
            omega
          clear hG
          obtain ⟨G, eG⟩ : ∃ G, names R = G := ⟨_, rfl⟩
          rw [eG]
          rw [eG] at hLs
          have EG : Hid (names R = G) := eG
          clear eG
          by_cases hk : 0 < k ∧ k < n
          · obtain ⟨hk0, hk1⟩ := hk
            obtain ⟨kk, rfl⟩ := Int.eq_ofNat_of_zero_le (show 0 ≤ k by omega)
            obtain ⟨r, hr0⟩ := get_of_lt hn (show 0 < n by omega)
            obtain ⟨b, o, a', c', ea, hc, hcp, hs⟩ := HX1.out 0 r hr0
            cases ea
            clear hc hr0 hs hcp
            have kn : kk < n := by omega
            have kp : 0 < kk := by omega
            have ct := sumF_cut wt R kk
            have hT := HT.out
            have HL : Hid (RowsAt W1 (some ⟨b, o, none⟩) (R.take kk)) := HX1.out.take kk
            have HD : Hid (RowsAt W1 (some ⟨b, o + kk, none⟩) (R.drop kk)) := HX1.out.drop kk
            have kc : (kk : Int) ≤ c := by omega
            have hkc : kk < c := by omega
            have l1 : (R.take kk).length = kk := by simp; omega
            have l2 : (R.drop kk).length = n - kk := by simp; omega
            have t1 : sumF wt (R.take kk) ≤ 1048576 := by omega
            have t2 : sumF wt (R.drop kk) ≤ 1048576 := by omega
            have T1 : Hid (sumF wt (R.take kk) ≤ 1048576) := t1
            have T2 : Hid (sumF wt (R.drop kk) ≤ 1048576) := t2
            clear HX1 HT ct hT t1 t2
            go_wp2_with fail
            refine (zz_n (some ⟨b, o, none⟩) kk c (R.take kk) W1 l1 HL.out (by omega) T1.out).mono ?_
            rintro e W2 ⟨rfl, be2⟩
            have HD2 : Hid (RowsAt W2 (some ⟨b, o + kk, none⟩) (R.drop kk)) := HD.out.below be2
            clear HL HD
            go_wp2_with fail
            refine (zz_n (some ⟨b, o + kk, none⟩) (n - kk) (c - kk) (R.drop kk) W2 l2 HD2.out (by omega) T2.out).mono ?_
            rintro e W3 ⟨rfl, be3⟩
            have B3 := be.trans ((be2.trans (be3.mono be2.size)).mono be.size)
            have eQ : G.data.toList = (names (R.take kk)).data.toList ++ orS.data.toList ++ (names (R.drop kk)).data.toList := by
              rw [← EG.out, ← names_append (fun h => by rw [h] at l1; simp at l1; omega) (fun h => by rw [h] at l2; simp at l2; omega), List.take_append_drop]
            have sL : (names (R.take kk)).size ≤ 2097152 := by
              have h1 := sumF_mono rl_le (R.take kk)
              have h2 := T1.out
              rw [names_size, l1]
              omega
            have sR : (names (R.drop kk)).size ≤ 2097152 := by
              have h1 := sumF_mono rl_le (R.drop kk)
              have h2 := T2.out
              rw [names_size, l2]
              omega
            generalize names (R.take kk) = GL at *
            generalize names (R.drop kk) = GR at *
            have eB := cat3 eQ
            clear HD2 EG eQ T1 T2 hn l1 l2
            subst eB
            go_wp2
            go_ret
            exact ⟨rfl, B3⟩
          · clear HX1 hn HT EG
            go_wp2
            all_goals first | (go_ret; exact ⟨rfl, be⟩) | (exfalso; omega)
    · clear HS
      go_wp2
      go_ret
      exact ⟨rfl, Below.refl _ _⟩
end Go.Proofs.Qxb6623437a
