/- The law's walk: FnHeaderNamesCellCut. -/
import Derived.Test.Qxb6623437aWalkB
namespace Go.Proofs.Qxb6623437a
open Go.RowKit Go.Deep

structure Said (w : World) (e : Ending) (w' : World) : Prop where
  out : e = .returned (.bool true) ∧ Below w.heap.size w w'

theorem cat3 {G A S C : ByteArray} (h : G.data.toList = A.data.toList ++ S.data.toList ++ C.data.toList) : G = A ++ S ++ C := by
  have e : G.data = (A ++ S ++ C).data := by
    apply Array.toList_inj.1
    rw [h]
    simp [ByteArray.data_append]
  cases G
  cases hh : A ++ S ++ C
  rw [hh] at e
  exact congrArg ByteArray.mk e

theorem fits_one {xs : List ByteArray} (h1 : xs.length ≤ 1048576) (h2 : tot xs ≤ 1048576) : Fits [xs] := by
  have e : (jn xs comma).size ≤ 140737488355328 := by rw [jn_size]; show tot xs + 1 * (xs.length - 1) ≤ _; omega
  exact ⟨by simp, fun r hr => by simp only [List.mem_singleton] at hr; subst hr; exact ⟨h1, e⟩, by rw [names_one]; exact e⟩

theorem zz_one (a : Option Addr) (n c t : Nat) (xs : List ByteArray) (w : World) (hn : xs.length = n) (hx : StrAt w a xs) (hc : n ≤ c) (h1 : n ≤ 1048576) (h2 : tot xs ≤ 1048576) :
    Calls Try.prog 6 #[.slice (some ⟨w.heap.size, 0, none⟩) 1 1] (w.alloc (.cells #[.slice a n c] t)) fun e w' => Joined (jn xs comma) w e w' := by
  refine (zzHeaderNames_any (some ⟨w.heap.size, 0, none⟩) 1 [xs] _ (rowsAt_one hx hn hc) (fits_one (by omega) h2)).mono fun e w' h => ?_
  have hb : Below w.heap.size w (w.alloc (.cells #[.slice a n c] t)) := (Below.refl _ _).alloc (Nat.le_refl _) _
  exact ⟨by rw [h.out.1, names_one], hb.trans (h.out.2.mono hb.size)⟩

set_option maxHeartbeats 4000000 in
theorem law4_any (a : Option Addr) (n c : Nat) (k : Int) (xs : List ByteArray) (w : World) (hn : xs.length = n) (hcap : n ≤ c) (hx : StrAt w a xs) :
    Calls Try.prog 4 #[.slice a n c, .int .i64 k] w fun e w' => Said w e w' := by
  have HX : Hid (StrAt w a xs) := hx
  clear hx
  go_enter Try.func4, Try.ntmps4
  go_wp2_with fail
  refine (zzBytes8 a n c k xs w hn HX.out).mono ?_
  rintro e w1 ⟨v, rfl, rfl, hsh⟩
  cases v with
  | false =>
    clear hsh
    go_wp2
    go_ret
    exact ⟨rfl, Below.refl _ _⟩
  | true =>
    have hS := hsh rfl
    clear hsh
    by_cases hn1 : n ≤ 65536
    · go_wp2
      go_loopw [6, 5] (fun s t wr => ∃ i : Nat, i ≤ n ∧ 24 + 16 * i + tot (xs.take i) ≤ 1048576 ∧ s = .int .i64 i ∧ t = .int .i64 ((24 + 16 * i + tot (xs.take i) : Nat) : Int) ∧ w1 = wr) (fun s _ _ => n - (intOf s).toNat)
      case atStart => exact ⟨0, Nat.zero_le _, by simp [tot], rfl, by simp [tot], rfl⟩
      case round =>
        obtain ⟨i, hi, hm, rfl, rfl, rfl⟩ := hrel
        by_cases hlt : i < n
        · obtain ⟨x, hxi⟩ := get_of_lt hn hlt
          obtain ⟨b, o, ea, hc⟩ := HX.out i x hxi
          have hs := hS i x (by omega) hxi
          have hst := tot_step hxi
          cases ea
          clear HX hS hxi hn
          generalize tot (xs.take i) = m at *
          by_cases ks : 24 + 16 * i + m + (16 + x.size) ≤ 1048576
          · go_wp2
            go_roundw
            case rel => exact ⟨i + 1, by omega, by omega, by go_num, by rw [hst]; go_num, by simp⟩
            case measure => simp [intOf]; omega
          · go_wp2
            go_ret
            exact ⟨rfl, Below.refl _ _⟩
        · have e1 : i = n := by omega
          have hT : 24 + 16 * n + tot xs ≤ 1048576 := by rw [tot_all (by omega)] at hm; omega
          clear hm
          generalize 24 + 16 * i + tot (xs.take i) = m0 at *
          go_wp2_with fail
          refine (zz_one a n c _ xs w1 hn HX.out hcap (by omega) (by omega)).mono ?_
          rintro e W1 ⟨rfl, be⟩
          have HX1 : Hid (StrAt W1 a xs) := HX.out.below be
          clear HX hS
          by_cases h0 : n = 0
          · have ex : xs = [] := List.eq_nil_of_length_eq_zero (by omega)
            have eg : jn xs comma = ⟨#[]⟩ := by rw [ex]; rfl
            rw [eg]
            subst h0
            clear eg ex HX1 hn
            go_wp2
            go_ret
            exact ⟨rfl, be⟩
          · by_cases h1 : n = 1
            · subst h1
              obtain ⟨x, ex⟩ := List.length_eq_one_iff.1 hn
              have eg : jn xs comma = x := by rw [ex]; exact jn_one _ _
              obtain ⟨b, o, ea, hc⟩ := HX1.out 0 x (by rw [ex]; rfl)
              cases ea
              rw [eg]
              simp only [Nat.add_zero] at hc
              clear eg ex HX1 hn
              go_wp2
              go_ret
              exact ⟨by simp, be⟩
            · generalize eG : jn xs comma = G
              have hG : G.size = tot xs + (n - 1) := by rw [← eG, jn_size, hn]; show tot xs + 1 * (n - 1) = _; omega
              go_wp2
              go_loopw [9, 8] (fun s t wr => ∃ i : Nat, i ≤ n ∧ s = .int .i64 i ∧ t = .int .i64 ((n - 1 + tot (xs.take i) : Nat) : Int) ∧ W1 = wr) (fun s _ _ => n - (intOf s).toNat)
              case atStart => exact ⟨0, Nat.zero_le _, rfl, by simp [tot]; omega, rfl⟩
              case round =>
                obtain ⟨j, hj, rfl, rfl, rfl⟩ := hrel
                by_cases hlt2 : j < n
                · obtain ⟨x, hxi⟩ := get_of_lt hn hlt2
                  obtain ⟨b, o, ea, hc⟩ := HX1.out j x hxi
                  have hst := tot_step hxi
                  have hle := tot_take_le xs (j + 1)
                  cases ea
                  clear HX1 hxi hn eG hG
                  generalize tot (xs.take j) = m at *
                  go_wp2
                  go_roundw
                  case rel => exact ⟨j + 1, by omega, by go_num, by rw [hst]; go_num, by simp⟩
                  case measure => simp [intOf]; omega
                · have e2 : n - 1 + tot (xs.take j) = G.size := by rw [tot_all (by omega), hG]; omega
                  rw [e2]
                  clear e2
                  by_cases hk : 0 < k ∧ k < n
                  · obtain ⟨hk0, hk1⟩ := hk
                    obtain ⟨kk, rfl⟩ := Int.eq_ofNat_of_zero_le (show 0 ≤ k by omega)
                    obtain ⟨x, hxi⟩ := get_of_lt hn (show 0 < n by omega)
                    obtain ⟨b, o, ea, hc⟩ := HX1.out 0 x hxi
                    cases ea
                    clear hc hxi
                    have kn : kk < n := by omega
                    have kp : 0 < kk := by omega
                    have g1 := tot_take_le xs kk
                    have g2 := tot_drop_le xs kk
                    have HL : Hid (StrAt W1 (some ⟨b, o, none⟩) (xs.take kk)) := HX1.out.take kk
                    have HD : Hid (StrAt W1 (some ⟨b, o + kk, none⟩) (xs.drop kk)) := HX1.out.drop kk
                    have kc : (kk : Int) ≤ c := by omega
                    clear HX1
                    have l1 : (xs.take kk).length = kk := by simp; omega
                    have l2 : (xs.drop kk).length = n - kk := by simp; omega
                    go_wp2_with fail
                    refine (zz_one (some ⟨b, o, none⟩) kk c 24 (xs.take kk) W1 l1 HL.out (by omega) (by omega) (by omega)).mono ?_
                    rintro e W2 ⟨rfl, be2⟩
                    have HD2 : Hid (StrAt W2 (some ⟨b, o + kk, none⟩) (xs.drop kk)) := HD.out.below be2
                    clear HL HD
                    have hkc : kk < c := by omega
                    go_wp2_with fail
                    refine (zz_one (some ⟨b, o + kk, none⟩) (n - kk) (c - kk) 24 (xs.drop kk) W2 l2 HD2.out (by omega) (by omega) (by omega)).mono ?_
                    rintro e W3 ⟨rfl, be3⟩
                    have B3 := be.trans ((be2.trans (be3.mono be2.size)).mono be.size)
                    have eQ : G.data.toList = (jn (xs.take kk) comma).data.toList ++ comma.data.toList ++ (jn (xs.drop kk) comma).data.toList := by
                      rw [← eG, ← jn_append (fun h => by rw [h] at l1; simp at l1; omega) (fun h => by rw [h] at l2; simp at l2; omega), List.take_append_drop]
                    have sL : (jn (xs.take kk) comma).size ≤ 2097152 := by rw [jn_size, l1]; show _ + 1 * _ ≤ _; omega
                    have sR : (jn (xs.drop kk) comma).size ≤ 2097152 := by rw [jn_size, l2]; show _ + 1 * _ ≤ _; omega
                    generalize jn (xs.take kk) comma = GL at *
                    generalize jn (xs.drop kk) comma = GR at *
                    have eB := cat3 eQ
                    clear HD2 eG eQ hG
                    subst eB
                    go_wp2
                    go_ret
                    exact ⟨rfl, B3⟩
                  · clear HX1 hn
                    go_wp2
                    all_goals first | (go_ret; exact ⟨rfl, be⟩) | (exfalso; omega)
    · clear hS
      go_wp2
      go_ret
      exact ⟨rfl, Below.refl _ _⟩
end Go.Proofs.Qxb6623437a
