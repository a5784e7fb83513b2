/- The law's walk: FnMayMeetIffShutSpansShareAPlace. -/
import Derived.Test.Qxb6623401aEyes
import Derived.Test.Qxb6623401aCopy
import Derived.Deep.DeepCutAuto
import Derived.BigQuiet
namespace Go.Proofs.Qxb6623401a
open Go.RowKit Go.Deep

theorem Try.info3 : (Try.prog.info? 3).map (fun i => (i.zero, i.size, i.bytes)) = some (some (.int .i64 0), 1, 8) := by kernel_rfl
theorem Try.info9 : (Try.prog.info? 9).map (fun i => (i.zero, i.size, i.bytes)) = some (some (.string ⟨#[]⟩), 1, 16) := by kernel_rfl
theorem Try.info4 : (Try.prog.info? 4).map (fun i => (i.zero, i.size, i.bytes)) = some (some (.bool false), 1, 1) := by kernel_rfl
theorem Try.size3 : (Try.prog.info? 3).map (·.size) = some 1 := by kernel_rfl
theorem Try.size9 : (Try.prog.info? 9).map (·.size) = some 1 := by kernel_rfl
theorem Try.size4 : (Try.prog.info? 4).map (·.size) = some 1 := by kernel_rfl

structure Said (w : World) (e : Ending) (w' : World) : Prop where
  out : e = .returned (.bool true) ∧ Below w.heap.size w w'

/-- What an 'if x != nil' leaves: the row, in the same memory or in a copy. -/
structure Kept (w : World) (n : Nat) (f : Nat → Value) (s : Value) (wx : World) : Prop where
  out : ∃ a' c', s = .slice a' n c' ∧ RowAt wx a' n f ∧ Below w.heap.size w wx

set_option maxHeartbeats 40000000 in
set_option maxRecDepth 20000 in
theorem law_any (a0 a1 a2 a3 a4 a5 : Option Addr) (n0 n1 n2 n3 n4 n5 c0 c1 c2 c3 c4 c5 : Nat) (x y : Int) (q : ByteArray) (qs : Int) (C l h : Nat → Int) (L H : Nat → ByteArray) (B : Nat → Bool) (w : World) (h0 : RowAt w a0 n0 (ints C)) (h1 : RowAt w a1 n1 (strs L)) (h2 : RowAt w a2 n2 (ints l)) (h3 : RowAt w a3 n3 (strs H)) (h4 : RowAt w a4 n4 (ints h)) (h5 : RowAt w a5 n5 (boos B)) :
    Calls Try.prog 3 #[.slice a0 n0 c0, .slice a1 n1 c1, .slice a2 n2 c2, .slice a3 n3 c3, .slice a4 n4 c4, .slice a5 n5 c5, .int .i64 x, .int .i64 y, .string q, .int .i64 qs] w fun e w' => Said w e w' := by
  go_enter Try.func3, Try.ntmps3
  go_wp2_with fail
  refine (zzBytes_any a0 a1 a2 a3 a4 a5 n0 n1 n2 n3 n4 n5 c0 c1 c2 c3 c4 c5 x y q qs L H w h1 h3).mono ?_
  rintro e w1 ⟨v, rfl, rfl, hsh⟩
  cases v with
  | false =>
    clear h0 h1 h2 h3 h4 h5 hsh
    go_wp2
    go_ret
    exact ⟨rfl, Below.refl _ _⟩
  | true =>
    obtain ⟨hS1, hS3⟩ := hsh rfl
    clear hsh
    by_cases hbig : n0 ≤ 1048576 ∧ n1 ≤ 1048576 ∧ n2 ≤ 1048576 ∧ n3 ≤ 1048576 ∧ n4 ≤ 1048576 ∧ n5 ≤ 1048576 ∧ q.size ≤ 1048576
    · obtain ⟨z0, z1, z2, z3, z4, z5, z6⟩ := hbig
      have t0 : decide ((1048576 : Int) < n0) = false := by simp; omega
      have t1 : decide ((1048576 : Int) < n1) = false := by simp; omega
      have t2 : decide ((1048576 : Int) < n2) = false := by simp; omega
      have t3 : decide ((1048576 : Int) < n3) = false := by simp; omega
      have t4 : decide ((1048576 : Int) < n4) = false := by simp; omega
      have t5 : decide ((1048576 : Int) < n5) = false := by simp; omega
      have t6 : decide ((1048576 : Int) < q.size) = false := by simp; omega
      have hmk := run_make_row' (P := Try.prog) 22 3 (.int .i64 0) 8 Try.underlying22 Try.info3 rfl .i64 .i64 n0 (by omega) (by omega)
      have hmk1 := run_make_row' (P := Try.prog) 23 9 (.string ⟨#[]⟩) 16 Try.underlying23 Try.info9 rfl .i64 .i64 n1 (by omega) (by omega)
      have hmk2 := run_make_row' (P := Try.prog) 22 3 (.int .i64 0) 8 Try.underlying22 Try.info3 rfl .i64 .i64 n2 (by omega) (by omega)
      have hmk3 := run_make_row' (P := Try.prog) 23 9 (.string ⟨#[]⟩) 16 Try.underlying23 Try.info9 rfl .i64 .i64 n3 (by omega) (by omega)
      have hmk4 := run_make_row' (P := Try.prog) 22 3 (.int .i64 0) 8 Try.underlying22 Try.info3 rfl .i64 .i64 n4 (by omega) (by omega)
      have hmk5 := run_make_row' (P := Try.prog) 24 4 (.bool false) 1 Try.underlying24 Try.info4 rfl .i64 .i64 n5 (by omega) (by omega)
      have hq22 := fun (w : World) (a : Option Addr) (n c : Nat) => run_neq_slice_nil_any (P := Try.prog) w 22 3 a n c 0 0 Try.underlying22
      have hq23 := fun (w : World) (a : Option Addr) (n c : Nat) => run_neq_slice_nil_any (P := Try.prog) w 23 9 a n c 0 0 Try.underlying23
      have hq24 := fun (w : World) (a : Option Addr) (n c : Nat) => run_neq_slice_nil_any (P := Try.prog) w 24 4 a n c 0 0 Try.underlying24
      go_upto_if 85 with fail
      go_cut [0, 21] from 84 to 92 (fun s _ wx => Kept w1 n0 (ints C) s wx)
      case first =>
        clear h1 h2 h3 h4 h5
        cases hs : a0.isSome with
        | false =>
          go_wp2_with fail
          go_meet
          exact ⟨_, _, rfl, h0, Below.refl _ _⟩
        | true =>
          go_upto_region 7 with fail
          go_wp2_with (refine wpList_copyT w1 22 3 (.int .i64 0) Try.underlying22 Try.size3 rfl _ _ rfl n0 c0 _ (ints C) (fun _ => rfl) h0 rfl rfl ?_; intro w2 hc)
          go_meet
          exact ⟨_, _, rfl, hc.row, hc.below⟩
      case rest =>
        obtain ⟨b0, d0, rfl, r0, be⟩ := hcut
        clear h0
        have h0 := r0
        replace h1 := h1.below be
        replace h2 := h2.below be
        replace h3 := h3.below be
        replace h4 := h4.below be
        replace h5 := h5.below be
        have BB := be
        clear be r0
        go_upto_if 94 with fail
        go_cut [1, 22] from 93 to 101 (fun s _ wx => Kept wc n1 (strs L) s wx)
        case first =>
          clear h0 h2 h3 h4 h5 BB
          cases hs : a1.isSome with
          | false =>
            go_wp2_with fail
            go_meet
            exact ⟨_, _, rfl, h1, Below.refl _ _⟩
          | true =>
            go_upto_region 11 with fail
            go_wp2_with (refine wpList_copyT wc 23 9 (.string ⟨#[]⟩) Try.underlying23 Try.size9 rfl _ _ rfl n1 c1 _ (strs L) (fun _ => rfl) h1 rfl rfl ?_; intro w2 hc)
            go_meet
            exact ⟨_, _, rfl, hc.row, hc.below⟩
        case rest =>
          obtain ⟨b1, d1, rfl, r1, be⟩ := hcut
          clear h1
          have h1 := r1
          replace h0 := h0.below be
          replace h2 := h2.below be
          replace h3 := h3.below be
          replace h4 := h4.below be
          replace h5 := h5.below be
          replace BB := BB.trans (be.mono BB.size)
          clear be r1
          go_upto_if 103 with fail
          go_cut [2, 23] from 102 to 110 (fun s _ wx => Kept wc n2 (ints l) s wx)
          case first =>
            clear h0 h1 h3 h4 h5 BB
            cases hs : a2.isSome with
            | false =>
              go_wp2_with fail
              go_meet
              exact ⟨_, _, rfl, h2, Below.refl _ _⟩
            | true =>
              go_upto_region 15 with fail
              go_wp2_with (refine wpList_copyT wc 22 3 (.int .i64 0) Try.underlying22 Try.size3 rfl _ _ rfl n2 c2 _ (ints l) (fun _ => rfl) h2 rfl rfl ?_; intro w2 hc)
              go_meet
              exact ⟨_, _, rfl, hc.row, hc.below⟩
          case rest =>
            obtain ⟨b2, d2, rfl, r2, be⟩ := hcut
            clear h2
            have h2 := r2
            replace h0 := h0.below be
            replace h1 := h1.below be
            replace h3 := h3.below be
            replace h4 := h4.below be
            replace h5 := h5.below be
            replace BB := BB.trans (be.mono BB.size)
            clear be r2
            go_upto_if 112 with fail
            go_cut [3, 24] from 111 to 119 (fun s _ wx => Kept wc n3 (strs H) s wx)
            case first =>
              clear h0 h1 h2 h4 h5 BB
              cases hs : a3.isSome with
              | false =>
                go_wp2_with fail
                go_meet
                exact ⟨_, _, rfl, h3, Below.refl _ _⟩
              | true =>
                go_upto_region 19 with fail
                go_wp2_with (refine wpList_copyT wc 23 9 (.string ⟨#[]⟩) Try.underlying23 Try.size9 rfl _ _ rfl n3 c3 _ (strs H) (fun _ => rfl) h3 rfl rfl ?_; intro w2 hc)
                go_meet
                exact ⟨_, _, rfl, hc.row, hc.below⟩
            case rest =>
              obtain ⟨b3, d3, rfl, r3, be⟩ := hcut
              clear h3
              have h3 := r3
              replace h0 := h0.below be
              replace h1 := h1.below be
              replace h2 := h2.below be
              replace h4 := h4.below be
              replace h5 := h5.below be
              replace BB := BB.trans (be.mono BB.size)
              clear be r3
              go_upto_if 121 with fail
              go_cut [4, 25] from 120 to 128 (fun s _ wx => Kept wc n4 (ints h) s wx)
              case first =>
                clear h0 h1 h2 h3 h5 BB
                cases hs : a4.isSome with
                | false =>
                  go_wp2_with fail
                  go_meet
                  exact ⟨_, _, rfl, h4, Below.refl _ _⟩
                | true =>
                  go_upto_region 23 with fail
                  go_wp2_with (refine wpList_copyT wc 22 3 (.int .i64 0) Try.underlying22 Try.size3 rfl _ _ rfl n4 c4 _ (ints h) (fun _ => rfl) h4 rfl rfl ?_; intro w2 hc)
                  go_meet
                  exact ⟨_, _, rfl, hc.row, hc.below⟩
              case rest =>
                obtain ⟨b4, d4, rfl, r4, be⟩ := hcut
                clear h4
                have h4 := r4
                replace h0 := h0.below be
                replace h1 := h1.below be
                replace h2 := h2.below be
                replace h3 := h3.below be
                replace h5 := h5.below be
                replace BB := BB.trans (be.mono BB.size)
                clear be r4
                go_upto_if 130 with fail
                go_cut [5, 26] from 129 to 137 (fun s _ wx => Kept wc n5 (boos B) s wx)
                case first =>
                  clear h0 h1 h2 h3 h4 BB
                  cases hs : a5.isSome with
                  | false =>
                    go_wp2_with fail
                    go_meet
                    exact ⟨_, _, rfl, h5, Below.refl _ _⟩
                  | true =>
                    go_upto_region 27 with fail
                    go_wp2_with (refine wpList_copyT wc 24 4 (.bool false) Try.underlying24 Try.size4 rfl _ _ rfl n5 c5 _ (boos B) (fun _ => rfl) h5 rfl rfl ?_; intro w2 hc)
                    go_meet
                    exact ⟨_, _, rfl, hc.row, hc.below⟩
                case rest =>
                  as_aux_lemma =>
                    obtain ⟨b5, d5, rfl, r5, be⟩ := hcut
                    clear h5
                    have h5 := r5
                    replace h0 := h0.below be
                    replace h1 := h1.below be
                    replace h2 := h2.below be
                    replace h3 := h3.below be
                    replace h4 := h4.below be
                    replace BB := BB.trans (be.mono BB.size)
                    clear be r5
                    clear hmk hmk1 hmk2 hmk3 hmk4 hmk5 hq22 hq23 hq24 t0 t1 t2 t3 t4 t5 t6
                    by_cases hs : q.size + 8 * n0 + 8 * n2 + 8 * n4 + n5 ≤ 1048576
                    · go_wp2
                      go_loopw [28, 27] (fun s t wr => ∃ i m : Nat, i ≤ n1 ∧ m ≤ 1048576 ∧ s = .int .i64 i ∧ t = .int .i64 m ∧ wc = wr) (fun s _ _ => n1 - (intOf s).toNat)
                      case atStart => exact ⟨0, q.size + 8 * n0 + 8 * n2 + 8 * n4 + n5, Nat.zero_le _, hs, rfl, by go_num, rfl⟩
                      case round =>
                        obtain ⟨i, m, hi, hm, rfl, rfl, rfl⟩ := hrel
                        by_cases hlt : i < n1
                        · obtain ⟨b, o, ea, hc⟩ := h1 i hlt
                          cases ea
                          simp only [strs] at hc
                          have hk := hS1 i hlt
                          clear h0 h1 h2 h3 h4 h5 hS1 hS3
                          by_cases ks : m + (16 + (L i).size) ≤ 1048576
                          · go_wp2
                            go_roundw
                            case rel => exact ⟨i + 1, m + (16 + (L i).size), by omega, by omega, by go_num, by go_num, by simp⟩
                            case measure => simp [intOf]; omega
                          · go_wp2
                            go_ret
                            exact ⟨rfl, BB⟩
                        · clear hS1
                          go_wp2
                          go_loopw [29, 27] (fun s t wr => ∃ i m : Nat, i ≤ n3 ∧ m ≤ 1048576 ∧ s = .int .i64 i ∧ t = .int .i64 m ∧ wc = wr) (fun s _ _ => n3 - (intOf s).toNat)
                          case atStart => exact ⟨0, m, Nat.zero_le _, by omega, rfl, by go_num, rfl⟩
                          case round =>
                            obtain ⟨j, m, hj, hm, rfl, rfl, rfl⟩ := hrel
                            by_cases hlt : j < n3
                            · obtain ⟨b, o, ea, hc⟩ := h3 j hlt
                              cases ea
                              simp only [strs] at hc
                              have hk := hS3 j hlt
                              clear h0 h1 h2 h3 h4 h5 hS3
                              by_cases ks : m + (16 + (H j).size) ≤ 1048576
                              · go_wp2
                                go_roundw
                                case rel => exact ⟨j + 1, m + (16 + (H j).size), by omega, by omega, by go_num, by go_num, by simp⟩
                                case measure => simp [intOf]; omega
                              · go_wp2
                                go_ret
                                exact ⟨rfl, BB⟩
                            · clear hS3
                              by_cases he : n1 = n2 ∧ n1 = n3 ∧ n1 = n4 ∧ n1 = n5
                              · obtain ⟨e2, e3, e4, e5⟩ := he
                                subst e2 e3 e4 e5
                                by_cases hx : 0 ≤ x ∧ x < n0 ∧ 0 ≤ y ∧ y < n0
                                · obtain ⟨x0, x1, y0, y1⟩ := hx
                                  obtain ⟨xs, rfl⟩ := Int.eq_ofNat_of_zero_le x0
                                  obtain ⟨ys, rfl⟩ := Int.eq_ofNat_of_zero_le y0
                                  have x2 : xs < n0 := by omega
                                  have y2 : ys < n0 := by omega
                                  have h0' := h0
                                  obtain ⟨b, o, ea, kx⟩ := h0' xs x2
                                  cases ea
                                  obtain ⟨b, o, ea, ky⟩ := h0' ys y2
                                  cases ea
                                  simp only [ints] at kx ky
                                  clear h0'
                                  by_cases hc : 0 ≤ C xs ∧ C xs < n1 ∧ 0 ≤ C ys ∧ C ys < n1
                                  · obtain ⟨w0, w2, w3, w4⟩ := hc
                                    obtain ⟨cx, ecx⟩ := Int.eq_ofNat_of_zero_le w0
                                    obtain ⟨cy, ecy⟩ := Int.eq_ofNat_of_zero_le w3
                                    have cx1 : cx < n1 := by omega
                                    have cy1 : cy < n1 := by omega
                                    rw [ecx] at kx
                                    rw [ecy] at ky
                                    have H0 : Hid (RowAt wc (some ⟨b, o, none⟩) n0 (ints C)) := h0
                                    have H1 : Hid (RowAt wc b1 n1 (strs L)) := h1
                                    have H2 : Hid (RowAt wc b2 n1 (ints l)) := h2
                                    have H3 : Hid (RowAt wc b3 n1 (strs H)) := h3
                                    have H4 : Hid (RowAt wc b4 n1 (ints h)) := h4
                                    have H5 : Hid (RowAt wc b5 n1 (boos B)) := h5
                                    have E1 : Hid (C xs = (cx : Int)) := ecx
                                    have E2 : Hid (C ys = (cy : Int)) := ecy
                                    clear h0 h1 h2 h3 h4 h5 w0 w2 w3 w4 ecx ecy
                                    go_wp2_with fail
                                    refine (zzMayMeet_any _ b1 b2 b3 b4 b5 n0 n1 d0 d1 d2 d3 d4 d5 C L H l h B xs ys cx cy wc H0.out H1.out H2.out H3.out H4.out H5.out (by omega) x2 y2 E1.out E2.out cx1 cy1).mono ?_
                                    rintro e W1 ⟨rfl, be⟩
                                    have h0 := H0.out.below be
                                    have h1 := H1.out.below be
                                    have h2 := H2.out.below be
                                    have h3 := H3.out.below be
                                    have h4 := H4.out.below be
                                    have h5 := H5.out.below be
                                    replace BB := BB.trans (be.mono BB.size)
                                    clear H0 H1 H2 H3 H4 H5 be kx ky
                                    have H0 : Hid (RowAt W1 (some ⟨b, o, none⟩) n0 (ints C)) := h0
                                    have H1 : Hid (RowAt W1 b1 n1 (strs L)) := h1
                                    have H2 : Hid (RowAt W1 b2 n1 (ints l)) := h2
                                    have H3 : Hid (RowAt W1 b3 n1 (strs H)) := h3
                                    have H4 : Hid (RowAt W1 b4 n1 (ints h)) := h4
                                    have H5 : Hid (RowAt W1 b5 n1 (boos B)) := h5
                                    clear h0 h1 h2 h3 h4 h5
                                    go_wp2_with fail
                                    refine (zzMayMeet_any _ b1 b2 b3 b4 b5 n0 n1 d0 d1 d2 d3 d4 d5 C L H l h B ys xs cy cx W1 H0.out H1.out H2.out H3.out H4.out H5.out (by omega) y2 x2 E2.out E1.out cy1 cx1).mono ?_
                                    rintro e W2 ⟨rfl, be⟩
                                    rw [meet_comm (spanOf L l H h B cy)]
                                    have h1 := H1.out.below be
                                    have h2 := H2.out.below be
                                    have h3 := H3.out.below be
                                    have h4 := H4.out.below be
                                    have h5 := H5.out.below be
                                    replace BB := BB.trans (be.mono BB.size)
                                    clear H0 H1 H2 H3 H4 H5 be E1 E2
                                    obtain ⟨bL, oL, ea, x1⟩ := h1 cx cx1
                                    cases ea
                                    obtain ⟨bL, oL, ea, y1⟩ := h1 cy cy1
                                    cases ea
                                    obtain ⟨bl, ol, ea, x2⟩ := h2 cx cx1
                                    cases ea
                                    obtain ⟨bl, ol, ea, y2⟩ := h2 cy cy1
                                    cases ea
                                    obtain ⟨bH, oH, ea, x3⟩ := h3 cx cx1
                                    cases ea
                                    obtain ⟨bH, oH, ea, y3⟩ := h3 cy cy1
                                    cases ea
                                    obtain ⟨bh, oh, ea, x4⟩ := h4 cx cx1
                                    cases ea
                                    obtain ⟨bh, oh, ea, y4⟩ := h4 cy cy1
                                    cases ea
                                    obtain ⟨bB, oB, ea, x5⟩ := h5 cx cx1
                                    cases ea
                                    obtain ⟨bB, oB, ea, y5⟩ := h5 cy cy1
                                    cases ea
                                    simp only [strs, ints, boos] at x1 x2 x3 x4 x5 y1 y2 y3 y4 y5
                                    have EE : Eyes W2 ⟨bL, oL, none⟩ ⟨bl, ol, none⟩ ⟨bH, oH, none⟩ ⟨bh, oh, none⟩ cx cy L H l h := ⟨x1, x2, x3, x4, y1, y2, y3, y4⟩
                                    clear h1 h2 h3 h4 h5 hs
                                    generalize hM : meet (spanOf L l H h B cx) (spanOf L l H h B cy) = M
                                    go_upto_region 67 with fail
                                    go_cut [35] from 283 to 300 (fun s wx => Bo W2 (shutF (spanOf L l H h B cx)) s wx)
                                    case first =>
                                      clear EE hM x2 x4 y1 y2 y3 y4 y5
                                      cases hb : B cx with
                                      | false =>
                                        rw [hb] at x5
                                        go_quiet (fail)
                                        go_wp2
                                        go_meet
                                        exact ⟨by simp [shutF, spanOf, hb], nq, rfl⟩
                                      | true =>
                                        rw [hb] at x5
                                        go_quiet (fail)
                                        go_wp2
                                        go_meet
                                        exact ⟨by simp [shutF, spanOf, hb], nq, rfl⟩
                                    case rest =>
                                      obtain ⟨rfl, nq, hw⟩ := hcut
                                      have EE1 : Eyes wc ⟨bL, oL, none⟩ ⟨bl, ol, none⟩ ⟨bH, oH, none⟩ ⟨bh, oh, none⟩ cx cy L H l h := by rw [hw]; exact EE.drewN nq
                                      have y5' : wc.cell? ⟨bB, oB + cy, none⟩ = some (.bool (B cy)) := by rw [hw]; exact y5
                                      have BB1 : Below w1.heap.size w1 wc := by rw [hw]; exact below_drewN BB nq
                                      clear hw EE x1 x2 x3 x4 x5 y1 y2 y3 y4 y5 BB
                                      go_upto_region 68 with fail
                                      go_cut [36] from 301 to 315 (fun s wx => Bo wc (shutF (spanOf L l H h B cy)) s wx)
                                      case first =>
                                        have y1 := EE1.y1
                                        have y3 := EE1.y3
                                        dsimp only at y1 y3
                                        clear EE1 hM BB1
                                        cases hb : B cy with
                                        | false =>
                                          rw [hb] at y5'
                                          go_quiet (fail)
                                          go_wp2
                                          go_meet
                                          exact ⟨by simp [shutF, spanOf, hb], nq, rfl⟩
                                        | true =>
                                          rw [hb] at y5'
                                          go_quiet (fail)
                                          go_wp2
                                          go_meet
                                          exact ⟨by simp [shutF, spanOf, hb], nq, rfl⟩
                                      case rest =>
                                        as_aux_lemma =>
                                          obtain ⟨rfl, nq, hw⟩ := hcut
                                          have EE : Eyes wc ⟨bL, oL, none⟩ ⟨bl, ol, none⟩ ⟨bH, oH, none⟩ ⟨bh, oh, none⟩ cx cy L H l h := by rw [hw]; exact EE1.drewN nq
                                          have BB : Below w1.heap.size w1 wc := by rw [hw]; exact below_drewN BB1 nq
                                          clear hw EE1 y5' BB1
                                          generalize hX : shutF (spanOf L l H h B cx) = sX
                                          generalize hY : shutF (spanOf L l H h B cy) = sY
                                          cases M with
                                          | false =>
                                            as_aux_lemma =>
                                              cases sX with
                                              | false =>
                                                clear EE
                                                go_wp2
                                                go_quiet (fail)
                                                go_wp2
                                                go_ret
                                                exact ⟨rfl, below_drewN BB nq⟩
                                              | true =>
                                                cases sY with
                                                | false =>
                                                  clear EE
                                                  go_wp2
                                                  go_quiet (fail)
                                                  go_wp2
                                                  go_ret
                                                  exact ⟨rfl, below_drewN BB nq⟩
                                                | true =>
                                                  obtain ⟨x1, x2, x3, x4, y1, y2, y3, y4⟩ := (show Eyes _ ⟨bL, oL, none⟩ ⟨bl, ol, none⟩ ⟨bH, oH, none⟩ ⟨bh, oh, none⟩ cx cy L H l h from EE)
                                                  dsimp only at x1 x2 x3 x4 y1 y2 y3 y4
                                                  go_wp2
                                                  cases hv1 : inP q qs (L cx) (l cx) (H cx) (h cx) with
                                                  | false =>
                                                    go_quiet ((go_at_call 7; exact Calls.quiet_of_same (inSpan_q _ _ _ _ _ _ false _ hv1)))
                                                    go_wp2
                                                    go_ret
                                                    exact ⟨rfl, below_drewN BB nq⟩
                                                  | true =>
                                                    cases hv2 : inP q qs (L cy) (l cy) (H cy) (h cy) with
                                                    | false =>
                                                      go_quiet ((go_at_call 7; first | exact Calls.quiet_of_same (inSpan_q _ _ _ _ _ _ true _ hv1) | exact Calls.quiet_of_same (inSpan_q _ _ _ _ _ _ false _ hv2)))
                                                      go_wp2
                                                      go_ret
                                                      exact ⟨rfl, below_drewN BB nq⟩
                                                    | true =>
                                                      have := meet_of_in hX hY hv1 hv2
                                                      rw [hM] at this
                                                      cases this
                                          | true =>
                                            as_aux_lemma =>
                                              obtain ⟨s1, s2, -, -, -, -, -⟩ := meet_parts hM
                                              have L1 := late_in hM
                                              rw [hX] at s1
                                              rw [hY] at s2
                                              subst s1 s2
                                              obtain ⟨x1, x2, x3, x4, y1, y2, y3, y4⟩ := (show Eyes _ ⟨bL, oL, none⟩ ⟨bl, ol, none⟩ ⟨bH, oH, none⟩ ⟨bh, oh, none⟩ cx cy L H l h from EE)
                                              dsimp only at x1 x2 x3 x4 y1 y2 y3 y4
                                              cases hle : leP (L cx) (l cx) (L cy) (l cy) with
                                              | false =>
                                                as_aux_lemma =>
                                                  have i1 : inP (L cx) (l cx) (L cx) (l cx) (H cx) (h cx) = true := by simpa [lateB, lateS, spanOf, hle] using L1.1
                                                  have i2 : inP (L cx) (l cx) (L cy) (l cy) (H cy) (h cy) = true := by simpa [lateB, lateS, spanOf, hle] using L1.2
                                                  clear L1 hM hX hY
                                                  go_wp2
                                                  go_quiet ((go_at_call 6; exact Calls.quiet_of_same (placeLE_q _ _ _ _ false _ hle)))
                                                  have EEn := EE.drewN nq
                                                  have BBn := below_drewN BB nq
                                                  clear x1 x2 x3 x4 y1 y2 y3 y4 EE BB
                                                  generalize wc.drewN nq = wy1 at EEn BBn ⊢
                                                  have EE := EEn
                                                  have BB := BBn
                                                  clear EEn BBn
                                                  obtain ⟨x1, x2, x3, x4, y1, y2, y3, y4⟩ := (show Eyes _ ⟨bL, oL, none⟩ ⟨bl, ol, none⟩ ⟨bH, oH, none⟩ ⟨bh, oh, none⟩ cx cy L H l h from EE)
                                                  dsimp only at x1 x2 x3 x4 y1 y2 y3 y4
                                                  clear hle
                                                  go_wp2
                                                  go_quiet ((go_at_call 7; exact Calls.quiet_of_same (inSpan_q _ _ _ _ _ _ true _ i1)))
                                                  have EEn := EE.drewN nq
                                                  have BBn := below_drewN BB nq
                                                  clear x1 x2 x3 x4 y1 y2 y3 y4 EE BB
                                                  generalize wy1.drewN nq = wy2 at EEn BBn ⊢
                                                  have EE := EEn
                                                  have BB := BBn
                                                  clear EEn BBn
                                                  obtain ⟨x1, x2, x3, x4, y1, y2, y3, y4⟩ := (show Eyes _ ⟨bL, oL, none⟩ ⟨bl, ol, none⟩ ⟨bH, oH, none⟩ ⟨bh, oh, none⟩ cx cy L H l h from EE)
                                                  dsimp only at x1 x2 x3 x4 y1 y2 y3 y4
                                                  clear i1
                                                  go_wp2
                                                  go_quiet ((go_at_call 7; exact Calls.quiet_of_same (inSpan_q _ _ _ _ _ _ true _ i2)))
                                                  have EEn := EE.drewN nq
                                                  have BBn := below_drewN BB nq
                                                  clear x1 x2 x3 x4 y1 y2 y3 y4 EE BB
                                                  generalize wy2.drewN nq = wy3 at EEn BBn ⊢
                                                  have EE := EEn
                                                  have BB := BBn
                                                  clear EEn BBn
                                                  obtain ⟨x1, x2, x3, x4, y1, y2, y3, y4⟩ := (show Eyes _ ⟨bL, oL, none⟩ ⟨bl, ol, none⟩ ⟨bH, oH, none⟩ ⟨bh, oh, none⟩ cx cy L H l h from EE)
                                                  dsimp only at x1 x2 x3 x4 y1 y2 y3 y4
                                                  clear i2
                                                  go_wp2
                                                  cases hv1 : inP q qs (L cx) (l cx) (H cx) (h cx) with
                                                  | false =>
                                                    go_quiet ((go_at_call 7; exact Calls.quiet_of_same (inSpan_q _ _ _ _ _ _ false _ hv1)))
                                                    go_wp2
                                                    go_ret
                                                    exact ⟨rfl, below_drewN BB nq⟩
                                                  | true =>
                                                    cases hv2 : inP q qs (L cy) (l cy) (H cy) (h cy) with
                                                    | false =>
                                                      go_quiet ((go_at_call 7; first | exact Calls.quiet_of_same (inSpan_q _ _ _ _ _ _ true _ hv1) | exact Calls.quiet_of_same (inSpan_q _ _ _ _ _ _ false _ hv2)))
                                                      go_wp2
                                                      go_ret
                                                      exact ⟨rfl, below_drewN BB nq⟩
                                                    | true =>
                                                      go_quiet ((go_at_call 7; first | exact Calls.quiet_of_same (inSpan_q _ _ _ _ _ _ true _ hv1) | exact Calls.quiet_of_same (inSpan_q _ _ _ _ _ _ true _ hv2)))
                                                      go_wp2
                                                      go_ret
                                                      exact ⟨rfl, below_drewN BB nq⟩
                                              | true =>
                                                as_aux_lemma =>
                                                  have i1 : inP (L cy) (l cy) (L cx) (l cx) (H cx) (h cx) = true := by simpa [lateB, lateS, spanOf, hle] using L1.1
                                                  have i2 : inP (L cy) (l cy) (L cy) (l cy) (H cy) (h cy) = true := by simpa [lateB, lateS, spanOf, hle] using L1.2
                                                  clear L1 hM hX hY
                                                  go_wp2
                                                  go_quiet ((go_at_call 6; exact Calls.quiet_of_same (placeLE_q _ _ _ _ true _ hle)))
                                                  have EEn := EE.drewN nq
                                                  have BBn := below_drewN BB nq
                                                  clear x1 x2 x3 x4 y1 y2 y3 y4 EE BB
                                                  generalize wc.drewN nq = wy1 at EEn BBn ⊢
                                                  have EE := EEn
                                                  have BB := BBn
                                                  clear EEn BBn
                                                  obtain ⟨x1, x2, x3, x4, y1, y2, y3, y4⟩ := (show Eyes _ ⟨bL, oL, none⟩ ⟨bl, ol, none⟩ ⟨bH, oH, none⟩ ⟨bh, oh, none⟩ cx cy L H l h from EE)
                                                  dsimp only at x1 x2 x3 x4 y1 y2 y3 y4
                                                  clear hle
                                                  go_wp2
                                                  go_quiet ((go_at_call 7; exact Calls.quiet_of_same (inSpan_q _ _ _ _ _ _ true _ i1)))
                                                  have EEn := EE.drewN nq
                                                  have BBn := below_drewN BB nq
                                                  clear x1 x2 x3 x4 y1 y2 y3 y4 EE BB
                                                  generalize wy1.drewN nq = wy2 at EEn BBn ⊢
                                                  have EE := EEn
                                                  have BB := BBn
                                                  clear EEn BBn
                                                  obtain ⟨x1, x2, x3, x4, y1, y2, y3, y4⟩ := (show Eyes _ ⟨bL, oL, none⟩ ⟨bl, ol, none⟩ ⟨bH, oH, none⟩ ⟨bh, oh, none⟩ cx cy L H l h from EE)
                                                  dsimp only at x1 x2 x3 x4 y1 y2 y3 y4
                                                  clear i1
                                                  go_wp2
                                                  go_quiet ((go_at_call 7; exact Calls.quiet_of_same (inSpan_q _ _ _ _ _ _ true _ i2)))
                                                  have EEn := EE.drewN nq
                                                  have BBn := below_drewN BB nq
                                                  clear x1 x2 x3 x4 y1 y2 y3 y4 EE BB
                                                  generalize wy2.drewN nq = wy3 at EEn BBn ⊢
                                                  have EE := EEn
                                                  have BB := BBn
                                                  clear EEn BBn
                                                  obtain ⟨x1, x2, x3, x4, y1, y2, y3, y4⟩ := (show Eyes _ ⟨bL, oL, none⟩ ⟨bl, ol, none⟩ ⟨bH, oH, none⟩ ⟨bh, oh, none⟩ cx cy L H l h from EE)
                                                  dsimp only at x1 x2 x3 x4 y1 y2 y3 y4
                                                  clear i2
                                                  go_wp2
                                                  cases hv1 : inP q qs (L cx) (l cx) (H cx) (h cx) with
                                                  | false =>
                                                    go_quiet ((go_at_call 7; exact Calls.quiet_of_same (inSpan_q _ _ _ _ _ _ false _ hv1)))
                                                    go_wp2
                                                    go_ret
                                                    exact ⟨rfl, below_drewN BB nq⟩
                                                  | true =>
                                                    cases hv2 : inP q qs (L cy) (l cy) (H cy) (h cy) with
                                                    | false =>
                                                      go_quiet ((go_at_call 7; first | exact Calls.quiet_of_same (inSpan_q _ _ _ _ _ _ true _ hv1) | exact Calls.quiet_of_same (inSpan_q _ _ _ _ _ _ false _ hv2)))
                                                      go_wp2
                                                      go_ret
                                                      exact ⟨rfl, below_drewN BB nq⟩
                                                    | true =>
                                                      go_quiet ((go_at_call 7; first | exact Calls.quiet_of_same (inSpan_q _ _ _ _ _ _ true _ hv1) | exact Calls.quiet_of_same (inSpan_q _ _ _ _ _ _ true _ hv2)))
                                                      go_wp2
                                                      go_ret
                                                      exact ⟨rfl, below_drewN BB nq⟩
                                  · as_aux_lemma =>
                                      clear h0 h1 h2 h3 h4 h5
                                      go_wp2
                                      all_goals first | (go_ret; exact ⟨rfl, BB⟩) | (exfalso; omega)
                                · as_aux_lemma =>
                                    clear h0 h1 h2 h3 h4 h5
                                    go_wp2
                                    all_goals first | (go_ret; exact ⟨rfl, BB⟩) | (exfalso; omega)
                              · as_aux_lemma =>
                                  clear h0 h1 h2 h3 h4 h5
                                  go_wp2
                                  all_goals first | (go_ret; exact ⟨rfl, BB⟩) | (exfalso; omega)
                    · as_aux_lemma =>
                        clear h0 h1 h2 h3 h4 h5 hS1 hS3
                        go_wp2
                        all_goals first | (go_ret; exact ⟨rfl, BB⟩) | (exfalso; omega)
    · as_aux_lemma =>
        clear h0 h1 h2 h3 h4 h5 hS1 hS3
        go_wp2
        all_goals first | (go_ret; exact ⟨rfl, Below.refl _ _⟩) | (exfalso; omega)
end Go.Proofs.Qxb6623401a
