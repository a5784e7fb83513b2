/- The law's walk: FnRankFollowersOrderFreeBestFirst. -/
import Derived.Test.Qxb6619539aLawA
namespace Go.Proofs.Qxb6619539a
open Go.RowKit Go.Deep

theorem FolAt.congr {w : World} {a : Option Addr} {n : Nat} {F G : Nat → Fol} (h : FolAt w a n F) (e : ∀ i, i < n → F i = G i) : FolAt w a n G := by
  intro i hi
  obtain ⟨b, o, rfl, hc⟩ := h i hi
  exact ⟨b, o, rfl, e i hi ▸ hc⟩

/-- WHAT THE LAW's LAST LOOPS READ: the old ones, and the two results, which are one. -/
structure Rd2 (w wr : World) (a : Option Addr) (oa ob n : Nat) (F A : Nat → Fol) : Prop where
  old : FolAt wr a n F
  ra : FolAt wr (some ⟨oa, 0, none⟩) n A
  rb : FolAt wr (some ⟨ob, 0, none⟩) n A
  below : Below w.heap.size w wr

theorem Rd2.on {w wr wx : World} {a : Option Addr} {oa ob n : Nat} {F A : Nat → Fol} (h : Rd2 w wr a oa ob n F A) (hb : Below wr.heap.size wr wx) : Rd2 w wx a oa ob n F A :=
  ⟨h.old.below hb, h.ra.below hb, h.rb.below hb, h.below.trans (hb.mono h.below.size)⟩
theorem Rd2.drewN {w wr : World} {a : Option Addr} {oa ob n : Nat} {F A : Nat → Fol} (h : Rd2 w wr a oa ob n F A) (q : Nat) : Rd2 w (wr.drewN q) a oa ob n F A := ⟨h.old.drewN q, h.ra.drewN q, h.rb.drewN q, below_drewN h.below q⟩
theorem Rd2.put {w wr : World} {a : Option Addr} {oa ob n bb : Nat} {F A : Nat → Fol} (h : Rd2 w wr a oa ob n F A) (hA : ∀ b o, 0 < n → a = some ⟨b, o, none⟩ → b ≠ bb) (h1 : oa ≠ bb) (h2 : ob ≠ bb) (hC : w.heap.size ≤ bb) (o : Nat) (x : Fol) : Rd2 w (put5 wr bb o x) a oa ob n F A := by
  refine ⟨fun i hi => ?_, h.ra.put_other h1, h.rb.put_other h2, below_put h.below hC o x⟩
  obtain ⟨b, o', rfl, hc⟩ := h.old i hi
  exact ⟨b, o', rfl, hc.of_block (put5_other _ _ _ _ _ (hA b o' (by omega) rfl))⟩

theorem rowF_one (w : World) (x : Fol) : RowF (w.alloc (.cells #[.int .i64 x.1, .int .u64 x.2.1, .int .u64 x.2.2.1, .int .u64 x.2.2.2.1, .int .i64 x.2.2.2.2] 33)) w.heap.size 33 1 (fun _ => x) := by
  refine ⟨_, blk_alloc_new _ _, rfl, fun c hc => ?_⟩
  match c, hc with
  | 0, _ => rfl
  | 1, _ => rfl
  | 2, _ => rfl
  | 3, _ => rfl
  | 4, _ => rfl

/-- The best of the first i. -/
structure Best (r : Int) (n i b : Nat) (F : Nat → Fol) : Prop where
  lt : b < n
  best : ∀ j, j < i → ltF r (F j) (F b) = false

theorem best_start {r : Int} {n : Nat} {F : Nat → Fol} (hn : 0 < n) : Best r n 1 0 F := ⟨hn, fun j hj => by
  have : j = 0 := by omega
  subst this
  exact irr r _⟩
theorem best_new {r : Int} {n i b : Nat} {F : Nat → Fol} (h : Best r n i b F) (hi : i < n) (hlt : ltF r (F i) (F b) = true) : Best r n (i + 1) i F := ⟨hi, fun j hj => by
  by_cases e : j = i
  · subst e; exact irr r _
  · cases hc : ltF r (F j) (F i) with
    | false => rfl
    | true => have := ltF_trans hc hlt; rw [h.best j (by omega)] at this; cases this⟩
theorem best_old {r : Int} {n i b : Nat} {F : Nat → Fol} (h : Best r n i b F) (hlt : ltF r (F i) (F b) = false) : Best r n (i + 1) b F := ⟨h.lt, fun j hj => by
  by_cases e : j = i
  · subst e; exact hlt
  · exact h.best j (by omega)⟩

set_option maxHeartbeats 4000000 in
set_option maxRecDepth 20000 in
theorem law2_any (a : Option Addr) (n c : Nat) (F : Nat → Fol) (k r : Int) (w : World) (ha : a = none → n = 0) (hF : FolAt w a n F) (hv : ∀ i, i < n → 0 ≤ (F i).2.2.2.1 ∧ (F i).2.2.2.1 ≤ 18446744073709551615) (hr0 : 0 ≤ r) (hr1 : r < 18446744073709551616) :
    Calls Try.prog 4 #[.slice a n c, .int .i64 k, .int .u64 r] w fun e w' => Said w e w' := by
  go_enter Try.func4, Try.ntmps4
  go_wp2_with fail
  refine (zzBytes14 a n c k r w).mono ?_
  rintro e w1 ⟨v, rfl, rfl⟩
  cases v with
  | false =>
    clear hv
    go_wp2
    go_ret
    exact ⟨rfl, Below.refl _ _⟩
  | true =>
    by_cases hn : n ≤ 4096
    · by_cases hk0 : k < 0
      · clear hv
        go_wp2
        go_ret
        exact ⟨rfl, Below.refl _ _⟩
      · obtain ⟨kk, rfl⟩ := Int.eq_ofNat_of_zero_le (show 0 ≤ k by omega)
        by_cases hk1 : n < kk
        · clear hv
          go_wp2
          go_ret
          exact ⟨rfl, Below.refl _ _⟩
        · go_wp2_with fail
          refine (answeredInRange_any a n c F w1 (by omega) hF).mono ?_
          rintro e w2 ⟨v, rfl, rfl, hrange⟩
          cases v with
          | false =>
            clear hv
            go_wp2
            go_ret
            exact ⟨rfl, Below.refl _ _⟩
          | true =>
            have hval : ∀ i, i < n → Valid (F i) := fun i hi => by
              have h1 := hv i hi
              have h2 := hrange rfl i hi
              exact ⟨h1.1, by omega⟩
            clear hv hrange
            go_wp2_with fail
            refine (distinctIDs_any a n c F w2 (by omega) hF).mono ?_
            rintro e w3 ⟨v, q, rfl, hw3, hdist⟩
            have b0 : Below w2.heap.size w2 w3 := by rw [hw3]; exact below_drewN (Below.refl _ _) q
            have hF3 := hF.below b0
            clear hw3 hF
            cases v with
            | false =>
              clear hval
              go_wp2
              go_ret
              exact ⟨rfl, b0⟩
            | true =>
              have HD : Hid (Distinct n F) := hdist rfl
              clear hdist
              go_wp2_with fail
              refine (cloneFollowers_any a n c F w3 ha (by omega) hF3).mono ?_
              rintro e W1 ⟨a', rfl, ha', b1, hF1⟩
              have B1 : Below w2.heap.size w2 W1 := b0.trans (b1.mono b0.size)
              clear hF3 b0 b1
              have hmk := run_make5 22 33 _ Try.underlying22 Try.info33 n (by omega)
              go_wp2
              clear hmk
              go_loopw [9] (fun s wr => ∃ i : Nat, i ≤ n ∧ s = .int .i64 i ∧ RowF wr W1.heap.size 33 n (upto (rot n kk F) i) ∧ Below W1.heap.size W1 wr) (fun s _ => n - (intOf s).toNat)
              case atStart => exact ⟨0, Nat.zero_le _, rfl, (rowF_made W1 n 33).congr (fun i _ => by simp [upto]), below_made _ _⟩
              case round =>
                obtain ⟨i, hi, rfl, hrow, hb⟩ := hrel
                by_cases hlt : i < n
                · obtain ⟨x0, x1, x2, x3, x4⟩ := hrow.at5 hlt
                  have y0 := hrow.frozen (i * 5)
                  have y1 := hrow.frozen (i * 5 + 1)
                  have y2 := hrow.frozen (i * 5 + 2)
                  have y3 := hrow.frozen (i * 5 + 3)
                  have y4 := hrow.frozen (i * 5 + 4)
                  have R1 := hrow.put i (rot n kk F i)
                  rw [upto_step] at R1
                  have R2 := below_put hb (Nat.le_refl _) (i * 5) (rot n kk F i)
                  by_cases hik : i + kk < n
                  · obtain ⟨b, o, ea, hc⟩ := hF1.below hb (i + kk) hik
                    cases ea
                    obtain ⟨g0, g1, g2, g3, g4⟩ := hc
                    have er : rot n kk F i = F (i + kk) := by simp only [rot]; rw [if_pos hik]
                    rw [er] at R1 R2
                    clear hrow hb hF1 hval er
                    go_wp2
                    go_roundw
                    case rel => exact ⟨i + 1, by omega, by go_num, R1, R2⟩
                    case measure => simp [intOf]; omega
                  · obtain ⟨b, o, ea, hc⟩ := hF1.below hb (i + kk - n) (by omega)
                    cases ea
                    obtain ⟨g0, g1, g2, g3, g4⟩ := hc
                    have er : rot n kk F i = F (i + kk - n) := by simp only [rot]; rw [if_neg hik]
                    rw [er] at R1 R2
                    clear hrow hb hF1 hval er
                    go_wp2
                    go_roundw
                    case rel => exact ⟨i + 1, by omega, by go_num, R1, R2⟩
                    case measure => simp [intOf]; omega
                · have e1 : i = n := by omega
                  subst e1
                  have HR : RowF wr W1.heap.size 33 i (rot i kk F) := hrow.congr (fun j hj => by simp [upto, hj])
                  have hFr := hF1.below hb
                  have BR : Below w2.heap.size w2 wr := B1.trans (hb.mono B1.size)
                  have hA0 : ∀ b o, 0 < i → a' = some ⟨b, o, none⟩ → b < W1.heap.size := fun b o h e => by
                    obtain ⟨b', o', e', hc⟩ := hF1 0 h
                    rw [e'] at e
                    cases e
                    exact hc.lt
                  have hs0 := B1.size
                  have hs1 := HR.lt
                  clear hrow hb hF1 B1 hlt hi
                  go_wp2_with fail
                  refine (toZZ_any a' i i F wr (by omega) hFr).mono ?_
                  rintro e W3 ⟨rfl, b3, hR3⟩
                  have hs3 := hR3.lt
                  go_wp2_with fail
                  refine (zzRank_any wr.heap.size i F r W3 (by omega) hR3).mono ?_
                  rintro e W4 ⟨rfl, but4, A, hA4, hordA⟩
                  have F4 : FolAt W4 a' i F := (hFr.below b3).but but4 (fun b o h e => by have := hA0 b o h e; omega)
                  have BB4 : Below wr.heap.size wr W4 := b3.trans (but4.below (Nat.le_refl _) b3.size)
                  have HR4 : RowF W4 W1.heap.size 33 i (rot i kk F) := HR.of_block (BB4.block _ hs1)
                  have B4 : Below w2.heap.size w2 W4 := BR.trans (BB4.mono BR.size)
                  have hs4 := hA4.lt
                  clear hFr HR BR b3 but4 hR3 BB4
                  go_wp2_with fail
                  refine (toZZ_any (some ⟨W1.heap.size, 0, none⟩) i i (rot i kk F) W4 (by omega) HR4.fol).mono ?_
                  rintro e W5 ⟨rfl, b5, hR5⟩
                  go_wp2_with fail
                  refine (zzRank_any W4.heap.size i (rot i kk F) r W5 (by omega) hR5).mono ?_
                  rintro e W6 ⟨rfl, but6, B, hB6, hordB⟩
                  have BB6 : Below W4.heap.size W4 W6 := b5.trans (but6.below (Nat.le_refl _) b5.size)
                  have F6 := F4.below BB6
                  have A6 : RowF W6 wr.heap.size 45 i A := hA4.of_block (BB6.block _ hs4)
                  have B6 : Below w2.heap.size w2 W6 := B4.trans (BB6.mono B4.size)
                  have hsame : ∀ j, j < i → B j = A j := fun j hj => (same_order hordA (hordB.of_perm (rot_perm (by omega) F)) HD.out hj).symm
                  clear F4 HR4 B4 b5 but6 hR5 BB6 hA4 hordB
                  go_wp2_with fail
                  refine (fromZZ_any (some ⟨wr.heap.size, 0, none⟩) i i A W6 (by omega) A6.fol).mono ?_
                  rintro e W7 ⟨rfl, b7, hR7⟩
                  have F7 := F6.below b7
                  have hB7 := hB6.fol.below b7
                  have B7 : Below w2.heap.size w2 W7 := B6.trans (b7.mono B6.size)
                  clear F6 A6 B6 b7 hB6
                  go_wp2_with fail
                  refine (fromZZ_any (some ⟨W4.heap.size, 0, none⟩) i i B W7 (by omega) hB7).mono ?_
                  rintro e W8 ⟨rfl, b8, hR8⟩
                  have R : Rd2 w2 W8 a' W6.heap.size W7.heap.size i F A := ⟨F7.below b8, hR7.fol.below b8, hR8.fol.congr hsame, B7.trans (b8.mono B7.size)⟩
                  clear F7 B7 b8 hR7 hR8 hB7 hsame
                  go_wp2
                  clear hs0 hs1 hs3 hs4
                  go_loopw [15] (fun s wx => ∃ m : Nat, m ≤ i ∧ s = .int .i64 m ∧ Rd2 w2 wx a' W6.heap.size W7.heap.size i F A) (fun s _ => i - (intOf s).toNat)
                  case atStart => exact ⟨0, Nat.zero_le _, rfl, R⟩
                  case round =>
                    clear R
                    obtain ⟨m, hm, rfl, R⟩ := hrel
                    by_cases hlt : m < i
                    · obtain ⟨b, o, e1, hc1⟩ := R.ra m hlt
                      cases e1
                      obtain ⟨b, o, e2, hc2⟩ := R.rb m hlt
                      cases e2
                      obtain ⟨g0, g1, g2, g3, g4⟩ := hc1
                      obtain ⟨k0, k1, k2, k3, k4⟩ := hc2
                      simp only [Nat.zero_add] at g0 g1 g2 g3 g4 k0 k1 k2 k3 k4
                      clear hval hordA hA0
                      go_wp2
                      go_quiet (fail)
                      go_wp2
                      go_roundw
                      case rel => exact ⟨m + 1, by omega, by go_num, R.drewN nq⟩
                      case measure => simp [intOf]; omega
                    · skip
                      by_cases h0 : 0 < i
                      · obtain ⟨b, o, ea, hc⟩ := R.old 0 h0
                        have R1 : Rd2 w2 (wr.alloc (.cells #[.int .i64 (F 0).1, .int .u64 (F 0).2.1, .int .u64 (F 0).2.2.1, .int .u64 (F 0).2.2.2.1, .int .i64 (F 0).2.2.2.2] 33)) a' W6.heap.size W7.heap.size i F A := R.on ((Below.refl _ _).alloc (Nat.le_refl _) _)
                        have U1 := rowF_one wr (F 0)
                        cases ea
                        obtain ⟨g0, g1, g2, g3, g4⟩ := hc
                        simp only [Nat.zero_mul, Nat.add_zero] at g0 g1 g2 g3 g4
                        have hA : ∀ b' o', 0 < i → (some ⟨b, o, none⟩ : Option Addr) = some ⟨b', o', none⟩ → b' ≠ wr.heap.size := fun b' o' h e => by
                          cases e
                          obtain ⟨b2, o2, e2, hc2⟩ := R.old 0 h
                          cases e2
                          exact Nat.ne_of_lt hc2.lt
                        have hB : W6.heap.size ≠ wr.heap.size := by
                          obtain ⟨b2, o2, e2, hc2⟩ := R.ra 0 h0
                          cases e2
                          exact Nat.ne_of_lt hc2.lt
                        have hB' : W7.heap.size ≠ wr.heap.size := by
                          obtain ⟨b2, o2, e2, hc2⟩ := R.rb 0 h0
                          cases e2
                          exact Nat.ne_of_lt hc2.lt
                        have hC := R.below.size
                        have HA : Hid (Ordered r i F A) := hordA
                        have HV : Hid (∀ j, j < i → Valid (F j)) := hval
                        clear hordA hA0 hval
                        go_wp2
                        clear g0 g1 g2 g3 g4 R hlt hm
                        generalize wr.alloc (.cells #[.int .i64 (F 0).1, .int .u64 (F 0).2.1, .int .u64 (F 0).2.2.1, .int .u64 (F 0).2.2.2.1, .int .i64 (F 0).2.2.2.2] 33) = wx at R1 U1 ⊢
                        generalize wr.heap.size = bb at U1 hA hB hB' hC ⊢
                        go_loopw [17] (fun s wy => ∃ m g : Nat, m ≤ i ∧ s = .int .i64 m ∧ RowF wy bb 33 1 (fun _ => F g) ∧ Best r i m g F ∧ Rd2 w2 wy (some ⟨b, o, none⟩) W6.heap.size W7.heap.size i F A) (fun s _ => i - (intOf s).toNat)
                        case atStart => exact ⟨1, 0, h0, rfl, U1, best_start h0, R1⟩
                        case round =>
                          clear R1 U1
                          obtain ⟨m, g, hm, rfl, hU, hBest, R⟩ := hrel
                          by_cases hlt : m < i
                          · obtain ⟨b2, o2, e2, hc2⟩ := R.old m hlt
                            cases e2
                            obtain ⟨g0, g1, g2, g3, g4⟩ := hc2
                            obtain ⟨k0, k1, k2, k3, k4⟩ := hU.at5 (i := 0) (by omega)
                            simp only [Nat.zero_add, Nat.zero_mul] at k0 k1 k2 k3 k4
                            have v1 := HV.out m hlt
                            have v2 := HV.out g hBest.lt
                            have hbb := hU.lt
                            cases hno : ltF r (F m) (F g) with
                            | false =>
                              have HB := best_old hBest hno
                              clear hBest hA hB hB'
                              go_wp2
                              go_region_with (go_at_call 13; refine (ranks_is r (F m) (F g) false _ hr0 hr1 v1 v2 hno).mono ?_; rintro e w1 ⟨rfl, A1, B1, rfl⟩)
                              all_goals go_wp2
                              all_goals
                                go_roundw
                                case rel => exact ⟨m + 1, g, by omega, by go_num, hU.of_block ((below_two _ _ _).block _ hbb), HB, R.on (below_two _ _ _)⟩
                                case measure => simp [intOf]; omega
                            | true =>
                              have HB := best_new hBest hlt hno
                              clear hBest
                              go_wp2
                              go_region_with (go_at_call 13; refine (ranks_is r (F m) (F g) true _ hr0 hr1 v1 v2 hno).mono ?_; rintro e w1 ⟨rfl, A1, B1, rfl⟩)
                              all_goals
                                have R2 := R.on (below_two wr A1 B1)
                                have U2 : RowF _ bb 33 1 _ := hU.of_block ((below_two wr A1 B1).block _ hbb)
                                clear g0 g1 g2 g3 g4 k0 k1 k2 k3 k4 R hU
                                generalize ((wr.alloc A1).alloc B1).drew = wz at R2 U2 ⊢
                                obtain ⟨b2, o2, e2, hc2⟩ := R2.old m hlt
                                cases e2
                                obtain ⟨g0, g1, g2, g3, g4⟩ := hc2
                                obtain ⟨k0, k1, k2, k3, k4⟩ := U2.at5 (i := 0) (by omega)
                                have y0 := U2.frozen 0
                                have y1 := U2.frozen 1
                                have y2 := U2.frozen 2
                                have y3 := U2.frozen 3
                                have y4 := U2.frozen 4
                                simp only [Nat.zero_add, Nat.zero_mul] at k0 k1 k2 k3 k4
                                have U3 : RowF _ bb 33 1 (fun _ => F m) := (U2.put 0 (F m)).congr (fun j hj => by
                                  have : j = 0 := by omega
                                  subst this
                                  simp [upd])
                                have R3 := R2.put hA hB hB' hC 0 (F m)
                                clear U2 R2 hA hB hB'
                                go_wp2
                                go_roundw
                                case rel => exact ⟨m + 1, m, by omega, by go_num, U3, HB, R3⟩
                                case measure => simp [intOf]; omega
                          · have hm2 : m = i := by omega
                            rw [hm2] at hBest
                            have e0 := best_first HA.out HD.out h0 hBest.lt hBest.best
                            obtain ⟨b2, o2, e2, hc2⟩ := R.ra 0 h0
                            cases e2
                            obtain ⟨g0, g1, g2, g3, g4⟩ := hc2
                            obtain ⟨k0, k1, k2, k3, k4⟩ := hU.at5 (i := 0) (by omega)
                            rw [← e0] at k0 k1 k2 k3 k4
                            simp only [Nat.zero_add, Nat.zero_mul] at g0 g1 g2 g3 g4 k0 k1 k2 k3 k4
                            clear hBest e0 hA hB hB' hm2
                            go_wp2
                            go_quiet (fail)
                            go_wp2
                            go_ret
                            exact ⟨rfl, (R.drewN nq).below⟩
                      · go_wp2
                        go_ret
                        exact ⟨rfl, R.below⟩
    · clear hv
      go_wp2
      go_ret
      exact ⟨rfl, Below.refl _ _⟩
end Go.Proofs.Qxb6619539a
