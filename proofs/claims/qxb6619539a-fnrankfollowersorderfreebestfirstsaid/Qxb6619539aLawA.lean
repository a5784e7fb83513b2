/- The law's walk: FnRankFollowersIsSortedPermutation. -/
import Derived.Test.Qxb6619539aWalkD
import Derived.Test.Qxb6619539aPlain
import Derived.WalkSmall
namespace Go.Proofs.Qxb6619539a
open Go.RowKit Go.Deep

theorem Try.info4 : (Try.prog.info? 4).map (fun i => (i.zero, i.size, i.bytes)) = some (some (.bool false), 1, 1) := by kernel_rfl

structure Said (w : World) (e : Ending) (w' : World) : Prop where
  out : e = .returned (.bool true) ∧ Below w.heap.size w w'

/-- WHAT THE LAW's LOOPS READ: the old ones, the new ones. -/
structure Rd (w wr : World) (a : Option Addr) (ob n : Nat) (F F' : Nat → Fol) : Prop where
  old : FolAt wr a n F
  new : FolAt wr (some ⟨ob, 0, none⟩) n F'
  below : Below w.heap.size w wr

theorem Rd.on {w wr wx : World} {a : Option Addr} {ob n : Nat} {F F' : Nat → Fol} (h : Rd w wr a ob n F F') (hb : Below wr.heap.size wr wx) : Rd w wx a ob n F F' :=
  ⟨h.old.below hb, h.new.below hb, h.below.trans (hb.mono h.below.size)⟩

theorem below_two (w : World) (A B : Obj) : Below w.heap.size w ((w.alloc A).alloc B).drew := (((Below.refl _ _).alloc (Nat.le_refl _) _).alloc (by simp) _).drew

theorem FolAt.but {w w' : World} {a : Option Addr} {n blk : Nat} {F : Nat → Fol} (h : FolAt w a n F) (hb : But blk w w') (hne : ∀ b o, 0 < n → a = some ⟨b, o, none⟩ → b ≠ blk) : FolAt w' a n F := by
  intro i hi
  obtain ⟨b, o, rfl, hc⟩ := h i hi
  exact ⟨b, o, rfl, hc.of_block (hb.block b hc.lt (hne b o (by omega) rfl))⟩

theorem But.below {blk B : Nat} {w w' : World} (h : But blk w w') (h1 : B ≤ blk) (h2 : B ≤ w.heap.size) : Below B w w' := ⟨h.os, h.tape, h.output, h.size, fun k hk => h.block k (by omega) (by omega)⟩

theorem Rd.set {w wr : World} {a : Option Addr} {ob n ub : Nat} {F F' : Nat → Fol} (h : Rd w wr a ob n F F') (hA : ∀ b o, 0 < n → a = some ⟨b, o, none⟩ → b ≠ ub) (hB : 0 < n → ob ≠ ub) (hC : w.heap.size ≤ ub) (j : Nat) (v : Value) : Rd w (wr.setCell ⟨ub, j, none⟩ v) a ob n F F' := by
  refine ⟨fun i hi => ?_, fun i hi => ?_, h.below.setCell hC _⟩
  · obtain ⟨b, o, rfl, hc⟩ := h.old i hi
    exact ⟨b, o, rfl, hc.of_block (blk_setCell_other _ _ _ _ (hA b o (by omega) rfl))⟩
  · obtain ⟨b, o, e, hc⟩ := h.new i hi
    cases e
    exact ⟨ob, 0, rfl, hc.of_block (blk_setCell_other _ _ _ _ (hB (by omega)))⟩
theorem Rd.drewN {w wr : World} {a : Option Addr} {ob n : Nat} {F F' : Nat → Fol} (h : Rd w wr a ob n F F') (q : Nat) : Rd w (wr.drewN q) a ob n F F' := ⟨h.old.drewN q, h.new.drewN q, below_drewN h.below q⟩

def bools (v : Nat → Bool) : Nat → Value := fun j => .bool (v j)
theorem bools_set {w : World} {b m p : Nat} {v : Nat → Bool} (h : w.rowIs b 4 m (bools v)) : (w.setCell ⟨b, p, none⟩ (.bool true)).rowIs b 4 m (bools (setU v p)) := by
  refine (h.set p _).congr fun j _ => ?_
  unfold bools setU
  by_cases e : j = p
  · subst e; simp
  · simp [e]

/-- Where the search for the i-th of the new ones stands. -/
structure Seek (n i j : Nat) (fd : Bool) (us us' : Nat → Bool) (F F' : Nat → Fol) : Prop where
  out : (fd = false ∧ us' = us ∧ ∀ x, x < j → us x = false → F x ≠ F' i) ∨ (fd = true ∧ ∃ j0, j0 < n ∧ us j0 = false ∧ F j0 = F' i ∧ us' = setU us j0)

structure RankNo (v : Bool) (w : World) (e : Ending) (w' : World) : Prop where
  out : e = .returned (.bool v) ∧ ∃ A B : Obj, w' = (w.alloc A).alloc B

theorem ranks_is (r : Int) (x y : Fol) (v : Bool) (w : World) (h0 : 0 ≤ r) (h1 : r < 18446744073709551616) (hx : Valid x) (hy : Valid y) (h : ltF r x y = v) :
    Calls Try.prog 13 #[.agg #[.int .i64 x.1, .int .u64 x.2.1, .int .u64 x.2.2.1, .int .u64 x.2.2.2.1, .int .i64 x.2.2.2.2], .agg #[.int .i64 y.1, .int .u64 y.2.1, .int .u64 y.2.2.1, .int .u64 y.2.2.2.1, .int .i64 y.2.2.2.2], .int .u64 r] w fun e w' =>
      RankNo v w e w' := (ranksBefore_any r x y w h0 h1 hx hy).mono fun e w' hh => by
  obtain ⟨he, A, B, hw⟩ := hh.out
  exact ⟨by rw [he, h], A, B, hw⟩

set_option maxHeartbeats 4000000 in
set_option maxRecDepth 20000 in
theorem law1_any (a : Option Addr) (n c : Nat) (F : Nat → Fol) (r : Int) (w : World) (ha : a = none → n = 0) (hF : FolAt w a n F) (hv : ∀ i, i < n → 0 ≤ (F i).2.2.2.1 ∧ (F i).2.2.2.1 ≤ 18446744073709551615) (hr0 : 0 ≤ r) (hr1 : r < 18446744073709551616) :
    Calls Try.prog 3 #[.slice a n c, .int .u64 r] w fun e w' => Said w e w' := by
  go_enter Try.func3, Try.ntmps3
  go_wp2_with fail
  refine (zzBytes7 a n c r w).mono ?_
  rintro e w1 ⟨v, rfl, rfl⟩
  cases v with
  | false =>
    clear hv
    go_wp2
    go_ret
    exact ⟨rfl, Below.refl _ _⟩
  | true =>
    by_cases hn : n ≤ 4096
    · go_wp2_with fail
      refine (answeredInRange_any a n c F w1 (by omega) hF).mono ?_
      rintro e w2 ⟨v, rfl, rfl, hrange⟩
      cases v with
      | false =>
        clear hv
        go_wp2
        go_ret
        exact ⟨rfl, Below.refl _ _⟩
      | true =>
        have hval : ∀ i, i < n → Valid (F i) := fun i hi => by
          have h1 := hv i hi
          have h2 := hrange rfl i hi
          exact ⟨h1.1, by omega⟩
        clear hv hrange
        go_wp2_with fail
        refine (cloneFollowers_any a n c F w2 ha (by omega) hF).mono ?_
        rintro e W1 ⟨a', rfl, ha', b1, hF1⟩
        go_wp2_with fail
        refine (toZZ_any a' n n F W1 (by omega) hF1).mono ?_
        rintro e W2 ⟨rfl, b2, hR2⟩
        go_wp2_with fail
        refine (zzRank_any W1.heap.size n F r W2 (by omega) hR2).mono ?_
        rintro e W3 ⟨rfl, but3, F', hR3, hord⟩
        have hF3 : FolAt W3 a' n F := (hF1.below b2).but but3 (fun b o h e => by
          obtain ⟨b', o', e', hc⟩ := hF1 0 h
          rw [e'] at e
          cases e
          exact Nat.ne_of_lt hc.lt)
        have b3 : Below w2.heap.size w2 W3 := (b1.trans (b2.mono b1.size)).trans (but3.below b1.size (Nat.le_trans b1.size b2.size))
        have hval' : ∀ i, i < n → Valid (F' i) := fun i hi => by
          obtain ⟨x, hx, ex⟩ := mem_of_perm hord.perm hi
          rw [← ex]
          exact hval x hx
        clear hF hF1 b1 b2 but3 hR2
        go_wp2_with fail
        refine (fromZZ_any (some ⟨W1.heap.size, 0, none⟩) n n F' W3 (by omega) hR3.fol).mono ?_
        rintro e W4 ⟨rfl, b4, hR4⟩
        have R4 : Rd w2 W4 a' W3.heap.size n F F' := ⟨hF3.below b4, hR4.fol, b3.trans (b4.mono b3.size)⟩
        clear hF3 b3 hR3 hR4 b4 hval
        go_wp2
        go_loopw [7] (fun s wr => ∃ i : Nat, i ≤ n ∧ s = .int .i64 i ∧ Rd w2 wr a' W3.heap.size n F F') (fun s _ => n - (intOf s).toNat)
        case atStart => exact ⟨0, Nat.zero_le _, rfl, R4⟩
        case round =>
          clear R4
          obtain ⟨i, hi, rfl, R⟩ := hrel
          by_cases hlt : i + 1 < n
          · obtain ⟨b, o, e1, hc1⟩ := R.new (i + 1) hlt
            cases e1
            obtain ⟨b, o, e2, hc2⟩ := R.new i (by omega)
            cases e2
            have hno := hord.sorted i (i + 1) (by omega) hlt
            have v1 := hval' (i + 1) hlt
            have v2 := hval' i (by omega)
            obtain ⟨g0, g1, g2, g3, g4⟩ := hc1
            obtain ⟨k0, k1, k2, k3, k4⟩ := hc2
            simp only [Nat.zero_add] at g0 g1 g2 g3 g4 k0 k1 k2 k3 k4
            have hlt' : (i : Int) + 1 < n := by omega
            have hw1 : IntKind.i64.wrap ((i : Int) + 1) = (i : Int) + 1 := by rw [IntKind.wrap_i64]; omega
            have hw2 : ((i : Int) + 1).toNat = i + 1 := by omega
            have hw3 : (0 : Int) ≤ (i : Int) + 1 := by omega
            clear hval'
            go_wp2
            go_region_with (go_at_call 13; refine (ranks_is r (F' (i + 1)) (F' i) false _ hr0 hr1 v1 v2 hno).mono ?_; rintro e w1 ⟨rfl, A, B, rfl⟩)
            all_goals go_wp2
            all_goals
              go_roundw
              case rel => exact ⟨i + 1, by omega, by go_num, R.on (below_two _ _ _)⟩
              case measure => simp [intOf]; omega
          · have hmk := run_make_row' (P := Try.prog) 34 4 (.bool false) 1 Try.underlying34 Try.info4 rfl .i64 .i64 n (by omega) (by omega)
            have hlt' : ¬ (i : Int) + 1 < n := by omega
            go_wp2
            have R1 : Rd w2 (wr.alloc (.cells (madeCells #[.bool false] n) 4)) a' W3.heap.size n F F' := R.on (below_made _ _)
            have U1 := (World.rowIs_made wr (.bool false) n 4)
            have hA : ∀ b o, 0 < n → a' = some ⟨b, o, none⟩ → b ≠ wr.heap.size := fun b o h e => by
              obtain ⟨b', o', e', hc⟩ := R.old 0 h
              rw [e'] at e
              cases e
              exact Nat.ne_of_lt hc.lt
            have hB : 0 < n → W3.heap.size ≠ wr.heap.size := fun h => by
              obtain ⟨b', o', e', hc⟩ := R.new 0 h
              cases e'
              exact Nat.ne_of_lt hc.lt
            have hC := R.below.size
            clear R hmk hlt' hlt hi
            generalize wr.alloc (.cells (madeCells #[.bool false] n) 4) = wx at R1 U1 ⊢
            generalize wr.heap.size = ub at U1 hA hB hC ⊢
            go_loopw [9] (fun s wy => ∃ (i : Nat) (us : Nat → Bool), i ≤ n ∧ s = .int .i64 i ∧ wy.rowIs ub 4 n (bools us) ∧ Inv n i us F F' ∧ Rd w2 wy a' W3.heap.size n F F') (fun s _ => n - (intOf s).toNat)
            case atStart => exact ⟨0, fun _ => false, Nat.zero_le _, rfl, U1, inv_start n F F', R1⟩
            case round =>
              clear U1 R1
              obtain ⟨i, us, hi, rfl, hU, hI, R⟩ := hrel
              by_cases hin : i < n
              · go_wp2
                go_loopw [11, 10] (fun s t wz => ∃ (j : Nat) (fd : Bool) (us' : Nat → Bool), j ≤ n ∧ s = .int .i64 j ∧ t = .bool fd ∧ wz.rowIs ub 4 n (bools us') ∧ Rd w2 wz a' W3.heap.size n F F' ∧ Seek n i j fd us us' F F') (fun s _ _ => n - (intOf s).toNat)
                case atStart => exact ⟨0, false, us, Nat.zero_le _, rfl, rfl, hU, R, ⟨.inl ⟨rfl, rfl, fun x h => absurd h (by omega)⟩⟩⟩
                case round =>
                  clear hU R
                  obtain ⟨j, fd, us', hj, rfl, rfl, hU, R, hS⟩ := hrel
                  cases fd with
                  | true =>
                    obtain ⟨h, _⟩ | ⟨_, j0, hj0, hu0, hx0, rfl⟩ := hS.out
                    · cases h
                    · have hI' := inv_step hI hj0 hu0 hx0
                      clear hI hS
                      by_cases hjn : j < n
                      · go_wp2
                        go_roundw
                        case rel => exact ⟨i + 1, _, by omega, by go_num, hU, hI', R⟩
                        case measure => simp [intOf]; omega
                      · go_wp2
                        go_roundw
                        case rel => exact ⟨i + 1, _, by omega, by go_num, hU, hI', R⟩
                        case measure => simp [intOf]; omega
                  | false =>
                    obtain ⟨_, rfl, hno⟩ | ⟨h, _⟩ := hS.out
                    · by_cases hjn : j < n
                      · have c1 := hU.cell hjn
                        have c1f := hU.frozen j
                        obtain ⟨b, o, e1, hc1⟩ := R.new i hin
                        cases e1
                        obtain ⟨b', o', e2, hc2⟩ := R.old j hjn
                        have ha2 := e2
                        cases e2
                        obtain ⟨g0, g1, g2, g3, g4⟩ := hc1
                        simp only [Nat.zero_add] at g0 g1 g2 g3 g4
                        simp only [bools] at c1
                        cases hu : us' j with
                        | true =>
                          rw [hu] at c1
                          have HS : Seek n i (j + 1) false us' us' F F' := ⟨.inl ⟨rfl, rfl, fun x hx hux => by
                            by_cases e : x = j
                            · subst e; rw [hu] at hux; cases hux
                            · exact hno x (by omega) hux⟩⟩
                          clear hS hno hI hc2 hu c1f hA hB
                          go_wp2
                          go_quiet (fail)
                          go_wp2
                          go_roundw
                          case rel => exact ⟨j + 1, false, us', by omega, by go_num, rfl, hU, R.drewN nq, HS⟩
                          case measure => simp [intOf]; omega
                        | false =>
                          rw [hu] at c1
                          by_cases hxy : F j = F' i
                          · rw [hxy] at hc2
                            obtain ⟨k0, k1, k2, k3, k4⟩ := hc2
                            have HS : Seek n i (j + 1) true us' (setU us' j) F F' := ⟨.inr ⟨rfl, j, hjn, hu, hxy, rfl⟩⟩
                            have R1 := R.set hA hB hC j (.bool true)
                            have U1 := bools_set (p := j) hU
                            clear hS hno hI hu hA hB R hU hxy
                            go_wp2
                            go_quiet (fail)
                            go_wp2
                            go_roundw
                            case rel => exact ⟨j + 1, true, setU us' j, by omega, by go_num, rfl, U1, R1.drewN nq, HS⟩
                            case measure => simp [intOf]; omega
                          · obtain ⟨k0, k1, k2, k3, k4⟩ := hc2
                            have HS : Seek n i (j + 1) false us' us' F F' := ⟨.inl ⟨rfl, rfl, fun x hx hux => by
                              by_cases e : x = j
                              · subst e; exact hxy
                              · exact hno x (by omega) hux⟩⟩
                            have hq := eql_fol (F' i) (F j)
                            have hq' : decide (F' i = F j) = false := by simp; exact fun h => hxy h.symm
                            rw [hq'] at hq
                            clear hS hno hI hu hA hB c1f hxy hq'
                            go_wp2
                            go_quiet (fail)
                            go_wp2
                            go_roundw
                            case rel => exact ⟨j + 1, false, us', by omega, by go_num, rfl, hU, R.drewN nq, HS⟩
                            case measure => simp [intOf]; omega
                      · obtain ⟨x, hx, hux, hxe⟩ := inv_find hI hord.perm hin
                        exact absurd hxe (hno x (by omega) hux)
                    · cases h
              · go_wp2
                go_ret
                exact ⟨rfl, R.below⟩
    · clear hv
      go_wp2
      go_ret
      exact ⟨rfl, Below.refl _ _⟩
end Go.Proofs.Qxb6619539a
