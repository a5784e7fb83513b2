/- The walks: the guards; cloneFollowers. -/
import Derived.Test.Qxb6619539aMem
import Derived.BigQuiet
namespace Go.Proofs.Qxb6619539a
open Go.RowKit Go.Deep

structure BytesSay (n : Nat) (w : World) (e : Ending) (w' : World) : Prop where
  out : ∃ v, e = .returned (.bool v) ∧ w' = w

theorem zzBytes7 (a : Option Addr) (n c : Nat) (r : Int) (w : World) : Calls Try.prog 7 #[.slice a n c, .int .u64 r] w fun e w' => BytesSay n w e w' := by
  go_enter Try.func7, Try.ntmps7
  go_wp2
  all_goals (go_ret; exact ⟨_, rfl, rfl⟩)

theorem zzBytes14 (a : Option Addr) (n c : Nat) (k r : Int) (w : World) : Calls Try.prog 14 #[.slice a n c, .int .i64 k, .int .u64 r] w fun e w' => BytesSay n w e w' := by
  go_enter Try.func14, Try.ntmps14
  go_wp2
  all_goals (go_ret; exact ⟨_, rfl, rfl⟩)

structure RangeSay (n : Nat) (F : Nat → Fol) (w : World) (e : Ending) (w' : World) : Prop where
  out : ∃ v, e = .returned (.bool v) ∧ w' = w ∧ (v = true → ∀ i, i < n → (F i).2.2.2.1 ≠ 18446744073709551615)

theorem range_step {F : Nat → Fol} {k : Nat} (h : Hid (∀ j, j < k → (F j).2.2.2.1 ≠ 18446744073709551615)) (hk : ((F k).2.2.2.1 == 18446744073709551615) = false) : Hid (∀ j, j < k + 1 → (F j).2.2.2.1 ≠ 18446744073709551615) := by
  intro j hj
  by_cases e : j = k
  · subst e
    exact fun h => by rw [h] at hk; simp at hk
  · exact h.out j (by omega)

set_option maxHeartbeats 400000 in
theorem answeredInRange_any (a : Option Addr) (n c : Nat) (F : Nat → Fol) (w : World) (hn : n ≤ 1048576) (hr : FolAt w a n F) :
    Calls Try.prog 8 #[.slice a n c] w fun e w' => RangeSay n F w e w' := by
  go_enter Try.func8, Try.ntmps8
  go_wp2
  go_loop [3] (fun i => ∃ k : Nat, k ≤ n ∧ i = .int .i64 k ∧ Hid (∀ j, j < k → (F j).2.2.2.1 ≠ 18446744073709551615)) (fun i => n - (intOf i).toNat)
  case atStart => exact ⟨0, Nat.zero_le _, rfl, fun j h => absurd h (by omega)⟩
  case round =>
    obtain ⟨k, hk, rfl, HK⟩ := hrel
    by_cases hlt : k < n
    · obtain ⟨b, o, ea, hc⟩ := hr k hlt
      cases ea
      have h3 := hc.c3
      clear hr hc
      go_wp2
      · go_ret
        exact ⟨false, rfl, rfl, fun h => by cases h⟩
      · go_round
        case rel => exact ⟨k + 1, by omega, by go_num, range_step HK (by assumption)⟩
        case measure => simp [intOf]; omega
    · have hkn : k = n := by omega
      subst hkn
      clear hr
      go_wp2
      go_ret
      exact ⟨true, rfl, rfl, fun _ => HK.out⟩

/-! ### distinctIDs -/
structure DistinctSay (n : Nat) (F : Nat → Fol) (w : World) (e : Ending) (w' : World) : Prop where
  out : ∃ v q, e = .returned (.bool v) ∧ w' = w.drewN q ∧ (v = true → ∀ i j, i < j → j < n → (F i).1 ≠ (F j).1)

theorem dist_inner {F : Nat → Fol} {i j : Nat} (h : Hid (∀ x, i < x → x < j → (F i).1 ≠ (F x).1)) (hk : ((F i).1 == (F j).1) = false) : Hid (∀ x, i < x → x < j + 1 → (F i).1 ≠ (F x).1) := by
  intro x h1 h2
  by_cases e : x = j
  · subst e
    exact fun h => by rw [h] at hk; simp at hk
  · exact h.out x h1 (by omega)
theorem dist_outer {F : Nat → Fol} {i n : Nat} (h : Hid (∀ x y, x < i → x < y → y < n → (F x).1 ≠ (F y).1)) (hk : Hid (∀ x, i < x → x < n → (F i).1 ≠ (F x).1)) : Hid (∀ x y, x < i + 1 → x < y → y < n → (F x).1 ≠ (F y).1) := by
  intro x y h1 h2 h3
  by_cases e : x = i
  · subst e
    exact hk.out y h2 h3
  · exact h.out x y (by omega) h2 h3

structure Drawn (w wr : World) (a : Option Addr) (n : Nat) (F : Nat → Fol) : Prop where
  dr : ∃ q, wr = w.drewN q
  rd : FolAt wr a n F

theorem FolAt.drewN {w : World} {a : Option Addr} {n : Nat} {F : Nat → Fol} (h : FolAt w a n F) (q : Nat) : FolAt (w.drewN q) a n F := by
  intro i hi
  obtain ⟨b, o, rfl, hc⟩ := h i hi
  exact ⟨b, o, rfl, hc.c0, hc.c1, hc.c2, hc.c3, hc.c4⟩

theorem Drawn.drewN {w wr : World} {a : Option Addr} {n : Nat} {F : Nat → Fol} (h : Drawn w wr a n F) (q : Nat) : Drawn w (wr.drewN q) a n F := by
  obtain ⟨⟨p, rfl⟩, h2⟩ := h
  exact ⟨⟨p + q, by rw [World.drewN_drewN]⟩, h2.drewN q⟩

set_option maxHeartbeats 1000000 in
theorem distinctIDs_any (a : Option Addr) (n c : Nat) (F : Nat → Fol) (w : World) (hn : n ≤ 1048576) (hr : FolAt w a n F) :
    Calls Try.prog 15 #[.slice a n c] w fun e w' => DistinctSay n F w e w' := by
  go_enter Try.func15, Try.ntmps15
  go_wp2
  go_loopw [3] (fun s wr => ∃ i : Nat, i ≤ n ∧ s = .int .i64 i ∧ Drawn w wr a n F ∧ Hid (∀ x y, x < i → x < y → y < n → (F x).1 ≠ (F y).1)) (fun s _ => n - (intOf s).toNat)
  case atStart => exact ⟨0, Nat.zero_le _, rfl, ⟨⟨0, rfl⟩, hr⟩, fun x y h => absurd h (by omega)⟩
  case round =>
    obtain ⟨i, hi, rfl, D, HO⟩ := hrel
    clear hr
    by_cases hlt : i < n
    · go_wp2
      go_loopw [4] (fun s wx => ∃ j : Nat, i < j ∧ j ≤ n ∧ s = .int .i64 j ∧ Drawn w wx a n F ∧ Hid (∀ x, i < x → x < j → (F i).1 ≠ (F x).1)) (fun s _ => n - (intOf s).toNat)
      case atStart => exact ⟨i + 1, by omega, by omega, by go_num, D, fun x h1 h2 => absurd h2 (by omega)⟩
      case round =>
        clear D
        obtain ⟨j, hj0, hj, rfl, D, HI⟩ := hrel
        by_cases hlt2 : j < n
        · obtain ⟨b, o, ea, hci⟩ := D.rd i hlt
          have D' := D
          cases ea
          obtain ⟨b', o', ea, hcj⟩ := D.rd j hlt2
          cases ea
          have g1 := hci.c0
          have g2 := hcj.c0
          clear hci hcj D
          go_wp2
          go_quiet (fail)
          go_wp2
          · go_ret
            obtain ⟨⟨q, hq⟩, _⟩ := D'.drewN nq
            exact ⟨false, q, rfl, hq, fun h => by cases h⟩
          · go_roundw
            case rel => exact ⟨j + 1, by omega, by omega, by go_num, D'.drewN nq, dist_inner HI (by assumption)⟩
            case measure => simp [intOf]; omega
        · have hjn : j = n := by omega
          subst hjn
          go_wp2
          go_roundw
          case rel => exact ⟨i + 1, by omega, by go_num, D, dist_outer HO HI⟩
          case measure => simp [intOf]; omega
    · have hin : i = n := by omega
      subst hin
      go_wp2
      go_ret
      obtain ⟨⟨q, hq⟩, _⟩ := D
      exact ⟨true, q, rfl, hq, fun _ x y h1 h2 => HO.out x y (by omega) h1 h2⟩

/-! ### cloneFollowers -/
theorem Try.info33 : (Try.prog.info? 33).map (fun i => (i.zero, i.size, i.bytes)) = some (some (.agg #[.int .i64 0, .int .u64 0, .int .u64 0, .int .u64 0, .int .i64 0]), 5, 40) := by kernel_rfl

/-- 'make([]T, n)', T of five cells. -/
theorem run_make5 (t e : TypeId) (z : Value) (ht : Try.prog.underlying t = some (.slice e)) (hinfo : (Try.prog.info? e).map (fun i => (i.zero, i.size, i.bytes)) = some (some z, 5, 40)) (n : Nat) (hn : n ≤ 1048576) (w : World) :
    (Instr.makeSlice t (.int .i64 (n : Int)) (.int .i64 (n : Int))).run Try.prog w = .ok (.slice (some ⟨w.heap.size, 0, none⟩) n n) (w.alloc (.cells (madeCells z.cells (n * 5)) e)) := by
  obtain ⟨i, hi, hzz⟩ := Option.map_eq_some_iff.1 hinfo
  simp only [Prod.mk.injEq] at hzz
  obtain ⟨hz, hs, hb⟩ := hzz
  have hr := run_make (P := Try.prog) w t e i z ht hi hz .i64 .i64 n n (by omega) (Int.le_refl _) (by rw [hb]; omega) (by omega)
  simp only [Int.toNat_natCast, hs] at hr
  exact hr

structure ClonedF (w : World) (n : Nat) (F : Nat → Fol) (e : Ending) (w' : World) : Prop where
  out : ∃ a', e = .returned (.slice a' n n) ∧ (a' = none → n = 0) ∧ Below w.heap.size w w' ∧ FolAt w' a' n F

set_option maxHeartbeats 400000 in
theorem cloneFollowers_any (a : Option Addr) (n c : Nat) (F : Nat → Fol) (w : World) (ha : a = none → n = 0) (hn : n ≤ 1048576) (hr : FolAt w a n F) :
    Calls Try.prog 9 #[.slice a n c] w fun e w' => ClonedF w n F e w' := by
  have q22 : ∀ (w : World) (a : Option Addr) (n c n' c' : Nat), (binOp .eql 22 (.slice a n c) (.slice none n' c')).run Try.prog w = .ok (.bool a.isNone) w := fun w a n c n' c' => Lib.run_eql_slice_nil w _ _ a n c n' c' Try.underlying22
  cases a with
  | none =>
    obtain rfl := ha rfl
    go_enter Try.func9, Try.ntmps9
    go_wp2
    go_ret
    exact ⟨none, rfl, fun _ => rfl, Below.refl _ _, fun i h => absurd h (by omega)⟩
  | some a =>
    have hmk := run_make5 22 33 _ Try.underlying22 Try.info33 n hn
    go_enter Try.func9, Try.ntmps9
    go_wp2
    clear hmk q22
    go_loopw [4] (fun i wr => ∃ k : Nat, k ≤ n ∧ i = .int .i64 k ∧ RowF wr w.heap.size 33 n (upto F k) ∧ Below w.heap.size w wr) (fun i _ => n - (intOf i).toNat)
    case atStart => exact ⟨0, Nat.zero_le _, rfl, (rowF_made w n 33).congr (fun i _ => by simp [upto]), below_made _ _⟩
    case round =>
      obtain ⟨k, hk, rfl, hrow, hb⟩ := hrel
      by_cases hlt : k < n
      · obtain ⟨b, o, ea, hc⟩ := hr.below hb k hlt
        cases ea
        obtain ⟨g0, g1, g2, g3, g4⟩ := hc
        obtain ⟨x0, x1, x2, x3, x4⟩ := hrow.at5 hlt
        have y0 := hrow.frozen (k * 5)
        have y1 := hrow.frozen (k * 5 + 1)
        have y2 := hrow.frozen (k * 5 + 2)
        have y3 := hrow.frozen (k * 5 + 3)
        have y4 := hrow.frozen (k * 5 + 4)
        have R1 := hrow.put k (F k)
        rw [upto_step] at R1
        have R2 := below_put hb (Nat.le_refl _) (k * 5) (F k)
        clear hrow hb hr
        go_wp2
        go_roundw
        case rel => exact ⟨k + 1, by omega, by go_num, R1, R2⟩
        case measure => simp [intOf]; omega
      · have hkn : k = n := by omega
        subst hkn
        clear hr
        go_wp2
        go_ret
        exact ⟨_, rfl, (fun h => by cases h), hb, (hrow.congr fun i hi => upto_full hi).fol⟩

/-! ### toZZ, fromZZ -/
theorem Try.info45 : (Try.prog.info? 45).map (fun i => (i.zero, i.size, i.bytes)) = some (some (.agg #[.int .i64 0, .int .u64 0, .int .u64 0, .int .u64 0, .int .i64 0]), 5, 40) := by kernel_rfl
theorem Try.info49 : (Try.prog.info? 49).map (fun i => (i.zero, i.size, i.bytes)) = some (some (.agg #[.int .i64 0, .int .u64 0, .int .u64 0, .int .u64 0, .int .i64 0]), 5, 40) := by kernel_rfl

structure Made (w : World) (n : Nat) (t : TypeId) (F : Nat → Fol) (e : Ending) (w' : World) : Prop where
  out : e = .returned (.slice (some ⟨w.heap.size, 0, none⟩) n n) ∧ Below w.heap.size w w' ∧ RowF w' w.heap.size t n F

set_option maxHeartbeats 400000 in
theorem toZZ_any (a : Option Addr) (n c : Nat) (F : Nat → Fol) (w : World) (hn : n ≤ 1048576) (hr : FolAt w a n F) :
    Calls Try.prog 10 #[.slice a n c] w fun e w' => Made w n 45 F e w' := by
  have hmk := run_make5 27 45 _ Try.underlying27 Try.info45 n hn
  go_enter Try.func10, Try.ntmps10
  go_wp2
  clear hmk
  go_loopw [4] (fun i wr => ∃ k : Nat, k ≤ n ∧ i = .int .i64 k ∧ RowF wr w.heap.size 45 n (upto F k) ∧ Below w.heap.size w wr) (fun i _ => n - (intOf i).toNat)
  case atStart => exact ⟨0, Nat.zero_le _, rfl, (rowF_made w n 45).congr (fun i _ => by simp [upto]), below_made _ _⟩
  case round =>
    obtain ⟨k, hk, rfl, hrow, hb⟩ := hrel
    by_cases hlt : k < n
    · obtain ⟨b, o, ea, hc⟩ := hr.below hb k hlt
      cases ea
      obtain ⟨g0, g1, g2, g3, g4⟩ := hc
      obtain ⟨x0, x1, x2, x3, x4⟩ := hrow.at5 hlt
      have y0 := hrow.frozen (k * 5)
      have y1 := hrow.frozen (k * 5 + 1)
      have y2 := hrow.frozen (k * 5 + 2)
      have y3 := hrow.frozen (k * 5 + 3)
      have y4 := hrow.frozen (k * 5 + 4)
      have R1 := hrow.put k (F k)
      rw [upto_step] at R1
      have R2 := below_put hb (Nat.le_refl _) (k * 5) (F k)
      clear hrow hb hr
      go_wp2
      go_region
      all_goals go_wp2
      all_goals
        go_roundw
        case rel => exact ⟨k + 1, by omega, by go_num, R1.drew, R2.drew⟩
        case measure => simp [intOf]; omega
    · have hkn : k = n := by omega
      subst hkn
      clear hr
      go_wp2
      go_ret
      exact ⟨rfl, hb, hrow.congr fun i hi => upto_full hi⟩
set_option maxHeartbeats 400000 in
theorem fromZZ_any (a : Option Addr) (n c : Nat) (F : Nat → Fol) (w : World) (hn : n ≤ 1048576) (hr : FolAt w a n F) :
    Calls Try.prog 12 #[.slice a n c] w fun e w' => Made w n 33 F e w' := by
  have hmk := run_make5 22 33 _ Try.underlying22 Try.info33 n hn
  go_enter Try.func12, Try.ntmps12
  go_wp2
  clear hmk
  go_loopw [4] (fun i wr => ∃ k : Nat, k ≤ n ∧ i = .int .i64 k ∧ RowF wr w.heap.size 33 n (upto F k) ∧ Below w.heap.size w wr) (fun i _ => n - (intOf i).toNat)
  case atStart => exact ⟨0, Nat.zero_le _, rfl, (rowF_made w n 33).congr (fun i _ => by simp [upto]), below_made _ _⟩
  case round =>
    obtain ⟨k, hk, rfl, hrow, hb⟩ := hrel
    by_cases hlt : k < n
    · obtain ⟨b, o, ea, hc⟩ := hr.below hb k hlt
      cases ea
      obtain ⟨g0, g1, g2, g3, g4⟩ := hc
      obtain ⟨x0, x1, x2, x3, x4⟩ := hrow.at5 hlt
      have y0 := hrow.frozen (k * 5)
      have y1 := hrow.frozen (k * 5 + 1)
      have y2 := hrow.frozen (k * 5 + 2)
      have y3 := hrow.frozen (k * 5 + 3)
      have y4 := hrow.frozen (k * 5 + 4)
      have R1 := hrow.put k (F k)
      rw [upto_step] at R1
      have R2 := below_put hb (Nat.le_refl _) (k * 5) (F k)
      clear hrow hb hr
      go_wp2
      go_region
      all_goals go_wp2
      all_goals
        go_roundw
        case rel => exact ⟨k + 1, by omega, by go_num, R1.drew, R2.drew⟩
        case measure => simp [intOf]; omega
    · have hkn : k = n := by omega
      subst hkn
      clear hr
      go_wp2
      go_ret
      exact ⟨rfl, hb, hrow.congr fun i hi => upto_full hi⟩
end Go.Proofs.Qxb6619539a
