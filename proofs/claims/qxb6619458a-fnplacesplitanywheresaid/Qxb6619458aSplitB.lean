/- The law's walk: FnPlaceSplitAnywhere. -/
import Derived.Test.Qxb6619458aSplitA
import Derived.Deep.DeepCutAuto
namespace Go.Proofs.Qxb6619458a
open Go.RowKit Go.Deep

/-- WHAT HOLDS when the second summary's record has been handed the rest of its groups. -/
structure Mid (W4 wc : World) (BA BB m n OA OB : Nat) (oa ob : Option Addr) (tvA tvB : Nat → Value) (U : Nat → Nat) (stA stB : St) (r k : Nat) (t : Nat → Nat) : Prop where
  out : ∃ ta tc, tvB r = .slice ta k tc ∧ RowAt wc ta k (fun i => .int .i64 (t i : Int)) ∧ (∀ b o, 0 < k → ta = some ⟨b, o, none⟩ → b < W4.heap.size)
  memA : Mem wc BA m n OA oa n tvA U stA
  memB : Mem wc BB m n OB ob n tvB U stB
  below : Below W4.heap.size W4 wc

theorem mid_of {W4 W10 : World} {BA BB m n OA OB nt cut r tc : Nat} {oa ob a5 ta : Option Addr} {tvA tvB : Nat → Value} {U : Nat → Nat} {stA stB : St} {t : Nat → Nat} (hr : r < m) (hAB : BA + 4 + m ≤ BB) (h4 : W4.heap.size ≤ BB) (hA : 0 < n → OA < BB)
    (MA : Mem W10 BA m n OA oa n tvA U stA) (MB : Mem W10 BB m n OB ob n tvB U stB) (L : Below W4.heap.size W4 W10) (tos : RowAt W4 a5 nt (fun i => .int .i64 (t i : Int)))
    (hta : ∀ i, i < nt - cut → ∃ b o, a5 = some ⟨b, o, none⟩ ∧ ta = some ⟨b, o + cut, none⟩) :
    Mid W4 (W10.setCell ⟨BB + 1 + r, 3, none⟩ (.slice ta (nt - cut) tc)).drew BA BB m n OA OB oa ob tvA (setV tvB r (.slice ta (nt - cut) tc)) U stA stB r (nt - cut) (fun i => t (cut + i)) := by
  have L' : Below W4.heap.size W4 (W10.setCell ⟨BB + 1 + r, 3, none⟩ (.slice ta (nt - cut) tc)).drew := (L.setCell (by show W4.heap.size ≤ BB + 1 + r; omega) _).drew
  refine ⟨⟨ta, tc, by simp [setV], ?_, ?_⟩, ?_, ?_, L'⟩
  · intro i hi
    obtain ⟨b, o, e1, e2⟩ := hta i hi
    obtain ⟨b', o', e3, hc⟩ := tos.below L' (cut + i) (by omega)
    rw [e1] at e3
    cases e3
    have e : o + (cut + i) = o + cut + i := by omega
    rw [e] at hc
    exact ⟨b, o + cut, e2, hc⟩
  · intro b o hk e
    obtain ⟨b', o', e1, e2⟩ := hta 0 hk
    rw [e2] at e
    cases e
    obtain ⟨b', o', e3, hc⟩ := tos cut (by omega)
    rw [e1] at e3
    cases e3
    exact World.block_lt_of_cell? _ _ hc
  · have := MA.blocks (w' := W10.setCell ⟨BB + 1 + r, 3, none⟩ (.slice ta (nt - cut) tc)) fun b hb => blk_setCell_other _ _ _ _ (by
      show b ≠ BB + 1 + r
      rcases hb with hb | ⟨hn, rfl⟩
      · omega
      · have := hA hn; omega)
    exact ⟨this.rs, this.recs, this.lst, this.sm, this.own⟩
  · have := mem_setTo MB hr (.slice ta (nt - cut) tc)
    exact ⟨this.rs, this.recs, this.lst, this.sm, this.own⟩

/-- WHAT THE LAW's LAST LOOPS READ. -/
structure End2 (w wr : World) (BA BB m n OA OB : Nat) (oa ob : Option Addr) (tvA tvB : Nat → Value) (U : Nat → Nat) (st : St) (ba la : Option Addr) (kb : Nat) (zo zl : Nat → Int) (c : Nat → Nat) : Prop where
  memA : Mem wr BA m n OA oa n tvA U st
  memB : Mem wr BB m n OB ob n tvB U st
  before : RowAt wr ba n (fun i => .int .i64 (zo i))
  last : RowAt wr la n (fun i => .int .i64 (zl i))
  count : RowAt wr (some ⟨kb, 0, none⟩) n (fun i => .int .i64 (c i : Int))
  below : Below w.heap.size w wr

theorem End2.drewN {w wr : World} {BA BB m n OA OB kb : Nat} {oa ob ba la : Option Addr} {tvA tvB : Nat → Value} {U : Nat → Nat} {st : St} {zo zl : Nat → Int} {c : Nat → Nat} (h : End2 w wr BA BB m n OA OB oa ob tvA tvB U st ba la kb zo zl c) (q : Nat) :
    End2 w (wr.drewN q) BA BB m n OA OB oa ob tvA tvB U st ba la kb zo zl c := ⟨h.memA.drewN q, h.memB.drewN q, h.before, h.last, h.count, below_drewN h.below q⟩

theorem apart_of {W : World} {a : Option Addr} {n B O : Nat} {f : Nat → Value} (h : RowAt W a n f) (hB : W.heap.size ≤ B) (hO : W.heap.size ≤ O) : ∀ b o, 0 < n → a = some ⟨b, o, none⟩ → b < B ∧ b ≠ O := by
  intro b o hn e
  obtain ⟨b', o', e', hc⟩ := h 0 hn
  rw [e'] at e
  cases e
  have := World.block_lt_of_cell? _ _ hc
  simp at this
  omega

theorem OwnAt.blocks' {B : Nat} {w w' : World} {a : Option Addr} {t : TypeId} {n : Nat} {f : Nat → Value} (h : OwnAt B w a t n f) (hb : ∀ b, 0 < n → B ≤ b → b < w.heap.size → w'.heap[b]? = w.heap[b]?) : OwnAt B w' a t n f := by
  intro hn
  obtain ⟨b, h1, h2, hr⟩ := h hn
  exact ⟨b, h1, h2, hr.of_block (hb b hn h1 hr.lt)⟩

set_option maxHeartbeats 4000000 in
set_option maxRecDepth 20000 in
theorem split_any (a0 a1 a2 a3 a5 : Option Addr) (n0 n1 n2 n3 n5 c0 c1 c2 c3 c5 : Nat) (ri ct : Int) (zo zl zt : Nat → Int) (U : Nat → Nat) (cl : Nat → Bool) (w : World) (A : Args w a0 a1 a2 a3 a5 n0 n1 n2 n3 n5 zo zl zt U cl) :
    Calls Try.prog 5 #[.slice a0 n0 c0, .slice a1 n1 c1, .slice a2 n2 c2, .slice a3 n3 c3, .int .i64 ri, .slice a5 n5 c5, .int .i64 ct] w fun e w' => Said w e w' := by
  go_enter Try.func5, Try.ntmps5
  go_wp2_with fail
  refine (zzBytes32 a0 a1 a2 a3 a5 n0 n1 n2 n3 n5 c0 c1 c2 c3 c5 ri ct U w A.r2.lens).mono ?_
  rintro e w1 ⟨v, rfl, rfl, hv⟩
  cases v with
  | false =>
    go_wp2
    go_ret
    exact ⟨rfl, Below.refl _ _⟩
  | true =>
    obtain ⟨_, _, _, _, _, hU⟩ := hv rfl
    clear hv
    by_cases k0 : n0 ≤ 65536
    · by_cases k1 : n1 ≤ 65536
      · by_cases k2 : n2 ≤ 65536
        · by_cases k3 : n3 ≤ 65536
          · by_cases k5 : n5 ≤ 65536
            · go_wp2_with fail
              refine (placeFits_any a0 a1 a2 a3 a5 n0 n1 n2 n3 n5 c0 c1 c2 c3 c5 ri U zl zt w1 k0 k1 k2 k3 k5 hU A.r2.lens A.r1 A.r5).mono ?_
              rintro e w2 ⟨v, rfl, rfl, hv⟩
              cases v with
              | false =>
                go_wp2
                go_ret
                exact ⟨rfl, Below.refl _ _⟩
              | true =>
                obtain ⟨rfl, rfl, r, t, rfl, F⟩ := fit_of A k0 k3 k5 hU (hv rfl)
                clear hv A hU
                have hrm := F.hr
                by_cases hc0 : ct < 0
                · go_wp2
                  go_ret
                  exact ⟨rfl, Below.refl _ _⟩
                · obtain ⟨cut, rfl⟩ := Int.eq_ofNat_of_zero_le (show 0 ≤ ct by omega)
                  by_cases hc1 : n5 < cut
                  · go_wp2
                    go_ret
                    exact ⟨rfl, Below.refl _ _⟩
                  · go_wp2_with fail
                    refine (cloneInts_n a0 n1 c0 zo w2 F.nil0 (by have := F.hn; omega) F.r0).mono ?_
                    rintro e W1 ⟨a0', rfl, nil0', hb1, -, own0⟩
                    go_wp2_with fail
                    refine (cloneIntss_any a2 n2 c2 U W1 F.nil2 (by have := F.hm; omega) F.hU (F.r2.below hb1)).mono ?_
                    rintro e W2 ⟨a2', c2', rfl, hb2, own2⟩
                    have B2 : Below w2.heap.size w2 W2 := hb1.trans (hb2.mono hb1.size)
                    go_wp2_with fail
                    refine (cloneInts_n a5 n5 c5 (fun i => (t i : Int)) W2 F.nil5 (by have := F.hnt; omega) (F.r5.below B2)).mono ?_
                    rintro e W3 ⟨a5', rfl, nil5', hb3, -, own5⟩
                    have B3 : Below w2.heap.size w2 W3 := B2.trans (hb3.mono B2.size)
                    have own03 : OwnAt w2.heap.size W3 a0' 3 n1 (fun i => .int .i64 (zo i)) := (own0.below hb2).below hb3
                    go_wp2_with fail
                    refine (cloneInts_n a0' n1 n1 zo W3 nil0' (by have := F.hn; omega) own03.row).mono ?_
                    rintro e W4 ⟨ab, rfl, nilb, hb4, -, ownb⟩
                    have B4 : Below w2.heap.size w2 W4 := B3.trans (hb4.mono B3.size)
                    have own04 := own03.below hb4
                    -- all that is only read from here on lies below W4's end
                    have bef : RowAt W4 ab n1 (fun i => .int .i64 (zo i)) := ownb.row
                    have tos : RowAt W4 a5' n5 (fun i => .int .i64 (t i : Int)) := (own5.below hb4).row
                    have lns : LensAt W4 a2' n2 U := LensAt.below (LensAt.below (OwnLens.lens (B := W1.heap.size) own2) hb3) hb4
                    have lst : RowAt W4 a1 n1 (fun i => .int .i64 (zl i)) := F.r1.below B4
                    have cls : RowAt W4 a3 n2 (fun i => .bool (cl i)) := F.r3.below B4
                    clear own0 own2 own5 ownb own03 hb1 hb2 hb3 hb4 B2 B3 nilb
                    go_wp2_with fail
                    refine (cloneInts_n a0' n1 n1 zo W4 nil0' (by have := F.hn; omega) own04.row).mono ?_
                    rintro e W5 ⟨oa, rfl, nilA, hb5, -, ownA⟩
                    have own05 := own04.below hb5
                    go_wp2_with fail
                    refine (cloneInts_n a0' n1 n1 zo W5 nil0' (by have := F.hn; omega) own05.row).mono ?_
                    rintro e W6 ⟨ob, rfl, nilB, hb6, -, ownB⟩
                    have L6 : Below W4.heap.size W4 W6 := hb5.trans (hb6.mono hb5.size)
                    have ownA6 := ownA.below hb6
                    have s45 := hb5.size
                    have s56 := hb6.size
                    have HAB : Hid (0 < n1 → ∃ oA oB, oa = some ⟨oA, 0, none⟩ ∧ ob = some ⟨oB, 0, none⟩ ∧ oA < W5.heap.size ∧ W5.heap.size ≤ oB ∧ oB < W6.heap.size) := fun hn => by
                      obtain ⟨x, h1, h2, h3⟩ := ownA hn
                      obtain ⟨y, k1, k2, k3⟩ := ownB hn
                      exact ⟨x, y, h2, k2, h3.lt, k1, k3.lt⟩
                    clear own04 own05 hb5 hb6 nilA nilB ownA
                    go_wp2_with fail
                    refine (placeBuild_any oa a1 a2' a3 a5' n1 n2 n1 c1 c2' c3 n5 n5 r zl U cl W6 F.hn F.hm (lst.below L6) F.hz (lns.below L6) (cls.below L6)).mono ?_
                    rintro e W7 ⟨rfl, hbt⟩
                    obtain ⟨OA, oA1, oA2, oA3, M7⟩ := mem_of_built2 ownA6 (by omega) hbt
                    have b7 := hbt.below
                    have s7 := hbt.size
                    have L7 : Below W4.heap.size W4 W7 := L6.trans (b7.mono L6.size)
                    have crs := M7.rs.cell hrm
                    clear hbt ownA6
                    go_wp2_with fail
                    refine (zzPlace_any W6.heap.size n2 n1 OA n1 r n5 n5 oa a5' (toOf r (.slice a5' n5 n5)) U t ⟨zo, zl, cl⟩ W7 (by have := F.hnt; omega) F.hr (toOf_at _ _) M7 (tos.below L7) (apart_of tos (by omega) oA1) F.ht F.hz).mono ?_
                    rintro e W8 ⟨rfl, M8, K8⟩
                    have s8 : W6.heap.size + 4 + n2 ≤ W8.heap.size := Nat.le_of_eq (K8.size.trans s7).symm
                    have L8 : Below W4.heap.size W4 W8 := L7.trans (K8.below oA1 (by omega))
                    have ownB8 : OwnAt W5.heap.size W8 ob 3 n1 (fun i => .int .i64 (zo i)) := ownB.blocks' fun b hn hb1 hb2 => by
                      obtain ⟨x, y, h1, h2, h3, h4⟩ := HAB.out hn
                      have e1 := (oA2 hn).1
                      rw [h1] at e1
                      cases e1
                      rw [K8.block b hb2 (by omega)]
                      exact b7.block b hb2
                    clear ownB K8 b7 M7 L7 crs s7
                    have hcut : (cut : Int) ≤ (n5 : Int) := by omega
                    go_wp2_with fail
                    refine (placeBuild_any ob a1 a2' a3 a5' n1 n2 n1 c1 c2' c3 cut n5 r zl U cl W8 F.hn F.hm (lst.below L8) F.hz (lns.below L8) (cls.below L8)).mono ?_
                    rintro e W9 ⟨rfl, hbt⟩
                    obtain ⟨OB, oB1, oB2, oB3, N9⟩ := mem_of_built2 ownB8 (by omega) hbt
                    have b9 := hbt.below
                    have L9 : Below W4.heap.size W4 W9 := L8.trans (b9.mono L8.size)
                    have M9 := M8.below b9
                    have crs := N9.rs.cell hrm
                    have hAB : ∀ b, (W6.heap.size ≤ b ∧ b < W6.heap.size + 4 + n2) ∨ (0 < n1 ∧ b = OA) → b < W8.heap.size ∧ b ≠ OB := by
                      intro b hb
                      by_cases hn : 0 < n1
                      · obtain ⟨x, y, h1, h2, h3, h4, h5⟩ := HAB.out hn
                        have e1 := (oA2 hn).1
                        rw [h1] at e1
                        cases e1
                        have e2 := (oB2 hn).1
                        rw [h2] at e2
                        cases e2
                        omega
                      · have := oB3 (by omega)
                        omega
                    clear hbt ownB8 M8 L6
                    go_wp2_with fail
                    refine (zzPlace_any W8.heap.size n2 n1 OB n1 r cut n5 ob a5' (toOf r (.slice a5' cut n5)) U t ⟨zo, zl, cl⟩ W9 (by have := F.hnt; omega) F.hr (toOf_at _ _) N9 ((tos.upto (by omega)).below L9) (apart_of (tos.upto (by omega)) (by omega) (by omega)) (fun i hi => F.ht i (by omega)) F.hz).mono ?_
                    rintro e W10 ⟨rfl, N10, K10⟩
                    have M10 := M9.blocks fun b hb => K10.block b (hAB b hb).1 (hAB b hb).2
                    have L10 : Below W4.heap.size W4 W10 := L9.trans (K10.below (by omega) (by omega))
                    clear M9 N9 L9 L8 K10 b9 crs
                    have crs := N10.rs.cell hrm
                    have cto := rec_to (N10.recs r hrm)
                    have cfr := rec_fr (N10.recs r hrm) 3
                    go_wp2
                    go_cut [] (fun wc => ∃ tvB, Mid W4 wc W6.heap.size W8.heap.size n2 n1 OA OB oa ob (toOf r (.slice a5' n5 n5)) tvB U (run U r t ⟨zo, zl, cl⟩ n5) (run U r t ⟨zo, zl, cl⟩ cut) r (n5 - cut) (fun i => t (cut + i)))
                    case first =>
                      by_cases hcn : cut = n5
                      · subst hcn
                        have HM := mid_of (cut := cut) (ta := a5') (tc := cut - cut) hrm s8 (by omega) (fun hn => (hAB OA (.inr ⟨hn, rfl⟩)).1) M10 N10 L10 tos (fun i hi => absurd hi (by omega))
                        clear M10 N10 L10 hAB
                        go_region_with (go_at_call 33; refine (zzSetTo (W8.heap.size + 1 + r) _ _ _ (toOf r (.slice a5' cut cut) r) W10.drew cto cfr).mono ?_; rintro e w1 ⟨rfl, rfl⟩)
                        go_wp2
                        go_meet
                        case rel =>
                          simp only [Nat.sub_self] at HM ⊢
                          exact ⟨_, HM⟩
                      · obtain ⟨b5, o5, e5, _⟩ := tos cut (by omega)
                        cases e5
                        have hcn' : cut < n5 := by omega
                        have HM := mid_of (cut := cut) (ta := some ⟨b5, o5 + cut, none⟩) (tc := n5 - cut) hrm s8 (by omega) (fun hn => (hAB OA (.inr ⟨hn, rfl⟩)).1) M10 N10 L10 tos (fun i _ => ⟨b5, o5, rfl, rfl⟩)
                        clear M10 N10 L10 hAB
                        go_region_with (go_at_call 33; refine (zzSetTo (W8.heap.size + 1 + r) _ _ _ (toOf r (.slice (some ⟨b5, o5, none⟩) cut n5) r) W10.drew cto cfr).mono ?_; rintro e w1 ⟨rfl, rfl⟩)
                        go_wp2
                        go_meet
                        case rel => exact ⟨_, HM⟩
                    case rest =>
                      obtain ⟨tvB, X⟩ := hcut
                      obtain ⟨ta, tc, etv, rto, hbd⟩ := X.out
                      clear M10 N10 L10 crs cto cfr
                      have crs := X.memB.rs.cell hrm
                      have ELA : ∀ g, g < n1 → -1 ≤ (run U r t ⟨zo, zl, cl⟩ cut).la g ∧ (run U r t ⟨zo, zl, cl⟩ cut).la g < n2 := fun g hg => run_la_range F.hr F.hz cut g hg
                      have HE : Hid (run U r (fun i => t (cut + i)) (run U r t ⟨zo, zl, cl⟩ cut) (n5 - cut) = run U r t ⟨zo, zl, cl⟩ n5) := by
                        show _ = _
                        rw [run_add]
                        congr 1
                        omega
                      go_wp2_with fail
                      refine (zzPlace_any W8.heap.size n2 n1 OB n1 r (n5 - cut) tc ob ta tvB U (fun i => t (cut + i)) (run U r t ⟨zo, zl, cl⟩ cut) wc (by have := F.hnt; omega) F.hr etv X.memB rto (fun b o hk e => by have := hbd b o hk e; omega) (fun i hi => F.ht (cut + i) (by omega)) ELA).mono ?_
                      rintro e W12 ⟨rfl, N12, K12⟩
                      rw [HE.out] at N12
                      have M12 := X.memA.blocks fun b hb => K12.block b (hAB b hb).1 (hAB b hb).2
                      have L12 : Below W4.heap.size W4 W12 := X.below.trans (K12.below (by omega) (by omega))
                      clear X K12 HE ELA rto hbd etv crs hAB
                      go_wp2_with fail
                      refine (placeCounts_any a5' n1 n5 n5 t W12 (by have := F.hn; omega) (by have := F.hnt; omega) (tos.below L12) F.ht).mono ?_
                      rintro e W13 ⟨rfl, b13, cn13⟩
                      have L13 : Below W4.heap.size W4 W13 := L12.trans (b13.mono L12.size)
                      have X13 : End2 w2 W13 W6.heap.size W8.heap.size n2 n1 OA OB oa ob (toOf r (.slice a5' n5 n5)) tvB U (run U r t ⟨zo, zl, cl⟩ n5) ab a1 W12.heap.size zo zl (fun g => cnt t g n5) :=
                        ⟨M12.below b13, N12.below b13, bef.below L13, lst.below L13, row_of cn13, B4.trans (L13.mono B4.size)⟩
                      clear M12 N12 L12 L13 b13 cn13 bef tos lns lst cls B4
                      go_wp2
                      go_loopw [23] (fun i wr => ∃ g : Nat, g ≤ n1 ∧ i = .int .i64 g ∧ End2 w2 wr W6.heap.size W8.heap.size n2 n1 OA OB oa ob (toOf r (.slice a5' n5 n5)) tvB U (run U r t ⟨zo, zl, cl⟩ n5) ab a1 W12.heap.size zo zl (fun g => cnt t g n5)) (fun i _ => n1 - (intOf i).toNat)
                      case atStart => exact ⟨0, Nat.zero_le _, rfl, X13⟩
                      case round =>
                        clear X13
                        obtain ⟨g, hg, rfl, X⟩ := hrel
                        by_cases hlt : g < n1
                        · obtain ⟨hA1, _, hA3⟩ := X.memA.own (by omega)
                          obtain ⟨hB1, _, hB3⟩ := X.memB.own (by omega)
                          subst hA1
                          subst hB1
                          have cA19 := sm_open X.memA.sm
                          have cAO := hA3.cell hlt
                          have cB19 := sm_open X.memB.sm
                          have cBO := hB3.cell hlt
                          obtain ⟨b1, o1, e1, d1⟩ := X.before g hlt
                          cases e1
                          obtain ⟨b3, o3, e3, d3⟩ := X.count g hlt
                          cases e3
                          simp only [Nat.zero_add] at d3
                          simp only [run_op U r t ⟨zo, zl, cl⟩ g (F.in0 g hlt) n5] at cAO cBO
                          clear hA3 hB3
                          go_wp2
                          go_quiet (first | (go_at_call_of 18 (W6.heap.size); refine Calls.quiet_of_same (zzOpen (W6.heap.size + 3 + n2) OA g n1 n1 hlt (wrap64 (zo g + (cnt t g n5 : Int))) _ ?_ ?_); exact cA19; exact cAO) | (go_at_call_of 18 (W8.heap.size); refine Calls.quiet_of_same (zzOpen (W8.heap.size + 3 + n2) OB g n1 n1 hlt (wrap64 (zo g + (cnt t g n5 : Int))) _ ?_ ?_); exact cB19; exact cBO))
                          go_wp2
                          have X2 := X.drewN nq
                          clear cA19 cAO cB19 cBO d1 d3 X
                          generalize wr.drewN nq = wy at X2 ⊢
                          obtain ⟨b2, o2, e2, d2⟩ := X2.last g hlt
                          cases e2
                          obtain ⟨b3, o3, e3, d3⟩ := X2.count g hlt
                          cases e3
                          simp only [Nat.zero_add] at d3
                          have hzg := F.hz g hlt
                          by_cases hcp : 0 < cnt t g n5
                          · have ew : wantLast (zl g) (cnt t g n5 : Int) (r : Int) = (r : Int) := by simp [wantLast]; omega
                            go_quiet ((go_at_call 31; exact Calls.quiet_of_same (want_is ew _)))
                            go_wp2_with fail
                            have X3 := X2.drewN nq
                            clear X2 d2 d3
                            generalize wy.drewN nq = wz at X3 ⊢
                            have cA18 := sm_last X3.memA.sm
                            have cB18 := sm_last X3.memB.sm
                            have cAL := X3.memA.lst.cell hlt
                            have cBL := X3.memB.lst.cell hlt
                            simp only [run_la] at cAL cBL
                            rw [if_pos hcp, lp_some rfl] at cAL cBL
                            have cRA := X3.memA.rs.cell hrm
                            have cRB := X3.memB.rs.cell hrm
                            go_wp2_with (first | (go_at_call_of 20 (W6.heap.size); refine (zzLast (W6.heap.size + 3 + n2) (W6.heap.size + 1 + n2) g n1 hlt (some ⟨W6.heap.size + 1 + r, 0, none⟩) _ cA18 cAL).mono ?_; rintro e w1 ⟨rfl, rfl⟩) | (go_at_call_of 20 (W8.heap.size); refine (zzLast (W8.heap.size + 3 + n2) (W8.heap.size + 1 + n2) g n1 hlt (some ⟨W8.heap.size + 1 + r, 0, none⟩) _ cB18 cBL).mono ?_; rintro e w1 ⟨rfl, rfl⟩) | (go_at_call_of 19 (W6.heap.size); refine (lastIs_some W6.heap.size n2 r hrm (W6.heap.size + 1 + r) _ cRA).mono ?_; rintro e w1 ⟨rfl, rfl⟩) | (go_at_call_of 19 (W8.heap.size); refine (lastIs_some W8.heap.size n2 r hrm (W8.heap.size + 1 + r) _ cRB).mono ?_; rintro e w1 ⟨rfl, rfl⟩))
                            go_roundw
                            case rel => exact ⟨g + 1, by omega, by go_num, X3⟩
                            case measure => simp [intOf]; omega
                          · by_cases hzn : zl g < 0
                            · have ew : wantLast (zl g) (cnt t g n5 : Int) (r : Int) = zl g := by simp [wantLast]; omega
                              go_quiet ((go_at_call 31; exact Calls.quiet_of_same (want_is ew _)))
                              go_wp2_with fail
                              have X3 := X2.drewN nq
                              clear X2 d2 d3
                              generalize wy.drewN nq = wz at X3 ⊢
                              have cA18 := sm_last X3.memA.sm
                              have cB18 := sm_last X3.memB.sm
                              have cAL := X3.memA.lst.cell hlt
                              have cBL := X3.memB.lst.cell hlt
                              simp only [run_la] at cAL cBL
                              rw [if_neg hcp, lp_none hzn] at cAL cBL
                              go_wp2_with (first | (go_at_call_of 20 (W6.heap.size); refine (zzLast (W6.heap.size + 3 + n2) (W6.heap.size + 1 + n2) g n1 hlt (none) _ cA18 cAL).mono ?_; rintro e w1 ⟨rfl, rfl⟩) | (go_at_call_of 20 (W8.heap.size); refine (zzLast (W8.heap.size + 3 + n2) (W8.heap.size + 1 + n2) g n1 hlt (none) _ cB18 cBL).mono ?_; rintro e w1 ⟨rfl, rfl⟩) | (go_at_call 19; refine (lastIs_none _ _ _ _ hzn _).mono ?_; rintro e w1 ⟨rfl, rfl⟩))
                              go_roundw
                              case rel => exact ⟨g + 1, by omega, by go_num, X3⟩
                              case measure => simp [intOf]; omega
                            · obtain ⟨p, hp⟩ := Int.eq_ofNat_of_zero_le (show 0 ≤ zl g by omega)
                              have ew : wantLast (zl g) (cnt t g n5 : Int) (r : Int) = (p : Int) := by simp [wantLast]; omega
                              have hpm : p < n2 := by omega
                              have HP : Hid (zl g = (p : Int)) := hp
                              clear hp
                              go_quiet ((go_at_call 31; exact Calls.quiet_of_same (want_is ew _)))
                              go_wp2_with fail
                              have X3 := X2.drewN nq
                              clear X2 d2 d3
                              generalize wy.drewN nq = wz at X3 ⊢
                              have cA18 := sm_last X3.memA.sm
                              have cB18 := sm_last X3.memB.sm
                              have cAL := X3.memA.lst.cell hlt
                              have cBL := X3.memB.lst.cell hlt
                              simp only [run_la] at cAL cBL
                              have hp := HP.out
                              rw [if_neg hcp, lp_some hp] at cAL cBL
                              have cRA := X3.memA.rs.cell hpm
                              have cRB := X3.memB.rs.cell hpm
                              clear hp
                              go_wp2_with (first | (go_at_call_of 20 (W6.heap.size); refine (zzLast (W6.heap.size + 3 + n2) (W6.heap.size + 1 + n2) g n1 hlt (some ⟨W6.heap.size + 1 + p, 0, none⟩) _ cA18 cAL).mono ?_; rintro e w1 ⟨rfl, rfl⟩) | (go_at_call_of 20 (W8.heap.size); refine (zzLast (W8.heap.size + 3 + n2) (W8.heap.size + 1 + n2) g n1 hlt (some ⟨W8.heap.size + 1 + p, 0, none⟩) _ cB18 cBL).mono ?_; rintro e w1 ⟨rfl, rfl⟩) | (go_at_call_of 19 (W6.heap.size); refine (lastIs_some W6.heap.size n2 p hpm (W6.heap.size + 1 + p) _ cRA).mono ?_; rintro e w1 ⟨rfl, rfl⟩) | (go_at_call_of 19 (W8.heap.size); refine (lastIs_some W8.heap.size n2 p hpm (W8.heap.size + 1 + p) _ cRB).mono ?_; rintro e w1 ⟨rfl, rfl⟩))
                              go_roundw
                              case rel => exact ⟨g + 1, by omega, by go_num, X3⟩
                              case measure => simp [intOf]; omega
                        · have hgn : g = n1 := by omega
                          subst hgn
                          go_wp2
                          go_loopw [25] (fun i wx => ∃ k : Nat, k ≤ n2 ∧ i = .int .i64 k ∧ End2 w2 wx W6.heap.size W8.heap.size n2 g OA OB oa ob (toOf r (.slice a5' n5 n5)) tvB U (run U r t ⟨zo, zl, cl⟩ n5) ab a1 W12.heap.size zo zl (fun g => cnt t g n5)) (fun i _ => n2 - (intOf i).toNat)
                          case atStart => exact ⟨0, Nat.zero_le _, rfl, X⟩
                          case round =>
                            clear X
                            obtain ⟨k, hk, rfl, X⟩ := hrel
                            by_cases hkl : k < n2
                            · have c1' := X.memA.rs.cell hkl
                              have c2' := X.memB.rs.cell hkl
                              have c5' := rec_cl (X.memA.recs k hkl)
                              have c6' := rec_cl (X.memB.recs k hkl)
                              obtain ⟨vk, hvk⟩ : ∃ vk, vk = (run U r t ⟨zo, zl, cl⟩ n5).cl k := ⟨_, rfl⟩
                              rw [← hvk] at c5' c6'
                              clear hvk
                              go_wp2
                              go_quiet (first | (go_at_call_of 21 (W6.heap.size); refine Calls.quiet_of_same (zzClashes (W6.heap.size + 1 + k) vk _ ?_); exact c5') | (go_at_call_of 21 (W8.heap.size); refine Calls.quiet_of_same (zzClashes (W8.heap.size + 1 + k) vk _ ?_); exact c6'))
                              go_wp2
                              go_roundw
                              case rel => exact ⟨k + 1, by omega, by go_num, X.drewN _⟩
                              case measure => simp [intOf]; omega
                            · go_wp2
                              go_ret
                              exact ⟨rfl, X.below⟩
            · go_wp2
              go_ret
              exact ⟨rfl, Below.refl _ _⟩
          · go_wp2
            go_ret
            exact ⟨rfl, Below.refl _ _⟩
        · go_wp2
          go_ret
          exact ⟨rfl, Below.refl _ _⟩
      · go_wp2
        go_ret
        exact ⟨rfl, Below.refl _ _⟩
    · go_wp2
      go_ret
      exact ⟨rfl, Below.refl _ _⟩
end Go.Proofs.Qxb6619458a
