/- The law's walk: FnPlaceClosedForm. -/
import Derived.Test.Qxb6619458aWalkH
namespace Go.Proofs.Qxb6619458a
open Go.RowKit Go.Deep

/-- What the walk is told of the arguments. -/
structure Args (w : World) (a0 a1 a2 a3 a5 : Option Addr) (n0 n1 n2 n3 n5 : Nat) (zo zl zt : Nat → Int) (U : Nat → Nat) (cl : Nat → Bool) : Prop where
  nil0 : a0 = none → n0 = 0
  nil2 : a2 = none → n2 = 0
  nil5 : a5 = none → n5 = 0
  r0 : RowAt w a0 n0 (fun i => .int .i64 (zo i))
  in0 : ∀ i, i < n0 → InRange (zo i)
  r1 : RowAt w a1 n1 (fun i => .int .i64 (zl i))
  r2 : IntssAt w a2 n2 U
  r3 : RowAt w a3 n3 (fun i => .bool (cl i))
  r5 : RowAt w a5 n5 (fun i => .int .i64 (zt i))

/-- The same, once the guards have let it by. -/
structure Fit (w : World) (a0 a1 a2 a3 a5 : Option Addr) (n m nt r : Nat) (zo zl : Nat → Int) (t : Nat → Nat) (U : Nat → Nat) (cl : Nat → Bool) : Prop where
  nil0 : a0 = none → n = 0
  nil2 : a2 = none → m = 0
  nil5 : a5 = none → nt = 0
  hn : n ≤ 65536
  hm : m ≤ 65536
  hnt : nt ≤ 65536
  hU : ∀ i, i < m → U i ≤ 1048576
  hr : r < m
  r0 : RowAt w a0 n (fun i => .int .i64 (zo i))
  in0 : ∀ i, i < n → InRange (zo i)
  r1 : RowAt w a1 n (fun i => .int .i64 (zl i))
  hz : ∀ g, g < n → -1 ≤ zl g ∧ zl g < m
  r2 : IntssAt w a2 m U
  r3 : RowAt w a3 m (fun i => .bool (cl i))
  r5 : RowAt w a5 nt (fun i => .int .i64 (t i : Int))
  ht : ∀ i, i < nt → t i < n

theorem fit_of {w : World} {a0 a1 a2 a3 a5 : Option Addr} {n0 n1 n2 n3 n5 : Nat} {zo zl zt : Nat → Int} {U : Nat → Nat} {cl : Nat → Bool} {ri : Int} (A : Args w a0 a1 a2 a3 a5 n0 n1 n2 n3 n5 zo zl zt U cl)
    (h0 : n0 ≤ 65536) (h3 : n3 ≤ 65536) (h5 : n5 ≤ 65536) (hU : ∀ i, i < n2 → U i ≤ 1048576)
    (hf : n1 = n0 ∧ n2 = n3 ∧ 0 ≤ ri ∧ ri < n3 ∧ (∀ g, g < n0 → -1 ≤ zl g ∧ zl g < n3) ∧ (∀ i, i < n5 → 0 ≤ zt i ∧ zt i < n0)) :
    n1 = n0 ∧ n2 = n3 ∧ ∃ r t, ri = ((r : Nat) : Int) ∧ Fit w a0 a1 a2 a3 a5 n0 n3 n5 r zo zl t U cl := by
  obtain ⟨rfl, rfl, hr0, hr1, hz, ht⟩ := hf
  obtain ⟨r, rfl⟩ := Int.eq_ofNat_of_zero_le hr0
  refine ⟨rfl, rfl, r, fun i => (zt i).toNat, rfl, A.nil0, A.nil2, A.nil5, h0, h3, h5, hU, by omega, A.r0, A.in0, A.r1, hz, A.r2, A.r3, A.r5.congr fun i hi => ?_, fun i hi => ?_⟩
  · have := (ht i hi).1
    have e : ((zt i).toNat : Int) = zt i := by omega
    rw [e]
  · have := ht i hi
    omega

theorem OwnAt.blocks {B : Nat} {w w' : World} {a : Option Addr} {t : TypeId} {n : Nat} {f : Nat → Value} (h : OwnAt B w a t n f) (hb : ∀ b, B ≤ b → b < w.heap.size → w'.heap[b]? = w.heap[b]?) : OwnAt B w' a t n f := by
  intro hn
  obtain ⟨b, h1, h2, hr⟩ := h hn
  exact ⟨b, h1, h2, hr.of_block (hb b h1 hr.lt)⟩

/-- A row of slices of the call's own, of which the lengths are told. -/
def OwnLens (B : Nat) (w : World) (a : Option Addr) (n : Nat) (U : Nat → Nat) : Prop :=
  0 < n → ∃ b f, B ≤ b ∧ a = some ⟨b, 0, none⟩ ∧ w.rowIs b 23 n f ∧ LensPart n n U f

theorem OwnLens.blocks {B : Nat} {w w' : World} {a : Option Addr} {n : Nat} {U : Nat → Nat} (h : OwnLens B w a n U) (hb : ∀ b, B ≤ b → b < w.heap.size → w'.heap[b]? = w.heap[b]?) : OwnLens B w' a n U := by
  intro hn
  obtain ⟨b, f, h1, h2, hr, hl⟩ := h hn
  exact ⟨b, f, h1, h2, hr.of_block (hb b h1 hr.lt), hl⟩

theorem OwnLens.lens {B : Nat} {w : World} {a : Option Addr} {n : Nat} {U : Nat → Nat} (h : OwnLens B w a n U) : LensAt w a n U := by
  intro i hi
  obtain ⟨b, f, _, rfl, hr, hl⟩ := h (by omega)
  have := hl i hi
  rw [if_pos hi] at this
  obtain ⟨a', c', e⟩ := this
  exact ⟨b, 0, a', c', rfl, by rw [← e]; simpa using hr.cell hi⟩

/-- WHERE THE COPIES LIE when all are made: the open counts in block O, all other copies from W1's end on. -/
structure Setup (w W1 W4 : World) (oa ua ta ba : Option Addr) (n m nt : Nat) (zo : Nat → Int) (t : Nat → Nat) (U : Nat → Nat) : Prop where
  size1 : w.heap.size ≤ W1.heap.size
  size4 : W1.heap.size ≤ W4.heap.size
  opens : OwnAt w.heap.size W4 oa 3 n (fun i => .int .i64 (zo i))
  opens1 : ∀ b, 0 < n → oa = some ⟨b, 0, none⟩ → b < W1.heap.size
  lens' : OwnLens W1.heap.size W4 ua m U
  to' : OwnAt W1.heap.size W4 ta 3 nt (fun i => .int .i64 (t i : Int))
  before : OwnAt W1.heap.size W4 ba 3 n (fun i => .int .i64 (zo i))

theorem Setup.lens {w W1 W4 : World} {oa ua ta ba : Option Addr} {n m nt : Nat} {zo : Nat → Int} {t : Nat → Nat} {U : Nat → Nat} (h : Setup w W1 W4 oa ua ta ba n m nt zo t U) : LensAt W4 ua m U := h.lens'.lens

theorem OwnAt.lower {B B' : Nat} {w : World} {a : Option Addr} {t : TypeId} {n : Nat} {f : Nat → Value} (h : OwnAt B w a t n f) (hB : B' ≤ B) : OwnAt B' w a t n f := by
  intro hn
  obtain ⟨b, h1, h2, hr⟩ := h hn
  exact ⟨b, by omega, h2, hr⟩

theorem setup_of {w W1 W2 W3 W4 : World} {oa ua ta ba : Option Addr} {n m nt : Nat} {zo : Nat → Int} {t : Nat → Nat} {U : Nat → Nat} (b1 : Below w.heap.size w W1) (b2 : Below W1.heap.size W1 W2) (b3 : Below W2.heap.size W2 W3) (b4 : Below W3.heap.size W3 W4)
    (o1 : OwnAt w.heap.size W1 oa 3 n (fun i => .int .i64 (zo i))) (o2 : OwnLens W1.heap.size W2 ua m U) (o3 : OwnAt W2.heap.size W3 ta 3 nt (fun i => .int .i64 (t i : Int))) (o4 : OwnAt W3.heap.size W4 ba 3 n (fun i => .int .i64 (zo i))) :
    Setup w W1 W4 oa ua ta ba n m nt zo t U := by
  have s2 := b2.size
  have s3 := b3.size
  have s4 := b4.size
  refine ⟨b1.size, by omega, ((o1.below b2).below b3).below b4, fun b hn e => ?_, (o2.blocks fun b _ h => b3.block b h).blocks fun b _ h => b4.block b h, (o3.below b4).lower s2, o4.lower (by omega)⟩
  obtain ⟨b', _, e', hr⟩ := o1 hn
  rw [e'] at e
  cases e
  exact hr.lt

theorem lt_of_some {w : World} {b : Nat} {o : Obj} (h : w.heap[b]? = some o) : b < w.heap.size := (Array.getElem?_eq_some_iff.1 h).1

theorem Mem.below {w w' : World} {B m n O oc : Nat} {oa : Option Addr} {tv : Nat → Value} {U : Nat → Nat} {st : St} (h : Mem w B m n O oa oc tv U st) (hb : Below w.heap.size w w') : Mem w' B m n O oa oc tv U st := by
  refine ⟨h.rs.of_block (hb.block _ h.rs.lt), fun j hj => ?_, h.lst.of_block (hb.block _ h.lst.lt), (hb.block _ (lt_of_some h.sm)).trans h.sm, fun hn => ?_⟩
  · have hr := h.recs j hj
    obtain ⟨ua, uc, e⟩ := h.recs j hj
    exact hr.of_block (hb.block _ (lt_of_some e))
  · obtain ⟨h1, h2, h3⟩ := h.own hn
    exact ⟨h1, h2, h3.of_block (hb.block _ h3.lt)⟩

theorem mem_of_built {w W1 W4 W5 : World} {oa ua ta ba : Option Addr} {n m nt oc : Nat} {r : Int} {tv : Value} {zo zl : Nat → Int} {t : Nat → Nat} {U : Nat → Nat} {cl : Nat → Bool} (S : Setup w W1 W4 oa ua ta ba n m nt zo t U)
    (h : Built W4 W5 m n n r tv (.slice oa n oc) U cl zl) : ∃ O, w.heap.size ≤ O ∧ (O < W1.heap.size ∨ W4.heap.size ≤ O) ∧ Mem W5 W4.heap.size m n O oa oc (toOf r tv) U ⟨zo, zl, cl⟩ := by
  by_cases hn : 0 < n
  · obtain ⟨O, h1, h2, hr⟩ := S.opens hn
    refine ⟨O, h1, .inl (S.opens1 O hn h2), h.rs, h.recs, h.lst.congr fun g hg => ?_, h.sm, fun _ => ⟨h2, hr.lt, hr.of_block (h.below.block _ hr.lt)⟩⟩
    simp [lasts, hg]
  · have s1 := S.size1
    have s4 := S.size4
    refine ⟨W4.heap.size, by omega, .inr (Nat.le_refl _), h.rs, h.recs, h.lst.congr fun g hg => absurd hg (by omega), h.sm, fun h => absurd h hn⟩

/-- What place has left alone. -/
theorem after_place {w W1 W4 W5 W6 : World} {O : Nat} (B4 : Below w.heap.size w W4) (s1 : w.heap.size ≤ W1.heap.size) (s4 : W1.heap.size ≤ W4.heap.size) (h1 : w.heap.size ≤ O) (h2 : O < W1.heap.size ∨ W4.heap.size ≤ O) (b5 : Below W4.heap.size W4 W5) (k : Kept O W4.heap.size W5 W6) :
    Below w.heap.size w W6 ∧ ∀ b, W1.heap.size ≤ b → b < W4.heap.size → W6.heap[b]? = W4.heap[b]? := by
  refine ⟨B4.trans ((b5.mono B4.size).trans ⟨k.os, k.tape, k.output, by rw [k.size]; exact Nat.le_refl _, fun i hi => k.block i (by omega) (by omega)⟩), fun b hb1 hb2 => ?_⟩
  rw [k.block b hb2 (by omega)]
  exact b5.block b hb2

theorem zzPlace_any (B m n O oc ri nt tc : Nat) (oa ta : Option Addr) (tv : Nat → Value) (U : Nat → Nat) (t : Nat → Nat) (s0 : St) (w : World) (hnt : nt ≤ 1048576) (hri : ri < m) (htv : tv ri = .slice ta nt tc)
    (hM : Mem w B m n O oa oc tv U s0) (ht : RowAt w ta nt (fun i => .int .i64 (t i))) (htB : ∀ b o, 0 < nt → ta = some ⟨b, o, none⟩ → b < B ∧ b ≠ O) (htn : ∀ i, i < nt → t i < n) (hla : ∀ g, g < n → -1 ≤ s0.la g ∧ s0.la g < m) :
    Calls Try.prog 17 #[.pointer (some ⟨B + 3 + m, 0, none⟩), .pointer (some ⟨B + 1 + ri, 0, none⟩)] w fun e w' =>
      e = .returned (.tuple #[]) ∧ Mem w' B m n O oa oc tv U (run U ri t s0 nt) ∧ Kept O B w w' := by
  go_enter Try.func17, Try.ntmps17
  go_wp2_with fail
  refine (place_any B m n O oc ri nt tc oa ta tv U t s0 w hnt hri htv hM ht htB htn hla).mono ?_
  rintro e w' ⟨rfl, h1, h2⟩
  clear hM ht htB htn hla htv
  go_wp2
  go_end0
  exact ⟨rfl, h1, h2⟩

theorem to_apart {w W1 W4 : World} {oa ua ta ba : Option Addr} {n m nt O : Nat} {zo : Nat → Int} {t : Nat → Nat} {U : Nat → Nat} (S : Setup w W1 W4 oa ua ta ba n m nt zo t U) (h2 : O < W1.heap.size ∨ W4.heap.size ≤ O) :
    ∀ b o, 0 < nt → ta = some ⟨b, o, none⟩ → b < W4.heap.size ∧ b ≠ O := by
  intro b o hn e
  obtain ⟨b', h1, e', hr⟩ := S.to' hn
  rw [e'] at e
  cases e
  have := hr.lt
  exact ⟨this, by omega⟩

theorem row_of {w : World} {b t n : Nat} {f : Nat → Value} (h : w.rowIs b t n f) : RowAt w (some ⟨b, 0, none⟩) n f := fun i hi => ⟨b, 0, rfl, by simpa using h.cell hi⟩

/-- WHAT THE LAW's LAST LOOPS READ. -/
structure End (w wr : World) (B m n O : Nat) (oa : Option Addr) (oc : Nat) (tv : Nat → Value) (U : Nat → Nat) (st : St) (ba la : Option Addr) (kb vb : Nat) (zo zl : Nat → Int) (c : Nat → Nat) (v : Nat → Bool) : Prop where
  mem : Mem wr B m n O oa oc tv U st
  before : RowAt wr ba n (fun i => .int .i64 (zo i))
  last : RowAt wr la n (fun i => .int .i64 (zl i))
  count : RowAt wr (some ⟨kb, 0, none⟩) n (fun i => .int .i64 (c i : Int))
  want : RowAt wr (some ⟨vb, 0, none⟩) m (fun i => .bool (v i))
  below : Below w.heap.size w wr

theorem Mem.drewN {w : World} {B m n O oc : Nat} {oa : Option Addr} {tv : Nat → Value} {U : Nat → Nat} {st : St} (h : Mem w B m n O oa oc tv U st) (q : Nat) : Mem (w.drewN q) B m n O oa oc tv U st := ⟨h.rs, h.recs, h.lst, h.sm, h.own⟩

theorem End.drewN {w wr : World} {B m n O oc kb vb : Nat} {oa ba la : Option Addr} {tv : Nat → Value} {U : Nat → Nat} {st : St} {zo zl : Nat → Int} {c : Nat → Nat} {v : Nat → Bool} (h : End w wr B m n O oa oc tv U st ba la kb vb zo zl c v) (q : Nat) :
    End w (wr.drewN q) B m n O oa oc tv U st ba la kb vb zo zl c v := ⟨h.mem.drewN q, h.before, h.last, h.count, h.want, below_drewN h.below q⟩

theorem want_is {l c ri x : Int} (h : wantLast l c ri = x) (w : World) : Calls Try.prog 31 #[.int .i64 l, .int .i64 c, .int .i64 ri] w fun e w' => e = .returned (.int .i64 x) ∧ w' = w := by
  rw [← h]
  exact placeWantLast_any l c ri w

/-- The law's end. -/
structure Said (w : World) (e : Ending) (w' : World) : Prop where
  out : e = .returned (.bool true) ∧ Below w.heap.size w w'

set_option maxHeartbeats 4000000 in
set_option maxRecDepth 20000 in
theorem closed_any (a0 a1 a2 a3 a5 : Option Addr) (n0 n1 n2 n3 n5 c0 c1 c2 c3 c5 : Nat) (ri : Int) (zo zl zt : Nat → Int) (U : Nat → Nat) (cl : Nat → Bool) (w : World) (A : Args w a0 a1 a2 a3 a5 n0 n1 n2 n3 n5 zo zl zt U cl) :
    Calls Try.prog 4 #[.slice a0 n0 c0, .slice a1 n1 c1, .slice a2 n2 c2, .slice a3 n3 c3, .int .i64 ri, .slice a5 n5 c5] w fun e w' => Said w e w' := by
  go_enter Try.func4, Try.ntmps4
  go_wp2_with fail
  refine (zzBytes25 a0 a1 a2 a3 a5 n0 n1 n2 n3 n5 c0 c1 c2 c3 c5 ri U w A.r2.lens).mono ?_
  rintro e w1 ⟨v, rfl, rfl, hv⟩
  cases v with
  | false =>
    go_wp2
    go_ret
    exact ⟨rfl, Below.refl _ _⟩
  | true =>
    obtain ⟨_, _, _, _, _, hU⟩ := hv rfl
    clear hv
    by_cases k0 : n0 ≤ 65536
    · by_cases k1 : n1 ≤ 65536
      · by_cases k2 : n2 ≤ 65536
        · by_cases k3 : n3 ≤ 65536
          · by_cases k5 : n5 ≤ 65536
            · go_wp2_with fail
              refine (placeFits_any a0 a1 a2 a3 a5 n0 n1 n2 n3 n5 c0 c1 c2 c3 c5 ri U zl zt w1 k0 k1 k2 k3 k5 hU A.r2.lens A.r1 A.r5).mono ?_
              rintro e w2 ⟨v, rfl, rfl, hv⟩
              cases v with
              | false =>
                go_wp2
                go_ret
                exact ⟨rfl, Below.refl _ _⟩
              | true =>
                obtain ⟨rfl, rfl, r, t, rfl, F⟩ := fit_of A k0 k3 k5 hU (hv rfl)
                clear hv A hU
                have hrm := F.hr
                go_wp2_with fail
                refine (cloneInts_any a0 n1 c0 zo w2 F.nil0 (by have := F.hn; omega) F.r0).mono ?_
                rintro e W1 ⟨a0', c0', rfl, nil0', hb1, own0⟩
                go_wp2_with fail
                refine (cloneIntss_any a2 n2 c2 U W1 F.nil2 (by have := F.hm; omega) F.hU (F.r2.below hb1)).mono ?_
                rintro e W2 ⟨a2', c2', rfl, hb2, own2⟩
                have B2 : Below w2.heap.size w2 W2 := hb1.trans (hb2.mono hb1.size)
                go_wp2_with fail
                refine (cloneInts_any a5 n5 c5 (fun i => (t i : Int)) W2 F.nil5 (by have := F.hnt; omega) (F.r5.below B2)).mono ?_
                rintro e W3 ⟨a5', c5', rfl, nil5', hb3, own5⟩
                have B3 : Below w2.heap.size w2 W3 := B2.trans (hb3.mono B2.size)
                have own0' : OwnAt w2.heap.size W3 a0' 3 n1 (fun i => .int .i64 (zo i)) := (own0.below hb2).below hb3
                go_wp2_with fail
                refine (cloneInts_any a0' n1 c0' zo W3 nil0' (by have := F.hn; omega) own0'.row).mono ?_
                rintro e W4 ⟨ab, cb, rfl, nilb, hb4, ownb⟩
                have B4 : Below w2.heap.size w2 W4 := B3.trans (hb4.mono B3.size)
                go_wp2_with fail
                have S1 : Setup w2 W1 W4 a0' a2' a5' ab n1 n2 n5 zo t U := setup_of hb1 hb2 hb3 hb4 own0 own2 own5 ownb
                clear own0 own2 own5 ownb own0' hb1 hb2 hb3 hb4 B2 B3 nil0' nil5' nilb
                refine (placeBuild_any a0' a1 a2' a3 a5' n1 n2 c0' c1 c2' c3 n5 c5' r zl U cl W4 F.hn F.hm (F.r1.below B4) F.hz S1.lens (F.r3.below B4)).mono ?_
                rintro e W5 ⟨rfl, hbt⟩
                obtain ⟨O, o1, o2, M5⟩ := mem_of_built S1 hbt
                have b5 := hbt.below
                have crs := M5.rs.cell F.hr
                clear hbt
                go_wp2_with fail
                have T5 : OwnAt W1.heap.size W5 a5' 3 n5 (fun i => .int .i64 (t i : Int)) := S1.to'.below b5
                refine (zzPlace_any W4.heap.size n2 n1 O c0' r n5 c5' a0' a5' (toOf r (.slice a5' n5 c5')) U t ⟨zo, zl, cl⟩ W5 (by have := F.hnt; omega) F.hr (toOf_at _ _) M5 T5.row (to_apart S1 o2) F.ht F.hz).mono ?_
                rintro e W6 ⟨rfl, M6, K6⟩
                obtain ⟨B6, same⟩ := after_place B4 S1.size1 S1.size4 o1 o2 b5 K6
                have to6 := S1.to'.blocks same
                have be6 := S1.before.blocks same
                have un6 := S1.lens'.blocks same
                clear same K6 M5 b5 S1 T5 o1 o2 B4 crs
                go_wp2_with fail
                refine (placeCounts_any a5' n1 n5 c5' t W6 (by have := F.hn; omega) (by have := F.hnt; omega) to6.row F.ht).mono ?_
                rintro e W7 ⟨rfl, b7, cn7⟩
                have B7 : Below w2.heap.size w2 W7 := B6.trans (b7.mono B6.size)
                go_wp2_with fail
                refine (placeWantClashes_any ab a1 a2' a3 (some ⟨W6.heap.size, 0, none⟩) n1 n2 cb c1 c2' c3 n1 r zo zl U cl (fun g => cnt t g n5) W7 F.hn F.hm F.hr (be6.row.below b7) (F.r1.below B7) F.hz (un6.lens.below b7) (F.r3.below B7) (row_of cn7) (fun g _ => by have := cnt_le t g n5; have := F.hnt; omega)).mono ?_
                rintro e W8 ⟨rfl, b8, wt8⟩
                have X8 : End w2 W8 W4.heap.size n2 n1 O a0' c0' (toOf r (.slice a5' n5 c5')) U (run U r t ⟨zo, zl, cl⟩ n5) ab a1 W6.heap.size W7.heap.size zo zl (fun g => cnt t g n5) (wrun U r zo zl (fun g => cnt t g n5) cl n1) :=
                  ⟨(M6.below b7).below b8, (be6.row.below b7).below b8, F.r1.below (B7.trans (b8.mono B7.size)), (row_of cn7).below b8, row_of wt8, B7.trans (b8.mono B7.size)⟩
                clear M6 be6 to6 un6 cn7 b7 b8 B6 B7 wt8
                go_wp2
                go_loopw [18] (fun i wr => ∃ g : Nat, g ≤ n1 ∧ i = .int .i64 g ∧ End w2 wr W4.heap.size n2 n1 O a0' c0' (toOf r (.slice a5' n5 c5')) U (run U r t ⟨zo, zl, cl⟩ n5) ab a1 W6.heap.size W7.heap.size zo zl (fun g => cnt t g n5) (wrun U r zo zl (fun g => cnt t g n5) cl n1)) (fun i _ => n1 - (intOf i).toNat)
                case atStart => exact ⟨0, Nat.zero_le _, rfl, X8⟩
                case round =>
                  clear X8
                  obtain ⟨g, hg, rfl, X⟩ := hrel
                  by_cases hlt : g < n1
                  · obtain ⟨ho1, _, ho3⟩ := X.mem.own (by omega)
                    subst ho1
                    have c19 := sm_open X.mem.sm
                    have cO := ho3.cell hlt
                    have c18 := sm_last X.mem.sm
                    have cL := X.mem.lst.cell hlt
                    obtain ⟨b1, o1, e1, d1⟩ := X.before g hlt
                    cases e1
                    obtain ⟨b2, o2, e2, d2⟩ := X.last g hlt
                    cases e2
                    obtain ⟨b3, o3, e3, d3⟩ := X.count g hlt
                    cases e3
                    simp only [Nat.zero_add] at d3
                    simp only [run_op U r t ⟨zo, zl, cl⟩ g (F.in0 g hlt) n5] at cO
                    simp only [run_la] at cL
                    have X1 := X
                    clear ho3 X
                    go_wp2
                    go_quiet ((go_at_call 18; refine Calls.quiet_of_same (zzOpen (W4.heap.size + 3 + n2) O g n1 c0' hlt (wrap64 (zo g + (cnt t g n5 : Int))) _ ?_ ?_); exact c19; exact cO))
                    go_wp2
                    have X2 := X1.drewN nq
                    clear c19 cO c18 cL d1 d2 d3 X1
                    generalize wr.drewN nq = wy at X2 ⊢
                    have c18 := sm_last X2.mem.sm
                    have cL := X2.mem.lst.cell hlt
                    obtain ⟨b2', o2', e2, d2⟩ := X2.last g hlt
                    cases e2
                    obtain ⟨b3, o3, e3, d3⟩ := X2.count g hlt
                    cases e3
                    simp only [Nat.zero_add] at d3
                    simp only [run_la] at cL
                    have hzg := F.hz g hlt
                    by_cases hcp : 0 < cnt t g n5
                    · have ew : wantLast (zl g) (cnt t g n5 : Int) (r : Int) = (r : Int) := by simp [wantLast]; omega
                      rw [if_pos hcp, lp_some rfl] at cL
                      have cR := X2.mem.rs.cell hrm
                      go_quiet (first | (go_at_call 20; refine Calls.quiet_of_same (zzLast (W4.heap.size + 3 + n2) (W4.heap.size + 1 + n2) g n1 hlt (some ⟨W4.heap.size + 1 + r, 0, none⟩) _ ?_ ?_); exact c18; exact cL) | (go_at_call 31; exact Calls.quiet_of_same (want_is ew _)) | (go_at_call 19; refine Calls.quiet_of_same (lastIs_some W4.heap.size n2 r hrm (W4.heap.size + 1 + r) _ ?_); exact cR))
                      go_wp2
                      go_roundw
                      case rel => exact ⟨g + 1, by omega, by go_num, X2.drewN _⟩
                      case measure => simp [intOf]; omega
                    · rw [if_neg hcp] at cL
                      by_cases hzn : zl g < 0
                      · have ew : wantLast (zl g) (cnt t g n5 : Int) (r : Int) = zl g := by simp [wantLast]; omega
                        rw [lp_none hzn] at cL
                        go_quiet (first | (go_at_call 20; refine Calls.quiet_of_same (zzLast (W4.heap.size + 3 + n2) (W4.heap.size + 1 + n2) g n1 hlt none _ ?_ ?_); exact c18; exact cL) | (go_at_call 31; exact Calls.quiet_of_same (want_is ew _)) | (go_at_call 19; exact Calls.quiet_of_same (lastIs_none _ _ _ _ hzn _)))
                        go_wp2
                        go_roundw
                        case rel => exact ⟨g + 1, by omega, by go_num, X2.drewN _⟩
                        case measure => simp [intOf]; omega
                      · obtain ⟨p, hp⟩ := Int.eq_ofNat_of_zero_le (show 0 ≤ zl g by omega)
                        have ew : wantLast (zl g) (cnt t g n5 : Int) (r : Int) = (p : Int) := by simp [wantLast]; omega
                        rw [lp_some hp] at cL
                        have hpm : p < n2 := by omega
                        have cR := X2.mem.rs.cell hpm
                        clear hp
                        go_quiet (first | (go_at_call 20; refine Calls.quiet_of_same (zzLast (W4.heap.size + 3 + n2) (W4.heap.size + 1 + n2) g n1 hlt (some ⟨W4.heap.size + 1 + p, 0, none⟩) _ ?_ ?_); exact c18; exact cL) | (go_at_call 31; exact Calls.quiet_of_same (want_is ew _)) | (go_at_call 19; refine Calls.quiet_of_same (lastIs_some W4.heap.size n2 p hpm (W4.heap.size + 1 + p) _ ?_); exact cR))
                        go_wp2
                        go_roundw
                        case rel => exact ⟨g + 1, by omega, by go_num, X2.drewN _⟩
                        case measure => simp [intOf]; omega
                  · have hgn : g = n1 := by omega
                    have hmk : ∀ j, (run U r t ⟨zo, zl, cl⟩ n5).cl j = wrun U r zo zl (fun g => cnt t g n5) cl n1 j := fun j => marks U r n1 n5 t ⟨zo, zl, cl⟩ F.in0 F.ht (by have := F.hnt; omega) j
                    have HM : Hid (∀ j, (run U r t ⟨zo, zl, cl⟩ n5).cl j = wrun U r zo zl (fun g => cnt t g n5) cl n1 j) := hmk
                    clear hmk
                    subst hgn
                    go_wp2
                    go_loopw [19] (fun i wx => ∃ k : Nat, k ≤ n2 ∧ i = .int .i64 k ∧ End w2 wx W4.heap.size n2 g O a0' c0' (toOf r (.slice a5' n5 c5')) U (run U r t ⟨zo, zl, cl⟩ n5) ab a1 W6.heap.size W7.heap.size zo zl (fun g => cnt t g n5) (wrun U r zo zl (fun g => cnt t g n5) cl g)) (fun i _ => n2 - (intOf i).toNat)
                    case atStart => exact ⟨0, Nat.zero_le _, rfl, X⟩
                    case round =>
                      clear X
                      obtain ⟨k, hk, rfl, X⟩ := hrel
                      by_cases hkl : k < n2
                      · have c1' := X.mem.rs.cell hkl
                        have c5' := rec_cl (X.mem.recs k hkl)
                        obtain ⟨b4, o4, e4, d4⟩ := X.want k hkl
                        cases e4
                        simp only [Nat.zero_add] at d4
                        rw [HM.out k] at c5'
                        obtain ⟨vk, hvk⟩ : ∃ vk, vk = wrun U r zo zl (fun g => cnt t g n5) cl g k := ⟨_, rfl⟩
                        rw [← hvk] at c5'
                        simp only [← hvk] at d4
                        clear hvk HM
                        go_wp2
                        go_quiet ((go_at_call 21; refine Calls.quiet_of_same (zzClashes (W4.heap.size + 1 + k) vk _ ?_); exact c5'))
                        go_wp2
                        go_roundw
                        case rel => exact ⟨k + 1, by omega, by go_num, X.drewN _⟩
                        case measure => simp [intOf]; omega
                      · clear HM
                        go_wp2
                        go_ret
                        exact ⟨rfl, X.below⟩
            · go_wp2
              go_ret
              exact ⟨rfl, Below.refl _ _⟩
          · go_wp2
            go_ret
            exact ⟨rfl, Below.refl _ _⟩
        · go_wp2
          go_ret
          exact ⟨rfl, Below.refl _ _⟩
      · go_wp2
        go_ret
        exact ⟨rfl, Below.refl _ _⟩
    · go_wp2
      go_ret
      exact ⟨rfl, Below.refl _ _⟩
end Go.Proofs.Qxb6619458a
