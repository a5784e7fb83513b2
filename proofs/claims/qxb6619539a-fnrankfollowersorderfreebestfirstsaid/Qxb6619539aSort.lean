/- rankFollowers, by the shelf's contract of slices.SortFunc. -/
import Derived.Test.Qxb6619539aWalkB
import Derived.Test.Qxb6619539aShelf
import Derived.Laws.EntriesVeiled
namespace Go.Proofs.Qxb6619539a
open Go.RowKit Go.Deep Go.Shelf Go.Sort Go.Proofs

def ltF (r : Int) (x y : Fol) : Bool := ltOf (cf r) x y

theorem cmpI_neg (x y : Int) : (-(cmpI x y) < 0) ↔ y < x := by unfold cmpI; split <;> (try split) <;> omega
theorem cmpI_zero (x y : Int) : cmpI x y = 0 ↔ x = y := by unfold cmpI; split <;> (try split) <;> omega

theorem ltF_iff (r : Int) (x y : Fol) : ltF r x y = true ↔
    y.2.1 < x.2.1 ∨ (x.2.1 = y.2.1 ∧ ((pa r x = true ∧ pa r y = false) ∨ (pa r x = pa r y ∧ (y.2.2.2.2 < x.2.2.2.2 ∨ (x.2.2.2.2 = y.2.2.2.2 ∧ y.1 < x.1))))) := by
  unfold ltF ltOf cf
  rw [decide_eq_true_eq]
  by_cases h1 : cmpI x.2.1 y.2.1 = 0
  · rw [if_pos h1]
    have e1 := (cmpI_zero _ _).1 h1
    by_cases h2 : pa r x = pa r y
    · rw [if_pos h2]
      by_cases h3 : cmpI x.2.2.2.2 y.2.2.2.2 = 0
      · rw [if_pos h3, cmpI_neg]
        have e3 := (cmpI_zero _ _).1 h3
        rw [h2]
        constructor
        · intro h; exact .inr ⟨e1, .inr ⟨rfl, .inr ⟨e3, h⟩⟩⟩
        · rintro (h | ⟨_, ⟨ha, hb⟩ | ⟨_, h | h⟩⟩)
          · omega
          · rw [ha] at hb; cases hb
          · omega
          · exact h.2
      · rw [if_neg h3, cmpI_neg]
        have e3 := mt (cmpI_zero _ _).2 h3
        rw [h2]
        constructor
        · intro h; exact .inr ⟨e1, .inr ⟨rfl, .inl h⟩⟩
        · rintro (h | ⟨_, ⟨ha, hb⟩ | ⟨_, h | h⟩⟩)
          · omega
          · rw [ha] at hb; cases hb
          · exact h
          · exact absurd h.1 e3
    · rw [if_neg h2]
      cases hx : pa r x <;> cases hy : pa r y
      · rw [hx, hy] at h2; exact absurd rfl h2
      · simp [e1]
      · simp [e1]
      · rw [hx, hy] at h2; exact absurd rfl h2
  · rw [if_neg h1, cmpI_neg]
    have e1 := mt (cmpI_zero _ _).2 h1
    constructor
    · intro h; exact .inl h
    · rintro (h | ⟨h, _⟩)
      · exact h
      · exact absurd h e1

theorem ltF_false (r : Int) (x y : Fol) : ltF r x y = false ↔ ¬ (
    y.2.1 < x.2.1 ∨ (x.2.1 = y.2.1 ∧ ((pa r x = true ∧ pa r y = false) ∨ (pa r x = pa r y ∧ (y.2.2.2.2 < x.2.2.2.2 ∨ (x.2.2.2.2 = y.2.2.2.2 ∧ y.1 < x.1)))))) := by
  rw [← ltF_iff]; simp

theorem swo (r : Int) : SWO (ltOf (cf r)) where
  irrefl x := by
    show ltF r x x = false
    rw [ltF_false]
    cases pa r x <;> simp
  trans x y z h1 h2 := by
    show ltF r x z = true
    have h1 := (ltF_iff r x y).1 h1
    have h2 := (ltF_iff r y z).1 h2
    rw [ltF_iff]
    cases hx : pa r x <;> cases hy : pa r y <;> cases hz : pa r z <;> simp [hx, hy, hz] at h1 h2 ⊢ <;> omega
  ntrans x y z h1 h2 := by
    show ltF r x z = false
    have h1 := (ltF_false r x y).1 h1
    have h2 := (ltF_false r y z).1 h2
    rw [ltF_false]
    cases hx : pa r x <;> cases hy : pa r y <;> cases hz : pa r z <;> simp [hx, hy, hz] at h1 h2 ⊢ <;> omega

/-- Every old block but one is as it was. -/
structure But (blk : Nat) (w w' : World) : Prop where
  os : w'.os = w.os
  tape : w'.tape = w.tape
  output : w'.output = w.output
  size : w.heap.size ≤ w'.heap.size
  block : ∀ k, k < w.heap.size → k ≠ blk → w'.heap[k]? = w.heap[k]?

/-- d' is d, put in order. -/
structure Ordered (r : Int) (n : Nat) (F F' : Nat → Fol) : Prop where
  sorted : ∀ i j, i < j → j < n → ltF r (F' j) (F' i) = false
  perm : ((List.range n).map F').Perm ((List.range n).map F)

theorem fcells_get (x : Fol) (m : Nat) (h : m < 5) : (fcells x)[m]! = fld x m := by
  match m, h with
  | 0, _ => rfl
  | 1, _ => rfl
  | 2, _ => rfl
  | 3, _ => rfl
  | 4, _ => rfl

def arr (n : Nat) (F : Nat → Fol) : Array Fol := ((List.range n).map F).toArray
theorem size_arr (n : Nat) (F : Nat → Fol) : (arr n F).size = n := by simp [arr]
theorem get_arr {n i : Nat} (F : Nat → Fol) (h : i < n) : (arr n F)[i]! = F i := by simp [arr, h]

theorem holds_of_rowF {w : World} {b n : Nat} {t : TypeId} {F : Nat → Fol} (h : RowF w b t n F) : HoldsK fcells 5 w b 0 (arr n F) := by
  intro j hj
  rw [size_flatK, size_arr] at hj
  have hc := World.rowIs.cell h hj
  refine ⟨?_, by simpa using h.frozen (0 + j)⟩
  rw [get_flatK _ _ _ _ (by rw [size_arr]; exact hj), get_arr F (by omega), fcells_get _ _ (Nat.mod_lt _ (by omega))]
  simpa using hc

theorem fol_of_holds {w : World} {b n : Nat} {d : Array Fol} (h : HoldsK fcells 5 w b 0 d) (hd : d.size = n) : FolAt w (some ⟨b, 0, none⟩) n (fun i => d[i]!) := by
  intro i hi
  have key : ∀ c, c < 5 → w.cell? ⟨b, 0 + i * 5 + c, none⟩ = some (fld d[i]! c) := fun c hc => by
    rw [← fcells_get _ _ hc]
    exact (HoldsK.cell h (by omega) hc).1
  exact ⟨b, 0, rfl, key 0 (by omega), key 1 (by omega), key 2 (by omega), key 3 (by omega), key 4 (by omega)⟩

theorem sortWorld_cell {W : World} {blk m : Nat} {dk : Array Fol} {os : Array Obj} {a : Addr} {v : Value} (h : W.cell? a = some v) (hb : a.block ≠ blk) : (sortWorldK fcells 5 W blk 0 m dk os).cell? a = some v := by
  unfold sortWorldK
  rw [cell?_grow]
  · rw [cell?_putRowK_other _ _ _ _ _ _ _ hb]
    exact h
  · have := World.block_lt_of_cell? _ _ h
    simpa [putRowK] using this

theorem sortWorld_but {W : World} {blk m : Nat} {dk : Array Fol} {os : Array Obj} : But blk W (sortWorldK fcells 5 W blk 0 m dk os) := by
  refine ⟨rfl, rfl, rfl, by simp [sortWorldK, putRowK], fun k hk hne => ?_⟩
  unfold sortWorldK
  rw [heap_grow_old _ _ (by simpa [putRowK] using hk)]
  simp only [putRowK, putRow, mapBlock, Array.getElem?_modify]
  rw [if_neg (fun h => hne h.symm)]
  rfl

theorem ordered_of {r : Int} {n : Nat} {F : Nat → Fol} {d : Array Fol} (hp : PermIn 0 (arr n F).size (arr n F) d) (hs : SortedIn (ltOf (cf r)) 0 (arr n F).size d) : d.size = n ∧ Ordered r n F (fun i => d[i]!) := by
  obtain ⟨h1, _, h3⟩ := hp
  rw [size_arr] at h1 h3 hs
  refine ⟨h1, fun i j hij hj => hs i j (by omega) hij hj, ?_⟩
  have e1 : (d.extract 0 n).toList = (List.range n).map fun i => d[i]! := by
    have : d.extract 0 n = d := by rw [← h1]; simp
    rw [this]
    apply List.ext_getElem
    · simp [h1]
    · intro i h1 h2
      have hi : i < d.size := by simpa using h1
      simp [getElem!_pos d i hi]
  have e2 : ((arr n F).extract 0 n).toList = (List.range n).map F := by
    have : (arr n F).extract 0 n = arr n F := by
      have h := Array.extract_size (xs := arr n F)
      rw [size_arr] at h
      exact h
    rw [this]
    simp [arr]
  rw [e1, e2] at h3
  exact h3

structure RankSay (r : Int) (blk n : Nat) (F : Nat → Fol) (w : World) (e : Ending) (w' : World) : Prop where
  out : e = .returned (.tuple #[]) ∧ But blk w w' ∧ ∃ F', FolAt w' (some ⟨blk, 0, none⟩) n F' ∧ Ordered r n F F'

set_option maxHeartbeats 1000000 in
theorem rankFollowers_any (blk n : Nat) (F : Nat → Fol) (r : Int) (w : World) (hn : n ≤ 1048576) (hR : RowF w blk 49 n F) :
    Calls Try.prog 20 #[.slice (some ⟨blk, 0, none⟩) n n, .int .u64 r] w fun e w' => RankSay r blk n F w e w' := by
  have eg : ∀ args w, (callFunc 26 args).run Try.prog w = .ok (.enter 26 args) w := enters_of Try.func26 (by kernel_rfl) rfl
  have hblk := hR.lt
  obtain ⟨W, hW⟩ : ∃ W, W = (w.alloc (.cells #[.int .u64 r] 23)).alloc (.cells #[.func (.func 24) #[] #[.pointer (some ⟨w.heap.size, 0, none⟩)]] 55) := ⟨_, rfl⟩
  have c1 : W.cell? ⟨w.heap.size + 1, 0, none⟩ = some (.func (.func 24) #[] #[.pointer (some ⟨w.heap.size, 0, none⟩)]) := by rw [hW]; simp [go_sem]
  have c2 : W.cell? ⟨w.heap.size, 0, none⟩ = some (.int .u64 r) := by rw [hW]; simp [go_sem, World.cell?_alloc_past]
  have bW : Below w.heap.size w W := by rw [hW]; exact ((Below.refl _ _).alloc (Nat.le_refl _) _).alloc (by simp) _
  have hRW : RowF W blk 49 n F := hR.of_block (bW.block _ hblk)
  have hcmp : CmpLays Try.prog 26 #[.pointer (some ⟨w.heap.size + 1, 0, none⟩)] fcells 5 (cf r) blk 0 (arr n F).size W := fun m os dk hdk x y =>
    (closure26 x y r (w.heap.size + 1) w.heap.size _ (sortWorld_cell c1 (by show w.heap.size + 1 ≠ blk; omega)) (sortWorld_cell c2 (by show w.heap.size ≠ blk; omega))).mono fun e w' h => h.out
  have hcon := AnyQ.slices_SortFunc Try.sortL 5 Try.isAgg49 Try.sizeOf49 fcells (fun _ => rfl) (fun x v hv => by simp [fcells] at hv; rcases hv with rfl | rfl | rfl | rfl | rfl <;> rfl) (cf r) (swo r) 26 #[.pointer (some ⟨w.heap.size + 1, 0, none⟩)] blk 0 n (arr n F) W eg hcmp (holds_of_rowF hRW) (hRW.lt) (by rw [size_arr]; omega)
  rw [size_arr] at hcon
  change Calls Try.prog 25 _ _ _ at hcon
  have hH := holds_of_rowF hRW
  have hlW := hRW.lt
  have HE : Hid (∀ d' m os e w', (e = .returned (.tuple #[]) ∧ PermIn 0 n (arr n F) d' ∧ SortedIn (ltOf (cf r)) 0 n d' ∧ w' = sortWorldK fcells 5 W blk 0 m d' os) → RankSay r blk n F w e w') := by
    rintro d' m os e w' ⟨rfl, hp, hs, rfl⟩
    obtain ⟨hd, ho⟩ := ordered_of (r := r) (n := n) (F := F) (d := d') (by rw [size_arr]; exact hp) (by rw [size_arr]; exact hs)
    have hb := sortWorld_but (W := W) (blk := blk) (m := m) (dk := d') (os := os)
    refine ⟨rfl, ⟨hb.os.trans bW.os, hb.tape.trans bW.tape, hb.output.trans bW.output, Nat.le_trans bW.size hb.size, fun k hk hne => (hb.block k (Nat.lt_of_lt_of_le hk bW.size) hne).trans (bW.block k hk)⟩, fun i => d'[i]!, ?_, ho⟩
    refine fol_of_holds ?_ hd
    unfold sortWorldK
    refine holdsK_grow _ _ _ _ _ _ _ (by simpa [putRowK] using hlW) ?_
    exact holdsK_putRowK _ _ _ _ _ (arr n F) _ (holdsK_ahead _ _ _ _ _ _ _ hH) (by rw [size_arr]; exact hd)
  clear hcmp hR hRW bW c1 c2 eg hH hlW hblk
  subst hW
  go_enter Try.func20, Try.ntmps20
  go_wp2_with (go_at_call 25; refine hcon.mono ?_; rintro e w' ⟨rfl, d', m, os, hp, hs, rfl⟩)
  go_end0
  exact HE.out d' m os _ _ ⟨rfl, hp, hs, rfl⟩
end Go.Proofs.Qxb6619539a
