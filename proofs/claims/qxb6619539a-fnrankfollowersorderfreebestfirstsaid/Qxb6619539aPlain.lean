/- The plain laws over sorted rearrangements: no Go in sight. -/
import Derived.Test.Qxb6619539aSort
namespace Go.Proofs.Qxb6619539a
open Go.Sort

def cn : Nat → (Nat → Bool) → Nat
  | 0, _ => 0
  | n + 1, p => cn n p + if p n then 1 else 0

theorem cn_map (n : Nat) (F : Nat → Fol) (q : Fol → Bool) : ((List.range n).map F).countP q = cn n (fun i => q (F i)) := by
  induction n with
  | zero => rfl
  | succ n ih => rw [List.range_succ, List.map_append, List.countP_append, ih]; simp [cn, List.countP_cons]

theorem cn_congr {n : Nat} {p q : Nat → Bool} (h : ∀ j, j < n → p j = q j) : cn n p = cn n q := by
  induction n with
  | zero => rfl
  | succ n ih => simp only [cn]; rw [ih (fun j hj => h j (by omega)), h n (by omega)]

theorem cn_mono (n m : Nat) (p : Nat → Bool) (h : n ≤ m) : cn n p ≤ cn m p := by
  induction m with
  | zero => have : n = 0 := by omega
            subst this; exact Nat.le_refl _
  | succ m ih =>
    by_cases e : n = m + 1
    · subst e; exact Nat.le_refl _
    · simp only [cn]
      have := ih (by omega)
      omega

theorem cn_perm {n : Nat} {F F' : Nat → Fol} (h : ((List.range n).map F').Perm ((List.range n).map F)) (q : Fol → Bool) : cn n (fun i => q (F' i)) = cn n (fun i => q (F i)) := by
  rw [← cn_map, ← cn_map]
  exact h.countP_eq q

/-! ### Each of the new ones has its own among the old ones -/
def Inv (n i : Nat) (us : Nat → Bool) (F F' : Nat → Fol) : Prop := ∀ x : Fol, cn n (fun j => us j && decide (F j = x)) = cn i (fun k => decide (F' k = x))

theorem inv_start (n : Nat) (F F' : Nat → Fol) : Inv n 0 (fun _ => false) F F' := by
  intro x
  have : ∀ m, cn m (fun j => (fun _ => false) j && decide (F j = x)) = 0 := fun m => by
    induction m with
    | zero => rfl
    | succ m ih => simp only [cn, ih]; simp
  rw [this]
  rfl

theorem inv_find {n i : Nat} {us : Nat → Bool} {F F' : Nat → Fol} (h : Inv n i us F F') (hp : ((List.range n).map F').Perm ((List.range n).map F)) (hi : i < n) : ∃ j, j < n ∧ us j = false ∧ F j = F' i := by
  refine Classical.byContradiction fun hne => ?_
  have e1 : cn n (fun j => us j && decide (F j = F' i)) = cn n (fun j => decide (F j = F' i)) := cn_congr fun j hj => by
    cases hu : us j with
    | true => simp
    | false =>
      have : ¬ F j = F' i := fun e => hne ⟨j, hj, hu, e⟩
      simp [this]
  have e2 := cn_perm hp (fun y => decide (y = F' i))
  have e3 := h (F' i)
  have e4 := cn_mono (i + 1) n (fun k => decide (F' k = F' i)) (by omega)
  simp only [cn] at e4
  simp at e4
  omega

def setU (us : Nat → Bool) (j0 : Nat) : Nat → Bool := fun j => if j = j0 then true else us j

theorem cn_set {us : Nat → Bool} {p : Nat → Bool} {j0 : Nat} (hu : us j0 = false) : ∀ n, cn n (fun j => setU us j0 j && p j) = cn n (fun j => us j && p j) + if j0 < n ∧ p j0 = true then 1 else 0 := by
  intro n
  induction n with
  | zero => simp [cn]
  | succ n ih =>
    simp only [cn]
    rw [ih]
    by_cases e : n = j0
    · subst e
      by_cases hp : p n = true
      · simp [setU, hu, hp]
      · simp [hp]
    · by_cases hlt : j0 < n
      · have hlt' : j0 < n + 1 := by omega
        simp only [setU, e, if_false, hlt, hlt']
        omega
      · have hlt' : ¬ j0 < n + 1 := by omega
        simp only [setU, e, if_false, hlt, hlt']
        simp

theorem inv_step {n i j0 : Nat} {us : Nat → Bool} {F F' : Nat → Fol} (h : Inv n i us F F') (hj : j0 < n) (hu : us j0 = false) (hx : F j0 = F' i) : Inv n (i + 1) (setU us j0) F F' := by
  intro x
  rw [cn_set (p := fun j => decide (F j = x)) hu n]
  simp only [cn, h x, hj, true_and, hx]

/-! ### Two rearrangements of one list of followers with distinct ids, both in order, are one -/
theorem total {r : Int} {x y : Fol} (h : x.1 ≠ y.1) : ltF r x y = true ∨ ltF r y x = true := by
  rw [ltF_iff, ltF_iff]
  cases hx : pa r x <;> cases hy : pa r y <;> simp <;> omega

theorem irr (r : Int) (x : Fol) : ltF r x x = false := (swo r).irrefl x
theorem ltF_trans {r : Int} {x y z : Fol} (h1 : ltF r x y = true) (h2 : ltF r y z = true) : ltF r x z = true := (swo r).trans x y z h1 h2

theorem cn_less (n i : Nat) (p : Nat → Bool) (hi : i ≤ n) (h1 : ∀ j, j < i → p j = true) (h2 : ∀ j, i ≤ j → j < n → p j = false) : cn n p = i := by
  induction n generalizing i with
  | zero => have : i = 0 := by omega
            subst this; rfl
  | succ n ih =>
    simp only [cn]
    by_cases e : i = n + 1
    · subst e
      rw [ih n (Nat.le_refl _) (fun j hj => h1 j (by omega)) (fun j hj hn => absurd hn (by omega)), h1 n (by omega)]
      simp
    · rw [ih i (by omega) h1 (fun j hj hn => h2 j hj (by omega)), h2 n (by omega) (by omega)]
      simp

theorem cn_strict {p q : Nat → Bool} {a : Nat} : ∀ n, a < n → (∀ j, j < n → p j = true → q j = true) → p a = false → q a = true → cn n p < cn n q := by
  intro n
  induction n with
  | zero => intro h; omega
  | succ n ih =>
    intro ha hpq hpa hqa
    have hle : ∀ m, m ≤ n + 1 → cn m p ≤ cn m q := by
      intro m
      induction m with
      | zero => intro _; exact Nat.le_refl _
      | succ m ihm =>
        intro hm
        have := ihm (by omega)
        simp only [cn]
        cases hp : p m with
        | true => rw [hpq m (by omega) hp]; simp; omega
        | false => simp; omega
    simp only [cn]
    by_cases e : a = n
    · subst e
      have := hle a (by omega)
      rw [hpa, hqa]
      simp
      omega
    · have := ih (by omega) (fun j hj => hpq j (by omega)) hpa hqa
      cases hp : p n with
      | true => rw [hpq n (by omega) hp]; simp; omega
      | false => simp; omega

def Distinct (n : Nat) (F : Nat → Fol) : Prop := ∀ i j, i < j → j < n → (F i).1 ≠ (F j).1

theorem distinct_ne {n : Nat} {F : Nat → Fol} (h : Distinct n F) {i j : Nat} (hi : i < n) (hj : j < n) (hne : i ≠ j) : (F i).1 ≠ (F j).1 := by
  by_cases e : i < j
  · exact h i j e hj
  · exact (h j i (by omega) hi).symm

theorem distinct_iff (n : Nat) (F : Nat → Fol) : Distinct n F ↔ (((List.range n).map F).map (·.1)).Nodup := by
  rw [List.nodup_iff_pairwise_ne, List.pairwise_iff_getElem]
  constructor
  · intro h i j hi hj hij
    simp at hi hj ⊢
    exact h i j hij hj
  · intro h i j hij hj
    have := h i j (by simp; omega) (by simp; omega) hij
    simpa using this

theorem distinct_perm {n : Nat} {F F' : Nat → Fol} (hp : ((List.range n).map F').Perm ((List.range n).map F)) (h : Distinct n F) : Distinct n F' := by
  rw [distinct_iff] at h ⊢
  exact (hp.map (·.1)).nodup_iff.2 h

theorem mem_of_perm {n : Nat} {F F' : Nat → Fol} (hp : ((List.range n).map F').Perm ((List.range n).map F)) {i : Nat} (hi : i < n) : ∃ a, a < n ∧ F a = F' i := by
  have : F' i ∈ (List.range n).map F := hp.mem_iff.1 (List.mem_map.2 ⟨i, List.mem_range.2 hi, rfl⟩)
  obtain ⟨a, ha, e⟩ := List.mem_map.1 this
  exact ⟨a, List.mem_range.1 ha, e⟩

/-- How many stand before x. -/
def rk (r : Int) (n : Nat) (F : Nat → Fol) (x : Fol) : Nat := cn n (fun j => ltF r (F j) x)

theorem rk_sorted {r : Int} {n : Nat} {F F' : Nat → Fol} (ho : Ordered r n F F') (hd : Distinct n F) {i : Nat} (hi : i < n) : rk r n F (F' i) = i := by
  unfold rk
  rw [← cn_perm ho.perm (fun y => ltF r y (F' i))]
  have hd' := distinct_perm ho.perm hd
  refine cn_less n i _ (by omega) (fun j hj => ?_) (fun j hj hn => ?_)
  · have h1 := ho.sorted j i hj hi
    rcases total (r := r) (distinct_ne hd' (show j < n by omega) hi (by omega)) with h | h
    · exact h
    · rw [h1] at h; cases h
  · by_cases e : j = i
    · subst e; exact irr r _
    · exact ho.sorted i j (by omega) hn

theorem rk_inj {r : Int} {n : Nat} {F : Nat → Fol} (hd : Distinct n F) {a b : Nat} (ha : a < n) (hb : b < n) (e : rk r n F (F a) = rk r n F (F b)) : F a = F b := by
  refine Classical.byContradiction fun hne => ?_
  have hab : a ≠ b := fun h => hne (by rw [h])
  have key : ∀ a b, a < n → b < n → ltF r (F a) (F b) = true → rk r n F (F a) < rk r n F (F b) := fun a b ha hb hlt =>
    cn_strict (a := a) n ha (fun j _ hj => ltF_trans hj hlt) (irr r _) hlt
  rcases total (r := r) (distinct_ne hd ha hb hab) with h | h
  · have := key a b ha hb h; omega
  · have := key b a hb ha h; omega

theorem same_order {r : Int} {n : Nat} {F A B : Nat → Fol} (hA : Ordered r n F A) (hB : Ordered r n F B) (hd : Distinct n F) {i : Nat} (hi : i < n) : A i = B i := by
  obtain ⟨a, ha, ea⟩ := mem_of_perm hA.perm hi
  obtain ⟨b, hb, eb⟩ := mem_of_perm hB.perm hi
  rw [← ea, ← eb]
  refine rk_inj (r := r) hd ha hb ?_
  rw [ea, eb, rk_sorted hA hd hi, rk_sorted hB hd hi]

/-- A follower before whom none stands is the first. -/
theorem best_first {r : Int} {n : Nat} {F A : Nat → Fol} (hA : Ordered r n F A) (hd : Distinct n F) (hn : 0 < n) {b : Nat} (hb : b < n) (h : ∀ j, j < n → ltF r (F j) (F b) = false) : A 0 = F b := by
  obtain ⟨a, ha, ea⟩ := mem_of_perm hA.perm hn
  rw [← ea]
  refine rk_inj (r := r) hd ha hb ?_
  rw [ea, rk_sorted hA hd hn]
  unfold rk
  rw [cn_less n 0 _ (by omega) (fun j hj => absurd hj (by omega)) (fun j _ hj => h j hj)]

/-! ### The rotated list -/
def rot (n k : Nat) (F : Nat → Fol) : Nat → Fol := fun i => if i + k < n then F (i + k) else F (i + k - n)

theorem rot_perm {n k : Nat} (hk : k ≤ n) (F : Nat → Fol) : ((List.range n).map (rot n k F)).Perm ((List.range n).map F) := by
  have e : (List.range n).map (rot n k F) = ((List.range n).map F).drop k ++ ((List.range n).map F).take k := by
    apply List.ext_getElem
    · simp; omega
    · intro i h1 h2
      have hi : i < n := by simpa using h1
      rw [List.getElem_append]
      by_cases h : i + k < n
      · rw [dif_pos (by simp; omega)]
        have e : rot n k F i = F (k + i) := by simp only [rot]; rw [if_pos h, Nat.add_comm]
        simp [e]
      · rw [dif_neg (by simp; omega)]
        simp [rot, h]
        congr 1
        omega
  rw [e]
  exact (List.perm_append_comm).trans (by rw [List.take_append_drop])

theorem Ordered.of_perm {r : Int} {n : Nat} {F G A : Nat → Fol} (h : Ordered r n G A) (hp : ((List.range n).map G).Perm ((List.range n).map F)) : Ordered r n F A := ⟨h.sorted, h.perm.trans hp⟩
end Go.Proofs.Qxb6619539a
