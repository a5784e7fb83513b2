/- Memory words: rows of strings, rows of rows of strings; Join as a plain function. -/
import Derived.Test.Qxb6623437aRows
import Derived.Test.Qxb6623437aShelf
import Derived.WalkKit
import Derived.WalkSpells
import Derived.WalkLawsBesides
import Derived.WalkSmall
import Derived.Deep.OwnRows
namespace Go.Proofs.Qxb6623437a
open Go.RowKit Go.Deep

/-- A slice's strings. (An empty slice: nothing is said of its address.) -/
def StrAt (w : World) (a : Option Addr) (xs : List ByteArray) : Prop :=
  ∀ (j : Nat) (x : ByteArray), xs[j]? = some x → ∃ b o, a = some ⟨b, o, none⟩ ∧ w.cell? ⟨b, o + j, none⟩ = some (.string x)

theorem StrAt.below {w w' : World} {a : Option Addr} {xs : List ByteArray} (h : StrAt w a xs) (hb : Below w.heap.size w w') : StrAt w' a xs := by
  intro j x hj
  obtain ⟨b, o, rfl, hc⟩ := h j x hj
  exact ⟨b, o, rfl, by rw [hb.cell (p := ⟨b, o + j, none⟩) (World.block_lt_of_cell? _ _ hc)]; exact hc⟩

/-- strings.Join's answer. -/
def jn (xs : List ByteArray) (sep : ByteArray) : ByteArray := ⟨(Lib.join (xs.map (·.data.toList)) sep.data.toList).toArray⟩

structure Joined (v : ByteArray) (w : World) (e : Ending) (w' : World) : Prop where
  out : e = .returned (.string v) ∧ Below w.heap.size w w'

theorem join_any (a : Option Addr) (c : Nat) (xs : List ByteArray) (sep : ByteArray) (w : World) (hx : StrAt w a xs) (hN : xs.length ≤ 140737488355328) (hcap : xs.length ≤ c) (hlen : (jn xs sep).size ≤ 140737488355328) :
    Calls Try.prog 10 #[.slice a xs.length c, .string sep] w fun e w' => Joined (jn xs sep) w e w' := by
  cases xs with
  | nil => exact (Try.strings_Join_none a c sep w).mono fun e w' h => ⟨h.1, by rw [h.2]; exact Below.refl _ _⟩
  | cons x ys =>
    obtain ⟨b, o, rfl, hc⟩ := hx 0 x rfl
    refine (Try.strings_Join b o c (x :: ys) sep w (fun j y hj => ?_) (World.block_lt_of_cell? _ _ hc) hN hcap hlen).mono fun e w' h => ⟨h.1, h.2⟩
    obtain ⟨b', o', e', hc'⟩ := hx j y hj
    cases e'
    exact hc'

theorem join_n (a : Option Addr) (n c : Nat) (xs : List ByteArray) (sep : ByteArray) (w : World) (hn : xs.length = n) (hx : StrAt w a xs) (hN : n ≤ 140737488355328) (hcap : n ≤ c) (hlen : (jn xs sep).size ≤ 140737488355328) :
    Calls Try.prog 10 #[.slice a n c, .string sep] w fun e w' => Joined (jn xs sep) w e w' := by
  subst hn
  exact join_any a c xs sep w hx hN hcap hlen

/-- A slice of slices of strings. -/
def RowsAt (w : World) (a : Option Addr) (R : List (List ByteArray)) : Prop :=
  ∀ (i : Nat) (r : List ByteArray), R[i]? = some r → ∃ b o a' c', a = some ⟨b, o, none⟩ ∧ w.cell? ⟨b, o + i, none⟩ = some (.slice a' r.length c') ∧ r.length ≤ c' ∧ StrAt w a' r

theorem RowsAt.below {w w' : World} {a : Option Addr} {R : List (List ByteArray)} (h : RowsAt w a R) (hb : Below w.heap.size w w') : RowsAt w' a R := by
  intro i r hi
  obtain ⟨b, o, a', c', rfl, hc, hl, hs⟩ := h i r hi
  exact ⟨b, o, a', c', rfl, by rw [hb.cell (p := ⟨b, o + i, none⟩) (World.block_lt_of_cell? _ _ hc)]; exact hc, hl, hs.below hb⟩

abbrev comma : ByteArray := ⟨#[44]⟩
abbrev orS : ByteArray := ⟨#[32, 111, 114, 32]⟩
/-- headerNames' answer. -/
def names (R : List (List ByteArray)) : ByteArray := jn (R.map (jn · comma)) orS

/-! ### Join's plain laws -/
theorem inter_cons2 (s x y : List UInt8) (t : List (List UInt8)) : s.intercalate (x :: y :: t) = x ++ s ++ s.intercalate (y :: t) := by
  simp [List.intercalate, List.intersperse]

theorem inter_append (s : List UInt8) : ∀ (a b : List (List UInt8)), a ≠ [] → b ≠ [] → s.intercalate (a ++ b) = s.intercalate a ++ s ++ s.intercalate b := by
  intro a
  induction a with
  | nil => intro b h; exact absurd rfl h
  | cons x t ih =>
    intro b _ hb
    cases t with
    | nil =>
      cases b with
      | nil => exact absurd rfl hb
      | cons y u => rw [List.cons_append, List.nil_append, inter_cons2]; simp [List.intercalate, List.intersperse]
    | cons y u =>
      have := ih b (by simp) hb
      rw [List.cons_append, List.cons_append, inter_cons2, inter_cons2, ← List.cons_append, this]
      simp [List.append_assoc]

def tot (xs : List ByteArray) : Nat := (xs.map (·.size)).sum

theorem inter_len (s : List UInt8) : ∀ (a : List (List UInt8)), (s.intercalate a).length = (a.map (·.length)).sum + s.length * (a.length - 1) := by
  intro a
  induction a with
  | nil => simp [List.intercalate, List.intersperse]
  | cons x t ih =>
    cases t with
    | nil => simp [List.intercalate, List.intersperse]
    | cons y u =>
      rw [inter_cons2, List.length_append, List.length_append, ih]
      simp only [List.map_cons, List.sum_cons, List.length_cons, Nat.add_sub_cancel]
      rw [Nat.mul_add]
      omega

theorem jn_size (xs : List ByteArray) (sep : ByteArray) : (jn xs sep).size = tot xs + sep.size * (xs.length - 1) := by
  have h := inter_len sep.data.toList (xs.map (·.data.toList))
  have e : (jn xs sep).size = (Lib.join (xs.map (·.data.toList)) sep.data.toList).length := rfl
  rw [e]
  show (sep.data.toList.intercalate _).length = _
  rw [h, tot, List.map_map]
  have e2 : ((fun (x : List UInt8) => x.length) ∘ fun (x : ByteArray) => x.data.toList) = (fun (x : ByteArray) => x.size) := by funext x; exact Array.length_toList
  rw [e2, List.length_map]
  congr 1

theorem jn_append {xs ys : List ByteArray} {sep : ByteArray} (h1 : xs ≠ []) (h2 : ys ≠ []) : (jn (xs ++ ys) sep).data.toList = (jn xs sep).data.toList ++ sep.data.toList ++ (jn ys sep).data.toList := by
  simp only [jn, List.map_append]
  exact inter_append _ _ _ (by simpa using h1) (by simpa using h2)

/-! ### Sums over the first i -/
def Short (xs : List ByteArray) (i : Nat) : Prop := ∀ (j : Nat) (x : ByteArray), j < i → xs[j]? = some x → x.size ≤ 1048576
theorem short_zero (xs : List ByteArray) : Short xs 0 := fun j _ h => absurd h (by omega)
theorem short_step {xs : List ByteArray} {i : Nat} {x : ByteArray} (h : Short xs i) (hx : xs[i]? = some x) (k : x.size ≤ 1048576) : Short xs (i + 1) := fun j y hj hy => by
  by_cases e : j = i
  · subst e; rw [hx] at hy; cases hy; exact k
  · exact h j y (by omega) hy

theorem tot_step {xs : List ByteArray} {i : Nat} {x : ByteArray} (hx : xs[i]? = some x) : tot (xs.take (i + 1)) = tot (xs.take i) + x.size := by
  rw [List.take_add_one, hx]
  simp [tot]
theorem tot_all {xs : List ByteArray} {i : Nat} (h : xs.length ≤ i) : tot (xs.take i) = tot xs := by rw [List.take_of_length_le h]
theorem tot_append (xs ys : List ByteArray) : tot (xs ++ ys) = tot xs + tot ys := by simp [tot]
theorem tot_cut (xs : List ByteArray) (k : Nat) : tot xs = tot (xs.take k) + tot (xs.drop k) := by
  rw [← tot_append, List.take_append_drop]
theorem tot_take_le (xs : List ByteArray) (k : Nat) : tot (xs.take k) ≤ tot xs := by have := tot_cut xs k; omega
theorem tot_drop_le (xs : List ByteArray) (k : Nat) : tot (xs.drop k) ≤ tot xs := by have := tot_cut xs k; omega

theorem jn_nil (sep : ByteArray) : jn [] sep = ⟨#[]⟩ := rfl
theorem jn_one (x sep : ByteArray) : jn [x] sep = x := by
  simp only [jn, List.map_cons, List.map_nil, Lib.join_one]
theorem names_one (xs : List ByteArray) : names [xs] = jn xs comma := jn_one _ _

theorem StrAt.take {w : World} {a : Option Addr} {xs : List ByteArray} (h : StrAt w a xs) (k : Nat) : StrAt w a (xs.take k) := fun j x hj => by
  refine h j x ?_
  rw [List.getElem?_take] at hj
  by_cases hk : j < k
  · rw [if_pos hk] at hj; exact hj
  · rw [if_neg hk] at hj; cases hj
theorem StrAt.drop {w : World} {b o : Nat} {xs : List ByteArray} (h : StrAt w (some ⟨b, o, none⟩) xs) (k : Nat) : StrAt w (some ⟨b, o + k, none⟩) (xs.drop k) := fun j x hj => by
  rw [List.getElem?_drop] at hj
  obtain ⟨b', o', e, hc⟩ := h (k + j) x hj
  cases e
  exact ⟨b, o + k, rfl, by rw [Nat.add_assoc]; exact hc⟩

/-- One row, in a slice of one. -/
theorem rowsAt_one {w : World} {a : Option Addr} {n c t : Nat} {xs : List ByteArray} (hx : StrAt w a xs) (hn : xs.length = n) (hc : n ≤ c) : RowsAt (w.alloc (.cells #[.slice a n c] t)) (some ⟨w.heap.size, 0, none⟩) [xs] := by
  intro i r hi
  match i, hi with
  | 0, hi =>
    simp only [List.getElem?_cons_zero, Option.some.injEq] at hi
    subst hi hn
    exact ⟨_, _, a, c, rfl, by simp [go_sem], hc, hx.below ((Below.refl _ _).alloc (Nat.le_refl _) _)⟩
  | i + 1, hi => simp at hi
end Go.Proofs.Qxb6623437a
