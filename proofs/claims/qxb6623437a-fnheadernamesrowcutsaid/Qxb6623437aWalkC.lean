/- The walks: zzBytes of the row cut, zzHeaderNamesLen; sums over rows. -/
import Derived.Test.Qxb6623437aLawA
namespace Go.Proofs.Qxb6623437a
open Go.RowKit Go.Deep

/-! ### Sums over rows -/
def sumF (f : List ByteArray → Nat) (R : List (List ByteArray)) : Nat := (R.map f).sum
theorem sumF_step {f : List ByteArray → Nat} {R : List (List ByteArray)} {i : Nat} {r : List ByteArray} (hr : R[i]? = some r) : sumF f (R.take (i + 1)) = sumF f (R.take i) + f r := by
  rw [List.take_add_one, hr]
  simp [sumF]
theorem sumF_append (f : List ByteArray → Nat) (A B : List (List ByteArray)) : sumF f (A ++ B) = sumF f A + sumF f B := by simp [sumF]
theorem sumF_cut (f : List ByteArray → Nat) (R : List (List ByteArray)) (k : Nat) : sumF f R = sumF f (R.take k) + sumF f (R.drop k) := by
  rw [← sumF_append, List.take_append_drop]
theorem sumF_all {f : List ByteArray → Nat} {R : List (List ByteArray)} {i : Nat} (h : R.length ≤ i) : sumF f (R.take i) = sumF f R := by rw [List.take_of_length_le h]
theorem sumF_mem (f : List ByteArray → Nat) {R : List (List ByteArray)} {r : List ByteArray} (h : r ∈ R) : f r ≤ sumF f R := by
  induction R with
  | nil => simp at h
  | cons x t ih =>
    simp only [sumF, List.map_cons, List.sum_cons]
    rcases List.mem_cons.1 h with rfl | h
    · omega
    · have := ih h
      simp only [sumF] at this
      omega
theorem sumF_mono {f g : List ByteArray → Nat} (h : ∀ r, f r ≤ g r) (R : List (List ByteArray)) : sumF f R ≤ sumF g R := by
  induction R with
  | nil => simp [sumF]
  | cons x t ih =>
    simp only [sumF, List.map_cons, List.sum_cons] at ih ⊢
    have := h x
    omega

/-- A row's length in the text. -/
def rl (r : List ByteArray) : Nat := tot r + (r.length - 1)
/-- A row's share of the guard's total. -/
def wt (r : List ByteArray) : Nat := 24 + (16 * r.length + tot r)
theorem rl_le (r : List ByteArray) : rl r ≤ wt r := by simp only [rl, wt]; omega

theorem jn_rl (r : List ByteArray) : (jn r comma).size = rl r := by rw [jn_size]; show tot r + 1 * (r.length - 1) = tot r + (r.length - 1); omega

theorem names_size (R : List (List ByteArray)) : (names R).size = sumF rl R + 4 * (R.length - 1) := by
  unfold names
  rw [jn_size, List.length_map]
  have e : tot (R.map (jn · comma)) = sumF rl R := by
    simp only [tot, sumF, List.map_map]
    congr 1
    apply List.map_congr_left
    intro r _
    exact jn_rl r
  rw [e]
  rfl

theorem fits_of {R : List (List ByteArray)} (h1 : R.length ≤ 65536) (h2 : sumF wt R ≤ 1048576) : Fits R := by
  refine ⟨by omega, fun r hr => ?_, ?_⟩
  · have := sumF_mem wt hr
    have hl := rl_le r
    rw [jn_rl]
    refine ⟨?_, by omega⟩
    simp only [wt] at this
    omega
  · have := sumF_mono rl_le R
    rw [names_size]
    omega

theorem RowsAt.take {w : World} {a : Option Addr} {R : List (List ByteArray)} (h : RowsAt w a R) (k : Nat) : RowsAt w a (R.take k) := fun j x hj => by
  refine h j x ?_
  rw [List.getElem?_take] at hj
  by_cases hk : j < k
  · rw [if_pos hk] at hj; exact hj
  · rw [if_neg hk] at hj; cases hj
theorem RowsAt.drop {w : World} {b o : Nat} {R : List (List ByteArray)} (h : RowsAt w (some ⟨b, o, none⟩) R) (k : Nat) : RowsAt w (some ⟨b, o + k, none⟩) (R.drop k) := fun j x hj => by
  rw [List.getElem?_drop] at hj
  obtain ⟨b', o', a', c', e, hc, h1, h2⟩ := h (k + j) x hj
  cases e
  exact ⟨b, o + k, a', c', rfl, by rw [Nat.add_assoc]; exact hc, h1, h2⟩

/-! ### zzBytes -/
def ShR (R : List (List ByteArray)) (i : Nat) : Prop := ∀ (k : Nat) (r : List ByteArray), k < i → R[k]? = some r → r.length ≤ 1048576 ∧ Short r r.length
theorem shR_zero (R : List (List ByteArray)) : ShR R 0 := fun j _ h => absurd h (by omega)
theorem shR_step {R : List (List ByteArray)} {i : Nat} {r : List ByteArray} (h : ShR R i) (hr : R[i]? = some r) (k1 : r.length ≤ 1048576) (k2 : Short r r.length) : ShR R (i + 1) := fun j y hj hy => by
  by_cases e : j = i
  · subst e; rw [hr] at hy; cases hy; exact ⟨k1, k2⟩
  · exact h j y (by omega) hy

structure SaysR (R : List (List ByteArray)) (w : World) (e : Ending) (w' : World) : Prop where
  out : ∃ v, e = .returned (.bool v) ∧ w' = w ∧ (v = true → ShR R R.length)

set_option maxHeartbeats 4000000 in
theorem zzBytes5 (a : Option Addr) (n c : Nat) (k : Int) (R : List (List ByteArray)) (w : World) (hn : R.length = n) (h1 : RowsAt w a R) :
    Calls Try.prog 5 #[.slice a n c, .int .i64 k] w fun e w' => SaysR R w e w' := by
  have HX : Hid (RowsAt w a R) := h1
  clear h1
  go_enter Try.func5, Try.ntmps5
  by_cases k0 : n ≤ 1048576
  · go_wp2
    go_loopw [6, 5] (fun s t wr => ∃ i m : Nat, i ≤ n ∧ m ≤ 1048576 ∧ s = .int .i64 i ∧ t = .int .i64 m ∧ ShR R i ∧ w = wr) (fun s _ _ => n - (intOf s).toNat)
    case atStart => exact ⟨0, n, Nat.zero_le _, k0, rfl, by go_num, shR_zero R, rfl⟩
    case round =>
      obtain ⟨i, m, hi, hm, rfl, rfl, hS, rfl⟩ := hrel
      have HS : Hid (ShR R i) := hS
      clear hS
      by_cases hlt : i < n
      · obtain ⟨r, hr⟩ := get_of_lt hn hlt
        obtain ⟨b, o, a', c', ea, hc, hcap, hs⟩ := HX.out i r hr
        have HR : Hid (StrAt w a' r) := hs
        have Hr : Hid (R[i]? = some r) := hr
        cases ea
        clear hs HX hr hn
        by_cases kk : r.length ≤ 1048576
        · by_cases ks : m + r.length ≤ 1048576
          · go_wp2
            go_loopw [7, 5] (fun s t wr => ∃ j m : Nat, j ≤ r.length ∧ m ≤ 1048576 ∧ s = .int .i64 j ∧ t = .int .i64 m ∧ Short r j ∧ w = wr) (fun s _ _ => r.length - (intOf s).toNat)
            case atStart => exact ⟨0, m + r.length, Nat.zero_le _, ks, rfl, by go_num, short_zero r, rfl⟩
            case round =>
              obtain ⟨j, m2, hj, hm2, rfl, rfl, hSj, rfl⟩ := hrel
              have HSj : Hid (Short r j) := hSj
              clear hSj
              by_cases hlt2 : j < r.length
              · obtain ⟨x, hx⟩ := get_of_lt (n := r.length) rfl hlt2
                obtain ⟨b2, o2, ea, hc2⟩ := HR.out j x hx
                have Hx : Hid (r[j]? = some x) := hx
                cases ea
                clear hx HR
                by_cases kx : x.size ≤ 1048576
                · by_cases kt : m2 + x.size ≤ 1048576
                  · go_wp2
                    go_roundw
                    case rel => exact ⟨j + 1, m2 + x.size, by omega, by omega, by go_num, by go_num, short_step HSj.out Hx.out kx, by simp⟩
                    case measure => simp [intOf]; omega
                  · go_wp2
                    go_ret
                    exact ⟨_, rfl, rfl, fun h => by cases h⟩
                · go_wp2
                  go_ret
                  exact ⟨_, rfl, rfl, fun h => by cases h⟩
              · have ej : j = r.length := by omega
                have HSr : Hid (Short r r.length) := by rw [ej] at HSj; exact HSj
                clear HSj HR ej
                go_wp2
                go_roundw
                case rel => exact ⟨i + 1, m2, by omega, by omega, by go_num, by go_num, shR_step HS.out Hr.out kk HSr.out, by simp⟩
                case measure => simp [intOf]; omega
          · go_wp2
            go_ret
            exact ⟨_, rfl, rfl, fun h => by cases h⟩
        · go_wp2
          go_ret
          exact ⟨_, rfl, rfl, fun h => by cases h⟩
      · have e1 : i = R.length := by omega
        have HS2 : Hid (ShR R R.length) := by rw [e1] at HS; exact HS
        clear HS e1 HX
        go_wp2
        go_ret
        exact ⟨_, rfl, rfl, fun _ => HS2.out⟩
  · go_wp2
    go_ret
    exact ⟨_, rfl, rfl, fun h => by cases h⟩

/-! ### zzHeaderNamesLen -/
structure LenIs (m : Nat) (w : World) (e : Ending) (w' : World) : Prop where
  out : e = .returned (.int .i64 m) ∧ w' = w

set_option maxHeartbeats 4000000 in
theorem len_any (a : Option Addr) (n c : Nat) (R : List (List ByteArray)) (w : World) (hn : R.length = n) (h1 : RowsAt w a R) (hn1 : n ≤ 65536) (hb : sumF wt R ≤ 1048576) :
    Calls Try.prog 7 #[.slice a n c] w fun e w' => LenIs (sumF rl R + 4 * (n - 1)) w e w' := by
  have HX : Hid (RowsAt w a R) := h1
  have hL : sumF rl R ≤ 1048576 := by have := sumF_mono rl_le R; omega
  have HB : Hid (sumF wt R ≤ 1048576) := hb
  clear h1 hb
  go_enter Try.func7, Try.ntmps7
  go_wp2
  go_loopw [4, 3] (fun s t wr => ∃ i : Nat, i ≤ n ∧ s = .int .i64 i ∧ t = .int .i64 ((sumF rl (R.take i) : Nat) : Int) ∧ w = wr) (fun s _ _ => n - (intOf s).toNat)
  case atStart => exact ⟨0, Nat.zero_le _, rfl, by simp [sumF], rfl⟩
  case round =>
    obtain ⟨i, hi, rfl, rfl, rfl⟩ := hrel
    by_cases hlt : i < n
    · obtain ⟨r, hr⟩ := get_of_lt hn hlt
      obtain ⟨b, o, a', c', ea, hc, hcap, hs⟩ := HX.out i r hr
      have HR : Hid (StrAt w a' r) := hs
      have hst := sumF_step (f := rl) hr
      have hct := sumF_cut rl R (i + 1)
      have hrl : r.length ≤ 1048576 := by
        have := sumF_mem wt (List.mem_of_getElem? hr)
        have h2 := HB.out
        simp only [wt] at this
        omega
      cases ea
      clear hs HX hr hn HB
      generalize sumF rl (R.take i) = S at *
      have hT : S + (tot r + (r.length - 1)) ≤ 1048576 := by simp only [rl] at hst; omega
      have HE : Hid (sumF rl (R.take (i + 1)) = S + (tot r + (r.length - 1))) := hst
      clear hst hct
      go_wp2
      go_loopw [6, 3] (fun s t wr => ∃ j : Nat, j ≤ r.length ∧ s = .int .i64 j ∧ t = .int .i64 ((S + tot (r.take j) : Nat) : Int) ∧ w = wr) (fun s _ _ => r.length - (intOf s).toNat)
      case atStart => exact ⟨0, Nat.zero_le _, rfl, by simp [tot], rfl⟩
      case round =>
        obtain ⟨j, hj, rfl, rfl, rfl⟩ := hrel
        by_cases hlt2 : j < r.length
        · obtain ⟨x, hx⟩ := get_of_lt (n := r.length) rfl hlt2
          obtain ⟨b2, o2, ea, hc2⟩ := HR.out j x hx
          have hst := tot_step hx
          have hle := tot_take_le r (j + 1)
          cases ea
          clear HR hx
          generalize tot (r.take j) = m at *
          go_wp2
          go_roundw
          case rel => exact ⟨j + 1, by omega, by go_num, by rw [hst]; go_num, by simp⟩
          case measure => simp [intOf]; omega
        · have ej : tot (r.take j) = tot r := tot_all (by omega)
          rw [ej]
          clear ej HR
          generalize tot r = T at *
          by_cases h2 : 1 < r.length
          · go_wp2
            go_roundw
            case rel => exact ⟨i + 1, by omega, by go_num, by rw [HE.out]; go_num, by simp⟩
            case measure => simp [intOf]; omega
          · go_wp2
            go_roundw
            case rel => exact ⟨i + 1, by omega, by go_num, by rw [HE.out]; go_num, by simp⟩
            case measure => simp [intOf]; omega
    · have ei : sumF rl (R.take i) = sumF rl R := sumF_all (by omega)
      rw [ei]
      clear ei HX HB hn
      obtain ⟨S, hSe⟩ : ∃ S, sumF rl R = S := ⟨_, rfl⟩
      rw [hSe]
      rw [hSe] at hL
      have HSe : Hid (sumF rl R = S) := hSe
      clear hSe
      by_cases h2 : 1 < n
      · go_wp2
        go_ret
        exact ⟨congrArg (fun z => Ending.returned (.int .i64 z)) (by have := HSe.out; omega), rfl⟩
      · go_wp2
        go_ret
        exact ⟨congrArg (fun z => Ending.returned (.int .i64 z)) (by have := HSe.out; omega), rfl⟩
end Go.Proofs.Qxb6623437a
