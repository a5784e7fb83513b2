/- The walk: zzBytes of the cell cut. -/
import Derived.Test.Qxb6623437aWalkA
namespace Go.Proofs.Qxb6623437a
open Go.RowKit Go.Deep

structure Says (xs : List ByteArray) (w : World) (e : Ending) (w' : World) : Prop where
  out : ∃ v, e = .returned (.bool v) ∧ w' = w ∧ (v = true → Short xs xs.length)

theorem get_of_lt {α : Type} {xs : List α} {i n : Nat} (hn : xs.length = n) (h : i < n) : ∃ x, xs[i]? = some x := ⟨_, List.getElem?_eq_getElem (by omega)⟩

set_option maxHeartbeats 4000000 in
theorem zzBytes8 (a : Option Addr) (n c : Nat) (k : Int) (xs : List ByteArray) (w : World) (hn : xs.length = n) (h1 : StrAt w a xs) :
    Calls Try.prog 8 #[.slice a n c, .int .i64 k] w fun e w' => Says xs w e w' := by
  go_enter Try.func8, Try.ntmps8
  by_cases k0 : n ≤ 1048576
  · go_wp2
    go_loopw [6, 5] (fun s t wr => ∃ i m : Nat, i ≤ n ∧ m ≤ 1048576 ∧ s = .int .i64 i ∧ t = .int .i64 m ∧ Short xs i ∧ w = wr) (fun s _ _ => n - (intOf s).toNat)
    case atStart => exact ⟨0, n, Nat.zero_le _, k0, rfl, by go_num, short_zero xs, rfl⟩
    case round =>
      obtain ⟨i, m, hi, hm, rfl, rfl, hS, rfl⟩ := hrel
      by_cases hlt : i < n
      · obtain ⟨x, hx⟩ := get_of_lt hn hlt
        obtain ⟨b, o, ea, hc⟩ := h1 i x hx
        cases ea
        by_cases kk : x.size ≤ 1048576
        · by_cases ks : m + x.size ≤ 1048576
          · have S1 := short_step hS hx kk
            clear h1 hS hx hn
            go_wp2
            go_roundw
            case rel => exact ⟨i + 1, m + x.size, by omega, by omega, by go_num, by go_num, S1, by simp⟩
            case measure => simp [intOf]; omega
          · clear h1 hS hx hn
            go_wp2
            go_ret
            exact ⟨_, rfl, rfl, fun h => by cases h⟩
        · clear h1 hS hx hn
          go_wp2
          go_ret
          exact ⟨_, rfl, rfl, fun h => by cases h⟩
      · have e1 : i = xs.length := by omega
        rw [e1] at hS
        clear h1 e1
        go_wp2
        go_ret
        exact ⟨_, rfl, rfl, fun _ => hS⟩
  · clear h1
    go_wp2
    go_ret
    exact ⟨_, rfl, rfl, fun h => by cases h⟩
end Go.Proofs.Qxb6623437a
