/- The walks: zzBytes; mayMeet. -/
import Derived.Test.Qxb6623401aWalkA
import Derived.BigRegion
namespace Go.Proofs.Qxb6623401a
open Go.RowKit Go.Deep

/-- The first n of these are of no more than 2^20 bytes. -/
def Short (n : Nat) (L : Nat → ByteArray) : Prop := ∀ j, j < n → (L j).size ≤ 1048576
theorem short_step {i : Nat} {L : Nat → ByteArray} (h : Short i L) (k : (L i).size ≤ 1048576) : Short (i + 1) L := fun j hj => by
  by_cases e : j = i
  · subst e; exact k
  · exact h j (by omega)

structure Says (w : World) (n1 n3 : Nat) (L H : Nat → ByteArray) (e : Ending) (w' : World) : Prop where
  out : ∃ v, e = .returned (.bool v) ∧ w' = w ∧ (v = true → Short n1 L ∧ Short n3 H)

set_option maxHeartbeats 4000000 in
theorem zzBytes_any (a0 a1 a2 a3 a4 a5 : Option Addr) (n0 n1 n2 n3 n4 n5 c0 c1 c2 c3 c4 c5 : Nat) (x y : Int) (q : ByteArray) (qs : Int) (L H : Nat → ByteArray) (w : World) (h1 : RowAt w a1 n1 (strs L)) (h3 : RowAt w a3 n3 (strs H)) :
    Calls Try.prog 4 #[.slice a0 n0 c0, .slice a1 n1 c1, .slice a2 n2 c2, .slice a3 n3 c3, .slice a4 n4 c4, .slice a5 n5 c5, .int .i64 x, .int .i64 y, .string q, .int .i64 qs] w fun e w' => Says w n1 n3 L H e w' := by
  go_enter Try.func4, Try.ntmps4
  by_cases k0 : n0 ≤ 1048576
  · by_cases k1 : n1 ≤ 1048576
    · by_cases k01 : n0 + n1 ≤ 1048576
      · go_wp2
        go_loopw [22, 21] (fun s t wr => ∃ i m : Nat, i ≤ n1 ∧ m ≤ 1048576 ∧ s = .int .i64 i ∧ t = .int .i64 m ∧ Short i L ∧ w = wr) (fun s _ _ => n1 - (intOf s).toNat)
        case atStart => exact ⟨0, n0 + n1, Nat.zero_le _, k01, rfl, by go_num, fun j hj => absurd hj (by omega), rfl⟩
        case round =>
          obtain ⟨i, m, hi, hm, rfl, rfl, hS1, rfl⟩ := hrel
          by_cases hlt : i < n1
          · obtain ⟨b, o, ea, hc⟩ := h1 i hlt
            cases ea
            simp only [strs] at hc
            by_cases kk : (L i).size ≤ 1048576
            · by_cases ks : m + (L i).size ≤ 1048576
              · have S1 := short_step hS1 kk
                clear h1 h3 hS1
                go_wp2
                go_roundw
                case rel => exact ⟨i + 1, m + (L i).size, by omega, by omega, by go_num, by go_num, S1, by simp⟩
                case measure => simp [intOf]; omega
              · clear h1 h3
                go_wp2
                go_ret
                exact ⟨_, rfl, rfl, fun h => by cases h⟩
            · clear h1 h3
              go_wp2
              go_ret
              exact ⟨_, rfl, rfl, fun h => by cases h⟩
          · by_cases k2 : m + n2 ≤ 1048576
            · by_cases k3 : m + n2 + n3 ≤ 1048576
              · go_wp2
                go_loopw [23, 21] (fun s t wr => ∃ i m : Nat, i ≤ n3 ∧ m ≤ 1048576 ∧ s = .int .i64 i ∧ t = .int .i64 m ∧ Short i H ∧ w = wr) (fun s _ _ => n3 - (intOf s).toNat)
                case atStart => exact ⟨0, m + n2 + n3, Nat.zero_le _, k3, rfl, by go_num, fun j hj => absurd hj (by omega), rfl⟩
                case round =>
                  obtain ⟨j, m, hj, hm, rfl, rfl, hS3, rfl⟩ := hrel
                  by_cases hlt3 : j < n3
                  · obtain ⟨b, o, ea, hc⟩ := h3 j hlt3
                    cases ea
                    simp only [strs] at hc
                    by_cases kk : (H j).size ≤ 1048576
                    · by_cases ks : m + (H j).size ≤ 1048576
                      · have S3 := short_step hS3 kk
                        clear h1 h3 hS3 hS1
                        go_wp2
                        go_roundw
                        case rel => exact ⟨j + 1, m + (H j).size, by omega, by omega, by go_num, by go_num, S3, by simp⟩
                        case measure => simp [intOf]; omega
                      · clear h1 h3
                        go_wp2
                        go_ret
                        exact ⟨_, rfl, rfl, fun h => by cases h⟩
                    · clear h1 h3
                      go_wp2
                      go_ret
                      exact ⟨_, rfl, rfl, fun h => by cases h⟩
                  · have e1 : i = n1 := by omega
                    have e3 : j = n3 := by omega
                    rw [e1] at hS1
                    rw [e3] at hS3
                    clear h1 h3 e1 e3
                    go_wp2
                    all_goals (go_ret; exact ⟨_, rfl, rfl, fun _ => ⟨hS1, hS3⟩⟩)
              · clear h1 h3
                go_wp2
                all_goals (go_ret; exact ⟨_, rfl, rfl, fun h => by cases h⟩)
            · clear h1 h3
              go_wp2
              all_goals (go_ret; exact ⟨_, rfl, rfl, fun h => by cases h⟩)
      · clear h1 h3
        go_wp2
        go_ret
        exact ⟨_, rfl, rfl, fun h => by cases h⟩
    · clear h1 h3
      go_wp2
      all_goals (go_ret; exact ⟨_, rfl, rfl, fun h => by cases h⟩)
  · clear h1 h3
    go_wp2
    go_ret
    exact ⟨_, rfl, rfl, fun h => by cases h⟩
end Go.Proofs.Qxb6623401a
