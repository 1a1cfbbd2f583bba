import Derived.Test.Qxb6001654aRows
import Derived.Test.Qxb6001654aPlain
import Derived.WalkKit
import Derived.WalkSpells
import Derived.WalkLawsBesides
namespace Go.Proofs.Qxb6001654a
open Go.RowKit Plain

/-- the loop's state: q is what is left of s behind k + 1 shifts -/
def Left (s k q : Nat) : Prop := k ≤ 7 ∧ 256 ^ k ≤ s ∧ q = s / 256 ^ (k + 1) ∧ s < 9223372036854775808

theorem left_start {s : Nat} (hs : 1 ≤ s) (hs2 : s < 9223372036854775808) : Left s 0 (s / 256) := ⟨by omega, by simpa using hs, by simp, hs2⟩

theorem left_next {s k q : Nat} (h : Left s k q) (hq : 0 < q) : Left s (k + 1) (q / 256) := by
  obtain ⟨h1, h2, h3, h4⟩ := h
  have hp : 0 < 256 ^ (k + 1) := Nat.pow_pos (by omega)
  have h5 : 256 ^ (k + 1) ≤ s := by
    rw [h3] at hq
    have := (Nat.div_pos_iff (a := s) (b := 256 ^ (k + 1))).1 hq
    omega
  refine ⟨?_, h5, ?_, h4⟩
  · rcases Nat.lt_or_ge k 7 with h | h
    · omega
    · obtain rfl : k = 7 := by omega
      have e : (256 : Nat) ^ (7 + 1) = 18446744073709551616 := by decide
      omega
  · rw [h3, Nat.div_div_eq_div_mul, ← Nat.pow_succ]

theorem left_end {s k q : Nat} (h : Left s k q) (hq : ¬ 0 < q) : Takes (k + 1) s := by
  obtain ⟨h1, h2, h3, h4⟩ := h
  have hp : 0 < 256 ^ (k + 1) := Nat.pow_pos (by omega)
  refine ⟨by omega, by omega, by simpa using h2, ?_⟩
  have : s / 256 ^ (k + 1) = 0 := by omega
  rcases Nat.div_eq_zero_iff.1 this with h | h
  · omega
  · exact h

theorem left_le {s k q : Nat} (h : Left s k q) : q ≤ s := by
  rw [h.2.2.1]; exact Nat.div_le_self _ _

set_option maxHeartbeats 400000 in
theorem len_any (s : Nat) (w : World) (hs : 1 ≤ s) (hs2 : s < 9223372036854775808) :
    Calls Try.prog 15 #[.int .i64 s] w fun e w' => ∃ n : Nat, e = .returned (.int .i64 n) ∧ Takes n s ∧ w = w' := by
  have h0 := left_start hs hs2
  go_enter Try.func15, Try.ntmps15
  go_wp2
  go_loop [0, 3] (fun x n => ∃ k q : Nat, x = .int .i64 q ∧ n = .int .i64 ((k : Int) + 1) ∧ Left s k q) (fun x _ => (intOf x).toNat)
  case atStart => exact ⟨0, s / 256, by simp, rfl, h0⟩
  case round =>
    obtain ⟨k, q, rfl, rfl, hl⟩ := hrel
    have hle := left_le hl
    have hk := hl.1
    by_cases hq : 0 < q
    · have hn := left_next hl hq
      go_wp2
      go_round
      case rel => exact ⟨k + 1, q / 256, by simp, by go_num, hn⟩
      case measure => simp [intOf]; omega
    · have hn := left_end hl hq
      go_wp2
      go_ret
      exact ⟨k + 1, by simp, hn, rfl⟩
end Go.Proofs.Qxb6001654a
