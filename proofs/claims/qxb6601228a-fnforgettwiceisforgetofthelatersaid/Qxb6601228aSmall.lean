import Derived.Test.Qxb6601228aRows
import Derived.WalkKit
import Derived.WalkSpells
import Derived.WalkLawsBesides
namespace Go.Proofs.Qxb6601228a
open Go.RowKit

set_option maxHeartbeats 400000 in
theorem peppers_any (bs : Nat) (v : Option Addr) (n c : Nat) (w : World) (h : w.cell? ⟨bs, 1, none⟩ = some (.slice v n c)) :
    Calls Try.prog 13 #[.pointer (some ⟨bs, 0, none⟩)] w fun e w' => e = .returned (.slice v n c) ∧ w = w' := by
  go_enter Try.func13, Try.ntmps13
  go_wp2
  go_ret
  exact ⟨rfl, rfl⟩

set_option maxHeartbeats 400000 in
theorem first_any (bs : Nat) (f : Int) (w : World) (h : w.cell? ⟨bs, 0, none⟩ = some (.int .i64 f)) :
    Calls Try.prog 18 #[.pointer (some ⟨bs, 0, none⟩)] w fun e w' => e = .returned (.int .i64 f) ∧ w = w' := by
  go_enter Try.func18, Try.ntmps18
  go_wp2
  go_ret
  exact ⟨rfl, rfl⟩

set_option maxRecDepth 100000 in
set_option maxHeartbeats 400000 in
theorem bytes_any (x1 x2 x3 : Int) (a : Option Addr) (n c : Nat) (w : World) :
    Calls Try.prog 16 #[.int .i64 x1, .slice a n c, .int .i64 x2, .int .i64 x3] w fun e w' => (e = .returned (.bool true) ∨ e = .returned (.bool false)) ∧ w = w' := by
  by_cases h1 : (n : Int) ≤ 1048576
  · go_enter Try.func16, Try.ntmps16
    go_wp2
    go_loop [9, 10] (fun t i => ∃ (k : Nat) (z : Int), k ≤ n ∧ i = .int .i64 k ∧ t = .int .i64 z ∧ 0 ≤ z ∧ z ≤ 1048576) (fun _ i => n - (intOf i).toNat)
    case atStart => exact ⟨0, n, Nat.zero_le _, rfl, rfl, by omega, by omega⟩
    case round =>
      obtain ⟨k, z, hk, rfl, rfl, hz, hb⟩ := hrel
      by_cases hlt : k < n
      · by_cases h2 : z + 16 ≤ 1048576
        · go_wp2
          go_round
          case rel => exact ⟨k + 1, z + 16, by omega, by go_num, rfl, by omega, by omega⟩
          case measure => simp [intOf]; omega
        · go_wp2
          go_ret
          exact ⟨by simp, rfl⟩
      · go_wp2
        go_ret
        exact ⟨by simp, rfl⟩
  · go_enter Try.func16, Try.ntmps16
    go_wp2
    go_ret
    exact ⟨by simp, rfl⟩

end Go.Proofs.Qxb6601228a
