import Derived.Test.Qxb6601228aRow
import Derived.Test.Qxb6601228aSmall
import Derived.Test.Qxb6601228aEq2
namespace Go.Proofs.Qxb6601228a
open Go.RowKit

set_option maxHeartbeats 1000000 in
theorem same_any (s1 s2 b1 b2 o1 o2 n : Nat) (F : Int) (A : Nat → List Value) (w : World) (hn : n ≤ 65536) (hA : Ok16 n A)
    (h1 : ∀ i, i < n → w.rangeAt b1 (o1 + 16 * i) (A i)) (h2 : ∀ i, i < n → w.rangeAt b2 (o2 + 16 * i) (A i)) (hb1 : b1 < w.heap.size) (hb2 : b2 < w.heap.size)
    (c0 : w.cell? ⟨s1, 0, none⟩ = some (.int .i64 F)) (c1 : w.cell? ⟨s1, 1, none⟩ = some (.slice (some ⟨b1, o1, none⟩) n n))
    (d0 : w.cell? ⟨s2, 0, none⟩ = some (.int .i64 F)) (d1 : w.cell? ⟨s2, 1, none⟩ = some (.slice (some ⟨b2, o2, none⟩) n n)) :
    Calls Try.prog 17 #[.pointer (some ⟨s1, 0, none⟩), .pointer (some ⟨s2, 0, none⟩)] w fun e w' => e = .returned (.bool true) ∧ Below w.heap.size w w' := by
  have hs1 : s1 < w.heap.size := World.block_lt_of_cell? w _ c0
  have hs2 : s2 < w.heap.size := World.block_lt_of_cell? w _ d0
  go_enter Try.func17, Try.ntmps17
  go_wp2_with fail
  refine (peppers_any s1 _ _ _ _ c1).mono ?_
  rintro e w' ⟨rfl, rfl⟩
  go_wp2_with fail
  refine (peppers_any s2 _ _ _ _ d1).mono ?_
  rintro e w' ⟨rfl, rfl⟩
  go_wp2_with fail
  go_loopw [7] (fun i wr => ∃ k : Nat, k ≤ n ∧ i = .int .i64 k ∧ Below w.heap.size w wr) (fun i _ => n - (intOf i).toNat)
  case atStart => exact ⟨0, Nat.zero_le _, rfl, Below.refl _ _⟩
  case round =>
    obtain ⟨k, hk, rfl, hbel⟩ := hrel
    have e0 : wr.cell? ⟨s1, 0, none⟩ = some (.int .i64 F) := (hbel.cell (p := ⟨s1, 0, none⟩) hs1).trans c0
    have e1 : wr.cell? ⟨s2, 0, none⟩ = some (.int .i64 F) := (hbel.cell (p := ⟨s2, 0, none⟩) hs2).trans d0
    by_cases hlt : k < n
    · have hl : (A k).length = 16 := (hA k hlt).1
      have hl2 : (A k).toArray.size = 16 := by simpa using hl
      have HC : wr.rangeAt b1 (o1 + k * 16) (A k) := by rw [Nat.mul_comm k 16]; exact rangeAt_below hbel (h1 k hlt) hb1
      have HD : wr.rangeAt b2 (o2 + k * 16) (A k) := by rw [Nat.mul_comm k 16]; exact rangeAt_below hbel (h2 k hlt) hb2
      have heq := equal16 (A k) hl (hA k hlt).2
      have HD2 := World.rangeAt_alloc HD (.cells (A k).toArray 27)
      have L1 := World.rangeAt_alloc (range_new1 wr (A k) 27) (.cells (A k).toArray 27)
      have L2 := range_new2 wr (A k) (A k) 27 27
      have hsA : (wr.alloc (.cells (A k).toArray 27)).heap.size = wr.heap.size + 1 := by simp
      have HL : Hid ((A k).length = 16) := hl
      have H1 : Hid ((wr.alloc (.cells (A k).toArray 27)).heap.size = wr.heap.size + 1) := hsA
      have HB := (hA k hlt).2
      clear hl hl2 hsA
      go_wp2_with ((with_reducible refine isWpList ?_); first
        | (refine ld28 (.tmp 27) ?_ ?_ b1 (o1 + k * 16) (A k) ?_ HL ?_ ?_; rfl; rfl; exact HC; rfl)
        | (refine st27 (.tmp 8) (.tmp 28) ?_ ?_ wr ?_ wr.heap.size ?_ (A k) HL HB ?_ ?_ ?_; rfl; rfl; rfl; rfl; rfl; rfl)
        | (refine ld28 (.tmp 31) ?_ ?_ b2 (o2 + k * 16) (A k) ?_ HL ?_ ?_; rfl; rfl; exact HD2; rfl)
        | (refine st27 (.tmp 9) (.tmp 32) ?_ ?_ (wr.alloc (.cells (A k).toArray 27)) ?_ (wr.heap.size + 1) ?_ (A k) HL HB ?_ ?_ ?_; rfl; rfl; rfl; exact H1; rfl; rfl)
        | (refine ld27 (.tmp 8) ?_ ?_ wr.heap.size 0 (A k) ?_ HL ?_ ?_; rfl; rfl; exact L1; rfl)
        | (refine ld27 (.tmp 9) ?_ ?_ (wr.heap.size + 1) 0 (A k) ?_ HL ?_ ?_; rfl; rfl; exact L2; rfl))
      go_roundw
      case rel => exact ⟨k + 1, by omega, by go_num, (hbel.alloc hbel.size _).alloc (by have := hbel.size; simp; omega) _⟩
      case measure => simp [intOf]; omega
    · go_wp2_with fail
      refine (first_any s1 _ _ e0).mono ?_
      rintro e w' ⟨rfl, rfl⟩
      go_wp2_with fail
      refine (first_any s2 _ _ e1).mono ?_
      rintro e w' ⟨rfl, rfl⟩
      go_wp2
      go_ret
      exact ⟨by simp, hbel⟩

end Go.Proofs.Qxb6601228a
