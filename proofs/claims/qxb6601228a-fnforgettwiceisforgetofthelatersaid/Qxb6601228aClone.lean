import Derived.Test.Qxb6601228aRow
import Derived.WalkSpells
import Derived.WalkLawsBesides
namespace Go.Proofs.Qxb6601228a
open Go.RowKit

set_option maxHeartbeats 400000 in
theorem clone_nil (w : World) :
    Calls Try.prog 8 #[.slice none 0 0] w fun e w' => e = .returned (.slice none 0 0) ∧ w' = w := by
  have hnil := fun w => Lib.run_eql_slice_nil (P := Try.prog) w 22 27 none 0 0 0 0 Try.underlying22
  go_enter Try.func8, Try.ntmps8
  go_wp2
  go_ret
  exact ⟨rfl, rfl⟩

set_option maxHeartbeats 400000 in
theorem clone_any (b off n c : Nat) (A : Nat → List Value) (w : World) (hn : n ≤ 65536) (hA : Ok16 n A) (hsrc : ∀ i, i < n → w.rangeAt b (off + 16 * i) (A i)) (hb : b < w.heap.size) :
    Calls Try.prog 8 #[.slice (some ⟨b, off, none⟩) n c] w fun e w' => e = .returned (.slice (some ⟨w.heap.size, 0, none⟩) n n) ∧
      w'.there w.heap.size 0 (16 * n) ∧ (∀ i, i < n → w'.rangeAt w.heap.size (16 * i) (A i)) ∧ w'.heap.size = w.heap.size + 1 ∧ Below w.heap.size w w' := by
  have hnil := fun w => Lib.run_eql_slice_nil (P := Try.prog) w 22 27 (some ⟨b, off, none⟩) n c 0 0 Try.underlying22
  have hmk := run_make16 22 27 Try.underlying22 info27 n (by omega)
  go_enter Try.func8, Try.ntmps8
  go_wp2
  go_loopw [4] (fun i wr => ∃ k : Nat, k ≤ n ∧ i = .int .i64 k ∧ wr.there w.heap.size 0 (16 * n) ∧ (∀ i, i < k → wr.rangeAt w.heap.size (16 * i) (A i)) ∧ wr.heap.size = w.heap.size + 1 ∧ Below w.heap.size w wr)
    (fun i _ => n - (intOf i).toNat)
  case atStart => exact ⟨0, Nat.zero_le _, rfl, there_made16 _ _ _, fun i hi => absurd hi (Nat.not_lt_zero _), by simp, (Below.refl _ _).alloc (Nat.le_refl _) _⟩
  case round =>
    obtain ⟨k, hk, rfl, hth, hdone, hsz, hbel⟩ := hrel
    by_cases hlt : k < n
    · have hl : (A k).length = 16 := (hA k hlt).1
      have hl2 : (A k).toArray.size = 16 := by simpa using hl
      have HC : wr.rangeAt b (off + k * 16) (A k) := by rw [Nat.mul_comm k 16]; exact rangeAt_below hbel (hsrc k hlt) hb
      have HT : wr.there w.heap.size (k * 16) (A k).toArray.size := there_sub hth (by omega) (by omega)
      have S := copy_step hA hlt hth hdone
      have S2 := below_setCells w.heap.size (Nat.le_refl _) (A k) (k * 16) wr hbel
      have S3 := (size_setCells w.heap.size (A k) (k * 16) wr).trans hsz
      have HH : Hid ((A k).length = 16 ∧ (A k).toArray.size = 16 ∧ wr.heap.size = w.heap.size + 1 ∧ (wr.setCells w.heap.size (k * 16) (A k)).heap.size = w.heap.size + 1) := ⟨hl, hl2, hsz, S3⟩
      clear hl hl2 hsz S3
      go_wp2_with (first
        | (refine wpList_load_mid rfl 27 _ rfl b (off + k * 16) rfl (A k) (.array 16 5) HC und27 rfl (by rw [HH.out.1]; exact size27) ?_)
        | (refine wpList_store_mid rfl 27 _ _ rfl w.heap.size (k * 16) (A k).toArray rfl rfl HT (by rw [HH.out.2.1]; exact size27) (hA.one hlt) ?_))
      go_roundw
      case rel => exact ⟨k + 1, by omega, by go_num, S.1, S.2, HH.out.2.2.2, S2⟩
      case measure => simp [intOf]; omega
    · go_wp2
      go_ret
      exact ⟨rfl, hth, fun i hi => hdone i (by omega), hsz, hbel⟩

set_option maxHeartbeats 400000 in
theorem clone_zero (x : Addr) (c : Nat) (w : World) :
    Calls Try.prog 8 #[.slice (some x) 0 c] w fun e w' => e = .returned (.slice (some ⟨w.heap.size, 0, none⟩) 0 0) ∧ w' = w.alloc (.cells (made16 0) 27) := by
  have hnil := fun w => Lib.run_eql_slice_nil (P := Try.prog) w 22 27 (some x) 0 c 0 0 Try.underlying22
  have hmk : ∀ w, (Instr.makeSlice 22 (.int .i64 0) (.int .i64 0)).run Try.prog w = .ok (.slice (some ⟨w.heap.size, 0, none⟩) 0 0) (w.alloc (.cells (made16 0) 27)) := run_make16 22 27 Try.underlying22 info27 0 (by omega)
  go_enter Try.func8, Try.ntmps8
  go_wp2
  refine wp_loop_rounds 1 ?_
  rw [rounds_succ]
  go_wp2
  go_ret
  exact ⟨rfl, rfl⟩

set_option maxHeartbeats 400000 in
theorem new_zero (F : Int) (a : Option Addr) (c : Nat) (w : World) :
    Calls Try.prog 9 #[.int .i64 F, .slice a 0 c] w fun e w' => e = .returned (.pointer (some ⟨w.heap.size + 1, 0, none⟩)) ∧
      w' = (w.alloc (.cells (made16 0) 28)).alloc (.cells #[.int .i64 F, .slice (some ⟨w.heap.size, 0, none⟩) 0 0] 38) := by
  have hmk : ∀ w, (Instr.makeSlice 32 (.int .i64 0) (.int .i64 0)).run Try.prog w = .ok (.slice (some ⟨w.heap.size, 0, none⟩) 0 0) (w.alloc (.cells (made16 0) 28)) := run_make16 32 28 Try.underlying32 info28 0 (by omega)
  go_enter Try.func9, Try.ntmps9
  go_wp2
  refine wp_loop_rounds 1 ?_
  rw [rounds_succ]
  go_wp2
  go_ret
  exact ⟨rfl, rfl⟩

set_option maxHeartbeats 400000 in
theorem new_pos (F : Int) (b off n c : Nat) (A : Nat → List Value) (w : World) (hn : n ≤ 65536) (hA : Ok16 n A) (hsrc : ∀ i, i < n → w.rangeAt b (off + 16 * i) (A i)) (hb : b < w.heap.size) :
    Calls Try.prog 9 #[.int .i64 F, .slice (some ⟨b, off, none⟩) n c] w fun e w' => e = .returned (.pointer (some ⟨w.heap.size + 1, 0, none⟩)) ∧
      ∃ w1, w1.there w.heap.size 0 (16 * n) ∧ (∀ i, i < n → w1.rangeAt w.heap.size (16 * i) (A i)) ∧ w1.heap.size = w.heap.size + 1 ∧ Below w.heap.size w w1 ∧
        w' = w1.alloc (.cells #[.int .i64 F, .slice (some ⟨w.heap.size, 0, none⟩) n n] 38) := by
  have hmk := run_make16 32 28 Try.underlying32 info28 n (by omega)
  go_enter Try.func9, Try.ntmps9
  go_wp2
  go_loopw [6] (fun i wr => ∃ k : Nat, k ≤ n ∧ i = .int .i64 k ∧ wr.there w.heap.size 0 (16 * n) ∧ (∀ i, i < k → wr.rangeAt w.heap.size (16 * i) (A i)) ∧ wr.heap.size = w.heap.size + 1 ∧ Below w.heap.size w wr)
    (fun i _ => n - (intOf i).toNat)
  case atStart => exact ⟨0, Nat.zero_le _, rfl, there_made16 _ _ _, fun i hi => absurd hi (Nat.not_lt_zero _), by simp, (Below.refl _ _).alloc (Nat.le_refl _) _⟩
  case round =>
    obtain ⟨k, hk, rfl, hth, hdone, hsz, hbel⟩ := hrel
    by_cases hlt : k < n
    · have hl : (A k).length = 16 := (hA k hlt).1
      have hl2 : (A k).toArray.size = 16 := by simpa using hl
      have HC : wr.rangeAt b (off + k * 16) (A k) := by rw [Nat.mul_comm k 16]; exact rangeAt_below hbel (hsrc k hlt) hb
      have HT : wr.there w.heap.size (k * 16) (A k).toArray.size := there_sub hth (by omega) (by omega)
      have S := copy_step hA hlt hth hdone
      have S2 := below_setCells w.heap.size (Nat.le_refl _) (A k) (k * 16) wr hbel
      have S3 := (size_setCells w.heap.size (A k) (k * 16) wr).trans hsz
      have HH : Hid ((A k).length = 16 ∧ (A k).toArray.size = 16 ∧ wr.heap.size = w.heap.size + 1 ∧ (wr.setCells w.heap.size (k * 16) (A k)).heap.size = w.heap.size + 1) := ⟨hl, hl2, hsz, S3⟩
      clear hl hl2 hsz S3
      go_wp2_with (first
        | (refine wpList_load_mid rfl 27 _ rfl b (off + k * 16) rfl (A k) (.array 16 5) HC und27 rfl (by rw [HH.out.1]; exact size27) ?_)
        | (refine wpList_store_mid rfl 28 _ _ rfl w.heap.size (k * 16) (A k).toArray rfl rfl HT (by rw [HH.out.2.1]; exact size28) (hA.one hlt) ?_))
      go_roundw
      case rel => exact ⟨k + 1, by omega, by go_num, S.1, S.2, HH.out.2.2.2, S2⟩
      case measure => simp [intOf]; omega
    · go_wp2
      go_ret
      exact ⟨rfl, wr, hth, fun i hi => hdone i (by omega), hsz, hbel, rfl⟩

end Go.Proofs.Qxb6601228a
