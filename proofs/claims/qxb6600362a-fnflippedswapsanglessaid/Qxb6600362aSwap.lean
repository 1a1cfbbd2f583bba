import Derived.Test.Qxb6600362aFlip
import Derived.Laws.IdiomStrings
namespace Go.Proofs.Qxb6600362a
open Go.RowKit
set_option linter.unusedVariables false

theorem conv1 (x : UInt8) (n : Int) (hn : (x.toNat : Int) = n) (w : World) :
    (convert 28 9 (.slice (some ⟨w.heap.size, 0, none⟩) 1 1)).run Try.prog (w.alloc (.cells #[.int .u8 n] 5)) = .ok (.string ⟨#[x]⟩) (w.alloc (.cells #[.int .u8 n] 5)) := by
  subst hn
  refine run_convert_bytes_back (w.alloc (.cells #[.int .u8 x.toNat] 5)) 28 9 5 ⟨w.heap.size, 0, none⟩ 1 [x] Try.underlying28 Try.underlying5 Try.underlying9 fun j hj => ?_
  match j, hj with
  | 0, _ => simp [Addr.add]

theorem conv2 (x y : UInt8) (n m : Int) (hn : (x.toNat : Int) = n) (hm : (y.toNat : Int) = m) (w : World) :
    (convert 28 9 (.slice (some ⟨w.heap.size, 0, none⟩) 2 2)).run Try.prog (w.alloc (.cells #[.int .u8 n, .int .u8 m] 5)) = .ok (.string ⟨#[x, y]⟩) (w.alloc (.cells #[.int .u8 n, .int .u8 m] 5)) := by
  subst hn hm
  refine run_convert_bytes_back (w.alloc (.cells #[.int .u8 x.toNat, .int .u8 y.toNat] 5)) 28 9 5 ⟨w.heap.size, 0, none⟩ 2 [x, y] Try.underlying28 Try.underlying5 Try.underlying9 fun j hj => ?_
  match j, hj with
  | 0, _ => simp [Addr.add]
  | 1, _ => simp [Addr.add]

set_option maxHeartbeats 400000 in
theorem swap_eq (w : World) : Calls Try.prog 13 #[.string ⟨#[61, 61]⟩] w fun e w' => e = .returned (.string ⟨#[61, 61]⟩) ∧ Grown w w' := by
  have hmk : ∀ w, (Instr.makeSlice 28 (.int .i64 2) (.int .i64 2)).run Try.prog w = .ok (.slice (some ⟨w.heap.size, 0, none⟩) 2 2) (w.alloc (.cells #[.int .u8 0, .int .u8 0] 5)) := fun _ => by kernel_rfl
  have ix0 : ∀ w, (Instr.index 9 (.string ⟨#[61, 61]⟩) (.int .i64 0)).run Try.prog w = .ok (.int .u8 61) w := fun _ => by kernel_rfl
  have ix1 : ∀ w, (Instr.index 9 (.string ⟨#[61, 61]⟩) (.int .i64 1)).run Try.prog w = .ok (.int .u8 61) w := fun _ => by kernel_rfl
  have hcv := conv2 61 61 61 61 rfl rfl w
  go_enter Try.func13, Try.ntmps13
  go_wp2
  refine wp_loop_rounds 3 ?_
  rw [rounds_succ]
  go_wp2
  rw [rounds_succ]
  go_wp2
  rw [rounds_succ]
  go_wp2
  go_ret
  exact ⟨rfl, (Grown.refl _).alloc _ _⟩

set_option maxHeartbeats 400000 in
theorem swap_ne (w : World) : Calls Try.prog 13 #[.string ⟨#[33, 61]⟩] w fun e w' => e = .returned (.string ⟨#[33, 61]⟩) ∧ Grown w w' := by
  have hmk : ∀ w, (Instr.makeSlice 28 (.int .i64 2) (.int .i64 2)).run Try.prog w = .ok (.slice (some ⟨w.heap.size, 0, none⟩) 2 2) (w.alloc (.cells #[.int .u8 0, .int .u8 0] 5)) := fun _ => by kernel_rfl
  have ix0 : ∀ w, (Instr.index 9 (.string ⟨#[33, 61]⟩) (.int .i64 0)).run Try.prog w = .ok (.int .u8 33) w := fun _ => by kernel_rfl
  have ix1 : ∀ w, (Instr.index 9 (.string ⟨#[33, 61]⟩) (.int .i64 1)).run Try.prog w = .ok (.int .u8 61) w := fun _ => by kernel_rfl
  have hcv := conv2 33 61 33 61 rfl rfl w
  go_enter Try.func13, Try.ntmps13
  go_wp2
  refine wp_loop_rounds 3 ?_
  rw [rounds_succ]
  go_wp2
  rw [rounds_succ]
  go_wp2
  rw [rounds_succ]
  go_wp2
  go_ret
  exact ⟨rfl, (Grown.refl _).alloc _ _⟩

set_option maxHeartbeats 400000 in
theorem swap_lt (w : World) : Calls Try.prog 13 #[.string ⟨#[60]⟩] w fun e w' => e = .returned (.string ⟨#[62]⟩) ∧ Grown w w' := by
  have hmk : ∀ w, (Instr.makeSlice 28 (.int .i64 1) (.int .i64 1)).run Try.prog w = .ok (.slice (some ⟨w.heap.size, 0, none⟩) 1 1) (w.alloc (.cells #[.int .u8 0] 5)) := fun _ => by kernel_rfl
  have ix0 : ∀ w, (Instr.index 9 (.string ⟨#[60]⟩) (.int .i64 0)).run Try.prog w = .ok (.int .u8 60) w := fun _ => by kernel_rfl
  have hcv := conv1 62 62 rfl w
  go_enter Try.func13, Try.ntmps13
  go_wp2
  refine wp_loop_rounds 2 ?_
  rw [rounds_succ]
  go_wp2
  rw [rounds_succ]
  go_wp2
  go_ret
  exact ⟨rfl, (Grown.refl _).alloc _ _⟩

set_option maxHeartbeats 400000 in
theorem swap_le (w : World) : Calls Try.prog 13 #[.string ⟨#[60, 61]⟩] w fun e w' => e = .returned (.string ⟨#[62, 61]⟩) ∧ Grown w w' := by
  have hmk : ∀ w, (Instr.makeSlice 28 (.int .i64 2) (.int .i64 2)).run Try.prog w = .ok (.slice (some ⟨w.heap.size, 0, none⟩) 2 2) (w.alloc (.cells #[.int .u8 0, .int .u8 0] 5)) := fun _ => by kernel_rfl
  have ix0 : ∀ w, (Instr.index 9 (.string ⟨#[60, 61]⟩) (.int .i64 0)).run Try.prog w = .ok (.int .u8 60) w := fun _ => by kernel_rfl
  have ix1 : ∀ w, (Instr.index 9 (.string ⟨#[60, 61]⟩) (.int .i64 1)).run Try.prog w = .ok (.int .u8 61) w := fun _ => by kernel_rfl
  have hcv := conv2 62 61 62 61 rfl rfl w
  go_enter Try.func13, Try.ntmps13
  go_wp2
  refine wp_loop_rounds 3 ?_
  rw [rounds_succ]
  go_wp2
  rw [rounds_succ]
  go_wp2
  rw [rounds_succ]
  go_wp2
  go_ret
  exact ⟨rfl, (Grown.refl _).alloc _ _⟩

set_option maxHeartbeats 400000 in
theorem swap_gt (w : World) : Calls Try.prog 13 #[.string ⟨#[62]⟩] w fun e w' => e = .returned (.string ⟨#[60]⟩) ∧ Grown w w' := by
  have hmk : ∀ w, (Instr.makeSlice 28 (.int .i64 1) (.int .i64 1)).run Try.prog w = .ok (.slice (some ⟨w.heap.size, 0, none⟩) 1 1) (w.alloc (.cells #[.int .u8 0] 5)) := fun _ => by kernel_rfl
  have ix0 : ∀ w, (Instr.index 9 (.string ⟨#[62]⟩) (.int .i64 0)).run Try.prog w = .ok (.int .u8 62) w := fun _ => by kernel_rfl
  have hcv := conv1 60 60 rfl w
  go_enter Try.func13, Try.ntmps13
  go_wp2
  refine wp_loop_rounds 2 ?_
  rw [rounds_succ]
  go_wp2
  rw [rounds_succ]
  go_wp2
  go_ret
  exact ⟨rfl, (Grown.refl _).alloc _ _⟩

set_option maxHeartbeats 400000 in
theorem swap_ge (w : World) : Calls Try.prog 13 #[.string ⟨#[62, 61]⟩] w fun e w' => e = .returned (.string ⟨#[60, 61]⟩) ∧ Grown w w' := by
  have hmk : ∀ w, (Instr.makeSlice 28 (.int .i64 2) (.int .i64 2)).run Try.prog w = .ok (.slice (some ⟨w.heap.size, 0, none⟩) 2 2) (w.alloc (.cells #[.int .u8 0, .int .u8 0] 5)) := fun _ => by kernel_rfl
  have ix0 : ∀ w, (Instr.index 9 (.string ⟨#[62, 61]⟩) (.int .i64 0)).run Try.prog w = .ok (.int .u8 62) w := fun _ => by kernel_rfl
  have ix1 : ∀ w, (Instr.index 9 (.string ⟨#[62, 61]⟩) (.int .i64 1)).run Try.prog w = .ok (.int .u8 61) w := fun _ => by kernel_rfl
  have hcv := conv2 60 61 60 61 rfl rfl w
  go_enter Try.func13, Try.ntmps13
  go_wp2
  refine wp_loop_rounds 3 ?_
  rw [rounds_succ]
  go_wp2
  rw [rounds_succ]
  go_wp2
  rw [rounds_succ]
  go_wp2
  go_ret
  exact ⟨rfl, (Grown.refl _).alloc _ _⟩

end Go.Proofs.Qxb6600362a
