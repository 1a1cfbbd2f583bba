/- The statement Rows.FnAppendHeaderOrderPreservingSaid, out of the walks of Qxb6001654aLaw. The frame: the guide's skeleton. -/
import Derived.Test.Qxb6001654aLaw
import Derived.WalkKit
import Derived.ProofKit
import Derived.OpenShut
import Derived.ShutString
import Derived.ChangeOld
import Derived.Below
namespace Go.Proofs.Qxb6001654a.fnAppendHeaderOrderPreserving
open Go.ChangeShapes Go.WideShapes Go.ChangeAt Go.RowKit
open Go.ChangeMaps (open_string shut_string)
set_option linter.unusedVariables false      -- a walk need not use every 'w<i>' (that an integer argument fits its kind)

theorem own : ownKnob Try.prog.godebug = none := by kernel_rfl

/-! ### the walk -/
set_option maxHeartbeats 400000 in
theorem out_a (a0 a1 a2 a3 : Int) (w : World) (e1 : (a0 == 128) = false) (e2 : (a0 == 192) = false) :
    Calls Try.prog 5 #[.int .u8 a0, .int .i64 a1, .int .u8 a2, .int .i64 a3] w fun e w' => e = .returned (.bool true) ∧ Below w.heap.size w w' := by
  have n1 : (a0 != 128) = true := by simp only [bne, e1]; rfl
  have n2 : (a0 != 192) = true := by simp only [bne, e2]; rfl
  go_enter Try.func5, Try.ntmps5
  go_wp2
  go_ret
  exact ⟨rfl, Below.refl _ _⟩

set_option maxHeartbeats 400000 in
theorem out_b128 (a1 a2 a3 : Int) (w : World) (e1 : (a2 == 128) = false) (e2 : (a2 == 192) = false) :
    Calls Try.prog 5 #[.int .u8 128, .int .i64 a1, .int .u8 a2, .int .i64 a3] w fun e w' => e = .returned (.bool true) ∧ Below w.heap.size w w' := by
  have n1 : (a2 != 128) = true := by simp only [bne, e1]; rfl
  have n2 : (a2 != 192) = true := by simp only [bne, e2]; rfl
  go_enter Try.func5, Try.ntmps5
  go_wp2
  go_ret
  exact ⟨rfl, Below.refl _ _⟩

set_option maxHeartbeats 400000 in
theorem out_b192 (a1 a2 a3 : Int) (w : World) (e1 : (a2 == 128) = false) (e2 : (a2 == 192) = false) :
    Calls Try.prog 5 #[.int .u8 192, .int .i64 a1, .int .u8 a2, .int .i64 a3] w fun e w' => e = .returned (.bool true) ∧ Below w.heap.size w w' := by
  have n1 : (a2 != 128) = true := by simp only [bne, e1]; rfl
  have n2 : (a2 != 192) = true := by simp only [bne, e2]; rfl
  go_enter Try.func5, Try.ntmps5
  go_wp2
  go_ret
  exact ⟨rfl, Below.refl _ _⟩

set_option maxHeartbeats 400000 in
theorem neg_a128_128 (a1 a3 : Int) (w : World) (h : a1 < 0) :
    Calls Try.prog 5 #[.int .u8 128, .int .i64 a1, .int .u8 128, .int .i64 a3] w fun e w' => e = .returned (.bool true) ∧ Below w.heap.size w w' := by
  go_enter Try.func5, Try.ntmps5
  go_wp2
  go_ret
  exact ⟨rfl, Below.refl _ _⟩

set_option maxHeartbeats 400000 in
theorem neg_b128_128 (a1 a3 : Int) (w : World) (h1 : ¬ a1 < 0) (h : a3 < 0) :
    Calls Try.prog 5 #[.int .u8 128, .int .i64 a1, .int .u8 128, .int .i64 a3] w fun e w' => e = .returned (.bool true) ∧ Below w.heap.size w w' := by
  go_enter Try.func5, Try.ntmps5
  go_wp2
  go_ret
  exact ⟨rfl, Below.refl _ _⟩

set_option maxHeartbeats 400000 in
theorem neg_a128_192 (a1 a3 : Int) (w : World) (h : a1 < 0) :
    Calls Try.prog 5 #[.int .u8 128, .int .i64 a1, .int .u8 192, .int .i64 a3] w fun e w' => e = .returned (.bool true) ∧ Below w.heap.size w w' := by
  go_enter Try.func5, Try.ntmps5
  go_wp2
  go_ret
  exact ⟨rfl, Below.refl _ _⟩

set_option maxHeartbeats 400000 in
theorem neg_b128_192 (a1 a3 : Int) (w : World) (h1 : ¬ a1 < 0) (h : a3 < 0) :
    Calls Try.prog 5 #[.int .u8 128, .int .i64 a1, .int .u8 192, .int .i64 a3] w fun e w' => e = .returned (.bool true) ∧ Below w.heap.size w w' := by
  go_enter Try.func5, Try.ntmps5
  go_wp2
  go_ret
  exact ⟨rfl, Below.refl _ _⟩

set_option maxHeartbeats 400000 in
theorem neg_a192_128 (a1 a3 : Int) (w : World) (h : a1 < 0) :
    Calls Try.prog 5 #[.int .u8 192, .int .i64 a1, .int .u8 128, .int .i64 a3] w fun e w' => e = .returned (.bool true) ∧ Below w.heap.size w w' := by
  go_enter Try.func5, Try.ntmps5
  go_wp2
  go_ret
  exact ⟨rfl, Below.refl _ _⟩

set_option maxHeartbeats 400000 in
theorem neg_b192_128 (a1 a3 : Int) (w : World) (h1 : ¬ a1 < 0) (h : a3 < 0) :
    Calls Try.prog 5 #[.int .u8 192, .int .i64 a1, .int .u8 128, .int .i64 a3] w fun e w' => e = .returned (.bool true) ∧ Below w.heap.size w w' := by
  go_enter Try.func5, Try.ntmps5
  go_wp2
  go_ret
  exact ⟨rfl, Below.refl _ _⟩

set_option maxHeartbeats 400000 in
theorem neg_a192_192 (a1 a3 : Int) (w : World) (h : a1 < 0) :
    Calls Try.prog 5 #[.int .u8 192, .int .i64 a1, .int .u8 192, .int .i64 a3] w fun e w' => e = .returned (.bool true) ∧ Below w.heap.size w w' := by
  go_enter Try.func5, Try.ntmps5
  go_wp2
  go_ret
  exact ⟨rfl, Below.refl _ _⟩

set_option maxHeartbeats 400000 in
theorem neg_b192_192 (a1 a3 : Int) (w : World) (h1 : ¬ a1 < 0) (h : a3 < 0) :
    Calls Try.prog 5 #[.int .u8 192, .int .i64 a1, .int .u8 192, .int .i64 a3] w fun e w' => e = .returned (.bool true) ∧ Below w.heap.size w w' := by
  go_enter Try.func5, Try.ntmps5
  go_wp2
  go_ret
  exact ⟨rfl, Below.refl _ _⟩

theorem walk_of (a1 a3 : Int) (w : World) (b1 : a1 ≤ 9223372036854775807) (b3 : a3 ≤ 9223372036854775807) (a0 a2 : Int) (h0 : a0 = 128 ∨ a0 = 192) (h2 : a2 = 128 ∨ a2 = 192) :
    Calls Try.prog 5 #[.int .u8 a0, .int .i64 a1, .int .u8 a2, .int .i64 a3] w fun e w' => e = .returned (.bool true) ∧ Below w.heap.size w w' := by
  rcases h0 with rfl | rfl <;> rcases h2 with rfl | rfl
  · by_cases n1 : a1 < 0
    · exact neg_a128_128 a1 a3 w n1
    · by_cases n3 : a3 < 0
      · exact neg_b128_128 a1 a3 w n1 n3
      · obtain ⟨sa, rfl⟩ : ∃ sa : Nat, a1 = sa := ⟨a1.toNat, by omega⟩
        obtain ⟨sb, rfl⟩ : ∃ sb : Nat, a3 = sb := ⟨a3.toNat, by omega⟩
        rcases Nat.lt_trichotomy sa sb with h | h | h
        · exact law_lt128 sa sb w (by omega) (by omega) h
        · exact law_eq128 sa sb w (by omega) (by omega) h
        · exact law_gt128 sa sb w (by omega) (by omega) h
  · by_cases n1 : a1 < 0
    · exact neg_a128_192 a1 a3 w n1
    · by_cases n3 : a3 < 0
      · exact neg_b128_192 a1 a3 w n1 n3
      · obtain ⟨sa, rfl⟩ : ∃ sa : Nat, a1 = sa := ⟨a1.toNat, by omega⟩
        obtain ⟨sb, rfl⟩ : ∃ sb : Nat, a3 = sb := ⟨a3.toNat, by omega⟩
        exact law_up sa sb w (by omega) (by omega)
  · by_cases n1 : a1 < 0
    · exact neg_a192_128 a1 a3 w n1
    · by_cases n3 : a3 < 0
      · exact neg_b192_128 a1 a3 w n1 n3
      · obtain ⟨sa, rfl⟩ : ∃ sa : Nat, a1 = sa := ⟨a1.toNat, by omega⟩
        obtain ⟨sb, rfl⟩ : ∃ sb : Nat, a3 = sb := ⟨a3.toNat, by omega⟩
        exact law_down sa sb w (by omega) (by omega)
  · by_cases n1 : a1 < 0
    · exact neg_a192_192 a1 a3 w n1
    · by_cases n3 : a3 < 0
      · exact neg_b192_192 a1 a3 w n1 n3
      · obtain ⟨sa, rfl⟩ : ∃ sa : Nat, a1 = sa := ⟨a1.toNat, by omega⟩
        obtain ⟨sb, rfl⟩ : ∃ sb : Nat, a3 = sb := ⟨a3.toNat, by omega⟩
        rcases Nat.lt_trichotomy sa sb with h | h | h
        · exact law_lt192 sa sb w (by omega) (by omega) h
        · exact law_eq192 sa sb w (by omega) (by omega) h
        · exact law_gt192 sa sb w (by omega) (by omega) h

theorem walk (a0 : Int) (a1 : Int) (a2 : Int) (a3 : Int) (w0 : (Lit.int .u8 a0).wf = true) (w1 : (Lit.int .i64 a1).wf = true) (w2 : (Lit.int .u8 a2).wf = true) (w3 : (Lit.int .i64 a3).wf = true) (w : World) :
    Calls Try.prog 5 #[.int .u8 a0, .int .i64 a1, .int .u8 a2, .int .i64 a3] w fun e w' => e = .returned (.bool true) ∧ Below w.heap.size w w' := by
  have b1 := bounds_i64 w1
  have b3 := bounds_i64 w3
  by_cases h0 : a0 = 128 ∨ a0 = 192
  · by_cases h2 : a2 = 128 ∨ a2 = 192
    · exact walk_of a1 a3 w (by omega) (by omega) a0 a2 h0 h2
    · rcases h0 with rfl | rfl
      · exact out_b128 a1 a2 a3 w (by simp; omega) (by simp; omega)
      · exact out_b192 a1 a2 a3 w (by simp; omega) (by simp; omega)
  · exact out_a a0 a1 a2 a3 w (by simp; omega) (by simp; omega)

/-! ### THE ROW's STEP: WRITTEN OUT: LEAVE IT -/
set_option maxRecDepth 100000 in
theorem lifted (os : Os) (started : os.Started) (H : Type) (enc : TypeId × Value → H) :
    ReturnsInHanded {} Try.checked os 5 .any (Rows.fnAppendHeaderOrderPreservingSpec.pre6 enc Try.prog Try.f5 Rows.fnAppendHeaderOrderPreservingRow.domain false) (Rows.fnAppendHeaderOrderPreservingSpec.post enc Try.prog Try.f5 false true false false) := by
  refine returnsInHanded_of_change (C := Try.checked) own started (by kernel_rfl) Try.func5
    (ChangeSpec.witness6 (enc := enc) (C := Try.checked) false ⟨#[], #[.int .u8 0, .int .i64 0, .int .u8 0, .int .i64 0], []⟩ 8 (by kernel_rfl) (by kernel_rfl) (by kernel_rfl) (by kernel_rfl)) ?_
  intro W base args ds gs before hval0 hW hcnd _
  have hval : ∀ (j : Nat) t v, Try.f5.params[j]? = some t → args[j]? = some v → Value.okWide Try.prog W .any base t v := hval0
  have hW' := hW
  obtain ⟨p, q, hA0, hV, rfl, hfz, hnd⟩ := hW
  have hA : DataW.TrodAll enc Try.prog W 0 (fun _ => true) true Try.f5.params.toList args.toList ds p := hA0
  rw [Try.params5] at hA hval
  obtain ⟨v0, vs0, d0, ds0, p0, q0, hargs, rfl, rfl, h0, r0⟩ := trodAll_cons hA
  obtain ⟨v1, vs1, d1, ds1, p1, q1, rfl, rfl, rfl, h1, r1⟩ := trodAll_cons r0
  obtain ⟨v2, vs2, d2, ds2, p2, q2, rfl, rfl, rfl, h2, r2⟩ := trodAll_cons r1
  obtain ⟨v3, vs3, d3, ds3, p3, q3, rfl, rfl, rfl, h3, r3⟩ := trodAll_cons r2
  obtain ⟨rfl, rfl, rfl⟩ := trodAll_nil r3
  obtain rfl : args = #[v0, v1, v2, v3] := by cases args; simp_all
  obtain ⟨rfl, rfl⟩ := trodVars_none hV
  obtain ⟨a0, rfl, rfl, rfl, w0⟩ := open_int Try.underlying5 (hval 0 5 v0 rfl rfl) h0
  obtain ⟨a1, rfl, rfl, rfl, w1⟩ := open_int Try.underlying3 (hval 1 3 v1 rfl rfl) h1
  obtain ⟨a2, rfl, rfl, rfl, w2⟩ := open_int Try.underlying5 (hval 2 5 v2 rfl rfl) h2
  obtain ⟨a3, rfl, rfl, rfl, w3⟩ := open_int Try.underlying3 (hval 3 3 v3 rfl rfl) h3
  clear hA0 hval0
  refine (walk a0 a1 a2 a3 w0 w1 w2 w3 W).mono fun e W' ⟨he, bel⟩ => ?_
  subst he
  exact ⟨_, rfl, _, _, _, [], _, [], hW', trodAll_mk1 (shut_bool Try.underlying4 _), (trodAll_cons_mk (shut_int Try.underlying5 w0) (trodAll_cons_mk (shut_int Try.underlying3 w1) (trodAll_cons_mk (shut_int Try.underlying5 w2) (trodAll_cons_mk (shut_int Try.underlying3 w3) trodAll_mk0)))), rfl, bel.frame _, fun h => by cases h⟩

theorem over : Rows.fnAppendHeaderOrderPreservingRow.holds Try.pinned (OpenSpec.ofChange Rows.fnAppendHeaderOrderPreservingSpec) :=
  OpenClaim.holds_of_wide 5 Try.f5 rfl rfl rfl rfl rfl rfl rfl ⟨rfl, rfl, rfl, rfl, rfl⟩ rfl rfl rfl rfl rfl (by kernel_rfl) Try.func5 (by kernel_rfl)
    (of_decide_eq_true (by kernel_rfl)) (by unfold Func.isWrapper; first | (rw [if_pos (by decide +kernel)]; kernel_rfl) | (rw [if_neg (by decide +kernel)]; exact ⟨rfl, rfl⟩))
    (fun os started H enc _ => lifted os started H enc)

/-- ████ THE STATEMENT ████ -/
theorem proved : Rows.FnAppendHeaderOrderPreservingSaid :=
  over
#print axioms proved
end Go.Proofs.Qxb6001654a.fnAppendHeaderOrderPreserving
