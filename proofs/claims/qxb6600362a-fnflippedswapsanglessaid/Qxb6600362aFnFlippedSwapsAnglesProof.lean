/- The statement Rows.FnFlippedSwapsAnglesSaid. The frame: the guide's skeleton. -/
import Derived.Test.Qxb6600362aSwap
import Derived.WalkKit
import Derived.ProofKit
import Derived.OpenShut
import Derived.ShutString
namespace Go.Proofs.Qxb6600362a.fnFlippedSwapsAngles
open Go.ChangeShapes Go.WideShapes Go.ChangeAt Go.RowKit
open Go.ChangeMaps (open_string shut_string)
set_option linter.unusedVariables false      -- a walk need not use every 'w<i>' (that an integer argument fits its kind)

theorem own : ownKnob Try.prog.godebug = none := by kernel_rfl

/-! ### the walk -/
theorem flip_eq : flip ⟨#[61, 61]⟩ = ⟨#[61, 61]⟩ := by unfold flip; rw [tl2]; rfl
theorem flip_ne : flip ⟨#[33, 61]⟩ = ⟨#[33, 61]⟩ := by unfold flip; rw [tl2]; rfl

set_option maxHeartbeats 400000 in
theorem bytes_any (o : ByteArray) (w : World) (h : o.size ≤ 9223372036854775807) : Calls Try.prog 11 #[.string o] w fun e w' => (e = .returned (.bool true) ∨ e = .returned (.bool false)) ∧ w = w' := by
  by_cases h1 : (o.size : Int) ≤ 1048576
  · go_enter Try.func11, Try.ntmps11
    go_wp2
    go_ret
    exact ⟨by simp, rfl⟩
  · go_enter Try.func11, Try.ntmps11
    go_wp2
    go_ret
    exact ⟨by simp, rfl⟩

set_option maxHeartbeats 400000 in
theorem isop_eq (w : World) : Calls Try.prog 12 #[.string ⟨#[61, 61]⟩] w fun e w' => e = .returned (.bool true) ∧ w = w' := by
  have g0 : ((⟨#[61, 61]⟩ : ByteArray).toList == [61, 61]) = true := by rw [tl2]; rfl
  go_enter Try.func12, Try.ntmps12
  go_wp2
  go_ret
  exact ⟨rfl, rfl⟩

set_option maxHeartbeats 400000 in
theorem law_eq (w : World) : Calls Try.prog 5 #[.string ⟨#[61, 61]⟩] w fun e w' => e = .returned (.bool true) ∧ Grown w w' := by
  have hsz : (⟨#[61, 61]⟩ : ByteArray).size = 2 := rfl
  go_enter Try.func5, Try.ntmps5
  go_wp2_with fail
  refine (bytes_any _ _ (by rw [hsz]; omega)).mono ?_
  rintro e w' ⟨hr, rfl⟩
  rcases hr with rfl | rfl
  · go_wp2_with fail
    refine (isop_eq _).mono ?_
    rintro e w' ⟨rfl, rfl⟩
    go_wp2_with fail
    refine (swap_eq _).mono ?_
    rintro e w1 ⟨rfl, hg⟩
    go_wp2_with fail
    refine (zz_any _ _).mono ?_
    rintro e w' ⟨rfl, rfl⟩
    rw [flip_eq]
    go_wp2
    go_ret
    exact ⟨rfl, hg⟩
  · go_wp2
    go_ret
    exact ⟨rfl, Grown.refl _⟩

set_option maxHeartbeats 400000 in
theorem isop_ne (w : World) : Calls Try.prog 12 #[.string ⟨#[33, 61]⟩] w fun e w' => e = .returned (.bool true) ∧ w = w' := by
  have g0 : ((⟨#[33, 61]⟩ : ByteArray).toList == [61, 61]) = false := by rw [tl2]; rfl
  have g1 : ((⟨#[33, 61]⟩ : ByteArray).toList == [33, 61]) = true := by rw [tl2]; rfl
  go_enter Try.func12, Try.ntmps12
  go_wp2
  go_ret
  exact ⟨rfl, rfl⟩

set_option maxHeartbeats 400000 in
theorem law_ne (w : World) : Calls Try.prog 5 #[.string ⟨#[33, 61]⟩] w fun e w' => e = .returned (.bool true) ∧ Grown w w' := by
  have hsz : (⟨#[33, 61]⟩ : ByteArray).size = 2 := rfl
  go_enter Try.func5, Try.ntmps5
  go_wp2_with fail
  refine (bytes_any _ _ (by rw [hsz]; omega)).mono ?_
  rintro e w' ⟨hr, rfl⟩
  rcases hr with rfl | rfl
  · go_wp2_with fail
    refine (isop_ne _).mono ?_
    rintro e w' ⟨rfl, rfl⟩
    go_wp2_with fail
    refine (swap_ne _).mono ?_
    rintro e w1 ⟨rfl, hg⟩
    go_wp2_with fail
    refine (zz_any _ _).mono ?_
    rintro e w' ⟨rfl, rfl⟩
    rw [flip_ne]
    go_wp2
    go_ret
    exact ⟨rfl, hg⟩
  · go_wp2
    go_ret
    exact ⟨rfl, Grown.refl _⟩

set_option maxHeartbeats 400000 in
theorem isop_lt (w : World) : Calls Try.prog 12 #[.string ⟨#[60]⟩] w fun e w' => e = .returned (.bool true) ∧ w = w' := by
  have g0 : ((⟨#[60]⟩ : ByteArray).toList == [61, 61]) = false := by rw [tl1]; rfl
  have g1 : ((⟨#[60]⟩ : ByteArray).toList == [33, 61]) = false := by rw [tl1]; rfl
  have g2 : ((⟨#[60]⟩ : ByteArray).toList == [60]) = true := by rw [tl1]; rfl
  go_enter Try.func12, Try.ntmps12
  go_wp2
  go_ret
  exact ⟨rfl, rfl⟩

set_option maxHeartbeats 400000 in
theorem law_lt (w : World) : Calls Try.prog 5 #[.string ⟨#[60]⟩] w fun e w' => e = .returned (.bool true) ∧ Grown w w' := by
  have hsz : (⟨#[60]⟩ : ByteArray).size = 1 := rfl
  go_enter Try.func5, Try.ntmps5
  go_wp2_with fail
  refine (bytes_any _ _ (by rw [hsz]; omega)).mono ?_
  rintro e w' ⟨hr, rfl⟩
  rcases hr with rfl | rfl
  · go_wp2_with fail
    refine (isop_lt _).mono ?_
    rintro e w' ⟨rfl, rfl⟩
    go_wp2_with fail
    refine (swap_lt _).mono ?_
    rintro e w1 ⟨rfl, hg⟩
    go_wp2_with fail
    refine (zz_any _ _).mono ?_
    rintro e w' ⟨rfl, rfl⟩
    rw [flip_lt]
    go_wp2
    go_ret
    exact ⟨rfl, hg⟩
  · go_wp2
    go_ret
    exact ⟨rfl, Grown.refl _⟩

set_option maxHeartbeats 400000 in
theorem isop_le (w : World) : Calls Try.prog 12 #[.string ⟨#[60, 61]⟩] w fun e w' => e = .returned (.bool true) ∧ w = w' := by
  have g0 : ((⟨#[60, 61]⟩ : ByteArray).toList == [61, 61]) = false := by rw [tl2]; rfl
  have g1 : ((⟨#[60, 61]⟩ : ByteArray).toList == [33, 61]) = false := by rw [tl2]; rfl
  have g2 : ((⟨#[60, 61]⟩ : ByteArray).toList == [60]) = false := by rw [tl2]; rfl
  have g3 : ((⟨#[60, 61]⟩ : ByteArray).toList == [60, 61]) = true := by rw [tl2]; rfl
  go_enter Try.func12, Try.ntmps12
  go_wp2
  go_ret
  exact ⟨rfl, rfl⟩

set_option maxHeartbeats 400000 in
theorem law_le (w : World) : Calls Try.prog 5 #[.string ⟨#[60, 61]⟩] w fun e w' => e = .returned (.bool true) ∧ Grown w w' := by
  have hsz : (⟨#[60, 61]⟩ : ByteArray).size = 2 := rfl
  go_enter Try.func5, Try.ntmps5
  go_wp2_with fail
  refine (bytes_any _ _ (by rw [hsz]; omega)).mono ?_
  rintro e w' ⟨hr, rfl⟩
  rcases hr with rfl | rfl
  · go_wp2_with fail
    refine (isop_le _).mono ?_
    rintro e w' ⟨rfl, rfl⟩
    go_wp2_with fail
    refine (swap_le _).mono ?_
    rintro e w1 ⟨rfl, hg⟩
    go_wp2_with fail
    refine (zz_any _ _).mono ?_
    rintro e w' ⟨rfl, rfl⟩
    rw [flip_le]
    go_wp2
    go_ret
    exact ⟨rfl, hg⟩
  · go_wp2
    go_ret
    exact ⟨rfl, Grown.refl _⟩

set_option maxHeartbeats 400000 in
theorem isop_gt (w : World) : Calls Try.prog 12 #[.string ⟨#[62]⟩] w fun e w' => e = .returned (.bool true) ∧ w = w' := by
  have g0 : ((⟨#[62]⟩ : ByteArray).toList == [61, 61]) = false := by rw [tl1]; rfl
  have g1 : ((⟨#[62]⟩ : ByteArray).toList == [33, 61]) = false := by rw [tl1]; rfl
  have g2 : ((⟨#[62]⟩ : ByteArray).toList == [60]) = false := by rw [tl1]; rfl
  have g3 : ((⟨#[62]⟩ : ByteArray).toList == [60, 61]) = false := by rw [tl1]; rfl
  have g4 : ((⟨#[62]⟩ : ByteArray).toList == [62]) = true := by rw [tl1]; rfl
  go_enter Try.func12, Try.ntmps12
  go_wp2
  go_ret
  exact ⟨rfl, rfl⟩

set_option maxHeartbeats 400000 in
theorem law_gt (w : World) : Calls Try.prog 5 #[.string ⟨#[62]⟩] w fun e w' => e = .returned (.bool true) ∧ Grown w w' := by
  have hsz : (⟨#[62]⟩ : ByteArray).size = 1 := rfl
  go_enter Try.func5, Try.ntmps5
  go_wp2_with fail
  refine (bytes_any _ _ (by rw [hsz]; omega)).mono ?_
  rintro e w' ⟨hr, rfl⟩
  rcases hr with rfl | rfl
  · go_wp2_with fail
    refine (isop_gt _).mono ?_
    rintro e w' ⟨rfl, rfl⟩
    go_wp2_with fail
    refine (swap_gt _).mono ?_
    rintro e w1 ⟨rfl, hg⟩
    go_wp2_with fail
    refine (zz_any _ _).mono ?_
    rintro e w' ⟨rfl, rfl⟩
    rw [flip_gt]
    go_wp2
    go_ret
    exact ⟨rfl, hg⟩
  · go_wp2
    go_ret
    exact ⟨rfl, Grown.refl _⟩

set_option maxHeartbeats 400000 in
theorem isop_ge (w : World) : Calls Try.prog 12 #[.string ⟨#[62, 61]⟩] w fun e w' => e = .returned (.bool true) ∧ w = w' := by
  have g0 : ((⟨#[62, 61]⟩ : ByteArray).toList == [61, 61]) = false := by rw [tl2]; rfl
  have g1 : ((⟨#[62, 61]⟩ : ByteArray).toList == [33, 61]) = false := by rw [tl2]; rfl
  have g2 : ((⟨#[62, 61]⟩ : ByteArray).toList == [60]) = false := by rw [tl2]; rfl
  have g3 : ((⟨#[62, 61]⟩ : ByteArray).toList == [60, 61]) = false := by rw [tl2]; rfl
  have g4 : ((⟨#[62, 61]⟩ : ByteArray).toList == [62]) = false := by rw [tl2]; rfl
  have g5 : ((⟨#[62, 61]⟩ : ByteArray).toList == [62, 61]) = true := by rw [tl2]; rfl
  go_enter Try.func12, Try.ntmps12
  go_wp2
  go_ret
  exact ⟨rfl, rfl⟩

set_option maxHeartbeats 400000 in
theorem law_ge (w : World) : Calls Try.prog 5 #[.string ⟨#[62, 61]⟩] w fun e w' => e = .returned (.bool true) ∧ Grown w w' := by
  have hsz : (⟨#[62, 61]⟩ : ByteArray).size = 2 := rfl
  go_enter Try.func5, Try.ntmps5
  go_wp2_with fail
  refine (bytes_any _ _ (by rw [hsz]; omega)).mono ?_
  rintro e w' ⟨hr, rfl⟩
  rcases hr with rfl | rfl
  · go_wp2_with fail
    refine (isop_ge _).mono ?_
    rintro e w' ⟨rfl, rfl⟩
    go_wp2_with fail
    refine (swap_ge _).mono ?_
    rintro e w1 ⟨rfl, hg⟩
    go_wp2_with fail
    refine (zz_any _ _).mono ?_
    rintro e w' ⟨rfl, rfl⟩
    rw [flip_ge]
    go_wp2
    go_ret
    exact ⟨rfl, hg⟩
  · go_wp2
    go_ret
    exact ⟨rfl, Grown.refl _⟩

set_option maxHeartbeats 400000 in
theorem isop_no (o : ByteArray) (w : World) (g0 : (o.toList == [61, 61]) = false) (g1 : (o.toList == [33, 61]) = false) (g2 : (o.toList == [60]) = false) (g3 : (o.toList == [60, 61]) = false) (g4 : (o.toList == [62]) = false) (g5 : (o.toList == [62, 61]) = false) : Calls Try.prog 12 #[.string o] w fun e w' => e = .returned (.bool false) ∧ w = w' := by
  go_enter Try.func12, Try.ntmps12
  go_wp2
  go_ret
  exact ⟨rfl, rfl⟩

set_option maxHeartbeats 400000 in
theorem law_no (o : ByteArray) (w : World) (h : o.size ≤ 9223372036854775807) (g0 : (o.toList == [61, 61]) = false) (g1 : (o.toList == [33, 61]) = false) (g2 : (o.toList == [60]) = false) (g3 : (o.toList == [60, 61]) = false) (g4 : (o.toList == [62]) = false) (g5 : (o.toList == [62, 61]) = false) : Calls Try.prog 5 #[.string o] w fun e w' => e = .returned (.bool true) ∧ Grown w w' := by
  have hf : Hid (flip o = o) := by
    show flip o = o
    unfold flip
    rw [if_neg (by simp [g2]), if_neg (by simp [g3]), if_neg (by simp [g4]), if_neg (by simp [g5])]
  have ho := fun w => isop_no o w g0 g1 g2 g3 g4 g5
  clear g0 g1 g2 g3 g4 g5
  by_cases h1 : (o.size : Int) ≤ 1048576
  · go_enter Try.func5, Try.ntmps5
    go_wp2_with fail
    refine (bytes_any o _ h).mono ?_
    rintro e w' ⟨hr, rfl⟩
    rcases hr with rfl | rfl
    · go_wp2_with fail
      refine (ho _).mono ?_
      rintro e w' ⟨rfl, rfl⟩
      go_wp2_with fail
      refine (zz_any o _).mono ?_
      rintro e w' ⟨rfl, rfl⟩
      rw [hf.out]
      go_wp2
      go_ret
      exact ⟨rfl, Grown.refl _⟩
    · go_wp2
      go_ret
      exact ⟨rfl, Grown.refl _⟩
  · go_enter Try.func5, Try.ntmps5
    go_wp2_with fail
    refine (bytes_any o _ h).mono ?_
    rintro e w' ⟨hr, rfl⟩
    rcases hr with rfl | rfl
    all_goals
      go_wp2
      go_ret
      exact ⟨rfl, Grown.refl _⟩

theorem walk (a0 : ByteArray) (w0 : a0.size ≤ maxLen) (w : World) :
    Calls Try.prog 5 #[.string a0] w fun e w' => e = .returned (.bool true) ∧ Grown w w' := by
  by_cases h0 : (a0.toList == [61, 61]) = true
  · rw [eq2 h0]
    exact law_eq w
  · by_cases h1 : (a0.toList == [33, 61]) = true
    · rw [eq2 h1]
      exact law_ne w
    · by_cases h2 : (a0.toList == [60]) = true
      · rw [eq1 h2]
        exact law_lt w
      · by_cases h3 : (a0.toList == [60, 61]) = true
        · rw [eq2 h3]
          exact law_le w
        · by_cases h4 : (a0.toList == [62]) = true
          · rw [eq1 h4]
            exact law_gt w
          · by_cases h5 : (a0.toList == [62, 61]) = true
            · rw [eq2 h5]
              exact law_ge w
            · exact law_no a0 w (by unfold maxLen at w0; omega) (by simpa using h0) (by simpa using h1) (by simpa using h2) (by simpa using h3) (by simpa using h4) (by simpa using h5)

/-! ### THE ROW's STEP: WRITTEN OUT: LEAVE IT -/
set_option maxRecDepth 100000 in
theorem lifted (os : Os) (started : os.Started) (H : Type) (enc : TypeId × Value → H) :
    ReturnsInHanded {} Try.checked os 5 .any (Rows.fnFlippedSwapsAnglesSpec.pre6 enc Try.prog Try.f5 Rows.fnFlippedSwapsAnglesRow.domain false) (Rows.fnFlippedSwapsAnglesSpec.post enc Try.prog Try.f5 false true false false) := by
  refine returnsInHanded_of_change (C := Try.checked) own started (by kernel_rfl) Try.func5
    (ChangeSpec.witness6 (enc := enc) (C := Try.checked) false ⟨#[], #[.string ByteArray.empty], []⟩ 8 (by kernel_rfl) (by kernel_rfl) (by kernel_rfl) (by kernel_rfl)) ?_
  intro W base args ds gs before hval0 hW hcnd _
  have hval : ∀ (j : Nat) t v, Try.f5.params[j]? = some t → args[j]? = some v → Value.okWide Try.prog W .any base t v := hval0
  have hW' := hW
  obtain ⟨p, q, hA0, hV, rfl, hfz, hnd⟩ := hW
  have hA : DataW.TrodAll enc Try.prog W 0 (fun _ => true) true Try.f5.params.toList args.toList ds p := hA0
  rw [Try.params5] at hA hval
  obtain ⟨v0, vs0, d0, ds0, p0, q0, hargs, rfl, rfl, h0, r0⟩ := trodAll_cons hA
  obtain ⟨rfl, rfl, rfl⟩ := trodAll_nil r0
  obtain rfl : args = #[v0] := by cases args; simp_all
  obtain ⟨rfl, rfl⟩ := trodVars_none hV
  obtain ⟨a0, rfl, rfl, rfl, w0⟩ := open_string Try.underlying9 (hval 0 9 v0 rfl rfl) h0
  clear hA0 hval0
  simp only [List.append_nil] at hW'
  refine (walk a0 w0 W).mono fun e W' ⟨he, hg⟩ => ?_
  subst he
  exact ⟨_, rfl, post_of_same (pa := []) (pv := []) hW' (fun _ _ _ => (trodAll_cons_mk (shut_bool Try.underlying4 _) trodAll_mk0)) (fun sp _ => (trodAll_cons_mk (shut_string Try.underlying9 w0) trodAll_mk0)) (fun _ _ => rfl) rfl
    (hg.frame _) hg.2.1 (ok_one (by kernel_rfl) rfl (okWide_bool_mk Try.underlying4 _))⟩

theorem over : Rows.fnFlippedSwapsAnglesRow.holds Try.pinned (OpenSpec.ofChange Rows.fnFlippedSwapsAnglesSpec) :=
  OpenClaim.holds_of_wide 5 Try.f5 rfl rfl rfl rfl rfl rfl rfl ⟨rfl, rfl, rfl, rfl, rfl⟩ rfl rfl rfl rfl rfl (by kernel_rfl) Try.func5 (by kernel_rfl)
    (of_decide_eq_true (by kernel_rfl)) (by unfold Func.isWrapper; first | (rw [if_pos (by decide +kernel)]; kernel_rfl) | (rw [if_neg (by decide +kernel)]; exact ⟨rfl, rfl⟩))
    (fun os started H enc _ => lifted os started H enc)

/-- ████ THE STATEMENT ████ -/
theorem proved : Rows.FnFlippedSwapsAnglesSaid :=
  over
#print axioms proved
end Go.Proofs.Qxb6600362a.fnFlippedSwapsAngles
