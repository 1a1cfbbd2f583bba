/- The statement Rows.FnStringEndReadsNothingPastEndSaid. The frame: the guide's skeleton. -/
import Derived.Test.Qxb6601240aZz
import Derived.WalkKit
import Derived.ProofKit
import Derived.OpenShut
import Derived.ShutString
import Derived.ChangeOld
import Derived.Below
namespace Go.Proofs.Qxb6601240a.fnStringEndReadsNothingPastEnd
open Go.ChangeShapes Go.WideShapes Go.ChangeAt Go.RowKit
open Go.ChangeMaps (open_string shut_string)
set_option linter.unusedVariables false      -- a walk need not use every 'w<i>' (that an integer argument fits its kind)

theorem own : ownKnob Try.prog.godebug = none := by kernel_rfl

/-! ### the walk -/
open Plain
theorem size_cut (s : ByteArray) (k : Nat) (h : k ≤ s.size) : (s.extract 0 k).size = k := by
  rw [← size_list, Lib.extract_data, List.drop_zero, Nat.sub_zero, List.length_take, size_list]; omega
theorem bt_cut (s : ByteArray) (k x : Nat) (h : x < k) : Bt (s.extract 0 k) x = Bt s x := by
  unfold Bt
  rw [Lib.extract_data, List.drop_zero, Nat.sub_zero, List.getD_eq_getElem?_getD, List.getD_eq_getElem?_getD, List.getElem?_take_of_lt h]

set_option maxHeartbeats 400000 in
theorem bytes_any (o : ByteArray) (x y : Int) (w : World) (h : o.size ≤ 9223372036854775807) : Calls Try.prog 13 #[.string o, .int .i64 x, .int .i64 y] w fun e w' => (e = .returned (.bool true) ∨ e = .returned (.bool false)) ∧ w = w' := by
  by_cases h1 : (o.size : Int) ≤ 1048576
  · go_enter Try.func13, Try.ntmps13
    go_wp2
    go_ret
    exact ⟨by simp, rfl⟩
  · go_enter Try.func13, Try.ntmps13
    go_wp2
    go_ret
    exact ⟨by simp, rfl⟩

set_option maxHeartbeats 400000 in
theorem law_far (s : ByteArray) (i k : Int) (w : World) (h : s.size ≤ 9223372036854775807) (h1 : ¬ (s.size : Int) ≤ 1048576) :
    Calls Try.prog 4 #[.string s, .int .i64 i, .int .i64 k] w fun e w' => e = .returned (.bool true) ∧ Below w.heap.size w w' := by
  go_enter Try.func4, Try.ntmps4
  go_wp2_with fail
  refine (bytes_any s _ _ _ h).mono ?_
  rintro e w' ⟨hr, rfl⟩
  rcases hr with rfl | rfl
  all_goals
    go_wp2
    go_ret
    exact ⟨rfl, Below.refl _ _⟩

set_option maxHeartbeats 400000 in
theorem law_no (s : ByteArray) (i k : Int) (w : World) (h1 : (s.size : Int) ≤ 1048576) (hno : ∀ n : Nat, i = n → n < s.size → ¬ (Bt s n = 34 ∨ Bt s n = 39)) :
    Calls Try.prog 4 #[.string s, .int .i64 i, .int .i64 k] w fun e w' => e = .returned (.bool true) ∧ Below w.heap.size w w' := by
  have ho := opens_no s i hno
  clear hno
  go_enter Try.func4, Try.ntmps4
  go_wp2_with fail
  refine (bytes_any s _ _ _ (by omega)).mono ?_
  rintro e w' ⟨hr, rfl⟩
  rcases hr with rfl | rfl
  · go_wp2_with fail
    refine (ho _).mono ?_
    rintro e w' ⟨rfl, rfl⟩
    go_wp2
    go_ret
    exact ⟨rfl, Below.refl _ _⟩
  · go_wp2
    go_ret
    exact ⟨rfl, Below.refl _ _⟩

set_option maxHeartbeats 1000000 in
theorem law_out (s : ByteArray) (i : Nat) (k : Int) (E Ln : Nat) (w : World) (hi : i < s.size) (h1 : (s.size : Int) ≤ 1048576) (hq : Bt s i = 34 ∨ Bt s i = 39) (hE : Hid (strEnd (Bt s) s.size i = (E, Ln)))
    (hE1 : i < E) (hE2 : E ≤ s.size) (hk : k < E ∨ (s.size : Int) < k) :
    Calls Try.prog 4 #[.string s, .int .i64 i, .int .i64 k] w fun e w' => e = .returned (.bool true) ∧ Below w.heap.size w w' := by
  have ho := opens_yes s i hi hq
  have hz := zz_any s i hi (by omega) hq E Ln hE
  clear hq
  by_cases hkE : k < (E : Int)
  · clear hk
    go_enter Try.func4, Try.ntmps4
    go_wp2_with fail
    refine (bytes_any s _ _ _ (by omega)).mono ?_
    rintro e w' ⟨hr, rfl⟩
    rcases hr with rfl | rfl
    · go_wp2_with fail
      refine (ho _).mono ?_
      rintro e w' ⟨rfl, rfl⟩
      go_wp2_with fail
      refine (hz _).mono ?_
      rintro e w1 ⟨rfl, hb⟩
      go_wp2
      go_ret
      exact ⟨rfl, hb⟩
    · go_wp2
      go_ret
      exact ⟨rfl, Below.refl _ _⟩
  · have hkn : (s.size : Int) < k := by omega
    clear hk
    go_enter Try.func4, Try.ntmps4
    go_wp2_with fail
    refine (bytes_any s _ _ _ (by omega)).mono ?_
    rintro e w' ⟨hr, rfl⟩
    rcases hr with rfl | rfl
    · go_wp2_with fail
      refine (ho _).mono ?_
      rintro e w' ⟨rfl, rfl⟩
      go_wp2_with fail
      refine (hz _).mono ?_
      rintro e w1 ⟨rfl, hb⟩
      go_wp2
      go_ret
      exact ⟨rfl, hb⟩
    · go_wp2
      go_ret
      exact ⟨rfl, Below.refl _ _⟩

set_option maxHeartbeats 1000000 in
theorem law_in (s : ByteArray) (i k : Nat) (E Ln : Nat) (w : World) (hi : i < s.size) (h1 : (s.size : Int) ≤ 1048576) (hq : Bt s i = 34 ∨ Bt s i = 39) (hE : Hid (strEnd (Bt s) s.size i = (E, Ln)))
    (hE1 : i < E) (hE2 : E ≤ s.size) (hk1 : E ≤ k) (hk2 : k ≤ s.size) :
    Calls Try.prog 4 #[.string s, .int .i64 i, .int .i64 k] w fun e w' => e = .returned (.bool true) ∧ Below w.heap.size w w' := by
  have ho := opens_yes s i hi hq
  have hz := zz_any s i hi (by omega) hq E Ln hE
  have sz := size_cut s k hk2
  have hz2 := zz_any (s.extract 0 k) i (by omega) (by omega) (by rw [bt_cut s k i (by omega)]; exact hq) E Ln (by
    show strEnd (Bt (s.extract 0 k)) (s.extract 0 k).size i = (E, Ln)
    rw [sz, strEnd_cut hi hk2 (fun x hx => bt_cut s k x hx) (by rw [hE.out]; exact hk1)]
    exact hE.out)
  clear hq sz
  go_enter Try.func4, Try.ntmps4
  go_wp2_with fail
  refine (bytes_any s _ _ _ (by omega)).mono ?_
  rintro e w' ⟨hr, rfl⟩
  rcases hr with rfl | rfl
  · go_wp2_with fail
    refine (ho _).mono ?_
    rintro e w' ⟨rfl, rfl⟩
    go_wp2_with fail
    refine (hz _).mono ?_
    rintro e w1 ⟨rfl, hb⟩
    go_wp2_with fail
    refine (hz2 _).mono ?_
    rintro e w2 ⟨rfl, hb2⟩
    go_wp2
    go_ret
    exact ⟨rfl, hb.trans (hb2.mono hb.size)⟩
  · go_wp2
    go_ret
    exact ⟨rfl, Below.refl _ _⟩

theorem walk (a0 : ByteArray) (a1 : Int) (a2 : Int) (w0 : a0.size ≤ maxLen) (w : World) :
    Calls Try.prog 4 #[.string a0, .int .i64 a1, .int .i64 a2] w fun e w' => e = .returned (.bool true) ∧ Below w.heap.size w w' := by
  unfold maxLen at w0
  by_cases h1 : (a0.size : Int) ≤ 1048576
  · by_cases hno : ∀ n : Nat, a1 = n → n < a0.size → ¬ (Bt a0 n = 34 ∨ Bt a0 n = 39)
    · exact law_no a0 a1 a2 w h1 hno
    · obtain ⟨i, rfl, hi, hq⟩ : ∃ i : Nat, a1 = i ∧ i < a0.size ∧ (Bt a0 i = 34 ∨ Bt a0 i = 39) := by
        refine Classical.byContradiction fun hc => hno fun n hn hlt hq => hc ⟨n, hn, hlt, hq⟩
      have hb := strEnd_bd (B := Bt a0) hi
      obtain ⟨E, Ln, hE⟩ : ∃ E Ln, strEnd (Bt a0) a0.size i = (E, Ln) := ⟨_, _, rfl⟩
      rw [hE] at hb
      by_cases hk : a2 < E ∨ (a0.size : Int) < a2
      · exact law_out a0 i a2 E Ln w hi h1 hq hE hb.1 hb.2 hk
      · obtain ⟨k, rfl⟩ : ∃ k : Nat, a2 = k := ⟨a2.toNat, by omega⟩
        exact law_in a0 i k E Ln w hi h1 hq hE hb.1 hb.2 (by omega) (by omega)
  · exact law_far a0 a1 a2 w (by omega) h1

/-! ### THE ROW's STEP: WRITTEN OUT: LEAVE IT -/
set_option maxRecDepth 100000 in
theorem lifted (os : Os) (started : os.Started) (H : Type) (enc : TypeId × Value → H) :
    ReturnsInHanded {} Try.checked os 4 .any (Rows.fnStringEndReadsNothingPastEndSpec.pre6 enc Try.prog Try.f4 Rows.fnStringEndReadsNothingPastEndRow.domain false) (Rows.fnStringEndReadsNothingPastEndSpec.post enc Try.prog Try.f4 false true false false) := by
  refine returnsInHanded_of_change (C := Try.checked) own started (by kernel_rfl) Try.func4
    (ChangeSpec.witness6 (enc := enc) (C := Try.checked) false ⟨#[], #[.string ByteArray.empty, .int .i64 0, .int .i64 0], []⟩ 8 (by kernel_rfl) (by kernel_rfl) (by kernel_rfl) (by kernel_rfl)) ?_
  intro W base args ds gs before hval0 hW hcnd _
  have hval : ∀ (j : Nat) t v, Try.f4.params[j]? = some t → args[j]? = some v → Value.okWide Try.prog W .any base t v := hval0
  have hW' := hW
  obtain ⟨p, q, hA0, hV, rfl, hfz, hnd⟩ := hW
  have hA : DataW.TrodAll enc Try.prog W 0 (fun _ => true) true Try.f4.params.toList args.toList ds p := hA0
  rw [Try.params4] at hA hval
  obtain ⟨v0, vs0, d0, ds0, p0, q0, hargs, rfl, rfl, h0, r0⟩ := trodAll_cons hA
  obtain ⟨v1, vs1, d1, ds1, p1, q1, rfl, rfl, rfl, h1, r1⟩ := trodAll_cons r0
  obtain ⟨v2, vs2, d2, ds2, p2, q2, rfl, rfl, rfl, h2, r2⟩ := trodAll_cons r1
  obtain ⟨rfl, rfl, rfl⟩ := trodAll_nil r2
  obtain rfl : args = #[v0, v1, v2] := by cases args; simp_all
  obtain ⟨rfl, rfl⟩ := trodVars_none hV
  obtain ⟨a0, rfl, rfl, rfl, w0⟩ := open_string Try.underlying9 (hval 0 9 v0 rfl rfl) h0
  obtain ⟨a1, rfl, rfl, rfl, w1⟩ := open_int Try.underlying3 (hval 1 3 v1 rfl rfl) h1
  obtain ⟨a2, rfl, rfl, rfl, w2⟩ := open_int Try.underlying3 (hval 2 3 v2 rfl rfl) h2
  clear hA0 hval0
  refine (walk a0 a1 a2 w0 W).mono fun e W' ⟨he, bel⟩ => ?_
  subst he
  exact ⟨_, rfl, _, _, _, [], _, [], hW', trodAll_mk1 (shut_bool Try.underlying4 _), (trodAll_cons_mk (shut_string Try.underlying9 w0) (trodAll_cons_mk (shut_int Try.underlying3 w1) (trodAll_cons_mk (shut_int Try.underlying3 w2) trodAll_mk0))), rfl, bel.frame _, fun h => by cases h⟩

theorem over : Rows.fnStringEndReadsNothingPastEndRow.holds Try.pinned (OpenSpec.ofChange Rows.fnStringEndReadsNothingPastEndSpec) :=
  OpenClaim.holds_of_wide 4 Try.f4 rfl rfl rfl rfl rfl rfl rfl ⟨rfl, rfl, rfl, rfl, rfl⟩ rfl rfl rfl rfl rfl (by kernel_rfl) Try.func4 (by kernel_rfl)
    (of_decide_eq_true (by kernel_rfl)) (by unfold Func.isWrapper; first | (rw [if_pos (by decide +kernel)]; kernel_rfl) | (rw [if_neg (by decide +kernel)]; exact ⟨rfl, rfl⟩))
    (fun os started H enc _ => lifted os started H enc)

/-- ████ THE STATEMENT ████ -/
theorem proved : Rows.FnStringEndReadsNothingPastEndSaid :=
  over
#print axioms proved
end Go.Proofs.Qxb6601240a.fnStringEndReadsNothingPastEnd
