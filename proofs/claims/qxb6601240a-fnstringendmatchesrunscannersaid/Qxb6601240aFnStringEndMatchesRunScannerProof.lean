/- The statement Rows.FnStringEndMatchesRunScannerSaid. The frame: the guide's skeleton. -/
import Derived.Test.Qxb6601240aZz
import Derived.Test.Qxb6601240aRuns
import Derived.WalkKit
import Derived.ProofKit
import Derived.OpenShut
import Derived.ShutString
import Derived.ChangeOld
import Derived.Below
namespace Go.Proofs.Qxb6601240a.fnStringEndMatchesRunScanner
open Go.ChangeShapes Go.WideShapes Go.ChangeAt Go.RowKit
open Go.ChangeMaps (open_string shut_string)
set_option linter.unusedVariables false      -- a walk need not use every 'w<i>' (that an integer argument fits its kind)

theorem own : ownKnob Try.prog.godebug = none := by kernel_rfl

/-! ### the walk -/
open Plain
theorem size_mid (s : ByteArray) (a b : Nat) (h1 : a ≤ b) (h : b ≤ s.size) : (s.extract a b).size = b - a := by
  rw [← size_list, Lib.extract_data, List.length_take, List.length_drop, size_list]; omega
theorem bt_mid (s : ByteArray) (a b x : Nat) (h : x < b - a) : Bt (s.extract a b) x = Bt s (a + x) := by
  unfold Bt
  rw [Lib.extract_data, List.getD_eq_getElem?_getD, List.getD_eq_getElem?_getD, List.getElem?_take_of_lt h, List.getElem?_drop]

set_option maxHeartbeats 400000 in
theorem bytes_any (o : ByteArray) (x : Int) (w : World) (h : o.size ≤ 9223372036854775807) : Calls Try.prog 8 #[.string o, .int .i64 x] w fun e w' => (e = .returned (.bool true) ∨ e = .returned (.bool false)) ∧ w = w' := by
  by_cases h1 : (o.size : Int) ≤ 1048576
  · go_enter Try.func8, Try.ntmps8
    go_wp2
    go_ret
    exact ⟨by simp, rfl⟩
  · go_enter Try.func8, Try.ntmps8
    go_wp2
    go_ret
    exact ⟨by simp, rfl⟩

set_option maxHeartbeats 400000 in
theorem law_far (s : ByteArray) (i : Int) (w : World) (h : s.size ≤ 9223372036854775807) (h1 : ¬ (s.size : Int) ≤ 1048576) :
    Calls Try.prog 3 #[.string s, .int .i64 i] w fun e w' => e = .returned (.bool true) ∧ Below w.heap.size w w' := by
  go_enter Try.func3, Try.ntmps3
  go_wp2_with fail
  refine (bytes_any s _ _ h).mono ?_
  rintro e w' ⟨hr, rfl⟩
  rcases hr with rfl | rfl
  all_goals
    go_wp2
    go_ret
    exact ⟨rfl, Below.refl _ _⟩

set_option maxHeartbeats 400000 in
theorem law_no (s : ByteArray) (i : Int) (w : World) (h1 : (s.size : Int) ≤ 1048576) (hno : ∀ n : Nat, i = n → n < s.size → ¬ (Bt s n = 34 ∨ Bt s n = 39)) :
    Calls Try.prog 3 #[.string s, .int .i64 i] w fun e w' => e = .returned (.bool true) ∧ Below w.heap.size w w' := by
  have ho := opens_no s i hno
  clear hno
  go_enter Try.func3, Try.ntmps3
  go_wp2_with fail
  refine (bytes_any s _ _ (by omega)).mono ?_
  rintro e w' ⟨hr, rfl⟩
  rcases hr with rfl | rfl
  · go_wp2_with fail
    refine (ho _).mono ?_
    rintro e w' ⟨rfl, rfl⟩
    go_wp2
    go_ret
    exact ⟨rfl, Below.refl _ _⟩
  · go_wp2
    go_ret
    exact ⟨rfl, Below.refl _ _⟩

theorem runs_any (s : ByteArray) (i : Nat) (hi : i < s.size) (hn : s.size ≤ 1048576) (hq : Bt s i = 34 ∨ Bt s i = 39) (E Ln : Nat) (hE : strEnd (Bt s) s.size i = (E, Ln)) (w : World) :
    Calls Try.prog 11 #[.string s, .int .i64 i] w fun e w' => e = .returned (.int .i64 (E : Nat)) ∧ w = w' := by
  have he : runsEnd (Bt s) s.size i = E := by rw [← strEnd_is_runs (by omega) (by omega), hE]
  by_cases hw : 3 ≤ rn (Bt s) s.size (Bt s i) i
  · have := runs3 s i hi hn hq w hw
    rwa [he] at this
  · have := runs1 s i hi hn hq w hw
    rwa [he] at this

theorem count_mid (s : ByteArray) (i : Nat) (hi : i < s.size) (hn : s.size ≤ 1048576) (hq : Bt s i = 34 ∨ Bt s i = 39) (E Ln : Nat) (hE : strEnd (Bt s) s.size i = (E, Ln)) (w : World) :
    Calls Try.prog 12 #[.string (s.extract i E)] w fun e w' => e = .returned (.int .i64 (Ln : Nat)) ∧ w = w' := by
  have hb := strEnd_bd (B := Bt s) hi
  have hl := strEnd_lines (B := Bt s) hi (by omega)
  rw [hE] at hb hl
  simp only at hb hl
  have sz := size_mid s i E (by omega) hb.2
  have h := count_any (s.extract i E) (by omega) w
  have e : cnt (Bt (s.extract i E)) 0 (s.extract i E).size = Ln := by
    rw [sz, hl]
    exact cnt_congr _ _ 0 i _ (fun k hk => by rw [Nat.zero_add]; exact bt_mid s i E k hk)
  rwa [e] at h

set_option maxHeartbeats 1000000 in
theorem law_in (s : ByteArray) (i E Ln : Nat) (w : World) (hi : i < s.size) (h1 : (s.size : Int) ≤ 1048576) (hq : Bt s i = 34 ∨ Bt s i = 39) (hE : Hid (strEnd (Bt s) s.size i = (E, Ln)))
    (hE1 : i < E) (hE2 : E ≤ s.size) :
    Calls Try.prog 3 #[.string s, .int .i64 i] w fun e w' => e = .returned (.bool true) ∧ Below w.heap.size w w' := by
  have ho := opens_yes s i hi hq
  have hz := zz_any s i hi (by omega) hq E Ln hE
  have hr2 := runs_any s i hi (by omega) hq E Ln hE.out
  have hc := count_mid s i hi (by omega) hq E Ln hE.out
  clear hq
  go_enter Try.func3, Try.ntmps3
  go_wp2_with fail
  refine (bytes_any s _ _ (by omega)).mono ?_
  rintro e w' ⟨hr, rfl⟩
  rcases hr with rfl | rfl
  · go_wp2_with fail
    refine (ho _).mono ?_
    rintro e w' ⟨rfl, rfl⟩
    go_wp2_with fail
    refine (hz _).mono ?_
    rintro e w1 ⟨rfl, hb⟩
    go_wp2_with fail
    refine (hr2 _).mono ?_
    rintro e w' ⟨rfl, rfl⟩
    go_wp2_with fail
    refine (hc _).mono ?_
    rintro e w' ⟨rfl, rfl⟩
    go_wp2
    go_ret
    exact ⟨rfl, hb⟩
  · go_wp2
    go_ret
    exact ⟨rfl, Below.refl _ _⟩

theorem walk (a0 : ByteArray) (a1 : Int) (w0 : a0.size ≤ maxLen) (w : World) :
    Calls Try.prog 3 #[.string a0, .int .i64 a1] w fun e w' => e = .returned (.bool true) ∧ Below w.heap.size w w' := by
  unfold maxLen at w0
  by_cases h1 : (a0.size : Int) ≤ 1048576
  · by_cases hno : ∀ n : Nat, a1 = n → n < a0.size → ¬ (Bt a0 n = 34 ∨ Bt a0 n = 39)
    · exact law_no a0 a1 w h1 hno
    · obtain ⟨i, rfl, hi, hq⟩ : ∃ i : Nat, a1 = i ∧ i < a0.size ∧ (Bt a0 i = 34 ∨ Bt a0 i = 39) := by
        refine Classical.byContradiction fun hc => hno fun n hn hlt hq => hc ⟨n, hn, hlt, hq⟩
      have hb := strEnd_bd (B := Bt a0) hi
      obtain ⟨E, Ln, hE⟩ : ∃ E Ln, strEnd (Bt a0) a0.size i = (E, Ln) := ⟨_, _, rfl⟩
      rw [hE] at hb
      exact law_in a0 i E Ln w hi h1 hq hE hb.1 hb.2
  · exact law_far a0 a1 w (by omega) h1

/-! ### THE ROW's STEP: WRITTEN OUT: LEAVE IT -/
set_option maxRecDepth 100000 in
theorem lifted (os : Os) (started : os.Started) (H : Type) (enc : TypeId × Value → H) :
    ReturnsInHanded {} Try.checked os 3 .any (Rows.fnStringEndMatchesRunScannerSpec.pre6 enc Try.prog Try.f3 Rows.fnStringEndMatchesRunScannerRow.domain false) (Rows.fnStringEndMatchesRunScannerSpec.post enc Try.prog Try.f3 false true false false) := by
  refine returnsInHanded_of_change (C := Try.checked) own started (by kernel_rfl) Try.func3
    (ChangeSpec.witness6 (enc := enc) (C := Try.checked) false ⟨#[], #[.string ByteArray.empty, .int .i64 0], []⟩ 8 (by kernel_rfl) (by kernel_rfl) (by kernel_rfl) (by kernel_rfl)) ?_
  intro W base args ds gs before hval0 hW hcnd _
  have hval : ∀ (j : Nat) t v, Try.f3.params[j]? = some t → args[j]? = some v → Value.okWide Try.prog W .any base t v := hval0
  have hW' := hW
  obtain ⟨p, q, hA0, hV, rfl, hfz, hnd⟩ := hW
  have hA : DataW.TrodAll enc Try.prog W 0 (fun _ => true) true Try.f3.params.toList args.toList ds p := hA0
  rw [Try.params3] at hA hval
  obtain ⟨v0, vs0, d0, ds0, p0, q0, hargs, rfl, rfl, h0, r0⟩ := trodAll_cons hA
  obtain ⟨v1, vs1, d1, ds1, p1, q1, rfl, rfl, rfl, h1, r1⟩ := trodAll_cons r0
  obtain ⟨rfl, rfl, rfl⟩ := trodAll_nil r1
  obtain rfl : args = #[v0, v1] := by cases args; simp_all
  obtain ⟨rfl, rfl⟩ := trodVars_none hV
  obtain ⟨a0, rfl, rfl, rfl, w0⟩ := open_string Try.underlying9 (hval 0 9 v0 rfl rfl) h0
  obtain ⟨a1, rfl, rfl, rfl, w1⟩ := open_int Try.underlying3 (hval 1 3 v1 rfl rfl) h1
  clear hA0 hval0
  refine (walk a0 a1 w0 W).mono fun e W' ⟨he, bel⟩ => ?_
  subst he
  exact ⟨_, rfl, _, _, _, [], _, [], hW', trodAll_mk1 (shut_bool Try.underlying4 _), (trodAll_cons_mk (shut_string Try.underlying9 w0) (trodAll_cons_mk (shut_int Try.underlying3 w1) trodAll_mk0)), rfl, bel.frame _, fun h => by cases h⟩

theorem over : Rows.fnStringEndMatchesRunScannerRow.holds Try.pinned (OpenSpec.ofChange Rows.fnStringEndMatchesRunScannerSpec) :=
  OpenClaim.holds_of_wide 3 Try.f3 rfl rfl rfl rfl rfl rfl rfl ⟨rfl, rfl, rfl, rfl, rfl⟩ rfl rfl rfl rfl rfl (by kernel_rfl) Try.func3 (by kernel_rfl)
    (of_decide_eq_true (by kernel_rfl)) (by unfold Func.isWrapper; first | (rw [if_pos (by decide +kernel)]; kernel_rfl) | (rw [if_neg (by decide +kernel)]; exact ⟨rfl, rfl⟩))
    (fun os started H enc _ => lifted os started H enc)

/-- ████ THE STATEMENT ████ -/
theorem proved : Rows.FnStringEndMatchesRunScannerSaid :=
  over
#print axioms proved
end Go.Proofs.Qxb6601240a.fnStringEndMatchesRunScanner
