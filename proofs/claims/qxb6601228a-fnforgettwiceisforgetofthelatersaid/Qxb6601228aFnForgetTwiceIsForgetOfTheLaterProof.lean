import Derived.Test.Qxb6601228aLaw
import Derived.WalkKit
import Derived.ProofKit
import Derived.OpenShut
import Derived.ShutString
import Derived.ChangeOld
import Derived.Below
import Derived.Deep.Slices
namespace Go.Proofs.Qxb6601228a.fnForgetTwiceIsForgetOfTheLater
open Go.ChangeShapes Go.WideShapes Go.ChangeAt Go.RowKit
set_option linter.unusedVariables false

theorem own : ownKnob Try.prog.godebug = none := by kernel_rfl
theorem laidOut : laidOutB Try.prog = true := by kernel_rfl
theorem cells27 : Try.prog.cellsOf 27 = 16 := by kernel_rfl

/-- an array of sixteen bytes, as the reader reads it -/
theorem bytes_of {H : Type} {enc : TypeId × Value → H} {W : World} {fuel : Nat} {cs : List Value} {x : DataW H × List MemPlace} (h : DataW.trod enc Try.prog W 0 (fun _ => true) true fuel 27 cs = some x) :
    cs.length = 16 ∧ ∀ v ∈ cs, IsByte v := by
  obtain ⟨xs, m, rfl, rfl, hl, hn, hel⟩ := DataW.trod_array und27 h
  rw [cells27] at hl
  refine ⟨hl, fun v hv => ?_⟩
  obtain ⟨j, hj, rfl⟩ := List.getElem_of_mem hv
  have h1 := hel j (by omega)
  rw [cells5, Nat.mul_one, List.getElem?_eq_getElem (by omega)] at h1
  obtain ⟨z, hz, _⟩ := DataW.trod_int Try.underlying5 h1
  refine ⟨z, ?_⟩
  have : ((cs.drop j).take 1)[0]? = some (.int .u8 z) := by rw [hz]; rfl
  simp [hj] at this
  exact this

theorem open_arrays {H : Type} {enc : TypeId × Value → H} {W : World} {fuel : Nat} {v : Option Addr} {n c : Nat} {x : DataW H × List MemPlace} (h : DataW.trod enc Try.prog W 0 (fun _ => true) true fuel 22 [.slice v n c] = some x) :
    (v = none → n = 0 ∧ c = 0) ∧ ∃ A, Ok16 n A ∧ Src W v n A := by
  rcases Go.Deep.open_slice Try.underlying22 h with ⟨hcs, _⟩ | ⟨a, len, cap, m, k, D, Pl, hcs, _, hl, _, hm, _, hx⟩
  · simp at hcs
    obtain ⟨rfl, rfl, rfl⟩ := hcs
    exact ⟨fun _ => ⟨rfl, rfl⟩, fun _ => [], fun i hi => absurd hi (Nat.not_lt_zero _), fun hp => absurd hp (Nat.lt_irrefl _)⟩
  · simp at hcs
    obtain ⟨rfl, rfl, rfl⟩ := hcs
    refine ⟨fun e => by simp at e, ?_⟩
    rw [cells27] at hx
    simp only [if_true] at hm
    obtain ⟨A, hA⟩ := Go.Deep.choose_lt (α := List Value) (n := n) (p := fun i cs' => W.cells? 0 (a.add (i * 16)) 16 = some cs' ∧ cs'.length = 16 ∧ ∀ v ∈ cs', IsByte v) (fun i hi => by
      obtain ⟨cs', h1, h2⟩ := hx i (by omega)
      exact ⟨cs', h1, bytes_of h2⟩)
    refine ⟨A, fun i hi => (hA i hi).2, fun hp => ?_⟩
    obtain ⟨b, off, sp⟩ := a
    have h0 := (World.cells?_some (hA 0 hp).1).2.2 0 (by omega)
    rw [List.getElem?_eq_getElem (by rw [(hA 0 hp).2.1]; omega)] at h0
    have hsp : sp = none := by simpa [Addr.add] using World.cell?_spot h0
    subst hsp
    refine ⟨b, off, rfl, ?_, fun i hi j u hu => ?_⟩
    · exact World.block_lt_of_cell? W _ (by simpa [Addr.add] using h0)
    · have hj : j < 16 := by have := (List.getElem?_eq_some_iff.1 hu).1; rw [(hA i hi).2.1] at this; exact this
      have := (World.cells?_some (hA i hi).1).2.2 j hj
      rw [Addr.add_mid, Addr.add_mid, hu, Nat.mul_comm i 16] at this
      exact this

/-! ### the row's step -/
set_option maxRecDepth 100000 in
theorem lifted (os : Os) (started : os.Started) (H : Type) (enc : TypeId × Value → H) :
    ReturnsInHanded {} Try.checked os 6 .any (Rows.fnForgetTwiceIsForgetOfTheLaterSpec.pre6 enc Try.prog Try.f6 Rows.fnForgetTwiceIsForgetOfTheLaterRow.domain false) (Rows.fnForgetTwiceIsForgetOfTheLaterSpec.post enc Try.prog Try.f6 false true false false) := by
  refine returnsInHanded_of_change (C := Try.checked) own started (by kernel_rfl) Try.func6
    (ChangeSpec.witness6 (enc := enc) (C := Try.checked) false ⟨#[], #[.int .i64 0, .slice none 0 0, .int .i64 0, .int .i64 0], []⟩ 8 (by kernel_rfl) (by kernel_rfl) (by kernel_rfl) (by kernel_rfl)) ?_
  intro W base args ds gs before hval0 hW hcnd _
  have hval : ∀ (j : Nat) t v, Try.f6.params[j]? = some t → args[j]? = some v → Value.okWide Try.prog W .any base t v := hval0
  have hW' := hW
  obtain ⟨p, q, hA0, hV, rfl, hfz, hnd⟩ := hW
  have hA : DataW.TrodAll enc Try.prog W 0 (fun _ => true) true Try.f6.params.toList args.toList ds p := hA0
  rw [Try.params6] at hA hval
  obtain ⟨v0, vs0, d0, ds0, p0, q0, hargs, rfl, rfl, h0, r0⟩ := trodAll_cons hA
  obtain ⟨v1, vs1, d1, ds1, p1, q1, rfl, rfl, rfl, h1, r1⟩ := trodAll_cons r0
  obtain ⟨v2, vs2, d2, ds2, p2, q2, rfl, rfl, rfl, h2, r2⟩ := trodAll_cons r1
  obtain ⟨v3, vs3, d3, ds3, p3, q3, rfl, rfl, rfl, h3, r3⟩ := trodAll_cons r2
  obtain ⟨rfl, rfl, rfl⟩ := trodAll_nil r3
  obtain rfl : args = #[v0, v1, v2, v3] := by cases args; simp_all
  obtain ⟨rfl, rfl⟩ := trodVars_none hV
  obtain ⟨a0, rfl, rfl, rfl, w0⟩ := open_int Try.underlying2 (hval 0 2 v0 rfl rfl) h0
  obtain ⟨a1, len1, cap1, rfl⟩ := okWide_slice Try.underlying22 (hval 1 22 v1 rfl rfl)
  have k1 := h1
  have lt1 : ∀ x ∈ p1, x.block < W.heap.size := by obtain ⟨m, hm⟩ := k1; exact DataW.trod_lt m _ _ _ hm
  obtain ⟨hnil, A, okA, src⟩ : (a1 = none → len1 = 0 ∧ cap1 = 0) ∧ ∃ A, Ok16 len1 A ∧ Src W a1 len1 A := by
    obtain ⟨fuel, hf⟩ := h1
    exact open_arrays hf
  obtain ⟨a2, rfl, rfl, rfl, w2⟩ := open_int Try.underlying2 (hval 2 2 v2 rfl rfl) h2
  obtain ⟨a3, rfl, rfl, rfl, w3⟩ := open_int Try.underlying2 (hval 3 2 v3 rfl rfl) h3
  clear hA0 hval0
  have bd := bounds_i64 w0
  refine (law_any a0 a2 a3 a1 len1 cap1 A W okA hnil src (by omega)).mono fun e W' ⟨he, bel⟩ => ?_
  subst he
  exact ⟨_, rfl, _, _, _, [], _, [], hW', trodAll_mk1 (shut_bool Try.underlying4 _), (trodAll_cons_mk (shut_int Try.underlying2 w0) (trodAll_cons_mk (Below.trod laidOut (by kernel_rfl) (of_decide_eq_true (by kernel_rfl)) k1 bel lt1) (trodAll_cons_mk (shut_int Try.underlying2 w2) (trodAll_cons_mk (shut_int Try.underlying2 w3) trodAll_mk0)))), rfl, bel.frame _, fun h => by cases h⟩

theorem over : Rows.fnForgetTwiceIsForgetOfTheLaterRow.holds Try.pinned (OpenSpec.ofChange Rows.fnForgetTwiceIsForgetOfTheLaterSpec) :=
  OpenClaim.holds_of_wide 6 Try.f6 rfl rfl rfl rfl rfl rfl rfl ⟨rfl, rfl, rfl, rfl, rfl⟩ rfl rfl rfl rfl rfl (by kernel_rfl) Try.func6 (by kernel_rfl)
    (of_decide_eq_true (by kernel_rfl)) (by unfold Func.isWrapper; first | (rw [if_pos (by decide +kernel)]; kernel_rfl) | (rw [if_neg (by decide +kernel)]; exact ⟨rfl, rfl⟩))
    (fun os started H enc _ => lifted os started H enc)

/-- THE STATEMENT -/
theorem proved : Rows.FnForgetTwiceIsForgetOfTheLaterSaid :=
  over
#print axioms proved
end Go.Proofs.Qxb6601228a.fnForgetTwiceIsForgetOfTheLater
