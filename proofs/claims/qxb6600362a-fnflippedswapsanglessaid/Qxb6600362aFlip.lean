import Derived.Test.Qxb6600362aRows
import Derived.WalkKit
import Derived.WalkSpells
import Derived.WalkLawsBesides
namespace Go.Proofs.Qxb6600362a
open Go.RowKit
set_option linter.unusedVariables false

/-- what flipped gives -/
def flip (o : ByteArray) : ByteArray :=
  if (o.toList == [60]) = true then ⟨#[62]⟩ else if (o.toList == [60, 61]) = true then ⟨#[62, 61]⟩ else if (o.toList == [62]) = true then ⟨#[60]⟩ else if (o.toList == [62, 61]) = true then ⟨#[60, 61]⟩ else o

theorem tl1 (a : UInt8) : (ByteArray.mk #[a]).toList = [a] := by rw [ByteArray.toList_eq]
theorem tl2 (a b : UInt8) : (ByteArray.mk #[a, b]).toList = [a, b] := by rw [ByteArray.toList_eq]

theorem of_toList {o : ByteArray} {l : List UInt8} (h : (o.toList == l) = true) : o = ⟨l.toArray⟩ := by
  have h' : o.toList = l := by simpa using h
  rw [ByteArray.toList_eq] at h'
  obtain ⟨⟨x⟩⟩ := o
  subst h'
  rfl
theorem eq1 {o : ByteArray} {a : UInt8} (h : (o.toList == [a]) = true) : o = ⟨#[a]⟩ := of_toList h
theorem eq2 {o : ByteArray} {a b : UInt8} (h : (o.toList == [a, b]) = true) : o = ⟨#[a, b]⟩ := of_toList h

theorem flip_lt : flip ⟨#[60]⟩ = ⟨#[62]⟩ := by unfold flip; rw [tl1]; rfl
theorem flip_le : flip ⟨#[60, 61]⟩ = ⟨#[62, 61]⟩ := by unfold flip; rw [tl2]; rfl
theorem flip_gt : flip ⟨#[62]⟩ = ⟨#[60]⟩ := by unfold flip; rw [tl1]; rfl
theorem flip_ge : flip ⟨#[62, 61]⟩ = ⟨#[60, 61]⟩ := by unfold flip; rw [tl2]; rfl

theorem flip_flip (o : ByteArray) : flip (flip o) = o := by
  by_cases h1 : (o.toList == [60]) = true
  · rw [eq1 h1, flip_lt, flip_gt]
  · by_cases h2 : (o.toList == [60, 61]) = true
    · rw [eq2 h2, flip_le, flip_ge]
    · by_cases h3 : (o.toList == [62]) = true
      · rw [eq1 h3, flip_gt, flip_lt]
      · by_cases h4 : (o.toList == [62, 61]) = true
        · rw [eq2 h4, flip_ge, flip_le]
        · have : flip o = o := by unfold flip; rw [if_neg h1, if_neg h2, if_neg h3, if_neg h4]
          rw [this, this]

set_option maxHeartbeats 400000 in
theorem flipped_any (o : ByteArray) (w : World) : Calls Try.prog 18 #[.string o] w fun e w' => e = .returned (.string (flip o)) ∧ w = w' := by
  by_cases h1 : (o.toList == [60]) = true
  · have hf : Hid (flip o = ⟨#[62]⟩) := by rw [eq1 h1]; exact flip_lt
    go_enter Try.func18, Try.ntmps18
    go_wp2
    go_ret
    exact ⟨by rw [hf.out]; rfl, rfl⟩
  · by_cases h2 : (o.toList == [60, 61]) = true
    · have hf : Hid (flip o = ⟨#[62, 61]⟩) := by rw [eq2 h2]; exact flip_le
      have g1 : (o.toList == [60]) = false := by simpa using h1
      clear h1
      go_enter Try.func18, Try.ntmps18
      go_wp2
      go_ret
      exact ⟨by rw [hf.out]; rfl, rfl⟩
    · by_cases h3 : (o.toList == [62]) = true
      · have hf : Hid (flip o = ⟨#[60]⟩) := by rw [eq1 h3]; exact flip_gt
        have g1 : (o.toList == [60]) = false := by simpa using h1
        have g2 : (o.toList == [60, 61]) = false := by simpa using h2
        clear h1 h2
        go_enter Try.func18, Try.ntmps18
        go_wp2
        go_ret
        exact ⟨by rw [hf.out]; rfl, rfl⟩
      · by_cases h4 : (o.toList == [62, 61]) = true
        · have hf : Hid (flip o = ⟨#[60, 61]⟩) := by rw [eq2 h4]; exact flip_ge
          have g1 : (o.toList == [60]) = false := by simpa using h1
          have g2 : (o.toList == [60, 61]) = false := by simpa using h2
          have g3 : (o.toList == [62]) = false := by simpa using h3
          clear h1 h2 h3
          go_enter Try.func18, Try.ntmps18
          go_wp2
          go_ret
          exact ⟨by rw [hf.out]; rfl, rfl⟩
        · have hf : Hid (flip o = o) := by unfold flip; rw [if_neg h1, if_neg h2, if_neg h3, if_neg h4]; rfl
          have g1 : (o.toList == [60]) = false := by simpa using h1
          have g2 : (o.toList == [60, 61]) = false := by simpa using h2
          have g3 : (o.toList == [62]) = false := by simpa using h3
          have g4 : (o.toList == [62, 61]) = false := by simpa using h4
          clear h1 h2 h3 h4
          go_enter Try.func18, Try.ntmps18
          go_wp2
          go_ret
          exact ⟨by rw [hf.out]; rfl, rfl⟩

set_option maxHeartbeats 400000 in
theorem zz_any (o : ByteArray) (w : World) : Calls Try.prog 14 #[.string o] w fun e w' => e = .returned (.string (flip o)) ∧ w = w' := by
  go_enter Try.func14, Try.ntmps14
  go_wp2_with fail
  refine (flipped_any o _).mono ?_
  rintro e w' ⟨rfl, rfl⟩
  go_wp2
  go_ret
  exact ⟨rfl, rfl⟩

end Go.Proofs.Qxb6600362a
