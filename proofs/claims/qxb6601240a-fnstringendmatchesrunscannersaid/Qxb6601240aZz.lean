import Derived.Test.Qxb6601240aEnd3
namespace Go.Proofs.Qxb6601240a
open Go.RowKit Plain
set_option linter.unusedVariables false

/-- what ZZstringEnd leaves -/
def ZzPost (x y : Nat) (w : World) (e : Ending) (w' : World) : Prop := e = .returned (.tuple #[.int .i64 x, .int .i64 y]) ∧ Below w.heap.size w w'

theorem se_any (s : ByteArray) (i : Nat) (hi : i < s.size) (hn : s.size ≤ 1048576) (hq : Bt s i = 34 ∨ Bt s i = 39) (x y : Nat) (h : strEnd (Bt s) s.size i = (x, y)) (w : World) :
    Calls Try.prog 20 #[.string s, .int .i64 i] w fun e w' => ZzPost x y w e w' := by
  have key : Calls Try.prog 20 #[.string s, .int .i64 i] w fun e w' => SePost s i w e w' := by
    by_cases hw : 3 ≤ rn (Bt s) s.size (Bt s i) i
    · exact se3 s i hi hn hq w hw
    · exact se1 s i hi hn hq w hw
  refine key.mono fun e w' ⟨h1, h2⟩ => ⟨?_, h2⟩
  rw [h1, h]

set_option maxHeartbeats 400000 in
theorem zz_any (s : ByteArray) (i : Nat) (hi : i < s.size) (hn : s.size ≤ 1048576) (hq : Bt s i = 34 ∨ Bt s i = 39) (x y : Nat) (h : Hid (strEnd (Bt s) s.size i = (x, y))) (w : World) :
    Calls Try.prog 10 #[.string s, .int .i64 i] w fun e w' => ZzPost x y w e w' := by
  have key := fun w => se_any s i hi hn hq x y h.out w
  clear hq
  go_enter Try.func10, Try.ntmps10
  go_wp2_with fail
  refine (key _).mono ?_
  rintro e w1 ⟨rfl, hb⟩
  go_wp2
  go_ret2
  exact ⟨rfl, hb⟩

set_option maxHeartbeats 400000 in
theorem opens_yes (s : ByteArray) (i : Nat) (hi : i < s.size) (hq : Bt s i = 34 ∨ Bt s i = 39) (w : World) :
    Calls Try.prog 9 #[.string s, .int .i64 i] w fun e w' => e = .returned (.bool true) ∧ w = w' := by
  have ix := run_ix s i hi
  have hi' : (i : Int) < (s.size : Int) := by omega
  obtain ⟨c, hc⟩ : ∃ c : Int, c = (Bt s i : Int) := ⟨_, rfl⟩
  rw [← hc] at ix
  by_cases e34 : (c == 34) = true
  · clear hc hq
    go_enter Try.func9, Try.ntmps9
    go_wp2
    go_ret
    exact ⟨rfl, rfl⟩
  · have f34 : (c == 34) = false := by simpa using e34
    have e39 : (c == 39) = true := by simp at f34 ⊢; omega
    clear hc hq e34
    go_enter Try.func9, Try.ntmps9
    go_wp2
    go_ret
    exact ⟨rfl, rfl⟩

set_option maxHeartbeats 400000 in
theorem opens_no (s : ByteArray) (i : Int) (h : ∀ n : Nat, i = n → n < s.size → ¬ (Bt s n = 34 ∨ Bt s n = 39)) (w : World) :
    Calls Try.prog 9 #[.string s, .int .i64 i] w fun e w' => e = .returned (.bool false) ∧ w = w' := by
  by_cases h0 : 0 ≤ i
  · obtain ⟨n, rfl⟩ : ∃ n : Nat, i = n := ⟨i.toNat, by omega⟩
    by_cases hi : n < s.size
    · have ix := run_ix s n hi
      have hi' : (n : Int) < (s.size : Int) := by omega
      have hne := h n rfl hi
      obtain ⟨c, hc⟩ : ∃ c : Int, c = (Bt s n : Int) := ⟨_, rfl⟩
      rw [← hc] at ix
      have f34 : (c == 34) = false := by simp; omega
      have f39 : (c == 39) = false := by simp; omega
      clear hc hne h
      go_enter Try.func9, Try.ntmps9
      go_wp2
      go_ret
      exact ⟨rfl, rfl⟩
    · have hi' : ¬ (n : Int) < (s.size : Int) := by omega
      clear h
      go_enter Try.func9, Try.ntmps9
      go_wp2
      go_ret
      exact ⟨rfl, rfl⟩
  · clear h
    go_enter Try.func9, Try.ntmps9
    go_wp2
    go_ret
    exact ⟨rfl, rfl⟩

end Go.Proofs.Qxb6601240a
