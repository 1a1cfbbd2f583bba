import Derived.Test.Qxb6601240aRows
import Derived.Test.Qxb6601240aShelf
import Derived.Test.Qxb6601240aPlainB
import Derived.WalkKit
import Derived.WalkSpells
import Derived.WalkLawsBesides
namespace Go.Proofs.Qxb6601240a
open Go.RowKit Plain
set_option linter.unusedVariables false

/-- the bytes of a text, by their place -/
def Bt (s : ByteArray) (k : Nat) : Nat := (s.data.toList.getD k 0).toNat

theorem size_list (s : ByteArray) : s.data.toList.length = s.size := by cases s; rfl

theorem bt_at (s : ByteArray) (k : Nat) (h : k < s.size) : (s[k]'h).toNat = Bt s k := by
  unfold Bt
  have hl : k < s.data.toList.length := by rw [size_list]; exact h
  rw [List.getD_eq_getElem?_getD, List.getElem?_eq_getElem hl]
  rfl

theorem bt_lt (s : ByteArray) (k : Nat) : Bt s k < 256 := by unfold Bt; exact UInt8.toNat_lt _

/-- 's[j]' -/
theorem run_ix (s : ByteArray) (j : Nat) (h : j < s.size) (w : World) : (Instr.index 9 (.string s) (.int .i64 (j : Int))).run Try.prog w = .ok (.int .u8 (Bt s j : Int)) w := by
  rw [run_index_string w 9 s .i64 (j : Int) Try.underlying9, dif_pos ⟨by omega, by omega⟩]
  congr 3
  exact_mod_cast bt_at s j h

/-- the byte of a text of one byte -/
theorem run_ix0 (b : UInt8) (w : World) : (Instr.index 9 (.string ⟨#[b]⟩) (.int .i64 0)).run Try.prog w = .ok (.int .u8 (b.toNat : Int)) w := by
  rw [run_index_string w 9 ⟨#[b]⟩ .i64 0 Try.underlying9, dif_pos ⟨by omega, by show (0 : Int) < ((1 : Nat) : Int); omega⟩]
  rfl

/-- 's[i:i+1]' -/
theorem run_quote (s : ByteArray) (i : Nat) (h : i < s.size) : s.extract i (i + 1) = ⟨#[s.data.toList.getD i 0]⟩ := by
  rw [Lib.extract_eq]
  have hl : i < s.data.toList.length := by rw [size_list]; exact h
  rw [List.drop_eq_getElem_cons hl, show i + 1 - i = 1 by omega, List.take_succ_cons, List.take_zero, List.getD_eq_getElem?_getD, List.getElem?_eq_getElem hl]
  rfl

/-- a run of b at j -/
theorem prefix_run (s : ByteArray) (b : UInt8) : ∀ (L j : Nat), Lib.hasPrefix (s.data.toList.drop j) (List.replicate L b) = decide (L ≤ rn (Bt s) s.size b.toNat j)
  | 0, j => by simp [Lib.hasPrefix]
  | L + 1, j => by
    have hs := size_list s
    by_cases hj : j < s.size
    · have hl : j < s.data.toList.length := by omega
      have ih := prefix_run s b L (j + 1)
      unfold Lib.hasPrefix at ih ⊢
      rw [List.drop_eq_getElem_cons hl, List.replicate_succ, List.isPrefixOf, ih]
      have hb : Bt s j = (s.data.toList[j]).toNat := by unfold Bt; rw [List.getD_eq_getElem?_getD, List.getElem?_eq_getElem hl]; rfl
      by_cases e : b = s.data.toList[j]
      · rw [rn_hit hj (by rw [hb, ← e])]
        simp [e]
      · have e2 : ¬ Bt s j = b.toNat := fun h => e (by apply UInt8.toNat_inj.1; omega)
        have e3 : (b == s.data.toList[j]) = false := by simpa using e
        rw [rn_miss e2, e3]
        simp
    · rw [rn_end hj, List.drop_of_length_le (by omega)]
      simp [Lib.hasPrefix, List.replicate_succ]

/-- strings.Repeat(quote, 3) -/
theorem rep3 (b : UInt8) (w : World) : Calls Try.prog 23 #[.string ⟨#[b]⟩, .int .i64 3] w fun e w' => e = .returned (.string ⟨#[b, b, b]⟩) ∧ Below w.heap.size w w' := by
  have h := Try.strings_Repeat_main ⟨#[b]⟩ 3 w (by omega) (by omega) (by show 1 * 3 ≤ _; omega) (by show 0 < 1; omega)
  exact h.mono fun e w' ⟨h1, h2⟩ => ⟨h1, h2⟩

/-- strings.HasPrefix(text[j:], closing) -/
theorem hp (s : ByteArray) (b : UInt8) (L j : Nat) (p : ByteArray) (hp : p.data.toList = List.replicate L b) (w : World) :
    Calls Try.prog 22 #[.string (s.extract j s.size), .string p] w fun e w' => e = .returned (.bool (decide (L ≤ rn (Bt s) s.size b.toNat j))) ∧ w = w' := by
  refine (Try.strings_HasPrefix (s.extract j s.size) p w).mono fun e w' ⟨h1, h2⟩ => ⟨?_, h2.symm⟩
  rw [h1, hp, Lib.extract_data, ← prefix_run]
  congr 3
  rw [List.take_of_length_le (by rw [List.length_drop, size_list]; omega)]

theorem hp_yes (s : ByteArray) (b : UInt8) (L j : Nat) (p : ByteArray) (hp' : Hid (p.data.toList = List.replicate L b)) (h : Hid (L ≤ rn (Bt s) s.size b.toNat j)) (w : World) :
    Calls Try.prog 22 #[.string (s.extract j s.size), .string p] w fun e w' => e = .returned (.bool true) ∧ w = w' := by
  have := hp s b L j p hp' w
  rwa [decide_eq_true (show L ≤ rn (Bt s) s.size b.toNat j from h)] at this
theorem hp_no (s : ByteArray) (b : UInt8) (L j : Nat) (p : ByteArray) (hp' : Hid (p.data.toList = List.replicate L b)) (h : Hid (¬ L ≤ rn (Bt s) s.size b.toNat j)) (w : World) :
    Calls Try.prog 22 #[.string (s.extract j s.size), .string p] w fun e w' => e = .returned (.bool false) ∧ w = w' := by
  have := hp s b L j p hp' w
  rwa [decide_eq_false (show ¬ L ≤ rn (Bt s) s.size b.toNat j from h)] at this

end Go.Proofs.Qxb6601240a
