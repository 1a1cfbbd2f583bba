import Derived.Test.Qxb6001654aApp
import Derived.Deep.QuietTactic
import Derived.BigQuiet
namespace Go.Proofs.Qxb6001654a
open Go.RowKit Plain
set_option linter.unusedVariables false

/-- what compareB1 leaves -/
def CmpPost (L M : List Int) (w : World) (e : Ending) (w' : World) : Prop := e = .returned (.int .i64 (cmp L M)) ∧ ∃ q, w' = w.drewN q

theorem post0 {L M : List Int} {w : World} {x : Int} {q : Nat} {v : Value} (h : cmp L M = x) (hv : v = .int .i64 x) : CmpPost L M w (.returned v) (w.drewN q) := ⟨by rw [hv, h], q, rfl⟩
theorem post1 {L M : List Int} {w : World} {x : Int} {q r : Nat} {v : Value} (h : cmp L M = x) (hv : v = .int .i64 x) : CmpPost L M w (.returned v) ((w.drewN q).drewN r) := ⟨by rw [hv, h], q + r, by simp only [World.drewN_drewN]⟩
theorem post2 {L M : List Int} {w : World} {x : Int} {q r t : Nat} {v : Value} (h : cmp L M = x) (hv : v = .int .i64 x) : CmpPost L M w (.returned v) (((w.drewN q).drewN r).drewN t) :=
  ⟨by rw [hv, h], q + r + t, by simp only [World.drewN_drewN]⟩

set_option maxHeartbeats 1000000 in
theorem cmp_lt (g1 g2 c1 c2 n m : Nat) (L M : List Int) (w : World) (hn : n = L.length) (hm : m = M.length) (hl : n ≤ 9) (hl2 : m ≤ 9)
    (h1 : ∀ k (h : k < L.length), w.cell? ⟨g1, k, none⟩ = some (.int .u8 L[k])) (h2 : ∀ k (h : k < M.length), w.cell? ⟨g2, k, none⟩ = some (.int .u8 M[k])) (hc : m < n) :
    Calls Try.prog 12 #[.slice (some ⟨g1, 0, none⟩) n c1, .slice (some ⟨g2, 0, none⟩) m c2] w fun e w' => CmpPost L M w e w' := by
  have HN : Hid (n = L.length ∧ m = M.length) := ⟨hn, hm⟩
  have H1 : Hid (∀ k (h : k < L.length), w.cell? ⟨g1, k, none⟩ = some (.int .u8 L[k])) := h1
  have H2 : Hid (∀ k (h : k < M.length), w.cell? ⟨g2, k, none⟩ = some (.int .u8 M[k])) := h2
  clear h1 h2 hn hm
  go_enter Try.func12, Try.ntmps12
  go_wp2
  go_loopw [6] (fun i wr => ∃ k q : Nat, k ≤ n ∧ k ≤ m ∧ i = .int .i64 k ∧ wr = w.drewN q ∧ L.take k = M.take k) (fun i _ => m - (intOf i).toNat)
  case atStart => exact ⟨0, 0, Nat.zero_le _, Nat.zero_le _, rfl, rfl, rfl⟩
  case round =>
    obtain ⟨k, q, hk1, hk2, rfl, rfl, ht⟩ := hrel
    have HT : Hid (L.take k = M.take k) := ht
    clear ht
    by_cases hlt : k < m
    · have hkL : k < L.length := by have := HN.out.1; omega
      have hkM : k < M.length := by have := HN.out.2; omega
      have e1 := H1.out k hkL
      have e2 := H2.out k hkM
      have HL : Hid (∀ x y, L[k]'hkL = x → M[k]'hkM = y → (x < y → cmp L M = -1) ∧ (y < x → cmp L M = 1) ∧ (x = y → L.take (k + 1) = M.take (k + 1))) := fun x y hx hy =>
        ⟨fun h => cmp_at_lt hkL hkM HT.out (by omega), fun h => cmp_at_gt hkL hkM HT.out (by omega), fun h => take_next hkL hkM HT.out (by omega)⟩
      obtain ⟨x, hx⟩ : ∃ x, L[k]'hkL = x := ⟨_, rfl⟩
      obtain ⟨y, hy⟩ : ∃ y, M[k]'hkM = y := ⟨_, rfl⟩
      rw [hx] at e1
      rw [hy] at e2
      have HX := HL.out x y hx hy
      have HX' : Hid ((x < y → cmp L M = -1) ∧ (y < x → cmp L M = 1) ∧ (x = y → L.take (k + 1) = M.take (k + 1))) := HX
      clear HX hx hy HL hkL hkM
      have i1 : (k : Int) < (n : Int) := by omega
      have i2 : (k : Int) < (m : Int) := by omega
      rcases Int.lt_trichotomy x y with hxy | hxy | hxy
      · go_wp2
        go_quiet (fail)
        go_wp2
        go_ret
        exact post1 (HX'.out.1 hxy) rfl
      · subst hxy
        go_wp2
        go_quiet (fail)
        go_wp2
        go_quiet (fail)
        go_wp2
        go_roundw
        case rel => exact ⟨k + 1, _, by omega, by omega, by go_num, rfl, HX'.out.2.2 trivial⟩
        case measure => simp [intOf]; omega
      · have hyx : ¬ x < y := by omega
        go_wp2
        go_quiet (fail)
        go_wp2
        go_quiet (fail)
        go_wp2
        go_ret
        exact post2 (HX'.out.2.1 hxy) rfl
    · have hend := cmp_end (k := k) (a := L) (b := M) (by have := HN.out.1; omega) (by have := HN.out.2; omega) HT.out (by have := HN.out; omega)
      rw [← HN.out.1, ← HN.out.2] at hend
      have HE : Hid (cmp L M = if n < m then -1 else if m < n then 1 else 0) := hend
      clear hend
      go_wp2
      go_ret
      exact post0 (HE.out.trans (by rw [if_neg (by omega), if_pos (by omega)])) rfl

set_option maxHeartbeats 1000000 in
theorem cmp_ge (g1 g2 c1 c2 n m : Nat) (L M : List Int) (w : World) (hn : n = L.length) (hm : m = M.length) (hl : n ≤ 9) (hl2 : m ≤ 9)
    (h1 : ∀ k (h : k < L.length), w.cell? ⟨g1, k, none⟩ = some (.int .u8 L[k])) (h2 : ∀ k (h : k < M.length), w.cell? ⟨g2, k, none⟩ = some (.int .u8 M[k])) (hc : ¬ m < n) :
    Calls Try.prog 12 #[.slice (some ⟨g1, 0, none⟩) n c1, .slice (some ⟨g2, 0, none⟩) m c2] w fun e w' => CmpPost L M w e w' := by
  have HN : Hid (n = L.length ∧ m = M.length) := ⟨hn, hm⟩
  have H1 : Hid (∀ k (h : k < L.length), w.cell? ⟨g1, k, none⟩ = some (.int .u8 L[k])) := h1
  have H2 : Hid (∀ k (h : k < M.length), w.cell? ⟨g2, k, none⟩ = some (.int .u8 M[k])) := h2
  clear h1 h2 hn hm
  go_enter Try.func12, Try.ntmps12
  go_wp2
  go_loopw [6] (fun i wr => ∃ k q : Nat, k ≤ n ∧ k ≤ m ∧ i = .int .i64 k ∧ wr = w.drewN q ∧ L.take k = M.take k) (fun i _ => n - (intOf i).toNat)
  case atStart => exact ⟨0, 0, Nat.zero_le _, Nat.zero_le _, rfl, rfl, rfl⟩
  case round =>
    obtain ⟨k, q, hk1, hk2, rfl, rfl, ht⟩ := hrel
    have HT : Hid (L.take k = M.take k) := ht
    clear ht
    by_cases hlt : k < n
    · have hkL : k < L.length := by have := HN.out.1; omega
      have hkM : k < M.length := by have := HN.out.2; omega
      have e1 := H1.out k hkL
      have e2 := H2.out k hkM
      have HL : Hid (∀ x y, L[k]'hkL = x → M[k]'hkM = y → (x < y → cmp L M = -1) ∧ (y < x → cmp L M = 1) ∧ (x = y → L.take (k + 1) = M.take (k + 1))) := fun x y hx hy =>
        ⟨fun h => cmp_at_lt hkL hkM HT.out (by omega), fun h => cmp_at_gt hkL hkM HT.out (by omega), fun h => take_next hkL hkM HT.out (by omega)⟩
      obtain ⟨x, hx⟩ : ∃ x, L[k]'hkL = x := ⟨_, rfl⟩
      obtain ⟨y, hy⟩ : ∃ y, M[k]'hkM = y := ⟨_, rfl⟩
      rw [hx] at e1
      rw [hy] at e2
      have HX := HL.out x y hx hy
      have HX' : Hid ((x < y → cmp L M = -1) ∧ (y < x → cmp L M = 1) ∧ (x = y → L.take (k + 1) = M.take (k + 1))) := HX
      clear HX hx hy HL hkL hkM
      have i1 : (k : Int) < (n : Int) := by omega
      have i2 : (k : Int) < (m : Int) := by omega
      rcases Int.lt_trichotomy x y with hxy | hxy | hxy
      · go_wp2
        go_quiet (fail)
        go_wp2
        go_ret
        exact post1 (HX'.out.1 hxy) rfl
      · subst hxy
        go_wp2
        go_quiet (fail)
        go_wp2
        go_quiet (fail)
        go_wp2
        go_roundw
        case rel => exact ⟨k + 1, _, by omega, by omega, by go_num, rfl, HX'.out.2.2 trivial⟩
        case measure => simp [intOf]; omega
      · have hyx : ¬ x < y := by omega
        go_wp2
        go_quiet (fail)
        go_wp2
        go_quiet (fail)
        go_wp2
        go_ret
        exact post2 (HX'.out.2.1 hxy) rfl
    · have hend := cmp_end (k := k) (a := L) (b := M) (by have := HN.out.1; omega) (by have := HN.out.2; omega) HT.out (by have := HN.out; omega)
      rw [← HN.out.1, ← HN.out.2] at hend
      have HE : Hid (cmp L M = if n < m then -1 else if m < n then 1 else 0) := hend
      clear hend
      by_cases hnm : n < m
      · go_wp2
        go_ret
        exact post0 (HE.out.trans (by rw [if_pos (by omega)])) rfl
      · go_wp2
        go_ret
        exact post0 (HE.out.trans (by rw [if_neg (by omega), if_neg (by omega)])) rfl

theorem cmp_any (g1 g2 c1 c2 n m : Nat) (L M : List Int) (w : World) (hn : n = L.length) (hm : m = M.length) (hl : n ≤ 9) (hl2 : m ≤ 9)
    (h1 : ∀ k (h : k < L.length), w.cell? ⟨g1, k, none⟩ = some (.int .u8 L[k])) (h2 : ∀ k (h : k < M.length), w.cell? ⟨g2, k, none⟩ = some (.int .u8 M[k])) :
    Calls Try.prog 12 #[.slice (some ⟨g1, 0, none⟩) n c1, .slice (some ⟨g2, 0, none⟩) m c2] w fun e w' => CmpPost L M w e w' := by
  by_cases hc : m < n
  · exact cmp_lt g1 g2 c1 c2 n m L M w hn hm hl hl2 h1 h2 hc
  · exact cmp_ge g1 g2 c1 c2 n m L M w hn hm hl hl2 h1 h2 hc

end Go.Proofs.Qxb6001654a
